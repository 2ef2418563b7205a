section
-- ===== PART A: goes FIRST, ahead of the names: the tables' words, and 'selects' of the private methods out of them =====
/-- a private method of a class that the tables say can be made, by its rows of tables_1 -/
def lw_okq (q : MethodName × Nat) : Prop := (q.1.cls ≠ "java/lang/invoke/MethodHandle" ∧ q.1.cls ≠ "java/lang/invoke/VarHandle") ∧ Cond.instantiable q.1.cls q.2 ∈ tables_1 ∧ Cond.privateMethod q.1 ∈ tables_1 ∧ Cond.instanceMethod q.1 ∈ tables_1
set_option maxRecDepth 100000
theorem lw_t1 {w : Cond} (h : w ∈ tables_1_1) : w ∈ tables_1 := List.mem_append_left _ h
theorem lw_t2 {w : Cond} (h : w ∈ tables_1_2) : w ∈ tables_1 := List.mem_append_right _ h
theorem lw_p0 : lw_okq (⟨"ShacalDesk", "run", "(ZI)V"⟩, 3) := ⟨⟨by decide +kernel, by decide +kernel⟩, lw_t1 (List.mem_of_getElem? (i := 15) rfl), lw_t1 (List.mem_of_getElem? (i := 49) rfl), lw_t1 (List.mem_of_getElem? (i := 50) rfl)⟩
theorem lw_p1 : lw_okq (⟨"java/lang/Throwable", "fillInStackTrace", "(I)Ljava/lang/Throwable;"⟩, 6) := ⟨⟨by decide +kernel, by decide +kernel⟩, lw_t1 (List.mem_of_getElem? (i := 135) rfl), lw_t1 (List.mem_of_getElem? (i := 133) rfl), lw_t1 (List.mem_of_getElem? (i := 134) rfl)⟩
theorem lw_p2 : lw_okq (⟨"Shacal2Engine", "bytes2ints", "([B[III)V"⟩, 2) := ⟨⟨by decide +kernel, by decide +kernel⟩, lw_t1 (List.mem_of_getElem? (i := 53) rfl), lw_t1 (List.mem_of_getElem? (i := 173) rfl), lw_t1 (List.mem_of_getElem? (i := 174) rfl)⟩
theorem lw_p3 : lw_okq (⟨"Shacal2Engine", "encryptBlock", "([BI[BI)V"⟩, 2) := ⟨⟨by decide +kernel, by decide +kernel⟩, lw_t1 (List.mem_of_getElem? (i := 53) rfl), lw_t2 (List.mem_of_getElem? (i := 0) rfl), lw_t2 (List.mem_of_getElem? (i := 1) rfl)⟩
theorem lw_p4 : lw_okq (⟨"Shacal2Engine", "byteBlockToInts", "([B[III)V"⟩, 2) := ⟨⟨by decide +kernel, by decide +kernel⟩, lw_t1 (List.mem_of_getElem? (i := 53) rfl), lw_t2 (List.mem_of_getElem? (i := 4) rfl), lw_t2 (List.mem_of_getElem? (i := 5) rfl)⟩
theorem lw_p5 : lw_okq (⟨"Shacal2Engine", "ints2bytes", "([I[BI)V"⟩, 2) := ⟨⟨by decide +kernel, by decide +kernel⟩, lw_t1 (List.mem_of_getElem? (i := 53) rfl), lw_t2 (List.mem_of_getElem? (i := 10) rfl), lw_t2 (List.mem_of_getElem? (i := 11) rfl)⟩
theorem lw_p6 : lw_okq (⟨"Shacal2Engine", "decryptBlock", "([BI[BI)V"⟩, 2) := ⟨⟨by decide +kernel, by decide +kernel⟩, lw_t1 (List.mem_of_getElem? (i := 53) rfl), lw_t2 (List.mem_of_getElem? (i := 14) rfl), lw_t2 (List.mem_of_getElem? (i := 15) rfl)⟩
theorem lw_p7 : lw_okq (⟨"ShacalDeskModel", "schedule", "()[I"⟩, 3) := ⟨⟨by decide +kernel, by decide +kernel⟩, lw_t2 (List.mem_of_getElem? (i := 30) rfl), lw_t2 (List.mem_of_getElem? (i := 58) rfl), lw_t2 (List.mem_of_getElem? (i := 59) rfl)⟩
theorem lw_p8 : lw_okq (⟨"ShacalDeskModel", "put", "(IIIIIIII)V"⟩, 3) := ⟨⟨by decide +kernel, by decide +kernel⟩, lw_t2 (List.mem_of_getElem? (i := 30) rfl), lw_t2 (List.mem_of_getElem? (i := 85) rfl), lw_t2 (List.mem_of_getElem? (i := 86) rfl)⟩
def lw_privs_1 : List (MethodName × Nat) := [(⟨"ShacalDesk", "run", "(ZI)V"⟩, 3), (⟨"java/lang/Throwable", "fillInStackTrace", "(I)Ljava/lang/Throwable;"⟩, 6), (⟨"Shacal2Engine", "bytes2ints", "([B[III)V"⟩, 2), (⟨"Shacal2Engine", "encryptBlock", "([BI[BI)V"⟩, 2), (⟨"Shacal2Engine", "byteBlockToInts", "([B[III)V"⟩, 2), (⟨"Shacal2Engine", "ints2bytes", "([I[BI)V"⟩, 2), (⟨"Shacal2Engine", "decryptBlock", "([BI[BI)V"⟩, 2), (⟨"ShacalDeskModel", "schedule", "()[I"⟩, 3), (⟨"ShacalDeskModel", "put", "(IIIIIIII)V"⟩, 3)]
theorem lw_r1 : ∀ q ∈ lw_privs_1, lw_okq q := List.forall_mem_cons.mpr ⟨lw_p0, List.forall_mem_cons.mpr ⟨lw_p1, List.forall_mem_cons.mpr ⟨lw_p2, List.forall_mem_cons.mpr ⟨lw_p3, List.forall_mem_cons.mpr ⟨lw_p4, List.forall_mem_cons.mpr ⟨lw_p5, List.forall_mem_cons.mpr ⟨lw_p6, List.forall_mem_cons.mpr ⟨lw_p7, List.forall_mem_cons.mpr ⟨lw_p8, fun _ h => absurd h List.not_mem_nil⟩⟩⟩⟩⟩⟩⟩⟩⟩
def lw_privs : List (MethodName × Nat) := lw_privs_1
def lw_tbl : List Cond := k2_sels lw_privs ++ tables_1
theorem lw_privs_ok : ∀ q ∈ lw_privs, lw_okq q := lw_r1
-- ===== ONE list of words for every method: the tables' words that hold all through a run =====
def lw_all : List Cond := lw_tbl.filter goodWord
/-- a word of the tables by its place: claim/WORDS.tsv -/
theorem lw_w {w : Cond} (i : Nat) (h : lw_tbl[i]? = some w) (g : goodWord w = true) : w ∈ lw_all := List.mem_filter.mpr ⟨List.mem_of_getElem? h, g⟩
theorem lw_all_tbl {w : Cond} (h : w ∈ lw_all) : w ∈ lw_tbl := (List.mem_filter.mp h).1
theorem lw_self : GoodIn lw_all lw_all := fun w h => ⟨h, good_of_word (List.mem_filter.mp h).2⟩
/-- a class's field words, by their places -/
theorem lw_in (ws : List Cond) (ps : List Nat) (hp : ws = ps.filterMap (fun i => lw_tbl[i]?)) (hg : ws.all goodWord = true) : ∀ w ∈ ws, w ∈ lw_all := by
  intro w h
  have h1 := List.all_eq_true.mp hg w h
  rw [hp] at h
  obtain ⟨i, -, hi⟩ := List.mem_filterMap.mp h
  exact lw_w i hi h1
/-- the words of a contract for the method y with code b, L locals, answer r -/
abbrev ws_ (y : MethodName) (b : ByteArray) (L : Nat) (r : Option FieldType) : List Cond := Cond.code y b L r :: lw_all
theorem lw_meth {y : MethodName} {b : ByteArray} {L : Nat} {r : Option FieldType} (h : Cond.code y b L r ∈ lw_all) : GoodIn lw_all (ws_ y b L r) := by
  intro w hw
  rcases List.mem_cons.mp hw with e | e
  · rw [e]
    exact lw_self _ h
  · exact lw_self _ e
theorem lw_app {a c : List Cond} (ha : ∀ w ∈ a, w ∈ lw_all) (hc : GoodIn lw_all c) : GoodIn lw_all (a ++ c) := by
  intro w hw
  rcases List.mem_append.mp hw with e | e
  · exact lw_self w (ha w e)
  · exact hc w e
/-- what a call through an object asks: cwV n hts (lw_V ..) -/
theorem lw_V {own : String} {idx : Nat} {C : String} {y : MethodName} {b : ByteArray} {L : Nat} {r : Option FieldType} (h1 : Cond.methodLink own idx y ∈ lw_all) (h2 : Cond.instanceMethod y ∈ lw_all) (h3 : Cond.selects C y y ∈ lw_all) (h4 : Cond.initialized C ∈ lw_all) (h5 : Cond.code y b L r ∈ lw_all) : GoodIn lw_all (wsV own idx C y (ws_ y b L r)) := by
  refine lw_app ?_ (lw_meth h5)
  intro w hw
  simp only [List.mem_cons, List.not_mem_nil, or_false] at hw
  rcases hw with e | e | e | e
  · rw [e]; exact h1
  · rw [e]; exact h2
  · rw [e]; exact h3
  · rw [e]; exact h4
/-- what a static call asks: va_cwS n hts (lw_S ..) -/
theorem lw_S {own : String} {idx : Nat} {y : MethodName} {b : ByteArray} {L : Nat} {r : Option FieldType} (h1 : Cond.methodLink own idx y ∈ lw_all) (h2 : Cond.static y ∈ lw_all) (h3 : Cond.initialized y.cls ∈ lw_all) (h4 : Cond.code y b L r ∈ lw_all) : GoodIn lw_all (va_wsS own idx y (ws_ y b L r)) := by
  refine lw_app ?_ (lw_meth h4)
  intro w hw
  simp only [List.mem_cons, List.not_mem_nil, or_false] at hw
  rcases hw with e | e | e
  · rw [e]; exact h1
  · rw [e]; exact h2
  · rw [e]; exact h3
/-- the words of a contract for a method WITH HANDLERS (hh: its table) -/
abbrev wsW_ (y : MethodName) (b : ByteArray) (L : Nat) (r : Option FieldType) (hh : List (Nat × Nat × Nat × Nat)) : List Cond := Cond.codeWith y b L r hh :: lw_all
theorem lw_methW {y : MethodName} {b : ByteArray} {L : Nat} {r : Option FieldType} {hh : List (Nat × Nat × Nat × Nat)} (h : Cond.codeWith y b L r hh ∈ lw_all) : GoodIn lw_all (wsW_ y b L r hh) := by
  intro w hw
  rcases List.mem_cons.mp hw with e | e
  · rw [e]
    exact lw_self _ h
  · exact lw_self _ e
/-- any list of words by their places (lw_in), good -/
theorem lw_good {ws : List Cond} (h : ∀ w ∈ ws, w ∈ lw_all) : GoodIn lw_all ws := fun w hw => lw_self w (h w hw)
/-- what a call of a method with handlers asks: vx_cwVW n hts (lw_VW ..), vx_cwSW n hts (lw_SW ..) -/
theorem lw_VW {own : String} {idx : Nat} {C : String} {y : MethodName} {b : ByteArray} {L : Nat} {r : Option FieldType} {hh : List (Nat × Nat × Nat × Nat)} (h1 : Cond.methodLink own idx y ∈ lw_all) (h2 : Cond.instanceMethod y ∈ lw_all) (h3 : Cond.selects C y y ∈ lw_all) (h4 : Cond.initialized C ∈ lw_all) (h5 : Cond.codeWith y b L r hh ∈ lw_all) : GoodIn lw_all (wsV own idx C y (wsW_ y b L r hh)) := by
  refine lw_app ?_ (lw_methW h5)
  intro w hw
  simp only [List.mem_cons, List.not_mem_nil, or_false] at hw
  rcases hw with e | e | e | e
  · rw [e]; exact h1
  · rw [e]; exact h2
  · rw [e]; exact h3
  · rw [e]; exact h4
theorem lw_SW {own : String} {idx : Nat} {y : MethodName} {b : ByteArray} {L : Nat} {r : Option FieldType} {hh : List (Nat × Nat × Nat × Nat)} (h1 : Cond.methodLink own idx y ∈ lw_all) (h2 : Cond.static y ∈ lw_all) (h3 : Cond.initialized y.cls ∈ lw_all) (h4 : Cond.codeWith y b L r hh ∈ lw_all) : GoodIn lw_all (va_wsS own idx y (wsW_ y b L r hh)) := by
  refine lw_app ?_ (lw_methW h4)
  intro w hw
  simp only [List.mem_cons, List.not_mem_nil, or_false] at hw
  rcases hw with e | e | e
  · rw [e]; exact h1
  · rw [e]; exact h2
  · rw [e]; exact h3
/-- a word by its place in its run of the tables -/
theorem lw_at {r : List Cond} (hr : ∀ w ∈ r, w ∈ lw_tbl) {w : Cond} (i : Nat) (h : r[i]? = some w) : w ∈ lw_tbl := hr w (List.mem_of_getElem? h)
theorem lw_g {w : Cond} (h : w ∈ lw_tbl) (g : goodWord w = true) : w ∈ lw_all := List.mem_filter.mpr ⟨h, g⟩
theorem lw_ms : ∀ w ∈ k2_sels lw_privs, w ∈ lw_tbl := fun w h => show w ∈ k2_sels lw_privs ++ tables_1 from List.mem_append_left _ h
theorem lw_m1 : ∀ w ∈ tables_1_1, w ∈ lw_tbl := fun w h => show w ∈ k2_sels lw_privs ++ tables_1 from List.mem_append_right (k2_sels lw_privs) (show w ∈ tables_1 from List.mem_append_left _ h)
theorem lw_m2 : ∀ w ∈ tables_1_2, w ∈ lw_tbl := fun w h => show w ∈ k2_sels lw_privs ++ tables_1 from List.mem_append_right (k2_sels lw_privs) (show w ∈ tables_1 from List.mem_append_right _ h)
theorem qs0 : (Cond.selects "ShacalDesk" ⟨"ShacalDesk", "run", "(ZI)V"⟩ ⟨"ShacalDesk", "run", "(ZI)V"⟩) ∈ lw_all := lw_g (lw_at lw_ms 0 rfl) rfl
theorem qs1 : (Cond.selects "java/lang/Throwable" ⟨"java/lang/Throwable", "fillInStackTrace", "(I)Ljava/lang/Throwable;"⟩ ⟨"java/lang/Throwable", "fillInStackTrace", "(I)Ljava/lang/Throwable;"⟩) ∈ lw_all := lw_g (lw_at lw_ms 1 rfl) rfl
theorem qs2 : (Cond.selects "Shacal2Engine" ⟨"Shacal2Engine", "bytes2ints", "([B[III)V"⟩ ⟨"Shacal2Engine", "bytes2ints", "([B[III)V"⟩) ∈ lw_all := lw_g (lw_at lw_ms 2 rfl) rfl
theorem qs3 : (Cond.selects "Shacal2Engine" ⟨"Shacal2Engine", "encryptBlock", "([BI[BI)V"⟩ ⟨"Shacal2Engine", "encryptBlock", "([BI[BI)V"⟩) ∈ lw_all := lw_g (lw_at lw_ms 3 rfl) rfl
theorem qs4 : (Cond.selects "Shacal2Engine" ⟨"Shacal2Engine", "byteBlockToInts", "([B[III)V"⟩ ⟨"Shacal2Engine", "byteBlockToInts", "([B[III)V"⟩) ∈ lw_all := lw_g (lw_at lw_ms 4 rfl) rfl
theorem qs5 : (Cond.selects "Shacal2Engine" ⟨"Shacal2Engine", "ints2bytes", "([I[BI)V"⟩ ⟨"Shacal2Engine", "ints2bytes", "([I[BI)V"⟩) ∈ lw_all := lw_g (lw_at lw_ms 5 rfl) rfl
theorem qs6 : (Cond.selects "Shacal2Engine" ⟨"Shacal2Engine", "decryptBlock", "([BI[BI)V"⟩ ⟨"Shacal2Engine", "decryptBlock", "([BI[BI)V"⟩) ∈ lw_all := lw_g (lw_at lw_ms 6 rfl) rfl
theorem qs7 : (Cond.selects "ShacalDeskModel" ⟨"ShacalDeskModel", "schedule", "()[I"⟩ ⟨"ShacalDeskModel", "schedule", "()[I"⟩) ∈ lw_all := lw_g (lw_at lw_ms 7 rfl) rfl
theorem qs8 : (Cond.selects "ShacalDeskModel" ⟨"ShacalDeskModel", "put", "(IIIIIIII)V"⟩ ⟨"ShacalDeskModel", "put", "(IIIIIIII)V"⟩) ∈ lw_all := lw_g (lw_at lw_ms 8 rfl) rfl
end
section
/-! DECODE ROWS BY BYTES: one lemma an opcode; a method's code is cut into short pieces once, and a row reads its own piece alone. -/
set_option maxRecDepth 100000
/-- the code has just these bytes from pc on -/
def DkAt (code : ByteArray) (pc : Nat) (bs : List UInt8) : Prop := ∀ (j : Nat) (b : UInt8), bs[j]? = some b → code.data.toList[pc + j]? = some b
/-- the piece W has the bytes bs from its place j on -/
def dkIn (W : List UInt8) (j : Nat) (bs : List UInt8) : Bool := decide ((W.drop j).take bs.length = bs)
theorem dk_seg {l W T : List UInt8} {o o2 : Nat} (h : l.drop o = W ++ T) (n : Nat) (hn : W.length = n) (ho : o + n = o2) : l.drop o2 = T := by
  subst ho
  rw [← List.drop_drop, h, List.drop_left' hn]
theorem dk_at {code : ByteArray} {W T bs : List UInt8} {o pc : Nat} (h : code.data.toList.drop o = W ++ T) (j : Nat) (hp : o + j = pc) (hw : dkIn W j bs = true) : DkAt code pc bs := by
  subst hp
  intro i b e
  have h1 := of_decide_eq_true hw
  have h2 : i < bs.length := (List.getElem?_eq_some_iff.mp e).1
  have h3 : W[j + i]? = some b := by
    rw [← h1, List.getElem?_take, if_pos h2, List.getElem?_drop] at e
    exact e
  have h4 : j + i < W.length := (List.getElem?_eq_some_iff.mp h3).1
  have h5 : (code.data.toList.drop o)[j + i]? = some b := by
    rw [h, List.getElem?_append_left h4]
    exact h3
  rw [List.getElem?_drop, ← Nat.add_assoc] at h5
  exact h5
theorem dk_u1 {A : ByteArray} {p : Nat} {b : UInt8} (h : A.data.toList[p]? = some b) : (Reader.u1 : Reader DecodeError Nat) A p = .ok (b.toNat, p + 1) := by
  obtain ⟨h1, h2⟩ := List.getElem?_eq_some_iff.mp h
  have h3 : p < A.size := by simpa using h1
  have h4 : A[p]'h3 = b := h2
  have e : (Reader.u1 : Reader DecodeError Nat) A p = (if h : p < A.size then .ok (A[p].toNat, p + 1) else .error (HasTruncated.truncated p)) := by
    show (do if h : p < A.size then do set (p + 1); Pure.pure A[p].toNat else MonadExcept.throw (HasTruncated.truncated p) : Reader DecodeError Nat) A p = _
    by_cases hi : p < A.size
    · rw [dif_pos hi, dif_pos hi]; rfl
    · rw [dif_neg hi, dif_neg hi]; rfl
  rw [e, dif_pos h3, h4]
theorem dk_bind {α β : Type} {r : Reader DecodeError α} {f : α → Reader DecodeError β} {A : ByteArray} {p s : Nat} {a : α} (h : r A p = .ok (a, s)) : (r >>= f) A p = f a A s := by
  show (do let (a, s) ← r A p; f a A s : Except DecodeError (β × Nat)) = _
  rw [h]
  rfl
theorem dk_map {α β : Type} {r : Reader DecodeError α} {g : α → β} {A : ByteArray} {p s : Nat} {a : α} (h : r A p = .ok (a, s)) : (g <$> r) A p = .ok (g a, s) := by
  show (do let (a, s) ← r A p; .ok (g a, s) : Except DecodeError (β × Nat)) = _
  rw [h]
  rfl
theorem dk_u2 {A : ByteArray} {p : Nat} {a b : UInt8} (h : A.data.toList[p]? = some a) (h2 : A.data.toList[p + 1]? = some b) : (Reader.u2 : Reader DecodeError Nat) A p = .ok (a.toNat * 256 + b.toNat, p + 2) := by
  show (Reader.u1 >>= fun hi => Reader.u1 >>= fun lo => Pure.pure (hi * 256 + lo) : Reader DecodeError Nat) A p = _
  rw [dk_bind (dk_u1 h), dk_bind (dk_u1 h2)]
  rfl
theorem dk_of {code : ByteArray} {pc n : Nat} {i : Instr} (h : Decoder.instr pc code pc = .ok (i, pc + n)) : decode code pc = .ok (i, n) := by
  have e : decode code pc = (match Decoder.instr pc code pc with | .error x => .error x | .ok (j, s) => .ok (j, s - pc)) := by
    show (do let (j, s) ← Decoder.instr pc code pc; Pure.pure (j, s - pc) : Except DecodeError (Instr × Nat)) = _
    cases Decoder.instr pc code pc <;> rfl
  rw [e, h]
  show Except.ok (i, pc + n - pc) = _
  rw [Nat.add_sub_cancel_left]
theorem dk_1 {code : ByteArray} {pc : Nat} (h : DkAt code pc [1]) : decode code pc = .ok (.aconst_null, 1) := dk_of ((dk_bind (dk_u1 (h 0 _ rfl))).trans rfl)
theorem dk_2 {code : ByteArray} {pc : Nat} (h : DkAt code pc [2]) : decode code pc = .ok (.iconst (-1), 1) := dk_of ((dk_bind (dk_u1 (h 0 _ rfl))).trans rfl)
theorem dk_3 {code : ByteArray} {pc : Nat} (h : DkAt code pc [3]) : decode code pc = .ok (.iconst 0, 1) := dk_of ((dk_bind (dk_u1 (h 0 _ rfl))).trans rfl)
theorem dk_4 {code : ByteArray} {pc : Nat} (h : DkAt code pc [4]) : decode code pc = .ok (.iconst 1, 1) := dk_of ((dk_bind (dk_u1 (h 0 _ rfl))).trans rfl)
theorem dk_5 {code : ByteArray} {pc : Nat} (h : DkAt code pc [5]) : decode code pc = .ok (.iconst 2, 1) := dk_of ((dk_bind (dk_u1 (h 0 _ rfl))).trans rfl)
theorem dk_6 {code : ByteArray} {pc : Nat} (h : DkAt code pc [6]) : decode code pc = .ok (.iconst 3, 1) := dk_of ((dk_bind (dk_u1 (h 0 _ rfl))).trans rfl)
theorem dk_7 {code : ByteArray} {pc : Nat} (h : DkAt code pc [7]) : decode code pc = .ok (.iconst 4, 1) := dk_of ((dk_bind (dk_u1 (h 0 _ rfl))).trans rfl)
theorem dk_8 {code : ByteArray} {pc : Nat} (h : DkAt code pc [8]) : decode code pc = .ok (.iconst 5, 1) := dk_of ((dk_bind (dk_u1 (h 0 _ rfl))).trans rfl)
theorem dk_16 {code : ByteArray} {pc : Nat} (a : UInt8) (h : DkAt code pc [16, a]) : decode code pc = .ok (.bipush (Reader.signed 8 a.toNat), 2) := dk_of ((dk_bind (dk_u1 (h 0 _ rfl))).trans ((dk_bind (dk_map (dk_u1 (h 1 _ rfl)))).trans rfl))
theorem dk_17 {code : ByteArray} {pc : Nat} (a b : UInt8) (h : DkAt code pc [17, a, b]) : decode code pc = .ok (.sipush (Reader.signed 16 (a.toNat * 256 + b.toNat)), 3) := dk_of ((dk_bind (dk_u1 (h 0 _ rfl))).trans ((dk_bind (dk_map (dk_u2 (h 1 _ rfl) (h 2 _ rfl)))).trans rfl))
theorem dk_18 {code : ByteArray} {pc : Nat} (a : UInt8) (h : DkAt code pc [18, a]) : decode code pc = .ok (.ldc a.toNat, 2) := dk_of ((dk_bind (dk_u1 (h 0 _ rfl))).trans ((dk_bind (dk_u1 (h 1 _ rfl))).trans rfl))
theorem dk_21 {code : ByteArray} {pc : Nat} (a : UInt8) (h : DkAt code pc [21, a]) : decode code pc = .ok (.iload a.toNat, 2) := dk_of ((dk_bind (dk_u1 (h 0 _ rfl))).trans ((dk_bind (dk_u1 (h 1 _ rfl))).trans rfl))
theorem dk_25 {code : ByteArray} {pc : Nat} (a : UInt8) (h : DkAt code pc [25, a]) : decode code pc = .ok (.aload a.toNat, 2) := dk_of ((dk_bind (dk_u1 (h 0 _ rfl))).trans ((dk_bind (dk_u1 (h 1 _ rfl))).trans rfl))
theorem dk_26 {code : ByteArray} {pc : Nat} (h : DkAt code pc [26]) : decode code pc = .ok (.iload_n 0, 1) := dk_of ((dk_bind (dk_u1 (h 0 _ rfl))).trans rfl)
theorem dk_27 {code : ByteArray} {pc : Nat} (h : DkAt code pc [27]) : decode code pc = .ok (.iload_n 1, 1) := dk_of ((dk_bind (dk_u1 (h 0 _ rfl))).trans rfl)
theorem dk_28 {code : ByteArray} {pc : Nat} (h : DkAt code pc [28]) : decode code pc = .ok (.iload_n 2, 1) := dk_of ((dk_bind (dk_u1 (h 0 _ rfl))).trans rfl)
theorem dk_29 {code : ByteArray} {pc : Nat} (h : DkAt code pc [29]) : decode code pc = .ok (.iload_n 3, 1) := dk_of ((dk_bind (dk_u1 (h 0 _ rfl))).trans rfl)
theorem dk_42 {code : ByteArray} {pc : Nat} (h : DkAt code pc [42]) : decode code pc = .ok (.aload_n 0, 1) := dk_of ((dk_bind (dk_u1 (h 0 _ rfl))).trans rfl)
theorem dk_43 {code : ByteArray} {pc : Nat} (h : DkAt code pc [43]) : decode code pc = .ok (.aload_n 1, 1) := dk_of ((dk_bind (dk_u1 (h 0 _ rfl))).trans rfl)
theorem dk_44 {code : ByteArray} {pc : Nat} (h : DkAt code pc [44]) : decode code pc = .ok (.aload_n 2, 1) := dk_of ((dk_bind (dk_u1 (h 0 _ rfl))).trans rfl)
theorem dk_45 {code : ByteArray} {pc : Nat} (h : DkAt code pc [45]) : decode code pc = .ok (.aload_n 3, 1) := dk_of ((dk_bind (dk_u1 (h 0 _ rfl))).trans rfl)
theorem dk_46 {code : ByteArray} {pc : Nat} (h : DkAt code pc [46]) : decode code pc = .ok (.iaload, 1) := dk_of ((dk_bind (dk_u1 (h 0 _ rfl))).trans rfl)
theorem dk_51 {code : ByteArray} {pc : Nat} (h : DkAt code pc [51]) : decode code pc = .ok (.baload, 1) := dk_of ((dk_bind (dk_u1 (h 0 _ rfl))).trans rfl)
theorem dk_54 {code : ByteArray} {pc : Nat} (a : UInt8) (h : DkAt code pc [54, a]) : decode code pc = .ok (.istore a.toNat, 2) := dk_of ((dk_bind (dk_u1 (h 0 _ rfl))).trans ((dk_bind (dk_u1 (h 1 _ rfl))).trans rfl))
theorem dk_58 {code : ByteArray} {pc : Nat} (a : UInt8) (h : DkAt code pc [58, a]) : decode code pc = .ok (.astore a.toNat, 2) := dk_of ((dk_bind (dk_u1 (h 0 _ rfl))).trans ((dk_bind (dk_u1 (h 1 _ rfl))).trans rfl))
theorem dk_60 {code : ByteArray} {pc : Nat} (h : DkAt code pc [60]) : decode code pc = .ok (.istore_n 1, 1) := dk_of ((dk_bind (dk_u1 (h 0 _ rfl))).trans rfl)
theorem dk_61 {code : ByteArray} {pc : Nat} (h : DkAt code pc [61]) : decode code pc = .ok (.istore_n 2, 1) := dk_of ((dk_bind (dk_u1 (h 0 _ rfl))).trans rfl)
theorem dk_62 {code : ByteArray} {pc : Nat} (h : DkAt code pc [62]) : decode code pc = .ok (.istore_n 3, 1) := dk_of ((dk_bind (dk_u1 (h 0 _ rfl))).trans rfl)
theorem dk_76 {code : ByteArray} {pc : Nat} (h : DkAt code pc [76]) : decode code pc = .ok (.astore_n 1, 1) := dk_of ((dk_bind (dk_u1 (h 0 _ rfl))).trans rfl)
theorem dk_77 {code : ByteArray} {pc : Nat} (h : DkAt code pc [77]) : decode code pc = .ok (.astore_n 2, 1) := dk_of ((dk_bind (dk_u1 (h 0 _ rfl))).trans rfl)
theorem dk_78 {code : ByteArray} {pc : Nat} (h : DkAt code pc [78]) : decode code pc = .ok (.astore_n 3, 1) := dk_of ((dk_bind (dk_u1 (h 0 _ rfl))).trans rfl)
theorem dk_79 {code : ByteArray} {pc : Nat} (h : DkAt code pc [79]) : decode code pc = .ok (.iastore, 1) := dk_of ((dk_bind (dk_u1 (h 0 _ rfl))).trans rfl)
theorem dk_84 {code : ByteArray} {pc : Nat} (h : DkAt code pc [84]) : decode code pc = .ok (.bastore, 1) := dk_of ((dk_bind (dk_u1 (h 0 _ rfl))).trans rfl)
theorem dk_87 {code : ByteArray} {pc : Nat} (h : DkAt code pc [87]) : decode code pc = .ok (.pop, 1) := dk_of ((dk_bind (dk_u1 (h 0 _ rfl))).trans rfl)
theorem dk_89 {code : ByteArray} {pc : Nat} (h : DkAt code pc [89]) : decode code pc = .ok (.dup, 1) := dk_of ((dk_bind (dk_u1 (h 0 _ rfl))).trans rfl)
theorem dk_96 {code : ByteArray} {pc : Nat} (h : DkAt code pc [96]) : decode code pc = .ok (.iadd, 1) := dk_of ((dk_bind (dk_u1 (h 0 _ rfl))).trans rfl)
theorem dk_100 {code : ByteArray} {pc : Nat} (h : DkAt code pc [100]) : decode code pc = .ok (.isub, 1) := dk_of ((dk_bind (dk_u1 (h 0 _ rfl))).trans rfl)
theorem dk_104 {code : ByteArray} {pc : Nat} (h : DkAt code pc [104]) : decode code pc = .ok (.imul, 1) := dk_of ((dk_bind (dk_u1 (h 0 _ rfl))).trans rfl)
theorem dk_108 {code : ByteArray} {pc : Nat} (h : DkAt code pc [108]) : decode code pc = .ok (.idiv, 1) := dk_of ((dk_bind (dk_u1 (h 0 _ rfl))).trans rfl)
theorem dk_112 {code : ByteArray} {pc : Nat} (h : DkAt code pc [112]) : decode code pc = .ok (.irem, 1) := dk_of ((dk_bind (dk_u1 (h 0 _ rfl))).trans rfl)
theorem dk_120 {code : ByteArray} {pc : Nat} (h : DkAt code pc [120]) : decode code pc = .ok (.ishl, 1) := dk_of ((dk_bind (dk_u1 (h 0 _ rfl))).trans rfl)
theorem dk_122 {code : ByteArray} {pc : Nat} (h : DkAt code pc [122]) : decode code pc = .ok (.ishr, 1) := dk_of ((dk_bind (dk_u1 (h 0 _ rfl))).trans rfl)
theorem dk_124 {code : ByteArray} {pc : Nat} (h : DkAt code pc [124]) : decode code pc = .ok (.iushr, 1) := dk_of ((dk_bind (dk_u1 (h 0 _ rfl))).trans rfl)
theorem dk_126 {code : ByteArray} {pc : Nat} (h : DkAt code pc [126]) : decode code pc = .ok (.iand, 1) := dk_of ((dk_bind (dk_u1 (h 0 _ rfl))).trans rfl)
theorem dk_128 {code : ByteArray} {pc : Nat} (h : DkAt code pc [128]) : decode code pc = .ok (.ior, 1) := dk_of ((dk_bind (dk_u1 (h 0 _ rfl))).trans rfl)
theorem dk_130 {code : ByteArray} {pc : Nat} (h : DkAt code pc [130]) : decode code pc = .ok (.ixor, 1) := dk_of ((dk_bind (dk_u1 (h 0 _ rfl))).trans rfl)
theorem dk_132 {code : ByteArray} {pc : Nat} (a b : UInt8) (h : DkAt code pc [132, a, b]) : decode code pc = .ok (.iinc a.toNat (Reader.signed 8 b.toNat), 3) := dk_of ((dk_bind (dk_u1 (h 0 _ rfl))).trans ((dk_bind (dk_u1 (h 1 _ rfl))).trans ((dk_bind (dk_map (dk_u1 (h 2 _ rfl)))).trans rfl)))
theorem dk_145 {code : ByteArray} {pc : Nat} (h : DkAt code pc [145]) : decode code pc = .ok (.i2b, 1) := dk_of ((dk_bind (dk_u1 (h 0 _ rfl))).trans rfl)
theorem dk_153 {code : ByteArray} {pc : Nat} (a b : UInt8) (h : DkAt code pc [153, a, b]) : decode code pc = .ok (.ifCond .eq (Reader.signed 16 (a.toNat * 256 + b.toNat)), 3) := dk_of ((dk_bind (dk_u1 (h 0 _ rfl))).trans ((dk_bind (dk_map (dk_u2 (h 1 _ rfl) (h 2 _ rfl)))).trans rfl))
theorem dk_154 {code : ByteArray} {pc : Nat} (a b : UInt8) (h : DkAt code pc [154, a, b]) : decode code pc = .ok (.ifCond .ne (Reader.signed 16 (a.toNat * 256 + b.toNat)), 3) := dk_of ((dk_bind (dk_u1 (h 0 _ rfl))).trans ((dk_bind (dk_map (dk_u2 (h 1 _ rfl) (h 2 _ rfl)))).trans rfl))
theorem dk_155 {code : ByteArray} {pc : Nat} (a b : UInt8) (h : DkAt code pc [155, a, b]) : decode code pc = .ok (.ifCond .lt (Reader.signed 16 (a.toNat * 256 + b.toNat)), 3) := dk_of ((dk_bind (dk_u1 (h 0 _ rfl))).trans ((dk_bind (dk_map (dk_u2 (h 1 _ rfl) (h 2 _ rfl)))).trans rfl))
theorem dk_159 {code : ByteArray} {pc : Nat} (a b : UInt8) (h : DkAt code pc [159, a, b]) : decode code pc = .ok (.if_icmp .eq (Reader.signed 16 (a.toNat * 256 + b.toNat)), 3) := dk_of ((dk_bind (dk_u1 (h 0 _ rfl))).trans ((dk_bind (dk_map (dk_u2 (h 1 _ rfl) (h 2 _ rfl)))).trans rfl))
theorem dk_161 {code : ByteArray} {pc : Nat} (a b : UInt8) (h : DkAt code pc [161, a, b]) : decode code pc = .ok (.if_icmp .lt (Reader.signed 16 (a.toNat * 256 + b.toNat)), 3) := dk_of ((dk_bind (dk_u1 (h 0 _ rfl))).trans ((dk_bind (dk_map (dk_u2 (h 1 _ rfl) (h 2 _ rfl)))).trans rfl))
theorem dk_162 {code : ByteArray} {pc : Nat} (a b : UInt8) (h : DkAt code pc [162, a, b]) : decode code pc = .ok (.if_icmp .ge (Reader.signed 16 (a.toNat * 256 + b.toNat)), 3) := dk_of ((dk_bind (dk_u1 (h 0 _ rfl))).trans ((dk_bind (dk_map (dk_u2 (h 1 _ rfl) (h 2 _ rfl)))).trans rfl))
theorem dk_163 {code : ByteArray} {pc : Nat} (a b : UInt8) (h : DkAt code pc [163, a, b]) : decode code pc = .ok (.if_icmp .gt (Reader.signed 16 (a.toNat * 256 + b.toNat)), 3) := dk_of ((dk_bind (dk_u1 (h 0 _ rfl))).trans ((dk_bind (dk_map (dk_u2 (h 1 _ rfl) (h 2 _ rfl)))).trans rfl))
theorem dk_164 {code : ByteArray} {pc : Nat} (a b : UInt8) (h : DkAt code pc [164, a, b]) : decode code pc = .ok (.if_icmp .le (Reader.signed 16 (a.toNat * 256 + b.toNat)), 3) := dk_of ((dk_bind (dk_u1 (h 0 _ rfl))).trans ((dk_bind (dk_map (dk_u2 (h 1 _ rfl) (h 2 _ rfl)))).trans rfl))
theorem dk_167 {code : ByteArray} {pc : Nat} (a b : UInt8) (h : DkAt code pc [167, a, b]) : decode code pc = .ok (.goto (Reader.signed 16 (a.toNat * 256 + b.toNat)), 3) := dk_of ((dk_bind (dk_u1 (h 0 _ rfl))).trans ((dk_bind (dk_map (dk_u2 (h 1 _ rfl) (h 2 _ rfl)))).trans rfl))
theorem dk_172 {code : ByteArray} {pc : Nat} (h : DkAt code pc [172]) : decode code pc = .ok (.ireturn, 1) := dk_of ((dk_bind (dk_u1 (h 0 _ rfl))).trans rfl)
theorem dk_176 {code : ByteArray} {pc : Nat} (h : DkAt code pc [176]) : decode code pc = .ok (.areturn, 1) := dk_of ((dk_bind (dk_u1 (h 0 _ rfl))).trans rfl)
theorem dk_177 {code : ByteArray} {pc : Nat} (h : DkAt code pc [177]) : decode code pc = .ok (.return_, 1) := dk_of ((dk_bind (dk_u1 (h 0 _ rfl))).trans rfl)
theorem dk_178 {code : ByteArray} {pc : Nat} (a b : UInt8) (h : DkAt code pc [178, a, b]) : decode code pc = .ok (.getstatic (a.toNat * 256 + b.toNat), 3) := dk_of ((dk_bind (dk_u1 (h 0 _ rfl))).trans ((dk_bind (dk_u2 (h 1 _ rfl) (h 2 _ rfl))).trans rfl))
theorem dk_180 {code : ByteArray} {pc : Nat} (a b : UInt8) (h : DkAt code pc [180, a, b]) : decode code pc = .ok (.getfield (a.toNat * 256 + b.toNat), 3) := dk_of ((dk_bind (dk_u1 (h 0 _ rfl))).trans ((dk_bind (dk_u2 (h 1 _ rfl) (h 2 _ rfl))).trans rfl))
theorem dk_181 {code : ByteArray} {pc : Nat} (a b : UInt8) (h : DkAt code pc [181, a, b]) : decode code pc = .ok (.putfield (a.toNat * 256 + b.toNat), 3) := dk_of ((dk_bind (dk_u1 (h 0 _ rfl))).trans ((dk_bind (dk_u2 (h 1 _ rfl) (h 2 _ rfl))).trans rfl))
theorem dk_182 {code : ByteArray} {pc : Nat} (a b : UInt8) (h : DkAt code pc [182, a, b]) : decode code pc = .ok (.invokevirtual (a.toNat * 256 + b.toNat), 3) := dk_of ((dk_bind (dk_u1 (h 0 _ rfl))).trans ((dk_bind (dk_u2 (h 1 _ rfl) (h 2 _ rfl))).trans rfl))
theorem dk_183 {code : ByteArray} {pc : Nat} (a b : UInt8) (h : DkAt code pc [183, a, b]) : decode code pc = .ok (.invokespecial (a.toNat * 256 + b.toNat), 3) := dk_of ((dk_bind (dk_u1 (h 0 _ rfl))).trans ((dk_bind (dk_u2 (h 1 _ rfl) (h 2 _ rfl))).trans rfl))
theorem dk_184 {code : ByteArray} {pc : Nat} (a b : UInt8) (h : DkAt code pc [184, a, b]) : decode code pc = .ok (.invokestatic (a.toNat * 256 + b.toNat), 3) := dk_of ((dk_bind (dk_u1 (h 0 _ rfl))).trans ((dk_bind (dk_u2 (h 1 _ rfl) (h 2 _ rfl))).trans rfl))
theorem dk_187 {code : ByteArray} {pc : Nat} (a b : UInt8) (h : DkAt code pc [187, a, b]) : decode code pc = .ok (.new (a.toNat * 256 + b.toNat), 3) := dk_of ((dk_bind (dk_u1 (h 0 _ rfl))).trans ((dk_bind (dk_u2 (h 1 _ rfl) (h 2 _ rfl))).trans rfl))
theorem dk_188_8 {code : ByteArray} {pc : Nat} (h : DkAt code pc [188, 8]) : decode code pc = .ok (.newarray .byte, 2) := dk_of ((dk_bind (dk_u1 (h 0 _ rfl))).trans ((dk_bind (dk_u1 (h 1 _ rfl))).trans rfl))
theorem dk_188_10 {code : ByteArray} {pc : Nat} (h : DkAt code pc [188, 10]) : decode code pc = .ok (.newarray .int, 2) := dk_of ((dk_bind (dk_u1 (h 0 _ rfl))).trans ((dk_bind (dk_u1 (h 1 _ rfl))).trans rfl))
theorem dk_190 {code : ByteArray} {pc : Nat} (h : DkAt code pc [190]) : decode code pc = .ok (.arraylength, 1) := dk_of ((dk_bind (dk_u1 (h 0 _ rfl))).trans rfl)
theorem dk_191 {code : ByteArray} {pc : Nat} (h : DkAt code pc [191]) : decode code pc = .ok (.athrow, 1) := dk_of ((dk_bind (dk_u1 (h 0 _ rfl))).trans rfl)
theorem dk_192 {code : ByteArray} {pc : Nat} (a b : UInt8) (h : DkAt code pc [192, a, b]) : decode code pc = .ok (.checkcast (a.toNat * 256 + b.toNat), 3) := dk_of ((dk_bind (dk_u1 (h 0 _ rfl))).trans ((dk_bind (dk_u2 (h 1 _ rfl) (h 2 _ rfl))).trans rfl))
theorem dk_193 {code : ByteArray} {pc : Nat} (a b : UInt8) (h : DkAt code pc [193, a, b]) : decode code pc = .ok (.instanceof (a.toNat * 256 + b.toNat), 3) := dk_of ((dk_bind (dk_u1 (h 0 _ rfl))).trans ((dk_bind (dk_u2 (h 1 _ rfl) (h 2 _ rfl))).trans rfl))
theorem dk_199 {code : ByteArray} {pc : Nat} (a b : UInt8) (h : DkAt code pc [199, a, b]) : decode code pc = .ok (.ifnonnull (Reader.signed 16 (a.toNat * 256 + b.toNat)), 3) := dk_of ((dk_bind (dk_u1 (h 0 _ rfl))).trans ((dk_bind (dk_map (dk_u2 (h 1 _ rfl) (h 2 _ rfl)))).trans rfl))
theorem q41 : (Jvm.Cond.arrayClass Jvm.ClassFile.FieldType.byte) ∈ lw_all := lw_g (lw_at lw_m1 32 rfl) rfl
set_option maxRecDepth 100000
theorem q210 : (Jvm.Cond.arrayClass Jvm.ClassFile.FieldType.int) ∈ lw_all := lw_g (lw_at lw_m1 201 rfl) rfl
theorem q9 : (Jvm.Cond.initialized "ShacalDeskLaw") ∈ lw_all := lw_g (lw_at lw_m1 0 rfl) rfl
set_option maxRecDepth 100000
theorem q23 : (Jvm.Cond.classLink "ShacalDeskLaw" (7 : Nat) "ShacalDesk") ∈ lw_all := lw_g (lw_at lw_m1 14 rfl) rfl
theorem q25 : (Jvm.Cond.methodLink "ShacalDeskLaw" (9 : Nat) ({ cls := "ShacalDesk", name := "<init>", desc := "()V" } : Jvm.MethodName)) ∈ lw_all := lw_g (lw_at lw_m1 16 rfl) rfl
theorem q42 : (Jvm.Cond.methodLink "ShacalDeskLaw" (13 : Nat) ({ cls := "ShacalDesk", name := "key", desc := "(IIIII)V" } : Jvm.MethodName)) ∈ lw_all := lw_g (lw_at lw_m1 33 rfl) rfl
theorem q49 : (Jvm.Cond.methodLink "ShacalDeskLaw" (18 : Nat) ({ cls := "ShacalDesk", name := "block", desc := "(IIIII)V" } : Jvm.MethodName)) ∈ lw_all := lw_g (lw_at lw_m1 40 rfl) rfl
theorem q53 : (Jvm.Cond.methodLink "ShacalDeskLaw" (22 : Nat) ({ cls := "ShacalDesk", name := "lock", desc := "(I)V" } : Jvm.MethodName)) ∈ lw_all := lw_g (lw_at lw_m1 44 rfl) rfl
theorem q266 : (Jvm.Cond.methodLink "ShacalDeskLaw" (27 : Nat) ({ cls := "ShacalDesk", name := "open", desc := "(I)V" } : Jvm.MethodName)) ∈ lw_all := lw_g (lw_at lw_m2 17 rfl) rfl
theorem q270 : (Jvm.Cond.methodLink "ShacalDeskLaw" (31 : Nat) ({ cls := "ShacalDesk", name := "again", desc := "()V" } : Jvm.MethodName)) ∈ lw_all := lw_g (lw_at lw_m2 21 rfl) rfl
theorem q274 : (Jvm.Cond.methodLink "ShacalDeskLaw" (35 : Nat) ({ cls := "ShacalDesk", name := "out", desc := "(I)I" } : Jvm.MethodName)) ∈ lw_all := lw_g (lw_at lw_m2 25 rfl) rfl
theorem q278 : (Jvm.Cond.classLink "ShacalDeskLaw" (10 : Nat) "ShacalDeskModel") ∈ lw_all := lw_g (lw_at lw_m2 29 rfl) rfl
theorem q280 : (Jvm.Cond.methodLink "ShacalDeskLaw" (12 : Nat) ({ cls := "ShacalDeskModel", name := "<init>", desc := "()V" } : Jvm.MethodName)) ∈ lw_all := lw_g (lw_at lw_m2 31 rfl) rfl
theorem q294 : (Jvm.Cond.methodLink "ShacalDeskLaw" (17 : Nat) ({ cls := "ShacalDeskModel", name := "key", desc := "(IIIII)V" } : Jvm.MethodName)) ∈ lw_all := lw_g (lw_at lw_m2 45 rfl) rfl
theorem q298 : (Jvm.Cond.methodLink "ShacalDeskLaw" (21 : Nat) ({ cls := "ShacalDeskModel", name := "block", desc := "(IIIII)V" } : Jvm.MethodName)) ∈ lw_all := lw_g (lw_at lw_m2 49 rfl) rfl
theorem q302 : (Jvm.Cond.methodLink "ShacalDeskLaw" (26 : Nat) ({ cls := "ShacalDeskModel", name := "lock", desc := "(I)V" } : Jvm.MethodName)) ∈ lw_all := lw_g (lw_at lw_m2 53 rfl) rfl
theorem q337 : (Jvm.Cond.methodLink "ShacalDeskLaw" (30 : Nat) ({ cls := "ShacalDeskModel", name := "open", desc := "(I)V" } : Jvm.MethodName)) ∈ lw_all := lw_g (lw_at lw_m2 88 rfl) rfl
theorem q341 : (Jvm.Cond.methodLink "ShacalDeskLaw" (34 : Nat) ({ cls := "ShacalDeskModel", name := "again", desc := "()V" } : Jvm.MethodName)) ∈ lw_all := lw_g (lw_at lw_m2 92 rfl) rfl
theorem q345 : (Jvm.Cond.methodLink "ShacalDeskLaw" (39 : Nat) ({ cls := "ShacalDeskModel", name := "out", desc := "(I)I" } : Jvm.MethodName)) ∈ lw_all := lw_g (lw_at lw_m2 96 rfl) rfl
theorem q14 : (Jvm.Cond.initialized "java/lang/System") ∈ lw_all := lw_g (lw_at lw_m1 5 rfl) rfl
set_option maxRecDepth 100000
theorem q91 : (Jvm.Cond.static ({ cls := "java/lang/System", name := "arraycopy", desc := "(Ljava/lang/Object;ILjava/lang/Object;II)V" } : Jvm.MethodName)) ∈ lw_all := lw_g (lw_at lw_m1 82 rfl) rfl
theorem q92 : (Jvm.Cond.native ({ cls := "java/lang/System", name := "arraycopy", desc := "(Ljava/lang/Object;ILjava/lang/Object;II)V" } : Jvm.MethodName)) ∈ lw_all := lw_g (lw_at lw_m1 83 rfl) rfl
theorem q95 : (Jvm.Cond.interfaceMethod "BlockCipher" "BlockCipher" "init" "(ZLCipherParameters;)V") ∈ lw_tbl := lw_at lw_m1 86 rfl
set_option maxRecDepth 100000
theorem q96 : (Jvm.Cond.declares ({ cls := "BlockCipher", name := "init", desc := "(ZLCipherParameters;)V" } : Jvm.MethodName)) ∈ lw_tbl := lw_at lw_m1 87 rfl
theorem q187 : (Jvm.Cond.interfaceMethod "BlockCipher" "BlockCipher" "processBlock" "([BI[BI)I") ∈ lw_tbl := lw_at lw_m1 178 rfl
theorem q188 : (Jvm.Cond.declares ({ cls := "BlockCipher", name := "processBlock", desc := "([BI[BI)I" } : Jvm.MethodName)) ∈ lw_tbl := lw_at lw_m1 179 rfl
/-! java/lang/Object -/
set_option maxRecDepth 100000
def RJ5 : String := "java/lang/Object"
abbrev cJ5_init : ByteArray := object_method_1_code
def yJ5_init : MethodName := ⟨RJ5, "<init>", "()V"⟩
theorem dJ5_init_0 : decode cJ5_init 0 = .ok (.return_, 1) := by decide +kernel
theorem q29 : (Jvm.Cond.instanceMethod ({ cls := "java/lang/Object", name := "<init>", desc := "()V" } : Jvm.MethodName)) ∈ lw_all := lw_g (lw_at lw_m1 20 rfl) rfl
theorem q30 : (Jvm.Cond.code ({ cls := "java/lang/Object", name := "<init>", desc := "()V" } : Jvm.MethodName) object_method_1_code (1 : Nat) (Option.none : Option Jvm.ClassFile.FieldType)) ∈ lw_all := lw_g (lw_at lw_m1 21 rfl) rfl
/-! ShacalDesk -/
set_option maxRecDepth 100000
def RX0 : String := "ShacalDesk"
def TX0 : u_T := fun k => match k with
  | 0 => ("ShacalDesk", "key", "[B", true)
  | 1 => ("ShacalDesk", "block", "[B", true)
  | _ => ("ShacalDesk", "out", "[B", true)
def tyX0 : Nat → FieldType := fun k => match k with
  | 0 => .array .byte
  | 1 => .array .byte
  | _ => .array .byte
abbrev wsX00 : List Cond := u_ws RX0 TX0 3
theorem nmX0 : ∀ a, a < 3 → ∀ b, b < 3 → a ≠ b → (TX0 a).2.1 ≠ (TX0 b).2.1 := by decide +kernel
theorem tyX0_ok : ∀ k, k < 3 → parseFieldDescriptor (TX0 k).2.2.1 = some (tyX0 k) := by decide +kernel
abbrev cX0_init : ByteArray := prog_8_method_1_code
def yX0_init : MethodName := ⟨RX0, "<init>", "()V"⟩
def dkwX0_init_1 : List UInt8 := [188, 8, 181, 0, 16, 177]
abbrev dktX0_init_1 : List UInt8 := dkwX0_init_1 ++ []
def dkwX0_init_0 : List UInt8 := [42, 183, 0, 1, 42, 16, 64, 188, 8, 181, 0, 7, 42, 16, 32, 188, 8, 181, 0, 13, 42, 16, 32]
abbrev dktX0_init_0 : List UInt8 := dkwX0_init_0 ++ dktX0_init_1
theorem dksX0_init_0 : cX0_init.data.toList.drop 0 = dktX0_init_0 := by decide +kernel
theorem dksX0_init_1 : cX0_init.data.toList.drop 23 = dktX0_init_1 := dk_seg dksX0_init_0 23 rfl rfl
theorem dX0_init_0 : decode cX0_init 0 = .ok (.aload_n 0, 1) := dk_42 (dk_at dksX0_init_0 0 rfl rfl)
theorem dX0_init_1 : decode cX0_init 1 = .ok (.invokespecial 1, 3) := dk_183 0 1 (dk_at dksX0_init_0 1 rfl rfl)
theorem dX0_init_4 : decode cX0_init 4 = .ok (.aload_n 0, 1) := dk_42 (dk_at dksX0_init_0 4 rfl rfl)
theorem dX0_init_5 : decode cX0_init 5 = .ok (.bipush 64, 2) := dk_16 64 (dk_at dksX0_init_0 5 rfl rfl)
theorem dX0_init_7 : decode cX0_init 7 = .ok (.newarray .byte, 2) := dk_188_8 (dk_at dksX0_init_0 7 rfl rfl)
theorem dX0_init_9 : decode cX0_init 9 = .ok (.putfield 7, 3) := dk_181 0 7 (dk_at dksX0_init_0 9 rfl rfl)
theorem dX0_init_12 : decode cX0_init 12 = .ok (.aload_n 0, 1) := dk_42 (dk_at dksX0_init_0 12 rfl rfl)
theorem dX0_init_13 : decode cX0_init 13 = .ok (.bipush 32, 2) := dk_16 32 (dk_at dksX0_init_0 13 rfl rfl)
theorem dX0_init_15 : decode cX0_init 15 = .ok (.newarray .byte, 2) := dk_188_8 (dk_at dksX0_init_0 15 rfl rfl)
theorem dX0_init_17 : decode cX0_init 17 = .ok (.putfield 13, 3) := dk_181 0 13 (dk_at dksX0_init_0 17 rfl rfl)
theorem dX0_init_20 : decode cX0_init 20 = .ok (.aload_n 0, 1) := dk_42 (dk_at dksX0_init_0 20 rfl rfl)
theorem dX0_init_21 : decode cX0_init 21 = .ok (.bipush 32, 2) := dk_16 32 (dk_at dksX0_init_0 21 rfl rfl)
theorem dX0_init_23 : decode cX0_init 23 = .ok (.newarray .byte, 2) := dk_188_8 (dk_at dksX0_init_1 0 rfl rfl)
theorem dX0_init_25 : decode cX0_init 25 = .ok (.putfield 16, 3) := dk_181 0 16 (dk_at dksX0_init_1 2 rfl rfl)
theorem dX0_init_28 : decode cX0_init 28 = .ok (.return_, 1) := dk_177 (dk_at dksX0_init_1 5 rfl rfl)
abbrev cX0_key : ByteArray := prog_8_method_3_code
def yX0_key : MethodName := ⟨RX0, "key", "(IIIII)V"⟩
def dkwX0_key_2 : List UInt8 := [21, 6, 16, 12, 96, 21, 5, 184, 0, 19, 177]
abbrev dktX0_key_2 : List UInt8 := dkwX0_key_2 ++ []
def dkwX0_key_1 : List UInt8 := [96, 29, 184, 0, 19, 42, 180, 0, 7, 21, 6, 16, 8, 96, 21, 4, 184, 0, 19, 42, 180, 0, 7]
abbrev dktX0_key_1 : List UInt8 := dkwX0_key_1 ++ dktX0_key_2
def dkwX0_key_0 : List UInt8 := [27, 6, 126, 7, 120, 54, 6, 42, 180, 0, 7, 21, 6, 28, 184, 0, 19, 42, 180, 0, 7, 21, 6, 7]
abbrev dktX0_key_0 : List UInt8 := dkwX0_key_0 ++ dktX0_key_1
theorem dksX0_key_0 : cX0_key.data.toList.drop 0 = dktX0_key_0 := by decide +kernel
theorem dksX0_key_1 : cX0_key.data.toList.drop 24 = dktX0_key_1 := dk_seg dksX0_key_0 24 rfl rfl
theorem dksX0_key_2 : cX0_key.data.toList.drop 47 = dktX0_key_2 := dk_seg dksX0_key_1 23 rfl rfl
theorem dX0_key_0 : decode cX0_key 0 = .ok (.iload_n 1, 1) := dk_27 (dk_at dksX0_key_0 0 rfl rfl)
theorem dX0_key_1 : decode cX0_key 1 = .ok (.iconst 3, 1) := dk_6 (dk_at dksX0_key_0 1 rfl rfl)
theorem dX0_key_2 : decode cX0_key 2 = .ok (.iand, 1) := dk_126 (dk_at dksX0_key_0 2 rfl rfl)
theorem dX0_key_3 : decode cX0_key 3 = .ok (.iconst 4, 1) := dk_7 (dk_at dksX0_key_0 3 rfl rfl)
theorem dX0_key_4 : decode cX0_key 4 = .ok (.ishl, 1) := dk_120 (dk_at dksX0_key_0 4 rfl rfl)
theorem dX0_key_5 : decode cX0_key 5 = .ok (.istore 6, 2) := dk_54 6 (dk_at dksX0_key_0 5 rfl rfl)
theorem dX0_key_7 : decode cX0_key 7 = .ok (.aload_n 0, 1) := dk_42 (dk_at dksX0_key_0 7 rfl rfl)
theorem dX0_key_8 : decode cX0_key 8 = .ok (.getfield 7, 3) := dk_180 0 7 (dk_at dksX0_key_0 8 rfl rfl)
theorem dX0_key_11 : decode cX0_key 11 = .ok (.iload 6, 2) := dk_21 6 (dk_at dksX0_key_0 11 rfl rfl)
theorem dX0_key_13 : decode cX0_key 13 = .ok (.iload_n 2, 1) := dk_28 (dk_at dksX0_key_0 13 rfl rfl)
theorem dX0_key_14 : decode cX0_key 14 = .ok (.invokestatic 19, 3) := dk_184 0 19 (dk_at dksX0_key_0 14 rfl rfl)
theorem dX0_key_17 : decode cX0_key 17 = .ok (.aload_n 0, 1) := dk_42 (dk_at dksX0_key_0 17 rfl rfl)
theorem dX0_key_18 : decode cX0_key 18 = .ok (.getfield 7, 3) := dk_180 0 7 (dk_at dksX0_key_0 18 rfl rfl)
theorem dX0_key_21 : decode cX0_key 21 = .ok (.iload 6, 2) := dk_21 6 (dk_at dksX0_key_0 21 rfl rfl)
theorem dX0_key_23 : decode cX0_key 23 = .ok (.iconst 4, 1) := dk_7 (dk_at dksX0_key_0 23 rfl rfl)
theorem dX0_key_24 : decode cX0_key 24 = .ok (.iadd, 1) := dk_96 (dk_at dksX0_key_1 0 rfl rfl)
theorem dX0_key_25 : decode cX0_key 25 = .ok (.iload_n 3, 1) := dk_29 (dk_at dksX0_key_1 1 rfl rfl)
theorem dX0_key_26 : decode cX0_key 26 = .ok (.invokestatic 19, 3) := dk_184 0 19 (dk_at dksX0_key_1 2 rfl rfl)
theorem dX0_key_29 : decode cX0_key 29 = .ok (.aload_n 0, 1) := dk_42 (dk_at dksX0_key_1 5 rfl rfl)
theorem dX0_key_30 : decode cX0_key 30 = .ok (.getfield 7, 3) := dk_180 0 7 (dk_at dksX0_key_1 6 rfl rfl)
theorem dX0_key_33 : decode cX0_key 33 = .ok (.iload 6, 2) := dk_21 6 (dk_at dksX0_key_1 9 rfl rfl)
theorem dX0_key_35 : decode cX0_key 35 = .ok (.bipush 8, 2) := dk_16 8 (dk_at dksX0_key_1 11 rfl rfl)
theorem dX0_key_37 : decode cX0_key 37 = .ok (.iadd, 1) := dk_96 (dk_at dksX0_key_1 13 rfl rfl)
theorem dX0_key_38 : decode cX0_key 38 = .ok (.iload 4, 2) := dk_21 4 (dk_at dksX0_key_1 14 rfl rfl)
theorem dX0_key_40 : decode cX0_key 40 = .ok (.invokestatic 19, 3) := dk_184 0 19 (dk_at dksX0_key_1 16 rfl rfl)
theorem dX0_key_43 : decode cX0_key 43 = .ok (.aload_n 0, 1) := dk_42 (dk_at dksX0_key_1 19 rfl rfl)
theorem dX0_key_44 : decode cX0_key 44 = .ok (.getfield 7, 3) := dk_180 0 7 (dk_at dksX0_key_1 20 rfl rfl)
theorem dX0_key_47 : decode cX0_key 47 = .ok (.iload 6, 2) := dk_21 6 (dk_at dksX0_key_2 0 rfl rfl)
theorem dX0_key_49 : decode cX0_key 49 = .ok (.bipush 12, 2) := dk_16 12 (dk_at dksX0_key_2 2 rfl rfl)
theorem dX0_key_51 : decode cX0_key 51 = .ok (.iadd, 1) := dk_96 (dk_at dksX0_key_2 4 rfl rfl)
theorem dX0_key_52 : decode cX0_key 52 = .ok (.iload 5, 2) := dk_21 5 (dk_at dksX0_key_2 5 rfl rfl)
theorem dX0_key_54 : decode cX0_key 54 = .ok (.invokestatic 19, 3) := dk_184 0 19 (dk_at dksX0_key_2 7 rfl rfl)
theorem dX0_key_57 : decode cX0_key 57 = .ok (.return_, 1) := dk_177 (dk_at dksX0_key_2 10 rfl rfl)
abbrev cX0_word : ByteArray := prog_8_method_2_code
def yX0_word : MethodName := ⟨RX0, "word", "([BII)V"⟩
def dkwX0_word_1 : List UInt8 := [16, 8, 122, 145, 84, 42, 27, 6, 96, 28, 145, 84, 177]
abbrev dktX0_word_1 : List UInt8 := dkwX0_word_1 ++ []
def dkwX0_word_0 : List UInt8 := [42, 27, 28, 16, 24, 122, 145, 84, 42, 27, 4, 96, 28, 16, 16, 122, 145, 84, 42, 27, 5, 96, 28]
abbrev dktX0_word_0 : List UInt8 := dkwX0_word_0 ++ dktX0_word_1
theorem dksX0_word_0 : cX0_word.data.toList.drop 0 = dktX0_word_0 := by decide +kernel
theorem dksX0_word_1 : cX0_word.data.toList.drop 23 = dktX0_word_1 := dk_seg dksX0_word_0 23 rfl rfl
theorem dX0_word_0 : decode cX0_word 0 = .ok (.aload_n 0, 1) := dk_42 (dk_at dksX0_word_0 0 rfl rfl)
theorem dX0_word_1 : decode cX0_word 1 = .ok (.iload_n 1, 1) := dk_27 (dk_at dksX0_word_0 1 rfl rfl)
theorem dX0_word_2 : decode cX0_word 2 = .ok (.iload_n 2, 1) := dk_28 (dk_at dksX0_word_0 2 rfl rfl)
theorem dX0_word_3 : decode cX0_word 3 = .ok (.bipush 24, 2) := dk_16 24 (dk_at dksX0_word_0 3 rfl rfl)
theorem dX0_word_5 : decode cX0_word 5 = .ok (.ishr, 1) := dk_122 (dk_at dksX0_word_0 5 rfl rfl)
theorem dX0_word_6 : decode cX0_word 6 = .ok (.i2b, 1) := dk_145 (dk_at dksX0_word_0 6 rfl rfl)
theorem dX0_word_7 : decode cX0_word 7 = .ok (.bastore, 1) := dk_84 (dk_at dksX0_word_0 7 rfl rfl)
theorem dX0_word_8 : decode cX0_word 8 = .ok (.aload_n 0, 1) := dk_42 (dk_at dksX0_word_0 8 rfl rfl)
theorem dX0_word_9 : decode cX0_word 9 = .ok (.iload_n 1, 1) := dk_27 (dk_at dksX0_word_0 9 rfl rfl)
theorem dX0_word_10 : decode cX0_word 10 = .ok (.iconst 1, 1) := dk_4 (dk_at dksX0_word_0 10 rfl rfl)
theorem dX0_word_11 : decode cX0_word 11 = .ok (.iadd, 1) := dk_96 (dk_at dksX0_word_0 11 rfl rfl)
theorem dX0_word_12 : decode cX0_word 12 = .ok (.iload_n 2, 1) := dk_28 (dk_at dksX0_word_0 12 rfl rfl)
theorem dX0_word_13 : decode cX0_word 13 = .ok (.bipush 16, 2) := dk_16 16 (dk_at dksX0_word_0 13 rfl rfl)
theorem dX0_word_15 : decode cX0_word 15 = .ok (.ishr, 1) := dk_122 (dk_at dksX0_word_0 15 rfl rfl)
theorem dX0_word_16 : decode cX0_word 16 = .ok (.i2b, 1) := dk_145 (dk_at dksX0_word_0 16 rfl rfl)
theorem dX0_word_17 : decode cX0_word 17 = .ok (.bastore, 1) := dk_84 (dk_at dksX0_word_0 17 rfl rfl)
theorem dX0_word_18 : decode cX0_word 18 = .ok (.aload_n 0, 1) := dk_42 (dk_at dksX0_word_0 18 rfl rfl)
theorem dX0_word_19 : decode cX0_word 19 = .ok (.iload_n 1, 1) := dk_27 (dk_at dksX0_word_0 19 rfl rfl)
theorem dX0_word_20 : decode cX0_word 20 = .ok (.iconst 2, 1) := dk_5 (dk_at dksX0_word_0 20 rfl rfl)
theorem dX0_word_21 : decode cX0_word 21 = .ok (.iadd, 1) := dk_96 (dk_at dksX0_word_0 21 rfl rfl)
theorem dX0_word_22 : decode cX0_word 22 = .ok (.iload_n 2, 1) := dk_28 (dk_at dksX0_word_0 22 rfl rfl)
theorem dX0_word_23 : decode cX0_word 23 = .ok (.bipush 8, 2) := dk_16 8 (dk_at dksX0_word_1 0 rfl rfl)
theorem dX0_word_25 : decode cX0_word 25 = .ok (.ishr, 1) := dk_122 (dk_at dksX0_word_1 2 rfl rfl)
theorem dX0_word_26 : decode cX0_word 26 = .ok (.i2b, 1) := dk_145 (dk_at dksX0_word_1 3 rfl rfl)
theorem dX0_word_27 : decode cX0_word 27 = .ok (.bastore, 1) := dk_84 (dk_at dksX0_word_1 4 rfl rfl)
theorem dX0_word_28 : decode cX0_word 28 = .ok (.aload_n 0, 1) := dk_42 (dk_at dksX0_word_1 5 rfl rfl)
theorem dX0_word_29 : decode cX0_word 29 = .ok (.iload_n 1, 1) := dk_27 (dk_at dksX0_word_1 6 rfl rfl)
theorem dX0_word_30 : decode cX0_word 30 = .ok (.iconst 3, 1) := dk_6 (dk_at dksX0_word_1 7 rfl rfl)
theorem dX0_word_31 : decode cX0_word 31 = .ok (.iadd, 1) := dk_96 (dk_at dksX0_word_1 8 rfl rfl)
theorem dX0_word_32 : decode cX0_word 32 = .ok (.iload_n 2, 1) := dk_28 (dk_at dksX0_word_1 9 rfl rfl)
theorem dX0_word_33 : decode cX0_word 33 = .ok (.i2b, 1) := dk_145 (dk_at dksX0_word_1 10 rfl rfl)
theorem dX0_word_34 : decode cX0_word 34 = .ok (.bastore, 1) := dk_84 (dk_at dksX0_word_1 11 rfl rfl)
theorem dX0_word_35 : decode cX0_word 35 = .ok (.return_, 1) := dk_177 (dk_at dksX0_word_1 12 rfl rfl)
abbrev cX0_block : ByteArray := prog_8_method_4_code
def yX0_block : MethodName := ⟨RX0, "block", "(IIIII)V"⟩
def dkwX0_block_2 : List UInt8 := [21, 6, 16, 12, 96, 21, 5, 184, 0, 19, 177]
abbrev dktX0_block_2 : List UInt8 := dkwX0_block_2 ++ []
def dkwX0_block_1 : List UInt8 := [96, 29, 184, 0, 19, 42, 180, 0, 13, 21, 6, 16, 8, 96, 21, 4, 184, 0, 19, 42, 180, 0, 13]
abbrev dktX0_block_1 : List UInt8 := dkwX0_block_1 ++ dktX0_block_2
def dkwX0_block_0 : List UInt8 := [27, 4, 126, 7, 120, 54, 6, 42, 180, 0, 13, 21, 6, 28, 184, 0, 19, 42, 180, 0, 13, 21, 6, 7]
abbrev dktX0_block_0 : List UInt8 := dkwX0_block_0 ++ dktX0_block_1
theorem dksX0_block_0 : cX0_block.data.toList.drop 0 = dktX0_block_0 := by decide +kernel
theorem dksX0_block_1 : cX0_block.data.toList.drop 24 = dktX0_block_1 := dk_seg dksX0_block_0 24 rfl rfl
theorem dksX0_block_2 : cX0_block.data.toList.drop 47 = dktX0_block_2 := dk_seg dksX0_block_1 23 rfl rfl
theorem dX0_block_0 : decode cX0_block 0 = .ok (.iload_n 1, 1) := dk_27 (dk_at dksX0_block_0 0 rfl rfl)
theorem dX0_block_1 : decode cX0_block 1 = .ok (.iconst 1, 1) := dk_4 (dk_at dksX0_block_0 1 rfl rfl)
theorem dX0_block_2 : decode cX0_block 2 = .ok (.iand, 1) := dk_126 (dk_at dksX0_block_0 2 rfl rfl)
theorem dX0_block_3 : decode cX0_block 3 = .ok (.iconst 4, 1) := dk_7 (dk_at dksX0_block_0 3 rfl rfl)
theorem dX0_block_4 : decode cX0_block 4 = .ok (.ishl, 1) := dk_120 (dk_at dksX0_block_0 4 rfl rfl)
theorem dX0_block_5 : decode cX0_block 5 = .ok (.istore 6, 2) := dk_54 6 (dk_at dksX0_block_0 5 rfl rfl)
theorem dX0_block_7 : decode cX0_block 7 = .ok (.aload_n 0, 1) := dk_42 (dk_at dksX0_block_0 7 rfl rfl)
theorem dX0_block_8 : decode cX0_block 8 = .ok (.getfield 13, 3) := dk_180 0 13 (dk_at dksX0_block_0 8 rfl rfl)
theorem dX0_block_11 : decode cX0_block 11 = .ok (.iload 6, 2) := dk_21 6 (dk_at dksX0_block_0 11 rfl rfl)
theorem dX0_block_13 : decode cX0_block 13 = .ok (.iload_n 2, 1) := dk_28 (dk_at dksX0_block_0 13 rfl rfl)
theorem dX0_block_14 : decode cX0_block 14 = .ok (.invokestatic 19, 3) := dk_184 0 19 (dk_at dksX0_block_0 14 rfl rfl)
theorem dX0_block_17 : decode cX0_block 17 = .ok (.aload_n 0, 1) := dk_42 (dk_at dksX0_block_0 17 rfl rfl)
theorem dX0_block_18 : decode cX0_block 18 = .ok (.getfield 13, 3) := dk_180 0 13 (dk_at dksX0_block_0 18 rfl rfl)
theorem dX0_block_21 : decode cX0_block 21 = .ok (.iload 6, 2) := dk_21 6 (dk_at dksX0_block_0 21 rfl rfl)
theorem dX0_block_23 : decode cX0_block 23 = .ok (.iconst 4, 1) := dk_7 (dk_at dksX0_block_0 23 rfl rfl)
theorem dX0_block_24 : decode cX0_block 24 = .ok (.iadd, 1) := dk_96 (dk_at dksX0_block_1 0 rfl rfl)
theorem dX0_block_25 : decode cX0_block 25 = .ok (.iload_n 3, 1) := dk_29 (dk_at dksX0_block_1 1 rfl rfl)
theorem dX0_block_26 : decode cX0_block 26 = .ok (.invokestatic 19, 3) := dk_184 0 19 (dk_at dksX0_block_1 2 rfl rfl)
theorem dX0_block_29 : decode cX0_block 29 = .ok (.aload_n 0, 1) := dk_42 (dk_at dksX0_block_1 5 rfl rfl)
theorem dX0_block_30 : decode cX0_block 30 = .ok (.getfield 13, 3) := dk_180 0 13 (dk_at dksX0_block_1 6 rfl rfl)
theorem dX0_block_33 : decode cX0_block 33 = .ok (.iload 6, 2) := dk_21 6 (dk_at dksX0_block_1 9 rfl rfl)
theorem dX0_block_35 : decode cX0_block 35 = .ok (.bipush 8, 2) := dk_16 8 (dk_at dksX0_block_1 11 rfl rfl)
theorem dX0_block_37 : decode cX0_block 37 = .ok (.iadd, 1) := dk_96 (dk_at dksX0_block_1 13 rfl rfl)
theorem dX0_block_38 : decode cX0_block 38 = .ok (.iload 4, 2) := dk_21 4 (dk_at dksX0_block_1 14 rfl rfl)
theorem dX0_block_40 : decode cX0_block 40 = .ok (.invokestatic 19, 3) := dk_184 0 19 (dk_at dksX0_block_1 16 rfl rfl)
theorem dX0_block_43 : decode cX0_block 43 = .ok (.aload_n 0, 1) := dk_42 (dk_at dksX0_block_1 19 rfl rfl)
theorem dX0_block_44 : decode cX0_block 44 = .ok (.getfield 13, 3) := dk_180 0 13 (dk_at dksX0_block_1 20 rfl rfl)
theorem dX0_block_47 : decode cX0_block 47 = .ok (.iload 6, 2) := dk_21 6 (dk_at dksX0_block_2 0 rfl rfl)
theorem dX0_block_49 : decode cX0_block 49 = .ok (.bipush 12, 2) := dk_16 12 (dk_at dksX0_block_2 2 rfl rfl)
theorem dX0_block_51 : decode cX0_block 51 = .ok (.iadd, 1) := dk_96 (dk_at dksX0_block_2 4 rfl rfl)
theorem dX0_block_52 : decode cX0_block 52 = .ok (.iload 5, 2) := dk_21 5 (dk_at dksX0_block_2 5 rfl rfl)
theorem dX0_block_54 : decode cX0_block 54 = .ok (.invokestatic 19, 3) := dk_184 0 19 (dk_at dksX0_block_2 7 rfl rfl)
theorem dX0_block_57 : decode cX0_block 57 = .ok (.return_, 1) := dk_177 (dk_at dksX0_block_2 10 rfl rfl)
abbrev cX0_lock : ByteArray := prog_8_method_6_code
def yX0_lock : MethodName := ⟨RX0, "lock", "(I)V"⟩
def dkwX0_lock_0 : List UInt8 := [42, 4, 27, 182, 0, 41, 177]
abbrev dktX0_lock_0 : List UInt8 := dkwX0_lock_0 ++ []
theorem dksX0_lock_0 : cX0_lock.data.toList.drop 0 = dktX0_lock_0 := by decide +kernel
theorem dX0_lock_0 : decode cX0_lock 0 = .ok (.aload_n 0, 1) := dk_42 (dk_at dksX0_lock_0 0 rfl rfl)
theorem dX0_lock_1 : decode cX0_lock 1 = .ok (.iconst 1, 1) := dk_4 (dk_at dksX0_lock_0 1 rfl rfl)
theorem dX0_lock_2 : decode cX0_lock 2 = .ok (.iload_n 1, 1) := dk_27 (dk_at dksX0_lock_0 2 rfl rfl)
theorem dX0_lock_3 : decode cX0_lock 3 = .ok (.invokevirtual 41, 3) := dk_182 0 41 (dk_at dksX0_lock_0 3 rfl rfl)
theorem dX0_lock_6 : decode cX0_lock 6 = .ok (.return_, 1) := dk_177 (dk_at dksX0_lock_0 6 rfl rfl)
abbrev cX0_run : ByteArray := prog_8_method_5_code
def yX0_run : MethodName := ⟨RX0, "run", "(ZI)V"⟩
def dkwX0_run_3 : List UInt8 := [185, 0, 37, 5, 0, 87, 177]
abbrev dktX0_run_3 : List UInt8 := dkwX0_run_3 ++ []
def dkwX0_run_2 : List UInt8 := [45, 183, 0, 28, 185, 0, 31, 3, 0, 25, 4, 42, 180, 0, 13, 3, 42, 180, 0, 16, 3]
abbrev dktX0_run_2 : List UInt8 := dkwX0_run_2 ++ dktX0_run_3
def dkwX0_run_1 : List UInt8 := [51, 84, 132, 4, 1, 167, 255, 235, 187, 0, 23, 89, 183, 0, 25, 58, 4, 25, 4, 27, 187, 0, 26, 89]
abbrev dktX0_run_1 : List UInt8 := dkwX0_run_1 ++ dktX0_run_2
def dkwX0_run_0 : List UInt8 := [16, 64, 188, 8, 78, 3, 54, 4, 21, 4, 45, 190, 162, 0, 20, 45, 21, 4, 42, 180, 0, 7, 21, 4]
abbrev dktX0_run_0 : List UInt8 := dkwX0_run_0 ++ dktX0_run_1
theorem dksX0_run_0 : cX0_run.data.toList.drop 0 = dktX0_run_0 := by decide +kernel
theorem dksX0_run_1 : cX0_run.data.toList.drop 24 = dktX0_run_1 := dk_seg dksX0_run_0 24 rfl rfl
theorem dksX0_run_2 : cX0_run.data.toList.drop 48 = dktX0_run_2 := dk_seg dksX0_run_1 24 rfl rfl
theorem dksX0_run_3 : cX0_run.data.toList.drop 69 = dktX0_run_3 := dk_seg dksX0_run_2 21 rfl rfl
theorem dX0_run_0 : decode cX0_run 0 = .ok (.bipush 64, 2) := dk_16 64 (dk_at dksX0_run_0 0 rfl rfl)
theorem dX0_run_2 : decode cX0_run 2 = .ok (.newarray .byte, 2) := dk_188_8 (dk_at dksX0_run_0 2 rfl rfl)
theorem dX0_run_4 : decode cX0_run 4 = .ok (.astore_n 3, 1) := dk_78 (dk_at dksX0_run_0 4 rfl rfl)
theorem dX0_run_5 : decode cX0_run 5 = .ok (.iconst 0, 1) := dk_3 (dk_at dksX0_run_0 5 rfl rfl)
theorem dX0_run_6 : decode cX0_run 6 = .ok (.istore 4, 2) := dk_54 4 (dk_at dksX0_run_0 6 rfl rfl)
theorem dX0_run_8 : decode cX0_run 8 = .ok (.iload 4, 2) := dk_21 4 (dk_at dksX0_run_0 8 rfl rfl)
theorem dX0_run_10 : decode cX0_run 10 = .ok (.aload_n 3, 1) := dk_45 (dk_at dksX0_run_0 10 rfl rfl)
theorem dX0_run_11 : decode cX0_run 11 = .ok (.arraylength, 1) := dk_190 (dk_at dksX0_run_0 11 rfl rfl)
theorem dX0_run_12 : decode cX0_run 12 = .ok (.if_icmp .ge 20, 3) := dk_162 0 20 (dk_at dksX0_run_0 12 rfl rfl)
theorem dX0_run_15 : decode cX0_run 15 = .ok (.aload_n 3, 1) := dk_45 (dk_at dksX0_run_0 15 rfl rfl)
theorem dX0_run_16 : decode cX0_run 16 = .ok (.iload 4, 2) := dk_21 4 (dk_at dksX0_run_0 16 rfl rfl)
theorem dX0_run_18 : decode cX0_run 18 = .ok (.aload_n 0, 1) := dk_42 (dk_at dksX0_run_0 18 rfl rfl)
theorem dX0_run_19 : decode cX0_run 19 = .ok (.getfield 7, 3) := dk_180 0 7 (dk_at dksX0_run_0 19 rfl rfl)
theorem dX0_run_22 : decode cX0_run 22 = .ok (.iload 4, 2) := dk_21 4 (dk_at dksX0_run_0 22 rfl rfl)
theorem dX0_run_24 : decode cX0_run 24 = .ok (.baload, 1) := dk_51 (dk_at dksX0_run_1 0 rfl rfl)
theorem dX0_run_25 : decode cX0_run 25 = .ok (.bastore, 1) := dk_84 (dk_at dksX0_run_1 1 rfl rfl)
theorem dX0_run_26 : decode cX0_run 26 = .ok (.iinc 4 1, 3) := dk_132 4 1 (dk_at dksX0_run_1 2 rfl rfl)
theorem dX0_run_29 : decode cX0_run 29 = .ok (.goto (-21), 3) := dk_167 255 235 (dk_at dksX0_run_1 5 rfl rfl)
theorem dX0_run_32 : decode cX0_run 32 = .ok (.new 23, 3) := dk_187 0 23 (dk_at dksX0_run_1 8 rfl rfl)
theorem dX0_run_35 : decode cX0_run 35 = .ok (.dup, 1) := dk_89 (dk_at dksX0_run_1 11 rfl rfl)
theorem dX0_run_36 : decode cX0_run 36 = .ok (.invokespecial 25, 3) := dk_183 0 25 (dk_at dksX0_run_1 12 rfl rfl)
theorem dX0_run_39 : decode cX0_run 39 = .ok (.astore 4, 2) := dk_58 4 (dk_at dksX0_run_1 15 rfl rfl)
theorem dX0_run_41 : decode cX0_run 41 = .ok (.aload 4, 2) := dk_25 4 (dk_at dksX0_run_1 17 rfl rfl)
theorem dX0_run_43 : decode cX0_run 43 = .ok (.iload_n 1, 1) := dk_27 (dk_at dksX0_run_1 19 rfl rfl)
theorem dX0_run_44 : decode cX0_run 44 = .ok (.new 26, 3) := dk_187 0 26 (dk_at dksX0_run_1 20 rfl rfl)
theorem dX0_run_47 : decode cX0_run 47 = .ok (.dup, 1) := dk_89 (dk_at dksX0_run_1 23 rfl rfl)
theorem dX0_run_48 : decode cX0_run 48 = .ok (.aload_n 3, 1) := dk_45 (dk_at dksX0_run_2 0 rfl rfl)
theorem dX0_run_49 : decode cX0_run 49 = .ok (.invokespecial 28, 3) := dk_183 0 28 (dk_at dksX0_run_2 1 rfl rfl)
theorem dX0_run_52 : decode cX0_run 52 = .ok (.invokeinterface 31 3, 5) := by decide +kernel
theorem dX0_run_57 : decode cX0_run 57 = .ok (.aload 4, 2) := dk_25 4 (dk_at dksX0_run_2 9 rfl rfl)
theorem dX0_run_59 : decode cX0_run 59 = .ok (.aload_n 0, 1) := dk_42 (dk_at dksX0_run_2 11 rfl rfl)
theorem dX0_run_60 : decode cX0_run 60 = .ok (.getfield 13, 3) := dk_180 0 13 (dk_at dksX0_run_2 12 rfl rfl)
theorem dX0_run_63 : decode cX0_run 63 = .ok (.iconst 0, 1) := dk_3 (dk_at dksX0_run_2 15 rfl rfl)
theorem dX0_run_64 : decode cX0_run 64 = .ok (.aload_n 0, 1) := dk_42 (dk_at dksX0_run_2 16 rfl rfl)
theorem dX0_run_65 : decode cX0_run 65 = .ok (.getfield 16, 3) := dk_180 0 16 (dk_at dksX0_run_2 17 rfl rfl)
theorem dX0_run_68 : decode cX0_run 68 = .ok (.iconst 0, 1) := dk_3 (dk_at dksX0_run_2 20 rfl rfl)
theorem dX0_run_69 : decode cX0_run 69 = .ok (.invokeinterface 37 5, 5) := by decide +kernel
theorem dX0_run_74 : decode cX0_run 74 = .ok (.pop, 1) := dk_87 (dk_at dksX0_run_3 5 rfl rfl)
theorem dX0_run_75 : decode cX0_run 75 = .ok (.return_, 1) := dk_177 (dk_at dksX0_run_3 6 rfl rfl)
abbrev cX0_open : ByteArray := prog_8_method_7_code
def yX0_open : MethodName := ⟨RX0, "open", "(I)V"⟩
def dkwX0_open_0 : List UInt8 := [42, 3, 27, 182, 0, 41, 177]
abbrev dktX0_open_0 : List UInt8 := dkwX0_open_0 ++ []
theorem dksX0_open_0 : cX0_open.data.toList.drop 0 = dktX0_open_0 := by decide +kernel
theorem dX0_open_0 : decode cX0_open 0 = .ok (.aload_n 0, 1) := dk_42 (dk_at dksX0_open_0 0 rfl rfl)
theorem dX0_open_1 : decode cX0_open 1 = .ok (.iconst 0, 1) := dk_3 (dk_at dksX0_open_0 1 rfl rfl)
theorem dX0_open_2 : decode cX0_open 2 = .ok (.iload_n 1, 1) := dk_27 (dk_at dksX0_open_0 2 rfl rfl)
theorem dX0_open_3 : decode cX0_open 3 = .ok (.invokevirtual 41, 3) := dk_182 0 41 (dk_at dksX0_open_0 3 rfl rfl)
theorem dX0_open_6 : decode cX0_open 6 = .ok (.return_, 1) := dk_177 (dk_at dksX0_open_0 6 rfl rfl)
abbrev cX0_again : ByteArray := prog_8_method_8_code
def yX0_again : MethodName := ⟨RX0, "again", "()V"⟩
def dkwX0_again_1 : List UInt8 := [167, 255, 235, 177]
abbrev dktX0_again_1 : List UInt8 := dkwX0_again_1 ++ []
def dkwX0_again_0 : List UInt8 := [3, 60, 27, 16, 32, 162, 0, 21, 42, 180, 0, 13, 27, 42, 180, 0, 16, 27, 51, 84, 132, 1, 1]
abbrev dktX0_again_0 : List UInt8 := dkwX0_again_0 ++ dktX0_again_1
theorem dksX0_again_0 : cX0_again.data.toList.drop 0 = dktX0_again_0 := by decide +kernel
theorem dksX0_again_1 : cX0_again.data.toList.drop 23 = dktX0_again_1 := dk_seg dksX0_again_0 23 rfl rfl
theorem dX0_again_0 : decode cX0_again 0 = .ok (.iconst 0, 1) := dk_3 (dk_at dksX0_again_0 0 rfl rfl)
theorem dX0_again_1 : decode cX0_again 1 = .ok (.istore_n 1, 1) := dk_60 (dk_at dksX0_again_0 1 rfl rfl)
theorem dX0_again_2 : decode cX0_again 2 = .ok (.iload_n 1, 1) := dk_27 (dk_at dksX0_again_0 2 rfl rfl)
theorem dX0_again_3 : decode cX0_again 3 = .ok (.bipush 32, 2) := dk_16 32 (dk_at dksX0_again_0 3 rfl rfl)
theorem dX0_again_5 : decode cX0_again 5 = .ok (.if_icmp .ge 21, 3) := dk_162 0 21 (dk_at dksX0_again_0 5 rfl rfl)
theorem dX0_again_8 : decode cX0_again 8 = .ok (.aload_n 0, 1) := dk_42 (dk_at dksX0_again_0 8 rfl rfl)
theorem dX0_again_9 : decode cX0_again 9 = .ok (.getfield 13, 3) := dk_180 0 13 (dk_at dksX0_again_0 9 rfl rfl)
theorem dX0_again_12 : decode cX0_again 12 = .ok (.iload_n 1, 1) := dk_27 (dk_at dksX0_again_0 12 rfl rfl)
theorem dX0_again_13 : decode cX0_again 13 = .ok (.aload_n 0, 1) := dk_42 (dk_at dksX0_again_0 13 rfl rfl)
theorem dX0_again_14 : decode cX0_again 14 = .ok (.getfield 16, 3) := dk_180 0 16 (dk_at dksX0_again_0 14 rfl rfl)
theorem dX0_again_17 : decode cX0_again 17 = .ok (.iload_n 1, 1) := dk_27 (dk_at dksX0_again_0 17 rfl rfl)
theorem dX0_again_18 : decode cX0_again 18 = .ok (.baload, 1) := dk_51 (dk_at dksX0_again_0 18 rfl rfl)
theorem dX0_again_19 : decode cX0_again 19 = .ok (.bastore, 1) := dk_84 (dk_at dksX0_again_0 19 rfl rfl)
theorem dX0_again_20 : decode cX0_again 20 = .ok (.iinc 1 1, 3) := dk_132 1 1 (dk_at dksX0_again_0 20 rfl rfl)
theorem dX0_again_23 : decode cX0_again 23 = .ok (.goto (-21), 3) := dk_167 255 235 (dk_at dksX0_again_1 0 rfl rfl)
theorem dX0_again_26 : decode cX0_again 26 = .ok (.return_, 1) := dk_177 (dk_at dksX0_again_1 3 rfl rfl)
abbrev cX0_out : ByteArray := prog_8_method_9_code
def yX0_out : MethodName := ⟨RX0, "out", "(I)I"⟩
def dkwX0_out_0 : List UInt8 := [42, 180, 0, 16, 27, 16, 31, 126, 51, 17, 0, 255, 126, 172]
abbrev dktX0_out_0 : List UInt8 := dkwX0_out_0 ++ []
theorem dksX0_out_0 : cX0_out.data.toList.drop 0 = dktX0_out_0 := by decide +kernel
theorem dX0_out_0 : decode cX0_out 0 = .ok (.aload_n 0, 1) := dk_42 (dk_at dksX0_out_0 0 rfl rfl)
theorem dX0_out_1 : decode cX0_out 1 = .ok (.getfield 16, 3) := dk_180 0 16 (dk_at dksX0_out_0 1 rfl rfl)
theorem dX0_out_4 : decode cX0_out 4 = .ok (.iload_n 1, 1) := dk_27 (dk_at dksX0_out_0 4 rfl rfl)
theorem dX0_out_5 : decode cX0_out 5 = .ok (.bipush 31, 2) := dk_16 31 (dk_at dksX0_out_0 5 rfl rfl)
theorem dX0_out_7 : decode cX0_out 7 = .ok (.iand, 1) := dk_126 (dk_at dksX0_out_0 7 rfl rfl)
theorem dX0_out_8 : decode cX0_out 8 = .ok (.baload, 1) := dk_51 (dk_at dksX0_out_0 8 rfl rfl)
theorem dX0_out_9 : decode cX0_out 9 = .ok (.sipush 255, 3) := dk_17 0 255 (dk_at dksX0_out_0 9 rfl rfl)
theorem dX0_out_12 : decode cX0_out 12 = .ok (.iand, 1) := dk_126 (dk_at dksX0_out_0 12 rfl rfl)
theorem dX0_out_13 : decode cX0_out 13 = .ok (.ireturn, 1) := dk_172 (dk_at dksX0_out_0 13 rfl rfl)
theorem q10 : (Jvm.Cond.initialized "ShacalDesk") ∈ lw_all := lw_g (lw_at lw_m1 1 rfl) rfl
theorem q24 : (Jvm.Cond.instantiable "ShacalDesk" (3 : Nat)) ∈ lw_all := lw_g (lw_at lw_m1 15 rfl) rfl
theorem q26 : (Jvm.Cond.instanceMethod ({ cls := "ShacalDesk", name := "<init>", desc := "()V" } : Jvm.MethodName)) ∈ lw_all := lw_g (lw_at lw_m1 17 rfl) rfl
theorem q27 : (Jvm.Cond.code ({ cls := "ShacalDesk", name := "<init>", desc := "()V" } : Jvm.MethodName) prog_8_method_1_code (1 : Nat) (Option.none : Option Jvm.ClassFile.FieldType)) ∈ lw_all := lw_g (lw_at lw_m1 18 rfl) rfl
theorem q28 : (Jvm.Cond.methodLink "ShacalDesk" (1 : Nat) ({ cls := "java/lang/Object", name := "<init>", desc := "()V" } : Jvm.MethodName)) ∈ lw_all := lw_g (lw_at lw_m1 19 rfl) rfl
theorem q31 : (Jvm.Cond.fieldLink "ShacalDesk" (7 : Nat) "ShacalDesk" "key" "[B") ∈ lw_all := lw_g (lw_at lw_m1 22 rfl) rfl
theorem q32 : (Jvm.Cond.fieldLink "ShacalDesk" (13 : Nat) "ShacalDesk" "block" "[B") ∈ lw_all := lw_g (lw_at lw_m1 23 rfl) rfl
theorem q33 : (Jvm.Cond.fieldLink "ShacalDesk" (16 : Nat) "ShacalDesk" "out" "[B") ∈ lw_all := lw_g (lw_at lw_m1 24 rfl) rfl
theorem q34 : (Jvm.Cond.laysFinal "ShacalDesk" "ShacalDesk" "key" "[B") ∈ lw_all := lw_g (lw_at lw_m1 25 rfl) rfl
theorem q35 : (Jvm.Cond.soleField "ShacalDesk" "key") ∈ lw_all := lw_g (lw_at lw_m1 26 rfl) rfl
theorem q36 : (Jvm.Cond.laysFinal "ShacalDesk" "ShacalDesk" "block" "[B") ∈ lw_all := lw_g (lw_at lw_m1 27 rfl) rfl
theorem q37 : (Jvm.Cond.soleField "ShacalDesk" "block") ∈ lw_all := lw_g (lw_at lw_m1 28 rfl) rfl
theorem q38 : (Jvm.Cond.laysFinal "ShacalDesk" "ShacalDesk" "out" "[B") ∈ lw_all := lw_g (lw_at lw_m1 29 rfl) rfl
theorem q39 : (Jvm.Cond.soleField "ShacalDesk" "out") ∈ lw_all := lw_g (lw_at lw_m1 30 rfl) rfl
theorem q40 : (Jvm.Cond.superclass "ShacalDesk" "java/lang/Object") ∈ lw_all := lw_g (lw_at lw_m1 31 rfl) rfl
theorem q43 : (Jvm.Cond.instanceMethod ({ cls := "ShacalDesk", name := "key", desc := "(IIIII)V" } : Jvm.MethodName)) ∈ lw_all := lw_g (lw_at lw_m1 34 rfl) rfl
theorem q44 : (Jvm.Cond.selects "ShacalDesk" ({ cls := "ShacalDesk", name := "key", desc := "(IIIII)V" } : Jvm.MethodName) ({ cls := "ShacalDesk", name := "key", desc := "(IIIII)V" } : Jvm.MethodName)) ∈ lw_all := lw_g (lw_at lw_m1 35 rfl) rfl
theorem q45 : (Jvm.Cond.code ({ cls := "ShacalDesk", name := "key", desc := "(IIIII)V" } : Jvm.MethodName) prog_8_method_3_code (7 : Nat) (Option.none : Option Jvm.ClassFile.FieldType)) ∈ lw_all := lw_g (lw_at lw_m1 36 rfl) rfl
theorem q46 : (Jvm.Cond.methodLink "ShacalDesk" (19 : Nat) ({ cls := "ShacalDesk", name := "word", desc := "([BII)V" } : Jvm.MethodName)) ∈ lw_all := lw_g (lw_at lw_m1 37 rfl) rfl
theorem q47 : (Jvm.Cond.static ({ cls := "ShacalDesk", name := "word", desc := "([BII)V" } : Jvm.MethodName)) ∈ lw_all := lw_g (lw_at lw_m1 38 rfl) rfl
theorem q48 : (Jvm.Cond.code ({ cls := "ShacalDesk", name := "word", desc := "([BII)V" } : Jvm.MethodName) prog_8_method_2_code (3 : Nat) (Option.none : Option Jvm.ClassFile.FieldType)) ∈ lw_all := lw_g (lw_at lw_m1 39 rfl) rfl
theorem q50 : (Jvm.Cond.instanceMethod ({ cls := "ShacalDesk", name := "block", desc := "(IIIII)V" } : Jvm.MethodName)) ∈ lw_all := lw_g (lw_at lw_m1 41 rfl) rfl
theorem q51 : (Jvm.Cond.selects "ShacalDesk" ({ cls := "ShacalDesk", name := "block", desc := "(IIIII)V" } : Jvm.MethodName) ({ cls := "ShacalDesk", name := "block", desc := "(IIIII)V" } : Jvm.MethodName)) ∈ lw_all := lw_g (lw_at lw_m1 42 rfl) rfl
theorem q52 : (Jvm.Cond.code ({ cls := "ShacalDesk", name := "block", desc := "(IIIII)V" } : Jvm.MethodName) prog_8_method_4_code (7 : Nat) (Option.none : Option Jvm.ClassFile.FieldType)) ∈ lw_all := lw_g (lw_at lw_m1 43 rfl) rfl
theorem q54 : (Jvm.Cond.instanceMethod ({ cls := "ShacalDesk", name := "lock", desc := "(I)V" } : Jvm.MethodName)) ∈ lw_all := lw_g (lw_at lw_m1 45 rfl) rfl
theorem q55 : (Jvm.Cond.selects "ShacalDesk" ({ cls := "ShacalDesk", name := "lock", desc := "(I)V" } : Jvm.MethodName) ({ cls := "ShacalDesk", name := "lock", desc := "(I)V" } : Jvm.MethodName)) ∈ lw_all := lw_g (lw_at lw_m1 46 rfl) rfl
theorem q56 : (Jvm.Cond.code ({ cls := "ShacalDesk", name := "lock", desc := "(I)V" } : Jvm.MethodName) prog_8_method_6_code (2 : Nat) (Option.none : Option Jvm.ClassFile.FieldType)) ∈ lw_all := lw_g (lw_at lw_m1 47 rfl) rfl
theorem q57 : (Jvm.Cond.methodLink "ShacalDesk" (41 : Nat) ({ cls := "ShacalDesk", name := "run", desc := "(ZI)V" } : Jvm.MethodName)) ∈ lw_all := lw_g (lw_at lw_m1 48 rfl) rfl
theorem q58 : (Jvm.Cond.privateMethod ({ cls := "ShacalDesk", name := "run", desc := "(ZI)V" } : Jvm.MethodName)) ∈ lw_tbl := lw_at lw_m1 49 rfl
theorem q59 : (Jvm.Cond.instanceMethod ({ cls := "ShacalDesk", name := "run", desc := "(ZI)V" } : Jvm.MethodName)) ∈ lw_all := lw_g (lw_at lw_m1 50 rfl) rfl
theorem q60 : (Jvm.Cond.code ({ cls := "ShacalDesk", name := "run", desc := "(ZI)V" } : Jvm.MethodName) prog_8_method_5_code (5 : Nat) (Option.none : Option Jvm.ClassFile.FieldType)) ∈ lw_all := lw_g (lw_at lw_m1 51 rfl) rfl
theorem q61 : (Jvm.Cond.classLink "ShacalDesk" (23 : Nat) "Shacal2Engine") ∈ lw_all := lw_g (lw_at lw_m1 52 rfl) rfl
theorem q63 : (Jvm.Cond.methodLink "ShacalDesk" (25 : Nat) ({ cls := "Shacal2Engine", name := "<init>", desc := "()V" } : Jvm.MethodName)) ∈ lw_all := lw_g (lw_at lw_m1 54 rfl) rfl
theorem q74 : (Jvm.Cond.classLink "ShacalDesk" (26 : Nat) "KeyParameter") ∈ lw_all := lw_g (lw_at lw_m1 65 rfl) rfl
theorem q76 : (Jvm.Cond.methodLink "ShacalDesk" (28 : Nat) ({ cls := "KeyParameter", name := "<init>", desc := "([B)V" } : Jvm.MethodName)) ∈ lw_all := lw_g (lw_at lw_m1 67 rfl) rfl
theorem q93 : (Jvm.Cond.interfaceEntry "ShacalDesk" (31 : Nat)) ∈ lw_tbl := lw_at lw_m1 84 rfl
theorem q94 : (Jvm.Cond.methodLink "ShacalDesk" (31 : Nat) ({ cls := "BlockCipher", name := "init", desc := "(ZLCipherParameters;)V" } : Jvm.MethodName)) ∈ lw_all := lw_g (lw_at lw_m1 85 rfl) rfl
theorem q185 : (Jvm.Cond.interfaceEntry "ShacalDesk" (37 : Nat)) ∈ lw_tbl := lw_at lw_m1 176 rfl
theorem q186 : (Jvm.Cond.methodLink "ShacalDesk" (37 : Nat) ({ cls := "BlockCipher", name := "processBlock", desc := "([BI[BI)I" } : Jvm.MethodName)) ∈ lw_all := lw_g (lw_at lw_m1 177 rfl) rfl
theorem q267 : (Jvm.Cond.instanceMethod ({ cls := "ShacalDesk", name := "open", desc := "(I)V" } : Jvm.MethodName)) ∈ lw_all := lw_g (lw_at lw_m2 18 rfl) rfl
theorem q268 : (Jvm.Cond.selects "ShacalDesk" ({ cls := "ShacalDesk", name := "open", desc := "(I)V" } : Jvm.MethodName) ({ cls := "ShacalDesk", name := "open", desc := "(I)V" } : Jvm.MethodName)) ∈ lw_all := lw_g (lw_at lw_m2 19 rfl) rfl
theorem q269 : (Jvm.Cond.code ({ cls := "ShacalDesk", name := "open", desc := "(I)V" } : Jvm.MethodName) prog_8_method_7_code (2 : Nat) (Option.none : Option Jvm.ClassFile.FieldType)) ∈ lw_all := lw_g (lw_at lw_m2 20 rfl) rfl
theorem q271 : (Jvm.Cond.instanceMethod ({ cls := "ShacalDesk", name := "again", desc := "()V" } : Jvm.MethodName)) ∈ lw_all := lw_g (lw_at lw_m2 22 rfl) rfl
theorem q272 : (Jvm.Cond.selects "ShacalDesk" ({ cls := "ShacalDesk", name := "again", desc := "()V" } : Jvm.MethodName) ({ cls := "ShacalDesk", name := "again", desc := "()V" } : Jvm.MethodName)) ∈ lw_all := lw_g (lw_at lw_m2 23 rfl) rfl
theorem q273 : (Jvm.Cond.code ({ cls := "ShacalDesk", name := "again", desc := "()V" } : Jvm.MethodName) prog_8_method_8_code (2 : Nat) (Option.none : Option Jvm.ClassFile.FieldType)) ∈ lw_all := lw_g (lw_at lw_m2 24 rfl) rfl
theorem q275 : (Jvm.Cond.instanceMethod ({ cls := "ShacalDesk", name := "out", desc := "(I)I" } : Jvm.MethodName)) ∈ lw_all := lw_g (lw_at lw_m2 26 rfl) rfl
theorem q276 : (Jvm.Cond.selects "ShacalDesk" ({ cls := "ShacalDesk", name := "out", desc := "(I)I" } : Jvm.MethodName) ({ cls := "ShacalDesk", name := "out", desc := "(I)I" } : Jvm.MethodName)) ∈ lw_all := lw_g (lw_at lw_m2 27 rfl) rfl
theorem q277 : (Jvm.Cond.code ({ cls := "ShacalDesk", name := "out", desc := "(I)I" } : Jvm.MethodName) prog_8_method_9_code (2 : Nat) (Option.some Jvm.ClassFile.FieldType.int)) ∈ lw_all := lw_g (lw_at lw_m2 28 rfl) rfl
theorem in_X0 : ∀ w ∈ wsX00, w ∈ lw_all := lw_in wsX00 [34, 36, 38] (by decide +kernel) (by decide +kernel)
/-! KeyParameter -/
set_option maxRecDepth 100000
def RX3 : String := "KeyParameter"
def TX3 : u_T := fun k => match k with
  | _ => ("KeyParameter", "key", "[B", false)
def tyX3 : Nat → FieldType := fun k => match k with
  | _ => .array .byte
abbrev wsX30 : List Cond := u_ws RX3 TX3 1
theorem nmX3 : ∀ a, a < 1 → ∀ b, b < 1 → a ≠ b → (TX3 a).2.1 ≠ (TX3 b).2.1 := by decide +kernel
theorem tyX3_ok : ∀ k, k < 1 → parseFieldDescriptor (TX3 k).2.2.1 = some (tyX3 k) := by decide +kernel
abbrev cX3_init : ByteArray := prog_4_method_1_code
def yX3_init : MethodName := ⟨RX3, "<init>", "([B)V"⟩
def dkwX3_init_0 : List UInt8 := [42, 43, 3, 43, 190, 183, 0, 1, 177]
abbrev dktX3_init_0 : List UInt8 := dkwX3_init_0 ++ []
theorem dksX3_init_0 : cX3_init.data.toList.drop 0 = dktX3_init_0 := by decide +kernel
theorem dX3_init_0 : decode cX3_init 0 = .ok (.aload_n 0, 1) := dk_42 (dk_at dksX3_init_0 0 rfl rfl)
theorem dX3_init_1 : decode cX3_init 1 = .ok (.aload_n 1, 1) := dk_43 (dk_at dksX3_init_0 1 rfl rfl)
theorem dX3_init_2 : decode cX3_init 2 = .ok (.iconst 0, 1) := dk_3 (dk_at dksX3_init_0 2 rfl rfl)
theorem dX3_init_3 : decode cX3_init 3 = .ok (.aload_n 1, 1) := dk_43 (dk_at dksX3_init_0 3 rfl rfl)
theorem dX3_init_4 : decode cX3_init 4 = .ok (.arraylength, 1) := dk_190 (dk_at dksX3_init_0 4 rfl rfl)
theorem dX3_init_5 : decode cX3_init 5 = .ok (.invokespecial 1, 3) := dk_183 0 1 (dk_at dksX3_init_0 5 rfl rfl)
theorem dX3_init_8 : decode cX3_init 8 = .ok (.return_, 1) := dk_177 (dk_at dksX3_init_0 8 rfl rfl)
abbrev cX3_init_2 : ByteArray := prog_4_method_2_code
def yX3_init_2 : MethodName := ⟨RX3, "<init>", "([BII)V"⟩
def dkwX3_init_2_0 : List UInt8 := [42, 29, 183, 0, 7, 43, 28, 42, 180, 0, 10, 3, 29, 184, 0, 14, 177]
abbrev dktX3_init_2_0 : List UInt8 := dkwX3_init_2_0 ++ []
theorem dksX3_init_2_0 : cX3_init_2.data.toList.drop 0 = dktX3_init_2_0 := by decide +kernel
theorem dX3_init_2_0 : decode cX3_init_2 0 = .ok (.aload_n 0, 1) := dk_42 (dk_at dksX3_init_2_0 0 rfl rfl)
theorem dX3_init_2_1 : decode cX3_init_2 1 = .ok (.iload_n 3, 1) := dk_29 (dk_at dksX3_init_2_0 1 rfl rfl)
theorem dX3_init_2_2 : decode cX3_init_2 2 = .ok (.invokespecial 7, 3) := dk_183 0 7 (dk_at dksX3_init_2_0 2 rfl rfl)
theorem dX3_init_2_5 : decode cX3_init_2 5 = .ok (.aload_n 1, 1) := dk_43 (dk_at dksX3_init_2_0 5 rfl rfl)
theorem dX3_init_2_6 : decode cX3_init_2 6 = .ok (.iload_n 2, 1) := dk_28 (dk_at dksX3_init_2_0 6 rfl rfl)
theorem dX3_init_2_7 : decode cX3_init_2 7 = .ok (.aload_n 0, 1) := dk_42 (dk_at dksX3_init_2_0 7 rfl rfl)
theorem dX3_init_2_8 : decode cX3_init_2 8 = .ok (.getfield 10, 3) := dk_180 0 10 (dk_at dksX3_init_2_0 8 rfl rfl)
theorem dX3_init_2_11 : decode cX3_init_2 11 = .ok (.iconst 0, 1) := dk_3 (dk_at dksX3_init_2_0 11 rfl rfl)
theorem dX3_init_2_12 : decode cX3_init_2 12 = .ok (.iload_n 3, 1) := dk_29 (dk_at dksX3_init_2_0 12 rfl rfl)
theorem dX3_init_2_13 : decode cX3_init_2 13 = .ok (.invokestatic 14, 3) := dk_184 0 14 (dk_at dksX3_init_2_0 13 rfl rfl)
theorem dX3_init_2_16 : decode cX3_init_2 16 = .ok (.return_, 1) := dk_177 (dk_at dksX3_init_2_0 16 rfl rfl)
abbrev cX3_init_3 : ByteArray := prog_4_method_3_code
def yX3_init_3 : MethodName := ⟨RX3, "<init>", "(I)V"⟩
def dkwX3_init_3_0 : List UInt8 := [42, 183, 0, 20, 42, 27, 188, 8, 181, 0, 10, 177]
abbrev dktX3_init_3_0 : List UInt8 := dkwX3_init_3_0 ++ []
theorem dksX3_init_3_0 : cX3_init_3.data.toList.drop 0 = dktX3_init_3_0 := by decide +kernel
theorem dX3_init_3_0 : decode cX3_init_3 0 = .ok (.aload_n 0, 1) := dk_42 (dk_at dksX3_init_3_0 0 rfl rfl)
theorem dX3_init_3_1 : decode cX3_init_3 1 = .ok (.invokespecial 20, 3) := dk_183 0 20 (dk_at dksX3_init_3_0 1 rfl rfl)
theorem dX3_init_3_4 : decode cX3_init_3 4 = .ok (.aload_n 0, 1) := dk_42 (dk_at dksX3_init_3_0 4 rfl rfl)
theorem dX3_init_3_5 : decode cX3_init_3 5 = .ok (.iload_n 1, 1) := dk_27 (dk_at dksX3_init_3_0 5 rfl rfl)
theorem dX3_init_3_6 : decode cX3_init_3 6 = .ok (.newarray .byte, 2) := dk_188_8 (dk_at dksX3_init_3_0 6 rfl rfl)
theorem dX3_init_3_8 : decode cX3_init_3 8 = .ok (.putfield 10, 3) := dk_181 0 10 (dk_at dksX3_init_3_0 8 rfl rfl)
theorem dX3_init_3_11 : decode cX3_init_3 11 = .ok (.return_, 1) := dk_177 (dk_at dksX3_init_3_0 11 rfl rfl)
abbrev cX3_getKey : ByteArray := prog_4_method_4_code
def yX3_getKey : MethodName := ⟨RX3, "getKey", "()[B"⟩
theorem dX3_getKey_0 : decode cX3_getKey 0 = .ok (.aload_n 0, 1) := by decide +kernel
theorem dX3_getKey_1 : decode cX3_getKey 1 = .ok (.getfield 10, 3) := by decide +kernel
theorem dX3_getKey_4 : decode cX3_getKey 4 = .ok (.areturn, 1) := by decide +kernel
theorem q13 : (Jvm.Cond.initialized "KeyParameter") ∈ lw_all := lw_g (lw_at lw_m1 4 rfl) rfl
theorem q75 : (Jvm.Cond.instantiable "KeyParameter" (1 : Nat)) ∈ lw_all := lw_g (lw_at lw_m1 66 rfl) rfl
theorem q77 : (Jvm.Cond.instanceMethod ({ cls := "KeyParameter", name := "<init>", desc := "([B)V" } : Jvm.MethodName)) ∈ lw_all := lw_g (lw_at lw_m1 68 rfl) rfl
theorem q78 : (Jvm.Cond.code ({ cls := "KeyParameter", name := "<init>", desc := "([B)V" } : Jvm.MethodName) prog_4_method_1_code (2 : Nat) (Option.none : Option Jvm.ClassFile.FieldType)) ∈ lw_all := lw_g (lw_at lw_m1 69 rfl) rfl
theorem q79 : (Jvm.Cond.methodLink "KeyParameter" (1 : Nat) ({ cls := "KeyParameter", name := "<init>", desc := "([BII)V" } : Jvm.MethodName)) ∈ lw_all := lw_g (lw_at lw_m1 70 rfl) rfl
theorem q80 : (Jvm.Cond.instanceMethod ({ cls := "KeyParameter", name := "<init>", desc := "([BII)V" } : Jvm.MethodName)) ∈ lw_all := lw_g (lw_at lw_m1 71 rfl) rfl
theorem q81 : (Jvm.Cond.code ({ cls := "KeyParameter", name := "<init>", desc := "([BII)V" } : Jvm.MethodName) prog_4_method_2_code (4 : Nat) (Option.none : Option Jvm.ClassFile.FieldType)) ∈ lw_all := lw_g (lw_at lw_m1 72 rfl) rfl
theorem q82 : (Jvm.Cond.methodLink "KeyParameter" (7 : Nat) ({ cls := "KeyParameter", name := "<init>", desc := "(I)V" } : Jvm.MethodName)) ∈ lw_all := lw_g (lw_at lw_m1 73 rfl) rfl
theorem q83 : (Jvm.Cond.instanceMethod ({ cls := "KeyParameter", name := "<init>", desc := "(I)V" } : Jvm.MethodName)) ∈ lw_all := lw_g (lw_at lw_m1 74 rfl) rfl
theorem q84 : (Jvm.Cond.code ({ cls := "KeyParameter", name := "<init>", desc := "(I)V" } : Jvm.MethodName) prog_4_method_3_code (2 : Nat) (Option.none : Option Jvm.ClassFile.FieldType)) ∈ lw_all := lw_g (lw_at lw_m1 75 rfl) rfl
theorem q85 : (Jvm.Cond.methodLink "KeyParameter" (20 : Nat) ({ cls := "java/lang/Object", name := "<init>", desc := "()V" } : Jvm.MethodName)) ∈ lw_all := lw_g (lw_at lw_m1 76 rfl) rfl
theorem q86 : (Jvm.Cond.fieldLink "KeyParameter" (10 : Nat) "KeyParameter" "key" "[B") ∈ lw_all := lw_g (lw_at lw_m1 77 rfl) rfl
theorem q87 : (Jvm.Cond.lays "KeyParameter" "KeyParameter" "key" "[B") ∈ lw_all := lw_g (lw_at lw_m1 78 rfl) rfl
theorem q88 : (Jvm.Cond.soleField "KeyParameter" "key") ∈ lw_all := lw_g (lw_at lw_m1 79 rfl) rfl
theorem q89 : (Jvm.Cond.superclass "KeyParameter" "java/lang/Object") ∈ lw_all := lw_g (lw_at lw_m1 80 rfl) rfl
theorem q90 : (Jvm.Cond.methodLink "KeyParameter" (14 : Nat) ({ cls := "java/lang/System", name := "arraycopy", desc := "(Ljava/lang/Object;ILjava/lang/Object;II)V" } : Jvm.MethodName)) ∈ lw_all := lw_g (lw_at lw_m1 81 rfl) rfl
theorem q173 : (Jvm.Cond.instanceMethod ({ cls := "KeyParameter", name := "getKey", desc := "()[B" } : Jvm.MethodName)) ∈ lw_all := lw_g (lw_at lw_m1 164 rfl) rfl
theorem q174 : (Jvm.Cond.selects "KeyParameter" ({ cls := "KeyParameter", name := "getKey", desc := "()[B" } : Jvm.MethodName) ({ cls := "KeyParameter", name := "getKey", desc := "()[B" } : Jvm.MethodName)) ∈ lw_all := lw_g (lw_at lw_m1 165 rfl) rfl
theorem q175 : (Jvm.Cond.code ({ cls := "KeyParameter", name := "getKey", desc := "()[B" } : Jvm.MethodName) prog_4_method_4_code (1 : Nat) (Option.some (Jvm.ClassFile.FieldType.array Jvm.ClassFile.FieldType.byte))) ∈ lw_all := lw_g (lw_at lw_m1 166 rfl) rfl
theorem in_X3 : ∀ w ∈ wsX30, w ∈ lw_all := lw_in wsX30 [87] (by decide +kernel) (by decide +kernel)
end
section
/-! ShacalDeskModel -/
set_option maxRecDepth 100000
def RX1 : String := "ShacalDeskModel"
def TX1 : u_T := fun k => match k with
  | 0 => ("ShacalDeskModel", "key", "[I", true)
  | 1 => ("ShacalDeskModel", "block", "[I", true)
  | _ => ("ShacalDeskModel", "out", "[I", true)
def tyX1 : Nat → FieldType := fun k => match k with
  | 0 => .array .int
  | 1 => .array .int
  | _ => .array .int
abbrev wsX10 : List Cond := u_ws RX1 TX1 3
theorem nmX1 : ∀ a, a < 3 → ∀ b, b < 3 → a ≠ b → (TX1 a).2.1 ≠ (TX1 b).2.1 := by decide +kernel
theorem tyX1_ok : ∀ k, k < 3 → parseFieldDescriptor (TX1 k).2.2.1 = some (tyX1 k) := by decide +kernel
abbrev cX1_init : ByteArray := prog_10_method_1_code
def yX1_init : MethodName := ⟨RX1, "<init>", "()V"⟩
def dkwX1_init_1 : List UInt8 := [188, 10, 181, 0, 16, 177]
abbrev dktX1_init_1 : List UInt8 := dkwX1_init_1 ++ []
def dkwX1_init_0 : List UInt8 := [42, 183, 0, 1, 42, 16, 16, 188, 10, 181, 0, 7, 42, 16, 8, 188, 10, 181, 0, 13, 42, 16, 8]
abbrev dktX1_init_0 : List UInt8 := dkwX1_init_0 ++ dktX1_init_1
theorem dksX1_init_0 : cX1_init.data.toList.drop 0 = dktX1_init_0 := by decide +kernel
theorem dksX1_init_1 : cX1_init.data.toList.drop 23 = dktX1_init_1 := dk_seg dksX1_init_0 23 rfl rfl
theorem dX1_init_0 : decode cX1_init 0 = .ok (.aload_n 0, 1) := dk_42 (dk_at dksX1_init_0 0 rfl rfl)
theorem dX1_init_1 : decode cX1_init 1 = .ok (.invokespecial 1, 3) := dk_183 0 1 (dk_at dksX1_init_0 1 rfl rfl)
theorem dX1_init_4 : decode cX1_init 4 = .ok (.aload_n 0, 1) := dk_42 (dk_at dksX1_init_0 4 rfl rfl)
theorem dX1_init_5 : decode cX1_init 5 = .ok (.bipush 16, 2) := dk_16 16 (dk_at dksX1_init_0 5 rfl rfl)
theorem dX1_init_7 : decode cX1_init 7 = .ok (.newarray .int, 2) := dk_188_10 (dk_at dksX1_init_0 7 rfl rfl)
theorem dX1_init_9 : decode cX1_init 9 = .ok (.putfield 7, 3) := dk_181 0 7 (dk_at dksX1_init_0 9 rfl rfl)
theorem dX1_init_12 : decode cX1_init 12 = .ok (.aload_n 0, 1) := dk_42 (dk_at dksX1_init_0 12 rfl rfl)
theorem dX1_init_13 : decode cX1_init 13 = .ok (.bipush 8, 2) := dk_16 8 (dk_at dksX1_init_0 13 rfl rfl)
theorem dX1_init_15 : decode cX1_init 15 = .ok (.newarray .int, 2) := dk_188_10 (dk_at dksX1_init_0 15 rfl rfl)
theorem dX1_init_17 : decode cX1_init 17 = .ok (.putfield 13, 3) := dk_181 0 13 (dk_at dksX1_init_0 17 rfl rfl)
theorem dX1_init_20 : decode cX1_init 20 = .ok (.aload_n 0, 1) := dk_42 (dk_at dksX1_init_0 20 rfl rfl)
theorem dX1_init_21 : decode cX1_init 21 = .ok (.bipush 8, 2) := dk_16 8 (dk_at dksX1_init_0 21 rfl rfl)
theorem dX1_init_23 : decode cX1_init 23 = .ok (.newarray .int, 2) := dk_188_10 (dk_at dksX1_init_1 0 rfl rfl)
theorem dX1_init_25 : decode cX1_init 25 = .ok (.putfield 16, 3) := dk_181 0 16 (dk_at dksX1_init_1 2 rfl rfl)
theorem dX1_init_28 : decode cX1_init 28 = .ok (.return_, 1) := dk_177 (dk_at dksX1_init_1 5 rfl rfl)
abbrev cX1_key : ByteArray := prog_10_method_2_code
def yX1_key : MethodName := ⟨RX1, "key", "(IIIII)V"⟩
def dkwX1_key_1 : List UInt8 := [79, 42, 180, 0, 7, 21, 6, 5, 96, 21, 4, 79, 42, 180, 0, 7, 21, 6, 6, 96, 21, 5, 79, 177]
abbrev dktX1_key_1 : List UInt8 := dkwX1_key_1 ++ []
def dkwX1_key_0 : List UInt8 := [7, 27, 6, 126, 104, 54, 6, 42, 180, 0, 7, 21, 6, 28, 79, 42, 180, 0, 7, 21, 6, 4, 96, 29]
abbrev dktX1_key_0 : List UInt8 := dkwX1_key_0 ++ dktX1_key_1
theorem dksX1_key_0 : cX1_key.data.toList.drop 0 = dktX1_key_0 := by decide +kernel
theorem dksX1_key_1 : cX1_key.data.toList.drop 24 = dktX1_key_1 := dk_seg dksX1_key_0 24 rfl rfl
theorem dX1_key_0 : decode cX1_key 0 = .ok (.iconst 4, 1) := dk_7 (dk_at dksX1_key_0 0 rfl rfl)
theorem dX1_key_1 : decode cX1_key 1 = .ok (.iload_n 1, 1) := dk_27 (dk_at dksX1_key_0 1 rfl rfl)
theorem dX1_key_2 : decode cX1_key 2 = .ok (.iconst 3, 1) := dk_6 (dk_at dksX1_key_0 2 rfl rfl)
theorem dX1_key_3 : decode cX1_key 3 = .ok (.iand, 1) := dk_126 (dk_at dksX1_key_0 3 rfl rfl)
theorem dX1_key_4 : decode cX1_key 4 = .ok (.imul, 1) := dk_104 (dk_at dksX1_key_0 4 rfl rfl)
theorem dX1_key_5 : decode cX1_key 5 = .ok (.istore 6, 2) := dk_54 6 (dk_at dksX1_key_0 5 rfl rfl)
theorem dX1_key_7 : decode cX1_key 7 = .ok (.aload_n 0, 1) := dk_42 (dk_at dksX1_key_0 7 rfl rfl)
theorem dX1_key_8 : decode cX1_key 8 = .ok (.getfield 7, 3) := dk_180 0 7 (dk_at dksX1_key_0 8 rfl rfl)
theorem dX1_key_11 : decode cX1_key 11 = .ok (.iload 6, 2) := dk_21 6 (dk_at dksX1_key_0 11 rfl rfl)
theorem dX1_key_13 : decode cX1_key 13 = .ok (.iload_n 2, 1) := dk_28 (dk_at dksX1_key_0 13 rfl rfl)
theorem dX1_key_14 : decode cX1_key 14 = .ok (.iastore, 1) := dk_79 (dk_at dksX1_key_0 14 rfl rfl)
theorem dX1_key_15 : decode cX1_key 15 = .ok (.aload_n 0, 1) := dk_42 (dk_at dksX1_key_0 15 rfl rfl)
theorem dX1_key_16 : decode cX1_key 16 = .ok (.getfield 7, 3) := dk_180 0 7 (dk_at dksX1_key_0 16 rfl rfl)
theorem dX1_key_19 : decode cX1_key 19 = .ok (.iload 6, 2) := dk_21 6 (dk_at dksX1_key_0 19 rfl rfl)
theorem dX1_key_21 : decode cX1_key 21 = .ok (.iconst 1, 1) := dk_4 (dk_at dksX1_key_0 21 rfl rfl)
theorem dX1_key_22 : decode cX1_key 22 = .ok (.iadd, 1) := dk_96 (dk_at dksX1_key_0 22 rfl rfl)
theorem dX1_key_23 : decode cX1_key 23 = .ok (.iload_n 3, 1) := dk_29 (dk_at dksX1_key_0 23 rfl rfl)
theorem dX1_key_24 : decode cX1_key 24 = .ok (.iastore, 1) := dk_79 (dk_at dksX1_key_1 0 rfl rfl)
theorem dX1_key_25 : decode cX1_key 25 = .ok (.aload_n 0, 1) := dk_42 (dk_at dksX1_key_1 1 rfl rfl)
theorem dX1_key_26 : decode cX1_key 26 = .ok (.getfield 7, 3) := dk_180 0 7 (dk_at dksX1_key_1 2 rfl rfl)
theorem dX1_key_29 : decode cX1_key 29 = .ok (.iload 6, 2) := dk_21 6 (dk_at dksX1_key_1 5 rfl rfl)
theorem dX1_key_31 : decode cX1_key 31 = .ok (.iconst 2, 1) := dk_5 (dk_at dksX1_key_1 7 rfl rfl)
theorem dX1_key_32 : decode cX1_key 32 = .ok (.iadd, 1) := dk_96 (dk_at dksX1_key_1 8 rfl rfl)
theorem dX1_key_33 : decode cX1_key 33 = .ok (.iload 4, 2) := dk_21 4 (dk_at dksX1_key_1 9 rfl rfl)
theorem dX1_key_35 : decode cX1_key 35 = .ok (.iastore, 1) := dk_79 (dk_at dksX1_key_1 11 rfl rfl)
theorem dX1_key_36 : decode cX1_key 36 = .ok (.aload_n 0, 1) := dk_42 (dk_at dksX1_key_1 12 rfl rfl)
theorem dX1_key_37 : decode cX1_key 37 = .ok (.getfield 7, 3) := dk_180 0 7 (dk_at dksX1_key_1 13 rfl rfl)
theorem dX1_key_40 : decode cX1_key 40 = .ok (.iload 6, 2) := dk_21 6 (dk_at dksX1_key_1 16 rfl rfl)
theorem dX1_key_42 : decode cX1_key 42 = .ok (.iconst 3, 1) := dk_6 (dk_at dksX1_key_1 18 rfl rfl)
theorem dX1_key_43 : decode cX1_key 43 = .ok (.iadd, 1) := dk_96 (dk_at dksX1_key_1 19 rfl rfl)
theorem dX1_key_44 : decode cX1_key 44 = .ok (.iload 5, 2) := dk_21 5 (dk_at dksX1_key_1 20 rfl rfl)
theorem dX1_key_46 : decode cX1_key 46 = .ok (.iastore, 1) := dk_79 (dk_at dksX1_key_1 22 rfl rfl)
theorem dX1_key_47 : decode cX1_key 47 = .ok (.return_, 1) := dk_177 (dk_at dksX1_key_1 23 rfl rfl)
abbrev cX1_block : ByteArray := prog_10_method_3_code
def yX1_block : MethodName := ⟨RX1, "block", "(IIIII)V"⟩
def dkwX1_block_1 : List UInt8 := [79, 42, 180, 0, 13, 21, 6, 5, 96, 21, 4, 79, 42, 180, 0, 13, 21, 6, 6, 96, 21, 5, 79, 177]
abbrev dktX1_block_1 : List UInt8 := dkwX1_block_1 ++ []
def dkwX1_block_0 : List UInt8 := [7, 27, 4, 126, 104, 54, 6, 42, 180, 0, 13, 21, 6, 28, 79, 42, 180, 0, 13, 21, 6, 4, 96, 29]
abbrev dktX1_block_0 : List UInt8 := dkwX1_block_0 ++ dktX1_block_1
theorem dksX1_block_0 : cX1_block.data.toList.drop 0 = dktX1_block_0 := by decide +kernel
theorem dksX1_block_1 : cX1_block.data.toList.drop 24 = dktX1_block_1 := dk_seg dksX1_block_0 24 rfl rfl
theorem dX1_block_0 : decode cX1_block 0 = .ok (.iconst 4, 1) := dk_7 (dk_at dksX1_block_0 0 rfl rfl)
theorem dX1_block_1 : decode cX1_block 1 = .ok (.iload_n 1, 1) := dk_27 (dk_at dksX1_block_0 1 rfl rfl)
theorem dX1_block_2 : decode cX1_block 2 = .ok (.iconst 1, 1) := dk_4 (dk_at dksX1_block_0 2 rfl rfl)
theorem dX1_block_3 : decode cX1_block 3 = .ok (.iand, 1) := dk_126 (dk_at dksX1_block_0 3 rfl rfl)
theorem dX1_block_4 : decode cX1_block 4 = .ok (.imul, 1) := dk_104 (dk_at dksX1_block_0 4 rfl rfl)
theorem dX1_block_5 : decode cX1_block 5 = .ok (.istore 6, 2) := dk_54 6 (dk_at dksX1_block_0 5 rfl rfl)
theorem dX1_block_7 : decode cX1_block 7 = .ok (.aload_n 0, 1) := dk_42 (dk_at dksX1_block_0 7 rfl rfl)
theorem dX1_block_8 : decode cX1_block 8 = .ok (.getfield 13, 3) := dk_180 0 13 (dk_at dksX1_block_0 8 rfl rfl)
theorem dX1_block_11 : decode cX1_block 11 = .ok (.iload 6, 2) := dk_21 6 (dk_at dksX1_block_0 11 rfl rfl)
theorem dX1_block_13 : decode cX1_block 13 = .ok (.iload_n 2, 1) := dk_28 (dk_at dksX1_block_0 13 rfl rfl)
theorem dX1_block_14 : decode cX1_block 14 = .ok (.iastore, 1) := dk_79 (dk_at dksX1_block_0 14 rfl rfl)
theorem dX1_block_15 : decode cX1_block 15 = .ok (.aload_n 0, 1) := dk_42 (dk_at dksX1_block_0 15 rfl rfl)
theorem dX1_block_16 : decode cX1_block 16 = .ok (.getfield 13, 3) := dk_180 0 13 (dk_at dksX1_block_0 16 rfl rfl)
theorem dX1_block_19 : decode cX1_block 19 = .ok (.iload 6, 2) := dk_21 6 (dk_at dksX1_block_0 19 rfl rfl)
theorem dX1_block_21 : decode cX1_block 21 = .ok (.iconst 1, 1) := dk_4 (dk_at dksX1_block_0 21 rfl rfl)
theorem dX1_block_22 : decode cX1_block 22 = .ok (.iadd, 1) := dk_96 (dk_at dksX1_block_0 22 rfl rfl)
theorem dX1_block_23 : decode cX1_block 23 = .ok (.iload_n 3, 1) := dk_29 (dk_at dksX1_block_0 23 rfl rfl)
theorem dX1_block_24 : decode cX1_block 24 = .ok (.iastore, 1) := dk_79 (dk_at dksX1_block_1 0 rfl rfl)
theorem dX1_block_25 : decode cX1_block 25 = .ok (.aload_n 0, 1) := dk_42 (dk_at dksX1_block_1 1 rfl rfl)
theorem dX1_block_26 : decode cX1_block 26 = .ok (.getfield 13, 3) := dk_180 0 13 (dk_at dksX1_block_1 2 rfl rfl)
theorem dX1_block_29 : decode cX1_block 29 = .ok (.iload 6, 2) := dk_21 6 (dk_at dksX1_block_1 5 rfl rfl)
theorem dX1_block_31 : decode cX1_block 31 = .ok (.iconst 2, 1) := dk_5 (dk_at dksX1_block_1 7 rfl rfl)
theorem dX1_block_32 : decode cX1_block 32 = .ok (.iadd, 1) := dk_96 (dk_at dksX1_block_1 8 rfl rfl)
theorem dX1_block_33 : decode cX1_block 33 = .ok (.iload 4, 2) := dk_21 4 (dk_at dksX1_block_1 9 rfl rfl)
theorem dX1_block_35 : decode cX1_block 35 = .ok (.iastore, 1) := dk_79 (dk_at dksX1_block_1 11 rfl rfl)
theorem dX1_block_36 : decode cX1_block 36 = .ok (.aload_n 0, 1) := dk_42 (dk_at dksX1_block_1 12 rfl rfl)
theorem dX1_block_37 : decode cX1_block 37 = .ok (.getfield 13, 3) := dk_180 0 13 (dk_at dksX1_block_1 13 rfl rfl)
theorem dX1_block_40 : decode cX1_block 40 = .ok (.iload 6, 2) := dk_21 6 (dk_at dksX1_block_1 16 rfl rfl)
theorem dX1_block_42 : decode cX1_block 42 = .ok (.iconst 3, 1) := dk_6 (dk_at dksX1_block_1 18 rfl rfl)
theorem dX1_block_43 : decode cX1_block 43 = .ok (.iadd, 1) := dk_96 (dk_at dksX1_block_1 19 rfl rfl)
theorem dX1_block_44 : decode cX1_block 44 = .ok (.iload 5, 2) := dk_21 5 (dk_at dksX1_block_1 20 rfl rfl)
theorem dX1_block_46 : decode cX1_block 46 = .ok (.iastore, 1) := dk_79 (dk_at dksX1_block_1 22 rfl rfl)
theorem dX1_block_47 : decode cX1_block 47 = .ok (.return_, 1) := dk_177 (dk_at dksX1_block_1 23 rfl rfl)
abbrev cX1_lock : ByteArray := prog_10_method_4_code
def yX1_lock : MethodName := ⟨RX1, "lock", "(I)V"⟩
def dkwX1_lock_8 : List UInt8 := [182, 0, 40, 177]
abbrev dktX1_lock_8 : List UInt8 := dkwX1_lock_8 ++ []
def dkwX1_lock_7 : List UInt8 := [132, 11, 1, 167, 255, 163, 42, 29, 21, 4, 21, 5, 21, 6, 21, 7, 21, 8, 21, 9, 21, 10]
abbrev dktX1_lock_7 : List UInt8 := dkwX1_lock_7 ++ dktX1_lock_8
def dkwX1_lock_6 : List UInt8 := [21, 12, 96, 54, 7, 21, 5, 54, 6, 21, 4, 54, 5, 29, 54, 4, 21, 12, 21, 13, 96, 62]
abbrev dktX1_lock_6 : List UInt8 := dkwX1_lock_6 ++ dktX1_lock_7
def dkwX1_lock_5 : List UInt8 := [21, 4, 21, 5, 184, 0, 37, 96, 54, 13, 21, 9, 54, 10, 21, 8, 54, 9, 21, 7, 54, 8, 21, 6]
abbrev dktX1_lock_5 : List UInt8 := dkwX1_lock_5 ++ dktX1_lock_6
def dkwX1_lock_4 : List UInt8 := [184, 0, 27, 96, 178, 0, 31, 21, 11, 46, 96, 44, 21, 11, 46, 96, 54, 12, 29, 184, 0, 34, 29]
abbrev dktX1_lock_4 : List UInt8 := dkwX1_lock_4 ++ dktX1_lock_5
def dkwX1_lock_3 : List UInt8 := [54, 11, 21, 11, 16, 64, 162, 0, 92, 21, 10, 21, 7, 184, 0, 23, 96, 21, 7, 21, 8, 21, 9]
abbrev dktX1_lock_3 : List UInt8 := dkwX1_lock_3 ++ dktX1_lock_4
def dkwX1_lock_2 : List UInt8 := [8, 46, 54, 8, 42, 180, 0, 13, 16, 6, 46, 54, 9, 42, 180, 0, 13, 16, 7, 46, 54, 10, 3]
abbrev dktX1_lock_2 : List UInt8 := dkwX1_lock_2 ++ dktX1_lock_3
def dkwX1_lock_1 : List UInt8 := [5, 46, 54, 5, 42, 180, 0, 13, 6, 46, 54, 6, 42, 180, 0, 13, 7, 46, 54, 7, 42, 180, 0, 13]
abbrev dktX1_lock_1 : List UInt8 := dkwX1_lock_1 ++ dktX1_lock_2
def dkwX1_lock_0 : List UInt8 := [42, 182, 0, 19, 77, 42, 180, 0, 13, 3, 46, 62, 42, 180, 0, 13, 4, 46, 54, 4, 42, 180, 0, 13]
abbrev dktX1_lock_0 : List UInt8 := dkwX1_lock_0 ++ dktX1_lock_1
theorem dksX1_lock_0 : cX1_lock.data.toList.drop 0 = dktX1_lock_0 := by decide +kernel
theorem dksX1_lock_1 : cX1_lock.data.toList.drop 24 = dktX1_lock_1 := dk_seg dksX1_lock_0 24 rfl rfl
theorem dksX1_lock_2 : cX1_lock.data.toList.drop 48 = dktX1_lock_2 := dk_seg dksX1_lock_1 24 rfl rfl
theorem dksX1_lock_3 : cX1_lock.data.toList.drop 71 = dktX1_lock_3 := dk_seg dksX1_lock_2 23 rfl rfl
theorem dksX1_lock_4 : cX1_lock.data.toList.drop 94 = dktX1_lock_4 := dk_seg dksX1_lock_3 23 rfl rfl
theorem dksX1_lock_5 : cX1_lock.data.toList.drop 117 = dktX1_lock_5 := dk_seg dksX1_lock_4 23 rfl rfl
theorem dksX1_lock_6 : cX1_lock.data.toList.drop 141 = dktX1_lock_6 := dk_seg dksX1_lock_5 24 rfl rfl
theorem dksX1_lock_7 : cX1_lock.data.toList.drop 163 = dktX1_lock_7 := dk_seg dksX1_lock_6 22 rfl rfl
theorem dksX1_lock_8 : cX1_lock.data.toList.drop 185 = dktX1_lock_8 := dk_seg dksX1_lock_7 22 rfl rfl
theorem dX1_lock_0 : decode cX1_lock 0 = .ok (.aload_n 0, 1) := dk_42 (dk_at dksX1_lock_0 0 rfl rfl)
theorem dX1_lock_1 : decode cX1_lock 1 = .ok (.invokevirtual 19, 3) := dk_182 0 19 (dk_at dksX1_lock_0 1 rfl rfl)
theorem dX1_lock_4 : decode cX1_lock 4 = .ok (.astore_n 2, 1) := dk_77 (dk_at dksX1_lock_0 4 rfl rfl)
theorem dX1_lock_5 : decode cX1_lock 5 = .ok (.aload_n 0, 1) := dk_42 (dk_at dksX1_lock_0 5 rfl rfl)
theorem dX1_lock_6 : decode cX1_lock 6 = .ok (.getfield 13, 3) := dk_180 0 13 (dk_at dksX1_lock_0 6 rfl rfl)
theorem dX1_lock_9 : decode cX1_lock 9 = .ok (.iconst 0, 1) := dk_3 (dk_at dksX1_lock_0 9 rfl rfl)
theorem dX1_lock_10 : decode cX1_lock 10 = .ok (.iaload, 1) := dk_46 (dk_at dksX1_lock_0 10 rfl rfl)
theorem dX1_lock_11 : decode cX1_lock 11 = .ok (.istore_n 3, 1) := dk_62 (dk_at dksX1_lock_0 11 rfl rfl)
theorem dX1_lock_12 : decode cX1_lock 12 = .ok (.aload_n 0, 1) := dk_42 (dk_at dksX1_lock_0 12 rfl rfl)
theorem dX1_lock_13 : decode cX1_lock 13 = .ok (.getfield 13, 3) := dk_180 0 13 (dk_at dksX1_lock_0 13 rfl rfl)
theorem dX1_lock_16 : decode cX1_lock 16 = .ok (.iconst 1, 1) := dk_4 (dk_at dksX1_lock_0 16 rfl rfl)
theorem dX1_lock_17 : decode cX1_lock 17 = .ok (.iaload, 1) := dk_46 (dk_at dksX1_lock_0 17 rfl rfl)
theorem dX1_lock_18 : decode cX1_lock 18 = .ok (.istore 4, 2) := dk_54 4 (dk_at dksX1_lock_0 18 rfl rfl)
theorem dX1_lock_20 : decode cX1_lock 20 = .ok (.aload_n 0, 1) := dk_42 (dk_at dksX1_lock_0 20 rfl rfl)
theorem dX1_lock_21 : decode cX1_lock 21 = .ok (.getfield 13, 3) := dk_180 0 13 (dk_at dksX1_lock_0 21 rfl rfl)
theorem dX1_lock_24 : decode cX1_lock 24 = .ok (.iconst 2, 1) := dk_5 (dk_at dksX1_lock_1 0 rfl rfl)
theorem dX1_lock_25 : decode cX1_lock 25 = .ok (.iaload, 1) := dk_46 (dk_at dksX1_lock_1 1 rfl rfl)
theorem dX1_lock_26 : decode cX1_lock 26 = .ok (.istore 5, 2) := dk_54 5 (dk_at dksX1_lock_1 2 rfl rfl)
theorem dX1_lock_28 : decode cX1_lock 28 = .ok (.aload_n 0, 1) := dk_42 (dk_at dksX1_lock_1 4 rfl rfl)
theorem dX1_lock_29 : decode cX1_lock 29 = .ok (.getfield 13, 3) := dk_180 0 13 (dk_at dksX1_lock_1 5 rfl rfl)
theorem dX1_lock_32 : decode cX1_lock 32 = .ok (.iconst 3, 1) := dk_6 (dk_at dksX1_lock_1 8 rfl rfl)
theorem dX1_lock_33 : decode cX1_lock 33 = .ok (.iaload, 1) := dk_46 (dk_at dksX1_lock_1 9 rfl rfl)
theorem dX1_lock_34 : decode cX1_lock 34 = .ok (.istore 6, 2) := dk_54 6 (dk_at dksX1_lock_1 10 rfl rfl)
theorem dX1_lock_36 : decode cX1_lock 36 = .ok (.aload_n 0, 1) := dk_42 (dk_at dksX1_lock_1 12 rfl rfl)
theorem dX1_lock_37 : decode cX1_lock 37 = .ok (.getfield 13, 3) := dk_180 0 13 (dk_at dksX1_lock_1 13 rfl rfl)
theorem dX1_lock_40 : decode cX1_lock 40 = .ok (.iconst 4, 1) := dk_7 (dk_at dksX1_lock_1 16 rfl rfl)
theorem dX1_lock_41 : decode cX1_lock 41 = .ok (.iaload, 1) := dk_46 (dk_at dksX1_lock_1 17 rfl rfl)
theorem dX1_lock_42 : decode cX1_lock 42 = .ok (.istore 7, 2) := dk_54 7 (dk_at dksX1_lock_1 18 rfl rfl)
theorem dX1_lock_44 : decode cX1_lock 44 = .ok (.aload_n 0, 1) := dk_42 (dk_at dksX1_lock_1 20 rfl rfl)
theorem dX1_lock_45 : decode cX1_lock 45 = .ok (.getfield 13, 3) := dk_180 0 13 (dk_at dksX1_lock_1 21 rfl rfl)
theorem dX1_lock_48 : decode cX1_lock 48 = .ok (.iconst 5, 1) := dk_8 (dk_at dksX1_lock_2 0 rfl rfl)
theorem dX1_lock_49 : decode cX1_lock 49 = .ok (.iaload, 1) := dk_46 (dk_at dksX1_lock_2 1 rfl rfl)
theorem dX1_lock_50 : decode cX1_lock 50 = .ok (.istore 8, 2) := dk_54 8 (dk_at dksX1_lock_2 2 rfl rfl)
theorem dX1_lock_52 : decode cX1_lock 52 = .ok (.aload_n 0, 1) := dk_42 (dk_at dksX1_lock_2 4 rfl rfl)
theorem dX1_lock_53 : decode cX1_lock 53 = .ok (.getfield 13, 3) := dk_180 0 13 (dk_at dksX1_lock_2 5 rfl rfl)
theorem dX1_lock_56 : decode cX1_lock 56 = .ok (.bipush 6, 2) := dk_16 6 (dk_at dksX1_lock_2 8 rfl rfl)
theorem dX1_lock_58 : decode cX1_lock 58 = .ok (.iaload, 1) := dk_46 (dk_at dksX1_lock_2 10 rfl rfl)
theorem dX1_lock_59 : decode cX1_lock 59 = .ok (.istore 9, 2) := dk_54 9 (dk_at dksX1_lock_2 11 rfl rfl)
theorem dX1_lock_61 : decode cX1_lock 61 = .ok (.aload_n 0, 1) := dk_42 (dk_at dksX1_lock_2 13 rfl rfl)
theorem dX1_lock_62 : decode cX1_lock 62 = .ok (.getfield 13, 3) := dk_180 0 13 (dk_at dksX1_lock_2 14 rfl rfl)
theorem dX1_lock_65 : decode cX1_lock 65 = .ok (.bipush 7, 2) := dk_16 7 (dk_at dksX1_lock_2 17 rfl rfl)
theorem dX1_lock_67 : decode cX1_lock 67 = .ok (.iaload, 1) := dk_46 (dk_at dksX1_lock_2 19 rfl rfl)
theorem dX1_lock_68 : decode cX1_lock 68 = .ok (.istore 10, 2) := dk_54 10 (dk_at dksX1_lock_2 20 rfl rfl)
theorem dX1_lock_70 : decode cX1_lock 70 = .ok (.iconst 0, 1) := dk_3 (dk_at dksX1_lock_2 22 rfl rfl)
theorem dX1_lock_71 : decode cX1_lock 71 = .ok (.istore 11, 2) := dk_54 11 (dk_at dksX1_lock_3 0 rfl rfl)
theorem dX1_lock_73 : decode cX1_lock 73 = .ok (.iload 11, 2) := dk_21 11 (dk_at dksX1_lock_3 2 rfl rfl)
theorem dX1_lock_75 : decode cX1_lock 75 = .ok (.bipush 64, 2) := dk_16 64 (dk_at dksX1_lock_3 4 rfl rfl)
theorem dX1_lock_77 : decode cX1_lock 77 = .ok (.if_icmp .ge 92, 3) := dk_162 0 92 (dk_at dksX1_lock_3 6 rfl rfl)
theorem dX1_lock_80 : decode cX1_lock 80 = .ok (.iload 10, 2) := dk_21 10 (dk_at dksX1_lock_3 9 rfl rfl)
theorem dX1_lock_82 : decode cX1_lock 82 = .ok (.iload 7, 2) := dk_21 7 (dk_at dksX1_lock_3 11 rfl rfl)
theorem dX1_lock_84 : decode cX1_lock 84 = .ok (.invokestatic 23, 3) := dk_184 0 23 (dk_at dksX1_lock_3 13 rfl rfl)
theorem dX1_lock_87 : decode cX1_lock 87 = .ok (.iadd, 1) := dk_96 (dk_at dksX1_lock_3 16 rfl rfl)
theorem dX1_lock_88 : decode cX1_lock 88 = .ok (.iload 7, 2) := dk_21 7 (dk_at dksX1_lock_3 17 rfl rfl)
theorem dX1_lock_90 : decode cX1_lock 90 = .ok (.iload 8, 2) := dk_21 8 (dk_at dksX1_lock_3 19 rfl rfl)
theorem dX1_lock_92 : decode cX1_lock 92 = .ok (.iload 9, 2) := dk_21 9 (dk_at dksX1_lock_3 21 rfl rfl)
theorem dX1_lock_94 : decode cX1_lock 94 = .ok (.invokestatic 27, 3) := dk_184 0 27 (dk_at dksX1_lock_4 0 rfl rfl)
theorem dX1_lock_97 : decode cX1_lock 97 = .ok (.iadd, 1) := dk_96 (dk_at dksX1_lock_4 3 rfl rfl)
theorem dX1_lock_98 : decode cX1_lock 98 = .ok (.getstatic 31, 3) := dk_178 0 31 (dk_at dksX1_lock_4 4 rfl rfl)
theorem dX1_lock_101 : decode cX1_lock 101 = .ok (.iload 11, 2) := dk_21 11 (dk_at dksX1_lock_4 7 rfl rfl)
theorem dX1_lock_103 : decode cX1_lock 103 = .ok (.iaload, 1) := dk_46 (dk_at dksX1_lock_4 9 rfl rfl)
theorem dX1_lock_104 : decode cX1_lock 104 = .ok (.iadd, 1) := dk_96 (dk_at dksX1_lock_4 10 rfl rfl)
theorem dX1_lock_105 : decode cX1_lock 105 = .ok (.aload_n 2, 1) := dk_44 (dk_at dksX1_lock_4 11 rfl rfl)
theorem dX1_lock_106 : decode cX1_lock 106 = .ok (.iload 11, 2) := dk_21 11 (dk_at dksX1_lock_4 12 rfl rfl)
theorem dX1_lock_108 : decode cX1_lock 108 = .ok (.iaload, 1) := dk_46 (dk_at dksX1_lock_4 14 rfl rfl)
theorem dX1_lock_109 : decode cX1_lock 109 = .ok (.iadd, 1) := dk_96 (dk_at dksX1_lock_4 15 rfl rfl)
theorem dX1_lock_110 : decode cX1_lock 110 = .ok (.istore 12, 2) := dk_54 12 (dk_at dksX1_lock_4 16 rfl rfl)
theorem dX1_lock_112 : decode cX1_lock 112 = .ok (.iload_n 3, 1) := dk_29 (dk_at dksX1_lock_4 18 rfl rfl)
theorem dX1_lock_113 : decode cX1_lock 113 = .ok (.invokestatic 34, 3) := dk_184 0 34 (dk_at dksX1_lock_4 19 rfl rfl)
theorem dX1_lock_116 : decode cX1_lock 116 = .ok (.iload_n 3, 1) := dk_29 (dk_at dksX1_lock_4 22 rfl rfl)
theorem dX1_lock_117 : decode cX1_lock 117 = .ok (.iload 4, 2) := dk_21 4 (dk_at dksX1_lock_5 0 rfl rfl)
theorem dX1_lock_119 : decode cX1_lock 119 = .ok (.iload 5, 2) := dk_21 5 (dk_at dksX1_lock_5 2 rfl rfl)
theorem dX1_lock_121 : decode cX1_lock 121 = .ok (.invokestatic 37, 3) := dk_184 0 37 (dk_at dksX1_lock_5 4 rfl rfl)
theorem dX1_lock_124 : decode cX1_lock 124 = .ok (.iadd, 1) := dk_96 (dk_at dksX1_lock_5 7 rfl rfl)
theorem dX1_lock_125 : decode cX1_lock 125 = .ok (.istore 13, 2) := dk_54 13 (dk_at dksX1_lock_5 8 rfl rfl)
theorem dX1_lock_127 : decode cX1_lock 127 = .ok (.iload 9, 2) := dk_21 9 (dk_at dksX1_lock_5 10 rfl rfl)
theorem dX1_lock_129 : decode cX1_lock 129 = .ok (.istore 10, 2) := dk_54 10 (dk_at dksX1_lock_5 12 rfl rfl)
theorem dX1_lock_131 : decode cX1_lock 131 = .ok (.iload 8, 2) := dk_21 8 (dk_at dksX1_lock_5 14 rfl rfl)
theorem dX1_lock_133 : decode cX1_lock 133 = .ok (.istore 9, 2) := dk_54 9 (dk_at dksX1_lock_5 16 rfl rfl)
theorem dX1_lock_135 : decode cX1_lock 135 = .ok (.iload 7, 2) := dk_21 7 (dk_at dksX1_lock_5 18 rfl rfl)
theorem dX1_lock_137 : decode cX1_lock 137 = .ok (.istore 8, 2) := dk_54 8 (dk_at dksX1_lock_5 20 rfl rfl)
theorem dX1_lock_139 : decode cX1_lock 139 = .ok (.iload 6, 2) := dk_21 6 (dk_at dksX1_lock_5 22 rfl rfl)
theorem dX1_lock_141 : decode cX1_lock 141 = .ok (.iload 12, 2) := dk_21 12 (dk_at dksX1_lock_6 0 rfl rfl)
theorem dX1_lock_143 : decode cX1_lock 143 = .ok (.iadd, 1) := dk_96 (dk_at dksX1_lock_6 2 rfl rfl)
theorem dX1_lock_144 : decode cX1_lock 144 = .ok (.istore 7, 2) := dk_54 7 (dk_at dksX1_lock_6 3 rfl rfl)
theorem dX1_lock_146 : decode cX1_lock 146 = .ok (.iload 5, 2) := dk_21 5 (dk_at dksX1_lock_6 5 rfl rfl)
theorem dX1_lock_148 : decode cX1_lock 148 = .ok (.istore 6, 2) := dk_54 6 (dk_at dksX1_lock_6 7 rfl rfl)
theorem dX1_lock_150 : decode cX1_lock 150 = .ok (.iload 4, 2) := dk_21 4 (dk_at dksX1_lock_6 9 rfl rfl)
theorem dX1_lock_152 : decode cX1_lock 152 = .ok (.istore 5, 2) := dk_54 5 (dk_at dksX1_lock_6 11 rfl rfl)
theorem dX1_lock_154 : decode cX1_lock 154 = .ok (.iload_n 3, 1) := dk_29 (dk_at dksX1_lock_6 13 rfl rfl)
theorem dX1_lock_155 : decode cX1_lock 155 = .ok (.istore 4, 2) := dk_54 4 (dk_at dksX1_lock_6 14 rfl rfl)
theorem dX1_lock_157 : decode cX1_lock 157 = .ok (.iload 12, 2) := dk_21 12 (dk_at dksX1_lock_6 16 rfl rfl)
theorem dX1_lock_159 : decode cX1_lock 159 = .ok (.iload 13, 2) := dk_21 13 (dk_at dksX1_lock_6 18 rfl rfl)
theorem dX1_lock_161 : decode cX1_lock 161 = .ok (.iadd, 1) := dk_96 (dk_at dksX1_lock_6 20 rfl rfl)
theorem dX1_lock_162 : decode cX1_lock 162 = .ok (.istore_n 3, 1) := dk_62 (dk_at dksX1_lock_6 21 rfl rfl)
theorem dX1_lock_163 : decode cX1_lock 163 = .ok (.iinc 11 1, 3) := dk_132 11 1 (dk_at dksX1_lock_7 0 rfl rfl)
theorem dX1_lock_166 : decode cX1_lock 166 = .ok (.goto (-93), 3) := dk_167 255 163 (dk_at dksX1_lock_7 3 rfl rfl)
theorem dX1_lock_169 : decode cX1_lock 169 = .ok (.aload_n 0, 1) := dk_42 (dk_at dksX1_lock_7 6 rfl rfl)
theorem dX1_lock_170 : decode cX1_lock 170 = .ok (.iload_n 3, 1) := dk_29 (dk_at dksX1_lock_7 7 rfl rfl)
theorem dX1_lock_171 : decode cX1_lock 171 = .ok (.iload 4, 2) := dk_21 4 (dk_at dksX1_lock_7 8 rfl rfl)
theorem dX1_lock_173 : decode cX1_lock 173 = .ok (.iload 5, 2) := dk_21 5 (dk_at dksX1_lock_7 10 rfl rfl)
theorem dX1_lock_175 : decode cX1_lock 175 = .ok (.iload 6, 2) := dk_21 6 (dk_at dksX1_lock_7 12 rfl rfl)
theorem dX1_lock_177 : decode cX1_lock 177 = .ok (.iload 7, 2) := dk_21 7 (dk_at dksX1_lock_7 14 rfl rfl)
theorem dX1_lock_179 : decode cX1_lock 179 = .ok (.iload 8, 2) := dk_21 8 (dk_at dksX1_lock_7 16 rfl rfl)
theorem dX1_lock_181 : decode cX1_lock 181 = .ok (.iload 9, 2) := dk_21 9 (dk_at dksX1_lock_7 18 rfl rfl)
theorem dX1_lock_183 : decode cX1_lock 183 = .ok (.iload 10, 2) := dk_21 10 (dk_at dksX1_lock_7 20 rfl rfl)
theorem dX1_lock_185 : decode cX1_lock 185 = .ok (.invokevirtual 40, 3) := dk_182 0 40 (dk_at dksX1_lock_8 0 rfl rfl)
theorem dX1_lock_188 : decode cX1_lock 188 = .ok (.return_, 1) := dk_177 (dk_at dksX1_lock_8 3 rfl rfl)
abbrev cX1_schedule : ByteArray := prog_10_method_9_code
def yX1_schedule : MethodName := ⟨RX1, "schedule", "()[I"⟩
def dkwX1_schedule_3 : List UInt8 := [100, 46, 96, 79, 132, 2, 1, 167, 255, 212, 43, 176]
abbrev dktX1_schedule_3 : List UInt8 := dkwX1_schedule_3 ++ []
def dkwX1_schedule_2 : List UInt8 := [184, 0, 44, 43, 28, 16, 7, 100, 46, 96, 43, 28, 16, 15, 100, 46, 184, 0, 47, 96, 43, 28, 16, 16]
abbrev dktX1_schedule_2 : List UInt8 := dkwX1_schedule_2 ++ dktX1_schedule_3
def dkwX1_schedule_1 : List UInt8 := [132, 2, 1, 167, 255, 238, 16, 16, 61, 28, 16, 64, 162, 0, 44, 43, 28, 43, 28, 5, 100, 46]
abbrev dktX1_schedule_1 : List UInt8 := dkwX1_schedule_1 ++ dktX1_schedule_2
def dkwX1_schedule_0 : List UInt8 := [16, 64, 188, 10, 76, 3, 61, 28, 16, 16, 162, 0, 18, 43, 28, 42, 180, 0, 7, 28, 46, 79]
abbrev dktX1_schedule_0 : List UInt8 := dkwX1_schedule_0 ++ dktX1_schedule_1
theorem dksX1_schedule_0 : cX1_schedule.data.toList.drop 0 = dktX1_schedule_0 := by decide +kernel
theorem dksX1_schedule_1 : cX1_schedule.data.toList.drop 22 = dktX1_schedule_1 := dk_seg dksX1_schedule_0 22 rfl rfl
theorem dksX1_schedule_2 : cX1_schedule.data.toList.drop 44 = dktX1_schedule_2 := dk_seg dksX1_schedule_1 22 rfl rfl
theorem dksX1_schedule_3 : cX1_schedule.data.toList.drop 68 = dktX1_schedule_3 := dk_seg dksX1_schedule_2 24 rfl rfl
theorem dX1_schedule_0 : decode cX1_schedule 0 = .ok (.bipush 64, 2) := dk_16 64 (dk_at dksX1_schedule_0 0 rfl rfl)
theorem dX1_schedule_2 : decode cX1_schedule 2 = .ok (.newarray .int, 2) := dk_188_10 (dk_at dksX1_schedule_0 2 rfl rfl)
theorem dX1_schedule_4 : decode cX1_schedule 4 = .ok (.astore_n 1, 1) := dk_76 (dk_at dksX1_schedule_0 4 rfl rfl)
theorem dX1_schedule_5 : decode cX1_schedule 5 = .ok (.iconst 0, 1) := dk_3 (dk_at dksX1_schedule_0 5 rfl rfl)
theorem dX1_schedule_6 : decode cX1_schedule 6 = .ok (.istore_n 2, 1) := dk_61 (dk_at dksX1_schedule_0 6 rfl rfl)
theorem dX1_schedule_7 : decode cX1_schedule 7 = .ok (.iload_n 2, 1) := dk_28 (dk_at dksX1_schedule_0 7 rfl rfl)
theorem dX1_schedule_8 : decode cX1_schedule 8 = .ok (.bipush 16, 2) := dk_16 16 (dk_at dksX1_schedule_0 8 rfl rfl)
theorem dX1_schedule_10 : decode cX1_schedule 10 = .ok (.if_icmp .ge 18, 3) := dk_162 0 18 (dk_at dksX1_schedule_0 10 rfl rfl)
theorem dX1_schedule_13 : decode cX1_schedule 13 = .ok (.aload_n 1, 1) := dk_43 (dk_at dksX1_schedule_0 13 rfl rfl)
theorem dX1_schedule_14 : decode cX1_schedule 14 = .ok (.iload_n 2, 1) := dk_28 (dk_at dksX1_schedule_0 14 rfl rfl)
theorem dX1_schedule_15 : decode cX1_schedule 15 = .ok (.aload_n 0, 1) := dk_42 (dk_at dksX1_schedule_0 15 rfl rfl)
theorem dX1_schedule_16 : decode cX1_schedule 16 = .ok (.getfield 7, 3) := dk_180 0 7 (dk_at dksX1_schedule_0 16 rfl rfl)
theorem dX1_schedule_19 : decode cX1_schedule 19 = .ok (.iload_n 2, 1) := dk_28 (dk_at dksX1_schedule_0 19 rfl rfl)
theorem dX1_schedule_20 : decode cX1_schedule 20 = .ok (.iaload, 1) := dk_46 (dk_at dksX1_schedule_0 20 rfl rfl)
theorem dX1_schedule_21 : decode cX1_schedule 21 = .ok (.iastore, 1) := dk_79 (dk_at dksX1_schedule_0 21 rfl rfl)
theorem dX1_schedule_22 : decode cX1_schedule 22 = .ok (.iinc 2 1, 3) := dk_132 2 1 (dk_at dksX1_schedule_1 0 rfl rfl)
theorem dX1_schedule_25 : decode cX1_schedule 25 = .ok (.goto (-18), 3) := dk_167 255 238 (dk_at dksX1_schedule_1 3 rfl rfl)
theorem dX1_schedule_28 : decode cX1_schedule 28 = .ok (.bipush 16, 2) := dk_16 16 (dk_at dksX1_schedule_1 6 rfl rfl)
theorem dX1_schedule_30 : decode cX1_schedule 30 = .ok (.istore_n 2, 1) := dk_61 (dk_at dksX1_schedule_1 8 rfl rfl)
theorem dX1_schedule_31 : decode cX1_schedule 31 = .ok (.iload_n 2, 1) := dk_28 (dk_at dksX1_schedule_1 9 rfl rfl)
theorem dX1_schedule_32 : decode cX1_schedule 32 = .ok (.bipush 64, 2) := dk_16 64 (dk_at dksX1_schedule_1 10 rfl rfl)
theorem dX1_schedule_34 : decode cX1_schedule 34 = .ok (.if_icmp .ge 44, 3) := dk_162 0 44 (dk_at dksX1_schedule_1 12 rfl rfl)
theorem dX1_schedule_37 : decode cX1_schedule 37 = .ok (.aload_n 1, 1) := dk_43 (dk_at dksX1_schedule_1 15 rfl rfl)
theorem dX1_schedule_38 : decode cX1_schedule 38 = .ok (.iload_n 2, 1) := dk_28 (dk_at dksX1_schedule_1 16 rfl rfl)
theorem dX1_schedule_39 : decode cX1_schedule 39 = .ok (.aload_n 1, 1) := dk_43 (dk_at dksX1_schedule_1 17 rfl rfl)
theorem dX1_schedule_40 : decode cX1_schedule 40 = .ok (.iload_n 2, 1) := dk_28 (dk_at dksX1_schedule_1 18 rfl rfl)
theorem dX1_schedule_41 : decode cX1_schedule 41 = .ok (.iconst 2, 1) := dk_5 (dk_at dksX1_schedule_1 19 rfl rfl)
theorem dX1_schedule_42 : decode cX1_schedule 42 = .ok (.isub, 1) := dk_100 (dk_at dksX1_schedule_1 20 rfl rfl)
theorem dX1_schedule_43 : decode cX1_schedule 43 = .ok (.iaload, 1) := dk_46 (dk_at dksX1_schedule_1 21 rfl rfl)
theorem dX1_schedule_44 : decode cX1_schedule 44 = .ok (.invokestatic 44, 3) := dk_184 0 44 (dk_at dksX1_schedule_2 0 rfl rfl)
theorem dX1_schedule_47 : decode cX1_schedule 47 = .ok (.aload_n 1, 1) := dk_43 (dk_at dksX1_schedule_2 3 rfl rfl)
theorem dX1_schedule_48 : decode cX1_schedule 48 = .ok (.iload_n 2, 1) := dk_28 (dk_at dksX1_schedule_2 4 rfl rfl)
theorem dX1_schedule_49 : decode cX1_schedule 49 = .ok (.bipush 7, 2) := dk_16 7 (dk_at dksX1_schedule_2 5 rfl rfl)
theorem dX1_schedule_51 : decode cX1_schedule 51 = .ok (.isub, 1) := dk_100 (dk_at dksX1_schedule_2 7 rfl rfl)
theorem dX1_schedule_52 : decode cX1_schedule 52 = .ok (.iaload, 1) := dk_46 (dk_at dksX1_schedule_2 8 rfl rfl)
theorem dX1_schedule_53 : decode cX1_schedule 53 = .ok (.iadd, 1) := dk_96 (dk_at dksX1_schedule_2 9 rfl rfl)
theorem dX1_schedule_54 : decode cX1_schedule 54 = .ok (.aload_n 1, 1) := dk_43 (dk_at dksX1_schedule_2 10 rfl rfl)
theorem dX1_schedule_55 : decode cX1_schedule 55 = .ok (.iload_n 2, 1) := dk_28 (dk_at dksX1_schedule_2 11 rfl rfl)
theorem dX1_schedule_56 : decode cX1_schedule 56 = .ok (.bipush 15, 2) := dk_16 15 (dk_at dksX1_schedule_2 12 rfl rfl)
theorem dX1_schedule_58 : decode cX1_schedule 58 = .ok (.isub, 1) := dk_100 (dk_at dksX1_schedule_2 14 rfl rfl)
theorem dX1_schedule_59 : decode cX1_schedule 59 = .ok (.iaload, 1) := dk_46 (dk_at dksX1_schedule_2 15 rfl rfl)
theorem dX1_schedule_60 : decode cX1_schedule 60 = .ok (.invokestatic 47, 3) := dk_184 0 47 (dk_at dksX1_schedule_2 16 rfl rfl)
theorem dX1_schedule_63 : decode cX1_schedule 63 = .ok (.iadd, 1) := dk_96 (dk_at dksX1_schedule_2 19 rfl rfl)
theorem dX1_schedule_64 : decode cX1_schedule 64 = .ok (.aload_n 1, 1) := dk_43 (dk_at dksX1_schedule_2 20 rfl rfl)
theorem dX1_schedule_65 : decode cX1_schedule 65 = .ok (.iload_n 2, 1) := dk_28 (dk_at dksX1_schedule_2 21 rfl rfl)
theorem dX1_schedule_66 : decode cX1_schedule 66 = .ok (.bipush 16, 2) := dk_16 16 (dk_at dksX1_schedule_2 22 rfl rfl)
theorem dX1_schedule_68 : decode cX1_schedule 68 = .ok (.isub, 1) := dk_100 (dk_at dksX1_schedule_3 0 rfl rfl)
theorem dX1_schedule_69 : decode cX1_schedule 69 = .ok (.iaload, 1) := dk_46 (dk_at dksX1_schedule_3 1 rfl rfl)
theorem dX1_schedule_70 : decode cX1_schedule 70 = .ok (.iadd, 1) := dk_96 (dk_at dksX1_schedule_3 2 rfl rfl)
theorem dX1_schedule_71 : decode cX1_schedule 71 = .ok (.iastore, 1) := dk_79 (dk_at dksX1_schedule_3 3 rfl rfl)
theorem dX1_schedule_72 : decode cX1_schedule 72 = .ok (.iinc 2 1, 3) := dk_132 2 1 (dk_at dksX1_schedule_3 4 rfl rfl)
theorem dX1_schedule_75 : decode cX1_schedule 75 = .ok (.goto (-44), 3) := dk_167 255 212 (dk_at dksX1_schedule_3 7 rfl rfl)
theorem dX1_schedule_78 : decode cX1_schedule 78 = .ok (.aload_n 1, 1) := dk_43 (dk_at dksX1_schedule_3 10 rfl rfl)
theorem dX1_schedule_79 : decode cX1_schedule 79 = .ok (.areturn, 1) := dk_176 (dk_at dksX1_schedule_3 11 rfl rfl)
abbrev cX1_smallSigma1 : ByteArray := prog_10_method_14_code
def yX1_smallSigma1 : MethodName := ⟨RX1, "smallSigma1", "(I)I"⟩
def dkwX1_smallSigma1_0 : List UInt8 := [26, 16, 17, 184, 0, 50, 26, 16, 19, 184, 0, 50, 130, 26, 16, 10, 124, 130, 172]
abbrev dktX1_smallSigma1_0 : List UInt8 := dkwX1_smallSigma1_0 ++ []
theorem dksX1_smallSigma1_0 : cX1_smallSigma1.data.toList.drop 0 = dktX1_smallSigma1_0 := by decide +kernel
theorem dX1_smallSigma1_0 : decode cX1_smallSigma1 0 = .ok (.iload_n 0, 1) := dk_26 (dk_at dksX1_smallSigma1_0 0 rfl rfl)
theorem dX1_smallSigma1_1 : decode cX1_smallSigma1 1 = .ok (.bipush 17, 2) := dk_16 17 (dk_at dksX1_smallSigma1_0 1 rfl rfl)
theorem dX1_smallSigma1_3 : decode cX1_smallSigma1 3 = .ok (.invokestatic 50, 3) := dk_184 0 50 (dk_at dksX1_smallSigma1_0 3 rfl rfl)
theorem dX1_smallSigma1_6 : decode cX1_smallSigma1 6 = .ok (.iload_n 0, 1) := dk_26 (dk_at dksX1_smallSigma1_0 6 rfl rfl)
theorem dX1_smallSigma1_7 : decode cX1_smallSigma1 7 = .ok (.bipush 19, 2) := dk_16 19 (dk_at dksX1_smallSigma1_0 7 rfl rfl)
theorem dX1_smallSigma1_9 : decode cX1_smallSigma1 9 = .ok (.invokestatic 50, 3) := dk_184 0 50 (dk_at dksX1_smallSigma1_0 9 rfl rfl)
theorem dX1_smallSigma1_12 : decode cX1_smallSigma1 12 = .ok (.ixor, 1) := dk_130 (dk_at dksX1_smallSigma1_0 12 rfl rfl)
theorem dX1_smallSigma1_13 : decode cX1_smallSigma1 13 = .ok (.iload_n 0, 1) := dk_26 (dk_at dksX1_smallSigma1_0 13 rfl rfl)
theorem dX1_smallSigma1_14 : decode cX1_smallSigma1 14 = .ok (.bipush 10, 2) := dk_16 10 (dk_at dksX1_smallSigma1_0 14 rfl rfl)
theorem dX1_smallSigma1_16 : decode cX1_smallSigma1 16 = .ok (.iushr, 1) := dk_124 (dk_at dksX1_smallSigma1_0 16 rfl rfl)
theorem dX1_smallSigma1_17 : decode cX1_smallSigma1 17 = .ok (.ixor, 1) := dk_130 (dk_at dksX1_smallSigma1_0 17 rfl rfl)
theorem dX1_smallSigma1_18 : decode cX1_smallSigma1 18 = .ok (.ireturn, 1) := dk_172 (dk_at dksX1_smallSigma1_0 18 rfl rfl)
abbrev cX1_turnRight : ByteArray := prog_10_method_10_code
def yX1_turnRight : MethodName := ⟨RX1, "turnRight", "(II)I"⟩
def dkwX1_turnRight_0 : List UInt8 := [26, 27, 124, 26, 16, 32, 27, 100, 120, 128, 172]
abbrev dktX1_turnRight_0 : List UInt8 := dkwX1_turnRight_0 ++ []
theorem dksX1_turnRight_0 : cX1_turnRight.data.toList.drop 0 = dktX1_turnRight_0 := by decide +kernel
theorem dX1_turnRight_0 : decode cX1_turnRight 0 = .ok (.iload_n 0, 1) := dk_26 (dk_at dksX1_turnRight_0 0 rfl rfl)
theorem dX1_turnRight_1 : decode cX1_turnRight 1 = .ok (.iload_n 1, 1) := dk_27 (dk_at dksX1_turnRight_0 1 rfl rfl)
theorem dX1_turnRight_2 : decode cX1_turnRight 2 = .ok (.iushr, 1) := dk_124 (dk_at dksX1_turnRight_0 2 rfl rfl)
theorem dX1_turnRight_3 : decode cX1_turnRight 3 = .ok (.iload_n 0, 1) := dk_26 (dk_at dksX1_turnRight_0 3 rfl rfl)
theorem dX1_turnRight_4 : decode cX1_turnRight 4 = .ok (.bipush 32, 2) := dk_16 32 (dk_at dksX1_turnRight_0 4 rfl rfl)
theorem dX1_turnRight_6 : decode cX1_turnRight 6 = .ok (.iload_n 1, 1) := dk_27 (dk_at dksX1_turnRight_0 6 rfl rfl)
theorem dX1_turnRight_7 : decode cX1_turnRight 7 = .ok (.isub, 1) := dk_100 (dk_at dksX1_turnRight_0 7 rfl rfl)
theorem dX1_turnRight_8 : decode cX1_turnRight 8 = .ok (.ishl, 1) := dk_120 (dk_at dksX1_turnRight_0 8 rfl rfl)
theorem dX1_turnRight_9 : decode cX1_turnRight 9 = .ok (.ior, 1) := dk_128 (dk_at dksX1_turnRight_0 9 rfl rfl)
theorem dX1_turnRight_10 : decode cX1_turnRight 10 = .ok (.ireturn, 1) := dk_172 (dk_at dksX1_turnRight_0 10 rfl rfl)
abbrev cX1_smallSigma0 : ByteArray := prog_10_method_13_code
def yX1_smallSigma0 : MethodName := ⟨RX1, "smallSigma0", "(I)I"⟩
def dkwX1_smallSigma0_0 : List UInt8 := [26, 16, 7, 184, 0, 50, 26, 16, 18, 184, 0, 50, 130, 26, 6, 124, 130, 172]
abbrev dktX1_smallSigma0_0 : List UInt8 := dkwX1_smallSigma0_0 ++ []
theorem dksX1_smallSigma0_0 : cX1_smallSigma0.data.toList.drop 0 = dktX1_smallSigma0_0 := by decide +kernel
theorem dX1_smallSigma0_0 : decode cX1_smallSigma0 0 = .ok (.iload_n 0, 1) := dk_26 (dk_at dksX1_smallSigma0_0 0 rfl rfl)
theorem dX1_smallSigma0_1 : decode cX1_smallSigma0 1 = .ok (.bipush 7, 2) := dk_16 7 (dk_at dksX1_smallSigma0_0 1 rfl rfl)
theorem dX1_smallSigma0_3 : decode cX1_smallSigma0 3 = .ok (.invokestatic 50, 3) := dk_184 0 50 (dk_at dksX1_smallSigma0_0 3 rfl rfl)
theorem dX1_smallSigma0_6 : decode cX1_smallSigma0 6 = .ok (.iload_n 0, 1) := dk_26 (dk_at dksX1_smallSigma0_0 6 rfl rfl)
theorem dX1_smallSigma0_7 : decode cX1_smallSigma0 7 = .ok (.bipush 18, 2) := dk_16 18 (dk_at dksX1_smallSigma0_0 7 rfl rfl)
theorem dX1_smallSigma0_9 : decode cX1_smallSigma0 9 = .ok (.invokestatic 50, 3) := dk_184 0 50 (dk_at dksX1_smallSigma0_0 9 rfl rfl)
theorem dX1_smallSigma0_12 : decode cX1_smallSigma0 12 = .ok (.ixor, 1) := dk_130 (dk_at dksX1_smallSigma0_0 12 rfl rfl)
theorem dX1_smallSigma0_13 : decode cX1_smallSigma0 13 = .ok (.iload_n 0, 1) := dk_26 (dk_at dksX1_smallSigma0_0 13 rfl rfl)
theorem dX1_smallSigma0_14 : decode cX1_smallSigma0 14 = .ok (.iconst 3, 1) := dk_6 (dk_at dksX1_smallSigma0_0 14 rfl rfl)
theorem dX1_smallSigma0_15 : decode cX1_smallSigma0 15 = .ok (.iushr, 1) := dk_124 (dk_at dksX1_smallSigma0_0 15 rfl rfl)
theorem dX1_smallSigma0_16 : decode cX1_smallSigma0 16 = .ok (.ixor, 1) := dk_130 (dk_at dksX1_smallSigma0_0 16 rfl rfl)
theorem dX1_smallSigma0_17 : decode cX1_smallSigma0 17 = .ok (.ireturn, 1) := dk_172 (dk_at dksX1_smallSigma0_0 17 rfl rfl)
abbrev cX1_bigSigma1 : ByteArray := prog_10_method_12_code
def yX1_bigSigma1 : MethodName := ⟨RX1, "bigSigma1", "(I)I"⟩
def dkwX1_bigSigma1_0 : List UInt8 := [26, 16, 6, 184, 0, 50, 26, 16, 11, 184, 0, 50, 130, 26, 16, 25, 184, 0, 50, 130, 172]
abbrev dktX1_bigSigma1_0 : List UInt8 := dkwX1_bigSigma1_0 ++ []
theorem dksX1_bigSigma1_0 : cX1_bigSigma1.data.toList.drop 0 = dktX1_bigSigma1_0 := by decide +kernel
theorem dX1_bigSigma1_0 : decode cX1_bigSigma1 0 = .ok (.iload_n 0, 1) := dk_26 (dk_at dksX1_bigSigma1_0 0 rfl rfl)
theorem dX1_bigSigma1_1 : decode cX1_bigSigma1 1 = .ok (.bipush 6, 2) := dk_16 6 (dk_at dksX1_bigSigma1_0 1 rfl rfl)
theorem dX1_bigSigma1_3 : decode cX1_bigSigma1 3 = .ok (.invokestatic 50, 3) := dk_184 0 50 (dk_at dksX1_bigSigma1_0 3 rfl rfl)
theorem dX1_bigSigma1_6 : decode cX1_bigSigma1 6 = .ok (.iload_n 0, 1) := dk_26 (dk_at dksX1_bigSigma1_0 6 rfl rfl)
theorem dX1_bigSigma1_7 : decode cX1_bigSigma1 7 = .ok (.bipush 11, 2) := dk_16 11 (dk_at dksX1_bigSigma1_0 7 rfl rfl)
theorem dX1_bigSigma1_9 : decode cX1_bigSigma1 9 = .ok (.invokestatic 50, 3) := dk_184 0 50 (dk_at dksX1_bigSigma1_0 9 rfl rfl)
theorem dX1_bigSigma1_12 : decode cX1_bigSigma1 12 = .ok (.ixor, 1) := dk_130 (dk_at dksX1_bigSigma1_0 12 rfl rfl)
theorem dX1_bigSigma1_13 : decode cX1_bigSigma1 13 = .ok (.iload_n 0, 1) := dk_26 (dk_at dksX1_bigSigma1_0 13 rfl rfl)
theorem dX1_bigSigma1_14 : decode cX1_bigSigma1 14 = .ok (.bipush 25, 2) := dk_16 25 (dk_at dksX1_bigSigma1_0 14 rfl rfl)
theorem dX1_bigSigma1_16 : decode cX1_bigSigma1 16 = .ok (.invokestatic 50, 3) := dk_184 0 50 (dk_at dksX1_bigSigma1_0 16 rfl rfl)
theorem dX1_bigSigma1_19 : decode cX1_bigSigma1 19 = .ok (.ixor, 1) := dk_130 (dk_at dksX1_bigSigma1_0 19 rfl rfl)
theorem dX1_bigSigma1_20 : decode cX1_bigSigma1 20 = .ok (.ireturn, 1) := dk_172 (dk_at dksX1_bigSigma1_0 20 rfl rfl)
abbrev cX1_choose : ByteArray := prog_10_method_15_code
def yX1_choose : MethodName := ⟨RX1, "choose", "(III)I"⟩
def dkwX1_choose_0 : List UInt8 := [26, 27, 126, 26, 2, 130, 28, 126, 130, 172]
abbrev dktX1_choose_0 : List UInt8 := dkwX1_choose_0 ++ []
theorem dksX1_choose_0 : cX1_choose.data.toList.drop 0 = dktX1_choose_0 := by decide +kernel
theorem dX1_choose_0 : decode cX1_choose 0 = .ok (.iload_n 0, 1) := dk_26 (dk_at dksX1_choose_0 0 rfl rfl)
theorem dX1_choose_1 : decode cX1_choose 1 = .ok (.iload_n 1, 1) := dk_27 (dk_at dksX1_choose_0 1 rfl rfl)
theorem dX1_choose_2 : decode cX1_choose 2 = .ok (.iand, 1) := dk_126 (dk_at dksX1_choose_0 2 rfl rfl)
theorem dX1_choose_3 : decode cX1_choose 3 = .ok (.iload_n 0, 1) := dk_26 (dk_at dksX1_choose_0 3 rfl rfl)
theorem dX1_choose_4 : decode cX1_choose 4 = .ok (.iconst (-1), 1) := dk_2 (dk_at dksX1_choose_0 4 rfl rfl)
theorem dX1_choose_5 : decode cX1_choose 5 = .ok (.ixor, 1) := dk_130 (dk_at dksX1_choose_0 5 rfl rfl)
theorem dX1_choose_6 : decode cX1_choose 6 = .ok (.iload_n 2, 1) := dk_28 (dk_at dksX1_choose_0 6 rfl rfl)
theorem dX1_choose_7 : decode cX1_choose 7 = .ok (.iand, 1) := dk_126 (dk_at dksX1_choose_0 7 rfl rfl)
theorem dX1_choose_8 : decode cX1_choose 8 = .ok (.ixor, 1) := dk_130 (dk_at dksX1_choose_0 8 rfl rfl)
theorem dX1_choose_9 : decode cX1_choose 9 = .ok (.ireturn, 1) := dk_172 (dk_at dksX1_choose_0 9 rfl rfl)
abbrev cX1_bigSigma0 : ByteArray := prog_10_method_11_code
def yX1_bigSigma0 : MethodName := ⟨RX1, "bigSigma0", "(I)I"⟩
def dkwX1_bigSigma0_0 : List UInt8 := [26, 5, 184, 0, 50, 26, 16, 13, 184, 0, 50, 130, 26, 16, 22, 184, 0, 50, 130, 172]
abbrev dktX1_bigSigma0_0 : List UInt8 := dkwX1_bigSigma0_0 ++ []
theorem dksX1_bigSigma0_0 : cX1_bigSigma0.data.toList.drop 0 = dktX1_bigSigma0_0 := by decide +kernel
theorem dX1_bigSigma0_0 : decode cX1_bigSigma0 0 = .ok (.iload_n 0, 1) := dk_26 (dk_at dksX1_bigSigma0_0 0 rfl rfl)
theorem dX1_bigSigma0_1 : decode cX1_bigSigma0 1 = .ok (.iconst 2, 1) := dk_5 (dk_at dksX1_bigSigma0_0 1 rfl rfl)
theorem dX1_bigSigma0_2 : decode cX1_bigSigma0 2 = .ok (.invokestatic 50, 3) := dk_184 0 50 (dk_at dksX1_bigSigma0_0 2 rfl rfl)
theorem dX1_bigSigma0_5 : decode cX1_bigSigma0 5 = .ok (.iload_n 0, 1) := dk_26 (dk_at dksX1_bigSigma0_0 5 rfl rfl)
theorem dX1_bigSigma0_6 : decode cX1_bigSigma0 6 = .ok (.bipush 13, 2) := dk_16 13 (dk_at dksX1_bigSigma0_0 6 rfl rfl)
theorem dX1_bigSigma0_8 : decode cX1_bigSigma0 8 = .ok (.invokestatic 50, 3) := dk_184 0 50 (dk_at dksX1_bigSigma0_0 8 rfl rfl)
theorem dX1_bigSigma0_11 : decode cX1_bigSigma0 11 = .ok (.ixor, 1) := dk_130 (dk_at dksX1_bigSigma0_0 11 rfl rfl)
theorem dX1_bigSigma0_12 : decode cX1_bigSigma0 12 = .ok (.iload_n 0, 1) := dk_26 (dk_at dksX1_bigSigma0_0 12 rfl rfl)
theorem dX1_bigSigma0_13 : decode cX1_bigSigma0 13 = .ok (.bipush 22, 2) := dk_16 22 (dk_at dksX1_bigSigma0_0 13 rfl rfl)
theorem dX1_bigSigma0_15 : decode cX1_bigSigma0 15 = .ok (.invokestatic 50, 3) := dk_184 0 50 (dk_at dksX1_bigSigma0_0 15 rfl rfl)
theorem dX1_bigSigma0_18 : decode cX1_bigSigma0 18 = .ok (.ixor, 1) := dk_130 (dk_at dksX1_bigSigma0_0 18 rfl rfl)
theorem dX1_bigSigma0_19 : decode cX1_bigSigma0 19 = .ok (.ireturn, 1) := dk_172 (dk_at dksX1_bigSigma0_0 19 rfl rfl)
abbrev cX1_majority : ByteArray := prog_10_method_16_code
def yX1_majority : MethodName := ⟨RX1, "majority", "(III)I"⟩
def dkwX1_majority_0 : List UInt8 := [26, 27, 126, 26, 28, 126, 130, 27, 28, 126, 130, 172]
abbrev dktX1_majority_0 : List UInt8 := dkwX1_majority_0 ++ []
theorem dksX1_majority_0 : cX1_majority.data.toList.drop 0 = dktX1_majority_0 := by decide +kernel
theorem dX1_majority_0 : decode cX1_majority 0 = .ok (.iload_n 0, 1) := dk_26 (dk_at dksX1_majority_0 0 rfl rfl)
theorem dX1_majority_1 : decode cX1_majority 1 = .ok (.iload_n 1, 1) := dk_27 (dk_at dksX1_majority_0 1 rfl rfl)
theorem dX1_majority_2 : decode cX1_majority 2 = .ok (.iand, 1) := dk_126 (dk_at dksX1_majority_0 2 rfl rfl)
theorem dX1_majority_3 : decode cX1_majority 3 = .ok (.iload_n 0, 1) := dk_26 (dk_at dksX1_majority_0 3 rfl rfl)
theorem dX1_majority_4 : decode cX1_majority 4 = .ok (.iload_n 2, 1) := dk_28 (dk_at dksX1_majority_0 4 rfl rfl)
theorem dX1_majority_5 : decode cX1_majority 5 = .ok (.iand, 1) := dk_126 (dk_at dksX1_majority_0 5 rfl rfl)
theorem dX1_majority_6 : decode cX1_majority 6 = .ok (.ixor, 1) := dk_130 (dk_at dksX1_majority_0 6 rfl rfl)
theorem dX1_majority_7 : decode cX1_majority 7 = .ok (.iload_n 1, 1) := dk_27 (dk_at dksX1_majority_0 7 rfl rfl)
theorem dX1_majority_8 : decode cX1_majority 8 = .ok (.iload_n 2, 1) := dk_28 (dk_at dksX1_majority_0 8 rfl rfl)
theorem dX1_majority_9 : decode cX1_majority 9 = .ok (.iand, 1) := dk_126 (dk_at dksX1_majority_0 9 rfl rfl)
theorem dX1_majority_10 : decode cX1_majority 10 = .ok (.ixor, 1) := dk_130 (dk_at dksX1_majority_0 10 rfl rfl)
theorem dX1_majority_11 : decode cX1_majority 11 = .ok (.ireturn, 1) := dk_172 (dk_at dksX1_majority_0 11 rfl rfl)
abbrev cX1_put : ByteArray := prog_10_method_8_code
def yX1_put : MethodName := ⟨RX1, "put", "(IIIIIIII)V"⟩
def dkwX1_put_2 : List UInt8 := [180, 0, 16, 16, 6, 21, 7, 79, 42, 180, 0, 16, 16, 7, 21, 8, 79, 177]
abbrev dktX1_put_2 : List UInt8 := dkwX1_put_2 ++ []
def dkwX1_put_1 : List UInt8 := [180, 0, 16, 6, 21, 4, 79, 42, 180, 0, 16, 7, 21, 5, 79, 42, 180, 0, 16, 8, 21, 6, 79, 42]
abbrev dktX1_put_1 : List UInt8 := dkwX1_put_1 ++ dktX1_put_2
def dkwX1_put_0 : List UInt8 := [42, 180, 0, 16, 3, 27, 79, 42, 180, 0, 16, 4, 28, 79, 42, 180, 0, 16, 5, 29, 79, 42]
abbrev dktX1_put_0 : List UInt8 := dkwX1_put_0 ++ dktX1_put_1
theorem dksX1_put_0 : cX1_put.data.toList.drop 0 = dktX1_put_0 := by decide +kernel
theorem dksX1_put_1 : cX1_put.data.toList.drop 22 = dktX1_put_1 := dk_seg dksX1_put_0 22 rfl rfl
theorem dksX1_put_2 : cX1_put.data.toList.drop 46 = dktX1_put_2 := dk_seg dksX1_put_1 24 rfl rfl
theorem dX1_put_0 : decode cX1_put 0 = .ok (.aload_n 0, 1) := dk_42 (dk_at dksX1_put_0 0 rfl rfl)
theorem dX1_put_1 : decode cX1_put 1 = .ok (.getfield 16, 3) := dk_180 0 16 (dk_at dksX1_put_0 1 rfl rfl)
theorem dX1_put_4 : decode cX1_put 4 = .ok (.iconst 0, 1) := dk_3 (dk_at dksX1_put_0 4 rfl rfl)
theorem dX1_put_5 : decode cX1_put 5 = .ok (.iload_n 1, 1) := dk_27 (dk_at dksX1_put_0 5 rfl rfl)
theorem dX1_put_6 : decode cX1_put 6 = .ok (.iastore, 1) := dk_79 (dk_at dksX1_put_0 6 rfl rfl)
theorem dX1_put_7 : decode cX1_put 7 = .ok (.aload_n 0, 1) := dk_42 (dk_at dksX1_put_0 7 rfl rfl)
theorem dX1_put_8 : decode cX1_put 8 = .ok (.getfield 16, 3) := dk_180 0 16 (dk_at dksX1_put_0 8 rfl rfl)
theorem dX1_put_11 : decode cX1_put 11 = .ok (.iconst 1, 1) := dk_4 (dk_at dksX1_put_0 11 rfl rfl)
theorem dX1_put_12 : decode cX1_put 12 = .ok (.iload_n 2, 1) := dk_28 (dk_at dksX1_put_0 12 rfl rfl)
theorem dX1_put_13 : decode cX1_put 13 = .ok (.iastore, 1) := dk_79 (dk_at dksX1_put_0 13 rfl rfl)
theorem dX1_put_14 : decode cX1_put 14 = .ok (.aload_n 0, 1) := dk_42 (dk_at dksX1_put_0 14 rfl rfl)
theorem dX1_put_15 : decode cX1_put 15 = .ok (.getfield 16, 3) := dk_180 0 16 (dk_at dksX1_put_0 15 rfl rfl)
theorem dX1_put_18 : decode cX1_put 18 = .ok (.iconst 2, 1) := dk_5 (dk_at dksX1_put_0 18 rfl rfl)
theorem dX1_put_19 : decode cX1_put 19 = .ok (.iload_n 3, 1) := dk_29 (dk_at dksX1_put_0 19 rfl rfl)
theorem dX1_put_20 : decode cX1_put 20 = .ok (.iastore, 1) := dk_79 (dk_at dksX1_put_0 20 rfl rfl)
theorem dX1_put_21 : decode cX1_put 21 = .ok (.aload_n 0, 1) := dk_42 (dk_at dksX1_put_0 21 rfl rfl)
theorem dX1_put_22 : decode cX1_put 22 = .ok (.getfield 16, 3) := dk_180 0 16 (dk_at dksX1_put_1 0 rfl rfl)
theorem dX1_put_25 : decode cX1_put 25 = .ok (.iconst 3, 1) := dk_6 (dk_at dksX1_put_1 3 rfl rfl)
theorem dX1_put_26 : decode cX1_put 26 = .ok (.iload 4, 2) := dk_21 4 (dk_at dksX1_put_1 4 rfl rfl)
theorem dX1_put_28 : decode cX1_put 28 = .ok (.iastore, 1) := dk_79 (dk_at dksX1_put_1 6 rfl rfl)
theorem dX1_put_29 : decode cX1_put 29 = .ok (.aload_n 0, 1) := dk_42 (dk_at dksX1_put_1 7 rfl rfl)
theorem dX1_put_30 : decode cX1_put 30 = .ok (.getfield 16, 3) := dk_180 0 16 (dk_at dksX1_put_1 8 rfl rfl)
theorem dX1_put_33 : decode cX1_put 33 = .ok (.iconst 4, 1) := dk_7 (dk_at dksX1_put_1 11 rfl rfl)
theorem dX1_put_34 : decode cX1_put 34 = .ok (.iload 5, 2) := dk_21 5 (dk_at dksX1_put_1 12 rfl rfl)
theorem dX1_put_36 : decode cX1_put 36 = .ok (.iastore, 1) := dk_79 (dk_at dksX1_put_1 14 rfl rfl)
theorem dX1_put_37 : decode cX1_put 37 = .ok (.aload_n 0, 1) := dk_42 (dk_at dksX1_put_1 15 rfl rfl)
theorem dX1_put_38 : decode cX1_put 38 = .ok (.getfield 16, 3) := dk_180 0 16 (dk_at dksX1_put_1 16 rfl rfl)
theorem dX1_put_41 : decode cX1_put 41 = .ok (.iconst 5, 1) := dk_8 (dk_at dksX1_put_1 19 rfl rfl)
theorem dX1_put_42 : decode cX1_put 42 = .ok (.iload 6, 2) := dk_21 6 (dk_at dksX1_put_1 20 rfl rfl)
theorem dX1_put_44 : decode cX1_put 44 = .ok (.iastore, 1) := dk_79 (dk_at dksX1_put_1 22 rfl rfl)
theorem dX1_put_45 : decode cX1_put 45 = .ok (.aload_n 0, 1) := dk_42 (dk_at dksX1_put_1 23 rfl rfl)
theorem dX1_put_46 : decode cX1_put 46 = .ok (.getfield 16, 3) := dk_180 0 16 (dk_at dksX1_put_2 0 rfl rfl)
theorem dX1_put_49 : decode cX1_put 49 = .ok (.bipush 6, 2) := dk_16 6 (dk_at dksX1_put_2 3 rfl rfl)
theorem dX1_put_51 : decode cX1_put 51 = .ok (.iload 7, 2) := dk_21 7 (dk_at dksX1_put_2 5 rfl rfl)
theorem dX1_put_53 : decode cX1_put 53 = .ok (.iastore, 1) := dk_79 (dk_at dksX1_put_2 7 rfl rfl)
theorem dX1_put_54 : decode cX1_put 54 = .ok (.aload_n 0, 1) := dk_42 (dk_at dksX1_put_2 8 rfl rfl)
theorem dX1_put_55 : decode cX1_put 55 = .ok (.getfield 16, 3) := dk_180 0 16 (dk_at dksX1_put_2 9 rfl rfl)
theorem dX1_put_58 : decode cX1_put 58 = .ok (.bipush 7, 2) := dk_16 7 (dk_at dksX1_put_2 12 rfl rfl)
theorem dX1_put_60 : decode cX1_put 60 = .ok (.iload 8, 2) := dk_21 8 (dk_at dksX1_put_2 14 rfl rfl)
theorem dX1_put_62 : decode cX1_put 62 = .ok (.iastore, 1) := dk_79 (dk_at dksX1_put_2 16 rfl rfl)
theorem dX1_put_63 : decode cX1_put 63 = .ok (.return_, 1) := dk_177 (dk_at dksX1_put_2 17 rfl rfl)
abbrev cX1_open : ByteArray := prog_10_method_5_code
def yX1_open : MethodName := ⟨RX1, "open", "(I)V"⟩
def dkwX1_open_9 : List UInt8 := [21, 8, 21, 9, 21, 10, 182, 0, 40, 177]
abbrev dktX1_open_9 : List UInt8 := dkwX1_open_9 ++ []
def dkwX1_open_8 : List UInt8 := [21, 17, 54, 9, 21, 21, 54, 10, 132, 11, 255, 167, 255, 131, 42, 29, 21, 4, 21, 5, 21, 6, 21, 7]
abbrev dktX1_open_8 : List UInt8 := dkwX1_open_8 ++ dktX1_open_9
def dkwX1_open_7 : List UInt8 := [21, 12, 62, 21, 13, 54, 4, 21, 14, 54, 5, 21, 20, 54, 6, 21, 15, 54, 7, 21, 16, 54, 8]
abbrev dktX1_open_7 : List UInt8 := dkwX1_open_7 ++ dktX1_open_8
def dkwX1_open_6 : List UInt8 := [21, 15, 21, 16, 21, 17, 184, 0, 27, 100, 178, 0, 31, 21, 11, 46, 100, 44, 21, 11, 46, 100, 54, 21]
abbrev dktX1_open_6 : List UInt8 := dkwX1_open_6 ++ dktX1_open_7
def dkwX1_open_5 : List UInt8 := [54, 18, 29, 21, 18, 100, 54, 19, 21, 7, 21, 19, 100, 54, 20, 21, 19, 21, 15, 184, 0, 23, 100]
abbrev dktX1_open_5 : List UInt8 := dkwX1_open_5 ++ dktX1_open_6
def dkwX1_open_4 : List UInt8 := [21, 9, 54, 16, 21, 10, 54, 17, 21, 12, 184, 0, 34, 21, 12, 21, 13, 21, 14, 184, 0, 37, 96]
abbrev dktX1_open_4 : List UInt8 := dkwX1_open_4 ++ dktX1_open_5
def dkwX1_open_3 : List UInt8 := [54, 11, 21, 11, 155, 0, 126, 21, 4, 54, 12, 21, 5, 54, 13, 21, 6, 54, 14, 21, 8, 54, 15]
abbrev dktX1_open_3 : List UInt8 := dkwX1_open_3 ++ dktX1_open_4
def dkwX1_open_2 : List UInt8 := [8, 46, 54, 8, 42, 180, 0, 13, 16, 6, 46, 54, 9, 42, 180, 0, 13, 16, 7, 46, 54, 10, 16, 63]
abbrev dktX1_open_2 : List UInt8 := dkwX1_open_2 ++ dktX1_open_3
def dkwX1_open_1 : List UInt8 := [5, 46, 54, 5, 42, 180, 0, 13, 6, 46, 54, 6, 42, 180, 0, 13, 7, 46, 54, 7, 42, 180, 0, 13]
abbrev dktX1_open_1 : List UInt8 := dkwX1_open_1 ++ dktX1_open_2
def dkwX1_open_0 : List UInt8 := [42, 182, 0, 19, 77, 42, 180, 0, 13, 3, 46, 62, 42, 180, 0, 13, 4, 46, 54, 4, 42, 180, 0, 13]
abbrev dktX1_open_0 : List UInt8 := dkwX1_open_0 ++ dktX1_open_1
theorem dksX1_open_0 : cX1_open.data.toList.drop 0 = dktX1_open_0 := by decide +kernel
theorem dksX1_open_1 : cX1_open.data.toList.drop 24 = dktX1_open_1 := dk_seg dksX1_open_0 24 rfl rfl
theorem dksX1_open_2 : cX1_open.data.toList.drop 48 = dktX1_open_2 := dk_seg dksX1_open_1 24 rfl rfl
theorem dksX1_open_3 : cX1_open.data.toList.drop 72 = dktX1_open_3 := dk_seg dksX1_open_2 24 rfl rfl
theorem dksX1_open_4 : cX1_open.data.toList.drop 95 = dktX1_open_4 := dk_seg dksX1_open_3 23 rfl rfl
theorem dksX1_open_5 : cX1_open.data.toList.drop 118 = dktX1_open_5 := dk_seg dksX1_open_4 23 rfl rfl
theorem dksX1_open_6 : cX1_open.data.toList.drop 141 = dktX1_open_6 := dk_seg dksX1_open_5 23 rfl rfl
theorem dksX1_open_7 : cX1_open.data.toList.drop 165 = dktX1_open_7 := dk_seg dksX1_open_6 24 rfl rfl
theorem dksX1_open_8 : cX1_open.data.toList.drop 188 = dktX1_open_8 := dk_seg dksX1_open_7 23 rfl rfl
theorem dksX1_open_9 : cX1_open.data.toList.drop 212 = dktX1_open_9 := dk_seg dksX1_open_8 24 rfl rfl
theorem dX1_open_0 : decode cX1_open 0 = .ok (.aload_n 0, 1) := dk_42 (dk_at dksX1_open_0 0 rfl rfl)
theorem dX1_open_1 : decode cX1_open 1 = .ok (.invokevirtual 19, 3) := dk_182 0 19 (dk_at dksX1_open_0 1 rfl rfl)
theorem dX1_open_4 : decode cX1_open 4 = .ok (.astore_n 2, 1) := dk_77 (dk_at dksX1_open_0 4 rfl rfl)
theorem dX1_open_5 : decode cX1_open 5 = .ok (.aload_n 0, 1) := dk_42 (dk_at dksX1_open_0 5 rfl rfl)
theorem dX1_open_6 : decode cX1_open 6 = .ok (.getfield 13, 3) := dk_180 0 13 (dk_at dksX1_open_0 6 rfl rfl)
theorem dX1_open_9 : decode cX1_open 9 = .ok (.iconst 0, 1) := dk_3 (dk_at dksX1_open_0 9 rfl rfl)
theorem dX1_open_10 : decode cX1_open 10 = .ok (.iaload, 1) := dk_46 (dk_at dksX1_open_0 10 rfl rfl)
theorem dX1_open_11 : decode cX1_open 11 = .ok (.istore_n 3, 1) := dk_62 (dk_at dksX1_open_0 11 rfl rfl)
theorem dX1_open_12 : decode cX1_open 12 = .ok (.aload_n 0, 1) := dk_42 (dk_at dksX1_open_0 12 rfl rfl)
theorem dX1_open_13 : decode cX1_open 13 = .ok (.getfield 13, 3) := dk_180 0 13 (dk_at dksX1_open_0 13 rfl rfl)
theorem dX1_open_16 : decode cX1_open 16 = .ok (.iconst 1, 1) := dk_4 (dk_at dksX1_open_0 16 rfl rfl)
theorem dX1_open_17 : decode cX1_open 17 = .ok (.iaload, 1) := dk_46 (dk_at dksX1_open_0 17 rfl rfl)
theorem dX1_open_18 : decode cX1_open 18 = .ok (.istore 4, 2) := dk_54 4 (dk_at dksX1_open_0 18 rfl rfl)
theorem dX1_open_20 : decode cX1_open 20 = .ok (.aload_n 0, 1) := dk_42 (dk_at dksX1_open_0 20 rfl rfl)
theorem dX1_open_21 : decode cX1_open 21 = .ok (.getfield 13, 3) := dk_180 0 13 (dk_at dksX1_open_0 21 rfl rfl)
theorem dX1_open_24 : decode cX1_open 24 = .ok (.iconst 2, 1) := dk_5 (dk_at dksX1_open_1 0 rfl rfl)
theorem dX1_open_25 : decode cX1_open 25 = .ok (.iaload, 1) := dk_46 (dk_at dksX1_open_1 1 rfl rfl)
theorem dX1_open_26 : decode cX1_open 26 = .ok (.istore 5, 2) := dk_54 5 (dk_at dksX1_open_1 2 rfl rfl)
theorem dX1_open_28 : decode cX1_open 28 = .ok (.aload_n 0, 1) := dk_42 (dk_at dksX1_open_1 4 rfl rfl)
theorem dX1_open_29 : decode cX1_open 29 = .ok (.getfield 13, 3) := dk_180 0 13 (dk_at dksX1_open_1 5 rfl rfl)
theorem dX1_open_32 : decode cX1_open 32 = .ok (.iconst 3, 1) := dk_6 (dk_at dksX1_open_1 8 rfl rfl)
theorem dX1_open_33 : decode cX1_open 33 = .ok (.iaload, 1) := dk_46 (dk_at dksX1_open_1 9 rfl rfl)
theorem dX1_open_34 : decode cX1_open 34 = .ok (.istore 6, 2) := dk_54 6 (dk_at dksX1_open_1 10 rfl rfl)
theorem dX1_open_36 : decode cX1_open 36 = .ok (.aload_n 0, 1) := dk_42 (dk_at dksX1_open_1 12 rfl rfl)
theorem dX1_open_37 : decode cX1_open 37 = .ok (.getfield 13, 3) := dk_180 0 13 (dk_at dksX1_open_1 13 rfl rfl)
theorem dX1_open_40 : decode cX1_open 40 = .ok (.iconst 4, 1) := dk_7 (dk_at dksX1_open_1 16 rfl rfl)
theorem dX1_open_41 : decode cX1_open 41 = .ok (.iaload, 1) := dk_46 (dk_at dksX1_open_1 17 rfl rfl)
theorem dX1_open_42 : decode cX1_open 42 = .ok (.istore 7, 2) := dk_54 7 (dk_at dksX1_open_1 18 rfl rfl)
theorem dX1_open_44 : decode cX1_open 44 = .ok (.aload_n 0, 1) := dk_42 (dk_at dksX1_open_1 20 rfl rfl)
theorem dX1_open_45 : decode cX1_open 45 = .ok (.getfield 13, 3) := dk_180 0 13 (dk_at dksX1_open_1 21 rfl rfl)
theorem dX1_open_48 : decode cX1_open 48 = .ok (.iconst 5, 1) := dk_8 (dk_at dksX1_open_2 0 rfl rfl)
theorem dX1_open_49 : decode cX1_open 49 = .ok (.iaload, 1) := dk_46 (dk_at dksX1_open_2 1 rfl rfl)
theorem dX1_open_50 : decode cX1_open 50 = .ok (.istore 8, 2) := dk_54 8 (dk_at dksX1_open_2 2 rfl rfl)
theorem dX1_open_52 : decode cX1_open 52 = .ok (.aload_n 0, 1) := dk_42 (dk_at dksX1_open_2 4 rfl rfl)
theorem dX1_open_53 : decode cX1_open 53 = .ok (.getfield 13, 3) := dk_180 0 13 (dk_at dksX1_open_2 5 rfl rfl)
theorem dX1_open_56 : decode cX1_open 56 = .ok (.bipush 6, 2) := dk_16 6 (dk_at dksX1_open_2 8 rfl rfl)
theorem dX1_open_58 : decode cX1_open 58 = .ok (.iaload, 1) := dk_46 (dk_at dksX1_open_2 10 rfl rfl)
theorem dX1_open_59 : decode cX1_open 59 = .ok (.istore 9, 2) := dk_54 9 (dk_at dksX1_open_2 11 rfl rfl)
theorem dX1_open_61 : decode cX1_open 61 = .ok (.aload_n 0, 1) := dk_42 (dk_at dksX1_open_2 13 rfl rfl)
theorem dX1_open_62 : decode cX1_open 62 = .ok (.getfield 13, 3) := dk_180 0 13 (dk_at dksX1_open_2 14 rfl rfl)
theorem dX1_open_65 : decode cX1_open 65 = .ok (.bipush 7, 2) := dk_16 7 (dk_at dksX1_open_2 17 rfl rfl)
theorem dX1_open_67 : decode cX1_open 67 = .ok (.iaload, 1) := dk_46 (dk_at dksX1_open_2 19 rfl rfl)
theorem dX1_open_68 : decode cX1_open 68 = .ok (.istore 10, 2) := dk_54 10 (dk_at dksX1_open_2 20 rfl rfl)
theorem dX1_open_70 : decode cX1_open 70 = .ok (.bipush 63, 2) := dk_16 63 (dk_at dksX1_open_2 22 rfl rfl)
theorem dX1_open_72 : decode cX1_open 72 = .ok (.istore 11, 2) := dk_54 11 (dk_at dksX1_open_3 0 rfl rfl)
theorem dX1_open_74 : decode cX1_open 74 = .ok (.iload 11, 2) := dk_21 11 (dk_at dksX1_open_3 2 rfl rfl)
theorem dX1_open_76 : decode cX1_open 76 = .ok (.ifCond .lt 126, 3) := dk_155 0 126 (dk_at dksX1_open_3 4 rfl rfl)
theorem dX1_open_79 : decode cX1_open 79 = .ok (.iload 4, 2) := dk_21 4 (dk_at dksX1_open_3 7 rfl rfl)
theorem dX1_open_81 : decode cX1_open 81 = .ok (.istore 12, 2) := dk_54 12 (dk_at dksX1_open_3 9 rfl rfl)
theorem dX1_open_83 : decode cX1_open 83 = .ok (.iload 5, 2) := dk_21 5 (dk_at dksX1_open_3 11 rfl rfl)
theorem dX1_open_85 : decode cX1_open 85 = .ok (.istore 13, 2) := dk_54 13 (dk_at dksX1_open_3 13 rfl rfl)
theorem dX1_open_87 : decode cX1_open 87 = .ok (.iload 6, 2) := dk_21 6 (dk_at dksX1_open_3 15 rfl rfl)
theorem dX1_open_89 : decode cX1_open 89 = .ok (.istore 14, 2) := dk_54 14 (dk_at dksX1_open_3 17 rfl rfl)
theorem dX1_open_91 : decode cX1_open 91 = .ok (.iload 8, 2) := dk_21 8 (dk_at dksX1_open_3 19 rfl rfl)
theorem dX1_open_93 : decode cX1_open 93 = .ok (.istore 15, 2) := dk_54 15 (dk_at dksX1_open_3 21 rfl rfl)
theorem dX1_open_95 : decode cX1_open 95 = .ok (.iload 9, 2) := dk_21 9 (dk_at dksX1_open_4 0 rfl rfl)
theorem dX1_open_97 : decode cX1_open 97 = .ok (.istore 16, 2) := dk_54 16 (dk_at dksX1_open_4 2 rfl rfl)
theorem dX1_open_99 : decode cX1_open 99 = .ok (.iload 10, 2) := dk_21 10 (dk_at dksX1_open_4 4 rfl rfl)
theorem dX1_open_101 : decode cX1_open 101 = .ok (.istore 17, 2) := dk_54 17 (dk_at dksX1_open_4 6 rfl rfl)
theorem dX1_open_103 : decode cX1_open 103 = .ok (.iload 12, 2) := dk_21 12 (dk_at dksX1_open_4 8 rfl rfl)
theorem dX1_open_105 : decode cX1_open 105 = .ok (.invokestatic 34, 3) := dk_184 0 34 (dk_at dksX1_open_4 10 rfl rfl)
theorem dX1_open_108 : decode cX1_open 108 = .ok (.iload 12, 2) := dk_21 12 (dk_at dksX1_open_4 13 rfl rfl)
theorem dX1_open_110 : decode cX1_open 110 = .ok (.iload 13, 2) := dk_21 13 (dk_at dksX1_open_4 15 rfl rfl)
theorem dX1_open_112 : decode cX1_open 112 = .ok (.iload 14, 2) := dk_21 14 (dk_at dksX1_open_4 17 rfl rfl)
theorem dX1_open_114 : decode cX1_open 114 = .ok (.invokestatic 37, 3) := dk_184 0 37 (dk_at dksX1_open_4 19 rfl rfl)
theorem dX1_open_117 : decode cX1_open 117 = .ok (.iadd, 1) := dk_96 (dk_at dksX1_open_4 22 rfl rfl)
theorem dX1_open_118 : decode cX1_open 118 = .ok (.istore 18, 2) := dk_54 18 (dk_at dksX1_open_5 0 rfl rfl)
theorem dX1_open_120 : decode cX1_open 120 = .ok (.iload_n 3, 1) := dk_29 (dk_at dksX1_open_5 2 rfl rfl)
theorem dX1_open_121 : decode cX1_open 121 = .ok (.iload 18, 2) := dk_21 18 (dk_at dksX1_open_5 3 rfl rfl)
theorem dX1_open_123 : decode cX1_open 123 = .ok (.isub, 1) := dk_100 (dk_at dksX1_open_5 5 rfl rfl)
theorem dX1_open_124 : decode cX1_open 124 = .ok (.istore 19, 2) := dk_54 19 (dk_at dksX1_open_5 6 rfl rfl)
theorem dX1_open_126 : decode cX1_open 126 = .ok (.iload 7, 2) := dk_21 7 (dk_at dksX1_open_5 8 rfl rfl)
theorem dX1_open_128 : decode cX1_open 128 = .ok (.iload 19, 2) := dk_21 19 (dk_at dksX1_open_5 10 rfl rfl)
theorem dX1_open_130 : decode cX1_open 130 = .ok (.isub, 1) := dk_100 (dk_at dksX1_open_5 12 rfl rfl)
theorem dX1_open_131 : decode cX1_open 131 = .ok (.istore 20, 2) := dk_54 20 (dk_at dksX1_open_5 13 rfl rfl)
theorem dX1_open_133 : decode cX1_open 133 = .ok (.iload 19, 2) := dk_21 19 (dk_at dksX1_open_5 15 rfl rfl)
theorem dX1_open_135 : decode cX1_open 135 = .ok (.iload 15, 2) := dk_21 15 (dk_at dksX1_open_5 17 rfl rfl)
theorem dX1_open_137 : decode cX1_open 137 = .ok (.invokestatic 23, 3) := dk_184 0 23 (dk_at dksX1_open_5 19 rfl rfl)
theorem dX1_open_140 : decode cX1_open 140 = .ok (.isub, 1) := dk_100 (dk_at dksX1_open_5 22 rfl rfl)
theorem dX1_open_141 : decode cX1_open 141 = .ok (.iload 15, 2) := dk_21 15 (dk_at dksX1_open_6 0 rfl rfl)
theorem dX1_open_143 : decode cX1_open 143 = .ok (.iload 16, 2) := dk_21 16 (dk_at dksX1_open_6 2 rfl rfl)
theorem dX1_open_145 : decode cX1_open 145 = .ok (.iload 17, 2) := dk_21 17 (dk_at dksX1_open_6 4 rfl rfl)
theorem dX1_open_147 : decode cX1_open 147 = .ok (.invokestatic 27, 3) := dk_184 0 27 (dk_at dksX1_open_6 6 rfl rfl)
theorem dX1_open_150 : decode cX1_open 150 = .ok (.isub, 1) := dk_100 (dk_at dksX1_open_6 9 rfl rfl)
theorem dX1_open_151 : decode cX1_open 151 = .ok (.getstatic 31, 3) := dk_178 0 31 (dk_at dksX1_open_6 10 rfl rfl)
theorem dX1_open_154 : decode cX1_open 154 = .ok (.iload 11, 2) := dk_21 11 (dk_at dksX1_open_6 13 rfl rfl)
theorem dX1_open_156 : decode cX1_open 156 = .ok (.iaload, 1) := dk_46 (dk_at dksX1_open_6 15 rfl rfl)
theorem dX1_open_157 : decode cX1_open 157 = .ok (.isub, 1) := dk_100 (dk_at dksX1_open_6 16 rfl rfl)
theorem dX1_open_158 : decode cX1_open 158 = .ok (.aload_n 2, 1) := dk_44 (dk_at dksX1_open_6 17 rfl rfl)
theorem dX1_open_159 : decode cX1_open 159 = .ok (.iload 11, 2) := dk_21 11 (dk_at dksX1_open_6 18 rfl rfl)
theorem dX1_open_161 : decode cX1_open 161 = .ok (.iaload, 1) := dk_46 (dk_at dksX1_open_6 20 rfl rfl)
theorem dX1_open_162 : decode cX1_open 162 = .ok (.isub, 1) := dk_100 (dk_at dksX1_open_6 21 rfl rfl)
theorem dX1_open_163 : decode cX1_open 163 = .ok (.istore 21, 2) := dk_54 21 (dk_at dksX1_open_6 22 rfl rfl)
theorem dX1_open_165 : decode cX1_open 165 = .ok (.iload 12, 2) := dk_21 12 (dk_at dksX1_open_7 0 rfl rfl)
theorem dX1_open_167 : decode cX1_open 167 = .ok (.istore_n 3, 1) := dk_62 (dk_at dksX1_open_7 2 rfl rfl)
theorem dX1_open_168 : decode cX1_open 168 = .ok (.iload 13, 2) := dk_21 13 (dk_at dksX1_open_7 3 rfl rfl)
theorem dX1_open_170 : decode cX1_open 170 = .ok (.istore 4, 2) := dk_54 4 (dk_at dksX1_open_7 5 rfl rfl)
theorem dX1_open_172 : decode cX1_open 172 = .ok (.iload 14, 2) := dk_21 14 (dk_at dksX1_open_7 7 rfl rfl)
theorem dX1_open_174 : decode cX1_open 174 = .ok (.istore 5, 2) := dk_54 5 (dk_at dksX1_open_7 9 rfl rfl)
theorem dX1_open_176 : decode cX1_open 176 = .ok (.iload 20, 2) := dk_21 20 (dk_at dksX1_open_7 11 rfl rfl)
theorem dX1_open_178 : decode cX1_open 178 = .ok (.istore 6, 2) := dk_54 6 (dk_at dksX1_open_7 13 rfl rfl)
theorem dX1_open_180 : decode cX1_open 180 = .ok (.iload 15, 2) := dk_21 15 (dk_at dksX1_open_7 15 rfl rfl)
theorem dX1_open_182 : decode cX1_open 182 = .ok (.istore 7, 2) := dk_54 7 (dk_at dksX1_open_7 17 rfl rfl)
theorem dX1_open_184 : decode cX1_open 184 = .ok (.iload 16, 2) := dk_21 16 (dk_at dksX1_open_7 19 rfl rfl)
theorem dX1_open_186 : decode cX1_open 186 = .ok (.istore 8, 2) := dk_54 8 (dk_at dksX1_open_7 21 rfl rfl)
theorem dX1_open_188 : decode cX1_open 188 = .ok (.iload 17, 2) := dk_21 17 (dk_at dksX1_open_8 0 rfl rfl)
theorem dX1_open_190 : decode cX1_open 190 = .ok (.istore 9, 2) := dk_54 9 (dk_at dksX1_open_8 2 rfl rfl)
theorem dX1_open_192 : decode cX1_open 192 = .ok (.iload 21, 2) := dk_21 21 (dk_at dksX1_open_8 4 rfl rfl)
theorem dX1_open_194 : decode cX1_open 194 = .ok (.istore 10, 2) := dk_54 10 (dk_at dksX1_open_8 6 rfl rfl)
theorem dX1_open_196 : decode cX1_open 196 = .ok (.iinc 11 (-1), 3) := dk_132 11 255 (dk_at dksX1_open_8 8 rfl rfl)
theorem dX1_open_199 : decode cX1_open 199 = .ok (.goto (-125), 3) := dk_167 255 131 (dk_at dksX1_open_8 11 rfl rfl)
theorem dX1_open_202 : decode cX1_open 202 = .ok (.aload_n 0, 1) := dk_42 (dk_at dksX1_open_8 14 rfl rfl)
theorem dX1_open_203 : decode cX1_open 203 = .ok (.iload_n 3, 1) := dk_29 (dk_at dksX1_open_8 15 rfl rfl)
theorem dX1_open_204 : decode cX1_open 204 = .ok (.iload 4, 2) := dk_21 4 (dk_at dksX1_open_8 16 rfl rfl)
theorem dX1_open_206 : decode cX1_open 206 = .ok (.iload 5, 2) := dk_21 5 (dk_at dksX1_open_8 18 rfl rfl)
theorem dX1_open_208 : decode cX1_open 208 = .ok (.iload 6, 2) := dk_21 6 (dk_at dksX1_open_8 20 rfl rfl)
theorem dX1_open_210 : decode cX1_open 210 = .ok (.iload 7, 2) := dk_21 7 (dk_at dksX1_open_8 22 rfl rfl)
theorem dX1_open_212 : decode cX1_open 212 = .ok (.iload 8, 2) := dk_21 8 (dk_at dksX1_open_9 0 rfl rfl)
theorem dX1_open_214 : decode cX1_open 214 = .ok (.iload 9, 2) := dk_21 9 (dk_at dksX1_open_9 2 rfl rfl)
theorem dX1_open_216 : decode cX1_open 216 = .ok (.iload 10, 2) := dk_21 10 (dk_at dksX1_open_9 4 rfl rfl)
theorem dX1_open_218 : decode cX1_open 218 = .ok (.invokevirtual 40, 3) := dk_182 0 40 (dk_at dksX1_open_9 6 rfl rfl)
theorem dX1_open_221 : decode cX1_open 221 = .ok (.return_, 1) := dk_177 (dk_at dksX1_open_9 9 rfl rfl)
abbrev cX1_again : ByteArray := prog_10_method_6_code
def yX1_again : MethodName := ⟨RX1, "again", "()V"⟩
def dkwX1_again_1 : List UInt8 := [167, 255, 235, 177]
abbrev dktX1_again_1 : List UInt8 := dkwX1_again_1 ++ []
def dkwX1_again_0 : List UInt8 := [3, 60, 27, 16, 8, 162, 0, 21, 42, 180, 0, 13, 27, 42, 180, 0, 16, 27, 46, 79, 132, 1, 1]
abbrev dktX1_again_0 : List UInt8 := dkwX1_again_0 ++ dktX1_again_1
theorem dksX1_again_0 : cX1_again.data.toList.drop 0 = dktX1_again_0 := by decide +kernel
theorem dksX1_again_1 : cX1_again.data.toList.drop 23 = dktX1_again_1 := dk_seg dksX1_again_0 23 rfl rfl
theorem dX1_again_0 : decode cX1_again 0 = .ok (.iconst 0, 1) := dk_3 (dk_at dksX1_again_0 0 rfl rfl)
theorem dX1_again_1 : decode cX1_again 1 = .ok (.istore_n 1, 1) := dk_60 (dk_at dksX1_again_0 1 rfl rfl)
theorem dX1_again_2 : decode cX1_again 2 = .ok (.iload_n 1, 1) := dk_27 (dk_at dksX1_again_0 2 rfl rfl)
theorem dX1_again_3 : decode cX1_again 3 = .ok (.bipush 8, 2) := dk_16 8 (dk_at dksX1_again_0 3 rfl rfl)
theorem dX1_again_5 : decode cX1_again 5 = .ok (.if_icmp .ge 21, 3) := dk_162 0 21 (dk_at dksX1_again_0 5 rfl rfl)
theorem dX1_again_8 : decode cX1_again 8 = .ok (.aload_n 0, 1) := dk_42 (dk_at dksX1_again_0 8 rfl rfl)
theorem dX1_again_9 : decode cX1_again 9 = .ok (.getfield 13, 3) := dk_180 0 13 (dk_at dksX1_again_0 9 rfl rfl)
theorem dX1_again_12 : decode cX1_again 12 = .ok (.iload_n 1, 1) := dk_27 (dk_at dksX1_again_0 12 rfl rfl)
theorem dX1_again_13 : decode cX1_again 13 = .ok (.aload_n 0, 1) := dk_42 (dk_at dksX1_again_0 13 rfl rfl)
theorem dX1_again_14 : decode cX1_again 14 = .ok (.getfield 16, 3) := dk_180 0 16 (dk_at dksX1_again_0 14 rfl rfl)
theorem dX1_again_17 : decode cX1_again 17 = .ok (.iload_n 1, 1) := dk_27 (dk_at dksX1_again_0 17 rfl rfl)
theorem dX1_again_18 : decode cX1_again 18 = .ok (.iaload, 1) := dk_46 (dk_at dksX1_again_0 18 rfl rfl)
theorem dX1_again_19 : decode cX1_again 19 = .ok (.iastore, 1) := dk_79 (dk_at dksX1_again_0 19 rfl rfl)
theorem dX1_again_20 : decode cX1_again 20 = .ok (.iinc 1 1, 3) := dk_132 1 1 (dk_at dksX1_again_0 20 rfl rfl)
theorem dX1_again_23 : decode cX1_again 23 = .ok (.goto (-21), 3) := dk_167 255 235 (dk_at dksX1_again_1 0 rfl rfl)
theorem dX1_again_26 : decode cX1_again 26 = .ok (.return_, 1) := dk_177 (dk_at dksX1_again_1 3 rfl rfl)
abbrev cX1_out : ByteArray := prog_10_method_7_code
def yX1_out : MethodName := ⟨RX1, "out", "(I)I"⟩
def dkwX1_out_1 : List UInt8 := [124, 17, 0, 255, 126, 172]
abbrev dktX1_out_1 : List UInt8 := dkwX1_out_1 ++ []
def dkwX1_out_0 : List UInt8 := [27, 16, 31, 126, 61, 16, 24, 16, 8, 28, 7, 112, 104, 100, 62, 42, 180, 0, 16, 28, 7, 108, 46, 29]
abbrev dktX1_out_0 : List UInt8 := dkwX1_out_0 ++ dktX1_out_1
theorem dksX1_out_0 : cX1_out.data.toList.drop 0 = dktX1_out_0 := by decide +kernel
theorem dksX1_out_1 : cX1_out.data.toList.drop 24 = dktX1_out_1 := dk_seg dksX1_out_0 24 rfl rfl
theorem dX1_out_0 : decode cX1_out 0 = .ok (.iload_n 1, 1) := dk_27 (dk_at dksX1_out_0 0 rfl rfl)
theorem dX1_out_1 : decode cX1_out 1 = .ok (.bipush 31, 2) := dk_16 31 (dk_at dksX1_out_0 1 rfl rfl)
theorem dX1_out_3 : decode cX1_out 3 = .ok (.iand, 1) := dk_126 (dk_at dksX1_out_0 3 rfl rfl)
theorem dX1_out_4 : decode cX1_out 4 = .ok (.istore_n 2, 1) := dk_61 (dk_at dksX1_out_0 4 rfl rfl)
theorem dX1_out_5 : decode cX1_out 5 = .ok (.bipush 24, 2) := dk_16 24 (dk_at dksX1_out_0 5 rfl rfl)
theorem dX1_out_7 : decode cX1_out 7 = .ok (.bipush 8, 2) := dk_16 8 (dk_at dksX1_out_0 7 rfl rfl)
theorem dX1_out_9 : decode cX1_out 9 = .ok (.iload_n 2, 1) := dk_28 (dk_at dksX1_out_0 9 rfl rfl)
theorem dX1_out_10 : decode cX1_out 10 = .ok (.iconst 4, 1) := dk_7 (dk_at dksX1_out_0 10 rfl rfl)
theorem dX1_out_11 : decode cX1_out 11 = .ok (.irem, 1) := dk_112 (dk_at dksX1_out_0 11 rfl rfl)
theorem dX1_out_12 : decode cX1_out 12 = .ok (.imul, 1) := dk_104 (dk_at dksX1_out_0 12 rfl rfl)
theorem dX1_out_13 : decode cX1_out 13 = .ok (.isub, 1) := dk_100 (dk_at dksX1_out_0 13 rfl rfl)
theorem dX1_out_14 : decode cX1_out 14 = .ok (.istore_n 3, 1) := dk_62 (dk_at dksX1_out_0 14 rfl rfl)
theorem dX1_out_15 : decode cX1_out 15 = .ok (.aload_n 0, 1) := dk_42 (dk_at dksX1_out_0 15 rfl rfl)
theorem dX1_out_16 : decode cX1_out 16 = .ok (.getfield 16, 3) := dk_180 0 16 (dk_at dksX1_out_0 16 rfl rfl)
theorem dX1_out_19 : decode cX1_out 19 = .ok (.iload_n 2, 1) := dk_28 (dk_at dksX1_out_0 19 rfl rfl)
theorem dX1_out_20 : decode cX1_out 20 = .ok (.iconst 4, 1) := dk_7 (dk_at dksX1_out_0 20 rfl rfl)
theorem dX1_out_21 : decode cX1_out 21 = .ok (.idiv, 1) := dk_108 (dk_at dksX1_out_0 21 rfl rfl)
theorem dX1_out_22 : decode cX1_out 22 = .ok (.iaload, 1) := dk_46 (dk_at dksX1_out_0 22 rfl rfl)
theorem dX1_out_23 : decode cX1_out 23 = .ok (.iload_n 3, 1) := dk_29 (dk_at dksX1_out_0 23 rfl rfl)
theorem dX1_out_24 : decode cX1_out 24 = .ok (.iushr, 1) := dk_124 (dk_at dksX1_out_1 0 rfl rfl)
theorem dX1_out_25 : decode cX1_out 25 = .ok (.sipush 255, 3) := dk_17 0 255 (dk_at dksX1_out_1 1 rfl rfl)
theorem dX1_out_28 : decode cX1_out 28 = .ok (.iand, 1) := dk_126 (dk_at dksX1_out_1 4 rfl rfl)
theorem dX1_out_29 : decode cX1_out 29 = .ok (.ireturn, 1) := dk_172 (dk_at dksX1_out_1 5 rfl rfl)
theorem q11 : (Jvm.Cond.initialized "ShacalDeskModel") ∈ lw_all := lw_g (lw_at lw_m1 2 rfl) rfl
theorem q279 : (Jvm.Cond.instantiable "ShacalDeskModel" (3 : Nat)) ∈ lw_all := lw_g (lw_at lw_m2 30 rfl) rfl
theorem q281 : (Jvm.Cond.instanceMethod ({ cls := "ShacalDeskModel", name := "<init>", desc := "()V" } : Jvm.MethodName)) ∈ lw_all := lw_g (lw_at lw_m2 32 rfl) rfl
theorem q282 : (Jvm.Cond.code ({ cls := "ShacalDeskModel", name := "<init>", desc := "()V" } : Jvm.MethodName) prog_10_method_1_code (1 : Nat) (Option.none : Option Jvm.ClassFile.FieldType)) ∈ lw_all := lw_g (lw_at lw_m2 33 rfl) rfl
theorem q283 : (Jvm.Cond.methodLink "ShacalDeskModel" (1 : Nat) ({ cls := "java/lang/Object", name := "<init>", desc := "()V" } : Jvm.MethodName)) ∈ lw_all := lw_g (lw_at lw_m2 34 rfl) rfl
theorem q284 : (Jvm.Cond.fieldLink "ShacalDeskModel" (7 : Nat) "ShacalDeskModel" "key" "[I") ∈ lw_all := lw_g (lw_at lw_m2 35 rfl) rfl
theorem q285 : (Jvm.Cond.fieldLink "ShacalDeskModel" (13 : Nat) "ShacalDeskModel" "block" "[I") ∈ lw_all := lw_g (lw_at lw_m2 36 rfl) rfl
theorem q286 : (Jvm.Cond.fieldLink "ShacalDeskModel" (16 : Nat) "ShacalDeskModel" "out" "[I") ∈ lw_all := lw_g (lw_at lw_m2 37 rfl) rfl
theorem q287 : (Jvm.Cond.laysFinal "ShacalDeskModel" "ShacalDeskModel" "key" "[I") ∈ lw_all := lw_g (lw_at lw_m2 38 rfl) rfl
theorem q288 : (Jvm.Cond.soleField "ShacalDeskModel" "key") ∈ lw_all := lw_g (lw_at lw_m2 39 rfl) rfl
theorem q289 : (Jvm.Cond.laysFinal "ShacalDeskModel" "ShacalDeskModel" "block" "[I") ∈ lw_all := lw_g (lw_at lw_m2 40 rfl) rfl
theorem q290 : (Jvm.Cond.soleField "ShacalDeskModel" "block") ∈ lw_all := lw_g (lw_at lw_m2 41 rfl) rfl
theorem q291 : (Jvm.Cond.laysFinal "ShacalDeskModel" "ShacalDeskModel" "out" "[I") ∈ lw_all := lw_g (lw_at lw_m2 42 rfl) rfl
theorem q292 : (Jvm.Cond.soleField "ShacalDeskModel" "out") ∈ lw_all := lw_g (lw_at lw_m2 43 rfl) rfl
theorem q293 : (Jvm.Cond.superclass "ShacalDeskModel" "java/lang/Object") ∈ lw_all := lw_g (lw_at lw_m2 44 rfl) rfl
theorem q295 : (Jvm.Cond.instanceMethod ({ cls := "ShacalDeskModel", name := "key", desc := "(IIIII)V" } : Jvm.MethodName)) ∈ lw_all := lw_g (lw_at lw_m2 46 rfl) rfl
theorem q296 : (Jvm.Cond.selects "ShacalDeskModel" ({ cls := "ShacalDeskModel", name := "key", desc := "(IIIII)V" } : Jvm.MethodName) ({ cls := "ShacalDeskModel", name := "key", desc := "(IIIII)V" } : Jvm.MethodName)) ∈ lw_all := lw_g (lw_at lw_m2 47 rfl) rfl
theorem q297 : (Jvm.Cond.code ({ cls := "ShacalDeskModel", name := "key", desc := "(IIIII)V" } : Jvm.MethodName) prog_10_method_2_code (7 : Nat) (Option.none : Option Jvm.ClassFile.FieldType)) ∈ lw_all := lw_g (lw_at lw_m2 48 rfl) rfl
theorem q299 : (Jvm.Cond.instanceMethod ({ cls := "ShacalDeskModel", name := "block", desc := "(IIIII)V" } : Jvm.MethodName)) ∈ lw_all := lw_g (lw_at lw_m2 50 rfl) rfl
theorem q300 : (Jvm.Cond.selects "ShacalDeskModel" ({ cls := "ShacalDeskModel", name := "block", desc := "(IIIII)V" } : Jvm.MethodName) ({ cls := "ShacalDeskModel", name := "block", desc := "(IIIII)V" } : Jvm.MethodName)) ∈ lw_all := lw_g (lw_at lw_m2 51 rfl) rfl
theorem q301 : (Jvm.Cond.code ({ cls := "ShacalDeskModel", name := "block", desc := "(IIIII)V" } : Jvm.MethodName) prog_10_method_3_code (7 : Nat) (Option.none : Option Jvm.ClassFile.FieldType)) ∈ lw_all := lw_g (lw_at lw_m2 52 rfl) rfl
theorem q303 : (Jvm.Cond.instanceMethod ({ cls := "ShacalDeskModel", name := "lock", desc := "(I)V" } : Jvm.MethodName)) ∈ lw_all := lw_g (lw_at lw_m2 54 rfl) rfl
theorem q304 : (Jvm.Cond.selects "ShacalDeskModel" ({ cls := "ShacalDeskModel", name := "lock", desc := "(I)V" } : Jvm.MethodName) ({ cls := "ShacalDeskModel", name := "lock", desc := "(I)V" } : Jvm.MethodName)) ∈ lw_all := lw_g (lw_at lw_m2 55 rfl) rfl
theorem q305 : (Jvm.Cond.code ({ cls := "ShacalDeskModel", name := "lock", desc := "(I)V" } : Jvm.MethodName) prog_10_method_4_code (14 : Nat) (Option.none : Option Jvm.ClassFile.FieldType)) ∈ lw_all := lw_g (lw_at lw_m2 56 rfl) rfl
theorem q306 : (Jvm.Cond.methodLink "ShacalDeskModel" (19 : Nat) ({ cls := "ShacalDeskModel", name := "schedule", desc := "()[I" } : Jvm.MethodName)) ∈ lw_all := lw_g (lw_at lw_m2 57 rfl) rfl
theorem q307 : (Jvm.Cond.privateMethod ({ cls := "ShacalDeskModel", name := "schedule", desc := "()[I" } : Jvm.MethodName)) ∈ lw_tbl := lw_at lw_m2 58 rfl
theorem q308 : (Jvm.Cond.instanceMethod ({ cls := "ShacalDeskModel", name := "schedule", desc := "()[I" } : Jvm.MethodName)) ∈ lw_all := lw_g (lw_at lw_m2 59 rfl) rfl
theorem q309 : (Jvm.Cond.code ({ cls := "ShacalDeskModel", name := "schedule", desc := "()[I" } : Jvm.MethodName) prog_10_method_9_code (3 : Nat) (Option.some (Jvm.ClassFile.FieldType.array Jvm.ClassFile.FieldType.int))) ∈ lw_all := lw_g (lw_at lw_m2 60 rfl) rfl
theorem q310 : (Jvm.Cond.methodLink "ShacalDeskModel" (44 : Nat) ({ cls := "ShacalDeskModel", name := "smallSigma1", desc := "(I)I" } : Jvm.MethodName)) ∈ lw_all := lw_g (lw_at lw_m2 61 rfl) rfl
theorem q311 : (Jvm.Cond.static ({ cls := "ShacalDeskModel", name := "smallSigma1", desc := "(I)I" } : Jvm.MethodName)) ∈ lw_all := lw_g (lw_at lw_m2 62 rfl) rfl
theorem q312 : (Jvm.Cond.code ({ cls := "ShacalDeskModel", name := "smallSigma1", desc := "(I)I" } : Jvm.MethodName) prog_10_method_14_code (1 : Nat) (Option.some Jvm.ClassFile.FieldType.int)) ∈ lw_all := lw_g (lw_at lw_m2 63 rfl) rfl
theorem q313 : (Jvm.Cond.methodLink "ShacalDeskModel" (50 : Nat) ({ cls := "ShacalDeskModel", name := "turnRight", desc := "(II)I" } : Jvm.MethodName)) ∈ lw_all := lw_g (lw_at lw_m2 64 rfl) rfl
theorem q314 : (Jvm.Cond.static ({ cls := "ShacalDeskModel", name := "turnRight", desc := "(II)I" } : Jvm.MethodName)) ∈ lw_all := lw_g (lw_at lw_m2 65 rfl) rfl
theorem q315 : (Jvm.Cond.code ({ cls := "ShacalDeskModel", name := "turnRight", desc := "(II)I" } : Jvm.MethodName) prog_10_method_10_code (2 : Nat) (Option.some Jvm.ClassFile.FieldType.int)) ∈ lw_all := lw_g (lw_at lw_m2 66 rfl) rfl
theorem q316 : (Jvm.Cond.methodLink "ShacalDeskModel" (47 : Nat) ({ cls := "ShacalDeskModel", name := "smallSigma0", desc := "(I)I" } : Jvm.MethodName)) ∈ lw_all := lw_g (lw_at lw_m2 67 rfl) rfl
theorem q317 : (Jvm.Cond.static ({ cls := "ShacalDeskModel", name := "smallSigma0", desc := "(I)I" } : Jvm.MethodName)) ∈ lw_all := lw_g (lw_at lw_m2 68 rfl) rfl
theorem q318 : (Jvm.Cond.code ({ cls := "ShacalDeskModel", name := "smallSigma0", desc := "(I)I" } : Jvm.MethodName) prog_10_method_13_code (1 : Nat) (Option.some Jvm.ClassFile.FieldType.int)) ∈ lw_all := lw_g (lw_at lw_m2 69 rfl) rfl
theorem q319 : (Jvm.Cond.methodLink "ShacalDeskModel" (23 : Nat) ({ cls := "ShacalDeskModel", name := "bigSigma1", desc := "(I)I" } : Jvm.MethodName)) ∈ lw_all := lw_g (lw_at lw_m2 70 rfl) rfl
theorem q320 : (Jvm.Cond.static ({ cls := "ShacalDeskModel", name := "bigSigma1", desc := "(I)I" } : Jvm.MethodName)) ∈ lw_all := lw_g (lw_at lw_m2 71 rfl) rfl
theorem q321 : (Jvm.Cond.code ({ cls := "ShacalDeskModel", name := "bigSigma1", desc := "(I)I" } : Jvm.MethodName) prog_10_method_12_code (1 : Nat) (Option.some Jvm.ClassFile.FieldType.int)) ∈ lw_all := lw_g (lw_at lw_m2 72 rfl) rfl
theorem q322 : (Jvm.Cond.methodLink "ShacalDeskModel" (27 : Nat) ({ cls := "ShacalDeskModel", name := "choose", desc := "(III)I" } : Jvm.MethodName)) ∈ lw_all := lw_g (lw_at lw_m2 73 rfl) rfl
theorem q323 : (Jvm.Cond.static ({ cls := "ShacalDeskModel", name := "choose", desc := "(III)I" } : Jvm.MethodName)) ∈ lw_all := lw_g (lw_at lw_m2 74 rfl) rfl
theorem q324 : (Jvm.Cond.code ({ cls := "ShacalDeskModel", name := "choose", desc := "(III)I" } : Jvm.MethodName) prog_10_method_15_code (3 : Nat) (Option.some Jvm.ClassFile.FieldType.int)) ∈ lw_all := lw_g (lw_at lw_m2 75 rfl) rfl
theorem q325 : (Jvm.Cond.fieldLink "ShacalDeskModel" (31 : Nat) "ShacalDeskModel" "CONSTANTS" "[I") ∈ lw_all := lw_g (lw_at lw_m2 76 rfl) rfl
theorem q326 : (Jvm.Cond.laysStatic "ShacalDeskModel" "CONSTANTS" "[I") ∈ lw_tbl := lw_at lw_m2 77 rfl
theorem q327 : (Jvm.Cond.methodLink "ShacalDeskModel" (34 : Nat) ({ cls := "ShacalDeskModel", name := "bigSigma0", desc := "(I)I" } : Jvm.MethodName)) ∈ lw_all := lw_g (lw_at lw_m2 78 rfl) rfl
theorem q328 : (Jvm.Cond.static ({ cls := "ShacalDeskModel", name := "bigSigma0", desc := "(I)I" } : Jvm.MethodName)) ∈ lw_all := lw_g (lw_at lw_m2 79 rfl) rfl
theorem q329 : (Jvm.Cond.code ({ cls := "ShacalDeskModel", name := "bigSigma0", desc := "(I)I" } : Jvm.MethodName) prog_10_method_11_code (1 : Nat) (Option.some Jvm.ClassFile.FieldType.int)) ∈ lw_all := lw_g (lw_at lw_m2 80 rfl) rfl
theorem q330 : (Jvm.Cond.methodLink "ShacalDeskModel" (37 : Nat) ({ cls := "ShacalDeskModel", name := "majority", desc := "(III)I" } : Jvm.MethodName)) ∈ lw_all := lw_g (lw_at lw_m2 81 rfl) rfl
theorem q331 : (Jvm.Cond.static ({ cls := "ShacalDeskModel", name := "majority", desc := "(III)I" } : Jvm.MethodName)) ∈ lw_all := lw_g (lw_at lw_m2 82 rfl) rfl
theorem q332 : (Jvm.Cond.code ({ cls := "ShacalDeskModel", name := "majority", desc := "(III)I" } : Jvm.MethodName) prog_10_method_16_code (3 : Nat) (Option.some Jvm.ClassFile.FieldType.int)) ∈ lw_all := lw_g (lw_at lw_m2 83 rfl) rfl
theorem q333 : (Jvm.Cond.methodLink "ShacalDeskModel" (40 : Nat) ({ cls := "ShacalDeskModel", name := "put", desc := "(IIIIIIII)V" } : Jvm.MethodName)) ∈ lw_all := lw_g (lw_at lw_m2 84 rfl) rfl
theorem q334 : (Jvm.Cond.privateMethod ({ cls := "ShacalDeskModel", name := "put", desc := "(IIIIIIII)V" } : Jvm.MethodName)) ∈ lw_tbl := lw_at lw_m2 85 rfl
theorem q335 : (Jvm.Cond.instanceMethod ({ cls := "ShacalDeskModel", name := "put", desc := "(IIIIIIII)V" } : Jvm.MethodName)) ∈ lw_all := lw_g (lw_at lw_m2 86 rfl) rfl
theorem q336 : (Jvm.Cond.code ({ cls := "ShacalDeskModel", name := "put", desc := "(IIIIIIII)V" } : Jvm.MethodName) prog_10_method_8_code (9 : Nat) (Option.none : Option Jvm.ClassFile.FieldType)) ∈ lw_all := lw_g (lw_at lw_m2 87 rfl) rfl
theorem q338 : (Jvm.Cond.instanceMethod ({ cls := "ShacalDeskModel", name := "open", desc := "(I)V" } : Jvm.MethodName)) ∈ lw_all := lw_g (lw_at lw_m2 89 rfl) rfl
theorem q339 : (Jvm.Cond.selects "ShacalDeskModel" ({ cls := "ShacalDeskModel", name := "open", desc := "(I)V" } : Jvm.MethodName) ({ cls := "ShacalDeskModel", name := "open", desc := "(I)V" } : Jvm.MethodName)) ∈ lw_all := lw_g (lw_at lw_m2 90 rfl) rfl
theorem q340 : (Jvm.Cond.code ({ cls := "ShacalDeskModel", name := "open", desc := "(I)V" } : Jvm.MethodName) prog_10_method_5_code (22 : Nat) (Option.none : Option Jvm.ClassFile.FieldType)) ∈ lw_all := lw_g (lw_at lw_m2 91 rfl) rfl
theorem q342 : (Jvm.Cond.instanceMethod ({ cls := "ShacalDeskModel", name := "again", desc := "()V" } : Jvm.MethodName)) ∈ lw_all := lw_g (lw_at lw_m2 93 rfl) rfl
theorem q343 : (Jvm.Cond.selects "ShacalDeskModel" ({ cls := "ShacalDeskModel", name := "again", desc := "()V" } : Jvm.MethodName) ({ cls := "ShacalDeskModel", name := "again", desc := "()V" } : Jvm.MethodName)) ∈ lw_all := lw_g (lw_at lw_m2 94 rfl) rfl
theorem q344 : (Jvm.Cond.code ({ cls := "ShacalDeskModel", name := "again", desc := "()V" } : Jvm.MethodName) prog_10_method_6_code (2 : Nat) (Option.none : Option Jvm.ClassFile.FieldType)) ∈ lw_all := lw_g (lw_at lw_m2 95 rfl) rfl
theorem q346 : (Jvm.Cond.instanceMethod ({ cls := "ShacalDeskModel", name := "out", desc := "(I)I" } : Jvm.MethodName)) ∈ lw_all := lw_g (lw_at lw_m2 97 rfl) rfl
theorem q347 : (Jvm.Cond.selects "ShacalDeskModel" ({ cls := "ShacalDeskModel", name := "out", desc := "(I)I" } : Jvm.MethodName) ({ cls := "ShacalDeskModel", name := "out", desc := "(I)I" } : Jvm.MethodName)) ∈ lw_all := lw_g (lw_at lw_m2 98 rfl) rfl
theorem q348 : (Jvm.Cond.code ({ cls := "ShacalDeskModel", name := "out", desc := "(I)I" } : Jvm.MethodName) prog_10_method_7_code (4 : Nat) (Option.some Jvm.ClassFile.FieldType.int)) ∈ lw_all := lw_g (lw_at lw_m2 99 rfl) rfl
theorem in_X1 : ∀ w ∈ wsX10, w ∈ lw_all := lw_in wsX10 [287, 289, 291] (by decide +kernel) (by decide +kernel)
end
section
/-! Shacal2Engine -/
set_option maxRecDepth 100000
def RX2 : String := "Shacal2Engine"
def TX2 : u_T := fun k => match k with
  | 0 => ("Shacal2Engine", "forEncryption", "Z", false)
  | _ => ("Shacal2Engine", "workingKey", "[I", false)
def tyX2 : Nat → FieldType := fun k => match k with
  | 0 => .boolean
  | _ => .array .int
abbrev wsX20 : List Cond := u_ws RX2 TX2 2
theorem nmX2 : ∀ a, a < 2 → ∀ b, b < 2 → a ≠ b → (TX2 a).2.1 ≠ (TX2 b).2.1 := by decide +kernel
theorem tyX2_ok : ∀ k, k < 2 → parseFieldDescriptor (TX2 k).2.2.1 = some (tyX2 k) := by decide +kernel
abbrev cX2_init : ByteArray := prog_7_method_1_code
def yX2_init : MethodName := ⟨RX2, "<init>", "()V"⟩
def dkwX2_init_0 : List UInt8 := [42, 183, 0, 1, 42, 3, 181, 0, 7, 42, 1, 181, 0, 13, 177]
abbrev dktX2_init_0 : List UInt8 := dkwX2_init_0 ++ []
theorem dksX2_init_0 : cX2_init.data.toList.drop 0 = dktX2_init_0 := by decide +kernel
theorem dX2_init_0 : decode cX2_init 0 = .ok (.aload_n 0, 1) := dk_42 (dk_at dksX2_init_0 0 rfl rfl)
theorem dX2_init_1 : decode cX2_init 1 = .ok (.invokespecial 1, 3) := dk_183 0 1 (dk_at dksX2_init_0 1 rfl rfl)
theorem dX2_init_4 : decode cX2_init 4 = .ok (.aload_n 0, 1) := dk_42 (dk_at dksX2_init_0 4 rfl rfl)
theorem dX2_init_5 : decode cX2_init 5 = .ok (.iconst 0, 1) := dk_3 (dk_at dksX2_init_0 5 rfl rfl)
theorem dX2_init_6 : decode cX2_init 6 = .ok (.putfield 7, 3) := dk_181 0 7 (dk_at dksX2_init_0 6 rfl rfl)
theorem dX2_init_9 : decode cX2_init 9 = .ok (.aload_n 0, 1) := dk_42 (dk_at dksX2_init_0 9 rfl rfl)
theorem dX2_init_10 : decode cX2_init 10 = .ok (.aconst_null, 1) := dk_1 (dk_at dksX2_init_0 10 rfl rfl)
theorem dX2_init_11 : decode cX2_init 11 = .ok (.putfield 13, 3) := dk_181 0 13 (dk_at dksX2_init_0 11 rfl rfl)
theorem dX2_init_14 : decode cX2_init 14 = .ok (.return_, 1) := dk_177 (dk_at dksX2_init_0 14 rfl rfl)
abbrev cX2_init_2 : ByteArray := prog_7_method_2_code
def yX2_init_2 : MethodName := ⟨RX2, "init", "(ZLCipherParameters;)V"⟩
def dkwX2_init_2_2 : List UInt8 := [104, 54, 4, 177]
abbrev dktX2_init_2_2 : List UInt8 := dkwX2_init_2_2 ++ []
def dkwX2_init_2_1 : List UInt8 := [16, 64, 188, 10, 181, 0, 13, 44, 192, 0, 17, 182, 0, 26, 78, 42, 45, 182, 0, 30, 45, 190, 16, 8]
abbrev dktX2_init_2_1 : List UInt8 := dkwX2_init_2_1 ++ dktX2_init_2_2
def dkwX2_init_2_0 : List UInt8 := [44, 193, 0, 17, 154, 0, 13, 187, 0, 19, 89, 18, 21, 183, 0, 23, 191, 42, 27, 181, 0, 7, 42]
abbrev dktX2_init_2_0 : List UInt8 := dkwX2_init_2_0 ++ dktX2_init_2_1
theorem dksX2_init_2_0 : cX2_init_2.data.toList.drop 0 = dktX2_init_2_0 := by decide +kernel
theorem dksX2_init_2_1 : cX2_init_2.data.toList.drop 23 = dktX2_init_2_1 := dk_seg dksX2_init_2_0 23 rfl rfl
theorem dksX2_init_2_2 : cX2_init_2.data.toList.drop 47 = dktX2_init_2_2 := dk_seg dksX2_init_2_1 24 rfl rfl
theorem dX2_init_2_0 : decode cX2_init_2 0 = .ok (.aload_n 2, 1) := dk_44 (dk_at dksX2_init_2_0 0 rfl rfl)
theorem dX2_init_2_1 : decode cX2_init_2 1 = .ok (.instanceof 17, 3) := dk_193 0 17 (dk_at dksX2_init_2_0 1 rfl rfl)
theorem dX2_init_2_4 : decode cX2_init_2 4 = .ok (.ifCond .ne 13, 3) := dk_154 0 13 (dk_at dksX2_init_2_0 4 rfl rfl)
theorem dX2_init_2_7 : decode cX2_init_2 7 = .ok (.new 19, 3) := dk_187 0 19 (dk_at dksX2_init_2_0 7 rfl rfl)
theorem dX2_init_2_10 : decode cX2_init_2 10 = .ok (.dup, 1) := dk_89 (dk_at dksX2_init_2_0 10 rfl rfl)
theorem dX2_init_2_11 : decode cX2_init_2 11 = .ok (.ldc 21, 2) := dk_18 21 (dk_at dksX2_init_2_0 11 rfl rfl)
theorem dX2_init_2_13 : decode cX2_init_2 13 = .ok (.invokespecial 23, 3) := dk_183 0 23 (dk_at dksX2_init_2_0 13 rfl rfl)
theorem dX2_init_2_16 : decode cX2_init_2 16 = .ok (.athrow, 1) := dk_191 (dk_at dksX2_init_2_0 16 rfl rfl)
theorem dX2_init_2_17 : decode cX2_init_2 17 = .ok (.aload_n 0, 1) := dk_42 (dk_at dksX2_init_2_0 17 rfl rfl)
theorem dX2_init_2_18 : decode cX2_init_2 18 = .ok (.iload_n 1, 1) := dk_27 (dk_at dksX2_init_2_0 18 rfl rfl)
theorem dX2_init_2_19 : decode cX2_init_2 19 = .ok (.putfield 7, 3) := dk_181 0 7 (dk_at dksX2_init_2_0 19 rfl rfl)
theorem dX2_init_2_22 : decode cX2_init_2 22 = .ok (.aload_n 0, 1) := dk_42 (dk_at dksX2_init_2_0 22 rfl rfl)
theorem dX2_init_2_23 : decode cX2_init_2 23 = .ok (.bipush 64, 2) := dk_16 64 (dk_at dksX2_init_2_1 0 rfl rfl)
theorem dX2_init_2_25 : decode cX2_init_2 25 = .ok (.newarray .int, 2) := dk_188_10 (dk_at dksX2_init_2_1 2 rfl rfl)
theorem dX2_init_2_27 : decode cX2_init_2 27 = .ok (.putfield 13, 3) := dk_181 0 13 (dk_at dksX2_init_2_1 4 rfl rfl)
theorem dX2_init_2_30 : decode cX2_init_2 30 = .ok (.aload_n 2, 1) := dk_44 (dk_at dksX2_init_2_1 7 rfl rfl)
theorem dX2_init_2_31 : decode cX2_init_2 31 = .ok (.checkcast 17, 3) := dk_192 0 17 (dk_at dksX2_init_2_1 8 rfl rfl)
theorem dX2_init_2_34 : decode cX2_init_2 34 = .ok (.invokevirtual 26, 3) := dk_182 0 26 (dk_at dksX2_init_2_1 11 rfl rfl)
theorem dX2_init_2_37 : decode cX2_init_2 37 = .ok (.astore_n 3, 1) := dk_78 (dk_at dksX2_init_2_1 14 rfl rfl)
theorem dX2_init_2_38 : decode cX2_init_2 38 = .ok (.aload_n 0, 1) := dk_42 (dk_at dksX2_init_2_1 15 rfl rfl)
theorem dX2_init_2_39 : decode cX2_init_2 39 = .ok (.aload_n 3, 1) := dk_45 (dk_at dksX2_init_2_1 16 rfl rfl)
theorem dX2_init_2_40 : decode cX2_init_2 40 = .ok (.invokevirtual 30, 3) := dk_182 0 30 (dk_at dksX2_init_2_1 17 rfl rfl)
theorem dX2_init_2_43 : decode cX2_init_2 43 = .ok (.aload_n 3, 1) := dk_45 (dk_at dksX2_init_2_1 20 rfl rfl)
theorem dX2_init_2_44 : decode cX2_init_2 44 = .ok (.arraylength, 1) := dk_190 (dk_at dksX2_init_2_1 21 rfl rfl)
theorem dX2_init_2_45 : decode cX2_init_2 45 = .ok (.bipush 8, 2) := dk_16 8 (dk_at dksX2_init_2_1 22 rfl rfl)
theorem dX2_init_2_47 : decode cX2_init_2 47 = .ok (.imul, 1) := dk_104 (dk_at dksX2_init_2_2 0 rfl rfl)
theorem dX2_init_2_48 : decode cX2_init_2 48 = .ok (.istore 4, 2) := dk_54 4 (dk_at dksX2_init_2_2 1 rfl rfl)
theorem dX2_init_2_50 : decode cX2_init_2 50 = .ok (.return_, 1) := dk_177 (dk_at dksX2_init_2_2 3 rfl rfl)
abbrev cX2_setKey : ByteArray := prog_7_method_3_code
def yX2_setKey : MethodName := ⟨RX2, "setKey", "([B)V"⟩
def dkwX2_setKey_8 : List UInt8 := [124, 130, 96, 42, 180, 0, 13, 28, 16, 16, 100, 46, 96, 79, 132, 2, 1, 167, 255, 98, 177]
abbrev dktX2_setKey_8 : List UInt8 := dkwX2_setKey_8 ++ []
def dkwX2_setKey_7 : List UInt8 := [42, 180, 0, 13, 28, 16, 15, 100, 46, 16, 238, 120, 128, 130, 42, 180, 0, 13, 28, 16, 15, 100, 46, 6]
abbrev dktX2_setKey_7 : List UInt8 := dkwX2_setKey_7 ++ dktX2_setKey_8
def dkwX2_setKey_6 : List UInt8 := [180, 0, 13, 28, 16, 15, 100, 46, 16, 249, 120, 128, 42, 180, 0, 13, 28, 16, 15, 100, 46, 16, 18, 124]
abbrev dktX2_setKey_6 : List UInt8 := dkwX2_setKey_6 ++ dktX2_setKey_7
def dkwX2_setKey_5 : List UInt8 := [130, 42, 180, 0, 13, 28, 16, 7, 100, 46, 96, 42, 180, 0, 13, 28, 16, 15, 100, 46, 16, 7, 124, 42]
abbrev dktX2_setKey_5 : List UInt8 := dkwX2_setKey_5 ++ dktX2_setKey_6
def dkwX2_setKey_4 : List UInt8 := [42, 180, 0, 13, 28, 5, 100, 46, 16, 237, 120, 128, 130, 42, 180, 0, 13, 28, 5, 100, 46, 16, 10, 124]
abbrev dktX2_setKey_4 : List UInt8 := dkwX2_setKey_4 ++ dktX2_setKey_5
def dkwX2_setKey_3 : List UInt8 := [124, 42, 180, 0, 13, 28, 5, 100, 46, 16, 239, 120, 128, 42, 180, 0, 13, 28, 5, 100, 46, 16, 19, 124]
abbrev dktX2_setKey_3 : List UInt8 := dkwX2_setKey_3 ++ dktX2_setKey_4
def dkwX2_setKey_2 : List UInt8 := [16, 16, 61, 28, 16, 64, 162, 0, 158, 42, 180, 0, 13, 28, 42, 180, 0, 13, 28, 5, 100, 46, 16, 17]
abbrev dktX2_setKey_2 : List UInt8 := dkwX2_setKey_2 ++ dktX2_setKey_3
def dkwX2_setKey_1 : List UInt8 := [153, 0, 13, 187, 0, 19, 89, 18, 34, 183, 0, 23, 191, 42, 43, 42, 180, 0, 13, 3, 3, 182, 0, 36]
abbrev dktX2_setKey_1 : List UInt8 := dkwX2_setKey_1 ++ dktX2_setKey_2
def dkwX2_setKey_0 : List UInt8 := [43, 190, 153, 0, 25, 43, 190, 16, 64, 163, 0, 18, 43, 190, 16, 16, 161, 0, 11, 43, 190, 16, 8, 112]
abbrev dktX2_setKey_0 : List UInt8 := dkwX2_setKey_0 ++ dktX2_setKey_1
theorem dksX2_setKey_0 : cX2_setKey.data.toList.drop 0 = dktX2_setKey_0 := by decide +kernel
theorem dksX2_setKey_1 : cX2_setKey.data.toList.drop 24 = dktX2_setKey_1 := dk_seg dksX2_setKey_0 24 rfl rfl
theorem dksX2_setKey_2 : cX2_setKey.data.toList.drop 48 = dktX2_setKey_2 := dk_seg dksX2_setKey_1 24 rfl rfl
theorem dksX2_setKey_3 : cX2_setKey.data.toList.drop 72 = dktX2_setKey_3 := dk_seg dksX2_setKey_2 24 rfl rfl
theorem dksX2_setKey_4 : cX2_setKey.data.toList.drop 96 = dktX2_setKey_4 := dk_seg dksX2_setKey_3 24 rfl rfl
theorem dksX2_setKey_5 : cX2_setKey.data.toList.drop 120 = dktX2_setKey_5 := dk_seg dksX2_setKey_4 24 rfl rfl
theorem dksX2_setKey_6 : cX2_setKey.data.toList.drop 144 = dktX2_setKey_6 := dk_seg dksX2_setKey_5 24 rfl rfl
theorem dksX2_setKey_7 : cX2_setKey.data.toList.drop 168 = dktX2_setKey_7 := dk_seg dksX2_setKey_6 24 rfl rfl
theorem dksX2_setKey_8 : cX2_setKey.data.toList.drop 192 = dktX2_setKey_8 := dk_seg dksX2_setKey_7 24 rfl rfl
theorem dX2_setKey_0 : decode cX2_setKey 0 = .ok (.aload_n 1, 1) := dk_43 (dk_at dksX2_setKey_0 0 rfl rfl)
theorem dX2_setKey_1 : decode cX2_setKey 1 = .ok (.arraylength, 1) := dk_190 (dk_at dksX2_setKey_0 1 rfl rfl)
theorem dX2_setKey_2 : decode cX2_setKey 2 = .ok (.ifCond .eq 25, 3) := dk_153 0 25 (dk_at dksX2_setKey_0 2 rfl rfl)
theorem dX2_setKey_5 : decode cX2_setKey 5 = .ok (.aload_n 1, 1) := dk_43 (dk_at dksX2_setKey_0 5 rfl rfl)
theorem dX2_setKey_6 : decode cX2_setKey 6 = .ok (.arraylength, 1) := dk_190 (dk_at dksX2_setKey_0 6 rfl rfl)
theorem dX2_setKey_7 : decode cX2_setKey 7 = .ok (.bipush 64, 2) := dk_16 64 (dk_at dksX2_setKey_0 7 rfl rfl)
theorem dX2_setKey_9 : decode cX2_setKey 9 = .ok (.if_icmp .gt 18, 3) := dk_163 0 18 (dk_at dksX2_setKey_0 9 rfl rfl)
theorem dX2_setKey_12 : decode cX2_setKey 12 = .ok (.aload_n 1, 1) := dk_43 (dk_at dksX2_setKey_0 12 rfl rfl)
theorem dX2_setKey_13 : decode cX2_setKey 13 = .ok (.arraylength, 1) := dk_190 (dk_at dksX2_setKey_0 13 rfl rfl)
theorem dX2_setKey_14 : decode cX2_setKey 14 = .ok (.bipush 16, 2) := dk_16 16 (dk_at dksX2_setKey_0 14 rfl rfl)
theorem dX2_setKey_16 : decode cX2_setKey 16 = .ok (.if_icmp .lt 11, 3) := dk_161 0 11 (dk_at dksX2_setKey_0 16 rfl rfl)
theorem dX2_setKey_19 : decode cX2_setKey 19 = .ok (.aload_n 1, 1) := dk_43 (dk_at dksX2_setKey_0 19 rfl rfl)
theorem dX2_setKey_20 : decode cX2_setKey 20 = .ok (.arraylength, 1) := dk_190 (dk_at dksX2_setKey_0 20 rfl rfl)
theorem dX2_setKey_21 : decode cX2_setKey 21 = .ok (.bipush 8, 2) := dk_16 8 (dk_at dksX2_setKey_0 21 rfl rfl)
theorem dX2_setKey_23 : decode cX2_setKey 23 = .ok (.irem, 1) := dk_112 (dk_at dksX2_setKey_0 23 rfl rfl)
theorem dX2_setKey_24 : decode cX2_setKey 24 = .ok (.ifCond .eq 13, 3) := dk_153 0 13 (dk_at dksX2_setKey_1 0 rfl rfl)
theorem dX2_setKey_27 : decode cX2_setKey 27 = .ok (.new 19, 3) := dk_187 0 19 (dk_at dksX2_setKey_1 3 rfl rfl)
theorem dX2_setKey_30 : decode cX2_setKey 30 = .ok (.dup, 1) := dk_89 (dk_at dksX2_setKey_1 6 rfl rfl)
theorem dX2_setKey_31 : decode cX2_setKey 31 = .ok (.ldc 34, 2) := dk_18 34 (dk_at dksX2_setKey_1 7 rfl rfl)
theorem dX2_setKey_33 : decode cX2_setKey 33 = .ok (.invokespecial 23, 3) := dk_183 0 23 (dk_at dksX2_setKey_1 9 rfl rfl)
theorem dX2_setKey_36 : decode cX2_setKey 36 = .ok (.athrow, 1) := dk_191 (dk_at dksX2_setKey_1 12 rfl rfl)
theorem dX2_setKey_37 : decode cX2_setKey 37 = .ok (.aload_n 0, 1) := dk_42 (dk_at dksX2_setKey_1 13 rfl rfl)
theorem dX2_setKey_38 : decode cX2_setKey 38 = .ok (.aload_n 1, 1) := dk_43 (dk_at dksX2_setKey_1 14 rfl rfl)
theorem dX2_setKey_39 : decode cX2_setKey 39 = .ok (.aload_n 0, 1) := dk_42 (dk_at dksX2_setKey_1 15 rfl rfl)
theorem dX2_setKey_40 : decode cX2_setKey 40 = .ok (.getfield 13, 3) := dk_180 0 13 (dk_at dksX2_setKey_1 16 rfl rfl)
theorem dX2_setKey_43 : decode cX2_setKey 43 = .ok (.iconst 0, 1) := dk_3 (dk_at dksX2_setKey_1 19 rfl rfl)
theorem dX2_setKey_44 : decode cX2_setKey 44 = .ok (.iconst 0, 1) := dk_3 (dk_at dksX2_setKey_1 20 rfl rfl)
theorem dX2_setKey_45 : decode cX2_setKey 45 = .ok (.invokevirtual 36, 3) := dk_182 0 36 (dk_at dksX2_setKey_1 21 rfl rfl)
theorem dX2_setKey_48 : decode cX2_setKey 48 = .ok (.bipush 16, 2) := dk_16 16 (dk_at dksX2_setKey_2 0 rfl rfl)
theorem dX2_setKey_50 : decode cX2_setKey 50 = .ok (.istore_n 2, 1) := dk_61 (dk_at dksX2_setKey_2 2 rfl rfl)
theorem dX2_setKey_51 : decode cX2_setKey 51 = .ok (.iload_n 2, 1) := dk_28 (dk_at dksX2_setKey_2 3 rfl rfl)
theorem dX2_setKey_52 : decode cX2_setKey 52 = .ok (.bipush 64, 2) := dk_16 64 (dk_at dksX2_setKey_2 4 rfl rfl)
theorem dX2_setKey_54 : decode cX2_setKey 54 = .ok (.if_icmp .ge 158, 3) := dk_162 0 158 (dk_at dksX2_setKey_2 6 rfl rfl)
theorem dX2_setKey_57 : decode cX2_setKey 57 = .ok (.aload_n 0, 1) := dk_42 (dk_at dksX2_setKey_2 9 rfl rfl)
theorem dX2_setKey_58 : decode cX2_setKey 58 = .ok (.getfield 13, 3) := dk_180 0 13 (dk_at dksX2_setKey_2 10 rfl rfl)
theorem dX2_setKey_61 : decode cX2_setKey 61 = .ok (.iload_n 2, 1) := dk_28 (dk_at dksX2_setKey_2 13 rfl rfl)
theorem dX2_setKey_62 : decode cX2_setKey 62 = .ok (.aload_n 0, 1) := dk_42 (dk_at dksX2_setKey_2 14 rfl rfl)
theorem dX2_setKey_63 : decode cX2_setKey 63 = .ok (.getfield 13, 3) := dk_180 0 13 (dk_at dksX2_setKey_2 15 rfl rfl)
theorem dX2_setKey_66 : decode cX2_setKey 66 = .ok (.iload_n 2, 1) := dk_28 (dk_at dksX2_setKey_2 18 rfl rfl)
theorem dX2_setKey_67 : decode cX2_setKey 67 = .ok (.iconst 2, 1) := dk_5 (dk_at dksX2_setKey_2 19 rfl rfl)
theorem dX2_setKey_68 : decode cX2_setKey 68 = .ok (.isub, 1) := dk_100 (dk_at dksX2_setKey_2 20 rfl rfl)
theorem dX2_setKey_69 : decode cX2_setKey 69 = .ok (.iaload, 1) := dk_46 (dk_at dksX2_setKey_2 21 rfl rfl)
theorem dX2_setKey_70 : decode cX2_setKey 70 = .ok (.bipush 17, 2) := dk_16 17 (dk_at dksX2_setKey_2 22 rfl rfl)
theorem dX2_setKey_72 : decode cX2_setKey 72 = .ok (.iushr, 1) := dk_124 (dk_at dksX2_setKey_3 0 rfl rfl)
theorem dX2_setKey_73 : decode cX2_setKey 73 = .ok (.aload_n 0, 1) := dk_42 (dk_at dksX2_setKey_3 1 rfl rfl)
theorem dX2_setKey_74 : decode cX2_setKey 74 = .ok (.getfield 13, 3) := dk_180 0 13 (dk_at dksX2_setKey_3 2 rfl rfl)
theorem dX2_setKey_77 : decode cX2_setKey 77 = .ok (.iload_n 2, 1) := dk_28 (dk_at dksX2_setKey_3 5 rfl rfl)
theorem dX2_setKey_78 : decode cX2_setKey 78 = .ok (.iconst 2, 1) := dk_5 (dk_at dksX2_setKey_3 6 rfl rfl)
theorem dX2_setKey_79 : decode cX2_setKey 79 = .ok (.isub, 1) := dk_100 (dk_at dksX2_setKey_3 7 rfl rfl)
theorem dX2_setKey_80 : decode cX2_setKey 80 = .ok (.iaload, 1) := dk_46 (dk_at dksX2_setKey_3 8 rfl rfl)
theorem dX2_setKey_81 : decode cX2_setKey 81 = .ok (.bipush (-17), 2) := dk_16 239 (dk_at dksX2_setKey_3 9 rfl rfl)
theorem dX2_setKey_83 : decode cX2_setKey 83 = .ok (.ishl, 1) := dk_120 (dk_at dksX2_setKey_3 11 rfl rfl)
theorem dX2_setKey_84 : decode cX2_setKey 84 = .ok (.ior, 1) := dk_128 (dk_at dksX2_setKey_3 12 rfl rfl)
theorem dX2_setKey_85 : decode cX2_setKey 85 = .ok (.aload_n 0, 1) := dk_42 (dk_at dksX2_setKey_3 13 rfl rfl)
theorem dX2_setKey_86 : decode cX2_setKey 86 = .ok (.getfield 13, 3) := dk_180 0 13 (dk_at dksX2_setKey_3 14 rfl rfl)
theorem dX2_setKey_89 : decode cX2_setKey 89 = .ok (.iload_n 2, 1) := dk_28 (dk_at dksX2_setKey_3 17 rfl rfl)
theorem dX2_setKey_90 : decode cX2_setKey 90 = .ok (.iconst 2, 1) := dk_5 (dk_at dksX2_setKey_3 18 rfl rfl)
theorem dX2_setKey_91 : decode cX2_setKey 91 = .ok (.isub, 1) := dk_100 (dk_at dksX2_setKey_3 19 rfl rfl)
theorem dX2_setKey_92 : decode cX2_setKey 92 = .ok (.iaload, 1) := dk_46 (dk_at dksX2_setKey_3 20 rfl rfl)
theorem dX2_setKey_93 : decode cX2_setKey 93 = .ok (.bipush 19, 2) := dk_16 19 (dk_at dksX2_setKey_3 21 rfl rfl)
theorem dX2_setKey_95 : decode cX2_setKey 95 = .ok (.iushr, 1) := dk_124 (dk_at dksX2_setKey_3 23 rfl rfl)
theorem dX2_setKey_96 : decode cX2_setKey 96 = .ok (.aload_n 0, 1) := dk_42 (dk_at dksX2_setKey_4 0 rfl rfl)
theorem dX2_setKey_97 : decode cX2_setKey 97 = .ok (.getfield 13, 3) := dk_180 0 13 (dk_at dksX2_setKey_4 1 rfl rfl)
theorem dX2_setKey_100 : decode cX2_setKey 100 = .ok (.iload_n 2, 1) := dk_28 (dk_at dksX2_setKey_4 4 rfl rfl)
theorem dX2_setKey_101 : decode cX2_setKey 101 = .ok (.iconst 2, 1) := dk_5 (dk_at dksX2_setKey_4 5 rfl rfl)
theorem dX2_setKey_102 : decode cX2_setKey 102 = .ok (.isub, 1) := dk_100 (dk_at dksX2_setKey_4 6 rfl rfl)
theorem dX2_setKey_103 : decode cX2_setKey 103 = .ok (.iaload, 1) := dk_46 (dk_at dksX2_setKey_4 7 rfl rfl)
theorem dX2_setKey_104 : decode cX2_setKey 104 = .ok (.bipush (-19), 2) := dk_16 237 (dk_at dksX2_setKey_4 8 rfl rfl)
theorem dX2_setKey_106 : decode cX2_setKey 106 = .ok (.ishl, 1) := dk_120 (dk_at dksX2_setKey_4 10 rfl rfl)
theorem dX2_setKey_107 : decode cX2_setKey 107 = .ok (.ior, 1) := dk_128 (dk_at dksX2_setKey_4 11 rfl rfl)
theorem dX2_setKey_108 : decode cX2_setKey 108 = .ok (.ixor, 1) := dk_130 (dk_at dksX2_setKey_4 12 rfl rfl)
theorem dX2_setKey_109 : decode cX2_setKey 109 = .ok (.aload_n 0, 1) := dk_42 (dk_at dksX2_setKey_4 13 rfl rfl)
theorem dX2_setKey_110 : decode cX2_setKey 110 = .ok (.getfield 13, 3) := dk_180 0 13 (dk_at dksX2_setKey_4 14 rfl rfl)
theorem dX2_setKey_113 : decode cX2_setKey 113 = .ok (.iload_n 2, 1) := dk_28 (dk_at dksX2_setKey_4 17 rfl rfl)
theorem dX2_setKey_114 : decode cX2_setKey 114 = .ok (.iconst 2, 1) := dk_5 (dk_at dksX2_setKey_4 18 rfl rfl)
theorem dX2_setKey_115 : decode cX2_setKey 115 = .ok (.isub, 1) := dk_100 (dk_at dksX2_setKey_4 19 rfl rfl)
theorem dX2_setKey_116 : decode cX2_setKey 116 = .ok (.iaload, 1) := dk_46 (dk_at dksX2_setKey_4 20 rfl rfl)
theorem dX2_setKey_117 : decode cX2_setKey 117 = .ok (.bipush 10, 2) := dk_16 10 (dk_at dksX2_setKey_4 21 rfl rfl)
theorem dX2_setKey_119 : decode cX2_setKey 119 = .ok (.iushr, 1) := dk_124 (dk_at dksX2_setKey_4 23 rfl rfl)
theorem dX2_setKey_120 : decode cX2_setKey 120 = .ok (.ixor, 1) := dk_130 (dk_at dksX2_setKey_5 0 rfl rfl)
theorem dX2_setKey_121 : decode cX2_setKey 121 = .ok (.aload_n 0, 1) := dk_42 (dk_at dksX2_setKey_5 1 rfl rfl)
theorem dX2_setKey_122 : decode cX2_setKey 122 = .ok (.getfield 13, 3) := dk_180 0 13 (dk_at dksX2_setKey_5 2 rfl rfl)
theorem dX2_setKey_125 : decode cX2_setKey 125 = .ok (.iload_n 2, 1) := dk_28 (dk_at dksX2_setKey_5 5 rfl rfl)
theorem dX2_setKey_126 : decode cX2_setKey 126 = .ok (.bipush 7, 2) := dk_16 7 (dk_at dksX2_setKey_5 6 rfl rfl)
theorem dX2_setKey_128 : decode cX2_setKey 128 = .ok (.isub, 1) := dk_100 (dk_at dksX2_setKey_5 8 rfl rfl)
theorem dX2_setKey_129 : decode cX2_setKey 129 = .ok (.iaload, 1) := dk_46 (dk_at dksX2_setKey_5 9 rfl rfl)
theorem dX2_setKey_130 : decode cX2_setKey 130 = .ok (.iadd, 1) := dk_96 (dk_at dksX2_setKey_5 10 rfl rfl)
theorem dX2_setKey_131 : decode cX2_setKey 131 = .ok (.aload_n 0, 1) := dk_42 (dk_at dksX2_setKey_5 11 rfl rfl)
theorem dX2_setKey_132 : decode cX2_setKey 132 = .ok (.getfield 13, 3) := dk_180 0 13 (dk_at dksX2_setKey_5 12 rfl rfl)
theorem dX2_setKey_135 : decode cX2_setKey 135 = .ok (.iload_n 2, 1) := dk_28 (dk_at dksX2_setKey_5 15 rfl rfl)
theorem dX2_setKey_136 : decode cX2_setKey 136 = .ok (.bipush 15, 2) := dk_16 15 (dk_at dksX2_setKey_5 16 rfl rfl)
theorem dX2_setKey_138 : decode cX2_setKey 138 = .ok (.isub, 1) := dk_100 (dk_at dksX2_setKey_5 18 rfl rfl)
theorem dX2_setKey_139 : decode cX2_setKey 139 = .ok (.iaload, 1) := dk_46 (dk_at dksX2_setKey_5 19 rfl rfl)
theorem dX2_setKey_140 : decode cX2_setKey 140 = .ok (.bipush 7, 2) := dk_16 7 (dk_at dksX2_setKey_5 20 rfl rfl)
theorem dX2_setKey_142 : decode cX2_setKey 142 = .ok (.iushr, 1) := dk_124 (dk_at dksX2_setKey_5 22 rfl rfl)
theorem dX2_setKey_143 : decode cX2_setKey 143 = .ok (.aload_n 0, 1) := dk_42 (dk_at dksX2_setKey_5 23 rfl rfl)
theorem dX2_setKey_144 : decode cX2_setKey 144 = .ok (.getfield 13, 3) := dk_180 0 13 (dk_at dksX2_setKey_6 0 rfl rfl)
theorem dX2_setKey_147 : decode cX2_setKey 147 = .ok (.iload_n 2, 1) := dk_28 (dk_at dksX2_setKey_6 3 rfl rfl)
theorem dX2_setKey_148 : decode cX2_setKey 148 = .ok (.bipush 15, 2) := dk_16 15 (dk_at dksX2_setKey_6 4 rfl rfl)
theorem dX2_setKey_150 : decode cX2_setKey 150 = .ok (.isub, 1) := dk_100 (dk_at dksX2_setKey_6 6 rfl rfl)
theorem dX2_setKey_151 : decode cX2_setKey 151 = .ok (.iaload, 1) := dk_46 (dk_at dksX2_setKey_6 7 rfl rfl)
theorem dX2_setKey_152 : decode cX2_setKey 152 = .ok (.bipush (-7), 2) := dk_16 249 (dk_at dksX2_setKey_6 8 rfl rfl)
theorem dX2_setKey_154 : decode cX2_setKey 154 = .ok (.ishl, 1) := dk_120 (dk_at dksX2_setKey_6 10 rfl rfl)
theorem dX2_setKey_155 : decode cX2_setKey 155 = .ok (.ior, 1) := dk_128 (dk_at dksX2_setKey_6 11 rfl rfl)
theorem dX2_setKey_156 : decode cX2_setKey 156 = .ok (.aload_n 0, 1) := dk_42 (dk_at dksX2_setKey_6 12 rfl rfl)
theorem dX2_setKey_157 : decode cX2_setKey 157 = .ok (.getfield 13, 3) := dk_180 0 13 (dk_at dksX2_setKey_6 13 rfl rfl)
theorem dX2_setKey_160 : decode cX2_setKey 160 = .ok (.iload_n 2, 1) := dk_28 (dk_at dksX2_setKey_6 16 rfl rfl)
theorem dX2_setKey_161 : decode cX2_setKey 161 = .ok (.bipush 15, 2) := dk_16 15 (dk_at dksX2_setKey_6 17 rfl rfl)
theorem dX2_setKey_163 : decode cX2_setKey 163 = .ok (.isub, 1) := dk_100 (dk_at dksX2_setKey_6 19 rfl rfl)
theorem dX2_setKey_164 : decode cX2_setKey 164 = .ok (.iaload, 1) := dk_46 (dk_at dksX2_setKey_6 20 rfl rfl)
theorem dX2_setKey_165 : decode cX2_setKey 165 = .ok (.bipush 18, 2) := dk_16 18 (dk_at dksX2_setKey_6 21 rfl rfl)
theorem dX2_setKey_167 : decode cX2_setKey 167 = .ok (.iushr, 1) := dk_124 (dk_at dksX2_setKey_6 23 rfl rfl)
theorem dX2_setKey_168 : decode cX2_setKey 168 = .ok (.aload_n 0, 1) := dk_42 (dk_at dksX2_setKey_7 0 rfl rfl)
theorem dX2_setKey_169 : decode cX2_setKey 169 = .ok (.getfield 13, 3) := dk_180 0 13 (dk_at dksX2_setKey_7 1 rfl rfl)
theorem dX2_setKey_172 : decode cX2_setKey 172 = .ok (.iload_n 2, 1) := dk_28 (dk_at dksX2_setKey_7 4 rfl rfl)
theorem dX2_setKey_173 : decode cX2_setKey 173 = .ok (.bipush 15, 2) := dk_16 15 (dk_at dksX2_setKey_7 5 rfl rfl)
theorem dX2_setKey_175 : decode cX2_setKey 175 = .ok (.isub, 1) := dk_100 (dk_at dksX2_setKey_7 7 rfl rfl)
theorem dX2_setKey_176 : decode cX2_setKey 176 = .ok (.iaload, 1) := dk_46 (dk_at dksX2_setKey_7 8 rfl rfl)
theorem dX2_setKey_177 : decode cX2_setKey 177 = .ok (.bipush (-18), 2) := dk_16 238 (dk_at dksX2_setKey_7 9 rfl rfl)
theorem dX2_setKey_179 : decode cX2_setKey 179 = .ok (.ishl, 1) := dk_120 (dk_at dksX2_setKey_7 11 rfl rfl)
theorem dX2_setKey_180 : decode cX2_setKey 180 = .ok (.ior, 1) := dk_128 (dk_at dksX2_setKey_7 12 rfl rfl)
theorem dX2_setKey_181 : decode cX2_setKey 181 = .ok (.ixor, 1) := dk_130 (dk_at dksX2_setKey_7 13 rfl rfl)
theorem dX2_setKey_182 : decode cX2_setKey 182 = .ok (.aload_n 0, 1) := dk_42 (dk_at dksX2_setKey_7 14 rfl rfl)
theorem dX2_setKey_183 : decode cX2_setKey 183 = .ok (.getfield 13, 3) := dk_180 0 13 (dk_at dksX2_setKey_7 15 rfl rfl)
theorem dX2_setKey_186 : decode cX2_setKey 186 = .ok (.iload_n 2, 1) := dk_28 (dk_at dksX2_setKey_7 18 rfl rfl)
theorem dX2_setKey_187 : decode cX2_setKey 187 = .ok (.bipush 15, 2) := dk_16 15 (dk_at dksX2_setKey_7 19 rfl rfl)
theorem dX2_setKey_189 : decode cX2_setKey 189 = .ok (.isub, 1) := dk_100 (dk_at dksX2_setKey_7 21 rfl rfl)
theorem dX2_setKey_190 : decode cX2_setKey 190 = .ok (.iaload, 1) := dk_46 (dk_at dksX2_setKey_7 22 rfl rfl)
theorem dX2_setKey_191 : decode cX2_setKey 191 = .ok (.iconst 3, 1) := dk_6 (dk_at dksX2_setKey_7 23 rfl rfl)
theorem dX2_setKey_192 : decode cX2_setKey 192 = .ok (.iushr, 1) := dk_124 (dk_at dksX2_setKey_8 0 rfl rfl)
theorem dX2_setKey_193 : decode cX2_setKey 193 = .ok (.ixor, 1) := dk_130 (dk_at dksX2_setKey_8 1 rfl rfl)
theorem dX2_setKey_194 : decode cX2_setKey 194 = .ok (.iadd, 1) := dk_96 (dk_at dksX2_setKey_8 2 rfl rfl)
theorem dX2_setKey_195 : decode cX2_setKey 195 = .ok (.aload_n 0, 1) := dk_42 (dk_at dksX2_setKey_8 3 rfl rfl)
theorem dX2_setKey_196 : decode cX2_setKey 196 = .ok (.getfield 13, 3) := dk_180 0 13 (dk_at dksX2_setKey_8 4 rfl rfl)
theorem dX2_setKey_199 : decode cX2_setKey 199 = .ok (.iload_n 2, 1) := dk_28 (dk_at dksX2_setKey_8 7 rfl rfl)
theorem dX2_setKey_200 : decode cX2_setKey 200 = .ok (.bipush 16, 2) := dk_16 16 (dk_at dksX2_setKey_8 8 rfl rfl)
theorem dX2_setKey_202 : decode cX2_setKey 202 = .ok (.isub, 1) := dk_100 (dk_at dksX2_setKey_8 10 rfl rfl)
theorem dX2_setKey_203 : decode cX2_setKey 203 = .ok (.iaload, 1) := dk_46 (dk_at dksX2_setKey_8 11 rfl rfl)
theorem dX2_setKey_204 : decode cX2_setKey 204 = .ok (.iadd, 1) := dk_96 (dk_at dksX2_setKey_8 12 rfl rfl)
theorem dX2_setKey_205 : decode cX2_setKey 205 = .ok (.iastore, 1) := dk_79 (dk_at dksX2_setKey_8 13 rfl rfl)
theorem dX2_setKey_206 : decode cX2_setKey 206 = .ok (.iinc 2 1, 3) := dk_132 2 1 (dk_at dksX2_setKey_8 14 rfl rfl)
theorem dX2_setKey_209 : decode cX2_setKey 209 = .ok (.goto (-158), 3) := dk_167 255 98 (dk_at dksX2_setKey_8 17 rfl rfl)
theorem dX2_setKey_212 : decode cX2_setKey 212 = .ok (.return_, 1) := dk_177 (dk_at dksX2_setKey_8 20 rfl rfl)
abbrev cX2_bytes2ints : ByteArray := prog_7_method_8_code
def yX2_bytes2ints : MethodName := ⟨RX2, "bytes2ints", "([B[III)V"⟩
def dkwX2_bytes2ints_3 : List UInt8 := [132, 5, 1, 167, 255, 188, 177]
abbrev dktX2_bytes2ints_3 : List UInt8 := dkwX2_bytes2ints_3 ++ []
def dkwX2_bytes2ints_2 : List UInt8 := [132, 3, 1, 51, 17, 0, 255, 126, 16, 8, 120, 128, 43, 29, 132, 3, 1, 51, 17, 0, 255, 126, 128, 79]
abbrev dktX2_bytes2ints_2 : List UInt8 := dkwX2_bytes2ints_2 ++ dktX2_bytes2ints_3
def dkwX2_bytes2ints_1 : List UInt8 := [17, 0, 255, 126, 16, 24, 120, 43, 29, 132, 3, 1, 51, 17, 0, 255, 126, 16, 16, 120, 128, 43, 29]
abbrev dktX2_bytes2ints_1 : List UInt8 := dkwX2_bytes2ints_1 ++ dktX2_bytes2ints_2
def dkwX2_bytes2ints_0 : List UInt8 := [21, 4, 54, 5, 21, 5, 43, 190, 7, 108, 162, 0, 65, 44, 21, 5, 43, 29, 132, 3, 1, 51]
abbrev dktX2_bytes2ints_0 : List UInt8 := dkwX2_bytes2ints_0 ++ dktX2_bytes2ints_1
theorem dksX2_bytes2ints_0 : cX2_bytes2ints.data.toList.drop 0 = dktX2_bytes2ints_0 := by decide +kernel
theorem dksX2_bytes2ints_1 : cX2_bytes2ints.data.toList.drop 22 = dktX2_bytes2ints_1 := dk_seg dksX2_bytes2ints_0 22 rfl rfl
theorem dksX2_bytes2ints_2 : cX2_bytes2ints.data.toList.drop 45 = dktX2_bytes2ints_2 := dk_seg dksX2_bytes2ints_1 23 rfl rfl
theorem dksX2_bytes2ints_3 : cX2_bytes2ints.data.toList.drop 69 = dktX2_bytes2ints_3 := dk_seg dksX2_bytes2ints_2 24 rfl rfl
theorem dX2_bytes2ints_0 : decode cX2_bytes2ints 0 = .ok (.iload 4, 2) := dk_21 4 (dk_at dksX2_bytes2ints_0 0 rfl rfl)
theorem dX2_bytes2ints_2 : decode cX2_bytes2ints 2 = .ok (.istore 5, 2) := dk_54 5 (dk_at dksX2_bytes2ints_0 2 rfl rfl)
theorem dX2_bytes2ints_4 : decode cX2_bytes2ints 4 = .ok (.iload 5, 2) := dk_21 5 (dk_at dksX2_bytes2ints_0 4 rfl rfl)
theorem dX2_bytes2ints_6 : decode cX2_bytes2ints 6 = .ok (.aload_n 1, 1) := dk_43 (dk_at dksX2_bytes2ints_0 6 rfl rfl)
theorem dX2_bytes2ints_7 : decode cX2_bytes2ints 7 = .ok (.arraylength, 1) := dk_190 (dk_at dksX2_bytes2ints_0 7 rfl rfl)
theorem dX2_bytes2ints_8 : decode cX2_bytes2ints 8 = .ok (.iconst 4, 1) := dk_7 (dk_at dksX2_bytes2ints_0 8 rfl rfl)
theorem dX2_bytes2ints_9 : decode cX2_bytes2ints 9 = .ok (.idiv, 1) := dk_108 (dk_at dksX2_bytes2ints_0 9 rfl rfl)
theorem dX2_bytes2ints_10 : decode cX2_bytes2ints 10 = .ok (.if_icmp .ge 65, 3) := dk_162 0 65 (dk_at dksX2_bytes2ints_0 10 rfl rfl)
theorem dX2_bytes2ints_13 : decode cX2_bytes2ints 13 = .ok (.aload_n 2, 1) := dk_44 (dk_at dksX2_bytes2ints_0 13 rfl rfl)
theorem dX2_bytes2ints_14 : decode cX2_bytes2ints 14 = .ok (.iload 5, 2) := dk_21 5 (dk_at dksX2_bytes2ints_0 14 rfl rfl)
theorem dX2_bytes2ints_16 : decode cX2_bytes2ints 16 = .ok (.aload_n 1, 1) := dk_43 (dk_at dksX2_bytes2ints_0 16 rfl rfl)
theorem dX2_bytes2ints_17 : decode cX2_bytes2ints 17 = .ok (.iload_n 3, 1) := dk_29 (dk_at dksX2_bytes2ints_0 17 rfl rfl)
theorem dX2_bytes2ints_18 : decode cX2_bytes2ints 18 = .ok (.iinc 3 1, 3) := dk_132 3 1 (dk_at dksX2_bytes2ints_0 18 rfl rfl)
theorem dX2_bytes2ints_21 : decode cX2_bytes2ints 21 = .ok (.baload, 1) := dk_51 (dk_at dksX2_bytes2ints_0 21 rfl rfl)
theorem dX2_bytes2ints_22 : decode cX2_bytes2ints 22 = .ok (.sipush 255, 3) := dk_17 0 255 (dk_at dksX2_bytes2ints_1 0 rfl rfl)
theorem dX2_bytes2ints_25 : decode cX2_bytes2ints 25 = .ok (.iand, 1) := dk_126 (dk_at dksX2_bytes2ints_1 3 rfl rfl)
theorem dX2_bytes2ints_26 : decode cX2_bytes2ints 26 = .ok (.bipush 24, 2) := dk_16 24 (dk_at dksX2_bytes2ints_1 4 rfl rfl)
theorem dX2_bytes2ints_28 : decode cX2_bytes2ints 28 = .ok (.ishl, 1) := dk_120 (dk_at dksX2_bytes2ints_1 6 rfl rfl)
theorem dX2_bytes2ints_29 : decode cX2_bytes2ints 29 = .ok (.aload_n 1, 1) := dk_43 (dk_at dksX2_bytes2ints_1 7 rfl rfl)
theorem dX2_bytes2ints_30 : decode cX2_bytes2ints 30 = .ok (.iload_n 3, 1) := dk_29 (dk_at dksX2_bytes2ints_1 8 rfl rfl)
theorem dX2_bytes2ints_31 : decode cX2_bytes2ints 31 = .ok (.iinc 3 1, 3) := dk_132 3 1 (dk_at dksX2_bytes2ints_1 9 rfl rfl)
theorem dX2_bytes2ints_34 : decode cX2_bytes2ints 34 = .ok (.baload, 1) := dk_51 (dk_at dksX2_bytes2ints_1 12 rfl rfl)
theorem dX2_bytes2ints_35 : decode cX2_bytes2ints 35 = .ok (.sipush 255, 3) := dk_17 0 255 (dk_at dksX2_bytes2ints_1 13 rfl rfl)
theorem dX2_bytes2ints_38 : decode cX2_bytes2ints 38 = .ok (.iand, 1) := dk_126 (dk_at dksX2_bytes2ints_1 16 rfl rfl)
theorem dX2_bytes2ints_39 : decode cX2_bytes2ints 39 = .ok (.bipush 16, 2) := dk_16 16 (dk_at dksX2_bytes2ints_1 17 rfl rfl)
theorem dX2_bytes2ints_41 : decode cX2_bytes2ints 41 = .ok (.ishl, 1) := dk_120 (dk_at dksX2_bytes2ints_1 19 rfl rfl)
theorem dX2_bytes2ints_42 : decode cX2_bytes2ints 42 = .ok (.ior, 1) := dk_128 (dk_at dksX2_bytes2ints_1 20 rfl rfl)
theorem dX2_bytes2ints_43 : decode cX2_bytes2ints 43 = .ok (.aload_n 1, 1) := dk_43 (dk_at dksX2_bytes2ints_1 21 rfl rfl)
theorem dX2_bytes2ints_44 : decode cX2_bytes2ints 44 = .ok (.iload_n 3, 1) := dk_29 (dk_at dksX2_bytes2ints_1 22 rfl rfl)
theorem dX2_bytes2ints_45 : decode cX2_bytes2ints 45 = .ok (.iinc 3 1, 3) := dk_132 3 1 (dk_at dksX2_bytes2ints_2 0 rfl rfl)
theorem dX2_bytes2ints_48 : decode cX2_bytes2ints 48 = .ok (.baload, 1) := dk_51 (dk_at dksX2_bytes2ints_2 3 rfl rfl)
theorem dX2_bytes2ints_49 : decode cX2_bytes2ints 49 = .ok (.sipush 255, 3) := dk_17 0 255 (dk_at dksX2_bytes2ints_2 4 rfl rfl)
theorem dX2_bytes2ints_52 : decode cX2_bytes2ints 52 = .ok (.iand, 1) := dk_126 (dk_at dksX2_bytes2ints_2 7 rfl rfl)
theorem dX2_bytes2ints_53 : decode cX2_bytes2ints 53 = .ok (.bipush 8, 2) := dk_16 8 (dk_at dksX2_bytes2ints_2 8 rfl rfl)
theorem dX2_bytes2ints_55 : decode cX2_bytes2ints 55 = .ok (.ishl, 1) := dk_120 (dk_at dksX2_bytes2ints_2 10 rfl rfl)
theorem dX2_bytes2ints_56 : decode cX2_bytes2ints 56 = .ok (.ior, 1) := dk_128 (dk_at dksX2_bytes2ints_2 11 rfl rfl)
theorem dX2_bytes2ints_57 : decode cX2_bytes2ints 57 = .ok (.aload_n 1, 1) := dk_43 (dk_at dksX2_bytes2ints_2 12 rfl rfl)
theorem dX2_bytes2ints_58 : decode cX2_bytes2ints 58 = .ok (.iload_n 3, 1) := dk_29 (dk_at dksX2_bytes2ints_2 13 rfl rfl)
theorem dX2_bytes2ints_59 : decode cX2_bytes2ints 59 = .ok (.iinc 3 1, 3) := dk_132 3 1 (dk_at dksX2_bytes2ints_2 14 rfl rfl)
theorem dX2_bytes2ints_62 : decode cX2_bytes2ints 62 = .ok (.baload, 1) := dk_51 (dk_at dksX2_bytes2ints_2 17 rfl rfl)
theorem dX2_bytes2ints_63 : decode cX2_bytes2ints 63 = .ok (.sipush 255, 3) := dk_17 0 255 (dk_at dksX2_bytes2ints_2 18 rfl rfl)
theorem dX2_bytes2ints_66 : decode cX2_bytes2ints 66 = .ok (.iand, 1) := dk_126 (dk_at dksX2_bytes2ints_2 21 rfl rfl)
theorem dX2_bytes2ints_67 : decode cX2_bytes2ints 67 = .ok (.ior, 1) := dk_128 (dk_at dksX2_bytes2ints_2 22 rfl rfl)
theorem dX2_bytes2ints_68 : decode cX2_bytes2ints 68 = .ok (.iastore, 1) := dk_79 (dk_at dksX2_bytes2ints_2 23 rfl rfl)
theorem dX2_bytes2ints_69 : decode cX2_bytes2ints 69 = .ok (.iinc 5 1, 3) := dk_132 5 1 (dk_at dksX2_bytes2ints_3 0 rfl rfl)
theorem dX2_bytes2ints_72 : decode cX2_bytes2ints 72 = .ok (.goto (-68), 3) := dk_167 255 188 (dk_at dksX2_bytes2ints_3 3 rfl rfl)
theorem dX2_bytes2ints_75 : decode cX2_bytes2ints 75 = .ok (.return_, 1) := dk_177 (dk_at dksX2_bytes2ints_3 6 rfl rfl)
abbrev cX2_processBlock : ByteArray := prog_7_method_6_code
def yX2_processBlock : MethodName := ⟨RX2, "processBlock", "([BI[BI)I"⟩
def dkwX2_processBlock_3 : List UInt8 := [182, 0, 65, 167, 0, 12, 42, 43, 28, 45, 21, 4, 182, 0, 69, 16, 32, 172]
abbrev dktX2_processBlock_3 : List UInt8 := dkwX2_processBlock_3 ++ []
def dkwX2_processBlock_2 : List UInt8 := [187, 0, 60, 89, 18, 62, 183, 0, 64, 191, 42, 180, 0, 7, 153, 0, 15, 42, 43, 28, 45, 21, 4]
abbrev dktX2_processBlock_2 : List UInt8 := dkwX2_processBlock_2 ++ dktX2_processBlock_3
def dkwX2_processBlock_1 : List UInt8 := [164, 0, 13, 187, 0, 55, 89, 18, 57, 183, 0, 59, 191, 21, 4, 16, 32, 96, 45, 190, 164, 0, 13]
abbrev dktX2_processBlock_1 : List UInt8 := dkwX2_processBlock_1 ++ dktX2_processBlock_2
def dkwX2_processBlock_0 : List UInt8 := [42, 180, 0, 13, 199, 0, 13, 187, 0, 50, 89, 18, 52, 183, 0, 54, 191, 28, 16, 32, 96, 43, 190]
abbrev dktX2_processBlock_0 : List UInt8 := dkwX2_processBlock_0 ++ dktX2_processBlock_1
theorem dksX2_processBlock_0 : cX2_processBlock.data.toList.drop 0 = dktX2_processBlock_0 := by decide +kernel
theorem dksX2_processBlock_1 : cX2_processBlock.data.toList.drop 23 = dktX2_processBlock_1 := dk_seg dksX2_processBlock_0 23 rfl rfl
theorem dksX2_processBlock_2 : cX2_processBlock.data.toList.drop 46 = dktX2_processBlock_2 := dk_seg dksX2_processBlock_1 23 rfl rfl
theorem dksX2_processBlock_3 : cX2_processBlock.data.toList.drop 69 = dktX2_processBlock_3 := dk_seg dksX2_processBlock_2 23 rfl rfl
theorem dX2_processBlock_0 : decode cX2_processBlock 0 = .ok (.aload_n 0, 1) := dk_42 (dk_at dksX2_processBlock_0 0 rfl rfl)
theorem dX2_processBlock_1 : decode cX2_processBlock 1 = .ok (.getfield 13, 3) := dk_180 0 13 (dk_at dksX2_processBlock_0 1 rfl rfl)
theorem dX2_processBlock_4 : decode cX2_processBlock 4 = .ok (.ifnonnull 13, 3) := dk_199 0 13 (dk_at dksX2_processBlock_0 4 rfl rfl)
theorem dX2_processBlock_7 : decode cX2_processBlock 7 = .ok (.new 50, 3) := dk_187 0 50 (dk_at dksX2_processBlock_0 7 rfl rfl)
theorem dX2_processBlock_10 : decode cX2_processBlock 10 = .ok (.dup, 1) := dk_89 (dk_at dksX2_processBlock_0 10 rfl rfl)
theorem dX2_processBlock_11 : decode cX2_processBlock 11 = .ok (.ldc 52, 2) := dk_18 52 (dk_at dksX2_processBlock_0 11 rfl rfl)
theorem dX2_processBlock_13 : decode cX2_processBlock 13 = .ok (.invokespecial 54, 3) := dk_183 0 54 (dk_at dksX2_processBlock_0 13 rfl rfl)
theorem dX2_processBlock_16 : decode cX2_processBlock 16 = .ok (.athrow, 1) := dk_191 (dk_at dksX2_processBlock_0 16 rfl rfl)
theorem dX2_processBlock_17 : decode cX2_processBlock 17 = .ok (.iload_n 2, 1) := dk_28 (dk_at dksX2_processBlock_0 17 rfl rfl)
theorem dX2_processBlock_18 : decode cX2_processBlock 18 = .ok (.bipush 32, 2) := dk_16 32 (dk_at dksX2_processBlock_0 18 rfl rfl)
theorem dX2_processBlock_20 : decode cX2_processBlock 20 = .ok (.iadd, 1) := dk_96 (dk_at dksX2_processBlock_0 20 rfl rfl)
theorem dX2_processBlock_21 : decode cX2_processBlock 21 = .ok (.aload_n 1, 1) := dk_43 (dk_at dksX2_processBlock_0 21 rfl rfl)
theorem dX2_processBlock_22 : decode cX2_processBlock 22 = .ok (.arraylength, 1) := dk_190 (dk_at dksX2_processBlock_0 22 rfl rfl)
theorem dX2_processBlock_23 : decode cX2_processBlock 23 = .ok (.if_icmp .le 13, 3) := dk_164 0 13 (dk_at dksX2_processBlock_1 0 rfl rfl)
theorem dX2_processBlock_26 : decode cX2_processBlock 26 = .ok (.new 55, 3) := dk_187 0 55 (dk_at dksX2_processBlock_1 3 rfl rfl)
theorem dX2_processBlock_29 : decode cX2_processBlock 29 = .ok (.dup, 1) := dk_89 (dk_at dksX2_processBlock_1 6 rfl rfl)
theorem dX2_processBlock_30 : decode cX2_processBlock 30 = .ok (.ldc 57, 2) := dk_18 57 (dk_at dksX2_processBlock_1 7 rfl rfl)
theorem dX2_processBlock_32 : decode cX2_processBlock 32 = .ok (.invokespecial 59, 3) := dk_183 0 59 (dk_at dksX2_processBlock_1 9 rfl rfl)
theorem dX2_processBlock_35 : decode cX2_processBlock 35 = .ok (.athrow, 1) := dk_191 (dk_at dksX2_processBlock_1 12 rfl rfl)
theorem dX2_processBlock_36 : decode cX2_processBlock 36 = .ok (.iload 4, 2) := dk_21 4 (dk_at dksX2_processBlock_1 13 rfl rfl)
theorem dX2_processBlock_38 : decode cX2_processBlock 38 = .ok (.bipush 32, 2) := dk_16 32 (dk_at dksX2_processBlock_1 15 rfl rfl)
theorem dX2_processBlock_40 : decode cX2_processBlock 40 = .ok (.iadd, 1) := dk_96 (dk_at dksX2_processBlock_1 17 rfl rfl)
theorem dX2_processBlock_41 : decode cX2_processBlock 41 = .ok (.aload_n 3, 1) := dk_45 (dk_at dksX2_processBlock_1 18 rfl rfl)
theorem dX2_processBlock_42 : decode cX2_processBlock 42 = .ok (.arraylength, 1) := dk_190 (dk_at dksX2_processBlock_1 19 rfl rfl)
theorem dX2_processBlock_43 : decode cX2_processBlock 43 = .ok (.if_icmp .le 13, 3) := dk_164 0 13 (dk_at dksX2_processBlock_1 20 rfl rfl)
theorem dX2_processBlock_46 : decode cX2_processBlock 46 = .ok (.new 60, 3) := dk_187 0 60 (dk_at dksX2_processBlock_2 0 rfl rfl)
theorem dX2_processBlock_49 : decode cX2_processBlock 49 = .ok (.dup, 1) := dk_89 (dk_at dksX2_processBlock_2 3 rfl rfl)
theorem dX2_processBlock_50 : decode cX2_processBlock 50 = .ok (.ldc 62, 2) := dk_18 62 (dk_at dksX2_processBlock_2 4 rfl rfl)
theorem dX2_processBlock_52 : decode cX2_processBlock 52 = .ok (.invokespecial 64, 3) := dk_183 0 64 (dk_at dksX2_processBlock_2 6 rfl rfl)
theorem dX2_processBlock_55 : decode cX2_processBlock 55 = .ok (.athrow, 1) := dk_191 (dk_at dksX2_processBlock_2 9 rfl rfl)
theorem dX2_processBlock_56 : decode cX2_processBlock 56 = .ok (.aload_n 0, 1) := dk_42 (dk_at dksX2_processBlock_2 10 rfl rfl)
theorem dX2_processBlock_57 : decode cX2_processBlock 57 = .ok (.getfield 7, 3) := dk_180 0 7 (dk_at dksX2_processBlock_2 11 rfl rfl)
theorem dX2_processBlock_60 : decode cX2_processBlock 60 = .ok (.ifCond .eq 15, 3) := dk_153 0 15 (dk_at dksX2_processBlock_2 14 rfl rfl)
theorem dX2_processBlock_63 : decode cX2_processBlock 63 = .ok (.aload_n 0, 1) := dk_42 (dk_at dksX2_processBlock_2 17 rfl rfl)
theorem dX2_processBlock_64 : decode cX2_processBlock 64 = .ok (.aload_n 1, 1) := dk_43 (dk_at dksX2_processBlock_2 18 rfl rfl)
theorem dX2_processBlock_65 : decode cX2_processBlock 65 = .ok (.iload_n 2, 1) := dk_28 (dk_at dksX2_processBlock_2 19 rfl rfl)
theorem dX2_processBlock_66 : decode cX2_processBlock 66 = .ok (.aload_n 3, 1) := dk_45 (dk_at dksX2_processBlock_2 20 rfl rfl)
theorem dX2_processBlock_67 : decode cX2_processBlock 67 = .ok (.iload 4, 2) := dk_21 4 (dk_at dksX2_processBlock_2 21 rfl rfl)
theorem dX2_processBlock_69 : decode cX2_processBlock 69 = .ok (.invokevirtual 65, 3) := dk_182 0 65 (dk_at dksX2_processBlock_3 0 rfl rfl)
theorem dX2_processBlock_72 : decode cX2_processBlock 72 = .ok (.goto 12, 3) := dk_167 0 12 (dk_at dksX2_processBlock_3 3 rfl rfl)
theorem dX2_processBlock_75 : decode cX2_processBlock 75 = .ok (.aload_n 0, 1) := dk_42 (dk_at dksX2_processBlock_3 6 rfl rfl)
theorem dX2_processBlock_76 : decode cX2_processBlock 76 = .ok (.aload_n 1, 1) := dk_43 (dk_at dksX2_processBlock_3 7 rfl rfl)
theorem dX2_processBlock_77 : decode cX2_processBlock 77 = .ok (.iload_n 2, 1) := dk_28 (dk_at dksX2_processBlock_3 8 rfl rfl)
theorem dX2_processBlock_78 : decode cX2_processBlock 78 = .ok (.aload_n 3, 1) := dk_45 (dk_at dksX2_processBlock_3 9 rfl rfl)
theorem dX2_processBlock_79 : decode cX2_processBlock 79 = .ok (.iload 4, 2) := dk_21 4 (dk_at dksX2_processBlock_3 10 rfl rfl)
theorem dX2_processBlock_81 : decode cX2_processBlock 81 = .ok (.invokevirtual 69, 3) := dk_182 0 69 (dk_at dksX2_processBlock_3 12 rfl rfl)
theorem dX2_processBlock_84 : decode cX2_processBlock 84 = .ok (.bipush 32, 2) := dk_16 32 (dk_at dksX2_processBlock_3 15 rfl rfl)
theorem dX2_processBlock_86 : decode cX2_processBlock 86 = .ok (.ireturn, 1) := dk_172 (dk_at dksX2_processBlock_3 17 rfl rfl)
abbrev cX2_encryptBlock : ByteArray := prog_7_method_4_code
def yX2_encryptBlock : MethodName := ⟨RX2, "encryptBlock", "([BI[BI)V"⟩
def dkwX2_encryptBlock_11 : List UInt8 := [79, 132, 6, 1, 167, 255, 8, 42, 25, 5, 45, 21, 4, 182, 0, 46, 177]
abbrev dktX2_encryptBlock_11 : List UInt8 := dkwX2_encryptBlock_11 ++ []
def dkwX2_encryptBlock_10 : List UInt8 := [5, 46, 126, 25, 5, 3, 46, 25, 5, 6, 46, 126, 130, 25, 5, 5, 46, 25, 5, 6, 46, 126, 130, 96]
abbrev dktX2_encryptBlock_10 : List UInt8 := dkwX2_encryptBlock_10 ++ dktX2_encryptBlock_11
def dkwX2_encryptBlock_9 : List UInt8 := [130, 25, 5, 3, 46, 16, 22, 124, 25, 5, 3, 46, 16, 234, 120, 128, 130, 96, 25, 5, 3, 46, 25, 5]
abbrev dktX2_encryptBlock_9 : List UInt8 := dkwX2_encryptBlock_9 ++ dktX2_encryptBlock_10
def dkwX2_encryptBlock_8 : List UInt8 := [124, 25, 5, 3, 46, 16, 254, 120, 128, 25, 5, 3, 46, 16, 13, 124, 25, 5, 3, 46, 16, 243, 120, 128]
abbrev dktX2_encryptBlock_8 : List UInt8 := dkwX2_encryptBlock_8 ++ dktX2_encryptBlock_9
def dkwX2_encryptBlock_7 : List UInt8 := [5, 25, 5, 4, 46, 79, 25, 5, 4, 25, 5, 3, 46, 79, 25, 5, 3, 21, 7, 25, 5, 3, 46, 5]
abbrev dktX2_encryptBlock_7 : List UInt8 := dkwX2_encryptBlock_7 ++ dktX2_encryptBlock_8
def dkwX2_encryptBlock_6 : List UInt8 := [7, 46, 79, 25, 5, 7, 25, 5, 6, 46, 21, 7, 96, 79, 25, 5, 6, 25, 5, 5, 46, 79, 25, 5]
abbrev dktX2_encryptBlock_6 : List UInt8 := dkwX2_encryptBlock_6 ++ dktX2_encryptBlock_7
def dkwX2_encryptBlock_5 : List UInt8 := [25, 5, 16, 7, 25, 5, 16, 6, 46, 79, 25, 5, 16, 6, 25, 5, 8, 46, 79, 25, 5, 8, 25, 5]
abbrev dktX2_encryptBlock_5 : List UInt8 := dkwX2_encryptBlock_5 ++ dktX2_encryptBlock_6
def dkwX2_encryptBlock_4 : List UInt8 := [96, 25, 5, 16, 7, 46, 96, 178, 0, 43, 21, 6, 46, 96, 42, 180, 0, 13, 21, 6, 46, 96, 54, 7]
abbrev dktX2_encryptBlock_4 : List UInt8 := dkwX2_encryptBlock_4 ++ dktX2_encryptBlock_5
def dkwX2_encryptBlock_3 : List UInt8 := [128, 130, 25, 5, 7, 46, 25, 5, 8, 46, 126, 25, 5, 7, 46, 2, 130, 25, 5, 16, 6, 46, 126, 130]
abbrev dktX2_encryptBlock_3 : List UInt8 := dkwX2_encryptBlock_3 ++ dktX2_encryptBlock_4
def dkwX2_encryptBlock_2 : List UInt8 := [124, 25, 5, 7, 46, 16, 245, 120, 128, 130, 25, 5, 7, 46, 16, 25, 124, 25, 5, 7, 46, 16, 231, 120]
abbrev dktX2_encryptBlock_2 : List UInt8 := dkwX2_encryptBlock_2 ++ dktX2_encryptBlock_3
def dkwX2_encryptBlock_1 : List UInt8 := [162, 0, 247, 25, 5, 7, 46, 16, 6, 124, 25, 5, 7, 46, 16, 250, 120, 128, 25, 5, 7, 46, 16, 11]
abbrev dktX2_encryptBlock_1 : List UInt8 := dkwX2_encryptBlock_1 ++ dktX2_encryptBlock_2
def dkwX2_encryptBlock_0 : List UInt8 := [16, 8, 188, 10, 58, 5, 42, 43, 25, 5, 28, 3, 182, 0, 40, 3, 54, 6, 21, 6, 16, 64]
abbrev dktX2_encryptBlock_0 : List UInt8 := dkwX2_encryptBlock_0 ++ dktX2_encryptBlock_1
theorem dksX2_encryptBlock_0 : cX2_encryptBlock.data.toList.drop 0 = dktX2_encryptBlock_0 := by decide +kernel
theorem dksX2_encryptBlock_1 : cX2_encryptBlock.data.toList.drop 22 = dktX2_encryptBlock_1 := dk_seg dksX2_encryptBlock_0 22 rfl rfl
theorem dksX2_encryptBlock_2 : cX2_encryptBlock.data.toList.drop 46 = dktX2_encryptBlock_2 := dk_seg dksX2_encryptBlock_1 24 rfl rfl
theorem dksX2_encryptBlock_3 : cX2_encryptBlock.data.toList.drop 70 = dktX2_encryptBlock_3 := dk_seg dksX2_encryptBlock_2 24 rfl rfl
theorem dksX2_encryptBlock_4 : cX2_encryptBlock.data.toList.drop 94 = dktX2_encryptBlock_4 := dk_seg dksX2_encryptBlock_3 24 rfl rfl
theorem dksX2_encryptBlock_5 : cX2_encryptBlock.data.toList.drop 118 = dktX2_encryptBlock_5 := dk_seg dksX2_encryptBlock_4 24 rfl rfl
theorem dksX2_encryptBlock_6 : cX2_encryptBlock.data.toList.drop 142 = dktX2_encryptBlock_6 := dk_seg dksX2_encryptBlock_5 24 rfl rfl
theorem dksX2_encryptBlock_7 : cX2_encryptBlock.data.toList.drop 166 = dktX2_encryptBlock_7 := dk_seg dksX2_encryptBlock_6 24 rfl rfl
theorem dksX2_encryptBlock_8 : cX2_encryptBlock.data.toList.drop 190 = dktX2_encryptBlock_8 := dk_seg dksX2_encryptBlock_7 24 rfl rfl
theorem dksX2_encryptBlock_9 : cX2_encryptBlock.data.toList.drop 214 = dktX2_encryptBlock_9 := dk_seg dksX2_encryptBlock_8 24 rfl rfl
theorem dksX2_encryptBlock_10 : cX2_encryptBlock.data.toList.drop 238 = dktX2_encryptBlock_10 := dk_seg dksX2_encryptBlock_9 24 rfl rfl
theorem dksX2_encryptBlock_11 : cX2_encryptBlock.data.toList.drop 262 = dktX2_encryptBlock_11 := dk_seg dksX2_encryptBlock_10 24 rfl rfl
theorem dX2_encryptBlock_0 : decode cX2_encryptBlock 0 = .ok (.bipush 8, 2) := dk_16 8 (dk_at dksX2_encryptBlock_0 0 rfl rfl)
theorem dX2_encryptBlock_2 : decode cX2_encryptBlock 2 = .ok (.newarray .int, 2) := dk_188_10 (dk_at dksX2_encryptBlock_0 2 rfl rfl)
theorem dX2_encryptBlock_4 : decode cX2_encryptBlock 4 = .ok (.astore 5, 2) := dk_58 5 (dk_at dksX2_encryptBlock_0 4 rfl rfl)
theorem dX2_encryptBlock_6 : decode cX2_encryptBlock 6 = .ok (.aload_n 0, 1) := dk_42 (dk_at dksX2_encryptBlock_0 6 rfl rfl)
theorem dX2_encryptBlock_7 : decode cX2_encryptBlock 7 = .ok (.aload_n 1, 1) := dk_43 (dk_at dksX2_encryptBlock_0 7 rfl rfl)
theorem dX2_encryptBlock_8 : decode cX2_encryptBlock 8 = .ok (.aload 5, 2) := dk_25 5 (dk_at dksX2_encryptBlock_0 8 rfl rfl)
theorem dX2_encryptBlock_10 : decode cX2_encryptBlock 10 = .ok (.iload_n 2, 1) := dk_28 (dk_at dksX2_encryptBlock_0 10 rfl rfl)
theorem dX2_encryptBlock_11 : decode cX2_encryptBlock 11 = .ok (.iconst 0, 1) := dk_3 (dk_at dksX2_encryptBlock_0 11 rfl rfl)
theorem dX2_encryptBlock_12 : decode cX2_encryptBlock 12 = .ok (.invokevirtual 40, 3) := dk_182 0 40 (dk_at dksX2_encryptBlock_0 12 rfl rfl)
theorem dX2_encryptBlock_15 : decode cX2_encryptBlock 15 = .ok (.iconst 0, 1) := dk_3 (dk_at dksX2_encryptBlock_0 15 rfl rfl)
theorem dX2_encryptBlock_16 : decode cX2_encryptBlock 16 = .ok (.istore 6, 2) := dk_54 6 (dk_at dksX2_encryptBlock_0 16 rfl rfl)
theorem dX2_encryptBlock_18 : decode cX2_encryptBlock 18 = .ok (.iload 6, 2) := dk_21 6 (dk_at dksX2_encryptBlock_0 18 rfl rfl)
theorem dX2_encryptBlock_20 : decode cX2_encryptBlock 20 = .ok (.bipush 64, 2) := dk_16 64 (dk_at dksX2_encryptBlock_0 20 rfl rfl)
theorem dX2_encryptBlock_22 : decode cX2_encryptBlock 22 = .ok (.if_icmp .ge 247, 3) := dk_162 0 247 (dk_at dksX2_encryptBlock_1 0 rfl rfl)
theorem dX2_encryptBlock_25 : decode cX2_encryptBlock 25 = .ok (.aload 5, 2) := dk_25 5 (dk_at dksX2_encryptBlock_1 3 rfl rfl)
theorem dX2_encryptBlock_27 : decode cX2_encryptBlock 27 = .ok (.iconst 4, 1) := dk_7 (dk_at dksX2_encryptBlock_1 5 rfl rfl)
theorem dX2_encryptBlock_28 : decode cX2_encryptBlock 28 = .ok (.iaload, 1) := dk_46 (dk_at dksX2_encryptBlock_1 6 rfl rfl)
theorem dX2_encryptBlock_29 : decode cX2_encryptBlock 29 = .ok (.bipush 6, 2) := dk_16 6 (dk_at dksX2_encryptBlock_1 7 rfl rfl)
theorem dX2_encryptBlock_31 : decode cX2_encryptBlock 31 = .ok (.iushr, 1) := dk_124 (dk_at dksX2_encryptBlock_1 9 rfl rfl)
theorem dX2_encryptBlock_32 : decode cX2_encryptBlock 32 = .ok (.aload 5, 2) := dk_25 5 (dk_at dksX2_encryptBlock_1 10 rfl rfl)
theorem dX2_encryptBlock_34 : decode cX2_encryptBlock 34 = .ok (.iconst 4, 1) := dk_7 (dk_at dksX2_encryptBlock_1 12 rfl rfl)
theorem dX2_encryptBlock_35 : decode cX2_encryptBlock 35 = .ok (.iaload, 1) := dk_46 (dk_at dksX2_encryptBlock_1 13 rfl rfl)
theorem dX2_encryptBlock_36 : decode cX2_encryptBlock 36 = .ok (.bipush (-6), 2) := dk_16 250 (dk_at dksX2_encryptBlock_1 14 rfl rfl)
theorem dX2_encryptBlock_38 : decode cX2_encryptBlock 38 = .ok (.ishl, 1) := dk_120 (dk_at dksX2_encryptBlock_1 16 rfl rfl)
theorem dX2_encryptBlock_39 : decode cX2_encryptBlock 39 = .ok (.ior, 1) := dk_128 (dk_at dksX2_encryptBlock_1 17 rfl rfl)
theorem dX2_encryptBlock_40 : decode cX2_encryptBlock 40 = .ok (.aload 5, 2) := dk_25 5 (dk_at dksX2_encryptBlock_1 18 rfl rfl)
theorem dX2_encryptBlock_42 : decode cX2_encryptBlock 42 = .ok (.iconst 4, 1) := dk_7 (dk_at dksX2_encryptBlock_1 20 rfl rfl)
theorem dX2_encryptBlock_43 : decode cX2_encryptBlock 43 = .ok (.iaload, 1) := dk_46 (dk_at dksX2_encryptBlock_1 21 rfl rfl)
theorem dX2_encryptBlock_44 : decode cX2_encryptBlock 44 = .ok (.bipush 11, 2) := dk_16 11 (dk_at dksX2_encryptBlock_1 22 rfl rfl)
theorem dX2_encryptBlock_46 : decode cX2_encryptBlock 46 = .ok (.iushr, 1) := dk_124 (dk_at dksX2_encryptBlock_2 0 rfl rfl)
theorem dX2_encryptBlock_47 : decode cX2_encryptBlock 47 = .ok (.aload 5, 2) := dk_25 5 (dk_at dksX2_encryptBlock_2 1 rfl rfl)
theorem dX2_encryptBlock_49 : decode cX2_encryptBlock 49 = .ok (.iconst 4, 1) := dk_7 (dk_at dksX2_encryptBlock_2 3 rfl rfl)
theorem dX2_encryptBlock_50 : decode cX2_encryptBlock 50 = .ok (.iaload, 1) := dk_46 (dk_at dksX2_encryptBlock_2 4 rfl rfl)
theorem dX2_encryptBlock_51 : decode cX2_encryptBlock 51 = .ok (.bipush (-11), 2) := dk_16 245 (dk_at dksX2_encryptBlock_2 5 rfl rfl)
theorem dX2_encryptBlock_53 : decode cX2_encryptBlock 53 = .ok (.ishl, 1) := dk_120 (dk_at dksX2_encryptBlock_2 7 rfl rfl)
theorem dX2_encryptBlock_54 : decode cX2_encryptBlock 54 = .ok (.ior, 1) := dk_128 (dk_at dksX2_encryptBlock_2 8 rfl rfl)
theorem dX2_encryptBlock_55 : decode cX2_encryptBlock 55 = .ok (.ixor, 1) := dk_130 (dk_at dksX2_encryptBlock_2 9 rfl rfl)
theorem dX2_encryptBlock_56 : decode cX2_encryptBlock 56 = .ok (.aload 5, 2) := dk_25 5 (dk_at dksX2_encryptBlock_2 10 rfl rfl)
theorem dX2_encryptBlock_58 : decode cX2_encryptBlock 58 = .ok (.iconst 4, 1) := dk_7 (dk_at dksX2_encryptBlock_2 12 rfl rfl)
theorem dX2_encryptBlock_59 : decode cX2_encryptBlock 59 = .ok (.iaload, 1) := dk_46 (dk_at dksX2_encryptBlock_2 13 rfl rfl)
theorem dX2_encryptBlock_60 : decode cX2_encryptBlock 60 = .ok (.bipush 25, 2) := dk_16 25 (dk_at dksX2_encryptBlock_2 14 rfl rfl)
theorem dX2_encryptBlock_62 : decode cX2_encryptBlock 62 = .ok (.iushr, 1) := dk_124 (dk_at dksX2_encryptBlock_2 16 rfl rfl)
theorem dX2_encryptBlock_63 : decode cX2_encryptBlock 63 = .ok (.aload 5, 2) := dk_25 5 (dk_at dksX2_encryptBlock_2 17 rfl rfl)
theorem dX2_encryptBlock_65 : decode cX2_encryptBlock 65 = .ok (.iconst 4, 1) := dk_7 (dk_at dksX2_encryptBlock_2 19 rfl rfl)
theorem dX2_encryptBlock_66 : decode cX2_encryptBlock 66 = .ok (.iaload, 1) := dk_46 (dk_at dksX2_encryptBlock_2 20 rfl rfl)
theorem dX2_encryptBlock_67 : decode cX2_encryptBlock 67 = .ok (.bipush (-25), 2) := dk_16 231 (dk_at dksX2_encryptBlock_2 21 rfl rfl)
theorem dX2_encryptBlock_69 : decode cX2_encryptBlock 69 = .ok (.ishl, 1) := dk_120 (dk_at dksX2_encryptBlock_2 23 rfl rfl)
theorem dX2_encryptBlock_70 : decode cX2_encryptBlock 70 = .ok (.ior, 1) := dk_128 (dk_at dksX2_encryptBlock_3 0 rfl rfl)
theorem dX2_encryptBlock_71 : decode cX2_encryptBlock 71 = .ok (.ixor, 1) := dk_130 (dk_at dksX2_encryptBlock_3 1 rfl rfl)
theorem dX2_encryptBlock_72 : decode cX2_encryptBlock 72 = .ok (.aload 5, 2) := dk_25 5 (dk_at dksX2_encryptBlock_3 2 rfl rfl)
theorem dX2_encryptBlock_74 : decode cX2_encryptBlock 74 = .ok (.iconst 4, 1) := dk_7 (dk_at dksX2_encryptBlock_3 4 rfl rfl)
theorem dX2_encryptBlock_75 : decode cX2_encryptBlock 75 = .ok (.iaload, 1) := dk_46 (dk_at dksX2_encryptBlock_3 5 rfl rfl)
theorem dX2_encryptBlock_76 : decode cX2_encryptBlock 76 = .ok (.aload 5, 2) := dk_25 5 (dk_at dksX2_encryptBlock_3 6 rfl rfl)
theorem dX2_encryptBlock_78 : decode cX2_encryptBlock 78 = .ok (.iconst 5, 1) := dk_8 (dk_at dksX2_encryptBlock_3 8 rfl rfl)
theorem dX2_encryptBlock_79 : decode cX2_encryptBlock 79 = .ok (.iaload, 1) := dk_46 (dk_at dksX2_encryptBlock_3 9 rfl rfl)
theorem dX2_encryptBlock_80 : decode cX2_encryptBlock 80 = .ok (.iand, 1) := dk_126 (dk_at dksX2_encryptBlock_3 10 rfl rfl)
theorem dX2_encryptBlock_81 : decode cX2_encryptBlock 81 = .ok (.aload 5, 2) := dk_25 5 (dk_at dksX2_encryptBlock_3 11 rfl rfl)
theorem dX2_encryptBlock_83 : decode cX2_encryptBlock 83 = .ok (.iconst 4, 1) := dk_7 (dk_at dksX2_encryptBlock_3 13 rfl rfl)
theorem dX2_encryptBlock_84 : decode cX2_encryptBlock 84 = .ok (.iaload, 1) := dk_46 (dk_at dksX2_encryptBlock_3 14 rfl rfl)
theorem dX2_encryptBlock_85 : decode cX2_encryptBlock 85 = .ok (.iconst (-1), 1) := dk_2 (dk_at dksX2_encryptBlock_3 15 rfl rfl)
theorem dX2_encryptBlock_86 : decode cX2_encryptBlock 86 = .ok (.ixor, 1) := dk_130 (dk_at dksX2_encryptBlock_3 16 rfl rfl)
theorem dX2_encryptBlock_87 : decode cX2_encryptBlock 87 = .ok (.aload 5, 2) := dk_25 5 (dk_at dksX2_encryptBlock_3 17 rfl rfl)
theorem dX2_encryptBlock_89 : decode cX2_encryptBlock 89 = .ok (.bipush 6, 2) := dk_16 6 (dk_at dksX2_encryptBlock_3 19 rfl rfl)
theorem dX2_encryptBlock_91 : decode cX2_encryptBlock 91 = .ok (.iaload, 1) := dk_46 (dk_at dksX2_encryptBlock_3 21 rfl rfl)
theorem dX2_encryptBlock_92 : decode cX2_encryptBlock 92 = .ok (.iand, 1) := dk_126 (dk_at dksX2_encryptBlock_3 22 rfl rfl)
theorem dX2_encryptBlock_93 : decode cX2_encryptBlock 93 = .ok (.ixor, 1) := dk_130 (dk_at dksX2_encryptBlock_3 23 rfl rfl)
theorem dX2_encryptBlock_94 : decode cX2_encryptBlock 94 = .ok (.iadd, 1) := dk_96 (dk_at dksX2_encryptBlock_4 0 rfl rfl)
theorem dX2_encryptBlock_95 : decode cX2_encryptBlock 95 = .ok (.aload 5, 2) := dk_25 5 (dk_at dksX2_encryptBlock_4 1 rfl rfl)
theorem dX2_encryptBlock_97 : decode cX2_encryptBlock 97 = .ok (.bipush 7, 2) := dk_16 7 (dk_at dksX2_encryptBlock_4 3 rfl rfl)
theorem dX2_encryptBlock_99 : decode cX2_encryptBlock 99 = .ok (.iaload, 1) := dk_46 (dk_at dksX2_encryptBlock_4 5 rfl rfl)
theorem dX2_encryptBlock_100 : decode cX2_encryptBlock 100 = .ok (.iadd, 1) := dk_96 (dk_at dksX2_encryptBlock_4 6 rfl rfl)
theorem dX2_encryptBlock_101 : decode cX2_encryptBlock 101 = .ok (.getstatic 43, 3) := dk_178 0 43 (dk_at dksX2_encryptBlock_4 7 rfl rfl)
theorem dX2_encryptBlock_104 : decode cX2_encryptBlock 104 = .ok (.iload 6, 2) := dk_21 6 (dk_at dksX2_encryptBlock_4 10 rfl rfl)
theorem dX2_encryptBlock_106 : decode cX2_encryptBlock 106 = .ok (.iaload, 1) := dk_46 (dk_at dksX2_encryptBlock_4 12 rfl rfl)
theorem dX2_encryptBlock_107 : decode cX2_encryptBlock 107 = .ok (.iadd, 1) := dk_96 (dk_at dksX2_encryptBlock_4 13 rfl rfl)
theorem dX2_encryptBlock_108 : decode cX2_encryptBlock 108 = .ok (.aload_n 0, 1) := dk_42 (dk_at dksX2_encryptBlock_4 14 rfl rfl)
theorem dX2_encryptBlock_109 : decode cX2_encryptBlock 109 = .ok (.getfield 13, 3) := dk_180 0 13 (dk_at dksX2_encryptBlock_4 15 rfl rfl)
theorem dX2_encryptBlock_112 : decode cX2_encryptBlock 112 = .ok (.iload 6, 2) := dk_21 6 (dk_at dksX2_encryptBlock_4 18 rfl rfl)
theorem dX2_encryptBlock_114 : decode cX2_encryptBlock 114 = .ok (.iaload, 1) := dk_46 (dk_at dksX2_encryptBlock_4 20 rfl rfl)
theorem dX2_encryptBlock_115 : decode cX2_encryptBlock 115 = .ok (.iadd, 1) := dk_96 (dk_at dksX2_encryptBlock_4 21 rfl rfl)
theorem dX2_encryptBlock_116 : decode cX2_encryptBlock 116 = .ok (.istore 7, 2) := dk_54 7 (dk_at dksX2_encryptBlock_4 22 rfl rfl)
theorem dX2_encryptBlock_118 : decode cX2_encryptBlock 118 = .ok (.aload 5, 2) := dk_25 5 (dk_at dksX2_encryptBlock_5 0 rfl rfl)
theorem dX2_encryptBlock_120 : decode cX2_encryptBlock 120 = .ok (.bipush 7, 2) := dk_16 7 (dk_at dksX2_encryptBlock_5 2 rfl rfl)
theorem dX2_encryptBlock_122 : decode cX2_encryptBlock 122 = .ok (.aload 5, 2) := dk_25 5 (dk_at dksX2_encryptBlock_5 4 rfl rfl)
theorem dX2_encryptBlock_124 : decode cX2_encryptBlock 124 = .ok (.bipush 6, 2) := dk_16 6 (dk_at dksX2_encryptBlock_5 6 rfl rfl)
theorem dX2_encryptBlock_126 : decode cX2_encryptBlock 126 = .ok (.iaload, 1) := dk_46 (dk_at dksX2_encryptBlock_5 8 rfl rfl)
theorem dX2_encryptBlock_127 : decode cX2_encryptBlock 127 = .ok (.iastore, 1) := dk_79 (dk_at dksX2_encryptBlock_5 9 rfl rfl)
theorem dX2_encryptBlock_128 : decode cX2_encryptBlock 128 = .ok (.aload 5, 2) := dk_25 5 (dk_at dksX2_encryptBlock_5 10 rfl rfl)
theorem dX2_encryptBlock_130 : decode cX2_encryptBlock 130 = .ok (.bipush 6, 2) := dk_16 6 (dk_at dksX2_encryptBlock_5 12 rfl rfl)
theorem dX2_encryptBlock_132 : decode cX2_encryptBlock 132 = .ok (.aload 5, 2) := dk_25 5 (dk_at dksX2_encryptBlock_5 14 rfl rfl)
theorem dX2_encryptBlock_134 : decode cX2_encryptBlock 134 = .ok (.iconst 5, 1) := dk_8 (dk_at dksX2_encryptBlock_5 16 rfl rfl)
theorem dX2_encryptBlock_135 : decode cX2_encryptBlock 135 = .ok (.iaload, 1) := dk_46 (dk_at dksX2_encryptBlock_5 17 rfl rfl)
theorem dX2_encryptBlock_136 : decode cX2_encryptBlock 136 = .ok (.iastore, 1) := dk_79 (dk_at dksX2_encryptBlock_5 18 rfl rfl)
theorem dX2_encryptBlock_137 : decode cX2_encryptBlock 137 = .ok (.aload 5, 2) := dk_25 5 (dk_at dksX2_encryptBlock_5 19 rfl rfl)
theorem dX2_encryptBlock_139 : decode cX2_encryptBlock 139 = .ok (.iconst 5, 1) := dk_8 (dk_at dksX2_encryptBlock_5 21 rfl rfl)
theorem dX2_encryptBlock_140 : decode cX2_encryptBlock 140 = .ok (.aload 5, 2) := dk_25 5 (dk_at dksX2_encryptBlock_5 22 rfl rfl)
theorem dX2_encryptBlock_142 : decode cX2_encryptBlock 142 = .ok (.iconst 4, 1) := dk_7 (dk_at dksX2_encryptBlock_6 0 rfl rfl)
theorem dX2_encryptBlock_143 : decode cX2_encryptBlock 143 = .ok (.iaload, 1) := dk_46 (dk_at dksX2_encryptBlock_6 1 rfl rfl)
theorem dX2_encryptBlock_144 : decode cX2_encryptBlock 144 = .ok (.iastore, 1) := dk_79 (dk_at dksX2_encryptBlock_6 2 rfl rfl)
theorem dX2_encryptBlock_145 : decode cX2_encryptBlock 145 = .ok (.aload 5, 2) := dk_25 5 (dk_at dksX2_encryptBlock_6 3 rfl rfl)
theorem dX2_encryptBlock_147 : decode cX2_encryptBlock 147 = .ok (.iconst 4, 1) := dk_7 (dk_at dksX2_encryptBlock_6 5 rfl rfl)
theorem dX2_encryptBlock_148 : decode cX2_encryptBlock 148 = .ok (.aload 5, 2) := dk_25 5 (dk_at dksX2_encryptBlock_6 6 rfl rfl)
theorem dX2_encryptBlock_150 : decode cX2_encryptBlock 150 = .ok (.iconst 3, 1) := dk_6 (dk_at dksX2_encryptBlock_6 8 rfl rfl)
theorem dX2_encryptBlock_151 : decode cX2_encryptBlock 151 = .ok (.iaload, 1) := dk_46 (dk_at dksX2_encryptBlock_6 9 rfl rfl)
theorem dX2_encryptBlock_152 : decode cX2_encryptBlock 152 = .ok (.iload 7, 2) := dk_21 7 (dk_at dksX2_encryptBlock_6 10 rfl rfl)
theorem dX2_encryptBlock_154 : decode cX2_encryptBlock 154 = .ok (.iadd, 1) := dk_96 (dk_at dksX2_encryptBlock_6 12 rfl rfl)
theorem dX2_encryptBlock_155 : decode cX2_encryptBlock 155 = .ok (.iastore, 1) := dk_79 (dk_at dksX2_encryptBlock_6 13 rfl rfl)
theorem dX2_encryptBlock_156 : decode cX2_encryptBlock 156 = .ok (.aload 5, 2) := dk_25 5 (dk_at dksX2_encryptBlock_6 14 rfl rfl)
theorem dX2_encryptBlock_158 : decode cX2_encryptBlock 158 = .ok (.iconst 3, 1) := dk_6 (dk_at dksX2_encryptBlock_6 16 rfl rfl)
theorem dX2_encryptBlock_159 : decode cX2_encryptBlock 159 = .ok (.aload 5, 2) := dk_25 5 (dk_at dksX2_encryptBlock_6 17 rfl rfl)
theorem dX2_encryptBlock_161 : decode cX2_encryptBlock 161 = .ok (.iconst 2, 1) := dk_5 (dk_at dksX2_encryptBlock_6 19 rfl rfl)
theorem dX2_encryptBlock_162 : decode cX2_encryptBlock 162 = .ok (.iaload, 1) := dk_46 (dk_at dksX2_encryptBlock_6 20 rfl rfl)
theorem dX2_encryptBlock_163 : decode cX2_encryptBlock 163 = .ok (.iastore, 1) := dk_79 (dk_at dksX2_encryptBlock_6 21 rfl rfl)
theorem dX2_encryptBlock_164 : decode cX2_encryptBlock 164 = .ok (.aload 5, 2) := dk_25 5 (dk_at dksX2_encryptBlock_6 22 rfl rfl)
theorem dX2_encryptBlock_166 : decode cX2_encryptBlock 166 = .ok (.iconst 2, 1) := dk_5 (dk_at dksX2_encryptBlock_7 0 rfl rfl)
theorem dX2_encryptBlock_167 : decode cX2_encryptBlock 167 = .ok (.aload 5, 2) := dk_25 5 (dk_at dksX2_encryptBlock_7 1 rfl rfl)
theorem dX2_encryptBlock_169 : decode cX2_encryptBlock 169 = .ok (.iconst 1, 1) := dk_4 (dk_at dksX2_encryptBlock_7 3 rfl rfl)
theorem dX2_encryptBlock_170 : decode cX2_encryptBlock 170 = .ok (.iaload, 1) := dk_46 (dk_at dksX2_encryptBlock_7 4 rfl rfl)
theorem dX2_encryptBlock_171 : decode cX2_encryptBlock 171 = .ok (.iastore, 1) := dk_79 (dk_at dksX2_encryptBlock_7 5 rfl rfl)
theorem dX2_encryptBlock_172 : decode cX2_encryptBlock 172 = .ok (.aload 5, 2) := dk_25 5 (dk_at dksX2_encryptBlock_7 6 rfl rfl)
theorem dX2_encryptBlock_174 : decode cX2_encryptBlock 174 = .ok (.iconst 1, 1) := dk_4 (dk_at dksX2_encryptBlock_7 8 rfl rfl)
theorem dX2_encryptBlock_175 : decode cX2_encryptBlock 175 = .ok (.aload 5, 2) := dk_25 5 (dk_at dksX2_encryptBlock_7 9 rfl rfl)
theorem dX2_encryptBlock_177 : decode cX2_encryptBlock 177 = .ok (.iconst 0, 1) := dk_3 (dk_at dksX2_encryptBlock_7 11 rfl rfl)
theorem dX2_encryptBlock_178 : decode cX2_encryptBlock 178 = .ok (.iaload, 1) := dk_46 (dk_at dksX2_encryptBlock_7 12 rfl rfl)
theorem dX2_encryptBlock_179 : decode cX2_encryptBlock 179 = .ok (.iastore, 1) := dk_79 (dk_at dksX2_encryptBlock_7 13 rfl rfl)
theorem dX2_encryptBlock_180 : decode cX2_encryptBlock 180 = .ok (.aload 5, 2) := dk_25 5 (dk_at dksX2_encryptBlock_7 14 rfl rfl)
theorem dX2_encryptBlock_182 : decode cX2_encryptBlock 182 = .ok (.iconst 0, 1) := dk_3 (dk_at dksX2_encryptBlock_7 16 rfl rfl)
theorem dX2_encryptBlock_183 : decode cX2_encryptBlock 183 = .ok (.iload 7, 2) := dk_21 7 (dk_at dksX2_encryptBlock_7 17 rfl rfl)
theorem dX2_encryptBlock_185 : decode cX2_encryptBlock 185 = .ok (.aload 5, 2) := dk_25 5 (dk_at dksX2_encryptBlock_7 19 rfl rfl)
theorem dX2_encryptBlock_187 : decode cX2_encryptBlock 187 = .ok (.iconst 0, 1) := dk_3 (dk_at dksX2_encryptBlock_7 21 rfl rfl)
theorem dX2_encryptBlock_188 : decode cX2_encryptBlock 188 = .ok (.iaload, 1) := dk_46 (dk_at dksX2_encryptBlock_7 22 rfl rfl)
theorem dX2_encryptBlock_189 : decode cX2_encryptBlock 189 = .ok (.iconst 2, 1) := dk_5 (dk_at dksX2_encryptBlock_7 23 rfl rfl)
theorem dX2_encryptBlock_190 : decode cX2_encryptBlock 190 = .ok (.iushr, 1) := dk_124 (dk_at dksX2_encryptBlock_8 0 rfl rfl)
theorem dX2_encryptBlock_191 : decode cX2_encryptBlock 191 = .ok (.aload 5, 2) := dk_25 5 (dk_at dksX2_encryptBlock_8 1 rfl rfl)
theorem dX2_encryptBlock_193 : decode cX2_encryptBlock 193 = .ok (.iconst 0, 1) := dk_3 (dk_at dksX2_encryptBlock_8 3 rfl rfl)
theorem dX2_encryptBlock_194 : decode cX2_encryptBlock 194 = .ok (.iaload, 1) := dk_46 (dk_at dksX2_encryptBlock_8 4 rfl rfl)
theorem dX2_encryptBlock_195 : decode cX2_encryptBlock 195 = .ok (.bipush (-2), 2) := dk_16 254 (dk_at dksX2_encryptBlock_8 5 rfl rfl)
theorem dX2_encryptBlock_197 : decode cX2_encryptBlock 197 = .ok (.ishl, 1) := dk_120 (dk_at dksX2_encryptBlock_8 7 rfl rfl)
theorem dX2_encryptBlock_198 : decode cX2_encryptBlock 198 = .ok (.ior, 1) := dk_128 (dk_at dksX2_encryptBlock_8 8 rfl rfl)
theorem dX2_encryptBlock_199 : decode cX2_encryptBlock 199 = .ok (.aload 5, 2) := dk_25 5 (dk_at dksX2_encryptBlock_8 9 rfl rfl)
theorem dX2_encryptBlock_201 : decode cX2_encryptBlock 201 = .ok (.iconst 0, 1) := dk_3 (dk_at dksX2_encryptBlock_8 11 rfl rfl)
theorem dX2_encryptBlock_202 : decode cX2_encryptBlock 202 = .ok (.iaload, 1) := dk_46 (dk_at dksX2_encryptBlock_8 12 rfl rfl)
theorem dX2_encryptBlock_203 : decode cX2_encryptBlock 203 = .ok (.bipush 13, 2) := dk_16 13 (dk_at dksX2_encryptBlock_8 13 rfl rfl)
theorem dX2_encryptBlock_205 : decode cX2_encryptBlock 205 = .ok (.iushr, 1) := dk_124 (dk_at dksX2_encryptBlock_8 15 rfl rfl)
theorem dX2_encryptBlock_206 : decode cX2_encryptBlock 206 = .ok (.aload 5, 2) := dk_25 5 (dk_at dksX2_encryptBlock_8 16 rfl rfl)
theorem dX2_encryptBlock_208 : decode cX2_encryptBlock 208 = .ok (.iconst 0, 1) := dk_3 (dk_at dksX2_encryptBlock_8 18 rfl rfl)
theorem dX2_encryptBlock_209 : decode cX2_encryptBlock 209 = .ok (.iaload, 1) := dk_46 (dk_at dksX2_encryptBlock_8 19 rfl rfl)
theorem dX2_encryptBlock_210 : decode cX2_encryptBlock 210 = .ok (.bipush (-13), 2) := dk_16 243 (dk_at dksX2_encryptBlock_8 20 rfl rfl)
theorem dX2_encryptBlock_212 : decode cX2_encryptBlock 212 = .ok (.ishl, 1) := dk_120 (dk_at dksX2_encryptBlock_8 22 rfl rfl)
theorem dX2_encryptBlock_213 : decode cX2_encryptBlock 213 = .ok (.ior, 1) := dk_128 (dk_at dksX2_encryptBlock_8 23 rfl rfl)
theorem dX2_encryptBlock_214 : decode cX2_encryptBlock 214 = .ok (.ixor, 1) := dk_130 (dk_at dksX2_encryptBlock_9 0 rfl rfl)
theorem dX2_encryptBlock_215 : decode cX2_encryptBlock 215 = .ok (.aload 5, 2) := dk_25 5 (dk_at dksX2_encryptBlock_9 1 rfl rfl)
theorem dX2_encryptBlock_217 : decode cX2_encryptBlock 217 = .ok (.iconst 0, 1) := dk_3 (dk_at dksX2_encryptBlock_9 3 rfl rfl)
theorem dX2_encryptBlock_218 : decode cX2_encryptBlock 218 = .ok (.iaload, 1) := dk_46 (dk_at dksX2_encryptBlock_9 4 rfl rfl)
theorem dX2_encryptBlock_219 : decode cX2_encryptBlock 219 = .ok (.bipush 22, 2) := dk_16 22 (dk_at dksX2_encryptBlock_9 5 rfl rfl)
theorem dX2_encryptBlock_221 : decode cX2_encryptBlock 221 = .ok (.iushr, 1) := dk_124 (dk_at dksX2_encryptBlock_9 7 rfl rfl)
theorem dX2_encryptBlock_222 : decode cX2_encryptBlock 222 = .ok (.aload 5, 2) := dk_25 5 (dk_at dksX2_encryptBlock_9 8 rfl rfl)
theorem dX2_encryptBlock_224 : decode cX2_encryptBlock 224 = .ok (.iconst 0, 1) := dk_3 (dk_at dksX2_encryptBlock_9 10 rfl rfl)
theorem dX2_encryptBlock_225 : decode cX2_encryptBlock 225 = .ok (.iaload, 1) := dk_46 (dk_at dksX2_encryptBlock_9 11 rfl rfl)
theorem dX2_encryptBlock_226 : decode cX2_encryptBlock 226 = .ok (.bipush (-22), 2) := dk_16 234 (dk_at dksX2_encryptBlock_9 12 rfl rfl)
theorem dX2_encryptBlock_228 : decode cX2_encryptBlock 228 = .ok (.ishl, 1) := dk_120 (dk_at dksX2_encryptBlock_9 14 rfl rfl)
theorem dX2_encryptBlock_229 : decode cX2_encryptBlock 229 = .ok (.ior, 1) := dk_128 (dk_at dksX2_encryptBlock_9 15 rfl rfl)
theorem dX2_encryptBlock_230 : decode cX2_encryptBlock 230 = .ok (.ixor, 1) := dk_130 (dk_at dksX2_encryptBlock_9 16 rfl rfl)
theorem dX2_encryptBlock_231 : decode cX2_encryptBlock 231 = .ok (.iadd, 1) := dk_96 (dk_at dksX2_encryptBlock_9 17 rfl rfl)
theorem dX2_encryptBlock_232 : decode cX2_encryptBlock 232 = .ok (.aload 5, 2) := dk_25 5 (dk_at dksX2_encryptBlock_9 18 rfl rfl)
theorem dX2_encryptBlock_234 : decode cX2_encryptBlock 234 = .ok (.iconst 0, 1) := dk_3 (dk_at dksX2_encryptBlock_9 20 rfl rfl)
theorem dX2_encryptBlock_235 : decode cX2_encryptBlock 235 = .ok (.iaload, 1) := dk_46 (dk_at dksX2_encryptBlock_9 21 rfl rfl)
theorem dX2_encryptBlock_236 : decode cX2_encryptBlock 236 = .ok (.aload 5, 2) := dk_25 5 (dk_at dksX2_encryptBlock_9 22 rfl rfl)
theorem dX2_encryptBlock_238 : decode cX2_encryptBlock 238 = .ok (.iconst 2, 1) := dk_5 (dk_at dksX2_encryptBlock_10 0 rfl rfl)
theorem dX2_encryptBlock_239 : decode cX2_encryptBlock 239 = .ok (.iaload, 1) := dk_46 (dk_at dksX2_encryptBlock_10 1 rfl rfl)
theorem dX2_encryptBlock_240 : decode cX2_encryptBlock 240 = .ok (.iand, 1) := dk_126 (dk_at dksX2_encryptBlock_10 2 rfl rfl)
theorem dX2_encryptBlock_241 : decode cX2_encryptBlock 241 = .ok (.aload 5, 2) := dk_25 5 (dk_at dksX2_encryptBlock_10 3 rfl rfl)
theorem dX2_encryptBlock_243 : decode cX2_encryptBlock 243 = .ok (.iconst 0, 1) := dk_3 (dk_at dksX2_encryptBlock_10 5 rfl rfl)
theorem dX2_encryptBlock_244 : decode cX2_encryptBlock 244 = .ok (.iaload, 1) := dk_46 (dk_at dksX2_encryptBlock_10 6 rfl rfl)
theorem dX2_encryptBlock_245 : decode cX2_encryptBlock 245 = .ok (.aload 5, 2) := dk_25 5 (dk_at dksX2_encryptBlock_10 7 rfl rfl)
theorem dX2_encryptBlock_247 : decode cX2_encryptBlock 247 = .ok (.iconst 3, 1) := dk_6 (dk_at dksX2_encryptBlock_10 9 rfl rfl)
theorem dX2_encryptBlock_248 : decode cX2_encryptBlock 248 = .ok (.iaload, 1) := dk_46 (dk_at dksX2_encryptBlock_10 10 rfl rfl)
theorem dX2_encryptBlock_249 : decode cX2_encryptBlock 249 = .ok (.iand, 1) := dk_126 (dk_at dksX2_encryptBlock_10 11 rfl rfl)
theorem dX2_encryptBlock_250 : decode cX2_encryptBlock 250 = .ok (.ixor, 1) := dk_130 (dk_at dksX2_encryptBlock_10 12 rfl rfl)
theorem dX2_encryptBlock_251 : decode cX2_encryptBlock 251 = .ok (.aload 5, 2) := dk_25 5 (dk_at dksX2_encryptBlock_10 13 rfl rfl)
theorem dX2_encryptBlock_253 : decode cX2_encryptBlock 253 = .ok (.iconst 2, 1) := dk_5 (dk_at dksX2_encryptBlock_10 15 rfl rfl)
theorem dX2_encryptBlock_254 : decode cX2_encryptBlock 254 = .ok (.iaload, 1) := dk_46 (dk_at dksX2_encryptBlock_10 16 rfl rfl)
theorem dX2_encryptBlock_255 : decode cX2_encryptBlock 255 = .ok (.aload 5, 2) := dk_25 5 (dk_at dksX2_encryptBlock_10 17 rfl rfl)
theorem dX2_encryptBlock_257 : decode cX2_encryptBlock 257 = .ok (.iconst 3, 1) := dk_6 (dk_at dksX2_encryptBlock_10 19 rfl rfl)
theorem dX2_encryptBlock_258 : decode cX2_encryptBlock 258 = .ok (.iaload, 1) := dk_46 (dk_at dksX2_encryptBlock_10 20 rfl rfl)
theorem dX2_encryptBlock_259 : decode cX2_encryptBlock 259 = .ok (.iand, 1) := dk_126 (dk_at dksX2_encryptBlock_10 21 rfl rfl)
theorem dX2_encryptBlock_260 : decode cX2_encryptBlock 260 = .ok (.ixor, 1) := dk_130 (dk_at dksX2_encryptBlock_10 22 rfl rfl)
theorem dX2_encryptBlock_261 : decode cX2_encryptBlock 261 = .ok (.iadd, 1) := dk_96 (dk_at dksX2_encryptBlock_10 23 rfl rfl)
theorem dX2_encryptBlock_262 : decode cX2_encryptBlock 262 = .ok (.iastore, 1) := dk_79 (dk_at dksX2_encryptBlock_11 0 rfl rfl)
theorem dX2_encryptBlock_263 : decode cX2_encryptBlock 263 = .ok (.iinc 6 1, 3) := dk_132 6 1 (dk_at dksX2_encryptBlock_11 1 rfl rfl)
theorem dX2_encryptBlock_266 : decode cX2_encryptBlock 266 = .ok (.goto (-248), 3) := dk_167 255 8 (dk_at dksX2_encryptBlock_11 4 rfl rfl)
theorem dX2_encryptBlock_269 : decode cX2_encryptBlock 269 = .ok (.aload_n 0, 1) := dk_42 (dk_at dksX2_encryptBlock_11 7 rfl rfl)
theorem dX2_encryptBlock_270 : decode cX2_encryptBlock 270 = .ok (.aload 5, 2) := dk_25 5 (dk_at dksX2_encryptBlock_11 8 rfl rfl)
theorem dX2_encryptBlock_272 : decode cX2_encryptBlock 272 = .ok (.aload_n 3, 1) := dk_45 (dk_at dksX2_encryptBlock_11 10 rfl rfl)
theorem dX2_encryptBlock_273 : decode cX2_encryptBlock 273 = .ok (.iload 4, 2) := dk_21 4 (dk_at dksX2_encryptBlock_11 11 rfl rfl)
theorem dX2_encryptBlock_275 : decode cX2_encryptBlock 275 = .ok (.invokevirtual 46, 3) := dk_182 0 46 (dk_at dksX2_encryptBlock_11 13 rfl rfl)
theorem dX2_encryptBlock_278 : decode cX2_encryptBlock 278 = .ok (.return_, 1) := dk_177 (dk_at dksX2_encryptBlock_11 16 rfl rfl)
abbrev cX2_byteBlockToInts : ByteArray := prog_7_method_7_code
def yX2_byteBlockToInts : MethodName := ⟨RX2, "byteBlockToInts", "([B[III)V"⟩
def dkwX2_byteBlockToInts_3 : List UInt8 := [167, 255, 190, 177]
abbrev dktX2_byteBlockToInts_3 : List UInt8 := dkwX2_byteBlockToInts_3 ++ []
def dkwX2_byteBlockToInts_2 : List UInt8 := [17, 0, 255, 126, 16, 8, 120, 128, 43, 29, 132, 3, 1, 51, 17, 0, 255, 126, 128, 79, 132, 5, 1]
abbrev dktX2_byteBlockToInts_2 : List UInt8 := dkwX2_byteBlockToInts_2 ++ dktX2_byteBlockToInts_3
def dkwX2_byteBlockToInts_1 : List UInt8 := [16, 24, 120, 43, 29, 132, 3, 1, 51, 17, 0, 255, 126, 16, 16, 120, 128, 43, 29, 132, 3, 1, 51]
abbrev dktX2_byteBlockToInts_1 : List UInt8 := dkwX2_byteBlockToInts_1 ++ dktX2_byteBlockToInts_2
def dkwX2_byteBlockToInts_0 : List UInt8 := [21, 4, 54, 5, 21, 5, 16, 8, 162, 0, 65, 44, 21, 5, 43, 29, 132, 3, 1, 51, 17, 0, 255, 126]
abbrev dktX2_byteBlockToInts_0 : List UInt8 := dkwX2_byteBlockToInts_0 ++ dktX2_byteBlockToInts_1
theorem dksX2_byteBlockToInts_0 : cX2_byteBlockToInts.data.toList.drop 0 = dktX2_byteBlockToInts_0 := by decide +kernel
theorem dksX2_byteBlockToInts_1 : cX2_byteBlockToInts.data.toList.drop 24 = dktX2_byteBlockToInts_1 := dk_seg dksX2_byteBlockToInts_0 24 rfl rfl
theorem dksX2_byteBlockToInts_2 : cX2_byteBlockToInts.data.toList.drop 47 = dktX2_byteBlockToInts_2 := dk_seg dksX2_byteBlockToInts_1 23 rfl rfl
theorem dksX2_byteBlockToInts_3 : cX2_byteBlockToInts.data.toList.drop 70 = dktX2_byteBlockToInts_3 := dk_seg dksX2_byteBlockToInts_2 23 rfl rfl
theorem dX2_byteBlockToInts_0 : decode cX2_byteBlockToInts 0 = .ok (.iload 4, 2) := dk_21 4 (dk_at dksX2_byteBlockToInts_0 0 rfl rfl)
theorem dX2_byteBlockToInts_2 : decode cX2_byteBlockToInts 2 = .ok (.istore 5, 2) := dk_54 5 (dk_at dksX2_byteBlockToInts_0 2 rfl rfl)
theorem dX2_byteBlockToInts_4 : decode cX2_byteBlockToInts 4 = .ok (.iload 5, 2) := dk_21 5 (dk_at dksX2_byteBlockToInts_0 4 rfl rfl)
theorem dX2_byteBlockToInts_6 : decode cX2_byteBlockToInts 6 = .ok (.bipush 8, 2) := dk_16 8 (dk_at dksX2_byteBlockToInts_0 6 rfl rfl)
theorem dX2_byteBlockToInts_8 : decode cX2_byteBlockToInts 8 = .ok (.if_icmp .ge 65, 3) := dk_162 0 65 (dk_at dksX2_byteBlockToInts_0 8 rfl rfl)
theorem dX2_byteBlockToInts_11 : decode cX2_byteBlockToInts 11 = .ok (.aload_n 2, 1) := dk_44 (dk_at dksX2_byteBlockToInts_0 11 rfl rfl)
theorem dX2_byteBlockToInts_12 : decode cX2_byteBlockToInts 12 = .ok (.iload 5, 2) := dk_21 5 (dk_at dksX2_byteBlockToInts_0 12 rfl rfl)
theorem dX2_byteBlockToInts_14 : decode cX2_byteBlockToInts 14 = .ok (.aload_n 1, 1) := dk_43 (dk_at dksX2_byteBlockToInts_0 14 rfl rfl)
theorem dX2_byteBlockToInts_15 : decode cX2_byteBlockToInts 15 = .ok (.iload_n 3, 1) := dk_29 (dk_at dksX2_byteBlockToInts_0 15 rfl rfl)
theorem dX2_byteBlockToInts_16 : decode cX2_byteBlockToInts 16 = .ok (.iinc 3 1, 3) := dk_132 3 1 (dk_at dksX2_byteBlockToInts_0 16 rfl rfl)
theorem dX2_byteBlockToInts_19 : decode cX2_byteBlockToInts 19 = .ok (.baload, 1) := dk_51 (dk_at dksX2_byteBlockToInts_0 19 rfl rfl)
theorem dX2_byteBlockToInts_20 : decode cX2_byteBlockToInts 20 = .ok (.sipush 255, 3) := dk_17 0 255 (dk_at dksX2_byteBlockToInts_0 20 rfl rfl)
theorem dX2_byteBlockToInts_23 : decode cX2_byteBlockToInts 23 = .ok (.iand, 1) := dk_126 (dk_at dksX2_byteBlockToInts_0 23 rfl rfl)
theorem dX2_byteBlockToInts_24 : decode cX2_byteBlockToInts 24 = .ok (.bipush 24, 2) := dk_16 24 (dk_at dksX2_byteBlockToInts_1 0 rfl rfl)
theorem dX2_byteBlockToInts_26 : decode cX2_byteBlockToInts 26 = .ok (.ishl, 1) := dk_120 (dk_at dksX2_byteBlockToInts_1 2 rfl rfl)
theorem dX2_byteBlockToInts_27 : decode cX2_byteBlockToInts 27 = .ok (.aload_n 1, 1) := dk_43 (dk_at dksX2_byteBlockToInts_1 3 rfl rfl)
theorem dX2_byteBlockToInts_28 : decode cX2_byteBlockToInts 28 = .ok (.iload_n 3, 1) := dk_29 (dk_at dksX2_byteBlockToInts_1 4 rfl rfl)
theorem dX2_byteBlockToInts_29 : decode cX2_byteBlockToInts 29 = .ok (.iinc 3 1, 3) := dk_132 3 1 (dk_at dksX2_byteBlockToInts_1 5 rfl rfl)
theorem dX2_byteBlockToInts_32 : decode cX2_byteBlockToInts 32 = .ok (.baload, 1) := dk_51 (dk_at dksX2_byteBlockToInts_1 8 rfl rfl)
theorem dX2_byteBlockToInts_33 : decode cX2_byteBlockToInts 33 = .ok (.sipush 255, 3) := dk_17 0 255 (dk_at dksX2_byteBlockToInts_1 9 rfl rfl)
theorem dX2_byteBlockToInts_36 : decode cX2_byteBlockToInts 36 = .ok (.iand, 1) := dk_126 (dk_at dksX2_byteBlockToInts_1 12 rfl rfl)
theorem dX2_byteBlockToInts_37 : decode cX2_byteBlockToInts 37 = .ok (.bipush 16, 2) := dk_16 16 (dk_at dksX2_byteBlockToInts_1 13 rfl rfl)
theorem dX2_byteBlockToInts_39 : decode cX2_byteBlockToInts 39 = .ok (.ishl, 1) := dk_120 (dk_at dksX2_byteBlockToInts_1 15 rfl rfl)
theorem dX2_byteBlockToInts_40 : decode cX2_byteBlockToInts 40 = .ok (.ior, 1) := dk_128 (dk_at dksX2_byteBlockToInts_1 16 rfl rfl)
theorem dX2_byteBlockToInts_41 : decode cX2_byteBlockToInts 41 = .ok (.aload_n 1, 1) := dk_43 (dk_at dksX2_byteBlockToInts_1 17 rfl rfl)
theorem dX2_byteBlockToInts_42 : decode cX2_byteBlockToInts 42 = .ok (.iload_n 3, 1) := dk_29 (dk_at dksX2_byteBlockToInts_1 18 rfl rfl)
theorem dX2_byteBlockToInts_43 : decode cX2_byteBlockToInts 43 = .ok (.iinc 3 1, 3) := dk_132 3 1 (dk_at dksX2_byteBlockToInts_1 19 rfl rfl)
theorem dX2_byteBlockToInts_46 : decode cX2_byteBlockToInts 46 = .ok (.baload, 1) := dk_51 (dk_at dksX2_byteBlockToInts_1 22 rfl rfl)
theorem dX2_byteBlockToInts_47 : decode cX2_byteBlockToInts 47 = .ok (.sipush 255, 3) := dk_17 0 255 (dk_at dksX2_byteBlockToInts_2 0 rfl rfl)
theorem dX2_byteBlockToInts_50 : decode cX2_byteBlockToInts 50 = .ok (.iand, 1) := dk_126 (dk_at dksX2_byteBlockToInts_2 3 rfl rfl)
theorem dX2_byteBlockToInts_51 : decode cX2_byteBlockToInts 51 = .ok (.bipush 8, 2) := dk_16 8 (dk_at dksX2_byteBlockToInts_2 4 rfl rfl)
theorem dX2_byteBlockToInts_53 : decode cX2_byteBlockToInts 53 = .ok (.ishl, 1) := dk_120 (dk_at dksX2_byteBlockToInts_2 6 rfl rfl)
theorem dX2_byteBlockToInts_54 : decode cX2_byteBlockToInts 54 = .ok (.ior, 1) := dk_128 (dk_at dksX2_byteBlockToInts_2 7 rfl rfl)
theorem dX2_byteBlockToInts_55 : decode cX2_byteBlockToInts 55 = .ok (.aload_n 1, 1) := dk_43 (dk_at dksX2_byteBlockToInts_2 8 rfl rfl)
theorem dX2_byteBlockToInts_56 : decode cX2_byteBlockToInts 56 = .ok (.iload_n 3, 1) := dk_29 (dk_at dksX2_byteBlockToInts_2 9 rfl rfl)
theorem dX2_byteBlockToInts_57 : decode cX2_byteBlockToInts 57 = .ok (.iinc 3 1, 3) := dk_132 3 1 (dk_at dksX2_byteBlockToInts_2 10 rfl rfl)
theorem dX2_byteBlockToInts_60 : decode cX2_byteBlockToInts 60 = .ok (.baload, 1) := dk_51 (dk_at dksX2_byteBlockToInts_2 13 rfl rfl)
theorem dX2_byteBlockToInts_61 : decode cX2_byteBlockToInts 61 = .ok (.sipush 255, 3) := dk_17 0 255 (dk_at dksX2_byteBlockToInts_2 14 rfl rfl)
theorem dX2_byteBlockToInts_64 : decode cX2_byteBlockToInts 64 = .ok (.iand, 1) := dk_126 (dk_at dksX2_byteBlockToInts_2 17 rfl rfl)
theorem dX2_byteBlockToInts_65 : decode cX2_byteBlockToInts 65 = .ok (.ior, 1) := dk_128 (dk_at dksX2_byteBlockToInts_2 18 rfl rfl)
theorem dX2_byteBlockToInts_66 : decode cX2_byteBlockToInts 66 = .ok (.iastore, 1) := dk_79 (dk_at dksX2_byteBlockToInts_2 19 rfl rfl)
theorem dX2_byteBlockToInts_67 : decode cX2_byteBlockToInts 67 = .ok (.iinc 5 1, 3) := dk_132 5 1 (dk_at dksX2_byteBlockToInts_2 20 rfl rfl)
theorem dX2_byteBlockToInts_70 : decode cX2_byteBlockToInts 70 = .ok (.goto (-66), 3) := dk_167 255 190 (dk_at dksX2_byteBlockToInts_3 0 rfl rfl)
theorem dX2_byteBlockToInts_73 : decode cX2_byteBlockToInts 73 = .ok (.return_, 1) := dk_177 (dk_at dksX2_byteBlockToInts_3 3 rfl rfl)
abbrev cX2_ints2bytes : ByteArray := prog_7_method_9_code
def yX2_ints2bytes : MethodName := ⟨RX2, "ints2bytes", "([I[BI)V"⟩
def dkwX2_ints2bytes_2 : List UInt8 := [16, 8, 124, 145, 84, 44, 29, 132, 3, 1, 43, 21, 4, 46, 145, 84, 132, 4, 1, 167, 255, 193, 177]
abbrev dktX2_ints2bytes_2 : List UInt8 := dkwX2_ints2bytes_2 ++ []
def dkwX2_ints2bytes_1 : List UInt8 := [44, 29, 132, 3, 1, 43, 21, 4, 46, 16, 16, 124, 145, 84, 44, 29, 132, 3, 1, 43, 21, 4, 46]
abbrev dktX2_ints2bytes_1 : List UInt8 := dkwX2_ints2bytes_1 ++ dktX2_ints2bytes_2
def dkwX2_ints2bytes_0 : List UInt8 := [3, 54, 4, 21, 4, 43, 190, 162, 0, 62, 44, 29, 132, 3, 1, 43, 21, 4, 46, 16, 24, 124, 145, 84]
abbrev dktX2_ints2bytes_0 : List UInt8 := dkwX2_ints2bytes_0 ++ dktX2_ints2bytes_1
theorem dksX2_ints2bytes_0 : cX2_ints2bytes.data.toList.drop 0 = dktX2_ints2bytes_0 := by decide +kernel
theorem dksX2_ints2bytes_1 : cX2_ints2bytes.data.toList.drop 24 = dktX2_ints2bytes_1 := dk_seg dksX2_ints2bytes_0 24 rfl rfl
theorem dksX2_ints2bytes_2 : cX2_ints2bytes.data.toList.drop 47 = dktX2_ints2bytes_2 := dk_seg dksX2_ints2bytes_1 23 rfl rfl
theorem dX2_ints2bytes_0 : decode cX2_ints2bytes 0 = .ok (.iconst 0, 1) := dk_3 (dk_at dksX2_ints2bytes_0 0 rfl rfl)
theorem dX2_ints2bytes_1 : decode cX2_ints2bytes 1 = .ok (.istore 4, 2) := dk_54 4 (dk_at dksX2_ints2bytes_0 1 rfl rfl)
theorem dX2_ints2bytes_3 : decode cX2_ints2bytes 3 = .ok (.iload 4, 2) := dk_21 4 (dk_at dksX2_ints2bytes_0 3 rfl rfl)
theorem dX2_ints2bytes_5 : decode cX2_ints2bytes 5 = .ok (.aload_n 1, 1) := dk_43 (dk_at dksX2_ints2bytes_0 5 rfl rfl)
theorem dX2_ints2bytes_6 : decode cX2_ints2bytes 6 = .ok (.arraylength, 1) := dk_190 (dk_at dksX2_ints2bytes_0 6 rfl rfl)
theorem dX2_ints2bytes_7 : decode cX2_ints2bytes 7 = .ok (.if_icmp .ge 62, 3) := dk_162 0 62 (dk_at dksX2_ints2bytes_0 7 rfl rfl)
theorem dX2_ints2bytes_10 : decode cX2_ints2bytes 10 = .ok (.aload_n 2, 1) := dk_44 (dk_at dksX2_ints2bytes_0 10 rfl rfl)
theorem dX2_ints2bytes_11 : decode cX2_ints2bytes 11 = .ok (.iload_n 3, 1) := dk_29 (dk_at dksX2_ints2bytes_0 11 rfl rfl)
theorem dX2_ints2bytes_12 : decode cX2_ints2bytes 12 = .ok (.iinc 3 1, 3) := dk_132 3 1 (dk_at dksX2_ints2bytes_0 12 rfl rfl)
theorem dX2_ints2bytes_15 : decode cX2_ints2bytes 15 = .ok (.aload_n 1, 1) := dk_43 (dk_at dksX2_ints2bytes_0 15 rfl rfl)
theorem dX2_ints2bytes_16 : decode cX2_ints2bytes 16 = .ok (.iload 4, 2) := dk_21 4 (dk_at dksX2_ints2bytes_0 16 rfl rfl)
theorem dX2_ints2bytes_18 : decode cX2_ints2bytes 18 = .ok (.iaload, 1) := dk_46 (dk_at dksX2_ints2bytes_0 18 rfl rfl)
theorem dX2_ints2bytes_19 : decode cX2_ints2bytes 19 = .ok (.bipush 24, 2) := dk_16 24 (dk_at dksX2_ints2bytes_0 19 rfl rfl)
theorem dX2_ints2bytes_21 : decode cX2_ints2bytes 21 = .ok (.iushr, 1) := dk_124 (dk_at dksX2_ints2bytes_0 21 rfl rfl)
theorem dX2_ints2bytes_22 : decode cX2_ints2bytes 22 = .ok (.i2b, 1) := dk_145 (dk_at dksX2_ints2bytes_0 22 rfl rfl)
theorem dX2_ints2bytes_23 : decode cX2_ints2bytes 23 = .ok (.bastore, 1) := dk_84 (dk_at dksX2_ints2bytes_0 23 rfl rfl)
theorem dX2_ints2bytes_24 : decode cX2_ints2bytes 24 = .ok (.aload_n 2, 1) := dk_44 (dk_at dksX2_ints2bytes_1 0 rfl rfl)
theorem dX2_ints2bytes_25 : decode cX2_ints2bytes 25 = .ok (.iload_n 3, 1) := dk_29 (dk_at dksX2_ints2bytes_1 1 rfl rfl)
theorem dX2_ints2bytes_26 : decode cX2_ints2bytes 26 = .ok (.iinc 3 1, 3) := dk_132 3 1 (dk_at dksX2_ints2bytes_1 2 rfl rfl)
theorem dX2_ints2bytes_29 : decode cX2_ints2bytes 29 = .ok (.aload_n 1, 1) := dk_43 (dk_at dksX2_ints2bytes_1 5 rfl rfl)
theorem dX2_ints2bytes_30 : decode cX2_ints2bytes 30 = .ok (.iload 4, 2) := dk_21 4 (dk_at dksX2_ints2bytes_1 6 rfl rfl)
theorem dX2_ints2bytes_32 : decode cX2_ints2bytes 32 = .ok (.iaload, 1) := dk_46 (dk_at dksX2_ints2bytes_1 8 rfl rfl)
theorem dX2_ints2bytes_33 : decode cX2_ints2bytes 33 = .ok (.bipush 16, 2) := dk_16 16 (dk_at dksX2_ints2bytes_1 9 rfl rfl)
theorem dX2_ints2bytes_35 : decode cX2_ints2bytes 35 = .ok (.iushr, 1) := dk_124 (dk_at dksX2_ints2bytes_1 11 rfl rfl)
theorem dX2_ints2bytes_36 : decode cX2_ints2bytes 36 = .ok (.i2b, 1) := dk_145 (dk_at dksX2_ints2bytes_1 12 rfl rfl)
theorem dX2_ints2bytes_37 : decode cX2_ints2bytes 37 = .ok (.bastore, 1) := dk_84 (dk_at dksX2_ints2bytes_1 13 rfl rfl)
theorem dX2_ints2bytes_38 : decode cX2_ints2bytes 38 = .ok (.aload_n 2, 1) := dk_44 (dk_at dksX2_ints2bytes_1 14 rfl rfl)
theorem dX2_ints2bytes_39 : decode cX2_ints2bytes 39 = .ok (.iload_n 3, 1) := dk_29 (dk_at dksX2_ints2bytes_1 15 rfl rfl)
theorem dX2_ints2bytes_40 : decode cX2_ints2bytes 40 = .ok (.iinc 3 1, 3) := dk_132 3 1 (dk_at dksX2_ints2bytes_1 16 rfl rfl)
theorem dX2_ints2bytes_43 : decode cX2_ints2bytes 43 = .ok (.aload_n 1, 1) := dk_43 (dk_at dksX2_ints2bytes_1 19 rfl rfl)
theorem dX2_ints2bytes_44 : decode cX2_ints2bytes 44 = .ok (.iload 4, 2) := dk_21 4 (dk_at dksX2_ints2bytes_1 20 rfl rfl)
theorem dX2_ints2bytes_46 : decode cX2_ints2bytes 46 = .ok (.iaload, 1) := dk_46 (dk_at dksX2_ints2bytes_1 22 rfl rfl)
theorem dX2_ints2bytes_47 : decode cX2_ints2bytes 47 = .ok (.bipush 8, 2) := dk_16 8 (dk_at dksX2_ints2bytes_2 0 rfl rfl)
theorem dX2_ints2bytes_49 : decode cX2_ints2bytes 49 = .ok (.iushr, 1) := dk_124 (dk_at dksX2_ints2bytes_2 2 rfl rfl)
theorem dX2_ints2bytes_50 : decode cX2_ints2bytes 50 = .ok (.i2b, 1) := dk_145 (dk_at dksX2_ints2bytes_2 3 rfl rfl)
theorem dX2_ints2bytes_51 : decode cX2_ints2bytes 51 = .ok (.bastore, 1) := dk_84 (dk_at dksX2_ints2bytes_2 4 rfl rfl)
theorem dX2_ints2bytes_52 : decode cX2_ints2bytes 52 = .ok (.aload_n 2, 1) := dk_44 (dk_at dksX2_ints2bytes_2 5 rfl rfl)
theorem dX2_ints2bytes_53 : decode cX2_ints2bytes 53 = .ok (.iload_n 3, 1) := dk_29 (dk_at dksX2_ints2bytes_2 6 rfl rfl)
theorem dX2_ints2bytes_54 : decode cX2_ints2bytes 54 = .ok (.iinc 3 1, 3) := dk_132 3 1 (dk_at dksX2_ints2bytes_2 7 rfl rfl)
theorem dX2_ints2bytes_57 : decode cX2_ints2bytes 57 = .ok (.aload_n 1, 1) := dk_43 (dk_at dksX2_ints2bytes_2 10 rfl rfl)
theorem dX2_ints2bytes_58 : decode cX2_ints2bytes 58 = .ok (.iload 4, 2) := dk_21 4 (dk_at dksX2_ints2bytes_2 11 rfl rfl)
theorem dX2_ints2bytes_60 : decode cX2_ints2bytes 60 = .ok (.iaload, 1) := dk_46 (dk_at dksX2_ints2bytes_2 13 rfl rfl)
theorem dX2_ints2bytes_61 : decode cX2_ints2bytes 61 = .ok (.i2b, 1) := dk_145 (dk_at dksX2_ints2bytes_2 14 rfl rfl)
theorem dX2_ints2bytes_62 : decode cX2_ints2bytes 62 = .ok (.bastore, 1) := dk_84 (dk_at dksX2_ints2bytes_2 15 rfl rfl)
theorem dX2_ints2bytes_63 : decode cX2_ints2bytes 63 = .ok (.iinc 4 1, 3) := dk_132 4 1 (dk_at dksX2_ints2bytes_2 16 rfl rfl)
theorem dX2_ints2bytes_66 : decode cX2_ints2bytes 66 = .ok (.goto (-63), 3) := dk_167 255 193 (dk_at dksX2_ints2bytes_2 19 rfl rfl)
theorem dX2_ints2bytes_69 : decode cX2_ints2bytes 69 = .ok (.return_, 1) := dk_177 (dk_at dksX2_ints2bytes_2 22 rfl rfl)
abbrev cX2_decryptBlock : ByteArray := prog_7_method_5_code
def yX2_decryptBlock : MethodName := ⟨RX2, "decryptBlock", "([BI[BI)V"⟩
def dkwX2_decryptBlock_11 : List UInt8 := [100, 79, 132, 6, 255, 167, 255, 9, 42, 25, 5, 45, 21, 4, 182, 0, 46, 177]
abbrev dktX2_decryptBlock_11 : List UInt8 := dkwX2_decryptBlock_11 ++ []
def dkwX2_decryptBlock_10 : List UInt8 := [130, 100, 25, 5, 7, 46, 25, 5, 8, 46, 126, 25, 5, 7, 46, 2, 130, 25, 5, 16, 6, 46, 126, 130]
abbrev dktX2_decryptBlock_10 : List UInt8 := dkwX2_decryptBlock_10 ++ dktX2_decryptBlock_11
def dkwX2_decryptBlock_9 : List UInt8 := [25, 5, 7, 46, 16, 245, 120, 128, 130, 25, 5, 7, 46, 16, 25, 124, 25, 5, 7, 46, 16, 231, 120, 128]
abbrev dktX2_decryptBlock_9 : List UInt8 := dkwX2_decryptBlock_9 ++ dktX2_decryptBlock_10
def dkwX2_decryptBlock_8 : List UInt8 := [100, 25, 5, 7, 46, 16, 6, 124, 25, 5, 7, 46, 16, 250, 120, 128, 25, 5, 7, 46, 16, 11, 124]
abbrev dktX2_decryptBlock_8 : List UInt8 := dkwX2_decryptBlock_8 ++ dktX2_decryptBlock_9
def dkwX2_decryptBlock_7 : List UInt8 := [16, 7, 46, 79, 25, 5, 16, 7, 21, 7, 178, 0, 43, 21, 6, 46, 100, 42, 180, 0, 13, 21, 6, 46]
abbrev dktX2_decryptBlock_7 : List UInt8 := dkwX2_decryptBlock_7 ++ dktX2_decryptBlock_8
def dkwX2_decryptBlock_6 : List UInt8 := [79, 25, 5, 7, 25, 5, 8, 46, 79, 25, 5, 8, 25, 5, 16, 6, 46, 79, 25, 5, 16, 6, 25, 5]
abbrev dktX2_decryptBlock_6 : List UInt8 := dkwX2_decryptBlock_6 ++ dktX2_decryptBlock_7
def dkwX2_decryptBlock_5 : List UInt8 := [4, 25, 5, 5, 46, 79, 25, 5, 5, 25, 5, 6, 46, 79, 25, 5, 6, 25, 5, 7, 46, 21, 7, 100]
abbrev dktX2_decryptBlock_5 : List UInt8 := dkwX2_decryptBlock_5 ++ dktX2_decryptBlock_6
def dkwX2_decryptBlock_4 : List UInt8 := [130, 25, 5, 5, 46, 25, 5, 6, 46, 126, 130, 100, 54, 7, 25, 5, 3, 25, 5, 4, 46, 79, 25, 5]
abbrev dktX2_decryptBlock_4 : List UInt8 := dkwX2_decryptBlock_4 ++ dktX2_decryptBlock_5
def dkwX2_decryptBlock_3 : List UInt8 := [16, 234, 120, 128, 130, 100, 25, 5, 4, 46, 25, 5, 5, 46, 126, 25, 5, 4, 46, 25, 5, 6, 46, 126]
abbrev dktX2_decryptBlock_3 : List UInt8 := dkwX2_decryptBlock_3 ++ dktX2_decryptBlock_4
def dkwX2_decryptBlock_2 : List UInt8 := [46, 16, 13, 124, 25, 5, 4, 46, 16, 243, 120, 128, 130, 25, 5, 4, 46, 16, 22, 124, 25, 5, 4, 46]
abbrev dktX2_decryptBlock_2 : List UInt8 := dkwX2_decryptBlock_2 ++ dktX2_decryptBlock_3
def dkwX2_decryptBlock_1 : List UInt8 := [164, 0, 247, 25, 5, 3, 46, 25, 5, 4, 46, 5, 124, 25, 5, 4, 46, 16, 254, 120, 128, 25, 5, 4]
abbrev dktX2_decryptBlock_1 : List UInt8 := dkwX2_decryptBlock_1 ++ dktX2_decryptBlock_2
def dkwX2_decryptBlock_0 : List UInt8 := [16, 8, 188, 10, 58, 5, 42, 43, 25, 5, 28, 3, 182, 0, 40, 16, 63, 54, 6, 21, 6, 2]
abbrev dktX2_decryptBlock_0 : List UInt8 := dkwX2_decryptBlock_0 ++ dktX2_decryptBlock_1
theorem dksX2_decryptBlock_0 : cX2_decryptBlock.data.toList.drop 0 = dktX2_decryptBlock_0 := by decide +kernel
theorem dksX2_decryptBlock_1 : cX2_decryptBlock.data.toList.drop 22 = dktX2_decryptBlock_1 := dk_seg dksX2_decryptBlock_0 22 rfl rfl
theorem dksX2_decryptBlock_2 : cX2_decryptBlock.data.toList.drop 46 = dktX2_decryptBlock_2 := dk_seg dksX2_decryptBlock_1 24 rfl rfl
theorem dksX2_decryptBlock_3 : cX2_decryptBlock.data.toList.drop 70 = dktX2_decryptBlock_3 := dk_seg dksX2_decryptBlock_2 24 rfl rfl
theorem dksX2_decryptBlock_4 : cX2_decryptBlock.data.toList.drop 94 = dktX2_decryptBlock_4 := dk_seg dksX2_decryptBlock_3 24 rfl rfl
theorem dksX2_decryptBlock_5 : cX2_decryptBlock.data.toList.drop 118 = dktX2_decryptBlock_5 := dk_seg dksX2_decryptBlock_4 24 rfl rfl
theorem dksX2_decryptBlock_6 : cX2_decryptBlock.data.toList.drop 142 = dktX2_decryptBlock_6 := dk_seg dksX2_decryptBlock_5 24 rfl rfl
theorem dksX2_decryptBlock_7 : cX2_decryptBlock.data.toList.drop 166 = dktX2_decryptBlock_7 := dk_seg dksX2_decryptBlock_6 24 rfl rfl
theorem dksX2_decryptBlock_8 : cX2_decryptBlock.data.toList.drop 190 = dktX2_decryptBlock_8 := dk_seg dksX2_decryptBlock_7 24 rfl rfl
theorem dksX2_decryptBlock_9 : cX2_decryptBlock.data.toList.drop 213 = dktX2_decryptBlock_9 := dk_seg dksX2_decryptBlock_8 23 rfl rfl
theorem dksX2_decryptBlock_10 : cX2_decryptBlock.data.toList.drop 237 = dktX2_decryptBlock_10 := dk_seg dksX2_decryptBlock_9 24 rfl rfl
theorem dksX2_decryptBlock_11 : cX2_decryptBlock.data.toList.drop 261 = dktX2_decryptBlock_11 := dk_seg dksX2_decryptBlock_10 24 rfl rfl
theorem dX2_decryptBlock_0 : decode cX2_decryptBlock 0 = .ok (.bipush 8, 2) := dk_16 8 (dk_at dksX2_decryptBlock_0 0 rfl rfl)
theorem dX2_decryptBlock_2 : decode cX2_decryptBlock 2 = .ok (.newarray .int, 2) := dk_188_10 (dk_at dksX2_decryptBlock_0 2 rfl rfl)
theorem dX2_decryptBlock_4 : decode cX2_decryptBlock 4 = .ok (.astore 5, 2) := dk_58 5 (dk_at dksX2_decryptBlock_0 4 rfl rfl)
theorem dX2_decryptBlock_6 : decode cX2_decryptBlock 6 = .ok (.aload_n 0, 1) := dk_42 (dk_at dksX2_decryptBlock_0 6 rfl rfl)
theorem dX2_decryptBlock_7 : decode cX2_decryptBlock 7 = .ok (.aload_n 1, 1) := dk_43 (dk_at dksX2_decryptBlock_0 7 rfl rfl)
theorem dX2_decryptBlock_8 : decode cX2_decryptBlock 8 = .ok (.aload 5, 2) := dk_25 5 (dk_at dksX2_decryptBlock_0 8 rfl rfl)
theorem dX2_decryptBlock_10 : decode cX2_decryptBlock 10 = .ok (.iload_n 2, 1) := dk_28 (dk_at dksX2_decryptBlock_0 10 rfl rfl)
theorem dX2_decryptBlock_11 : decode cX2_decryptBlock 11 = .ok (.iconst 0, 1) := dk_3 (dk_at dksX2_decryptBlock_0 11 rfl rfl)
theorem dX2_decryptBlock_12 : decode cX2_decryptBlock 12 = .ok (.invokevirtual 40, 3) := dk_182 0 40 (dk_at dksX2_decryptBlock_0 12 rfl rfl)
theorem dX2_decryptBlock_15 : decode cX2_decryptBlock 15 = .ok (.bipush 63, 2) := dk_16 63 (dk_at dksX2_decryptBlock_0 15 rfl rfl)
theorem dX2_decryptBlock_17 : decode cX2_decryptBlock 17 = .ok (.istore 6, 2) := dk_54 6 (dk_at dksX2_decryptBlock_0 17 rfl rfl)
theorem dX2_decryptBlock_19 : decode cX2_decryptBlock 19 = .ok (.iload 6, 2) := dk_21 6 (dk_at dksX2_decryptBlock_0 19 rfl rfl)
theorem dX2_decryptBlock_21 : decode cX2_decryptBlock 21 = .ok (.iconst (-1), 1) := dk_2 (dk_at dksX2_decryptBlock_0 21 rfl rfl)
theorem dX2_decryptBlock_22 : decode cX2_decryptBlock 22 = .ok (.if_icmp .le 247, 3) := dk_164 0 247 (dk_at dksX2_decryptBlock_1 0 rfl rfl)
theorem dX2_decryptBlock_25 : decode cX2_decryptBlock 25 = .ok (.aload 5, 2) := dk_25 5 (dk_at dksX2_decryptBlock_1 3 rfl rfl)
theorem dX2_decryptBlock_27 : decode cX2_decryptBlock 27 = .ok (.iconst 0, 1) := dk_3 (dk_at dksX2_decryptBlock_1 5 rfl rfl)
theorem dX2_decryptBlock_28 : decode cX2_decryptBlock 28 = .ok (.iaload, 1) := dk_46 (dk_at dksX2_decryptBlock_1 6 rfl rfl)
theorem dX2_decryptBlock_29 : decode cX2_decryptBlock 29 = .ok (.aload 5, 2) := dk_25 5 (dk_at dksX2_decryptBlock_1 7 rfl rfl)
theorem dX2_decryptBlock_31 : decode cX2_decryptBlock 31 = .ok (.iconst 1, 1) := dk_4 (dk_at dksX2_decryptBlock_1 9 rfl rfl)
theorem dX2_decryptBlock_32 : decode cX2_decryptBlock 32 = .ok (.iaload, 1) := dk_46 (dk_at dksX2_decryptBlock_1 10 rfl rfl)
theorem dX2_decryptBlock_33 : decode cX2_decryptBlock 33 = .ok (.iconst 2, 1) := dk_5 (dk_at dksX2_decryptBlock_1 11 rfl rfl)
theorem dX2_decryptBlock_34 : decode cX2_decryptBlock 34 = .ok (.iushr, 1) := dk_124 (dk_at dksX2_decryptBlock_1 12 rfl rfl)
theorem dX2_decryptBlock_35 : decode cX2_decryptBlock 35 = .ok (.aload 5, 2) := dk_25 5 (dk_at dksX2_decryptBlock_1 13 rfl rfl)
theorem dX2_decryptBlock_37 : decode cX2_decryptBlock 37 = .ok (.iconst 1, 1) := dk_4 (dk_at dksX2_decryptBlock_1 15 rfl rfl)
theorem dX2_decryptBlock_38 : decode cX2_decryptBlock 38 = .ok (.iaload, 1) := dk_46 (dk_at dksX2_decryptBlock_1 16 rfl rfl)
theorem dX2_decryptBlock_39 : decode cX2_decryptBlock 39 = .ok (.bipush (-2), 2) := dk_16 254 (dk_at dksX2_decryptBlock_1 17 rfl rfl)
theorem dX2_decryptBlock_41 : decode cX2_decryptBlock 41 = .ok (.ishl, 1) := dk_120 (dk_at dksX2_decryptBlock_1 19 rfl rfl)
theorem dX2_decryptBlock_42 : decode cX2_decryptBlock 42 = .ok (.ior, 1) := dk_128 (dk_at dksX2_decryptBlock_1 20 rfl rfl)
theorem dX2_decryptBlock_43 : decode cX2_decryptBlock 43 = .ok (.aload 5, 2) := dk_25 5 (dk_at dksX2_decryptBlock_1 21 rfl rfl)
theorem dX2_decryptBlock_45 : decode cX2_decryptBlock 45 = .ok (.iconst 1, 1) := dk_4 (dk_at dksX2_decryptBlock_1 23 rfl rfl)
theorem dX2_decryptBlock_46 : decode cX2_decryptBlock 46 = .ok (.iaload, 1) := dk_46 (dk_at dksX2_decryptBlock_2 0 rfl rfl)
theorem dX2_decryptBlock_47 : decode cX2_decryptBlock 47 = .ok (.bipush 13, 2) := dk_16 13 (dk_at dksX2_decryptBlock_2 1 rfl rfl)
theorem dX2_decryptBlock_49 : decode cX2_decryptBlock 49 = .ok (.iushr, 1) := dk_124 (dk_at dksX2_decryptBlock_2 3 rfl rfl)
theorem dX2_decryptBlock_50 : decode cX2_decryptBlock 50 = .ok (.aload 5, 2) := dk_25 5 (dk_at dksX2_decryptBlock_2 4 rfl rfl)
theorem dX2_decryptBlock_52 : decode cX2_decryptBlock 52 = .ok (.iconst 1, 1) := dk_4 (dk_at dksX2_decryptBlock_2 6 rfl rfl)
theorem dX2_decryptBlock_53 : decode cX2_decryptBlock 53 = .ok (.iaload, 1) := dk_46 (dk_at dksX2_decryptBlock_2 7 rfl rfl)
theorem dX2_decryptBlock_54 : decode cX2_decryptBlock 54 = .ok (.bipush (-13), 2) := dk_16 243 (dk_at dksX2_decryptBlock_2 8 rfl rfl)
theorem dX2_decryptBlock_56 : decode cX2_decryptBlock 56 = .ok (.ishl, 1) := dk_120 (dk_at dksX2_decryptBlock_2 10 rfl rfl)
theorem dX2_decryptBlock_57 : decode cX2_decryptBlock 57 = .ok (.ior, 1) := dk_128 (dk_at dksX2_decryptBlock_2 11 rfl rfl)
theorem dX2_decryptBlock_58 : decode cX2_decryptBlock 58 = .ok (.ixor, 1) := dk_130 (dk_at dksX2_decryptBlock_2 12 rfl rfl)
theorem dX2_decryptBlock_59 : decode cX2_decryptBlock 59 = .ok (.aload 5, 2) := dk_25 5 (dk_at dksX2_decryptBlock_2 13 rfl rfl)
theorem dX2_decryptBlock_61 : decode cX2_decryptBlock 61 = .ok (.iconst 1, 1) := dk_4 (dk_at dksX2_decryptBlock_2 15 rfl rfl)
theorem dX2_decryptBlock_62 : decode cX2_decryptBlock 62 = .ok (.iaload, 1) := dk_46 (dk_at dksX2_decryptBlock_2 16 rfl rfl)
theorem dX2_decryptBlock_63 : decode cX2_decryptBlock 63 = .ok (.bipush 22, 2) := dk_16 22 (dk_at dksX2_decryptBlock_2 17 rfl rfl)
theorem dX2_decryptBlock_65 : decode cX2_decryptBlock 65 = .ok (.iushr, 1) := dk_124 (dk_at dksX2_decryptBlock_2 19 rfl rfl)
theorem dX2_decryptBlock_66 : decode cX2_decryptBlock 66 = .ok (.aload 5, 2) := dk_25 5 (dk_at dksX2_decryptBlock_2 20 rfl rfl)
theorem dX2_decryptBlock_68 : decode cX2_decryptBlock 68 = .ok (.iconst 1, 1) := dk_4 (dk_at dksX2_decryptBlock_2 22 rfl rfl)
theorem dX2_decryptBlock_69 : decode cX2_decryptBlock 69 = .ok (.iaload, 1) := dk_46 (dk_at dksX2_decryptBlock_2 23 rfl rfl)
theorem dX2_decryptBlock_70 : decode cX2_decryptBlock 70 = .ok (.bipush (-22), 2) := dk_16 234 (dk_at dksX2_decryptBlock_3 0 rfl rfl)
theorem dX2_decryptBlock_72 : decode cX2_decryptBlock 72 = .ok (.ishl, 1) := dk_120 (dk_at dksX2_decryptBlock_3 2 rfl rfl)
theorem dX2_decryptBlock_73 : decode cX2_decryptBlock 73 = .ok (.ior, 1) := dk_128 (dk_at dksX2_decryptBlock_3 3 rfl rfl)
theorem dX2_decryptBlock_74 : decode cX2_decryptBlock 74 = .ok (.ixor, 1) := dk_130 (dk_at dksX2_decryptBlock_3 4 rfl rfl)
theorem dX2_decryptBlock_75 : decode cX2_decryptBlock 75 = .ok (.isub, 1) := dk_100 (dk_at dksX2_decryptBlock_3 5 rfl rfl)
theorem dX2_decryptBlock_76 : decode cX2_decryptBlock 76 = .ok (.aload 5, 2) := dk_25 5 (dk_at dksX2_decryptBlock_3 6 rfl rfl)
theorem dX2_decryptBlock_78 : decode cX2_decryptBlock 78 = .ok (.iconst 1, 1) := dk_4 (dk_at dksX2_decryptBlock_3 8 rfl rfl)
theorem dX2_decryptBlock_79 : decode cX2_decryptBlock 79 = .ok (.iaload, 1) := dk_46 (dk_at dksX2_decryptBlock_3 9 rfl rfl)
theorem dX2_decryptBlock_80 : decode cX2_decryptBlock 80 = .ok (.aload 5, 2) := dk_25 5 (dk_at dksX2_decryptBlock_3 10 rfl rfl)
theorem dX2_decryptBlock_82 : decode cX2_decryptBlock 82 = .ok (.iconst 2, 1) := dk_5 (dk_at dksX2_decryptBlock_3 12 rfl rfl)
theorem dX2_decryptBlock_83 : decode cX2_decryptBlock 83 = .ok (.iaload, 1) := dk_46 (dk_at dksX2_decryptBlock_3 13 rfl rfl)
theorem dX2_decryptBlock_84 : decode cX2_decryptBlock 84 = .ok (.iand, 1) := dk_126 (dk_at dksX2_decryptBlock_3 14 rfl rfl)
theorem dX2_decryptBlock_85 : decode cX2_decryptBlock 85 = .ok (.aload 5, 2) := dk_25 5 (dk_at dksX2_decryptBlock_3 15 rfl rfl)
theorem dX2_decryptBlock_87 : decode cX2_decryptBlock 87 = .ok (.iconst 1, 1) := dk_4 (dk_at dksX2_decryptBlock_3 17 rfl rfl)
theorem dX2_decryptBlock_88 : decode cX2_decryptBlock 88 = .ok (.iaload, 1) := dk_46 (dk_at dksX2_decryptBlock_3 18 rfl rfl)
theorem dX2_decryptBlock_89 : decode cX2_decryptBlock 89 = .ok (.aload 5, 2) := dk_25 5 (dk_at dksX2_decryptBlock_3 19 rfl rfl)
theorem dX2_decryptBlock_91 : decode cX2_decryptBlock 91 = .ok (.iconst 3, 1) := dk_6 (dk_at dksX2_decryptBlock_3 21 rfl rfl)
theorem dX2_decryptBlock_92 : decode cX2_decryptBlock 92 = .ok (.iaload, 1) := dk_46 (dk_at dksX2_decryptBlock_3 22 rfl rfl)
theorem dX2_decryptBlock_93 : decode cX2_decryptBlock 93 = .ok (.iand, 1) := dk_126 (dk_at dksX2_decryptBlock_3 23 rfl rfl)
theorem dX2_decryptBlock_94 : decode cX2_decryptBlock 94 = .ok (.ixor, 1) := dk_130 (dk_at dksX2_decryptBlock_4 0 rfl rfl)
theorem dX2_decryptBlock_95 : decode cX2_decryptBlock 95 = .ok (.aload 5, 2) := dk_25 5 (dk_at dksX2_decryptBlock_4 1 rfl rfl)
theorem dX2_decryptBlock_97 : decode cX2_decryptBlock 97 = .ok (.iconst 2, 1) := dk_5 (dk_at dksX2_decryptBlock_4 3 rfl rfl)
theorem dX2_decryptBlock_98 : decode cX2_decryptBlock 98 = .ok (.iaload, 1) := dk_46 (dk_at dksX2_decryptBlock_4 4 rfl rfl)
theorem dX2_decryptBlock_99 : decode cX2_decryptBlock 99 = .ok (.aload 5, 2) := dk_25 5 (dk_at dksX2_decryptBlock_4 5 rfl rfl)
theorem dX2_decryptBlock_101 : decode cX2_decryptBlock 101 = .ok (.iconst 3, 1) := dk_6 (dk_at dksX2_decryptBlock_4 7 rfl rfl)
theorem dX2_decryptBlock_102 : decode cX2_decryptBlock 102 = .ok (.iaload, 1) := dk_46 (dk_at dksX2_decryptBlock_4 8 rfl rfl)
theorem dX2_decryptBlock_103 : decode cX2_decryptBlock 103 = .ok (.iand, 1) := dk_126 (dk_at dksX2_decryptBlock_4 9 rfl rfl)
theorem dX2_decryptBlock_104 : decode cX2_decryptBlock 104 = .ok (.ixor, 1) := dk_130 (dk_at dksX2_decryptBlock_4 10 rfl rfl)
theorem dX2_decryptBlock_105 : decode cX2_decryptBlock 105 = .ok (.isub, 1) := dk_100 (dk_at dksX2_decryptBlock_4 11 rfl rfl)
theorem dX2_decryptBlock_106 : decode cX2_decryptBlock 106 = .ok (.istore 7, 2) := dk_54 7 (dk_at dksX2_decryptBlock_4 12 rfl rfl)
theorem dX2_decryptBlock_108 : decode cX2_decryptBlock 108 = .ok (.aload 5, 2) := dk_25 5 (dk_at dksX2_decryptBlock_4 14 rfl rfl)
theorem dX2_decryptBlock_110 : decode cX2_decryptBlock 110 = .ok (.iconst 0, 1) := dk_3 (dk_at dksX2_decryptBlock_4 16 rfl rfl)
theorem dX2_decryptBlock_111 : decode cX2_decryptBlock 111 = .ok (.aload 5, 2) := dk_25 5 (dk_at dksX2_decryptBlock_4 17 rfl rfl)
theorem dX2_decryptBlock_113 : decode cX2_decryptBlock 113 = .ok (.iconst 1, 1) := dk_4 (dk_at dksX2_decryptBlock_4 19 rfl rfl)
theorem dX2_decryptBlock_114 : decode cX2_decryptBlock 114 = .ok (.iaload, 1) := dk_46 (dk_at dksX2_decryptBlock_4 20 rfl rfl)
theorem dX2_decryptBlock_115 : decode cX2_decryptBlock 115 = .ok (.iastore, 1) := dk_79 (dk_at dksX2_decryptBlock_4 21 rfl rfl)
theorem dX2_decryptBlock_116 : decode cX2_decryptBlock 116 = .ok (.aload 5, 2) := dk_25 5 (dk_at dksX2_decryptBlock_4 22 rfl rfl)
theorem dX2_decryptBlock_118 : decode cX2_decryptBlock 118 = .ok (.iconst 1, 1) := dk_4 (dk_at dksX2_decryptBlock_5 0 rfl rfl)
theorem dX2_decryptBlock_119 : decode cX2_decryptBlock 119 = .ok (.aload 5, 2) := dk_25 5 (dk_at dksX2_decryptBlock_5 1 rfl rfl)
theorem dX2_decryptBlock_121 : decode cX2_decryptBlock 121 = .ok (.iconst 2, 1) := dk_5 (dk_at dksX2_decryptBlock_5 3 rfl rfl)
theorem dX2_decryptBlock_122 : decode cX2_decryptBlock 122 = .ok (.iaload, 1) := dk_46 (dk_at dksX2_decryptBlock_5 4 rfl rfl)
theorem dX2_decryptBlock_123 : decode cX2_decryptBlock 123 = .ok (.iastore, 1) := dk_79 (dk_at dksX2_decryptBlock_5 5 rfl rfl)
theorem dX2_decryptBlock_124 : decode cX2_decryptBlock 124 = .ok (.aload 5, 2) := dk_25 5 (dk_at dksX2_decryptBlock_5 6 rfl rfl)
theorem dX2_decryptBlock_126 : decode cX2_decryptBlock 126 = .ok (.iconst 2, 1) := dk_5 (dk_at dksX2_decryptBlock_5 8 rfl rfl)
theorem dX2_decryptBlock_127 : decode cX2_decryptBlock 127 = .ok (.aload 5, 2) := dk_25 5 (dk_at dksX2_decryptBlock_5 9 rfl rfl)
theorem dX2_decryptBlock_129 : decode cX2_decryptBlock 129 = .ok (.iconst 3, 1) := dk_6 (dk_at dksX2_decryptBlock_5 11 rfl rfl)
theorem dX2_decryptBlock_130 : decode cX2_decryptBlock 130 = .ok (.iaload, 1) := dk_46 (dk_at dksX2_decryptBlock_5 12 rfl rfl)
theorem dX2_decryptBlock_131 : decode cX2_decryptBlock 131 = .ok (.iastore, 1) := dk_79 (dk_at dksX2_decryptBlock_5 13 rfl rfl)
theorem dX2_decryptBlock_132 : decode cX2_decryptBlock 132 = .ok (.aload 5, 2) := dk_25 5 (dk_at dksX2_decryptBlock_5 14 rfl rfl)
theorem dX2_decryptBlock_134 : decode cX2_decryptBlock 134 = .ok (.iconst 3, 1) := dk_6 (dk_at dksX2_decryptBlock_5 16 rfl rfl)
theorem dX2_decryptBlock_135 : decode cX2_decryptBlock 135 = .ok (.aload 5, 2) := dk_25 5 (dk_at dksX2_decryptBlock_5 17 rfl rfl)
theorem dX2_decryptBlock_137 : decode cX2_decryptBlock 137 = .ok (.iconst 4, 1) := dk_7 (dk_at dksX2_decryptBlock_5 19 rfl rfl)
theorem dX2_decryptBlock_138 : decode cX2_decryptBlock 138 = .ok (.iaload, 1) := dk_46 (dk_at dksX2_decryptBlock_5 20 rfl rfl)
theorem dX2_decryptBlock_139 : decode cX2_decryptBlock 139 = .ok (.iload 7, 2) := dk_21 7 (dk_at dksX2_decryptBlock_5 21 rfl rfl)
theorem dX2_decryptBlock_141 : decode cX2_decryptBlock 141 = .ok (.isub, 1) := dk_100 (dk_at dksX2_decryptBlock_5 23 rfl rfl)
theorem dX2_decryptBlock_142 : decode cX2_decryptBlock 142 = .ok (.iastore, 1) := dk_79 (dk_at dksX2_decryptBlock_6 0 rfl rfl)
theorem dX2_decryptBlock_143 : decode cX2_decryptBlock 143 = .ok (.aload 5, 2) := dk_25 5 (dk_at dksX2_decryptBlock_6 1 rfl rfl)
theorem dX2_decryptBlock_145 : decode cX2_decryptBlock 145 = .ok (.iconst 4, 1) := dk_7 (dk_at dksX2_decryptBlock_6 3 rfl rfl)
theorem dX2_decryptBlock_146 : decode cX2_decryptBlock 146 = .ok (.aload 5, 2) := dk_25 5 (dk_at dksX2_decryptBlock_6 4 rfl rfl)
theorem dX2_decryptBlock_148 : decode cX2_decryptBlock 148 = .ok (.iconst 5, 1) := dk_8 (dk_at dksX2_decryptBlock_6 6 rfl rfl)
theorem dX2_decryptBlock_149 : decode cX2_decryptBlock 149 = .ok (.iaload, 1) := dk_46 (dk_at dksX2_decryptBlock_6 7 rfl rfl)
theorem dX2_decryptBlock_150 : decode cX2_decryptBlock 150 = .ok (.iastore, 1) := dk_79 (dk_at dksX2_decryptBlock_6 8 rfl rfl)
theorem dX2_decryptBlock_151 : decode cX2_decryptBlock 151 = .ok (.aload 5, 2) := dk_25 5 (dk_at dksX2_decryptBlock_6 9 rfl rfl)
theorem dX2_decryptBlock_153 : decode cX2_decryptBlock 153 = .ok (.iconst 5, 1) := dk_8 (dk_at dksX2_decryptBlock_6 11 rfl rfl)
theorem dX2_decryptBlock_154 : decode cX2_decryptBlock 154 = .ok (.aload 5, 2) := dk_25 5 (dk_at dksX2_decryptBlock_6 12 rfl rfl)
theorem dX2_decryptBlock_156 : decode cX2_decryptBlock 156 = .ok (.bipush 6, 2) := dk_16 6 (dk_at dksX2_decryptBlock_6 14 rfl rfl)
theorem dX2_decryptBlock_158 : decode cX2_decryptBlock 158 = .ok (.iaload, 1) := dk_46 (dk_at dksX2_decryptBlock_6 16 rfl rfl)
theorem dX2_decryptBlock_159 : decode cX2_decryptBlock 159 = .ok (.iastore, 1) := dk_79 (dk_at dksX2_decryptBlock_6 17 rfl rfl)
theorem dX2_decryptBlock_160 : decode cX2_decryptBlock 160 = .ok (.aload 5, 2) := dk_25 5 (dk_at dksX2_decryptBlock_6 18 rfl rfl)
theorem dX2_decryptBlock_162 : decode cX2_decryptBlock 162 = .ok (.bipush 6, 2) := dk_16 6 (dk_at dksX2_decryptBlock_6 20 rfl rfl)
theorem dX2_decryptBlock_164 : decode cX2_decryptBlock 164 = .ok (.aload 5, 2) := dk_25 5 (dk_at dksX2_decryptBlock_6 22 rfl rfl)
theorem dX2_decryptBlock_166 : decode cX2_decryptBlock 166 = .ok (.bipush 7, 2) := dk_16 7 (dk_at dksX2_decryptBlock_7 0 rfl rfl)
theorem dX2_decryptBlock_168 : decode cX2_decryptBlock 168 = .ok (.iaload, 1) := dk_46 (dk_at dksX2_decryptBlock_7 2 rfl rfl)
theorem dX2_decryptBlock_169 : decode cX2_decryptBlock 169 = .ok (.iastore, 1) := dk_79 (dk_at dksX2_decryptBlock_7 3 rfl rfl)
theorem dX2_decryptBlock_170 : decode cX2_decryptBlock 170 = .ok (.aload 5, 2) := dk_25 5 (dk_at dksX2_decryptBlock_7 4 rfl rfl)
theorem dX2_decryptBlock_172 : decode cX2_decryptBlock 172 = .ok (.bipush 7, 2) := dk_16 7 (dk_at dksX2_decryptBlock_7 6 rfl rfl)
theorem dX2_decryptBlock_174 : decode cX2_decryptBlock 174 = .ok (.iload 7, 2) := dk_21 7 (dk_at dksX2_decryptBlock_7 8 rfl rfl)
theorem dX2_decryptBlock_176 : decode cX2_decryptBlock 176 = .ok (.getstatic 43, 3) := dk_178 0 43 (dk_at dksX2_decryptBlock_7 10 rfl rfl)
theorem dX2_decryptBlock_179 : decode cX2_decryptBlock 179 = .ok (.iload 6, 2) := dk_21 6 (dk_at dksX2_decryptBlock_7 13 rfl rfl)
theorem dX2_decryptBlock_181 : decode cX2_decryptBlock 181 = .ok (.iaload, 1) := dk_46 (dk_at dksX2_decryptBlock_7 15 rfl rfl)
theorem dX2_decryptBlock_182 : decode cX2_decryptBlock 182 = .ok (.isub, 1) := dk_100 (dk_at dksX2_decryptBlock_7 16 rfl rfl)
theorem dX2_decryptBlock_183 : decode cX2_decryptBlock 183 = .ok (.aload_n 0, 1) := dk_42 (dk_at dksX2_decryptBlock_7 17 rfl rfl)
theorem dX2_decryptBlock_184 : decode cX2_decryptBlock 184 = .ok (.getfield 13, 3) := dk_180 0 13 (dk_at dksX2_decryptBlock_7 18 rfl rfl)
theorem dX2_decryptBlock_187 : decode cX2_decryptBlock 187 = .ok (.iload 6, 2) := dk_21 6 (dk_at dksX2_decryptBlock_7 21 rfl rfl)
theorem dX2_decryptBlock_189 : decode cX2_decryptBlock 189 = .ok (.iaload, 1) := dk_46 (dk_at dksX2_decryptBlock_7 23 rfl rfl)
theorem dX2_decryptBlock_190 : decode cX2_decryptBlock 190 = .ok (.isub, 1) := dk_100 (dk_at dksX2_decryptBlock_8 0 rfl rfl)
theorem dX2_decryptBlock_191 : decode cX2_decryptBlock 191 = .ok (.aload 5, 2) := dk_25 5 (dk_at dksX2_decryptBlock_8 1 rfl rfl)
theorem dX2_decryptBlock_193 : decode cX2_decryptBlock 193 = .ok (.iconst 4, 1) := dk_7 (dk_at dksX2_decryptBlock_8 3 rfl rfl)
theorem dX2_decryptBlock_194 : decode cX2_decryptBlock 194 = .ok (.iaload, 1) := dk_46 (dk_at dksX2_decryptBlock_8 4 rfl rfl)
theorem dX2_decryptBlock_195 : decode cX2_decryptBlock 195 = .ok (.bipush 6, 2) := dk_16 6 (dk_at dksX2_decryptBlock_8 5 rfl rfl)
theorem dX2_decryptBlock_197 : decode cX2_decryptBlock 197 = .ok (.iushr, 1) := dk_124 (dk_at dksX2_decryptBlock_8 7 rfl rfl)
theorem dX2_decryptBlock_198 : decode cX2_decryptBlock 198 = .ok (.aload 5, 2) := dk_25 5 (dk_at dksX2_decryptBlock_8 8 rfl rfl)
theorem dX2_decryptBlock_200 : decode cX2_decryptBlock 200 = .ok (.iconst 4, 1) := dk_7 (dk_at dksX2_decryptBlock_8 10 rfl rfl)
theorem dX2_decryptBlock_201 : decode cX2_decryptBlock 201 = .ok (.iaload, 1) := dk_46 (dk_at dksX2_decryptBlock_8 11 rfl rfl)
theorem dX2_decryptBlock_202 : decode cX2_decryptBlock 202 = .ok (.bipush (-6), 2) := dk_16 250 (dk_at dksX2_decryptBlock_8 12 rfl rfl)
theorem dX2_decryptBlock_204 : decode cX2_decryptBlock 204 = .ok (.ishl, 1) := dk_120 (dk_at dksX2_decryptBlock_8 14 rfl rfl)
theorem dX2_decryptBlock_205 : decode cX2_decryptBlock 205 = .ok (.ior, 1) := dk_128 (dk_at dksX2_decryptBlock_8 15 rfl rfl)
theorem dX2_decryptBlock_206 : decode cX2_decryptBlock 206 = .ok (.aload 5, 2) := dk_25 5 (dk_at dksX2_decryptBlock_8 16 rfl rfl)
theorem dX2_decryptBlock_208 : decode cX2_decryptBlock 208 = .ok (.iconst 4, 1) := dk_7 (dk_at dksX2_decryptBlock_8 18 rfl rfl)
theorem dX2_decryptBlock_209 : decode cX2_decryptBlock 209 = .ok (.iaload, 1) := dk_46 (dk_at dksX2_decryptBlock_8 19 rfl rfl)
theorem dX2_decryptBlock_210 : decode cX2_decryptBlock 210 = .ok (.bipush 11, 2) := dk_16 11 (dk_at dksX2_decryptBlock_8 20 rfl rfl)
theorem dX2_decryptBlock_212 : decode cX2_decryptBlock 212 = .ok (.iushr, 1) := dk_124 (dk_at dksX2_decryptBlock_8 22 rfl rfl)
theorem dX2_decryptBlock_213 : decode cX2_decryptBlock 213 = .ok (.aload 5, 2) := dk_25 5 (dk_at dksX2_decryptBlock_9 0 rfl rfl)
theorem dX2_decryptBlock_215 : decode cX2_decryptBlock 215 = .ok (.iconst 4, 1) := dk_7 (dk_at dksX2_decryptBlock_9 2 rfl rfl)
theorem dX2_decryptBlock_216 : decode cX2_decryptBlock 216 = .ok (.iaload, 1) := dk_46 (dk_at dksX2_decryptBlock_9 3 rfl rfl)
theorem dX2_decryptBlock_217 : decode cX2_decryptBlock 217 = .ok (.bipush (-11), 2) := dk_16 245 (dk_at dksX2_decryptBlock_9 4 rfl rfl)
theorem dX2_decryptBlock_219 : decode cX2_decryptBlock 219 = .ok (.ishl, 1) := dk_120 (dk_at dksX2_decryptBlock_9 6 rfl rfl)
theorem dX2_decryptBlock_220 : decode cX2_decryptBlock 220 = .ok (.ior, 1) := dk_128 (dk_at dksX2_decryptBlock_9 7 rfl rfl)
theorem dX2_decryptBlock_221 : decode cX2_decryptBlock 221 = .ok (.ixor, 1) := dk_130 (dk_at dksX2_decryptBlock_9 8 rfl rfl)
theorem dX2_decryptBlock_222 : decode cX2_decryptBlock 222 = .ok (.aload 5, 2) := dk_25 5 (dk_at dksX2_decryptBlock_9 9 rfl rfl)
theorem dX2_decryptBlock_224 : decode cX2_decryptBlock 224 = .ok (.iconst 4, 1) := dk_7 (dk_at dksX2_decryptBlock_9 11 rfl rfl)
theorem dX2_decryptBlock_225 : decode cX2_decryptBlock 225 = .ok (.iaload, 1) := dk_46 (dk_at dksX2_decryptBlock_9 12 rfl rfl)
theorem dX2_decryptBlock_226 : decode cX2_decryptBlock 226 = .ok (.bipush 25, 2) := dk_16 25 (dk_at dksX2_decryptBlock_9 13 rfl rfl)
theorem dX2_decryptBlock_228 : decode cX2_decryptBlock 228 = .ok (.iushr, 1) := dk_124 (dk_at dksX2_decryptBlock_9 15 rfl rfl)
theorem dX2_decryptBlock_229 : decode cX2_decryptBlock 229 = .ok (.aload 5, 2) := dk_25 5 (dk_at dksX2_decryptBlock_9 16 rfl rfl)
theorem dX2_decryptBlock_231 : decode cX2_decryptBlock 231 = .ok (.iconst 4, 1) := dk_7 (dk_at dksX2_decryptBlock_9 18 rfl rfl)
theorem dX2_decryptBlock_232 : decode cX2_decryptBlock 232 = .ok (.iaload, 1) := dk_46 (dk_at dksX2_decryptBlock_9 19 rfl rfl)
theorem dX2_decryptBlock_233 : decode cX2_decryptBlock 233 = .ok (.bipush (-25), 2) := dk_16 231 (dk_at dksX2_decryptBlock_9 20 rfl rfl)
theorem dX2_decryptBlock_235 : decode cX2_decryptBlock 235 = .ok (.ishl, 1) := dk_120 (dk_at dksX2_decryptBlock_9 22 rfl rfl)
theorem dX2_decryptBlock_236 : decode cX2_decryptBlock 236 = .ok (.ior, 1) := dk_128 (dk_at dksX2_decryptBlock_9 23 rfl rfl)
theorem dX2_decryptBlock_237 : decode cX2_decryptBlock 237 = .ok (.ixor, 1) := dk_130 (dk_at dksX2_decryptBlock_10 0 rfl rfl)
theorem dX2_decryptBlock_238 : decode cX2_decryptBlock 238 = .ok (.isub, 1) := dk_100 (dk_at dksX2_decryptBlock_10 1 rfl rfl)
theorem dX2_decryptBlock_239 : decode cX2_decryptBlock 239 = .ok (.aload 5, 2) := dk_25 5 (dk_at dksX2_decryptBlock_10 2 rfl rfl)
theorem dX2_decryptBlock_241 : decode cX2_decryptBlock 241 = .ok (.iconst 4, 1) := dk_7 (dk_at dksX2_decryptBlock_10 4 rfl rfl)
theorem dX2_decryptBlock_242 : decode cX2_decryptBlock 242 = .ok (.iaload, 1) := dk_46 (dk_at dksX2_decryptBlock_10 5 rfl rfl)
theorem dX2_decryptBlock_243 : decode cX2_decryptBlock 243 = .ok (.aload 5, 2) := dk_25 5 (dk_at dksX2_decryptBlock_10 6 rfl rfl)
theorem dX2_decryptBlock_245 : decode cX2_decryptBlock 245 = .ok (.iconst 5, 1) := dk_8 (dk_at dksX2_decryptBlock_10 8 rfl rfl)
theorem dX2_decryptBlock_246 : decode cX2_decryptBlock 246 = .ok (.iaload, 1) := dk_46 (dk_at dksX2_decryptBlock_10 9 rfl rfl)
theorem dX2_decryptBlock_247 : decode cX2_decryptBlock 247 = .ok (.iand, 1) := dk_126 (dk_at dksX2_decryptBlock_10 10 rfl rfl)
theorem dX2_decryptBlock_248 : decode cX2_decryptBlock 248 = .ok (.aload 5, 2) := dk_25 5 (dk_at dksX2_decryptBlock_10 11 rfl rfl)
theorem dX2_decryptBlock_250 : decode cX2_decryptBlock 250 = .ok (.iconst 4, 1) := dk_7 (dk_at dksX2_decryptBlock_10 13 rfl rfl)
theorem dX2_decryptBlock_251 : decode cX2_decryptBlock 251 = .ok (.iaload, 1) := dk_46 (dk_at dksX2_decryptBlock_10 14 rfl rfl)
theorem dX2_decryptBlock_252 : decode cX2_decryptBlock 252 = .ok (.iconst (-1), 1) := dk_2 (dk_at dksX2_decryptBlock_10 15 rfl rfl)
theorem dX2_decryptBlock_253 : decode cX2_decryptBlock 253 = .ok (.ixor, 1) := dk_130 (dk_at dksX2_decryptBlock_10 16 rfl rfl)
theorem dX2_decryptBlock_254 : decode cX2_decryptBlock 254 = .ok (.aload 5, 2) := dk_25 5 (dk_at dksX2_decryptBlock_10 17 rfl rfl)
theorem dX2_decryptBlock_256 : decode cX2_decryptBlock 256 = .ok (.bipush 6, 2) := dk_16 6 (dk_at dksX2_decryptBlock_10 19 rfl rfl)
theorem dX2_decryptBlock_258 : decode cX2_decryptBlock 258 = .ok (.iaload, 1) := dk_46 (dk_at dksX2_decryptBlock_10 21 rfl rfl)
theorem dX2_decryptBlock_259 : decode cX2_decryptBlock 259 = .ok (.iand, 1) := dk_126 (dk_at dksX2_decryptBlock_10 22 rfl rfl)
theorem dX2_decryptBlock_260 : decode cX2_decryptBlock 260 = .ok (.ixor, 1) := dk_130 (dk_at dksX2_decryptBlock_10 23 rfl rfl)
theorem dX2_decryptBlock_261 : decode cX2_decryptBlock 261 = .ok (.isub, 1) := dk_100 (dk_at dksX2_decryptBlock_11 0 rfl rfl)
theorem dX2_decryptBlock_262 : decode cX2_decryptBlock 262 = .ok (.iastore, 1) := dk_79 (dk_at dksX2_decryptBlock_11 1 rfl rfl)
theorem dX2_decryptBlock_263 : decode cX2_decryptBlock 263 = .ok (.iinc 6 (-1), 3) := dk_132 6 255 (dk_at dksX2_decryptBlock_11 2 rfl rfl)
theorem dX2_decryptBlock_266 : decode cX2_decryptBlock 266 = .ok (.goto (-247), 3) := dk_167 255 9 (dk_at dksX2_decryptBlock_11 5 rfl rfl)
theorem dX2_decryptBlock_269 : decode cX2_decryptBlock 269 = .ok (.aload_n 0, 1) := dk_42 (dk_at dksX2_decryptBlock_11 8 rfl rfl)
theorem dX2_decryptBlock_270 : decode cX2_decryptBlock 270 = .ok (.aload 5, 2) := dk_25 5 (dk_at dksX2_decryptBlock_11 9 rfl rfl)
theorem dX2_decryptBlock_272 : decode cX2_decryptBlock 272 = .ok (.aload_n 3, 1) := dk_45 (dk_at dksX2_decryptBlock_11 11 rfl rfl)
theorem dX2_decryptBlock_273 : decode cX2_decryptBlock 273 = .ok (.iload 4, 2) := dk_21 4 (dk_at dksX2_decryptBlock_11 12 rfl rfl)
theorem dX2_decryptBlock_275 : decode cX2_decryptBlock 275 = .ok (.invokevirtual 46, 3) := dk_182 0 46 (dk_at dksX2_decryptBlock_11 14 rfl rfl)
theorem dX2_decryptBlock_278 : decode cX2_decryptBlock 278 = .ok (.return_, 1) := dk_177 (dk_at dksX2_decryptBlock_11 17 rfl rfl)
theorem q12 : (Jvm.Cond.initialized "Shacal2Engine") ∈ lw_all := lw_g (lw_at lw_m1 3 rfl) rfl
theorem q62 : (Jvm.Cond.instantiable "Shacal2Engine" (2 : Nat)) ∈ lw_all := lw_g (lw_at lw_m1 53 rfl) rfl
theorem q64 : (Jvm.Cond.instanceMethod ({ cls := "Shacal2Engine", name := "<init>", desc := "()V" } : Jvm.MethodName)) ∈ lw_all := lw_g (lw_at lw_m1 55 rfl) rfl
theorem q65 : (Jvm.Cond.code ({ cls := "Shacal2Engine", name := "<init>", desc := "()V" } : Jvm.MethodName) prog_7_method_1_code (1 : Nat) (Option.none : Option Jvm.ClassFile.FieldType)) ∈ lw_all := lw_g (lw_at lw_m1 56 rfl) rfl
theorem q66 : (Jvm.Cond.methodLink "Shacal2Engine" (1 : Nat) ({ cls := "java/lang/Object", name := "<init>", desc := "()V" } : Jvm.MethodName)) ∈ lw_all := lw_g (lw_at lw_m1 57 rfl) rfl
theorem q67 : (Jvm.Cond.fieldLink "Shacal2Engine" (7 : Nat) "Shacal2Engine" "forEncryption" "Z") ∈ lw_all := lw_g (lw_at lw_m1 58 rfl) rfl
theorem q68 : (Jvm.Cond.fieldLink "Shacal2Engine" (13 : Nat) "Shacal2Engine" "workingKey" "[I") ∈ lw_all := lw_g (lw_at lw_m1 59 rfl) rfl
theorem q69 : (Jvm.Cond.lays "Shacal2Engine" "Shacal2Engine" "forEncryption" "Z") ∈ lw_all := lw_g (lw_at lw_m1 60 rfl) rfl
theorem q70 : (Jvm.Cond.soleField "Shacal2Engine" "forEncryption") ∈ lw_all := lw_g (lw_at lw_m1 61 rfl) rfl
theorem q71 : (Jvm.Cond.lays "Shacal2Engine" "Shacal2Engine" "workingKey" "[I") ∈ lw_all := lw_g (lw_at lw_m1 62 rfl) rfl
theorem q72 : (Jvm.Cond.soleField "Shacal2Engine" "workingKey") ∈ lw_all := lw_g (lw_at lw_m1 63 rfl) rfl
theorem q73 : (Jvm.Cond.superclass "Shacal2Engine" "java/lang/Object") ∈ lw_all := lw_g (lw_at lw_m1 64 rfl) rfl
theorem q97 : (Jvm.Cond.castable "Shacal2Engine" "BlockCipher") ∈ lw_tbl := lw_at lw_m1 88 rfl
theorem q98 : (Jvm.Cond.selects "Shacal2Engine" ({ cls := "BlockCipher", name := "init", desc := "(ZLCipherParameters;)V" } : Jvm.MethodName) ({ cls := "Shacal2Engine", name := "init", desc := "(ZLCipherParameters;)V" } : Jvm.MethodName)) ∈ lw_all := lw_g (lw_at lw_m1 89 rfl) rfl
theorem q99 : (Jvm.Cond.unhidden "Shacal2Engine" "init" "(ZLCipherParameters;)V") ∈ lw_tbl := lw_at lw_m1 90 rfl
theorem q100 : (Jvm.Cond.instanceMethod ({ cls := "Shacal2Engine", name := "init", desc := "(ZLCipherParameters;)V" } : Jvm.MethodName)) ∈ lw_all := lw_g (lw_at lw_m1 91 rfl) rfl
theorem q101 : (Jvm.Cond.publicMethod ({ cls := "Shacal2Engine", name := "init", desc := "(ZLCipherParameters;)V" } : Jvm.MethodName)) ∈ lw_tbl := lw_at lw_m1 92 rfl
theorem q102 : (Jvm.Cond.code ({ cls := "Shacal2Engine", name := "init", desc := "(ZLCipherParameters;)V" } : Jvm.MethodName) prog_7_method_2_code (5 : Nat) (Option.none : Option Jvm.ClassFile.FieldType)) ∈ lw_all := lw_g (lw_at lw_m1 93 rfl) rfl
theorem q103 : (Jvm.Cond.classLink "Shacal2Engine" (17 : Nat) "KeyParameter") ∈ lw_all := lw_g (lw_at lw_m1 94 rfl) rfl
theorem q104 : (Jvm.Cond.classLink "Shacal2Engine" (19 : Nat) "java/lang/IllegalArgumentException") ∈ lw_all := lw_g (lw_at lw_m1 95 rfl) rfl
theorem q146 : (Jvm.Cond.stringRef "Shacal2Engine" (21 : Nat) "only simple KeyParameter expected.") ∈ lw_tbl := lw_at lw_m1 137 rfl
theorem q147 : (Jvm.Cond.methodLink "Shacal2Engine" (23 : Nat) ({ cls := "java/lang/IllegalArgumentException", name := "<init>", desc := "(Ljava/lang/String;)V" } : Jvm.MethodName)) ∈ lw_all := lw_g (lw_at lw_m1 138 rfl) rfl
theorem q172 : (Jvm.Cond.methodLink "Shacal2Engine" (26 : Nat) ({ cls := "KeyParameter", name := "getKey", desc := "()[B" } : Jvm.MethodName)) ∈ lw_all := lw_g (lw_at lw_m1 163 rfl) rfl
theorem q176 : (Jvm.Cond.methodLink "Shacal2Engine" (30 : Nat) ({ cls := "Shacal2Engine", name := "setKey", desc := "([B)V" } : Jvm.MethodName)) ∈ lw_all := lw_g (lw_at lw_m1 167 rfl) rfl
theorem q177 : (Jvm.Cond.instanceMethod ({ cls := "Shacal2Engine", name := "setKey", desc := "([B)V" } : Jvm.MethodName)) ∈ lw_all := lw_g (lw_at lw_m1 168 rfl) rfl
theorem q178 : (Jvm.Cond.selects "Shacal2Engine" ({ cls := "Shacal2Engine", name := "setKey", desc := "([B)V" } : Jvm.MethodName) ({ cls := "Shacal2Engine", name := "setKey", desc := "([B)V" } : Jvm.MethodName)) ∈ lw_all := lw_g (lw_at lw_m1 169 rfl) rfl
theorem q179 : (Jvm.Cond.code ({ cls := "Shacal2Engine", name := "setKey", desc := "([B)V" } : Jvm.MethodName) prog_7_method_3_code (3 : Nat) (Option.none : Option Jvm.ClassFile.FieldType)) ∈ lw_all := lw_g (lw_at lw_m1 170 rfl) rfl
theorem q180 : (Jvm.Cond.stringRef "Shacal2Engine" (34 : Nat) "Shacal2-key must be 16 - 64 bytes and multiple of 8") ∈ lw_tbl := lw_at lw_m1 171 rfl
theorem q181 : (Jvm.Cond.methodLink "Shacal2Engine" (36 : Nat) ({ cls := "Shacal2Engine", name := "bytes2ints", desc := "([B[III)V" } : Jvm.MethodName)) ∈ lw_all := lw_g (lw_at lw_m1 172 rfl) rfl
theorem q182 : (Jvm.Cond.privateMethod ({ cls := "Shacal2Engine", name := "bytes2ints", desc := "([B[III)V" } : Jvm.MethodName)) ∈ lw_tbl := lw_at lw_m1 173 rfl
theorem q183 : (Jvm.Cond.instanceMethod ({ cls := "Shacal2Engine", name := "bytes2ints", desc := "([B[III)V" } : Jvm.MethodName)) ∈ lw_all := lw_g (lw_at lw_m1 174 rfl) rfl
theorem q184 : (Jvm.Cond.code ({ cls := "Shacal2Engine", name := "bytes2ints", desc := "([B[III)V" } : Jvm.MethodName) prog_7_method_8_code (6 : Nat) (Option.none : Option Jvm.ClassFile.FieldType)) ∈ lw_all := lw_g (lw_at lw_m1 175 rfl) rfl
theorem q189 : (Jvm.Cond.selects "Shacal2Engine" ({ cls := "BlockCipher", name := "processBlock", desc := "([BI[BI)I" } : Jvm.MethodName) ({ cls := "Shacal2Engine", name := "processBlock", desc := "([BI[BI)I" } : Jvm.MethodName)) ∈ lw_all := lw_g (lw_at lw_m1 180 rfl) rfl
theorem q190 : (Jvm.Cond.unhidden "Shacal2Engine" "processBlock" "([BI[BI)I") ∈ lw_tbl := lw_at lw_m1 181 rfl
theorem q191 : (Jvm.Cond.instanceMethod ({ cls := "Shacal2Engine", name := "processBlock", desc := "([BI[BI)I" } : Jvm.MethodName)) ∈ lw_all := lw_g (lw_at lw_m1 182 rfl) rfl
theorem q192 : (Jvm.Cond.publicMethod ({ cls := "Shacal2Engine", name := "processBlock", desc := "([BI[BI)I" } : Jvm.MethodName)) ∈ lw_tbl := lw_at lw_m1 183 rfl
theorem q193 : (Jvm.Cond.code ({ cls := "Shacal2Engine", name := "processBlock", desc := "([BI[BI)I" } : Jvm.MethodName) prog_7_method_6_code (5 : Nat) (Option.some Jvm.ClassFile.FieldType.int)) ∈ lw_all := lw_g (lw_at lw_m1 184 rfl) rfl
theorem q194 : (Jvm.Cond.classLink "Shacal2Engine" (50 : Nat) "java/lang/IllegalStateException") ∈ lw_all := lw_g (lw_at lw_m1 185 rfl) rfl
theorem q203 : (Jvm.Cond.stringRef "Shacal2Engine" (52 : Nat) "Shacal2 not initialised") ∈ lw_tbl := lw_at lw_m1 194 rfl
theorem q204 : (Jvm.Cond.methodLink "Shacal2Engine" (54 : Nat) ({ cls := "java/lang/IllegalStateException", name := "<init>", desc := "(Ljava/lang/String;)V" } : Jvm.MethodName)) ∈ lw_all := lw_g (lw_at lw_m1 195 rfl) rfl
theorem q211 : (Jvm.Cond.classLink "Shacal2Engine" (55 : Nat) "DataLengthException") ∈ lw_all := lw_g (lw_at lw_m1 202 rfl) rfl
theorem q221 : (Jvm.Cond.stringRef "Shacal2Engine" (57 : Nat) "input buffer too short") ∈ lw_tbl := lw_at lw_m1 212 rfl
theorem q222 : (Jvm.Cond.methodLink "Shacal2Engine" (59 : Nat) ({ cls := "DataLengthException", name := "<init>", desc := "(Ljava/lang/String;)V" } : Jvm.MethodName)) ∈ lw_all := lw_g (lw_at lw_m1 213 rfl) rfl
theorem q231 : (Jvm.Cond.classLink "Shacal2Engine" (60 : Nat) "OutputLengthException") ∈ lw_all := lw_g (lw_at lw_m1 222 rfl) rfl
theorem q241 : (Jvm.Cond.stringRef "Shacal2Engine" (62 : Nat) "output buffer too short") ∈ lw_tbl := lw_at lw_m1 232 rfl
theorem q242 : (Jvm.Cond.methodLink "Shacal2Engine" (64 : Nat) ({ cls := "OutputLengthException", name := "<init>", desc := "(Ljava/lang/String;)V" } : Jvm.MethodName)) ∈ lw_all := lw_g (lw_at lw_m1 233 rfl) rfl
theorem q248 : (Jvm.Cond.methodLink "Shacal2Engine" (65 : Nat) ({ cls := "Shacal2Engine", name := "encryptBlock", desc := "([BI[BI)V" } : Jvm.MethodName)) ∈ lw_all := lw_g (lw_at lw_m1 239 rfl) rfl
theorem q249 : (Jvm.Cond.privateMethod ({ cls := "Shacal2Engine", name := "encryptBlock", desc := "([BI[BI)V" } : Jvm.MethodName)) ∈ lw_tbl := lw_at lw_m2 0 rfl
theorem q250 : (Jvm.Cond.instanceMethod ({ cls := "Shacal2Engine", name := "encryptBlock", desc := "([BI[BI)V" } : Jvm.MethodName)) ∈ lw_all := lw_g (lw_at lw_m2 1 rfl) rfl
theorem q251 : (Jvm.Cond.code ({ cls := "Shacal2Engine", name := "encryptBlock", desc := "([BI[BI)V" } : Jvm.MethodName) prog_7_method_4_code (8 : Nat) (Option.none : Option Jvm.ClassFile.FieldType)) ∈ lw_all := lw_g (lw_at lw_m2 2 rfl) rfl
theorem q252 : (Jvm.Cond.methodLink "Shacal2Engine" (40 : Nat) ({ cls := "Shacal2Engine", name := "byteBlockToInts", desc := "([B[III)V" } : Jvm.MethodName)) ∈ lw_all := lw_g (lw_at lw_m2 3 rfl) rfl
theorem q253 : (Jvm.Cond.privateMethod ({ cls := "Shacal2Engine", name := "byteBlockToInts", desc := "([B[III)V" } : Jvm.MethodName)) ∈ lw_tbl := lw_at lw_m2 4 rfl
theorem q254 : (Jvm.Cond.instanceMethod ({ cls := "Shacal2Engine", name := "byteBlockToInts", desc := "([B[III)V" } : Jvm.MethodName)) ∈ lw_all := lw_g (lw_at lw_m2 5 rfl) rfl
theorem q255 : (Jvm.Cond.code ({ cls := "Shacal2Engine", name := "byteBlockToInts", desc := "([B[III)V" } : Jvm.MethodName) prog_7_method_7_code (6 : Nat) (Option.none : Option Jvm.ClassFile.FieldType)) ∈ lw_all := lw_g (lw_at lw_m2 6 rfl) rfl
theorem q256 : (Jvm.Cond.fieldLink "Shacal2Engine" (43 : Nat) "Shacal2Engine" "K" "[I") ∈ lw_all := lw_g (lw_at lw_m2 7 rfl) rfl
theorem q257 : (Jvm.Cond.laysStatic "Shacal2Engine" "K" "[I") ∈ lw_tbl := lw_at lw_m2 8 rfl
theorem q258 : (Jvm.Cond.methodLink "Shacal2Engine" (46 : Nat) ({ cls := "Shacal2Engine", name := "ints2bytes", desc := "([I[BI)V" } : Jvm.MethodName)) ∈ lw_all := lw_g (lw_at lw_m2 9 rfl) rfl
theorem q259 : (Jvm.Cond.privateMethod ({ cls := "Shacal2Engine", name := "ints2bytes", desc := "([I[BI)V" } : Jvm.MethodName)) ∈ lw_tbl := lw_at lw_m2 10 rfl
theorem q260 : (Jvm.Cond.instanceMethod ({ cls := "Shacal2Engine", name := "ints2bytes", desc := "([I[BI)V" } : Jvm.MethodName)) ∈ lw_all := lw_g (lw_at lw_m2 11 rfl) rfl
theorem q261 : (Jvm.Cond.code ({ cls := "Shacal2Engine", name := "ints2bytes", desc := "([I[BI)V" } : Jvm.MethodName) prog_7_method_9_code (5 : Nat) (Option.none : Option Jvm.ClassFile.FieldType)) ∈ lw_all := lw_g (lw_at lw_m2 12 rfl) rfl
theorem q262 : (Jvm.Cond.methodLink "Shacal2Engine" (69 : Nat) ({ cls := "Shacal2Engine", name := "decryptBlock", desc := "([BI[BI)V" } : Jvm.MethodName)) ∈ lw_all := lw_g (lw_at lw_m2 13 rfl) rfl
theorem q263 : (Jvm.Cond.privateMethod ({ cls := "Shacal2Engine", name := "decryptBlock", desc := "([BI[BI)V" } : Jvm.MethodName)) ∈ lw_tbl := lw_at lw_m2 14 rfl
theorem q264 : (Jvm.Cond.instanceMethod ({ cls := "Shacal2Engine", name := "decryptBlock", desc := "([BI[BI)V" } : Jvm.MethodName)) ∈ lw_all := lw_g (lw_at lw_m2 15 rfl) rfl
theorem q265 : (Jvm.Cond.code ({ cls := "Shacal2Engine", name := "decryptBlock", desc := "([BI[BI)V" } : Jvm.MethodName) prog_7_method_5_code (8 : Nat) (Option.none : Option Jvm.ClassFile.FieldType)) ∈ lw_all := lw_g (lw_at lw_m2 16 rfl) rfl
theorem in_X2 : ∀ w ∈ wsX20, w ∈ lw_all := lw_in wsX20 [69, 71] (by decide +kernel) (by decide +kernel)
end
section
/-! the law's own entry -/
set_option maxRecDepth 100000
abbrev cL_law : ByteArray := code
def dkwL_law_11 : List UInt8 := [46, 182, 0, 39, 159, 0, 5, 3, 172, 132, 3, 6, 167, 255, 1, 4, 172]
abbrev dktL_law_11 : List UInt8 := dkwL_law_11 ++ []
def dkwL_law_10 : List UInt8 := [182, 0, 31, 44, 182, 0, 34, 167, 0, 26, 43, 42, 29, 4, 96, 46, 182, 0, 35, 44, 42, 29, 4, 96]
abbrev dktL_law_10 : List UInt8 := dkwL_law_10 ++ dktL_law_11
def dkwL_law_9 : List UInt8 := [43, 42, 29, 4, 96, 46, 182, 0, 27, 44, 42, 29, 4, 96, 46, 182, 0, 30, 167, 0, 37, 43]
abbrev dktL_law_9 : List UInt8 := dkwL_law_9 ++ dktL_law_10
def dkwL_law_8 : List UInt8 := [167, 0, 79, 43, 42, 29, 4, 96, 46, 182, 0, 22, 44, 42, 29, 4, 96, 46, 182, 0, 26, 167, 0, 58]
abbrev dktL_law_8 : List UInt8 := dkwL_law_8 ++ dktL_law_9
def dkwL_law_7 : List UInt8 := [42, 29, 5, 96, 46, 42, 29, 6, 96, 46, 42, 29, 7, 96, 46, 42, 29, 8, 96, 46, 182, 0, 21]
abbrev dktL_law_7 : List UInt8 := dkwL_law_7 ++ dktL_law_8
def dkwL_law_6 : List UInt8 := [42, 29, 6, 96, 46, 42, 29, 7, 96, 46, 42, 29, 8, 96, 46, 182, 0, 18, 44, 42, 29, 4, 96, 46]
abbrev dktL_law_6 : List UInt8 := dkwL_law_6 ++ dktL_law_7
def dkwL_law_5 : List UInt8 := [96, 46, 42, 29, 8, 96, 46, 182, 0, 17, 167, 0, 140, 43, 42, 29, 4, 96, 46, 42, 29, 5, 96, 46]
abbrev dktL_law_5 : List UInt8 := dkwL_law_5 ++ dktL_law_6
def dkwL_law_4 : List UInt8 := [96, 46, 182, 0, 13, 44, 42, 29, 4, 96, 46, 42, 29, 5, 96, 46, 42, 29, 6, 96, 46, 42, 29, 7]
abbrev dktL_law_4 : List UInt8 := dkwL_law_4 ++ dktL_law_5
def dkwL_law_3 : List UInt8 := [43, 42, 29, 4, 96, 46, 42, 29, 5, 96, 46, 42, 29, 6, 96, 46, 42, 29, 7, 96, 46, 42, 29, 8]
abbrev dktL_law_3 : List UInt8 := dkwL_law_3 ++ dktL_law_4
def dkwL_law_2 : List UInt8 := [170, 0, 0, 0, 0, 0, 237, 0, 0, 0, 0, 0, 0, 0, 5, 0, 0, 0, 39, 0, 0, 0, 100, 0, 0, 0, 161, 0, 0, 0, 182, 0, 0, 0, 203, 0, 0, 0, 214]
abbrev dktL_law_2 : List UInt8 := dkwL_law_2 ++ dktL_law_3
def dkwL_law_1 : List UInt8 := [163, 0, 252, 42, 29, 46, 16, 7, 126]
abbrev dktL_law_1 : List UInt8 := dkwL_law_1 ++ dktL_law_2
def dkwL_law_0 : List UInt8 := [187, 0, 7, 89, 183, 0, 9, 76, 187, 0, 10, 89, 183, 0, 12, 77, 3, 62, 29, 42, 190, 16, 6, 100]
abbrev dktL_law_0 : List UInt8 := dkwL_law_0 ++ dktL_law_1
theorem dksL_law_0 : cL_law.data.toList.drop 0 = dktL_law_0 := by decide +kernel
theorem dksL_law_1 : cL_law.data.toList.drop 24 = dktL_law_1 := dk_seg dksL_law_0 24 rfl rfl
theorem dksL_law_2 : cL_law.data.toList.drop 33 = dktL_law_2 := dk_seg dksL_law_1 9 rfl rfl
theorem dksL_law_3 : cL_law.data.toList.drop 72 = dktL_law_3 := dk_seg dksL_law_2 39 rfl rfl
theorem dksL_law_4 : cL_law.data.toList.drop 96 = dktL_law_4 := dk_seg dksL_law_3 24 rfl rfl
theorem dksL_law_5 : cL_law.data.toList.drop 120 = dktL_law_5 := dk_seg dksL_law_4 24 rfl rfl
theorem dksL_law_6 : cL_law.data.toList.drop 144 = dktL_law_6 := dk_seg dksL_law_5 24 rfl rfl
theorem dksL_law_7 : cL_law.data.toList.drop 168 = dktL_law_7 := dk_seg dksL_law_6 24 rfl rfl
theorem dksL_law_8 : cL_law.data.toList.drop 191 = dktL_law_8 := dk_seg dksL_law_7 23 rfl rfl
theorem dksL_law_9 : cL_law.data.toList.drop 215 = dktL_law_9 := dk_seg dksL_law_8 24 rfl rfl
theorem dksL_law_10 : cL_law.data.toList.drop 237 = dktL_law_10 := dk_seg dksL_law_9 22 rfl rfl
theorem dksL_law_11 : cL_law.data.toList.drop 261 = dktL_law_11 := dk_seg dksL_law_10 24 rfl rfl
theorem dL_law_0 : decode cL_law 0 = .ok (.new 7, 3) := dk_187 0 7 (dk_at dksL_law_0 0 rfl rfl)
theorem dL_law_3 : decode cL_law 3 = .ok (.dup, 1) := dk_89 (dk_at dksL_law_0 3 rfl rfl)
theorem dL_law_4 : decode cL_law 4 = .ok (.invokespecial 9, 3) := dk_183 0 9 (dk_at dksL_law_0 4 rfl rfl)
theorem dL_law_7 : decode cL_law 7 = .ok (.astore_n 1, 1) := dk_76 (dk_at dksL_law_0 7 rfl rfl)
theorem dL_law_8 : decode cL_law 8 = .ok (.new 10, 3) := dk_187 0 10 (dk_at dksL_law_0 8 rfl rfl)
theorem dL_law_11 : decode cL_law 11 = .ok (.dup, 1) := dk_89 (dk_at dksL_law_0 11 rfl rfl)
theorem dL_law_12 : decode cL_law 12 = .ok (.invokespecial 12, 3) := dk_183 0 12 (dk_at dksL_law_0 12 rfl rfl)
theorem dL_law_15 : decode cL_law 15 = .ok (.astore_n 2, 1) := dk_77 (dk_at dksL_law_0 15 rfl rfl)
theorem dL_law_16 : decode cL_law 16 = .ok (.iconst 0, 1) := dk_3 (dk_at dksL_law_0 16 rfl rfl)
theorem dL_law_17 : decode cL_law 17 = .ok (.istore_n 3, 1) := dk_62 (dk_at dksL_law_0 17 rfl rfl)
theorem dL_law_18 : decode cL_law 18 = .ok (.iload_n 3, 1) := dk_29 (dk_at dksL_law_0 18 rfl rfl)
theorem dL_law_19 : decode cL_law 19 = .ok (.aload_n 0, 1) := dk_42 (dk_at dksL_law_0 19 rfl rfl)
theorem dL_law_20 : decode cL_law 20 = .ok (.arraylength, 1) := dk_190 (dk_at dksL_law_0 20 rfl rfl)
theorem dL_law_21 : decode cL_law 21 = .ok (.bipush 6, 2) := dk_16 6 (dk_at dksL_law_0 21 rfl rfl)
theorem dL_law_23 : decode cL_law 23 = .ok (.isub, 1) := dk_100 (dk_at dksL_law_0 23 rfl rfl)
theorem dL_law_24 : decode cL_law 24 = .ok (.if_icmp .gt 252, 3) := dk_163 0 252 (dk_at dksL_law_1 0 rfl rfl)
theorem dL_law_27 : decode cL_law 27 = .ok (.aload_n 0, 1) := dk_42 (dk_at dksL_law_1 3 rfl rfl)
theorem dL_law_28 : decode cL_law 28 = .ok (.iload_n 3, 1) := dk_29 (dk_at dksL_law_1 4 rfl rfl)
theorem dL_law_29 : decode cL_law 29 = .ok (.iaload, 1) := dk_46 (dk_at dksL_law_1 5 rfl rfl)
theorem dL_law_30 : decode cL_law 30 = .ok (.bipush 7, 2) := dk_16 7 (dk_at dksL_law_1 6 rfl rfl)
theorem dL_law_32 : decode cL_law 32 = .ok (.iand, 1) := dk_126 (dk_at dksL_law_1 8 rfl rfl)
theorem dL_law_33 : decode cL_law 33 = .ok (.tableswitch 237 0 5 #[39, 100, 161, 182, 203, 214], 39) := by decide +kernel
theorem dL_law_72 : decode cL_law 72 = .ok (.aload_n 1, 1) := dk_43 (dk_at dksL_law_3 0 rfl rfl)
theorem dL_law_73 : decode cL_law 73 = .ok (.aload_n 0, 1) := dk_42 (dk_at dksL_law_3 1 rfl rfl)
theorem dL_law_74 : decode cL_law 74 = .ok (.iload_n 3, 1) := dk_29 (dk_at dksL_law_3 2 rfl rfl)
theorem dL_law_75 : decode cL_law 75 = .ok (.iconst 1, 1) := dk_4 (dk_at dksL_law_3 3 rfl rfl)
theorem dL_law_76 : decode cL_law 76 = .ok (.iadd, 1) := dk_96 (dk_at dksL_law_3 4 rfl rfl)
theorem dL_law_77 : decode cL_law 77 = .ok (.iaload, 1) := dk_46 (dk_at dksL_law_3 5 rfl rfl)
theorem dL_law_78 : decode cL_law 78 = .ok (.aload_n 0, 1) := dk_42 (dk_at dksL_law_3 6 rfl rfl)
theorem dL_law_79 : decode cL_law 79 = .ok (.iload_n 3, 1) := dk_29 (dk_at dksL_law_3 7 rfl rfl)
theorem dL_law_80 : decode cL_law 80 = .ok (.iconst 2, 1) := dk_5 (dk_at dksL_law_3 8 rfl rfl)
theorem dL_law_81 : decode cL_law 81 = .ok (.iadd, 1) := dk_96 (dk_at dksL_law_3 9 rfl rfl)
theorem dL_law_82 : decode cL_law 82 = .ok (.iaload, 1) := dk_46 (dk_at dksL_law_3 10 rfl rfl)
theorem dL_law_83 : decode cL_law 83 = .ok (.aload_n 0, 1) := dk_42 (dk_at dksL_law_3 11 rfl rfl)
theorem dL_law_84 : decode cL_law 84 = .ok (.iload_n 3, 1) := dk_29 (dk_at dksL_law_3 12 rfl rfl)
theorem dL_law_85 : decode cL_law 85 = .ok (.iconst 3, 1) := dk_6 (dk_at dksL_law_3 13 rfl rfl)
theorem dL_law_86 : decode cL_law 86 = .ok (.iadd, 1) := dk_96 (dk_at dksL_law_3 14 rfl rfl)
theorem dL_law_87 : decode cL_law 87 = .ok (.iaload, 1) := dk_46 (dk_at dksL_law_3 15 rfl rfl)
theorem dL_law_88 : decode cL_law 88 = .ok (.aload_n 0, 1) := dk_42 (dk_at dksL_law_3 16 rfl rfl)
theorem dL_law_89 : decode cL_law 89 = .ok (.iload_n 3, 1) := dk_29 (dk_at dksL_law_3 17 rfl rfl)
theorem dL_law_90 : decode cL_law 90 = .ok (.iconst 4, 1) := dk_7 (dk_at dksL_law_3 18 rfl rfl)
theorem dL_law_91 : decode cL_law 91 = .ok (.iadd, 1) := dk_96 (dk_at dksL_law_3 19 rfl rfl)
theorem dL_law_92 : decode cL_law 92 = .ok (.iaload, 1) := dk_46 (dk_at dksL_law_3 20 rfl rfl)
theorem dL_law_93 : decode cL_law 93 = .ok (.aload_n 0, 1) := dk_42 (dk_at dksL_law_3 21 rfl rfl)
theorem dL_law_94 : decode cL_law 94 = .ok (.iload_n 3, 1) := dk_29 (dk_at dksL_law_3 22 rfl rfl)
theorem dL_law_95 : decode cL_law 95 = .ok (.iconst 5, 1) := dk_8 (dk_at dksL_law_3 23 rfl rfl)
theorem dL_law_96 : decode cL_law 96 = .ok (.iadd, 1) := dk_96 (dk_at dksL_law_4 0 rfl rfl)
theorem dL_law_97 : decode cL_law 97 = .ok (.iaload, 1) := dk_46 (dk_at dksL_law_4 1 rfl rfl)
theorem dL_law_98 : decode cL_law 98 = .ok (.invokevirtual 13, 3) := dk_182 0 13 (dk_at dksL_law_4 2 rfl rfl)
theorem dL_law_101 : decode cL_law 101 = .ok (.aload_n 2, 1) := dk_44 (dk_at dksL_law_4 5 rfl rfl)
theorem dL_law_102 : decode cL_law 102 = .ok (.aload_n 0, 1) := dk_42 (dk_at dksL_law_4 6 rfl rfl)
theorem dL_law_103 : decode cL_law 103 = .ok (.iload_n 3, 1) := dk_29 (dk_at dksL_law_4 7 rfl rfl)
theorem dL_law_104 : decode cL_law 104 = .ok (.iconst 1, 1) := dk_4 (dk_at dksL_law_4 8 rfl rfl)
theorem dL_law_105 : decode cL_law 105 = .ok (.iadd, 1) := dk_96 (dk_at dksL_law_4 9 rfl rfl)
theorem dL_law_106 : decode cL_law 106 = .ok (.iaload, 1) := dk_46 (dk_at dksL_law_4 10 rfl rfl)
theorem dL_law_107 : decode cL_law 107 = .ok (.aload_n 0, 1) := dk_42 (dk_at dksL_law_4 11 rfl rfl)
theorem dL_law_108 : decode cL_law 108 = .ok (.iload_n 3, 1) := dk_29 (dk_at dksL_law_4 12 rfl rfl)
theorem dL_law_109 : decode cL_law 109 = .ok (.iconst 2, 1) := dk_5 (dk_at dksL_law_4 13 rfl rfl)
theorem dL_law_110 : decode cL_law 110 = .ok (.iadd, 1) := dk_96 (dk_at dksL_law_4 14 rfl rfl)
theorem dL_law_111 : decode cL_law 111 = .ok (.iaload, 1) := dk_46 (dk_at dksL_law_4 15 rfl rfl)
theorem dL_law_112 : decode cL_law 112 = .ok (.aload_n 0, 1) := dk_42 (dk_at dksL_law_4 16 rfl rfl)
theorem dL_law_113 : decode cL_law 113 = .ok (.iload_n 3, 1) := dk_29 (dk_at dksL_law_4 17 rfl rfl)
theorem dL_law_114 : decode cL_law 114 = .ok (.iconst 3, 1) := dk_6 (dk_at dksL_law_4 18 rfl rfl)
theorem dL_law_115 : decode cL_law 115 = .ok (.iadd, 1) := dk_96 (dk_at dksL_law_4 19 rfl rfl)
theorem dL_law_116 : decode cL_law 116 = .ok (.iaload, 1) := dk_46 (dk_at dksL_law_4 20 rfl rfl)
theorem dL_law_117 : decode cL_law 117 = .ok (.aload_n 0, 1) := dk_42 (dk_at dksL_law_4 21 rfl rfl)
theorem dL_law_118 : decode cL_law 118 = .ok (.iload_n 3, 1) := dk_29 (dk_at dksL_law_4 22 rfl rfl)
theorem dL_law_119 : decode cL_law 119 = .ok (.iconst 4, 1) := dk_7 (dk_at dksL_law_4 23 rfl rfl)
theorem dL_law_120 : decode cL_law 120 = .ok (.iadd, 1) := dk_96 (dk_at dksL_law_5 0 rfl rfl)
theorem dL_law_121 : decode cL_law 121 = .ok (.iaload, 1) := dk_46 (dk_at dksL_law_5 1 rfl rfl)
theorem dL_law_122 : decode cL_law 122 = .ok (.aload_n 0, 1) := dk_42 (dk_at dksL_law_5 2 rfl rfl)
theorem dL_law_123 : decode cL_law 123 = .ok (.iload_n 3, 1) := dk_29 (dk_at dksL_law_5 3 rfl rfl)
theorem dL_law_124 : decode cL_law 124 = .ok (.iconst 5, 1) := dk_8 (dk_at dksL_law_5 4 rfl rfl)
theorem dL_law_125 : decode cL_law 125 = .ok (.iadd, 1) := dk_96 (dk_at dksL_law_5 5 rfl rfl)
theorem dL_law_126 : decode cL_law 126 = .ok (.iaload, 1) := dk_46 (dk_at dksL_law_5 6 rfl rfl)
theorem dL_law_127 : decode cL_law 127 = .ok (.invokevirtual 17, 3) := dk_182 0 17 (dk_at dksL_law_5 7 rfl rfl)
theorem dL_law_130 : decode cL_law 130 = .ok (.goto 140, 3) := dk_167 0 140 (dk_at dksL_law_5 10 rfl rfl)
theorem dL_law_133 : decode cL_law 133 = .ok (.aload_n 1, 1) := dk_43 (dk_at dksL_law_5 13 rfl rfl)
theorem dL_law_134 : decode cL_law 134 = .ok (.aload_n 0, 1) := dk_42 (dk_at dksL_law_5 14 rfl rfl)
theorem dL_law_135 : decode cL_law 135 = .ok (.iload_n 3, 1) := dk_29 (dk_at dksL_law_5 15 rfl rfl)
theorem dL_law_136 : decode cL_law 136 = .ok (.iconst 1, 1) := dk_4 (dk_at dksL_law_5 16 rfl rfl)
theorem dL_law_137 : decode cL_law 137 = .ok (.iadd, 1) := dk_96 (dk_at dksL_law_5 17 rfl rfl)
theorem dL_law_138 : decode cL_law 138 = .ok (.iaload, 1) := dk_46 (dk_at dksL_law_5 18 rfl rfl)
theorem dL_law_139 : decode cL_law 139 = .ok (.aload_n 0, 1) := dk_42 (dk_at dksL_law_5 19 rfl rfl)
theorem dL_law_140 : decode cL_law 140 = .ok (.iload_n 3, 1) := dk_29 (dk_at dksL_law_5 20 rfl rfl)
theorem dL_law_141 : decode cL_law 141 = .ok (.iconst 2, 1) := dk_5 (dk_at dksL_law_5 21 rfl rfl)
theorem dL_law_142 : decode cL_law 142 = .ok (.iadd, 1) := dk_96 (dk_at dksL_law_5 22 rfl rfl)
theorem dL_law_143 : decode cL_law 143 = .ok (.iaload, 1) := dk_46 (dk_at dksL_law_5 23 rfl rfl)
theorem dL_law_144 : decode cL_law 144 = .ok (.aload_n 0, 1) := dk_42 (dk_at dksL_law_6 0 rfl rfl)
theorem dL_law_145 : decode cL_law 145 = .ok (.iload_n 3, 1) := dk_29 (dk_at dksL_law_6 1 rfl rfl)
theorem dL_law_146 : decode cL_law 146 = .ok (.iconst 3, 1) := dk_6 (dk_at dksL_law_6 2 rfl rfl)
theorem dL_law_147 : decode cL_law 147 = .ok (.iadd, 1) := dk_96 (dk_at dksL_law_6 3 rfl rfl)
theorem dL_law_148 : decode cL_law 148 = .ok (.iaload, 1) := dk_46 (dk_at dksL_law_6 4 rfl rfl)
theorem dL_law_149 : decode cL_law 149 = .ok (.aload_n 0, 1) := dk_42 (dk_at dksL_law_6 5 rfl rfl)
theorem dL_law_150 : decode cL_law 150 = .ok (.iload_n 3, 1) := dk_29 (dk_at dksL_law_6 6 rfl rfl)
theorem dL_law_151 : decode cL_law 151 = .ok (.iconst 4, 1) := dk_7 (dk_at dksL_law_6 7 rfl rfl)
theorem dL_law_152 : decode cL_law 152 = .ok (.iadd, 1) := dk_96 (dk_at dksL_law_6 8 rfl rfl)
theorem dL_law_153 : decode cL_law 153 = .ok (.iaload, 1) := dk_46 (dk_at dksL_law_6 9 rfl rfl)
theorem dL_law_154 : decode cL_law 154 = .ok (.aload_n 0, 1) := dk_42 (dk_at dksL_law_6 10 rfl rfl)
theorem dL_law_155 : decode cL_law 155 = .ok (.iload_n 3, 1) := dk_29 (dk_at dksL_law_6 11 rfl rfl)
theorem dL_law_156 : decode cL_law 156 = .ok (.iconst 5, 1) := dk_8 (dk_at dksL_law_6 12 rfl rfl)
theorem dL_law_157 : decode cL_law 157 = .ok (.iadd, 1) := dk_96 (dk_at dksL_law_6 13 rfl rfl)
theorem dL_law_158 : decode cL_law 158 = .ok (.iaload, 1) := dk_46 (dk_at dksL_law_6 14 rfl rfl)
theorem dL_law_159 : decode cL_law 159 = .ok (.invokevirtual 18, 3) := dk_182 0 18 (dk_at dksL_law_6 15 rfl rfl)
theorem dL_law_162 : decode cL_law 162 = .ok (.aload_n 2, 1) := dk_44 (dk_at dksL_law_6 18 rfl rfl)
theorem dL_law_163 : decode cL_law 163 = .ok (.aload_n 0, 1) := dk_42 (dk_at dksL_law_6 19 rfl rfl)
theorem dL_law_164 : decode cL_law 164 = .ok (.iload_n 3, 1) := dk_29 (dk_at dksL_law_6 20 rfl rfl)
theorem dL_law_165 : decode cL_law 165 = .ok (.iconst 1, 1) := dk_4 (dk_at dksL_law_6 21 rfl rfl)
theorem dL_law_166 : decode cL_law 166 = .ok (.iadd, 1) := dk_96 (dk_at dksL_law_6 22 rfl rfl)
theorem dL_law_167 : decode cL_law 167 = .ok (.iaload, 1) := dk_46 (dk_at dksL_law_6 23 rfl rfl)
theorem dL_law_168 : decode cL_law 168 = .ok (.aload_n 0, 1) := dk_42 (dk_at dksL_law_7 0 rfl rfl)
theorem dL_law_169 : decode cL_law 169 = .ok (.iload_n 3, 1) := dk_29 (dk_at dksL_law_7 1 rfl rfl)
theorem dL_law_170 : decode cL_law 170 = .ok (.iconst 2, 1) := dk_5 (dk_at dksL_law_7 2 rfl rfl)
theorem dL_law_171 : decode cL_law 171 = .ok (.iadd, 1) := dk_96 (dk_at dksL_law_7 3 rfl rfl)
theorem dL_law_172 : decode cL_law 172 = .ok (.iaload, 1) := dk_46 (dk_at dksL_law_7 4 rfl rfl)
theorem dL_law_173 : decode cL_law 173 = .ok (.aload_n 0, 1) := dk_42 (dk_at dksL_law_7 5 rfl rfl)
theorem dL_law_174 : decode cL_law 174 = .ok (.iload_n 3, 1) := dk_29 (dk_at dksL_law_7 6 rfl rfl)
theorem dL_law_175 : decode cL_law 175 = .ok (.iconst 3, 1) := dk_6 (dk_at dksL_law_7 7 rfl rfl)
theorem dL_law_176 : decode cL_law 176 = .ok (.iadd, 1) := dk_96 (dk_at dksL_law_7 8 rfl rfl)
theorem dL_law_177 : decode cL_law 177 = .ok (.iaload, 1) := dk_46 (dk_at dksL_law_7 9 rfl rfl)
theorem dL_law_178 : decode cL_law 178 = .ok (.aload_n 0, 1) := dk_42 (dk_at dksL_law_7 10 rfl rfl)
theorem dL_law_179 : decode cL_law 179 = .ok (.iload_n 3, 1) := dk_29 (dk_at dksL_law_7 11 rfl rfl)
theorem dL_law_180 : decode cL_law 180 = .ok (.iconst 4, 1) := dk_7 (dk_at dksL_law_7 12 rfl rfl)
theorem dL_law_181 : decode cL_law 181 = .ok (.iadd, 1) := dk_96 (dk_at dksL_law_7 13 rfl rfl)
theorem dL_law_182 : decode cL_law 182 = .ok (.iaload, 1) := dk_46 (dk_at dksL_law_7 14 rfl rfl)
theorem dL_law_183 : decode cL_law 183 = .ok (.aload_n 0, 1) := dk_42 (dk_at dksL_law_7 15 rfl rfl)
theorem dL_law_184 : decode cL_law 184 = .ok (.iload_n 3, 1) := dk_29 (dk_at dksL_law_7 16 rfl rfl)
theorem dL_law_185 : decode cL_law 185 = .ok (.iconst 5, 1) := dk_8 (dk_at dksL_law_7 17 rfl rfl)
theorem dL_law_186 : decode cL_law 186 = .ok (.iadd, 1) := dk_96 (dk_at dksL_law_7 18 rfl rfl)
theorem dL_law_187 : decode cL_law 187 = .ok (.iaload, 1) := dk_46 (dk_at dksL_law_7 19 rfl rfl)
theorem dL_law_188 : decode cL_law 188 = .ok (.invokevirtual 21, 3) := dk_182 0 21 (dk_at dksL_law_7 20 rfl rfl)
theorem dL_law_191 : decode cL_law 191 = .ok (.goto 79, 3) := dk_167 0 79 (dk_at dksL_law_8 0 rfl rfl)
theorem dL_law_194 : decode cL_law 194 = .ok (.aload_n 1, 1) := dk_43 (dk_at dksL_law_8 3 rfl rfl)
theorem dL_law_195 : decode cL_law 195 = .ok (.aload_n 0, 1) := dk_42 (dk_at dksL_law_8 4 rfl rfl)
theorem dL_law_196 : decode cL_law 196 = .ok (.iload_n 3, 1) := dk_29 (dk_at dksL_law_8 5 rfl rfl)
theorem dL_law_197 : decode cL_law 197 = .ok (.iconst 1, 1) := dk_4 (dk_at dksL_law_8 6 rfl rfl)
theorem dL_law_198 : decode cL_law 198 = .ok (.iadd, 1) := dk_96 (dk_at dksL_law_8 7 rfl rfl)
theorem dL_law_199 : decode cL_law 199 = .ok (.iaload, 1) := dk_46 (dk_at dksL_law_8 8 rfl rfl)
theorem dL_law_200 : decode cL_law 200 = .ok (.invokevirtual 22, 3) := dk_182 0 22 (dk_at dksL_law_8 9 rfl rfl)
theorem dL_law_203 : decode cL_law 203 = .ok (.aload_n 2, 1) := dk_44 (dk_at dksL_law_8 12 rfl rfl)
theorem dL_law_204 : decode cL_law 204 = .ok (.aload_n 0, 1) := dk_42 (dk_at dksL_law_8 13 rfl rfl)
theorem dL_law_205 : decode cL_law 205 = .ok (.iload_n 3, 1) := dk_29 (dk_at dksL_law_8 14 rfl rfl)
theorem dL_law_206 : decode cL_law 206 = .ok (.iconst 1, 1) := dk_4 (dk_at dksL_law_8 15 rfl rfl)
theorem dL_law_207 : decode cL_law 207 = .ok (.iadd, 1) := dk_96 (dk_at dksL_law_8 16 rfl rfl)
theorem dL_law_208 : decode cL_law 208 = .ok (.iaload, 1) := dk_46 (dk_at dksL_law_8 17 rfl rfl)
theorem dL_law_209 : decode cL_law 209 = .ok (.invokevirtual 26, 3) := dk_182 0 26 (dk_at dksL_law_8 18 rfl rfl)
theorem dL_law_212 : decode cL_law 212 = .ok (.goto 58, 3) := dk_167 0 58 (dk_at dksL_law_8 21 rfl rfl)
theorem dL_law_215 : decode cL_law 215 = .ok (.aload_n 1, 1) := dk_43 (dk_at dksL_law_9 0 rfl rfl)
theorem dL_law_216 : decode cL_law 216 = .ok (.aload_n 0, 1) := dk_42 (dk_at dksL_law_9 1 rfl rfl)
theorem dL_law_217 : decode cL_law 217 = .ok (.iload_n 3, 1) := dk_29 (dk_at dksL_law_9 2 rfl rfl)
theorem dL_law_218 : decode cL_law 218 = .ok (.iconst 1, 1) := dk_4 (dk_at dksL_law_9 3 rfl rfl)
theorem dL_law_219 : decode cL_law 219 = .ok (.iadd, 1) := dk_96 (dk_at dksL_law_9 4 rfl rfl)
theorem dL_law_220 : decode cL_law 220 = .ok (.iaload, 1) := dk_46 (dk_at dksL_law_9 5 rfl rfl)
theorem dL_law_221 : decode cL_law 221 = .ok (.invokevirtual 27, 3) := dk_182 0 27 (dk_at dksL_law_9 6 rfl rfl)
theorem dL_law_224 : decode cL_law 224 = .ok (.aload_n 2, 1) := dk_44 (dk_at dksL_law_9 9 rfl rfl)
theorem dL_law_225 : decode cL_law 225 = .ok (.aload_n 0, 1) := dk_42 (dk_at dksL_law_9 10 rfl rfl)
theorem dL_law_226 : decode cL_law 226 = .ok (.iload_n 3, 1) := dk_29 (dk_at dksL_law_9 11 rfl rfl)
theorem dL_law_227 : decode cL_law 227 = .ok (.iconst 1, 1) := dk_4 (dk_at dksL_law_9 12 rfl rfl)
theorem dL_law_228 : decode cL_law 228 = .ok (.iadd, 1) := dk_96 (dk_at dksL_law_9 13 rfl rfl)
theorem dL_law_229 : decode cL_law 229 = .ok (.iaload, 1) := dk_46 (dk_at dksL_law_9 14 rfl rfl)
theorem dL_law_230 : decode cL_law 230 = .ok (.invokevirtual 30, 3) := dk_182 0 30 (dk_at dksL_law_9 15 rfl rfl)
theorem dL_law_233 : decode cL_law 233 = .ok (.goto 37, 3) := dk_167 0 37 (dk_at dksL_law_9 18 rfl rfl)
theorem dL_law_236 : decode cL_law 236 = .ok (.aload_n 1, 1) := dk_43 (dk_at dksL_law_9 21 rfl rfl)
theorem dL_law_237 : decode cL_law 237 = .ok (.invokevirtual 31, 3) := dk_182 0 31 (dk_at dksL_law_10 0 rfl rfl)
theorem dL_law_240 : decode cL_law 240 = .ok (.aload_n 2, 1) := dk_44 (dk_at dksL_law_10 3 rfl rfl)
theorem dL_law_241 : decode cL_law 241 = .ok (.invokevirtual 34, 3) := dk_182 0 34 (dk_at dksL_law_10 4 rfl rfl)
theorem dL_law_244 : decode cL_law 244 = .ok (.goto 26, 3) := dk_167 0 26 (dk_at dksL_law_10 7 rfl rfl)
theorem dL_law_247 : decode cL_law 247 = .ok (.aload_n 1, 1) := dk_43 (dk_at dksL_law_10 10 rfl rfl)
theorem dL_law_248 : decode cL_law 248 = .ok (.aload_n 0, 1) := dk_42 (dk_at dksL_law_10 11 rfl rfl)
theorem dL_law_249 : decode cL_law 249 = .ok (.iload_n 3, 1) := dk_29 (dk_at dksL_law_10 12 rfl rfl)
theorem dL_law_250 : decode cL_law 250 = .ok (.iconst 1, 1) := dk_4 (dk_at dksL_law_10 13 rfl rfl)
theorem dL_law_251 : decode cL_law 251 = .ok (.iadd, 1) := dk_96 (dk_at dksL_law_10 14 rfl rfl)
theorem dL_law_252 : decode cL_law 252 = .ok (.iaload, 1) := dk_46 (dk_at dksL_law_10 15 rfl rfl)
theorem dL_law_253 : decode cL_law 253 = .ok (.invokevirtual 35, 3) := dk_182 0 35 (dk_at dksL_law_10 16 rfl rfl)
theorem dL_law_256 : decode cL_law 256 = .ok (.aload_n 2, 1) := dk_44 (dk_at dksL_law_10 19 rfl rfl)
theorem dL_law_257 : decode cL_law 257 = .ok (.aload_n 0, 1) := dk_42 (dk_at dksL_law_10 20 rfl rfl)
theorem dL_law_258 : decode cL_law 258 = .ok (.iload_n 3, 1) := dk_29 (dk_at dksL_law_10 21 rfl rfl)
theorem dL_law_259 : decode cL_law 259 = .ok (.iconst 1, 1) := dk_4 (dk_at dksL_law_10 22 rfl rfl)
theorem dL_law_260 : decode cL_law 260 = .ok (.iadd, 1) := dk_96 (dk_at dksL_law_10 23 rfl rfl)
theorem dL_law_261 : decode cL_law 261 = .ok (.iaload, 1) := dk_46 (dk_at dksL_law_11 0 rfl rfl)
theorem dL_law_262 : decode cL_law 262 = .ok (.invokevirtual 39, 3) := dk_182 0 39 (dk_at dksL_law_11 1 rfl rfl)
theorem dL_law_265 : decode cL_law 265 = .ok (.if_icmp .eq 5, 3) := dk_159 0 5 (dk_at dksL_law_11 4 rfl rfl)
theorem dL_law_268 : decode cL_law 268 = .ok (.iconst 0, 1) := dk_3 (dk_at dksL_law_11 7 rfl rfl)
theorem dL_law_269 : decode cL_law 269 = .ok (.ireturn, 1) := dk_172 (dk_at dksL_law_11 8 rfl rfl)
theorem dL_law_270 : decode cL_law 270 = .ok (.iinc 3 6, 3) := dk_132 3 6 (dk_at dksL_law_11 9 rfl rfl)
theorem dL_law_273 : decode cL_law 273 = .ok (.goto (-255), 3) := dk_167 255 1 (dk_at dksL_law_11 12 rfl rfl)
theorem dL_law_276 : decode cL_law 276 = .ok (.iconst 1, 1) := dk_4 (dk_at dksL_law_11 15 rfl rfl)
theorem dL_law_277 : decode cL_law 277 = .ok (.ireturn, 1) := dk_172 (dk_at dksL_law_11 16 rfl rfl)
end
section
/-! bits of an Int32 (out of laws/BITS.to-paste) -/
def bt (x : Int32) (i : Nat) : Bool := x.toBitVec.getLsbD i
theorem b_ext {x y : Int32} (h : ∀ i, i < 32 → bt x i = bt y i) : x = y := Int32.toBitVec_inj.mp (BitVec.eq_of_getLsbD_eq (fun i hi => h i hi))
theorem b_or (x y : Int32) (i : Nat) : bt (x ||| y) i = (bt x i || bt y i) := by unfold bt; rw [Int32.toBitVec_or, BitVec.getLsbD_or]
theorem b_and (x y : Int32) (i : Nat) : bt (x &&& y) i = (bt x i && bt y i) := by unfold bt; rw [Int32.toBitVec_and, BitVec.getLsbD_and]
theorem b_big {x : Int32} {i : Nat} (h : 32 ≤ i) : bt x i = false := BitVec.getLsbD_of_ge _ _ h
theorem b_255 (i : Nat) : bt 255 i = decide (i < 8) := by
  rcases Nat.lt_or_ge i 32 with h | h
  · exact (by decide +kernel : ∀ i, i < 32 → bt 255 i = decide (i < 8)) i h
  · rw [b_big h, decide_eq_false (by omega)]
theorem s_l : ∀ n, n < 32 → ((nI n &&& 31).toBitVec.smod 32).toNat = n := by decide +kernel
theorem s_u : ∀ n, n < 32 → (((nI n).toUInt32 &&& Int32.toUInt32 31).toBitVec % 32).toNat = n := by decide +kernel
theorem b_shl (n : Nat) (hn : n < 32) (x : Int32) {i : Nat} (hi : i < 32) : bt (x <<< (nI n &&& 31)) i = (decide (n ≤ i) && bt x (i - n)) := by
  unfold bt
  rw [Int32.toBitVec_shiftLeft]
  show (x.toBitVec <<< ((nI n &&& 31).toBitVec.smod 32).toNat).getLsbD i = _
  rw [s_l n hn, BitVec.getLsbD_shiftLeft]
  rcases Nat.lt_or_ge i n with h | h
  · simp [h, Nat.not_le.mpr h]
  · simp [hi, h, Nat.not_lt.mpr h]
theorem b_ushr (n : Nat) (hn : n < 32) (x : Int32) (i : Nat) : bt ((x.toUInt32 >>> ((nI n).toUInt32 &&& Int32.toUInt32 31)).toInt32) i = bt x (n + i) := by
  show (x.toUInt32 >>> ((nI n).toUInt32 &&& Int32.toUInt32 31)).toBitVec.getLsbD i = x.toUInt32.toBitVec.getLsbD (n + i)
  rw [UInt32.toBitVec_shiftRight]
  show (x.toUInt32.toBitVec >>> (((nI n).toUInt32 &&& Int32.toUInt32 31).toBitVec % 32).toNat).getLsbD i = _
  rw [s_u n hn, BitVec.getLsbD_ushiftRight]
theorem b_sshr (n : Nat) (hn : n < 32) (x : Int32) {i : Nat} (hi : i < 32) : bt (x >>> (nI n &&& 31)) i = if n + i < 32 then bt x (n + i) else bt x 31 := by
  unfold bt
  rw [Int32.toBitVec_shiftRight]
  show (x.toBitVec.sshiftRight ((nI n &&& 31).toBitVec.smod 32).toNat).getLsbD i = _
  rw [s_l n hn, BitVec.getLsbD_sshiftRight, BitVec.msb_eq_getLsbD_last]
  simp [hi]
theorem bp_b (x : Int32) : x.toInt8.toInt32 &&& 255 = x &&& 255 := by
  apply Int32.toBitVec_inj.mp
  rw [Int32.toBitVec_and, Int32.toBitVec_and, Int8.toBitVec_toInt32, Int32.toBitVec_toInt8]
  apply BitVec.eq_of_getLsbD_eq
  intro i hi
  rw [BitVec.getLsbD_and, BitVec.getLsbD_and]
  have hm : ∀ i < 32, 8 ≤ i → (255 : Int32).toBitVec.getLsbD i = false := by decide
  rcases Nat.lt_or_ge i 8 with z | z
  · rw [BitVec.getLsbD_signExtend, BitVec.getLsbD_signExtend, if_pos z, if_pos hi]
    simp only [z, hi, decide_true, Bool.true_and]
  · rw [hm i hi z]; simp
/-! the cipher, plain -/
def sh_us (x y : Int32) : Int32 := (x.toUInt32 >>> (y.toUInt32 &&& Int32.toUInt32 31)).toInt32
def sh_tr (x n : Int32) : Int32 := sh_us x n ||| (x <<< ((32 - n) &&& 31))
def sh_S0 (x : Int32) : Int32 := sh_tr x 2 ^^^ sh_tr x 13 ^^^ sh_tr x 22
def sh_S1 (x : Int32) : Int32 := sh_tr x 6 ^^^ sh_tr x 11 ^^^ sh_tr x 25
def sh_s0 (x : Int32) : Int32 := sh_tr x 7 ^^^ sh_tr x 18 ^^^ sh_us x 3
def sh_s1 (x : Int32) : Int32 := sh_tr x 17 ^^^ sh_tr x 19 ^^^ sh_us x 10
def sh_ch (x y z : Int32) : Int32 := (x &&& y) ^^^ ((x ^^^ (-1)) &&& z)
def sh_mj (x y z : Int32) : Int32 := (x &&& y) ^^^ (x &&& z) ^^^ (y &&& z)
/-- Bouncy Castle's rotation is the model's -/
theorem sh_rot (x : Int32) {n k : Int32} (h : k &&& 31 = (32 - n) &&& 31) : sh_us x n ||| (x <<< (k &&& 31)) = sh_tr x n := by rw [h]; rfl
abbrev sh_T : Type := Int32 × Int32 × Int32 × Int32 × Int32 × Int32 × Int32 × Int32
def sh_f8 (x : sh_T) : Nat → Int32 := fun j => match j with
  | 0 => x.1
  | 1 => x.2.1
  | 2 => x.2.2.1
  | 3 => x.2.2.2.1
  | 4 => x.2.2.2.2.1
  | 5 => x.2.2.2.2.2.1
  | 6 => x.2.2.2.2.2.2.1
  | 7 => x.2.2.2.2.2.2.2
  | _ => 0
def sh_x8 (f : Nat → Int32) : sh_T := (f 0, f 1, f 2, f 3, f 4, f 5, f 6, f 7)
theorem sh_lt8 {P : Nat → Prop} (h0 : P 0) (h1 : P 1) (h2 : P 2) (h3 : P 3) (h4 : P 4) (h5 : P 5) (h6 : P 6) (h7 : P 7) : ∀ j, j < 8 → P j := by
  intro j hj
  match j, hj with
  | 0, _ => exact h0
  | 1, _ => exact h1
  | 2, _ => exact h2
  | 3, _ => exact h3
  | 4, _ => exact h4
  | 5, _ => exact h5
  | 6, _ => exact h6
  | 7, _ => exact h7
  | n + 8, h => exact absurd h (by omega)
theorem sh_f8x (f : Nat → Int32) : ∀ j, j < 8 → sh_f8 (sh_x8 f) j = f j := sh_lt8 rfl rfl rfl rfl rfl rfl rfl rfl
theorem sh_f8o (x : sh_T) {j : Nat} (h : 8 ≤ j) : sh_f8 x j = 0 := by
  match j, h with
  | n + 8, _ => rfl
  | 0, h => exact absurd h (by omega)
  | 1, h => exact absurd h (by omega)
  | 2, h => exact absurd h (by omega)
  | 3, h => exact absurd h (by omega)
  | 4, h => exact absurd h (by omega)
  | 5, h => exact absurd h (by omega)
  | 6, h => exact absurd h (by omega)
  | 7, h => exact absurd h (by omega)
theorem sh_upd8 {x y : sh_T} {k : Nat} {v : Int32} (hk : k < 8) (h : ∀ j, j < 8 → (if j = k then v else sh_f8 x j) = sh_f8 y j) : upd (sh_f8 x) k v = sh_f8 y := by
  funext j
  rcases Nat.lt_or_ge j 8 with q | q
  · exact h j q
  · show (if j = k then v else sh_f8 x j) = _
    rw [if_neg (by omega), sh_f8o x q, sh_f8o y q]
variable (a b c d e f g h v : Int32)
theorem sh_u0 : upd (sh_f8 (a, b, c, d, e, f, g, h)) 0 v = sh_f8 (v, b, c, d, e, f, g, h) := sh_upd8 (by decide) (sh_lt8 rfl rfl rfl rfl rfl rfl rfl rfl)
theorem sh_u1 : upd (sh_f8 (a, b, c, d, e, f, g, h)) 1 v = sh_f8 (a, v, c, d, e, f, g, h) := sh_upd8 (by decide) (sh_lt8 rfl rfl rfl rfl rfl rfl rfl rfl)
theorem sh_u2 : upd (sh_f8 (a, b, c, d, e, f, g, h)) 2 v = sh_f8 (a, b, v, d, e, f, g, h) := sh_upd8 (by decide) (sh_lt8 rfl rfl rfl rfl rfl rfl rfl rfl)
theorem sh_u3 : upd (sh_f8 (a, b, c, d, e, f, g, h)) 3 v = sh_f8 (a, b, c, v, e, f, g, h) := sh_upd8 (by decide) (sh_lt8 rfl rfl rfl rfl rfl rfl rfl rfl)
theorem sh_u4 : upd (sh_f8 (a, b, c, d, e, f, g, h)) 4 v = sh_f8 (a, b, c, d, v, f, g, h) := sh_upd8 (by decide) (sh_lt8 rfl rfl rfl rfl rfl rfl rfl rfl)
theorem sh_u5 : upd (sh_f8 (a, b, c, d, e, f, g, h)) 5 v = sh_f8 (a, b, c, d, e, v, g, h) := sh_upd8 (by decide) (sh_lt8 rfl rfl rfl rfl rfl rfl rfl rfl)
theorem sh_u6 : upd (sh_f8 (a, b, c, d, e, f, g, h)) 6 v = sh_f8 (a, b, c, d, e, f, v, h) := sh_upd8 (by decide) (sh_lt8 rfl rfl rfl rfl rfl rfl rfl rfl)
theorem sh_u7 : upd (sh_f8 (a, b, c, d, e, f, g, h)) 7 v = sh_f8 (a, b, c, d, e, f, g, v) := sh_upd8 (by decide) (sh_lt8 rfl rfl rfl rfl rfl rfl rfl rfl)
def sh_t1 (k w : Int32) (e f g h : Int32) : Int32 := h + sh_S1 e + sh_ch e f g + k + w
def sh_t2 (a b c : Int32) : Int32 := sh_S0 a + sh_mj a b c
/-- one round forth -/
def sh_er (k w : Int32) (x : sh_T) : sh_T := match x with
  | (a, b, c, d, e, f, g, h) => (sh_t1 k w e f g h + sh_t2 a b c, a, b, c, d + sh_t1 k w e f g h, e, f, g)
/-- one round back -/
def sh_dr (k w : Int32) (x : sh_T) : sh_T := match x with
  | (a, b, c, d, e, f, g, h) => (b, c, d, e - (a - sh_t2 b c d), f, g, h, (a - sh_t2 b c d) - sh_S1 f - sh_ch f g h - k - w)
def sh_enc (K w : Nat → Int32) (x0 : sh_T) : Nat → sh_T
  | 0 => x0
  | n + 1 => sh_er (K n) (w n) (sh_enc K w x0 n)
def sh_dec (K w : Nat → Int32) : Nat → sh_T → sh_T
  | 0, x => x
  | r + 1, x => sh_dec K w r (sh_dr (K r) (w r) x)
/-- the schedule -/
def sh_nx (f : Nat → Int32) (i : Nat) : Int32 := sh_s1 (f (i - 2)) + f (i - 7) + sh_s0 (f (i - 15)) + f (i - 16)
def sh_fill (f : Nat → Int32) : Nat → (Nat → Int32)
  | 0 => f
  | n + 1 => upd (sh_fill f n) (16 + n) (sh_nx (sh_fill f n) (16 + n))
/-- n places of s over d -/
def sh_cp (s d : Nat → Int32) (n : Nat) : Nat → Int32 := fun j => if j < n then s j else d j
def sh_z : Nat → Int32 := fun _ => 0
def sh_sch (f : Nat → Int32) : Nat → Int32 := sh_fill (sh_cp f sh_z 16) 48
theorem sh_cp_0 (s d : Nat → Int32) : sh_cp s d 0 = d := funext fun j => if_neg (Nat.not_lt_zero j)
theorem sh_cp_s (s d : Nat → Int32) (n : Nat) {v : Int32} (hv : s n = v) : upd (sh_cp s d n) n v = sh_cp s d (n + 1) := by
  subst hv
  funext j
  show (if j = n then s n else if j < n then s j else d j) = if j < n + 1 then s j else d j
  rcases Nat.lt_trichotomy j n with h | h | h
  · rw [if_neg (by omega), if_pos h, if_pos (by omega)]
  · rw [if_pos h, if_pos (by omega), h]
  · rw [if_neg (by omega), if_neg (by omega), if_neg (by omega)]
theorem sh_cp_at {s d : Nat → Int32} {n j : Nat} (h : j < n) : sh_cp s d n j = s j := if_pos h
theorem sh_cp_off {s d : Nat → Int32} {n j : Nat} (h : n ≤ j) : sh_cp s d n j = d j := if_neg (by omega)
theorem sh_cp_congr {s s' d : Nat → Int32} {n : Nat} (h : ∀ j, j < n → s j = s' j) : sh_cp s d n = sh_cp s' d n := by
  funext j
  rcases Nat.lt_or_ge j n with q | q
  · rw [sh_cp_at q, sh_cp_at q, h j q]
  · rw [sh_cp_off q, sh_cp_off q]
theorem sh_sch_congr {s s' : Nat → Int32} (h : ∀ j, j < 16 → s j = s' j) : sh_sch s = sh_sch s' := by
  unfold sh_sch
  rw [sh_cp_congr h]
theorem sh_x8_congr {s s' : Nat → Int32} (h : ∀ j, j < 8 → s j = s' j) : sh_x8 s = sh_x8 s' := by
  unfold sh_x8
  rw [h 0 (by decide), h 1 (by decide), h 2 (by decide), h 3 (by decide), h 4 (by decide), h 5 (by decide), h 6 (by decide), h 7 (by decide)]
theorem sh_cp8 (s : Nat → Int32) : sh_cp s sh_z 8 = sh_f8 (sh_x8 s) := by
  funext j
  rcases Nat.lt_or_ge j 8 with q | q
  · rw [sh_cp_at q, sh_f8x s j q]
  · rw [sh_cp_off q, sh_f8o _ q]; rfl
/-! bytes -/
def sh_b (w : Int32) (r : Nat) : Int32 := match r with
  | 0 => (w >>> ((24 : Int32) &&& 31)).toInt8.toInt32
  | 1 => (w >>> ((16 : Int32) &&& 31)).toInt8.toInt32
  | 2 => (w >>> ((8 : Int32) &&& 31)).toInt8.toInt32
  | _ => w.toInt8.toInt32
def sh_bu (w : Int32) (r : Nat) : Int32 := match r with
  | 0 => (sh_us w 24).toInt8.toInt32
  | 1 => (sh_us w 16).toInt8.toInt32
  | 2 => (sh_us w 8).toInt8.toInt32
  | _ => w.toInt8.toInt32
def sh_asm (f : Nat → Int32) (j : Nat) : Int32 := (((f (4 * j) &&& 255) <<< ((24 : Int32) &&& 31)) ||| ((f (4 * j + 1) &&& 255) <<< ((16 : Int32) &&& 31))) ||| ((f (4 * j + 2) &&& 255) <<< ((8 : Int32) &&& 31)) ||| (f (4 * j + 3) &&& 255)
def sh_dis (f : Nat → Int32) (j : Nat) : Int32 := sh_bu (f (j / 4)) (j % 4)
def sh_p4 (f : Nat → Int32) (k : Nat) (w : Int32) : Nat → Int32 := upd (upd (upd (upd f k (sh_b w 0)) (k + 1) (sh_b w 1)) (k + 2) (sh_b w 2)) (k + 3) (sh_b w 3)
def sh_p16 (f : Nat → Int32) (k : Nat) (a b c d : Int32) : Nat → Int32 := sh_p4 (sh_p4 (sh_p4 (sh_p4 f k a) (k + 4) b) (k + 8) c) (k + 12) d
def sh_w4 (f : Nat → Int32) (k : Nat) (a b c d : Int32) : Nat → Int32 := upd (upd (upd (upd f k a) (k + 1) b) (k + 2) c) (k + 3) d
def sh_o8 (f : Nat → Int32) (x : sh_T) : Nat → Int32 := upd (upd (upd (upd (upd (upd (upd (upd f 0 x.1) 1 x.2.1) 2 x.2.2.1) 3 x.2.2.2.1) 4 x.2.2.2.2.1) 5 x.2.2.2.2.2.1) 6 x.2.2.2.2.2.2.1) 7 x.2.2.2.2.2.2.2
theorem sh_o8_at (f : Nat → Int32) (x : sh_T) : ∀ j, j < 8 → sh_o8 f x j = sh_f8 x j := sh_lt8 rfl rfl rfl rfl rfl rfl rfl rfl
theorem sh_i8 {x y : Int32} (hh : ∀ i, i < 8 → bt x i = bt y i) : x.toInt8.toInt32 = y.toInt8.toInt32 := by
  have e : x.toInt8 = y.toInt8 := by
    apply Int8.toBitVec_inj.mp
    rw [Int32.toBitVec_toInt8, Int32.toBitVec_toInt8]
    apply BitVec.eq_of_getLsbD_eq
    intro i hi
    rw [BitVec.getLsbD_signExtend, BitVec.getLsbD_signExtend, if_pos (by omega), if_pos (by omega)]
    have := hh i hi
    unfold bt at this
    rw [this]
  rw [e]
theorem sh_bt_us (n : Nat) (hn : n < 32) (x : Int32) (i : Nat) : bt (sh_us x (nI n)) i = bt x (n + i) := b_ushr n hn x i
theorem sh_bu_b (w : Int32) (r : Nat) : sh_bu w r = sh_b w r := by
  have key : ∀ n : Nat, n ≤ 24 → (sh_us w (nI n)).toInt8.toInt32 = (w >>> (nI n &&& 31)).toInt8.toInt32 := by
    intro n hn
    refine sh_i8 (fun i hi => ?_)
    rw [sh_bt_us n (by omega), b_sshr n (by omega) w (by omega), if_pos (by omega)]
  have h24 : (24 : Int32) = nI 24 := by decide
  have h16 : (16 : Int32) = nI 16 := by decide
  have h8 : (8 : Int32) = nI 8 := by decide
  match r with
  | 0 =>
    show (sh_us w 24).toInt8.toInt32 = (w >>> ((24 : Int32) &&& 31)).toInt8.toInt32
    rw [h24]
    exact key 24 (by decide)
  | 1 =>
    show (sh_us w 16).toInt8.toInt32 = (w >>> ((16 : Int32) &&& 31)).toInt8.toInt32
    rw [h16]
    exact key 16 (by decide)
  | 2 =>
    show (sh_us w 8).toInt8.toInt32 = (w >>> ((8 : Int32) &&& 31)).toInt8.toInt32
    rw [h8]
    exact key 8 (by decide)
  | n + 3 =>
    have e1 : sh_bu w (n + 3) = w.toInt8.toInt32 := rfl
    have e2 : sh_b w (n + 3) = w.toInt8.toInt32 := rfl
    exact e1.trans e2.symm
theorem sh_and8 {x y : Int32} (hh : ∀ i, i < 8 → bt x i = bt y i) : x &&& 255 = y &&& 255 := by
  refine b_ext (fun i _ => ?_)
  rw [b_and, b_and, b_255]
  rcases Nat.lt_or_ge i 8 with q | q
  · rw [hh i q]
  · rw [decide_eq_false (by omega), Bool.and_false, Bool.and_false]
theorem sh_us0 (x : Int32) : sh_us x (nI 0) = x := by
  refine b_ext (fun i _ => ?_)
  rw [sh_bt_us 0 (by omega), Nat.zero_add]
/-- the byte that the desk answers is the byte that the model answers -/
theorem sh_b_out (w : Int32) : ∀ r, r < 4 → sh_b w r &&& 255 = sh_us w (nI (24 - 8 * r)) &&& 255 := by
  have key : ∀ n : Nat, n ≤ 24 → (w >>> (nI n &&& 31)).toInt8.toInt32 &&& 255 = sh_us w (nI n) &&& 255 := by
    intro n hn
    rw [bp_b]
    refine sh_and8 (fun i hi => ?_)
    rw [sh_bt_us n (by omega), b_sshr n (by omega) w (by omega), if_pos (by omega)]
  intro r hr
  match r, hr with
  | 0, _ => exact key 24 (by decide)
  | 1, _ => exact key 16 (by decide)
  | 2, _ => exact key 8 (by decide)
  | 3, _ =>
    show w.toInt8.toInt32 &&& 255 = sh_us w (nI 0) &&& 255
    rw [bp_b, sh_us0]
  | n + 4, h => exact absurd h (by omega)
theorem sh_word (w : Int32) : (((sh_b w 0 &&& 255) <<< ((24 : Int32) &&& 31)) ||| ((sh_b w 1 &&& 255) <<< ((16 : Int32) &&& 31))) ||| ((sh_b w 2 &&& 255) <<< ((8 : Int32) &&& 31)) ||| (sh_b w 3 &&& 255) = w := by
  have e0 : sh_b w 0 &&& 255 = sh_us w (nI 24) &&& 255 := sh_b_out w 0 (by decide)
  have e1 : sh_b w 1 &&& 255 = sh_us w (nI 16) &&& 255 := sh_b_out w 1 (by decide)
  have e2 : sh_b w 2 &&& 255 = sh_us w (nI 8) &&& 255 := sh_b_out w 2 (by decide)
  have e3 : sh_b w 3 &&& 255 = sh_us w (nI 0) &&& 255 := sh_b_out w 3 (by decide)
  rw [e0, e1, e2, e3]
  refine b_ext (fun i hi => ?_)
  show bt (((((sh_us w (nI 24) &&& 255) <<< (nI 24 &&& 31)) ||| ((sh_us w (nI 16) &&& 255) <<< (nI 16 &&& 31))) ||| ((sh_us w (nI 8) &&& 255) <<< (nI 8 &&& 31))) ||| (sh_us w (nI 0) &&& 255)) i = _
  rw [b_or, b_or, b_or, b_shl 24 (by decide) _ hi, b_shl 16 (by decide) _ hi, b_shl 8 (by decide) _ hi, b_and, b_and, b_and, b_and, b_255, b_255, b_255, b_255, sh_bt_us 24 (by decide), sh_bt_us 16 (by decide), sh_bt_us 8 (by decide), sh_bt_us 0 (by decide)]
  rcases Nat.lt_or_ge i 8 with q | q
  · rw [decide_eq_false (show ¬ 24 ≤ i by omega), decide_eq_false (show ¬ 16 ≤ i by omega), decide_eq_false (show ¬ 8 ≤ i by omega), decide_eq_true q, Nat.zero_add]
    simp
  · rcases Nat.lt_or_ge i 16 with q2 | q2
    · rw [decide_eq_false (show ¬ 24 ≤ i by omega), decide_eq_false (show ¬ 16 ≤ i by omega), decide_eq_true q, decide_eq_false (show ¬ i < 8 by omega), decide_eq_true (show i - 8 < 8 by omega), show 8 + (i - 8) = i by omega]
      simp
    · rcases Nat.lt_or_ge i 24 with q3 | q3
      · rw [decide_eq_false (show ¬ 24 ≤ i by omega), decide_eq_true q2, decide_eq_true q, decide_eq_false (show ¬ i < 8 by omega), decide_eq_true (show i - 16 < 8 by omega), decide_eq_false (show ¬ i - 8 < 8 by omega), show 16 + (i - 16) = i by omega]
        simp
      · rw [decide_eq_true q3, decide_eq_true q2, decide_eq_true q, decide_eq_false (show ¬ i < 8 by omega), decide_eq_false (show ¬ i - 16 < 8 by omega), decide_eq_false (show ¬ i - 8 < 8 by omega), decide_eq_true (show i - 24 < 8 by omega), show 24 + (i - 24) = i by omega]
        simp
/-- an array of bytes holds words: byte 4 i is the highest -/
def sh_R (n : Nat) (fb fw : Nat → Int32) : Prop := ∀ j, j < n → fb j = sh_b (fw (j / 4)) (j % 4)
theorem sh_R_asm {n m : Nat} {fb fw : Nat → Int32} (hR : sh_R n fb fw) (hm : 4 * m ≤ n) : ∀ j, j < m → sh_asm fb j = fw j := by
  intro j hj
  unfold sh_asm
  rw [hR (4 * j) (by omega), hR (4 * j + 1) (by omega), hR (4 * j + 2) (by omega), hR (4 * j + 3) (by omega),
    show 4 * j / 4 = j by omega, show (4 * j + 1) / 4 = j by omega, show (4 * j + 2) / 4 = j by omega, show (4 * j + 3) / 4 = j by omega,
    show 4 * j % 4 = 0 by omega, show (4 * j + 1) % 4 = 1 by omega, show (4 * j + 2) % 4 = 2 by omega, show (4 * j + 3) % 4 = 3 by omega]
  exact sh_word (fw j)
theorem sh_p4_at (f : Nat → Int32) (k : Nat) (w : Int32) {r : Nat} (hr : r < 4) : sh_p4 f k w (k + r) = sh_b w r := by
  unfold sh_p4
  match r, hr with
  | 0, _ => rw [pk_un (by omega), pk_un (by omega), pk_un (by omega)]; exact pk_us
  | 1, _ => rw [pk_un (by omega), pk_un (by omega)]; exact pk_us
  | 2, _ => rw [pk_un (by omega)]; exact pk_us
  | 3, _ => exact pk_us
  | n + 4, h => exact absurd h (by omega)
theorem sh_p4_off (f : Nat → Int32) (k : Nat) (w : Int32) {j : Nat} (hj : j < k ∨ k + 4 ≤ j) : sh_p4 f k w j = f j := by
  unfold sh_p4
  rw [pk_un (by omega), pk_un (by omega), pk_un (by omega), pk_un (by omega)]
theorem sh_R_p4 {n : Nat} {fb fw : Nat → Int32} (hR : sh_R n fb fw) (i : Nat) (w : Int32) : sh_R n (sh_p4 fb (4 * i) w) (upd fw i w) := by
  intro j hj
  by_cases hji : j / 4 = i
  · have e : j = 4 * i + j % 4 := by omega
    have e2 : sh_p4 fb (4 * i) w j = sh_b w (j % 4) := by
      have h1 := sh_p4_at fb (4 * i) w (r := j % 4) (by omega)
      rw [← e] at h1
      exact h1
    rw [e2, hji, pk_us]
  · rw [sh_p4_off fb (4 * i) w (by omega), hR j hj, pk_un hji]
theorem sh_R_p16 {n : Nat} {fb fw : Nat → Int32} (hR : sh_R n fb fw) (i : Nat) (a b c d : Int32) : sh_R n (sh_p16 fb (4 * i) a b c d) (sh_w4 fw i a b c d) := by
  unfold sh_p16 sh_w4
  exact sh_R_p4 (sh_R_p4 (sh_R_p4 (sh_R_p4 hR i a) (i + 1) b) (i + 2) c) (i + 3) d
theorem sh_R_out {n : Nat} {fw : Nat → Int32} (x : sh_T) (hm : n ≤ 32) (d : Nat → Int32) : sh_R n (sh_cp (sh_dis (sh_f8 x)) d 32) (sh_o8 fw x) := by
  intro j hj
  rw [sh_cp_at (by omega), sh_o8_at fw x (j / 4) (by omega)]
  exact sh_bu_b _ _
theorem sh_R_cp {fb fw gb gw : Nat → Int32} (h1 : sh_R 32 fb fw) : sh_R 32 (sh_cp fb gb 32) (sh_cp fw gw 8) := by
  intro j hj
  rw [sh_cp_at hj, sh_cp_at (by omega)]
  exact h1 j hj
theorem sh_R_0 (n : Nat) : sh_R n sh_z sh_z := by
  intro j _
  have h4 : j % 4 < 4 := by omega
  have hz : ∀ r, r < 4 → sh_b 0 r = 0 := by decide +kernel
  exact (hz _ h4).symm
/-- what a byte array holds fits -/
def sh_N (n : Nat) (f : Nat → Int32) : Prop := ∀ j, j < n → vp_nar .byte (f j) = f j ∧ fits .byte (.int (f j)) = true
theorem sh_N_R {n : Nat} {fb fw : Nat → Int32} (hR : sh_R n fb fw) : sh_N n fb := by
  intro j hj
  rw [hR j hj]
  match j % 4 with
  | 0 => exact ⟨pk_vb _, pk_fb _⟩
  | 1 => exact ⟨pk_vb _, pk_fb _⟩
  | 2 => exact ⟨pk_vb _, pk_fb _⟩
  | k + 3 => exact ⟨pk_vb _, pk_fb _⟩
end
section
/-! rows of mine over the kit's: values and contents come by an equation -/
abbrev zcl : List vw_C := [(RX0, TX0, 3), (RX1, TX1, 3), (RX2, TX2, 2), (RX3, TX3, 1)]
abbrev zTy : Type := List (ClassId × FieldType)
/-- an int array, a byte array: a cell of n places that hold f -/
abbrev zar (d : ClassId) (n : Nat) (f : Nat → Int32) : va_E := .inl (d, n, .inl f)
/-- a method's start: its world -/
def zW (D : va_G) (ws : va_W) (tys : zTy) (sz : Nat) (U : State) : Prop := U.heap.size = sz ∧ va_P D zcl ws U.heap ∧ va_K D zcl tys U ∧ va_D (fun _ => True) ws
/-- .. and its end -/
def zB (D : va_G) (ws : va_W) (tys : zTy) (A : Nat → Prop) (t : State) : Prop := va_P D zcl ws t.heap ∧ va_K D zcl tys t ∧ va_D A ws
def sh_K : Nat → Int32 := fun j => ([1116352408, 1899447441, -1245643825, -373957723, 961987163, 1508970993, -1841331548, -1424204075, -670586216, 310598401, 607225278, 1426881987, 1925078388, -2132889090, -1680079193, -1046744716, -459576895, -272742522, 264347078, 604807628, 770255983, 1249150122, 1555081692, 1996064986, -1740746414, -1473132947, -1341970488, -1084653625, -958395405, -710438585, 113926993, 338241895, 666307205, 773529912, 1294757372, 1396182291, 1695183700, 1986661051, -2117940946, -1838011259, -1564481375, -1474664885, -1035236496, -949202525, -778901479, -694614492, -200395387, 275423344, 430227734, 506948616, 659060556, 883997877, 958139571, 1322822218, 1537002063, 1747873779, 1955562222, 2024104815, -2067236844, -1933114872, -1866530822, -1538233109, -1090935817, -965641998] : List Int32).getD j 0
/-- a static table of the 64 constants, and nobody writes it -/
def zZ (C n : String) (t : Nat) (A : Nat → Prop) (U : State) (H : Heap) : Prop := va_Z C n "[I" (.ref t) A U H ∧ va_T .int t 64 (fun j => .int (sh_K j)) A U H
theorem zZ.moved {C n : String} {t : Nat} {A : Nat → Prop} {u U : State} {H : Heap} (hvm : u.vm.Alike U.vm) (h : zZ C n t A u H) : zZ C n t A U H := ⟨h.1.moved hvm, h.2.moved hvm⟩
theorem zZ.kept {C n : String} {t : Nat} {A : Nat → Prop} {U : State} {H H1 : Heap} (h : zZ C n t A U H) (hq : ∀ a : Nat, a < H.size → ¬ A a → H1[a]? = H[a]?) : zZ C n t A U H1 := ⟨h.1.kept hq, h.2.kept hq⟩
theorem zZ.narrow {C n : String} {t : Nat} {A B : Nat → Prop} {U : State} {H : Heap} (h : zZ C n t A U H) (hAB : ∀ q, B q → A q) : zZ C n t B U H := ⟨h.1.narrow hAB, h.2.narrow hAB⟩
def yBi : MethodName := ⟨"BlockCipher", "init", "(ZLCipherParameters;)V"⟩
def yBp : MethodName := ⟨"BlockCipher", "processBlock", "([BI[BI)I"⟩
/-- what a method carries beside its cells: the two tables, the interface's words -/
def zE (tk tc : Nat) (A : Nat → Prop) (U : State) (H : Heap) : Prop := zZ RX2 "K" tk A U H ∧ zZ RX1 "CONSTANTS" tc A U H ∧ va_Fw RX2 yBi yX2_init_2 U ∧ va_Fw RX2 yBp yX2_processBlock U
theorem zE.moved {tk tc : Nat} {A : Nat → Prop} {u U : State} {H : Heap} (hvm : u.vm.Alike U.vm) (h : zE tk tc A u H) : zE tk tc A U H := ⟨h.1.moved hvm, h.2.1.moved hvm, va_Fw.moved (by decide +kernel) hvm h.2.2.1, va_Fw.moved (by decide +kernel) hvm h.2.2.2⟩
theorem zE.kept {tk tc : Nat} {A : Nat → Prop} {U : State} {H H1 : Heap} (h : zE tk tc A U H) (hq : ∀ a : Nat, a < H.size → ¬ A a → H1[a]? = H[a]?) : zE tk tc A U H1 := ⟨h.1.kept hq, h.2.1.kept hq, h.2.2⟩
theorem zE.narrow {tk tc : Nat} {A B : Nat → Prop} {U : State} {H : Heap} (h : zE tk tc A U H) (hAB : ∀ q, B q → A q) : zE tk tc B U H := ⟨h.1.narrow hAB, h.2.1.narrow hAB, h.2.2⟩
/-- a start with what is carried -/
def zV (tk tc : Nat) (D : va_G) (ws : va_W) (tys : zTy) (sz : Nat) (U : State) : Prop := zW D ws tys sz U ∧ zE tk tc (va_A ws sz) U U.heap
section ZP
variable {s : State} {H : Heap} {D : va_G} {ws : va_W} {tys : zTy} {A : Nat → Prop} {locs : List Loc} {tk tc : Nat}
theorem z_preS (av : List Value) (hP : va_P D zcl ws H) (hK : va_K D zcl tys s) (hD : va_D A ws) : PreS s H (va_Pc av (zW D ws tys H.size)) av :=
  ⟨fun a U g mk q => by obtain ⟨q0, q1, qP, qK, qD⟩ := q; exact ⟨q0, q1, qP, va_K.moved (u := U) (U := U.calling g mk a) (Vm.Alike.refl U.vm) qK, qD⟩, fun U hU hW => ⟨rfl, by rw [hU], by rw [hU]; exact hP, va_K.moved hW.alike hK, hD.weaken (fun _ _ _ _ => trivial)⟩⟩
theorem z_preV (As : List Value) {C : String} {b : Nat} (hP : va_P D zcl ws H) (hK : va_K D zcl tys s) (hD : va_D A ws) (hr : ∃ cell : Cell, H[b]? = some cell ∧ cell.vm.isStatics = false ∧ s.vm.findClass C = some cell.cls) : PreV s H C b (va_Pc (.ref b :: As) (zW D ws tys H.size)) As :=
  ⟨(z_preS (.ref b :: As) hP hK hD).1, hr, (z_preS (.ref b :: As) hP hK hD).2⟩
theorem z_preSE (av : List Value) (hP : va_P D zcl ws H) (hK : va_K D zcl tys s) (hD : va_D A ws) {A0 : Nat → Prop} (hZ : zE tk tc A0 s s.heap) (hS : va_S A0 s.heap H locs) (hF : ∀ q, va_A ws H.size q → A0 q) : PreS s H (va_Pc av (zV tk tc D ws tys H.size)) av :=
  ⟨fun a U g mk q => by obtain ⟨q0, ⟨q1, qP, qK, qD⟩, qZ⟩ := q; exact ⟨q0, ⟨q1, qP, va_K.moved (u := U) (U := U.calling g mk a) (Vm.Alike.refl U.vm) qK, qD⟩, zE.moved (u := U) (U := U.calling g mk a) (Vm.Alike.refl U.vm) qZ⟩, fun U hU hW => ⟨rfl, ⟨by rw [hU], by rw [hU]; exact hP, va_K.moved hW.alike hK, hD.weaken (fun _ _ _ _ => trivial)⟩, by rw [hU]; exact ((hZ.kept hS.2.1).narrow hF).moved hW.alike⟩⟩
theorem z_preVE (As : List Value) {C : String} {b : Nat} (hP : va_P D zcl ws H) (hK : va_K D zcl tys s) (hD : va_D A ws) {A0 : Nat → Prop} (hZ : zE tk tc A0 s s.heap) (hS : va_S A0 s.heap H locs) (hF : ∀ q, va_A ws H.size q → A0 q) (hr : ∃ cell : Cell, H[b]? = some cell ∧ cell.vm.isStatics = false ∧ s.vm.findClass C = some cell.cls) : PreV s H C b (va_Pc (.ref b :: As) (zV tk tc D ws tys H.size)) As :=
  ⟨(z_preSE (.ref b :: As) hP hK hD hZ hS hF).1, hr, (z_preSE (.ref b :: As) hP hK hD hZ hS hF).2⟩
end ZP
theorem z_inc (i : Nat) : nI i + Int32.ofInt 1 = nI (i + 1) := nI_1 i
theorem z_inc6 (i : Nat) : nI i + Int32.ofInt 6 = nI (i + 6) := nI_add i 6
theorem z_dec (i : Nat) : nI (i + 1) + Int32.ofInt (-1) = nI i := pk_m1 i
section ZR
variable {p : Program} {l : Launch} {e : Env} {R : Room} {s : State} {m : MethodId} {args : Array Value} {below : List Frame} {meth : Method} {c : Code} {H : Heap} {locs : List Loc} {cells slots : Nat} {Q : State → Prop}
variable {cc : ByteArray} {pc : Nat} {ls : Array Slot} {rest : List Value} {D : va_G} {A : Nat → Prop} {a : Nat} {tys : zTy} {ws : va_W} {H0 : Heap}
theorem z_top {x y : Int32} (h : x = y) (k : W p l e R s m args below meth c H locs cells slots Q (F0 m pc ls (.int y :: rest))) : W p l e R s m args below meth c H locs cells slots Q (F0 m pc ls (.int x :: rest)) := by
  rw [h]; exact k
theorem z_in {i : Int32} {k n : Nat} (hi : i = nI k) (hk : k < n) (hn : n < 2147483648) : vp_in i n ∧ i.toNatClampNeg = k := by
  subst hi
  exact ⟨vp_in_nI hk hn, nI_clamp (by omega)⟩
theorem z_ild (hexec : p.tables.exec = Jvm.exec) (hb : c.code = cc) (hK : va_K D zcl tys s) (hP : va_P D zcl ws H) (q0 t0 : Nat) {cA : ClassId} {n : Nat} {f : Nat → Int32} (ha : ws[q0]? = some (a, zar cA n f)) (ht : tys[t0]? = some (cA, .int)) {i v : Int32} (k : Nat) (hi : i = nI k) (hk : k < n) (hn : n < 2147483648) (hv : f k = v) (hdg : decode cc pc = .ok (.iaload, 1))
    (kk : W p l e R s m args below meth c H locs cells slots Q (F0 m (pc + 1) ls (.int v :: rest))) : W p l e R s m args below meth c H locs cells slots Q (F0 m pc ls (.int i :: .ref a :: rest)) := by
  obtain ⟨h1, h2⟩ := z_in hi hk hn
  exact va_iald hexec hb hK hP q0 t0 ha ht h1 hdg (by rw [h2, hv]; exact kk)
theorem z_bld (hexec : p.tables.exec = Jvm.exec) (hb : c.code = cc) (hK : va_K D zcl tys s) (hP : va_P D zcl ws H) (q0 t0 : Nat) {cA : ClassId} {n : Nat} {f : Nat → Int32} (ha : ws[q0]? = some (a, zar cA n f)) (ht : tys[t0]? = some (cA, .byte)) {i v : Int32} (k : Nat) (hi : i = nI k) (hk : k < n) (hn : n < 2147483648) (hv : f k = v) (hdg : decode cc pc = .ok (.baload, 1))
    (kk : W p l e R s m args below meth c H locs cells slots Q (F0 m (pc + 1) ls (.int v :: rest))) : W p l e R s m args below meth c H locs cells slots Q (F0 m pc ls (.int i :: .ref a :: rest)) := by
  obtain ⟨h1, h2⟩ := z_in hi hk hn
  exact va_bald hexec hb hK hP q0 t0 ha ht h1 hdg (by rw [h2, hv]; exact kk)
theorem z_ist (hexec : p.tables.exec = Jvm.exec) (hb : c.code = cc) (hK : va_K D zcl tys s) (hP : va_P D zcl ws H) (hD : va_D A ws) (hS : va_S A H0 H locs) (q0 t0 : Nat) {cA : ClassId} {n : Nat} {f f' : Nat → Int32} (ha : ws[q0]? = some (a, zar cA n f)) (ht : tys[t0]? = some (cA, .int)) {i x : Int32} (k : Nat) (hi : i = nI k) (hk : k < n) (hn : n < 2147483648) (hf : upd f k x = f') (hdg : decode cc pc = .ok (.iastore, 1))
    (kk : ∀ (H1 : Heap) (locs1 : List Loc), va_P D zcl (ws.set q0 (a, zar cA n f')) H1 → va_D A (ws.set q0 (a, zar cA n f')) → va_S A H0 H1 locs1 → W p l e R s m args below meth c H1 locs1 cells slots Q (F0 m (pc + 1) ls rest)) : W p l e R s m args below meth c H locs cells slots Q (F0 m pc ls (.int x :: .int i :: .ref a :: rest)) := by
  obtain ⟨h1, h2⟩ := z_in hi hk hn
  subst hf
  subst h2
  exact va_iast hexec hb hK hP hD hS q0 t0 ha ht h1 hdg kk
theorem z_bst (hexec : p.tables.exec = Jvm.exec) (hb : c.code = cc) (hK : va_K D zcl tys s) (hP : va_P D zcl ws H) (hD : va_D A ws) (hS : va_S A H0 H locs) (q0 t0 : Nat) {cA : ClassId} {n : Nat} {f f' : Nat → Int32} (ha : ws[q0]? = some (a, zar cA n f)) (ht : tys[t0]? = some (cA, .byte)) {i x : Int32} (k : Nat) (hi : i = nI k) (hk : k < n) (hn : n < 2147483648) (hx : vp_nar .byte x = x) (hf : upd f k x = f') (hdg : decode cc pc = .ok (.bastore, 1))
    (kk : ∀ (H1 : Heap) (locs1 : List Loc), va_P D zcl (ws.set q0 (a, zar cA n f')) H1 → va_D A (ws.set q0 (a, zar cA n f')) → va_S A H0 H1 locs1 → W p l e R s m args below meth c H1 locs1 cells slots Q (F0 m (pc + 1) ls rest)) : W p l e R s m args below meth c H locs cells slots Q (F0 m pc ls (.int x :: .int i :: .ref a :: rest)) := by
  obtain ⟨h1, h2⟩ := z_in hi hk hn
  subst hf
  subst h2
  exact va_bast hexec hb hK hP hD hS q0 t0 ha ht h1 hdg (by rw [hx]; exact kk)
theorem z_tld (hexec : p.tables.exec = Jvm.exec) (hb : c.code = cc) {t : Nat} (hT : va_T .int t 64 (fun j => .int (sh_K j)) A s s.heap) (hS : va_S A s.heap H locs) {i : Int32} (k : Nat) (hi : i = nI k) (hk : k < 64) (hdg : decode cc pc = .ok (.iaload, 1))
    (kk : W p l e R s m args below meth c H locs cells slots Q (F0 m (pc + 1) ls (.int (sh_K k) :: rest))) : W p l e R s m args below meth c H locs cells slots Q (F0 m pc ls (.int i :: .ref t :: rest)) := by
  obtain ⟨h1, h2⟩ := z_in hi hk (by decide)
  exact va_ti hexec hb hT hS h1 (by rw [h2]) hdg kk
theorem z_ge_t (hexec : p.tables.exec = Jvm.exec) (hb : c.code = cc) {x y : Int32} {off : Int} {tgt : Nat} (hdg : decode cc pc = .ok (.if_icmp .ge off, 3)) (ht : (pc : Int) + off = (tgt : Int)) (h : y ≤ x)
    (k : W p l e R s m args below meth c H locs cells slots Q (F0 m tgt ls rest)) : W p l e R s m args below meth c H locs cells slots Q (F0 m pc ls (.int y :: .int x :: rest)) :=
  lv_icmp_ge hexec hb hdg ht (fun _ => k) (fun n => absurd h n)
theorem z_ge_f (hexec : p.tables.exec = Jvm.exec) (hb : c.code = cc) {x y : Int32} {off : Int} {tgt : Nat} (hdg : decode cc pc = .ok (.if_icmp .ge off, 3)) (ht : (pc : Int) + off = (tgt : Int)) (h : ¬ y ≤ x)
    (k : W p l e R s m args below meth c H locs cells slots Q (F0 m (pc + 3) ls rest)) : W p l e R s m args below meth c H locs cells slots Q (F0 m pc ls (.int y :: .int x :: rest)) :=
  lv_icmp_ge hexec hb hdg ht (fun z => absurd z h) (fun _ => k)
theorem z_le_t (hexec : p.tables.exec = Jvm.exec) (hb : c.code = cc) {x y : Int32} {off : Int} {tgt : Nat} (hdg : decode cc pc = .ok (.if_icmp .le off, 3)) (ht : (pc : Int) + off = (tgt : Int)) (h : x ≤ y)
    (k : W p l e R s m args below meth c H locs cells slots Q (F0 m tgt ls rest)) : W p l e R s m args below meth c H locs cells slots Q (F0 m pc ls (.int y :: .int x :: rest)) :=
  lv_icmp_le hexec hb hdg ht (fun _ => k) (fun n => absurd h n)
theorem z_le_f (hexec : p.tables.exec = Jvm.exec) (hb : c.code = cc) {x y : Int32} {off : Int} {tgt : Nat} (hdg : decode cc pc = .ok (.if_icmp .le off, 3)) (ht : (pc : Int) + off = (tgt : Int)) (h : ¬ x ≤ y)
    (k : W p l e R s m args below meth c H locs cells slots Q (F0 m (pc + 3) ls rest)) : W p l e R s m args below meth c H locs cells slots Q (F0 m pc ls (.int y :: .int x :: rest)) :=
  lv_icmp_le hexec hb hdg ht (fun z => absurd z h) (fun _ => k)
theorem z_lt_t (hexec : p.tables.exec = Jvm.exec) (hb : c.code = cc) {x y : Int32} {off : Int} {tgt : Nat} (hdg : decode cc pc = .ok (.if_icmp .lt off, 3)) (ht : (pc : Int) + off = (tgt : Int)) (h : x < y)
    (k : W p l e R s m args below meth c H locs cells slots Q (F0 m tgt ls rest)) : W p l e R s m args below meth c H locs cells slots Q (F0 m pc ls (.int y :: .int x :: rest)) :=
  lv_icmp_lt hexec hb hdg ht (fun _ => k) (fun n => absurd h n)
theorem z_lt_f (hexec : p.tables.exec = Jvm.exec) (hb : c.code = cc) {x y : Int32} {off : Int} {tgt : Nat} (hdg : decode cc pc = .ok (.if_icmp .lt off, 3)) (ht : (pc : Int) + off = (tgt : Int)) (h : ¬ x < y)
    (k : W p l e R s m args below meth c H locs cells slots Q (F0 m (pc + 3) ls rest)) : W p l e R s m args below meth c H locs cells slots Q (F0 m pc ls (.int y :: .int x :: rest)) :=
  lv_icmp_lt hexec hb hdg ht (fun z => absurd z h) (fun _ => k)
theorem z_gt_t (hexec : p.tables.exec = Jvm.exec) (hb : c.code = cc) {x y : Int32} {off : Int} {tgt : Nat} (hdg : decode cc pc = .ok (.if_icmp .gt off, 3)) (ht : (pc : Int) + off = (tgt : Int)) (h : y < x)
    (k : W p l e R s m args below meth c H locs cells slots Q (F0 m tgt ls rest)) : W p l e R s m args below meth c H locs cells slots Q (F0 m pc ls (.int y :: .int x :: rest)) :=
  lv_icmp_gt hexec hb hdg ht (fun _ => k) (fun n => absurd h n)
theorem z_gt_f (hexec : p.tables.exec = Jvm.exec) (hb : c.code = cc) {x y : Int32} {off : Int} {tgt : Nat} (hdg : decode cc pc = .ok (.if_icmp .gt off, 3)) (ht : (pc : Int) + off = (tgt : Int)) (h : ¬ y < x)
    (k : W p l e R s m args below meth c H locs cells slots Q (F0 m (pc + 3) ls rest)) : W p l e R s m args below meth c H locs cells slots Q (F0 m pc ls (.int y :: .int x :: rest)) :=
  lv_icmp_gt hexec hb hdg ht (fun z => absurd z h) (fun _ => k)
theorem z_if_eq_t (hexec : p.tables.exec = Jvm.exec) (hb : c.code = cc) {x : Int32} {off : Int} {tgt : Nat} (hdg : decode cc pc = .ok (.ifCond .eq off, 3)) (ht : (pc : Int) + off = (tgt : Int)) (h : x = 0)
    (k : W p l e R s m args below meth c H locs cells slots Q (F0 m tgt ls rest)) : W p l e R s m args below meth c H locs cells slots Q (F0 m pc ls (.int x :: rest)) :=
  lv_if_eq hexec hb hdg ht (fun _ => k) (fun n => absurd h n)
theorem z_if_eq_f (hexec : p.tables.exec = Jvm.exec) (hb : c.code = cc) {x : Int32} {off : Int} {tgt : Nat} (hdg : decode cc pc = .ok (.ifCond .eq off, 3)) (ht : (pc : Int) + off = (tgt : Int)) (h : ¬ x = 0)
    (k : W p l e R s m args below meth c H locs cells slots Q (F0 m (pc + 3) ls rest)) : W p l e R s m args below meth c H locs cells slots Q (F0 m pc ls (.int x :: rest)) :=
  lv_if_eq hexec hb hdg ht (fun z => absurd z h) (fun _ => k)
theorem z_if_ne_t (hexec : p.tables.exec = Jvm.exec) (hb : c.code = cc) {x : Int32} {off : Int} {tgt : Nat} (hdg : decode cc pc = .ok (.ifCond .ne off, 3)) (ht : (pc : Int) + off = (tgt : Int)) (h : ¬ x = 0)
    (k : W p l e R s m args below meth c H locs cells slots Q (F0 m tgt ls rest)) : W p l e R s m args below meth c H locs cells slots Q (F0 m pc ls (.int x :: rest)) :=
  lv_if_ne hexec hb hdg ht (fun _ => k) (fun n => absurd n h)
theorem z_if_lt_t (hexec : p.tables.exec = Jvm.exec) (hb : c.code = cc) {x : Int32} {off : Int} {tgt : Nat} (hdg : decode cc pc = .ok (.ifCond .lt off, 3)) (ht : (pc : Int) + off = (tgt : Int)) (h : x < 0)
    (k : W p l e R s m args below meth c H locs cells slots Q (F0 m tgt ls rest)) : W p l e R s m args below meth c H locs cells slots Q (F0 m pc ls (.int x :: rest)) :=
  lv_if_lt hexec hb hdg ht (fun _ => k) (fun n => absurd h n)
theorem z_if_lt_f (hexec : p.tables.exec = Jvm.exec) (hb : c.code = cc) {x : Int32} {off : Int} {tgt : Nat} (hdg : decode cc pc = .ok (.ifCond .lt off, 3)) (ht : (pc : Int) + off = (tgt : Int)) (h : ¬ x < 0)
    (k : W p l e R s m args below meth c H locs cells slots Q (F0 m (pc + 3) ls rest)) : W p l e R s m args below meth c H locs cells slots Q (F0 m pc ls (.int x :: rest)) :=
  lv_if_lt hexec hb hdg ht (fun z => absurd z h) (fun _ => k)
theorem z_icmp_eq_t (hexec : p.tables.exec = Jvm.exec) (hb : c.code = cc) {x y : Int32} {off : Int} {tgt : Nat} (hdg : decode cc pc = .ok (.if_icmp .eq off, 3)) (ht : (pc : Int) + off = (tgt : Int)) (h : x = y)
    (k : W p l e R s m args below meth c H locs cells slots Q (F0 m tgt ls rest)) : W p l e R s m args below meth c H locs cells slots Q (F0 m pc ls (.int y :: .int x :: rest)) :=
  lv_icmp_eq hexec hb hdg ht (fun _ => k) (fun n => absurd h n)
end ZR
/-- a counter that falls: one below r -/
def sh_m (r : Nat) : Int32 := nI r + (-1)
theorem sh_m_s (r : Nat) : sh_m (r + 1) = nI r := pk_m1 r
theorem sh_m_0 : sh_m 0 < 0 := by decide
theorem sh_m_0le : sh_m 0 ≤ (-1 : Int32) := by decide
theorem sh_m_d (r : Nat) : nI r + Int32.ofInt (-1) = sh_m r := rfl
theorem nI_nlem1 {r : Nat} (h : r < 2147483648) : ¬ nI r ≤ (-1 : Int32) := by
  intro q
  have h1 := Int32.le_iff_toInt_le.mp q
  rw [nI_toInt h] at h1
  have h2 : (-1 : Int32).toInt = -1 := by decide
  omega
theorem z_lwF {own : String} {idx : Nat} {C : String} {x y : MethodName} {b : ByteArray} {L : Nat} {r : Option FieldType} (h1 : Cond.methodLink own idx x ∈ lw_all) (h2 : Cond.selects C x y ∈ lw_all) (h3 : Cond.instanceMethod y ∈ lw_all) (h4 : Cond.initialized y.cls ∈ lw_all) (h5 : Cond.code y b L r ∈ lw_all) : GoodIn lw_all (va_wsF own idx C x y (ws_ y b L r)) := by
  refine lw_app ?_ (lw_meth h5)
  intro w hw
  simp only [List.mem_cons, List.not_mem_nil, or_false] at hw
  rcases hw with e | e | e | e
  · rw [e]; exact h1
  · rw [e]; exact h2
  · rw [e]; exact h3
  · rw [e]; exact h4
theorem sh_dis0 (f : Nat → Int32) (i : Nat) : sh_dis f (4 * i) = (sh_us (f i) (24 : Int32)).toInt8.toInt32 := by
  unfold sh_dis
  rw [show 4 * i / 4 = i by omega, show 4 * i % 4 = 0 by omega]
  rfl
theorem sh_dis1 (f : Nat → Int32) (i : Nat) : sh_dis f (4 * i + 1) = (sh_us (f i) (16 : Int32)).toInt8.toInt32 := by
  unfold sh_dis
  rw [show (4 * i + 1) / 4 = i by omega, show (4 * i + 1) % 4 = 1 by omega]
  rfl
theorem sh_dis2 (f : Nat → Int32) (i : Nat) : sh_dis f (4 * i + 2) = (sh_us (f i) (8 : Int32)).toInt8.toInt32 := by
  unfold sh_dis
  rw [show (4 * i + 2) / 4 = i by omega, show (4 * i + 2) % 4 = 2 by omega]
  rfl
theorem sh_dis3 (f : Nat → Int32) (i : Nat) : sh_dis f (4 * i + 3) = (f i).toInt8.toInt32 := by
  unfold sh_dis
  rw [show (4 * i + 3) / 4 = i by omega, show (4 * i + 3) % 4 = 3 by omega]
  rfl
theorem z_cpy (f g : Nat → Int32) : va_cpy f g (0 : Int32).toNatClampNeg (0 : Int32).toNatClampNeg (64 : Int32).toNatClampNeg = sh_cp f g 64 := by
  have h0 : (0 : Int32).toNatClampNeg = 0 := by decide
  have h64 : (64 : Int32).toNatClampNeg = 64 := by decide
  rw [h0, h64]
  funext k
  show (if 0 ≤ k ∧ k < 0 + 64 then f (0 + (k - 0)) else g k) = if k < 64 then f k else g k
  rcases Nat.lt_or_ge k 64 with q | q
  · rw [if_pos (by omega), if_pos q, Nat.zero_add, Nat.sub_zero]
  · rw [if_neg (by omega), if_neg (by omega)]
theorem sh_N_cp {n : Nat} {f g : Nat → Int32} (h : sh_N n f) : sh_N n (sh_cp f g n) := fun j hj => by rw [sh_cp_at hj]; exact h j hj
theorem z_KF (kb : Nat → Int32) : sh_sch (sh_asm (sh_cp (sh_cp kb sh_z 64) sh_z 64)) = sh_sch (sh_asm kb) := by
  refine sh_sch_congr (fun j hj => ?_)
  unfold sh_asm
  rw [sh_cp_at (by omega), sh_cp_at (by omega), sh_cp_at (by omega), sh_cp_at (by omega), sh_cp_at (by omega), sh_cp_at (by omega), sh_cp_at (by omega), sh_cp_at (by omega)]
theorem z_sh4 {j : Nat} (h : j < 8) : nI j <<< ((4 : Int32) &&& 31) = nI (4 * (4 * j)) := by
  rw [pk_shlN ((4 : Int32) &&& 31) 4 (by decide) (by omega)]
  congr 1
  omega
theorem sh_addr (a b h k w : Int32) : a + b + h + k + w = h + a + b + k + w := by rw [Int32.add_comm (a + b) h, ← Int32.add_assoc]
theorem sh_subs (a b c : Int32) : a - b - c = a - (b + c) := by grind
theorem sh_subr (a k w s c : Int32) : a - k - w - s - c = a - s - c - k - w := by grind
end
section
set_option maxHeartbeats 4000000 in
set_option maxRecDepth 100000 in
theorem zX1_turnRight (l : Launch) (x n : Int32) : Met l yX1_turnRight (ws_ yX1_turnRight cX1_turnRight 2 (some .int)) ({ frames := 0, cells := 0, slots := 0, locals := 0 }) (va_Pc [.int x, .int n] (fun _ => True)) (vp_Si (fun r => r = sh_tr x n)) 0 0 (fun _ => False) := by
  refine Met.ofW (cc := cX1_turnRight) (maxL := 2) (ret := (some .int)) (by decide) rfl ?_
  intro p e s m args below meth c s₁ B hml hv
  obtain ⟨rfl, -⟩ := hv
  have hx := B.exec
  have hb := B.bytes
  have hr := B.returns
  have hts := atoms_spec (ws := (ws_ yX1_turnRight cX1_turnRight 2 (some .int))) B.pre
  have hts : ∀ w ∈ lw_all, w.before _ s = true := fun w h => hts w (List.mem_cons_of_mem _ h)
  have hown : s.vm.findClass RX1 = some m.cls := findClass_of_methodNamed B.named
  have hlocks := B.notSynchronized
  have hl := lv_entry ([.int x, .int n]) (n := 2) (Nat.le_of_ble_eq_true rfl)
  rw [lg_entry_eq]
  generalize (lg_sl ([.int x, .int n]) ++ List.replicate (2 - (lg_sl ([.int x, .int n])).length) Slot.unset).toArray = ls at hl ⊢
  have hl : lv_has ls 2 [(0, .int x), (1, .int n)] := hl
  refine lv_iload_n hx hb dX1_turnRight_0 rfl (lv_at hl 0 rfl) ?_
  refine lv_iload_n hx hb dX1_turnRight_1 rfl (lv_at hl 1 rfl) ?_
  refine lv_iushr (v := (sh_us x n)) hx hb dX1_turnRight_2 rfl ?_
  refine lv_iload_n hx hb dX1_turnRight_3 rfl (lv_at hl 0 rfl) ?_
  refine lv_bipush (v := (32 : Int32)) hx hb dX1_turnRight_4 (by decide) ?_
  refine lv_iload_n hx hb dX1_turnRight_6 rfl (lv_at hl 1 rfl) ?_
  refine lv_isub hx hb dX1_turnRight_7 ?_
  refine lv_ishl hx hb dX1_turnRight_8 ?_
  refine lv_ior hx hb dX1_turnRight_9 ?_
  exact W.iret (v := ((sh_us x n) ||| (x <<< (((32 : Int32) - n) &&& 31)))) hx hb hr (fun t ht hW => ⟨_, rfl, rfl, ht⟩) (fun _ h => by cases h) dX1_turnRight_10

set_option maxHeartbeats 4000000 in
set_option maxRecDepth 100000 in
theorem zX1_bigSigma0 (l : Launch) (x : Int32) : Met l yX1_bigSigma0 (ws_ yX1_bigSigma0 cX1_bigSigma0 1 (some .int)) ({ frames := 1, cells := 0, slots := 0, locals := 21 }) (va_Pc [.int x] (fun _ => True)) (vp_Si (fun r => r = sh_S0 x)) 0 0 (fun _ => False) := by
  refine Met.ofW (cc := cX1_bigSigma0) (maxL := 1) (ret := (some .int)) (by decide) rfl ?_
  intro p e s m args below meth c s₁ B hml hv
  obtain ⟨rfl, -⟩ := hv
  have hx := B.exec
  have hb := B.bytes
  have hr := B.returns
  have hts := atoms_spec (ws := (ws_ yX1_bigSigma0 cX1_bigSigma0 1 (some .int))) B.pre
  have hts : ∀ w ∈ lw_all, w.before _ s = true := fun w h => hts w (List.mem_cons_of_mem _ h)
  have hown : s.vm.findClass RX1 = some m.cls := findClass_of_methodNamed B.named
  have hlocks := B.notSynchronized
  have hl := lv_entry ([.int x]) (n := 1) (Nat.le_of_ble_eq_true rfl)
  rw [lg_entry_eq]
  generalize (lg_sl ([.int x]) ++ List.replicate (1 - (lg_sl ([.int x])).length) Slot.unset).toArray = ls at hl ⊢
  have hl : lv_has ls 1 [(0, .int x)] := hl
  refine lv_iload_n hx hb dX1_bigSigma0_0 rfl (lv_at hl 0 rfl) ?_
  refine lv_iconst (v := (2 : Int32)) hx hb dX1_bigSigma0_1 (by decide) ?_
  refine vp_callSi (W.runS (As := [.int x, .int (2 : Int32)]) (rest := []) ⟨hx, hb, hml, hown, hts⟩ (zX1_turnRight l x (2 : Int32)) (va_cwS 2 hts (lw_S q313 q314 q11 q315) rfl rfl rfl (by decide +kernel) ⟨(Nat.le_of_ble_eq_true rfl), (Nat.le_of_ble_eq_true rfl)⟩) ⟨fun _ _ _ _ q => q, fun _ _ _ => ⟨rfl, trivial⟩⟩ rfl rfl hl.1 rfl (lv_room (Nat.le_of_ble_eq_true rfl)) dX1_bigSigma0_2 ⟨(Nat.le_of_ble_eq_true rfl), (Nat.le_of_ble_eq_true rfl)⟩) (nm_e ?_)
  refine lv_iload_n hx hb dX1_bigSigma0_5 rfl (lv_at hl 0 rfl) ?_
  refine lv_bipush (v := (13 : Int32)) hx hb dX1_bigSigma0_6 (by decide) ?_
  refine vp_callSi (W.runS (As := [.int x, .int (13 : Int32)]) (rest := [.int (sh_tr x (2 : Int32))]) ⟨hx, hb, hml, hown, hts⟩ (zX1_turnRight l x (13 : Int32)) (va_cwS 2 hts (lw_S q313 q314 q11 q315) rfl rfl rfl (by decide +kernel) ⟨(Nat.le_of_ble_eq_true rfl), (Nat.le_of_ble_eq_true rfl)⟩) ⟨fun _ _ _ _ q => q, fun _ _ _ => ⟨rfl, trivial⟩⟩ rfl rfl hl.1 rfl (lv_room (Nat.le_of_ble_eq_true rfl)) dX1_bigSigma0_8 ⟨(Nat.le_of_ble_eq_true rfl), (Nat.le_of_ble_eq_true rfl)⟩) (nm_e ?_)
  refine lv_ixor hx hb dX1_bigSigma0_11 ?_
  refine lv_iload_n hx hb dX1_bigSigma0_12 rfl (lv_at hl 0 rfl) ?_
  refine lv_bipush (v := (22 : Int32)) hx hb dX1_bigSigma0_13 (by decide) ?_
  refine vp_callSi (W.runS (As := [.int x, .int (22 : Int32)]) (rest := [.int ((sh_tr x (2 : Int32)) ^^^ (sh_tr x (13 : Int32)))]) ⟨hx, hb, hml, hown, hts⟩ (zX1_turnRight l x (22 : Int32)) (va_cwS 2 hts (lw_S q313 q314 q11 q315) rfl rfl rfl (by decide +kernel) ⟨(Nat.le_of_ble_eq_true rfl), (Nat.le_of_ble_eq_true rfl)⟩) ⟨fun _ _ _ _ q => q, fun _ _ _ => ⟨rfl, trivial⟩⟩ rfl rfl hl.1 rfl (lv_room (Nat.le_of_ble_eq_true rfl)) dX1_bigSigma0_15 ⟨(Nat.le_of_ble_eq_true rfl), (Nat.le_of_ble_eq_true rfl)⟩) (nm_e ?_)
  refine lv_ixor hx hb dX1_bigSigma0_18 ?_
  exact W.iret (v := (((sh_tr x (2 : Int32)) ^^^ (sh_tr x (13 : Int32))) ^^^ (sh_tr x (22 : Int32)))) hx hb hr (fun t ht hW => ⟨_, rfl, rfl, ht⟩) (fun _ h => by cases h) dX1_bigSigma0_19

set_option maxHeartbeats 4000000 in
set_option maxRecDepth 100000 in
theorem zX1_bigSigma1 (l : Launch) (x : Int32) : Met l yX1_bigSigma1 (ws_ yX1_bigSigma1 cX1_bigSigma1 1 (some .int)) ({ frames := 1, cells := 0, slots := 0, locals := 21 }) (va_Pc [.int x] (fun _ => True)) (vp_Si (fun r => r = sh_S1 x)) 0 0 (fun _ => False) := by
  refine Met.ofW (cc := cX1_bigSigma1) (maxL := 1) (ret := (some .int)) (by decide) rfl ?_
  intro p e s m args below meth c s₁ B hml hv
  obtain ⟨rfl, -⟩ := hv
  have hx := B.exec
  have hb := B.bytes
  have hr := B.returns
  have hts := atoms_spec (ws := (ws_ yX1_bigSigma1 cX1_bigSigma1 1 (some .int))) B.pre
  have hts : ∀ w ∈ lw_all, w.before _ s = true := fun w h => hts w (List.mem_cons_of_mem _ h)
  have hown : s.vm.findClass RX1 = some m.cls := findClass_of_methodNamed B.named
  have hlocks := B.notSynchronized
  have hl := lv_entry ([.int x]) (n := 1) (Nat.le_of_ble_eq_true rfl)
  rw [lg_entry_eq]
  generalize (lg_sl ([.int x]) ++ List.replicate (1 - (lg_sl ([.int x])).length) Slot.unset).toArray = ls at hl ⊢
  have hl : lv_has ls 1 [(0, .int x)] := hl
  refine lv_iload_n hx hb dX1_bigSigma1_0 rfl (lv_at hl 0 rfl) ?_
  refine lv_bipush (v := (6 : Int32)) hx hb dX1_bigSigma1_1 (by decide) ?_
  refine vp_callSi (W.runS (As := [.int x, .int (6 : Int32)]) (rest := []) ⟨hx, hb, hml, hown, hts⟩ (zX1_turnRight l x (6 : Int32)) (va_cwS 2 hts (lw_S q313 q314 q11 q315) rfl rfl rfl (by decide +kernel) ⟨(Nat.le_of_ble_eq_true rfl), (Nat.le_of_ble_eq_true rfl)⟩) ⟨fun _ _ _ _ q => q, fun _ _ _ => ⟨rfl, trivial⟩⟩ rfl rfl hl.1 rfl (lv_room (Nat.le_of_ble_eq_true rfl)) dX1_bigSigma1_3 ⟨(Nat.le_of_ble_eq_true rfl), (Nat.le_of_ble_eq_true rfl)⟩) (nm_e ?_)
  refine lv_iload_n hx hb dX1_bigSigma1_6 rfl (lv_at hl 0 rfl) ?_
  refine lv_bipush (v := (11 : Int32)) hx hb dX1_bigSigma1_7 (by decide) ?_
  refine vp_callSi (W.runS (As := [.int x, .int (11 : Int32)]) (rest := [.int (sh_tr x (6 : Int32))]) ⟨hx, hb, hml, hown, hts⟩ (zX1_turnRight l x (11 : Int32)) (va_cwS 2 hts (lw_S q313 q314 q11 q315) rfl rfl rfl (by decide +kernel) ⟨(Nat.le_of_ble_eq_true rfl), (Nat.le_of_ble_eq_true rfl)⟩) ⟨fun _ _ _ _ q => q, fun _ _ _ => ⟨rfl, trivial⟩⟩ rfl rfl hl.1 rfl (lv_room (Nat.le_of_ble_eq_true rfl)) dX1_bigSigma1_9 ⟨(Nat.le_of_ble_eq_true rfl), (Nat.le_of_ble_eq_true rfl)⟩) (nm_e ?_)
  refine lv_ixor hx hb dX1_bigSigma1_12 ?_
  refine lv_iload_n hx hb dX1_bigSigma1_13 rfl (lv_at hl 0 rfl) ?_
  refine lv_bipush (v := (25 : Int32)) hx hb dX1_bigSigma1_14 (by decide) ?_
  refine vp_callSi (W.runS (As := [.int x, .int (25 : Int32)]) (rest := [.int ((sh_tr x (6 : Int32)) ^^^ (sh_tr x (11 : Int32)))]) ⟨hx, hb, hml, hown, hts⟩ (zX1_turnRight l x (25 : Int32)) (va_cwS 2 hts (lw_S q313 q314 q11 q315) rfl rfl rfl (by decide +kernel) ⟨(Nat.le_of_ble_eq_true rfl), (Nat.le_of_ble_eq_true rfl)⟩) ⟨fun _ _ _ _ q => q, fun _ _ _ => ⟨rfl, trivial⟩⟩ rfl rfl hl.1 rfl (lv_room (Nat.le_of_ble_eq_true rfl)) dX1_bigSigma1_16 ⟨(Nat.le_of_ble_eq_true rfl), (Nat.le_of_ble_eq_true rfl)⟩) (nm_e ?_)
  refine lv_ixor hx hb dX1_bigSigma1_19 ?_
  exact W.iret (v := (((sh_tr x (6 : Int32)) ^^^ (sh_tr x (11 : Int32))) ^^^ (sh_tr x (25 : Int32)))) hx hb hr (fun t ht hW => ⟨_, rfl, rfl, ht⟩) (fun _ h => by cases h) dX1_bigSigma1_20

set_option maxHeartbeats 4000000 in
set_option maxRecDepth 100000 in
theorem zX1_smallSigma0 (l : Launch) (x : Int32) : Met l yX1_smallSigma0 (ws_ yX1_smallSigma0 cX1_smallSigma0 1 (some .int)) ({ frames := 1, cells := 0, slots := 0, locals := 21 }) (va_Pc [.int x] (fun _ => True)) (vp_Si (fun r => r = sh_s0 x)) 0 0 (fun _ => False) := by
  refine Met.ofW (cc := cX1_smallSigma0) (maxL := 1) (ret := (some .int)) (by decide) rfl ?_
  intro p e s m args below meth c s₁ B hml hv
  obtain ⟨rfl, -⟩ := hv
  have hx := B.exec
  have hb := B.bytes
  have hr := B.returns
  have hts := atoms_spec (ws := (ws_ yX1_smallSigma0 cX1_smallSigma0 1 (some .int))) B.pre
  have hts : ∀ w ∈ lw_all, w.before _ s = true := fun w h => hts w (List.mem_cons_of_mem _ h)
  have hown : s.vm.findClass RX1 = some m.cls := findClass_of_methodNamed B.named
  have hlocks := B.notSynchronized
  have hl := lv_entry ([.int x]) (n := 1) (Nat.le_of_ble_eq_true rfl)
  rw [lg_entry_eq]
  generalize (lg_sl ([.int x]) ++ List.replicate (1 - (lg_sl ([.int x])).length) Slot.unset).toArray = ls at hl ⊢
  have hl : lv_has ls 1 [(0, .int x)] := hl
  refine lv_iload_n hx hb dX1_smallSigma0_0 rfl (lv_at hl 0 rfl) ?_
  refine lv_bipush (v := (7 : Int32)) hx hb dX1_smallSigma0_1 (by decide) ?_
  refine vp_callSi (W.runS (As := [.int x, .int (7 : Int32)]) (rest := []) ⟨hx, hb, hml, hown, hts⟩ (zX1_turnRight l x (7 : Int32)) (va_cwS 2 hts (lw_S q313 q314 q11 q315) rfl rfl rfl (by decide +kernel) ⟨(Nat.le_of_ble_eq_true rfl), (Nat.le_of_ble_eq_true rfl)⟩) ⟨fun _ _ _ _ q => q, fun _ _ _ => ⟨rfl, trivial⟩⟩ rfl rfl hl.1 rfl (lv_room (Nat.le_of_ble_eq_true rfl)) dX1_smallSigma0_3 ⟨(Nat.le_of_ble_eq_true rfl), (Nat.le_of_ble_eq_true rfl)⟩) (nm_e ?_)
  refine lv_iload_n hx hb dX1_smallSigma0_6 rfl (lv_at hl 0 rfl) ?_
  refine lv_bipush (v := (18 : Int32)) hx hb dX1_smallSigma0_7 (by decide) ?_
  refine vp_callSi (W.runS (As := [.int x, .int (18 : Int32)]) (rest := [.int (sh_tr x (7 : Int32))]) ⟨hx, hb, hml, hown, hts⟩ (zX1_turnRight l x (18 : Int32)) (va_cwS 2 hts (lw_S q313 q314 q11 q315) rfl rfl rfl (by decide +kernel) ⟨(Nat.le_of_ble_eq_true rfl), (Nat.le_of_ble_eq_true rfl)⟩) ⟨fun _ _ _ _ q => q, fun _ _ _ => ⟨rfl, trivial⟩⟩ rfl rfl hl.1 rfl (lv_room (Nat.le_of_ble_eq_true rfl)) dX1_smallSigma0_9 ⟨(Nat.le_of_ble_eq_true rfl), (Nat.le_of_ble_eq_true rfl)⟩) (nm_e ?_)
  refine lv_ixor hx hb dX1_smallSigma0_12 ?_
  refine lv_iload_n hx hb dX1_smallSigma0_13 rfl (lv_at hl 0 rfl) ?_
  refine lv_iconst (v := (3 : Int32)) hx hb dX1_smallSigma0_14 (by decide) ?_
  refine lv_iushr (v := (sh_us x (3 : Int32))) hx hb dX1_smallSigma0_15 rfl ?_
  refine lv_ixor hx hb dX1_smallSigma0_16 ?_
  exact W.iret (v := (((sh_tr x (7 : Int32)) ^^^ (sh_tr x (18 : Int32))) ^^^ (sh_us x (3 : Int32)))) hx hb hr (fun t ht hW => ⟨_, rfl, rfl, ht⟩) (fun _ h => by cases h) dX1_smallSigma0_17

set_option maxHeartbeats 4000000 in
set_option maxRecDepth 100000 in
theorem zX1_smallSigma1 (l : Launch) (x : Int32) : Met l yX1_smallSigma1 (ws_ yX1_smallSigma1 cX1_smallSigma1 1 (some .int)) ({ frames := 1, cells := 0, slots := 0, locals := 21 }) (va_Pc [.int x] (fun _ => True)) (vp_Si (fun r => r = sh_s1 x)) 0 0 (fun _ => False) := by
  refine Met.ofW (cc := cX1_smallSigma1) (maxL := 1) (ret := (some .int)) (by decide) rfl ?_
  intro p e s m args below meth c s₁ B hml hv
  obtain ⟨rfl, -⟩ := hv
  have hx := B.exec
  have hb := B.bytes
  have hr := B.returns
  have hts := atoms_spec (ws := (ws_ yX1_smallSigma1 cX1_smallSigma1 1 (some .int))) B.pre
  have hts : ∀ w ∈ lw_all, w.before _ s = true := fun w h => hts w (List.mem_cons_of_mem _ h)
  have hown : s.vm.findClass RX1 = some m.cls := findClass_of_methodNamed B.named
  have hlocks := B.notSynchronized
  have hl := lv_entry ([.int x]) (n := 1) (Nat.le_of_ble_eq_true rfl)
  rw [lg_entry_eq]
  generalize (lg_sl ([.int x]) ++ List.replicate (1 - (lg_sl ([.int x])).length) Slot.unset).toArray = ls at hl ⊢
  have hl : lv_has ls 1 [(0, .int x)] := hl
  refine lv_iload_n hx hb dX1_smallSigma1_0 rfl (lv_at hl 0 rfl) ?_
  refine lv_bipush (v := (17 : Int32)) hx hb dX1_smallSigma1_1 (by decide) ?_
  refine vp_callSi (W.runS (As := [.int x, .int (17 : Int32)]) (rest := []) ⟨hx, hb, hml, hown, hts⟩ (zX1_turnRight l x (17 : Int32)) (va_cwS 2 hts (lw_S q313 q314 q11 q315) rfl rfl rfl (by decide +kernel) ⟨(Nat.le_of_ble_eq_true rfl), (Nat.le_of_ble_eq_true rfl)⟩) ⟨fun _ _ _ _ q => q, fun _ _ _ => ⟨rfl, trivial⟩⟩ rfl rfl hl.1 rfl (lv_room (Nat.le_of_ble_eq_true rfl)) dX1_smallSigma1_3 ⟨(Nat.le_of_ble_eq_true rfl), (Nat.le_of_ble_eq_true rfl)⟩) (nm_e ?_)
  refine lv_iload_n hx hb dX1_smallSigma1_6 rfl (lv_at hl 0 rfl) ?_
  refine lv_bipush (v := (19 : Int32)) hx hb dX1_smallSigma1_7 (by decide) ?_
  refine vp_callSi (W.runS (As := [.int x, .int (19 : Int32)]) (rest := [.int (sh_tr x (17 : Int32))]) ⟨hx, hb, hml, hown, hts⟩ (zX1_turnRight l x (19 : Int32)) (va_cwS 2 hts (lw_S q313 q314 q11 q315) rfl rfl rfl (by decide +kernel) ⟨(Nat.le_of_ble_eq_true rfl), (Nat.le_of_ble_eq_true rfl)⟩) ⟨fun _ _ _ _ q => q, fun _ _ _ => ⟨rfl, trivial⟩⟩ rfl rfl hl.1 rfl (lv_room (Nat.le_of_ble_eq_true rfl)) dX1_smallSigma1_9 ⟨(Nat.le_of_ble_eq_true rfl), (Nat.le_of_ble_eq_true rfl)⟩) (nm_e ?_)
  refine lv_ixor hx hb dX1_smallSigma1_12 ?_
  refine lv_iload_n hx hb dX1_smallSigma1_13 rfl (lv_at hl 0 rfl) ?_
  refine lv_bipush (v := (10 : Int32)) hx hb dX1_smallSigma1_14 (by decide) ?_
  refine lv_iushr (v := (sh_us x (10 : Int32))) hx hb dX1_smallSigma1_16 rfl ?_
  refine lv_ixor hx hb dX1_smallSigma1_17 ?_
  exact W.iret (v := (((sh_tr x (17 : Int32)) ^^^ (sh_tr x (19 : Int32))) ^^^ (sh_us x (10 : Int32)))) hx hb hr (fun t ht hW => ⟨_, rfl, rfl, ht⟩) (fun _ h => by cases h) dX1_smallSigma1_18

set_option maxHeartbeats 4000000 in
set_option maxRecDepth 100000 in
theorem zX1_choose (l : Launch) (x y z : Int32) : Met l yX1_choose (ws_ yX1_choose cX1_choose 3 (some .int)) ({ frames := 0, cells := 0, slots := 0, locals := 0 }) (va_Pc [.int x, .int y, .int z] (fun _ => True)) (vp_Si (fun r => r = sh_ch x y z)) 0 0 (fun _ => False) := by
  refine Met.ofW (cc := cX1_choose) (maxL := 3) (ret := (some .int)) (by decide) rfl ?_
  intro p e s m args below meth c s₁ B hml hv
  obtain ⟨rfl, -⟩ := hv
  have hx := B.exec
  have hb := B.bytes
  have hr := B.returns
  have hts := atoms_spec (ws := (ws_ yX1_choose cX1_choose 3 (some .int))) B.pre
  have hts : ∀ w ∈ lw_all, w.before _ s = true := fun w h => hts w (List.mem_cons_of_mem _ h)
  have hown : s.vm.findClass RX1 = some m.cls := findClass_of_methodNamed B.named
  have hlocks := B.notSynchronized
  have hl := lv_entry ([.int x, .int y, .int z]) (n := 3) (Nat.le_of_ble_eq_true rfl)
  rw [lg_entry_eq]
  generalize (lg_sl ([.int x, .int y, .int z]) ++ List.replicate (3 - (lg_sl ([.int x, .int y, .int z])).length) Slot.unset).toArray = ls at hl ⊢
  have hl : lv_has ls 3 [(0, .int x), (1, .int y), (2, .int z)] := hl
  refine lv_iload_n hx hb dX1_choose_0 rfl (lv_at hl 0 rfl) ?_
  refine lv_iload_n hx hb dX1_choose_1 rfl (lv_at hl 1 rfl) ?_
  refine lv_iand hx hb dX1_choose_2 ?_
  refine lv_iload_n hx hb dX1_choose_3 rfl (lv_at hl 0 rfl) ?_
  refine lv_iconst (v := (-1 : Int32)) hx hb dX1_choose_4 (by decide) ?_
  refine lv_ixor hx hb dX1_choose_5 ?_
  refine lv_iload_n hx hb dX1_choose_6 rfl (lv_at hl 2 rfl) ?_
  refine lv_iand hx hb dX1_choose_7 ?_
  refine lv_ixor hx hb dX1_choose_8 ?_
  exact W.iret (v := ((x &&& y) ^^^ ((x ^^^ (-1 : Int32)) &&& z))) hx hb hr (fun t ht hW => ⟨_, rfl, rfl, ht⟩) (fun _ h => by cases h) dX1_choose_9

set_option maxHeartbeats 4000000 in
set_option maxRecDepth 100000 in
theorem zX1_majority (l : Launch) (x y z : Int32) : Met l yX1_majority (ws_ yX1_majority cX1_majority 3 (some .int)) ({ frames := 0, cells := 0, slots := 0, locals := 0 }) (va_Pc [.int x, .int y, .int z] (fun _ => True)) (vp_Si (fun r => r = sh_mj x y z)) 0 0 (fun _ => False) := by
  refine Met.ofW (cc := cX1_majority) (maxL := 3) (ret := (some .int)) (by decide) rfl ?_
  intro p e s m args below meth c s₁ B hml hv
  obtain ⟨rfl, -⟩ := hv
  have hx := B.exec
  have hb := B.bytes
  have hr := B.returns
  have hts := atoms_spec (ws := (ws_ yX1_majority cX1_majority 3 (some .int))) B.pre
  have hts : ∀ w ∈ lw_all, w.before _ s = true := fun w h => hts w (List.mem_cons_of_mem _ h)
  have hown : s.vm.findClass RX1 = some m.cls := findClass_of_methodNamed B.named
  have hlocks := B.notSynchronized
  have hl := lv_entry ([.int x, .int y, .int z]) (n := 3) (Nat.le_of_ble_eq_true rfl)
  rw [lg_entry_eq]
  generalize (lg_sl ([.int x, .int y, .int z]) ++ List.replicate (3 - (lg_sl ([.int x, .int y, .int z])).length) Slot.unset).toArray = ls at hl ⊢
  have hl : lv_has ls 3 [(0, .int x), (1, .int y), (2, .int z)] := hl
  refine lv_iload_n hx hb dX1_majority_0 rfl (lv_at hl 0 rfl) ?_
  refine lv_iload_n hx hb dX1_majority_1 rfl (lv_at hl 1 rfl) ?_
  refine lv_iand hx hb dX1_majority_2 ?_
  refine lv_iload_n hx hb dX1_majority_3 rfl (lv_at hl 0 rfl) ?_
  refine lv_iload_n hx hb dX1_majority_4 rfl (lv_at hl 2 rfl) ?_
  refine lv_iand hx hb dX1_majority_5 ?_
  refine lv_ixor hx hb dX1_majority_6 ?_
  refine lv_iload_n hx hb dX1_majority_7 rfl (lv_at hl 1 rfl) ?_
  refine lv_iload_n hx hb dX1_majority_8 rfl (lv_at hl 2 rfl) ?_
  refine lv_iand hx hb dX1_majority_9 ?_
  refine lv_ixor hx hb dX1_majority_10 ?_
  exact W.iret (v := (((x &&& y) ^^^ (x &&& z)) ^^^ (y &&& z))) hx hb hr (fun t ht hW => ⟨_, rfl, rfl, ht⟩) (fun _ h => by cases h) dX1_majority_11
end
section
set_option maxHeartbeats 4000000 in
set_option maxRecDepth 100000 in
theorem zX1_init (l : Launch) (D : va_G) (sz : Nat) (h0 : Nat) : Met l yX1_init (ws_ yX1_init cX1_init 1 none) ({ frames := 1, cells := 3, slots := 32, locals := 12 }) (va_Pc [.ref h0] (zW D [(h0, .inr (1, [.null, .null, .null]))] [] sz)) (va_Qv (fun _ : Unit => True) (fun _ t => ∃ (a1 a2 a3 : Nat) (d1 d2 d3 : ClassId), zB D [(h0, .inr (1, [.ref a1, .ref a2, .ref a3])), (a1, zar d1 16 sh_z), (a2, zar d2 8 sh_z), (a3, zar d3 8 sh_z)] [(d1, .int), (d2, .int), (d3, .int)] (va_A [(h0, .inr (1, [.null, .null, .null]))] sz) t) (va_A [(h0, .inr (1, [.null, .null, .null]))] sz)) 3 32 (va_A [(h0, .inr (1, [.null, .null, .null]))] sz) := by
  refine Met.ofW (cc := cX1_init) (maxL := 1) (ret := none) (by decide) rfl ?_
  intro p e s m args below meth c s₁ B hml hv
  obtain ⟨rfl, hsz, hP, hK, hD0⟩ := hv
  have hx := B.exec
  have hb := B.bytes
  have hr := B.returns
  have hts := atoms_spec (ws := (ws_ yX1_init cX1_init 1 none)) B.pre
  have hts : ∀ w ∈ lw_all, w.before _ s = true := fun w h => hts w (List.mem_cons_of_mem _ h)
  have hown : s.vm.findClass RX1 = some m.cls := findClass_of_methodNamed B.named
  have hlocks := B.notSynchronized
  have hin : meth.name = "<init>" := (name_of_methodNamed B.named B.method).1
  subst hsz
  have hD := hD0.self (sz := s.heap.size)
  generalize hAe : va_A [(h0, .inr (1, [.null, .null, .null]))] s.heap.size = A at hD ⊢
  have hA : ∀ q : Nat, s.heap.size ≤ q → A q := fun q h => by rw [← hAe]; exact Or.inr h
  have hS : va_S A s.heap s.heap [] := va_S.rf
  have hl := lv_entry ([.ref h0]) (n := 1) (Nat.le_of_ble_eq_true rfl)
  rw [lg_entry_eq]
  generalize (lg_sl ([.ref h0]) ++ List.replicate (1 - (lg_sl ([.ref h0])).length) Slot.unset).toArray = ls at hl ⊢
  have hl : lv_has ls 1 [(0, .ref h0)] := hl
  have hP : va_P D zcl [(h0, .inr (1, [.null, .null, .null]))] s.heap := hP
  refine lv_aload_n hx hb dX1_init_0 rfl (lv_at hl 0 rfl) ?_
  refine W.objInit hx hb hown (hts _ q283) (hts _ q29) (hts _ q30) rfl (by rw [hml]; exact hl.1) rfl dX1_init_1 (Nat.le_of_ble_eq_true rfl) (Nat.le_of_ble_eq_true rfl) ?_
  refine W.eq (g2 := F0 m 4 ls []) rfl ?_
  refine lv_aload_n hx hb dX1_init_4 rfl (lv_at hl 0 rfl) ?_
  refine lv_bipush (v := (16 : Int32)) hx hb dX1_init_5 (by decide) ?_
  refine va_newa (atype := .int) (ty := .int) (N' := 16) (a0 := (16, .inl sh_z)) hx hb (hts _ q210) rfl hK hP hD hS hA (fun _ => rfl) (by decide) (by decide) (by decide) (Nat.le_of_ble_eq_true rfl) (Nat.le_of_ble_eq_true rfl) dX1_init_7 (fun a1 d1 H hK hP hD hS => ?_)
  have hK : va_K D zcl [(d1, .int)] s := hK
  have hP : va_P D zcl [(h0, .inr (1, [.null, .null, .null])), (a1, zar d1 16 sh_z)] H := hP
  have hD : va_D A [(h0, .inr (1, [.null, .null, .null])), (a1, zar d1 16 sh_z)] := hD
  refine W.widen (k := 1) (n := 16) (Nat.le_of_ble_eq_true rfl) (Nat.le_of_ble_eq_true rfl) ?_
  refine va_putF (D := D) (ci := 1) (v := .ref a1) (ty := .array .int) (C := RX1) (T := TX1) (N := 3) hx hb hts in_X1 tyX1 tyX1_ok nmX1 hown hK hP hD hS 0 rfl rfl 0 (by decide) (hts _ q284) (fun _ h9 => h9) rfl hin rfl (by decide +kernel) rfl rfl (Nat.le_of_ble_eq_true rfl) dX1_init_9 (fun H locs hP hD hS => ?_)
  have hP : va_P D zcl [(h0, .inr (1, [.ref a1, .null, .null])), (a1, zar d1 16 sh_z)] H := hP
  have hD : va_D A [(h0, .inr (1, [.ref a1, .null, .null])), (a1, zar d1 16 sh_z)] := hD
  refine lv_aload_n hx hb dX1_init_12 rfl (lv_at hl 0 rfl) ?_
  refine lv_bipush (v := (8 : Int32)) hx hb dX1_init_13 (by decide) ?_
  refine va_newa (atype := .int) (ty := .int) (N' := 8) (a0 := (8, .inl sh_z)) hx hb (hts _ q210) rfl hK hP hD hS hA (fun _ => rfl) (by decide) (by decide) (by decide) (Nat.le_of_ble_eq_true rfl) (Nat.le_of_ble_eq_true rfl) dX1_init_15 (fun a2 d2 H hK hP hD hS => ?_)
  have hK : va_K D zcl [(d1, .int), (d2, .int)] s := hK
  have hP : va_P D zcl [(h0, .inr (1, [.ref a1, .null, .null])), (a1, zar d1 16 sh_z), (a2, zar d2 8 sh_z)] H := hP
  have hD : va_D A [(h0, .inr (1, [.ref a1, .null, .null])), (a1, zar d1 16 sh_z), (a2, zar d2 8 sh_z)] := hD
  refine W.widen (k := 2) (n := 24) (Nat.le_of_ble_eq_true rfl) (Nat.le_of_ble_eq_true rfl) ?_
  refine va_putF (D := D) (ci := 1) (v := .ref a2) (ty := .array .int) (C := RX1) (T := TX1) (N := 3) hx hb hts in_X1 tyX1 tyX1_ok nmX1 hown hK hP hD hS 0 rfl rfl 1 (by decide) (hts _ q285) (fun _ h9 => h9) rfl hin rfl (by decide +kernel) rfl rfl (Nat.le_of_ble_eq_true rfl) dX1_init_17 (fun H locs hP hD hS => ?_)
  have hP : va_P D zcl [(h0, .inr (1, [.ref a1, .ref a2, .null])), (a1, zar d1 16 sh_z), (a2, zar d2 8 sh_z)] H := hP
  have hD : va_D A [(h0, .inr (1, [.ref a1, .ref a2, .null])), (a1, zar d1 16 sh_z), (a2, zar d2 8 sh_z)] := hD
  refine lv_aload_n hx hb dX1_init_20 rfl (lv_at hl 0 rfl) ?_
  refine lv_bipush (v := (8 : Int32)) hx hb dX1_init_21 (by decide) ?_
  refine va_newa (atype := .int) (ty := .int) (N' := 8) (a0 := (8, .inl sh_z)) hx hb (hts _ q210) rfl hK hP hD hS hA (fun _ => rfl) (by decide) (by decide) (by decide) (Nat.le_of_ble_eq_true rfl) (Nat.le_of_ble_eq_true rfl) dX1_init_23 (fun a3 d3 H hK hP hD hS => ?_)
  have hK : va_K D zcl [(d1, .int), (d2, .int), (d3, .int)] s := hK
  have hP : va_P D zcl [(h0, .inr (1, [.ref a1, .ref a2, .null])), (a1, zar d1 16 sh_z), (a2, zar d2 8 sh_z), (a3, zar d3 8 sh_z)] H := hP
  have hD : va_D A [(h0, .inr (1, [.ref a1, .ref a2, .null])), (a1, zar d1 16 sh_z), (a2, zar d2 8 sh_z), (a3, zar d3 8 sh_z)] := hD
  refine W.widen (k := 3) (n := 32) (Nat.le_of_ble_eq_true rfl) (Nat.le_of_ble_eq_true rfl) ?_
  refine va_putF (D := D) (ci := 1) (v := .ref a3) (ty := .array .int) (C := RX1) (T := TX1) (N := 3) hx hb hts in_X1 tyX1 tyX1_ok nmX1 hown hK hP hD hS 0 rfl rfl 2 (by decide) (hts _ q286) (fun _ h9 => h9) rfl hin rfl (by decide +kernel) rfl rfl (Nat.le_of_ble_eq_true rfl) dX1_init_25 (fun H locs hP hD hS => ?_)
  have hP : va_P D zcl [(h0, .inr (1, [.ref a1, .ref a2, .ref a3])), (a1, zar d1 16 sh_z), (a2, zar d2 8 sh_z), (a3, zar d3 8 sh_z)] H := hP
  have hD : va_D A [(h0, .inr (1, [.ref a1, .ref a2, .ref a3])), (a1, zar d1 16 sh_z), (a2, zar d2 8 sh_z), (a3, zar d3 8 sh_z)] := hD
  have hP9 := hP.sub (ws' := [(h0, .inr (1, [.ref a1, .ref a2, .ref a3])), (a1, zar d1 16 sh_z), (a2, zar d2 8 sh_z), (a3, zar d3 8 sh_z)]) [0, 1, 2, 3] rfl
  have hD9 := hD.sub (ws' := [(h0, .inr (1, [.ref a1, .ref a2, .ref a3])), (a1, zar d1 16 sh_z), (a2, zar d2 8 sh_z), (a3, zar d3 8 sh_z)]) [0, 1, 2, 3] (by decide) rfl
  have hK9 := hK.sub (tys' := [(d1, .int), (d2, .int), (d3, .int)]) [0, 1, 2] rfl
  refine W.widen (k := 3) (n := 32) (Nat.le_of_ble_eq_true rfl) (Nat.le_of_ble_eq_true rfl) ?_
  exact W.vret hx hb hr (fun t ht hW => ⟨⟨(), rfl, trivial, a1, a2, a3, d1, d2, d3, by rw [ht]; exact hP9, va_K.moved hW.alike hK9, hD9⟩, hS.F ht⟩) hS.2.2 dX1_init_28

set_option maxHeartbeats 4000000 in
set_option maxRecDepth 100000 in
theorem zX1_key (l : Launch) (D : va_G) (sz : Nat) (h0 a1 a2 a3 : Nat) (d1 : ClassId) (kw : Nat → Int32) (p0 v1 v2 v3 v4 : Int32) (j : Nat) (hj : j < 4) (hp : p0 &&& 3 = nI j) : Met l yX1_key (ws_ yX1_key cX1_key 7 none) ({ frames := 0, cells := 0, slots := 0, locals := 0 }) (va_Pc [.ref h0, .int p0, .int v1, .int v2, .int v3, .int v4] (zW D [(h0, .inr (1, [.ref a1, .ref a2, .ref a3])), (a1, zar d1 16 kw)] [(d1, .int)] sz)) (va_Qv (fun _ : Unit => True) (fun _ t => zB D [(h0, .inr (1, [.ref a1, .ref a2, .ref a3])), (a1, zar d1 16 (sh_w4 kw (4 * j) v1 v2 v3 v4))] [(d1, .int)] (va_A [(h0, .inr (1, [.ref a1, .ref a2, .ref a3])), (a1, zar d1 16 kw)] sz) t) (va_A [(h0, .inr (1, [.ref a1, .ref a2, .ref a3])), (a1, zar d1 16 kw)] sz)) 0 0 (va_A [(h0, .inr (1, [.ref a1, .ref a2, .ref a3])), (a1, zar d1 16 kw)] sz) := by
  refine Met.ofW (cc := cX1_key) (maxL := 7) (ret := none) (by decide) rfl ?_
  intro p e s m args below meth c s₁ B hml hv
  obtain ⟨rfl, hsz, hP, hK, hD0⟩ := hv
  have hx := B.exec
  have hb := B.bytes
  have hr := B.returns
  have hts := atoms_spec (ws := (ws_ yX1_key cX1_key 7 none)) B.pre
  have hts : ∀ w ∈ lw_all, w.before _ s = true := fun w h => hts w (List.mem_cons_of_mem _ h)
  have hown : s.vm.findClass RX1 = some m.cls := findClass_of_methodNamed B.named
  have hlocks := B.notSynchronized
  subst hsz
  have hD := hD0.self (sz := s.heap.size)
  generalize hAe : va_A [(h0, .inr (1, [.ref a1, .ref a2, .ref a3])), (a1, zar d1 16 kw)] s.heap.size = A at hD ⊢
  have hA : ∀ q : Nat, s.heap.size ≤ q → A q := fun q h => by rw [← hAe]; exact Or.inr h
  have hS : va_S A s.heap s.heap [] := va_S.rf
  have hl := lv_entry ([.ref h0, .int p0, .int v1, .int v2, .int v3, .int v4]) (n := 7) (Nat.le_of_ble_eq_true rfl)
  rw [lg_entry_eq]
  generalize (lg_sl ([.ref h0, .int p0, .int v1, .int v2, .int v3, .int v4]) ++ List.replicate (7 - (lg_sl ([.ref h0, .int p0, .int v1, .int v2, .int v3, .int v4])).length) Slot.unset).toArray = ls at hl ⊢
  have hl : lv_has ls 7 [(0, .ref h0), (1, .int p0), (2, .int v1), (3, .int v2), (4, .int v3), (5, .int v4)] := hl
  have hP : va_P D zcl [(h0, .inr (1, [.ref a1, .ref a2, .ref a3])), (a1, zar d1 16 kw)] s.heap := hP
  refine lv_iconst (v := (nI 4)) hx hb dX1_key_0 (by decide) ?_
  refine lv_iload_n hx hb dX1_key_1 rfl (lv_at hl 1 rfl) ?_
  refine lv_iconst (v := (3 : Int32)) hx hb dX1_key_2 (by decide) ?_
  refine lv_iand hx hb dX1_key_3 ?_
  refine z_top (y := (nI j)) (hp) ?_
  refine lv_imul hx hb dX1_key_4 ?_
  refine z_top (y := (nI (4 * j))) (pk_mul 4 j) ?_
  refine lv_istore (lv' := [(6, .int (nI (4 * j))), (0, .ref h0), (1, .int p0), (2, .int v1), (3, .int v2), (4, .int v3), (5, .int v4)]) hx hb dX1_key_5 hl (by decide) rfl (fun ls hl => ?_)
  refine lv_aload_n hx hb dX1_key_7 rfl (lv_at hl 1 rfl) ?_
  refine va_get (D := D) (ci := 1) (v := .ref a1) (C := RX1) (T := TX1) (N := 3) hx hb hts in_X1 hown hK hP 0 rfl rfl 0 (by decide) (hts _ q284) (fun _ h9 => h9) rfl dX1_key_8 ?_
  refine lv_iload hx hb dX1_key_11 (lv_at hl 0 rfl) ?_
  refine lv_iload_n hx hb dX1_key_13 rfl (lv_at hl 3 rfl) ?_
  refine z_ist (f' := (upd kw (4 * j) v1)) hx hb hK hP hD hS 1 0 rfl rfl (4 * j) rfl (by omega) (by decide) (rfl) dX1_key_14 (fun H locs hP hD hS => ?_)
  have hP : va_P D zcl [(h0, .inr (1, [.ref a1, .ref a2, .ref a3])), (a1, zar d1 16 (upd kw (4 * j) v1))] H := hP
  have hD : va_D A [(h0, .inr (1, [.ref a1, .ref a2, .ref a3])), (a1, zar d1 16 (upd kw (4 * j) v1))] := hD
  refine lv_aload_n hx hb dX1_key_15 rfl (lv_at hl 1 rfl) ?_
  refine va_get (D := D) (ci := 1) (v := .ref a1) (C := RX1) (T := TX1) (N := 3) hx hb hts in_X1 hown hK hP 0 rfl rfl 0 (by decide) (hts _ q284) (fun _ h9 => h9) rfl dX1_key_16 ?_
  refine lv_iload hx hb dX1_key_19 (lv_at hl 0 rfl) ?_
  refine lv_iconst (v := (nI 1)) hx hb dX1_key_21 (by decide) ?_
  refine lv_iadd hx hb dX1_key_22 ?_
  refine z_top (y := (nI (4 * j + 1))) (nI_add _ _) ?_
  refine lv_iload_n hx hb dX1_key_23 rfl (lv_at hl 4 rfl) ?_
  refine z_ist (f' := (upd (upd kw (4 * j) v1) (4 * j + 1) v2)) hx hb hK hP hD hS 1 0 rfl rfl (4 * j + 1) rfl (by omega) (by decide) (rfl) dX1_key_24 (fun H locs hP hD hS => ?_)
  have hP : va_P D zcl [(h0, .inr (1, [.ref a1, .ref a2, .ref a3])), (a1, zar d1 16 (upd (upd kw (4 * j) v1) (4 * j + 1) v2))] H := hP
  have hD : va_D A [(h0, .inr (1, [.ref a1, .ref a2, .ref a3])), (a1, zar d1 16 (upd (upd kw (4 * j) v1) (4 * j + 1) v2))] := hD
  refine lv_aload_n hx hb dX1_key_25 rfl (lv_at hl 1 rfl) ?_
  refine va_get (D := D) (ci := 1) (v := .ref a1) (C := RX1) (T := TX1) (N := 3) hx hb hts in_X1 hown hK hP 0 rfl rfl 0 (by decide) (hts _ q284) (fun _ h9 => h9) rfl dX1_key_26 ?_
  refine lv_iload hx hb dX1_key_29 (lv_at hl 0 rfl) ?_
  refine lv_iconst (v := (nI 2)) hx hb dX1_key_31 (by decide) ?_
  refine lv_iadd hx hb dX1_key_32 ?_
  refine z_top (y := (nI (4 * j + 2))) (nI_add _ _) ?_
  refine lv_iload hx hb dX1_key_33 (lv_at hl 5 rfl) ?_
  refine z_ist (f' := (upd (upd (upd kw (4 * j) v1) (4 * j + 1) v2) (4 * j + 2) v3)) hx hb hK hP hD hS 1 0 rfl rfl (4 * j + 2) rfl (by omega) (by decide) (rfl) dX1_key_35 (fun H locs hP hD hS => ?_)
  have hP : va_P D zcl [(h0, .inr (1, [.ref a1, .ref a2, .ref a3])), (a1, zar d1 16 (upd (upd (upd kw (4 * j) v1) (4 * j + 1) v2) (4 * j + 2) v3))] H := hP
  have hD : va_D A [(h0, .inr (1, [.ref a1, .ref a2, .ref a3])), (a1, zar d1 16 (upd (upd (upd kw (4 * j) v1) (4 * j + 1) v2) (4 * j + 2) v3))] := hD
  refine lv_aload_n hx hb dX1_key_36 rfl (lv_at hl 1 rfl) ?_
  refine va_get (D := D) (ci := 1) (v := .ref a1) (C := RX1) (T := TX1) (N := 3) hx hb hts in_X1 hown hK hP 0 rfl rfl 0 (by decide) (hts _ q284) (fun _ h9 => h9) rfl dX1_key_37 ?_
  refine lv_iload hx hb dX1_key_40 (lv_at hl 0 rfl) ?_
  refine lv_iconst (v := (nI 3)) hx hb dX1_key_42 (by decide) ?_
  refine lv_iadd hx hb dX1_key_43 ?_
  refine z_top (y := (nI (4 * j + 3))) (nI_add _ _) ?_
  refine lv_iload hx hb dX1_key_44 (lv_at hl 6 rfl) ?_
  refine z_ist (f' := (sh_w4 kw (4 * j) v1 v2 v3 v4)) hx hb hK hP hD hS 1 0 rfl rfl (4 * j + 3) rfl (by omega) (by decide) (rfl) dX1_key_46 (fun H locs hP hD hS => ?_)
  have hP : va_P D zcl [(h0, .inr (1, [.ref a1, .ref a2, .ref a3])), (a1, zar d1 16 (sh_w4 kw (4 * j) v1 v2 v3 v4))] H := hP
  have hD : va_D A [(h0, .inr (1, [.ref a1, .ref a2, .ref a3])), (a1, zar d1 16 (sh_w4 kw (4 * j) v1 v2 v3 v4))] := hD
  have hP9 := hP.sub (ws' := [(h0, .inr (1, [.ref a1, .ref a2, .ref a3])), (a1, zar d1 16 (sh_w4 kw (4 * j) v1 v2 v3 v4))]) [0, 1] rfl
  have hD9 := hD.sub (ws' := [(h0, .inr (1, [.ref a1, .ref a2, .ref a3])), (a1, zar d1 16 (sh_w4 kw (4 * j) v1 v2 v3 v4))]) [0, 1] (by decide) rfl
  have hK9 := hK.sub (tys' := [(d1, .int)]) [0] rfl
  refine W.widen (k := 0) (n := 0) (Nat.le_of_ble_eq_true rfl) (Nat.le_of_ble_eq_true rfl) ?_
  exact W.vret hx hb hr (fun t ht hW => ⟨⟨(), rfl, trivial, by rw [ht]; exact hP9, va_K.moved hW.alike hK9, hD9⟩, hS.F ht⟩) hS.2.2 dX1_key_47

set_option maxHeartbeats 4000000 in
set_option maxRecDepth 100000 in
theorem zX1_block (l : Launch) (D : va_G) (sz : Nat) (h0 a1 a2 a3 : Nat) (d2 : ClassId) (bw : Nat → Int32) (p0 v1 v2 v3 v4 : Int32) (j : Nat) (hj : j < 2) (hp : p0 &&& 1 = nI j) : Met l yX1_block (ws_ yX1_block cX1_block 7 none) ({ frames := 0, cells := 0, slots := 0, locals := 0 }) (va_Pc [.ref h0, .int p0, .int v1, .int v2, .int v3, .int v4] (zW D [(h0, .inr (1, [.ref a1, .ref a2, .ref a3])), (a2, zar d2 8 bw)] [(d2, .int)] sz)) (va_Qv (fun _ : Unit => True) (fun _ t => zB D [(h0, .inr (1, [.ref a1, .ref a2, .ref a3])), (a2, zar d2 8 (sh_w4 bw (4 * j) v1 v2 v3 v4))] [(d2, .int)] (va_A [(h0, .inr (1, [.ref a1, .ref a2, .ref a3])), (a2, zar d2 8 bw)] sz) t) (va_A [(h0, .inr (1, [.ref a1, .ref a2, .ref a3])), (a2, zar d2 8 bw)] sz)) 0 0 (va_A [(h0, .inr (1, [.ref a1, .ref a2, .ref a3])), (a2, zar d2 8 bw)] sz) := by
  refine Met.ofW (cc := cX1_block) (maxL := 7) (ret := none) (by decide) rfl ?_
  intro p e s m args below meth c s₁ B hml hv
  obtain ⟨rfl, hsz, hP, hK, hD0⟩ := hv
  have hx := B.exec
  have hb := B.bytes
  have hr := B.returns
  have hts := atoms_spec (ws := (ws_ yX1_block cX1_block 7 none)) B.pre
  have hts : ∀ w ∈ lw_all, w.before _ s = true := fun w h => hts w (List.mem_cons_of_mem _ h)
  have hown : s.vm.findClass RX1 = some m.cls := findClass_of_methodNamed B.named
  have hlocks := B.notSynchronized
  subst hsz
  have hD := hD0.self (sz := s.heap.size)
  generalize hAe : va_A [(h0, .inr (1, [.ref a1, .ref a2, .ref a3])), (a2, zar d2 8 bw)] s.heap.size = A at hD ⊢
  have hA : ∀ q : Nat, s.heap.size ≤ q → A q := fun q h => by rw [← hAe]; exact Or.inr h
  have hS : va_S A s.heap s.heap [] := va_S.rf
  have hl := lv_entry ([.ref h0, .int p0, .int v1, .int v2, .int v3, .int v4]) (n := 7) (Nat.le_of_ble_eq_true rfl)
  rw [lg_entry_eq]
  generalize (lg_sl ([.ref h0, .int p0, .int v1, .int v2, .int v3, .int v4]) ++ List.replicate (7 - (lg_sl ([.ref h0, .int p0, .int v1, .int v2, .int v3, .int v4])).length) Slot.unset).toArray = ls at hl ⊢
  have hl : lv_has ls 7 [(0, .ref h0), (1, .int p0), (2, .int v1), (3, .int v2), (4, .int v3), (5, .int v4)] := hl
  have hP : va_P D zcl [(h0, .inr (1, [.ref a1, .ref a2, .ref a3])), (a2, zar d2 8 bw)] s.heap := hP
  refine lv_iconst (v := (nI 4)) hx hb dX1_block_0 (by decide) ?_
  refine lv_iload_n hx hb dX1_block_1 rfl (lv_at hl 1 rfl) ?_
  refine lv_iconst (v := (1 : Int32)) hx hb dX1_block_2 (by decide) ?_
  refine lv_iand hx hb dX1_block_3 ?_
  refine z_top (y := (nI j)) (hp) ?_
  refine lv_imul hx hb dX1_block_4 ?_
  refine z_top (y := (nI (4 * j))) (pk_mul 4 j) ?_
  refine lv_istore (lv' := [(6, .int (nI (4 * j))), (0, .ref h0), (1, .int p0), (2, .int v1), (3, .int v2), (4, .int v3), (5, .int v4)]) hx hb dX1_block_5 hl (by decide) rfl (fun ls hl => ?_)
  refine lv_aload_n hx hb dX1_block_7 rfl (lv_at hl 1 rfl) ?_
  refine va_get (D := D) (ci := 1) (v := .ref a2) (C := RX1) (T := TX1) (N := 3) hx hb hts in_X1 hown hK hP 0 rfl rfl 1 (by decide) (hts _ q285) (fun _ h9 => h9) rfl dX1_block_8 ?_
  refine lv_iload hx hb dX1_block_11 (lv_at hl 0 rfl) ?_
  refine lv_iload_n hx hb dX1_block_13 rfl (lv_at hl 3 rfl) ?_
  refine z_ist (f' := (upd bw (4 * j) v1)) hx hb hK hP hD hS 1 0 rfl rfl (4 * j) rfl (by omega) (by decide) (rfl) dX1_block_14 (fun H locs hP hD hS => ?_)
  have hP : va_P D zcl [(h0, .inr (1, [.ref a1, .ref a2, .ref a3])), (a2, zar d2 8 (upd bw (4 * j) v1))] H := hP
  have hD : va_D A [(h0, .inr (1, [.ref a1, .ref a2, .ref a3])), (a2, zar d2 8 (upd bw (4 * j) v1))] := hD
  refine lv_aload_n hx hb dX1_block_15 rfl (lv_at hl 1 rfl) ?_
  refine va_get (D := D) (ci := 1) (v := .ref a2) (C := RX1) (T := TX1) (N := 3) hx hb hts in_X1 hown hK hP 0 rfl rfl 1 (by decide) (hts _ q285) (fun _ h9 => h9) rfl dX1_block_16 ?_
  refine lv_iload hx hb dX1_block_19 (lv_at hl 0 rfl) ?_
  refine lv_iconst (v := (nI 1)) hx hb dX1_block_21 (by decide) ?_
  refine lv_iadd hx hb dX1_block_22 ?_
  refine z_top (y := (nI (4 * j + 1))) (nI_add _ _) ?_
  refine lv_iload_n hx hb dX1_block_23 rfl (lv_at hl 4 rfl) ?_
  refine z_ist (f' := (upd (upd bw (4 * j) v1) (4 * j + 1) v2)) hx hb hK hP hD hS 1 0 rfl rfl (4 * j + 1) rfl (by omega) (by decide) (rfl) dX1_block_24 (fun H locs hP hD hS => ?_)
  have hP : va_P D zcl [(h0, .inr (1, [.ref a1, .ref a2, .ref a3])), (a2, zar d2 8 (upd (upd bw (4 * j) v1) (4 * j + 1) v2))] H := hP
  have hD : va_D A [(h0, .inr (1, [.ref a1, .ref a2, .ref a3])), (a2, zar d2 8 (upd (upd bw (4 * j) v1) (4 * j + 1) v2))] := hD
  refine lv_aload_n hx hb dX1_block_25 rfl (lv_at hl 1 rfl) ?_
  refine va_get (D := D) (ci := 1) (v := .ref a2) (C := RX1) (T := TX1) (N := 3) hx hb hts in_X1 hown hK hP 0 rfl rfl 1 (by decide) (hts _ q285) (fun _ h9 => h9) rfl dX1_block_26 ?_
  refine lv_iload hx hb dX1_block_29 (lv_at hl 0 rfl) ?_
  refine lv_iconst (v := (nI 2)) hx hb dX1_block_31 (by decide) ?_
  refine lv_iadd hx hb dX1_block_32 ?_
  refine z_top (y := (nI (4 * j + 2))) (nI_add _ _) ?_
  refine lv_iload hx hb dX1_block_33 (lv_at hl 5 rfl) ?_
  refine z_ist (f' := (upd (upd (upd bw (4 * j) v1) (4 * j + 1) v2) (4 * j + 2) v3)) hx hb hK hP hD hS 1 0 rfl rfl (4 * j + 2) rfl (by omega) (by decide) (rfl) dX1_block_35 (fun H locs hP hD hS => ?_)
  have hP : va_P D zcl [(h0, .inr (1, [.ref a1, .ref a2, .ref a3])), (a2, zar d2 8 (upd (upd (upd bw (4 * j) v1) (4 * j + 1) v2) (4 * j + 2) v3))] H := hP
  have hD : va_D A [(h0, .inr (1, [.ref a1, .ref a2, .ref a3])), (a2, zar d2 8 (upd (upd (upd bw (4 * j) v1) (4 * j + 1) v2) (4 * j + 2) v3))] := hD
  refine lv_aload_n hx hb dX1_block_36 rfl (lv_at hl 1 rfl) ?_
  refine va_get (D := D) (ci := 1) (v := .ref a2) (C := RX1) (T := TX1) (N := 3) hx hb hts in_X1 hown hK hP 0 rfl rfl 1 (by decide) (hts _ q285) (fun _ h9 => h9) rfl dX1_block_37 ?_
  refine lv_iload hx hb dX1_block_40 (lv_at hl 0 rfl) ?_
  refine lv_iconst (v := (nI 3)) hx hb dX1_block_42 (by decide) ?_
  refine lv_iadd hx hb dX1_block_43 ?_
  refine z_top (y := (nI (4 * j + 3))) (nI_add _ _) ?_
  refine lv_iload hx hb dX1_block_44 (lv_at hl 6 rfl) ?_
  refine z_ist (f' := (sh_w4 bw (4 * j) v1 v2 v3 v4)) hx hb hK hP hD hS 1 0 rfl rfl (4 * j + 3) rfl (by omega) (by decide) (rfl) dX1_block_46 (fun H locs hP hD hS => ?_)
  have hP : va_P D zcl [(h0, .inr (1, [.ref a1, .ref a2, .ref a3])), (a2, zar d2 8 (sh_w4 bw (4 * j) v1 v2 v3 v4))] H := hP
  have hD : va_D A [(h0, .inr (1, [.ref a1, .ref a2, .ref a3])), (a2, zar d2 8 (sh_w4 bw (4 * j) v1 v2 v3 v4))] := hD
  have hP9 := hP.sub (ws' := [(h0, .inr (1, [.ref a1, .ref a2, .ref a3])), (a2, zar d2 8 (sh_w4 bw (4 * j) v1 v2 v3 v4))]) [0, 1] rfl
  have hD9 := hD.sub (ws' := [(h0, .inr (1, [.ref a1, .ref a2, .ref a3])), (a2, zar d2 8 (sh_w4 bw (4 * j) v1 v2 v3 v4))]) [0, 1] (by decide) rfl
  have hK9 := hK.sub (tys' := [(d2, .int)]) [0] rfl
  refine W.widen (k := 0) (n := 0) (Nat.le_of_ble_eq_true rfl) (Nat.le_of_ble_eq_true rfl) ?_
  exact W.vret hx hb hr (fun t ht hW => ⟨⟨(), rfl, trivial, by rw [ht]; exact hP9, va_K.moved hW.alike hK9, hD9⟩, hS.F ht⟩) hS.2.2 dX1_block_47

set_option maxHeartbeats 4000000 in
set_option maxRecDepth 100000 in
theorem zX1_again (l : Launch) (D : va_G) (sz : Nat) (h0 a1 a2 a3 : Nat) (d2 d3 : ClassId) (bw ow : Nat → Int32) : Met l yX1_again (ws_ yX1_again cX1_again 2 none) ({ frames := 0, cells := 0, slots := 0, locals := 0 }) (va_Pc [.ref h0] (zW D [(h0, .inr (1, [.ref a1, .ref a2, .ref a3])), (a2, zar d2 8 bw), (a3, zar d3 8 ow)] [(d2, .int), (d3, .int)] sz)) (va_Qv (fun _ : Unit => True) (fun _ t => zB D [(h0, .inr (1, [.ref a1, .ref a2, .ref a3])), (a2, zar d2 8 (sh_cp ow bw 8)), (a3, zar d3 8 ow)] [(d2, .int), (d3, .int)] (va_A [(h0, .inr (1, [.ref a1, .ref a2, .ref a3])), (a2, zar d2 8 bw), (a3, zar d3 8 ow)] sz) t) (va_A [(h0, .inr (1, [.ref a1, .ref a2, .ref a3])), (a2, zar d2 8 bw), (a3, zar d3 8 ow)] sz)) 0 0 (va_A [(h0, .inr (1, [.ref a1, .ref a2, .ref a3])), (a2, zar d2 8 bw), (a3, zar d3 8 ow)] sz) := by
  refine Met.ofW (cc := cX1_again) (maxL := 2) (ret := none) (by decide) rfl ?_
  intro p e s m args below meth c s₁ B hml hv
  obtain ⟨rfl, hsz, hP, hK, hD0⟩ := hv
  have hx := B.exec
  have hb := B.bytes
  have hr := B.returns
  have hts := atoms_spec (ws := (ws_ yX1_again cX1_again 2 none)) B.pre
  have hts : ∀ w ∈ lw_all, w.before _ s = true := fun w h => hts w (List.mem_cons_of_mem _ h)
  have hown : s.vm.findClass RX1 = some m.cls := findClass_of_methodNamed B.named
  have hlocks := B.notSynchronized
  subst hsz
  have hD := hD0.self (sz := s.heap.size)
  generalize hAe : va_A [(h0, .inr (1, [.ref a1, .ref a2, .ref a3])), (a2, zar d2 8 bw), (a3, zar d3 8 ow)] s.heap.size = A at hD ⊢
  have hA : ∀ q : Nat, s.heap.size ≤ q → A q := fun q h => by rw [← hAe]; exact Or.inr h
  have hS : va_S A s.heap s.heap [] := va_S.rf
  have hl := lv_entry ([.ref h0]) (n := 2) (Nat.le_of_ble_eq_true rfl)
  rw [lg_entry_eq]
  generalize (lg_sl ([.ref h0]) ++ List.replicate (2 - (lg_sl ([.ref h0])).length) Slot.unset).toArray = ls at hl ⊢
  have hl : lv_has ls 2 [(0, .ref h0)] := hl
  have hP : va_P D zcl [(h0, .inr (1, [.ref a1, .ref a2, .ref a3])), (a2, zar d2 8 bw), (a3, zar d3 8 ow)] s.heap := hP
  have loop : ∀ (n i : Nat), i + n = 8 → ∀ (H : Heap) (locs : List Loc) (ls : Array Slot), va_K D zcl [(d2, .int), (d3, .int)] s → va_P D zcl [(h0, .inr (1, [.ref a1, .ref a2, .ref a3])), (a2, zar d2 8 (sh_cp ow bw i)), (a3, zar d3 8 ow)] H → va_D A [(h0, .inr (1, [.ref a1, .ref a2, .ref a3])), (a2, zar d2 8 (sh_cp ow bw i)), (a3, zar d3 8 ow)] → va_S A s.heap H locs → lv_has ls 2 [(0, .ref h0), (1, .int (nI i))] → W p l e (headSpec (ws_ yX1_again cX1_again 2 none) ({ frames := 0, cells := 0, slots := 0, locals := 0 })).room s m ([.ref h0] : List Value).toArray below meth c H locs 0 0 (MQ below (va_Qv (fun _ : Unit => True) (fun _ t => zB D [(h0, .inr (1, [.ref a1, .ref a2, .ref a3])), (a2, zar d2 8 (sh_cp ow bw 8)), (a3, zar d3 8 ow)] [(d2, .int), (d3, .int)] A t) A) ([.ref h0] : List Value).toArray s 0 0 A) (F0 m 2 ls []) := by
    intro n
    induction n with
    | zero =>
      intro i hi H locs ls hK hP hD hS hl
      obtain rfl : i = 8 := by omega
      refine lv_iload_n hx hb dX1_again_2 rfl (lv_at hl 1 rfl) ?_
      refine lv_bipush (v := (8 : Int32)) hx hb dX1_again_3 (by decide) ?_
      refine z_ge_t (tgt := 26) hx hb dX1_again_5 (by decide) (nI_le (a := 8) (b := 8) (by omega) (by omega)) ?_
      have hP9 := hP.sub (ws' := [(h0, .inr (1, [.ref a1, .ref a2, .ref a3])), (a2, zar d2 8 (sh_cp ow bw 8)), (a3, zar d3 8 ow)]) [0, 1, 2] rfl
      have hD9 := hD.sub (ws' := [(h0, .inr (1, [.ref a1, .ref a2, .ref a3])), (a2, zar d2 8 (sh_cp ow bw 8)), (a3, zar d3 8 ow)]) [0, 1, 2] (by decide) rfl
      have hK9 := hK.sub (tys' := [(d2, .int), (d3, .int)]) [0, 1] rfl
      refine W.widen (k := 0) (n := 0) (Nat.le_of_ble_eq_true rfl) (Nat.le_of_ble_eq_true rfl) ?_
      exact W.vret hx hb hr (fun t ht hW => ⟨⟨(), rfl, trivial, by rw [ht]; exact hP9, va_K.moved hW.alike hK9, hD9⟩, hS.F ht⟩) hS.2.2 dX1_again_26
    | succ n ih =>
      intro i hi H locs ls hK hP hD hS hl
      refine lv_iload_n hx hb dX1_again_2 rfl (lv_at hl 1 rfl) ?_
      refine lv_bipush (v := (8 : Int32)) hx hb dX1_again_3 (by decide) ?_
      refine z_ge_f (tgt := 26) hx hb dX1_again_5 (by decide) (nI_ge (a := i) (b := 8) (by omega) (by omega)) ?_
      refine lv_aload_n hx hb dX1_again_8 rfl (lv_at hl 0 rfl) ?_
      refine va_get (D := D) (ci := 1) (v := .ref a2) (C := RX1) (T := TX1) (N := 3) hx hb hts in_X1 hown hK hP 0 rfl rfl 1 (by decide) (hts _ q285) (fun _ h9 => h9) rfl dX1_again_9 ?_
      refine lv_iload_n hx hb dX1_again_12 rfl (lv_at hl 1 rfl) ?_
      refine lv_aload_n hx hb dX1_again_13 rfl (lv_at hl 0 rfl) ?_
      refine va_get (D := D) (ci := 1) (v := .ref a3) (C := RX1) (T := TX1) (N := 3) hx hb hts in_X1 hown hK hP 0 rfl rfl 2 (by decide) (hts _ q286) (fun _ h9 => h9) rfl dX1_again_14 ?_
      refine lv_iload_n hx hb dX1_again_17 rfl (lv_at hl 1 rfl) ?_
      refine z_ild hx hb hK hP 2 1 rfl rfl (v := (ow i)) i rfl (by omega) (by decide) (rfl) dX1_again_18 ?_
      refine z_ist (f' := (sh_cp ow bw (i + 1))) hx hb hK hP hD hS 1 0 rfl rfl i rfl (by omega) (by decide) (sh_cp_s _ _ _ rfl) dX1_again_19 (fun H locs hP hD hS => ?_)
      have hP : va_P D zcl [(h0, .inr (1, [.ref a1, .ref a2, .ref a3])), (a2, zar d2 8 (sh_cp ow bw (i + 1))), (a3, zar d3 8 ow)] H := hP
      have hD : va_D A [(h0, .inr (1, [.ref a1, .ref a2, .ref a3])), (a2, zar d2 8 (sh_cp ow bw (i + 1))), (a3, zar d3 8 ow)] := hD
      refine lv_iinc (v := (nI (i + 1))) (lv' := [(1, .int (nI (i + 1))), (0, .ref h0)]) hx hb dX1_again_20 hl (k := 1) rfl (z_inc i) (by decide) rfl (fun ls hl => ?_)
      refine lv_goto (tgt := 2) hx hb dX1_again_23 (by decide) ?_
      exact ih (i + 1) (by omega) _ _ ls hK (hP.sub [0, 1, 2] rfl) (hD.sub [0, 1, 2] (by decide) rfl) hS (lv_sub hl [1, 0] rfl)
  refine lv_iconst (v := (nI 0)) hx hb dX1_again_0 (by decide) ?_
  refine lv_istore_n (lv' := [(1, .int (nI 0)), (0, .ref h0)]) hx hb dX1_again_1 rfl hl (by decide) rfl (fun ls hl => ?_)
  rw [← sh_cp_0 ow bw] at hP hD
  exact loop 8 0 (by omega) _ _ ls hK (hP.sub [0, 1, 2] rfl) (hD.sub [0, 1, 2] (by decide) rfl) hS (lv_sub hl [1, 0] rfl)

set_option maxHeartbeats 4000000 in
set_option maxRecDepth 100000 in
theorem zX1_out (l : Launch) (D : va_G) (sz : Nat) (h0 a1 a2 a3 : Nat) (d3 : ClassId) (ow : Nat → Int32) (p0 : Int32) (j : Nat) (hj : j < 32) (hp : p0 &&& 31 = nI j) : Met l yX1_out (ws_ yX1_out cX1_out 4 (some .int)) ({ frames := 0, cells := 0, slots := 0, locals := 0 }) (va_Pc [.ref h0, .int p0] (zW D [(h0, .inr (1, [.ref a1, .ref a2, .ref a3])), (a3, zar d3 8 ow)] [(d3, .int)] sz)) (va_Qi (fun (r : Int32) (_ : Unit) => r = sh_us (ow (j / 4)) (nI (24 - 8 * (j % 4))) &&& 255) (fun _ t => zB D [(h0, .inr (1, [.ref a1, .ref a2, .ref a3])), (a3, zar d3 8 ow)] [(d3, .int)] (va_A [(h0, .inr (1, [.ref a1, .ref a2, .ref a3])), (a3, zar d3 8 ow)] sz) t) (va_A [(h0, .inr (1, [.ref a1, .ref a2, .ref a3])), (a3, zar d3 8 ow)] sz)) 0 0 (va_A [(h0, .inr (1, [.ref a1, .ref a2, .ref a3])), (a3, zar d3 8 ow)] sz) := by
  refine Met.ofW (cc := cX1_out) (maxL := 4) (ret := (some .int)) (by decide) rfl ?_
  intro p e s m args below meth c s₁ B hml hv
  obtain ⟨rfl, hsz, hP, hK, hD0⟩ := hv
  have hx := B.exec
  have hb := B.bytes
  have hr := B.returns
  have hts := atoms_spec (ws := (ws_ yX1_out cX1_out 4 (some .int))) B.pre
  have hts : ∀ w ∈ lw_all, w.before _ s = true := fun w h => hts w (List.mem_cons_of_mem _ h)
  have hown : s.vm.findClass RX1 = some m.cls := findClass_of_methodNamed B.named
  have hlocks := B.notSynchronized
  subst hsz
  have hD := hD0.self (sz := s.heap.size)
  generalize hAe : va_A [(h0, .inr (1, [.ref a1, .ref a2, .ref a3])), (a3, zar d3 8 ow)] s.heap.size = A at hD ⊢
  have hA : ∀ q : Nat, s.heap.size ≤ q → A q := fun q h => by rw [← hAe]; exact Or.inr h
  have hS : va_S A s.heap s.heap [] := va_S.rf
  have hl := lv_entry ([.ref h0, .int p0]) (n := 4) (Nat.le_of_ble_eq_true rfl)
  rw [lg_entry_eq]
  generalize (lg_sl ([.ref h0, .int p0]) ++ List.replicate (4 - (lg_sl ([.ref h0, .int p0])).length) Slot.unset).toArray = ls at hl ⊢
  have hl : lv_has ls 4 [(0, .ref h0), (1, .int p0)] := hl
  have hP : va_P D zcl [(h0, .inr (1, [.ref a1, .ref a2, .ref a3])), (a3, zar d3 8 ow)] s.heap := hP
  refine lv_iload_n hx hb dX1_out_0 rfl (lv_at hl 1 rfl) ?_
  refine lv_bipush (v := (31 : Int32)) hx hb dX1_out_1 (by decide) ?_
  refine lv_iand hx hb dX1_out_3 ?_
  refine z_top (y := (nI j)) (hp) ?_
  refine lv_istore_n (lv' := [(2, .int (nI j)), (0, .ref h0), (1, .int p0)]) hx hb dX1_out_4 rfl hl (by decide) rfl (fun ls hl => ?_)
  refine lv_bipush (v := (nI 24)) hx hb dX1_out_5 (by decide) ?_
  refine lv_bipush (v := (nI 8)) hx hb dX1_out_7 (by decide) ?_
  refine lv_iload_n hx hb dX1_out_9 rfl (lv_at hl 0 rfl) ?_
  refine lv_iconst (v := (nI 4)) hx hb dX1_out_10 (by decide) ?_
  refine lv_irem hx hb dX1_out_11 (by decide) ?_
  refine z_top (y := (nI (j % 4))) (pk_rem (by omega) (by decide) (by decide)) ?_
  refine lv_imul hx hb dX1_out_12 ?_
  refine z_top (y := (nI (8 * (j % 4)))) (pk_mul _ _) ?_
  refine lv_isub hx hb dX1_out_13 ?_
  refine z_top (y := (nI (24 - 8 * (j % 4)))) (pk_sub (by omega)) ?_
  refine lv_istore_n (lv' := [(3, .int (nI (24 - 8 * (j % 4)))), (2, .int (nI j)), (0, .ref h0), (1, .int p0)]) hx hb dX1_out_14 rfl hl (by decide) rfl (fun ls hl => ?_)
  refine lv_aload_n hx hb dX1_out_15 rfl (lv_at hl 2 rfl) ?_
  refine va_get (D := D) (ci := 1) (v := .ref a3) (C := RX1) (T := TX1) (N := 3) hx hb hts in_X1 hown hK hP 0 rfl rfl 2 (by decide) (hts _ q286) (fun _ h9 => h9) rfl dX1_out_16 ?_
  refine lv_iload_n hx hb dX1_out_19 rfl (lv_at hl 1 rfl) ?_
  refine lv_iconst (v := (nI 4)) hx hb dX1_out_20 (by decide) ?_
  refine lv_idiv hx hb dX1_out_21 (by decide) ?_
  refine z_top (y := (nI (j / 4))) (pk_div (by omega) (by decide) (by decide)) ?_
  refine z_ild hx hb hK hP 1 0 rfl rfl (v := (ow (j / 4))) (j / 4) rfl (by omega) (by decide) (rfl) dX1_out_22 ?_
  refine lv_iload_n hx hb dX1_out_23 rfl (lv_at hl 0 rfl) ?_
  refine lv_iushr (v := (sh_us (ow (j / 4)) (nI (24 - 8 * (j % 4))))) hx hb dX1_out_24 rfl ?_
  refine lv_sipush (v := (255 : Int32)) hx hb dX1_out_25 (by decide) ?_
  refine lv_iand hx hb dX1_out_28 ?_
  have hP9 := hP.sub (ws' := [(h0, .inr (1, [.ref a1, .ref a2, .ref a3])), (a3, zar d3 8 ow)]) [0, 1] rfl
  have hD9 := hD.sub (ws' := [(h0, .inr (1, [.ref a1, .ref a2, .ref a3])), (a3, zar d3 8 ow)]) [0, 1] (by decide) rfl
  have hK9 := hK.sub (tys' := [(d3, .int)]) [0] rfl
  refine W.widen (k := 0) (n := 0) (Nat.le_of_ble_eq_true rfl) (Nat.le_of_ble_eq_true rfl) ?_
  exact W.iret (v := ((sh_us (ow (j / 4)) (nI (24 - 8 * (j % 4)))) &&& (255 : Int32))) hx hb hr (fun t ht hW => ⟨⟨_, (), rfl, rfl, by rw [ht]; exact hP9, va_K.moved hW.alike hK9, hD9⟩, hS.F ht⟩) hS.2.2 dX1_out_29

set_option maxHeartbeats 4000000 in
set_option maxRecDepth 100000 in
theorem zX1_put (l : Launch) (D : va_G) (sz : Nat) (h0 a1 a2 a3 : Nat) (d3 : ClassId) (ow : Nat → Int32) (v1 v2 v3 v4 v5 v6 v7 v8 : Int32) : Met l yX1_put (ws_ yX1_put cX1_put 9 none) ({ frames := 0, cells := 0, slots := 0, locals := 0 }) (va_Pc [.ref h0, .int v1, .int v2, .int v3, .int v4, .int v5, .int v6, .int v7, .int v8] (zW D [(h0, .inr (1, [.ref a1, .ref a2, .ref a3])), (a3, zar d3 8 ow)] [(d3, .int)] sz)) (va_Qv (fun _ : Unit => True) (fun _ t => zB D [(h0, .inr (1, [.ref a1, .ref a2, .ref a3])), (a3, zar d3 8 (sh_o8 ow (v1, v2, v3, v4, v5, v6, v7, v8)))] [(d3, .int)] (va_A [(h0, .inr (1, [.ref a1, .ref a2, .ref a3])), (a3, zar d3 8 ow)] sz) t) (va_A [(h0, .inr (1, [.ref a1, .ref a2, .ref a3])), (a3, zar d3 8 ow)] sz)) 0 0 (va_A [(h0, .inr (1, [.ref a1, .ref a2, .ref a3])), (a3, zar d3 8 ow)] sz) := by
  refine Met.ofW (cc := cX1_put) (maxL := 9) (ret := none) (by decide) rfl ?_
  intro p e s m args below meth c s₁ B hml hv
  obtain ⟨rfl, hsz, hP, hK, hD0⟩ := hv
  have hx := B.exec
  have hb := B.bytes
  have hr := B.returns
  have hts := atoms_spec (ws := (ws_ yX1_put cX1_put 9 none)) B.pre
  have hts : ∀ w ∈ lw_all, w.before _ s = true := fun w h => hts w (List.mem_cons_of_mem _ h)
  have hown : s.vm.findClass RX1 = some m.cls := findClass_of_methodNamed B.named
  have hlocks := B.notSynchronized
  subst hsz
  have hD := hD0.self (sz := s.heap.size)
  generalize hAe : va_A [(h0, .inr (1, [.ref a1, .ref a2, .ref a3])), (a3, zar d3 8 ow)] s.heap.size = A at hD ⊢
  have hA : ∀ q : Nat, s.heap.size ≤ q → A q := fun q h => by rw [← hAe]; exact Or.inr h
  have hS : va_S A s.heap s.heap [] := va_S.rf
  have hl := lv_entry ([.ref h0, .int v1, .int v2, .int v3, .int v4, .int v5, .int v6, .int v7, .int v8]) (n := 9) (Nat.le_of_ble_eq_true rfl)
  rw [lg_entry_eq]
  generalize (lg_sl ([.ref h0, .int v1, .int v2, .int v3, .int v4, .int v5, .int v6, .int v7, .int v8]) ++ List.replicate (9 - (lg_sl ([.ref h0, .int v1, .int v2, .int v3, .int v4, .int v5, .int v6, .int v7, .int v8])).length) Slot.unset).toArray = ls at hl ⊢
  have hl : lv_has ls 9 [(0, .ref h0), (1, .int v1), (2, .int v2), (3, .int v3), (4, .int v4), (5, .int v5), (6, .int v6), (7, .int v7), (8, .int v8)] := hl
  have hP : va_P D zcl [(h0, .inr (1, [.ref a1, .ref a2, .ref a3])), (a3, zar d3 8 ow)] s.heap := hP
  refine lv_aload_n hx hb dX1_put_0 rfl (lv_at hl 0 rfl) ?_
  refine va_get (D := D) (ci := 1) (v := .ref a3) (C := RX1) (T := TX1) (N := 3) hx hb hts in_X1 hown hK hP 0 rfl rfl 2 (by decide) (hts _ q286) (fun _ h9 => h9) rfl dX1_put_1 ?_
  refine lv_iconst (v := (0 : Int32)) hx hb dX1_put_4 (by decide) ?_
  refine lv_iload_n hx hb dX1_put_5 rfl (lv_at hl 1 rfl) ?_
  refine z_ist (f' := (upd ow 0 v1)) hx hb hK hP hD hS 1 0 rfl rfl 0 (by decide) (by omega) (by decide) (rfl) dX1_put_6 (fun H locs hP hD hS => ?_)
  have hP : va_P D zcl [(h0, .inr (1, [.ref a1, .ref a2, .ref a3])), (a3, zar d3 8 (upd ow 0 v1))] H := hP
  have hD : va_D A [(h0, .inr (1, [.ref a1, .ref a2, .ref a3])), (a3, zar d3 8 (upd ow 0 v1))] := hD
  refine lv_aload_n hx hb dX1_put_7 rfl (lv_at hl 0 rfl) ?_
  refine va_get (D := D) (ci := 1) (v := .ref a3) (C := RX1) (T := TX1) (N := 3) hx hb hts in_X1 hown hK hP 0 rfl rfl 2 (by decide) (hts _ q286) (fun _ h9 => h9) rfl dX1_put_8 ?_
  refine lv_iconst (v := (1 : Int32)) hx hb dX1_put_11 (by decide) ?_
  refine lv_iload_n hx hb dX1_put_12 rfl (lv_at hl 2 rfl) ?_
  refine z_ist (f' := (upd (upd ow 0 v1) 1 v2)) hx hb hK hP hD hS 1 0 rfl rfl 1 (by decide) (by omega) (by decide) (rfl) dX1_put_13 (fun H locs hP hD hS => ?_)
  have hP : va_P D zcl [(h0, .inr (1, [.ref a1, .ref a2, .ref a3])), (a3, zar d3 8 (upd (upd ow 0 v1) 1 v2))] H := hP
  have hD : va_D A [(h0, .inr (1, [.ref a1, .ref a2, .ref a3])), (a3, zar d3 8 (upd (upd ow 0 v1) 1 v2))] := hD
  refine lv_aload_n hx hb dX1_put_14 rfl (lv_at hl 0 rfl) ?_
  refine va_get (D := D) (ci := 1) (v := .ref a3) (C := RX1) (T := TX1) (N := 3) hx hb hts in_X1 hown hK hP 0 rfl rfl 2 (by decide) (hts _ q286) (fun _ h9 => h9) rfl dX1_put_15 ?_
  refine lv_iconst (v := (2 : Int32)) hx hb dX1_put_18 (by decide) ?_
  refine lv_iload_n hx hb dX1_put_19 rfl (lv_at hl 3 rfl) ?_
  refine z_ist (f' := (upd (upd (upd ow 0 v1) 1 v2) 2 v3)) hx hb hK hP hD hS 1 0 rfl rfl 2 (by decide) (by omega) (by decide) (rfl) dX1_put_20 (fun H locs hP hD hS => ?_)
  have hP : va_P D zcl [(h0, .inr (1, [.ref a1, .ref a2, .ref a3])), (a3, zar d3 8 (upd (upd (upd ow 0 v1) 1 v2) 2 v3))] H := hP
  have hD : va_D A [(h0, .inr (1, [.ref a1, .ref a2, .ref a3])), (a3, zar d3 8 (upd (upd (upd ow 0 v1) 1 v2) 2 v3))] := hD
  refine lv_aload_n hx hb dX1_put_21 rfl (lv_at hl 0 rfl) ?_
  refine va_get (D := D) (ci := 1) (v := .ref a3) (C := RX1) (T := TX1) (N := 3) hx hb hts in_X1 hown hK hP 0 rfl rfl 2 (by decide) (hts _ q286) (fun _ h9 => h9) rfl dX1_put_22 ?_
  refine lv_iconst (v := (3 : Int32)) hx hb dX1_put_25 (by decide) ?_
  refine lv_iload hx hb dX1_put_26 (lv_at hl 4 rfl) ?_
  refine z_ist (f' := (upd (upd (upd (upd ow 0 v1) 1 v2) 2 v3) 3 v4)) hx hb hK hP hD hS 1 0 rfl rfl 3 (by decide) (by omega) (by decide) (rfl) dX1_put_28 (fun H locs hP hD hS => ?_)
  have hP : va_P D zcl [(h0, .inr (1, [.ref a1, .ref a2, .ref a3])), (a3, zar d3 8 (upd (upd (upd (upd ow 0 v1) 1 v2) 2 v3) 3 v4))] H := hP
  have hD : va_D A [(h0, .inr (1, [.ref a1, .ref a2, .ref a3])), (a3, zar d3 8 (upd (upd (upd (upd ow 0 v1) 1 v2) 2 v3) 3 v4))] := hD
  refine lv_aload_n hx hb dX1_put_29 rfl (lv_at hl 0 rfl) ?_
  refine va_get (D := D) (ci := 1) (v := .ref a3) (C := RX1) (T := TX1) (N := 3) hx hb hts in_X1 hown hK hP 0 rfl rfl 2 (by decide) (hts _ q286) (fun _ h9 => h9) rfl dX1_put_30 ?_
  refine lv_iconst (v := (4 : Int32)) hx hb dX1_put_33 (by decide) ?_
  refine lv_iload hx hb dX1_put_34 (lv_at hl 5 rfl) ?_
  refine z_ist (f' := (upd (upd (upd (upd (upd ow 0 v1) 1 v2) 2 v3) 3 v4) 4 v5)) hx hb hK hP hD hS 1 0 rfl rfl 4 (by decide) (by omega) (by decide) (rfl) dX1_put_36 (fun H locs hP hD hS => ?_)
  have hP : va_P D zcl [(h0, .inr (1, [.ref a1, .ref a2, .ref a3])), (a3, zar d3 8 (upd (upd (upd (upd (upd ow 0 v1) 1 v2) 2 v3) 3 v4) 4 v5))] H := hP
  have hD : va_D A [(h0, .inr (1, [.ref a1, .ref a2, .ref a3])), (a3, zar d3 8 (upd (upd (upd (upd (upd ow 0 v1) 1 v2) 2 v3) 3 v4) 4 v5))] := hD
  refine lv_aload_n hx hb dX1_put_37 rfl (lv_at hl 0 rfl) ?_
  refine va_get (D := D) (ci := 1) (v := .ref a3) (C := RX1) (T := TX1) (N := 3) hx hb hts in_X1 hown hK hP 0 rfl rfl 2 (by decide) (hts _ q286) (fun _ h9 => h9) rfl dX1_put_38 ?_
  refine lv_iconst (v := (5 : Int32)) hx hb dX1_put_41 (by decide) ?_
  refine lv_iload hx hb dX1_put_42 (lv_at hl 6 rfl) ?_
  refine z_ist (f' := (upd (upd (upd (upd (upd (upd ow 0 v1) 1 v2) 2 v3) 3 v4) 4 v5) 5 v6)) hx hb hK hP hD hS 1 0 rfl rfl 5 (by decide) (by omega) (by decide) (rfl) dX1_put_44 (fun H locs hP hD hS => ?_)
  have hP : va_P D zcl [(h0, .inr (1, [.ref a1, .ref a2, .ref a3])), (a3, zar d3 8 (upd (upd (upd (upd (upd (upd ow 0 v1) 1 v2) 2 v3) 3 v4) 4 v5) 5 v6))] H := hP
  have hD : va_D A [(h0, .inr (1, [.ref a1, .ref a2, .ref a3])), (a3, zar d3 8 (upd (upd (upd (upd (upd (upd ow 0 v1) 1 v2) 2 v3) 3 v4) 4 v5) 5 v6))] := hD
  refine lv_aload_n hx hb dX1_put_45 rfl (lv_at hl 0 rfl) ?_
  refine va_get (D := D) (ci := 1) (v := .ref a3) (C := RX1) (T := TX1) (N := 3) hx hb hts in_X1 hown hK hP 0 rfl rfl 2 (by decide) (hts _ q286) (fun _ h9 => h9) rfl dX1_put_46 ?_
  refine lv_bipush (v := (6 : Int32)) hx hb dX1_put_49 (by decide) ?_
  refine lv_iload hx hb dX1_put_51 (lv_at hl 7 rfl) ?_
  refine z_ist (f' := (upd (upd (upd (upd (upd (upd (upd ow 0 v1) 1 v2) 2 v3) 3 v4) 4 v5) 5 v6) 6 v7)) hx hb hK hP hD hS 1 0 rfl rfl 6 (by decide) (by omega) (by decide) (rfl) dX1_put_53 (fun H locs hP hD hS => ?_)
  have hP : va_P D zcl [(h0, .inr (1, [.ref a1, .ref a2, .ref a3])), (a3, zar d3 8 (upd (upd (upd (upd (upd (upd (upd ow 0 v1) 1 v2) 2 v3) 3 v4) 4 v5) 5 v6) 6 v7))] H := hP
  have hD : va_D A [(h0, .inr (1, [.ref a1, .ref a2, .ref a3])), (a3, zar d3 8 (upd (upd (upd (upd (upd (upd (upd ow 0 v1) 1 v2) 2 v3) 3 v4) 4 v5) 5 v6) 6 v7))] := hD
  refine lv_aload_n hx hb dX1_put_54 rfl (lv_at hl 0 rfl) ?_
  refine va_get (D := D) (ci := 1) (v := .ref a3) (C := RX1) (T := TX1) (N := 3) hx hb hts in_X1 hown hK hP 0 rfl rfl 2 (by decide) (hts _ q286) (fun _ h9 => h9) rfl dX1_put_55 ?_
  refine lv_bipush (v := (7 : Int32)) hx hb dX1_put_58 (by decide) ?_
  refine lv_iload hx hb dX1_put_60 (lv_at hl 8 rfl) ?_
  refine z_ist (f' := (sh_o8 ow (v1, v2, v3, v4, v5, v6, v7, v8))) hx hb hK hP hD hS 1 0 rfl rfl 7 (by decide) (by omega) (by decide) (rfl) dX1_put_62 (fun H locs hP hD hS => ?_)
  have hP : va_P D zcl [(h0, .inr (1, [.ref a1, .ref a2, .ref a3])), (a3, zar d3 8 (sh_o8 ow (v1, v2, v3, v4, v5, v6, v7, v8)))] H := hP
  have hD : va_D A [(h0, .inr (1, [.ref a1, .ref a2, .ref a3])), (a3, zar d3 8 (sh_o8 ow (v1, v2, v3, v4, v5, v6, v7, v8)))] := hD
  have hP9 := hP.sub (ws' := [(h0, .inr (1, [.ref a1, .ref a2, .ref a3])), (a3, zar d3 8 (sh_o8 ow (v1, v2, v3, v4, v5, v6, v7, v8)))]) [0, 1] rfl
  have hD9 := hD.sub (ws' := [(h0, .inr (1, [.ref a1, .ref a2, .ref a3])), (a3, zar d3 8 (sh_o8 ow (v1, v2, v3, v4, v5, v6, v7, v8)))]) [0, 1] (by decide) rfl
  have hK9 := hK.sub (tys' := [(d3, .int)]) [0] rfl
  refine W.widen (k := 0) (n := 0) (Nat.le_of_ble_eq_true rfl) (Nat.le_of_ble_eq_true rfl) ?_
  exact W.vret hx hb hr (fun t ht hW => ⟨⟨(), rfl, trivial, by rw [ht]; exact hP9, va_K.moved hW.alike hK9, hD9⟩, hS.F ht⟩) hS.2.2 dX1_put_63

set_option maxHeartbeats 4000000 in
set_option maxRecDepth 100000 in
theorem zX1_schedule (l : Launch) (D : va_G) (sz : Nat) (h0 a1 a2 a3 : Nat) (d1 : ClassId) (kw : Nat → Int32) : Met l yX1_schedule (ws_ yX1_schedule cX1_schedule 3 (some (.array .int))) ({ frames := 2, cells := 1, slots := 64, locals := 41 }) (va_Pc [.ref h0] (zW D [(h0, .inr (1, [.ref a1, .ref a2, .ref a3])), (a1, zar d1 16 kw)] [(d1, .int)] sz)) (va_Qr (fun _ : Unit => True) (fun _ q t => ∃ dq : ClassId, zB D [(h0, .inr (1, [.ref a1, .ref a2, .ref a3])), (a1, zar d1 16 kw), (q, zar dq 64 (sh_sch kw))] [(d1, .int), (dq, .int)] (va_A [(h0, .inr (1, [.ref a1, .ref a2, .ref a3])), (a1, zar d1 16 kw)] sz) t) (va_A [(h0, .inr (1, [.ref a1, .ref a2, .ref a3])), (a1, zar d1 16 kw)] sz)) 1 64 (va_A [(h0, .inr (1, [.ref a1, .ref a2, .ref a3])), (a1, zar d1 16 kw)] sz) := by
  refine Met.ofW (cc := cX1_schedule) (maxL := 3) (ret := (some (.array .int))) (by decide) rfl ?_
  intro p e s m args below meth c s₁ B hml hv
  obtain ⟨rfl, hsz, hP, hK, hD0⟩ := hv
  have hx := B.exec
  have hb := B.bytes
  have hr := B.returns
  have hts := atoms_spec (ws := (ws_ yX1_schedule cX1_schedule 3 (some (.array .int)))) B.pre
  have hts : ∀ w ∈ lw_all, w.before _ s = true := fun w h => hts w (List.mem_cons_of_mem _ h)
  have hown : s.vm.findClass RX1 = some m.cls := findClass_of_methodNamed B.named
  have hlocks := B.notSynchronized
  subst hsz
  have hD := hD0.self (sz := s.heap.size)
  generalize hAe : va_A [(h0, .inr (1, [.ref a1, .ref a2, .ref a3])), (a1, zar d1 16 kw)] s.heap.size = A at hD ⊢
  have hA : ∀ q : Nat, s.heap.size ≤ q → A q := fun q h => by rw [← hAe]; exact Or.inr h
  have hS : va_S A s.heap s.heap [] := va_S.rf
  have hl := lv_entry ([.ref h0]) (n := 3) (Nat.le_of_ble_eq_true rfl)
  rw [lg_entry_eq]
  generalize (lg_sl ([.ref h0]) ++ List.replicate (3 - (lg_sl ([.ref h0])).length) Slot.unset).toArray = ls at hl ⊢
  have hl : lv_has ls 3 [(0, .ref h0)] := hl
  have hP : va_P D zcl [(h0, .inr (1, [.ref a1, .ref a2, .ref a3])), (a1, zar d1 16 kw)] s.heap := hP
  refine lv_bipush (v := (64 : Int32)) hx hb dX1_schedule_0 (by decide) ?_
  refine va_newa (atype := .int) (ty := .int) (N' := 64) (a0 := (64, .inl sh_z)) hx hb (hts _ q210) rfl hK hP hD hS hA (fun _ => rfl) (by decide) (by decide) (by decide) (Nat.le_of_ble_eq_true rfl) (Nat.le_of_ble_eq_true rfl) dX1_schedule_2 (fun q dq H hK hP hD hS => ?_)
  have hK : va_K D zcl [(d1, .int), (dq, .int)] s := hK
  have hP : va_P D zcl [(h0, .inr (1, [.ref a1, .ref a2, .ref a3])), (a1, zar d1 16 kw), (q, zar dq 64 sh_z)] H := hP
  have hD : va_D A [(h0, .inr (1, [.ref a1, .ref a2, .ref a3])), (a1, zar d1 16 kw), (q, zar dq 64 sh_z)] := hD
  refine W.widen (k := 1) (n := 64) (Nat.le_of_ble_eq_true rfl) (Nat.le_of_ble_eq_true rfl) ?_
  refine lv_astore_n (lv' := [(1, .ref q), (0, .ref h0)]) hx hb dX1_schedule_4 rfl hl (by decide) rfl (fun ls hl => ?_)
  refine lv_iconst (v := (nI 0)) hx hb dX1_schedule_5 (by decide) ?_
  refine lv_istore_n (lv' := [(2, .int (nI 0)), (1, .ref q), (0, .ref h0)]) hx hb dX1_schedule_6 rfl hl (by decide) rfl (fun ls hl => ?_)
  have loop2 : ∀ (n i : Nat), i + n = 48 → ∀ (H : Heap) (locs : List Loc) (ls : Array Slot), va_K D zcl [(d1, .int), (dq, .int)] s → va_P D zcl [(h0, .inr (1, [.ref a1, .ref a2, .ref a3])), (a1, zar d1 16 kw), (q, zar dq 64 (sh_fill (sh_cp kw sh_z 16) i))] H → va_D A [(h0, .inr (1, [.ref a1, .ref a2, .ref a3])), (a1, zar d1 16 kw), (q, zar dq 64 (sh_fill (sh_cp kw sh_z 16) i))] → va_S A s.heap H locs → lv_has ls 3 [(0, .ref h0), (1, .ref q), (2, .int (nI (16 + i)))] → W p l e (headSpec (ws_ yX1_schedule cX1_schedule 3 (some (.array .int))) ({ frames := 2, cells := 1, slots := 64, locals := 41 })).room s m ([.ref h0] : List Value).toArray below meth c H locs 1 64 (MQ below (va_Qr (fun _ : Unit => True) (fun _ q t => ∃ dq : ClassId, zB D [(h0, .inr (1, [.ref a1, .ref a2, .ref a3])), (a1, zar d1 16 kw), (q, zar dq 64 (sh_sch kw))] [(d1, .int), (dq, .int)] A t) A) ([.ref h0] : List Value).toArray s 1 64 A) (F0 m 31 ls []) := by
    intro n
    induction n with
    | zero =>
      intro i hi H locs ls hK hP hD hS hl
      obtain rfl : i = 48 := by omega
      refine lv_iload_n hx hb dX1_schedule_31 rfl (lv_at hl 2 rfl) ?_
      refine lv_bipush (v := (64 : Int32)) hx hb dX1_schedule_32 (by decide) ?_
      refine z_ge_t (tgt := 78) hx hb dX1_schedule_34 (by decide) (nI_le (a := 64) (b := 16 + 48) (by omega) (by omega)) ?_
      refine lv_aload_n hx hb dX1_schedule_78 rfl (lv_at hl 1 rfl) ?_
      have hP9 := hP.sub (ws' := [(h0, .inr (1, [.ref a1, .ref a2, .ref a3])), (a1, zar d1 16 kw), (q, zar dq 64 (sh_sch kw))]) [0, 1, 2] rfl
      have hD9 := hD.sub (ws' := [(h0, .inr (1, [.ref a1, .ref a2, .ref a3])), (a1, zar d1 16 kw), (q, zar dq 64 (sh_sch kw))]) [0, 1, 2] (by decide) rfl
      have hK9 := hK.sub (tys' := [(d1, .int), (dq, .int)]) [0, 1] rfl
      refine W.widen (k := 1) (n := 64) (Nat.le_of_ble_eq_true rfl) (Nat.le_of_ble_eq_true rfl) ?_
      exact W.aret (v := .ref q) hx hb hr (Or.inr ⟨_, rfl⟩) (Or.inr ⟨_, rfl⟩) (fun t ht hW => ⟨⟨(), q, rfl, trivial, dq, by rw [ht]; exact hP9, va_K.moved hW.alike hK9, hD9⟩, hS.F ht⟩) hS.2.2 dX1_schedule_79
    | succ n ih =>
      intro i hi H locs ls hK hP hD hS hl
      refine lv_iload_n hx hb dX1_schedule_31 rfl (lv_at hl 2 rfl) ?_
      refine lv_bipush (v := (64 : Int32)) hx hb dX1_schedule_32 (by decide) ?_
      refine z_ge_f (tgt := 78) hx hb dX1_schedule_34 (by decide) (nI_ge (a := 16 + i) (b := 64) (by omega) (by omega)) ?_
      refine lv_aload_n hx hb dX1_schedule_37 rfl (lv_at hl 1 rfl) ?_
      refine lv_iload_n hx hb dX1_schedule_38 rfl (lv_at hl 2 rfl) ?_
      refine lv_aload_n hx hb dX1_schedule_39 rfl (lv_at hl 1 rfl) ?_
      refine lv_iload_n hx hb dX1_schedule_40 rfl (lv_at hl 2 rfl) ?_
      refine lv_iconst (v := (nI 2)) hx hb dX1_schedule_41 (by decide) ?_
      refine lv_isub hx hb dX1_schedule_42 ?_
      refine z_top (y := (nI (16 + i - 2))) (pk_sub (by omega)) ?_
      refine z_ild hx hb hK hP 2 1 rfl rfl (v := ((sh_fill (sh_cp kw sh_z 16) i) (16 + i - 2))) (16 + i - 2) rfl (by omega) (by decide) (rfl) dX1_schedule_43 ?_
      refine vp_callSi (W.runS (As := [.int ((sh_fill (sh_cp kw sh_z 16) i) (16 + i - 2))]) (rest := [.int (nI (16 + i)), .ref q]) ⟨hx, hb, hml, hown, hts⟩ (zX1_smallSigma1 l ((sh_fill (sh_cp kw sh_z 16) i) (16 + i - 2))) (va_cwS 1 hts (lw_S q310 q311 q11 q312) rfl rfl rfl (by decide +kernel) ⟨(Nat.le_of_ble_eq_true rfl), (Nat.le_of_ble_eq_true rfl)⟩) ⟨fun _ _ _ _ q => q, fun _ _ _ => ⟨rfl, trivial⟩⟩ rfl rfl hl.1 rfl (lv_room (Nat.le_of_ble_eq_true rfl)) dX1_schedule_44 ⟨(Nat.le_of_ble_eq_true rfl), (Nat.le_of_ble_eq_true rfl)⟩) (nm_e ?_)
      refine lv_aload_n hx hb dX1_schedule_47 rfl (lv_at hl 1 rfl) ?_
      refine lv_iload_n hx hb dX1_schedule_48 rfl (lv_at hl 2 rfl) ?_
      refine lv_bipush (v := (nI 7)) hx hb dX1_schedule_49 (by decide) ?_
      refine lv_isub hx hb dX1_schedule_51 ?_
      refine z_top (y := (nI (16 + i - 7))) (pk_sub (by omega)) ?_
      refine z_ild hx hb hK hP 2 1 rfl rfl (v := ((sh_fill (sh_cp kw sh_z 16) i) (16 + i - 7))) (16 + i - 7) rfl (by omega) (by decide) (rfl) dX1_schedule_52 ?_
      refine lv_iadd hx hb dX1_schedule_53 ?_
      refine lv_aload_n hx hb dX1_schedule_54 rfl (lv_at hl 1 rfl) ?_
      refine lv_iload_n hx hb dX1_schedule_55 rfl (lv_at hl 2 rfl) ?_
      refine lv_bipush (v := (nI 15)) hx hb dX1_schedule_56 (by decide) ?_
      refine lv_isub hx hb dX1_schedule_58 ?_
      refine z_top (y := (nI (16 + i - 15))) (pk_sub (by omega)) ?_
      refine z_ild hx hb hK hP 2 1 rfl rfl (v := ((sh_fill (sh_cp kw sh_z 16) i) (16 + i - 15))) (16 + i - 15) rfl (by omega) (by decide) (rfl) dX1_schedule_59 ?_
      refine vp_callSi (W.runS (As := [.int ((sh_fill (sh_cp kw sh_z 16) i) (16 + i - 15))]) (rest := [.int ((sh_s1 ((sh_fill (sh_cp kw sh_z 16) i) (16 + i - 2))) + ((sh_fill (sh_cp kw sh_z 16) i) (16 + i - 7))), .int (nI (16 + i)), .ref q]) ⟨hx, hb, hml, hown, hts⟩ (zX1_smallSigma0 l ((sh_fill (sh_cp kw sh_z 16) i) (16 + i - 15))) (va_cwS 1 hts (lw_S q316 q317 q11 q318) rfl rfl rfl (by decide +kernel) ⟨(Nat.le_of_ble_eq_true rfl), (Nat.le_of_ble_eq_true rfl)⟩) ⟨fun _ _ _ _ q => q, fun _ _ _ => ⟨rfl, trivial⟩⟩ rfl rfl hl.1 rfl (lv_room (Nat.le_of_ble_eq_true rfl)) dX1_schedule_60 ⟨(Nat.le_of_ble_eq_true rfl), (Nat.le_of_ble_eq_true rfl)⟩) (nm_e ?_)
      refine lv_iadd hx hb dX1_schedule_63 ?_
      refine lv_aload_n hx hb dX1_schedule_64 rfl (lv_at hl 1 rfl) ?_
      refine lv_iload_n hx hb dX1_schedule_65 rfl (lv_at hl 2 rfl) ?_
      refine lv_bipush (v := (nI 16)) hx hb dX1_schedule_66 (by decide) ?_
      refine lv_isub hx hb dX1_schedule_68 ?_
      refine z_top (y := (nI (16 + i - 16))) (pk_sub (by omega)) ?_
      refine z_ild hx hb hK hP 2 1 rfl rfl (v := ((sh_fill (sh_cp kw sh_z 16) i) (16 + i - 16))) (16 + i - 16) rfl (by omega) (by decide) (rfl) dX1_schedule_69 ?_
      refine lv_iadd hx hb dX1_schedule_70 ?_
      refine z_ist (f' := (sh_fill (sh_cp kw sh_z 16) (i + 1))) hx hb hK hP hD hS 2 1 rfl rfl (16 + i) rfl (by omega) (by decide) (rfl) dX1_schedule_71 (fun H locs hP hD hS => ?_)
      have hP : va_P D zcl [(h0, .inr (1, [.ref a1, .ref a2, .ref a3])), (a1, zar d1 16 kw), (q, zar dq 64 (sh_fill (sh_cp kw sh_z 16) (i + 1)))] H := hP
      have hD : va_D A [(h0, .inr (1, [.ref a1, .ref a2, .ref a3])), (a1, zar d1 16 kw), (q, zar dq 64 (sh_fill (sh_cp kw sh_z 16) (i + 1)))] := hD
      refine lv_iinc (v := (nI (16 + (i + 1)))) (lv' := [(2, .int (nI (16 + (i + 1)))), (0, .ref h0), (1, .ref q)]) hx hb dX1_schedule_72 hl (k := 2) rfl (z_inc (16 + i)) (by decide) rfl (fun ls hl => ?_)
      refine lv_goto (tgt := 31) hx hb dX1_schedule_75 (by decide) ?_
      exact ih (i + 1) (by omega) _ _ ls hK (hP.sub [0, 1, 2] rfl) (hD.sub [0, 1, 2] (by decide) rfl) hS (lv_sub hl [1, 2, 0] rfl)
  have loop1 : ∀ (n i : Nat), i + n = 16 → ∀ (H : Heap) (locs : List Loc) (ls : Array Slot), va_K D zcl [(d1, .int), (dq, .int)] s → va_P D zcl [(h0, .inr (1, [.ref a1, .ref a2, .ref a3])), (a1, zar d1 16 kw), (q, zar dq 64 (sh_cp kw sh_z i))] H → va_D A [(h0, .inr (1, [.ref a1, .ref a2, .ref a3])), (a1, zar d1 16 kw), (q, zar dq 64 (sh_cp kw sh_z i))] → va_S A s.heap H locs → lv_has ls 3 [(0, .ref h0), (1, .ref q), (2, .int (nI i))] → W p l e (headSpec (ws_ yX1_schedule cX1_schedule 3 (some (.array .int))) ({ frames := 2, cells := 1, slots := 64, locals := 41 })).room s m ([.ref h0] : List Value).toArray below meth c H locs 1 64 (MQ below (va_Qr (fun _ : Unit => True) (fun _ q t => ∃ dq : ClassId, zB D [(h0, .inr (1, [.ref a1, .ref a2, .ref a3])), (a1, zar d1 16 kw), (q, zar dq 64 (sh_sch kw))] [(d1, .int), (dq, .int)] A t) A) ([.ref h0] : List Value).toArray s 1 64 A) (F0 m 7 ls []) := by
    intro n
    induction n with
    | zero =>
      intro i hi H locs ls hK hP hD hS hl
      obtain rfl : i = 16 := by omega
      refine lv_iload_n hx hb dX1_schedule_7 rfl (lv_at hl 2 rfl) ?_
      refine lv_bipush (v := (16 : Int32)) hx hb dX1_schedule_8 (by decide) ?_
      refine z_ge_t (tgt := 28) hx hb dX1_schedule_10 (by decide) (nI_le (a := 16) (b := 16) (by omega) (by omega)) ?_
      refine lv_bipush (v := (nI (16 + 0))) hx hb dX1_schedule_28 (by decide) ?_
      refine lv_istore_n (lv' := [(2, .int (nI (16 + 0))), (0, .ref h0), (1, .ref q)]) hx hb dX1_schedule_30 rfl hl (by decide) rfl (fun ls hl => ?_)
      exact loop2 48 0 (by omega) _ _ ls hK (hP.sub [0, 1, 2] rfl) (hD.sub [0, 1, 2] (by decide) rfl) hS (lv_sub hl [1, 2, 0] rfl)
    | succ n ih =>
      intro i hi H locs ls hK hP hD hS hl
      refine lv_iload_n hx hb dX1_schedule_7 rfl (lv_at hl 2 rfl) ?_
      refine lv_bipush (v := (16 : Int32)) hx hb dX1_schedule_8 (by decide) ?_
      refine z_ge_f (tgt := 28) hx hb dX1_schedule_10 (by decide) (nI_ge (a := i) (b := 16) (by omega) (by omega)) ?_
      refine lv_aload_n hx hb dX1_schedule_13 rfl (lv_at hl 1 rfl) ?_
      refine lv_iload_n hx hb dX1_schedule_14 rfl (lv_at hl 2 rfl) ?_
      refine lv_aload_n hx hb dX1_schedule_15 rfl (lv_at hl 0 rfl) ?_
      refine va_get (D := D) (ci := 1) (v := .ref a1) (C := RX1) (T := TX1) (N := 3) hx hb hts in_X1 hown hK hP 0 rfl rfl 0 (by decide) (hts _ q284) (fun _ h9 => h9) rfl dX1_schedule_16 ?_
      refine lv_iload_n hx hb dX1_schedule_19 rfl (lv_at hl 2 rfl) ?_
      refine z_ild hx hb hK hP 1 0 rfl rfl (v := (kw i)) i rfl (by omega) (by decide) (rfl) dX1_schedule_20 ?_
      refine z_ist (f' := (sh_cp kw sh_z (i + 1))) hx hb hK hP hD hS 2 1 rfl rfl i rfl (by omega) (by decide) (sh_cp_s _ _ _ rfl) dX1_schedule_21 (fun H locs hP hD hS => ?_)
      have hP : va_P D zcl [(h0, .inr (1, [.ref a1, .ref a2, .ref a3])), (a1, zar d1 16 kw), (q, zar dq 64 (sh_cp kw sh_z (i + 1)))] H := hP
      have hD : va_D A [(h0, .inr (1, [.ref a1, .ref a2, .ref a3])), (a1, zar d1 16 kw), (q, zar dq 64 (sh_cp kw sh_z (i + 1)))] := hD
      refine lv_iinc (v := (nI (i + 1))) (lv' := [(2, .int (nI (i + 1))), (0, .ref h0), (1, .ref q)]) hx hb dX1_schedule_22 hl (k := 2) rfl (z_inc i) (by decide) rfl (fun ls hl => ?_)
      refine lv_goto (tgt := 7) hx hb dX1_schedule_25 (by decide) ?_
      exact ih (i + 1) (by omega) _ _ ls hK (hP.sub [0, 1, 2] rfl) (hD.sub [0, 1, 2] (by decide) rfl) hS (lv_sub hl [1, 2, 0] rfl)
  rw [← sh_cp_0 kw sh_z] at hP hD
  exact loop1 16 0 (by omega) _ _ ls hK (hP.sub [0, 1, 2] rfl) (hD.sub [0, 1, 2] (by decide) rfl) hS (lv_sub hl [2, 1, 0] rfl)
end
section
set_option maxHeartbeats 4000000 in
set_option maxRecDepth 100000 in
theorem zX1_lock (l : Launch) (D : va_G) (tk tc : Nat) (sz : Nat) (h0 a1 a2 a3 : Nat) (d1 d2 d3 : ClassId) (kw bw ow : Nat → Int32) (p0 : Int32) : Met l yX1_lock (ws_ yX1_lock cX1_lock 14 none) ({ frames := 3, cells := 1, slots := 64, locals := 63 }) (va_Pc [.ref h0, .int p0] (zV tk tc D [(h0, .inr (1, [.ref a1, .ref a2, .ref a3])), (a1, zar d1 16 kw), (a2, zar d2 8 bw), (a3, zar d3 8 ow)] [(d1, .int), (d2, .int), (d3, .int)] sz)) (va_Qv (fun _ : Unit => True) (fun _ t => zB D [(h0, .inr (1, [.ref a1, .ref a2, .ref a3])), (a1, zar d1 16 kw), (a2, zar d2 8 bw), (a3, zar d3 8 (sh_o8 ow (sh_enc sh_K (sh_sch kw) (sh_x8 bw) 64)))] [(d1, .int), (d2, .int), (d3, .int)] (va_A [(h0, .inr (1, [.ref a1, .ref a2, .ref a3])), (a1, zar d1 16 kw), (a2, zar d2 8 bw), (a3, zar d3 8 ow)] sz) t) (va_A [(h0, .inr (1, [.ref a1, .ref a2, .ref a3])), (a1, zar d1 16 kw), (a2, zar d2 8 bw), (a3, zar d3 8 ow)] sz)) 1 64 (va_A [(h0, .inr (1, [.ref a1, .ref a2, .ref a3])), (a1, zar d1 16 kw), (a2, zar d2 8 bw), (a3, zar d3 8 ow)] sz) := by
  refine Met.ofW (cc := cX1_lock) (maxL := 14) (ret := none) (by decide) rfl ?_
  intro p e s m args below meth c s₁ B hml hv
  obtain ⟨rfl, ⟨hsz, hP, hK, hD0⟩, hZ⟩ := hv
  have hx := B.exec
  have hb := B.bytes
  have hr := B.returns
  have hts := atoms_spec (ws := (ws_ yX1_lock cX1_lock 14 none)) B.pre
  have hts : ∀ w ∈ lw_all, w.before _ s = true := fun w h => hts w (List.mem_cons_of_mem _ h)
  have hown : s.vm.findClass RX1 = some m.cls := findClass_of_methodNamed B.named
  have hlocks := B.notSynchronized
  subst hsz
  have hD := hD0.self (sz := s.heap.size)
  generalize hAe : va_A [(h0, .inr (1, [.ref a1, .ref a2, .ref a3])), (a1, zar d1 16 kw), (a2, zar d2 8 bw), (a3, zar d3 8 ow)] s.heap.size = A at hD hZ ⊢
  have hA : ∀ q : Nat, s.heap.size ≤ q → A q := fun q h => by rw [← hAe]; exact Or.inr h
  have hS : va_S A s.heap s.heap [] := va_S.rf
  have hl := lv_entry ([.ref h0, .int p0]) (n := 14) (Nat.le_of_ble_eq_true rfl)
  rw [lg_entry_eq]
  generalize (lg_sl ([.ref h0, .int p0]) ++ List.replicate (14 - (lg_sl ([.ref h0, .int p0])).length) Slot.unset).toArray = ls at hl ⊢
  have hl : lv_has ls 14 [(0, .ref h0), (1, .int p0)] := hl
  have hP : va_P D zcl [(h0, .inr (1, [.ref a1, .ref a2, .ref a3])), (a1, zar d1 16 kw), (a2, zar d2 8 bw), (a3, zar d3 8 ow)] s.heap := hP
  refine lv_aload_n hx hb dX1_lock_0 rfl (lv_at hl 0 rfl) ?_
  have hPc := hP.sub (ws' := [(h0, .inr (1, [.ref a1, .ref a2, .ref a3])), (a1, zar d1 16 kw)]) [0, 1] rfl
  have hDc := hD.sub (ws' := [(h0, .inr (1, [.ref a1, .ref a2, .ref a3])), (a1, zar d1 16 kw)]) [0, 1] (by decide) rfl
  have hKc := hK.sub (tys' := [(d1, .int)]) [0] rfl
  have hFc := va_free (wc := [(h0, .inr (1, [.ref a1, .ref a2, .ref a3])), (a1, zar d1 16 kw)]) hD hS hA [0, 1] rfl
  refine va_callr (va_runV (As := []) (rest := []) ⟨hx, hb, hml, hown, hts⟩ (zX1_schedule l D _ h0 a1 a2 a3 d1 kw) (cwV 0 hts (lw_V q306 q308 qs7 q11 q309) rfl rfl rfl (by decide +kernel) ⟨(Nat.le_of_ble_eq_true rfl), (Nat.le_of_ble_eq_true rfl)⟩) (z_preV [] hPc hKc hDc (va_recv hKc hPc (ci := 1) (q0 := 0) rfl rfl)) rfl rfl hl.1 rfl (lv_room (Nat.le_of_ble_eq_true rfl)) dX1_lock_1 ⟨(Nat.le_of_ble_eq_true rfl), (Nat.le_of_ble_eq_true rfl)⟩) hS (fun q _ h => hFc q h) hFc (fun u q t H1 locs ht hvm hw_1 hB hz1 hk1 hS => ?_)
  obtain ⟨dq, hP1, hK1, hD1⟩ := hB
  rw [ht] at hP1
  have hK1 := va_K.moved hvm.symm hK1
  obtain ⟨hP, hD⟩ := va_join (wr := [(a2, zar d2 8 bw), (a3, zar d3 8 ow)]) (w1 := [(h0, .inr (1, [.ref a1, .ref a2, .ref a3])), (a1, zar d1 16 kw), (q, zar dq 64 (sh_sch kw))]) hP hD [0, 1] [2, 3] rfl rfl (by decide) (by decide) hk1 hFc hP1 hD1
  have hK := hK.app hK1
  have hK : va_K D zcl [(d1, .int), (d2, .int), (d3, .int), (d1, .int), (dq, .int)] s := hK
  generalize H1 = H at hP hS ⊢
  have hP := hP.sub (ws' := [(h0, .inr (1, [.ref a1, .ref a2, .ref a3])), (a1, zar d1 16 kw), (a2, zar d2 8 bw), (a3, zar d3 8 ow), (q, zar dq 64 (sh_sch kw))]) [2, 3, 0, 1, 4] rfl
  have hD := hD.sub (ws' := [(h0, .inr (1, [.ref a1, .ref a2, .ref a3])), (a1, zar d1 16 kw), (a2, zar d2 8 bw), (a3, zar d3 8 ow), (q, zar dq 64 (sh_sch kw))]) [2, 3, 0, 1, 4] (by decide) rfl
  refine W.widen (k := 1) (n := 64) (Nat.le_of_ble_eq_true rfl) (Nat.le_of_ble_eq_true rfl) ?_
  refine lv_astore_n (lv' := [(2, .ref q), (0, .ref h0), (1, .int p0)]) hx hb dX1_lock_4 rfl hl (by decide) rfl (fun ls hl => ?_)
  refine lv_aload_n hx hb dX1_lock_5 rfl (lv_at hl 1 rfl) ?_
  refine va_get (D := D) (ci := 1) (v := .ref a2) (C := RX1) (T := TX1) (N := 3) hx hb hts in_X1 hown hK hP 0 rfl rfl 1 (by decide) (hts _ q285) (fun _ h9 => h9) rfl dX1_lock_6 ?_
  refine lv_iconst (v := (0 : Int32)) hx hb dX1_lock_9 (by decide) ?_
  refine z_ild hx hb hK hP 2 1 rfl rfl (v := (bw 0)) 0 (by decide) (by omega) (by decide) (rfl) dX1_lock_10 ?_
  refine lv_istore_n (lv' := [(3, .int (bw 0)), (2, .ref q), (0, .ref h0), (1, .int p0)]) hx hb dX1_lock_11 rfl hl (by decide) rfl (fun ls hl => ?_)
  refine lv_aload_n hx hb dX1_lock_12 rfl (lv_at hl 2 rfl) ?_
  refine va_get (D := D) (ci := 1) (v := .ref a2) (C := RX1) (T := TX1) (N := 3) hx hb hts in_X1 hown hK hP 0 rfl rfl 1 (by decide) (hts _ q285) (fun _ h9 => h9) rfl dX1_lock_13 ?_
  refine lv_iconst (v := (1 : Int32)) hx hb dX1_lock_16 (by decide) ?_
  refine z_ild hx hb hK hP 2 1 rfl rfl (v := (bw 1)) 1 (by decide) (by omega) (by decide) (rfl) dX1_lock_17 ?_
  refine lv_istore (lv' := [(4, .int (bw 1)), (3, .int (bw 0)), (2, .ref q), (0, .ref h0), (1, .int p0)]) hx hb dX1_lock_18 hl (by decide) rfl (fun ls hl => ?_)
  refine lv_aload_n hx hb dX1_lock_20 rfl (lv_at hl 3 rfl) ?_
  refine va_get (D := D) (ci := 1) (v := .ref a2) (C := RX1) (T := TX1) (N := 3) hx hb hts in_X1 hown hK hP 0 rfl rfl 1 (by decide) (hts _ q285) (fun _ h9 => h9) rfl dX1_lock_21 ?_
  refine lv_iconst (v := (2 : Int32)) hx hb dX1_lock_24 (by decide) ?_
  refine z_ild hx hb hK hP 2 1 rfl rfl (v := (bw 2)) 2 (by decide) (by omega) (by decide) (rfl) dX1_lock_25 ?_
  refine lv_istore (lv' := [(5, .int (bw 2)), (4, .int (bw 1)), (3, .int (bw 0)), (2, .ref q), (0, .ref h0), (1, .int p0)]) hx hb dX1_lock_26 hl (by decide) rfl (fun ls hl => ?_)
  refine lv_aload_n hx hb dX1_lock_28 rfl (lv_at hl 4 rfl) ?_
  refine va_get (D := D) (ci := 1) (v := .ref a2) (C := RX1) (T := TX1) (N := 3) hx hb hts in_X1 hown hK hP 0 rfl rfl 1 (by decide) (hts _ q285) (fun _ h9 => h9) rfl dX1_lock_29 ?_
  refine lv_iconst (v := (3 : Int32)) hx hb dX1_lock_32 (by decide) ?_
  refine z_ild hx hb hK hP 2 1 rfl rfl (v := (bw 3)) 3 (by decide) (by omega) (by decide) (rfl) dX1_lock_33 ?_
  refine lv_istore (lv' := [(6, .int (bw 3)), (5, .int (bw 2)), (4, .int (bw 1)), (3, .int (bw 0)), (2, .ref q), (0, .ref h0), (1, .int p0)]) hx hb dX1_lock_34 hl (by decide) rfl (fun ls hl => ?_)
  refine lv_aload_n hx hb dX1_lock_36 rfl (lv_at hl 5 rfl) ?_
  refine va_get (D := D) (ci := 1) (v := .ref a2) (C := RX1) (T := TX1) (N := 3) hx hb hts in_X1 hown hK hP 0 rfl rfl 1 (by decide) (hts _ q285) (fun _ h9 => h9) rfl dX1_lock_37 ?_
  refine lv_iconst (v := (4 : Int32)) hx hb dX1_lock_40 (by decide) ?_
  refine z_ild hx hb hK hP 2 1 rfl rfl (v := (bw 4)) 4 (by decide) (by omega) (by decide) (rfl) dX1_lock_41 ?_
  refine lv_istore (lv' := [(7, .int (bw 4)), (6, .int (bw 3)), (5, .int (bw 2)), (4, .int (bw 1)), (3, .int (bw 0)), (2, .ref q), (0, .ref h0), (1, .int p0)]) hx hb dX1_lock_42 hl (by decide) rfl (fun ls hl => ?_)
  refine lv_aload_n hx hb dX1_lock_44 rfl (lv_at hl 6 rfl) ?_
  refine va_get (D := D) (ci := 1) (v := .ref a2) (C := RX1) (T := TX1) (N := 3) hx hb hts in_X1 hown hK hP 0 rfl rfl 1 (by decide) (hts _ q285) (fun _ h9 => h9) rfl dX1_lock_45 ?_
  refine lv_iconst (v := (5 : Int32)) hx hb dX1_lock_48 (by decide) ?_
  refine z_ild hx hb hK hP 2 1 rfl rfl (v := (bw 5)) 5 (by decide) (by omega) (by decide) (rfl) dX1_lock_49 ?_
  refine lv_istore (lv' := [(8, .int (bw 5)), (7, .int (bw 4)), (6, .int (bw 3)), (5, .int (bw 2)), (4, .int (bw 1)), (3, .int (bw 0)), (2, .ref q), (0, .ref h0), (1, .int p0)]) hx hb dX1_lock_50 hl (by decide) rfl (fun ls hl => ?_)
  refine lv_aload_n hx hb dX1_lock_52 rfl (lv_at hl 7 rfl) ?_
  refine va_get (D := D) (ci := 1) (v := .ref a2) (C := RX1) (T := TX1) (N := 3) hx hb hts in_X1 hown hK hP 0 rfl rfl 1 (by decide) (hts _ q285) (fun _ h9 => h9) rfl dX1_lock_53 ?_
  refine lv_bipush (v := (6 : Int32)) hx hb dX1_lock_56 (by decide) ?_
  refine z_ild hx hb hK hP 2 1 rfl rfl (v := (bw 6)) 6 (by decide) (by omega) (by decide) (rfl) dX1_lock_58 ?_
  refine lv_istore (lv' := [(9, .int (bw 6)), (8, .int (bw 5)), (7, .int (bw 4)), (6, .int (bw 3)), (5, .int (bw 2)), (4, .int (bw 1)), (3, .int (bw 0)), (2, .ref q), (0, .ref h0), (1, .int p0)]) hx hb dX1_lock_59 hl (by decide) rfl (fun ls hl => ?_)
  refine lv_aload_n hx hb dX1_lock_61 rfl (lv_at hl 8 rfl) ?_
  refine va_get (D := D) (ci := 1) (v := .ref a2) (C := RX1) (T := TX1) (N := 3) hx hb hts in_X1 hown hK hP 0 rfl rfl 1 (by decide) (hts _ q285) (fun _ h9 => h9) rfl dX1_lock_62 ?_
  refine lv_bipush (v := (7 : Int32)) hx hb dX1_lock_65 (by decide) ?_
  refine z_ild hx hb hK hP 2 1 rfl rfl (v := (bw 7)) 7 (by decide) (by omega) (by decide) (rfl) dX1_lock_67 ?_
  refine lv_istore (lv' := [(10, .int (bw 7)), (9, .int (bw 6)), (8, .int (bw 5)), (7, .int (bw 4)), (6, .int (bw 3)), (5, .int (bw 2)), (4, .int (bw 1)), (3, .int (bw 0)), (2, .ref q), (0, .ref h0), (1, .int p0)]) hx hb dX1_lock_68 hl (by decide) rfl (fun ls hl => ?_)
  refine lv_iconst (v := (nI 0)) hx hb dX1_lock_70 (by decide) ?_
  refine lv_istore (lv' := [(11, .int (nI 0)), (10, .int (bw 7)), (9, .int (bw 6)), (8, .int (bw 5)), (7, .int (bw 4)), (6, .int (bw 3)), (5, .int (bw 2)), (4, .int (bw 1)), (3, .int (bw 0)), (2, .ref q), (0, .ref h0), (1, .int p0)]) hx hb dX1_lock_71 hl (by decide) rfl (fun ls hl => ?_)
  have loop : ∀ (n i : Nat), i + n = 64 → ∀ (x1 x2 x3 x4 x5 x6 x7 x8 : Int32), (x1, x2, x3, x4, x5, x6, x7, x8) = sh_enc sh_K (sh_sch kw) (sh_x8 bw) i → ∀ (H : Heap) (locs : List Loc) (ls : Array Slot), va_K D zcl [(d1, .int), (d2, .int), (d3, .int), (d1, .int), (dq, .int)] s → va_P D zcl [(h0, .inr (1, [.ref a1, .ref a2, .ref a3])), (a1, zar d1 16 kw), (a2, zar d2 8 bw), (a3, zar d3 8 ow), (q, zar dq 64 (sh_sch kw))] H → va_D A [(h0, .inr (1, [.ref a1, .ref a2, .ref a3])), (a1, zar d1 16 kw), (a2, zar d2 8 bw), (a3, zar d3 8 ow), (q, zar dq 64 (sh_sch kw))] → va_S A s.heap H locs → lv_has ls 14 [(0, .ref h0), (1, .int p0), (2, .ref q), (3, .int x1), (4, .int x2), (5, .int x3), (6, .int x4), (7, .int x5), (8, .int x6), (9, .int x7), (10, .int x8), (11, .int (nI i))] → W p l e (headSpec (ws_ yX1_lock cX1_lock 14 none) ({ frames := 3, cells := 1, slots := 64, locals := 63 })).room s m ([.ref h0, .int p0] : List Value).toArray below meth c H locs 1 64 (MQ below (va_Qv (fun _ : Unit => True) (fun _ t => zB D [(h0, .inr (1, [.ref a1, .ref a2, .ref a3])), (a1, zar d1 16 kw), (a2, zar d2 8 bw), (a3, zar d3 8 (sh_o8 ow (sh_enc sh_K (sh_sch kw) (sh_x8 bw) 64)))] [(d1, .int), (d2, .int), (d3, .int)] A t) A) ([.ref h0, .int p0] : List Value).toArray s 1 64 A) (F0 m 73 ls []) := by
    intro n
    induction n with
    | zero =>
      intro i hi x1 x2 x3 x4 x5 x6 x7 x8 hE H locs ls hK hP hD hS hl
      obtain rfl : i = 64 := by omega
      refine lv_iload hx hb dX1_lock_73 (lv_at hl 11 rfl) ?_
      refine lv_bipush (v := (64 : Int32)) hx hb dX1_lock_75 (by decide) ?_
      refine z_ge_t (tgt := 169) hx hb dX1_lock_77 (by decide) (nI_le (a := 64) (b := 64) (by omega) (by omega)) ?_
      refine lv_aload_n hx hb dX1_lock_169 rfl (lv_at hl 0 rfl) ?_
      refine lv_iload_n hx hb dX1_lock_170 rfl (lv_at hl 3 rfl) ?_
      refine lv_iload hx hb dX1_lock_171 (lv_at hl 4 rfl) ?_
      refine lv_iload hx hb dX1_lock_173 (lv_at hl 5 rfl) ?_
      refine lv_iload hx hb dX1_lock_175 (lv_at hl 6 rfl) ?_
      refine lv_iload hx hb dX1_lock_177 (lv_at hl 7 rfl) ?_
      refine lv_iload hx hb dX1_lock_179 (lv_at hl 8 rfl) ?_
      refine lv_iload hx hb dX1_lock_181 (lv_at hl 9 rfl) ?_
      refine lv_iload hx hb dX1_lock_183 (lv_at hl 10 rfl) ?_
      have hPc := hP.sub (ws' := [(h0, .inr (1, [.ref a1, .ref a2, .ref a3])), (a3, zar d3 8 ow)]) [0, 3] rfl
      have hDc := hD.sub (ws' := [(h0, .inr (1, [.ref a1, .ref a2, .ref a3])), (a3, zar d3 8 ow)]) [0, 3] (by decide) rfl
      have hKc := hK.sub (tys' := [(d3, .int)]) [2] rfl
      have hFc := va_free (wc := [(h0, .inr (1, [.ref a1, .ref a2, .ref a3])), (a3, zar d3 8 ow)]) hD hS hA [0, 3] rfl
      refine va_callv (va_runV (As := [.int x1, .int x2, .int x3, .int x4, .int x5, .int x6, .int x7, .int x8]) (rest := []) ⟨hx, hb, hml, hown, hts⟩ (zX1_put l D _ h0 a1 a2 a3 d3 ow x1 x2 x3 x4 x5 x6 x7 x8) (cwV 8 hts (lw_V q333 q335 qs8 q11 q336) rfl rfl rfl (by decide +kernel) ⟨(Nat.le_of_ble_eq_true rfl), (Nat.le_of_ble_eq_true rfl)⟩) (z_preV [.int x1, .int x2, .int x3, .int x4, .int x5, .int x6, .int x7, .int x8] hPc hKc hDc (va_recv hKc hPc (ci := 1) (q0 := 0) rfl rfl)) rfl rfl hl.1 rfl (lv_room (Nat.le_of_ble_eq_true rfl)) dX1_lock_185 ⟨(Nat.le_of_ble_eq_true rfl), (Nat.le_of_ble_eq_true rfl)⟩) hS (fun q _ h => hFc q h) hFc (fun u t H1 locs ht hvm hw_2 hB hz1 hk1 hS => ?_)
      obtain ⟨hP1, hK1, hD1⟩ := hB
      rw [ht] at hP1
      have hK1 := va_K.moved hvm.symm hK1
      obtain ⟨hP, hD⟩ := va_join (wr := [(a1, zar d1 16 kw), (a2, zar d2 8 bw), (q, zar dq 64 (sh_sch kw))]) (w1 := [(h0, .inr (1, [.ref a1, .ref a2, .ref a3])), (a3, zar d3 8 (sh_o8 ow (x1, x2, x3, x4, x5, x6, x7, x8)))]) hP hD [0, 3] [1, 2, 4] rfl rfl (by decide) (by decide) hk1 hFc hP1 hD1
      generalize H1 = H at hP hS ⊢
      have hP := hP.sub (ws' := [(h0, .inr (1, [.ref a1, .ref a2, .ref a3])), (a1, zar d1 16 kw), (a2, zar d2 8 bw), (a3, zar d3 8 (sh_o8 ow (x1, x2, x3, x4, x5, x6, x7, x8))), (q, zar dq 64 (sh_sch kw))]) [3, 0, 1, 4, 2] rfl
      have hD := hD.sub (ws' := [(h0, .inr (1, [.ref a1, .ref a2, .ref a3])), (a1, zar d1 16 kw), (a2, zar d2 8 bw), (a3, zar d3 8 (sh_o8 ow (x1, x2, x3, x4, x5, x6, x7, x8))), (q, zar dq 64 (sh_sch kw))]) [3, 0, 1, 4, 2] (by decide) rfl
      rw [hE] at hP hD
      have hP9 := hP.sub (ws' := [(h0, .inr (1, [.ref a1, .ref a2, .ref a3])), (a1, zar d1 16 kw), (a2, zar d2 8 bw), (a3, zar d3 8 (sh_o8 ow (sh_enc sh_K (sh_sch kw) (sh_x8 bw) 64)))]) [0, 1, 2, 3] rfl
      have hD9 := hD.sub (ws' := [(h0, .inr (1, [.ref a1, .ref a2, .ref a3])), (a1, zar d1 16 kw), (a2, zar d2 8 bw), (a3, zar d3 8 (sh_o8 ow (sh_enc sh_K (sh_sch kw) (sh_x8 bw) 64)))]) [0, 1, 2, 3] (by decide) rfl
      have hK9 := hK.sub (tys' := [(d1, .int), (d2, .int), (d3, .int)]) [0, 1, 2] rfl
      refine W.widen (k := 1) (n := 64) (Nat.le_of_ble_eq_true rfl) (Nat.le_of_ble_eq_true rfl) ?_
      exact W.vret hx hb hr (fun t ht hW => ⟨⟨(), rfl, trivial, by rw [ht]; exact hP9, va_K.moved hW.alike hK9, hD9⟩, hS.F ht⟩) hS.2.2 dX1_lock_188
    | succ n ih =>
      intro i hi x1 x2 x3 x4 x5 x6 x7 x8 hE H locs ls hK hP hD hS hl
      refine lv_iload hx hb dX1_lock_73 (lv_at hl 11 rfl) ?_
      refine lv_bipush (v := (64 : Int32)) hx hb dX1_lock_75 (by decide) ?_
      refine z_ge_f (tgt := 169) hx hb dX1_lock_77 (by decide) (nI_ge (a := i) (b := 64) (by omega) (by omega)) ?_
      refine lv_iload hx hb dX1_lock_80 (lv_at hl 10 rfl) ?_
      refine lv_iload hx hb dX1_lock_82 (lv_at hl 7 rfl) ?_
      refine vp_callSi (W.runS (As := [.int x5]) (rest := [.int x8]) ⟨hx, hb, hml, hown, hts⟩ (zX1_bigSigma1 l x5) (va_cwS 1 hts (lw_S q319 q320 q11 q321) rfl rfl rfl (by decide +kernel) ⟨(Nat.le_of_ble_eq_true rfl), (Nat.le_of_ble_eq_true rfl)⟩) ⟨fun _ _ _ _ q => q, fun _ _ _ => ⟨rfl, trivial⟩⟩ rfl rfl hl.1 rfl (lv_room (Nat.le_of_ble_eq_true rfl)) dX1_lock_84 ⟨(Nat.le_of_ble_eq_true rfl), (Nat.le_of_ble_eq_true rfl)⟩) (nm_e ?_)
      refine lv_iadd hx hb dX1_lock_87 ?_
      refine lv_iload hx hb dX1_lock_88 (lv_at hl 7 rfl) ?_
      refine lv_iload hx hb dX1_lock_90 (lv_at hl 8 rfl) ?_
      refine lv_iload hx hb dX1_lock_92 (lv_at hl 9 rfl) ?_
      refine vp_callSi (W.runS (As := [.int x5, .int x6, .int x7]) (rest := [.int (x8 + (sh_S1 x5))]) ⟨hx, hb, hml, hown, hts⟩ (zX1_choose l x5 x6 x7) (va_cwS 3 hts (lw_S q322 q323 q11 q324) rfl rfl rfl (by decide +kernel) ⟨(Nat.le_of_ble_eq_true rfl), (Nat.le_of_ble_eq_true rfl)⟩) ⟨fun _ _ _ _ q => q, fun _ _ _ => ⟨rfl, trivial⟩⟩ rfl rfl hl.1 rfl (lv_room (Nat.le_of_ble_eq_true rfl)) dX1_lock_94 ⟨(Nat.le_of_ble_eq_true rfl), (Nat.le_of_ble_eq_true rfl)⟩) (nm_e ?_)
      refine lv_iadd hx hb dX1_lock_97 ?_
      refine va_gets hx hb hZ.2.1.1 hS hown (hts _ q325) (fun _ h9 => h9) dX1_lock_98 ?_
      refine lv_iload hx hb dX1_lock_101 (lv_at hl 11 rfl) ?_
      refine z_tld hx hb hZ.2.1.2 hS i rfl (by omega) dX1_lock_103 ?_
      refine lv_iadd hx hb dX1_lock_104 ?_
      refine lv_aload_n hx hb dX1_lock_105 rfl (lv_at hl 2 rfl) ?_
      refine lv_iload hx hb dX1_lock_106 (lv_at hl 11 rfl) ?_
      refine z_ild hx hb hK hP 4 4 rfl rfl (v := ((sh_sch kw) i)) i rfl (by omega) (by decide) (rfl) dX1_lock_108 ?_
      refine lv_iadd hx hb dX1_lock_109 ?_
      refine z_top (y := (sh_t1 (sh_K i) (sh_sch kw i) x5 x6 x7 x8)) (rfl) ?_
      refine lv_istore (lv' := [(12, .int (sh_t1 (sh_K i) (sh_sch kw i) x5 x6 x7 x8)), (0, .ref h0), (1, .int p0), (2, .ref q), (3, .int x1), (4, .int x2), (5, .int x3), (6, .int x4), (7, .int x5), (8, .int x6), (9, .int x7), (10, .int x8), (11, .int (nI i))]) hx hb dX1_lock_110 hl (by decide) rfl (fun ls hl => ?_)
      refine lv_iload_n hx hb dX1_lock_112 rfl (lv_at hl 4 rfl) ?_
      refine vp_callSi (W.runS (As := [.int x1]) (rest := []) ⟨hx, hb, hml, hown, hts⟩ (zX1_bigSigma0 l x1) (va_cwS 1 hts (lw_S q327 q328 q11 q329) rfl rfl rfl (by decide +kernel) ⟨(Nat.le_of_ble_eq_true rfl), (Nat.le_of_ble_eq_true rfl)⟩) ⟨fun _ _ _ _ q => q, fun _ _ _ => ⟨rfl, trivial⟩⟩ rfl rfl hl.1 rfl (lv_room (Nat.le_of_ble_eq_true rfl)) dX1_lock_113 ⟨(Nat.le_of_ble_eq_true rfl), (Nat.le_of_ble_eq_true rfl)⟩) (nm_e ?_)
      refine lv_iload_n hx hb dX1_lock_116 rfl (lv_at hl 4 rfl) ?_
      refine lv_iload hx hb dX1_lock_117 (lv_at hl 5 rfl) ?_
      refine lv_iload hx hb dX1_lock_119 (lv_at hl 6 rfl) ?_
      refine vp_callSi (W.runS (As := [.int x1, .int x2, .int x3]) (rest := [.int (sh_S0 x1)]) ⟨hx, hb, hml, hown, hts⟩ (zX1_majority l x1 x2 x3) (va_cwS 3 hts (lw_S q330 q331 q11 q332) rfl rfl rfl (by decide +kernel) ⟨(Nat.le_of_ble_eq_true rfl), (Nat.le_of_ble_eq_true rfl)⟩) ⟨fun _ _ _ _ q => q, fun _ _ _ => ⟨rfl, trivial⟩⟩ rfl rfl hl.1 rfl (lv_room (Nat.le_of_ble_eq_true rfl)) dX1_lock_121 ⟨(Nat.le_of_ble_eq_true rfl), (Nat.le_of_ble_eq_true rfl)⟩) (nm_e ?_)
      refine lv_iadd hx hb dX1_lock_124 ?_
      refine z_top (y := (sh_t2 x1 x2 x3)) (rfl) ?_
      refine lv_istore (lv' := [(13, .int (sh_t2 x1 x2 x3)), (12, .int (sh_t1 (sh_K i) (sh_sch kw i) x5 x6 x7 x8)), (0, .ref h0), (1, .int p0), (2, .ref q), (3, .int x1), (4, .int x2), (5, .int x3), (6, .int x4), (7, .int x5), (8, .int x6), (9, .int x7), (10, .int x8), (11, .int (nI i))]) hx hb dX1_lock_125 hl (by decide) rfl (fun ls hl => ?_)
      refine lv_iload hx hb dX1_lock_127 (lv_at hl 11 rfl) ?_
      refine lv_istore (lv' := [(10, .int x7), (13, .int (sh_t2 x1 x2 x3)), (12, .int (sh_t1 (sh_K i) (sh_sch kw i) x5 x6 x7 x8)), (0, .ref h0), (1, .int p0), (2, .ref q), (3, .int x1), (4, .int x2), (5, .int x3), (6, .int x4), (7, .int x5), (8, .int x6), (9, .int x7), (11, .int (nI i))]) hx hb dX1_lock_129 hl (by decide) rfl (fun ls hl => ?_)
      refine lv_iload hx hb dX1_lock_131 (lv_at hl 11 rfl) ?_
      refine lv_istore (lv' := [(9, .int x6), (10, .int x7), (13, .int (sh_t2 x1 x2 x3)), (12, .int (sh_t1 (sh_K i) (sh_sch kw i) x5 x6 x7 x8)), (0, .ref h0), (1, .int p0), (2, .ref q), (3, .int x1), (4, .int x2), (5, .int x3), (6, .int x4), (7, .int x5), (8, .int x6), (11, .int (nI i))]) hx hb dX1_lock_133 hl (by decide) rfl (fun ls hl => ?_)
      refine lv_iload hx hb dX1_lock_135 (lv_at hl 11 rfl) ?_
      refine lv_istore (lv' := [(8, .int x5), (9, .int x6), (10, .int x7), (13, .int (sh_t2 x1 x2 x3)), (12, .int (sh_t1 (sh_K i) (sh_sch kw i) x5 x6 x7 x8)), (0, .ref h0), (1, .int p0), (2, .ref q), (3, .int x1), (4, .int x2), (5, .int x3), (6, .int x4), (7, .int x5), (11, .int (nI i))]) hx hb dX1_lock_137 hl (by decide) rfl (fun ls hl => ?_)
      refine lv_iload hx hb dX1_lock_139 (lv_at hl 11 rfl) ?_
      refine lv_iload hx hb dX1_lock_141 (lv_at hl 4 rfl) ?_
      refine lv_iadd hx hb dX1_lock_143 ?_
      refine lv_istore (lv' := [(7, .int (x4 + (sh_t1 (sh_K i) (sh_sch kw i) x5 x6 x7 x8))), (8, .int x5), (9, .int x6), (10, .int x7), (13, .int (sh_t2 x1 x2 x3)), (12, .int (sh_t1 (sh_K i) (sh_sch kw i) x5 x6 x7 x8)), (0, .ref h0), (1, .int p0), (2, .ref q), (3, .int x1), (4, .int x2), (5, .int x3), (6, .int x4), (11, .int (nI i))]) hx hb dX1_lock_144 hl (by decide) rfl (fun ls hl => ?_)
      refine lv_iload hx hb dX1_lock_146 (lv_at hl 11 rfl) ?_
      refine lv_istore (lv' := [(6, .int x3), (7, .int (x4 + (sh_t1 (sh_K i) (sh_sch kw i) x5 x6 x7 x8))), (8, .int x5), (9, .int x6), (10, .int x7), (13, .int (sh_t2 x1 x2 x3)), (12, .int (sh_t1 (sh_K i) (sh_sch kw i) x5 x6 x7 x8)), (0, .ref h0), (1, .int p0), (2, .ref q), (3, .int x1), (4, .int x2), (5, .int x3), (11, .int (nI i))]) hx hb dX1_lock_148 hl (by decide) rfl (fun ls hl => ?_)
      refine lv_iload hx hb dX1_lock_150 (lv_at hl 11 rfl) ?_
      refine lv_istore (lv' := [(5, .int x2), (6, .int x3), (7, .int (x4 + (sh_t1 (sh_K i) (sh_sch kw i) x5 x6 x7 x8))), (8, .int x5), (9, .int x6), (10, .int x7), (13, .int (sh_t2 x1 x2 x3)), (12, .int (sh_t1 (sh_K i) (sh_sch kw i) x5 x6 x7 x8)), (0, .ref h0), (1, .int p0), (2, .ref q), (3, .int x1), (4, .int x2), (11, .int (nI i))]) hx hb dX1_lock_152 hl (by decide) rfl (fun ls hl => ?_)
      refine lv_iload_n hx hb dX1_lock_154 rfl (lv_at hl 11 rfl) ?_
      refine lv_istore (lv' := [(4, .int x1), (5, .int x2), (6, .int x3), (7, .int (x4 + (sh_t1 (sh_K i) (sh_sch kw i) x5 x6 x7 x8))), (8, .int x5), (9, .int x6), (10, .int x7), (13, .int (sh_t2 x1 x2 x3)), (12, .int (sh_t1 (sh_K i) (sh_sch kw i) x5 x6 x7 x8)), (0, .ref h0), (1, .int p0), (2, .ref q), (3, .int x1), (11, .int (nI i))]) hx hb dX1_lock_155 hl (by decide) rfl (fun ls hl => ?_)
      refine lv_iload hx hb dX1_lock_157 (lv_at hl 8 rfl) ?_
      refine lv_iload hx hb dX1_lock_159 (lv_at hl 7 rfl) ?_
      refine lv_iadd hx hb dX1_lock_161 ?_
      refine lv_istore_n (lv' := [(3, .int ((sh_t1 (sh_K i) (sh_sch kw i) x5 x6 x7 x8) + (sh_t2 x1 x2 x3))), (4, .int x1), (5, .int x2), (6, .int x3), (7, .int (x4 + (sh_t1 (sh_K i) (sh_sch kw i) x5 x6 x7 x8))), (8, .int x5), (9, .int x6), (10, .int x7), (13, .int (sh_t2 x1 x2 x3)), (12, .int (sh_t1 (sh_K i) (sh_sch kw i) x5 x6 x7 x8)), (0, .ref h0), (1, .int p0), (2, .ref q), (11, .int (nI i))]) hx hb dX1_lock_162 rfl hl (by decide) rfl (fun ls hl => ?_)
      refine lv_iinc (v := (nI (i + 1))) (lv' := [(11, .int (nI (i + 1))), (3, .int ((sh_t1 (sh_K i) (sh_sch kw i) x5 x6 x7 x8) + (sh_t2 x1 x2 x3))), (4, .int x1), (5, .int x2), (6, .int x3), (7, .int (x4 + (sh_t1 (sh_K i) (sh_sch kw i) x5 x6 x7 x8))), (8, .int x5), (9, .int x6), (10, .int x7), (13, .int (sh_t2 x1 x2 x3)), (12, .int (sh_t1 (sh_K i) (sh_sch kw i) x5 x6 x7 x8)), (0, .ref h0), (1, .int p0), (2, .ref q)]) hx hb dX1_lock_163 hl (k := 13) rfl (z_inc i) (by decide) rfl (fun ls hl => ?_)
      refine lv_goto (tgt := 73) hx hb dX1_lock_166 (by decide) ?_
      exact ih (i + 1) (by omega) ((sh_t1 (sh_K i) (sh_sch kw i) x5 x6 x7 x8) + (sh_t2 x1 x2 x3)) x1 x2 x3 (x4 + (sh_t1 (sh_K i) (sh_sch kw i) x5 x6 x7 x8)) x5 x6 x7 (by show _ = sh_er (sh_K i) (sh_sch kw i) (sh_enc sh_K (sh_sch kw) (sh_x8 bw) i); rw [← hE]; rfl) _ _ ls hK (hP.sub [0, 1, 2, 3, 4] rfl) (hD.sub [0, 1, 2, 3, 4] (by decide) rfl) hS (lv_sub hl [11, 12, 13, 1, 2, 3, 4, 5, 6, 7, 8, 0] rfl)
  exact loop 64 0 (by omega) (bw 0) (bw 1) (bw 2) (bw 3) (bw 4) (bw 5) (bw 6) (bw 7) rfl _ _ ls hK (hP.sub [0, 1, 2, 3, 4] rfl) (hD.sub [0, 1, 2, 3, 4] (by decide) rfl) hS (lv_sub hl [10, 11, 9, 8, 7, 6, 5, 4, 3, 2, 1, 0] rfl)

set_option maxHeartbeats 4000000 in
set_option maxRecDepth 100000 in
theorem zX1_open (l : Launch) (D : va_G) (tk tc : Nat) (sz : Nat) (h0 a1 a2 a3 : Nat) (d1 d2 d3 : ClassId) (kw bw ow : Nat → Int32) (p0 : Int32) : Met l yX1_open (ws_ yX1_open cX1_open 22 none) ({ frames := 3, cells := 1, slots := 64, locals := 63 }) (va_Pc [.ref h0, .int p0] (zV tk tc D [(h0, .inr (1, [.ref a1, .ref a2, .ref a3])), (a1, zar d1 16 kw), (a2, zar d2 8 bw), (a3, zar d3 8 ow)] [(d1, .int), (d2, .int), (d3, .int)] sz)) (va_Qv (fun _ : Unit => True) (fun _ t => zB D [(h0, .inr (1, [.ref a1, .ref a2, .ref a3])), (a1, zar d1 16 kw), (a2, zar d2 8 bw), (a3, zar d3 8 (sh_o8 ow (sh_dec sh_K (sh_sch kw) 64 (sh_x8 bw))))] [(d1, .int), (d2, .int), (d3, .int)] (va_A [(h0, .inr (1, [.ref a1, .ref a2, .ref a3])), (a1, zar d1 16 kw), (a2, zar d2 8 bw), (a3, zar d3 8 ow)] sz) t) (va_A [(h0, .inr (1, [.ref a1, .ref a2, .ref a3])), (a1, zar d1 16 kw), (a2, zar d2 8 bw), (a3, zar d3 8 ow)] sz)) 1 64 (va_A [(h0, .inr (1, [.ref a1, .ref a2, .ref a3])), (a1, zar d1 16 kw), (a2, zar d2 8 bw), (a3, zar d3 8 ow)] sz) := by
  refine Met.ofW (cc := cX1_open) (maxL := 22) (ret := none) (by decide) rfl ?_
  intro p e s m args below meth c s₁ B hml hv
  obtain ⟨rfl, ⟨hsz, hP, hK, hD0⟩, hZ⟩ := hv
  have hx := B.exec
  have hb := B.bytes
  have hr := B.returns
  have hts := atoms_spec (ws := (ws_ yX1_open cX1_open 22 none)) B.pre
  have hts : ∀ w ∈ lw_all, w.before _ s = true := fun w h => hts w (List.mem_cons_of_mem _ h)
  have hown : s.vm.findClass RX1 = some m.cls := findClass_of_methodNamed B.named
  have hlocks := B.notSynchronized
  subst hsz
  have hD := hD0.self (sz := s.heap.size)
  generalize hAe : va_A [(h0, .inr (1, [.ref a1, .ref a2, .ref a3])), (a1, zar d1 16 kw), (a2, zar d2 8 bw), (a3, zar d3 8 ow)] s.heap.size = A at hD hZ ⊢
  have hA : ∀ q : Nat, s.heap.size ≤ q → A q := fun q h => by rw [← hAe]; exact Or.inr h
  have hS : va_S A s.heap s.heap [] := va_S.rf
  have hl := lv_entry ([.ref h0, .int p0]) (n := 22) (Nat.le_of_ble_eq_true rfl)
  rw [lg_entry_eq]
  generalize (lg_sl ([.ref h0, .int p0]) ++ List.replicate (22 - (lg_sl ([.ref h0, .int p0])).length) Slot.unset).toArray = ls at hl ⊢
  have hl : lv_has ls 22 [(0, .ref h0), (1, .int p0)] := hl
  have hP : va_P D zcl [(h0, .inr (1, [.ref a1, .ref a2, .ref a3])), (a1, zar d1 16 kw), (a2, zar d2 8 bw), (a3, zar d3 8 ow)] s.heap := hP
  refine lv_aload_n hx hb dX1_open_0 rfl (lv_at hl 0 rfl) ?_
  have hPc := hP.sub (ws' := [(h0, .inr (1, [.ref a1, .ref a2, .ref a3])), (a1, zar d1 16 kw)]) [0, 1] rfl
  have hDc := hD.sub (ws' := [(h0, .inr (1, [.ref a1, .ref a2, .ref a3])), (a1, zar d1 16 kw)]) [0, 1] (by decide) rfl
  have hKc := hK.sub (tys' := [(d1, .int)]) [0] rfl
  have hFc := va_free (wc := [(h0, .inr (1, [.ref a1, .ref a2, .ref a3])), (a1, zar d1 16 kw)]) hD hS hA [0, 1] rfl
  refine va_callr (va_runV (As := []) (rest := []) ⟨hx, hb, hml, hown, hts⟩ (zX1_schedule l D _ h0 a1 a2 a3 d1 kw) (cwV 0 hts (lw_V q306 q308 qs7 q11 q309) rfl rfl rfl (by decide +kernel) ⟨(Nat.le_of_ble_eq_true rfl), (Nat.le_of_ble_eq_true rfl)⟩) (z_preV [] hPc hKc hDc (va_recv hKc hPc (ci := 1) (q0 := 0) rfl rfl)) rfl rfl hl.1 rfl (lv_room (Nat.le_of_ble_eq_true rfl)) dX1_open_1 ⟨(Nat.le_of_ble_eq_true rfl), (Nat.le_of_ble_eq_true rfl)⟩) hS (fun q _ h => hFc q h) hFc (fun u q t H1 locs ht hvm hw_1 hB hz1 hk1 hS => ?_)
  obtain ⟨dq, hP1, hK1, hD1⟩ := hB
  rw [ht] at hP1
  have hK1 := va_K.moved hvm.symm hK1
  obtain ⟨hP, hD⟩ := va_join (wr := [(a2, zar d2 8 bw), (a3, zar d3 8 ow)]) (w1 := [(h0, .inr (1, [.ref a1, .ref a2, .ref a3])), (a1, zar d1 16 kw), (q, zar dq 64 (sh_sch kw))]) hP hD [0, 1] [2, 3] rfl rfl (by decide) (by decide) hk1 hFc hP1 hD1
  have hK := hK.app hK1
  have hK : va_K D zcl [(d1, .int), (d2, .int), (d3, .int), (d1, .int), (dq, .int)] s := hK
  generalize H1 = H at hP hS ⊢
  have hP := hP.sub (ws' := [(h0, .inr (1, [.ref a1, .ref a2, .ref a3])), (a1, zar d1 16 kw), (a2, zar d2 8 bw), (a3, zar d3 8 ow), (q, zar dq 64 (sh_sch kw))]) [2, 3, 0, 1, 4] rfl
  have hD := hD.sub (ws' := [(h0, .inr (1, [.ref a1, .ref a2, .ref a3])), (a1, zar d1 16 kw), (a2, zar d2 8 bw), (a3, zar d3 8 ow), (q, zar dq 64 (sh_sch kw))]) [2, 3, 0, 1, 4] (by decide) rfl
  refine W.widen (k := 1) (n := 64) (Nat.le_of_ble_eq_true rfl) (Nat.le_of_ble_eq_true rfl) ?_
  refine lv_astore_n (lv' := [(2, .ref q), (0, .ref h0), (1, .int p0)]) hx hb dX1_open_4 rfl hl (by decide) rfl (fun ls hl => ?_)
  refine lv_aload_n hx hb dX1_open_5 rfl (lv_at hl 1 rfl) ?_
  refine va_get (D := D) (ci := 1) (v := .ref a2) (C := RX1) (T := TX1) (N := 3) hx hb hts in_X1 hown hK hP 0 rfl rfl 1 (by decide) (hts _ q285) (fun _ h9 => h9) rfl dX1_open_6 ?_
  refine lv_iconst (v := (0 : Int32)) hx hb dX1_open_9 (by decide) ?_
  refine z_ild hx hb hK hP 2 1 rfl rfl (v := (bw 0)) 0 (by decide) (by omega) (by decide) (rfl) dX1_open_10 ?_
  refine lv_istore_n (lv' := [(3, .int (bw 0)), (2, .ref q), (0, .ref h0), (1, .int p0)]) hx hb dX1_open_11 rfl hl (by decide) rfl (fun ls hl => ?_)
  refine lv_aload_n hx hb dX1_open_12 rfl (lv_at hl 2 rfl) ?_
  refine va_get (D := D) (ci := 1) (v := .ref a2) (C := RX1) (T := TX1) (N := 3) hx hb hts in_X1 hown hK hP 0 rfl rfl 1 (by decide) (hts _ q285) (fun _ h9 => h9) rfl dX1_open_13 ?_
  refine lv_iconst (v := (1 : Int32)) hx hb dX1_open_16 (by decide) ?_
  refine z_ild hx hb hK hP 2 1 rfl rfl (v := (bw 1)) 1 (by decide) (by omega) (by decide) (rfl) dX1_open_17 ?_
  refine lv_istore (lv' := [(4, .int (bw 1)), (3, .int (bw 0)), (2, .ref q), (0, .ref h0), (1, .int p0)]) hx hb dX1_open_18 hl (by decide) rfl (fun ls hl => ?_)
  refine lv_aload_n hx hb dX1_open_20 rfl (lv_at hl 3 rfl) ?_
  refine va_get (D := D) (ci := 1) (v := .ref a2) (C := RX1) (T := TX1) (N := 3) hx hb hts in_X1 hown hK hP 0 rfl rfl 1 (by decide) (hts _ q285) (fun _ h9 => h9) rfl dX1_open_21 ?_
  refine lv_iconst (v := (2 : Int32)) hx hb dX1_open_24 (by decide) ?_
  refine z_ild hx hb hK hP 2 1 rfl rfl (v := (bw 2)) 2 (by decide) (by omega) (by decide) (rfl) dX1_open_25 ?_
  refine lv_istore (lv' := [(5, .int (bw 2)), (4, .int (bw 1)), (3, .int (bw 0)), (2, .ref q), (0, .ref h0), (1, .int p0)]) hx hb dX1_open_26 hl (by decide) rfl (fun ls hl => ?_)
  refine lv_aload_n hx hb dX1_open_28 rfl (lv_at hl 4 rfl) ?_
  refine va_get (D := D) (ci := 1) (v := .ref a2) (C := RX1) (T := TX1) (N := 3) hx hb hts in_X1 hown hK hP 0 rfl rfl 1 (by decide) (hts _ q285) (fun _ h9 => h9) rfl dX1_open_29 ?_
  refine lv_iconst (v := (3 : Int32)) hx hb dX1_open_32 (by decide) ?_
  refine z_ild hx hb hK hP 2 1 rfl rfl (v := (bw 3)) 3 (by decide) (by omega) (by decide) (rfl) dX1_open_33 ?_
  refine lv_istore (lv' := [(6, .int (bw 3)), (5, .int (bw 2)), (4, .int (bw 1)), (3, .int (bw 0)), (2, .ref q), (0, .ref h0), (1, .int p0)]) hx hb dX1_open_34 hl (by decide) rfl (fun ls hl => ?_)
  refine lv_aload_n hx hb dX1_open_36 rfl (lv_at hl 5 rfl) ?_
  refine va_get (D := D) (ci := 1) (v := .ref a2) (C := RX1) (T := TX1) (N := 3) hx hb hts in_X1 hown hK hP 0 rfl rfl 1 (by decide) (hts _ q285) (fun _ h9 => h9) rfl dX1_open_37 ?_
  refine lv_iconst (v := (4 : Int32)) hx hb dX1_open_40 (by decide) ?_
  refine z_ild hx hb hK hP 2 1 rfl rfl (v := (bw 4)) 4 (by decide) (by omega) (by decide) (rfl) dX1_open_41 ?_
  refine lv_istore (lv' := [(7, .int (bw 4)), (6, .int (bw 3)), (5, .int (bw 2)), (4, .int (bw 1)), (3, .int (bw 0)), (2, .ref q), (0, .ref h0), (1, .int p0)]) hx hb dX1_open_42 hl (by decide) rfl (fun ls hl => ?_)
  refine lv_aload_n hx hb dX1_open_44 rfl (lv_at hl 6 rfl) ?_
  refine va_get (D := D) (ci := 1) (v := .ref a2) (C := RX1) (T := TX1) (N := 3) hx hb hts in_X1 hown hK hP 0 rfl rfl 1 (by decide) (hts _ q285) (fun _ h9 => h9) rfl dX1_open_45 ?_
  refine lv_iconst (v := (5 : Int32)) hx hb dX1_open_48 (by decide) ?_
  refine z_ild hx hb hK hP 2 1 rfl rfl (v := (bw 5)) 5 (by decide) (by omega) (by decide) (rfl) dX1_open_49 ?_
  refine lv_istore (lv' := [(8, .int (bw 5)), (7, .int (bw 4)), (6, .int (bw 3)), (5, .int (bw 2)), (4, .int (bw 1)), (3, .int (bw 0)), (2, .ref q), (0, .ref h0), (1, .int p0)]) hx hb dX1_open_50 hl (by decide) rfl (fun ls hl => ?_)
  refine lv_aload_n hx hb dX1_open_52 rfl (lv_at hl 7 rfl) ?_
  refine va_get (D := D) (ci := 1) (v := .ref a2) (C := RX1) (T := TX1) (N := 3) hx hb hts in_X1 hown hK hP 0 rfl rfl 1 (by decide) (hts _ q285) (fun _ h9 => h9) rfl dX1_open_53 ?_
  refine lv_bipush (v := (6 : Int32)) hx hb dX1_open_56 (by decide) ?_
  refine z_ild hx hb hK hP 2 1 rfl rfl (v := (bw 6)) 6 (by decide) (by omega) (by decide) (rfl) dX1_open_58 ?_
  refine lv_istore (lv' := [(9, .int (bw 6)), (8, .int (bw 5)), (7, .int (bw 4)), (6, .int (bw 3)), (5, .int (bw 2)), (4, .int (bw 1)), (3, .int (bw 0)), (2, .ref q), (0, .ref h0), (1, .int p0)]) hx hb dX1_open_59 hl (by decide) rfl (fun ls hl => ?_)
  refine lv_aload_n hx hb dX1_open_61 rfl (lv_at hl 8 rfl) ?_
  refine va_get (D := D) (ci := 1) (v := .ref a2) (C := RX1) (T := TX1) (N := 3) hx hb hts in_X1 hown hK hP 0 rfl rfl 1 (by decide) (hts _ q285) (fun _ h9 => h9) rfl dX1_open_62 ?_
  refine lv_bipush (v := (7 : Int32)) hx hb dX1_open_65 (by decide) ?_
  refine z_ild hx hb hK hP 2 1 rfl rfl (v := (bw 7)) 7 (by decide) (by omega) (by decide) (rfl) dX1_open_67 ?_
  refine lv_istore (lv' := [(10, .int (bw 7)), (9, .int (bw 6)), (8, .int (bw 5)), (7, .int (bw 4)), (6, .int (bw 3)), (5, .int (bw 2)), (4, .int (bw 1)), (3, .int (bw 0)), (2, .ref q), (0, .ref h0), (1, .int p0)]) hx hb dX1_open_68 hl (by decide) rfl (fun ls hl => ?_)
  refine lv_bipush (v := (sh_m 64)) hx hb dX1_open_70 (by decide) ?_
  refine lv_istore (lv' := [(11, .int (sh_m 64)), (10, .int (bw 7)), (9, .int (bw 6)), (8, .int (bw 5)), (7, .int (bw 4)), (6, .int (bw 3)), (5, .int (bw 2)), (4, .int (bw 1)), (3, .int (bw 0)), (2, .ref q), (0, .ref h0), (1, .int p0)]) hx hb dX1_open_72 hl (by decide) rfl (fun ls hl => ?_)
  have loop : ∀ (r : Nat), r ≤ 64 → ∀ (x1 x2 x3 x4 x5 x6 x7 x8 : Int32), sh_dec sh_K (sh_sch kw) r (x1, x2, x3, x4, x5, x6, x7, x8) = sh_dec sh_K (sh_sch kw) 64 (sh_x8 bw) → ∀ (H : Heap) (locs : List Loc) (ls : Array Slot), va_K D zcl [(d1, .int), (d2, .int), (d3, .int), (d1, .int), (dq, .int)] s → va_P D zcl [(h0, .inr (1, [.ref a1, .ref a2, .ref a3])), (a1, zar d1 16 kw), (a2, zar d2 8 bw), (a3, zar d3 8 ow), (q, zar dq 64 (sh_sch kw))] H → va_D A [(h0, .inr (1, [.ref a1, .ref a2, .ref a3])), (a1, zar d1 16 kw), (a2, zar d2 8 bw), (a3, zar d3 8 ow), (q, zar dq 64 (sh_sch kw))] → va_S A s.heap H locs → lv_has ls 22 [(0, .ref h0), (1, .int p0), (2, .ref q), (3, .int x1), (4, .int x2), (5, .int x3), (6, .int x4), (7, .int x5), (8, .int x6), (9, .int x7), (10, .int x8), (11, .int (sh_m r))] → W p l e (headSpec (ws_ yX1_open cX1_open 22 none) ({ frames := 3, cells := 1, slots := 64, locals := 63 })).room s m ([.ref h0, .int p0] : List Value).toArray below meth c H locs 1 64 (MQ below (va_Qv (fun _ : Unit => True) (fun _ t => zB D [(h0, .inr (1, [.ref a1, .ref a2, .ref a3])), (a1, zar d1 16 kw), (a2, zar d2 8 bw), (a3, zar d3 8 (sh_o8 ow (sh_dec sh_K (sh_sch kw) 64 (sh_x8 bw))))] [(d1, .int), (d2, .int), (d3, .int)] A t) A) ([.ref h0, .int p0] : List Value).toArray s 1 64 A) (F0 m 74 ls []) := by
    intro r
    induction r with
    | zero =>
      intro hi x1 x2 x3 x4 x5 x6 x7 x8 hE H locs ls hK hP hD hS hl
      have hE : (x1, x2, x3, x4, x5, x6, x7, x8) = sh_dec sh_K (sh_sch kw) 64 (sh_x8 bw) := hE
      refine lv_iload hx hb dX1_open_74 (lv_at hl 11 rfl) ?_
      refine z_if_lt_t (tgt := 202) hx hb dX1_open_76 (by decide) (sh_m_0) ?_
      refine lv_aload_n hx hb dX1_open_202 rfl (lv_at hl 0 rfl) ?_
      refine lv_iload_n hx hb dX1_open_203 rfl (lv_at hl 3 rfl) ?_
      refine lv_iload hx hb dX1_open_204 (lv_at hl 4 rfl) ?_
      refine lv_iload hx hb dX1_open_206 (lv_at hl 5 rfl) ?_
      refine lv_iload hx hb dX1_open_208 (lv_at hl 6 rfl) ?_
      refine lv_iload hx hb dX1_open_210 (lv_at hl 7 rfl) ?_
      refine lv_iload hx hb dX1_open_212 (lv_at hl 8 rfl) ?_
      refine lv_iload hx hb dX1_open_214 (lv_at hl 9 rfl) ?_
      refine lv_iload hx hb dX1_open_216 (lv_at hl 10 rfl) ?_
      have hPc := hP.sub (ws' := [(h0, .inr (1, [.ref a1, .ref a2, .ref a3])), (a3, zar d3 8 ow)]) [0, 3] rfl
      have hDc := hD.sub (ws' := [(h0, .inr (1, [.ref a1, .ref a2, .ref a3])), (a3, zar d3 8 ow)]) [0, 3] (by decide) rfl
      have hKc := hK.sub (tys' := [(d3, .int)]) [2] rfl
      have hFc := va_free (wc := [(h0, .inr (1, [.ref a1, .ref a2, .ref a3])), (a3, zar d3 8 ow)]) hD hS hA [0, 3] rfl
      refine va_callv (va_runV (As := [.int x1, .int x2, .int x3, .int x4, .int x5, .int x6, .int x7, .int x8]) (rest := []) ⟨hx, hb, hml, hown, hts⟩ (zX1_put l D _ h0 a1 a2 a3 d3 ow x1 x2 x3 x4 x5 x6 x7 x8) (cwV 8 hts (lw_V q333 q335 qs8 q11 q336) rfl rfl rfl (by decide +kernel) ⟨(Nat.le_of_ble_eq_true rfl), (Nat.le_of_ble_eq_true rfl)⟩) (z_preV [.int x1, .int x2, .int x3, .int x4, .int x5, .int x6, .int x7, .int x8] hPc hKc hDc (va_recv hKc hPc (ci := 1) (q0 := 0) rfl rfl)) rfl rfl hl.1 rfl (lv_room (Nat.le_of_ble_eq_true rfl)) dX1_open_218 ⟨(Nat.le_of_ble_eq_true rfl), (Nat.le_of_ble_eq_true rfl)⟩) hS (fun q _ h => hFc q h) hFc (fun u t H1 locs ht hvm hw_2 hB hz1 hk1 hS => ?_)
      obtain ⟨hP1, hK1, hD1⟩ := hB
      rw [ht] at hP1
      have hK1 := va_K.moved hvm.symm hK1
      obtain ⟨hP, hD⟩ := va_join (wr := [(a1, zar d1 16 kw), (a2, zar d2 8 bw), (q, zar dq 64 (sh_sch kw))]) (w1 := [(h0, .inr (1, [.ref a1, .ref a2, .ref a3])), (a3, zar d3 8 (sh_o8 ow (x1, x2, x3, x4, x5, x6, x7, x8)))]) hP hD [0, 3] [1, 2, 4] rfl rfl (by decide) (by decide) hk1 hFc hP1 hD1
      generalize H1 = H at hP hS ⊢
      have hP := hP.sub (ws' := [(h0, .inr (1, [.ref a1, .ref a2, .ref a3])), (a1, zar d1 16 kw), (a2, zar d2 8 bw), (a3, zar d3 8 (sh_o8 ow (x1, x2, x3, x4, x5, x6, x7, x8))), (q, zar dq 64 (sh_sch kw))]) [3, 0, 1, 4, 2] rfl
      have hD := hD.sub (ws' := [(h0, .inr (1, [.ref a1, .ref a2, .ref a3])), (a1, zar d1 16 kw), (a2, zar d2 8 bw), (a3, zar d3 8 (sh_o8 ow (x1, x2, x3, x4, x5, x6, x7, x8))), (q, zar dq 64 (sh_sch kw))]) [3, 0, 1, 4, 2] (by decide) rfl
      rw [hE] at hP hD
      have hP9 := hP.sub (ws' := [(h0, .inr (1, [.ref a1, .ref a2, .ref a3])), (a1, zar d1 16 kw), (a2, zar d2 8 bw), (a3, zar d3 8 (sh_o8 ow (sh_dec sh_K (sh_sch kw) 64 (sh_x8 bw))))]) [0, 1, 2, 3] rfl
      have hD9 := hD.sub (ws' := [(h0, .inr (1, [.ref a1, .ref a2, .ref a3])), (a1, zar d1 16 kw), (a2, zar d2 8 bw), (a3, zar d3 8 (sh_o8 ow (sh_dec sh_K (sh_sch kw) 64 (sh_x8 bw))))]) [0, 1, 2, 3] (by decide) rfl
      have hK9 := hK.sub (tys' := [(d1, .int), (d2, .int), (d3, .int)]) [0, 1, 2] rfl
      refine W.widen (k := 1) (n := 64) (Nat.le_of_ble_eq_true rfl) (Nat.le_of_ble_eq_true rfl) ?_
      exact W.vret hx hb hr (fun t ht hW => ⟨⟨(), rfl, trivial, by rw [ht]; exact hP9, va_K.moved hW.alike hK9, hD9⟩, hS.F ht⟩) hS.2.2 dX1_open_221
    | succ r ih =>
      intro hi x1 x2 x3 x4 x5 x6 x7 x8 hE H locs ls hK hP hD hS hl
      rw [sh_m_s] at hl
      refine lv_iload hx hb dX1_open_74 (lv_at hl 11 rfl) ?_
      refine z_if_lt_f (tgt := 202) hx hb dX1_open_76 (by decide) (nI_pos (by omega)) ?_
      refine lv_iload hx hb dX1_open_79 (lv_at hl 4 rfl) ?_
      refine lv_istore (lv' := [(12, .int x2), (0, .ref h0), (1, .int p0), (2, .ref q), (3, .int x1), (4, .int x2), (5, .int x3), (6, .int x4), (7, .int x5), (8, .int x6), (9, .int x7), (10, .int x8), (11, .int (nI r))]) hx hb dX1_open_81 hl (by decide) rfl (fun ls hl => ?_)
      refine lv_iload hx hb dX1_open_83 (lv_at hl 6 rfl) ?_
      refine lv_istore (lv' := [(13, .int x3), (12, .int x2), (0, .ref h0), (1, .int p0), (2, .ref q), (3, .int x1), (4, .int x2), (5, .int x3), (6, .int x4), (7, .int x5), (8, .int x6), (9, .int x7), (10, .int x8), (11, .int (nI r))]) hx hb dX1_open_85 hl (by decide) rfl (fun ls hl => ?_)
      refine lv_iload hx hb dX1_open_87 (lv_at hl 8 rfl) ?_
      refine lv_istore (lv' := [(14, .int x4), (13, .int x3), (12, .int x2), (0, .ref h0), (1, .int p0), (2, .ref q), (3, .int x1), (4, .int x2), (5, .int x3), (6, .int x4), (7, .int x5), (8, .int x6), (9, .int x7), (10, .int x8), (11, .int (nI r))]) hx hb dX1_open_89 hl (by decide) rfl (fun ls hl => ?_)
      refine lv_iload hx hb dX1_open_91 (lv_at hl 11 rfl) ?_
      refine lv_istore (lv' := [(15, .int x6), (14, .int x4), (13, .int x3), (12, .int x2), (0, .ref h0), (1, .int p0), (2, .ref q), (3, .int x1), (4, .int x2), (5, .int x3), (6, .int x4), (7, .int x5), (8, .int x6), (9, .int x7), (10, .int x8), (11, .int (nI r))]) hx hb dX1_open_93 hl (by decide) rfl (fun ls hl => ?_)
      refine lv_iload hx hb dX1_open_95 (lv_at hl 13 rfl) ?_
      refine lv_istore (lv' := [(16, .int x7), (15, .int x6), (14, .int x4), (13, .int x3), (12, .int x2), (0, .ref h0), (1, .int p0), (2, .ref q), (3, .int x1), (4, .int x2), (5, .int x3), (6, .int x4), (7, .int x5), (8, .int x6), (9, .int x7), (10, .int x8), (11, .int (nI r))]) hx hb dX1_open_97 hl (by decide) rfl (fun ls hl => ?_)
      refine lv_iload hx hb dX1_open_99 (lv_at hl 15 rfl) ?_
      refine lv_istore (lv' := [(17, .int x8), (16, .int x7), (15, .int x6), (14, .int x4), (13, .int x3), (12, .int x2), (0, .ref h0), (1, .int p0), (2, .ref q), (3, .int x1), (4, .int x2), (5, .int x3), (6, .int x4), (7, .int x5), (8, .int x6), (9, .int x7), (10, .int x8), (11, .int (nI r))]) hx hb dX1_open_101 hl (by decide) rfl (fun ls hl => ?_)
      refine lv_iload hx hb dX1_open_103 (lv_at hl 5 rfl) ?_
      refine vp_callSi (W.runS (As := [.int x2]) (rest := []) ⟨hx, hb, hml, hown, hts⟩ (zX1_bigSigma0 l x2) (va_cwS 1 hts (lw_S q327 q328 q11 q329) rfl rfl rfl (by decide +kernel) ⟨(Nat.le_of_ble_eq_true rfl), (Nat.le_of_ble_eq_true rfl)⟩) ⟨fun _ _ _ _ q => q, fun _ _ _ => ⟨rfl, trivial⟩⟩ rfl rfl hl.1 rfl (lv_room (Nat.le_of_ble_eq_true rfl)) dX1_open_105 ⟨(Nat.le_of_ble_eq_true rfl), (Nat.le_of_ble_eq_true rfl)⟩) (nm_e ?_)
      refine lv_iload hx hb dX1_open_108 (lv_at hl 5 rfl) ?_
      refine lv_iload hx hb dX1_open_110 (lv_at hl 4 rfl) ?_
      refine lv_iload hx hb dX1_open_112 (lv_at hl 3 rfl) ?_
      refine vp_callSi (W.runS (As := [.int x2, .int x3, .int x4]) (rest := [.int (sh_S0 x2)]) ⟨hx, hb, hml, hown, hts⟩ (zX1_majority l x2 x3 x4) (va_cwS 3 hts (lw_S q330 q331 q11 q332) rfl rfl rfl (by decide +kernel) ⟨(Nat.le_of_ble_eq_true rfl), (Nat.le_of_ble_eq_true rfl)⟩) ⟨fun _ _ _ _ q => q, fun _ _ _ => ⟨rfl, trivial⟩⟩ rfl rfl hl.1 rfl (lv_room (Nat.le_of_ble_eq_true rfl)) dX1_open_114 ⟨(Nat.le_of_ble_eq_true rfl), (Nat.le_of_ble_eq_true rfl)⟩) (nm_e ?_)
      refine lv_iadd hx hb dX1_open_117 ?_
      refine z_top (y := (sh_t2 x2 x3 x4)) (rfl) ?_
      refine lv_istore (lv' := [(18, .int (sh_t2 x2 x3 x4)), (17, .int x8), (16, .int x7), (15, .int x6), (14, .int x4), (13, .int x3), (12, .int x2), (0, .ref h0), (1, .int p0), (2, .ref q), (3, .int x1), (4, .int x2), (5, .int x3), (6, .int x4), (7, .int x5), (8, .int x6), (9, .int x7), (10, .int x8), (11, .int (nI r))]) hx hb dX1_open_118 hl (by decide) rfl (fun ls hl => ?_)
      refine lv_iload_n hx hb dX1_open_120 rfl (lv_at hl 10 rfl) ?_
      refine lv_iload hx hb dX1_open_121 (lv_at hl 0 rfl) ?_
      refine lv_isub hx hb dX1_open_123 ?_
      refine lv_istore (lv' := [(19, .int (x1 - (sh_t2 x2 x3 x4))), (18, .int (sh_t2 x2 x3 x4)), (17, .int x8), (16, .int x7), (15, .int x6), (14, .int x4), (13, .int x3), (12, .int x2), (0, .ref h0), (1, .int p0), (2, .ref q), (3, .int x1), (4, .int x2), (5, .int x3), (6, .int x4), (7, .int x5), (8, .int x6), (9, .int x7), (10, .int x8), (11, .int (nI r))]) hx hb dX1_open_124 hl (by decide) rfl (fun ls hl => ?_)
      refine lv_iload hx hb dX1_open_126 (lv_at hl 15 rfl) ?_
      refine lv_iload hx hb dX1_open_128 (lv_at hl 0 rfl) ?_
      refine lv_isub hx hb dX1_open_130 ?_
      refine lv_istore (lv' := [(20, .int (x5 - (x1 - (sh_t2 x2 x3 x4)))), (19, .int (x1 - (sh_t2 x2 x3 x4))), (18, .int (sh_t2 x2 x3 x4)), (17, .int x8), (16, .int x7), (15, .int x6), (14, .int x4), (13, .int x3), (12, .int x2), (0, .ref h0), (1, .int p0), (2, .ref q), (3, .int x1), (4, .int x2), (5, .int x3), (6, .int x4), (7, .int x5), (8, .int x6), (9, .int x7), (10, .int x8), (11, .int (nI r))]) hx hb dX1_open_131 hl (by decide) rfl (fun ls hl => ?_)
      refine lv_iload hx hb dX1_open_133 (lv_at hl 1 rfl) ?_
      refine lv_iload hx hb dX1_open_135 (lv_at hl 5 rfl) ?_
      refine vp_callSi (W.runS (As := [.int x6]) (rest := [.int (x1 - (sh_t2 x2 x3 x4))]) ⟨hx, hb, hml, hown, hts⟩ (zX1_bigSigma1 l x6) (va_cwS 1 hts (lw_S q319 q320 q11 q321) rfl rfl rfl (by decide +kernel) ⟨(Nat.le_of_ble_eq_true rfl), (Nat.le_of_ble_eq_true rfl)⟩) ⟨fun _ _ _ _ q => q, fun _ _ _ => ⟨rfl, trivial⟩⟩ rfl rfl hl.1 rfl (lv_room (Nat.le_of_ble_eq_true rfl)) dX1_open_137 ⟨(Nat.le_of_ble_eq_true rfl), (Nat.le_of_ble_eq_true rfl)⟩) (nm_e ?_)
      refine lv_isub hx hb dX1_open_140 ?_
      refine lv_iload hx hb dX1_open_141 (lv_at hl 5 rfl) ?_
      refine lv_iload hx hb dX1_open_143 (lv_at hl 4 rfl) ?_
      refine lv_iload hx hb dX1_open_145 (lv_at hl 3 rfl) ?_
      refine vp_callSi (W.runS (As := [.int x6, .int x7, .int x8]) (rest := [.int ((x1 - (sh_t2 x2 x3 x4)) - (sh_S1 x6))]) ⟨hx, hb, hml, hown, hts⟩ (zX1_choose l x6 x7 x8) (va_cwS 3 hts (lw_S q322 q323 q11 q324) rfl rfl rfl (by decide +kernel) ⟨(Nat.le_of_ble_eq_true rfl), (Nat.le_of_ble_eq_true rfl)⟩) ⟨fun _ _ _ _ q => q, fun _ _ _ => ⟨rfl, trivial⟩⟩ rfl rfl hl.1 rfl (lv_room (Nat.le_of_ble_eq_true rfl)) dX1_open_147 ⟨(Nat.le_of_ble_eq_true rfl), (Nat.le_of_ble_eq_true rfl)⟩) (nm_e ?_)
      refine lv_isub hx hb dX1_open_150 ?_
      refine va_gets hx hb hZ.2.1.1 hS hown (hts _ q325) (fun _ h9 => h9) dX1_open_151 ?_
      refine lv_iload hx hb dX1_open_154 (lv_at hl 20 rfl) ?_
      refine z_tld hx hb hZ.2.1.2 hS r rfl (by omega) dX1_open_156 ?_
      refine lv_isub hx hb dX1_open_157 ?_
      refine lv_aload_n hx hb dX1_open_158 rfl (lv_at hl 11 rfl) ?_
      refine lv_iload hx hb dX1_open_159 (lv_at hl 20 rfl) ?_
      refine z_ild hx hb hK hP 4 4 rfl rfl (v := ((sh_sch kw) r)) r rfl (by omega) (by decide) (rfl) dX1_open_161 ?_
      refine lv_isub hx hb dX1_open_162 ?_
      refine lv_istore (lv' := [(21, .int (((((x1 - (sh_t2 x2 x3 x4)) - (sh_S1 x6)) - (sh_ch x6 x7 x8)) - (sh_K r)) - ((sh_sch kw) r))), (20, .int (x5 - (x1 - (sh_t2 x2 x3 x4)))), (19, .int (x1 - (sh_t2 x2 x3 x4))), (18, .int (sh_t2 x2 x3 x4)), (17, .int x8), (16, .int x7), (15, .int x6), (14, .int x4), (13, .int x3), (12, .int x2), (0, .ref h0), (1, .int p0), (2, .ref q), (3, .int x1), (4, .int x2), (5, .int x3), (6, .int x4), (7, .int x5), (8, .int x6), (9, .int x7), (10, .int x8), (11, .int (nI r))]) hx hb dX1_open_163 hl (by decide) rfl (fun ls hl => ?_)
      refine lv_iload hx hb dX1_open_165 (lv_at hl 9 rfl) ?_
      refine lv_istore_n (lv' := [(3, .int x2), (21, .int (((((x1 - (sh_t2 x2 x3 x4)) - (sh_S1 x6)) - (sh_ch x6 x7 x8)) - (sh_K r)) - ((sh_sch kw) r))), (20, .int (x5 - (x1 - (sh_t2 x2 x3 x4)))), (19, .int (x1 - (sh_t2 x2 x3 x4))), (18, .int (sh_t2 x2 x3 x4)), (17, .int x8), (16, .int x7), (15, .int x6), (14, .int x4), (13, .int x3), (12, .int x2), (0, .ref h0), (1, .int p0), (2, .ref q), (4, .int x2), (5, .int x3), (6, .int x4), (7, .int x5), (8, .int x6), (9, .int x7), (10, .int x8), (11, .int (nI r))]) hx hb dX1_open_167 rfl hl (by decide) rfl (fun ls hl => ?_)
      refine lv_iload hx hb dX1_open_168 (lv_at hl 9 rfl) ?_
      refine lv_istore (lv' := [(4, .int x3), (3, .int x2), (21, .int (((((x1 - (sh_t2 x2 x3 x4)) - (sh_S1 x6)) - (sh_ch x6 x7 x8)) - (sh_K r)) - ((sh_sch kw) r))), (20, .int (x5 - (x1 - (sh_t2 x2 x3 x4)))), (19, .int (x1 - (sh_t2 x2 x3 x4))), (18, .int (sh_t2 x2 x3 x4)), (17, .int x8), (16, .int x7), (15, .int x6), (14, .int x4), (13, .int x3), (12, .int x2), (0, .ref h0), (1, .int p0), (2, .ref q), (5, .int x3), (6, .int x4), (7, .int x5), (8, .int x6), (9, .int x7), (10, .int x8), (11, .int (nI r))]) hx hb dX1_open_170 hl (by decide) rfl (fun ls hl => ?_)
      refine lv_iload hx hb dX1_open_172 (lv_at hl 9 rfl) ?_
      refine lv_istore (lv' := [(5, .int x4), (4, .int x3), (3, .int x2), (21, .int (((((x1 - (sh_t2 x2 x3 x4)) - (sh_S1 x6)) - (sh_ch x6 x7 x8)) - (sh_K r)) - ((sh_sch kw) r))), (20, .int (x5 - (x1 - (sh_t2 x2 x3 x4)))), (19, .int (x1 - (sh_t2 x2 x3 x4))), (18, .int (sh_t2 x2 x3 x4)), (17, .int x8), (16, .int x7), (15, .int x6), (14, .int x4), (13, .int x3), (12, .int x2), (0, .ref h0), (1, .int p0), (2, .ref q), (6, .int x4), (7, .int x5), (8, .int x6), (9, .int x7), (10, .int x8), (11, .int (nI r))]) hx hb dX1_open_174 hl (by decide) rfl (fun ls hl => ?_)
      refine lv_iload hx hb dX1_open_176 (lv_at hl 4 rfl) ?_
      refine lv_istore (lv' := [(6, .int (x5 - (x1 - (sh_t2 x2 x3 x4)))), (5, .int x4), (4, .int x3), (3, .int x2), (21, .int (((((x1 - (sh_t2 x2 x3 x4)) - (sh_S1 x6)) - (sh_ch x6 x7 x8)) - (sh_K r)) - ((sh_sch kw) r))), (20, .int (x5 - (x1 - (sh_t2 x2 x3 x4)))), (19, .int (x1 - (sh_t2 x2 x3 x4))), (18, .int (sh_t2 x2 x3 x4)), (17, .int x8), (16, .int x7), (15, .int x6), (14, .int x4), (13, .int x3), (12, .int x2), (0, .ref h0), (1, .int p0), (2, .ref q), (7, .int x5), (8, .int x6), (9, .int x7), (10, .int x8), (11, .int (nI r))]) hx hb dX1_open_178 hl (by decide) rfl (fun ls hl => ?_)
      refine lv_iload hx hb dX1_open_180 (lv_at hl 10 rfl) ?_
      refine lv_istore (lv' := [(7, .int x6), (6, .int (x5 - (x1 - (sh_t2 x2 x3 x4)))), (5, .int x4), (4, .int x3), (3, .int x2), (21, .int (((((x1 - (sh_t2 x2 x3 x4)) - (sh_S1 x6)) - (sh_ch x6 x7 x8)) - (sh_K r)) - ((sh_sch kw) r))), (20, .int (x5 - (x1 - (sh_t2 x2 x3 x4)))), (19, .int (x1 - (sh_t2 x2 x3 x4))), (18, .int (sh_t2 x2 x3 x4)), (17, .int x8), (16, .int x7), (15, .int x6), (14, .int x4), (13, .int x3), (12, .int x2), (0, .ref h0), (1, .int p0), (2, .ref q), (8, .int x6), (9, .int x7), (10, .int x8), (11, .int (nI r))]) hx hb dX1_open_182 hl (by decide) rfl (fun ls hl => ?_)
      refine lv_iload hx hb dX1_open_184 (lv_at hl 10 rfl) ?_
      refine lv_istore (lv' := [(8, .int x7), (7, .int x6), (6, .int (x5 - (x1 - (sh_t2 x2 x3 x4)))), (5, .int x4), (4, .int x3), (3, .int x2), (21, .int (((((x1 - (sh_t2 x2 x3 x4)) - (sh_S1 x6)) - (sh_ch x6 x7 x8)) - (sh_K r)) - ((sh_sch kw) r))), (20, .int (x5 - (x1 - (sh_t2 x2 x3 x4)))), (19, .int (x1 - (sh_t2 x2 x3 x4))), (18, .int (sh_t2 x2 x3 x4)), (17, .int x8), (16, .int x7), (15, .int x6), (14, .int x4), (13, .int x3), (12, .int x2), (0, .ref h0), (1, .int p0), (2, .ref q), (9, .int x7), (10, .int x8), (11, .int (nI r))]) hx hb dX1_open_186 hl (by decide) rfl (fun ls hl => ?_)
      refine lv_iload hx hb dX1_open_188 (lv_at hl 10 rfl) ?_
      refine lv_istore (lv' := [(9, .int x8), (8, .int x7), (7, .int x6), (6, .int (x5 - (x1 - (sh_t2 x2 x3 x4)))), (5, .int x4), (4, .int x3), (3, .int x2), (21, .int (((((x1 - (sh_t2 x2 x3 x4)) - (sh_S1 x6)) - (sh_ch x6 x7 x8)) - (sh_K r)) - ((sh_sch kw) r))), (20, .int (x5 - (x1 - (sh_t2 x2 x3 x4)))), (19, .int (x1 - (sh_t2 x2 x3 x4))), (18, .int (sh_t2 x2 x3 x4)), (17, .int x8), (16, .int x7), (15, .int x6), (14, .int x4), (13, .int x3), (12, .int x2), (0, .ref h0), (1, .int p0), (2, .ref q), (10, .int x8), (11, .int (nI r))]) hx hb dX1_open_190 hl (by decide) rfl (fun ls hl => ?_)
      refine lv_iload hx hb dX1_open_192 (lv_at hl 7 rfl) ?_
      refine lv_istore (lv' := [(10, .int (((((x1 - (sh_t2 x2 x3 x4)) - (sh_S1 x6)) - (sh_ch x6 x7 x8)) - (sh_K r)) - ((sh_sch kw) r))), (9, .int x8), (8, .int x7), (7, .int x6), (6, .int (x5 - (x1 - (sh_t2 x2 x3 x4)))), (5, .int x4), (4, .int x3), (3, .int x2), (21, .int (((((x1 - (sh_t2 x2 x3 x4)) - (sh_S1 x6)) - (sh_ch x6 x7 x8)) - (sh_K r)) - ((sh_sch kw) r))), (20, .int (x5 - (x1 - (sh_t2 x2 x3 x4)))), (19, .int (x1 - (sh_t2 x2 x3 x4))), (18, .int (sh_t2 x2 x3 x4)), (17, .int x8), (16, .int x7), (15, .int x6), (14, .int x4), (13, .int x3), (12, .int x2), (0, .ref h0), (1, .int p0), (2, .ref q), (11, .int (nI r))]) hx hb dX1_open_194 hl (by decide) rfl (fun ls hl => ?_)
      refine lv_iinc (v := (sh_m r)) (lv' := [(11, .int (sh_m r)), (10, .int (((((x1 - (sh_t2 x2 x3 x4)) - (sh_S1 x6)) - (sh_ch x6 x7 x8)) - (sh_K r)) - ((sh_sch kw) r))), (9, .int x8), (8, .int x7), (7, .int x6), (6, .int (x5 - (x1 - (sh_t2 x2 x3 x4)))), (5, .int x4), (4, .int x3), (3, .int x2), (21, .int (((((x1 - (sh_t2 x2 x3 x4)) - (sh_S1 x6)) - (sh_ch x6 x7 x8)) - (sh_K r)) - ((sh_sch kw) r))), (20, .int (x5 - (x1 - (sh_t2 x2 x3 x4)))), (19, .int (x1 - (sh_t2 x2 x3 x4))), (18, .int (sh_t2 x2 x3 x4)), (17, .int x8), (16, .int x7), (15, .int x6), (14, .int x4), (13, .int x3), (12, .int x2), (0, .ref h0), (1, .int p0), (2, .ref q)]) hx hb dX1_open_196 hl (k := 21) rfl (sh_m_d r) (by decide) rfl (fun ls hl => ?_)
      refine lv_goto (tgt := 74) hx hb dX1_open_199 (by decide) ?_
      exact ih (by omega) x2 x3 x4 (x5 - (x1 - (sh_t2 x2 x3 x4))) x6 x7 x8 (((((x1 - (sh_t2 x2 x3 x4)) - (sh_S1 x6)) - (sh_ch x6 x7 x8)) - (sh_K r)) - ((sh_sch kw) r)) hE _ _ ls hK (hP.sub [0, 1, 2, 3, 4] rfl) (hD.sub [0, 1, 2, 3, 4] (by decide) rfl) hS (lv_sub hl [19, 20, 21, 8, 7, 6, 5, 4, 3, 2, 1, 0] rfl)
  exact loop 64 (Nat.le_refl 64) (bw 0) (bw 1) (bw 2) (bw 3) (bw 4) (bw 5) (bw 6) (bw 7) rfl _ _ ls hK (hP.sub [0, 1, 2, 3, 4] rfl) (hD.sub [0, 1, 2, 3, 4] (by decide) rfl) hS (lv_sub hl [10, 11, 9, 8, 7, 6, 5, 4, 3, 2, 1, 0] rfl)
end
section
set_option maxHeartbeats 4000000 in
set_option maxRecDepth 100000 in
theorem zX3_init_3 (l : Launch) (D : va_G) (sz : Nat) (h0 : Nat) : Met l yX3_init_3 (ws_ yX3_init_3 cX3_init_3 2 none) ({ frames := 1, cells := 1, slots := 64, locals := 12 }) (va_Pc [.ref h0, .int (64 : Int32)] (zW D [(h0, .inr (3, [.null]))] [] sz)) (va_Qv (fun _ : Unit => True) (fun _ t => ∃ (a1 : Nat) (d1 : ClassId), zB D [(h0, .inr (3, [.ref a1])), (a1, zar d1 64 sh_z)] [(d1, .byte)] (va_A [(h0, .inr (3, [.null]))] sz) t) (va_A [(h0, .inr (3, [.null]))] sz)) 1 64 (va_A [(h0, .inr (3, [.null]))] sz) := by
  refine Met.ofW (cc := cX3_init_3) (maxL := 2) (ret := none) (by decide) rfl ?_
  intro p e s m args below meth c s₁ B hml hv
  obtain ⟨rfl, hsz, hP, hK, hD0⟩ := hv
  have hx := B.exec
  have hb := B.bytes
  have hr := B.returns
  have hts := atoms_spec (ws := (ws_ yX3_init_3 cX3_init_3 2 none)) B.pre
  have hts : ∀ w ∈ lw_all, w.before _ s = true := fun w h => hts w (List.mem_cons_of_mem _ h)
  have hown : s.vm.findClass RX3 = some m.cls := findClass_of_methodNamed B.named
  have hlocks := B.notSynchronized
  have hin : meth.name = "<init>" := (name_of_methodNamed B.named B.method).1
  subst hsz
  have hD := hD0.self (sz := s.heap.size)
  generalize hAe : va_A [(h0, .inr (3, [.null]))] s.heap.size = A at hD ⊢
  have hA : ∀ q : Nat, s.heap.size ≤ q → A q := fun q h => by rw [← hAe]; exact Or.inr h
  have hS : va_S A s.heap s.heap [] := va_S.rf
  have hl := lv_entry ([.ref h0, .int (64 : Int32)]) (n := 2) (Nat.le_of_ble_eq_true rfl)
  rw [lg_entry_eq]
  generalize (lg_sl ([.ref h0, .int (64 : Int32)]) ++ List.replicate (2 - (lg_sl ([.ref h0, .int (64 : Int32)])).length) Slot.unset).toArray = ls at hl ⊢
  have hl : lv_has ls 2 [(0, .ref h0), (1, .int (64 : Int32))] := hl
  have hP : va_P D zcl [(h0, .inr (3, [.null]))] s.heap := hP
  refine lv_aload_n hx hb dX3_init_3_0 rfl (lv_at hl 0 rfl) ?_
  refine W.objInit hx hb hown (hts _ q85) (hts _ q29) (hts _ q30) rfl (by rw [hml]; exact hl.1) rfl dX3_init_3_1 (Nat.le_of_ble_eq_true rfl) (Nat.le_of_ble_eq_true rfl) ?_
  refine W.eq (g2 := F0 m 4 ls []) rfl ?_
  refine lv_aload_n hx hb dX3_init_3_4 rfl (lv_at hl 0 rfl) ?_
  refine lv_iload_n hx hb dX3_init_3_5 rfl (lv_at hl 1 rfl) ?_
  refine va_newa (atype := .byte) (ty := .byte) (N' := 64) (a0 := (64, .inl sh_z)) hx hb (hts _ q41) rfl hK hP hD hS hA (fun _ => rfl) (by decide) (by decide) (by decide) (Nat.le_of_ble_eq_true rfl) (Nat.le_of_ble_eq_true rfl) dX3_init_3_6 (fun a1 d1 H hK hP hD hS => ?_)
  have hK : va_K D zcl [(d1, .byte)] s := hK
  have hP : va_P D zcl [(h0, .inr (3, [.null])), (a1, zar d1 64 sh_z)] H := hP
  have hD : va_D A [(h0, .inr (3, [.null])), (a1, zar d1 64 sh_z)] := hD
  refine W.widen (k := 1) (n := 64) (Nat.le_of_ble_eq_true rfl) (Nat.le_of_ble_eq_true rfl) ?_
  refine va_put (D := D) (ci := 3) (v := .ref a1) (ty := .array .byte) (C := RX3) (T := TX3) (N := 1) hx hb hts in_X3 tyX3 tyX3_ok nmX3 hown hK hP hD hS 0 rfl rfl 0 (by decide) (hts _ q86) (fun _ h9 => h9) rfl (by decide +kernel) rfl rfl (Nat.le_of_ble_eq_true rfl) dX3_init_3_8 (fun H locs hP hD hS => ?_)
  have hP : va_P D zcl [(h0, .inr (3, [.ref a1])), (a1, zar d1 64 sh_z)] H := hP
  have hD : va_D A [(h0, .inr (3, [.ref a1])), (a1, zar d1 64 sh_z)] := hD
  have hP9 := hP.sub (ws' := [(h0, .inr (3, [.ref a1])), (a1, zar d1 64 sh_z)]) [0, 1] rfl
  have hD9 := hD.sub (ws' := [(h0, .inr (3, [.ref a1])), (a1, zar d1 64 sh_z)]) [0, 1] (by decide) rfl
  have hK9 := hK.sub (tys' := [(d1, .byte)]) [0] rfl
  refine W.widen (k := 1) (n := 64) (Nat.le_of_ble_eq_true rfl) (Nat.le_of_ble_eq_true rfl) ?_
  exact W.vret hx hb hr (fun t ht hW => ⟨⟨(), rfl, trivial, a1, d1, by rw [ht]; exact hP9, va_K.moved hW.alike hK9, hD9⟩, hS.F ht⟩) hS.2.2 dX3_init_3_11

set_option maxHeartbeats 4000000 in
set_option maxRecDepth 100000 in
theorem zX3_init_2 (l : Launch) (D : va_G) (sz : Nat) (h0 ak : Nat) (dk : ClassId) (kf : Nat → Int32) (hN : sh_N 64 kf) : Met l yX3_init_2 (ws_ yX3_init_2 cX3_init_2 4 none) ({ frames := 2, cells := 1, slots := 64, locals := 40 }) (va_Pc [.ref h0, .ref ak, .int (0 : Int32), .int (64 : Int32)] (zW D [(h0, .inr (3, [.null])), (ak, zar dk 64 kf)] [(dk, .byte)] sz)) (va_Qv (fun _ : Unit => True) (fun _ t => ∃ (a1 : Nat) (d1 : ClassId), zB D [(h0, .inr (3, [.ref a1])), (ak, zar dk 64 kf), (a1, zar d1 64 (sh_cp kf sh_z 64))] [(dk, .byte), (d1, .byte)] (va_A [(h0, .inr (3, [.null])), (ak, zar dk 64 kf)] sz) t) (va_A [(h0, .inr (3, [.null])), (ak, zar dk 64 kf)] sz)) 1 64 (va_A [(h0, .inr (3, [.null])), (ak, zar dk 64 kf)] sz) := by
  refine Met.ofW (cc := cX3_init_2) (maxL := 4) (ret := none) (by decide) rfl ?_
  intro p e s m args below meth c s₁ B hml hv
  obtain ⟨rfl, hsz, hP, hK, hD0⟩ := hv
  have hx := B.exec
  have hb := B.bytes
  have hr := B.returns
  have hts := atoms_spec (ws := (ws_ yX3_init_2 cX3_init_2 4 none)) B.pre
  have hts : ∀ w ∈ lw_all, w.before _ s = true := fun w h => hts w (List.mem_cons_of_mem _ h)
  have hown : s.vm.findClass RX3 = some m.cls := findClass_of_methodNamed B.named
  have hlocks := B.notSynchronized
  have hin : meth.name = "<init>" := (name_of_methodNamed B.named B.method).1
  subst hsz
  have hD := hD0.self (sz := s.heap.size)
  generalize hAe : va_A [(h0, .inr (3, [.null])), (ak, zar dk 64 kf)] s.heap.size = A at hD ⊢
  have hA : ∀ q : Nat, s.heap.size ≤ q → A q := fun q h => by rw [← hAe]; exact Or.inr h
  have hS : va_S A s.heap s.heap [] := va_S.rf
  have hl := lv_entry ([.ref h0, .ref ak, .int (0 : Int32), .int (64 : Int32)]) (n := 4) (Nat.le_of_ble_eq_true rfl)
  rw [lg_entry_eq]
  generalize (lg_sl ([.ref h0, .ref ak, .int (0 : Int32), .int (64 : Int32)]) ++ List.replicate (4 - (lg_sl ([.ref h0, .ref ak, .int (0 : Int32), .int (64 : Int32)])).length) Slot.unset).toArray = ls at hl ⊢
  have hl : lv_has ls 4 [(0, .ref h0), (1, .ref ak), (2, .int (0 : Int32)), (3, .int (64 : Int32))] := hl
  have hP : va_P D zcl [(h0, .inr (3, [.null])), (ak, zar dk 64 kf)] s.heap := hP
  refine lv_aload_n hx hb dX3_init_2_0 rfl (lv_at hl 0 rfl) ?_
  refine lv_iload_n hx hb dX3_init_2_1 rfl (lv_at hl 3 rfl) ?_
  have hPc := hP.sub (ws' := [(h0, .inr (3, [.null]))]) [0] rfl
  have hDc := hD.sub (ws' := [(h0, .inr (3, [.null]))]) [0] (by decide) rfl
  have hKc := hK.sub (tys' := []) [] rfl
  have hFc := va_free (wc := [(h0, .inr (3, [.null]))]) hD hS hA [0] rfl
  refine va_callv (va_runI (As := [.int (64 : Int32)]) (rest := []) ⟨hx, hb, hml, hown, hts⟩ (zX3_init_3 l D _ h0) (cwI 1 hts (lw_meth q84) rfl rfl rfl (hts _ q13) (hts _ q82) (hts _ q83) rfl (by decide +kernel) ⟨(Nat.le_of_ble_eq_true rfl), (Nat.le_of_ble_eq_true rfl)⟩) (z_preS [.ref h0, .int (64 : Int32)] hPc hKc hDc) rfl rfl hl.1 rfl (lv_room (Nat.le_of_ble_eq_true rfl)) dX3_init_2_2 ⟨(Nat.le_of_ble_eq_true rfl), (Nat.le_of_ble_eq_true rfl)⟩) hS (fun q _ h => hFc q h) hFc (fun u t H1 locs ht hvm hw_1 hB hz1 hk1 hS => ?_)
  obtain ⟨a1, d1, hP1, hK1, hD1⟩ := hB
  rw [ht] at hP1
  have hK1 := va_K.moved hvm.symm hK1
  obtain ⟨hP, hD⟩ := va_join (wr := [(ak, zar dk 64 kf)]) (w1 := [(h0, .inr (3, [.ref a1])), (a1, zar d1 64 sh_z)]) hP hD [0] [1] rfl rfl (by decide) (by decide) hk1 hFc hP1 hD1
  have hK := hK.app hK1
  have hK : va_K D zcl [(dk, .byte), (d1, .byte)] s := hK
  generalize H1 = H at hP hS ⊢
  have hP := hP.sub (ws' := [(h0, .inr (3, [.ref a1])), (ak, zar dk 64 kf), (a1, zar d1 64 sh_z)]) [1, 0, 2] rfl
  have hD := hD.sub (ws' := [(h0, .inr (3, [.ref a1])), (ak, zar dk 64 kf), (a1, zar d1 64 sh_z)]) [1, 0, 2] (by decide) rfl
  refine W.widen (k := 1) (n := 64) (Nat.le_of_ble_eq_true rfl) (Nat.le_of_ble_eq_true rfl) ?_
  refine lv_aload_n hx hb dX3_init_2_5 rfl (lv_at hl 1 rfl) ?_
  refine lv_iload_n hx hb dX3_init_2_6 rfl (lv_at hl 2 rfl) ?_
  refine lv_aload_n hx hb dX3_init_2_7 rfl (lv_at hl 0 rfl) ?_
  refine va_get (D := D) (ci := 3) (v := .ref a1) (C := RX3) (T := TX3) (N := 1) hx hb hts in_X3 hown hK hP 0 rfl rfl 0 (by decide) (hts _ q86) (fun _ h9 => h9) rfl dX3_init_2_8 ?_
  refine lv_iconst (v := (0 : Int32)) hx hb dX3_init_2_11 (by decide) ?_
  refine lv_iload_n hx hb dX3_init_2_12 rfl (lv_at hl 3 rfl) ?_
  refine va_copyi (ty := .byte) hx hb (hml.trans hl.1.symm) hown (hts _ q90) (hts _ q92) (hts _ q91) (hts _ q14) hK hP hD hS 1 2 0 1 rfl rfl rfl rfl rfl (by decide) (by decide) (by decide) (by decide) (by decide) (fun i hi => ?_) (Nat.le_of_ble_eq_true rfl) (by decide +kernel) dX3_init_2_13 (fun H locs hP hD hS => ?_)
  · have h0 : (0 : Int32).toNatClampNeg = 0 := by decide
    have h64 : (64 : Int32).toNatClampNeg = 64 := by decide
    rw [h64] at hi
    rw [h0, Nat.zero_add]
    exact (hN i hi).2
  rw [z_cpy] at hP hD
  have hP : va_P D zcl [(h0, .inr (3, [.ref a1])), (ak, zar dk 64 kf), (a1, zar d1 64 (sh_cp kf sh_z 64))] H := hP
  have hD : va_D A [(h0, .inr (3, [.ref a1])), (ak, zar dk 64 kf), (a1, zar d1 64 (sh_cp kf sh_z 64))] := hD
  have hP9 := hP.sub (ws' := [(h0, .inr (3, [.ref a1])), (ak, zar dk 64 kf), (a1, zar d1 64 (sh_cp kf sh_z 64))]) [0, 1, 2] rfl
  have hD9 := hD.sub (ws' := [(h0, .inr (3, [.ref a1])), (ak, zar dk 64 kf), (a1, zar d1 64 (sh_cp kf sh_z 64))]) [0, 1, 2] (by decide) rfl
  have hK9 := hK.sub (tys' := [(dk, .byte), (d1, .byte)]) [0, 1] rfl
  refine W.widen (k := 1) (n := 64) (Nat.le_of_ble_eq_true rfl) (Nat.le_of_ble_eq_true rfl) ?_
  exact W.vret hx hb hr (fun t ht hW => ⟨⟨(), rfl, trivial, a1, d1, by rw [ht]; exact hP9, va_K.moved hW.alike hK9, hD9⟩, hS.F ht⟩) hS.2.2 dX3_init_2_16

set_option maxHeartbeats 4000000 in
set_option maxRecDepth 100000 in
theorem zX3_init (l : Launch) (D : va_G) (sz : Nat) (h0 ak : Nat) (dk : ClassId) (kf : Nat → Int32) (hN : sh_N 64 kf) : Met l yX3_init (ws_ yX3_init cX3_init 2 none) ({ frames := 3, cells := 1, slots := 64, locals := 64 }) (va_Pc [.ref h0, .ref ak] (zW D [(h0, .inr (3, [.null])), (ak, zar dk 64 kf)] [(dk, .byte)] sz)) (va_Qv (fun _ : Unit => True) (fun _ t => ∃ (a1 : Nat) (d1 : ClassId), zB D [(h0, .inr (3, [.ref a1])), (ak, zar dk 64 kf), (a1, zar d1 64 (sh_cp kf sh_z 64))] [(dk, .byte), (d1, .byte)] (va_A [(h0, .inr (3, [.null])), (ak, zar dk 64 kf)] sz) t) (va_A [(h0, .inr (3, [.null])), (ak, zar dk 64 kf)] sz)) 1 64 (va_A [(h0, .inr (3, [.null])), (ak, zar dk 64 kf)] sz) := by
  refine Met.ofW (cc := cX3_init) (maxL := 2) (ret := none) (by decide) rfl ?_
  intro p e s m args below meth c s₁ B hml hv
  obtain ⟨rfl, hsz, hP, hK, hD0⟩ := hv
  have hx := B.exec
  have hb := B.bytes
  have hr := B.returns
  have hts := atoms_spec (ws := (ws_ yX3_init cX3_init 2 none)) B.pre
  have hts : ∀ w ∈ lw_all, w.before _ s = true := fun w h => hts w (List.mem_cons_of_mem _ h)
  have hown : s.vm.findClass RX3 = some m.cls := findClass_of_methodNamed B.named
  have hlocks := B.notSynchronized
  have hin : meth.name = "<init>" := (name_of_methodNamed B.named B.method).1
  subst hsz
  have hD := hD0.self (sz := s.heap.size)
  generalize hAe : va_A [(h0, .inr (3, [.null])), (ak, zar dk 64 kf)] s.heap.size = A at hD ⊢
  have hA : ∀ q : Nat, s.heap.size ≤ q → A q := fun q h => by rw [← hAe]; exact Or.inr h
  have hS : va_S A s.heap s.heap [] := va_S.rf
  have hl := lv_entry ([.ref h0, .ref ak]) (n := 2) (Nat.le_of_ble_eq_true rfl)
  rw [lg_entry_eq]
  generalize (lg_sl ([.ref h0, .ref ak]) ++ List.replicate (2 - (lg_sl ([.ref h0, .ref ak])).length) Slot.unset).toArray = ls at hl ⊢
  have hl : lv_has ls 2 [(0, .ref h0), (1, .ref ak)] := hl
  have hP : va_P D zcl [(h0, .inr (3, [.null])), (ak, zar dk 64 kf)] s.heap := hP
  refine lv_aload_n hx hb dX3_init_0 rfl (lv_at hl 0 rfl) ?_
  refine lv_aload_n hx hb dX3_init_1 rfl (lv_at hl 1 rfl) ?_
  refine lv_iconst (v := (0 : Int32)) hx hb dX3_init_2 (by decide) ?_
  refine lv_aload_n hx hb dX3_init_3 rfl (lv_at hl 1 rfl) ?_
  refine va_alen (v := (64 : Int32)) hx hb hK hP 1 0 rfl rfl rfl dX3_init_4 ?_
  have hPc := hP.sub (ws' := [(h0, .inr (3, [.null])), (ak, zar dk 64 kf)]) [0, 1] rfl
  have hDc := hD.sub (ws' := [(h0, .inr (3, [.null])), (ak, zar dk 64 kf)]) [0, 1] (by decide) rfl
  have hKc := hK.sub (tys' := [(dk, .byte)]) [0] rfl
  have hFc := va_free (wc := [(h0, .inr (3, [.null])), (ak, zar dk 64 kf)]) hD hS hA [0, 1] rfl
  refine va_callv (va_runI (As := [.ref ak, .int (0 : Int32), .int (64 : Int32)]) (rest := []) ⟨hx, hb, hml, hown, hts⟩ (zX3_init_2 l D _ h0 ak dk kf hN) (cwI 3 hts (lw_meth q81) rfl rfl rfl (hts _ q13) (hts _ q79) (hts _ q80) rfl (by decide +kernel) ⟨(Nat.le_of_ble_eq_true rfl), (Nat.le_of_ble_eq_true rfl)⟩) (z_preS [.ref h0, .ref ak, .int (0 : Int32), .int (64 : Int32)] hPc hKc hDc) rfl rfl hl.1 rfl (lv_room (Nat.le_of_ble_eq_true rfl)) dX3_init_5 ⟨(Nat.le_of_ble_eq_true rfl), (Nat.le_of_ble_eq_true rfl)⟩) hS (fun q _ h => hFc q h) hFc (fun u t H1 locs ht hvm hw_1 hB hz1 hk1 hS => ?_)
  obtain ⟨a1, d1, hP1, hK1, hD1⟩ := hB
  rw [ht] at hP1
  have hK1 := va_K.moved hvm.symm hK1
  obtain ⟨hP, hD⟩ := va_join (wr := []) (w1 := [(h0, .inr (3, [.ref a1])), (ak, zar dk 64 kf), (a1, zar d1 64 (sh_cp kf sh_z 64))]) hP hD [0, 1] [] rfl rfl (by decide) (by decide) hk1 hFc hP1 hD1
  have hK := hK.app hK1
  have hK : va_K D zcl [(dk, .byte), (dk, .byte), (d1, .byte)] s := hK
  generalize H1 = H at hP hS ⊢
  have hP := hP.sub (ws' := [(h0, .inr (3, [.ref a1])), (ak, zar dk 64 kf), (a1, zar d1 64 (sh_cp kf sh_z 64))]) [0, 1, 2] rfl
  have hD := hD.sub (ws' := [(h0, .inr (3, [.ref a1])), (ak, zar dk 64 kf), (a1, zar d1 64 (sh_cp kf sh_z 64))]) [0, 1, 2] (by decide) rfl
  refine W.widen (k := 1) (n := 64) (Nat.le_of_ble_eq_true rfl) (Nat.le_of_ble_eq_true rfl) ?_
  have hP9 := hP.sub (ws' := [(h0, .inr (3, [.ref a1])), (ak, zar dk 64 kf), (a1, zar d1 64 (sh_cp kf sh_z 64))]) [0, 1, 2] rfl
  have hD9 := hD.sub (ws' := [(h0, .inr (3, [.ref a1])), (ak, zar dk 64 kf), (a1, zar d1 64 (sh_cp kf sh_z 64))]) [0, 1, 2] (by decide) rfl
  have hK9 := hK.sub (tys' := [(dk, .byte), (d1, .byte)]) [0, 2] rfl
  refine W.widen (k := 1) (n := 64) (Nat.le_of_ble_eq_true rfl) (Nat.le_of_ble_eq_true rfl) ?_
  exact W.vret hx hb hr (fun t ht hW => ⟨⟨(), rfl, trivial, a1, d1, by rw [ht]; exact hP9, va_K.moved hW.alike hK9, hD9⟩, hS.F ht⟩) hS.2.2 dX3_init_8

set_option maxHeartbeats 4000000 in
set_option maxRecDepth 100000 in
theorem zX3_getKey (l : Launch) (D : va_G) (sz : Nat) (h0 a1 : Nat) : Met l yX3_getKey (ws_ yX3_getKey cX3_getKey 1 (some (.array .byte))) ({ frames := 0, cells := 0, slots := 0, locals := 0 }) (va_Pc [.ref h0] (zW D [(h0, .inr (3, [.ref a1]))] [] sz)) (va_Qr (fun _ : Unit => True) (fun _ q t => q = a1 ∧ zB D [(h0, .inr (3, [.ref a1]))] [] (va_A [(h0, .inr (3, [.ref a1]))] sz) t) (va_A [(h0, .inr (3, [.ref a1]))] sz)) 0 0 (va_A [(h0, .inr (3, [.ref a1]))] sz) := by
  refine Met.ofW (cc := cX3_getKey) (maxL := 1) (ret := (some (.array .byte))) (by decide) rfl ?_
  intro p e s m args below meth c s₁ B hml hv
  obtain ⟨rfl, hsz, hP, hK, hD0⟩ := hv
  have hx := B.exec
  have hb := B.bytes
  have hr := B.returns
  have hts := atoms_spec (ws := (ws_ yX3_getKey cX3_getKey 1 (some (.array .byte)))) B.pre
  have hts : ∀ w ∈ lw_all, w.before _ s = true := fun w h => hts w (List.mem_cons_of_mem _ h)
  have hown : s.vm.findClass RX3 = some m.cls := findClass_of_methodNamed B.named
  have hlocks := B.notSynchronized
  subst hsz
  have hD := hD0.self (sz := s.heap.size)
  generalize hAe : va_A [(h0, .inr (3, [.ref a1]))] s.heap.size = A at hD ⊢
  have hA : ∀ q : Nat, s.heap.size ≤ q → A q := fun q h => by rw [← hAe]; exact Or.inr h
  have hS : va_S A s.heap s.heap [] := va_S.rf
  have hl := lv_entry ([.ref h0]) (n := 1) (Nat.le_of_ble_eq_true rfl)
  rw [lg_entry_eq]
  generalize (lg_sl ([.ref h0]) ++ List.replicate (1 - (lg_sl ([.ref h0])).length) Slot.unset).toArray = ls at hl ⊢
  have hl : lv_has ls 1 [(0, .ref h0)] := hl
  have hP : va_P D zcl [(h0, .inr (3, [.ref a1]))] s.heap := hP
  refine lv_aload_n hx hb dX3_getKey_0 rfl (lv_at hl 0 rfl) ?_
  refine va_get (D := D) (ci := 3) (v := .ref a1) (C := RX3) (T := TX3) (N := 1) hx hb hts in_X3 hown hK hP 0 rfl rfl 0 (by decide) (hts _ q86) (fun _ h9 => h9) rfl dX3_getKey_1 ?_
  have hP9 := hP.sub (ws' := [(h0, .inr (3, [.ref a1]))]) [0] rfl
  have hD9 := hD.sub (ws' := [(h0, .inr (3, [.ref a1]))]) [0] (by decide) rfl
  have hK9 := hK.sub (tys' := []) [] rfl
  refine W.widen (k := 0) (n := 0) (Nat.le_of_ble_eq_true rfl) (Nat.le_of_ble_eq_true rfl) ?_
  exact W.aret (v := .ref a1) hx hb hr (Or.inr ⟨_, rfl⟩) (Or.inr ⟨_, rfl⟩) (fun t ht hW => ⟨⟨(), a1, rfl, trivial, rfl, by rw [ht]; exact hP9, va_K.moved hW.alike hK9, hD9⟩, hS.F ht⟩) hS.2.2 dX3_getKey_4

set_option maxHeartbeats 4000000 in
set_option maxRecDepth 100000 in
theorem zX2_init (l : Launch) (D : va_G) (sz : Nat) (h0 : Nat) : Met l yX2_init (ws_ yX2_init cX2_init 1 none) ({ frames := 1, cells := 0, slots := 0, locals := 12 }) (va_Pc [.ref h0] (zW D [(h0, .inr (2, [.int 0, .null]))] [] sz)) (va_Qv (fun _ : Unit => True) (fun _ t => zB D [(h0, .inr (2, [.int (0 : Int32), .null]))] [] (va_A [(h0, .inr (2, [.int 0, .null]))] sz) t) (va_A [(h0, .inr (2, [.int 0, .null]))] sz)) 0 0 (va_A [(h0, .inr (2, [.int 0, .null]))] sz) := by
  refine Met.ofW (cc := cX2_init) (maxL := 1) (ret := none) (by decide) rfl ?_
  intro p e s m args below meth c s₁ B hml hv
  obtain ⟨rfl, hsz, hP, hK, hD0⟩ := hv
  have hx := B.exec
  have hb := B.bytes
  have hr := B.returns
  have hts := atoms_spec (ws := (ws_ yX2_init cX2_init 1 none)) B.pre
  have hts : ∀ w ∈ lw_all, w.before _ s = true := fun w h => hts w (List.mem_cons_of_mem _ h)
  have hown : s.vm.findClass RX2 = some m.cls := findClass_of_methodNamed B.named
  have hlocks := B.notSynchronized
  have hin : meth.name = "<init>" := (name_of_methodNamed B.named B.method).1
  subst hsz
  have hD := hD0.self (sz := s.heap.size)
  generalize hAe : va_A [(h0, .inr (2, [.int 0, .null]))] s.heap.size = A at hD ⊢
  have hA : ∀ q : Nat, s.heap.size ≤ q → A q := fun q h => by rw [← hAe]; exact Or.inr h
  have hS : va_S A s.heap s.heap [] := va_S.rf
  have hl := lv_entry ([.ref h0]) (n := 1) (Nat.le_of_ble_eq_true rfl)
  rw [lg_entry_eq]
  generalize (lg_sl ([.ref h0]) ++ List.replicate (1 - (lg_sl ([.ref h0])).length) Slot.unset).toArray = ls at hl ⊢
  have hl : lv_has ls 1 [(0, .ref h0)] := hl
  have hP : va_P D zcl [(h0, .inr (2, [.int 0, .null]))] s.heap := hP
  refine lv_aload_n hx hb dX2_init_0 rfl (lv_at hl 0 rfl) ?_
  refine W.objInit hx hb hown (hts _ q66) (hts _ q29) (hts _ q30) rfl (by rw [hml]; exact hl.1) rfl dX2_init_1 (Nat.le_of_ble_eq_true rfl) (Nat.le_of_ble_eq_true rfl) ?_
  refine W.eq (g2 := F0 m 4 ls []) rfl ?_
  refine lv_aload_n hx hb dX2_init_4 rfl (lv_at hl 0 rfl) ?_
  refine lv_iconst (v := (0 : Int32)) hx hb dX2_init_5 (by decide) ?_
  refine va_put (D := D) (ci := 2) (v := .int (0 : Int32)) (ty := .boolean) (C := RX2) (T := TX2) (N := 2) hx hb hts in_X2 tyX2 tyX2_ok nmX2 hown hK hP hD hS 0 rfl rfl 0 (by decide) (hts _ q67) (fun _ h9 => h9) rfl (by decide +kernel) rfl rfl (Nat.le_of_ble_eq_true rfl) dX2_init_6 (fun H locs hP hD hS => ?_)
  have hP : va_P D zcl [(h0, .inr (2, [.int (0 : Int32), .null]))] H := hP
  have hD : va_D A [(h0, .inr (2, [.int (0 : Int32), .null]))] := hD
  refine lv_aload_n hx hb dX2_init_9 rfl (lv_at hl 0 rfl) ?_
  refine lv_null hx hb dX2_init_10 ?_
  refine va_put (D := D) (ci := 2) (v := .null) (ty := .array .int) (C := RX2) (T := TX2) (N := 2) hx hb hts in_X2 tyX2 tyX2_ok nmX2 hown hK hP hD hS 0 rfl rfl 1 (by decide) (hts _ q68) (fun _ h9 => h9) rfl (by decide +kernel) rfl rfl (Nat.le_of_ble_eq_true rfl) dX2_init_11 (fun H locs hP hD hS => ?_)
  have hP : va_P D zcl [(h0, .inr (2, [.int (0 : Int32), .null]))] H := hP
  have hD : va_D A [(h0, .inr (2, [.int (0 : Int32), .null]))] := hD
  have hP9 := hP.sub (ws' := [(h0, .inr (2, [.int (0 : Int32), .null]))]) [0] rfl
  have hD9 := hD.sub (ws' := [(h0, .inr (2, [.int (0 : Int32), .null]))]) [0] (by decide) rfl
  have hK9 := hK.sub (tys' := []) [] rfl
  refine W.widen (k := 0) (n := 0) (Nat.le_of_ble_eq_true rfl) (Nat.le_of_ble_eq_true rfl) ?_
  exact W.vret hx hb hr (fun t ht hW => ⟨⟨(), rfl, trivial, by rw [ht]; exact hP9, va_K.moved hW.alike hK9, hD9⟩, hS.F ht⟩) hS.2.2 dX2_init_14

set_option maxHeartbeats 4000000 in
set_option maxRecDepth 100000 in
theorem zX2_bytes2ints (l : Launch) (D : va_G) (sz : Nat) (h0 ak aw : Nat) (dk dw : ClassId) (fe : Int32) (kf wf : Nat → Int32) : Met l yX2_bytes2ints (ws_ yX2_bytes2ints cX2_bytes2ints 6 none) ({ frames := 0, cells := 0, slots := 0, locals := 0 }) (va_Pc [.ref h0, .ref ak, .ref aw, .int (nI (4 * 0)), .int (nI 0)] (zW D [(h0, .inr (2, [.int fe, .ref aw])), (ak, zar dk 64 kf), (aw, zar dw 64 wf)] [(dk, .byte), (dw, .int)] sz)) (va_Qv (fun _ : Unit => True) (fun _ t => zB D [(h0, .inr (2, [.int fe, .ref aw])), (ak, zar dk 64 kf), (aw, zar dw 64 (sh_cp (sh_asm kf) wf 16))] [(dk, .byte), (dw, .int)] (va_A [(h0, .inr (2, [.int fe, .ref aw])), (ak, zar dk 64 kf), (aw, zar dw 64 wf)] sz) t) (va_A [(h0, .inr (2, [.int fe, .ref aw])), (ak, zar dk 64 kf), (aw, zar dw 64 wf)] sz)) 0 0 (va_A [(h0, .inr (2, [.int fe, .ref aw])), (ak, zar dk 64 kf), (aw, zar dw 64 wf)] sz) := by
  refine Met.ofW (cc := cX2_bytes2ints) (maxL := 6) (ret := none) (by decide) rfl ?_
  intro p e s m args below meth c s₁ B hml hv
  obtain ⟨rfl, hsz, hP, hK, hD0⟩ := hv
  have hx := B.exec
  have hb := B.bytes
  have hr := B.returns
  have hts := atoms_spec (ws := (ws_ yX2_bytes2ints cX2_bytes2ints 6 none)) B.pre
  have hts : ∀ w ∈ lw_all, w.before _ s = true := fun w h => hts w (List.mem_cons_of_mem _ h)
  have hown : s.vm.findClass RX2 = some m.cls := findClass_of_methodNamed B.named
  have hlocks := B.notSynchronized
  subst hsz
  have hD := hD0.self (sz := s.heap.size)
  generalize hAe : va_A [(h0, .inr (2, [.int fe, .ref aw])), (ak, zar dk 64 kf), (aw, zar dw 64 wf)] s.heap.size = A at hD ⊢
  have hA : ∀ q : Nat, s.heap.size ≤ q → A q := fun q h => by rw [← hAe]; exact Or.inr h
  have hS : va_S A s.heap s.heap [] := va_S.rf
  have hl := lv_entry ([.ref h0, .ref ak, .ref aw, .int (nI (4 * 0)), .int (nI 0)]) (n := 6) (Nat.le_of_ble_eq_true rfl)
  rw [lg_entry_eq]
  generalize (lg_sl ([.ref h0, .ref ak, .ref aw, .int (nI (4 * 0)), .int (nI 0)]) ++ List.replicate (6 - (lg_sl ([.ref h0, .ref ak, .ref aw, .int (nI (4 * 0)), .int (nI 0)])).length) Slot.unset).toArray = ls at hl ⊢
  have hl : lv_has ls 6 [(0, .ref h0), (1, .ref ak), (2, .ref aw), (3, .int (nI (4 * 0))), (4, .int (nI 0))] := hl
  have hP : va_P D zcl [(h0, .inr (2, [.int fe, .ref aw])), (ak, zar dk 64 kf), (aw, zar dw 64 wf)] s.heap := hP
  refine lv_iload hx hb dX2_bytes2ints_0 (lv_at hl 4 rfl) ?_
  refine lv_istore (lv' := [(5, .int (nI 0)), (0, .ref h0), (1, .ref ak), (2, .ref aw), (3, .int (nI (4 * 0))), (4, .int (nI 0))]) hx hb dX2_bytes2ints_2 hl (by decide) rfl (fun ls hl => ?_)
  have loop : ∀ (n i : Nat), i + n = 16 → ∀ (H : Heap) (locs : List Loc) (ls : Array Slot), va_K D zcl [(dk, .byte), (dw, .int)] s → va_P D zcl [(h0, .inr (2, [.int fe, .ref aw])), (ak, zar dk 64 kf), (aw, zar dw 64 (sh_cp (sh_asm kf) wf i))] H → va_D A [(h0, .inr (2, [.int fe, .ref aw])), (ak, zar dk 64 kf), (aw, zar dw 64 (sh_cp (sh_asm kf) wf i))] → va_S A s.heap H locs → lv_has ls 6 [(0, .ref h0), (1, .ref ak), (2, .ref aw), (3, .int (nI (4 * i))), (5, .int (nI i))] → W p l e (headSpec (ws_ yX2_bytes2ints cX2_bytes2ints 6 none) ({ frames := 0, cells := 0, slots := 0, locals := 0 })).room s m ([.ref h0, .ref ak, .ref aw, .int (nI (4 * 0)), .int (nI 0)] : List Value).toArray below meth c H locs 0 0 (MQ below (va_Qv (fun _ : Unit => True) (fun _ t => zB D [(h0, .inr (2, [.int fe, .ref aw])), (ak, zar dk 64 kf), (aw, zar dw 64 (sh_cp (sh_asm kf) wf 16))] [(dk, .byte), (dw, .int)] A t) A) ([.ref h0, .ref ak, .ref aw, .int (nI (4 * 0)), .int (nI 0)] : List Value).toArray s 0 0 A) (F0 m 4 ls []) := by
    intro n
    induction n with
    | zero =>
      intro i hi H locs ls hK hP hD hS hl
      obtain rfl : i = 16 := by omega
      refine lv_iload hx hb dX2_bytes2ints_4 (lv_at hl 4 rfl) ?_
      refine lv_aload_n hx hb dX2_bytes2ints_6 rfl (lv_at hl 1 rfl) ?_
      refine va_alen (v := (64 : Int32)) hx hb hK hP 1 0 rfl rfl rfl dX2_bytes2ints_7 ?_
      refine lv_iconst (v := (4 : Int32)) hx hb dX2_bytes2ints_8 (by decide) ?_
      refine lv_idiv hx hb dX2_bytes2ints_9 (by decide) ?_
      refine z_top (y := (16 : Int32)) (by decide) ?_
      refine z_ge_t (tgt := 75) hx hb dX2_bytes2ints_10 (by decide) (nI_le (a := 16) (b := 16) (by omega) (by omega)) ?_
      have hP9 := hP.sub (ws' := [(h0, .inr (2, [.int fe, .ref aw])), (ak, zar dk 64 kf), (aw, zar dw 64 (sh_cp (sh_asm kf) wf 16))]) [0, 1, 2] rfl
      have hD9 := hD.sub (ws' := [(h0, .inr (2, [.int fe, .ref aw])), (ak, zar dk 64 kf), (aw, zar dw 64 (sh_cp (sh_asm kf) wf 16))]) [0, 1, 2] (by decide) rfl
      have hK9 := hK.sub (tys' := [(dk, .byte), (dw, .int)]) [0, 1] rfl
      refine W.widen (k := 0) (n := 0) (Nat.le_of_ble_eq_true rfl) (Nat.le_of_ble_eq_true rfl) ?_
      exact W.vret hx hb hr (fun t ht hW => ⟨⟨(), rfl, trivial, by rw [ht]; exact hP9, va_K.moved hW.alike hK9, hD9⟩, hS.F ht⟩) hS.2.2 dX2_bytes2ints_75
    | succ n ih =>
      intro i hi H locs ls hK hP hD hS hl
      refine lv_iload hx hb dX2_bytes2ints_4 (lv_at hl 4 rfl) ?_
      refine lv_aload_n hx hb dX2_bytes2ints_6 rfl (lv_at hl 1 rfl) ?_
      refine va_alen (v := (64 : Int32)) hx hb hK hP 1 0 rfl rfl rfl dX2_bytes2ints_7 ?_
      refine lv_iconst (v := (4 : Int32)) hx hb dX2_bytes2ints_8 (by decide) ?_
      refine lv_idiv hx hb dX2_bytes2ints_9 (by decide) ?_
      refine z_top (y := (16 : Int32)) (by decide) ?_
      refine z_ge_f (tgt := 75) hx hb dX2_bytes2ints_10 (by decide) (nI_ge (a := i) (b := 16) (by omega) (by omega)) ?_
      refine lv_aload_n hx hb dX2_bytes2ints_13 rfl (lv_at hl 2 rfl) ?_
      refine lv_iload hx hb dX2_bytes2ints_14 (lv_at hl 4 rfl) ?_
      refine lv_aload_n hx hb dX2_bytes2ints_16 rfl (lv_at hl 1 rfl) ?_
      refine lv_iload_n hx hb dX2_bytes2ints_17 rfl (lv_at hl 3 rfl) ?_
      refine lv_iinc (v := (nI (4 * i + 1))) (lv' := [(3, .int (nI (4 * i + 1))), (0, .ref h0), (1, .ref ak), (2, .ref aw), (5, .int (nI i))]) hx hb dX2_bytes2ints_18 hl (k := 3) rfl (z_inc (4 * i + 0)) (by decide) rfl (fun ls hl => ?_)
      refine z_bld hx hb hK hP 1 0 rfl rfl (v := (kf (4 * i))) (4 * i) rfl (by omega) (by decide) (rfl) dX2_bytes2ints_21 ?_
      refine lv_sipush (v := (255 : Int32)) hx hb dX2_bytes2ints_22 (by decide) ?_
      refine lv_iand hx hb dX2_bytes2ints_25 ?_
      refine lv_bipush (v := (24 : Int32)) hx hb dX2_bytes2ints_26 (by decide) ?_
      refine lv_ishl hx hb dX2_bytes2ints_28 ?_
      refine lv_aload_n hx hb dX2_bytes2ints_29 rfl (lv_at hl 2 rfl) ?_
      refine lv_iload_n hx hb dX2_bytes2ints_30 rfl (lv_at hl 0 rfl) ?_
      refine lv_iinc (v := (nI (4 * i + 2))) (lv' := [(3, .int (nI (4 * i + 2))), (0, .ref h0), (1, .ref ak), (2, .ref aw), (5, .int (nI i))]) hx hb dX2_bytes2ints_31 hl (k := 0) rfl (z_inc (4 * i + 1)) (by decide) rfl (fun ls hl => ?_)
      refine z_bld hx hb hK hP 1 0 rfl rfl (v := (kf (4 * i + 1))) (4 * i + 1) rfl (by omega) (by decide) (rfl) dX2_bytes2ints_34 ?_
      refine lv_sipush (v := (255 : Int32)) hx hb dX2_bytes2ints_35 (by decide) ?_
      refine lv_iand hx hb dX2_bytes2ints_38 ?_
      refine lv_bipush (v := (16 : Int32)) hx hb dX2_bytes2ints_39 (by decide) ?_
      refine lv_ishl hx hb dX2_bytes2ints_41 ?_
      refine lv_ior hx hb dX2_bytes2ints_42 ?_
      refine lv_aload_n hx hb dX2_bytes2ints_43 rfl (lv_at hl 2 rfl) ?_
      refine lv_iload_n hx hb dX2_bytes2ints_44 rfl (lv_at hl 0 rfl) ?_
      refine lv_iinc (v := (nI (4 * i + 3))) (lv' := [(3, .int (nI (4 * i + 3))), (0, .ref h0), (1, .ref ak), (2, .ref aw), (5, .int (nI i))]) hx hb dX2_bytes2ints_45 hl (k := 0) rfl (z_inc (4 * i + 2)) (by decide) rfl (fun ls hl => ?_)
      refine z_bld hx hb hK hP 1 0 rfl rfl (v := (kf (4 * i + 2))) (4 * i + 2) rfl (by omega) (by decide) (rfl) dX2_bytes2ints_48 ?_
      refine lv_sipush (v := (255 : Int32)) hx hb dX2_bytes2ints_49 (by decide) ?_
      refine lv_iand hx hb dX2_bytes2ints_52 ?_
      refine lv_bipush (v := (8 : Int32)) hx hb dX2_bytes2ints_53 (by decide) ?_
      refine lv_ishl hx hb dX2_bytes2ints_55 ?_
      refine lv_ior hx hb dX2_bytes2ints_56 ?_
      refine lv_aload_n hx hb dX2_bytes2ints_57 rfl (lv_at hl 2 rfl) ?_
      refine lv_iload_n hx hb dX2_bytes2ints_58 rfl (lv_at hl 0 rfl) ?_
      refine lv_iinc (v := (nI (4 * (i + 1)))) (lv' := [(3, .int (nI (4 * (i + 1)))), (0, .ref h0), (1, .ref ak), (2, .ref aw), (5, .int (nI i))]) hx hb dX2_bytes2ints_59 hl (k := 0) rfl (z_inc (4 * i + 3)) (by decide) rfl (fun ls hl => ?_)
      refine z_bld hx hb hK hP 1 0 rfl rfl (v := (kf (4 * i + 3))) (4 * i + 3) rfl (by omega) (by decide) (rfl) dX2_bytes2ints_62 ?_
      refine lv_sipush (v := (255 : Int32)) hx hb dX2_bytes2ints_63 (by decide) ?_
      refine lv_iand hx hb dX2_bytes2ints_66 ?_
      refine lv_ior hx hb dX2_bytes2ints_67 ?_
      refine z_top (y := (sh_asm kf i)) (rfl) ?_
      refine z_ist (f' := (sh_cp (sh_asm kf) wf (i + 1))) hx hb hK hP hD hS 2 1 rfl rfl i rfl (by omega) (by decide) (sh_cp_s _ _ _ rfl) dX2_bytes2ints_68 (fun H locs hP hD hS => ?_)
      have hP : va_P D zcl [(h0, .inr (2, [.int fe, .ref aw])), (ak, zar dk 64 kf), (aw, zar dw 64 (sh_cp (sh_asm kf) wf (i + 1)))] H := hP
      have hD : va_D A [(h0, .inr (2, [.int fe, .ref aw])), (ak, zar dk 64 kf), (aw, zar dw 64 (sh_cp (sh_asm kf) wf (i + 1)))] := hD
      refine lv_iinc (v := (nI (i + 1))) (lv' := [(5, .int (nI (i + 1))), (3, .int (nI (4 * (i + 1)))), (0, .ref h0), (1, .ref ak), (2, .ref aw)]) hx hb dX2_bytes2ints_69 hl (k := 4) rfl (z_inc i) (by decide) rfl (fun ls hl => ?_)
      refine lv_goto (tgt := 4) hx hb dX2_bytes2ints_72 (by decide) ?_
      exact ih (i + 1) (by omega) _ _ ls hK (hP.sub [0, 1, 2] rfl) (hD.sub [0, 1, 2] (by decide) rfl) hS (lv_sub hl [2, 3, 4, 1, 0] rfl)
  rw [← sh_cp_0 (sh_asm kf) wf] at hP hD
  exact loop 16 0 (by omega) _ _ ls hK (hP.sub [0, 1, 2] rfl) (hD.sub [0, 1, 2] (by decide) rfl) hS (lv_sub hl [1, 2, 3, 4, 0] rfl)

set_option maxHeartbeats 4000000 in
set_option maxRecDepth 100000 in
theorem zX2_byteBlockToInts (l : Launch) (D : va_G) (sz : Nat) (h0 ai ab aw : Nat) (di db : ClassId) (fe : Int32) (nf bf : Nat → Int32) : Met l yX2_byteBlockToInts (ws_ yX2_byteBlockToInts cX2_byteBlockToInts 6 none) ({ frames := 0, cells := 0, slots := 0, locals := 0 }) (va_Pc [.ref h0, .ref ai, .ref ab, .int (nI (4 * 0)), .int (nI 0)] (zW D [(h0, .inr (2, [.int fe, .ref aw])), (ai, zar di 32 nf), (ab, zar db 8 bf)] [(di, .byte), (db, .int)] sz)) (va_Qv (fun _ : Unit => True) (fun _ t => zB D [(h0, .inr (2, [.int fe, .ref aw])), (ai, zar di 32 nf), (ab, zar db 8 (sh_cp (sh_asm nf) bf 8))] [(di, .byte), (db, .int)] (va_A [(h0, .inr (2, [.int fe, .ref aw])), (ai, zar di 32 nf), (ab, zar db 8 bf)] sz) t) (va_A [(h0, .inr (2, [.int fe, .ref aw])), (ai, zar di 32 nf), (ab, zar db 8 bf)] sz)) 0 0 (va_A [(h0, .inr (2, [.int fe, .ref aw])), (ai, zar di 32 nf), (ab, zar db 8 bf)] sz) := by
  refine Met.ofW (cc := cX2_byteBlockToInts) (maxL := 6) (ret := none) (by decide) rfl ?_
  intro p e s m args below meth c s₁ B hml hv
  obtain ⟨rfl, hsz, hP, hK, hD0⟩ := hv
  have hx := B.exec
  have hb := B.bytes
  have hr := B.returns
  have hts := atoms_spec (ws := (ws_ yX2_byteBlockToInts cX2_byteBlockToInts 6 none)) B.pre
  have hts : ∀ w ∈ lw_all, w.before _ s = true := fun w h => hts w (List.mem_cons_of_mem _ h)
  have hown : s.vm.findClass RX2 = some m.cls := findClass_of_methodNamed B.named
  have hlocks := B.notSynchronized
  subst hsz
  have hD := hD0.self (sz := s.heap.size)
  generalize hAe : va_A [(h0, .inr (2, [.int fe, .ref aw])), (ai, zar di 32 nf), (ab, zar db 8 bf)] s.heap.size = A at hD ⊢
  have hA : ∀ q : Nat, s.heap.size ≤ q → A q := fun q h => by rw [← hAe]; exact Or.inr h
  have hS : va_S A s.heap s.heap [] := va_S.rf
  have hl := lv_entry ([.ref h0, .ref ai, .ref ab, .int (nI (4 * 0)), .int (nI 0)]) (n := 6) (Nat.le_of_ble_eq_true rfl)
  rw [lg_entry_eq]
  generalize (lg_sl ([.ref h0, .ref ai, .ref ab, .int (nI (4 * 0)), .int (nI 0)]) ++ List.replicate (6 - (lg_sl ([.ref h0, .ref ai, .ref ab, .int (nI (4 * 0)), .int (nI 0)])).length) Slot.unset).toArray = ls at hl ⊢
  have hl : lv_has ls 6 [(0, .ref h0), (1, .ref ai), (2, .ref ab), (3, .int (nI (4 * 0))), (4, .int (nI 0))] := hl
  have hP : va_P D zcl [(h0, .inr (2, [.int fe, .ref aw])), (ai, zar di 32 nf), (ab, zar db 8 bf)] s.heap := hP
  refine lv_iload hx hb dX2_byteBlockToInts_0 (lv_at hl 4 rfl) ?_
  refine lv_istore (lv' := [(5, .int (nI 0)), (0, .ref h0), (1, .ref ai), (2, .ref ab), (3, .int (nI (4 * 0))), (4, .int (nI 0))]) hx hb dX2_byteBlockToInts_2 hl (by decide) rfl (fun ls hl => ?_)
  have loop : ∀ (n i : Nat), i + n = 8 → ∀ (H : Heap) (locs : List Loc) (ls : Array Slot), va_K D zcl [(di, .byte), (db, .int)] s → va_P D zcl [(h0, .inr (2, [.int fe, .ref aw])), (ai, zar di 32 nf), (ab, zar db 8 (sh_cp (sh_asm nf) bf i))] H → va_D A [(h0, .inr (2, [.int fe, .ref aw])), (ai, zar di 32 nf), (ab, zar db 8 (sh_cp (sh_asm nf) bf i))] → va_S A s.heap H locs → lv_has ls 6 [(0, .ref h0), (1, .ref ai), (2, .ref ab), (3, .int (nI (4 * i))), (5, .int (nI i))] → W p l e (headSpec (ws_ yX2_byteBlockToInts cX2_byteBlockToInts 6 none) ({ frames := 0, cells := 0, slots := 0, locals := 0 })).room s m ([.ref h0, .ref ai, .ref ab, .int (nI (4 * 0)), .int (nI 0)] : List Value).toArray below meth c H locs 0 0 (MQ below (va_Qv (fun _ : Unit => True) (fun _ t => zB D [(h0, .inr (2, [.int fe, .ref aw])), (ai, zar di 32 nf), (ab, zar db 8 (sh_cp (sh_asm nf) bf 8))] [(di, .byte), (db, .int)] A t) A) ([.ref h0, .ref ai, .ref ab, .int (nI (4 * 0)), .int (nI 0)] : List Value).toArray s 0 0 A) (F0 m 4 ls []) := by
    intro n
    induction n with
    | zero =>
      intro i hi H locs ls hK hP hD hS hl
      obtain rfl : i = 8 := by omega
      refine lv_iload hx hb dX2_byteBlockToInts_4 (lv_at hl 4 rfl) ?_
      refine lv_bipush (v := (8 : Int32)) hx hb dX2_byteBlockToInts_6 (by decide) ?_
      refine z_ge_t (tgt := 73) hx hb dX2_byteBlockToInts_8 (by decide) (nI_le (a := 8) (b := 8) (by omega) (by omega)) ?_
      have hP9 := hP.sub (ws' := [(h0, .inr (2, [.int fe, .ref aw])), (ai, zar di 32 nf), (ab, zar db 8 (sh_cp (sh_asm nf) bf 8))]) [0, 1, 2] rfl
      have hD9 := hD.sub (ws' := [(h0, .inr (2, [.int fe, .ref aw])), (ai, zar di 32 nf), (ab, zar db 8 (sh_cp (sh_asm nf) bf 8))]) [0, 1, 2] (by decide) rfl
      have hK9 := hK.sub (tys' := [(di, .byte), (db, .int)]) [0, 1] rfl
      refine W.widen (k := 0) (n := 0) (Nat.le_of_ble_eq_true rfl) (Nat.le_of_ble_eq_true rfl) ?_
      exact W.vret hx hb hr (fun t ht hW => ⟨⟨(), rfl, trivial, by rw [ht]; exact hP9, va_K.moved hW.alike hK9, hD9⟩, hS.F ht⟩) hS.2.2 dX2_byteBlockToInts_73
    | succ n ih =>
      intro i hi H locs ls hK hP hD hS hl
      refine lv_iload hx hb dX2_byteBlockToInts_4 (lv_at hl 4 rfl) ?_
      refine lv_bipush (v := (8 : Int32)) hx hb dX2_byteBlockToInts_6 (by decide) ?_
      refine z_ge_f (tgt := 73) hx hb dX2_byteBlockToInts_8 (by decide) (nI_ge (a := i) (b := 8) (by omega) (by omega)) ?_
      refine lv_aload_n hx hb dX2_byteBlockToInts_11 rfl (lv_at hl 2 rfl) ?_
      refine lv_iload hx hb dX2_byteBlockToInts_12 (lv_at hl 4 rfl) ?_
      refine lv_aload_n hx hb dX2_byteBlockToInts_14 rfl (lv_at hl 1 rfl) ?_
      refine lv_iload_n hx hb dX2_byteBlockToInts_15 rfl (lv_at hl 3 rfl) ?_
      refine lv_iinc (v := (nI (4 * i + 1))) (lv' := [(3, .int (nI (4 * i + 1))), (0, .ref h0), (1, .ref ai), (2, .ref ab), (5, .int (nI i))]) hx hb dX2_byteBlockToInts_16 hl (k := 3) rfl (z_inc (4 * i + 0)) (by decide) rfl (fun ls hl => ?_)
      refine z_bld hx hb hK hP 1 0 rfl rfl (v := (nf (4 * i))) (4 * i) rfl (by omega) (by decide) (rfl) dX2_byteBlockToInts_19 ?_
      refine lv_sipush (v := (255 : Int32)) hx hb dX2_byteBlockToInts_20 (by decide) ?_
      refine lv_iand hx hb dX2_byteBlockToInts_23 ?_
      refine lv_bipush (v := (24 : Int32)) hx hb dX2_byteBlockToInts_24 (by decide) ?_
      refine lv_ishl hx hb dX2_byteBlockToInts_26 ?_
      refine lv_aload_n hx hb dX2_byteBlockToInts_27 rfl (lv_at hl 2 rfl) ?_
      refine lv_iload_n hx hb dX2_byteBlockToInts_28 rfl (lv_at hl 0 rfl) ?_
      refine lv_iinc (v := (nI (4 * i + 2))) (lv' := [(3, .int (nI (4 * i + 2))), (0, .ref h0), (1, .ref ai), (2, .ref ab), (5, .int (nI i))]) hx hb dX2_byteBlockToInts_29 hl (k := 0) rfl (z_inc (4 * i + 1)) (by decide) rfl (fun ls hl => ?_)
      refine z_bld hx hb hK hP 1 0 rfl rfl (v := (nf (4 * i + 1))) (4 * i + 1) rfl (by omega) (by decide) (rfl) dX2_byteBlockToInts_32 ?_
      refine lv_sipush (v := (255 : Int32)) hx hb dX2_byteBlockToInts_33 (by decide) ?_
      refine lv_iand hx hb dX2_byteBlockToInts_36 ?_
      refine lv_bipush (v := (16 : Int32)) hx hb dX2_byteBlockToInts_37 (by decide) ?_
      refine lv_ishl hx hb dX2_byteBlockToInts_39 ?_
      refine lv_ior hx hb dX2_byteBlockToInts_40 ?_
      refine lv_aload_n hx hb dX2_byteBlockToInts_41 rfl (lv_at hl 2 rfl) ?_
      refine lv_iload_n hx hb dX2_byteBlockToInts_42 rfl (lv_at hl 0 rfl) ?_
      refine lv_iinc (v := (nI (4 * i + 3))) (lv' := [(3, .int (nI (4 * i + 3))), (0, .ref h0), (1, .ref ai), (2, .ref ab), (5, .int (nI i))]) hx hb dX2_byteBlockToInts_43 hl (k := 0) rfl (z_inc (4 * i + 2)) (by decide) rfl (fun ls hl => ?_)
      refine z_bld hx hb hK hP 1 0 rfl rfl (v := (nf (4 * i + 2))) (4 * i + 2) rfl (by omega) (by decide) (rfl) dX2_byteBlockToInts_46 ?_
      refine lv_sipush (v := (255 : Int32)) hx hb dX2_byteBlockToInts_47 (by decide) ?_
      refine lv_iand hx hb dX2_byteBlockToInts_50 ?_
      refine lv_bipush (v := (8 : Int32)) hx hb dX2_byteBlockToInts_51 (by decide) ?_
      refine lv_ishl hx hb dX2_byteBlockToInts_53 ?_
      refine lv_ior hx hb dX2_byteBlockToInts_54 ?_
      refine lv_aload_n hx hb dX2_byteBlockToInts_55 rfl (lv_at hl 2 rfl) ?_
      refine lv_iload_n hx hb dX2_byteBlockToInts_56 rfl (lv_at hl 0 rfl) ?_
      refine lv_iinc (v := (nI (4 * (i + 1)))) (lv' := [(3, .int (nI (4 * (i + 1)))), (0, .ref h0), (1, .ref ai), (2, .ref ab), (5, .int (nI i))]) hx hb dX2_byteBlockToInts_57 hl (k := 0) rfl (z_inc (4 * i + 3)) (by decide) rfl (fun ls hl => ?_)
      refine z_bld hx hb hK hP 1 0 rfl rfl (v := (nf (4 * i + 3))) (4 * i + 3) rfl (by omega) (by decide) (rfl) dX2_byteBlockToInts_60 ?_
      refine lv_sipush (v := (255 : Int32)) hx hb dX2_byteBlockToInts_61 (by decide) ?_
      refine lv_iand hx hb dX2_byteBlockToInts_64 ?_
      refine lv_ior hx hb dX2_byteBlockToInts_65 ?_
      refine z_top (y := (sh_asm nf i)) (rfl) ?_
      refine z_ist (f' := (sh_cp (sh_asm nf) bf (i + 1))) hx hb hK hP hD hS 2 1 rfl rfl i rfl (by omega) (by decide) (sh_cp_s _ _ _ rfl) dX2_byteBlockToInts_66 (fun H locs hP hD hS => ?_)
      have hP : va_P D zcl [(h0, .inr (2, [.int fe, .ref aw])), (ai, zar di 32 nf), (ab, zar db 8 (sh_cp (sh_asm nf) bf (i + 1)))] H := hP
      have hD : va_D A [(h0, .inr (2, [.int fe, .ref aw])), (ai, zar di 32 nf), (ab, zar db 8 (sh_cp (sh_asm nf) bf (i + 1)))] := hD
      refine lv_iinc (v := (nI (i + 1))) (lv' := [(5, .int (nI (i + 1))), (3, .int (nI (4 * (i + 1)))), (0, .ref h0), (1, .ref ai), (2, .ref ab)]) hx hb dX2_byteBlockToInts_67 hl (k := 4) rfl (z_inc i) (by decide) rfl (fun ls hl => ?_)
      refine lv_goto (tgt := 4) hx hb dX2_byteBlockToInts_70 (by decide) ?_
      exact ih (i + 1) (by omega) _ _ ls hK (hP.sub [0, 1, 2] rfl) (hD.sub [0, 1, 2] (by decide) rfl) hS (lv_sub hl [2, 3, 4, 1, 0] rfl)
  rw [← sh_cp_0 (sh_asm nf) bf] at hP hD
  exact loop 8 0 (by omega) _ _ ls hK (hP.sub [0, 1, 2] rfl) (hD.sub [0, 1, 2] (by decide) rfl) hS (lv_sub hl [1, 2, 3, 4, 0] rfl)

set_option maxHeartbeats 4000000 in
set_option maxRecDepth 100000 in
theorem zX2_ints2bytes (l : Launch) (D : va_G) (sz : Nat) (h0 ab ao aw : Nat) (db dt : ClassId) (fe : Int32) (bf tf : Nat → Int32) : Met l yX2_ints2bytes (ws_ yX2_ints2bytes cX2_ints2bytes 5 none) ({ frames := 0, cells := 0, slots := 0, locals := 0 }) (va_Pc [.ref h0, .ref ab, .ref ao, .int (nI (4 * 0))] (zW D [(h0, .inr (2, [.int fe, .ref aw])), (ab, zar db 8 bf), (ao, zar dt 32 tf)] [(db, .int), (dt, .byte)] sz)) (va_Qv (fun _ : Unit => True) (fun _ t => zB D [(h0, .inr (2, [.int fe, .ref aw])), (ab, zar db 8 bf), (ao, zar dt 32 (sh_cp (sh_dis bf) tf 32))] [(db, .int), (dt, .byte)] (va_A [(h0, .inr (2, [.int fe, .ref aw])), (ab, zar db 8 bf), (ao, zar dt 32 tf)] sz) t) (va_A [(h0, .inr (2, [.int fe, .ref aw])), (ab, zar db 8 bf), (ao, zar dt 32 tf)] sz)) 0 0 (va_A [(h0, .inr (2, [.int fe, .ref aw])), (ab, zar db 8 bf), (ao, zar dt 32 tf)] sz) := by
  refine Met.ofW (cc := cX2_ints2bytes) (maxL := 5) (ret := none) (by decide) rfl ?_
  intro p e s m args below meth c s₁ B hml hv
  obtain ⟨rfl, hsz, hP, hK, hD0⟩ := hv
  have hx := B.exec
  have hb := B.bytes
  have hr := B.returns
  have hts := atoms_spec (ws := (ws_ yX2_ints2bytes cX2_ints2bytes 5 none)) B.pre
  have hts : ∀ w ∈ lw_all, w.before _ s = true := fun w h => hts w (List.mem_cons_of_mem _ h)
  have hown : s.vm.findClass RX2 = some m.cls := findClass_of_methodNamed B.named
  have hlocks := B.notSynchronized
  subst hsz
  have hD := hD0.self (sz := s.heap.size)
  generalize hAe : va_A [(h0, .inr (2, [.int fe, .ref aw])), (ab, zar db 8 bf), (ao, zar dt 32 tf)] s.heap.size = A at hD ⊢
  have hA : ∀ q : Nat, s.heap.size ≤ q → A q := fun q h => by rw [← hAe]; exact Or.inr h
  have hS : va_S A s.heap s.heap [] := va_S.rf
  have hl := lv_entry ([.ref h0, .ref ab, .ref ao, .int (nI (4 * 0))]) (n := 5) (Nat.le_of_ble_eq_true rfl)
  rw [lg_entry_eq]
  generalize (lg_sl ([.ref h0, .ref ab, .ref ao, .int (nI (4 * 0))]) ++ List.replicate (5 - (lg_sl ([.ref h0, .ref ab, .ref ao, .int (nI (4 * 0))])).length) Slot.unset).toArray = ls at hl ⊢
  have hl : lv_has ls 5 [(0, .ref h0), (1, .ref ab), (2, .ref ao), (3, .int (nI (4 * 0)))] := hl
  have hP : va_P D zcl [(h0, .inr (2, [.int fe, .ref aw])), (ab, zar db 8 bf), (ao, zar dt 32 tf)] s.heap := hP
  refine lv_iconst (v := (nI 0)) hx hb dX2_ints2bytes_0 (by decide) ?_
  refine lv_istore (lv' := [(4, .int (nI 0)), (0, .ref h0), (1, .ref ab), (2, .ref ao), (3, .int (nI (4 * 0)))]) hx hb dX2_ints2bytes_1 hl (by decide) rfl (fun ls hl => ?_)
  have loop : ∀ (n i : Nat), i + n = 8 → ∀ (H : Heap) (locs : List Loc) (ls : Array Slot), va_K D zcl [(db, .int), (dt, .byte)] s → va_P D zcl [(h0, .inr (2, [.int fe, .ref aw])), (ab, zar db 8 bf), (ao, zar dt 32 (sh_cp (sh_dis bf) tf (4 * i)))] H → va_D A [(h0, .inr (2, [.int fe, .ref aw])), (ab, zar db 8 bf), (ao, zar dt 32 (sh_cp (sh_dis bf) tf (4 * i)))] → va_S A s.heap H locs → lv_has ls 5 [(0, .ref h0), (1, .ref ab), (2, .ref ao), (3, .int (nI (4 * i))), (4, .int (nI i))] → W p l e (headSpec (ws_ yX2_ints2bytes cX2_ints2bytes 5 none) ({ frames := 0, cells := 0, slots := 0, locals := 0 })).room s m ([.ref h0, .ref ab, .ref ao, .int (nI (4 * 0))] : List Value).toArray below meth c H locs 0 0 (MQ below (va_Qv (fun _ : Unit => True) (fun _ t => zB D [(h0, .inr (2, [.int fe, .ref aw])), (ab, zar db 8 bf), (ao, zar dt 32 (sh_cp (sh_dis bf) tf 32))] [(db, .int), (dt, .byte)] A t) A) ([.ref h0, .ref ab, .ref ao, .int (nI (4 * 0))] : List Value).toArray s 0 0 A) (F0 m 3 ls []) := by
    intro n
    induction n with
    | zero =>
      intro i hi H locs ls hK hP hD hS hl
      obtain rfl : i = 8 := by omega
      refine lv_iload hx hb dX2_ints2bytes_3 (lv_at hl 4 rfl) ?_
      refine lv_aload_n hx hb dX2_ints2bytes_5 rfl (lv_at hl 1 rfl) ?_
      refine va_alen (v := (8 : Int32)) hx hb hK hP 1 0 rfl rfl rfl dX2_ints2bytes_6 ?_
      refine z_ge_t (tgt := 69) hx hb dX2_ints2bytes_7 (by decide) (nI_le (a := 8) (b := 8) (by omega) (by omega)) ?_
      have hP9 := hP.sub (ws' := [(h0, .inr (2, [.int fe, .ref aw])), (ab, zar db 8 bf), (ao, zar dt 32 (sh_cp (sh_dis bf) tf 32))]) [0, 1, 2] rfl
      have hD9 := hD.sub (ws' := [(h0, .inr (2, [.int fe, .ref aw])), (ab, zar db 8 bf), (ao, zar dt 32 (sh_cp (sh_dis bf) tf 32))]) [0, 1, 2] (by decide) rfl
      have hK9 := hK.sub (tys' := [(db, .int), (dt, .byte)]) [0, 1] rfl
      refine W.widen (k := 0) (n := 0) (Nat.le_of_ble_eq_true rfl) (Nat.le_of_ble_eq_true rfl) ?_
      exact W.vret hx hb hr (fun t ht hW => ⟨⟨(), rfl, trivial, by rw [ht]; exact hP9, va_K.moved hW.alike hK9, hD9⟩, hS.F ht⟩) hS.2.2 dX2_ints2bytes_69
    | succ n ih =>
      intro i hi H locs ls hK hP hD hS hl
      refine lv_iload hx hb dX2_ints2bytes_3 (lv_at hl 4 rfl) ?_
      refine lv_aload_n hx hb dX2_ints2bytes_5 rfl (lv_at hl 1 rfl) ?_
      refine va_alen (v := (8 : Int32)) hx hb hK hP 1 0 rfl rfl rfl dX2_ints2bytes_6 ?_
      refine z_ge_f (tgt := 69) hx hb dX2_ints2bytes_7 (by decide) (nI_ge (a := i) (b := 8) (by omega) (by omega)) ?_
      refine lv_aload_n hx hb dX2_ints2bytes_10 rfl (lv_at hl 2 rfl) ?_
      refine lv_iload_n hx hb dX2_ints2bytes_11 rfl (lv_at hl 3 rfl) ?_
      refine lv_iinc (v := (nI (4 * i + 1))) (lv' := [(3, .int (nI (4 * i + 1))), (0, .ref h0), (1, .ref ab), (2, .ref ao), (4, .int (nI i))]) hx hb dX2_ints2bytes_12 hl (k := 3) rfl (z_inc (4 * i + 0)) (by decide) rfl (fun ls hl => ?_)
      refine lv_aload_n hx hb dX2_ints2bytes_15 rfl (lv_at hl 2 rfl) ?_
      refine lv_iload hx hb dX2_ints2bytes_16 (lv_at hl 4 rfl) ?_
      refine z_ild hx hb hK hP 1 0 rfl rfl (v := (bf i)) i rfl (by omega) (by decide) (rfl) dX2_ints2bytes_18 ?_
      refine lv_bipush (v := (24 : Int32)) hx hb dX2_ints2bytes_19 (by decide) ?_
      refine lv_iushr (v := (sh_us (bf i) (24 : Int32))) hx hb dX2_ints2bytes_21 rfl ?_
      refine lv_i2b (v := ((sh_us (bf i) (24 : Int32))).toInt8.toInt32) hx hb dX2_ints2bytes_22 rfl ?_
      refine z_bst (f' := (sh_cp (sh_dis bf) tf (4 * i + 1))) hx hb hK hP hD hS 2 1 rfl rfl (4 * i) rfl (by omega) (by decide) (pk_vb _) (sh_cp_s _ _ _ (sh_dis0 bf i)) dX2_ints2bytes_23 (fun H locs hP hD hS => ?_)
      have hP : va_P D zcl [(h0, .inr (2, [.int fe, .ref aw])), (ab, zar db 8 bf), (ao, zar dt 32 (sh_cp (sh_dis bf) tf (4 * i + 1)))] H := hP
      have hD : va_D A [(h0, .inr (2, [.int fe, .ref aw])), (ab, zar db 8 bf), (ao, zar dt 32 (sh_cp (sh_dis bf) tf (4 * i + 1)))] := hD
      refine lv_aload_n hx hb dX2_ints2bytes_24 rfl (lv_at hl 3 rfl) ?_
      refine lv_iload_n hx hb dX2_ints2bytes_25 rfl (lv_at hl 0 rfl) ?_
      refine lv_iinc (v := (nI (4 * i + 2))) (lv' := [(3, .int (nI (4 * i + 2))), (0, .ref h0), (1, .ref ab), (2, .ref ao), (4, .int (nI i))]) hx hb dX2_ints2bytes_26 hl (k := 0) rfl (z_inc (4 * i + 1)) (by decide) rfl (fun ls hl => ?_)
      refine lv_aload_n hx hb dX2_ints2bytes_29 rfl (lv_at hl 2 rfl) ?_
      refine lv_iload hx hb dX2_ints2bytes_30 (lv_at hl 4 rfl) ?_
      refine z_ild hx hb hK hP 1 0 rfl rfl (v := (bf i)) i rfl (by omega) (by decide) (rfl) dX2_ints2bytes_32 ?_
      refine lv_bipush (v := (16 : Int32)) hx hb dX2_ints2bytes_33 (by decide) ?_
      refine lv_iushr (v := (sh_us (bf i) (16 : Int32))) hx hb dX2_ints2bytes_35 rfl ?_
      refine lv_i2b (v := ((sh_us (bf i) (16 : Int32))).toInt8.toInt32) hx hb dX2_ints2bytes_36 rfl ?_
      refine z_bst (f' := (sh_cp (sh_dis bf) tf (4 * i + 2))) hx hb hK hP hD hS 2 1 rfl rfl (4 * i + 1) rfl (by omega) (by decide) (pk_vb _) (sh_cp_s _ _ _ (sh_dis1 bf i)) dX2_ints2bytes_37 (fun H locs hP hD hS => ?_)
      have hP : va_P D zcl [(h0, .inr (2, [.int fe, .ref aw])), (ab, zar db 8 bf), (ao, zar dt 32 (sh_cp (sh_dis bf) tf (4 * i + 2)))] H := hP
      have hD : va_D A [(h0, .inr (2, [.int fe, .ref aw])), (ab, zar db 8 bf), (ao, zar dt 32 (sh_cp (sh_dis bf) tf (4 * i + 2)))] := hD
      refine lv_aload_n hx hb dX2_ints2bytes_38 rfl (lv_at hl 3 rfl) ?_
      refine lv_iload_n hx hb dX2_ints2bytes_39 rfl (lv_at hl 0 rfl) ?_
      refine lv_iinc (v := (nI (4 * i + 3))) (lv' := [(3, .int (nI (4 * i + 3))), (0, .ref h0), (1, .ref ab), (2, .ref ao), (4, .int (nI i))]) hx hb dX2_ints2bytes_40 hl (k := 0) rfl (z_inc (4 * i + 2)) (by decide) rfl (fun ls hl => ?_)
      refine lv_aload_n hx hb dX2_ints2bytes_43 rfl (lv_at hl 2 rfl) ?_
      refine lv_iload hx hb dX2_ints2bytes_44 (lv_at hl 4 rfl) ?_
      refine z_ild hx hb hK hP 1 0 rfl rfl (v := (bf i)) i rfl (by omega) (by decide) (rfl) dX2_ints2bytes_46 ?_
      refine lv_bipush (v := (8 : Int32)) hx hb dX2_ints2bytes_47 (by decide) ?_
      refine lv_iushr (v := (sh_us (bf i) (8 : Int32))) hx hb dX2_ints2bytes_49 rfl ?_
      refine lv_i2b (v := ((sh_us (bf i) (8 : Int32))).toInt8.toInt32) hx hb dX2_ints2bytes_50 rfl ?_
      refine z_bst (f' := (sh_cp (sh_dis bf) tf (4 * i + 3))) hx hb hK hP hD hS 2 1 rfl rfl (4 * i + 2) rfl (by omega) (by decide) (pk_vb _) (sh_cp_s _ _ _ (sh_dis2 bf i)) dX2_ints2bytes_51 (fun H locs hP hD hS => ?_)
      have hP : va_P D zcl [(h0, .inr (2, [.int fe, .ref aw])), (ab, zar db 8 bf), (ao, zar dt 32 (sh_cp (sh_dis bf) tf (4 * i + 3)))] H := hP
      have hD : va_D A [(h0, .inr (2, [.int fe, .ref aw])), (ab, zar db 8 bf), (ao, zar dt 32 (sh_cp (sh_dis bf) tf (4 * i + 3)))] := hD
      refine lv_aload_n hx hb dX2_ints2bytes_52 rfl (lv_at hl 3 rfl) ?_
      refine lv_iload_n hx hb dX2_ints2bytes_53 rfl (lv_at hl 0 rfl) ?_
      refine lv_iinc (v := (nI (4 * (i + 1)))) (lv' := [(3, .int (nI (4 * (i + 1)))), (0, .ref h0), (1, .ref ab), (2, .ref ao), (4, .int (nI i))]) hx hb dX2_ints2bytes_54 hl (k := 0) rfl (z_inc (4 * i + 3)) (by decide) rfl (fun ls hl => ?_)
      refine lv_aload_n hx hb dX2_ints2bytes_57 rfl (lv_at hl 2 rfl) ?_
      refine lv_iload hx hb dX2_ints2bytes_58 (lv_at hl 4 rfl) ?_
      refine z_ild hx hb hK hP 1 0 rfl rfl (v := (bf i)) i rfl (by omega) (by decide) (rfl) dX2_ints2bytes_60 ?_
      refine lv_i2b (v := ((bf i)).toInt8.toInt32) hx hb dX2_ints2bytes_61 rfl ?_
      refine z_bst (f' := (sh_cp (sh_dis bf) tf (4 * (i + 1)))) hx hb hK hP hD hS 2 1 rfl rfl (4 * i + 3) rfl (by omega) (by decide) (pk_vb _) (sh_cp_s _ _ _ (sh_dis3 bf i)) dX2_ints2bytes_62 (fun H locs hP hD hS => ?_)
      have hP : va_P D zcl [(h0, .inr (2, [.int fe, .ref aw])), (ab, zar db 8 bf), (ao, zar dt 32 (sh_cp (sh_dis bf) tf (4 * (i + 1))))] H := hP
      have hD : va_D A [(h0, .inr (2, [.int fe, .ref aw])), (ab, zar db 8 bf), (ao, zar dt 32 (sh_cp (sh_dis bf) tf (4 * (i + 1))))] := hD
      refine lv_iinc (v := (nI (i + 1))) (lv' := [(4, .int (nI (i + 1))), (3, .int (nI (4 * (i + 1)))), (0, .ref h0), (1, .ref ab), (2, .ref ao)]) hx hb dX2_ints2bytes_63 hl (k := 4) rfl (z_inc i) (by decide) rfl (fun ls hl => ?_)
      refine lv_goto (tgt := 3) hx hb dX2_ints2bytes_66 (by decide) ?_
      exact ih (i + 1) (by omega) _ _ ls hK (hP.sub [0, 1, 2] rfl) (hD.sub [0, 1, 2] (by decide) rfl) hS (lv_sub hl [2, 3, 4, 1, 0] rfl)
  rw [← sh_cp_0 (sh_dis bf) tf] at hP hD
  exact loop 8 0 (by omega) _ _ ls hK (hP.sub [0, 1, 2] rfl) (hD.sub [0, 1, 2] (by decide) rfl) hS (lv_sub hl [1, 2, 3, 4, 0] rfl)

set_option maxHeartbeats 4000000 in
set_option maxRecDepth 100000 in
theorem zX2_setKey (l : Launch) (D : va_G) (sz : Nat) (h0 ak aw : Nat) (dk dw : ClassId) (fe : Int32) (kf wf : Nat → Int32) : Met l yX2_setKey (ws_ yX2_setKey cX2_setKey 3 none) ({ frames := 1, cells := 0, slots := 0, locals := 25 }) (va_Pc [.ref h0, .ref ak] (zW D [(h0, .inr (2, [.int fe, .ref aw])), (ak, zar dk 64 kf), (aw, zar dw 64 wf)] [(dk, .byte), (dw, .int)] sz)) (va_Qv (fun _ : Unit => True) (fun _ t => zB D [(h0, .inr (2, [.int fe, .ref aw])), (ak, zar dk 64 kf), (aw, zar dw 64 (sh_fill (sh_cp (sh_asm kf) wf 16) 48))] [(dk, .byte), (dw, .int)] (va_A [(h0, .inr (2, [.int fe, .ref aw])), (ak, zar dk 64 kf), (aw, zar dw 64 wf)] sz) t) (va_A [(h0, .inr (2, [.int fe, .ref aw])), (ak, zar dk 64 kf), (aw, zar dw 64 wf)] sz)) 0 0 (va_A [(h0, .inr (2, [.int fe, .ref aw])), (ak, zar dk 64 kf), (aw, zar dw 64 wf)] sz) := by
  refine Met.ofW (cc := cX2_setKey) (maxL := 3) (ret := none) (by decide) rfl ?_
  intro p e s m args below meth c s₁ B hml hv
  obtain ⟨rfl, hsz, hP, hK, hD0⟩ := hv
  have hx := B.exec
  have hb := B.bytes
  have hr := B.returns
  have hts := atoms_spec (ws := (ws_ yX2_setKey cX2_setKey 3 none)) B.pre
  have hts : ∀ w ∈ lw_all, w.before _ s = true := fun w h => hts w (List.mem_cons_of_mem _ h)
  have hown : s.vm.findClass RX2 = some m.cls := findClass_of_methodNamed B.named
  have hlocks := B.notSynchronized
  subst hsz
  have hD := hD0.self (sz := s.heap.size)
  generalize hAe : va_A [(h0, .inr (2, [.int fe, .ref aw])), (ak, zar dk 64 kf), (aw, zar dw 64 wf)] s.heap.size = A at hD ⊢
  have hA : ∀ q : Nat, s.heap.size ≤ q → A q := fun q h => by rw [← hAe]; exact Or.inr h
  have hS : va_S A s.heap s.heap [] := va_S.rf
  have hl := lv_entry ([.ref h0, .ref ak]) (n := 3) (Nat.le_of_ble_eq_true rfl)
  rw [lg_entry_eq]
  generalize (lg_sl ([.ref h0, .ref ak]) ++ List.replicate (3 - (lg_sl ([.ref h0, .ref ak])).length) Slot.unset).toArray = ls at hl ⊢
  have hl : lv_has ls 3 [(0, .ref h0), (1, .ref ak)] := hl
  have hP : va_P D zcl [(h0, .inr (2, [.int fe, .ref aw])), (ak, zar dk 64 kf), (aw, zar dw 64 wf)] s.heap := hP
  refine lv_aload_n hx hb dX2_setKey_0 rfl (lv_at hl 1 rfl) ?_
  refine va_alen (v := (64 : Int32)) hx hb hK hP 1 0 rfl rfl rfl dX2_setKey_1 ?_
  refine z_if_eq_f (tgt := 27) hx hb dX2_setKey_2 (by decide) (by decide) ?_
  refine lv_aload_n hx hb dX2_setKey_5 rfl (lv_at hl 1 rfl) ?_
  refine va_alen (v := (64 : Int32)) hx hb hK hP 1 0 rfl rfl rfl dX2_setKey_6 ?_
  refine lv_bipush (v := (64 : Int32)) hx hb dX2_setKey_7 (by decide) ?_
  refine z_gt_f (tgt := 27) hx hb dX2_setKey_9 (by decide) (by decide) ?_
  refine lv_aload_n hx hb dX2_setKey_12 rfl (lv_at hl 1 rfl) ?_
  refine va_alen (v := (64 : Int32)) hx hb hK hP 1 0 rfl rfl rfl dX2_setKey_13 ?_
  refine lv_bipush (v := (16 : Int32)) hx hb dX2_setKey_14 (by decide) ?_
  refine z_lt_f (tgt := 27) hx hb dX2_setKey_16 (by decide) (by decide) ?_
  refine lv_aload_n hx hb dX2_setKey_19 rfl (lv_at hl 1 rfl) ?_
  refine va_alen (v := (64 : Int32)) hx hb hK hP 1 0 rfl rfl rfl dX2_setKey_20 ?_
  refine lv_bipush (v := (8 : Int32)) hx hb dX2_setKey_21 (by decide) ?_
  refine lv_irem hx hb dX2_setKey_23 (by decide) ?_
  refine z_if_eq_t (tgt := 37) hx hb dX2_setKey_24 (by decide) (by decide) ?_
  refine lv_aload_n hx hb dX2_setKey_37 rfl (lv_at hl 0 rfl) ?_
  refine lv_aload_n hx hb dX2_setKey_38 rfl (lv_at hl 1 rfl) ?_
  refine lv_aload_n hx hb dX2_setKey_39 rfl (lv_at hl 0 rfl) ?_
  refine va_get (D := D) (ci := 2) (v := .ref aw) (C := RX2) (T := TX2) (N := 2) hx hb hts in_X2 hown hK hP 0 rfl rfl 1 (by decide) (hts _ q68) (fun _ h9 => h9) rfl dX2_setKey_40 ?_
  refine lv_iconst (v := (nI (4 * 0))) hx hb dX2_setKey_43 (by decide) ?_
  refine lv_iconst (v := (nI 0)) hx hb dX2_setKey_44 (by decide) ?_
  have hPc := hP.sub (ws' := [(h0, .inr (2, [.int fe, .ref aw])), (ak, zar dk 64 kf), (aw, zar dw 64 wf)]) [0, 1, 2] rfl
  have hDc := hD.sub (ws' := [(h0, .inr (2, [.int fe, .ref aw])), (ak, zar dk 64 kf), (aw, zar dw 64 wf)]) [0, 1, 2] (by decide) rfl
  have hKc := hK.sub (tys' := [(dk, .byte), (dw, .int)]) [0, 1] rfl
  have hFc := va_free (wc := [(h0, .inr (2, [.int fe, .ref aw])), (ak, zar dk 64 kf), (aw, zar dw 64 wf)]) hD hS hA [0, 1, 2] rfl
  refine va_callv (va_runV (As := [.ref ak, .ref aw, .int (nI (4 * 0)), .int (nI 0)]) (rest := []) ⟨hx, hb, hml, hown, hts⟩ (zX2_bytes2ints l D _ h0 ak aw dk dw fe kf wf) (cwV 4 hts (lw_V q181 q183 qs2 q12 q184) rfl rfl rfl (by decide +kernel) ⟨(Nat.le_of_ble_eq_true rfl), (Nat.le_of_ble_eq_true rfl)⟩) (z_preV [.ref ak, .ref aw, .int (nI (4 * 0)), .int (nI 0)] hPc hKc hDc (va_recv hKc hPc (ci := 2) (q0 := 0) rfl rfl)) rfl rfl hl.1 rfl (lv_room (Nat.le_of_ble_eq_true rfl)) dX2_setKey_45 ⟨(Nat.le_of_ble_eq_true rfl), (Nat.le_of_ble_eq_true rfl)⟩) hS (fun q _ h => hFc q h) hFc (fun u t H1 locs ht hvm hw_1 hB hz1 hk1 hS => ?_)
  obtain ⟨hP1, hK1, hD1⟩ := hB
  rw [ht] at hP1
  have hK1 := va_K.moved hvm.symm hK1
  obtain ⟨hP, hD⟩ := va_join (wr := []) (w1 := [(h0, .inr (2, [.int fe, .ref aw])), (ak, zar dk 64 kf), (aw, zar dw 64 (sh_cp (sh_asm kf) wf 16))]) hP hD [0, 1, 2] [] rfl rfl (by decide) (by decide) hk1 hFc hP1 hD1
  generalize H1 = H at hP hS ⊢
  have hP := hP.sub (ws' := [(h0, .inr (2, [.int fe, .ref aw])), (ak, zar dk 64 kf), (aw, zar dw 64 (sh_cp (sh_asm kf) wf 16))]) [0, 1, 2] rfl
  have hD := hD.sub (ws' := [(h0, .inr (2, [.int fe, .ref aw])), (ak, zar dk 64 kf), (aw, zar dw 64 (sh_cp (sh_asm kf) wf 16))]) [0, 1, 2] (by decide) rfl
  refine lv_bipush (v := (nI (16 + 0))) hx hb dX2_setKey_48 (by decide) ?_
  refine lv_istore_n (lv' := [(2, .int (nI (16 + 0))), (0, .ref h0), (1, .ref ak)]) hx hb dX2_setKey_50 rfl hl (by decide) rfl (fun ls hl => ?_)
  have loop : ∀ (n i : Nat), i + n = 48 → ∀ (H : Heap) (locs : List Loc) (ls : Array Slot), va_K D zcl [(dk, .byte), (dw, .int)] s → va_P D zcl [(h0, .inr (2, [.int fe, .ref aw])), (ak, zar dk 64 kf), (aw, zar dw 64 (sh_fill (sh_cp (sh_asm kf) wf 16) i))] H → va_D A [(h0, .inr (2, [.int fe, .ref aw])), (ak, zar dk 64 kf), (aw, zar dw 64 (sh_fill (sh_cp (sh_asm kf) wf 16) i))] → va_S A s.heap H locs → lv_has ls 3 [(0, .ref h0), (1, .ref ak), (2, .int (nI (16 + i)))] → W p l e (headSpec (ws_ yX2_setKey cX2_setKey 3 none) ({ frames := 1, cells := 0, slots := 0, locals := 25 })).room s m ([.ref h0, .ref ak] : List Value).toArray below meth c H locs 0 0 (MQ below (va_Qv (fun _ : Unit => True) (fun _ t => zB D [(h0, .inr (2, [.int fe, .ref aw])), (ak, zar dk 64 kf), (aw, zar dw 64 (sh_fill (sh_cp (sh_asm kf) wf 16) 48))] [(dk, .byte), (dw, .int)] A t) A) ([.ref h0, .ref ak] : List Value).toArray s 0 0 A) (F0 m 51 ls []) := by
    intro n
    induction n with
    | zero =>
      intro i hi H locs ls hK hP hD hS hl
      obtain rfl : i = 48 := by omega
      refine lv_iload_n hx hb dX2_setKey_51 rfl (lv_at hl 2 rfl) ?_
      refine lv_bipush (v := (64 : Int32)) hx hb dX2_setKey_52 (by decide) ?_
      refine z_ge_t (tgt := 212) hx hb dX2_setKey_54 (by decide) (nI_le (a := 64) (b := 16 + 48) (by omega) (by omega)) ?_
      have hP9 := hP.sub (ws' := [(h0, .inr (2, [.int fe, .ref aw])), (ak, zar dk 64 kf), (aw, zar dw 64 (sh_fill (sh_cp (sh_asm kf) wf 16) 48))]) [0, 1, 2] rfl
      have hD9 := hD.sub (ws' := [(h0, .inr (2, [.int fe, .ref aw])), (ak, zar dk 64 kf), (aw, zar dw 64 (sh_fill (sh_cp (sh_asm kf) wf 16) 48))]) [0, 1, 2] (by decide) rfl
      have hK9 := hK.sub (tys' := [(dk, .byte), (dw, .int)]) [0, 1] rfl
      refine W.widen (k := 0) (n := 0) (Nat.le_of_ble_eq_true rfl) (Nat.le_of_ble_eq_true rfl) ?_
      exact W.vret hx hb hr (fun t ht hW => ⟨⟨(), rfl, trivial, by rw [ht]; exact hP9, va_K.moved hW.alike hK9, hD9⟩, hS.F ht⟩) hS.2.2 dX2_setKey_212
    | succ n ih =>
      intro i hi H locs ls hK hP hD hS hl
      refine lv_iload_n hx hb dX2_setKey_51 rfl (lv_at hl 2 rfl) ?_
      refine lv_bipush (v := (64 : Int32)) hx hb dX2_setKey_52 (by decide) ?_
      refine z_ge_f (tgt := 212) hx hb dX2_setKey_54 (by decide) (nI_ge (a := 16 + i) (b := 64) (by omega) (by omega)) ?_
      refine lv_aload_n hx hb dX2_setKey_57 rfl (lv_at hl 0 rfl) ?_
      refine va_get (D := D) (ci := 2) (v := .ref aw) (C := RX2) (T := TX2) (N := 2) hx hb hts in_X2 hown hK hP 0 rfl rfl 1 (by decide) (hts _ q68) (fun _ h9 => h9) rfl dX2_setKey_58 ?_
      refine lv_iload_n hx hb dX2_setKey_61 rfl (lv_at hl 2 rfl) ?_
      refine lv_aload_n hx hb dX2_setKey_62 rfl (lv_at hl 0 rfl) ?_
      refine va_get (D := D) (ci := 2) (v := .ref aw) (C := RX2) (T := TX2) (N := 2) hx hb hts in_X2 hown hK hP 0 rfl rfl 1 (by decide) (hts _ q68) (fun _ h9 => h9) rfl dX2_setKey_63 ?_
      refine lv_iload_n hx hb dX2_setKey_66 rfl (lv_at hl 2 rfl) ?_
      refine lv_iconst (v := (nI 2)) hx hb dX2_setKey_67 (by decide) ?_
      refine lv_isub hx hb dX2_setKey_68 ?_
      refine z_top (y := (nI (16 + i - 2))) (pk_sub (by omega)) ?_
      refine z_ild hx hb hK hP 2 1 rfl rfl (v := ((sh_fill (sh_cp (sh_asm kf) wf 16) i) (16 + i - 2))) (16 + i - 2) rfl (by omega) (by decide) (rfl) dX2_setKey_69 ?_
      refine lv_bipush (v := (17 : Int32)) hx hb dX2_setKey_70 (by decide) ?_
      refine lv_iushr (v := (sh_us ((sh_fill (sh_cp (sh_asm kf) wf 16) i) (16 + i - 2)) (17 : Int32))) hx hb dX2_setKey_72 rfl ?_
      refine lv_aload_n hx hb dX2_setKey_73 rfl (lv_at hl 0 rfl) ?_
      refine va_get (D := D) (ci := 2) (v := .ref aw) (C := RX2) (T := TX2) (N := 2) hx hb hts in_X2 hown hK hP 0 rfl rfl 1 (by decide) (hts _ q68) (fun _ h9 => h9) rfl dX2_setKey_74 ?_
      refine lv_iload_n hx hb dX2_setKey_77 rfl (lv_at hl 2 rfl) ?_
      refine lv_iconst (v := (nI 2)) hx hb dX2_setKey_78 (by decide) ?_
      refine lv_isub hx hb dX2_setKey_79 ?_
      refine z_top (y := (nI (16 + i - 2))) (pk_sub (by omega)) ?_
      refine z_ild hx hb hK hP 2 1 rfl rfl (v := ((sh_fill (sh_cp (sh_asm kf) wf 16) i) (16 + i - 2))) (16 + i - 2) rfl (by omega) (by decide) (rfl) dX2_setKey_80 ?_
      refine lv_bipush (v := (-17 : Int32)) hx hb dX2_setKey_81 (by decide) ?_
      refine lv_ishl hx hb dX2_setKey_83 ?_
      refine lv_ior hx hb dX2_setKey_84 ?_
      refine z_top (y := (sh_tr ((sh_fill (sh_cp (sh_asm kf) wf 16) i) (16 + i - 2)) (17 : Int32))) (sh_rot _ (by decide)) ?_
      refine lv_aload_n hx hb dX2_setKey_85 rfl (lv_at hl 0 rfl) ?_
      refine va_get (D := D) (ci := 2) (v := .ref aw) (C := RX2) (T := TX2) (N := 2) hx hb hts in_X2 hown hK hP 0 rfl rfl 1 (by decide) (hts _ q68) (fun _ h9 => h9) rfl dX2_setKey_86 ?_
      refine lv_iload_n hx hb dX2_setKey_89 rfl (lv_at hl 2 rfl) ?_
      refine lv_iconst (v := (nI 2)) hx hb dX2_setKey_90 (by decide) ?_
      refine lv_isub hx hb dX2_setKey_91 ?_
      refine z_top (y := (nI (16 + i - 2))) (pk_sub (by omega)) ?_
      refine z_ild hx hb hK hP 2 1 rfl rfl (v := ((sh_fill (sh_cp (sh_asm kf) wf 16) i) (16 + i - 2))) (16 + i - 2) rfl (by omega) (by decide) (rfl) dX2_setKey_92 ?_
      refine lv_bipush (v := (19 : Int32)) hx hb dX2_setKey_93 (by decide) ?_
      refine lv_iushr (v := (sh_us ((sh_fill (sh_cp (sh_asm kf) wf 16) i) (16 + i - 2)) (19 : Int32))) hx hb dX2_setKey_95 rfl ?_
      refine lv_aload_n hx hb dX2_setKey_96 rfl (lv_at hl 0 rfl) ?_
      refine va_get (D := D) (ci := 2) (v := .ref aw) (C := RX2) (T := TX2) (N := 2) hx hb hts in_X2 hown hK hP 0 rfl rfl 1 (by decide) (hts _ q68) (fun _ h9 => h9) rfl dX2_setKey_97 ?_
      refine lv_iload_n hx hb dX2_setKey_100 rfl (lv_at hl 2 rfl) ?_
      refine lv_iconst (v := (nI 2)) hx hb dX2_setKey_101 (by decide) ?_
      refine lv_isub hx hb dX2_setKey_102 ?_
      refine z_top (y := (nI (16 + i - 2))) (pk_sub (by omega)) ?_
      refine z_ild hx hb hK hP 2 1 rfl rfl (v := ((sh_fill (sh_cp (sh_asm kf) wf 16) i) (16 + i - 2))) (16 + i - 2) rfl (by omega) (by decide) (rfl) dX2_setKey_103 ?_
      refine lv_bipush (v := (-19 : Int32)) hx hb dX2_setKey_104 (by decide) ?_
      refine lv_ishl hx hb dX2_setKey_106 ?_
      refine lv_ior hx hb dX2_setKey_107 ?_
      refine z_top (y := (sh_tr ((sh_fill (sh_cp (sh_asm kf) wf 16) i) (16 + i - 2)) (19 : Int32))) (sh_rot _ (by decide)) ?_
      refine lv_ixor hx hb dX2_setKey_108 ?_
      refine lv_aload_n hx hb dX2_setKey_109 rfl (lv_at hl 0 rfl) ?_
      refine va_get (D := D) (ci := 2) (v := .ref aw) (C := RX2) (T := TX2) (N := 2) hx hb hts in_X2 hown hK hP 0 rfl rfl 1 (by decide) (hts _ q68) (fun _ h9 => h9) rfl dX2_setKey_110 ?_
      refine lv_iload_n hx hb dX2_setKey_113 rfl (lv_at hl 2 rfl) ?_
      refine lv_iconst (v := (nI 2)) hx hb dX2_setKey_114 (by decide) ?_
      refine lv_isub hx hb dX2_setKey_115 ?_
      refine z_top (y := (nI (16 + i - 2))) (pk_sub (by omega)) ?_
      refine z_ild hx hb hK hP 2 1 rfl rfl (v := ((sh_fill (sh_cp (sh_asm kf) wf 16) i) (16 + i - 2))) (16 + i - 2) rfl (by omega) (by decide) (rfl) dX2_setKey_116 ?_
      refine lv_bipush (v := (10 : Int32)) hx hb dX2_setKey_117 (by decide) ?_
      refine lv_iushr (v := (sh_us ((sh_fill (sh_cp (sh_asm kf) wf 16) i) (16 + i - 2)) (10 : Int32))) hx hb dX2_setKey_119 rfl ?_
      refine lv_ixor hx hb dX2_setKey_120 ?_
      refine z_top (y := (sh_s1 ((sh_fill (sh_cp (sh_asm kf) wf 16) i) (16 + i - 2)))) (rfl) ?_
      refine lv_aload_n hx hb dX2_setKey_121 rfl (lv_at hl 0 rfl) ?_
      refine va_get (D := D) (ci := 2) (v := .ref aw) (C := RX2) (T := TX2) (N := 2) hx hb hts in_X2 hown hK hP 0 rfl rfl 1 (by decide) (hts _ q68) (fun _ h9 => h9) rfl dX2_setKey_122 ?_
      refine lv_iload_n hx hb dX2_setKey_125 rfl (lv_at hl 2 rfl) ?_
      refine lv_bipush (v := (nI 7)) hx hb dX2_setKey_126 (by decide) ?_
      refine lv_isub hx hb dX2_setKey_128 ?_
      refine z_top (y := (nI (16 + i - 7))) (pk_sub (by omega)) ?_
      refine z_ild hx hb hK hP 2 1 rfl rfl (v := ((sh_fill (sh_cp (sh_asm kf) wf 16) i) (16 + i - 7))) (16 + i - 7) rfl (by omega) (by decide) (rfl) dX2_setKey_129 ?_
      refine lv_iadd hx hb dX2_setKey_130 ?_
      refine lv_aload_n hx hb dX2_setKey_131 rfl (lv_at hl 0 rfl) ?_
      refine va_get (D := D) (ci := 2) (v := .ref aw) (C := RX2) (T := TX2) (N := 2) hx hb hts in_X2 hown hK hP 0 rfl rfl 1 (by decide) (hts _ q68) (fun _ h9 => h9) rfl dX2_setKey_132 ?_
      refine lv_iload_n hx hb dX2_setKey_135 rfl (lv_at hl 2 rfl) ?_
      refine lv_bipush (v := (nI 15)) hx hb dX2_setKey_136 (by decide) ?_
      refine lv_isub hx hb dX2_setKey_138 ?_
      refine z_top (y := (nI (16 + i - 15))) (pk_sub (by omega)) ?_
      refine z_ild hx hb hK hP 2 1 rfl rfl (v := ((sh_fill (sh_cp (sh_asm kf) wf 16) i) (16 + i - 15))) (16 + i - 15) rfl (by omega) (by decide) (rfl) dX2_setKey_139 ?_
      refine lv_bipush (v := (7 : Int32)) hx hb dX2_setKey_140 (by decide) ?_
      refine lv_iushr (v := (sh_us ((sh_fill (sh_cp (sh_asm kf) wf 16) i) (16 + i - 15)) (7 : Int32))) hx hb dX2_setKey_142 rfl ?_
      refine lv_aload_n hx hb dX2_setKey_143 rfl (lv_at hl 0 rfl) ?_
      refine va_get (D := D) (ci := 2) (v := .ref aw) (C := RX2) (T := TX2) (N := 2) hx hb hts in_X2 hown hK hP 0 rfl rfl 1 (by decide) (hts _ q68) (fun _ h9 => h9) rfl dX2_setKey_144 ?_
      refine lv_iload_n hx hb dX2_setKey_147 rfl (lv_at hl 2 rfl) ?_
      refine lv_bipush (v := (nI 15)) hx hb dX2_setKey_148 (by decide) ?_
      refine lv_isub hx hb dX2_setKey_150 ?_
      refine z_top (y := (nI (16 + i - 15))) (pk_sub (by omega)) ?_
      refine z_ild hx hb hK hP 2 1 rfl rfl (v := ((sh_fill (sh_cp (sh_asm kf) wf 16) i) (16 + i - 15))) (16 + i - 15) rfl (by omega) (by decide) (rfl) dX2_setKey_151 ?_
      refine lv_bipush (v := (-7 : Int32)) hx hb dX2_setKey_152 (by decide) ?_
      refine lv_ishl hx hb dX2_setKey_154 ?_
      refine lv_ior hx hb dX2_setKey_155 ?_
      refine z_top (y := (sh_tr ((sh_fill (sh_cp (sh_asm kf) wf 16) i) (16 + i - 15)) (7 : Int32))) (sh_rot _ (by decide)) ?_
      refine lv_aload_n hx hb dX2_setKey_156 rfl (lv_at hl 0 rfl) ?_
      refine va_get (D := D) (ci := 2) (v := .ref aw) (C := RX2) (T := TX2) (N := 2) hx hb hts in_X2 hown hK hP 0 rfl rfl 1 (by decide) (hts _ q68) (fun _ h9 => h9) rfl dX2_setKey_157 ?_
      refine lv_iload_n hx hb dX2_setKey_160 rfl (lv_at hl 2 rfl) ?_
      refine lv_bipush (v := (nI 15)) hx hb dX2_setKey_161 (by decide) ?_
      refine lv_isub hx hb dX2_setKey_163 ?_
      refine z_top (y := (nI (16 + i - 15))) (pk_sub (by omega)) ?_
      refine z_ild hx hb hK hP 2 1 rfl rfl (v := ((sh_fill (sh_cp (sh_asm kf) wf 16) i) (16 + i - 15))) (16 + i - 15) rfl (by omega) (by decide) (rfl) dX2_setKey_164 ?_
      refine lv_bipush (v := (18 : Int32)) hx hb dX2_setKey_165 (by decide) ?_
      refine lv_iushr (v := (sh_us ((sh_fill (sh_cp (sh_asm kf) wf 16) i) (16 + i - 15)) (18 : Int32))) hx hb dX2_setKey_167 rfl ?_
      refine lv_aload_n hx hb dX2_setKey_168 rfl (lv_at hl 0 rfl) ?_
      refine va_get (D := D) (ci := 2) (v := .ref aw) (C := RX2) (T := TX2) (N := 2) hx hb hts in_X2 hown hK hP 0 rfl rfl 1 (by decide) (hts _ q68) (fun _ h9 => h9) rfl dX2_setKey_169 ?_
      refine lv_iload_n hx hb dX2_setKey_172 rfl (lv_at hl 2 rfl) ?_
      refine lv_bipush (v := (nI 15)) hx hb dX2_setKey_173 (by decide) ?_
      refine lv_isub hx hb dX2_setKey_175 ?_
      refine z_top (y := (nI (16 + i - 15))) (pk_sub (by omega)) ?_
      refine z_ild hx hb hK hP 2 1 rfl rfl (v := ((sh_fill (sh_cp (sh_asm kf) wf 16) i) (16 + i - 15))) (16 + i - 15) rfl (by omega) (by decide) (rfl) dX2_setKey_176 ?_
      refine lv_bipush (v := (-18 : Int32)) hx hb dX2_setKey_177 (by decide) ?_
      refine lv_ishl hx hb dX2_setKey_179 ?_
      refine lv_ior hx hb dX2_setKey_180 ?_
      refine z_top (y := (sh_tr ((sh_fill (sh_cp (sh_asm kf) wf 16) i) (16 + i - 15)) (18 : Int32))) (sh_rot _ (by decide)) ?_
      refine lv_ixor hx hb dX2_setKey_181 ?_
      refine lv_aload_n hx hb dX2_setKey_182 rfl (lv_at hl 0 rfl) ?_
      refine va_get (D := D) (ci := 2) (v := .ref aw) (C := RX2) (T := TX2) (N := 2) hx hb hts in_X2 hown hK hP 0 rfl rfl 1 (by decide) (hts _ q68) (fun _ h9 => h9) rfl dX2_setKey_183 ?_
      refine lv_iload_n hx hb dX2_setKey_186 rfl (lv_at hl 2 rfl) ?_
      refine lv_bipush (v := (nI 15)) hx hb dX2_setKey_187 (by decide) ?_
      refine lv_isub hx hb dX2_setKey_189 ?_
      refine z_top (y := (nI (16 + i - 15))) (pk_sub (by omega)) ?_
      refine z_ild hx hb hK hP 2 1 rfl rfl (v := ((sh_fill (sh_cp (sh_asm kf) wf 16) i) (16 + i - 15))) (16 + i - 15) rfl (by omega) (by decide) (rfl) dX2_setKey_190 ?_
      refine lv_iconst (v := (3 : Int32)) hx hb dX2_setKey_191 (by decide) ?_
      refine lv_iushr (v := (sh_us ((sh_fill (sh_cp (sh_asm kf) wf 16) i) (16 + i - 15)) (3 : Int32))) hx hb dX2_setKey_192 rfl ?_
      refine lv_ixor hx hb dX2_setKey_193 ?_
      refine z_top (y := (sh_s0 ((sh_fill (sh_cp (sh_asm kf) wf 16) i) (16 + i - 15)))) (rfl) ?_
      refine lv_iadd hx hb dX2_setKey_194 ?_
      refine lv_aload_n hx hb dX2_setKey_195 rfl (lv_at hl 0 rfl) ?_
      refine va_get (D := D) (ci := 2) (v := .ref aw) (C := RX2) (T := TX2) (N := 2) hx hb hts in_X2 hown hK hP 0 rfl rfl 1 (by decide) (hts _ q68) (fun _ h9 => h9) rfl dX2_setKey_196 ?_
      refine lv_iload_n hx hb dX2_setKey_199 rfl (lv_at hl 2 rfl) ?_
      refine lv_bipush (v := (nI 16)) hx hb dX2_setKey_200 (by decide) ?_
      refine lv_isub hx hb dX2_setKey_202 ?_
      refine z_top (y := (nI (16 + i - 16))) (pk_sub (by omega)) ?_
      refine z_ild hx hb hK hP 2 1 rfl rfl (v := ((sh_fill (sh_cp (sh_asm kf) wf 16) i) (16 + i - 16))) (16 + i - 16) rfl (by omega) (by decide) (rfl) dX2_setKey_203 ?_
      refine lv_iadd hx hb dX2_setKey_204 ?_
      refine z_ist (f' := (sh_fill (sh_cp (sh_asm kf) wf 16) (i + 1))) hx hb hK hP hD hS 2 1 rfl rfl (16 + i) rfl (by omega) (by decide) (rfl) dX2_setKey_205 (fun H locs hP hD hS => ?_)
      have hP : va_P D zcl [(h0, .inr (2, [.int fe, .ref aw])), (ak, zar dk 64 kf), (aw, zar dw 64 (sh_fill (sh_cp (sh_asm kf) wf 16) (i + 1)))] H := hP
      have hD : va_D A [(h0, .inr (2, [.int fe, .ref aw])), (ak, zar dk 64 kf), (aw, zar dw 64 (sh_fill (sh_cp (sh_asm kf) wf 16) (i + 1)))] := hD
      refine lv_iinc (v := (nI (16 + (i + 1)))) (lv' := [(2, .int (nI (16 + (i + 1)))), (0, .ref h0), (1, .ref ak)]) hx hb dX2_setKey_206 hl (k := 2) rfl (z_inc (16 + i)) (by decide) rfl (fun ls hl => ?_)
      refine lv_goto (tgt := 51) hx hb dX2_setKey_209 (by decide) ?_
      exact ih (i + 1) (by omega) _ _ ls hK (hP.sub [0, 1, 2] rfl) (hD.sub [0, 1, 2] (by decide) rfl) hS (lv_sub hl [1, 2, 0] rfl)
  exact loop 48 0 (by omega) _ _ ls hK (hP.sub [0, 1, 2] rfl) (hD.sub [0, 1, 2] (by decide) rfl) hS (lv_sub hl [1, 2, 0] rfl)
end
section
set_option maxHeartbeats 4000000 in
set_option maxRecDepth 100000 in
theorem zX2_encryptBlock (l : Launch) (D : va_G) (tk tc : Nat) (sz : Nat) (h0 aw ai ao : Nat) (dw di dt : ClassId) (fe : Int32) (wf nf tf : Nat → Int32) : Met l yX2_encryptBlock (ws_ yX2_encryptBlock cX2_encryptBlock 8 none) ({ frames := 1, cells := 1, slots := 8, locals := 25 }) (va_Pc [.ref h0, .ref ai, .int (nI (4 * 0)), .ref ao, .int (nI (4 * 0))] (zV tk tc D [(h0, .inr (2, [.int fe, .ref aw])), (aw, zar dw 64 wf), (ai, zar di 32 nf), (ao, zar dt 32 tf)] [(dw, .int), (di, .byte), (dt, .byte)] sz)) (va_Qv (fun _ : Unit => True) (fun _ t => zB D [(h0, .inr (2, [.int fe, .ref aw])), (aw, zar dw 64 wf), (ai, zar di 32 nf), (ao, zar dt 32 (sh_cp (sh_dis (sh_f8 (sh_enc sh_K wf (sh_x8 (sh_asm nf)) 64))) tf 32))] [(dw, .int), (di, .byte), (dt, .byte)] (va_A [(h0, .inr (2, [.int fe, .ref aw])), (aw, zar dw 64 wf), (ai, zar di 32 nf), (ao, zar dt 32 tf)] sz) t) (va_A [(h0, .inr (2, [.int fe, .ref aw])), (aw, zar dw 64 wf), (ai, zar di 32 nf), (ao, zar dt 32 tf)] sz)) 1 8 (va_A [(h0, .inr (2, [.int fe, .ref aw])), (aw, zar dw 64 wf), (ai, zar di 32 nf), (ao, zar dt 32 tf)] sz) := by
  refine Met.ofW (cc := cX2_encryptBlock) (maxL := 8) (ret := none) (by decide) rfl ?_
  intro p e s m args below meth c s₁ B hml hv
  obtain ⟨rfl, ⟨hsz, hP, hK, hD0⟩, hZ⟩ := hv
  have hx := B.exec
  have hb := B.bytes
  have hr := B.returns
  have hts := atoms_spec (ws := (ws_ yX2_encryptBlock cX2_encryptBlock 8 none)) B.pre
  have hts : ∀ w ∈ lw_all, w.before _ s = true := fun w h => hts w (List.mem_cons_of_mem _ h)
  have hown : s.vm.findClass RX2 = some m.cls := findClass_of_methodNamed B.named
  have hlocks := B.notSynchronized
  subst hsz
  have hD := hD0.self (sz := s.heap.size)
  generalize hAe : va_A [(h0, .inr (2, [.int fe, .ref aw])), (aw, zar dw 64 wf), (ai, zar di 32 nf), (ao, zar dt 32 tf)] s.heap.size = A at hD hZ ⊢
  have hA : ∀ q : Nat, s.heap.size ≤ q → A q := fun q h => by rw [← hAe]; exact Or.inr h
  have hS : va_S A s.heap s.heap [] := va_S.rf
  have hl := lv_entry ([.ref h0, .ref ai, .int (nI (4 * 0)), .ref ao, .int (nI (4 * 0))]) (n := 8) (Nat.le_of_ble_eq_true rfl)
  rw [lg_entry_eq]
  generalize (lg_sl ([.ref h0, .ref ai, .int (nI (4 * 0)), .ref ao, .int (nI (4 * 0))]) ++ List.replicate (8 - (lg_sl ([.ref h0, .ref ai, .int (nI (4 * 0)), .ref ao, .int (nI (4 * 0))])).length) Slot.unset).toArray = ls at hl ⊢
  have hl : lv_has ls 8 [(0, .ref h0), (1, .ref ai), (2, .int (nI (4 * 0))), (3, .ref ao), (4, .int (nI (4 * 0)))] := hl
  have hP : va_P D zcl [(h0, .inr (2, [.int fe, .ref aw])), (aw, zar dw 64 wf), (ai, zar di 32 nf), (ao, zar dt 32 tf)] s.heap := hP
  refine lv_bipush (v := (8 : Int32)) hx hb dX2_encryptBlock_0 (by decide) ?_
  refine va_newa (atype := .int) (ty := .int) (N' := 8) (a0 := (8, .inl sh_z)) hx hb (hts _ q210) rfl hK hP hD hS hA (fun _ => rfl) (by decide) (by decide) (by decide) (Nat.le_of_ble_eq_true rfl) (Nat.le_of_ble_eq_true rfl) dX2_encryptBlock_2 (fun ab db H hK hP hD hS => ?_)
  have hK : va_K D zcl [(dw, .int), (di, .byte), (dt, .byte), (db, .int)] s := hK
  have hP : va_P D zcl [(h0, .inr (2, [.int fe, .ref aw])), (aw, zar dw 64 wf), (ai, zar di 32 nf), (ao, zar dt 32 tf), (ab, zar db 8 sh_z)] H := hP
  have hD : va_D A [(h0, .inr (2, [.int fe, .ref aw])), (aw, zar dw 64 wf), (ai, zar di 32 nf), (ao, zar dt 32 tf), (ab, zar db 8 sh_z)] := hD
  refine W.widen (k := 1) (n := 8) (Nat.le_of_ble_eq_true rfl) (Nat.le_of_ble_eq_true rfl) ?_
  refine lv_astore (lv' := [(5, .ref ab), (0, .ref h0), (1, .ref ai), (2, .int (nI (4 * 0))), (3, .ref ao), (4, .int (nI (4 * 0)))]) hx hb dX2_encryptBlock_4 hl (by decide) rfl (fun ls hl => ?_)
  refine lv_aload_n hx hb dX2_encryptBlock_6 rfl (lv_at hl 1 rfl) ?_
  refine lv_aload_n hx hb dX2_encryptBlock_7 rfl (lv_at hl 2 rfl) ?_
  refine lv_aload hx hb dX2_encryptBlock_8 (lv_at hl 0 rfl) ?_
  refine lv_iload_n hx hb dX2_encryptBlock_10 rfl (lv_at hl 3 rfl) ?_
  refine lv_iconst (v := (nI 0)) hx hb dX2_encryptBlock_11 (by decide) ?_
  have hPc := hP.sub (ws' := [(h0, .inr (2, [.int fe, .ref aw])), (ai, zar di 32 nf), (ab, zar db 8 sh_z)]) [0, 2, 4] rfl
  have hDc := hD.sub (ws' := [(h0, .inr (2, [.int fe, .ref aw])), (ai, zar di 32 nf), (ab, zar db 8 sh_z)]) [0, 2, 4] (by decide) rfl
  have hKc := hK.sub (tys' := [(di, .byte), (db, .int)]) [1, 3] rfl
  have hFc := va_free (wc := [(h0, .inr (2, [.int fe, .ref aw])), (ai, zar di 32 nf), (ab, zar db 8 sh_z)]) hD hS hA [0, 2, 4] rfl
  refine va_callv (va_runV (As := [.ref ai, .ref ab, .int (nI (4 * 0)), .int (nI 0)]) (rest := []) ⟨hx, hb, hml, hown, hts⟩ (zX2_byteBlockToInts l D _ h0 ai ab aw di db fe nf sh_z) (cwV 4 hts (lw_V q252 q254 qs4 q12 q255) rfl rfl rfl (by decide +kernel) ⟨(Nat.le_of_ble_eq_true rfl), (Nat.le_of_ble_eq_true rfl)⟩) (z_preV [.ref ai, .ref ab, .int (nI (4 * 0)), .int (nI 0)] hPc hKc hDc (va_recv hKc hPc (ci := 2) (q0 := 0) rfl rfl)) rfl rfl hl.1 rfl (lv_room (Nat.le_of_ble_eq_true rfl)) dX2_encryptBlock_12 ⟨(Nat.le_of_ble_eq_true rfl), (Nat.le_of_ble_eq_true rfl)⟩) hS (fun q _ h => hFc q h) hFc (fun u t H1 locs ht hvm hw_3 hB hz1 hk1 hS => ?_)
  obtain ⟨hP1, hK1, hD1⟩ := hB
  rw [ht] at hP1
  have hK1 := va_K.moved hvm.symm hK1
  obtain ⟨hP, hD⟩ := va_join (wr := [(aw, zar dw 64 wf), (ao, zar dt 32 tf)]) (w1 := [(h0, .inr (2, [.int fe, .ref aw])), (ai, zar di 32 nf), (ab, zar db 8 (sh_cp (sh_asm nf) sh_z 8))]) hP hD [0, 2, 4] [1, 3] rfl rfl (by decide) (by decide) hk1 hFc hP1 hD1
  generalize H1 = H at hP hS ⊢
  have hP := hP.sub (ws' := [(h0, .inr (2, [.int fe, .ref aw])), (aw, zar dw 64 wf), (ai, zar di 32 nf), (ao, zar dt 32 tf), (ab, zar db 8 (sh_cp (sh_asm nf) sh_z 8))]) [2, 0, 3, 1, 4] rfl
  have hD := hD.sub (ws' := [(h0, .inr (2, [.int fe, .ref aw])), (aw, zar dw 64 wf), (ai, zar di 32 nf), (ao, zar dt 32 tf), (ab, zar db 8 (sh_cp (sh_asm nf) sh_z 8))]) [2, 0, 3, 1, 4] (by decide) rfl
  rw [sh_cp8] at hP hD
  refine lv_iconst (v := (nI 0)) hx hb dX2_encryptBlock_15 (by decide) ?_
  refine lv_istore (lv' := [(6, .int (nI 0)), (5, .ref ab), (0, .ref h0), (1, .ref ai), (2, .int (nI (4 * 0))), (3, .ref ao), (4, .int (nI (4 * 0)))]) hx hb dX2_encryptBlock_16 hl (by decide) rfl (fun ls hl => ?_)
  have loop : ∀ (n i : Nat), i + n = 64 → ∀ (x1 x2 x3 x4 x5 x6 x7 x8 : Int32), (x1, x2, x3, x4, x5, x6, x7, x8) = sh_enc sh_K wf (sh_x8 (sh_asm nf)) i → ∀ (H : Heap) (locs : List Loc) (ls : Array Slot), va_K D zcl [(dw, .int), (di, .byte), (dt, .byte), (db, .int)] s → va_P D zcl [(h0, .inr (2, [.int fe, .ref aw])), (aw, zar dw 64 wf), (ai, zar di 32 nf), (ao, zar dt 32 tf), (ab, zar db 8 (sh_f8 (x1, x2, x3, x4, x5, x6, x7, x8)))] H → va_D A [(h0, .inr (2, [.int fe, .ref aw])), (aw, zar dw 64 wf), (ai, zar di 32 nf), (ao, zar dt 32 tf), (ab, zar db 8 (sh_f8 (x1, x2, x3, x4, x5, x6, x7, x8)))] → va_S A s.heap H locs → lv_has ls 8 [(0, .ref h0), (1, .ref ai), (2, .int (nI (4 * 0))), (3, .ref ao), (4, .int (nI (4 * 0))), (5, .ref ab), (6, .int (nI i))] → W p l e (headSpec (ws_ yX2_encryptBlock cX2_encryptBlock 8 none) ({ frames := 1, cells := 1, slots := 8, locals := 25 })).room s m ([.ref h0, .ref ai, .int (nI (4 * 0)), .ref ao, .int (nI (4 * 0))] : List Value).toArray below meth c H locs 1 8 (MQ below (va_Qv (fun _ : Unit => True) (fun _ t => zB D [(h0, .inr (2, [.int fe, .ref aw])), (aw, zar dw 64 wf), (ai, zar di 32 nf), (ao, zar dt 32 (sh_cp (sh_dis (sh_f8 (sh_enc sh_K wf (sh_x8 (sh_asm nf)) 64))) tf 32))] [(dw, .int), (di, .byte), (dt, .byte)] A t) A) ([.ref h0, .ref ai, .int (nI (4 * 0)), .ref ao, .int (nI (4 * 0))] : List Value).toArray s 1 8 A) (F0 m 18 ls []) := by
    intro n
    induction n with
    | zero =>
      intro i hi x1 x2 x3 x4 x5 x6 x7 x8 hE H locs ls hK hP hD hS hl
      obtain rfl : i = 64 := by omega
      refine lv_iload hx hb dX2_encryptBlock_18 (lv_at hl 6 rfl) ?_
      refine lv_bipush (v := (64 : Int32)) hx hb dX2_encryptBlock_20 (by decide) ?_
      refine z_ge_t (tgt := 269) hx hb dX2_encryptBlock_22 (by decide) (nI_le (a := 64) (b := 64) (by omega) (by omega)) ?_
      refine lv_aload_n hx hb dX2_encryptBlock_269 rfl (lv_at hl 0 rfl) ?_
      refine lv_aload hx hb dX2_encryptBlock_270 (lv_at hl 5 rfl) ?_
      refine lv_aload_n hx hb dX2_encryptBlock_272 rfl (lv_at hl 3 rfl) ?_
      refine lv_iload hx hb dX2_encryptBlock_273 (lv_at hl 4 rfl) ?_
      have hPc := hP.sub (ws' := [(h0, .inr (2, [.int fe, .ref aw])), (ab, zar db 8 (sh_f8 (x1, x2, x3, x4, x5, x6, x7, x8))), (ao, zar dt 32 tf)]) [0, 4, 3] rfl
      have hDc := hD.sub (ws' := [(h0, .inr (2, [.int fe, .ref aw])), (ab, zar db 8 (sh_f8 (x1, x2, x3, x4, x5, x6, x7, x8))), (ao, zar dt 32 tf)]) [0, 4, 3] (by decide) rfl
      have hKc := hK.sub (tys' := [(db, .int), (dt, .byte)]) [3, 2] rfl
      have hFc := va_free (wc := [(h0, .inr (2, [.int fe, .ref aw])), (ab, zar db 8 (sh_f8 (x1, x2, x3, x4, x5, x6, x7, x8))), (ao, zar dt 32 tf)]) hD hS hA [0, 4, 3] rfl
      refine va_callv (va_runV (As := [.ref ab, .ref ao, .int (nI (4 * 0))]) (rest := []) ⟨hx, hb, hml, hown, hts⟩ (zX2_ints2bytes l D _ h0 ab ao aw db dt fe (sh_f8 (x1, x2, x3, x4, x5, x6, x7, x8)) tf) (cwV 3 hts (lw_V q258 q260 qs5 q12 q261) rfl rfl rfl (by decide +kernel) ⟨(Nat.le_of_ble_eq_true rfl), (Nat.le_of_ble_eq_true rfl)⟩) (z_preV [.ref ab, .ref ao, .int (nI (4 * 0))] hPc hKc hDc (va_recv hKc hPc (ci := 2) (q0 := 0) rfl rfl)) rfl rfl hl.1 rfl (lv_room (Nat.le_of_ble_eq_true rfl)) dX2_encryptBlock_275 ⟨(Nat.le_of_ble_eq_true rfl), (Nat.le_of_ble_eq_true rfl)⟩) hS (fun q _ h => hFc q h) hFc (fun u t H1 locs ht hvm hw_4 hB hz1 hk1 hS => ?_)
      obtain ⟨hP1, hK1, hD1⟩ := hB
      rw [ht] at hP1
      have hK1 := va_K.moved hvm.symm hK1
      obtain ⟨hP, hD⟩ := va_join (wr := [(aw, zar dw 64 wf), (ai, zar di 32 nf)]) (w1 := [(h0, .inr (2, [.int fe, .ref aw])), (ab, zar db 8 (sh_f8 (x1, x2, x3, x4, x5, x6, x7, x8))), (ao, zar dt 32 (sh_cp (sh_dis (sh_f8 (x1, x2, x3, x4, x5, x6, x7, x8))) tf 32))]) hP hD [0, 4, 3] [1, 2] rfl rfl (by decide) (by decide) hk1 hFc hP1 hD1
      generalize H1 = H at hP hS ⊢
      have hP := hP.sub (ws' := [(h0, .inr (2, [.int fe, .ref aw])), (aw, zar dw 64 wf), (ai, zar di 32 nf), (ao, zar dt 32 (sh_cp (sh_dis (sh_f8 (x1, x2, x3, x4, x5, x6, x7, x8))) tf 32)), (ab, zar db 8 (sh_f8 (x1, x2, x3, x4, x5, x6, x7, x8)))]) [2, 0, 1, 4, 3] rfl
      have hD := hD.sub (ws' := [(h0, .inr (2, [.int fe, .ref aw])), (aw, zar dw 64 wf), (ai, zar di 32 nf), (ao, zar dt 32 (sh_cp (sh_dis (sh_f8 (x1, x2, x3, x4, x5, x6, x7, x8))) tf 32)), (ab, zar db 8 (sh_f8 (x1, x2, x3, x4, x5, x6, x7, x8)))]) [2, 0, 1, 4, 3] (by decide) rfl
      rw [hE] at hP hD
      have hP9 := hP.sub (ws' := [(h0, .inr (2, [.int fe, .ref aw])), (aw, zar dw 64 wf), (ai, zar di 32 nf), (ao, zar dt 32 (sh_cp (sh_dis (sh_f8 (sh_enc sh_K wf (sh_x8 (sh_asm nf)) 64))) tf 32))]) [0, 1, 2, 3] rfl
      have hD9 := hD.sub (ws' := [(h0, .inr (2, [.int fe, .ref aw])), (aw, zar dw 64 wf), (ai, zar di 32 nf), (ao, zar dt 32 (sh_cp (sh_dis (sh_f8 (sh_enc sh_K wf (sh_x8 (sh_asm nf)) 64))) tf 32))]) [0, 1, 2, 3] (by decide) rfl
      have hK9 := hK.sub (tys' := [(dw, .int), (di, .byte), (dt, .byte)]) [0, 1, 2] rfl
      refine W.widen (k := 1) (n := 8) (Nat.le_of_ble_eq_true rfl) (Nat.le_of_ble_eq_true rfl) ?_
      exact W.vret hx hb hr (fun t ht hW => ⟨⟨(), rfl, trivial, by rw [ht]; exact hP9, va_K.moved hW.alike hK9, hD9⟩, hS.F ht⟩) hS.2.2 dX2_encryptBlock_278
    | succ n ih =>
      intro i hi x1 x2 x3 x4 x5 x6 x7 x8 hE H locs ls hK hP hD hS hl
      refine lv_iload hx hb dX2_encryptBlock_18 (lv_at hl 6 rfl) ?_
      refine lv_bipush (v := (64 : Int32)) hx hb dX2_encryptBlock_20 (by decide) ?_
      refine z_ge_f (tgt := 269) hx hb dX2_encryptBlock_22 (by decide) (nI_ge (a := i) (b := 64) (by omega) (by omega)) ?_
      refine lv_aload hx hb dX2_encryptBlock_25 (lv_at hl 5 rfl) ?_
      refine lv_iconst (v := (4 : Int32)) hx hb dX2_encryptBlock_27 (by decide) ?_
      refine z_ild hx hb hK hP 4 3 rfl rfl (v := x5) 4 (by decide) (by omega) (by decide) (rfl) dX2_encryptBlock_28 ?_
      refine lv_bipush (v := (6 : Int32)) hx hb dX2_encryptBlock_29 (by decide) ?_
      refine lv_iushr (v := (sh_us x5 (6 : Int32))) hx hb dX2_encryptBlock_31 rfl ?_
      refine lv_aload hx hb dX2_encryptBlock_32 (lv_at hl 5 rfl) ?_
      refine lv_iconst (v := (4 : Int32)) hx hb dX2_encryptBlock_34 (by decide) ?_
      refine z_ild hx hb hK hP 4 3 rfl rfl (v := x5) 4 (by decide) (by omega) (by decide) (rfl) dX2_encryptBlock_35 ?_
      refine lv_bipush (v := (-6 : Int32)) hx hb dX2_encryptBlock_36 (by decide) ?_
      refine lv_ishl hx hb dX2_encryptBlock_38 ?_
      refine lv_ior hx hb dX2_encryptBlock_39 ?_
      refine z_top (y := (sh_tr x5 (6 : Int32))) (sh_rot _ (by decide)) ?_
      refine lv_aload hx hb dX2_encryptBlock_40 (lv_at hl 5 rfl) ?_
      refine lv_iconst (v := (4 : Int32)) hx hb dX2_encryptBlock_42 (by decide) ?_
      refine z_ild hx hb hK hP 4 3 rfl rfl (v := x5) 4 (by decide) (by omega) (by decide) (rfl) dX2_encryptBlock_43 ?_
      refine lv_bipush (v := (11 : Int32)) hx hb dX2_encryptBlock_44 (by decide) ?_
      refine lv_iushr (v := (sh_us x5 (11 : Int32))) hx hb dX2_encryptBlock_46 rfl ?_
      refine lv_aload hx hb dX2_encryptBlock_47 (lv_at hl 5 rfl) ?_
      refine lv_iconst (v := (4 : Int32)) hx hb dX2_encryptBlock_49 (by decide) ?_
      refine z_ild hx hb hK hP 4 3 rfl rfl (v := x5) 4 (by decide) (by omega) (by decide) (rfl) dX2_encryptBlock_50 ?_
      refine lv_bipush (v := (-11 : Int32)) hx hb dX2_encryptBlock_51 (by decide) ?_
      refine lv_ishl hx hb dX2_encryptBlock_53 ?_
      refine lv_ior hx hb dX2_encryptBlock_54 ?_
      refine z_top (y := (sh_tr x5 (11 : Int32))) (sh_rot _ (by decide)) ?_
      refine lv_ixor hx hb dX2_encryptBlock_55 ?_
      refine lv_aload hx hb dX2_encryptBlock_56 (lv_at hl 5 rfl) ?_
      refine lv_iconst (v := (4 : Int32)) hx hb dX2_encryptBlock_58 (by decide) ?_
      refine z_ild hx hb hK hP 4 3 rfl rfl (v := x5) 4 (by decide) (by omega) (by decide) (rfl) dX2_encryptBlock_59 ?_
      refine lv_bipush (v := (25 : Int32)) hx hb dX2_encryptBlock_60 (by decide) ?_
      refine lv_iushr (v := (sh_us x5 (25 : Int32))) hx hb dX2_encryptBlock_62 rfl ?_
      refine lv_aload hx hb dX2_encryptBlock_63 (lv_at hl 5 rfl) ?_
      refine lv_iconst (v := (4 : Int32)) hx hb dX2_encryptBlock_65 (by decide) ?_
      refine z_ild hx hb hK hP 4 3 rfl rfl (v := x5) 4 (by decide) (by omega) (by decide) (rfl) dX2_encryptBlock_66 ?_
      refine lv_bipush (v := (-25 : Int32)) hx hb dX2_encryptBlock_67 (by decide) ?_
      refine lv_ishl hx hb dX2_encryptBlock_69 ?_
      refine lv_ior hx hb dX2_encryptBlock_70 ?_
      refine z_top (y := (sh_tr x5 (25 : Int32))) (sh_rot _ (by decide)) ?_
      refine lv_ixor hx hb dX2_encryptBlock_71 ?_
      refine z_top (y := (sh_S1 x5)) (rfl) ?_
      refine lv_aload hx hb dX2_encryptBlock_72 (lv_at hl 5 rfl) ?_
      refine lv_iconst (v := (4 : Int32)) hx hb dX2_encryptBlock_74 (by decide) ?_
      refine z_ild hx hb hK hP 4 3 rfl rfl (v := x5) 4 (by decide) (by omega) (by decide) (rfl) dX2_encryptBlock_75 ?_
      refine lv_aload hx hb dX2_encryptBlock_76 (lv_at hl 5 rfl) ?_
      refine lv_iconst (v := (5 : Int32)) hx hb dX2_encryptBlock_78 (by decide) ?_
      refine z_ild hx hb hK hP 4 3 rfl rfl (v := x6) 5 (by decide) (by omega) (by decide) (rfl) dX2_encryptBlock_79 ?_
      refine lv_iand hx hb dX2_encryptBlock_80 ?_
      refine lv_aload hx hb dX2_encryptBlock_81 (lv_at hl 5 rfl) ?_
      refine lv_iconst (v := (4 : Int32)) hx hb dX2_encryptBlock_83 (by decide) ?_
      refine z_ild hx hb hK hP 4 3 rfl rfl (v := x5) 4 (by decide) (by omega) (by decide) (rfl) dX2_encryptBlock_84 ?_
      refine lv_iconst (v := (-1 : Int32)) hx hb dX2_encryptBlock_85 (by decide) ?_
      refine lv_ixor hx hb dX2_encryptBlock_86 ?_
      refine lv_aload hx hb dX2_encryptBlock_87 (lv_at hl 5 rfl) ?_
      refine lv_bipush (v := (6 : Int32)) hx hb dX2_encryptBlock_89 (by decide) ?_
      refine z_ild hx hb hK hP 4 3 rfl rfl (v := x7) 6 (by decide) (by omega) (by decide) (rfl) dX2_encryptBlock_91 ?_
      refine lv_iand hx hb dX2_encryptBlock_92 ?_
      refine lv_ixor hx hb dX2_encryptBlock_93 ?_
      refine z_top (y := (sh_ch x5 x6 x7)) (rfl) ?_
      refine lv_iadd hx hb dX2_encryptBlock_94 ?_
      refine lv_aload hx hb dX2_encryptBlock_95 (lv_at hl 5 rfl) ?_
      refine lv_bipush (v := (7 : Int32)) hx hb dX2_encryptBlock_97 (by decide) ?_
      refine z_ild hx hb hK hP 4 3 rfl rfl (v := x8) 7 (by decide) (by omega) (by decide) (rfl) dX2_encryptBlock_99 ?_
      refine lv_iadd hx hb dX2_encryptBlock_100 ?_
      refine va_gets hx hb hZ.1.1 hS hown (hts _ q256) (fun _ h9 => h9) dX2_encryptBlock_101 ?_
      refine lv_iload hx hb dX2_encryptBlock_104 (lv_at hl 6 rfl) ?_
      refine z_tld hx hb hZ.1.2 hS i rfl (by omega) dX2_encryptBlock_106 ?_
      refine lv_iadd hx hb dX2_encryptBlock_107 ?_
      refine lv_aload_n hx hb dX2_encryptBlock_108 rfl (lv_at hl 0 rfl) ?_
      refine va_get (D := D) (ci := 2) (v := .ref aw) (C := RX2) (T := TX2) (N := 2) hx hb hts in_X2 hown hK hP 0 rfl rfl 1 (by decide) (hts _ q68) (fun _ h9 => h9) rfl dX2_encryptBlock_109 ?_
      refine lv_iload hx hb dX2_encryptBlock_112 (lv_at hl 6 rfl) ?_
      refine z_ild hx hb hK hP 1 0 rfl rfl (v := (wf i)) i rfl (by omega) (by decide) (rfl) dX2_encryptBlock_114 ?_
      refine lv_iadd hx hb dX2_encryptBlock_115 ?_
      refine z_top (y := (sh_t1 (sh_K i) (wf i) x5 x6 x7 x8)) (sh_addr _ _ _ _ _) ?_
      refine lv_istore (lv' := [(7, .int (sh_t1 (sh_K i) (wf i) x5 x6 x7 x8)), (0, .ref h0), (1, .ref ai), (2, .int (nI (4 * 0))), (3, .ref ao), (4, .int (nI (4 * 0))), (5, .ref ab), (6, .int (nI i))]) hx hb dX2_encryptBlock_116 hl (by decide) rfl (fun ls hl => ?_)
      refine lv_aload hx hb dX2_encryptBlock_118 (lv_at hl 6 rfl) ?_
      refine lv_bipush (v := (7 : Int32)) hx hb dX2_encryptBlock_120 (by decide) ?_
      refine lv_aload hx hb dX2_encryptBlock_122 (lv_at hl 6 rfl) ?_
      refine lv_bipush (v := (6 : Int32)) hx hb dX2_encryptBlock_124 (by decide) ?_
      refine z_ild hx hb hK hP 4 3 rfl rfl (v := x7) 6 (by decide) (by omega) (by decide) (rfl) dX2_encryptBlock_126 ?_
      refine z_ist (f' := (sh_f8 (x1, x2, x3, x4, x5, x6, x7, x7))) hx hb hK hP hD hS 4 3 rfl rfl 7 (by decide) (by omega) (by decide) (sh_u7 _ _ _ _ _ _ _ _ _) dX2_encryptBlock_127 (fun H locs hP hD hS => ?_)
      have hP : va_P D zcl [(h0, .inr (2, [.int fe, .ref aw])), (aw, zar dw 64 wf), (ai, zar di 32 nf), (ao, zar dt 32 tf), (ab, zar db 8 (sh_f8 (x1, x2, x3, x4, x5, x6, x7, x7)))] H := hP
      have hD : va_D A [(h0, .inr (2, [.int fe, .ref aw])), (aw, zar dw 64 wf), (ai, zar di 32 nf), (ao, zar dt 32 tf), (ab, zar db 8 (sh_f8 (x1, x2, x3, x4, x5, x6, x7, x7)))] := hD
      refine lv_aload hx hb dX2_encryptBlock_128 (lv_at hl 6 rfl) ?_
      refine lv_bipush (v := (6 : Int32)) hx hb dX2_encryptBlock_130 (by decide) ?_
      refine lv_aload hx hb dX2_encryptBlock_132 (lv_at hl 6 rfl) ?_
      refine lv_iconst (v := (5 : Int32)) hx hb dX2_encryptBlock_134 (by decide) ?_
      refine z_ild hx hb hK hP 4 3 rfl rfl (v := x6) 5 (by decide) (by omega) (by decide) (rfl) dX2_encryptBlock_135 ?_
      refine z_ist (f' := (sh_f8 (x1, x2, x3, x4, x5, x6, x6, x7))) hx hb hK hP hD hS 4 3 rfl rfl 6 (by decide) (by omega) (by decide) (sh_u6 _ _ _ _ _ _ _ _ _) dX2_encryptBlock_136 (fun H locs hP hD hS => ?_)
      have hP : va_P D zcl [(h0, .inr (2, [.int fe, .ref aw])), (aw, zar dw 64 wf), (ai, zar di 32 nf), (ao, zar dt 32 tf), (ab, zar db 8 (sh_f8 (x1, x2, x3, x4, x5, x6, x6, x7)))] H := hP
      have hD : va_D A [(h0, .inr (2, [.int fe, .ref aw])), (aw, zar dw 64 wf), (ai, zar di 32 nf), (ao, zar dt 32 tf), (ab, zar db 8 (sh_f8 (x1, x2, x3, x4, x5, x6, x6, x7)))] := hD
      refine lv_aload hx hb dX2_encryptBlock_137 (lv_at hl 6 rfl) ?_
      refine lv_iconst (v := (5 : Int32)) hx hb dX2_encryptBlock_139 (by decide) ?_
      refine lv_aload hx hb dX2_encryptBlock_140 (lv_at hl 6 rfl) ?_
      refine lv_iconst (v := (4 : Int32)) hx hb dX2_encryptBlock_142 (by decide) ?_
      refine z_ild hx hb hK hP 4 3 rfl rfl (v := x5) 4 (by decide) (by omega) (by decide) (rfl) dX2_encryptBlock_143 ?_
      refine z_ist (f' := (sh_f8 (x1, x2, x3, x4, x5, x5, x6, x7))) hx hb hK hP hD hS 4 3 rfl rfl 5 (by decide) (by omega) (by decide) (sh_u5 _ _ _ _ _ _ _ _ _) dX2_encryptBlock_144 (fun H locs hP hD hS => ?_)
      have hP : va_P D zcl [(h0, .inr (2, [.int fe, .ref aw])), (aw, zar dw 64 wf), (ai, zar di 32 nf), (ao, zar dt 32 tf), (ab, zar db 8 (sh_f8 (x1, x2, x3, x4, x5, x5, x6, x7)))] H := hP
      have hD : va_D A [(h0, .inr (2, [.int fe, .ref aw])), (aw, zar dw 64 wf), (ai, zar di 32 nf), (ao, zar dt 32 tf), (ab, zar db 8 (sh_f8 (x1, x2, x3, x4, x5, x5, x6, x7)))] := hD
      refine lv_aload hx hb dX2_encryptBlock_145 (lv_at hl 6 rfl) ?_
      refine lv_iconst (v := (4 : Int32)) hx hb dX2_encryptBlock_147 (by decide) ?_
      refine lv_aload hx hb dX2_encryptBlock_148 (lv_at hl 6 rfl) ?_
      refine lv_iconst (v := (3 : Int32)) hx hb dX2_encryptBlock_150 (by decide) ?_
      refine z_ild hx hb hK hP 4 3 rfl rfl (v := x4) 3 (by decide) (by omega) (by decide) (rfl) dX2_encryptBlock_151 ?_
      refine lv_iload hx hb dX2_encryptBlock_152 (lv_at hl 0 rfl) ?_
      refine lv_iadd hx hb dX2_encryptBlock_154 ?_
      refine z_ist (f' := (sh_f8 (x1, x2, x3, x4, (x4 + (sh_t1 (sh_K i) (wf i) x5 x6 x7 x8)), x5, x6, x7))) hx hb hK hP hD hS 4 3 rfl rfl 4 (by decide) (by omega) (by decide) (sh_u4 _ _ _ _ _ _ _ _ _) dX2_encryptBlock_155 (fun H locs hP hD hS => ?_)
      have hP : va_P D zcl [(h0, .inr (2, [.int fe, .ref aw])), (aw, zar dw 64 wf), (ai, zar di 32 nf), (ao, zar dt 32 tf), (ab, zar db 8 (sh_f8 (x1, x2, x3, x4, (x4 + (sh_t1 (sh_K i) (wf i) x5 x6 x7 x8)), x5, x6, x7)))] H := hP
      have hD : va_D A [(h0, .inr (2, [.int fe, .ref aw])), (aw, zar dw 64 wf), (ai, zar di 32 nf), (ao, zar dt 32 tf), (ab, zar db 8 (sh_f8 (x1, x2, x3, x4, (x4 + (sh_t1 (sh_K i) (wf i) x5 x6 x7 x8)), x5, x6, x7)))] := hD
      refine lv_aload hx hb dX2_encryptBlock_156 (lv_at hl 6 rfl) ?_
      refine lv_iconst (v := (3 : Int32)) hx hb dX2_encryptBlock_158 (by decide) ?_
      refine lv_aload hx hb dX2_encryptBlock_159 (lv_at hl 6 rfl) ?_
      refine lv_iconst (v := (2 : Int32)) hx hb dX2_encryptBlock_161 (by decide) ?_
      refine z_ild hx hb hK hP 4 3 rfl rfl (v := x3) 2 (by decide) (by omega) (by decide) (rfl) dX2_encryptBlock_162 ?_
      refine z_ist (f' := (sh_f8 (x1, x2, x3, x3, (x4 + (sh_t1 (sh_K i) (wf i) x5 x6 x7 x8)), x5, x6, x7))) hx hb hK hP hD hS 4 3 rfl rfl 3 (by decide) (by omega) (by decide) (sh_u3 _ _ _ _ _ _ _ _ _) dX2_encryptBlock_163 (fun H locs hP hD hS => ?_)
      have hP : va_P D zcl [(h0, .inr (2, [.int fe, .ref aw])), (aw, zar dw 64 wf), (ai, zar di 32 nf), (ao, zar dt 32 tf), (ab, zar db 8 (sh_f8 (x1, x2, x3, x3, (x4 + (sh_t1 (sh_K i) (wf i) x5 x6 x7 x8)), x5, x6, x7)))] H := hP
      have hD : va_D A [(h0, .inr (2, [.int fe, .ref aw])), (aw, zar dw 64 wf), (ai, zar di 32 nf), (ao, zar dt 32 tf), (ab, zar db 8 (sh_f8 (x1, x2, x3, x3, (x4 + (sh_t1 (sh_K i) (wf i) x5 x6 x7 x8)), x5, x6, x7)))] := hD
      refine lv_aload hx hb dX2_encryptBlock_164 (lv_at hl 6 rfl) ?_
      refine lv_iconst (v := (2 : Int32)) hx hb dX2_encryptBlock_166 (by decide) ?_
      refine lv_aload hx hb dX2_encryptBlock_167 (lv_at hl 6 rfl) ?_
      refine lv_iconst (v := (1 : Int32)) hx hb dX2_encryptBlock_169 (by decide) ?_
      refine z_ild hx hb hK hP 4 3 rfl rfl (v := x2) 1 (by decide) (by omega) (by decide) (rfl) dX2_encryptBlock_170 ?_
      refine z_ist (f' := (sh_f8 (x1, x2, x2, x3, (x4 + (sh_t1 (sh_K i) (wf i) x5 x6 x7 x8)), x5, x6, x7))) hx hb hK hP hD hS 4 3 rfl rfl 2 (by decide) (by omega) (by decide) (sh_u2 _ _ _ _ _ _ _ _ _) dX2_encryptBlock_171 (fun H locs hP hD hS => ?_)
      have hP : va_P D zcl [(h0, .inr (2, [.int fe, .ref aw])), (aw, zar dw 64 wf), (ai, zar di 32 nf), (ao, zar dt 32 tf), (ab, zar db 8 (sh_f8 (x1, x2, x2, x3, (x4 + (sh_t1 (sh_K i) (wf i) x5 x6 x7 x8)), x5, x6, x7)))] H := hP
      have hD : va_D A [(h0, .inr (2, [.int fe, .ref aw])), (aw, zar dw 64 wf), (ai, zar di 32 nf), (ao, zar dt 32 tf), (ab, zar db 8 (sh_f8 (x1, x2, x2, x3, (x4 + (sh_t1 (sh_K i) (wf i) x5 x6 x7 x8)), x5, x6, x7)))] := hD
      refine lv_aload hx hb dX2_encryptBlock_172 (lv_at hl 6 rfl) ?_
      refine lv_iconst (v := (1 : Int32)) hx hb dX2_encryptBlock_174 (by decide) ?_
      refine lv_aload hx hb dX2_encryptBlock_175 (lv_at hl 6 rfl) ?_
      refine lv_iconst (v := (0 : Int32)) hx hb dX2_encryptBlock_177 (by decide) ?_
      refine z_ild hx hb hK hP 4 3 rfl rfl (v := x1) 0 (by decide) (by omega) (by decide) (rfl) dX2_encryptBlock_178 ?_
      refine z_ist (f' := (sh_f8 (x1, x1, x2, x3, (x4 + (sh_t1 (sh_K i) (wf i) x5 x6 x7 x8)), x5, x6, x7))) hx hb hK hP hD hS 4 3 rfl rfl 1 (by decide) (by omega) (by decide) (sh_u1 _ _ _ _ _ _ _ _ _) dX2_encryptBlock_179 (fun H locs hP hD hS => ?_)
      have hP : va_P D zcl [(h0, .inr (2, [.int fe, .ref aw])), (aw, zar dw 64 wf), (ai, zar di 32 nf), (ao, zar dt 32 tf), (ab, zar db 8 (sh_f8 (x1, x1, x2, x3, (x4 + (sh_t1 (sh_K i) (wf i) x5 x6 x7 x8)), x5, x6, x7)))] H := hP
      have hD : va_D A [(h0, .inr (2, [.int fe, .ref aw])), (aw, zar dw 64 wf), (ai, zar di 32 nf), (ao, zar dt 32 tf), (ab, zar db 8 (sh_f8 (x1, x1, x2, x3, (x4 + (sh_t1 (sh_K i) (wf i) x5 x6 x7 x8)), x5, x6, x7)))] := hD
      refine lv_aload hx hb dX2_encryptBlock_180 (lv_at hl 6 rfl) ?_
      refine lv_iconst (v := (0 : Int32)) hx hb dX2_encryptBlock_182 (by decide) ?_
      refine lv_iload hx hb dX2_encryptBlock_183 (lv_at hl 0 rfl) ?_
      refine lv_aload hx hb dX2_encryptBlock_185 (lv_at hl 6 rfl) ?_
      refine lv_iconst (v := (0 : Int32)) hx hb dX2_encryptBlock_187 (by decide) ?_
      refine z_ild hx hb hK hP 4 3 rfl rfl (v := x1) 0 (by decide) (by omega) (by decide) (rfl) dX2_encryptBlock_188 ?_
      refine lv_iconst (v := (2 : Int32)) hx hb dX2_encryptBlock_189 (by decide) ?_
      refine lv_iushr (v := (sh_us x1 (2 : Int32))) hx hb dX2_encryptBlock_190 rfl ?_
      refine lv_aload hx hb dX2_encryptBlock_191 (lv_at hl 6 rfl) ?_
      refine lv_iconst (v := (0 : Int32)) hx hb dX2_encryptBlock_193 (by decide) ?_
      refine z_ild hx hb hK hP 4 3 rfl rfl (v := x1) 0 (by decide) (by omega) (by decide) (rfl) dX2_encryptBlock_194 ?_
      refine lv_bipush (v := (-2 : Int32)) hx hb dX2_encryptBlock_195 (by decide) ?_
      refine lv_ishl hx hb dX2_encryptBlock_197 ?_
      refine lv_ior hx hb dX2_encryptBlock_198 ?_
      refine z_top (y := (sh_tr x1 (2 : Int32))) (sh_rot _ (by decide)) ?_
      refine lv_aload hx hb dX2_encryptBlock_199 (lv_at hl 6 rfl) ?_
      refine lv_iconst (v := (0 : Int32)) hx hb dX2_encryptBlock_201 (by decide) ?_
      refine z_ild hx hb hK hP 4 3 rfl rfl (v := x1) 0 (by decide) (by omega) (by decide) (rfl) dX2_encryptBlock_202 ?_
      refine lv_bipush (v := (13 : Int32)) hx hb dX2_encryptBlock_203 (by decide) ?_
      refine lv_iushr (v := (sh_us x1 (13 : Int32))) hx hb dX2_encryptBlock_205 rfl ?_
      refine lv_aload hx hb dX2_encryptBlock_206 (lv_at hl 6 rfl) ?_
      refine lv_iconst (v := (0 : Int32)) hx hb dX2_encryptBlock_208 (by decide) ?_
      refine z_ild hx hb hK hP 4 3 rfl rfl (v := x1) 0 (by decide) (by omega) (by decide) (rfl) dX2_encryptBlock_209 ?_
      refine lv_bipush (v := (-13 : Int32)) hx hb dX2_encryptBlock_210 (by decide) ?_
      refine lv_ishl hx hb dX2_encryptBlock_212 ?_
      refine lv_ior hx hb dX2_encryptBlock_213 ?_
      refine z_top (y := (sh_tr x1 (13 : Int32))) (sh_rot _ (by decide)) ?_
      refine lv_ixor hx hb dX2_encryptBlock_214 ?_
      refine lv_aload hx hb dX2_encryptBlock_215 (lv_at hl 6 rfl) ?_
      refine lv_iconst (v := (0 : Int32)) hx hb dX2_encryptBlock_217 (by decide) ?_
      refine z_ild hx hb hK hP 4 3 rfl rfl (v := x1) 0 (by decide) (by omega) (by decide) (rfl) dX2_encryptBlock_218 ?_
      refine lv_bipush (v := (22 : Int32)) hx hb dX2_encryptBlock_219 (by decide) ?_
      refine lv_iushr (v := (sh_us x1 (22 : Int32))) hx hb dX2_encryptBlock_221 rfl ?_
      refine lv_aload hx hb dX2_encryptBlock_222 (lv_at hl 6 rfl) ?_
      refine lv_iconst (v := (0 : Int32)) hx hb dX2_encryptBlock_224 (by decide) ?_
      refine z_ild hx hb hK hP 4 3 rfl rfl (v := x1) 0 (by decide) (by omega) (by decide) (rfl) dX2_encryptBlock_225 ?_
      refine lv_bipush (v := (-22 : Int32)) hx hb dX2_encryptBlock_226 (by decide) ?_
      refine lv_ishl hx hb dX2_encryptBlock_228 ?_
      refine lv_ior hx hb dX2_encryptBlock_229 ?_
      refine z_top (y := (sh_tr x1 (22 : Int32))) (sh_rot _ (by decide)) ?_
      refine lv_ixor hx hb dX2_encryptBlock_230 ?_
      refine z_top (y := (sh_S0 x1)) (rfl) ?_
      refine lv_iadd hx hb dX2_encryptBlock_231 ?_
      refine lv_aload hx hb dX2_encryptBlock_232 (lv_at hl 6 rfl) ?_
      refine lv_iconst (v := (0 : Int32)) hx hb dX2_encryptBlock_234 (by decide) ?_
      refine z_ild hx hb hK hP 4 3 rfl rfl (v := x1) 0 (by decide) (by omega) (by decide) (rfl) dX2_encryptBlock_235 ?_
      refine lv_aload hx hb dX2_encryptBlock_236 (lv_at hl 6 rfl) ?_
      refine lv_iconst (v := (2 : Int32)) hx hb dX2_encryptBlock_238 (by decide) ?_
      refine z_ild hx hb hK hP 4 3 rfl rfl (v := x2) 2 (by decide) (by omega) (by decide) (rfl) dX2_encryptBlock_239 ?_
      refine lv_iand hx hb dX2_encryptBlock_240 ?_
      refine lv_aload hx hb dX2_encryptBlock_241 (lv_at hl 6 rfl) ?_
      refine lv_iconst (v := (0 : Int32)) hx hb dX2_encryptBlock_243 (by decide) ?_
      refine z_ild hx hb hK hP 4 3 rfl rfl (v := x1) 0 (by decide) (by omega) (by decide) (rfl) dX2_encryptBlock_244 ?_
      refine lv_aload hx hb dX2_encryptBlock_245 (lv_at hl 6 rfl) ?_
      refine lv_iconst (v := (3 : Int32)) hx hb dX2_encryptBlock_247 (by decide) ?_
      refine z_ild hx hb hK hP 4 3 rfl rfl (v := x3) 3 (by decide) (by omega) (by decide) (rfl) dX2_encryptBlock_248 ?_
      refine lv_iand hx hb dX2_encryptBlock_249 ?_
      refine lv_ixor hx hb dX2_encryptBlock_250 ?_
      refine lv_aload hx hb dX2_encryptBlock_251 (lv_at hl 6 rfl) ?_
      refine lv_iconst (v := (2 : Int32)) hx hb dX2_encryptBlock_253 (by decide) ?_
      refine z_ild hx hb hK hP 4 3 rfl rfl (v := x2) 2 (by decide) (by omega) (by decide) (rfl) dX2_encryptBlock_254 ?_
      refine lv_aload hx hb dX2_encryptBlock_255 (lv_at hl 6 rfl) ?_
      refine lv_iconst (v := (3 : Int32)) hx hb dX2_encryptBlock_257 (by decide) ?_
      refine z_ild hx hb hK hP 4 3 rfl rfl (v := x3) 3 (by decide) (by omega) (by decide) (rfl) dX2_encryptBlock_258 ?_
      refine lv_iand hx hb dX2_encryptBlock_259 ?_
      refine lv_ixor hx hb dX2_encryptBlock_260 ?_
      refine z_top (y := (sh_mj x1 x2 x3)) (rfl) ?_
      refine lv_iadd hx hb dX2_encryptBlock_261 ?_
      refine z_top (y := ((sh_t1 (sh_K i) (wf i) x5 x6 x7 x8) + (sh_t2 x1 x2 x3))) (Int32.add_assoc _ _ _) ?_
      refine z_ist (f' := (sh_f8 (((sh_t1 (sh_K i) (wf i) x5 x6 x7 x8) + (sh_t2 x1 x2 x3)), x1, x2, x3, (x4 + (sh_t1 (sh_K i) (wf i) x5 x6 x7 x8)), x5, x6, x7))) hx hb hK hP hD hS 4 3 rfl rfl 0 (by decide) (by omega) (by decide) (sh_u0 _ _ _ _ _ _ _ _ _) dX2_encryptBlock_262 (fun H locs hP hD hS => ?_)
      have hP : va_P D zcl [(h0, .inr (2, [.int fe, .ref aw])), (aw, zar dw 64 wf), (ai, zar di 32 nf), (ao, zar dt 32 tf), (ab, zar db 8 (sh_f8 (((sh_t1 (sh_K i) (wf i) x5 x6 x7 x8) + (sh_t2 x1 x2 x3)), x1, x2, x3, (x4 + (sh_t1 (sh_K i) (wf i) x5 x6 x7 x8)), x5, x6, x7)))] H := hP
      have hD : va_D A [(h0, .inr (2, [.int fe, .ref aw])), (aw, zar dw 64 wf), (ai, zar di 32 nf), (ao, zar dt 32 tf), (ab, zar db 8 (sh_f8 (((sh_t1 (sh_K i) (wf i) x5 x6 x7 x8) + (sh_t2 x1 x2 x3)), x1, x2, x3, (x4 + (sh_t1 (sh_K i) (wf i) x5 x6 x7 x8)), x5, x6, x7)))] := hD
      refine lv_iinc (v := (nI (i + 1))) (lv' := [(6, .int (nI (i + 1))), (7, .int (sh_t1 (sh_K i) (wf i) x5 x6 x7 x8)), (0, .ref h0), (1, .ref ai), (2, .int (nI (4 * 0))), (3, .ref ao), (4, .int (nI (4 * 0))), (5, .ref ab)]) hx hb dX2_encryptBlock_263 hl (k := 7) rfl (z_inc i) (by decide) rfl (fun ls hl => ?_)
      refine lv_goto (tgt := 18) hx hb dX2_encryptBlock_266 (by decide) ?_
      exact ih (i + 1) (by omega) ((sh_t1 (sh_K i) (wf i) x5 x6 x7 x8) + (sh_t2 x1 x2 x3)) x1 x2 x3 (x4 + (sh_t1 (sh_K i) (wf i) x5 x6 x7 x8)) x5 x6 x7 (by show _ = sh_er (sh_K i) (wf i) (sh_enc sh_K wf (sh_x8 (sh_asm nf)) i); rw [← hE]; rfl) _ _ ls hK (hP.sub [0, 1, 2, 3, 4] rfl) (hD.sub [0, 1, 2, 3, 4] (by decide) rfl) hS (lv_sub hl [2, 3, 4, 5, 6, 7, 0] rfl)
  exact loop 64 0 (by omega) (sh_asm nf 0) (sh_asm nf 1) (sh_asm nf 2) (sh_asm nf 3) (sh_asm nf 4) (sh_asm nf 5) (sh_asm nf 6) (sh_asm nf 7) rfl _ _ ls hK (hP.sub [0, 1, 2, 3, 4] rfl) (hD.sub [0, 1, 2, 3, 4] (by decide) rfl) hS (lv_sub hl [2, 3, 4, 5, 6, 1, 0] rfl)

set_option maxHeartbeats 4000000 in
set_option maxRecDepth 100000 in
theorem zX2_decryptBlock (l : Launch) (D : va_G) (tk tc : Nat) (sz : Nat) (h0 aw ai ao : Nat) (dw di dt : ClassId) (fe : Int32) (wf nf tf : Nat → Int32) : Met l yX2_decryptBlock (ws_ yX2_decryptBlock cX2_decryptBlock 8 none) ({ frames := 1, cells := 1, slots := 8, locals := 25 }) (va_Pc [.ref h0, .ref ai, .int (nI (4 * 0)), .ref ao, .int (nI (4 * 0))] (zV tk tc D [(h0, .inr (2, [.int fe, .ref aw])), (aw, zar dw 64 wf), (ai, zar di 32 nf), (ao, zar dt 32 tf)] [(dw, .int), (di, .byte), (dt, .byte)] sz)) (va_Qv (fun _ : Unit => True) (fun _ t => zB D [(h0, .inr (2, [.int fe, .ref aw])), (aw, zar dw 64 wf), (ai, zar di 32 nf), (ao, zar dt 32 (sh_cp (sh_dis (sh_f8 (sh_dec sh_K wf 64 (sh_x8 (sh_asm nf))))) tf 32))] [(dw, .int), (di, .byte), (dt, .byte)] (va_A [(h0, .inr (2, [.int fe, .ref aw])), (aw, zar dw 64 wf), (ai, zar di 32 nf), (ao, zar dt 32 tf)] sz) t) (va_A [(h0, .inr (2, [.int fe, .ref aw])), (aw, zar dw 64 wf), (ai, zar di 32 nf), (ao, zar dt 32 tf)] sz)) 1 8 (va_A [(h0, .inr (2, [.int fe, .ref aw])), (aw, zar dw 64 wf), (ai, zar di 32 nf), (ao, zar dt 32 tf)] sz) := by
  refine Met.ofW (cc := cX2_decryptBlock) (maxL := 8) (ret := none) (by decide) rfl ?_
  intro p e s m args below meth c s₁ B hml hv
  obtain ⟨rfl, ⟨hsz, hP, hK, hD0⟩, hZ⟩ := hv
  have hx := B.exec
  have hb := B.bytes
  have hr := B.returns
  have hts := atoms_spec (ws := (ws_ yX2_decryptBlock cX2_decryptBlock 8 none)) B.pre
  have hts : ∀ w ∈ lw_all, w.before _ s = true := fun w h => hts w (List.mem_cons_of_mem _ h)
  have hown : s.vm.findClass RX2 = some m.cls := findClass_of_methodNamed B.named
  have hlocks := B.notSynchronized
  subst hsz
  have hD := hD0.self (sz := s.heap.size)
  generalize hAe : va_A [(h0, .inr (2, [.int fe, .ref aw])), (aw, zar dw 64 wf), (ai, zar di 32 nf), (ao, zar dt 32 tf)] s.heap.size = A at hD hZ ⊢
  have hA : ∀ q : Nat, s.heap.size ≤ q → A q := fun q h => by rw [← hAe]; exact Or.inr h
  have hS : va_S A s.heap s.heap [] := va_S.rf
  have hl := lv_entry ([.ref h0, .ref ai, .int (nI (4 * 0)), .ref ao, .int (nI (4 * 0))]) (n := 8) (Nat.le_of_ble_eq_true rfl)
  rw [lg_entry_eq]
  generalize (lg_sl ([.ref h0, .ref ai, .int (nI (4 * 0)), .ref ao, .int (nI (4 * 0))]) ++ List.replicate (8 - (lg_sl ([.ref h0, .ref ai, .int (nI (4 * 0)), .ref ao, .int (nI (4 * 0))])).length) Slot.unset).toArray = ls at hl ⊢
  have hl : lv_has ls 8 [(0, .ref h0), (1, .ref ai), (2, .int (nI (4 * 0))), (3, .ref ao), (4, .int (nI (4 * 0)))] := hl
  have hP : va_P D zcl [(h0, .inr (2, [.int fe, .ref aw])), (aw, zar dw 64 wf), (ai, zar di 32 nf), (ao, zar dt 32 tf)] s.heap := hP
  refine lv_bipush (v := (8 : Int32)) hx hb dX2_decryptBlock_0 (by decide) ?_
  refine va_newa (atype := .int) (ty := .int) (N' := 8) (a0 := (8, .inl sh_z)) hx hb (hts _ q210) rfl hK hP hD hS hA (fun _ => rfl) (by decide) (by decide) (by decide) (Nat.le_of_ble_eq_true rfl) (Nat.le_of_ble_eq_true rfl) dX2_decryptBlock_2 (fun ab db H hK hP hD hS => ?_)
  have hK : va_K D zcl [(dw, .int), (di, .byte), (dt, .byte), (db, .int)] s := hK
  have hP : va_P D zcl [(h0, .inr (2, [.int fe, .ref aw])), (aw, zar dw 64 wf), (ai, zar di 32 nf), (ao, zar dt 32 tf), (ab, zar db 8 sh_z)] H := hP
  have hD : va_D A [(h0, .inr (2, [.int fe, .ref aw])), (aw, zar dw 64 wf), (ai, zar di 32 nf), (ao, zar dt 32 tf), (ab, zar db 8 sh_z)] := hD
  refine W.widen (k := 1) (n := 8) (Nat.le_of_ble_eq_true rfl) (Nat.le_of_ble_eq_true rfl) ?_
  refine lv_astore (lv' := [(5, .ref ab), (0, .ref h0), (1, .ref ai), (2, .int (nI (4 * 0))), (3, .ref ao), (4, .int (nI (4 * 0)))]) hx hb dX2_decryptBlock_4 hl (by decide) rfl (fun ls hl => ?_)
  refine lv_aload_n hx hb dX2_decryptBlock_6 rfl (lv_at hl 1 rfl) ?_
  refine lv_aload_n hx hb dX2_decryptBlock_7 rfl (lv_at hl 2 rfl) ?_
  refine lv_aload hx hb dX2_decryptBlock_8 (lv_at hl 0 rfl) ?_
  refine lv_iload_n hx hb dX2_decryptBlock_10 rfl (lv_at hl 3 rfl) ?_
  refine lv_iconst (v := (nI 0)) hx hb dX2_decryptBlock_11 (by decide) ?_
  have hPc := hP.sub (ws' := [(h0, .inr (2, [.int fe, .ref aw])), (ai, zar di 32 nf), (ab, zar db 8 sh_z)]) [0, 2, 4] rfl
  have hDc := hD.sub (ws' := [(h0, .inr (2, [.int fe, .ref aw])), (ai, zar di 32 nf), (ab, zar db 8 sh_z)]) [0, 2, 4] (by decide) rfl
  have hKc := hK.sub (tys' := [(di, .byte), (db, .int)]) [1, 3] rfl
  have hFc := va_free (wc := [(h0, .inr (2, [.int fe, .ref aw])), (ai, zar di 32 nf), (ab, zar db 8 sh_z)]) hD hS hA [0, 2, 4] rfl
  refine va_callv (va_runV (As := [.ref ai, .ref ab, .int (nI (4 * 0)), .int (nI 0)]) (rest := []) ⟨hx, hb, hml, hown, hts⟩ (zX2_byteBlockToInts l D _ h0 ai ab aw di db fe nf sh_z) (cwV 4 hts (lw_V q252 q254 qs4 q12 q255) rfl rfl rfl (by decide +kernel) ⟨(Nat.le_of_ble_eq_true rfl), (Nat.le_of_ble_eq_true rfl)⟩) (z_preV [.ref ai, .ref ab, .int (nI (4 * 0)), .int (nI 0)] hPc hKc hDc (va_recv hKc hPc (ci := 2) (q0 := 0) rfl rfl)) rfl rfl hl.1 rfl (lv_room (Nat.le_of_ble_eq_true rfl)) dX2_decryptBlock_12 ⟨(Nat.le_of_ble_eq_true rfl), (Nat.le_of_ble_eq_true rfl)⟩) hS (fun q _ h => hFc q h) hFc (fun u t H1 locs ht hvm hw_3 hB hz1 hk1 hS => ?_)
  obtain ⟨hP1, hK1, hD1⟩ := hB
  rw [ht] at hP1
  have hK1 := va_K.moved hvm.symm hK1
  obtain ⟨hP, hD⟩ := va_join (wr := [(aw, zar dw 64 wf), (ao, zar dt 32 tf)]) (w1 := [(h0, .inr (2, [.int fe, .ref aw])), (ai, zar di 32 nf), (ab, zar db 8 (sh_cp (sh_asm nf) sh_z 8))]) hP hD [0, 2, 4] [1, 3] rfl rfl (by decide) (by decide) hk1 hFc hP1 hD1
  generalize H1 = H at hP hS ⊢
  have hP := hP.sub (ws' := [(h0, .inr (2, [.int fe, .ref aw])), (aw, zar dw 64 wf), (ai, zar di 32 nf), (ao, zar dt 32 tf), (ab, zar db 8 (sh_cp (sh_asm nf) sh_z 8))]) [2, 0, 3, 1, 4] rfl
  have hD := hD.sub (ws' := [(h0, .inr (2, [.int fe, .ref aw])), (aw, zar dw 64 wf), (ai, zar di 32 nf), (ao, zar dt 32 tf), (ab, zar db 8 (sh_cp (sh_asm nf) sh_z 8))]) [2, 0, 3, 1, 4] (by decide) rfl
  rw [sh_cp8] at hP hD
  refine lv_bipush (v := (sh_m 64)) hx hb dX2_decryptBlock_15 (by decide) ?_
  refine lv_istore (lv' := [(6, .int (sh_m 64)), (5, .ref ab), (0, .ref h0), (1, .ref ai), (2, .int (nI (4 * 0))), (3, .ref ao), (4, .int (nI (4 * 0)))]) hx hb dX2_decryptBlock_17 hl (by decide) rfl (fun ls hl => ?_)
  have loop : ∀ (r : Nat), r ≤ 64 → ∀ (x1 x2 x3 x4 x5 x6 x7 x8 : Int32), sh_dec sh_K wf r (x1, x2, x3, x4, x5, x6, x7, x8) = sh_dec sh_K wf 64 (sh_x8 (sh_asm nf)) → ∀ (H : Heap) (locs : List Loc) (ls : Array Slot), va_K D zcl [(dw, .int), (di, .byte), (dt, .byte), (db, .int)] s → va_P D zcl [(h0, .inr (2, [.int fe, .ref aw])), (aw, zar dw 64 wf), (ai, zar di 32 nf), (ao, zar dt 32 tf), (ab, zar db 8 (sh_f8 (x1, x2, x3, x4, x5, x6, x7, x8)))] H → va_D A [(h0, .inr (2, [.int fe, .ref aw])), (aw, zar dw 64 wf), (ai, zar di 32 nf), (ao, zar dt 32 tf), (ab, zar db 8 (sh_f8 (x1, x2, x3, x4, x5, x6, x7, x8)))] → va_S A s.heap H locs → lv_has ls 8 [(0, .ref h0), (1, .ref ai), (2, .int (nI (4 * 0))), (3, .ref ao), (4, .int (nI (4 * 0))), (5, .ref ab), (6, .int (sh_m r))] → W p l e (headSpec (ws_ yX2_decryptBlock cX2_decryptBlock 8 none) ({ frames := 1, cells := 1, slots := 8, locals := 25 })).room s m ([.ref h0, .ref ai, .int (nI (4 * 0)), .ref ao, .int (nI (4 * 0))] : List Value).toArray below meth c H locs 1 8 (MQ below (va_Qv (fun _ : Unit => True) (fun _ t => zB D [(h0, .inr (2, [.int fe, .ref aw])), (aw, zar dw 64 wf), (ai, zar di 32 nf), (ao, zar dt 32 (sh_cp (sh_dis (sh_f8 (sh_dec sh_K wf 64 (sh_x8 (sh_asm nf))))) tf 32))] [(dw, .int), (di, .byte), (dt, .byte)] A t) A) ([.ref h0, .ref ai, .int (nI (4 * 0)), .ref ao, .int (nI (4 * 0))] : List Value).toArray s 1 8 A) (F0 m 19 ls []) := by
    intro r
    induction r with
    | zero =>
      intro hi x1 x2 x3 x4 x5 x6 x7 x8 hE H locs ls hK hP hD hS hl
      have hE : (x1, x2, x3, x4, x5, x6, x7, x8) = sh_dec sh_K wf 64 (sh_x8 (sh_asm nf)) := hE
      refine lv_iload hx hb dX2_decryptBlock_19 (lv_at hl 6 rfl) ?_
      refine lv_iconst (v := (-1 : Int32)) hx hb dX2_decryptBlock_21 (by decide) ?_
      refine z_le_t (tgt := 269) hx hb dX2_decryptBlock_22 (by decide) (sh_m_0le) ?_
      refine lv_aload_n hx hb dX2_decryptBlock_269 rfl (lv_at hl 0 rfl) ?_
      refine lv_aload hx hb dX2_decryptBlock_270 (lv_at hl 5 rfl) ?_
      refine lv_aload_n hx hb dX2_decryptBlock_272 rfl (lv_at hl 3 rfl) ?_
      refine lv_iload hx hb dX2_decryptBlock_273 (lv_at hl 4 rfl) ?_
      have hPc := hP.sub (ws' := [(h0, .inr (2, [.int fe, .ref aw])), (ab, zar db 8 (sh_f8 (x1, x2, x3, x4, x5, x6, x7, x8))), (ao, zar dt 32 tf)]) [0, 4, 3] rfl
      have hDc := hD.sub (ws' := [(h0, .inr (2, [.int fe, .ref aw])), (ab, zar db 8 (sh_f8 (x1, x2, x3, x4, x5, x6, x7, x8))), (ao, zar dt 32 tf)]) [0, 4, 3] (by decide) rfl
      have hKc := hK.sub (tys' := [(db, .int), (dt, .byte)]) [3, 2] rfl
      have hFc := va_free (wc := [(h0, .inr (2, [.int fe, .ref aw])), (ab, zar db 8 (sh_f8 (x1, x2, x3, x4, x5, x6, x7, x8))), (ao, zar dt 32 tf)]) hD hS hA [0, 4, 3] rfl
      refine va_callv (va_runV (As := [.ref ab, .ref ao, .int (nI (4 * 0))]) (rest := []) ⟨hx, hb, hml, hown, hts⟩ (zX2_ints2bytes l D _ h0 ab ao aw db dt fe (sh_f8 (x1, x2, x3, x4, x5, x6, x7, x8)) tf) (cwV 3 hts (lw_V q258 q260 qs5 q12 q261) rfl rfl rfl (by decide +kernel) ⟨(Nat.le_of_ble_eq_true rfl), (Nat.le_of_ble_eq_true rfl)⟩) (z_preV [.ref ab, .ref ao, .int (nI (4 * 0))] hPc hKc hDc (va_recv hKc hPc (ci := 2) (q0 := 0) rfl rfl)) rfl rfl hl.1 rfl (lv_room (Nat.le_of_ble_eq_true rfl)) dX2_decryptBlock_275 ⟨(Nat.le_of_ble_eq_true rfl), (Nat.le_of_ble_eq_true rfl)⟩) hS (fun q _ h => hFc q h) hFc (fun u t H1 locs ht hvm hw_4 hB hz1 hk1 hS => ?_)
      obtain ⟨hP1, hK1, hD1⟩ := hB
      rw [ht] at hP1
      have hK1 := va_K.moved hvm.symm hK1
      obtain ⟨hP, hD⟩ := va_join (wr := [(aw, zar dw 64 wf), (ai, zar di 32 nf)]) (w1 := [(h0, .inr (2, [.int fe, .ref aw])), (ab, zar db 8 (sh_f8 (x1, x2, x3, x4, x5, x6, x7, x8))), (ao, zar dt 32 (sh_cp (sh_dis (sh_f8 (x1, x2, x3, x4, x5, x6, x7, x8))) tf 32))]) hP hD [0, 4, 3] [1, 2] rfl rfl (by decide) (by decide) hk1 hFc hP1 hD1
      generalize H1 = H at hP hS ⊢
      have hP := hP.sub (ws' := [(h0, .inr (2, [.int fe, .ref aw])), (aw, zar dw 64 wf), (ai, zar di 32 nf), (ao, zar dt 32 (sh_cp (sh_dis (sh_f8 (x1, x2, x3, x4, x5, x6, x7, x8))) tf 32)), (ab, zar db 8 (sh_f8 (x1, x2, x3, x4, x5, x6, x7, x8)))]) [2, 0, 1, 4, 3] rfl
      have hD := hD.sub (ws' := [(h0, .inr (2, [.int fe, .ref aw])), (aw, zar dw 64 wf), (ai, zar di 32 nf), (ao, zar dt 32 (sh_cp (sh_dis (sh_f8 (x1, x2, x3, x4, x5, x6, x7, x8))) tf 32)), (ab, zar db 8 (sh_f8 (x1, x2, x3, x4, x5, x6, x7, x8)))]) [2, 0, 1, 4, 3] (by decide) rfl
      rw [hE] at hP hD
      have hP9 := hP.sub (ws' := [(h0, .inr (2, [.int fe, .ref aw])), (aw, zar dw 64 wf), (ai, zar di 32 nf), (ao, zar dt 32 (sh_cp (sh_dis (sh_f8 (sh_dec sh_K wf 64 (sh_x8 (sh_asm nf))))) tf 32))]) [0, 1, 2, 3] rfl
      have hD9 := hD.sub (ws' := [(h0, .inr (2, [.int fe, .ref aw])), (aw, zar dw 64 wf), (ai, zar di 32 nf), (ao, zar dt 32 (sh_cp (sh_dis (sh_f8 (sh_dec sh_K wf 64 (sh_x8 (sh_asm nf))))) tf 32))]) [0, 1, 2, 3] (by decide) rfl
      have hK9 := hK.sub (tys' := [(dw, .int), (di, .byte), (dt, .byte)]) [0, 1, 2] rfl
      refine W.widen (k := 1) (n := 8) (Nat.le_of_ble_eq_true rfl) (Nat.le_of_ble_eq_true rfl) ?_
      exact W.vret hx hb hr (fun t ht hW => ⟨⟨(), rfl, trivial, by rw [ht]; exact hP9, va_K.moved hW.alike hK9, hD9⟩, hS.F ht⟩) hS.2.2 dX2_decryptBlock_278
    | succ r ih =>
      intro hi x1 x2 x3 x4 x5 x6 x7 x8 hE H locs ls hK hP hD hS hl
      rw [sh_m_s] at hl
      refine lv_iload hx hb dX2_decryptBlock_19 (lv_at hl 6 rfl) ?_
      refine lv_iconst (v := (-1 : Int32)) hx hb dX2_decryptBlock_21 (by decide) ?_
      refine z_le_f (tgt := 269) hx hb dX2_decryptBlock_22 (by decide) (nI_nlem1 (by omega)) ?_
      refine lv_aload hx hb dX2_decryptBlock_25 (lv_at hl 5 rfl) ?_
      refine lv_iconst (v := (0 : Int32)) hx hb dX2_decryptBlock_27 (by decide) ?_
      refine z_ild hx hb hK hP 4 3 rfl rfl (v := x1) 0 (by decide) (by omega) (by decide) (rfl) dX2_decryptBlock_28 ?_
      refine lv_aload hx hb dX2_decryptBlock_29 (lv_at hl 5 rfl) ?_
      refine lv_iconst (v := (1 : Int32)) hx hb dX2_decryptBlock_31 (by decide) ?_
      refine z_ild hx hb hK hP 4 3 rfl rfl (v := x2) 1 (by decide) (by omega) (by decide) (rfl) dX2_decryptBlock_32 ?_
      refine lv_iconst (v := (2 : Int32)) hx hb dX2_decryptBlock_33 (by decide) ?_
      refine lv_iushr (v := (sh_us x2 (2 : Int32))) hx hb dX2_decryptBlock_34 rfl ?_
      refine lv_aload hx hb dX2_decryptBlock_35 (lv_at hl 5 rfl) ?_
      refine lv_iconst (v := (1 : Int32)) hx hb dX2_decryptBlock_37 (by decide) ?_
      refine z_ild hx hb hK hP 4 3 rfl rfl (v := x2) 1 (by decide) (by omega) (by decide) (rfl) dX2_decryptBlock_38 ?_
      refine lv_bipush (v := (-2 : Int32)) hx hb dX2_decryptBlock_39 (by decide) ?_
      refine lv_ishl hx hb dX2_decryptBlock_41 ?_
      refine lv_ior hx hb dX2_decryptBlock_42 ?_
      refine z_top (y := (sh_tr x2 (2 : Int32))) (sh_rot _ (by decide)) ?_
      refine lv_aload hx hb dX2_decryptBlock_43 (lv_at hl 5 rfl) ?_
      refine lv_iconst (v := (1 : Int32)) hx hb dX2_decryptBlock_45 (by decide) ?_
      refine z_ild hx hb hK hP 4 3 rfl rfl (v := x2) 1 (by decide) (by omega) (by decide) (rfl) dX2_decryptBlock_46 ?_
      refine lv_bipush (v := (13 : Int32)) hx hb dX2_decryptBlock_47 (by decide) ?_
      refine lv_iushr (v := (sh_us x2 (13 : Int32))) hx hb dX2_decryptBlock_49 rfl ?_
      refine lv_aload hx hb dX2_decryptBlock_50 (lv_at hl 5 rfl) ?_
      refine lv_iconst (v := (1 : Int32)) hx hb dX2_decryptBlock_52 (by decide) ?_
      refine z_ild hx hb hK hP 4 3 rfl rfl (v := x2) 1 (by decide) (by omega) (by decide) (rfl) dX2_decryptBlock_53 ?_
      refine lv_bipush (v := (-13 : Int32)) hx hb dX2_decryptBlock_54 (by decide) ?_
      refine lv_ishl hx hb dX2_decryptBlock_56 ?_
      refine lv_ior hx hb dX2_decryptBlock_57 ?_
      refine z_top (y := (sh_tr x2 (13 : Int32))) (sh_rot _ (by decide)) ?_
      refine lv_ixor hx hb dX2_decryptBlock_58 ?_
      refine lv_aload hx hb dX2_decryptBlock_59 (lv_at hl 5 rfl) ?_
      refine lv_iconst (v := (1 : Int32)) hx hb dX2_decryptBlock_61 (by decide) ?_
      refine z_ild hx hb hK hP 4 3 rfl rfl (v := x2) 1 (by decide) (by omega) (by decide) (rfl) dX2_decryptBlock_62 ?_
      refine lv_bipush (v := (22 : Int32)) hx hb dX2_decryptBlock_63 (by decide) ?_
      refine lv_iushr (v := (sh_us x2 (22 : Int32))) hx hb dX2_decryptBlock_65 rfl ?_
      refine lv_aload hx hb dX2_decryptBlock_66 (lv_at hl 5 rfl) ?_
      refine lv_iconst (v := (1 : Int32)) hx hb dX2_decryptBlock_68 (by decide) ?_
      refine z_ild hx hb hK hP 4 3 rfl rfl (v := x2) 1 (by decide) (by omega) (by decide) (rfl) dX2_decryptBlock_69 ?_
      refine lv_bipush (v := (-22 : Int32)) hx hb dX2_decryptBlock_70 (by decide) ?_
      refine lv_ishl hx hb dX2_decryptBlock_72 ?_
      refine lv_ior hx hb dX2_decryptBlock_73 ?_
      refine z_top (y := (sh_tr x2 (22 : Int32))) (sh_rot _ (by decide)) ?_
      refine lv_ixor hx hb dX2_decryptBlock_74 ?_
      refine z_top (y := (sh_S0 x2)) (rfl) ?_
      refine lv_isub hx hb dX2_decryptBlock_75 ?_
      refine lv_aload hx hb dX2_decryptBlock_76 (lv_at hl 5 rfl) ?_
      refine lv_iconst (v := (1 : Int32)) hx hb dX2_decryptBlock_78 (by decide) ?_
      refine z_ild hx hb hK hP 4 3 rfl rfl (v := x2) 1 (by decide) (by omega) (by decide) (rfl) dX2_decryptBlock_79 ?_
      refine lv_aload hx hb dX2_decryptBlock_80 (lv_at hl 5 rfl) ?_
      refine lv_iconst (v := (2 : Int32)) hx hb dX2_decryptBlock_82 (by decide) ?_
      refine z_ild hx hb hK hP 4 3 rfl rfl (v := x3) 2 (by decide) (by omega) (by decide) (rfl) dX2_decryptBlock_83 ?_
      refine lv_iand hx hb dX2_decryptBlock_84 ?_
      refine lv_aload hx hb dX2_decryptBlock_85 (lv_at hl 5 rfl) ?_
      refine lv_iconst (v := (1 : Int32)) hx hb dX2_decryptBlock_87 (by decide) ?_
      refine z_ild hx hb hK hP 4 3 rfl rfl (v := x2) 1 (by decide) (by omega) (by decide) (rfl) dX2_decryptBlock_88 ?_
      refine lv_aload hx hb dX2_decryptBlock_89 (lv_at hl 5 rfl) ?_
      refine lv_iconst (v := (3 : Int32)) hx hb dX2_decryptBlock_91 (by decide) ?_
      refine z_ild hx hb hK hP 4 3 rfl rfl (v := x4) 3 (by decide) (by omega) (by decide) (rfl) dX2_decryptBlock_92 ?_
      refine lv_iand hx hb dX2_decryptBlock_93 ?_
      refine lv_ixor hx hb dX2_decryptBlock_94 ?_
      refine lv_aload hx hb dX2_decryptBlock_95 (lv_at hl 5 rfl) ?_
      refine lv_iconst (v := (2 : Int32)) hx hb dX2_decryptBlock_97 (by decide) ?_
      refine z_ild hx hb hK hP 4 3 rfl rfl (v := x3) 2 (by decide) (by omega) (by decide) (rfl) dX2_decryptBlock_98 ?_
      refine lv_aload hx hb dX2_decryptBlock_99 (lv_at hl 5 rfl) ?_
      refine lv_iconst (v := (3 : Int32)) hx hb dX2_decryptBlock_101 (by decide) ?_
      refine z_ild hx hb hK hP 4 3 rfl rfl (v := x4) 3 (by decide) (by omega) (by decide) (rfl) dX2_decryptBlock_102 ?_
      refine lv_iand hx hb dX2_decryptBlock_103 ?_
      refine lv_ixor hx hb dX2_decryptBlock_104 ?_
      refine z_top (y := (sh_mj x2 x3 x4)) (rfl) ?_
      refine lv_isub hx hb dX2_decryptBlock_105 ?_
      refine z_top (y := (x1 - (sh_t2 x2 x3 x4))) (sh_subs _ _ _) ?_
      refine lv_istore (lv' := [(7, .int (x1 - (sh_t2 x2 x3 x4))), (0, .ref h0), (1, .ref ai), (2, .int (nI (4 * 0))), (3, .ref ao), (4, .int (nI (4 * 0))), (5, .ref ab), (6, .int (nI r))]) hx hb dX2_decryptBlock_106 hl (by decide) rfl (fun ls hl => ?_)
      refine lv_aload hx hb dX2_decryptBlock_108 (lv_at hl 6 rfl) ?_
      refine lv_iconst (v := (0 : Int32)) hx hb dX2_decryptBlock_110 (by decide) ?_
      refine lv_aload hx hb dX2_decryptBlock_111 (lv_at hl 6 rfl) ?_
      refine lv_iconst (v := (1 : Int32)) hx hb dX2_decryptBlock_113 (by decide) ?_
      refine z_ild hx hb hK hP 4 3 rfl rfl (v := x2) 1 (by decide) (by omega) (by decide) (rfl) dX2_decryptBlock_114 ?_
      refine z_ist (f' := (sh_f8 (x2, x2, x3, x4, x5, x6, x7, x8))) hx hb hK hP hD hS 4 3 rfl rfl 0 (by decide) (by omega) (by decide) (sh_u0 _ _ _ _ _ _ _ _ _) dX2_decryptBlock_115 (fun H locs hP hD hS => ?_)
      have hP : va_P D zcl [(h0, .inr (2, [.int fe, .ref aw])), (aw, zar dw 64 wf), (ai, zar di 32 nf), (ao, zar dt 32 tf), (ab, zar db 8 (sh_f8 (x2, x2, x3, x4, x5, x6, x7, x8)))] H := hP
      have hD : va_D A [(h0, .inr (2, [.int fe, .ref aw])), (aw, zar dw 64 wf), (ai, zar di 32 nf), (ao, zar dt 32 tf), (ab, zar db 8 (sh_f8 (x2, x2, x3, x4, x5, x6, x7, x8)))] := hD
      refine lv_aload hx hb dX2_decryptBlock_116 (lv_at hl 6 rfl) ?_
      refine lv_iconst (v := (1 : Int32)) hx hb dX2_decryptBlock_118 (by decide) ?_
      refine lv_aload hx hb dX2_decryptBlock_119 (lv_at hl 6 rfl) ?_
      refine lv_iconst (v := (2 : Int32)) hx hb dX2_decryptBlock_121 (by decide) ?_
      refine z_ild hx hb hK hP 4 3 rfl rfl (v := x3) 2 (by decide) (by omega) (by decide) (rfl) dX2_decryptBlock_122 ?_
      refine z_ist (f' := (sh_f8 (x2, x3, x3, x4, x5, x6, x7, x8))) hx hb hK hP hD hS 4 3 rfl rfl 1 (by decide) (by omega) (by decide) (sh_u1 _ _ _ _ _ _ _ _ _) dX2_decryptBlock_123 (fun H locs hP hD hS => ?_)
      have hP : va_P D zcl [(h0, .inr (2, [.int fe, .ref aw])), (aw, zar dw 64 wf), (ai, zar di 32 nf), (ao, zar dt 32 tf), (ab, zar db 8 (sh_f8 (x2, x3, x3, x4, x5, x6, x7, x8)))] H := hP
      have hD : va_D A [(h0, .inr (2, [.int fe, .ref aw])), (aw, zar dw 64 wf), (ai, zar di 32 nf), (ao, zar dt 32 tf), (ab, zar db 8 (sh_f8 (x2, x3, x3, x4, x5, x6, x7, x8)))] := hD
      refine lv_aload hx hb dX2_decryptBlock_124 (lv_at hl 6 rfl) ?_
      refine lv_iconst (v := (2 : Int32)) hx hb dX2_decryptBlock_126 (by decide) ?_
      refine lv_aload hx hb dX2_decryptBlock_127 (lv_at hl 6 rfl) ?_
      refine lv_iconst (v := (3 : Int32)) hx hb dX2_decryptBlock_129 (by decide) ?_
      refine z_ild hx hb hK hP 4 3 rfl rfl (v := x4) 3 (by decide) (by omega) (by decide) (rfl) dX2_decryptBlock_130 ?_
      refine z_ist (f' := (sh_f8 (x2, x3, x4, x4, x5, x6, x7, x8))) hx hb hK hP hD hS 4 3 rfl rfl 2 (by decide) (by omega) (by decide) (sh_u2 _ _ _ _ _ _ _ _ _) dX2_decryptBlock_131 (fun H locs hP hD hS => ?_)
      have hP : va_P D zcl [(h0, .inr (2, [.int fe, .ref aw])), (aw, zar dw 64 wf), (ai, zar di 32 nf), (ao, zar dt 32 tf), (ab, zar db 8 (sh_f8 (x2, x3, x4, x4, x5, x6, x7, x8)))] H := hP
      have hD : va_D A [(h0, .inr (2, [.int fe, .ref aw])), (aw, zar dw 64 wf), (ai, zar di 32 nf), (ao, zar dt 32 tf), (ab, zar db 8 (sh_f8 (x2, x3, x4, x4, x5, x6, x7, x8)))] := hD
      refine lv_aload hx hb dX2_decryptBlock_132 (lv_at hl 6 rfl) ?_
      refine lv_iconst (v := (3 : Int32)) hx hb dX2_decryptBlock_134 (by decide) ?_
      refine lv_aload hx hb dX2_decryptBlock_135 (lv_at hl 6 rfl) ?_
      refine lv_iconst (v := (4 : Int32)) hx hb dX2_decryptBlock_137 (by decide) ?_
      refine z_ild hx hb hK hP 4 3 rfl rfl (v := x5) 4 (by decide) (by omega) (by decide) (rfl) dX2_decryptBlock_138 ?_
      refine lv_iload hx hb dX2_decryptBlock_139 (lv_at hl 0 rfl) ?_
      refine lv_isub hx hb dX2_decryptBlock_141 ?_
      refine z_ist (f' := (sh_f8 (x2, x3, x4, (x5 - (x1 - (sh_t2 x2 x3 x4))), x5, x6, x7, x8))) hx hb hK hP hD hS 4 3 rfl rfl 3 (by decide) (by omega) (by decide) (sh_u3 _ _ _ _ _ _ _ _ _) dX2_decryptBlock_142 (fun H locs hP hD hS => ?_)
      have hP : va_P D zcl [(h0, .inr (2, [.int fe, .ref aw])), (aw, zar dw 64 wf), (ai, zar di 32 nf), (ao, zar dt 32 tf), (ab, zar db 8 (sh_f8 (x2, x3, x4, (x5 - (x1 - (sh_t2 x2 x3 x4))), x5, x6, x7, x8)))] H := hP
      have hD : va_D A [(h0, .inr (2, [.int fe, .ref aw])), (aw, zar dw 64 wf), (ai, zar di 32 nf), (ao, zar dt 32 tf), (ab, zar db 8 (sh_f8 (x2, x3, x4, (x5 - (x1 - (sh_t2 x2 x3 x4))), x5, x6, x7, x8)))] := hD
      refine lv_aload hx hb dX2_decryptBlock_143 (lv_at hl 6 rfl) ?_
      refine lv_iconst (v := (4 : Int32)) hx hb dX2_decryptBlock_145 (by decide) ?_
      refine lv_aload hx hb dX2_decryptBlock_146 (lv_at hl 6 rfl) ?_
      refine lv_iconst (v := (5 : Int32)) hx hb dX2_decryptBlock_148 (by decide) ?_
      refine z_ild hx hb hK hP 4 3 rfl rfl (v := x6) 5 (by decide) (by omega) (by decide) (rfl) dX2_decryptBlock_149 ?_
      refine z_ist (f' := (sh_f8 (x2, x3, x4, (x5 - (x1 - (sh_t2 x2 x3 x4))), x6, x6, x7, x8))) hx hb hK hP hD hS 4 3 rfl rfl 4 (by decide) (by omega) (by decide) (sh_u4 _ _ _ _ _ _ _ _ _) dX2_decryptBlock_150 (fun H locs hP hD hS => ?_)
      have hP : va_P D zcl [(h0, .inr (2, [.int fe, .ref aw])), (aw, zar dw 64 wf), (ai, zar di 32 nf), (ao, zar dt 32 tf), (ab, zar db 8 (sh_f8 (x2, x3, x4, (x5 - (x1 - (sh_t2 x2 x3 x4))), x6, x6, x7, x8)))] H := hP
      have hD : va_D A [(h0, .inr (2, [.int fe, .ref aw])), (aw, zar dw 64 wf), (ai, zar di 32 nf), (ao, zar dt 32 tf), (ab, zar db 8 (sh_f8 (x2, x3, x4, (x5 - (x1 - (sh_t2 x2 x3 x4))), x6, x6, x7, x8)))] := hD
      refine lv_aload hx hb dX2_decryptBlock_151 (lv_at hl 6 rfl) ?_
      refine lv_iconst (v := (5 : Int32)) hx hb dX2_decryptBlock_153 (by decide) ?_
      refine lv_aload hx hb dX2_decryptBlock_154 (lv_at hl 6 rfl) ?_
      refine lv_bipush (v := (6 : Int32)) hx hb dX2_decryptBlock_156 (by decide) ?_
      refine z_ild hx hb hK hP 4 3 rfl rfl (v := x7) 6 (by decide) (by omega) (by decide) (rfl) dX2_decryptBlock_158 ?_
      refine z_ist (f' := (sh_f8 (x2, x3, x4, (x5 - (x1 - (sh_t2 x2 x3 x4))), x6, x7, x7, x8))) hx hb hK hP hD hS 4 3 rfl rfl 5 (by decide) (by omega) (by decide) (sh_u5 _ _ _ _ _ _ _ _ _) dX2_decryptBlock_159 (fun H locs hP hD hS => ?_)
      have hP : va_P D zcl [(h0, .inr (2, [.int fe, .ref aw])), (aw, zar dw 64 wf), (ai, zar di 32 nf), (ao, zar dt 32 tf), (ab, zar db 8 (sh_f8 (x2, x3, x4, (x5 - (x1 - (sh_t2 x2 x3 x4))), x6, x7, x7, x8)))] H := hP
      have hD : va_D A [(h0, .inr (2, [.int fe, .ref aw])), (aw, zar dw 64 wf), (ai, zar di 32 nf), (ao, zar dt 32 tf), (ab, zar db 8 (sh_f8 (x2, x3, x4, (x5 - (x1 - (sh_t2 x2 x3 x4))), x6, x7, x7, x8)))] := hD
      refine lv_aload hx hb dX2_decryptBlock_160 (lv_at hl 6 rfl) ?_
      refine lv_bipush (v := (6 : Int32)) hx hb dX2_decryptBlock_162 (by decide) ?_
      refine lv_aload hx hb dX2_decryptBlock_164 (lv_at hl 6 rfl) ?_
      refine lv_bipush (v := (7 : Int32)) hx hb dX2_decryptBlock_166 (by decide) ?_
      refine z_ild hx hb hK hP 4 3 rfl rfl (v := x8) 7 (by decide) (by omega) (by decide) (rfl) dX2_decryptBlock_168 ?_
      refine z_ist (f' := (sh_f8 (x2, x3, x4, (x5 - (x1 - (sh_t2 x2 x3 x4))), x6, x7, x8, x8))) hx hb hK hP hD hS 4 3 rfl rfl 6 (by decide) (by omega) (by decide) (sh_u6 _ _ _ _ _ _ _ _ _) dX2_decryptBlock_169 (fun H locs hP hD hS => ?_)
      have hP : va_P D zcl [(h0, .inr (2, [.int fe, .ref aw])), (aw, zar dw 64 wf), (ai, zar di 32 nf), (ao, zar dt 32 tf), (ab, zar db 8 (sh_f8 (x2, x3, x4, (x5 - (x1 - (sh_t2 x2 x3 x4))), x6, x7, x8, x8)))] H := hP
      have hD : va_D A [(h0, .inr (2, [.int fe, .ref aw])), (aw, zar dw 64 wf), (ai, zar di 32 nf), (ao, zar dt 32 tf), (ab, zar db 8 (sh_f8 (x2, x3, x4, (x5 - (x1 - (sh_t2 x2 x3 x4))), x6, x7, x8, x8)))] := hD
      refine lv_aload hx hb dX2_decryptBlock_170 (lv_at hl 6 rfl) ?_
      refine lv_bipush (v := (7 : Int32)) hx hb dX2_decryptBlock_172 (by decide) ?_
      refine lv_iload hx hb dX2_decryptBlock_174 (lv_at hl 0 rfl) ?_
      refine va_gets hx hb hZ.1.1 hS hown (hts _ q256) (fun _ h9 => h9) dX2_decryptBlock_176 ?_
      refine lv_iload hx hb dX2_decryptBlock_179 (lv_at hl 7 rfl) ?_
      refine z_tld hx hb hZ.1.2 hS r rfl (by omega) dX2_decryptBlock_181 ?_
      refine lv_isub hx hb dX2_decryptBlock_182 ?_
      refine lv_aload_n hx hb dX2_decryptBlock_183 rfl (lv_at hl 1 rfl) ?_
      refine va_get (D := D) (ci := 2) (v := .ref aw) (C := RX2) (T := TX2) (N := 2) hx hb hts in_X2 hown hK hP 0 rfl rfl 1 (by decide) (hts _ q68) (fun _ h9 => h9) rfl dX2_decryptBlock_184 ?_
      refine lv_iload hx hb dX2_decryptBlock_187 (lv_at hl 7 rfl) ?_
      refine z_ild hx hb hK hP 1 0 rfl rfl (v := (wf r)) r rfl (by omega) (by decide) (rfl) dX2_decryptBlock_189 ?_
      refine lv_isub hx hb dX2_decryptBlock_190 ?_
      refine lv_aload hx hb dX2_decryptBlock_191 (lv_at hl 6 rfl) ?_
      refine lv_iconst (v := (4 : Int32)) hx hb dX2_decryptBlock_193 (by decide) ?_
      refine z_ild hx hb hK hP 4 3 rfl rfl (v := x6) 4 (by decide) (by omega) (by decide) (rfl) dX2_decryptBlock_194 ?_
      refine lv_bipush (v := (6 : Int32)) hx hb dX2_decryptBlock_195 (by decide) ?_
      refine lv_iushr (v := (sh_us x6 (6 : Int32))) hx hb dX2_decryptBlock_197 rfl ?_
      refine lv_aload hx hb dX2_decryptBlock_198 (lv_at hl 6 rfl) ?_
      refine lv_iconst (v := (4 : Int32)) hx hb dX2_decryptBlock_200 (by decide) ?_
      refine z_ild hx hb hK hP 4 3 rfl rfl (v := x6) 4 (by decide) (by omega) (by decide) (rfl) dX2_decryptBlock_201 ?_
      refine lv_bipush (v := (-6 : Int32)) hx hb dX2_decryptBlock_202 (by decide) ?_
      refine lv_ishl hx hb dX2_decryptBlock_204 ?_
      refine lv_ior hx hb dX2_decryptBlock_205 ?_
      refine z_top (y := (sh_tr x6 (6 : Int32))) (sh_rot _ (by decide)) ?_
      refine lv_aload hx hb dX2_decryptBlock_206 (lv_at hl 6 rfl) ?_
      refine lv_iconst (v := (4 : Int32)) hx hb dX2_decryptBlock_208 (by decide) ?_
      refine z_ild hx hb hK hP 4 3 rfl rfl (v := x6) 4 (by decide) (by omega) (by decide) (rfl) dX2_decryptBlock_209 ?_
      refine lv_bipush (v := (11 : Int32)) hx hb dX2_decryptBlock_210 (by decide) ?_
      refine lv_iushr (v := (sh_us x6 (11 : Int32))) hx hb dX2_decryptBlock_212 rfl ?_
      refine lv_aload hx hb dX2_decryptBlock_213 (lv_at hl 6 rfl) ?_
      refine lv_iconst (v := (4 : Int32)) hx hb dX2_decryptBlock_215 (by decide) ?_
      refine z_ild hx hb hK hP 4 3 rfl rfl (v := x6) 4 (by decide) (by omega) (by decide) (rfl) dX2_decryptBlock_216 ?_
      refine lv_bipush (v := (-11 : Int32)) hx hb dX2_decryptBlock_217 (by decide) ?_
      refine lv_ishl hx hb dX2_decryptBlock_219 ?_
      refine lv_ior hx hb dX2_decryptBlock_220 ?_
      refine z_top (y := (sh_tr x6 (11 : Int32))) (sh_rot _ (by decide)) ?_
      refine lv_ixor hx hb dX2_decryptBlock_221 ?_
      refine lv_aload hx hb dX2_decryptBlock_222 (lv_at hl 6 rfl) ?_
      refine lv_iconst (v := (4 : Int32)) hx hb dX2_decryptBlock_224 (by decide) ?_
      refine z_ild hx hb hK hP 4 3 rfl rfl (v := x6) 4 (by decide) (by omega) (by decide) (rfl) dX2_decryptBlock_225 ?_
      refine lv_bipush (v := (25 : Int32)) hx hb dX2_decryptBlock_226 (by decide) ?_
      refine lv_iushr (v := (sh_us x6 (25 : Int32))) hx hb dX2_decryptBlock_228 rfl ?_
      refine lv_aload hx hb dX2_decryptBlock_229 (lv_at hl 6 rfl) ?_
      refine lv_iconst (v := (4 : Int32)) hx hb dX2_decryptBlock_231 (by decide) ?_
      refine z_ild hx hb hK hP 4 3 rfl rfl (v := x6) 4 (by decide) (by omega) (by decide) (rfl) dX2_decryptBlock_232 ?_
      refine lv_bipush (v := (-25 : Int32)) hx hb dX2_decryptBlock_233 (by decide) ?_
      refine lv_ishl hx hb dX2_decryptBlock_235 ?_
      refine lv_ior hx hb dX2_decryptBlock_236 ?_
      refine z_top (y := (sh_tr x6 (25 : Int32))) (sh_rot _ (by decide)) ?_
      refine lv_ixor hx hb dX2_decryptBlock_237 ?_
      refine z_top (y := (sh_S1 x6)) (rfl) ?_
      refine lv_isub hx hb dX2_decryptBlock_238 ?_
      refine lv_aload hx hb dX2_decryptBlock_239 (lv_at hl 6 rfl) ?_
      refine lv_iconst (v := (4 : Int32)) hx hb dX2_decryptBlock_241 (by decide) ?_
      refine z_ild hx hb hK hP 4 3 rfl rfl (v := x6) 4 (by decide) (by omega) (by decide) (rfl) dX2_decryptBlock_242 ?_
      refine lv_aload hx hb dX2_decryptBlock_243 (lv_at hl 6 rfl) ?_
      refine lv_iconst (v := (5 : Int32)) hx hb dX2_decryptBlock_245 (by decide) ?_
      refine z_ild hx hb hK hP 4 3 rfl rfl (v := x7) 5 (by decide) (by omega) (by decide) (rfl) dX2_decryptBlock_246 ?_
      refine lv_iand hx hb dX2_decryptBlock_247 ?_
      refine lv_aload hx hb dX2_decryptBlock_248 (lv_at hl 6 rfl) ?_
      refine lv_iconst (v := (4 : Int32)) hx hb dX2_decryptBlock_250 (by decide) ?_
      refine z_ild hx hb hK hP 4 3 rfl rfl (v := x6) 4 (by decide) (by omega) (by decide) (rfl) dX2_decryptBlock_251 ?_
      refine lv_iconst (v := (-1 : Int32)) hx hb dX2_decryptBlock_252 (by decide) ?_
      refine lv_ixor hx hb dX2_decryptBlock_253 ?_
      refine lv_aload hx hb dX2_decryptBlock_254 (lv_at hl 6 rfl) ?_
      refine lv_bipush (v := (6 : Int32)) hx hb dX2_decryptBlock_256 (by decide) ?_
      refine z_ild hx hb hK hP 4 3 rfl rfl (v := x8) 6 (by decide) (by omega) (by decide) (rfl) dX2_decryptBlock_258 ?_
      refine lv_iand hx hb dX2_decryptBlock_259 ?_
      refine lv_ixor hx hb dX2_decryptBlock_260 ?_
      refine z_top (y := (sh_ch x6 x7 x8)) (rfl) ?_
      refine lv_isub hx hb dX2_decryptBlock_261 ?_
      refine z_top (y := (((((x1 - (sh_t2 x2 x3 x4)) - (sh_S1 x6)) - (sh_ch x6 x7 x8)) - (sh_K r)) - (wf r))) (sh_subr _ _ _ _ _) ?_
      refine z_ist (f' := (sh_f8 (x2, x3, x4, (x5 - (x1 - (sh_t2 x2 x3 x4))), x6, x7, x8, (((((x1 - (sh_t2 x2 x3 x4)) - (sh_S1 x6)) - (sh_ch x6 x7 x8)) - (sh_K r)) - (wf r))))) hx hb hK hP hD hS 4 3 rfl rfl 7 (by decide) (by omega) (by decide) (sh_u7 _ _ _ _ _ _ _ _ _) dX2_decryptBlock_262 (fun H locs hP hD hS => ?_)
      have hP : va_P D zcl [(h0, .inr (2, [.int fe, .ref aw])), (aw, zar dw 64 wf), (ai, zar di 32 nf), (ao, zar dt 32 tf), (ab, zar db 8 (sh_f8 (x2, x3, x4, (x5 - (x1 - (sh_t2 x2 x3 x4))), x6, x7, x8, (((((x1 - (sh_t2 x2 x3 x4)) - (sh_S1 x6)) - (sh_ch x6 x7 x8)) - (sh_K r)) - (wf r)))))] H := hP
      have hD : va_D A [(h0, .inr (2, [.int fe, .ref aw])), (aw, zar dw 64 wf), (ai, zar di 32 nf), (ao, zar dt 32 tf), (ab, zar db 8 (sh_f8 (x2, x3, x4, (x5 - (x1 - (sh_t2 x2 x3 x4))), x6, x7, x8, (((((x1 - (sh_t2 x2 x3 x4)) - (sh_S1 x6)) - (sh_ch x6 x7 x8)) - (sh_K r)) - (wf r)))))] := hD
      refine lv_iinc (v := (sh_m r)) (lv' := [(6, .int (sh_m r)), (7, .int (x1 - (sh_t2 x2 x3 x4))), (0, .ref h0), (1, .ref ai), (2, .int (nI (4 * 0))), (3, .ref ao), (4, .int (nI (4 * 0))), (5, .ref ab)]) hx hb dX2_decryptBlock_263 hl (k := 7) rfl (sh_m_d r) (by decide) rfl (fun ls hl => ?_)
      refine lv_goto (tgt := 19) hx hb dX2_decryptBlock_266 (by decide) ?_
      exact ih (by omega) x2 x3 x4 (x5 - (x1 - (sh_t2 x2 x3 x4))) x6 x7 x8 (((((x1 - (sh_t2 x2 x3 x4)) - (sh_S1 x6)) - (sh_ch x6 x7 x8)) - (sh_K r)) - (wf r)) hE _ _ ls hK (hP.sub [0, 1, 2, 3, 4] rfl) (hD.sub [0, 1, 2, 3, 4] (by decide) rfl) hS (lv_sub hl [2, 3, 4, 5, 6, 7, 0] rfl)
  exact loop 64 (Nat.le_refl 64) (sh_asm nf 0) (sh_asm nf 1) (sh_asm nf 2) (sh_asm nf 3) (sh_asm nf 4) (sh_asm nf 5) (sh_asm nf 6) (sh_asm nf 7) rfl _ _ ls hK (hP.sub [0, 1, 2, 3, 4] rfl) (hD.sub [0, 1, 2, 3, 4] (by decide) rfl) hS (lv_sub hl [2, 3, 4, 5, 6, 1, 0] rfl)

set_option maxHeartbeats 4000000 in
set_option maxRecDepth 100000 in
theorem zX2_processBlock_1 (l : Launch) (D : va_G) (tk tc : Nat) (sz : Nat) (h0 aw ai ao : Nat) (dw di dt : ClassId) (wf nf tf : Nat → Int32) : Met l yX2_processBlock (ws_ yX2_processBlock cX2_processBlock 5 (some .int)) ({ frames := 2, cells := 1, slots := 8, locals := 60 }) (va_Pc [.ref h0, .ref ai, .int (nI (4 * 0)), .ref ao, .int (nI (4 * 0))] (zV tk tc D [(h0, .inr (2, [.int (1 : Int32), .ref aw])), (aw, zar dw 64 wf), (ai, zar di 32 nf), (ao, zar dt 32 tf)] [(dw, .int), (di, .byte), (dt, .byte)] sz)) (va_Qi (fun (_ : Int32) (_ : Unit) => True) (fun _ t => zB D [(h0, .inr (2, [.int (1 : Int32), .ref aw])), (aw, zar dw 64 wf), (ai, zar di 32 nf), (ao, zar dt 32 (sh_cp (sh_dis (sh_f8 (sh_enc sh_K wf (sh_x8 (sh_asm nf)) 64))) tf 32))] [(dw, .int), (di, .byte), (dt, .byte)] (va_A [(h0, .inr (2, [.int (1 : Int32), .ref aw])), (aw, zar dw 64 wf), (ai, zar di 32 nf), (ao, zar dt 32 tf)] sz) t) (va_A [(h0, .inr (2, [.int (1 : Int32), .ref aw])), (aw, zar dw 64 wf), (ai, zar di 32 nf), (ao, zar dt 32 tf)] sz)) 1 8 (va_A [(h0, .inr (2, [.int (1 : Int32), .ref aw])), (aw, zar dw 64 wf), (ai, zar di 32 nf), (ao, zar dt 32 tf)] sz) := by
  refine Met.ofW (cc := cX2_processBlock) (maxL := 5) (ret := (some .int)) (by decide) rfl ?_
  intro p e s m args below meth c s₁ B hml hv
  obtain ⟨rfl, ⟨hsz, hP, hK, hD0⟩, hZ⟩ := hv
  have hx := B.exec
  have hb := B.bytes
  have hr := B.returns
  have hts := atoms_spec (ws := (ws_ yX2_processBlock cX2_processBlock 5 (some .int))) B.pre
  have hts : ∀ w ∈ lw_all, w.before _ s = true := fun w h => hts w (List.mem_cons_of_mem _ h)
  have hown : s.vm.findClass RX2 = some m.cls := findClass_of_methodNamed B.named
  have hlocks := B.notSynchronized
  subst hsz
  have hD := hD0.self (sz := s.heap.size)
  generalize hAe : va_A [(h0, .inr (2, [.int (1 : Int32), .ref aw])), (aw, zar dw 64 wf), (ai, zar di 32 nf), (ao, zar dt 32 tf)] s.heap.size = A at hD hZ ⊢
  have hA : ∀ q : Nat, s.heap.size ≤ q → A q := fun q h => by rw [← hAe]; exact Or.inr h
  have hS : va_S A s.heap s.heap [] := va_S.rf
  have hl := lv_entry ([.ref h0, .ref ai, .int (nI (4 * 0)), .ref ao, .int (nI (4 * 0))]) (n := 5) (Nat.le_of_ble_eq_true rfl)
  rw [lg_entry_eq]
  generalize (lg_sl ([.ref h0, .ref ai, .int (nI (4 * 0)), .ref ao, .int (nI (4 * 0))]) ++ List.replicate (5 - (lg_sl ([.ref h0, .ref ai, .int (nI (4 * 0)), .ref ao, .int (nI (4 * 0))])).length) Slot.unset).toArray = ls at hl ⊢
  have hl : lv_has ls 5 [(0, .ref h0), (1, .ref ai), (2, .int (nI (4 * 0))), (3, .ref ao), (4, .int (nI (4 * 0)))] := hl
  have hP : va_P D zcl [(h0, .inr (2, [.int (1 : Int32), .ref aw])), (aw, zar dw 64 wf), (ai, zar di 32 nf), (ao, zar dt 32 tf)] s.heap := hP
  refine lv_aload_n hx hb dX2_processBlock_0 rfl (lv_at hl 0 rfl) ?_
  refine va_get (D := D) (ci := 2) (v := .ref aw) (C := RX2) (T := TX2) (N := 2) hx hb hts in_X2 hown hK hP 0 rfl rfl 1 (by decide) (hts _ q68) (fun _ h9 => h9) rfl dX2_processBlock_1 ?_
  refine lv_ifnonnull (tgt := 17) hx hb dX2_processBlock_4 (by decide) ?_
  refine lv_iload_n hx hb dX2_processBlock_17 rfl (lv_at hl 2 rfl) ?_
  refine lv_bipush (v := (32 : Int32)) hx hb dX2_processBlock_18 (by decide) ?_
  refine lv_iadd hx hb dX2_processBlock_20 ?_
  refine lv_aload_n hx hb dX2_processBlock_21 rfl (lv_at hl 1 rfl) ?_
  refine va_alen (v := (32 : Int32)) hx hb hK hP 2 1 rfl rfl rfl dX2_processBlock_22 ?_
  refine z_le_t (tgt := 36) hx hb dX2_processBlock_23 (by decide) (by decide) ?_
  refine lv_iload hx hb dX2_processBlock_36 (lv_at hl 4 rfl) ?_
  refine lv_bipush (v := (32 : Int32)) hx hb dX2_processBlock_38 (by decide) ?_
  refine lv_iadd hx hb dX2_processBlock_40 ?_
  refine lv_aload_n hx hb dX2_processBlock_41 rfl (lv_at hl 3 rfl) ?_
  refine va_alen (v := (32 : Int32)) hx hb hK hP 3 2 rfl rfl rfl dX2_processBlock_42 ?_
  refine z_le_t (tgt := 56) hx hb dX2_processBlock_43 (by decide) (by decide) ?_
  refine lv_aload_n hx hb dX2_processBlock_56 rfl (lv_at hl 0 rfl) ?_
  refine va_get (D := D) (ci := 2) (v := .int (1 : Int32)) (C := RX2) (T := TX2) (N := 2) hx hb hts in_X2 hown hK hP 0 rfl rfl 0 (by decide) (hts _ q67) (fun _ h9 => h9) rfl dX2_processBlock_57 ?_
  refine z_if_eq_f (tgt := 75) hx hb dX2_processBlock_60 (by decide) (by decide) ?_
  refine lv_aload_n hx hb dX2_processBlock_63 rfl (lv_at hl 0 rfl) ?_
  refine lv_aload_n hx hb dX2_processBlock_64 rfl (lv_at hl 1 rfl) ?_
  refine lv_iload_n hx hb dX2_processBlock_65 rfl (lv_at hl 2 rfl) ?_
  refine lv_aload_n hx hb dX2_processBlock_66 rfl (lv_at hl 3 rfl) ?_
  refine lv_iload hx hb dX2_processBlock_67 (lv_at hl 4 rfl) ?_
  have hPc := hP.sub (ws' := [(h0, .inr (2, [.int (1 : Int32), .ref aw])), (aw, zar dw 64 wf), (ai, zar di 32 nf), (ao, zar dt 32 tf)]) [0, 1, 2, 3] rfl
  have hDc := hD.sub (ws' := [(h0, .inr (2, [.int (1 : Int32), .ref aw])), (aw, zar dw 64 wf), (ai, zar di 32 nf), (ao, zar dt 32 tf)]) [0, 1, 2, 3] (by decide) rfl
  have hKc := hK.sub (tys' := [(dw, .int), (di, .byte), (dt, .byte)]) [0, 1, 2] rfl
  have hFc := va_free (wc := [(h0, .inr (2, [.int (1 : Int32), .ref aw])), (aw, zar dw 64 wf), (ai, zar di 32 nf), (ao, zar dt 32 tf)]) hD hS hA [0, 1, 2, 3] rfl
  refine va_callv (va_runV (As := [.ref ai, .int (nI (4 * 0)), .ref ao, .int (nI (4 * 0))]) (rest := []) ⟨hx, hb, hml, hown, hts⟩ (zX2_encryptBlock l D tk tc _ h0 aw ai ao dw di dt (1 : Int32) wf nf tf) (cwV 4 hts (lw_V q248 q250 qs3 q12 q251) rfl rfl rfl (by decide +kernel) ⟨(Nat.le_of_ble_eq_true rfl), (Nat.le_of_ble_eq_true rfl)⟩) (z_preVE [.ref ai, .int (nI (4 * 0)), .ref ao, .int (nI (4 * 0))] hPc hKc hDc hZ hS hFc (va_recv hKc hPc (ci := 2) (q0 := 0) rfl rfl)) rfl rfl hl.1 rfl (lv_room (Nat.le_of_ble_eq_true rfl)) dX2_processBlock_69 ⟨(Nat.le_of_ble_eq_true rfl), (Nat.le_of_ble_eq_true rfl)⟩) hS (fun q _ h => hFc q h) hFc (fun u t H1 locs ht hvm hw_1 hB hz1 hk1 hS => ?_)
  obtain ⟨hP1, hK1, hD1⟩ := hB
  rw [ht] at hP1
  have hK1 := va_K.moved hvm.symm hK1
  obtain ⟨hP, hD⟩ := va_join (wr := []) (w1 := [(h0, .inr (2, [.int (1 : Int32), .ref aw])), (aw, zar dw 64 wf), (ai, zar di 32 nf), (ao, zar dt 32 (sh_cp (sh_dis (sh_f8 (sh_enc sh_K wf (sh_x8 (sh_asm nf)) 64))) tf 32))]) hP hD [0, 1, 2, 3] [] rfl rfl (by decide) (by decide) hk1 hFc hP1 hD1
  generalize H1 = H at hP hS ⊢
  have hP := hP.sub (ws' := [(h0, .inr (2, [.int (1 : Int32), .ref aw])), (aw, zar dw 64 wf), (ai, zar di 32 nf), (ao, zar dt 32 (sh_cp (sh_dis (sh_f8 (sh_enc sh_K wf (sh_x8 (sh_asm nf)) 64))) tf 32))]) [0, 1, 2, 3] rfl
  have hD := hD.sub (ws' := [(h0, .inr (2, [.int (1 : Int32), .ref aw])), (aw, zar dw 64 wf), (ai, zar di 32 nf), (ao, zar dt 32 (sh_cp (sh_dis (sh_f8 (sh_enc sh_K wf (sh_x8 (sh_asm nf)) 64))) tf 32))]) [0, 1, 2, 3] (by decide) rfl
  refine W.widen (k := 1) (n := 8) (Nat.le_of_ble_eq_true rfl) (Nat.le_of_ble_eq_true rfl) ?_
  refine lv_goto (tgt := 84) hx hb dX2_processBlock_72 (by decide) ?_
  refine lv_bipush (v := (32 : Int32)) hx hb dX2_processBlock_84 (by decide) ?_
  have hP9 := hP.sub (ws' := [(h0, .inr (2, [.int (1 : Int32), .ref aw])), (aw, zar dw 64 wf), (ai, zar di 32 nf), (ao, zar dt 32 (sh_cp (sh_dis (sh_f8 (sh_enc sh_K wf (sh_x8 (sh_asm nf)) 64))) tf 32))]) [0, 1, 2, 3] rfl
  have hD9 := hD.sub (ws' := [(h0, .inr (2, [.int (1 : Int32), .ref aw])), (aw, zar dw 64 wf), (ai, zar di 32 nf), (ao, zar dt 32 (sh_cp (sh_dis (sh_f8 (sh_enc sh_K wf (sh_x8 (sh_asm nf)) 64))) tf 32))]) [0, 1, 2, 3] (by decide) rfl
  have hK9 := hK.sub (tys' := [(dw, .int), (di, .byte), (dt, .byte)]) [0, 1, 2] rfl
  refine W.widen (k := 1) (n := 8) (Nat.le_of_ble_eq_true rfl) (Nat.le_of_ble_eq_true rfl) ?_
  exact W.iret (v := (32 : Int32)) hx hb hr (fun t ht hW => ⟨⟨_, (), rfl, trivial, by rw [ht]; exact hP9, va_K.moved hW.alike hK9, hD9⟩, hS.F ht⟩) hS.2.2 dX2_processBlock_86

set_option maxHeartbeats 4000000 in
set_option maxRecDepth 100000 in
theorem zX2_processBlock_0 (l : Launch) (D : va_G) (tk tc : Nat) (sz : Nat) (h0 aw ai ao : Nat) (dw di dt : ClassId) (wf nf tf : Nat → Int32) : Met l yX2_processBlock (ws_ yX2_processBlock cX2_processBlock 5 (some .int)) ({ frames := 2, cells := 1, slots := 8, locals := 60 }) (va_Pc [.ref h0, .ref ai, .int (nI (4 * 0)), .ref ao, .int (nI (4 * 0))] (zV tk tc D [(h0, .inr (2, [.int (0 : Int32), .ref aw])), (aw, zar dw 64 wf), (ai, zar di 32 nf), (ao, zar dt 32 tf)] [(dw, .int), (di, .byte), (dt, .byte)] sz)) (va_Qi (fun (_ : Int32) (_ : Unit) => True) (fun _ t => zB D [(h0, .inr (2, [.int (0 : Int32), .ref aw])), (aw, zar dw 64 wf), (ai, zar di 32 nf), (ao, zar dt 32 (sh_cp (sh_dis (sh_f8 (sh_dec sh_K wf 64 (sh_x8 (sh_asm nf))))) tf 32))] [(dw, .int), (di, .byte), (dt, .byte)] (va_A [(h0, .inr (2, [.int (0 : Int32), .ref aw])), (aw, zar dw 64 wf), (ai, zar di 32 nf), (ao, zar dt 32 tf)] sz) t) (va_A [(h0, .inr (2, [.int (0 : Int32), .ref aw])), (aw, zar dw 64 wf), (ai, zar di 32 nf), (ao, zar dt 32 tf)] sz)) 1 8 (va_A [(h0, .inr (2, [.int (0 : Int32), .ref aw])), (aw, zar dw 64 wf), (ai, zar di 32 nf), (ao, zar dt 32 tf)] sz) := by
  refine Met.ofW (cc := cX2_processBlock) (maxL := 5) (ret := (some .int)) (by decide) rfl ?_
  intro p e s m args below meth c s₁ B hml hv
  obtain ⟨rfl, ⟨hsz, hP, hK, hD0⟩, hZ⟩ := hv
  have hx := B.exec
  have hb := B.bytes
  have hr := B.returns
  have hts := atoms_spec (ws := (ws_ yX2_processBlock cX2_processBlock 5 (some .int))) B.pre
  have hts : ∀ w ∈ lw_all, w.before _ s = true := fun w h => hts w (List.mem_cons_of_mem _ h)
  have hown : s.vm.findClass RX2 = some m.cls := findClass_of_methodNamed B.named
  have hlocks := B.notSynchronized
  subst hsz
  have hD := hD0.self (sz := s.heap.size)
  generalize hAe : va_A [(h0, .inr (2, [.int (0 : Int32), .ref aw])), (aw, zar dw 64 wf), (ai, zar di 32 nf), (ao, zar dt 32 tf)] s.heap.size = A at hD hZ ⊢
  have hA : ∀ q : Nat, s.heap.size ≤ q → A q := fun q h => by rw [← hAe]; exact Or.inr h
  have hS : va_S A s.heap s.heap [] := va_S.rf
  have hl := lv_entry ([.ref h0, .ref ai, .int (nI (4 * 0)), .ref ao, .int (nI (4 * 0))]) (n := 5) (Nat.le_of_ble_eq_true rfl)
  rw [lg_entry_eq]
  generalize (lg_sl ([.ref h0, .ref ai, .int (nI (4 * 0)), .ref ao, .int (nI (4 * 0))]) ++ List.replicate (5 - (lg_sl ([.ref h0, .ref ai, .int (nI (4 * 0)), .ref ao, .int (nI (4 * 0))])).length) Slot.unset).toArray = ls at hl ⊢
  have hl : lv_has ls 5 [(0, .ref h0), (1, .ref ai), (2, .int (nI (4 * 0))), (3, .ref ao), (4, .int (nI (4 * 0)))] := hl
  have hP : va_P D zcl [(h0, .inr (2, [.int (0 : Int32), .ref aw])), (aw, zar dw 64 wf), (ai, zar di 32 nf), (ao, zar dt 32 tf)] s.heap := hP
  refine lv_aload_n hx hb dX2_processBlock_0 rfl (lv_at hl 0 rfl) ?_
  refine va_get (D := D) (ci := 2) (v := .ref aw) (C := RX2) (T := TX2) (N := 2) hx hb hts in_X2 hown hK hP 0 rfl rfl 1 (by decide) (hts _ q68) (fun _ h9 => h9) rfl dX2_processBlock_1 ?_
  refine lv_ifnonnull (tgt := 17) hx hb dX2_processBlock_4 (by decide) ?_
  refine lv_iload_n hx hb dX2_processBlock_17 rfl (lv_at hl 2 rfl) ?_
  refine lv_bipush (v := (32 : Int32)) hx hb dX2_processBlock_18 (by decide) ?_
  refine lv_iadd hx hb dX2_processBlock_20 ?_
  refine lv_aload_n hx hb dX2_processBlock_21 rfl (lv_at hl 1 rfl) ?_
  refine va_alen (v := (32 : Int32)) hx hb hK hP 2 1 rfl rfl rfl dX2_processBlock_22 ?_
  refine z_le_t (tgt := 36) hx hb dX2_processBlock_23 (by decide) (by decide) ?_
  refine lv_iload hx hb dX2_processBlock_36 (lv_at hl 4 rfl) ?_
  refine lv_bipush (v := (32 : Int32)) hx hb dX2_processBlock_38 (by decide) ?_
  refine lv_iadd hx hb dX2_processBlock_40 ?_
  refine lv_aload_n hx hb dX2_processBlock_41 rfl (lv_at hl 3 rfl) ?_
  refine va_alen (v := (32 : Int32)) hx hb hK hP 3 2 rfl rfl rfl dX2_processBlock_42 ?_
  refine z_le_t (tgt := 56) hx hb dX2_processBlock_43 (by decide) (by decide) ?_
  refine lv_aload_n hx hb dX2_processBlock_56 rfl (lv_at hl 0 rfl) ?_
  refine va_get (D := D) (ci := 2) (v := .int (0 : Int32)) (C := RX2) (T := TX2) (N := 2) hx hb hts in_X2 hown hK hP 0 rfl rfl 0 (by decide) (hts _ q67) (fun _ h9 => h9) rfl dX2_processBlock_57 ?_
  refine z_if_eq_t (tgt := 75) hx hb dX2_processBlock_60 (by decide) (by decide) ?_
  refine lv_aload_n hx hb dX2_processBlock_75 rfl (lv_at hl 0 rfl) ?_
  refine lv_aload_n hx hb dX2_processBlock_76 rfl (lv_at hl 1 rfl) ?_
  refine lv_iload_n hx hb dX2_processBlock_77 rfl (lv_at hl 2 rfl) ?_
  refine lv_aload_n hx hb dX2_processBlock_78 rfl (lv_at hl 3 rfl) ?_
  refine lv_iload hx hb dX2_processBlock_79 (lv_at hl 4 rfl) ?_
  have hPc := hP.sub (ws' := [(h0, .inr (2, [.int (0 : Int32), .ref aw])), (aw, zar dw 64 wf), (ai, zar di 32 nf), (ao, zar dt 32 tf)]) [0, 1, 2, 3] rfl
  have hDc := hD.sub (ws' := [(h0, .inr (2, [.int (0 : Int32), .ref aw])), (aw, zar dw 64 wf), (ai, zar di 32 nf), (ao, zar dt 32 tf)]) [0, 1, 2, 3] (by decide) rfl
  have hKc := hK.sub (tys' := [(dw, .int), (di, .byte), (dt, .byte)]) [0, 1, 2] rfl
  have hFc := va_free (wc := [(h0, .inr (2, [.int (0 : Int32), .ref aw])), (aw, zar dw 64 wf), (ai, zar di 32 nf), (ao, zar dt 32 tf)]) hD hS hA [0, 1, 2, 3] rfl
  refine va_callv (va_runV (As := [.ref ai, .int (nI (4 * 0)), .ref ao, .int (nI (4 * 0))]) (rest := []) ⟨hx, hb, hml, hown, hts⟩ (zX2_decryptBlock l D tk tc _ h0 aw ai ao dw di dt (0 : Int32) wf nf tf) (cwV 4 hts (lw_V q262 q264 qs6 q12 q265) rfl rfl rfl (by decide +kernel) ⟨(Nat.le_of_ble_eq_true rfl), (Nat.le_of_ble_eq_true rfl)⟩) (z_preVE [.ref ai, .int (nI (4 * 0)), .ref ao, .int (nI (4 * 0))] hPc hKc hDc hZ hS hFc (va_recv hKc hPc (ci := 2) (q0 := 0) rfl rfl)) rfl rfl hl.1 rfl (lv_room (Nat.le_of_ble_eq_true rfl)) dX2_processBlock_81 ⟨(Nat.le_of_ble_eq_true rfl), (Nat.le_of_ble_eq_true rfl)⟩) hS (fun q _ h => hFc q h) hFc (fun u t H1 locs ht hvm hw_1 hB hz1 hk1 hS => ?_)
  obtain ⟨hP1, hK1, hD1⟩ := hB
  rw [ht] at hP1
  have hK1 := va_K.moved hvm.symm hK1
  obtain ⟨hP, hD⟩ := va_join (wr := []) (w1 := [(h0, .inr (2, [.int (0 : Int32), .ref aw])), (aw, zar dw 64 wf), (ai, zar di 32 nf), (ao, zar dt 32 (sh_cp (sh_dis (sh_f8 (sh_dec sh_K wf 64 (sh_x8 (sh_asm nf))))) tf 32))]) hP hD [0, 1, 2, 3] [] rfl rfl (by decide) (by decide) hk1 hFc hP1 hD1
  generalize H1 = H at hP hS ⊢
  have hP := hP.sub (ws' := [(h0, .inr (2, [.int (0 : Int32), .ref aw])), (aw, zar dw 64 wf), (ai, zar di 32 nf), (ao, zar dt 32 (sh_cp (sh_dis (sh_f8 (sh_dec sh_K wf 64 (sh_x8 (sh_asm nf))))) tf 32))]) [0, 1, 2, 3] rfl
  have hD := hD.sub (ws' := [(h0, .inr (2, [.int (0 : Int32), .ref aw])), (aw, zar dw 64 wf), (ai, zar di 32 nf), (ao, zar dt 32 (sh_cp (sh_dis (sh_f8 (sh_dec sh_K wf 64 (sh_x8 (sh_asm nf))))) tf 32))]) [0, 1, 2, 3] (by decide) rfl
  refine W.widen (k := 1) (n := 8) (Nat.le_of_ble_eq_true rfl) (Nat.le_of_ble_eq_true rfl) ?_
  refine lv_bipush (v := (32 : Int32)) hx hb dX2_processBlock_84 (by decide) ?_
  have hP9 := hP.sub (ws' := [(h0, .inr (2, [.int (0 : Int32), .ref aw])), (aw, zar dw 64 wf), (ai, zar di 32 nf), (ao, zar dt 32 (sh_cp (sh_dis (sh_f8 (sh_dec sh_K wf 64 (sh_x8 (sh_asm nf))))) tf 32))]) [0, 1, 2, 3] rfl
  have hD9 := hD.sub (ws' := [(h0, .inr (2, [.int (0 : Int32), .ref aw])), (aw, zar dw 64 wf), (ai, zar di 32 nf), (ao, zar dt 32 (sh_cp (sh_dis (sh_f8 (sh_dec sh_K wf 64 (sh_x8 (sh_asm nf))))) tf 32))]) [0, 1, 2, 3] (by decide) rfl
  have hK9 := hK.sub (tys' := [(dw, .int), (di, .byte), (dt, .byte)]) [0, 1, 2] rfl
  refine W.widen (k := 1) (n := 8) (Nat.le_of_ble_eq_true rfl) (Nat.le_of_ble_eq_true rfl) ?_
  exact W.iret (v := (32 : Int32)) hx hb hr (fun t ht hW => ⟨⟨_, (), rfl, trivial, by rw [ht]; exact hP9, va_K.moved hW.alike hK9, hD9⟩, hS.F ht⟩) hS.2.2 dX2_processBlock_86

set_option maxHeartbeats 4000000 in
set_option maxRecDepth 100000 in
theorem zX2_init_2 (l : Launch) (D : va_G) (sz : Nat) (h0 kp ak : Nat) (dk : ClassId) (kf : Nat → Int32) (lk : Int32) (hlk : lk = 0 ∨ lk = 1) : Met l yX2_init_2 (ws_ yX2_init_2 cX2_init_2 5 none) ({ frames := 2, cells := 1, slots := 64, locals := 50 }) (va_Pc [.ref h0, .int lk, .ref kp] (zW D [(h0, .inr (2, [.int (0 : Int32), .null])), (kp, .inr (3, [.ref ak])), (ak, zar dk 64 kf)] [(dk, .byte)] sz)) (va_Qv (fun _ : Unit => True) (fun _ t => ∃ (aw : Nat) (dw : ClassId), zB D [(h0, .inr (2, [.int lk, .ref aw])), (kp, .inr (3, [.ref ak])), (ak, zar dk 64 kf), (aw, zar dw 64 (sh_sch (sh_asm kf)))] [(dk, .byte), (dw, .int)] (va_A [(h0, .inr (2, [.int (0 : Int32), .null])), (kp, .inr (3, [.ref ak])), (ak, zar dk 64 kf)] sz) t) (va_A [(h0, .inr (2, [.int (0 : Int32), .null])), (kp, .inr (3, [.ref ak])), (ak, zar dk 64 kf)] sz)) 1 64 (va_A [(h0, .inr (2, [.int (0 : Int32), .null])), (kp, .inr (3, [.ref ak])), (ak, zar dk 64 kf)] sz) := by
  refine Met.ofW (cc := cX2_init_2) (maxL := 5) (ret := none) (by decide) rfl ?_
  intro p e s m args below meth c s₁ B hml hv
  obtain ⟨rfl, hsz, hP, hK, hD0⟩ := hv
  have hx := B.exec
  have hb := B.bytes
  have hr := B.returns
  have hts := atoms_spec (ws := (ws_ yX2_init_2 cX2_init_2 5 none)) B.pre
  have hts : ∀ w ∈ lw_all, w.before _ s = true := fun w h => hts w (List.mem_cons_of_mem _ h)
  have hown : s.vm.findClass RX2 = some m.cls := findClass_of_methodNamed B.named
  have hlocks := B.notSynchronized
  subst hsz
  have hD := hD0.self (sz := s.heap.size)
  generalize hAe : va_A [(h0, .inr (2, [.int (0 : Int32), .null])), (kp, .inr (3, [.ref ak])), (ak, zar dk 64 kf)] s.heap.size = A at hD ⊢
  have hA : ∀ q : Nat, s.heap.size ≤ q → A q := fun q h => by rw [← hAe]; exact Or.inr h
  have hS : va_S A s.heap s.heap [] := va_S.rf
  have hl := lv_entry ([.ref h0, .int lk, .ref kp]) (n := 5) (Nat.le_of_ble_eq_true rfl)
  rw [lg_entry_eq]
  generalize (lg_sl ([.ref h0, .int lk, .ref kp]) ++ List.replicate (5 - (lg_sl ([.ref h0, .int lk, .ref kp])).length) Slot.unset).toArray = ls at hl ⊢
  have hl : lv_has ls 5 [(0, .ref h0), (1, .int lk), (2, .ref kp)] := hl
  have hP : va_P D zcl [(h0, .inr (2, [.int (0 : Int32), .null])), (kp, .inr (3, [.ref ak])), (ak, zar dk 64 kf)] s.heap := hP
  refine lv_aload_n hx hb dX2_init_2_0 rfl (lv_at hl 2 rfl) ?_
  refine va_instS hx hb hown (hts _ q103) ((hK.1 3 _ rfl).2) (va_recv hK hP (ci := 3) (q0 := 1) rfl rfl) dX2_init_2_1 ?_
  refine z_if_ne_t (tgt := 17) hx hb dX2_init_2_4 (by decide) (by decide) ?_
  refine lv_aload_n hx hb dX2_init_2_17 rfl (lv_at hl 0 rfl) ?_
  refine lv_iload_n hx hb dX2_init_2_18 rfl (lv_at hl 1 rfl) ?_
  refine va_put (D := D) (ci := 2) (v := .int lk) (ty := .boolean) (C := RX2) (T := TX2) (N := 2) hx hb hts in_X2 tyX2 tyX2_ok nmX2 hown hK hP hD hS 0 rfl rfl 0 (by decide) (hts _ q67) (fun _ h9 => h9) rfl (by decide +kernel) (by rcases hlk with h | h <;> rw [h] <;> rfl) (by rcases hlk with h | h <;> rw [h] <;> rfl) (Nat.le_of_ble_eq_true rfl) dX2_init_2_19 (fun H locs hP hD hS => ?_)
  have hP : va_P D zcl [(h0, .inr (2, [.int lk, .null])), (kp, .inr (3, [.ref ak])), (ak, zar dk 64 kf)] H := hP
  have hD : va_D A [(h0, .inr (2, [.int lk, .null])), (kp, .inr (3, [.ref ak])), (ak, zar dk 64 kf)] := hD
  refine lv_aload_n hx hb dX2_init_2_22 rfl (lv_at hl 0 rfl) ?_
  refine lv_bipush (v := (64 : Int32)) hx hb dX2_init_2_23 (by decide) ?_
  refine va_newa (atype := .int) (ty := .int) (N' := 64) (a0 := (64, .inl sh_z)) hx hb (hts _ q210) rfl hK hP hD hS hA (fun _ => rfl) (by decide) (by decide) (by decide) (Nat.le_of_ble_eq_true rfl) (Nat.le_of_ble_eq_true rfl) dX2_init_2_25 (fun aw dw H hK hP hD hS => ?_)
  have hK : va_K D zcl [(dk, .byte), (dw, .int)] s := hK
  have hP : va_P D zcl [(h0, .inr (2, [.int lk, .null])), (kp, .inr (3, [.ref ak])), (ak, zar dk 64 kf), (aw, zar dw 64 sh_z)] H := hP
  have hD : va_D A [(h0, .inr (2, [.int lk, .null])), (kp, .inr (3, [.ref ak])), (ak, zar dk 64 kf), (aw, zar dw 64 sh_z)] := hD
  refine W.widen (k := 1) (n := 64) (Nat.le_of_ble_eq_true rfl) (Nat.le_of_ble_eq_true rfl) ?_
  refine va_put (D := D) (ci := 2) (v := .ref aw) (ty := .array .int) (C := RX2) (T := TX2) (N := 2) hx hb hts in_X2 tyX2 tyX2_ok nmX2 hown hK hP hD hS 0 rfl rfl 1 (by decide) (hts _ q68) (fun _ h9 => h9) rfl (by decide +kernel) rfl rfl (Nat.le_of_ble_eq_true rfl) dX2_init_2_27 (fun H locs hP hD hS => ?_)
  have hP : va_P D zcl [(h0, .inr (2, [.int lk, .ref aw])), (kp, .inr (3, [.ref ak])), (ak, zar dk 64 kf), (aw, zar dw 64 sh_z)] H := hP
  have hD : va_D A [(h0, .inr (2, [.int lk, .ref aw])), (kp, .inr (3, [.ref ak])), (ak, zar dk 64 kf), (aw, zar dw 64 sh_z)] := hD
  refine lv_aload_n hx hb dX2_init_2_30 rfl (lv_at hl 2 rfl) ?_
  refine va_castS hx hb hown (hts _ q103) ((hK.1 3 _ rfl).2) (va_recv hK hP (ci := 3) (q0 := 1) rfl rfl) dX2_init_2_31 ?_
  have hPc := hP.sub (ws' := [(kp, .inr (3, [.ref ak]))]) [1] rfl
  have hDc := hD.sub (ws' := [(kp, .inr (3, [.ref ak]))]) [1] (by decide) rfl
  have hKc := hK.sub (tys' := []) [] rfl
  have hFc := va_free (wc := [(kp, .inr (3, [.ref ak]))]) hD hS hA [1] rfl
  refine va_callr (va_runV (As := []) (rest := []) ⟨hx, hb, hml, hown, hts⟩ (zX3_getKey l D _ kp ak) (cwV 0 hts (lw_V q172 q173 q174 q13 q175) rfl rfl rfl (by decide +kernel) ⟨(Nat.le_of_ble_eq_true rfl), (Nat.le_of_ble_eq_true rfl)⟩) (z_preV [] hPc hKc hDc (va_recv hKc hPc (ci := 3) (q0 := 0) rfl rfl)) rfl rfl hl.1 rfl (lv_room (Nat.le_of_ble_eq_true rfl)) dX2_init_2_34 ⟨(Nat.le_of_ble_eq_true rfl), (Nat.le_of_ble_eq_true rfl)⟩) hS (fun q _ h => hFc q h) hFc (fun u qk t H1 locs ht hvm hw_3 hB hz1 hk1 hS => ?_)
  obtain ⟨hqe, hP1, hK1, hD1⟩ := hB
  rw [ht] at hP1
  have hK1 := va_K.moved hvm.symm hK1
  obtain ⟨hP, hD⟩ := va_join (wr := [(h0, .inr (2, [.int lk, .ref aw])), (ak, zar dk 64 kf), (aw, zar dw 64 sh_z)]) (w1 := [(kp, .inr (3, [.ref ak]))]) hP hD [1] [0, 2, 3] rfl rfl (by decide) (by decide) hk1 hFc hP1 hD1
  generalize H1 = H at hP hS ⊢
  have hP := hP.sub (ws' := [(h0, .inr (2, [.int lk, .ref aw])), (kp, .inr (3, [.ref ak])), (ak, zar dk 64 kf), (aw, zar dw 64 sh_z)]) [0, 3, 1, 2] rfl
  have hD := hD.sub (ws' := [(h0, .inr (2, [.int lk, .ref aw])), (kp, .inr (3, [.ref ak])), (ak, zar dk 64 kf), (aw, zar dw 64 sh_z)]) [0, 3, 1, 2] (by decide) rfl
  rw [hqe]
  refine lv_astore_n (lv' := [(3, .ref ak), (0, .ref h0), (1, .int lk), (2, .ref kp)]) hx hb dX2_init_2_37 rfl hl (by decide) rfl (fun ls hl => ?_)
  refine lv_aload_n hx hb dX2_init_2_38 rfl (lv_at hl 1 rfl) ?_
  refine lv_aload_n hx hb dX2_init_2_39 rfl (lv_at hl 0 rfl) ?_
  have hPc := hP.sub (ws' := [(h0, .inr (2, [.int lk, .ref aw])), (ak, zar dk 64 kf), (aw, zar dw 64 sh_z)]) [0, 2, 3] rfl
  have hDc := hD.sub (ws' := [(h0, .inr (2, [.int lk, .ref aw])), (ak, zar dk 64 kf), (aw, zar dw 64 sh_z)]) [0, 2, 3] (by decide) rfl
  have hKc := hK.sub (tys' := [(dk, .byte), (dw, .int)]) [0, 1] rfl
  have hFc := va_free (wc := [(h0, .inr (2, [.int lk, .ref aw])), (ak, zar dk 64 kf), (aw, zar dw 64 sh_z)]) hD hS hA [0, 2, 3] rfl
  refine va_callv (va_runV (As := [.ref ak]) (rest := []) ⟨hx, hb, hml, hown, hts⟩ (zX2_setKey l D _ h0 ak aw dk dw lk kf sh_z) (cwV 1 hts (lw_V q176 q177 q178 q12 q179) rfl rfl rfl (by decide +kernel) ⟨(Nat.le_of_ble_eq_true rfl), (Nat.le_of_ble_eq_true rfl)⟩) (z_preV [.ref ak] hPc hKc hDc (va_recv hKc hPc (ci := 2) (q0 := 0) rfl rfl)) rfl rfl hl.1 rfl (lv_room (Nat.le_of_ble_eq_true rfl)) dX2_init_2_40 ⟨(Nat.le_of_ble_eq_true rfl), (Nat.le_of_ble_eq_true rfl)⟩) hS (fun q _ h => hFc q h) hFc (fun u t H1 locs ht hvm hw_4 hB hz1 hk1 hS => ?_)
  obtain ⟨hP1, hK1, hD1⟩ := hB
  rw [ht] at hP1
  have hK1 := va_K.moved hvm.symm hK1
  obtain ⟨hP, hD⟩ := va_join (wr := [(kp, .inr (3, [.ref ak]))]) (w1 := [(h0, .inr (2, [.int lk, .ref aw])), (ak, zar dk 64 kf), (aw, zar dw 64 (sh_sch (sh_asm kf)))]) hP hD [0, 2, 3] [1] rfl rfl (by decide) (by decide) hk1 hFc hP1 hD1
  generalize H1 = H at hP hS ⊢
  have hP := hP.sub (ws' := [(h0, .inr (2, [.int lk, .ref aw])), (kp, .inr (3, [.ref ak])), (ak, zar dk 64 kf), (aw, zar dw 64 (sh_sch (sh_asm kf)))]) [1, 0, 2, 3] rfl
  have hD := hD.sub (ws' := [(h0, .inr (2, [.int lk, .ref aw])), (kp, .inr (3, [.ref ak])), (ak, zar dk 64 kf), (aw, zar dw 64 (sh_sch (sh_asm kf)))]) [1, 0, 2, 3] (by decide) rfl
  refine lv_aload_n hx hb dX2_init_2_43 rfl (lv_at hl 0 rfl) ?_
  refine va_alen (v := (64 : Int32)) hx hb hK hP 2 0 rfl rfl rfl dX2_init_2_44 ?_
  refine lv_bipush (v := (8 : Int32)) hx hb dX2_init_2_45 (by decide) ?_
  refine lv_imul hx hb dX2_init_2_47 ?_
  refine lv_istore (lv' := [(4, .int ((64 : Int32) * (8 : Int32))), (3, .ref ak), (0, .ref h0), (1, .int lk), (2, .ref kp)]) hx hb dX2_init_2_48 hl (by decide) rfl (fun ls hl => ?_)
  have hP9 := hP.sub (ws' := [(h0, .inr (2, [.int lk, .ref aw])), (kp, .inr (3, [.ref ak])), (ak, zar dk 64 kf), (aw, zar dw 64 (sh_sch (sh_asm kf)))]) [0, 1, 2, 3] rfl
  have hD9 := hD.sub (ws' := [(h0, .inr (2, [.int lk, .ref aw])), (kp, .inr (3, [.ref ak])), (ak, zar dk 64 kf), (aw, zar dw 64 (sh_sch (sh_asm kf)))]) [0, 1, 2, 3] (by decide) rfl
  have hK9 := hK.sub (tys' := [(dk, .byte), (dw, .int)]) [0, 1] rfl
  refine W.widen (k := 1) (n := 64) (Nat.le_of_ble_eq_true rfl) (Nat.le_of_ble_eq_true rfl) ?_
  exact W.vret hx hb hr (fun t ht hW => ⟨⟨(), rfl, trivial, aw, dw, by rw [ht]; exact hP9, va_K.moved hW.alike hK9, hD9⟩, hS.F ht⟩) hS.2.2 dX2_init_2_50
end
section
set_option maxHeartbeats 4000000 in
set_option maxRecDepth 100000 in
theorem zX0_init (l : Launch) (D : va_G) (sz : Nat) (h0 : Nat) : Met l yX0_init (ws_ yX0_init cX0_init 1 none) ({ frames := 1, cells := 3, slots := 128, locals := 12 }) (va_Pc [.ref h0] (zW D [(h0, .inr (0, [.null, .null, .null]))] [] sz)) (va_Qv (fun _ : Unit => True) (fun _ t => ∃ (a1 a2 a3 : Nat) (d1 d2 d3 : ClassId), zB D [(h0, .inr (0, [.ref a1, .ref a2, .ref a3])), (a1, zar d1 64 sh_z), (a2, zar d2 32 sh_z), (a3, zar d3 32 sh_z)] [(d1, .byte), (d2, .byte), (d3, .byte)] (va_A [(h0, .inr (0, [.null, .null, .null]))] sz) t) (va_A [(h0, .inr (0, [.null, .null, .null]))] sz)) 3 128 (va_A [(h0, .inr (0, [.null, .null, .null]))] sz) := by
  refine Met.ofW (cc := cX0_init) (maxL := 1) (ret := none) (by decide) rfl ?_
  intro p e s m args below meth c s₁ B hml hv
  obtain ⟨rfl, hsz, hP, hK, hD0⟩ := hv
  have hx := B.exec
  have hb := B.bytes
  have hr := B.returns
  have hts := atoms_spec (ws := (ws_ yX0_init cX0_init 1 none)) B.pre
  have hts : ∀ w ∈ lw_all, w.before _ s = true := fun w h => hts w (List.mem_cons_of_mem _ h)
  have hown : s.vm.findClass RX0 = some m.cls := findClass_of_methodNamed B.named
  have hlocks := B.notSynchronized
  have hin : meth.name = "<init>" := (name_of_methodNamed B.named B.method).1
  subst hsz
  have hD := hD0.self (sz := s.heap.size)
  generalize hAe : va_A [(h0, .inr (0, [.null, .null, .null]))] s.heap.size = A at hD ⊢
  have hA : ∀ q : Nat, s.heap.size ≤ q → A q := fun q h => by rw [← hAe]; exact Or.inr h
  have hS : va_S A s.heap s.heap [] := va_S.rf
  have hl := lv_entry ([.ref h0]) (n := 1) (Nat.le_of_ble_eq_true rfl)
  rw [lg_entry_eq]
  generalize (lg_sl ([.ref h0]) ++ List.replicate (1 - (lg_sl ([.ref h0])).length) Slot.unset).toArray = ls at hl ⊢
  have hl : lv_has ls 1 [(0, .ref h0)] := hl
  have hP : va_P D zcl [(h0, .inr (0, [.null, .null, .null]))] s.heap := hP
  refine lv_aload_n hx hb dX0_init_0 rfl (lv_at hl 0 rfl) ?_
  refine W.objInit hx hb hown (hts _ q28) (hts _ q29) (hts _ q30) rfl (by rw [hml]; exact hl.1) rfl dX0_init_1 (Nat.le_of_ble_eq_true rfl) (Nat.le_of_ble_eq_true rfl) ?_
  refine W.eq (g2 := F0 m 4 ls []) rfl ?_
  refine lv_aload_n hx hb dX0_init_4 rfl (lv_at hl 0 rfl) ?_
  refine lv_bipush (v := (64 : Int32)) hx hb dX0_init_5 (by decide) ?_
  refine va_newa (atype := .byte) (ty := .byte) (N' := 64) (a0 := (64, .inl sh_z)) hx hb (hts _ q41) rfl hK hP hD hS hA (fun _ => rfl) (by decide) (by decide) (by decide) (Nat.le_of_ble_eq_true rfl) (Nat.le_of_ble_eq_true rfl) dX0_init_7 (fun a1 d1 H hK hP hD hS => ?_)
  have hK : va_K D zcl [(d1, .byte)] s := hK
  have hP : va_P D zcl [(h0, .inr (0, [.null, .null, .null])), (a1, zar d1 64 sh_z)] H := hP
  have hD : va_D A [(h0, .inr (0, [.null, .null, .null])), (a1, zar d1 64 sh_z)] := hD
  refine W.widen (k := 1) (n := 64) (Nat.le_of_ble_eq_true rfl) (Nat.le_of_ble_eq_true rfl) ?_
  refine va_putF (D := D) (ci := 0) (v := .ref a1) (ty := .array .byte) (C := RX0) (T := TX0) (N := 3) hx hb hts in_X0 tyX0 tyX0_ok nmX0 hown hK hP hD hS 0 rfl rfl 0 (by decide) (hts _ q31) (fun _ h9 => h9) rfl hin rfl (by decide +kernel) rfl rfl (Nat.le_of_ble_eq_true rfl) dX0_init_9 (fun H locs hP hD hS => ?_)
  have hP : va_P D zcl [(h0, .inr (0, [.ref a1, .null, .null])), (a1, zar d1 64 sh_z)] H := hP
  have hD : va_D A [(h0, .inr (0, [.ref a1, .null, .null])), (a1, zar d1 64 sh_z)] := hD
  refine lv_aload_n hx hb dX0_init_12 rfl (lv_at hl 0 rfl) ?_
  refine lv_bipush (v := (32 : Int32)) hx hb dX0_init_13 (by decide) ?_
  refine va_newa (atype := .byte) (ty := .byte) (N' := 32) (a0 := (32, .inl sh_z)) hx hb (hts _ q41) rfl hK hP hD hS hA (fun _ => rfl) (by decide) (by decide) (by decide) (Nat.le_of_ble_eq_true rfl) (Nat.le_of_ble_eq_true rfl) dX0_init_15 (fun a2 d2 H hK hP hD hS => ?_)
  have hK : va_K D zcl [(d1, .byte), (d2, .byte)] s := hK
  have hP : va_P D zcl [(h0, .inr (0, [.ref a1, .null, .null])), (a1, zar d1 64 sh_z), (a2, zar d2 32 sh_z)] H := hP
  have hD : va_D A [(h0, .inr (0, [.ref a1, .null, .null])), (a1, zar d1 64 sh_z), (a2, zar d2 32 sh_z)] := hD
  refine W.widen (k := 2) (n := 96) (Nat.le_of_ble_eq_true rfl) (Nat.le_of_ble_eq_true rfl) ?_
  refine va_putF (D := D) (ci := 0) (v := .ref a2) (ty := .array .byte) (C := RX0) (T := TX0) (N := 3) hx hb hts in_X0 tyX0 tyX0_ok nmX0 hown hK hP hD hS 0 rfl rfl 1 (by decide) (hts _ q32) (fun _ h9 => h9) rfl hin rfl (by decide +kernel) rfl rfl (Nat.le_of_ble_eq_true rfl) dX0_init_17 (fun H locs hP hD hS => ?_)
  have hP : va_P D zcl [(h0, .inr (0, [.ref a1, .ref a2, .null])), (a1, zar d1 64 sh_z), (a2, zar d2 32 sh_z)] H := hP
  have hD : va_D A [(h0, .inr (0, [.ref a1, .ref a2, .null])), (a1, zar d1 64 sh_z), (a2, zar d2 32 sh_z)] := hD
  refine lv_aload_n hx hb dX0_init_20 rfl (lv_at hl 0 rfl) ?_
  refine lv_bipush (v := (32 : Int32)) hx hb dX0_init_21 (by decide) ?_
  refine va_newa (atype := .byte) (ty := .byte) (N' := 32) (a0 := (32, .inl sh_z)) hx hb (hts _ q41) rfl hK hP hD hS hA (fun _ => rfl) (by decide) (by decide) (by decide) (Nat.le_of_ble_eq_true rfl) (Nat.le_of_ble_eq_true rfl) dX0_init_23 (fun a3 d3 H hK hP hD hS => ?_)
  have hK : va_K D zcl [(d1, .byte), (d2, .byte), (d3, .byte)] s := hK
  have hP : va_P D zcl [(h0, .inr (0, [.ref a1, .ref a2, .null])), (a1, zar d1 64 sh_z), (a2, zar d2 32 sh_z), (a3, zar d3 32 sh_z)] H := hP
  have hD : va_D A [(h0, .inr (0, [.ref a1, .ref a2, .null])), (a1, zar d1 64 sh_z), (a2, zar d2 32 sh_z), (a3, zar d3 32 sh_z)] := hD
  refine W.widen (k := 3) (n := 128) (Nat.le_of_ble_eq_true rfl) (Nat.le_of_ble_eq_true rfl) ?_
  refine va_putF (D := D) (ci := 0) (v := .ref a3) (ty := .array .byte) (C := RX0) (T := TX0) (N := 3) hx hb hts in_X0 tyX0 tyX0_ok nmX0 hown hK hP hD hS 0 rfl rfl 2 (by decide) (hts _ q33) (fun _ h9 => h9) rfl hin rfl (by decide +kernel) rfl rfl (Nat.le_of_ble_eq_true rfl) dX0_init_25 (fun H locs hP hD hS => ?_)
  have hP : va_P D zcl [(h0, .inr (0, [.ref a1, .ref a2, .ref a3])), (a1, zar d1 64 sh_z), (a2, zar d2 32 sh_z), (a3, zar d3 32 sh_z)] H := hP
  have hD : va_D A [(h0, .inr (0, [.ref a1, .ref a2, .ref a3])), (a1, zar d1 64 sh_z), (a2, zar d2 32 sh_z), (a3, zar d3 32 sh_z)] := hD
  have hP9 := hP.sub (ws' := [(h0, .inr (0, [.ref a1, .ref a2, .ref a3])), (a1, zar d1 64 sh_z), (a2, zar d2 32 sh_z), (a3, zar d3 32 sh_z)]) [0, 1, 2, 3] rfl
  have hD9 := hD.sub (ws' := [(h0, .inr (0, [.ref a1, .ref a2, .ref a3])), (a1, zar d1 64 sh_z), (a2, zar d2 32 sh_z), (a3, zar d3 32 sh_z)]) [0, 1, 2, 3] (by decide) rfl
  have hK9 := hK.sub (tys' := [(d1, .byte), (d2, .byte), (d3, .byte)]) [0, 1, 2] rfl
  refine W.widen (k := 3) (n := 128) (Nat.le_of_ble_eq_true rfl) (Nat.le_of_ble_eq_true rfl) ?_
  exact W.vret hx hb hr (fun t ht hW => ⟨⟨(), rfl, trivial, a1, a2, a3, d1, d2, d3, by rw [ht]; exact hP9, va_K.moved hW.alike hK9, hD9⟩, hS.F ht⟩) hS.2.2 dX0_init_28

set_option maxHeartbeats 4000000 in
set_option maxRecDepth 100000 in
theorem zX0_word64 (l : Launch) (D : va_G) (sz : Nat) (aa : Nat) (dd : ClassId) (fb : Nat → Int32) (k : Nat) (v1 : Int32) (hk : k + 3 < 64) : Met l yX0_word (ws_ yX0_word cX0_word 3 none) ({ frames := 0, cells := 0, slots := 0, locals := 0 }) (va_Pc [.ref aa, .int (nI k), .int v1] (zW D [(aa, zar dd 64 fb)] [(dd, .byte)] sz)) (va_Qv (fun _ : Unit => True) (fun _ t => zB D [(aa, zar dd 64 (sh_p4 fb k v1))] [(dd, .byte)] (va_A [(aa, zar dd 64 fb)] sz) t) (va_A [(aa, zar dd 64 fb)] sz)) 0 0 (va_A [(aa, zar dd 64 fb)] sz) := by
  refine Met.ofW (cc := cX0_word) (maxL := 3) (ret := none) (by decide) rfl ?_
  intro p e s m args below meth c s₁ B hml hv
  obtain ⟨rfl, hsz, hP, hK, hD0⟩ := hv
  have hx := B.exec
  have hb := B.bytes
  have hr := B.returns
  have hts := atoms_spec (ws := (ws_ yX0_word cX0_word 3 none)) B.pre
  have hts : ∀ w ∈ lw_all, w.before _ s = true := fun w h => hts w (List.mem_cons_of_mem _ h)
  have hown : s.vm.findClass RX0 = some m.cls := findClass_of_methodNamed B.named
  have hlocks := B.notSynchronized
  subst hsz
  have hD := hD0.self (sz := s.heap.size)
  generalize hAe : va_A [(aa, zar dd 64 fb)] s.heap.size = A at hD ⊢
  have hA : ∀ q : Nat, s.heap.size ≤ q → A q := fun q h => by rw [← hAe]; exact Or.inr h
  have hS : va_S A s.heap s.heap [] := va_S.rf
  have hl := lv_entry ([.ref aa, .int (nI k), .int v1]) (n := 3) (Nat.le_of_ble_eq_true rfl)
  rw [lg_entry_eq]
  generalize (lg_sl ([.ref aa, .int (nI k), .int v1]) ++ List.replicate (3 - (lg_sl ([.ref aa, .int (nI k), .int v1])).length) Slot.unset).toArray = ls at hl ⊢
  have hl : lv_has ls 3 [(0, .ref aa), (1, .int (nI k)), (2, .int v1)] := hl
  have hP : va_P D zcl [(aa, zar dd 64 fb)] s.heap := hP
  refine lv_aload_n hx hb dX0_word_0 rfl (lv_at hl 0 rfl) ?_
  refine lv_iload_n hx hb dX0_word_1 rfl (lv_at hl 1 rfl) ?_
  refine lv_iload_n hx hb dX0_word_2 rfl (lv_at hl 2 rfl) ?_
  refine lv_bipush (v := (24 : Int32)) hx hb dX0_word_3 (by decide) ?_
  refine lv_ishr hx hb dX0_word_5 ?_
  refine lv_i2b (v := ((v1 >>> ((24 : Int32) &&& 31))).toInt8.toInt32) hx hb dX0_word_6 rfl ?_
  refine z_bst (f' := (upd fb k ((v1 >>> ((24 : Int32) &&& 31))).toInt8.toInt32)) hx hb hK hP hD hS 0 0 rfl rfl k rfl (by omega) (by decide) (pk_vb _) (rfl) dX0_word_7 (fun H locs hP hD hS => ?_)
  have hP : va_P D zcl [(aa, zar dd 64 (upd fb k ((v1 >>> ((24 : Int32) &&& 31))).toInt8.toInt32))] H := hP
  have hD : va_D A [(aa, zar dd 64 (upd fb k ((v1 >>> ((24 : Int32) &&& 31))).toInt8.toInt32))] := hD
  refine lv_aload_n hx hb dX0_word_8 rfl (lv_at hl 0 rfl) ?_
  refine lv_iload_n hx hb dX0_word_9 rfl (lv_at hl 1 rfl) ?_
  refine lv_iconst (v := (nI 1)) hx hb dX0_word_10 (by decide) ?_
  refine lv_iadd hx hb dX0_word_11 ?_
  refine z_top (y := (nI (k + 1))) (nI_add _ _) ?_
  refine lv_iload_n hx hb dX0_word_12 rfl (lv_at hl 2 rfl) ?_
  refine lv_bipush (v := (16 : Int32)) hx hb dX0_word_13 (by decide) ?_
  refine lv_ishr hx hb dX0_word_15 ?_
  refine lv_i2b (v := ((v1 >>> ((16 : Int32) &&& 31))).toInt8.toInt32) hx hb dX0_word_16 rfl ?_
  refine z_bst (f' := (upd (upd fb k ((v1 >>> ((24 : Int32) &&& 31))).toInt8.toInt32) (k + 1) ((v1 >>> ((16 : Int32) &&& 31))).toInt8.toInt32)) hx hb hK hP hD hS 0 0 rfl rfl (k + 1) rfl (by omega) (by decide) (pk_vb _) (rfl) dX0_word_17 (fun H locs hP hD hS => ?_)
  have hP : va_P D zcl [(aa, zar dd 64 (upd (upd fb k ((v1 >>> ((24 : Int32) &&& 31))).toInt8.toInt32) (k + 1) ((v1 >>> ((16 : Int32) &&& 31))).toInt8.toInt32))] H := hP
  have hD : va_D A [(aa, zar dd 64 (upd (upd fb k ((v1 >>> ((24 : Int32) &&& 31))).toInt8.toInt32) (k + 1) ((v1 >>> ((16 : Int32) &&& 31))).toInt8.toInt32))] := hD
  refine lv_aload_n hx hb dX0_word_18 rfl (lv_at hl 0 rfl) ?_
  refine lv_iload_n hx hb dX0_word_19 rfl (lv_at hl 1 rfl) ?_
  refine lv_iconst (v := (nI 2)) hx hb dX0_word_20 (by decide) ?_
  refine lv_iadd hx hb dX0_word_21 ?_
  refine z_top (y := (nI (k + 2))) (nI_add _ _) ?_
  refine lv_iload_n hx hb dX0_word_22 rfl (lv_at hl 2 rfl) ?_
  refine lv_bipush (v := (8 : Int32)) hx hb dX0_word_23 (by decide) ?_
  refine lv_ishr hx hb dX0_word_25 ?_
  refine lv_i2b (v := ((v1 >>> ((8 : Int32) &&& 31))).toInt8.toInt32) hx hb dX0_word_26 rfl ?_
  refine z_bst (f' := (upd (upd (upd fb k ((v1 >>> ((24 : Int32) &&& 31))).toInt8.toInt32) (k + 1) ((v1 >>> ((16 : Int32) &&& 31))).toInt8.toInt32) (k + 2) ((v1 >>> ((8 : Int32) &&& 31))).toInt8.toInt32)) hx hb hK hP hD hS 0 0 rfl rfl (k + 2) rfl (by omega) (by decide) (pk_vb _) (rfl) dX0_word_27 (fun H locs hP hD hS => ?_)
  have hP : va_P D zcl [(aa, zar dd 64 (upd (upd (upd fb k ((v1 >>> ((24 : Int32) &&& 31))).toInt8.toInt32) (k + 1) ((v1 >>> ((16 : Int32) &&& 31))).toInt8.toInt32) (k + 2) ((v1 >>> ((8 : Int32) &&& 31))).toInt8.toInt32))] H := hP
  have hD : va_D A [(aa, zar dd 64 (upd (upd (upd fb k ((v1 >>> ((24 : Int32) &&& 31))).toInt8.toInt32) (k + 1) ((v1 >>> ((16 : Int32) &&& 31))).toInt8.toInt32) (k + 2) ((v1 >>> ((8 : Int32) &&& 31))).toInt8.toInt32))] := hD
  refine lv_aload_n hx hb dX0_word_28 rfl (lv_at hl 0 rfl) ?_
  refine lv_iload_n hx hb dX0_word_29 rfl (lv_at hl 1 rfl) ?_
  refine lv_iconst (v := (nI 3)) hx hb dX0_word_30 (by decide) ?_
  refine lv_iadd hx hb dX0_word_31 ?_
  refine z_top (y := (nI (k + 3))) (nI_add _ _) ?_
  refine lv_iload_n hx hb dX0_word_32 rfl (lv_at hl 2 rfl) ?_
  refine lv_i2b (v := (v1).toInt8.toInt32) hx hb dX0_word_33 rfl ?_
  refine z_bst (f' := (sh_p4 fb k v1)) hx hb hK hP hD hS 0 0 rfl rfl (k + 3) rfl (by omega) (by decide) (pk_vb _) (rfl) dX0_word_34 (fun H locs hP hD hS => ?_)
  have hP : va_P D zcl [(aa, zar dd 64 (sh_p4 fb k v1))] H := hP
  have hD : va_D A [(aa, zar dd 64 (sh_p4 fb k v1))] := hD
  have hP9 := hP.sub (ws' := [(aa, zar dd 64 (sh_p4 fb k v1))]) [0] rfl
  have hD9 := hD.sub (ws' := [(aa, zar dd 64 (sh_p4 fb k v1))]) [0] (by decide) rfl
  have hK9 := hK.sub (tys' := [(dd, .byte)]) [0] rfl
  refine W.widen (k := 0) (n := 0) (Nat.le_of_ble_eq_true rfl) (Nat.le_of_ble_eq_true rfl) ?_
  exact W.vret hx hb hr (fun t ht hW => ⟨⟨(), rfl, trivial, by rw [ht]; exact hP9, va_K.moved hW.alike hK9, hD9⟩, hS.F ht⟩) hS.2.2 dX0_word_35

set_option maxHeartbeats 4000000 in
set_option maxRecDepth 100000 in
theorem zX0_word32 (l : Launch) (D : va_G) (sz : Nat) (aa : Nat) (dd : ClassId) (fb : Nat → Int32) (k : Nat) (v1 : Int32) (hk : k + 3 < 32) : Met l yX0_word (ws_ yX0_word cX0_word 3 none) ({ frames := 0, cells := 0, slots := 0, locals := 0 }) (va_Pc [.ref aa, .int (nI k), .int v1] (zW D [(aa, zar dd 32 fb)] [(dd, .byte)] sz)) (va_Qv (fun _ : Unit => True) (fun _ t => zB D [(aa, zar dd 32 (sh_p4 fb k v1))] [(dd, .byte)] (va_A [(aa, zar dd 32 fb)] sz) t) (va_A [(aa, zar dd 32 fb)] sz)) 0 0 (va_A [(aa, zar dd 32 fb)] sz) := by
  refine Met.ofW (cc := cX0_word) (maxL := 3) (ret := none) (by decide) rfl ?_
  intro p e s m args below meth c s₁ B hml hv
  obtain ⟨rfl, hsz, hP, hK, hD0⟩ := hv
  have hx := B.exec
  have hb := B.bytes
  have hr := B.returns
  have hts := atoms_spec (ws := (ws_ yX0_word cX0_word 3 none)) B.pre
  have hts : ∀ w ∈ lw_all, w.before _ s = true := fun w h => hts w (List.mem_cons_of_mem _ h)
  have hown : s.vm.findClass RX0 = some m.cls := findClass_of_methodNamed B.named
  have hlocks := B.notSynchronized
  subst hsz
  have hD := hD0.self (sz := s.heap.size)
  generalize hAe : va_A [(aa, zar dd 32 fb)] s.heap.size = A at hD ⊢
  have hA : ∀ q : Nat, s.heap.size ≤ q → A q := fun q h => by rw [← hAe]; exact Or.inr h
  have hS : va_S A s.heap s.heap [] := va_S.rf
  have hl := lv_entry ([.ref aa, .int (nI k), .int v1]) (n := 3) (Nat.le_of_ble_eq_true rfl)
  rw [lg_entry_eq]
  generalize (lg_sl ([.ref aa, .int (nI k), .int v1]) ++ List.replicate (3 - (lg_sl ([.ref aa, .int (nI k), .int v1])).length) Slot.unset).toArray = ls at hl ⊢
  have hl : lv_has ls 3 [(0, .ref aa), (1, .int (nI k)), (2, .int v1)] := hl
  have hP : va_P D zcl [(aa, zar dd 32 fb)] s.heap := hP
  refine lv_aload_n hx hb dX0_word_0 rfl (lv_at hl 0 rfl) ?_
  refine lv_iload_n hx hb dX0_word_1 rfl (lv_at hl 1 rfl) ?_
  refine lv_iload_n hx hb dX0_word_2 rfl (lv_at hl 2 rfl) ?_
  refine lv_bipush (v := (24 : Int32)) hx hb dX0_word_3 (by decide) ?_
  refine lv_ishr hx hb dX0_word_5 ?_
  refine lv_i2b (v := ((v1 >>> ((24 : Int32) &&& 31))).toInt8.toInt32) hx hb dX0_word_6 rfl ?_
  refine z_bst (f' := (upd fb k ((v1 >>> ((24 : Int32) &&& 31))).toInt8.toInt32)) hx hb hK hP hD hS 0 0 rfl rfl k rfl (by omega) (by decide) (pk_vb _) (rfl) dX0_word_7 (fun H locs hP hD hS => ?_)
  have hP : va_P D zcl [(aa, zar dd 32 (upd fb k ((v1 >>> ((24 : Int32) &&& 31))).toInt8.toInt32))] H := hP
  have hD : va_D A [(aa, zar dd 32 (upd fb k ((v1 >>> ((24 : Int32) &&& 31))).toInt8.toInt32))] := hD
  refine lv_aload_n hx hb dX0_word_8 rfl (lv_at hl 0 rfl) ?_
  refine lv_iload_n hx hb dX0_word_9 rfl (lv_at hl 1 rfl) ?_
  refine lv_iconst (v := (nI 1)) hx hb dX0_word_10 (by decide) ?_
  refine lv_iadd hx hb dX0_word_11 ?_
  refine z_top (y := (nI (k + 1))) (nI_add _ _) ?_
  refine lv_iload_n hx hb dX0_word_12 rfl (lv_at hl 2 rfl) ?_
  refine lv_bipush (v := (16 : Int32)) hx hb dX0_word_13 (by decide) ?_
  refine lv_ishr hx hb dX0_word_15 ?_
  refine lv_i2b (v := ((v1 >>> ((16 : Int32) &&& 31))).toInt8.toInt32) hx hb dX0_word_16 rfl ?_
  refine z_bst (f' := (upd (upd fb k ((v1 >>> ((24 : Int32) &&& 31))).toInt8.toInt32) (k + 1) ((v1 >>> ((16 : Int32) &&& 31))).toInt8.toInt32)) hx hb hK hP hD hS 0 0 rfl rfl (k + 1) rfl (by omega) (by decide) (pk_vb _) (rfl) dX0_word_17 (fun H locs hP hD hS => ?_)
  have hP : va_P D zcl [(aa, zar dd 32 (upd (upd fb k ((v1 >>> ((24 : Int32) &&& 31))).toInt8.toInt32) (k + 1) ((v1 >>> ((16 : Int32) &&& 31))).toInt8.toInt32))] H := hP
  have hD : va_D A [(aa, zar dd 32 (upd (upd fb k ((v1 >>> ((24 : Int32) &&& 31))).toInt8.toInt32) (k + 1) ((v1 >>> ((16 : Int32) &&& 31))).toInt8.toInt32))] := hD
  refine lv_aload_n hx hb dX0_word_18 rfl (lv_at hl 0 rfl) ?_
  refine lv_iload_n hx hb dX0_word_19 rfl (lv_at hl 1 rfl) ?_
  refine lv_iconst (v := (nI 2)) hx hb dX0_word_20 (by decide) ?_
  refine lv_iadd hx hb dX0_word_21 ?_
  refine z_top (y := (nI (k + 2))) (nI_add _ _) ?_
  refine lv_iload_n hx hb dX0_word_22 rfl (lv_at hl 2 rfl) ?_
  refine lv_bipush (v := (8 : Int32)) hx hb dX0_word_23 (by decide) ?_
  refine lv_ishr hx hb dX0_word_25 ?_
  refine lv_i2b (v := ((v1 >>> ((8 : Int32) &&& 31))).toInt8.toInt32) hx hb dX0_word_26 rfl ?_
  refine z_bst (f' := (upd (upd (upd fb k ((v1 >>> ((24 : Int32) &&& 31))).toInt8.toInt32) (k + 1) ((v1 >>> ((16 : Int32) &&& 31))).toInt8.toInt32) (k + 2) ((v1 >>> ((8 : Int32) &&& 31))).toInt8.toInt32)) hx hb hK hP hD hS 0 0 rfl rfl (k + 2) rfl (by omega) (by decide) (pk_vb _) (rfl) dX0_word_27 (fun H locs hP hD hS => ?_)
  have hP : va_P D zcl [(aa, zar dd 32 (upd (upd (upd fb k ((v1 >>> ((24 : Int32) &&& 31))).toInt8.toInt32) (k + 1) ((v1 >>> ((16 : Int32) &&& 31))).toInt8.toInt32) (k + 2) ((v1 >>> ((8 : Int32) &&& 31))).toInt8.toInt32))] H := hP
  have hD : va_D A [(aa, zar dd 32 (upd (upd (upd fb k ((v1 >>> ((24 : Int32) &&& 31))).toInt8.toInt32) (k + 1) ((v1 >>> ((16 : Int32) &&& 31))).toInt8.toInt32) (k + 2) ((v1 >>> ((8 : Int32) &&& 31))).toInt8.toInt32))] := hD
  refine lv_aload_n hx hb dX0_word_28 rfl (lv_at hl 0 rfl) ?_
  refine lv_iload_n hx hb dX0_word_29 rfl (lv_at hl 1 rfl) ?_
  refine lv_iconst (v := (nI 3)) hx hb dX0_word_30 (by decide) ?_
  refine lv_iadd hx hb dX0_word_31 ?_
  refine z_top (y := (nI (k + 3))) (nI_add _ _) ?_
  refine lv_iload_n hx hb dX0_word_32 rfl (lv_at hl 2 rfl) ?_
  refine lv_i2b (v := (v1).toInt8.toInt32) hx hb dX0_word_33 rfl ?_
  refine z_bst (f' := (sh_p4 fb k v1)) hx hb hK hP hD hS 0 0 rfl rfl (k + 3) rfl (by omega) (by decide) (pk_vb _) (rfl) dX0_word_34 (fun H locs hP hD hS => ?_)
  have hP : va_P D zcl [(aa, zar dd 32 (sh_p4 fb k v1))] H := hP
  have hD : va_D A [(aa, zar dd 32 (sh_p4 fb k v1))] := hD
  have hP9 := hP.sub (ws' := [(aa, zar dd 32 (sh_p4 fb k v1))]) [0] rfl
  have hD9 := hD.sub (ws' := [(aa, zar dd 32 (sh_p4 fb k v1))]) [0] (by decide) rfl
  have hK9 := hK.sub (tys' := [(dd, .byte)]) [0] rfl
  refine W.widen (k := 0) (n := 0) (Nat.le_of_ble_eq_true rfl) (Nat.le_of_ble_eq_true rfl) ?_
  exact W.vret hx hb hr (fun t ht hW => ⟨⟨(), rfl, trivial, by rw [ht]; exact hP9, va_K.moved hW.alike hK9, hD9⟩, hS.F ht⟩) hS.2.2 dX0_word_35

set_option maxHeartbeats 4000000 in
set_option maxRecDepth 100000 in
theorem zX0_key (l : Launch) (D : va_G) (sz : Nat) (h0 a1 a2 a3 : Nat) (d1 : ClassId) (kb : Nat → Int32) (p0 v1 v2 v3 v4 : Int32) (j : Nat) (hj : j < 4) (hp : p0 &&& 3 = nI j) : Met l yX0_key (ws_ yX0_key cX0_key 7 none) ({ frames := 1, cells := 0, slots := 0, locals := 22 }) (va_Pc [.ref h0, .int p0, .int v1, .int v2, .int v3, .int v4] (zW D [(h0, .inr (0, [.ref a1, .ref a2, .ref a3])), (a1, zar d1 64 kb)] [(d1, .byte)] sz)) (va_Qv (fun _ : Unit => True) (fun _ t => zB D [(h0, .inr (0, [.ref a1, .ref a2, .ref a3])), (a1, zar d1 64 (sh_p16 kb (4 * (4 * j)) v1 v2 v3 v4))] [(d1, .byte)] (va_A [(h0, .inr (0, [.ref a1, .ref a2, .ref a3])), (a1, zar d1 64 kb)] sz) t) (va_A [(h0, .inr (0, [.ref a1, .ref a2, .ref a3])), (a1, zar d1 64 kb)] sz)) 0 0 (va_A [(h0, .inr (0, [.ref a1, .ref a2, .ref a3])), (a1, zar d1 64 kb)] sz) := by
  refine Met.ofW (cc := cX0_key) (maxL := 7) (ret := none) (by decide) rfl ?_
  intro p e s m args below meth c s₁ B hml hv
  obtain ⟨rfl, hsz, hP, hK, hD0⟩ := hv
  have hx := B.exec
  have hb := B.bytes
  have hr := B.returns
  have hts := atoms_spec (ws := (ws_ yX0_key cX0_key 7 none)) B.pre
  have hts : ∀ w ∈ lw_all, w.before _ s = true := fun w h => hts w (List.mem_cons_of_mem _ h)
  have hown : s.vm.findClass RX0 = some m.cls := findClass_of_methodNamed B.named
  have hlocks := B.notSynchronized
  subst hsz
  have hD := hD0.self (sz := s.heap.size)
  generalize hAe : va_A [(h0, .inr (0, [.ref a1, .ref a2, .ref a3])), (a1, zar d1 64 kb)] s.heap.size = A at hD ⊢
  have hA : ∀ q : Nat, s.heap.size ≤ q → A q := fun q h => by rw [← hAe]; exact Or.inr h
  have hS : va_S A s.heap s.heap [] := va_S.rf
  have hl := lv_entry ([.ref h0, .int p0, .int v1, .int v2, .int v3, .int v4]) (n := 7) (Nat.le_of_ble_eq_true rfl)
  rw [lg_entry_eq]
  generalize (lg_sl ([.ref h0, .int p0, .int v1, .int v2, .int v3, .int v4]) ++ List.replicate (7 - (lg_sl ([.ref h0, .int p0, .int v1, .int v2, .int v3, .int v4])).length) Slot.unset).toArray = ls at hl ⊢
  have hl : lv_has ls 7 [(0, .ref h0), (1, .int p0), (2, .int v1), (3, .int v2), (4, .int v3), (5, .int v4)] := hl
  have hP : va_P D zcl [(h0, .inr (0, [.ref a1, .ref a2, .ref a3])), (a1, zar d1 64 kb)] s.heap := hP
  refine lv_iload_n hx hb dX0_key_0 rfl (lv_at hl 1 rfl) ?_
  refine lv_iconst (v := (3 : Int32)) hx hb dX0_key_1 (by decide) ?_
  refine lv_iand hx hb dX0_key_2 ?_
  refine z_top (y := (nI j)) (hp) ?_
  refine lv_iconst (v := (4 : Int32)) hx hb dX0_key_3 (by decide) ?_
  refine lv_ishl hx hb dX0_key_4 ?_
  refine z_top (y := (nI (4 * (4 * j)))) (z_sh4 (by omega)) ?_
  refine lv_istore (lv' := [(6, .int (nI (4 * (4 * j)))), (0, .ref h0), (1, .int p0), (2, .int v1), (3, .int v2), (4, .int v3), (5, .int v4)]) hx hb dX0_key_5 hl (by decide) rfl (fun ls hl => ?_)
  refine lv_aload_n hx hb dX0_key_7 rfl (lv_at hl 1 rfl) ?_
  refine va_get (D := D) (ci := 0) (v := .ref a1) (C := RX0) (T := TX0) (N := 3) hx hb hts in_X0 hown hK hP 0 rfl rfl 0 (by decide) (hts _ q31) (fun _ h9 => h9) rfl dX0_key_8 ?_
  refine lv_iload hx hb dX0_key_11 (lv_at hl 0 rfl) ?_
  refine lv_iload_n hx hb dX0_key_13 rfl (lv_at hl 3 rfl) ?_
  have hPc := hP.sub (ws' := [(a1, zar d1 64 kb)]) [1] rfl
  have hDc := hD.sub (ws' := [(a1, zar d1 64 kb)]) [1] (by decide) rfl
  have hKc := hK.sub (tys' := [(d1, .byte)]) [0] rfl
  have hFc := va_free (wc := [(a1, zar d1 64 kb)]) hD hS hA [1] rfl
  refine va_callv (va_runS (As := [.ref a1, .int (nI (4 * (4 * j))), .int v1]) (rest := []) ⟨hx, hb, hml, hown, hts⟩ (zX0_word64 l D _ a1 d1 kb (4 * (4 * j)) v1 (by omega)) (va_cwS 3 hts (lw_S q46 q47 q10 q48) rfl rfl rfl (by decide +kernel) ⟨(Nat.le_of_ble_eq_true rfl), (Nat.le_of_ble_eq_true rfl)⟩) (z_preS [.ref a1, .int (nI (4 * (4 * j))), .int v1] hPc hKc hDc) rfl rfl hl.1 rfl (lv_room (Nat.le_of_ble_eq_true rfl)) dX0_key_14 ⟨(Nat.le_of_ble_eq_true rfl), (Nat.le_of_ble_eq_true rfl)⟩) hS (fun q _ h => hFc q h) hFc (fun u t H1 locs ht hvm hw_1 hB hz1 hk1 hS => ?_)
  obtain ⟨hP1, hK1, hD1⟩ := hB
  rw [ht] at hP1
  have hK1 := va_K.moved hvm.symm hK1
  obtain ⟨hP, hD⟩ := va_join (wr := [(h0, .inr (0, [.ref a1, .ref a2, .ref a3]))]) (w1 := [(a1, zar d1 64 (sh_p4 kb (4 * (4 * j)) v1))]) hP hD [1] [0] rfl rfl (by decide) (by decide) hk1 hFc hP1 hD1
  generalize H1 = H at hP hS ⊢
  have hP := hP.sub (ws' := [(h0, .inr (0, [.ref a1, .ref a2, .ref a3])), (a1, zar d1 64 (sh_p4 kb (4 * (4 * j)) v1))]) [0, 1] rfl
  have hD := hD.sub (ws' := [(h0, .inr (0, [.ref a1, .ref a2, .ref a3])), (a1, zar d1 64 (sh_p4 kb (4 * (4 * j)) v1))]) [0, 1] (by decide) rfl
  refine lv_aload_n hx hb dX0_key_17 rfl (lv_at hl 1 rfl) ?_
  refine va_get (D := D) (ci := 0) (v := .ref a1) (C := RX0) (T := TX0) (N := 3) hx hb hts in_X0 hown hK hP 0 rfl rfl 0 (by decide) (hts _ q31) (fun _ h9 => h9) rfl dX0_key_18 ?_
  refine lv_iload hx hb dX0_key_21 (lv_at hl 0 rfl) ?_
  refine lv_iconst (v := (nI 4)) hx hb dX0_key_23 (by decide) ?_
  refine lv_iadd hx hb dX0_key_24 ?_
  refine z_top (y := (nI (4 * (4 * j) + 4))) (nI_add _ _) ?_
  refine lv_iload_n hx hb dX0_key_25 rfl (lv_at hl 4 rfl) ?_
  have hPc := hP.sub (ws' := [(a1, zar d1 64 (sh_p4 kb (4 * (4 * j)) v1))]) [1] rfl
  have hDc := hD.sub (ws' := [(a1, zar d1 64 (sh_p4 kb (4 * (4 * j)) v1))]) [1] (by decide) rfl
  have hKc := hK.sub (tys' := [(d1, .byte)]) [0] rfl
  have hFc := va_free (wc := [(a1, zar d1 64 (sh_p4 kb (4 * (4 * j)) v1))]) hD hS hA [1] rfl
  refine va_callv (va_runS (As := [.ref a1, .int (nI (4 * (4 * j) + 4)), .int v2]) (rest := []) ⟨hx, hb, hml, hown, hts⟩ (zX0_word64 l D _ a1 d1 (sh_p4 kb (4 * (4 * j)) v1) (4 * (4 * j) + 4) v2 (by omega)) (va_cwS 3 hts (lw_S q46 q47 q10 q48) rfl rfl rfl (by decide +kernel) ⟨(Nat.le_of_ble_eq_true rfl), (Nat.le_of_ble_eq_true rfl)⟩) (z_preS [.ref a1, .int (nI (4 * (4 * j) + 4)), .int v2] hPc hKc hDc) rfl rfl hl.1 rfl (lv_room (Nat.le_of_ble_eq_true rfl)) dX0_key_26 ⟨(Nat.le_of_ble_eq_true rfl), (Nat.le_of_ble_eq_true rfl)⟩) hS (fun q _ h => hFc q h) hFc (fun u t H1 locs ht hvm hw_2 hB hz1 hk1 hS => ?_)
  obtain ⟨hP1, hK1, hD1⟩ := hB
  rw [ht] at hP1
  have hK1 := va_K.moved hvm.symm hK1
  obtain ⟨hP, hD⟩ := va_join (wr := [(h0, .inr (0, [.ref a1, .ref a2, .ref a3]))]) (w1 := [(a1, zar d1 64 (sh_p4 (sh_p4 kb (4 * (4 * j)) v1) (4 * (4 * j) + 4) v2))]) hP hD [1] [0] rfl rfl (by decide) (by decide) hk1 hFc hP1 hD1
  generalize H1 = H at hP hS ⊢
  have hP := hP.sub (ws' := [(h0, .inr (0, [.ref a1, .ref a2, .ref a3])), (a1, zar d1 64 (sh_p4 (sh_p4 kb (4 * (4 * j)) v1) (4 * (4 * j) + 4) v2))]) [0, 1] rfl
  have hD := hD.sub (ws' := [(h0, .inr (0, [.ref a1, .ref a2, .ref a3])), (a1, zar d1 64 (sh_p4 (sh_p4 kb (4 * (4 * j)) v1) (4 * (4 * j) + 4) v2))]) [0, 1] (by decide) rfl
  refine lv_aload_n hx hb dX0_key_29 rfl (lv_at hl 1 rfl) ?_
  refine va_get (D := D) (ci := 0) (v := .ref a1) (C := RX0) (T := TX0) (N := 3) hx hb hts in_X0 hown hK hP 0 rfl rfl 0 (by decide) (hts _ q31) (fun _ h9 => h9) rfl dX0_key_30 ?_
  refine lv_iload hx hb dX0_key_33 (lv_at hl 0 rfl) ?_
  refine lv_bipush (v := (nI 8)) hx hb dX0_key_35 (by decide) ?_
  refine lv_iadd hx hb dX0_key_37 ?_
  refine z_top (y := (nI (4 * (4 * j) + 8))) (nI_add _ _) ?_
  refine lv_iload hx hb dX0_key_38 (lv_at hl 5 rfl) ?_
  have hPc := hP.sub (ws' := [(a1, zar d1 64 (sh_p4 (sh_p4 kb (4 * (4 * j)) v1) (4 * (4 * j) + 4) v2))]) [1] rfl
  have hDc := hD.sub (ws' := [(a1, zar d1 64 (sh_p4 (sh_p4 kb (4 * (4 * j)) v1) (4 * (4 * j) + 4) v2))]) [1] (by decide) rfl
  have hKc := hK.sub (tys' := [(d1, .byte)]) [0] rfl
  have hFc := va_free (wc := [(a1, zar d1 64 (sh_p4 (sh_p4 kb (4 * (4 * j)) v1) (4 * (4 * j) + 4) v2))]) hD hS hA [1] rfl
  refine va_callv (va_runS (As := [.ref a1, .int (nI (4 * (4 * j) + 8)), .int v3]) (rest := []) ⟨hx, hb, hml, hown, hts⟩ (zX0_word64 l D _ a1 d1 (sh_p4 (sh_p4 kb (4 * (4 * j)) v1) (4 * (4 * j) + 4) v2) (4 * (4 * j) + 8) v3 (by omega)) (va_cwS 3 hts (lw_S q46 q47 q10 q48) rfl rfl rfl (by decide +kernel) ⟨(Nat.le_of_ble_eq_true rfl), (Nat.le_of_ble_eq_true rfl)⟩) (z_preS [.ref a1, .int (nI (4 * (4 * j) + 8)), .int v3] hPc hKc hDc) rfl rfl hl.1 rfl (lv_room (Nat.le_of_ble_eq_true rfl)) dX0_key_40 ⟨(Nat.le_of_ble_eq_true rfl), (Nat.le_of_ble_eq_true rfl)⟩) hS (fun q _ h => hFc q h) hFc (fun u t H1 locs ht hvm hw_3 hB hz1 hk1 hS => ?_)
  obtain ⟨hP1, hK1, hD1⟩ := hB
  rw [ht] at hP1
  have hK1 := va_K.moved hvm.symm hK1
  obtain ⟨hP, hD⟩ := va_join (wr := [(h0, .inr (0, [.ref a1, .ref a2, .ref a3]))]) (w1 := [(a1, zar d1 64 (sh_p4 (sh_p4 (sh_p4 kb (4 * (4 * j)) v1) (4 * (4 * j) + 4) v2) (4 * (4 * j) + 8) v3))]) hP hD [1] [0] rfl rfl (by decide) (by decide) hk1 hFc hP1 hD1
  generalize H1 = H at hP hS ⊢
  have hP := hP.sub (ws' := [(h0, .inr (0, [.ref a1, .ref a2, .ref a3])), (a1, zar d1 64 (sh_p4 (sh_p4 (sh_p4 kb (4 * (4 * j)) v1) (4 * (4 * j) + 4) v2) (4 * (4 * j) + 8) v3))]) [0, 1] rfl
  have hD := hD.sub (ws' := [(h0, .inr (0, [.ref a1, .ref a2, .ref a3])), (a1, zar d1 64 (sh_p4 (sh_p4 (sh_p4 kb (4 * (4 * j)) v1) (4 * (4 * j) + 4) v2) (4 * (4 * j) + 8) v3))]) [0, 1] (by decide) rfl
  refine lv_aload_n hx hb dX0_key_43 rfl (lv_at hl 1 rfl) ?_
  refine va_get (D := D) (ci := 0) (v := .ref a1) (C := RX0) (T := TX0) (N := 3) hx hb hts in_X0 hown hK hP 0 rfl rfl 0 (by decide) (hts _ q31) (fun _ h9 => h9) rfl dX0_key_44 ?_
  refine lv_iload hx hb dX0_key_47 (lv_at hl 0 rfl) ?_
  refine lv_bipush (v := (nI 12)) hx hb dX0_key_49 (by decide) ?_
  refine lv_iadd hx hb dX0_key_51 ?_
  refine z_top (y := (nI (4 * (4 * j) + 12))) (nI_add _ _) ?_
  refine lv_iload hx hb dX0_key_52 (lv_at hl 6 rfl) ?_
  have hPc := hP.sub (ws' := [(a1, zar d1 64 (sh_p4 (sh_p4 (sh_p4 kb (4 * (4 * j)) v1) (4 * (4 * j) + 4) v2) (4 * (4 * j) + 8) v3))]) [1] rfl
  have hDc := hD.sub (ws' := [(a1, zar d1 64 (sh_p4 (sh_p4 (sh_p4 kb (4 * (4 * j)) v1) (4 * (4 * j) + 4) v2) (4 * (4 * j) + 8) v3))]) [1] (by decide) rfl
  have hKc := hK.sub (tys' := [(d1, .byte)]) [0] rfl
  have hFc := va_free (wc := [(a1, zar d1 64 (sh_p4 (sh_p4 (sh_p4 kb (4 * (4 * j)) v1) (4 * (4 * j) + 4) v2) (4 * (4 * j) + 8) v3))]) hD hS hA [1] rfl
  refine va_callv (va_runS (As := [.ref a1, .int (nI (4 * (4 * j) + 12)), .int v4]) (rest := []) ⟨hx, hb, hml, hown, hts⟩ (zX0_word64 l D _ a1 d1 (sh_p4 (sh_p4 (sh_p4 kb (4 * (4 * j)) v1) (4 * (4 * j) + 4) v2) (4 * (4 * j) + 8) v3) (4 * (4 * j) + 12) v4 (by omega)) (va_cwS 3 hts (lw_S q46 q47 q10 q48) rfl rfl rfl (by decide +kernel) ⟨(Nat.le_of_ble_eq_true rfl), (Nat.le_of_ble_eq_true rfl)⟩) (z_preS [.ref a1, .int (nI (4 * (4 * j) + 12)), .int v4] hPc hKc hDc) rfl rfl hl.1 rfl (lv_room (Nat.le_of_ble_eq_true rfl)) dX0_key_54 ⟨(Nat.le_of_ble_eq_true rfl), (Nat.le_of_ble_eq_true rfl)⟩) hS (fun q _ h => hFc q h) hFc (fun u t H1 locs ht hvm hw_4 hB hz1 hk1 hS => ?_)
  obtain ⟨hP1, hK1, hD1⟩ := hB
  rw [ht] at hP1
  have hK1 := va_K.moved hvm.symm hK1
  obtain ⟨hP, hD⟩ := va_join (wr := [(h0, .inr (0, [.ref a1, .ref a2, .ref a3]))]) (w1 := [(a1, zar d1 64 (sh_p4 (sh_p4 (sh_p4 (sh_p4 kb (4 * (4 * j)) v1) (4 * (4 * j) + 4) v2) (4 * (4 * j) + 8) v3) (4 * (4 * j) + 12) v4))]) hP hD [1] [0] rfl rfl (by decide) (by decide) hk1 hFc hP1 hD1
  generalize H1 = H at hP hS ⊢
  have hP := hP.sub (ws' := [(h0, .inr (0, [.ref a1, .ref a2, .ref a3])), (a1, zar d1 64 (sh_p4 (sh_p4 (sh_p4 (sh_p4 kb (4 * (4 * j)) v1) (4 * (4 * j) + 4) v2) (4 * (4 * j) + 8) v3) (4 * (4 * j) + 12) v4))]) [0, 1] rfl
  have hD := hD.sub (ws' := [(h0, .inr (0, [.ref a1, .ref a2, .ref a3])), (a1, zar d1 64 (sh_p4 (sh_p4 (sh_p4 (sh_p4 kb (4 * (4 * j)) v1) (4 * (4 * j) + 4) v2) (4 * (4 * j) + 8) v3) (4 * (4 * j) + 12) v4))]) [0, 1] (by decide) rfl
  have hP : va_P D zcl [(h0, .inr (0, [.ref a1, .ref a2, .ref a3])), (a1, zar d1 64 (sh_p16 kb (4 * (4 * j)) v1 v2 v3 v4))] H := hP
  have hD : va_D A [(h0, .inr (0, [.ref a1, .ref a2, .ref a3])), (a1, zar d1 64 (sh_p16 kb (4 * (4 * j)) v1 v2 v3 v4))] := hD
  have hP9 := hP.sub (ws' := [(h0, .inr (0, [.ref a1, .ref a2, .ref a3])), (a1, zar d1 64 (sh_p16 kb (4 * (4 * j)) v1 v2 v3 v4))]) [0, 1] rfl
  have hD9 := hD.sub (ws' := [(h0, .inr (0, [.ref a1, .ref a2, .ref a3])), (a1, zar d1 64 (sh_p16 kb (4 * (4 * j)) v1 v2 v3 v4))]) [0, 1] (by decide) rfl
  have hK9 := hK.sub (tys' := [(d1, .byte)]) [0] rfl
  refine W.widen (k := 0) (n := 0) (Nat.le_of_ble_eq_true rfl) (Nat.le_of_ble_eq_true rfl) ?_
  exact W.vret hx hb hr (fun t ht hW => ⟨⟨(), rfl, trivial, by rw [ht]; exact hP9, va_K.moved hW.alike hK9, hD9⟩, hS.F ht⟩) hS.2.2 dX0_key_57

set_option maxHeartbeats 4000000 in
set_option maxRecDepth 100000 in
theorem zX0_block (l : Launch) (D : va_G) (sz : Nat) (h0 a1 a2 a3 : Nat) (d2 : ClassId) (bb : Nat → Int32) (p0 v1 v2 v3 v4 : Int32) (j : Nat) (hj : j < 2) (hp : p0 &&& 1 = nI j) : Met l yX0_block (ws_ yX0_block cX0_block 7 none) ({ frames := 1, cells := 0, slots := 0, locals := 22 }) (va_Pc [.ref h0, .int p0, .int v1, .int v2, .int v3, .int v4] (zW D [(h0, .inr (0, [.ref a1, .ref a2, .ref a3])), (a2, zar d2 32 bb)] [(d2, .byte)] sz)) (va_Qv (fun _ : Unit => True) (fun _ t => zB D [(h0, .inr (0, [.ref a1, .ref a2, .ref a3])), (a2, zar d2 32 (sh_p16 bb (4 * (4 * j)) v1 v2 v3 v4))] [(d2, .byte)] (va_A [(h0, .inr (0, [.ref a1, .ref a2, .ref a3])), (a2, zar d2 32 bb)] sz) t) (va_A [(h0, .inr (0, [.ref a1, .ref a2, .ref a3])), (a2, zar d2 32 bb)] sz)) 0 0 (va_A [(h0, .inr (0, [.ref a1, .ref a2, .ref a3])), (a2, zar d2 32 bb)] sz) := by
  refine Met.ofW (cc := cX0_block) (maxL := 7) (ret := none) (by decide) rfl ?_
  intro p e s m args below meth c s₁ B hml hv
  obtain ⟨rfl, hsz, hP, hK, hD0⟩ := hv
  have hx := B.exec
  have hb := B.bytes
  have hr := B.returns
  have hts := atoms_spec (ws := (ws_ yX0_block cX0_block 7 none)) B.pre
  have hts : ∀ w ∈ lw_all, w.before _ s = true := fun w h => hts w (List.mem_cons_of_mem _ h)
  have hown : s.vm.findClass RX0 = some m.cls := findClass_of_methodNamed B.named
  have hlocks := B.notSynchronized
  subst hsz
  have hD := hD0.self (sz := s.heap.size)
  generalize hAe : va_A [(h0, .inr (0, [.ref a1, .ref a2, .ref a3])), (a2, zar d2 32 bb)] s.heap.size = A at hD ⊢
  have hA : ∀ q : Nat, s.heap.size ≤ q → A q := fun q h => by rw [← hAe]; exact Or.inr h
  have hS : va_S A s.heap s.heap [] := va_S.rf
  have hl := lv_entry ([.ref h0, .int p0, .int v1, .int v2, .int v3, .int v4]) (n := 7) (Nat.le_of_ble_eq_true rfl)
  rw [lg_entry_eq]
  generalize (lg_sl ([.ref h0, .int p0, .int v1, .int v2, .int v3, .int v4]) ++ List.replicate (7 - (lg_sl ([.ref h0, .int p0, .int v1, .int v2, .int v3, .int v4])).length) Slot.unset).toArray = ls at hl ⊢
  have hl : lv_has ls 7 [(0, .ref h0), (1, .int p0), (2, .int v1), (3, .int v2), (4, .int v3), (5, .int v4)] := hl
  have hP : va_P D zcl [(h0, .inr (0, [.ref a1, .ref a2, .ref a3])), (a2, zar d2 32 bb)] s.heap := hP
  refine lv_iload_n hx hb dX0_block_0 rfl (lv_at hl 1 rfl) ?_
  refine lv_iconst (v := (1 : Int32)) hx hb dX0_block_1 (by decide) ?_
  refine lv_iand hx hb dX0_block_2 ?_
  refine z_top (y := (nI j)) (hp) ?_
  refine lv_iconst (v := (4 : Int32)) hx hb dX0_block_3 (by decide) ?_
  refine lv_ishl hx hb dX0_block_4 ?_
  refine z_top (y := (nI (4 * (4 * j)))) (z_sh4 (by omega)) ?_
  refine lv_istore (lv' := [(6, .int (nI (4 * (4 * j)))), (0, .ref h0), (1, .int p0), (2, .int v1), (3, .int v2), (4, .int v3), (5, .int v4)]) hx hb dX0_block_5 hl (by decide) rfl (fun ls hl => ?_)
  refine lv_aload_n hx hb dX0_block_7 rfl (lv_at hl 1 rfl) ?_
  refine va_get (D := D) (ci := 0) (v := .ref a2) (C := RX0) (T := TX0) (N := 3) hx hb hts in_X0 hown hK hP 0 rfl rfl 1 (by decide) (hts _ q32) (fun _ h9 => h9) rfl dX0_block_8 ?_
  refine lv_iload hx hb dX0_block_11 (lv_at hl 0 rfl) ?_
  refine lv_iload_n hx hb dX0_block_13 rfl (lv_at hl 3 rfl) ?_
  have hPc := hP.sub (ws' := [(a2, zar d2 32 bb)]) [1] rfl
  have hDc := hD.sub (ws' := [(a2, zar d2 32 bb)]) [1] (by decide) rfl
  have hKc := hK.sub (tys' := [(d2, .byte)]) [0] rfl
  have hFc := va_free (wc := [(a2, zar d2 32 bb)]) hD hS hA [1] rfl
  refine va_callv (va_runS (As := [.ref a2, .int (nI (4 * (4 * j))), .int v1]) (rest := []) ⟨hx, hb, hml, hown, hts⟩ (zX0_word32 l D _ a2 d2 bb (4 * (4 * j)) v1 (by omega)) (va_cwS 3 hts (lw_S q46 q47 q10 q48) rfl rfl rfl (by decide +kernel) ⟨(Nat.le_of_ble_eq_true rfl), (Nat.le_of_ble_eq_true rfl)⟩) (z_preS [.ref a2, .int (nI (4 * (4 * j))), .int v1] hPc hKc hDc) rfl rfl hl.1 rfl (lv_room (Nat.le_of_ble_eq_true rfl)) dX0_block_14 ⟨(Nat.le_of_ble_eq_true rfl), (Nat.le_of_ble_eq_true rfl)⟩) hS (fun q _ h => hFc q h) hFc (fun u t H1 locs ht hvm hw_1 hB hz1 hk1 hS => ?_)
  obtain ⟨hP1, hK1, hD1⟩ := hB
  rw [ht] at hP1
  have hK1 := va_K.moved hvm.symm hK1
  obtain ⟨hP, hD⟩ := va_join (wr := [(h0, .inr (0, [.ref a1, .ref a2, .ref a3]))]) (w1 := [(a2, zar d2 32 (sh_p4 bb (4 * (4 * j)) v1))]) hP hD [1] [0] rfl rfl (by decide) (by decide) hk1 hFc hP1 hD1
  generalize H1 = H at hP hS ⊢
  have hP := hP.sub (ws' := [(h0, .inr (0, [.ref a1, .ref a2, .ref a3])), (a2, zar d2 32 (sh_p4 bb (4 * (4 * j)) v1))]) [0, 1] rfl
  have hD := hD.sub (ws' := [(h0, .inr (0, [.ref a1, .ref a2, .ref a3])), (a2, zar d2 32 (sh_p4 bb (4 * (4 * j)) v1))]) [0, 1] (by decide) rfl
  refine lv_aload_n hx hb dX0_block_17 rfl (lv_at hl 1 rfl) ?_
  refine va_get (D := D) (ci := 0) (v := .ref a2) (C := RX0) (T := TX0) (N := 3) hx hb hts in_X0 hown hK hP 0 rfl rfl 1 (by decide) (hts _ q32) (fun _ h9 => h9) rfl dX0_block_18 ?_
  refine lv_iload hx hb dX0_block_21 (lv_at hl 0 rfl) ?_
  refine lv_iconst (v := (nI 4)) hx hb dX0_block_23 (by decide) ?_
  refine lv_iadd hx hb dX0_block_24 ?_
  refine z_top (y := (nI (4 * (4 * j) + 4))) (nI_add _ _) ?_
  refine lv_iload_n hx hb dX0_block_25 rfl (lv_at hl 4 rfl) ?_
  have hPc := hP.sub (ws' := [(a2, zar d2 32 (sh_p4 bb (4 * (4 * j)) v1))]) [1] rfl
  have hDc := hD.sub (ws' := [(a2, zar d2 32 (sh_p4 bb (4 * (4 * j)) v1))]) [1] (by decide) rfl
  have hKc := hK.sub (tys' := [(d2, .byte)]) [0] rfl
  have hFc := va_free (wc := [(a2, zar d2 32 (sh_p4 bb (4 * (4 * j)) v1))]) hD hS hA [1] rfl
  refine va_callv (va_runS (As := [.ref a2, .int (nI (4 * (4 * j) + 4)), .int v2]) (rest := []) ⟨hx, hb, hml, hown, hts⟩ (zX0_word32 l D _ a2 d2 (sh_p4 bb (4 * (4 * j)) v1) (4 * (4 * j) + 4) v2 (by omega)) (va_cwS 3 hts (lw_S q46 q47 q10 q48) rfl rfl rfl (by decide +kernel) ⟨(Nat.le_of_ble_eq_true rfl), (Nat.le_of_ble_eq_true rfl)⟩) (z_preS [.ref a2, .int (nI (4 * (4 * j) + 4)), .int v2] hPc hKc hDc) rfl rfl hl.1 rfl (lv_room (Nat.le_of_ble_eq_true rfl)) dX0_block_26 ⟨(Nat.le_of_ble_eq_true rfl), (Nat.le_of_ble_eq_true rfl)⟩) hS (fun q _ h => hFc q h) hFc (fun u t H1 locs ht hvm hw_2 hB hz1 hk1 hS => ?_)
  obtain ⟨hP1, hK1, hD1⟩ := hB
  rw [ht] at hP1
  have hK1 := va_K.moved hvm.symm hK1
  obtain ⟨hP, hD⟩ := va_join (wr := [(h0, .inr (0, [.ref a1, .ref a2, .ref a3]))]) (w1 := [(a2, zar d2 32 (sh_p4 (sh_p4 bb (4 * (4 * j)) v1) (4 * (4 * j) + 4) v2))]) hP hD [1] [0] rfl rfl (by decide) (by decide) hk1 hFc hP1 hD1
  generalize H1 = H at hP hS ⊢
  have hP := hP.sub (ws' := [(h0, .inr (0, [.ref a1, .ref a2, .ref a3])), (a2, zar d2 32 (sh_p4 (sh_p4 bb (4 * (4 * j)) v1) (4 * (4 * j) + 4) v2))]) [0, 1] rfl
  have hD := hD.sub (ws' := [(h0, .inr (0, [.ref a1, .ref a2, .ref a3])), (a2, zar d2 32 (sh_p4 (sh_p4 bb (4 * (4 * j)) v1) (4 * (4 * j) + 4) v2))]) [0, 1] (by decide) rfl
  refine lv_aload_n hx hb dX0_block_29 rfl (lv_at hl 1 rfl) ?_
  refine va_get (D := D) (ci := 0) (v := .ref a2) (C := RX0) (T := TX0) (N := 3) hx hb hts in_X0 hown hK hP 0 rfl rfl 1 (by decide) (hts _ q32) (fun _ h9 => h9) rfl dX0_block_30 ?_
  refine lv_iload hx hb dX0_block_33 (lv_at hl 0 rfl) ?_
  refine lv_bipush (v := (nI 8)) hx hb dX0_block_35 (by decide) ?_
  refine lv_iadd hx hb dX0_block_37 ?_
  refine z_top (y := (nI (4 * (4 * j) + 8))) (nI_add _ _) ?_
  refine lv_iload hx hb dX0_block_38 (lv_at hl 5 rfl) ?_
  have hPc := hP.sub (ws' := [(a2, zar d2 32 (sh_p4 (sh_p4 bb (4 * (4 * j)) v1) (4 * (4 * j) + 4) v2))]) [1] rfl
  have hDc := hD.sub (ws' := [(a2, zar d2 32 (sh_p4 (sh_p4 bb (4 * (4 * j)) v1) (4 * (4 * j) + 4) v2))]) [1] (by decide) rfl
  have hKc := hK.sub (tys' := [(d2, .byte)]) [0] rfl
  have hFc := va_free (wc := [(a2, zar d2 32 (sh_p4 (sh_p4 bb (4 * (4 * j)) v1) (4 * (4 * j) + 4) v2))]) hD hS hA [1] rfl
  refine va_callv (va_runS (As := [.ref a2, .int (nI (4 * (4 * j) + 8)), .int v3]) (rest := []) ⟨hx, hb, hml, hown, hts⟩ (zX0_word32 l D _ a2 d2 (sh_p4 (sh_p4 bb (4 * (4 * j)) v1) (4 * (4 * j) + 4) v2) (4 * (4 * j) + 8) v3 (by omega)) (va_cwS 3 hts (lw_S q46 q47 q10 q48) rfl rfl rfl (by decide +kernel) ⟨(Nat.le_of_ble_eq_true rfl), (Nat.le_of_ble_eq_true rfl)⟩) (z_preS [.ref a2, .int (nI (4 * (4 * j) + 8)), .int v3] hPc hKc hDc) rfl rfl hl.1 rfl (lv_room (Nat.le_of_ble_eq_true rfl)) dX0_block_40 ⟨(Nat.le_of_ble_eq_true rfl), (Nat.le_of_ble_eq_true rfl)⟩) hS (fun q _ h => hFc q h) hFc (fun u t H1 locs ht hvm hw_3 hB hz1 hk1 hS => ?_)
  obtain ⟨hP1, hK1, hD1⟩ := hB
  rw [ht] at hP1
  have hK1 := va_K.moved hvm.symm hK1
  obtain ⟨hP, hD⟩ := va_join (wr := [(h0, .inr (0, [.ref a1, .ref a2, .ref a3]))]) (w1 := [(a2, zar d2 32 (sh_p4 (sh_p4 (sh_p4 bb (4 * (4 * j)) v1) (4 * (4 * j) + 4) v2) (4 * (4 * j) + 8) v3))]) hP hD [1] [0] rfl rfl (by decide) (by decide) hk1 hFc hP1 hD1
  generalize H1 = H at hP hS ⊢
  have hP := hP.sub (ws' := [(h0, .inr (0, [.ref a1, .ref a2, .ref a3])), (a2, zar d2 32 (sh_p4 (sh_p4 (sh_p4 bb (4 * (4 * j)) v1) (4 * (4 * j) + 4) v2) (4 * (4 * j) + 8) v3))]) [0, 1] rfl
  have hD := hD.sub (ws' := [(h0, .inr (0, [.ref a1, .ref a2, .ref a3])), (a2, zar d2 32 (sh_p4 (sh_p4 (sh_p4 bb (4 * (4 * j)) v1) (4 * (4 * j) + 4) v2) (4 * (4 * j) + 8) v3))]) [0, 1] (by decide) rfl
  refine lv_aload_n hx hb dX0_block_43 rfl (lv_at hl 1 rfl) ?_
  refine va_get (D := D) (ci := 0) (v := .ref a2) (C := RX0) (T := TX0) (N := 3) hx hb hts in_X0 hown hK hP 0 rfl rfl 1 (by decide) (hts _ q32) (fun _ h9 => h9) rfl dX0_block_44 ?_
  refine lv_iload hx hb dX0_block_47 (lv_at hl 0 rfl) ?_
  refine lv_bipush (v := (nI 12)) hx hb dX0_block_49 (by decide) ?_
  refine lv_iadd hx hb dX0_block_51 ?_
  refine z_top (y := (nI (4 * (4 * j) + 12))) (nI_add _ _) ?_
  refine lv_iload hx hb dX0_block_52 (lv_at hl 6 rfl) ?_
  have hPc := hP.sub (ws' := [(a2, zar d2 32 (sh_p4 (sh_p4 (sh_p4 bb (4 * (4 * j)) v1) (4 * (4 * j) + 4) v2) (4 * (4 * j) + 8) v3))]) [1] rfl
  have hDc := hD.sub (ws' := [(a2, zar d2 32 (sh_p4 (sh_p4 (sh_p4 bb (4 * (4 * j)) v1) (4 * (4 * j) + 4) v2) (4 * (4 * j) + 8) v3))]) [1] (by decide) rfl
  have hKc := hK.sub (tys' := [(d2, .byte)]) [0] rfl
  have hFc := va_free (wc := [(a2, zar d2 32 (sh_p4 (sh_p4 (sh_p4 bb (4 * (4 * j)) v1) (4 * (4 * j) + 4) v2) (4 * (4 * j) + 8) v3))]) hD hS hA [1] rfl
  refine va_callv (va_runS (As := [.ref a2, .int (nI (4 * (4 * j) + 12)), .int v4]) (rest := []) ⟨hx, hb, hml, hown, hts⟩ (zX0_word32 l D _ a2 d2 (sh_p4 (sh_p4 (sh_p4 bb (4 * (4 * j)) v1) (4 * (4 * j) + 4) v2) (4 * (4 * j) + 8) v3) (4 * (4 * j) + 12) v4 (by omega)) (va_cwS 3 hts (lw_S q46 q47 q10 q48) rfl rfl rfl (by decide +kernel) ⟨(Nat.le_of_ble_eq_true rfl), (Nat.le_of_ble_eq_true rfl)⟩) (z_preS [.ref a2, .int (nI (4 * (4 * j) + 12)), .int v4] hPc hKc hDc) rfl rfl hl.1 rfl (lv_room (Nat.le_of_ble_eq_true rfl)) dX0_block_54 ⟨(Nat.le_of_ble_eq_true rfl), (Nat.le_of_ble_eq_true rfl)⟩) hS (fun q _ h => hFc q h) hFc (fun u t H1 locs ht hvm hw_4 hB hz1 hk1 hS => ?_)
  obtain ⟨hP1, hK1, hD1⟩ := hB
  rw [ht] at hP1
  have hK1 := va_K.moved hvm.symm hK1
  obtain ⟨hP, hD⟩ := va_join (wr := [(h0, .inr (0, [.ref a1, .ref a2, .ref a3]))]) (w1 := [(a2, zar d2 32 (sh_p4 (sh_p4 (sh_p4 (sh_p4 bb (4 * (4 * j)) v1) (4 * (4 * j) + 4) v2) (4 * (4 * j) + 8) v3) (4 * (4 * j) + 12) v4))]) hP hD [1] [0] rfl rfl (by decide) (by decide) hk1 hFc hP1 hD1
  generalize H1 = H at hP hS ⊢
  have hP := hP.sub (ws' := [(h0, .inr (0, [.ref a1, .ref a2, .ref a3])), (a2, zar d2 32 (sh_p4 (sh_p4 (sh_p4 (sh_p4 bb (4 * (4 * j)) v1) (4 * (4 * j) + 4) v2) (4 * (4 * j) + 8) v3) (4 * (4 * j) + 12) v4))]) [0, 1] rfl
  have hD := hD.sub (ws' := [(h0, .inr (0, [.ref a1, .ref a2, .ref a3])), (a2, zar d2 32 (sh_p4 (sh_p4 (sh_p4 (sh_p4 bb (4 * (4 * j)) v1) (4 * (4 * j) + 4) v2) (4 * (4 * j) + 8) v3) (4 * (4 * j) + 12) v4))]) [0, 1] (by decide) rfl
  have hP : va_P D zcl [(h0, .inr (0, [.ref a1, .ref a2, .ref a3])), (a2, zar d2 32 (sh_p16 bb (4 * (4 * j)) v1 v2 v3 v4))] H := hP
  have hD : va_D A [(h0, .inr (0, [.ref a1, .ref a2, .ref a3])), (a2, zar d2 32 (sh_p16 bb (4 * (4 * j)) v1 v2 v3 v4))] := hD
  have hP9 := hP.sub (ws' := [(h0, .inr (0, [.ref a1, .ref a2, .ref a3])), (a2, zar d2 32 (sh_p16 bb (4 * (4 * j)) v1 v2 v3 v4))]) [0, 1] rfl
  have hD9 := hD.sub (ws' := [(h0, .inr (0, [.ref a1, .ref a2, .ref a3])), (a2, zar d2 32 (sh_p16 bb (4 * (4 * j)) v1 v2 v3 v4))]) [0, 1] (by decide) rfl
  have hK9 := hK.sub (tys' := [(d2, .byte)]) [0] rfl
  refine W.widen (k := 0) (n := 0) (Nat.le_of_ble_eq_true rfl) (Nat.le_of_ble_eq_true rfl) ?_
  exact W.vret hx hb hr (fun t ht hW => ⟨⟨(), rfl, trivial, by rw [ht]; exact hP9, va_K.moved hW.alike hK9, hD9⟩, hS.F ht⟩) hS.2.2 dX0_block_57

set_option maxHeartbeats 4000000 in
set_option maxRecDepth 100000 in
theorem zX0_again (l : Launch) (D : va_G) (sz : Nat) (h0 a1 a2 a3 : Nat) (d2 d3 : ClassId) (bb ob : Nat → Int32) (hN : sh_N 32 ob) : Met l yX0_again (ws_ yX0_again cX0_again 2 none) ({ frames := 0, cells := 0, slots := 0, locals := 0 }) (va_Pc [.ref h0] (zW D [(h0, .inr (0, [.ref a1, .ref a2, .ref a3])), (a2, zar d2 32 bb), (a3, zar d3 32 ob)] [(d2, .byte), (d3, .byte)] sz)) (va_Qv (fun _ : Unit => True) (fun _ t => zB D [(h0, .inr (0, [.ref a1, .ref a2, .ref a3])), (a2, zar d2 32 (sh_cp ob bb 32)), (a3, zar d3 32 ob)] [(d2, .byte), (d3, .byte)] (va_A [(h0, .inr (0, [.ref a1, .ref a2, .ref a3])), (a2, zar d2 32 bb), (a3, zar d3 32 ob)] sz) t) (va_A [(h0, .inr (0, [.ref a1, .ref a2, .ref a3])), (a2, zar d2 32 bb), (a3, zar d3 32 ob)] sz)) 0 0 (va_A [(h0, .inr (0, [.ref a1, .ref a2, .ref a3])), (a2, zar d2 32 bb), (a3, zar d3 32 ob)] sz) := by
  refine Met.ofW (cc := cX0_again) (maxL := 2) (ret := none) (by decide) rfl ?_
  intro p e s m args below meth c s₁ B hml hv
  obtain ⟨rfl, hsz, hP, hK, hD0⟩ := hv
  have hx := B.exec
  have hb := B.bytes
  have hr := B.returns
  have hts := atoms_spec (ws := (ws_ yX0_again cX0_again 2 none)) B.pre
  have hts : ∀ w ∈ lw_all, w.before _ s = true := fun w h => hts w (List.mem_cons_of_mem _ h)
  have hown : s.vm.findClass RX0 = some m.cls := findClass_of_methodNamed B.named
  have hlocks := B.notSynchronized
  subst hsz
  have hD := hD0.self (sz := s.heap.size)
  generalize hAe : va_A [(h0, .inr (0, [.ref a1, .ref a2, .ref a3])), (a2, zar d2 32 bb), (a3, zar d3 32 ob)] s.heap.size = A at hD ⊢
  have hA : ∀ q : Nat, s.heap.size ≤ q → A q := fun q h => by rw [← hAe]; exact Or.inr h
  have hS : va_S A s.heap s.heap [] := va_S.rf
  have hl := lv_entry ([.ref h0]) (n := 2) (Nat.le_of_ble_eq_true rfl)
  rw [lg_entry_eq]
  generalize (lg_sl ([.ref h0]) ++ List.replicate (2 - (lg_sl ([.ref h0])).length) Slot.unset).toArray = ls at hl ⊢
  have hl : lv_has ls 2 [(0, .ref h0)] := hl
  have hP : va_P D zcl [(h0, .inr (0, [.ref a1, .ref a2, .ref a3])), (a2, zar d2 32 bb), (a3, zar d3 32 ob)] s.heap := hP
  refine lv_iconst (v := (nI 0)) hx hb dX0_again_0 (by decide) ?_
  refine lv_istore_n (lv' := [(1, .int (nI 0)), (0, .ref h0)]) hx hb dX0_again_1 rfl hl (by decide) rfl (fun ls hl => ?_)
  have loop : ∀ (n i : Nat), i + n = 32 → ∀ (H : Heap) (locs : List Loc) (ls : Array Slot), va_K D zcl [(d2, .byte), (d3, .byte)] s → va_P D zcl [(h0, .inr (0, [.ref a1, .ref a2, .ref a3])), (a2, zar d2 32 (sh_cp ob bb i)), (a3, zar d3 32 ob)] H → va_D A [(h0, .inr (0, [.ref a1, .ref a2, .ref a3])), (a2, zar d2 32 (sh_cp ob bb i)), (a3, zar d3 32 ob)] → va_S A s.heap H locs → lv_has ls 2 [(0, .ref h0), (1, .int (nI i))] → W p l e (headSpec (ws_ yX0_again cX0_again 2 none) ({ frames := 0, cells := 0, slots := 0, locals := 0 })).room s m ([.ref h0] : List Value).toArray below meth c H locs 0 0 (MQ below (va_Qv (fun _ : Unit => True) (fun _ t => zB D [(h0, .inr (0, [.ref a1, .ref a2, .ref a3])), (a2, zar d2 32 (sh_cp ob bb 32)), (a3, zar d3 32 ob)] [(d2, .byte), (d3, .byte)] A t) A) ([.ref h0] : List Value).toArray s 0 0 A) (F0 m 2 ls []) := by
    intro n
    induction n with
    | zero =>
      intro i hi H locs ls hK hP hD hS hl
      obtain rfl : i = 32 := by omega
      refine lv_iload_n hx hb dX0_again_2 rfl (lv_at hl 1 rfl) ?_
      refine lv_bipush (v := (32 : Int32)) hx hb dX0_again_3 (by decide) ?_
      refine z_ge_t (tgt := 26) hx hb dX0_again_5 (by decide) (nI_le (a := 32) (b := 32) (by omega) (by omega)) ?_
      have hP9 := hP.sub (ws' := [(h0, .inr (0, [.ref a1, .ref a2, .ref a3])), (a2, zar d2 32 (sh_cp ob bb 32)), (a3, zar d3 32 ob)]) [0, 1, 2] rfl
      have hD9 := hD.sub (ws' := [(h0, .inr (0, [.ref a1, .ref a2, .ref a3])), (a2, zar d2 32 (sh_cp ob bb 32)), (a3, zar d3 32 ob)]) [0, 1, 2] (by decide) rfl
      have hK9 := hK.sub (tys' := [(d2, .byte), (d3, .byte)]) [0, 1] rfl
      refine W.widen (k := 0) (n := 0) (Nat.le_of_ble_eq_true rfl) (Nat.le_of_ble_eq_true rfl) ?_
      exact W.vret hx hb hr (fun t ht hW => ⟨⟨(), rfl, trivial, by rw [ht]; exact hP9, va_K.moved hW.alike hK9, hD9⟩, hS.F ht⟩) hS.2.2 dX0_again_26
    | succ n ih =>
      intro i hi H locs ls hK hP hD hS hl
      refine lv_iload_n hx hb dX0_again_2 rfl (lv_at hl 1 rfl) ?_
      refine lv_bipush (v := (32 : Int32)) hx hb dX0_again_3 (by decide) ?_
      refine z_ge_f (tgt := 26) hx hb dX0_again_5 (by decide) (nI_ge (a := i) (b := 32) (by omega) (by omega)) ?_
      refine lv_aload_n hx hb dX0_again_8 rfl (lv_at hl 0 rfl) ?_
      refine va_get (D := D) (ci := 0) (v := .ref a2) (C := RX0) (T := TX0) (N := 3) hx hb hts in_X0 hown hK hP 0 rfl rfl 1 (by decide) (hts _ q32) (fun _ h9 => h9) rfl dX0_again_9 ?_
      refine lv_iload_n hx hb dX0_again_12 rfl (lv_at hl 1 rfl) ?_
      refine lv_aload_n hx hb dX0_again_13 rfl (lv_at hl 0 rfl) ?_
      refine va_get (D := D) (ci := 0) (v := .ref a3) (C := RX0) (T := TX0) (N := 3) hx hb hts in_X0 hown hK hP 0 rfl rfl 2 (by decide) (hts _ q33) (fun _ h9 => h9) rfl dX0_again_14 ?_
      refine lv_iload_n hx hb dX0_again_17 rfl (lv_at hl 1 rfl) ?_
      refine z_bld hx hb hK hP 2 1 rfl rfl (v := (ob i)) i rfl (by omega) (by decide) (rfl) dX0_again_18 ?_
      refine z_bst (f' := (sh_cp ob bb (i + 1))) hx hb hK hP hD hS 1 0 rfl rfl i rfl (by omega) (by decide) ((hN i (by omega)).1) (sh_cp_s _ _ _ rfl) dX0_again_19 (fun H locs hP hD hS => ?_)
      have hP : va_P D zcl [(h0, .inr (0, [.ref a1, .ref a2, .ref a3])), (a2, zar d2 32 (sh_cp ob bb (i + 1))), (a3, zar d3 32 ob)] H := hP
      have hD : va_D A [(h0, .inr (0, [.ref a1, .ref a2, .ref a3])), (a2, zar d2 32 (sh_cp ob bb (i + 1))), (a3, zar d3 32 ob)] := hD
      refine lv_iinc (v := (nI (i + 1))) (lv' := [(1, .int (nI (i + 1))), (0, .ref h0)]) hx hb dX0_again_20 hl (k := 1) rfl (z_inc i) (by decide) rfl (fun ls hl => ?_)
      refine lv_goto (tgt := 2) hx hb dX0_again_23 (by decide) ?_
      exact ih (i + 1) (by omega) _ _ ls hK (hP.sub [0, 1, 2] rfl) (hD.sub [0, 1, 2] (by decide) rfl) hS (lv_sub hl [1, 0] rfl)
  rw [← sh_cp_0 ob bb] at hP hD
  exact loop 32 0 (by omega) _ _ ls hK (hP.sub [0, 1, 2] rfl) (hD.sub [0, 1, 2] (by decide) rfl) hS (lv_sub hl [1, 0] rfl)

set_option maxHeartbeats 4000000 in
set_option maxRecDepth 100000 in
theorem zX0_out (l : Launch) (D : va_G) (sz : Nat) (h0 a1 a2 a3 : Nat) (d3 : ClassId) (ob : Nat → Int32) (p0 : Int32) (j : Nat) (hj : j < 32) (hp : p0 &&& 31 = nI j) : Met l yX0_out (ws_ yX0_out cX0_out 2 (some .int)) ({ frames := 0, cells := 0, slots := 0, locals := 0 }) (va_Pc [.ref h0, .int p0] (zW D [(h0, .inr (0, [.ref a1, .ref a2, .ref a3])), (a3, zar d3 32 ob)] [(d3, .byte)] sz)) (va_Qi (fun (r : Int32) (_ : Unit) => r = ob j &&& 255) (fun _ t => zB D [(h0, .inr (0, [.ref a1, .ref a2, .ref a3])), (a3, zar d3 32 ob)] [(d3, .byte)] (va_A [(h0, .inr (0, [.ref a1, .ref a2, .ref a3])), (a3, zar d3 32 ob)] sz) t) (va_A [(h0, .inr (0, [.ref a1, .ref a2, .ref a3])), (a3, zar d3 32 ob)] sz)) 0 0 (va_A [(h0, .inr (0, [.ref a1, .ref a2, .ref a3])), (a3, zar d3 32 ob)] sz) := by
  refine Met.ofW (cc := cX0_out) (maxL := 2) (ret := (some .int)) (by decide) rfl ?_
  intro p e s m args below meth c s₁ B hml hv
  obtain ⟨rfl, hsz, hP, hK, hD0⟩ := hv
  have hx := B.exec
  have hb := B.bytes
  have hr := B.returns
  have hts := atoms_spec (ws := (ws_ yX0_out cX0_out 2 (some .int))) B.pre
  have hts : ∀ w ∈ lw_all, w.before _ s = true := fun w h => hts w (List.mem_cons_of_mem _ h)
  have hown : s.vm.findClass RX0 = some m.cls := findClass_of_methodNamed B.named
  have hlocks := B.notSynchronized
  subst hsz
  have hD := hD0.self (sz := s.heap.size)
  generalize hAe : va_A [(h0, .inr (0, [.ref a1, .ref a2, .ref a3])), (a3, zar d3 32 ob)] s.heap.size = A at hD ⊢
  have hA : ∀ q : Nat, s.heap.size ≤ q → A q := fun q h => by rw [← hAe]; exact Or.inr h
  have hS : va_S A s.heap s.heap [] := va_S.rf
  have hl := lv_entry ([.ref h0, .int p0]) (n := 2) (Nat.le_of_ble_eq_true rfl)
  rw [lg_entry_eq]
  generalize (lg_sl ([.ref h0, .int p0]) ++ List.replicate (2 - (lg_sl ([.ref h0, .int p0])).length) Slot.unset).toArray = ls at hl ⊢
  have hl : lv_has ls 2 [(0, .ref h0), (1, .int p0)] := hl
  have hP : va_P D zcl [(h0, .inr (0, [.ref a1, .ref a2, .ref a3])), (a3, zar d3 32 ob)] s.heap := hP
  refine lv_aload_n hx hb dX0_out_0 rfl (lv_at hl 0 rfl) ?_
  refine va_get (D := D) (ci := 0) (v := .ref a3) (C := RX0) (T := TX0) (N := 3) hx hb hts in_X0 hown hK hP 0 rfl rfl 2 (by decide) (hts _ q33) (fun _ h9 => h9) rfl dX0_out_1 ?_
  refine lv_iload_n hx hb dX0_out_4 rfl (lv_at hl 1 rfl) ?_
  refine lv_bipush (v := (31 : Int32)) hx hb dX0_out_5 (by decide) ?_
  refine lv_iand hx hb dX0_out_7 ?_
  refine z_top (y := (nI j)) (hp) ?_
  refine z_bld hx hb hK hP 1 0 rfl rfl (v := (ob j)) j rfl (by omega) (by decide) (rfl) dX0_out_8 ?_
  refine lv_sipush (v := (255 : Int32)) hx hb dX0_out_9 (by decide) ?_
  refine lv_iand hx hb dX0_out_12 ?_
  have hP9 := hP.sub (ws' := [(h0, .inr (0, [.ref a1, .ref a2, .ref a3])), (a3, zar d3 32 ob)]) [0, 1] rfl
  have hD9 := hD.sub (ws' := [(h0, .inr (0, [.ref a1, .ref a2, .ref a3])), (a3, zar d3 32 ob)]) [0, 1] (by decide) rfl
  have hK9 := hK.sub (tys' := [(d3, .byte)]) [0] rfl
  refine W.widen (k := 0) (n := 0) (Nat.le_of_ble_eq_true rfl) (Nat.le_of_ble_eq_true rfl) ?_
  exact W.iret (v := ((ob j) &&& (255 : Int32))) hx hb hr (fun t ht hW => ⟨⟨_, (), rfl, rfl, by rw [ht]; exact hP9, va_K.moved hW.alike hK9, hD9⟩, hS.F ht⟩) hS.2.2 dX0_out_13

set_option maxHeartbeats 4000000 in
set_option maxRecDepth 100000 in
theorem zX0_run_1 (l : Launch) (D : va_G) (tk tc : Nat) (sz : Nat) (h0 a1 a2 a3 : Nat) (d1 d2 d3 : ClassId) (kb bb ob : Nat → Int32) (p0 : Int32) (hN : sh_N 64 kb) : Met l yX0_run (ws_ yX0_run cX0_run 5 none) ({ frames := 4, cells := 6, slots := 203, locals := 90 }) (va_Pc [.ref h0, .int (1 : Int32), .int p0] (zV tk tc D [(h0, .inr (0, [.ref a1, .ref a2, .ref a3])), (a1, zar d1 64 kb), (a2, zar d2 32 bb), (a3, zar d3 32 ob)] [(d1, .byte), (d2, .byte), (d3, .byte)] sz)) (va_Qv (fun _ : Unit => True) (fun _ t => zB D [(h0, .inr (0, [.ref a1, .ref a2, .ref a3])), (a1, zar d1 64 kb), (a2, zar d2 32 bb), (a3, zar d3 32 (sh_cp (sh_dis (sh_f8 (sh_enc sh_K (sh_sch (sh_asm kb)) (sh_x8 (sh_asm bb)) 64))) ob 32))] [(d1, .byte), (d2, .byte), (d3, .byte)] (va_A [(h0, .inr (0, [.ref a1, .ref a2, .ref a3])), (a1, zar d1 64 kb), (a2, zar d2 32 bb), (a3, zar d3 32 ob)] sz) t) (va_A [(h0, .inr (0, [.ref a1, .ref a2, .ref a3])), (a1, zar d1 64 kb), (a2, zar d2 32 bb), (a3, zar d3 32 ob)] sz)) 6 203 (va_A [(h0, .inr (0, [.ref a1, .ref a2, .ref a3])), (a1, zar d1 64 kb), (a2, zar d2 32 bb), (a3, zar d3 32 ob)] sz) := by
  refine Met.ofW (cc := cX0_run) (maxL := 5) (ret := none) (by decide) rfl ?_
  intro p e s m args below meth c s₁ B hml hv
  obtain ⟨rfl, ⟨hsz, hP, hK, hD0⟩, hZ⟩ := hv
  have hx := B.exec
  have hb := B.bytes
  have hr := B.returns
  have hts := atoms_spec (ws := (ws_ yX0_run cX0_run 5 none)) B.pre
  have hts : ∀ w ∈ lw_all, w.before _ s = true := fun w h => hts w (List.mem_cons_of_mem _ h)
  have hown : s.vm.findClass RX0 = some m.cls := findClass_of_methodNamed B.named
  have hlocks := B.notSynchronized
  subst hsz
  have hD := hD0.self (sz := s.heap.size)
  generalize hAe : va_A [(h0, .inr (0, [.ref a1, .ref a2, .ref a3])), (a1, zar d1 64 kb), (a2, zar d2 32 bb), (a3, zar d3 32 ob)] s.heap.size = A at hD hZ ⊢
  have hA : ∀ q : Nat, s.heap.size ≤ q → A q := fun q h => by rw [← hAe]; exact Or.inr h
  have hS : va_S A s.heap s.heap [] := va_S.rf
  have hl := lv_entry ([.ref h0, .int (1 : Int32), .int p0]) (n := 5) (Nat.le_of_ble_eq_true rfl)
  rw [lg_entry_eq]
  generalize (lg_sl ([.ref h0, .int (1 : Int32), .int p0]) ++ List.replicate (5 - (lg_sl ([.ref h0, .int (1 : Int32), .int p0])).length) Slot.unset).toArray = ls at hl ⊢
  have hl : lv_has ls 5 [(0, .ref h0), (1, .int (1 : Int32)), (2, .int p0)] := hl
  have hP : va_P D zcl [(h0, .inr (0, [.ref a1, .ref a2, .ref a3])), (a1, zar d1 64 kb), (a2, zar d2 32 bb), (a3, zar d3 32 ob)] s.heap := hP
  refine lv_bipush (v := (64 : Int32)) hx hb dX0_run_0 (by decide) ?_
  refine va_newa (atype := .byte) (ty := .byte) (N' := 64) (a0 := (64, .inl sh_z)) hx hb (hts _ q41) rfl hK hP hD hS hA (fun _ => rfl) (by decide) (by decide) (by decide) (Nat.le_of_ble_eq_true rfl) (Nat.le_of_ble_eq_true rfl) dX0_run_2 (fun ak dk H hK hP hD hS => ?_)
  have hK : va_K D zcl [(d1, .byte), (d2, .byte), (d3, .byte), (dk, .byte)] s := hK
  have hP : va_P D zcl [(h0, .inr (0, [.ref a1, .ref a2, .ref a3])), (a1, zar d1 64 kb), (a2, zar d2 32 bb), (a3, zar d3 32 ob), (ak, zar dk 64 sh_z)] H := hP
  have hD : va_D A [(h0, .inr (0, [.ref a1, .ref a2, .ref a3])), (a1, zar d1 64 kb), (a2, zar d2 32 bb), (a3, zar d3 32 ob), (ak, zar dk 64 sh_z)] := hD
  refine W.widen (k := 1) (n := 64) (Nat.le_of_ble_eq_true rfl) (Nat.le_of_ble_eq_true rfl) ?_
  refine lv_astore_n (lv' := [(3, .ref ak), (0, .ref h0), (1, .int (1 : Int32)), (2, .int p0)]) hx hb dX0_run_4 rfl hl (by decide) rfl (fun ls hl => ?_)
  refine lv_iconst (v := (nI 0)) hx hb dX0_run_5 (by decide) ?_
  refine lv_istore (lv' := [(4, .int (nI 0)), (3, .ref ak), (0, .ref h0), (1, .int (1 : Int32)), (2, .int p0)]) hx hb dX0_run_6 hl (by decide) rfl (fun ls hl => ?_)
  have loop : ∀ (n i : Nat), i + n = 64 → ∀ (H : Heap) (locs : List Loc) (ls : Array Slot), va_K D zcl [(d1, .byte), (d2, .byte), (d3, .byte), (dk, .byte)] s → va_P D zcl [(h0, .inr (0, [.ref a1, .ref a2, .ref a3])), (a1, zar d1 64 kb), (a2, zar d2 32 bb), (a3, zar d3 32 ob), (ak, zar dk 64 (sh_cp kb sh_z i))] H → va_D A [(h0, .inr (0, [.ref a1, .ref a2, .ref a3])), (a1, zar d1 64 kb), (a2, zar d2 32 bb), (a3, zar d3 32 ob), (ak, zar dk 64 (sh_cp kb sh_z i))] → va_S A s.heap H locs → lv_has ls 5 [(0, .ref h0), (1, .int (1 : Int32)), (2, .int p0), (3, .ref ak), (4, .int (nI i))] → W p l e (headSpec (ws_ yX0_run cX0_run 5 none) ({ frames := 4, cells := 6, slots := 203, locals := 90 })).room s m ([.ref h0, .int (1 : Int32), .int p0] : List Value).toArray below meth c H locs 1 64 (MQ below (va_Qv (fun _ : Unit => True) (fun _ t => zB D [(h0, .inr (0, [.ref a1, .ref a2, .ref a3])), (a1, zar d1 64 kb), (a2, zar d2 32 bb), (a3, zar d3 32 (sh_cp (sh_dis (sh_f8 (sh_enc sh_K (sh_sch (sh_asm kb)) (sh_x8 (sh_asm bb)) 64))) ob 32))] [(d1, .byte), (d2, .byte), (d3, .byte)] A t) A) ([.ref h0, .int (1 : Int32), .int p0] : List Value).toArray s 6 203 A) (F0 m 8 ls []) := by
    intro n
    induction n with
    | zero =>
      intro i hi H locs ls hK hP hD hS hl
      obtain rfl : i = 64 := by omega
      refine lv_iload hx hb dX0_run_8 (lv_at hl 4 rfl) ?_
      refine lv_aload_n hx hb dX0_run_10 rfl (lv_at hl 3 rfl) ?_
      refine va_alen (v := (64 : Int32)) hx hb hK hP 4 3 rfl rfl rfl dX0_run_11 ?_
      refine z_ge_t (tgt := 32) hx hb dX0_run_12 (by decide) (nI_le (a := 64) (b := 64) (by omega) (by omega)) ?_
      refine va_new (ci := 2) (fs := [.int 0, .null]) (C := RX2) (T := TX2) (N := 2) hx hb hts in_X2 tyX2 tyX2_ok hown (hts _ q61) (hts _ q62) (hts _ q12) hK hP hD hS hA rfl (fun j hj => by rcases (show j = 0 ∨ j = 1 by omega) with rfl | rfl <;> rfl) (Nat.le_of_ble_eq_true rfl) (Nat.le_of_ble_eq_true rfl) dX0_run_32 (fun en H hP hD hS => ?_)
      have hP : va_P D zcl [(h0, .inr (0, [.ref a1, .ref a2, .ref a3])), (a1, zar d1 64 kb), (a2, zar d2 32 bb), (a3, zar d3 32 ob), (ak, zar dk 64 (sh_cp kb sh_z 64)), (en, .inr (2, [.int 0, .null]))] H := hP
      have hD : va_D A [(h0, .inr (0, [.ref a1, .ref a2, .ref a3])), (a1, zar d1 64 kb), (a2, zar d2 32 bb), (a3, zar d3 32 ob), (ak, zar dk 64 (sh_cp kb sh_z 64)), (en, .inr (2, [.int 0, .null]))] := hD
      refine W.widen (k := 2) (n := 66) (Nat.le_of_ble_eq_true rfl) (Nat.le_of_ble_eq_true rfl) ?_
      refine lv_dup hx hb dX0_run_35 rfl ?_
      have hPc := hP.sub (ws' := [(en, .inr (2, [.int 0, .null]))]) [5] rfl
      have hDc := hD.sub (ws' := [(en, .inr (2, [.int 0, .null]))]) [5] (by decide) rfl
      have hKc := hK.sub (tys' := []) [] rfl
      have hFc := va_free (wc := [(en, .inr (2, [.int 0, .null]))]) hD hS hA [5] rfl
      refine va_callv (va_runI (As := []) (rest := [.ref en]) ⟨hx, hb, hml, hown, hts⟩ (zX2_init l D _ en) (cwI 0 hts (lw_meth q65) rfl rfl rfl (hts _ q12) (hts _ q63) (hts _ q64) rfl (by decide +kernel) ⟨(Nat.le_of_ble_eq_true rfl), (Nat.le_of_ble_eq_true rfl)⟩) (z_preS [.ref en] hPc hKc hDc) rfl rfl hl.1 rfl (lv_room (Nat.le_of_ble_eq_true rfl)) dX0_run_36 ⟨(Nat.le_of_ble_eq_true rfl), (Nat.le_of_ble_eq_true rfl)⟩) hS (fun q _ h => hFc q h) hFc (fun u t H1 locs ht hvm hw_4 hB hz1 hk1 hS => ?_)
      obtain ⟨hP1, hK1, hD1⟩ := hB
      rw [ht] at hP1
      have hK1 := va_K.moved hvm.symm hK1
      obtain ⟨hP, hD⟩ := va_join (wr := [(h0, .inr (0, [.ref a1, .ref a2, .ref a3])), (a1, zar d1 64 kb), (a2, zar d2 32 bb), (a3, zar d3 32 ob), (ak, zar dk 64 (sh_cp kb sh_z 64))]) (w1 := [(en, .inr (2, [.int (0 : Int32), .null]))]) hP hD [5] [0, 1, 2, 3, 4] rfl rfl (by decide) (by decide) hk1 hFc hP1 hD1
      generalize H1 = H at hP hS ⊢
      have hP := hP.sub (ws' := [(h0, .inr (0, [.ref a1, .ref a2, .ref a3])), (a1, zar d1 64 kb), (a2, zar d2 32 bb), (a3, zar d3 32 ob), (ak, zar dk 64 (sh_cp kb sh_z 64)), (en, .inr (2, [.int (0 : Int32), .null]))]) [0, 1, 2, 3, 4, 5] rfl
      have hD := hD.sub (ws' := [(h0, .inr (0, [.ref a1, .ref a2, .ref a3])), (a1, zar d1 64 kb), (a2, zar d2 32 bb), (a3, zar d3 32 ob), (ak, zar dk 64 (sh_cp kb sh_z 64)), (en, .inr (2, [.int (0 : Int32), .null]))]) [0, 1, 2, 3, 4, 5] (by decide) rfl
      refine lv_astore (lv' := [(4, .ref en), (0, .ref h0), (1, .int (1 : Int32)), (2, .int p0), (3, .ref ak)]) hx hb dX0_run_39 hl (by decide) rfl (fun ls hl => ?_)
      refine lv_aload hx hb dX0_run_41 (lv_at hl 0 rfl) ?_
      refine lv_iload_n hx hb dX0_run_43 rfl (lv_at hl 2 rfl) ?_
      refine va_new (ci := 3) (fs := [.null]) (C := RX3) (T := TX3) (N := 1) hx hb hts in_X3 tyX3 tyX3_ok hown (hts _ q74) (hts _ q75) (hts _ q13) hK hP hD hS hA rfl (fun j hj => by rcases (show j = 0 by omega) with rfl <;> rfl) (Nat.le_of_ble_eq_true rfl) (Nat.le_of_ble_eq_true rfl) dX0_run_44 (fun kp H hP hD hS => ?_)
      have hP : va_P D zcl [(h0, .inr (0, [.ref a1, .ref a2, .ref a3])), (a1, zar d1 64 kb), (a2, zar d2 32 bb), (a3, zar d3 32 ob), (ak, zar dk 64 (sh_cp kb sh_z 64)), (en, .inr (2, [.int (0 : Int32), .null])), (kp, .inr (3, [.null]))] H := hP
      have hD : va_D A [(h0, .inr (0, [.ref a1, .ref a2, .ref a3])), (a1, zar d1 64 kb), (a2, zar d2 32 bb), (a3, zar d3 32 ob), (ak, zar dk 64 (sh_cp kb sh_z 64)), (en, .inr (2, [.int (0 : Int32), .null])), (kp, .inr (3, [.null]))] := hD
      refine W.widen (k := 3) (n := 67) (Nat.le_of_ble_eq_true rfl) (Nat.le_of_ble_eq_true rfl) ?_
      refine lv_dup hx hb dX0_run_47 rfl ?_
      refine lv_aload_n hx hb dX0_run_48 rfl (lv_at hl 4 rfl) ?_
      have hPc := hP.sub (ws' := [(kp, .inr (3, [.null])), (ak, zar dk 64 (sh_cp kb sh_z 64))]) [6, 4] rfl
      have hDc := hD.sub (ws' := [(kp, .inr (3, [.null])), (ak, zar dk 64 (sh_cp kb sh_z 64))]) [6, 4] (by decide) rfl
      have hKc := hK.sub (tys' := [(dk, .byte)]) [3] rfl
      have hFc := va_free (wc := [(kp, .inr (3, [.null])), (ak, zar dk 64 (sh_cp kb sh_z 64))]) hD hS hA [6, 4] rfl
      refine va_callv (va_runI (As := [.ref ak]) (rest := [.ref kp, .int (1 : Int32), .ref en]) ⟨hx, hb, hml, hown, hts⟩ (zX3_init l D _ kp ak dk (sh_cp kb sh_z 64) (sh_N_cp hN)) (cwI 1 hts (lw_meth q78) rfl rfl rfl (hts _ q13) (hts _ q76) (hts _ q77) rfl (by decide +kernel) ⟨(Nat.le_of_ble_eq_true rfl), (Nat.le_of_ble_eq_true rfl)⟩) (z_preS [.ref kp, .ref ak] hPc hKc hDc) rfl rfl hl.1 rfl (lv_room (Nat.le_of_ble_eq_true rfl)) dX0_run_49 ⟨(Nat.le_of_ble_eq_true rfl), (Nat.le_of_ble_eq_true rfl)⟩) hS (fun q _ h => hFc q h) hFc (fun u t H1 locs ht hvm hw_6 hB hz1 hk1 hS => ?_)
      obtain ⟨kq, dq, hP1, hK1, hD1⟩ := hB
      rw [ht] at hP1
      have hK1 := va_K.moved hvm.symm hK1
      obtain ⟨hP, hD⟩ := va_join (wr := [(h0, .inr (0, [.ref a1, .ref a2, .ref a3])), (a1, zar d1 64 kb), (a2, zar d2 32 bb), (a3, zar d3 32 ob), (en, .inr (2, [.int (0 : Int32), .null]))]) (w1 := [(kp, .inr (3, [.ref kq])), (ak, zar dk 64 (sh_cp kb sh_z 64)), (kq, zar dq 64 (sh_cp (sh_cp kb sh_z 64) sh_z 64))]) hP hD [6, 4] [0, 1, 2, 3, 5] rfl rfl (by decide) (by decide) hk1 hFc hP1 hD1
      have hK := hK.app hK1
      have hK : va_K D zcl [(d1, .byte), (d2, .byte), (d3, .byte), (dk, .byte), (dk, .byte), (dq, .byte)] s := hK
      generalize H1 = H at hP hS ⊢
      have hP := hP.sub (ws' := [(h0, .inr (0, [.ref a1, .ref a2, .ref a3])), (a1, zar d1 64 kb), (a2, zar d2 32 bb), (a3, zar d3 32 ob), (ak, zar dk 64 (sh_cp kb sh_z 64)), (en, .inr (2, [.int (0 : Int32), .null])), (kp, .inr (3, [.ref kq])), (kq, zar dq 64 (sh_cp (sh_cp kb sh_z 64) sh_z 64))]) [0, 1, 2, 3, 6, 4, 5, 7] rfl
      have hD := hD.sub (ws' := [(h0, .inr (0, [.ref a1, .ref a2, .ref a3])), (a1, zar d1 64 kb), (a2, zar d2 32 bb), (a3, zar d3 32 ob), (ak, zar dk 64 (sh_cp kb sh_z 64)), (en, .inr (2, [.int (0 : Int32), .null])), (kp, .inr (3, [.ref kq])), (kq, zar dq 64 (sh_cp (sh_cp kb sh_z 64) sh_z 64))]) [0, 1, 2, 3, 6, 4, 5, 7] (by decide) rfl
      refine W.widen (k := 4) (n := 131) (Nat.le_of_ble_eq_true rfl) (Nat.le_of_ble_eq_true rfl) ?_
      have hPc := hP.sub (ws' := [(en, .inr (2, [.int (0 : Int32), .null])), (kp, .inr (3, [.ref kq])), (kq, zar dq 64 (sh_cp (sh_cp kb sh_z 64) sh_z 64))]) [5, 6, 7] rfl
      have hDc := hD.sub (ws' := [(en, .inr (2, [.int (0 : Int32), .null])), (kp, .inr (3, [.ref kq])), (kq, zar dq 64 (sh_cp (sh_cp kb sh_z 64) sh_z 64))]) [5, 6, 7] (by decide) rfl
      have hKc := hK.sub (tys' := [(dq, .byte)]) [5] rfl
      have hFc := va_free (wc := [(en, .inr (2, [.int (0 : Int32), .null])), (kp, .inr (3, [.ref kq])), (kq, zar dq 64 (sh_cp (sh_cp kb sh_z 64) sh_z 64))]) hD hS hA [5, 6, 7] rfl
      refine va_callFv (va_runF ((hK.1 2 _ rfl).2) (As := [.int (1 : Int32), .ref kp]) (rest := []) ⟨hx, hb, hml, hown, hts⟩ (zX2_init_2 l D _ en kp kq dq (sh_cp (sh_cp kb sh_z 64) sh_z 64) (1 : Int32) (by decide)) (va_cwF 2 hts (z_lwF q94 q98 q100 q12 q102) rfl rfl rfl hZ.2.2.1 (by decide +kernel) ⟨(Nat.le_of_ble_eq_true rfl), (Nat.le_of_ble_eq_true rfl)⟩) (z_preV [.int (1 : Int32), .ref kp] hPc hKc hDc (va_recv hKc hPc (ci := 2) (q0 := 0) rfl rfl)) rfl rfl hl.1 rfl (lv_room (Nat.le_of_ble_eq_true rfl)) dX0_run_52 ⟨(Nat.le_of_ble_eq_true rfl), (Nat.le_of_ble_eq_true rfl)⟩) hS (fun q _ h => hFc q h) hFc (fun u t H1 locs ht hvm hw_7 hB hz1 hk1 hS => ?_)
      obtain ⟨aw, dw, hP1, hK1, hD1⟩ := hB
      rw [ht] at hP1
      have hK1 := va_K.moved hvm.symm hK1
      obtain ⟨hP, hD⟩ := va_join (wr := [(h0, .inr (0, [.ref a1, .ref a2, .ref a3])), (a1, zar d1 64 kb), (a2, zar d2 32 bb), (a3, zar d3 32 ob), (ak, zar dk 64 (sh_cp kb sh_z 64))]) (w1 := [(en, .inr (2, [.int (1 : Int32), .ref aw])), (kp, .inr (3, [.ref kq])), (kq, zar dq 64 (sh_cp (sh_cp kb sh_z 64) sh_z 64)), (aw, zar dw 64 (sh_sch (sh_asm (sh_cp (sh_cp kb sh_z 64) sh_z 64))))]) hP hD [5, 6, 7] [0, 1, 2, 3, 4] rfl rfl (by decide) (by decide) hk1 hFc hP1 hD1
      have hK := hK.app hK1
      have hK : va_K D zcl [(d1, .byte), (d2, .byte), (d3, .byte), (dk, .byte), (dk, .byte), (dq, .byte), (dq, .byte), (dw, .int)] s := hK
      generalize H1 = H at hP hS ⊢
      have hP := hP.sub (ws' := [(h0, .inr (0, [.ref a1, .ref a2, .ref a3])), (a1, zar d1 64 kb), (a2, zar d2 32 bb), (a3, zar d3 32 ob), (ak, zar dk 64 (sh_cp kb sh_z 64)), (en, .inr (2, [.int (1 : Int32), .ref aw])), (kp, .inr (3, [.ref kq])), (kq, zar dq 64 (sh_cp (sh_cp kb sh_z 64) sh_z 64)), (aw, zar dw 64 (sh_sch (sh_asm (sh_cp (sh_cp kb sh_z 64) sh_z 64))))]) [0, 1, 2, 3, 4, 5, 6, 7, 8] rfl
      have hD := hD.sub (ws' := [(h0, .inr (0, [.ref a1, .ref a2, .ref a3])), (a1, zar d1 64 kb), (a2, zar d2 32 bb), (a3, zar d3 32 ob), (ak, zar dk 64 (sh_cp kb sh_z 64)), (en, .inr (2, [.int (1 : Int32), .ref aw])), (kp, .inr (3, [.ref kq])), (kq, zar dq 64 (sh_cp (sh_cp kb sh_z 64) sh_z 64)), (aw, zar dw 64 (sh_sch (sh_asm (sh_cp (sh_cp kb sh_z 64) sh_z 64))))]) [0, 1, 2, 3, 4, 5, 6, 7, 8] (by decide) rfl
      refine W.widen (k := 5) (n := 195) (Nat.le_of_ble_eq_true rfl) (Nat.le_of_ble_eq_true rfl) ?_
      refine lv_aload hx hb dX0_run_57 (lv_at hl 0 rfl) ?_
      refine lv_aload_n hx hb dX0_run_59 rfl (lv_at hl 1 rfl) ?_
      refine va_get (D := D) (ci := 0) (v := .ref a2) (C := RX0) (T := TX0) (N := 3) hx hb hts in_X0 hown hK hP 0 rfl rfl 1 (by decide) (hts _ q32) (fun _ h9 => h9) rfl dX0_run_60 ?_
      refine lv_iconst (v := (nI (4 * 0))) hx hb dX0_run_63 (by decide) ?_
      refine lv_aload_n hx hb dX0_run_64 rfl (lv_at hl 1 rfl) ?_
      refine va_get (D := D) (ci := 0) (v := .ref a3) (C := RX0) (T := TX0) (N := 3) hx hb hts in_X0 hown hK hP 0 rfl rfl 2 (by decide) (hts _ q33) (fun _ h9 => h9) rfl dX0_run_65 ?_
      refine lv_iconst (v := (nI (4 * 0))) hx hb dX0_run_68 (by decide) ?_
      have hPc := hP.sub (ws' := [(en, .inr (2, [.int (1 : Int32), .ref aw])), (aw, zar dw 64 (sh_sch (sh_asm (sh_cp (sh_cp kb sh_z 64) sh_z 64)))), (a2, zar d2 32 bb), (a3, zar d3 32 ob)]) [5, 8, 2, 3] rfl
      have hDc := hD.sub (ws' := [(en, .inr (2, [.int (1 : Int32), .ref aw])), (aw, zar dw 64 (sh_sch (sh_asm (sh_cp (sh_cp kb sh_z 64) sh_z 64)))), (a2, zar d2 32 bb), (a3, zar d3 32 ob)]) [5, 8, 2, 3] (by decide) rfl
      have hKc := hK.sub (tys' := [(dw, .int), (d2, .byte), (d3, .byte)]) [7, 1, 2] rfl
      have hFc := va_free (wc := [(en, .inr (2, [.int (1 : Int32), .ref aw])), (aw, zar dw 64 (sh_sch (sh_asm (sh_cp (sh_cp kb sh_z 64) sh_z 64)))), (a2, zar d2 32 bb), (a3, zar d3 32 ob)]) hD hS hA [5, 8, 2, 3] rfl
      refine va_callFi (va_runF ((hK.1 2 _ rfl).2) (As := [.ref a2, .int (nI (4 * 0)), .ref a3, .int (nI (4 * 0))]) (rest := []) ⟨hx, hb, hml, hown, hts⟩ (zX2_processBlock_1 l D tk tc _ en aw a2 a3 dw d2 d3 (sh_sch (sh_asm (sh_cp (sh_cp kb sh_z 64) sh_z 64))) bb ob) (va_cwF 4 hts (z_lwF q186 q189 q191 q12 q193) rfl rfl rfl hZ.2.2.2 (by decide +kernel) ⟨(Nat.le_of_ble_eq_true rfl), (Nat.le_of_ble_eq_true rfl)⟩) (z_preVE [.ref a2, .int (nI (4 * 0)), .ref a3, .int (nI (4 * 0))] hPc hKc hDc hZ hS hFc (va_recv hKc hPc (ci := 2) (q0 := 0) rfl rfl)) rfl rfl hl.1 rfl (lv_room (Nat.le_of_ble_eq_true rfl)) dX0_run_69 ⟨(Nat.le_of_ble_eq_true rfl), (Nat.le_of_ble_eq_true rfl)⟩) hS (fun q _ h => hFc q h) hFc (fun r_hw_8 u t H1 locs ht hvm hw_8 hB hz1 hk1 hS => ?_)
      obtain ⟨hP1, hK1, hD1⟩ := hB
      rw [ht] at hP1
      have hK1 := va_K.moved hvm.symm hK1
      obtain ⟨hP, hD⟩ := va_join (wr := [(h0, .inr (0, [.ref a1, .ref a2, .ref a3])), (a1, zar d1 64 kb), (ak, zar dk 64 (sh_cp kb sh_z 64)), (kp, .inr (3, [.ref kq])), (kq, zar dq 64 (sh_cp (sh_cp kb sh_z 64) sh_z 64))]) (w1 := [(en, .inr (2, [.int (1 : Int32), .ref aw])), (aw, zar dw 64 (sh_sch (sh_asm (sh_cp (sh_cp kb sh_z 64) sh_z 64)))), (a2, zar d2 32 bb), (a3, zar d3 32 (sh_cp (sh_dis (sh_f8 (sh_enc sh_K (sh_sch (sh_asm (sh_cp (sh_cp kb sh_z 64) sh_z 64))) (sh_x8 (sh_asm bb)) 64))) ob 32))]) hP hD [5, 8, 2, 3] [0, 1, 4, 6, 7] rfl rfl (by decide) (by decide) hk1 hFc hP1 hD1
      generalize H1 = H at hP hS ⊢
      have hP := hP.sub (ws' := [(h0, .inr (0, [.ref a1, .ref a2, .ref a3])), (a1, zar d1 64 kb), (a2, zar d2 32 bb), (a3, zar d3 32 (sh_cp (sh_dis (sh_f8 (sh_enc sh_K (sh_sch (sh_asm (sh_cp (sh_cp kb sh_z 64) sh_z 64))) (sh_x8 (sh_asm bb)) 64))) ob 32)), (ak, zar dk 64 (sh_cp kb sh_z 64)), (en, .inr (2, [.int (1 : Int32), .ref aw])), (kp, .inr (3, [.ref kq])), (kq, zar dq 64 (sh_cp (sh_cp kb sh_z 64) sh_z 64)), (aw, zar dw 64 (sh_sch (sh_asm (sh_cp (sh_cp kb sh_z 64) sh_z 64))))]) [0, 1, 7, 8, 2, 5, 3, 4, 6] rfl
      have hD := hD.sub (ws' := [(h0, .inr (0, [.ref a1, .ref a2, .ref a3])), (a1, zar d1 64 kb), (a2, zar d2 32 bb), (a3, zar d3 32 (sh_cp (sh_dis (sh_f8 (sh_enc sh_K (sh_sch (sh_asm (sh_cp (sh_cp kb sh_z 64) sh_z 64))) (sh_x8 (sh_asm bb)) 64))) ob 32)), (ak, zar dk 64 (sh_cp kb sh_z 64)), (en, .inr (2, [.int (1 : Int32), .ref aw])), (kp, .inr (3, [.ref kq])), (kq, zar dq 64 (sh_cp (sh_cp kb sh_z 64) sh_z 64)), (aw, zar dw 64 (sh_sch (sh_asm (sh_cp (sh_cp kb sh_z 64) sh_z 64))))]) [0, 1, 7, 8, 2, 5, 3, 4, 6] (by decide) rfl
      refine W.widen (k := 6) (n := 203) (Nat.le_of_ble_eq_true rfl) (Nat.le_of_ble_eq_true rfl) ?_
      refine lv_pop hx hb dX0_run_74 rfl ?_
      rw [z_KF] at hP hD
      have hP9 := hP.sub (ws' := [(h0, .inr (0, [.ref a1, .ref a2, .ref a3])), (a1, zar d1 64 kb), (a2, zar d2 32 bb), (a3, zar d3 32 (sh_cp (sh_dis (sh_f8 (sh_enc sh_K (sh_sch (sh_asm kb)) (sh_x8 (sh_asm bb)) 64))) ob 32))]) [0, 1, 2, 3] rfl
      have hD9 := hD.sub (ws' := [(h0, .inr (0, [.ref a1, .ref a2, .ref a3])), (a1, zar d1 64 kb), (a2, zar d2 32 bb), (a3, zar d3 32 (sh_cp (sh_dis (sh_f8 (sh_enc sh_K (sh_sch (sh_asm kb)) (sh_x8 (sh_asm bb)) 64))) ob 32))]) [0, 1, 2, 3] (by decide) rfl
      have hK9 := hK.sub (tys' := [(d1, .byte), (d2, .byte), (d3, .byte)]) [0, 1, 2] rfl
      refine W.widen (k := 6) (n := 203) (Nat.le_of_ble_eq_true rfl) (Nat.le_of_ble_eq_true rfl) ?_
      exact W.vret hx hb hr (fun t ht hW => ⟨⟨(), rfl, trivial, by rw [ht]; exact hP9, va_K.moved hW.alike hK9, hD9⟩, hS.F ht⟩) hS.2.2 dX0_run_75
    | succ n ih =>
      intro i hi H locs ls hK hP hD hS hl
      refine lv_iload hx hb dX0_run_8 (lv_at hl 4 rfl) ?_
      refine lv_aload_n hx hb dX0_run_10 rfl (lv_at hl 3 rfl) ?_
      refine va_alen (v := (64 : Int32)) hx hb hK hP 4 3 rfl rfl rfl dX0_run_11 ?_
      refine z_ge_f (tgt := 32) hx hb dX0_run_12 (by decide) (nI_ge (a := i) (b := 64) (by omega) (by omega)) ?_
      refine lv_aload_n hx hb dX0_run_15 rfl (lv_at hl 3 rfl) ?_
      refine lv_iload hx hb dX0_run_16 (lv_at hl 4 rfl) ?_
      refine lv_aload_n hx hb dX0_run_18 rfl (lv_at hl 0 rfl) ?_
      refine va_get (D := D) (ci := 0) (v := .ref a1) (C := RX0) (T := TX0) (N := 3) hx hb hts in_X0 hown hK hP 0 rfl rfl 0 (by decide) (hts _ q31) (fun _ h9 => h9) rfl dX0_run_19 ?_
      refine lv_iload hx hb dX0_run_22 (lv_at hl 4 rfl) ?_
      refine z_bld hx hb hK hP 1 0 rfl rfl (v := (kb i)) i rfl (by omega) (by decide) (rfl) dX0_run_24 ?_
      refine z_bst (f' := (sh_cp kb sh_z (i + 1))) hx hb hK hP hD hS 4 3 rfl rfl i rfl (by omega) (by decide) ((hN i (by omega)).1) (sh_cp_s _ _ _ rfl) dX0_run_25 (fun H locs hP hD hS => ?_)
      have hP : va_P D zcl [(h0, .inr (0, [.ref a1, .ref a2, .ref a3])), (a1, zar d1 64 kb), (a2, zar d2 32 bb), (a3, zar d3 32 ob), (ak, zar dk 64 (sh_cp kb sh_z (i + 1)))] H := hP
      have hD : va_D A [(h0, .inr (0, [.ref a1, .ref a2, .ref a3])), (a1, zar d1 64 kb), (a2, zar d2 32 bb), (a3, zar d3 32 ob), (ak, zar dk 64 (sh_cp kb sh_z (i + 1)))] := hD
      refine lv_iinc (v := (nI (i + 1))) (lv' := [(4, .int (nI (i + 1))), (0, .ref h0), (1, .int (1 : Int32)), (2, .int p0), (3, .ref ak)]) hx hb dX0_run_26 hl (k := 4) rfl (z_inc i) (by decide) rfl (fun ls hl => ?_)
      refine lv_goto (tgt := 8) hx hb dX0_run_29 (by decide) ?_
      exact ih (i + 1) (by omega) _ _ ls hK (hP.sub [0, 1, 2, 3, 4] rfl) (hD.sub [0, 1, 2, 3, 4] (by decide) rfl) hS (lv_sub hl [1, 2, 3, 4, 0] rfl)
  rw [← sh_cp_0 kb sh_z] at hP hD
  exact loop 64 0 (by omega) _ _ ls hK (hP.sub [0, 1, 2, 3, 4] rfl) (hD.sub [0, 1, 2, 3, 4] (by decide) rfl) hS (lv_sub hl [2, 3, 4, 1, 0] rfl)

set_option maxHeartbeats 4000000 in
set_option maxRecDepth 100000 in
theorem zX0_run_0 (l : Launch) (D : va_G) (tk tc : Nat) (sz : Nat) (h0 a1 a2 a3 : Nat) (d1 d2 d3 : ClassId) (kb bb ob : Nat → Int32) (p0 : Int32) (hN : sh_N 64 kb) : Met l yX0_run (ws_ yX0_run cX0_run 5 none) ({ frames := 4, cells := 6, slots := 203, locals := 90 }) (va_Pc [.ref h0, .int (0 : Int32), .int p0] (zV tk tc D [(h0, .inr (0, [.ref a1, .ref a2, .ref a3])), (a1, zar d1 64 kb), (a2, zar d2 32 bb), (a3, zar d3 32 ob)] [(d1, .byte), (d2, .byte), (d3, .byte)] sz)) (va_Qv (fun _ : Unit => True) (fun _ t => zB D [(h0, .inr (0, [.ref a1, .ref a2, .ref a3])), (a1, zar d1 64 kb), (a2, zar d2 32 bb), (a3, zar d3 32 (sh_cp (sh_dis (sh_f8 (sh_dec sh_K (sh_sch (sh_asm kb)) 64 (sh_x8 (sh_asm bb))))) ob 32))] [(d1, .byte), (d2, .byte), (d3, .byte)] (va_A [(h0, .inr (0, [.ref a1, .ref a2, .ref a3])), (a1, zar d1 64 kb), (a2, zar d2 32 bb), (a3, zar d3 32 ob)] sz) t) (va_A [(h0, .inr (0, [.ref a1, .ref a2, .ref a3])), (a1, zar d1 64 kb), (a2, zar d2 32 bb), (a3, zar d3 32 ob)] sz)) 6 203 (va_A [(h0, .inr (0, [.ref a1, .ref a2, .ref a3])), (a1, zar d1 64 kb), (a2, zar d2 32 bb), (a3, zar d3 32 ob)] sz) := by
  refine Met.ofW (cc := cX0_run) (maxL := 5) (ret := none) (by decide) rfl ?_
  intro p e s m args below meth c s₁ B hml hv
  obtain ⟨rfl, ⟨hsz, hP, hK, hD0⟩, hZ⟩ := hv
  have hx := B.exec
  have hb := B.bytes
  have hr := B.returns
  have hts := atoms_spec (ws := (ws_ yX0_run cX0_run 5 none)) B.pre
  have hts : ∀ w ∈ lw_all, w.before _ s = true := fun w h => hts w (List.mem_cons_of_mem _ h)
  have hown : s.vm.findClass RX0 = some m.cls := findClass_of_methodNamed B.named
  have hlocks := B.notSynchronized
  subst hsz
  have hD := hD0.self (sz := s.heap.size)
  generalize hAe : va_A [(h0, .inr (0, [.ref a1, .ref a2, .ref a3])), (a1, zar d1 64 kb), (a2, zar d2 32 bb), (a3, zar d3 32 ob)] s.heap.size = A at hD hZ ⊢
  have hA : ∀ q : Nat, s.heap.size ≤ q → A q := fun q h => by rw [← hAe]; exact Or.inr h
  have hS : va_S A s.heap s.heap [] := va_S.rf
  have hl := lv_entry ([.ref h0, .int (0 : Int32), .int p0]) (n := 5) (Nat.le_of_ble_eq_true rfl)
  rw [lg_entry_eq]
  generalize (lg_sl ([.ref h0, .int (0 : Int32), .int p0]) ++ List.replicate (5 - (lg_sl ([.ref h0, .int (0 : Int32), .int p0])).length) Slot.unset).toArray = ls at hl ⊢
  have hl : lv_has ls 5 [(0, .ref h0), (1, .int (0 : Int32)), (2, .int p0)] := hl
  have hP : va_P D zcl [(h0, .inr (0, [.ref a1, .ref a2, .ref a3])), (a1, zar d1 64 kb), (a2, zar d2 32 bb), (a3, zar d3 32 ob)] s.heap := hP
  refine lv_bipush (v := (64 : Int32)) hx hb dX0_run_0 (by decide) ?_
  refine va_newa (atype := .byte) (ty := .byte) (N' := 64) (a0 := (64, .inl sh_z)) hx hb (hts _ q41) rfl hK hP hD hS hA (fun _ => rfl) (by decide) (by decide) (by decide) (Nat.le_of_ble_eq_true rfl) (Nat.le_of_ble_eq_true rfl) dX0_run_2 (fun ak dk H hK hP hD hS => ?_)
  have hK : va_K D zcl [(d1, .byte), (d2, .byte), (d3, .byte), (dk, .byte)] s := hK
  have hP : va_P D zcl [(h0, .inr (0, [.ref a1, .ref a2, .ref a3])), (a1, zar d1 64 kb), (a2, zar d2 32 bb), (a3, zar d3 32 ob), (ak, zar dk 64 sh_z)] H := hP
  have hD : va_D A [(h0, .inr (0, [.ref a1, .ref a2, .ref a3])), (a1, zar d1 64 kb), (a2, zar d2 32 bb), (a3, zar d3 32 ob), (ak, zar dk 64 sh_z)] := hD
  refine W.widen (k := 1) (n := 64) (Nat.le_of_ble_eq_true rfl) (Nat.le_of_ble_eq_true rfl) ?_
  refine lv_astore_n (lv' := [(3, .ref ak), (0, .ref h0), (1, .int (0 : Int32)), (2, .int p0)]) hx hb dX0_run_4 rfl hl (by decide) rfl (fun ls hl => ?_)
  refine lv_iconst (v := (nI 0)) hx hb dX0_run_5 (by decide) ?_
  refine lv_istore (lv' := [(4, .int (nI 0)), (3, .ref ak), (0, .ref h0), (1, .int (0 : Int32)), (2, .int p0)]) hx hb dX0_run_6 hl (by decide) rfl (fun ls hl => ?_)
  have loop : ∀ (n i : Nat), i + n = 64 → ∀ (H : Heap) (locs : List Loc) (ls : Array Slot), va_K D zcl [(d1, .byte), (d2, .byte), (d3, .byte), (dk, .byte)] s → va_P D zcl [(h0, .inr (0, [.ref a1, .ref a2, .ref a3])), (a1, zar d1 64 kb), (a2, zar d2 32 bb), (a3, zar d3 32 ob), (ak, zar dk 64 (sh_cp kb sh_z i))] H → va_D A [(h0, .inr (0, [.ref a1, .ref a2, .ref a3])), (a1, zar d1 64 kb), (a2, zar d2 32 bb), (a3, zar d3 32 ob), (ak, zar dk 64 (sh_cp kb sh_z i))] → va_S A s.heap H locs → lv_has ls 5 [(0, .ref h0), (1, .int (0 : Int32)), (2, .int p0), (3, .ref ak), (4, .int (nI i))] → W p l e (headSpec (ws_ yX0_run cX0_run 5 none) ({ frames := 4, cells := 6, slots := 203, locals := 90 })).room s m ([.ref h0, .int (0 : Int32), .int p0] : List Value).toArray below meth c H locs 1 64 (MQ below (va_Qv (fun _ : Unit => True) (fun _ t => zB D [(h0, .inr (0, [.ref a1, .ref a2, .ref a3])), (a1, zar d1 64 kb), (a2, zar d2 32 bb), (a3, zar d3 32 (sh_cp (sh_dis (sh_f8 (sh_dec sh_K (sh_sch (sh_asm kb)) 64 (sh_x8 (sh_asm bb))))) ob 32))] [(d1, .byte), (d2, .byte), (d3, .byte)] A t) A) ([.ref h0, .int (0 : Int32), .int p0] : List Value).toArray s 6 203 A) (F0 m 8 ls []) := by
    intro n
    induction n with
    | zero =>
      intro i hi H locs ls hK hP hD hS hl
      obtain rfl : i = 64 := by omega
      refine lv_iload hx hb dX0_run_8 (lv_at hl 4 rfl) ?_
      refine lv_aload_n hx hb dX0_run_10 rfl (lv_at hl 3 rfl) ?_
      refine va_alen (v := (64 : Int32)) hx hb hK hP 4 3 rfl rfl rfl dX0_run_11 ?_
      refine z_ge_t (tgt := 32) hx hb dX0_run_12 (by decide) (nI_le (a := 64) (b := 64) (by omega) (by omega)) ?_
      refine va_new (ci := 2) (fs := [.int 0, .null]) (C := RX2) (T := TX2) (N := 2) hx hb hts in_X2 tyX2 tyX2_ok hown (hts _ q61) (hts _ q62) (hts _ q12) hK hP hD hS hA rfl (fun j hj => by rcases (show j = 0 ∨ j = 1 by omega) with rfl | rfl <;> rfl) (Nat.le_of_ble_eq_true rfl) (Nat.le_of_ble_eq_true rfl) dX0_run_32 (fun en H hP hD hS => ?_)
      have hP : va_P D zcl [(h0, .inr (0, [.ref a1, .ref a2, .ref a3])), (a1, zar d1 64 kb), (a2, zar d2 32 bb), (a3, zar d3 32 ob), (ak, zar dk 64 (sh_cp kb sh_z 64)), (en, .inr (2, [.int 0, .null]))] H := hP
      have hD : va_D A [(h0, .inr (0, [.ref a1, .ref a2, .ref a3])), (a1, zar d1 64 kb), (a2, zar d2 32 bb), (a3, zar d3 32 ob), (ak, zar dk 64 (sh_cp kb sh_z 64)), (en, .inr (2, [.int 0, .null]))] := hD
      refine W.widen (k := 2) (n := 66) (Nat.le_of_ble_eq_true rfl) (Nat.le_of_ble_eq_true rfl) ?_
      refine lv_dup hx hb dX0_run_35 rfl ?_
      have hPc := hP.sub (ws' := [(en, .inr (2, [.int 0, .null]))]) [5] rfl
      have hDc := hD.sub (ws' := [(en, .inr (2, [.int 0, .null]))]) [5] (by decide) rfl
      have hKc := hK.sub (tys' := []) [] rfl
      have hFc := va_free (wc := [(en, .inr (2, [.int 0, .null]))]) hD hS hA [5] rfl
      refine va_callv (va_runI (As := []) (rest := [.ref en]) ⟨hx, hb, hml, hown, hts⟩ (zX2_init l D _ en) (cwI 0 hts (lw_meth q65) rfl rfl rfl (hts _ q12) (hts _ q63) (hts _ q64) rfl (by decide +kernel) ⟨(Nat.le_of_ble_eq_true rfl), (Nat.le_of_ble_eq_true rfl)⟩) (z_preS [.ref en] hPc hKc hDc) rfl rfl hl.1 rfl (lv_room (Nat.le_of_ble_eq_true rfl)) dX0_run_36 ⟨(Nat.le_of_ble_eq_true rfl), (Nat.le_of_ble_eq_true rfl)⟩) hS (fun q _ h => hFc q h) hFc (fun u t H1 locs ht hvm hw_4 hB hz1 hk1 hS => ?_)
      obtain ⟨hP1, hK1, hD1⟩ := hB
      rw [ht] at hP1
      have hK1 := va_K.moved hvm.symm hK1
      obtain ⟨hP, hD⟩ := va_join (wr := [(h0, .inr (0, [.ref a1, .ref a2, .ref a3])), (a1, zar d1 64 kb), (a2, zar d2 32 bb), (a3, zar d3 32 ob), (ak, zar dk 64 (sh_cp kb sh_z 64))]) (w1 := [(en, .inr (2, [.int (0 : Int32), .null]))]) hP hD [5] [0, 1, 2, 3, 4] rfl rfl (by decide) (by decide) hk1 hFc hP1 hD1
      generalize H1 = H at hP hS ⊢
      have hP := hP.sub (ws' := [(h0, .inr (0, [.ref a1, .ref a2, .ref a3])), (a1, zar d1 64 kb), (a2, zar d2 32 bb), (a3, zar d3 32 ob), (ak, zar dk 64 (sh_cp kb sh_z 64)), (en, .inr (2, [.int (0 : Int32), .null]))]) [0, 1, 2, 3, 4, 5] rfl
      have hD := hD.sub (ws' := [(h0, .inr (0, [.ref a1, .ref a2, .ref a3])), (a1, zar d1 64 kb), (a2, zar d2 32 bb), (a3, zar d3 32 ob), (ak, zar dk 64 (sh_cp kb sh_z 64)), (en, .inr (2, [.int (0 : Int32), .null]))]) [0, 1, 2, 3, 4, 5] (by decide) rfl
      refine lv_astore (lv' := [(4, .ref en), (0, .ref h0), (1, .int (0 : Int32)), (2, .int p0), (3, .ref ak)]) hx hb dX0_run_39 hl (by decide) rfl (fun ls hl => ?_)
      refine lv_aload hx hb dX0_run_41 (lv_at hl 0 rfl) ?_
      refine lv_iload_n hx hb dX0_run_43 rfl (lv_at hl 2 rfl) ?_
      refine va_new (ci := 3) (fs := [.null]) (C := RX3) (T := TX3) (N := 1) hx hb hts in_X3 tyX3 tyX3_ok hown (hts _ q74) (hts _ q75) (hts _ q13) hK hP hD hS hA rfl (fun j hj => by rcases (show j = 0 by omega) with rfl <;> rfl) (Nat.le_of_ble_eq_true rfl) (Nat.le_of_ble_eq_true rfl) dX0_run_44 (fun kp H hP hD hS => ?_)
      have hP : va_P D zcl [(h0, .inr (0, [.ref a1, .ref a2, .ref a3])), (a1, zar d1 64 kb), (a2, zar d2 32 bb), (a3, zar d3 32 ob), (ak, zar dk 64 (sh_cp kb sh_z 64)), (en, .inr (2, [.int (0 : Int32), .null])), (kp, .inr (3, [.null]))] H := hP
      have hD : va_D A [(h0, .inr (0, [.ref a1, .ref a2, .ref a3])), (a1, zar d1 64 kb), (a2, zar d2 32 bb), (a3, zar d3 32 ob), (ak, zar dk 64 (sh_cp kb sh_z 64)), (en, .inr (2, [.int (0 : Int32), .null])), (kp, .inr (3, [.null]))] := hD
      refine W.widen (k := 3) (n := 67) (Nat.le_of_ble_eq_true rfl) (Nat.le_of_ble_eq_true rfl) ?_
      refine lv_dup hx hb dX0_run_47 rfl ?_
      refine lv_aload_n hx hb dX0_run_48 rfl (lv_at hl 4 rfl) ?_
      have hPc := hP.sub (ws' := [(kp, .inr (3, [.null])), (ak, zar dk 64 (sh_cp kb sh_z 64))]) [6, 4] rfl
      have hDc := hD.sub (ws' := [(kp, .inr (3, [.null])), (ak, zar dk 64 (sh_cp kb sh_z 64))]) [6, 4] (by decide) rfl
      have hKc := hK.sub (tys' := [(dk, .byte)]) [3] rfl
      have hFc := va_free (wc := [(kp, .inr (3, [.null])), (ak, zar dk 64 (sh_cp kb sh_z 64))]) hD hS hA [6, 4] rfl
      refine va_callv (va_runI (As := [.ref ak]) (rest := [.ref kp, .int (0 : Int32), .ref en]) ⟨hx, hb, hml, hown, hts⟩ (zX3_init l D _ kp ak dk (sh_cp kb sh_z 64) (sh_N_cp hN)) (cwI 1 hts (lw_meth q78) rfl rfl rfl (hts _ q13) (hts _ q76) (hts _ q77) rfl (by decide +kernel) ⟨(Nat.le_of_ble_eq_true rfl), (Nat.le_of_ble_eq_true rfl)⟩) (z_preS [.ref kp, .ref ak] hPc hKc hDc) rfl rfl hl.1 rfl (lv_room (Nat.le_of_ble_eq_true rfl)) dX0_run_49 ⟨(Nat.le_of_ble_eq_true rfl), (Nat.le_of_ble_eq_true rfl)⟩) hS (fun q _ h => hFc q h) hFc (fun u t H1 locs ht hvm hw_6 hB hz1 hk1 hS => ?_)
      obtain ⟨kq, dq, hP1, hK1, hD1⟩ := hB
      rw [ht] at hP1
      have hK1 := va_K.moved hvm.symm hK1
      obtain ⟨hP, hD⟩ := va_join (wr := [(h0, .inr (0, [.ref a1, .ref a2, .ref a3])), (a1, zar d1 64 kb), (a2, zar d2 32 bb), (a3, zar d3 32 ob), (en, .inr (2, [.int (0 : Int32), .null]))]) (w1 := [(kp, .inr (3, [.ref kq])), (ak, zar dk 64 (sh_cp kb sh_z 64)), (kq, zar dq 64 (sh_cp (sh_cp kb sh_z 64) sh_z 64))]) hP hD [6, 4] [0, 1, 2, 3, 5] rfl rfl (by decide) (by decide) hk1 hFc hP1 hD1
      have hK := hK.app hK1
      have hK : va_K D zcl [(d1, .byte), (d2, .byte), (d3, .byte), (dk, .byte), (dk, .byte), (dq, .byte)] s := hK
      generalize H1 = H at hP hS ⊢
      have hP := hP.sub (ws' := [(h0, .inr (0, [.ref a1, .ref a2, .ref a3])), (a1, zar d1 64 kb), (a2, zar d2 32 bb), (a3, zar d3 32 ob), (ak, zar dk 64 (sh_cp kb sh_z 64)), (en, .inr (2, [.int (0 : Int32), .null])), (kp, .inr (3, [.ref kq])), (kq, zar dq 64 (sh_cp (sh_cp kb sh_z 64) sh_z 64))]) [0, 1, 2, 3, 6, 4, 5, 7] rfl
      have hD := hD.sub (ws' := [(h0, .inr (0, [.ref a1, .ref a2, .ref a3])), (a1, zar d1 64 kb), (a2, zar d2 32 bb), (a3, zar d3 32 ob), (ak, zar dk 64 (sh_cp kb sh_z 64)), (en, .inr (2, [.int (0 : Int32), .null])), (kp, .inr (3, [.ref kq])), (kq, zar dq 64 (sh_cp (sh_cp kb sh_z 64) sh_z 64))]) [0, 1, 2, 3, 6, 4, 5, 7] (by decide) rfl
      refine W.widen (k := 4) (n := 131) (Nat.le_of_ble_eq_true rfl) (Nat.le_of_ble_eq_true rfl) ?_
      have hPc := hP.sub (ws' := [(en, .inr (2, [.int (0 : Int32), .null])), (kp, .inr (3, [.ref kq])), (kq, zar dq 64 (sh_cp (sh_cp kb sh_z 64) sh_z 64))]) [5, 6, 7] rfl
      have hDc := hD.sub (ws' := [(en, .inr (2, [.int (0 : Int32), .null])), (kp, .inr (3, [.ref kq])), (kq, zar dq 64 (sh_cp (sh_cp kb sh_z 64) sh_z 64))]) [5, 6, 7] (by decide) rfl
      have hKc := hK.sub (tys' := [(dq, .byte)]) [5] rfl
      have hFc := va_free (wc := [(en, .inr (2, [.int (0 : Int32), .null])), (kp, .inr (3, [.ref kq])), (kq, zar dq 64 (sh_cp (sh_cp kb sh_z 64) sh_z 64))]) hD hS hA [5, 6, 7] rfl
      refine va_callFv (va_runF ((hK.1 2 _ rfl).2) (As := [.int (0 : Int32), .ref kp]) (rest := []) ⟨hx, hb, hml, hown, hts⟩ (zX2_init_2 l D _ en kp kq dq (sh_cp (sh_cp kb sh_z 64) sh_z 64) (0 : Int32) (by decide)) (va_cwF 2 hts (z_lwF q94 q98 q100 q12 q102) rfl rfl rfl hZ.2.2.1 (by decide +kernel) ⟨(Nat.le_of_ble_eq_true rfl), (Nat.le_of_ble_eq_true rfl)⟩) (z_preV [.int (0 : Int32), .ref kp] hPc hKc hDc (va_recv hKc hPc (ci := 2) (q0 := 0) rfl rfl)) rfl rfl hl.1 rfl (lv_room (Nat.le_of_ble_eq_true rfl)) dX0_run_52 ⟨(Nat.le_of_ble_eq_true rfl), (Nat.le_of_ble_eq_true rfl)⟩) hS (fun q _ h => hFc q h) hFc (fun u t H1 locs ht hvm hw_7 hB hz1 hk1 hS => ?_)
      obtain ⟨aw, dw, hP1, hK1, hD1⟩ := hB
      rw [ht] at hP1
      have hK1 := va_K.moved hvm.symm hK1
      obtain ⟨hP, hD⟩ := va_join (wr := [(h0, .inr (0, [.ref a1, .ref a2, .ref a3])), (a1, zar d1 64 kb), (a2, zar d2 32 bb), (a3, zar d3 32 ob), (ak, zar dk 64 (sh_cp kb sh_z 64))]) (w1 := [(en, .inr (2, [.int (0 : Int32), .ref aw])), (kp, .inr (3, [.ref kq])), (kq, zar dq 64 (sh_cp (sh_cp kb sh_z 64) sh_z 64)), (aw, zar dw 64 (sh_sch (sh_asm (sh_cp (sh_cp kb sh_z 64) sh_z 64))))]) hP hD [5, 6, 7] [0, 1, 2, 3, 4] rfl rfl (by decide) (by decide) hk1 hFc hP1 hD1
      have hK := hK.app hK1
      have hK : va_K D zcl [(d1, .byte), (d2, .byte), (d3, .byte), (dk, .byte), (dk, .byte), (dq, .byte), (dq, .byte), (dw, .int)] s := hK
      generalize H1 = H at hP hS ⊢
      have hP := hP.sub (ws' := [(h0, .inr (0, [.ref a1, .ref a2, .ref a3])), (a1, zar d1 64 kb), (a2, zar d2 32 bb), (a3, zar d3 32 ob), (ak, zar dk 64 (sh_cp kb sh_z 64)), (en, .inr (2, [.int (0 : Int32), .ref aw])), (kp, .inr (3, [.ref kq])), (kq, zar dq 64 (sh_cp (sh_cp kb sh_z 64) sh_z 64)), (aw, zar dw 64 (sh_sch (sh_asm (sh_cp (sh_cp kb sh_z 64) sh_z 64))))]) [0, 1, 2, 3, 4, 5, 6, 7, 8] rfl
      have hD := hD.sub (ws' := [(h0, .inr (0, [.ref a1, .ref a2, .ref a3])), (a1, zar d1 64 kb), (a2, zar d2 32 bb), (a3, zar d3 32 ob), (ak, zar dk 64 (sh_cp kb sh_z 64)), (en, .inr (2, [.int (0 : Int32), .ref aw])), (kp, .inr (3, [.ref kq])), (kq, zar dq 64 (sh_cp (sh_cp kb sh_z 64) sh_z 64)), (aw, zar dw 64 (sh_sch (sh_asm (sh_cp (sh_cp kb sh_z 64) sh_z 64))))]) [0, 1, 2, 3, 4, 5, 6, 7, 8] (by decide) rfl
      refine W.widen (k := 5) (n := 195) (Nat.le_of_ble_eq_true rfl) (Nat.le_of_ble_eq_true rfl) ?_
      refine lv_aload hx hb dX0_run_57 (lv_at hl 0 rfl) ?_
      refine lv_aload_n hx hb dX0_run_59 rfl (lv_at hl 1 rfl) ?_
      refine va_get (D := D) (ci := 0) (v := .ref a2) (C := RX0) (T := TX0) (N := 3) hx hb hts in_X0 hown hK hP 0 rfl rfl 1 (by decide) (hts _ q32) (fun _ h9 => h9) rfl dX0_run_60 ?_
      refine lv_iconst (v := (nI (4 * 0))) hx hb dX0_run_63 (by decide) ?_
      refine lv_aload_n hx hb dX0_run_64 rfl (lv_at hl 1 rfl) ?_
      refine va_get (D := D) (ci := 0) (v := .ref a3) (C := RX0) (T := TX0) (N := 3) hx hb hts in_X0 hown hK hP 0 rfl rfl 2 (by decide) (hts _ q33) (fun _ h9 => h9) rfl dX0_run_65 ?_
      refine lv_iconst (v := (nI (4 * 0))) hx hb dX0_run_68 (by decide) ?_
      have hPc := hP.sub (ws' := [(en, .inr (2, [.int (0 : Int32), .ref aw])), (aw, zar dw 64 (sh_sch (sh_asm (sh_cp (sh_cp kb sh_z 64) sh_z 64)))), (a2, zar d2 32 bb), (a3, zar d3 32 ob)]) [5, 8, 2, 3] rfl
      have hDc := hD.sub (ws' := [(en, .inr (2, [.int (0 : Int32), .ref aw])), (aw, zar dw 64 (sh_sch (sh_asm (sh_cp (sh_cp kb sh_z 64) sh_z 64)))), (a2, zar d2 32 bb), (a3, zar d3 32 ob)]) [5, 8, 2, 3] (by decide) rfl
      have hKc := hK.sub (tys' := [(dw, .int), (d2, .byte), (d3, .byte)]) [7, 1, 2] rfl
      have hFc := va_free (wc := [(en, .inr (2, [.int (0 : Int32), .ref aw])), (aw, zar dw 64 (sh_sch (sh_asm (sh_cp (sh_cp kb sh_z 64) sh_z 64)))), (a2, zar d2 32 bb), (a3, zar d3 32 ob)]) hD hS hA [5, 8, 2, 3] rfl
      refine va_callFi (va_runF ((hK.1 2 _ rfl).2) (As := [.ref a2, .int (nI (4 * 0)), .ref a3, .int (nI (4 * 0))]) (rest := []) ⟨hx, hb, hml, hown, hts⟩ (zX2_processBlock_0 l D tk tc _ en aw a2 a3 dw d2 d3 (sh_sch (sh_asm (sh_cp (sh_cp kb sh_z 64) sh_z 64))) bb ob) (va_cwF 4 hts (z_lwF q186 q189 q191 q12 q193) rfl rfl rfl hZ.2.2.2 (by decide +kernel) ⟨(Nat.le_of_ble_eq_true rfl), (Nat.le_of_ble_eq_true rfl)⟩) (z_preVE [.ref a2, .int (nI (4 * 0)), .ref a3, .int (nI (4 * 0))] hPc hKc hDc hZ hS hFc (va_recv hKc hPc (ci := 2) (q0 := 0) rfl rfl)) rfl rfl hl.1 rfl (lv_room (Nat.le_of_ble_eq_true rfl)) dX0_run_69 ⟨(Nat.le_of_ble_eq_true rfl), (Nat.le_of_ble_eq_true rfl)⟩) hS (fun q _ h => hFc q h) hFc (fun r_hw_8 u t H1 locs ht hvm hw_8 hB hz1 hk1 hS => ?_)
      obtain ⟨hP1, hK1, hD1⟩ := hB
      rw [ht] at hP1
      have hK1 := va_K.moved hvm.symm hK1
      obtain ⟨hP, hD⟩ := va_join (wr := [(h0, .inr (0, [.ref a1, .ref a2, .ref a3])), (a1, zar d1 64 kb), (ak, zar dk 64 (sh_cp kb sh_z 64)), (kp, .inr (3, [.ref kq])), (kq, zar dq 64 (sh_cp (sh_cp kb sh_z 64) sh_z 64))]) (w1 := [(en, .inr (2, [.int (0 : Int32), .ref aw])), (aw, zar dw 64 (sh_sch (sh_asm (sh_cp (sh_cp kb sh_z 64) sh_z 64)))), (a2, zar d2 32 bb), (a3, zar d3 32 (sh_cp (sh_dis (sh_f8 (sh_dec sh_K (sh_sch (sh_asm (sh_cp (sh_cp kb sh_z 64) sh_z 64))) 64 (sh_x8 (sh_asm bb))))) ob 32))]) hP hD [5, 8, 2, 3] [0, 1, 4, 6, 7] rfl rfl (by decide) (by decide) hk1 hFc hP1 hD1
      generalize H1 = H at hP hS ⊢
      have hP := hP.sub (ws' := [(h0, .inr (0, [.ref a1, .ref a2, .ref a3])), (a1, zar d1 64 kb), (a2, zar d2 32 bb), (a3, zar d3 32 (sh_cp (sh_dis (sh_f8 (sh_dec sh_K (sh_sch (sh_asm (sh_cp (sh_cp kb sh_z 64) sh_z 64))) 64 (sh_x8 (sh_asm bb))))) ob 32)), (ak, zar dk 64 (sh_cp kb sh_z 64)), (en, .inr (2, [.int (0 : Int32), .ref aw])), (kp, .inr (3, [.ref kq])), (kq, zar dq 64 (sh_cp (sh_cp kb sh_z 64) sh_z 64)), (aw, zar dw 64 (sh_sch (sh_asm (sh_cp (sh_cp kb sh_z 64) sh_z 64))))]) [0, 1, 7, 8, 2, 5, 3, 4, 6] rfl
      have hD := hD.sub (ws' := [(h0, .inr (0, [.ref a1, .ref a2, .ref a3])), (a1, zar d1 64 kb), (a2, zar d2 32 bb), (a3, zar d3 32 (sh_cp (sh_dis (sh_f8 (sh_dec sh_K (sh_sch (sh_asm (sh_cp (sh_cp kb sh_z 64) sh_z 64))) 64 (sh_x8 (sh_asm bb))))) ob 32)), (ak, zar dk 64 (sh_cp kb sh_z 64)), (en, .inr (2, [.int (0 : Int32), .ref aw])), (kp, .inr (3, [.ref kq])), (kq, zar dq 64 (sh_cp (sh_cp kb sh_z 64) sh_z 64)), (aw, zar dw 64 (sh_sch (sh_asm (sh_cp (sh_cp kb sh_z 64) sh_z 64))))]) [0, 1, 7, 8, 2, 5, 3, 4, 6] (by decide) rfl
      refine W.widen (k := 6) (n := 203) (Nat.le_of_ble_eq_true rfl) (Nat.le_of_ble_eq_true rfl) ?_
      refine lv_pop hx hb dX0_run_74 rfl ?_
      rw [z_KF] at hP hD
      have hP9 := hP.sub (ws' := [(h0, .inr (0, [.ref a1, .ref a2, .ref a3])), (a1, zar d1 64 kb), (a2, zar d2 32 bb), (a3, zar d3 32 (sh_cp (sh_dis (sh_f8 (sh_dec sh_K (sh_sch (sh_asm kb)) 64 (sh_x8 (sh_asm bb))))) ob 32))]) [0, 1, 2, 3] rfl
      have hD9 := hD.sub (ws' := [(h0, .inr (0, [.ref a1, .ref a2, .ref a3])), (a1, zar d1 64 kb), (a2, zar d2 32 bb), (a3, zar d3 32 (sh_cp (sh_dis (sh_f8 (sh_dec sh_K (sh_sch (sh_asm kb)) 64 (sh_x8 (sh_asm bb))))) ob 32))]) [0, 1, 2, 3] (by decide) rfl
      have hK9 := hK.sub (tys' := [(d1, .byte), (d2, .byte), (d3, .byte)]) [0, 1, 2] rfl
      refine W.widen (k := 6) (n := 203) (Nat.le_of_ble_eq_true rfl) (Nat.le_of_ble_eq_true rfl) ?_
      exact W.vret hx hb hr (fun t ht hW => ⟨⟨(), rfl, trivial, by rw [ht]; exact hP9, va_K.moved hW.alike hK9, hD9⟩, hS.F ht⟩) hS.2.2 dX0_run_75
    | succ n ih =>
      intro i hi H locs ls hK hP hD hS hl
      refine lv_iload hx hb dX0_run_8 (lv_at hl 4 rfl) ?_
      refine lv_aload_n hx hb dX0_run_10 rfl (lv_at hl 3 rfl) ?_
      refine va_alen (v := (64 : Int32)) hx hb hK hP 4 3 rfl rfl rfl dX0_run_11 ?_
      refine z_ge_f (tgt := 32) hx hb dX0_run_12 (by decide) (nI_ge (a := i) (b := 64) (by omega) (by omega)) ?_
      refine lv_aload_n hx hb dX0_run_15 rfl (lv_at hl 3 rfl) ?_
      refine lv_iload hx hb dX0_run_16 (lv_at hl 4 rfl) ?_
      refine lv_aload_n hx hb dX0_run_18 rfl (lv_at hl 0 rfl) ?_
      refine va_get (D := D) (ci := 0) (v := .ref a1) (C := RX0) (T := TX0) (N := 3) hx hb hts in_X0 hown hK hP 0 rfl rfl 0 (by decide) (hts _ q31) (fun _ h9 => h9) rfl dX0_run_19 ?_
      refine lv_iload hx hb dX0_run_22 (lv_at hl 4 rfl) ?_
      refine z_bld hx hb hK hP 1 0 rfl rfl (v := (kb i)) i rfl (by omega) (by decide) (rfl) dX0_run_24 ?_
      refine z_bst (f' := (sh_cp kb sh_z (i + 1))) hx hb hK hP hD hS 4 3 rfl rfl i rfl (by omega) (by decide) ((hN i (by omega)).1) (sh_cp_s _ _ _ rfl) dX0_run_25 (fun H locs hP hD hS => ?_)
      have hP : va_P D zcl [(h0, .inr (0, [.ref a1, .ref a2, .ref a3])), (a1, zar d1 64 kb), (a2, zar d2 32 bb), (a3, zar d3 32 ob), (ak, zar dk 64 (sh_cp kb sh_z (i + 1)))] H := hP
      have hD : va_D A [(h0, .inr (0, [.ref a1, .ref a2, .ref a3])), (a1, zar d1 64 kb), (a2, zar d2 32 bb), (a3, zar d3 32 ob), (ak, zar dk 64 (sh_cp kb sh_z (i + 1)))] := hD
      refine lv_iinc (v := (nI (i + 1))) (lv' := [(4, .int (nI (i + 1))), (0, .ref h0), (1, .int (0 : Int32)), (2, .int p0), (3, .ref ak)]) hx hb dX0_run_26 hl (k := 4) rfl (z_inc i) (by decide) rfl (fun ls hl => ?_)
      refine lv_goto (tgt := 8) hx hb dX0_run_29 (by decide) ?_
      exact ih (i + 1) (by omega) _ _ ls hK (hP.sub [0, 1, 2, 3, 4] rfl) (hD.sub [0, 1, 2, 3, 4] (by decide) rfl) hS (lv_sub hl [1, 2, 3, 4, 0] rfl)
  rw [← sh_cp_0 kb sh_z] at hP hD
  exact loop 64 0 (by omega) _ _ ls hK (hP.sub [0, 1, 2, 3, 4] rfl) (hD.sub [0, 1, 2, 3, 4] (by decide) rfl) hS (lv_sub hl [2, 3, 4, 1, 0] rfl)

set_option maxHeartbeats 4000000 in
set_option maxRecDepth 100000 in
theorem zX0_lock (l : Launch) (D : va_G) (tk tc : Nat) (sz : Nat) (h0 a1 a2 a3 : Nat) (d1 d2 d3 : ClassId) (kb bb ob : Nat → Int32) (p0 : Int32) (hN : sh_N 64 kb) : Met l yX0_lock (ws_ yX0_lock cX0_lock 2 none) ({ frames := 5, cells := 6, slots := 203, locals := 114 }) (va_Pc [.ref h0, .int p0] (zV tk tc D [(h0, .inr (0, [.ref a1, .ref a2, .ref a3])), (a1, zar d1 64 kb), (a2, zar d2 32 bb), (a3, zar d3 32 ob)] [(d1, .byte), (d2, .byte), (d3, .byte)] sz)) (va_Qv (fun _ : Unit => True) (fun _ t => zB D [(h0, .inr (0, [.ref a1, .ref a2, .ref a3])), (a1, zar d1 64 kb), (a2, zar d2 32 bb), (a3, zar d3 32 (sh_cp (sh_dis (sh_f8 (sh_enc sh_K (sh_sch (sh_asm kb)) (sh_x8 (sh_asm bb)) 64))) ob 32))] [(d1, .byte), (d2, .byte), (d3, .byte)] (va_A [(h0, .inr (0, [.ref a1, .ref a2, .ref a3])), (a1, zar d1 64 kb), (a2, zar d2 32 bb), (a3, zar d3 32 ob)] sz) t) (va_A [(h0, .inr (0, [.ref a1, .ref a2, .ref a3])), (a1, zar d1 64 kb), (a2, zar d2 32 bb), (a3, zar d3 32 ob)] sz)) 6 203 (va_A [(h0, .inr (0, [.ref a1, .ref a2, .ref a3])), (a1, zar d1 64 kb), (a2, zar d2 32 bb), (a3, zar d3 32 ob)] sz) := by
  refine Met.ofW (cc := cX0_lock) (maxL := 2) (ret := none) (by decide) rfl ?_
  intro p e s m args below meth c s₁ B hml hv
  obtain ⟨rfl, ⟨hsz, hP, hK, hD0⟩, hZ⟩ := hv
  have hx := B.exec
  have hb := B.bytes
  have hr := B.returns
  have hts := atoms_spec (ws := (ws_ yX0_lock cX0_lock 2 none)) B.pre
  have hts : ∀ w ∈ lw_all, w.before _ s = true := fun w h => hts w (List.mem_cons_of_mem _ h)
  have hown : s.vm.findClass RX0 = some m.cls := findClass_of_methodNamed B.named
  have hlocks := B.notSynchronized
  subst hsz
  have hD := hD0.self (sz := s.heap.size)
  generalize hAe : va_A [(h0, .inr (0, [.ref a1, .ref a2, .ref a3])), (a1, zar d1 64 kb), (a2, zar d2 32 bb), (a3, zar d3 32 ob)] s.heap.size = A at hD hZ ⊢
  have hA : ∀ q : Nat, s.heap.size ≤ q → A q := fun q h => by rw [← hAe]; exact Or.inr h
  have hS : va_S A s.heap s.heap [] := va_S.rf
  have hl := lv_entry ([.ref h0, .int p0]) (n := 2) (Nat.le_of_ble_eq_true rfl)
  rw [lg_entry_eq]
  generalize (lg_sl ([.ref h0, .int p0]) ++ List.replicate (2 - (lg_sl ([.ref h0, .int p0])).length) Slot.unset).toArray = ls at hl ⊢
  have hl : lv_has ls 2 [(0, .ref h0), (1, .int p0)] := hl
  have hP : va_P D zcl [(h0, .inr (0, [.ref a1, .ref a2, .ref a3])), (a1, zar d1 64 kb), (a2, zar d2 32 bb), (a3, zar d3 32 ob)] s.heap := hP
  refine lv_aload_n hx hb dX0_lock_0 rfl (lv_at hl 0 rfl) ?_
  refine lv_iconst (v := (1 : Int32)) hx hb dX0_lock_1 (by decide) ?_
  refine lv_iload_n hx hb dX0_lock_2 rfl (lv_at hl 1 rfl) ?_
  have hPc := hP.sub (ws' := [(h0, .inr (0, [.ref a1, .ref a2, .ref a3])), (a1, zar d1 64 kb), (a2, zar d2 32 bb), (a3, zar d3 32 ob)]) [0, 1, 2, 3] rfl
  have hDc := hD.sub (ws' := [(h0, .inr (0, [.ref a1, .ref a2, .ref a3])), (a1, zar d1 64 kb), (a2, zar d2 32 bb), (a3, zar d3 32 ob)]) [0, 1, 2, 3] (by decide) rfl
  have hKc := hK.sub (tys' := [(d1, .byte), (d2, .byte), (d3, .byte)]) [0, 1, 2] rfl
  have hFc := va_free (wc := [(h0, .inr (0, [.ref a1, .ref a2, .ref a3])), (a1, zar d1 64 kb), (a2, zar d2 32 bb), (a3, zar d3 32 ob)]) hD hS hA [0, 1, 2, 3] rfl
  refine va_callv (va_runV (As := [.int (1 : Int32), .int p0]) (rest := []) ⟨hx, hb, hml, hown, hts⟩ (zX0_run_1 l D tk tc _ h0 a1 a2 a3 d1 d2 d3 kb bb ob p0 hN) (cwV 2 hts (lw_V q57 q59 qs0 q10 q60) rfl rfl rfl (by decide +kernel) ⟨(Nat.le_of_ble_eq_true rfl), (Nat.le_of_ble_eq_true rfl)⟩) (z_preVE [.int (1 : Int32), .int p0] hPc hKc hDc hZ hS hFc (va_recv hKc hPc (ci := 0) (q0 := 0) rfl rfl)) rfl rfl hl.1 rfl (lv_room (Nat.le_of_ble_eq_true rfl)) dX0_lock_3 ⟨(Nat.le_of_ble_eq_true rfl), (Nat.le_of_ble_eq_true rfl)⟩) hS (fun q _ h => hFc q h) hFc (fun u t H1 locs ht hvm hw_1 hB hz1 hk1 hS => ?_)
  obtain ⟨hP1, hK1, hD1⟩ := hB
  rw [ht] at hP1
  have hK1 := va_K.moved hvm.symm hK1
  obtain ⟨hP, hD⟩ := va_join (wr := []) (w1 := [(h0, .inr (0, [.ref a1, .ref a2, .ref a3])), (a1, zar d1 64 kb), (a2, zar d2 32 bb), (a3, zar d3 32 (sh_cp (sh_dis (sh_f8 (sh_enc sh_K (sh_sch (sh_asm kb)) (sh_x8 (sh_asm bb)) 64))) ob 32))]) hP hD [0, 1, 2, 3] [] rfl rfl (by decide) (by decide) hk1 hFc hP1 hD1
  generalize H1 = H at hP hS ⊢
  have hP := hP.sub (ws' := [(h0, .inr (0, [.ref a1, .ref a2, .ref a3])), (a1, zar d1 64 kb), (a2, zar d2 32 bb), (a3, zar d3 32 (sh_cp (sh_dis (sh_f8 (sh_enc sh_K (sh_sch (sh_asm kb)) (sh_x8 (sh_asm bb)) 64))) ob 32))]) [0, 1, 2, 3] rfl
  have hD := hD.sub (ws' := [(h0, .inr (0, [.ref a1, .ref a2, .ref a3])), (a1, zar d1 64 kb), (a2, zar d2 32 bb), (a3, zar d3 32 (sh_cp (sh_dis (sh_f8 (sh_enc sh_K (sh_sch (sh_asm kb)) (sh_x8 (sh_asm bb)) 64))) ob 32))]) [0, 1, 2, 3] (by decide) rfl
  refine W.widen (k := 6) (n := 203) (Nat.le_of_ble_eq_true rfl) (Nat.le_of_ble_eq_true rfl) ?_
  have hP9 := hP.sub (ws' := [(h0, .inr (0, [.ref a1, .ref a2, .ref a3])), (a1, zar d1 64 kb), (a2, zar d2 32 bb), (a3, zar d3 32 (sh_cp (sh_dis (sh_f8 (sh_enc sh_K (sh_sch (sh_asm kb)) (sh_x8 (sh_asm bb)) 64))) ob 32))]) [0, 1, 2, 3] rfl
  have hD9 := hD.sub (ws' := [(h0, .inr (0, [.ref a1, .ref a2, .ref a3])), (a1, zar d1 64 kb), (a2, zar d2 32 bb), (a3, zar d3 32 (sh_cp (sh_dis (sh_f8 (sh_enc sh_K (sh_sch (sh_asm kb)) (sh_x8 (sh_asm bb)) 64))) ob 32))]) [0, 1, 2, 3] (by decide) rfl
  have hK9 := hK.sub (tys' := [(d1, .byte), (d2, .byte), (d3, .byte)]) [0, 1, 2] rfl
  refine W.widen (k := 6) (n := 203) (Nat.le_of_ble_eq_true rfl) (Nat.le_of_ble_eq_true rfl) ?_
  exact W.vret hx hb hr (fun t ht hW => ⟨⟨(), rfl, trivial, by rw [ht]; exact hP9, va_K.moved hW.alike hK9, hD9⟩, hS.F ht⟩) hS.2.2 dX0_lock_6

set_option maxHeartbeats 4000000 in
set_option maxRecDepth 100000 in
theorem zX0_open (l : Launch) (D : va_G) (tk tc : Nat) (sz : Nat) (h0 a1 a2 a3 : Nat) (d1 d2 d3 : ClassId) (kb bb ob : Nat → Int32) (p0 : Int32) (hN : sh_N 64 kb) : Met l yX0_open (ws_ yX0_open cX0_open 2 none) ({ frames := 5, cells := 6, slots := 203, locals := 114 }) (va_Pc [.ref h0, .int p0] (zV tk tc D [(h0, .inr (0, [.ref a1, .ref a2, .ref a3])), (a1, zar d1 64 kb), (a2, zar d2 32 bb), (a3, zar d3 32 ob)] [(d1, .byte), (d2, .byte), (d3, .byte)] sz)) (va_Qv (fun _ : Unit => True) (fun _ t => zB D [(h0, .inr (0, [.ref a1, .ref a2, .ref a3])), (a1, zar d1 64 kb), (a2, zar d2 32 bb), (a3, zar d3 32 (sh_cp (sh_dis (sh_f8 (sh_dec sh_K (sh_sch (sh_asm kb)) 64 (sh_x8 (sh_asm bb))))) ob 32))] [(d1, .byte), (d2, .byte), (d3, .byte)] (va_A [(h0, .inr (0, [.ref a1, .ref a2, .ref a3])), (a1, zar d1 64 kb), (a2, zar d2 32 bb), (a3, zar d3 32 ob)] sz) t) (va_A [(h0, .inr (0, [.ref a1, .ref a2, .ref a3])), (a1, zar d1 64 kb), (a2, zar d2 32 bb), (a3, zar d3 32 ob)] sz)) 6 203 (va_A [(h0, .inr (0, [.ref a1, .ref a2, .ref a3])), (a1, zar d1 64 kb), (a2, zar d2 32 bb), (a3, zar d3 32 ob)] sz) := by
  refine Met.ofW (cc := cX0_open) (maxL := 2) (ret := none) (by decide) rfl ?_
  intro p e s m args below meth c s₁ B hml hv
  obtain ⟨rfl, ⟨hsz, hP, hK, hD0⟩, hZ⟩ := hv
  have hx := B.exec
  have hb := B.bytes
  have hr := B.returns
  have hts := atoms_spec (ws := (ws_ yX0_open cX0_open 2 none)) B.pre
  have hts : ∀ w ∈ lw_all, w.before _ s = true := fun w h => hts w (List.mem_cons_of_mem _ h)
  have hown : s.vm.findClass RX0 = some m.cls := findClass_of_methodNamed B.named
  have hlocks := B.notSynchronized
  subst hsz
  have hD := hD0.self (sz := s.heap.size)
  generalize hAe : va_A [(h0, .inr (0, [.ref a1, .ref a2, .ref a3])), (a1, zar d1 64 kb), (a2, zar d2 32 bb), (a3, zar d3 32 ob)] s.heap.size = A at hD hZ ⊢
  have hA : ∀ q : Nat, s.heap.size ≤ q → A q := fun q h => by rw [← hAe]; exact Or.inr h
  have hS : va_S A s.heap s.heap [] := va_S.rf
  have hl := lv_entry ([.ref h0, .int p0]) (n := 2) (Nat.le_of_ble_eq_true rfl)
  rw [lg_entry_eq]
  generalize (lg_sl ([.ref h0, .int p0]) ++ List.replicate (2 - (lg_sl ([.ref h0, .int p0])).length) Slot.unset).toArray = ls at hl ⊢
  have hl : lv_has ls 2 [(0, .ref h0), (1, .int p0)] := hl
  have hP : va_P D zcl [(h0, .inr (0, [.ref a1, .ref a2, .ref a3])), (a1, zar d1 64 kb), (a2, zar d2 32 bb), (a3, zar d3 32 ob)] s.heap := hP
  refine lv_aload_n hx hb dX0_open_0 rfl (lv_at hl 0 rfl) ?_
  refine lv_iconst (v := (0 : Int32)) hx hb dX0_open_1 (by decide) ?_
  refine lv_iload_n hx hb dX0_open_2 rfl (lv_at hl 1 rfl) ?_
  have hPc := hP.sub (ws' := [(h0, .inr (0, [.ref a1, .ref a2, .ref a3])), (a1, zar d1 64 kb), (a2, zar d2 32 bb), (a3, zar d3 32 ob)]) [0, 1, 2, 3] rfl
  have hDc := hD.sub (ws' := [(h0, .inr (0, [.ref a1, .ref a2, .ref a3])), (a1, zar d1 64 kb), (a2, zar d2 32 bb), (a3, zar d3 32 ob)]) [0, 1, 2, 3] (by decide) rfl
  have hKc := hK.sub (tys' := [(d1, .byte), (d2, .byte), (d3, .byte)]) [0, 1, 2] rfl
  have hFc := va_free (wc := [(h0, .inr (0, [.ref a1, .ref a2, .ref a3])), (a1, zar d1 64 kb), (a2, zar d2 32 bb), (a3, zar d3 32 ob)]) hD hS hA [0, 1, 2, 3] rfl
  refine va_callv (va_runV (As := [.int (0 : Int32), .int p0]) (rest := []) ⟨hx, hb, hml, hown, hts⟩ (zX0_run_0 l D tk tc _ h0 a1 a2 a3 d1 d2 d3 kb bb ob p0 hN) (cwV 2 hts (lw_V q57 q59 qs0 q10 q60) rfl rfl rfl (by decide +kernel) ⟨(Nat.le_of_ble_eq_true rfl), (Nat.le_of_ble_eq_true rfl)⟩) (z_preVE [.int (0 : Int32), .int p0] hPc hKc hDc hZ hS hFc (va_recv hKc hPc (ci := 0) (q0 := 0) rfl rfl)) rfl rfl hl.1 rfl (lv_room (Nat.le_of_ble_eq_true rfl)) dX0_open_3 ⟨(Nat.le_of_ble_eq_true rfl), (Nat.le_of_ble_eq_true rfl)⟩) hS (fun q _ h => hFc q h) hFc (fun u t H1 locs ht hvm hw_1 hB hz1 hk1 hS => ?_)
  obtain ⟨hP1, hK1, hD1⟩ := hB
  rw [ht] at hP1
  have hK1 := va_K.moved hvm.symm hK1
  obtain ⟨hP, hD⟩ := va_join (wr := []) (w1 := [(h0, .inr (0, [.ref a1, .ref a2, .ref a3])), (a1, zar d1 64 kb), (a2, zar d2 32 bb), (a3, zar d3 32 (sh_cp (sh_dis (sh_f8 (sh_dec sh_K (sh_sch (sh_asm kb)) 64 (sh_x8 (sh_asm bb))))) ob 32))]) hP hD [0, 1, 2, 3] [] rfl rfl (by decide) (by decide) hk1 hFc hP1 hD1
  generalize H1 = H at hP hS ⊢
  have hP := hP.sub (ws' := [(h0, .inr (0, [.ref a1, .ref a2, .ref a3])), (a1, zar d1 64 kb), (a2, zar d2 32 bb), (a3, zar d3 32 (sh_cp (sh_dis (sh_f8 (sh_dec sh_K (sh_sch (sh_asm kb)) 64 (sh_x8 (sh_asm bb))))) ob 32))]) [0, 1, 2, 3] rfl
  have hD := hD.sub (ws' := [(h0, .inr (0, [.ref a1, .ref a2, .ref a3])), (a1, zar d1 64 kb), (a2, zar d2 32 bb), (a3, zar d3 32 (sh_cp (sh_dis (sh_f8 (sh_dec sh_K (sh_sch (sh_asm kb)) 64 (sh_x8 (sh_asm bb))))) ob 32))]) [0, 1, 2, 3] (by decide) rfl
  refine W.widen (k := 6) (n := 203) (Nat.le_of_ble_eq_true rfl) (Nat.le_of_ble_eq_true rfl) ?_
  have hP9 := hP.sub (ws' := [(h0, .inr (0, [.ref a1, .ref a2, .ref a3])), (a1, zar d1 64 kb), (a2, zar d2 32 bb), (a3, zar d3 32 (sh_cp (sh_dis (sh_f8 (sh_dec sh_K (sh_sch (sh_asm kb)) 64 (sh_x8 (sh_asm bb))))) ob 32))]) [0, 1, 2, 3] rfl
  have hD9 := hD.sub (ws' := [(h0, .inr (0, [.ref a1, .ref a2, .ref a3])), (a1, zar d1 64 kb), (a2, zar d2 32 bb), (a3, zar d3 32 (sh_cp (sh_dis (sh_f8 (sh_dec sh_K (sh_sch (sh_asm kb)) 64 (sh_x8 (sh_asm bb))))) ob 32))]) [0, 1, 2, 3] (by decide) rfl
  have hK9 := hK.sub (tys' := [(d1, .byte), (d2, .byte), (d3, .byte)]) [0, 1, 2] rfl
  refine W.widen (k := 6) (n := 203) (Nat.le_of_ble_eq_true rfl) (Nat.le_of_ble_eq_true rfl) ?_
  exact W.vret hx hb hr (fun t ht hW => ⟨⟨(), rfl, trivial, by rw [ht]; exact hP9, va_K.moved hW.alike hK9, hD9⟩, hS.F ht⟩) hS.2.2 dX0_open_6
end
section
/-! THE CLAIM OUT OF ONE WALK OF THE LAW'S BODY. Your part is whole_start (and what it stands on); all else here is the same for every law, but numbers. -/
def R_law : String := "ShacalDeskLaw"
def lw_P (b : Addr) (xs : List Int32) (args : Array Value) (s : State) : Prop := args = #[.ref b] ∧ s.IntsAt b xs ∧ xs.length ≤ 288 ∧ (Jvm.Cond.and given_1 narrow_1).before args s = true
def lw_Q (_ : Array Value) (s : State) (o : Outcome) (t : State) : Prop := o = .returned (some (.int 1)) ∧ Framed s o t [] 600096 7301386
def lw_Z (below : List Frame) (a : Array Value) (s : State) : State → Prop := fun t => ∃ o, t.status = .running ∧ Ended t below o ∧ lw_Q a s o t
/-- the law's own end, with 1 on the stack, nothing written that was there before, its room as the claim has it -/
theorem lw_ret {p : Program} {l : Launch} {e : Env} {s : State} {m : MethodId} {below : List Frame} {meth : Method} {c : Code} {b : Nat} (hx : p.tables.exec = Jvm.exec) (hb : c.code = code) (hr : meth.sig.returnType = ret) (hlocks : meth.locks = false) {pc : Nat} {H : Heap} {ls : Array Slot} (hdg : decode code pc = .ok (.ireturn, 1)) : W p l e room_1 s m #[Value.ref b] below meth c H [] 600096 7301386 (lw_Z below #[Value.ref b] s) (F0 m pc ls [.int 1]) := by
  intro T hT X
  obtain ⟨fs, hret, hrun, hended, hW, hframe⟩ := X.leave (v := some (.int 1)) (hlocks := hlocks) (fun h => by rw [hr] at h; cases h)
  have hmeth' : T.vm.method? m = some meth := X.method'
  refine ⟨T.setFrames fs, ?_, .returned (some (.int 1)), hrun, hended, rfl, ⟨_, rfl⟩, hW, hframe⟩
  jvm_step X.here [X.here.top, hx, hb, hdg, hmeth', hr, ret, narrow_b1]
  (try refine ⟨rfl, ?_⟩); (try refine ⟨rfl, ?_⟩)
  first | (intro acts; rw [hret _ acts rfl rfl rfl]) | rw [hret _ _ rfl rfl rfl]
  exact Steps.refl _
/-- what holds at the law's entry: the machine, the code, the tables' words (any of lw_tbl by 'hts w (by decide +kernel)'), the script of L ints xs at the cell b, what the Statement gives of the start (any of its parts by flat_of_before) -/
def lw_At (p : Program) (s : State) (m : MethodId) (meth : Method) (c : Code) (b L : Nat) (xs : Nat → Int32) : Prop :=
  p.tables.exec = Jvm.exec ∧ c.code = code ∧ meth.sig.returnType = ret ∧ c.maxLocals = 4 ∧ s.vm.findClass R_law = some m.cls ∧ (∀ w ∈ lw_tbl, w.before #[Value.ref b] s = true) ∧ va_X b L xs s s.heap ∧ b < s.heap.size ∧ meth.locks = false ∧ (Jvm.Cond.and given_1 narrow_1).before #[Value.ref b] s = true

/-- what the Statement gives of the start, a list -/
abbrev zFl : List Cond := flatC (Jvm.Cond.and given_1 narrow_1)
def zEl (C n : String) (j : Nat) : Cond := Cond.eq (.elem (.static C n "[I") (.int (Int32.ofNat j))) (.int (sh_K j))
theorem zTabK : (List.range 64).map (zEl RX2 "K") = (zFl.drop 11).take 64 := by decide +kernel
theorem zTabC : (List.range 64).map (zEl RX1 "CONSTANTS") = (zFl.drop 79).take 64 := by decide +kernel
theorem zTab {C n : String} {d : Nat} (h : (List.range 64).map (zEl C n) = (zFl.drop d).take 64) : ∀ j, j < 64 → zEl C n j ∈ zFl := by
  intro j hj
  have h1 : zEl C n j ∈ (List.range 64).map (zEl C n) := List.mem_map.mpr ⟨j, List.mem_range.mpr hj, rfl⟩
  rw [h] at h1
  exact List.mem_of_mem_drop (List.mem_of_mem_take h1)
theorem zZ_start {args : Array Value} {s : State} {C n : String} {A : Nat → Prop} (hg : ∀ w ∈ zFl, w.before args s = true) (harr : Cond.arrayOf (.static C n "[I") .int ∈ zFl) (hlen : Cond.eq (.length (.static C n "[I")) (.int (Int32.ofNat 64)) ∈ zFl) (hel : ∀ j, j < 64 → zEl C n j ∈ zFl)
    (hl : (Cond.laysStatic C n "[I").before args s = true) (hini : (Cond.initialized C).before args s = true) (hA : ∀ a : Nat, a < s.heap.size → ¬ A a) : ∃ t : Nat, zZ C n t A s s.heap := by
  obtain ⟨t, ht, hT⟩ := va_Tof (N := 64) (f := fun j => .int (sh_K j)) (A := A) (by decide) (hg _ harr) (va_eqt (hg _ hlen)) (fun j hj => va_eqt (hg _ (hel j hj))) hA
  exact ⟨t, va_Zref hl hini ht hA, hT⟩
section ZL
variable {p : Program} {l : Launch} {e : Env} {R : Room} {s : State} {m : MethodId} {args : Array Value} {below : List Frame} {meth : Method} {c : Code} {H : Heap} {locs : List Loc} {cells slots : Nat} {Q : State → Prop}
variable {cc : ByteArray} {pc : Nat} {ls : Array Slot} {rest : List Value} {A : Nat → Prop} {H0 : Heap}
theorem z_sld (hexec : p.tables.exec = Jvm.exec) (hb : c.code = cc) {b L : Nat} {xs : Nat → Int32} (hX : va_X b L xs s H0) (hbl : b < H0.size) (hbA : ¬ A b) (hS : va_S A H0 H locs) (hL : L < 2147483648) {i : Int32} (k : Nat) (hi : i = nI k) (hk : k < L) (hdg : decode cc pc = .ok (.iaload, 1))
    (kk : W p l e R s m args below meth c H locs cells slots Q (F0 m (pc + 1) ls (.int (xs k) :: rest))) : W p l e R s m args below meth c H locs cells slots Q (F0 m pc ls (.int i :: .ref b :: rest)) := by
  obtain ⟨h1, h2⟩ := z_in hi hk hL
  exact va_sld hexec hb hX hbl hbA hS h1 hdg (by rw [h2]; exact kk)
end ZL
theorem sh_sch_R {kb kw : Nat → Int32} (hRk : sh_R 64 kb kw) : sh_sch (sh_asm kb) = sh_sch kw := sh_sch_congr (sh_R_asm (m := 16) hRk (by decide))
theorem sh_x8_R {bb bw : Nat → Int32} (hRb : sh_R 32 bb bw) : sh_x8 (sh_asm bb) = sh_x8 bw := sh_x8_congr (sh_R_asm (m := 8) hRb (by decide))
theorem sh_R_lock {kb kw bb bw : Nat → Int32} (ob ow : Nat → Int32) (hRk : sh_R 64 kb kw) (hRb : sh_R 32 bb bw) : sh_R 32 (sh_cp (sh_dis (sh_f8 (sh_enc sh_K (sh_sch (sh_asm kb)) (sh_x8 (sh_asm bb)) 64))) ob 32) (sh_o8 ow (sh_enc sh_K (sh_sch kw) (sh_x8 bw) 64)) := by
  rw [sh_sch_R hRk, sh_x8_R hRb]
  exact sh_R_out _ (by decide) ob
theorem sh_R_open {kb kw bb bw : Nat → Int32} (ob ow : Nat → Int32) (hRk : sh_R 64 kb kw) (hRb : sh_R 32 bb bw) : sh_R 32 (sh_cp (sh_dis (sh_f8 (sh_dec sh_K (sh_sch (sh_asm kb)) 64 (sh_x8 (sh_asm bb))))) ob 32) (sh_o8 ow (sh_dec sh_K (sh_sch kw) 64 (sh_x8 bw))) := by
  rw [sh_sch_R hRk, sh_x8_R hRb]
  exact sh_R_out _ (by decide) ob
theorem z_over {L k : Nat} (hL : L ≤ 288) (h1 : 6 * k ≤ L) (h : L < 6 * k + 6) : nI L - nI 6 < nI (6 * k) := by
  rw [Int32.lt_iff_toInt_lt, pk_sub_toInt (by omega) (by omega), nI_toInt (by omega)]
  omega

set_option maxHeartbeats 8000000 in
set_option maxRecDepth 100000 in
/-- THE LAW's LOOP: behind k calls the desk's bytes are the model's words -/
theorem law_loop {p : Program} {l : Launch} {e : Env} {s : State} {m : MethodId} {below : List Frame} {meth : Method} {c : Code} {b L : Nat} {xs : Nat → Int32} {D : va_G} {A : Nat → Prop} {tk tc : Nat} (hL : L ≤ 288) (hx : p.tables.exec = Jvm.exec) (hb : c.code = code) (hr : meth.sig.returnType = ret) (hml : c.maxLocals = 4) (hown : s.vm.findClass R_law = some m.cls) (hts : ∀ w ∈ lw_all, w.before #[Value.ref b] s = true) (hX : va_X b L xs s s.heap) (hbl : b < s.heap.size) (hlocks : meth.locks = false) (hA : ∀ q : Nat, s.heap.size ≤ q → A q) (hA2 : ∀ q : Nat, A q → s.heap.size ≤ q) (hbA : ¬ A b) (hZ : zE tk tc A s s.heap) (h0 a1 a2 a3 g0 b1 b2 b3 : Nat) (d1 d2 d3 d4 d5 d6 : ClassId) (hK : va_K D zcl [(d1, .byte), (d2, .byte), (d3, .byte), (d4, .int), (d5, .int), (d6, .int)] s) :
    ∀ (n k : Nat), 6 * k ≤ L → L < 6 * (k + n) → ∀ (kb bb ob kw bw ow : Nat → Int32), sh_R 64 kb kw → sh_R 32 bb bw → sh_R 32 ob ow → ∀ (H : Heap) (locs : List Loc) (ls : Array Slot), va_P D zcl [(h0, .inr (0, [.ref a1, .ref a2, .ref a3])), (a1, zar d1 64 kb), (a2, zar d2 32 bb), (a3, zar d3 32 ob), (g0, .inr (1, [.ref b1, .ref b2, .ref b3])), (b1, zar d4 16 kw), (b2, zar d5 8 bw), (b3, zar d6 8 ow)] H → va_D A [(h0, .inr (0, [.ref a1, .ref a2, .ref a3])), (a1, zar d1 64 kb), (a2, zar d2 32 bb), (a3, zar d3 32 ob), (g0, .inr (1, [.ref b1, .ref b2, .ref b3])), (b1, zar d4 16 kw), (b2, zar d5 8 bw), (b3, zar d6 8 ow)] → va_S A s.heap H locs → lv_has ls 4 [(0, .ref b), (1, .ref h0), (2, .ref g0), (3, .int (nI (6 * k)))] → W p l e room_1 s m #[Value.ref b] below meth c H locs (8 + 7 * k) (166 + 267 * k) (lw_Z below #[Value.ref b] s) (F0 m 18 ls []) := by
  intro n
  induction n with
  | zero => intro k h1 h2; exact absurd h2 (by omega)
  | succ n ih =>
    intro k h1 h2 kb bb ob kw bw ow hRk hRb hRo H locs ls hP hD hS hl
    refine lv_iload_n hx hb dL_law_18 rfl (lv_at hl 3 rfl) ?_
    refine lv_aload_n hx hb dL_law_19 rfl (lv_at hl 0 rfl) ?_
    refine va_slen hx hb hX hbl hbA hS dL_law_20 ?_
    refine lv_bipush (v := (nI 6)) hx hb dL_law_21 (by decide) ?_
    refine lv_isub hx hb dL_law_23 ?_
    rcases Nat.lt_or_ge L (6 * k + 6) with q | q
    · refine z_gt_t (tgt := 276) hx hb dL_law_24 (by decide) (z_over hL h1 q) ?_
      refine lv_iconst (v := 1) hx hb dL_law_276 (by decide) ?_
      refine va_forget (fun q hq => hA2 _ (hS.2.2 q hq)) ?_
      refine W.widen (k := 600096) (n := 7301386) (by omega) (by omega) ?_
      exact lw_ret hx hb hr hlocks dL_law_277
    refine z_top (y := (nI (L - 6))) (pk_sub (by omega)) ?_
    refine z_gt_f (tgt := 276) hx hb dL_law_24 (by decide) (nI_nlt (by omega) (by omega)) ?_
    refine lv_aload_n hx hb dL_law_27 rfl (lv_at hl 0 rfl) ?_
    refine lv_iload_n hx hb dL_law_28 rfl (lv_at hl 3 rfl) ?_
    refine z_sld hx hb hX hbl hbA hS (by omega) (6 * k) rfl (by omega) dL_law_29 ?_
    refine lv_bipush (v := (7 : Int32)) hx hb dL_law_30 (by decide) ?_
    refine lv_iand hx hb dL_law_32 ?_
    obtain ⟨j, hj, ej⟩ := pk_andE (xs (6 * k)) (m := 7) 3 (by decide)
    refine z_top (y := (nI j)) (ej) ?_
    have hj : j < 8 := hj
    clear ej
    match j, hj with
    | 0, _ =>
      refine lv_tableIn (off := 39) (tgt := 72) hx hb dL_law_33 (by decide) (by decide) (by decide) (by decide) ?_
      obtain ⟨j, hj, hp⟩ := pk_andE (xs (6 * k + 1)) (m := 3) 2 (by decide)
      refine lv_aload_n hx hb dL_law_72 rfl (lv_at hl 1 rfl) ?_
      refine lv_aload_n hx hb dL_law_73 rfl (lv_at hl 0 rfl) ?_
      refine lv_iload_n hx hb dL_law_74 rfl (lv_at hl 3 rfl) ?_
      refine lv_iconst (v := (nI 1)) hx hb dL_law_75 (by decide) ?_
      refine lv_iadd hx hb dL_law_76 ?_
      refine z_top (y := (nI (6 * k + 1))) (nI_add _ _) ?_
      refine z_sld hx hb hX hbl hbA hS (by omega) (6 * k + 1) rfl (by omega) dL_law_77 ?_
      refine lv_aload_n hx hb dL_law_78 rfl (lv_at hl 0 rfl) ?_
      refine lv_iload_n hx hb dL_law_79 rfl (lv_at hl 3 rfl) ?_
      refine lv_iconst (v := (nI 2)) hx hb dL_law_80 (by decide) ?_
      refine lv_iadd hx hb dL_law_81 ?_
      refine z_top (y := (nI (6 * k + 2))) (nI_add _ _) ?_
      refine z_sld hx hb hX hbl hbA hS (by omega) (6 * k + 2) rfl (by omega) dL_law_82 ?_
      refine lv_aload_n hx hb dL_law_83 rfl (lv_at hl 0 rfl) ?_
      refine lv_iload_n hx hb dL_law_84 rfl (lv_at hl 3 rfl) ?_
      refine lv_iconst (v := (nI 3)) hx hb dL_law_85 (by decide) ?_
      refine lv_iadd hx hb dL_law_86 ?_
      refine z_top (y := (nI (6 * k + 3))) (nI_add _ _) ?_
      refine z_sld hx hb hX hbl hbA hS (by omega) (6 * k + 3) rfl (by omega) dL_law_87 ?_
      refine lv_aload_n hx hb dL_law_88 rfl (lv_at hl 0 rfl) ?_
      refine lv_iload_n hx hb dL_law_89 rfl (lv_at hl 3 rfl) ?_
      refine lv_iconst (v := (nI 4)) hx hb dL_law_90 (by decide) ?_
      refine lv_iadd hx hb dL_law_91 ?_
      refine z_top (y := (nI (6 * k + 4))) (nI_add _ _) ?_
      refine z_sld hx hb hX hbl hbA hS (by omega) (6 * k + 4) rfl (by omega) dL_law_92 ?_
      refine lv_aload_n hx hb dL_law_93 rfl (lv_at hl 0 rfl) ?_
      refine lv_iload_n hx hb dL_law_94 rfl (lv_at hl 3 rfl) ?_
      refine lv_iconst (v := (nI 5)) hx hb dL_law_95 (by decide) ?_
      refine lv_iadd hx hb dL_law_96 ?_
      refine z_top (y := (nI (6 * k + 5))) (nI_add _ _) ?_
      refine z_sld hx hb hX hbl hbA hS (by omega) (6 * k + 5) rfl (by omega) dL_law_97 ?_
      have hPc := hP.sub (ws' := [(h0, .inr (0, [.ref a1, .ref a2, .ref a3])), (a1, zar d1 64 kb)]) [0, 1] rfl
      have hDc := hD.sub (ws' := [(h0, .inr (0, [.ref a1, .ref a2, .ref a3])), (a1, zar d1 64 kb)]) [0, 1] (by decide) rfl
      have hKc := hK.sub (tys' := [(d1, .byte)]) [0] rfl
      have hFc := va_free (wc := [(h0, .inr (0, [.ref a1, .ref a2, .ref a3])), (a1, zar d1 64 kb)]) hD hS hA [0, 1] rfl
      refine va_callv (va_runV (As := [.int (xs (6 * k + 1)), .int (xs (6 * k + 2)), .int (xs (6 * k + 3)), .int (xs (6 * k + 4)), .int (xs (6 * k + 5))]) (rest := []) ⟨hx, hb, hml, hown, hts⟩ (zX0_key l D _ h0 a1 a2 a3 d1 kb (xs (6 * k + 1)) (xs (6 * k + 2)) (xs (6 * k + 3)) (xs (6 * k + 4)) (xs (6 * k + 5)) j hj hp) (cwV 5 hts (lw_V q42 q43 q44 q10 q45) rfl rfl rfl (by decide +kernel) ⟨(Nat.le_of_ble_eq_true rfl), (Nat.le_of_ble_eq_true rfl)⟩) (z_preV [.int (xs (6 * k + 1)), .int (xs (6 * k + 2)), .int (xs (6 * k + 3)), .int (xs (6 * k + 4)), .int (xs (6 * k + 5))] hPc hKc hDc (va_recv hKc hPc (ci := 0) (q0 := 0) rfl rfl)) rfl rfl hl.1 rfl (lv_room (Nat.le_of_ble_eq_true rfl)) dL_law_98 ⟨by show _ ≤ 600096; omega, by show _ ≤ 7301386; omega⟩) hS (fun q _ h => hFc q h) hFc (fun u t H1 locs ht hvm hw_1 hB hz1 hk1 hS => ?_)
      obtain ⟨hP1, hK1, hD1⟩ := hB
      rw [ht] at hP1
      have hK1 := va_K.moved hvm.symm hK1
      obtain ⟨hP, hD⟩ := va_join (wr := [(a2, zar d2 32 bb), (a3, zar d3 32 ob), (g0, .inr (1, [.ref b1, .ref b2, .ref b3])), (b1, zar d4 16 kw), (b2, zar d5 8 bw), (b3, zar d6 8 ow)]) (w1 := [(h0, .inr (0, [.ref a1, .ref a2, .ref a3])), (a1, zar d1 64 (sh_p16 kb (4 * (4 * j)) (xs (6 * k + 2)) (xs (6 * k + 3)) (xs (6 * k + 4)) (xs (6 * k + 5))))]) hP hD [0, 1] [2, 3, 4, 5, 6, 7] rfl rfl (by decide) (by decide) hk1 hFc hP1 hD1
      generalize H1 = H at hP hS ⊢
      have hP := hP.sub (ws' := [(h0, .inr (0, [.ref a1, .ref a2, .ref a3])), (a1, zar d1 64 (sh_p16 kb (4 * (4 * j)) (xs (6 * k + 2)) (xs (6 * k + 3)) (xs (6 * k + 4)) (xs (6 * k + 5)))), (a2, zar d2 32 bb), (a3, zar d3 32 ob), (g0, .inr (1, [.ref b1, .ref b2, .ref b3])), (b1, zar d4 16 kw), (b2, zar d5 8 bw), (b3, zar d6 8 ow)]) [6, 7, 0, 1, 2, 3, 4, 5] rfl
      have hD := hD.sub (ws' := [(h0, .inr (0, [.ref a1, .ref a2, .ref a3])), (a1, zar d1 64 (sh_p16 kb (4 * (4 * j)) (xs (6 * k + 2)) (xs (6 * k + 3)) (xs (6 * k + 4)) (xs (6 * k + 5)))), (a2, zar d2 32 bb), (a3, zar d3 32 ob), (g0, .inr (1, [.ref b1, .ref b2, .ref b3])), (b1, zar d4 16 kw), (b2, zar d5 8 bw), (b3, zar d6 8 ow)]) [6, 7, 0, 1, 2, 3, 4, 5] (by decide) rfl
      refine lv_aload_n hx hb dL_law_101 rfl (lv_at hl 2 rfl) ?_
      refine lv_aload_n hx hb dL_law_102 rfl (lv_at hl 0 rfl) ?_
      refine lv_iload_n hx hb dL_law_103 rfl (lv_at hl 3 rfl) ?_
      refine lv_iconst (v := (nI 1)) hx hb dL_law_104 (by decide) ?_
      refine lv_iadd hx hb dL_law_105 ?_
      refine z_top (y := (nI (6 * k + 1))) (nI_add _ _) ?_
      refine z_sld hx hb hX hbl hbA hS (by omega) (6 * k + 1) rfl (by omega) dL_law_106 ?_
      refine lv_aload_n hx hb dL_law_107 rfl (lv_at hl 0 rfl) ?_
      refine lv_iload_n hx hb dL_law_108 rfl (lv_at hl 3 rfl) ?_
      refine lv_iconst (v := (nI 2)) hx hb dL_law_109 (by decide) ?_
      refine lv_iadd hx hb dL_law_110 ?_
      refine z_top (y := (nI (6 * k + 2))) (nI_add _ _) ?_
      refine z_sld hx hb hX hbl hbA hS (by omega) (6 * k + 2) rfl (by omega) dL_law_111 ?_
      refine lv_aload_n hx hb dL_law_112 rfl (lv_at hl 0 rfl) ?_
      refine lv_iload_n hx hb dL_law_113 rfl (lv_at hl 3 rfl) ?_
      refine lv_iconst (v := (nI 3)) hx hb dL_law_114 (by decide) ?_
      refine lv_iadd hx hb dL_law_115 ?_
      refine z_top (y := (nI (6 * k + 3))) (nI_add _ _) ?_
      refine z_sld hx hb hX hbl hbA hS (by omega) (6 * k + 3) rfl (by omega) dL_law_116 ?_
      refine lv_aload_n hx hb dL_law_117 rfl (lv_at hl 0 rfl) ?_
      refine lv_iload_n hx hb dL_law_118 rfl (lv_at hl 3 rfl) ?_
      refine lv_iconst (v := (nI 4)) hx hb dL_law_119 (by decide) ?_
      refine lv_iadd hx hb dL_law_120 ?_
      refine z_top (y := (nI (6 * k + 4))) (nI_add _ _) ?_
      refine z_sld hx hb hX hbl hbA hS (by omega) (6 * k + 4) rfl (by omega) dL_law_121 ?_
      refine lv_aload_n hx hb dL_law_122 rfl (lv_at hl 0 rfl) ?_
      refine lv_iload_n hx hb dL_law_123 rfl (lv_at hl 3 rfl) ?_
      refine lv_iconst (v := (nI 5)) hx hb dL_law_124 (by decide) ?_
      refine lv_iadd hx hb dL_law_125 ?_
      refine z_top (y := (nI (6 * k + 5))) (nI_add _ _) ?_
      refine z_sld hx hb hX hbl hbA hS (by omega) (6 * k + 5) rfl (by omega) dL_law_126 ?_
      have hPc := hP.sub (ws' := [(g0, .inr (1, [.ref b1, .ref b2, .ref b3])), (b1, zar d4 16 kw)]) [4, 5] rfl
      have hDc := hD.sub (ws' := [(g0, .inr (1, [.ref b1, .ref b2, .ref b3])), (b1, zar d4 16 kw)]) [4, 5] (by decide) rfl
      have hKc := hK.sub (tys' := [(d4, .int)]) [3] rfl
      have hFc := va_free (wc := [(g0, .inr (1, [.ref b1, .ref b2, .ref b3])), (b1, zar d4 16 kw)]) hD hS hA [4, 5] rfl
      refine va_callv (va_runV (As := [.int (xs (6 * k + 1)), .int (xs (6 * k + 2)), .int (xs (6 * k + 3)), .int (xs (6 * k + 4)), .int (xs (6 * k + 5))]) (rest := []) ⟨hx, hb, hml, hown, hts⟩ (zX1_key l D _ g0 b1 b2 b3 d4 kw (xs (6 * k + 1)) (xs (6 * k + 2)) (xs (6 * k + 3)) (xs (6 * k + 4)) (xs (6 * k + 5)) j hj hp) (cwV 5 hts (lw_V q294 q295 q296 q11 q297) rfl rfl rfl (by decide +kernel) ⟨(Nat.le_of_ble_eq_true rfl), (Nat.le_of_ble_eq_true rfl)⟩) (z_preV [.int (xs (6 * k + 1)), .int (xs (6 * k + 2)), .int (xs (6 * k + 3)), .int (xs (6 * k + 4)), .int (xs (6 * k + 5))] hPc hKc hDc (va_recv hKc hPc (ci := 1) (q0 := 0) rfl rfl)) rfl rfl hl.1 rfl (lv_room (Nat.le_of_ble_eq_true rfl)) dL_law_127 ⟨by show _ ≤ 600096; omega, by show _ ≤ 7301386; omega⟩) hS (fun q _ h => hFc q h) hFc (fun u t H1 locs ht hvm hw_2 hB hz1 hk1 hS => ?_)
      obtain ⟨hP1, hK1, hD1⟩ := hB
      rw [ht] at hP1
      have hK1 := va_K.moved hvm.symm hK1
      obtain ⟨hP, hD⟩ := va_join (wr := [(h0, .inr (0, [.ref a1, .ref a2, .ref a3])), (a1, zar d1 64 (sh_p16 kb (4 * (4 * j)) (xs (6 * k + 2)) (xs (6 * k + 3)) (xs (6 * k + 4)) (xs (6 * k + 5)))), (a2, zar d2 32 bb), (a3, zar d3 32 ob), (b2, zar d5 8 bw), (b3, zar d6 8 ow)]) (w1 := [(g0, .inr (1, [.ref b1, .ref b2, .ref b3])), (b1, zar d4 16 (sh_w4 kw (4 * j) (xs (6 * k + 2)) (xs (6 * k + 3)) (xs (6 * k + 4)) (xs (6 * k + 5))))]) hP hD [4, 5] [0, 1, 2, 3, 6, 7] rfl rfl (by decide) (by decide) hk1 hFc hP1 hD1
      generalize H1 = H at hP hS ⊢
      have hP := hP.sub (ws' := [(h0, .inr (0, [.ref a1, .ref a2, .ref a3])), (a1, zar d1 64 (sh_p16 kb (4 * (4 * j)) (xs (6 * k + 2)) (xs (6 * k + 3)) (xs (6 * k + 4)) (xs (6 * k + 5)))), (a2, zar d2 32 bb), (a3, zar d3 32 ob), (g0, .inr (1, [.ref b1, .ref b2, .ref b3])), (b1, zar d4 16 (sh_w4 kw (4 * j) (xs (6 * k + 2)) (xs (6 * k + 3)) (xs (6 * k + 4)) (xs (6 * k + 5)))), (b2, zar d5 8 bw), (b3, zar d6 8 ow)]) [0, 1, 2, 3, 6, 7, 4, 5] rfl
      have hD := hD.sub (ws' := [(h0, .inr (0, [.ref a1, .ref a2, .ref a3])), (a1, zar d1 64 (sh_p16 kb (4 * (4 * j)) (xs (6 * k + 2)) (xs (6 * k + 3)) (xs (6 * k + 4)) (xs (6 * k + 5)))), (a2, zar d2 32 bb), (a3, zar d3 32 ob), (g0, .inr (1, [.ref b1, .ref b2, .ref b3])), (b1, zar d4 16 (sh_w4 kw (4 * j) (xs (6 * k + 2)) (xs (6 * k + 3)) (xs (6 * k + 4)) (xs (6 * k + 5)))), (b2, zar d5 8 bw), (b3, zar d6 8 ow)]) [0, 1, 2, 3, 6, 7, 4, 5] (by decide) rfl
      refine lv_goto (tgt := 270) hx hb dL_law_130 (by decide) ?_
      refine lv_iinc (v := (nI (6 * (k + 1)))) (lv' := [(3, .int (nI (6 * (k + 1)))), (0, .ref b), (1, .ref h0), (2, .ref g0)]) hx hb dL_law_270 hl (k := 3) rfl (z_inc6 (6 * k)) (by decide) rfl (fun ls hl => ?_)
      refine lv_goto (tgt := 18) hx hb dL_law_273 (by decide) ?_
      refine W.widen (k := 8 + 7 * (k + 1)) (n := 166 + 267 * (k + 1)) (by omega) (by omega) ?_
      exact ih (k + 1) (by omega) (by omega) (sh_p16 kb (4 * (4 * j)) (xs (6 * k + 2)) (xs (6 * k + 3)) (xs (6 * k + 4)) (xs (6 * k + 5))) bb ob (sh_w4 kw (4 * j) (xs (6 * k + 2)) (xs (6 * k + 3)) (xs (6 * k + 4)) (xs (6 * k + 5))) bw ow (sh_R_p16 hRk (4 * j) (xs (6 * k + 2)) (xs (6 * k + 3)) (xs (6 * k + 4)) (xs (6 * k + 5))) hRb hRo _ _ ls hP hD hS (lv_sub hl [1, 2, 3, 0] rfl)
    | 1, _ =>
      refine lv_tableIn (off := 100) (tgt := 133) hx hb dL_law_33 (by decide) (by decide) (by decide) (by decide) ?_
      obtain ⟨j, hj, hp⟩ := pk_andE (xs (6 * k + 1)) (m := 1) 1 (by decide)
      refine lv_aload_n hx hb dL_law_133 rfl (lv_at hl 1 rfl) ?_
      refine lv_aload_n hx hb dL_law_134 rfl (lv_at hl 0 rfl) ?_
      refine lv_iload_n hx hb dL_law_135 rfl (lv_at hl 3 rfl) ?_
      refine lv_iconst (v := (nI 1)) hx hb dL_law_136 (by decide) ?_
      refine lv_iadd hx hb dL_law_137 ?_
      refine z_top (y := (nI (6 * k + 1))) (nI_add _ _) ?_
      refine z_sld hx hb hX hbl hbA hS (by omega) (6 * k + 1) rfl (by omega) dL_law_138 ?_
      refine lv_aload_n hx hb dL_law_139 rfl (lv_at hl 0 rfl) ?_
      refine lv_iload_n hx hb dL_law_140 rfl (lv_at hl 3 rfl) ?_
      refine lv_iconst (v := (nI 2)) hx hb dL_law_141 (by decide) ?_
      refine lv_iadd hx hb dL_law_142 ?_
      refine z_top (y := (nI (6 * k + 2))) (nI_add _ _) ?_
      refine z_sld hx hb hX hbl hbA hS (by omega) (6 * k + 2) rfl (by omega) dL_law_143 ?_
      refine lv_aload_n hx hb dL_law_144 rfl (lv_at hl 0 rfl) ?_
      refine lv_iload_n hx hb dL_law_145 rfl (lv_at hl 3 rfl) ?_
      refine lv_iconst (v := (nI 3)) hx hb dL_law_146 (by decide) ?_
      refine lv_iadd hx hb dL_law_147 ?_
      refine z_top (y := (nI (6 * k + 3))) (nI_add _ _) ?_
      refine z_sld hx hb hX hbl hbA hS (by omega) (6 * k + 3) rfl (by omega) dL_law_148 ?_
      refine lv_aload_n hx hb dL_law_149 rfl (lv_at hl 0 rfl) ?_
      refine lv_iload_n hx hb dL_law_150 rfl (lv_at hl 3 rfl) ?_
      refine lv_iconst (v := (nI 4)) hx hb dL_law_151 (by decide) ?_
      refine lv_iadd hx hb dL_law_152 ?_
      refine z_top (y := (nI (6 * k + 4))) (nI_add _ _) ?_
      refine z_sld hx hb hX hbl hbA hS (by omega) (6 * k + 4) rfl (by omega) dL_law_153 ?_
      refine lv_aload_n hx hb dL_law_154 rfl (lv_at hl 0 rfl) ?_
      refine lv_iload_n hx hb dL_law_155 rfl (lv_at hl 3 rfl) ?_
      refine lv_iconst (v := (nI 5)) hx hb dL_law_156 (by decide) ?_
      refine lv_iadd hx hb dL_law_157 ?_
      refine z_top (y := (nI (6 * k + 5))) (nI_add _ _) ?_
      refine z_sld hx hb hX hbl hbA hS (by omega) (6 * k + 5) rfl (by omega) dL_law_158 ?_
      have hPc := hP.sub (ws' := [(h0, .inr (0, [.ref a1, .ref a2, .ref a3])), (a2, zar d2 32 bb)]) [0, 2] rfl
      have hDc := hD.sub (ws' := [(h0, .inr (0, [.ref a1, .ref a2, .ref a3])), (a2, zar d2 32 bb)]) [0, 2] (by decide) rfl
      have hKc := hK.sub (tys' := [(d2, .byte)]) [1] rfl
      have hFc := va_free (wc := [(h0, .inr (0, [.ref a1, .ref a2, .ref a3])), (a2, zar d2 32 bb)]) hD hS hA [0, 2] rfl
      refine va_callv (va_runV (As := [.int (xs (6 * k + 1)), .int (xs (6 * k + 2)), .int (xs (6 * k + 3)), .int (xs (6 * k + 4)), .int (xs (6 * k + 5))]) (rest := []) ⟨hx, hb, hml, hown, hts⟩ (zX0_block l D _ h0 a1 a2 a3 d2 bb (xs (6 * k + 1)) (xs (6 * k + 2)) (xs (6 * k + 3)) (xs (6 * k + 4)) (xs (6 * k + 5)) j hj hp) (cwV 5 hts (lw_V q49 q50 q51 q10 q52) rfl rfl rfl (by decide +kernel) ⟨(Nat.le_of_ble_eq_true rfl), (Nat.le_of_ble_eq_true rfl)⟩) (z_preV [.int (xs (6 * k + 1)), .int (xs (6 * k + 2)), .int (xs (6 * k + 3)), .int (xs (6 * k + 4)), .int (xs (6 * k + 5))] hPc hKc hDc (va_recv hKc hPc (ci := 0) (q0 := 0) rfl rfl)) rfl rfl hl.1 rfl (lv_room (Nat.le_of_ble_eq_true rfl)) dL_law_159 ⟨by show _ ≤ 600096; omega, by show _ ≤ 7301386; omega⟩) hS (fun q _ h => hFc q h) hFc (fun u t H1 locs ht hvm hw_3 hB hz1 hk1 hS => ?_)
      obtain ⟨hP1, hK1, hD1⟩ := hB
      rw [ht] at hP1
      have hK1 := va_K.moved hvm.symm hK1
      obtain ⟨hP, hD⟩ := va_join (wr := [(a1, zar d1 64 kb), (a3, zar d3 32 ob), (g0, .inr (1, [.ref b1, .ref b2, .ref b3])), (b1, zar d4 16 kw), (b2, zar d5 8 bw), (b3, zar d6 8 ow)]) (w1 := [(h0, .inr (0, [.ref a1, .ref a2, .ref a3])), (a2, zar d2 32 (sh_p16 bb (4 * (4 * j)) (xs (6 * k + 2)) (xs (6 * k + 3)) (xs (6 * k + 4)) (xs (6 * k + 5))))]) hP hD [0, 2] [1, 3, 4, 5, 6, 7] rfl rfl (by decide) (by decide) hk1 hFc hP1 hD1
      generalize H1 = H at hP hS ⊢
      have hP := hP.sub (ws' := [(h0, .inr (0, [.ref a1, .ref a2, .ref a3])), (a1, zar d1 64 kb), (a2, zar d2 32 (sh_p16 bb (4 * (4 * j)) (xs (6 * k + 2)) (xs (6 * k + 3)) (xs (6 * k + 4)) (xs (6 * k + 5)))), (a3, zar d3 32 ob), (g0, .inr (1, [.ref b1, .ref b2, .ref b3])), (b1, zar d4 16 kw), (b2, zar d5 8 bw), (b3, zar d6 8 ow)]) [6, 0, 7, 1, 2, 3, 4, 5] rfl
      have hD := hD.sub (ws' := [(h0, .inr (0, [.ref a1, .ref a2, .ref a3])), (a1, zar d1 64 kb), (a2, zar d2 32 (sh_p16 bb (4 * (4 * j)) (xs (6 * k + 2)) (xs (6 * k + 3)) (xs (6 * k + 4)) (xs (6 * k + 5)))), (a3, zar d3 32 ob), (g0, .inr (1, [.ref b1, .ref b2, .ref b3])), (b1, zar d4 16 kw), (b2, zar d5 8 bw), (b3, zar d6 8 ow)]) [6, 0, 7, 1, 2, 3, 4, 5] (by decide) rfl
      refine lv_aload_n hx hb dL_law_162 rfl (lv_at hl 2 rfl) ?_
      refine lv_aload_n hx hb dL_law_163 rfl (lv_at hl 0 rfl) ?_
      refine lv_iload_n hx hb dL_law_164 rfl (lv_at hl 3 rfl) ?_
      refine lv_iconst (v := (nI 1)) hx hb dL_law_165 (by decide) ?_
      refine lv_iadd hx hb dL_law_166 ?_
      refine z_top (y := (nI (6 * k + 1))) (nI_add _ _) ?_
      refine z_sld hx hb hX hbl hbA hS (by omega) (6 * k + 1) rfl (by omega) dL_law_167 ?_
      refine lv_aload_n hx hb dL_law_168 rfl (lv_at hl 0 rfl) ?_
      refine lv_iload_n hx hb dL_law_169 rfl (lv_at hl 3 rfl) ?_
      refine lv_iconst (v := (nI 2)) hx hb dL_law_170 (by decide) ?_
      refine lv_iadd hx hb dL_law_171 ?_
      refine z_top (y := (nI (6 * k + 2))) (nI_add _ _) ?_
      refine z_sld hx hb hX hbl hbA hS (by omega) (6 * k + 2) rfl (by omega) dL_law_172 ?_
      refine lv_aload_n hx hb dL_law_173 rfl (lv_at hl 0 rfl) ?_
      refine lv_iload_n hx hb dL_law_174 rfl (lv_at hl 3 rfl) ?_
      refine lv_iconst (v := (nI 3)) hx hb dL_law_175 (by decide) ?_
      refine lv_iadd hx hb dL_law_176 ?_
      refine z_top (y := (nI (6 * k + 3))) (nI_add _ _) ?_
      refine z_sld hx hb hX hbl hbA hS (by omega) (6 * k + 3) rfl (by omega) dL_law_177 ?_
      refine lv_aload_n hx hb dL_law_178 rfl (lv_at hl 0 rfl) ?_
      refine lv_iload_n hx hb dL_law_179 rfl (lv_at hl 3 rfl) ?_
      refine lv_iconst (v := (nI 4)) hx hb dL_law_180 (by decide) ?_
      refine lv_iadd hx hb dL_law_181 ?_
      refine z_top (y := (nI (6 * k + 4))) (nI_add _ _) ?_
      refine z_sld hx hb hX hbl hbA hS (by omega) (6 * k + 4) rfl (by omega) dL_law_182 ?_
      refine lv_aload_n hx hb dL_law_183 rfl (lv_at hl 0 rfl) ?_
      refine lv_iload_n hx hb dL_law_184 rfl (lv_at hl 3 rfl) ?_
      refine lv_iconst (v := (nI 5)) hx hb dL_law_185 (by decide) ?_
      refine lv_iadd hx hb dL_law_186 ?_
      refine z_top (y := (nI (6 * k + 5))) (nI_add _ _) ?_
      refine z_sld hx hb hX hbl hbA hS (by omega) (6 * k + 5) rfl (by omega) dL_law_187 ?_
      have hPc := hP.sub (ws' := [(g0, .inr (1, [.ref b1, .ref b2, .ref b3])), (b2, zar d5 8 bw)]) [4, 6] rfl
      have hDc := hD.sub (ws' := [(g0, .inr (1, [.ref b1, .ref b2, .ref b3])), (b2, zar d5 8 bw)]) [4, 6] (by decide) rfl
      have hKc := hK.sub (tys' := [(d5, .int)]) [4] rfl
      have hFc := va_free (wc := [(g0, .inr (1, [.ref b1, .ref b2, .ref b3])), (b2, zar d5 8 bw)]) hD hS hA [4, 6] rfl
      refine va_callv (va_runV (As := [.int (xs (6 * k + 1)), .int (xs (6 * k + 2)), .int (xs (6 * k + 3)), .int (xs (6 * k + 4)), .int (xs (6 * k + 5))]) (rest := []) ⟨hx, hb, hml, hown, hts⟩ (zX1_block l D _ g0 b1 b2 b3 d5 bw (xs (6 * k + 1)) (xs (6 * k + 2)) (xs (6 * k + 3)) (xs (6 * k + 4)) (xs (6 * k + 5)) j hj hp) (cwV 5 hts (lw_V q298 q299 q300 q11 q301) rfl rfl rfl (by decide +kernel) ⟨(Nat.le_of_ble_eq_true rfl), (Nat.le_of_ble_eq_true rfl)⟩) (z_preV [.int (xs (6 * k + 1)), .int (xs (6 * k + 2)), .int (xs (6 * k + 3)), .int (xs (6 * k + 4)), .int (xs (6 * k + 5))] hPc hKc hDc (va_recv hKc hPc (ci := 1) (q0 := 0) rfl rfl)) rfl rfl hl.1 rfl (lv_room (Nat.le_of_ble_eq_true rfl)) dL_law_188 ⟨by show _ ≤ 600096; omega, by show _ ≤ 7301386; omega⟩) hS (fun q _ h => hFc q h) hFc (fun u t H1 locs ht hvm hw_4 hB hz1 hk1 hS => ?_)
      obtain ⟨hP1, hK1, hD1⟩ := hB
      rw [ht] at hP1
      have hK1 := va_K.moved hvm.symm hK1
      obtain ⟨hP, hD⟩ := va_join (wr := [(h0, .inr (0, [.ref a1, .ref a2, .ref a3])), (a1, zar d1 64 kb), (a2, zar d2 32 (sh_p16 bb (4 * (4 * j)) (xs (6 * k + 2)) (xs (6 * k + 3)) (xs (6 * k + 4)) (xs (6 * k + 5)))), (a3, zar d3 32 ob), (b1, zar d4 16 kw), (b3, zar d6 8 ow)]) (w1 := [(g0, .inr (1, [.ref b1, .ref b2, .ref b3])), (b2, zar d5 8 (sh_w4 bw (4 * j) (xs (6 * k + 2)) (xs (6 * k + 3)) (xs (6 * k + 4)) (xs (6 * k + 5))))]) hP hD [4, 6] [0, 1, 2, 3, 5, 7] rfl rfl (by decide) (by decide) hk1 hFc hP1 hD1
      generalize H1 = H at hP hS ⊢
      have hP := hP.sub (ws' := [(h0, .inr (0, [.ref a1, .ref a2, .ref a3])), (a1, zar d1 64 kb), (a2, zar d2 32 (sh_p16 bb (4 * (4 * j)) (xs (6 * k + 2)) (xs (6 * k + 3)) (xs (6 * k + 4)) (xs (6 * k + 5)))), (a3, zar d3 32 ob), (g0, .inr (1, [.ref b1, .ref b2, .ref b3])), (b1, zar d4 16 kw), (b2, zar d5 8 (sh_w4 bw (4 * j) (xs (6 * k + 2)) (xs (6 * k + 3)) (xs (6 * k + 4)) (xs (6 * k + 5)))), (b3, zar d6 8 ow)]) [0, 1, 2, 3, 6, 4, 7, 5] rfl
      have hD := hD.sub (ws' := [(h0, .inr (0, [.ref a1, .ref a2, .ref a3])), (a1, zar d1 64 kb), (a2, zar d2 32 (sh_p16 bb (4 * (4 * j)) (xs (6 * k + 2)) (xs (6 * k + 3)) (xs (6 * k + 4)) (xs (6 * k + 5)))), (a3, zar d3 32 ob), (g0, .inr (1, [.ref b1, .ref b2, .ref b3])), (b1, zar d4 16 kw), (b2, zar d5 8 (sh_w4 bw (4 * j) (xs (6 * k + 2)) (xs (6 * k + 3)) (xs (6 * k + 4)) (xs (6 * k + 5)))), (b3, zar d6 8 ow)]) [0, 1, 2, 3, 6, 4, 7, 5] (by decide) rfl
      refine lv_goto (tgt := 270) hx hb dL_law_191 (by decide) ?_
      refine lv_iinc (v := (nI (6 * (k + 1)))) (lv' := [(3, .int (nI (6 * (k + 1)))), (0, .ref b), (1, .ref h0), (2, .ref g0)]) hx hb dL_law_270 hl (k := 3) rfl (z_inc6 (6 * k)) (by decide) rfl (fun ls hl => ?_)
      refine lv_goto (tgt := 18) hx hb dL_law_273 (by decide) ?_
      refine W.widen (k := 8 + 7 * (k + 1)) (n := 166 + 267 * (k + 1)) (by omega) (by omega) ?_
      exact ih (k + 1) (by omega) (by omega) kb (sh_p16 bb (4 * (4 * j)) (xs (6 * k + 2)) (xs (6 * k + 3)) (xs (6 * k + 4)) (xs (6 * k + 5))) ob kw (sh_w4 bw (4 * j) (xs (6 * k + 2)) (xs (6 * k + 3)) (xs (6 * k + 4)) (xs (6 * k + 5))) ow hRk (sh_R_p16 hRb (4 * j) (xs (6 * k + 2)) (xs (6 * k + 3)) (xs (6 * k + 4)) (xs (6 * k + 5))) hRo _ _ ls hP hD hS (lv_sub hl [1, 2, 3, 0] rfl)
    | 2, _ =>
      refine lv_tableIn (off := 161) (tgt := 194) hx hb dL_law_33 (by decide) (by decide) (by decide) (by decide) ?_
      refine lv_aload_n hx hb dL_law_194 rfl (lv_at hl 1 rfl) ?_
      refine lv_aload_n hx hb dL_law_195 rfl (lv_at hl 0 rfl) ?_
      refine lv_iload_n hx hb dL_law_196 rfl (lv_at hl 3 rfl) ?_
      refine lv_iconst (v := (nI 1)) hx hb dL_law_197 (by decide) ?_
      refine lv_iadd hx hb dL_law_198 ?_
      refine z_top (y := (nI (6 * k + 1))) (nI_add _ _) ?_
      refine z_sld hx hb hX hbl hbA hS (by omega) (6 * k + 1) rfl (by omega) dL_law_199 ?_
      have hPc := hP.sub (ws' := [(h0, .inr (0, [.ref a1, .ref a2, .ref a3])), (a1, zar d1 64 kb), (a2, zar d2 32 bb), (a3, zar d3 32 ob)]) [0, 1, 2, 3] rfl
      have hDc := hD.sub (ws' := [(h0, .inr (0, [.ref a1, .ref a2, .ref a3])), (a1, zar d1 64 kb), (a2, zar d2 32 bb), (a3, zar d3 32 ob)]) [0, 1, 2, 3] (by decide) rfl
      have hKc := hK.sub (tys' := [(d1, .byte), (d2, .byte), (d3, .byte)]) [0, 1, 2] rfl
      have hFc := va_free (wc := [(h0, .inr (0, [.ref a1, .ref a2, .ref a3])), (a1, zar d1 64 kb), (a2, zar d2 32 bb), (a3, zar d3 32 ob)]) hD hS hA [0, 1, 2, 3] rfl
      refine va_callv (va_runV (As := [.int (xs (6 * k + 1))]) (rest := []) ⟨hx, hb, hml, hown, hts⟩ (zX0_lock l D tk tc _ h0 a1 a2 a3 d1 d2 d3 kb bb ob (xs (6 * k + 1)) (sh_N_R hRk)) (cwV 1 hts (lw_V q53 q54 q55 q10 q56) rfl rfl rfl (by decide +kernel) ⟨(Nat.le_of_ble_eq_true rfl), (Nat.le_of_ble_eq_true rfl)⟩) (z_preVE [.int (xs (6 * k + 1))] hPc hKc hDc hZ hS hFc (va_recv hKc hPc (ci := 0) (q0 := 0) rfl rfl)) rfl rfl hl.1 rfl (lv_room (Nat.le_of_ble_eq_true rfl)) dL_law_200 ⟨by show _ ≤ 600096; omega, by show _ ≤ 7301386; omega⟩) hS (fun q _ h => hFc q h) hFc (fun u t H1 locs ht hvm hw_5 hB hz1 hk1 hS => ?_)
      obtain ⟨hP1, hK1, hD1⟩ := hB
      rw [ht] at hP1
      have hK1 := va_K.moved hvm.symm hK1
      obtain ⟨hP, hD⟩ := va_join (wr := [(g0, .inr (1, [.ref b1, .ref b2, .ref b3])), (b1, zar d4 16 kw), (b2, zar d5 8 bw), (b3, zar d6 8 ow)]) (w1 := [(h0, .inr (0, [.ref a1, .ref a2, .ref a3])), (a1, zar d1 64 kb), (a2, zar d2 32 bb), (a3, zar d3 32 (sh_cp (sh_dis (sh_f8 (sh_enc sh_K (sh_sch (sh_asm kb)) (sh_x8 (sh_asm bb)) 64))) ob 32))]) hP hD [0, 1, 2, 3] [4, 5, 6, 7] rfl rfl (by decide) (by decide) hk1 hFc hP1 hD1
      generalize H1 = H at hP hS ⊢
      have hP := hP.sub (ws' := [(h0, .inr (0, [.ref a1, .ref a2, .ref a3])), (a1, zar d1 64 kb), (a2, zar d2 32 bb), (a3, zar d3 32 (sh_cp (sh_dis (sh_f8 (sh_enc sh_K (sh_sch (sh_asm kb)) (sh_x8 (sh_asm bb)) 64))) ob 32)), (g0, .inr (1, [.ref b1, .ref b2, .ref b3])), (b1, zar d4 16 kw), (b2, zar d5 8 bw), (b3, zar d6 8 ow)]) [4, 5, 6, 7, 0, 1, 2, 3] rfl
      have hD := hD.sub (ws' := [(h0, .inr (0, [.ref a1, .ref a2, .ref a3])), (a1, zar d1 64 kb), (a2, zar d2 32 bb), (a3, zar d3 32 (sh_cp (sh_dis (sh_f8 (sh_enc sh_K (sh_sch (sh_asm kb)) (sh_x8 (sh_asm bb)) 64))) ob 32)), (g0, .inr (1, [.ref b1, .ref b2, .ref b3])), (b1, zar d4 16 kw), (b2, zar d5 8 bw), (b3, zar d6 8 ow)]) [4, 5, 6, 7, 0, 1, 2, 3] (by decide) rfl
      refine lv_aload_n hx hb dL_law_203 rfl (lv_at hl 2 rfl) ?_
      refine lv_aload_n hx hb dL_law_204 rfl (lv_at hl 0 rfl) ?_
      refine lv_iload_n hx hb dL_law_205 rfl (lv_at hl 3 rfl) ?_
      refine lv_iconst (v := (nI 1)) hx hb dL_law_206 (by decide) ?_
      refine lv_iadd hx hb dL_law_207 ?_
      refine z_top (y := (nI (6 * k + 1))) (nI_add _ _) ?_
      refine z_sld hx hb hX hbl hbA hS (by omega) (6 * k + 1) rfl (by omega) dL_law_208 ?_
      have hPc := hP.sub (ws' := [(g0, .inr (1, [.ref b1, .ref b2, .ref b3])), (b1, zar d4 16 kw), (b2, zar d5 8 bw), (b3, zar d6 8 ow)]) [4, 5, 6, 7] rfl
      have hDc := hD.sub (ws' := [(g0, .inr (1, [.ref b1, .ref b2, .ref b3])), (b1, zar d4 16 kw), (b2, zar d5 8 bw), (b3, zar d6 8 ow)]) [4, 5, 6, 7] (by decide) rfl
      have hKc := hK.sub (tys' := [(d4, .int), (d5, .int), (d6, .int)]) [3, 4, 5] rfl
      have hFc := va_free (wc := [(g0, .inr (1, [.ref b1, .ref b2, .ref b3])), (b1, zar d4 16 kw), (b2, zar d5 8 bw), (b3, zar d6 8 ow)]) hD hS hA [4, 5, 6, 7] rfl
      refine va_callv (va_runV (As := [.int (xs (6 * k + 1))]) (rest := []) ⟨hx, hb, hml, hown, hts⟩ (zX1_lock l D tk tc _ g0 b1 b2 b3 d4 d5 d6 kw bw ow (xs (6 * k + 1))) (cwV 1 hts (lw_V q302 q303 q304 q11 q305) rfl rfl rfl (by decide +kernel) ⟨(Nat.le_of_ble_eq_true rfl), (Nat.le_of_ble_eq_true rfl)⟩) (z_preVE [.int (xs (6 * k + 1))] hPc hKc hDc hZ hS hFc (va_recv hKc hPc (ci := 1) (q0 := 0) rfl rfl)) rfl rfl hl.1 rfl (lv_room (Nat.le_of_ble_eq_true rfl)) dL_law_209 ⟨by show _ ≤ 600096; omega, by show _ ≤ 7301386; omega⟩) hS (fun q _ h => hFc q h) hFc (fun u t H1 locs ht hvm hw_6 hB hz1 hk1 hS => ?_)
      obtain ⟨hP1, hK1, hD1⟩ := hB
      rw [ht] at hP1
      have hK1 := va_K.moved hvm.symm hK1
      obtain ⟨hP, hD⟩ := va_join (wr := [(h0, .inr (0, [.ref a1, .ref a2, .ref a3])), (a1, zar d1 64 kb), (a2, zar d2 32 bb), (a3, zar d3 32 (sh_cp (sh_dis (sh_f8 (sh_enc sh_K (sh_sch (sh_asm kb)) (sh_x8 (sh_asm bb)) 64))) ob 32))]) (w1 := [(g0, .inr (1, [.ref b1, .ref b2, .ref b3])), (b1, zar d4 16 kw), (b2, zar d5 8 bw), (b3, zar d6 8 (sh_o8 ow (sh_enc sh_K (sh_sch kw) (sh_x8 bw) 64)))]) hP hD [4, 5, 6, 7] [0, 1, 2, 3] rfl rfl (by decide) (by decide) hk1 hFc hP1 hD1
      generalize H1 = H at hP hS ⊢
      have hP := hP.sub (ws' := [(h0, .inr (0, [.ref a1, .ref a2, .ref a3])), (a1, zar d1 64 kb), (a2, zar d2 32 bb), (a3, zar d3 32 (sh_cp (sh_dis (sh_f8 (sh_enc sh_K (sh_sch (sh_asm kb)) (sh_x8 (sh_asm bb)) 64))) ob 32)), (g0, .inr (1, [.ref b1, .ref b2, .ref b3])), (b1, zar d4 16 kw), (b2, zar d5 8 bw), (b3, zar d6 8 (sh_o8 ow (sh_enc sh_K (sh_sch kw) (sh_x8 bw) 64)))]) [0, 1, 2, 3, 4, 5, 6, 7] rfl
      have hD := hD.sub (ws' := [(h0, .inr (0, [.ref a1, .ref a2, .ref a3])), (a1, zar d1 64 kb), (a2, zar d2 32 bb), (a3, zar d3 32 (sh_cp (sh_dis (sh_f8 (sh_enc sh_K (sh_sch (sh_asm kb)) (sh_x8 (sh_asm bb)) 64))) ob 32)), (g0, .inr (1, [.ref b1, .ref b2, .ref b3])), (b1, zar d4 16 kw), (b2, zar d5 8 bw), (b3, zar d6 8 (sh_o8 ow (sh_enc sh_K (sh_sch kw) (sh_x8 bw) 64)))]) [0, 1, 2, 3, 4, 5, 6, 7] (by decide) rfl
      refine lv_goto (tgt := 270) hx hb dL_law_212 (by decide) ?_
      refine lv_iinc (v := (nI (6 * (k + 1)))) (lv' := [(3, .int (nI (6 * (k + 1)))), (0, .ref b), (1, .ref h0), (2, .ref g0)]) hx hb dL_law_270 hl (k := 3) rfl (z_inc6 (6 * k)) (by decide) rfl (fun ls hl => ?_)
      refine lv_goto (tgt := 18) hx hb dL_law_273 (by decide) ?_
      refine W.widen (k := 8 + 7 * (k + 1)) (n := 166 + 267 * (k + 1)) (by omega) (by omega) ?_
      exact ih (k + 1) (by omega) (by omega) kb bb (sh_cp (sh_dis (sh_f8 (sh_enc sh_K (sh_sch (sh_asm kb)) (sh_x8 (sh_asm bb)) 64))) ob 32) kw bw (sh_o8 ow (sh_enc sh_K (sh_sch kw) (sh_x8 bw) 64)) hRk hRb (sh_R_lock ob ow hRk hRb) _ _ ls hP hD hS (lv_sub hl [1, 2, 3, 0] rfl)
    | 3, _ =>
      refine lv_tableIn (off := 182) (tgt := 215) hx hb dL_law_33 (by decide) (by decide) (by decide) (by decide) ?_
      refine lv_aload_n hx hb dL_law_215 rfl (lv_at hl 1 rfl) ?_
      refine lv_aload_n hx hb dL_law_216 rfl (lv_at hl 0 rfl) ?_
      refine lv_iload_n hx hb dL_law_217 rfl (lv_at hl 3 rfl) ?_
      refine lv_iconst (v := (nI 1)) hx hb dL_law_218 (by decide) ?_
      refine lv_iadd hx hb dL_law_219 ?_
      refine z_top (y := (nI (6 * k + 1))) (nI_add _ _) ?_
      refine z_sld hx hb hX hbl hbA hS (by omega) (6 * k + 1) rfl (by omega) dL_law_220 ?_
      have hPc := hP.sub (ws' := [(h0, .inr (0, [.ref a1, .ref a2, .ref a3])), (a1, zar d1 64 kb), (a2, zar d2 32 bb), (a3, zar d3 32 ob)]) [0, 1, 2, 3] rfl
      have hDc := hD.sub (ws' := [(h0, .inr (0, [.ref a1, .ref a2, .ref a3])), (a1, zar d1 64 kb), (a2, zar d2 32 bb), (a3, zar d3 32 ob)]) [0, 1, 2, 3] (by decide) rfl
      have hKc := hK.sub (tys' := [(d1, .byte), (d2, .byte), (d3, .byte)]) [0, 1, 2] rfl
      have hFc := va_free (wc := [(h0, .inr (0, [.ref a1, .ref a2, .ref a3])), (a1, zar d1 64 kb), (a2, zar d2 32 bb), (a3, zar d3 32 ob)]) hD hS hA [0, 1, 2, 3] rfl
      refine va_callv (va_runV (As := [.int (xs (6 * k + 1))]) (rest := []) ⟨hx, hb, hml, hown, hts⟩ (zX0_open l D tk tc _ h0 a1 a2 a3 d1 d2 d3 kb bb ob (xs (6 * k + 1)) (sh_N_R hRk)) (cwV 1 hts (lw_V q266 q267 q268 q10 q269) rfl rfl rfl (by decide +kernel) ⟨(Nat.le_of_ble_eq_true rfl), (Nat.le_of_ble_eq_true rfl)⟩) (z_preVE [.int (xs (6 * k + 1))] hPc hKc hDc hZ hS hFc (va_recv hKc hPc (ci := 0) (q0 := 0) rfl rfl)) rfl rfl hl.1 rfl (lv_room (Nat.le_of_ble_eq_true rfl)) dL_law_221 ⟨by show _ ≤ 600096; omega, by show _ ≤ 7301386; omega⟩) hS (fun q _ h => hFc q h) hFc (fun u t H1 locs ht hvm hw_7 hB hz1 hk1 hS => ?_)
      obtain ⟨hP1, hK1, hD1⟩ := hB
      rw [ht] at hP1
      have hK1 := va_K.moved hvm.symm hK1
      obtain ⟨hP, hD⟩ := va_join (wr := [(g0, .inr (1, [.ref b1, .ref b2, .ref b3])), (b1, zar d4 16 kw), (b2, zar d5 8 bw), (b3, zar d6 8 ow)]) (w1 := [(h0, .inr (0, [.ref a1, .ref a2, .ref a3])), (a1, zar d1 64 kb), (a2, zar d2 32 bb), (a3, zar d3 32 (sh_cp (sh_dis (sh_f8 (sh_dec sh_K (sh_sch (sh_asm kb)) 64 (sh_x8 (sh_asm bb))))) ob 32))]) hP hD [0, 1, 2, 3] [4, 5, 6, 7] rfl rfl (by decide) (by decide) hk1 hFc hP1 hD1
      generalize H1 = H at hP hS ⊢
      have hP := hP.sub (ws' := [(h0, .inr (0, [.ref a1, .ref a2, .ref a3])), (a1, zar d1 64 kb), (a2, zar d2 32 bb), (a3, zar d3 32 (sh_cp (sh_dis (sh_f8 (sh_dec sh_K (sh_sch (sh_asm kb)) 64 (sh_x8 (sh_asm bb))))) ob 32)), (g0, .inr (1, [.ref b1, .ref b2, .ref b3])), (b1, zar d4 16 kw), (b2, zar d5 8 bw), (b3, zar d6 8 ow)]) [4, 5, 6, 7, 0, 1, 2, 3] rfl
      have hD := hD.sub (ws' := [(h0, .inr (0, [.ref a1, .ref a2, .ref a3])), (a1, zar d1 64 kb), (a2, zar d2 32 bb), (a3, zar d3 32 (sh_cp (sh_dis (sh_f8 (sh_dec sh_K (sh_sch (sh_asm kb)) 64 (sh_x8 (sh_asm bb))))) ob 32)), (g0, .inr (1, [.ref b1, .ref b2, .ref b3])), (b1, zar d4 16 kw), (b2, zar d5 8 bw), (b3, zar d6 8 ow)]) [4, 5, 6, 7, 0, 1, 2, 3] (by decide) rfl
      refine lv_aload_n hx hb dL_law_224 rfl (lv_at hl 2 rfl) ?_
      refine lv_aload_n hx hb dL_law_225 rfl (lv_at hl 0 rfl) ?_
      refine lv_iload_n hx hb dL_law_226 rfl (lv_at hl 3 rfl) ?_
      refine lv_iconst (v := (nI 1)) hx hb dL_law_227 (by decide) ?_
      refine lv_iadd hx hb dL_law_228 ?_
      refine z_top (y := (nI (6 * k + 1))) (nI_add _ _) ?_
      refine z_sld hx hb hX hbl hbA hS (by omega) (6 * k + 1) rfl (by omega) dL_law_229 ?_
      have hPc := hP.sub (ws' := [(g0, .inr (1, [.ref b1, .ref b2, .ref b3])), (b1, zar d4 16 kw), (b2, zar d5 8 bw), (b3, zar d6 8 ow)]) [4, 5, 6, 7] rfl
      have hDc := hD.sub (ws' := [(g0, .inr (1, [.ref b1, .ref b2, .ref b3])), (b1, zar d4 16 kw), (b2, zar d5 8 bw), (b3, zar d6 8 ow)]) [4, 5, 6, 7] (by decide) rfl
      have hKc := hK.sub (tys' := [(d4, .int), (d5, .int), (d6, .int)]) [3, 4, 5] rfl
      have hFc := va_free (wc := [(g0, .inr (1, [.ref b1, .ref b2, .ref b3])), (b1, zar d4 16 kw), (b2, zar d5 8 bw), (b3, zar d6 8 ow)]) hD hS hA [4, 5, 6, 7] rfl
      refine va_callv (va_runV (As := [.int (xs (6 * k + 1))]) (rest := []) ⟨hx, hb, hml, hown, hts⟩ (zX1_open l D tk tc _ g0 b1 b2 b3 d4 d5 d6 kw bw ow (xs (6 * k + 1))) (cwV 1 hts (lw_V q337 q338 q339 q11 q340) rfl rfl rfl (by decide +kernel) ⟨(Nat.le_of_ble_eq_true rfl), (Nat.le_of_ble_eq_true rfl)⟩) (z_preVE [.int (xs (6 * k + 1))] hPc hKc hDc hZ hS hFc (va_recv hKc hPc (ci := 1) (q0 := 0) rfl rfl)) rfl rfl hl.1 rfl (lv_room (Nat.le_of_ble_eq_true rfl)) dL_law_230 ⟨by show _ ≤ 600096; omega, by show _ ≤ 7301386; omega⟩) hS (fun q _ h => hFc q h) hFc (fun u t H1 locs ht hvm hw_8 hB hz1 hk1 hS => ?_)
      obtain ⟨hP1, hK1, hD1⟩ := hB
      rw [ht] at hP1
      have hK1 := va_K.moved hvm.symm hK1
      obtain ⟨hP, hD⟩ := va_join (wr := [(h0, .inr (0, [.ref a1, .ref a2, .ref a3])), (a1, zar d1 64 kb), (a2, zar d2 32 bb), (a3, zar d3 32 (sh_cp (sh_dis (sh_f8 (sh_dec sh_K (sh_sch (sh_asm kb)) 64 (sh_x8 (sh_asm bb))))) ob 32))]) (w1 := [(g0, .inr (1, [.ref b1, .ref b2, .ref b3])), (b1, zar d4 16 kw), (b2, zar d5 8 bw), (b3, zar d6 8 (sh_o8 ow (sh_dec sh_K (sh_sch kw) 64 (sh_x8 bw))))]) hP hD [4, 5, 6, 7] [0, 1, 2, 3] rfl rfl (by decide) (by decide) hk1 hFc hP1 hD1
      generalize H1 = H at hP hS ⊢
      have hP := hP.sub (ws' := [(h0, .inr (0, [.ref a1, .ref a2, .ref a3])), (a1, zar d1 64 kb), (a2, zar d2 32 bb), (a3, zar d3 32 (sh_cp (sh_dis (sh_f8 (sh_dec sh_K (sh_sch (sh_asm kb)) 64 (sh_x8 (sh_asm bb))))) ob 32)), (g0, .inr (1, [.ref b1, .ref b2, .ref b3])), (b1, zar d4 16 kw), (b2, zar d5 8 bw), (b3, zar d6 8 (sh_o8 ow (sh_dec sh_K (sh_sch kw) 64 (sh_x8 bw))))]) [0, 1, 2, 3, 4, 5, 6, 7] rfl
      have hD := hD.sub (ws' := [(h0, .inr (0, [.ref a1, .ref a2, .ref a3])), (a1, zar d1 64 kb), (a2, zar d2 32 bb), (a3, zar d3 32 (sh_cp (sh_dis (sh_f8 (sh_dec sh_K (sh_sch (sh_asm kb)) 64 (sh_x8 (sh_asm bb))))) ob 32)), (g0, .inr (1, [.ref b1, .ref b2, .ref b3])), (b1, zar d4 16 kw), (b2, zar d5 8 bw), (b3, zar d6 8 (sh_o8 ow (sh_dec sh_K (sh_sch kw) 64 (sh_x8 bw))))]) [0, 1, 2, 3, 4, 5, 6, 7] (by decide) rfl
      refine lv_goto (tgt := 270) hx hb dL_law_233 (by decide) ?_
      refine lv_iinc (v := (nI (6 * (k + 1)))) (lv' := [(3, .int (nI (6 * (k + 1)))), (0, .ref b), (1, .ref h0), (2, .ref g0)]) hx hb dL_law_270 hl (k := 3) rfl (z_inc6 (6 * k)) (by decide) rfl (fun ls hl => ?_)
      refine lv_goto (tgt := 18) hx hb dL_law_273 (by decide) ?_
      refine W.widen (k := 8 + 7 * (k + 1)) (n := 166 + 267 * (k + 1)) (by omega) (by omega) ?_
      exact ih (k + 1) (by omega) (by omega) kb bb (sh_cp (sh_dis (sh_f8 (sh_dec sh_K (sh_sch (sh_asm kb)) 64 (sh_x8 (sh_asm bb))))) ob 32) kw bw (sh_o8 ow (sh_dec sh_K (sh_sch kw) 64 (sh_x8 bw))) hRk hRb (sh_R_open ob ow hRk hRb) _ _ ls hP hD hS (lv_sub hl [1, 2, 3, 0] rfl)
    | 4, _ =>
      refine lv_tableIn (off := 203) (tgt := 236) hx hb dL_law_33 (by decide) (by decide) (by decide) (by decide) ?_
      refine lv_aload_n hx hb dL_law_236 rfl (lv_at hl 1 rfl) ?_
      have hPc := hP.sub (ws' := [(h0, .inr (0, [.ref a1, .ref a2, .ref a3])), (a2, zar d2 32 bb), (a3, zar d3 32 ob)]) [0, 2, 3] rfl
      have hDc := hD.sub (ws' := [(h0, .inr (0, [.ref a1, .ref a2, .ref a3])), (a2, zar d2 32 bb), (a3, zar d3 32 ob)]) [0, 2, 3] (by decide) rfl
      have hKc := hK.sub (tys' := [(d2, .byte), (d3, .byte)]) [1, 2] rfl
      have hFc := va_free (wc := [(h0, .inr (0, [.ref a1, .ref a2, .ref a3])), (a2, zar d2 32 bb), (a3, zar d3 32 ob)]) hD hS hA [0, 2, 3] rfl
      refine va_callv (va_runV (As := []) (rest := []) ⟨hx, hb, hml, hown, hts⟩ (zX0_again l D _ h0 a1 a2 a3 d2 d3 bb ob (sh_N_R hRo)) (cwV 0 hts (lw_V q270 q271 q272 q10 q273) rfl rfl rfl (by decide +kernel) ⟨(Nat.le_of_ble_eq_true rfl), (Nat.le_of_ble_eq_true rfl)⟩) (z_preV [] hPc hKc hDc (va_recv hKc hPc (ci := 0) (q0 := 0) rfl rfl)) rfl rfl hl.1 rfl (lv_room (Nat.le_of_ble_eq_true rfl)) dL_law_237 ⟨by show _ ≤ 600096; omega, by show _ ≤ 7301386; omega⟩) hS (fun q _ h => hFc q h) hFc (fun u t H1 locs ht hvm hw_9 hB hz1 hk1 hS => ?_)
      obtain ⟨hP1, hK1, hD1⟩ := hB
      rw [ht] at hP1
      have hK1 := va_K.moved hvm.symm hK1
      obtain ⟨hP, hD⟩ := va_join (wr := [(a1, zar d1 64 kb), (g0, .inr (1, [.ref b1, .ref b2, .ref b3])), (b1, zar d4 16 kw), (b2, zar d5 8 bw), (b3, zar d6 8 ow)]) (w1 := [(h0, .inr (0, [.ref a1, .ref a2, .ref a3])), (a2, zar d2 32 (sh_cp ob bb 32)), (a3, zar d3 32 ob)]) hP hD [0, 2, 3] [1, 4, 5, 6, 7] rfl rfl (by decide) (by decide) hk1 hFc hP1 hD1
      generalize H1 = H at hP hS ⊢
      have hP := hP.sub (ws' := [(h0, .inr (0, [.ref a1, .ref a2, .ref a3])), (a1, zar d1 64 kb), (a2, zar d2 32 (sh_cp ob bb 32)), (a3, zar d3 32 ob), (g0, .inr (1, [.ref b1, .ref b2, .ref b3])), (b1, zar d4 16 kw), (b2, zar d5 8 bw), (b3, zar d6 8 ow)]) [5, 0, 6, 7, 1, 2, 3, 4] rfl
      have hD := hD.sub (ws' := [(h0, .inr (0, [.ref a1, .ref a2, .ref a3])), (a1, zar d1 64 kb), (a2, zar d2 32 (sh_cp ob bb 32)), (a3, zar d3 32 ob), (g0, .inr (1, [.ref b1, .ref b2, .ref b3])), (b1, zar d4 16 kw), (b2, zar d5 8 bw), (b3, zar d6 8 ow)]) [5, 0, 6, 7, 1, 2, 3, 4] (by decide) rfl
      refine lv_aload_n hx hb dL_law_240 rfl (lv_at hl 2 rfl) ?_
      have hPc := hP.sub (ws' := [(g0, .inr (1, [.ref b1, .ref b2, .ref b3])), (b2, zar d5 8 bw), (b3, zar d6 8 ow)]) [4, 6, 7] rfl
      have hDc := hD.sub (ws' := [(g0, .inr (1, [.ref b1, .ref b2, .ref b3])), (b2, zar d5 8 bw), (b3, zar d6 8 ow)]) [4, 6, 7] (by decide) rfl
      have hKc := hK.sub (tys' := [(d5, .int), (d6, .int)]) [4, 5] rfl
      have hFc := va_free (wc := [(g0, .inr (1, [.ref b1, .ref b2, .ref b3])), (b2, zar d5 8 bw), (b3, zar d6 8 ow)]) hD hS hA [4, 6, 7] rfl
      refine va_callv (va_runV (As := []) (rest := []) ⟨hx, hb, hml, hown, hts⟩ (zX1_again l D _ g0 b1 b2 b3 d5 d6 bw ow) (cwV 0 hts (lw_V q341 q342 q343 q11 q344) rfl rfl rfl (by decide +kernel) ⟨(Nat.le_of_ble_eq_true rfl), (Nat.le_of_ble_eq_true rfl)⟩) (z_preV [] hPc hKc hDc (va_recv hKc hPc (ci := 1) (q0 := 0) rfl rfl)) rfl rfl hl.1 rfl (lv_room (Nat.le_of_ble_eq_true rfl)) dL_law_241 ⟨by show _ ≤ 600096; omega, by show _ ≤ 7301386; omega⟩) hS (fun q _ h => hFc q h) hFc (fun u t H1 locs ht hvm hw_10 hB hz1 hk1 hS => ?_)
      obtain ⟨hP1, hK1, hD1⟩ := hB
      rw [ht] at hP1
      have hK1 := va_K.moved hvm.symm hK1
      obtain ⟨hP, hD⟩ := va_join (wr := [(h0, .inr (0, [.ref a1, .ref a2, .ref a3])), (a1, zar d1 64 kb), (a2, zar d2 32 (sh_cp ob bb 32)), (a3, zar d3 32 ob), (b1, zar d4 16 kw)]) (w1 := [(g0, .inr (1, [.ref b1, .ref b2, .ref b3])), (b2, zar d5 8 (sh_cp ow bw 8)), (b3, zar d6 8 ow)]) hP hD [4, 6, 7] [0, 1, 2, 3, 5] rfl rfl (by decide) (by decide) hk1 hFc hP1 hD1
      generalize H1 = H at hP hS ⊢
      have hP := hP.sub (ws' := [(h0, .inr (0, [.ref a1, .ref a2, .ref a3])), (a1, zar d1 64 kb), (a2, zar d2 32 (sh_cp ob bb 32)), (a3, zar d3 32 ob), (g0, .inr (1, [.ref b1, .ref b2, .ref b3])), (b1, zar d4 16 kw), (b2, zar d5 8 (sh_cp ow bw 8)), (b3, zar d6 8 ow)]) [0, 1, 2, 3, 5, 4, 6, 7] rfl
      have hD := hD.sub (ws' := [(h0, .inr (0, [.ref a1, .ref a2, .ref a3])), (a1, zar d1 64 kb), (a2, zar d2 32 (sh_cp ob bb 32)), (a3, zar d3 32 ob), (g0, .inr (1, [.ref b1, .ref b2, .ref b3])), (b1, zar d4 16 kw), (b2, zar d5 8 (sh_cp ow bw 8)), (b3, zar d6 8 ow)]) [0, 1, 2, 3, 5, 4, 6, 7] (by decide) rfl
      refine lv_goto (tgt := 270) hx hb dL_law_244 (by decide) ?_
      refine lv_iinc (v := (nI (6 * (k + 1)))) (lv' := [(3, .int (nI (6 * (k + 1)))), (0, .ref b), (1, .ref h0), (2, .ref g0)]) hx hb dL_law_270 hl (k := 3) rfl (z_inc6 (6 * k)) (by decide) rfl (fun ls hl => ?_)
      refine lv_goto (tgt := 18) hx hb dL_law_273 (by decide) ?_
      refine W.widen (k := 8 + 7 * (k + 1)) (n := 166 + 267 * (k + 1)) (by omega) (by omega) ?_
      exact ih (k + 1) (by omega) (by omega) kb (sh_cp ob bb 32) ob kw (sh_cp ow bw 8) ow hRk (sh_R_cp hRo) hRo _ _ ls hP hD hS (lv_sub hl [1, 2, 3, 0] rfl)
    | 5, _ =>
      refine lv_tableIn (off := 214) (tgt := 247) hx hb dL_law_33 (by decide) (by decide) (by decide) (by decide) ?_
      obtain ⟨j, hj, hp⟩ := pk_andE (xs (6 * k + 1)) (m := 31) 5 (by decide)
      refine lv_aload_n hx hb dL_law_247 rfl (lv_at hl 1 rfl) ?_
      refine lv_aload_n hx hb dL_law_248 rfl (lv_at hl 0 rfl) ?_
      refine lv_iload_n hx hb dL_law_249 rfl (lv_at hl 3 rfl) ?_
      refine lv_iconst (v := (nI 1)) hx hb dL_law_250 (by decide) ?_
      refine lv_iadd hx hb dL_law_251 ?_
      refine z_top (y := (nI (6 * k + 1))) (nI_add _ _) ?_
      refine z_sld hx hb hX hbl hbA hS (by omega) (6 * k + 1) rfl (by omega) dL_law_252 ?_
      have hPc := hP.sub (ws' := [(h0, .inr (0, [.ref a1, .ref a2, .ref a3])), (a3, zar d3 32 ob)]) [0, 3] rfl
      have hDc := hD.sub (ws' := [(h0, .inr (0, [.ref a1, .ref a2, .ref a3])), (a3, zar d3 32 ob)]) [0, 3] (by decide) rfl
      have hKc := hK.sub (tys' := [(d3, .byte)]) [2] rfl
      have hFc := va_free (wc := [(h0, .inr (0, [.ref a1, .ref a2, .ref a3])), (a3, zar d3 32 ob)]) hD hS hA [0, 3] rfl
      refine va_calli (va_runV (As := [.int (xs (6 * k + 1))]) (rest := []) ⟨hx, hb, hml, hown, hts⟩ (zX0_out l D _ h0 a1 a2 a3 d3 ob (xs (6 * k + 1)) j hj hp) (cwV 1 hts (lw_V q274 q275 q276 q10 q277) rfl rfl rfl (by decide +kernel) ⟨(Nat.le_of_ble_eq_true rfl), (Nat.le_of_ble_eq_true rfl)⟩) (z_preV [.int (xs (6 * k + 1))] hPc hKc hDc (va_recv hKc hPc (ci := 0) (q0 := 0) rfl rfl)) rfl rfl hl.1 rfl (lv_room (Nat.le_of_ble_eq_true rfl)) dL_law_253 ⟨by show _ ≤ 600096; omega, by show _ ≤ 7301386; omega⟩) hS (fun q _ h => hFc q h) hFc (fun r_hw_11 u t H1 locs ht hvm hw_11 hB hz1 hk1 hS => ?_)
      obtain ⟨hP1, hK1, hD1⟩ := hB
      rw [ht] at hP1
      have hK1 := va_K.moved hvm.symm hK1
      obtain ⟨hP, hD⟩ := va_join (wr := [(a1, zar d1 64 kb), (a2, zar d2 32 bb), (g0, .inr (1, [.ref b1, .ref b2, .ref b3])), (b1, zar d4 16 kw), (b2, zar d5 8 bw), (b3, zar d6 8 ow)]) (w1 := [(h0, .inr (0, [.ref a1, .ref a2, .ref a3])), (a3, zar d3 32 ob)]) hP hD [0, 3] [1, 2, 4, 5, 6, 7] rfl rfl (by decide) (by decide) hk1 hFc hP1 hD1
      generalize H1 = H at hP hS ⊢
      have hP := hP.sub (ws' := [(h0, .inr (0, [.ref a1, .ref a2, .ref a3])), (a1, zar d1 64 kb), (a2, zar d2 32 bb), (a3, zar d3 32 ob), (g0, .inr (1, [.ref b1, .ref b2, .ref b3])), (b1, zar d4 16 kw), (b2, zar d5 8 bw), (b3, zar d6 8 ow)]) [6, 0, 1, 7, 2, 3, 4, 5] rfl
      have hD := hD.sub (ws' := [(h0, .inr (0, [.ref a1, .ref a2, .ref a3])), (a1, zar d1 64 kb), (a2, zar d2 32 bb), (a3, zar d3 32 ob), (g0, .inr (1, [.ref b1, .ref b2, .ref b3])), (b1, zar d4 16 kw), (b2, zar d5 8 bw), (b3, zar d6 8 ow)]) [6, 0, 1, 7, 2, 3, 4, 5] (by decide) rfl
      refine lv_aload_n hx hb dL_law_256 rfl (lv_at hl 2 rfl) ?_
      refine lv_aload_n hx hb dL_law_257 rfl (lv_at hl 0 rfl) ?_
      refine lv_iload_n hx hb dL_law_258 rfl (lv_at hl 3 rfl) ?_
      refine lv_iconst (v := (nI 1)) hx hb dL_law_259 (by decide) ?_
      refine lv_iadd hx hb dL_law_260 ?_
      refine z_top (y := (nI (6 * k + 1))) (nI_add _ _) ?_
      refine z_sld hx hb hX hbl hbA hS (by omega) (6 * k + 1) rfl (by omega) dL_law_261 ?_
      have hPc := hP.sub (ws' := [(g0, .inr (1, [.ref b1, .ref b2, .ref b3])), (b3, zar d6 8 ow)]) [4, 7] rfl
      have hDc := hD.sub (ws' := [(g0, .inr (1, [.ref b1, .ref b2, .ref b3])), (b3, zar d6 8 ow)]) [4, 7] (by decide) rfl
      have hKc := hK.sub (tys' := [(d6, .int)]) [5] rfl
      have hFc := va_free (wc := [(g0, .inr (1, [.ref b1, .ref b2, .ref b3])), (b3, zar d6 8 ow)]) hD hS hA [4, 7] rfl
      refine va_calli (va_runV (As := [.int (xs (6 * k + 1))]) (rest := [.int r_hw_11]) ⟨hx, hb, hml, hown, hts⟩ (zX1_out l D _ g0 b1 b2 b3 d6 ow (xs (6 * k + 1)) j hj hp) (cwV 1 hts (lw_V q345 q346 q347 q11 q348) rfl rfl rfl (by decide +kernel) ⟨(Nat.le_of_ble_eq_true rfl), (Nat.le_of_ble_eq_true rfl)⟩) (z_preV [.int (xs (6 * k + 1))] hPc hKc hDc (va_recv hKc hPc (ci := 1) (q0 := 0) rfl rfl)) rfl rfl hl.1 rfl (lv_room (Nat.le_of_ble_eq_true rfl)) dL_law_262 ⟨by show _ ≤ 600096; omega, by show _ ≤ 7301386; omega⟩) hS (fun q _ h => hFc q h) hFc (fun r_hw_12 u t H1 locs ht hvm hw_12 hB hz1 hk1 hS => ?_)
      obtain ⟨hP1, hK1, hD1⟩ := hB
      rw [ht] at hP1
      have hK1 := va_K.moved hvm.symm hK1
      obtain ⟨hP, hD⟩ := va_join (wr := [(h0, .inr (0, [.ref a1, .ref a2, .ref a3])), (a1, zar d1 64 kb), (a2, zar d2 32 bb), (a3, zar d3 32 ob), (b1, zar d4 16 kw), (b2, zar d5 8 bw)]) (w1 := [(g0, .inr (1, [.ref b1, .ref b2, .ref b3])), (b3, zar d6 8 ow)]) hP hD [4, 7] [0, 1, 2, 3, 5, 6] rfl rfl (by decide) (by decide) hk1 hFc hP1 hD1
      generalize H1 = H at hP hS ⊢
      have hP := hP.sub (ws' := [(h0, .inr (0, [.ref a1, .ref a2, .ref a3])), (a1, zar d1 64 kb), (a2, zar d2 32 bb), (a3, zar d3 32 ob), (g0, .inr (1, [.ref b1, .ref b2, .ref b3])), (b1, zar d4 16 kw), (b2, zar d5 8 bw), (b3, zar d6 8 ow)]) [0, 1, 2, 3, 6, 4, 5, 7] rfl
      have hD := hD.sub (ws' := [(h0, .inr (0, [.ref a1, .ref a2, .ref a3])), (a1, zar d1 64 kb), (a2, zar d2 32 bb), (a3, zar d3 32 ob), (g0, .inr (1, [.ref b1, .ref b2, .ref b3])), (b1, zar d4 16 kw), (b2, zar d5 8 bw), (b3, zar d6 8 ow)]) [0, 1, 2, 3, 6, 4, 5, 7] (by decide) rfl
      refine z_icmp_eq_t (tgt := 270) hx hb dL_law_265 (by decide) (by rw [hw_11, hw_12, hRo j hj]; exact sh_b_out _ _ (by omega)) ?_
      refine lv_iinc (v := (nI (6 * (k + 1)))) (lv' := [(3, .int (nI (6 * (k + 1)))), (0, .ref b), (1, .ref h0), (2, .ref g0)]) hx hb dL_law_270 hl (k := 3) rfl (z_inc6 (6 * k)) (by decide) rfl (fun ls hl => ?_)
      refine lv_goto (tgt := 18) hx hb dL_law_273 (by decide) ?_
      refine W.widen (k := 8 + 7 * (k + 1)) (n := 166 + 267 * (k + 1)) (by omega) (by omega) ?_
      exact ih (k + 1) (by omega) (by omega) kb bb ob kw bw ow hRk hRb hRo _ _ ls hP hD hS (lv_sub hl [1, 2, 3, 0] rfl)
    | 6, _ =>
      refine lv_tableOut (tgt := 270) hx hb dL_law_33 (by decide) (by decide) ?_
      refine lv_iinc (v := (nI (6 * (k + 1)))) (lv' := [(3, .int (nI (6 * (k + 1)))), (0, .ref b), (1, .ref h0), (2, .ref g0)]) hx hb dL_law_270 hl (k := 3) rfl (z_inc6 (6 * k)) (by decide) rfl (fun ls hl => ?_)
      refine lv_goto (tgt := 18) hx hb dL_law_273 (by decide) ?_
      refine W.widen (k := 8 + 7 * (k + 1)) (n := 166 + 267 * (k + 1)) (by omega) (by omega) ?_
      exact ih (k + 1) (by omega) (by omega) kb bb ob kw bw ow hRk hRb hRo _ _ ls hP hD hS (lv_sub hl [1, 2, 3, 0] rfl)
    | 7, _ =>
      refine lv_tableOut (tgt := 270) hx hb dL_law_33 (by decide) (by decide) ?_
      refine lv_iinc (v := (nI (6 * (k + 1)))) (lv' := [(3, .int (nI (6 * (k + 1)))), (0, .ref b), (1, .ref h0), (2, .ref g0)]) hx hb dL_law_270 hl (k := 3) rfl (z_inc6 (6 * k)) (by decide) rfl (fun ls hl => ?_)
      refine lv_goto (tgt := 18) hx hb dL_law_273 (by decide) ?_
      refine W.widen (k := 8 + 7 * (k + 1)) (n := 166 + 267 * (k + 1)) (by omega) (by omega) ?_
      exact ih (k + 1) (by omega) (by omega) kb bb ob kw bw ow hRk hRb hRo _ _ ls hP hD hS (lv_sub hl [1, 2, 3, 0] rfl)
    | n + 8, hj => exact absurd hj (by omega)
end
section
set_option maxHeartbeats 4000000 in
set_option maxRecDepth 100000 in
/-- THE LAW, from its entry -/
theorem whole_start {p : Program} {e : Env} {s : State} {m : MethodId} {below : List Frame} {meth : Method} {c : Code} (l : Launch) (hflags : l.flags = flags0) {b L : Nat} {xs : Nat → Int32} (hL : L ≤ 288) (C0 : lw_At p s m meth c b L xs) : W p l e room_1 s m #[Value.ref b] below meth c s.heap [] 0 0 (lw_Z below #[Value.ref b] s) (entryFrame m ([Value.ref b] : List Value).toArray 4) := by
  obtain ⟨hx, hb, hr, hml, hown, hts0, hX, hbl, hlocks, hgv⟩ := C0
  have hts : ∀ w ∈ lw_all, w.before #[Value.ref b] s = true := fun w h => hts0 w (lw_all_tbl h)
  have hg : ∀ w ∈ zFl, w.before #[Value.ref b] s = true := flat_of_before _ hgv
  obtain ⟨A, hAe⟩ : ∃ A : Nat → Prop, A = fun q : Nat => s.heap.size ≤ q := ⟨_, rfl⟩
  have hA : ∀ q : Nat, s.heap.size ≤ q → A q := fun q h => by rw [hAe]; exact h
  have hA2 : ∀ q : Nat, A q → s.heap.size ≤ q := fun q h => by rw [hAe] at h; exact h
  have hA3 : ∀ a : Nat, a < s.heap.size → ¬ A a := fun a h z => absurd (hA2 a z) (Nat.not_le.mpr h)
  have hbA : ¬ A b := hA3 b hbl
  obtain ⟨c0, iS0, hKn0⟩ := u_known (C := RX0) (T := TX0) (N := 3) (n := 3) hts in_X0 (hts _ q24)
  obtain ⟨c1, iS1, hKn1⟩ := u_known (C := RX1) (T := TX1) (N := 3) (n := 3) hts in_X1 (hts _ q279)
  obtain ⟨c2, iS2, hKn2⟩ := u_known (C := RX2) (T := TX2) (N := 2) (n := 2) hts in_X2 (hts _ q62)
  obtain ⟨c3, iS3, hKn3⟩ := u_known (C := RX3) (T := TX3) (N := 1) (n := 1) hts in_X3 (hts _ q75)
  obtain ⟨D, hKc⟩ : ∃ D : va_G, ∀ (k : Nat) (q : vw_C), zcl[k]? = some q → u_Kn s q.1 q.2.1 q.2.2 (D.1 k) (D.2 k) := by
    refine ⟨(fun k => if k = 0 then c0 else if k = 1 then c1 else if k = 2 then c2 else c3, fun k => if k = 0 then iS0 else if k = 1 then iS1 else if k = 2 then iS2 else iS3), ?_⟩
    intro k q hq
    match k, hq with
    | 0, hq => cases hq; exact hKn0
    | 1, hq => cases hq; exact hKn1
    | 2, hq => cases hq; exact hKn2
    | 3, hq => cases hq; exact hKn3
    | k + 4, hq => simp [zcl] at hq
  obtain ⟨tk, hZk⟩ := zZ_start (C := RX2) (n := "K") (A := A) hg (List.mem_of_getElem? (i := 8) rfl) (List.mem_of_getElem? (i := 10) rfl) (zTab zTabK) (hts0 _ q257) (hts _ q12) hA3
  obtain ⟨tc, hZc⟩ := zZ_start (C := RX1) (n := "CONSTANTS") (A := A) hg (List.mem_of_getElem? (i := 76) rfl) (List.mem_of_getElem? (i := 78) rfl) (zTab zTabC) (hts0 _ q326) (hts _ q11) hA3
  have hZ : zE tk tc A s s.heap := ⟨hZk, hZc, va_Fw.of (hts0 _ q96) (hts0 _ q95) (hts0 _ q101) (hts0 _ q99) (hts0 _ q97), va_Fw.of (hts0 _ q188) (hts0 _ q187) (hts0 _ q192) (hts0 _ q190) (hts0 _ q97)⟩
  have hS : va_S A s.heap s.heap [] := va_S.rf
  have hK : va_K D zcl [] s := ⟨hKc, fun k q h => by simp at h⟩
  have hP : va_P D zcl [] s.heap := fun k q h => by simp at h
  have hD : va_D A [] := ⟨fun i j p q h => by simp at h, fun k q h => by simp at h⟩
  have hl := lv_entry ([.ref b]) (n := 4) (Nat.le_of_ble_eq_true rfl)
  rw [lg_entry_eq]
  generalize (lg_sl ([.ref b]) ++ List.replicate (4 - (lg_sl ([.ref b])).length) Slot.unset).toArray = ls at hl ⊢
  have hl : lv_has ls 4 [(0, .ref b)] := hl
  refine va_new (ci := 0) (fs := [.null, .null, .null]) (C := RX0) (T := TX0) (N := 3) hx hb hts in_X0 tyX0 tyX0_ok hown (hts _ q23) (hts _ q24) (hts _ q10) hK hP hD hS hA rfl (fun j hj => by rcases (show j = 0 ∨ j = 1 ∨ j = 2 by omega) with rfl | rfl | rfl <;> rfl) (Nat.le_of_ble_eq_true rfl) (Nat.le_of_ble_eq_true rfl) dL_law_0 (fun h0 H hP hD hS => ?_)
  have hP : va_P D zcl [(h0, .inr (0, [.null, .null, .null]))] H := hP
  have hD : va_D A [(h0, .inr (0, [.null, .null, .null]))] := hD
  refine W.widen (k := 1) (n := 3) (Nat.le_of_ble_eq_true rfl) (Nat.le_of_ble_eq_true rfl) ?_
  refine lv_dup hx hb dL_law_3 rfl ?_
  have hPc := hP.sub (ws' := [(h0, .inr (0, [.null, .null, .null]))]) [0] rfl
  have hDc := hD.sub (ws' := [(h0, .inr (0, [.null, .null, .null]))]) [0] (by decide) rfl
  have hKc := hK.sub (tys' := []) [] rfl
  have hFc := va_free (wc := [(h0, .inr (0, [.null, .null, .null]))]) hD hS hA [0] rfl
  refine va_callv (va_runI (As := []) (rest := [.ref h0]) ⟨hx, hb, hml, hown, hts⟩ (zX0_init l D _ h0) (cwI 0 hts (lw_meth q27) rfl rfl rfl (hts _ q10) (hts _ q25) (hts _ q26) rfl (by decide +kernel) ⟨(Nat.le_of_ble_eq_true rfl), (Nat.le_of_ble_eq_true rfl)⟩) (z_preS [.ref h0] hPc hKc hDc) rfl rfl hl.1 rfl (lv_room (Nat.le_of_ble_eq_true rfl)) dL_law_4 ⟨(Nat.le_of_ble_eq_true rfl), (Nat.le_of_ble_eq_true rfl)⟩) hS (fun q _ h => hFc q h) hFc (fun u t H1 locs ht hvm hw_2 hB hz1 hk1 hS => ?_)
  obtain ⟨a1, a2, a3, d1, d2, d3, hP1, hK1, hD1⟩ := hB
  rw [ht] at hP1
  have hK1 := va_K.moved hvm.symm hK1
  obtain ⟨hP, hD⟩ := va_join (wr := []) (w1 := [(h0, .inr (0, [.ref a1, .ref a2, .ref a3])), (a1, zar d1 64 sh_z), (a2, zar d2 32 sh_z), (a3, zar d3 32 sh_z)]) hP hD [0] [] rfl rfl (by decide) (by decide) hk1 hFc hP1 hD1
  have hK := hK.app hK1
  have hK : va_K D zcl [(d1, .byte), (d2, .byte), (d3, .byte)] s := hK
  generalize H1 = H at hP hS ⊢
  have hP := hP.sub (ws' := [(h0, .inr (0, [.ref a1, .ref a2, .ref a3])), (a1, zar d1 64 sh_z), (a2, zar d2 32 sh_z), (a3, zar d3 32 sh_z)]) [0, 1, 2, 3] rfl
  have hD := hD.sub (ws' := [(h0, .inr (0, [.ref a1, .ref a2, .ref a3])), (a1, zar d1 64 sh_z), (a2, zar d2 32 sh_z), (a3, zar d3 32 sh_z)]) [0, 1, 2, 3] (by decide) rfl
  refine W.widen (k := 4) (n := 131) (Nat.le_of_ble_eq_true rfl) (Nat.le_of_ble_eq_true rfl) ?_
  refine lv_astore_n (lv' := [(1, .ref h0), (0, .ref b)]) hx hb dL_law_7 rfl hl (by decide) rfl (fun ls hl => ?_)
  refine va_new (ci := 1) (fs := [.null, .null, .null]) (C := RX1) (T := TX1) (N := 3) hx hb hts in_X1 tyX1 tyX1_ok hown (hts _ q278) (hts _ q279) (hts _ q11) hK hP hD hS hA rfl (fun j hj => by rcases (show j = 0 ∨ j = 1 ∨ j = 2 by omega) with rfl | rfl | rfl <;> rfl) (Nat.le_of_ble_eq_true rfl) (Nat.le_of_ble_eq_true rfl) dL_law_8 (fun g0 H hP hD hS => ?_)
  have hP : va_P D zcl [(h0, .inr (0, [.ref a1, .ref a2, .ref a3])), (a1, zar d1 64 sh_z), (a2, zar d2 32 sh_z), (a3, zar d3 32 sh_z), (g0, .inr (1, [.null, .null, .null]))] H := hP
  have hD : va_D A [(h0, .inr (0, [.ref a1, .ref a2, .ref a3])), (a1, zar d1 64 sh_z), (a2, zar d2 32 sh_z), (a3, zar d3 32 sh_z), (g0, .inr (1, [.null, .null, .null]))] := hD
  refine W.widen (k := 5) (n := 134) (Nat.le_of_ble_eq_true rfl) (Nat.le_of_ble_eq_true rfl) ?_
  refine lv_dup hx hb dL_law_11 rfl ?_
  have hPc := hP.sub (ws' := [(g0, .inr (1, [.null, .null, .null]))]) [4] rfl
  have hDc := hD.sub (ws' := [(g0, .inr (1, [.null, .null, .null]))]) [4] (by decide) rfl
  have hKc := hK.sub (tys' := []) [] rfl
  have hFc := va_free (wc := [(g0, .inr (1, [.null, .null, .null]))]) hD hS hA [4] rfl
  refine va_callv (va_runI (As := []) (rest := [.ref g0]) ⟨hx, hb, hml, hown, hts⟩ (zX1_init l D _ g0) (cwI 0 hts (lw_meth q282) rfl rfl rfl (hts _ q11) (hts _ q280) (hts _ q281) rfl (by decide +kernel) ⟨(Nat.le_of_ble_eq_true rfl), (Nat.le_of_ble_eq_true rfl)⟩) (z_preS [.ref g0] hPc hKc hDc) rfl rfl hl.1 rfl (lv_room (Nat.le_of_ble_eq_true rfl)) dL_law_12 ⟨(Nat.le_of_ble_eq_true rfl), (Nat.le_of_ble_eq_true rfl)⟩) hS (fun q _ h => hFc q h) hFc (fun u t H1 locs ht hvm hw_4 hB hz1 hk1 hS => ?_)
  obtain ⟨b1, b2, b3, d4, d5, d6, hP1, hK1, hD1⟩ := hB
  rw [ht] at hP1
  have hK1 := va_K.moved hvm.symm hK1
  obtain ⟨hP, hD⟩ := va_join (wr := [(h0, .inr (0, [.ref a1, .ref a2, .ref a3])), (a1, zar d1 64 sh_z), (a2, zar d2 32 sh_z), (a3, zar d3 32 sh_z)]) (w1 := [(g0, .inr (1, [.ref b1, .ref b2, .ref b3])), (b1, zar d4 16 sh_z), (b2, zar d5 8 sh_z), (b3, zar d6 8 sh_z)]) hP hD [4] [0, 1, 2, 3] rfl rfl (by decide) (by decide) hk1 hFc hP1 hD1
  have hK := hK.app hK1
  have hK : va_K D zcl [(d1, .byte), (d2, .byte), (d3, .byte), (d4, .int), (d5, .int), (d6, .int)] s := hK
  generalize H1 = H at hP hS ⊢
  have hP := hP.sub (ws' := [(h0, .inr (0, [.ref a1, .ref a2, .ref a3])), (a1, zar d1 64 sh_z), (a2, zar d2 32 sh_z), (a3, zar d3 32 sh_z), (g0, .inr (1, [.ref b1, .ref b2, .ref b3])), (b1, zar d4 16 sh_z), (b2, zar d5 8 sh_z), (b3, zar d6 8 sh_z)]) [0, 1, 2, 3, 4, 5, 6, 7] rfl
  have hD := hD.sub (ws' := [(h0, .inr (0, [.ref a1, .ref a2, .ref a3])), (a1, zar d1 64 sh_z), (a2, zar d2 32 sh_z), (a3, zar d3 32 sh_z), (g0, .inr (1, [.ref b1, .ref b2, .ref b3])), (b1, zar d4 16 sh_z), (b2, zar d5 8 sh_z), (b3, zar d6 8 sh_z)]) [0, 1, 2, 3, 4, 5, 6, 7] (by decide) rfl
  refine W.widen (k := 8) (n := 166) (Nat.le_of_ble_eq_true rfl) (Nat.le_of_ble_eq_true rfl) ?_
  refine lv_astore_n (lv' := [(2, .ref g0), (1, .ref h0), (0, .ref b)]) hx hb dL_law_15 rfl hl (by decide) rfl (fun ls hl => ?_)
  refine lv_iconst (v := (nI (6 * 0))) hx hb dL_law_16 (by decide) ?_
  refine lv_istore_n (lv' := [(3, .int (nI (6 * 0))), (2, .ref g0), (1, .ref h0), (0, .ref b)]) hx hb dL_law_17 rfl hl (by decide) rfl (fun ls hl => ?_)
  exact law_loop hL hx hb hr hml hown hts hX hbl hlocks hA hA2 hbA hZ h0 a1 a2 a3 g0 b1 b2 b3 d1 d2 d3 d4 d5 d6 (hK.sub [0, 1, 2, 3, 4, 5] rfl) (L + 1) 0 (Nat.zero_le L) (by omega) sh_z sh_z sh_z sh_z sh_z sh_z (sh_R_0 64) (sh_R_0 32) (sh_R_0 32) _ _ ls (hP.sub [0, 1, 2, 3, 4, 5, 6, 7] rfl) (hD.sub [0, 1, 2, 3, 4, 5, 6, 7] (by decide) rfl) hS (lv_sub hl [3, 2, 1, 0] rfl)
set_option maxHeartbeats 4000000 in
theorem lw_walk (l : Launch) (hflags : l.flags = flags0) (b : Addr) (xs : List Int32) : MetFree l x (headSpec (Jvm.Cond.code x code maxLocals ret :: tables_1) room_1) (lw_P b xs) (fun _ _ _ _ _ => True) lw_Q := by
  refine MetFree.of_bodyS (code := code) (maxLocals := maxLocals) (ret := ret) (by decide) ?_ ?_
  · intro args s m h hn
    obtain ⟨meth, c, h1, h2, h3, h4, h5, h6, -, -⟩ := Cond.code_spec hn (atoms_spec (ws := Jvm.Cond.code x code maxLocals ret :: tables_1) h _ List.mem_cons_self)
    exact ⟨meth, c, h1, h2, h3, h4, h5, h6⟩
  · intro p e s m args below meth c s₁ B hml0 hP _
    obtain ⟨rfl, hx, hbd, hgv⟩ := hP
    obtain ⟨scr, harrAt, hlist, hof, hsmall⟩ := hx
    obtain ⟨hcb, hkn, -, -⟩ := State.arrayAt?_spec harrAt
    have hown : s.vm.findClass R_law = some m.cls := findClass_of_methodNamed B.named
    have hts0 : ∀ c ∈ (Jvm.Cond.code x code maxLocals ret :: tables_1), c.before #[Value.ref b] s = true := atoms_spec (ws := Jvm.Cond.code x code maxLocals ret :: tables_1) B.pre
    have hts : ∀ w ∈ lw_tbl, w.before #[Value.ref b] s = true := k2_hts_sels lw_privs (fun w hw => hts0 w (List.mem_cons_of_mem _ hw)) lw_privs_ok
    have hml : c.maxLocals = 4 := B.maxLocals_eq (hts0 _ List.mem_cons_self)
    have X₀ : Stand p l e room_1 s m #[Value.ref b] below meth c s₁ [] 0 0 := Stand.of_body B
    have hh0 : s₁.heap = s.heap := by rw [B.state]; rfl
    have hsz : scr.slots.size = xs.length := by rw [← Array.length_toList, hlist, List.length_map]
    have hval : ∀ j : Nat, j < xs.length → scr.slots[j]? = some (.int (xs.getD j 0)) := fun j hj => by
      rw [← Array.getElem?_toList, hlist]
      simp [hj]
    have hbl : b < s.heap.size := (Array.getElem?_eq_some_iff.mp hcb).1
    have hX : va_X b xs.length (fun j => xs.getD j 0) s s.heap := ⟨scr, hcb, hof, hkn, hsz, hval⟩
    have K : W p l e room_1 s m #[Value.ref b] below meth c s₁.heap [] 0 0 (lw_Z below #[Value.ref b] s) (entryFrame m ([Value.ref b] : List Value).toArray 4) := by
      rw [hh0]
      exact whole_start l hflags hbd ⟨B.exec, B.bytes, B.returns, hml, hown, hts, hX, hbl, B.notSynchronized, hgv⟩
    obtain ⟨t, a1, o, b1, b2, b3⟩ := K s₁ rfl X₀
    exact ⟨t, o, a1, b1, b2, b3⟩
theorem lw_pre_spec {args : Array Value} {s : State} (h : (Jvm.Cond.and given_1 narrow_1).before args s = true) (hr : rest_1_c.before args s = true) : ∃ (b : Addr) (xs : List Int32), lw_P b xs args s := by
  have hs := flat_of_before _ h
  have hq := flat_of_before _ hr
  have hc : (Cond.count 1).before args s = true := hs _ (by decide +kernel)
  have harr : (Cond.arrayOf (.arg 0) .int).before args s = true := hs _ (by decide +kernel)
  have hle : (Cond.le (.length (.arg 0)) (.int 288)).before args s = true := hs _ (by decide +kernel)
  have hlen : (Cond.isInt (.length (.arg 0))).before args s = true := hq _ (by decide +kernel)
  have hall : (Cond.all (.arg 0) (.isInt (.elem (.arg 0) (.index 0)))).before args s = true := hq _ (by decide +kernel)
  obtain ⟨b, xs, hb, hx⟩ := State.ints_of_pre rfl harr hlen hall
  have hsm : xs.length < 2 ^ 31 := hx.choose_spec.2.2.2
  have hev : (Term.length (.arg 0)).eval args s none [] s = some (.int xs.length.toInt32) := hx.length_eval hb
  have hv := Cond.le_ints hev (show (Term.int 288).eval args s none [] s = some (.int 288) from rfl)
  have hd : xs.length.toInt32 ≤ 288 := by
    simpa [Cond.before, Cond.holds, hv] using hle
  have hN : xs.length ≤ 288 := (Int32.ofNat_le_ofNat hsm (by decide)).mp (show Int32.ofNat xs.length ≤ Int32.ofNat 288 from hd)
  exact ⟨b, xs, Cond.one_arg hc (show args[0]? = some (.ref b) from hb), hx, hN, h⟩
theorem lw_comes (l : Launch) (hflags : l.flags = flags0) : Comes l x (Jvm.Cond.code x code maxLocals ret :: tables_1) room_1 (fun tb e args s => Calls_1 tb e args s ∧ rest_1 tb e args s ∧ Pre_1 tb e args s)
    (fun _ _ args s o t => lw_Q args s o t) := by
  intro p e ha hc hk s m args below hf hfit hheap happ hpre
  obtain ⟨b, xs, hP⟩ := lw_pre_spec hpre.2.2 hpre.2.1
  obtain ⟨k, o, h1, h2, h3, hQ⟩ := lw_walk l hflags b xs p e ha hc hk s m args below hf ((Spec.applies_iff_loose hf).mp happ).1 hP trivial
  exact ⟨k, o, h1, h2, h3, hQ⟩
theorem lw_frame {s t : State} {o : Outcome} {args : Array Value} (h : Framed s o t [] 600096 7301386) :
    Framed s o t (fieldLocs frame_1_writes args s ++ arrayLocs frame_1_arrays args s ++ staticLocs frame_1_statics s) 600096 7301386 := h
theorem lw_limb (L : Cond) (hL : ∀ (args : Array Value) (s t : State), L.after args s (.returned (some (.int 1))) t = true) :
    ArmFor flags0 classFile x code maxLocals ret World_1 tables_1 room_1 Calls_1 rest_1 Pre_1
      (fun tb e a s o t => postC L tb e a s o t ∧ Framed s o t (fieldLocs frame_1_writes a s ++ arrayLocs frame_1_arrays a s ++ staticLocs frame_1_statics s) 600096 7301386) := by
  intro l hflags _ _ p e ha hc hk s m args below hf hfit hheap happ hpre
  obtain ⟨k, o, h1, h2, h3, rfl, hF⟩ := lw_comes l hflags p e ha hc hk s m args below hf hfit hheap happ hpre
  exact ⟨k, _, h1, h2, h3, hL args s _, lw_frame hF⟩
theorem i_vc : Claimed_1_1 ∧ Claimed_1_2 := ⟨lw_limb limb_1_1 (fun args s t => by simp [limb_1_1, Cond.after, Cond.holds, Cond.value]), lw_limb limb_1_2 (fun args s t => Cond.after_iff.mpr (by
  first | (rw [show limb_1_2 = Cond.eq .result (.int 1) from rfl, Cond.eq_ints (x := 1) (y := 1) rfl rfl]; simp; done) | (simp [limb_1_2, Cond.value, Term.eval]; done)))⟩
end
