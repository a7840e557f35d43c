section
-- ===== PART A: goes FIRST, ahead of the names: the tables' words, and 'selects' of the private methods out of them =====
/-- a private method of a class that the tables say can be made, by its rows of tables_1 -/
def lw_okq (q : MethodName × Nat) : Prop := (q.1.cls ≠ "java/lang/invoke/MethodHandle" ∧ q.1.cls ≠ "java/lang/invoke/VarHandle") ∧ Cond.instantiable q.1.cls q.2 ∈ tables_1 ∧ Cond.privateMethod q.1 ∈ tables_1 ∧ Cond.instanceMethod q.1 ∈ tables_1
set_option maxRecDepth 100000
theorem lw_t1 {w : Cond} (h : w ∈ tables_1_1) : w ∈ tables_1 := List.mem_append_left _ h
theorem lw_t2 {w : Cond} (h : w ∈ tables_1_2) : w ∈ tables_1 := List.mem_append_right _ h
theorem lw_p0 : lw_okq (⟨"ShacalDesk", "run", "(ZI)V"⟩, 3) := ⟨⟨by decide +kernel, by decide +kernel⟩, lw_t1 (List.mem_of_getElem? (i := 14) rfl), lw_t1 (List.mem_of_getElem? (i := 37) rfl), lw_t1 (List.mem_of_getElem? (i := 38) rfl)⟩
theorem lw_p1 : lw_okq (⟨"java/lang/Throwable", "fillInStackTrace", "(I)Ljava/lang/Throwable;"⟩, 6) := ⟨⟨by decide +kernel, by decide +kernel⟩, lw_t1 (List.mem_of_getElem? (i := 123) rfl), lw_t1 (List.mem_of_getElem? (i := 121) rfl), lw_t1 (List.mem_of_getElem? (i := 122) rfl)⟩
theorem lw_p2 : lw_okq (⟨"Shacal2Engine", "bytes2ints", "([B[III)V"⟩, 2) := ⟨⟨by decide +kernel, by decide +kernel⟩, lw_t1 (List.mem_of_getElem? (i := 41) rfl), lw_t1 (List.mem_of_getElem? (i := 161) rfl), lw_t1 (List.mem_of_getElem? (i := 162) rfl)⟩
theorem lw_p3 : lw_okq (⟨"Shacal2Engine", "encryptBlock", "([BI[BI)V"⟩, 2) := ⟨⟨by decide +kernel, by decide +kernel⟩, lw_t1 (List.mem_of_getElem? (i := 41) rfl), lw_t1 (List.mem_of_getElem? (i := 228) rfl), lw_t1 (List.mem_of_getElem? (i := 229) rfl)⟩
theorem lw_p4 : lw_okq (⟨"Shacal2Engine", "byteBlockToInts", "([B[III)V"⟩, 2) := ⟨⟨by decide +kernel, by decide +kernel⟩, lw_t1 (List.mem_of_getElem? (i := 41) rfl), lw_t1 (List.mem_of_getElem? (i := 232) rfl), lw_t1 (List.mem_of_getElem? (i := 233) rfl)⟩
theorem lw_p5 : lw_okq (⟨"Shacal2Engine", "ints2bytes", "([I[BI)V"⟩, 2) := ⟨⟨by decide +kernel, by decide +kernel⟩, lw_t1 (List.mem_of_getElem? (i := 41) rfl), lw_t1 (List.mem_of_getElem? (i := 238) rfl), lw_t1 (List.mem_of_getElem? (i := 239) rfl)⟩
theorem lw_p6 : lw_okq (⟨"Shacal2Engine", "decryptBlock", "([BI[BI)V"⟩, 2) := ⟨⟨by decide +kernel, by decide +kernel⟩, lw_t1 (List.mem_of_getElem? (i := 41) rfl), lw_t2 (List.mem_of_getElem? (i := 2) rfl), lw_t2 (List.mem_of_getElem? (i := 3) rfl)⟩
def lw_privs_1 : List (MethodName × Nat) := [(⟨"ShacalDesk", "run", "(ZI)V"⟩, 3), (⟨"java/lang/Throwable", "fillInStackTrace", "(I)Ljava/lang/Throwable;"⟩, 6), (⟨"Shacal2Engine", "bytes2ints", "([B[III)V"⟩, 2), (⟨"Shacal2Engine", "encryptBlock", "([BI[BI)V"⟩, 2), (⟨"Shacal2Engine", "byteBlockToInts", "([B[III)V"⟩, 2), (⟨"Shacal2Engine", "ints2bytes", "([I[BI)V"⟩, 2), (⟨"Shacal2Engine", "decryptBlock", "([BI[BI)V"⟩, 2)]
theorem lw_r1 : ∀ q ∈ lw_privs_1, lw_okq q := List.forall_mem_cons.mpr ⟨lw_p0, List.forall_mem_cons.mpr ⟨lw_p1, List.forall_mem_cons.mpr ⟨lw_p2, List.forall_mem_cons.mpr ⟨lw_p3, List.forall_mem_cons.mpr ⟨lw_p4, List.forall_mem_cons.mpr ⟨lw_p5, List.forall_mem_cons.mpr ⟨lw_p6, fun _ h => absurd h List.not_mem_nil⟩⟩⟩⟩⟩⟩⟩
def lw_privs : List (MethodName × Nat) := lw_privs_1
def lw_tbl : List Cond := k2_sels lw_privs ++ tables_1
theorem lw_privs_ok : ∀ q ∈ lw_privs, lw_okq q := lw_r1
-- ===== ONE list of words for every method: the tables' words that hold all through a run =====
def lw_all : List Cond := lw_tbl.filter goodWord
/-- a word of the tables by its place: claim/WORDS.tsv -/
theorem lw_w {w : Cond} (i : Nat) (h : lw_tbl[i]? = some w) (g : goodWord w = true) : w ∈ lw_all := List.mem_filter.mpr ⟨List.mem_of_getElem? h, g⟩
theorem lw_all_tbl {w : Cond} (h : w ∈ lw_all) : w ∈ lw_tbl := (List.mem_filter.mp h).1
theorem lw_self : GoodIn lw_all lw_all := fun w h => ⟨h, good_of_word (List.mem_filter.mp h).2⟩
/-- a class's field words, by their places -/
theorem lw_in (ws : List Cond) (ps : List Nat) (hp : ws = ps.filterMap (fun i => lw_tbl[i]?)) (hg : ws.all goodWord = true) : ∀ w ∈ ws, w ∈ lw_all := by
  intro w h
  have h1 := List.all_eq_true.mp hg w h
  rw [hp] at h
  obtain ⟨i, -, hi⟩ := List.mem_filterMap.mp h
  exact lw_w i hi h1
/-- the words of a contract for the method y with code b, L locals, answer r -/
abbrev ws_ (y : MethodName) (b : ByteArray) (L : Nat) (r : Option FieldType) : List Cond := Cond.code y b L r :: lw_all
theorem lw_meth {y : MethodName} {b : ByteArray} {L : Nat} {r : Option FieldType} (h : Cond.code y b L r ∈ lw_all) : GoodIn lw_all (ws_ y b L r) := by
  intro w hw
  rcases List.mem_cons.mp hw with e | e
  · rw [e]
    exact lw_self _ h
  · exact lw_self _ e
theorem lw_app {a c : List Cond} (ha : ∀ w ∈ a, w ∈ lw_all) (hc : GoodIn lw_all c) : GoodIn lw_all (a ++ c) := by
  intro w hw
  rcases List.mem_append.mp hw with e | e
  · exact lw_self w (ha w e)
  · exact hc w e
/-- what a call through an object asks: cwV n hts (lw_V ..) -/
theorem lw_V {own : String} {idx : Nat} {C : String} {y : MethodName} {b : ByteArray} {L : Nat} {r : Option FieldType} (h1 : Cond.methodLink own idx y ∈ lw_all) (h2 : Cond.instanceMethod y ∈ lw_all) (h3 : Cond.selects C y y ∈ lw_all) (h4 : Cond.initialized C ∈ lw_all) (h5 : Cond.code y b L r ∈ lw_all) : GoodIn lw_all (wsV own idx C y (ws_ y b L r)) := by
  refine lw_app ?_ (lw_meth h5)
  intro w hw
  simp only [List.mem_cons, List.not_mem_nil, or_false] at hw
  rcases hw with e | e | e | e
  · rw [e]; exact h1
  · rw [e]; exact h2
  · rw [e]; exact h3
  · rw [e]; exact h4
/-- what a static call asks: va_cwS n hts (lw_S ..) -/
theorem lw_S {own : String} {idx : Nat} {y : MethodName} {b : ByteArray} {L : Nat} {r : Option FieldType} (h1 : Cond.methodLink own idx y ∈ lw_all) (h2 : Cond.static y ∈ lw_all) (h3 : Cond.initialized y.cls ∈ lw_all) (h4 : Cond.code y b L r ∈ lw_all) : GoodIn lw_all (va_wsS own idx y (ws_ y b L r)) := by
  refine lw_app ?_ (lw_meth h4)
  intro w hw
  simp only [List.mem_cons, List.not_mem_nil, or_false] at hw
  rcases hw with e | e | e
  · rw [e]; exact h1
  · rw [e]; exact h2
  · rw [e]; exact h3
/-- the words of a contract for a method WITH HANDLERS (hh: its table) -/
abbrev wsW_ (y : MethodName) (b : ByteArray) (L : Nat) (r : Option FieldType) (hh : List (Nat × Nat × Nat × Nat)) : List Cond := Cond.codeWith y b L r hh :: lw_all
theorem lw_methW {y : MethodName} {b : ByteArray} {L : Nat} {r : Option FieldType} {hh : List (Nat × Nat × Nat × Nat)} (h : Cond.codeWith y b L r hh ∈ lw_all) : GoodIn lw_all (wsW_ y b L r hh) := by
  intro w hw
  rcases List.mem_cons.mp hw with e | e
  · rw [e]
    exact lw_self _ h
  · exact lw_self _ e
/-- any list of words by their places (lw_in), good -/
theorem lw_good {ws : List Cond} (h : ∀ w ∈ ws, w ∈ lw_all) : GoodIn lw_all ws := fun w hw => lw_self w (h w hw)
/-- what a call of a method with handlers asks: vx_cwVW n hts (lw_VW ..), vx_cwSW n hts (lw_SW ..) -/
theorem lw_VW {own : String} {idx : Nat} {C : String} {y : MethodName} {b : ByteArray} {L : Nat} {r : Option FieldType} {hh : List (Nat × Nat × Nat × Nat)} (h1 : Cond.methodLink own idx y ∈ lw_all) (h2 : Cond.instanceMethod y ∈ lw_all) (h3 : Cond.selects C y y ∈ lw_all) (h4 : Cond.initialized C ∈ lw_all) (h5 : Cond.codeWith y b L r hh ∈ lw_all) : GoodIn lw_all (wsV own idx C y (wsW_ y b L r hh)) := by
  refine lw_app ?_ (lw_methW h5)
  intro w hw
  simp only [List.mem_cons, List.not_mem_nil, or_false] at hw
  rcases hw with e | e | e | e
  · rw [e]; exact h1
  · rw [e]; exact h2
  · rw [e]; exact h3
  · rw [e]; exact h4
theorem lw_SW {own : String} {idx : Nat} {y : MethodName} {b : ByteArray} {L : Nat} {r : Option FieldType} {hh : List (Nat × Nat × Nat × Nat)} (h1 : Cond.methodLink own idx y ∈ lw_all) (h2 : Cond.static y ∈ lw_all) (h3 : Cond.initialized y.cls ∈ lw_all) (h4 : Cond.codeWith y b L r hh ∈ lw_all) : GoodIn lw_all (va_wsS own idx y (wsW_ y b L r hh)) := by
  refine lw_app ?_ (lw_methW h4)
  intro w hw
  simp only [List.mem_cons, List.not_mem_nil, or_false] at hw
  rcases hw with e | e | e
  · rw [e]; exact h1
  · rw [e]; exact h2
  · rw [e]; exact h3
/-- a word by its place in its run of the tables -/
theorem lw_at {r : List Cond} (hr : ∀ w ∈ r, w ∈ lw_tbl) {w : Cond} (i : Nat) (h : r[i]? = some w) : w ∈ lw_tbl := hr w (List.mem_of_getElem? h)
theorem lw_g {w : Cond} (h : w ∈ lw_tbl) (g : goodWord w = true) : w ∈ lw_all := List.mem_filter.mpr ⟨h, g⟩
theorem lw_ms : ∀ w ∈ k2_sels lw_privs, w ∈ lw_tbl := fun w h => show w ∈ k2_sels lw_privs ++ tables_1 from List.mem_append_left _ h
theorem lw_m1 : ∀ w ∈ tables_1_1, w ∈ lw_tbl := fun w h => show w ∈ k2_sels lw_privs ++ tables_1 from List.mem_append_right (k2_sels lw_privs) (show w ∈ tables_1 from List.mem_append_left _ h)
theorem lw_m2 : ∀ w ∈ tables_1_2, w ∈ lw_tbl := fun w h => show w ∈ k2_sels lw_privs ++ tables_1 from List.mem_append_right (k2_sels lw_privs) (show w ∈ tables_1 from List.mem_append_right _ h)
theorem qs0 : (Cond.selects "ShacalDesk" ⟨"ShacalDesk", "run", "(ZI)V"⟩ ⟨"ShacalDesk", "run", "(ZI)V"⟩) ∈ lw_all := lw_g (lw_at lw_ms 0 rfl) rfl
theorem qs1 : (Cond.selects "java/lang/Throwable" ⟨"java/lang/Throwable", "fillInStackTrace", "(I)Ljava/lang/Throwable;"⟩ ⟨"java/lang/Throwable", "fillInStackTrace", "(I)Ljava/lang/Throwable;"⟩) ∈ lw_all := lw_g (lw_at lw_ms 1 rfl) rfl
theorem qs2 : (Cond.selects "Shacal2Engine" ⟨"Shacal2Engine", "bytes2ints", "([B[III)V"⟩ ⟨"Shacal2Engine", "bytes2ints", "([B[III)V"⟩) ∈ lw_all := lw_g (lw_at lw_ms 2 rfl) rfl
theorem qs3 : (Cond.selects "Shacal2Engine" ⟨"Shacal2Engine", "encryptBlock", "([BI[BI)V"⟩ ⟨"Shacal2Engine", "encryptBlock", "([BI[BI)V"⟩) ∈ lw_all := lw_g (lw_at lw_ms 3 rfl) rfl
theorem qs4 : (Cond.selects "Shacal2Engine" ⟨"Shacal2Engine", "byteBlockToInts", "([B[III)V"⟩ ⟨"Shacal2Engine", "byteBlockToInts", "([B[III)V"⟩) ∈ lw_all := lw_g (lw_at lw_ms 4 rfl) rfl
theorem qs5 : (Cond.selects "Shacal2Engine" ⟨"Shacal2Engine", "ints2bytes", "([I[BI)V"⟩ ⟨"Shacal2Engine", "ints2bytes", "([I[BI)V"⟩) ∈ lw_all := lw_g (lw_at lw_ms 5 rfl) rfl
theorem qs6 : (Cond.selects "Shacal2Engine" ⟨"Shacal2Engine", "decryptBlock", "([BI[BI)V"⟩ ⟨"Shacal2Engine", "decryptBlock", "([BI[BI)V"⟩) ∈ lw_all := lw_g (lw_at lw_ms 6 rfl) rfl
-- ===== end of PART A; then your names; then what follows =====
end
section
/-! DECODE ROWS BY BYTES: one lemma an opcode; a method's code is cut into short pieces once, and a row reads its own piece alone. -/
set_option maxRecDepth 100000
/-- the code has just these bytes from pc on -/
def DkAt (code : ByteArray) (pc : Nat) (bs : List UInt8) : Prop := ∀ (j : Nat) (b : UInt8), bs[j]? = some b → code.data.toList[pc + j]? = some b
/-- the piece W has the bytes bs from its place j on -/
def dkIn (W : List UInt8) (j : Nat) (bs : List UInt8) : Bool := decide ((W.drop j).take bs.length = bs)
theorem dk_seg {l W T : List UInt8} {o o2 : Nat} (h : l.drop o = W ++ T) (n : Nat) (hn : W.length = n) (ho : o + n = o2) : l.drop o2 = T := by
  subst ho
  rw [← List.drop_drop, h, List.drop_left' hn]
theorem dk_at {code : ByteArray} {W T bs : List UInt8} {o pc : Nat} (h : code.data.toList.drop o = W ++ T) (j : Nat) (hp : o + j = pc) (hw : dkIn W j bs = true) : DkAt code pc bs := by
  subst hp
  intro i b e
  have h1 := of_decide_eq_true hw
  have h2 : i < bs.length := (List.getElem?_eq_some_iff.mp e).1
  have h3 : W[j + i]? = some b := by
    rw [← h1, List.getElem?_take, if_pos h2, List.getElem?_drop] at e
    exact e
  have h4 : j + i < W.length := (List.getElem?_eq_some_iff.mp h3).1
  have h5 : (code.data.toList.drop o)[j + i]? = some b := by
    rw [h, List.getElem?_append_left h4]
    exact h3
  rw [List.getElem?_drop, ← Nat.add_assoc] at h5
  exact h5
theorem dk_u1 {A : ByteArray} {p : Nat} {b : UInt8} (h : A.data.toList[p]? = some b) : (Reader.u1 : Reader DecodeError Nat) A p = .ok (b.toNat, p + 1) := by
  obtain ⟨h1, h2⟩ := List.getElem?_eq_some_iff.mp h
  have h3 : p < A.size := by simpa using h1
  have h4 : A[p]'h3 = b := h2
  have e : (Reader.u1 : Reader DecodeError Nat) A p = (if h : p < A.size then .ok (A[p].toNat, p + 1) else .error (HasTruncated.truncated p)) := by
    show (do if h : p < A.size then do set (p + 1); Pure.pure A[p].toNat else MonadExcept.throw (HasTruncated.truncated p) : Reader DecodeError Nat) A p = _
    by_cases hi : p < A.size
    · rw [dif_pos hi, dif_pos hi]; rfl
    · rw [dif_neg hi, dif_neg hi]; rfl
  rw [e, dif_pos h3, h4]
theorem dk_bind {α β : Type} {r : Reader DecodeError α} {f : α → Reader DecodeError β} {A : ByteArray} {p s : Nat} {a : α} (h : r A p = .ok (a, s)) : (r >>= f) A p = f a A s := by
  show (do let (a, s) ← r A p; f a A s : Except DecodeError (β × Nat)) = _
  rw [h]
  rfl
theorem dk_map {α β : Type} {r : Reader DecodeError α} {g : α → β} {A : ByteArray} {p s : Nat} {a : α} (h : r A p = .ok (a, s)) : (g <$> r) A p = .ok (g a, s) := by
  show (do let (a, s) ← r A p; .ok (g a, s) : Except DecodeError (β × Nat)) = _
  rw [h]
  rfl
theorem dk_u2 {A : ByteArray} {p : Nat} {a b : UInt8} (h : A.data.toList[p]? = some a) (h2 : A.data.toList[p + 1]? = some b) : (Reader.u2 : Reader DecodeError Nat) A p = .ok (a.toNat * 256 + b.toNat, p + 2) := by
  show (Reader.u1 >>= fun hi => Reader.u1 >>= fun lo => Pure.pure (hi * 256 + lo) : Reader DecodeError Nat) A p = _
  rw [dk_bind (dk_u1 h), dk_bind (dk_u1 h2)]
  rfl
theorem dk_of {code : ByteArray} {pc n : Nat} {i : Instr} (h : Decoder.instr pc code pc = .ok (i, pc + n)) : decode code pc = .ok (i, n) := by
  have e : decode code pc = (match Decoder.instr pc code pc with | .error x => .error x | .ok (j, s) => .ok (j, s - pc)) := by
    show (do let (j, s) ← Decoder.instr pc code pc; Pure.pure (j, s - pc) : Except DecodeError (Instr × Nat)) = _
    cases Decoder.instr pc code pc <;> rfl
  rw [e, h]
  show Except.ok (i, pc + n - pc) = _
  rw [Nat.add_sub_cancel_left]
theorem dk_1 {code : ByteArray} {pc : Nat} (h : DkAt code pc [1]) : decode code pc = .ok (.aconst_null, 1) := dk_of ((dk_bind (dk_u1 (h 0 _ rfl))).trans rfl)
theorem dk_2 {code : ByteArray} {pc : Nat} (h : DkAt code pc [2]) : decode code pc = .ok (.iconst (-1), 1) := dk_of ((dk_bind (dk_u1 (h 0 _ rfl))).trans rfl)
theorem dk_3 {code : ByteArray} {pc : Nat} (h : DkAt code pc [3]) : decode code pc = .ok (.iconst 0, 1) := dk_of ((dk_bind (dk_u1 (h 0 _ rfl))).trans rfl)
theorem dk_4 {code : ByteArray} {pc : Nat} (h : DkAt code pc [4]) : decode code pc = .ok (.iconst 1, 1) := dk_of ((dk_bind (dk_u1 (h 0 _ rfl))).trans rfl)
theorem dk_5 {code : ByteArray} {pc : Nat} (h : DkAt code pc [5]) : decode code pc = .ok (.iconst 2, 1) := dk_of ((dk_bind (dk_u1 (h 0 _ rfl))).trans rfl)
theorem dk_6 {code : ByteArray} {pc : Nat} (h : DkAt code pc [6]) : decode code pc = .ok (.iconst 3, 1) := dk_of ((dk_bind (dk_u1 (h 0 _ rfl))).trans rfl)
theorem dk_7 {code : ByteArray} {pc : Nat} (h : DkAt code pc [7]) : decode code pc = .ok (.iconst 4, 1) := dk_of ((dk_bind (dk_u1 (h 0 _ rfl))).trans rfl)
theorem dk_8 {code : ByteArray} {pc : Nat} (h : DkAt code pc [8]) : decode code pc = .ok (.iconst 5, 1) := dk_of ((dk_bind (dk_u1 (h 0 _ rfl))).trans rfl)
theorem dk_16 {code : ByteArray} {pc : Nat} (a : UInt8) (h : DkAt code pc [16, a]) : decode code pc = .ok (.bipush (Reader.signed 8 a.toNat), 2) := dk_of ((dk_bind (dk_u1 (h 0 _ rfl))).trans ((dk_bind (dk_map (dk_u1 (h 1 _ rfl)))).trans rfl))
theorem dk_17 {code : ByteArray} {pc : Nat} (a b : UInt8) (h : DkAt code pc [17, a, b]) : decode code pc = .ok (.sipush (Reader.signed 16 (a.toNat * 256 + b.toNat)), 3) := dk_of ((dk_bind (dk_u1 (h 0 _ rfl))).trans ((dk_bind (dk_map (dk_u2 (h 1 _ rfl) (h 2 _ rfl)))).trans rfl))
theorem dk_18 {code : ByteArray} {pc : Nat} (a : UInt8) (h : DkAt code pc [18, a]) : decode code pc = .ok (.ldc a.toNat, 2) := dk_of ((dk_bind (dk_u1 (h 0 _ rfl))).trans ((dk_bind (dk_u1 (h 1 _ rfl))).trans rfl))
theorem dk_21 {code : ByteArray} {pc : Nat} (a : UInt8) (h : DkAt code pc [21, a]) : decode code pc = .ok (.iload a.toNat, 2) := dk_of ((dk_bind (dk_u1 (h 0 _ rfl))).trans ((dk_bind (dk_u1 (h 1 _ rfl))).trans rfl))
theorem dk_25 {code : ByteArray} {pc : Nat} (a : UInt8) (h : DkAt code pc [25, a]) : decode code pc = .ok (.aload a.toNat, 2) := dk_of ((dk_bind (dk_u1 (h 0 _ rfl))).trans ((dk_bind (dk_u1 (h 1 _ rfl))).trans rfl))
theorem dk_26 {code : ByteArray} {pc : Nat} (h : DkAt code pc [26]) : decode code pc = .ok (.iload_n 0, 1) := dk_of ((dk_bind (dk_u1 (h 0 _ rfl))).trans rfl)
theorem dk_27 {code : ByteArray} {pc : Nat} (h : DkAt code pc [27]) : decode code pc = .ok (.iload_n 1, 1) := dk_of ((dk_bind (dk_u1 (h 0 _ rfl))).trans rfl)
theorem dk_28 {code : ByteArray} {pc : Nat} (h : DkAt code pc [28]) : decode code pc = .ok (.iload_n 2, 1) := dk_of ((dk_bind (dk_u1 (h 0 _ rfl))).trans rfl)
theorem dk_29 {code : ByteArray} {pc : Nat} (h : DkAt code pc [29]) : decode code pc = .ok (.iload_n 3, 1) := dk_of ((dk_bind (dk_u1 (h 0 _ rfl))).trans rfl)
theorem dk_42 {code : ByteArray} {pc : Nat} (h : DkAt code pc [42]) : decode code pc = .ok (.aload_n 0, 1) := dk_of ((dk_bind (dk_u1 (h 0 _ rfl))).trans rfl)
theorem dk_43 {code : ByteArray} {pc : Nat} (h : DkAt code pc [43]) : decode code pc = .ok (.aload_n 1, 1) := dk_of ((dk_bind (dk_u1 (h 0 _ rfl))).trans rfl)
theorem dk_44 {code : ByteArray} {pc : Nat} (h : DkAt code pc [44]) : decode code pc = .ok (.aload_n 2, 1) := dk_of ((dk_bind (dk_u1 (h 0 _ rfl))).trans rfl)
theorem dk_45 {code : ByteArray} {pc : Nat} (h : DkAt code pc [45]) : decode code pc = .ok (.aload_n 3, 1) := dk_of ((dk_bind (dk_u1 (h 0 _ rfl))).trans rfl)
theorem dk_46 {code : ByteArray} {pc : Nat} (h : DkAt code pc [46]) : decode code pc = .ok (.iaload, 1) := dk_of ((dk_bind (dk_u1 (h 0 _ rfl))).trans rfl)
theorem dk_51 {code : ByteArray} {pc : Nat} (h : DkAt code pc [51]) : decode code pc = .ok (.baload, 1) := dk_of ((dk_bind (dk_u1 (h 0 _ rfl))).trans rfl)
theorem dk_54 {code : ByteArray} {pc : Nat} (a : UInt8) (h : DkAt code pc [54, a]) : decode code pc = .ok (.istore a.toNat, 2) := dk_of ((dk_bind (dk_u1 (h 0 _ rfl))).trans ((dk_bind (dk_u1 (h 1 _ rfl))).trans rfl))
theorem dk_58 {code : ByteArray} {pc : Nat} (a : UInt8) (h : DkAt code pc [58, a]) : decode code pc = .ok (.astore a.toNat, 2) := dk_of ((dk_bind (dk_u1 (h 0 _ rfl))).trans ((dk_bind (dk_u1 (h 1 _ rfl))).trans rfl))
theorem dk_60 {code : ByteArray} {pc : Nat} (h : DkAt code pc [60]) : decode code pc = .ok (.istore_n 1, 1) := dk_of ((dk_bind (dk_u1 (h 0 _ rfl))).trans rfl)
theorem dk_61 {code : ByteArray} {pc : Nat} (h : DkAt code pc [61]) : decode code pc = .ok (.istore_n 2, 1) := dk_of ((dk_bind (dk_u1 (h 0 _ rfl))).trans rfl)
theorem dk_62 {code : ByteArray} {pc : Nat} (h : DkAt code pc [62]) : decode code pc = .ok (.istore_n 3, 1) := dk_of ((dk_bind (dk_u1 (h 0 _ rfl))).trans rfl)
theorem dk_76 {code : ByteArray} {pc : Nat} (h : DkAt code pc [76]) : decode code pc = .ok (.astore_n 1, 1) := dk_of ((dk_bind (dk_u1 (h 0 _ rfl))).trans rfl)
theorem dk_77 {code : ByteArray} {pc : Nat} (h : DkAt code pc [77]) : decode code pc = .ok (.astore_n 2, 1) := dk_of ((dk_bind (dk_u1 (h 0 _ rfl))).trans rfl)
theorem dk_78 {code : ByteArray} {pc : Nat} (h : DkAt code pc [78]) : decode code pc = .ok (.astore_n 3, 1) := dk_of ((dk_bind (dk_u1 (h 0 _ rfl))).trans rfl)
theorem dk_79 {code : ByteArray} {pc : Nat} (h : DkAt code pc [79]) : decode code pc = .ok (.iastore, 1) := dk_of ((dk_bind (dk_u1 (h 0 _ rfl))).trans rfl)
theorem dk_84 {code : ByteArray} {pc : Nat} (h : DkAt code pc [84]) : decode code pc = .ok (.bastore, 1) := dk_of ((dk_bind (dk_u1 (h 0 _ rfl))).trans rfl)
theorem dk_87 {code : ByteArray} {pc : Nat} (h : DkAt code pc [87]) : decode code pc = .ok (.pop, 1) := dk_of ((dk_bind (dk_u1 (h 0 _ rfl))).trans rfl)
theorem dk_89 {code : ByteArray} {pc : Nat} (h : DkAt code pc [89]) : decode code pc = .ok (.dup, 1) := dk_of ((dk_bind (dk_u1 (h 0 _ rfl))).trans rfl)
theorem dk_92 {code : ByteArray} {pc : Nat} (h : DkAt code pc [92]) : decode code pc = .ok (.dup2, 1) := dk_of ((dk_bind (dk_u1 (h 0 _ rfl))).trans rfl)
theorem dk_96 {code : ByteArray} {pc : Nat} (h : DkAt code pc [96]) : decode code pc = .ok (.iadd, 1) := dk_of ((dk_bind (dk_u1 (h 0 _ rfl))).trans rfl)
theorem dk_100 {code : ByteArray} {pc : Nat} (h : DkAt code pc [100]) : decode code pc = .ok (.isub, 1) := dk_of ((dk_bind (dk_u1 (h 0 _ rfl))).trans rfl)
theorem dk_104 {code : ByteArray} {pc : Nat} (h : DkAt code pc [104]) : decode code pc = .ok (.imul, 1) := dk_of ((dk_bind (dk_u1 (h 0 _ rfl))).trans rfl)
theorem dk_108 {code : ByteArray} {pc : Nat} (h : DkAt code pc [108]) : decode code pc = .ok (.idiv, 1) := dk_of ((dk_bind (dk_u1 (h 0 _ rfl))).trans rfl)
theorem dk_112 {code : ByteArray} {pc : Nat} (h : DkAt code pc [112]) : decode code pc = .ok (.irem, 1) := dk_of ((dk_bind (dk_u1 (h 0 _ rfl))).trans rfl)
theorem dk_120 {code : ByteArray} {pc : Nat} (h : DkAt code pc [120]) : decode code pc = .ok (.ishl, 1) := dk_of ((dk_bind (dk_u1 (h 0 _ rfl))).trans rfl)
theorem dk_122 {code : ByteArray} {pc : Nat} (h : DkAt code pc [122]) : decode code pc = .ok (.ishr, 1) := dk_of ((dk_bind (dk_u1 (h 0 _ rfl))).trans rfl)
theorem dk_124 {code : ByteArray} {pc : Nat} (h : DkAt code pc [124]) : decode code pc = .ok (.iushr, 1) := dk_of ((dk_bind (dk_u1 (h 0 _ rfl))).trans rfl)
theorem dk_126 {code : ByteArray} {pc : Nat} (h : DkAt code pc [126]) : decode code pc = .ok (.iand, 1) := dk_of ((dk_bind (dk_u1 (h 0 _ rfl))).trans rfl)
theorem dk_128 {code : ByteArray} {pc : Nat} (h : DkAt code pc [128]) : decode code pc = .ok (.ior, 1) := dk_of ((dk_bind (dk_u1 (h 0 _ rfl))).trans rfl)
theorem dk_130 {code : ByteArray} {pc : Nat} (h : DkAt code pc [130]) : decode code pc = .ok (.ixor, 1) := dk_of ((dk_bind (dk_u1 (h 0 _ rfl))).trans rfl)
theorem dk_132 {code : ByteArray} {pc : Nat} (a b : UInt8) (h : DkAt code pc [132, a, b]) : decode code pc = .ok (.iinc a.toNat (Reader.signed 8 b.toNat), 3) := dk_of ((dk_bind (dk_u1 (h 0 _ rfl))).trans ((dk_bind (dk_u1 (h 1 _ rfl))).trans ((dk_bind (dk_map (dk_u1 (h 2 _ rfl)))).trans rfl)))
theorem dk_145 {code : ByteArray} {pc : Nat} (h : DkAt code pc [145]) : decode code pc = .ok (.i2b, 1) := dk_of ((dk_bind (dk_u1 (h 0 _ rfl))).trans rfl)
theorem dk_153 {code : ByteArray} {pc : Nat} (a b : UInt8) (h : DkAt code pc [153, a, b]) : decode code pc = .ok (.ifCond .eq (Reader.signed 16 (a.toNat * 256 + b.toNat)), 3) := dk_of ((dk_bind (dk_u1 (h 0 _ rfl))).trans ((dk_bind (dk_map (dk_u2 (h 1 _ rfl) (h 2 _ rfl)))).trans rfl))
theorem dk_154 {code : ByteArray} {pc : Nat} (a b : UInt8) (h : DkAt code pc [154, a, b]) : decode code pc = .ok (.ifCond .ne (Reader.signed 16 (a.toNat * 256 + b.toNat)), 3) := dk_of ((dk_bind (dk_u1 (h 0 _ rfl))).trans ((dk_bind (dk_map (dk_u2 (h 1 _ rfl) (h 2 _ rfl)))).trans rfl))
theorem dk_155 {code : ByteArray} {pc : Nat} (a b : UInt8) (h : DkAt code pc [155, a, b]) : decode code pc = .ok (.ifCond .lt (Reader.signed 16 (a.toNat * 256 + b.toNat)), 3) := dk_of ((dk_bind (dk_u1 (h 0 _ rfl))).trans ((dk_bind (dk_map (dk_u2 (h 1 _ rfl) (h 2 _ rfl)))).trans rfl))
theorem dk_158 {code : ByteArray} {pc : Nat} (a b : UInt8) (h : DkAt code pc [158, a, b]) : decode code pc = .ok (.ifCond .le (Reader.signed 16 (a.toNat * 256 + b.toNat)), 3) := dk_of ((dk_bind (dk_u1 (h 0 _ rfl))).trans ((dk_bind (dk_map (dk_u2 (h 1 _ rfl) (h 2 _ rfl)))).trans rfl))
theorem dk_159 {code : ByteArray} {pc : Nat} (a b : UInt8) (h : DkAt code pc [159, a, b]) : decode code pc = .ok (.if_icmp .eq (Reader.signed 16 (a.toNat * 256 + b.toNat)), 3) := dk_of ((dk_bind (dk_u1 (h 0 _ rfl))).trans ((dk_bind (dk_map (dk_u2 (h 1 _ rfl) (h 2 _ rfl)))).trans rfl))
theorem dk_160 {code : ByteArray} {pc : Nat} (a b : UInt8) (h : DkAt code pc [160, a, b]) : decode code pc = .ok (.if_icmp .ne (Reader.signed 16 (a.toNat * 256 + b.toNat)), 3) := dk_of ((dk_bind (dk_u1 (h 0 _ rfl))).trans ((dk_bind (dk_map (dk_u2 (h 1 _ rfl) (h 2 _ rfl)))).trans rfl))
theorem dk_161 {code : ByteArray} {pc : Nat} (a b : UInt8) (h : DkAt code pc [161, a, b]) : decode code pc = .ok (.if_icmp .lt (Reader.signed 16 (a.toNat * 256 + b.toNat)), 3) := dk_of ((dk_bind (dk_u1 (h 0 _ rfl))).trans ((dk_bind (dk_map (dk_u2 (h 1 _ rfl) (h 2 _ rfl)))).trans rfl))
theorem dk_162 {code : ByteArray} {pc : Nat} (a b : UInt8) (h : DkAt code pc [162, a, b]) : decode code pc = .ok (.if_icmp .ge (Reader.signed 16 (a.toNat * 256 + b.toNat)), 3) := dk_of ((dk_bind (dk_u1 (h 0 _ rfl))).trans ((dk_bind (dk_map (dk_u2 (h 1 _ rfl) (h 2 _ rfl)))).trans rfl))
theorem dk_163 {code : ByteArray} {pc : Nat} (a b : UInt8) (h : DkAt code pc [163, a, b]) : decode code pc = .ok (.if_icmp .gt (Reader.signed 16 (a.toNat * 256 + b.toNat)), 3) := dk_of ((dk_bind (dk_u1 (h 0 _ rfl))).trans ((dk_bind (dk_map (dk_u2 (h 1 _ rfl) (h 2 _ rfl)))).trans rfl))
theorem dk_164 {code : ByteArray} {pc : Nat} (a b : UInt8) (h : DkAt code pc [164, a, b]) : decode code pc = .ok (.if_icmp .le (Reader.signed 16 (a.toNat * 256 + b.toNat)), 3) := dk_of ((dk_bind (dk_u1 (h 0 _ rfl))).trans ((dk_bind (dk_map (dk_u2 (h 1 _ rfl) (h 2 _ rfl)))).trans rfl))
theorem dk_167 {code : ByteArray} {pc : Nat} (a b : UInt8) (h : DkAt code pc [167, a, b]) : decode code pc = .ok (.goto (Reader.signed 16 (a.toNat * 256 + b.toNat)), 3) := dk_of ((dk_bind (dk_u1 (h 0 _ rfl))).trans ((dk_bind (dk_map (dk_u2 (h 1 _ rfl) (h 2 _ rfl)))).trans rfl))
theorem dk_172 {code : ByteArray} {pc : Nat} (h : DkAt code pc [172]) : decode code pc = .ok (.ireturn, 1) := dk_of ((dk_bind (dk_u1 (h 0 _ rfl))).trans rfl)
theorem dk_176 {code : ByteArray} {pc : Nat} (h : DkAt code pc [176]) : decode code pc = .ok (.areturn, 1) := dk_of ((dk_bind (dk_u1 (h 0 _ rfl))).trans rfl)
theorem dk_177 {code : ByteArray} {pc : Nat} (h : DkAt code pc [177]) : decode code pc = .ok (.return_, 1) := dk_of ((dk_bind (dk_u1 (h 0 _ rfl))).trans rfl)
theorem dk_178 {code : ByteArray} {pc : Nat} (a b : UInt8) (h : DkAt code pc [178, a, b]) : decode code pc = .ok (.getstatic (a.toNat * 256 + b.toNat), 3) := dk_of ((dk_bind (dk_u1 (h 0 _ rfl))).trans ((dk_bind (dk_u2 (h 1 _ rfl) (h 2 _ rfl))).trans rfl))
theorem dk_180 {code : ByteArray} {pc : Nat} (a b : UInt8) (h : DkAt code pc [180, a, b]) : decode code pc = .ok (.getfield (a.toNat * 256 + b.toNat), 3) := dk_of ((dk_bind (dk_u1 (h 0 _ rfl))).trans ((dk_bind (dk_u2 (h 1 _ rfl) (h 2 _ rfl))).trans rfl))
theorem dk_181 {code : ByteArray} {pc : Nat} (a b : UInt8) (h : DkAt code pc [181, a, b]) : decode code pc = .ok (.putfield (a.toNat * 256 + b.toNat), 3) := dk_of ((dk_bind (dk_u1 (h 0 _ rfl))).trans ((dk_bind (dk_u2 (h 1 _ rfl) (h 2 _ rfl))).trans rfl))
theorem dk_182 {code : ByteArray} {pc : Nat} (a b : UInt8) (h : DkAt code pc [182, a, b]) : decode code pc = .ok (.invokevirtual (a.toNat * 256 + b.toNat), 3) := dk_of ((dk_bind (dk_u1 (h 0 _ rfl))).trans ((dk_bind (dk_u2 (h 1 _ rfl) (h 2 _ rfl))).trans rfl))
theorem dk_183 {code : ByteArray} {pc : Nat} (a b : UInt8) (h : DkAt code pc [183, a, b]) : decode code pc = .ok (.invokespecial (a.toNat * 256 + b.toNat), 3) := dk_of ((dk_bind (dk_u1 (h 0 _ rfl))).trans ((dk_bind (dk_u2 (h 1 _ rfl) (h 2 _ rfl))).trans rfl))
theorem dk_184 {code : ByteArray} {pc : Nat} (a b : UInt8) (h : DkAt code pc [184, a, b]) : decode code pc = .ok (.invokestatic (a.toNat * 256 + b.toNat), 3) := dk_of ((dk_bind (dk_u1 (h 0 _ rfl))).trans ((dk_bind (dk_u2 (h 1 _ rfl) (h 2 _ rfl))).trans rfl))
theorem dk_187 {code : ByteArray} {pc : Nat} (a b : UInt8) (h : DkAt code pc [187, a, b]) : decode code pc = .ok (.new (a.toNat * 256 + b.toNat), 3) := dk_of ((dk_bind (dk_u1 (h 0 _ rfl))).trans ((dk_bind (dk_u2 (h 1 _ rfl) (h 2 _ rfl))).trans rfl))
theorem dk_188_8 {code : ByteArray} {pc : Nat} (h : DkAt code pc [188, 8]) : decode code pc = .ok (.newarray .byte, 2) := dk_of ((dk_bind (dk_u1 (h 0 _ rfl))).trans ((dk_bind (dk_u1 (h 1 _ rfl))).trans rfl))
theorem dk_188_10 {code : ByteArray} {pc : Nat} (h : DkAt code pc [188, 10]) : decode code pc = .ok (.newarray .int, 2) := dk_of ((dk_bind (dk_u1 (h 0 _ rfl))).trans ((dk_bind (dk_u1 (h 1 _ rfl))).trans rfl))
theorem dk_190 {code : ByteArray} {pc : Nat} (h : DkAt code pc [190]) : decode code pc = .ok (.arraylength, 1) := dk_of ((dk_bind (dk_u1 (h 0 _ rfl))).trans rfl)
theorem dk_191 {code : ByteArray} {pc : Nat} (h : DkAt code pc [191]) : decode code pc = .ok (.athrow, 1) := dk_of ((dk_bind (dk_u1 (h 0 _ rfl))).trans rfl)
theorem dk_192 {code : ByteArray} {pc : Nat} (a b : UInt8) (h : DkAt code pc [192, a, b]) : decode code pc = .ok (.checkcast (a.toNat * 256 + b.toNat), 3) := dk_of ((dk_bind (dk_u1 (h 0 _ rfl))).trans ((dk_bind (dk_u2 (h 1 _ rfl) (h 2 _ rfl))).trans rfl))
theorem dk_193 {code : ByteArray} {pc : Nat} (a b : UInt8) (h : DkAt code pc [193, a, b]) : decode code pc = .ok (.instanceof (a.toNat * 256 + b.toNat), 3) := dk_of ((dk_bind (dk_u1 (h 0 _ rfl))).trans ((dk_bind (dk_u2 (h 1 _ rfl) (h 2 _ rfl))).trans rfl))
theorem dk_199 {code : ByteArray} {pc : Nat} (a b : UInt8) (h : DkAt code pc [199, a, b]) : decode code pc = .ok (.ifnonnull (Reader.signed 16 (a.toNat * 256 + b.toNat)), 3) := dk_of ((dk_bind (dk_u1 (h 0 _ rfl))).trans ((dk_bind (dk_map (dk_u2 (h 1 _ rfl) (h 2 _ rfl)))).trans rfl))
theorem q38 : (Jvm.Cond.arrayClass Jvm.ClassFile.FieldType.byte) ∈ lw_all := lw_g (lw_at lw_m1 31 rfl) rfl
set_option maxRecDepth 100000
theorem q196 : (Jvm.Cond.arrayClass Jvm.ClassFile.FieldType.int) ∈ lw_all := lw_g (lw_at lw_m1 189 rfl) rfl
theorem q11 : (Jvm.Cond.initialized "java/lang/System") ∈ lw_all := lw_g (lw_at lw_m1 4 rfl) rfl
set_option maxRecDepth 100000
theorem q77 : (Jvm.Cond.static ({ cls := "java/lang/System", name := "arraycopy", desc := "(Ljava/lang/Object;ILjava/lang/Object;II)V" } : Jvm.MethodName)) ∈ lw_all := lw_g (lw_at lw_m1 70 rfl) rfl
theorem q78 : (Jvm.Cond.native ({ cls := "java/lang/System", name := "arraycopy", desc := "(Ljava/lang/Object;ILjava/lang/Object;II)V" } : Jvm.MethodName)) ∈ lw_all := lw_g (lw_at lw_m1 71 rfl) rfl
theorem q81 : (Jvm.Cond.interfaceMethod "BlockCipher" "BlockCipher" "init" "(ZLCipherParameters;)V") ∈ lw_tbl := lw_at lw_m1 74 rfl
set_option maxRecDepth 100000
theorem q82 : (Jvm.Cond.declares ({ cls := "BlockCipher", name := "init", desc := "(ZLCipherParameters;)V" } : Jvm.MethodName)) ∈ lw_tbl := lw_at lw_m1 75 rfl
theorem q173 : (Jvm.Cond.interfaceMethod "BlockCipher" "BlockCipher" "processBlock" "([BI[BI)I") ∈ lw_tbl := lw_at lw_m1 166 rfl
theorem q174 : (Jvm.Cond.declares ({ cls := "BlockCipher", name := "processBlock", desc := "([BI[BI)I" } : Jvm.MethodName)) ∈ lw_tbl := lw_at lw_m1 167 rfl
/-! java/lang/Object -/
set_option maxRecDepth 100000
def RJ5 : String := "java/lang/Object"
abbrev cJ5_init : ByteArray := object_method_1_code
def yJ5_init : MethodName := ⟨RJ5, "<init>", "()V"⟩
theorem dJ5_init_0 : decode cJ5_init 0 = .ok (.return_, 1) := by decide +kernel
theorem q26 : (Jvm.Cond.instanceMethod ({ cls := "java/lang/Object", name := "<init>", desc := "()V" } : Jvm.MethodName)) ∈ lw_all := lw_g (lw_at lw_m1 19 rfl) rfl
theorem q27 : (Jvm.Cond.code ({ cls := "java/lang/Object", name := "<init>", desc := "()V" } : Jvm.MethodName) object_method_1_code (1 : Nat) (Option.none : Option Jvm.ClassFile.FieldType)) ∈ lw_all := lw_g (lw_at lw_m1 20 rfl) rfl
/-! KeyParameter -/
set_option maxRecDepth 100000
def RX3 : String := "KeyParameter"
def TX3 : u_T := fun k => match k with
  | _ => ("KeyParameter", "key", "[B", false)
def tyX3 : Nat → FieldType := fun k => match k with
  | _ => .array .byte
abbrev wsX30 : List Cond := u_ws RX3 TX3 1
theorem nmX3 : ∀ a, a < 1 → ∀ b, b < 1 → a ≠ b → (TX3 a).2.1 ≠ (TX3 b).2.1 := by decide +kernel
theorem tyX3_ok : ∀ k, k < 1 → parseFieldDescriptor (TX3 k).2.2.1 = some (tyX3 k) := by decide +kernel
abbrev cX3_init : ByteArray := prog_4_method_1_code
def yX3_init : MethodName := ⟨RX3, "<init>", "([B)V"⟩
def dkwX3_init_0 : List UInt8 := [42, 43, 3, 43, 190, 183, 0, 1, 177]
abbrev dktX3_init_0 : List UInt8 := dkwX3_init_0 ++ []
theorem dksX3_init_0 : cX3_init.data.toList.drop 0 = dktX3_init_0 := by decide +kernel
theorem dX3_init_0 : decode cX3_init 0 = .ok (.aload_n 0, 1) := dk_42 (dk_at dksX3_init_0 0 rfl rfl)
theorem dX3_init_1 : decode cX3_init 1 = .ok (.aload_n 1, 1) := dk_43 (dk_at dksX3_init_0 1 rfl rfl)
theorem dX3_init_2 : decode cX3_init 2 = .ok (.iconst 0, 1) := dk_3 (dk_at dksX3_init_0 2 rfl rfl)
theorem dX3_init_3 : decode cX3_init 3 = .ok (.aload_n 1, 1) := dk_43 (dk_at dksX3_init_0 3 rfl rfl)
theorem dX3_init_4 : decode cX3_init 4 = .ok (.arraylength, 1) := dk_190 (dk_at dksX3_init_0 4 rfl rfl)
theorem dX3_init_5 : decode cX3_init 5 = .ok (.invokespecial 1, 3) := dk_183 0 1 (dk_at dksX3_init_0 5 rfl rfl)
theorem dX3_init_8 : decode cX3_init 8 = .ok (.return_, 1) := dk_177 (dk_at dksX3_init_0 8 rfl rfl)
abbrev cX3_init_2 : ByteArray := prog_4_method_2_code
def yX3_init_2 : MethodName := ⟨RX3, "<init>", "([BII)V"⟩
def dkwX3_init_2_0 : List UInt8 := [42, 29, 183, 0, 7, 43, 28, 42, 180, 0, 10, 3, 29, 184, 0, 14, 177]
abbrev dktX3_init_2_0 : List UInt8 := dkwX3_init_2_0 ++ []
theorem dksX3_init_2_0 : cX3_init_2.data.toList.drop 0 = dktX3_init_2_0 := by decide +kernel
theorem dX3_init_2_0 : decode cX3_init_2 0 = .ok (.aload_n 0, 1) := dk_42 (dk_at dksX3_init_2_0 0 rfl rfl)
theorem dX3_init_2_1 : decode cX3_init_2 1 = .ok (.iload_n 3, 1) := dk_29 (dk_at dksX3_init_2_0 1 rfl rfl)
theorem dX3_init_2_2 : decode cX3_init_2 2 = .ok (.invokespecial 7, 3) := dk_183 0 7 (dk_at dksX3_init_2_0 2 rfl rfl)
theorem dX3_init_2_5 : decode cX3_init_2 5 = .ok (.aload_n 1, 1) := dk_43 (dk_at dksX3_init_2_0 5 rfl rfl)
theorem dX3_init_2_6 : decode cX3_init_2 6 = .ok (.iload_n 2, 1) := dk_28 (dk_at dksX3_init_2_0 6 rfl rfl)
theorem dX3_init_2_7 : decode cX3_init_2 7 = .ok (.aload_n 0, 1) := dk_42 (dk_at dksX3_init_2_0 7 rfl rfl)
theorem dX3_init_2_8 : decode cX3_init_2 8 = .ok (.getfield 10, 3) := dk_180 0 10 (dk_at dksX3_init_2_0 8 rfl rfl)
theorem dX3_init_2_11 : decode cX3_init_2 11 = .ok (.iconst 0, 1) := dk_3 (dk_at dksX3_init_2_0 11 rfl rfl)
theorem dX3_init_2_12 : decode cX3_init_2 12 = .ok (.iload_n 3, 1) := dk_29 (dk_at dksX3_init_2_0 12 rfl rfl)
theorem dX3_init_2_13 : decode cX3_init_2 13 = .ok (.invokestatic 14, 3) := dk_184 0 14 (dk_at dksX3_init_2_0 13 rfl rfl)
theorem dX3_init_2_16 : decode cX3_init_2 16 = .ok (.return_, 1) := dk_177 (dk_at dksX3_init_2_0 16 rfl rfl)
abbrev cX3_init_3 : ByteArray := prog_4_method_3_code
def yX3_init_3 : MethodName := ⟨RX3, "<init>", "(I)V"⟩
def dkwX3_init_3_0 : List UInt8 := [42, 183, 0, 20, 42, 27, 188, 8, 181, 0, 10, 177]
abbrev dktX3_init_3_0 : List UInt8 := dkwX3_init_3_0 ++ []
theorem dksX3_init_3_0 : cX3_init_3.data.toList.drop 0 = dktX3_init_3_0 := by decide +kernel
theorem dX3_init_3_0 : decode cX3_init_3 0 = .ok (.aload_n 0, 1) := dk_42 (dk_at dksX3_init_3_0 0 rfl rfl)
theorem dX3_init_3_1 : decode cX3_init_3 1 = .ok (.invokespecial 20, 3) := dk_183 0 20 (dk_at dksX3_init_3_0 1 rfl rfl)
theorem dX3_init_3_4 : decode cX3_init_3 4 = .ok (.aload_n 0, 1) := dk_42 (dk_at dksX3_init_3_0 4 rfl rfl)
theorem dX3_init_3_5 : decode cX3_init_3 5 = .ok (.iload_n 1, 1) := dk_27 (dk_at dksX3_init_3_0 5 rfl rfl)
theorem dX3_init_3_6 : decode cX3_init_3 6 = .ok (.newarray .byte, 2) := dk_188_8 (dk_at dksX3_init_3_0 6 rfl rfl)
theorem dX3_init_3_8 : decode cX3_init_3 8 = .ok (.putfield 10, 3) := dk_181 0 10 (dk_at dksX3_init_3_0 8 rfl rfl)
theorem dX3_init_3_11 : decode cX3_init_3 11 = .ok (.return_, 1) := dk_177 (dk_at dksX3_init_3_0 11 rfl rfl)
abbrev cX3_getKey : ByteArray := prog_4_method_4_code
def yX3_getKey : MethodName := ⟨RX3, "getKey", "()[B"⟩
theorem dX3_getKey_0 : decode cX3_getKey 0 = .ok (.aload_n 0, 1) := by decide +kernel
theorem dX3_getKey_1 : decode cX3_getKey 1 = .ok (.getfield 10, 3) := by decide +kernel
theorem dX3_getKey_4 : decode cX3_getKey 4 = .ok (.areturn, 1) := by decide +kernel
theorem q10 : (Jvm.Cond.initialized "KeyParameter") ∈ lw_all := lw_g (lw_at lw_m1 3 rfl) rfl
theorem q61 : (Jvm.Cond.instantiable "KeyParameter" (1 : Nat)) ∈ lw_all := lw_g (lw_at lw_m1 54 rfl) rfl
theorem q63 : (Jvm.Cond.instanceMethod ({ cls := "KeyParameter", name := "<init>", desc := "([B)V" } : Jvm.MethodName)) ∈ lw_all := lw_g (lw_at lw_m1 56 rfl) rfl
theorem q64 : (Jvm.Cond.code ({ cls := "KeyParameter", name := "<init>", desc := "([B)V" } : Jvm.MethodName) prog_4_method_1_code (2 : Nat) (Option.none : Option Jvm.ClassFile.FieldType)) ∈ lw_all := lw_g (lw_at lw_m1 57 rfl) rfl
theorem q65 : (Jvm.Cond.methodLink "KeyParameter" (1 : Nat) ({ cls := "KeyParameter", name := "<init>", desc := "([BII)V" } : Jvm.MethodName)) ∈ lw_all := lw_g (lw_at lw_m1 58 rfl) rfl
theorem q66 : (Jvm.Cond.instanceMethod ({ cls := "KeyParameter", name := "<init>", desc := "([BII)V" } : Jvm.MethodName)) ∈ lw_all := lw_g (lw_at lw_m1 59 rfl) rfl
theorem q67 : (Jvm.Cond.code ({ cls := "KeyParameter", name := "<init>", desc := "([BII)V" } : Jvm.MethodName) prog_4_method_2_code (4 : Nat) (Option.none : Option Jvm.ClassFile.FieldType)) ∈ lw_all := lw_g (lw_at lw_m1 60 rfl) rfl
theorem q68 : (Jvm.Cond.methodLink "KeyParameter" (7 : Nat) ({ cls := "KeyParameter", name := "<init>", desc := "(I)V" } : Jvm.MethodName)) ∈ lw_all := lw_g (lw_at lw_m1 61 rfl) rfl
theorem q69 : (Jvm.Cond.instanceMethod ({ cls := "KeyParameter", name := "<init>", desc := "(I)V" } : Jvm.MethodName)) ∈ lw_all := lw_g (lw_at lw_m1 62 rfl) rfl
theorem q70 : (Jvm.Cond.code ({ cls := "KeyParameter", name := "<init>", desc := "(I)V" } : Jvm.MethodName) prog_4_method_3_code (2 : Nat) (Option.none : Option Jvm.ClassFile.FieldType)) ∈ lw_all := lw_g (lw_at lw_m1 63 rfl) rfl
theorem q71 : (Jvm.Cond.methodLink "KeyParameter" (20 : Nat) ({ cls := "java/lang/Object", name := "<init>", desc := "()V" } : Jvm.MethodName)) ∈ lw_all := lw_g (lw_at lw_m1 64 rfl) rfl
theorem q72 : (Jvm.Cond.fieldLink "KeyParameter" (10 : Nat) "KeyParameter" "key" "[B") ∈ lw_all := lw_g (lw_at lw_m1 65 rfl) rfl
theorem q73 : (Jvm.Cond.lays "KeyParameter" "KeyParameter" "key" "[B") ∈ lw_all := lw_g (lw_at lw_m1 66 rfl) rfl
theorem q74 : (Jvm.Cond.soleField "KeyParameter" "key") ∈ lw_all := lw_g (lw_at lw_m1 67 rfl) rfl
theorem q75 : (Jvm.Cond.superclass "KeyParameter" "java/lang/Object") ∈ lw_all := lw_g (lw_at lw_m1 68 rfl) rfl
theorem q76 : (Jvm.Cond.methodLink "KeyParameter" (14 : Nat) ({ cls := "java/lang/System", name := "arraycopy", desc := "(Ljava/lang/Object;ILjava/lang/Object;II)V" } : Jvm.MethodName)) ∈ lw_all := lw_g (lw_at lw_m1 69 rfl) rfl
theorem q159 : (Jvm.Cond.instanceMethod ({ cls := "KeyParameter", name := "getKey", desc := "()[B" } : Jvm.MethodName)) ∈ lw_all := lw_g (lw_at lw_m1 152 rfl) rfl
theorem q160 : (Jvm.Cond.selects "KeyParameter" ({ cls := "KeyParameter", name := "getKey", desc := "()[B" } : Jvm.MethodName) ({ cls := "KeyParameter", name := "getKey", desc := "()[B" } : Jvm.MethodName)) ∈ lw_all := lw_g (lw_at lw_m1 153 rfl) rfl
theorem q161 : (Jvm.Cond.code ({ cls := "KeyParameter", name := "getKey", desc := "()[B" } : Jvm.MethodName) prog_4_method_4_code (1 : Nat) (Option.some (Jvm.ClassFile.FieldType.array Jvm.ClassFile.FieldType.byte))) ∈ lw_all := lw_g (lw_at lw_m1 154 rfl) rfl
theorem in_X3 : ∀ w ∈ wsX30, w ∈ lw_all := lw_in wsX30 [73] (by decide +kernel) (by decide +kernel)
/-! ShacalDesk -/
set_option maxRecDepth 100000
def RX1 : String := "ShacalDesk"
def TX1 : u_T := fun k => match k with
  | 0 => ("ShacalDesk", "key", "[B", true)
  | 1 => ("ShacalDesk", "block", "[B", true)
  | _ => ("ShacalDesk", "out", "[B", true)
def tyX1 : Nat → FieldType := fun k => match k with
  | 0 => .array .byte
  | 1 => .array .byte
  | _ => .array .byte
abbrev wsX10 : List Cond := u_ws RX1 TX1 3
theorem nmX1 : ∀ a, a < 3 → ∀ b, b < 3 → a ≠ b → (TX1 a).2.1 ≠ (TX1 b).2.1 := by decide +kernel
theorem tyX1_ok : ∀ k, k < 3 → parseFieldDescriptor (TX1 k).2.2.1 = some (tyX1 k) := by decide +kernel
abbrev cX1_init : ByteArray := prog_8_method_1_code
def yX1_init : MethodName := ⟨RX1, "<init>", "()V"⟩
def dkwX1_init_1 : List UInt8 := [188, 8, 181, 0, 16, 177]
abbrev dktX1_init_1 : List UInt8 := dkwX1_init_1 ++ []
def dkwX1_init_0 : List UInt8 := [42, 183, 0, 1, 42, 16, 64, 188, 8, 181, 0, 7, 42, 16, 32, 188, 8, 181, 0, 13, 42, 16, 32]
abbrev dktX1_init_0 : List UInt8 := dkwX1_init_0 ++ dktX1_init_1
theorem dksX1_init_0 : cX1_init.data.toList.drop 0 = dktX1_init_0 := by decide +kernel
theorem dksX1_init_1 : cX1_init.data.toList.drop 23 = dktX1_init_1 := dk_seg dksX1_init_0 23 rfl rfl
theorem dX1_init_0 : decode cX1_init 0 = .ok (.aload_n 0, 1) := dk_42 (dk_at dksX1_init_0 0 rfl rfl)
theorem dX1_init_1 : decode cX1_init 1 = .ok (.invokespecial 1, 3) := dk_183 0 1 (dk_at dksX1_init_0 1 rfl rfl)
theorem dX1_init_4 : decode cX1_init 4 = .ok (.aload_n 0, 1) := dk_42 (dk_at dksX1_init_0 4 rfl rfl)
theorem dX1_init_5 : decode cX1_init 5 = .ok (.bipush 64, 2) := dk_16 64 (dk_at dksX1_init_0 5 rfl rfl)
theorem dX1_init_7 : decode cX1_init 7 = .ok (.newarray .byte, 2) := dk_188_8 (dk_at dksX1_init_0 7 rfl rfl)
theorem dX1_init_9 : decode cX1_init 9 = .ok (.putfield 7, 3) := dk_181 0 7 (dk_at dksX1_init_0 9 rfl rfl)
theorem dX1_init_12 : decode cX1_init 12 = .ok (.aload_n 0, 1) := dk_42 (dk_at dksX1_init_0 12 rfl rfl)
theorem dX1_init_13 : decode cX1_init 13 = .ok (.bipush 32, 2) := dk_16 32 (dk_at dksX1_init_0 13 rfl rfl)
theorem dX1_init_15 : decode cX1_init 15 = .ok (.newarray .byte, 2) := dk_188_8 (dk_at dksX1_init_0 15 rfl rfl)
theorem dX1_init_17 : decode cX1_init 17 = .ok (.putfield 13, 3) := dk_181 0 13 (dk_at dksX1_init_0 17 rfl rfl)
theorem dX1_init_20 : decode cX1_init 20 = .ok (.aload_n 0, 1) := dk_42 (dk_at dksX1_init_0 20 rfl rfl)
theorem dX1_init_21 : decode cX1_init 21 = .ok (.bipush 32, 2) := dk_16 32 (dk_at dksX1_init_0 21 rfl rfl)
theorem dX1_init_23 : decode cX1_init 23 = .ok (.newarray .byte, 2) := dk_188_8 (dk_at dksX1_init_1 0 rfl rfl)
theorem dX1_init_25 : decode cX1_init 25 = .ok (.putfield 16, 3) := dk_181 0 16 (dk_at dksX1_init_1 2 rfl rfl)
theorem dX1_init_28 : decode cX1_init 28 = .ok (.return_, 1) := dk_177 (dk_at dksX1_init_1 5 rfl rfl)
abbrev cX1_lock : ByteArray := prog_8_method_6_code
def yX1_lock : MethodName := ⟨RX1, "lock", "(I)V"⟩
def dkwX1_lock_0 : List UInt8 := [42, 4, 27, 182, 0, 41, 177]
abbrev dktX1_lock_0 : List UInt8 := dkwX1_lock_0 ++ []
theorem dksX1_lock_0 : cX1_lock.data.toList.drop 0 = dktX1_lock_0 := by decide +kernel
theorem dX1_lock_0 : decode cX1_lock 0 = .ok (.aload_n 0, 1) := dk_42 (dk_at dksX1_lock_0 0 rfl rfl)
theorem dX1_lock_1 : decode cX1_lock 1 = .ok (.iconst 1, 1) := dk_4 (dk_at dksX1_lock_0 1 rfl rfl)
theorem dX1_lock_2 : decode cX1_lock 2 = .ok (.iload_n 1, 1) := dk_27 (dk_at dksX1_lock_0 2 rfl rfl)
theorem dX1_lock_3 : decode cX1_lock 3 = .ok (.invokevirtual 41, 3) := dk_182 0 41 (dk_at dksX1_lock_0 3 rfl rfl)
theorem dX1_lock_6 : decode cX1_lock 6 = .ok (.return_, 1) := dk_177 (dk_at dksX1_lock_0 6 rfl rfl)
abbrev cX1_run : ByteArray := prog_8_method_5_code
def yX1_run : MethodName := ⟨RX1, "run", "(ZI)V"⟩
def dkwX1_run_3 : List UInt8 := [185, 0, 37, 5, 0, 87, 177]
abbrev dktX1_run_3 : List UInt8 := dkwX1_run_3 ++ []
def dkwX1_run_2 : List UInt8 := [45, 183, 0, 28, 185, 0, 31, 3, 0, 25, 4, 42, 180, 0, 13, 3, 42, 180, 0, 16, 3]
abbrev dktX1_run_2 : List UInt8 := dkwX1_run_2 ++ dktX1_run_3
def dkwX1_run_1 : List UInt8 := [51, 84, 132, 4, 1, 167, 255, 235, 187, 0, 23, 89, 183, 0, 25, 58, 4, 25, 4, 27, 187, 0, 26, 89]
abbrev dktX1_run_1 : List UInt8 := dkwX1_run_1 ++ dktX1_run_2
def dkwX1_run_0 : List UInt8 := [16, 64, 188, 8, 78, 3, 54, 4, 21, 4, 45, 190, 162, 0, 20, 45, 21, 4, 42, 180, 0, 7, 21, 4]
abbrev dktX1_run_0 : List UInt8 := dkwX1_run_0 ++ dktX1_run_1
theorem dksX1_run_0 : cX1_run.data.toList.drop 0 = dktX1_run_0 := by decide +kernel
theorem dksX1_run_1 : cX1_run.data.toList.drop 24 = dktX1_run_1 := dk_seg dksX1_run_0 24 rfl rfl
theorem dksX1_run_2 : cX1_run.data.toList.drop 48 = dktX1_run_2 := dk_seg dksX1_run_1 24 rfl rfl
theorem dksX1_run_3 : cX1_run.data.toList.drop 69 = dktX1_run_3 := dk_seg dksX1_run_2 21 rfl rfl
theorem dX1_run_0 : decode cX1_run 0 = .ok (.bipush 64, 2) := dk_16 64 (dk_at dksX1_run_0 0 rfl rfl)
theorem dX1_run_2 : decode cX1_run 2 = .ok (.newarray .byte, 2) := dk_188_8 (dk_at dksX1_run_0 2 rfl rfl)
theorem dX1_run_4 : decode cX1_run 4 = .ok (.astore_n 3, 1) := dk_78 (dk_at dksX1_run_0 4 rfl rfl)
theorem dX1_run_5 : decode cX1_run 5 = .ok (.iconst 0, 1) := dk_3 (dk_at dksX1_run_0 5 rfl rfl)
theorem dX1_run_6 : decode cX1_run 6 = .ok (.istore 4, 2) := dk_54 4 (dk_at dksX1_run_0 6 rfl rfl)
theorem dX1_run_8 : decode cX1_run 8 = .ok (.iload 4, 2) := dk_21 4 (dk_at dksX1_run_0 8 rfl rfl)
theorem dX1_run_10 : decode cX1_run 10 = .ok (.aload_n 3, 1) := dk_45 (dk_at dksX1_run_0 10 rfl rfl)
theorem dX1_run_11 : decode cX1_run 11 = .ok (.arraylength, 1) := dk_190 (dk_at dksX1_run_0 11 rfl rfl)
theorem dX1_run_12 : decode cX1_run 12 = .ok (.if_icmp .ge 20, 3) := dk_162 0 20 (dk_at dksX1_run_0 12 rfl rfl)
theorem dX1_run_15 : decode cX1_run 15 = .ok (.aload_n 3, 1) := dk_45 (dk_at dksX1_run_0 15 rfl rfl)
theorem dX1_run_16 : decode cX1_run 16 = .ok (.iload 4, 2) := dk_21 4 (dk_at dksX1_run_0 16 rfl rfl)
theorem dX1_run_18 : decode cX1_run 18 = .ok (.aload_n 0, 1) := dk_42 (dk_at dksX1_run_0 18 rfl rfl)
theorem dX1_run_19 : decode cX1_run 19 = .ok (.getfield 7, 3) := dk_180 0 7 (dk_at dksX1_run_0 19 rfl rfl)
theorem dX1_run_22 : decode cX1_run 22 = .ok (.iload 4, 2) := dk_21 4 (dk_at dksX1_run_0 22 rfl rfl)
theorem dX1_run_24 : decode cX1_run 24 = .ok (.baload, 1) := dk_51 (dk_at dksX1_run_1 0 rfl rfl)
theorem dX1_run_25 : decode cX1_run 25 = .ok (.bastore, 1) := dk_84 (dk_at dksX1_run_1 1 rfl rfl)
theorem dX1_run_26 : decode cX1_run 26 = .ok (.iinc 4 1, 3) := dk_132 4 1 (dk_at dksX1_run_1 2 rfl rfl)
theorem dX1_run_29 : decode cX1_run 29 = .ok (.goto (-21), 3) := dk_167 255 235 (dk_at dksX1_run_1 5 rfl rfl)
theorem dX1_run_32 : decode cX1_run 32 = .ok (.new 23, 3) := dk_187 0 23 (dk_at dksX1_run_1 8 rfl rfl)
theorem dX1_run_35 : decode cX1_run 35 = .ok (.dup, 1) := dk_89 (dk_at dksX1_run_1 11 rfl rfl)
theorem dX1_run_36 : decode cX1_run 36 = .ok (.invokespecial 25, 3) := dk_183 0 25 (dk_at dksX1_run_1 12 rfl rfl)
theorem dX1_run_39 : decode cX1_run 39 = .ok (.astore 4, 2) := dk_58 4 (dk_at dksX1_run_1 15 rfl rfl)
theorem dX1_run_41 : decode cX1_run 41 = .ok (.aload 4, 2) := dk_25 4 (dk_at dksX1_run_1 17 rfl rfl)
theorem dX1_run_43 : decode cX1_run 43 = .ok (.iload_n 1, 1) := dk_27 (dk_at dksX1_run_1 19 rfl rfl)
theorem dX1_run_44 : decode cX1_run 44 = .ok (.new 26, 3) := dk_187 0 26 (dk_at dksX1_run_1 20 rfl rfl)
theorem dX1_run_47 : decode cX1_run 47 = .ok (.dup, 1) := dk_89 (dk_at dksX1_run_1 23 rfl rfl)
theorem dX1_run_48 : decode cX1_run 48 = .ok (.aload_n 3, 1) := dk_45 (dk_at dksX1_run_2 0 rfl rfl)
theorem dX1_run_49 : decode cX1_run 49 = .ok (.invokespecial 28, 3) := dk_183 0 28 (dk_at dksX1_run_2 1 rfl rfl)
theorem dX1_run_52 : decode cX1_run 52 = .ok (.invokeinterface 31 3, 5) := by decide +kernel
theorem dX1_run_57 : decode cX1_run 57 = .ok (.aload 4, 2) := dk_25 4 (dk_at dksX1_run_2 9 rfl rfl)
theorem dX1_run_59 : decode cX1_run 59 = .ok (.aload_n 0, 1) := dk_42 (dk_at dksX1_run_2 11 rfl rfl)
theorem dX1_run_60 : decode cX1_run 60 = .ok (.getfield 13, 3) := dk_180 0 13 (dk_at dksX1_run_2 12 rfl rfl)
theorem dX1_run_63 : decode cX1_run 63 = .ok (.iconst 0, 1) := dk_3 (dk_at dksX1_run_2 15 rfl rfl)
theorem dX1_run_64 : decode cX1_run 64 = .ok (.aload_n 0, 1) := dk_42 (dk_at dksX1_run_2 16 rfl rfl)
theorem dX1_run_65 : decode cX1_run 65 = .ok (.getfield 16, 3) := dk_180 0 16 (dk_at dksX1_run_2 17 rfl rfl)
theorem dX1_run_68 : decode cX1_run 68 = .ok (.iconst 0, 1) := dk_3 (dk_at dksX1_run_2 20 rfl rfl)
theorem dX1_run_69 : decode cX1_run 69 = .ok (.invokeinterface 37 5, 5) := by decide +kernel
theorem dX1_run_74 : decode cX1_run 74 = .ok (.pop, 1) := dk_87 (dk_at dksX1_run_3 5 rfl rfl)
theorem dX1_run_75 : decode cX1_run 75 = .ok (.return_, 1) := dk_177 (dk_at dksX1_run_3 6 rfl rfl)
abbrev cX1_open : ByteArray := prog_8_method_7_code
def yX1_open : MethodName := ⟨RX1, "open", "(I)V"⟩
def dkwX1_open_0 : List UInt8 := [42, 3, 27, 182, 0, 41, 177]
abbrev dktX1_open_0 : List UInt8 := dkwX1_open_0 ++ []
theorem dksX1_open_0 : cX1_open.data.toList.drop 0 = dktX1_open_0 := by decide +kernel
theorem dX1_open_0 : decode cX1_open 0 = .ok (.aload_n 0, 1) := dk_42 (dk_at dksX1_open_0 0 rfl rfl)
theorem dX1_open_1 : decode cX1_open 1 = .ok (.iconst 0, 1) := dk_3 (dk_at dksX1_open_0 1 rfl rfl)
theorem dX1_open_2 : decode cX1_open 2 = .ok (.iload_n 1, 1) := dk_27 (dk_at dksX1_open_0 2 rfl rfl)
theorem dX1_open_3 : decode cX1_open 3 = .ok (.invokevirtual 41, 3) := dk_182 0 41 (dk_at dksX1_open_0 3 rfl rfl)
theorem dX1_open_6 : decode cX1_open 6 = .ok (.return_, 1) := dk_177 (dk_at dksX1_open_0 6 rfl rfl)
abbrev cX1_again : ByteArray := prog_8_method_8_code
def yX1_again : MethodName := ⟨RX1, "again", "()V"⟩
def dkwX1_again_1 : List UInt8 := [167, 255, 235, 177]
abbrev dktX1_again_1 : List UInt8 := dkwX1_again_1 ++ []
def dkwX1_again_0 : List UInt8 := [3, 60, 27, 16, 32, 162, 0, 21, 42, 180, 0, 13, 27, 42, 180, 0, 16, 27, 51, 84, 132, 1, 1]
abbrev dktX1_again_0 : List UInt8 := dkwX1_again_0 ++ dktX1_again_1
theorem dksX1_again_0 : cX1_again.data.toList.drop 0 = dktX1_again_0 := by decide +kernel
theorem dksX1_again_1 : cX1_again.data.toList.drop 23 = dktX1_again_1 := dk_seg dksX1_again_0 23 rfl rfl
theorem dX1_again_0 : decode cX1_again 0 = .ok (.iconst 0, 1) := dk_3 (dk_at dksX1_again_0 0 rfl rfl)
theorem dX1_again_1 : decode cX1_again 1 = .ok (.istore_n 1, 1) := dk_60 (dk_at dksX1_again_0 1 rfl rfl)
theorem dX1_again_2 : decode cX1_again 2 = .ok (.iload_n 1, 1) := dk_27 (dk_at dksX1_again_0 2 rfl rfl)
theorem dX1_again_3 : decode cX1_again 3 = .ok (.bipush 32, 2) := dk_16 32 (dk_at dksX1_again_0 3 rfl rfl)
theorem dX1_again_5 : decode cX1_again 5 = .ok (.if_icmp .ge 21, 3) := dk_162 0 21 (dk_at dksX1_again_0 5 rfl rfl)
theorem dX1_again_8 : decode cX1_again 8 = .ok (.aload_n 0, 1) := dk_42 (dk_at dksX1_again_0 8 rfl rfl)
theorem dX1_again_9 : decode cX1_again 9 = .ok (.getfield 13, 3) := dk_180 0 13 (dk_at dksX1_again_0 9 rfl rfl)
theorem dX1_again_12 : decode cX1_again 12 = .ok (.iload_n 1, 1) := dk_27 (dk_at dksX1_again_0 12 rfl rfl)
theorem dX1_again_13 : decode cX1_again 13 = .ok (.aload_n 0, 1) := dk_42 (dk_at dksX1_again_0 13 rfl rfl)
theorem dX1_again_14 : decode cX1_again 14 = .ok (.getfield 16, 3) := dk_180 0 16 (dk_at dksX1_again_0 14 rfl rfl)
theorem dX1_again_17 : decode cX1_again 17 = .ok (.iload_n 1, 1) := dk_27 (dk_at dksX1_again_0 17 rfl rfl)
theorem dX1_again_18 : decode cX1_again 18 = .ok (.baload, 1) := dk_51 (dk_at dksX1_again_0 18 rfl rfl)
theorem dX1_again_19 : decode cX1_again 19 = .ok (.bastore, 1) := dk_84 (dk_at dksX1_again_0 19 rfl rfl)
theorem dX1_again_20 : decode cX1_again 20 = .ok (.iinc 1 1, 3) := dk_132 1 1 (dk_at dksX1_again_0 20 rfl rfl)
theorem dX1_again_23 : decode cX1_again 23 = .ok (.goto (-21), 3) := dk_167 255 235 (dk_at dksX1_again_1 0 rfl rfl)
theorem dX1_again_26 : decode cX1_again 26 = .ok (.return_, 1) := dk_177 (dk_at dksX1_again_1 3 rfl rfl)
abbrev cX1_out : ByteArray := prog_8_method_9_code
def yX1_out : MethodName := ⟨RX1, "out", "(I)I"⟩
def dkwX1_out_0 : List UInt8 := [42, 180, 0, 16, 27, 16, 31, 126, 51, 17, 0, 255, 126, 172]
abbrev dktX1_out_0 : List UInt8 := dkwX1_out_0 ++ []
theorem dksX1_out_0 : cX1_out.data.toList.drop 0 = dktX1_out_0 := by decide +kernel
theorem dX1_out_0 : decode cX1_out 0 = .ok (.aload_n 0, 1) := dk_42 (dk_at dksX1_out_0 0 rfl rfl)
theorem dX1_out_1 : decode cX1_out 1 = .ok (.getfield 16, 3) := dk_180 0 16 (dk_at dksX1_out_0 1 rfl rfl)
theorem dX1_out_4 : decode cX1_out 4 = .ok (.iload_n 1, 1) := dk_27 (dk_at dksX1_out_0 4 rfl rfl)
theorem dX1_out_5 : decode cX1_out 5 = .ok (.bipush 31, 2) := dk_16 31 (dk_at dksX1_out_0 5 rfl rfl)
theorem dX1_out_7 : decode cX1_out 7 = .ok (.iand, 1) := dk_126 (dk_at dksX1_out_0 7 rfl rfl)
theorem dX1_out_8 : decode cX1_out 8 = .ok (.baload, 1) := dk_51 (dk_at dksX1_out_0 8 rfl rfl)
theorem dX1_out_9 : decode cX1_out 9 = .ok (.sipush 255, 3) := dk_17 0 255 (dk_at dksX1_out_0 9 rfl rfl)
theorem dX1_out_12 : decode cX1_out 12 = .ok (.iand, 1) := dk_126 (dk_at dksX1_out_0 12 rfl rfl)
theorem dX1_out_13 : decode cX1_out 13 = .ok (.ireturn, 1) := dk_172 (dk_at dksX1_out_0 13 rfl rfl)
abbrev cX1_key : ByteArray := prog_8_method_3_code
def yX1_key : MethodName := ⟨RX1, "key", "(IIIII)V"⟩
def dkwX1_key_2 : List UInt8 := [21, 6, 16, 12, 96, 21, 5, 184, 0, 19, 177]
abbrev dktX1_key_2 : List UInt8 := dkwX1_key_2 ++ []
def dkwX1_key_1 : List UInt8 := [96, 29, 184, 0, 19, 42, 180, 0, 7, 21, 6, 16, 8, 96, 21, 4, 184, 0, 19, 42, 180, 0, 7]
abbrev dktX1_key_1 : List UInt8 := dkwX1_key_1 ++ dktX1_key_2
def dkwX1_key_0 : List UInt8 := [27, 6, 126, 7, 120, 54, 6, 42, 180, 0, 7, 21, 6, 28, 184, 0, 19, 42, 180, 0, 7, 21, 6, 7]
abbrev dktX1_key_0 : List UInt8 := dkwX1_key_0 ++ dktX1_key_1
theorem dksX1_key_0 : cX1_key.data.toList.drop 0 = dktX1_key_0 := by decide +kernel
theorem dksX1_key_1 : cX1_key.data.toList.drop 24 = dktX1_key_1 := dk_seg dksX1_key_0 24 rfl rfl
theorem dksX1_key_2 : cX1_key.data.toList.drop 47 = dktX1_key_2 := dk_seg dksX1_key_1 23 rfl rfl
theorem dX1_key_0 : decode cX1_key 0 = .ok (.iload_n 1, 1) := dk_27 (dk_at dksX1_key_0 0 rfl rfl)
theorem dX1_key_1 : decode cX1_key 1 = .ok (.iconst 3, 1) := dk_6 (dk_at dksX1_key_0 1 rfl rfl)
theorem dX1_key_2 : decode cX1_key 2 = .ok (.iand, 1) := dk_126 (dk_at dksX1_key_0 2 rfl rfl)
theorem dX1_key_3 : decode cX1_key 3 = .ok (.iconst 4, 1) := dk_7 (dk_at dksX1_key_0 3 rfl rfl)
theorem dX1_key_4 : decode cX1_key 4 = .ok (.ishl, 1) := dk_120 (dk_at dksX1_key_0 4 rfl rfl)
theorem dX1_key_5 : decode cX1_key 5 = .ok (.istore 6, 2) := dk_54 6 (dk_at dksX1_key_0 5 rfl rfl)
theorem dX1_key_7 : decode cX1_key 7 = .ok (.aload_n 0, 1) := dk_42 (dk_at dksX1_key_0 7 rfl rfl)
theorem dX1_key_8 : decode cX1_key 8 = .ok (.getfield 7, 3) := dk_180 0 7 (dk_at dksX1_key_0 8 rfl rfl)
theorem dX1_key_11 : decode cX1_key 11 = .ok (.iload 6, 2) := dk_21 6 (dk_at dksX1_key_0 11 rfl rfl)
theorem dX1_key_13 : decode cX1_key 13 = .ok (.iload_n 2, 1) := dk_28 (dk_at dksX1_key_0 13 rfl rfl)
theorem dX1_key_14 : decode cX1_key 14 = .ok (.invokestatic 19, 3) := dk_184 0 19 (dk_at dksX1_key_0 14 rfl rfl)
theorem dX1_key_17 : decode cX1_key 17 = .ok (.aload_n 0, 1) := dk_42 (dk_at dksX1_key_0 17 rfl rfl)
theorem dX1_key_18 : decode cX1_key 18 = .ok (.getfield 7, 3) := dk_180 0 7 (dk_at dksX1_key_0 18 rfl rfl)
theorem dX1_key_21 : decode cX1_key 21 = .ok (.iload 6, 2) := dk_21 6 (dk_at dksX1_key_0 21 rfl rfl)
theorem dX1_key_23 : decode cX1_key 23 = .ok (.iconst 4, 1) := dk_7 (dk_at dksX1_key_0 23 rfl rfl)
theorem dX1_key_24 : decode cX1_key 24 = .ok (.iadd, 1) := dk_96 (dk_at dksX1_key_1 0 rfl rfl)
theorem dX1_key_25 : decode cX1_key 25 = .ok (.iload_n 3, 1) := dk_29 (dk_at dksX1_key_1 1 rfl rfl)
theorem dX1_key_26 : decode cX1_key 26 = .ok (.invokestatic 19, 3) := dk_184 0 19 (dk_at dksX1_key_1 2 rfl rfl)
theorem dX1_key_29 : decode cX1_key 29 = .ok (.aload_n 0, 1) := dk_42 (dk_at dksX1_key_1 5 rfl rfl)
theorem dX1_key_30 : decode cX1_key 30 = .ok (.getfield 7, 3) := dk_180 0 7 (dk_at dksX1_key_1 6 rfl rfl)
theorem dX1_key_33 : decode cX1_key 33 = .ok (.iload 6, 2) := dk_21 6 (dk_at dksX1_key_1 9 rfl rfl)
theorem dX1_key_35 : decode cX1_key 35 = .ok (.bipush 8, 2) := dk_16 8 (dk_at dksX1_key_1 11 rfl rfl)
theorem dX1_key_37 : decode cX1_key 37 = .ok (.iadd, 1) := dk_96 (dk_at dksX1_key_1 13 rfl rfl)
theorem dX1_key_38 : decode cX1_key 38 = .ok (.iload 4, 2) := dk_21 4 (dk_at dksX1_key_1 14 rfl rfl)
theorem dX1_key_40 : decode cX1_key 40 = .ok (.invokestatic 19, 3) := dk_184 0 19 (dk_at dksX1_key_1 16 rfl rfl)
theorem dX1_key_43 : decode cX1_key 43 = .ok (.aload_n 0, 1) := dk_42 (dk_at dksX1_key_1 19 rfl rfl)
theorem dX1_key_44 : decode cX1_key 44 = .ok (.getfield 7, 3) := dk_180 0 7 (dk_at dksX1_key_1 20 rfl rfl)
theorem dX1_key_47 : decode cX1_key 47 = .ok (.iload 6, 2) := dk_21 6 (dk_at dksX1_key_2 0 rfl rfl)
theorem dX1_key_49 : decode cX1_key 49 = .ok (.bipush 12, 2) := dk_16 12 (dk_at dksX1_key_2 2 rfl rfl)
theorem dX1_key_51 : decode cX1_key 51 = .ok (.iadd, 1) := dk_96 (dk_at dksX1_key_2 4 rfl rfl)
theorem dX1_key_52 : decode cX1_key 52 = .ok (.iload 5, 2) := dk_21 5 (dk_at dksX1_key_2 5 rfl rfl)
theorem dX1_key_54 : decode cX1_key 54 = .ok (.invokestatic 19, 3) := dk_184 0 19 (dk_at dksX1_key_2 7 rfl rfl)
theorem dX1_key_57 : decode cX1_key 57 = .ok (.return_, 1) := dk_177 (dk_at dksX1_key_2 10 rfl rfl)
abbrev cX1_word : ByteArray := prog_8_method_2_code
def yX1_word : MethodName := ⟨RX1, "word", "([BII)V"⟩
def dkwX1_word_1 : List UInt8 := [16, 8, 122, 145, 84, 42, 27, 6, 96, 28, 145, 84, 177]
abbrev dktX1_word_1 : List UInt8 := dkwX1_word_1 ++ []
def dkwX1_word_0 : List UInt8 := [42, 27, 28, 16, 24, 122, 145, 84, 42, 27, 4, 96, 28, 16, 16, 122, 145, 84, 42, 27, 5, 96, 28]
abbrev dktX1_word_0 : List UInt8 := dkwX1_word_0 ++ dktX1_word_1
theorem dksX1_word_0 : cX1_word.data.toList.drop 0 = dktX1_word_0 := by decide +kernel
theorem dksX1_word_1 : cX1_word.data.toList.drop 23 = dktX1_word_1 := dk_seg dksX1_word_0 23 rfl rfl
theorem dX1_word_0 : decode cX1_word 0 = .ok (.aload_n 0, 1) := dk_42 (dk_at dksX1_word_0 0 rfl rfl)
theorem dX1_word_1 : decode cX1_word 1 = .ok (.iload_n 1, 1) := dk_27 (dk_at dksX1_word_0 1 rfl rfl)
theorem dX1_word_2 : decode cX1_word 2 = .ok (.iload_n 2, 1) := dk_28 (dk_at dksX1_word_0 2 rfl rfl)
theorem dX1_word_3 : decode cX1_word 3 = .ok (.bipush 24, 2) := dk_16 24 (dk_at dksX1_word_0 3 rfl rfl)
theorem dX1_word_5 : decode cX1_word 5 = .ok (.ishr, 1) := dk_122 (dk_at dksX1_word_0 5 rfl rfl)
theorem dX1_word_6 : decode cX1_word 6 = .ok (.i2b, 1) := dk_145 (dk_at dksX1_word_0 6 rfl rfl)
theorem dX1_word_7 : decode cX1_word 7 = .ok (.bastore, 1) := dk_84 (dk_at dksX1_word_0 7 rfl rfl)
theorem dX1_word_8 : decode cX1_word 8 = .ok (.aload_n 0, 1) := dk_42 (dk_at dksX1_word_0 8 rfl rfl)
theorem dX1_word_9 : decode cX1_word 9 = .ok (.iload_n 1, 1) := dk_27 (dk_at dksX1_word_0 9 rfl rfl)
theorem dX1_word_10 : decode cX1_word 10 = .ok (.iconst 1, 1) := dk_4 (dk_at dksX1_word_0 10 rfl rfl)
theorem dX1_word_11 : decode cX1_word 11 = .ok (.iadd, 1) := dk_96 (dk_at dksX1_word_0 11 rfl rfl)
theorem dX1_word_12 : decode cX1_word 12 = .ok (.iload_n 2, 1) := dk_28 (dk_at dksX1_word_0 12 rfl rfl)
theorem dX1_word_13 : decode cX1_word 13 = .ok (.bipush 16, 2) := dk_16 16 (dk_at dksX1_word_0 13 rfl rfl)
theorem dX1_word_15 : decode cX1_word 15 = .ok (.ishr, 1) := dk_122 (dk_at dksX1_word_0 15 rfl rfl)
theorem dX1_word_16 : decode cX1_word 16 = .ok (.i2b, 1) := dk_145 (dk_at dksX1_word_0 16 rfl rfl)
theorem dX1_word_17 : decode cX1_word 17 = .ok (.bastore, 1) := dk_84 (dk_at dksX1_word_0 17 rfl rfl)
theorem dX1_word_18 : decode cX1_word 18 = .ok (.aload_n 0, 1) := dk_42 (dk_at dksX1_word_0 18 rfl rfl)
theorem dX1_word_19 : decode cX1_word 19 = .ok (.iload_n 1, 1) := dk_27 (dk_at dksX1_word_0 19 rfl rfl)
theorem dX1_word_20 : decode cX1_word 20 = .ok (.iconst 2, 1) := dk_5 (dk_at dksX1_word_0 20 rfl rfl)
theorem dX1_word_21 : decode cX1_word 21 = .ok (.iadd, 1) := dk_96 (dk_at dksX1_word_0 21 rfl rfl)
theorem dX1_word_22 : decode cX1_word 22 = .ok (.iload_n 2, 1) := dk_28 (dk_at dksX1_word_0 22 rfl rfl)
theorem dX1_word_23 : decode cX1_word 23 = .ok (.bipush 8, 2) := dk_16 8 (dk_at dksX1_word_1 0 rfl rfl)
theorem dX1_word_25 : decode cX1_word 25 = .ok (.ishr, 1) := dk_122 (dk_at dksX1_word_1 2 rfl rfl)
theorem dX1_word_26 : decode cX1_word 26 = .ok (.i2b, 1) := dk_145 (dk_at dksX1_word_1 3 rfl rfl)
theorem dX1_word_27 : decode cX1_word 27 = .ok (.bastore, 1) := dk_84 (dk_at dksX1_word_1 4 rfl rfl)
theorem dX1_word_28 : decode cX1_word 28 = .ok (.aload_n 0, 1) := dk_42 (dk_at dksX1_word_1 5 rfl rfl)
theorem dX1_word_29 : decode cX1_word 29 = .ok (.iload_n 1, 1) := dk_27 (dk_at dksX1_word_1 6 rfl rfl)
theorem dX1_word_30 : decode cX1_word 30 = .ok (.iconst 3, 1) := dk_6 (dk_at dksX1_word_1 7 rfl rfl)
theorem dX1_word_31 : decode cX1_word 31 = .ok (.iadd, 1) := dk_96 (dk_at dksX1_word_1 8 rfl rfl)
theorem dX1_word_32 : decode cX1_word 32 = .ok (.iload_n 2, 1) := dk_28 (dk_at dksX1_word_1 9 rfl rfl)
theorem dX1_word_33 : decode cX1_word 33 = .ok (.i2b, 1) := dk_145 (dk_at dksX1_word_1 10 rfl rfl)
theorem dX1_word_34 : decode cX1_word 34 = .ok (.bastore, 1) := dk_84 (dk_at dksX1_word_1 11 rfl rfl)
theorem dX1_word_35 : decode cX1_word 35 = .ok (.return_, 1) := dk_177 (dk_at dksX1_word_1 12 rfl rfl)
abbrev cX1_block : ByteArray := prog_8_method_4_code
def yX1_block : MethodName := ⟨RX1, "block", "(IIIII)V"⟩
def dkwX1_block_2 : List UInt8 := [21, 6, 16, 12, 96, 21, 5, 184, 0, 19, 177]
abbrev dktX1_block_2 : List UInt8 := dkwX1_block_2 ++ []
def dkwX1_block_1 : List UInt8 := [96, 29, 184, 0, 19, 42, 180, 0, 13, 21, 6, 16, 8, 96, 21, 4, 184, 0, 19, 42, 180, 0, 13]
abbrev dktX1_block_1 : List UInt8 := dkwX1_block_1 ++ dktX1_block_2
def dkwX1_block_0 : List UInt8 := [27, 4, 126, 7, 120, 54, 6, 42, 180, 0, 13, 21, 6, 28, 184, 0, 19, 42, 180, 0, 13, 21, 6, 7]
abbrev dktX1_block_0 : List UInt8 := dkwX1_block_0 ++ dktX1_block_1
theorem dksX1_block_0 : cX1_block.data.toList.drop 0 = dktX1_block_0 := by decide +kernel
theorem dksX1_block_1 : cX1_block.data.toList.drop 24 = dktX1_block_1 := dk_seg dksX1_block_0 24 rfl rfl
theorem dksX1_block_2 : cX1_block.data.toList.drop 47 = dktX1_block_2 := dk_seg dksX1_block_1 23 rfl rfl
theorem dX1_block_0 : decode cX1_block 0 = .ok (.iload_n 1, 1) := dk_27 (dk_at dksX1_block_0 0 rfl rfl)
theorem dX1_block_1 : decode cX1_block 1 = .ok (.iconst 1, 1) := dk_4 (dk_at dksX1_block_0 1 rfl rfl)
theorem dX1_block_2 : decode cX1_block 2 = .ok (.iand, 1) := dk_126 (dk_at dksX1_block_0 2 rfl rfl)
theorem dX1_block_3 : decode cX1_block 3 = .ok (.iconst 4, 1) := dk_7 (dk_at dksX1_block_0 3 rfl rfl)
theorem dX1_block_4 : decode cX1_block 4 = .ok (.ishl, 1) := dk_120 (dk_at dksX1_block_0 4 rfl rfl)
theorem dX1_block_5 : decode cX1_block 5 = .ok (.istore 6, 2) := dk_54 6 (dk_at dksX1_block_0 5 rfl rfl)
theorem dX1_block_7 : decode cX1_block 7 = .ok (.aload_n 0, 1) := dk_42 (dk_at dksX1_block_0 7 rfl rfl)
theorem dX1_block_8 : decode cX1_block 8 = .ok (.getfield 13, 3) := dk_180 0 13 (dk_at dksX1_block_0 8 rfl rfl)
theorem dX1_block_11 : decode cX1_block 11 = .ok (.iload 6, 2) := dk_21 6 (dk_at dksX1_block_0 11 rfl rfl)
theorem dX1_block_13 : decode cX1_block 13 = .ok (.iload_n 2, 1) := dk_28 (dk_at dksX1_block_0 13 rfl rfl)
theorem dX1_block_14 : decode cX1_block 14 = .ok (.invokestatic 19, 3) := dk_184 0 19 (dk_at dksX1_block_0 14 rfl rfl)
theorem dX1_block_17 : decode cX1_block 17 = .ok (.aload_n 0, 1) := dk_42 (dk_at dksX1_block_0 17 rfl rfl)
theorem dX1_block_18 : decode cX1_block 18 = .ok (.getfield 13, 3) := dk_180 0 13 (dk_at dksX1_block_0 18 rfl rfl)
theorem dX1_block_21 : decode cX1_block 21 = .ok (.iload 6, 2) := dk_21 6 (dk_at dksX1_block_0 21 rfl rfl)
theorem dX1_block_23 : decode cX1_block 23 = .ok (.iconst 4, 1) := dk_7 (dk_at dksX1_block_0 23 rfl rfl)
theorem dX1_block_24 : decode cX1_block 24 = .ok (.iadd, 1) := dk_96 (dk_at dksX1_block_1 0 rfl rfl)
theorem dX1_block_25 : decode cX1_block 25 = .ok (.iload_n 3, 1) := dk_29 (dk_at dksX1_block_1 1 rfl rfl)
theorem dX1_block_26 : decode cX1_block 26 = .ok (.invokestatic 19, 3) := dk_184 0 19 (dk_at dksX1_block_1 2 rfl rfl)
theorem dX1_block_29 : decode cX1_block 29 = .ok (.aload_n 0, 1) := dk_42 (dk_at dksX1_block_1 5 rfl rfl)
theorem dX1_block_30 : decode cX1_block 30 = .ok (.getfield 13, 3) := dk_180 0 13 (dk_at dksX1_block_1 6 rfl rfl)
theorem dX1_block_33 : decode cX1_block 33 = .ok (.iload 6, 2) := dk_21 6 (dk_at dksX1_block_1 9 rfl rfl)
theorem dX1_block_35 : decode cX1_block 35 = .ok (.bipush 8, 2) := dk_16 8 (dk_at dksX1_block_1 11 rfl rfl)
theorem dX1_block_37 : decode cX1_block 37 = .ok (.iadd, 1) := dk_96 (dk_at dksX1_block_1 13 rfl rfl)
theorem dX1_block_38 : decode cX1_block 38 = .ok (.iload 4, 2) := dk_21 4 (dk_at dksX1_block_1 14 rfl rfl)
theorem dX1_block_40 : decode cX1_block 40 = .ok (.invokestatic 19, 3) := dk_184 0 19 (dk_at dksX1_block_1 16 rfl rfl)
theorem dX1_block_43 : decode cX1_block 43 = .ok (.aload_n 0, 1) := dk_42 (dk_at dksX1_block_1 19 rfl rfl)
theorem dX1_block_44 : decode cX1_block 44 = .ok (.getfield 13, 3) := dk_180 0 13 (dk_at dksX1_block_1 20 rfl rfl)
theorem dX1_block_47 : decode cX1_block 47 = .ok (.iload 6, 2) := dk_21 6 (dk_at dksX1_block_2 0 rfl rfl)
theorem dX1_block_49 : decode cX1_block 49 = .ok (.bipush 12, 2) := dk_16 12 (dk_at dksX1_block_2 2 rfl rfl)
theorem dX1_block_51 : decode cX1_block 51 = .ok (.iadd, 1) := dk_96 (dk_at dksX1_block_2 4 rfl rfl)
theorem dX1_block_52 : decode cX1_block 52 = .ok (.iload 5, 2) := dk_21 5 (dk_at dksX1_block_2 5 rfl rfl)
theorem dX1_block_54 : decode cX1_block 54 = .ok (.invokestatic 19, 3) := dk_184 0 19 (dk_at dksX1_block_2 7 rfl rfl)
theorem dX1_block_57 : decode cX1_block 57 = .ok (.return_, 1) := dk_177 (dk_at dksX1_block_2 10 rfl rfl)
theorem q8 : (Jvm.Cond.initialized "ShacalDesk") ∈ lw_all := lw_g (lw_at lw_m1 1 rfl) rfl
theorem q21 : (Jvm.Cond.instantiable "ShacalDesk" (3 : Nat)) ∈ lw_all := lw_g (lw_at lw_m1 14 rfl) rfl
theorem q23 : (Jvm.Cond.instanceMethod ({ cls := "ShacalDesk", name := "<init>", desc := "()V" } : Jvm.MethodName)) ∈ lw_all := lw_g (lw_at lw_m1 16 rfl) rfl
theorem q24 : (Jvm.Cond.code ({ cls := "ShacalDesk", name := "<init>", desc := "()V" } : Jvm.MethodName) prog_8_method_1_code (1 : Nat) (Option.none : Option Jvm.ClassFile.FieldType)) ∈ lw_all := lw_g (lw_at lw_m1 17 rfl) rfl
theorem q25 : (Jvm.Cond.methodLink "ShacalDesk" (1 : Nat) ({ cls := "java/lang/Object", name := "<init>", desc := "()V" } : Jvm.MethodName)) ∈ lw_all := lw_g (lw_at lw_m1 18 rfl) rfl
theorem q28 : (Jvm.Cond.fieldLink "ShacalDesk" (7 : Nat) "ShacalDesk" "key" "[B") ∈ lw_all := lw_g (lw_at lw_m1 21 rfl) rfl
theorem q29 : (Jvm.Cond.fieldLink "ShacalDesk" (13 : Nat) "ShacalDesk" "block" "[B") ∈ lw_all := lw_g (lw_at lw_m1 22 rfl) rfl
theorem q30 : (Jvm.Cond.fieldLink "ShacalDesk" (16 : Nat) "ShacalDesk" "out" "[B") ∈ lw_all := lw_g (lw_at lw_m1 23 rfl) rfl
theorem q31 : (Jvm.Cond.laysFinal "ShacalDesk" "ShacalDesk" "key" "[B") ∈ lw_all := lw_g (lw_at lw_m1 24 rfl) rfl
theorem q32 : (Jvm.Cond.soleField "ShacalDesk" "key") ∈ lw_all := lw_g (lw_at lw_m1 25 rfl) rfl
theorem q33 : (Jvm.Cond.laysFinal "ShacalDesk" "ShacalDesk" "block" "[B") ∈ lw_all := lw_g (lw_at lw_m1 26 rfl) rfl
theorem q34 : (Jvm.Cond.soleField "ShacalDesk" "block") ∈ lw_all := lw_g (lw_at lw_m1 27 rfl) rfl
theorem q35 : (Jvm.Cond.laysFinal "ShacalDesk" "ShacalDesk" "out" "[B") ∈ lw_all := lw_g (lw_at lw_m1 28 rfl) rfl
theorem q36 : (Jvm.Cond.soleField "ShacalDesk" "out") ∈ lw_all := lw_g (lw_at lw_m1 29 rfl) rfl
theorem q37 : (Jvm.Cond.superclass "ShacalDesk" "java/lang/Object") ∈ lw_all := lw_g (lw_at lw_m1 30 rfl) rfl
theorem q40 : (Jvm.Cond.instanceMethod ({ cls := "ShacalDesk", name := "lock", desc := "(I)V" } : Jvm.MethodName)) ∈ lw_all := lw_g (lw_at lw_m1 33 rfl) rfl
theorem q41 : (Jvm.Cond.selects "ShacalDesk" ({ cls := "ShacalDesk", name := "lock", desc := "(I)V" } : Jvm.MethodName) ({ cls := "ShacalDesk", name := "lock", desc := "(I)V" } : Jvm.MethodName)) ∈ lw_all := lw_g (lw_at lw_m1 34 rfl) rfl
theorem q42 : (Jvm.Cond.code ({ cls := "ShacalDesk", name := "lock", desc := "(I)V" } : Jvm.MethodName) prog_8_method_6_code (2 : Nat) (Option.none : Option Jvm.ClassFile.FieldType)) ∈ lw_all := lw_g (lw_at lw_m1 35 rfl) rfl
theorem q43 : (Jvm.Cond.methodLink "ShacalDesk" (41 : Nat) ({ cls := "ShacalDesk", name := "run", desc := "(ZI)V" } : Jvm.MethodName)) ∈ lw_all := lw_g (lw_at lw_m1 36 rfl) rfl
theorem q44 : (Jvm.Cond.privateMethod ({ cls := "ShacalDesk", name := "run", desc := "(ZI)V" } : Jvm.MethodName)) ∈ lw_tbl := lw_at lw_m1 37 rfl
theorem q45 : (Jvm.Cond.instanceMethod ({ cls := "ShacalDesk", name := "run", desc := "(ZI)V" } : Jvm.MethodName)) ∈ lw_all := lw_g (lw_at lw_m1 38 rfl) rfl
theorem q46 : (Jvm.Cond.code ({ cls := "ShacalDesk", name := "run", desc := "(ZI)V" } : Jvm.MethodName) prog_8_method_5_code (5 : Nat) (Option.none : Option Jvm.ClassFile.FieldType)) ∈ lw_all := lw_g (lw_at lw_m1 39 rfl) rfl
theorem q47 : (Jvm.Cond.classLink "ShacalDesk" (23 : Nat) "Shacal2Engine") ∈ lw_all := lw_g (lw_at lw_m1 40 rfl) rfl
theorem q49 : (Jvm.Cond.methodLink "ShacalDesk" (25 : Nat) ({ cls := "Shacal2Engine", name := "<init>", desc := "()V" } : Jvm.MethodName)) ∈ lw_all := lw_g (lw_at lw_m1 42 rfl) rfl
theorem q60 : (Jvm.Cond.classLink "ShacalDesk" (26 : Nat) "KeyParameter") ∈ lw_all := lw_g (lw_at lw_m1 53 rfl) rfl
theorem q62 : (Jvm.Cond.methodLink "ShacalDesk" (28 : Nat) ({ cls := "KeyParameter", name := "<init>", desc := "([B)V" } : Jvm.MethodName)) ∈ lw_all := lw_g (lw_at lw_m1 55 rfl) rfl
theorem q79 : (Jvm.Cond.interfaceEntry "ShacalDesk" (31 : Nat)) ∈ lw_tbl := lw_at lw_m1 72 rfl
theorem q80 : (Jvm.Cond.methodLink "ShacalDesk" (31 : Nat) ({ cls := "BlockCipher", name := "init", desc := "(ZLCipherParameters;)V" } : Jvm.MethodName)) ∈ lw_all := lw_g (lw_at lw_m1 73 rfl) rfl
theorem q171 : (Jvm.Cond.interfaceEntry "ShacalDesk" (37 : Nat)) ∈ lw_tbl := lw_at lw_m1 164 rfl
theorem q172 : (Jvm.Cond.methodLink "ShacalDesk" (37 : Nat) ({ cls := "BlockCipher", name := "processBlock", desc := "([BI[BI)I" } : Jvm.MethodName)) ∈ lw_all := lw_g (lw_at lw_m1 165 rfl) rfl
theorem q253 : (Jvm.Cond.instanceMethod ({ cls := "ShacalDesk", name := "open", desc := "(I)V" } : Jvm.MethodName)) ∈ lw_all := lw_g (lw_at lw_m2 6 rfl) rfl
theorem q254 : (Jvm.Cond.selects "ShacalDesk" ({ cls := "ShacalDesk", name := "open", desc := "(I)V" } : Jvm.MethodName) ({ cls := "ShacalDesk", name := "open", desc := "(I)V" } : Jvm.MethodName)) ∈ lw_all := lw_g (lw_at lw_m2 7 rfl) rfl
theorem q255 : (Jvm.Cond.code ({ cls := "ShacalDesk", name := "open", desc := "(I)V" } : Jvm.MethodName) prog_8_method_7_code (2 : Nat) (Option.none : Option Jvm.ClassFile.FieldType)) ∈ lw_all := lw_g (lw_at lw_m2 8 rfl) rfl
theorem q257 : (Jvm.Cond.instanceMethod ({ cls := "ShacalDesk", name := "again", desc := "()V" } : Jvm.MethodName)) ∈ lw_all := lw_g (lw_at lw_m2 10 rfl) rfl
theorem q258 : (Jvm.Cond.selects "ShacalDesk" ({ cls := "ShacalDesk", name := "again", desc := "()V" } : Jvm.MethodName) ({ cls := "ShacalDesk", name := "again", desc := "()V" } : Jvm.MethodName)) ∈ lw_all := lw_g (lw_at lw_m2 11 rfl) rfl
theorem q259 : (Jvm.Cond.code ({ cls := "ShacalDesk", name := "again", desc := "()V" } : Jvm.MethodName) prog_8_method_8_code (2 : Nat) (Option.none : Option Jvm.ClassFile.FieldType)) ∈ lw_all := lw_g (lw_at lw_m2 12 rfl) rfl
theorem q275 : (Jvm.Cond.instanceMethod ({ cls := "ShacalDesk", name := "out", desc := "(I)I" } : Jvm.MethodName)) ∈ lw_all := lw_g (lw_at lw_m2 28 rfl) rfl
theorem q276 : (Jvm.Cond.selects "ShacalDesk" ({ cls := "ShacalDesk", name := "out", desc := "(I)I" } : Jvm.MethodName) ({ cls := "ShacalDesk", name := "out", desc := "(I)I" } : Jvm.MethodName)) ∈ lw_all := lw_g (lw_at lw_m2 29 rfl) rfl
theorem q277 : (Jvm.Cond.code ({ cls := "ShacalDesk", name := "out", desc := "(I)I" } : Jvm.MethodName) prog_8_method_9_code (2 : Nat) (Option.some Jvm.ClassFile.FieldType.int)) ∈ lw_all := lw_g (lw_at lw_m2 30 rfl) rfl
theorem q285 : (Jvm.Cond.instanceMethod ({ cls := "ShacalDesk", name := "key", desc := "(IIIII)V" } : Jvm.MethodName)) ∈ lw_all := lw_g (lw_at lw_m2 38 rfl) rfl
theorem q286 : (Jvm.Cond.selects "ShacalDesk" ({ cls := "ShacalDesk", name := "key", desc := "(IIIII)V" } : Jvm.MethodName) ({ cls := "ShacalDesk", name := "key", desc := "(IIIII)V" } : Jvm.MethodName)) ∈ lw_all := lw_g (lw_at lw_m2 39 rfl) rfl
theorem q287 : (Jvm.Cond.code ({ cls := "ShacalDesk", name := "key", desc := "(IIIII)V" } : Jvm.MethodName) prog_8_method_3_code (7 : Nat) (Option.none : Option Jvm.ClassFile.FieldType)) ∈ lw_all := lw_g (lw_at lw_m2 40 rfl) rfl
theorem q288 : (Jvm.Cond.methodLink "ShacalDesk" (19 : Nat) ({ cls := "ShacalDesk", name := "word", desc := "([BII)V" } : Jvm.MethodName)) ∈ lw_all := lw_g (lw_at lw_m2 41 rfl) rfl
theorem q289 : (Jvm.Cond.static ({ cls := "ShacalDesk", name := "word", desc := "([BII)V" } : Jvm.MethodName)) ∈ lw_all := lw_g (lw_at lw_m2 42 rfl) rfl
theorem q290 : (Jvm.Cond.code ({ cls := "ShacalDesk", name := "word", desc := "([BII)V" } : Jvm.MethodName) prog_8_method_2_code (3 : Nat) (Option.none : Option Jvm.ClassFile.FieldType)) ∈ lw_all := lw_g (lw_at lw_m2 43 rfl) rfl
theorem q295 : (Jvm.Cond.instanceMethod ({ cls := "ShacalDesk", name := "block", desc := "(IIIII)V" } : Jvm.MethodName)) ∈ lw_all := lw_g (lw_at lw_m2 48 rfl) rfl
theorem q296 : (Jvm.Cond.selects "ShacalDesk" ({ cls := "ShacalDesk", name := "block", desc := "(IIIII)V" } : Jvm.MethodName) ({ cls := "ShacalDesk", name := "block", desc := "(IIIII)V" } : Jvm.MethodName)) ∈ lw_all := lw_g (lw_at lw_m2 49 rfl) rfl
theorem q297 : (Jvm.Cond.code ({ cls := "ShacalDesk", name := "block", desc := "(IIIII)V" } : Jvm.MethodName) prog_8_method_4_code (7 : Nat) (Option.none : Option Jvm.ClassFile.FieldType)) ∈ lw_all := lw_g (lw_at lw_m2 50 rfl) rfl
theorem in_X1 : ∀ w ∈ wsX10, w ∈ lw_all := lw_in wsX10 [31, 33, 35] (by decide +kernel) (by decide +kernel)
end
section
/-! Shacal2Engine -/
set_option maxRecDepth 100000
def RX2 : String := "Shacal2Engine"
def TX2 : u_T := fun k => match k with
  | 0 => ("Shacal2Engine", "forEncryption", "Z", false)
  | _ => ("Shacal2Engine", "workingKey", "[I", false)
def tyX2 : Nat → FieldType := fun k => match k with
  | 0 => .boolean
  | _ => .array .int
abbrev wsX20 : List Cond := u_ws RX2 TX2 2
theorem nmX2 : ∀ a, a < 2 → ∀ b, b < 2 → a ≠ b → (TX2 a).2.1 ≠ (TX2 b).2.1 := by decide +kernel
theorem tyX2_ok : ∀ k, k < 2 → parseFieldDescriptor (TX2 k).2.2.1 = some (tyX2 k) := by decide +kernel
abbrev cX2_init : ByteArray := prog_7_method_1_code
def yX2_init : MethodName := ⟨RX2, "<init>", "()V"⟩
def dkwX2_init_0 : List UInt8 := [42, 183, 0, 1, 42, 3, 181, 0, 7, 42, 1, 181, 0, 13, 177]
abbrev dktX2_init_0 : List UInt8 := dkwX2_init_0 ++ []
theorem dksX2_init_0 : cX2_init.data.toList.drop 0 = dktX2_init_0 := by decide +kernel
theorem dX2_init_0 : decode cX2_init 0 = .ok (.aload_n 0, 1) := dk_42 (dk_at dksX2_init_0 0 rfl rfl)
theorem dX2_init_1 : decode cX2_init 1 = .ok (.invokespecial 1, 3) := dk_183 0 1 (dk_at dksX2_init_0 1 rfl rfl)
theorem dX2_init_4 : decode cX2_init 4 = .ok (.aload_n 0, 1) := dk_42 (dk_at dksX2_init_0 4 rfl rfl)
theorem dX2_init_5 : decode cX2_init 5 = .ok (.iconst 0, 1) := dk_3 (dk_at dksX2_init_0 5 rfl rfl)
theorem dX2_init_6 : decode cX2_init 6 = .ok (.putfield 7, 3) := dk_181 0 7 (dk_at dksX2_init_0 6 rfl rfl)
theorem dX2_init_9 : decode cX2_init 9 = .ok (.aload_n 0, 1) := dk_42 (dk_at dksX2_init_0 9 rfl rfl)
theorem dX2_init_10 : decode cX2_init 10 = .ok (.aconst_null, 1) := dk_1 (dk_at dksX2_init_0 10 rfl rfl)
theorem dX2_init_11 : decode cX2_init 11 = .ok (.putfield 13, 3) := dk_181 0 13 (dk_at dksX2_init_0 11 rfl rfl)
theorem dX2_init_14 : decode cX2_init 14 = .ok (.return_, 1) := dk_177 (dk_at dksX2_init_0 14 rfl rfl)
abbrev cX2_init_2 : ByteArray := prog_7_method_2_code
def yX2_init_2 : MethodName := ⟨RX2, "init", "(ZLCipherParameters;)V"⟩
def dkwX2_init_2_2 : List UInt8 := [104, 54, 4, 177]
abbrev dktX2_init_2_2 : List UInt8 := dkwX2_init_2_2 ++ []
def dkwX2_init_2_1 : List UInt8 := [16, 64, 188, 10, 181, 0, 13, 44, 192, 0, 17, 182, 0, 26, 78, 42, 45, 182, 0, 30, 45, 190, 16, 8]
abbrev dktX2_init_2_1 : List UInt8 := dkwX2_init_2_1 ++ dktX2_init_2_2
def dkwX2_init_2_0 : List UInt8 := [44, 193, 0, 17, 154, 0, 13, 187, 0, 19, 89, 18, 21, 183, 0, 23, 191, 42, 27, 181, 0, 7, 42]
abbrev dktX2_init_2_0 : List UInt8 := dkwX2_init_2_0 ++ dktX2_init_2_1
theorem dksX2_init_2_0 : cX2_init_2.data.toList.drop 0 = dktX2_init_2_0 := by decide +kernel
theorem dksX2_init_2_1 : cX2_init_2.data.toList.drop 23 = dktX2_init_2_1 := dk_seg dksX2_init_2_0 23 rfl rfl
theorem dksX2_init_2_2 : cX2_init_2.data.toList.drop 47 = dktX2_init_2_2 := dk_seg dksX2_init_2_1 24 rfl rfl
theorem dX2_init_2_0 : decode cX2_init_2 0 = .ok (.aload_n 2, 1) := dk_44 (dk_at dksX2_init_2_0 0 rfl rfl)
theorem dX2_init_2_1 : decode cX2_init_2 1 = .ok (.instanceof 17, 3) := dk_193 0 17 (dk_at dksX2_init_2_0 1 rfl rfl)
theorem dX2_init_2_4 : decode cX2_init_2 4 = .ok (.ifCond .ne 13, 3) := dk_154 0 13 (dk_at dksX2_init_2_0 4 rfl rfl)
theorem dX2_init_2_7 : decode cX2_init_2 7 = .ok (.new 19, 3) := dk_187 0 19 (dk_at dksX2_init_2_0 7 rfl rfl)
theorem dX2_init_2_10 : decode cX2_init_2 10 = .ok (.dup, 1) := dk_89 (dk_at dksX2_init_2_0 10 rfl rfl)
theorem dX2_init_2_11 : decode cX2_init_2 11 = .ok (.ldc 21, 2) := dk_18 21 (dk_at dksX2_init_2_0 11 rfl rfl)
theorem dX2_init_2_13 : decode cX2_init_2 13 = .ok (.invokespecial 23, 3) := dk_183 0 23 (dk_at dksX2_init_2_0 13 rfl rfl)
theorem dX2_init_2_16 : decode cX2_init_2 16 = .ok (.athrow, 1) := dk_191 (dk_at dksX2_init_2_0 16 rfl rfl)
theorem dX2_init_2_17 : decode cX2_init_2 17 = .ok (.aload_n 0, 1) := dk_42 (dk_at dksX2_init_2_0 17 rfl rfl)
theorem dX2_init_2_18 : decode cX2_init_2 18 = .ok (.iload_n 1, 1) := dk_27 (dk_at dksX2_init_2_0 18 rfl rfl)
theorem dX2_init_2_19 : decode cX2_init_2 19 = .ok (.putfield 7, 3) := dk_181 0 7 (dk_at dksX2_init_2_0 19 rfl rfl)
theorem dX2_init_2_22 : decode cX2_init_2 22 = .ok (.aload_n 0, 1) := dk_42 (dk_at dksX2_init_2_0 22 rfl rfl)
theorem dX2_init_2_23 : decode cX2_init_2 23 = .ok (.bipush 64, 2) := dk_16 64 (dk_at dksX2_init_2_1 0 rfl rfl)
theorem dX2_init_2_25 : decode cX2_init_2 25 = .ok (.newarray .int, 2) := dk_188_10 (dk_at dksX2_init_2_1 2 rfl rfl)
theorem dX2_init_2_27 : decode cX2_init_2 27 = .ok (.putfield 13, 3) := dk_181 0 13 (dk_at dksX2_init_2_1 4 rfl rfl)
theorem dX2_init_2_30 : decode cX2_init_2 30 = .ok (.aload_n 2, 1) := dk_44 (dk_at dksX2_init_2_1 7 rfl rfl)
theorem dX2_init_2_31 : decode cX2_init_2 31 = .ok (.checkcast 17, 3) := dk_192 0 17 (dk_at dksX2_init_2_1 8 rfl rfl)
theorem dX2_init_2_34 : decode cX2_init_2 34 = .ok (.invokevirtual 26, 3) := dk_182 0 26 (dk_at dksX2_init_2_1 11 rfl rfl)
theorem dX2_init_2_37 : decode cX2_init_2 37 = .ok (.astore_n 3, 1) := dk_78 (dk_at dksX2_init_2_1 14 rfl rfl)
theorem dX2_init_2_38 : decode cX2_init_2 38 = .ok (.aload_n 0, 1) := dk_42 (dk_at dksX2_init_2_1 15 rfl rfl)
theorem dX2_init_2_39 : decode cX2_init_2 39 = .ok (.aload_n 3, 1) := dk_45 (dk_at dksX2_init_2_1 16 rfl rfl)
theorem dX2_init_2_40 : decode cX2_init_2 40 = .ok (.invokevirtual 30, 3) := dk_182 0 30 (dk_at dksX2_init_2_1 17 rfl rfl)
theorem dX2_init_2_43 : decode cX2_init_2 43 = .ok (.aload_n 3, 1) := dk_45 (dk_at dksX2_init_2_1 20 rfl rfl)
theorem dX2_init_2_44 : decode cX2_init_2 44 = .ok (.arraylength, 1) := dk_190 (dk_at dksX2_init_2_1 21 rfl rfl)
theorem dX2_init_2_45 : decode cX2_init_2 45 = .ok (.bipush 8, 2) := dk_16 8 (dk_at dksX2_init_2_1 22 rfl rfl)
theorem dX2_init_2_47 : decode cX2_init_2 47 = .ok (.imul, 1) := dk_104 (dk_at dksX2_init_2_2 0 rfl rfl)
theorem dX2_init_2_48 : decode cX2_init_2 48 = .ok (.istore 4, 2) := dk_54 4 (dk_at dksX2_init_2_2 1 rfl rfl)
theorem dX2_init_2_50 : decode cX2_init_2 50 = .ok (.return_, 1) := dk_177 (dk_at dksX2_init_2_2 3 rfl rfl)
abbrev cX2_setKey : ByteArray := prog_7_method_3_code
def yX2_setKey : MethodName := ⟨RX2, "setKey", "([B)V"⟩
def dkwX2_setKey_8 : List UInt8 := [124, 130, 96, 42, 180, 0, 13, 28, 16, 16, 100, 46, 96, 79, 132, 2, 1, 167, 255, 98, 177]
abbrev dktX2_setKey_8 : List UInt8 := dkwX2_setKey_8 ++ []
def dkwX2_setKey_7 : List UInt8 := [42, 180, 0, 13, 28, 16, 15, 100, 46, 16, 238, 120, 128, 130, 42, 180, 0, 13, 28, 16, 15, 100, 46, 6]
abbrev dktX2_setKey_7 : List UInt8 := dkwX2_setKey_7 ++ dktX2_setKey_8
def dkwX2_setKey_6 : List UInt8 := [180, 0, 13, 28, 16, 15, 100, 46, 16, 249, 120, 128, 42, 180, 0, 13, 28, 16, 15, 100, 46, 16, 18, 124]
abbrev dktX2_setKey_6 : List UInt8 := dkwX2_setKey_6 ++ dktX2_setKey_7
def dkwX2_setKey_5 : List UInt8 := [130, 42, 180, 0, 13, 28, 16, 7, 100, 46, 96, 42, 180, 0, 13, 28, 16, 15, 100, 46, 16, 7, 124, 42]
abbrev dktX2_setKey_5 : List UInt8 := dkwX2_setKey_5 ++ dktX2_setKey_6
def dkwX2_setKey_4 : List UInt8 := [42, 180, 0, 13, 28, 5, 100, 46, 16, 237, 120, 128, 130, 42, 180, 0, 13, 28, 5, 100, 46, 16, 10, 124]
abbrev dktX2_setKey_4 : List UInt8 := dkwX2_setKey_4 ++ dktX2_setKey_5
def dkwX2_setKey_3 : List UInt8 := [124, 42, 180, 0, 13, 28, 5, 100, 46, 16, 239, 120, 128, 42, 180, 0, 13, 28, 5, 100, 46, 16, 19, 124]
abbrev dktX2_setKey_3 : List UInt8 := dkwX2_setKey_3 ++ dktX2_setKey_4
def dkwX2_setKey_2 : List UInt8 := [16, 16, 61, 28, 16, 64, 162, 0, 158, 42, 180, 0, 13, 28, 42, 180, 0, 13, 28, 5, 100, 46, 16, 17]
abbrev dktX2_setKey_2 : List UInt8 := dkwX2_setKey_2 ++ dktX2_setKey_3
def dkwX2_setKey_1 : List UInt8 := [153, 0, 13, 187, 0, 19, 89, 18, 34, 183, 0, 23, 191, 42, 43, 42, 180, 0, 13, 3, 3, 182, 0, 36]
abbrev dktX2_setKey_1 : List UInt8 := dkwX2_setKey_1 ++ dktX2_setKey_2
def dkwX2_setKey_0 : List UInt8 := [43, 190, 153, 0, 25, 43, 190, 16, 64, 163, 0, 18, 43, 190, 16, 16, 161, 0, 11, 43, 190, 16, 8, 112]
abbrev dktX2_setKey_0 : List UInt8 := dkwX2_setKey_0 ++ dktX2_setKey_1
theorem dksX2_setKey_0 : cX2_setKey.data.toList.drop 0 = dktX2_setKey_0 := by decide +kernel
theorem dksX2_setKey_1 : cX2_setKey.data.toList.drop 24 = dktX2_setKey_1 := dk_seg dksX2_setKey_0 24 rfl rfl
theorem dksX2_setKey_2 : cX2_setKey.data.toList.drop 48 = dktX2_setKey_2 := dk_seg dksX2_setKey_1 24 rfl rfl
theorem dksX2_setKey_3 : cX2_setKey.data.toList.drop 72 = dktX2_setKey_3 := dk_seg dksX2_setKey_2 24 rfl rfl
theorem dksX2_setKey_4 : cX2_setKey.data.toList.drop 96 = dktX2_setKey_4 := dk_seg dksX2_setKey_3 24 rfl rfl
theorem dksX2_setKey_5 : cX2_setKey.data.toList.drop 120 = dktX2_setKey_5 := dk_seg dksX2_setKey_4 24 rfl rfl
theorem dksX2_setKey_6 : cX2_setKey.data.toList.drop 144 = dktX2_setKey_6 := dk_seg dksX2_setKey_5 24 rfl rfl
theorem dksX2_setKey_7 : cX2_setKey.data.toList.drop 168 = dktX2_setKey_7 := dk_seg dksX2_setKey_6 24 rfl rfl
theorem dksX2_setKey_8 : cX2_setKey.data.toList.drop 192 = dktX2_setKey_8 := dk_seg dksX2_setKey_7 24 rfl rfl
theorem dX2_setKey_0 : decode cX2_setKey 0 = .ok (.aload_n 1, 1) := dk_43 (dk_at dksX2_setKey_0 0 rfl rfl)
theorem dX2_setKey_1 : decode cX2_setKey 1 = .ok (.arraylength, 1) := dk_190 (dk_at dksX2_setKey_0 1 rfl rfl)
theorem dX2_setKey_2 : decode cX2_setKey 2 = .ok (.ifCond .eq 25, 3) := dk_153 0 25 (dk_at dksX2_setKey_0 2 rfl rfl)
theorem dX2_setKey_5 : decode cX2_setKey 5 = .ok (.aload_n 1, 1) := dk_43 (dk_at dksX2_setKey_0 5 rfl rfl)
theorem dX2_setKey_6 : decode cX2_setKey 6 = .ok (.arraylength, 1) := dk_190 (dk_at dksX2_setKey_0 6 rfl rfl)
theorem dX2_setKey_7 : decode cX2_setKey 7 = .ok (.bipush 64, 2) := dk_16 64 (dk_at dksX2_setKey_0 7 rfl rfl)
theorem dX2_setKey_9 : decode cX2_setKey 9 = .ok (.if_icmp .gt 18, 3) := dk_163 0 18 (dk_at dksX2_setKey_0 9 rfl rfl)
theorem dX2_setKey_12 : decode cX2_setKey 12 = .ok (.aload_n 1, 1) := dk_43 (dk_at dksX2_setKey_0 12 rfl rfl)
theorem dX2_setKey_13 : decode cX2_setKey 13 = .ok (.arraylength, 1) := dk_190 (dk_at dksX2_setKey_0 13 rfl rfl)
theorem dX2_setKey_14 : decode cX2_setKey 14 = .ok (.bipush 16, 2) := dk_16 16 (dk_at dksX2_setKey_0 14 rfl rfl)
theorem dX2_setKey_16 : decode cX2_setKey 16 = .ok (.if_icmp .lt 11, 3) := dk_161 0 11 (dk_at dksX2_setKey_0 16 rfl rfl)
theorem dX2_setKey_19 : decode cX2_setKey 19 = .ok (.aload_n 1, 1) := dk_43 (dk_at dksX2_setKey_0 19 rfl rfl)
theorem dX2_setKey_20 : decode cX2_setKey 20 = .ok (.arraylength, 1) := dk_190 (dk_at dksX2_setKey_0 20 rfl rfl)
theorem dX2_setKey_21 : decode cX2_setKey 21 = .ok (.bipush 8, 2) := dk_16 8 (dk_at dksX2_setKey_0 21 rfl rfl)
theorem dX2_setKey_23 : decode cX2_setKey 23 = .ok (.irem, 1) := dk_112 (dk_at dksX2_setKey_0 23 rfl rfl)
theorem dX2_setKey_24 : decode cX2_setKey 24 = .ok (.ifCond .eq 13, 3) := dk_153 0 13 (dk_at dksX2_setKey_1 0 rfl rfl)
theorem dX2_setKey_27 : decode cX2_setKey 27 = .ok (.new 19, 3) := dk_187 0 19 (dk_at dksX2_setKey_1 3 rfl rfl)
theorem dX2_setKey_30 : decode cX2_setKey 30 = .ok (.dup, 1) := dk_89 (dk_at dksX2_setKey_1 6 rfl rfl)
theorem dX2_setKey_31 : decode cX2_setKey 31 = .ok (.ldc 34, 2) := dk_18 34 (dk_at dksX2_setKey_1 7 rfl rfl)
theorem dX2_setKey_33 : decode cX2_setKey 33 = .ok (.invokespecial 23, 3) := dk_183 0 23 (dk_at dksX2_setKey_1 9 rfl rfl)
theorem dX2_setKey_36 : decode cX2_setKey 36 = .ok (.athrow, 1) := dk_191 (dk_at dksX2_setKey_1 12 rfl rfl)
theorem dX2_setKey_37 : decode cX2_setKey 37 = .ok (.aload_n 0, 1) := dk_42 (dk_at dksX2_setKey_1 13 rfl rfl)
theorem dX2_setKey_38 : decode cX2_setKey 38 = .ok (.aload_n 1, 1) := dk_43 (dk_at dksX2_setKey_1 14 rfl rfl)
theorem dX2_setKey_39 : decode cX2_setKey 39 = .ok (.aload_n 0, 1) := dk_42 (dk_at dksX2_setKey_1 15 rfl rfl)
theorem dX2_setKey_40 : decode cX2_setKey 40 = .ok (.getfield 13, 3) := dk_180 0 13 (dk_at dksX2_setKey_1 16 rfl rfl)
theorem dX2_setKey_43 : decode cX2_setKey 43 = .ok (.iconst 0, 1) := dk_3 (dk_at dksX2_setKey_1 19 rfl rfl)
theorem dX2_setKey_44 : decode cX2_setKey 44 = .ok (.iconst 0, 1) := dk_3 (dk_at dksX2_setKey_1 20 rfl rfl)
theorem dX2_setKey_45 : decode cX2_setKey 45 = .ok (.invokevirtual 36, 3) := dk_182 0 36 (dk_at dksX2_setKey_1 21 rfl rfl)
theorem dX2_setKey_48 : decode cX2_setKey 48 = .ok (.bipush 16, 2) := dk_16 16 (dk_at dksX2_setKey_2 0 rfl rfl)
theorem dX2_setKey_50 : decode cX2_setKey 50 = .ok (.istore_n 2, 1) := dk_61 (dk_at dksX2_setKey_2 2 rfl rfl)
theorem dX2_setKey_51 : decode cX2_setKey 51 = .ok (.iload_n 2, 1) := dk_28 (dk_at dksX2_setKey_2 3 rfl rfl)
theorem dX2_setKey_52 : decode cX2_setKey 52 = .ok (.bipush 64, 2) := dk_16 64 (dk_at dksX2_setKey_2 4 rfl rfl)
theorem dX2_setKey_54 : decode cX2_setKey 54 = .ok (.if_icmp .ge 158, 3) := dk_162 0 158 (dk_at dksX2_setKey_2 6 rfl rfl)
theorem dX2_setKey_57 : decode cX2_setKey 57 = .ok (.aload_n 0, 1) := dk_42 (dk_at dksX2_setKey_2 9 rfl rfl)
theorem dX2_setKey_58 : decode cX2_setKey 58 = .ok (.getfield 13, 3) := dk_180 0 13 (dk_at dksX2_setKey_2 10 rfl rfl)
theorem dX2_setKey_61 : decode cX2_setKey 61 = .ok (.iload_n 2, 1) := dk_28 (dk_at dksX2_setKey_2 13 rfl rfl)
theorem dX2_setKey_62 : decode cX2_setKey 62 = .ok (.aload_n 0, 1) := dk_42 (dk_at dksX2_setKey_2 14 rfl rfl)
theorem dX2_setKey_63 : decode cX2_setKey 63 = .ok (.getfield 13, 3) := dk_180 0 13 (dk_at dksX2_setKey_2 15 rfl rfl)
theorem dX2_setKey_66 : decode cX2_setKey 66 = .ok (.iload_n 2, 1) := dk_28 (dk_at dksX2_setKey_2 18 rfl rfl)
theorem dX2_setKey_67 : decode cX2_setKey 67 = .ok (.iconst 2, 1) := dk_5 (dk_at dksX2_setKey_2 19 rfl rfl)
theorem dX2_setKey_68 : decode cX2_setKey 68 = .ok (.isub, 1) := dk_100 (dk_at dksX2_setKey_2 20 rfl rfl)
theorem dX2_setKey_69 : decode cX2_setKey 69 = .ok (.iaload, 1) := dk_46 (dk_at dksX2_setKey_2 21 rfl rfl)
theorem dX2_setKey_70 : decode cX2_setKey 70 = .ok (.bipush 17, 2) := dk_16 17 (dk_at dksX2_setKey_2 22 rfl rfl)
theorem dX2_setKey_72 : decode cX2_setKey 72 = .ok (.iushr, 1) := dk_124 (dk_at dksX2_setKey_3 0 rfl rfl)
theorem dX2_setKey_73 : decode cX2_setKey 73 = .ok (.aload_n 0, 1) := dk_42 (dk_at dksX2_setKey_3 1 rfl rfl)
theorem dX2_setKey_74 : decode cX2_setKey 74 = .ok (.getfield 13, 3) := dk_180 0 13 (dk_at dksX2_setKey_3 2 rfl rfl)
theorem dX2_setKey_77 : decode cX2_setKey 77 = .ok (.iload_n 2, 1) := dk_28 (dk_at dksX2_setKey_3 5 rfl rfl)
theorem dX2_setKey_78 : decode cX2_setKey 78 = .ok (.iconst 2, 1) := dk_5 (dk_at dksX2_setKey_3 6 rfl rfl)
theorem dX2_setKey_79 : decode cX2_setKey 79 = .ok (.isub, 1) := dk_100 (dk_at dksX2_setKey_3 7 rfl rfl)
theorem dX2_setKey_80 : decode cX2_setKey 80 = .ok (.iaload, 1) := dk_46 (dk_at dksX2_setKey_3 8 rfl rfl)
theorem dX2_setKey_81 : decode cX2_setKey 81 = .ok (.bipush (-17), 2) := dk_16 239 (dk_at dksX2_setKey_3 9 rfl rfl)
theorem dX2_setKey_83 : decode cX2_setKey 83 = .ok (.ishl, 1) := dk_120 (dk_at dksX2_setKey_3 11 rfl rfl)
theorem dX2_setKey_84 : decode cX2_setKey 84 = .ok (.ior, 1) := dk_128 (dk_at dksX2_setKey_3 12 rfl rfl)
theorem dX2_setKey_85 : decode cX2_setKey 85 = .ok (.aload_n 0, 1) := dk_42 (dk_at dksX2_setKey_3 13 rfl rfl)
theorem dX2_setKey_86 : decode cX2_setKey 86 = .ok (.getfield 13, 3) := dk_180 0 13 (dk_at dksX2_setKey_3 14 rfl rfl)
theorem dX2_setKey_89 : decode cX2_setKey 89 = .ok (.iload_n 2, 1) := dk_28 (dk_at dksX2_setKey_3 17 rfl rfl)
theorem dX2_setKey_90 : decode cX2_setKey 90 = .ok (.iconst 2, 1) := dk_5 (dk_at dksX2_setKey_3 18 rfl rfl)
theorem dX2_setKey_91 : decode cX2_setKey 91 = .ok (.isub, 1) := dk_100 (dk_at dksX2_setKey_3 19 rfl rfl)
theorem dX2_setKey_92 : decode cX2_setKey 92 = .ok (.iaload, 1) := dk_46 (dk_at dksX2_setKey_3 20 rfl rfl)
theorem dX2_setKey_93 : decode cX2_setKey 93 = .ok (.bipush 19, 2) := dk_16 19 (dk_at dksX2_setKey_3 21 rfl rfl)
theorem dX2_setKey_95 : decode cX2_setKey 95 = .ok (.iushr, 1) := dk_124 (dk_at dksX2_setKey_3 23 rfl rfl)
theorem dX2_setKey_96 : decode cX2_setKey 96 = .ok (.aload_n 0, 1) := dk_42 (dk_at dksX2_setKey_4 0 rfl rfl)
theorem dX2_setKey_97 : decode cX2_setKey 97 = .ok (.getfield 13, 3) := dk_180 0 13 (dk_at dksX2_setKey_4 1 rfl rfl)
theorem dX2_setKey_100 : decode cX2_setKey 100 = .ok (.iload_n 2, 1) := dk_28 (dk_at dksX2_setKey_4 4 rfl rfl)
theorem dX2_setKey_101 : decode cX2_setKey 101 = .ok (.iconst 2, 1) := dk_5 (dk_at dksX2_setKey_4 5 rfl rfl)
theorem dX2_setKey_102 : decode cX2_setKey 102 = .ok (.isub, 1) := dk_100 (dk_at dksX2_setKey_4 6 rfl rfl)
theorem dX2_setKey_103 : decode cX2_setKey 103 = .ok (.iaload, 1) := dk_46 (dk_at dksX2_setKey_4 7 rfl rfl)
theorem dX2_setKey_104 : decode cX2_setKey 104 = .ok (.bipush (-19), 2) := dk_16 237 (dk_at dksX2_setKey_4 8 rfl rfl)
theorem dX2_setKey_106 : decode cX2_setKey 106 = .ok (.ishl, 1) := dk_120 (dk_at dksX2_setKey_4 10 rfl rfl)
theorem dX2_setKey_107 : decode cX2_setKey 107 = .ok (.ior, 1) := dk_128 (dk_at dksX2_setKey_4 11 rfl rfl)
theorem dX2_setKey_108 : decode cX2_setKey 108 = .ok (.ixor, 1) := dk_130 (dk_at dksX2_setKey_4 12 rfl rfl)
theorem dX2_setKey_109 : decode cX2_setKey 109 = .ok (.aload_n 0, 1) := dk_42 (dk_at dksX2_setKey_4 13 rfl rfl)
theorem dX2_setKey_110 : decode cX2_setKey 110 = .ok (.getfield 13, 3) := dk_180 0 13 (dk_at dksX2_setKey_4 14 rfl rfl)
theorem dX2_setKey_113 : decode cX2_setKey 113 = .ok (.iload_n 2, 1) := dk_28 (dk_at dksX2_setKey_4 17 rfl rfl)
theorem dX2_setKey_114 : decode cX2_setKey 114 = .ok (.iconst 2, 1) := dk_5 (dk_at dksX2_setKey_4 18 rfl rfl)
theorem dX2_setKey_115 : decode cX2_setKey 115 = .ok (.isub, 1) := dk_100 (dk_at dksX2_setKey_4 19 rfl rfl)
theorem dX2_setKey_116 : decode cX2_setKey 116 = .ok (.iaload, 1) := dk_46 (dk_at dksX2_setKey_4 20 rfl rfl)
theorem dX2_setKey_117 : decode cX2_setKey 117 = .ok (.bipush 10, 2) := dk_16 10 (dk_at dksX2_setKey_4 21 rfl rfl)
theorem dX2_setKey_119 : decode cX2_setKey 119 = .ok (.iushr, 1) := dk_124 (dk_at dksX2_setKey_4 23 rfl rfl)
theorem dX2_setKey_120 : decode cX2_setKey 120 = .ok (.ixor, 1) := dk_130 (dk_at dksX2_setKey_5 0 rfl rfl)
theorem dX2_setKey_121 : decode cX2_setKey 121 = .ok (.aload_n 0, 1) := dk_42 (dk_at dksX2_setKey_5 1 rfl rfl)
theorem dX2_setKey_122 : decode cX2_setKey 122 = .ok (.getfield 13, 3) := dk_180 0 13 (dk_at dksX2_setKey_5 2 rfl rfl)
theorem dX2_setKey_125 : decode cX2_setKey 125 = .ok (.iload_n 2, 1) := dk_28 (dk_at dksX2_setKey_5 5 rfl rfl)
theorem dX2_setKey_126 : decode cX2_setKey 126 = .ok (.bipush 7, 2) := dk_16 7 (dk_at dksX2_setKey_5 6 rfl rfl)
theorem dX2_setKey_128 : decode cX2_setKey 128 = .ok (.isub, 1) := dk_100 (dk_at dksX2_setKey_5 8 rfl rfl)
theorem dX2_setKey_129 : decode cX2_setKey 129 = .ok (.iaload, 1) := dk_46 (dk_at dksX2_setKey_5 9 rfl rfl)
theorem dX2_setKey_130 : decode cX2_setKey 130 = .ok (.iadd, 1) := dk_96 (dk_at dksX2_setKey_5 10 rfl rfl)
theorem dX2_setKey_131 : decode cX2_setKey 131 = .ok (.aload_n 0, 1) := dk_42 (dk_at dksX2_setKey_5 11 rfl rfl)
theorem dX2_setKey_132 : decode cX2_setKey 132 = .ok (.getfield 13, 3) := dk_180 0 13 (dk_at dksX2_setKey_5 12 rfl rfl)
theorem dX2_setKey_135 : decode cX2_setKey 135 = .ok (.iload_n 2, 1) := dk_28 (dk_at dksX2_setKey_5 15 rfl rfl)
theorem dX2_setKey_136 : decode cX2_setKey 136 = .ok (.bipush 15, 2) := dk_16 15 (dk_at dksX2_setKey_5 16 rfl rfl)
theorem dX2_setKey_138 : decode cX2_setKey 138 = .ok (.isub, 1) := dk_100 (dk_at dksX2_setKey_5 18 rfl rfl)
theorem dX2_setKey_139 : decode cX2_setKey 139 = .ok (.iaload, 1) := dk_46 (dk_at dksX2_setKey_5 19 rfl rfl)
theorem dX2_setKey_140 : decode cX2_setKey 140 = .ok (.bipush 7, 2) := dk_16 7 (dk_at dksX2_setKey_5 20 rfl rfl)
theorem dX2_setKey_142 : decode cX2_setKey 142 = .ok (.iushr, 1) := dk_124 (dk_at dksX2_setKey_5 22 rfl rfl)
theorem dX2_setKey_143 : decode cX2_setKey 143 = .ok (.aload_n 0, 1) := dk_42 (dk_at dksX2_setKey_5 23 rfl rfl)
theorem dX2_setKey_144 : decode cX2_setKey 144 = .ok (.getfield 13, 3) := dk_180 0 13 (dk_at dksX2_setKey_6 0 rfl rfl)
theorem dX2_setKey_147 : decode cX2_setKey 147 = .ok (.iload_n 2, 1) := dk_28 (dk_at dksX2_setKey_6 3 rfl rfl)
theorem dX2_setKey_148 : decode cX2_setKey 148 = .ok (.bipush 15, 2) := dk_16 15 (dk_at dksX2_setKey_6 4 rfl rfl)
theorem dX2_setKey_150 : decode cX2_setKey 150 = .ok (.isub, 1) := dk_100 (dk_at dksX2_setKey_6 6 rfl rfl)
theorem dX2_setKey_151 : decode cX2_setKey 151 = .ok (.iaload, 1) := dk_46 (dk_at dksX2_setKey_6 7 rfl rfl)
theorem dX2_setKey_152 : decode cX2_setKey 152 = .ok (.bipush (-7), 2) := dk_16 249 (dk_at dksX2_setKey_6 8 rfl rfl)
theorem dX2_setKey_154 : decode cX2_setKey 154 = .ok (.ishl, 1) := dk_120 (dk_at dksX2_setKey_6 10 rfl rfl)
theorem dX2_setKey_155 : decode cX2_setKey 155 = .ok (.ior, 1) := dk_128 (dk_at dksX2_setKey_6 11 rfl rfl)
theorem dX2_setKey_156 : decode cX2_setKey 156 = .ok (.aload_n 0, 1) := dk_42 (dk_at dksX2_setKey_6 12 rfl rfl)
theorem dX2_setKey_157 : decode cX2_setKey 157 = .ok (.getfield 13, 3) := dk_180 0 13 (dk_at dksX2_setKey_6 13 rfl rfl)
theorem dX2_setKey_160 : decode cX2_setKey 160 = .ok (.iload_n 2, 1) := dk_28 (dk_at dksX2_setKey_6 16 rfl rfl)
theorem dX2_setKey_161 : decode cX2_setKey 161 = .ok (.bipush 15, 2) := dk_16 15 (dk_at dksX2_setKey_6 17 rfl rfl)
theorem dX2_setKey_163 : decode cX2_setKey 163 = .ok (.isub, 1) := dk_100 (dk_at dksX2_setKey_6 19 rfl rfl)
theorem dX2_setKey_164 : decode cX2_setKey 164 = .ok (.iaload, 1) := dk_46 (dk_at dksX2_setKey_6 20 rfl rfl)
theorem dX2_setKey_165 : decode cX2_setKey 165 = .ok (.bipush 18, 2) := dk_16 18 (dk_at dksX2_setKey_6 21 rfl rfl)
theorem dX2_setKey_167 : decode cX2_setKey 167 = .ok (.iushr, 1) := dk_124 (dk_at dksX2_setKey_6 23 rfl rfl)
theorem dX2_setKey_168 : decode cX2_setKey 168 = .ok (.aload_n 0, 1) := dk_42 (dk_at dksX2_setKey_7 0 rfl rfl)
theorem dX2_setKey_169 : decode cX2_setKey 169 = .ok (.getfield 13, 3) := dk_180 0 13 (dk_at dksX2_setKey_7 1 rfl rfl)
theorem dX2_setKey_172 : decode cX2_setKey 172 = .ok (.iload_n 2, 1) := dk_28 (dk_at dksX2_setKey_7 4 rfl rfl)
theorem dX2_setKey_173 : decode cX2_setKey 173 = .ok (.bipush 15, 2) := dk_16 15 (dk_at dksX2_setKey_7 5 rfl rfl)
theorem dX2_setKey_175 : decode cX2_setKey 175 = .ok (.isub, 1) := dk_100 (dk_at dksX2_setKey_7 7 rfl rfl)
theorem dX2_setKey_176 : decode cX2_setKey 176 = .ok (.iaload, 1) := dk_46 (dk_at dksX2_setKey_7 8 rfl rfl)
theorem dX2_setKey_177 : decode cX2_setKey 177 = .ok (.bipush (-18), 2) := dk_16 238 (dk_at dksX2_setKey_7 9 rfl rfl)
theorem dX2_setKey_179 : decode cX2_setKey 179 = .ok (.ishl, 1) := dk_120 (dk_at dksX2_setKey_7 11 rfl rfl)
theorem dX2_setKey_180 : decode cX2_setKey 180 = .ok (.ior, 1) := dk_128 (dk_at dksX2_setKey_7 12 rfl rfl)
theorem dX2_setKey_181 : decode cX2_setKey 181 = .ok (.ixor, 1) := dk_130 (dk_at dksX2_setKey_7 13 rfl rfl)
theorem dX2_setKey_182 : decode cX2_setKey 182 = .ok (.aload_n 0, 1) := dk_42 (dk_at dksX2_setKey_7 14 rfl rfl)
theorem dX2_setKey_183 : decode cX2_setKey 183 = .ok (.getfield 13, 3) := dk_180 0 13 (dk_at dksX2_setKey_7 15 rfl rfl)
theorem dX2_setKey_186 : decode cX2_setKey 186 = .ok (.iload_n 2, 1) := dk_28 (dk_at dksX2_setKey_7 18 rfl rfl)
theorem dX2_setKey_187 : decode cX2_setKey 187 = .ok (.bipush 15, 2) := dk_16 15 (dk_at dksX2_setKey_7 19 rfl rfl)
theorem dX2_setKey_189 : decode cX2_setKey 189 = .ok (.isub, 1) := dk_100 (dk_at dksX2_setKey_7 21 rfl rfl)
theorem dX2_setKey_190 : decode cX2_setKey 190 = .ok (.iaload, 1) := dk_46 (dk_at dksX2_setKey_7 22 rfl rfl)
theorem dX2_setKey_191 : decode cX2_setKey 191 = .ok (.iconst 3, 1) := dk_6 (dk_at dksX2_setKey_7 23 rfl rfl)
theorem dX2_setKey_192 : decode cX2_setKey 192 = .ok (.iushr, 1) := dk_124 (dk_at dksX2_setKey_8 0 rfl rfl)
theorem dX2_setKey_193 : decode cX2_setKey 193 = .ok (.ixor, 1) := dk_130 (dk_at dksX2_setKey_8 1 rfl rfl)
theorem dX2_setKey_194 : decode cX2_setKey 194 = .ok (.iadd, 1) := dk_96 (dk_at dksX2_setKey_8 2 rfl rfl)
theorem dX2_setKey_195 : decode cX2_setKey 195 = .ok (.aload_n 0, 1) := dk_42 (dk_at dksX2_setKey_8 3 rfl rfl)
theorem dX2_setKey_196 : decode cX2_setKey 196 = .ok (.getfield 13, 3) := dk_180 0 13 (dk_at dksX2_setKey_8 4 rfl rfl)
theorem dX2_setKey_199 : decode cX2_setKey 199 = .ok (.iload_n 2, 1) := dk_28 (dk_at dksX2_setKey_8 7 rfl rfl)
theorem dX2_setKey_200 : decode cX2_setKey 200 = .ok (.bipush 16, 2) := dk_16 16 (dk_at dksX2_setKey_8 8 rfl rfl)
theorem dX2_setKey_202 : decode cX2_setKey 202 = .ok (.isub, 1) := dk_100 (dk_at dksX2_setKey_8 10 rfl rfl)
theorem dX2_setKey_203 : decode cX2_setKey 203 = .ok (.iaload, 1) := dk_46 (dk_at dksX2_setKey_8 11 rfl rfl)
theorem dX2_setKey_204 : decode cX2_setKey 204 = .ok (.iadd, 1) := dk_96 (dk_at dksX2_setKey_8 12 rfl rfl)
theorem dX2_setKey_205 : decode cX2_setKey 205 = .ok (.iastore, 1) := dk_79 (dk_at dksX2_setKey_8 13 rfl rfl)
theorem dX2_setKey_206 : decode cX2_setKey 206 = .ok (.iinc 2 1, 3) := dk_132 2 1 (dk_at dksX2_setKey_8 14 rfl rfl)
theorem dX2_setKey_209 : decode cX2_setKey 209 = .ok (.goto (-158), 3) := dk_167 255 98 (dk_at dksX2_setKey_8 17 rfl rfl)
theorem dX2_setKey_212 : decode cX2_setKey 212 = .ok (.return_, 1) := dk_177 (dk_at dksX2_setKey_8 20 rfl rfl)
abbrev cX2_bytes2ints : ByteArray := prog_7_method_8_code
def yX2_bytes2ints : MethodName := ⟨RX2, "bytes2ints", "([B[III)V"⟩
def dkwX2_bytes2ints_3 : List UInt8 := [132, 5, 1, 167, 255, 188, 177]
abbrev dktX2_bytes2ints_3 : List UInt8 := dkwX2_bytes2ints_3 ++ []
def dkwX2_bytes2ints_2 : List UInt8 := [132, 3, 1, 51, 17, 0, 255, 126, 16, 8, 120, 128, 43, 29, 132, 3, 1, 51, 17, 0, 255, 126, 128, 79]
abbrev dktX2_bytes2ints_2 : List UInt8 := dkwX2_bytes2ints_2 ++ dktX2_bytes2ints_3
def dkwX2_bytes2ints_1 : List UInt8 := [17, 0, 255, 126, 16, 24, 120, 43, 29, 132, 3, 1, 51, 17, 0, 255, 126, 16, 16, 120, 128, 43, 29]
abbrev dktX2_bytes2ints_1 : List UInt8 := dkwX2_bytes2ints_1 ++ dktX2_bytes2ints_2
def dkwX2_bytes2ints_0 : List UInt8 := [21, 4, 54, 5, 21, 5, 43, 190, 7, 108, 162, 0, 65, 44, 21, 5, 43, 29, 132, 3, 1, 51]
abbrev dktX2_bytes2ints_0 : List UInt8 := dkwX2_bytes2ints_0 ++ dktX2_bytes2ints_1
theorem dksX2_bytes2ints_0 : cX2_bytes2ints.data.toList.drop 0 = dktX2_bytes2ints_0 := by decide +kernel
theorem dksX2_bytes2ints_1 : cX2_bytes2ints.data.toList.drop 22 = dktX2_bytes2ints_1 := dk_seg dksX2_bytes2ints_0 22 rfl rfl
theorem dksX2_bytes2ints_2 : cX2_bytes2ints.data.toList.drop 45 = dktX2_bytes2ints_2 := dk_seg dksX2_bytes2ints_1 23 rfl rfl
theorem dksX2_bytes2ints_3 : cX2_bytes2ints.data.toList.drop 69 = dktX2_bytes2ints_3 := dk_seg dksX2_bytes2ints_2 24 rfl rfl
theorem dX2_bytes2ints_0 : decode cX2_bytes2ints 0 = .ok (.iload 4, 2) := dk_21 4 (dk_at dksX2_bytes2ints_0 0 rfl rfl)
theorem dX2_bytes2ints_2 : decode cX2_bytes2ints 2 = .ok (.istore 5, 2) := dk_54 5 (dk_at dksX2_bytes2ints_0 2 rfl rfl)
theorem dX2_bytes2ints_4 : decode cX2_bytes2ints 4 = .ok (.iload 5, 2) := dk_21 5 (dk_at dksX2_bytes2ints_0 4 rfl rfl)
theorem dX2_bytes2ints_6 : decode cX2_bytes2ints 6 = .ok (.aload_n 1, 1) := dk_43 (dk_at dksX2_bytes2ints_0 6 rfl rfl)
theorem dX2_bytes2ints_7 : decode cX2_bytes2ints 7 = .ok (.arraylength, 1) := dk_190 (dk_at dksX2_bytes2ints_0 7 rfl rfl)
theorem dX2_bytes2ints_8 : decode cX2_bytes2ints 8 = .ok (.iconst 4, 1) := dk_7 (dk_at dksX2_bytes2ints_0 8 rfl rfl)
theorem dX2_bytes2ints_9 : decode cX2_bytes2ints 9 = .ok (.idiv, 1) := dk_108 (dk_at dksX2_bytes2ints_0 9 rfl rfl)
theorem dX2_bytes2ints_10 : decode cX2_bytes2ints 10 = .ok (.if_icmp .ge 65, 3) := dk_162 0 65 (dk_at dksX2_bytes2ints_0 10 rfl rfl)
theorem dX2_bytes2ints_13 : decode cX2_bytes2ints 13 = .ok (.aload_n 2, 1) := dk_44 (dk_at dksX2_bytes2ints_0 13 rfl rfl)
theorem dX2_bytes2ints_14 : decode cX2_bytes2ints 14 = .ok (.iload 5, 2) := dk_21 5 (dk_at dksX2_bytes2ints_0 14 rfl rfl)
theorem dX2_bytes2ints_16 : decode cX2_bytes2ints 16 = .ok (.aload_n 1, 1) := dk_43 (dk_at dksX2_bytes2ints_0 16 rfl rfl)
theorem dX2_bytes2ints_17 : decode cX2_bytes2ints 17 = .ok (.iload_n 3, 1) := dk_29 (dk_at dksX2_bytes2ints_0 17 rfl rfl)
theorem dX2_bytes2ints_18 : decode cX2_bytes2ints 18 = .ok (.iinc 3 1, 3) := dk_132 3 1 (dk_at dksX2_bytes2ints_0 18 rfl rfl)
theorem dX2_bytes2ints_21 : decode cX2_bytes2ints 21 = .ok (.baload, 1) := dk_51 (dk_at dksX2_bytes2ints_0 21 rfl rfl)
theorem dX2_bytes2ints_22 : decode cX2_bytes2ints 22 = .ok (.sipush 255, 3) := dk_17 0 255 (dk_at dksX2_bytes2ints_1 0 rfl rfl)
theorem dX2_bytes2ints_25 : decode cX2_bytes2ints 25 = .ok (.iand, 1) := dk_126 (dk_at dksX2_bytes2ints_1 3 rfl rfl)
theorem dX2_bytes2ints_26 : decode cX2_bytes2ints 26 = .ok (.bipush 24, 2) := dk_16 24 (dk_at dksX2_bytes2ints_1 4 rfl rfl)
theorem dX2_bytes2ints_28 : decode cX2_bytes2ints 28 = .ok (.ishl, 1) := dk_120 (dk_at dksX2_bytes2ints_1 6 rfl rfl)
theorem dX2_bytes2ints_29 : decode cX2_bytes2ints 29 = .ok (.aload_n 1, 1) := dk_43 (dk_at dksX2_bytes2ints_1 7 rfl rfl)
theorem dX2_bytes2ints_30 : decode cX2_bytes2ints 30 = .ok (.iload_n 3, 1) := dk_29 (dk_at dksX2_bytes2ints_1 8 rfl rfl)
theorem dX2_bytes2ints_31 : decode cX2_bytes2ints 31 = .ok (.iinc 3 1, 3) := dk_132 3 1 (dk_at dksX2_bytes2ints_1 9 rfl rfl)
theorem dX2_bytes2ints_34 : decode cX2_bytes2ints 34 = .ok (.baload, 1) := dk_51 (dk_at dksX2_bytes2ints_1 12 rfl rfl)
theorem dX2_bytes2ints_35 : decode cX2_bytes2ints 35 = .ok (.sipush 255, 3) := dk_17 0 255 (dk_at dksX2_bytes2ints_1 13 rfl rfl)
theorem dX2_bytes2ints_38 : decode cX2_bytes2ints 38 = .ok (.iand, 1) := dk_126 (dk_at dksX2_bytes2ints_1 16 rfl rfl)
theorem dX2_bytes2ints_39 : decode cX2_bytes2ints 39 = .ok (.bipush 16, 2) := dk_16 16 (dk_at dksX2_bytes2ints_1 17 rfl rfl)
theorem dX2_bytes2ints_41 : decode cX2_bytes2ints 41 = .ok (.ishl, 1) := dk_120 (dk_at dksX2_bytes2ints_1 19 rfl rfl)
theorem dX2_bytes2ints_42 : decode cX2_bytes2ints 42 = .ok (.ior, 1) := dk_128 (dk_at dksX2_bytes2ints_1 20 rfl rfl)
theorem dX2_bytes2ints_43 : decode cX2_bytes2ints 43 = .ok (.aload_n 1, 1) := dk_43 (dk_at dksX2_bytes2ints_1 21 rfl rfl)
theorem dX2_bytes2ints_44 : decode cX2_bytes2ints 44 = .ok (.iload_n 3, 1) := dk_29 (dk_at dksX2_bytes2ints_1 22 rfl rfl)
theorem dX2_bytes2ints_45 : decode cX2_bytes2ints 45 = .ok (.iinc 3 1, 3) := dk_132 3 1 (dk_at dksX2_bytes2ints_2 0 rfl rfl)
theorem dX2_bytes2ints_48 : decode cX2_bytes2ints 48 = .ok (.baload, 1) := dk_51 (dk_at dksX2_bytes2ints_2 3 rfl rfl)
theorem dX2_bytes2ints_49 : decode cX2_bytes2ints 49 = .ok (.sipush 255, 3) := dk_17 0 255 (dk_at dksX2_bytes2ints_2 4 rfl rfl)
theorem dX2_bytes2ints_52 : decode cX2_bytes2ints 52 = .ok (.iand, 1) := dk_126 (dk_at dksX2_bytes2ints_2 7 rfl rfl)
theorem dX2_bytes2ints_53 : decode cX2_bytes2ints 53 = .ok (.bipush 8, 2) := dk_16 8 (dk_at dksX2_bytes2ints_2 8 rfl rfl)
theorem dX2_bytes2ints_55 : decode cX2_bytes2ints 55 = .ok (.ishl, 1) := dk_120 (dk_at dksX2_bytes2ints_2 10 rfl rfl)
theorem dX2_bytes2ints_56 : decode cX2_bytes2ints 56 = .ok (.ior, 1) := dk_128 (dk_at dksX2_bytes2ints_2 11 rfl rfl)
theorem dX2_bytes2ints_57 : decode cX2_bytes2ints 57 = .ok (.aload_n 1, 1) := dk_43 (dk_at dksX2_bytes2ints_2 12 rfl rfl)
theorem dX2_bytes2ints_58 : decode cX2_bytes2ints 58 = .ok (.iload_n 3, 1) := dk_29 (dk_at dksX2_bytes2ints_2 13 rfl rfl)
theorem dX2_bytes2ints_59 : decode cX2_bytes2ints 59 = .ok (.iinc 3 1, 3) := dk_132 3 1 (dk_at dksX2_bytes2ints_2 14 rfl rfl)
theorem dX2_bytes2ints_62 : decode cX2_bytes2ints 62 = .ok (.baload, 1) := dk_51 (dk_at dksX2_bytes2ints_2 17 rfl rfl)
theorem dX2_bytes2ints_63 : decode cX2_bytes2ints 63 = .ok (.sipush 255, 3) := dk_17 0 255 (dk_at dksX2_bytes2ints_2 18 rfl rfl)
theorem dX2_bytes2ints_66 : decode cX2_bytes2ints 66 = .ok (.iand, 1) := dk_126 (dk_at dksX2_bytes2ints_2 21 rfl rfl)
theorem dX2_bytes2ints_67 : decode cX2_bytes2ints 67 = .ok (.ior, 1) := dk_128 (dk_at dksX2_bytes2ints_2 22 rfl rfl)
theorem dX2_bytes2ints_68 : decode cX2_bytes2ints 68 = .ok (.iastore, 1) := dk_79 (dk_at dksX2_bytes2ints_2 23 rfl rfl)
theorem dX2_bytes2ints_69 : decode cX2_bytes2ints 69 = .ok (.iinc 5 1, 3) := dk_132 5 1 (dk_at dksX2_bytes2ints_3 0 rfl rfl)
theorem dX2_bytes2ints_72 : decode cX2_bytes2ints 72 = .ok (.goto (-68), 3) := dk_167 255 188 (dk_at dksX2_bytes2ints_3 3 rfl rfl)
theorem dX2_bytes2ints_75 : decode cX2_bytes2ints 75 = .ok (.return_, 1) := dk_177 (dk_at dksX2_bytes2ints_3 6 rfl rfl)
abbrev cX2_processBlock : ByteArray := prog_7_method_6_code
def yX2_processBlock : MethodName := ⟨RX2, "processBlock", "([BI[BI)I"⟩
def dkwX2_processBlock_3 : List UInt8 := [182, 0, 65, 167, 0, 12, 42, 43, 28, 45, 21, 4, 182, 0, 69, 16, 32, 172]
abbrev dktX2_processBlock_3 : List UInt8 := dkwX2_processBlock_3 ++ []
def dkwX2_processBlock_2 : List UInt8 := [187, 0, 60, 89, 18, 62, 183, 0, 64, 191, 42, 180, 0, 7, 153, 0, 15, 42, 43, 28, 45, 21, 4]
abbrev dktX2_processBlock_2 : List UInt8 := dkwX2_processBlock_2 ++ dktX2_processBlock_3
def dkwX2_processBlock_1 : List UInt8 := [164, 0, 13, 187, 0, 55, 89, 18, 57, 183, 0, 59, 191, 21, 4, 16, 32, 96, 45, 190, 164, 0, 13]
abbrev dktX2_processBlock_1 : List UInt8 := dkwX2_processBlock_1 ++ dktX2_processBlock_2
def dkwX2_processBlock_0 : List UInt8 := [42, 180, 0, 13, 199, 0, 13, 187, 0, 50, 89, 18, 52, 183, 0, 54, 191, 28, 16, 32, 96, 43, 190]
abbrev dktX2_processBlock_0 : List UInt8 := dkwX2_processBlock_0 ++ dktX2_processBlock_1
theorem dksX2_processBlock_0 : cX2_processBlock.data.toList.drop 0 = dktX2_processBlock_0 := by decide +kernel
theorem dksX2_processBlock_1 : cX2_processBlock.data.toList.drop 23 = dktX2_processBlock_1 := dk_seg dksX2_processBlock_0 23 rfl rfl
theorem dksX2_processBlock_2 : cX2_processBlock.data.toList.drop 46 = dktX2_processBlock_2 := dk_seg dksX2_processBlock_1 23 rfl rfl
theorem dksX2_processBlock_3 : cX2_processBlock.data.toList.drop 69 = dktX2_processBlock_3 := dk_seg dksX2_processBlock_2 23 rfl rfl
theorem dX2_processBlock_0 : decode cX2_processBlock 0 = .ok (.aload_n 0, 1) := dk_42 (dk_at dksX2_processBlock_0 0 rfl rfl)
theorem dX2_processBlock_1 : decode cX2_processBlock 1 = .ok (.getfield 13, 3) := dk_180 0 13 (dk_at dksX2_processBlock_0 1 rfl rfl)
theorem dX2_processBlock_4 : decode cX2_processBlock 4 = .ok (.ifnonnull 13, 3) := dk_199 0 13 (dk_at dksX2_processBlock_0 4 rfl rfl)
theorem dX2_processBlock_7 : decode cX2_processBlock 7 = .ok (.new 50, 3) := dk_187 0 50 (dk_at dksX2_processBlock_0 7 rfl rfl)
theorem dX2_processBlock_10 : decode cX2_processBlock 10 = .ok (.dup, 1) := dk_89 (dk_at dksX2_processBlock_0 10 rfl rfl)
theorem dX2_processBlock_11 : decode cX2_processBlock 11 = .ok (.ldc 52, 2) := dk_18 52 (dk_at dksX2_processBlock_0 11 rfl rfl)
theorem dX2_processBlock_13 : decode cX2_processBlock 13 = .ok (.invokespecial 54, 3) := dk_183 0 54 (dk_at dksX2_processBlock_0 13 rfl rfl)
theorem dX2_processBlock_16 : decode cX2_processBlock 16 = .ok (.athrow, 1) := dk_191 (dk_at dksX2_processBlock_0 16 rfl rfl)
theorem dX2_processBlock_17 : decode cX2_processBlock 17 = .ok (.iload_n 2, 1) := dk_28 (dk_at dksX2_processBlock_0 17 rfl rfl)
theorem dX2_processBlock_18 : decode cX2_processBlock 18 = .ok (.bipush 32, 2) := dk_16 32 (dk_at dksX2_processBlock_0 18 rfl rfl)
theorem dX2_processBlock_20 : decode cX2_processBlock 20 = .ok (.iadd, 1) := dk_96 (dk_at dksX2_processBlock_0 20 rfl rfl)
theorem dX2_processBlock_21 : decode cX2_processBlock 21 = .ok (.aload_n 1, 1) := dk_43 (dk_at dksX2_processBlock_0 21 rfl rfl)
theorem dX2_processBlock_22 : decode cX2_processBlock 22 = .ok (.arraylength, 1) := dk_190 (dk_at dksX2_processBlock_0 22 rfl rfl)
theorem dX2_processBlock_23 : decode cX2_processBlock 23 = .ok (.if_icmp .le 13, 3) := dk_164 0 13 (dk_at dksX2_processBlock_1 0 rfl rfl)
theorem dX2_processBlock_26 : decode cX2_processBlock 26 = .ok (.new 55, 3) := dk_187 0 55 (dk_at dksX2_processBlock_1 3 rfl rfl)
theorem dX2_processBlock_29 : decode cX2_processBlock 29 = .ok (.dup, 1) := dk_89 (dk_at dksX2_processBlock_1 6 rfl rfl)
theorem dX2_processBlock_30 : decode cX2_processBlock 30 = .ok (.ldc 57, 2) := dk_18 57 (dk_at dksX2_processBlock_1 7 rfl rfl)
theorem dX2_processBlock_32 : decode cX2_processBlock 32 = .ok (.invokespecial 59, 3) := dk_183 0 59 (dk_at dksX2_processBlock_1 9 rfl rfl)
theorem dX2_processBlock_35 : decode cX2_processBlock 35 = .ok (.athrow, 1) := dk_191 (dk_at dksX2_processBlock_1 12 rfl rfl)
theorem dX2_processBlock_36 : decode cX2_processBlock 36 = .ok (.iload 4, 2) := dk_21 4 (dk_at dksX2_processBlock_1 13 rfl rfl)
theorem dX2_processBlock_38 : decode cX2_processBlock 38 = .ok (.bipush 32, 2) := dk_16 32 (dk_at dksX2_processBlock_1 15 rfl rfl)
theorem dX2_processBlock_40 : decode cX2_processBlock 40 = .ok (.iadd, 1) := dk_96 (dk_at dksX2_processBlock_1 17 rfl rfl)
theorem dX2_processBlock_41 : decode cX2_processBlock 41 = .ok (.aload_n 3, 1) := dk_45 (dk_at dksX2_processBlock_1 18 rfl rfl)
theorem dX2_processBlock_42 : decode cX2_processBlock 42 = .ok (.arraylength, 1) := dk_190 (dk_at dksX2_processBlock_1 19 rfl rfl)
theorem dX2_processBlock_43 : decode cX2_processBlock 43 = .ok (.if_icmp .le 13, 3) := dk_164 0 13 (dk_at dksX2_processBlock_1 20 rfl rfl)
theorem dX2_processBlock_46 : decode cX2_processBlock 46 = .ok (.new 60, 3) := dk_187 0 60 (dk_at dksX2_processBlock_2 0 rfl rfl)
theorem dX2_processBlock_49 : decode cX2_processBlock 49 = .ok (.dup, 1) := dk_89 (dk_at dksX2_processBlock_2 3 rfl rfl)
theorem dX2_processBlock_50 : decode cX2_processBlock 50 = .ok (.ldc 62, 2) := dk_18 62 (dk_at dksX2_processBlock_2 4 rfl rfl)
theorem dX2_processBlock_52 : decode cX2_processBlock 52 = .ok (.invokespecial 64, 3) := dk_183 0 64 (dk_at dksX2_processBlock_2 6 rfl rfl)
theorem dX2_processBlock_55 : decode cX2_processBlock 55 = .ok (.athrow, 1) := dk_191 (dk_at dksX2_processBlock_2 9 rfl rfl)
theorem dX2_processBlock_56 : decode cX2_processBlock 56 = .ok (.aload_n 0, 1) := dk_42 (dk_at dksX2_processBlock_2 10 rfl rfl)
theorem dX2_processBlock_57 : decode cX2_processBlock 57 = .ok (.getfield 7, 3) := dk_180 0 7 (dk_at dksX2_processBlock_2 11 rfl rfl)
theorem dX2_processBlock_60 : decode cX2_processBlock 60 = .ok (.ifCond .eq 15, 3) := dk_153 0 15 (dk_at dksX2_processBlock_2 14 rfl rfl)
theorem dX2_processBlock_63 : decode cX2_processBlock 63 = .ok (.aload_n 0, 1) := dk_42 (dk_at dksX2_processBlock_2 17 rfl rfl)
theorem dX2_processBlock_64 : decode cX2_processBlock 64 = .ok (.aload_n 1, 1) := dk_43 (dk_at dksX2_processBlock_2 18 rfl rfl)
theorem dX2_processBlock_65 : decode cX2_processBlock 65 = .ok (.iload_n 2, 1) := dk_28 (dk_at dksX2_processBlock_2 19 rfl rfl)
theorem dX2_processBlock_66 : decode cX2_processBlock 66 = .ok (.aload_n 3, 1) := dk_45 (dk_at dksX2_processBlock_2 20 rfl rfl)
theorem dX2_processBlock_67 : decode cX2_processBlock 67 = .ok (.iload 4, 2) := dk_21 4 (dk_at dksX2_processBlock_2 21 rfl rfl)
theorem dX2_processBlock_69 : decode cX2_processBlock 69 = .ok (.invokevirtual 65, 3) := dk_182 0 65 (dk_at dksX2_processBlock_3 0 rfl rfl)
theorem dX2_processBlock_72 : decode cX2_processBlock 72 = .ok (.goto 12, 3) := dk_167 0 12 (dk_at dksX2_processBlock_3 3 rfl rfl)
theorem dX2_processBlock_75 : decode cX2_processBlock 75 = .ok (.aload_n 0, 1) := dk_42 (dk_at dksX2_processBlock_3 6 rfl rfl)
theorem dX2_processBlock_76 : decode cX2_processBlock 76 = .ok (.aload_n 1, 1) := dk_43 (dk_at dksX2_processBlock_3 7 rfl rfl)
theorem dX2_processBlock_77 : decode cX2_processBlock 77 = .ok (.iload_n 2, 1) := dk_28 (dk_at dksX2_processBlock_3 8 rfl rfl)
theorem dX2_processBlock_78 : decode cX2_processBlock 78 = .ok (.aload_n 3, 1) := dk_45 (dk_at dksX2_processBlock_3 9 rfl rfl)
theorem dX2_processBlock_79 : decode cX2_processBlock 79 = .ok (.iload 4, 2) := dk_21 4 (dk_at dksX2_processBlock_3 10 rfl rfl)
theorem dX2_processBlock_81 : decode cX2_processBlock 81 = .ok (.invokevirtual 69, 3) := dk_182 0 69 (dk_at dksX2_processBlock_3 12 rfl rfl)
theorem dX2_processBlock_84 : decode cX2_processBlock 84 = .ok (.bipush 32, 2) := dk_16 32 (dk_at dksX2_processBlock_3 15 rfl rfl)
theorem dX2_processBlock_86 : decode cX2_processBlock 86 = .ok (.ireturn, 1) := dk_172 (dk_at dksX2_processBlock_3 17 rfl rfl)
abbrev cX2_encryptBlock : ByteArray := prog_7_method_4_code
def yX2_encryptBlock : MethodName := ⟨RX2, "encryptBlock", "([BI[BI)V"⟩
def dkwX2_encryptBlock_11 : List UInt8 := [79, 132, 6, 1, 167, 255, 8, 42, 25, 5, 45, 21, 4, 182, 0, 46, 177]
abbrev dktX2_encryptBlock_11 : List UInt8 := dkwX2_encryptBlock_11 ++ []
def dkwX2_encryptBlock_10 : List UInt8 := [5, 46, 126, 25, 5, 3, 46, 25, 5, 6, 46, 126, 130, 25, 5, 5, 46, 25, 5, 6, 46, 126, 130, 96]
abbrev dktX2_encryptBlock_10 : List UInt8 := dkwX2_encryptBlock_10 ++ dktX2_encryptBlock_11
def dkwX2_encryptBlock_9 : List UInt8 := [130, 25, 5, 3, 46, 16, 22, 124, 25, 5, 3, 46, 16, 234, 120, 128, 130, 96, 25, 5, 3, 46, 25, 5]
abbrev dktX2_encryptBlock_9 : List UInt8 := dkwX2_encryptBlock_9 ++ dktX2_encryptBlock_10
def dkwX2_encryptBlock_8 : List UInt8 := [124, 25, 5, 3, 46, 16, 254, 120, 128, 25, 5, 3, 46, 16, 13, 124, 25, 5, 3, 46, 16, 243, 120, 128]
abbrev dktX2_encryptBlock_8 : List UInt8 := dkwX2_encryptBlock_8 ++ dktX2_encryptBlock_9
def dkwX2_encryptBlock_7 : List UInt8 := [5, 25, 5, 4, 46, 79, 25, 5, 4, 25, 5, 3, 46, 79, 25, 5, 3, 21, 7, 25, 5, 3, 46, 5]
abbrev dktX2_encryptBlock_7 : List UInt8 := dkwX2_encryptBlock_7 ++ dktX2_encryptBlock_8
def dkwX2_encryptBlock_6 : List UInt8 := [7, 46, 79, 25, 5, 7, 25, 5, 6, 46, 21, 7, 96, 79, 25, 5, 6, 25, 5, 5, 46, 79, 25, 5]
abbrev dktX2_encryptBlock_6 : List UInt8 := dkwX2_encryptBlock_6 ++ dktX2_encryptBlock_7
def dkwX2_encryptBlock_5 : List UInt8 := [25, 5, 16, 7, 25, 5, 16, 6, 46, 79, 25, 5, 16, 6, 25, 5, 8, 46, 79, 25, 5, 8, 25, 5]
abbrev dktX2_encryptBlock_5 : List UInt8 := dkwX2_encryptBlock_5 ++ dktX2_encryptBlock_6
def dkwX2_encryptBlock_4 : List UInt8 := [96, 25, 5, 16, 7, 46, 96, 178, 0, 43, 21, 6, 46, 96, 42, 180, 0, 13, 21, 6, 46, 96, 54, 7]
abbrev dktX2_encryptBlock_4 : List UInt8 := dkwX2_encryptBlock_4 ++ dktX2_encryptBlock_5
def dkwX2_encryptBlock_3 : List UInt8 := [128, 130, 25, 5, 7, 46, 25, 5, 8, 46, 126, 25, 5, 7, 46, 2, 130, 25, 5, 16, 6, 46, 126, 130]
abbrev dktX2_encryptBlock_3 : List UInt8 := dkwX2_encryptBlock_3 ++ dktX2_encryptBlock_4
def dkwX2_encryptBlock_2 : List UInt8 := [124, 25, 5, 7, 46, 16, 245, 120, 128, 130, 25, 5, 7, 46, 16, 25, 124, 25, 5, 7, 46, 16, 231, 120]
abbrev dktX2_encryptBlock_2 : List UInt8 := dkwX2_encryptBlock_2 ++ dktX2_encryptBlock_3
def dkwX2_encryptBlock_1 : List UInt8 := [162, 0, 247, 25, 5, 7, 46, 16, 6, 124, 25, 5, 7, 46, 16, 250, 120, 128, 25, 5, 7, 46, 16, 11]
abbrev dktX2_encryptBlock_1 : List UInt8 := dkwX2_encryptBlock_1 ++ dktX2_encryptBlock_2
def dkwX2_encryptBlock_0 : List UInt8 := [16, 8, 188, 10, 58, 5, 42, 43, 25, 5, 28, 3, 182, 0, 40, 3, 54, 6, 21, 6, 16, 64]
abbrev dktX2_encryptBlock_0 : List UInt8 := dkwX2_encryptBlock_0 ++ dktX2_encryptBlock_1
theorem dksX2_encryptBlock_0 : cX2_encryptBlock.data.toList.drop 0 = dktX2_encryptBlock_0 := by decide +kernel
theorem dksX2_encryptBlock_1 : cX2_encryptBlock.data.toList.drop 22 = dktX2_encryptBlock_1 := dk_seg dksX2_encryptBlock_0 22 rfl rfl
theorem dksX2_encryptBlock_2 : cX2_encryptBlock.data.toList.drop 46 = dktX2_encryptBlock_2 := dk_seg dksX2_encryptBlock_1 24 rfl rfl
theorem dksX2_encryptBlock_3 : cX2_encryptBlock.data.toList.drop 70 = dktX2_encryptBlock_3 := dk_seg dksX2_encryptBlock_2 24 rfl rfl
theorem dksX2_encryptBlock_4 : cX2_encryptBlock.data.toList.drop 94 = dktX2_encryptBlock_4 := dk_seg dksX2_encryptBlock_3 24 rfl rfl
theorem dksX2_encryptBlock_5 : cX2_encryptBlock.data.toList.drop 118 = dktX2_encryptBlock_5 := dk_seg dksX2_encryptBlock_4 24 rfl rfl
theorem dksX2_encryptBlock_6 : cX2_encryptBlock.data.toList.drop 142 = dktX2_encryptBlock_6 := dk_seg dksX2_encryptBlock_5 24 rfl rfl
theorem dksX2_encryptBlock_7 : cX2_encryptBlock.data.toList.drop 166 = dktX2_encryptBlock_7 := dk_seg dksX2_encryptBlock_6 24 rfl rfl
theorem dksX2_encryptBlock_8 : cX2_encryptBlock.data.toList.drop 190 = dktX2_encryptBlock_8 := dk_seg dksX2_encryptBlock_7 24 rfl rfl
theorem dksX2_encryptBlock_9 : cX2_encryptBlock.data.toList.drop 214 = dktX2_encryptBlock_9 := dk_seg dksX2_encryptBlock_8 24 rfl rfl
theorem dksX2_encryptBlock_10 : cX2_encryptBlock.data.toList.drop 238 = dktX2_encryptBlock_10 := dk_seg dksX2_encryptBlock_9 24 rfl rfl
theorem dksX2_encryptBlock_11 : cX2_encryptBlock.data.toList.drop 262 = dktX2_encryptBlock_11 := dk_seg dksX2_encryptBlock_10 24 rfl rfl
theorem dX2_encryptBlock_0 : decode cX2_encryptBlock 0 = .ok (.bipush 8, 2) := dk_16 8 (dk_at dksX2_encryptBlock_0 0 rfl rfl)
theorem dX2_encryptBlock_2 : decode cX2_encryptBlock 2 = .ok (.newarray .int, 2) := dk_188_10 (dk_at dksX2_encryptBlock_0 2 rfl rfl)
theorem dX2_encryptBlock_4 : decode cX2_encryptBlock 4 = .ok (.astore 5, 2) := dk_58 5 (dk_at dksX2_encryptBlock_0 4 rfl rfl)
theorem dX2_encryptBlock_6 : decode cX2_encryptBlock 6 = .ok (.aload_n 0, 1) := dk_42 (dk_at dksX2_encryptBlock_0 6 rfl rfl)
theorem dX2_encryptBlock_7 : decode cX2_encryptBlock 7 = .ok (.aload_n 1, 1) := dk_43 (dk_at dksX2_encryptBlock_0 7 rfl rfl)
theorem dX2_encryptBlock_8 : decode cX2_encryptBlock 8 = .ok (.aload 5, 2) := dk_25 5 (dk_at dksX2_encryptBlock_0 8 rfl rfl)
theorem dX2_encryptBlock_10 : decode cX2_encryptBlock 10 = .ok (.iload_n 2, 1) := dk_28 (dk_at dksX2_encryptBlock_0 10 rfl rfl)
theorem dX2_encryptBlock_11 : decode cX2_encryptBlock 11 = .ok (.iconst 0, 1) := dk_3 (dk_at dksX2_encryptBlock_0 11 rfl rfl)
theorem dX2_encryptBlock_12 : decode cX2_encryptBlock 12 = .ok (.invokevirtual 40, 3) := dk_182 0 40 (dk_at dksX2_encryptBlock_0 12 rfl rfl)
theorem dX2_encryptBlock_15 : decode cX2_encryptBlock 15 = .ok (.iconst 0, 1) := dk_3 (dk_at dksX2_encryptBlock_0 15 rfl rfl)
theorem dX2_encryptBlock_16 : decode cX2_encryptBlock 16 = .ok (.istore 6, 2) := dk_54 6 (dk_at dksX2_encryptBlock_0 16 rfl rfl)
theorem dX2_encryptBlock_18 : decode cX2_encryptBlock 18 = .ok (.iload 6, 2) := dk_21 6 (dk_at dksX2_encryptBlock_0 18 rfl rfl)
theorem dX2_encryptBlock_20 : decode cX2_encryptBlock 20 = .ok (.bipush 64, 2) := dk_16 64 (dk_at dksX2_encryptBlock_0 20 rfl rfl)
theorem dX2_encryptBlock_22 : decode cX2_encryptBlock 22 = .ok (.if_icmp .ge 247, 3) := dk_162 0 247 (dk_at dksX2_encryptBlock_1 0 rfl rfl)
theorem dX2_encryptBlock_25 : decode cX2_encryptBlock 25 = .ok (.aload 5, 2) := dk_25 5 (dk_at dksX2_encryptBlock_1 3 rfl rfl)
theorem dX2_encryptBlock_27 : decode cX2_encryptBlock 27 = .ok (.iconst 4, 1) := dk_7 (dk_at dksX2_encryptBlock_1 5 rfl rfl)
theorem dX2_encryptBlock_28 : decode cX2_encryptBlock 28 = .ok (.iaload, 1) := dk_46 (dk_at dksX2_encryptBlock_1 6 rfl rfl)
theorem dX2_encryptBlock_29 : decode cX2_encryptBlock 29 = .ok (.bipush 6, 2) := dk_16 6 (dk_at dksX2_encryptBlock_1 7 rfl rfl)
theorem dX2_encryptBlock_31 : decode cX2_encryptBlock 31 = .ok (.iushr, 1) := dk_124 (dk_at dksX2_encryptBlock_1 9 rfl rfl)
theorem dX2_encryptBlock_32 : decode cX2_encryptBlock 32 = .ok (.aload 5, 2) := dk_25 5 (dk_at dksX2_encryptBlock_1 10 rfl rfl)
theorem dX2_encryptBlock_34 : decode cX2_encryptBlock 34 = .ok (.iconst 4, 1) := dk_7 (dk_at dksX2_encryptBlock_1 12 rfl rfl)
theorem dX2_encryptBlock_35 : decode cX2_encryptBlock 35 = .ok (.iaload, 1) := dk_46 (dk_at dksX2_encryptBlock_1 13 rfl rfl)
theorem dX2_encryptBlock_36 : decode cX2_encryptBlock 36 = .ok (.bipush (-6), 2) := dk_16 250 (dk_at dksX2_encryptBlock_1 14 rfl rfl)
theorem dX2_encryptBlock_38 : decode cX2_encryptBlock 38 = .ok (.ishl, 1) := dk_120 (dk_at dksX2_encryptBlock_1 16 rfl rfl)
theorem dX2_encryptBlock_39 : decode cX2_encryptBlock 39 = .ok (.ior, 1) := dk_128 (dk_at dksX2_encryptBlock_1 17 rfl rfl)
theorem dX2_encryptBlock_40 : decode cX2_encryptBlock 40 = .ok (.aload 5, 2) := dk_25 5 (dk_at dksX2_encryptBlock_1 18 rfl rfl)
theorem dX2_encryptBlock_42 : decode cX2_encryptBlock 42 = .ok (.iconst 4, 1) := dk_7 (dk_at dksX2_encryptBlock_1 20 rfl rfl)
theorem dX2_encryptBlock_43 : decode cX2_encryptBlock 43 = .ok (.iaload, 1) := dk_46 (dk_at dksX2_encryptBlock_1 21 rfl rfl)
theorem dX2_encryptBlock_44 : decode cX2_encryptBlock 44 = .ok (.bipush 11, 2) := dk_16 11 (dk_at dksX2_encryptBlock_1 22 rfl rfl)
theorem dX2_encryptBlock_46 : decode cX2_encryptBlock 46 = .ok (.iushr, 1) := dk_124 (dk_at dksX2_encryptBlock_2 0 rfl rfl)
theorem dX2_encryptBlock_47 : decode cX2_encryptBlock 47 = .ok (.aload 5, 2) := dk_25 5 (dk_at dksX2_encryptBlock_2 1 rfl rfl)
theorem dX2_encryptBlock_49 : decode cX2_encryptBlock 49 = .ok (.iconst 4, 1) := dk_7 (dk_at dksX2_encryptBlock_2 3 rfl rfl)
theorem dX2_encryptBlock_50 : decode cX2_encryptBlock 50 = .ok (.iaload, 1) := dk_46 (dk_at dksX2_encryptBlock_2 4 rfl rfl)
theorem dX2_encryptBlock_51 : decode cX2_encryptBlock 51 = .ok (.bipush (-11), 2) := dk_16 245 (dk_at dksX2_encryptBlock_2 5 rfl rfl)
theorem dX2_encryptBlock_53 : decode cX2_encryptBlock 53 = .ok (.ishl, 1) := dk_120 (dk_at dksX2_encryptBlock_2 7 rfl rfl)
theorem dX2_encryptBlock_54 : decode cX2_encryptBlock 54 = .ok (.ior, 1) := dk_128 (dk_at dksX2_encryptBlock_2 8 rfl rfl)
theorem dX2_encryptBlock_55 : decode cX2_encryptBlock 55 = .ok (.ixor, 1) := dk_130 (dk_at dksX2_encryptBlock_2 9 rfl rfl)
theorem dX2_encryptBlock_56 : decode cX2_encryptBlock 56 = .ok (.aload 5, 2) := dk_25 5 (dk_at dksX2_encryptBlock_2 10 rfl rfl)
theorem dX2_encryptBlock_58 : decode cX2_encryptBlock 58 = .ok (.iconst 4, 1) := dk_7 (dk_at dksX2_encryptBlock_2 12 rfl rfl)
theorem dX2_encryptBlock_59 : decode cX2_encryptBlock 59 = .ok (.iaload, 1) := dk_46 (dk_at dksX2_encryptBlock_2 13 rfl rfl)
theorem dX2_encryptBlock_60 : decode cX2_encryptBlock 60 = .ok (.bipush 25, 2) := dk_16 25 (dk_at dksX2_encryptBlock_2 14 rfl rfl)
theorem dX2_encryptBlock_62 : decode cX2_encryptBlock 62 = .ok (.iushr, 1) := dk_124 (dk_at dksX2_encryptBlock_2 16 rfl rfl)
theorem dX2_encryptBlock_63 : decode cX2_encryptBlock 63 = .ok (.aload 5, 2) := dk_25 5 (dk_at dksX2_encryptBlock_2 17 rfl rfl)
theorem dX2_encryptBlock_65 : decode cX2_encryptBlock 65 = .ok (.iconst 4, 1) := dk_7 (dk_at dksX2_encryptBlock_2 19 rfl rfl)
theorem dX2_encryptBlock_66 : decode cX2_encryptBlock 66 = .ok (.iaload, 1) := dk_46 (dk_at dksX2_encryptBlock_2 20 rfl rfl)
theorem dX2_encryptBlock_67 : decode cX2_encryptBlock 67 = .ok (.bipush (-25), 2) := dk_16 231 (dk_at dksX2_encryptBlock_2 21 rfl rfl)
theorem dX2_encryptBlock_69 : decode cX2_encryptBlock 69 = .ok (.ishl, 1) := dk_120 (dk_at dksX2_encryptBlock_2 23 rfl rfl)
theorem dX2_encryptBlock_70 : decode cX2_encryptBlock 70 = .ok (.ior, 1) := dk_128 (dk_at dksX2_encryptBlock_3 0 rfl rfl)
theorem dX2_encryptBlock_71 : decode cX2_encryptBlock 71 = .ok (.ixor, 1) := dk_130 (dk_at dksX2_encryptBlock_3 1 rfl rfl)
theorem dX2_encryptBlock_72 : decode cX2_encryptBlock 72 = .ok (.aload 5, 2) := dk_25 5 (dk_at dksX2_encryptBlock_3 2 rfl rfl)
theorem dX2_encryptBlock_74 : decode cX2_encryptBlock 74 = .ok (.iconst 4, 1) := dk_7 (dk_at dksX2_encryptBlock_3 4 rfl rfl)
theorem dX2_encryptBlock_75 : decode cX2_encryptBlock 75 = .ok (.iaload, 1) := dk_46 (dk_at dksX2_encryptBlock_3 5 rfl rfl)
theorem dX2_encryptBlock_76 : decode cX2_encryptBlock 76 = .ok (.aload 5, 2) := dk_25 5 (dk_at dksX2_encryptBlock_3 6 rfl rfl)
theorem dX2_encryptBlock_78 : decode cX2_encryptBlock 78 = .ok (.iconst 5, 1) := dk_8 (dk_at dksX2_encryptBlock_3 8 rfl rfl)
theorem dX2_encryptBlock_79 : decode cX2_encryptBlock 79 = .ok (.iaload, 1) := dk_46 (dk_at dksX2_encryptBlock_3 9 rfl rfl)
theorem dX2_encryptBlock_80 : decode cX2_encryptBlock 80 = .ok (.iand, 1) := dk_126 (dk_at dksX2_encryptBlock_3 10 rfl rfl)
theorem dX2_encryptBlock_81 : decode cX2_encryptBlock 81 = .ok (.aload 5, 2) := dk_25 5 (dk_at dksX2_encryptBlock_3 11 rfl rfl)
theorem dX2_encryptBlock_83 : decode cX2_encryptBlock 83 = .ok (.iconst 4, 1) := dk_7 (dk_at dksX2_encryptBlock_3 13 rfl rfl)
theorem dX2_encryptBlock_84 : decode cX2_encryptBlock 84 = .ok (.iaload, 1) := dk_46 (dk_at dksX2_encryptBlock_3 14 rfl rfl)
theorem dX2_encryptBlock_85 : decode cX2_encryptBlock 85 = .ok (.iconst (-1), 1) := dk_2 (dk_at dksX2_encryptBlock_3 15 rfl rfl)
theorem dX2_encryptBlock_86 : decode cX2_encryptBlock 86 = .ok (.ixor, 1) := dk_130 (dk_at dksX2_encryptBlock_3 16 rfl rfl)
theorem dX2_encryptBlock_87 : decode cX2_encryptBlock 87 = .ok (.aload 5, 2) := dk_25 5 (dk_at dksX2_encryptBlock_3 17 rfl rfl)
theorem dX2_encryptBlock_89 : decode cX2_encryptBlock 89 = .ok (.bipush 6, 2) := dk_16 6 (dk_at dksX2_encryptBlock_3 19 rfl rfl)
theorem dX2_encryptBlock_91 : decode cX2_encryptBlock 91 = .ok (.iaload, 1) := dk_46 (dk_at dksX2_encryptBlock_3 21 rfl rfl)
theorem dX2_encryptBlock_92 : decode cX2_encryptBlock 92 = .ok (.iand, 1) := dk_126 (dk_at dksX2_encryptBlock_3 22 rfl rfl)
theorem dX2_encryptBlock_93 : decode cX2_encryptBlock 93 = .ok (.ixor, 1) := dk_130 (dk_at dksX2_encryptBlock_3 23 rfl rfl)
theorem dX2_encryptBlock_94 : decode cX2_encryptBlock 94 = .ok (.iadd, 1) := dk_96 (dk_at dksX2_encryptBlock_4 0 rfl rfl)
theorem dX2_encryptBlock_95 : decode cX2_encryptBlock 95 = .ok (.aload 5, 2) := dk_25 5 (dk_at dksX2_encryptBlock_4 1 rfl rfl)
theorem dX2_encryptBlock_97 : decode cX2_encryptBlock 97 = .ok (.bipush 7, 2) := dk_16 7 (dk_at dksX2_encryptBlock_4 3 rfl rfl)
theorem dX2_encryptBlock_99 : decode cX2_encryptBlock 99 = .ok (.iaload, 1) := dk_46 (dk_at dksX2_encryptBlock_4 5 rfl rfl)
theorem dX2_encryptBlock_100 : decode cX2_encryptBlock 100 = .ok (.iadd, 1) := dk_96 (dk_at dksX2_encryptBlock_4 6 rfl rfl)
theorem dX2_encryptBlock_101 : decode cX2_encryptBlock 101 = .ok (.getstatic 43, 3) := dk_178 0 43 (dk_at dksX2_encryptBlock_4 7 rfl rfl)
theorem dX2_encryptBlock_104 : decode cX2_encryptBlock 104 = .ok (.iload 6, 2) := dk_21 6 (dk_at dksX2_encryptBlock_4 10 rfl rfl)
theorem dX2_encryptBlock_106 : decode cX2_encryptBlock 106 = .ok (.iaload, 1) := dk_46 (dk_at dksX2_encryptBlock_4 12 rfl rfl)
theorem dX2_encryptBlock_107 : decode cX2_encryptBlock 107 = .ok (.iadd, 1) := dk_96 (dk_at dksX2_encryptBlock_4 13 rfl rfl)
theorem dX2_encryptBlock_108 : decode cX2_encryptBlock 108 = .ok (.aload_n 0, 1) := dk_42 (dk_at dksX2_encryptBlock_4 14 rfl rfl)
theorem dX2_encryptBlock_109 : decode cX2_encryptBlock 109 = .ok (.getfield 13, 3) := dk_180 0 13 (dk_at dksX2_encryptBlock_4 15 rfl rfl)
theorem dX2_encryptBlock_112 : decode cX2_encryptBlock 112 = .ok (.iload 6, 2) := dk_21 6 (dk_at dksX2_encryptBlock_4 18 rfl rfl)
theorem dX2_encryptBlock_114 : decode cX2_encryptBlock 114 = .ok (.iaload, 1) := dk_46 (dk_at dksX2_encryptBlock_4 20 rfl rfl)
theorem dX2_encryptBlock_115 : decode cX2_encryptBlock 115 = .ok (.iadd, 1) := dk_96 (dk_at dksX2_encryptBlock_4 21 rfl rfl)
theorem dX2_encryptBlock_116 : decode cX2_encryptBlock 116 = .ok (.istore 7, 2) := dk_54 7 (dk_at dksX2_encryptBlock_4 22 rfl rfl)
theorem dX2_encryptBlock_118 : decode cX2_encryptBlock 118 = .ok (.aload 5, 2) := dk_25 5 (dk_at dksX2_encryptBlock_5 0 rfl rfl)
theorem dX2_encryptBlock_120 : decode cX2_encryptBlock 120 = .ok (.bipush 7, 2) := dk_16 7 (dk_at dksX2_encryptBlock_5 2 rfl rfl)
theorem dX2_encryptBlock_122 : decode cX2_encryptBlock 122 = .ok (.aload 5, 2) := dk_25 5 (dk_at dksX2_encryptBlock_5 4 rfl rfl)
theorem dX2_encryptBlock_124 : decode cX2_encryptBlock 124 = .ok (.bipush 6, 2) := dk_16 6 (dk_at dksX2_encryptBlock_5 6 rfl rfl)
theorem dX2_encryptBlock_126 : decode cX2_encryptBlock 126 = .ok (.iaload, 1) := dk_46 (dk_at dksX2_encryptBlock_5 8 rfl rfl)
theorem dX2_encryptBlock_127 : decode cX2_encryptBlock 127 = .ok (.iastore, 1) := dk_79 (dk_at dksX2_encryptBlock_5 9 rfl rfl)
theorem dX2_encryptBlock_128 : decode cX2_encryptBlock 128 = .ok (.aload 5, 2) := dk_25 5 (dk_at dksX2_encryptBlock_5 10 rfl rfl)
theorem dX2_encryptBlock_130 : decode cX2_encryptBlock 130 = .ok (.bipush 6, 2) := dk_16 6 (dk_at dksX2_encryptBlock_5 12 rfl rfl)
theorem dX2_encryptBlock_132 : decode cX2_encryptBlock 132 = .ok (.aload 5, 2) := dk_25 5 (dk_at dksX2_encryptBlock_5 14 rfl rfl)
theorem dX2_encryptBlock_134 : decode cX2_encryptBlock 134 = .ok (.iconst 5, 1) := dk_8 (dk_at dksX2_encryptBlock_5 16 rfl rfl)
theorem dX2_encryptBlock_135 : decode cX2_encryptBlock 135 = .ok (.iaload, 1) := dk_46 (dk_at dksX2_encryptBlock_5 17 rfl rfl)
theorem dX2_encryptBlock_136 : decode cX2_encryptBlock 136 = .ok (.iastore, 1) := dk_79 (dk_at dksX2_encryptBlock_5 18 rfl rfl)
theorem dX2_encryptBlock_137 : decode cX2_encryptBlock 137 = .ok (.aload 5, 2) := dk_25 5 (dk_at dksX2_encryptBlock_5 19 rfl rfl)
theorem dX2_encryptBlock_139 : decode cX2_encryptBlock 139 = .ok (.iconst 5, 1) := dk_8 (dk_at dksX2_encryptBlock_5 21 rfl rfl)
theorem dX2_encryptBlock_140 : decode cX2_encryptBlock 140 = .ok (.aload 5, 2) := dk_25 5 (dk_at dksX2_encryptBlock_5 22 rfl rfl)
theorem dX2_encryptBlock_142 : decode cX2_encryptBlock 142 = .ok (.iconst 4, 1) := dk_7 (dk_at dksX2_encryptBlock_6 0 rfl rfl)
theorem dX2_encryptBlock_143 : decode cX2_encryptBlock 143 = .ok (.iaload, 1) := dk_46 (dk_at dksX2_encryptBlock_6 1 rfl rfl)
theorem dX2_encryptBlock_144 : decode cX2_encryptBlock 144 = .ok (.iastore, 1) := dk_79 (dk_at dksX2_encryptBlock_6 2 rfl rfl)
theorem dX2_encryptBlock_145 : decode cX2_encryptBlock 145 = .ok (.aload 5, 2) := dk_25 5 (dk_at dksX2_encryptBlock_6 3 rfl rfl)
theorem dX2_encryptBlock_147 : decode cX2_encryptBlock 147 = .ok (.iconst 4, 1) := dk_7 (dk_at dksX2_encryptBlock_6 5 rfl rfl)
theorem dX2_encryptBlock_148 : decode cX2_encryptBlock 148 = .ok (.aload 5, 2) := dk_25 5 (dk_at dksX2_encryptBlock_6 6 rfl rfl)
theorem dX2_encryptBlock_150 : decode cX2_encryptBlock 150 = .ok (.iconst 3, 1) := dk_6 (dk_at dksX2_encryptBlock_6 8 rfl rfl)
theorem dX2_encryptBlock_151 : decode cX2_encryptBlock 151 = .ok (.iaload, 1) := dk_46 (dk_at dksX2_encryptBlock_6 9 rfl rfl)
theorem dX2_encryptBlock_152 : decode cX2_encryptBlock 152 = .ok (.iload 7, 2) := dk_21 7 (dk_at dksX2_encryptBlock_6 10 rfl rfl)
theorem dX2_encryptBlock_154 : decode cX2_encryptBlock 154 = .ok (.iadd, 1) := dk_96 (dk_at dksX2_encryptBlock_6 12 rfl rfl)
theorem dX2_encryptBlock_155 : decode cX2_encryptBlock 155 = .ok (.iastore, 1) := dk_79 (dk_at dksX2_encryptBlock_6 13 rfl rfl)
theorem dX2_encryptBlock_156 : decode cX2_encryptBlock 156 = .ok (.aload 5, 2) := dk_25 5 (dk_at dksX2_encryptBlock_6 14 rfl rfl)
theorem dX2_encryptBlock_158 : decode cX2_encryptBlock 158 = .ok (.iconst 3, 1) := dk_6 (dk_at dksX2_encryptBlock_6 16 rfl rfl)
theorem dX2_encryptBlock_159 : decode cX2_encryptBlock 159 = .ok (.aload 5, 2) := dk_25 5 (dk_at dksX2_encryptBlock_6 17 rfl rfl)
theorem dX2_encryptBlock_161 : decode cX2_encryptBlock 161 = .ok (.iconst 2, 1) := dk_5 (dk_at dksX2_encryptBlock_6 19 rfl rfl)
theorem dX2_encryptBlock_162 : decode cX2_encryptBlock 162 = .ok (.iaload, 1) := dk_46 (dk_at dksX2_encryptBlock_6 20 rfl rfl)
theorem dX2_encryptBlock_163 : decode cX2_encryptBlock 163 = .ok (.iastore, 1) := dk_79 (dk_at dksX2_encryptBlock_6 21 rfl rfl)
theorem dX2_encryptBlock_164 : decode cX2_encryptBlock 164 = .ok (.aload 5, 2) := dk_25 5 (dk_at dksX2_encryptBlock_6 22 rfl rfl)
theorem dX2_encryptBlock_166 : decode cX2_encryptBlock 166 = .ok (.iconst 2, 1) := dk_5 (dk_at dksX2_encryptBlock_7 0 rfl rfl)
theorem dX2_encryptBlock_167 : decode cX2_encryptBlock 167 = .ok (.aload 5, 2) := dk_25 5 (dk_at dksX2_encryptBlock_7 1 rfl rfl)
theorem dX2_encryptBlock_169 : decode cX2_encryptBlock 169 = .ok (.iconst 1, 1) := dk_4 (dk_at dksX2_encryptBlock_7 3 rfl rfl)
theorem dX2_encryptBlock_170 : decode cX2_encryptBlock 170 = .ok (.iaload, 1) := dk_46 (dk_at dksX2_encryptBlock_7 4 rfl rfl)
theorem dX2_encryptBlock_171 : decode cX2_encryptBlock 171 = .ok (.iastore, 1) := dk_79 (dk_at dksX2_encryptBlock_7 5 rfl rfl)
theorem dX2_encryptBlock_172 : decode cX2_encryptBlock 172 = .ok (.aload 5, 2) := dk_25 5 (dk_at dksX2_encryptBlock_7 6 rfl rfl)
theorem dX2_encryptBlock_174 : decode cX2_encryptBlock 174 = .ok (.iconst 1, 1) := dk_4 (dk_at dksX2_encryptBlock_7 8 rfl rfl)
theorem dX2_encryptBlock_175 : decode cX2_encryptBlock 175 = .ok (.aload 5, 2) := dk_25 5 (dk_at dksX2_encryptBlock_7 9 rfl rfl)
theorem dX2_encryptBlock_177 : decode cX2_encryptBlock 177 = .ok (.iconst 0, 1) := dk_3 (dk_at dksX2_encryptBlock_7 11 rfl rfl)
theorem dX2_encryptBlock_178 : decode cX2_encryptBlock 178 = .ok (.iaload, 1) := dk_46 (dk_at dksX2_encryptBlock_7 12 rfl rfl)
theorem dX2_encryptBlock_179 : decode cX2_encryptBlock 179 = .ok (.iastore, 1) := dk_79 (dk_at dksX2_encryptBlock_7 13 rfl rfl)
theorem dX2_encryptBlock_180 : decode cX2_encryptBlock 180 = .ok (.aload 5, 2) := dk_25 5 (dk_at dksX2_encryptBlock_7 14 rfl rfl)
theorem dX2_encryptBlock_182 : decode cX2_encryptBlock 182 = .ok (.iconst 0, 1) := dk_3 (dk_at dksX2_encryptBlock_7 16 rfl rfl)
theorem dX2_encryptBlock_183 : decode cX2_encryptBlock 183 = .ok (.iload 7, 2) := dk_21 7 (dk_at dksX2_encryptBlock_7 17 rfl rfl)
theorem dX2_encryptBlock_185 : decode cX2_encryptBlock 185 = .ok (.aload 5, 2) := dk_25 5 (dk_at dksX2_encryptBlock_7 19 rfl rfl)
theorem dX2_encryptBlock_187 : decode cX2_encryptBlock 187 = .ok (.iconst 0, 1) := dk_3 (dk_at dksX2_encryptBlock_7 21 rfl rfl)
theorem dX2_encryptBlock_188 : decode cX2_encryptBlock 188 = .ok (.iaload, 1) := dk_46 (dk_at dksX2_encryptBlock_7 22 rfl rfl)
theorem dX2_encryptBlock_189 : decode cX2_encryptBlock 189 = .ok (.iconst 2, 1) := dk_5 (dk_at dksX2_encryptBlock_7 23 rfl rfl)
theorem dX2_encryptBlock_190 : decode cX2_encryptBlock 190 = .ok (.iushr, 1) := dk_124 (dk_at dksX2_encryptBlock_8 0 rfl rfl)
theorem dX2_encryptBlock_191 : decode cX2_encryptBlock 191 = .ok (.aload 5, 2) := dk_25 5 (dk_at dksX2_encryptBlock_8 1 rfl rfl)
theorem dX2_encryptBlock_193 : decode cX2_encryptBlock 193 = .ok (.iconst 0, 1) := dk_3 (dk_at dksX2_encryptBlock_8 3 rfl rfl)
theorem dX2_encryptBlock_194 : decode cX2_encryptBlock 194 = .ok (.iaload, 1) := dk_46 (dk_at dksX2_encryptBlock_8 4 rfl rfl)
theorem dX2_encryptBlock_195 : decode cX2_encryptBlock 195 = .ok (.bipush (-2), 2) := dk_16 254 (dk_at dksX2_encryptBlock_8 5 rfl rfl)
theorem dX2_encryptBlock_197 : decode cX2_encryptBlock 197 = .ok (.ishl, 1) := dk_120 (dk_at dksX2_encryptBlock_8 7 rfl rfl)
theorem dX2_encryptBlock_198 : decode cX2_encryptBlock 198 = .ok (.ior, 1) := dk_128 (dk_at dksX2_encryptBlock_8 8 rfl rfl)
theorem dX2_encryptBlock_199 : decode cX2_encryptBlock 199 = .ok (.aload 5, 2) := dk_25 5 (dk_at dksX2_encryptBlock_8 9 rfl rfl)
theorem dX2_encryptBlock_201 : decode cX2_encryptBlock 201 = .ok (.iconst 0, 1) := dk_3 (dk_at dksX2_encryptBlock_8 11 rfl rfl)
theorem dX2_encryptBlock_202 : decode cX2_encryptBlock 202 = .ok (.iaload, 1) := dk_46 (dk_at dksX2_encryptBlock_8 12 rfl rfl)
theorem dX2_encryptBlock_203 : decode cX2_encryptBlock 203 = .ok (.bipush 13, 2) := dk_16 13 (dk_at dksX2_encryptBlock_8 13 rfl rfl)
theorem dX2_encryptBlock_205 : decode cX2_encryptBlock 205 = .ok (.iushr, 1) := dk_124 (dk_at dksX2_encryptBlock_8 15 rfl rfl)
theorem dX2_encryptBlock_206 : decode cX2_encryptBlock 206 = .ok (.aload 5, 2) := dk_25 5 (dk_at dksX2_encryptBlock_8 16 rfl rfl)
theorem dX2_encryptBlock_208 : decode cX2_encryptBlock 208 = .ok (.iconst 0, 1) := dk_3 (dk_at dksX2_encryptBlock_8 18 rfl rfl)
theorem dX2_encryptBlock_209 : decode cX2_encryptBlock 209 = .ok (.iaload, 1) := dk_46 (dk_at dksX2_encryptBlock_8 19 rfl rfl)
theorem dX2_encryptBlock_210 : decode cX2_encryptBlock 210 = .ok (.bipush (-13), 2) := dk_16 243 (dk_at dksX2_encryptBlock_8 20 rfl rfl)
theorem dX2_encryptBlock_212 : decode cX2_encryptBlock 212 = .ok (.ishl, 1) := dk_120 (dk_at dksX2_encryptBlock_8 22 rfl rfl)
theorem dX2_encryptBlock_213 : decode cX2_encryptBlock 213 = .ok (.ior, 1) := dk_128 (dk_at dksX2_encryptBlock_8 23 rfl rfl)
theorem dX2_encryptBlock_214 : decode cX2_encryptBlock 214 = .ok (.ixor, 1) := dk_130 (dk_at dksX2_encryptBlock_9 0 rfl rfl)
theorem dX2_encryptBlock_215 : decode cX2_encryptBlock 215 = .ok (.aload 5, 2) := dk_25 5 (dk_at dksX2_encryptBlock_9 1 rfl rfl)
theorem dX2_encryptBlock_217 : decode cX2_encryptBlock 217 = .ok (.iconst 0, 1) := dk_3 (dk_at dksX2_encryptBlock_9 3 rfl rfl)
theorem dX2_encryptBlock_218 : decode cX2_encryptBlock 218 = .ok (.iaload, 1) := dk_46 (dk_at dksX2_encryptBlock_9 4 rfl rfl)
theorem dX2_encryptBlock_219 : decode cX2_encryptBlock 219 = .ok (.bipush 22, 2) := dk_16 22 (dk_at dksX2_encryptBlock_9 5 rfl rfl)
theorem dX2_encryptBlock_221 : decode cX2_encryptBlock 221 = .ok (.iushr, 1) := dk_124 (dk_at dksX2_encryptBlock_9 7 rfl rfl)
theorem dX2_encryptBlock_222 : decode cX2_encryptBlock 222 = .ok (.aload 5, 2) := dk_25 5 (dk_at dksX2_encryptBlock_9 8 rfl rfl)
theorem dX2_encryptBlock_224 : decode cX2_encryptBlock 224 = .ok (.iconst 0, 1) := dk_3 (dk_at dksX2_encryptBlock_9 10 rfl rfl)
theorem dX2_encryptBlock_225 : decode cX2_encryptBlock 225 = .ok (.iaload, 1) := dk_46 (dk_at dksX2_encryptBlock_9 11 rfl rfl)
theorem dX2_encryptBlock_226 : decode cX2_encryptBlock 226 = .ok (.bipush (-22), 2) := dk_16 234 (dk_at dksX2_encryptBlock_9 12 rfl rfl)
theorem dX2_encryptBlock_228 : decode cX2_encryptBlock 228 = .ok (.ishl, 1) := dk_120 (dk_at dksX2_encryptBlock_9 14 rfl rfl)
theorem dX2_encryptBlock_229 : decode cX2_encryptBlock 229 = .ok (.ior, 1) := dk_128 (dk_at dksX2_encryptBlock_9 15 rfl rfl)
theorem dX2_encryptBlock_230 : decode cX2_encryptBlock 230 = .ok (.ixor, 1) := dk_130 (dk_at dksX2_encryptBlock_9 16 rfl rfl)
theorem dX2_encryptBlock_231 : decode cX2_encryptBlock 231 = .ok (.iadd, 1) := dk_96 (dk_at dksX2_encryptBlock_9 17 rfl rfl)
theorem dX2_encryptBlock_232 : decode cX2_encryptBlock 232 = .ok (.aload 5, 2) := dk_25 5 (dk_at dksX2_encryptBlock_9 18 rfl rfl)
theorem dX2_encryptBlock_234 : decode cX2_encryptBlock 234 = .ok (.iconst 0, 1) := dk_3 (dk_at dksX2_encryptBlock_9 20 rfl rfl)
theorem dX2_encryptBlock_235 : decode cX2_encryptBlock 235 = .ok (.iaload, 1) := dk_46 (dk_at dksX2_encryptBlock_9 21 rfl rfl)
theorem dX2_encryptBlock_236 : decode cX2_encryptBlock 236 = .ok (.aload 5, 2) := dk_25 5 (dk_at dksX2_encryptBlock_9 22 rfl rfl)
theorem dX2_encryptBlock_238 : decode cX2_encryptBlock 238 = .ok (.iconst 2, 1) := dk_5 (dk_at dksX2_encryptBlock_10 0 rfl rfl)
theorem dX2_encryptBlock_239 : decode cX2_encryptBlock 239 = .ok (.iaload, 1) := dk_46 (dk_at dksX2_encryptBlock_10 1 rfl rfl)
theorem dX2_encryptBlock_240 : decode cX2_encryptBlock 240 = .ok (.iand, 1) := dk_126 (dk_at dksX2_encryptBlock_10 2 rfl rfl)
theorem dX2_encryptBlock_241 : decode cX2_encryptBlock 241 = .ok (.aload 5, 2) := dk_25 5 (dk_at dksX2_encryptBlock_10 3 rfl rfl)
theorem dX2_encryptBlock_243 : decode cX2_encryptBlock 243 = .ok (.iconst 0, 1) := dk_3 (dk_at dksX2_encryptBlock_10 5 rfl rfl)
theorem dX2_encryptBlock_244 : decode cX2_encryptBlock 244 = .ok (.iaload, 1) := dk_46 (dk_at dksX2_encryptBlock_10 6 rfl rfl)
theorem dX2_encryptBlock_245 : decode cX2_encryptBlock 245 = .ok (.aload 5, 2) := dk_25 5 (dk_at dksX2_encryptBlock_10 7 rfl rfl)
theorem dX2_encryptBlock_247 : decode cX2_encryptBlock 247 = .ok (.iconst 3, 1) := dk_6 (dk_at dksX2_encryptBlock_10 9 rfl rfl)
theorem dX2_encryptBlock_248 : decode cX2_encryptBlock 248 = .ok (.iaload, 1) := dk_46 (dk_at dksX2_encryptBlock_10 10 rfl rfl)
theorem dX2_encryptBlock_249 : decode cX2_encryptBlock 249 = .ok (.iand, 1) := dk_126 (dk_at dksX2_encryptBlock_10 11 rfl rfl)
theorem dX2_encryptBlock_250 : decode cX2_encryptBlock 250 = .ok (.ixor, 1) := dk_130 (dk_at dksX2_encryptBlock_10 12 rfl rfl)
theorem dX2_encryptBlock_251 : decode cX2_encryptBlock 251 = .ok (.aload 5, 2) := dk_25 5 (dk_at dksX2_encryptBlock_10 13 rfl rfl)
theorem dX2_encryptBlock_253 : decode cX2_encryptBlock 253 = .ok (.iconst 2, 1) := dk_5 (dk_at dksX2_encryptBlock_10 15 rfl rfl)
theorem dX2_encryptBlock_254 : decode cX2_encryptBlock 254 = .ok (.iaload, 1) := dk_46 (dk_at dksX2_encryptBlock_10 16 rfl rfl)
theorem dX2_encryptBlock_255 : decode cX2_encryptBlock 255 = .ok (.aload 5, 2) := dk_25 5 (dk_at dksX2_encryptBlock_10 17 rfl rfl)
theorem dX2_encryptBlock_257 : decode cX2_encryptBlock 257 = .ok (.iconst 3, 1) := dk_6 (dk_at dksX2_encryptBlock_10 19 rfl rfl)
theorem dX2_encryptBlock_258 : decode cX2_encryptBlock 258 = .ok (.iaload, 1) := dk_46 (dk_at dksX2_encryptBlock_10 20 rfl rfl)
theorem dX2_encryptBlock_259 : decode cX2_encryptBlock 259 = .ok (.iand, 1) := dk_126 (dk_at dksX2_encryptBlock_10 21 rfl rfl)
theorem dX2_encryptBlock_260 : decode cX2_encryptBlock 260 = .ok (.ixor, 1) := dk_130 (dk_at dksX2_encryptBlock_10 22 rfl rfl)
theorem dX2_encryptBlock_261 : decode cX2_encryptBlock 261 = .ok (.iadd, 1) := dk_96 (dk_at dksX2_encryptBlock_10 23 rfl rfl)
theorem dX2_encryptBlock_262 : decode cX2_encryptBlock 262 = .ok (.iastore, 1) := dk_79 (dk_at dksX2_encryptBlock_11 0 rfl rfl)
theorem dX2_encryptBlock_263 : decode cX2_encryptBlock 263 = .ok (.iinc 6 1, 3) := dk_132 6 1 (dk_at dksX2_encryptBlock_11 1 rfl rfl)
theorem dX2_encryptBlock_266 : decode cX2_encryptBlock 266 = .ok (.goto (-248), 3) := dk_167 255 8 (dk_at dksX2_encryptBlock_11 4 rfl rfl)
theorem dX2_encryptBlock_269 : decode cX2_encryptBlock 269 = .ok (.aload_n 0, 1) := dk_42 (dk_at dksX2_encryptBlock_11 7 rfl rfl)
theorem dX2_encryptBlock_270 : decode cX2_encryptBlock 270 = .ok (.aload 5, 2) := dk_25 5 (dk_at dksX2_encryptBlock_11 8 rfl rfl)
theorem dX2_encryptBlock_272 : decode cX2_encryptBlock 272 = .ok (.aload_n 3, 1) := dk_45 (dk_at dksX2_encryptBlock_11 10 rfl rfl)
theorem dX2_encryptBlock_273 : decode cX2_encryptBlock 273 = .ok (.iload 4, 2) := dk_21 4 (dk_at dksX2_encryptBlock_11 11 rfl rfl)
theorem dX2_encryptBlock_275 : decode cX2_encryptBlock 275 = .ok (.invokevirtual 46, 3) := dk_182 0 46 (dk_at dksX2_encryptBlock_11 13 rfl rfl)
theorem dX2_encryptBlock_278 : decode cX2_encryptBlock 278 = .ok (.return_, 1) := dk_177 (dk_at dksX2_encryptBlock_11 16 rfl rfl)
abbrev cX2_byteBlockToInts : ByteArray := prog_7_method_7_code
def yX2_byteBlockToInts : MethodName := ⟨RX2, "byteBlockToInts", "([B[III)V"⟩
def dkwX2_byteBlockToInts_3 : List UInt8 := [167, 255, 190, 177]
abbrev dktX2_byteBlockToInts_3 : List UInt8 := dkwX2_byteBlockToInts_3 ++ []
def dkwX2_byteBlockToInts_2 : List UInt8 := [17, 0, 255, 126, 16, 8, 120, 128, 43, 29, 132, 3, 1, 51, 17, 0, 255, 126, 128, 79, 132, 5, 1]
abbrev dktX2_byteBlockToInts_2 : List UInt8 := dkwX2_byteBlockToInts_2 ++ dktX2_byteBlockToInts_3
def dkwX2_byteBlockToInts_1 : List UInt8 := [16, 24, 120, 43, 29, 132, 3, 1, 51, 17, 0, 255, 126, 16, 16, 120, 128, 43, 29, 132, 3, 1, 51]
abbrev dktX2_byteBlockToInts_1 : List UInt8 := dkwX2_byteBlockToInts_1 ++ dktX2_byteBlockToInts_2
def dkwX2_byteBlockToInts_0 : List UInt8 := [21, 4, 54, 5, 21, 5, 16, 8, 162, 0, 65, 44, 21, 5, 43, 29, 132, 3, 1, 51, 17, 0, 255, 126]
abbrev dktX2_byteBlockToInts_0 : List UInt8 := dkwX2_byteBlockToInts_0 ++ dktX2_byteBlockToInts_1
theorem dksX2_byteBlockToInts_0 : cX2_byteBlockToInts.data.toList.drop 0 = dktX2_byteBlockToInts_0 := by decide +kernel
theorem dksX2_byteBlockToInts_1 : cX2_byteBlockToInts.data.toList.drop 24 = dktX2_byteBlockToInts_1 := dk_seg dksX2_byteBlockToInts_0 24 rfl rfl
theorem dksX2_byteBlockToInts_2 : cX2_byteBlockToInts.data.toList.drop 47 = dktX2_byteBlockToInts_2 := dk_seg dksX2_byteBlockToInts_1 23 rfl rfl
theorem dksX2_byteBlockToInts_3 : cX2_byteBlockToInts.data.toList.drop 70 = dktX2_byteBlockToInts_3 := dk_seg dksX2_byteBlockToInts_2 23 rfl rfl
theorem dX2_byteBlockToInts_0 : decode cX2_byteBlockToInts 0 = .ok (.iload 4, 2) := dk_21 4 (dk_at dksX2_byteBlockToInts_0 0 rfl rfl)
theorem dX2_byteBlockToInts_2 : decode cX2_byteBlockToInts 2 = .ok (.istore 5, 2) := dk_54 5 (dk_at dksX2_byteBlockToInts_0 2 rfl rfl)
theorem dX2_byteBlockToInts_4 : decode cX2_byteBlockToInts 4 = .ok (.iload 5, 2) := dk_21 5 (dk_at dksX2_byteBlockToInts_0 4 rfl rfl)
theorem dX2_byteBlockToInts_6 : decode cX2_byteBlockToInts 6 = .ok (.bipush 8, 2) := dk_16 8 (dk_at dksX2_byteBlockToInts_0 6 rfl rfl)
theorem dX2_byteBlockToInts_8 : decode cX2_byteBlockToInts 8 = .ok (.if_icmp .ge 65, 3) := dk_162 0 65 (dk_at dksX2_byteBlockToInts_0 8 rfl rfl)
theorem dX2_byteBlockToInts_11 : decode cX2_byteBlockToInts 11 = .ok (.aload_n 2, 1) := dk_44 (dk_at dksX2_byteBlockToInts_0 11 rfl rfl)
theorem dX2_byteBlockToInts_12 : decode cX2_byteBlockToInts 12 = .ok (.iload 5, 2) := dk_21 5 (dk_at dksX2_byteBlockToInts_0 12 rfl rfl)
theorem dX2_byteBlockToInts_14 : decode cX2_byteBlockToInts 14 = .ok (.aload_n 1, 1) := dk_43 (dk_at dksX2_byteBlockToInts_0 14 rfl rfl)
theorem dX2_byteBlockToInts_15 : decode cX2_byteBlockToInts 15 = .ok (.iload_n 3, 1) := dk_29 (dk_at dksX2_byteBlockToInts_0 15 rfl rfl)
theorem dX2_byteBlockToInts_16 : decode cX2_byteBlockToInts 16 = .ok (.iinc 3 1, 3) := dk_132 3 1 (dk_at dksX2_byteBlockToInts_0 16 rfl rfl)
theorem dX2_byteBlockToInts_19 : decode cX2_byteBlockToInts 19 = .ok (.baload, 1) := dk_51 (dk_at dksX2_byteBlockToInts_0 19 rfl rfl)
theorem dX2_byteBlockToInts_20 : decode cX2_byteBlockToInts 20 = .ok (.sipush 255, 3) := dk_17 0 255 (dk_at dksX2_byteBlockToInts_0 20 rfl rfl)
theorem dX2_byteBlockToInts_23 : decode cX2_byteBlockToInts 23 = .ok (.iand, 1) := dk_126 (dk_at dksX2_byteBlockToInts_0 23 rfl rfl)
theorem dX2_byteBlockToInts_24 : decode cX2_byteBlockToInts 24 = .ok (.bipush 24, 2) := dk_16 24 (dk_at dksX2_byteBlockToInts_1 0 rfl rfl)
theorem dX2_byteBlockToInts_26 : decode cX2_byteBlockToInts 26 = .ok (.ishl, 1) := dk_120 (dk_at dksX2_byteBlockToInts_1 2 rfl rfl)
theorem dX2_byteBlockToInts_27 : decode cX2_byteBlockToInts 27 = .ok (.aload_n 1, 1) := dk_43 (dk_at dksX2_byteBlockToInts_1 3 rfl rfl)
theorem dX2_byteBlockToInts_28 : decode cX2_byteBlockToInts 28 = .ok (.iload_n 3, 1) := dk_29 (dk_at dksX2_byteBlockToInts_1 4 rfl rfl)
theorem dX2_byteBlockToInts_29 : decode cX2_byteBlockToInts 29 = .ok (.iinc 3 1, 3) := dk_132 3 1 (dk_at dksX2_byteBlockToInts_1 5 rfl rfl)
theorem dX2_byteBlockToInts_32 : decode cX2_byteBlockToInts 32 = .ok (.baload, 1) := dk_51 (dk_at dksX2_byteBlockToInts_1 8 rfl rfl)
theorem dX2_byteBlockToInts_33 : decode cX2_byteBlockToInts 33 = .ok (.sipush 255, 3) := dk_17 0 255 (dk_at dksX2_byteBlockToInts_1 9 rfl rfl)
theorem dX2_byteBlockToInts_36 : decode cX2_byteBlockToInts 36 = .ok (.iand, 1) := dk_126 (dk_at dksX2_byteBlockToInts_1 12 rfl rfl)
theorem dX2_byteBlockToInts_37 : decode cX2_byteBlockToInts 37 = .ok (.bipush 16, 2) := dk_16 16 (dk_at dksX2_byteBlockToInts_1 13 rfl rfl)
theorem dX2_byteBlockToInts_39 : decode cX2_byteBlockToInts 39 = .ok (.ishl, 1) := dk_120 (dk_at dksX2_byteBlockToInts_1 15 rfl rfl)
theorem dX2_byteBlockToInts_40 : decode cX2_byteBlockToInts 40 = .ok (.ior, 1) := dk_128 (dk_at dksX2_byteBlockToInts_1 16 rfl rfl)
theorem dX2_byteBlockToInts_41 : decode cX2_byteBlockToInts 41 = .ok (.aload_n 1, 1) := dk_43 (dk_at dksX2_byteBlockToInts_1 17 rfl rfl)
theorem dX2_byteBlockToInts_42 : decode cX2_byteBlockToInts 42 = .ok (.iload_n 3, 1) := dk_29 (dk_at dksX2_byteBlockToInts_1 18 rfl rfl)
theorem dX2_byteBlockToInts_43 : decode cX2_byteBlockToInts 43 = .ok (.iinc 3 1, 3) := dk_132 3 1 (dk_at dksX2_byteBlockToInts_1 19 rfl rfl)
theorem dX2_byteBlockToInts_46 : decode cX2_byteBlockToInts 46 = .ok (.baload, 1) := dk_51 (dk_at dksX2_byteBlockToInts_1 22 rfl rfl)
theorem dX2_byteBlockToInts_47 : decode cX2_byteBlockToInts 47 = .ok (.sipush 255, 3) := dk_17 0 255 (dk_at dksX2_byteBlockToInts_2 0 rfl rfl)
theorem dX2_byteBlockToInts_50 : decode cX2_byteBlockToInts 50 = .ok (.iand, 1) := dk_126 (dk_at dksX2_byteBlockToInts_2 3 rfl rfl)
theorem dX2_byteBlockToInts_51 : decode cX2_byteBlockToInts 51 = .ok (.bipush 8, 2) := dk_16 8 (dk_at dksX2_byteBlockToInts_2 4 rfl rfl)
theorem dX2_byteBlockToInts_53 : decode cX2_byteBlockToInts 53 = .ok (.ishl, 1) := dk_120 (dk_at dksX2_byteBlockToInts_2 6 rfl rfl)
theorem dX2_byteBlockToInts_54 : decode cX2_byteBlockToInts 54 = .ok (.ior, 1) := dk_128 (dk_at dksX2_byteBlockToInts_2 7 rfl rfl)
theorem dX2_byteBlockToInts_55 : decode cX2_byteBlockToInts 55 = .ok (.aload_n 1, 1) := dk_43 (dk_at dksX2_byteBlockToInts_2 8 rfl rfl)
theorem dX2_byteBlockToInts_56 : decode cX2_byteBlockToInts 56 = .ok (.iload_n 3, 1) := dk_29 (dk_at dksX2_byteBlockToInts_2 9 rfl rfl)
theorem dX2_byteBlockToInts_57 : decode cX2_byteBlockToInts 57 = .ok (.iinc 3 1, 3) := dk_132 3 1 (dk_at dksX2_byteBlockToInts_2 10 rfl rfl)
theorem dX2_byteBlockToInts_60 : decode cX2_byteBlockToInts 60 = .ok (.baload, 1) := dk_51 (dk_at dksX2_byteBlockToInts_2 13 rfl rfl)
theorem dX2_byteBlockToInts_61 : decode cX2_byteBlockToInts 61 = .ok (.sipush 255, 3) := dk_17 0 255 (dk_at dksX2_byteBlockToInts_2 14 rfl rfl)
theorem dX2_byteBlockToInts_64 : decode cX2_byteBlockToInts 64 = .ok (.iand, 1) := dk_126 (dk_at dksX2_byteBlockToInts_2 17 rfl rfl)
theorem dX2_byteBlockToInts_65 : decode cX2_byteBlockToInts 65 = .ok (.ior, 1) := dk_128 (dk_at dksX2_byteBlockToInts_2 18 rfl rfl)
theorem dX2_byteBlockToInts_66 : decode cX2_byteBlockToInts 66 = .ok (.iastore, 1) := dk_79 (dk_at dksX2_byteBlockToInts_2 19 rfl rfl)
theorem dX2_byteBlockToInts_67 : decode cX2_byteBlockToInts 67 = .ok (.iinc 5 1, 3) := dk_132 5 1 (dk_at dksX2_byteBlockToInts_2 20 rfl rfl)
theorem dX2_byteBlockToInts_70 : decode cX2_byteBlockToInts 70 = .ok (.goto (-66), 3) := dk_167 255 190 (dk_at dksX2_byteBlockToInts_3 0 rfl rfl)
theorem dX2_byteBlockToInts_73 : decode cX2_byteBlockToInts 73 = .ok (.return_, 1) := dk_177 (dk_at dksX2_byteBlockToInts_3 3 rfl rfl)
abbrev cX2_ints2bytes : ByteArray := prog_7_method_9_code
def yX2_ints2bytes : MethodName := ⟨RX2, "ints2bytes", "([I[BI)V"⟩
def dkwX2_ints2bytes_2 : List UInt8 := [16, 8, 124, 145, 84, 44, 29, 132, 3, 1, 43, 21, 4, 46, 145, 84, 132, 4, 1, 167, 255, 193, 177]
abbrev dktX2_ints2bytes_2 : List UInt8 := dkwX2_ints2bytes_2 ++ []
def dkwX2_ints2bytes_1 : List UInt8 := [44, 29, 132, 3, 1, 43, 21, 4, 46, 16, 16, 124, 145, 84, 44, 29, 132, 3, 1, 43, 21, 4, 46]
abbrev dktX2_ints2bytes_1 : List UInt8 := dkwX2_ints2bytes_1 ++ dktX2_ints2bytes_2
def dkwX2_ints2bytes_0 : List UInt8 := [3, 54, 4, 21, 4, 43, 190, 162, 0, 62, 44, 29, 132, 3, 1, 43, 21, 4, 46, 16, 24, 124, 145, 84]
abbrev dktX2_ints2bytes_0 : List UInt8 := dkwX2_ints2bytes_0 ++ dktX2_ints2bytes_1
theorem dksX2_ints2bytes_0 : cX2_ints2bytes.data.toList.drop 0 = dktX2_ints2bytes_0 := by decide +kernel
theorem dksX2_ints2bytes_1 : cX2_ints2bytes.data.toList.drop 24 = dktX2_ints2bytes_1 := dk_seg dksX2_ints2bytes_0 24 rfl rfl
theorem dksX2_ints2bytes_2 : cX2_ints2bytes.data.toList.drop 47 = dktX2_ints2bytes_2 := dk_seg dksX2_ints2bytes_1 23 rfl rfl
theorem dX2_ints2bytes_0 : decode cX2_ints2bytes 0 = .ok (.iconst 0, 1) := dk_3 (dk_at dksX2_ints2bytes_0 0 rfl rfl)
theorem dX2_ints2bytes_1 : decode cX2_ints2bytes 1 = .ok (.istore 4, 2) := dk_54 4 (dk_at dksX2_ints2bytes_0 1 rfl rfl)
theorem dX2_ints2bytes_3 : decode cX2_ints2bytes 3 = .ok (.iload 4, 2) := dk_21 4 (dk_at dksX2_ints2bytes_0 3 rfl rfl)
theorem dX2_ints2bytes_5 : decode cX2_ints2bytes 5 = .ok (.aload_n 1, 1) := dk_43 (dk_at dksX2_ints2bytes_0 5 rfl rfl)
theorem dX2_ints2bytes_6 : decode cX2_ints2bytes 6 = .ok (.arraylength, 1) := dk_190 (dk_at dksX2_ints2bytes_0 6 rfl rfl)
theorem dX2_ints2bytes_7 : decode cX2_ints2bytes 7 = .ok (.if_icmp .ge 62, 3) := dk_162 0 62 (dk_at dksX2_ints2bytes_0 7 rfl rfl)
theorem dX2_ints2bytes_10 : decode cX2_ints2bytes 10 = .ok (.aload_n 2, 1) := dk_44 (dk_at dksX2_ints2bytes_0 10 rfl rfl)
theorem dX2_ints2bytes_11 : decode cX2_ints2bytes 11 = .ok (.iload_n 3, 1) := dk_29 (dk_at dksX2_ints2bytes_0 11 rfl rfl)
theorem dX2_ints2bytes_12 : decode cX2_ints2bytes 12 = .ok (.iinc 3 1, 3) := dk_132 3 1 (dk_at dksX2_ints2bytes_0 12 rfl rfl)
theorem dX2_ints2bytes_15 : decode cX2_ints2bytes 15 = .ok (.aload_n 1, 1) := dk_43 (dk_at dksX2_ints2bytes_0 15 rfl rfl)
theorem dX2_ints2bytes_16 : decode cX2_ints2bytes 16 = .ok (.iload 4, 2) := dk_21 4 (dk_at dksX2_ints2bytes_0 16 rfl rfl)
theorem dX2_ints2bytes_18 : decode cX2_ints2bytes 18 = .ok (.iaload, 1) := dk_46 (dk_at dksX2_ints2bytes_0 18 rfl rfl)
theorem dX2_ints2bytes_19 : decode cX2_ints2bytes 19 = .ok (.bipush 24, 2) := dk_16 24 (dk_at dksX2_ints2bytes_0 19 rfl rfl)
theorem dX2_ints2bytes_21 : decode cX2_ints2bytes 21 = .ok (.iushr, 1) := dk_124 (dk_at dksX2_ints2bytes_0 21 rfl rfl)
theorem dX2_ints2bytes_22 : decode cX2_ints2bytes 22 = .ok (.i2b, 1) := dk_145 (dk_at dksX2_ints2bytes_0 22 rfl rfl)
theorem dX2_ints2bytes_23 : decode cX2_ints2bytes 23 = .ok (.bastore, 1) := dk_84 (dk_at dksX2_ints2bytes_0 23 rfl rfl)
theorem dX2_ints2bytes_24 : decode cX2_ints2bytes 24 = .ok (.aload_n 2, 1) := dk_44 (dk_at dksX2_ints2bytes_1 0 rfl rfl)
theorem dX2_ints2bytes_25 : decode cX2_ints2bytes 25 = .ok (.iload_n 3, 1) := dk_29 (dk_at dksX2_ints2bytes_1 1 rfl rfl)
theorem dX2_ints2bytes_26 : decode cX2_ints2bytes 26 = .ok (.iinc 3 1, 3) := dk_132 3 1 (dk_at dksX2_ints2bytes_1 2 rfl rfl)
theorem dX2_ints2bytes_29 : decode cX2_ints2bytes 29 = .ok (.aload_n 1, 1) := dk_43 (dk_at dksX2_ints2bytes_1 5 rfl rfl)
theorem dX2_ints2bytes_30 : decode cX2_ints2bytes 30 = .ok (.iload 4, 2) := dk_21 4 (dk_at dksX2_ints2bytes_1 6 rfl rfl)
theorem dX2_ints2bytes_32 : decode cX2_ints2bytes 32 = .ok (.iaload, 1) := dk_46 (dk_at dksX2_ints2bytes_1 8 rfl rfl)
theorem dX2_ints2bytes_33 : decode cX2_ints2bytes 33 = .ok (.bipush 16, 2) := dk_16 16 (dk_at dksX2_ints2bytes_1 9 rfl rfl)
theorem dX2_ints2bytes_35 : decode cX2_ints2bytes 35 = .ok (.iushr, 1) := dk_124 (dk_at dksX2_ints2bytes_1 11 rfl rfl)
theorem dX2_ints2bytes_36 : decode cX2_ints2bytes 36 = .ok (.i2b, 1) := dk_145 (dk_at dksX2_ints2bytes_1 12 rfl rfl)
theorem dX2_ints2bytes_37 : decode cX2_ints2bytes 37 = .ok (.bastore, 1) := dk_84 (dk_at dksX2_ints2bytes_1 13 rfl rfl)
theorem dX2_ints2bytes_38 : decode cX2_ints2bytes 38 = .ok (.aload_n 2, 1) := dk_44 (dk_at dksX2_ints2bytes_1 14 rfl rfl)
theorem dX2_ints2bytes_39 : decode cX2_ints2bytes 39 = .ok (.iload_n 3, 1) := dk_29 (dk_at dksX2_ints2bytes_1 15 rfl rfl)
theorem dX2_ints2bytes_40 : decode cX2_ints2bytes 40 = .ok (.iinc 3 1, 3) := dk_132 3 1 (dk_at dksX2_ints2bytes_1 16 rfl rfl)
theorem dX2_ints2bytes_43 : decode cX2_ints2bytes 43 = .ok (.aload_n 1, 1) := dk_43 (dk_at dksX2_ints2bytes_1 19 rfl rfl)
theorem dX2_ints2bytes_44 : decode cX2_ints2bytes 44 = .ok (.iload 4, 2) := dk_21 4 (dk_at dksX2_ints2bytes_1 20 rfl rfl)
theorem dX2_ints2bytes_46 : decode cX2_ints2bytes 46 = .ok (.iaload, 1) := dk_46 (dk_at dksX2_ints2bytes_1 22 rfl rfl)
theorem dX2_ints2bytes_47 : decode cX2_ints2bytes 47 = .ok (.bipush 8, 2) := dk_16 8 (dk_at dksX2_ints2bytes_2 0 rfl rfl)
theorem dX2_ints2bytes_49 : decode cX2_ints2bytes 49 = .ok (.iushr, 1) := dk_124 (dk_at dksX2_ints2bytes_2 2 rfl rfl)
theorem dX2_ints2bytes_50 : decode cX2_ints2bytes 50 = .ok (.i2b, 1) := dk_145 (dk_at dksX2_ints2bytes_2 3 rfl rfl)
theorem dX2_ints2bytes_51 : decode cX2_ints2bytes 51 = .ok (.bastore, 1) := dk_84 (dk_at dksX2_ints2bytes_2 4 rfl rfl)
theorem dX2_ints2bytes_52 : decode cX2_ints2bytes 52 = .ok (.aload_n 2, 1) := dk_44 (dk_at dksX2_ints2bytes_2 5 rfl rfl)
theorem dX2_ints2bytes_53 : decode cX2_ints2bytes 53 = .ok (.iload_n 3, 1) := dk_29 (dk_at dksX2_ints2bytes_2 6 rfl rfl)
theorem dX2_ints2bytes_54 : decode cX2_ints2bytes 54 = .ok (.iinc 3 1, 3) := dk_132 3 1 (dk_at dksX2_ints2bytes_2 7 rfl rfl)
theorem dX2_ints2bytes_57 : decode cX2_ints2bytes 57 = .ok (.aload_n 1, 1) := dk_43 (dk_at dksX2_ints2bytes_2 10 rfl rfl)
theorem dX2_ints2bytes_58 : decode cX2_ints2bytes 58 = .ok (.iload 4, 2) := dk_21 4 (dk_at dksX2_ints2bytes_2 11 rfl rfl)
theorem dX2_ints2bytes_60 : decode cX2_ints2bytes 60 = .ok (.iaload, 1) := dk_46 (dk_at dksX2_ints2bytes_2 13 rfl rfl)
theorem dX2_ints2bytes_61 : decode cX2_ints2bytes 61 = .ok (.i2b, 1) := dk_145 (dk_at dksX2_ints2bytes_2 14 rfl rfl)
theorem dX2_ints2bytes_62 : decode cX2_ints2bytes 62 = .ok (.bastore, 1) := dk_84 (dk_at dksX2_ints2bytes_2 15 rfl rfl)
theorem dX2_ints2bytes_63 : decode cX2_ints2bytes 63 = .ok (.iinc 4 1, 3) := dk_132 4 1 (dk_at dksX2_ints2bytes_2 16 rfl rfl)
theorem dX2_ints2bytes_66 : decode cX2_ints2bytes 66 = .ok (.goto (-63), 3) := dk_167 255 193 (dk_at dksX2_ints2bytes_2 19 rfl rfl)
theorem dX2_ints2bytes_69 : decode cX2_ints2bytes 69 = .ok (.return_, 1) := dk_177 (dk_at dksX2_ints2bytes_2 22 rfl rfl)
abbrev cX2_decryptBlock : ByteArray := prog_7_method_5_code
def yX2_decryptBlock : MethodName := ⟨RX2, "decryptBlock", "([BI[BI)V"⟩
def dkwX2_decryptBlock_11 : List UInt8 := [100, 79, 132, 6, 255, 167, 255, 9, 42, 25, 5, 45, 21, 4, 182, 0, 46, 177]
abbrev dktX2_decryptBlock_11 : List UInt8 := dkwX2_decryptBlock_11 ++ []
def dkwX2_decryptBlock_10 : List UInt8 := [130, 100, 25, 5, 7, 46, 25, 5, 8, 46, 126, 25, 5, 7, 46, 2, 130, 25, 5, 16, 6, 46, 126, 130]
abbrev dktX2_decryptBlock_10 : List UInt8 := dkwX2_decryptBlock_10 ++ dktX2_decryptBlock_11
def dkwX2_decryptBlock_9 : List UInt8 := [25, 5, 7, 46, 16, 245, 120, 128, 130, 25, 5, 7, 46, 16, 25, 124, 25, 5, 7, 46, 16, 231, 120, 128]
abbrev dktX2_decryptBlock_9 : List UInt8 := dkwX2_decryptBlock_9 ++ dktX2_decryptBlock_10
def dkwX2_decryptBlock_8 : List UInt8 := [100, 25, 5, 7, 46, 16, 6, 124, 25, 5, 7, 46, 16, 250, 120, 128, 25, 5, 7, 46, 16, 11, 124]
abbrev dktX2_decryptBlock_8 : List UInt8 := dkwX2_decryptBlock_8 ++ dktX2_decryptBlock_9
def dkwX2_decryptBlock_7 : List UInt8 := [16, 7, 46, 79, 25, 5, 16, 7, 21, 7, 178, 0, 43, 21, 6, 46, 100, 42, 180, 0, 13, 21, 6, 46]
abbrev dktX2_decryptBlock_7 : List UInt8 := dkwX2_decryptBlock_7 ++ dktX2_decryptBlock_8
def dkwX2_decryptBlock_6 : List UInt8 := [79, 25, 5, 7, 25, 5, 8, 46, 79, 25, 5, 8, 25, 5, 16, 6, 46, 79, 25, 5, 16, 6, 25, 5]
abbrev dktX2_decryptBlock_6 : List UInt8 := dkwX2_decryptBlock_6 ++ dktX2_decryptBlock_7
def dkwX2_decryptBlock_5 : List UInt8 := [4, 25, 5, 5, 46, 79, 25, 5, 5, 25, 5, 6, 46, 79, 25, 5, 6, 25, 5, 7, 46, 21, 7, 100]
abbrev dktX2_decryptBlock_5 : List UInt8 := dkwX2_decryptBlock_5 ++ dktX2_decryptBlock_6
def dkwX2_decryptBlock_4 : List UInt8 := [130, 25, 5, 5, 46, 25, 5, 6, 46, 126, 130, 100, 54, 7, 25, 5, 3, 25, 5, 4, 46, 79, 25, 5]
abbrev dktX2_decryptBlock_4 : List UInt8 := dkwX2_decryptBlock_4 ++ dktX2_decryptBlock_5
def dkwX2_decryptBlock_3 : List UInt8 := [16, 234, 120, 128, 130, 100, 25, 5, 4, 46, 25, 5, 5, 46, 126, 25, 5, 4, 46, 25, 5, 6, 46, 126]
abbrev dktX2_decryptBlock_3 : List UInt8 := dkwX2_decryptBlock_3 ++ dktX2_decryptBlock_4
def dkwX2_decryptBlock_2 : List UInt8 := [46, 16, 13, 124, 25, 5, 4, 46, 16, 243, 120, 128, 130, 25, 5, 4, 46, 16, 22, 124, 25, 5, 4, 46]
abbrev dktX2_decryptBlock_2 : List UInt8 := dkwX2_decryptBlock_2 ++ dktX2_decryptBlock_3
def dkwX2_decryptBlock_1 : List UInt8 := [164, 0, 247, 25, 5, 3, 46, 25, 5, 4, 46, 5, 124, 25, 5, 4, 46, 16, 254, 120, 128, 25, 5, 4]
abbrev dktX2_decryptBlock_1 : List UInt8 := dkwX2_decryptBlock_1 ++ dktX2_decryptBlock_2
def dkwX2_decryptBlock_0 : List UInt8 := [16, 8, 188, 10, 58, 5, 42, 43, 25, 5, 28, 3, 182, 0, 40, 16, 63, 54, 6, 21, 6, 2]
abbrev dktX2_decryptBlock_0 : List UInt8 := dkwX2_decryptBlock_0 ++ dktX2_decryptBlock_1
theorem dksX2_decryptBlock_0 : cX2_decryptBlock.data.toList.drop 0 = dktX2_decryptBlock_0 := by decide +kernel
theorem dksX2_decryptBlock_1 : cX2_decryptBlock.data.toList.drop 22 = dktX2_decryptBlock_1 := dk_seg dksX2_decryptBlock_0 22 rfl rfl
theorem dksX2_decryptBlock_2 : cX2_decryptBlock.data.toList.drop 46 = dktX2_decryptBlock_2 := dk_seg dksX2_decryptBlock_1 24 rfl rfl
theorem dksX2_decryptBlock_3 : cX2_decryptBlock.data.toList.drop 70 = dktX2_decryptBlock_3 := dk_seg dksX2_decryptBlock_2 24 rfl rfl
theorem dksX2_decryptBlock_4 : cX2_decryptBlock.data.toList.drop 94 = dktX2_decryptBlock_4 := dk_seg dksX2_decryptBlock_3 24 rfl rfl
theorem dksX2_decryptBlock_5 : cX2_decryptBlock.data.toList.drop 118 = dktX2_decryptBlock_5 := dk_seg dksX2_decryptBlock_4 24 rfl rfl
theorem dksX2_decryptBlock_6 : cX2_decryptBlock.data.toList.drop 142 = dktX2_decryptBlock_6 := dk_seg dksX2_decryptBlock_5 24 rfl rfl
theorem dksX2_decryptBlock_7 : cX2_decryptBlock.data.toList.drop 166 = dktX2_decryptBlock_7 := dk_seg dksX2_decryptBlock_6 24 rfl rfl
theorem dksX2_decryptBlock_8 : cX2_decryptBlock.data.toList.drop 190 = dktX2_decryptBlock_8 := dk_seg dksX2_decryptBlock_7 24 rfl rfl
theorem dksX2_decryptBlock_9 : cX2_decryptBlock.data.toList.drop 213 = dktX2_decryptBlock_9 := dk_seg dksX2_decryptBlock_8 23 rfl rfl
theorem dksX2_decryptBlock_10 : cX2_decryptBlock.data.toList.drop 237 = dktX2_decryptBlock_10 := dk_seg dksX2_decryptBlock_9 24 rfl rfl
theorem dksX2_decryptBlock_11 : cX2_decryptBlock.data.toList.drop 261 = dktX2_decryptBlock_11 := dk_seg dksX2_decryptBlock_10 24 rfl rfl
theorem dX2_decryptBlock_0 : decode cX2_decryptBlock 0 = .ok (.bipush 8, 2) := dk_16 8 (dk_at dksX2_decryptBlock_0 0 rfl rfl)
theorem dX2_decryptBlock_2 : decode cX2_decryptBlock 2 = .ok (.newarray .int, 2) := dk_188_10 (dk_at dksX2_decryptBlock_0 2 rfl rfl)
theorem dX2_decryptBlock_4 : decode cX2_decryptBlock 4 = .ok (.astore 5, 2) := dk_58 5 (dk_at dksX2_decryptBlock_0 4 rfl rfl)
theorem dX2_decryptBlock_6 : decode cX2_decryptBlock 6 = .ok (.aload_n 0, 1) := dk_42 (dk_at dksX2_decryptBlock_0 6 rfl rfl)
theorem dX2_decryptBlock_7 : decode cX2_decryptBlock 7 = .ok (.aload_n 1, 1) := dk_43 (dk_at dksX2_decryptBlock_0 7 rfl rfl)
theorem dX2_decryptBlock_8 : decode cX2_decryptBlock 8 = .ok (.aload 5, 2) := dk_25 5 (dk_at dksX2_decryptBlock_0 8 rfl rfl)
theorem dX2_decryptBlock_10 : decode cX2_decryptBlock 10 = .ok (.iload_n 2, 1) := dk_28 (dk_at dksX2_decryptBlock_0 10 rfl rfl)
theorem dX2_decryptBlock_11 : decode cX2_decryptBlock 11 = .ok (.iconst 0, 1) := dk_3 (dk_at dksX2_decryptBlock_0 11 rfl rfl)
theorem dX2_decryptBlock_12 : decode cX2_decryptBlock 12 = .ok (.invokevirtual 40, 3) := dk_182 0 40 (dk_at dksX2_decryptBlock_0 12 rfl rfl)
theorem dX2_decryptBlock_15 : decode cX2_decryptBlock 15 = .ok (.bipush 63, 2) := dk_16 63 (dk_at dksX2_decryptBlock_0 15 rfl rfl)
theorem dX2_decryptBlock_17 : decode cX2_decryptBlock 17 = .ok (.istore 6, 2) := dk_54 6 (dk_at dksX2_decryptBlock_0 17 rfl rfl)
theorem dX2_decryptBlock_19 : decode cX2_decryptBlock 19 = .ok (.iload 6, 2) := dk_21 6 (dk_at dksX2_decryptBlock_0 19 rfl rfl)
theorem dX2_decryptBlock_21 : decode cX2_decryptBlock 21 = .ok (.iconst (-1), 1) := dk_2 (dk_at dksX2_decryptBlock_0 21 rfl rfl)
theorem dX2_decryptBlock_22 : decode cX2_decryptBlock 22 = .ok (.if_icmp .le 247, 3) := dk_164 0 247 (dk_at dksX2_decryptBlock_1 0 rfl rfl)
theorem dX2_decryptBlock_25 : decode cX2_decryptBlock 25 = .ok (.aload 5, 2) := dk_25 5 (dk_at dksX2_decryptBlock_1 3 rfl rfl)
theorem dX2_decryptBlock_27 : decode cX2_decryptBlock 27 = .ok (.iconst 0, 1) := dk_3 (dk_at dksX2_decryptBlock_1 5 rfl rfl)
theorem dX2_decryptBlock_28 : decode cX2_decryptBlock 28 = .ok (.iaload, 1) := dk_46 (dk_at dksX2_decryptBlock_1 6 rfl rfl)
theorem dX2_decryptBlock_29 : decode cX2_decryptBlock 29 = .ok (.aload 5, 2) := dk_25 5 (dk_at dksX2_decryptBlock_1 7 rfl rfl)
theorem dX2_decryptBlock_31 : decode cX2_decryptBlock 31 = .ok (.iconst 1, 1) := dk_4 (dk_at dksX2_decryptBlock_1 9 rfl rfl)
theorem dX2_decryptBlock_32 : decode cX2_decryptBlock 32 = .ok (.iaload, 1) := dk_46 (dk_at dksX2_decryptBlock_1 10 rfl rfl)
theorem dX2_decryptBlock_33 : decode cX2_decryptBlock 33 = .ok (.iconst 2, 1) := dk_5 (dk_at dksX2_decryptBlock_1 11 rfl rfl)
theorem dX2_decryptBlock_34 : decode cX2_decryptBlock 34 = .ok (.iushr, 1) := dk_124 (dk_at dksX2_decryptBlock_1 12 rfl rfl)
theorem dX2_decryptBlock_35 : decode cX2_decryptBlock 35 = .ok (.aload 5, 2) := dk_25 5 (dk_at dksX2_decryptBlock_1 13 rfl rfl)
theorem dX2_decryptBlock_37 : decode cX2_decryptBlock 37 = .ok (.iconst 1, 1) := dk_4 (dk_at dksX2_decryptBlock_1 15 rfl rfl)
theorem dX2_decryptBlock_38 : decode cX2_decryptBlock 38 = .ok (.iaload, 1) := dk_46 (dk_at dksX2_decryptBlock_1 16 rfl rfl)
theorem dX2_decryptBlock_39 : decode cX2_decryptBlock 39 = .ok (.bipush (-2), 2) := dk_16 254 (dk_at dksX2_decryptBlock_1 17 rfl rfl)
theorem dX2_decryptBlock_41 : decode cX2_decryptBlock 41 = .ok (.ishl, 1) := dk_120 (dk_at dksX2_decryptBlock_1 19 rfl rfl)
theorem dX2_decryptBlock_42 : decode cX2_decryptBlock 42 = .ok (.ior, 1) := dk_128 (dk_at dksX2_decryptBlock_1 20 rfl rfl)
theorem dX2_decryptBlock_43 : decode cX2_decryptBlock 43 = .ok (.aload 5, 2) := dk_25 5 (dk_at dksX2_decryptBlock_1 21 rfl rfl)
theorem dX2_decryptBlock_45 : decode cX2_decryptBlock 45 = .ok (.iconst 1, 1) := dk_4 (dk_at dksX2_decryptBlock_1 23 rfl rfl)
theorem dX2_decryptBlock_46 : decode cX2_decryptBlock 46 = .ok (.iaload, 1) := dk_46 (dk_at dksX2_decryptBlock_2 0 rfl rfl)
theorem dX2_decryptBlock_47 : decode cX2_decryptBlock 47 = .ok (.bipush 13, 2) := dk_16 13 (dk_at dksX2_decryptBlock_2 1 rfl rfl)
theorem dX2_decryptBlock_49 : decode cX2_decryptBlock 49 = .ok (.iushr, 1) := dk_124 (dk_at dksX2_decryptBlock_2 3 rfl rfl)
theorem dX2_decryptBlock_50 : decode cX2_decryptBlock 50 = .ok (.aload 5, 2) := dk_25 5 (dk_at dksX2_decryptBlock_2 4 rfl rfl)
theorem dX2_decryptBlock_52 : decode cX2_decryptBlock 52 = .ok (.iconst 1, 1) := dk_4 (dk_at dksX2_decryptBlock_2 6 rfl rfl)
theorem dX2_decryptBlock_53 : decode cX2_decryptBlock 53 = .ok (.iaload, 1) := dk_46 (dk_at dksX2_decryptBlock_2 7 rfl rfl)
theorem dX2_decryptBlock_54 : decode cX2_decryptBlock 54 = .ok (.bipush (-13), 2) := dk_16 243 (dk_at dksX2_decryptBlock_2 8 rfl rfl)
theorem dX2_decryptBlock_56 : decode cX2_decryptBlock 56 = .ok (.ishl, 1) := dk_120 (dk_at dksX2_decryptBlock_2 10 rfl rfl)
theorem dX2_decryptBlock_57 : decode cX2_decryptBlock 57 = .ok (.ior, 1) := dk_128 (dk_at dksX2_decryptBlock_2 11 rfl rfl)
theorem dX2_decryptBlock_58 : decode cX2_decryptBlock 58 = .ok (.ixor, 1) := dk_130 (dk_at dksX2_decryptBlock_2 12 rfl rfl)
theorem dX2_decryptBlock_59 : decode cX2_decryptBlock 59 = .ok (.aload 5, 2) := dk_25 5 (dk_at dksX2_decryptBlock_2 13 rfl rfl)
theorem dX2_decryptBlock_61 : decode cX2_decryptBlock 61 = .ok (.iconst 1, 1) := dk_4 (dk_at dksX2_decryptBlock_2 15 rfl rfl)
theorem dX2_decryptBlock_62 : decode cX2_decryptBlock 62 = .ok (.iaload, 1) := dk_46 (dk_at dksX2_decryptBlock_2 16 rfl rfl)
theorem dX2_decryptBlock_63 : decode cX2_decryptBlock 63 = .ok (.bipush 22, 2) := dk_16 22 (dk_at dksX2_decryptBlock_2 17 rfl rfl)
theorem dX2_decryptBlock_65 : decode cX2_decryptBlock 65 = .ok (.iushr, 1) := dk_124 (dk_at dksX2_decryptBlock_2 19 rfl rfl)
theorem dX2_decryptBlock_66 : decode cX2_decryptBlock 66 = .ok (.aload 5, 2) := dk_25 5 (dk_at dksX2_decryptBlock_2 20 rfl rfl)
theorem dX2_decryptBlock_68 : decode cX2_decryptBlock 68 = .ok (.iconst 1, 1) := dk_4 (dk_at dksX2_decryptBlock_2 22 rfl rfl)
theorem dX2_decryptBlock_69 : decode cX2_decryptBlock 69 = .ok (.iaload, 1) := dk_46 (dk_at dksX2_decryptBlock_2 23 rfl rfl)
theorem dX2_decryptBlock_70 : decode cX2_decryptBlock 70 = .ok (.bipush (-22), 2) := dk_16 234 (dk_at dksX2_decryptBlock_3 0 rfl rfl)
theorem dX2_decryptBlock_72 : decode cX2_decryptBlock 72 = .ok (.ishl, 1) := dk_120 (dk_at dksX2_decryptBlock_3 2 rfl rfl)
theorem dX2_decryptBlock_73 : decode cX2_decryptBlock 73 = .ok (.ior, 1) := dk_128 (dk_at dksX2_decryptBlock_3 3 rfl rfl)
theorem dX2_decryptBlock_74 : decode cX2_decryptBlock 74 = .ok (.ixor, 1) := dk_130 (dk_at dksX2_decryptBlock_3 4 rfl rfl)
theorem dX2_decryptBlock_75 : decode cX2_decryptBlock 75 = .ok (.isub, 1) := dk_100 (dk_at dksX2_decryptBlock_3 5 rfl rfl)
theorem dX2_decryptBlock_76 : decode cX2_decryptBlock 76 = .ok (.aload 5, 2) := dk_25 5 (dk_at dksX2_decryptBlock_3 6 rfl rfl)
theorem dX2_decryptBlock_78 : decode cX2_decryptBlock 78 = .ok (.iconst 1, 1) := dk_4 (dk_at dksX2_decryptBlock_3 8 rfl rfl)
theorem dX2_decryptBlock_79 : decode cX2_decryptBlock 79 = .ok (.iaload, 1) := dk_46 (dk_at dksX2_decryptBlock_3 9 rfl rfl)
theorem dX2_decryptBlock_80 : decode cX2_decryptBlock 80 = .ok (.aload 5, 2) := dk_25 5 (dk_at dksX2_decryptBlock_3 10 rfl rfl)
theorem dX2_decryptBlock_82 : decode cX2_decryptBlock 82 = .ok (.iconst 2, 1) := dk_5 (dk_at dksX2_decryptBlock_3 12 rfl rfl)
theorem dX2_decryptBlock_83 : decode cX2_decryptBlock 83 = .ok (.iaload, 1) := dk_46 (dk_at dksX2_decryptBlock_3 13 rfl rfl)
theorem dX2_decryptBlock_84 : decode cX2_decryptBlock 84 = .ok (.iand, 1) := dk_126 (dk_at dksX2_decryptBlock_3 14 rfl rfl)
theorem dX2_decryptBlock_85 : decode cX2_decryptBlock 85 = .ok (.aload 5, 2) := dk_25 5 (dk_at dksX2_decryptBlock_3 15 rfl rfl)
theorem dX2_decryptBlock_87 : decode cX2_decryptBlock 87 = .ok (.iconst 1, 1) := dk_4 (dk_at dksX2_decryptBlock_3 17 rfl rfl)
theorem dX2_decryptBlock_88 : decode cX2_decryptBlock 88 = .ok (.iaload, 1) := dk_46 (dk_at dksX2_decryptBlock_3 18 rfl rfl)
theorem dX2_decryptBlock_89 : decode cX2_decryptBlock 89 = .ok (.aload 5, 2) := dk_25 5 (dk_at dksX2_decryptBlock_3 19 rfl rfl)
theorem dX2_decryptBlock_91 : decode cX2_decryptBlock 91 = .ok (.iconst 3, 1) := dk_6 (dk_at dksX2_decryptBlock_3 21 rfl rfl)
theorem dX2_decryptBlock_92 : decode cX2_decryptBlock 92 = .ok (.iaload, 1) := dk_46 (dk_at dksX2_decryptBlock_3 22 rfl rfl)
theorem dX2_decryptBlock_93 : decode cX2_decryptBlock 93 = .ok (.iand, 1) := dk_126 (dk_at dksX2_decryptBlock_3 23 rfl rfl)
theorem dX2_decryptBlock_94 : decode cX2_decryptBlock 94 = .ok (.ixor, 1) := dk_130 (dk_at dksX2_decryptBlock_4 0 rfl rfl)
theorem dX2_decryptBlock_95 : decode cX2_decryptBlock 95 = .ok (.aload 5, 2) := dk_25 5 (dk_at dksX2_decryptBlock_4 1 rfl rfl)
theorem dX2_decryptBlock_97 : decode cX2_decryptBlock 97 = .ok (.iconst 2, 1) := dk_5 (dk_at dksX2_decryptBlock_4 3 rfl rfl)
theorem dX2_decryptBlock_98 : decode cX2_decryptBlock 98 = .ok (.iaload, 1) := dk_46 (dk_at dksX2_decryptBlock_4 4 rfl rfl)
theorem dX2_decryptBlock_99 : decode cX2_decryptBlock 99 = .ok (.aload 5, 2) := dk_25 5 (dk_at dksX2_decryptBlock_4 5 rfl rfl)
theorem dX2_decryptBlock_101 : decode cX2_decryptBlock 101 = .ok (.iconst 3, 1) := dk_6 (dk_at dksX2_decryptBlock_4 7 rfl rfl)
theorem dX2_decryptBlock_102 : decode cX2_decryptBlock 102 = .ok (.iaload, 1) := dk_46 (dk_at dksX2_decryptBlock_4 8 rfl rfl)
theorem dX2_decryptBlock_103 : decode cX2_decryptBlock 103 = .ok (.iand, 1) := dk_126 (dk_at dksX2_decryptBlock_4 9 rfl rfl)
theorem dX2_decryptBlock_104 : decode cX2_decryptBlock 104 = .ok (.ixor, 1) := dk_130 (dk_at dksX2_decryptBlock_4 10 rfl rfl)
theorem dX2_decryptBlock_105 : decode cX2_decryptBlock 105 = .ok (.isub, 1) := dk_100 (dk_at dksX2_decryptBlock_4 11 rfl rfl)
theorem dX2_decryptBlock_106 : decode cX2_decryptBlock 106 = .ok (.istore 7, 2) := dk_54 7 (dk_at dksX2_decryptBlock_4 12 rfl rfl)
theorem dX2_decryptBlock_108 : decode cX2_decryptBlock 108 = .ok (.aload 5, 2) := dk_25 5 (dk_at dksX2_decryptBlock_4 14 rfl rfl)
theorem dX2_decryptBlock_110 : decode cX2_decryptBlock 110 = .ok (.iconst 0, 1) := dk_3 (dk_at dksX2_decryptBlock_4 16 rfl rfl)
theorem dX2_decryptBlock_111 : decode cX2_decryptBlock 111 = .ok (.aload 5, 2) := dk_25 5 (dk_at dksX2_decryptBlock_4 17 rfl rfl)
theorem dX2_decryptBlock_113 : decode cX2_decryptBlock 113 = .ok (.iconst 1, 1) := dk_4 (dk_at dksX2_decryptBlock_4 19 rfl rfl)
theorem dX2_decryptBlock_114 : decode cX2_decryptBlock 114 = .ok (.iaload, 1) := dk_46 (dk_at dksX2_decryptBlock_4 20 rfl rfl)
theorem dX2_decryptBlock_115 : decode cX2_decryptBlock 115 = .ok (.iastore, 1) := dk_79 (dk_at dksX2_decryptBlock_4 21 rfl rfl)
theorem dX2_decryptBlock_116 : decode cX2_decryptBlock 116 = .ok (.aload 5, 2) := dk_25 5 (dk_at dksX2_decryptBlock_4 22 rfl rfl)
theorem dX2_decryptBlock_118 : decode cX2_decryptBlock 118 = .ok (.iconst 1, 1) := dk_4 (dk_at dksX2_decryptBlock_5 0 rfl rfl)
theorem dX2_decryptBlock_119 : decode cX2_decryptBlock 119 = .ok (.aload 5, 2) := dk_25 5 (dk_at dksX2_decryptBlock_5 1 rfl rfl)
theorem dX2_decryptBlock_121 : decode cX2_decryptBlock 121 = .ok (.iconst 2, 1) := dk_5 (dk_at dksX2_decryptBlock_5 3 rfl rfl)
theorem dX2_decryptBlock_122 : decode cX2_decryptBlock 122 = .ok (.iaload, 1) := dk_46 (dk_at dksX2_decryptBlock_5 4 rfl rfl)
theorem dX2_decryptBlock_123 : decode cX2_decryptBlock 123 = .ok (.iastore, 1) := dk_79 (dk_at dksX2_decryptBlock_5 5 rfl rfl)
theorem dX2_decryptBlock_124 : decode cX2_decryptBlock 124 = .ok (.aload 5, 2) := dk_25 5 (dk_at dksX2_decryptBlock_5 6 rfl rfl)
theorem dX2_decryptBlock_126 : decode cX2_decryptBlock 126 = .ok (.iconst 2, 1) := dk_5 (dk_at dksX2_decryptBlock_5 8 rfl rfl)
theorem dX2_decryptBlock_127 : decode cX2_decryptBlock 127 = .ok (.aload 5, 2) := dk_25 5 (dk_at dksX2_decryptBlock_5 9 rfl rfl)
theorem dX2_decryptBlock_129 : decode cX2_decryptBlock 129 = .ok (.iconst 3, 1) := dk_6 (dk_at dksX2_decryptBlock_5 11 rfl rfl)
theorem dX2_decryptBlock_130 : decode cX2_decryptBlock 130 = .ok (.iaload, 1) := dk_46 (dk_at dksX2_decryptBlock_5 12 rfl rfl)
theorem dX2_decryptBlock_131 : decode cX2_decryptBlock 131 = .ok (.iastore, 1) := dk_79 (dk_at dksX2_decryptBlock_5 13 rfl rfl)
theorem dX2_decryptBlock_132 : decode cX2_decryptBlock 132 = .ok (.aload 5, 2) := dk_25 5 (dk_at dksX2_decryptBlock_5 14 rfl rfl)
theorem dX2_decryptBlock_134 : decode cX2_decryptBlock 134 = .ok (.iconst 3, 1) := dk_6 (dk_at dksX2_decryptBlock_5 16 rfl rfl)
theorem dX2_decryptBlock_135 : decode cX2_decryptBlock 135 = .ok (.aload 5, 2) := dk_25 5 (dk_at dksX2_decryptBlock_5 17 rfl rfl)
theorem dX2_decryptBlock_137 : decode cX2_decryptBlock 137 = .ok (.iconst 4, 1) := dk_7 (dk_at dksX2_decryptBlock_5 19 rfl rfl)
theorem dX2_decryptBlock_138 : decode cX2_decryptBlock 138 = .ok (.iaload, 1) := dk_46 (dk_at dksX2_decryptBlock_5 20 rfl rfl)
theorem dX2_decryptBlock_139 : decode cX2_decryptBlock 139 = .ok (.iload 7, 2) := dk_21 7 (dk_at dksX2_decryptBlock_5 21 rfl rfl)
theorem dX2_decryptBlock_141 : decode cX2_decryptBlock 141 = .ok (.isub, 1) := dk_100 (dk_at dksX2_decryptBlock_5 23 rfl rfl)
theorem dX2_decryptBlock_142 : decode cX2_decryptBlock 142 = .ok (.iastore, 1) := dk_79 (dk_at dksX2_decryptBlock_6 0 rfl rfl)
theorem dX2_decryptBlock_143 : decode cX2_decryptBlock 143 = .ok (.aload 5, 2) := dk_25 5 (dk_at dksX2_decryptBlock_6 1 rfl rfl)
theorem dX2_decryptBlock_145 : decode cX2_decryptBlock 145 = .ok (.iconst 4, 1) := dk_7 (dk_at dksX2_decryptBlock_6 3 rfl rfl)
theorem dX2_decryptBlock_146 : decode cX2_decryptBlock 146 = .ok (.aload 5, 2) := dk_25 5 (dk_at dksX2_decryptBlock_6 4 rfl rfl)
theorem dX2_decryptBlock_148 : decode cX2_decryptBlock 148 = .ok (.iconst 5, 1) := dk_8 (dk_at dksX2_decryptBlock_6 6 rfl rfl)
theorem dX2_decryptBlock_149 : decode cX2_decryptBlock 149 = .ok (.iaload, 1) := dk_46 (dk_at dksX2_decryptBlock_6 7 rfl rfl)
theorem dX2_decryptBlock_150 : decode cX2_decryptBlock 150 = .ok (.iastore, 1) := dk_79 (dk_at dksX2_decryptBlock_6 8 rfl rfl)
theorem dX2_decryptBlock_151 : decode cX2_decryptBlock 151 = .ok (.aload 5, 2) := dk_25 5 (dk_at dksX2_decryptBlock_6 9 rfl rfl)
theorem dX2_decryptBlock_153 : decode cX2_decryptBlock 153 = .ok (.iconst 5, 1) := dk_8 (dk_at dksX2_decryptBlock_6 11 rfl rfl)
theorem dX2_decryptBlock_154 : decode cX2_decryptBlock 154 = .ok (.aload 5, 2) := dk_25 5 (dk_at dksX2_decryptBlock_6 12 rfl rfl)
theorem dX2_decryptBlock_156 : decode cX2_decryptBlock 156 = .ok (.bipush 6, 2) := dk_16 6 (dk_at dksX2_decryptBlock_6 14 rfl rfl)
theorem dX2_decryptBlock_158 : decode cX2_decryptBlock 158 = .ok (.iaload, 1) := dk_46 (dk_at dksX2_decryptBlock_6 16 rfl rfl)
theorem dX2_decryptBlock_159 : decode cX2_decryptBlock 159 = .ok (.iastore, 1) := dk_79 (dk_at dksX2_decryptBlock_6 17 rfl rfl)
theorem dX2_decryptBlock_160 : decode cX2_decryptBlock 160 = .ok (.aload 5, 2) := dk_25 5 (dk_at dksX2_decryptBlock_6 18 rfl rfl)
theorem dX2_decryptBlock_162 : decode cX2_decryptBlock 162 = .ok (.bipush 6, 2) := dk_16 6 (dk_at dksX2_decryptBlock_6 20 rfl rfl)
theorem dX2_decryptBlock_164 : decode cX2_decryptBlock 164 = .ok (.aload 5, 2) := dk_25 5 (dk_at dksX2_decryptBlock_6 22 rfl rfl)
theorem dX2_decryptBlock_166 : decode cX2_decryptBlock 166 = .ok (.bipush 7, 2) := dk_16 7 (dk_at dksX2_decryptBlock_7 0 rfl rfl)
theorem dX2_decryptBlock_168 : decode cX2_decryptBlock 168 = .ok (.iaload, 1) := dk_46 (dk_at dksX2_decryptBlock_7 2 rfl rfl)
theorem dX2_decryptBlock_169 : decode cX2_decryptBlock 169 = .ok (.iastore, 1) := dk_79 (dk_at dksX2_decryptBlock_7 3 rfl rfl)
theorem dX2_decryptBlock_170 : decode cX2_decryptBlock 170 = .ok (.aload 5, 2) := dk_25 5 (dk_at dksX2_decryptBlock_7 4 rfl rfl)
theorem dX2_decryptBlock_172 : decode cX2_decryptBlock 172 = .ok (.bipush 7, 2) := dk_16 7 (dk_at dksX2_decryptBlock_7 6 rfl rfl)
theorem dX2_decryptBlock_174 : decode cX2_decryptBlock 174 = .ok (.iload 7, 2) := dk_21 7 (dk_at dksX2_decryptBlock_7 8 rfl rfl)
theorem dX2_decryptBlock_176 : decode cX2_decryptBlock 176 = .ok (.getstatic 43, 3) := dk_178 0 43 (dk_at dksX2_decryptBlock_7 10 rfl rfl)
theorem dX2_decryptBlock_179 : decode cX2_decryptBlock 179 = .ok (.iload 6, 2) := dk_21 6 (dk_at dksX2_decryptBlock_7 13 rfl rfl)
theorem dX2_decryptBlock_181 : decode cX2_decryptBlock 181 = .ok (.iaload, 1) := dk_46 (dk_at dksX2_decryptBlock_7 15 rfl rfl)
theorem dX2_decryptBlock_182 : decode cX2_decryptBlock 182 = .ok (.isub, 1) := dk_100 (dk_at dksX2_decryptBlock_7 16 rfl rfl)
theorem dX2_decryptBlock_183 : decode cX2_decryptBlock 183 = .ok (.aload_n 0, 1) := dk_42 (dk_at dksX2_decryptBlock_7 17 rfl rfl)
theorem dX2_decryptBlock_184 : decode cX2_decryptBlock 184 = .ok (.getfield 13, 3) := dk_180 0 13 (dk_at dksX2_decryptBlock_7 18 rfl rfl)
theorem dX2_decryptBlock_187 : decode cX2_decryptBlock 187 = .ok (.iload 6, 2) := dk_21 6 (dk_at dksX2_decryptBlock_7 21 rfl rfl)
theorem dX2_decryptBlock_189 : decode cX2_decryptBlock 189 = .ok (.iaload, 1) := dk_46 (dk_at dksX2_decryptBlock_7 23 rfl rfl)
theorem dX2_decryptBlock_190 : decode cX2_decryptBlock 190 = .ok (.isub, 1) := dk_100 (dk_at dksX2_decryptBlock_8 0 rfl rfl)
theorem dX2_decryptBlock_191 : decode cX2_decryptBlock 191 = .ok (.aload 5, 2) := dk_25 5 (dk_at dksX2_decryptBlock_8 1 rfl rfl)
theorem dX2_decryptBlock_193 : decode cX2_decryptBlock 193 = .ok (.iconst 4, 1) := dk_7 (dk_at dksX2_decryptBlock_8 3 rfl rfl)
theorem dX2_decryptBlock_194 : decode cX2_decryptBlock 194 = .ok (.iaload, 1) := dk_46 (dk_at dksX2_decryptBlock_8 4 rfl rfl)
theorem dX2_decryptBlock_195 : decode cX2_decryptBlock 195 = .ok (.bipush 6, 2) := dk_16 6 (dk_at dksX2_decryptBlock_8 5 rfl rfl)
theorem dX2_decryptBlock_197 : decode cX2_decryptBlock 197 = .ok (.iushr, 1) := dk_124 (dk_at dksX2_decryptBlock_8 7 rfl rfl)
theorem dX2_decryptBlock_198 : decode cX2_decryptBlock 198 = .ok (.aload 5, 2) := dk_25 5 (dk_at dksX2_decryptBlock_8 8 rfl rfl)
theorem dX2_decryptBlock_200 : decode cX2_decryptBlock 200 = .ok (.iconst 4, 1) := dk_7 (dk_at dksX2_decryptBlock_8 10 rfl rfl)
theorem dX2_decryptBlock_201 : decode cX2_decryptBlock 201 = .ok (.iaload, 1) := dk_46 (dk_at dksX2_decryptBlock_8 11 rfl rfl)
theorem dX2_decryptBlock_202 : decode cX2_decryptBlock 202 = .ok (.bipush (-6), 2) := dk_16 250 (dk_at dksX2_decryptBlock_8 12 rfl rfl)
theorem dX2_decryptBlock_204 : decode cX2_decryptBlock 204 = .ok (.ishl, 1) := dk_120 (dk_at dksX2_decryptBlock_8 14 rfl rfl)
theorem dX2_decryptBlock_205 : decode cX2_decryptBlock 205 = .ok (.ior, 1) := dk_128 (dk_at dksX2_decryptBlock_8 15 rfl rfl)
theorem dX2_decryptBlock_206 : decode cX2_decryptBlock 206 = .ok (.aload 5, 2) := dk_25 5 (dk_at dksX2_decryptBlock_8 16 rfl rfl)
theorem dX2_decryptBlock_208 : decode cX2_decryptBlock 208 = .ok (.iconst 4, 1) := dk_7 (dk_at dksX2_decryptBlock_8 18 rfl rfl)
theorem dX2_decryptBlock_209 : decode cX2_decryptBlock 209 = .ok (.iaload, 1) := dk_46 (dk_at dksX2_decryptBlock_8 19 rfl rfl)
theorem dX2_decryptBlock_210 : decode cX2_decryptBlock 210 = .ok (.bipush 11, 2) := dk_16 11 (dk_at dksX2_decryptBlock_8 20 rfl rfl)
theorem dX2_decryptBlock_212 : decode cX2_decryptBlock 212 = .ok (.iushr, 1) := dk_124 (dk_at dksX2_decryptBlock_8 22 rfl rfl)
theorem dX2_decryptBlock_213 : decode cX2_decryptBlock 213 = .ok (.aload 5, 2) := dk_25 5 (dk_at dksX2_decryptBlock_9 0 rfl rfl)
theorem dX2_decryptBlock_215 : decode cX2_decryptBlock 215 = .ok (.iconst 4, 1) := dk_7 (dk_at dksX2_decryptBlock_9 2 rfl rfl)
theorem dX2_decryptBlock_216 : decode cX2_decryptBlock 216 = .ok (.iaload, 1) := dk_46 (dk_at dksX2_decryptBlock_9 3 rfl rfl)
theorem dX2_decryptBlock_217 : decode cX2_decryptBlock 217 = .ok (.bipush (-11), 2) := dk_16 245 (dk_at dksX2_decryptBlock_9 4 rfl rfl)
theorem dX2_decryptBlock_219 : decode cX2_decryptBlock 219 = .ok (.ishl, 1) := dk_120 (dk_at dksX2_decryptBlock_9 6 rfl rfl)
theorem dX2_decryptBlock_220 : decode cX2_decryptBlock 220 = .ok (.ior, 1) := dk_128 (dk_at dksX2_decryptBlock_9 7 rfl rfl)
theorem dX2_decryptBlock_221 : decode cX2_decryptBlock 221 = .ok (.ixor, 1) := dk_130 (dk_at dksX2_decryptBlock_9 8 rfl rfl)
theorem dX2_decryptBlock_222 : decode cX2_decryptBlock 222 = .ok (.aload 5, 2) := dk_25 5 (dk_at dksX2_decryptBlock_9 9 rfl rfl)
theorem dX2_decryptBlock_224 : decode cX2_decryptBlock 224 = .ok (.iconst 4, 1) := dk_7 (dk_at dksX2_decryptBlock_9 11 rfl rfl)
theorem dX2_decryptBlock_225 : decode cX2_decryptBlock 225 = .ok (.iaload, 1) := dk_46 (dk_at dksX2_decryptBlock_9 12 rfl rfl)
theorem dX2_decryptBlock_226 : decode cX2_decryptBlock 226 = .ok (.bipush 25, 2) := dk_16 25 (dk_at dksX2_decryptBlock_9 13 rfl rfl)
theorem dX2_decryptBlock_228 : decode cX2_decryptBlock 228 = .ok (.iushr, 1) := dk_124 (dk_at dksX2_decryptBlock_9 15 rfl rfl)
theorem dX2_decryptBlock_229 : decode cX2_decryptBlock 229 = .ok (.aload 5, 2) := dk_25 5 (dk_at dksX2_decryptBlock_9 16 rfl rfl)
theorem dX2_decryptBlock_231 : decode cX2_decryptBlock 231 = .ok (.iconst 4, 1) := dk_7 (dk_at dksX2_decryptBlock_9 18 rfl rfl)
theorem dX2_decryptBlock_232 : decode cX2_decryptBlock 232 = .ok (.iaload, 1) := dk_46 (dk_at dksX2_decryptBlock_9 19 rfl rfl)
theorem dX2_decryptBlock_233 : decode cX2_decryptBlock 233 = .ok (.bipush (-25), 2) := dk_16 231 (dk_at dksX2_decryptBlock_9 20 rfl rfl)
theorem dX2_decryptBlock_235 : decode cX2_decryptBlock 235 = .ok (.ishl, 1) := dk_120 (dk_at dksX2_decryptBlock_9 22 rfl rfl)
theorem dX2_decryptBlock_236 : decode cX2_decryptBlock 236 = .ok (.ior, 1) := dk_128 (dk_at dksX2_decryptBlock_9 23 rfl rfl)
theorem dX2_decryptBlock_237 : decode cX2_decryptBlock 237 = .ok (.ixor, 1) := dk_130 (dk_at dksX2_decryptBlock_10 0 rfl rfl)
theorem dX2_decryptBlock_238 : decode cX2_decryptBlock 238 = .ok (.isub, 1) := dk_100 (dk_at dksX2_decryptBlock_10 1 rfl rfl)
theorem dX2_decryptBlock_239 : decode cX2_decryptBlock 239 = .ok (.aload 5, 2) := dk_25 5 (dk_at dksX2_decryptBlock_10 2 rfl rfl)
theorem dX2_decryptBlock_241 : decode cX2_decryptBlock 241 = .ok (.iconst 4, 1) := dk_7 (dk_at dksX2_decryptBlock_10 4 rfl rfl)
theorem dX2_decryptBlock_242 : decode cX2_decryptBlock 242 = .ok (.iaload, 1) := dk_46 (dk_at dksX2_decryptBlock_10 5 rfl rfl)
theorem dX2_decryptBlock_243 : decode cX2_decryptBlock 243 = .ok (.aload 5, 2) := dk_25 5 (dk_at dksX2_decryptBlock_10 6 rfl rfl)
theorem dX2_decryptBlock_245 : decode cX2_decryptBlock 245 = .ok (.iconst 5, 1) := dk_8 (dk_at dksX2_decryptBlock_10 8 rfl rfl)
theorem dX2_decryptBlock_246 : decode cX2_decryptBlock 246 = .ok (.iaload, 1) := dk_46 (dk_at dksX2_decryptBlock_10 9 rfl rfl)
theorem dX2_decryptBlock_247 : decode cX2_decryptBlock 247 = .ok (.iand, 1) := dk_126 (dk_at dksX2_decryptBlock_10 10 rfl rfl)
theorem dX2_decryptBlock_248 : decode cX2_decryptBlock 248 = .ok (.aload 5, 2) := dk_25 5 (dk_at dksX2_decryptBlock_10 11 rfl rfl)
theorem dX2_decryptBlock_250 : decode cX2_decryptBlock 250 = .ok (.iconst 4, 1) := dk_7 (dk_at dksX2_decryptBlock_10 13 rfl rfl)
theorem dX2_decryptBlock_251 : decode cX2_decryptBlock 251 = .ok (.iaload, 1) := dk_46 (dk_at dksX2_decryptBlock_10 14 rfl rfl)
theorem dX2_decryptBlock_252 : decode cX2_decryptBlock 252 = .ok (.iconst (-1), 1) := dk_2 (dk_at dksX2_decryptBlock_10 15 rfl rfl)
theorem dX2_decryptBlock_253 : decode cX2_decryptBlock 253 = .ok (.ixor, 1) := dk_130 (dk_at dksX2_decryptBlock_10 16 rfl rfl)
theorem dX2_decryptBlock_254 : decode cX2_decryptBlock 254 = .ok (.aload 5, 2) := dk_25 5 (dk_at dksX2_decryptBlock_10 17 rfl rfl)
theorem dX2_decryptBlock_256 : decode cX2_decryptBlock 256 = .ok (.bipush 6, 2) := dk_16 6 (dk_at dksX2_decryptBlock_10 19 rfl rfl)
theorem dX2_decryptBlock_258 : decode cX2_decryptBlock 258 = .ok (.iaload, 1) := dk_46 (dk_at dksX2_decryptBlock_10 21 rfl rfl)
theorem dX2_decryptBlock_259 : decode cX2_decryptBlock 259 = .ok (.iand, 1) := dk_126 (dk_at dksX2_decryptBlock_10 22 rfl rfl)
theorem dX2_decryptBlock_260 : decode cX2_decryptBlock 260 = .ok (.ixor, 1) := dk_130 (dk_at dksX2_decryptBlock_10 23 rfl rfl)
theorem dX2_decryptBlock_261 : decode cX2_decryptBlock 261 = .ok (.isub, 1) := dk_100 (dk_at dksX2_decryptBlock_11 0 rfl rfl)
theorem dX2_decryptBlock_262 : decode cX2_decryptBlock 262 = .ok (.iastore, 1) := dk_79 (dk_at dksX2_decryptBlock_11 1 rfl rfl)
theorem dX2_decryptBlock_263 : decode cX2_decryptBlock 263 = .ok (.iinc 6 (-1), 3) := dk_132 6 255 (dk_at dksX2_decryptBlock_11 2 rfl rfl)
theorem dX2_decryptBlock_266 : decode cX2_decryptBlock 266 = .ok (.goto (-247), 3) := dk_167 255 9 (dk_at dksX2_decryptBlock_11 5 rfl rfl)
theorem dX2_decryptBlock_269 : decode cX2_decryptBlock 269 = .ok (.aload_n 0, 1) := dk_42 (dk_at dksX2_decryptBlock_11 8 rfl rfl)
theorem dX2_decryptBlock_270 : decode cX2_decryptBlock 270 = .ok (.aload 5, 2) := dk_25 5 (dk_at dksX2_decryptBlock_11 9 rfl rfl)
theorem dX2_decryptBlock_272 : decode cX2_decryptBlock 272 = .ok (.aload_n 3, 1) := dk_45 (dk_at dksX2_decryptBlock_11 11 rfl rfl)
theorem dX2_decryptBlock_273 : decode cX2_decryptBlock 273 = .ok (.iload 4, 2) := dk_21 4 (dk_at dksX2_decryptBlock_11 12 rfl rfl)
theorem dX2_decryptBlock_275 : decode cX2_decryptBlock 275 = .ok (.invokevirtual 46, 3) := dk_182 0 46 (dk_at dksX2_decryptBlock_11 14 rfl rfl)
theorem dX2_decryptBlock_278 : decode cX2_decryptBlock 278 = .ok (.return_, 1) := dk_177 (dk_at dksX2_decryptBlock_11 17 rfl rfl)
theorem q9 : (Jvm.Cond.initialized "Shacal2Engine") ∈ lw_all := lw_g (lw_at lw_m1 2 rfl) rfl
theorem q48 : (Jvm.Cond.instantiable "Shacal2Engine" (2 : Nat)) ∈ lw_all := lw_g (lw_at lw_m1 41 rfl) rfl
theorem q50 : (Jvm.Cond.instanceMethod ({ cls := "Shacal2Engine", name := "<init>", desc := "()V" } : Jvm.MethodName)) ∈ lw_all := lw_g (lw_at lw_m1 43 rfl) rfl
theorem q51 : (Jvm.Cond.code ({ cls := "Shacal2Engine", name := "<init>", desc := "()V" } : Jvm.MethodName) prog_7_method_1_code (1 : Nat) (Option.none : Option Jvm.ClassFile.FieldType)) ∈ lw_all := lw_g (lw_at lw_m1 44 rfl) rfl
theorem q52 : (Jvm.Cond.methodLink "Shacal2Engine" (1 : Nat) ({ cls := "java/lang/Object", name := "<init>", desc := "()V" } : Jvm.MethodName)) ∈ lw_all := lw_g (lw_at lw_m1 45 rfl) rfl
theorem q53 : (Jvm.Cond.fieldLink "Shacal2Engine" (7 : Nat) "Shacal2Engine" "forEncryption" "Z") ∈ lw_all := lw_g (lw_at lw_m1 46 rfl) rfl
theorem q54 : (Jvm.Cond.fieldLink "Shacal2Engine" (13 : Nat) "Shacal2Engine" "workingKey" "[I") ∈ lw_all := lw_g (lw_at lw_m1 47 rfl) rfl
theorem q55 : (Jvm.Cond.lays "Shacal2Engine" "Shacal2Engine" "forEncryption" "Z") ∈ lw_all := lw_g (lw_at lw_m1 48 rfl) rfl
theorem q56 : (Jvm.Cond.soleField "Shacal2Engine" "forEncryption") ∈ lw_all := lw_g (lw_at lw_m1 49 rfl) rfl
theorem q57 : (Jvm.Cond.lays "Shacal2Engine" "Shacal2Engine" "workingKey" "[I") ∈ lw_all := lw_g (lw_at lw_m1 50 rfl) rfl
theorem q58 : (Jvm.Cond.soleField "Shacal2Engine" "workingKey") ∈ lw_all := lw_g (lw_at lw_m1 51 rfl) rfl
theorem q59 : (Jvm.Cond.superclass "Shacal2Engine" "java/lang/Object") ∈ lw_all := lw_g (lw_at lw_m1 52 rfl) rfl
theorem q83 : (Jvm.Cond.castable "Shacal2Engine" "BlockCipher") ∈ lw_tbl := lw_at lw_m1 76 rfl
theorem q84 : (Jvm.Cond.selects "Shacal2Engine" ({ cls := "BlockCipher", name := "init", desc := "(ZLCipherParameters;)V" } : Jvm.MethodName) ({ cls := "Shacal2Engine", name := "init", desc := "(ZLCipherParameters;)V" } : Jvm.MethodName)) ∈ lw_all := lw_g (lw_at lw_m1 77 rfl) rfl
theorem q85 : (Jvm.Cond.unhidden "Shacal2Engine" "init" "(ZLCipherParameters;)V") ∈ lw_tbl := lw_at lw_m1 78 rfl
theorem q86 : (Jvm.Cond.instanceMethod ({ cls := "Shacal2Engine", name := "init", desc := "(ZLCipherParameters;)V" } : Jvm.MethodName)) ∈ lw_all := lw_g (lw_at lw_m1 79 rfl) rfl
theorem q87 : (Jvm.Cond.publicMethod ({ cls := "Shacal2Engine", name := "init", desc := "(ZLCipherParameters;)V" } : Jvm.MethodName)) ∈ lw_tbl := lw_at lw_m1 80 rfl
theorem q88 : (Jvm.Cond.code ({ cls := "Shacal2Engine", name := "init", desc := "(ZLCipherParameters;)V" } : Jvm.MethodName) prog_7_method_2_code (5 : Nat) (Option.none : Option Jvm.ClassFile.FieldType)) ∈ lw_all := lw_g (lw_at lw_m1 81 rfl) rfl
theorem q89 : (Jvm.Cond.classLink "Shacal2Engine" (17 : Nat) "KeyParameter") ∈ lw_all := lw_g (lw_at lw_m1 82 rfl) rfl
theorem q90 : (Jvm.Cond.classLink "Shacal2Engine" (19 : Nat) "java/lang/IllegalArgumentException") ∈ lw_all := lw_g (lw_at lw_m1 83 rfl) rfl
theorem q132 : (Jvm.Cond.stringRef "Shacal2Engine" (21 : Nat) "only simple KeyParameter expected.") ∈ lw_tbl := lw_at lw_m1 125 rfl
theorem q133 : (Jvm.Cond.methodLink "Shacal2Engine" (23 : Nat) ({ cls := "java/lang/IllegalArgumentException", name := "<init>", desc := "(Ljava/lang/String;)V" } : Jvm.MethodName)) ∈ lw_all := lw_g (lw_at lw_m1 126 rfl) rfl
theorem q158 : (Jvm.Cond.methodLink "Shacal2Engine" (26 : Nat) ({ cls := "KeyParameter", name := "getKey", desc := "()[B" } : Jvm.MethodName)) ∈ lw_all := lw_g (lw_at lw_m1 151 rfl) rfl
theorem q162 : (Jvm.Cond.methodLink "Shacal2Engine" (30 : Nat) ({ cls := "Shacal2Engine", name := "setKey", desc := "([B)V" } : Jvm.MethodName)) ∈ lw_all := lw_g (lw_at lw_m1 155 rfl) rfl
theorem q163 : (Jvm.Cond.instanceMethod ({ cls := "Shacal2Engine", name := "setKey", desc := "([B)V" } : Jvm.MethodName)) ∈ lw_all := lw_g (lw_at lw_m1 156 rfl) rfl
theorem q164 : (Jvm.Cond.selects "Shacal2Engine" ({ cls := "Shacal2Engine", name := "setKey", desc := "([B)V" } : Jvm.MethodName) ({ cls := "Shacal2Engine", name := "setKey", desc := "([B)V" } : Jvm.MethodName)) ∈ lw_all := lw_g (lw_at lw_m1 157 rfl) rfl
theorem q165 : (Jvm.Cond.code ({ cls := "Shacal2Engine", name := "setKey", desc := "([B)V" } : Jvm.MethodName) prog_7_method_3_code (3 : Nat) (Option.none : Option Jvm.ClassFile.FieldType)) ∈ lw_all := lw_g (lw_at lw_m1 158 rfl) rfl
theorem q166 : (Jvm.Cond.stringRef "Shacal2Engine" (34 : Nat) "Shacal2-key must be 16 - 64 bytes and multiple of 8") ∈ lw_tbl := lw_at lw_m1 159 rfl
theorem q167 : (Jvm.Cond.methodLink "Shacal2Engine" (36 : Nat) ({ cls := "Shacal2Engine", name := "bytes2ints", desc := "([B[III)V" } : Jvm.MethodName)) ∈ lw_all := lw_g (lw_at lw_m1 160 rfl) rfl
theorem q168 : (Jvm.Cond.privateMethod ({ cls := "Shacal2Engine", name := "bytes2ints", desc := "([B[III)V" } : Jvm.MethodName)) ∈ lw_tbl := lw_at lw_m1 161 rfl
theorem q169 : (Jvm.Cond.instanceMethod ({ cls := "Shacal2Engine", name := "bytes2ints", desc := "([B[III)V" } : Jvm.MethodName)) ∈ lw_all := lw_g (lw_at lw_m1 162 rfl) rfl
theorem q170 : (Jvm.Cond.code ({ cls := "Shacal2Engine", name := "bytes2ints", desc := "([B[III)V" } : Jvm.MethodName) prog_7_method_8_code (6 : Nat) (Option.none : Option Jvm.ClassFile.FieldType)) ∈ lw_all := lw_g (lw_at lw_m1 163 rfl) rfl
theorem q175 : (Jvm.Cond.selects "Shacal2Engine" ({ cls := "BlockCipher", name := "processBlock", desc := "([BI[BI)I" } : Jvm.MethodName) ({ cls := "Shacal2Engine", name := "processBlock", desc := "([BI[BI)I" } : Jvm.MethodName)) ∈ lw_all := lw_g (lw_at lw_m1 168 rfl) rfl
theorem q176 : (Jvm.Cond.unhidden "Shacal2Engine" "processBlock" "([BI[BI)I") ∈ lw_tbl := lw_at lw_m1 169 rfl
theorem q177 : (Jvm.Cond.instanceMethod ({ cls := "Shacal2Engine", name := "processBlock", desc := "([BI[BI)I" } : Jvm.MethodName)) ∈ lw_all := lw_g (lw_at lw_m1 170 rfl) rfl
theorem q178 : (Jvm.Cond.publicMethod ({ cls := "Shacal2Engine", name := "processBlock", desc := "([BI[BI)I" } : Jvm.MethodName)) ∈ lw_tbl := lw_at lw_m1 171 rfl
theorem q179 : (Jvm.Cond.code ({ cls := "Shacal2Engine", name := "processBlock", desc := "([BI[BI)I" } : Jvm.MethodName) prog_7_method_6_code (5 : Nat) (Option.some Jvm.ClassFile.FieldType.int)) ∈ lw_all := lw_g (lw_at lw_m1 172 rfl) rfl
theorem q180 : (Jvm.Cond.classLink "Shacal2Engine" (50 : Nat) "java/lang/IllegalStateException") ∈ lw_all := lw_g (lw_at lw_m1 173 rfl) rfl
theorem q189 : (Jvm.Cond.stringRef "Shacal2Engine" (52 : Nat) "Shacal2 not initialised") ∈ lw_tbl := lw_at lw_m1 182 rfl
theorem q190 : (Jvm.Cond.methodLink "Shacal2Engine" (54 : Nat) ({ cls := "java/lang/IllegalStateException", name := "<init>", desc := "(Ljava/lang/String;)V" } : Jvm.MethodName)) ∈ lw_all := lw_g (lw_at lw_m1 183 rfl) rfl
theorem q197 : (Jvm.Cond.classLink "Shacal2Engine" (55 : Nat) "DataLengthException") ∈ lw_all := lw_g (lw_at lw_m1 190 rfl) rfl
theorem q207 : (Jvm.Cond.stringRef "Shacal2Engine" (57 : Nat) "input buffer too short") ∈ lw_tbl := lw_at lw_m1 200 rfl
theorem q208 : (Jvm.Cond.methodLink "Shacal2Engine" (59 : Nat) ({ cls := "DataLengthException", name := "<init>", desc := "(Ljava/lang/String;)V" } : Jvm.MethodName)) ∈ lw_all := lw_g (lw_at lw_m1 201 rfl) rfl
theorem q217 : (Jvm.Cond.classLink "Shacal2Engine" (60 : Nat) "OutputLengthException") ∈ lw_all := lw_g (lw_at lw_m1 210 rfl) rfl
theorem q227 : (Jvm.Cond.stringRef "Shacal2Engine" (62 : Nat) "output buffer too short") ∈ lw_tbl := lw_at lw_m1 220 rfl
theorem q228 : (Jvm.Cond.methodLink "Shacal2Engine" (64 : Nat) ({ cls := "OutputLengthException", name := "<init>", desc := "(Ljava/lang/String;)V" } : Jvm.MethodName)) ∈ lw_all := lw_g (lw_at lw_m1 221 rfl) rfl
theorem q234 : (Jvm.Cond.methodLink "Shacal2Engine" (65 : Nat) ({ cls := "Shacal2Engine", name := "encryptBlock", desc := "([BI[BI)V" } : Jvm.MethodName)) ∈ lw_all := lw_g (lw_at lw_m1 227 rfl) rfl
theorem q235 : (Jvm.Cond.privateMethod ({ cls := "Shacal2Engine", name := "encryptBlock", desc := "([BI[BI)V" } : Jvm.MethodName)) ∈ lw_tbl := lw_at lw_m1 228 rfl
theorem q236 : (Jvm.Cond.instanceMethod ({ cls := "Shacal2Engine", name := "encryptBlock", desc := "([BI[BI)V" } : Jvm.MethodName)) ∈ lw_all := lw_g (lw_at lw_m1 229 rfl) rfl
theorem q237 : (Jvm.Cond.code ({ cls := "Shacal2Engine", name := "encryptBlock", desc := "([BI[BI)V" } : Jvm.MethodName) prog_7_method_4_code (8 : Nat) (Option.none : Option Jvm.ClassFile.FieldType)) ∈ lw_all := lw_g (lw_at lw_m1 230 rfl) rfl
theorem q238 : (Jvm.Cond.methodLink "Shacal2Engine" (40 : Nat) ({ cls := "Shacal2Engine", name := "byteBlockToInts", desc := "([B[III)V" } : Jvm.MethodName)) ∈ lw_all := lw_g (lw_at lw_m1 231 rfl) rfl
theorem q239 : (Jvm.Cond.privateMethod ({ cls := "Shacal2Engine", name := "byteBlockToInts", desc := "([B[III)V" } : Jvm.MethodName)) ∈ lw_tbl := lw_at lw_m1 232 rfl
theorem q240 : (Jvm.Cond.instanceMethod ({ cls := "Shacal2Engine", name := "byteBlockToInts", desc := "([B[III)V" } : Jvm.MethodName)) ∈ lw_all := lw_g (lw_at lw_m1 233 rfl) rfl
theorem q241 : (Jvm.Cond.code ({ cls := "Shacal2Engine", name := "byteBlockToInts", desc := "([B[III)V" } : Jvm.MethodName) prog_7_method_7_code (6 : Nat) (Option.none : Option Jvm.ClassFile.FieldType)) ∈ lw_all := lw_g (lw_at lw_m1 234 rfl) rfl
theorem q242 : (Jvm.Cond.fieldLink "Shacal2Engine" (43 : Nat) "Shacal2Engine" "K" "[I") ∈ lw_all := lw_g (lw_at lw_m1 235 rfl) rfl
theorem q243 : (Jvm.Cond.laysStatic "Shacal2Engine" "K" "[I") ∈ lw_tbl := lw_at lw_m1 236 rfl
theorem q244 : (Jvm.Cond.methodLink "Shacal2Engine" (46 : Nat) ({ cls := "Shacal2Engine", name := "ints2bytes", desc := "([I[BI)V" } : Jvm.MethodName)) ∈ lw_all := lw_g (lw_at lw_m1 237 rfl) rfl
theorem q245 : (Jvm.Cond.privateMethod ({ cls := "Shacal2Engine", name := "ints2bytes", desc := "([I[BI)V" } : Jvm.MethodName)) ∈ lw_tbl := lw_at lw_m1 238 rfl
theorem q246 : (Jvm.Cond.instanceMethod ({ cls := "Shacal2Engine", name := "ints2bytes", desc := "([I[BI)V" } : Jvm.MethodName)) ∈ lw_all := lw_g (lw_at lw_m1 239 rfl) rfl
theorem q247 : (Jvm.Cond.code ({ cls := "Shacal2Engine", name := "ints2bytes", desc := "([I[BI)V" } : Jvm.MethodName) prog_7_method_9_code (5 : Nat) (Option.none : Option Jvm.ClassFile.FieldType)) ∈ lw_all := lw_g (lw_at lw_m2 0 rfl) rfl
theorem q248 : (Jvm.Cond.methodLink "Shacal2Engine" (69 : Nat) ({ cls := "Shacal2Engine", name := "decryptBlock", desc := "([BI[BI)V" } : Jvm.MethodName)) ∈ lw_all := lw_g (lw_at lw_m2 1 rfl) rfl
theorem q249 : (Jvm.Cond.privateMethod ({ cls := "Shacal2Engine", name := "decryptBlock", desc := "([BI[BI)V" } : Jvm.MethodName)) ∈ lw_tbl := lw_at lw_m2 2 rfl
theorem q250 : (Jvm.Cond.instanceMethod ({ cls := "Shacal2Engine", name := "decryptBlock", desc := "([BI[BI)V" } : Jvm.MethodName)) ∈ lw_all := lw_g (lw_at lw_m2 3 rfl) rfl
theorem q251 : (Jvm.Cond.code ({ cls := "Shacal2Engine", name := "decryptBlock", desc := "([BI[BI)V" } : Jvm.MethodName) prog_7_method_5_code (8 : Nat) (Option.none : Option Jvm.ClassFile.FieldType)) ∈ lw_all := lw_g (lw_at lw_m2 4 rfl) rfl
theorem in_X2 : ∀ w ∈ wsX20, w ∈ lw_all := lw_in wsX20 [55, 57] (by decide +kernel) (by decide +kernel)
end
section
/-! ShacalDeskLaw -/
set_option maxRecDepth 100000
def RX0 : String := "ShacalDeskLaw"
abbrev cX0_cell : ByteArray := method_2_code
def yX0_cell : MethodName := ⟨RX0, "cell", "([II)I"⟩
def dkwX0_cell_0 : List UInt8 := [27, 42, 190, 162, 0, 9, 42, 27, 46, 167, 0, 4, 3, 172]
abbrev dktX0_cell_0 : List UInt8 := dkwX0_cell_0 ++ []
theorem dksX0_cell_0 : cX0_cell.data.toList.drop 0 = dktX0_cell_0 := by decide +kernel
theorem dX0_cell_0 : decode cX0_cell 0 = .ok (.iload_n 1, 1) := dk_27 (dk_at dksX0_cell_0 0 rfl rfl)
theorem dX0_cell_1 : decode cX0_cell 1 = .ok (.aload_n 0, 1) := dk_42 (dk_at dksX0_cell_0 1 rfl rfl)
theorem dX0_cell_2 : decode cX0_cell 2 = .ok (.arraylength, 1) := dk_190 (dk_at dksX0_cell_0 2 rfl rfl)
theorem dX0_cell_3 : decode cX0_cell 3 = .ok (.if_icmp .ge 9, 3) := dk_162 0 9 (dk_at dksX0_cell_0 3 rfl rfl)
theorem dX0_cell_6 : decode cX0_cell 6 = .ok (.aload_n 0, 1) := dk_42 (dk_at dksX0_cell_0 6 rfl rfl)
theorem dX0_cell_7 : decode cX0_cell 7 = .ok (.iload_n 1, 1) := dk_27 (dk_at dksX0_cell_0 7 rfl rfl)
theorem dX0_cell_8 : decode cX0_cell 8 = .ok (.iaload, 1) := dk_46 (dk_at dksX0_cell_0 8 rfl rfl)
theorem dX0_cell_9 : decode cX0_cell 9 = .ok (.goto 4, 3) := dk_167 0 4 (dk_at dksX0_cell_0 9 rfl rfl)
theorem dX0_cell_12 : decode cX0_cell 12 = .ok (.iconst 0, 1) := dk_3 (dk_at dksX0_cell_0 12 rfl rfl)
theorem dX0_cell_13 : decode cX0_cell 13 = .ok (.ireturn, 1) := dk_172 (dk_at dksX0_cell_0 13 rfl rfl)
abbrev cX0_locked : ByteArray := method_4_code
def yX0_locked : MethodName := ⟨RX0, "locked", "([I[I)[I"⟩
def dkwX0_locked_13 : List UInt8 := [46, 21, 7, 96, 79, 45, 3, 21, 7, 21, 8, 96, 79, 132, 4, 1, 167, 255, 90, 45, 176]
abbrev dktX0_locked_13 : List UInt8 := dkwX0_locked_13 ++ []
def dkwX0_locked_12 : List UInt8 := [21, 9, 158, 0, 19, 45, 21, 9, 45, 21, 9, 4, 100, 46, 79, 132, 9, 255, 167, 255, 238, 45, 7, 92]
abbrev dktX0_locked_12 : List UInt8 := dkwX0_locked_12 ++ dktX0_locked_13
def dkwX0_locked_11 : List UInt8 := [126, 21, 6, 45, 5, 46, 126, 130, 45, 4, 46, 45, 5, 46, 126, 130, 96, 54, 8, 16, 7, 54, 9]
abbrev dktX0_locked_11 : List UInt8 := dkwX0_locked_11 ++ dktX0_locked_12
def dkwX0_locked_10 : List UInt8 := [184, 0, 7, 21, 6, 16, 13, 184, 0, 7, 130, 21, 6, 16, 22, 184, 0, 7, 130, 21, 6, 45, 4, 46]
abbrev dktX0_locked_10 : List UInt8 := dkwX0_locked_10 ++ dktX0_locked_11
def dkwX0_locked_9 : List UInt8 := [16, 6, 46, 126, 130, 96, 178, 0, 13, 21, 4, 46, 96, 44, 21, 4, 46, 96, 54, 7, 21, 6, 5]
abbrev dktX0_locked_9 : List UInt8 := dkwX0_locked_9 ++ dktX0_locked_10
def dkwX0_locked_8 : List UInt8 := [184, 0, 7, 130, 21, 5, 16, 25, 184, 0, 7, 130, 96, 21, 5, 45, 8, 46, 126, 21, 5, 2, 130, 45]
abbrev dktX0_locked_8 : List UInt8 := dkwX0_locked_8 ++ dktX0_locked_9
def dkwX0_locked_7 : List UInt8 := [54, 5, 45, 3, 46, 54, 6, 45, 16, 7, 46, 21, 5, 16, 6, 184, 0, 7, 21, 5, 16, 11]
abbrev dktX0_locked_7 : List UInt8 := dkwX0_locked_7 ++ dktX0_locked_8
def dkwX0_locked_6 : List UInt8 := [43, 21, 4, 46, 79, 132, 4, 1, 167, 255, 238, 3, 54, 4, 21, 4, 16, 64, 162, 0, 165, 45, 7, 46]
abbrev dktX0_locked_6 : List UInt8 := dkwX0_locked_6 ++ dktX0_locked_7
def dkwX0_locked_5 : List UInt8 := [132, 3, 1, 167, 255, 144, 16, 8, 188, 10, 78, 3, 54, 4, 21, 4, 16, 8, 162, 0, 17, 45, 21, 4]
abbrev dktX0_locked_5 : List UInt8 := dkwX0_locked_5 ++ dktX0_locked_6
def dkwX0_locked_4 : List UInt8 := [54, 5, 44, 29, 44, 29, 16, 16, 100, 46, 21, 4, 96, 44, 29, 16, 7, 100, 46, 96, 21, 5, 96, 79]
abbrev dktX0_locked_4 : List UInt8 := dkwX0_locked_4 ++ dktX0_locked_5
def dkwX0_locked_3 : List UInt8 := [184, 0, 7, 44, 29, 5, 100, 46, 16, 19, 184, 0, 7, 130, 44, 29, 5, 100, 46, 16, 10, 124, 130]
abbrev dktX0_locked_3 : List UInt8 := dkwX0_locked_3 ++ dktX0_locked_4
def dkwX0_locked_2 : List UInt8 := [184, 0, 7, 130, 44, 29, 16, 15, 100, 46, 6, 124, 130, 54, 4, 44, 29, 5, 100, 46, 16, 17]
abbrev dktX0_locked_2 : List UInt8 := dkwX0_locked_2 ++ dktX0_locked_3
def dkwX0_locked_1 : List UInt8 := [79, 167, 0, 91, 44, 29, 16, 15, 100, 46, 16, 7, 184, 0, 7, 44, 29, 16, 15, 100, 46, 16, 18]
abbrev dktX0_locked_1 : List UInt8 := dkwX0_locked_1 ++ dktX0_locked_2
def dkwX0_locked_0 : List UInt8 := [16, 64, 188, 10, 77, 3, 62, 29, 16, 64, 162, 0, 112, 29, 16, 16, 162, 0, 12, 44, 29, 42, 29, 46]
abbrev dktX0_locked_0 : List UInt8 := dkwX0_locked_0 ++ dktX0_locked_1
theorem dksX0_locked_0 : cX0_locked.data.toList.drop 0 = dktX0_locked_0 := by decide +kernel
theorem dksX0_locked_1 : cX0_locked.data.toList.drop 24 = dktX0_locked_1 := dk_seg dksX0_locked_0 24 rfl rfl
theorem dksX0_locked_2 : cX0_locked.data.toList.drop 47 = dktX0_locked_2 := dk_seg dksX0_locked_1 23 rfl rfl
theorem dksX0_locked_3 : cX0_locked.data.toList.drop 69 = dktX0_locked_3 := dk_seg dksX0_locked_2 22 rfl rfl
theorem dksX0_locked_4 : cX0_locked.data.toList.drop 92 = dktX0_locked_4 := dk_seg dksX0_locked_3 23 rfl rfl
theorem dksX0_locked_5 : cX0_locked.data.toList.drop 116 = dktX0_locked_5 := dk_seg dksX0_locked_4 24 rfl rfl
theorem dksX0_locked_6 : cX0_locked.data.toList.drop 140 = dktX0_locked_6 := dk_seg dksX0_locked_5 24 rfl rfl
theorem dksX0_locked_7 : cX0_locked.data.toList.drop 164 = dktX0_locked_7 := dk_seg dksX0_locked_6 24 rfl rfl
theorem dksX0_locked_8 : cX0_locked.data.toList.drop 186 = dktX0_locked_8 := dk_seg dksX0_locked_7 22 rfl rfl
theorem dksX0_locked_9 : cX0_locked.data.toList.drop 210 = dktX0_locked_9 := dk_seg dksX0_locked_8 24 rfl rfl
theorem dksX0_locked_10 : cX0_locked.data.toList.drop 233 = dktX0_locked_10 := dk_seg dksX0_locked_9 23 rfl rfl
theorem dksX0_locked_11 : cX0_locked.data.toList.drop 257 = dktX0_locked_11 := dk_seg dksX0_locked_10 24 rfl rfl
theorem dksX0_locked_12 : cX0_locked.data.toList.drop 280 = dktX0_locked_12 := dk_seg dksX0_locked_11 23 rfl rfl
theorem dksX0_locked_13 : cX0_locked.data.toList.drop 304 = dktX0_locked_13 := dk_seg dksX0_locked_12 24 rfl rfl
theorem dX0_locked_0 : decode cX0_locked 0 = .ok (.bipush 64, 2) := dk_16 64 (dk_at dksX0_locked_0 0 rfl rfl)
theorem dX0_locked_2 : decode cX0_locked 2 = .ok (.newarray .int, 2) := dk_188_10 (dk_at dksX0_locked_0 2 rfl rfl)
theorem dX0_locked_4 : decode cX0_locked 4 = .ok (.astore_n 2, 1) := dk_77 (dk_at dksX0_locked_0 4 rfl rfl)
theorem dX0_locked_5 : decode cX0_locked 5 = .ok (.iconst 0, 1) := dk_3 (dk_at dksX0_locked_0 5 rfl rfl)
theorem dX0_locked_6 : decode cX0_locked 6 = .ok (.istore_n 3, 1) := dk_62 (dk_at dksX0_locked_0 6 rfl rfl)
theorem dX0_locked_7 : decode cX0_locked 7 = .ok (.iload_n 3, 1) := dk_29 (dk_at dksX0_locked_0 7 rfl rfl)
theorem dX0_locked_8 : decode cX0_locked 8 = .ok (.bipush 64, 2) := dk_16 64 (dk_at dksX0_locked_0 8 rfl rfl)
theorem dX0_locked_10 : decode cX0_locked 10 = .ok (.if_icmp .ge 112, 3) := dk_162 0 112 (dk_at dksX0_locked_0 10 rfl rfl)
theorem dX0_locked_13 : decode cX0_locked 13 = .ok (.iload_n 3, 1) := dk_29 (dk_at dksX0_locked_0 13 rfl rfl)
theorem dX0_locked_14 : decode cX0_locked 14 = .ok (.bipush 16, 2) := dk_16 16 (dk_at dksX0_locked_0 14 rfl rfl)
theorem dX0_locked_16 : decode cX0_locked 16 = .ok (.if_icmp .ge 12, 3) := dk_162 0 12 (dk_at dksX0_locked_0 16 rfl rfl)
theorem dX0_locked_19 : decode cX0_locked 19 = .ok (.aload_n 2, 1) := dk_44 (dk_at dksX0_locked_0 19 rfl rfl)
theorem dX0_locked_20 : decode cX0_locked 20 = .ok (.iload_n 3, 1) := dk_29 (dk_at dksX0_locked_0 20 rfl rfl)
theorem dX0_locked_21 : decode cX0_locked 21 = .ok (.aload_n 0, 1) := dk_42 (dk_at dksX0_locked_0 21 rfl rfl)
theorem dX0_locked_22 : decode cX0_locked 22 = .ok (.iload_n 3, 1) := dk_29 (dk_at dksX0_locked_0 22 rfl rfl)
theorem dX0_locked_23 : decode cX0_locked 23 = .ok (.iaload, 1) := dk_46 (dk_at dksX0_locked_0 23 rfl rfl)
theorem dX0_locked_24 : decode cX0_locked 24 = .ok (.iastore, 1) := dk_79 (dk_at dksX0_locked_1 0 rfl rfl)
theorem dX0_locked_25 : decode cX0_locked 25 = .ok (.goto 91, 3) := dk_167 0 91 (dk_at dksX0_locked_1 1 rfl rfl)
theorem dX0_locked_28 : decode cX0_locked 28 = .ok (.aload_n 2, 1) := dk_44 (dk_at dksX0_locked_1 4 rfl rfl)
theorem dX0_locked_29 : decode cX0_locked 29 = .ok (.iload_n 3, 1) := dk_29 (dk_at dksX0_locked_1 5 rfl rfl)
theorem dX0_locked_30 : decode cX0_locked 30 = .ok (.bipush 15, 2) := dk_16 15 (dk_at dksX0_locked_1 6 rfl rfl)
theorem dX0_locked_32 : decode cX0_locked 32 = .ok (.isub, 1) := dk_100 (dk_at dksX0_locked_1 8 rfl rfl)
theorem dX0_locked_33 : decode cX0_locked 33 = .ok (.iaload, 1) := dk_46 (dk_at dksX0_locked_1 9 rfl rfl)
theorem dX0_locked_34 : decode cX0_locked 34 = .ok (.bipush 7, 2) := dk_16 7 (dk_at dksX0_locked_1 10 rfl rfl)
theorem dX0_locked_36 : decode cX0_locked 36 = .ok (.invokestatic 7, 3) := dk_184 0 7 (dk_at dksX0_locked_1 12 rfl rfl)
theorem dX0_locked_39 : decode cX0_locked 39 = .ok (.aload_n 2, 1) := dk_44 (dk_at dksX0_locked_1 15 rfl rfl)
theorem dX0_locked_40 : decode cX0_locked 40 = .ok (.iload_n 3, 1) := dk_29 (dk_at dksX0_locked_1 16 rfl rfl)
theorem dX0_locked_41 : decode cX0_locked 41 = .ok (.bipush 15, 2) := dk_16 15 (dk_at dksX0_locked_1 17 rfl rfl)
theorem dX0_locked_43 : decode cX0_locked 43 = .ok (.isub, 1) := dk_100 (dk_at dksX0_locked_1 19 rfl rfl)
theorem dX0_locked_44 : decode cX0_locked 44 = .ok (.iaload, 1) := dk_46 (dk_at dksX0_locked_1 20 rfl rfl)
theorem dX0_locked_45 : decode cX0_locked 45 = .ok (.bipush 18, 2) := dk_16 18 (dk_at dksX0_locked_1 21 rfl rfl)
theorem dX0_locked_47 : decode cX0_locked 47 = .ok (.invokestatic 7, 3) := dk_184 0 7 (dk_at dksX0_locked_2 0 rfl rfl)
theorem dX0_locked_50 : decode cX0_locked 50 = .ok (.ixor, 1) := dk_130 (dk_at dksX0_locked_2 3 rfl rfl)
theorem dX0_locked_51 : decode cX0_locked 51 = .ok (.aload_n 2, 1) := dk_44 (dk_at dksX0_locked_2 4 rfl rfl)
theorem dX0_locked_52 : decode cX0_locked 52 = .ok (.iload_n 3, 1) := dk_29 (dk_at dksX0_locked_2 5 rfl rfl)
theorem dX0_locked_53 : decode cX0_locked 53 = .ok (.bipush 15, 2) := dk_16 15 (dk_at dksX0_locked_2 6 rfl rfl)
theorem dX0_locked_55 : decode cX0_locked 55 = .ok (.isub, 1) := dk_100 (dk_at dksX0_locked_2 8 rfl rfl)
theorem dX0_locked_56 : decode cX0_locked 56 = .ok (.iaload, 1) := dk_46 (dk_at dksX0_locked_2 9 rfl rfl)
theorem dX0_locked_57 : decode cX0_locked 57 = .ok (.iconst 3, 1) := dk_6 (dk_at dksX0_locked_2 10 rfl rfl)
theorem dX0_locked_58 : decode cX0_locked 58 = .ok (.iushr, 1) := dk_124 (dk_at dksX0_locked_2 11 rfl rfl)
theorem dX0_locked_59 : decode cX0_locked 59 = .ok (.ixor, 1) := dk_130 (dk_at dksX0_locked_2 12 rfl rfl)
theorem dX0_locked_60 : decode cX0_locked 60 = .ok (.istore 4, 2) := dk_54 4 (dk_at dksX0_locked_2 13 rfl rfl)
theorem dX0_locked_62 : decode cX0_locked 62 = .ok (.aload_n 2, 1) := dk_44 (dk_at dksX0_locked_2 15 rfl rfl)
theorem dX0_locked_63 : decode cX0_locked 63 = .ok (.iload_n 3, 1) := dk_29 (dk_at dksX0_locked_2 16 rfl rfl)
theorem dX0_locked_64 : decode cX0_locked 64 = .ok (.iconst 2, 1) := dk_5 (dk_at dksX0_locked_2 17 rfl rfl)
theorem dX0_locked_65 : decode cX0_locked 65 = .ok (.isub, 1) := dk_100 (dk_at dksX0_locked_2 18 rfl rfl)
theorem dX0_locked_66 : decode cX0_locked 66 = .ok (.iaload, 1) := dk_46 (dk_at dksX0_locked_2 19 rfl rfl)
theorem dX0_locked_67 : decode cX0_locked 67 = .ok (.bipush 17, 2) := dk_16 17 (dk_at dksX0_locked_2 20 rfl rfl)
theorem dX0_locked_69 : decode cX0_locked 69 = .ok (.invokestatic 7, 3) := dk_184 0 7 (dk_at dksX0_locked_3 0 rfl rfl)
theorem dX0_locked_72 : decode cX0_locked 72 = .ok (.aload_n 2, 1) := dk_44 (dk_at dksX0_locked_3 3 rfl rfl)
theorem dX0_locked_73 : decode cX0_locked 73 = .ok (.iload_n 3, 1) := dk_29 (dk_at dksX0_locked_3 4 rfl rfl)
theorem dX0_locked_74 : decode cX0_locked 74 = .ok (.iconst 2, 1) := dk_5 (dk_at dksX0_locked_3 5 rfl rfl)
theorem dX0_locked_75 : decode cX0_locked 75 = .ok (.isub, 1) := dk_100 (dk_at dksX0_locked_3 6 rfl rfl)
theorem dX0_locked_76 : decode cX0_locked 76 = .ok (.iaload, 1) := dk_46 (dk_at dksX0_locked_3 7 rfl rfl)
theorem dX0_locked_77 : decode cX0_locked 77 = .ok (.bipush 19, 2) := dk_16 19 (dk_at dksX0_locked_3 8 rfl rfl)
theorem dX0_locked_79 : decode cX0_locked 79 = .ok (.invokestatic 7, 3) := dk_184 0 7 (dk_at dksX0_locked_3 10 rfl rfl)
theorem dX0_locked_82 : decode cX0_locked 82 = .ok (.ixor, 1) := dk_130 (dk_at dksX0_locked_3 13 rfl rfl)
theorem dX0_locked_83 : decode cX0_locked 83 = .ok (.aload_n 2, 1) := dk_44 (dk_at dksX0_locked_3 14 rfl rfl)
theorem dX0_locked_84 : decode cX0_locked 84 = .ok (.iload_n 3, 1) := dk_29 (dk_at dksX0_locked_3 15 rfl rfl)
theorem dX0_locked_85 : decode cX0_locked 85 = .ok (.iconst 2, 1) := dk_5 (dk_at dksX0_locked_3 16 rfl rfl)
theorem dX0_locked_86 : decode cX0_locked 86 = .ok (.isub, 1) := dk_100 (dk_at dksX0_locked_3 17 rfl rfl)
theorem dX0_locked_87 : decode cX0_locked 87 = .ok (.iaload, 1) := dk_46 (dk_at dksX0_locked_3 18 rfl rfl)
theorem dX0_locked_88 : decode cX0_locked 88 = .ok (.bipush 10, 2) := dk_16 10 (dk_at dksX0_locked_3 19 rfl rfl)
theorem dX0_locked_90 : decode cX0_locked 90 = .ok (.iushr, 1) := dk_124 (dk_at dksX0_locked_3 21 rfl rfl)
theorem dX0_locked_91 : decode cX0_locked 91 = .ok (.ixor, 1) := dk_130 (dk_at dksX0_locked_3 22 rfl rfl)
theorem dX0_locked_92 : decode cX0_locked 92 = .ok (.istore 5, 2) := dk_54 5 (dk_at dksX0_locked_4 0 rfl rfl)
theorem dX0_locked_94 : decode cX0_locked 94 = .ok (.aload_n 2, 1) := dk_44 (dk_at dksX0_locked_4 2 rfl rfl)
theorem dX0_locked_95 : decode cX0_locked 95 = .ok (.iload_n 3, 1) := dk_29 (dk_at dksX0_locked_4 3 rfl rfl)
theorem dX0_locked_96 : decode cX0_locked 96 = .ok (.aload_n 2, 1) := dk_44 (dk_at dksX0_locked_4 4 rfl rfl)
theorem dX0_locked_97 : decode cX0_locked 97 = .ok (.iload_n 3, 1) := dk_29 (dk_at dksX0_locked_4 5 rfl rfl)
theorem dX0_locked_98 : decode cX0_locked 98 = .ok (.bipush 16, 2) := dk_16 16 (dk_at dksX0_locked_4 6 rfl rfl)
theorem dX0_locked_100 : decode cX0_locked 100 = .ok (.isub, 1) := dk_100 (dk_at dksX0_locked_4 8 rfl rfl)
theorem dX0_locked_101 : decode cX0_locked 101 = .ok (.iaload, 1) := dk_46 (dk_at dksX0_locked_4 9 rfl rfl)
theorem dX0_locked_102 : decode cX0_locked 102 = .ok (.iload 4, 2) := dk_21 4 (dk_at dksX0_locked_4 10 rfl rfl)
theorem dX0_locked_104 : decode cX0_locked 104 = .ok (.iadd, 1) := dk_96 (dk_at dksX0_locked_4 12 rfl rfl)
theorem dX0_locked_105 : decode cX0_locked 105 = .ok (.aload_n 2, 1) := dk_44 (dk_at dksX0_locked_4 13 rfl rfl)
theorem dX0_locked_106 : decode cX0_locked 106 = .ok (.iload_n 3, 1) := dk_29 (dk_at dksX0_locked_4 14 rfl rfl)
theorem dX0_locked_107 : decode cX0_locked 107 = .ok (.bipush 7, 2) := dk_16 7 (dk_at dksX0_locked_4 15 rfl rfl)
theorem dX0_locked_109 : decode cX0_locked 109 = .ok (.isub, 1) := dk_100 (dk_at dksX0_locked_4 17 rfl rfl)
theorem dX0_locked_110 : decode cX0_locked 110 = .ok (.iaload, 1) := dk_46 (dk_at dksX0_locked_4 18 rfl rfl)
theorem dX0_locked_111 : decode cX0_locked 111 = .ok (.iadd, 1) := dk_96 (dk_at dksX0_locked_4 19 rfl rfl)
theorem dX0_locked_112 : decode cX0_locked 112 = .ok (.iload 5, 2) := dk_21 5 (dk_at dksX0_locked_4 20 rfl rfl)
theorem dX0_locked_114 : decode cX0_locked 114 = .ok (.iadd, 1) := dk_96 (dk_at dksX0_locked_4 22 rfl rfl)
theorem dX0_locked_115 : decode cX0_locked 115 = .ok (.iastore, 1) := dk_79 (dk_at dksX0_locked_4 23 rfl rfl)
theorem dX0_locked_116 : decode cX0_locked 116 = .ok (.iinc 3 1, 3) := dk_132 3 1 (dk_at dksX0_locked_5 0 rfl rfl)
theorem dX0_locked_119 : decode cX0_locked 119 = .ok (.goto (-112), 3) := dk_167 255 144 (dk_at dksX0_locked_5 3 rfl rfl)
theorem dX0_locked_122 : decode cX0_locked 122 = .ok (.bipush 8, 2) := dk_16 8 (dk_at dksX0_locked_5 6 rfl rfl)
theorem dX0_locked_124 : decode cX0_locked 124 = .ok (.newarray .int, 2) := dk_188_10 (dk_at dksX0_locked_5 8 rfl rfl)
theorem dX0_locked_126 : decode cX0_locked 126 = .ok (.astore_n 3, 1) := dk_78 (dk_at dksX0_locked_5 10 rfl rfl)
theorem dX0_locked_127 : decode cX0_locked 127 = .ok (.iconst 0, 1) := dk_3 (dk_at dksX0_locked_5 11 rfl rfl)
theorem dX0_locked_128 : decode cX0_locked 128 = .ok (.istore 4, 2) := dk_54 4 (dk_at dksX0_locked_5 12 rfl rfl)
theorem dX0_locked_130 : decode cX0_locked 130 = .ok (.iload 4, 2) := dk_21 4 (dk_at dksX0_locked_5 14 rfl rfl)
theorem dX0_locked_132 : decode cX0_locked 132 = .ok (.bipush 8, 2) := dk_16 8 (dk_at dksX0_locked_5 16 rfl rfl)
theorem dX0_locked_134 : decode cX0_locked 134 = .ok (.if_icmp .ge 17, 3) := dk_162 0 17 (dk_at dksX0_locked_5 18 rfl rfl)
theorem dX0_locked_137 : decode cX0_locked 137 = .ok (.aload_n 3, 1) := dk_45 (dk_at dksX0_locked_5 21 rfl rfl)
theorem dX0_locked_138 : decode cX0_locked 138 = .ok (.iload 4, 2) := dk_21 4 (dk_at dksX0_locked_5 22 rfl rfl)
theorem dX0_locked_140 : decode cX0_locked 140 = .ok (.aload_n 1, 1) := dk_43 (dk_at dksX0_locked_6 0 rfl rfl)
theorem dX0_locked_141 : decode cX0_locked 141 = .ok (.iload 4, 2) := dk_21 4 (dk_at dksX0_locked_6 1 rfl rfl)
theorem dX0_locked_143 : decode cX0_locked 143 = .ok (.iaload, 1) := dk_46 (dk_at dksX0_locked_6 3 rfl rfl)
theorem dX0_locked_144 : decode cX0_locked 144 = .ok (.iastore, 1) := dk_79 (dk_at dksX0_locked_6 4 rfl rfl)
theorem dX0_locked_145 : decode cX0_locked 145 = .ok (.iinc 4 1, 3) := dk_132 4 1 (dk_at dksX0_locked_6 5 rfl rfl)
theorem dX0_locked_148 : decode cX0_locked 148 = .ok (.goto (-18), 3) := dk_167 255 238 (dk_at dksX0_locked_6 8 rfl rfl)
theorem dX0_locked_151 : decode cX0_locked 151 = .ok (.iconst 0, 1) := dk_3 (dk_at dksX0_locked_6 11 rfl rfl)
theorem dX0_locked_152 : decode cX0_locked 152 = .ok (.istore 4, 2) := dk_54 4 (dk_at dksX0_locked_6 12 rfl rfl)
theorem dX0_locked_154 : decode cX0_locked 154 = .ok (.iload 4, 2) := dk_21 4 (dk_at dksX0_locked_6 14 rfl rfl)
theorem dX0_locked_156 : decode cX0_locked 156 = .ok (.bipush 64, 2) := dk_16 64 (dk_at dksX0_locked_6 16 rfl rfl)
theorem dX0_locked_158 : decode cX0_locked 158 = .ok (.if_icmp .ge 165, 3) := dk_162 0 165 (dk_at dksX0_locked_6 18 rfl rfl)
theorem dX0_locked_161 : decode cX0_locked 161 = .ok (.aload_n 3, 1) := dk_45 (dk_at dksX0_locked_6 21 rfl rfl)
theorem dX0_locked_162 : decode cX0_locked 162 = .ok (.iconst 4, 1) := dk_7 (dk_at dksX0_locked_6 22 rfl rfl)
theorem dX0_locked_163 : decode cX0_locked 163 = .ok (.iaload, 1) := dk_46 (dk_at dksX0_locked_6 23 rfl rfl)
theorem dX0_locked_164 : decode cX0_locked 164 = .ok (.istore 5, 2) := dk_54 5 (dk_at dksX0_locked_7 0 rfl rfl)
theorem dX0_locked_166 : decode cX0_locked 166 = .ok (.aload_n 3, 1) := dk_45 (dk_at dksX0_locked_7 2 rfl rfl)
theorem dX0_locked_167 : decode cX0_locked 167 = .ok (.iconst 0, 1) := dk_3 (dk_at dksX0_locked_7 3 rfl rfl)
theorem dX0_locked_168 : decode cX0_locked 168 = .ok (.iaload, 1) := dk_46 (dk_at dksX0_locked_7 4 rfl rfl)
theorem dX0_locked_169 : decode cX0_locked 169 = .ok (.istore 6, 2) := dk_54 6 (dk_at dksX0_locked_7 5 rfl rfl)
theorem dX0_locked_171 : decode cX0_locked 171 = .ok (.aload_n 3, 1) := dk_45 (dk_at dksX0_locked_7 7 rfl rfl)
theorem dX0_locked_172 : decode cX0_locked 172 = .ok (.bipush 7, 2) := dk_16 7 (dk_at dksX0_locked_7 8 rfl rfl)
theorem dX0_locked_174 : decode cX0_locked 174 = .ok (.iaload, 1) := dk_46 (dk_at dksX0_locked_7 10 rfl rfl)
theorem dX0_locked_175 : decode cX0_locked 175 = .ok (.iload 5, 2) := dk_21 5 (dk_at dksX0_locked_7 11 rfl rfl)
theorem dX0_locked_177 : decode cX0_locked 177 = .ok (.bipush 6, 2) := dk_16 6 (dk_at dksX0_locked_7 13 rfl rfl)
theorem dX0_locked_179 : decode cX0_locked 179 = .ok (.invokestatic 7, 3) := dk_184 0 7 (dk_at dksX0_locked_7 15 rfl rfl)
theorem dX0_locked_182 : decode cX0_locked 182 = .ok (.iload 5, 2) := dk_21 5 (dk_at dksX0_locked_7 18 rfl rfl)
theorem dX0_locked_184 : decode cX0_locked 184 = .ok (.bipush 11, 2) := dk_16 11 (dk_at dksX0_locked_7 20 rfl rfl)
theorem dX0_locked_186 : decode cX0_locked 186 = .ok (.invokestatic 7, 3) := dk_184 0 7 (dk_at dksX0_locked_8 0 rfl rfl)
theorem dX0_locked_189 : decode cX0_locked 189 = .ok (.ixor, 1) := dk_130 (dk_at dksX0_locked_8 3 rfl rfl)
theorem dX0_locked_190 : decode cX0_locked 190 = .ok (.iload 5, 2) := dk_21 5 (dk_at dksX0_locked_8 4 rfl rfl)
theorem dX0_locked_192 : decode cX0_locked 192 = .ok (.bipush 25, 2) := dk_16 25 (dk_at dksX0_locked_8 6 rfl rfl)
theorem dX0_locked_194 : decode cX0_locked 194 = .ok (.invokestatic 7, 3) := dk_184 0 7 (dk_at dksX0_locked_8 8 rfl rfl)
theorem dX0_locked_197 : decode cX0_locked 197 = .ok (.ixor, 1) := dk_130 (dk_at dksX0_locked_8 11 rfl rfl)
theorem dX0_locked_198 : decode cX0_locked 198 = .ok (.iadd, 1) := dk_96 (dk_at dksX0_locked_8 12 rfl rfl)
theorem dX0_locked_199 : decode cX0_locked 199 = .ok (.iload 5, 2) := dk_21 5 (dk_at dksX0_locked_8 13 rfl rfl)
theorem dX0_locked_201 : decode cX0_locked 201 = .ok (.aload_n 3, 1) := dk_45 (dk_at dksX0_locked_8 15 rfl rfl)
theorem dX0_locked_202 : decode cX0_locked 202 = .ok (.iconst 5, 1) := dk_8 (dk_at dksX0_locked_8 16 rfl rfl)
theorem dX0_locked_203 : decode cX0_locked 203 = .ok (.iaload, 1) := dk_46 (dk_at dksX0_locked_8 17 rfl rfl)
theorem dX0_locked_204 : decode cX0_locked 204 = .ok (.iand, 1) := dk_126 (dk_at dksX0_locked_8 18 rfl rfl)
theorem dX0_locked_205 : decode cX0_locked 205 = .ok (.iload 5, 2) := dk_21 5 (dk_at dksX0_locked_8 19 rfl rfl)
theorem dX0_locked_207 : decode cX0_locked 207 = .ok (.iconst (-1), 1) := dk_2 (dk_at dksX0_locked_8 21 rfl rfl)
theorem dX0_locked_208 : decode cX0_locked 208 = .ok (.ixor, 1) := dk_130 (dk_at dksX0_locked_8 22 rfl rfl)
theorem dX0_locked_209 : decode cX0_locked 209 = .ok (.aload_n 3, 1) := dk_45 (dk_at dksX0_locked_8 23 rfl rfl)
theorem dX0_locked_210 : decode cX0_locked 210 = .ok (.bipush 6, 2) := dk_16 6 (dk_at dksX0_locked_9 0 rfl rfl)
theorem dX0_locked_212 : decode cX0_locked 212 = .ok (.iaload, 1) := dk_46 (dk_at dksX0_locked_9 2 rfl rfl)
theorem dX0_locked_213 : decode cX0_locked 213 = .ok (.iand, 1) := dk_126 (dk_at dksX0_locked_9 3 rfl rfl)
theorem dX0_locked_214 : decode cX0_locked 214 = .ok (.ixor, 1) := dk_130 (dk_at dksX0_locked_9 4 rfl rfl)
theorem dX0_locked_215 : decode cX0_locked 215 = .ok (.iadd, 1) := dk_96 (dk_at dksX0_locked_9 5 rfl rfl)
theorem dX0_locked_216 : decode cX0_locked 216 = .ok (.getstatic 13, 3) := dk_178 0 13 (dk_at dksX0_locked_9 6 rfl rfl)
theorem dX0_locked_219 : decode cX0_locked 219 = .ok (.iload 4, 2) := dk_21 4 (dk_at dksX0_locked_9 9 rfl rfl)
theorem dX0_locked_221 : decode cX0_locked 221 = .ok (.iaload, 1) := dk_46 (dk_at dksX0_locked_9 11 rfl rfl)
theorem dX0_locked_222 : decode cX0_locked 222 = .ok (.iadd, 1) := dk_96 (dk_at dksX0_locked_9 12 rfl rfl)
theorem dX0_locked_223 : decode cX0_locked 223 = .ok (.aload_n 2, 1) := dk_44 (dk_at dksX0_locked_9 13 rfl rfl)
theorem dX0_locked_224 : decode cX0_locked 224 = .ok (.iload 4, 2) := dk_21 4 (dk_at dksX0_locked_9 14 rfl rfl)
theorem dX0_locked_226 : decode cX0_locked 226 = .ok (.iaload, 1) := dk_46 (dk_at dksX0_locked_9 16 rfl rfl)
theorem dX0_locked_227 : decode cX0_locked 227 = .ok (.iadd, 1) := dk_96 (dk_at dksX0_locked_9 17 rfl rfl)
theorem dX0_locked_228 : decode cX0_locked 228 = .ok (.istore 7, 2) := dk_54 7 (dk_at dksX0_locked_9 18 rfl rfl)
theorem dX0_locked_230 : decode cX0_locked 230 = .ok (.iload 6, 2) := dk_21 6 (dk_at dksX0_locked_9 20 rfl rfl)
theorem dX0_locked_232 : decode cX0_locked 232 = .ok (.iconst 2, 1) := dk_5 (dk_at dksX0_locked_9 22 rfl rfl)
theorem dX0_locked_233 : decode cX0_locked 233 = .ok (.invokestatic 7, 3) := dk_184 0 7 (dk_at dksX0_locked_10 0 rfl rfl)
theorem dX0_locked_236 : decode cX0_locked 236 = .ok (.iload 6, 2) := dk_21 6 (dk_at dksX0_locked_10 3 rfl rfl)
theorem dX0_locked_238 : decode cX0_locked 238 = .ok (.bipush 13, 2) := dk_16 13 (dk_at dksX0_locked_10 5 rfl rfl)
theorem dX0_locked_240 : decode cX0_locked 240 = .ok (.invokestatic 7, 3) := dk_184 0 7 (dk_at dksX0_locked_10 7 rfl rfl)
theorem dX0_locked_243 : decode cX0_locked 243 = .ok (.ixor, 1) := dk_130 (dk_at dksX0_locked_10 10 rfl rfl)
theorem dX0_locked_244 : decode cX0_locked 244 = .ok (.iload 6, 2) := dk_21 6 (dk_at dksX0_locked_10 11 rfl rfl)
theorem dX0_locked_246 : decode cX0_locked 246 = .ok (.bipush 22, 2) := dk_16 22 (dk_at dksX0_locked_10 13 rfl rfl)
theorem dX0_locked_248 : decode cX0_locked 248 = .ok (.invokestatic 7, 3) := dk_184 0 7 (dk_at dksX0_locked_10 15 rfl rfl)
theorem dX0_locked_251 : decode cX0_locked 251 = .ok (.ixor, 1) := dk_130 (dk_at dksX0_locked_10 18 rfl rfl)
theorem dX0_locked_252 : decode cX0_locked 252 = .ok (.iload 6, 2) := dk_21 6 (dk_at dksX0_locked_10 19 rfl rfl)
theorem dX0_locked_254 : decode cX0_locked 254 = .ok (.aload_n 3, 1) := dk_45 (dk_at dksX0_locked_10 21 rfl rfl)
theorem dX0_locked_255 : decode cX0_locked 255 = .ok (.iconst 1, 1) := dk_4 (dk_at dksX0_locked_10 22 rfl rfl)
theorem dX0_locked_256 : decode cX0_locked 256 = .ok (.iaload, 1) := dk_46 (dk_at dksX0_locked_10 23 rfl rfl)
theorem dX0_locked_257 : decode cX0_locked 257 = .ok (.iand, 1) := dk_126 (dk_at dksX0_locked_11 0 rfl rfl)
theorem dX0_locked_258 : decode cX0_locked 258 = .ok (.iload 6, 2) := dk_21 6 (dk_at dksX0_locked_11 1 rfl rfl)
theorem dX0_locked_260 : decode cX0_locked 260 = .ok (.aload_n 3, 1) := dk_45 (dk_at dksX0_locked_11 3 rfl rfl)
theorem dX0_locked_261 : decode cX0_locked 261 = .ok (.iconst 2, 1) := dk_5 (dk_at dksX0_locked_11 4 rfl rfl)
theorem dX0_locked_262 : decode cX0_locked 262 = .ok (.iaload, 1) := dk_46 (dk_at dksX0_locked_11 5 rfl rfl)
theorem dX0_locked_263 : decode cX0_locked 263 = .ok (.iand, 1) := dk_126 (dk_at dksX0_locked_11 6 rfl rfl)
theorem dX0_locked_264 : decode cX0_locked 264 = .ok (.ixor, 1) := dk_130 (dk_at dksX0_locked_11 7 rfl rfl)
theorem dX0_locked_265 : decode cX0_locked 265 = .ok (.aload_n 3, 1) := dk_45 (dk_at dksX0_locked_11 8 rfl rfl)
theorem dX0_locked_266 : decode cX0_locked 266 = .ok (.iconst 1, 1) := dk_4 (dk_at dksX0_locked_11 9 rfl rfl)
theorem dX0_locked_267 : decode cX0_locked 267 = .ok (.iaload, 1) := dk_46 (dk_at dksX0_locked_11 10 rfl rfl)
theorem dX0_locked_268 : decode cX0_locked 268 = .ok (.aload_n 3, 1) := dk_45 (dk_at dksX0_locked_11 11 rfl rfl)
theorem dX0_locked_269 : decode cX0_locked 269 = .ok (.iconst 2, 1) := dk_5 (dk_at dksX0_locked_11 12 rfl rfl)
theorem dX0_locked_270 : decode cX0_locked 270 = .ok (.iaload, 1) := dk_46 (dk_at dksX0_locked_11 13 rfl rfl)
theorem dX0_locked_271 : decode cX0_locked 271 = .ok (.iand, 1) := dk_126 (dk_at dksX0_locked_11 14 rfl rfl)
theorem dX0_locked_272 : decode cX0_locked 272 = .ok (.ixor, 1) := dk_130 (dk_at dksX0_locked_11 15 rfl rfl)
theorem dX0_locked_273 : decode cX0_locked 273 = .ok (.iadd, 1) := dk_96 (dk_at dksX0_locked_11 16 rfl rfl)
theorem dX0_locked_274 : decode cX0_locked 274 = .ok (.istore 8, 2) := dk_54 8 (dk_at dksX0_locked_11 17 rfl rfl)
theorem dX0_locked_276 : decode cX0_locked 276 = .ok (.bipush 7, 2) := dk_16 7 (dk_at dksX0_locked_11 19 rfl rfl)
theorem dX0_locked_278 : decode cX0_locked 278 = .ok (.istore 9, 2) := dk_54 9 (dk_at dksX0_locked_11 21 rfl rfl)
theorem dX0_locked_280 : decode cX0_locked 280 = .ok (.iload 9, 2) := dk_21 9 (dk_at dksX0_locked_12 0 rfl rfl)
theorem dX0_locked_282 : decode cX0_locked 282 = .ok (.ifCond .le 19, 3) := dk_158 0 19 (dk_at dksX0_locked_12 2 rfl rfl)
theorem dX0_locked_285 : decode cX0_locked 285 = .ok (.aload_n 3, 1) := dk_45 (dk_at dksX0_locked_12 5 rfl rfl)
theorem dX0_locked_286 : decode cX0_locked 286 = .ok (.iload 9, 2) := dk_21 9 (dk_at dksX0_locked_12 6 rfl rfl)
theorem dX0_locked_288 : decode cX0_locked 288 = .ok (.aload_n 3, 1) := dk_45 (dk_at dksX0_locked_12 8 rfl rfl)
theorem dX0_locked_289 : decode cX0_locked 289 = .ok (.iload 9, 2) := dk_21 9 (dk_at dksX0_locked_12 9 rfl rfl)
theorem dX0_locked_291 : decode cX0_locked 291 = .ok (.iconst 1, 1) := dk_4 (dk_at dksX0_locked_12 11 rfl rfl)
theorem dX0_locked_292 : decode cX0_locked 292 = .ok (.isub, 1) := dk_100 (dk_at dksX0_locked_12 12 rfl rfl)
theorem dX0_locked_293 : decode cX0_locked 293 = .ok (.iaload, 1) := dk_46 (dk_at dksX0_locked_12 13 rfl rfl)
theorem dX0_locked_294 : decode cX0_locked 294 = .ok (.iastore, 1) := dk_79 (dk_at dksX0_locked_12 14 rfl rfl)
theorem dX0_locked_295 : decode cX0_locked 295 = .ok (.iinc 9 (-1), 3) := dk_132 9 255 (dk_at dksX0_locked_12 15 rfl rfl)
theorem dX0_locked_298 : decode cX0_locked 298 = .ok (.goto (-18), 3) := dk_167 255 238 (dk_at dksX0_locked_12 18 rfl rfl)
theorem dX0_locked_301 : decode cX0_locked 301 = .ok (.aload_n 3, 1) := dk_45 (dk_at dksX0_locked_12 21 rfl rfl)
theorem dX0_locked_302 : decode cX0_locked 302 = .ok (.iconst 4, 1) := dk_7 (dk_at dksX0_locked_12 22 rfl rfl)
theorem dX0_locked_303 : decode cX0_locked 303 = .ok (.dup2, 1) := dk_92 (dk_at dksX0_locked_12 23 rfl rfl)
theorem dX0_locked_304 : decode cX0_locked 304 = .ok (.iaload, 1) := dk_46 (dk_at dksX0_locked_13 0 rfl rfl)
theorem dX0_locked_305 : decode cX0_locked 305 = .ok (.iload 7, 2) := dk_21 7 (dk_at dksX0_locked_13 1 rfl rfl)
theorem dX0_locked_307 : decode cX0_locked 307 = .ok (.iadd, 1) := dk_96 (dk_at dksX0_locked_13 3 rfl rfl)
theorem dX0_locked_308 : decode cX0_locked 308 = .ok (.iastore, 1) := dk_79 (dk_at dksX0_locked_13 4 rfl rfl)
theorem dX0_locked_309 : decode cX0_locked 309 = .ok (.aload_n 3, 1) := dk_45 (dk_at dksX0_locked_13 5 rfl rfl)
theorem dX0_locked_310 : decode cX0_locked 310 = .ok (.iconst 0, 1) := dk_3 (dk_at dksX0_locked_13 6 rfl rfl)
theorem dX0_locked_311 : decode cX0_locked 311 = .ok (.iload 7, 2) := dk_21 7 (dk_at dksX0_locked_13 7 rfl rfl)
theorem dX0_locked_313 : decode cX0_locked 313 = .ok (.iload 8, 2) := dk_21 8 (dk_at dksX0_locked_13 9 rfl rfl)
theorem dX0_locked_315 : decode cX0_locked 315 = .ok (.iadd, 1) := dk_96 (dk_at dksX0_locked_13 11 rfl rfl)
theorem dX0_locked_316 : decode cX0_locked 316 = .ok (.iastore, 1) := dk_79 (dk_at dksX0_locked_13 12 rfl rfl)
theorem dX0_locked_317 : decode cX0_locked 317 = .ok (.iinc 4 1, 3) := dk_132 4 1 (dk_at dksX0_locked_13 13 rfl rfl)
theorem dX0_locked_320 : decode cX0_locked 320 = .ok (.goto (-166), 3) := dk_167 255 90 (dk_at dksX0_locked_13 16 rfl rfl)
theorem dX0_locked_323 : decode cX0_locked 323 = .ok (.aload_n 3, 1) := dk_45 (dk_at dksX0_locked_13 19 rfl rfl)
theorem dX0_locked_324 : decode cX0_locked 324 = .ok (.areturn, 1) := dk_176 (dk_at dksX0_locked_13 20 rfl rfl)
abbrev cX0_turned : ByteArray := method_3_code
def yX0_turned : MethodName := ⟨RX0, "turned", "(II)I"⟩
def dkwX0_turned_0 : List UInt8 := [26, 27, 124, 26, 16, 32, 27, 100, 120, 128, 172]
abbrev dktX0_turned_0 : List UInt8 := dkwX0_turned_0 ++ []
theorem dksX0_turned_0 : cX0_turned.data.toList.drop 0 = dktX0_turned_0 := by decide +kernel
theorem dX0_turned_0 : decode cX0_turned 0 = .ok (.iload_n 0, 1) := dk_26 (dk_at dksX0_turned_0 0 rfl rfl)
theorem dX0_turned_1 : decode cX0_turned 1 = .ok (.iload_n 1, 1) := dk_27 (dk_at dksX0_turned_0 1 rfl rfl)
theorem dX0_turned_2 : decode cX0_turned 2 = .ok (.iushr, 1) := dk_124 (dk_at dksX0_turned_0 2 rfl rfl)
theorem dX0_turned_3 : decode cX0_turned 3 = .ok (.iload_n 0, 1) := dk_26 (dk_at dksX0_turned_0 3 rfl rfl)
theorem dX0_turned_4 : decode cX0_turned 4 = .ok (.bipush 32, 2) := dk_16 32 (dk_at dksX0_turned_0 4 rfl rfl)
theorem dX0_turned_6 : decode cX0_turned 6 = .ok (.iload_n 1, 1) := dk_27 (dk_at dksX0_turned_0 6 rfl rfl)
theorem dX0_turned_7 : decode cX0_turned 7 = .ok (.isub, 1) := dk_100 (dk_at dksX0_turned_0 7 rfl rfl)
theorem dX0_turned_8 : decode cX0_turned 8 = .ok (.ishl, 1) := dk_120 (dk_at dksX0_turned_0 8 rfl rfl)
theorem dX0_turned_9 : decode cX0_turned 9 = .ok (.ior, 1) := dk_128 (dk_at dksX0_turned_0 9 rfl rfl)
theorem dX0_turned_10 : decode cX0_turned 10 = .ok (.ireturn, 1) := dk_172 (dk_at dksX0_turned_0 10 rfl rfl)
abbrev cX0_out : ByteArray := method_5_code
def yX0_out : MethodName := ⟨RX0, "out", "(LShacalDesk;I)[I"⟩
def dkwX0_out_3 : List UInt8 := [21, 4, 128, 79, 132, 3, 1, 167, 255, 188, 44, 176]
abbrev dktX0_out_3 : List UInt8 := dkwX0_out_3 ++ []
def dkwX0_out_2 : List UInt8 := [182, 0, 17, 21, 4, 159, 0, 7, 3, 188, 10, 176, 44, 29, 7, 108, 44, 29, 7, 108, 46, 16, 8, 120]
abbrev dktX0_out_2 : List UInt8 := dkwX0_out_2 ++ dktX0_out_3
def dkwX0_out_1 : List UInt8 := [155, 0, 30, 21, 4, 17, 0, 255, 163, 0, 22, 42, 29, 16, 32, 27, 17, 3, 232, 112, 104, 96]
abbrev dktX0_out_1 : List UInt8 := dkwX0_out_1 ++ dktX0_out_2
def dkwX0_out_0 : List UInt8 := [16, 8, 188, 10, 77, 3, 62, 29, 16, 32, 162, 0, 68, 42, 29, 182, 0, 17, 54, 4, 21, 4]
abbrev dktX0_out_0 : List UInt8 := dkwX0_out_0 ++ dktX0_out_1
theorem dksX0_out_0 : cX0_out.data.toList.drop 0 = dktX0_out_0 := by decide +kernel
theorem dksX0_out_1 : cX0_out.data.toList.drop 22 = dktX0_out_1 := dk_seg dksX0_out_0 22 rfl rfl
theorem dksX0_out_2 : cX0_out.data.toList.drop 44 = dktX0_out_2 := dk_seg dksX0_out_1 22 rfl rfl
theorem dksX0_out_3 : cX0_out.data.toList.drop 68 = dktX0_out_3 := dk_seg dksX0_out_2 24 rfl rfl
theorem dX0_out_0 : decode cX0_out 0 = .ok (.bipush 8, 2) := dk_16 8 (dk_at dksX0_out_0 0 rfl rfl)
theorem dX0_out_2 : decode cX0_out 2 = .ok (.newarray .int, 2) := dk_188_10 (dk_at dksX0_out_0 2 rfl rfl)
theorem dX0_out_4 : decode cX0_out 4 = .ok (.astore_n 2, 1) := dk_77 (dk_at dksX0_out_0 4 rfl rfl)
theorem dX0_out_5 : decode cX0_out 5 = .ok (.iconst 0, 1) := dk_3 (dk_at dksX0_out_0 5 rfl rfl)
theorem dX0_out_6 : decode cX0_out 6 = .ok (.istore_n 3, 1) := dk_62 (dk_at dksX0_out_0 6 rfl rfl)
theorem dX0_out_7 : decode cX0_out 7 = .ok (.iload_n 3, 1) := dk_29 (dk_at dksX0_out_0 7 rfl rfl)
theorem dX0_out_8 : decode cX0_out 8 = .ok (.bipush 32, 2) := dk_16 32 (dk_at dksX0_out_0 8 rfl rfl)
theorem dX0_out_10 : decode cX0_out 10 = .ok (.if_icmp .ge 68, 3) := dk_162 0 68 (dk_at dksX0_out_0 10 rfl rfl)
theorem dX0_out_13 : decode cX0_out 13 = .ok (.aload_n 0, 1) := dk_42 (dk_at dksX0_out_0 13 rfl rfl)
theorem dX0_out_14 : decode cX0_out 14 = .ok (.iload_n 3, 1) := dk_29 (dk_at dksX0_out_0 14 rfl rfl)
theorem dX0_out_15 : decode cX0_out 15 = .ok (.invokevirtual 17, 3) := dk_182 0 17 (dk_at dksX0_out_0 15 rfl rfl)
theorem dX0_out_18 : decode cX0_out 18 = .ok (.istore 4, 2) := dk_54 4 (dk_at dksX0_out_0 18 rfl rfl)
theorem dX0_out_20 : decode cX0_out 20 = .ok (.iload 4, 2) := dk_21 4 (dk_at dksX0_out_0 20 rfl rfl)
theorem dX0_out_22 : decode cX0_out 22 = .ok (.ifCond .lt 30, 3) := dk_155 0 30 (dk_at dksX0_out_1 0 rfl rfl)
theorem dX0_out_25 : decode cX0_out 25 = .ok (.iload 4, 2) := dk_21 4 (dk_at dksX0_out_1 3 rfl rfl)
theorem dX0_out_27 : decode cX0_out 27 = .ok (.sipush 255, 3) := dk_17 0 255 (dk_at dksX0_out_1 5 rfl rfl)
theorem dX0_out_30 : decode cX0_out 30 = .ok (.if_icmp .gt 22, 3) := dk_163 0 22 (dk_at dksX0_out_1 8 rfl rfl)
theorem dX0_out_33 : decode cX0_out 33 = .ok (.aload_n 0, 1) := dk_42 (dk_at dksX0_out_1 11 rfl rfl)
theorem dX0_out_34 : decode cX0_out 34 = .ok (.iload_n 3, 1) := dk_29 (dk_at dksX0_out_1 12 rfl rfl)
theorem dX0_out_35 : decode cX0_out 35 = .ok (.bipush 32, 2) := dk_16 32 (dk_at dksX0_out_1 13 rfl rfl)
theorem dX0_out_37 : decode cX0_out 37 = .ok (.iload_n 1, 1) := dk_27 (dk_at dksX0_out_1 15 rfl rfl)
theorem dX0_out_38 : decode cX0_out 38 = .ok (.sipush 1000, 3) := dk_17 3 232 (dk_at dksX0_out_1 16 rfl rfl)
theorem dX0_out_41 : decode cX0_out 41 = .ok (.irem, 1) := dk_112 (dk_at dksX0_out_1 19 rfl rfl)
theorem dX0_out_42 : decode cX0_out 42 = .ok (.imul, 1) := dk_104 (dk_at dksX0_out_1 20 rfl rfl)
theorem dX0_out_43 : decode cX0_out 43 = .ok (.iadd, 1) := dk_96 (dk_at dksX0_out_1 21 rfl rfl)
theorem dX0_out_44 : decode cX0_out 44 = .ok (.invokevirtual 17, 3) := dk_182 0 17 (dk_at dksX0_out_2 0 rfl rfl)
theorem dX0_out_47 : decode cX0_out 47 = .ok (.iload 4, 2) := dk_21 4 (dk_at dksX0_out_2 3 rfl rfl)
theorem dX0_out_49 : decode cX0_out 49 = .ok (.if_icmp .eq 7, 3) := dk_159 0 7 (dk_at dksX0_out_2 5 rfl rfl)
theorem dX0_out_52 : decode cX0_out 52 = .ok (.iconst 0, 1) := dk_3 (dk_at dksX0_out_2 8 rfl rfl)
theorem dX0_out_53 : decode cX0_out 53 = .ok (.newarray .int, 2) := dk_188_10 (dk_at dksX0_out_2 9 rfl rfl)
theorem dX0_out_55 : decode cX0_out 55 = .ok (.areturn, 1) := dk_176 (dk_at dksX0_out_2 11 rfl rfl)
theorem dX0_out_56 : decode cX0_out 56 = .ok (.aload_n 2, 1) := dk_44 (dk_at dksX0_out_2 12 rfl rfl)
theorem dX0_out_57 : decode cX0_out 57 = .ok (.iload_n 3, 1) := dk_29 (dk_at dksX0_out_2 13 rfl rfl)
theorem dX0_out_58 : decode cX0_out 58 = .ok (.iconst 4, 1) := dk_7 (dk_at dksX0_out_2 14 rfl rfl)
theorem dX0_out_59 : decode cX0_out 59 = .ok (.idiv, 1) := dk_108 (dk_at dksX0_out_2 15 rfl rfl)
theorem dX0_out_60 : decode cX0_out 60 = .ok (.aload_n 2, 1) := dk_44 (dk_at dksX0_out_2 16 rfl rfl)
theorem dX0_out_61 : decode cX0_out 61 = .ok (.iload_n 3, 1) := dk_29 (dk_at dksX0_out_2 17 rfl rfl)
theorem dX0_out_62 : decode cX0_out 62 = .ok (.iconst 4, 1) := dk_7 (dk_at dksX0_out_2 18 rfl rfl)
theorem dX0_out_63 : decode cX0_out 63 = .ok (.idiv, 1) := dk_108 (dk_at dksX0_out_2 19 rfl rfl)
theorem dX0_out_64 : decode cX0_out 64 = .ok (.iaload, 1) := dk_46 (dk_at dksX0_out_2 20 rfl rfl)
theorem dX0_out_65 : decode cX0_out 65 = .ok (.bipush 8, 2) := dk_16 8 (dk_at dksX0_out_2 21 rfl rfl)
theorem dX0_out_67 : decode cX0_out 67 = .ok (.ishl, 1) := dk_120 (dk_at dksX0_out_2 23 rfl rfl)
theorem dX0_out_68 : decode cX0_out 68 = .ok (.iload 4, 2) := dk_21 4 (dk_at dksX0_out_3 0 rfl rfl)
theorem dX0_out_70 : decode cX0_out 70 = .ok (.ior, 1) := dk_128 (dk_at dksX0_out_3 2 rfl rfl)
theorem dX0_out_71 : decode cX0_out 71 = .ok (.iastore, 1) := dk_79 (dk_at dksX0_out_3 3 rfl rfl)
theorem dX0_out_72 : decode cX0_out 72 = .ok (.iinc 3 1, 3) := dk_132 3 1 (dk_at dksX0_out_3 4 rfl rfl)
theorem dX0_out_75 : decode cX0_out 75 = .ok (.goto (-68), 3) := dk_167 255 188 (dk_at dksX0_out_3 7 rfl rfl)
theorem dX0_out_78 : decode cX0_out 78 = .ok (.aload_n 2, 1) := dk_44 (dk_at dksX0_out_3 10 rfl rfl)
theorem dX0_out_79 : decode cX0_out 79 = .ok (.areturn, 1) := dk_176 (dk_at dksX0_out_3 11 rfl rfl)
abbrev cX0_same : ByteArray := method_6_code
def yX0_same : MethodName := ⟨RX0, "same", "([I[I)Z"⟩
def dkwX0_same_2 : List UInt8 := [28, 172]
abbrev dktX0_same_2 : List UInt8 := dkwX0_same_2 ++ []
def dkwX0_same_1 : List UInt8 := [153, 0, 24, 42, 29, 46, 43, 29, 46, 160, 0, 7, 4, 167, 0, 4, 3, 61, 132, 3, 1, 167, 255, 228]
abbrev dktX0_same_1 : List UInt8 := dkwX0_same_1 ++ dktX0_same_2
def dkwX0_same_0 : List UInt8 := [42, 190, 43, 190, 160, 0, 7, 4, 167, 0, 4, 3, 61, 3, 62, 29, 42, 190, 162, 0, 28, 28]
abbrev dktX0_same_0 : List UInt8 := dkwX0_same_0 ++ dktX0_same_1
theorem dksX0_same_0 : cX0_same.data.toList.drop 0 = dktX0_same_0 := by decide +kernel
theorem dksX0_same_1 : cX0_same.data.toList.drop 22 = dktX0_same_1 := dk_seg dksX0_same_0 22 rfl rfl
theorem dksX0_same_2 : cX0_same.data.toList.drop 46 = dktX0_same_2 := dk_seg dksX0_same_1 24 rfl rfl
theorem dX0_same_0 : decode cX0_same 0 = .ok (.aload_n 0, 1) := dk_42 (dk_at dksX0_same_0 0 rfl rfl)
theorem dX0_same_1 : decode cX0_same 1 = .ok (.arraylength, 1) := dk_190 (dk_at dksX0_same_0 1 rfl rfl)
theorem dX0_same_2 : decode cX0_same 2 = .ok (.aload_n 1, 1) := dk_43 (dk_at dksX0_same_0 2 rfl rfl)
theorem dX0_same_3 : decode cX0_same 3 = .ok (.arraylength, 1) := dk_190 (dk_at dksX0_same_0 3 rfl rfl)
theorem dX0_same_4 : decode cX0_same 4 = .ok (.if_icmp .ne 7, 3) := dk_160 0 7 (dk_at dksX0_same_0 4 rfl rfl)
theorem dX0_same_7 : decode cX0_same 7 = .ok (.iconst 1, 1) := dk_4 (dk_at dksX0_same_0 7 rfl rfl)
theorem dX0_same_8 : decode cX0_same 8 = .ok (.goto 4, 3) := dk_167 0 4 (dk_at dksX0_same_0 8 rfl rfl)
theorem dX0_same_11 : decode cX0_same 11 = .ok (.iconst 0, 1) := dk_3 (dk_at dksX0_same_0 11 rfl rfl)
theorem dX0_same_12 : decode cX0_same 12 = .ok (.istore_n 2, 1) := dk_61 (dk_at dksX0_same_0 12 rfl rfl)
theorem dX0_same_13 : decode cX0_same 13 = .ok (.iconst 0, 1) := dk_3 (dk_at dksX0_same_0 13 rfl rfl)
theorem dX0_same_14 : decode cX0_same 14 = .ok (.istore_n 3, 1) := dk_62 (dk_at dksX0_same_0 14 rfl rfl)
theorem dX0_same_15 : decode cX0_same 15 = .ok (.iload_n 3, 1) := dk_29 (dk_at dksX0_same_0 15 rfl rfl)
theorem dX0_same_16 : decode cX0_same 16 = .ok (.aload_n 0, 1) := dk_42 (dk_at dksX0_same_0 16 rfl rfl)
theorem dX0_same_17 : decode cX0_same 17 = .ok (.arraylength, 1) := dk_190 (dk_at dksX0_same_0 17 rfl rfl)
theorem dX0_same_18 : decode cX0_same 18 = .ok (.if_icmp .ge 28, 3) := dk_162 0 28 (dk_at dksX0_same_0 18 rfl rfl)
theorem dX0_same_21 : decode cX0_same 21 = .ok (.iload_n 2, 1) := dk_28 (dk_at dksX0_same_0 21 rfl rfl)
theorem dX0_same_22 : decode cX0_same 22 = .ok (.ifCond .eq 24, 3) := dk_153 0 24 (dk_at dksX0_same_1 0 rfl rfl)
theorem dX0_same_25 : decode cX0_same 25 = .ok (.aload_n 0, 1) := dk_42 (dk_at dksX0_same_1 3 rfl rfl)
theorem dX0_same_26 : decode cX0_same 26 = .ok (.iload_n 3, 1) := dk_29 (dk_at dksX0_same_1 4 rfl rfl)
theorem dX0_same_27 : decode cX0_same 27 = .ok (.iaload, 1) := dk_46 (dk_at dksX0_same_1 5 rfl rfl)
theorem dX0_same_28 : decode cX0_same 28 = .ok (.aload_n 1, 1) := dk_43 (dk_at dksX0_same_1 6 rfl rfl)
theorem dX0_same_29 : decode cX0_same 29 = .ok (.iload_n 3, 1) := dk_29 (dk_at dksX0_same_1 7 rfl rfl)
theorem dX0_same_30 : decode cX0_same 30 = .ok (.iaload, 1) := dk_46 (dk_at dksX0_same_1 8 rfl rfl)
theorem dX0_same_31 : decode cX0_same 31 = .ok (.if_icmp .ne 7, 3) := dk_160 0 7 (dk_at dksX0_same_1 9 rfl rfl)
theorem dX0_same_34 : decode cX0_same 34 = .ok (.iconst 1, 1) := dk_4 (dk_at dksX0_same_1 12 rfl rfl)
theorem dX0_same_35 : decode cX0_same 35 = .ok (.goto 4, 3) := dk_167 0 4 (dk_at dksX0_same_1 13 rfl rfl)
theorem dX0_same_38 : decode cX0_same 38 = .ok (.iconst 0, 1) := dk_3 (dk_at dksX0_same_1 16 rfl rfl)
theorem dX0_same_39 : decode cX0_same 39 = .ok (.istore_n 2, 1) := dk_61 (dk_at dksX0_same_1 17 rfl rfl)
theorem dX0_same_40 : decode cX0_same 40 = .ok (.iinc 3 1, 3) := dk_132 3 1 (dk_at dksX0_same_1 18 rfl rfl)
theorem dX0_same_43 : decode cX0_same 43 = .ok (.goto (-28), 3) := dk_167 255 228 (dk_at dksX0_same_1 21 rfl rfl)
theorem dX0_same_46 : decode cX0_same 46 = .ok (.iload_n 2, 1) := dk_28 (dk_at dksX0_same_2 0 rfl rfl)
theorem dX0_same_47 : decode cX0_same 47 = .ok (.ireturn, 1) := dk_172 (dk_at dksX0_same_2 1 rfl rfl)
abbrev cX0_lays : ByteArray := method_7_code
def yX0_lays : MethodName := ⟨RX0, "lays", "(LShacalDesk;[IIIIII)V"⟩
def dkwX0_lays_2 : List UInt8 := [177]
abbrev dktX0_lays_2 : List UInt8 := dkwX0_lays_2 ++ []
def dkwX0_lays_1 : List UInt8 := [43, 21, 7, 4, 96, 21, 4, 79, 43, 21, 7, 5, 96, 21, 5, 79, 43, 21, 7, 6, 96, 21, 6, 79]
abbrev dktX0_lays_1 : List UInt8 := dkwX0_lays_1 ++ dktX0_lays_2
def dkwX0_lays_0 : List UInt8 := [42, 28, 29, 21, 4, 21, 5, 21, 6, 182, 0, 23, 7, 28, 6, 126, 104, 54, 7, 43, 21, 7, 29, 79]
abbrev dktX0_lays_0 : List UInt8 := dkwX0_lays_0 ++ dktX0_lays_1
theorem dksX0_lays_0 : cX0_lays.data.toList.drop 0 = dktX0_lays_0 := by decide +kernel
theorem dksX0_lays_1 : cX0_lays.data.toList.drop 24 = dktX0_lays_1 := dk_seg dksX0_lays_0 24 rfl rfl
theorem dksX0_lays_2 : cX0_lays.data.toList.drop 48 = dktX0_lays_2 := dk_seg dksX0_lays_1 24 rfl rfl
theorem dX0_lays_0 : decode cX0_lays 0 = .ok (.aload_n 0, 1) := dk_42 (dk_at dksX0_lays_0 0 rfl rfl)
theorem dX0_lays_1 : decode cX0_lays 1 = .ok (.iload_n 2, 1) := dk_28 (dk_at dksX0_lays_0 1 rfl rfl)
theorem dX0_lays_2 : decode cX0_lays 2 = .ok (.iload_n 3, 1) := dk_29 (dk_at dksX0_lays_0 2 rfl rfl)
theorem dX0_lays_3 : decode cX0_lays 3 = .ok (.iload 4, 2) := dk_21 4 (dk_at dksX0_lays_0 3 rfl rfl)
theorem dX0_lays_5 : decode cX0_lays 5 = .ok (.iload 5, 2) := dk_21 5 (dk_at dksX0_lays_0 5 rfl rfl)
theorem dX0_lays_7 : decode cX0_lays 7 = .ok (.iload 6, 2) := dk_21 6 (dk_at dksX0_lays_0 7 rfl rfl)
theorem dX0_lays_9 : decode cX0_lays 9 = .ok (.invokevirtual 23, 3) := dk_182 0 23 (dk_at dksX0_lays_0 9 rfl rfl)
theorem dX0_lays_12 : decode cX0_lays 12 = .ok (.iconst 4, 1) := dk_7 (dk_at dksX0_lays_0 12 rfl rfl)
theorem dX0_lays_13 : decode cX0_lays 13 = .ok (.iload_n 2, 1) := dk_28 (dk_at dksX0_lays_0 13 rfl rfl)
theorem dX0_lays_14 : decode cX0_lays 14 = .ok (.iconst 3, 1) := dk_6 (dk_at dksX0_lays_0 14 rfl rfl)
theorem dX0_lays_15 : decode cX0_lays 15 = .ok (.iand, 1) := dk_126 (dk_at dksX0_lays_0 15 rfl rfl)
theorem dX0_lays_16 : decode cX0_lays 16 = .ok (.imul, 1) := dk_104 (dk_at dksX0_lays_0 16 rfl rfl)
theorem dX0_lays_17 : decode cX0_lays 17 = .ok (.istore 7, 2) := dk_54 7 (dk_at dksX0_lays_0 17 rfl rfl)
theorem dX0_lays_19 : decode cX0_lays 19 = .ok (.aload_n 1, 1) := dk_43 (dk_at dksX0_lays_0 19 rfl rfl)
theorem dX0_lays_20 : decode cX0_lays 20 = .ok (.iload 7, 2) := dk_21 7 (dk_at dksX0_lays_0 20 rfl rfl)
theorem dX0_lays_22 : decode cX0_lays 22 = .ok (.iload_n 3, 1) := dk_29 (dk_at dksX0_lays_0 22 rfl rfl)
theorem dX0_lays_23 : decode cX0_lays 23 = .ok (.iastore, 1) := dk_79 (dk_at dksX0_lays_0 23 rfl rfl)
theorem dX0_lays_24 : decode cX0_lays 24 = .ok (.aload_n 1, 1) := dk_43 (dk_at dksX0_lays_1 0 rfl rfl)
theorem dX0_lays_25 : decode cX0_lays 25 = .ok (.iload 7, 2) := dk_21 7 (dk_at dksX0_lays_1 1 rfl rfl)
theorem dX0_lays_27 : decode cX0_lays 27 = .ok (.iconst 1, 1) := dk_4 (dk_at dksX0_lays_1 3 rfl rfl)
theorem dX0_lays_28 : decode cX0_lays 28 = .ok (.iadd, 1) := dk_96 (dk_at dksX0_lays_1 4 rfl rfl)
theorem dX0_lays_29 : decode cX0_lays 29 = .ok (.iload 4, 2) := dk_21 4 (dk_at dksX0_lays_1 5 rfl rfl)
theorem dX0_lays_31 : decode cX0_lays 31 = .ok (.iastore, 1) := dk_79 (dk_at dksX0_lays_1 7 rfl rfl)
theorem dX0_lays_32 : decode cX0_lays 32 = .ok (.aload_n 1, 1) := dk_43 (dk_at dksX0_lays_1 8 rfl rfl)
theorem dX0_lays_33 : decode cX0_lays 33 = .ok (.iload 7, 2) := dk_21 7 (dk_at dksX0_lays_1 9 rfl rfl)
theorem dX0_lays_35 : decode cX0_lays 35 = .ok (.iconst 2, 1) := dk_5 (dk_at dksX0_lays_1 11 rfl rfl)
theorem dX0_lays_36 : decode cX0_lays 36 = .ok (.iadd, 1) := dk_96 (dk_at dksX0_lays_1 12 rfl rfl)
theorem dX0_lays_37 : decode cX0_lays 37 = .ok (.iload 5, 2) := dk_21 5 (dk_at dksX0_lays_1 13 rfl rfl)
theorem dX0_lays_39 : decode cX0_lays 39 = .ok (.iastore, 1) := dk_79 (dk_at dksX0_lays_1 15 rfl rfl)
theorem dX0_lays_40 : decode cX0_lays 40 = .ok (.aload_n 1, 1) := dk_43 (dk_at dksX0_lays_1 16 rfl rfl)
theorem dX0_lays_41 : decode cX0_lays 41 = .ok (.iload 7, 2) := dk_21 7 (dk_at dksX0_lays_1 17 rfl rfl)
theorem dX0_lays_43 : decode cX0_lays 43 = .ok (.iconst 3, 1) := dk_6 (dk_at dksX0_lays_1 19 rfl rfl)
theorem dX0_lays_44 : decode cX0_lays 44 = .ok (.iadd, 1) := dk_96 (dk_at dksX0_lays_1 20 rfl rfl)
theorem dX0_lays_45 : decode cX0_lays 45 = .ok (.iload 6, 2) := dk_21 6 (dk_at dksX0_lays_1 21 rfl rfl)
theorem dX0_lays_47 : decode cX0_lays 47 = .ok (.iastore, 1) := dk_79 (dk_at dksX0_lays_1 23 rfl rfl)
theorem dX0_lays_48 : decode cX0_lays 48 = .ok (.return_, 1) := dk_177 (dk_at dksX0_lays_2 0 rfl rfl)
abbrev cX0_puts : ByteArray := method_8_code
def yX0_puts : MethodName := ⟨RX0, "puts", "(LShacalDesk;[IIIIII)V"⟩
def dkwX0_puts_2 : List UInt8 := [177]
abbrev dktX0_puts_2 : List UInt8 := dkwX0_puts_2 ++ []
def dkwX0_puts_1 : List UInt8 := [43, 21, 7, 4, 96, 21, 4, 79, 43, 21, 7, 5, 96, 21, 5, 79, 43, 21, 7, 6, 96, 21, 6, 79]
abbrev dktX0_puts_1 : List UInt8 := dkwX0_puts_1 ++ dktX0_puts_2
def dkwX0_puts_0 : List UInt8 := [42, 28, 29, 21, 4, 21, 5, 21, 6, 182, 0, 27, 7, 28, 4, 126, 104, 54, 7, 43, 21, 7, 29, 79]
abbrev dktX0_puts_0 : List UInt8 := dkwX0_puts_0 ++ dktX0_puts_1
theorem dksX0_puts_0 : cX0_puts.data.toList.drop 0 = dktX0_puts_0 := by decide +kernel
theorem dksX0_puts_1 : cX0_puts.data.toList.drop 24 = dktX0_puts_1 := dk_seg dksX0_puts_0 24 rfl rfl
theorem dksX0_puts_2 : cX0_puts.data.toList.drop 48 = dktX0_puts_2 := dk_seg dksX0_puts_1 24 rfl rfl
theorem dX0_puts_0 : decode cX0_puts 0 = .ok (.aload_n 0, 1) := dk_42 (dk_at dksX0_puts_0 0 rfl rfl)
theorem dX0_puts_1 : decode cX0_puts 1 = .ok (.iload_n 2, 1) := dk_28 (dk_at dksX0_puts_0 1 rfl rfl)
theorem dX0_puts_2 : decode cX0_puts 2 = .ok (.iload_n 3, 1) := dk_29 (dk_at dksX0_puts_0 2 rfl rfl)
theorem dX0_puts_3 : decode cX0_puts 3 = .ok (.iload 4, 2) := dk_21 4 (dk_at dksX0_puts_0 3 rfl rfl)
theorem dX0_puts_5 : decode cX0_puts 5 = .ok (.iload 5, 2) := dk_21 5 (dk_at dksX0_puts_0 5 rfl rfl)
theorem dX0_puts_7 : decode cX0_puts 7 = .ok (.iload 6, 2) := dk_21 6 (dk_at dksX0_puts_0 7 rfl rfl)
theorem dX0_puts_9 : decode cX0_puts 9 = .ok (.invokevirtual 27, 3) := dk_182 0 27 (dk_at dksX0_puts_0 9 rfl rfl)
theorem dX0_puts_12 : decode cX0_puts 12 = .ok (.iconst 4, 1) := dk_7 (dk_at dksX0_puts_0 12 rfl rfl)
theorem dX0_puts_13 : decode cX0_puts 13 = .ok (.iload_n 2, 1) := dk_28 (dk_at dksX0_puts_0 13 rfl rfl)
theorem dX0_puts_14 : decode cX0_puts 14 = .ok (.iconst 1, 1) := dk_4 (dk_at dksX0_puts_0 14 rfl rfl)
theorem dX0_puts_15 : decode cX0_puts 15 = .ok (.iand, 1) := dk_126 (dk_at dksX0_puts_0 15 rfl rfl)
theorem dX0_puts_16 : decode cX0_puts 16 = .ok (.imul, 1) := dk_104 (dk_at dksX0_puts_0 16 rfl rfl)
theorem dX0_puts_17 : decode cX0_puts 17 = .ok (.istore 7, 2) := dk_54 7 (dk_at dksX0_puts_0 17 rfl rfl)
theorem dX0_puts_19 : decode cX0_puts 19 = .ok (.aload_n 1, 1) := dk_43 (dk_at dksX0_puts_0 19 rfl rfl)
theorem dX0_puts_20 : decode cX0_puts 20 = .ok (.iload 7, 2) := dk_21 7 (dk_at dksX0_puts_0 20 rfl rfl)
theorem dX0_puts_22 : decode cX0_puts 22 = .ok (.iload_n 3, 1) := dk_29 (dk_at dksX0_puts_0 22 rfl rfl)
theorem dX0_puts_23 : decode cX0_puts 23 = .ok (.iastore, 1) := dk_79 (dk_at dksX0_puts_0 23 rfl rfl)
theorem dX0_puts_24 : decode cX0_puts 24 = .ok (.aload_n 1, 1) := dk_43 (dk_at dksX0_puts_1 0 rfl rfl)
theorem dX0_puts_25 : decode cX0_puts 25 = .ok (.iload 7, 2) := dk_21 7 (dk_at dksX0_puts_1 1 rfl rfl)
theorem dX0_puts_27 : decode cX0_puts 27 = .ok (.iconst 1, 1) := dk_4 (dk_at dksX0_puts_1 3 rfl rfl)
theorem dX0_puts_28 : decode cX0_puts 28 = .ok (.iadd, 1) := dk_96 (dk_at dksX0_puts_1 4 rfl rfl)
theorem dX0_puts_29 : decode cX0_puts 29 = .ok (.iload 4, 2) := dk_21 4 (dk_at dksX0_puts_1 5 rfl rfl)
theorem dX0_puts_31 : decode cX0_puts 31 = .ok (.iastore, 1) := dk_79 (dk_at dksX0_puts_1 7 rfl rfl)
theorem dX0_puts_32 : decode cX0_puts 32 = .ok (.aload_n 1, 1) := dk_43 (dk_at dksX0_puts_1 8 rfl rfl)
theorem dX0_puts_33 : decode cX0_puts 33 = .ok (.iload 7, 2) := dk_21 7 (dk_at dksX0_puts_1 9 rfl rfl)
theorem dX0_puts_35 : decode cX0_puts 35 = .ok (.iconst 2, 1) := dk_5 (dk_at dksX0_puts_1 11 rfl rfl)
theorem dX0_puts_36 : decode cX0_puts 36 = .ok (.iadd, 1) := dk_96 (dk_at dksX0_puts_1 12 rfl rfl)
theorem dX0_puts_37 : decode cX0_puts 37 = .ok (.iload 5, 2) := dk_21 5 (dk_at dksX0_puts_1 13 rfl rfl)
theorem dX0_puts_39 : decode cX0_puts 39 = .ok (.iastore, 1) := dk_79 (dk_at dksX0_puts_1 15 rfl rfl)
theorem dX0_puts_40 : decode cX0_puts 40 = .ok (.aload_n 1, 1) := dk_43 (dk_at dksX0_puts_1 16 rfl rfl)
theorem dX0_puts_41 : decode cX0_puts 41 = .ok (.iload 7, 2) := dk_21 7 (dk_at dksX0_puts_1 17 rfl rfl)
theorem dX0_puts_43 : decode cX0_puts 43 = .ok (.iconst 3, 1) := dk_6 (dk_at dksX0_puts_1 19 rfl rfl)
theorem dX0_puts_44 : decode cX0_puts 44 = .ok (.iadd, 1) := dk_96 (dk_at dksX0_puts_1 20 rfl rfl)
theorem dX0_puts_45 : decode cX0_puts 45 = .ok (.iload 6, 2) := dk_21 6 (dk_at dksX0_puts_1 21 rfl rfl)
theorem dX0_puts_47 : decode cX0_puts 47 = .ok (.iastore, 1) := dk_79 (dk_at dksX0_puts_1 23 rfl rfl)
theorem dX0_puts_48 : decode cX0_puts 48 = .ok (.return_, 1) := dk_177 (dk_at dksX0_puts_2 0 rfl rfl)
theorem q7 : (Jvm.Cond.initialized "ShacalDeskLaw") ∈ lw_all := lw_g (lw_at lw_m1 0 rfl) rfl
theorem q20 : (Jvm.Cond.classLink "ShacalDeskLaw" (18 : Nat) "ShacalDesk") ∈ lw_all := lw_g (lw_at lw_m1 13 rfl) rfl
theorem q22 : (Jvm.Cond.methodLink "ShacalDeskLaw" (30 : Nat) ({ cls := "ShacalDesk", name := "<init>", desc := "()V" } : Jvm.MethodName)) ∈ lw_all := lw_g (lw_at lw_m1 15 rfl) rfl
theorem q39 : (Jvm.Cond.methodLink "ShacalDeskLaw" (57 : Nat) ({ cls := "ShacalDesk", name := "lock", desc := "(I)V" } : Jvm.MethodName)) ∈ lw_all := lw_g (lw_at lw_m1 32 rfl) rfl
theorem q252 : (Jvm.Cond.methodLink "ShacalDeskLaw" (53 : Nat) ({ cls := "ShacalDesk", name := "open", desc := "(I)V" } : Jvm.MethodName)) ∈ lw_all := lw_g (lw_at lw_m2 5 rfl) rfl
theorem q256 : (Jvm.Cond.methodLink "ShacalDeskLaw" (60 : Nat) ({ cls := "ShacalDesk", name := "again", desc := "()V" } : Jvm.MethodName)) ∈ lw_all := lw_g (lw_at lw_m2 9 rfl) rfl
theorem q260 : (Jvm.Cond.methodLink "ShacalDeskLaw" (31 : Nat) ({ cls := "ShacalDeskLaw", name := "cell", desc := "([II)I" } : Jvm.MethodName)) ∈ lw_all := lw_g (lw_at lw_m2 13 rfl) rfl
theorem q261 : (Jvm.Cond.static ({ cls := "ShacalDeskLaw", name := "cell", desc := "([II)I" } : Jvm.MethodName)) ∈ lw_all := lw_g (lw_at lw_m2 14 rfl) rfl
theorem q262 : (Jvm.Cond.code ({ cls := "ShacalDeskLaw", name := "cell", desc := "([II)I" } : Jvm.MethodName) method_2_code (2 : Nat) (Option.some Jvm.ClassFile.FieldType.int)) ∈ lw_all := lw_g (lw_at lw_m2 15 rfl) rfl
theorem q263 : (Jvm.Cond.methodLink "ShacalDeskLaw" (49 : Nat) ({ cls := "ShacalDeskLaw", name := "locked", desc := "([I[I)[I" } : Jvm.MethodName)) ∈ lw_all := lw_g (lw_at lw_m2 16 rfl) rfl
theorem q264 : (Jvm.Cond.static ({ cls := "ShacalDeskLaw", name := "locked", desc := "([I[I)[I" } : Jvm.MethodName)) ∈ lw_all := lw_g (lw_at lw_m2 17 rfl) rfl
theorem q265 : (Jvm.Cond.code ({ cls := "ShacalDeskLaw", name := "locked", desc := "([I[I)[I" } : Jvm.MethodName) method_4_code (10 : Nat) (Option.some (Jvm.ClassFile.FieldType.array Jvm.ClassFile.FieldType.int))) ∈ lw_all := lw_g (lw_at lw_m2 18 rfl) rfl
theorem q266 : (Jvm.Cond.methodLink "ShacalDeskLaw" (7 : Nat) ({ cls := "ShacalDeskLaw", name := "turned", desc := "(II)I" } : Jvm.MethodName)) ∈ lw_all := lw_g (lw_at lw_m2 19 rfl) rfl
theorem q267 : (Jvm.Cond.static ({ cls := "ShacalDeskLaw", name := "turned", desc := "(II)I" } : Jvm.MethodName)) ∈ lw_all := lw_g (lw_at lw_m2 20 rfl) rfl
theorem q268 : (Jvm.Cond.code ({ cls := "ShacalDeskLaw", name := "turned", desc := "(II)I" } : Jvm.MethodName) method_3_code (2 : Nat) (Option.some Jvm.ClassFile.FieldType.int)) ∈ lw_all := lw_g (lw_at lw_m2 21 rfl) rfl
theorem q269 : (Jvm.Cond.fieldLink "ShacalDeskLaw" (13 : Nat) "ShacalDeskLaw" "ROOTS" "[I") ∈ lw_all := lw_g (lw_at lw_m2 22 rfl) rfl
theorem q270 : (Jvm.Cond.laysStatic "ShacalDeskLaw" "ROOTS" "[I") ∈ lw_tbl := lw_at lw_m2 23 rfl
theorem q271 : (Jvm.Cond.methodLink "ShacalDeskLaw" (35 : Nat) ({ cls := "ShacalDeskLaw", name := "out", desc := "(LShacalDesk;I)[I" } : Jvm.MethodName)) ∈ lw_all := lw_g (lw_at lw_m2 24 rfl) rfl
theorem q272 : (Jvm.Cond.static ({ cls := "ShacalDeskLaw", name := "out", desc := "(LShacalDesk;I)[I" } : Jvm.MethodName)) ∈ lw_all := lw_g (lw_at lw_m2 25 rfl) rfl
theorem q273 : (Jvm.Cond.code ({ cls := "ShacalDeskLaw", name := "out", desc := "(LShacalDesk;I)[I" } : Jvm.MethodName) method_5_code (5 : Nat) (Option.some (Jvm.ClassFile.FieldType.array Jvm.ClassFile.FieldType.int))) ∈ lw_all := lw_g (lw_at lw_m2 26 rfl) rfl
theorem q274 : (Jvm.Cond.methodLink "ShacalDeskLaw" (17 : Nat) ({ cls := "ShacalDesk", name := "out", desc := "(I)I" } : Jvm.MethodName)) ∈ lw_all := lw_g (lw_at lw_m2 27 rfl) rfl
theorem q278 : (Jvm.Cond.methodLink "ShacalDeskLaw" (38 : Nat) ({ cls := "ShacalDeskLaw", name := "same", desc := "([I[I)Z" } : Jvm.MethodName)) ∈ lw_all := lw_g (lw_at lw_m2 31 rfl) rfl
theorem q279 : (Jvm.Cond.static ({ cls := "ShacalDeskLaw", name := "same", desc := "([I[I)Z" } : Jvm.MethodName)) ∈ lw_all := lw_g (lw_at lw_m2 32 rfl) rfl
theorem q280 : (Jvm.Cond.code ({ cls := "ShacalDeskLaw", name := "same", desc := "([I[I)Z" } : Jvm.MethodName) method_6_code (4 : Nat) (Option.some Jvm.ClassFile.FieldType.boolean)) ∈ lw_all := lw_g (lw_at lw_m2 33 rfl) rfl
theorem q281 : (Jvm.Cond.methodLink "ShacalDeskLaw" (42 : Nat) ({ cls := "ShacalDeskLaw", name := "lays", desc := "(LShacalDesk;[IIIIII)V" } : Jvm.MethodName)) ∈ lw_all := lw_g (lw_at lw_m2 34 rfl) rfl
theorem q282 : (Jvm.Cond.static ({ cls := "ShacalDeskLaw", name := "lays", desc := "(LShacalDesk;[IIIIII)V" } : Jvm.MethodName)) ∈ lw_all := lw_g (lw_at lw_m2 35 rfl) rfl
theorem q283 : (Jvm.Cond.code ({ cls := "ShacalDeskLaw", name := "lays", desc := "(LShacalDesk;[IIIIII)V" } : Jvm.MethodName) method_7_code (8 : Nat) (Option.none : Option Jvm.ClassFile.FieldType)) ∈ lw_all := lw_g (lw_at lw_m2 36 rfl) rfl
theorem q284 : (Jvm.Cond.methodLink "ShacalDeskLaw" (23 : Nat) ({ cls := "ShacalDesk", name := "key", desc := "(IIIII)V" } : Jvm.MethodName)) ∈ lw_all := lw_g (lw_at lw_m2 37 rfl) rfl
theorem q291 : (Jvm.Cond.methodLink "ShacalDeskLaw" (46 : Nat) ({ cls := "ShacalDeskLaw", name := "puts", desc := "(LShacalDesk;[IIIIII)V" } : Jvm.MethodName)) ∈ lw_all := lw_g (lw_at lw_m2 44 rfl) rfl
theorem q292 : (Jvm.Cond.static ({ cls := "ShacalDeskLaw", name := "puts", desc := "(LShacalDesk;[IIIIII)V" } : Jvm.MethodName)) ∈ lw_all := lw_g (lw_at lw_m2 45 rfl) rfl
theorem q293 : (Jvm.Cond.code ({ cls := "ShacalDeskLaw", name := "puts", desc := "(LShacalDesk;[IIIIII)V" } : Jvm.MethodName) method_8_code (8 : Nat) (Option.none : Option Jvm.ClassFile.FieldType)) ∈ lw_all := lw_g (lw_at lw_m2 46 rfl) rfl
theorem q294 : (Jvm.Cond.methodLink "ShacalDeskLaw" (27 : Nat) ({ cls := "ShacalDesk", name := "block", desc := "(IIIII)V" } : Jvm.MethodName)) ∈ lw_all := lw_g (lw_at lw_m2 47 rfl) rfl
/-! the law's own entry -/
set_option maxRecDepth 100000
abbrev cL_law : ByteArray := code
def dkwL_law_15 : List UInt8 := [154, 0, 5, 3, 172, 132, 8, 1, 167, 255, 59, 132, 4, 1, 167, 254, 192, 4, 172]
abbrev dktL_law_15 : List UInt8 := dkwL_law_15 ++ []
def dkwL_law_14 : List UInt8 := [182, 0, 57, 167, 0, 9, 43, 21, 6, 182, 0, 53, 43, 21, 7, 184, 0, 35, 25, 12, 184, 0, 38]
abbrev dktL_law_14 : List UInt8 := dkwL_law_14 ++ dktL_law_15
def dkwL_law_13 : List UInt8 := [4, 160, 0, 49, 43, 182, 0, 60, 45, 58, 12, 25, 11, 78, 21, 9, 153, 0, 12, 43, 21, 6]
abbrev dktL_law_13 : List UInt8 := dkwL_law_13 ++ dktL_law_14
def dkwL_law_12 : List UInt8 := [184, 0, 38, 154, 0, 5, 3, 172, 42, 21, 5, 16, 10, 96, 184, 0, 31, 5, 21, 8, 96, 122, 4, 126]
abbrev dktL_law_12 : List UInt8 := dkwL_law_12 ++ dktL_law_13
def dkwL_law_11 : List UInt8 := [153, 0, 19, 44, 25, 11, 184, 0, 49, 45, 184, 0, 38, 154, 0, 18, 167, 0, 13, 25, 11, 25, 10]
abbrev dktL_law_11 : List UInt8 := dkwL_law_11 ++ dktL_law_12
def dkwL_law_10 : List UInt8 := [42, 21, 5, 16, 11, 96, 184, 0, 31, 184, 0, 35, 58, 11, 25, 11, 190, 16, 8, 160, 0, 34, 21, 9]
abbrev dktL_law_10 : List UInt8 := dkwL_law_10 ++ dktL_law_11
def dkwL_law_9 : List UInt8 := [96, 184, 0, 31, 182, 0, 53, 167, 0, 16, 43, 42, 21, 5, 16, 11, 96, 184, 0, 31, 182, 0, 57, 43]
abbrev dktL_law_9 : List UInt8 := dkwL_law_9 ++ dktL_law_10
def dkwL_law_8 : List UInt8 := [167, 0, 4, 3, 54, 9, 44, 45, 184, 0, 49, 58, 10, 21, 9, 153, 0, 19, 43, 42, 21, 5, 16, 11]
abbrev dktL_law_8 : List UInt8 := dkwL_law_8 ++ dktL_law_9
def dkwL_law_7 : List UInt8 := [162, 0, 197, 42, 21, 5, 16, 10, 96, 184, 0, 31, 21, 8, 122, 4, 126, 4, 160, 0, 7, 4]
abbrev dktL_law_7 : List UInt8 := dkwL_law_7 ++ dktL_law_8
def dkwL_law_6 : List UInt8 := [16, 8, 96, 184, 0, 31, 42, 21, 5, 16, 9, 96, 184, 0, 31, 184, 0, 46, 3, 54, 8, 21, 8, 5]
abbrev dktL_law_6 : List UInt8 := dkwL_law_6 ++ dktL_law_7
def dkwL_law_5 : List UInt8 := [21, 7, 42, 21, 5, 16, 6, 96, 184, 0, 31, 42, 21, 5, 16, 7, 96, 184, 0, 31, 42, 21, 5]
abbrev dktL_law_5 : List UInt8 := dkwL_law_5 ++ dktL_law_6
def dkwL_law_4 : List UInt8 := [184, 0, 31, 42, 21, 5, 7, 96, 184, 0, 31, 42, 21, 5, 8, 96, 184, 0, 31, 184, 0, 42, 43, 45]
abbrev dktL_law_4 : List UInt8 := dkwL_law_4 ++ dktL_law_5
def dkwL_law_3 : List UInt8 := [184, 0, 31, 54, 7, 43, 44, 21, 6, 42, 21, 5, 5, 96, 184, 0, 31, 42, 21, 5, 6, 96]
abbrev dktL_law_3 : List UInt8 := dkwL_law_3 ++ dktL_law_4
def dkwL_law_2 : List UInt8 := [162, 1, 63, 16, 12, 21, 4, 104, 54, 5, 42, 21, 5, 184, 0, 31, 54, 6, 42, 21, 5, 4, 96]
abbrev dktL_law_2 : List UInt8 := dkwL_law_2 ++ dktL_law_3
def dkwL_law_1 : List UInt8 := [184, 0, 35, 16, 8, 188, 10, 184, 0, 38, 154, 0, 5, 3, 172, 3, 54, 4, 21, 4, 16, 8]
abbrev dktL_law_1 : List UInt8 := dkwL_law_1 ++ dktL_law_2
def dkwL_law_0 : List UInt8 := [187, 0, 18, 89, 183, 0, 30, 76, 16, 16, 188, 10, 77, 16, 8, 188, 10, 78, 43, 42, 3, 184, 0, 31]
abbrev dktL_law_0 : List UInt8 := dkwL_law_0 ++ dktL_law_1
theorem dksL_law_0 : cL_law.data.toList.drop 0 = dktL_law_0 := by decide +kernel
theorem dksL_law_1 : cL_law.data.toList.drop 24 = dktL_law_1 := dk_seg dksL_law_0 24 rfl rfl
theorem dksL_law_2 : cL_law.data.toList.drop 46 = dktL_law_2 := dk_seg dksL_law_1 22 rfl rfl
theorem dksL_law_3 : cL_law.data.toList.drop 69 = dktL_law_3 := dk_seg dksL_law_2 23 rfl rfl
theorem dksL_law_4 : cL_law.data.toList.drop 91 = dktL_law_4 := dk_seg dksL_law_3 22 rfl rfl
theorem dksL_law_5 : cL_law.data.toList.drop 115 = dktL_law_5 := dk_seg dksL_law_4 24 rfl rfl
theorem dksL_law_6 : cL_law.data.toList.drop 138 = dktL_law_6 := dk_seg dksL_law_5 23 rfl rfl
theorem dksL_law_7 : cL_law.data.toList.drop 162 = dktL_law_7 := dk_seg dksL_law_6 24 rfl rfl
theorem dksL_law_8 : cL_law.data.toList.drop 184 = dktL_law_8 := dk_seg dksL_law_7 22 rfl rfl
theorem dksL_law_9 : cL_law.data.toList.drop 208 = dktL_law_9 := dk_seg dksL_law_8 24 rfl rfl
theorem dksL_law_10 : cL_law.data.toList.drop 232 = dktL_law_10 := dk_seg dksL_law_9 24 rfl rfl
theorem dksL_law_11 : cL_law.data.toList.drop 256 = dktL_law_11 := dk_seg dksL_law_10 24 rfl rfl
theorem dksL_law_12 : cL_law.data.toList.drop 279 = dktL_law_12 := dk_seg dksL_law_11 23 rfl rfl
theorem dksL_law_13 : cL_law.data.toList.drop 303 = dktL_law_13 := dk_seg dksL_law_12 24 rfl rfl
theorem dksL_law_14 : cL_law.data.toList.drop 325 = dktL_law_14 := dk_seg dksL_law_13 22 rfl rfl
theorem dksL_law_15 : cL_law.data.toList.drop 348 = dktL_law_15 := dk_seg dksL_law_14 23 rfl rfl
theorem dL_law_0 : decode cL_law 0 = .ok (.new 18, 3) := dk_187 0 18 (dk_at dksL_law_0 0 rfl rfl)
theorem dL_law_3 : decode cL_law 3 = .ok (.dup, 1) := dk_89 (dk_at dksL_law_0 3 rfl rfl)
theorem dL_law_4 : decode cL_law 4 = .ok (.invokespecial 30, 3) := dk_183 0 30 (dk_at dksL_law_0 4 rfl rfl)
theorem dL_law_7 : decode cL_law 7 = .ok (.astore_n 1, 1) := dk_76 (dk_at dksL_law_0 7 rfl rfl)
theorem dL_law_8 : decode cL_law 8 = .ok (.bipush 16, 2) := dk_16 16 (dk_at dksL_law_0 8 rfl rfl)
theorem dL_law_10 : decode cL_law 10 = .ok (.newarray .int, 2) := dk_188_10 (dk_at dksL_law_0 10 rfl rfl)
theorem dL_law_12 : decode cL_law 12 = .ok (.astore_n 2, 1) := dk_77 (dk_at dksL_law_0 12 rfl rfl)
theorem dL_law_13 : decode cL_law 13 = .ok (.bipush 8, 2) := dk_16 8 (dk_at dksL_law_0 13 rfl rfl)
theorem dL_law_15 : decode cL_law 15 = .ok (.newarray .int, 2) := dk_188_10 (dk_at dksL_law_0 15 rfl rfl)
theorem dL_law_17 : decode cL_law 17 = .ok (.astore_n 3, 1) := dk_78 (dk_at dksL_law_0 17 rfl rfl)
theorem dL_law_18 : decode cL_law 18 = .ok (.aload_n 1, 1) := dk_43 (dk_at dksL_law_0 18 rfl rfl)
theorem dL_law_19 : decode cL_law 19 = .ok (.aload_n 0, 1) := dk_42 (dk_at dksL_law_0 19 rfl rfl)
theorem dL_law_20 : decode cL_law 20 = .ok (.iconst 0, 1) := dk_3 (dk_at dksL_law_0 20 rfl rfl)
theorem dL_law_21 : decode cL_law 21 = .ok (.invokestatic 31, 3) := dk_184 0 31 (dk_at dksL_law_0 21 rfl rfl)
theorem dL_law_24 : decode cL_law 24 = .ok (.invokestatic 35, 3) := dk_184 0 35 (dk_at dksL_law_1 0 rfl rfl)
theorem dL_law_27 : decode cL_law 27 = .ok (.bipush 8, 2) := dk_16 8 (dk_at dksL_law_1 3 rfl rfl)
theorem dL_law_29 : decode cL_law 29 = .ok (.newarray .int, 2) := dk_188_10 (dk_at dksL_law_1 5 rfl rfl)
theorem dL_law_31 : decode cL_law 31 = .ok (.invokestatic 38, 3) := dk_184 0 38 (dk_at dksL_law_1 7 rfl rfl)
theorem dL_law_34 : decode cL_law 34 = .ok (.ifCond .ne 5, 3) := dk_154 0 5 (dk_at dksL_law_1 10 rfl rfl)
theorem dL_law_37 : decode cL_law 37 = .ok (.iconst 0, 1) := dk_3 (dk_at dksL_law_1 13 rfl rfl)
theorem dL_law_38 : decode cL_law 38 = .ok (.ireturn, 1) := dk_172 (dk_at dksL_law_1 14 rfl rfl)
theorem dL_law_39 : decode cL_law 39 = .ok (.iconst 0, 1) := dk_3 (dk_at dksL_law_1 15 rfl rfl)
theorem dL_law_40 : decode cL_law 40 = .ok (.istore 4, 2) := dk_54 4 (dk_at dksL_law_1 16 rfl rfl)
theorem dL_law_42 : decode cL_law 42 = .ok (.iload 4, 2) := dk_21 4 (dk_at dksL_law_1 18 rfl rfl)
theorem dL_law_44 : decode cL_law 44 = .ok (.bipush 8, 2) := dk_16 8 (dk_at dksL_law_1 20 rfl rfl)
theorem dL_law_46 : decode cL_law 46 = .ok (.if_icmp .ge 319, 3) := dk_162 1 63 (dk_at dksL_law_2 0 rfl rfl)
theorem dL_law_49 : decode cL_law 49 = .ok (.bipush 12, 2) := dk_16 12 (dk_at dksL_law_2 3 rfl rfl)
theorem dL_law_51 : decode cL_law 51 = .ok (.iload 4, 2) := dk_21 4 (dk_at dksL_law_2 5 rfl rfl)
theorem dL_law_53 : decode cL_law 53 = .ok (.imul, 1) := dk_104 (dk_at dksL_law_2 7 rfl rfl)
theorem dL_law_54 : decode cL_law 54 = .ok (.istore 5, 2) := dk_54 5 (dk_at dksL_law_2 8 rfl rfl)
theorem dL_law_56 : decode cL_law 56 = .ok (.aload_n 0, 1) := dk_42 (dk_at dksL_law_2 10 rfl rfl)
theorem dL_law_57 : decode cL_law 57 = .ok (.iload 5, 2) := dk_21 5 (dk_at dksL_law_2 11 rfl rfl)
theorem dL_law_59 : decode cL_law 59 = .ok (.invokestatic 31, 3) := dk_184 0 31 (dk_at dksL_law_2 13 rfl rfl)
theorem dL_law_62 : decode cL_law 62 = .ok (.istore 6, 2) := dk_54 6 (dk_at dksL_law_2 16 rfl rfl)
theorem dL_law_64 : decode cL_law 64 = .ok (.aload_n 0, 1) := dk_42 (dk_at dksL_law_2 18 rfl rfl)
theorem dL_law_65 : decode cL_law 65 = .ok (.iload 5, 2) := dk_21 5 (dk_at dksL_law_2 19 rfl rfl)
theorem dL_law_67 : decode cL_law 67 = .ok (.iconst 1, 1) := dk_4 (dk_at dksL_law_2 21 rfl rfl)
theorem dL_law_68 : decode cL_law 68 = .ok (.iadd, 1) := dk_96 (dk_at dksL_law_2 22 rfl rfl)
theorem dL_law_69 : decode cL_law 69 = .ok (.invokestatic 31, 3) := dk_184 0 31 (dk_at dksL_law_3 0 rfl rfl)
theorem dL_law_72 : decode cL_law 72 = .ok (.istore 7, 2) := dk_54 7 (dk_at dksL_law_3 3 rfl rfl)
theorem dL_law_74 : decode cL_law 74 = .ok (.aload_n 1, 1) := dk_43 (dk_at dksL_law_3 5 rfl rfl)
theorem dL_law_75 : decode cL_law 75 = .ok (.aload_n 2, 1) := dk_44 (dk_at dksL_law_3 6 rfl rfl)
theorem dL_law_76 : decode cL_law 76 = .ok (.iload 6, 2) := dk_21 6 (dk_at dksL_law_3 7 rfl rfl)
theorem dL_law_78 : decode cL_law 78 = .ok (.aload_n 0, 1) := dk_42 (dk_at dksL_law_3 9 rfl rfl)
theorem dL_law_79 : decode cL_law 79 = .ok (.iload 5, 2) := dk_21 5 (dk_at dksL_law_3 10 rfl rfl)
theorem dL_law_81 : decode cL_law 81 = .ok (.iconst 2, 1) := dk_5 (dk_at dksL_law_3 12 rfl rfl)
theorem dL_law_82 : decode cL_law 82 = .ok (.iadd, 1) := dk_96 (dk_at dksL_law_3 13 rfl rfl)
theorem dL_law_83 : decode cL_law 83 = .ok (.invokestatic 31, 3) := dk_184 0 31 (dk_at dksL_law_3 14 rfl rfl)
theorem dL_law_86 : decode cL_law 86 = .ok (.aload_n 0, 1) := dk_42 (dk_at dksL_law_3 17 rfl rfl)
theorem dL_law_87 : decode cL_law 87 = .ok (.iload 5, 2) := dk_21 5 (dk_at dksL_law_3 18 rfl rfl)
theorem dL_law_89 : decode cL_law 89 = .ok (.iconst 3, 1) := dk_6 (dk_at dksL_law_3 20 rfl rfl)
theorem dL_law_90 : decode cL_law 90 = .ok (.iadd, 1) := dk_96 (dk_at dksL_law_3 21 rfl rfl)
theorem dL_law_91 : decode cL_law 91 = .ok (.invokestatic 31, 3) := dk_184 0 31 (dk_at dksL_law_4 0 rfl rfl)
theorem dL_law_94 : decode cL_law 94 = .ok (.aload_n 0, 1) := dk_42 (dk_at dksL_law_4 3 rfl rfl)
theorem dL_law_95 : decode cL_law 95 = .ok (.iload 5, 2) := dk_21 5 (dk_at dksL_law_4 4 rfl rfl)
theorem dL_law_97 : decode cL_law 97 = .ok (.iconst 4, 1) := dk_7 (dk_at dksL_law_4 6 rfl rfl)
theorem dL_law_98 : decode cL_law 98 = .ok (.iadd, 1) := dk_96 (dk_at dksL_law_4 7 rfl rfl)
theorem dL_law_99 : decode cL_law 99 = .ok (.invokestatic 31, 3) := dk_184 0 31 (dk_at dksL_law_4 8 rfl rfl)
theorem dL_law_102 : decode cL_law 102 = .ok (.aload_n 0, 1) := dk_42 (dk_at dksL_law_4 11 rfl rfl)
theorem dL_law_103 : decode cL_law 103 = .ok (.iload 5, 2) := dk_21 5 (dk_at dksL_law_4 12 rfl rfl)
theorem dL_law_105 : decode cL_law 105 = .ok (.iconst 5, 1) := dk_8 (dk_at dksL_law_4 14 rfl rfl)
theorem dL_law_106 : decode cL_law 106 = .ok (.iadd, 1) := dk_96 (dk_at dksL_law_4 15 rfl rfl)
theorem dL_law_107 : decode cL_law 107 = .ok (.invokestatic 31, 3) := dk_184 0 31 (dk_at dksL_law_4 16 rfl rfl)
theorem dL_law_110 : decode cL_law 110 = .ok (.invokestatic 42, 3) := dk_184 0 42 (dk_at dksL_law_4 19 rfl rfl)
theorem dL_law_113 : decode cL_law 113 = .ok (.aload_n 1, 1) := dk_43 (dk_at dksL_law_4 22 rfl rfl)
theorem dL_law_114 : decode cL_law 114 = .ok (.aload_n 3, 1) := dk_45 (dk_at dksL_law_4 23 rfl rfl)
theorem dL_law_115 : decode cL_law 115 = .ok (.iload 7, 2) := dk_21 7 (dk_at dksL_law_5 0 rfl rfl)
theorem dL_law_117 : decode cL_law 117 = .ok (.aload_n 0, 1) := dk_42 (dk_at dksL_law_5 2 rfl rfl)
theorem dL_law_118 : decode cL_law 118 = .ok (.iload 5, 2) := dk_21 5 (dk_at dksL_law_5 3 rfl rfl)
theorem dL_law_120 : decode cL_law 120 = .ok (.bipush 6, 2) := dk_16 6 (dk_at dksL_law_5 5 rfl rfl)
theorem dL_law_122 : decode cL_law 122 = .ok (.iadd, 1) := dk_96 (dk_at dksL_law_5 7 rfl rfl)
theorem dL_law_123 : decode cL_law 123 = .ok (.invokestatic 31, 3) := dk_184 0 31 (dk_at dksL_law_5 8 rfl rfl)
theorem dL_law_126 : decode cL_law 126 = .ok (.aload_n 0, 1) := dk_42 (dk_at dksL_law_5 11 rfl rfl)
theorem dL_law_127 : decode cL_law 127 = .ok (.iload 5, 2) := dk_21 5 (dk_at dksL_law_5 12 rfl rfl)
theorem dL_law_129 : decode cL_law 129 = .ok (.bipush 7, 2) := dk_16 7 (dk_at dksL_law_5 14 rfl rfl)
theorem dL_law_131 : decode cL_law 131 = .ok (.iadd, 1) := dk_96 (dk_at dksL_law_5 16 rfl rfl)
theorem dL_law_132 : decode cL_law 132 = .ok (.invokestatic 31, 3) := dk_184 0 31 (dk_at dksL_law_5 17 rfl rfl)
theorem dL_law_135 : decode cL_law 135 = .ok (.aload_n 0, 1) := dk_42 (dk_at dksL_law_5 20 rfl rfl)
theorem dL_law_136 : decode cL_law 136 = .ok (.iload 5, 2) := dk_21 5 (dk_at dksL_law_5 21 rfl rfl)
theorem dL_law_138 : decode cL_law 138 = .ok (.bipush 8, 2) := dk_16 8 (dk_at dksL_law_6 0 rfl rfl)
theorem dL_law_140 : decode cL_law 140 = .ok (.iadd, 1) := dk_96 (dk_at dksL_law_6 2 rfl rfl)
theorem dL_law_141 : decode cL_law 141 = .ok (.invokestatic 31, 3) := dk_184 0 31 (dk_at dksL_law_6 3 rfl rfl)
theorem dL_law_144 : decode cL_law 144 = .ok (.aload_n 0, 1) := dk_42 (dk_at dksL_law_6 6 rfl rfl)
theorem dL_law_145 : decode cL_law 145 = .ok (.iload 5, 2) := dk_21 5 (dk_at dksL_law_6 7 rfl rfl)
theorem dL_law_147 : decode cL_law 147 = .ok (.bipush 9, 2) := dk_16 9 (dk_at dksL_law_6 9 rfl rfl)
theorem dL_law_149 : decode cL_law 149 = .ok (.iadd, 1) := dk_96 (dk_at dksL_law_6 11 rfl rfl)
theorem dL_law_150 : decode cL_law 150 = .ok (.invokestatic 31, 3) := dk_184 0 31 (dk_at dksL_law_6 12 rfl rfl)
theorem dL_law_153 : decode cL_law 153 = .ok (.invokestatic 46, 3) := dk_184 0 46 (dk_at dksL_law_6 15 rfl rfl)
theorem dL_law_156 : decode cL_law 156 = .ok (.iconst 0, 1) := dk_3 (dk_at dksL_law_6 18 rfl rfl)
theorem dL_law_157 : decode cL_law 157 = .ok (.istore 8, 2) := dk_54 8 (dk_at dksL_law_6 19 rfl rfl)
theorem dL_law_159 : decode cL_law 159 = .ok (.iload 8, 2) := dk_21 8 (dk_at dksL_law_6 21 rfl rfl)
theorem dL_law_161 : decode cL_law 161 = .ok (.iconst 2, 1) := dk_5 (dk_at dksL_law_6 23 rfl rfl)
theorem dL_law_162 : decode cL_law 162 = .ok (.if_icmp .ge 197, 3) := dk_162 0 197 (dk_at dksL_law_7 0 rfl rfl)
theorem dL_law_165 : decode cL_law 165 = .ok (.aload_n 0, 1) := dk_42 (dk_at dksL_law_7 3 rfl rfl)
theorem dL_law_166 : decode cL_law 166 = .ok (.iload 5, 2) := dk_21 5 (dk_at dksL_law_7 4 rfl rfl)
theorem dL_law_168 : decode cL_law 168 = .ok (.bipush 10, 2) := dk_16 10 (dk_at dksL_law_7 6 rfl rfl)
theorem dL_law_170 : decode cL_law 170 = .ok (.iadd, 1) := dk_96 (dk_at dksL_law_7 8 rfl rfl)
theorem dL_law_171 : decode cL_law 171 = .ok (.invokestatic 31, 3) := dk_184 0 31 (dk_at dksL_law_7 9 rfl rfl)
theorem dL_law_174 : decode cL_law 174 = .ok (.iload 8, 2) := dk_21 8 (dk_at dksL_law_7 12 rfl rfl)
theorem dL_law_176 : decode cL_law 176 = .ok (.ishr, 1) := dk_122 (dk_at dksL_law_7 14 rfl rfl)
theorem dL_law_177 : decode cL_law 177 = .ok (.iconst 1, 1) := dk_4 (dk_at dksL_law_7 15 rfl rfl)
theorem dL_law_178 : decode cL_law 178 = .ok (.iand, 1) := dk_126 (dk_at dksL_law_7 16 rfl rfl)
theorem dL_law_179 : decode cL_law 179 = .ok (.iconst 1, 1) := dk_4 (dk_at dksL_law_7 17 rfl rfl)
theorem dL_law_180 : decode cL_law 180 = .ok (.if_icmp .ne 7, 3) := dk_160 0 7 (dk_at dksL_law_7 18 rfl rfl)
theorem dL_law_183 : decode cL_law 183 = .ok (.iconst 1, 1) := dk_4 (dk_at dksL_law_7 21 rfl rfl)
theorem dL_law_184 : decode cL_law 184 = .ok (.goto 4, 3) := dk_167 0 4 (dk_at dksL_law_8 0 rfl rfl)
theorem dL_law_187 : decode cL_law 187 = .ok (.iconst 0, 1) := dk_3 (dk_at dksL_law_8 3 rfl rfl)
theorem dL_law_188 : decode cL_law 188 = .ok (.istore 9, 2) := dk_54 9 (dk_at dksL_law_8 4 rfl rfl)
theorem dL_law_190 : decode cL_law 190 = .ok (.aload_n 2, 1) := dk_44 (dk_at dksL_law_8 6 rfl rfl)
theorem dL_law_191 : decode cL_law 191 = .ok (.aload_n 3, 1) := dk_45 (dk_at dksL_law_8 7 rfl rfl)
theorem dL_law_192 : decode cL_law 192 = .ok (.invokestatic 49, 3) := dk_184 0 49 (dk_at dksL_law_8 8 rfl rfl)
theorem dL_law_195 : decode cL_law 195 = .ok (.astore 10, 2) := dk_58 10 (dk_at dksL_law_8 11 rfl rfl)
theorem dL_law_197 : decode cL_law 197 = .ok (.iload 9, 2) := dk_21 9 (dk_at dksL_law_8 13 rfl rfl)
theorem dL_law_199 : decode cL_law 199 = .ok (.ifCond .eq 19, 3) := dk_153 0 19 (dk_at dksL_law_8 15 rfl rfl)
theorem dL_law_202 : decode cL_law 202 = .ok (.aload_n 1, 1) := dk_43 (dk_at dksL_law_8 18 rfl rfl)
theorem dL_law_203 : decode cL_law 203 = .ok (.aload_n 0, 1) := dk_42 (dk_at dksL_law_8 19 rfl rfl)
theorem dL_law_204 : decode cL_law 204 = .ok (.iload 5, 2) := dk_21 5 (dk_at dksL_law_8 20 rfl rfl)
theorem dL_law_206 : decode cL_law 206 = .ok (.bipush 11, 2) := dk_16 11 (dk_at dksL_law_8 22 rfl rfl)
theorem dL_law_208 : decode cL_law 208 = .ok (.iadd, 1) := dk_96 (dk_at dksL_law_9 0 rfl rfl)
theorem dL_law_209 : decode cL_law 209 = .ok (.invokestatic 31, 3) := dk_184 0 31 (dk_at dksL_law_9 1 rfl rfl)
theorem dL_law_212 : decode cL_law 212 = .ok (.invokevirtual 53, 3) := dk_182 0 53 (dk_at dksL_law_9 4 rfl rfl)
theorem dL_law_215 : decode cL_law 215 = .ok (.goto 16, 3) := dk_167 0 16 (dk_at dksL_law_9 7 rfl rfl)
theorem dL_law_218 : decode cL_law 218 = .ok (.aload_n 1, 1) := dk_43 (dk_at dksL_law_9 10 rfl rfl)
theorem dL_law_219 : decode cL_law 219 = .ok (.aload_n 0, 1) := dk_42 (dk_at dksL_law_9 11 rfl rfl)
theorem dL_law_220 : decode cL_law 220 = .ok (.iload 5, 2) := dk_21 5 (dk_at dksL_law_9 12 rfl rfl)
theorem dL_law_222 : decode cL_law 222 = .ok (.bipush 11, 2) := dk_16 11 (dk_at dksL_law_9 14 rfl rfl)
theorem dL_law_224 : decode cL_law 224 = .ok (.iadd, 1) := dk_96 (dk_at dksL_law_9 16 rfl rfl)
theorem dL_law_225 : decode cL_law 225 = .ok (.invokestatic 31, 3) := dk_184 0 31 (dk_at dksL_law_9 17 rfl rfl)
theorem dL_law_228 : decode cL_law 228 = .ok (.invokevirtual 57, 3) := dk_182 0 57 (dk_at dksL_law_9 20 rfl rfl)
theorem dL_law_231 : decode cL_law 231 = .ok (.aload_n 1, 1) := dk_43 (dk_at dksL_law_9 23 rfl rfl)
theorem dL_law_232 : decode cL_law 232 = .ok (.aload_n 0, 1) := dk_42 (dk_at dksL_law_10 0 rfl rfl)
theorem dL_law_233 : decode cL_law 233 = .ok (.iload 5, 2) := dk_21 5 (dk_at dksL_law_10 1 rfl rfl)
theorem dL_law_235 : decode cL_law 235 = .ok (.bipush 11, 2) := dk_16 11 (dk_at dksL_law_10 3 rfl rfl)
theorem dL_law_237 : decode cL_law 237 = .ok (.iadd, 1) := dk_96 (dk_at dksL_law_10 5 rfl rfl)
theorem dL_law_238 : decode cL_law 238 = .ok (.invokestatic 31, 3) := dk_184 0 31 (dk_at dksL_law_10 6 rfl rfl)
theorem dL_law_241 : decode cL_law 241 = .ok (.invokestatic 35, 3) := dk_184 0 35 (dk_at dksL_law_10 9 rfl rfl)
theorem dL_law_244 : decode cL_law 244 = .ok (.astore 11, 2) := dk_58 11 (dk_at dksL_law_10 12 rfl rfl)
theorem dL_law_246 : decode cL_law 246 = .ok (.aload 11, 2) := dk_25 11 (dk_at dksL_law_10 14 rfl rfl)
theorem dL_law_248 : decode cL_law 248 = .ok (.arraylength, 1) := dk_190 (dk_at dksL_law_10 16 rfl rfl)
theorem dL_law_249 : decode cL_law 249 = .ok (.bipush 8, 2) := dk_16 8 (dk_at dksL_law_10 17 rfl rfl)
theorem dL_law_251 : decode cL_law 251 = .ok (.if_icmp .ne 34, 3) := dk_160 0 34 (dk_at dksL_law_10 19 rfl rfl)
theorem dL_law_254 : decode cL_law 254 = .ok (.iload 9, 2) := dk_21 9 (dk_at dksL_law_10 22 rfl rfl)
theorem dL_law_256 : decode cL_law 256 = .ok (.ifCond .eq 19, 3) := dk_153 0 19 (dk_at dksL_law_11 0 rfl rfl)
theorem dL_law_259 : decode cL_law 259 = .ok (.aload_n 2, 1) := dk_44 (dk_at dksL_law_11 3 rfl rfl)
theorem dL_law_260 : decode cL_law 260 = .ok (.aload 11, 2) := dk_25 11 (dk_at dksL_law_11 4 rfl rfl)
theorem dL_law_262 : decode cL_law 262 = .ok (.invokestatic 49, 3) := dk_184 0 49 (dk_at dksL_law_11 6 rfl rfl)
theorem dL_law_265 : decode cL_law 265 = .ok (.aload_n 3, 1) := dk_45 (dk_at dksL_law_11 9 rfl rfl)
theorem dL_law_266 : decode cL_law 266 = .ok (.invokestatic 38, 3) := dk_184 0 38 (dk_at dksL_law_11 10 rfl rfl)
theorem dL_law_269 : decode cL_law 269 = .ok (.ifCond .ne 18, 3) := dk_154 0 18 (dk_at dksL_law_11 13 rfl rfl)
theorem dL_law_272 : decode cL_law 272 = .ok (.goto 13, 3) := dk_167 0 13 (dk_at dksL_law_11 16 rfl rfl)
theorem dL_law_275 : decode cL_law 275 = .ok (.aload 11, 2) := dk_25 11 (dk_at dksL_law_11 19 rfl rfl)
theorem dL_law_277 : decode cL_law 277 = .ok (.aload 10, 2) := dk_25 10 (dk_at dksL_law_11 21 rfl rfl)
theorem dL_law_279 : decode cL_law 279 = .ok (.invokestatic 38, 3) := dk_184 0 38 (dk_at dksL_law_12 0 rfl rfl)
theorem dL_law_282 : decode cL_law 282 = .ok (.ifCond .ne 5, 3) := dk_154 0 5 (dk_at dksL_law_12 3 rfl rfl)
theorem dL_law_285 : decode cL_law 285 = .ok (.iconst 0, 1) := dk_3 (dk_at dksL_law_12 6 rfl rfl)
theorem dL_law_286 : decode cL_law 286 = .ok (.ireturn, 1) := dk_172 (dk_at dksL_law_12 7 rfl rfl)
theorem dL_law_287 : decode cL_law 287 = .ok (.aload_n 0, 1) := dk_42 (dk_at dksL_law_12 8 rfl rfl)
theorem dL_law_288 : decode cL_law 288 = .ok (.iload 5, 2) := dk_21 5 (dk_at dksL_law_12 9 rfl rfl)
theorem dL_law_290 : decode cL_law 290 = .ok (.bipush 10, 2) := dk_16 10 (dk_at dksL_law_12 11 rfl rfl)
theorem dL_law_292 : decode cL_law 292 = .ok (.iadd, 1) := dk_96 (dk_at dksL_law_12 13 rfl rfl)
theorem dL_law_293 : decode cL_law 293 = .ok (.invokestatic 31, 3) := dk_184 0 31 (dk_at dksL_law_12 14 rfl rfl)
theorem dL_law_296 : decode cL_law 296 = .ok (.iconst 2, 1) := dk_5 (dk_at dksL_law_12 17 rfl rfl)
theorem dL_law_297 : decode cL_law 297 = .ok (.iload 8, 2) := dk_21 8 (dk_at dksL_law_12 18 rfl rfl)
theorem dL_law_299 : decode cL_law 299 = .ok (.iadd, 1) := dk_96 (dk_at dksL_law_12 20 rfl rfl)
theorem dL_law_300 : decode cL_law 300 = .ok (.ishr, 1) := dk_122 (dk_at dksL_law_12 21 rfl rfl)
theorem dL_law_301 : decode cL_law 301 = .ok (.iconst 1, 1) := dk_4 (dk_at dksL_law_12 22 rfl rfl)
theorem dL_law_302 : decode cL_law 302 = .ok (.iand, 1) := dk_126 (dk_at dksL_law_12 23 rfl rfl)
theorem dL_law_303 : decode cL_law 303 = .ok (.iconst 1, 1) := dk_4 (dk_at dksL_law_13 0 rfl rfl)
theorem dL_law_304 : decode cL_law 304 = .ok (.if_icmp .ne 49, 3) := dk_160 0 49 (dk_at dksL_law_13 1 rfl rfl)
theorem dL_law_307 : decode cL_law 307 = .ok (.aload_n 1, 1) := dk_43 (dk_at dksL_law_13 4 rfl rfl)
theorem dL_law_308 : decode cL_law 308 = .ok (.invokevirtual 60, 3) := dk_182 0 60 (dk_at dksL_law_13 5 rfl rfl)
theorem dL_law_311 : decode cL_law 311 = .ok (.aload_n 3, 1) := dk_45 (dk_at dksL_law_13 8 rfl rfl)
theorem dL_law_312 : decode cL_law 312 = .ok (.astore 12, 2) := dk_58 12 (dk_at dksL_law_13 9 rfl rfl)
theorem dL_law_314 : decode cL_law 314 = .ok (.aload 11, 2) := dk_25 11 (dk_at dksL_law_13 11 rfl rfl)
theorem dL_law_316 : decode cL_law 316 = .ok (.astore_n 3, 1) := dk_78 (dk_at dksL_law_13 13 rfl rfl)
theorem dL_law_317 : decode cL_law 317 = .ok (.iload 9, 2) := dk_21 9 (dk_at dksL_law_13 14 rfl rfl)
theorem dL_law_319 : decode cL_law 319 = .ok (.ifCond .eq 12, 3) := dk_153 0 12 (dk_at dksL_law_13 16 rfl rfl)
theorem dL_law_322 : decode cL_law 322 = .ok (.aload_n 1, 1) := dk_43 (dk_at dksL_law_13 19 rfl rfl)
theorem dL_law_323 : decode cL_law 323 = .ok (.iload 6, 2) := dk_21 6 (dk_at dksL_law_13 20 rfl rfl)
theorem dL_law_325 : decode cL_law 325 = .ok (.invokevirtual 57, 3) := dk_182 0 57 (dk_at dksL_law_14 0 rfl rfl)
theorem dL_law_328 : decode cL_law 328 = .ok (.goto 9, 3) := dk_167 0 9 (dk_at dksL_law_14 3 rfl rfl)
theorem dL_law_331 : decode cL_law 331 = .ok (.aload_n 1, 1) := dk_43 (dk_at dksL_law_14 6 rfl rfl)
theorem dL_law_332 : decode cL_law 332 = .ok (.iload 6, 2) := dk_21 6 (dk_at dksL_law_14 7 rfl rfl)
theorem dL_law_334 : decode cL_law 334 = .ok (.invokevirtual 53, 3) := dk_182 0 53 (dk_at dksL_law_14 9 rfl rfl)
theorem dL_law_337 : decode cL_law 337 = .ok (.aload_n 1, 1) := dk_43 (dk_at dksL_law_14 12 rfl rfl)
theorem dL_law_338 : decode cL_law 338 = .ok (.iload 7, 2) := dk_21 7 (dk_at dksL_law_14 13 rfl rfl)
theorem dL_law_340 : decode cL_law 340 = .ok (.invokestatic 35, 3) := dk_184 0 35 (dk_at dksL_law_14 15 rfl rfl)
theorem dL_law_343 : decode cL_law 343 = .ok (.aload 12, 2) := dk_25 12 (dk_at dksL_law_14 18 rfl rfl)
theorem dL_law_345 : decode cL_law 345 = .ok (.invokestatic 38, 3) := dk_184 0 38 (dk_at dksL_law_14 20 rfl rfl)
theorem dL_law_348 : decode cL_law 348 = .ok (.ifCond .ne 5, 3) := dk_154 0 5 (dk_at dksL_law_15 0 rfl rfl)
theorem dL_law_351 : decode cL_law 351 = .ok (.iconst 0, 1) := dk_3 (dk_at dksL_law_15 3 rfl rfl)
theorem dL_law_352 : decode cL_law 352 = .ok (.ireturn, 1) := dk_172 (dk_at dksL_law_15 4 rfl rfl)
theorem dL_law_353 : decode cL_law 353 = .ok (.iinc 8 1, 3) := dk_132 8 1 (dk_at dksL_law_15 5 rfl rfl)
theorem dL_law_356 : decode cL_law 356 = .ok (.goto (-197), 3) := dk_167 255 59 (dk_at dksL_law_15 8 rfl rfl)
theorem dL_law_359 : decode cL_law 359 = .ok (.iinc 4 1, 3) := dk_132 4 1 (dk_at dksL_law_15 11 rfl rfl)
theorem dL_law_362 : decode cL_law 362 = .ok (.goto (-320), 3) := dk_167 254 192 (dk_at dksL_law_15 14 rfl rfl)
theorem dL_law_365 : decode cL_law 365 = .ok (.iconst 1, 1) := dk_4 (dk_at dksL_law_15 17 rfl rfl)
theorem dL_law_366 : decode cL_law 366 = .ok (.ireturn, 1) := dk_172 (dk_at dksL_law_15 18 rfl rfl)
end
section
/-! THE PLAIN LAW: words, bytes, the key's schedule, a round and its inverse; no program in sight. The rows 'bt' .. 'bp_b' are the kit's (laws/BITS.to-paste), a family taken whole. -/
def bt (x : Int32) (i : Nat) : Bool := x.toBitVec.getLsbD i
theorem b_ext {x y : Int32} (h : ∀ i, i < 32 → bt x i = bt y i) : x = y := Int32.toBitVec_inj.mp (BitVec.eq_of_getLsbD_eq (fun i hi => h i hi))
theorem b_or (x y : Int32) (i : Nat) : bt (x ||| y) i = (bt x i || bt y i) := by unfold bt; rw [Int32.toBitVec_or, BitVec.getLsbD_or]
theorem b_and (x y : Int32) (i : Nat) : bt (x &&& y) i = (bt x i && bt y i) := by unfold bt; rw [Int32.toBitVec_and, BitVec.getLsbD_and]
theorem b_xor (x y : Int32) (i : Nat) : bt (x ^^^ y) i = (bt x i ^^ bt y i) := by unfold bt; rw [Int32.toBitVec_xor, BitVec.getLsbD_xor]
theorem b_big {x : Int32} {i : Nat} (h : 32 ≤ i) : bt x i = false := BitVec.getLsbD_of_ge _ _ h
theorem b_255 (i : Nat) : bt 255 i = decide (i < 8) := by
  rcases Nat.lt_or_ge i 32 with h | h
  · exact (by decide +kernel : ∀ i, i < 32 → bt 255 i = decide (i < 8)) i h
  · rw [b_big h, decide_eq_false (by omega)]
theorem b_0 (i : Nat) : bt 0 i = false := BitVec.getLsbD_zero
theorem s_l : ∀ n, n < 32 → ((nI n &&& 31).toBitVec.smod 32).toNat = n := by decide +kernel
theorem s_u : ∀ n, n < 32 → (((nI n).toUInt32 &&& Int32.toUInt32 31).toBitVec % 32).toNat = n := by decide +kernel
theorem b_shl (n : Nat) (hn : n < 32) (x : Int32) {i : Nat} (hi : i < 32) : bt (x <<< (nI n &&& 31)) i = (decide (n ≤ i) && bt x (i - n)) := by
  unfold bt
  rw [Int32.toBitVec_shiftLeft]
  show (x.toBitVec <<< ((nI n &&& 31).toBitVec.smod 32).toNat).getLsbD i = _
  rw [s_l n hn, BitVec.getLsbD_shiftLeft]
  rcases Nat.lt_or_ge i n with h | h
  · simp [h, Nat.not_le.mpr h]
  · simp [hi, h, Nat.not_lt.mpr h]
theorem b_ushr (n : Nat) (hn : n < 32) (x : Int32) (i : Nat) : bt ((x.toUInt32 >>> ((nI n).toUInt32 &&& Int32.toUInt32 31)).toInt32) i = bt x (n + i) := by
  show (x.toUInt32 >>> ((nI n).toUInt32 &&& Int32.toUInt32 31)).toBitVec.getLsbD i = x.toUInt32.toBitVec.getLsbD (n + i)
  rw [UInt32.toBitVec_shiftRight]
  show (x.toUInt32.toBitVec >>> (((nI n).toUInt32 &&& Int32.toUInt32 31).toBitVec % 32).toNat).getLsbD i = _
  rw [s_u n hn, BitVec.getLsbD_ushiftRight]
theorem b_sshr (n : Nat) (hn : n < 32) (x : Int32) {i : Nat} (hi : i < 32) : bt (x >>> (nI n &&& 31)) i = if n + i < 32 then bt x (n + i) else bt x 31 := by
  unfold bt
  rw [Int32.toBitVec_shiftRight]
  show (x.toBitVec.sshiftRight ((nI n &&& 31).toBitVec.smod 32).toNat).getLsbD i = _
  rw [s_l n hn, BitVec.getLsbD_sshiftRight, BitVec.msb_eq_getLsbD_last]
  simp [hi]
theorem b_shl8 (x : Int32) {i : Nat} (hi : i < 32) : bt (x <<< ((8 : Int32) &&& 31)) i = (decide (8 ≤ i) && bt x (i - 8)) := b_shl 8 (by omega) x hi
theorem b_shl16 (x : Int32) {i : Nat} (hi : i < 32) : bt (x <<< ((16 : Int32) &&& 31)) i = (decide (16 ≤ i) && bt x (i - 16)) := b_shl 16 (by omega) x hi
theorem b_shl24 (x : Int32) {i : Nat} (hi : i < 32) : bt (x <<< ((24 : Int32) &&& 31)) i = (decide (24 ≤ i) && bt x (i - 24)) := b_shl 24 (by omega) x hi
theorem bp_b (x : Int32) : x.toInt8.toInt32 &&& 255 = x &&& 255 := by
  apply Int32.toBitVec_inj.mp
  rw [Int32.toBitVec_and, Int32.toBitVec_and, Int8.toBitVec_toInt32, Int32.toBitVec_toInt8]
  apply BitVec.eq_of_getLsbD_eq
  intro i hi
  rw [BitVec.getLsbD_and, BitVec.getLsbD_and]
  have hm : ∀ i < 32, 8 ≤ i → (255 : Int32).toBitVec.getLsbD i = false := by decide
  rcases Nat.lt_or_ge i 8 with z | z
  · rw [BitVec.getLsbD_signExtend, BitVec.getLsbD_signExtend, if_pos z, if_pos hi]
    simp only [z, hi, decide_true, Bool.true_and]
  · rw [hm i hi z]; simp
-- ===== end of the family; what follows is this claim's own =====
/-- the machine's >>> -/
def sa_usr (x y : Int32) : Int32 := (x.toUInt32 >>> (y.toUInt32 &&& Int32.toUInt32 31)).toInt32
def sa_ror (x k : Int32) : Int32 := sa_usr x k ||| x <<< ((32 - k) &&& 31)
theorem sa_rorE (x k k2 : Int32) (h : (k2 &&& 31 : Int32) = ((32 - k) &&& 31)) : sa_usr x k ||| x <<< (k2 &&& 31) = sa_ror x k := by
  unfold sa_ror
  rw [h]
def sa_sgE (e : Int32) : Int32 := sa_ror e 6 ^^^ sa_ror e 11 ^^^ sa_ror e 25
def sa_sgA (a : Int32) : Int32 := sa_ror a 2 ^^^ sa_ror a 13 ^^^ sa_ror a 22
def sa_ch (e f g : Int32) : Int32 := e &&& f ^^^ (e ^^^ -1) &&& g
def sa_mj (a b c : Int32) : Int32 := a &&& b ^^^ a &&& c ^^^ b &&& c
def sa_s0 (x : Int32) : Int32 := sa_ror x 7 ^^^ sa_ror x 18 ^^^ sa_usr x 3
def sa_s1 (x : Int32) : Int32 := sa_ror x 17 ^^^ sa_ror x 19 ^^^ sa_usr x 10
/-- the key's schedule: the array when the places below n are filled -/
def sa_sch (k : Nat → Int32) : Nat → Nat → Int32
  | 0 => fun _ => 0
  | n + 1 => upd (sa_sch k n) n (if n < 16 then k n else sa_sch k n (n - 16) + sa_s0 (sa_sch k n (n - 15)) + sa_sch k n (n - 7) + sa_s1 (sa_sch k n (n - 2)))
theorem sa_sch_lo {k : Nat → Int32} {n : Nat} (h : n < 16) : sa_sch k (n + 1) = upd (sa_sch k n) n (k n) := by
  show upd (sa_sch k n) n (if n < 16 then k n else _) = _
  rw [if_pos h]
theorem sa_sch_hi {k : Nat → Int32} {n : Nat} (h : ¬ n < 16) : sa_sch k (n + 1) = upd (sa_sch k n) n (sa_sch k n (n - 16) + sa_s0 (sa_sch k n (n - 15)) + sa_sch k n (n - 7) + sa_s1 (sa_sch k n (n - 2))) := by
  show upd (sa_sch k n) n (if n < 16 then k n else _) = _
  rw [if_neg h]
theorem sa_sch_hi2 {k : Nat → Int32} {n : Nat} (h : ¬ n < 16) : sa_sch k (n + 1) = upd (sa_sch k n) n (sa_s1 (sa_sch k n (n - 2)) + sa_sch k n (n - 7) + sa_s0 (sa_sch k n (n - 15)) + sa_sch k n (n - 16)) := by
  rw [sa_sch_hi h]
  congr 1
  generalize sa_sch k n (n - 16) = a
  generalize sa_s0 (sa_sch k n (n - 15)) = b
  generalize sa_sch k n (n - 7) = c
  generalize sa_s1 (sa_sch k n (n - 2)) = d
  rw [Int32.add_comm (d + c + b) a, Int32.add_comm (d + c) b, Int32.add_comm d c, ← Int32.add_assoc, ← Int32.add_assoc]
theorem sa_sch16 (k : Nat → Int32) : ∀ n, n ≤ 16 → ∀ j, sa_sch k n j = if j < n then k j else 0 := by
  intro n
  induction n with
  | zero =>
    intro _ j
    rw [if_neg (by omega)]
    rfl
  | succ n ih =>
    intro h j
    rw [sa_sch_lo (by omega)]
    unfold upd
    by_cases hj : j = n
    · subst hj
      rw [if_pos rfl, if_pos (by omega)]
    · rw [if_neg hj, ih (by omega)]
      by_cases h2 : j < n
      · rw [if_pos h2, if_pos (by omega)]
      · rw [if_neg h2, if_neg (by omega)]
/-- eight words -/
def sa_st (a b c d e f g h : Int32) : Nat → Int32 := fun j => if j = 0 then a else if j = 1 then b else if j = 2 then c else if j = 3 then d else if j = 4 then e else if j = 5 then f else if j = 6 then g else h
def sa_e8 (x y : Nat → Int32) : Prop := ∀ j, j < 8 → x j = y j
theorem sa_e8_of {x y : Nat → Int32} (h0 : x 0 = y 0) (h1 : x 1 = y 1) (h2 : x 2 = y 2) (h3 : x 3 = y 3) (h4 : x 4 = y 4) (h5 : x 5 = y 5) (h6 : x 6 = y 6) (h7 : x 7 = y 7) : sa_e8 x y := by
  intro j hj
  rcases (show j = 0 ∨ j = 1 ∨ j = 2 ∨ j = 3 ∨ j = 4 ∨ j = 5 ∨ j = 6 ∨ j = 7 by omega) with rfl | rfl | rfl | rfl | rfl | rfl | rfl | rfl <;> assumption
theorem sa_e8.trans {x y z : Nat → Int32} (h : sa_e8 x y) (g : sa_e8 y z) : sa_e8 x z := fun j hj => (h j hj).trans (g j hj)
theorem sa_e8.symm {x y : Nat → Int32} (h : sa_e8 x y) : sa_e8 y x := fun j hj => (h j hj).symm
def sa_t1 (k w : Int32) (x : Nat → Int32) : Int32 := x 7 + sa_sgE (x 4) + sa_ch (x 4) (x 5) (x 6) + k + w
def sa_t2 (x : Nat → Int32) : Int32 := sa_sgA (x 0) + sa_mj (x 0) (x 1) (x 2)
/-- a round of SHA-256 -/
def sa_rnd (k w : Int32) (x : Nat → Int32) : Nat → Int32 := sa_st (sa_t1 k w x + sa_t2 x) (x 0) (x 1) (x 2) (x 3 + sa_t1 k w x) (x 4) (x 5) (x 6)
def sa_u1 (y : Nat → Int32) : Int32 := y 0 - sa_sgA (y 1) - sa_mj (y 1) (y 2) (y 3)
/-- and back -/
def sa_drn (k w : Int32) (y : Nat → Int32) : Nat → Int32 := sa_st (y 1) (y 2) (y 3) (y 4 - sa_u1 y) (y 5) (y 6) (y 7) (sa_u1 y - k - w - sa_sgE (y 5) - sa_ch (y 5) (y 6) (y 7))
theorem sa_rnd_e8 {k w : Int32} {x y : Nat → Int32} (h : sa_e8 x y) : sa_rnd k w x = sa_rnd k w y := by
  unfold sa_rnd sa_t1 sa_t2
  rw [h 0 (by omega), h 1 (by omega), h 2 (by omega), h 3 (by omega), h 4 (by omega), h 5 (by omega), h 6 (by omega), h 7 (by omega)]
theorem sa_drn_e8 {k w : Int32} {x y : Nat → Int32} (h : sa_e8 x y) : sa_drn k w x = sa_drn k w y := by
  unfold sa_drn sa_u1
  rw [h 0 (by omega), h 1 (by omega), h 2 (by omega), h 3 (by omega), h 4 (by omega), h 5 (by omega), h 6 (by omega), h 7 (by omega)]
theorem sa_a1 (t a b : Int32) : t + (a + b) - a - b = t := by
  rw [Int32.add_comm a b, ← Int32.add_assoc, Int32.add_sub_cancel, Int32.add_sub_cancel]
theorem sa_a2 (h s c k w : Int32) : h + s + c + k + w - k - w - s - c = h := by
  rw [Int32.add_assoc (h + s + c), Int32.add_comm k w, ← Int32.add_assoc, Int32.add_sub_cancel, Int32.add_sub_cancel, Int32.add_assoc h, Int32.add_comm s c, ← Int32.add_assoc, Int32.add_sub_cancel, Int32.add_sub_cancel]
theorem sa_a3 (t s c k w : Int32) : t - k - w - s - c + s + c + k + w = t := by
  rw [Int32.add_assoc (t - k - w - s - c) s c, Int32.add_comm s c, ← Int32.add_assoc, Int32.sub_add_cancel, Int32.sub_add_cancel, Int32.add_assoc (t - k - w) k w, Int32.add_comm k w, ← Int32.add_assoc, Int32.sub_add_cancel, Int32.sub_add_cancel]
theorem sa_a4 (t a b : Int32) : t - a - b + (a + b) = t := by
  rw [Int32.add_comm a b, ← Int32.add_assoc, Int32.sub_add_cancel, Int32.sub_add_cancel]
theorem sa_drn_rnd (k w : Int32) (x : Nat → Int32) : sa_e8 (sa_drn k w (sa_rnd k w x)) x := by
  have hu : sa_u1 (sa_rnd k w x) = sa_t1 k w x := by
    show sa_t1 k w x + sa_t2 x - sa_sgA (x 0) - sa_mj (x 0) (x 1) (x 2) = _
    exact sa_a1 _ _ _
  refine sa_e8_of rfl rfl rfl ?_ rfl rfl rfl ?_
  · show (x 3 + sa_t1 k w x) - sa_u1 (sa_rnd k w x) = x 3
    rw [hu, Int32.add_sub_cancel]
  · show sa_u1 (sa_rnd k w x) - k - w - sa_sgE (x 4) - sa_ch (x 4) (x 5) (x 6) = x 7
    rw [hu]
    exact sa_a2 _ _ _ _ _
theorem sa_rnd_drn (k w : Int32) (y : Nat → Int32) : sa_e8 (sa_rnd k w (sa_drn k w y)) y := by
  have ht : sa_t1 k w (sa_drn k w y) = sa_u1 y := by
    show (sa_u1 y - k - w - sa_sgE (y 5) - sa_ch (y 5) (y 6) (y 7)) + sa_sgE (y 5) + sa_ch (y 5) (y 6) (y 7) + k + w = _
    exact sa_a3 _ _ _ _ _
  refine sa_e8_of ?_ rfl rfl rfl ?_ rfl rfl rfl
  · show sa_t1 k w (sa_drn k w y) + (sa_sgA (y 1) + sa_mj (y 1) (y 2) (y 3)) = y 0
    rw [ht]
    exact sa_a4 _ _ _
  · show (y 4 - sa_u1 y) + sa_t1 k w (sa_drn k w y) = y 4
    rw [ht, Int32.sub_add_cancel]
/-- the 64 constants -/
def sa_rkL : List Int32 := [1116352408, 1899447441, -1245643825, -373957723, 961987163, 1508970993, -1841331548, -1424204075, -670586216, 310598401, 607225278, 1426881987, 1925078388, -2132889090, -1680079193, -1046744716, -459576895, -272742522, 264347078, 604807628, 770255983, 1249150122, 1555081692, 1996064986, -1740746414, -1473132947, -1341970488, -1084653625, -958395405, -710438585, 113926993, 338241895, 666307205, 773529912, 1294757372, 1396182291, 1695183700, 1986661051, -2117940946, -1838011259, -1564481375, -1474664885, -1035236496, -949202525, -778901479, -694614492, -200395387, 275423344, 430227734, 506948616, 659060556, 883997877, 958139571, 1322822218, 1537002063, 1747873779, 1955562222, 2024104815, -2067236844, -1933114872, -1866530822, -1538233109, -1090935817, -965641998]
def sa_rk (n : Nat) : Int32 := sa_rkL.getD n 0
def sa_eN (W : Nat → Int32) : Nat → (Nat → Int32) → Nat → Int32
  | 0, x => x
  | n + 1, x => sa_rnd (sa_rk n) (W n) (sa_eN W n x)
def sa_dN (W : Nat → Int32) : Nat → (Nat → Int32) → Nat → Int32
  | 0, x => x
  | n + 1, x => sa_drn (sa_rk (63 - n)) (W (63 - n)) (sa_dN W n x)
def sa_enc (k x : Nat → Int32) : Nat → Int32 := sa_eN (sa_sch k 64) 64 x
def sa_dec (k x : Nat → Int32) : Nat → Int32 := sa_dN (sa_sch k 64) 64 x
theorem sa_back (W x : Nat → Int32) : ∀ n, n ≤ 64 → sa_e8 (sa_dN W n (sa_eN W 64 x)) (sa_eN W (64 - n) x) := by
  intro n
  induction n with
  | zero => intro _ j _; rfl
  | succ n ih =>
    intro h
    have h1 := ih (by omega)
    have e : 64 - n = (63 - n) + 1 := by omega
    have e2 : 64 - (n + 1) = 63 - n := by omega
    show sa_e8 (sa_drn (sa_rk (63 - n)) (W (63 - n)) (sa_dN W n (sa_eN W 64 x))) _
    rw [sa_drn_e8 h1, e, e2]
    exact sa_drn_rnd _ _ _
theorem sa_forth (W y : Nat → Int32) : ∀ n, n ≤ 64 → sa_e8 (sa_eN W n (sa_dN W 64 y)) (sa_dN W (64 - n) y) := by
  intro n
  induction n with
  | zero => intro _ j _; rfl
  | succ n ih =>
    intro h
    have h1 := ih (by omega)
    have e : 64 - n = (63 - n) + 1 := by omega
    have e2 : 64 - (n + 1) = 63 - n := by omega
    have e3 : 63 - (63 - n) = n := by omega
    show sa_e8 (sa_rnd (sa_rk n) (W n) (sa_eN W n (sa_dN W 64 y))) _
    rw [sa_rnd_e8 h1, e, e2]
    show sa_e8 (sa_rnd (sa_rk n) (W n) (sa_drn (sa_rk (63 - (63 - n))) (W (63 - (63 - n))) (sa_dN W (63 - n) y))) _
    rw [e3]
    exact sa_rnd_drn _ _ _
theorem sa_dec_enc (k x : Nat → Int32) : sa_e8 (sa_dec k (sa_enc k x)) x := sa_back _ _ 64 (Nat.le_refl _)
theorem sa_enc_dec (k x : Nat → Int32) : sa_e8 (sa_enc k (sa_dec k x)) x := sa_forth _ _ 64 (Nat.le_refl _)
theorem sa_eN_e8 (W : Nat → Int32) {x y : Nat → Int32} (h : sa_e8 x y) : ∀ n, sa_e8 (sa_eN W n x) (sa_eN W n y) := by
  intro n
  induction n with
  | zero => exact h
  | succ n ih =>
    show sa_e8 (sa_rnd _ _ _) (sa_rnd _ _ _)
    rw [sa_rnd_e8 ih]
    exact fun j _ => rfl
/-! ===== a word's four bytes ===== -/
def sa_by (x : Int32) : Nat → Int32
  | 0 => (x >>> ((24 : Int32) &&& 31)).toInt8.toInt32
  | 1 => (x >>> ((16 : Int32) &&& 31)).toInt8.toInt32
  | 2 => (x >>> ((8 : Int32) &&& 31)).toInt8.toInt32
  | _ => x.toInt8.toInt32
/-- the bytes of a row of words -/
def sa_bs (w : Nat → Int32) : Nat → Int32 := fun j => sa_by (w (j / 4)) (j % 4)
theorem sa_b32 {x y : Int32} (h : x &&& 255 = y &&& 255) : x.toInt8.toInt32 = y.toInt8.toInt32 := by
  have e : x.toInt8 = y.toInt8 := by
    apply Int8.toBitVec_inj.mp
    rw [Int32.toBitVec_toInt8, Int32.toBitVec_toInt8]
    apply BitVec.eq_of_getLsbD_eq
    intro i hi
    have h1 : bt (x &&& 255) i = bt (y &&& 255) i := by rw [h]
    rw [b_and, b_and, b_255, decide_eq_true hi, Bool.and_true, Bool.and_true] at h1
    unfold bt at h1
    rw [BitVec.getLsbD_signExtend, BitVec.getLsbD_signExtend, if_pos (by omega), if_pos (by omega), h1]
  rw [e]
theorem sa_u24 (x : Int32) : (sa_usr x 24).toInt8.toInt32 = sa_by x 0 := by
  refine sa_b32 (b_ext fun i hi => ?_)
  have e1 : bt (sa_usr x 24) i = bt x (24 + i) := b_ushr 24 (by omega) x i
  have e2 : bt (x >>> ((24 : Int32) &&& 31)) i = if 24 + i < 32 then bt x (24 + i) else bt x 31 := b_sshr 24 (by omega) x hi
  rw [b_and, b_and, b_255, e1, e2]
  by_cases h : i < 8
  · rw [if_pos (by omega)]
  · rw [decide_eq_false h, Bool.and_false, Bool.and_false]
theorem sa_u16 (x : Int32) : (sa_usr x 16).toInt8.toInt32 = sa_by x 1 := by
  refine sa_b32 (b_ext fun i hi => ?_)
  have e1 : bt (sa_usr x 16) i = bt x (16 + i) := b_ushr 16 (by omega) x i
  have e2 : bt (x >>> ((16 : Int32) &&& 31)) i = if 16 + i < 32 then bt x (16 + i) else bt x 31 := b_sshr 16 (by omega) x hi
  rw [b_and, b_and, b_255, e1, e2]
  by_cases h : i < 8
  · rw [if_pos (by omega)]
  · rw [decide_eq_false h, Bool.and_false, Bool.and_false]
theorem sa_u8 (x : Int32) : (sa_usr x 8).toInt8.toInt32 = sa_by x 2 := by
  refine sa_b32 (b_ext fun i hi => ?_)
  have e1 : bt (sa_usr x 8) i = bt x (8 + i) := b_ushr 8 (by omega) x i
  have e2 : bt (x >>> ((8 : Int32) &&& 31)) i = if 8 + i < 32 then bt x (8 + i) else bt x 31 := b_sshr 8 (by omega) x hi
  rw [b_and, b_and, b_255, e1, e2]
  by_cases h : i < 8
  · rw [if_pos (by omega)]
  · rw [decide_eq_false h, Bool.and_false, Bool.and_false]
/-- a byte, unsigned -/
def sa_ub (x : Int32) (k : Nat) : Int32 := sa_by x k &&& 255
theorem sa_ub_bt (x : Int32) {k : Nat} (hk : k < 4) {i : Nat} (hi : i < 32) : bt (sa_ub x k) i = (decide (i < 8) && bt x (8 * (3 - k) + i)) := by
  rcases (show k = 0 ∨ k = 1 ∨ k = 2 ∨ k = 3 by omega) with rfl | rfl | rfl | rfl
  · show bt ((x >>> ((24 : Int32) &&& 31)).toInt8.toInt32 &&& 255) i = _
    have e2 : bt (x >>> ((24 : Int32) &&& 31)) i = if 24 + i < 32 then bt x (24 + i) else bt x 31 := b_sshr 24 (by omega) x hi
    rw [bp_b, b_and, b_255, e2]
    by_cases h : i < 8
    · rw [if_pos (by omega), decide_eq_true h, Bool.and_true, Bool.true_and]
    · rw [decide_eq_false h, Bool.and_false, Bool.false_and]
  · show bt ((x >>> ((16 : Int32) &&& 31)).toInt8.toInt32 &&& 255) i = _
    have e2 : bt (x >>> ((16 : Int32) &&& 31)) i = if 16 + i < 32 then bt x (16 + i) else bt x 31 := b_sshr 16 (by omega) x hi
    rw [bp_b, b_and, b_255, e2]
    by_cases h : i < 8
    · rw [if_pos (by omega), decide_eq_true h, Bool.and_true, Bool.true_and]
    · rw [decide_eq_false h, Bool.and_false, Bool.false_and]
  · show bt ((x >>> ((8 : Int32) &&& 31)).toInt8.toInt32 &&& 255) i = _
    have e2 : bt (x >>> ((8 : Int32) &&& 31)) i = if 8 + i < 32 then bt x (8 + i) else bt x 31 := b_sshr 8 (by omega) x hi
    rw [bp_b, b_and, b_255, e2]
    by_cases h : i < 8
    · rw [if_pos (by omega), decide_eq_true h, Bool.and_true, Bool.true_and]
    · rw [decide_eq_false h, Bool.and_false, Bool.false_and]
  · show bt (x.toInt8.toInt32 &&& 255) i = _
    rw [bp_b, b_and, b_255, Bool.and_comm]
    show _ = (decide (i < 8) && bt x (0 + i))
    rw [Nat.zero_add]
/-- four bytes make the word -/
theorem sa_asm (x : Int32) : sa_ub x 0 <<< ((24 : Int32) &&& 31) ||| sa_ub x 1 <<< ((16 : Int32) &&& 31) ||| sa_ub x 2 <<< ((8 : Int32) &&& 31) ||| sa_ub x 3 = x := by
  refine b_ext fun i hi => ?_
  rw [b_or, b_or, b_or, b_shl24 _ hi, b_shl16 _ hi, b_shl8 _ hi, sa_ub_bt x (by omega) (by omega), sa_ub_bt x (by omega) (by omega), sa_ub_bt x (by omega) (by omega), sa_ub_bt x (by omega) hi]
  rcases (show i < 8 ∨ (8 ≤ i ∧ i < 16) ∨ (16 ≤ i ∧ i < 24) ∨ 24 ≤ i by omega) with h | h | h | h
  · rw [decide_eq_false (show ¬ 24 ≤ i by omega), decide_eq_false (show ¬ 16 ≤ i by omega), decide_eq_false (show ¬ 8 ≤ i by omega), decide_eq_true h]
    simp
  · rw [decide_eq_false (show ¬ 24 ≤ i by omega), decide_eq_false (show ¬ 16 ≤ i by omega), decide_eq_true h.1, decide_eq_true (show i - 8 < 8 by omega), decide_eq_false (show ¬ i < 8 by omega)]
    simp
    congr 1
    omega
  · rw [decide_eq_false (show ¬ 24 ≤ i by omega), decide_eq_true h.1, decide_eq_false (show ¬ i - 8 < 8 by omega), decide_eq_true (show i - 16 < 8 by omega), decide_eq_false (show ¬ i < 8 by omega)]
    simp
    congr 1
    omega
  · rw [decide_eq_true h, decide_eq_true (show i - 24 < 8 by omega), decide_eq_false (show ¬ i - 16 < 8 by omega), decide_eq_false (show ¬ i - 8 < 8 by omega), decide_eq_false (show ¬ i < 8 by omega)]
    simp
    congr 1
    omega
/-- .. and so they do when they are shifted in one by one -/
def sa_ac (x : Int32) : Nat → Int32
  | 0 => 0
  | n + 1 => sa_ac x n <<< ((8 : Int32) &&& 31) ||| sa_ub x n
theorem sa_ac4 (x : Int32) : sa_ac x 4 = x := by
  refine Eq.trans ?_ (sa_asm x)
  show (((0 <<< ((8 : Int32) &&& 31) ||| sa_ub x 0) <<< ((8 : Int32) &&& 31) ||| sa_ub x 1) <<< ((8 : Int32) &&& 31) ||| sa_ub x 2) <<< ((8 : Int32) &&& 31) ||| sa_ub x 3 = _
  refine b_ext fun i hi => ?_
  rw [b_or, b_or, b_or, b_or, b_shl24 _ hi, b_shl16 _ hi, b_shl8 (sa_ub x 2) hi, b_shl8 _ hi]
  congr 1
  by_cases h1 : 8 ≤ i
  · rw [decide_eq_true h1, Bool.true_and, Bool.true_and, b_or, b_shl8 _ (show i - 8 < 32 by omega)]
    congr 1
    by_cases h2 : 16 ≤ i
    · rw [decide_eq_true (show 8 ≤ i - 8 by omega), decide_eq_true h2, Bool.true_and, Bool.true_and, b_or, b_shl8 _ (show i - 8 - 8 < 32 by omega), show i - 8 - 8 = i - 16 by omega]
      congr 1
      by_cases h3 : 24 ≤ i
      · rw [decide_eq_true (show 8 ≤ i - 16 by omega), decide_eq_true h3, Bool.true_and, Bool.true_and, b_or, b_shl8 _ (show i - 16 - 8 < 32 by omega), b_0, Bool.and_false, Bool.false_or, show i - 16 - 8 = i - 24 by omega]
      · rw [decide_eq_false (show ¬ 8 ≤ i - 16 by omega), decide_eq_false h3, Bool.false_and, Bool.false_and]
    · rw [decide_eq_false (show ¬ 8 ≤ i - 8 by omega), decide_eq_false h2, decide_eq_false (show ¬ 24 ≤ i by omega), Bool.false_and, Bool.false_and, Bool.false_and, Bool.false_or]
  · rw [decide_eq_false h1, decide_eq_false (show ¬ 16 ≤ i by omega), decide_eq_false (show ¬ 24 ≤ i by omega), Bool.false_and, Bool.false_and, Bool.false_and, Bool.false_and, Bool.false_or, Bool.false_or]
theorem sa_ub_n (x : Int32) (k : Nat) : ∃ j : Nat, j < 256 ∧ sa_ub x k = nI j := pk_andE (sa_by x k) 8 (by decide)
/-- the bytes when one word is put at its place -/
theorem sa_bs_put (w : Nat → Int32) (p : Nat) (x : Int32) : upd (upd (upd (upd (sa_bs w) (4 * p) (sa_by x 0)) (4 * p + 1) (sa_by x 1)) (4 * p + 2) (sa_by x 2)) (4 * p + 3) (sa_by x 3) = sa_bs (upd w p x) := by
  funext j
  unfold sa_bs upd
  by_cases h : j / 4 = p
  · rw [if_pos h]
    by_cases h3 : j = 4 * p + 3
    · rw [if_pos h3, show j % 4 = 3 by omega]
    rw [if_neg h3]
    by_cases h2 : j = 4 * p + 2
    · rw [if_pos h2, show j % 4 = 2 by omega]
    rw [if_neg h2]
    by_cases h1 : j = 4 * p + 1
    · rw [if_pos h1, show j % 4 = 1 by omega]
    rw [if_neg h1, if_pos (show j = 4 * p by omega), show j % 4 = 0 by omega]
  · rw [if_neg h, if_neg (show ¬ j = 4 * p + 3 by omega), if_neg (show ¬ j = 4 * p + 2 by omega), if_neg (show ¬ j = 4 * p + 1 by omega), if_neg (show ¬ j = 4 * p by omega)]
theorem sa_bs0 (w : Nat → Int32) (p : Nat) : sa_bs w (4 * p) = sa_by (w p) 0 := by
  show sa_by (w (4 * p / 4)) (4 * p % 4) = _
  rw [show 4 * p / 4 = p by omega, show 4 * p % 4 = 0 by omega]
theorem sa_bs1 (w : Nat → Int32) (p : Nat) : sa_bs w (4 * p + 1) = sa_by (w p) 1 := by
  show sa_by (w ((4 * p + 1) / 4)) ((4 * p + 1) % 4) = _
  rw [show (4 * p + 1) / 4 = p by omega, show (4 * p + 1) % 4 = 1 by omega]
theorem sa_bs2 (w : Nat → Int32) (p : Nat) : sa_bs w (4 * p + 2) = sa_by (w p) 2 := by
  show sa_by (w ((4 * p + 2) / 4)) ((4 * p + 2) % 4) = _
  rw [show (4 * p + 2) / 4 = p by omega, show (4 * p + 2) % 4 = 2 by omega]
theorem sa_bs3 (w : Nat → Int32) (p : Nat) : sa_bs w (4 * p + 3) = sa_by (w p) 3 := by
  show sa_by (w ((4 * p + 3) / 4)) ((4 * p + 3) % 4) = _
  rw [show (4 * p + 3) / 4 = p by omega, show (4 * p + 3) % 4 = 3 by omega]
theorem sa_by_nar (x : Int32) (k : Nat) : vp_nar .byte (sa_by x k) = sa_by x k := by
  unfold sa_by
  split <;> exact pk_vb _
theorem sa_by_fit (x : Int32) (k : Nat) : fits .byte (.int (sa_by x k)) = true := by
  unfold sa_by
  split <;> exact pk_fb _
theorem sa_bs_z : sa_bs (fun _ => 0) = fun _ => 0 := by
  funext j
  show sa_by 0 (j % 4) = 0
  rcases (show j % 4 = 0 ∨ j % 4 = 1 ∨ j % 4 = 2 ∨ j % 4 = 3 by omega) with h | h | h | h <;> rw [h] <;> decide
end
section
/-! ROWS of this claim's own over the kit's: arrays read and written by plain places, worlds' contents exchanged, what a call asks and gives. -/
section SX
variable {p : Program} {l : Launch} {e : Env} {R : Room} {s : State} {m : MethodId} {args : Array Value} {below : List Frame} {meth : Method} {c : Code} {H : Heap} {locs : List Loc} {cells slots : Nat} {Q : State → Prop}
variable {cc : ByteArray} {pc : Nat} {ls : Array Slot} {rest : List Value} {A : Nat → Prop} {H0 : Heap} {D : va_G} {cl : List vw_C} {ws : va_W} {tys : List (ClassId × FieldType)} {a : Nat}
theorem sx_top {x v : Int32} (h : x = v) (k : W p l e R s m args below meth c H locs cells slots Q (F0 m pc ls (.int v :: rest))) : W p l e R s m args below meth c H locs cells slots Q (F0 m pc ls (.int x :: rest)) := by
  subst h
  exact k
theorem sx_arrV {cA : ClassId} {n : Nat} {f g : Nat → Value} (h : ∀ j, j < n → f j = g j) : arrV cA n f = arrV cA n g := by
  unfold arrV
  have e : (fun j : Fin n => f j.val) = fun j : Fin n => g j.val := funext fun j => h j.val j.isLt
  rw [e]
theorem sx_ext (hP : va_P D cl ws H) (q0 : Nat) {cA : ClassId} {n : Nat} {f : Nat → Int32} (g : Nat → Int32) (ha : ws[q0]? = some (a, .inl (cA, n, .inl f))) (hg : ∀ j, j < n → f j = g j) : va_P D cl (ws.set q0 (a, .inl (cA, n, .inl g))) H := by
  intro k q hk
  have hl := (List.getElem?_eq_some_iff.mp ha).1
  by_cases hkp : k = q0
  · subst hkp
    rw [List.getElem?_set_self hl] at hk
    cases hk
    have h1 : H[a]? = some (vp_cell cA (n, .inl f)) := hP k _ ha
    show H[a]? = some (vp_cell cA (n, .inl g))
    rw [h1]
    show some (arrV cA n (fun j => .int (f j))) = some (arrV cA n (fun j => .int (g j)))
    rw [sx_arrV (f := fun j => Value.int (f j)) (g := fun j => Value.int (g j)) (fun j hj => by rw [hg j hj])]
  · rw [List.getElem?_set_ne (Ne.symm hkp)] at hk
    exact hP k q hk
theorem sx_iald (hexec : p.tables.exec = Jvm.exec) (hb : c.code = cc) (hK : va_K D cl tys s) (hP : va_P D cl ws H) (q0 t0 : Nat) {cA : ClassId} {n : Nat} {f : Nat → Int32} (ha : ws[q0]? = some (a, .inl (cA, n, .inl f))) (ht : tys[t0]? = some (cA, .int)) (j : Nat) {i v : Int32} (hi : i = nI j) (hj : j < n) (hn : n < 2 ^ 31) (hv : f j = v) (hdg : decode cc pc = .ok (.iaload, 1)) (kk : W p l e R s m args below meth c H locs cells slots Q (F0 m (pc + 1) ls (.int v :: rest))) : W p l e R s m args below meth c H locs cells slots Q (F0 m pc ls (.int i :: .ref a :: rest)) := by
  subst hi
  refine va_iald hexec hb hK hP q0 t0 ha ht (vp_in_nI hj hn) hdg ?_
  rw [nI_clamp (Nat.lt_trans hj hn), hv]
  exact kk
theorem sx_bald (hexec : p.tables.exec = Jvm.exec) (hb : c.code = cc) (hK : va_K D cl tys s) (hP : va_P D cl ws H) (q0 t0 : Nat) {cA : ClassId} {n : Nat} {f : Nat → Int32} (ha : ws[q0]? = some (a, .inl (cA, n, .inl f))) (ht : tys[t0]? = some (cA, .byte)) (j : Nat) {i v : Int32} (hi : i = nI j) (hj : j < n) (hn : n < 2 ^ 31) (hv : f j = v) (hdg : decode cc pc = .ok (.baload, 1)) (kk : W p l e R s m args below meth c H locs cells slots Q (F0 m (pc + 1) ls (.int v :: rest))) : W p l e R s m args below meth c H locs cells slots Q (F0 m pc ls (.int i :: .ref a :: rest)) := by
  subst hi
  refine va_bald hexec hb hK hP q0 t0 ha ht (vp_in_nI hj hn) hdg ?_
  rw [nI_clamp (Nat.lt_trans hj hn), hv]
  exact kk
theorem sx_set2 {q0 n : Nat} {cA : ClassId} {f g : Nat → Int32} (hP : va_P D cl (ws.set q0 (a, .inl (cA, n, .inl f))) H) (hl : q0 < ws.length) (hg : ∀ j, j < n → f j = g j) : va_P D cl (ws.set q0 (a, .inl (cA, n, .inl g))) H := by
  have h := sx_ext hP q0 g (List.getElem?_set_self hl) hg
  rw [List.set_set] at h
  exact h
theorem sx_iast (hexec : p.tables.exec = Jvm.exec) (hb : c.code = cc) (hK : va_K D cl tys s) (hP : va_P D cl ws H) (hD : va_D A ws) (hS : va_S A H0 H locs) (q0 t0 : Nat) {cA : ClassId} {n : Nat} {f : Nat → Int32} (g : Nat → Int32) (ha : ws[q0]? = some (a, .inl (cA, n, .inl f))) (ht : tys[t0]? = some (cA, .int)) (j : Nat) {i x : Int32} (hi : i = nI j) (hj : j < n) (hn : n < 2 ^ 31) (hg : ∀ t, t < n → upd f j x t = g t) (hdg : decode cc pc = .ok (.iastore, 1)) (kk : ∀ (H1 : Heap) (locs1 : List Loc), va_P D cl (ws.set q0 (a, .inl (cA, n, .inl g))) H1 → va_D A (ws.set q0 (a, .inl (cA, n, .inl g))) → va_S A H0 H1 locs1 → W p l e R s m args below meth c H1 locs1 cells slots Q (F0 m (pc + 1) ls rest)) : W p l e R s m args below meth c H locs cells slots Q (F0 m pc ls (.int x :: .int i :: .ref a :: rest)) := by
  subst hi
  refine va_iast hexec hb hK hP hD hS q0 t0 ha ht (vp_in_nI hj hn) hdg (fun H1 locs1 hP1 hD1 hS1 => ?_)
  rw [nI_clamp (Nat.lt_trans hj hn)] at hP1
  exact kk H1 locs1 (sx_set2 hP1 (List.getElem?_eq_some_iff.mp ha).1 hg) (hD.set ha) hS1
theorem sx_bast (hexec : p.tables.exec = Jvm.exec) (hb : c.code = cc) (hK : va_K D cl tys s) (hP : va_P D cl ws H) (hD : va_D A ws) (hS : va_S A H0 H locs) (q0 t0 : Nat) {cA : ClassId} {n : Nat} {f : Nat → Int32} (g : Nat → Int32) (ha : ws[q0]? = some (a, .inl (cA, n, .inl f))) (ht : tys[t0]? = some (cA, .byte)) (j : Nat) {i x : Int32} (hi : i = nI j) (hj : j < n) (hn : n < 2 ^ 31) (hx : vp_nar .byte x = x) (hg : ∀ t, t < n → upd f j x t = g t) (hdg : decode cc pc = .ok (.bastore, 1)) (kk : ∀ (H1 : Heap) (locs1 : List Loc), va_P D cl (ws.set q0 (a, .inl (cA, n, .inl g))) H1 → va_D A (ws.set q0 (a, .inl (cA, n, .inl g))) → va_S A H0 H1 locs1 → W p l e R s m args below meth c H1 locs1 cells slots Q (F0 m (pc + 1) ls rest)) : W p l e R s m args below meth c H locs cells slots Q (F0 m pc ls (.int x :: .int i :: .ref a :: rest)) := by
  subst hi
  refine va_bast hexec hb hK hP hD hS q0 t0 ha ht (vp_in_nI hj hn) hdg (fun H1 locs1 hP1 hD1 hS1 => ?_)
  rw [nI_clamp (Nat.lt_trans hj hn), hx] at hP1
  exact kk H1 locs1 (sx_set2 hP1 (List.getElem?_eq_some_iff.mp ha).1 hg) (hD.set ha) hS1
end SX
/-- the classes whose objects the worlds hold: 0 the desk, 1 the engine, 2 the key's parameter -/
abbrev vwCl : List vw_C := [(RX1, TX1, 3), (RX2, TX2, 2), (RX3, TX3, 1)]
/-- what every contract asks of its world -/
def sx_Pre (D : va_G) (ws : va_W) (tys : List (ClassId × FieldType)) (sz : Nat) (U : State) : Prop := U.heap.size = sz ∧ va_P D vwCl ws U.heap ∧ va_K D vwCl tys U ∧ va_D (fun _ => True) ws
theorem sx_Pre.blind {D : va_G} {ws : va_W} {tys : List (ClassId × FieldType)} {sz : Nat} {U : State} {a : Array Value} {g : JFrame} {mk : MethodId} (h : sx_Pre D ws tys sz U) : sx_Pre D ws tys sz (U.calling g mk a) := by
  obtain ⟨q1, qP, qK, qD⟩ := h
  exact ⟨q1, qP, va_K.moved (u := U) (U := U.calling g mk a) (Vm.Alike.refl U.vm) qK, qD⟩
theorem sx_blind {D : va_G} {ws : va_W} {tys : List (ClassId × FieldType)} {sz : Nat} {av : List Value} : FrameBlind (va_Pc av (sx_Pre D ws tys sz)) := fun _ _ _ _ q => ⟨q.1, q.2.blind⟩
theorem sx_Pre.mk {D : va_G} {A : Nat → Prop} {ws : va_W} {tys : List (ClassId × FieldType)} {s U : State} {H : Heap} (hP : va_P D vwCl ws H) (hK : va_K D vwCl tys s) (hD : va_D A ws) (hU : U.heap = H) (hW : s.WarmedH U.vm) : sx_Pre D ws tys H.size U := ⟨by rw [hU], by rw [hU]; exact hP, va_K.moved hW.alike hK, hD.weaken (fun _ _ _ _ => trivial)⟩
/-- what every contract gives of its world -/
def sx_Post (D : va_G) (A : Nat → Prop) (ws : va_W) (t : State) : Prop := va_P D vwCl ws t.heap ∧ va_D A ws
/-- .. with new arrays -/
def sx_PostK (D : va_G) (A : Nat → Prop) (ws : va_W) (tys : List (ClassId × FieldType)) (t : State) : Prop := va_P D vwCl ws t.heap ∧ va_D A ws ∧ va_K D vwCl tys t
/-- a static table of 64 ints that nobody writes -/
def sx_St (C n : String) (t : Nat) (f : Nat → Int32) (A : Nat → Prop) (U : State) : Prop := va_Z C n "[I" (.ref t) A U U.heap ∧ va_T .int t 64 (fun j => .int (f j)) A U U.heap
theorem sx_St.pass {C n : String} {t : Nat} {f : Nat → Int32} {A B : Nat → Prop} {s U : State} {H : Heap} {locs : List Loc} (h : sx_St C n t f A s) (hS : va_S A s.heap H locs) (hB : ∀ q, B q → A q) (hU : U.heap = H) (hW : s.WarmedH U.vm) : sx_St C n t f B U := by
  refine ⟨?_, ?_⟩
  · rw [hU]
    exact va_Z.moved hW.alike ((va_Z.kept h.1 hS.2.1).narrow hB)
  · rw [hU]
    exact va_T.moved hW.alike ((va_T.kept h.2 hS.2.1).narrow hB)
theorem sx_St.blind {C n : String} {t : Nat} {f : Nat → Int32} {A : Nat → Prop} {U : State} {a : Array Value} {g : JFrame} {mk : MethodId} (h : sx_St C n t f A U) : sx_St C n t f A (U.calling g mk a) :=
  ⟨va_Z.moved (u := U) (U := U.calling g mk a) (Vm.Alike.refl U.vm) h.1, va_T.moved (u := U) (U := U.calling g mk a) (Vm.Alike.refl U.vm) h.2⟩
def sx_PreE (C n : String) (t : Nat) (f : Nat → Int32) (A : Nat → Prop) (D : va_G) (ws : va_W) (tys : List (ClassId × FieldType)) (sz : Nat) (U : State) : Prop := sx_St C n t f A U ∧ sx_Pre D ws tys sz U
theorem sx_blindE {C n : String} {t : Nat} {f : Nat → Int32} {A : Nat → Prop} {D : va_G} {ws : va_W} {tys : List (ClassId × FieldType)} {sz : Nat} {av : List Value} : FrameBlind (va_Pc av (sx_PreE C n t f A D ws tys sz)) := fun _ _ _ _ q => ⟨q.1, q.2.1.blind, q.2.2.blind⟩
end
section
/-! ShacalDesk's methods, by contract -/
set_option maxHeartbeats 4000000 in
set_option maxRecDepth 100000 in
/-- word(to, at, w): the four bytes of w at the word place pp -/
theorem mt_word (l : Launch) (dC : Nat → ClassId) (dI : Nat → Nat → Nat) (sz : Nat) (q : Nat) (cB : ClassId) (n : Nat) (f : Nat → Int32) (pp : Nat) (w0 : Int32) (hp : 4 * pp + 3 < n) (hn : n < 2 ^ 31) : Met l yX1_word (ws_ yX1_word cX1_word 3 none) ({ frames := 0, cells := 0, slots := 0, locals := 0 }) (va_Pc [.ref q, .int (nI (4 * pp)), .int w0] (sx_Pre (dC, dI) [(q, .inl (cB, n, .inl (sa_bs f)))] [(cB, .byte)] sz)) (va_Qv (fun _ : Unit => True) (fun _ t => sx_Post (dC, dI) (va_A [(q, .inl (cB, n, .inl (sa_bs f)))] sz) [(q, .inl (cB, n, .inl (sa_bs (upd f pp w0))))] t) (va_A [(q, .inl (cB, n, .inl (sa_bs f)))] sz)) 0 0 (va_A [(q, .inl (cB, n, .inl (sa_bs f)))] sz) := by
  refine Met.ofW (cc := cX1_word) (maxL := 3) (ret := none) (by decide) rfl ?_
  intro p e s m args below meth c s₁ B hml hv
  obtain ⟨rfl, hsz, hP, hK, hD0⟩ := hv
  have hx := B.exec
  have hb := B.bytes
  have hr := B.returns
  have hts := atoms_spec (ws := ws_ yX1_word cX1_word 3 none) B.pre
  have hts : ∀ w ∈ lw_all, w.before _ s = true := fun w h => hts w (List.mem_cons_of_mem _ h)
  have hown : s.vm.findClass RX1 = some m.cls := findClass_of_methodNamed B.named
  have hlocks := B.notSynchronized
  subst hsz
  have hD := hD0.self (sz := s.heap.size)
  generalize hAe : va_A [(q, .inl (cB, n, .inl (sa_bs f)))] s.heap.size = A at hD ⊢
  have hA : ∀ q : Nat, s.heap.size ≤ q → A q := fun q h => by rw [← hAe]; exact Or.inr h
  have hS : va_S A s.heap s.heap [] := va_S.rf
  have hP : va_P (dC, dI) vwCl [(q, .inl (cB, n, .inl (sa_bs f)))] s.heap := hP
  have hl := lv_entry ([.ref q, .int (nI (4 * pp)), .int w0]) (n := 3) (Nat.le_of_ble_eq_true rfl)
  rw [lg_entry_eq]
  generalize (lg_sl ([.ref q, .int (nI (4 * pp)), .int w0]) ++ List.replicate (3 - (lg_sl ([.ref q, .int (nI (4 * pp)), .int w0])).length) Slot.unset).toArray = ls at hl ⊢
  have hl : lv_has ls 3 [(0, .ref q), (1, .int (nI (4 * pp))), (2, .int w0)] := hl
  refine lv_aload_n hx hb dX1_word_0 rfl (lv_at hl 0 rfl) ?_
  refine lv_iload_n hx hb dX1_word_1 rfl (lv_at hl 1 rfl) ?_
  refine lv_iload_n hx hb dX1_word_2 rfl (lv_at hl 2 rfl) ?_
  refine lv_bipush (v := 24) hx hb dX1_word_3 (by decide) ?_
  refine lv_ishr hx hb dX1_word_5 ?_
  refine lv_i2b (v := (w0 >>> (24 &&& 31)).toInt8.toInt32) hx hb dX1_word_6 rfl ?_
  refine sx_top (v := sa_by w0 0) (rfl) ?_
  refine sx_bast (g := upd (sa_bs f) (4 * pp) (sa_by w0 0)) hx hb hK hP hD hS 0 0 rfl rfl (4 * pp) rfl (by omega) hn (by first | exact pk_vb _ | exact sa_by_nar _ _) (fun _ _ => rfl) dX1_word_7 (fun H locs hP hD hS => ?_)
  have hP : va_P (dC, dI) vwCl [(q, .inl (cB, n, .inl (upd (sa_bs f) (4 * pp) (sa_by w0 0))))] H := hP
  have hD : va_D A [(q, .inl (cB, n, .inl (upd (sa_bs f) (4 * pp) (sa_by w0 0))))] := hD
  refine lv_aload_n hx hb dX1_word_8 rfl (lv_at hl 0 rfl) ?_
  refine lv_iload_n hx hb dX1_word_9 rfl (lv_at hl 1 rfl) ?_
  refine lv_iconst (v := 1) hx hb dX1_word_10 (by decide) ?_
  refine lv_iadd hx hb dX1_word_11 ?_
  refine sx_top (v := nI ((4 * pp) + 1)) (nI_add (4 * pp) 1) ?_
  refine lv_iload_n hx hb dX1_word_12 rfl (lv_at hl 2 rfl) ?_
  refine lv_bipush (v := 16) hx hb dX1_word_13 (by decide) ?_
  refine lv_ishr hx hb dX1_word_15 ?_
  refine lv_i2b (v := (w0 >>> (16 &&& 31)).toInt8.toInt32) hx hb dX1_word_16 rfl ?_
  refine sx_top (v := sa_by w0 1) (rfl) ?_
  refine sx_bast (g := upd (upd (sa_bs f) (4 * pp) (sa_by w0 0)) ((4 * pp) + 1) (sa_by w0 1)) hx hb hK hP hD hS 0 0 rfl rfl ((4 * pp) + 1) rfl (by omega) hn (by first | exact pk_vb _ | exact sa_by_nar _ _) (fun _ _ => rfl) dX1_word_17 (fun H locs hP hD hS => ?_)
  have hP : va_P (dC, dI) vwCl [(q, .inl (cB, n, .inl (upd (upd (sa_bs f) (4 * pp) (sa_by w0 0)) ((4 * pp) + 1) (sa_by w0 1))))] H := hP
  have hD : va_D A [(q, .inl (cB, n, .inl (upd (upd (sa_bs f) (4 * pp) (sa_by w0 0)) ((4 * pp) + 1) (sa_by w0 1))))] := hD
  refine lv_aload_n hx hb dX1_word_18 rfl (lv_at hl 0 rfl) ?_
  refine lv_iload_n hx hb dX1_word_19 rfl (lv_at hl 1 rfl) ?_
  refine lv_iconst (v := 2) hx hb dX1_word_20 (by decide) ?_
  refine lv_iadd hx hb dX1_word_21 ?_
  refine sx_top (v := nI ((4 * pp) + 2)) (nI_add (4 * pp) 2) ?_
  refine lv_iload_n hx hb dX1_word_22 rfl (lv_at hl 2 rfl) ?_
  refine lv_bipush (v := 8) hx hb dX1_word_23 (by decide) ?_
  refine lv_ishr hx hb dX1_word_25 ?_
  refine lv_i2b (v := (w0 >>> (8 &&& 31)).toInt8.toInt32) hx hb dX1_word_26 rfl ?_
  refine sx_top (v := sa_by w0 2) (rfl) ?_
  refine sx_bast (g := upd (upd (upd (sa_bs f) (4 * pp) (sa_by w0 0)) ((4 * pp) + 1) (sa_by w0 1)) ((4 * pp) + 2) (sa_by w0 2)) hx hb hK hP hD hS 0 0 rfl rfl ((4 * pp) + 2) rfl (by omega) hn (by first | exact pk_vb _ | exact sa_by_nar _ _) (fun _ _ => rfl) dX1_word_27 (fun H locs hP hD hS => ?_)
  have hP : va_P (dC, dI) vwCl [(q, .inl (cB, n, .inl (upd (upd (upd (sa_bs f) (4 * pp) (sa_by w0 0)) ((4 * pp) + 1) (sa_by w0 1)) ((4 * pp) + 2) (sa_by w0 2))))] H := hP
  have hD : va_D A [(q, .inl (cB, n, .inl (upd (upd (upd (sa_bs f) (4 * pp) (sa_by w0 0)) ((4 * pp) + 1) (sa_by w0 1)) ((4 * pp) + 2) (sa_by w0 2))))] := hD
  refine lv_aload_n hx hb dX1_word_28 rfl (lv_at hl 0 rfl) ?_
  refine lv_iload_n hx hb dX1_word_29 rfl (lv_at hl 1 rfl) ?_
  refine lv_iconst (v := 3) hx hb dX1_word_30 (by decide) ?_
  refine lv_iadd hx hb dX1_word_31 ?_
  refine sx_top (v := nI ((4 * pp) + 3)) (nI_add (4 * pp) 3) ?_
  refine lv_iload_n hx hb dX1_word_32 rfl (lv_at hl 2 rfl) ?_
  refine lv_i2b (v := w0.toInt8.toInt32) hx hb dX1_word_33 rfl ?_
  refine sx_top (v := sa_by w0 3) (rfl) ?_
  refine sx_bast (g := upd (upd (upd (upd (sa_bs f) (4 * pp) (sa_by w0 0)) ((4 * pp) + 1) (sa_by w0 1)) ((4 * pp) + 2) (sa_by w0 2)) ((4 * pp) + 3) (sa_by w0 3)) hx hb hK hP hD hS 0 0 rfl rfl ((4 * pp) + 3) rfl (by omega) hn (by first | exact pk_vb _ | exact sa_by_nar _ _) (fun _ _ => rfl) dX1_word_34 (fun H locs hP hD hS => ?_)
  have hP : va_P (dC, dI) vwCl [(q, .inl (cB, n, .inl (upd (upd (upd (upd (sa_bs f) (4 * pp) (sa_by w0 0)) ((4 * pp) + 1) (sa_by w0 1)) ((4 * pp) + 2) (sa_by w0 2)) ((4 * pp) + 3) (sa_by w0 3))))] H := hP
  have hD : va_D A [(q, .inl (cB, n, .inl (upd (upd (upd (upd (sa_bs f) (4 * pp) (sa_by w0 0)) ((4 * pp) + 1) (sa_by w0 1)) ((4 * pp) + 2) (sa_by w0 2)) ((4 * pp) + 3) (sa_by w0 3))))] := hD
  have hP := sx_ext hP 0 (sa_bs (upd f pp w0)) rfl (fun j _ => congrFun (sa_bs_put f pp w0) j)
  have hD := hD.set (p := 0) (a := q) (e := .inl (cB, n, .inl (sa_bs (upd f pp w0)))) rfl
  have hP : va_P (dC, dI) vwCl [(q, .inl (cB, n, .inl (sa_bs (upd f pp w0))))] H := hP
  have hD : va_D A [(q, .inl (cB, n, .inl (sa_bs (upd f pp w0))))] := hD
  have hP9 := hP.sub (ws' := [(q, .inl (cB, n, .inl (sa_bs (upd f pp w0))))]) [0] rfl
  have hD9 := hD.sub (ws' := [(q, .inl (cB, n, .inl (sa_bs (upd f pp w0))))]) [0] (by decide) rfl
  exact W.vret hx hb hr (fun t ht hW => ⟨⟨(), rfl, trivial, by rw [ht]; exact hP9, hD9⟩, hS.F ht⟩) hS.2.2 dX1_word_35
abbrev sa_k4 (f : Nat → Int32) (pp : Nat) (a b c d : Int32) : Nat → Int32 := upd (upd (upd (upd f (4 * pp) a) (4 * pp + 1) b) (4 * pp + 2) c) (4 * pp + 3) d
set_option maxHeartbeats 4000000 in
set_option maxRecDepth 100000 in
/-- key(part, a, b, c, d): a quarter of the key -/
theorem mt_key (l : Launch) (dC : Nat → ClassId) (dI : Nat → Nat → Nat) (sz : Nat) (h qk qb qo : Nat) (ca : ClassId) (f : Nat → Int32) (pp : Nat) (x0 a0 b0 c0 d0 : Int32) (hx0 : x0 &&& 3 = nI pp) (hp : pp < 4) : Met l yX1_key (ws_ yX1_key cX1_key 7 none) ({ frames := 1, cells := 0, slots := 0, locals := 22 }) (va_Pc [.ref h, .int x0, .int a0, .int b0, .int c0, .int d0] (sx_Pre (dC, dI) [(h, .inr (0, [.ref qk, .ref qb, .ref qo])), (qk, .inl (ca, 64, .inl (sa_bs f)))] [(ca, .byte)] sz)) (va_Qv (fun _ : Unit => True) (fun _ t => sx_Post (dC, dI) (va_A [(h, .inr (0, [.ref qk, .ref qb, .ref qo])), (qk, .inl (ca, 64, .inl (sa_bs f)))] sz) [(h, .inr (0, [.ref qk, .ref qb, .ref qo])), (qk, .inl (ca, 64, .inl (sa_bs (sa_k4 f pp a0 b0 c0 d0))))] t) (va_A [(h, .inr (0, [.ref qk, .ref qb, .ref qo])), (qk, .inl (ca, 64, .inl (sa_bs f)))] sz)) 0 0 (va_A [(h, .inr (0, [.ref qk, .ref qb, .ref qo])), (qk, .inl (ca, 64, .inl (sa_bs f)))] sz) := by
  refine Met.ofW (cc := cX1_key) (maxL := 7) (ret := none) (by decide) rfl ?_
  intro p e s m args below meth c s₁ B hml hv
  obtain ⟨rfl, hsz, hP, hK, hD0⟩ := hv
  have hx := B.exec
  have hb := B.bytes
  have hr := B.returns
  have hts := atoms_spec (ws := ws_ yX1_key cX1_key 7 none) B.pre
  have hts : ∀ w ∈ lw_all, w.before _ s = true := fun w h => hts w (List.mem_cons_of_mem _ h)
  have hown : s.vm.findClass RX1 = some m.cls := findClass_of_methodNamed B.named
  have hlocks := B.notSynchronized
  subst hsz
  have hD := hD0.self (sz := s.heap.size)
  generalize hAe : va_A [(h, .inr (0, [.ref qk, .ref qb, .ref qo])), (qk, .inl (ca, 64, .inl (sa_bs f)))] s.heap.size = A at hD ⊢
  have hA : ∀ q : Nat, s.heap.size ≤ q → A q := fun q h => by rw [← hAe]; exact Or.inr h
  have hS : va_S A s.heap s.heap [] := va_S.rf
  have hP : va_P (dC, dI) vwCl [(h, .inr (0, [.ref qk, .ref qb, .ref qo])), (qk, .inl (ca, 64, .inl (sa_bs f)))] s.heap := hP
  have hl := lv_entry ([.ref h, .int x0, .int a0, .int b0, .int c0, .int d0]) (n := 7) (Nat.le_of_ble_eq_true rfl)
  rw [lg_entry_eq]
  generalize (lg_sl ([.ref h, .int x0, .int a0, .int b0, .int c0, .int d0]) ++ List.replicate (7 - (lg_sl ([.ref h, .int x0, .int a0, .int b0, .int c0, .int d0])).length) Slot.unset).toArray = ls at hl ⊢
  have hl : lv_has ls 7 [(0, .ref h), (1, .int x0), (2, .int a0), (3, .int b0), (4, .int c0), (5, .int d0)] := hl
  refine lv_iload_n hx hb dX1_key_0 rfl (lv_at hl 1 rfl) ?_
  refine lv_iconst (v := 3) hx hb dX1_key_1 (by decide) ?_
  refine lv_iand hx hb dX1_key_2 ?_
  refine sx_top (v := nI pp) (hx0) ?_
  refine lv_iconst (v := 4) hx hb dX1_key_3 (by decide) ?_
  refine lv_ishl hx hb dX1_key_4 ?_
  refine sx_top (v := nI (4 * (4 * pp))) ((pk_shlN (4 &&& 31) 4 (by decide) (by omega)).trans (congrArg nI (by omega))) ?_
  refine lv_istore (lv' := [(6, .int (nI (4 * (4 * pp)))), (0, .ref h), (1, .int x0), (2, .int a0), (3, .int b0), (4, .int c0), (5, .int d0)]) hx hb dX1_key_5 hl (by decide) rfl (fun ls hl => ?_)
  refine lv_aload_n hx hb dX1_key_7 rfl (lv_at hl 1 rfl) ?_
  refine va_get (D := (dC, dI)) (ci := 0) (v := .ref qk) (C := RX1) (T := TX1) (N := 3) hx hb hts in_X1 hown hK hP 0 rfl rfl 0 (by decide) (hts _ q28) (fun _ h9 => h9) rfl dX1_key_8 ?_
  refine lv_iload hx hb dX1_key_11 (lv_at hl 0 rfl) ?_
  refine lv_iload_n hx hb dX1_key_13 rfl (lv_at hl 3 rfl) ?_
  have hPc := hP.sub (ws' := [(qk, .inl (ca, 64, .inl (sa_bs f)))]) [1] rfl
  have hDc := hD.sub (ws' := [(qk, .inl (ca, 64, .inl (sa_bs f)))]) [1] (by decide) rfl
  have hKc := hK.sub (tys' := [(ca, .byte)]) [0] rfl
  have hFc := va_free (wc := [(qk, .inl (ca, 64, .inl (sa_bs f)))]) hD hS hA [1] rfl
  refine va_callv (va_runS (As := [.ref qk, .int (nI (4 * (4 * pp))), .int a0]) (rest := []) ⟨hx, hb, hml, hown, hts⟩ (mt_word l dC dI s.heap.size qk ca 64 f (4 * pp) a0 (by omega) (by decide)) (va_cwS 3 hts (lw_S q288 q289 q8 q290) rfl rfl rfl (by decide +kernel) ⟨Nat.le_of_ble_eq_true rfl, Nat.le_of_ble_eq_true rfl⟩) ⟨sx_blind, fun U hU hW => ⟨rfl, sx_Pre.mk hPc hKc hDc hU hW⟩⟩ rfl rfl hl.1 rfl (lv_room (Nat.le_of_ble_eq_true rfl)) dX1_key_14 ⟨Nat.le_of_ble_eq_true rfl, Nat.le_of_ble_eq_true rfl⟩) hS (fun q _ h => hFc q h) hFc (fun u t H1 locs ht hvm hw hB hz1 hk1 hS => ?_)
  obtain ⟨hP1, hD1⟩ := hB
  rw [ht] at hP1
  obtain ⟨hP, hD⟩ := va_join (wr := [(h, .inr (0, [.ref qk, .ref qb, .ref qo]))]) (w1 := [(qk, .inl (ca, 64, .inl (sa_bs (upd f (4 * pp) a0))))]) hP hD [1] [0] rfl rfl (by decide) (by decide) hk1 hFc hP1 hD1
  generalize H1 = H at hP hS ⊢
  have hP : va_P (dC, dI) vwCl [(h, .inr (0, [.ref qk, .ref qb, .ref qo])), (qk, .inl (ca, 64, .inl (sa_bs (upd f (4 * pp) a0))))] H := hP
  have hD : va_D A [(h, .inr (0, [.ref qk, .ref qb, .ref qo])), (qk, .inl (ca, 64, .inl (sa_bs (upd f (4 * pp) a0))))] := hD
  refine W.widen (k := 0) (n := 0) (Nat.le_of_ble_eq_true rfl) (Nat.le_of_ble_eq_true rfl) ?_
  refine lv_aload_n hx hb dX1_key_17 rfl (lv_at hl 1 rfl) ?_
  refine va_get (D := (dC, dI)) (ci := 0) (v := .ref qk) (C := RX1) (T := TX1) (N := 3) hx hb hts in_X1 hown hK hP 0 rfl rfl 0 (by decide) (hts _ q28) (fun _ h9 => h9) rfl dX1_key_18 ?_
  refine lv_iload hx hb dX1_key_21 (lv_at hl 0 rfl) ?_
  refine lv_iconst (v := 4) hx hb dX1_key_23 (by decide) ?_
  refine lv_iadd hx hb dX1_key_24 ?_
  refine sx_top (v := nI ((4 * (4 * pp)) + 4)) (nI_add (4 * (4 * pp)) 4) ?_
  refine sx_top (v := nI (4 * (4 * pp + 1))) (congrArg nI (by omega)) ?_
  refine lv_iload_n hx hb dX1_key_25 rfl (lv_at hl 4 rfl) ?_
  have hPc := hP.sub (ws' := [(qk, .inl (ca, 64, .inl (sa_bs (upd f (4 * pp) a0))))]) [1] rfl
  have hDc := hD.sub (ws' := [(qk, .inl (ca, 64, .inl (sa_bs (upd f (4 * pp) a0))))]) [1] (by decide) rfl
  have hKc := hK.sub (tys' := [(ca, .byte)]) [0] rfl
  have hFc := va_free (wc := [(qk, .inl (ca, 64, .inl (sa_bs (upd f (4 * pp) a0))))]) hD hS hA [1] rfl
  refine va_callv (va_runS (As := [.ref qk, .int (nI (4 * (4 * pp + 1))), .int b0]) (rest := []) ⟨hx, hb, hml, hown, hts⟩ (mt_word l dC dI H.size qk ca 64 (upd f (4 * pp) a0) (4 * pp + 1) b0 (by omega) (by decide)) (va_cwS 3 hts (lw_S q288 q289 q8 q290) rfl rfl rfl (by decide +kernel) ⟨Nat.le_of_ble_eq_true rfl, Nat.le_of_ble_eq_true rfl⟩) ⟨sx_blind, fun U hU hW => ⟨rfl, sx_Pre.mk hPc hKc hDc hU hW⟩⟩ rfl rfl hl.1 rfl (lv_room (Nat.le_of_ble_eq_true rfl)) dX1_key_26 ⟨Nat.le_of_ble_eq_true rfl, Nat.le_of_ble_eq_true rfl⟩) hS (fun q _ h => hFc q h) hFc (fun u t H1 locs ht hvm hw hB hz1 hk1 hS => ?_)
  obtain ⟨hP1, hD1⟩ := hB
  rw [ht] at hP1
  obtain ⟨hP, hD⟩ := va_join (wr := [(h, .inr (0, [.ref qk, .ref qb, .ref qo]))]) (w1 := [(qk, .inl (ca, 64, .inl (sa_bs (upd (upd f (4 * pp) a0) (4 * pp + 1) b0))))]) hP hD [1] [0] rfl rfl (by decide) (by decide) hk1 hFc hP1 hD1
  generalize H1 = H at hP hS ⊢
  have hP : va_P (dC, dI) vwCl [(h, .inr (0, [.ref qk, .ref qb, .ref qo])), (qk, .inl (ca, 64, .inl (sa_bs (upd (upd f (4 * pp) a0) (4 * pp + 1) b0))))] H := hP
  have hD : va_D A [(h, .inr (0, [.ref qk, .ref qb, .ref qo])), (qk, .inl (ca, 64, .inl (sa_bs (upd (upd f (4 * pp) a0) (4 * pp + 1) b0))))] := hD
  refine W.widen (k := 0) (n := 0) (Nat.le_of_ble_eq_true rfl) (Nat.le_of_ble_eq_true rfl) ?_
  refine lv_aload_n hx hb dX1_key_29 rfl (lv_at hl 1 rfl) ?_
  refine va_get (D := (dC, dI)) (ci := 0) (v := .ref qk) (C := RX1) (T := TX1) (N := 3) hx hb hts in_X1 hown hK hP 0 rfl rfl 0 (by decide) (hts _ q28) (fun _ h9 => h9) rfl dX1_key_30 ?_
  refine lv_iload hx hb dX1_key_33 (lv_at hl 0 rfl) ?_
  refine lv_bipush (v := 8) hx hb dX1_key_35 (by decide) ?_
  refine lv_iadd hx hb dX1_key_37 ?_
  refine sx_top (v := nI ((4 * (4 * pp)) + 8)) (nI_add (4 * (4 * pp)) 8) ?_
  refine sx_top (v := nI (4 * (4 * pp + 2))) (congrArg nI (by omega)) ?_
  refine lv_iload hx hb dX1_key_38 (lv_at hl 5 rfl) ?_
  have hPc := hP.sub (ws' := [(qk, .inl (ca, 64, .inl (sa_bs (upd (upd f (4 * pp) a0) (4 * pp + 1) b0))))]) [1] rfl
  have hDc := hD.sub (ws' := [(qk, .inl (ca, 64, .inl (sa_bs (upd (upd f (4 * pp) a0) (4 * pp + 1) b0))))]) [1] (by decide) rfl
  have hKc := hK.sub (tys' := [(ca, .byte)]) [0] rfl
  have hFc := va_free (wc := [(qk, .inl (ca, 64, .inl (sa_bs (upd (upd f (4 * pp) a0) (4 * pp + 1) b0))))]) hD hS hA [1] rfl
  refine va_callv (va_runS (As := [.ref qk, .int (nI (4 * (4 * pp + 2))), .int c0]) (rest := []) ⟨hx, hb, hml, hown, hts⟩ (mt_word l dC dI H.size qk ca 64 (upd (upd f (4 * pp) a0) (4 * pp + 1) b0) (4 * pp + 2) c0 (by omega) (by decide)) (va_cwS 3 hts (lw_S q288 q289 q8 q290) rfl rfl rfl (by decide +kernel) ⟨Nat.le_of_ble_eq_true rfl, Nat.le_of_ble_eq_true rfl⟩) ⟨sx_blind, fun U hU hW => ⟨rfl, sx_Pre.mk hPc hKc hDc hU hW⟩⟩ rfl rfl hl.1 rfl (lv_room (Nat.le_of_ble_eq_true rfl)) dX1_key_40 ⟨Nat.le_of_ble_eq_true rfl, Nat.le_of_ble_eq_true rfl⟩) hS (fun q _ h => hFc q h) hFc (fun u t H1 locs ht hvm hw hB hz1 hk1 hS => ?_)
  obtain ⟨hP1, hD1⟩ := hB
  rw [ht] at hP1
  obtain ⟨hP, hD⟩ := va_join (wr := [(h, .inr (0, [.ref qk, .ref qb, .ref qo]))]) (w1 := [(qk, .inl (ca, 64, .inl (sa_bs (upd (upd (upd f (4 * pp) a0) (4 * pp + 1) b0) (4 * pp + 2) c0))))]) hP hD [1] [0] rfl rfl (by decide) (by decide) hk1 hFc hP1 hD1
  generalize H1 = H at hP hS ⊢
  have hP : va_P (dC, dI) vwCl [(h, .inr (0, [.ref qk, .ref qb, .ref qo])), (qk, .inl (ca, 64, .inl (sa_bs (upd (upd (upd f (4 * pp) a0) (4 * pp + 1) b0) (4 * pp + 2) c0))))] H := hP
  have hD : va_D A [(h, .inr (0, [.ref qk, .ref qb, .ref qo])), (qk, .inl (ca, 64, .inl (sa_bs (upd (upd (upd f (4 * pp) a0) (4 * pp + 1) b0) (4 * pp + 2) c0))))] := hD
  refine W.widen (k := 0) (n := 0) (Nat.le_of_ble_eq_true rfl) (Nat.le_of_ble_eq_true rfl) ?_
  refine lv_aload_n hx hb dX1_key_43 rfl (lv_at hl 1 rfl) ?_
  refine va_get (D := (dC, dI)) (ci := 0) (v := .ref qk) (C := RX1) (T := TX1) (N := 3) hx hb hts in_X1 hown hK hP 0 rfl rfl 0 (by decide) (hts _ q28) (fun _ h9 => h9) rfl dX1_key_44 ?_
  refine lv_iload hx hb dX1_key_47 (lv_at hl 0 rfl) ?_
  refine lv_bipush (v := 12) hx hb dX1_key_49 (by decide) ?_
  refine lv_iadd hx hb dX1_key_51 ?_
  refine sx_top (v := nI ((4 * (4 * pp)) + 12)) (nI_add (4 * (4 * pp)) 12) ?_
  refine sx_top (v := nI (4 * (4 * pp + 3))) (congrArg nI (by omega)) ?_
  refine lv_iload hx hb dX1_key_52 (lv_at hl 6 rfl) ?_
  have hPc := hP.sub (ws' := [(qk, .inl (ca, 64, .inl (sa_bs (upd (upd (upd f (4 * pp) a0) (4 * pp + 1) b0) (4 * pp + 2) c0))))]) [1] rfl
  have hDc := hD.sub (ws' := [(qk, .inl (ca, 64, .inl (sa_bs (upd (upd (upd f (4 * pp) a0) (4 * pp + 1) b0) (4 * pp + 2) c0))))]) [1] (by decide) rfl
  have hKc := hK.sub (tys' := [(ca, .byte)]) [0] rfl
  have hFc := va_free (wc := [(qk, .inl (ca, 64, .inl (sa_bs (upd (upd (upd f (4 * pp) a0) (4 * pp + 1) b0) (4 * pp + 2) c0))))]) hD hS hA [1] rfl
  refine va_callv (va_runS (As := [.ref qk, .int (nI (4 * (4 * pp + 3))), .int d0]) (rest := []) ⟨hx, hb, hml, hown, hts⟩ (mt_word l dC dI H.size qk ca 64 (upd (upd (upd f (4 * pp) a0) (4 * pp + 1) b0) (4 * pp + 2) c0) (4 * pp + 3) d0 (by omega) (by decide)) (va_cwS 3 hts (lw_S q288 q289 q8 q290) rfl rfl rfl (by decide +kernel) ⟨Nat.le_of_ble_eq_true rfl, Nat.le_of_ble_eq_true rfl⟩) ⟨sx_blind, fun U hU hW => ⟨rfl, sx_Pre.mk hPc hKc hDc hU hW⟩⟩ rfl rfl hl.1 rfl (lv_room (Nat.le_of_ble_eq_true rfl)) dX1_key_54 ⟨Nat.le_of_ble_eq_true rfl, Nat.le_of_ble_eq_true rfl⟩) hS (fun q _ h => hFc q h) hFc (fun u t H1 locs ht hvm hw hB hz1 hk1 hS => ?_)
  obtain ⟨hP1, hD1⟩ := hB
  rw [ht] at hP1
  obtain ⟨hP, hD⟩ := va_join (wr := [(h, .inr (0, [.ref qk, .ref qb, .ref qo]))]) (w1 := [(qk, .inl (ca, 64, .inl (sa_bs (upd (upd (upd (upd f (4 * pp) a0) (4 * pp + 1) b0) (4 * pp + 2) c0) (4 * pp + 3) d0))))]) hP hD [1] [0] rfl rfl (by decide) (by decide) hk1 hFc hP1 hD1
  generalize H1 = H at hP hS ⊢
  have hP : va_P (dC, dI) vwCl [(h, .inr (0, [.ref qk, .ref qb, .ref qo])), (qk, .inl (ca, 64, .inl (sa_bs (upd (upd (upd (upd f (4 * pp) a0) (4 * pp + 1) b0) (4 * pp + 2) c0) (4 * pp + 3) d0))))] H := hP
  have hD : va_D A [(h, .inr (0, [.ref qk, .ref qb, .ref qo])), (qk, .inl (ca, 64, .inl (sa_bs (upd (upd (upd (upd f (4 * pp) a0) (4 * pp + 1) b0) (4 * pp + 2) c0) (4 * pp + 3) d0))))] := hD
  refine W.widen (k := 0) (n := 0) (Nat.le_of_ble_eq_true rfl) (Nat.le_of_ble_eq_true rfl) ?_
  have hP9 := hP.sub (ws' := [(h, .inr (0, [.ref qk, .ref qb, .ref qo])), (qk, .inl (ca, 64, .inl (sa_bs (sa_k4 f pp a0 b0 c0 d0))))]) [0, 1] rfl
  have hD9 := hD.sub (ws' := [(h, .inr (0, [.ref qk, .ref qb, .ref qo])), (qk, .inl (ca, 64, .inl (sa_bs (sa_k4 f pp a0 b0 c0 d0))))]) [0, 1] (by decide) rfl
  exact W.vret hx hb hr (fun t ht hW => ⟨⟨(), rfl, trivial, by rw [ht]; exact hP9, hD9⟩, hS.F ht⟩) hS.2.2 dX1_key_57
set_option maxHeartbeats 4000000 in
set_option maxRecDepth 100000 in
/-- block(half, a, b, c, d): a half of the block -/
theorem mt_block (l : Launch) (dC : Nat → ClassId) (dI : Nat → Nat → Nat) (sz : Nat) (h qk qb qo : Nat) (ca : ClassId) (f : Nat → Int32) (pp : Nat) (x0 a0 b0 c0 d0 : Int32) (hx0 : x0 &&& 1 = nI pp) (hp : pp < 2) : Met l yX1_block (ws_ yX1_block cX1_block 7 none) ({ frames := 1, cells := 0, slots := 0, locals := 22 }) (va_Pc [.ref h, .int x0, .int a0, .int b0, .int c0, .int d0] (sx_Pre (dC, dI) [(h, .inr (0, [.ref qk, .ref qb, .ref qo])), (qb, .inl (ca, 32, .inl (sa_bs f)))] [(ca, .byte)] sz)) (va_Qv (fun _ : Unit => True) (fun _ t => sx_Post (dC, dI) (va_A [(h, .inr (0, [.ref qk, .ref qb, .ref qo])), (qb, .inl (ca, 32, .inl (sa_bs f)))] sz) [(h, .inr (0, [.ref qk, .ref qb, .ref qo])), (qb, .inl (ca, 32, .inl (sa_bs (sa_k4 f pp a0 b0 c0 d0))))] t) (va_A [(h, .inr (0, [.ref qk, .ref qb, .ref qo])), (qb, .inl (ca, 32, .inl (sa_bs f)))] sz)) 0 0 (va_A [(h, .inr (0, [.ref qk, .ref qb, .ref qo])), (qb, .inl (ca, 32, .inl (sa_bs f)))] sz) := by
  refine Met.ofW (cc := cX1_block) (maxL := 7) (ret := none) (by decide) rfl ?_
  intro p e s m args below meth c s₁ B hml hv
  obtain ⟨rfl, hsz, hP, hK, hD0⟩ := hv
  have hx := B.exec
  have hb := B.bytes
  have hr := B.returns
  have hts := atoms_spec (ws := ws_ yX1_block cX1_block 7 none) B.pre
  have hts : ∀ w ∈ lw_all, w.before _ s = true := fun w h => hts w (List.mem_cons_of_mem _ h)
  have hown : s.vm.findClass RX1 = some m.cls := findClass_of_methodNamed B.named
  have hlocks := B.notSynchronized
  subst hsz
  have hD := hD0.self (sz := s.heap.size)
  generalize hAe : va_A [(h, .inr (0, [.ref qk, .ref qb, .ref qo])), (qb, .inl (ca, 32, .inl (sa_bs f)))] s.heap.size = A at hD ⊢
  have hA : ∀ q : Nat, s.heap.size ≤ q → A q := fun q h => by rw [← hAe]; exact Or.inr h
  have hS : va_S A s.heap s.heap [] := va_S.rf
  have hP : va_P (dC, dI) vwCl [(h, .inr (0, [.ref qk, .ref qb, .ref qo])), (qb, .inl (ca, 32, .inl (sa_bs f)))] s.heap := hP
  have hl := lv_entry ([.ref h, .int x0, .int a0, .int b0, .int c0, .int d0]) (n := 7) (Nat.le_of_ble_eq_true rfl)
  rw [lg_entry_eq]
  generalize (lg_sl ([.ref h, .int x0, .int a0, .int b0, .int c0, .int d0]) ++ List.replicate (7 - (lg_sl ([.ref h, .int x0, .int a0, .int b0, .int c0, .int d0])).length) Slot.unset).toArray = ls at hl ⊢
  have hl : lv_has ls 7 [(0, .ref h), (1, .int x0), (2, .int a0), (3, .int b0), (4, .int c0), (5, .int d0)] := hl
  refine lv_iload_n hx hb dX1_block_0 rfl (lv_at hl 1 rfl) ?_
  refine lv_iconst (v := 1) hx hb dX1_block_1 (by decide) ?_
  refine lv_iand hx hb dX1_block_2 ?_
  refine sx_top (v := nI pp) (hx0) ?_
  refine lv_iconst (v := 4) hx hb dX1_block_3 (by decide) ?_
  refine lv_ishl hx hb dX1_block_4 ?_
  refine sx_top (v := nI (4 * (4 * pp))) ((pk_shlN (4 &&& 31) 4 (by decide) (by omega)).trans (congrArg nI (by omega))) ?_
  refine lv_istore (lv' := [(6, .int (nI (4 * (4 * pp)))), (0, .ref h), (1, .int x0), (2, .int a0), (3, .int b0), (4, .int c0), (5, .int d0)]) hx hb dX1_block_5 hl (by decide) rfl (fun ls hl => ?_)
  refine lv_aload_n hx hb dX1_block_7 rfl (lv_at hl 1 rfl) ?_
  refine va_get (D := (dC, dI)) (ci := 0) (v := .ref qb) (C := RX1) (T := TX1) (N := 3) hx hb hts in_X1 hown hK hP 0 rfl rfl 1 (by decide) (hts _ q29) (fun _ h9 => h9) rfl dX1_block_8 ?_
  refine lv_iload hx hb dX1_block_11 (lv_at hl 0 rfl) ?_
  refine lv_iload_n hx hb dX1_block_13 rfl (lv_at hl 3 rfl) ?_
  have hPc := hP.sub (ws' := [(qb, .inl (ca, 32, .inl (sa_bs f)))]) [1] rfl
  have hDc := hD.sub (ws' := [(qb, .inl (ca, 32, .inl (sa_bs f)))]) [1] (by decide) rfl
  have hKc := hK.sub (tys' := [(ca, .byte)]) [0] rfl
  have hFc := va_free (wc := [(qb, .inl (ca, 32, .inl (sa_bs f)))]) hD hS hA [1] rfl
  refine va_callv (va_runS (As := [.ref qb, .int (nI (4 * (4 * pp))), .int a0]) (rest := []) ⟨hx, hb, hml, hown, hts⟩ (mt_word l dC dI s.heap.size qb ca 32 f (4 * pp) a0 (by omega) (by decide)) (va_cwS 3 hts (lw_S q288 q289 q8 q290) rfl rfl rfl (by decide +kernel) ⟨Nat.le_of_ble_eq_true rfl, Nat.le_of_ble_eq_true rfl⟩) ⟨sx_blind, fun U hU hW => ⟨rfl, sx_Pre.mk hPc hKc hDc hU hW⟩⟩ rfl rfl hl.1 rfl (lv_room (Nat.le_of_ble_eq_true rfl)) dX1_block_14 ⟨Nat.le_of_ble_eq_true rfl, Nat.le_of_ble_eq_true rfl⟩) hS (fun q _ h => hFc q h) hFc (fun u t H1 locs ht hvm hw hB hz1 hk1 hS => ?_)
  obtain ⟨hP1, hD1⟩ := hB
  rw [ht] at hP1
  obtain ⟨hP, hD⟩ := va_join (wr := [(h, .inr (0, [.ref qk, .ref qb, .ref qo]))]) (w1 := [(qb, .inl (ca, 32, .inl (sa_bs (upd f (4 * pp) a0))))]) hP hD [1] [0] rfl rfl (by decide) (by decide) hk1 hFc hP1 hD1
  generalize H1 = H at hP hS ⊢
  have hP : va_P (dC, dI) vwCl [(h, .inr (0, [.ref qk, .ref qb, .ref qo])), (qb, .inl (ca, 32, .inl (sa_bs (upd f (4 * pp) a0))))] H := hP
  have hD : va_D A [(h, .inr (0, [.ref qk, .ref qb, .ref qo])), (qb, .inl (ca, 32, .inl (sa_bs (upd f (4 * pp) a0))))] := hD
  refine W.widen (k := 0) (n := 0) (Nat.le_of_ble_eq_true rfl) (Nat.le_of_ble_eq_true rfl) ?_
  refine lv_aload_n hx hb dX1_block_17 rfl (lv_at hl 1 rfl) ?_
  refine va_get (D := (dC, dI)) (ci := 0) (v := .ref qb) (C := RX1) (T := TX1) (N := 3) hx hb hts in_X1 hown hK hP 0 rfl rfl 1 (by decide) (hts _ q29) (fun _ h9 => h9) rfl dX1_block_18 ?_
  refine lv_iload hx hb dX1_block_21 (lv_at hl 0 rfl) ?_
  refine lv_iconst (v := 4) hx hb dX1_block_23 (by decide) ?_
  refine lv_iadd hx hb dX1_block_24 ?_
  refine sx_top (v := nI ((4 * (4 * pp)) + 4)) (nI_add (4 * (4 * pp)) 4) ?_
  refine sx_top (v := nI (4 * (4 * pp + 1))) (congrArg nI (by omega)) ?_
  refine lv_iload_n hx hb dX1_block_25 rfl (lv_at hl 4 rfl) ?_
  have hPc := hP.sub (ws' := [(qb, .inl (ca, 32, .inl (sa_bs (upd f (4 * pp) a0))))]) [1] rfl
  have hDc := hD.sub (ws' := [(qb, .inl (ca, 32, .inl (sa_bs (upd f (4 * pp) a0))))]) [1] (by decide) rfl
  have hKc := hK.sub (tys' := [(ca, .byte)]) [0] rfl
  have hFc := va_free (wc := [(qb, .inl (ca, 32, .inl (sa_bs (upd f (4 * pp) a0))))]) hD hS hA [1] rfl
  refine va_callv (va_runS (As := [.ref qb, .int (nI (4 * (4 * pp + 1))), .int b0]) (rest := []) ⟨hx, hb, hml, hown, hts⟩ (mt_word l dC dI H.size qb ca 32 (upd f (4 * pp) a0) (4 * pp + 1) b0 (by omega) (by decide)) (va_cwS 3 hts (lw_S q288 q289 q8 q290) rfl rfl rfl (by decide +kernel) ⟨Nat.le_of_ble_eq_true rfl, Nat.le_of_ble_eq_true rfl⟩) ⟨sx_blind, fun U hU hW => ⟨rfl, sx_Pre.mk hPc hKc hDc hU hW⟩⟩ rfl rfl hl.1 rfl (lv_room (Nat.le_of_ble_eq_true rfl)) dX1_block_26 ⟨Nat.le_of_ble_eq_true rfl, Nat.le_of_ble_eq_true rfl⟩) hS (fun q _ h => hFc q h) hFc (fun u t H1 locs ht hvm hw hB hz1 hk1 hS => ?_)
  obtain ⟨hP1, hD1⟩ := hB
  rw [ht] at hP1
  obtain ⟨hP, hD⟩ := va_join (wr := [(h, .inr (0, [.ref qk, .ref qb, .ref qo]))]) (w1 := [(qb, .inl (ca, 32, .inl (sa_bs (upd (upd f (4 * pp) a0) (4 * pp + 1) b0))))]) hP hD [1] [0] rfl rfl (by decide) (by decide) hk1 hFc hP1 hD1
  generalize H1 = H at hP hS ⊢
  have hP : va_P (dC, dI) vwCl [(h, .inr (0, [.ref qk, .ref qb, .ref qo])), (qb, .inl (ca, 32, .inl (sa_bs (upd (upd f (4 * pp) a0) (4 * pp + 1) b0))))] H := hP
  have hD : va_D A [(h, .inr (0, [.ref qk, .ref qb, .ref qo])), (qb, .inl (ca, 32, .inl (sa_bs (upd (upd f (4 * pp) a0) (4 * pp + 1) b0))))] := hD
  refine W.widen (k := 0) (n := 0) (Nat.le_of_ble_eq_true rfl) (Nat.le_of_ble_eq_true rfl) ?_
  refine lv_aload_n hx hb dX1_block_29 rfl (lv_at hl 1 rfl) ?_
  refine va_get (D := (dC, dI)) (ci := 0) (v := .ref qb) (C := RX1) (T := TX1) (N := 3) hx hb hts in_X1 hown hK hP 0 rfl rfl 1 (by decide) (hts _ q29) (fun _ h9 => h9) rfl dX1_block_30 ?_
  refine lv_iload hx hb dX1_block_33 (lv_at hl 0 rfl) ?_
  refine lv_bipush (v := 8) hx hb dX1_block_35 (by decide) ?_
  refine lv_iadd hx hb dX1_block_37 ?_
  refine sx_top (v := nI ((4 * (4 * pp)) + 8)) (nI_add (4 * (4 * pp)) 8) ?_
  refine sx_top (v := nI (4 * (4 * pp + 2))) (congrArg nI (by omega)) ?_
  refine lv_iload hx hb dX1_block_38 (lv_at hl 5 rfl) ?_
  have hPc := hP.sub (ws' := [(qb, .inl (ca, 32, .inl (sa_bs (upd (upd f (4 * pp) a0) (4 * pp + 1) b0))))]) [1] rfl
  have hDc := hD.sub (ws' := [(qb, .inl (ca, 32, .inl (sa_bs (upd (upd f (4 * pp) a0) (4 * pp + 1) b0))))]) [1] (by decide) rfl
  have hKc := hK.sub (tys' := [(ca, .byte)]) [0] rfl
  have hFc := va_free (wc := [(qb, .inl (ca, 32, .inl (sa_bs (upd (upd f (4 * pp) a0) (4 * pp + 1) b0))))]) hD hS hA [1] rfl
  refine va_callv (va_runS (As := [.ref qb, .int (nI (4 * (4 * pp + 2))), .int c0]) (rest := []) ⟨hx, hb, hml, hown, hts⟩ (mt_word l dC dI H.size qb ca 32 (upd (upd f (4 * pp) a0) (4 * pp + 1) b0) (4 * pp + 2) c0 (by omega) (by decide)) (va_cwS 3 hts (lw_S q288 q289 q8 q290) rfl rfl rfl (by decide +kernel) ⟨Nat.le_of_ble_eq_true rfl, Nat.le_of_ble_eq_true rfl⟩) ⟨sx_blind, fun U hU hW => ⟨rfl, sx_Pre.mk hPc hKc hDc hU hW⟩⟩ rfl rfl hl.1 rfl (lv_room (Nat.le_of_ble_eq_true rfl)) dX1_block_40 ⟨Nat.le_of_ble_eq_true rfl, Nat.le_of_ble_eq_true rfl⟩) hS (fun q _ h => hFc q h) hFc (fun u t H1 locs ht hvm hw hB hz1 hk1 hS => ?_)
  obtain ⟨hP1, hD1⟩ := hB
  rw [ht] at hP1
  obtain ⟨hP, hD⟩ := va_join (wr := [(h, .inr (0, [.ref qk, .ref qb, .ref qo]))]) (w1 := [(qb, .inl (ca, 32, .inl (sa_bs (upd (upd (upd f (4 * pp) a0) (4 * pp + 1) b0) (4 * pp + 2) c0))))]) hP hD [1] [0] rfl rfl (by decide) (by decide) hk1 hFc hP1 hD1
  generalize H1 = H at hP hS ⊢
  have hP : va_P (dC, dI) vwCl [(h, .inr (0, [.ref qk, .ref qb, .ref qo])), (qb, .inl (ca, 32, .inl (sa_bs (upd (upd (upd f (4 * pp) a0) (4 * pp + 1) b0) (4 * pp + 2) c0))))] H := hP
  have hD : va_D A [(h, .inr (0, [.ref qk, .ref qb, .ref qo])), (qb, .inl (ca, 32, .inl (sa_bs (upd (upd (upd f (4 * pp) a0) (4 * pp + 1) b0) (4 * pp + 2) c0))))] := hD
  refine W.widen (k := 0) (n := 0) (Nat.le_of_ble_eq_true rfl) (Nat.le_of_ble_eq_true rfl) ?_
  refine lv_aload_n hx hb dX1_block_43 rfl (lv_at hl 1 rfl) ?_
  refine va_get (D := (dC, dI)) (ci := 0) (v := .ref qb) (C := RX1) (T := TX1) (N := 3) hx hb hts in_X1 hown hK hP 0 rfl rfl 1 (by decide) (hts _ q29) (fun _ h9 => h9) rfl dX1_block_44 ?_
  refine lv_iload hx hb dX1_block_47 (lv_at hl 0 rfl) ?_
  refine lv_bipush (v := 12) hx hb dX1_block_49 (by decide) ?_
  refine lv_iadd hx hb dX1_block_51 ?_
  refine sx_top (v := nI ((4 * (4 * pp)) + 12)) (nI_add (4 * (4 * pp)) 12) ?_
  refine sx_top (v := nI (4 * (4 * pp + 3))) (congrArg nI (by omega)) ?_
  refine lv_iload hx hb dX1_block_52 (lv_at hl 6 rfl) ?_
  have hPc := hP.sub (ws' := [(qb, .inl (ca, 32, .inl (sa_bs (upd (upd (upd f (4 * pp) a0) (4 * pp + 1) b0) (4 * pp + 2) c0))))]) [1] rfl
  have hDc := hD.sub (ws' := [(qb, .inl (ca, 32, .inl (sa_bs (upd (upd (upd f (4 * pp) a0) (4 * pp + 1) b0) (4 * pp + 2) c0))))]) [1] (by decide) rfl
  have hKc := hK.sub (tys' := [(ca, .byte)]) [0] rfl
  have hFc := va_free (wc := [(qb, .inl (ca, 32, .inl (sa_bs (upd (upd (upd f (4 * pp) a0) (4 * pp + 1) b0) (4 * pp + 2) c0))))]) hD hS hA [1] rfl
  refine va_callv (va_runS (As := [.ref qb, .int (nI (4 * (4 * pp + 3))), .int d0]) (rest := []) ⟨hx, hb, hml, hown, hts⟩ (mt_word l dC dI H.size qb ca 32 (upd (upd (upd f (4 * pp) a0) (4 * pp + 1) b0) (4 * pp + 2) c0) (4 * pp + 3) d0 (by omega) (by decide)) (va_cwS 3 hts (lw_S q288 q289 q8 q290) rfl rfl rfl (by decide +kernel) ⟨Nat.le_of_ble_eq_true rfl, Nat.le_of_ble_eq_true rfl⟩) ⟨sx_blind, fun U hU hW => ⟨rfl, sx_Pre.mk hPc hKc hDc hU hW⟩⟩ rfl rfl hl.1 rfl (lv_room (Nat.le_of_ble_eq_true rfl)) dX1_block_54 ⟨Nat.le_of_ble_eq_true rfl, Nat.le_of_ble_eq_true rfl⟩) hS (fun q _ h => hFc q h) hFc (fun u t H1 locs ht hvm hw hB hz1 hk1 hS => ?_)
  obtain ⟨hP1, hD1⟩ := hB
  rw [ht] at hP1
  obtain ⟨hP, hD⟩ := va_join (wr := [(h, .inr (0, [.ref qk, .ref qb, .ref qo]))]) (w1 := [(qb, .inl (ca, 32, .inl (sa_bs (upd (upd (upd (upd f (4 * pp) a0) (4 * pp + 1) b0) (4 * pp + 2) c0) (4 * pp + 3) d0))))]) hP hD [1] [0] rfl rfl (by decide) (by decide) hk1 hFc hP1 hD1
  generalize H1 = H at hP hS ⊢
  have hP : va_P (dC, dI) vwCl [(h, .inr (0, [.ref qk, .ref qb, .ref qo])), (qb, .inl (ca, 32, .inl (sa_bs (upd (upd (upd (upd f (4 * pp) a0) (4 * pp + 1) b0) (4 * pp + 2) c0) (4 * pp + 3) d0))))] H := hP
  have hD : va_D A [(h, .inr (0, [.ref qk, .ref qb, .ref qo])), (qb, .inl (ca, 32, .inl (sa_bs (upd (upd (upd (upd f (4 * pp) a0) (4 * pp + 1) b0) (4 * pp + 2) c0) (4 * pp + 3) d0))))] := hD
  refine W.widen (k := 0) (n := 0) (Nat.le_of_ble_eq_true rfl) (Nat.le_of_ble_eq_true rfl) ?_
  have hP9 := hP.sub (ws' := [(h, .inr (0, [.ref qk, .ref qb, .ref qo])), (qb, .inl (ca, 32, .inl (sa_bs (sa_k4 f pp a0 b0 c0 d0))))]) [0, 1] rfl
  have hD9 := hD.sub (ws' := [(h, .inr (0, [.ref qk, .ref qb, .ref qo])), (qb, .inl (ca, 32, .inl (sa_bs (sa_k4 f pp a0 b0 c0 d0))))]) [0, 1] (by decide) rfl
  exact W.vret hx hb hr (fun t ht hW => ⟨⟨(), rfl, trivial, by rw [ht]; exact hP9, hD9⟩, hS.F ht⟩) hS.2.2 dX1_block_57
def sa_mx (f g : Nat → Int32) (i : Nat) : Nat → Int32 := fun j => if j < i then f j else g j
theorem sa_mx_0 (f g : Nat → Int32) : sa_mx f g 0 = g := funext fun j => if_neg (Nat.not_lt_zero j)
theorem sa_mx_S (f g : Nat → Int32) (i : Nat) : upd (sa_mx f g i) i (f i) = sa_mx f g (i + 1) := by
  funext j
  unfold upd sa_mx
  by_cases h : j = i
  · rw [if_pos h, if_pos (by omega), h]
  · rw [if_neg h]
    by_cases h2 : j < i
    · rw [if_pos h2, if_pos (by omega)]
    · rw [if_neg h2, if_neg (by omega)]
theorem sa_mx_n (f g : Nat → Int32) (n : Nat) : ∀ j, j < n → sa_mx f g n j = f j := fun j h => if_pos h
set_option maxHeartbeats 4000000 in
set_option maxRecDepth 100000 in
/-- again(): its loop -/
theorem lp_again {p : Program} {l : Launch} {e : Env} {R : Room} {s : State} {m : MethodId} {args : Array Value} {below : List Frame} {meth : Method} {c : Code} {Q : State → Prop} {A : Nat → Prop} {cells slots : Nat} {dC : Nat → ClassId} {dI : Nat → Nat → Nat} (h qk qb qo : Nat) (cb co : ClassId) (wb wo : Nat → Int32) (hx : p.tables.exec = Jvm.exec) (hb : c.code = cX1_again) (hml : c.maxLocals = 2) (hown : s.vm.findClass RX1 = some m.cls) (hts : ∀ w ∈ lw_all, w.before args s = true) (hA : ∀ q : Nat, s.heap.size ≤ q → A q) (hK : va_K (dC, dI) vwCl [(cb, .byte), (co, .byte)] s) :
    ∀ (n i : Nat), i ≤ 32 → 32 < i + n → ∀ (H : Heap) (locs : List Loc) (ls : Array Slot), va_P (dC, dI) vwCl [(h, .inr (0, [.ref qk, .ref qb, .ref qo])), (qb, .inl (cb, 32, .inl (sa_mx (sa_bs wo) (sa_bs wb) i))), (qo, .inl (co, 32, .inl (sa_bs wo)))] H → va_D A [(h, .inr (0, [.ref qk, .ref qb, .ref qo])), (qb, .inl (cb, 32, .inl (sa_mx (sa_bs wo) (sa_bs wb) i))), (qo, .inl (co, 32, .inl (sa_bs wo)))] → va_S A s.heap H locs → lv_has ls 2 [(0, .ref h), (1, .int (nI i))] → (∀ (H : Heap) (locs : List Loc) (ls : Array Slot), va_P (dC, dI) vwCl [(h, .inr (0, [.ref qk, .ref qb, .ref qo])), (qb, .inl (cb, 32, .inl (sa_mx (sa_bs wo) (sa_bs wb) 32))), (qo, .inl (co, 32, .inl (sa_bs wo)))] H → va_D A [(h, .inr (0, [.ref qk, .ref qb, .ref qo])), (qb, .inl (cb, 32, .inl (sa_mx (sa_bs wo) (sa_bs wb) 32))), (qo, .inl (co, 32, .inl (sa_bs wo)))] → va_S A s.heap H locs → lv_has ls 2 [(0, .ref h), (1, .int (nI 32))] → W p l e R s m args below meth c H locs cells slots Q (F0 m 26 ls [])) → W p l e R s m args below meth c H locs cells slots Q (F0 m 2 ls []) := by
  intro n
  induction n with
  | zero =>
    intro i h1 h2
    exact absurd h2 (by omega)
  | succ n ih =>
    intro i hi hi2 H locs ls hP hD hS hl kk
    refine lv_iload_n hx hb dX1_again_2 rfl (lv_at hl 1 rfl) ?_
    refine lv_bipush (v := 32) hx hb dX1_again_3 (by decide) ?_
    refine lv_icmp_ge (tgt := 26) hx hb dX1_again_5 (by decide) (fun hc => ?_) (fun hc => ?_)
    · have hc2 := (nI_leI (a := 32) (b := i) (by decide) (by omega)).mp hc
      obtain rfl : i = 32 := by omega
      exact kk H locs ls hP hD hS hl
    · have hlt : i < 32 := Nat.lt_of_not_le fun q => hc ((nI_leI (a := 32) (b := i) (by decide) (by omega)).mpr q)
      refine lv_aload_n hx hb dX1_again_8 rfl (lv_at hl 0 rfl) ?_
      refine va_get (D := (dC, dI)) (ci := 0) (v := .ref qb) (C := RX1) (T := TX1) (N := 3) hx hb hts in_X1 hown hK hP 0 rfl rfl 1 (by decide) (hts _ q29) (fun _ h9 => h9) rfl dX1_again_9 ?_
      refine lv_iload_n hx hb dX1_again_12 rfl (lv_at hl 1 rfl) ?_
      refine lv_aload_n hx hb dX1_again_13 rfl (lv_at hl 0 rfl) ?_
      refine va_get (D := (dC, dI)) (ci := 0) (v := .ref qo) (C := RX1) (T := TX1) (N := 3) hx hb hts in_X1 hown hK hP 0 rfl rfl 2 (by decide) (hts _ q30) (fun _ h9 => h9) rfl dX1_again_14 ?_
      refine lv_iload_n hx hb dX1_again_17 rfl (lv_at hl 1 rfl) ?_
      refine sx_bald (v := (sa_bs wo) i) hx hb hK hP 2 1 rfl rfl i rfl (by omega) (by decide) rfl dX1_again_18 ?_
      refine sx_bast (g := upd (sa_mx (sa_bs wo) (sa_bs wb) i) i ((sa_bs wo) i)) hx hb hK hP hD hS 1 0 rfl rfl i rfl (by omega) (by decide) (sa_by_nar _ _) (fun _ _ => rfl) dX1_again_19 (fun H locs hP hD hS => ?_)
      have hP : va_P (dC, dI) vwCl [(h, .inr (0, [.ref qk, .ref qb, .ref qo])), (qb, .inl (cb, 32, .inl (upd (sa_mx (sa_bs wo) (sa_bs wb) i) i ((sa_bs wo) i)))), (qo, .inl (co, 32, .inl (sa_bs wo)))] H := hP
      have hD : va_D A [(h, .inr (0, [.ref qk, .ref qb, .ref qo])), (qb, .inl (cb, 32, .inl (upd (sa_mx (sa_bs wo) (sa_bs wb) i) i ((sa_bs wo) i)))), (qo, .inl (co, 32, .inl (sa_bs wo)))] := hD
      have hP := sx_ext hP 1 (sa_mx (sa_bs wo) (sa_bs wb) (i + 1)) rfl (fun j _ => congrFun (sa_mx_S (sa_bs wo) (sa_bs wb) i) j)
      have hD := hD.set (p := 1) (a := qb) (e := .inl (cb, 32, .inl (sa_mx (sa_bs wo) (sa_bs wb) (i + 1)))) rfl
      have hP : va_P (dC, dI) vwCl [(h, .inr (0, [.ref qk, .ref qb, .ref qo])), (qb, .inl (cb, 32, .inl (sa_mx (sa_bs wo) (sa_bs wb) (i + 1)))), (qo, .inl (co, 32, .inl (sa_bs wo)))] H := hP
      have hD : va_D A [(h, .inr (0, [.ref qk, .ref qb, .ref qo])), (qb, .inl (cb, 32, .inl (sa_mx (sa_bs wo) (sa_bs wb) (i + 1)))), (qo, .inl (co, 32, .inl (sa_bs wo)))] := hD
      refine lv_iinc (v := nI (i + 1)) (lv' := [(1, .int (nI (i + 1))), (0, .ref h)]) hx hb dX1_again_20 hl (k := 1) rfl (nI_1 i) (by decide) rfl (fun ls hl => ?_)
      refine lv_goto (tgt := 2) hx hb dX1_again_23 (by decide) ?_
      exact ih (i + 1) (by omega) (by omega) H locs ls (hP.sub [0, 1, 2] rfl) (hD.sub [0, 1, 2] (by decide) rfl) hS (lv_sub hl [1, 0] rfl) kk
set_option maxHeartbeats 4000000 in
set_option maxRecDepth 100000 in
/-- again(): the block is what was put out -/
theorem mt_again (l : Launch) (dC : Nat → ClassId) (dI : Nat → Nat → Nat) (sz : Nat) (h qk qb qo : Nat) (cb co : ClassId) (wb wo : Nat → Int32) : Met l yX1_again (ws_ yX1_again cX1_again 2 none) ({ frames := 0, cells := 0, slots := 0, locals := 0 }) (va_Pc [.ref h] (sx_Pre (dC, dI) [(h, .inr (0, [.ref qk, .ref qb, .ref qo])), (qb, .inl (cb, 32, .inl (sa_bs wb))), (qo, .inl (co, 32, .inl (sa_bs wo)))] [(cb, .byte), (co, .byte)] sz)) (va_Qv (fun _ : Unit => True) (fun _ t => sx_Post (dC, dI) (va_A [(h, .inr (0, [.ref qk, .ref qb, .ref qo])), (qb, .inl (cb, 32, .inl (sa_bs wb))), (qo, .inl (co, 32, .inl (sa_bs wo)))] sz) [(h, .inr (0, [.ref qk, .ref qb, .ref qo])), (qb, .inl (cb, 32, .inl (sa_bs wo))), (qo, .inl (co, 32, .inl (sa_bs wo)))] t) (va_A [(h, .inr (0, [.ref qk, .ref qb, .ref qo])), (qb, .inl (cb, 32, .inl (sa_bs wb))), (qo, .inl (co, 32, .inl (sa_bs wo)))] sz)) 0 0 (va_A [(h, .inr (0, [.ref qk, .ref qb, .ref qo])), (qb, .inl (cb, 32, .inl (sa_bs wb))), (qo, .inl (co, 32, .inl (sa_bs wo)))] sz) := by
  refine Met.ofW (cc := cX1_again) (maxL := 2) (ret := none) (by decide) rfl ?_
  intro p e s m args below meth c s₁ B hml hv
  obtain ⟨rfl, hsz, hP, hK, hD0⟩ := hv
  have hx := B.exec
  have hb := B.bytes
  have hr := B.returns
  have hts := atoms_spec (ws := ws_ yX1_again cX1_again 2 none) B.pre
  have hts : ∀ w ∈ lw_all, w.before _ s = true := fun w h => hts w (List.mem_cons_of_mem _ h)
  have hown : s.vm.findClass RX1 = some m.cls := findClass_of_methodNamed B.named
  have hlocks := B.notSynchronized
  subst hsz
  have hD := hD0.self (sz := s.heap.size)
  generalize hAe : va_A [(h, .inr (0, [.ref qk, .ref qb, .ref qo])), (qb, .inl (cb, 32, .inl (sa_bs wb))), (qo, .inl (co, 32, .inl (sa_bs wo)))] s.heap.size = A at hD ⊢
  have hA : ∀ q : Nat, s.heap.size ≤ q → A q := fun q h => by rw [← hAe]; exact Or.inr h
  have hS : va_S A s.heap s.heap [] := va_S.rf
  have hP : va_P (dC, dI) vwCl [(h, .inr (0, [.ref qk, .ref qb, .ref qo])), (qb, .inl (cb, 32, .inl (sa_bs wb))), (qo, .inl (co, 32, .inl (sa_bs wo)))] s.heap := hP
  have hl := lv_entry ([.ref h]) (n := 2) (Nat.le_of_ble_eq_true rfl)
  rw [lg_entry_eq]
  generalize (lg_sl ([.ref h]) ++ List.replicate (2 - (lg_sl ([.ref h])).length) Slot.unset).toArray = ls at hl ⊢
  have hl : lv_has ls 2 [(0, .ref h)] := hl
  refine lv_iconst (v := 0) hx hb dX1_again_0 (by decide) ?_
  refine lv_istore_n (lv' := [(1, .int 0), (0, .ref h)]) hx hb dX1_again_1 rfl hl (by decide) rfl (fun ls hl => ?_)
  refine lp_again h qk qb qo cb co wb wo hx hb hml hown hts hA hK 33 0 (by omega) (by omega) _ _ _ (sx_ext hP 1 (sa_mx (sa_bs wo) (sa_bs wb) 0) rfl (fun j _ => by rw [sa_mx_0])) (hD.set (p := 1) rfl) hS (lv_sub hl [1, 0] rfl) (fun H locs ls hP hD hS hl => ?_)
  have hP := sx_ext hP 1 (sa_bs wo) rfl (sa_mx_n (sa_bs wo) (sa_bs wb) 32)
  have hD := hD.set (p := 1) (a := qb) (e := .inl (cb, 32, .inl (sa_bs wo))) rfl
  have hP : va_P (dC, dI) vwCl [(h, .inr (0, [.ref qk, .ref qb, .ref qo])), (qb, .inl (cb, 32, .inl (sa_bs wo))), (qo, .inl (co, 32, .inl (sa_bs wo)))] H := hP
  have hD : va_D A [(h, .inr (0, [.ref qk, .ref qb, .ref qo])), (qb, .inl (cb, 32, .inl (sa_bs wo))), (qo, .inl (co, 32, .inl (sa_bs wo)))] := hD
  have hP9 := hP.sub (ws' := [(h, .inr (0, [.ref qk, .ref qb, .ref qo])), (qb, .inl (cb, 32, .inl (sa_bs wo))), (qo, .inl (co, 32, .inl (sa_bs wo)))]) [0, 1, 2] rfl
  have hD9 := hD.sub (ws' := [(h, .inr (0, [.ref qk, .ref qb, .ref qo])), (qb, .inl (cb, 32, .inl (sa_bs wo))), (qo, .inl (co, 32, .inl (sa_bs wo)))]) [0, 1, 2] (by decide) rfl
  exact W.vret hx hb hr (fun t ht hW => ⟨⟨(), rfl, trivial, by rw [ht]; exact hP9, hD9⟩, hS.F ht⟩) hS.2.2 dX1_again_26
set_option maxHeartbeats 4000000 in
set_option maxRecDepth 100000 in
/-- out(at): a byte of what was put out -/
theorem mt_out (l : Launch) (dC : Nat → ClassId) (dI : Nat → Nat → Nat) (sz : Nat) (h qk qb qo : Nat) (co : ClassId) (wo : Nat → Int32) (j0 : Nat) (x0 : Int32) (hx0 : x0 &&& 31 = nI j0) (hj : j0 < 32) : Met l yX1_out (ws_ yX1_out cX1_out 2 (some .int)) ({ frames := 0, cells := 0, slots := 0, locals := 0 }) (va_Pc [.ref h, .int x0] (sx_Pre (dC, dI) [(h, .inr (0, [.ref qk, .ref qb, .ref qo])), (qo, .inl (co, 32, .inl (sa_bs wo)))] [(co, .byte)] sz)) (va_Qi (fun (r : Int32) (_ : Unit) => r = sa_ub (wo (j0 / 4)) (j0 % 4)) (fun _ t => sx_Post (dC, dI) (va_A [(h, .inr (0, [.ref qk, .ref qb, .ref qo])), (qo, .inl (co, 32, .inl (sa_bs wo)))] sz) [(h, .inr (0, [.ref qk, .ref qb, .ref qo])), (qo, .inl (co, 32, .inl (sa_bs wo)))] t) (va_A [(h, .inr (0, [.ref qk, .ref qb, .ref qo])), (qo, .inl (co, 32, .inl (sa_bs wo)))] sz)) 0 0 (va_A [(h, .inr (0, [.ref qk, .ref qb, .ref qo])), (qo, .inl (co, 32, .inl (sa_bs wo)))] sz) := by
  refine Met.ofW (cc := cX1_out) (maxL := 2) (ret := (some .int)) (by decide) rfl ?_
  intro p e s m args below meth c s₁ B hml hv
  obtain ⟨rfl, hsz, hP, hK, hD0⟩ := hv
  have hx := B.exec
  have hb := B.bytes
  have hr := B.returns
  have hts := atoms_spec (ws := ws_ yX1_out cX1_out 2 (some .int)) B.pre
  have hts : ∀ w ∈ lw_all, w.before _ s = true := fun w h => hts w (List.mem_cons_of_mem _ h)
  have hown : s.vm.findClass RX1 = some m.cls := findClass_of_methodNamed B.named
  have hlocks := B.notSynchronized
  subst hsz
  have hD := hD0.self (sz := s.heap.size)
  generalize hAe : va_A [(h, .inr (0, [.ref qk, .ref qb, .ref qo])), (qo, .inl (co, 32, .inl (sa_bs wo)))] s.heap.size = A at hD ⊢
  have hA : ∀ q : Nat, s.heap.size ≤ q → A q := fun q h => by rw [← hAe]; exact Or.inr h
  have hS : va_S A s.heap s.heap [] := va_S.rf
  have hP : va_P (dC, dI) vwCl [(h, .inr (0, [.ref qk, .ref qb, .ref qo])), (qo, .inl (co, 32, .inl (sa_bs wo)))] s.heap := hP
  have hl := lv_entry ([.ref h, .int x0]) (n := 2) (Nat.le_of_ble_eq_true rfl)
  rw [lg_entry_eq]
  generalize (lg_sl ([.ref h, .int x0]) ++ List.replicate (2 - (lg_sl ([.ref h, .int x0])).length) Slot.unset).toArray = ls at hl ⊢
  have hl : lv_has ls 2 [(0, .ref h), (1, .int x0)] := hl
  refine lv_aload_n hx hb dX1_out_0 rfl (lv_at hl 0 rfl) ?_
  refine va_get (D := (dC, dI)) (ci := 0) (v := .ref qo) (C := RX1) (T := TX1) (N := 3) hx hb hts in_X1 hown hK hP 0 rfl rfl 2 (by decide) (hts _ q30) (fun _ h9 => h9) rfl dX1_out_1 ?_
  refine lv_iload_n hx hb dX1_out_4 rfl (lv_at hl 1 rfl) ?_
  refine lv_bipush (v := 31) hx hb dX1_out_5 (by decide) ?_
  refine lv_iand hx hb dX1_out_7 ?_
  refine sx_top (v := nI j0) (hx0) ?_
  refine sx_bald (v := (sa_bs wo) j0) hx hb hK hP 1 0 rfl rfl j0 rfl (by omega) (by decide) rfl dX1_out_8 ?_
  refine lv_sipush (v := 255) hx hb dX1_out_9 (by decide) ?_
  refine lv_iand hx hb dX1_out_12 ?_
  exact W.iret (v := ((sa_bs wo) j0) &&& 255) hx hb hr (fun t ht hW => ⟨⟨_, (), rfl, rfl, by rw [ht]; exact hP, hD⟩, hS.F ht⟩) hS.2.2 dX1_out_13
set_option maxHeartbeats 4000000 in
set_option maxRecDepth 100000 in
/-- ShacalDesk(): key, block and out are zeros -/
theorem mt_desk (l : Launch) (dC : Nat → ClassId) (dI : Nat → Nat → Nat) (sz : Nat) (h : Nat) : Met l yX1_init (ws_ yX1_init cX1_init 1 none) ({ frames := 1, cells := 3, slots := 128, locals := 12 }) (va_Pc [.ref h] (sx_Pre (dC, dI) [(h, .inr (0, [.null, .null, .null]))] [] sz)) (va_Qv (fun _ : Unit => True) (fun _ t => ∃ (qk qb qo : Nat) (ck cb co : ClassId), sx_PostK (dC, dI) (va_A [(h, .inr (0, [.null, .null, .null]))] sz) [(h, .inr (0, [.ref qk, .ref qb, .ref qo])), (qk, .inl (ck, 64, .inl (sa_bs (fun _ => 0)))), (qb, .inl (cb, 32, .inl (sa_bs (fun _ => 0)))), (qo, .inl (co, 32, .inl (sa_bs (fun _ => 0))))] [(ck, .byte), (cb, .byte), (co, .byte)] t) (va_A [(h, .inr (0, [.null, .null, .null]))] sz)) 3 128 (va_A [(h, .inr (0, [.null, .null, .null]))] sz) := by
  refine Met.ofW (cc := cX1_init) (maxL := 1) (ret := none) (by decide) rfl ?_
  intro p e s m args below meth c s₁ B hml hv
  obtain ⟨rfl, hsz, hP, hK, hD0⟩ := hv
  have hx := B.exec
  have hb := B.bytes
  have hr := B.returns
  have hts := atoms_spec (ws := ws_ yX1_init cX1_init 1 none) B.pre
  have hts : ∀ w ∈ lw_all, w.before _ s = true := fun w h => hts w (List.mem_cons_of_mem _ h)
  have hown : s.vm.findClass RX1 = some m.cls := findClass_of_methodNamed B.named
  have hlocks := B.notSynchronized
  have hin : meth.name = "<init>" := (name_of_methodNamed B.named B.method).1
  subst hsz
  have hD := hD0.self (sz := s.heap.size)
  generalize hAe : va_A [(h, .inr (0, [.null, .null, .null]))] s.heap.size = A at hD ⊢
  have hA : ∀ q : Nat, s.heap.size ≤ q → A q := fun q h => by rw [← hAe]; exact Or.inr h
  have hS : va_S A s.heap s.heap [] := va_S.rf
  have hP : va_P (dC, dI) vwCl [(h, .inr (0, [.null, .null, .null]))] s.heap := hP
  have hl := lv_entry ([.ref h]) (n := 1) (Nat.le_of_ble_eq_true rfl)
  rw [lg_entry_eq]
  generalize (lg_sl ([.ref h]) ++ List.replicate (1 - (lg_sl ([.ref h])).length) Slot.unset).toArray = ls at hl ⊢
  have hl : lv_has ls 1 [(0, .ref h)] := hl
  refine lv_aload_n hx hb dX1_init_0 rfl (lv_at hl 0 rfl) ?_
  refine W.objInit hx hb hown (hts _ q25) (hts _ q26) (hts _ q27) rfl (by rw [hml]; exact hl.1) rfl dX1_init_1 (Nat.le_of_ble_eq_true rfl) (Nat.le_of_ble_eq_true rfl) ?_
  refine W.eq (g2 := F0 m 4 ls []) rfl ?_
  refine lv_aload_n hx hb dX1_init_4 rfl (lv_at hl 0 rfl) ?_
  refine lv_bipush (v := 64) hx hb dX1_init_5 (by decide) ?_
  refine va_newa (atype := .byte) (a0 := (64, .inl (fun _ => 0))) (N' := 64) hx hb (hts _ q38) (ty := .byte) rfl hK hP hD hS hA (fun _ => rfl) (by decide) (by decide) (by decide) (Nat.le_of_ble_eq_true rfl) (Nat.le_of_ble_eq_true rfl) dX1_init_7 (fun q_1 c_2 H hK hP hD hS => ?_)
  have hP : va_P (dC, dI) vwCl [(h, .inr (0, [.null, .null, .null])), (q_1, .inl (c_2, 64, .inl (fun _ => 0)))] H := hP
  have hD : va_D A [(h, .inr (0, [.null, .null, .null])), (q_1, .inl (c_2, 64, .inl (fun _ => 0)))] := hD
  have hK : va_K (dC, dI) vwCl [(c_2, .byte)] s := hK
  refine W.widen (k := 1) (n := 64) (Nat.le_of_ble_eq_true rfl) (Nat.le_of_ble_eq_true rfl) ?_
  refine va_putF (D := (dC, dI)) (ci := 0) (v := .ref q_1) (ty := .array .byte) (C := RX1) (T := TX1) (N := 3) hx hb hts in_X1 tyX1 tyX1_ok nmX1 hown hK hP hD hS 0 rfl rfl 0 (by decide) (hts _ q28) (fun _ h9 => h9) rfl hin rfl (by decide +kernel) rfl rfl (Nat.le_of_ble_eq_true rfl) dX1_init_9 (fun H locs hP hD hS => ?_)
  have hP : va_P (dC, dI) vwCl [(h, .inr (0, [.ref q_1, .null, .null])), (q_1, .inl (c_2, 64, .inl (fun _ => 0)))] H := hP
  have hD : va_D A [(h, .inr (0, [.ref q_1, .null, .null])), (q_1, .inl (c_2, 64, .inl (fun _ => 0)))] := hD
  refine lv_aload_n hx hb dX1_init_12 rfl (lv_at hl 0 rfl) ?_
  refine lv_bipush (v := 32) hx hb dX1_init_13 (by decide) ?_
  refine va_newa (atype := .byte) (a0 := (32, .inl (fun _ => 0))) (N' := 32) hx hb (hts _ q38) (ty := .byte) rfl hK hP hD hS hA (fun _ => rfl) (by decide) (by decide) (by decide) (Nat.le_of_ble_eq_true rfl) (Nat.le_of_ble_eq_true rfl) dX1_init_15 (fun q_3 c_4 H hK hP hD hS => ?_)
  have hP : va_P (dC, dI) vwCl [(h, .inr (0, [.ref q_1, .null, .null])), (q_1, .inl (c_2, 64, .inl (fun _ => 0))), (q_3, .inl (c_4, 32, .inl (fun _ => 0)))] H := hP
  have hD : va_D A [(h, .inr (0, [.ref q_1, .null, .null])), (q_1, .inl (c_2, 64, .inl (fun _ => 0))), (q_3, .inl (c_4, 32, .inl (fun _ => 0)))] := hD
  have hK : va_K (dC, dI) vwCl [(c_2, .byte), (c_4, .byte)] s := hK
  refine W.widen (k := 2) (n := 96) (Nat.le_of_ble_eq_true rfl) (Nat.le_of_ble_eq_true rfl) ?_
  refine va_putF (D := (dC, dI)) (ci := 0) (v := .ref q_3) (ty := .array .byte) (C := RX1) (T := TX1) (N := 3) hx hb hts in_X1 tyX1 tyX1_ok nmX1 hown hK hP hD hS 0 rfl rfl 1 (by decide) (hts _ q29) (fun _ h9 => h9) rfl hin rfl (by decide +kernel) rfl rfl (Nat.le_of_ble_eq_true rfl) dX1_init_17 (fun H locs hP hD hS => ?_)
  have hP : va_P (dC, dI) vwCl [(h, .inr (0, [.ref q_1, .ref q_3, .null])), (q_1, .inl (c_2, 64, .inl (fun _ => 0))), (q_3, .inl (c_4, 32, .inl (fun _ => 0)))] H := hP
  have hD : va_D A [(h, .inr (0, [.ref q_1, .ref q_3, .null])), (q_1, .inl (c_2, 64, .inl (fun _ => 0))), (q_3, .inl (c_4, 32, .inl (fun _ => 0)))] := hD
  refine lv_aload_n hx hb dX1_init_20 rfl (lv_at hl 0 rfl) ?_
  refine lv_bipush (v := 32) hx hb dX1_init_21 (by decide) ?_
  refine va_newa (atype := .byte) (a0 := (32, .inl (fun _ => 0))) (N' := 32) hx hb (hts _ q38) (ty := .byte) rfl hK hP hD hS hA (fun _ => rfl) (by decide) (by decide) (by decide) (Nat.le_of_ble_eq_true rfl) (Nat.le_of_ble_eq_true rfl) dX1_init_23 (fun q_5 c_6 H hK hP hD hS => ?_)
  have hP : va_P (dC, dI) vwCl [(h, .inr (0, [.ref q_1, .ref q_3, .null])), (q_1, .inl (c_2, 64, .inl (fun _ => 0))), (q_3, .inl (c_4, 32, .inl (fun _ => 0))), (q_5, .inl (c_6, 32, .inl (fun _ => 0)))] H := hP
  have hD : va_D A [(h, .inr (0, [.ref q_1, .ref q_3, .null])), (q_1, .inl (c_2, 64, .inl (fun _ => 0))), (q_3, .inl (c_4, 32, .inl (fun _ => 0))), (q_5, .inl (c_6, 32, .inl (fun _ => 0)))] := hD
  have hK : va_K (dC, dI) vwCl [(c_2, .byte), (c_4, .byte), (c_6, .byte)] s := hK
  refine W.widen (k := 3) (n := 128) (Nat.le_of_ble_eq_true rfl) (Nat.le_of_ble_eq_true rfl) ?_
  refine va_putF (D := (dC, dI)) (ci := 0) (v := .ref q_5) (ty := .array .byte) (C := RX1) (T := TX1) (N := 3) hx hb hts in_X1 tyX1 tyX1_ok nmX1 hown hK hP hD hS 0 rfl rfl 2 (by decide) (hts _ q30) (fun _ h9 => h9) rfl hin rfl (by decide +kernel) rfl rfl (Nat.le_of_ble_eq_true rfl) dX1_init_25 (fun H locs hP hD hS => ?_)
  have hP : va_P (dC, dI) vwCl [(h, .inr (0, [.ref q_1, .ref q_3, .ref q_5])), (q_1, .inl (c_2, 64, .inl (fun _ => 0))), (q_3, .inl (c_4, 32, .inl (fun _ => 0))), (q_5, .inl (c_6, 32, .inl (fun _ => 0)))] H := hP
  have hD : va_D A [(h, .inr (0, [.ref q_1, .ref q_3, .ref q_5])), (q_1, .inl (c_2, 64, .inl (fun _ => 0))), (q_3, .inl (c_4, 32, .inl (fun _ => 0))), (q_5, .inl (c_6, 32, .inl (fun _ => 0)))] := hD
  have hP := sx_ext hP 1 (sa_bs (fun _ => 0)) rfl (fun j _ => (congrFun sa_bs_z j).symm)
  have hD := hD.set (p := 1) (a := q_1) (e := .inl (c_2, 64, .inl (sa_bs (fun _ => 0)))) rfl
  have hP : va_P (dC, dI) vwCl [(h, .inr (0, [.ref q_1, .ref q_3, .ref q_5])), (q_1, .inl (c_2, 64, .inl (sa_bs (fun _ => 0)))), (q_3, .inl (c_4, 32, .inl (fun _ => 0))), (q_5, .inl (c_6, 32, .inl (fun _ => 0)))] H := hP
  have hD : va_D A [(h, .inr (0, [.ref q_1, .ref q_3, .ref q_5])), (q_1, .inl (c_2, 64, .inl (sa_bs (fun _ => 0)))), (q_3, .inl (c_4, 32, .inl (fun _ => 0))), (q_5, .inl (c_6, 32, .inl (fun _ => 0)))] := hD
  have hP := sx_ext hP 2 (sa_bs (fun _ => 0)) rfl (fun j _ => (congrFun sa_bs_z j).symm)
  have hD := hD.set (p := 2) (a := q_3) (e := .inl (c_4, 32, .inl (sa_bs (fun _ => 0)))) rfl
  have hP : va_P (dC, dI) vwCl [(h, .inr (0, [.ref q_1, .ref q_3, .ref q_5])), (q_1, .inl (c_2, 64, .inl (sa_bs (fun _ => 0)))), (q_3, .inl (c_4, 32, .inl (sa_bs (fun _ => 0)))), (q_5, .inl (c_6, 32, .inl (fun _ => 0)))] H := hP
  have hD : va_D A [(h, .inr (0, [.ref q_1, .ref q_3, .ref q_5])), (q_1, .inl (c_2, 64, .inl (sa_bs (fun _ => 0)))), (q_3, .inl (c_4, 32, .inl (sa_bs (fun _ => 0)))), (q_5, .inl (c_6, 32, .inl (fun _ => 0)))] := hD
  have hP := sx_ext hP 3 (sa_bs (fun _ => 0)) rfl (fun j _ => (congrFun sa_bs_z j).symm)
  have hD := hD.set (p := 3) (a := q_5) (e := .inl (c_6, 32, .inl (sa_bs (fun _ => 0)))) rfl
  have hP : va_P (dC, dI) vwCl [(h, .inr (0, [.ref q_1, .ref q_3, .ref q_5])), (q_1, .inl (c_2, 64, .inl (sa_bs (fun _ => 0)))), (q_3, .inl (c_4, 32, .inl (sa_bs (fun _ => 0)))), (q_5, .inl (c_6, 32, .inl (sa_bs (fun _ => 0))))] H := hP
  have hD : va_D A [(h, .inr (0, [.ref q_1, .ref q_3, .ref q_5])), (q_1, .inl (c_2, 64, .inl (sa_bs (fun _ => 0)))), (q_3, .inl (c_4, 32, .inl (sa_bs (fun _ => 0)))), (q_5, .inl (c_6, 32, .inl (sa_bs (fun _ => 0))))] := hD
  exact W.vret hx hb hr (fun t ht hW => ⟨⟨(), rfl, trivial, q_1, q_3, q_5, c_2, c_4, c_6, by rw [ht]; exact hP, hD, va_K.moved hW.alike hK⟩, hS.F ht⟩) hS.2.2 dX1_init_28
end
section
/-! KeyParameter's methods, by contract -/
set_option maxHeartbeats 4000000 in
set_option maxRecDepth 100000 in
/-- KeyParameter(64) -/
theorem mt_kp3 (l : Launch) (dC : Nat → ClassId) (dI : Nat → Nat → Nat) (sz : Nat) (k : Nat) : Met l yX3_init_3 (ws_ yX3_init_3 cX3_init_3 2 none) ({ frames := 1, cells := 1, slots := 64, locals := 12 }) (va_Pc [.ref k, .int 64] (sx_Pre (dC, dI) [(k, .inr (2, [.null]))] [] sz)) (va_Qv (fun _ : Unit => True) (fun _ t => ∃ (qn : Nat) (cn : ClassId), sx_PostK (dC, dI) (va_A [(k, .inr (2, [.null]))] sz) [(k, .inr (2, [.ref qn])), (qn, .inl (cn, 64, .inl (fun _ => 0)))] [(cn, .byte)] t) (va_A [(k, .inr (2, [.null]))] sz)) 1 64 (va_A [(k, .inr (2, [.null]))] sz) := by
  refine Met.ofW (cc := cX3_init_3) (maxL := 2) (ret := none) (by decide) rfl ?_
  intro p e s m args below meth c s₁ B hml hv
  obtain ⟨rfl, hsz, hP, hK, hD0⟩ := hv
  have hx := B.exec
  have hb := B.bytes
  have hr := B.returns
  have hts := atoms_spec (ws := ws_ yX3_init_3 cX3_init_3 2 none) B.pre
  have hts : ∀ w ∈ lw_all, w.before _ s = true := fun w h => hts w (List.mem_cons_of_mem _ h)
  have hown : s.vm.findClass RX3 = some m.cls := findClass_of_methodNamed B.named
  have hlocks := B.notSynchronized
  have hin : meth.name = "<init>" := (name_of_methodNamed B.named B.method).1
  subst hsz
  have hD := hD0.self (sz := s.heap.size)
  generalize hAe : va_A [(k, .inr (2, [.null]))] s.heap.size = A at hD ⊢
  have hA : ∀ q : Nat, s.heap.size ≤ q → A q := fun q h => by rw [← hAe]; exact Or.inr h
  have hS : va_S A s.heap s.heap [] := va_S.rf
  have hP : va_P (dC, dI) vwCl [(k, .inr (2, [.null]))] s.heap := hP
  have hl := lv_entry ([.ref k, .int 64]) (n := 2) (Nat.le_of_ble_eq_true rfl)
  rw [lg_entry_eq]
  generalize (lg_sl ([.ref k, .int 64]) ++ List.replicate (2 - (lg_sl ([.ref k, .int 64])).length) Slot.unset).toArray = ls at hl ⊢
  have hl : lv_has ls 2 [(0, .ref k), (1, .int 64)] := hl
  refine lv_aload_n hx hb dX3_init_3_0 rfl (lv_at hl 0 rfl) ?_
  refine W.objInit hx hb hown (hts _ q71) (hts _ q26) (hts _ q27) rfl (by rw [hml]; exact hl.1) rfl dX3_init_3_1 (Nat.le_of_ble_eq_true rfl) (Nat.le_of_ble_eq_true rfl) ?_
  refine W.eq (g2 := F0 m 4 ls []) rfl ?_
  refine lv_aload_n hx hb dX3_init_3_4 rfl (lv_at hl 0 rfl) ?_
  refine lv_iload_n hx hb dX3_init_3_5 rfl (lv_at hl 1 rfl) ?_
  refine va_newa (atype := .byte) (a0 := (64, .inl (fun _ => 0))) (N' := 64) hx hb (hts _ q38) (ty := .byte) rfl hK hP hD hS hA (fun _ => rfl) (by decide) (by decide) (by decide) (Nat.le_of_ble_eq_true rfl) (Nat.le_of_ble_eq_true rfl) dX3_init_3_6 (fun q_1 c_2 H hK hP hD hS => ?_)
  have hP : va_P (dC, dI) vwCl [(k, .inr (2, [.null])), (q_1, .inl (c_2, 64, .inl (fun _ => 0)))] H := hP
  have hD : va_D A [(k, .inr (2, [.null])), (q_1, .inl (c_2, 64, .inl (fun _ => 0)))] := hD
  have hK : va_K (dC, dI) vwCl [(c_2, .byte)] s := hK
  refine W.widen (k := 1) (n := 64) (Nat.le_of_ble_eq_true rfl) (Nat.le_of_ble_eq_true rfl) ?_
  refine va_put (D := (dC, dI)) (ci := 2) (v := .ref q_1) (ty := .array .byte) (C := RX3) (T := TX3) (N := 1) hx hb hts in_X3 tyX3 tyX3_ok nmX3 hown hK hP hD hS 0 rfl rfl 0 (by decide) (hts _ q72) (fun _ h9 => h9) rfl (by decide +kernel) rfl rfl (Nat.le_of_ble_eq_true rfl) dX3_init_3_8 (fun H locs hP hD hS => ?_)
  have hP : va_P (dC, dI) vwCl [(k, .inr (2, [.ref q_1])), (q_1, .inl (c_2, 64, .inl (fun _ => 0)))] H := hP
  have hD : va_D A [(k, .inr (2, [.ref q_1])), (q_1, .inl (c_2, 64, .inl (fun _ => 0)))] := hD
  exact W.vret hx hb hr (fun t ht hW => ⟨⟨(), rfl, trivial, q_1, c_2, by rw [ht]; exact hP, hD, va_K.moved hW.alike hK⟩, hS.F ht⟩) hS.2.2 dX3_init_3_11
set_option maxHeartbeats 4000000 in
set_option maxRecDepth 100000 in
/-- KeyParameter(a, 0, 64): a copy -/
theorem mt_kp2 (l : Launch) (dC : Nat → ClassId) (dI : Nat → Nat → Nat) (sz : Nat) (k qa : Nat) (ca : ClassId) (f : Nat → Int32) : Met l yX3_init_2 (ws_ yX3_init_2 cX3_init_2 4 none) ({ frames := 3, cells := 1, slots := 64, locals := 80 }) (va_Pc [.ref k, .ref qa, .int 0, .int 64] (sx_Pre (dC, dI) [(k, .inr (2, [.null])), (qa, .inl (ca, 64, .inl (sa_bs f)))] [(ca, .byte)] sz)) (va_Qv (fun _ : Unit => True) (fun _ t => ∃ (qn : Nat) (cn : ClassId), sx_PostK (dC, dI) (va_A [(k, .inr (2, [.null])), (qa, .inl (ca, 64, .inl (sa_bs f)))] sz) [(qa, .inl (ca, 64, .inl (sa_bs f))), (k, .inr (2, [.ref qn])), (qn, .inl (cn, 64, .inl (sa_bs f)))] [(ca, .byte), (cn, .byte)] t) (va_A [(k, .inr (2, [.null])), (qa, .inl (ca, 64, .inl (sa_bs f)))] sz)) 1 64 (va_A [(k, .inr (2, [.null])), (qa, .inl (ca, 64, .inl (sa_bs f)))] sz) := by
  refine Met.ofW (cc := cX3_init_2) (maxL := 4) (ret := none) (by decide) rfl ?_
  intro p e s m args below meth c s₁ B hml hv
  obtain ⟨rfl, hsz, hP, hK, hD0⟩ := hv
  have hx := B.exec
  have hb := B.bytes
  have hr := B.returns
  have hts := atoms_spec (ws := ws_ yX3_init_2 cX3_init_2 4 none) B.pre
  have hts : ∀ w ∈ lw_all, w.before _ s = true := fun w h => hts w (List.mem_cons_of_mem _ h)
  have hown : s.vm.findClass RX3 = some m.cls := findClass_of_methodNamed B.named
  have hlocks := B.notSynchronized
  have hin : meth.name = "<init>" := (name_of_methodNamed B.named B.method).1
  subst hsz
  have hD := hD0.self (sz := s.heap.size)
  generalize hAe : va_A [(k, .inr (2, [.null])), (qa, .inl (ca, 64, .inl (sa_bs f)))] s.heap.size = A at hD ⊢
  have hA : ∀ q : Nat, s.heap.size ≤ q → A q := fun q h => by rw [← hAe]; exact Or.inr h
  have hS : va_S A s.heap s.heap [] := va_S.rf
  have hP : va_P (dC, dI) vwCl [(k, .inr (2, [.null])), (qa, .inl (ca, 64, .inl (sa_bs f)))] s.heap := hP
  have hl := lv_entry ([.ref k, .ref qa, .int 0, .int 64]) (n := 4) (Nat.le_of_ble_eq_true rfl)
  rw [lg_entry_eq]
  generalize (lg_sl ([.ref k, .ref qa, .int 0, .int 64]) ++ List.replicate (4 - (lg_sl ([.ref k, .ref qa, .int 0, .int 64])).length) Slot.unset).toArray = ls at hl ⊢
  have hl : lv_has ls 4 [(0, .ref k), (1, .ref qa), (2, .int 0), (3, .int 64)] := hl
  refine lv_aload_n hx hb dX3_init_2_0 rfl (lv_at hl 0 rfl) ?_
  refine lv_iload_n hx hb dX3_init_2_1 rfl (lv_at hl 3 rfl) ?_
  have hPc := hP.sub (ws' := [(k, .inr (2, [.null]))]) [0] rfl
  have hDc := hD.sub (ws' := [(k, .inr (2, [.null]))]) [0] (by decide) rfl
  have hKc := hK.sub (tys' := []) [] rfl
  have hFc := va_free (wc := [(k, .inr (2, [.null]))]) hD hS hA [0] rfl
  refine va_callv (va_runI (As := [.int 64]) (rest := []) ⟨hx, hb, hml, hown, hts⟩ (mt_kp3 l dC dI s.heap.size k) (cwI 1 hts (lw_meth q70) rfl rfl rfl (hts _ q10) (hts _ q68) (hts _ q69) rfl (by decide +kernel) ⟨Nat.le_of_ble_eq_true rfl, Nat.le_of_ble_eq_true rfl⟩) ⟨sx_blind, fun U hU hW => ⟨rfl, sx_Pre.mk hPc hKc hDc hU hW⟩⟩ rfl rfl hl.1 rfl (lv_room (Nat.le_of_ble_eq_true rfl)) dX3_init_2_2 ⟨Nat.le_of_ble_eq_true rfl, Nat.le_of_ble_eq_true rfl⟩) hS (fun q _ h => hFc q h) hFc (fun u t H1 locs ht hvm hw hB hz1 hk1 hS => ?_)
  obtain ⟨qn, cn, hB⟩ := hB
  obtain ⟨hP1, hD1, hK1⟩ := hB
  rw [ht] at hP1
  obtain ⟨hP, hD⟩ := va_join (wr := [(qa, .inl (ca, 64, .inl (sa_bs f)))]) (w1 := [(k, .inr (2, [.ref qn])), (qn, .inl (cn, 64, .inl (fun _ => 0)))]) hP hD [0] [1] rfl rfl (by decide) (by decide) hk1 hFc hP1 hD1
  have hK := hK.app (va_K.moved hvm.symm hK1)
  have hK : va_K (dC, dI) vwCl [(ca, .byte), (cn, .byte)] s := hK
  generalize H1 = H at hP hS ⊢
  have hP : va_P (dC, dI) vwCl [(qa, .inl (ca, 64, .inl (sa_bs f))), (k, .inr (2, [.ref qn])), (qn, .inl (cn, 64, .inl (fun _ => 0)))] H := hP
  have hD : va_D A [(qa, .inl (ca, 64, .inl (sa_bs f))), (k, .inr (2, [.ref qn])), (qn, .inl (cn, 64, .inl (fun _ => 0)))] := hD
  refine W.widen (k := 1) (n := 64) (Nat.le_of_ble_eq_true rfl) (Nat.le_of_ble_eq_true rfl) ?_
  refine lv_aload_n hx hb dX3_init_2_5 rfl (lv_at hl 1 rfl) ?_
  refine lv_iload_n hx hb dX3_init_2_6 rfl (lv_at hl 2 rfl) ?_
  refine lv_aload_n hx hb dX3_init_2_7 rfl (lv_at hl 0 rfl) ?_
  refine va_get (D := (dC, dI)) (ci := 2) (v := .ref qn) (C := RX3) (T := TX3) (N := 1) hx hb hts in_X3 hown hK hP 1 rfl rfl 0 (by decide) (hts _ q72) (fun _ h9 => h9) rfl dX3_init_2_8 ?_
  refine lv_iconst (v := 0) hx hb dX3_init_2_11 (by decide) ?_
  refine lv_iload_n hx hb dX3_init_2_12 rfl (lv_at hl 3 rfl) ?_
  refine va_copyi hx hb (by rw [hml]; exact hl.1.symm) hown (hts _ q76) (hts _ q78) (hts _ q77) (hts _ q11) hK hP hD hS 0 2 0 1 rfl rfl rfl rfl rfl (by decide) (by decide) (by decide) (by decide) (by decide) (fun _ _ => sa_by_fit _ _) (Nat.le_of_ble_eq_true rfl) (Nat.le_of_ble_eq_true rfl) dX3_init_2_13 (fun H locs hP hD hS => ?_)
  have hP := sx_set2 (g := sa_bs f) hP (Nat.le_of_ble_eq_true rfl) (fun j hj => sb_cpy0 (f := sa_bs f) (g := fun _ => 0) (n := 64) hj)
  have hD := hD.set (p := 2) (a := qn) (e := .inl (cn, 64, .inl (sa_bs f))) rfl
  have hP : va_P (dC, dI) vwCl [(qa, .inl (ca, 64, .inl (sa_bs f))), (k, .inr (2, [.ref qn])), (qn, .inl (cn, 64, .inl (sa_bs f)))] H := hP
  have hD : va_D A [(qa, .inl (ca, 64, .inl (sa_bs f))), (k, .inr (2, [.ref qn])), (qn, .inl (cn, 64, .inl (sa_bs f)))] := hD
  exact W.vret hx hb hr (fun t ht hW => ⟨⟨(), rfl, trivial, qn, cn, by rw [ht]; exact hP, hD, va_K.moved hW.alike hK⟩, hS.F ht⟩) hS.2.2 dX3_init_2_16
set_option maxHeartbeats 4000000 in
set_option maxRecDepth 100000 in
/-- KeyParameter(a): a copy -/
theorem mt_kp (l : Launch) (dC : Nat → ClassId) (dI : Nat → Nat → Nat) (sz : Nat) (k qa : Nat) (ca : ClassId) (f : Nat → Int32) : Met l yX3_init (ws_ yX3_init cX3_init 2 none) ({ frames := 4, cells := 1, slots := 64, locals := 110 }) (va_Pc [.ref k, .ref qa] (sx_Pre (dC, dI) [(k, .inr (2, [.null])), (qa, .inl (ca, 64, .inl (sa_bs f)))] [(ca, .byte)] sz)) (va_Qv (fun _ : Unit => True) (fun _ t => ∃ (qn : Nat) (cn : ClassId), sx_PostK (dC, dI) (va_A [(k, .inr (2, [.null])), (qa, .inl (ca, 64, .inl (sa_bs f)))] sz) [(qa, .inl (ca, 64, .inl (sa_bs f))), (k, .inr (2, [.ref qn])), (qn, .inl (cn, 64, .inl (sa_bs f)))] [(ca, .byte), (cn, .byte)] t) (va_A [(k, .inr (2, [.null])), (qa, .inl (ca, 64, .inl (sa_bs f)))] sz)) 1 64 (va_A [(k, .inr (2, [.null])), (qa, .inl (ca, 64, .inl (sa_bs f)))] sz) := by
  refine Met.ofW (cc := cX3_init) (maxL := 2) (ret := none) (by decide) rfl ?_
  intro p e s m args below meth c s₁ B hml hv
  obtain ⟨rfl, hsz, hP, hK, hD0⟩ := hv
  have hx := B.exec
  have hb := B.bytes
  have hr := B.returns
  have hts := atoms_spec (ws := ws_ yX3_init cX3_init 2 none) B.pre
  have hts : ∀ w ∈ lw_all, w.before _ s = true := fun w h => hts w (List.mem_cons_of_mem _ h)
  have hown : s.vm.findClass RX3 = some m.cls := findClass_of_methodNamed B.named
  have hlocks := B.notSynchronized
  have hin : meth.name = "<init>" := (name_of_methodNamed B.named B.method).1
  subst hsz
  have hD := hD0.self (sz := s.heap.size)
  generalize hAe : va_A [(k, .inr (2, [.null])), (qa, .inl (ca, 64, .inl (sa_bs f)))] s.heap.size = A at hD ⊢
  have hA : ∀ q : Nat, s.heap.size ≤ q → A q := fun q h => by rw [← hAe]; exact Or.inr h
  have hS : va_S A s.heap s.heap [] := va_S.rf
  have hP : va_P (dC, dI) vwCl [(k, .inr (2, [.null])), (qa, .inl (ca, 64, .inl (sa_bs f)))] s.heap := hP
  have hl := lv_entry ([.ref k, .ref qa]) (n := 2) (Nat.le_of_ble_eq_true rfl)
  rw [lg_entry_eq]
  generalize (lg_sl ([.ref k, .ref qa]) ++ List.replicate (2 - (lg_sl ([.ref k, .ref qa])).length) Slot.unset).toArray = ls at hl ⊢
  have hl : lv_has ls 2 [(0, .ref k), (1, .ref qa)] := hl
  refine lv_aload_n hx hb dX3_init_0 rfl (lv_at hl 0 rfl) ?_
  refine lv_aload_n hx hb dX3_init_1 rfl (lv_at hl 1 rfl) ?_
  refine lv_iconst (v := 0) hx hb dX3_init_2 (by decide) ?_
  refine lv_aload_n hx hb dX3_init_3 rfl (lv_at hl 1 rfl) ?_
  refine va_alen (v := 64) hx hb hK hP 1 0 rfl rfl rfl dX3_init_4 ?_
  have hPc := hP.sub (ws' := [(k, .inr (2, [.null])), (qa, .inl (ca, 64, .inl (sa_bs f)))]) [0, 1] rfl
  have hDc := hD.sub (ws' := [(k, .inr (2, [.null])), (qa, .inl (ca, 64, .inl (sa_bs f)))]) [0, 1] (by decide) rfl
  have hKc := hK.sub (tys' := [(ca, .byte)]) [0] rfl
  have hFc := va_free (wc := [(k, .inr (2, [.null])), (qa, .inl (ca, 64, .inl (sa_bs f)))]) hD hS hA [0, 1] rfl
  refine va_callv (va_runI (As := [.ref qa, .int 0, .int 64]) (rest := []) ⟨hx, hb, hml, hown, hts⟩ (mt_kp2 l dC dI s.heap.size k qa ca f) (cwI 3 hts (lw_meth q67) rfl rfl rfl (hts _ q10) (hts _ q65) (hts _ q66) rfl (by decide +kernel) ⟨Nat.le_of_ble_eq_true rfl, Nat.le_of_ble_eq_true rfl⟩) ⟨sx_blind, fun U hU hW => ⟨rfl, sx_Pre.mk hPc hKc hDc hU hW⟩⟩ rfl rfl hl.1 rfl (lv_room (Nat.le_of_ble_eq_true rfl)) dX3_init_5 ⟨Nat.le_of_ble_eq_true rfl, Nat.le_of_ble_eq_true rfl⟩) hS (fun q _ h => hFc q h) hFc (fun u t H1 locs ht hvm hw hB hz1 hk1 hS => ?_)
  obtain ⟨qn, cn, hB⟩ := hB
  obtain ⟨hP1, hD1, hK1⟩ := hB
  rw [ht] at hP1
  obtain ⟨hP, hD⟩ := va_join (wr := []) (w1 := [(qa, .inl (ca, 64, .inl (sa_bs f))), (k, .inr (2, [.ref qn])), (qn, .inl (cn, 64, .inl (sa_bs f)))]) hP hD [0, 1] [] rfl rfl (by decide) (by decide) hk1 hFc hP1 hD1
  have hK := hK.app (va_K.moved hvm.symm hK1)
  have hK : va_K (dC, dI) vwCl [(ca, .byte), (ca, .byte), (cn, .byte)] s := hK
  generalize H1 = H at hP hS ⊢
  have hP : va_P (dC, dI) vwCl [(qa, .inl (ca, 64, .inl (sa_bs f))), (k, .inr (2, [.ref qn])), (qn, .inl (cn, 64, .inl (sa_bs f)))] H := hP
  have hD : va_D A [(qa, .inl (ca, 64, .inl (sa_bs f))), (k, .inr (2, [.ref qn])), (qn, .inl (cn, 64, .inl (sa_bs f)))] := hD
  refine W.widen (k := 1) (n := 64) (Nat.le_of_ble_eq_true rfl) (Nat.le_of_ble_eq_true rfl) ?_
  exact W.vret hx hb hr (fun t ht hW => ⟨⟨(), rfl, trivial, qn, cn, by rw [ht]; exact hP, hD, va_K.moved hW.alike (hK.sub (tys' := [(ca, .byte), (cn, .byte)]) [1, 2] rfl)⟩, hS.F ht⟩) hS.2.2 dX3_init_8
set_option maxHeartbeats 4000000 in
set_option maxRecDepth 100000 in
/-- getKey() -/
theorem mt_getKey (l : Launch) (dC : Nat → ClassId) (dI : Nat → Nat → Nat) (sz : Nat) (k qn : Nat) : Met l yX3_getKey (ws_ yX3_getKey cX3_getKey 1 (some (.array .byte))) ({ frames := 0, cells := 0, slots := 0, locals := 0 }) (va_Pc [.ref k] (sx_Pre (dC, dI) [(k, .inr (2, [.ref qn]))] [] sz)) (va_Qr (fun _ : Unit => True) (fun _ a t => a = qn ∧ sx_Post (dC, dI) (va_A [(k, .inr (2, [.ref qn]))] sz) [(k, .inr (2, [.ref qn]))] t) (va_A [(k, .inr (2, [.ref qn]))] sz)) 0 0 (va_A [(k, .inr (2, [.ref qn]))] sz) := by
  refine Met.ofW (cc := cX3_getKey) (maxL := 1) (ret := (some (.array .byte))) (by decide) rfl ?_
  intro p e s m args below meth c s₁ B hml hv
  obtain ⟨rfl, hsz, hP, hK, hD0⟩ := hv
  have hx := B.exec
  have hb := B.bytes
  have hr := B.returns
  have hts := atoms_spec (ws := ws_ yX3_getKey cX3_getKey 1 (some (.array .byte))) B.pre
  have hts : ∀ w ∈ lw_all, w.before _ s = true := fun w h => hts w (List.mem_cons_of_mem _ h)
  have hown : s.vm.findClass RX3 = some m.cls := findClass_of_methodNamed B.named
  have hlocks := B.notSynchronized
  subst hsz
  have hD := hD0.self (sz := s.heap.size)
  generalize hAe : va_A [(k, .inr (2, [.ref qn]))] s.heap.size = A at hD ⊢
  have hA : ∀ q : Nat, s.heap.size ≤ q → A q := fun q h => by rw [← hAe]; exact Or.inr h
  have hS : va_S A s.heap s.heap [] := va_S.rf
  have hP : va_P (dC, dI) vwCl [(k, .inr (2, [.ref qn]))] s.heap := hP
  have hl := lv_entry ([.ref k]) (n := 1) (Nat.le_of_ble_eq_true rfl)
  rw [lg_entry_eq]
  generalize (lg_sl ([.ref k]) ++ List.replicate (1 - (lg_sl ([.ref k])).length) Slot.unset).toArray = ls at hl ⊢
  have hl : lv_has ls 1 [(0, .ref k)] := hl
  refine lv_aload_n hx hb dX3_getKey_0 rfl (lv_at hl 0 rfl) ?_
  refine va_get (D := (dC, dI)) (ci := 2) (v := .ref qn) (C := RX3) (T := TX3) (N := 1) hx hb hts in_X3 hown hK hP 0 rfl rfl 0 (by decide) (hts _ q72) (fun _ h9 => h9) rfl dX3_getKey_1 ?_
  exact W.aret (v := .ref qn) hx hb hr (Or.inr ⟨_, rfl⟩) (Or.inr ⟨_, rfl⟩) (fun t ht hW => ⟨⟨(), qn, rfl, trivial, rfl, by rw [ht]; exact hP, hD⟩, hS.F ht⟩) hS.2.2 dX3_getKey_4
end
section
/-! Shacal2Engine's leaf methods, by contract -/
set_option maxHeartbeats 4000000 in
set_option maxRecDepth 100000 in
/-- Shacal2Engine() -/
theorem mt_eng (l : Launch) (dC : Nat → ClassId) (dI : Nat → Nat → Nat) (sz : Nat) (eq : Nat) : Met l yX2_init (ws_ yX2_init cX2_init 1 none) ({ frames := 1, cells := 0, slots := 0, locals := 12 }) (va_Pc [.ref eq] (sx_Pre (dC, dI) [(eq, .inr (1, [.int 0, .null]))] [] sz)) (va_Qv (fun _ : Unit => True) (fun _ t => sx_Post (dC, dI) (va_A [(eq, .inr (1, [.int 0, .null]))] sz) [(eq, .inr (1, [.int 0, .null]))] t) (va_A [(eq, .inr (1, [.int 0, .null]))] sz)) 0 0 (va_A [(eq, .inr (1, [.int 0, .null]))] sz) := by
  refine Met.ofW (cc := cX2_init) (maxL := 1) (ret := none) (by decide) rfl ?_
  intro p e s m args below meth c s₁ B hml hv
  obtain ⟨rfl, hsz, hP, hK, hD0⟩ := hv
  have hx := B.exec
  have hb := B.bytes
  have hr := B.returns
  have hts := atoms_spec (ws := ws_ yX2_init cX2_init 1 none) B.pre
  have hts : ∀ w ∈ lw_all, w.before _ s = true := fun w h => hts w (List.mem_cons_of_mem _ h)
  have hown : s.vm.findClass RX2 = some m.cls := findClass_of_methodNamed B.named
  have hlocks := B.notSynchronized
  have hin : meth.name = "<init>" := (name_of_methodNamed B.named B.method).1
  subst hsz
  have hD := hD0.self (sz := s.heap.size)
  generalize hAe : va_A [(eq, .inr (1, [.int 0, .null]))] s.heap.size = A at hD ⊢
  have hA : ∀ q : Nat, s.heap.size ≤ q → A q := fun q h => by rw [← hAe]; exact Or.inr h
  have hS : va_S A s.heap s.heap [] := va_S.rf
  have hP : va_P (dC, dI) vwCl [(eq, .inr (1, [.int 0, .null]))] s.heap := hP
  have hl := lv_entry ([.ref eq]) (n := 1) (Nat.le_of_ble_eq_true rfl)
  rw [lg_entry_eq]
  generalize (lg_sl ([.ref eq]) ++ List.replicate (1 - (lg_sl ([.ref eq])).length) Slot.unset).toArray = ls at hl ⊢
  have hl : lv_has ls 1 [(0, .ref eq)] := hl
  refine lv_aload_n hx hb dX2_init_0 rfl (lv_at hl 0 rfl) ?_
  refine W.objInit hx hb hown (hts _ q52) (hts _ q26) (hts _ q27) rfl (by rw [hml]; exact hl.1) rfl dX2_init_1 (Nat.le_of_ble_eq_true rfl) (Nat.le_of_ble_eq_true rfl) ?_
  refine W.eq (g2 := F0 m 4 ls []) rfl ?_
  refine lv_aload_n hx hb dX2_init_4 rfl (lv_at hl 0 rfl) ?_
  refine lv_iconst (v := 0) hx hb dX2_init_5 (by decide) ?_
  refine va_put (D := (dC, dI)) (ci := 1) (v := .int 0) (ty := .boolean) (C := RX2) (T := TX2) (N := 2) hx hb hts in_X2 tyX2 tyX2_ok nmX2 hown hK hP hD hS 0 rfl rfl 0 (by decide) (hts _ q53) (fun _ h9 => h9) rfl (by decide +kernel) rfl rfl (Nat.le_of_ble_eq_true rfl) dX2_init_6 (fun H locs hP hD hS => ?_)
  have hP : va_P (dC, dI) vwCl [(eq, .inr (1, [.int 0, .null]))] H := hP
  have hD : va_D A [(eq, .inr (1, [.int 0, .null]))] := hD
  refine lv_aload_n hx hb dX2_init_9 rfl (lv_at hl 0 rfl) ?_
  refine lv_null hx hb dX2_init_10 ?_
  refine va_put (D := (dC, dI)) (ci := 1) (v := .null) (ty := .array .int) (C := RX2) (T := TX2) (N := 2) hx hb hts in_X2 tyX2 tyX2_ok nmX2 hown hK hP hD hS 0 rfl rfl 1 (by decide) (hts _ q54) (fun _ h9 => h9) rfl (by decide +kernel) rfl rfl (Nat.le_of_ble_eq_true rfl) dX2_init_11 (fun H locs hP hD hS => ?_)
  have hP : va_P (dC, dI) vwCl [(eq, .inr (1, [.int 0, .null]))] H := hP
  have hD : va_D A [(eq, .inr (1, [.int 0, .null]))] := hD
  have hP9 := hP.sub (ws' := [(eq, .inr (1, [.int 0, .null]))]) [0] rfl
  have hD9 := hD.sub (ws' := [(eq, .inr (1, [.int 0, .null]))]) [0] (by decide) rfl
  exact W.vret hx hb hr (fun t ht hW => ⟨⟨(), rfl, trivial, by rw [ht]; exact hP9, hD9⟩, hS.F ht⟩) hS.2.2 dX2_init_14
theorem sa_mx_4 (w f : Nat → Int32) (i : Nat) : upd (upd (upd (upd (sa_mx (sa_bs w) f (4 * i)) (4 * i) (sa_by (w i) 0)) (4 * i + 1) (sa_by (w i) 1)) (4 * i + 2) (sa_by (w i) 2)) (4 * i + 3) (sa_by (w i) 3) = sa_mx (sa_bs w) f (4 * (i + 1)) := by
  rw [← sa_bs0 w i, sa_mx_S, ← sa_bs1 w i, sa_mx_S, ← sa_bs2 w i, sa_mx_S, ← sa_bs3 w i, sa_mx_S]
  rfl
set_option maxHeartbeats 4000000 in
set_option maxRecDepth 100000 in
/-- byteBlockToInts(bytes, block, 0, 0): the loop -/
theorem lp_bbi {p : Program} {l : Launch} {e : Env} {R : Room} {s : State} {m : MethodId} {args : Array Value} {below : List Frame} {meth : Method} {c : Code} {Q : State → Prop} {A : Nat → Prop} {cells slots : Nat} {dC : Nat → ClassId} {dI : Nat → Nat → Nat} (eq qi qw : Nat) (ci cw : ClassId) (w g : Nat → Int32) (hx : p.tables.exec = Jvm.exec) (hb : c.code = cX2_byteBlockToInts) (hml : c.maxLocals = 6) (hown : s.vm.findClass RX2 = some m.cls) (hts : ∀ w ∈ lw_all, w.before args s = true) (hA : ∀ q : Nat, s.heap.size ≤ q → A q) (hK : va_K (dC, dI) vwCl [(ci, .byte), (cw, .int)] s) :
    ∀ (n i : Nat), i ≤ 8 → 8 < i + n → ∀ (H : Heap) (locs : List Loc) (ls : Array Slot), va_P (dC, dI) vwCl [(qi, .inl (ci, 32, .inl (sa_bs w))), (qw, .inl (cw, 8, .inl (sa_mx w g i)))] H → va_D A [(qi, .inl (ci, 32, .inl (sa_bs w))), (qw, .inl (cw, 8, .inl (sa_mx w g i)))] → va_S A s.heap H locs → lv_has ls 6 [(0, .ref eq), (1, .ref qi), (2, .ref qw), (3, .int (nI (4 * i))), (4, .int 0), (5, .int (nI i))] → (∀ (H : Heap) (locs : List Loc) (ls : Array Slot), va_P (dC, dI) vwCl [(qi, .inl (ci, 32, .inl (sa_bs w))), (qw, .inl (cw, 8, .inl (sa_mx w g 8)))] H → va_D A [(qi, .inl (ci, 32, .inl (sa_bs w))), (qw, .inl (cw, 8, .inl (sa_mx w g 8)))] → va_S A s.heap H locs → lv_has ls 6 [(0, .ref eq), (1, .ref qi), (2, .ref qw), (3, .int (nI (4 * 8))), (4, .int 0), (5, .int (nI 8))] → W p l e R s m args below meth c H locs cells slots Q (F0 m 73 ls [])) → W p l e R s m args below meth c H locs cells slots Q (F0 m 4 ls []) := by
  intro n
  induction n with
  | zero =>
    intro i h1 h2
    exact absurd h2 (by omega)
  | succ n ih =>
    intro i hi hi2 H locs ls hP hD hS hl kk
    refine lv_iload hx hb dX2_byteBlockToInts_4 (lv_at hl 5 rfl) ?_
    refine lv_bipush (v := 8) hx hb dX2_byteBlockToInts_6 (by decide) ?_
    refine lv_icmp_ge (tgt := 73) hx hb dX2_byteBlockToInts_8 (by decide) (fun hc => ?_) (fun hc => ?_)
    · have hc2 := (nI_leI (a := 8) (b := i) (by decide) (by omega)).mp hc
      obtain rfl : i = 8 := by omega
      exact kk H locs ls hP hD hS hl
    · have hlt : i < 8 := Nat.lt_of_not_le fun q => hc ((nI_leI (a := 8) (b := i) (by decide) (by omega)).mpr q)
      refine lv_aload_n hx hb dX2_byteBlockToInts_11 rfl (lv_at hl 2 rfl) ?_
      refine lv_iload hx hb dX2_byteBlockToInts_12 (lv_at hl 5 rfl) ?_
      refine lv_aload_n hx hb dX2_byteBlockToInts_14 rfl (lv_at hl 1 rfl) ?_
      refine lv_iload_n hx hb dX2_byteBlockToInts_15 rfl (lv_at hl 3 rfl) ?_
      refine lv_iinc (v := nI (4 * i + 1)) (lv' := [(3, .int (nI (4 * i + 1))), (0, .ref eq), (1, .ref qi), (2, .ref qw), (4, .int 0), (5, .int (nI i))]) hx hb dX2_byteBlockToInts_16 hl (k := 3) rfl (nI_1 (4 * i)) (by decide) rfl (fun ls hl => ?_)
      refine sx_bald (v := (sa_bs w) (4 * i)) hx hb hK hP 0 0 rfl rfl (4 * i) rfl (by omega) (by decide) rfl dX2_byteBlockToInts_19 ?_
      refine lv_sipush (v := 255) hx hb dX2_byteBlockToInts_20 (by decide) ?_
      refine lv_iand hx hb dX2_byteBlockToInts_23 ?_
      refine sx_top (v := sa_ub (w i) 0) (by rw [sa_bs0]; rfl) ?_
      refine lv_bipush (v := 24) hx hb dX2_byteBlockToInts_24 (by decide) ?_
      refine lv_ishl hx hb dX2_byteBlockToInts_26 ?_
      refine lv_aload_n hx hb dX2_byteBlockToInts_27 rfl (lv_at hl 2 rfl) ?_
      refine lv_iload_n hx hb dX2_byteBlockToInts_28 rfl (lv_at hl 0 rfl) ?_
      refine lv_iinc (v := nI (4 * i + 2)) (lv' := [(3, .int (nI (4 * i + 2))), (0, .ref eq), (1, .ref qi), (2, .ref qw), (4, .int 0), (5, .int (nI i))]) hx hb dX2_byteBlockToInts_29 hl (k := 0) rfl (nI_1 (4 * i + 1)) (by decide) rfl (fun ls hl => ?_)
      refine sx_bald (v := (sa_bs w) (4 * i + 1)) hx hb hK hP 0 0 rfl rfl (4 * i + 1) rfl (by omega) (by decide) rfl dX2_byteBlockToInts_32 ?_
      refine lv_sipush (v := 255) hx hb dX2_byteBlockToInts_33 (by decide) ?_
      refine lv_iand hx hb dX2_byteBlockToInts_36 ?_
      refine sx_top (v := sa_ub (w i) 1) (by rw [sa_bs1]; rfl) ?_
      refine lv_bipush (v := 16) hx hb dX2_byteBlockToInts_37 (by decide) ?_
      refine lv_ishl hx hb dX2_byteBlockToInts_39 ?_
      refine lv_ior hx hb dX2_byteBlockToInts_40 ?_
      refine lv_aload_n hx hb dX2_byteBlockToInts_41 rfl (lv_at hl 2 rfl) ?_
      refine lv_iload_n hx hb dX2_byteBlockToInts_42 rfl (lv_at hl 0 rfl) ?_
      refine lv_iinc (v := nI (4 * i + 3)) (lv' := [(3, .int (nI (4 * i + 3))), (0, .ref eq), (1, .ref qi), (2, .ref qw), (4, .int 0), (5, .int (nI i))]) hx hb dX2_byteBlockToInts_43 hl (k := 0) rfl (nI_1 (4 * i + 2)) (by decide) rfl (fun ls hl => ?_)
      refine sx_bald (v := (sa_bs w) (4 * i + 2)) hx hb hK hP 0 0 rfl rfl (4 * i + 2) rfl (by omega) (by decide) rfl dX2_byteBlockToInts_46 ?_
      refine lv_sipush (v := 255) hx hb dX2_byteBlockToInts_47 (by decide) ?_
      refine lv_iand hx hb dX2_byteBlockToInts_50 ?_
      refine sx_top (v := sa_ub (w i) 2) (by rw [sa_bs2]; rfl) ?_
      refine lv_bipush (v := 8) hx hb dX2_byteBlockToInts_51 (by decide) ?_
      refine lv_ishl hx hb dX2_byteBlockToInts_53 ?_
      refine lv_ior hx hb dX2_byteBlockToInts_54 ?_
      refine lv_aload_n hx hb dX2_byteBlockToInts_55 rfl (lv_at hl 2 rfl) ?_
      refine lv_iload_n hx hb dX2_byteBlockToInts_56 rfl (lv_at hl 0 rfl) ?_
      refine lv_iinc (v := nI (4 * i + 4)) (lv' := [(3, .int (nI (4 * i + 4))), (0, .ref eq), (1, .ref qi), (2, .ref qw), (4, .int 0), (5, .int (nI i))]) hx hb dX2_byteBlockToInts_57 hl (k := 0) rfl (nI_1 (4 * i + 3)) (by decide) rfl (fun ls hl => ?_)
      refine sx_bald (v := (sa_bs w) (4 * i + 3)) hx hb hK hP 0 0 rfl rfl (4 * i + 3) rfl (by omega) (by decide) rfl dX2_byteBlockToInts_60 ?_
      refine lv_sipush (v := 255) hx hb dX2_byteBlockToInts_61 (by decide) ?_
      refine lv_iand hx hb dX2_byteBlockToInts_64 ?_
      refine sx_top (v := sa_ub (w i) 3) (by rw [sa_bs3]; rfl) ?_
      refine lv_ior hx hb dX2_byteBlockToInts_65 ?_
      refine sx_top (v := w i) (sa_asm (w i)) ?_
      refine sx_iast (g := upd (sa_mx w g i) i (w i)) hx hb hK hP hD hS 1 1 rfl rfl i rfl (by omega) (by decide) (fun _ _ => rfl) dX2_byteBlockToInts_66 (fun H locs hP hD hS => ?_)
      have hP : va_P (dC, dI) vwCl [(qi, .inl (ci, 32, .inl (sa_bs w))), (qw, .inl (cw, 8, .inl (upd (sa_mx w g i) i (w i))))] H := hP
      have hD : va_D A [(qi, .inl (ci, 32, .inl (sa_bs w))), (qw, .inl (cw, 8, .inl (upd (sa_mx w g i) i (w i))))] := hD
      have hP := sx_ext hP 1 (sa_mx w g (i + 1)) rfl (fun j _ => congrFun (sa_mx_S w g i) j)
      have hD := hD.set (p := 1) (a := qw) (e := .inl (cw, 8, .inl (sa_mx w g (i + 1)))) rfl
      have hP : va_P (dC, dI) vwCl [(qi, .inl (ci, 32, .inl (sa_bs w))), (qw, .inl (cw, 8, .inl (sa_mx w g (i + 1))))] H := hP
      have hD : va_D A [(qi, .inl (ci, 32, .inl (sa_bs w))), (qw, .inl (cw, 8, .inl (sa_mx w g (i + 1))))] := hD
      refine lv_iinc (v := nI (i + 1)) (lv' := [(5, .int (nI (i + 1))), (3, .int (nI (4 * i + 4))), (0, .ref eq), (1, .ref qi), (2, .ref qw), (4, .int 0)]) hx hb dX2_byteBlockToInts_67 hl (k := 5) rfl (nI_1 i) (by decide) rfl (fun ls hl => ?_)
      refine lv_goto (tgt := 4) hx hb dX2_byteBlockToInts_70 (by decide) ?_
      have hl : lv_has ls 6 [(5, .int (nI (i + 1))), (3, .int (nI (4 * (i + 1)))), (0, .ref eq), (1, .ref qi), (2, .ref qw), (4, .int 0)] := by
        rw [show 4 * (i + 1) = 4 * i + 4 by omega]
        exact hl
      exact ih (i + 1) (by omega) (by omega) H locs ls (hP.sub [0, 1] rfl) (hD.sub [0, 1] (by decide) rfl) hS (lv_sub hl [2, 3, 4, 1, 5, 0] rfl) kk
set_option maxHeartbeats 4000000 in
set_option maxRecDepth 100000 in
/-- byteBlockToInts(bytes, block, 0, 0) -/
theorem mt_bbi (l : Launch) (dC : Nat → ClassId) (dI : Nat → Nat → Nat) (sz : Nat) (eq qi qw : Nat) (ci cw : ClassId) (w g : Nat → Int32) : Met l yX2_byteBlockToInts (ws_ yX2_byteBlockToInts cX2_byteBlockToInts 6 none) ({ frames := 0, cells := 0, slots := 0, locals := 0 }) (va_Pc [.ref eq, .ref qi, .ref qw, .int 0, .int 0] (sx_Pre (dC, dI) [(qi, .inl (ci, 32, .inl (sa_bs w))), (qw, .inl (cw, 8, .inl g))] [(ci, .byte), (cw, .int)] sz)) (va_Qv (fun _ : Unit => True) (fun _ t => sx_Post (dC, dI) (va_A [(qi, .inl (ci, 32, .inl (sa_bs w))), (qw, .inl (cw, 8, .inl g))] sz) [(qi, .inl (ci, 32, .inl (sa_bs w))), (qw, .inl (cw, 8, .inl (sa_mx w g 8)))] t) (va_A [(qi, .inl (ci, 32, .inl (sa_bs w))), (qw, .inl (cw, 8, .inl g))] sz)) 0 0 (va_A [(qi, .inl (ci, 32, .inl (sa_bs w))), (qw, .inl (cw, 8, .inl g))] sz) := by
  refine Met.ofW (cc := cX2_byteBlockToInts) (maxL := 6) (ret := none) (by decide) rfl ?_
  intro p e s m args below meth c s₁ B hml hv
  obtain ⟨rfl, hsz, hP, hK, hD0⟩ := hv
  have hx := B.exec
  have hb := B.bytes
  have hr := B.returns
  have hts := atoms_spec (ws := ws_ yX2_byteBlockToInts cX2_byteBlockToInts 6 none) B.pre
  have hts : ∀ w ∈ lw_all, w.before _ s = true := fun w h => hts w (List.mem_cons_of_mem _ h)
  have hown : s.vm.findClass RX2 = some m.cls := findClass_of_methodNamed B.named
  have hlocks := B.notSynchronized
  subst hsz
  have hD := hD0.self (sz := s.heap.size)
  generalize hAe : va_A [(qi, .inl (ci, 32, .inl (sa_bs w))), (qw, .inl (cw, 8, .inl g))] s.heap.size = A at hD ⊢
  have hA : ∀ q : Nat, s.heap.size ≤ q → A q := fun q h => by rw [← hAe]; exact Or.inr h
  have hS : va_S A s.heap s.heap [] := va_S.rf
  have hP : va_P (dC, dI) vwCl [(qi, .inl (ci, 32, .inl (sa_bs w))), (qw, .inl (cw, 8, .inl g))] s.heap := hP
  have hl := lv_entry ([.ref eq, .ref qi, .ref qw, .int 0, .int 0]) (n := 6) (Nat.le_of_ble_eq_true rfl)
  rw [lg_entry_eq]
  generalize (lg_sl ([.ref eq, .ref qi, .ref qw, .int 0, .int 0]) ++ List.replicate (6 - (lg_sl ([.ref eq, .ref qi, .ref qw, .int 0, .int 0])).length) Slot.unset).toArray = ls at hl ⊢
  have hl : lv_has ls 6 [(0, .ref eq), (1, .ref qi), (2, .ref qw), (3, .int 0), (4, .int 0)] := hl
  refine lv_iload hx hb dX2_byteBlockToInts_0 (lv_at hl 4 rfl) ?_
  refine lv_istore (lv' := [(5, .int 0), (0, .ref eq), (1, .ref qi), (2, .ref qw), (3, .int 0), (4, .int 0)]) hx hb dX2_byteBlockToInts_2 hl (by decide) rfl (fun ls hl => ?_)
  refine lp_bbi eq qi qw ci cw w g hx hb hml hown hts hA hK 9 0 (by omega) (by omega) _ _ _ (sx_ext hP 1 (sa_mx w g 0) rfl (fun j _ => by rw [sa_mx_0])) (hD.set (p := 1) rfl) hS (lv_sub hl [1, 2, 3, 4, 5, 0] rfl) (fun H locs ls hP hD hS hl => ?_)
  have hP : va_P (dC, dI) vwCl [(qi, .inl (ci, 32, .inl (sa_bs w))), (qw, .inl (cw, 8, .inl (sa_mx w g 8)))] H := hP
  have hD : va_D A [(qi, .inl (ci, 32, .inl (sa_bs w))), (qw, .inl (cw, 8, .inl (sa_mx w g 8)))] := hD
  have hP9 := hP.sub (ws' := [(qi, .inl (ci, 32, .inl (sa_bs w))), (qw, .inl (cw, 8, .inl (sa_mx w g 8)))]) [0, 1] rfl
  have hD9 := hD.sub (ws' := [(qi, .inl (ci, 32, .inl (sa_bs w))), (qw, .inl (cw, 8, .inl (sa_mx w g 8)))]) [0, 1] (by decide) rfl
  exact W.vret hx hb hr (fun t ht hW => ⟨⟨(), rfl, trivial, by rw [ht]; exact hP9, hD9⟩, hS.F ht⟩) hS.2.2 dX2_byteBlockToInts_73
set_option maxHeartbeats 4000000 in
set_option maxRecDepth 100000 in
/-- bytes2ints(bytes, block, 0, 0): the loop -/
theorem lp_b2i {p : Program} {l : Launch} {e : Env} {R : Room} {s : State} {m : MethodId} {args : Array Value} {below : List Frame} {meth : Method} {c : Code} {Q : State → Prop} {A : Nat → Prop} {cells slots : Nat} {dC : Nat → ClassId} {dI : Nat → Nat → Nat} (eq qi qw : Nat) (ci cw : ClassId) (w g : Nat → Int32) (hx : p.tables.exec = Jvm.exec) (hb : c.code = cX2_bytes2ints) (hml : c.maxLocals = 6) (hown : s.vm.findClass RX2 = some m.cls) (hts : ∀ w ∈ lw_all, w.before args s = true) (hA : ∀ q : Nat, s.heap.size ≤ q → A q) (hK : va_K (dC, dI) vwCl [(ci, .byte), (cw, .int)] s) :
    ∀ (n i : Nat), i ≤ 16 → 16 < i + n → ∀ (H : Heap) (locs : List Loc) (ls : Array Slot), va_P (dC, dI) vwCl [(qi, .inl (ci, 64, .inl (sa_bs w))), (qw, .inl (cw, 64, .inl (sa_mx w g i)))] H → va_D A [(qi, .inl (ci, 64, .inl (sa_bs w))), (qw, .inl (cw, 64, .inl (sa_mx w g i)))] → va_S A s.heap H locs → lv_has ls 6 [(0, .ref eq), (1, .ref qi), (2, .ref qw), (3, .int (nI (4 * i))), (4, .int 0), (5, .int (nI i))] → (∀ (H : Heap) (locs : List Loc) (ls : Array Slot), va_P (dC, dI) vwCl [(qi, .inl (ci, 64, .inl (sa_bs w))), (qw, .inl (cw, 64, .inl (sa_mx w g 16)))] H → va_D A [(qi, .inl (ci, 64, .inl (sa_bs w))), (qw, .inl (cw, 64, .inl (sa_mx w g 16)))] → va_S A s.heap H locs → lv_has ls 6 [(0, .ref eq), (1, .ref qi), (2, .ref qw), (3, .int (nI (4 * 16))), (4, .int 0), (5, .int (nI 16))] → W p l e R s m args below meth c H locs cells slots Q (F0 m 75 ls [])) → W p l e R s m args below meth c H locs cells slots Q (F0 m 4 ls []) := by
  intro n
  induction n with
  | zero =>
    intro i h1 h2
    exact absurd h2 (by omega)
  | succ n ih =>
    intro i hi hi2 H locs ls hP hD hS hl kk
    refine lv_iload hx hb dX2_bytes2ints_4 (lv_at hl 5 rfl) ?_
    refine lv_aload_n hx hb dX2_bytes2ints_6 rfl (lv_at hl 1 rfl) ?_
    refine va_alen (v := 64) hx hb hK hP 0 0 rfl rfl rfl dX2_bytes2ints_7 ?_
    refine lv_iconst (v := 4) hx hb dX2_bytes2ints_8 (by decide) ?_
    refine lv_idiv hx hb dX2_bytes2ints_9 (by decide) ?_
    refine sx_top (v := 16) (by decide) ?_
    refine lv_icmp_ge (tgt := 75) hx hb dX2_bytes2ints_10 (by decide) (fun hc => ?_) (fun hc => ?_)
    · have hc2 := (nI_leI (a := 16) (b := i) (by decide) (by omega)).mp hc
      obtain rfl : i = 16 := by omega
      exact kk H locs ls hP hD hS hl
    · have hlt : i < 16 := Nat.lt_of_not_le fun q => hc ((nI_leI (a := 16) (b := i) (by decide) (by omega)).mpr q)
      refine lv_aload_n hx hb dX2_bytes2ints_13 rfl (lv_at hl 2 rfl) ?_
      refine lv_iload hx hb dX2_bytes2ints_14 (lv_at hl 5 rfl) ?_
      refine lv_aload_n hx hb dX2_bytes2ints_16 rfl (lv_at hl 1 rfl) ?_
      refine lv_iload_n hx hb dX2_bytes2ints_17 rfl (lv_at hl 3 rfl) ?_
      refine lv_iinc (v := nI (4 * i + 1)) (lv' := [(3, .int (nI (4 * i + 1))), (0, .ref eq), (1, .ref qi), (2, .ref qw), (4, .int 0), (5, .int (nI i))]) hx hb dX2_bytes2ints_18 hl (k := 3) rfl (nI_1 (4 * i)) (by decide) rfl (fun ls hl => ?_)
      refine sx_bald (v := (sa_bs w) (4 * i)) hx hb hK hP 0 0 rfl rfl (4 * i) rfl (by omega) (by decide) rfl dX2_bytes2ints_21 ?_
      refine lv_sipush (v := 255) hx hb dX2_bytes2ints_22 (by decide) ?_
      refine lv_iand hx hb dX2_bytes2ints_25 ?_
      refine sx_top (v := sa_ub (w i) 0) (by rw [sa_bs0]; rfl) ?_
      refine lv_bipush (v := 24) hx hb dX2_bytes2ints_26 (by decide) ?_
      refine lv_ishl hx hb dX2_bytes2ints_28 ?_
      refine lv_aload_n hx hb dX2_bytes2ints_29 rfl (lv_at hl 2 rfl) ?_
      refine lv_iload_n hx hb dX2_bytes2ints_30 rfl (lv_at hl 0 rfl) ?_
      refine lv_iinc (v := nI (4 * i + 2)) (lv' := [(3, .int (nI (4 * i + 2))), (0, .ref eq), (1, .ref qi), (2, .ref qw), (4, .int 0), (5, .int (nI i))]) hx hb dX2_bytes2ints_31 hl (k := 0) rfl (nI_1 (4 * i + 1)) (by decide) rfl (fun ls hl => ?_)
      refine sx_bald (v := (sa_bs w) (4 * i + 1)) hx hb hK hP 0 0 rfl rfl (4 * i + 1) rfl (by omega) (by decide) rfl dX2_bytes2ints_34 ?_
      refine lv_sipush (v := 255) hx hb dX2_bytes2ints_35 (by decide) ?_
      refine lv_iand hx hb dX2_bytes2ints_38 ?_
      refine sx_top (v := sa_ub (w i) 1) (by rw [sa_bs1]; rfl) ?_
      refine lv_bipush (v := 16) hx hb dX2_bytes2ints_39 (by decide) ?_
      refine lv_ishl hx hb dX2_bytes2ints_41 ?_
      refine lv_ior hx hb dX2_bytes2ints_42 ?_
      refine lv_aload_n hx hb dX2_bytes2ints_43 rfl (lv_at hl 2 rfl) ?_
      refine lv_iload_n hx hb dX2_bytes2ints_44 rfl (lv_at hl 0 rfl) ?_
      refine lv_iinc (v := nI (4 * i + 3)) (lv' := [(3, .int (nI (4 * i + 3))), (0, .ref eq), (1, .ref qi), (2, .ref qw), (4, .int 0), (5, .int (nI i))]) hx hb dX2_bytes2ints_45 hl (k := 0) rfl (nI_1 (4 * i + 2)) (by decide) rfl (fun ls hl => ?_)
      refine sx_bald (v := (sa_bs w) (4 * i + 2)) hx hb hK hP 0 0 rfl rfl (4 * i + 2) rfl (by omega) (by decide) rfl dX2_bytes2ints_48 ?_
      refine lv_sipush (v := 255) hx hb dX2_bytes2ints_49 (by decide) ?_
      refine lv_iand hx hb dX2_bytes2ints_52 ?_
      refine sx_top (v := sa_ub (w i) 2) (by rw [sa_bs2]; rfl) ?_
      refine lv_bipush (v := 8) hx hb dX2_bytes2ints_53 (by decide) ?_
      refine lv_ishl hx hb dX2_bytes2ints_55 ?_
      refine lv_ior hx hb dX2_bytes2ints_56 ?_
      refine lv_aload_n hx hb dX2_bytes2ints_57 rfl (lv_at hl 2 rfl) ?_
      refine lv_iload_n hx hb dX2_bytes2ints_58 rfl (lv_at hl 0 rfl) ?_
      refine lv_iinc (v := nI (4 * i + 4)) (lv' := [(3, .int (nI (4 * i + 4))), (0, .ref eq), (1, .ref qi), (2, .ref qw), (4, .int 0), (5, .int (nI i))]) hx hb dX2_bytes2ints_59 hl (k := 0) rfl (nI_1 (4 * i + 3)) (by decide) rfl (fun ls hl => ?_)
      refine sx_bald (v := (sa_bs w) (4 * i + 3)) hx hb hK hP 0 0 rfl rfl (4 * i + 3) rfl (by omega) (by decide) rfl dX2_bytes2ints_62 ?_
      refine lv_sipush (v := 255) hx hb dX2_bytes2ints_63 (by decide) ?_
      refine lv_iand hx hb dX2_bytes2ints_66 ?_
      refine sx_top (v := sa_ub (w i) 3) (by rw [sa_bs3]; rfl) ?_
      refine lv_ior hx hb dX2_bytes2ints_67 ?_
      refine sx_top (v := w i) (sa_asm (w i)) ?_
      refine sx_iast (g := upd (sa_mx w g i) i (w i)) hx hb hK hP hD hS 1 1 rfl rfl i rfl (by omega) (by decide) (fun _ _ => rfl) dX2_bytes2ints_68 (fun H locs hP hD hS => ?_)
      have hP : va_P (dC, dI) vwCl [(qi, .inl (ci, 64, .inl (sa_bs w))), (qw, .inl (cw, 64, .inl (upd (sa_mx w g i) i (w i))))] H := hP
      have hD : va_D A [(qi, .inl (ci, 64, .inl (sa_bs w))), (qw, .inl (cw, 64, .inl (upd (sa_mx w g i) i (w i))))] := hD
      have hP := sx_ext hP 1 (sa_mx w g (i + 1)) rfl (fun j _ => congrFun (sa_mx_S w g i) j)
      have hD := hD.set (p := 1) (a := qw) (e := .inl (cw, 64, .inl (sa_mx w g (i + 1)))) rfl
      have hP : va_P (dC, dI) vwCl [(qi, .inl (ci, 64, .inl (sa_bs w))), (qw, .inl (cw, 64, .inl (sa_mx w g (i + 1))))] H := hP
      have hD : va_D A [(qi, .inl (ci, 64, .inl (sa_bs w))), (qw, .inl (cw, 64, .inl (sa_mx w g (i + 1))))] := hD
      refine lv_iinc (v := nI (i + 1)) (lv' := [(5, .int (nI (i + 1))), (3, .int (nI (4 * i + 4))), (0, .ref eq), (1, .ref qi), (2, .ref qw), (4, .int 0)]) hx hb dX2_bytes2ints_69 hl (k := 5) rfl (nI_1 i) (by decide) rfl (fun ls hl => ?_)
      refine lv_goto (tgt := 4) hx hb dX2_bytes2ints_72 (by decide) ?_
      have hl : lv_has ls 6 [(5, .int (nI (i + 1))), (3, .int (nI (4 * (i + 1)))), (0, .ref eq), (1, .ref qi), (2, .ref qw), (4, .int 0)] := by
        rw [show 4 * (i + 1) = 4 * i + 4 by omega]
        exact hl
      exact ih (i + 1) (by omega) (by omega) H locs ls (hP.sub [0, 1] rfl) (hD.sub [0, 1] (by decide) rfl) hS (lv_sub hl [2, 3, 4, 1, 5, 0] rfl) kk
set_option maxHeartbeats 4000000 in
set_option maxRecDepth 100000 in
/-- bytes2ints(bytes, block, 0, 0) -/
theorem mt_b2i (l : Launch) (dC : Nat → ClassId) (dI : Nat → Nat → Nat) (sz : Nat) (eq qi qw : Nat) (ci cw : ClassId) (w g : Nat → Int32) : Met l yX2_bytes2ints (ws_ yX2_bytes2ints cX2_bytes2ints 6 none) ({ frames := 0, cells := 0, slots := 0, locals := 0 }) (va_Pc [.ref eq, .ref qi, .ref qw, .int 0, .int 0] (sx_Pre (dC, dI) [(qi, .inl (ci, 64, .inl (sa_bs w))), (qw, .inl (cw, 64, .inl g))] [(ci, .byte), (cw, .int)] sz)) (va_Qv (fun _ : Unit => True) (fun _ t => sx_Post (dC, dI) (va_A [(qi, .inl (ci, 64, .inl (sa_bs w))), (qw, .inl (cw, 64, .inl g))] sz) [(qi, .inl (ci, 64, .inl (sa_bs w))), (qw, .inl (cw, 64, .inl (sa_mx w g 16)))] t) (va_A [(qi, .inl (ci, 64, .inl (sa_bs w))), (qw, .inl (cw, 64, .inl g))] sz)) 0 0 (va_A [(qi, .inl (ci, 64, .inl (sa_bs w))), (qw, .inl (cw, 64, .inl g))] sz) := by
  refine Met.ofW (cc := cX2_bytes2ints) (maxL := 6) (ret := none) (by decide) rfl ?_
  intro p e s m args below meth c s₁ B hml hv
  obtain ⟨rfl, hsz, hP, hK, hD0⟩ := hv
  have hx := B.exec
  have hb := B.bytes
  have hr := B.returns
  have hts := atoms_spec (ws := ws_ yX2_bytes2ints cX2_bytes2ints 6 none) B.pre
  have hts : ∀ w ∈ lw_all, w.before _ s = true := fun w h => hts w (List.mem_cons_of_mem _ h)
  have hown : s.vm.findClass RX2 = some m.cls := findClass_of_methodNamed B.named
  have hlocks := B.notSynchronized
  subst hsz
  have hD := hD0.self (sz := s.heap.size)
  generalize hAe : va_A [(qi, .inl (ci, 64, .inl (sa_bs w))), (qw, .inl (cw, 64, .inl g))] s.heap.size = A at hD ⊢
  have hA : ∀ q : Nat, s.heap.size ≤ q → A q := fun q h => by rw [← hAe]; exact Or.inr h
  have hS : va_S A s.heap s.heap [] := va_S.rf
  have hP : va_P (dC, dI) vwCl [(qi, .inl (ci, 64, .inl (sa_bs w))), (qw, .inl (cw, 64, .inl g))] s.heap := hP
  have hl := lv_entry ([.ref eq, .ref qi, .ref qw, .int 0, .int 0]) (n := 6) (Nat.le_of_ble_eq_true rfl)
  rw [lg_entry_eq]
  generalize (lg_sl ([.ref eq, .ref qi, .ref qw, .int 0, .int 0]) ++ List.replicate (6 - (lg_sl ([.ref eq, .ref qi, .ref qw, .int 0, .int 0])).length) Slot.unset).toArray = ls at hl ⊢
  have hl : lv_has ls 6 [(0, .ref eq), (1, .ref qi), (2, .ref qw), (3, .int 0), (4, .int 0)] := hl
  refine lv_iload hx hb dX2_bytes2ints_0 (lv_at hl 4 rfl) ?_
  refine lv_istore (lv' := [(5, .int 0), (0, .ref eq), (1, .ref qi), (2, .ref qw), (3, .int 0), (4, .int 0)]) hx hb dX2_bytes2ints_2 hl (by decide) rfl (fun ls hl => ?_)
  refine lp_b2i eq qi qw ci cw w g hx hb hml hown hts hA hK 17 0 (by omega) (by omega) _ _ _ (sx_ext hP 1 (sa_mx w g 0) rfl (fun j _ => by rw [sa_mx_0])) (hD.set (p := 1) rfl) hS (lv_sub hl [1, 2, 3, 4, 5, 0] rfl) (fun H locs ls hP hD hS hl => ?_)
  have hP : va_P (dC, dI) vwCl [(qi, .inl (ci, 64, .inl (sa_bs w))), (qw, .inl (cw, 64, .inl (sa_mx w g 16)))] H := hP
  have hD : va_D A [(qi, .inl (ci, 64, .inl (sa_bs w))), (qw, .inl (cw, 64, .inl (sa_mx w g 16)))] := hD
  have hP9 := hP.sub (ws' := [(qi, .inl (ci, 64, .inl (sa_bs w))), (qw, .inl (cw, 64, .inl (sa_mx w g 16)))]) [0, 1] rfl
  have hD9 := hD.sub (ws' := [(qi, .inl (ci, 64, .inl (sa_bs w))), (qw, .inl (cw, 64, .inl (sa_mx w g 16)))]) [0, 1] (by decide) rfl
  exact W.vret hx hb hr (fun t ht hW => ⟨⟨(), rfl, trivial, by rw [ht]; exact hP9, hD9⟩, hS.F ht⟩) hS.2.2 dX2_bytes2ints_75
set_option maxHeartbeats 4000000 in
set_option maxRecDepth 100000 in
/-- ints2bytes: the loop -/
theorem lp_i2b {p : Program} {l : Launch} {e : Env} {R : Room} {s : State} {m : MethodId} {args : Array Value} {below : List Frame} {meth : Method} {c : Code} {Q : State → Prop} {A : Nat → Prop} {cells slots : Nat} {dC : Nat → ClassId} {dI : Nat → Nat → Nat} (eq qw qo : Nat) (cw co : ClassId) (w f : Nat → Int32) (hx : p.tables.exec = Jvm.exec) (hb : c.code = cX2_ints2bytes) (hml : c.maxLocals = 5) (hown : s.vm.findClass RX2 = some m.cls) (hts : ∀ w ∈ lw_all, w.before args s = true) (hA : ∀ q : Nat, s.heap.size ≤ q → A q) (hK : va_K (dC, dI) vwCl [(cw, .int), (co, .byte)] s) :
    ∀ (n i : Nat), i ≤ 8 → 8 < i + n → ∀ (H : Heap) (locs : List Loc) (ls : Array Slot), va_P (dC, dI) vwCl [(qw, .inl (cw, 8, .inl w)), (qo, .inl (co, 32, .inl (sa_mx (sa_bs w) f (4 * i))))] H → va_D A [(qw, .inl (cw, 8, .inl w)), (qo, .inl (co, 32, .inl (sa_mx (sa_bs w) f (4 * i))))] → va_S A s.heap H locs → lv_has ls 5 [(0, .ref eq), (1, .ref qw), (2, .ref qo), (3, .int (nI (4 * i))), (4, .int (nI i))] → (∀ (H : Heap) (locs : List Loc) (ls : Array Slot), va_P (dC, dI) vwCl [(qw, .inl (cw, 8, .inl w)), (qo, .inl (co, 32, .inl (sa_mx (sa_bs w) f (4 * 8))))] H → va_D A [(qw, .inl (cw, 8, .inl w)), (qo, .inl (co, 32, .inl (sa_mx (sa_bs w) f (4 * 8))))] → va_S A s.heap H locs → lv_has ls 5 [(0, .ref eq), (1, .ref qw), (2, .ref qo), (3, .int (nI (4 * 8))), (4, .int (nI 8))] → W p l e R s m args below meth c H locs cells slots Q (F0 m 69 ls [])) → W p l e R s m args below meth c H locs cells slots Q (F0 m 3 ls []) := by
  intro n
  induction n with
  | zero =>
    intro i h1 h2
    exact absurd h2 (by omega)
  | succ n ih =>
    intro i hi hi2 H locs ls hP hD hS hl kk
    refine lv_iload hx hb dX2_ints2bytes_3 (lv_at hl 4 rfl) ?_
    refine lv_aload_n hx hb dX2_ints2bytes_5 rfl (lv_at hl 1 rfl) ?_
    refine va_alen (v := 8) hx hb hK hP 0 0 rfl rfl rfl dX2_ints2bytes_6 ?_
    refine lv_icmp_ge (tgt := 69) hx hb dX2_ints2bytes_7 (by decide) (fun hc => ?_) (fun hc => ?_)
    · have hc2 := (nI_leI (a := 8) (b := i) (by decide) (by omega)).mp hc
      obtain rfl : i = 8 := by omega
      exact kk H locs ls hP hD hS hl
    · have hlt : i < 8 := Nat.lt_of_not_le fun q => hc ((nI_leI (a := 8) (b := i) (by decide) (by omega)).mpr q)
      refine lv_aload_n hx hb dX2_ints2bytes_10 rfl (lv_at hl 2 rfl) ?_
      refine lv_iload_n hx hb dX2_ints2bytes_11 rfl (lv_at hl 3 rfl) ?_
      refine lv_iinc (v := nI (4 * i + 1)) (lv' := [(3, .int (nI (4 * i + 1))), (0, .ref eq), (1, .ref qw), (2, .ref qo), (4, .int (nI i))]) hx hb dX2_ints2bytes_12 hl (k := 3) rfl (nI_1 (4 * i)) (by decide) rfl (fun ls hl => ?_)
      refine lv_aload_n hx hb dX2_ints2bytes_15 rfl (lv_at hl 2 rfl) ?_
      refine lv_iload hx hb dX2_ints2bytes_16 (lv_at hl 4 rfl) ?_
      refine sx_iald (v := w i) hx hb hK hP 0 0 rfl rfl i rfl (by omega) (by decide) rfl dX2_ints2bytes_18 ?_
      refine lv_bipush (v := 24) hx hb dX2_ints2bytes_19 (by decide) ?_
      refine lv_iushr (v := sa_usr (w i) 24) hx hb dX2_ints2bytes_21 rfl ?_
      refine lv_i2b (v := (sa_usr (w i) 24).toInt8.toInt32) hx hb dX2_ints2bytes_22 rfl ?_
      refine sx_top (v := sa_by (w i) 0) (sa_u24 (w i)) ?_
      refine sx_bast (g := upd (sa_mx (sa_bs w) f (4 * i)) (4 * i) (sa_by (w i) 0)) hx hb hK hP hD hS 1 1 rfl rfl (4 * i) rfl (by omega) (by decide) (sa_by_nar _ _) (fun _ _ => rfl) dX2_ints2bytes_23 (fun H locs hP hD hS => ?_)
      have hP : va_P (dC, dI) vwCl [(qw, .inl (cw, 8, .inl w)), (qo, .inl (co, 32, .inl (upd (sa_mx (sa_bs w) f (4 * i)) (4 * i) (sa_by (w i) 0))))] H := hP
      have hD : va_D A [(qw, .inl (cw, 8, .inl w)), (qo, .inl (co, 32, .inl (upd (sa_mx (sa_bs w) f (4 * i)) (4 * i) (sa_by (w i) 0))))] := hD
      refine lv_aload_n hx hb dX2_ints2bytes_24 rfl (lv_at hl 3 rfl) ?_
      refine lv_iload_n hx hb dX2_ints2bytes_25 rfl (lv_at hl 0 rfl) ?_
      refine lv_iinc (v := nI (4 * i + 2)) (lv' := [(3, .int (nI (4 * i + 2))), (0, .ref eq), (1, .ref qw), (2, .ref qo), (4, .int (nI i))]) hx hb dX2_ints2bytes_26 hl (k := 0) rfl (nI_1 (4 * i + 1)) (by decide) rfl (fun ls hl => ?_)
      refine lv_aload_n hx hb dX2_ints2bytes_29 rfl (lv_at hl 2 rfl) ?_
      refine lv_iload hx hb dX2_ints2bytes_30 (lv_at hl 4 rfl) ?_
      refine sx_iald (v := w i) hx hb hK hP 0 0 rfl rfl i rfl (by omega) (by decide) rfl dX2_ints2bytes_32 ?_
      refine lv_bipush (v := 16) hx hb dX2_ints2bytes_33 (by decide) ?_
      refine lv_iushr (v := sa_usr (w i) 16) hx hb dX2_ints2bytes_35 rfl ?_
      refine lv_i2b (v := (sa_usr (w i) 16).toInt8.toInt32) hx hb dX2_ints2bytes_36 rfl ?_
      refine sx_top (v := sa_by (w i) 1) (sa_u16 (w i)) ?_
      refine sx_bast (g := upd (upd (sa_mx (sa_bs w) f (4 * i)) (4 * i) (sa_by (w i) 0)) (4 * i + 1) (sa_by (w i) 1)) hx hb hK hP hD hS 1 1 rfl rfl (4 * i + 1) rfl (by omega) (by decide) (sa_by_nar _ _) (fun _ _ => rfl) dX2_ints2bytes_37 (fun H locs hP hD hS => ?_)
      have hP : va_P (dC, dI) vwCl [(qw, .inl (cw, 8, .inl w)), (qo, .inl (co, 32, .inl (upd (upd (sa_mx (sa_bs w) f (4 * i)) (4 * i) (sa_by (w i) 0)) (4 * i + 1) (sa_by (w i) 1))))] H := hP
      have hD : va_D A [(qw, .inl (cw, 8, .inl w)), (qo, .inl (co, 32, .inl (upd (upd (sa_mx (sa_bs w) f (4 * i)) (4 * i) (sa_by (w i) 0)) (4 * i + 1) (sa_by (w i) 1))))] := hD
      refine lv_aload_n hx hb dX2_ints2bytes_38 rfl (lv_at hl 3 rfl) ?_
      refine lv_iload_n hx hb dX2_ints2bytes_39 rfl (lv_at hl 0 rfl) ?_
      refine lv_iinc (v := nI (4 * i + 3)) (lv' := [(3, .int (nI (4 * i + 3))), (0, .ref eq), (1, .ref qw), (2, .ref qo), (4, .int (nI i))]) hx hb dX2_ints2bytes_40 hl (k := 0) rfl (nI_1 (4 * i + 2)) (by decide) rfl (fun ls hl => ?_)
      refine lv_aload_n hx hb dX2_ints2bytes_43 rfl (lv_at hl 2 rfl) ?_
      refine lv_iload hx hb dX2_ints2bytes_44 (lv_at hl 4 rfl) ?_
      refine sx_iald (v := w i) hx hb hK hP 0 0 rfl rfl i rfl (by omega) (by decide) rfl dX2_ints2bytes_46 ?_
      refine lv_bipush (v := 8) hx hb dX2_ints2bytes_47 (by decide) ?_
      refine lv_iushr (v := sa_usr (w i) 8) hx hb dX2_ints2bytes_49 rfl ?_
      refine lv_i2b (v := (sa_usr (w i) 8).toInt8.toInt32) hx hb dX2_ints2bytes_50 rfl ?_
      refine sx_top (v := sa_by (w i) 2) (sa_u8 (w i)) ?_
      refine sx_bast (g := upd (upd (upd (sa_mx (sa_bs w) f (4 * i)) (4 * i) (sa_by (w i) 0)) (4 * i + 1) (sa_by (w i) 1)) (4 * i + 2) (sa_by (w i) 2)) hx hb hK hP hD hS 1 1 rfl rfl (4 * i + 2) rfl (by omega) (by decide) (sa_by_nar _ _) (fun _ _ => rfl) dX2_ints2bytes_51 (fun H locs hP hD hS => ?_)
      have hP : va_P (dC, dI) vwCl [(qw, .inl (cw, 8, .inl w)), (qo, .inl (co, 32, .inl (upd (upd (upd (sa_mx (sa_bs w) f (4 * i)) (4 * i) (sa_by (w i) 0)) (4 * i + 1) (sa_by (w i) 1)) (4 * i + 2) (sa_by (w i) 2))))] H := hP
      have hD : va_D A [(qw, .inl (cw, 8, .inl w)), (qo, .inl (co, 32, .inl (upd (upd (upd (sa_mx (sa_bs w) f (4 * i)) (4 * i) (sa_by (w i) 0)) (4 * i + 1) (sa_by (w i) 1)) (4 * i + 2) (sa_by (w i) 2))))] := hD
      refine lv_aload_n hx hb dX2_ints2bytes_52 rfl (lv_at hl 3 rfl) ?_
      refine lv_iload_n hx hb dX2_ints2bytes_53 rfl (lv_at hl 0 rfl) ?_
      refine lv_iinc (v := nI (4 * i + 4)) (lv' := [(3, .int (nI (4 * i + 4))), (0, .ref eq), (1, .ref qw), (2, .ref qo), (4, .int (nI i))]) hx hb dX2_ints2bytes_54 hl (k := 0) rfl (nI_1 (4 * i + 3)) (by decide) rfl (fun ls hl => ?_)
      refine lv_aload_n hx hb dX2_ints2bytes_57 rfl (lv_at hl 2 rfl) ?_
      refine lv_iload hx hb dX2_ints2bytes_58 (lv_at hl 4 rfl) ?_
      refine sx_iald (v := w i) hx hb hK hP 0 0 rfl rfl i rfl (by omega) (by decide) rfl dX2_ints2bytes_60 ?_
      refine lv_i2b (v := (w i).toInt8.toInt32) hx hb dX2_ints2bytes_61 rfl ?_
      refine sx_top (v := sa_by (w i) 3) (rfl) ?_
      refine sx_bast (g := upd (upd (upd (upd (sa_mx (sa_bs w) f (4 * i)) (4 * i) (sa_by (w i) 0)) (4 * i + 1) (sa_by (w i) 1)) (4 * i + 2) (sa_by (w i) 2)) (4 * i + 3) (sa_by (w i) 3)) hx hb hK hP hD hS 1 1 rfl rfl (4 * i + 3) rfl (by omega) (by decide) (sa_by_nar _ _) (fun _ _ => rfl) dX2_ints2bytes_62 (fun H locs hP hD hS => ?_)
      have hP : va_P (dC, dI) vwCl [(qw, .inl (cw, 8, .inl w)), (qo, .inl (co, 32, .inl (upd (upd (upd (upd (sa_mx (sa_bs w) f (4 * i)) (4 * i) (sa_by (w i) 0)) (4 * i + 1) (sa_by (w i) 1)) (4 * i + 2) (sa_by (w i) 2)) (4 * i + 3) (sa_by (w i) 3))))] H := hP
      have hD : va_D A [(qw, .inl (cw, 8, .inl w)), (qo, .inl (co, 32, .inl (upd (upd (upd (upd (sa_mx (sa_bs w) f (4 * i)) (4 * i) (sa_by (w i) 0)) (4 * i + 1) (sa_by (w i) 1)) (4 * i + 2) (sa_by (w i) 2)) (4 * i + 3) (sa_by (w i) 3))))] := hD
      have hP := sx_ext hP 1 (sa_mx (sa_bs w) f (4 * (i + 1))) rfl (fun j _ => congrFun (sa_mx_4 w f i) j)
      have hD := hD.set (p := 1) (a := qo) (e := .inl (co, 32, .inl (sa_mx (sa_bs w) f (4 * (i + 1))))) rfl
      have hP : va_P (dC, dI) vwCl [(qw, .inl (cw, 8, .inl w)), (qo, .inl (co, 32, .inl (sa_mx (sa_bs w) f (4 * (i + 1)))))] H := hP
      have hD : va_D A [(qw, .inl (cw, 8, .inl w)), (qo, .inl (co, 32, .inl (sa_mx (sa_bs w) f (4 * (i + 1)))))] := hD
      refine lv_iinc (v := nI (i + 1)) (lv' := [(4, .int (nI (i + 1))), (3, .int (nI (4 * i + 4))), (0, .ref eq), (1, .ref qw), (2, .ref qo)]) hx hb dX2_ints2bytes_63 hl (k := 4) rfl (nI_1 i) (by decide) rfl (fun ls hl => ?_)
      refine lv_goto (tgt := 3) hx hb dX2_ints2bytes_66 (by decide) ?_
      have hl : lv_has ls 5 [(4, .int (nI (i + 1))), (3, .int (nI (4 * (i + 1)))), (0, .ref eq), (1, .ref qw), (2, .ref qo)] := by
        rw [show 4 * (i + 1) = 4 * i + 4 by omega]
        exact hl
      exact ih (i + 1) (by omega) (by omega) H locs ls (hP.sub [0, 1] rfl) (hD.sub [0, 1] (by decide) rfl) hS (lv_sub hl [2, 3, 4, 1, 0] rfl) kk
set_option maxHeartbeats 4000000 in
set_option maxRecDepth 100000 in
/-- ints2bytes(block, out, 0) -/
theorem mt_i2b (l : Launch) (dC : Nat → ClassId) (dI : Nat → Nat → Nat) (sz : Nat) (eq qw qo : Nat) (cw co : ClassId) (w f : Nat → Int32) : Met l yX2_ints2bytes (ws_ yX2_ints2bytes cX2_ints2bytes 5 none) ({ frames := 0, cells := 0, slots := 0, locals := 0 }) (va_Pc [.ref eq, .ref qw, .ref qo, .int 0] (sx_Pre (dC, dI) [(qw, .inl (cw, 8, .inl w)), (qo, .inl (co, 32, .inl f))] [(cw, .int), (co, .byte)] sz)) (va_Qv (fun _ : Unit => True) (fun _ t => sx_Post (dC, dI) (va_A [(qw, .inl (cw, 8, .inl w)), (qo, .inl (co, 32, .inl f))] sz) [(qw, .inl (cw, 8, .inl w)), (qo, .inl (co, 32, .inl (sa_bs w)))] t) (va_A [(qw, .inl (cw, 8, .inl w)), (qo, .inl (co, 32, .inl f))] sz)) 0 0 (va_A [(qw, .inl (cw, 8, .inl w)), (qo, .inl (co, 32, .inl f))] sz) := by
  refine Met.ofW (cc := cX2_ints2bytes) (maxL := 5) (ret := none) (by decide) rfl ?_
  intro p e s m args below meth c s₁ B hml hv
  obtain ⟨rfl, hsz, hP, hK, hD0⟩ := hv
  have hx := B.exec
  have hb := B.bytes
  have hr := B.returns
  have hts := atoms_spec (ws := ws_ yX2_ints2bytes cX2_ints2bytes 5 none) B.pre
  have hts : ∀ w ∈ lw_all, w.before _ s = true := fun w h => hts w (List.mem_cons_of_mem _ h)
  have hown : s.vm.findClass RX2 = some m.cls := findClass_of_methodNamed B.named
  have hlocks := B.notSynchronized
  subst hsz
  have hD := hD0.self (sz := s.heap.size)
  generalize hAe : va_A [(qw, .inl (cw, 8, .inl w)), (qo, .inl (co, 32, .inl f))] s.heap.size = A at hD ⊢
  have hA : ∀ q : Nat, s.heap.size ≤ q → A q := fun q h => by rw [← hAe]; exact Or.inr h
  have hS : va_S A s.heap s.heap [] := va_S.rf
  have hP : va_P (dC, dI) vwCl [(qw, .inl (cw, 8, .inl w)), (qo, .inl (co, 32, .inl f))] s.heap := hP
  have hl := lv_entry ([.ref eq, .ref qw, .ref qo, .int 0]) (n := 5) (Nat.le_of_ble_eq_true rfl)
  rw [lg_entry_eq]
  generalize (lg_sl ([.ref eq, .ref qw, .ref qo, .int 0]) ++ List.replicate (5 - (lg_sl ([.ref eq, .ref qw, .ref qo, .int 0])).length) Slot.unset).toArray = ls at hl ⊢
  have hl : lv_has ls 5 [(0, .ref eq), (1, .ref qw), (2, .ref qo), (3, .int 0)] := hl
  refine lv_iconst (v := 0) hx hb dX2_ints2bytes_0 (by decide) ?_
  refine lv_istore (lv' := [(4, .int 0), (0, .ref eq), (1, .ref qw), (2, .ref qo), (3, .int 0)]) hx hb dX2_ints2bytes_1 hl (by decide) rfl (fun ls hl => ?_)
  refine lp_i2b eq qw qo cw co w f hx hb hml hown hts hA hK 9 0 (by omega) (by omega) _ _ _ (sx_ext hP 1 (sa_mx (sa_bs w) f (4 * 0)) rfl (fun j _ => by rw [sa_mx_0])) (hD.set (p := 1) rfl) hS (lv_sub hl [1, 2, 3, 4, 0] rfl) (fun H locs ls hP hD hS hl => ?_)
  have hP := sx_ext hP 1 (sa_bs w) rfl (sa_mx_n (sa_bs w) f 32)
  have hD := hD.set (p := 1) (a := qo) (e := .inl (co, 32, .inl (sa_bs w))) rfl
  have hP : va_P (dC, dI) vwCl [(qw, .inl (cw, 8, .inl w)), (qo, .inl (co, 32, .inl (sa_bs w)))] H := hP
  have hD : va_D A [(qw, .inl (cw, 8, .inl w)), (qo, .inl (co, 32, .inl (sa_bs w)))] := hD
  have hP9 := hP.sub (ws' := [(qw, .inl (cw, 8, .inl w)), (qo, .inl (co, 32, .inl (sa_bs w)))]) [0, 1] rfl
  have hD9 := hD.sub (ws' := [(qw, .inl (cw, 8, .inl w)), (qo, .inl (co, 32, .inl (sa_bs w)))]) [0, 1] (by decide) rfl
  exact W.vret hx hb hr (fun t ht hW => ⟨⟨(), rfl, trivial, by rw [ht]; exact hP9, hD9⟩, hS.F ht⟩) hS.2.2 dX2_ints2bytes_69
end
section
/-! Shacal2Engine's setKey and init, by contract -/
set_option maxHeartbeats 4000000 in
set_option maxRecDepth 100000 in
/-- setKey: its loop -/
theorem lp_setKey {p : Program} {l : Launch} {e : Env} {R : Room} {s : State} {m : MethodId} {args : Array Value} {below : List Frame} {meth : Method} {c : Code} {Q : State → Prop} {A : Nat → Prop} {cells slots : Nat} {dC : Nat → ClassId} {dI : Nat → Nat → Nat} (eq qn qw : Nat) (cn cw : ClassId) (b : Int32) (f : Nat → Int32) (hx : p.tables.exec = Jvm.exec) (hb : c.code = cX2_setKey) (hml : c.maxLocals = 3) (hown : s.vm.findClass RX2 = some m.cls) (hts : ∀ w ∈ lw_all, w.before args s = true) (hA : ∀ q : Nat, s.heap.size ≤ q → A q) (hK : va_K (dC, dI) vwCl [(cn, .byte), (cw, .int)] s) :
    ∀ (n i : Nat), 16 ≤ i → i ≤ 64 → 64 < i + n → ∀ (H : Heap) (locs : List Loc) (ls : Array Slot), va_P (dC, dI) vwCl [(eq, .inr (1, [.int b, .ref qw])), (qn, .inl (cn, 64, .inl (sa_bs f))), (qw, .inl (cw, 64, .inl (sa_sch f i)))] H → va_D A [(eq, .inr (1, [.int b, .ref qw])), (qn, .inl (cn, 64, .inl (sa_bs f))), (qw, .inl (cw, 64, .inl (sa_sch f i)))] → va_S A s.heap H locs → lv_has ls 3 [(0, .ref eq), (2, .int (nI i))] → (∀ (H : Heap) (locs : List Loc) (ls : Array Slot), va_P (dC, dI) vwCl [(eq, .inr (1, [.int b, .ref qw])), (qn, .inl (cn, 64, .inl (sa_bs f))), (qw, .inl (cw, 64, .inl (sa_sch f 64)))] H → va_D A [(eq, .inr (1, [.int b, .ref qw])), (qn, .inl (cn, 64, .inl (sa_bs f))), (qw, .inl (cw, 64, .inl (sa_sch f 64)))] → va_S A s.heap H locs → lv_has ls 3 [(0, .ref eq), (2, .int (nI 64))] → W p l e R s m args below meth c H locs cells slots Q (F0 m 212 ls [])) → W p l e R s m args below meth c H locs cells slots Q (F0 m 51 ls []) := by
  intro n
  induction n with
  | zero =>
    intro i h0 h1 h2
    exact absurd h2 (by omega)
  | succ n ih =>
    intro i hlo hi hi2 H locs ls hP hD hS hl kk
    refine lv_iload_n hx hb dX2_setKey_51 rfl (lv_at hl 1 rfl) ?_
    refine lv_bipush (v := 64) hx hb dX2_setKey_52 (by decide) ?_
    refine lv_icmp_ge (tgt := 212) hx hb dX2_setKey_54 (by decide) (fun hc => ?_) (fun hc => ?_)
    · have hc2 := (nI_leI (a := 64) (b := i) (by decide) (by omega)).mp hc
      obtain rfl : i = 64 := by omega
      exact kk H locs ls hP hD hS hl
    · have hlt : i < 64 := Nat.lt_of_not_le fun q => hc ((nI_leI (a := 64) (b := i) (by decide) (by omega)).mpr q)
      refine lv_aload_n hx hb dX2_setKey_57 rfl (lv_at hl 0 rfl) ?_
      refine va_get (D := (dC, dI)) (ci := 1) (v := .ref qw) (C := RX2) (T := TX2) (N := 2) hx hb hts in_X2 hown hK hP 0 rfl rfl 1 (by decide) (hts _ q54) (fun _ h9 => h9) rfl dX2_setKey_58 ?_
      refine lv_iload_n hx hb dX2_setKey_61 rfl (lv_at hl 1 rfl) ?_
      refine lv_aload_n hx hb dX2_setKey_62 rfl (lv_at hl 0 rfl) ?_
      refine va_get (D := (dC, dI)) (ci := 1) (v := .ref qw) (C := RX2) (T := TX2) (N := 2) hx hb hts in_X2 hown hK hP 0 rfl rfl 1 (by decide) (hts _ q54) (fun _ h9 => h9) rfl dX2_setKey_63 ?_
      refine lv_iload_n hx hb dX2_setKey_66 rfl (lv_at hl 1 rfl) ?_
      refine lv_iconst (v := 2) hx hb dX2_setKey_67 (by decide) ?_
      refine lv_isub hx hb dX2_setKey_68 ?_
      refine sx_top (v := nI (i - 2)) (pk_sub (a := i) (b := 2) (by omega)) ?_
      refine sx_iald (v := (sa_sch f i) (i - 2)) hx hb hK hP 2 1 rfl rfl (i - 2) rfl (by omega) (by decide) rfl dX2_setKey_69 ?_
      refine lv_bipush (v := 17) hx hb dX2_setKey_70 (by decide) ?_
      refine lv_iushr (v := sa_usr ((sa_sch f i) (i - 2)) 17) hx hb dX2_setKey_72 rfl ?_
      refine lv_aload_n hx hb dX2_setKey_73 rfl (lv_at hl 0 rfl) ?_
      refine va_get (D := (dC, dI)) (ci := 1) (v := .ref qw) (C := RX2) (T := TX2) (N := 2) hx hb hts in_X2 hown hK hP 0 rfl rfl 1 (by decide) (hts _ q54) (fun _ h9 => h9) rfl dX2_setKey_74 ?_
      refine lv_iload_n hx hb dX2_setKey_77 rfl (lv_at hl 1 rfl) ?_
      refine lv_iconst (v := 2) hx hb dX2_setKey_78 (by decide) ?_
      refine lv_isub hx hb dX2_setKey_79 ?_
      refine sx_top (v := nI (i - 2)) (pk_sub (a := i) (b := 2) (by omega)) ?_
      refine sx_iald (v := (sa_sch f i) (i - 2)) hx hb hK hP 2 1 rfl rfl (i - 2) rfl (by omega) (by decide) rfl dX2_setKey_80 ?_
      refine lv_bipush (v := (-17)) hx hb dX2_setKey_81 (by decide) ?_
      refine lv_ishl hx hb dX2_setKey_83 ?_
      refine lv_ior hx hb dX2_setKey_84 ?_
      refine sx_top (v := sa_ror ((sa_sch f i) (i - 2)) 17) (sa_rorE ((sa_sch f i) (i - 2)) 17 (-17) (by decide)) ?_
      refine lv_aload_n hx hb dX2_setKey_85 rfl (lv_at hl 0 rfl) ?_
      refine va_get (D := (dC, dI)) (ci := 1) (v := .ref qw) (C := RX2) (T := TX2) (N := 2) hx hb hts in_X2 hown hK hP 0 rfl rfl 1 (by decide) (hts _ q54) (fun _ h9 => h9) rfl dX2_setKey_86 ?_
      refine lv_iload_n hx hb dX2_setKey_89 rfl (lv_at hl 1 rfl) ?_
      refine lv_iconst (v := 2) hx hb dX2_setKey_90 (by decide) ?_
      refine lv_isub hx hb dX2_setKey_91 ?_
      refine sx_top (v := nI (i - 2)) (pk_sub (a := i) (b := 2) (by omega)) ?_
      refine sx_iald (v := (sa_sch f i) (i - 2)) hx hb hK hP 2 1 rfl rfl (i - 2) rfl (by omega) (by decide) rfl dX2_setKey_92 ?_
      refine lv_bipush (v := 19) hx hb dX2_setKey_93 (by decide) ?_
      refine lv_iushr (v := sa_usr ((sa_sch f i) (i - 2)) 19) hx hb dX2_setKey_95 rfl ?_
      refine lv_aload_n hx hb dX2_setKey_96 rfl (lv_at hl 0 rfl) ?_
      refine va_get (D := (dC, dI)) (ci := 1) (v := .ref qw) (C := RX2) (T := TX2) (N := 2) hx hb hts in_X2 hown hK hP 0 rfl rfl 1 (by decide) (hts _ q54) (fun _ h9 => h9) rfl dX2_setKey_97 ?_
      refine lv_iload_n hx hb dX2_setKey_100 rfl (lv_at hl 1 rfl) ?_
      refine lv_iconst (v := 2) hx hb dX2_setKey_101 (by decide) ?_
      refine lv_isub hx hb dX2_setKey_102 ?_
      refine sx_top (v := nI (i - 2)) (pk_sub (a := i) (b := 2) (by omega)) ?_
      refine sx_iald (v := (sa_sch f i) (i - 2)) hx hb hK hP 2 1 rfl rfl (i - 2) rfl (by omega) (by decide) rfl dX2_setKey_103 ?_
      refine lv_bipush (v := (-19)) hx hb dX2_setKey_104 (by decide) ?_
      refine lv_ishl hx hb dX2_setKey_106 ?_
      refine lv_ior hx hb dX2_setKey_107 ?_
      refine sx_top (v := sa_ror ((sa_sch f i) (i - 2)) 19) (sa_rorE ((sa_sch f i) (i - 2)) 19 (-19) (by decide)) ?_
      refine lv_ixor hx hb dX2_setKey_108 ?_
      refine lv_aload_n hx hb dX2_setKey_109 rfl (lv_at hl 0 rfl) ?_
      refine va_get (D := (dC, dI)) (ci := 1) (v := .ref qw) (C := RX2) (T := TX2) (N := 2) hx hb hts in_X2 hown hK hP 0 rfl rfl 1 (by decide) (hts _ q54) (fun _ h9 => h9) rfl dX2_setKey_110 ?_
      refine lv_iload_n hx hb dX2_setKey_113 rfl (lv_at hl 1 rfl) ?_
      refine lv_iconst (v := 2) hx hb dX2_setKey_114 (by decide) ?_
      refine lv_isub hx hb dX2_setKey_115 ?_
      refine sx_top (v := nI (i - 2)) (pk_sub (a := i) (b := 2) (by omega)) ?_
      refine sx_iald (v := (sa_sch f i) (i - 2)) hx hb hK hP 2 1 rfl rfl (i - 2) rfl (by omega) (by decide) rfl dX2_setKey_116 ?_
      refine lv_bipush (v := 10) hx hb dX2_setKey_117 (by decide) ?_
      refine lv_iushr (v := sa_usr ((sa_sch f i) (i - 2)) 10) hx hb dX2_setKey_119 rfl ?_
      refine lv_ixor hx hb dX2_setKey_120 ?_
      refine sx_top (v := sa_s1 (sa_sch f i (i - 2))) (rfl) ?_
      refine lv_aload_n hx hb dX2_setKey_121 rfl (lv_at hl 0 rfl) ?_
      refine va_get (D := (dC, dI)) (ci := 1) (v := .ref qw) (C := RX2) (T := TX2) (N := 2) hx hb hts in_X2 hown hK hP 0 rfl rfl 1 (by decide) (hts _ q54) (fun _ h9 => h9) rfl dX2_setKey_122 ?_
      refine lv_iload_n hx hb dX2_setKey_125 rfl (lv_at hl 1 rfl) ?_
      refine lv_bipush (v := 7) hx hb dX2_setKey_126 (by decide) ?_
      refine lv_isub hx hb dX2_setKey_128 ?_
      refine sx_top (v := nI (i - 7)) (pk_sub (a := i) (b := 7) (by omega)) ?_
      refine sx_iald (v := (sa_sch f i) (i - 7)) hx hb hK hP 2 1 rfl rfl (i - 7) rfl (by omega) (by decide) rfl dX2_setKey_129 ?_
      refine lv_iadd hx hb dX2_setKey_130 ?_
      refine lv_aload_n hx hb dX2_setKey_131 rfl (lv_at hl 0 rfl) ?_
      refine va_get (D := (dC, dI)) (ci := 1) (v := .ref qw) (C := RX2) (T := TX2) (N := 2) hx hb hts in_X2 hown hK hP 0 rfl rfl 1 (by decide) (hts _ q54) (fun _ h9 => h9) rfl dX2_setKey_132 ?_
      refine lv_iload_n hx hb dX2_setKey_135 rfl (lv_at hl 1 rfl) ?_
      refine lv_bipush (v := 15) hx hb dX2_setKey_136 (by decide) ?_
      refine lv_isub hx hb dX2_setKey_138 ?_
      refine sx_top (v := nI (i - 15)) (pk_sub (a := i) (b := 15) (by omega)) ?_
      refine sx_iald (v := (sa_sch f i) (i - 15)) hx hb hK hP 2 1 rfl rfl (i - 15) rfl (by omega) (by decide) rfl dX2_setKey_139 ?_
      refine lv_bipush (v := 7) hx hb dX2_setKey_140 (by decide) ?_
      refine lv_iushr (v := sa_usr ((sa_sch f i) (i - 15)) 7) hx hb dX2_setKey_142 rfl ?_
      refine lv_aload_n hx hb dX2_setKey_143 rfl (lv_at hl 0 rfl) ?_
      refine va_get (D := (dC, dI)) (ci := 1) (v := .ref qw) (C := RX2) (T := TX2) (N := 2) hx hb hts in_X2 hown hK hP 0 rfl rfl 1 (by decide) (hts _ q54) (fun _ h9 => h9) rfl dX2_setKey_144 ?_
      refine lv_iload_n hx hb dX2_setKey_147 rfl (lv_at hl 1 rfl) ?_
      refine lv_bipush (v := 15) hx hb dX2_setKey_148 (by decide) ?_
      refine lv_isub hx hb dX2_setKey_150 ?_
      refine sx_top (v := nI (i - 15)) (pk_sub (a := i) (b := 15) (by omega)) ?_
      refine sx_iald (v := (sa_sch f i) (i - 15)) hx hb hK hP 2 1 rfl rfl (i - 15) rfl (by omega) (by decide) rfl dX2_setKey_151 ?_
      refine lv_bipush (v := (-7)) hx hb dX2_setKey_152 (by decide) ?_
      refine lv_ishl hx hb dX2_setKey_154 ?_
      refine lv_ior hx hb dX2_setKey_155 ?_
      refine sx_top (v := sa_ror ((sa_sch f i) (i - 15)) 7) (sa_rorE ((sa_sch f i) (i - 15)) 7 (-7) (by decide)) ?_
      refine lv_aload_n hx hb dX2_setKey_156 rfl (lv_at hl 0 rfl) ?_
      refine va_get (D := (dC, dI)) (ci := 1) (v := .ref qw) (C := RX2) (T := TX2) (N := 2) hx hb hts in_X2 hown hK hP 0 rfl rfl 1 (by decide) (hts _ q54) (fun _ h9 => h9) rfl dX2_setKey_157 ?_
      refine lv_iload_n hx hb dX2_setKey_160 rfl (lv_at hl 1 rfl) ?_
      refine lv_bipush (v := 15) hx hb dX2_setKey_161 (by decide) ?_
      refine lv_isub hx hb dX2_setKey_163 ?_
      refine sx_top (v := nI (i - 15)) (pk_sub (a := i) (b := 15) (by omega)) ?_
      refine sx_iald (v := (sa_sch f i) (i - 15)) hx hb hK hP 2 1 rfl rfl (i - 15) rfl (by omega) (by decide) rfl dX2_setKey_164 ?_
      refine lv_bipush (v := 18) hx hb dX2_setKey_165 (by decide) ?_
      refine lv_iushr (v := sa_usr ((sa_sch f i) (i - 15)) 18) hx hb dX2_setKey_167 rfl ?_
      refine lv_aload_n hx hb dX2_setKey_168 rfl (lv_at hl 0 rfl) ?_
      refine va_get (D := (dC, dI)) (ci := 1) (v := .ref qw) (C := RX2) (T := TX2) (N := 2) hx hb hts in_X2 hown hK hP 0 rfl rfl 1 (by decide) (hts _ q54) (fun _ h9 => h9) rfl dX2_setKey_169 ?_
      refine lv_iload_n hx hb dX2_setKey_172 rfl (lv_at hl 1 rfl) ?_
      refine lv_bipush (v := 15) hx hb dX2_setKey_173 (by decide) ?_
      refine lv_isub hx hb dX2_setKey_175 ?_
      refine sx_top (v := nI (i - 15)) (pk_sub (a := i) (b := 15) (by omega)) ?_
      refine sx_iald (v := (sa_sch f i) (i - 15)) hx hb hK hP 2 1 rfl rfl (i - 15) rfl (by omega) (by decide) rfl dX2_setKey_176 ?_
      refine lv_bipush (v := (-18)) hx hb dX2_setKey_177 (by decide) ?_
      refine lv_ishl hx hb dX2_setKey_179 ?_
      refine lv_ior hx hb dX2_setKey_180 ?_
      refine sx_top (v := sa_ror ((sa_sch f i) (i - 15)) 18) (sa_rorE ((sa_sch f i) (i - 15)) 18 (-18) (by decide)) ?_
      refine lv_ixor hx hb dX2_setKey_181 ?_
      refine lv_aload_n hx hb dX2_setKey_182 rfl (lv_at hl 0 rfl) ?_
      refine va_get (D := (dC, dI)) (ci := 1) (v := .ref qw) (C := RX2) (T := TX2) (N := 2) hx hb hts in_X2 hown hK hP 0 rfl rfl 1 (by decide) (hts _ q54) (fun _ h9 => h9) rfl dX2_setKey_183 ?_
      refine lv_iload_n hx hb dX2_setKey_186 rfl (lv_at hl 1 rfl) ?_
      refine lv_bipush (v := 15) hx hb dX2_setKey_187 (by decide) ?_
      refine lv_isub hx hb dX2_setKey_189 ?_
      refine sx_top (v := nI (i - 15)) (pk_sub (a := i) (b := 15) (by omega)) ?_
      refine sx_iald (v := (sa_sch f i) (i - 15)) hx hb hK hP 2 1 rfl rfl (i - 15) rfl (by omega) (by decide) rfl dX2_setKey_190 ?_
      refine lv_iconst (v := 3) hx hb dX2_setKey_191 (by decide) ?_
      refine lv_iushr (v := sa_usr ((sa_sch f i) (i - 15)) 3) hx hb dX2_setKey_192 rfl ?_
      refine lv_ixor hx hb dX2_setKey_193 ?_
      refine sx_top (v := sa_s0 (sa_sch f i (i - 15))) (rfl) ?_
      refine lv_iadd hx hb dX2_setKey_194 ?_
      refine lv_aload_n hx hb dX2_setKey_195 rfl (lv_at hl 0 rfl) ?_
      refine va_get (D := (dC, dI)) (ci := 1) (v := .ref qw) (C := RX2) (T := TX2) (N := 2) hx hb hts in_X2 hown hK hP 0 rfl rfl 1 (by decide) (hts _ q54) (fun _ h9 => h9) rfl dX2_setKey_196 ?_
      refine lv_iload_n hx hb dX2_setKey_199 rfl (lv_at hl 1 rfl) ?_
      refine lv_bipush (v := 16) hx hb dX2_setKey_200 (by decide) ?_
      refine lv_isub hx hb dX2_setKey_202 ?_
      refine sx_top (v := nI (i - 16)) (pk_sub (a := i) (b := 16) (by omega)) ?_
      refine sx_iald (v := (sa_sch f i) (i - 16)) hx hb hK hP 2 1 rfl rfl (i - 16) rfl (by omega) (by decide) rfl dX2_setKey_203 ?_
      refine lv_iadd hx hb dX2_setKey_204 ?_
      refine sx_iast (g := upd (sa_sch f i) i ((((sa_s1 (sa_sch f i (i - 2))) + ((sa_sch f i) (i - 7))) + (sa_s0 (sa_sch f i (i - 15)))) + ((sa_sch f i) (i - 16)))) hx hb hK hP hD hS 2 1 rfl rfl i rfl (by omega) (by decide) (fun _ _ => rfl) dX2_setKey_205 (fun H locs hP hD hS => ?_)
      have hP : va_P (dC, dI) vwCl [(eq, .inr (1, [.int b, .ref qw])), (qn, .inl (cn, 64, .inl (sa_bs f))), (qw, .inl (cw, 64, .inl (upd (sa_sch f i) i ((((sa_s1 (sa_sch f i (i - 2))) + ((sa_sch f i) (i - 7))) + (sa_s0 (sa_sch f i (i - 15)))) + ((sa_sch f i) (i - 16))))))] H := hP
      have hD : va_D A [(eq, .inr (1, [.int b, .ref qw])), (qn, .inl (cn, 64, .inl (sa_bs f))), (qw, .inl (cw, 64, .inl (upd (sa_sch f i) i ((((sa_s1 (sa_sch f i (i - 2))) + ((sa_sch f i) (i - 7))) + (sa_s0 (sa_sch f i (i - 15)))) + ((sa_sch f i) (i - 16))))))] := hD
      have hP := sx_ext hP 2 (sa_sch f (i + 1)) rfl (fun j _ => by rw [sa_sch_hi2 (by omega)])
      have hD := hD.set (p := 2) (a := qw) (e := .inl (cw, 64, .inl (sa_sch f (i + 1)))) rfl
      have hP : va_P (dC, dI) vwCl [(eq, .inr (1, [.int b, .ref qw])), (qn, .inl (cn, 64, .inl (sa_bs f))), (qw, .inl (cw, 64, .inl (sa_sch f (i + 1))))] H := hP
      have hD : va_D A [(eq, .inr (1, [.int b, .ref qw])), (qn, .inl (cn, 64, .inl (sa_bs f))), (qw, .inl (cw, 64, .inl (sa_sch f (i + 1))))] := hD
      refine lv_iinc (v := nI (i + 1)) (lv' := [(2, .int (nI (i + 1))), (0, .ref eq)]) hx hb dX2_setKey_206 hl (k := 1) rfl (nI_1 i) (by decide) rfl (fun ls hl => ?_)
      refine lv_goto (tgt := 51) hx hb dX2_setKey_209 (by decide) ?_
      exact ih (i + 1) (by omega) (by omega) (by omega) H locs ls (hP.sub [0, 1, 2] rfl) (hD.sub [0, 1, 2] (by decide) rfl) hS (lv_sub hl [1, 0] rfl) kk
set_option maxHeartbeats 4000000 in
set_option maxRecDepth 100000 in
/-- setKey(kb): the schedule -/
theorem mt_setKey (l : Launch) (dC : Nat → ClassId) (dI : Nat → Nat → Nat) (sz : Nat) (eq qn qw : Nat) (cn cw : ClassId) (b : Int32) (f : Nat → Int32) : Met l yX2_setKey (ws_ yX2_setKey cX2_setKey 3 none) ({ frames := 1, cells := 0, slots := 0, locals := 25 }) (va_Pc [.ref eq, .ref qn] (sx_Pre (dC, dI) [(eq, .inr (1, [.int b, .ref qw])), (qn, .inl (cn, 64, .inl (sa_bs f))), (qw, .inl (cw, 64, .inl (fun _ => 0)))] [(cn, .byte), (cw, .int)] sz)) (va_Qv (fun _ : Unit => True) (fun _ t => sx_Post (dC, dI) (va_A [(eq, .inr (1, [.int b, .ref qw])), (qn, .inl (cn, 64, .inl (sa_bs f))), (qw, .inl (cw, 64, .inl (fun _ => 0)))] sz) [(eq, .inr (1, [.int b, .ref qw])), (qn, .inl (cn, 64, .inl (sa_bs f))), (qw, .inl (cw, 64, .inl (sa_sch f 64)))] t) (va_A [(eq, .inr (1, [.int b, .ref qw])), (qn, .inl (cn, 64, .inl (sa_bs f))), (qw, .inl (cw, 64, .inl (fun _ => 0)))] sz)) 0 0 (va_A [(eq, .inr (1, [.int b, .ref qw])), (qn, .inl (cn, 64, .inl (sa_bs f))), (qw, .inl (cw, 64, .inl (fun _ => 0)))] sz) := by
  refine Met.ofW (cc := cX2_setKey) (maxL := 3) (ret := none) (by decide) rfl ?_
  intro p e s m args below meth c s₁ B hml hv
  obtain ⟨rfl, hsz, hP, hK, hD0⟩ := hv
  have hx := B.exec
  have hb := B.bytes
  have hr := B.returns
  have hts := atoms_spec (ws := ws_ yX2_setKey cX2_setKey 3 none) B.pre
  have hts : ∀ w ∈ lw_all, w.before _ s = true := fun w h => hts w (List.mem_cons_of_mem _ h)
  have hown : s.vm.findClass RX2 = some m.cls := findClass_of_methodNamed B.named
  have hlocks := B.notSynchronized
  subst hsz
  have hD := hD0.self (sz := s.heap.size)
  generalize hAe : va_A [(eq, .inr (1, [.int b, .ref qw])), (qn, .inl (cn, 64, .inl (sa_bs f))), (qw, .inl (cw, 64, .inl (fun _ => 0)))] s.heap.size = A at hD ⊢
  have hA : ∀ q : Nat, s.heap.size ≤ q → A q := fun q h => by rw [← hAe]; exact Or.inr h
  have hS : va_S A s.heap s.heap [] := va_S.rf
  have hP : va_P (dC, dI) vwCl [(eq, .inr (1, [.int b, .ref qw])), (qn, .inl (cn, 64, .inl (sa_bs f))), (qw, .inl (cw, 64, .inl (fun _ => 0)))] s.heap := hP
  have hl := lv_entry ([.ref eq, .ref qn]) (n := 3) (Nat.le_of_ble_eq_true rfl)
  rw [lg_entry_eq]
  generalize (lg_sl ([.ref eq, .ref qn]) ++ List.replicate (3 - (lg_sl ([.ref eq, .ref qn])).length) Slot.unset).toArray = ls at hl ⊢
  have hl : lv_has ls 3 [(0, .ref eq), (1, .ref qn)] := hl
  refine lv_aload_n hx hb dX2_setKey_0 rfl (lv_at hl 1 rfl) ?_
  refine va_alen (v := 64) hx hb hK hP 1 0 rfl rfl rfl dX2_setKey_1 ?_
  refine lv_if_eq (tgt := 27) hx hb dX2_setKey_2 (by decide) (fun hc => absurd hc (by decide)) (fun hc => ?_)
  refine lv_aload_n hx hb dX2_setKey_5 rfl (lv_at hl 1 rfl) ?_
  refine va_alen (v := 64) hx hb hK hP 1 0 rfl rfl rfl dX2_setKey_6 ?_
  refine lv_bipush (v := 64) hx hb dX2_setKey_7 (by decide) ?_
  refine lv_icmp_gt (tgt := 27) hx hb dX2_setKey_9 (by decide) (fun hc => absurd hc (by decide)) (fun hc => ?_)
  refine lv_aload_n hx hb dX2_setKey_12 rfl (lv_at hl 1 rfl) ?_
  refine va_alen (v := 64) hx hb hK hP 1 0 rfl rfl rfl dX2_setKey_13 ?_
  refine lv_bipush (v := 16) hx hb dX2_setKey_14 (by decide) ?_
  refine lv_icmp_lt (tgt := 27) hx hb dX2_setKey_16 (by decide) (fun hc => absurd hc (by decide)) (fun hc => ?_)
  refine lv_aload_n hx hb dX2_setKey_19 rfl (lv_at hl 1 rfl) ?_
  refine va_alen (v := 64) hx hb hK hP 1 0 rfl rfl rfl dX2_setKey_20 ?_
  refine lv_bipush (v := 8) hx hb dX2_setKey_21 (by decide) ?_
  refine lv_irem hx hb dX2_setKey_23 (by decide) ?_
  refine sx_top (v := 0) (by decide) ?_
  refine lv_if_eq (tgt := 37) hx hb dX2_setKey_24 (by decide) (fun hc => ?_) (fun hc => absurd hc (by decide))
  refine lv_aload_n hx hb dX2_setKey_37 rfl (lv_at hl 0 rfl) ?_
  refine lv_aload_n hx hb dX2_setKey_38 rfl (lv_at hl 1 rfl) ?_
  refine lv_aload_n hx hb dX2_setKey_39 rfl (lv_at hl 0 rfl) ?_
  refine va_get (D := (dC, dI)) (ci := 1) (v := .ref qw) (C := RX2) (T := TX2) (N := 2) hx hb hts in_X2 hown hK hP 0 rfl rfl 1 (by decide) (hts _ q54) (fun _ h9 => h9) rfl dX2_setKey_40 ?_
  refine lv_iconst (v := 0) hx hb dX2_setKey_43 (by decide) ?_
  refine lv_iconst (v := 0) hx hb dX2_setKey_44 (by decide) ?_
  have hPc := hP.sub (ws' := [(qn, .inl (cn, 64, .inl (sa_bs f))), (qw, .inl (cw, 64, .inl (fun _ => 0)))]) [1, 2] rfl
  have hDc := hD.sub (ws' := [(qn, .inl (cn, 64, .inl (sa_bs f))), (qw, .inl (cw, 64, .inl (fun _ => 0)))]) [1, 2] (by decide) rfl
  have hKc := hK.sub (tys' := [(cn, .byte), (cw, .int)]) [0, 1] rfl
  have hFc := va_free (wc := [(qn, .inl (cn, 64, .inl (sa_bs f))), (qw, .inl (cw, 64, .inl (fun _ => 0)))]) hD hS hA [1, 2] rfl
  refine va_callv (va_runV (As := [.ref qn, .ref qw, .int 0, .int 0]) (rest := []) ⟨hx, hb, hml, hown, hts⟩ (mt_b2i l dC dI s.heap.size eq qn qw cn cw f (fun _ => 0)) (cwV 4 hts (lw_V q167 q169 qs2 q9 q170) rfl rfl rfl (by decide +kernel) ⟨Nat.le_of_ble_eq_true rfl, Nat.le_of_ble_eq_true rfl⟩) ⟨sx_blind, va_recv hK hP (ci := 1) (q0 := 0) rfl rfl, fun U hU hW => ⟨rfl, sx_Pre.mk hPc hKc hDc hU hW⟩⟩ rfl rfl hl.1 rfl (lv_room (Nat.le_of_ble_eq_true rfl)) dX2_setKey_45 ⟨Nat.le_of_ble_eq_true rfl, Nat.le_of_ble_eq_true rfl⟩) hS (fun q _ h => hFc q h) hFc (fun u t H1 locs ht hvm hw hB hz1 hk1 hS => ?_)
  obtain ⟨hP1, hD1⟩ := hB
  rw [ht] at hP1
  obtain ⟨hP, hD⟩ := va_join (wr := [(eq, .inr (1, [.int b, .ref qw]))]) (w1 := [(qn, .inl (cn, 64, .inl (sa_bs f))), (qw, .inl (cw, 64, .inl (sa_mx f (fun _ => 0) 16)))]) hP hD [1, 2] [0] rfl rfl (by decide) (by decide) hk1 hFc hP1 hD1
  generalize H1 = H at hP hS ⊢
  have hP : va_P (dC, dI) vwCl [(eq, .inr (1, [.int b, .ref qw])), (qn, .inl (cn, 64, .inl (sa_bs f))), (qw, .inl (cw, 64, .inl (sa_mx f (fun _ => 0) 16)))] H := hP
  have hD : va_D A [(eq, .inr (1, [.int b, .ref qw])), (qn, .inl (cn, 64, .inl (sa_bs f))), (qw, .inl (cw, 64, .inl (sa_mx f (fun _ => 0) 16)))] := hD
  refine W.widen (k := 0) (n := 0) (Nat.le_of_ble_eq_true rfl) (Nat.le_of_ble_eq_true rfl) ?_
  have hP := sx_ext hP 2 (sa_sch f 16) rfl (fun j _ => by rw [sa_sch16 f 16 (Nat.le_refl _)]; rfl)
  have hD := hD.set (p := 2) (a := qw) (e := .inl (cw, 64, .inl (sa_sch f 16))) rfl
  have hP : va_P (dC, dI) vwCl [(eq, .inr (1, [.int b, .ref qw])), (qn, .inl (cn, 64, .inl (sa_bs f))), (qw, .inl (cw, 64, .inl (sa_sch f 16)))] H := hP
  have hD : va_D A [(eq, .inr (1, [.int b, .ref qw])), (qn, .inl (cn, 64, .inl (sa_bs f))), (qw, .inl (cw, 64, .inl (sa_sch f 16)))] := hD
  refine lv_bipush (v := 16) hx hb dX2_setKey_48 (by decide) ?_
  refine lv_istore_n (lv' := [(2, .int 16), (0, .ref eq), (1, .ref qn)]) hx hb dX2_setKey_50 rfl hl (by decide) rfl (fun ls hl => ?_)
  have hl : lv_has ls 3 [(2, .int (nI 16)), (0, .ref eq), (1, .ref qn)] := hl
  refine lp_setKey eq qn qw cn cw b f hx hb hml hown hts hA hK 65 16 (by omega) (by omega) (by omega) _ _ _ (hP.sub [0, 1, 2] rfl) (hD.sub [0, 1, 2] (by decide) rfl) hS (lv_sub hl [1, 0] rfl) (fun H locs ls hP hD hS hl => ?_)
  have hP9 := hP.sub (ws' := [(eq, .inr (1, [.int b, .ref qw])), (qn, .inl (cn, 64, .inl (sa_bs f))), (qw, .inl (cw, 64, .inl (sa_sch f 64)))]) [0, 1, 2] rfl
  have hD9 := hD.sub (ws' := [(eq, .inr (1, [.int b, .ref qw])), (qn, .inl (cn, 64, .inl (sa_bs f))), (qw, .inl (cw, 64, .inl (sa_sch f 64)))]) [0, 1, 2] (by decide) rfl
  exact W.vret hx hb hr (fun t ht hW => ⟨⟨(), rfl, trivial, by rw [ht]; exact hP9, hD9⟩, hS.F ht⟩) hS.2.2 dX2_setKey_212
set_option maxHeartbeats 4000000 in
set_option maxRecDepth 100000 in
/-- init(1, params): the schedule of the key -/
theorem mt_init1 (l : Launch) (dC : Nat → ClassId) (dI : Nat → Nat → Nat) (sz : Nat) (eq k qn : Nat) (cn : ClassId) (f : Nat → Int32) : Met l yX2_init_2 (ws_ yX2_init_2 cX2_init_2 5 none) ({ frames := 2, cells := 1, slots := 64, locals := 50 }) (va_Pc [.ref eq, .int 1, .ref k] (sx_Pre (dC, dI) [(eq, .inr (1, [.int 0, .null])), (k, .inr (2, [.ref qn])), (qn, .inl (cn, 64, .inl (sa_bs f)))] [(cn, .byte)] sz)) (va_Qv (fun _ : Unit => True) (fun _ t => ∃ (qw : Nat) (cw : ClassId), sx_PostK (dC, dI) (va_A [(eq, .inr (1, [.int 0, .null])), (k, .inr (2, [.ref qn])), (qn, .inl (cn, 64, .inl (sa_bs f)))] sz) [(k, .inr (2, [.ref qn])), (eq, .inr (1, [.int 1, .ref qw])), (qn, .inl (cn, 64, .inl (sa_bs f))), (qw, .inl (cw, 64, .inl (sa_sch f 64)))] [(cn, .byte), (cw, .int)] t) (va_A [(eq, .inr (1, [.int 0, .null])), (k, .inr (2, [.ref qn])), (qn, .inl (cn, 64, .inl (sa_bs f)))] sz)) 1 64 (va_A [(eq, .inr (1, [.int 0, .null])), (k, .inr (2, [.ref qn])), (qn, .inl (cn, 64, .inl (sa_bs f)))] sz) := by
  refine Met.ofW (cc := cX2_init_2) (maxL := 5) (ret := none) (by decide) rfl ?_
  intro p e s m args below meth c s₁ B hml hv
  obtain ⟨rfl, hsz, hP, hK, hD0⟩ := hv
  have hx := B.exec
  have hb := B.bytes
  have hr := B.returns
  have hts := atoms_spec (ws := ws_ yX2_init_2 cX2_init_2 5 none) B.pre
  have hts : ∀ w ∈ lw_all, w.before _ s = true := fun w h => hts w (List.mem_cons_of_mem _ h)
  have hown : s.vm.findClass RX2 = some m.cls := findClass_of_methodNamed B.named
  have hlocks := B.notSynchronized
  subst hsz
  have hD := hD0.self (sz := s.heap.size)
  generalize hAe : va_A [(eq, .inr (1, [.int 0, .null])), (k, .inr (2, [.ref qn])), (qn, .inl (cn, 64, .inl (sa_bs f)))] s.heap.size = A at hD ⊢
  have hA : ∀ q : Nat, s.heap.size ≤ q → A q := fun q h => by rw [← hAe]; exact Or.inr h
  have hS : va_S A s.heap s.heap [] := va_S.rf
  have hP : va_P (dC, dI) vwCl [(eq, .inr (1, [.int 0, .null])), (k, .inr (2, [.ref qn])), (qn, .inl (cn, 64, .inl (sa_bs f)))] s.heap := hP
  have hl := lv_entry ([.ref eq, .int 1, .ref k]) (n := 5) (Nat.le_of_ble_eq_true rfl)
  rw [lg_entry_eq]
  generalize (lg_sl ([.ref eq, .int 1, .ref k]) ++ List.replicate (5 - (lg_sl ([.ref eq, .int 1, .ref k])).length) Slot.unset).toArray = ls at hl ⊢
  have hl : lv_has ls 5 [(0, .ref eq), (1, .int 1), (2, .ref k)] := hl
  refine lv_aload_n hx hb dX2_init_2_0 rfl (lv_at hl 2 rfl) ?_
  refine va_instS hx hb hown (hts _ q89) (hK.1 2 _ rfl).2 (va_recv hK hP (ci := 2) (q0 := 1) rfl rfl) dX2_init_2_1 ?_
  refine lv_if_ne (tgt := 17) hx hb dX2_init_2_4 (by decide) (fun hc => ?_) (fun hc => absurd hc (by decide))
  refine lv_aload_n hx hb dX2_init_2_17 rfl (lv_at hl 0 rfl) ?_
  refine lv_iload_n hx hb dX2_init_2_18 rfl (lv_at hl 1 rfl) ?_
  refine va_put (D := (dC, dI)) (ci := 1) (v := .int 1) (ty := .boolean) (C := RX2) (T := TX2) (N := 2) hx hb hts in_X2 tyX2 tyX2_ok nmX2 hown hK hP hD hS 0 rfl rfl 0 (by decide) (hts _ q53) (fun _ h9 => h9) rfl (by decide +kernel) rfl rfl (Nat.le_of_ble_eq_true rfl) dX2_init_2_19 (fun H locs hP hD hS => ?_)
  have hP : va_P (dC, dI) vwCl [(eq, .inr (1, [.int 1, .null])), (k, .inr (2, [.ref qn])), (qn, .inl (cn, 64, .inl (sa_bs f)))] H := hP
  have hD : va_D A [(eq, .inr (1, [.int 1, .null])), (k, .inr (2, [.ref qn])), (qn, .inl (cn, 64, .inl (sa_bs f)))] := hD
  refine lv_aload_n hx hb dX2_init_2_22 rfl (lv_at hl 0 rfl) ?_
  refine lv_bipush (v := 64) hx hb dX2_init_2_23 (by decide) ?_
  refine va_newa (atype := .int) (a0 := (64, .inl (fun _ => 0))) (N' := 64) hx hb (hts _ q196) (ty := .int) rfl hK hP hD hS hA (fun _ => rfl) (by decide) (by decide) (by decide) (Nat.le_of_ble_eq_true rfl) (Nat.le_of_ble_eq_true rfl) dX2_init_2_25 (fun q_1 c_2 H hK hP hD hS => ?_)
  have hP : va_P (dC, dI) vwCl [(eq, .inr (1, [.int 1, .null])), (k, .inr (2, [.ref qn])), (qn, .inl (cn, 64, .inl (sa_bs f))), (q_1, .inl (c_2, 64, .inl (fun _ => 0)))] H := hP
  have hD : va_D A [(eq, .inr (1, [.int 1, .null])), (k, .inr (2, [.ref qn])), (qn, .inl (cn, 64, .inl (sa_bs f))), (q_1, .inl (c_2, 64, .inl (fun _ => 0)))] := hD
  have hK : va_K (dC, dI) vwCl [(cn, .byte), (c_2, .int)] s := hK
  refine W.widen (k := 1) (n := 64) (Nat.le_of_ble_eq_true rfl) (Nat.le_of_ble_eq_true rfl) ?_
  refine va_put (D := (dC, dI)) (ci := 1) (v := .ref q_1) (ty := .array .int) (C := RX2) (T := TX2) (N := 2) hx hb hts in_X2 tyX2 tyX2_ok nmX2 hown hK hP hD hS 0 rfl rfl 1 (by decide) (hts _ q54) (fun _ h9 => h9) rfl (by decide +kernel) rfl rfl (Nat.le_of_ble_eq_true rfl) dX2_init_2_27 (fun H locs hP hD hS => ?_)
  have hP : va_P (dC, dI) vwCl [(eq, .inr (1, [.int 1, .ref q_1])), (k, .inr (2, [.ref qn])), (qn, .inl (cn, 64, .inl (sa_bs f))), (q_1, .inl (c_2, 64, .inl (fun _ => 0)))] H := hP
  have hD : va_D A [(eq, .inr (1, [.int 1, .ref q_1])), (k, .inr (2, [.ref qn])), (qn, .inl (cn, 64, .inl (sa_bs f))), (q_1, .inl (c_2, 64, .inl (fun _ => 0)))] := hD
  refine lv_aload_n hx hb dX2_init_2_30 rfl (lv_at hl 2 rfl) ?_
  refine va_castS hx hb hown (hts _ q89) (hK.1 2 _ rfl).2 (va_recv hK hP (ci := 2) (q0 := 1) rfl rfl) dX2_init_2_31 ?_
  have hPc := hP.sub (ws' := [(k, .inr (2, [.ref qn]))]) [1] rfl
  have hDc := hD.sub (ws' := [(k, .inr (2, [.ref qn]))]) [1] (by decide) rfl
  have hKc := hK.sub (tys' := []) [] rfl
  have hFc := va_free (wc := [(k, .inr (2, [.ref qn]))]) hD hS hA [1] rfl
  refine va_callr (va_runV (As := []) (rest := []) ⟨hx, hb, hml, hown, hts⟩ (mt_getKey l dC dI H.size k qn) (cwV 0 hts (lw_V q158 q159 q160 q10 q161) rfl rfl rfl (by decide +kernel) ⟨Nat.le_of_ble_eq_true rfl, Nat.le_of_ble_eq_true rfl⟩) ⟨sx_blind, va_recv hK hP (ci := 2) (q0 := 1) rfl rfl, fun U hU hW => ⟨rfl, sx_Pre.mk hPc hKc hDc hU hW⟩⟩ rfl rfl hl.1 rfl (lv_room (Nat.le_of_ble_eq_true rfl)) dX2_init_2_34 ⟨Nat.le_of_ble_eq_true rfl, Nat.le_of_ble_eq_true rfl⟩) hS (fun q _ h => hFc q h) hFc (fun u ra t H1 locs ht hvm hw hB hz1 hk1 hS => ?_)
  obtain ⟨hra, hB⟩ := hB
  obtain ⟨hP1, hD1⟩ := hB
  rw [ht] at hP1
  obtain ⟨hP, hD⟩ := va_join (wr := [(eq, .inr (1, [.int 1, .ref q_1])), (qn, .inl (cn, 64, .inl (sa_bs f))), (q_1, .inl (c_2, 64, .inl (fun _ => 0)))]) (w1 := [(k, .inr (2, [.ref qn]))]) hP hD [1] [0, 2, 3] rfl rfl (by decide) (by decide) hk1 hFc hP1 hD1
  generalize H1 = H at hP hS ⊢
  have hP : va_P (dC, dI) vwCl [(eq, .inr (1, [.int 1, .ref q_1])), (qn, .inl (cn, 64, .inl (sa_bs f))), (q_1, .inl (c_2, 64, .inl (fun _ => 0))), (k, .inr (2, [.ref qn]))] H := hP
  have hD : va_D A [(eq, .inr (1, [.int 1, .ref q_1])), (qn, .inl (cn, 64, .inl (sa_bs f))), (q_1, .inl (c_2, 64, .inl (fun _ => 0))), (k, .inr (2, [.ref qn]))] := hD
  refine W.widen (k := 1) (n := 64) (Nat.le_of_ble_eq_true rfl) (Nat.le_of_ble_eq_true rfl) ?_
  rw [hra]
  refine lv_astore_n (lv' := [(3, .ref qn), (0, .ref eq), (1, .int 1), (2, .ref k)]) hx hb dX2_init_2_37 rfl hl (by decide) rfl (fun ls hl => ?_)
  refine lv_aload_n hx hb dX2_init_2_38 rfl (lv_at hl 1 rfl) ?_
  refine lv_aload_n hx hb dX2_init_2_39 rfl (lv_at hl 0 rfl) ?_
  have hPc := hP.sub (ws' := [(eq, .inr (1, [.int 1, .ref q_1])), (qn, .inl (cn, 64, .inl (sa_bs f))), (q_1, .inl (c_2, 64, .inl (fun _ => 0)))]) [0, 1, 2] rfl
  have hDc := hD.sub (ws' := [(eq, .inr (1, [.int 1, .ref q_1])), (qn, .inl (cn, 64, .inl (sa_bs f))), (q_1, .inl (c_2, 64, .inl (fun _ => 0)))]) [0, 1, 2] (by decide) rfl
  have hKc := hK.sub (tys' := [(cn, .byte), (c_2, .int)]) [0, 1] rfl
  have hFc := va_free (wc := [(eq, .inr (1, [.int 1, .ref q_1])), (qn, .inl (cn, 64, .inl (sa_bs f))), (q_1, .inl (c_2, 64, .inl (fun _ => 0)))]) hD hS hA [0, 1, 2] rfl
  refine va_callv (va_runV (As := [.ref qn]) (rest := []) ⟨hx, hb, hml, hown, hts⟩ (mt_setKey l dC dI H.size eq qn q_1 cn c_2 1 f) (cwV 1 hts (lw_V q162 q163 q164 q9 q165) rfl rfl rfl (by decide +kernel) ⟨Nat.le_of_ble_eq_true rfl, Nat.le_of_ble_eq_true rfl⟩) ⟨sx_blind, va_recv hK hP (ci := 1) (q0 := 0) rfl rfl, fun U hU hW => ⟨rfl, sx_Pre.mk hPc hKc hDc hU hW⟩⟩ rfl rfl hl.1 rfl (lv_room (Nat.le_of_ble_eq_true rfl)) dX2_init_2_40 ⟨Nat.le_of_ble_eq_true rfl, Nat.le_of_ble_eq_true rfl⟩) hS (fun q _ h => hFc q h) hFc (fun u t H1 locs ht hvm hw hB hz1 hk1 hS => ?_)
  obtain ⟨hP1, hD1⟩ := hB
  rw [ht] at hP1
  obtain ⟨hP, hD⟩ := va_join (wr := [(k, .inr (2, [.ref qn]))]) (w1 := [(eq, .inr (1, [.int 1, .ref q_1])), (qn, .inl (cn, 64, .inl (sa_bs f))), (q_1, .inl (c_2, 64, .inl (sa_sch f 64)))]) hP hD [0, 1, 2] [3] rfl rfl (by decide) (by decide) hk1 hFc hP1 hD1
  generalize H1 = H at hP hS ⊢
  have hP : va_P (dC, dI) vwCl [(k, .inr (2, [.ref qn])), (eq, .inr (1, [.int 1, .ref q_1])), (qn, .inl (cn, 64, .inl (sa_bs f))), (q_1, .inl (c_2, 64, .inl (sa_sch f 64)))] H := hP
  have hD : va_D A [(k, .inr (2, [.ref qn])), (eq, .inr (1, [.int 1, .ref q_1])), (qn, .inl (cn, 64, .inl (sa_bs f))), (q_1, .inl (c_2, 64, .inl (sa_sch f 64)))] := hD
  refine W.widen (k := 1) (n := 64) (Nat.le_of_ble_eq_true rfl) (Nat.le_of_ble_eq_true rfl) ?_
  refine lv_aload_n hx hb dX2_init_2_43 rfl (lv_at hl 0 rfl) ?_
  refine va_alen (v := 64) hx hb hK hP 2 0 rfl rfl rfl dX2_init_2_44 ?_
  refine lv_bipush (v := 8) hx hb dX2_init_2_45 (by decide) ?_
  refine lv_imul hx hb dX2_init_2_47 ?_
  refine sx_top (v := 512) (by decide) ?_
  refine lv_istore (lv' := [(4, .int 512), (3, .ref qn), (0, .ref eq), (1, .int 1), (2, .ref k)]) hx hb dX2_init_2_48 hl (by decide) rfl (fun ls hl => ?_)
  exact W.vret hx hb hr (fun t ht hW => ⟨⟨(), rfl, trivial, q_1, c_2, by rw [ht]; exact hP, hD, va_K.moved hW.alike hK⟩, hS.F ht⟩) hS.2.2 dX2_init_2_50
set_option maxHeartbeats 4000000 in
set_option maxRecDepth 100000 in
/-- init(0, params): the schedule of the key -/
theorem mt_init0 (l : Launch) (dC : Nat → ClassId) (dI : Nat → Nat → Nat) (sz : Nat) (eq k qn : Nat) (cn : ClassId) (f : Nat → Int32) : Met l yX2_init_2 (ws_ yX2_init_2 cX2_init_2 5 none) ({ frames := 2, cells := 1, slots := 64, locals := 50 }) (va_Pc [.ref eq, .int 0, .ref k] (sx_Pre (dC, dI) [(eq, .inr (1, [.int 0, .null])), (k, .inr (2, [.ref qn])), (qn, .inl (cn, 64, .inl (sa_bs f)))] [(cn, .byte)] sz)) (va_Qv (fun _ : Unit => True) (fun _ t => ∃ (qw : Nat) (cw : ClassId), sx_PostK (dC, dI) (va_A [(eq, .inr (1, [.int 0, .null])), (k, .inr (2, [.ref qn])), (qn, .inl (cn, 64, .inl (sa_bs f)))] sz) [(k, .inr (2, [.ref qn])), (eq, .inr (1, [.int 0, .ref qw])), (qn, .inl (cn, 64, .inl (sa_bs f))), (qw, .inl (cw, 64, .inl (sa_sch f 64)))] [(cn, .byte), (cw, .int)] t) (va_A [(eq, .inr (1, [.int 0, .null])), (k, .inr (2, [.ref qn])), (qn, .inl (cn, 64, .inl (sa_bs f)))] sz)) 1 64 (va_A [(eq, .inr (1, [.int 0, .null])), (k, .inr (2, [.ref qn])), (qn, .inl (cn, 64, .inl (sa_bs f)))] sz) := by
  refine Met.ofW (cc := cX2_init_2) (maxL := 5) (ret := none) (by decide) rfl ?_
  intro p e s m args below meth c s₁ B hml hv
  obtain ⟨rfl, hsz, hP, hK, hD0⟩ := hv
  have hx := B.exec
  have hb := B.bytes
  have hr := B.returns
  have hts := atoms_spec (ws := ws_ yX2_init_2 cX2_init_2 5 none) B.pre
  have hts : ∀ w ∈ lw_all, w.before _ s = true := fun w h => hts w (List.mem_cons_of_mem _ h)
  have hown : s.vm.findClass RX2 = some m.cls := findClass_of_methodNamed B.named
  have hlocks := B.notSynchronized
  subst hsz
  have hD := hD0.self (sz := s.heap.size)
  generalize hAe : va_A [(eq, .inr (1, [.int 0, .null])), (k, .inr (2, [.ref qn])), (qn, .inl (cn, 64, .inl (sa_bs f)))] s.heap.size = A at hD ⊢
  have hA : ∀ q : Nat, s.heap.size ≤ q → A q := fun q h => by rw [← hAe]; exact Or.inr h
  have hS : va_S A s.heap s.heap [] := va_S.rf
  have hP : va_P (dC, dI) vwCl [(eq, .inr (1, [.int 0, .null])), (k, .inr (2, [.ref qn])), (qn, .inl (cn, 64, .inl (sa_bs f)))] s.heap := hP
  have hl := lv_entry ([.ref eq, .int 0, .ref k]) (n := 5) (Nat.le_of_ble_eq_true rfl)
  rw [lg_entry_eq]
  generalize (lg_sl ([.ref eq, .int 0, .ref k]) ++ List.replicate (5 - (lg_sl ([.ref eq, .int 0, .ref k])).length) Slot.unset).toArray = ls at hl ⊢
  have hl : lv_has ls 5 [(0, .ref eq), (1, .int 0), (2, .ref k)] := hl
  refine lv_aload_n hx hb dX2_init_2_0 rfl (lv_at hl 2 rfl) ?_
  refine va_instS hx hb hown (hts _ q89) (hK.1 2 _ rfl).2 (va_recv hK hP (ci := 2) (q0 := 1) rfl rfl) dX2_init_2_1 ?_
  refine lv_if_ne (tgt := 17) hx hb dX2_init_2_4 (by decide) (fun hc => ?_) (fun hc => absurd hc (by decide))
  refine lv_aload_n hx hb dX2_init_2_17 rfl (lv_at hl 0 rfl) ?_
  refine lv_iload_n hx hb dX2_init_2_18 rfl (lv_at hl 1 rfl) ?_
  refine va_put (D := (dC, dI)) (ci := 1) (v := .int 0) (ty := .boolean) (C := RX2) (T := TX2) (N := 2) hx hb hts in_X2 tyX2 tyX2_ok nmX2 hown hK hP hD hS 0 rfl rfl 0 (by decide) (hts _ q53) (fun _ h9 => h9) rfl (by decide +kernel) rfl rfl (Nat.le_of_ble_eq_true rfl) dX2_init_2_19 (fun H locs hP hD hS => ?_)
  have hP : va_P (dC, dI) vwCl [(eq, .inr (1, [.int 0, .null])), (k, .inr (2, [.ref qn])), (qn, .inl (cn, 64, .inl (sa_bs f)))] H := hP
  have hD : va_D A [(eq, .inr (1, [.int 0, .null])), (k, .inr (2, [.ref qn])), (qn, .inl (cn, 64, .inl (sa_bs f)))] := hD
  refine lv_aload_n hx hb dX2_init_2_22 rfl (lv_at hl 0 rfl) ?_
  refine lv_bipush (v := 64) hx hb dX2_init_2_23 (by decide) ?_
  refine va_newa (atype := .int) (a0 := (64, .inl (fun _ => 0))) (N' := 64) hx hb (hts _ q196) (ty := .int) rfl hK hP hD hS hA (fun _ => rfl) (by decide) (by decide) (by decide) (Nat.le_of_ble_eq_true rfl) (Nat.le_of_ble_eq_true rfl) dX2_init_2_25 (fun q_1 c_2 H hK hP hD hS => ?_)
  have hP : va_P (dC, dI) vwCl [(eq, .inr (1, [.int 0, .null])), (k, .inr (2, [.ref qn])), (qn, .inl (cn, 64, .inl (sa_bs f))), (q_1, .inl (c_2, 64, .inl (fun _ => 0)))] H := hP
  have hD : va_D A [(eq, .inr (1, [.int 0, .null])), (k, .inr (2, [.ref qn])), (qn, .inl (cn, 64, .inl (sa_bs f))), (q_1, .inl (c_2, 64, .inl (fun _ => 0)))] := hD
  have hK : va_K (dC, dI) vwCl [(cn, .byte), (c_2, .int)] s := hK
  refine W.widen (k := 1) (n := 64) (Nat.le_of_ble_eq_true rfl) (Nat.le_of_ble_eq_true rfl) ?_
  refine va_put (D := (dC, dI)) (ci := 1) (v := .ref q_1) (ty := .array .int) (C := RX2) (T := TX2) (N := 2) hx hb hts in_X2 tyX2 tyX2_ok nmX2 hown hK hP hD hS 0 rfl rfl 1 (by decide) (hts _ q54) (fun _ h9 => h9) rfl (by decide +kernel) rfl rfl (Nat.le_of_ble_eq_true rfl) dX2_init_2_27 (fun H locs hP hD hS => ?_)
  have hP : va_P (dC, dI) vwCl [(eq, .inr (1, [.int 0, .ref q_1])), (k, .inr (2, [.ref qn])), (qn, .inl (cn, 64, .inl (sa_bs f))), (q_1, .inl (c_2, 64, .inl (fun _ => 0)))] H := hP
  have hD : va_D A [(eq, .inr (1, [.int 0, .ref q_1])), (k, .inr (2, [.ref qn])), (qn, .inl (cn, 64, .inl (sa_bs f))), (q_1, .inl (c_2, 64, .inl (fun _ => 0)))] := hD
  refine lv_aload_n hx hb dX2_init_2_30 rfl (lv_at hl 2 rfl) ?_
  refine va_castS hx hb hown (hts _ q89) (hK.1 2 _ rfl).2 (va_recv hK hP (ci := 2) (q0 := 1) rfl rfl) dX2_init_2_31 ?_
  have hPc := hP.sub (ws' := [(k, .inr (2, [.ref qn]))]) [1] rfl
  have hDc := hD.sub (ws' := [(k, .inr (2, [.ref qn]))]) [1] (by decide) rfl
  have hKc := hK.sub (tys' := []) [] rfl
  have hFc := va_free (wc := [(k, .inr (2, [.ref qn]))]) hD hS hA [1] rfl
  refine va_callr (va_runV (As := []) (rest := []) ⟨hx, hb, hml, hown, hts⟩ (mt_getKey l dC dI H.size k qn) (cwV 0 hts (lw_V q158 q159 q160 q10 q161) rfl rfl rfl (by decide +kernel) ⟨Nat.le_of_ble_eq_true rfl, Nat.le_of_ble_eq_true rfl⟩) ⟨sx_blind, va_recv hK hP (ci := 2) (q0 := 1) rfl rfl, fun U hU hW => ⟨rfl, sx_Pre.mk hPc hKc hDc hU hW⟩⟩ rfl rfl hl.1 rfl (lv_room (Nat.le_of_ble_eq_true rfl)) dX2_init_2_34 ⟨Nat.le_of_ble_eq_true rfl, Nat.le_of_ble_eq_true rfl⟩) hS (fun q _ h => hFc q h) hFc (fun u ra t H1 locs ht hvm hw hB hz1 hk1 hS => ?_)
  obtain ⟨hra, hB⟩ := hB
  obtain ⟨hP1, hD1⟩ := hB
  rw [ht] at hP1
  obtain ⟨hP, hD⟩ := va_join (wr := [(eq, .inr (1, [.int 0, .ref q_1])), (qn, .inl (cn, 64, .inl (sa_bs f))), (q_1, .inl (c_2, 64, .inl (fun _ => 0)))]) (w1 := [(k, .inr (2, [.ref qn]))]) hP hD [1] [0, 2, 3] rfl rfl (by decide) (by decide) hk1 hFc hP1 hD1
  generalize H1 = H at hP hS ⊢
  have hP : va_P (dC, dI) vwCl [(eq, .inr (1, [.int 0, .ref q_1])), (qn, .inl (cn, 64, .inl (sa_bs f))), (q_1, .inl (c_2, 64, .inl (fun _ => 0))), (k, .inr (2, [.ref qn]))] H := hP
  have hD : va_D A [(eq, .inr (1, [.int 0, .ref q_1])), (qn, .inl (cn, 64, .inl (sa_bs f))), (q_1, .inl (c_2, 64, .inl (fun _ => 0))), (k, .inr (2, [.ref qn]))] := hD
  refine W.widen (k := 1) (n := 64) (Nat.le_of_ble_eq_true rfl) (Nat.le_of_ble_eq_true rfl) ?_
  rw [hra]
  refine lv_astore_n (lv' := [(3, .ref qn), (0, .ref eq), (1, .int 0), (2, .ref k)]) hx hb dX2_init_2_37 rfl hl (by decide) rfl (fun ls hl => ?_)
  refine lv_aload_n hx hb dX2_init_2_38 rfl (lv_at hl 1 rfl) ?_
  refine lv_aload_n hx hb dX2_init_2_39 rfl (lv_at hl 0 rfl) ?_
  have hPc := hP.sub (ws' := [(eq, .inr (1, [.int 0, .ref q_1])), (qn, .inl (cn, 64, .inl (sa_bs f))), (q_1, .inl (c_2, 64, .inl (fun _ => 0)))]) [0, 1, 2] rfl
  have hDc := hD.sub (ws' := [(eq, .inr (1, [.int 0, .ref q_1])), (qn, .inl (cn, 64, .inl (sa_bs f))), (q_1, .inl (c_2, 64, .inl (fun _ => 0)))]) [0, 1, 2] (by decide) rfl
  have hKc := hK.sub (tys' := [(cn, .byte), (c_2, .int)]) [0, 1] rfl
  have hFc := va_free (wc := [(eq, .inr (1, [.int 0, .ref q_1])), (qn, .inl (cn, 64, .inl (sa_bs f))), (q_1, .inl (c_2, 64, .inl (fun _ => 0)))]) hD hS hA [0, 1, 2] rfl
  refine va_callv (va_runV (As := [.ref qn]) (rest := []) ⟨hx, hb, hml, hown, hts⟩ (mt_setKey l dC dI H.size eq qn q_1 cn c_2 0 f) (cwV 1 hts (lw_V q162 q163 q164 q9 q165) rfl rfl rfl (by decide +kernel) ⟨Nat.le_of_ble_eq_true rfl, Nat.le_of_ble_eq_true rfl⟩) ⟨sx_blind, va_recv hK hP (ci := 1) (q0 := 0) rfl rfl, fun U hU hW => ⟨rfl, sx_Pre.mk hPc hKc hDc hU hW⟩⟩ rfl rfl hl.1 rfl (lv_room (Nat.le_of_ble_eq_true rfl)) dX2_init_2_40 ⟨Nat.le_of_ble_eq_true rfl, Nat.le_of_ble_eq_true rfl⟩) hS (fun q _ h => hFc q h) hFc (fun u t H1 locs ht hvm hw hB hz1 hk1 hS => ?_)
  obtain ⟨hP1, hD1⟩ := hB
  rw [ht] at hP1
  obtain ⟨hP, hD⟩ := va_join (wr := [(k, .inr (2, [.ref qn]))]) (w1 := [(eq, .inr (1, [.int 0, .ref q_1])), (qn, .inl (cn, 64, .inl (sa_bs f))), (q_1, .inl (c_2, 64, .inl (sa_sch f 64)))]) hP hD [0, 1, 2] [3] rfl rfl (by decide) (by decide) hk1 hFc hP1 hD1
  generalize H1 = H at hP hS ⊢
  have hP : va_P (dC, dI) vwCl [(k, .inr (2, [.ref qn])), (eq, .inr (1, [.int 0, .ref q_1])), (qn, .inl (cn, 64, .inl (sa_bs f))), (q_1, .inl (c_2, 64, .inl (sa_sch f 64)))] H := hP
  have hD : va_D A [(k, .inr (2, [.ref qn])), (eq, .inr (1, [.int 0, .ref q_1])), (qn, .inl (cn, 64, .inl (sa_bs f))), (q_1, .inl (c_2, 64, .inl (sa_sch f 64)))] := hD
  refine W.widen (k := 1) (n := 64) (Nat.le_of_ble_eq_true rfl) (Nat.le_of_ble_eq_true rfl) ?_
  refine lv_aload_n hx hb dX2_init_2_43 rfl (lv_at hl 0 rfl) ?_
  refine va_alen (v := 64) hx hb hK hP 2 0 rfl rfl rfl dX2_init_2_44 ?_
  refine lv_bipush (v := 8) hx hb dX2_init_2_45 (by decide) ?_
  refine lv_imul hx hb dX2_init_2_47 ?_
  refine sx_top (v := 512) (by decide) ?_
  refine lv_istore (lv' := [(4, .int 512), (3, .ref qn), (0, .ref eq), (1, .int 0), (2, .ref k)]) hx hb dX2_init_2_48 hl (by decide) rfl (fun ls hl => ?_)
  exact W.vret hx hb hr (fun t ht hW => ⟨⟨(), rfl, trivial, q_1, c_2, by rw [ht]; exact hP, hD, va_K.moved hW.alike hK⟩, hS.F ht⟩) hS.2.2 dX2_init_2_50
end
section
/-! Shacal2Engine's encryptBlock and decryptBlock, by contract -/
theorem sa_t1E (k w : Int32) (x : Nat → Int32) : sa_sgE (x 4) + sa_ch (x 4) (x 5) (x 6) + x 7 + k + w = sa_t1 k w x := by
  unfold sa_t1
  rw [Int32.add_comm (sa_sgE (x 4) + sa_ch (x 4) (x 5) (x 6)) (x 7), ← Int32.add_assoc (x 7)]
theorem sa_t12E (t : Int32) (x : Nat → Int32) : t + sa_sgA (x 0) + sa_mj (x 0) (x 1) (x 2) = t + sa_t2 x := Int32.add_assoc _ _ _
theorem sa_eN_S (W x : Nat → Int32) (i : Nat) : sa_eN W (i + 1) x = sa_rnd (sa_rk i) (W i) (sa_eN W i x) := rfl
theorem sa_dN_S (W x : Nat → Int32) {r : Nat} (h : r + 1 ≤ 64) : sa_dN W (64 - r) x = sa_drn (sa_rk r) (W r) (sa_dN W (64 - (r + 1)) x) := by
  have e : 64 - r = (64 - (r + 1)) + 1 := by omega
  have e2 : 63 - (64 - (r + 1)) = r := by omega
  rw [e]
  show sa_drn (sa_rk (63 - (64 - (r + 1)))) (W (63 - (64 - (r + 1)))) (sa_dN W (64 - (r + 1)) x) = _
  rw [e2]
set_option maxHeartbeats 4000000 in
set_option maxRecDepth 100000 in
/-- encryptBlock: its 64 rounds -/
theorem lp_enc {p : Program} {l : Launch} {e : Env} {R : Room} {s : State} {m : MethodId} {args : Array Value} {below : List Frame} {meth : Method} {c : Code} {Q : State → Prop} {A : Nat → Prop} {cells slots : Nat} {dC : Nat → ClassId} {dI : Nat → Nat → Nat} (eq qi qo qw qx tK : Nat) (ci co cw cx : ClassId) (b : Int32) (x y w : Nat → Int32) (hx : p.tables.exec = Jvm.exec) (hb : c.code = cX2_encryptBlock) (hml : c.maxLocals = 8) (hown : s.vm.findClass RX2 = some m.cls) (hts : ∀ w ∈ lw_all, w.before args s = true) (hA : ∀ q : Nat, s.heap.size ≤ q → A q) (hK : va_K (dC, dI) vwCl [(ci, .byte), (co, .byte), (cw, .int), (cx, .int)] s) (hEx : sx_St "Shacal2Engine" "K" tK sa_rk A s) :
    ∀ (n i : Nat), i ≤ 64 → 64 < i + n → ∀ (H : Heap) (locs : List Loc) (ls : Array Slot), va_P (dC, dI) vwCl [(eq, .inr (1, [.int b, .ref qw])), (qi, .inl (ci, 32, .inl (sa_bs x))), (qo, .inl (co, 32, .inl (sa_bs y))), (qw, .inl (cw, 64, .inl w)), (qx, .inl (cx, 8, .inl (sa_eN w i x)))] H → va_D A [(eq, .inr (1, [.int b, .ref qw])), (qi, .inl (ci, 32, .inl (sa_bs x))), (qo, .inl (co, 32, .inl (sa_bs y))), (qw, .inl (cw, 64, .inl w)), (qx, .inl (cx, 8, .inl (sa_eN w i x)))] → va_S A s.heap H locs → lv_has ls 8 [(0, .ref eq), (3, .ref qo), (4, .int 0), (5, .ref qx), (6, .int (nI i))] → (∀ (H : Heap) (locs : List Loc) (ls : Array Slot), va_P (dC, dI) vwCl [(eq, .inr (1, [.int b, .ref qw])), (qi, .inl (ci, 32, .inl (sa_bs x))), (qo, .inl (co, 32, .inl (sa_bs y))), (qw, .inl (cw, 64, .inl w)), (qx, .inl (cx, 8, .inl (sa_eN w 64 x)))] H → va_D A [(eq, .inr (1, [.int b, .ref qw])), (qi, .inl (ci, 32, .inl (sa_bs x))), (qo, .inl (co, 32, .inl (sa_bs y))), (qw, .inl (cw, 64, .inl w)), (qx, .inl (cx, 8, .inl (sa_eN w 64 x)))] → va_S A s.heap H locs → lv_has ls 8 [(0, .ref eq), (3, .ref qo), (4, .int 0), (5, .ref qx), (6, .int (nI 64))] → W p l e R s m args below meth c H locs cells slots Q (F0 m 269 ls [])) → W p l e R s m args below meth c H locs cells slots Q (F0 m 18 ls []) := by
  intro n
  induction n with
  | zero =>
    intro i h1 h2
    exact absurd h2 (by omega)
  | succ n ih =>
    intro i hi hi2 H locs ls hP hD hS hl kk
    refine lv_iload hx hb dX2_encryptBlock_18 (lv_at hl 4 rfl) ?_
    refine lv_bipush (v := 64) hx hb dX2_encryptBlock_20 (by decide) ?_
    refine lv_icmp_ge (tgt := 269) hx hb dX2_encryptBlock_22 (by decide) (fun hc => ?_) (fun hc => ?_)
    · have hc2 := (nI_leI (a := 64) (b := i) (by decide) (by omega)).mp hc
      obtain rfl : i = 64 := by omega
      exact kk H locs ls hP hD hS hl
    · have hlt : i < 64 := Nat.lt_of_not_le fun q => hc ((nI_leI (a := 64) (b := i) (by decide) (by omega)).mpr q)
      obtain ⟨z, hz⟩ : ∃ z, z = sa_eN w i x := ⟨_, rfl⟩
      rw [← hz] at hP hD
      have hP : va_P (dC, dI) vwCl [(eq, .inr (1, [.int b, .ref qw])), (qi, .inl (ci, 32, .inl (sa_bs x))), (qo, .inl (co, 32, .inl (sa_bs y))), (qw, .inl (cw, 64, .inl w)), (qx, .inl (cx, 8, .inl z))] H := hP
      have hD : va_D A [(eq, .inr (1, [.int b, .ref qw])), (qi, .inl (ci, 32, .inl (sa_bs x))), (qo, .inl (co, 32, .inl (sa_bs y))), (qw, .inl (cw, 64, .inl w)), (qx, .inl (cx, 8, .inl z))] := hD
      refine lv_aload hx hb dX2_encryptBlock_25 (lv_at hl 3 rfl) ?_
      refine lv_iconst (v := 4) hx hb dX2_encryptBlock_27 (by decide) ?_
      refine sx_iald (v := z 4) hx hb hK hP 4 3 rfl rfl 4 (by decide) (by decide) (by decide) rfl dX2_encryptBlock_28 ?_
      refine lv_bipush (v := 6) hx hb dX2_encryptBlock_29 (by decide) ?_
      refine lv_iushr (v := sa_usr (z 4) 6) hx hb dX2_encryptBlock_31 rfl ?_
      refine lv_aload hx hb dX2_encryptBlock_32 (lv_at hl 3 rfl) ?_
      refine lv_iconst (v := 4) hx hb dX2_encryptBlock_34 (by decide) ?_
      refine sx_iald (v := z 4) hx hb hK hP 4 3 rfl rfl 4 (by decide) (by decide) (by decide) rfl dX2_encryptBlock_35 ?_
      refine lv_bipush (v := (-6)) hx hb dX2_encryptBlock_36 (by decide) ?_
      refine lv_ishl hx hb dX2_encryptBlock_38 ?_
      refine lv_ior hx hb dX2_encryptBlock_39 ?_
      refine sx_top (v := sa_ror (z 4) 6) (sa_rorE (z 4) 6 (-6) (by decide)) ?_
      refine lv_aload hx hb dX2_encryptBlock_40 (lv_at hl 3 rfl) ?_
      refine lv_iconst (v := 4) hx hb dX2_encryptBlock_42 (by decide) ?_
      refine sx_iald (v := z 4) hx hb hK hP 4 3 rfl rfl 4 (by decide) (by decide) (by decide) rfl dX2_encryptBlock_43 ?_
      refine lv_bipush (v := 11) hx hb dX2_encryptBlock_44 (by decide) ?_
      refine lv_iushr (v := sa_usr (z 4) 11) hx hb dX2_encryptBlock_46 rfl ?_
      refine lv_aload hx hb dX2_encryptBlock_47 (lv_at hl 3 rfl) ?_
      refine lv_iconst (v := 4) hx hb dX2_encryptBlock_49 (by decide) ?_
      refine sx_iald (v := z 4) hx hb hK hP 4 3 rfl rfl 4 (by decide) (by decide) (by decide) rfl dX2_encryptBlock_50 ?_
      refine lv_bipush (v := (-11)) hx hb dX2_encryptBlock_51 (by decide) ?_
      refine lv_ishl hx hb dX2_encryptBlock_53 ?_
      refine lv_ior hx hb dX2_encryptBlock_54 ?_
      refine sx_top (v := sa_ror (z 4) 11) (sa_rorE (z 4) 11 (-11) (by decide)) ?_
      refine lv_ixor hx hb dX2_encryptBlock_55 ?_
      refine lv_aload hx hb dX2_encryptBlock_56 (lv_at hl 3 rfl) ?_
      refine lv_iconst (v := 4) hx hb dX2_encryptBlock_58 (by decide) ?_
      refine sx_iald (v := z 4) hx hb hK hP 4 3 rfl rfl 4 (by decide) (by decide) (by decide) rfl dX2_encryptBlock_59 ?_
      refine lv_bipush (v := 25) hx hb dX2_encryptBlock_60 (by decide) ?_
      refine lv_iushr (v := sa_usr (z 4) 25) hx hb dX2_encryptBlock_62 rfl ?_
      refine lv_aload hx hb dX2_encryptBlock_63 (lv_at hl 3 rfl) ?_
      refine lv_iconst (v := 4) hx hb dX2_encryptBlock_65 (by decide) ?_
      refine sx_iald (v := z 4) hx hb hK hP 4 3 rfl rfl 4 (by decide) (by decide) (by decide) rfl dX2_encryptBlock_66 ?_
      refine lv_bipush (v := (-25)) hx hb dX2_encryptBlock_67 (by decide) ?_
      refine lv_ishl hx hb dX2_encryptBlock_69 ?_
      refine lv_ior hx hb dX2_encryptBlock_70 ?_
      refine sx_top (v := sa_ror (z 4) 25) (sa_rorE (z 4) 25 (-25) (by decide)) ?_
      refine lv_ixor hx hb dX2_encryptBlock_71 ?_
      refine lv_aload hx hb dX2_encryptBlock_72 (lv_at hl 3 rfl) ?_
      refine lv_iconst (v := 4) hx hb dX2_encryptBlock_74 (by decide) ?_
      refine sx_iald (v := z 4) hx hb hK hP 4 3 rfl rfl 4 (by decide) (by decide) (by decide) rfl dX2_encryptBlock_75 ?_
      refine lv_aload hx hb dX2_encryptBlock_76 (lv_at hl 3 rfl) ?_
      refine lv_iconst (v := 5) hx hb dX2_encryptBlock_78 (by decide) ?_
      refine sx_iald (v := z 5) hx hb hK hP 4 3 rfl rfl 5 (by decide) (by decide) (by decide) rfl dX2_encryptBlock_79 ?_
      refine lv_iand hx hb dX2_encryptBlock_80 ?_
      refine lv_aload hx hb dX2_encryptBlock_81 (lv_at hl 3 rfl) ?_
      refine lv_iconst (v := 4) hx hb dX2_encryptBlock_83 (by decide) ?_
      refine sx_iald (v := z 4) hx hb hK hP 4 3 rfl rfl 4 (by decide) (by decide) (by decide) rfl dX2_encryptBlock_84 ?_
      refine lv_iconst (v := (-1)) hx hb dX2_encryptBlock_85 (by decide) ?_
      refine lv_ixor hx hb dX2_encryptBlock_86 ?_
      refine lv_aload hx hb dX2_encryptBlock_87 (lv_at hl 3 rfl) ?_
      refine lv_bipush (v := 6) hx hb dX2_encryptBlock_89 (by decide) ?_
      refine sx_iald (v := z 6) hx hb hK hP 4 3 rfl rfl 6 (by decide) (by decide) (by decide) rfl dX2_encryptBlock_91 ?_
      refine lv_iand hx hb dX2_encryptBlock_92 ?_
      refine lv_ixor hx hb dX2_encryptBlock_93 ?_
      refine lv_iadd hx hb dX2_encryptBlock_94 ?_
      refine lv_aload hx hb dX2_encryptBlock_95 (lv_at hl 3 rfl) ?_
      refine lv_bipush (v := 7) hx hb dX2_encryptBlock_97 (by decide) ?_
      refine sx_iald (v := z 7) hx hb hK hP 4 3 rfl rfl 7 (by decide) (by decide) (by decide) rfl dX2_encryptBlock_99 ?_
      refine lv_iadd hx hb dX2_encryptBlock_100 ?_
      refine va_gets (v := .ref tK) hx hb hEx.1 hS hown (hts _ q242) (fun _ h9 => h9) dX2_encryptBlock_101 ?_
      refine lv_iload hx hb dX2_encryptBlock_104 (lv_at hl 4 rfl) ?_
      refine va_ti hx hb hEx.2 hS (vp_in_nI (n := i) (by omega) (by decide)) (v := .int (sa_rk i)) (by show Value.int (sa_rk (nI i).toNatClampNeg) = _; rw [nI_clamp (by omega)]) dX2_encryptBlock_106 ?_
      refine lv_iadd hx hb dX2_encryptBlock_107 ?_
      refine lv_aload_n hx hb dX2_encryptBlock_108 rfl (lv_at hl 0 rfl) ?_
      refine va_get (D := (dC, dI)) (ci := 1) (v := .ref qw) (C := RX2) (T := TX2) (N := 2) hx hb hts in_X2 hown hK hP 0 rfl rfl 1 (by decide) (hts _ q54) (fun _ h9 => h9) rfl dX2_encryptBlock_109 ?_
      refine lv_iload hx hb dX2_encryptBlock_112 (lv_at hl 4 rfl) ?_
      refine sx_iald (v := w i) hx hb hK hP 3 2 rfl rfl i rfl (by omega) (by decide) rfl dX2_encryptBlock_114 ?_
      refine lv_iadd hx hb dX2_encryptBlock_115 ?_
      refine sx_top (v := sa_t1 (sa_rk i) (w i) z) (sa_t1E (sa_rk i) (w i) z) ?_
      refine lv_istore (lv' := [(7, .int (sa_t1 (sa_rk i) (w i) z)), (0, .ref eq), (3, .ref qo), (4, .int 0), (5, .ref qx), (6, .int (nI i))]) hx hb dX2_encryptBlock_116 hl (by decide) rfl (fun ls hl => ?_)
      refine lv_aload hx hb dX2_encryptBlock_118 (lv_at hl 4 rfl) ?_
      refine lv_bipush (v := 7) hx hb dX2_encryptBlock_120 (by decide) ?_
      refine lv_aload hx hb dX2_encryptBlock_122 (lv_at hl 4 rfl) ?_
      refine lv_bipush (v := 6) hx hb dX2_encryptBlock_124 (by decide) ?_
      refine sx_iald (v := z 6) hx hb hK hP 4 3 rfl rfl 6 (by decide) (by decide) (by decide) rfl dX2_encryptBlock_126 ?_
      refine sx_iast (g := upd z 7 (z 6)) hx hb hK hP hD hS 4 3 rfl rfl 7 (by decide) (by decide) (by decide) (fun _ _ => rfl) dX2_encryptBlock_127 (fun H locs hP hD hS => ?_)
      have hP : va_P (dC, dI) vwCl [(eq, .inr (1, [.int b, .ref qw])), (qi, .inl (ci, 32, .inl (sa_bs x))), (qo, .inl (co, 32, .inl (sa_bs y))), (qw, .inl (cw, 64, .inl w)), (qx, .inl (cx, 8, .inl (upd z 7 (z 6))))] H := hP
      have hD : va_D A [(eq, .inr (1, [.int b, .ref qw])), (qi, .inl (ci, 32, .inl (sa_bs x))), (qo, .inl (co, 32, .inl (sa_bs y))), (qw, .inl (cw, 64, .inl w)), (qx, .inl (cx, 8, .inl (upd z 7 (z 6))))] := hD
      refine lv_aload hx hb dX2_encryptBlock_128 (lv_at hl 4 rfl) ?_
      refine lv_bipush (v := 6) hx hb dX2_encryptBlock_130 (by decide) ?_
      refine lv_aload hx hb dX2_encryptBlock_132 (lv_at hl 4 rfl) ?_
      refine lv_iconst (v := 5) hx hb dX2_encryptBlock_134 (by decide) ?_
      refine sx_iald (v := z 5) hx hb hK hP 4 3 rfl rfl 5 (by decide) (by decide) (by decide) rfl dX2_encryptBlock_135 ?_
      refine sx_iast (g := upd (upd z 7 (z 6)) 6 (z 5)) hx hb hK hP hD hS 4 3 rfl rfl 6 (by decide) (by decide) (by decide) (fun _ _ => rfl) dX2_encryptBlock_136 (fun H locs hP hD hS => ?_)
      have hP : va_P (dC, dI) vwCl [(eq, .inr (1, [.int b, .ref qw])), (qi, .inl (ci, 32, .inl (sa_bs x))), (qo, .inl (co, 32, .inl (sa_bs y))), (qw, .inl (cw, 64, .inl w)), (qx, .inl (cx, 8, .inl (upd (upd z 7 (z 6)) 6 (z 5))))] H := hP
      have hD : va_D A [(eq, .inr (1, [.int b, .ref qw])), (qi, .inl (ci, 32, .inl (sa_bs x))), (qo, .inl (co, 32, .inl (sa_bs y))), (qw, .inl (cw, 64, .inl w)), (qx, .inl (cx, 8, .inl (upd (upd z 7 (z 6)) 6 (z 5))))] := hD
      refine lv_aload hx hb dX2_encryptBlock_137 (lv_at hl 4 rfl) ?_
      refine lv_iconst (v := 5) hx hb dX2_encryptBlock_139 (by decide) ?_
      refine lv_aload hx hb dX2_encryptBlock_140 (lv_at hl 4 rfl) ?_
      refine lv_iconst (v := 4) hx hb dX2_encryptBlock_142 (by decide) ?_
      refine sx_iald (v := z 4) hx hb hK hP 4 3 rfl rfl 4 (by decide) (by decide) (by decide) rfl dX2_encryptBlock_143 ?_
      refine sx_iast (g := upd (upd (upd z 7 (z 6)) 6 (z 5)) 5 (z 4)) hx hb hK hP hD hS 4 3 rfl rfl 5 (by decide) (by decide) (by decide) (fun _ _ => rfl) dX2_encryptBlock_144 (fun H locs hP hD hS => ?_)
      have hP : va_P (dC, dI) vwCl [(eq, .inr (1, [.int b, .ref qw])), (qi, .inl (ci, 32, .inl (sa_bs x))), (qo, .inl (co, 32, .inl (sa_bs y))), (qw, .inl (cw, 64, .inl w)), (qx, .inl (cx, 8, .inl (upd (upd (upd z 7 (z 6)) 6 (z 5)) 5 (z 4))))] H := hP
      have hD : va_D A [(eq, .inr (1, [.int b, .ref qw])), (qi, .inl (ci, 32, .inl (sa_bs x))), (qo, .inl (co, 32, .inl (sa_bs y))), (qw, .inl (cw, 64, .inl w)), (qx, .inl (cx, 8, .inl (upd (upd (upd z 7 (z 6)) 6 (z 5)) 5 (z 4))))] := hD
      refine lv_aload hx hb dX2_encryptBlock_145 (lv_at hl 4 rfl) ?_
      refine lv_iconst (v := 4) hx hb dX2_encryptBlock_147 (by decide) ?_
      refine lv_aload hx hb dX2_encryptBlock_148 (lv_at hl 4 rfl) ?_
      refine lv_iconst (v := 3) hx hb dX2_encryptBlock_150 (by decide) ?_
      refine sx_iald (v := z 3) hx hb hK hP 4 3 rfl rfl 3 (by decide) (by decide) (by decide) rfl dX2_encryptBlock_151 ?_
      refine lv_iload hx hb dX2_encryptBlock_152 (lv_at hl 0 rfl) ?_
      refine lv_iadd hx hb dX2_encryptBlock_154 ?_
      refine sx_iast (g := upd (upd (upd (upd z 7 (z 6)) 6 (z 5)) 5 (z 4)) 4 ((z 3) + (sa_t1 (sa_rk i) (w i) z))) hx hb hK hP hD hS 4 3 rfl rfl 4 (by decide) (by decide) (by decide) (fun _ _ => rfl) dX2_encryptBlock_155 (fun H locs hP hD hS => ?_)
      have hP : va_P (dC, dI) vwCl [(eq, .inr (1, [.int b, .ref qw])), (qi, .inl (ci, 32, .inl (sa_bs x))), (qo, .inl (co, 32, .inl (sa_bs y))), (qw, .inl (cw, 64, .inl w)), (qx, .inl (cx, 8, .inl (upd (upd (upd (upd z 7 (z 6)) 6 (z 5)) 5 (z 4)) 4 ((z 3) + (sa_t1 (sa_rk i) (w i) z)))))] H := hP
      have hD : va_D A [(eq, .inr (1, [.int b, .ref qw])), (qi, .inl (ci, 32, .inl (sa_bs x))), (qo, .inl (co, 32, .inl (sa_bs y))), (qw, .inl (cw, 64, .inl w)), (qx, .inl (cx, 8, .inl (upd (upd (upd (upd z 7 (z 6)) 6 (z 5)) 5 (z 4)) 4 ((z 3) + (sa_t1 (sa_rk i) (w i) z)))))] := hD
      refine lv_aload hx hb dX2_encryptBlock_156 (lv_at hl 4 rfl) ?_
      refine lv_iconst (v := 3) hx hb dX2_encryptBlock_158 (by decide) ?_
      refine lv_aload hx hb dX2_encryptBlock_159 (lv_at hl 4 rfl) ?_
      refine lv_iconst (v := 2) hx hb dX2_encryptBlock_161 (by decide) ?_
      refine sx_iald (v := z 2) hx hb hK hP 4 3 rfl rfl 2 (by decide) (by decide) (by decide) rfl dX2_encryptBlock_162 ?_
      refine sx_iast (g := upd (upd (upd (upd (upd z 7 (z 6)) 6 (z 5)) 5 (z 4)) 4 ((z 3) + (sa_t1 (sa_rk i) (w i) z))) 3 (z 2)) hx hb hK hP hD hS 4 3 rfl rfl 3 (by decide) (by decide) (by decide) (fun _ _ => rfl) dX2_encryptBlock_163 (fun H locs hP hD hS => ?_)
      have hP : va_P (dC, dI) vwCl [(eq, .inr (1, [.int b, .ref qw])), (qi, .inl (ci, 32, .inl (sa_bs x))), (qo, .inl (co, 32, .inl (sa_bs y))), (qw, .inl (cw, 64, .inl w)), (qx, .inl (cx, 8, .inl (upd (upd (upd (upd (upd z 7 (z 6)) 6 (z 5)) 5 (z 4)) 4 ((z 3) + (sa_t1 (sa_rk i) (w i) z))) 3 (z 2))))] H := hP
      have hD : va_D A [(eq, .inr (1, [.int b, .ref qw])), (qi, .inl (ci, 32, .inl (sa_bs x))), (qo, .inl (co, 32, .inl (sa_bs y))), (qw, .inl (cw, 64, .inl w)), (qx, .inl (cx, 8, .inl (upd (upd (upd (upd (upd z 7 (z 6)) 6 (z 5)) 5 (z 4)) 4 ((z 3) + (sa_t1 (sa_rk i) (w i) z))) 3 (z 2))))] := hD
      refine lv_aload hx hb dX2_encryptBlock_164 (lv_at hl 4 rfl) ?_
      refine lv_iconst (v := 2) hx hb dX2_encryptBlock_166 (by decide) ?_
      refine lv_aload hx hb dX2_encryptBlock_167 (lv_at hl 4 rfl) ?_
      refine lv_iconst (v := 1) hx hb dX2_encryptBlock_169 (by decide) ?_
      refine sx_iald (v := z 1) hx hb hK hP 4 3 rfl rfl 1 (by decide) (by decide) (by decide) rfl dX2_encryptBlock_170 ?_
      refine sx_iast (g := upd (upd (upd (upd (upd (upd z 7 (z 6)) 6 (z 5)) 5 (z 4)) 4 ((z 3) + (sa_t1 (sa_rk i) (w i) z))) 3 (z 2)) 2 (z 1)) hx hb hK hP hD hS 4 3 rfl rfl 2 (by decide) (by decide) (by decide) (fun _ _ => rfl) dX2_encryptBlock_171 (fun H locs hP hD hS => ?_)
      have hP : va_P (dC, dI) vwCl [(eq, .inr (1, [.int b, .ref qw])), (qi, .inl (ci, 32, .inl (sa_bs x))), (qo, .inl (co, 32, .inl (sa_bs y))), (qw, .inl (cw, 64, .inl w)), (qx, .inl (cx, 8, .inl (upd (upd (upd (upd (upd (upd z 7 (z 6)) 6 (z 5)) 5 (z 4)) 4 ((z 3) + (sa_t1 (sa_rk i) (w i) z))) 3 (z 2)) 2 (z 1))))] H := hP
      have hD : va_D A [(eq, .inr (1, [.int b, .ref qw])), (qi, .inl (ci, 32, .inl (sa_bs x))), (qo, .inl (co, 32, .inl (sa_bs y))), (qw, .inl (cw, 64, .inl w)), (qx, .inl (cx, 8, .inl (upd (upd (upd (upd (upd (upd z 7 (z 6)) 6 (z 5)) 5 (z 4)) 4 ((z 3) + (sa_t1 (sa_rk i) (w i) z))) 3 (z 2)) 2 (z 1))))] := hD
      refine lv_aload hx hb dX2_encryptBlock_172 (lv_at hl 4 rfl) ?_
      refine lv_iconst (v := 1) hx hb dX2_encryptBlock_174 (by decide) ?_
      refine lv_aload hx hb dX2_encryptBlock_175 (lv_at hl 4 rfl) ?_
      refine lv_iconst (v := 0) hx hb dX2_encryptBlock_177 (by decide) ?_
      refine sx_iald (v := z 0) hx hb hK hP 4 3 rfl rfl 0 (by decide) (by decide) (by decide) rfl dX2_encryptBlock_178 ?_
      refine sx_iast (g := upd (upd (upd (upd (upd (upd (upd z 7 (z 6)) 6 (z 5)) 5 (z 4)) 4 ((z 3) + (sa_t1 (sa_rk i) (w i) z))) 3 (z 2)) 2 (z 1)) 1 (z 0)) hx hb hK hP hD hS 4 3 rfl rfl 1 (by decide) (by decide) (by decide) (fun _ _ => rfl) dX2_encryptBlock_179 (fun H locs hP hD hS => ?_)
      have hP : va_P (dC, dI) vwCl [(eq, .inr (1, [.int b, .ref qw])), (qi, .inl (ci, 32, .inl (sa_bs x))), (qo, .inl (co, 32, .inl (sa_bs y))), (qw, .inl (cw, 64, .inl w)), (qx, .inl (cx, 8, .inl (upd (upd (upd (upd (upd (upd (upd z 7 (z 6)) 6 (z 5)) 5 (z 4)) 4 ((z 3) + (sa_t1 (sa_rk i) (w i) z))) 3 (z 2)) 2 (z 1)) 1 (z 0))))] H := hP
      have hD : va_D A [(eq, .inr (1, [.int b, .ref qw])), (qi, .inl (ci, 32, .inl (sa_bs x))), (qo, .inl (co, 32, .inl (sa_bs y))), (qw, .inl (cw, 64, .inl w)), (qx, .inl (cx, 8, .inl (upd (upd (upd (upd (upd (upd (upd z 7 (z 6)) 6 (z 5)) 5 (z 4)) 4 ((z 3) + (sa_t1 (sa_rk i) (w i) z))) 3 (z 2)) 2 (z 1)) 1 (z 0))))] := hD
      refine lv_aload hx hb dX2_encryptBlock_180 (lv_at hl 4 rfl) ?_
      refine lv_iconst (v := 0) hx hb dX2_encryptBlock_182 (by decide) ?_
      refine lv_iload hx hb dX2_encryptBlock_183 (lv_at hl 0 rfl) ?_
      refine lv_aload hx hb dX2_encryptBlock_185 (lv_at hl 4 rfl) ?_
      refine lv_iconst (v := 0) hx hb dX2_encryptBlock_187 (by decide) ?_
      refine sx_iald (v := z 0) hx hb hK hP 4 3 rfl rfl 0 (by decide) (by decide) (by decide) rfl dX2_encryptBlock_188 ?_
      refine lv_iconst (v := 2) hx hb dX2_encryptBlock_189 (by decide) ?_
      refine lv_iushr (v := sa_usr (z 0) 2) hx hb dX2_encryptBlock_190 rfl ?_
      refine lv_aload hx hb dX2_encryptBlock_191 (lv_at hl 4 rfl) ?_
      refine lv_iconst (v := 0) hx hb dX2_encryptBlock_193 (by decide) ?_
      refine sx_iald (v := z 0) hx hb hK hP 4 3 rfl rfl 0 (by decide) (by decide) (by decide) rfl dX2_encryptBlock_194 ?_
      refine lv_bipush (v := (-2)) hx hb dX2_encryptBlock_195 (by decide) ?_
      refine lv_ishl hx hb dX2_encryptBlock_197 ?_
      refine lv_ior hx hb dX2_encryptBlock_198 ?_
      refine sx_top (v := sa_ror (z 0) 2) (sa_rorE (z 0) 2 (-2) (by decide)) ?_
      refine lv_aload hx hb dX2_encryptBlock_199 (lv_at hl 4 rfl) ?_
      refine lv_iconst (v := 0) hx hb dX2_encryptBlock_201 (by decide) ?_
      refine sx_iald (v := z 0) hx hb hK hP 4 3 rfl rfl 0 (by decide) (by decide) (by decide) rfl dX2_encryptBlock_202 ?_
      refine lv_bipush (v := 13) hx hb dX2_encryptBlock_203 (by decide) ?_
      refine lv_iushr (v := sa_usr (z 0) 13) hx hb dX2_encryptBlock_205 rfl ?_
      refine lv_aload hx hb dX2_encryptBlock_206 (lv_at hl 4 rfl) ?_
      refine lv_iconst (v := 0) hx hb dX2_encryptBlock_208 (by decide) ?_
      refine sx_iald (v := z 0) hx hb hK hP 4 3 rfl rfl 0 (by decide) (by decide) (by decide) rfl dX2_encryptBlock_209 ?_
      refine lv_bipush (v := (-13)) hx hb dX2_encryptBlock_210 (by decide) ?_
      refine lv_ishl hx hb dX2_encryptBlock_212 ?_
      refine lv_ior hx hb dX2_encryptBlock_213 ?_
      refine sx_top (v := sa_ror (z 0) 13) (sa_rorE (z 0) 13 (-13) (by decide)) ?_
      refine lv_ixor hx hb dX2_encryptBlock_214 ?_
      refine lv_aload hx hb dX2_encryptBlock_215 (lv_at hl 4 rfl) ?_
      refine lv_iconst (v := 0) hx hb dX2_encryptBlock_217 (by decide) ?_
      refine sx_iald (v := z 0) hx hb hK hP 4 3 rfl rfl 0 (by decide) (by decide) (by decide) rfl dX2_encryptBlock_218 ?_
      refine lv_bipush (v := 22) hx hb dX2_encryptBlock_219 (by decide) ?_
      refine lv_iushr (v := sa_usr (z 0) 22) hx hb dX2_encryptBlock_221 rfl ?_
      refine lv_aload hx hb dX2_encryptBlock_222 (lv_at hl 4 rfl) ?_
      refine lv_iconst (v := 0) hx hb dX2_encryptBlock_224 (by decide) ?_
      refine sx_iald (v := z 0) hx hb hK hP 4 3 rfl rfl 0 (by decide) (by decide) (by decide) rfl dX2_encryptBlock_225 ?_
      refine lv_bipush (v := (-22)) hx hb dX2_encryptBlock_226 (by decide) ?_
      refine lv_ishl hx hb dX2_encryptBlock_228 ?_
      refine lv_ior hx hb dX2_encryptBlock_229 ?_
      refine sx_top (v := sa_ror (z 0) 22) (sa_rorE (z 0) 22 (-22) (by decide)) ?_
      refine lv_ixor hx hb dX2_encryptBlock_230 ?_
      refine lv_iadd hx hb dX2_encryptBlock_231 ?_
      refine lv_aload hx hb dX2_encryptBlock_232 (lv_at hl 4 rfl) ?_
      refine lv_iconst (v := 0) hx hb dX2_encryptBlock_234 (by decide) ?_
      refine sx_iald (v := z 0) hx hb hK hP 4 3 rfl rfl 0 (by decide) (by decide) (by decide) rfl dX2_encryptBlock_235 ?_
      refine lv_aload hx hb dX2_encryptBlock_236 (lv_at hl 4 rfl) ?_
      refine lv_iconst (v := 2) hx hb dX2_encryptBlock_238 (by decide) ?_
      refine sx_iald (v := z 1) hx hb hK hP 4 3 rfl rfl 2 (by decide) (by decide) (by decide) rfl dX2_encryptBlock_239 ?_
      refine lv_iand hx hb dX2_encryptBlock_240 ?_
      refine lv_aload hx hb dX2_encryptBlock_241 (lv_at hl 4 rfl) ?_
      refine lv_iconst (v := 0) hx hb dX2_encryptBlock_243 (by decide) ?_
      refine sx_iald (v := z 0) hx hb hK hP 4 3 rfl rfl 0 (by decide) (by decide) (by decide) rfl dX2_encryptBlock_244 ?_
      refine lv_aload hx hb dX2_encryptBlock_245 (lv_at hl 4 rfl) ?_
      refine lv_iconst (v := 3) hx hb dX2_encryptBlock_247 (by decide) ?_
      refine sx_iald (v := z 2) hx hb hK hP 4 3 rfl rfl 3 (by decide) (by decide) (by decide) rfl dX2_encryptBlock_248 ?_
      refine lv_iand hx hb dX2_encryptBlock_249 ?_
      refine lv_ixor hx hb dX2_encryptBlock_250 ?_
      refine lv_aload hx hb dX2_encryptBlock_251 (lv_at hl 4 rfl) ?_
      refine lv_iconst (v := 2) hx hb dX2_encryptBlock_253 (by decide) ?_
      refine sx_iald (v := z 1) hx hb hK hP 4 3 rfl rfl 2 (by decide) (by decide) (by decide) rfl dX2_encryptBlock_254 ?_
      refine lv_aload hx hb dX2_encryptBlock_255 (lv_at hl 4 rfl) ?_
      refine lv_iconst (v := 3) hx hb dX2_encryptBlock_257 (by decide) ?_
      refine sx_iald (v := z 2) hx hb hK hP 4 3 rfl rfl 3 (by decide) (by decide) (by decide) rfl dX2_encryptBlock_258 ?_
      refine lv_iand hx hb dX2_encryptBlock_259 ?_
      refine lv_ixor hx hb dX2_encryptBlock_260 ?_
      refine lv_iadd hx hb dX2_encryptBlock_261 ?_
      refine sx_top (v := sa_t1 (sa_rk i) (w i) z + sa_t2 z) (sa_t12E _ z) ?_
      refine sx_iast (g := upd (upd (upd (upd (upd (upd (upd (upd z 7 (z 6)) 6 (z 5)) 5 (z 4)) 4 ((z 3) + (sa_t1 (sa_rk i) (w i) z))) 3 (z 2)) 2 (z 1)) 1 (z 0)) 0 (sa_t1 (sa_rk i) (w i) z + sa_t2 z)) hx hb hK hP hD hS 4 3 rfl rfl 0 (by decide) (by decide) (by decide) (fun _ _ => rfl) dX2_encryptBlock_262 (fun H locs hP hD hS => ?_)
      have hP : va_P (dC, dI) vwCl [(eq, .inr (1, [.int b, .ref qw])), (qi, .inl (ci, 32, .inl (sa_bs x))), (qo, .inl (co, 32, .inl (sa_bs y))), (qw, .inl (cw, 64, .inl w)), (qx, .inl (cx, 8, .inl (upd (upd (upd (upd (upd (upd (upd (upd z 7 (z 6)) 6 (z 5)) 5 (z 4)) 4 ((z 3) + (sa_t1 (sa_rk i) (w i) z))) 3 (z 2)) 2 (z 1)) 1 (z 0)) 0 (sa_t1 (sa_rk i) (w i) z + sa_t2 z))))] H := hP
      have hD : va_D A [(eq, .inr (1, [.int b, .ref qw])), (qi, .inl (ci, 32, .inl (sa_bs x))), (qo, .inl (co, 32, .inl (sa_bs y))), (qw, .inl (cw, 64, .inl w)), (qx, .inl (cx, 8, .inl (upd (upd (upd (upd (upd (upd (upd (upd z 7 (z 6)) 6 (z 5)) 5 (z 4)) 4 ((z 3) + (sa_t1 (sa_rk i) (w i) z))) 3 (z 2)) 2 (z 1)) 1 (z 0)) 0 (sa_t1 (sa_rk i) (w i) z + sa_t2 z))))] := hD
      have hP := sx_ext hP 4 (sa_eN w (i + 1) x) rfl (fun j hj => by rw [sa_eN_S, ← hz]; exact sa_e8_of (x := upd (upd (upd (upd (upd (upd (upd (upd z 7 (z 6)) 6 (z 5)) 5 (z 4)) 4 ((z 3) + (sa_t1 (sa_rk i) (w i) z))) 3 (z 2)) 2 (z 1)) 1 (z 0)) 0 (sa_t1 (sa_rk i) (w i) z + sa_t2 z)) (y := sa_rnd (sa_rk i) (w i) z) rfl rfl rfl rfl rfl rfl rfl rfl j hj)
      have hD := hD.set (p := 4) (a := qx) (e := .inl (cx, 8, .inl (sa_eN w (i + 1) x))) rfl
      have hP : va_P (dC, dI) vwCl [(eq, .inr (1, [.int b, .ref qw])), (qi, .inl (ci, 32, .inl (sa_bs x))), (qo, .inl (co, 32, .inl (sa_bs y))), (qw, .inl (cw, 64, .inl w)), (qx, .inl (cx, 8, .inl (sa_eN w (i + 1) x)))] H := hP
      have hD : va_D A [(eq, .inr (1, [.int b, .ref qw])), (qi, .inl (ci, 32, .inl (sa_bs x))), (qo, .inl (co, 32, .inl (sa_bs y))), (qw, .inl (cw, 64, .inl w)), (qx, .inl (cx, 8, .inl (sa_eN w (i + 1) x)))] := hD
      refine lv_iinc (v := nI (i + 1)) (lv' := [(6, .int (nI (i + 1))), (7, .int (sa_t1 (sa_rk i) (w i) z)), (0, .ref eq), (3, .ref qo), (4, .int 0), (5, .ref qx)]) hx hb dX2_encryptBlock_263 hl (k := 5) rfl (nI_1 i) (by decide) rfl (fun ls hl => ?_)
      refine lv_goto (tgt := 18) hx hb dX2_encryptBlock_266 (by decide) ?_
      exact ih (i + 1) (by omega) (by omega) H locs ls (hP.sub [0, 1, 2, 3, 4] rfl) (hD.sub [0, 1, 2, 3, 4] (by decide) rfl) hS (lv_sub hl [2, 3, 4, 5, 0] rfl) kk
theorem sa_nle {r : Nat} (h : r < 2 ^ 31) : ¬ nI r ≤ (-1 : Int32) := by
  intro q
  have h1 := Int32.le_iff_toInt_le.mp q
  rw [nI_toInt h] at h1
  have h2 : ((-1 : Int32)).toInt = -1 := by decide
  omega
theorem sa_m1 (x : Int32) : x + Int32.ofInt (-1) = x - 1 := by
  rw [Int32.sub_eq_add_neg]
  rfl
set_option maxHeartbeats 4000000 in
set_option maxRecDepth 100000 in
/-- decryptBlock: its 64 rounds -/
theorem lp_dec {p : Program} {l : Launch} {e : Env} {R : Room} {s : State} {m : MethodId} {args : Array Value} {below : List Frame} {meth : Method} {c : Code} {Q : State → Prop} {A : Nat → Prop} {cells slots : Nat} {dC : Nat → ClassId} {dI : Nat → Nat → Nat} (eq qi qo qw qx tK : Nat) (ci co cw cx : ClassId) (b : Int32) (x y w : Nat → Int32) (hx : p.tables.exec = Jvm.exec) (hb : c.code = cX2_decryptBlock) (hml : c.maxLocals = 8) (hown : s.vm.findClass RX2 = some m.cls) (hts : ∀ w ∈ lw_all, w.before args s = true) (hA : ∀ q : Nat, s.heap.size ≤ q → A q) (hK : va_K (dC, dI) vwCl [(ci, .byte), (co, .byte), (cw, .int), (cx, .int)] s) (hEx : sx_St "Shacal2Engine" "K" tK sa_rk A s) :
    ∀ (r : Nat), r ≤ 64 → ∀ (H : Heap) (locs : List Loc) (ls : Array Slot), va_P (dC, dI) vwCl [(eq, .inr (1, [.int b, .ref qw])), (qi, .inl (ci, 32, .inl (sa_bs x))), (qo, .inl (co, 32, .inl (sa_bs y))), (qw, .inl (cw, 64, .inl w)), (qx, .inl (cx, 8, .inl (sa_dN w (64 - r) x)))] H → va_D A [(eq, .inr (1, [.int b, .ref qw])), (qi, .inl (ci, 32, .inl (sa_bs x))), (qo, .inl (co, 32, .inl (sa_bs y))), (qw, .inl (cw, 64, .inl w)), (qx, .inl (cx, 8, .inl (sa_dN w (64 - r) x)))] → va_S A s.heap H locs → lv_has ls 8 [(0, .ref eq), (3, .ref qo), (4, .int 0), (5, .ref qx), (6, .int (nI r - 1))] → (∀ (H : Heap) (locs : List Loc) (ls : Array Slot), va_P (dC, dI) vwCl [(eq, .inr (1, [.int b, .ref qw])), (qi, .inl (ci, 32, .inl (sa_bs x))), (qo, .inl (co, 32, .inl (sa_bs y))), (qw, .inl (cw, 64, .inl w)), (qx, .inl (cx, 8, .inl (sa_dN w (64 - 0) x)))] H → va_D A [(eq, .inr (1, [.int b, .ref qw])), (qi, .inl (ci, 32, .inl (sa_bs x))), (qo, .inl (co, 32, .inl (sa_bs y))), (qw, .inl (cw, 64, .inl w)), (qx, .inl (cx, 8, .inl (sa_dN w (64 - 0) x)))] → va_S A s.heap H locs → lv_has ls 8 [(0, .ref eq), (3, .ref qo), (4, .int 0), (5, .ref qx), (6, .int (nI 0 - 1))] → W p l e R s m args below meth c H locs cells slots Q (F0 m 269 ls [])) → W p l e R s m args below meth c H locs cells slots Q (F0 m 19 ls []) := by
  intro r
  induction r with
  | zero =>
    intro hr H locs ls hP hD hS hl kk
    refine lv_iload hx hb dX2_decryptBlock_19 (lv_at hl 4 rfl) ?_
    refine lv_iconst (v := (-1)) hx hb dX2_decryptBlock_21 (by decide) ?_
    refine lv_icmp_le (tgt := 269) hx hb dX2_decryptBlock_22 (by decide) (fun hc => ?_) (fun hc => absurd (by decide) hc)
    exact kk H locs ls hP hD hS hl
  | succ r ih =>
    intro hr H locs ls hP hD hS hl kk
    have hl : lv_has ls 8 [(0, .ref eq), (3, .ref qo), (4, .int 0), (5, .ref qx), (6, .int (nI r))] := by rw [nI_pred] at hl; exact hl
    refine lv_iload hx hb dX2_decryptBlock_19 (lv_at hl 4 rfl) ?_
    refine lv_iconst (v := (-1)) hx hb dX2_decryptBlock_21 (by decide) ?_
    refine lv_icmp_le (tgt := 269) hx hb dX2_decryptBlock_22 (by decide) (fun hc => absurd hc (sa_nle (by omega))) (fun hc => ?_)
    have hlt : r < 64 := by omega
    obtain ⟨z, hz⟩ : ∃ z, z = sa_dN w (64 - (r + 1)) x := ⟨_, rfl⟩
    rw [← hz] at hP hD
    have hP : va_P (dC, dI) vwCl [(eq, .inr (1, [.int b, .ref qw])), (qi, .inl (ci, 32, .inl (sa_bs x))), (qo, .inl (co, 32, .inl (sa_bs y))), (qw, .inl (cw, 64, .inl w)), (qx, .inl (cx, 8, .inl z))] H := hP
    have hD : va_D A [(eq, .inr (1, [.int b, .ref qw])), (qi, .inl (ci, 32, .inl (sa_bs x))), (qo, .inl (co, 32, .inl (sa_bs y))), (qw, .inl (cw, 64, .inl w)), (qx, .inl (cx, 8, .inl z))] := hD
    refine lv_aload hx hb dX2_decryptBlock_25 (lv_at hl 3 rfl) ?_
    refine lv_iconst (v := 0) hx hb dX2_decryptBlock_27 (by decide) ?_
    refine sx_iald (v := z 0) hx hb hK hP 4 3 rfl rfl 0 (by decide) (by decide) (by decide) rfl dX2_decryptBlock_28 ?_
    refine lv_aload hx hb dX2_decryptBlock_29 (lv_at hl 3 rfl) ?_
    refine lv_iconst (v := 1) hx hb dX2_decryptBlock_31 (by decide) ?_
    refine sx_iald (v := z 1) hx hb hK hP 4 3 rfl rfl 1 (by decide) (by decide) (by decide) rfl dX2_decryptBlock_32 ?_
    refine lv_iconst (v := 2) hx hb dX2_decryptBlock_33 (by decide) ?_
    refine lv_iushr (v := sa_usr (z 1) 2) hx hb dX2_decryptBlock_34 rfl ?_
    refine lv_aload hx hb dX2_decryptBlock_35 (lv_at hl 3 rfl) ?_
    refine lv_iconst (v := 1) hx hb dX2_decryptBlock_37 (by decide) ?_
    refine sx_iald (v := z 1) hx hb hK hP 4 3 rfl rfl 1 (by decide) (by decide) (by decide) rfl dX2_decryptBlock_38 ?_
    refine lv_bipush (v := (-2)) hx hb dX2_decryptBlock_39 (by decide) ?_
    refine lv_ishl hx hb dX2_decryptBlock_41 ?_
    refine lv_ior hx hb dX2_decryptBlock_42 ?_
    refine sx_top (v := sa_ror (z 1) 2) (sa_rorE (z 1) 2 (-2) (by decide)) ?_
    refine lv_aload hx hb dX2_decryptBlock_43 (lv_at hl 3 rfl) ?_
    refine lv_iconst (v := 1) hx hb dX2_decryptBlock_45 (by decide) ?_
    refine sx_iald (v := z 1) hx hb hK hP 4 3 rfl rfl 1 (by decide) (by decide) (by decide) rfl dX2_decryptBlock_46 ?_
    refine lv_bipush (v := 13) hx hb dX2_decryptBlock_47 (by decide) ?_
    refine lv_iushr (v := sa_usr (z 1) 13) hx hb dX2_decryptBlock_49 rfl ?_
    refine lv_aload hx hb dX2_decryptBlock_50 (lv_at hl 3 rfl) ?_
    refine lv_iconst (v := 1) hx hb dX2_decryptBlock_52 (by decide) ?_
    refine sx_iald (v := z 1) hx hb hK hP 4 3 rfl rfl 1 (by decide) (by decide) (by decide) rfl dX2_decryptBlock_53 ?_
    refine lv_bipush (v := (-13)) hx hb dX2_decryptBlock_54 (by decide) ?_
    refine lv_ishl hx hb dX2_decryptBlock_56 ?_
    refine lv_ior hx hb dX2_decryptBlock_57 ?_
    refine sx_top (v := sa_ror (z 1) 13) (sa_rorE (z 1) 13 (-13) (by decide)) ?_
    refine lv_ixor hx hb dX2_decryptBlock_58 ?_
    refine lv_aload hx hb dX2_decryptBlock_59 (lv_at hl 3 rfl) ?_
    refine lv_iconst (v := 1) hx hb dX2_decryptBlock_61 (by decide) ?_
    refine sx_iald (v := z 1) hx hb hK hP 4 3 rfl rfl 1 (by decide) (by decide) (by decide) rfl dX2_decryptBlock_62 ?_
    refine lv_bipush (v := 22) hx hb dX2_decryptBlock_63 (by decide) ?_
    refine lv_iushr (v := sa_usr (z 1) 22) hx hb dX2_decryptBlock_65 rfl ?_
    refine lv_aload hx hb dX2_decryptBlock_66 (lv_at hl 3 rfl) ?_
    refine lv_iconst (v := 1) hx hb dX2_decryptBlock_68 (by decide) ?_
    refine sx_iald (v := z 1) hx hb hK hP 4 3 rfl rfl 1 (by decide) (by decide) (by decide) rfl dX2_decryptBlock_69 ?_
    refine lv_bipush (v := (-22)) hx hb dX2_decryptBlock_70 (by decide) ?_
    refine lv_ishl hx hb dX2_decryptBlock_72 ?_
    refine lv_ior hx hb dX2_decryptBlock_73 ?_
    refine sx_top (v := sa_ror (z 1) 22) (sa_rorE (z 1) 22 (-22) (by decide)) ?_
    refine lv_ixor hx hb dX2_decryptBlock_74 ?_
    refine lv_isub hx hb dX2_decryptBlock_75 ?_
    refine lv_aload hx hb dX2_decryptBlock_76 (lv_at hl 3 rfl) ?_
    refine lv_iconst (v := 1) hx hb dX2_decryptBlock_78 (by decide) ?_
    refine sx_iald (v := z 1) hx hb hK hP 4 3 rfl rfl 1 (by decide) (by decide) (by decide) rfl dX2_decryptBlock_79 ?_
    refine lv_aload hx hb dX2_decryptBlock_80 (lv_at hl 3 rfl) ?_
    refine lv_iconst (v := 2) hx hb dX2_decryptBlock_82 (by decide) ?_
    refine sx_iald (v := z 2) hx hb hK hP 4 3 rfl rfl 2 (by decide) (by decide) (by decide) rfl dX2_decryptBlock_83 ?_
    refine lv_iand hx hb dX2_decryptBlock_84 ?_
    refine lv_aload hx hb dX2_decryptBlock_85 (lv_at hl 3 rfl) ?_
    refine lv_iconst (v := 1) hx hb dX2_decryptBlock_87 (by decide) ?_
    refine sx_iald (v := z 1) hx hb hK hP 4 3 rfl rfl 1 (by decide) (by decide) (by decide) rfl dX2_decryptBlock_88 ?_
    refine lv_aload hx hb dX2_decryptBlock_89 (lv_at hl 3 rfl) ?_
    refine lv_iconst (v := 3) hx hb dX2_decryptBlock_91 (by decide) ?_
    refine sx_iald (v := z 3) hx hb hK hP 4 3 rfl rfl 3 (by decide) (by decide) (by decide) rfl dX2_decryptBlock_92 ?_
    refine lv_iand hx hb dX2_decryptBlock_93 ?_
    refine lv_ixor hx hb dX2_decryptBlock_94 ?_
    refine lv_aload hx hb dX2_decryptBlock_95 (lv_at hl 3 rfl) ?_
    refine lv_iconst (v := 2) hx hb dX2_decryptBlock_97 (by decide) ?_
    refine sx_iald (v := z 2) hx hb hK hP 4 3 rfl rfl 2 (by decide) (by decide) (by decide) rfl dX2_decryptBlock_98 ?_
    refine lv_aload hx hb dX2_decryptBlock_99 (lv_at hl 3 rfl) ?_
    refine lv_iconst (v := 3) hx hb dX2_decryptBlock_101 (by decide) ?_
    refine sx_iald (v := z 3) hx hb hK hP 4 3 rfl rfl 3 (by decide) (by decide) (by decide) rfl dX2_decryptBlock_102 ?_
    refine lv_iand hx hb dX2_decryptBlock_103 ?_
    refine lv_ixor hx hb dX2_decryptBlock_104 ?_
    refine lv_isub hx hb dX2_decryptBlock_105 ?_
    refine sx_top (v := sa_u1 z) (rfl) ?_
    refine lv_istore (lv' := [(7, .int (sa_u1 z)), (0, .ref eq), (3, .ref qo), (4, .int 0), (5, .ref qx), (6, .int (nI r))]) hx hb dX2_decryptBlock_106 hl (by decide) rfl (fun ls hl => ?_)
    refine lv_aload hx hb dX2_decryptBlock_108 (lv_at hl 4 rfl) ?_
    refine lv_iconst (v := 0) hx hb dX2_decryptBlock_110 (by decide) ?_
    refine lv_aload hx hb dX2_decryptBlock_111 (lv_at hl 4 rfl) ?_
    refine lv_iconst (v := 1) hx hb dX2_decryptBlock_113 (by decide) ?_
    refine sx_iald (v := z 1) hx hb hK hP 4 3 rfl rfl 1 (by decide) (by decide) (by decide) rfl dX2_decryptBlock_114 ?_
    refine sx_iast (g := upd z 0 (z 1)) hx hb hK hP hD hS 4 3 rfl rfl 0 (by decide) (by decide) (by decide) (fun _ _ => rfl) dX2_decryptBlock_115 (fun H locs hP hD hS => ?_)
    have hP : va_P (dC, dI) vwCl [(eq, .inr (1, [.int b, .ref qw])), (qi, .inl (ci, 32, .inl (sa_bs x))), (qo, .inl (co, 32, .inl (sa_bs y))), (qw, .inl (cw, 64, .inl w)), (qx, .inl (cx, 8, .inl (upd z 0 (z 1))))] H := hP
    have hD : va_D A [(eq, .inr (1, [.int b, .ref qw])), (qi, .inl (ci, 32, .inl (sa_bs x))), (qo, .inl (co, 32, .inl (sa_bs y))), (qw, .inl (cw, 64, .inl w)), (qx, .inl (cx, 8, .inl (upd z 0 (z 1))))] := hD
    refine lv_aload hx hb dX2_decryptBlock_116 (lv_at hl 4 rfl) ?_
    refine lv_iconst (v := 1) hx hb dX2_decryptBlock_118 (by decide) ?_
    refine lv_aload hx hb dX2_decryptBlock_119 (lv_at hl 4 rfl) ?_
    refine lv_iconst (v := 2) hx hb dX2_decryptBlock_121 (by decide) ?_
    refine sx_iald (v := z 2) hx hb hK hP 4 3 rfl rfl 2 (by decide) (by decide) (by decide) rfl dX2_decryptBlock_122 ?_
    refine sx_iast (g := upd (upd z 0 (z 1)) 1 (z 2)) hx hb hK hP hD hS 4 3 rfl rfl 1 (by decide) (by decide) (by decide) (fun _ _ => rfl) dX2_decryptBlock_123 (fun H locs hP hD hS => ?_)
    have hP : va_P (dC, dI) vwCl [(eq, .inr (1, [.int b, .ref qw])), (qi, .inl (ci, 32, .inl (sa_bs x))), (qo, .inl (co, 32, .inl (sa_bs y))), (qw, .inl (cw, 64, .inl w)), (qx, .inl (cx, 8, .inl (upd (upd z 0 (z 1)) 1 (z 2))))] H := hP
    have hD : va_D A [(eq, .inr (1, [.int b, .ref qw])), (qi, .inl (ci, 32, .inl (sa_bs x))), (qo, .inl (co, 32, .inl (sa_bs y))), (qw, .inl (cw, 64, .inl w)), (qx, .inl (cx, 8, .inl (upd (upd z 0 (z 1)) 1 (z 2))))] := hD
    refine lv_aload hx hb dX2_decryptBlock_124 (lv_at hl 4 rfl) ?_
    refine lv_iconst (v := 2) hx hb dX2_decryptBlock_126 (by decide) ?_
    refine lv_aload hx hb dX2_decryptBlock_127 (lv_at hl 4 rfl) ?_
    refine lv_iconst (v := 3) hx hb dX2_decryptBlock_129 (by decide) ?_
    refine sx_iald (v := z 3) hx hb hK hP 4 3 rfl rfl 3 (by decide) (by decide) (by decide) rfl dX2_decryptBlock_130 ?_
    refine sx_iast (g := upd (upd (upd z 0 (z 1)) 1 (z 2)) 2 (z 3)) hx hb hK hP hD hS 4 3 rfl rfl 2 (by decide) (by decide) (by decide) (fun _ _ => rfl) dX2_decryptBlock_131 (fun H locs hP hD hS => ?_)
    have hP : va_P (dC, dI) vwCl [(eq, .inr (1, [.int b, .ref qw])), (qi, .inl (ci, 32, .inl (sa_bs x))), (qo, .inl (co, 32, .inl (sa_bs y))), (qw, .inl (cw, 64, .inl w)), (qx, .inl (cx, 8, .inl (upd (upd (upd z 0 (z 1)) 1 (z 2)) 2 (z 3))))] H := hP
    have hD : va_D A [(eq, .inr (1, [.int b, .ref qw])), (qi, .inl (ci, 32, .inl (sa_bs x))), (qo, .inl (co, 32, .inl (sa_bs y))), (qw, .inl (cw, 64, .inl w)), (qx, .inl (cx, 8, .inl (upd (upd (upd z 0 (z 1)) 1 (z 2)) 2 (z 3))))] := hD
    refine lv_aload hx hb dX2_decryptBlock_132 (lv_at hl 4 rfl) ?_
    refine lv_iconst (v := 3) hx hb dX2_decryptBlock_134 (by decide) ?_
    refine lv_aload hx hb dX2_decryptBlock_135 (lv_at hl 4 rfl) ?_
    refine lv_iconst (v := 4) hx hb dX2_decryptBlock_137 (by decide) ?_
    refine sx_iald (v := z 4) hx hb hK hP 4 3 rfl rfl 4 (by decide) (by decide) (by decide) rfl dX2_decryptBlock_138 ?_
    refine lv_iload hx hb dX2_decryptBlock_139 (lv_at hl 0 rfl) ?_
    refine lv_isub hx hb dX2_decryptBlock_141 ?_
    refine sx_iast (g := upd (upd (upd (upd z 0 (z 1)) 1 (z 2)) 2 (z 3)) 3 ((z 4) - (sa_u1 z))) hx hb hK hP hD hS 4 3 rfl rfl 3 (by decide) (by decide) (by decide) (fun _ _ => rfl) dX2_decryptBlock_142 (fun H locs hP hD hS => ?_)
    have hP : va_P (dC, dI) vwCl [(eq, .inr (1, [.int b, .ref qw])), (qi, .inl (ci, 32, .inl (sa_bs x))), (qo, .inl (co, 32, .inl (sa_bs y))), (qw, .inl (cw, 64, .inl w)), (qx, .inl (cx, 8, .inl (upd (upd (upd (upd z 0 (z 1)) 1 (z 2)) 2 (z 3)) 3 ((z 4) - (sa_u1 z)))))] H := hP
    have hD : va_D A [(eq, .inr (1, [.int b, .ref qw])), (qi, .inl (ci, 32, .inl (sa_bs x))), (qo, .inl (co, 32, .inl (sa_bs y))), (qw, .inl (cw, 64, .inl w)), (qx, .inl (cx, 8, .inl (upd (upd (upd (upd z 0 (z 1)) 1 (z 2)) 2 (z 3)) 3 ((z 4) - (sa_u1 z)))))] := hD
    refine lv_aload hx hb dX2_decryptBlock_143 (lv_at hl 4 rfl) ?_
    refine lv_iconst (v := 4) hx hb dX2_decryptBlock_145 (by decide) ?_
    refine lv_aload hx hb dX2_decryptBlock_146 (lv_at hl 4 rfl) ?_
    refine lv_iconst (v := 5) hx hb dX2_decryptBlock_148 (by decide) ?_
    refine sx_iald (v := z 5) hx hb hK hP 4 3 rfl rfl 5 (by decide) (by decide) (by decide) rfl dX2_decryptBlock_149 ?_
    refine sx_iast (g := upd (upd (upd (upd (upd z 0 (z 1)) 1 (z 2)) 2 (z 3)) 3 ((z 4) - (sa_u1 z))) 4 (z 5)) hx hb hK hP hD hS 4 3 rfl rfl 4 (by decide) (by decide) (by decide) (fun _ _ => rfl) dX2_decryptBlock_150 (fun H locs hP hD hS => ?_)
    have hP : va_P (dC, dI) vwCl [(eq, .inr (1, [.int b, .ref qw])), (qi, .inl (ci, 32, .inl (sa_bs x))), (qo, .inl (co, 32, .inl (sa_bs y))), (qw, .inl (cw, 64, .inl w)), (qx, .inl (cx, 8, .inl (upd (upd (upd (upd (upd z 0 (z 1)) 1 (z 2)) 2 (z 3)) 3 ((z 4) - (sa_u1 z))) 4 (z 5))))] H := hP
    have hD : va_D A [(eq, .inr (1, [.int b, .ref qw])), (qi, .inl (ci, 32, .inl (sa_bs x))), (qo, .inl (co, 32, .inl (sa_bs y))), (qw, .inl (cw, 64, .inl w)), (qx, .inl (cx, 8, .inl (upd (upd (upd (upd (upd z 0 (z 1)) 1 (z 2)) 2 (z 3)) 3 ((z 4) - (sa_u1 z))) 4 (z 5))))] := hD
    refine lv_aload hx hb dX2_decryptBlock_151 (lv_at hl 4 rfl) ?_
    refine lv_iconst (v := 5) hx hb dX2_decryptBlock_153 (by decide) ?_
    refine lv_aload hx hb dX2_decryptBlock_154 (lv_at hl 4 rfl) ?_
    refine lv_bipush (v := 6) hx hb dX2_decryptBlock_156 (by decide) ?_
    refine sx_iald (v := z 6) hx hb hK hP 4 3 rfl rfl 6 (by decide) (by decide) (by decide) rfl dX2_decryptBlock_158 ?_
    refine sx_iast (g := upd (upd (upd (upd (upd (upd z 0 (z 1)) 1 (z 2)) 2 (z 3)) 3 ((z 4) - (sa_u1 z))) 4 (z 5)) 5 (z 6)) hx hb hK hP hD hS 4 3 rfl rfl 5 (by decide) (by decide) (by decide) (fun _ _ => rfl) dX2_decryptBlock_159 (fun H locs hP hD hS => ?_)
    have hP : va_P (dC, dI) vwCl [(eq, .inr (1, [.int b, .ref qw])), (qi, .inl (ci, 32, .inl (sa_bs x))), (qo, .inl (co, 32, .inl (sa_bs y))), (qw, .inl (cw, 64, .inl w)), (qx, .inl (cx, 8, .inl (upd (upd (upd (upd (upd (upd z 0 (z 1)) 1 (z 2)) 2 (z 3)) 3 ((z 4) - (sa_u1 z))) 4 (z 5)) 5 (z 6))))] H := hP
    have hD : va_D A [(eq, .inr (1, [.int b, .ref qw])), (qi, .inl (ci, 32, .inl (sa_bs x))), (qo, .inl (co, 32, .inl (sa_bs y))), (qw, .inl (cw, 64, .inl w)), (qx, .inl (cx, 8, .inl (upd (upd (upd (upd (upd (upd z 0 (z 1)) 1 (z 2)) 2 (z 3)) 3 ((z 4) - (sa_u1 z))) 4 (z 5)) 5 (z 6))))] := hD
    refine lv_aload hx hb dX2_decryptBlock_160 (lv_at hl 4 rfl) ?_
    refine lv_bipush (v := 6) hx hb dX2_decryptBlock_162 (by decide) ?_
    refine lv_aload hx hb dX2_decryptBlock_164 (lv_at hl 4 rfl) ?_
    refine lv_bipush (v := 7) hx hb dX2_decryptBlock_166 (by decide) ?_
    refine sx_iald (v := z 7) hx hb hK hP 4 3 rfl rfl 7 (by decide) (by decide) (by decide) rfl dX2_decryptBlock_168 ?_
    refine sx_iast (g := upd (upd (upd (upd (upd (upd (upd z 0 (z 1)) 1 (z 2)) 2 (z 3)) 3 ((z 4) - (sa_u1 z))) 4 (z 5)) 5 (z 6)) 6 (z 7)) hx hb hK hP hD hS 4 3 rfl rfl 6 (by decide) (by decide) (by decide) (fun _ _ => rfl) dX2_decryptBlock_169 (fun H locs hP hD hS => ?_)
    have hP : va_P (dC, dI) vwCl [(eq, .inr (1, [.int b, .ref qw])), (qi, .inl (ci, 32, .inl (sa_bs x))), (qo, .inl (co, 32, .inl (sa_bs y))), (qw, .inl (cw, 64, .inl w)), (qx, .inl (cx, 8, .inl (upd (upd (upd (upd (upd (upd (upd z 0 (z 1)) 1 (z 2)) 2 (z 3)) 3 ((z 4) - (sa_u1 z))) 4 (z 5)) 5 (z 6)) 6 (z 7))))] H := hP
    have hD : va_D A [(eq, .inr (1, [.int b, .ref qw])), (qi, .inl (ci, 32, .inl (sa_bs x))), (qo, .inl (co, 32, .inl (sa_bs y))), (qw, .inl (cw, 64, .inl w)), (qx, .inl (cx, 8, .inl (upd (upd (upd (upd (upd (upd (upd z 0 (z 1)) 1 (z 2)) 2 (z 3)) 3 ((z 4) - (sa_u1 z))) 4 (z 5)) 5 (z 6)) 6 (z 7))))] := hD
    refine lv_aload hx hb dX2_decryptBlock_170 (lv_at hl 4 rfl) ?_
    refine lv_bipush (v := 7) hx hb dX2_decryptBlock_172 (by decide) ?_
    refine lv_iload hx hb dX2_decryptBlock_174 (lv_at hl 0 rfl) ?_
    refine va_gets (v := .ref tK) hx hb hEx.1 hS hown (hts _ q242) (fun _ h9 => h9) dX2_decryptBlock_176 ?_
    refine lv_iload hx hb dX2_decryptBlock_179 (lv_at hl 5 rfl) ?_
    refine va_ti hx hb hEx.2 hS (vp_in_nI (n := r) (by omega) (by decide)) (v := .int (sa_rk r)) (by show Value.int (sa_rk (nI r).toNatClampNeg) = _; rw [nI_clamp (by omega)]) dX2_decryptBlock_181 ?_
    refine lv_isub hx hb dX2_decryptBlock_182 ?_
    refine lv_aload_n hx hb dX2_decryptBlock_183 rfl (lv_at hl 1 rfl) ?_
    refine va_get (D := (dC, dI)) (ci := 1) (v := .ref qw) (C := RX2) (T := TX2) (N := 2) hx hb hts in_X2 hown hK hP 0 rfl rfl 1 (by decide) (hts _ q54) (fun _ h9 => h9) rfl dX2_decryptBlock_184 ?_
    refine lv_iload hx hb dX2_decryptBlock_187 (lv_at hl 5 rfl) ?_
    refine sx_iald (v := w r) hx hb hK hP 3 2 rfl rfl r rfl (by omega) (by decide) rfl dX2_decryptBlock_189 ?_
    refine lv_isub hx hb dX2_decryptBlock_190 ?_
    refine lv_aload hx hb dX2_decryptBlock_191 (lv_at hl 4 rfl) ?_
    refine lv_iconst (v := 4) hx hb dX2_decryptBlock_193 (by decide) ?_
    refine sx_iald (v := z 5) hx hb hK hP 4 3 rfl rfl 4 (by decide) (by decide) (by decide) rfl dX2_decryptBlock_194 ?_
    refine lv_bipush (v := 6) hx hb dX2_decryptBlock_195 (by decide) ?_
    refine lv_iushr (v := sa_usr (z 5) 6) hx hb dX2_decryptBlock_197 rfl ?_
    refine lv_aload hx hb dX2_decryptBlock_198 (lv_at hl 4 rfl) ?_
    refine lv_iconst (v := 4) hx hb dX2_decryptBlock_200 (by decide) ?_
    refine sx_iald (v := z 5) hx hb hK hP 4 3 rfl rfl 4 (by decide) (by decide) (by decide) rfl dX2_decryptBlock_201 ?_
    refine lv_bipush (v := (-6)) hx hb dX2_decryptBlock_202 (by decide) ?_
    refine lv_ishl hx hb dX2_decryptBlock_204 ?_
    refine lv_ior hx hb dX2_decryptBlock_205 ?_
    refine sx_top (v := sa_ror (z 5) 6) (sa_rorE (z 5) 6 (-6) (by decide)) ?_
    refine lv_aload hx hb dX2_decryptBlock_206 (lv_at hl 4 rfl) ?_
    refine lv_iconst (v := 4) hx hb dX2_decryptBlock_208 (by decide) ?_
    refine sx_iald (v := z 5) hx hb hK hP 4 3 rfl rfl 4 (by decide) (by decide) (by decide) rfl dX2_decryptBlock_209 ?_
    refine lv_bipush (v := 11) hx hb dX2_decryptBlock_210 (by decide) ?_
    refine lv_iushr (v := sa_usr (z 5) 11) hx hb dX2_decryptBlock_212 rfl ?_
    refine lv_aload hx hb dX2_decryptBlock_213 (lv_at hl 4 rfl) ?_
    refine lv_iconst (v := 4) hx hb dX2_decryptBlock_215 (by decide) ?_
    refine sx_iald (v := z 5) hx hb hK hP 4 3 rfl rfl 4 (by decide) (by decide) (by decide) rfl dX2_decryptBlock_216 ?_
    refine lv_bipush (v := (-11)) hx hb dX2_decryptBlock_217 (by decide) ?_
    refine lv_ishl hx hb dX2_decryptBlock_219 ?_
    refine lv_ior hx hb dX2_decryptBlock_220 ?_
    refine sx_top (v := sa_ror (z 5) 11) (sa_rorE (z 5) 11 (-11) (by decide)) ?_
    refine lv_ixor hx hb dX2_decryptBlock_221 ?_
    refine lv_aload hx hb dX2_decryptBlock_222 (lv_at hl 4 rfl) ?_
    refine lv_iconst (v := 4) hx hb dX2_decryptBlock_224 (by decide) ?_
    refine sx_iald (v := z 5) hx hb hK hP 4 3 rfl rfl 4 (by decide) (by decide) (by decide) rfl dX2_decryptBlock_225 ?_
    refine lv_bipush (v := 25) hx hb dX2_decryptBlock_226 (by decide) ?_
    refine lv_iushr (v := sa_usr (z 5) 25) hx hb dX2_decryptBlock_228 rfl ?_
    refine lv_aload hx hb dX2_decryptBlock_229 (lv_at hl 4 rfl) ?_
    refine lv_iconst (v := 4) hx hb dX2_decryptBlock_231 (by decide) ?_
    refine sx_iald (v := z 5) hx hb hK hP 4 3 rfl rfl 4 (by decide) (by decide) (by decide) rfl dX2_decryptBlock_232 ?_
    refine lv_bipush (v := (-25)) hx hb dX2_decryptBlock_233 (by decide) ?_
    refine lv_ishl hx hb dX2_decryptBlock_235 ?_
    refine lv_ior hx hb dX2_decryptBlock_236 ?_
    refine sx_top (v := sa_ror (z 5) 25) (sa_rorE (z 5) 25 (-25) (by decide)) ?_
    refine lv_ixor hx hb dX2_decryptBlock_237 ?_
    refine lv_isub hx hb dX2_decryptBlock_238 ?_
    refine lv_aload hx hb dX2_decryptBlock_239 (lv_at hl 4 rfl) ?_
    refine lv_iconst (v := 4) hx hb dX2_decryptBlock_241 (by decide) ?_
    refine sx_iald (v := z 5) hx hb hK hP 4 3 rfl rfl 4 (by decide) (by decide) (by decide) rfl dX2_decryptBlock_242 ?_
    refine lv_aload hx hb dX2_decryptBlock_243 (lv_at hl 4 rfl) ?_
    refine lv_iconst (v := 5) hx hb dX2_decryptBlock_245 (by decide) ?_
    refine sx_iald (v := z 6) hx hb hK hP 4 3 rfl rfl 5 (by decide) (by decide) (by decide) rfl dX2_decryptBlock_246 ?_
    refine lv_iand hx hb dX2_decryptBlock_247 ?_
    refine lv_aload hx hb dX2_decryptBlock_248 (lv_at hl 4 rfl) ?_
    refine lv_iconst (v := 4) hx hb dX2_decryptBlock_250 (by decide) ?_
    refine sx_iald (v := z 5) hx hb hK hP 4 3 rfl rfl 4 (by decide) (by decide) (by decide) rfl dX2_decryptBlock_251 ?_
    refine lv_iconst (v := (-1)) hx hb dX2_decryptBlock_252 (by decide) ?_
    refine lv_ixor hx hb dX2_decryptBlock_253 ?_
    refine lv_aload hx hb dX2_decryptBlock_254 (lv_at hl 4 rfl) ?_
    refine lv_bipush (v := 6) hx hb dX2_decryptBlock_256 (by decide) ?_
    refine sx_iald (v := z 7) hx hb hK hP 4 3 rfl rfl 6 (by decide) (by decide) (by decide) rfl dX2_decryptBlock_258 ?_
    refine lv_iand hx hb dX2_decryptBlock_259 ?_
    refine lv_ixor hx hb dX2_decryptBlock_260 ?_
    refine lv_isub hx hb dX2_decryptBlock_261 ?_
    refine sx_iast (g := upd (upd (upd (upd (upd (upd (upd (upd z 0 (z 1)) 1 (z 2)) 2 (z 3)) 3 ((z 4) - (sa_u1 z))) 4 (z 5)) 5 (z 6)) 6 (z 7)) 7 (((((sa_u1 z) - (sa_rk r)) - (w r)) - (((sa_ror (z 5) 6) ^^^ (sa_ror (z 5) 11)) ^^^ (sa_ror (z 5) 25))) - (((z 5) &&& (z 6)) ^^^ (((z 5) ^^^ (-1)) &&& (z 7))))) hx hb hK hP hD hS 4 3 rfl rfl 7 (by decide) (by decide) (by decide) (fun _ _ => rfl) dX2_decryptBlock_262 (fun H locs hP hD hS => ?_)
    have hP : va_P (dC, dI) vwCl [(eq, .inr (1, [.int b, .ref qw])), (qi, .inl (ci, 32, .inl (sa_bs x))), (qo, .inl (co, 32, .inl (sa_bs y))), (qw, .inl (cw, 64, .inl w)), (qx, .inl (cx, 8, .inl (upd (upd (upd (upd (upd (upd (upd (upd z 0 (z 1)) 1 (z 2)) 2 (z 3)) 3 ((z 4) - (sa_u1 z))) 4 (z 5)) 5 (z 6)) 6 (z 7)) 7 (((((sa_u1 z) - (sa_rk r)) - (w r)) - (((sa_ror (z 5) 6) ^^^ (sa_ror (z 5) 11)) ^^^ (sa_ror (z 5) 25))) - (((z 5) &&& (z 6)) ^^^ (((z 5) ^^^ (-1)) &&& (z 7)))))))] H := hP
    have hD : va_D A [(eq, .inr (1, [.int b, .ref qw])), (qi, .inl (ci, 32, .inl (sa_bs x))), (qo, .inl (co, 32, .inl (sa_bs y))), (qw, .inl (cw, 64, .inl w)), (qx, .inl (cx, 8, .inl (upd (upd (upd (upd (upd (upd (upd (upd z 0 (z 1)) 1 (z 2)) 2 (z 3)) 3 ((z 4) - (sa_u1 z))) 4 (z 5)) 5 (z 6)) 6 (z 7)) 7 (((((sa_u1 z) - (sa_rk r)) - (w r)) - (((sa_ror (z 5) 6) ^^^ (sa_ror (z 5) 11)) ^^^ (sa_ror (z 5) 25))) - (((z 5) &&& (z 6)) ^^^ (((z 5) ^^^ (-1)) &&& (z 7)))))))] := hD
    have hP := sx_ext hP 4 (sa_dN w (64 - r) x) rfl (fun j hj => by rw [sa_dN_S w x (by omega), ← hz]; exact sa_e8_of (x := upd (upd (upd (upd (upd (upd (upd (upd z 0 (z 1)) 1 (z 2)) 2 (z 3)) 3 ((z 4) - (sa_u1 z))) 4 (z 5)) 5 (z 6)) 6 (z 7)) 7 (((((sa_u1 z) - (sa_rk r)) - (w r)) - (((sa_ror (z 5) 6) ^^^ (sa_ror (z 5) 11)) ^^^ (sa_ror (z 5) 25))) - (((z 5) &&& (z 6)) ^^^ (((z 5) ^^^ (-1)) &&& (z 7))))) (y := sa_drn (sa_rk r) (w r) z) rfl rfl rfl rfl rfl rfl rfl rfl j hj)
    have hD := hD.set (p := 4) (a := qx) (e := .inl (cx, 8, .inl (sa_dN w (64 - r) x))) rfl
    have hP : va_P (dC, dI) vwCl [(eq, .inr (1, [.int b, .ref qw])), (qi, .inl (ci, 32, .inl (sa_bs x))), (qo, .inl (co, 32, .inl (sa_bs y))), (qw, .inl (cw, 64, .inl w)), (qx, .inl (cx, 8, .inl (sa_dN w (64 - r) x)))] H := hP
    have hD : va_D A [(eq, .inr (1, [.int b, .ref qw])), (qi, .inl (ci, 32, .inl (sa_bs x))), (qo, .inl (co, 32, .inl (sa_bs y))), (qw, .inl (cw, 64, .inl w)), (qx, .inl (cx, 8, .inl (sa_dN w (64 - r) x)))] := hD
    refine lv_iinc (v := nI r - 1) (lv' := [(6, .int (nI r - 1)), (7, .int (sa_u1 z)), (0, .ref eq), (3, .ref qo), (4, .int 0), (5, .ref qx)]) hx hb dX2_decryptBlock_263 hl (k := 5) rfl (sa_m1 (nI r)) (by decide) rfl (fun ls hl => ?_)
    refine lv_goto (tgt := 19) hx hb dX2_decryptBlock_266 (by decide) ?_
    exact ih (by omega) H locs ls (hP.sub [0, 1, 2, 3, 4] rfl) (hD.sub [0, 1, 2, 3, 4] (by decide) rfl) hS (lv_sub hl [2, 3, 4, 5, 0] rfl) kk
set_option maxHeartbeats 4000000 in
set_option maxRecDepth 100000 in
/-- encryptBlock(in, 0, out, 0) -/
theorem mt_enc (l : Launch) (dC : Nat → ClassId) (dI : Nat → Nat → Nat) (sz : Nat) (eq qi qo qw tK : Nat) (ci co cw : ClassId) (b : Int32) (x y w : Nat → Int32) : Met l yX2_encryptBlock (ws_ yX2_encryptBlock cX2_encryptBlock 8 none) ({ frames := 1, cells := 1, slots := 8, locals := 25 }) (va_Pc [.ref eq, .ref qi, .int 0, .ref qo, .int 0] (sx_PreE "Shacal2Engine" "K" tK sa_rk (va_A [(eq, .inr (1, [.int b, .ref qw])), (qi, .inl (ci, 32, .inl (sa_bs x))), (qo, .inl (co, 32, .inl (sa_bs y))), (qw, .inl (cw, 64, .inl w))] sz) (dC, dI) [(eq, .inr (1, [.int b, .ref qw])), (qi, .inl (ci, 32, .inl (sa_bs x))), (qo, .inl (co, 32, .inl (sa_bs y))), (qw, .inl (cw, 64, .inl w))] [(ci, .byte), (co, .byte), (cw, .int)] sz)) (va_Qv (fun _ : Unit => True) (fun _ t => sx_Post (dC, dI) (va_A [(eq, .inr (1, [.int b, .ref qw])), (qi, .inl (ci, 32, .inl (sa_bs x))), (qo, .inl (co, 32, .inl (sa_bs y))), (qw, .inl (cw, 64, .inl w))] sz) [(eq, .inr (1, [.int b, .ref qw])), (qi, .inl (ci, 32, .inl (sa_bs x))), (qo, .inl (co, 32, .inl (sa_bs (sa_eN w 64 x)))), (qw, .inl (cw, 64, .inl w))] t) (va_A [(eq, .inr (1, [.int b, .ref qw])), (qi, .inl (ci, 32, .inl (sa_bs x))), (qo, .inl (co, 32, .inl (sa_bs y))), (qw, .inl (cw, 64, .inl w))] sz)) 1 8 (va_A [(eq, .inr (1, [.int b, .ref qw])), (qi, .inl (ci, 32, .inl (sa_bs x))), (qo, .inl (co, 32, .inl (sa_bs y))), (qw, .inl (cw, 64, .inl w))] sz) := by
  refine Met.ofW (cc := cX2_encryptBlock) (maxL := 8) (ret := none) (by decide) rfl ?_
  intro p e s m args below meth c s₁ B hml hv
  obtain ⟨rfl, hEx, hsz, hP, hK, hD0⟩ := hv
  have hx := B.exec
  have hb := B.bytes
  have hr := B.returns
  have hts := atoms_spec (ws := ws_ yX2_encryptBlock cX2_encryptBlock 8 none) B.pre
  have hts : ∀ w ∈ lw_all, w.before _ s = true := fun w h => hts w (List.mem_cons_of_mem _ h)
  have hown : s.vm.findClass RX2 = some m.cls := findClass_of_methodNamed B.named
  have hlocks := B.notSynchronized
  subst hsz
  have hD := hD0.self (sz := s.heap.size)
  generalize hAe : va_A [(eq, .inr (1, [.int b, .ref qw])), (qi, .inl (ci, 32, .inl (sa_bs x))), (qo, .inl (co, 32, .inl (sa_bs y))), (qw, .inl (cw, 64, .inl w))] s.heap.size = A at hD hEx ⊢
  have hA : ∀ q : Nat, s.heap.size ≤ q → A q := fun q h => by rw [← hAe]; exact Or.inr h
  have hS : va_S A s.heap s.heap [] := va_S.rf
  have hP : va_P (dC, dI) vwCl [(eq, .inr (1, [.int b, .ref qw])), (qi, .inl (ci, 32, .inl (sa_bs x))), (qo, .inl (co, 32, .inl (sa_bs y))), (qw, .inl (cw, 64, .inl w))] s.heap := hP
  have hl := lv_entry ([.ref eq, .ref qi, .int 0, .ref qo, .int 0]) (n := 8) (Nat.le_of_ble_eq_true rfl)
  rw [lg_entry_eq]
  generalize (lg_sl ([.ref eq, .ref qi, .int 0, .ref qo, .int 0]) ++ List.replicate (8 - (lg_sl ([.ref eq, .ref qi, .int 0, .ref qo, .int 0])).length) Slot.unset).toArray = ls at hl ⊢
  have hl : lv_has ls 8 [(0, .ref eq), (1, .ref qi), (2, .int 0), (3, .ref qo), (4, .int 0)] := hl
  refine lv_bipush (v := 8) hx hb dX2_encryptBlock_0 (by decide) ?_
  refine va_newa (atype := .int) (a0 := (8, .inl (fun _ => 0))) (N' := 8) hx hb (hts _ q196) (ty := .int) rfl hK hP hD hS hA (fun _ => rfl) (by decide) (by decide) (by decide) (Nat.le_of_ble_eq_true rfl) (Nat.le_of_ble_eq_true rfl) dX2_encryptBlock_2 (fun q_1 c_2 H hK hP hD hS => ?_)
  have hP : va_P (dC, dI) vwCl [(eq, .inr (1, [.int b, .ref qw])), (qi, .inl (ci, 32, .inl (sa_bs x))), (qo, .inl (co, 32, .inl (sa_bs y))), (qw, .inl (cw, 64, .inl w)), (q_1, .inl (c_2, 8, .inl (fun _ => 0)))] H := hP
  have hD : va_D A [(eq, .inr (1, [.int b, .ref qw])), (qi, .inl (ci, 32, .inl (sa_bs x))), (qo, .inl (co, 32, .inl (sa_bs y))), (qw, .inl (cw, 64, .inl w)), (q_1, .inl (c_2, 8, .inl (fun _ => 0)))] := hD
  have hK : va_K (dC, dI) vwCl [(ci, .byte), (co, .byte), (cw, .int), (c_2, .int)] s := hK
  refine W.widen (k := 1) (n := 8) (Nat.le_of_ble_eq_true rfl) (Nat.le_of_ble_eq_true rfl) ?_
  refine lv_astore (lv' := [(5, .ref q_1), (0, .ref eq), (1, .ref qi), (2, .int 0), (3, .ref qo), (4, .int 0)]) hx hb dX2_encryptBlock_4 hl (by decide) rfl (fun ls hl => ?_)
  refine lv_aload_n hx hb dX2_encryptBlock_6 rfl (lv_at hl 1 rfl) ?_
  refine lv_aload_n hx hb dX2_encryptBlock_7 rfl (lv_at hl 2 rfl) ?_
  refine lv_aload hx hb dX2_encryptBlock_8 (lv_at hl 0 rfl) ?_
  refine lv_iload_n hx hb dX2_encryptBlock_10 rfl (lv_at hl 3 rfl) ?_
  refine lv_iconst (v := 0) hx hb dX2_encryptBlock_11 (by decide) ?_
  have hPc := hP.sub (ws' := [(qi, .inl (ci, 32, .inl (sa_bs x))), (q_1, .inl (c_2, 8, .inl (fun _ => 0)))]) [1, 4] rfl
  have hDc := hD.sub (ws' := [(qi, .inl (ci, 32, .inl (sa_bs x))), (q_1, .inl (c_2, 8, .inl (fun _ => 0)))]) [1, 4] (by decide) rfl
  have hKc := hK.sub (tys' := [(ci, .byte), (c_2, .int)]) [0, 3] rfl
  have hFc := va_free (wc := [(qi, .inl (ci, 32, .inl (sa_bs x))), (q_1, .inl (c_2, 8, .inl (fun _ => 0)))]) hD hS hA [1, 4] rfl
  refine va_callv (va_runV (As := [.ref qi, .ref q_1, .int 0, .int 0]) (rest := []) ⟨hx, hb, hml, hown, hts⟩ (mt_bbi l dC dI H.size eq qi q_1 ci c_2 x (fun _ => 0)) (cwV 4 hts (lw_V q238 q240 qs4 q9 q241) rfl rfl rfl (by decide +kernel) ⟨Nat.le_of_ble_eq_true rfl, Nat.le_of_ble_eq_true rfl⟩) ⟨sx_blind, va_recv hK hP (ci := 1) (q0 := 0) rfl rfl, fun U hU hW => ⟨rfl, sx_Pre.mk hPc hKc hDc hU hW⟩⟩ rfl rfl hl.1 rfl (lv_room (Nat.le_of_ble_eq_true rfl)) dX2_encryptBlock_12 ⟨Nat.le_of_ble_eq_true rfl, Nat.le_of_ble_eq_true rfl⟩) hS (fun q _ h => hFc q h) hFc (fun u t H1 locs ht hvm hw hB hz1 hk1 hS => ?_)
  obtain ⟨hP1, hD1⟩ := hB
  rw [ht] at hP1
  obtain ⟨hP, hD⟩ := va_join (wr := [(eq, .inr (1, [.int b, .ref qw])), (qo, .inl (co, 32, .inl (sa_bs y))), (qw, .inl (cw, 64, .inl w))]) (w1 := [(qi, .inl (ci, 32, .inl (sa_bs x))), (q_1, .inl (c_2, 8, .inl (sa_mx x (fun _ => 0) 8)))]) hP hD [1, 4] [0, 2, 3] rfl rfl (by decide) (by decide) hk1 hFc hP1 hD1
  generalize H1 = H at hP hS ⊢
  have hP : va_P (dC, dI) vwCl [(eq, .inr (1, [.int b, .ref qw])), (qo, .inl (co, 32, .inl (sa_bs y))), (qw, .inl (cw, 64, .inl w)), (qi, .inl (ci, 32, .inl (sa_bs x))), (q_1, .inl (c_2, 8, .inl (sa_mx x (fun _ => 0) 8)))] H := hP
  have hD : va_D A [(eq, .inr (1, [.int b, .ref qw])), (qo, .inl (co, 32, .inl (sa_bs y))), (qw, .inl (cw, 64, .inl w)), (qi, .inl (ci, 32, .inl (sa_bs x))), (q_1, .inl (c_2, 8, .inl (sa_mx x (fun _ => 0) 8)))] := hD
  refine W.widen (k := 1) (n := 8) (Nat.le_of_ble_eq_true rfl) (Nat.le_of_ble_eq_true rfl) ?_
  have hP := sx_ext hP 4 (sa_eN w 0 x) rfl (sa_mx_n x (fun _ => 0) 8)
  have hD := hD.set (p := 4) (a := q_1) (e := .inl (c_2, 8, .inl (sa_eN w 0 x))) rfl
  have hP : va_P (dC, dI) vwCl [(eq, .inr (1, [.int b, .ref qw])), (qo, .inl (co, 32, .inl (sa_bs y))), (qw, .inl (cw, 64, .inl w)), (qi, .inl (ci, 32, .inl (sa_bs x))), (q_1, .inl (c_2, 8, .inl (sa_eN w 0 x)))] H := hP
  have hD : va_D A [(eq, .inr (1, [.int b, .ref qw])), (qo, .inl (co, 32, .inl (sa_bs y))), (qw, .inl (cw, 64, .inl w)), (qi, .inl (ci, 32, .inl (sa_bs x))), (q_1, .inl (c_2, 8, .inl (sa_eN w 0 x)))] := hD
  refine lv_iconst (v := 0) hx hb dX2_encryptBlock_15 (by decide) ?_
  refine lv_istore (lv' := [(6, .int 0), (5, .ref q_1), (0, .ref eq), (1, .ref qi), (2, .int 0), (3, .ref qo), (4, .int 0)]) hx hb dX2_encryptBlock_16 hl (by decide) rfl (fun ls hl => ?_)
  have hl : lv_has ls 8 [(6, .int (nI 0)), (5, .ref q_1), (0, .ref eq), (1, .ref qi), (2, .int 0), (3, .ref qo), (4, .int 0)] := hl
  refine lp_enc eq qi qo qw q_1 tK ci co cw c_2 b x y w hx hb hml hown hts hA hK hEx 65 0 (by omega) (by omega) _ _ _ (hP.sub [0, 3, 1, 2, 4] rfl) (hD.sub [0, 3, 1, 2, 4] (by decide) rfl) hS (lv_sub hl [2, 5, 6, 1, 0] rfl) (fun H locs ls hP hD hS hl => ?_)
  have hP : va_P (dC, dI) vwCl [(eq, .inr (1, [.int b, .ref qw])), (qi, .inl (ci, 32, .inl (sa_bs x))), (qo, .inl (co, 32, .inl (sa_bs y))), (qw, .inl (cw, 64, .inl w)), (q_1, .inl (c_2, 8, .inl (sa_eN w 64 x)))] H := hP
  have hD : va_D A [(eq, .inr (1, [.int b, .ref qw])), (qi, .inl (ci, 32, .inl (sa_bs x))), (qo, .inl (co, 32, .inl (sa_bs y))), (qw, .inl (cw, 64, .inl w)), (q_1, .inl (c_2, 8, .inl (sa_eN w 64 x)))] := hD
  refine lv_aload_n hx hb dX2_encryptBlock_269 rfl (lv_at hl 0 rfl) ?_
  refine lv_aload hx hb dX2_encryptBlock_270 (lv_at hl 3 rfl) ?_
  refine lv_aload_n hx hb dX2_encryptBlock_272 rfl (lv_at hl 1 rfl) ?_
  refine lv_iload hx hb dX2_encryptBlock_273 (lv_at hl 2 rfl) ?_
  have hPc := hP.sub (ws' := [(q_1, .inl (c_2, 8, .inl (sa_eN w 64 x))), (qo, .inl (co, 32, .inl (sa_bs y)))]) [4, 2] rfl
  have hDc := hD.sub (ws' := [(q_1, .inl (c_2, 8, .inl (sa_eN w 64 x))), (qo, .inl (co, 32, .inl (sa_bs y)))]) [4, 2] (by decide) rfl
  have hKc := hK.sub (tys' := [(c_2, .int), (co, .byte)]) [3, 1] rfl
  have hFc := va_free (wc := [(q_1, .inl (c_2, 8, .inl (sa_eN w 64 x))), (qo, .inl (co, 32, .inl (sa_bs y)))]) hD hS hA [4, 2] rfl
  refine va_callv (va_runV (As := [.ref q_1, .ref qo, .int 0]) (rest := []) ⟨hx, hb, hml, hown, hts⟩ (mt_i2b l dC dI H.size eq q_1 qo c_2 co (sa_eN w 64 x) (sa_bs y)) (cwV 3 hts (lw_V q244 q246 qs5 q9 q247) rfl rfl rfl (by decide +kernel) ⟨Nat.le_of_ble_eq_true rfl, Nat.le_of_ble_eq_true rfl⟩) ⟨sx_blind, va_recv hK hP (ci := 1) (q0 := 0) rfl rfl, fun U hU hW => ⟨rfl, sx_Pre.mk hPc hKc hDc hU hW⟩⟩ rfl rfl hl.1 rfl (lv_room (Nat.le_of_ble_eq_true rfl)) dX2_encryptBlock_275 ⟨Nat.le_of_ble_eq_true rfl, Nat.le_of_ble_eq_true rfl⟩) hS (fun q _ h => hFc q h) hFc (fun u t H1 locs ht hvm hw hB hz1 hk1 hS => ?_)
  obtain ⟨hP1, hD1⟩ := hB
  rw [ht] at hP1
  obtain ⟨hP, hD⟩ := va_join (wr := [(eq, .inr (1, [.int b, .ref qw])), (qi, .inl (ci, 32, .inl (sa_bs x))), (qw, .inl (cw, 64, .inl w))]) (w1 := [(q_1, .inl (c_2, 8, .inl (sa_eN w 64 x))), (qo, .inl (co, 32, .inl (sa_bs (sa_eN w 64 x))))]) hP hD [4, 2] [0, 1, 3] rfl rfl (by decide) (by decide) hk1 hFc hP1 hD1
  generalize H1 = H at hP hS ⊢
  have hP : va_P (dC, dI) vwCl [(eq, .inr (1, [.int b, .ref qw])), (qi, .inl (ci, 32, .inl (sa_bs x))), (qw, .inl (cw, 64, .inl w)), (q_1, .inl (c_2, 8, .inl (sa_eN w 64 x))), (qo, .inl (co, 32, .inl (sa_bs (sa_eN w 64 x))))] H := hP
  have hD : va_D A [(eq, .inr (1, [.int b, .ref qw])), (qi, .inl (ci, 32, .inl (sa_bs x))), (qw, .inl (cw, 64, .inl w)), (q_1, .inl (c_2, 8, .inl (sa_eN w 64 x))), (qo, .inl (co, 32, .inl (sa_bs (sa_eN w 64 x))))] := hD
  refine W.widen (k := 1) (n := 8) (Nat.le_of_ble_eq_true rfl) (Nat.le_of_ble_eq_true rfl) ?_
  have hP9 := hP.sub (ws' := [(eq, .inr (1, [.int b, .ref qw])), (qi, .inl (ci, 32, .inl (sa_bs x))), (qo, .inl (co, 32, .inl (sa_bs (sa_eN w 64 x)))), (qw, .inl (cw, 64, .inl w))]) [0, 1, 4, 2] rfl
  have hD9 := hD.sub (ws' := [(eq, .inr (1, [.int b, .ref qw])), (qi, .inl (ci, 32, .inl (sa_bs x))), (qo, .inl (co, 32, .inl (sa_bs (sa_eN w 64 x)))), (qw, .inl (cw, 64, .inl w))]) [0, 1, 4, 2] (by decide) rfl
  exact W.vret hx hb hr (fun t ht hW => ⟨⟨(), rfl, trivial, by rw [ht]; exact hP9, hD9⟩, hS.F ht⟩) hS.2.2 dX2_encryptBlock_278
set_option maxHeartbeats 4000000 in
set_option maxRecDepth 100000 in
/-- decryptBlock(in, 0, out, 0) -/
theorem mt_dec (l : Launch) (dC : Nat → ClassId) (dI : Nat → Nat → Nat) (sz : Nat) (eq qi qo qw tK : Nat) (ci co cw : ClassId) (b : Int32) (x y w : Nat → Int32) : Met l yX2_decryptBlock (ws_ yX2_decryptBlock cX2_decryptBlock 8 none) ({ frames := 1, cells := 1, slots := 8, locals := 25 }) (va_Pc [.ref eq, .ref qi, .int 0, .ref qo, .int 0] (sx_PreE "Shacal2Engine" "K" tK sa_rk (va_A [(eq, .inr (1, [.int b, .ref qw])), (qi, .inl (ci, 32, .inl (sa_bs x))), (qo, .inl (co, 32, .inl (sa_bs y))), (qw, .inl (cw, 64, .inl w))] sz) (dC, dI) [(eq, .inr (1, [.int b, .ref qw])), (qi, .inl (ci, 32, .inl (sa_bs x))), (qo, .inl (co, 32, .inl (sa_bs y))), (qw, .inl (cw, 64, .inl w))] [(ci, .byte), (co, .byte), (cw, .int)] sz)) (va_Qv (fun _ : Unit => True) (fun _ t => sx_Post (dC, dI) (va_A [(eq, .inr (1, [.int b, .ref qw])), (qi, .inl (ci, 32, .inl (sa_bs x))), (qo, .inl (co, 32, .inl (sa_bs y))), (qw, .inl (cw, 64, .inl w))] sz) [(eq, .inr (1, [.int b, .ref qw])), (qi, .inl (ci, 32, .inl (sa_bs x))), (qo, .inl (co, 32, .inl (sa_bs (sa_dN w 64 x)))), (qw, .inl (cw, 64, .inl w))] t) (va_A [(eq, .inr (1, [.int b, .ref qw])), (qi, .inl (ci, 32, .inl (sa_bs x))), (qo, .inl (co, 32, .inl (sa_bs y))), (qw, .inl (cw, 64, .inl w))] sz)) 1 8 (va_A [(eq, .inr (1, [.int b, .ref qw])), (qi, .inl (ci, 32, .inl (sa_bs x))), (qo, .inl (co, 32, .inl (sa_bs y))), (qw, .inl (cw, 64, .inl w))] sz) := by
  refine Met.ofW (cc := cX2_decryptBlock) (maxL := 8) (ret := none) (by decide) rfl ?_
  intro p e s m args below meth c s₁ B hml hv
  obtain ⟨rfl, hEx, hsz, hP, hK, hD0⟩ := hv
  have hx := B.exec
  have hb := B.bytes
  have hr := B.returns
  have hts := atoms_spec (ws := ws_ yX2_decryptBlock cX2_decryptBlock 8 none) B.pre
  have hts : ∀ w ∈ lw_all, w.before _ s = true := fun w h => hts w (List.mem_cons_of_mem _ h)
  have hown : s.vm.findClass RX2 = some m.cls := findClass_of_methodNamed B.named
  have hlocks := B.notSynchronized
  subst hsz
  have hD := hD0.self (sz := s.heap.size)
  generalize hAe : va_A [(eq, .inr (1, [.int b, .ref qw])), (qi, .inl (ci, 32, .inl (sa_bs x))), (qo, .inl (co, 32, .inl (sa_bs y))), (qw, .inl (cw, 64, .inl w))] s.heap.size = A at hD hEx ⊢
  have hA : ∀ q : Nat, s.heap.size ≤ q → A q := fun q h => by rw [← hAe]; exact Or.inr h
  have hS : va_S A s.heap s.heap [] := va_S.rf
  have hP : va_P (dC, dI) vwCl [(eq, .inr (1, [.int b, .ref qw])), (qi, .inl (ci, 32, .inl (sa_bs x))), (qo, .inl (co, 32, .inl (sa_bs y))), (qw, .inl (cw, 64, .inl w))] s.heap := hP
  have hl := lv_entry ([.ref eq, .ref qi, .int 0, .ref qo, .int 0]) (n := 8) (Nat.le_of_ble_eq_true rfl)
  rw [lg_entry_eq]
  generalize (lg_sl ([.ref eq, .ref qi, .int 0, .ref qo, .int 0]) ++ List.replicate (8 - (lg_sl ([.ref eq, .ref qi, .int 0, .ref qo, .int 0])).length) Slot.unset).toArray = ls at hl ⊢
  have hl : lv_has ls 8 [(0, .ref eq), (1, .ref qi), (2, .int 0), (3, .ref qo), (4, .int 0)] := hl
  refine lv_bipush (v := 8) hx hb dX2_decryptBlock_0 (by decide) ?_
  refine va_newa (atype := .int) (a0 := (8, .inl (fun _ => 0))) (N' := 8) hx hb (hts _ q196) (ty := .int) rfl hK hP hD hS hA (fun _ => rfl) (by decide) (by decide) (by decide) (Nat.le_of_ble_eq_true rfl) (Nat.le_of_ble_eq_true rfl) dX2_decryptBlock_2 (fun q_1 c_2 H hK hP hD hS => ?_)
  have hP : va_P (dC, dI) vwCl [(eq, .inr (1, [.int b, .ref qw])), (qi, .inl (ci, 32, .inl (sa_bs x))), (qo, .inl (co, 32, .inl (sa_bs y))), (qw, .inl (cw, 64, .inl w)), (q_1, .inl (c_2, 8, .inl (fun _ => 0)))] H := hP
  have hD : va_D A [(eq, .inr (1, [.int b, .ref qw])), (qi, .inl (ci, 32, .inl (sa_bs x))), (qo, .inl (co, 32, .inl (sa_bs y))), (qw, .inl (cw, 64, .inl w)), (q_1, .inl (c_2, 8, .inl (fun _ => 0)))] := hD
  have hK : va_K (dC, dI) vwCl [(ci, .byte), (co, .byte), (cw, .int), (c_2, .int)] s := hK
  refine W.widen (k := 1) (n := 8) (Nat.le_of_ble_eq_true rfl) (Nat.le_of_ble_eq_true rfl) ?_
  refine lv_astore (lv' := [(5, .ref q_1), (0, .ref eq), (1, .ref qi), (2, .int 0), (3, .ref qo), (4, .int 0)]) hx hb dX2_decryptBlock_4 hl (by decide) rfl (fun ls hl => ?_)
  refine lv_aload_n hx hb dX2_decryptBlock_6 rfl (lv_at hl 1 rfl) ?_
  refine lv_aload_n hx hb dX2_decryptBlock_7 rfl (lv_at hl 2 rfl) ?_
  refine lv_aload hx hb dX2_decryptBlock_8 (lv_at hl 0 rfl) ?_
  refine lv_iload_n hx hb dX2_decryptBlock_10 rfl (lv_at hl 3 rfl) ?_
  refine lv_iconst (v := 0) hx hb dX2_decryptBlock_11 (by decide) ?_
  have hPc := hP.sub (ws' := [(qi, .inl (ci, 32, .inl (sa_bs x))), (q_1, .inl (c_2, 8, .inl (fun _ => 0)))]) [1, 4] rfl
  have hDc := hD.sub (ws' := [(qi, .inl (ci, 32, .inl (sa_bs x))), (q_1, .inl (c_2, 8, .inl (fun _ => 0)))]) [1, 4] (by decide) rfl
  have hKc := hK.sub (tys' := [(ci, .byte), (c_2, .int)]) [0, 3] rfl
  have hFc := va_free (wc := [(qi, .inl (ci, 32, .inl (sa_bs x))), (q_1, .inl (c_2, 8, .inl (fun _ => 0)))]) hD hS hA [1, 4] rfl
  refine va_callv (va_runV (As := [.ref qi, .ref q_1, .int 0, .int 0]) (rest := []) ⟨hx, hb, hml, hown, hts⟩ (mt_bbi l dC dI H.size eq qi q_1 ci c_2 x (fun _ => 0)) (cwV 4 hts (lw_V q238 q240 qs4 q9 q241) rfl rfl rfl (by decide +kernel) ⟨Nat.le_of_ble_eq_true rfl, Nat.le_of_ble_eq_true rfl⟩) ⟨sx_blind, va_recv hK hP (ci := 1) (q0 := 0) rfl rfl, fun U hU hW => ⟨rfl, sx_Pre.mk hPc hKc hDc hU hW⟩⟩ rfl rfl hl.1 rfl (lv_room (Nat.le_of_ble_eq_true rfl)) dX2_decryptBlock_12 ⟨Nat.le_of_ble_eq_true rfl, Nat.le_of_ble_eq_true rfl⟩) hS (fun q _ h => hFc q h) hFc (fun u t H1 locs ht hvm hw hB hz1 hk1 hS => ?_)
  obtain ⟨hP1, hD1⟩ := hB
  rw [ht] at hP1
  obtain ⟨hP, hD⟩ := va_join (wr := [(eq, .inr (1, [.int b, .ref qw])), (qo, .inl (co, 32, .inl (sa_bs y))), (qw, .inl (cw, 64, .inl w))]) (w1 := [(qi, .inl (ci, 32, .inl (sa_bs x))), (q_1, .inl (c_2, 8, .inl (sa_mx x (fun _ => 0) 8)))]) hP hD [1, 4] [0, 2, 3] rfl rfl (by decide) (by decide) hk1 hFc hP1 hD1
  generalize H1 = H at hP hS ⊢
  have hP : va_P (dC, dI) vwCl [(eq, .inr (1, [.int b, .ref qw])), (qo, .inl (co, 32, .inl (sa_bs y))), (qw, .inl (cw, 64, .inl w)), (qi, .inl (ci, 32, .inl (sa_bs x))), (q_1, .inl (c_2, 8, .inl (sa_mx x (fun _ => 0) 8)))] H := hP
  have hD : va_D A [(eq, .inr (1, [.int b, .ref qw])), (qo, .inl (co, 32, .inl (sa_bs y))), (qw, .inl (cw, 64, .inl w)), (qi, .inl (ci, 32, .inl (sa_bs x))), (q_1, .inl (c_2, 8, .inl (sa_mx x (fun _ => 0) 8)))] := hD
  refine W.widen (k := 1) (n := 8) (Nat.le_of_ble_eq_true rfl) (Nat.le_of_ble_eq_true rfl) ?_
  have hP := sx_ext hP 4 (sa_dN w (64 - 64) x) rfl (fun j hj => (sa_mx_n x (fun _ => 0) 8 j hj).trans (by rw [show (64 - 64 : Nat) = 0 from rfl]; rfl))
  have hD := hD.set (p := 4) (a := q_1) (e := .inl (c_2, 8, .inl (sa_dN w (64 - 64) x))) rfl
  have hP : va_P (dC, dI) vwCl [(eq, .inr (1, [.int b, .ref qw])), (qo, .inl (co, 32, .inl (sa_bs y))), (qw, .inl (cw, 64, .inl w)), (qi, .inl (ci, 32, .inl (sa_bs x))), (q_1, .inl (c_2, 8, .inl (sa_dN w (64 - 64) x)))] H := hP
  have hD : va_D A [(eq, .inr (1, [.int b, .ref qw])), (qo, .inl (co, 32, .inl (sa_bs y))), (qw, .inl (cw, 64, .inl w)), (qi, .inl (ci, 32, .inl (sa_bs x))), (q_1, .inl (c_2, 8, .inl (sa_dN w (64 - 64) x)))] := hD
  refine lv_bipush (v := 63) hx hb dX2_decryptBlock_15 (by decide) ?_
  refine lv_istore (lv' := [(6, .int 63), (5, .ref q_1), (0, .ref eq), (1, .ref qi), (2, .int 0), (3, .ref qo), (4, .int 0)]) hx hb dX2_decryptBlock_17 hl (by decide) rfl (fun ls hl => ?_)
  have hl : lv_has ls 8 [(6, .int (nI 64 - 1)), (5, .ref q_1), (0, .ref eq), (1, .ref qi), (2, .int 0), (3, .ref qo), (4, .int 0)] := by rw [show nI 64 - 1 = (63 : Int32) by decide]; exact hl
  refine lp_dec eq qi qo qw q_1 tK ci co cw c_2 b x y w hx hb hml hown hts hA hK hEx 64 (Nat.le_refl _) _ _ _ (hP.sub [0, 3, 1, 2, 4] rfl) (hD.sub [0, 3, 1, 2, 4] (by decide) rfl) hS (lv_sub hl [2, 5, 6, 1, 0] rfl) (fun H locs ls hP hD hS hl => ?_)
  have hP : va_P (dC, dI) vwCl [(eq, .inr (1, [.int b, .ref qw])), (qi, .inl (ci, 32, .inl (sa_bs x))), (qo, .inl (co, 32, .inl (sa_bs y))), (qw, .inl (cw, 64, .inl w)), (q_1, .inl (c_2, 8, .inl (sa_dN w 64 x)))] H := hP
  have hD : va_D A [(eq, .inr (1, [.int b, .ref qw])), (qi, .inl (ci, 32, .inl (sa_bs x))), (qo, .inl (co, 32, .inl (sa_bs y))), (qw, .inl (cw, 64, .inl w)), (q_1, .inl (c_2, 8, .inl (sa_dN w 64 x)))] := hD
  refine lv_aload_n hx hb dX2_decryptBlock_269 rfl (lv_at hl 0 rfl) ?_
  refine lv_aload hx hb dX2_decryptBlock_270 (lv_at hl 3 rfl) ?_
  refine lv_aload_n hx hb dX2_decryptBlock_272 rfl (lv_at hl 1 rfl) ?_
  refine lv_iload hx hb dX2_decryptBlock_273 (lv_at hl 2 rfl) ?_
  have hPc := hP.sub (ws' := [(q_1, .inl (c_2, 8, .inl (sa_dN w 64 x))), (qo, .inl (co, 32, .inl (sa_bs y)))]) [4, 2] rfl
  have hDc := hD.sub (ws' := [(q_1, .inl (c_2, 8, .inl (sa_dN w 64 x))), (qo, .inl (co, 32, .inl (sa_bs y)))]) [4, 2] (by decide) rfl
  have hKc := hK.sub (tys' := [(c_2, .int), (co, .byte)]) [3, 1] rfl
  have hFc := va_free (wc := [(q_1, .inl (c_2, 8, .inl (sa_dN w 64 x))), (qo, .inl (co, 32, .inl (sa_bs y)))]) hD hS hA [4, 2] rfl
  refine va_callv (va_runV (As := [.ref q_1, .ref qo, .int 0]) (rest := []) ⟨hx, hb, hml, hown, hts⟩ (mt_i2b l dC dI H.size eq q_1 qo c_2 co (sa_dN w 64 x) (sa_bs y)) (cwV 3 hts (lw_V q244 q246 qs5 q9 q247) rfl rfl rfl (by decide +kernel) ⟨Nat.le_of_ble_eq_true rfl, Nat.le_of_ble_eq_true rfl⟩) ⟨sx_blind, va_recv hK hP (ci := 1) (q0 := 0) rfl rfl, fun U hU hW => ⟨rfl, sx_Pre.mk hPc hKc hDc hU hW⟩⟩ rfl rfl hl.1 rfl (lv_room (Nat.le_of_ble_eq_true rfl)) dX2_decryptBlock_275 ⟨Nat.le_of_ble_eq_true rfl, Nat.le_of_ble_eq_true rfl⟩) hS (fun q _ h => hFc q h) hFc (fun u t H1 locs ht hvm hw hB hz1 hk1 hS => ?_)
  obtain ⟨hP1, hD1⟩ := hB
  rw [ht] at hP1
  obtain ⟨hP, hD⟩ := va_join (wr := [(eq, .inr (1, [.int b, .ref qw])), (qi, .inl (ci, 32, .inl (sa_bs x))), (qw, .inl (cw, 64, .inl w))]) (w1 := [(q_1, .inl (c_2, 8, .inl (sa_dN w 64 x))), (qo, .inl (co, 32, .inl (sa_bs (sa_dN w 64 x))))]) hP hD [4, 2] [0, 1, 3] rfl rfl (by decide) (by decide) hk1 hFc hP1 hD1
  generalize H1 = H at hP hS ⊢
  have hP : va_P (dC, dI) vwCl [(eq, .inr (1, [.int b, .ref qw])), (qi, .inl (ci, 32, .inl (sa_bs x))), (qw, .inl (cw, 64, .inl w)), (q_1, .inl (c_2, 8, .inl (sa_dN w 64 x))), (qo, .inl (co, 32, .inl (sa_bs (sa_dN w 64 x))))] H := hP
  have hD : va_D A [(eq, .inr (1, [.int b, .ref qw])), (qi, .inl (ci, 32, .inl (sa_bs x))), (qw, .inl (cw, 64, .inl w)), (q_1, .inl (c_2, 8, .inl (sa_dN w 64 x))), (qo, .inl (co, 32, .inl (sa_bs (sa_dN w 64 x))))] := hD
  refine W.widen (k := 1) (n := 8) (Nat.le_of_ble_eq_true rfl) (Nat.le_of_ble_eq_true rfl) ?_
  have hP9 := hP.sub (ws' := [(eq, .inr (1, [.int b, .ref qw])), (qi, .inl (ci, 32, .inl (sa_bs x))), (qo, .inl (co, 32, .inl (sa_bs (sa_dN w 64 x)))), (qw, .inl (cw, 64, .inl w))]) [0, 1, 4, 2] rfl
  have hD9 := hD.sub (ws' := [(eq, .inr (1, [.int b, .ref qw])), (qi, .inl (ci, 32, .inl (sa_bs x))), (qo, .inl (co, 32, .inl (sa_bs (sa_dN w 64 x)))), (qw, .inl (cw, 64, .inl w))]) [0, 1, 4, 2] (by decide) rfl
  exact W.vret hx hb hr (fun t ht hW => ⟨⟨(), rfl, trivial, by rw [ht]; exact hP9, hD9⟩, hS.F ht⟩) hS.2.2 dX2_decryptBlock_278
end
section
/-! processBlock, run, lock, open, by contract -/
theorem sx_lwF {own : String} {idx : Nat} {C : String} {x y : MethodName} {b : ByteArray} {L : Nat} {r : Option FieldType} (h1 : Cond.methodLink own idx x ∈ lw_all) (h2 : Cond.selects C x y ∈ lw_all) (h3 : Cond.instanceMethod y ∈ lw_all) (h4 : Cond.initialized y.cls ∈ lw_all) (h5 : Cond.code y b L r ∈ lw_all) : GoodIn lw_all (va_wsF own idx C x y (ws_ y b L r)) := by
  refine lw_app ?_ (lw_meth h5)
  intro w hw
  simp only [List.mem_cons, List.not_mem_nil, or_false] at hw
  rcases hw with e | e | e | e
  · rw [e]; exact h1
  · rw [e]; exact h2
  · rw [e]; exact h3
  · rw [e]; exact h4
def yB_init : MethodName := ⟨"BlockCipher", "init", "(ZLCipherParameters;)V"⟩
def yB_process : MethodName := ⟨"BlockCipher", "processBlock", "([BI[BI)I"⟩
/-- what the calls through the interface ask of the tables -/
def sx_Fw (U : State) : Prop := va_Fw RX2 yB_init yX2_init_2 U ∧ va_Fw RX2 yB_process yX2_processBlock U
theorem sx_Fw.moved {u U : State} (hvm : u.vm.Alike U.vm) (h : sx_Fw u) : sx_Fw U := ⟨va_Fw.moved (by decide) hvm h.1, va_Fw.moved (by decide) hvm h.2⟩
def sx_PreF (t : Nat) (A : Nat → Prop) (D : va_G) (ws : va_W) (tys : List (ClassId × FieldType)) (sz : Nat) (U : State) : Prop := sx_Fw U ∧ sx_St "Shacal2Engine" "K" t sa_rk A U ∧ sx_Pre D ws tys sz U
theorem sx_blindF {t : Nat} {A : Nat → Prop} {D : va_G} {ws : va_W} {tys : List (ClassId × FieldType)} {sz : Nat} {av : List Value} : FrameBlind (va_Pc av (sx_PreF t A D ws tys sz)) := fun a U g mk q => ⟨q.1, sx_Fw.moved (u := U) (U := U.calling g mk a) (Vm.Alike.refl U.vm) q.2.1, q.2.2.1.blind, q.2.2.2.blind⟩
set_option maxHeartbeats 4000000 in
set_option maxRecDepth 100000 in
/-- processBlock(in, 0, out, 0), forEncryption = 1 -/
theorem mt_pb1 (l : Launch) (dC : Nat → ClassId) (dI : Nat → Nat → Nat) (sz : Nat) (eq qi qo qw tK : Nat) (ci co cw : ClassId) (x y w : Nat → Int32) : Met l yX2_processBlock (ws_ yX2_processBlock cX2_processBlock 5 (some .int)) ({ frames := 2, cells := 1, slots := 8, locals := 52 }) (va_Pc [.ref eq, .ref qi, .int 0, .ref qo, .int 0] (sx_PreE "Shacal2Engine" "K" tK sa_rk (va_A [(eq, .inr (1, [.int 1, .ref qw])), (qi, .inl (ci, 32, .inl (sa_bs x))), (qo, .inl (co, 32, .inl (sa_bs y))), (qw, .inl (cw, 64, .inl w))] sz) (dC, dI) [(eq, .inr (1, [.int 1, .ref qw])), (qi, .inl (ci, 32, .inl (sa_bs x))), (qo, .inl (co, 32, .inl (sa_bs y))), (qw, .inl (cw, 64, .inl w))] [(ci, .byte), (co, .byte), (cw, .int)] sz)) (va_Qi (fun (_ : Int32) (_ : Unit) => True) (fun _ t => sx_Post (dC, dI) (va_A [(eq, .inr (1, [.int 1, .ref qw])), (qi, .inl (ci, 32, .inl (sa_bs x))), (qo, .inl (co, 32, .inl (sa_bs y))), (qw, .inl (cw, 64, .inl w))] sz) [(eq, .inr (1, [.int 1, .ref qw])), (qi, .inl (ci, 32, .inl (sa_bs x))), (qo, .inl (co, 32, .inl (sa_bs (sa_eN w 64 x)))), (qw, .inl (cw, 64, .inl w))] t) (va_A [(eq, .inr (1, [.int 1, .ref qw])), (qi, .inl (ci, 32, .inl (sa_bs x))), (qo, .inl (co, 32, .inl (sa_bs y))), (qw, .inl (cw, 64, .inl w))] sz)) 1 8 (va_A [(eq, .inr (1, [.int 1, .ref qw])), (qi, .inl (ci, 32, .inl (sa_bs x))), (qo, .inl (co, 32, .inl (sa_bs y))), (qw, .inl (cw, 64, .inl w))] sz) := by
  refine Met.ofW (cc := cX2_processBlock) (maxL := 5) (ret := (some .int)) (by decide) rfl ?_
  intro p e s m args below meth c s₁ B hml hv
  obtain ⟨rfl, hEx, hsz, hP, hK, hD0⟩ := hv
  have hx := B.exec
  have hb := B.bytes
  have hr := B.returns
  have hts := atoms_spec (ws := ws_ yX2_processBlock cX2_processBlock 5 (some .int)) B.pre
  have hts : ∀ w ∈ lw_all, w.before _ s = true := fun w h => hts w (List.mem_cons_of_mem _ h)
  have hown : s.vm.findClass RX2 = some m.cls := findClass_of_methodNamed B.named
  have hlocks := B.notSynchronized
  subst hsz
  have hD := hD0.self (sz := s.heap.size)
  generalize hAe : va_A [(eq, .inr (1, [.int 1, .ref qw])), (qi, .inl (ci, 32, .inl (sa_bs x))), (qo, .inl (co, 32, .inl (sa_bs y))), (qw, .inl (cw, 64, .inl w))] s.heap.size = A at hD hEx ⊢
  have hA : ∀ q : Nat, s.heap.size ≤ q → A q := fun q h => by rw [← hAe]; exact Or.inr h
  have hS : va_S A s.heap s.heap [] := va_S.rf
  have hP : va_P (dC, dI) vwCl [(eq, .inr (1, [.int 1, .ref qw])), (qi, .inl (ci, 32, .inl (sa_bs x))), (qo, .inl (co, 32, .inl (sa_bs y))), (qw, .inl (cw, 64, .inl w))] s.heap := hP
  have hl := lv_entry ([.ref eq, .ref qi, .int 0, .ref qo, .int 0]) (n := 5) (Nat.le_of_ble_eq_true rfl)
  rw [lg_entry_eq]
  generalize (lg_sl ([.ref eq, .ref qi, .int 0, .ref qo, .int 0]) ++ List.replicate (5 - (lg_sl ([.ref eq, .ref qi, .int 0, .ref qo, .int 0])).length) Slot.unset).toArray = ls at hl ⊢
  have hl : lv_has ls 5 [(0, .ref eq), (1, .ref qi), (2, .int 0), (3, .ref qo), (4, .int 0)] := hl
  refine lv_aload_n hx hb dX2_processBlock_0 rfl (lv_at hl 0 rfl) ?_
  refine va_get (D := (dC, dI)) (ci := 1) (v := .ref qw) (C := RX2) (T := TX2) (N := 2) hx hb hts in_X2 hown hK hP 0 rfl rfl 1 (by decide) (hts _ q54) (fun _ h9 => h9) rfl dX2_processBlock_1 ?_
  refine lv_ifnonnull (tgt := 17) hx hb dX2_processBlock_4 (by decide) ?_
  refine lv_iload_n hx hb dX2_processBlock_17 rfl (lv_at hl 2 rfl) ?_
  refine lv_bipush (v := 32) hx hb dX2_processBlock_18 (by decide) ?_
  refine lv_iadd hx hb dX2_processBlock_20 ?_
  refine sx_top (v := 32) (by decide) ?_
  refine lv_aload_n hx hb dX2_processBlock_21 rfl (lv_at hl 1 rfl) ?_
  refine va_alen (v := 32) hx hb hK hP 1 0 rfl rfl rfl dX2_processBlock_22 ?_
  refine lv_icmp_le (tgt := 36) hx hb dX2_processBlock_23 (by decide) (fun hc => ?_) (fun hc => absurd hc (by decide))
  refine lv_iload hx hb dX2_processBlock_36 (lv_at hl 4 rfl) ?_
  refine lv_bipush (v := 32) hx hb dX2_processBlock_38 (by decide) ?_
  refine lv_iadd hx hb dX2_processBlock_40 ?_
  refine sx_top (v := 32) (by decide) ?_
  refine lv_aload_n hx hb dX2_processBlock_41 rfl (lv_at hl 3 rfl) ?_
  refine va_alen (v := 32) hx hb hK hP 2 1 rfl rfl rfl dX2_processBlock_42 ?_
  refine lv_icmp_le (tgt := 56) hx hb dX2_processBlock_43 (by decide) (fun hc => ?_) (fun hc => absurd hc (by decide))
  refine lv_aload_n hx hb dX2_processBlock_56 rfl (lv_at hl 0 rfl) ?_
  refine va_get (D := (dC, dI)) (ci := 1) (v := .int 1) (C := RX2) (T := TX2) (N := 2) hx hb hts in_X2 hown hK hP 0 rfl rfl 0 (by decide) (hts _ q53) (fun _ h9 => h9) rfl dX2_processBlock_57 ?_
  refine lv_if_eq (tgt := 75) hx hb dX2_processBlock_60 (by decide) (fun hc => absurd hc (by decide)) (fun hc => ?_)
  refine lv_aload_n hx hb dX2_processBlock_63 rfl (lv_at hl 0 rfl) ?_
  refine lv_aload_n hx hb dX2_processBlock_64 rfl (lv_at hl 1 rfl) ?_
  refine lv_iload_n hx hb dX2_processBlock_65 rfl (lv_at hl 2 rfl) ?_
  refine lv_aload_n hx hb dX2_processBlock_66 rfl (lv_at hl 3 rfl) ?_
  refine lv_iload hx hb dX2_processBlock_67 (lv_at hl 4 rfl) ?_
  have hPc := hP.sub (ws' := [(eq, .inr (1, [.int 1, .ref qw])), (qi, .inl (ci, 32, .inl (sa_bs x))), (qo, .inl (co, 32, .inl (sa_bs y))), (qw, .inl (cw, 64, .inl w))]) [0, 1, 2, 3] rfl
  have hDc := hD.sub (ws' := [(eq, .inr (1, [.int 1, .ref qw])), (qi, .inl (ci, 32, .inl (sa_bs x))), (qo, .inl (co, 32, .inl (sa_bs y))), (qw, .inl (cw, 64, .inl w))]) [0, 1, 2, 3] (by decide) rfl
  have hKc := hK.sub (tys' := [(ci, .byte), (co, .byte), (cw, .int)]) [0, 1, 2] rfl
  have hFc := va_free (wc := [(eq, .inr (1, [.int 1, .ref qw])), (qi, .inl (ci, 32, .inl (sa_bs x))), (qo, .inl (co, 32, .inl (sa_bs y))), (qw, .inl (cw, 64, .inl w))]) hD hS hA [0, 1, 2, 3] rfl
  refine va_callv (va_runV (As := [.ref qi, .int 0, .ref qo, .int 0]) (rest := []) ⟨hx, hb, hml, hown, hts⟩ (mt_enc l dC dI s.heap.size eq qi qo qw tK ci co cw 1 x y w) (cwV 4 hts (lw_V q234 q236 qs3 q9 q237) rfl rfl rfl (by decide +kernel) ⟨Nat.le_of_ble_eq_true rfl, Nat.le_of_ble_eq_true rfl⟩) ⟨sx_blindE, va_recv hK hP (ci := 1) (q0 := 0) rfl rfl, fun U hU hW => ⟨rfl, hEx.pass hS hFc hU hW, sx_Pre.mk hPc hKc hDc hU hW⟩⟩ rfl rfl hl.1 rfl (lv_room (Nat.le_of_ble_eq_true rfl)) dX2_processBlock_69 ⟨Nat.le_of_ble_eq_true rfl, Nat.le_of_ble_eq_true rfl⟩) hS (fun q _ h => hFc q h) hFc (fun u t H1 locs ht hvm hw hB hz1 hk1 hS => ?_)
  obtain ⟨hP1, hD1⟩ := hB
  rw [ht] at hP1
  obtain ⟨hP, hD⟩ := va_join (wr := []) (w1 := [(eq, .inr (1, [.int 1, .ref qw])), (qi, .inl (ci, 32, .inl (sa_bs x))), (qo, .inl (co, 32, .inl (sa_bs (sa_eN w 64 x)))), (qw, .inl (cw, 64, .inl w))]) hP hD [0, 1, 2, 3] [] rfl rfl (by decide) (by decide) hk1 hFc hP1 hD1
  generalize H1 = H at hP hS ⊢
  have hP : va_P (dC, dI) vwCl [(eq, .inr (1, [.int 1, .ref qw])), (qi, .inl (ci, 32, .inl (sa_bs x))), (qo, .inl (co, 32, .inl (sa_bs (sa_eN w 64 x)))), (qw, .inl (cw, 64, .inl w))] H := hP
  have hD : va_D A [(eq, .inr (1, [.int 1, .ref qw])), (qi, .inl (ci, 32, .inl (sa_bs x))), (qo, .inl (co, 32, .inl (sa_bs (sa_eN w 64 x)))), (qw, .inl (cw, 64, .inl w))] := hD
  refine W.widen (k := 1) (n := 8) (Nat.le_of_ble_eq_true rfl) (Nat.le_of_ble_eq_true rfl) ?_
  refine lv_goto (tgt := 84) hx hb dX2_processBlock_72 (by decide) ?_
  refine lv_bipush (v := 32) hx hb dX2_processBlock_84 (by decide) ?_
  exact W.iret (v := 32) hx hb hr (fun t ht hW => ⟨⟨32, (), rfl, trivial, by rw [ht]; exact hP, hD⟩, hS.F ht⟩) hS.2.2 dX2_processBlock_86
set_option maxHeartbeats 4000000 in
set_option maxRecDepth 100000 in
/-- processBlock(in, 0, out, 0), forEncryption = 0 -/
theorem mt_pb0 (l : Launch) (dC : Nat → ClassId) (dI : Nat → Nat → Nat) (sz : Nat) (eq qi qo qw tK : Nat) (ci co cw : ClassId) (x y w : Nat → Int32) : Met l yX2_processBlock (ws_ yX2_processBlock cX2_processBlock 5 (some .int)) ({ frames := 2, cells := 1, slots := 8, locals := 52 }) (va_Pc [.ref eq, .ref qi, .int 0, .ref qo, .int 0] (sx_PreE "Shacal2Engine" "K" tK sa_rk (va_A [(eq, .inr (1, [.int 0, .ref qw])), (qi, .inl (ci, 32, .inl (sa_bs x))), (qo, .inl (co, 32, .inl (sa_bs y))), (qw, .inl (cw, 64, .inl w))] sz) (dC, dI) [(eq, .inr (1, [.int 0, .ref qw])), (qi, .inl (ci, 32, .inl (sa_bs x))), (qo, .inl (co, 32, .inl (sa_bs y))), (qw, .inl (cw, 64, .inl w))] [(ci, .byte), (co, .byte), (cw, .int)] sz)) (va_Qi (fun (_ : Int32) (_ : Unit) => True) (fun _ t => sx_Post (dC, dI) (va_A [(eq, .inr (1, [.int 0, .ref qw])), (qi, .inl (ci, 32, .inl (sa_bs x))), (qo, .inl (co, 32, .inl (sa_bs y))), (qw, .inl (cw, 64, .inl w))] sz) [(eq, .inr (1, [.int 0, .ref qw])), (qi, .inl (ci, 32, .inl (sa_bs x))), (qo, .inl (co, 32, .inl (sa_bs (sa_dN w 64 x)))), (qw, .inl (cw, 64, .inl w))] t) (va_A [(eq, .inr (1, [.int 0, .ref qw])), (qi, .inl (ci, 32, .inl (sa_bs x))), (qo, .inl (co, 32, .inl (sa_bs y))), (qw, .inl (cw, 64, .inl w))] sz)) 1 8 (va_A [(eq, .inr (1, [.int 0, .ref qw])), (qi, .inl (ci, 32, .inl (sa_bs x))), (qo, .inl (co, 32, .inl (sa_bs y))), (qw, .inl (cw, 64, .inl w))] sz) := by
  refine Met.ofW (cc := cX2_processBlock) (maxL := 5) (ret := (some .int)) (by decide) rfl ?_
  intro p e s m args below meth c s₁ B hml hv
  obtain ⟨rfl, hEx, hsz, hP, hK, hD0⟩ := hv
  have hx := B.exec
  have hb := B.bytes
  have hr := B.returns
  have hts := atoms_spec (ws := ws_ yX2_processBlock cX2_processBlock 5 (some .int)) B.pre
  have hts : ∀ w ∈ lw_all, w.before _ s = true := fun w h => hts w (List.mem_cons_of_mem _ h)
  have hown : s.vm.findClass RX2 = some m.cls := findClass_of_methodNamed B.named
  have hlocks := B.notSynchronized
  subst hsz
  have hD := hD0.self (sz := s.heap.size)
  generalize hAe : va_A [(eq, .inr (1, [.int 0, .ref qw])), (qi, .inl (ci, 32, .inl (sa_bs x))), (qo, .inl (co, 32, .inl (sa_bs y))), (qw, .inl (cw, 64, .inl w))] s.heap.size = A at hD hEx ⊢
  have hA : ∀ q : Nat, s.heap.size ≤ q → A q := fun q h => by rw [← hAe]; exact Or.inr h
  have hS : va_S A s.heap s.heap [] := va_S.rf
  have hP : va_P (dC, dI) vwCl [(eq, .inr (1, [.int 0, .ref qw])), (qi, .inl (ci, 32, .inl (sa_bs x))), (qo, .inl (co, 32, .inl (sa_bs y))), (qw, .inl (cw, 64, .inl w))] s.heap := hP
  have hl := lv_entry ([.ref eq, .ref qi, .int 0, .ref qo, .int 0]) (n := 5) (Nat.le_of_ble_eq_true rfl)
  rw [lg_entry_eq]
  generalize (lg_sl ([.ref eq, .ref qi, .int 0, .ref qo, .int 0]) ++ List.replicate (5 - (lg_sl ([.ref eq, .ref qi, .int 0, .ref qo, .int 0])).length) Slot.unset).toArray = ls at hl ⊢
  have hl : lv_has ls 5 [(0, .ref eq), (1, .ref qi), (2, .int 0), (3, .ref qo), (4, .int 0)] := hl
  refine lv_aload_n hx hb dX2_processBlock_0 rfl (lv_at hl 0 rfl) ?_
  refine va_get (D := (dC, dI)) (ci := 1) (v := .ref qw) (C := RX2) (T := TX2) (N := 2) hx hb hts in_X2 hown hK hP 0 rfl rfl 1 (by decide) (hts _ q54) (fun _ h9 => h9) rfl dX2_processBlock_1 ?_
  refine lv_ifnonnull (tgt := 17) hx hb dX2_processBlock_4 (by decide) ?_
  refine lv_iload_n hx hb dX2_processBlock_17 rfl (lv_at hl 2 rfl) ?_
  refine lv_bipush (v := 32) hx hb dX2_processBlock_18 (by decide) ?_
  refine lv_iadd hx hb dX2_processBlock_20 ?_
  refine sx_top (v := 32) (by decide) ?_
  refine lv_aload_n hx hb dX2_processBlock_21 rfl (lv_at hl 1 rfl) ?_
  refine va_alen (v := 32) hx hb hK hP 1 0 rfl rfl rfl dX2_processBlock_22 ?_
  refine lv_icmp_le (tgt := 36) hx hb dX2_processBlock_23 (by decide) (fun hc => ?_) (fun hc => absurd hc (by decide))
  refine lv_iload hx hb dX2_processBlock_36 (lv_at hl 4 rfl) ?_
  refine lv_bipush (v := 32) hx hb dX2_processBlock_38 (by decide) ?_
  refine lv_iadd hx hb dX2_processBlock_40 ?_
  refine sx_top (v := 32) (by decide) ?_
  refine lv_aload_n hx hb dX2_processBlock_41 rfl (lv_at hl 3 rfl) ?_
  refine va_alen (v := 32) hx hb hK hP 2 1 rfl rfl rfl dX2_processBlock_42 ?_
  refine lv_icmp_le (tgt := 56) hx hb dX2_processBlock_43 (by decide) (fun hc => ?_) (fun hc => absurd hc (by decide))
  refine lv_aload_n hx hb dX2_processBlock_56 rfl (lv_at hl 0 rfl) ?_
  refine va_get (D := (dC, dI)) (ci := 1) (v := .int 0) (C := RX2) (T := TX2) (N := 2) hx hb hts in_X2 hown hK hP 0 rfl rfl 0 (by decide) (hts _ q53) (fun _ h9 => h9) rfl dX2_processBlock_57 ?_
  refine lv_if_eq (tgt := 75) hx hb dX2_processBlock_60 (by decide) (fun hc => ?_) (fun hc => absurd hc (by decide))
  refine lv_aload_n hx hb dX2_processBlock_75 rfl (lv_at hl 0 rfl) ?_
  refine lv_aload_n hx hb dX2_processBlock_76 rfl (lv_at hl 1 rfl) ?_
  refine lv_iload_n hx hb dX2_processBlock_77 rfl (lv_at hl 2 rfl) ?_
  refine lv_aload_n hx hb dX2_processBlock_78 rfl (lv_at hl 3 rfl) ?_
  refine lv_iload hx hb dX2_processBlock_79 (lv_at hl 4 rfl) ?_
  have hPc := hP.sub (ws' := [(eq, .inr (1, [.int 0, .ref qw])), (qi, .inl (ci, 32, .inl (sa_bs x))), (qo, .inl (co, 32, .inl (sa_bs y))), (qw, .inl (cw, 64, .inl w))]) [0, 1, 2, 3] rfl
  have hDc := hD.sub (ws' := [(eq, .inr (1, [.int 0, .ref qw])), (qi, .inl (ci, 32, .inl (sa_bs x))), (qo, .inl (co, 32, .inl (sa_bs y))), (qw, .inl (cw, 64, .inl w))]) [0, 1, 2, 3] (by decide) rfl
  have hKc := hK.sub (tys' := [(ci, .byte), (co, .byte), (cw, .int)]) [0, 1, 2] rfl
  have hFc := va_free (wc := [(eq, .inr (1, [.int 0, .ref qw])), (qi, .inl (ci, 32, .inl (sa_bs x))), (qo, .inl (co, 32, .inl (sa_bs y))), (qw, .inl (cw, 64, .inl w))]) hD hS hA [0, 1, 2, 3] rfl
  refine va_callv (va_runV (As := [.ref qi, .int 0, .ref qo, .int 0]) (rest := []) ⟨hx, hb, hml, hown, hts⟩ (mt_dec l dC dI s.heap.size eq qi qo qw tK ci co cw 0 x y w) (cwV 4 hts (lw_V q248 q250 qs6 q9 q251) rfl rfl rfl (by decide +kernel) ⟨Nat.le_of_ble_eq_true rfl, Nat.le_of_ble_eq_true rfl⟩) ⟨sx_blindE, va_recv hK hP (ci := 1) (q0 := 0) rfl rfl, fun U hU hW => ⟨rfl, hEx.pass hS hFc hU hW, sx_Pre.mk hPc hKc hDc hU hW⟩⟩ rfl rfl hl.1 rfl (lv_room (Nat.le_of_ble_eq_true rfl)) dX2_processBlock_81 ⟨Nat.le_of_ble_eq_true rfl, Nat.le_of_ble_eq_true rfl⟩) hS (fun q _ h => hFc q h) hFc (fun u t H1 locs ht hvm hw hB hz1 hk1 hS => ?_)
  obtain ⟨hP1, hD1⟩ := hB
  rw [ht] at hP1
  obtain ⟨hP, hD⟩ := va_join (wr := []) (w1 := [(eq, .inr (1, [.int 0, .ref qw])), (qi, .inl (ci, 32, .inl (sa_bs x))), (qo, .inl (co, 32, .inl (sa_bs (sa_dN w 64 x)))), (qw, .inl (cw, 64, .inl w))]) hP hD [0, 1, 2, 3] [] rfl rfl (by decide) (by decide) hk1 hFc hP1 hD1
  generalize H1 = H at hP hS ⊢
  have hP : va_P (dC, dI) vwCl [(eq, .inr (1, [.int 0, .ref qw])), (qi, .inl (ci, 32, .inl (sa_bs x))), (qo, .inl (co, 32, .inl (sa_bs (sa_dN w 64 x)))), (qw, .inl (cw, 64, .inl w))] H := hP
  have hD : va_D A [(eq, .inr (1, [.int 0, .ref qw])), (qi, .inl (ci, 32, .inl (sa_bs x))), (qo, .inl (co, 32, .inl (sa_bs (sa_dN w 64 x)))), (qw, .inl (cw, 64, .inl w))] := hD
  refine W.widen (k := 1) (n := 8) (Nat.le_of_ble_eq_true rfl) (Nat.le_of_ble_eq_true rfl) ?_
  refine lv_bipush (v := 32) hx hb dX2_processBlock_84 (by decide) ?_
  exact W.iret (v := 32) hx hb hr (fun t ht hW => ⟨⟨32, (), rfl, trivial, by rw [ht]; exact hP, hD⟩, hS.F ht⟩) hS.2.2 dX2_processBlock_86
set_option maxHeartbeats 4000000 in
set_option maxRecDepth 100000 in
/-- run: its copy of the key -/
theorem lp_run {p : Program} {l : Launch} {e : Env} {R : Room} {s : State} {m : MethodId} {args : Array Value} {below : List Frame} {meth : Method} {c : Code} {Q : State → Prop} {A : Nat → Prop} {cells slots : Nat} {dC : Nat → ClassId} {dI : Nat → Nat → Nat} (h qk qb qo qc : Nat) (ck cb co cc : ClassId) (b : Int32) (f x y : Nat → Int32) (hx : p.tables.exec = Jvm.exec) (hb : c.code = cX1_run) (hml : c.maxLocals = 5) (hown : s.vm.findClass RX1 = some m.cls) (hts : ∀ w ∈ lw_all, w.before args s = true) (hA : ∀ q : Nat, s.heap.size ≤ q → A q) (hK : va_K (dC, dI) vwCl [(ck, .byte), (cb, .byte), (co, .byte), (cc, .byte)] s) :
    ∀ (n i : Nat), i ≤ 64 → 64 < i + n → ∀ (H : Heap) (locs : List Loc) (ls : Array Slot), va_P (dC, dI) vwCl [(h, .inr (0, [.ref qk, .ref qb, .ref qo])), (qk, .inl (ck, 64, .inl (sa_bs f))), (qb, .inl (cb, 32, .inl (sa_bs x))), (qo, .inl (co, 32, .inl (sa_bs y))), (qc, .inl (cc, 64, .inl (sa_mx (sa_bs f) (fun _ => 0) i)))] H → va_D A [(h, .inr (0, [.ref qk, .ref qb, .ref qo])), (qk, .inl (ck, 64, .inl (sa_bs f))), (qb, .inl (cb, 32, .inl (sa_bs x))), (qo, .inl (co, 32, .inl (sa_bs y))), (qc, .inl (cc, 64, .inl (sa_mx (sa_bs f) (fun _ => 0) i)))] → va_S A s.heap H locs → lv_has ls 5 [(0, .ref h), (1, .int b), (3, .ref qc), (4, .int (nI i))] → (∀ (H : Heap) (locs : List Loc) (ls : Array Slot), va_P (dC, dI) vwCl [(h, .inr (0, [.ref qk, .ref qb, .ref qo])), (qk, .inl (ck, 64, .inl (sa_bs f))), (qb, .inl (cb, 32, .inl (sa_bs x))), (qo, .inl (co, 32, .inl (sa_bs y))), (qc, .inl (cc, 64, .inl (sa_mx (sa_bs f) (fun _ => 0) 64)))] H → va_D A [(h, .inr (0, [.ref qk, .ref qb, .ref qo])), (qk, .inl (ck, 64, .inl (sa_bs f))), (qb, .inl (cb, 32, .inl (sa_bs x))), (qo, .inl (co, 32, .inl (sa_bs y))), (qc, .inl (cc, 64, .inl (sa_mx (sa_bs f) (fun _ => 0) 64)))] → va_S A s.heap H locs → lv_has ls 5 [(0, .ref h), (1, .int b), (3, .ref qc), (4, .int (nI 64))] → W p l e R s m args below meth c H locs cells slots Q (F0 m 32 ls [])) → W p l e R s m args below meth c H locs cells slots Q (F0 m 8 ls []) := by
  intro n
  induction n with
  | zero =>
    intro i h1 h2
    exact absurd h2 (by omega)
  | succ n ih =>
    intro i hi hi2 H locs ls hP hD hS hl kk
    refine lv_iload hx hb dX1_run_8 (lv_at hl 3 rfl) ?_
    refine lv_aload_n hx hb dX1_run_10 rfl (lv_at hl 2 rfl) ?_
    refine va_alen (v := 64) hx hb hK hP 4 3 rfl rfl rfl dX1_run_11 ?_
    refine lv_icmp_ge (tgt := 32) hx hb dX1_run_12 (by decide) (fun hc => ?_) (fun hc => ?_)
    · have hc2 := (nI_leI (a := 64) (b := i) (by decide) (by omega)).mp hc
      obtain rfl : i = 64 := by omega
      exact kk H locs ls hP hD hS hl
    · have hlt : i < 64 := Nat.lt_of_not_le fun q => hc ((nI_leI (a := 64) (b := i) (by decide) (by omega)).mpr q)
      refine lv_aload_n hx hb dX1_run_15 rfl (lv_at hl 2 rfl) ?_
      refine lv_iload hx hb dX1_run_16 (lv_at hl 3 rfl) ?_
      refine lv_aload_n hx hb dX1_run_18 rfl (lv_at hl 0 rfl) ?_
      refine va_get (D := (dC, dI)) (ci := 0) (v := .ref qk) (C := RX1) (T := TX1) (N := 3) hx hb hts in_X1 hown hK hP 0 rfl rfl 0 (by decide) (hts _ q28) (fun _ h9 => h9) rfl dX1_run_19 ?_
      refine lv_iload hx hb dX1_run_22 (lv_at hl 3 rfl) ?_
      refine sx_bald (v := (sa_bs f) i) hx hb hK hP 1 0 rfl rfl i rfl (by omega) (by decide) rfl dX1_run_24 ?_
      refine sx_bast (g := upd (sa_mx (sa_bs f) (fun _ => 0) i) i ((sa_bs f) i)) hx hb hK hP hD hS 4 3 rfl rfl i rfl (by omega) (by decide) (sa_by_nar _ _) (fun _ _ => rfl) dX1_run_25 (fun H locs hP hD hS => ?_)
      have hP : va_P (dC, dI) vwCl [(h, .inr (0, [.ref qk, .ref qb, .ref qo])), (qk, .inl (ck, 64, .inl (sa_bs f))), (qb, .inl (cb, 32, .inl (sa_bs x))), (qo, .inl (co, 32, .inl (sa_bs y))), (qc, .inl (cc, 64, .inl (upd (sa_mx (sa_bs f) (fun _ => 0) i) i ((sa_bs f) i))))] H := hP
      have hD : va_D A [(h, .inr (0, [.ref qk, .ref qb, .ref qo])), (qk, .inl (ck, 64, .inl (sa_bs f))), (qb, .inl (cb, 32, .inl (sa_bs x))), (qo, .inl (co, 32, .inl (sa_bs y))), (qc, .inl (cc, 64, .inl (upd (sa_mx (sa_bs f) (fun _ => 0) i) i ((sa_bs f) i))))] := hD
      have hP := sx_ext hP 4 (sa_mx (sa_bs f) (fun _ => 0) (i + 1)) rfl (fun j _ => congrFun (sa_mx_S (sa_bs f) (fun _ => 0) i) j)
      have hD := hD.set (p := 4) (a := qc) (e := .inl (cc, 64, .inl (sa_mx (sa_bs f) (fun _ => 0) (i + 1)))) rfl
      have hP : va_P (dC, dI) vwCl [(h, .inr (0, [.ref qk, .ref qb, .ref qo])), (qk, .inl (ck, 64, .inl (sa_bs f))), (qb, .inl (cb, 32, .inl (sa_bs x))), (qo, .inl (co, 32, .inl (sa_bs y))), (qc, .inl (cc, 64, .inl (sa_mx (sa_bs f) (fun _ => 0) (i + 1))))] H := hP
      have hD : va_D A [(h, .inr (0, [.ref qk, .ref qb, .ref qo])), (qk, .inl (ck, 64, .inl (sa_bs f))), (qb, .inl (cb, 32, .inl (sa_bs x))), (qo, .inl (co, 32, .inl (sa_bs y))), (qc, .inl (cc, 64, .inl (sa_mx (sa_bs f) (fun _ => 0) (i + 1))))] := hD
      refine lv_iinc (v := nI (i + 1)) (lv' := [(4, .int (nI (i + 1))), (0, .ref h), (1, .int b), (3, .ref qc)]) hx hb dX1_run_26 hl (k := 3) rfl (nI_1 i) (by decide) rfl (fun ls hl => ?_)
      refine lv_goto (tgt := 8) hx hb dX1_run_29 (by decide) ?_
      exact ih (i + 1) (by omega) (by omega) H locs ls (hP.sub [0, 1, 2, 3, 4] rfl) (hD.sub [0, 1, 2, 3, 4] (by decide) rfl) hS (lv_sub hl [1, 2, 3, 0] rfl) kk
set_option maxHeartbeats 4000000 in
set_option maxRecDepth 100000 in
/-- run(1, kind) -/
theorem mt_run1 (l : Launch) (dC : Nat → ClassId) (dI : Nat → Nat → Nat) (sz : Nat) (h qk qb qo tK : Nat) (ck cb co : ClassId) (f x y : Nat → Int32) (x0 : Int32) : Met l yX1_run (ws_ yX1_run cX1_run 5 none) ({ frames := 5, cells := 6, slots := 203, locals := 140 }) (va_Pc [.ref h, .int 1, .int x0] (sx_PreF tK (va_A [(h, .inr (0, [.ref qk, .ref qb, .ref qo])), (qk, .inl (ck, 64, .inl (sa_bs f))), (qb, .inl (cb, 32, .inl (sa_bs x))), (qo, .inl (co, 32, .inl (sa_bs y)))] sz) (dC, dI) [(h, .inr (0, [.ref qk, .ref qb, .ref qo])), (qk, .inl (ck, 64, .inl (sa_bs f))), (qb, .inl (cb, 32, .inl (sa_bs x))), (qo, .inl (co, 32, .inl (sa_bs y)))] [(ck, .byte), (cb, .byte), (co, .byte)] sz)) (va_Qv (fun _ : Unit => True) (fun _ t => sx_Post (dC, dI) (va_A [(h, .inr (0, [.ref qk, .ref qb, .ref qo])), (qk, .inl (ck, 64, .inl (sa_bs f))), (qb, .inl (cb, 32, .inl (sa_bs x))), (qo, .inl (co, 32, .inl (sa_bs y)))] sz) [(h, .inr (0, [.ref qk, .ref qb, .ref qo])), (qk, .inl (ck, 64, .inl (sa_bs f))), (qb, .inl (cb, 32, .inl (sa_bs x))), (qo, .inl (co, 32, .inl (sa_bs (sa_enc f x))))] t) (va_A [(h, .inr (0, [.ref qk, .ref qb, .ref qo])), (qk, .inl (ck, 64, .inl (sa_bs f))), (qb, .inl (cb, 32, .inl (sa_bs x))), (qo, .inl (co, 32, .inl (sa_bs y)))] sz)) 6 203 (va_A [(h, .inr (0, [.ref qk, .ref qb, .ref qo])), (qk, .inl (ck, 64, .inl (sa_bs f))), (qb, .inl (cb, 32, .inl (sa_bs x))), (qo, .inl (co, 32, .inl (sa_bs y)))] sz) := by
  refine Met.ofW (cc := cX1_run) (maxL := 5) (ret := none) (by decide) rfl ?_
  intro p e s m args below meth c s₁ B hml hv
  obtain ⟨rfl, hFw, hEx, hsz, hP, hK, hD0⟩ := hv
  have hx := B.exec
  have hb := B.bytes
  have hr := B.returns
  have hts := atoms_spec (ws := ws_ yX1_run cX1_run 5 none) B.pre
  have hts : ∀ w ∈ lw_all, w.before _ s = true := fun w h => hts w (List.mem_cons_of_mem _ h)
  have hown : s.vm.findClass RX1 = some m.cls := findClass_of_methodNamed B.named
  have hlocks := B.notSynchronized
  subst hsz
  have hD := hD0.self (sz := s.heap.size)
  generalize hAe : va_A [(h, .inr (0, [.ref qk, .ref qb, .ref qo])), (qk, .inl (ck, 64, .inl (sa_bs f))), (qb, .inl (cb, 32, .inl (sa_bs x))), (qo, .inl (co, 32, .inl (sa_bs y)))] s.heap.size = A at hD hEx ⊢
  have hA : ∀ q : Nat, s.heap.size ≤ q → A q := fun q h => by rw [← hAe]; exact Or.inr h
  have hS : va_S A s.heap s.heap [] := va_S.rf
  have hP : va_P (dC, dI) vwCl [(h, .inr (0, [.ref qk, .ref qb, .ref qo])), (qk, .inl (ck, 64, .inl (sa_bs f))), (qb, .inl (cb, 32, .inl (sa_bs x))), (qo, .inl (co, 32, .inl (sa_bs y)))] s.heap := hP
  have hl := lv_entry ([.ref h, .int 1, .int x0]) (n := 5) (Nat.le_of_ble_eq_true rfl)
  rw [lg_entry_eq]
  generalize (lg_sl ([.ref h, .int 1, .int x0]) ++ List.replicate (5 - (lg_sl ([.ref h, .int 1, .int x0])).length) Slot.unset).toArray = ls at hl ⊢
  have hl : lv_has ls 5 [(0, .ref h), (1, .int 1), (2, .int x0)] := hl
  refine lv_bipush (v := 64) hx hb dX1_run_0 (by decide) ?_
  refine va_newa (atype := .byte) (a0 := (64, .inl (fun _ => 0))) (N' := 64) hx hb (hts _ q38) (ty := .byte) rfl hK hP hD hS hA (fun _ => rfl) (by decide) (by decide) (by decide) (Nat.le_of_ble_eq_true rfl) (Nat.le_of_ble_eq_true rfl) dX1_run_2 (fun q_1 c_2 H hK hP hD hS => ?_)
  have hP : va_P (dC, dI) vwCl [(h, .inr (0, [.ref qk, .ref qb, .ref qo])), (qk, .inl (ck, 64, .inl (sa_bs f))), (qb, .inl (cb, 32, .inl (sa_bs x))), (qo, .inl (co, 32, .inl (sa_bs y))), (q_1, .inl (c_2, 64, .inl (fun _ => 0)))] H := hP
  have hD : va_D A [(h, .inr (0, [.ref qk, .ref qb, .ref qo])), (qk, .inl (ck, 64, .inl (sa_bs f))), (qb, .inl (cb, 32, .inl (sa_bs x))), (qo, .inl (co, 32, .inl (sa_bs y))), (q_1, .inl (c_2, 64, .inl (fun _ => 0)))] := hD
  have hK : va_K (dC, dI) vwCl [(ck, .byte), (cb, .byte), (co, .byte), (c_2, .byte)] s := hK
  refine W.widen (k := 1) (n := 64) (Nat.le_of_ble_eq_true rfl) (Nat.le_of_ble_eq_true rfl) ?_
  refine lv_astore_n (lv' := [(3, .ref q_1), (0, .ref h), (1, .int 1), (2, .int x0)]) hx hb dX1_run_4 rfl hl (by decide) rfl (fun ls hl => ?_)
  refine lv_iconst (v := 0) hx hb dX1_run_5 (by decide) ?_
  refine lv_istore (lv' := [(4, .int 0), (3, .ref q_1), (0, .ref h), (1, .int 1), (2, .int x0)]) hx hb dX1_run_6 hl (by decide) rfl (fun ls hl => ?_)
  have hP := sx_ext hP 4 (sa_mx (sa_bs f) (fun _ => 0) 0) rfl (fun j _ => by rw [sa_mx_0])
  have hD := hD.set (p := 4) (a := q_1) (e := .inl (c_2, 64, .inl (sa_mx (sa_bs f) (fun _ => 0) 0))) rfl
  have hP : va_P (dC, dI) vwCl [(h, .inr (0, [.ref qk, .ref qb, .ref qo])), (qk, .inl (ck, 64, .inl (sa_bs f))), (qb, .inl (cb, 32, .inl (sa_bs x))), (qo, .inl (co, 32, .inl (sa_bs y))), (q_1, .inl (c_2, 64, .inl (sa_mx (sa_bs f) (fun _ => 0) 0)))] H := hP
  have hD : va_D A [(h, .inr (0, [.ref qk, .ref qb, .ref qo])), (qk, .inl (ck, 64, .inl (sa_bs f))), (qb, .inl (cb, 32, .inl (sa_bs x))), (qo, .inl (co, 32, .inl (sa_bs y))), (q_1, .inl (c_2, 64, .inl (sa_mx (sa_bs f) (fun _ => 0) 0)))] := hD
  have hl : lv_has ls 5 [(4, .int (nI 0)), (3, .ref q_1), (0, .ref h), (1, .int 1), (2, .int x0)] := hl
  refine lp_run h qk qb qo q_1 ck cb co c_2 1 f x y hx hb hml hown hts hA hK 65 0 (by omega) (by omega) _ _ _ (hP.sub [0, 1, 2, 3, 4] rfl) (hD.sub [0, 1, 2, 3, 4] (by decide) rfl) hS (lv_sub hl [2, 3, 1, 0] rfl) (fun H locs ls hP hD hS hl => ?_)
  have hP := sx_ext hP 4 (sa_bs f) rfl (sa_mx_n (sa_bs f) (fun _ => 0) 64)
  have hD := hD.set (p := 4) (a := q_1) (e := .inl (c_2, 64, .inl (sa_bs f))) rfl
  have hP : va_P (dC, dI) vwCl [(h, .inr (0, [.ref qk, .ref qb, .ref qo])), (qk, .inl (ck, 64, .inl (sa_bs f))), (qb, .inl (cb, 32, .inl (sa_bs x))), (qo, .inl (co, 32, .inl (sa_bs y))), (q_1, .inl (c_2, 64, .inl (sa_bs f)))] H := hP
  have hD : va_D A [(h, .inr (0, [.ref qk, .ref qb, .ref qo])), (qk, .inl (ck, 64, .inl (sa_bs f))), (qb, .inl (cb, 32, .inl (sa_bs x))), (qo, .inl (co, 32, .inl (sa_bs y))), (q_1, .inl (c_2, 64, .inl (sa_bs f)))] := hD
  refine va_new (ci := 1) (fs := [.int 0, .null]) (C := RX2) (T := TX2) (N := 2) hx hb hts in_X2 tyX2 tyX2_ok hown (hts _ q47) (hts _ q48) (hts _ q9) hK hP hD hS hA rfl (fun j hj => by rcases (show j = 0 ∨ j = 1 by omega) with rfl | rfl <;> rfl) (Nat.le_of_ble_eq_true rfl) (Nat.le_of_ble_eq_true rfl) dX1_run_32 (fun q_3 H hP hD hS => ?_)
  have hP : va_P (dC, dI) vwCl [(h, .inr (0, [.ref qk, .ref qb, .ref qo])), (qk, .inl (ck, 64, .inl (sa_bs f))), (qb, .inl (cb, 32, .inl (sa_bs x))), (qo, .inl (co, 32, .inl (sa_bs y))), (q_1, .inl (c_2, 64, .inl (sa_bs f))), (q_3, .inr (1, [.int 0, .null]))] H := hP
  have hD : va_D A [(h, .inr (0, [.ref qk, .ref qb, .ref qo])), (qk, .inl (ck, 64, .inl (sa_bs f))), (qb, .inl (cb, 32, .inl (sa_bs x))), (qo, .inl (co, 32, .inl (sa_bs y))), (q_1, .inl (c_2, 64, .inl (sa_bs f))), (q_3, .inr (1, [.int 0, .null]))] := hD
  refine W.widen (k := 2) (n := 66) (Nat.le_of_ble_eq_true rfl) (Nat.le_of_ble_eq_true rfl) ?_
  refine lv_dup hx hb dX1_run_35 rfl ?_
  have hPc := hP.sub (ws' := [(q_3, .inr (1, [.int 0, .null]))]) [5] rfl
  have hDc := hD.sub (ws' := [(q_3, .inr (1, [.int 0, .null]))]) [5] (by decide) rfl
  have hKc := hK.sub (tys' := []) [] rfl
  have hFc := va_free (wc := [(q_3, .inr (1, [.int 0, .null]))]) hD hS hA [5] rfl
  refine va_callv (va_runI (As := []) (rest := [.ref q_3]) ⟨hx, hb, hml, hown, hts⟩ (mt_eng l dC dI H.size q_3) (cwI 0 hts (lw_meth q51) rfl rfl rfl (hts _ q9) (hts _ q49) (hts _ q50) rfl (by decide +kernel) ⟨Nat.le_of_ble_eq_true rfl, Nat.le_of_ble_eq_true rfl⟩) ⟨sx_blind, fun U hU hW => ⟨rfl, sx_Pre.mk hPc hKc hDc hU hW⟩⟩ rfl rfl hl.1 rfl (lv_room (Nat.le_of_ble_eq_true rfl)) dX1_run_36 ⟨Nat.le_of_ble_eq_true rfl, Nat.le_of_ble_eq_true rfl⟩) hS (fun q _ h => hFc q h) hFc (fun u t H1 locs ht hvm hw hB hz1 hk1 hS => ?_)
  obtain ⟨hP1, hD1⟩ := hB
  rw [ht] at hP1
  obtain ⟨hP, hD⟩ := va_join (wr := [(h, .inr (0, [.ref qk, .ref qb, .ref qo])), (qk, .inl (ck, 64, .inl (sa_bs f))), (qb, .inl (cb, 32, .inl (sa_bs x))), (qo, .inl (co, 32, .inl (sa_bs y))), (q_1, .inl (c_2, 64, .inl (sa_bs f)))]) (w1 := [(q_3, .inr (1, [.int 0, .null]))]) hP hD [5] [0, 1, 2, 3, 4] rfl rfl (by decide) (by decide) hk1 hFc hP1 hD1
  generalize H1 = H at hP hS ⊢
  have hP : va_P (dC, dI) vwCl [(h, .inr (0, [.ref qk, .ref qb, .ref qo])), (qk, .inl (ck, 64, .inl (sa_bs f))), (qb, .inl (cb, 32, .inl (sa_bs x))), (qo, .inl (co, 32, .inl (sa_bs y))), (q_1, .inl (c_2, 64, .inl (sa_bs f))), (q_3, .inr (1, [.int 0, .null]))] H := hP
  have hD : va_D A [(h, .inr (0, [.ref qk, .ref qb, .ref qo])), (qk, .inl (ck, 64, .inl (sa_bs f))), (qb, .inl (cb, 32, .inl (sa_bs x))), (qo, .inl (co, 32, .inl (sa_bs y))), (q_1, .inl (c_2, 64, .inl (sa_bs f))), (q_3, .inr (1, [.int 0, .null]))] := hD
  refine W.widen (k := 2) (n := 66) (Nat.le_of_ble_eq_true rfl) (Nat.le_of_ble_eq_true rfl) ?_
  refine lv_astore (lv' := [(4, .ref q_3), (0, .ref h), (1, .int 1), (3, .ref q_1)]) hx hb dX1_run_39 hl (by decide) rfl (fun ls hl => ?_)
  refine lv_aload hx hb dX1_run_41 (lv_at hl 0 rfl) ?_
  refine lv_iload_n hx hb dX1_run_43 rfl (lv_at hl 2 rfl) ?_
  refine va_new (ci := 2) (fs := [.null]) (C := RX3) (T := TX3) (N := 1) hx hb hts in_X3 tyX3 tyX3_ok hown (hts _ q60) (hts _ q61) (hts _ q10) hK hP hD hS hA rfl (fun j hj => by rcases (show j = 0 by omega) with rfl <;> rfl) (Nat.le_of_ble_eq_true rfl) (Nat.le_of_ble_eq_true rfl) dX1_run_44 (fun q_4 H hP hD hS => ?_)
  have hP : va_P (dC, dI) vwCl [(h, .inr (0, [.ref qk, .ref qb, .ref qo])), (qk, .inl (ck, 64, .inl (sa_bs f))), (qb, .inl (cb, 32, .inl (sa_bs x))), (qo, .inl (co, 32, .inl (sa_bs y))), (q_1, .inl (c_2, 64, .inl (sa_bs f))), (q_3, .inr (1, [.int 0, .null])), (q_4, .inr (2, [.null]))] H := hP
  have hD : va_D A [(h, .inr (0, [.ref qk, .ref qb, .ref qo])), (qk, .inl (ck, 64, .inl (sa_bs f))), (qb, .inl (cb, 32, .inl (sa_bs x))), (qo, .inl (co, 32, .inl (sa_bs y))), (q_1, .inl (c_2, 64, .inl (sa_bs f))), (q_3, .inr (1, [.int 0, .null])), (q_4, .inr (2, [.null]))] := hD
  refine W.widen (k := 3) (n := 67) (Nat.le_of_ble_eq_true rfl) (Nat.le_of_ble_eq_true rfl) ?_
  refine lv_dup hx hb dX1_run_47 rfl ?_
  refine lv_aload_n hx hb dX1_run_48 rfl (lv_at hl 3 rfl) ?_
  have hPc := hP.sub (ws' := [(q_4, .inr (2, [.null])), (q_1, .inl (c_2, 64, .inl (sa_bs f)))]) [6, 4] rfl
  have hDc := hD.sub (ws' := [(q_4, .inr (2, [.null])), (q_1, .inl (c_2, 64, .inl (sa_bs f)))]) [6, 4] (by decide) rfl
  have hKc := hK.sub (tys' := [(c_2, .byte)]) [3] rfl
  have hFc := va_free (wc := [(q_4, .inr (2, [.null])), (q_1, .inl (c_2, 64, .inl (sa_bs f)))]) hD hS hA [6, 4] rfl
  refine va_callv (va_runI (As := [.ref q_1]) (rest := [.ref q_4, .int 1, .ref q_3]) ⟨hx, hb, hml, hown, hts⟩ (mt_kp l dC dI H.size q_4 q_1 c_2 f) (cwI 1 hts (lw_meth q64) rfl rfl rfl (hts _ q10) (hts _ q62) (hts _ q63) rfl (by decide +kernel) ⟨Nat.le_of_ble_eq_true rfl, Nat.le_of_ble_eq_true rfl⟩) ⟨sx_blind, fun U hU hW => ⟨rfl, sx_Pre.mk hPc hKc hDc hU hW⟩⟩ rfl rfl hl.1 rfl (lv_room (Nat.le_of_ble_eq_true rfl)) dX1_run_49 ⟨Nat.le_of_ble_eq_true rfl, Nat.le_of_ble_eq_true rfl⟩) hS (fun q _ h => hFc q h) hFc (fun u t H1 locs ht hvm hw hB hz1 hk1 hS => ?_)
  obtain ⟨qn, cn, hB⟩ := hB
  obtain ⟨hP1, hD1, hK1⟩ := hB
  rw [ht] at hP1
  obtain ⟨hP, hD⟩ := va_join (wr := [(h, .inr (0, [.ref qk, .ref qb, .ref qo])), (qk, .inl (ck, 64, .inl (sa_bs f))), (qb, .inl (cb, 32, .inl (sa_bs x))), (qo, .inl (co, 32, .inl (sa_bs y))), (q_3, .inr (1, [.int 0, .null]))]) (w1 := [(q_1, .inl (c_2, 64, .inl (sa_bs f))), (q_4, .inr (2, [.ref qn])), (qn, .inl (cn, 64, .inl (sa_bs f)))]) hP hD [6, 4] [0, 1, 2, 3, 5] rfl rfl (by decide) (by decide) hk1 hFc hP1 hD1
  have hK := hK.app (va_K.moved hvm.symm hK1)
  have hK : va_K (dC, dI) vwCl [(ck, .byte), (cb, .byte), (co, .byte), (c_2, .byte), (c_2, .byte), (cn, .byte)] s := hK
  generalize H1 = H at hP hS ⊢
  have hP : va_P (dC, dI) vwCl [(h, .inr (0, [.ref qk, .ref qb, .ref qo])), (qk, .inl (ck, 64, .inl (sa_bs f))), (qb, .inl (cb, 32, .inl (sa_bs x))), (qo, .inl (co, 32, .inl (sa_bs y))), (q_3, .inr (1, [.int 0, .null])), (q_1, .inl (c_2, 64, .inl (sa_bs f))), (q_4, .inr (2, [.ref qn])), (qn, .inl (cn, 64, .inl (sa_bs f)))] H := hP
  have hD : va_D A [(h, .inr (0, [.ref qk, .ref qb, .ref qo])), (qk, .inl (ck, 64, .inl (sa_bs f))), (qb, .inl (cb, 32, .inl (sa_bs x))), (qo, .inl (co, 32, .inl (sa_bs y))), (q_3, .inr (1, [.int 0, .null])), (q_1, .inl (c_2, 64, .inl (sa_bs f))), (q_4, .inr (2, [.ref qn])), (qn, .inl (cn, 64, .inl (sa_bs f)))] := hD
  refine W.widen (k := 4) (n := 131) (Nat.le_of_ble_eq_true rfl) (Nat.le_of_ble_eq_true rfl) ?_
  have hPc := hP.sub (ws' := [(q_3, .inr (1, [.int 0, .null])), (q_4, .inr (2, [.ref qn])), (qn, .inl (cn, 64, .inl (sa_bs f)))]) [4, 6, 7] rfl
  have hDc := hD.sub (ws' := [(q_3, .inr (1, [.int 0, .null])), (q_4, .inr (2, [.ref qn])), (qn, .inl (cn, 64, .inl (sa_bs f)))]) [4, 6, 7] (by decide) rfl
  have hKc := hK.sub (tys' := [(cn, .byte)]) [5] rfl
  have hFc := va_free (wc := [(q_3, .inr (1, [.int 0, .null])), (q_4, .inr (2, [.ref qn])), (qn, .inl (cn, 64, .inl (sa_bs f)))]) hD hS hA [4, 6, 7] rfl
  refine va_callFv (va_runF (hK.1 1 _ rfl).2 (As := [.int 1, .ref q_4]) (rest := []) ⟨hx, hb, hml, hown, hts⟩ (mt_init1 l dC dI H.size q_3 q_4 qn cn f) (va_cwF 2 hts (sx_lwF q80 q84 q86 q9 q88) rfl rfl rfl hFw.1 (by decide +kernel) ⟨Nat.le_of_ble_eq_true rfl, Nat.le_of_ble_eq_true rfl⟩) ⟨sx_blind, va_recv hK hP (ci := 1) (q0 := 4) rfl rfl, fun U hU hW => ⟨rfl, sx_Pre.mk hPc hKc hDc hU hW⟩⟩ rfl rfl hl.1 rfl (lv_room (Nat.le_of_ble_eq_true rfl)) dX1_run_52 ⟨Nat.le_of_ble_eq_true rfl, Nat.le_of_ble_eq_true rfl⟩) hS (fun q _ h => hFc q h) hFc (fun u t H1 locs ht hvm hw hB hz1 hk1 hS => ?_)
  obtain ⟨qw, cw, hB⟩ := hB
  obtain ⟨hP1, hD1, hK1⟩ := hB
  rw [ht] at hP1
  obtain ⟨hP, hD⟩ := va_join (wr := [(h, .inr (0, [.ref qk, .ref qb, .ref qo])), (qk, .inl (ck, 64, .inl (sa_bs f))), (qb, .inl (cb, 32, .inl (sa_bs x))), (qo, .inl (co, 32, .inl (sa_bs y))), (q_1, .inl (c_2, 64, .inl (sa_bs f)))]) (w1 := [(q_4, .inr (2, [.ref qn])), (q_3, .inr (1, [.int 1, .ref qw])), (qn, .inl (cn, 64, .inl (sa_bs f))), (qw, .inl (cw, 64, .inl (sa_sch f 64)))]) hP hD [4, 6, 7] [0, 1, 2, 3, 5] rfl rfl (by decide) (by decide) hk1 hFc hP1 hD1
  have hK := hK.app (va_K.moved hvm.symm hK1)
  have hK : va_K (dC, dI) vwCl [(ck, .byte), (cb, .byte), (co, .byte), (c_2, .byte), (c_2, .byte), (cn, .byte), (cn, .byte), (cw, .int)] s := hK
  generalize H1 = H at hP hS ⊢
  have hP : va_P (dC, dI) vwCl [(h, .inr (0, [.ref qk, .ref qb, .ref qo])), (qk, .inl (ck, 64, .inl (sa_bs f))), (qb, .inl (cb, 32, .inl (sa_bs x))), (qo, .inl (co, 32, .inl (sa_bs y))), (q_1, .inl (c_2, 64, .inl (sa_bs f))), (q_4, .inr (2, [.ref qn])), (q_3, .inr (1, [.int 1, .ref qw])), (qn, .inl (cn, 64, .inl (sa_bs f))), (qw, .inl (cw, 64, .inl (sa_sch f 64)))] H := hP
  have hD : va_D A [(h, .inr (0, [.ref qk, .ref qb, .ref qo])), (qk, .inl (ck, 64, .inl (sa_bs f))), (qb, .inl (cb, 32, .inl (sa_bs x))), (qo, .inl (co, 32, .inl (sa_bs y))), (q_1, .inl (c_2, 64, .inl (sa_bs f))), (q_4, .inr (2, [.ref qn])), (q_3, .inr (1, [.int 1, .ref qw])), (qn, .inl (cn, 64, .inl (sa_bs f))), (qw, .inl (cw, 64, .inl (sa_sch f 64)))] := hD
  refine W.widen (k := 5) (n := 195) (Nat.le_of_ble_eq_true rfl) (Nat.le_of_ble_eq_true rfl) ?_
  refine lv_aload hx hb dX1_run_57 (lv_at hl 0 rfl) ?_
  refine lv_aload_n hx hb dX1_run_59 rfl (lv_at hl 1 rfl) ?_
  refine va_get (D := (dC, dI)) (ci := 0) (v := .ref qb) (C := RX1) (T := TX1) (N := 3) hx hb hts in_X1 hown hK hP 0 rfl rfl 1 (by decide) (hts _ q29) (fun _ h9 => h9) rfl dX1_run_60 ?_
  refine lv_iconst (v := 0) hx hb dX1_run_63 (by decide) ?_
  refine lv_aload_n hx hb dX1_run_64 rfl (lv_at hl 1 rfl) ?_
  refine va_get (D := (dC, dI)) (ci := 0) (v := .ref qo) (C := RX1) (T := TX1) (N := 3) hx hb hts in_X1 hown hK hP 0 rfl rfl 2 (by decide) (hts _ q30) (fun _ h9 => h9) rfl dX1_run_65 ?_
  refine lv_iconst (v := 0) hx hb dX1_run_68 (by decide) ?_
  have hPc := hP.sub (ws' := [(q_3, .inr (1, [.int 1, .ref qw])), (qb, .inl (cb, 32, .inl (sa_bs x))), (qo, .inl (co, 32, .inl (sa_bs y))), (qw, .inl (cw, 64, .inl (sa_sch f 64)))]) [6, 2, 3, 8] rfl
  have hDc := hD.sub (ws' := [(q_3, .inr (1, [.int 1, .ref qw])), (qb, .inl (cb, 32, .inl (sa_bs x))), (qo, .inl (co, 32, .inl (sa_bs y))), (qw, .inl (cw, 64, .inl (sa_sch f 64)))]) [6, 2, 3, 8] (by decide) rfl
  have hKc := hK.sub (tys' := [(cb, .byte), (co, .byte), (cw, .int)]) [1, 2, 7] rfl
  have hFc := va_free (wc := [(q_3, .inr (1, [.int 1, .ref qw])), (qb, .inl (cb, 32, .inl (sa_bs x))), (qo, .inl (co, 32, .inl (sa_bs y))), (qw, .inl (cw, 64, .inl (sa_sch f 64)))]) hD hS hA [6, 2, 3, 8] rfl
  refine va_callFi (va_runF (hK.1 1 _ rfl).2 (As := [.ref qb, .int 0, .ref qo, .int 0]) (rest := []) ⟨hx, hb, hml, hown, hts⟩ (mt_pb1 l dC dI H.size q_3 qb qo qw tK cb co cw x y (sa_sch f 64)) (va_cwF 4 hts (sx_lwF q172 q175 q177 q9 q179) rfl rfl rfl hFw.2 (by decide +kernel) ⟨Nat.le_of_ble_eq_true rfl, Nat.le_of_ble_eq_true rfl⟩) ⟨sx_blindE, va_recv hK hP (ci := 1) (q0 := 6) rfl rfl, fun U hU hW => ⟨rfl, hEx.pass hS hFc hU hW, sx_Pre.mk hPc hKc hDc hU hW⟩⟩ rfl rfl hl.1 rfl (lv_room (Nat.le_of_ble_eq_true rfl)) dX1_run_69 ⟨Nat.le_of_ble_eq_true rfl, Nat.le_of_ble_eq_true rfl⟩) hS (fun q _ h => hFc q h) hFc (fun r0 u t H1 locs ht hvm hw hB hz1 hk1 hS => ?_)
  obtain ⟨hP1, hD1⟩ := hB
  rw [ht] at hP1
  obtain ⟨hP, hD⟩ := va_join (wr := [(h, .inr (0, [.ref qk, .ref qb, .ref qo])), (qk, .inl (ck, 64, .inl (sa_bs f))), (q_1, .inl (c_2, 64, .inl (sa_bs f))), (q_4, .inr (2, [.ref qn])), (qn, .inl (cn, 64, .inl (sa_bs f)))]) (w1 := [(q_3, .inr (1, [.int 1, .ref qw])), (qb, .inl (cb, 32, .inl (sa_bs x))), (qo, .inl (co, 32, .inl (sa_bs (sa_eN (sa_sch f 64) 64 x)))), (qw, .inl (cw, 64, .inl (sa_sch f 64)))]) hP hD [6, 2, 3, 8] [0, 1, 4, 5, 7] rfl rfl (by decide) (by decide) hk1 hFc hP1 hD1
  generalize H1 = H at hP hS ⊢
  have hP : va_P (dC, dI) vwCl [(h, .inr (0, [.ref qk, .ref qb, .ref qo])), (qk, .inl (ck, 64, .inl (sa_bs f))), (q_1, .inl (c_2, 64, .inl (sa_bs f))), (q_4, .inr (2, [.ref qn])), (qn, .inl (cn, 64, .inl (sa_bs f))), (q_3, .inr (1, [.int 1, .ref qw])), (qb, .inl (cb, 32, .inl (sa_bs x))), (qo, .inl (co, 32, .inl (sa_bs (sa_eN (sa_sch f 64) 64 x)))), (qw, .inl (cw, 64, .inl (sa_sch f 64)))] H := hP
  have hD : va_D A [(h, .inr (0, [.ref qk, .ref qb, .ref qo])), (qk, .inl (ck, 64, .inl (sa_bs f))), (q_1, .inl (c_2, 64, .inl (sa_bs f))), (q_4, .inr (2, [.ref qn])), (qn, .inl (cn, 64, .inl (sa_bs f))), (q_3, .inr (1, [.int 1, .ref qw])), (qb, .inl (cb, 32, .inl (sa_bs x))), (qo, .inl (co, 32, .inl (sa_bs (sa_eN (sa_sch f 64) 64 x)))), (qw, .inl (cw, 64, .inl (sa_sch f 64)))] := hD
  refine W.widen (k := 6) (n := 203) (Nat.le_of_ble_eq_true rfl) (Nat.le_of_ble_eq_true rfl) ?_
  refine lv_pop hx hb dX1_run_74 rfl ?_
  have hP : va_P (dC, dI) vwCl [(h, .inr (0, [.ref qk, .ref qb, .ref qo])), (qk, .inl (ck, 64, .inl (sa_bs f))), (q_1, .inl (c_2, 64, .inl (sa_bs f))), (q_4, .inr (2, [.ref qn])), (qn, .inl (cn, 64, .inl (sa_bs f))), (q_3, .inr (1, [.int 1, .ref qw])), (qb, .inl (cb, 32, .inl (sa_bs x))), (qo, .inl (co, 32, .inl (sa_bs (sa_enc f x)))), (qw, .inl (cw, 64, .inl (sa_sch f 64)))] H := hP
  have hD : va_D A [(h, .inr (0, [.ref qk, .ref qb, .ref qo])), (qk, .inl (ck, 64, .inl (sa_bs f))), (q_1, .inl (c_2, 64, .inl (sa_bs f))), (q_4, .inr (2, [.ref qn])), (qn, .inl (cn, 64, .inl (sa_bs f))), (q_3, .inr (1, [.int 1, .ref qw])), (qb, .inl (cb, 32, .inl (sa_bs x))), (qo, .inl (co, 32, .inl (sa_bs (sa_enc f x)))), (qw, .inl (cw, 64, .inl (sa_sch f 64)))] := hD
  have hP9 := hP.sub (ws' := [(h, .inr (0, [.ref qk, .ref qb, .ref qo])), (qk, .inl (ck, 64, .inl (sa_bs f))), (qb, .inl (cb, 32, .inl (sa_bs x))), (qo, .inl (co, 32, .inl (sa_bs (sa_enc f x))))]) [0, 1, 6, 7] rfl
  have hD9 := hD.sub (ws' := [(h, .inr (0, [.ref qk, .ref qb, .ref qo])), (qk, .inl (ck, 64, .inl (sa_bs f))), (qb, .inl (cb, 32, .inl (sa_bs x))), (qo, .inl (co, 32, .inl (sa_bs (sa_enc f x))))]) [0, 1, 6, 7] (by decide) rfl
  exact W.vret hx hb hr (fun t ht hW => ⟨⟨(), rfl, trivial, by rw [ht]; exact hP9, hD9⟩, hS.F ht⟩) hS.2.2 dX1_run_75
set_option maxHeartbeats 4000000 in
set_option maxRecDepth 100000 in
/-- run(0, kind) -/
theorem mt_run0 (l : Launch) (dC : Nat → ClassId) (dI : Nat → Nat → Nat) (sz : Nat) (h qk qb qo tK : Nat) (ck cb co : ClassId) (f x y : Nat → Int32) (x0 : Int32) : Met l yX1_run (ws_ yX1_run cX1_run 5 none) ({ frames := 5, cells := 6, slots := 203, locals := 140 }) (va_Pc [.ref h, .int 0, .int x0] (sx_PreF tK (va_A [(h, .inr (0, [.ref qk, .ref qb, .ref qo])), (qk, .inl (ck, 64, .inl (sa_bs f))), (qb, .inl (cb, 32, .inl (sa_bs x))), (qo, .inl (co, 32, .inl (sa_bs y)))] sz) (dC, dI) [(h, .inr (0, [.ref qk, .ref qb, .ref qo])), (qk, .inl (ck, 64, .inl (sa_bs f))), (qb, .inl (cb, 32, .inl (sa_bs x))), (qo, .inl (co, 32, .inl (sa_bs y)))] [(ck, .byte), (cb, .byte), (co, .byte)] sz)) (va_Qv (fun _ : Unit => True) (fun _ t => sx_Post (dC, dI) (va_A [(h, .inr (0, [.ref qk, .ref qb, .ref qo])), (qk, .inl (ck, 64, .inl (sa_bs f))), (qb, .inl (cb, 32, .inl (sa_bs x))), (qo, .inl (co, 32, .inl (sa_bs y)))] sz) [(h, .inr (0, [.ref qk, .ref qb, .ref qo])), (qk, .inl (ck, 64, .inl (sa_bs f))), (qb, .inl (cb, 32, .inl (sa_bs x))), (qo, .inl (co, 32, .inl (sa_bs (sa_dec f x))))] t) (va_A [(h, .inr (0, [.ref qk, .ref qb, .ref qo])), (qk, .inl (ck, 64, .inl (sa_bs f))), (qb, .inl (cb, 32, .inl (sa_bs x))), (qo, .inl (co, 32, .inl (sa_bs y)))] sz)) 6 203 (va_A [(h, .inr (0, [.ref qk, .ref qb, .ref qo])), (qk, .inl (ck, 64, .inl (sa_bs f))), (qb, .inl (cb, 32, .inl (sa_bs x))), (qo, .inl (co, 32, .inl (sa_bs y)))] sz) := by
  refine Met.ofW (cc := cX1_run) (maxL := 5) (ret := none) (by decide) rfl ?_
  intro p e s m args below meth c s₁ B hml hv
  obtain ⟨rfl, hFw, hEx, hsz, hP, hK, hD0⟩ := hv
  have hx := B.exec
  have hb := B.bytes
  have hr := B.returns
  have hts := atoms_spec (ws := ws_ yX1_run cX1_run 5 none) B.pre
  have hts : ∀ w ∈ lw_all, w.before _ s = true := fun w h => hts w (List.mem_cons_of_mem _ h)
  have hown : s.vm.findClass RX1 = some m.cls := findClass_of_methodNamed B.named
  have hlocks := B.notSynchronized
  subst hsz
  have hD := hD0.self (sz := s.heap.size)
  generalize hAe : va_A [(h, .inr (0, [.ref qk, .ref qb, .ref qo])), (qk, .inl (ck, 64, .inl (sa_bs f))), (qb, .inl (cb, 32, .inl (sa_bs x))), (qo, .inl (co, 32, .inl (sa_bs y)))] s.heap.size = A at hD hEx ⊢
  have hA : ∀ q : Nat, s.heap.size ≤ q → A q := fun q h => by rw [← hAe]; exact Or.inr h
  have hS : va_S A s.heap s.heap [] := va_S.rf
  have hP : va_P (dC, dI) vwCl [(h, .inr (0, [.ref qk, .ref qb, .ref qo])), (qk, .inl (ck, 64, .inl (sa_bs f))), (qb, .inl (cb, 32, .inl (sa_bs x))), (qo, .inl (co, 32, .inl (sa_bs y)))] s.heap := hP
  have hl := lv_entry ([.ref h, .int 0, .int x0]) (n := 5) (Nat.le_of_ble_eq_true rfl)
  rw [lg_entry_eq]
  generalize (lg_sl ([.ref h, .int 0, .int x0]) ++ List.replicate (5 - (lg_sl ([.ref h, .int 0, .int x0])).length) Slot.unset).toArray = ls at hl ⊢
  have hl : lv_has ls 5 [(0, .ref h), (1, .int 0), (2, .int x0)] := hl
  refine lv_bipush (v := 64) hx hb dX1_run_0 (by decide) ?_
  refine va_newa (atype := .byte) (a0 := (64, .inl (fun _ => 0))) (N' := 64) hx hb (hts _ q38) (ty := .byte) rfl hK hP hD hS hA (fun _ => rfl) (by decide) (by decide) (by decide) (Nat.le_of_ble_eq_true rfl) (Nat.le_of_ble_eq_true rfl) dX1_run_2 (fun q_1 c_2 H hK hP hD hS => ?_)
  have hP : va_P (dC, dI) vwCl [(h, .inr (0, [.ref qk, .ref qb, .ref qo])), (qk, .inl (ck, 64, .inl (sa_bs f))), (qb, .inl (cb, 32, .inl (sa_bs x))), (qo, .inl (co, 32, .inl (sa_bs y))), (q_1, .inl (c_2, 64, .inl (fun _ => 0)))] H := hP
  have hD : va_D A [(h, .inr (0, [.ref qk, .ref qb, .ref qo])), (qk, .inl (ck, 64, .inl (sa_bs f))), (qb, .inl (cb, 32, .inl (sa_bs x))), (qo, .inl (co, 32, .inl (sa_bs y))), (q_1, .inl (c_2, 64, .inl (fun _ => 0)))] := hD
  have hK : va_K (dC, dI) vwCl [(ck, .byte), (cb, .byte), (co, .byte), (c_2, .byte)] s := hK
  refine W.widen (k := 1) (n := 64) (Nat.le_of_ble_eq_true rfl) (Nat.le_of_ble_eq_true rfl) ?_
  refine lv_astore_n (lv' := [(3, .ref q_1), (0, .ref h), (1, .int 0), (2, .int x0)]) hx hb dX1_run_4 rfl hl (by decide) rfl (fun ls hl => ?_)
  refine lv_iconst (v := 0) hx hb dX1_run_5 (by decide) ?_
  refine lv_istore (lv' := [(4, .int 0), (3, .ref q_1), (0, .ref h), (1, .int 0), (2, .int x0)]) hx hb dX1_run_6 hl (by decide) rfl (fun ls hl => ?_)
  have hP := sx_ext hP 4 (sa_mx (sa_bs f) (fun _ => 0) 0) rfl (fun j _ => by rw [sa_mx_0])
  have hD := hD.set (p := 4) (a := q_1) (e := .inl (c_2, 64, .inl (sa_mx (sa_bs f) (fun _ => 0) 0))) rfl
  have hP : va_P (dC, dI) vwCl [(h, .inr (0, [.ref qk, .ref qb, .ref qo])), (qk, .inl (ck, 64, .inl (sa_bs f))), (qb, .inl (cb, 32, .inl (sa_bs x))), (qo, .inl (co, 32, .inl (sa_bs y))), (q_1, .inl (c_2, 64, .inl (sa_mx (sa_bs f) (fun _ => 0) 0)))] H := hP
  have hD : va_D A [(h, .inr (0, [.ref qk, .ref qb, .ref qo])), (qk, .inl (ck, 64, .inl (sa_bs f))), (qb, .inl (cb, 32, .inl (sa_bs x))), (qo, .inl (co, 32, .inl (sa_bs y))), (q_1, .inl (c_2, 64, .inl (sa_mx (sa_bs f) (fun _ => 0) 0)))] := hD
  have hl : lv_has ls 5 [(4, .int (nI 0)), (3, .ref q_1), (0, .ref h), (1, .int 0), (2, .int x0)] := hl
  refine lp_run h qk qb qo q_1 ck cb co c_2 0 f x y hx hb hml hown hts hA hK 65 0 (by omega) (by omega) _ _ _ (hP.sub [0, 1, 2, 3, 4] rfl) (hD.sub [0, 1, 2, 3, 4] (by decide) rfl) hS (lv_sub hl [2, 3, 1, 0] rfl) (fun H locs ls hP hD hS hl => ?_)
  have hP := sx_ext hP 4 (sa_bs f) rfl (sa_mx_n (sa_bs f) (fun _ => 0) 64)
  have hD := hD.set (p := 4) (a := q_1) (e := .inl (c_2, 64, .inl (sa_bs f))) rfl
  have hP : va_P (dC, dI) vwCl [(h, .inr (0, [.ref qk, .ref qb, .ref qo])), (qk, .inl (ck, 64, .inl (sa_bs f))), (qb, .inl (cb, 32, .inl (sa_bs x))), (qo, .inl (co, 32, .inl (sa_bs y))), (q_1, .inl (c_2, 64, .inl (sa_bs f)))] H := hP
  have hD : va_D A [(h, .inr (0, [.ref qk, .ref qb, .ref qo])), (qk, .inl (ck, 64, .inl (sa_bs f))), (qb, .inl (cb, 32, .inl (sa_bs x))), (qo, .inl (co, 32, .inl (sa_bs y))), (q_1, .inl (c_2, 64, .inl (sa_bs f)))] := hD
  refine va_new (ci := 1) (fs := [.int 0, .null]) (C := RX2) (T := TX2) (N := 2) hx hb hts in_X2 tyX2 tyX2_ok hown (hts _ q47) (hts _ q48) (hts _ q9) hK hP hD hS hA rfl (fun j hj => by rcases (show j = 0 ∨ j = 1 by omega) with rfl | rfl <;> rfl) (Nat.le_of_ble_eq_true rfl) (Nat.le_of_ble_eq_true rfl) dX1_run_32 (fun q_3 H hP hD hS => ?_)
  have hP : va_P (dC, dI) vwCl [(h, .inr (0, [.ref qk, .ref qb, .ref qo])), (qk, .inl (ck, 64, .inl (sa_bs f))), (qb, .inl (cb, 32, .inl (sa_bs x))), (qo, .inl (co, 32, .inl (sa_bs y))), (q_1, .inl (c_2, 64, .inl (sa_bs f))), (q_3, .inr (1, [.int 0, .null]))] H := hP
  have hD : va_D A [(h, .inr (0, [.ref qk, .ref qb, .ref qo])), (qk, .inl (ck, 64, .inl (sa_bs f))), (qb, .inl (cb, 32, .inl (sa_bs x))), (qo, .inl (co, 32, .inl (sa_bs y))), (q_1, .inl (c_2, 64, .inl (sa_bs f))), (q_3, .inr (1, [.int 0, .null]))] := hD
  refine W.widen (k := 2) (n := 66) (Nat.le_of_ble_eq_true rfl) (Nat.le_of_ble_eq_true rfl) ?_
  refine lv_dup hx hb dX1_run_35 rfl ?_
  have hPc := hP.sub (ws' := [(q_3, .inr (1, [.int 0, .null]))]) [5] rfl
  have hDc := hD.sub (ws' := [(q_3, .inr (1, [.int 0, .null]))]) [5] (by decide) rfl
  have hKc := hK.sub (tys' := []) [] rfl
  have hFc := va_free (wc := [(q_3, .inr (1, [.int 0, .null]))]) hD hS hA [5] rfl
  refine va_callv (va_runI (As := []) (rest := [.ref q_3]) ⟨hx, hb, hml, hown, hts⟩ (mt_eng l dC dI H.size q_3) (cwI 0 hts (lw_meth q51) rfl rfl rfl (hts _ q9) (hts _ q49) (hts _ q50) rfl (by decide +kernel) ⟨Nat.le_of_ble_eq_true rfl, Nat.le_of_ble_eq_true rfl⟩) ⟨sx_blind, fun U hU hW => ⟨rfl, sx_Pre.mk hPc hKc hDc hU hW⟩⟩ rfl rfl hl.1 rfl (lv_room (Nat.le_of_ble_eq_true rfl)) dX1_run_36 ⟨Nat.le_of_ble_eq_true rfl, Nat.le_of_ble_eq_true rfl⟩) hS (fun q _ h => hFc q h) hFc (fun u t H1 locs ht hvm hw hB hz1 hk1 hS => ?_)
  obtain ⟨hP1, hD1⟩ := hB
  rw [ht] at hP1
  obtain ⟨hP, hD⟩ := va_join (wr := [(h, .inr (0, [.ref qk, .ref qb, .ref qo])), (qk, .inl (ck, 64, .inl (sa_bs f))), (qb, .inl (cb, 32, .inl (sa_bs x))), (qo, .inl (co, 32, .inl (sa_bs y))), (q_1, .inl (c_2, 64, .inl (sa_bs f)))]) (w1 := [(q_3, .inr (1, [.int 0, .null]))]) hP hD [5] [0, 1, 2, 3, 4] rfl rfl (by decide) (by decide) hk1 hFc hP1 hD1
  generalize H1 = H at hP hS ⊢
  have hP : va_P (dC, dI) vwCl [(h, .inr (0, [.ref qk, .ref qb, .ref qo])), (qk, .inl (ck, 64, .inl (sa_bs f))), (qb, .inl (cb, 32, .inl (sa_bs x))), (qo, .inl (co, 32, .inl (sa_bs y))), (q_1, .inl (c_2, 64, .inl (sa_bs f))), (q_3, .inr (1, [.int 0, .null]))] H := hP
  have hD : va_D A [(h, .inr (0, [.ref qk, .ref qb, .ref qo])), (qk, .inl (ck, 64, .inl (sa_bs f))), (qb, .inl (cb, 32, .inl (sa_bs x))), (qo, .inl (co, 32, .inl (sa_bs y))), (q_1, .inl (c_2, 64, .inl (sa_bs f))), (q_3, .inr (1, [.int 0, .null]))] := hD
  refine W.widen (k := 2) (n := 66) (Nat.le_of_ble_eq_true rfl) (Nat.le_of_ble_eq_true rfl) ?_
  refine lv_astore (lv' := [(4, .ref q_3), (0, .ref h), (1, .int 0), (3, .ref q_1)]) hx hb dX1_run_39 hl (by decide) rfl (fun ls hl => ?_)
  refine lv_aload hx hb dX1_run_41 (lv_at hl 0 rfl) ?_
  refine lv_iload_n hx hb dX1_run_43 rfl (lv_at hl 2 rfl) ?_
  refine va_new (ci := 2) (fs := [.null]) (C := RX3) (T := TX3) (N := 1) hx hb hts in_X3 tyX3 tyX3_ok hown (hts _ q60) (hts _ q61) (hts _ q10) hK hP hD hS hA rfl (fun j hj => by rcases (show j = 0 by omega) with rfl <;> rfl) (Nat.le_of_ble_eq_true rfl) (Nat.le_of_ble_eq_true rfl) dX1_run_44 (fun q_4 H hP hD hS => ?_)
  have hP : va_P (dC, dI) vwCl [(h, .inr (0, [.ref qk, .ref qb, .ref qo])), (qk, .inl (ck, 64, .inl (sa_bs f))), (qb, .inl (cb, 32, .inl (sa_bs x))), (qo, .inl (co, 32, .inl (sa_bs y))), (q_1, .inl (c_2, 64, .inl (sa_bs f))), (q_3, .inr (1, [.int 0, .null])), (q_4, .inr (2, [.null]))] H := hP
  have hD : va_D A [(h, .inr (0, [.ref qk, .ref qb, .ref qo])), (qk, .inl (ck, 64, .inl (sa_bs f))), (qb, .inl (cb, 32, .inl (sa_bs x))), (qo, .inl (co, 32, .inl (sa_bs y))), (q_1, .inl (c_2, 64, .inl (sa_bs f))), (q_3, .inr (1, [.int 0, .null])), (q_4, .inr (2, [.null]))] := hD
  refine W.widen (k := 3) (n := 67) (Nat.le_of_ble_eq_true rfl) (Nat.le_of_ble_eq_true rfl) ?_
  refine lv_dup hx hb dX1_run_47 rfl ?_
  refine lv_aload_n hx hb dX1_run_48 rfl (lv_at hl 3 rfl) ?_
  have hPc := hP.sub (ws' := [(q_4, .inr (2, [.null])), (q_1, .inl (c_2, 64, .inl (sa_bs f)))]) [6, 4] rfl
  have hDc := hD.sub (ws' := [(q_4, .inr (2, [.null])), (q_1, .inl (c_2, 64, .inl (sa_bs f)))]) [6, 4] (by decide) rfl
  have hKc := hK.sub (tys' := [(c_2, .byte)]) [3] rfl
  have hFc := va_free (wc := [(q_4, .inr (2, [.null])), (q_1, .inl (c_2, 64, .inl (sa_bs f)))]) hD hS hA [6, 4] rfl
  refine va_callv (va_runI (As := [.ref q_1]) (rest := [.ref q_4, .int 0, .ref q_3]) ⟨hx, hb, hml, hown, hts⟩ (mt_kp l dC dI H.size q_4 q_1 c_2 f) (cwI 1 hts (lw_meth q64) rfl rfl rfl (hts _ q10) (hts _ q62) (hts _ q63) rfl (by decide +kernel) ⟨Nat.le_of_ble_eq_true rfl, Nat.le_of_ble_eq_true rfl⟩) ⟨sx_blind, fun U hU hW => ⟨rfl, sx_Pre.mk hPc hKc hDc hU hW⟩⟩ rfl rfl hl.1 rfl (lv_room (Nat.le_of_ble_eq_true rfl)) dX1_run_49 ⟨Nat.le_of_ble_eq_true rfl, Nat.le_of_ble_eq_true rfl⟩) hS (fun q _ h => hFc q h) hFc (fun u t H1 locs ht hvm hw hB hz1 hk1 hS => ?_)
  obtain ⟨qn, cn, hB⟩ := hB
  obtain ⟨hP1, hD1, hK1⟩ := hB
  rw [ht] at hP1
  obtain ⟨hP, hD⟩ := va_join (wr := [(h, .inr (0, [.ref qk, .ref qb, .ref qo])), (qk, .inl (ck, 64, .inl (sa_bs f))), (qb, .inl (cb, 32, .inl (sa_bs x))), (qo, .inl (co, 32, .inl (sa_bs y))), (q_3, .inr (1, [.int 0, .null]))]) (w1 := [(q_1, .inl (c_2, 64, .inl (sa_bs f))), (q_4, .inr (2, [.ref qn])), (qn, .inl (cn, 64, .inl (sa_bs f)))]) hP hD [6, 4] [0, 1, 2, 3, 5] rfl rfl (by decide) (by decide) hk1 hFc hP1 hD1
  have hK := hK.app (va_K.moved hvm.symm hK1)
  have hK : va_K (dC, dI) vwCl [(ck, .byte), (cb, .byte), (co, .byte), (c_2, .byte), (c_2, .byte), (cn, .byte)] s := hK
  generalize H1 = H at hP hS ⊢
  have hP : va_P (dC, dI) vwCl [(h, .inr (0, [.ref qk, .ref qb, .ref qo])), (qk, .inl (ck, 64, .inl (sa_bs f))), (qb, .inl (cb, 32, .inl (sa_bs x))), (qo, .inl (co, 32, .inl (sa_bs y))), (q_3, .inr (1, [.int 0, .null])), (q_1, .inl (c_2, 64, .inl (sa_bs f))), (q_4, .inr (2, [.ref qn])), (qn, .inl (cn, 64, .inl (sa_bs f)))] H := hP
  have hD : va_D A [(h, .inr (0, [.ref qk, .ref qb, .ref qo])), (qk, .inl (ck, 64, .inl (sa_bs f))), (qb, .inl (cb, 32, .inl (sa_bs x))), (qo, .inl (co, 32, .inl (sa_bs y))), (q_3, .inr (1, [.int 0, .null])), (q_1, .inl (c_2, 64, .inl (sa_bs f))), (q_4, .inr (2, [.ref qn])), (qn, .inl (cn, 64, .inl (sa_bs f)))] := hD
  refine W.widen (k := 4) (n := 131) (Nat.le_of_ble_eq_true rfl) (Nat.le_of_ble_eq_true rfl) ?_
  have hPc := hP.sub (ws' := [(q_3, .inr (1, [.int 0, .null])), (q_4, .inr (2, [.ref qn])), (qn, .inl (cn, 64, .inl (sa_bs f)))]) [4, 6, 7] rfl
  have hDc := hD.sub (ws' := [(q_3, .inr (1, [.int 0, .null])), (q_4, .inr (2, [.ref qn])), (qn, .inl (cn, 64, .inl (sa_bs f)))]) [4, 6, 7] (by decide) rfl
  have hKc := hK.sub (tys' := [(cn, .byte)]) [5] rfl
  have hFc := va_free (wc := [(q_3, .inr (1, [.int 0, .null])), (q_4, .inr (2, [.ref qn])), (qn, .inl (cn, 64, .inl (sa_bs f)))]) hD hS hA [4, 6, 7] rfl
  refine va_callFv (va_runF (hK.1 1 _ rfl).2 (As := [.int 0, .ref q_4]) (rest := []) ⟨hx, hb, hml, hown, hts⟩ (mt_init0 l dC dI H.size q_3 q_4 qn cn f) (va_cwF 2 hts (sx_lwF q80 q84 q86 q9 q88) rfl rfl rfl hFw.1 (by decide +kernel) ⟨Nat.le_of_ble_eq_true rfl, Nat.le_of_ble_eq_true rfl⟩) ⟨sx_blind, va_recv hK hP (ci := 1) (q0 := 4) rfl rfl, fun U hU hW => ⟨rfl, sx_Pre.mk hPc hKc hDc hU hW⟩⟩ rfl rfl hl.1 rfl (lv_room (Nat.le_of_ble_eq_true rfl)) dX1_run_52 ⟨Nat.le_of_ble_eq_true rfl, Nat.le_of_ble_eq_true rfl⟩) hS (fun q _ h => hFc q h) hFc (fun u t H1 locs ht hvm hw hB hz1 hk1 hS => ?_)
  obtain ⟨qw, cw, hB⟩ := hB
  obtain ⟨hP1, hD1, hK1⟩ := hB
  rw [ht] at hP1
  obtain ⟨hP, hD⟩ := va_join (wr := [(h, .inr (0, [.ref qk, .ref qb, .ref qo])), (qk, .inl (ck, 64, .inl (sa_bs f))), (qb, .inl (cb, 32, .inl (sa_bs x))), (qo, .inl (co, 32, .inl (sa_bs y))), (q_1, .inl (c_2, 64, .inl (sa_bs f)))]) (w1 := [(q_4, .inr (2, [.ref qn])), (q_3, .inr (1, [.int 0, .ref qw])), (qn, .inl (cn, 64, .inl (sa_bs f))), (qw, .inl (cw, 64, .inl (sa_sch f 64)))]) hP hD [4, 6, 7] [0, 1, 2, 3, 5] rfl rfl (by decide) (by decide) hk1 hFc hP1 hD1
  have hK := hK.app (va_K.moved hvm.symm hK1)
  have hK : va_K (dC, dI) vwCl [(ck, .byte), (cb, .byte), (co, .byte), (c_2, .byte), (c_2, .byte), (cn, .byte), (cn, .byte), (cw, .int)] s := hK
  generalize H1 = H at hP hS ⊢
  have hP : va_P (dC, dI) vwCl [(h, .inr (0, [.ref qk, .ref qb, .ref qo])), (qk, .inl (ck, 64, .inl (sa_bs f))), (qb, .inl (cb, 32, .inl (sa_bs x))), (qo, .inl (co, 32, .inl (sa_bs y))), (q_1, .inl (c_2, 64, .inl (sa_bs f))), (q_4, .inr (2, [.ref qn])), (q_3, .inr (1, [.int 0, .ref qw])), (qn, .inl (cn, 64, .inl (sa_bs f))), (qw, .inl (cw, 64, .inl (sa_sch f 64)))] H := hP
  have hD : va_D A [(h, .inr (0, [.ref qk, .ref qb, .ref qo])), (qk, .inl (ck, 64, .inl (sa_bs f))), (qb, .inl (cb, 32, .inl (sa_bs x))), (qo, .inl (co, 32, .inl (sa_bs y))), (q_1, .inl (c_2, 64, .inl (sa_bs f))), (q_4, .inr (2, [.ref qn])), (q_3, .inr (1, [.int 0, .ref qw])), (qn, .inl (cn, 64, .inl (sa_bs f))), (qw, .inl (cw, 64, .inl (sa_sch f 64)))] := hD
  refine W.widen (k := 5) (n := 195) (Nat.le_of_ble_eq_true rfl) (Nat.le_of_ble_eq_true rfl) ?_
  refine lv_aload hx hb dX1_run_57 (lv_at hl 0 rfl) ?_
  refine lv_aload_n hx hb dX1_run_59 rfl (lv_at hl 1 rfl) ?_
  refine va_get (D := (dC, dI)) (ci := 0) (v := .ref qb) (C := RX1) (T := TX1) (N := 3) hx hb hts in_X1 hown hK hP 0 rfl rfl 1 (by decide) (hts _ q29) (fun _ h9 => h9) rfl dX1_run_60 ?_
  refine lv_iconst (v := 0) hx hb dX1_run_63 (by decide) ?_
  refine lv_aload_n hx hb dX1_run_64 rfl (lv_at hl 1 rfl) ?_
  refine va_get (D := (dC, dI)) (ci := 0) (v := .ref qo) (C := RX1) (T := TX1) (N := 3) hx hb hts in_X1 hown hK hP 0 rfl rfl 2 (by decide) (hts _ q30) (fun _ h9 => h9) rfl dX1_run_65 ?_
  refine lv_iconst (v := 0) hx hb dX1_run_68 (by decide) ?_
  have hPc := hP.sub (ws' := [(q_3, .inr (1, [.int 0, .ref qw])), (qb, .inl (cb, 32, .inl (sa_bs x))), (qo, .inl (co, 32, .inl (sa_bs y))), (qw, .inl (cw, 64, .inl (sa_sch f 64)))]) [6, 2, 3, 8] rfl
  have hDc := hD.sub (ws' := [(q_3, .inr (1, [.int 0, .ref qw])), (qb, .inl (cb, 32, .inl (sa_bs x))), (qo, .inl (co, 32, .inl (sa_bs y))), (qw, .inl (cw, 64, .inl (sa_sch f 64)))]) [6, 2, 3, 8] (by decide) rfl
  have hKc := hK.sub (tys' := [(cb, .byte), (co, .byte), (cw, .int)]) [1, 2, 7] rfl
  have hFc := va_free (wc := [(q_3, .inr (1, [.int 0, .ref qw])), (qb, .inl (cb, 32, .inl (sa_bs x))), (qo, .inl (co, 32, .inl (sa_bs y))), (qw, .inl (cw, 64, .inl (sa_sch f 64)))]) hD hS hA [6, 2, 3, 8] rfl
  refine va_callFi (va_runF (hK.1 1 _ rfl).2 (As := [.ref qb, .int 0, .ref qo, .int 0]) (rest := []) ⟨hx, hb, hml, hown, hts⟩ (mt_pb0 l dC dI H.size q_3 qb qo qw tK cb co cw x y (sa_sch f 64)) (va_cwF 4 hts (sx_lwF q172 q175 q177 q9 q179) rfl rfl rfl hFw.2 (by decide +kernel) ⟨Nat.le_of_ble_eq_true rfl, Nat.le_of_ble_eq_true rfl⟩) ⟨sx_blindE, va_recv hK hP (ci := 1) (q0 := 6) rfl rfl, fun U hU hW => ⟨rfl, hEx.pass hS hFc hU hW, sx_Pre.mk hPc hKc hDc hU hW⟩⟩ rfl rfl hl.1 rfl (lv_room (Nat.le_of_ble_eq_true rfl)) dX1_run_69 ⟨Nat.le_of_ble_eq_true rfl, Nat.le_of_ble_eq_true rfl⟩) hS (fun q _ h => hFc q h) hFc (fun r0 u t H1 locs ht hvm hw hB hz1 hk1 hS => ?_)
  obtain ⟨hP1, hD1⟩ := hB
  rw [ht] at hP1
  obtain ⟨hP, hD⟩ := va_join (wr := [(h, .inr (0, [.ref qk, .ref qb, .ref qo])), (qk, .inl (ck, 64, .inl (sa_bs f))), (q_1, .inl (c_2, 64, .inl (sa_bs f))), (q_4, .inr (2, [.ref qn])), (qn, .inl (cn, 64, .inl (sa_bs f)))]) (w1 := [(q_3, .inr (1, [.int 0, .ref qw])), (qb, .inl (cb, 32, .inl (sa_bs x))), (qo, .inl (co, 32, .inl (sa_bs (sa_dN (sa_sch f 64) 64 x)))), (qw, .inl (cw, 64, .inl (sa_sch f 64)))]) hP hD [6, 2, 3, 8] [0, 1, 4, 5, 7] rfl rfl (by decide) (by decide) hk1 hFc hP1 hD1
  generalize H1 = H at hP hS ⊢
  have hP : va_P (dC, dI) vwCl [(h, .inr (0, [.ref qk, .ref qb, .ref qo])), (qk, .inl (ck, 64, .inl (sa_bs f))), (q_1, .inl (c_2, 64, .inl (sa_bs f))), (q_4, .inr (2, [.ref qn])), (qn, .inl (cn, 64, .inl (sa_bs f))), (q_3, .inr (1, [.int 0, .ref qw])), (qb, .inl (cb, 32, .inl (sa_bs x))), (qo, .inl (co, 32, .inl (sa_bs (sa_dN (sa_sch f 64) 64 x)))), (qw, .inl (cw, 64, .inl (sa_sch f 64)))] H := hP
  have hD : va_D A [(h, .inr (0, [.ref qk, .ref qb, .ref qo])), (qk, .inl (ck, 64, .inl (sa_bs f))), (q_1, .inl (c_2, 64, .inl (sa_bs f))), (q_4, .inr (2, [.ref qn])), (qn, .inl (cn, 64, .inl (sa_bs f))), (q_3, .inr (1, [.int 0, .ref qw])), (qb, .inl (cb, 32, .inl (sa_bs x))), (qo, .inl (co, 32, .inl (sa_bs (sa_dN (sa_sch f 64) 64 x)))), (qw, .inl (cw, 64, .inl (sa_sch f 64)))] := hD
  refine W.widen (k := 6) (n := 203) (Nat.le_of_ble_eq_true rfl) (Nat.le_of_ble_eq_true rfl) ?_
  refine lv_pop hx hb dX1_run_74 rfl ?_
  have hP : va_P (dC, dI) vwCl [(h, .inr (0, [.ref qk, .ref qb, .ref qo])), (qk, .inl (ck, 64, .inl (sa_bs f))), (q_1, .inl (c_2, 64, .inl (sa_bs f))), (q_4, .inr (2, [.ref qn])), (qn, .inl (cn, 64, .inl (sa_bs f))), (q_3, .inr (1, [.int 0, .ref qw])), (qb, .inl (cb, 32, .inl (sa_bs x))), (qo, .inl (co, 32, .inl (sa_bs (sa_dec f x)))), (qw, .inl (cw, 64, .inl (sa_sch f 64)))] H := hP
  have hD : va_D A [(h, .inr (0, [.ref qk, .ref qb, .ref qo])), (qk, .inl (ck, 64, .inl (sa_bs f))), (q_1, .inl (c_2, 64, .inl (sa_bs f))), (q_4, .inr (2, [.ref qn])), (qn, .inl (cn, 64, .inl (sa_bs f))), (q_3, .inr (1, [.int 0, .ref qw])), (qb, .inl (cb, 32, .inl (sa_bs x))), (qo, .inl (co, 32, .inl (sa_bs (sa_dec f x)))), (qw, .inl (cw, 64, .inl (sa_sch f 64)))] := hD
  have hP9 := hP.sub (ws' := [(h, .inr (0, [.ref qk, .ref qb, .ref qo])), (qk, .inl (ck, 64, .inl (sa_bs f))), (qb, .inl (cb, 32, .inl (sa_bs x))), (qo, .inl (co, 32, .inl (sa_bs (sa_dec f x))))]) [0, 1, 6, 7] rfl
  have hD9 := hD.sub (ws' := [(h, .inr (0, [.ref qk, .ref qb, .ref qo])), (qk, .inl (ck, 64, .inl (sa_bs f))), (qb, .inl (cb, 32, .inl (sa_bs x))), (qo, .inl (co, 32, .inl (sa_bs (sa_dec f x))))]) [0, 1, 6, 7] (by decide) rfl
  exact W.vret hx hb hr (fun t ht hW => ⟨⟨(), rfl, trivial, by rw [ht]; exact hP9, hD9⟩, hS.F ht⟩) hS.2.2 dX1_run_75
set_option maxHeartbeats 4000000 in
set_option maxRecDepth 100000 in
/-- lock(kind): what is put out is the block locked -/
theorem mt_lock (l : Launch) (dC : Nat → ClassId) (dI : Nat → Nat → Nat) (sz : Nat) (h qk qb qo tK : Nat) (ck cb co : ClassId) (f x y : Nat → Int32) (x0 : Int32) : Met l yX1_lock (ws_ yX1_lock cX1_lock 2 none) ({ frames := 6, cells := 6, slots := 203, locals := 164 }) (va_Pc [.ref h, .int x0] (sx_PreF tK (va_A [(h, .inr (0, [.ref qk, .ref qb, .ref qo])), (qk, .inl (ck, 64, .inl (sa_bs f))), (qb, .inl (cb, 32, .inl (sa_bs x))), (qo, .inl (co, 32, .inl (sa_bs y)))] sz) (dC, dI) [(h, .inr (0, [.ref qk, .ref qb, .ref qo])), (qk, .inl (ck, 64, .inl (sa_bs f))), (qb, .inl (cb, 32, .inl (sa_bs x))), (qo, .inl (co, 32, .inl (sa_bs y)))] [(ck, .byte), (cb, .byte), (co, .byte)] sz)) (va_Qv (fun _ : Unit => True) (fun _ t => sx_Post (dC, dI) (va_A [(h, .inr (0, [.ref qk, .ref qb, .ref qo])), (qk, .inl (ck, 64, .inl (sa_bs f))), (qb, .inl (cb, 32, .inl (sa_bs x))), (qo, .inl (co, 32, .inl (sa_bs y)))] sz) [(h, .inr (0, [.ref qk, .ref qb, .ref qo])), (qk, .inl (ck, 64, .inl (sa_bs f))), (qb, .inl (cb, 32, .inl (sa_bs x))), (qo, .inl (co, 32, .inl (sa_bs (sa_enc f x))))] t) (va_A [(h, .inr (0, [.ref qk, .ref qb, .ref qo])), (qk, .inl (ck, 64, .inl (sa_bs f))), (qb, .inl (cb, 32, .inl (sa_bs x))), (qo, .inl (co, 32, .inl (sa_bs y)))] sz)) 6 203 (va_A [(h, .inr (0, [.ref qk, .ref qb, .ref qo])), (qk, .inl (ck, 64, .inl (sa_bs f))), (qb, .inl (cb, 32, .inl (sa_bs x))), (qo, .inl (co, 32, .inl (sa_bs y)))] sz) := by
  refine Met.ofW (cc := cX1_lock) (maxL := 2) (ret := none) (by decide) rfl ?_
  intro p e s m args below meth c s₁ B hml hv
  obtain ⟨rfl, hFw, hEx, hsz, hP, hK, hD0⟩ := hv
  have hx := B.exec
  have hb := B.bytes
  have hr := B.returns
  have hts := atoms_spec (ws := ws_ yX1_lock cX1_lock 2 none) B.pre
  have hts : ∀ w ∈ lw_all, w.before _ s = true := fun w h => hts w (List.mem_cons_of_mem _ h)
  have hown : s.vm.findClass RX1 = some m.cls := findClass_of_methodNamed B.named
  have hlocks := B.notSynchronized
  subst hsz
  have hD := hD0.self (sz := s.heap.size)
  generalize hAe : va_A [(h, .inr (0, [.ref qk, .ref qb, .ref qo])), (qk, .inl (ck, 64, .inl (sa_bs f))), (qb, .inl (cb, 32, .inl (sa_bs x))), (qo, .inl (co, 32, .inl (sa_bs y)))] s.heap.size = A at hD hEx ⊢
  have hA : ∀ q : Nat, s.heap.size ≤ q → A q := fun q h => by rw [← hAe]; exact Or.inr h
  have hS : va_S A s.heap s.heap [] := va_S.rf
  have hP : va_P (dC, dI) vwCl [(h, .inr (0, [.ref qk, .ref qb, .ref qo])), (qk, .inl (ck, 64, .inl (sa_bs f))), (qb, .inl (cb, 32, .inl (sa_bs x))), (qo, .inl (co, 32, .inl (sa_bs y)))] s.heap := hP
  have hl := lv_entry ([.ref h, .int x0]) (n := 2) (Nat.le_of_ble_eq_true rfl)
  rw [lg_entry_eq]
  generalize (lg_sl ([.ref h, .int x0]) ++ List.replicate (2 - (lg_sl ([.ref h, .int x0])).length) Slot.unset).toArray = ls at hl ⊢
  have hl : lv_has ls 2 [(0, .ref h), (1, .int x0)] := hl
  refine lv_aload_n hx hb dX1_lock_0 rfl (lv_at hl 0 rfl) ?_
  refine lv_iconst (v := 1) hx hb dX1_lock_1 (by decide) ?_
  refine lv_iload_n hx hb dX1_lock_2 rfl (lv_at hl 1 rfl) ?_
  have hPc := hP.sub (ws' := [(h, .inr (0, [.ref qk, .ref qb, .ref qo])), (qk, .inl (ck, 64, .inl (sa_bs f))), (qb, .inl (cb, 32, .inl (sa_bs x))), (qo, .inl (co, 32, .inl (sa_bs y)))]) [0, 1, 2, 3] rfl
  have hDc := hD.sub (ws' := [(h, .inr (0, [.ref qk, .ref qb, .ref qo])), (qk, .inl (ck, 64, .inl (sa_bs f))), (qb, .inl (cb, 32, .inl (sa_bs x))), (qo, .inl (co, 32, .inl (sa_bs y)))]) [0, 1, 2, 3] (by decide) rfl
  have hKc := hK.sub (tys' := [(ck, .byte), (cb, .byte), (co, .byte)]) [0, 1, 2] rfl
  have hFc := va_free (wc := [(h, .inr (0, [.ref qk, .ref qb, .ref qo])), (qk, .inl (ck, 64, .inl (sa_bs f))), (qb, .inl (cb, 32, .inl (sa_bs x))), (qo, .inl (co, 32, .inl (sa_bs y)))]) hD hS hA [0, 1, 2, 3] rfl
  refine va_callv (va_runV (As := [.int 1, .int x0]) (rest := []) ⟨hx, hb, hml, hown, hts⟩ (mt_run1 l dC dI s.heap.size h qk qb qo tK ck cb co f x y x0) (cwV 2 hts (lw_V q43 q45 qs0 q8 q46) rfl rfl rfl (by decide +kernel) ⟨Nat.le_of_ble_eq_true rfl, Nat.le_of_ble_eq_true rfl⟩) ⟨sx_blindF, va_recv hK hP (ci := 0) (q0 := 0) rfl rfl, fun U hU hW => ⟨rfl, hFw.moved hW.alike, hEx.pass hS hFc hU hW, sx_Pre.mk hPc hKc hDc hU hW⟩⟩ rfl rfl hl.1 rfl (lv_room (Nat.le_of_ble_eq_true rfl)) dX1_lock_3 ⟨Nat.le_of_ble_eq_true rfl, Nat.le_of_ble_eq_true rfl⟩) hS (fun q _ h => hFc q h) hFc (fun u t H1 locs ht hvm hw hB hz1 hk1 hS => ?_)
  obtain ⟨hP1, hD1⟩ := hB
  rw [ht] at hP1
  obtain ⟨hP, hD⟩ := va_join (wr := []) (w1 := [(h, .inr (0, [.ref qk, .ref qb, .ref qo])), (qk, .inl (ck, 64, .inl (sa_bs f))), (qb, .inl (cb, 32, .inl (sa_bs x))), (qo, .inl (co, 32, .inl (sa_bs (sa_enc f x))))]) hP hD [0, 1, 2, 3] [] rfl rfl (by decide) (by decide) hk1 hFc hP1 hD1
  generalize H1 = H at hP hS ⊢
  have hP : va_P (dC, dI) vwCl [(h, .inr (0, [.ref qk, .ref qb, .ref qo])), (qk, .inl (ck, 64, .inl (sa_bs f))), (qb, .inl (cb, 32, .inl (sa_bs x))), (qo, .inl (co, 32, .inl (sa_bs (sa_enc f x))))] H := hP
  have hD : va_D A [(h, .inr (0, [.ref qk, .ref qb, .ref qo])), (qk, .inl (ck, 64, .inl (sa_bs f))), (qb, .inl (cb, 32, .inl (sa_bs x))), (qo, .inl (co, 32, .inl (sa_bs (sa_enc f x))))] := hD
  refine W.widen (k := 6) (n := 203) (Nat.le_of_ble_eq_true rfl) (Nat.le_of_ble_eq_true rfl) ?_
  have hP9 := hP.sub (ws' := [(h, .inr (0, [.ref qk, .ref qb, .ref qo])), (qk, .inl (ck, 64, .inl (sa_bs f))), (qb, .inl (cb, 32, .inl (sa_bs x))), (qo, .inl (co, 32, .inl (sa_bs (sa_enc f x))))]) [0, 1, 2, 3] rfl
  have hD9 := hD.sub (ws' := [(h, .inr (0, [.ref qk, .ref qb, .ref qo])), (qk, .inl (ck, 64, .inl (sa_bs f))), (qb, .inl (cb, 32, .inl (sa_bs x))), (qo, .inl (co, 32, .inl (sa_bs (sa_enc f x))))]) [0, 1, 2, 3] (by decide) rfl
  exact W.vret hx hb hr (fun t ht hW => ⟨⟨(), rfl, trivial, by rw [ht]; exact hP9, hD9⟩, hS.F ht⟩) hS.2.2 dX1_lock_6
set_option maxHeartbeats 4000000 in
set_option maxRecDepth 100000 in
/-- open(kind): what is put out is the block opened -/
theorem mt_open (l : Launch) (dC : Nat → ClassId) (dI : Nat → Nat → Nat) (sz : Nat) (h qk qb qo tK : Nat) (ck cb co : ClassId) (f x y : Nat → Int32) (x0 : Int32) : Met l yX1_open (ws_ yX1_open cX1_open 2 none) ({ frames := 6, cells := 6, slots := 203, locals := 164 }) (va_Pc [.ref h, .int x0] (sx_PreF tK (va_A [(h, .inr (0, [.ref qk, .ref qb, .ref qo])), (qk, .inl (ck, 64, .inl (sa_bs f))), (qb, .inl (cb, 32, .inl (sa_bs x))), (qo, .inl (co, 32, .inl (sa_bs y)))] sz) (dC, dI) [(h, .inr (0, [.ref qk, .ref qb, .ref qo])), (qk, .inl (ck, 64, .inl (sa_bs f))), (qb, .inl (cb, 32, .inl (sa_bs x))), (qo, .inl (co, 32, .inl (sa_bs y)))] [(ck, .byte), (cb, .byte), (co, .byte)] sz)) (va_Qv (fun _ : Unit => True) (fun _ t => sx_Post (dC, dI) (va_A [(h, .inr (0, [.ref qk, .ref qb, .ref qo])), (qk, .inl (ck, 64, .inl (sa_bs f))), (qb, .inl (cb, 32, .inl (sa_bs x))), (qo, .inl (co, 32, .inl (sa_bs y)))] sz) [(h, .inr (0, [.ref qk, .ref qb, .ref qo])), (qk, .inl (ck, 64, .inl (sa_bs f))), (qb, .inl (cb, 32, .inl (sa_bs x))), (qo, .inl (co, 32, .inl (sa_bs (sa_dec f x))))] t) (va_A [(h, .inr (0, [.ref qk, .ref qb, .ref qo])), (qk, .inl (ck, 64, .inl (sa_bs f))), (qb, .inl (cb, 32, .inl (sa_bs x))), (qo, .inl (co, 32, .inl (sa_bs y)))] sz)) 6 203 (va_A [(h, .inr (0, [.ref qk, .ref qb, .ref qo])), (qk, .inl (ck, 64, .inl (sa_bs f))), (qb, .inl (cb, 32, .inl (sa_bs x))), (qo, .inl (co, 32, .inl (sa_bs y)))] sz) := by
  refine Met.ofW (cc := cX1_open) (maxL := 2) (ret := none) (by decide) rfl ?_
  intro p e s m args below meth c s₁ B hml hv
  obtain ⟨rfl, hFw, hEx, hsz, hP, hK, hD0⟩ := hv
  have hx := B.exec
  have hb := B.bytes
  have hr := B.returns
  have hts := atoms_spec (ws := ws_ yX1_open cX1_open 2 none) B.pre
  have hts : ∀ w ∈ lw_all, w.before _ s = true := fun w h => hts w (List.mem_cons_of_mem _ h)
  have hown : s.vm.findClass RX1 = some m.cls := findClass_of_methodNamed B.named
  have hlocks := B.notSynchronized
  subst hsz
  have hD := hD0.self (sz := s.heap.size)
  generalize hAe : va_A [(h, .inr (0, [.ref qk, .ref qb, .ref qo])), (qk, .inl (ck, 64, .inl (sa_bs f))), (qb, .inl (cb, 32, .inl (sa_bs x))), (qo, .inl (co, 32, .inl (sa_bs y)))] s.heap.size = A at hD hEx ⊢
  have hA : ∀ q : Nat, s.heap.size ≤ q → A q := fun q h => by rw [← hAe]; exact Or.inr h
  have hS : va_S A s.heap s.heap [] := va_S.rf
  have hP : va_P (dC, dI) vwCl [(h, .inr (0, [.ref qk, .ref qb, .ref qo])), (qk, .inl (ck, 64, .inl (sa_bs f))), (qb, .inl (cb, 32, .inl (sa_bs x))), (qo, .inl (co, 32, .inl (sa_bs y)))] s.heap := hP
  have hl := lv_entry ([.ref h, .int x0]) (n := 2) (Nat.le_of_ble_eq_true rfl)
  rw [lg_entry_eq]
  generalize (lg_sl ([.ref h, .int x0]) ++ List.replicate (2 - (lg_sl ([.ref h, .int x0])).length) Slot.unset).toArray = ls at hl ⊢
  have hl : lv_has ls 2 [(0, .ref h), (1, .int x0)] := hl
  refine lv_aload_n hx hb dX1_open_0 rfl (lv_at hl 0 rfl) ?_
  refine lv_iconst (v := 0) hx hb dX1_open_1 (by decide) ?_
  refine lv_iload_n hx hb dX1_open_2 rfl (lv_at hl 1 rfl) ?_
  have hPc := hP.sub (ws' := [(h, .inr (0, [.ref qk, .ref qb, .ref qo])), (qk, .inl (ck, 64, .inl (sa_bs f))), (qb, .inl (cb, 32, .inl (sa_bs x))), (qo, .inl (co, 32, .inl (sa_bs y)))]) [0, 1, 2, 3] rfl
  have hDc := hD.sub (ws' := [(h, .inr (0, [.ref qk, .ref qb, .ref qo])), (qk, .inl (ck, 64, .inl (sa_bs f))), (qb, .inl (cb, 32, .inl (sa_bs x))), (qo, .inl (co, 32, .inl (sa_bs y)))]) [0, 1, 2, 3] (by decide) rfl
  have hKc := hK.sub (tys' := [(ck, .byte), (cb, .byte), (co, .byte)]) [0, 1, 2] rfl
  have hFc := va_free (wc := [(h, .inr (0, [.ref qk, .ref qb, .ref qo])), (qk, .inl (ck, 64, .inl (sa_bs f))), (qb, .inl (cb, 32, .inl (sa_bs x))), (qo, .inl (co, 32, .inl (sa_bs y)))]) hD hS hA [0, 1, 2, 3] rfl
  refine va_callv (va_runV (As := [.int 0, .int x0]) (rest := []) ⟨hx, hb, hml, hown, hts⟩ (mt_run0 l dC dI s.heap.size h qk qb qo tK ck cb co f x y x0) (cwV 2 hts (lw_V q43 q45 qs0 q8 q46) rfl rfl rfl (by decide +kernel) ⟨Nat.le_of_ble_eq_true rfl, Nat.le_of_ble_eq_true rfl⟩) ⟨sx_blindF, va_recv hK hP (ci := 0) (q0 := 0) rfl rfl, fun U hU hW => ⟨rfl, hFw.moved hW.alike, hEx.pass hS hFc hU hW, sx_Pre.mk hPc hKc hDc hU hW⟩⟩ rfl rfl hl.1 rfl (lv_room (Nat.le_of_ble_eq_true rfl)) dX1_open_3 ⟨Nat.le_of_ble_eq_true rfl, Nat.le_of_ble_eq_true rfl⟩) hS (fun q _ h => hFc q h) hFc (fun u t H1 locs ht hvm hw hB hz1 hk1 hS => ?_)
  obtain ⟨hP1, hD1⟩ := hB
  rw [ht] at hP1
  obtain ⟨hP, hD⟩ := va_join (wr := []) (w1 := [(h, .inr (0, [.ref qk, .ref qb, .ref qo])), (qk, .inl (ck, 64, .inl (sa_bs f))), (qb, .inl (cb, 32, .inl (sa_bs x))), (qo, .inl (co, 32, .inl (sa_bs (sa_dec f x))))]) hP hD [0, 1, 2, 3] [] rfl rfl (by decide) (by decide) hk1 hFc hP1 hD1
  generalize H1 = H at hP hS ⊢
  have hP : va_P (dC, dI) vwCl [(h, .inr (0, [.ref qk, .ref qb, .ref qo])), (qk, .inl (ck, 64, .inl (sa_bs f))), (qb, .inl (cb, 32, .inl (sa_bs x))), (qo, .inl (co, 32, .inl (sa_bs (sa_dec f x))))] H := hP
  have hD : va_D A [(h, .inr (0, [.ref qk, .ref qb, .ref qo])), (qk, .inl (ck, 64, .inl (sa_bs f))), (qb, .inl (cb, 32, .inl (sa_bs x))), (qo, .inl (co, 32, .inl (sa_bs (sa_dec f x))))] := hD
  refine W.widen (k := 6) (n := 203) (Nat.le_of_ble_eq_true rfl) (Nat.le_of_ble_eq_true rfl) ?_
  have hP9 := hP.sub (ws' := [(h, .inr (0, [.ref qk, .ref qb, .ref qo])), (qk, .inl (ck, 64, .inl (sa_bs f))), (qb, .inl (cb, 32, .inl (sa_bs x))), (qo, .inl (co, 32, .inl (sa_bs (sa_dec f x))))]) [0, 1, 2, 3] rfl
  have hD9 := hD.sub (ws' := [(h, .inr (0, [.ref qk, .ref qb, .ref qo])), (qk, .inl (ck, 64, .inl (sa_bs f))), (qb, .inl (cb, 32, .inl (sa_bs x))), (qo, .inl (co, 32, .inl (sa_bs (sa_dec f x))))]) [0, 1, 2, 3] (by decide) rfl
  exact W.vret hx hb hr (fun t ht hW => ⟨⟨(), rfl, trivial, by rw [ht]; exact hP9, hD9⟩, hS.F ht⟩) hS.2.2 dX1_open_6
end
section
/-! the law's small methods, by contract -/
def sa_cl (xs : Nat → Int32) (L j : Nat) : Int32 := if j < L then xs j else 0
/-- the script, which no world holds -/
def sx_Sc (b L : Nat) (xs : Nat → Int32) (U : State) : Prop := b < U.heap.size ∧ va_X b L xs U U.heap
theorem sx_Sc.blind {b L : Nat} {xs : Nat → Int32} {U : State} {a : Array Value} {g : JFrame} {mk : MethodId} (h : sx_Sc b L xs U) : sx_Sc b L xs (U.calling g mk a) := ⟨h.1, va_X.moved (u := U) (U := U.calling g mk a) (Vm.Alike.refl U.vm) h.2⟩
theorem sx_Sc.pass {b L : Nat} {xs : Nat → Int32} {A : Nat → Prop} {s U : State} {H : Heap} {locs : List Loc} (hX : va_X b L xs s s.heap) (hbl : b < s.heap.size) (hbA : ¬ A b) (hS : va_S A s.heap H locs) (hU : U.heap = H) (hW : s.WarmedH U.vm) : sx_Sc b L xs U := by
  refine ⟨by rw [hU]; exact Nat.lt_of_lt_of_le hbl hS.1, ?_⟩
  rw [hU]
  exact va_X.moved hW.alike (va_X.kept hX (hS.2.1 b hbl hbA))
def sx_PreX (b L : Nat) (xs : Nat → Int32) (D : va_G) (ws : va_W) (tys : List (ClassId × FieldType)) (sz : Nat) (U : State) : Prop := sx_Sc b L xs U ∧ sx_Pre D ws tys sz U
theorem sx_blindX {b L : Nat} {xs : Nat → Int32} {D : va_G} {ws : va_W} {tys : List (ClassId × FieldType)} {sz : Nat} {av : List Value} : FrameBlind (va_Pc av (sx_PreX b L xs D ws tys sz)) := fun _ _ _ _ q => ⟨q.1, q.2.1.blind, q.2.2.blind⟩
set_option maxHeartbeats 4000000 in
set_option maxRecDepth 100000 in
/-- cell(s, k) -/
theorem mt_cell (l : Launch) (dC : Nat → ClassId) (dI : Nat → Nat → Nat) (sz : Nat) (b L j : Nat) (xs : Nat → Int32) (hL : L ≤ 96) (hj : j < 2 ^ 31) : Met l yX0_cell (ws_ yX0_cell cX0_cell 2 (some .int)) ({ frames := 0, cells := 0, slots := 0, locals := 0 }) (va_Pc [.ref b, .int (nI j)] (sx_PreX b L xs (dC, dI) [] [] sz)) (va_Qi (fun (r : Int32) (_ : Unit) => r = sa_cl xs L j) (fun _ t => sx_Post (dC, dI) (va_A [] sz) [] t) (va_A [] sz)) 0 0 (va_A [] sz) := by
  refine Met.ofW (cc := cX0_cell) (maxL := 2) (ret := (some .int)) (by decide) rfl ?_
  intro p e s m args below meth c s₁ B hml hv
  obtain ⟨rfl, ⟨hbl, hX⟩, hsz, hP, hK, hD0⟩ := hv
  have hx := B.exec
  have hb := B.bytes
  have hr := B.returns
  have hts := atoms_spec (ws := ws_ yX0_cell cX0_cell 2 (some .int)) B.pre
  have hts : ∀ w ∈ lw_all, w.before _ s = true := fun w h => hts w (List.mem_cons_of_mem _ h)
  have hown : s.vm.findClass RX0 = some m.cls := findClass_of_methodNamed B.named
  have hlocks := B.notSynchronized
  subst hsz
  have hD := hD0.self (sz := s.heap.size)
  generalize hAe : va_A [] s.heap.size = A at hD ⊢
  have hA : ∀ q : Nat, s.heap.size ≤ q → A q := fun q h => by rw [← hAe]; exact Or.inr h
  have hS : va_S A s.heap s.heap [] := va_S.rf
  have hP : va_P (dC, dI) vwCl [] s.heap := hP
  have hl := lv_entry ([.ref b, .int (nI j)]) (n := 2) (Nat.le_of_ble_eq_true rfl)
  rw [lg_entry_eq]
  generalize (lg_sl ([.ref b, .int (nI j)]) ++ List.replicate (2 - (lg_sl ([.ref b, .int (nI j)])).length) Slot.unset).toArray = ls at hl ⊢
  have hl : lv_has ls 2 [(0, .ref b), (1, .int (nI j))] := hl
  have hbA : ¬ A b := by
    rw [← hAe]
    rintro (⟨k, e, h⟩ | h)
    · simp at h
    · omega
  refine lv_iload_n hx hb dX0_cell_0 rfl (lv_at hl 1 rfl) ?_
  refine lv_aload_n hx hb dX0_cell_1 rfl (lv_at hl 0 rfl) ?_
  refine va_slen hx hb hX hbl hbA hS dX0_cell_2 ?_
  refine lv_icmp_ge (tgt := 12) hx hb dX0_cell_3 (by decide) (fun hc => ?_) (fun hc => ?_)
  · have hc2 := (nI_leI (a := L) (b := j) (by omega) (by omega)).mp hc
    refine lv_iconst (v := 0) hx hb dX0_cell_12 (by decide) ?_
    exact W.iret (v := 0) hx hb hr (fun t ht hW => ⟨⟨_, (), rfl, by unfold sa_cl; rw [if_neg (by omega)], by rw [ht]; exact hP, hD⟩, hS.F ht⟩) hS.2.2 dX0_cell_13
  · have hlt : j < L := Nat.lt_of_not_le fun q => hc ((nI_leI (a := L) (b := j) (by omega) (by omega)).mpr q)
    refine lv_aload_n hx hb dX0_cell_6 rfl (lv_at hl 0 rfl) ?_
    refine lv_iload_n hx hb dX0_cell_7 rfl (lv_at hl 1 rfl) ?_
    refine va_sld hx hb hX hbl hbA hS (vp_in_nI (n := j) hlt (by omega)) dX0_cell_8 ?_
    refine sx_top (v := xs j) (by rw [nI_clamp (by omega)]) ?_
    refine lv_goto (tgt := 13) hx hb dX0_cell_9 (by decide) ?_
    exact W.iret (v := xs j) hx hb hr (fun t ht hW => ⟨⟨_, (), rfl, by unfold sa_cl; rw [if_pos hlt], by rw [ht]; exact hP, hD⟩, hS.F ht⟩) hS.2.2 dX0_cell_13
set_option maxHeartbeats 4000000 in
set_option maxRecDepth 100000 in
/-- turned(x, by) -/
theorem mt_turned (l : Launch) (dC : Nat → ClassId) (dI : Nat → Nat → Nat) (sz : Nat) (x0 k0 : Int32) : Met l yX0_turned (ws_ yX0_turned cX0_turned 2 (some .int)) ({ frames := 0, cells := 0, slots := 0, locals := 0 }) (va_Pc [.int x0, .int k0] (sx_Pre (dC, dI) [] [] sz)) (va_Qi (fun (r : Int32) (_ : Unit) => r = sa_ror x0 k0) (fun _ t => sx_Post (dC, dI) (va_A [] sz) [] t) (va_A [] sz)) 0 0 (va_A [] sz) := by
  refine Met.ofW (cc := cX0_turned) (maxL := 2) (ret := (some .int)) (by decide) rfl ?_
  intro p e s m args below meth c s₁ B hml hv
  obtain ⟨rfl, hsz, hP, hK, hD0⟩ := hv
  have hx := B.exec
  have hb := B.bytes
  have hr := B.returns
  have hts := atoms_spec (ws := ws_ yX0_turned cX0_turned 2 (some .int)) B.pre
  have hts : ∀ w ∈ lw_all, w.before _ s = true := fun w h => hts w (List.mem_cons_of_mem _ h)
  have hown : s.vm.findClass RX0 = some m.cls := findClass_of_methodNamed B.named
  have hlocks := B.notSynchronized
  subst hsz
  have hD := hD0.self (sz := s.heap.size)
  generalize hAe : va_A [] s.heap.size = A at hD ⊢
  have hA : ∀ q : Nat, s.heap.size ≤ q → A q := fun q h => by rw [← hAe]; exact Or.inr h
  have hS : va_S A s.heap s.heap [] := va_S.rf
  have hP : va_P (dC, dI) vwCl [] s.heap := hP
  have hl := lv_entry ([.int x0, .int k0]) (n := 2) (Nat.le_of_ble_eq_true rfl)
  rw [lg_entry_eq]
  generalize (lg_sl ([.int x0, .int k0]) ++ List.replicate (2 - (lg_sl ([.int x0, .int k0])).length) Slot.unset).toArray = ls at hl ⊢
  have hl : lv_has ls 2 [(0, .int x0), (1, .int k0)] := hl
  refine lv_iload_n hx hb dX0_turned_0 rfl (lv_at hl 0 rfl) ?_
  refine lv_iload_n hx hb dX0_turned_1 rfl (lv_at hl 1 rfl) ?_
  refine lv_iushr (v := sa_usr x0 k0) hx hb dX0_turned_2 rfl ?_
  refine lv_iload_n hx hb dX0_turned_3 rfl (lv_at hl 0 rfl) ?_
  refine lv_bipush (v := 32) hx hb dX0_turned_4 (by decide) ?_
  refine lv_iload_n hx hb dX0_turned_6 rfl (lv_at hl 1 rfl) ?_
  refine lv_isub hx hb dX0_turned_7 ?_
  refine lv_ishl hx hb dX0_turned_8 ?_
  refine lv_ior hx hb dX0_turned_9 ?_
  exact W.iret (v := (sa_usr x0 k0) ||| (x0 <<< ((32 - k0) &&& 31))) hx hb hr (fun t ht hW => ⟨⟨_, (), rfl, rfl, by rw [ht]; exact hP, hD⟩, hS.F ht⟩) hS.2.2 dX0_turned_10
set_option maxHeartbeats 4000000 in
set_option maxRecDepth 100000 in
/-- same: the loop -/
theorem lp_same {p : Program} {l : Launch} {e : Env} {R : Room} {s : State} {m : MethodId} {args : Array Value} {below : List Frame} {meth : Method} {c : Code} {Q : State → Prop} {A : Nat → Prop} {cells slots : Nat} {dC : Nat → ClassId} {dI : Nat → Nat → Nat} (qa qb : Nat) (ca cb : ClassId) (f g : Nat → Int32) (hx : p.tables.exec = Jvm.exec) (hb : c.code = cX0_same) (hml : c.maxLocals = 4) (hown : s.vm.findClass RX0 = some m.cls) (hts : ∀ w ∈ lw_all, w.before args s = true) (hA : ∀ q : Nat, s.heap.size ≤ q → A q) (hK : va_K (dC, dI) vwCl [(ca, .int), (cb, .int)] s) (hfg : ∀ j, j < 8 → f j = g j) :
    ∀ (n i : Nat), i ≤ 8 → 8 < i + n → ∀ (H : Heap) (locs : List Loc) (ls : Array Slot), va_P (dC, dI) vwCl [(qa, .inl (ca, 8, .inl f)), (qb, .inl (cb, 8, .inl g))] H → va_D A [(qa, .inl (ca, 8, .inl f)), (qb, .inl (cb, 8, .inl g))] → va_S A s.heap H locs → lv_has ls 4 [(0, .ref qa), (1, .ref qb), (2, .int 1), (3, .int (nI i))] → (∀ (H : Heap) (locs : List Loc) (ls : Array Slot), va_P (dC, dI) vwCl [(qa, .inl (ca, 8, .inl f)), (qb, .inl (cb, 8, .inl g))] H → va_D A [(qa, .inl (ca, 8, .inl f)), (qb, .inl (cb, 8, .inl g))] → va_S A s.heap H locs → lv_has ls 4 [(0, .ref qa), (1, .ref qb), (2, .int 1), (3, .int (nI 8))] → W p l e R s m args below meth c H locs cells slots Q (F0 m 46 ls [])) → W p l e R s m args below meth c H locs cells slots Q (F0 m 15 ls []) := by
  intro n
  induction n with
  | zero =>
    intro i h1 h2
    exact absurd h2 (by omega)
  | succ n ih =>
    intro i hi hi2 H locs ls hP hD hS hl kk
    refine lv_iload_n hx hb dX0_same_15 rfl (lv_at hl 3 rfl) ?_
    refine lv_aload_n hx hb dX0_same_16 rfl (lv_at hl 0 rfl) ?_
    refine va_alen (v := 8) hx hb hK hP 0 0 rfl rfl rfl dX0_same_17 ?_
    refine lv_icmp_ge (tgt := 46) hx hb dX0_same_18 (by decide) (fun hc => ?_) (fun hc => ?_)
    · have hc2 := (nI_leI (a := 8) (b := i) (by decide) (by omega)).mp hc
      obtain rfl : i = 8 := by omega
      exact kk H locs ls hP hD hS hl
    · have hlt : i < 8 := Nat.lt_of_not_le fun q => hc ((nI_leI (a := 8) (b := i) (by decide) (by omega)).mpr q)
      refine lv_iload_n hx hb dX0_same_21 rfl (lv_at hl 2 rfl) ?_
      refine lv_if_eq (tgt := 46) hx hb dX0_same_22 (by decide) (fun hc => absurd hc (by decide)) (fun hc => ?_)
      refine lv_aload_n hx hb dX0_same_25 rfl (lv_at hl 0 rfl) ?_
      refine lv_iload_n hx hb dX0_same_26 rfl (lv_at hl 3 rfl) ?_
      refine sx_iald (v := f i) hx hb hK hP 0 0 rfl rfl i rfl (by omega) (by decide) rfl dX0_same_27 ?_
      refine lv_aload_n hx hb dX0_same_28 rfl (lv_at hl 1 rfl) ?_
      refine lv_iload_n hx hb dX0_same_29 rfl (lv_at hl 3 rfl) ?_
      refine sx_iald (v := g i) hx hb hK hP 1 1 rfl rfl i rfl (by omega) (by decide) rfl dX0_same_30 ?_
      refine lv_icmp_ne (tgt := 38) hx hb dX0_same_31 (by decide) (fun hc => absurd (hfg i hlt) hc) (fun hc => ?_)
      refine lv_iconst (v := 1) hx hb dX0_same_34 (by decide) ?_
      refine lv_goto (tgt := 39) hx hb dX0_same_35 (by decide) ?_
      refine lv_istore_n (lv' := [(2, .int 1), (0, .ref qa), (1, .ref qb), (3, .int (nI i))]) hx hb dX0_same_39 rfl hl (by decide) rfl (fun ls hl => ?_)
      refine lv_iinc (v := nI (i + 1)) (lv' := [(3, .int (nI (i + 1))), (2, .int 1), (0, .ref qa), (1, .ref qb)]) hx hb dX0_same_40 hl (k := 3) rfl (nI_1 i) (by decide) rfl (fun ls hl => ?_)
      refine lv_goto (tgt := 15) hx hb dX0_same_43 (by decide) ?_
      exact ih (i + 1) (by omega) (by omega) H locs ls (hP.sub [0, 1] rfl) (hD.sub [0, 1] (by decide) rfl) hS (lv_sub hl [2, 3, 1, 0] rfl) kk
set_option maxHeartbeats 4000000 in
set_option maxRecDepth 100000 in
/-- same(a, b) of two that are the same -/
theorem mt_same (l : Launch) (dC : Nat → ClassId) (dI : Nat → Nat → Nat) (sz : Nat) (qa qb : Nat) (ca cb : ClassId) (f g : Nat → Int32) (hfg : ∀ j, j < 8 → f j = g j) : Met l yX0_same (ws_ yX0_same cX0_same 4 (some .boolean)) ({ frames := 0, cells := 0, slots := 0, locals := 0 }) (va_Pc [.ref qa, .ref qb] (sx_Pre (dC, dI) [(qa, .inl (ca, 8, .inl f)), (qb, .inl (cb, 8, .inl g))] [(ca, .int), (cb, .int)] sz)) (va_Qi (fun (r : Int32) (_ : Unit) => r = 1) (fun _ t => sx_Post (dC, dI) (va_A [(qa, .inl (ca, 8, .inl f)), (qb, .inl (cb, 8, .inl g))] sz) [(qa, .inl (ca, 8, .inl f)), (qb, .inl (cb, 8, .inl g))] t) (va_A [(qa, .inl (ca, 8, .inl f)), (qb, .inl (cb, 8, .inl g))] sz)) 0 0 (va_A [(qa, .inl (ca, 8, .inl f)), (qb, .inl (cb, 8, .inl g))] sz) := by
  refine Met.ofW (cc := cX0_same) (maxL := 4) (ret := (some .boolean)) (by decide) rfl ?_
  intro p e s m args below meth c s₁ B hml hv
  obtain ⟨rfl, hsz, hP, hK, hD0⟩ := hv
  have hx := B.exec
  have hb := B.bytes
  have hr := B.returns
  have hts := atoms_spec (ws := ws_ yX0_same cX0_same 4 (some .boolean)) B.pre
  have hts : ∀ w ∈ lw_all, w.before _ s = true := fun w h => hts w (List.mem_cons_of_mem _ h)
  have hown : s.vm.findClass RX0 = some m.cls := findClass_of_methodNamed B.named
  have hlocks := B.notSynchronized
  subst hsz
  have hD := hD0.self (sz := s.heap.size)
  generalize hAe : va_A [(qa, .inl (ca, 8, .inl f)), (qb, .inl (cb, 8, .inl g))] s.heap.size = A at hD ⊢
  have hA : ∀ q : Nat, s.heap.size ≤ q → A q := fun q h => by rw [← hAe]; exact Or.inr h
  have hS : va_S A s.heap s.heap [] := va_S.rf
  have hP : va_P (dC, dI) vwCl [(qa, .inl (ca, 8, .inl f)), (qb, .inl (cb, 8, .inl g))] s.heap := hP
  have hl := lv_entry ([.ref qa, .ref qb]) (n := 4) (Nat.le_of_ble_eq_true rfl)
  rw [lg_entry_eq]
  generalize (lg_sl ([.ref qa, .ref qb]) ++ List.replicate (4 - (lg_sl ([.ref qa, .ref qb])).length) Slot.unset).toArray = ls at hl ⊢
  have hl : lv_has ls 4 [(0, .ref qa), (1, .ref qb)] := hl
  refine lv_aload_n hx hb dX0_same_0 rfl (lv_at hl 0 rfl) ?_
  refine va_alen (v := 8) hx hb hK hP 0 0 rfl rfl rfl dX0_same_1 ?_
  refine lv_aload_n hx hb dX0_same_2 rfl (lv_at hl 1 rfl) ?_
  refine va_alen (v := 8) hx hb hK hP 1 1 rfl rfl rfl dX0_same_3 ?_
  refine lv_icmp_ne (tgt := 11) hx hb dX0_same_4 (by decide) (fun hc => absurd hc (by decide)) (fun hc => ?_)
  refine lv_iconst (v := 1) hx hb dX0_same_7 (by decide) ?_
  refine lv_goto (tgt := 12) hx hb dX0_same_8 (by decide) ?_
  refine lv_istore_n (lv' := [(2, .int 1), (0, .ref qa), (1, .ref qb)]) hx hb dX0_same_12 rfl hl (by decide) rfl (fun ls hl => ?_)
  refine lv_iconst (v := 0) hx hb dX0_same_13 (by decide) ?_
  refine lv_istore_n (lv' := [(3, .int 0), (2, .int 1), (0, .ref qa), (1, .ref qb)]) hx hb dX0_same_14 rfl hl (by decide) rfl (fun ls hl => ?_)
  have hl : lv_has ls 4 [(3, .int (nI 0)), (2, .int 1), (0, .ref qa), (1, .ref qb)] := hl
  refine lp_same qa qb ca cb f g hx hb hml hown hts hA hK hfg 9 0 (by omega) (by omega) _ _ _ (hP.sub [0, 1] rfl) (hD.sub [0, 1] (by decide) rfl) hS (lv_sub hl [2, 3, 1, 0] rfl) (fun H locs ls hP hD hS hl => ?_)
  refine lv_iload_n hx hb dX0_same_46 rfl (lv_at hl 2 rfl) ?_
  exact W.zret (v := 1) hx hb hr rfl (fun t ht hW => ⟨⟨1, (), rfl, rfl, by rw [ht]; exact hP, hD⟩, hS.F ht⟩) hS.2.2 dX0_same_47
set_option maxHeartbeats 4000000 in
set_option maxRecDepth 100000 in
/-- lays: a quarter of the key, in the desk and beside -/
theorem mt_lays (l : Launch) (dC : Nat → ClassId) (dI : Nat → Nat → Nat) (sz : Nat) (h qk qb qo qa : Nat) (ck ca : ClassId) (f : Nat → Int32) (pp : Nat) (x0 a0 b0 c0 d0 : Int32) (hx0 : x0 &&& 3 = nI pp) (hp : pp < 4) : Met l yX0_lays (ws_ yX0_lays cX0_lays 8 none) ({ frames := 2, cells := 0, slots := 0, locals := 48 }) (va_Pc [.ref h, .ref qa, .int x0, .int a0, .int b0, .int c0, .int d0] (sx_Pre (dC, dI) [(h, .inr (0, [.ref qk, .ref qb, .ref qo])), (qk, .inl (ck, 64, .inl (sa_bs f))), (qa, .inl (ca, 16, .inl f))] [(ck, .byte), (ca, .int)] sz)) (va_Qv (fun _ : Unit => True) (fun _ t => sx_Post (dC, dI) (va_A [(h, .inr (0, [.ref qk, .ref qb, .ref qo])), (qk, .inl (ck, 64, .inl (sa_bs f))), (qa, .inl (ca, 16, .inl f))] sz) [(h, .inr (0, [.ref qk, .ref qb, .ref qo])), (qk, .inl (ck, 64, .inl (sa_bs (sa_k4 f pp a0 b0 c0 d0)))), (qa, .inl (ca, 16, .inl (sa_k4 f pp a0 b0 c0 d0)))] t) (va_A [(h, .inr (0, [.ref qk, .ref qb, .ref qo])), (qk, .inl (ck, 64, .inl (sa_bs f))), (qa, .inl (ca, 16, .inl f))] sz)) 0 0 (va_A [(h, .inr (0, [.ref qk, .ref qb, .ref qo])), (qk, .inl (ck, 64, .inl (sa_bs f))), (qa, .inl (ca, 16, .inl f))] sz) := by
  refine Met.ofW (cc := cX0_lays) (maxL := 8) (ret := none) (by decide) rfl ?_
  intro p e s m args below meth c s₁ B hml hv
  obtain ⟨rfl, hsz, hP, hK, hD0⟩ := hv
  have hx := B.exec
  have hb := B.bytes
  have hr := B.returns
  have hts := atoms_spec (ws := ws_ yX0_lays cX0_lays 8 none) B.pre
  have hts : ∀ w ∈ lw_all, w.before _ s = true := fun w h => hts w (List.mem_cons_of_mem _ h)
  have hown : s.vm.findClass RX0 = some m.cls := findClass_of_methodNamed B.named
  have hlocks := B.notSynchronized
  subst hsz
  have hD := hD0.self (sz := s.heap.size)
  generalize hAe : va_A [(h, .inr (0, [.ref qk, .ref qb, .ref qo])), (qk, .inl (ck, 64, .inl (sa_bs f))), (qa, .inl (ca, 16, .inl f))] s.heap.size = A at hD ⊢
  have hA : ∀ q : Nat, s.heap.size ≤ q → A q := fun q h => by rw [← hAe]; exact Or.inr h
  have hS : va_S A s.heap s.heap [] := va_S.rf
  have hP : va_P (dC, dI) vwCl [(h, .inr (0, [.ref qk, .ref qb, .ref qo])), (qk, .inl (ck, 64, .inl (sa_bs f))), (qa, .inl (ca, 16, .inl f))] s.heap := hP
  have hl := lv_entry ([.ref h, .ref qa, .int x0, .int a0, .int b0, .int c0, .int d0]) (n := 8) (Nat.le_of_ble_eq_true rfl)
  rw [lg_entry_eq]
  generalize (lg_sl ([.ref h, .ref qa, .int x0, .int a0, .int b0, .int c0, .int d0]) ++ List.replicate (8 - (lg_sl ([.ref h, .ref qa, .int x0, .int a0, .int b0, .int c0, .int d0])).length) Slot.unset).toArray = ls at hl ⊢
  have hl : lv_has ls 8 [(0, .ref h), (1, .ref qa), (2, .int x0), (3, .int a0), (4, .int b0), (5, .int c0), (6, .int d0)] := hl
  refine lv_aload_n hx hb dX0_lays_0 rfl (lv_at hl 0 rfl) ?_
  refine lv_iload_n hx hb dX0_lays_1 rfl (lv_at hl 2 rfl) ?_
  refine lv_iload_n hx hb dX0_lays_2 rfl (lv_at hl 3 rfl) ?_
  refine lv_iload hx hb dX0_lays_3 (lv_at hl 4 rfl) ?_
  refine lv_iload hx hb dX0_lays_5 (lv_at hl 5 rfl) ?_
  refine lv_iload hx hb dX0_lays_7 (lv_at hl 6 rfl) ?_
  have hPc := hP.sub (ws' := [(h, .inr (0, [.ref qk, .ref qb, .ref qo])), (qk, .inl (ck, 64, .inl (sa_bs f)))]) [0, 1] rfl
  have hDc := hD.sub (ws' := [(h, .inr (0, [.ref qk, .ref qb, .ref qo])), (qk, .inl (ck, 64, .inl (sa_bs f)))]) [0, 1] (by decide) rfl
  have hKc := hK.sub (tys' := [(ck, .byte)]) [0] rfl
  have hFc := va_free (wc := [(h, .inr (0, [.ref qk, .ref qb, .ref qo])), (qk, .inl (ck, 64, .inl (sa_bs f)))]) hD hS hA [0, 1] rfl
  refine va_callv (va_runV (As := [.int x0, .int a0, .int b0, .int c0, .int d0]) (rest := []) ⟨hx, hb, hml, hown, hts⟩ (mt_key l dC dI s.heap.size h qk qb qo ck f pp x0 a0 b0 c0 d0 hx0 hp) (cwV 5 hts (lw_V q284 q285 q286 q8 q287) rfl rfl rfl (by decide +kernel) ⟨Nat.le_of_ble_eq_true rfl, Nat.le_of_ble_eq_true rfl⟩) ⟨sx_blind, va_recv hK hP (ci := 0) (q0 := 0) rfl rfl, fun U hU hW => ⟨rfl, sx_Pre.mk hPc hKc hDc hU hW⟩⟩ rfl rfl hl.1 rfl (lv_room (Nat.le_of_ble_eq_true rfl)) dX0_lays_9 ⟨Nat.le_of_ble_eq_true rfl, Nat.le_of_ble_eq_true rfl⟩) hS (fun q _ h => hFc q h) hFc (fun u t H1 locs ht hvm hw hB hz1 hk1 hS => ?_)
  obtain ⟨hP1, hD1⟩ := hB
  rw [ht] at hP1
  obtain ⟨hP, hD⟩ := va_join (wr := [(qa, .inl (ca, 16, .inl f))]) (w1 := [(h, .inr (0, [.ref qk, .ref qb, .ref qo])), (qk, .inl (ck, 64, .inl (sa_bs (sa_k4 f pp a0 b0 c0 d0))))]) hP hD [0, 1] [2] rfl rfl (by decide) (by decide) hk1 hFc hP1 hD1
  generalize H1 = H at hP hS ⊢
  have hP : va_P (dC, dI) vwCl [(qa, .inl (ca, 16, .inl f)), (h, .inr (0, [.ref qk, .ref qb, .ref qo])), (qk, .inl (ck, 64, .inl (sa_bs (sa_k4 f pp a0 b0 c0 d0))))] H := hP
  have hD : va_D A [(qa, .inl (ca, 16, .inl f)), (h, .inr (0, [.ref qk, .ref qb, .ref qo])), (qk, .inl (ck, 64, .inl (sa_bs (sa_k4 f pp a0 b0 c0 d0))))] := hD
  refine W.widen (k := 0) (n := 0) (Nat.le_of_ble_eq_true rfl) (Nat.le_of_ble_eq_true rfl) ?_
  refine lv_iconst (v := 4) hx hb dX0_lays_12 (by decide) ?_
  refine lv_iload_n hx hb dX0_lays_13 rfl (lv_at hl 2 rfl) ?_
  refine lv_iconst (v := 3) hx hb dX0_lays_14 (by decide) ?_
  refine lv_iand hx hb dX0_lays_15 ?_
  refine sx_top (v := nI pp) (hx0) ?_
  refine lv_imul hx hb dX0_lays_16 ?_
  refine sx_top (v := nI (4 * pp)) (pk_mul 4 pp) ?_
  refine lv_istore (lv' := [(7, .int (nI (4 * pp))), (0, .ref h), (1, .ref qa), (2, .int x0), (3, .int a0), (4, .int b0), (5, .int c0), (6, .int d0)]) hx hb dX0_lays_17 hl (by decide) rfl (fun ls hl => ?_)
  refine lv_aload_n hx hb dX0_lays_19 rfl (lv_at hl 2 rfl) ?_
  refine lv_iload hx hb dX0_lays_20 (lv_at hl 0 rfl) ?_
  refine lv_iload_n hx hb dX0_lays_22 rfl (lv_at hl 4 rfl) ?_
  refine sx_iast (g := upd f (4 * pp) a0) hx hb hK hP hD hS 0 1 rfl rfl (4 * pp) rfl (by omega) (by decide) (fun _ _ => rfl) dX0_lays_23 (fun H locs hP hD hS => ?_)
  have hP : va_P (dC, dI) vwCl [(qa, .inl (ca, 16, .inl (upd f (4 * pp) a0))), (h, .inr (0, [.ref qk, .ref qb, .ref qo])), (qk, .inl (ck, 64, .inl (sa_bs (sa_k4 f pp a0 b0 c0 d0))))] H := hP
  have hD : va_D A [(qa, .inl (ca, 16, .inl (upd f (4 * pp) a0))), (h, .inr (0, [.ref qk, .ref qb, .ref qo])), (qk, .inl (ck, 64, .inl (sa_bs (sa_k4 f pp a0 b0 c0 d0))))] := hD
  refine lv_aload_n hx hb dX0_lays_24 rfl (lv_at hl 2 rfl) ?_
  refine lv_iload hx hb dX0_lays_25 (lv_at hl 0 rfl) ?_
  refine lv_iconst (v := 1) hx hb dX0_lays_27 (by decide) ?_
  refine lv_iadd hx hb dX0_lays_28 ?_
  refine sx_top (v := nI ((4 * pp) + 1)) (nI_add (4 * pp) 1) ?_
  refine lv_iload hx hb dX0_lays_29 (lv_at hl 5 rfl) ?_
  refine sx_iast (g := upd (upd f (4 * pp) a0) ((4 * pp) + 1) b0) hx hb hK hP hD hS 0 1 rfl rfl ((4 * pp) + 1) rfl (by omega) (by decide) (fun _ _ => rfl) dX0_lays_31 (fun H locs hP hD hS => ?_)
  have hP : va_P (dC, dI) vwCl [(qa, .inl (ca, 16, .inl (upd (upd f (4 * pp) a0) ((4 * pp) + 1) b0))), (h, .inr (0, [.ref qk, .ref qb, .ref qo])), (qk, .inl (ck, 64, .inl (sa_bs (sa_k4 f pp a0 b0 c0 d0))))] H := hP
  have hD : va_D A [(qa, .inl (ca, 16, .inl (upd (upd f (4 * pp) a0) ((4 * pp) + 1) b0))), (h, .inr (0, [.ref qk, .ref qb, .ref qo])), (qk, .inl (ck, 64, .inl (sa_bs (sa_k4 f pp a0 b0 c0 d0))))] := hD
  refine lv_aload_n hx hb dX0_lays_32 rfl (lv_at hl 2 rfl) ?_
  refine lv_iload hx hb dX0_lays_33 (lv_at hl 0 rfl) ?_
  refine lv_iconst (v := 2) hx hb dX0_lays_35 (by decide) ?_
  refine lv_iadd hx hb dX0_lays_36 ?_
  refine sx_top (v := nI ((4 * pp) + 2)) (nI_add (4 * pp) 2) ?_
  refine lv_iload hx hb dX0_lays_37 (lv_at hl 6 rfl) ?_
  refine sx_iast (g := upd (upd (upd f (4 * pp) a0) ((4 * pp) + 1) b0) ((4 * pp) + 2) c0) hx hb hK hP hD hS 0 1 rfl rfl ((4 * pp) + 2) rfl (by omega) (by decide) (fun _ _ => rfl) dX0_lays_39 (fun H locs hP hD hS => ?_)
  have hP : va_P (dC, dI) vwCl [(qa, .inl (ca, 16, .inl (upd (upd (upd f (4 * pp) a0) ((4 * pp) + 1) b0) ((4 * pp) + 2) c0))), (h, .inr (0, [.ref qk, .ref qb, .ref qo])), (qk, .inl (ck, 64, .inl (sa_bs (sa_k4 f pp a0 b0 c0 d0))))] H := hP
  have hD : va_D A [(qa, .inl (ca, 16, .inl (upd (upd (upd f (4 * pp) a0) ((4 * pp) + 1) b0) ((4 * pp) + 2) c0))), (h, .inr (0, [.ref qk, .ref qb, .ref qo])), (qk, .inl (ck, 64, .inl (sa_bs (sa_k4 f pp a0 b0 c0 d0))))] := hD
  refine lv_aload_n hx hb dX0_lays_40 rfl (lv_at hl 2 rfl) ?_
  refine lv_iload hx hb dX0_lays_41 (lv_at hl 0 rfl) ?_
  refine lv_iconst (v := 3) hx hb dX0_lays_43 (by decide) ?_
  refine lv_iadd hx hb dX0_lays_44 ?_
  refine sx_top (v := nI ((4 * pp) + 3)) (nI_add (4 * pp) 3) ?_
  refine lv_iload hx hb dX0_lays_45 (lv_at hl 7 rfl) ?_
  refine sx_iast (g := upd (upd (upd (upd f (4 * pp) a0) ((4 * pp) + 1) b0) ((4 * pp) + 2) c0) ((4 * pp) + 3) d0) hx hb hK hP hD hS 0 1 rfl rfl ((4 * pp) + 3) rfl (by omega) (by decide) (fun _ _ => rfl) dX0_lays_47 (fun H locs hP hD hS => ?_)
  have hP : va_P (dC, dI) vwCl [(qa, .inl (ca, 16, .inl (upd (upd (upd (upd f (4 * pp) a0) ((4 * pp) + 1) b0) ((4 * pp) + 2) c0) ((4 * pp) + 3) d0))), (h, .inr (0, [.ref qk, .ref qb, .ref qo])), (qk, .inl (ck, 64, .inl (sa_bs (sa_k4 f pp a0 b0 c0 d0))))] H := hP
  have hD : va_D A [(qa, .inl (ca, 16, .inl (upd (upd (upd (upd f (4 * pp) a0) ((4 * pp) + 1) b0) ((4 * pp) + 2) c0) ((4 * pp) + 3) d0))), (h, .inr (0, [.ref qk, .ref qb, .ref qo])), (qk, .inl (ck, 64, .inl (sa_bs (sa_k4 f pp a0 b0 c0 d0))))] := hD
  have hP : va_P (dC, dI) vwCl [(qa, .inl (ca, 16, .inl (sa_k4 f pp a0 b0 c0 d0))), (h, .inr (0, [.ref qk, .ref qb, .ref qo])), (qk, .inl (ck, 64, .inl (sa_bs (sa_k4 f pp a0 b0 c0 d0))))] H := hP
  have hD : va_D A [(qa, .inl (ca, 16, .inl (sa_k4 f pp a0 b0 c0 d0))), (h, .inr (0, [.ref qk, .ref qb, .ref qo])), (qk, .inl (ck, 64, .inl (sa_bs (sa_k4 f pp a0 b0 c0 d0))))] := hD
  have hP9 := hP.sub (ws' := [(h, .inr (0, [.ref qk, .ref qb, .ref qo])), (qk, .inl (ck, 64, .inl (sa_bs (sa_k4 f pp a0 b0 c0 d0)))), (qa, .inl (ca, 16, .inl (sa_k4 f pp a0 b0 c0 d0)))]) [1, 2, 0] rfl
  have hD9 := hD.sub (ws' := [(h, .inr (0, [.ref qk, .ref qb, .ref qo])), (qk, .inl (ck, 64, .inl (sa_bs (sa_k4 f pp a0 b0 c0 d0)))), (qa, .inl (ca, 16, .inl (sa_k4 f pp a0 b0 c0 d0)))]) [1, 2, 0] (by decide) rfl
  exact W.vret hx hb hr (fun t ht hW => ⟨⟨(), rfl, trivial, by rw [ht]; exact hP9, hD9⟩, hS.F ht⟩) hS.2.2 dX0_lays_48
set_option maxHeartbeats 4000000 in
set_option maxRecDepth 100000 in
/-- puts: a half of the block, in the desk and beside -/
theorem mt_puts (l : Launch) (dC : Nat → ClassId) (dI : Nat → Nat → Nat) (sz : Nat) (h qk qb qo qa : Nat) (ck ca : ClassId) (f : Nat → Int32) (pp : Nat) (x0 a0 b0 c0 d0 : Int32) (hx0 : x0 &&& 1 = nI pp) (hp : pp < 2) : Met l yX0_puts (ws_ yX0_puts cX0_puts 8 none) ({ frames := 2, cells := 0, slots := 0, locals := 48 }) (va_Pc [.ref h, .ref qa, .int x0, .int a0, .int b0, .int c0, .int d0] (sx_Pre (dC, dI) [(h, .inr (0, [.ref qk, .ref qb, .ref qo])), (qb, .inl (ck, 32, .inl (sa_bs f))), (qa, .inl (ca, 8, .inl f))] [(ck, .byte), (ca, .int)] sz)) (va_Qv (fun _ : Unit => True) (fun _ t => sx_Post (dC, dI) (va_A [(h, .inr (0, [.ref qk, .ref qb, .ref qo])), (qb, .inl (ck, 32, .inl (sa_bs f))), (qa, .inl (ca, 8, .inl f))] sz) [(h, .inr (0, [.ref qk, .ref qb, .ref qo])), (qb, .inl (ck, 32, .inl (sa_bs (sa_k4 f pp a0 b0 c0 d0)))), (qa, .inl (ca, 8, .inl (sa_k4 f pp a0 b0 c0 d0)))] t) (va_A [(h, .inr (0, [.ref qk, .ref qb, .ref qo])), (qb, .inl (ck, 32, .inl (sa_bs f))), (qa, .inl (ca, 8, .inl f))] sz)) 0 0 (va_A [(h, .inr (0, [.ref qk, .ref qb, .ref qo])), (qb, .inl (ck, 32, .inl (sa_bs f))), (qa, .inl (ca, 8, .inl f))] sz) := by
  refine Met.ofW (cc := cX0_puts) (maxL := 8) (ret := none) (by decide) rfl ?_
  intro p e s m args below meth c s₁ B hml hv
  obtain ⟨rfl, hsz, hP, hK, hD0⟩ := hv
  have hx := B.exec
  have hb := B.bytes
  have hr := B.returns
  have hts := atoms_spec (ws := ws_ yX0_puts cX0_puts 8 none) B.pre
  have hts : ∀ w ∈ lw_all, w.before _ s = true := fun w h => hts w (List.mem_cons_of_mem _ h)
  have hown : s.vm.findClass RX0 = some m.cls := findClass_of_methodNamed B.named
  have hlocks := B.notSynchronized
  subst hsz
  have hD := hD0.self (sz := s.heap.size)
  generalize hAe : va_A [(h, .inr (0, [.ref qk, .ref qb, .ref qo])), (qb, .inl (ck, 32, .inl (sa_bs f))), (qa, .inl (ca, 8, .inl f))] s.heap.size = A at hD ⊢
  have hA : ∀ q : Nat, s.heap.size ≤ q → A q := fun q h => by rw [← hAe]; exact Or.inr h
  have hS : va_S A s.heap s.heap [] := va_S.rf
  have hP : va_P (dC, dI) vwCl [(h, .inr (0, [.ref qk, .ref qb, .ref qo])), (qb, .inl (ck, 32, .inl (sa_bs f))), (qa, .inl (ca, 8, .inl f))] s.heap := hP
  have hl := lv_entry ([.ref h, .ref qa, .int x0, .int a0, .int b0, .int c0, .int d0]) (n := 8) (Nat.le_of_ble_eq_true rfl)
  rw [lg_entry_eq]
  generalize (lg_sl ([.ref h, .ref qa, .int x0, .int a0, .int b0, .int c0, .int d0]) ++ List.replicate (8 - (lg_sl ([.ref h, .ref qa, .int x0, .int a0, .int b0, .int c0, .int d0])).length) Slot.unset).toArray = ls at hl ⊢
  have hl : lv_has ls 8 [(0, .ref h), (1, .ref qa), (2, .int x0), (3, .int a0), (4, .int b0), (5, .int c0), (6, .int d0)] := hl
  refine lv_aload_n hx hb dX0_puts_0 rfl (lv_at hl 0 rfl) ?_
  refine lv_iload_n hx hb dX0_puts_1 rfl (lv_at hl 2 rfl) ?_
  refine lv_iload_n hx hb dX0_puts_2 rfl (lv_at hl 3 rfl) ?_
  refine lv_iload hx hb dX0_puts_3 (lv_at hl 4 rfl) ?_
  refine lv_iload hx hb dX0_puts_5 (lv_at hl 5 rfl) ?_
  refine lv_iload hx hb dX0_puts_7 (lv_at hl 6 rfl) ?_
  have hPc := hP.sub (ws' := [(h, .inr (0, [.ref qk, .ref qb, .ref qo])), (qb, .inl (ck, 32, .inl (sa_bs f)))]) [0, 1] rfl
  have hDc := hD.sub (ws' := [(h, .inr (0, [.ref qk, .ref qb, .ref qo])), (qb, .inl (ck, 32, .inl (sa_bs f)))]) [0, 1] (by decide) rfl
  have hKc := hK.sub (tys' := [(ck, .byte)]) [0] rfl
  have hFc := va_free (wc := [(h, .inr (0, [.ref qk, .ref qb, .ref qo])), (qb, .inl (ck, 32, .inl (sa_bs f)))]) hD hS hA [0, 1] rfl
  refine va_callv (va_runV (As := [.int x0, .int a0, .int b0, .int c0, .int d0]) (rest := []) ⟨hx, hb, hml, hown, hts⟩ (mt_block l dC dI s.heap.size h qk qb qo ck f pp x0 a0 b0 c0 d0 hx0 hp) (cwV 5 hts (lw_V q294 q295 q296 q8 q297) rfl rfl rfl (by decide +kernel) ⟨Nat.le_of_ble_eq_true rfl, Nat.le_of_ble_eq_true rfl⟩) ⟨sx_blind, va_recv hK hP (ci := 0) (q0 := 0) rfl rfl, fun U hU hW => ⟨rfl, sx_Pre.mk hPc hKc hDc hU hW⟩⟩ rfl rfl hl.1 rfl (lv_room (Nat.le_of_ble_eq_true rfl)) dX0_puts_9 ⟨Nat.le_of_ble_eq_true rfl, Nat.le_of_ble_eq_true rfl⟩) hS (fun q _ h => hFc q h) hFc (fun u t H1 locs ht hvm hw hB hz1 hk1 hS => ?_)
  obtain ⟨hP1, hD1⟩ := hB
  rw [ht] at hP1
  obtain ⟨hP, hD⟩ := va_join (wr := [(qa, .inl (ca, 8, .inl f))]) (w1 := [(h, .inr (0, [.ref qk, .ref qb, .ref qo])), (qb, .inl (ck, 32, .inl (sa_bs (sa_k4 f pp a0 b0 c0 d0))))]) hP hD [0, 1] [2] rfl rfl (by decide) (by decide) hk1 hFc hP1 hD1
  generalize H1 = H at hP hS ⊢
  have hP : va_P (dC, dI) vwCl [(qa, .inl (ca, 8, .inl f)), (h, .inr (0, [.ref qk, .ref qb, .ref qo])), (qb, .inl (ck, 32, .inl (sa_bs (sa_k4 f pp a0 b0 c0 d0))))] H := hP
  have hD : va_D A [(qa, .inl (ca, 8, .inl f)), (h, .inr (0, [.ref qk, .ref qb, .ref qo])), (qb, .inl (ck, 32, .inl (sa_bs (sa_k4 f pp a0 b0 c0 d0))))] := hD
  refine W.widen (k := 0) (n := 0) (Nat.le_of_ble_eq_true rfl) (Nat.le_of_ble_eq_true rfl) ?_
  refine lv_iconst (v := 4) hx hb dX0_puts_12 (by decide) ?_
  refine lv_iload_n hx hb dX0_puts_13 rfl (lv_at hl 2 rfl) ?_
  refine lv_iconst (v := 1) hx hb dX0_puts_14 (by decide) ?_
  refine lv_iand hx hb dX0_puts_15 ?_
  refine sx_top (v := nI pp) (hx0) ?_
  refine lv_imul hx hb dX0_puts_16 ?_
  refine sx_top (v := nI (4 * pp)) (pk_mul 4 pp) ?_
  refine lv_istore (lv' := [(7, .int (nI (4 * pp))), (0, .ref h), (1, .ref qa), (2, .int x0), (3, .int a0), (4, .int b0), (5, .int c0), (6, .int d0)]) hx hb dX0_puts_17 hl (by decide) rfl (fun ls hl => ?_)
  refine lv_aload_n hx hb dX0_puts_19 rfl (lv_at hl 2 rfl) ?_
  refine lv_iload hx hb dX0_puts_20 (lv_at hl 0 rfl) ?_
  refine lv_iload_n hx hb dX0_puts_22 rfl (lv_at hl 4 rfl) ?_
  refine sx_iast (g := upd f (4 * pp) a0) hx hb hK hP hD hS 0 1 rfl rfl (4 * pp) rfl (by omega) (by decide) (fun _ _ => rfl) dX0_puts_23 (fun H locs hP hD hS => ?_)
  have hP : va_P (dC, dI) vwCl [(qa, .inl (ca, 8, .inl (upd f (4 * pp) a0))), (h, .inr (0, [.ref qk, .ref qb, .ref qo])), (qb, .inl (ck, 32, .inl (sa_bs (sa_k4 f pp a0 b0 c0 d0))))] H := hP
  have hD : va_D A [(qa, .inl (ca, 8, .inl (upd f (4 * pp) a0))), (h, .inr (0, [.ref qk, .ref qb, .ref qo])), (qb, .inl (ck, 32, .inl (sa_bs (sa_k4 f pp a0 b0 c0 d0))))] := hD
  refine lv_aload_n hx hb dX0_puts_24 rfl (lv_at hl 2 rfl) ?_
  refine lv_iload hx hb dX0_puts_25 (lv_at hl 0 rfl) ?_
  refine lv_iconst (v := 1) hx hb dX0_puts_27 (by decide) ?_
  refine lv_iadd hx hb dX0_puts_28 ?_
  refine sx_top (v := nI ((4 * pp) + 1)) (nI_add (4 * pp) 1) ?_
  refine lv_iload hx hb dX0_puts_29 (lv_at hl 5 rfl) ?_
  refine sx_iast (g := upd (upd f (4 * pp) a0) ((4 * pp) + 1) b0) hx hb hK hP hD hS 0 1 rfl rfl ((4 * pp) + 1) rfl (by omega) (by decide) (fun _ _ => rfl) dX0_puts_31 (fun H locs hP hD hS => ?_)
  have hP : va_P (dC, dI) vwCl [(qa, .inl (ca, 8, .inl (upd (upd f (4 * pp) a0) ((4 * pp) + 1) b0))), (h, .inr (0, [.ref qk, .ref qb, .ref qo])), (qb, .inl (ck, 32, .inl (sa_bs (sa_k4 f pp a0 b0 c0 d0))))] H := hP
  have hD : va_D A [(qa, .inl (ca, 8, .inl (upd (upd f (4 * pp) a0) ((4 * pp) + 1) b0))), (h, .inr (0, [.ref qk, .ref qb, .ref qo])), (qb, .inl (ck, 32, .inl (sa_bs (sa_k4 f pp a0 b0 c0 d0))))] := hD
  refine lv_aload_n hx hb dX0_puts_32 rfl (lv_at hl 2 rfl) ?_
  refine lv_iload hx hb dX0_puts_33 (lv_at hl 0 rfl) ?_
  refine lv_iconst (v := 2) hx hb dX0_puts_35 (by decide) ?_
  refine lv_iadd hx hb dX0_puts_36 ?_
  refine sx_top (v := nI ((4 * pp) + 2)) (nI_add (4 * pp) 2) ?_
  refine lv_iload hx hb dX0_puts_37 (lv_at hl 6 rfl) ?_
  refine sx_iast (g := upd (upd (upd f (4 * pp) a0) ((4 * pp) + 1) b0) ((4 * pp) + 2) c0) hx hb hK hP hD hS 0 1 rfl rfl ((4 * pp) + 2) rfl (by omega) (by decide) (fun _ _ => rfl) dX0_puts_39 (fun H locs hP hD hS => ?_)
  have hP : va_P (dC, dI) vwCl [(qa, .inl (ca, 8, .inl (upd (upd (upd f (4 * pp) a0) ((4 * pp) + 1) b0) ((4 * pp) + 2) c0))), (h, .inr (0, [.ref qk, .ref qb, .ref qo])), (qb, .inl (ck, 32, .inl (sa_bs (sa_k4 f pp a0 b0 c0 d0))))] H := hP
  have hD : va_D A [(qa, .inl (ca, 8, .inl (upd (upd (upd f (4 * pp) a0) ((4 * pp) + 1) b0) ((4 * pp) + 2) c0))), (h, .inr (0, [.ref qk, .ref qb, .ref qo])), (qb, .inl (ck, 32, .inl (sa_bs (sa_k4 f pp a0 b0 c0 d0))))] := hD
  refine lv_aload_n hx hb dX0_puts_40 rfl (lv_at hl 2 rfl) ?_
  refine lv_iload hx hb dX0_puts_41 (lv_at hl 0 rfl) ?_
  refine lv_iconst (v := 3) hx hb dX0_puts_43 (by decide) ?_
  refine lv_iadd hx hb dX0_puts_44 ?_
  refine sx_top (v := nI ((4 * pp) + 3)) (nI_add (4 * pp) 3) ?_
  refine lv_iload hx hb dX0_puts_45 (lv_at hl 7 rfl) ?_
  refine sx_iast (g := upd (upd (upd (upd f (4 * pp) a0) ((4 * pp) + 1) b0) ((4 * pp) + 2) c0) ((4 * pp) + 3) d0) hx hb hK hP hD hS 0 1 rfl rfl ((4 * pp) + 3) rfl (by omega) (by decide) (fun _ _ => rfl) dX0_puts_47 (fun H locs hP hD hS => ?_)
  have hP : va_P (dC, dI) vwCl [(qa, .inl (ca, 8, .inl (upd (upd (upd (upd f (4 * pp) a0) ((4 * pp) + 1) b0) ((4 * pp) + 2) c0) ((4 * pp) + 3) d0))), (h, .inr (0, [.ref qk, .ref qb, .ref qo])), (qb, .inl (ck, 32, .inl (sa_bs (sa_k4 f pp a0 b0 c0 d0))))] H := hP
  have hD : va_D A [(qa, .inl (ca, 8, .inl (upd (upd (upd (upd f (4 * pp) a0) ((4 * pp) + 1) b0) ((4 * pp) + 2) c0) ((4 * pp) + 3) d0))), (h, .inr (0, [.ref qk, .ref qb, .ref qo])), (qb, .inl (ck, 32, .inl (sa_bs (sa_k4 f pp a0 b0 c0 d0))))] := hD
  have hP : va_P (dC, dI) vwCl [(qa, .inl (ca, 8, .inl (sa_k4 f pp a0 b0 c0 d0))), (h, .inr (0, [.ref qk, .ref qb, .ref qo])), (qb, .inl (ck, 32, .inl (sa_bs (sa_k4 f pp a0 b0 c0 d0))))] H := hP
  have hD : va_D A [(qa, .inl (ca, 8, .inl (sa_k4 f pp a0 b0 c0 d0))), (h, .inr (0, [.ref qk, .ref qb, .ref qo])), (qb, .inl (ck, 32, .inl (sa_bs (sa_k4 f pp a0 b0 c0 d0))))] := hD
  have hP9 := hP.sub (ws' := [(h, .inr (0, [.ref qk, .ref qb, .ref qo])), (qb, .inl (ck, 32, .inl (sa_bs (sa_k4 f pp a0 b0 c0 d0)))), (qa, .inl (ca, 8, .inl (sa_k4 f pp a0 b0 c0 d0)))]) [1, 2, 0] rfl
  have hD9 := hD.sub (ws' := [(h, .inr (0, [.ref qk, .ref qb, .ref qo])), (qb, .inl (ck, 32, .inl (sa_bs (sa_k4 f pp a0 b0 c0 d0)))), (qa, .inl (ca, 8, .inl (sa_k4 f pp a0 b0 c0 d0)))]) [1, 2, 0] (by decide) rfl
  exact W.vret hx hb hr (fun t ht hW => ⟨⟨(), rfl, trivial, by rw [ht]; exact hP9, hD9⟩, hS.F ht⟩) hS.2.2 dX0_puts_48
end
section
/-! the law's locked and out, by contract -/
set_option maxHeartbeats 4000000 in
set_option maxRecDepth 100000 in
/-- locked: the schedule -/
theorem lp_lk1 {p : Program} {l : Launch} {e : Env} {R : Room} {s : State} {m : MethodId} {args : Array Value} {below : List Frame} {meth : Method} {c : Code} {Q : State → Prop} {A : Nat → Prop} {cells slots : Nat} {dC : Nat → ClassId} {dI : Nat → Nat → Nat} (qa qb qw : Nat) (ca cb cw : ClassId) (f x : Nat → Int32) (hx : p.tables.exec = Jvm.exec) (hb : c.code = cX0_locked) (hml : c.maxLocals = 10) (hown : s.vm.findClass RX0 = some m.cls) (hts : ∀ w ∈ lw_all, w.before args s = true) (hA : ∀ q : Nat, s.heap.size ≤ q → A q) (hK : va_K (dC, dI) vwCl [(ca, .int), (cb, .int), (cw, .int)] s) (hRf : 1 ≤ R.frames) (hRl : 21 ≤ R.locals) (hRc : cells ≤ R.cells) (hRs : slots ≤ R.slots) :
    ∀ (n i : Nat), i ≤ 64 → 64 < i + n → ∀ (H : Heap) (locs : List Loc) (ls : Array Slot), va_P (dC, dI) vwCl [(qa, .inl (ca, 16, .inl f)), (qb, .inl (cb, 8, .inl x)), (qw, .inl (cw, 64, .inl (sa_sch f i)))] H → va_D A [(qa, .inl (ca, 16, .inl f)), (qb, .inl (cb, 8, .inl x)), (qw, .inl (cw, 64, .inl (sa_sch f i)))] → va_S A s.heap H locs → lv_has ls 10 [(0, .ref qa), (1, .ref qb), (2, .ref qw), (3, .int (nI i))] → (∀ (H : Heap) (locs : List Loc) (ls : Array Slot), va_P (dC, dI) vwCl [(qa, .inl (ca, 16, .inl f)), (qb, .inl (cb, 8, .inl x)), (qw, .inl (cw, 64, .inl (sa_sch f 64)))] H → va_D A [(qa, .inl (ca, 16, .inl f)), (qb, .inl (cb, 8, .inl x)), (qw, .inl (cw, 64, .inl (sa_sch f 64)))] → va_S A s.heap H locs → lv_has ls 10 [(0, .ref qa), (1, .ref qb), (2, .ref qw), (3, .int (nI 64))] → W p l e R s m args below meth c H locs cells slots Q (F0 m 122 ls [])) → W p l e R s m args below meth c H locs cells slots Q (F0 m 7 ls []) := by
  intro n
  induction n with
  | zero =>
    intro i h1 h2
    exact absurd h2 (by omega)
  | succ n ih =>
    intro i hi hi2 H locs ls hP hD hS hl kk
    refine lv_iload_n hx hb dX0_locked_7 rfl (lv_at hl 3 rfl) ?_
    refine lv_bipush (v := 64) hx hb dX0_locked_8 (by decide) ?_
    refine lv_icmp_ge (tgt := 122) hx hb dX0_locked_10 (by decide) (fun hc => ?_) (fun hc => ?_)
    · have hc2 := (nI_leI (a := 64) (b := i) (by decide) (by omega)).mp hc
      obtain rfl : i = 64 := by omega
      exact kk H locs ls hP hD hS hl
    · have hlt : i < 64 := Nat.lt_of_not_le fun q => hc ((nI_leI (a := 64) (b := i) (by decide) (by omega)).mpr q)
      refine lv_iload_n hx hb dX0_locked_13 rfl (lv_at hl 3 rfl) ?_
      refine lv_bipush (v := 16) hx hb dX0_locked_14 (by decide) ?_
      refine lv_icmp_ge (tgt := 28) hx hb dX0_locked_16 (by decide) (fun hd => ?_) (fun hd => ?_)
      · have hd2 := (nI_leI (a := 16) (b := i) (by decide) (by omega)).mp hd
        refine lv_aload_n hx hb dX0_locked_28 rfl (lv_at hl 2 rfl) ?_
        refine lv_iload_n hx hb dX0_locked_29 rfl (lv_at hl 3 rfl) ?_
        refine lv_bipush (v := 15) hx hb dX0_locked_30 (by decide) ?_
        refine lv_isub hx hb dX0_locked_32 ?_
        refine sx_top (v := nI (i - 15)) (pk_sub (a := i) (b := 15) (by omega)) ?_
        refine sx_iald (v := (sa_sch f i) (i - 15)) hx hb hK hP 2 2 rfl rfl (i - 15) rfl (by omega) (by decide) rfl dX0_locked_33 ?_
        refine lv_bipush (v := 7) hx hb dX0_locked_34 (by decide) ?_
        have hPc := hP.sub (ws' := []) [] rfl
        have hDc := hD.sub (ws' := []) [] (by decide) rfl
        have hKc := hK.sub (tys' := []) [] rfl
        have hFc := va_free (wc := []) hD hS hA [] rfl
        refine va_calli (va_runS (As := [.int ((sa_sch f i) (i - 15)), .int 7]) (rest := []) ⟨hx, hb, hml, hown, hts⟩ (mt_turned l dC dI H.size ((sa_sch f i) (i - 15)) 7) (va_cwS 2 hts (lw_S q266 q267 q7 q268) rfl rfl rfl (by decide +kernel) ⟨hRf, hRl⟩) ⟨sx_blind, fun U hU hW => ⟨rfl, sx_Pre.mk hPc hKc hDc hU hW⟩⟩ rfl rfl hl.1 rfl (lv_room (Nat.le_of_ble_eq_true rfl)) dX0_locked_36 ⟨hRc, hRs⟩) hS (fun q _ h => hFc q h) hFc (fun r_1 u t H1 locs ht hvm hw hB hz1 hk1 hS => ?_)
        obtain ⟨hP1, hD1⟩ := hB
        rw [ht] at hP1
        obtain ⟨hP, hD⟩ := va_join (wr := [(qa, .inl (ca, 16, .inl f)), (qb, .inl (cb, 8, .inl x)), (qw, .inl (cw, 64, .inl (sa_sch f i)))]) (w1 := []) hP hD [] [0, 1, 2] rfl rfl (by decide) (by decide) hk1 hFc hP1 hD1
        generalize H1 = H at hP hS ⊢
        have hP : va_P (dC, dI) vwCl [(qa, .inl (ca, 16, .inl f)), (qb, .inl (cb, 8, .inl x)), (qw, .inl (cw, 64, .inl (sa_sch f i)))] H := hP
        have hD : va_D A [(qa, .inl (ca, 16, .inl f)), (qb, .inl (cb, 8, .inl x)), (qw, .inl (cw, 64, .inl (sa_sch f i)))] := hD
        refine W.widen (k := cells) (n := slots) (Nat.le_refl _) (Nat.le_refl _) ?_
        subst hw
        refine lv_aload_n hx hb dX0_locked_39 rfl (lv_at hl 2 rfl) ?_
        refine lv_iload_n hx hb dX0_locked_40 rfl (lv_at hl 3 rfl) ?_
        refine lv_bipush (v := 15) hx hb dX0_locked_41 (by decide) ?_
        refine lv_isub hx hb dX0_locked_43 ?_
        refine sx_top (v := nI (i - 15)) (pk_sub (a := i) (b := 15) (by omega)) ?_
        refine sx_iald (v := (sa_sch f i) (i - 15)) hx hb hK hP 2 2 rfl rfl (i - 15) rfl (by omega) (by decide) rfl dX0_locked_44 ?_
        refine lv_bipush (v := 18) hx hb dX0_locked_45 (by decide) ?_
        have hPc := hP.sub (ws' := []) [] rfl
        have hDc := hD.sub (ws' := []) [] (by decide) rfl
        have hKc := hK.sub (tys' := []) [] rfl
        have hFc := va_free (wc := []) hD hS hA [] rfl
        refine va_calli (va_runS (As := [.int ((sa_sch f i) (i - 15)), .int 18]) (rest := [.int (sa_ror ((sa_sch f i) (i - 15)) 7)]) ⟨hx, hb, hml, hown, hts⟩ (mt_turned l dC dI H.size ((sa_sch f i) (i - 15)) 18) (va_cwS 2 hts (lw_S q266 q267 q7 q268) rfl rfl rfl (by decide +kernel) ⟨hRf, hRl⟩) ⟨sx_blind, fun U hU hW => ⟨rfl, sx_Pre.mk hPc hKc hDc hU hW⟩⟩ rfl rfl hl.1 rfl (lv_room (Nat.le_of_ble_eq_true rfl)) dX0_locked_47 ⟨hRc, hRs⟩) hS (fun q _ h => hFc q h) hFc (fun r_2 u t H1 locs ht hvm hw hB hz1 hk1 hS => ?_)
        obtain ⟨hP1, hD1⟩ := hB
        rw [ht] at hP1
        obtain ⟨hP, hD⟩ := va_join (wr := [(qa, .inl (ca, 16, .inl f)), (qb, .inl (cb, 8, .inl x)), (qw, .inl (cw, 64, .inl (sa_sch f i)))]) (w1 := []) hP hD [] [0, 1, 2] rfl rfl (by decide) (by decide) hk1 hFc hP1 hD1
        generalize H1 = H at hP hS ⊢
        have hP : va_P (dC, dI) vwCl [(qa, .inl (ca, 16, .inl f)), (qb, .inl (cb, 8, .inl x)), (qw, .inl (cw, 64, .inl (sa_sch f i)))] H := hP
        have hD : va_D A [(qa, .inl (ca, 16, .inl f)), (qb, .inl (cb, 8, .inl x)), (qw, .inl (cw, 64, .inl (sa_sch f i)))] := hD
        refine W.widen (k := cells) (n := slots) (Nat.le_refl _) (Nat.le_refl _) ?_
        subst hw
        refine lv_ixor hx hb dX0_locked_50 ?_
        refine lv_aload_n hx hb dX0_locked_51 rfl (lv_at hl 2 rfl) ?_
        refine lv_iload_n hx hb dX0_locked_52 rfl (lv_at hl 3 rfl) ?_
        refine lv_bipush (v := 15) hx hb dX0_locked_53 (by decide) ?_
        refine lv_isub hx hb dX0_locked_55 ?_
        refine sx_top (v := nI (i - 15)) (pk_sub (a := i) (b := 15) (by omega)) ?_
        refine sx_iald (v := (sa_sch f i) (i - 15)) hx hb hK hP 2 2 rfl rfl (i - 15) rfl (by omega) (by decide) rfl dX0_locked_56 ?_
        refine lv_iconst (v := 3) hx hb dX0_locked_57 (by decide) ?_
        refine lv_iushr (v := sa_usr ((sa_sch f i) (i - 15)) 3) hx hb dX0_locked_58 rfl ?_
        refine lv_ixor hx hb dX0_locked_59 ?_
        refine sx_top (v := sa_s0 (sa_sch f i (i - 15))) (rfl) ?_
        refine lv_istore (lv' := [(4, .int (sa_s0 (sa_sch f i (i - 15)))), (0, .ref qa), (1, .ref qb), (2, .ref qw), (3, .int (nI i))]) hx hb dX0_locked_60 hl (by decide) rfl (fun ls hl => ?_)
        refine lv_aload_n hx hb dX0_locked_62 rfl (lv_at hl 3 rfl) ?_
        refine lv_iload_n hx hb dX0_locked_63 rfl (lv_at hl 4 rfl) ?_
        refine lv_iconst (v := 2) hx hb dX0_locked_64 (by decide) ?_
        refine lv_isub hx hb dX0_locked_65 ?_
        refine sx_top (v := nI (i - 2)) (pk_sub (a := i) (b := 2) (by omega)) ?_
        refine sx_iald (v := (sa_sch f i) (i - 2)) hx hb hK hP 2 2 rfl rfl (i - 2) rfl (by omega) (by decide) rfl dX0_locked_66 ?_
        refine lv_bipush (v := 17) hx hb dX0_locked_67 (by decide) ?_
        have hPc := hP.sub (ws' := []) [] rfl
        have hDc := hD.sub (ws' := []) [] (by decide) rfl
        have hKc := hK.sub (tys' := []) [] rfl
        have hFc := va_free (wc := []) hD hS hA [] rfl
        refine va_calli (va_runS (As := [.int ((sa_sch f i) (i - 2)), .int 17]) (rest := []) ⟨hx, hb, hml, hown, hts⟩ (mt_turned l dC dI H.size ((sa_sch f i) (i - 2)) 17) (va_cwS 2 hts (lw_S q266 q267 q7 q268) rfl rfl rfl (by decide +kernel) ⟨hRf, hRl⟩) ⟨sx_blind, fun U hU hW => ⟨rfl, sx_Pre.mk hPc hKc hDc hU hW⟩⟩ rfl rfl hl.1 rfl (lv_room (Nat.le_of_ble_eq_true rfl)) dX0_locked_69 ⟨hRc, hRs⟩) hS (fun q _ h => hFc q h) hFc (fun r_3 u t H1 locs ht hvm hw hB hz1 hk1 hS => ?_)
        obtain ⟨hP1, hD1⟩ := hB
        rw [ht] at hP1
        obtain ⟨hP, hD⟩ := va_join (wr := [(qa, .inl (ca, 16, .inl f)), (qb, .inl (cb, 8, .inl x)), (qw, .inl (cw, 64, .inl (sa_sch f i)))]) (w1 := []) hP hD [] [0, 1, 2] rfl rfl (by decide) (by decide) hk1 hFc hP1 hD1
        generalize H1 = H at hP hS ⊢
        have hP : va_P (dC, dI) vwCl [(qa, .inl (ca, 16, .inl f)), (qb, .inl (cb, 8, .inl x)), (qw, .inl (cw, 64, .inl (sa_sch f i)))] H := hP
        have hD : va_D A [(qa, .inl (ca, 16, .inl f)), (qb, .inl (cb, 8, .inl x)), (qw, .inl (cw, 64, .inl (sa_sch f i)))] := hD
        refine W.widen (k := cells) (n := slots) (Nat.le_refl _) (Nat.le_refl _) ?_
        subst hw
        refine lv_aload_n hx hb dX0_locked_72 rfl (lv_at hl 3 rfl) ?_
        refine lv_iload_n hx hb dX0_locked_73 rfl (lv_at hl 4 rfl) ?_
        refine lv_iconst (v := 2) hx hb dX0_locked_74 (by decide) ?_
        refine lv_isub hx hb dX0_locked_75 ?_
        refine sx_top (v := nI (i - 2)) (pk_sub (a := i) (b := 2) (by omega)) ?_
        refine sx_iald (v := (sa_sch f i) (i - 2)) hx hb hK hP 2 2 rfl rfl (i - 2) rfl (by omega) (by decide) rfl dX0_locked_76 ?_
        refine lv_bipush (v := 19) hx hb dX0_locked_77 (by decide) ?_
        have hPc := hP.sub (ws' := []) [] rfl
        have hDc := hD.sub (ws' := []) [] (by decide) rfl
        have hKc := hK.sub (tys' := []) [] rfl
        have hFc := va_free (wc := []) hD hS hA [] rfl
        refine va_calli (va_runS (As := [.int ((sa_sch f i) (i - 2)), .int 19]) (rest := [.int (sa_ror ((sa_sch f i) (i - 2)) 17)]) ⟨hx, hb, hml, hown, hts⟩ (mt_turned l dC dI H.size ((sa_sch f i) (i - 2)) 19) (va_cwS 2 hts (lw_S q266 q267 q7 q268) rfl rfl rfl (by decide +kernel) ⟨hRf, hRl⟩) ⟨sx_blind, fun U hU hW => ⟨rfl, sx_Pre.mk hPc hKc hDc hU hW⟩⟩ rfl rfl hl.1 rfl (lv_room (Nat.le_of_ble_eq_true rfl)) dX0_locked_79 ⟨hRc, hRs⟩) hS (fun q _ h => hFc q h) hFc (fun r_4 u t H1 locs ht hvm hw hB hz1 hk1 hS => ?_)
        obtain ⟨hP1, hD1⟩ := hB
        rw [ht] at hP1
        obtain ⟨hP, hD⟩ := va_join (wr := [(qa, .inl (ca, 16, .inl f)), (qb, .inl (cb, 8, .inl x)), (qw, .inl (cw, 64, .inl (sa_sch f i)))]) (w1 := []) hP hD [] [0, 1, 2] rfl rfl (by decide) (by decide) hk1 hFc hP1 hD1
        generalize H1 = H at hP hS ⊢
        have hP : va_P (dC, dI) vwCl [(qa, .inl (ca, 16, .inl f)), (qb, .inl (cb, 8, .inl x)), (qw, .inl (cw, 64, .inl (sa_sch f i)))] H := hP
        have hD : va_D A [(qa, .inl (ca, 16, .inl f)), (qb, .inl (cb, 8, .inl x)), (qw, .inl (cw, 64, .inl (sa_sch f i)))] := hD
        refine W.widen (k := cells) (n := slots) (Nat.le_refl _) (Nat.le_refl _) ?_
        subst hw
        refine lv_ixor hx hb dX0_locked_82 ?_
        refine lv_aload_n hx hb dX0_locked_83 rfl (lv_at hl 3 rfl) ?_
        refine lv_iload_n hx hb dX0_locked_84 rfl (lv_at hl 4 rfl) ?_
        refine lv_iconst (v := 2) hx hb dX0_locked_85 (by decide) ?_
        refine lv_isub hx hb dX0_locked_86 ?_
        refine sx_top (v := nI (i - 2)) (pk_sub (a := i) (b := 2) (by omega)) ?_
        refine sx_iald (v := (sa_sch f i) (i - 2)) hx hb hK hP 2 2 rfl rfl (i - 2) rfl (by omega) (by decide) rfl dX0_locked_87 ?_
        refine lv_bipush (v := 10) hx hb dX0_locked_88 (by decide) ?_
        refine lv_iushr (v := sa_usr ((sa_sch f i) (i - 2)) 10) hx hb dX0_locked_90 rfl ?_
        refine lv_ixor hx hb dX0_locked_91 ?_
        refine sx_top (v := sa_s1 (sa_sch f i (i - 2))) (rfl) ?_
        refine lv_istore (lv' := [(5, .int (sa_s1 (sa_sch f i (i - 2)))), (4, .int (sa_s0 (sa_sch f i (i - 15)))), (0, .ref qa), (1, .ref qb), (2, .ref qw), (3, .int (nI i))]) hx hb dX0_locked_92 hl (by decide) rfl (fun ls hl => ?_)
        refine lv_aload_n hx hb dX0_locked_94 rfl (lv_at hl 4 rfl) ?_
        refine lv_iload_n hx hb dX0_locked_95 rfl (lv_at hl 5 rfl) ?_
        refine lv_aload_n hx hb dX0_locked_96 rfl (lv_at hl 4 rfl) ?_
        refine lv_iload_n hx hb dX0_locked_97 rfl (lv_at hl 5 rfl) ?_
        refine lv_bipush (v := 16) hx hb dX0_locked_98 (by decide) ?_
        refine lv_isub hx hb dX0_locked_100 ?_
        refine sx_top (v := nI (i - 16)) (pk_sub (a := i) (b := 16) (by omega)) ?_
        refine sx_iald (v := (sa_sch f i) (i - 16)) hx hb hK hP 2 2 rfl rfl (i - 16) rfl (by omega) (by decide) rfl dX0_locked_101 ?_
        refine lv_iload hx hb dX0_locked_102 (lv_at hl 1 rfl) ?_
        refine lv_iadd hx hb dX0_locked_104 ?_
        refine lv_aload_n hx hb dX0_locked_105 rfl (lv_at hl 4 rfl) ?_
        refine lv_iload_n hx hb dX0_locked_106 rfl (lv_at hl 5 rfl) ?_
        refine lv_bipush (v := 7) hx hb dX0_locked_107 (by decide) ?_
        refine lv_isub hx hb dX0_locked_109 ?_
        refine sx_top (v := nI (i - 7)) (pk_sub (a := i) (b := 7) (by omega)) ?_
        refine sx_iald (v := (sa_sch f i) (i - 7)) hx hb hK hP 2 2 rfl rfl (i - 7) rfl (by omega) (by decide) rfl dX0_locked_110 ?_
        refine lv_iadd hx hb dX0_locked_111 ?_
        refine lv_iload hx hb dX0_locked_112 (lv_at hl 0 rfl) ?_
        refine lv_iadd hx hb dX0_locked_114 ?_
        refine sx_iast (g := upd (sa_sch f i) i (((((sa_sch f i) (i - 16)) + (sa_s0 (sa_sch f i (i - 15)))) + ((sa_sch f i) (i - 7))) + (sa_s1 (sa_sch f i (i - 2))))) hx hb hK hP hD hS 2 2 rfl rfl i rfl (by omega) (by decide) (fun _ _ => rfl) dX0_locked_115 (fun H locs hP hD hS => ?_)
        have hP : va_P (dC, dI) vwCl [(qa, .inl (ca, 16, .inl f)), (qb, .inl (cb, 8, .inl x)), (qw, .inl (cw, 64, .inl (upd (sa_sch f i) i (((((sa_sch f i) (i - 16)) + (sa_s0 (sa_sch f i (i - 15)))) + ((sa_sch f i) (i - 7))) + (sa_s1 (sa_sch f i (i - 2)))))))] H := hP
        have hD : va_D A [(qa, .inl (ca, 16, .inl f)), (qb, .inl (cb, 8, .inl x)), (qw, .inl (cw, 64, .inl (upd (sa_sch f i) i (((((sa_sch f i) (i - 16)) + (sa_s0 (sa_sch f i (i - 15)))) + ((sa_sch f i) (i - 7))) + (sa_s1 (sa_sch f i (i - 2)))))))] := hD
        have hP := sx_ext hP 2 (sa_sch f (i + 1)) rfl (fun j _ => by rw [sa_sch_hi (by omega)])
        have hD := hD.set (p := 2) (a := qw) (e := .inl (cw, 64, .inl (sa_sch f (i + 1)))) rfl
        have hP : va_P (dC, dI) vwCl [(qa, .inl (ca, 16, .inl f)), (qb, .inl (cb, 8, .inl x)), (qw, .inl (cw, 64, .inl (sa_sch f (i + 1))))] H := hP
        have hD : va_D A [(qa, .inl (ca, 16, .inl f)), (qb, .inl (cb, 8, .inl x)), (qw, .inl (cw, 64, .inl (sa_sch f (i + 1))))] := hD
        refine lv_iinc (v := nI (i + 1)) (lv' := [(3, .int (nI (i + 1))), (5, .int (sa_s1 (sa_sch f i (i - 2)))), (4, .int (sa_s0 (sa_sch f i (i - 15)))), (0, .ref qa), (1, .ref qb), (2, .ref qw)]) hx hb dX0_locked_116 hl (k := 5) rfl (nI_1 i) (by decide) rfl (fun ls hl => ?_)
        refine lv_goto (tgt := 7) hx hb dX0_locked_119 (by decide) ?_
        exact ih (i + 1) (by omega) (by omega) H locs ls (hP.sub [0, 1, 2] rfl) (hD.sub [0, 1, 2] (by decide) rfl) hS (lv_sub hl [3, 4, 5, 0] rfl) kk
      · have hd2 : i < 16 := Nat.lt_of_not_le fun q => hd ((nI_leI (a := 16) (b := i) (by decide) (by omega)).mpr q)
        refine lv_aload_n hx hb dX0_locked_19 rfl (lv_at hl 2 rfl) ?_
        refine lv_iload_n hx hb dX0_locked_20 rfl (lv_at hl 3 rfl) ?_
        refine lv_aload_n hx hb dX0_locked_21 rfl (lv_at hl 0 rfl) ?_
        refine lv_iload_n hx hb dX0_locked_22 rfl (lv_at hl 3 rfl) ?_
        refine sx_iald (v := f i) hx hb hK hP 0 0 rfl rfl i rfl (by omega) (by decide) rfl dX0_locked_23 ?_
        refine sx_iast (g := upd (sa_sch f i) i (f i)) hx hb hK hP hD hS 2 2 rfl rfl i rfl (by omega) (by decide) (fun _ _ => rfl) dX0_locked_24 (fun H locs hP hD hS => ?_)
        have hP : va_P (dC, dI) vwCl [(qa, .inl (ca, 16, .inl f)), (qb, .inl (cb, 8, .inl x)), (qw, .inl (cw, 64, .inl (upd (sa_sch f i) i (f i))))] H := hP
        have hD : va_D A [(qa, .inl (ca, 16, .inl f)), (qb, .inl (cb, 8, .inl x)), (qw, .inl (cw, 64, .inl (upd (sa_sch f i) i (f i))))] := hD
        have hP := sx_ext hP 2 (sa_sch f (i + 1)) rfl (fun j _ => by rw [sa_sch_lo (by omega)])
        have hD := hD.set (p := 2) (a := qw) (e := .inl (cw, 64, .inl (sa_sch f (i + 1)))) rfl
        have hP : va_P (dC, dI) vwCl [(qa, .inl (ca, 16, .inl f)), (qb, .inl (cb, 8, .inl x)), (qw, .inl (cw, 64, .inl (sa_sch f (i + 1))))] H := hP
        have hD : va_D A [(qa, .inl (ca, 16, .inl f)), (qb, .inl (cb, 8, .inl x)), (qw, .inl (cw, 64, .inl (sa_sch f (i + 1))))] := hD
        refine lv_goto (tgt := 116) hx hb dX0_locked_25 (by decide) ?_
        refine lv_iinc (v := nI (i + 1)) (lv' := [(3, .int (nI (i + 1))), (0, .ref qa), (1, .ref qb), (2, .ref qw)]) hx hb dX0_locked_116 hl (k := 3) rfl (nI_1 i) (by decide) rfl (fun ls hl => ?_)
        refine lv_goto (tgt := 7) hx hb dX0_locked_119 (by decide) ?_
        exact ih (i + 1) (by omega) (by omega) H locs ls (hP.sub [0, 1, 2] rfl) (hD.sub [0, 1, 2] (by decide) rfl) hS (lv_sub hl [1, 2, 3, 0] rfl) kk
set_option maxHeartbeats 4000000 in
set_option maxRecDepth 100000 in
/-- locked: the block is copied -/
theorem lp_lk2 {p : Program} {l : Launch} {e : Env} {R : Room} {s : State} {m : MethodId} {args : Array Value} {below : List Frame} {meth : Method} {c : Code} {Q : State → Prop} {A : Nat → Prop} {cells slots : Nat} {dC : Nat → ClassId} {dI : Nat → Nat → Nat} (qa qb qw qx : Nat) (ca cb cw cx : ClassId) (f x : Nat → Int32) (hx : p.tables.exec = Jvm.exec) (hb : c.code = cX0_locked) (hml : c.maxLocals = 10) (hown : s.vm.findClass RX0 = some m.cls) (hts : ∀ w ∈ lw_all, w.before args s = true) (hA : ∀ q : Nat, s.heap.size ≤ q → A q) (hK : va_K (dC, dI) vwCl [(ca, .int), (cb, .int), (cw, .int), (cx, .int)] s) :
    ∀ (n i : Nat), i ≤ 8 → 8 < i + n → ∀ (H : Heap) (locs : List Loc) (ls : Array Slot), va_P (dC, dI) vwCl [(qa, .inl (ca, 16, .inl f)), (qb, .inl (cb, 8, .inl x)), (qw, .inl (cw, 64, .inl (sa_sch f 64))), (qx, .inl (cx, 8, .inl (sa_mx x (fun _ => 0) i)))] H → va_D A [(qa, .inl (ca, 16, .inl f)), (qb, .inl (cb, 8, .inl x)), (qw, .inl (cw, 64, .inl (sa_sch f 64))), (qx, .inl (cx, 8, .inl (sa_mx x (fun _ => 0) i)))] → va_S A s.heap H locs → lv_has ls 10 [(1, .ref qb), (2, .ref qw), (3, .ref qx), (4, .int (nI i))] → (∀ (H : Heap) (locs : List Loc) (ls : Array Slot), va_P (dC, dI) vwCl [(qa, .inl (ca, 16, .inl f)), (qb, .inl (cb, 8, .inl x)), (qw, .inl (cw, 64, .inl (sa_sch f 64))), (qx, .inl (cx, 8, .inl (sa_mx x (fun _ => 0) 8)))] H → va_D A [(qa, .inl (ca, 16, .inl f)), (qb, .inl (cb, 8, .inl x)), (qw, .inl (cw, 64, .inl (sa_sch f 64))), (qx, .inl (cx, 8, .inl (sa_mx x (fun _ => 0) 8)))] → va_S A s.heap H locs → lv_has ls 10 [(1, .ref qb), (2, .ref qw), (3, .ref qx), (4, .int (nI 8))] → W p l e R s m args below meth c H locs cells slots Q (F0 m 151 ls [])) → W p l e R s m args below meth c H locs cells slots Q (F0 m 130 ls []) := by
  intro n
  induction n with
  | zero =>
    intro i h1 h2
    exact absurd h2 (by omega)
  | succ n ih =>
    intro i hi hi2 H locs ls hP hD hS hl kk
    refine lv_iload hx hb dX0_locked_130 (lv_at hl 3 rfl) ?_
    refine lv_bipush (v := 8) hx hb dX0_locked_132 (by decide) ?_
    refine lv_icmp_ge (tgt := 151) hx hb dX0_locked_134 (by decide) (fun hc => ?_) (fun hc => ?_)
    · have hc2 := (nI_leI (a := 8) (b := i) (by decide) (by omega)).mp hc
      obtain rfl : i = 8 := by omega
      exact kk H locs ls hP hD hS hl
    · have hlt : i < 8 := Nat.lt_of_not_le fun q => hc ((nI_leI (a := 8) (b := i) (by decide) (by omega)).mpr q)
      refine lv_aload_n hx hb dX0_locked_137 rfl (lv_at hl 2 rfl) ?_
      refine lv_iload hx hb dX0_locked_138 (lv_at hl 3 rfl) ?_
      refine lv_aload_n hx hb dX0_locked_140 rfl (lv_at hl 0 rfl) ?_
      refine lv_iload hx hb dX0_locked_141 (lv_at hl 3 rfl) ?_
      refine sx_iald (v := x i) hx hb hK hP 1 1 rfl rfl i rfl (by omega) (by decide) rfl dX0_locked_143 ?_
      refine sx_iast (g := upd (sa_mx x (fun _ => 0) i) i (x i)) hx hb hK hP hD hS 3 3 rfl rfl i rfl (by omega) (by decide) (fun _ _ => rfl) dX0_locked_144 (fun H locs hP hD hS => ?_)
      have hP : va_P (dC, dI) vwCl [(qa, .inl (ca, 16, .inl f)), (qb, .inl (cb, 8, .inl x)), (qw, .inl (cw, 64, .inl (sa_sch f 64))), (qx, .inl (cx, 8, .inl (upd (sa_mx x (fun _ => 0) i) i (x i))))] H := hP
      have hD : va_D A [(qa, .inl (ca, 16, .inl f)), (qb, .inl (cb, 8, .inl x)), (qw, .inl (cw, 64, .inl (sa_sch f 64))), (qx, .inl (cx, 8, .inl (upd (sa_mx x (fun _ => 0) i) i (x i))))] := hD
      have hP := sx_ext hP 3 (sa_mx x (fun _ => 0) (i + 1)) rfl (fun j _ => congrFun (sa_mx_S x (fun _ => 0) i) j)
      have hD := hD.set (p := 3) (a := qx) (e := .inl (cx, 8, .inl (sa_mx x (fun _ => 0) (i + 1)))) rfl
      have hP : va_P (dC, dI) vwCl [(qa, .inl (ca, 16, .inl f)), (qb, .inl (cb, 8, .inl x)), (qw, .inl (cw, 64, .inl (sa_sch f 64))), (qx, .inl (cx, 8, .inl (sa_mx x (fun _ => 0) (i + 1))))] H := hP
      have hD : va_D A [(qa, .inl (ca, 16, .inl f)), (qb, .inl (cb, 8, .inl x)), (qw, .inl (cw, 64, .inl (sa_sch f 64))), (qx, .inl (cx, 8, .inl (sa_mx x (fun _ => 0) (i + 1))))] := hD
      refine lv_iinc (v := nI (i + 1)) (lv' := [(4, .int (nI (i + 1))), (1, .ref qb), (2, .ref qw), (3, .ref qx)]) hx hb dX0_locked_145 hl (k := 3) rfl (nI_1 i) (by decide) rfl (fun ls hl => ?_)
      refine lv_goto (tgt := 130) hx hb dX0_locked_148 (by decide) ?_
      exact ih (i + 1) (by omega) (by omega) H locs ls (hP.sub [0, 1, 2, 3] rfl) (hD.sub [0, 1, 2, 3] (by decide) rfl) hS (lv_sub hl [1, 2, 3, 0] rfl) kk
set_option maxHeartbeats 4000000 in
set_option maxRecDepth 100000 in
/-- locked: the 64 rounds -/
theorem lp_lk3 {p : Program} {l : Launch} {e : Env} {R : Room} {s : State} {m : MethodId} {args : Array Value} {below : List Frame} {meth : Method} {c : Code} {Q : State → Prop} {A : Nat → Prop} {cells slots : Nat} {dC : Nat → ClassId} {dI : Nat → Nat → Nat} (qa qb qw qx tR : Nat) (ca cb cw cx : ClassId) (f x : Nat → Int32) (hx : p.tables.exec = Jvm.exec) (hb : c.code = cX0_locked) (hml : c.maxLocals = 10) (hown : s.vm.findClass RX0 = some m.cls) (hts : ∀ w ∈ lw_all, w.before args s = true) (hA : ∀ q : Nat, s.heap.size ≤ q → A q) (hK : va_K (dC, dI) vwCl [(ca, .int), (cb, .int), (cw, .int), (cx, .int)] s) (hEx : sx_St "ShacalDeskLaw" "ROOTS" tR sa_rk A s) (hRf : 1 ≤ R.frames) (hRl : 21 ≤ R.locals) (hRc : cells ≤ R.cells) (hRs : slots ≤ R.slots) :
    ∀ (n i : Nat), i ≤ 64 → 64 < i + n → ∀ (H : Heap) (locs : List Loc) (ls : Array Slot), va_P (dC, dI) vwCl [(qa, .inl (ca, 16, .inl f)), (qb, .inl (cb, 8, .inl x)), (qw, .inl (cw, 64, .inl (sa_sch f 64))), (qx, .inl (cx, 8, .inl (sa_eN (sa_sch f 64) i x)))] H → va_D A [(qa, .inl (ca, 16, .inl f)), (qb, .inl (cb, 8, .inl x)), (qw, .inl (cw, 64, .inl (sa_sch f 64))), (qx, .inl (cx, 8, .inl (sa_eN (sa_sch f 64) i x)))] → va_S A s.heap H locs → lv_has ls 10 [(2, .ref qw), (3, .ref qx), (4, .int (nI i))] → (∀ (H : Heap) (locs : List Loc) (ls : Array Slot), va_P (dC, dI) vwCl [(qa, .inl (ca, 16, .inl f)), (qb, .inl (cb, 8, .inl x)), (qw, .inl (cw, 64, .inl (sa_sch f 64))), (qx, .inl (cx, 8, .inl (sa_eN (sa_sch f 64) 64 x)))] H → va_D A [(qa, .inl (ca, 16, .inl f)), (qb, .inl (cb, 8, .inl x)), (qw, .inl (cw, 64, .inl (sa_sch f 64))), (qx, .inl (cx, 8, .inl (sa_eN (sa_sch f 64) 64 x)))] → va_S A s.heap H locs → lv_has ls 10 [(2, .ref qw), (3, .ref qx), (4, .int (nI 64))] → W p l e R s m args below meth c H locs cells slots Q (F0 m 323 ls [])) → W p l e R s m args below meth c H locs cells slots Q (F0 m 154 ls []) := by
  intro n
  induction n with
  | zero =>
    intro i h1 h2
    exact absurd h2 (by omega)
  | succ n ih =>
    intro i hi hi2 H locs ls hP hD hS hl kk
    refine lv_iload hx hb dX0_locked_154 (lv_at hl 2 rfl) ?_
    refine lv_bipush (v := 64) hx hb dX0_locked_156 (by decide) ?_
    refine lv_icmp_ge (tgt := 323) hx hb dX0_locked_158 (by decide) (fun hc => ?_) (fun hc => ?_)
    · have hc2 := (nI_leI (a := 64) (b := i) (by decide) (by omega)).mp hc
      obtain rfl : i = 64 := by omega
      exact kk H locs ls hP hD hS hl
    · have hlt : i < 64 := Nat.lt_of_not_le fun q => hc ((nI_leI (a := 64) (b := i) (by decide) (by omega)).mpr q)
      obtain ⟨z, hz⟩ : ∃ z, z = sa_eN (sa_sch f 64) i x := ⟨_, rfl⟩
      rw [← hz] at hP hD
      have hP : va_P (dC, dI) vwCl [(qa, .inl (ca, 16, .inl f)), (qb, .inl (cb, 8, .inl x)), (qw, .inl (cw, 64, .inl (sa_sch f 64))), (qx, .inl (cx, 8, .inl z))] H := hP
      have hD : va_D A [(qa, .inl (ca, 16, .inl f)), (qb, .inl (cb, 8, .inl x)), (qw, .inl (cw, 64, .inl (sa_sch f 64))), (qx, .inl (cx, 8, .inl z))] := hD
      refine lv_aload_n hx hb dX0_locked_161 rfl (lv_at hl 1 rfl) ?_
      refine lv_iconst (v := 4) hx hb dX0_locked_162 (by decide) ?_
      refine sx_iald (v := z 4) hx hb hK hP 3 3 rfl rfl 4 (by decide) (by decide) (by decide) rfl dX0_locked_163 ?_
      refine lv_istore (lv' := [(5, .int (z 4)), (2, .ref qw), (3, .ref qx), (4, .int (nI i))]) hx hb dX0_locked_164 hl (by decide) rfl (fun ls hl => ?_)
      refine lv_aload_n hx hb dX0_locked_166 rfl (lv_at hl 2 rfl) ?_
      refine lv_iconst (v := 0) hx hb dX0_locked_167 (by decide) ?_
      refine sx_iald (v := z 0) hx hb hK hP 3 3 rfl rfl 0 (by decide) (by decide) (by decide) rfl dX0_locked_168 ?_
      refine lv_istore (lv' := [(6, .int (z 0)), (5, .int (z 4)), (2, .ref qw), (3, .ref qx), (4, .int (nI i))]) hx hb dX0_locked_169 hl (by decide) rfl (fun ls hl => ?_)
      refine lv_aload_n hx hb dX0_locked_171 rfl (lv_at hl 3 rfl) ?_
      refine lv_bipush (v := 7) hx hb dX0_locked_172 (by decide) ?_
      refine sx_iald (v := z 7) hx hb hK hP 3 3 rfl rfl 7 (by decide) (by decide) (by decide) rfl dX0_locked_174 ?_
      refine lv_iload hx hb dX0_locked_175 (lv_at hl 1 rfl) ?_
      refine lv_bipush (v := 6) hx hb dX0_locked_177 (by decide) ?_
      have hPc := hP.sub (ws' := []) [] rfl
      have hDc := hD.sub (ws' := []) [] (by decide) rfl
      have hKc := hK.sub (tys' := []) [] rfl
      have hFc := va_free (wc := []) hD hS hA [] rfl
      refine va_calli (va_runS (As := [.int (z 4), .int 6]) (rest := [.int (z 7)]) ⟨hx, hb, hml, hown, hts⟩ (mt_turned l dC dI H.size (z 4) 6) (va_cwS 2 hts (lw_S q266 q267 q7 q268) rfl rfl rfl (by decide +kernel) ⟨hRf, hRl⟩) ⟨sx_blind, fun U hU hW => ⟨rfl, sx_Pre.mk hPc hKc hDc hU hW⟩⟩ rfl rfl hl.1 rfl (lv_room (Nat.le_of_ble_eq_true rfl)) dX0_locked_179 ⟨hRc, hRs⟩) hS (fun q _ h => hFc q h) hFc (fun r_1 u t H1 locs ht hvm hw hB hz1 hk1 hS => ?_)
      obtain ⟨hP1, hD1⟩ := hB
      rw [ht] at hP1
      obtain ⟨hP, hD⟩ := va_join (wr := [(qa, .inl (ca, 16, .inl f)), (qb, .inl (cb, 8, .inl x)), (qw, .inl (cw, 64, .inl (sa_sch f 64))), (qx, .inl (cx, 8, .inl z))]) (w1 := []) hP hD [] [0, 1, 2, 3] rfl rfl (by decide) (by decide) hk1 hFc hP1 hD1
      generalize H1 = H at hP hS ⊢
      have hP : va_P (dC, dI) vwCl [(qa, .inl (ca, 16, .inl f)), (qb, .inl (cb, 8, .inl x)), (qw, .inl (cw, 64, .inl (sa_sch f 64))), (qx, .inl (cx, 8, .inl z))] H := hP
      have hD : va_D A [(qa, .inl (ca, 16, .inl f)), (qb, .inl (cb, 8, .inl x)), (qw, .inl (cw, 64, .inl (sa_sch f 64))), (qx, .inl (cx, 8, .inl z))] := hD
      refine W.widen (k := cells) (n := slots) (Nat.le_refl _) (Nat.le_refl _) ?_
      subst hw
      refine lv_iload hx hb dX0_locked_182 (lv_at hl 1 rfl) ?_
      refine lv_bipush (v := 11) hx hb dX0_locked_184 (by decide) ?_
      have hPc := hP.sub (ws' := []) [] rfl
      have hDc := hD.sub (ws' := []) [] (by decide) rfl
      have hKc := hK.sub (tys' := []) [] rfl
      have hFc := va_free (wc := []) hD hS hA [] rfl
      refine va_calli (va_runS (As := [.int (z 4), .int 11]) (rest := [.int (sa_ror (z 4) 6), .int (z 7)]) ⟨hx, hb, hml, hown, hts⟩ (mt_turned l dC dI H.size (z 4) 11) (va_cwS 2 hts (lw_S q266 q267 q7 q268) rfl rfl rfl (by decide +kernel) ⟨hRf, hRl⟩) ⟨sx_blind, fun U hU hW => ⟨rfl, sx_Pre.mk hPc hKc hDc hU hW⟩⟩ rfl rfl hl.1 rfl (lv_room (Nat.le_of_ble_eq_true rfl)) dX0_locked_186 ⟨hRc, hRs⟩) hS (fun q _ h => hFc q h) hFc (fun r_2 u t H1 locs ht hvm hw hB hz1 hk1 hS => ?_)
      obtain ⟨hP1, hD1⟩ := hB
      rw [ht] at hP1
      obtain ⟨hP, hD⟩ := va_join (wr := [(qa, .inl (ca, 16, .inl f)), (qb, .inl (cb, 8, .inl x)), (qw, .inl (cw, 64, .inl (sa_sch f 64))), (qx, .inl (cx, 8, .inl z))]) (w1 := []) hP hD [] [0, 1, 2, 3] rfl rfl (by decide) (by decide) hk1 hFc hP1 hD1
      generalize H1 = H at hP hS ⊢
      have hP : va_P (dC, dI) vwCl [(qa, .inl (ca, 16, .inl f)), (qb, .inl (cb, 8, .inl x)), (qw, .inl (cw, 64, .inl (sa_sch f 64))), (qx, .inl (cx, 8, .inl z))] H := hP
      have hD : va_D A [(qa, .inl (ca, 16, .inl f)), (qb, .inl (cb, 8, .inl x)), (qw, .inl (cw, 64, .inl (sa_sch f 64))), (qx, .inl (cx, 8, .inl z))] := hD
      refine W.widen (k := cells) (n := slots) (Nat.le_refl _) (Nat.le_refl _) ?_
      subst hw
      refine lv_ixor hx hb dX0_locked_189 ?_
      refine lv_iload hx hb dX0_locked_190 (lv_at hl 1 rfl) ?_
      refine lv_bipush (v := 25) hx hb dX0_locked_192 (by decide) ?_
      have hPc := hP.sub (ws' := []) [] rfl
      have hDc := hD.sub (ws' := []) [] (by decide) rfl
      have hKc := hK.sub (tys' := []) [] rfl
      have hFc := va_free (wc := []) hD hS hA [] rfl
      refine va_calli (va_runS (As := [.int (z 4), .int 25]) (rest := [.int ((sa_ror (z 4) 6) ^^^ (sa_ror (z 4) 11)), .int (z 7)]) ⟨hx, hb, hml, hown, hts⟩ (mt_turned l dC dI H.size (z 4) 25) (va_cwS 2 hts (lw_S q266 q267 q7 q268) rfl rfl rfl (by decide +kernel) ⟨hRf, hRl⟩) ⟨sx_blind, fun U hU hW => ⟨rfl, sx_Pre.mk hPc hKc hDc hU hW⟩⟩ rfl rfl hl.1 rfl (lv_room (Nat.le_of_ble_eq_true rfl)) dX0_locked_194 ⟨hRc, hRs⟩) hS (fun q _ h => hFc q h) hFc (fun r_3 u t H1 locs ht hvm hw hB hz1 hk1 hS => ?_)
      obtain ⟨hP1, hD1⟩ := hB
      rw [ht] at hP1
      obtain ⟨hP, hD⟩ := va_join (wr := [(qa, .inl (ca, 16, .inl f)), (qb, .inl (cb, 8, .inl x)), (qw, .inl (cw, 64, .inl (sa_sch f 64))), (qx, .inl (cx, 8, .inl z))]) (w1 := []) hP hD [] [0, 1, 2, 3] rfl rfl (by decide) (by decide) hk1 hFc hP1 hD1
      generalize H1 = H at hP hS ⊢
      have hP : va_P (dC, dI) vwCl [(qa, .inl (ca, 16, .inl f)), (qb, .inl (cb, 8, .inl x)), (qw, .inl (cw, 64, .inl (sa_sch f 64))), (qx, .inl (cx, 8, .inl z))] H := hP
      have hD : va_D A [(qa, .inl (ca, 16, .inl f)), (qb, .inl (cb, 8, .inl x)), (qw, .inl (cw, 64, .inl (sa_sch f 64))), (qx, .inl (cx, 8, .inl z))] := hD
      refine W.widen (k := cells) (n := slots) (Nat.le_refl _) (Nat.le_refl _) ?_
      subst hw
      refine lv_ixor hx hb dX0_locked_197 ?_
      refine lv_iadd hx hb dX0_locked_198 ?_
      refine lv_iload hx hb dX0_locked_199 (lv_at hl 1 rfl) ?_
      refine lv_aload_n hx hb dX0_locked_201 rfl (lv_at hl 3 rfl) ?_
      refine lv_iconst (v := 5) hx hb dX0_locked_202 (by decide) ?_
      refine sx_iald (v := z 5) hx hb hK hP 3 3 rfl rfl 5 (by decide) (by decide) (by decide) rfl dX0_locked_203 ?_
      refine lv_iand hx hb dX0_locked_204 ?_
      refine lv_iload hx hb dX0_locked_205 (lv_at hl 1 rfl) ?_
      refine lv_iconst (v := (-1)) hx hb dX0_locked_207 (by decide) ?_
      refine lv_ixor hx hb dX0_locked_208 ?_
      refine lv_aload_n hx hb dX0_locked_209 rfl (lv_at hl 3 rfl) ?_
      refine lv_bipush (v := 6) hx hb dX0_locked_210 (by decide) ?_
      refine sx_iald (v := z 6) hx hb hK hP 3 3 rfl rfl 6 (by decide) (by decide) (by decide) rfl dX0_locked_212 ?_
      refine lv_iand hx hb dX0_locked_213 ?_
      refine lv_ixor hx hb dX0_locked_214 ?_
      refine lv_iadd hx hb dX0_locked_215 ?_
      refine va_gets (v := .ref tR) hx hb hEx.1 hS hown (hts _ q269) (fun _ h9 => h9) dX0_locked_216 ?_
      refine lv_iload hx hb dX0_locked_219 (lv_at hl 4 rfl) ?_
      refine va_ti hx hb hEx.2 hS (vp_in_nI (n := i) (by omega) (by decide)) (v := .int (sa_rk i)) (by show Value.int (sa_rk (nI i).toNatClampNeg) = _; rw [nI_clamp (by omega)]) dX0_locked_221 ?_
      refine lv_iadd hx hb dX0_locked_222 ?_
      refine lv_aload_n hx hb dX0_locked_223 rfl (lv_at hl 2 rfl) ?_
      refine lv_iload hx hb dX0_locked_224 (lv_at hl 4 rfl) ?_
      refine sx_iald (v := (sa_sch f 64) i) hx hb hK hP 2 2 rfl rfl i rfl (by omega) (by decide) rfl dX0_locked_226 ?_
      refine lv_iadd hx hb dX0_locked_227 ?_
      refine sx_top (v := sa_t1 (sa_rk i) (sa_sch f 64 i) z) (rfl) ?_
      refine lv_istore (lv' := [(7, .int (sa_t1 (sa_rk i) (sa_sch f 64 i) z)), (6, .int (z 0)), (5, .int (z 4)), (2, .ref qw), (3, .ref qx), (4, .int (nI i))]) hx hb dX0_locked_228 hl (by decide) rfl (fun ls hl => ?_)
      refine lv_iload hx hb dX0_locked_230 (lv_at hl 1 rfl) ?_
      refine lv_iconst (v := 2) hx hb dX0_locked_232 (by decide) ?_
      have hPc := hP.sub (ws' := []) [] rfl
      have hDc := hD.sub (ws' := []) [] (by decide) rfl
      have hKc := hK.sub (tys' := []) [] rfl
      have hFc := va_free (wc := []) hD hS hA [] rfl
      refine va_calli (va_runS (As := [.int (z 0), .int 2]) (rest := []) ⟨hx, hb, hml, hown, hts⟩ (mt_turned l dC dI H.size (z 0) 2) (va_cwS 2 hts (lw_S q266 q267 q7 q268) rfl rfl rfl (by decide +kernel) ⟨hRf, hRl⟩) ⟨sx_blind, fun U hU hW => ⟨rfl, sx_Pre.mk hPc hKc hDc hU hW⟩⟩ rfl rfl hl.1 rfl (lv_room (Nat.le_of_ble_eq_true rfl)) dX0_locked_233 ⟨hRc, hRs⟩) hS (fun q _ h => hFc q h) hFc (fun r_4 u t H1 locs ht hvm hw hB hz1 hk1 hS => ?_)
      obtain ⟨hP1, hD1⟩ := hB
      rw [ht] at hP1
      obtain ⟨hP, hD⟩ := va_join (wr := [(qa, .inl (ca, 16, .inl f)), (qb, .inl (cb, 8, .inl x)), (qw, .inl (cw, 64, .inl (sa_sch f 64))), (qx, .inl (cx, 8, .inl z))]) (w1 := []) hP hD [] [0, 1, 2, 3] rfl rfl (by decide) (by decide) hk1 hFc hP1 hD1
      generalize H1 = H at hP hS ⊢
      have hP : va_P (dC, dI) vwCl [(qa, .inl (ca, 16, .inl f)), (qb, .inl (cb, 8, .inl x)), (qw, .inl (cw, 64, .inl (sa_sch f 64))), (qx, .inl (cx, 8, .inl z))] H := hP
      have hD : va_D A [(qa, .inl (ca, 16, .inl f)), (qb, .inl (cb, 8, .inl x)), (qw, .inl (cw, 64, .inl (sa_sch f 64))), (qx, .inl (cx, 8, .inl z))] := hD
      refine W.widen (k := cells) (n := slots) (Nat.le_refl _) (Nat.le_refl _) ?_
      subst hw
      refine lv_iload hx hb dX0_locked_236 (lv_at hl 1 rfl) ?_
      refine lv_bipush (v := 13) hx hb dX0_locked_238 (by decide) ?_
      have hPc := hP.sub (ws' := []) [] rfl
      have hDc := hD.sub (ws' := []) [] (by decide) rfl
      have hKc := hK.sub (tys' := []) [] rfl
      have hFc := va_free (wc := []) hD hS hA [] rfl
      refine va_calli (va_runS (As := [.int (z 0), .int 13]) (rest := [.int (sa_ror (z 0) 2)]) ⟨hx, hb, hml, hown, hts⟩ (mt_turned l dC dI H.size (z 0) 13) (va_cwS 2 hts (lw_S q266 q267 q7 q268) rfl rfl rfl (by decide +kernel) ⟨hRf, hRl⟩) ⟨sx_blind, fun U hU hW => ⟨rfl, sx_Pre.mk hPc hKc hDc hU hW⟩⟩ rfl rfl hl.1 rfl (lv_room (Nat.le_of_ble_eq_true rfl)) dX0_locked_240 ⟨hRc, hRs⟩) hS (fun q _ h => hFc q h) hFc (fun r_5 u t H1 locs ht hvm hw hB hz1 hk1 hS => ?_)
      obtain ⟨hP1, hD1⟩ := hB
      rw [ht] at hP1
      obtain ⟨hP, hD⟩ := va_join (wr := [(qa, .inl (ca, 16, .inl f)), (qb, .inl (cb, 8, .inl x)), (qw, .inl (cw, 64, .inl (sa_sch f 64))), (qx, .inl (cx, 8, .inl z))]) (w1 := []) hP hD [] [0, 1, 2, 3] rfl rfl (by decide) (by decide) hk1 hFc hP1 hD1
      generalize H1 = H at hP hS ⊢
      have hP : va_P (dC, dI) vwCl [(qa, .inl (ca, 16, .inl f)), (qb, .inl (cb, 8, .inl x)), (qw, .inl (cw, 64, .inl (sa_sch f 64))), (qx, .inl (cx, 8, .inl z))] H := hP
      have hD : va_D A [(qa, .inl (ca, 16, .inl f)), (qb, .inl (cb, 8, .inl x)), (qw, .inl (cw, 64, .inl (sa_sch f 64))), (qx, .inl (cx, 8, .inl z))] := hD
      refine W.widen (k := cells) (n := slots) (Nat.le_refl _) (Nat.le_refl _) ?_
      subst hw
      refine lv_ixor hx hb dX0_locked_243 ?_
      refine lv_iload hx hb dX0_locked_244 (lv_at hl 1 rfl) ?_
      refine lv_bipush (v := 22) hx hb dX0_locked_246 (by decide) ?_
      have hPc := hP.sub (ws' := []) [] rfl
      have hDc := hD.sub (ws' := []) [] (by decide) rfl
      have hKc := hK.sub (tys' := []) [] rfl
      have hFc := va_free (wc := []) hD hS hA [] rfl
      refine va_calli (va_runS (As := [.int (z 0), .int 22]) (rest := [.int ((sa_ror (z 0) 2) ^^^ (sa_ror (z 0) 13))]) ⟨hx, hb, hml, hown, hts⟩ (mt_turned l dC dI H.size (z 0) 22) (va_cwS 2 hts (lw_S q266 q267 q7 q268) rfl rfl rfl (by decide +kernel) ⟨hRf, hRl⟩) ⟨sx_blind, fun U hU hW => ⟨rfl, sx_Pre.mk hPc hKc hDc hU hW⟩⟩ rfl rfl hl.1 rfl (lv_room (Nat.le_of_ble_eq_true rfl)) dX0_locked_248 ⟨hRc, hRs⟩) hS (fun q _ h => hFc q h) hFc (fun r_6 u t H1 locs ht hvm hw hB hz1 hk1 hS => ?_)
      obtain ⟨hP1, hD1⟩ := hB
      rw [ht] at hP1
      obtain ⟨hP, hD⟩ := va_join (wr := [(qa, .inl (ca, 16, .inl f)), (qb, .inl (cb, 8, .inl x)), (qw, .inl (cw, 64, .inl (sa_sch f 64))), (qx, .inl (cx, 8, .inl z))]) (w1 := []) hP hD [] [0, 1, 2, 3] rfl rfl (by decide) (by decide) hk1 hFc hP1 hD1
      generalize H1 = H at hP hS ⊢
      have hP : va_P (dC, dI) vwCl [(qa, .inl (ca, 16, .inl f)), (qb, .inl (cb, 8, .inl x)), (qw, .inl (cw, 64, .inl (sa_sch f 64))), (qx, .inl (cx, 8, .inl z))] H := hP
      have hD : va_D A [(qa, .inl (ca, 16, .inl f)), (qb, .inl (cb, 8, .inl x)), (qw, .inl (cw, 64, .inl (sa_sch f 64))), (qx, .inl (cx, 8, .inl z))] := hD
      refine W.widen (k := cells) (n := slots) (Nat.le_refl _) (Nat.le_refl _) ?_
      subst hw
      refine lv_ixor hx hb dX0_locked_251 ?_
      refine lv_iload hx hb dX0_locked_252 (lv_at hl 1 rfl) ?_
      refine lv_aload_n hx hb dX0_locked_254 rfl (lv_at hl 4 rfl) ?_
      refine lv_iconst (v := 1) hx hb dX0_locked_255 (by decide) ?_
      refine sx_iald (v := z 1) hx hb hK hP 3 3 rfl rfl 1 (by decide) (by decide) (by decide) rfl dX0_locked_256 ?_
      refine lv_iand hx hb dX0_locked_257 ?_
      refine lv_iload hx hb dX0_locked_258 (lv_at hl 1 rfl) ?_
      refine lv_aload_n hx hb dX0_locked_260 rfl (lv_at hl 4 rfl) ?_
      refine lv_iconst (v := 2) hx hb dX0_locked_261 (by decide) ?_
      refine sx_iald (v := z 2) hx hb hK hP 3 3 rfl rfl 2 (by decide) (by decide) (by decide) rfl dX0_locked_262 ?_
      refine lv_iand hx hb dX0_locked_263 ?_
      refine lv_ixor hx hb dX0_locked_264 ?_
      refine lv_aload_n hx hb dX0_locked_265 rfl (lv_at hl 4 rfl) ?_
      refine lv_iconst (v := 1) hx hb dX0_locked_266 (by decide) ?_
      refine sx_iald (v := z 1) hx hb hK hP 3 3 rfl rfl 1 (by decide) (by decide) (by decide) rfl dX0_locked_267 ?_
      refine lv_aload_n hx hb dX0_locked_268 rfl (lv_at hl 4 rfl) ?_
      refine lv_iconst (v := 2) hx hb dX0_locked_269 (by decide) ?_
      refine sx_iald (v := z 2) hx hb hK hP 3 3 rfl rfl 2 (by decide) (by decide) (by decide) rfl dX0_locked_270 ?_
      refine lv_iand hx hb dX0_locked_271 ?_
      refine lv_ixor hx hb dX0_locked_272 ?_
      refine lv_iadd hx hb dX0_locked_273 ?_
      refine sx_top (v := sa_t2 z) (rfl) ?_
      refine lv_istore (lv' := [(8, .int (sa_t2 z)), (7, .int (sa_t1 (sa_rk i) (sa_sch f 64 i) z)), (6, .int (z 0)), (5, .int (z 4)), (2, .ref qw), (3, .ref qx), (4, .int (nI i))]) hx hb dX0_locked_274 hl (by decide) rfl (fun ls hl => ?_)
      refine lv_bipush (v := 7) hx hb dX0_locked_276 (by decide) ?_
      refine lv_istore (lv' := [(9, .int 7), (8, .int (sa_t2 z)), (7, .int (sa_t1 (sa_rk i) (sa_sch f 64 i) z)), (6, .int (z 0)), (5, .int (z 4)), (2, .ref qw), (3, .ref qx), (4, .int (nI i))]) hx hb dX0_locked_278 hl (by decide) rfl (fun ls hl => ?_)
      refine lv_iload hx hb dX0_locked_280 (lv_at hl 0 rfl) ?_
      refine lv_if_le (tgt := 301) hx hb dX0_locked_282 (by decide) (fun hc => absurd hc (by decide)) (fun hc => ?_)
      refine lv_aload_n hx hb dX0_locked_285 rfl (lv_at hl 6 rfl) ?_
      refine lv_iload hx hb dX0_locked_286 (lv_at hl 0 rfl) ?_
      refine lv_aload_n hx hb dX0_locked_288 rfl (lv_at hl 6 rfl) ?_
      refine lv_iload hx hb dX0_locked_289 (lv_at hl 0 rfl) ?_
      refine lv_iconst (v := 1) hx hb dX0_locked_291 (by decide) ?_
      refine lv_isub hx hb dX0_locked_292 ?_
      refine sx_top (v := 6) (by decide) ?_
      refine sx_iald (v := z 6) hx hb hK hP 3 3 rfl rfl 6 (by decide) (by decide) (by decide) rfl dX0_locked_293 ?_
      refine sx_iast (g := upd z 7 (z 6)) hx hb hK hP hD hS 3 3 rfl rfl 7 (by decide) (by decide) (by decide) (fun _ _ => rfl) dX0_locked_294 (fun H locs hP hD hS => ?_)
      have hP : va_P (dC, dI) vwCl [(qa, .inl (ca, 16, .inl f)), (qb, .inl (cb, 8, .inl x)), (qw, .inl (cw, 64, .inl (sa_sch f 64))), (qx, .inl (cx, 8, .inl (upd z 7 (z 6))))] H := hP
      have hD : va_D A [(qa, .inl (ca, 16, .inl f)), (qb, .inl (cb, 8, .inl x)), (qw, .inl (cw, 64, .inl (sa_sch f 64))), (qx, .inl (cx, 8, .inl (upd z 7 (z 6))))] := hD
      refine lv_iinc (v := 6) (lv' := [(9, .int 6), (8, .int (sa_t2 z)), (7, .int (sa_t1 (sa_rk i) (sa_sch f 64 i) z)), (6, .int (z 0)), (5, .int (z 4)), (2, .ref qw), (3, .ref qx), (4, .int (nI i))]) hx hb dX0_locked_295 hl (k := 0) rfl (by decide) (by decide) rfl (fun ls hl => ?_)
      refine lv_goto (tgt := 280) hx hb dX0_locked_298 (by decide) ?_
      refine lv_iload hx hb dX0_locked_280 (lv_at hl 0 rfl) ?_
      refine lv_if_le (tgt := 301) hx hb dX0_locked_282 (by decide) (fun hc => absurd hc (by decide)) (fun hc => ?_)
      refine lv_aload_n hx hb dX0_locked_285 rfl (lv_at hl 6 rfl) ?_
      refine lv_iload hx hb dX0_locked_286 (lv_at hl 0 rfl) ?_
      refine lv_aload_n hx hb dX0_locked_288 rfl (lv_at hl 6 rfl) ?_
      refine lv_iload hx hb dX0_locked_289 (lv_at hl 0 rfl) ?_
      refine lv_iconst (v := 1) hx hb dX0_locked_291 (by decide) ?_
      refine lv_isub hx hb dX0_locked_292 ?_
      refine sx_top (v := 5) (by decide) ?_
      refine sx_iald (v := z 5) hx hb hK hP 3 3 rfl rfl 5 (by decide) (by decide) (by decide) rfl dX0_locked_293 ?_
      refine sx_iast (g := upd (upd z 7 (z 6)) 6 (z 5)) hx hb hK hP hD hS 3 3 rfl rfl 6 (by decide) (by decide) (by decide) (fun _ _ => rfl) dX0_locked_294 (fun H locs hP hD hS => ?_)
      have hP : va_P (dC, dI) vwCl [(qa, .inl (ca, 16, .inl f)), (qb, .inl (cb, 8, .inl x)), (qw, .inl (cw, 64, .inl (sa_sch f 64))), (qx, .inl (cx, 8, .inl (upd (upd z 7 (z 6)) 6 (z 5))))] H := hP
      have hD : va_D A [(qa, .inl (ca, 16, .inl f)), (qb, .inl (cb, 8, .inl x)), (qw, .inl (cw, 64, .inl (sa_sch f 64))), (qx, .inl (cx, 8, .inl (upd (upd z 7 (z 6)) 6 (z 5))))] := hD
      refine lv_iinc (v := 5) (lv' := [(9, .int 5), (8, .int (sa_t2 z)), (7, .int (sa_t1 (sa_rk i) (sa_sch f 64 i) z)), (6, .int (z 0)), (5, .int (z 4)), (2, .ref qw), (3, .ref qx), (4, .int (nI i))]) hx hb dX0_locked_295 hl (k := 0) rfl (by decide) (by decide) rfl (fun ls hl => ?_)
      refine lv_goto (tgt := 280) hx hb dX0_locked_298 (by decide) ?_
      refine lv_iload hx hb dX0_locked_280 (lv_at hl 0 rfl) ?_
      refine lv_if_le (tgt := 301) hx hb dX0_locked_282 (by decide) (fun hc => absurd hc (by decide)) (fun hc => ?_)
      refine lv_aload_n hx hb dX0_locked_285 rfl (lv_at hl 6 rfl) ?_
      refine lv_iload hx hb dX0_locked_286 (lv_at hl 0 rfl) ?_
      refine lv_aload_n hx hb dX0_locked_288 rfl (lv_at hl 6 rfl) ?_
      refine lv_iload hx hb dX0_locked_289 (lv_at hl 0 rfl) ?_
      refine lv_iconst (v := 1) hx hb dX0_locked_291 (by decide) ?_
      refine lv_isub hx hb dX0_locked_292 ?_
      refine sx_top (v := 4) (by decide) ?_
      refine sx_iald (v := z 4) hx hb hK hP 3 3 rfl rfl 4 (by decide) (by decide) (by decide) rfl dX0_locked_293 ?_
      refine sx_iast (g := upd (upd (upd z 7 (z 6)) 6 (z 5)) 5 (z 4)) hx hb hK hP hD hS 3 3 rfl rfl 5 (by decide) (by decide) (by decide) (fun _ _ => rfl) dX0_locked_294 (fun H locs hP hD hS => ?_)
      have hP : va_P (dC, dI) vwCl [(qa, .inl (ca, 16, .inl f)), (qb, .inl (cb, 8, .inl x)), (qw, .inl (cw, 64, .inl (sa_sch f 64))), (qx, .inl (cx, 8, .inl (upd (upd (upd z 7 (z 6)) 6 (z 5)) 5 (z 4))))] H := hP
      have hD : va_D A [(qa, .inl (ca, 16, .inl f)), (qb, .inl (cb, 8, .inl x)), (qw, .inl (cw, 64, .inl (sa_sch f 64))), (qx, .inl (cx, 8, .inl (upd (upd (upd z 7 (z 6)) 6 (z 5)) 5 (z 4))))] := hD
      refine lv_iinc (v := 4) (lv' := [(9, .int 4), (8, .int (sa_t2 z)), (7, .int (sa_t1 (sa_rk i) (sa_sch f 64 i) z)), (6, .int (z 0)), (5, .int (z 4)), (2, .ref qw), (3, .ref qx), (4, .int (nI i))]) hx hb dX0_locked_295 hl (k := 0) rfl (by decide) (by decide) rfl (fun ls hl => ?_)
      refine lv_goto (tgt := 280) hx hb dX0_locked_298 (by decide) ?_
      refine lv_iload hx hb dX0_locked_280 (lv_at hl 0 rfl) ?_
      refine lv_if_le (tgt := 301) hx hb dX0_locked_282 (by decide) (fun hc => absurd hc (by decide)) (fun hc => ?_)
      refine lv_aload_n hx hb dX0_locked_285 rfl (lv_at hl 6 rfl) ?_
      refine lv_iload hx hb dX0_locked_286 (lv_at hl 0 rfl) ?_
      refine lv_aload_n hx hb dX0_locked_288 rfl (lv_at hl 6 rfl) ?_
      refine lv_iload hx hb dX0_locked_289 (lv_at hl 0 rfl) ?_
      refine lv_iconst (v := 1) hx hb dX0_locked_291 (by decide) ?_
      refine lv_isub hx hb dX0_locked_292 ?_
      refine sx_top (v := 3) (by decide) ?_
      refine sx_iald (v := z 3) hx hb hK hP 3 3 rfl rfl 3 (by decide) (by decide) (by decide) rfl dX0_locked_293 ?_
      refine sx_iast (g := upd (upd (upd (upd z 7 (z 6)) 6 (z 5)) 5 (z 4)) 4 (z 3)) hx hb hK hP hD hS 3 3 rfl rfl 4 (by decide) (by decide) (by decide) (fun _ _ => rfl) dX0_locked_294 (fun H locs hP hD hS => ?_)
      have hP : va_P (dC, dI) vwCl [(qa, .inl (ca, 16, .inl f)), (qb, .inl (cb, 8, .inl x)), (qw, .inl (cw, 64, .inl (sa_sch f 64))), (qx, .inl (cx, 8, .inl (upd (upd (upd (upd z 7 (z 6)) 6 (z 5)) 5 (z 4)) 4 (z 3))))] H := hP
      have hD : va_D A [(qa, .inl (ca, 16, .inl f)), (qb, .inl (cb, 8, .inl x)), (qw, .inl (cw, 64, .inl (sa_sch f 64))), (qx, .inl (cx, 8, .inl (upd (upd (upd (upd z 7 (z 6)) 6 (z 5)) 5 (z 4)) 4 (z 3))))] := hD
      refine lv_iinc (v := 3) (lv' := [(9, .int 3), (8, .int (sa_t2 z)), (7, .int (sa_t1 (sa_rk i) (sa_sch f 64 i) z)), (6, .int (z 0)), (5, .int (z 4)), (2, .ref qw), (3, .ref qx), (4, .int (nI i))]) hx hb dX0_locked_295 hl (k := 0) rfl (by decide) (by decide) rfl (fun ls hl => ?_)
      refine lv_goto (tgt := 280) hx hb dX0_locked_298 (by decide) ?_
      refine lv_iload hx hb dX0_locked_280 (lv_at hl 0 rfl) ?_
      refine lv_if_le (tgt := 301) hx hb dX0_locked_282 (by decide) (fun hc => absurd hc (by decide)) (fun hc => ?_)
      refine lv_aload_n hx hb dX0_locked_285 rfl (lv_at hl 6 rfl) ?_
      refine lv_iload hx hb dX0_locked_286 (lv_at hl 0 rfl) ?_
      refine lv_aload_n hx hb dX0_locked_288 rfl (lv_at hl 6 rfl) ?_
      refine lv_iload hx hb dX0_locked_289 (lv_at hl 0 rfl) ?_
      refine lv_iconst (v := 1) hx hb dX0_locked_291 (by decide) ?_
      refine lv_isub hx hb dX0_locked_292 ?_
      refine sx_top (v := 2) (by decide) ?_
      refine sx_iald (v := z 2) hx hb hK hP 3 3 rfl rfl 2 (by decide) (by decide) (by decide) rfl dX0_locked_293 ?_
      refine sx_iast (g := upd (upd (upd (upd (upd z 7 (z 6)) 6 (z 5)) 5 (z 4)) 4 (z 3)) 3 (z 2)) hx hb hK hP hD hS 3 3 rfl rfl 3 (by decide) (by decide) (by decide) (fun _ _ => rfl) dX0_locked_294 (fun H locs hP hD hS => ?_)
      have hP : va_P (dC, dI) vwCl [(qa, .inl (ca, 16, .inl f)), (qb, .inl (cb, 8, .inl x)), (qw, .inl (cw, 64, .inl (sa_sch f 64))), (qx, .inl (cx, 8, .inl (upd (upd (upd (upd (upd z 7 (z 6)) 6 (z 5)) 5 (z 4)) 4 (z 3)) 3 (z 2))))] H := hP
      have hD : va_D A [(qa, .inl (ca, 16, .inl f)), (qb, .inl (cb, 8, .inl x)), (qw, .inl (cw, 64, .inl (sa_sch f 64))), (qx, .inl (cx, 8, .inl (upd (upd (upd (upd (upd z 7 (z 6)) 6 (z 5)) 5 (z 4)) 4 (z 3)) 3 (z 2))))] := hD
      refine lv_iinc (v := 2) (lv' := [(9, .int 2), (8, .int (sa_t2 z)), (7, .int (sa_t1 (sa_rk i) (sa_sch f 64 i) z)), (6, .int (z 0)), (5, .int (z 4)), (2, .ref qw), (3, .ref qx), (4, .int (nI i))]) hx hb dX0_locked_295 hl (k := 0) rfl (by decide) (by decide) rfl (fun ls hl => ?_)
      refine lv_goto (tgt := 280) hx hb dX0_locked_298 (by decide) ?_
      refine lv_iload hx hb dX0_locked_280 (lv_at hl 0 rfl) ?_
      refine lv_if_le (tgt := 301) hx hb dX0_locked_282 (by decide) (fun hc => absurd hc (by decide)) (fun hc => ?_)
      refine lv_aload_n hx hb dX0_locked_285 rfl (lv_at hl 6 rfl) ?_
      refine lv_iload hx hb dX0_locked_286 (lv_at hl 0 rfl) ?_
      refine lv_aload_n hx hb dX0_locked_288 rfl (lv_at hl 6 rfl) ?_
      refine lv_iload hx hb dX0_locked_289 (lv_at hl 0 rfl) ?_
      refine lv_iconst (v := 1) hx hb dX0_locked_291 (by decide) ?_
      refine lv_isub hx hb dX0_locked_292 ?_
      refine sx_top (v := 1) (by decide) ?_
      refine sx_iald (v := z 1) hx hb hK hP 3 3 rfl rfl 1 (by decide) (by decide) (by decide) rfl dX0_locked_293 ?_
      refine sx_iast (g := upd (upd (upd (upd (upd (upd z 7 (z 6)) 6 (z 5)) 5 (z 4)) 4 (z 3)) 3 (z 2)) 2 (z 1)) hx hb hK hP hD hS 3 3 rfl rfl 2 (by decide) (by decide) (by decide) (fun _ _ => rfl) dX0_locked_294 (fun H locs hP hD hS => ?_)
      have hP : va_P (dC, dI) vwCl [(qa, .inl (ca, 16, .inl f)), (qb, .inl (cb, 8, .inl x)), (qw, .inl (cw, 64, .inl (sa_sch f 64))), (qx, .inl (cx, 8, .inl (upd (upd (upd (upd (upd (upd z 7 (z 6)) 6 (z 5)) 5 (z 4)) 4 (z 3)) 3 (z 2)) 2 (z 1))))] H := hP
      have hD : va_D A [(qa, .inl (ca, 16, .inl f)), (qb, .inl (cb, 8, .inl x)), (qw, .inl (cw, 64, .inl (sa_sch f 64))), (qx, .inl (cx, 8, .inl (upd (upd (upd (upd (upd (upd z 7 (z 6)) 6 (z 5)) 5 (z 4)) 4 (z 3)) 3 (z 2)) 2 (z 1))))] := hD
      refine lv_iinc (v := 1) (lv' := [(9, .int 1), (8, .int (sa_t2 z)), (7, .int (sa_t1 (sa_rk i) (sa_sch f 64 i) z)), (6, .int (z 0)), (5, .int (z 4)), (2, .ref qw), (3, .ref qx), (4, .int (nI i))]) hx hb dX0_locked_295 hl (k := 0) rfl (by decide) (by decide) rfl (fun ls hl => ?_)
      refine lv_goto (tgt := 280) hx hb dX0_locked_298 (by decide) ?_
      refine lv_iload hx hb dX0_locked_280 (lv_at hl 0 rfl) ?_
      refine lv_if_le (tgt := 301) hx hb dX0_locked_282 (by decide) (fun hc => absurd hc (by decide)) (fun hc => ?_)
      refine lv_aload_n hx hb dX0_locked_285 rfl (lv_at hl 6 rfl) ?_
      refine lv_iload hx hb dX0_locked_286 (lv_at hl 0 rfl) ?_
      refine lv_aload_n hx hb dX0_locked_288 rfl (lv_at hl 6 rfl) ?_
      refine lv_iload hx hb dX0_locked_289 (lv_at hl 0 rfl) ?_
      refine lv_iconst (v := 1) hx hb dX0_locked_291 (by decide) ?_
      refine lv_isub hx hb dX0_locked_292 ?_
      refine sx_top (v := 0) (by decide) ?_
      refine sx_iald (v := z 0) hx hb hK hP 3 3 rfl rfl 0 (by decide) (by decide) (by decide) rfl dX0_locked_293 ?_
      refine sx_iast (g := upd (upd (upd (upd (upd (upd (upd z 7 (z 6)) 6 (z 5)) 5 (z 4)) 4 (z 3)) 3 (z 2)) 2 (z 1)) 1 (z 0)) hx hb hK hP hD hS 3 3 rfl rfl 1 (by decide) (by decide) (by decide) (fun _ _ => rfl) dX0_locked_294 (fun H locs hP hD hS => ?_)
      have hP : va_P (dC, dI) vwCl [(qa, .inl (ca, 16, .inl f)), (qb, .inl (cb, 8, .inl x)), (qw, .inl (cw, 64, .inl (sa_sch f 64))), (qx, .inl (cx, 8, .inl (upd (upd (upd (upd (upd (upd (upd z 7 (z 6)) 6 (z 5)) 5 (z 4)) 4 (z 3)) 3 (z 2)) 2 (z 1)) 1 (z 0))))] H := hP
      have hD : va_D A [(qa, .inl (ca, 16, .inl f)), (qb, .inl (cb, 8, .inl x)), (qw, .inl (cw, 64, .inl (sa_sch f 64))), (qx, .inl (cx, 8, .inl (upd (upd (upd (upd (upd (upd (upd z 7 (z 6)) 6 (z 5)) 5 (z 4)) 4 (z 3)) 3 (z 2)) 2 (z 1)) 1 (z 0))))] := hD
      refine lv_iinc (v := 0) (lv' := [(9, .int 0), (8, .int (sa_t2 z)), (7, .int (sa_t1 (sa_rk i) (sa_sch f 64 i) z)), (6, .int (z 0)), (5, .int (z 4)), (2, .ref qw), (3, .ref qx), (4, .int (nI i))]) hx hb dX0_locked_295 hl (k := 0) rfl (by decide) (by decide) rfl (fun ls hl => ?_)
      refine lv_goto (tgt := 280) hx hb dX0_locked_298 (by decide) ?_
      refine lv_iload hx hb dX0_locked_280 (lv_at hl 0 rfl) ?_
      refine lv_if_le (tgt := 301) hx hb dX0_locked_282 (by decide) (fun hc => ?_) (fun hc => absurd hc (by decide))
      refine lv_aload_n hx hb dX0_locked_301 rfl (lv_at hl 6 rfl) ?_
      refine lv_iconst (v := 4) hx hb dX0_locked_302 (by decide) ?_
      refine lv_dup2_11 hx hb dX0_locked_303 rfl rfl ?_
      refine sx_iald (v := z 3) hx hb hK hP 3 3 rfl rfl 4 (by decide) (by decide) (by decide) rfl dX0_locked_304 ?_
      refine lv_iload hx hb dX0_locked_305 (lv_at hl 2 rfl) ?_
      refine lv_iadd hx hb dX0_locked_307 ?_
      refine sx_iast (g := upd (upd (upd (upd (upd (upd (upd (upd z 7 (z 6)) 6 (z 5)) 5 (z 4)) 4 (z 3)) 3 (z 2)) 2 (z 1)) 1 (z 0)) 4 ((z 3) + (sa_t1 (sa_rk i) (sa_sch f 64 i) z))) hx hb hK hP hD hS 3 3 rfl rfl 4 (by decide) (by decide) (by decide) (fun _ _ => rfl) dX0_locked_308 (fun H locs hP hD hS => ?_)
      have hP : va_P (dC, dI) vwCl [(qa, .inl (ca, 16, .inl f)), (qb, .inl (cb, 8, .inl x)), (qw, .inl (cw, 64, .inl (sa_sch f 64))), (qx, .inl (cx, 8, .inl (upd (upd (upd (upd (upd (upd (upd (upd z 7 (z 6)) 6 (z 5)) 5 (z 4)) 4 (z 3)) 3 (z 2)) 2 (z 1)) 1 (z 0)) 4 ((z 3) + (sa_t1 (sa_rk i) (sa_sch f 64 i) z)))))] H := hP
      have hD : va_D A [(qa, .inl (ca, 16, .inl f)), (qb, .inl (cb, 8, .inl x)), (qw, .inl (cw, 64, .inl (sa_sch f 64))), (qx, .inl (cx, 8, .inl (upd (upd (upd (upd (upd (upd (upd (upd z 7 (z 6)) 6 (z 5)) 5 (z 4)) 4 (z 3)) 3 (z 2)) 2 (z 1)) 1 (z 0)) 4 ((z 3) + (sa_t1 (sa_rk i) (sa_sch f 64 i) z)))))] := hD
      refine lv_aload_n hx hb dX0_locked_309 rfl (lv_at hl 6 rfl) ?_
      refine lv_iconst (v := 0) hx hb dX0_locked_310 (by decide) ?_
      refine lv_iload hx hb dX0_locked_311 (lv_at hl 2 rfl) ?_
      refine lv_iload hx hb dX0_locked_313 (lv_at hl 1 rfl) ?_
      refine lv_iadd hx hb dX0_locked_315 ?_
      refine sx_iast (g := upd (upd (upd (upd (upd (upd (upd (upd (upd z 7 (z 6)) 6 (z 5)) 5 (z 4)) 4 (z 3)) 3 (z 2)) 2 (z 1)) 1 (z 0)) 4 ((z 3) + (sa_t1 (sa_rk i) (sa_sch f 64 i) z))) 0 ((sa_t1 (sa_rk i) (sa_sch f 64 i) z) + (sa_t2 z))) hx hb hK hP hD hS 3 3 rfl rfl 0 (by decide) (by decide) (by decide) (fun _ _ => rfl) dX0_locked_316 (fun H locs hP hD hS => ?_)
      have hP : va_P (dC, dI) vwCl [(qa, .inl (ca, 16, .inl f)), (qb, .inl (cb, 8, .inl x)), (qw, .inl (cw, 64, .inl (sa_sch f 64))), (qx, .inl (cx, 8, .inl (upd (upd (upd (upd (upd (upd (upd (upd (upd z 7 (z 6)) 6 (z 5)) 5 (z 4)) 4 (z 3)) 3 (z 2)) 2 (z 1)) 1 (z 0)) 4 ((z 3) + (sa_t1 (sa_rk i) (sa_sch f 64 i) z))) 0 ((sa_t1 (sa_rk i) (sa_sch f 64 i) z) + (sa_t2 z)))))] H := hP
      have hD : va_D A [(qa, .inl (ca, 16, .inl f)), (qb, .inl (cb, 8, .inl x)), (qw, .inl (cw, 64, .inl (sa_sch f 64))), (qx, .inl (cx, 8, .inl (upd (upd (upd (upd (upd (upd (upd (upd (upd z 7 (z 6)) 6 (z 5)) 5 (z 4)) 4 (z 3)) 3 (z 2)) 2 (z 1)) 1 (z 0)) 4 ((z 3) + (sa_t1 (sa_rk i) (sa_sch f 64 i) z))) 0 ((sa_t1 (sa_rk i) (sa_sch f 64 i) z) + (sa_t2 z)))))] := hD
      have hP := sx_ext hP 3 (sa_eN (sa_sch f 64) (i + 1) x) rfl (fun j hj => by rw [sa_eN_S, ← hz]; exact sa_e8_of (x := upd (upd (upd (upd (upd (upd (upd (upd (upd z 7 (z 6)) 6 (z 5)) 5 (z 4)) 4 (z 3)) 3 (z 2)) 2 (z 1)) 1 (z 0)) 4 ((z 3) + (sa_t1 (sa_rk i) (sa_sch f 64 i) z))) 0 ((sa_t1 (sa_rk i) (sa_sch f 64 i) z) + (sa_t2 z))) (y := sa_rnd (sa_rk i) (sa_sch f 64 i) z) rfl rfl rfl rfl rfl rfl rfl rfl j hj)
      have hD := hD.set (p := 3) (a := qx) (e := .inl (cx, 8, .inl (sa_eN (sa_sch f 64) (i + 1) x))) rfl
      have hP : va_P (dC, dI) vwCl [(qa, .inl (ca, 16, .inl f)), (qb, .inl (cb, 8, .inl x)), (qw, .inl (cw, 64, .inl (sa_sch f 64))), (qx, .inl (cx, 8, .inl (sa_eN (sa_sch f 64) (i + 1) x)))] H := hP
      have hD : va_D A [(qa, .inl (ca, 16, .inl f)), (qb, .inl (cb, 8, .inl x)), (qw, .inl (cw, 64, .inl (sa_sch f 64))), (qx, .inl (cx, 8, .inl (sa_eN (sa_sch f 64) (i + 1) x)))] := hD
      refine lv_iinc (v := nI (i + 1)) (lv' := [(4, .int (nI (i + 1))), (9, .int 0), (8, .int (sa_t2 z)), (7, .int (sa_t1 (sa_rk i) (sa_sch f 64 i) z)), (6, .int (z 0)), (5, .int (z 4)), (2, .ref qw), (3, .ref qx)]) hx hb dX0_locked_317 hl (k := 7) rfl (nI_1 i) (by decide) rfl (fun ls hl => ?_)
      refine lv_goto (tgt := 154) hx hb dX0_locked_320 (by decide) ?_
      exact ih (i + 1) (by omega) (by omega) H locs ls (hP.sub [0, 1, 2, 3] rfl) (hD.sub [0, 1, 2, 3] (by decide) rfl) hS (lv_sub hl [6, 7, 0] rfl) kk
set_option maxHeartbeats 4000000 in
set_option maxRecDepth 100000 in
/-- locked(key, block): what the definition gives -/
theorem mt_locked (l : Launch) (dC : Nat → ClassId) (dI : Nat → Nat → Nat) (sz : Nat) (qa qb tR : Nat) (ca cb : ClassId) (f x : Nat → Int32) : Met l yX0_locked (ws_ yX0_locked cX0_locked 10 (some (.array .int))) ({ frames := 1, cells := 2, slots := 72, locals := 21 }) (va_Pc [.ref qa, .ref qb] (sx_PreE "ShacalDeskLaw" "ROOTS" tR sa_rk (va_A [(qa, .inl (ca, 16, .inl f)), (qb, .inl (cb, 8, .inl x))] sz) (dC, dI) [(qa, .inl (ca, 16, .inl f)), (qb, .inl (cb, 8, .inl x))] [(ca, .int), (cb, .int)] sz)) (va_Qr (fun _ : Unit => True) (fun _ a t => ∃ cx : ClassId, sx_PostK (dC, dI) (va_A [(qa, .inl (ca, 16, .inl f)), (qb, .inl (cb, 8, .inl x))] sz) [(qa, .inl (ca, 16, .inl f)), (qb, .inl (cb, 8, .inl x)), (a, .inl (cx, 8, .inl (sa_enc f x)))] [(cx, .int)] t) (va_A [(qa, .inl (ca, 16, .inl f)), (qb, .inl (cb, 8, .inl x))] sz)) 2 72 (va_A [(qa, .inl (ca, 16, .inl f)), (qb, .inl (cb, 8, .inl x))] sz) := by
  refine Met.ofW (cc := cX0_locked) (maxL := 10) (ret := (some (.array .int))) (by decide) rfl ?_
  intro p e s m args below meth c s₁ B hml hv
  obtain ⟨rfl, hEx, hsz, hP, hK, hD0⟩ := hv
  have hx := B.exec
  have hb := B.bytes
  have hr := B.returns
  have hts := atoms_spec (ws := ws_ yX0_locked cX0_locked 10 (some (.array .int))) B.pre
  have hts : ∀ w ∈ lw_all, w.before _ s = true := fun w h => hts w (List.mem_cons_of_mem _ h)
  have hown : s.vm.findClass RX0 = some m.cls := findClass_of_methodNamed B.named
  have hlocks := B.notSynchronized
  subst hsz
  have hD := hD0.self (sz := s.heap.size)
  generalize hAe : va_A [(qa, .inl (ca, 16, .inl f)), (qb, .inl (cb, 8, .inl x))] s.heap.size = A at hD hEx ⊢
  have hA : ∀ q : Nat, s.heap.size ≤ q → A q := fun q h => by rw [← hAe]; exact Or.inr h
  have hS : va_S A s.heap s.heap [] := va_S.rf
  have hP : va_P (dC, dI) vwCl [(qa, .inl (ca, 16, .inl f)), (qb, .inl (cb, 8, .inl x))] s.heap := hP
  have hl := lv_entry ([.ref qa, .ref qb]) (n := 10) (Nat.le_of_ble_eq_true rfl)
  rw [lg_entry_eq]
  generalize (lg_sl ([.ref qa, .ref qb]) ++ List.replicate (10 - (lg_sl ([.ref qa, .ref qb])).length) Slot.unset).toArray = ls at hl ⊢
  have hl : lv_has ls 10 [(0, .ref qa), (1, .ref qb)] := hl
  refine lv_bipush (v := 64) hx hb dX0_locked_0 (by decide) ?_
  refine va_newa (atype := .int) (a0 := (64, .inl (fun _ => 0))) (N' := 64) hx hb (hts _ q196) (ty := .int) rfl hK hP hD hS hA (fun _ => rfl) (by decide) (by decide) (by decide) (Nat.le_of_ble_eq_true rfl) (Nat.le_of_ble_eq_true rfl) dX0_locked_2 (fun q_1 c_2 H hK hP hD hS => ?_)
  have hP : va_P (dC, dI) vwCl [(qa, .inl (ca, 16, .inl f)), (qb, .inl (cb, 8, .inl x)), (q_1, .inl (c_2, 64, .inl (fun _ => 0)))] H := hP
  have hD : va_D A [(qa, .inl (ca, 16, .inl f)), (qb, .inl (cb, 8, .inl x)), (q_1, .inl (c_2, 64, .inl (fun _ => 0)))] := hD
  have hK : va_K (dC, dI) vwCl [(ca, .int), (cb, .int), (c_2, .int)] s := hK
  refine W.widen (k := 1) (n := 64) (Nat.le_of_ble_eq_true rfl) (Nat.le_of_ble_eq_true rfl) ?_
  refine lv_astore_n (lv' := [(2, .ref q_1), (0, .ref qa), (1, .ref qb)]) hx hb dX0_locked_4 rfl hl (by decide) rfl (fun ls hl => ?_)
  refine lv_iconst (v := 0) hx hb dX0_locked_5 (by decide) ?_
  refine lv_istore_n (lv' := [(3, .int 0), (2, .ref q_1), (0, .ref qa), (1, .ref qb)]) hx hb dX0_locked_6 rfl hl (by decide) rfl (fun ls hl => ?_)
  have hP := sx_ext hP 2 (sa_sch f 0) rfl (fun j _ => rfl)
  have hD := hD.set (p := 2) (a := q_1) (e := .inl (c_2, 64, .inl (sa_sch f 0))) rfl
  have hP : va_P (dC, dI) vwCl [(qa, .inl (ca, 16, .inl f)), (qb, .inl (cb, 8, .inl x)), (q_1, .inl (c_2, 64, .inl (sa_sch f 0)))] H := hP
  have hD : va_D A [(qa, .inl (ca, 16, .inl f)), (qb, .inl (cb, 8, .inl x)), (q_1, .inl (c_2, 64, .inl (sa_sch f 0)))] := hD
  have hl : lv_has ls 10 [(3, .int (nI 0)), (2, .ref q_1), (0, .ref qa), (1, .ref qb)] := hl
  refine lp_lk1 qa qb q_1 ca cb c_2 f x hx hb hml hown hts hA hK (Nat.le_of_ble_eq_true rfl) (Nat.le_of_ble_eq_true rfl) (Nat.le_of_ble_eq_true rfl) (Nat.le_of_ble_eq_true rfl) 65 0 (by omega) (by omega) _ _ _ (hP.sub [0, 1, 2] rfl) (hD.sub [0, 1, 2] (by decide) rfl) hS (lv_sub hl [2, 3, 1, 0] rfl) (fun H locs ls hP hD hS hl => ?_)
  refine lv_bipush (v := 8) hx hb dX0_locked_122 (by decide) ?_
  refine va_newa (atype := .int) (a0 := (8, .inl (fun _ => 0))) (N' := 8) hx hb (hts _ q196) (ty := .int) rfl hK hP hD hS hA (fun _ => rfl) (by decide) (by decide) (by decide) (Nat.le_of_ble_eq_true rfl) (Nat.le_of_ble_eq_true rfl) dX0_locked_124 (fun q_3 c_4 H hK hP hD hS => ?_)
  have hP : va_P (dC, dI) vwCl [(qa, .inl (ca, 16, .inl f)), (qb, .inl (cb, 8, .inl x)), (q_1, .inl (c_2, 64, .inl (sa_sch f 64))), (q_3, .inl (c_4, 8, .inl (fun _ => 0)))] H := hP
  have hD : va_D A [(qa, .inl (ca, 16, .inl f)), (qb, .inl (cb, 8, .inl x)), (q_1, .inl (c_2, 64, .inl (sa_sch f 64))), (q_3, .inl (c_4, 8, .inl (fun _ => 0)))] := hD
  have hK : va_K (dC, dI) vwCl [(ca, .int), (cb, .int), (c_2, .int), (c_4, .int)] s := hK
  refine W.widen (k := 2) (n := 72) (Nat.le_of_ble_eq_true rfl) (Nat.le_of_ble_eq_true rfl) ?_
  refine lv_astore_n (lv' := [(3, .ref q_3), (0, .ref qa), (1, .ref qb), (2, .ref q_1)]) hx hb dX0_locked_126 rfl hl (by decide) rfl (fun ls hl => ?_)
  refine lv_iconst (v := 0) hx hb dX0_locked_127 (by decide) ?_
  refine lv_istore (lv' := [(4, .int 0), (3, .ref q_3), (0, .ref qa), (1, .ref qb), (2, .ref q_1)]) hx hb dX0_locked_128 hl (by decide) rfl (fun ls hl => ?_)
  have hP := sx_ext hP 3 (sa_mx x (fun _ => 0) 0) rfl (fun j _ => by rw [sa_mx_0])
  have hD := hD.set (p := 3) (a := q_3) (e := .inl (c_4, 8, .inl (sa_mx x (fun _ => 0) 0))) rfl
  have hP : va_P (dC, dI) vwCl [(qa, .inl (ca, 16, .inl f)), (qb, .inl (cb, 8, .inl x)), (q_1, .inl (c_2, 64, .inl (sa_sch f 64))), (q_3, .inl (c_4, 8, .inl (sa_mx x (fun _ => 0) 0)))] H := hP
  have hD : va_D A [(qa, .inl (ca, 16, .inl f)), (qb, .inl (cb, 8, .inl x)), (q_1, .inl (c_2, 64, .inl (sa_sch f 64))), (q_3, .inl (c_4, 8, .inl (sa_mx x (fun _ => 0) 0)))] := hD
  have hl : lv_has ls 10 [(4, .int (nI 0)), (3, .ref q_3), (0, .ref qa), (1, .ref qb), (2, .ref q_1)] := hl
  refine lp_lk2 qa qb q_1 q_3 ca cb c_2 c_4 f x hx hb hml hown hts hA hK 9 0 (by omega) (by omega) _ _ _ (hP.sub [0, 1, 2, 3] rfl) (hD.sub [0, 1, 2, 3] (by decide) rfl) hS (lv_sub hl [3, 4, 1, 0] rfl) (fun H locs ls hP hD hS hl => ?_)
  have hP : va_P (dC, dI) vwCl [(qa, .inl (ca, 16, .inl f)), (qb, .inl (cb, 8, .inl x)), (q_1, .inl (c_2, 64, .inl (sa_sch f 64))), (q_3, .inl (c_4, 8, .inl (sa_mx x (fun _ => 0) 8)))] H := hP
  have hD : va_D A [(qa, .inl (ca, 16, .inl f)), (qb, .inl (cb, 8, .inl x)), (q_1, .inl (c_2, 64, .inl (sa_sch f 64))), (q_3, .inl (c_4, 8, .inl (sa_mx x (fun _ => 0) 8)))] := hD
  refine lv_iconst (v := 0) hx hb dX0_locked_151 (by decide) ?_
  refine lv_istore (lv' := [(4, .int 0), (1, .ref qb), (2, .ref q_1), (3, .ref q_3)]) hx hb dX0_locked_152 hl (by decide) rfl (fun ls hl => ?_)
  have hP := sx_ext hP 3 (sa_eN (sa_sch f 64) 0 x) rfl (sa_mx_n x (fun _ => 0) 8)
  have hD := hD.set (p := 3) (a := q_3) (e := .inl (c_4, 8, .inl (sa_eN (sa_sch f 64) 0 x))) rfl
  have hP : va_P (dC, dI) vwCl [(qa, .inl (ca, 16, .inl f)), (qb, .inl (cb, 8, .inl x)), (q_1, .inl (c_2, 64, .inl (sa_sch f 64))), (q_3, .inl (c_4, 8, .inl (sa_eN (sa_sch f 64) 0 x)))] H := hP
  have hD : va_D A [(qa, .inl (ca, 16, .inl f)), (qb, .inl (cb, 8, .inl x)), (q_1, .inl (c_2, 64, .inl (sa_sch f 64))), (q_3, .inl (c_4, 8, .inl (sa_eN (sa_sch f 64) 0 x)))] := hD
  have hl : lv_has ls 10 [(4, .int (nI 0)), (1, .ref qb), (2, .ref q_1), (3, .ref q_3)] := hl
  refine lp_lk3 qa qb q_1 q_3 tR ca cb c_2 c_4 f x hx hb hml hown hts hA hK hEx (Nat.le_of_ble_eq_true rfl) (Nat.le_of_ble_eq_true rfl) (Nat.le_of_ble_eq_true rfl) (Nat.le_of_ble_eq_true rfl) 65 0 (by omega) (by omega) _ _ _ (hP.sub [0, 1, 2, 3] rfl) (hD.sub [0, 1, 2, 3] (by decide) rfl) hS (lv_sub hl [2, 3, 0] rfl) (fun H locs ls hP hD hS hl => ?_)
  have hP : va_P (dC, dI) vwCl [(qa, .inl (ca, 16, .inl f)), (qb, .inl (cb, 8, .inl x)), (q_1, .inl (c_2, 64, .inl (sa_sch f 64))), (q_3, .inl (c_4, 8, .inl (sa_enc f x)))] H := hP
  have hD : va_D A [(qa, .inl (ca, 16, .inl f)), (qb, .inl (cb, 8, .inl x)), (q_1, .inl (c_2, 64, .inl (sa_sch f 64))), (q_3, .inl (c_4, 8, .inl (sa_enc f x)))] := hD
  refine lv_aload_n hx hb dX0_locked_323 rfl (lv_at hl 1 rfl) ?_
  have hP9 := hP.sub (ws' := [(qa, .inl (ca, 16, .inl f)), (qb, .inl (cb, 8, .inl x)), (q_3, .inl (c_4, 8, .inl (sa_enc f x)))]) [0, 1, 3] rfl
  have hD9 := hD.sub (ws' := [(qa, .inl (ca, 16, .inl f)), (qb, .inl (cb, 8, .inl x)), (q_3, .inl (c_4, 8, .inl (sa_enc f x)))]) [0, 1, 3] (by decide) rfl
  have hK9 := hK.sub (tys' := [(c_4, .int)]) [3] rfl
  exact W.aret (v := .ref q_3) hx hb hr (Or.inr ⟨_, rfl⟩) (Or.inr ⟨_, rfl⟩) (fun t ht hW => ⟨⟨(), q_3, rfl, trivial, c_4, by rw [ht]; exact hP9, hD9, va_K.moved hW.alike hK9⟩, hS.F ht⟩) hS.2.2 dX0_locked_324
/-- what has been put together when i bytes are read -/
def sa_gt (y : Nat → Int32) (i : Nat) : Nat → Int32 := fun j => sa_ac (y j) (if 4 * j + 4 ≤ i then 4 else i - 4 * j)
theorem sa_gt_0 (y : Nat → Int32) : sa_gt y 0 = fun _ => 0 := by
  funext j
  unfold sa_gt
  rw [if_neg (by omega), Nat.zero_sub]
  rfl
theorem sa_gt_at (y : Nat → Int32) (i : Nat) : sa_gt y i (i / 4) = sa_ac (y (i / 4)) (i % 4) := by
  unfold sa_gt
  rw [if_neg (by omega)]
  congr 1
  omega
theorem sa_gt_S (y : Nat → Int32) (i : Nat) : upd (sa_gt y i) (i / 4) (sa_gt y i (i / 4) <<< ((8 : Int32) &&& 31) ||| sa_ub (y (i / 4)) (i % 4)) = sa_gt y (i + 1) := by
  funext j
  unfold upd
  by_cases h : j = i / 4
  · rw [if_pos h, sa_gt_at, h]
    show sa_ac (y (i / 4)) (i % 4 + 1) = sa_ac (y (i / 4)) (if 4 * (i / 4) + 4 ≤ i + 1 then 4 else i + 1 - 4 * (i / 4))
    congr 1
    by_cases h2 : 4 * (i / 4) + 4 ≤ i + 1
    · rw [if_pos h2]
      omega
    · rw [if_neg h2]
      omega
  · rw [if_neg h]
    unfold sa_gt
    congr 1
    by_cases h2 : 4 * j + 4 ≤ i
    · rw [if_pos h2, if_pos (by omega)]
    · rw [if_neg h2, if_neg (by omega)]
      omega
theorem sa_gt_n (y : Nat → Int32) : ∀ j, j < 8 → sa_gt y 32 j = y j := by
  intro j hj
  unfold sa_gt
  rw [if_pos (by omega), sa_ac4]
theorem sa_and31 {i : Nat} (h : i < 32) : nI i &&& 31 = nI i := (pk_andN (by omega) 5 (by decide)).trans (congrArg nI (by omega))
theorem sa_and31m {i : Nat} (h : i < 32) (z : Int32) : (nI i + 32 * z) &&& 31 = nI i := by
  rw [pk_and _ 5 (by decide), Int32.toBitVec_add, Int32.toBitVec_mul, BitVec.toNat_add, BitVec.toNat_mul, pk_tn (by omega)]
  have e : ((32 : Int32)).toBitVec.toNat = 32 := by decide
  rw [e]
  congr 1
  omega
set_option maxHeartbeats 4000000 in
set_option maxRecDepth 100000 in
/-- out: the loop -/
theorem lp_out {p : Program} {l : Launch} {e : Env} {R : Room} {s : State} {m : MethodId} {args : Array Value} {below : List Frame} {meth : Method} {c : Code} {Q : State → Prop} {A : Nat → Prop} {cells slots : Nat} {dC : Nat → ClassId} {dI : Nat → Nat → Nat} (h qk qb qo qx : Nat) (co cx : ClassId) (t0 : Int32) (y : Nat → Int32) (hx : p.tables.exec = Jvm.exec) (hb : c.code = cX0_out) (hml : c.maxLocals = 5) (hown : s.vm.findClass RX0 = some m.cls) (hts : ∀ w ∈ lw_all, w.before args s = true) (hA : ∀ q : Nat, s.heap.size ≤ q → A q) (hK : va_K (dC, dI) vwCl [(co, .byte), (cx, .int)] s) (hRf : 1 ≤ R.frames) (hRl : 21 ≤ R.locals) (hRc : cells ≤ R.cells) (hRs : slots ≤ R.slots) :
    ∀ (n i : Nat), i ≤ 32 → 32 < i + n → ∀ (H : Heap) (locs : List Loc) (ls : Array Slot), va_P (dC, dI) vwCl [(h, .inr (0, [.ref qk, .ref qb, .ref qo])), (qo, .inl (co, 32, .inl (sa_bs y))), (qx, .inl (cx, 8, .inl (sa_gt y i)))] H → va_D A [(h, .inr (0, [.ref qk, .ref qb, .ref qo])), (qo, .inl (co, 32, .inl (sa_bs y))), (qx, .inl (cx, 8, .inl (sa_gt y i)))] → va_S A s.heap H locs → lv_has ls 5 [(0, .ref h), (1, .int t0), (2, .ref qx), (3, .int (nI i))] → (∀ (H : Heap) (locs : List Loc) (ls : Array Slot), va_P (dC, dI) vwCl [(h, .inr (0, [.ref qk, .ref qb, .ref qo])), (qo, .inl (co, 32, .inl (sa_bs y))), (qx, .inl (cx, 8, .inl (sa_gt y 32)))] H → va_D A [(h, .inr (0, [.ref qk, .ref qb, .ref qo])), (qo, .inl (co, 32, .inl (sa_bs y))), (qx, .inl (cx, 8, .inl (sa_gt y 32)))] → va_S A s.heap H locs → lv_has ls 5 [(0, .ref h), (1, .int t0), (2, .ref qx), (3, .int (nI 32))] → W p l e R s m args below meth c H locs cells slots Q (F0 m 78 ls [])) → W p l e R s m args below meth c H locs cells slots Q (F0 m 7 ls []) := by
  intro n
  induction n with
  | zero =>
    intro i h1 h2
    exact absurd h2 (by omega)
  | succ n ih =>
    intro i hi hi2 H locs ls hP hD hS hl kk
    refine lv_iload_n hx hb dX0_out_7 rfl (lv_at hl 3 rfl) ?_
    refine lv_bipush (v := 32) hx hb dX0_out_8 (by decide) ?_
    refine lv_icmp_ge (tgt := 78) hx hb dX0_out_10 (by decide) (fun hc => ?_) (fun hc => ?_)
    · have hc2 := (nI_leI (a := 32) (b := i) (by decide) (by omega)).mp hc
      obtain rfl : i = 32 := by omega
      exact kk H locs ls hP hD hS hl
    · have hlt : i < 32 := Nat.lt_of_not_le fun q => hc ((nI_leI (a := 32) (b := i) (by decide) (by omega)).mpr q)
      obtain ⟨jj, hj1, hj2⟩ := sa_ub_n (y (i / 4)) (i % 4)
      refine lv_aload_n hx hb dX0_out_13 rfl (lv_at hl 0 rfl) ?_
      refine lv_iload_n hx hb dX0_out_14 rfl (lv_at hl 3 rfl) ?_
      have hPc := hP.sub (ws' := [(h, .inr (0, [.ref qk, .ref qb, .ref qo])), (qo, .inl (co, 32, .inl (sa_bs y)))]) [0, 1] rfl
      have hDc := hD.sub (ws' := [(h, .inr (0, [.ref qk, .ref qb, .ref qo])), (qo, .inl (co, 32, .inl (sa_bs y)))]) [0, 1] (by decide) rfl
      have hKc := hK.sub (tys' := [(co, .byte)]) [0] rfl
      have hFc := va_free (wc := [(h, .inr (0, [.ref qk, .ref qb, .ref qo])), (qo, .inl (co, 32, .inl (sa_bs y)))]) hD hS hA [0, 1] rfl
      refine va_calli (va_runV (As := [.int (nI i)]) (rest := []) ⟨hx, hb, hml, hown, hts⟩ (mt_out l dC dI H.size h qk qb qo co y i (nI i) (sa_and31 hlt) hlt) (cwV 1 hts (lw_V q274 q275 q276 q8 q277) rfl rfl rfl (by decide +kernel) ⟨hRf, hRl⟩) ⟨sx_blind, va_recv hK hP (ci := 0) (q0 := 0) rfl rfl, fun U hU hW => ⟨rfl, sx_Pre.mk hPc hKc hDc hU hW⟩⟩ rfl rfl hl.1 rfl (lv_room (Nat.le_of_ble_eq_true rfl)) dX0_out_15 ⟨hRc, hRs⟩) hS (fun q _ h => hFc q h) hFc (fun r_1 u t H1 locs ht hvm hw hB hz1 hk1 hS => ?_)
      obtain ⟨hP1, hD1⟩ := hB
      rw [ht] at hP1
      obtain ⟨hP, hD⟩ := va_join (wr := [(qx, .inl (cx, 8, .inl (sa_gt y i)))]) (w1 := [(h, .inr (0, [.ref qk, .ref qb, .ref qo])), (qo, .inl (co, 32, .inl (sa_bs y)))]) hP hD [0, 1] [2] rfl rfl (by decide) (by decide) hk1 hFc hP1 hD1
      generalize H1 = H at hP hS ⊢
      have hP : va_P (dC, dI) vwCl [(qx, .inl (cx, 8, .inl (sa_gt y i))), (h, .inr (0, [.ref qk, .ref qb, .ref qo])), (qo, .inl (co, 32, .inl (sa_bs y)))] H := hP
      have hD : va_D A [(qx, .inl (cx, 8, .inl (sa_gt y i))), (h, .inr (0, [.ref qk, .ref qb, .ref qo])), (qo, .inl (co, 32, .inl (sa_bs y)))] := hD
      refine W.widen (k := cells) (n := slots) (Nat.le_refl _) (Nat.le_refl _) ?_
      subst hw
      refine lv_istore (lv' := [(4, .int (sa_ub (y (i / 4)) (i % 4))), (0, .ref h), (1, .int t0), (2, .ref qx), (3, .int (nI i))]) hx hb dX0_out_18 hl (by decide) rfl (fun ls hl => ?_)
      refine lv_iload hx hb dX0_out_20 (lv_at hl 0 rfl) ?_
      refine lv_if_lt (tgt := 52) hx hb dX0_out_22 (by decide) (fun hc => absurd hc (by rw [hj2]; exact nI_pos (by omega))) (fun hc => ?_)
      refine lv_iload hx hb dX0_out_25 (lv_at hl 0 rfl) ?_
      refine lv_sipush (v := 255) hx hb dX0_out_27 (by decide) ?_
      refine lv_icmp_gt (tgt := 52) hx hb dX0_out_30 (by decide) (fun hc => absurd hc (by rw [hj2]; exact nI_nlt (a := 255) (b := jj) (by omega) (by decide))) (fun hc => ?_)
      refine lv_aload_n hx hb dX0_out_33 rfl (lv_at hl 1 rfl) ?_
      refine lv_iload_n hx hb dX0_out_34 rfl (lv_at hl 4 rfl) ?_
      refine lv_bipush (v := 32) hx hb dX0_out_35 (by decide) ?_
      refine lv_iload_n hx hb dX0_out_37 rfl (lv_at hl 2 rfl) ?_
      refine lv_sipush (v := 1000) hx hb dX0_out_38 (by decide) ?_
      refine lv_irem hx hb dX0_out_41 (by decide) ?_
      refine lv_imul hx hb dX0_out_42 ?_
      refine lv_iadd hx hb dX0_out_43 ?_
      have hPc := hP.sub (ws' := [(h, .inr (0, [.ref qk, .ref qb, .ref qo])), (qo, .inl (co, 32, .inl (sa_bs y)))]) [1, 2] rfl
      have hDc := hD.sub (ws' := [(h, .inr (0, [.ref qk, .ref qb, .ref qo])), (qo, .inl (co, 32, .inl (sa_bs y)))]) [1, 2] (by decide) rfl
      have hKc := hK.sub (tys' := [(co, .byte)]) [0] rfl
      have hFc := va_free (wc := [(h, .inr (0, [.ref qk, .ref qb, .ref qo])), (qo, .inl (co, 32, .inl (sa_bs y)))]) hD hS hA [1, 2] rfl
      refine va_calli (va_runV (As := [.int ((nI i) + (32 * (t0 - t0 / 1000 * 1000)))]) (rest := []) ⟨hx, hb, hml, hown, hts⟩ (mt_out l dC dI H.size h qk qb qo co y i ((nI i) + (32 * (t0 - t0 / 1000 * 1000))) (sa_and31m hlt _) hlt) (cwV 1 hts (lw_V q274 q275 q276 q8 q277) rfl rfl rfl (by decide +kernel) ⟨hRf, hRl⟩) ⟨sx_blind, va_recv hK hP (ci := 0) (q0 := 1) rfl rfl, fun U hU hW => ⟨rfl, sx_Pre.mk hPc hKc hDc hU hW⟩⟩ rfl rfl hl.1 rfl (lv_room (Nat.le_of_ble_eq_true rfl)) dX0_out_44 ⟨hRc, hRs⟩) hS (fun q _ h => hFc q h) hFc (fun r_2 u t H1 locs ht hvm hw hB hz1 hk1 hS => ?_)
      obtain ⟨hP1, hD1⟩ := hB
      rw [ht] at hP1
      obtain ⟨hP, hD⟩ := va_join (wr := [(qx, .inl (cx, 8, .inl (sa_gt y i)))]) (w1 := [(h, .inr (0, [.ref qk, .ref qb, .ref qo])), (qo, .inl (co, 32, .inl (sa_bs y)))]) hP hD [1, 2] [0] rfl rfl (by decide) (by decide) hk1 hFc hP1 hD1
      generalize H1 = H at hP hS ⊢
      have hP : va_P (dC, dI) vwCl [(qx, .inl (cx, 8, .inl (sa_gt y i))), (h, .inr (0, [.ref qk, .ref qb, .ref qo])), (qo, .inl (co, 32, .inl (sa_bs y)))] H := hP
      have hD : va_D A [(qx, .inl (cx, 8, .inl (sa_gt y i))), (h, .inr (0, [.ref qk, .ref qb, .ref qo])), (qo, .inl (co, 32, .inl (sa_bs y)))] := hD
      refine W.widen (k := cells) (n := slots) (Nat.le_refl _) (Nat.le_refl _) ?_
      subst hw
      refine lv_iload hx hb dX0_out_47 (lv_at hl 0 rfl) ?_
      refine lv_icmp_eq (tgt := 56) hx hb dX0_out_49 (by decide) (fun hc => ?_) (fun hc => absurd rfl hc)
      refine lv_aload_n hx hb dX0_out_56 rfl (lv_at hl 3 rfl) ?_
      refine lv_iload_n hx hb dX0_out_57 rfl (lv_at hl 4 rfl) ?_
      refine lv_iconst (v := 4) hx hb dX0_out_58 (by decide) ?_
      refine lv_idiv hx hb dX0_out_59 (by decide) ?_
      refine sx_top (v := nI (i / 4)) (pk_div (a := i) (d := 4) (by omega) (by decide) (by decide)) ?_
      refine lv_aload_n hx hb dX0_out_60 rfl (lv_at hl 3 rfl) ?_
      refine lv_iload_n hx hb dX0_out_61 rfl (lv_at hl 4 rfl) ?_
      refine lv_iconst (v := 4) hx hb dX0_out_62 (by decide) ?_
      refine lv_idiv hx hb dX0_out_63 (by decide) ?_
      refine sx_top (v := nI (i / 4)) (pk_div (a := i) (d := 4) (by omega) (by decide) (by decide)) ?_
      refine sx_iald (v := (sa_gt y i) (i / 4)) hx hb hK hP 0 1 rfl rfl (i / 4) rfl (by omega) (by decide) rfl dX0_out_64 ?_
      refine lv_bipush (v := 8) hx hb dX0_out_65 (by decide) ?_
      refine lv_ishl hx hb dX0_out_67 ?_
      refine lv_iload hx hb dX0_out_68 (lv_at hl 0 rfl) ?_
      refine lv_ior hx hb dX0_out_70 ?_
      refine sx_iast (g := upd (sa_gt y i) (i / 4) ((((sa_gt y i) (i / 4)) <<< (8 &&& 31)) ||| (sa_ub (y (i / 4)) (i % 4)))) hx hb hK hP hD hS 0 1 rfl rfl (i / 4) rfl (by omega) (by decide) (fun _ _ => rfl) dX0_out_71 (fun H locs hP hD hS => ?_)
      have hP : va_P (dC, dI) vwCl [(qx, .inl (cx, 8, .inl (upd (sa_gt y i) (i / 4) ((((sa_gt y i) (i / 4)) <<< (8 &&& 31)) ||| (sa_ub (y (i / 4)) (i % 4)))))), (h, .inr (0, [.ref qk, .ref qb, .ref qo])), (qo, .inl (co, 32, .inl (sa_bs y)))] H := hP
      have hD : va_D A [(qx, .inl (cx, 8, .inl (upd (sa_gt y i) (i / 4) ((((sa_gt y i) (i / 4)) <<< (8 &&& 31)) ||| (sa_ub (y (i / 4)) (i % 4)))))), (h, .inr (0, [.ref qk, .ref qb, .ref qo])), (qo, .inl (co, 32, .inl (sa_bs y)))] := hD
      have hP := sx_ext hP 0 (sa_gt y (i + 1)) rfl (fun j _ => congrFun (sa_gt_S y i) j)
      have hD := hD.set (p := 0) (a := qx) (e := .inl (cx, 8, .inl (sa_gt y (i + 1)))) rfl
      have hP : va_P (dC, dI) vwCl [(qx, .inl (cx, 8, .inl (sa_gt y (i + 1)))), (h, .inr (0, [.ref qk, .ref qb, .ref qo])), (qo, .inl (co, 32, .inl (sa_bs y)))] H := hP
      have hD : va_D A [(qx, .inl (cx, 8, .inl (sa_gt y (i + 1)))), (h, .inr (0, [.ref qk, .ref qb, .ref qo])), (qo, .inl (co, 32, .inl (sa_bs y)))] := hD
      refine lv_iinc (v := nI (i + 1)) (lv' := [(3, .int (nI (i + 1))), (4, .int (sa_ub (y (i / 4)) (i % 4))), (0, .ref h), (1, .int t0), (2, .ref qx)]) hx hb dX0_out_72 hl (k := 4) rfl (nI_1 i) (by decide) rfl (fun ls hl => ?_)
      refine lv_goto (tgt := 7) hx hb dX0_out_75 (by decide) ?_
      exact ih (i + 1) (by omega) (by omega) H locs ls (hP.sub [1, 2, 0] rfl) (hD.sub [1, 2, 0] (by decide) rfl) hS (lv_sub hl [2, 3, 4, 0] rfl) kk
set_option maxHeartbeats 4000000 in
set_option maxRecDepth 100000 in
/-- out(o, turns): the words that the desk has put out -/
theorem mt_lout (l : Launch) (dC : Nat → ClassId) (dI : Nat → Nat → Nat) (sz : Nat) (h qk qb qo : Nat) (co : ClassId) (t0 : Int32) (y : Nat → Int32) : Met l yX0_out (ws_ yX0_out cX0_out 5 (some (.array .int))) ({ frames := 1, cells := 1, slots := 8, locals := 21 }) (va_Pc [.ref h, .int t0] (sx_Pre (dC, dI) [(h, .inr (0, [.ref qk, .ref qb, .ref qo])), (qo, .inl (co, 32, .inl (sa_bs y)))] [(co, .byte)] sz)) (va_Qr (fun _ : Unit => True) (fun _ a t => ∃ cx : ClassId, sx_PostK (dC, dI) (va_A [(h, .inr (0, [.ref qk, .ref qb, .ref qo])), (qo, .inl (co, 32, .inl (sa_bs y)))] sz) [(h, .inr (0, [.ref qk, .ref qb, .ref qo])), (qo, .inl (co, 32, .inl (sa_bs y))), (a, .inl (cx, 8, .inl y))] [(cx, .int)] t) (va_A [(h, .inr (0, [.ref qk, .ref qb, .ref qo])), (qo, .inl (co, 32, .inl (sa_bs y)))] sz)) 1 8 (va_A [(h, .inr (0, [.ref qk, .ref qb, .ref qo])), (qo, .inl (co, 32, .inl (sa_bs y)))] sz) := by
  refine Met.ofW (cc := cX0_out) (maxL := 5) (ret := (some (.array .int))) (by decide) rfl ?_
  intro p e s m args below meth c s₁ B hml hv
  obtain ⟨rfl, hsz, hP, hK, hD0⟩ := hv
  have hx := B.exec
  have hb := B.bytes
  have hr := B.returns
  have hts := atoms_spec (ws := ws_ yX0_out cX0_out 5 (some (.array .int))) B.pre
  have hts : ∀ w ∈ lw_all, w.before _ s = true := fun w h => hts w (List.mem_cons_of_mem _ h)
  have hown : s.vm.findClass RX0 = some m.cls := findClass_of_methodNamed B.named
  have hlocks := B.notSynchronized
  subst hsz
  have hD := hD0.self (sz := s.heap.size)
  generalize hAe : va_A [(h, .inr (0, [.ref qk, .ref qb, .ref qo])), (qo, .inl (co, 32, .inl (sa_bs y)))] s.heap.size = A at hD ⊢
  have hA : ∀ q : Nat, s.heap.size ≤ q → A q := fun q h => by rw [← hAe]; exact Or.inr h
  have hS : va_S A s.heap s.heap [] := va_S.rf
  have hP : va_P (dC, dI) vwCl [(h, .inr (0, [.ref qk, .ref qb, .ref qo])), (qo, .inl (co, 32, .inl (sa_bs y)))] s.heap := hP
  have hl := lv_entry ([.ref h, .int t0]) (n := 5) (Nat.le_of_ble_eq_true rfl)
  rw [lg_entry_eq]
  generalize (lg_sl ([.ref h, .int t0]) ++ List.replicate (5 - (lg_sl ([.ref h, .int t0])).length) Slot.unset).toArray = ls at hl ⊢
  have hl : lv_has ls 5 [(0, .ref h), (1, .int t0)] := hl
  refine lv_bipush (v := 8) hx hb dX0_out_0 (by decide) ?_
  refine va_newa (atype := .int) (a0 := (8, .inl (fun _ => 0))) (N' := 8) hx hb (hts _ q196) (ty := .int) rfl hK hP hD hS hA (fun _ => rfl) (by decide) (by decide) (by decide) (Nat.le_of_ble_eq_true rfl) (Nat.le_of_ble_eq_true rfl) dX0_out_2 (fun q_1 c_2 H hK hP hD hS => ?_)
  have hP : va_P (dC, dI) vwCl [(h, .inr (0, [.ref qk, .ref qb, .ref qo])), (qo, .inl (co, 32, .inl (sa_bs y))), (q_1, .inl (c_2, 8, .inl (fun _ => 0)))] H := hP
  have hD : va_D A [(h, .inr (0, [.ref qk, .ref qb, .ref qo])), (qo, .inl (co, 32, .inl (sa_bs y))), (q_1, .inl (c_2, 8, .inl (fun _ => 0)))] := hD
  have hK : va_K (dC, dI) vwCl [(co, .byte), (c_2, .int)] s := hK
  refine W.widen (k := 1) (n := 8) (Nat.le_of_ble_eq_true rfl) (Nat.le_of_ble_eq_true rfl) ?_
  refine lv_astore_n (lv' := [(2, .ref q_1), (0, .ref h), (1, .int t0)]) hx hb dX0_out_4 rfl hl (by decide) rfl (fun ls hl => ?_)
  refine lv_iconst (v := 0) hx hb dX0_out_5 (by decide) ?_
  refine lv_istore_n (lv' := [(3, .int 0), (2, .ref q_1), (0, .ref h), (1, .int t0)]) hx hb dX0_out_6 rfl hl (by decide) rfl (fun ls hl => ?_)
  have hP := sx_ext hP 2 (sa_gt y 0) rfl (fun j _ => by rw [sa_gt_0])
  have hD := hD.set (p := 2) (a := q_1) (e := .inl (c_2, 8, .inl (sa_gt y 0))) rfl
  have hP : va_P (dC, dI) vwCl [(h, .inr (0, [.ref qk, .ref qb, .ref qo])), (qo, .inl (co, 32, .inl (sa_bs y))), (q_1, .inl (c_2, 8, .inl (sa_gt y 0)))] H := hP
  have hD : va_D A [(h, .inr (0, [.ref qk, .ref qb, .ref qo])), (qo, .inl (co, 32, .inl (sa_bs y))), (q_1, .inl (c_2, 8, .inl (sa_gt y 0)))] := hD
  have hl : lv_has ls 5 [(3, .int (nI 0)), (2, .ref q_1), (0, .ref h), (1, .int t0)] := hl
  refine lp_out h qk qb qo q_1 co c_2 t0 y hx hb hml hown hts hA hK (Nat.le_of_ble_eq_true rfl) (Nat.le_of_ble_eq_true rfl) (Nat.le_of_ble_eq_true rfl) (Nat.le_of_ble_eq_true rfl) 33 0 (by omega) (by omega) _ _ _ (hP.sub [0, 1, 2] rfl) (hD.sub [0, 1, 2] (by decide) rfl) hS (lv_sub hl [2, 3, 1, 0] rfl) (fun H locs ls hP hD hS hl => ?_)
  have hP := sx_ext hP 2 y rfl (sa_gt_n y)
  have hD := hD.set (p := 2) (a := q_1) (e := .inl (c_2, 8, .inl y)) rfl
  have hP : va_P (dC, dI) vwCl [(h, .inr (0, [.ref qk, .ref qb, .ref qo])), (qo, .inl (co, 32, .inl (sa_bs y))), (q_1, .inl (c_2, 8, .inl y))] H := hP
  have hD : va_D A [(h, .inr (0, [.ref qk, .ref qb, .ref qo])), (qo, .inl (co, 32, .inl (sa_bs y))), (q_1, .inl (c_2, 8, .inl y))] := hD
  refine lv_aload_n hx hb dX0_out_78 rfl (lv_at hl 2 rfl) ?_
  have hK9 := hK.sub (tys' := [(c_2, .int)]) [1] rfl
  exact W.aret (v := .ref q_1) hx hb hr (Or.inr ⟨_, rfl⟩) (Or.inr ⟨_, rfl⟩) (fun t ht hW => ⟨⟨(), q_1, rfl, trivial, c_2, by rw [ht]; exact hP, hD, va_K.moved hW.alike hK9⟩, hS.F ht⟩) hS.2.2 dX0_out_79
end
section
/-! the claim's start: the two tables of constants, the interface's words -/
set_option maxRecDepth 100000 in
theorem sx_stK {args : Array Value} {s : State} (h : (Jvm.Cond.and given_1 narrow_1).before args s = true) (hl : (Cond.laysStatic "Shacal2Engine" "K" "[I").before args s = true) (hi : (Cond.initialized "Shacal2Engine").before args s = true) {A : Nat → Prop} (hA : ∀ a : Nat, a < s.heap.size → ¬ A a) : ∃ t : Nat, sx_St "Shacal2Engine" "K" t sa_rk A s := by
  have hs := flat_of_before _ h
  have harr : (Cond.arrayOf (.static "Shacal2Engine" "K" "[I") .int).before args s = true := hs _ (by decide +kernel)
  have hlen : (Term.length (.static "Shacal2Engine" "K" "[I")).eval args s none [] s = some (.int (Int32.ofNat 64)) := va_eqt (t := .length (.static "Shacal2Engine" "K" "[I")) (z := 64) (hs _ (by decide +kernel))
  have hel : ∀ j : Nat, j < 64 → (Term.elem (.static "Shacal2Engine" "K" "[I") (.int (Int32.ofNat j))).eval args s none [] s = some (.int (sa_rk j)) := fun j hj => va_eqt (hs _ (va_run (L := flatC (Jvm.Cond.and given_1 narrow_1)) (N := 64) (p := 9) (f := fun j => Cond.eq (.elem (.static "Shacal2Engine" "K" "[I") (.int (Int32.ofNat j))) (.int (sa_rk j))) (by decide +kernel) j hj))
  obtain ⟨t, ht, hT⟩ := va_Tof (N := 64) (f := fun j => Value.int (sa_rk j)) (by decide) harr hlen hel hA
  exact ⟨t, va_Zref hl hi ht hA, hT⟩
set_option maxRecDepth 100000 in
theorem sx_stR {args : Array Value} {s : State} (h : (Jvm.Cond.and given_1 narrow_1).before args s = true) (hl : (Cond.laysStatic "ShacalDeskLaw" "ROOTS" "[I").before args s = true) (hi : (Cond.initialized "ShacalDeskLaw").before args s = true) {A : Nat → Prop} (hA : ∀ a : Nat, a < s.heap.size → ¬ A a) : ∃ t : Nat, sx_St "ShacalDeskLaw" "ROOTS" t sa_rk A s := by
  have hs := flat_of_before _ h
  have harr : (Cond.arrayOf (.static "ShacalDeskLaw" "ROOTS" "[I") .int).before args s = true := hs _ (by decide +kernel)
  have hlen : (Term.length (.static "ShacalDeskLaw" "ROOTS" "[I")).eval args s none [] s = some (.int (Int32.ofNat 64)) := va_eqt (t := .length (.static "ShacalDeskLaw" "ROOTS" "[I")) (z := 64) (hs _ (by decide +kernel))
  have hel : ∀ j : Nat, j < 64 → (Term.elem (.static "ShacalDeskLaw" "ROOTS" "[I") (.int (Int32.ofNat j))).eval args s none [] s = some (.int (sa_rk j)) := fun j hj => va_eqt (hs _ (va_run (L := flatC (Jvm.Cond.and given_1 narrow_1)) (N := 64) (p := 76) (f := fun j => Cond.eq (.elem (.static "ShacalDeskLaw" "ROOTS" "[I") (.int (Int32.ofNat j))) (.int (sa_rk j))) (by decide +kernel) j hj))
  obtain ⟨t, ht, hT⟩ := va_Tof (N := 64) (f := fun j => Value.int (sa_rk j)) (by decide) harr hlen hel hA
  exact ⟨t, va_Zref hl hi ht hA, hT⟩
end
section
/-! the law's inner loop -/
set_option maxHeartbeats 4000000 in
set_option maxRecDepth 100000 in
/-- the law: twice the block is locked or opened, and perhaps fed back -/
theorem lz_in {p : Program} {l : Launch} {e : Env} {s : State} {m : MethodId} {args : Array Value} {below : List Frame} {meth : Method} {c : Code} {Q : State → Prop} {A : Nat → Prop} {dC : Nat → ClassId} {dI : Nat → Nat → Nat} {b L tK tR : Nat} {xs : Nat → Int32} (hL : L ≤ 96) (hx : p.tables.exec = Jvm.exec) (hb : c.code = cL_law) (hml : c.maxLocals = 13) (hown : s.vm.findClass RX0 = some m.cls) (hts : ∀ w ∈ lw_all, w.before args s = true) (hA : ∀ q : Nat, s.heap.size ≤ q → A q) (hX : va_X b L xs s s.heap) (hbl : b < s.heap.size) (hbA : ¬ A b) (hFw : sx_Fw s) (hEK : sx_St "Shacal2Engine" "K" tK sa_rk A s) (hER : sx_St "ShacalDeskLaw" "ROOTS" tR sa_rk A s) (h qk qb qo q1 k C0 S0 : Nat) (ck cb co c1 : ClassId) (f : Nat → Int32) (d1 d2 : Int32) (hk : k < 8) (hC0 : C0 + 36 ≤ 1200192) (hS0 : S0 + 1132 ≤ 5500522) :
    ∀ (n j : Nat), j ≤ 2 → 2 < j + n → ∀ (q2 : Nat) (c2 : ClassId) (x y : Nat → Int32) (H : Heap) (locs : List Loc) (ls : Array Slot), va_K (dC, dI) vwCl [(ck, .byte), (cb, .byte), (co, .byte), (c1, .int), (c2, .int)] s → va_P (dC, dI) vwCl [(h, .inr (0, [.ref qk, .ref qb, .ref qo])), (qk, .inl (ck, 64, .inl (sa_bs f))), (qb, .inl (cb, 32, .inl (sa_bs x))), (qo, .inl (co, 32, .inl (sa_bs y))), (q1, .inl (c1, 16, .inl f)), (q2, .inl (c2, 8, .inl x))] H → va_D A [(h, .inr (0, [.ref qk, .ref qb, .ref qo])), (qk, .inl (ck, 64, .inl (sa_bs f))), (qb, .inl (cb, 32, .inl (sa_bs x))), (qo, .inl (co, 32, .inl (sa_bs y))), (q1, .inl (c1, 16, .inl f)), (q2, .inl (c2, 8, .inl x))] → va_S A s.heap H locs → lv_has ls 13 [(0, .ref b), (1, .ref h), (2, .ref q1), (3, .ref q2), (4, .int (nI k)), (5, .int (nI (12 * k))), (6, .int d1), (7, .int d2), (8, .int (nI j))] → (∀ (q2 : Nat) (c2 : ClassId) (x y : Nat → Int32) (H : Heap) (locs : List Loc) (ls : Array Slot), va_K (dC, dI) vwCl [(ck, .byte), (cb, .byte), (co, .byte), (c1, .int), (c2, .int)] s → va_P (dC, dI) vwCl [(h, .inr (0, [.ref qk, .ref qb, .ref qo])), (qk, .inl (ck, 64, .inl (sa_bs f))), (qb, .inl (cb, 32, .inl (sa_bs x))), (qo, .inl (co, 32, .inl (sa_bs y))), (q1, .inl (c1, 16, .inl f)), (q2, .inl (c2, 8, .inl x))] H → va_D A [(h, .inr (0, [.ref qk, .ref qb, .ref qo])), (qk, .inl (ck, 64, .inl (sa_bs f))), (qb, .inl (cb, 32, .inl (sa_bs x))), (qo, .inl (co, 32, .inl (sa_bs y))), (q1, .inl (c1, 16, .inl f)), (q2, .inl (c2, 8, .inl x))] → va_S A s.heap H locs → lv_has ls 13 [(0, .ref b), (1, .ref h), (2, .ref q1), (3, .ref q2), (4, .int (nI k)), (5, .int (nI (12 * k))), (6, .int d1), (7, .int d2)] → W p l e room_1 s m args below meth c H locs (C0 + 36) (S0 + 1132) Q (F0 m 359 ls [])) → W p l e room_1 s m args below meth c H locs (C0 + 18 * j) (S0 + 566 * j) Q (F0 m 159 ls []) := by
  intro n
  induction n with
  | zero =>
    intro j h1 h2
    exact absurd h2 (by omega)
  | succ n ih =>
    intro j hj hj2 q2 c2 x y H locs ls hK hP hD hS hl kk
    have hrc : ∀ {n : Nat}, n ≤ 1200192 → n ≤ room_1.cells := fun h => h
    have hrs : ∀ {n : Nat}, n ≤ 5500522 → n ≤ room_1.slots := fun h => h
    refine lv_iload hx hb dL_law_159 (lv_at hl 8 rfl) ?_
    refine lv_iconst (v := 2) hx hb dL_law_161 (by decide) ?_
    refine lv_icmp_ge (tgt := 359) hx hb dL_law_162 (by decide) (fun hc => ?_) (fun hc => ?_)
    · have hc2 := (nI_leI (a := 2) (b := j) (by decide) (by omega)).mp hc
      obtain rfl : j = 2 := by omega
      exact kk q2 c2 x y H locs ls hK hP hD hS (lv_sub hl [0, 1, 2, 3, 4, 5, 6, 7] rfl)
    · have hlt : j < 2 := Nat.lt_of_not_le fun q => hc ((nI_leI (a := 2) (b := j) (by decide) (by omega)).mpr q)
      obtain ⟨CC, hCC⟩ : ∃ CC, CC = C0 + 18 * j := ⟨_, rfl⟩
      obtain ⟨SS, hSS⟩ : ∃ SS, SS = S0 + 566 * j := ⟨_, rfl⟩
      rw [← hCC, ← hSS]
      refine lv_aload_n hx hb dL_law_165 rfl (lv_at hl 0 rfl) ?_
      refine lv_iload hx hb dL_law_166 (lv_at hl 5 rfl) ?_
      refine lv_bipush (v := 10) hx hb dL_law_168 (by decide) ?_
      refine lv_iadd hx hb dL_law_170 ?_
      refine sx_top (v := nI ((12 * k) + 10)) (nI_add (12 * k) 10) ?_
      have hPc := hP.sub (ws' := []) [] rfl
      have hDc := hD.sub (ws' := []) [] (by decide) rfl
      have hKc := hK.sub (tys' := []) [] rfl
      have hFc := va_free (wc := []) hD hS hA [] rfl
      refine va_calli (va_runS (As := [.ref b, .int (nI ((12 * k) + 10))]) (rest := []) ⟨hx, hb, hml, hown, hts⟩ (mt_cell l dC dI H.size b L ((12 * k) + 10) xs hL (by omega)) (va_cwS 2 hts (lw_S q260 q261 q7 q262) rfl rfl rfl (by decide +kernel) ⟨Nat.le_of_ble_eq_true rfl, Nat.le_of_ble_eq_true rfl⟩) ⟨sx_blindX, fun U hU hW => ⟨rfl, sx_Sc.pass hX hbl hbA hS hU hW, sx_Pre.mk hPc hKc hDc hU hW⟩⟩ rfl rfl hl.1 rfl (lv_room (Nat.le_of_ble_eq_true rfl)) dL_law_171 ⟨hrc (by omega), hrs (by omega)⟩) hS (fun q _ h => hFc q h) hFc (fun r_1 u t H1 locs ht hvm hw hB hz1 hk1 hS => ?_)
      obtain ⟨hP1, hD1⟩ := hB
      rw [ht] at hP1
      obtain ⟨hP, hD⟩ := va_join (wr := [(h, .inr (0, [.ref qk, .ref qb, .ref qo])), (qk, .inl (ck, 64, .inl (sa_bs f))), (qb, .inl (cb, 32, .inl (sa_bs x))), (qo, .inl (co, 32, .inl (sa_bs y))), (q1, .inl (c1, 16, .inl f)), (q2, .inl (c2, 8, .inl x))]) (w1 := []) hP hD [] [0, 1, 2, 3, 4, 5] rfl rfl (by decide) (by decide) hk1 hFc hP1 hD1
      generalize H1 = H at hP hS ⊢
      have hP : va_P (dC, dI) vwCl [(h, .inr (0, [.ref qk, .ref qb, .ref qo])), (qk, .inl (ck, 64, .inl (sa_bs f))), (qb, .inl (cb, 32, .inl (sa_bs x))), (qo, .inl (co, 32, .inl (sa_bs y))), (q1, .inl (c1, 16, .inl f)), (q2, .inl (c2, 8, .inl x))] H := hP
      have hD : va_D A [(h, .inr (0, [.ref qk, .ref qb, .ref qo])), (qk, .inl (ck, 64, .inl (sa_bs f))), (qb, .inl (cb, 32, .inl (sa_bs x))), (qo, .inl (co, 32, .inl (sa_bs y))), (q1, .inl (c1, 16, .inl f)), (q2, .inl (c2, 8, .inl x))] := hD
      refine W.widen (k := CC + 0) (n := SS + 0) (by omega) (by omega) ?_
      subst hw
      refine lv_iload hx hb dL_law_174 (lv_at hl 8 rfl) ?_
      refine lv_ishr hx hb dL_law_176 ?_
      refine lv_iconst (v := 1) hx hb dL_law_177 (by decide) ?_
      refine lv_iand hx hb dL_law_178 ?_
      refine lv_iconst (v := 1) hx hb dL_law_179 (by decide) ?_
      refine lv_icmp_ne (tgt := 187) hx hb dL_law_180 (by decide) (fun ho => ?_) (fun ho => ?_)
      · refine lv_iconst (v := 0) hx hb dL_law_187 (by decide) ?_
        refine lv_istore (lv' := [(9, .int 0), (0, .ref b), (1, .ref h), (2, .ref q1), (3, .ref q2), (4, .int (nI k)), (5, .int (nI (12 * k))), (6, .int d1), (7, .int d2), (8, .int (nI j))]) hx hb dL_law_188 hl (by decide) rfl (fun ls hl => ?_)
        refine lv_aload_n hx hb dL_law_190 rfl (lv_at hl 3 rfl) ?_
        refine lv_aload_n hx hb dL_law_191 rfl (lv_at hl 4 rfl) ?_
        have hPc := hP.sub (ws' := [(q1, .inl (c1, 16, .inl f)), (q2, .inl (c2, 8, .inl x))]) [4, 5] rfl
        have hDc := hD.sub (ws' := [(q1, .inl (c1, 16, .inl f)), (q2, .inl (c2, 8, .inl x))]) [4, 5] (by decide) rfl
        have hKc := hK.sub (tys' := [(c1, .int), (c2, .int)]) [3, 4] rfl
        have hFc := va_free (wc := [(q1, .inl (c1, 16, .inl f)), (q2, .inl (c2, 8, .inl x))]) hD hS hA [4, 5] rfl
        refine va_callr (va_runS (As := [.ref q1, .ref q2]) (rest := []) ⟨hx, hb, hml, hown, hts⟩ (mt_locked l dC dI H.size q1 q2 tR c1 c2 f x) (va_cwS 2 hts (lw_S q263 q264 q7 q265) rfl rfl rfl (by decide +kernel) ⟨Nat.le_of_ble_eq_true rfl, Nat.le_of_ble_eq_true rfl⟩) ⟨sx_blindE, fun U hU hW => ⟨rfl, hER.pass hS hFc hU hW, sx_Pre.mk hPc hKc hDc hU hW⟩⟩ rfl rfl hl.1 rfl (lv_room (Nat.le_of_ble_eq_true rfl)) dL_law_192 ⟨hrc (by omega), hrs (by omega)⟩) hS (fun q _ h => hFc q h) hFc (fun u ra_2 t H1 locs ht hvm hw hB hz1 hk1 hS => ?_)
        obtain ⟨cx_3, hB⟩ := hB
        obtain ⟨hP1, hD1, hK1⟩ := hB
        rw [ht] at hP1
        obtain ⟨hP, hD⟩ := va_join (wr := [(h, .inr (0, [.ref qk, .ref qb, .ref qo])), (qk, .inl (ck, 64, .inl (sa_bs f))), (qb, .inl (cb, 32, .inl (sa_bs x))), (qo, .inl (co, 32, .inl (sa_bs y)))]) (w1 := [(q1, .inl (c1, 16, .inl f)), (q2, .inl (c2, 8, .inl x)), (ra_2, .inl (cx_3, 8, .inl (sa_enc f x)))]) hP hD [4, 5] [0, 1, 2, 3] rfl rfl (by decide) (by decide) hk1 hFc hP1 hD1
        have hK := hK.app (va_K.moved hvm.symm hK1)
        have hK : va_K (dC, dI) vwCl [(ck, .byte), (cb, .byte), (co, .byte), (c1, .int), (c2, .int), (cx_3, .int)] s := hK
        generalize H1 = H at hP hS ⊢
        have hP : va_P (dC, dI) vwCl [(h, .inr (0, [.ref qk, .ref qb, .ref qo])), (qk, .inl (ck, 64, .inl (sa_bs f))), (qb, .inl (cb, 32, .inl (sa_bs x))), (qo, .inl (co, 32, .inl (sa_bs y))), (q1, .inl (c1, 16, .inl f)), (q2, .inl (c2, 8, .inl x)), (ra_2, .inl (cx_3, 8, .inl (sa_enc f x)))] H := hP
        have hD : va_D A [(h, .inr (0, [.ref qk, .ref qb, .ref qo])), (qk, .inl (ck, 64, .inl (sa_bs f))), (qb, .inl (cb, 32, .inl (sa_bs x))), (qo, .inl (co, 32, .inl (sa_bs y))), (q1, .inl (c1, 16, .inl f)), (q2, .inl (c2, 8, .inl x)), (ra_2, .inl (cx_3, 8, .inl (sa_enc f x)))] := hD
        refine W.widen (k := CC + 2) (n := SS + 72) (by omega) (by omega) ?_
        refine lv_astore (lv' := [(10, .ref ra_2), (9, .int 0), (0, .ref b), (1, .ref h), (2, .ref q1), (3, .ref q2), (4, .int (nI k)), (5, .int (nI (12 * k))), (6, .int d1), (7, .int d2), (8, .int (nI j))]) hx hb dL_law_195 hl (by decide) rfl (fun ls hl => ?_)
        refine lv_iload hx hb dL_law_197 (lv_at hl 1 rfl) ?_
        refine lv_if_eq (tgt := 218) hx hb dL_law_199 (by decide) (fun hc => ?_) (fun hc => absurd hc (by decide))
        refine lv_aload_n hx hb dL_law_218 rfl (lv_at hl 3 rfl) ?_
        refine lv_aload_n hx hb dL_law_219 rfl (lv_at hl 2 rfl) ?_
        refine lv_iload hx hb dL_law_220 (lv_at hl 7 rfl) ?_
        refine lv_bipush (v := 11) hx hb dL_law_222 (by decide) ?_
        refine lv_iadd hx hb dL_law_224 ?_
        refine sx_top (v := nI ((12 * k) + 11)) (nI_add (12 * k) 11) ?_
        have hPc := hP.sub (ws' := []) [] rfl
        have hDc := hD.sub (ws' := []) [] (by decide) rfl
        have hKc := hK.sub (tys' := []) [] rfl
        have hFc := va_free (wc := []) hD hS hA [] rfl
        refine va_calli (va_runS (As := [.ref b, .int (nI ((12 * k) + 11))]) (rest := [.ref h]) ⟨hx, hb, hml, hown, hts⟩ (mt_cell l dC dI H.size b L ((12 * k) + 11) xs hL (by omega)) (va_cwS 2 hts (lw_S q260 q261 q7 q262) rfl rfl rfl (by decide +kernel) ⟨Nat.le_of_ble_eq_true rfl, Nat.le_of_ble_eq_true rfl⟩) ⟨sx_blindX, fun U hU hW => ⟨rfl, sx_Sc.pass hX hbl hbA hS hU hW, sx_Pre.mk hPc hKc hDc hU hW⟩⟩ rfl rfl hl.1 rfl (lv_room (Nat.le_of_ble_eq_true rfl)) dL_law_225 ⟨hrc (by omega), hrs (by omega)⟩) hS (fun q _ h => hFc q h) hFc (fun r_4 u t H1 locs ht hvm hw hB hz1 hk1 hS => ?_)
        obtain ⟨hP1, hD1⟩ := hB
        rw [ht] at hP1
        obtain ⟨hP, hD⟩ := va_join (wr := [(h, .inr (0, [.ref qk, .ref qb, .ref qo])), (qk, .inl (ck, 64, .inl (sa_bs f))), (qb, .inl (cb, 32, .inl (sa_bs x))), (qo, .inl (co, 32, .inl (sa_bs y))), (q1, .inl (c1, 16, .inl f)), (q2, .inl (c2, 8, .inl x)), (ra_2, .inl (cx_3, 8, .inl (sa_enc f x)))]) (w1 := []) hP hD [] [0, 1, 2, 3, 4, 5, 6] rfl rfl (by decide) (by decide) hk1 hFc hP1 hD1
        generalize H1 = H at hP hS ⊢
        have hP : va_P (dC, dI) vwCl [(h, .inr (0, [.ref qk, .ref qb, .ref qo])), (qk, .inl (ck, 64, .inl (sa_bs f))), (qb, .inl (cb, 32, .inl (sa_bs x))), (qo, .inl (co, 32, .inl (sa_bs y))), (q1, .inl (c1, 16, .inl f)), (q2, .inl (c2, 8, .inl x)), (ra_2, .inl (cx_3, 8, .inl (sa_enc f x)))] H := hP
        have hD : va_D A [(h, .inr (0, [.ref qk, .ref qb, .ref qo])), (qk, .inl (ck, 64, .inl (sa_bs f))), (qb, .inl (cb, 32, .inl (sa_bs x))), (qo, .inl (co, 32, .inl (sa_bs y))), (q1, .inl (c1, 16, .inl f)), (q2, .inl (c2, 8, .inl x)), (ra_2, .inl (cx_3, 8, .inl (sa_enc f x)))] := hD
        refine W.widen (k := CC + 2) (n := SS + 72) (by omega) (by omega) ?_
        subst hw
        have hPc := hP.sub (ws' := [(h, .inr (0, [.ref qk, .ref qb, .ref qo])), (qk, .inl (ck, 64, .inl (sa_bs f))), (qb, .inl (cb, 32, .inl (sa_bs x))), (qo, .inl (co, 32, .inl (sa_bs y)))]) [0, 1, 2, 3] rfl
        have hDc := hD.sub (ws' := [(h, .inr (0, [.ref qk, .ref qb, .ref qo])), (qk, .inl (ck, 64, .inl (sa_bs f))), (qb, .inl (cb, 32, .inl (sa_bs x))), (qo, .inl (co, 32, .inl (sa_bs y)))]) [0, 1, 2, 3] (by decide) rfl
        have hKc := hK.sub (tys' := [(ck, .byte), (cb, .byte), (co, .byte)]) [0, 1, 2] rfl
        have hFc := va_free (wc := [(h, .inr (0, [.ref qk, .ref qb, .ref qo])), (qk, .inl (ck, 64, .inl (sa_bs f))), (qb, .inl (cb, 32, .inl (sa_bs x))), (qo, .inl (co, 32, .inl (sa_bs y)))]) hD hS hA [0, 1, 2, 3] rfl
        refine va_callv (va_runV (As := [.int (sa_cl xs L ((12 * k) + 11))]) (rest := []) ⟨hx, hb, hml, hown, hts⟩ (mt_lock l dC dI H.size h qk qb qo tK ck cb co f x y (sa_cl xs L ((12 * k) + 11))) (cwV 1 hts (lw_V q39 q40 q41 q8 q42) rfl rfl rfl (by decide +kernel) ⟨Nat.le_of_ble_eq_true rfl, Nat.le_of_ble_eq_true rfl⟩) ⟨sx_blindF, va_recv hK hP (ci := 0) (q0 := 0) rfl rfl, fun U hU hW => ⟨rfl, hFw.moved hW.alike, hEK.pass hS hFc hU hW, sx_Pre.mk hPc hKc hDc hU hW⟩⟩ rfl rfl hl.1 rfl (lv_room (Nat.le_of_ble_eq_true rfl)) dL_law_228 ⟨hrc (by omega), hrs (by omega)⟩) hS (fun q _ h => hFc q h) hFc (fun u t H1 locs ht hvm hw hB hz1 hk1 hS => ?_)
        obtain ⟨hP1, hD1⟩ := hB
        rw [ht] at hP1
        obtain ⟨hP, hD⟩ := va_join (wr := [(q1, .inl (c1, 16, .inl f)), (q2, .inl (c2, 8, .inl x)), (ra_2, .inl (cx_3, 8, .inl (sa_enc f x)))]) (w1 := [(h, .inr (0, [.ref qk, .ref qb, .ref qo])), (qk, .inl (ck, 64, .inl (sa_bs f))), (qb, .inl (cb, 32, .inl (sa_bs x))), (qo, .inl (co, 32, .inl (sa_bs (sa_enc f x))))]) hP hD [0, 1, 2, 3] [4, 5, 6] rfl rfl (by decide) (by decide) hk1 hFc hP1 hD1
        generalize H1 = H at hP hS ⊢
        have hP : va_P (dC, dI) vwCl [(q1, .inl (c1, 16, .inl f)), (q2, .inl (c2, 8, .inl x)), (ra_2, .inl (cx_3, 8, .inl (sa_enc f x))), (h, .inr (0, [.ref qk, .ref qb, .ref qo])), (qk, .inl (ck, 64, .inl (sa_bs f))), (qb, .inl (cb, 32, .inl (sa_bs x))), (qo, .inl (co, 32, .inl (sa_bs (sa_enc f x))))] H := hP
        have hD : va_D A [(q1, .inl (c1, 16, .inl f)), (q2, .inl (c2, 8, .inl x)), (ra_2, .inl (cx_3, 8, .inl (sa_enc f x))), (h, .inr (0, [.ref qk, .ref qb, .ref qo])), (qk, .inl (ck, 64, .inl (sa_bs f))), (qb, .inl (cb, 32, .inl (sa_bs x))), (qo, .inl (co, 32, .inl (sa_bs (sa_enc f x))))] := hD
        refine W.widen (k := CC + 8) (n := SS + 275) (by omega) (by omega) ?_
        refine lv_aload_n hx hb dL_law_231 rfl (lv_at hl 3 rfl) ?_
        refine lv_aload_n hx hb dL_law_232 rfl (lv_at hl 2 rfl) ?_
        refine lv_iload hx hb dL_law_233 (lv_at hl 7 rfl) ?_
        refine lv_bipush (v := 11) hx hb dL_law_235 (by decide) ?_
        refine lv_iadd hx hb dL_law_237 ?_
        refine sx_top (v := nI ((12 * k) + 11)) (nI_add (12 * k) 11) ?_
        have hPc := hP.sub (ws' := []) [] rfl
        have hDc := hD.sub (ws' := []) [] (by decide) rfl
        have hKc := hK.sub (tys' := []) [] rfl
        have hFc := va_free (wc := []) hD hS hA [] rfl
        refine va_calli (va_runS (As := [.ref b, .int (nI ((12 * k) + 11))]) (rest := [.ref h]) ⟨hx, hb, hml, hown, hts⟩ (mt_cell l dC dI H.size b L ((12 * k) + 11) xs hL (by omega)) (va_cwS 2 hts (lw_S q260 q261 q7 q262) rfl rfl rfl (by decide +kernel) ⟨Nat.le_of_ble_eq_true rfl, Nat.le_of_ble_eq_true rfl⟩) ⟨sx_blindX, fun U hU hW => ⟨rfl, sx_Sc.pass hX hbl hbA hS hU hW, sx_Pre.mk hPc hKc hDc hU hW⟩⟩ rfl rfl hl.1 rfl (lv_room (Nat.le_of_ble_eq_true rfl)) dL_law_238 ⟨hrc (by omega), hrs (by omega)⟩) hS (fun q _ h => hFc q h) hFc (fun r_5 u t H1 locs ht hvm hw hB hz1 hk1 hS => ?_)
        obtain ⟨hP1, hD1⟩ := hB
        rw [ht] at hP1
        obtain ⟨hP, hD⟩ := va_join (wr := [(q1, .inl (c1, 16, .inl f)), (q2, .inl (c2, 8, .inl x)), (ra_2, .inl (cx_3, 8, .inl (sa_enc f x))), (h, .inr (0, [.ref qk, .ref qb, .ref qo])), (qk, .inl (ck, 64, .inl (sa_bs f))), (qb, .inl (cb, 32, .inl (sa_bs x))), (qo, .inl (co, 32, .inl (sa_bs (sa_enc f x))))]) (w1 := []) hP hD [] [0, 1, 2, 3, 4, 5, 6] rfl rfl (by decide) (by decide) hk1 hFc hP1 hD1
        generalize H1 = H at hP hS ⊢
        have hP : va_P (dC, dI) vwCl [(q1, .inl (c1, 16, .inl f)), (q2, .inl (c2, 8, .inl x)), (ra_2, .inl (cx_3, 8, .inl (sa_enc f x))), (h, .inr (0, [.ref qk, .ref qb, .ref qo])), (qk, .inl (ck, 64, .inl (sa_bs f))), (qb, .inl (cb, 32, .inl (sa_bs x))), (qo, .inl (co, 32, .inl (sa_bs (sa_enc f x))))] H := hP
        have hD : va_D A [(q1, .inl (c1, 16, .inl f)), (q2, .inl (c2, 8, .inl x)), (ra_2, .inl (cx_3, 8, .inl (sa_enc f x))), (h, .inr (0, [.ref qk, .ref qb, .ref qo])), (qk, .inl (ck, 64, .inl (sa_bs f))), (qb, .inl (cb, 32, .inl (sa_bs x))), (qo, .inl (co, 32, .inl (sa_bs (sa_enc f x))))] := hD
        refine W.widen (k := CC + 8) (n := SS + 275) (by omega) (by omega) ?_
        subst hw
        have hPc := hP.sub (ws' := [(h, .inr (0, [.ref qk, .ref qb, .ref qo])), (qo, .inl (co, 32, .inl (sa_bs (sa_enc f x))))]) [3, 6] rfl
        have hDc := hD.sub (ws' := [(h, .inr (0, [.ref qk, .ref qb, .ref qo])), (qo, .inl (co, 32, .inl (sa_bs (sa_enc f x))))]) [3, 6] (by decide) rfl
        have hKc := hK.sub (tys' := [(co, .byte)]) [2] rfl
        have hFc := va_free (wc := [(h, .inr (0, [.ref qk, .ref qb, .ref qo])), (qo, .inl (co, 32, .inl (sa_bs (sa_enc f x))))]) hD hS hA [3, 6] rfl
        refine va_callr (va_runS (As := [.ref h, .int (sa_cl xs L ((12 * k) + 11))]) (rest := []) ⟨hx, hb, hml, hown, hts⟩ (mt_lout l dC dI H.size h qk qb qo co (sa_cl xs L ((12 * k) + 11)) (sa_enc f x)) (va_cwS 2 hts (lw_S q271 q272 q7 q273) rfl rfl rfl (by decide +kernel) ⟨Nat.le_of_ble_eq_true rfl, Nat.le_of_ble_eq_true rfl⟩) ⟨sx_blind, fun U hU hW => ⟨rfl, sx_Pre.mk hPc hKc hDc hU hW⟩⟩ rfl rfl hl.1 rfl (lv_room (Nat.le_of_ble_eq_true rfl)) dL_law_241 ⟨hrc (by omega), hrs (by omega)⟩) hS (fun q _ h => hFc q h) hFc (fun u ra_6 t H1 locs ht hvm hw hB hz1 hk1 hS => ?_)
        obtain ⟨cx_7, hB⟩ := hB
        obtain ⟨hP1, hD1, hK1⟩ := hB
        rw [ht] at hP1
        obtain ⟨hP, hD⟩ := va_join (wr := [(q1, .inl (c1, 16, .inl f)), (q2, .inl (c2, 8, .inl x)), (ra_2, .inl (cx_3, 8, .inl (sa_enc f x))), (qk, .inl (ck, 64, .inl (sa_bs f))), (qb, .inl (cb, 32, .inl (sa_bs x)))]) (w1 := [(h, .inr (0, [.ref qk, .ref qb, .ref qo])), (qo, .inl (co, 32, .inl (sa_bs (sa_enc f x)))), (ra_6, .inl (cx_7, 8, .inl (sa_enc f x)))]) hP hD [3, 6] [0, 1, 2, 4, 5] rfl rfl (by decide) (by decide) hk1 hFc hP1 hD1
        have hK := hK.app (va_K.moved hvm.symm hK1)
        have hK : va_K (dC, dI) vwCl [(ck, .byte), (cb, .byte), (co, .byte), (c1, .int), (c2, .int), (cx_3, .int), (cx_7, .int)] s := hK
        generalize H1 = H at hP hS ⊢
        have hP : va_P (dC, dI) vwCl [(q1, .inl (c1, 16, .inl f)), (q2, .inl (c2, 8, .inl x)), (ra_2, .inl (cx_3, 8, .inl (sa_enc f x))), (qk, .inl (ck, 64, .inl (sa_bs f))), (qb, .inl (cb, 32, .inl (sa_bs x))), (h, .inr (0, [.ref qk, .ref qb, .ref qo])), (qo, .inl (co, 32, .inl (sa_bs (sa_enc f x)))), (ra_6, .inl (cx_7, 8, .inl (sa_enc f x)))] H := hP
        have hD : va_D A [(q1, .inl (c1, 16, .inl f)), (q2, .inl (c2, 8, .inl x)), (ra_2, .inl (cx_3, 8, .inl (sa_enc f x))), (qk, .inl (ck, 64, .inl (sa_bs f))), (qb, .inl (cb, 32, .inl (sa_bs x))), (h, .inr (0, [.ref qk, .ref qb, .ref qo])), (qo, .inl (co, 32, .inl (sa_bs (sa_enc f x)))), (ra_6, .inl (cx_7, 8, .inl (sa_enc f x)))] := hD
        refine W.widen (k := CC + 9) (n := SS + 283) (by omega) (by omega) ?_
        refine lv_astore (lv' := [(11, .ref ra_6), (10, .ref ra_2), (9, .int 0), (0, .ref b), (1, .ref h), (2, .ref q1), (3, .ref q2), (4, .int (nI k)), (5, .int (nI (12 * k))), (6, .int d1), (7, .int d2), (8, .int (nI j))]) hx hb dL_law_244 hl (by decide) rfl (fun ls hl => ?_)
        refine lv_aload hx hb dL_law_246 (lv_at hl 0 rfl) ?_
        refine va_alen (v := 8) hx hb hK hP 7 6 rfl rfl rfl dL_law_248 ?_
        refine lv_bipush (v := 8) hx hb dL_law_249 (by decide) ?_
        refine lv_icmp_ne (tgt := 285) hx hb dL_law_251 (by decide) (fun hc => absurd hc (by decide)) (fun hc => ?_)
        refine lv_iload hx hb dL_law_254 (lv_at hl 2 rfl) ?_
        refine lv_if_eq (tgt := 275) hx hb dL_law_256 (by decide) (fun hc => ?_) (fun hc => absurd hc (by decide))
        refine lv_aload hx hb dL_law_275 (lv_at hl 0 rfl) ?_
        refine lv_aload hx hb dL_law_277 (lv_at hl 1 rfl) ?_
        have hPc := hP.sub (ws' := [(ra_6, .inl (cx_7, 8, .inl (sa_enc f x))), (ra_2, .inl (cx_3, 8, .inl (sa_enc f x)))]) [7, 2] rfl
        have hDc := hD.sub (ws' := [(ra_6, .inl (cx_7, 8, .inl (sa_enc f x))), (ra_2, .inl (cx_3, 8, .inl (sa_enc f x)))]) [7, 2] (by decide) rfl
        have hKc := hK.sub (tys' := [(cx_7, .int), (cx_3, .int)]) [6, 5] rfl
        have hFc := va_free (wc := [(ra_6, .inl (cx_7, 8, .inl (sa_enc f x))), (ra_2, .inl (cx_3, 8, .inl (sa_enc f x)))]) hD hS hA [7, 2] rfl
        refine va_calli (va_runS (As := [.ref ra_6, .ref ra_2]) (rest := []) ⟨hx, hb, hml, hown, hts⟩ (mt_same l dC dI H.size ra_6 ra_2 cx_7 cx_3 (sa_enc f x) (sa_enc f x) (fun _ _ => rfl)) (va_cwS 2 hts (lw_S q278 q279 q7 q280) rfl rfl rfl (by decide +kernel) ⟨Nat.le_of_ble_eq_true rfl, Nat.le_of_ble_eq_true rfl⟩) ⟨sx_blind, fun U hU hW => ⟨rfl, sx_Pre.mk hPc hKc hDc hU hW⟩⟩ rfl rfl hl.1 rfl (lv_room (Nat.le_of_ble_eq_true rfl)) dL_law_279 ⟨hrc (by omega), hrs (by omega)⟩) hS (fun q _ h => hFc q h) hFc (fun r_8 u t H1 locs ht hvm hw hB hz1 hk1 hS => ?_)
        obtain ⟨hP1, hD1⟩ := hB
        rw [ht] at hP1
        obtain ⟨hP, hD⟩ := va_join (wr := [(q1, .inl (c1, 16, .inl f)), (q2, .inl (c2, 8, .inl x)), (qk, .inl (ck, 64, .inl (sa_bs f))), (qb, .inl (cb, 32, .inl (sa_bs x))), (h, .inr (0, [.ref qk, .ref qb, .ref qo])), (qo, .inl (co, 32, .inl (sa_bs (sa_enc f x))))]) (w1 := [(ra_6, .inl (cx_7, 8, .inl (sa_enc f x))), (ra_2, .inl (cx_3, 8, .inl (sa_enc f x)))]) hP hD [7, 2] [0, 1, 3, 4, 5, 6] rfl rfl (by decide) (by decide) hk1 hFc hP1 hD1
        generalize H1 = H at hP hS ⊢
        have hP : va_P (dC, dI) vwCl [(q1, .inl (c1, 16, .inl f)), (q2, .inl (c2, 8, .inl x)), (qk, .inl (ck, 64, .inl (sa_bs f))), (qb, .inl (cb, 32, .inl (sa_bs x))), (h, .inr (0, [.ref qk, .ref qb, .ref qo])), (qo, .inl (co, 32, .inl (sa_bs (sa_enc f x)))), (ra_6, .inl (cx_7, 8, .inl (sa_enc f x))), (ra_2, .inl (cx_3, 8, .inl (sa_enc f x)))] H := hP
        have hD : va_D A [(q1, .inl (c1, 16, .inl f)), (q2, .inl (c2, 8, .inl x)), (qk, .inl (ck, 64, .inl (sa_bs f))), (qb, .inl (cb, 32, .inl (sa_bs x))), (h, .inr (0, [.ref qk, .ref qb, .ref qo])), (qo, .inl (co, 32, .inl (sa_bs (sa_enc f x)))), (ra_6, .inl (cx_7, 8, .inl (sa_enc f x))), (ra_2, .inl (cx_3, 8, .inl (sa_enc f x)))] := hD
        refine W.widen (k := CC + 9) (n := SS + 283) (by omega) (by omega) ?_
        subst hw
        refine lv_if_ne (tgt := 287) hx hb dL_law_282 (by decide) (fun hc => ?_) (fun hc => absurd hc (by decide))
        refine lv_aload_n hx hb dL_law_287 rfl (lv_at hl 3 rfl) ?_
        refine lv_iload hx hb dL_law_288 (lv_at hl 8 rfl) ?_
        refine lv_bipush (v := 10) hx hb dL_law_290 (by decide) ?_
        refine lv_iadd hx hb dL_law_292 ?_
        refine sx_top (v := nI ((12 * k) + 10)) (nI_add (12 * k) 10) ?_
        have hPc := hP.sub (ws' := []) [] rfl
        have hDc := hD.sub (ws' := []) [] (by decide) rfl
        have hKc := hK.sub (tys' := []) [] rfl
        have hFc := va_free (wc := []) hD hS hA [] rfl
        refine va_calli (va_runS (As := [.ref b, .int (nI ((12 * k) + 10))]) (rest := []) ⟨hx, hb, hml, hown, hts⟩ (mt_cell l dC dI H.size b L ((12 * k) + 10) xs hL (by omega)) (va_cwS 2 hts (lw_S q260 q261 q7 q262) rfl rfl rfl (by decide +kernel) ⟨Nat.le_of_ble_eq_true rfl, Nat.le_of_ble_eq_true rfl⟩) ⟨sx_blindX, fun U hU hW => ⟨rfl, sx_Sc.pass hX hbl hbA hS hU hW, sx_Pre.mk hPc hKc hDc hU hW⟩⟩ rfl rfl hl.1 rfl (lv_room (Nat.le_of_ble_eq_true rfl)) dL_law_293 ⟨hrc (by omega), hrs (by omega)⟩) hS (fun q _ h => hFc q h) hFc (fun r_9 u t H1 locs ht hvm hw hB hz1 hk1 hS => ?_)
        obtain ⟨hP1, hD1⟩ := hB
        rw [ht] at hP1
        obtain ⟨hP, hD⟩ := va_join (wr := [(q1, .inl (c1, 16, .inl f)), (q2, .inl (c2, 8, .inl x)), (qk, .inl (ck, 64, .inl (sa_bs f))), (qb, .inl (cb, 32, .inl (sa_bs x))), (h, .inr (0, [.ref qk, .ref qb, .ref qo])), (qo, .inl (co, 32, .inl (sa_bs (sa_enc f x)))), (ra_6, .inl (cx_7, 8, .inl (sa_enc f x))), (ra_2, .inl (cx_3, 8, .inl (sa_enc f x)))]) (w1 := []) hP hD [] [0, 1, 2, 3, 4, 5, 6, 7] rfl rfl (by decide) (by decide) hk1 hFc hP1 hD1
        generalize H1 = H at hP hS ⊢
        have hP : va_P (dC, dI) vwCl [(q1, .inl (c1, 16, .inl f)), (q2, .inl (c2, 8, .inl x)), (qk, .inl (ck, 64, .inl (sa_bs f))), (qb, .inl (cb, 32, .inl (sa_bs x))), (h, .inr (0, [.ref qk, .ref qb, .ref qo])), (qo, .inl (co, 32, .inl (sa_bs (sa_enc f x)))), (ra_6, .inl (cx_7, 8, .inl (sa_enc f x))), (ra_2, .inl (cx_3, 8, .inl (sa_enc f x)))] H := hP
        have hD : va_D A [(q1, .inl (c1, 16, .inl f)), (q2, .inl (c2, 8, .inl x)), (qk, .inl (ck, 64, .inl (sa_bs f))), (qb, .inl (cb, 32, .inl (sa_bs x))), (h, .inr (0, [.ref qk, .ref qb, .ref qo])), (qo, .inl (co, 32, .inl (sa_bs (sa_enc f x)))), (ra_6, .inl (cx_7, 8, .inl (sa_enc f x))), (ra_2, .inl (cx_3, 8, .inl (sa_enc f x)))] := hD
        refine W.widen (k := CC + 9) (n := SS + 283) (by omega) (by omega) ?_
        subst hw
        refine lv_iconst (v := 2) hx hb dL_law_296 (by decide) ?_
        refine lv_iload hx hb dL_law_297 (lv_at hl 11 rfl) ?_
        refine lv_iadd hx hb dL_law_299 ?_
        refine sx_top (v := nI (2 + j)) (nI_add 2 j) ?_
        refine lv_ishr hx hb dL_law_300 ?_
        refine lv_iconst (v := 1) hx hb dL_law_301 (by decide) ?_
        refine lv_iand hx hb dL_law_302 ?_
        refine lv_iconst (v := 1) hx hb dL_law_303 (by decide) ?_
        refine lv_icmp_ne (tgt := 353) hx hb dL_law_304 (by decide) (fun ha => ?_) (fun ha => ?_)
        · refine lv_iinc (v := nI (j + 1)) (lv' := [(8, .int (nI (j + 1))), (11, .ref ra_6), (10, .ref ra_2), (9, .int 0), (0, .ref b), (1, .ref h), (2, .ref q1), (3, .ref q2), (4, .int (nI k)), (5, .int (nI (12 * k))), (6, .int d1), (7, .int d2)]) hx hb dL_law_353 hl (k := 11) rfl (nI_1 j) (by decide) rfl (fun ls hl => ?_)
          refine lv_goto (tgt := 159) hx hb dL_law_356 (by decide) ?_
          refine W.widen (k := C0 + 18 * (j + 1)) (n := S0 + 566 * (j + 1)) (by omega) (by omega) ?_
          exact ih (j + 1) (by omega) (by omega) q2 c2 x (sa_enc f x) H locs ls (hK.sub [0, 1, 2, 3, 4] rfl) (hP.sub [4, 2, 3, 5, 0, 1] rfl) (hD.sub [4, 2, 3, 5, 0, 1] (by decide) rfl) hS (lv_sub hl [4, 5, 6, 7, 8, 9, 10, 11, 0] rfl) kk
        · refine lv_aload_n hx hb dL_law_307 rfl (lv_at hl 4 rfl) ?_
          have hPc := hP.sub (ws' := [(h, .inr (0, [.ref qk, .ref qb, .ref qo])), (qb, .inl (cb, 32, .inl (sa_bs x))), (qo, .inl (co, 32, .inl (sa_bs (sa_enc f x))))]) [4, 3, 5] rfl
          have hDc := hD.sub (ws' := [(h, .inr (0, [.ref qk, .ref qb, .ref qo])), (qb, .inl (cb, 32, .inl (sa_bs x))), (qo, .inl (co, 32, .inl (sa_bs (sa_enc f x))))]) [4, 3, 5] (by decide) rfl
          have hKc := hK.sub (tys' := [(cb, .byte), (co, .byte)]) [1, 2] rfl
          have hFc := va_free (wc := [(h, .inr (0, [.ref qk, .ref qb, .ref qo])), (qb, .inl (cb, 32, .inl (sa_bs x))), (qo, .inl (co, 32, .inl (sa_bs (sa_enc f x))))]) hD hS hA [4, 3, 5] rfl
          refine va_callv (va_runV (As := []) (rest := []) ⟨hx, hb, hml, hown, hts⟩ (mt_again l dC dI H.size h qk qb qo cb co x (sa_enc f x)) (cwV 0 hts (lw_V q256 q257 q258 q8 q259) rfl rfl rfl (by decide +kernel) ⟨Nat.le_of_ble_eq_true rfl, Nat.le_of_ble_eq_true rfl⟩) ⟨sx_blind, va_recv hK hP (ci := 0) (q0 := 4) rfl rfl, fun U hU hW => ⟨rfl, sx_Pre.mk hPc hKc hDc hU hW⟩⟩ rfl rfl hl.1 rfl (lv_room (Nat.le_of_ble_eq_true rfl)) dL_law_308 ⟨hrc (by omega), hrs (by omega)⟩) hS (fun q _ h => hFc q h) hFc (fun u t H1 locs ht hvm hw hB hz1 hk1 hS => ?_)
          obtain ⟨hP1, hD1⟩ := hB
          rw [ht] at hP1
          obtain ⟨hP, hD⟩ := va_join (wr := [(q1, .inl (c1, 16, .inl f)), (q2, .inl (c2, 8, .inl x)), (qk, .inl (ck, 64, .inl (sa_bs f))), (ra_6, .inl (cx_7, 8, .inl (sa_enc f x))), (ra_2, .inl (cx_3, 8, .inl (sa_enc f x)))]) (w1 := [(h, .inr (0, [.ref qk, .ref qb, .ref qo])), (qb, .inl (cb, 32, .inl (sa_bs (sa_enc f x)))), (qo, .inl (co, 32, .inl (sa_bs (sa_enc f x))))]) hP hD [4, 3, 5] [0, 1, 2, 6, 7] rfl rfl (by decide) (by decide) hk1 hFc hP1 hD1
          generalize H1 = H at hP hS ⊢
          have hP : va_P (dC, dI) vwCl [(q1, .inl (c1, 16, .inl f)), (q2, .inl (c2, 8, .inl x)), (qk, .inl (ck, 64, .inl (sa_bs f))), (ra_6, .inl (cx_7, 8, .inl (sa_enc f x))), (ra_2, .inl (cx_3, 8, .inl (sa_enc f x))), (h, .inr (0, [.ref qk, .ref qb, .ref qo])), (qb, .inl (cb, 32, .inl (sa_bs (sa_enc f x)))), (qo, .inl (co, 32, .inl (sa_bs (sa_enc f x))))] H := hP
          have hD : va_D A [(q1, .inl (c1, 16, .inl f)), (q2, .inl (c2, 8, .inl x)), (qk, .inl (ck, 64, .inl (sa_bs f))), (ra_6, .inl (cx_7, 8, .inl (sa_enc f x))), (ra_2, .inl (cx_3, 8, .inl (sa_enc f x))), (h, .inr (0, [.ref qk, .ref qb, .ref qo])), (qb, .inl (cb, 32, .inl (sa_bs (sa_enc f x)))), (qo, .inl (co, 32, .inl (sa_bs (sa_enc f x))))] := hD
          refine W.widen (k := CC + 9) (n := SS + 283) (by omega) (by omega) ?_
          refine lv_aload_n hx hb dL_law_311 rfl (lv_at hl 6 rfl) ?_
          refine lv_astore (lv' := [(12, .ref q2), (11, .ref ra_6), (10, .ref ra_2), (9, .int 0), (0, .ref b), (1, .ref h), (2, .ref q1), (3, .ref q2), (4, .int (nI k)), (5, .int (nI (12 * k))), (6, .int d1), (7, .int d2), (8, .int (nI j))]) hx hb dL_law_312 hl (by decide) rfl (fun ls hl => ?_)
          refine lv_aload hx hb dL_law_314 (lv_at hl 1 rfl) ?_
          refine lv_astore_n (lv' := [(3, .ref ra_6), (12, .ref q2), (11, .ref ra_6), (10, .ref ra_2), (9, .int 0), (0, .ref b), (1, .ref h), (2, .ref q1), (4, .int (nI k)), (5, .int (nI (12 * k))), (6, .int d1), (7, .int d2), (8, .int (nI j))]) hx hb dL_law_316 rfl hl (by decide) rfl (fun ls hl => ?_)
          refine lv_iload hx hb dL_law_317 (lv_at hl 4 rfl) ?_
          refine lv_if_eq (tgt := 331) hx hb dL_law_319 (by decide) (fun hc => ?_) (fun hc => absurd hc (by decide))
          refine lv_aload_n hx hb dL_law_331 rfl (lv_at hl 6 rfl) ?_
          refine lv_iload hx hb dL_law_332 (lv_at hl 10 rfl) ?_
          have hPc := hP.sub (ws' := [(h, .inr (0, [.ref qk, .ref qb, .ref qo])), (qk, .inl (ck, 64, .inl (sa_bs f))), (qb, .inl (cb, 32, .inl (sa_bs (sa_enc f x)))), (qo, .inl (co, 32, .inl (sa_bs (sa_enc f x))))]) [5, 2, 6, 7] rfl
          have hDc := hD.sub (ws' := [(h, .inr (0, [.ref qk, .ref qb, .ref qo])), (qk, .inl (ck, 64, .inl (sa_bs f))), (qb, .inl (cb, 32, .inl (sa_bs (sa_enc f x)))), (qo, .inl (co, 32, .inl (sa_bs (sa_enc f x))))]) [5, 2, 6, 7] (by decide) rfl
          have hKc := hK.sub (tys' := [(ck, .byte), (cb, .byte), (co, .byte)]) [0, 1, 2] rfl
          have hFc := va_free (wc := [(h, .inr (0, [.ref qk, .ref qb, .ref qo])), (qk, .inl (ck, 64, .inl (sa_bs f))), (qb, .inl (cb, 32, .inl (sa_bs (sa_enc f x)))), (qo, .inl (co, 32, .inl (sa_bs (sa_enc f x))))]) hD hS hA [5, 2, 6, 7] rfl
          refine va_callv (va_runV (As := [.int d1]) (rest := []) ⟨hx, hb, hml, hown, hts⟩ (mt_open l dC dI H.size h qk qb qo tK ck cb co f (sa_enc f x) (sa_enc f x) d1) (cwV 1 hts (lw_V q252 q253 q254 q8 q255) rfl rfl rfl (by decide +kernel) ⟨Nat.le_of_ble_eq_true rfl, Nat.le_of_ble_eq_true rfl⟩) ⟨sx_blindF, va_recv hK hP (ci := 0) (q0 := 5) rfl rfl, fun U hU hW => ⟨rfl, hFw.moved hW.alike, hEK.pass hS hFc hU hW, sx_Pre.mk hPc hKc hDc hU hW⟩⟩ rfl rfl hl.1 rfl (lv_room (Nat.le_of_ble_eq_true rfl)) dL_law_334 ⟨hrc (by omega), hrs (by omega)⟩) hS (fun q _ h => hFc q h) hFc (fun u t H1 locs ht hvm hw hB hz1 hk1 hS => ?_)
          obtain ⟨hP1, hD1⟩ := hB
          rw [ht] at hP1
          obtain ⟨hP, hD⟩ := va_join (wr := [(q1, .inl (c1, 16, .inl f)), (q2, .inl (c2, 8, .inl x)), (ra_6, .inl (cx_7, 8, .inl (sa_enc f x))), (ra_2, .inl (cx_3, 8, .inl (sa_enc f x)))]) (w1 := [(h, .inr (0, [.ref qk, .ref qb, .ref qo])), (qk, .inl (ck, 64, .inl (sa_bs f))), (qb, .inl (cb, 32, .inl (sa_bs (sa_enc f x)))), (qo, .inl (co, 32, .inl (sa_bs (sa_dec f (sa_enc f x)))))]) hP hD [5, 2, 6, 7] [0, 1, 3, 4] rfl rfl (by decide) (by decide) hk1 hFc hP1 hD1
          generalize H1 = H at hP hS ⊢
          have hP : va_P (dC, dI) vwCl [(q1, .inl (c1, 16, .inl f)), (q2, .inl (c2, 8, .inl x)), (ra_6, .inl (cx_7, 8, .inl (sa_enc f x))), (ra_2, .inl (cx_3, 8, .inl (sa_enc f x))), (h, .inr (0, [.ref qk, .ref qb, .ref qo])), (qk, .inl (ck, 64, .inl (sa_bs f))), (qb, .inl (cb, 32, .inl (sa_bs (sa_enc f x)))), (qo, .inl (co, 32, .inl (sa_bs (sa_dec f (sa_enc f x)))))] H := hP
          have hD : va_D A [(q1, .inl (c1, 16, .inl f)), (q2, .inl (c2, 8, .inl x)), (ra_6, .inl (cx_7, 8, .inl (sa_enc f x))), (ra_2, .inl (cx_3, 8, .inl (sa_enc f x))), (h, .inr (0, [.ref qk, .ref qb, .ref qo])), (qk, .inl (ck, 64, .inl (sa_bs f))), (qb, .inl (cb, 32, .inl (sa_bs (sa_enc f x)))), (qo, .inl (co, 32, .inl (sa_bs (sa_dec f (sa_enc f x)))))] := hD
          refine W.widen (k := CC + 15) (n := SS + 486) (by omega) (by omega) ?_
          refine lv_aload_n hx hb dL_law_337 rfl (lv_at hl 6 rfl) ?_
          refine lv_iload hx hb dL_law_338 (lv_at hl 11 rfl) ?_
          have hPc := hP.sub (ws' := [(h, .inr (0, [.ref qk, .ref qb, .ref qo])), (qo, .inl (co, 32, .inl (sa_bs (sa_dec f (sa_enc f x)))))]) [4, 7] rfl
          have hDc := hD.sub (ws' := [(h, .inr (0, [.ref qk, .ref qb, .ref qo])), (qo, .inl (co, 32, .inl (sa_bs (sa_dec f (sa_enc f x)))))]) [4, 7] (by decide) rfl
          have hKc := hK.sub (tys' := [(co, .byte)]) [2] rfl
          have hFc := va_free (wc := [(h, .inr (0, [.ref qk, .ref qb, .ref qo])), (qo, .inl (co, 32, .inl (sa_bs (sa_dec f (sa_enc f x)))))]) hD hS hA [4, 7] rfl
          refine va_callr (va_runS (As := [.ref h, .int d2]) (rest := []) ⟨hx, hb, hml, hown, hts⟩ (mt_lout l dC dI H.size h qk qb qo co d2 (sa_dec f (sa_enc f x))) (va_cwS 2 hts (lw_S q271 q272 q7 q273) rfl rfl rfl (by decide +kernel) ⟨Nat.le_of_ble_eq_true rfl, Nat.le_of_ble_eq_true rfl⟩) ⟨sx_blind, fun U hU hW => ⟨rfl, sx_Pre.mk hPc hKc hDc hU hW⟩⟩ rfl rfl hl.1 rfl (lv_room (Nat.le_of_ble_eq_true rfl)) dL_law_340 ⟨hrc (by omega), hrs (by omega)⟩) hS (fun q _ h => hFc q h) hFc (fun u ra_10 t H1 locs ht hvm hw hB hz1 hk1 hS => ?_)
          obtain ⟨cx_11, hB⟩ := hB
          obtain ⟨hP1, hD1, hK1⟩ := hB
          rw [ht] at hP1
          obtain ⟨hP, hD⟩ := va_join (wr := [(q1, .inl (c1, 16, .inl f)), (q2, .inl (c2, 8, .inl x)), (ra_6, .inl (cx_7, 8, .inl (sa_enc f x))), (ra_2, .inl (cx_3, 8, .inl (sa_enc f x))), (qk, .inl (ck, 64, .inl (sa_bs f))), (qb, .inl (cb, 32, .inl (sa_bs (sa_enc f x))))]) (w1 := [(h, .inr (0, [.ref qk, .ref qb, .ref qo])), (qo, .inl (co, 32, .inl (sa_bs (sa_dec f (sa_enc f x))))), (ra_10, .inl (cx_11, 8, .inl (sa_dec f (sa_enc f x))))]) hP hD [4, 7] [0, 1, 2, 3, 5, 6] rfl rfl (by decide) (by decide) hk1 hFc hP1 hD1
          have hK := hK.app (va_K.moved hvm.symm hK1)
          have hK : va_K (dC, dI) vwCl [(ck, .byte), (cb, .byte), (co, .byte), (c1, .int), (c2, .int), (cx_3, .int), (cx_7, .int), (cx_11, .int)] s := hK
          generalize H1 = H at hP hS ⊢
          have hP : va_P (dC, dI) vwCl [(q1, .inl (c1, 16, .inl f)), (q2, .inl (c2, 8, .inl x)), (ra_6, .inl (cx_7, 8, .inl (sa_enc f x))), (ra_2, .inl (cx_3, 8, .inl (sa_enc f x))), (qk, .inl (ck, 64, .inl (sa_bs f))), (qb, .inl (cb, 32, .inl (sa_bs (sa_enc f x)))), (h, .inr (0, [.ref qk, .ref qb, .ref qo])), (qo, .inl (co, 32, .inl (sa_bs (sa_dec f (sa_enc f x))))), (ra_10, .inl (cx_11, 8, .inl (sa_dec f (sa_enc f x))))] H := hP
          have hD : va_D A [(q1, .inl (c1, 16, .inl f)), (q2, .inl (c2, 8, .inl x)), (ra_6, .inl (cx_7, 8, .inl (sa_enc f x))), (ra_2, .inl (cx_3, 8, .inl (sa_enc f x))), (qk, .inl (ck, 64, .inl (sa_bs f))), (qb, .inl (cb, 32, .inl (sa_bs (sa_enc f x)))), (h, .inr (0, [.ref qk, .ref qb, .ref qo])), (qo, .inl (co, 32, .inl (sa_bs (sa_dec f (sa_enc f x))))), (ra_10, .inl (cx_11, 8, .inl (sa_dec f (sa_enc f x))))] := hD
          refine W.widen (k := CC + 16) (n := SS + 494) (by omega) (by omega) ?_
          refine lv_aload hx hb dL_law_343 (lv_at hl 1 rfl) ?_
          have hPc := hP.sub (ws' := [(ra_10, .inl (cx_11, 8, .inl (sa_dec f (sa_enc f x)))), (q2, .inl (c2, 8, .inl x))]) [8, 1] rfl
          have hDc := hD.sub (ws' := [(ra_10, .inl (cx_11, 8, .inl (sa_dec f (sa_enc f x)))), (q2, .inl (c2, 8, .inl x))]) [8, 1] (by decide) rfl
          have hKc := hK.sub (tys' := [(cx_11, .int), (c2, .int)]) [7, 4] rfl
          have hFc := va_free (wc := [(ra_10, .inl (cx_11, 8, .inl (sa_dec f (sa_enc f x)))), (q2, .inl (c2, 8, .inl x))]) hD hS hA [8, 1] rfl
          refine va_calli (va_runS (As := [.ref ra_10, .ref q2]) (rest := []) ⟨hx, hb, hml, hown, hts⟩ (mt_same l dC dI H.size ra_10 q2 cx_11 c2 (sa_dec f (sa_enc f x)) x (sa_dec_enc f x)) (va_cwS 2 hts (lw_S q278 q279 q7 q280) rfl rfl rfl (by decide +kernel) ⟨Nat.le_of_ble_eq_true rfl, Nat.le_of_ble_eq_true rfl⟩) ⟨sx_blind, fun U hU hW => ⟨rfl, sx_Pre.mk hPc hKc hDc hU hW⟩⟩ rfl rfl hl.1 rfl (lv_room (Nat.le_of_ble_eq_true rfl)) dL_law_345 ⟨hrc (by omega), hrs (by omega)⟩) hS (fun q _ h => hFc q h) hFc (fun r_12 u t H1 locs ht hvm hw hB hz1 hk1 hS => ?_)
          obtain ⟨hP1, hD1⟩ := hB
          rw [ht] at hP1
          obtain ⟨hP, hD⟩ := va_join (wr := [(q1, .inl (c1, 16, .inl f)), (ra_6, .inl (cx_7, 8, .inl (sa_enc f x))), (ra_2, .inl (cx_3, 8, .inl (sa_enc f x))), (qk, .inl (ck, 64, .inl (sa_bs f))), (qb, .inl (cb, 32, .inl (sa_bs (sa_enc f x)))), (h, .inr (0, [.ref qk, .ref qb, .ref qo])), (qo, .inl (co, 32, .inl (sa_bs (sa_dec f (sa_enc f x)))))]) (w1 := [(ra_10, .inl (cx_11, 8, .inl (sa_dec f (sa_enc f x)))), (q2, .inl (c2, 8, .inl x))]) hP hD [8, 1] [0, 2, 3, 4, 5, 6, 7] rfl rfl (by decide) (by decide) hk1 hFc hP1 hD1
          generalize H1 = H at hP hS ⊢
          have hP : va_P (dC, dI) vwCl [(q1, .inl (c1, 16, .inl f)), (ra_6, .inl (cx_7, 8, .inl (sa_enc f x))), (ra_2, .inl (cx_3, 8, .inl (sa_enc f x))), (qk, .inl (ck, 64, .inl (sa_bs f))), (qb, .inl (cb, 32, .inl (sa_bs (sa_enc f x)))), (h, .inr (0, [.ref qk, .ref qb, .ref qo])), (qo, .inl (co, 32, .inl (sa_bs (sa_dec f (sa_enc f x))))), (ra_10, .inl (cx_11, 8, .inl (sa_dec f (sa_enc f x)))), (q2, .inl (c2, 8, .inl x))] H := hP
          have hD : va_D A [(q1, .inl (c1, 16, .inl f)), (ra_6, .inl (cx_7, 8, .inl (sa_enc f x))), (ra_2, .inl (cx_3, 8, .inl (sa_enc f x))), (qk, .inl (ck, 64, .inl (sa_bs f))), (qb, .inl (cb, 32, .inl (sa_bs (sa_enc f x)))), (h, .inr (0, [.ref qk, .ref qb, .ref qo])), (qo, .inl (co, 32, .inl (sa_bs (sa_dec f (sa_enc f x))))), (ra_10, .inl (cx_11, 8, .inl (sa_dec f (sa_enc f x)))), (q2, .inl (c2, 8, .inl x))] := hD
          refine W.widen (k := CC + 16) (n := SS + 494) (by omega) (by omega) ?_
          subst hw
          refine lv_if_ne (tgt := 353) hx hb dL_law_348 (by decide) (fun hc => ?_) (fun hc => absurd hc (by decide))
          refine lv_iinc (v := nI (j + 1)) (lv' := [(8, .int (nI (j + 1))), (3, .ref ra_6), (12, .ref q2), (11, .ref ra_6), (10, .ref ra_2), (9, .int 0), (0, .ref b), (1, .ref h), (2, .ref q1), (4, .int (nI k)), (5, .int (nI (12 * k))), (6, .int d1), (7, .int d2)]) hx hb dL_law_353 hl (k := 12) rfl (nI_1 j) (by decide) rfl (fun ls hl => ?_)
          refine lv_goto (tgt := 159) hx hb dL_law_356 (by decide) ?_
          refine W.widen (k := C0 + 18 * (j + 1)) (n := S0 + 566 * (j + 1)) (by omega) (by omega) ?_
          exact ih (j + 1) (by omega) (by omega) ra_6 cx_7 (sa_enc f x) (sa_dec f (sa_enc f x)) H locs ls (hK.sub [0, 1, 2, 3, 6] rfl) (hP.sub [5, 3, 4, 6, 0, 1] rfl) (hD.sub [5, 3, 4, 6, 0, 1] (by decide) rfl) hS (lv_sub hl [6, 7, 8, 1, 9, 10, 11, 12, 0] rfl) kk
      · refine lv_iconst (v := 1) hx hb dL_law_183 (by decide) ?_
        refine lv_goto (tgt := 188) hx hb dL_law_184 (by decide) ?_
        refine lv_istore (lv' := [(9, .int 1), (0, .ref b), (1, .ref h), (2, .ref q1), (3, .ref q2), (4, .int (nI k)), (5, .int (nI (12 * k))), (6, .int d1), (7, .int d2), (8, .int (nI j))]) hx hb dL_law_188 hl (by decide) rfl (fun ls hl => ?_)
        refine lv_aload_n hx hb dL_law_190 rfl (lv_at hl 3 rfl) ?_
        refine lv_aload_n hx hb dL_law_191 rfl (lv_at hl 4 rfl) ?_
        have hPc := hP.sub (ws' := [(q1, .inl (c1, 16, .inl f)), (q2, .inl (c2, 8, .inl x))]) [4, 5] rfl
        have hDc := hD.sub (ws' := [(q1, .inl (c1, 16, .inl f)), (q2, .inl (c2, 8, .inl x))]) [4, 5] (by decide) rfl
        have hKc := hK.sub (tys' := [(c1, .int), (c2, .int)]) [3, 4] rfl
        have hFc := va_free (wc := [(q1, .inl (c1, 16, .inl f)), (q2, .inl (c2, 8, .inl x))]) hD hS hA [4, 5] rfl
        refine va_callr (va_runS (As := [.ref q1, .ref q2]) (rest := []) ⟨hx, hb, hml, hown, hts⟩ (mt_locked l dC dI H.size q1 q2 tR c1 c2 f x) (va_cwS 2 hts (lw_S q263 q264 q7 q265) rfl rfl rfl (by decide +kernel) ⟨Nat.le_of_ble_eq_true rfl, Nat.le_of_ble_eq_true rfl⟩) ⟨sx_blindE, fun U hU hW => ⟨rfl, hER.pass hS hFc hU hW, sx_Pre.mk hPc hKc hDc hU hW⟩⟩ rfl rfl hl.1 rfl (lv_room (Nat.le_of_ble_eq_true rfl)) dL_law_192 ⟨hrc (by omega), hrs (by omega)⟩) hS (fun q _ h => hFc q h) hFc (fun u ra_2 t H1 locs ht hvm hw hB hz1 hk1 hS => ?_)
        obtain ⟨cx_3, hB⟩ := hB
        obtain ⟨hP1, hD1, hK1⟩ := hB
        rw [ht] at hP1
        obtain ⟨hP, hD⟩ := va_join (wr := [(h, .inr (0, [.ref qk, .ref qb, .ref qo])), (qk, .inl (ck, 64, .inl (sa_bs f))), (qb, .inl (cb, 32, .inl (sa_bs x))), (qo, .inl (co, 32, .inl (sa_bs y)))]) (w1 := [(q1, .inl (c1, 16, .inl f)), (q2, .inl (c2, 8, .inl x)), (ra_2, .inl (cx_3, 8, .inl (sa_enc f x)))]) hP hD [4, 5] [0, 1, 2, 3] rfl rfl (by decide) (by decide) hk1 hFc hP1 hD1
        have hK := hK.app (va_K.moved hvm.symm hK1)
        have hK : va_K (dC, dI) vwCl [(ck, .byte), (cb, .byte), (co, .byte), (c1, .int), (c2, .int), (cx_3, .int)] s := hK
        generalize H1 = H at hP hS ⊢
        have hP : va_P (dC, dI) vwCl [(h, .inr (0, [.ref qk, .ref qb, .ref qo])), (qk, .inl (ck, 64, .inl (sa_bs f))), (qb, .inl (cb, 32, .inl (sa_bs x))), (qo, .inl (co, 32, .inl (sa_bs y))), (q1, .inl (c1, 16, .inl f)), (q2, .inl (c2, 8, .inl x)), (ra_2, .inl (cx_3, 8, .inl (sa_enc f x)))] H := hP
        have hD : va_D A [(h, .inr (0, [.ref qk, .ref qb, .ref qo])), (qk, .inl (ck, 64, .inl (sa_bs f))), (qb, .inl (cb, 32, .inl (sa_bs x))), (qo, .inl (co, 32, .inl (sa_bs y))), (q1, .inl (c1, 16, .inl f)), (q2, .inl (c2, 8, .inl x)), (ra_2, .inl (cx_3, 8, .inl (sa_enc f x)))] := hD
        refine W.widen (k := CC + 2) (n := SS + 72) (by omega) (by omega) ?_
        refine lv_astore (lv' := [(10, .ref ra_2), (9, .int 1), (0, .ref b), (1, .ref h), (2, .ref q1), (3, .ref q2), (4, .int (nI k)), (5, .int (nI (12 * k))), (6, .int d1), (7, .int d2), (8, .int (nI j))]) hx hb dL_law_195 hl (by decide) rfl (fun ls hl => ?_)
        refine lv_iload hx hb dL_law_197 (lv_at hl 1 rfl) ?_
        refine lv_if_eq (tgt := 218) hx hb dL_law_199 (by decide) (fun hc => absurd hc (by decide)) (fun hc => ?_)
        refine lv_aload_n hx hb dL_law_202 rfl (lv_at hl 3 rfl) ?_
        refine lv_aload_n hx hb dL_law_203 rfl (lv_at hl 2 rfl) ?_
        refine lv_iload hx hb dL_law_204 (lv_at hl 7 rfl) ?_
        refine lv_bipush (v := 11) hx hb dL_law_206 (by decide) ?_
        refine lv_iadd hx hb dL_law_208 ?_
        refine sx_top (v := nI ((12 * k) + 11)) (nI_add (12 * k) 11) ?_
        have hPc := hP.sub (ws' := []) [] rfl
        have hDc := hD.sub (ws' := []) [] (by decide) rfl
        have hKc := hK.sub (tys' := []) [] rfl
        have hFc := va_free (wc := []) hD hS hA [] rfl
        refine va_calli (va_runS (As := [.ref b, .int (nI ((12 * k) + 11))]) (rest := [.ref h]) ⟨hx, hb, hml, hown, hts⟩ (mt_cell l dC dI H.size b L ((12 * k) + 11) xs hL (by omega)) (va_cwS 2 hts (lw_S q260 q261 q7 q262) rfl rfl rfl (by decide +kernel) ⟨Nat.le_of_ble_eq_true rfl, Nat.le_of_ble_eq_true rfl⟩) ⟨sx_blindX, fun U hU hW => ⟨rfl, sx_Sc.pass hX hbl hbA hS hU hW, sx_Pre.mk hPc hKc hDc hU hW⟩⟩ rfl rfl hl.1 rfl (lv_room (Nat.le_of_ble_eq_true rfl)) dL_law_209 ⟨hrc (by omega), hrs (by omega)⟩) hS (fun q _ h => hFc q h) hFc (fun r_4 u t H1 locs ht hvm hw hB hz1 hk1 hS => ?_)
        obtain ⟨hP1, hD1⟩ := hB
        rw [ht] at hP1
        obtain ⟨hP, hD⟩ := va_join (wr := [(h, .inr (0, [.ref qk, .ref qb, .ref qo])), (qk, .inl (ck, 64, .inl (sa_bs f))), (qb, .inl (cb, 32, .inl (sa_bs x))), (qo, .inl (co, 32, .inl (sa_bs y))), (q1, .inl (c1, 16, .inl f)), (q2, .inl (c2, 8, .inl x)), (ra_2, .inl (cx_3, 8, .inl (sa_enc f x)))]) (w1 := []) hP hD [] [0, 1, 2, 3, 4, 5, 6] rfl rfl (by decide) (by decide) hk1 hFc hP1 hD1
        generalize H1 = H at hP hS ⊢
        have hP : va_P (dC, dI) vwCl [(h, .inr (0, [.ref qk, .ref qb, .ref qo])), (qk, .inl (ck, 64, .inl (sa_bs f))), (qb, .inl (cb, 32, .inl (sa_bs x))), (qo, .inl (co, 32, .inl (sa_bs y))), (q1, .inl (c1, 16, .inl f)), (q2, .inl (c2, 8, .inl x)), (ra_2, .inl (cx_3, 8, .inl (sa_enc f x)))] H := hP
        have hD : va_D A [(h, .inr (0, [.ref qk, .ref qb, .ref qo])), (qk, .inl (ck, 64, .inl (sa_bs f))), (qb, .inl (cb, 32, .inl (sa_bs x))), (qo, .inl (co, 32, .inl (sa_bs y))), (q1, .inl (c1, 16, .inl f)), (q2, .inl (c2, 8, .inl x)), (ra_2, .inl (cx_3, 8, .inl (sa_enc f x)))] := hD
        refine W.widen (k := CC + 2) (n := SS + 72) (by omega) (by omega) ?_
        subst hw
        have hPc := hP.sub (ws' := [(h, .inr (0, [.ref qk, .ref qb, .ref qo])), (qk, .inl (ck, 64, .inl (sa_bs f))), (qb, .inl (cb, 32, .inl (sa_bs x))), (qo, .inl (co, 32, .inl (sa_bs y)))]) [0, 1, 2, 3] rfl
        have hDc := hD.sub (ws' := [(h, .inr (0, [.ref qk, .ref qb, .ref qo])), (qk, .inl (ck, 64, .inl (sa_bs f))), (qb, .inl (cb, 32, .inl (sa_bs x))), (qo, .inl (co, 32, .inl (sa_bs y)))]) [0, 1, 2, 3] (by decide) rfl
        have hKc := hK.sub (tys' := [(ck, .byte), (cb, .byte), (co, .byte)]) [0, 1, 2] rfl
        have hFc := va_free (wc := [(h, .inr (0, [.ref qk, .ref qb, .ref qo])), (qk, .inl (ck, 64, .inl (sa_bs f))), (qb, .inl (cb, 32, .inl (sa_bs x))), (qo, .inl (co, 32, .inl (sa_bs y)))]) hD hS hA [0, 1, 2, 3] rfl
        refine va_callv (va_runV (As := [.int (sa_cl xs L ((12 * k) + 11))]) (rest := []) ⟨hx, hb, hml, hown, hts⟩ (mt_open l dC dI H.size h qk qb qo tK ck cb co f x y (sa_cl xs L ((12 * k) + 11))) (cwV 1 hts (lw_V q252 q253 q254 q8 q255) rfl rfl rfl (by decide +kernel) ⟨Nat.le_of_ble_eq_true rfl, Nat.le_of_ble_eq_true rfl⟩) ⟨sx_blindF, va_recv hK hP (ci := 0) (q0 := 0) rfl rfl, fun U hU hW => ⟨rfl, hFw.moved hW.alike, hEK.pass hS hFc hU hW, sx_Pre.mk hPc hKc hDc hU hW⟩⟩ rfl rfl hl.1 rfl (lv_room (Nat.le_of_ble_eq_true rfl)) dL_law_212 ⟨hrc (by omega), hrs (by omega)⟩) hS (fun q _ h => hFc q h) hFc (fun u t H1 locs ht hvm hw hB hz1 hk1 hS => ?_)
        obtain ⟨hP1, hD1⟩ := hB
        rw [ht] at hP1
        obtain ⟨hP, hD⟩ := va_join (wr := [(q1, .inl (c1, 16, .inl f)), (q2, .inl (c2, 8, .inl x)), (ra_2, .inl (cx_3, 8, .inl (sa_enc f x)))]) (w1 := [(h, .inr (0, [.ref qk, .ref qb, .ref qo])), (qk, .inl (ck, 64, .inl (sa_bs f))), (qb, .inl (cb, 32, .inl (sa_bs x))), (qo, .inl (co, 32, .inl (sa_bs (sa_dec f x))))]) hP hD [0, 1, 2, 3] [4, 5, 6] rfl rfl (by decide) (by decide) hk1 hFc hP1 hD1
        generalize H1 = H at hP hS ⊢
        have hP : va_P (dC, dI) vwCl [(q1, .inl (c1, 16, .inl f)), (q2, .inl (c2, 8, .inl x)), (ra_2, .inl (cx_3, 8, .inl (sa_enc f x))), (h, .inr (0, [.ref qk, .ref qb, .ref qo])), (qk, .inl (ck, 64, .inl (sa_bs f))), (qb, .inl (cb, 32, .inl (sa_bs x))), (qo, .inl (co, 32, .inl (sa_bs (sa_dec f x))))] H := hP
        have hD : va_D A [(q1, .inl (c1, 16, .inl f)), (q2, .inl (c2, 8, .inl x)), (ra_2, .inl (cx_3, 8, .inl (sa_enc f x))), (h, .inr (0, [.ref qk, .ref qb, .ref qo])), (qk, .inl (ck, 64, .inl (sa_bs f))), (qb, .inl (cb, 32, .inl (sa_bs x))), (qo, .inl (co, 32, .inl (sa_bs (sa_dec f x))))] := hD
        refine W.widen (k := CC + 8) (n := SS + 275) (by omega) (by omega) ?_
        refine lv_goto (tgt := 231) hx hb dL_law_215 (by decide) ?_
        refine lv_aload_n hx hb dL_law_231 rfl (lv_at hl 3 rfl) ?_
        refine lv_aload_n hx hb dL_law_232 rfl (lv_at hl 2 rfl) ?_
        refine lv_iload hx hb dL_law_233 (lv_at hl 7 rfl) ?_
        refine lv_bipush (v := 11) hx hb dL_law_235 (by decide) ?_
        refine lv_iadd hx hb dL_law_237 ?_
        refine sx_top (v := nI ((12 * k) + 11)) (nI_add (12 * k) 11) ?_
        have hPc := hP.sub (ws' := []) [] rfl
        have hDc := hD.sub (ws' := []) [] (by decide) rfl
        have hKc := hK.sub (tys' := []) [] rfl
        have hFc := va_free (wc := []) hD hS hA [] rfl
        refine va_calli (va_runS (As := [.ref b, .int (nI ((12 * k) + 11))]) (rest := [.ref h]) ⟨hx, hb, hml, hown, hts⟩ (mt_cell l dC dI H.size b L ((12 * k) + 11) xs hL (by omega)) (va_cwS 2 hts (lw_S q260 q261 q7 q262) rfl rfl rfl (by decide +kernel) ⟨Nat.le_of_ble_eq_true rfl, Nat.le_of_ble_eq_true rfl⟩) ⟨sx_blindX, fun U hU hW => ⟨rfl, sx_Sc.pass hX hbl hbA hS hU hW, sx_Pre.mk hPc hKc hDc hU hW⟩⟩ rfl rfl hl.1 rfl (lv_room (Nat.le_of_ble_eq_true rfl)) dL_law_238 ⟨hrc (by omega), hrs (by omega)⟩) hS (fun q _ h => hFc q h) hFc (fun r_5 u t H1 locs ht hvm hw hB hz1 hk1 hS => ?_)
        obtain ⟨hP1, hD1⟩ := hB
        rw [ht] at hP1
        obtain ⟨hP, hD⟩ := va_join (wr := [(q1, .inl (c1, 16, .inl f)), (q2, .inl (c2, 8, .inl x)), (ra_2, .inl (cx_3, 8, .inl (sa_enc f x))), (h, .inr (0, [.ref qk, .ref qb, .ref qo])), (qk, .inl (ck, 64, .inl (sa_bs f))), (qb, .inl (cb, 32, .inl (sa_bs x))), (qo, .inl (co, 32, .inl (sa_bs (sa_dec f x))))]) (w1 := []) hP hD [] [0, 1, 2, 3, 4, 5, 6] rfl rfl (by decide) (by decide) hk1 hFc hP1 hD1
        generalize H1 = H at hP hS ⊢
        have hP : va_P (dC, dI) vwCl [(q1, .inl (c1, 16, .inl f)), (q2, .inl (c2, 8, .inl x)), (ra_2, .inl (cx_3, 8, .inl (sa_enc f x))), (h, .inr (0, [.ref qk, .ref qb, .ref qo])), (qk, .inl (ck, 64, .inl (sa_bs f))), (qb, .inl (cb, 32, .inl (sa_bs x))), (qo, .inl (co, 32, .inl (sa_bs (sa_dec f x))))] H := hP
        have hD : va_D A [(q1, .inl (c1, 16, .inl f)), (q2, .inl (c2, 8, .inl x)), (ra_2, .inl (cx_3, 8, .inl (sa_enc f x))), (h, .inr (0, [.ref qk, .ref qb, .ref qo])), (qk, .inl (ck, 64, .inl (sa_bs f))), (qb, .inl (cb, 32, .inl (sa_bs x))), (qo, .inl (co, 32, .inl (sa_bs (sa_dec f x))))] := hD
        refine W.widen (k := CC + 8) (n := SS + 275) (by omega) (by omega) ?_
        subst hw
        have hPc := hP.sub (ws' := [(h, .inr (0, [.ref qk, .ref qb, .ref qo])), (qo, .inl (co, 32, .inl (sa_bs (sa_dec f x))))]) [3, 6] rfl
        have hDc := hD.sub (ws' := [(h, .inr (0, [.ref qk, .ref qb, .ref qo])), (qo, .inl (co, 32, .inl (sa_bs (sa_dec f x))))]) [3, 6] (by decide) rfl
        have hKc := hK.sub (tys' := [(co, .byte)]) [2] rfl
        have hFc := va_free (wc := [(h, .inr (0, [.ref qk, .ref qb, .ref qo])), (qo, .inl (co, 32, .inl (sa_bs (sa_dec f x))))]) hD hS hA [3, 6] rfl
        refine va_callr (va_runS (As := [.ref h, .int (sa_cl xs L ((12 * k) + 11))]) (rest := []) ⟨hx, hb, hml, hown, hts⟩ (mt_lout l dC dI H.size h qk qb qo co (sa_cl xs L ((12 * k) + 11)) (sa_dec f x)) (va_cwS 2 hts (lw_S q271 q272 q7 q273) rfl rfl rfl (by decide +kernel) ⟨Nat.le_of_ble_eq_true rfl, Nat.le_of_ble_eq_true rfl⟩) ⟨sx_blind, fun U hU hW => ⟨rfl, sx_Pre.mk hPc hKc hDc hU hW⟩⟩ rfl rfl hl.1 rfl (lv_room (Nat.le_of_ble_eq_true rfl)) dL_law_241 ⟨hrc (by omega), hrs (by omega)⟩) hS (fun q _ h => hFc q h) hFc (fun u ra_6 t H1 locs ht hvm hw hB hz1 hk1 hS => ?_)
        obtain ⟨cx_7, hB⟩ := hB
        obtain ⟨hP1, hD1, hK1⟩ := hB
        rw [ht] at hP1
        obtain ⟨hP, hD⟩ := va_join (wr := [(q1, .inl (c1, 16, .inl f)), (q2, .inl (c2, 8, .inl x)), (ra_2, .inl (cx_3, 8, .inl (sa_enc f x))), (qk, .inl (ck, 64, .inl (sa_bs f))), (qb, .inl (cb, 32, .inl (sa_bs x)))]) (w1 := [(h, .inr (0, [.ref qk, .ref qb, .ref qo])), (qo, .inl (co, 32, .inl (sa_bs (sa_dec f x)))), (ra_6, .inl (cx_7, 8, .inl (sa_dec f x)))]) hP hD [3, 6] [0, 1, 2, 4, 5] rfl rfl (by decide) (by decide) hk1 hFc hP1 hD1
        have hK := hK.app (va_K.moved hvm.symm hK1)
        have hK : va_K (dC, dI) vwCl [(ck, .byte), (cb, .byte), (co, .byte), (c1, .int), (c2, .int), (cx_3, .int), (cx_7, .int)] s := hK
        generalize H1 = H at hP hS ⊢
        have hP : va_P (dC, dI) vwCl [(q1, .inl (c1, 16, .inl f)), (q2, .inl (c2, 8, .inl x)), (ra_2, .inl (cx_3, 8, .inl (sa_enc f x))), (qk, .inl (ck, 64, .inl (sa_bs f))), (qb, .inl (cb, 32, .inl (sa_bs x))), (h, .inr (0, [.ref qk, .ref qb, .ref qo])), (qo, .inl (co, 32, .inl (sa_bs (sa_dec f x)))), (ra_6, .inl (cx_7, 8, .inl (sa_dec f x)))] H := hP
        have hD : va_D A [(q1, .inl (c1, 16, .inl f)), (q2, .inl (c2, 8, .inl x)), (ra_2, .inl (cx_3, 8, .inl (sa_enc f x))), (qk, .inl (ck, 64, .inl (sa_bs f))), (qb, .inl (cb, 32, .inl (sa_bs x))), (h, .inr (0, [.ref qk, .ref qb, .ref qo])), (qo, .inl (co, 32, .inl (sa_bs (sa_dec f x)))), (ra_6, .inl (cx_7, 8, .inl (sa_dec f x)))] := hD
        refine W.widen (k := CC + 9) (n := SS + 283) (by omega) (by omega) ?_
        refine lv_astore (lv' := [(11, .ref ra_6), (10, .ref ra_2), (9, .int 1), (0, .ref b), (1, .ref h), (2, .ref q1), (3, .ref q2), (4, .int (nI k)), (5, .int (nI (12 * k))), (6, .int d1), (7, .int d2), (8, .int (nI j))]) hx hb dL_law_244 hl (by decide) rfl (fun ls hl => ?_)
        refine lv_aload hx hb dL_law_246 (lv_at hl 0 rfl) ?_
        refine va_alen (v := 8) hx hb hK hP 7 6 rfl rfl rfl dL_law_248 ?_
        refine lv_bipush (v := 8) hx hb dL_law_249 (by decide) ?_
        refine lv_icmp_ne (tgt := 285) hx hb dL_law_251 (by decide) (fun hc => absurd hc (by decide)) (fun hc => ?_)
        refine lv_iload hx hb dL_law_254 (lv_at hl 2 rfl) ?_
        refine lv_if_eq (tgt := 275) hx hb dL_law_256 (by decide) (fun hc => absurd hc (by decide)) (fun hc => ?_)
        refine lv_aload_n hx hb dL_law_259 rfl (lv_at hl 5 rfl) ?_
        refine lv_aload hx hb dL_law_260 (lv_at hl 0 rfl) ?_
        have hPc := hP.sub (ws' := [(q1, .inl (c1, 16, .inl f)), (ra_6, .inl (cx_7, 8, .inl (sa_dec f x)))]) [0, 7] rfl
        have hDc := hD.sub (ws' := [(q1, .inl (c1, 16, .inl f)), (ra_6, .inl (cx_7, 8, .inl (sa_dec f x)))]) [0, 7] (by decide) rfl
        have hKc := hK.sub (tys' := [(c1, .int), (cx_7, .int)]) [3, 6] rfl
        have hFc := va_free (wc := [(q1, .inl (c1, 16, .inl f)), (ra_6, .inl (cx_7, 8, .inl (sa_dec f x)))]) hD hS hA [0, 7] rfl
        refine va_callr (va_runS (As := [.ref q1, .ref ra_6]) (rest := []) ⟨hx, hb, hml, hown, hts⟩ (mt_locked l dC dI H.size q1 ra_6 tR c1 cx_7 f (sa_dec f x)) (va_cwS 2 hts (lw_S q263 q264 q7 q265) rfl rfl rfl (by decide +kernel) ⟨Nat.le_of_ble_eq_true rfl, Nat.le_of_ble_eq_true rfl⟩) ⟨sx_blindE, fun U hU hW => ⟨rfl, hER.pass hS hFc hU hW, sx_Pre.mk hPc hKc hDc hU hW⟩⟩ rfl rfl hl.1 rfl (lv_room (Nat.le_of_ble_eq_true rfl)) dL_law_262 ⟨hrc (by omega), hrs (by omega)⟩) hS (fun q _ h => hFc q h) hFc (fun u ra_8 t H1 locs ht hvm hw hB hz1 hk1 hS => ?_)
        obtain ⟨cx_9, hB⟩ := hB
        obtain ⟨hP1, hD1, hK1⟩ := hB
        rw [ht] at hP1
        obtain ⟨hP, hD⟩ := va_join (wr := [(q2, .inl (c2, 8, .inl x)), (ra_2, .inl (cx_3, 8, .inl (sa_enc f x))), (qk, .inl (ck, 64, .inl (sa_bs f))), (qb, .inl (cb, 32, .inl (sa_bs x))), (h, .inr (0, [.ref qk, .ref qb, .ref qo])), (qo, .inl (co, 32, .inl (sa_bs (sa_dec f x))))]) (w1 := [(q1, .inl (c1, 16, .inl f)), (ra_6, .inl (cx_7, 8, .inl (sa_dec f x))), (ra_8, .inl (cx_9, 8, .inl (sa_enc f (sa_dec f x))))]) hP hD [0, 7] [1, 2, 3, 4, 5, 6] rfl rfl (by decide) (by decide) hk1 hFc hP1 hD1
        have hK := hK.app (va_K.moved hvm.symm hK1)
        have hK : va_K (dC, dI) vwCl [(ck, .byte), (cb, .byte), (co, .byte), (c1, .int), (c2, .int), (cx_3, .int), (cx_7, .int), (cx_9, .int)] s := hK
        generalize H1 = H at hP hS ⊢
        have hP : va_P (dC, dI) vwCl [(q2, .inl (c2, 8, .inl x)), (ra_2, .inl (cx_3, 8, .inl (sa_enc f x))), (qk, .inl (ck, 64, .inl (sa_bs f))), (qb, .inl (cb, 32, .inl (sa_bs x))), (h, .inr (0, [.ref qk, .ref qb, .ref qo])), (qo, .inl (co, 32, .inl (sa_bs (sa_dec f x)))), (q1, .inl (c1, 16, .inl f)), (ra_6, .inl (cx_7, 8, .inl (sa_dec f x))), (ra_8, .inl (cx_9, 8, .inl (sa_enc f (sa_dec f x))))] H := hP
        have hD : va_D A [(q2, .inl (c2, 8, .inl x)), (ra_2, .inl (cx_3, 8, .inl (sa_enc f x))), (qk, .inl (ck, 64, .inl (sa_bs f))), (qb, .inl (cb, 32, .inl (sa_bs x))), (h, .inr (0, [.ref qk, .ref qb, .ref qo])), (qo, .inl (co, 32, .inl (sa_bs (sa_dec f x)))), (q1, .inl (c1, 16, .inl f)), (ra_6, .inl (cx_7, 8, .inl (sa_dec f x))), (ra_8, .inl (cx_9, 8, .inl (sa_enc f (sa_dec f x))))] := hD
        refine W.widen (k := CC + 11) (n := SS + 355) (by omega) (by omega) ?_
        refine lv_aload_n hx hb dL_law_265 rfl (lv_at hl 6 rfl) ?_
        have hPc := hP.sub (ws' := [(ra_8, .inl (cx_9, 8, .inl (sa_enc f (sa_dec f x)))), (q2, .inl (c2, 8, .inl x))]) [8, 0] rfl
        have hDc := hD.sub (ws' := [(ra_8, .inl (cx_9, 8, .inl (sa_enc f (sa_dec f x)))), (q2, .inl (c2, 8, .inl x))]) [8, 0] (by decide) rfl
        have hKc := hK.sub (tys' := [(cx_9, .int), (c2, .int)]) [7, 4] rfl
        have hFc := va_free (wc := [(ra_8, .inl (cx_9, 8, .inl (sa_enc f (sa_dec f x)))), (q2, .inl (c2, 8, .inl x))]) hD hS hA [8, 0] rfl
        refine va_calli (va_runS (As := [.ref ra_8, .ref q2]) (rest := []) ⟨hx, hb, hml, hown, hts⟩ (mt_same l dC dI H.size ra_8 q2 cx_9 c2 (sa_enc f (sa_dec f x)) x (sa_enc_dec f x)) (va_cwS 2 hts (lw_S q278 q279 q7 q280) rfl rfl rfl (by decide +kernel) ⟨Nat.le_of_ble_eq_true rfl, Nat.le_of_ble_eq_true rfl⟩) ⟨sx_blind, fun U hU hW => ⟨rfl, sx_Pre.mk hPc hKc hDc hU hW⟩⟩ rfl rfl hl.1 rfl (lv_room (Nat.le_of_ble_eq_true rfl)) dL_law_266 ⟨hrc (by omega), hrs (by omega)⟩) hS (fun q _ h => hFc q h) hFc (fun r_10 u t H1 locs ht hvm hw hB hz1 hk1 hS => ?_)
        obtain ⟨hP1, hD1⟩ := hB
        rw [ht] at hP1
        obtain ⟨hP, hD⟩ := va_join (wr := [(ra_2, .inl (cx_3, 8, .inl (sa_enc f x))), (qk, .inl (ck, 64, .inl (sa_bs f))), (qb, .inl (cb, 32, .inl (sa_bs x))), (h, .inr (0, [.ref qk, .ref qb, .ref qo])), (qo, .inl (co, 32, .inl (sa_bs (sa_dec f x)))), (q1, .inl (c1, 16, .inl f)), (ra_6, .inl (cx_7, 8, .inl (sa_dec f x)))]) (w1 := [(ra_8, .inl (cx_9, 8, .inl (sa_enc f (sa_dec f x)))), (q2, .inl (c2, 8, .inl x))]) hP hD [8, 0] [1, 2, 3, 4, 5, 6, 7] rfl rfl (by decide) (by decide) hk1 hFc hP1 hD1
        generalize H1 = H at hP hS ⊢
        have hP : va_P (dC, dI) vwCl [(ra_2, .inl (cx_3, 8, .inl (sa_enc f x))), (qk, .inl (ck, 64, .inl (sa_bs f))), (qb, .inl (cb, 32, .inl (sa_bs x))), (h, .inr (0, [.ref qk, .ref qb, .ref qo])), (qo, .inl (co, 32, .inl (sa_bs (sa_dec f x)))), (q1, .inl (c1, 16, .inl f)), (ra_6, .inl (cx_7, 8, .inl (sa_dec f x))), (ra_8, .inl (cx_9, 8, .inl (sa_enc f (sa_dec f x)))), (q2, .inl (c2, 8, .inl x))] H := hP
        have hD : va_D A [(ra_2, .inl (cx_3, 8, .inl (sa_enc f x))), (qk, .inl (ck, 64, .inl (sa_bs f))), (qb, .inl (cb, 32, .inl (sa_bs x))), (h, .inr (0, [.ref qk, .ref qb, .ref qo])), (qo, .inl (co, 32, .inl (sa_bs (sa_dec f x)))), (q1, .inl (c1, 16, .inl f)), (ra_6, .inl (cx_7, 8, .inl (sa_dec f x))), (ra_8, .inl (cx_9, 8, .inl (sa_enc f (sa_dec f x)))), (q2, .inl (c2, 8, .inl x))] := hD
        refine W.widen (k := CC + 11) (n := SS + 355) (by omega) (by omega) ?_
        subst hw
        refine lv_if_ne (tgt := 287) hx hb dL_law_269 (by decide) (fun hc => ?_) (fun hc => absurd hc (by decide))
        refine lv_aload_n hx hb dL_law_287 rfl (lv_at hl 3 rfl) ?_
        refine lv_iload hx hb dL_law_288 (lv_at hl 8 rfl) ?_
        refine lv_bipush (v := 10) hx hb dL_law_290 (by decide) ?_
        refine lv_iadd hx hb dL_law_292 ?_
        refine sx_top (v := nI ((12 * k) + 10)) (nI_add (12 * k) 10) ?_
        have hPc := hP.sub (ws' := []) [] rfl
        have hDc := hD.sub (ws' := []) [] (by decide) rfl
        have hKc := hK.sub (tys' := []) [] rfl
        have hFc := va_free (wc := []) hD hS hA [] rfl
        refine va_calli (va_runS (As := [.ref b, .int (nI ((12 * k) + 10))]) (rest := []) ⟨hx, hb, hml, hown, hts⟩ (mt_cell l dC dI H.size b L ((12 * k) + 10) xs hL (by omega)) (va_cwS 2 hts (lw_S q260 q261 q7 q262) rfl rfl rfl (by decide +kernel) ⟨Nat.le_of_ble_eq_true rfl, Nat.le_of_ble_eq_true rfl⟩) ⟨sx_blindX, fun U hU hW => ⟨rfl, sx_Sc.pass hX hbl hbA hS hU hW, sx_Pre.mk hPc hKc hDc hU hW⟩⟩ rfl rfl hl.1 rfl (lv_room (Nat.le_of_ble_eq_true rfl)) dL_law_293 ⟨hrc (by omega), hrs (by omega)⟩) hS (fun q _ h => hFc q h) hFc (fun r_11 u t H1 locs ht hvm hw hB hz1 hk1 hS => ?_)
        obtain ⟨hP1, hD1⟩ := hB
        rw [ht] at hP1
        obtain ⟨hP, hD⟩ := va_join (wr := [(ra_2, .inl (cx_3, 8, .inl (sa_enc f x))), (qk, .inl (ck, 64, .inl (sa_bs f))), (qb, .inl (cb, 32, .inl (sa_bs x))), (h, .inr (0, [.ref qk, .ref qb, .ref qo])), (qo, .inl (co, 32, .inl (sa_bs (sa_dec f x)))), (q1, .inl (c1, 16, .inl f)), (ra_6, .inl (cx_7, 8, .inl (sa_dec f x))), (ra_8, .inl (cx_9, 8, .inl (sa_enc f (sa_dec f x)))), (q2, .inl (c2, 8, .inl x))]) (w1 := []) hP hD [] [0, 1, 2, 3, 4, 5, 6, 7, 8] rfl rfl (by decide) (by decide) hk1 hFc hP1 hD1
        generalize H1 = H at hP hS ⊢
        have hP : va_P (dC, dI) vwCl [(ra_2, .inl (cx_3, 8, .inl (sa_enc f x))), (qk, .inl (ck, 64, .inl (sa_bs f))), (qb, .inl (cb, 32, .inl (sa_bs x))), (h, .inr (0, [.ref qk, .ref qb, .ref qo])), (qo, .inl (co, 32, .inl (sa_bs (sa_dec f x)))), (q1, .inl (c1, 16, .inl f)), (ra_6, .inl (cx_7, 8, .inl (sa_dec f x))), (ra_8, .inl (cx_9, 8, .inl (sa_enc f (sa_dec f x)))), (q2, .inl (c2, 8, .inl x))] H := hP
        have hD : va_D A [(ra_2, .inl (cx_3, 8, .inl (sa_enc f x))), (qk, .inl (ck, 64, .inl (sa_bs f))), (qb, .inl (cb, 32, .inl (sa_bs x))), (h, .inr (0, [.ref qk, .ref qb, .ref qo])), (qo, .inl (co, 32, .inl (sa_bs (sa_dec f x)))), (q1, .inl (c1, 16, .inl f)), (ra_6, .inl (cx_7, 8, .inl (sa_dec f x))), (ra_8, .inl (cx_9, 8, .inl (sa_enc f (sa_dec f x)))), (q2, .inl (c2, 8, .inl x))] := hD
        refine W.widen (k := CC + 11) (n := SS + 355) (by omega) (by omega) ?_
        subst hw
        refine lv_iconst (v := 2) hx hb dL_law_296 (by decide) ?_
        refine lv_iload hx hb dL_law_297 (lv_at hl 11 rfl) ?_
        refine lv_iadd hx hb dL_law_299 ?_
        refine sx_top (v := nI (2 + j)) (nI_add 2 j) ?_
        refine lv_ishr hx hb dL_law_300 ?_
        refine lv_iconst (v := 1) hx hb dL_law_301 (by decide) ?_
        refine lv_iand hx hb dL_law_302 ?_
        refine lv_iconst (v := 1) hx hb dL_law_303 (by decide) ?_
        refine lv_icmp_ne (tgt := 353) hx hb dL_law_304 (by decide) (fun ha => ?_) (fun ha => ?_)
        · refine lv_iinc (v := nI (j + 1)) (lv' := [(8, .int (nI (j + 1))), (11, .ref ra_6), (10, .ref ra_2), (9, .int 1), (0, .ref b), (1, .ref h), (2, .ref q1), (3, .ref q2), (4, .int (nI k)), (5, .int (nI (12 * k))), (6, .int d1), (7, .int d2)]) hx hb dL_law_353 hl (k := 11) rfl (nI_1 j) (by decide) rfl (fun ls hl => ?_)
          refine lv_goto (tgt := 159) hx hb dL_law_356 (by decide) ?_
          refine W.widen (k := C0 + 18 * (j + 1)) (n := S0 + 566 * (j + 1)) (by omega) (by omega) ?_
          exact ih (j + 1) (by omega) (by omega) q2 c2 x (sa_dec f x) H locs ls (hK.sub [0, 1, 2, 3, 4] rfl) (hP.sub [3, 1, 2, 4, 5, 8] rfl) (hD.sub [3, 1, 2, 4, 5, 8] (by decide) rfl) hS (lv_sub hl [4, 5, 6, 7, 8, 9, 10, 11, 0] rfl) kk
        · refine lv_aload_n hx hb dL_law_307 rfl (lv_at hl 4 rfl) ?_
          have hPc := hP.sub (ws' := [(h, .inr (0, [.ref qk, .ref qb, .ref qo])), (qb, .inl (cb, 32, .inl (sa_bs x))), (qo, .inl (co, 32, .inl (sa_bs (sa_dec f x))))]) [3, 2, 4] rfl
          have hDc := hD.sub (ws' := [(h, .inr (0, [.ref qk, .ref qb, .ref qo])), (qb, .inl (cb, 32, .inl (sa_bs x))), (qo, .inl (co, 32, .inl (sa_bs (sa_dec f x))))]) [3, 2, 4] (by decide) rfl
          have hKc := hK.sub (tys' := [(cb, .byte), (co, .byte)]) [1, 2] rfl
          have hFc := va_free (wc := [(h, .inr (0, [.ref qk, .ref qb, .ref qo])), (qb, .inl (cb, 32, .inl (sa_bs x))), (qo, .inl (co, 32, .inl (sa_bs (sa_dec f x))))]) hD hS hA [3, 2, 4] rfl
          refine va_callv (va_runV (As := []) (rest := []) ⟨hx, hb, hml, hown, hts⟩ (mt_again l dC dI H.size h qk qb qo cb co x (sa_dec f x)) (cwV 0 hts (lw_V q256 q257 q258 q8 q259) rfl rfl rfl (by decide +kernel) ⟨Nat.le_of_ble_eq_true rfl, Nat.le_of_ble_eq_true rfl⟩) ⟨sx_blind, va_recv hK hP (ci := 0) (q0 := 3) rfl rfl, fun U hU hW => ⟨rfl, sx_Pre.mk hPc hKc hDc hU hW⟩⟩ rfl rfl hl.1 rfl (lv_room (Nat.le_of_ble_eq_true rfl)) dL_law_308 ⟨hrc (by omega), hrs (by omega)⟩) hS (fun q _ h => hFc q h) hFc (fun u t H1 locs ht hvm hw hB hz1 hk1 hS => ?_)
          obtain ⟨hP1, hD1⟩ := hB
          rw [ht] at hP1
          obtain ⟨hP, hD⟩ := va_join (wr := [(ra_2, .inl (cx_3, 8, .inl (sa_enc f x))), (qk, .inl (ck, 64, .inl (sa_bs f))), (q1, .inl (c1, 16, .inl f)), (ra_6, .inl (cx_7, 8, .inl (sa_dec f x))), (ra_8, .inl (cx_9, 8, .inl (sa_enc f (sa_dec f x)))), (q2, .inl (c2, 8, .inl x))]) (w1 := [(h, .inr (0, [.ref qk, .ref qb, .ref qo])), (qb, .inl (cb, 32, .inl (sa_bs (sa_dec f x)))), (qo, .inl (co, 32, .inl (sa_bs (sa_dec f x))))]) hP hD [3, 2, 4] [0, 1, 5, 6, 7, 8] rfl rfl (by decide) (by decide) hk1 hFc hP1 hD1
          generalize H1 = H at hP hS ⊢
          have hP : va_P (dC, dI) vwCl [(ra_2, .inl (cx_3, 8, .inl (sa_enc f x))), (qk, .inl (ck, 64, .inl (sa_bs f))), (q1, .inl (c1, 16, .inl f)), (ra_6, .inl (cx_7, 8, .inl (sa_dec f x))), (ra_8, .inl (cx_9, 8, .inl (sa_enc f (sa_dec f x)))), (q2, .inl (c2, 8, .inl x)), (h, .inr (0, [.ref qk, .ref qb, .ref qo])), (qb, .inl (cb, 32, .inl (sa_bs (sa_dec f x)))), (qo, .inl (co, 32, .inl (sa_bs (sa_dec f x))))] H := hP
          have hD : va_D A [(ra_2, .inl (cx_3, 8, .inl (sa_enc f x))), (qk, .inl (ck, 64, .inl (sa_bs f))), (q1, .inl (c1, 16, .inl f)), (ra_6, .inl (cx_7, 8, .inl (sa_dec f x))), (ra_8, .inl (cx_9, 8, .inl (sa_enc f (sa_dec f x)))), (q2, .inl (c2, 8, .inl x)), (h, .inr (0, [.ref qk, .ref qb, .ref qo])), (qb, .inl (cb, 32, .inl (sa_bs (sa_dec f x)))), (qo, .inl (co, 32, .inl (sa_bs (sa_dec f x))))] := hD
          refine W.widen (k := CC + 11) (n := SS + 355) (by omega) (by omega) ?_
          refine lv_aload_n hx hb dL_law_311 rfl (lv_at hl 6 rfl) ?_
          refine lv_astore (lv' := [(12, .ref q2), (11, .ref ra_6), (10, .ref ra_2), (9, .int 1), (0, .ref b), (1, .ref h), (2, .ref q1), (3, .ref q2), (4, .int (nI k)), (5, .int (nI (12 * k))), (6, .int d1), (7, .int d2), (8, .int (nI j))]) hx hb dL_law_312 hl (by decide) rfl (fun ls hl => ?_)
          refine lv_aload hx hb dL_law_314 (lv_at hl 1 rfl) ?_
          refine lv_astore_n (lv' := [(3, .ref ra_6), (12, .ref q2), (11, .ref ra_6), (10, .ref ra_2), (9, .int 1), (0, .ref b), (1, .ref h), (2, .ref q1), (4, .int (nI k)), (5, .int (nI (12 * k))), (6, .int d1), (7, .int d2), (8, .int (nI j))]) hx hb dL_law_316 rfl hl (by decide) rfl (fun ls hl => ?_)
          refine lv_iload hx hb dL_law_317 (lv_at hl 4 rfl) ?_
          refine lv_if_eq (tgt := 331) hx hb dL_law_319 (by decide) (fun hc => absurd hc (by decide)) (fun hc => ?_)
          refine lv_aload_n hx hb dL_law_322 rfl (lv_at hl 6 rfl) ?_
          refine lv_iload hx hb dL_law_323 (lv_at hl 10 rfl) ?_
          have hPc := hP.sub (ws' := [(h, .inr (0, [.ref qk, .ref qb, .ref qo])), (qk, .inl (ck, 64, .inl (sa_bs f))), (qb, .inl (cb, 32, .inl (sa_bs (sa_dec f x)))), (qo, .inl (co, 32, .inl (sa_bs (sa_dec f x))))]) [6, 1, 7, 8] rfl
          have hDc := hD.sub (ws' := [(h, .inr (0, [.ref qk, .ref qb, .ref qo])), (qk, .inl (ck, 64, .inl (sa_bs f))), (qb, .inl (cb, 32, .inl (sa_bs (sa_dec f x)))), (qo, .inl (co, 32, .inl (sa_bs (sa_dec f x))))]) [6, 1, 7, 8] (by decide) rfl
          have hKc := hK.sub (tys' := [(ck, .byte), (cb, .byte), (co, .byte)]) [0, 1, 2] rfl
          have hFc := va_free (wc := [(h, .inr (0, [.ref qk, .ref qb, .ref qo])), (qk, .inl (ck, 64, .inl (sa_bs f))), (qb, .inl (cb, 32, .inl (sa_bs (sa_dec f x)))), (qo, .inl (co, 32, .inl (sa_bs (sa_dec f x))))]) hD hS hA [6, 1, 7, 8] rfl
          refine va_callv (va_runV (As := [.int d1]) (rest := []) ⟨hx, hb, hml, hown, hts⟩ (mt_lock l dC dI H.size h qk qb qo tK ck cb co f (sa_dec f x) (sa_dec f x) d1) (cwV 1 hts (lw_V q39 q40 q41 q8 q42) rfl rfl rfl (by decide +kernel) ⟨Nat.le_of_ble_eq_true rfl, Nat.le_of_ble_eq_true rfl⟩) ⟨sx_blindF, va_recv hK hP (ci := 0) (q0 := 6) rfl rfl, fun U hU hW => ⟨rfl, hFw.moved hW.alike, hEK.pass hS hFc hU hW, sx_Pre.mk hPc hKc hDc hU hW⟩⟩ rfl rfl hl.1 rfl (lv_room (Nat.le_of_ble_eq_true rfl)) dL_law_325 ⟨hrc (by omega), hrs (by omega)⟩) hS (fun q _ h => hFc q h) hFc (fun u t H1 locs ht hvm hw hB hz1 hk1 hS => ?_)
          obtain ⟨hP1, hD1⟩ := hB
          rw [ht] at hP1
          obtain ⟨hP, hD⟩ := va_join (wr := [(ra_2, .inl (cx_3, 8, .inl (sa_enc f x))), (q1, .inl (c1, 16, .inl f)), (ra_6, .inl (cx_7, 8, .inl (sa_dec f x))), (ra_8, .inl (cx_9, 8, .inl (sa_enc f (sa_dec f x)))), (q2, .inl (c2, 8, .inl x))]) (w1 := [(h, .inr (0, [.ref qk, .ref qb, .ref qo])), (qk, .inl (ck, 64, .inl (sa_bs f))), (qb, .inl (cb, 32, .inl (sa_bs (sa_dec f x)))), (qo, .inl (co, 32, .inl (sa_bs (sa_enc f (sa_dec f x)))))]) hP hD [6, 1, 7, 8] [0, 2, 3, 4, 5] rfl rfl (by decide) (by decide) hk1 hFc hP1 hD1
          generalize H1 = H at hP hS ⊢
          have hP : va_P (dC, dI) vwCl [(ra_2, .inl (cx_3, 8, .inl (sa_enc f x))), (q1, .inl (c1, 16, .inl f)), (ra_6, .inl (cx_7, 8, .inl (sa_dec f x))), (ra_8, .inl (cx_9, 8, .inl (sa_enc f (sa_dec f x)))), (q2, .inl (c2, 8, .inl x)), (h, .inr (0, [.ref qk, .ref qb, .ref qo])), (qk, .inl (ck, 64, .inl (sa_bs f))), (qb, .inl (cb, 32, .inl (sa_bs (sa_dec f x)))), (qo, .inl (co, 32, .inl (sa_bs (sa_enc f (sa_dec f x)))))] H := hP
          have hD : va_D A [(ra_2, .inl (cx_3, 8, .inl (sa_enc f x))), (q1, .inl (c1, 16, .inl f)), (ra_6, .inl (cx_7, 8, .inl (sa_dec f x))), (ra_8, .inl (cx_9, 8, .inl (sa_enc f (sa_dec f x)))), (q2, .inl (c2, 8, .inl x)), (h, .inr (0, [.ref qk, .ref qb, .ref qo])), (qk, .inl (ck, 64, .inl (sa_bs f))), (qb, .inl (cb, 32, .inl (sa_bs (sa_dec f x)))), (qo, .inl (co, 32, .inl (sa_bs (sa_enc f (sa_dec f x)))))] := hD
          refine W.widen (k := CC + 17) (n := SS + 558) (by omega) (by omega) ?_
          refine lv_goto (tgt := 337) hx hb dL_law_328 (by decide) ?_
          refine lv_aload_n hx hb dL_law_337 rfl (lv_at hl 6 rfl) ?_
          refine lv_iload hx hb dL_law_338 (lv_at hl 11 rfl) ?_
          have hPc := hP.sub (ws' := [(h, .inr (0, [.ref qk, .ref qb, .ref qo])), (qo, .inl (co, 32, .inl (sa_bs (sa_enc f (sa_dec f x)))))]) [5, 8] rfl
          have hDc := hD.sub (ws' := [(h, .inr (0, [.ref qk, .ref qb, .ref qo])), (qo, .inl (co, 32, .inl (sa_bs (sa_enc f (sa_dec f x)))))]) [5, 8] (by decide) rfl
          have hKc := hK.sub (tys' := [(co, .byte)]) [2] rfl
          have hFc := va_free (wc := [(h, .inr (0, [.ref qk, .ref qb, .ref qo])), (qo, .inl (co, 32, .inl (sa_bs (sa_enc f (sa_dec f x)))))]) hD hS hA [5, 8] rfl
          refine va_callr (va_runS (As := [.ref h, .int d2]) (rest := []) ⟨hx, hb, hml, hown, hts⟩ (mt_lout l dC dI H.size h qk qb qo co d2 (sa_enc f (sa_dec f x))) (va_cwS 2 hts (lw_S q271 q272 q7 q273) rfl rfl rfl (by decide +kernel) ⟨Nat.le_of_ble_eq_true rfl, Nat.le_of_ble_eq_true rfl⟩) ⟨sx_blind, fun U hU hW => ⟨rfl, sx_Pre.mk hPc hKc hDc hU hW⟩⟩ rfl rfl hl.1 rfl (lv_room (Nat.le_of_ble_eq_true rfl)) dL_law_340 ⟨hrc (by omega), hrs (by omega)⟩) hS (fun q _ h => hFc q h) hFc (fun u ra_12 t H1 locs ht hvm hw hB hz1 hk1 hS => ?_)
          obtain ⟨cx_13, hB⟩ := hB
          obtain ⟨hP1, hD1, hK1⟩ := hB
          rw [ht] at hP1
          obtain ⟨hP, hD⟩ := va_join (wr := [(ra_2, .inl (cx_3, 8, .inl (sa_enc f x))), (q1, .inl (c1, 16, .inl f)), (ra_6, .inl (cx_7, 8, .inl (sa_dec f x))), (ra_8, .inl (cx_9, 8, .inl (sa_enc f (sa_dec f x)))), (q2, .inl (c2, 8, .inl x)), (qk, .inl (ck, 64, .inl (sa_bs f))), (qb, .inl (cb, 32, .inl (sa_bs (sa_dec f x))))]) (w1 := [(h, .inr (0, [.ref qk, .ref qb, .ref qo])), (qo, .inl (co, 32, .inl (sa_bs (sa_enc f (sa_dec f x))))), (ra_12, .inl (cx_13, 8, .inl (sa_enc f (sa_dec f x))))]) hP hD [5, 8] [0, 1, 2, 3, 4, 6, 7] rfl rfl (by decide) (by decide) hk1 hFc hP1 hD1
          have hK := hK.app (va_K.moved hvm.symm hK1)
          have hK : va_K (dC, dI) vwCl [(ck, .byte), (cb, .byte), (co, .byte), (c1, .int), (c2, .int), (cx_3, .int), (cx_7, .int), (cx_9, .int), (cx_13, .int)] s := hK
          generalize H1 = H at hP hS ⊢
          have hP : va_P (dC, dI) vwCl [(ra_2, .inl (cx_3, 8, .inl (sa_enc f x))), (q1, .inl (c1, 16, .inl f)), (ra_6, .inl (cx_7, 8, .inl (sa_dec f x))), (ra_8, .inl (cx_9, 8, .inl (sa_enc f (sa_dec f x)))), (q2, .inl (c2, 8, .inl x)), (qk, .inl (ck, 64, .inl (sa_bs f))), (qb, .inl (cb, 32, .inl (sa_bs (sa_dec f x)))), (h, .inr (0, [.ref qk, .ref qb, .ref qo])), (qo, .inl (co, 32, .inl (sa_bs (sa_enc f (sa_dec f x))))), (ra_12, .inl (cx_13, 8, .inl (sa_enc f (sa_dec f x))))] H := hP
          have hD : va_D A [(ra_2, .inl (cx_3, 8, .inl (sa_enc f x))), (q1, .inl (c1, 16, .inl f)), (ra_6, .inl (cx_7, 8, .inl (sa_dec f x))), (ra_8, .inl (cx_9, 8, .inl (sa_enc f (sa_dec f x)))), (q2, .inl (c2, 8, .inl x)), (qk, .inl (ck, 64, .inl (sa_bs f))), (qb, .inl (cb, 32, .inl (sa_bs (sa_dec f x)))), (h, .inr (0, [.ref qk, .ref qb, .ref qo])), (qo, .inl (co, 32, .inl (sa_bs (sa_enc f (sa_dec f x))))), (ra_12, .inl (cx_13, 8, .inl (sa_enc f (sa_dec f x))))] := hD
          refine W.widen (k := CC + 18) (n := SS + 566) (by omega) (by omega) ?_
          refine lv_aload hx hb dL_law_343 (lv_at hl 1 rfl) ?_
          have hPc := hP.sub (ws' := [(ra_12, .inl (cx_13, 8, .inl (sa_enc f (sa_dec f x)))), (q2, .inl (c2, 8, .inl x))]) [9, 4] rfl
          have hDc := hD.sub (ws' := [(ra_12, .inl (cx_13, 8, .inl (sa_enc f (sa_dec f x)))), (q2, .inl (c2, 8, .inl x))]) [9, 4] (by decide) rfl
          have hKc := hK.sub (tys' := [(cx_13, .int), (c2, .int)]) [8, 4] rfl
          have hFc := va_free (wc := [(ra_12, .inl (cx_13, 8, .inl (sa_enc f (sa_dec f x)))), (q2, .inl (c2, 8, .inl x))]) hD hS hA [9, 4] rfl
          refine va_calli (va_runS (As := [.ref ra_12, .ref q2]) (rest := []) ⟨hx, hb, hml, hown, hts⟩ (mt_same l dC dI H.size ra_12 q2 cx_13 c2 (sa_enc f (sa_dec f x)) x (sa_enc_dec f x)) (va_cwS 2 hts (lw_S q278 q279 q7 q280) rfl rfl rfl (by decide +kernel) ⟨Nat.le_of_ble_eq_true rfl, Nat.le_of_ble_eq_true rfl⟩) ⟨sx_blind, fun U hU hW => ⟨rfl, sx_Pre.mk hPc hKc hDc hU hW⟩⟩ rfl rfl hl.1 rfl (lv_room (Nat.le_of_ble_eq_true rfl)) dL_law_345 ⟨hrc (by omega), hrs (by omega)⟩) hS (fun q _ h => hFc q h) hFc (fun r_14 u t H1 locs ht hvm hw hB hz1 hk1 hS => ?_)
          obtain ⟨hP1, hD1⟩ := hB
          rw [ht] at hP1
          obtain ⟨hP, hD⟩ := va_join (wr := [(ra_2, .inl (cx_3, 8, .inl (sa_enc f x))), (q1, .inl (c1, 16, .inl f)), (ra_6, .inl (cx_7, 8, .inl (sa_dec f x))), (ra_8, .inl (cx_9, 8, .inl (sa_enc f (sa_dec f x)))), (qk, .inl (ck, 64, .inl (sa_bs f))), (qb, .inl (cb, 32, .inl (sa_bs (sa_dec f x)))), (h, .inr (0, [.ref qk, .ref qb, .ref qo])), (qo, .inl (co, 32, .inl (sa_bs (sa_enc f (sa_dec f x)))))]) (w1 := [(ra_12, .inl (cx_13, 8, .inl (sa_enc f (sa_dec f x)))), (q2, .inl (c2, 8, .inl x))]) hP hD [9, 4] [0, 1, 2, 3, 5, 6, 7, 8] rfl rfl (by decide) (by decide) hk1 hFc hP1 hD1
          generalize H1 = H at hP hS ⊢
          have hP : va_P (dC, dI) vwCl [(ra_2, .inl (cx_3, 8, .inl (sa_enc f x))), (q1, .inl (c1, 16, .inl f)), (ra_6, .inl (cx_7, 8, .inl (sa_dec f x))), (ra_8, .inl (cx_9, 8, .inl (sa_enc f (sa_dec f x)))), (qk, .inl (ck, 64, .inl (sa_bs f))), (qb, .inl (cb, 32, .inl (sa_bs (sa_dec f x)))), (h, .inr (0, [.ref qk, .ref qb, .ref qo])), (qo, .inl (co, 32, .inl (sa_bs (sa_enc f (sa_dec f x))))), (ra_12, .inl (cx_13, 8, .inl (sa_enc f (sa_dec f x)))), (q2, .inl (c2, 8, .inl x))] H := hP
          have hD : va_D A [(ra_2, .inl (cx_3, 8, .inl (sa_enc f x))), (q1, .inl (c1, 16, .inl f)), (ra_6, .inl (cx_7, 8, .inl (sa_dec f x))), (ra_8, .inl (cx_9, 8, .inl (sa_enc f (sa_dec f x)))), (qk, .inl (ck, 64, .inl (sa_bs f))), (qb, .inl (cb, 32, .inl (sa_bs (sa_dec f x)))), (h, .inr (0, [.ref qk, .ref qb, .ref qo])), (qo, .inl (co, 32, .inl (sa_bs (sa_enc f (sa_dec f x))))), (ra_12, .inl (cx_13, 8, .inl (sa_enc f (sa_dec f x)))), (q2, .inl (c2, 8, .inl x))] := hD
          refine W.widen (k := CC + 18) (n := SS + 566) (by omega) (by omega) ?_
          subst hw
          refine lv_if_ne (tgt := 353) hx hb dL_law_348 (by decide) (fun hc => ?_) (fun hc => absurd hc (by decide))
          refine lv_iinc (v := nI (j + 1)) (lv' := [(8, .int (nI (j + 1))), (3, .ref ra_6), (12, .ref q2), (11, .ref ra_6), (10, .ref ra_2), (9, .int 1), (0, .ref b), (1, .ref h), (2, .ref q1), (4, .int (nI k)), (5, .int (nI (12 * k))), (6, .int d1), (7, .int d2)]) hx hb dL_law_353 hl (k := 12) rfl (nI_1 j) (by decide) rfl (fun ls hl => ?_)
          refine lv_goto (tgt := 159) hx hb dL_law_356 (by decide) ?_
          refine W.widen (k := C0 + 18 * (j + 1)) (n := S0 + 566 * (j + 1)) (by omega) (by omega) ?_
          exact ih (j + 1) (by omega) (by omega) ra_6 cx_7 (sa_dec f x) (sa_enc f (sa_dec f x)) H locs ls (hK.sub [0, 1, 2, 3, 6] rfl) (hP.sub [6, 4, 5, 7, 1, 2] rfl) (hD.sub [6, 4, 5, 7, 1, 2] (by decide) rfl) hS (lv_sub hl [6, 7, 8, 1, 9, 10, 11, 12, 0] rfl) kk
end
section
/-! the law's outer loop, and the law from its entry -/
set_option maxHeartbeats 4000000 in
set_option maxRecDepth 100000 in
/-- the law: eight rounds of the history -/
theorem lz_out {p : Program} {l : Launch} {e : Env} {s : State} {m : MethodId} {args : Array Value} {below : List Frame} {meth : Method} {c : Code} {Q : State → Prop} {A : Nat → Prop} {dC : Nat → ClassId} {dI : Nat → Nat → Nat} {b L tK tR : Nat} {xs : Nat → Int32} (hL : L ≤ 96) (hx : p.tables.exec = Jvm.exec) (hb : c.code = cL_law) (hml : c.maxLocals = 13) (hown : s.vm.findClass RX0 = some m.cls) (hts : ∀ w ∈ lw_all, w.before args s = true) (hA : ∀ q : Nat, s.heap.size ≤ q → A q) (hX : va_X b L xs s s.heap) (hbl : b < s.heap.size) (hbA : ¬ A b) (hFw : sx_Fw s) (hEK : sx_St "Shacal2Engine" "K" tK sa_rk A s) (hER : sx_St "ShacalDeskLaw" "ROOTS" tR sa_rk A s) (h qk qb qo q1 C0 S0 : Nat) (ck cb co c1 : ClassId) (hC0 : C0 + 36 * 8 ≤ 1200192) (hS0 : S0 + 1132 * 8 ≤ 5500522) :
    ∀ (n k : Nat), k ≤ 8 → 8 < k + n → ∀ (q2 : Nat) (c2 : ClassId) (f x y : Nat → Int32) (H : Heap) (locs : List Loc) (ls : Array Slot), va_K (dC, dI) vwCl [(ck, .byte), (cb, .byte), (co, .byte), (c1, .int), (c2, .int)] s → va_P (dC, dI) vwCl [(h, .inr (0, [.ref qk, .ref qb, .ref qo])), (qk, .inl (ck, 64, .inl (sa_bs f))), (qb, .inl (cb, 32, .inl (sa_bs x))), (qo, .inl (co, 32, .inl (sa_bs y))), (q1, .inl (c1, 16, .inl f)), (q2, .inl (c2, 8, .inl x))] H → va_D A [(h, .inr (0, [.ref qk, .ref qb, .ref qo])), (qk, .inl (ck, 64, .inl (sa_bs f))), (qb, .inl (cb, 32, .inl (sa_bs x))), (qo, .inl (co, 32, .inl (sa_bs y))), (q1, .inl (c1, 16, .inl f)), (q2, .inl (c2, 8, .inl x))] → va_S A s.heap H locs → lv_has ls 13 [(0, .ref b), (1, .ref h), (2, .ref q1), (3, .ref q2), (4, .int (nI k))] → (∀ (H : Heap) (locs : List Loc) (ls : Array Slot), va_S A s.heap H locs → W p l e room_1 s m args below meth c H locs (C0 + 36 * 8) (S0 + 1132 * 8) Q (F0 m 365 ls [])) → W p l e room_1 s m args below meth c H locs (C0 + 36 * k) (S0 + 1132 * k) Q (F0 m 42 ls []) := by
  intro n
  induction n with
  | zero =>
    intro k h1 h2
    exact absurd h2 (by omega)
  | succ n ih =>
    intro k hk hk2 q2 c2 f x y H locs ls hK hP hD hS hl kk
    have hrc : ∀ {n : Nat}, n ≤ 1200192 → n ≤ room_1.cells := fun h => h
    have hrs : ∀ {n : Nat}, n ≤ 5500522 → n ≤ room_1.slots := fun h => h
    refine lv_iload hx hb dL_law_42 (lv_at hl 4 rfl) ?_
    refine lv_bipush (v := 8) hx hb dL_law_44 (by decide) ?_
    refine lv_icmp_ge (tgt := 365) hx hb dL_law_46 (by decide) (fun hc => ?_) (fun hc => ?_)
    · have hc2 := (nI_leI (a := 8) (b := k) (by decide) (by omega)).mp hc
      obtain rfl : k = 8 := by omega
      exact kk H locs ls hS
    · have hlt : k < 8 := Nat.lt_of_not_le fun q => hc ((nI_leI (a := 8) (b := k) (by decide) (by omega)).mpr q)
      obtain ⟨CC, hCC⟩ : ∃ CC, CC = C0 + 36 * k := ⟨_, rfl⟩
      obtain ⟨SS, hSS⟩ : ∃ SS, SS = S0 + 1132 * k := ⟨_, rfl⟩
      rw [← hCC, ← hSS]
      refine lv_bipush (v := 12) hx hb dL_law_49 (by decide) ?_
      refine lv_iload hx hb dL_law_51 (lv_at hl 4 rfl) ?_
      refine lv_imul hx hb dL_law_53 ?_
      refine sx_top (v := nI (12 * k)) (pk_mul 12 k) ?_
      refine lv_istore (lv' := [(5, .int (nI (12 * k))), (0, .ref b), (1, .ref h), (2, .ref q1), (3, .ref q2), (4, .int (nI k))]) hx hb dL_law_54 hl (by decide) rfl (fun ls hl => ?_)
      refine lv_aload_n hx hb dL_law_56 rfl (lv_at hl 1 rfl) ?_
      refine lv_iload hx hb dL_law_57 (lv_at hl 0 rfl) ?_
      have hPc := hP.sub (ws' := []) [] rfl
      have hDc := hD.sub (ws' := []) [] (by decide) rfl
      have hKc := hK.sub (tys' := []) [] rfl
      have hFc := va_free (wc := []) hD hS hA [] rfl
      refine va_calli (va_runS (As := [.ref b, .int (nI (12 * k))]) (rest := []) ⟨hx, hb, hml, hown, hts⟩ (mt_cell l dC dI H.size b L (12 * k) xs hL (by omega)) (va_cwS 2 hts (lw_S q260 q261 q7 q262) rfl rfl rfl (by decide +kernel) ⟨Nat.le_of_ble_eq_true rfl, Nat.le_of_ble_eq_true rfl⟩) ⟨sx_blindX, fun U hU hW => ⟨rfl, sx_Sc.pass hX hbl hbA hS hU hW, sx_Pre.mk hPc hKc hDc hU hW⟩⟩ rfl rfl hl.1 rfl (lv_room (Nat.le_of_ble_eq_true rfl)) dL_law_59 ⟨hrc (by omega), hrs (by omega)⟩) hS (fun q _ h => hFc q h) hFc (fun r_1 u t H1 locs ht hvm hw hB hz1 hk1 hS => ?_)
      obtain ⟨hP1, hD1⟩ := hB
      rw [ht] at hP1
      obtain ⟨hP, hD⟩ := va_join (wr := [(h, .inr (0, [.ref qk, .ref qb, .ref qo])), (qk, .inl (ck, 64, .inl (sa_bs f))), (qb, .inl (cb, 32, .inl (sa_bs x))), (qo, .inl (co, 32, .inl (sa_bs y))), (q1, .inl (c1, 16, .inl f)), (q2, .inl (c2, 8, .inl x))]) (w1 := []) hP hD [] [0, 1, 2, 3, 4, 5] rfl rfl (by decide) (by decide) hk1 hFc hP1 hD1
      generalize H1 = H at hP hS ⊢
      have hP : va_P (dC, dI) vwCl [(h, .inr (0, [.ref qk, .ref qb, .ref qo])), (qk, .inl (ck, 64, .inl (sa_bs f))), (qb, .inl (cb, 32, .inl (sa_bs x))), (qo, .inl (co, 32, .inl (sa_bs y))), (q1, .inl (c1, 16, .inl f)), (q2, .inl (c2, 8, .inl x))] H := hP
      have hD : va_D A [(h, .inr (0, [.ref qk, .ref qb, .ref qo])), (qk, .inl (ck, 64, .inl (sa_bs f))), (qb, .inl (cb, 32, .inl (sa_bs x))), (qo, .inl (co, 32, .inl (sa_bs y))), (q1, .inl (c1, 16, .inl f)), (q2, .inl (c2, 8, .inl x))] := hD
      refine W.widen (k := CC + 0) (n := SS + 0) (by omega) (by omega) ?_
      subst hw
      refine lv_topi (fun d1 ed1 => ?_)
      refine lv_istore (lv' := [(6, .int d1), (5, .int (nI (12 * k))), (0, .ref b), (1, .ref h), (2, .ref q1), (3, .ref q2), (4, .int (nI k))]) hx hb dL_law_62 hl (by decide) rfl (fun ls hl => ?_)
      refine lv_aload_n hx hb dL_law_64 rfl (lv_at hl 2 rfl) ?_
      refine lv_iload hx hb dL_law_65 (lv_at hl 1 rfl) ?_
      refine lv_iconst (v := 1) hx hb dL_law_67 (by decide) ?_
      refine lv_iadd hx hb dL_law_68 ?_
      refine sx_top (v := nI ((12 * k) + 1)) (nI_add (12 * k) 1) ?_
      have hPc := hP.sub (ws' := []) [] rfl
      have hDc := hD.sub (ws' := []) [] (by decide) rfl
      have hKc := hK.sub (tys' := []) [] rfl
      have hFc := va_free (wc := []) hD hS hA [] rfl
      refine va_calli (va_runS (As := [.ref b, .int (nI ((12 * k) + 1))]) (rest := []) ⟨hx, hb, hml, hown, hts⟩ (mt_cell l dC dI H.size b L ((12 * k) + 1) xs hL (by omega)) (va_cwS 2 hts (lw_S q260 q261 q7 q262) rfl rfl rfl (by decide +kernel) ⟨Nat.le_of_ble_eq_true rfl, Nat.le_of_ble_eq_true rfl⟩) ⟨sx_blindX, fun U hU hW => ⟨rfl, sx_Sc.pass hX hbl hbA hS hU hW, sx_Pre.mk hPc hKc hDc hU hW⟩⟩ rfl rfl hl.1 rfl (lv_room (Nat.le_of_ble_eq_true rfl)) dL_law_69 ⟨hrc (by omega), hrs (by omega)⟩) hS (fun q _ h => hFc q h) hFc (fun r_2 u t H1 locs ht hvm hw hB hz1 hk1 hS => ?_)
      obtain ⟨hP1, hD1⟩ := hB
      rw [ht] at hP1
      obtain ⟨hP, hD⟩ := va_join (wr := [(h, .inr (0, [.ref qk, .ref qb, .ref qo])), (qk, .inl (ck, 64, .inl (sa_bs f))), (qb, .inl (cb, 32, .inl (sa_bs x))), (qo, .inl (co, 32, .inl (sa_bs y))), (q1, .inl (c1, 16, .inl f)), (q2, .inl (c2, 8, .inl x))]) (w1 := []) hP hD [] [0, 1, 2, 3, 4, 5] rfl rfl (by decide) (by decide) hk1 hFc hP1 hD1
      generalize H1 = H at hP hS ⊢
      have hP : va_P (dC, dI) vwCl [(h, .inr (0, [.ref qk, .ref qb, .ref qo])), (qk, .inl (ck, 64, .inl (sa_bs f))), (qb, .inl (cb, 32, .inl (sa_bs x))), (qo, .inl (co, 32, .inl (sa_bs y))), (q1, .inl (c1, 16, .inl f)), (q2, .inl (c2, 8, .inl x))] H := hP
      have hD : va_D A [(h, .inr (0, [.ref qk, .ref qb, .ref qo])), (qk, .inl (ck, 64, .inl (sa_bs f))), (qb, .inl (cb, 32, .inl (sa_bs x))), (qo, .inl (co, 32, .inl (sa_bs y))), (q1, .inl (c1, 16, .inl f)), (q2, .inl (c2, 8, .inl x))] := hD
      refine W.widen (k := CC + 0) (n := SS + 0) (by omega) (by omega) ?_
      subst hw
      refine lv_topi (fun d2 ed2 => ?_)
      refine lv_istore (lv' := [(7, .int d2), (6, .int d1), (5, .int (nI (12 * k))), (0, .ref b), (1, .ref h), (2, .ref q1), (3, .ref q2), (4, .int (nI k))]) hx hb dL_law_72 hl (by decide) rfl (fun ls hl => ?_)
      refine lv_aload_n hx hb dL_law_74 rfl (lv_at hl 4 rfl) ?_
      refine lv_aload_n hx hb dL_law_75 rfl (lv_at hl 5 rfl) ?_
      refine lv_iload hx hb dL_law_76 (lv_at hl 1 rfl) ?_
      refine lv_aload_n hx hb dL_law_78 rfl (lv_at hl 3 rfl) ?_
      refine lv_iload hx hb dL_law_79 (lv_at hl 2 rfl) ?_
      refine lv_iconst (v := 2) hx hb dL_law_81 (by decide) ?_
      refine lv_iadd hx hb dL_law_82 ?_
      refine sx_top (v := nI ((12 * k) + 2)) (nI_add (12 * k) 2) ?_
      have hPc := hP.sub (ws' := []) [] rfl
      have hDc := hD.sub (ws' := []) [] (by decide) rfl
      have hKc := hK.sub (tys' := []) [] rfl
      have hFc := va_free (wc := []) hD hS hA [] rfl
      refine va_calli (va_runS (As := [.ref b, .int (nI ((12 * k) + 2))]) (rest := [.int d1, .ref q1, .ref h]) ⟨hx, hb, hml, hown, hts⟩ (mt_cell l dC dI H.size b L ((12 * k) + 2) xs hL (by omega)) (va_cwS 2 hts (lw_S q260 q261 q7 q262) rfl rfl rfl (by decide +kernel) ⟨Nat.le_of_ble_eq_true rfl, Nat.le_of_ble_eq_true rfl⟩) ⟨sx_blindX, fun U hU hW => ⟨rfl, sx_Sc.pass hX hbl hbA hS hU hW, sx_Pre.mk hPc hKc hDc hU hW⟩⟩ rfl rfl hl.1 rfl (lv_room (Nat.le_of_ble_eq_true rfl)) dL_law_83 ⟨hrc (by omega), hrs (by omega)⟩) hS (fun q _ h => hFc q h) hFc (fun r_3 u t H1 locs ht hvm hw hB hz1 hk1 hS => ?_)
      obtain ⟨hP1, hD1⟩ := hB
      rw [ht] at hP1
      obtain ⟨hP, hD⟩ := va_join (wr := [(h, .inr (0, [.ref qk, .ref qb, .ref qo])), (qk, .inl (ck, 64, .inl (sa_bs f))), (qb, .inl (cb, 32, .inl (sa_bs x))), (qo, .inl (co, 32, .inl (sa_bs y))), (q1, .inl (c1, 16, .inl f)), (q2, .inl (c2, 8, .inl x))]) (w1 := []) hP hD [] [0, 1, 2, 3, 4, 5] rfl rfl (by decide) (by decide) hk1 hFc hP1 hD1
      generalize H1 = H at hP hS ⊢
      have hP : va_P (dC, dI) vwCl [(h, .inr (0, [.ref qk, .ref qb, .ref qo])), (qk, .inl (ck, 64, .inl (sa_bs f))), (qb, .inl (cb, 32, .inl (sa_bs x))), (qo, .inl (co, 32, .inl (sa_bs y))), (q1, .inl (c1, 16, .inl f)), (q2, .inl (c2, 8, .inl x))] H := hP
      have hD : va_D A [(h, .inr (0, [.ref qk, .ref qb, .ref qo])), (qk, .inl (ck, 64, .inl (sa_bs f))), (qb, .inl (cb, 32, .inl (sa_bs x))), (qo, .inl (co, 32, .inl (sa_bs y))), (q1, .inl (c1, 16, .inl f)), (q2, .inl (c2, 8, .inl x))] := hD
      refine W.widen (k := CC + 0) (n := SS + 0) (by omega) (by omega) ?_
      subst hw
      refine lv_topi (fun a1 ea1 => ?_)
      refine lv_aload_n hx hb dL_law_86 rfl (lv_at hl 3 rfl) ?_
      refine lv_iload hx hb dL_law_87 (lv_at hl 2 rfl) ?_
      refine lv_iconst (v := 3) hx hb dL_law_89 (by decide) ?_
      refine lv_iadd hx hb dL_law_90 ?_
      refine sx_top (v := nI ((12 * k) + 3)) (nI_add (12 * k) 3) ?_
      have hPc := hP.sub (ws' := []) [] rfl
      have hDc := hD.sub (ws' := []) [] (by decide) rfl
      have hKc := hK.sub (tys' := []) [] rfl
      have hFc := va_free (wc := []) hD hS hA [] rfl
      refine va_calli (va_runS (As := [.ref b, .int (nI ((12 * k) + 3))]) (rest := [.int a1, .int d1, .ref q1, .ref h]) ⟨hx, hb, hml, hown, hts⟩ (mt_cell l dC dI H.size b L ((12 * k) + 3) xs hL (by omega)) (va_cwS 2 hts (lw_S q260 q261 q7 q262) rfl rfl rfl (by decide +kernel) ⟨Nat.le_of_ble_eq_true rfl, Nat.le_of_ble_eq_true rfl⟩) ⟨sx_blindX, fun U hU hW => ⟨rfl, sx_Sc.pass hX hbl hbA hS hU hW, sx_Pre.mk hPc hKc hDc hU hW⟩⟩ rfl rfl hl.1 rfl (lv_room (Nat.le_of_ble_eq_true rfl)) dL_law_91 ⟨hrc (by omega), hrs (by omega)⟩) hS (fun q _ h => hFc q h) hFc (fun r_4 u t H1 locs ht hvm hw hB hz1 hk1 hS => ?_)
      obtain ⟨hP1, hD1⟩ := hB
      rw [ht] at hP1
      obtain ⟨hP, hD⟩ := va_join (wr := [(h, .inr (0, [.ref qk, .ref qb, .ref qo])), (qk, .inl (ck, 64, .inl (sa_bs f))), (qb, .inl (cb, 32, .inl (sa_bs x))), (qo, .inl (co, 32, .inl (sa_bs y))), (q1, .inl (c1, 16, .inl f)), (q2, .inl (c2, 8, .inl x))]) (w1 := []) hP hD [] [0, 1, 2, 3, 4, 5] rfl rfl (by decide) (by decide) hk1 hFc hP1 hD1
      generalize H1 = H at hP hS ⊢
      have hP : va_P (dC, dI) vwCl [(h, .inr (0, [.ref qk, .ref qb, .ref qo])), (qk, .inl (ck, 64, .inl (sa_bs f))), (qb, .inl (cb, 32, .inl (sa_bs x))), (qo, .inl (co, 32, .inl (sa_bs y))), (q1, .inl (c1, 16, .inl f)), (q2, .inl (c2, 8, .inl x))] H := hP
      have hD : va_D A [(h, .inr (0, [.ref qk, .ref qb, .ref qo])), (qk, .inl (ck, 64, .inl (sa_bs f))), (qb, .inl (cb, 32, .inl (sa_bs x))), (qo, .inl (co, 32, .inl (sa_bs y))), (q1, .inl (c1, 16, .inl f)), (q2, .inl (c2, 8, .inl x))] := hD
      refine W.widen (k := CC + 0) (n := SS + 0) (by omega) (by omega) ?_
      subst hw
      refine lv_topi (fun a2 ea2 => ?_)
      refine lv_aload_n hx hb dL_law_94 rfl (lv_at hl 3 rfl) ?_
      refine lv_iload hx hb dL_law_95 (lv_at hl 2 rfl) ?_
      refine lv_iconst (v := 4) hx hb dL_law_97 (by decide) ?_
      refine lv_iadd hx hb dL_law_98 ?_
      refine sx_top (v := nI ((12 * k) + 4)) (nI_add (12 * k) 4) ?_
      have hPc := hP.sub (ws' := []) [] rfl
      have hDc := hD.sub (ws' := []) [] (by decide) rfl
      have hKc := hK.sub (tys' := []) [] rfl
      have hFc := va_free (wc := []) hD hS hA [] rfl
      refine va_calli (va_runS (As := [.ref b, .int (nI ((12 * k) + 4))]) (rest := [.int a2, .int a1, .int d1, .ref q1, .ref h]) ⟨hx, hb, hml, hown, hts⟩ (mt_cell l dC dI H.size b L ((12 * k) + 4) xs hL (by omega)) (va_cwS 2 hts (lw_S q260 q261 q7 q262) rfl rfl rfl (by decide +kernel) ⟨Nat.le_of_ble_eq_true rfl, Nat.le_of_ble_eq_true rfl⟩) ⟨sx_blindX, fun U hU hW => ⟨rfl, sx_Sc.pass hX hbl hbA hS hU hW, sx_Pre.mk hPc hKc hDc hU hW⟩⟩ rfl rfl hl.1 rfl (lv_room (Nat.le_of_ble_eq_true rfl)) dL_law_99 ⟨hrc (by omega), hrs (by omega)⟩) hS (fun q _ h => hFc q h) hFc (fun r_5 u t H1 locs ht hvm hw hB hz1 hk1 hS => ?_)
      obtain ⟨hP1, hD1⟩ := hB
      rw [ht] at hP1
      obtain ⟨hP, hD⟩ := va_join (wr := [(h, .inr (0, [.ref qk, .ref qb, .ref qo])), (qk, .inl (ck, 64, .inl (sa_bs f))), (qb, .inl (cb, 32, .inl (sa_bs x))), (qo, .inl (co, 32, .inl (sa_bs y))), (q1, .inl (c1, 16, .inl f)), (q2, .inl (c2, 8, .inl x))]) (w1 := []) hP hD [] [0, 1, 2, 3, 4, 5] rfl rfl (by decide) (by decide) hk1 hFc hP1 hD1
      generalize H1 = H at hP hS ⊢
      have hP : va_P (dC, dI) vwCl [(h, .inr (0, [.ref qk, .ref qb, .ref qo])), (qk, .inl (ck, 64, .inl (sa_bs f))), (qb, .inl (cb, 32, .inl (sa_bs x))), (qo, .inl (co, 32, .inl (sa_bs y))), (q1, .inl (c1, 16, .inl f)), (q2, .inl (c2, 8, .inl x))] H := hP
      have hD : va_D A [(h, .inr (0, [.ref qk, .ref qb, .ref qo])), (qk, .inl (ck, 64, .inl (sa_bs f))), (qb, .inl (cb, 32, .inl (sa_bs x))), (qo, .inl (co, 32, .inl (sa_bs y))), (q1, .inl (c1, 16, .inl f)), (q2, .inl (c2, 8, .inl x))] := hD
      refine W.widen (k := CC + 0) (n := SS + 0) (by omega) (by omega) ?_
      subst hw
      refine lv_topi (fun a3 ea3 => ?_)
      refine lv_aload_n hx hb dL_law_102 rfl (lv_at hl 3 rfl) ?_
      refine lv_iload hx hb dL_law_103 (lv_at hl 2 rfl) ?_
      refine lv_iconst (v := 5) hx hb dL_law_105 (by decide) ?_
      refine lv_iadd hx hb dL_law_106 ?_
      refine sx_top (v := nI ((12 * k) + 5)) (nI_add (12 * k) 5) ?_
      have hPc := hP.sub (ws' := []) [] rfl
      have hDc := hD.sub (ws' := []) [] (by decide) rfl
      have hKc := hK.sub (tys' := []) [] rfl
      have hFc := va_free (wc := []) hD hS hA [] rfl
      refine va_calli (va_runS (As := [.ref b, .int (nI ((12 * k) + 5))]) (rest := [.int a3, .int a2, .int a1, .int d1, .ref q1, .ref h]) ⟨hx, hb, hml, hown, hts⟩ (mt_cell l dC dI H.size b L ((12 * k) + 5) xs hL (by omega)) (va_cwS 2 hts (lw_S q260 q261 q7 q262) rfl rfl rfl (by decide +kernel) ⟨Nat.le_of_ble_eq_true rfl, Nat.le_of_ble_eq_true rfl⟩) ⟨sx_blindX, fun U hU hW => ⟨rfl, sx_Sc.pass hX hbl hbA hS hU hW, sx_Pre.mk hPc hKc hDc hU hW⟩⟩ rfl rfl hl.1 rfl (lv_room (Nat.le_of_ble_eq_true rfl)) dL_law_107 ⟨hrc (by omega), hrs (by omega)⟩) hS (fun q _ h => hFc q h) hFc (fun r_6 u t H1 locs ht hvm hw hB hz1 hk1 hS => ?_)
      obtain ⟨hP1, hD1⟩ := hB
      rw [ht] at hP1
      obtain ⟨hP, hD⟩ := va_join (wr := [(h, .inr (0, [.ref qk, .ref qb, .ref qo])), (qk, .inl (ck, 64, .inl (sa_bs f))), (qb, .inl (cb, 32, .inl (sa_bs x))), (qo, .inl (co, 32, .inl (sa_bs y))), (q1, .inl (c1, 16, .inl f)), (q2, .inl (c2, 8, .inl x))]) (w1 := []) hP hD [] [0, 1, 2, 3, 4, 5] rfl rfl (by decide) (by decide) hk1 hFc hP1 hD1
      generalize H1 = H at hP hS ⊢
      have hP : va_P (dC, dI) vwCl [(h, .inr (0, [.ref qk, .ref qb, .ref qo])), (qk, .inl (ck, 64, .inl (sa_bs f))), (qb, .inl (cb, 32, .inl (sa_bs x))), (qo, .inl (co, 32, .inl (sa_bs y))), (q1, .inl (c1, 16, .inl f)), (q2, .inl (c2, 8, .inl x))] H := hP
      have hD : va_D A [(h, .inr (0, [.ref qk, .ref qb, .ref qo])), (qk, .inl (ck, 64, .inl (sa_bs f))), (qb, .inl (cb, 32, .inl (sa_bs x))), (qo, .inl (co, 32, .inl (sa_bs y))), (q1, .inl (c1, 16, .inl f)), (q2, .inl (c2, 8, .inl x))] := hD
      refine W.widen (k := CC + 0) (n := SS + 0) (by omega) (by omega) ?_
      subst hw
      refine lv_topi (fun a4 ea4 => ?_)
      obtain ⟨pp, hpp, epp⟩ := pk_andE d1 (m := 3) 2 (by decide)
      have hPc := hP.sub (ws' := [(h, .inr (0, [.ref qk, .ref qb, .ref qo])), (qk, .inl (ck, 64, .inl (sa_bs f))), (q1, .inl (c1, 16, .inl f))]) [0, 1, 4] rfl
      have hDc := hD.sub (ws' := [(h, .inr (0, [.ref qk, .ref qb, .ref qo])), (qk, .inl (ck, 64, .inl (sa_bs f))), (q1, .inl (c1, 16, .inl f))]) [0, 1, 4] (by decide) rfl
      have hKc := hK.sub (tys' := [(ck, .byte), (c1, .int)]) [0, 3] rfl
      have hFc := va_free (wc := [(h, .inr (0, [.ref qk, .ref qb, .ref qo])), (qk, .inl (ck, 64, .inl (sa_bs f))), (q1, .inl (c1, 16, .inl f))]) hD hS hA [0, 1, 4] rfl
      refine va_callv (va_runS (As := [.ref h, .ref q1, .int d1, .int a1, .int a2, .int a3, .int a4]) (rest := []) ⟨hx, hb, hml, hown, hts⟩ (mt_lays l dC dI H.size h qk qb qo q1 ck c1 f pp d1 a1 a2 a3 a4 epp (by omega)) (va_cwS 7 hts (lw_S q281 q282 q7 q283) rfl rfl rfl (by decide +kernel) ⟨Nat.le_of_ble_eq_true rfl, Nat.le_of_ble_eq_true rfl⟩) ⟨sx_blind, fun U hU hW => ⟨rfl, sx_Pre.mk hPc hKc hDc hU hW⟩⟩ rfl rfl hl.1 rfl (lv_room (Nat.le_of_ble_eq_true rfl)) dL_law_110 ⟨hrc (by omega), hrs (by omega)⟩) hS (fun q _ h => hFc q h) hFc (fun u t H1 locs ht hvm hw hB hz1 hk1 hS => ?_)
      obtain ⟨hP1, hD1⟩ := hB
      rw [ht] at hP1
      obtain ⟨hP, hD⟩ := va_join (wr := [(qb, .inl (cb, 32, .inl (sa_bs x))), (qo, .inl (co, 32, .inl (sa_bs y))), (q2, .inl (c2, 8, .inl x))]) (w1 := [(h, .inr (0, [.ref qk, .ref qb, .ref qo])), (qk, .inl (ck, 64, .inl (sa_bs (sa_k4 f pp a1 a2 a3 a4)))), (q1, .inl (c1, 16, .inl (sa_k4 f pp a1 a2 a3 a4)))]) hP hD [0, 1, 4] [2, 3, 5] rfl rfl (by decide) (by decide) hk1 hFc hP1 hD1
      generalize H1 = H at hP hS ⊢
      have hP : va_P (dC, dI) vwCl [(qb, .inl (cb, 32, .inl (sa_bs x))), (qo, .inl (co, 32, .inl (sa_bs y))), (q2, .inl (c2, 8, .inl x)), (h, .inr (0, [.ref qk, .ref qb, .ref qo])), (qk, .inl (ck, 64, .inl (sa_bs (sa_k4 f pp a1 a2 a3 a4)))), (q1, .inl (c1, 16, .inl (sa_k4 f pp a1 a2 a3 a4)))] H := hP
      have hD : va_D A [(qb, .inl (cb, 32, .inl (sa_bs x))), (qo, .inl (co, 32, .inl (sa_bs y))), (q2, .inl (c2, 8, .inl x)), (h, .inr (0, [.ref qk, .ref qb, .ref qo])), (qk, .inl (ck, 64, .inl (sa_bs (sa_k4 f pp a1 a2 a3 a4)))), (q1, .inl (c1, 16, .inl (sa_k4 f pp a1 a2 a3 a4)))] := hD
      refine W.widen (k := CC + 0) (n := SS + 0) (by omega) (by omega) ?_
      obtain ⟨f2, ef2⟩ : ∃ z : Nat → Int32, z = sa_k4 f pp a1 a2 a3 a4 := ⟨_, rfl⟩
      rw [← ef2] at hP hD
      have hP : va_P (dC, dI) vwCl [(qb, .inl (cb, 32, .inl (sa_bs x))), (qo, .inl (co, 32, .inl (sa_bs y))), (q2, .inl (c2, 8, .inl x)), (h, .inr (0, [.ref qk, .ref qb, .ref qo])), (qk, .inl (ck, 64, .inl (sa_bs f2))), (q1, .inl (c1, 16, .inl f2))] H := hP
      have hD : va_D A [(qb, .inl (cb, 32, .inl (sa_bs x))), (qo, .inl (co, 32, .inl (sa_bs y))), (q2, .inl (c2, 8, .inl x)), (h, .inr (0, [.ref qk, .ref qb, .ref qo])), (qk, .inl (ck, 64, .inl (sa_bs f2))), (q1, .inl (c1, 16, .inl f2))] := hD
      refine lv_aload_n hx hb dL_law_113 rfl (lv_at hl 4 rfl) ?_
      refine lv_aload_n hx hb dL_law_114 rfl (lv_at hl 6 rfl) ?_
      refine lv_iload hx hb dL_law_115 (lv_at hl 0 rfl) ?_
      refine lv_aload_n hx hb dL_law_117 rfl (lv_at hl 3 rfl) ?_
      refine lv_iload hx hb dL_law_118 (lv_at hl 2 rfl) ?_
      refine lv_bipush (v := 6) hx hb dL_law_120 (by decide) ?_
      refine lv_iadd hx hb dL_law_122 ?_
      refine sx_top (v := nI ((12 * k) + 6)) (nI_add (12 * k) 6) ?_
      have hPc := hP.sub (ws' := []) [] rfl
      have hDc := hD.sub (ws' := []) [] (by decide) rfl
      have hKc := hK.sub (tys' := []) [] rfl
      have hFc := va_free (wc := []) hD hS hA [] rfl
      refine va_calli (va_runS (As := [.ref b, .int (nI ((12 * k) + 6))]) (rest := [.int d2, .ref q2, .ref h]) ⟨hx, hb, hml, hown, hts⟩ (mt_cell l dC dI H.size b L ((12 * k) + 6) xs hL (by omega)) (va_cwS 2 hts (lw_S q260 q261 q7 q262) rfl rfl rfl (by decide +kernel) ⟨Nat.le_of_ble_eq_true rfl, Nat.le_of_ble_eq_true rfl⟩) ⟨sx_blindX, fun U hU hW => ⟨rfl, sx_Sc.pass hX hbl hbA hS hU hW, sx_Pre.mk hPc hKc hDc hU hW⟩⟩ rfl rfl hl.1 rfl (lv_room (Nat.le_of_ble_eq_true rfl)) dL_law_123 ⟨hrc (by omega), hrs (by omega)⟩) hS (fun q _ h => hFc q h) hFc (fun r_7 u t H1 locs ht hvm hw hB hz1 hk1 hS => ?_)
      obtain ⟨hP1, hD1⟩ := hB
      rw [ht] at hP1
      obtain ⟨hP, hD⟩ := va_join (wr := [(qb, .inl (cb, 32, .inl (sa_bs x))), (qo, .inl (co, 32, .inl (sa_bs y))), (q2, .inl (c2, 8, .inl x)), (h, .inr (0, [.ref qk, .ref qb, .ref qo])), (qk, .inl (ck, 64, .inl (sa_bs f2))), (q1, .inl (c1, 16, .inl f2))]) (w1 := []) hP hD [] [0, 1, 2, 3, 4, 5] rfl rfl (by decide) (by decide) hk1 hFc hP1 hD1
      generalize H1 = H at hP hS ⊢
      have hP : va_P (dC, dI) vwCl [(qb, .inl (cb, 32, .inl (sa_bs x))), (qo, .inl (co, 32, .inl (sa_bs y))), (q2, .inl (c2, 8, .inl x)), (h, .inr (0, [.ref qk, .ref qb, .ref qo])), (qk, .inl (ck, 64, .inl (sa_bs f2))), (q1, .inl (c1, 16, .inl f2))] H := hP
      have hD : va_D A [(qb, .inl (cb, 32, .inl (sa_bs x))), (qo, .inl (co, 32, .inl (sa_bs y))), (q2, .inl (c2, 8, .inl x)), (h, .inr (0, [.ref qk, .ref qb, .ref qo])), (qk, .inl (ck, 64, .inl (sa_bs f2))), (q1, .inl (c1, 16, .inl f2))] := hD
      refine W.widen (k := CC + 0) (n := SS + 0) (by omega) (by omega) ?_
      subst hw
      refine lv_topi (fun a5 ea5 => ?_)
      refine lv_aload_n hx hb dL_law_126 rfl (lv_at hl 3 rfl) ?_
      refine lv_iload hx hb dL_law_127 (lv_at hl 2 rfl) ?_
      refine lv_bipush (v := 7) hx hb dL_law_129 (by decide) ?_
      refine lv_iadd hx hb dL_law_131 ?_
      refine sx_top (v := nI ((12 * k) + 7)) (nI_add (12 * k) 7) ?_
      have hPc := hP.sub (ws' := []) [] rfl
      have hDc := hD.sub (ws' := []) [] (by decide) rfl
      have hKc := hK.sub (tys' := []) [] rfl
      have hFc := va_free (wc := []) hD hS hA [] rfl
      refine va_calli (va_runS (As := [.ref b, .int (nI ((12 * k) + 7))]) (rest := [.int a5, .int d2, .ref q2, .ref h]) ⟨hx, hb, hml, hown, hts⟩ (mt_cell l dC dI H.size b L ((12 * k) + 7) xs hL (by omega)) (va_cwS 2 hts (lw_S q260 q261 q7 q262) rfl rfl rfl (by decide +kernel) ⟨Nat.le_of_ble_eq_true rfl, Nat.le_of_ble_eq_true rfl⟩) ⟨sx_blindX, fun U hU hW => ⟨rfl, sx_Sc.pass hX hbl hbA hS hU hW, sx_Pre.mk hPc hKc hDc hU hW⟩⟩ rfl rfl hl.1 rfl (lv_room (Nat.le_of_ble_eq_true rfl)) dL_law_132 ⟨hrc (by omega), hrs (by omega)⟩) hS (fun q _ h => hFc q h) hFc (fun r_8 u t H1 locs ht hvm hw hB hz1 hk1 hS => ?_)
      obtain ⟨hP1, hD1⟩ := hB
      rw [ht] at hP1
      obtain ⟨hP, hD⟩ := va_join (wr := [(qb, .inl (cb, 32, .inl (sa_bs x))), (qo, .inl (co, 32, .inl (sa_bs y))), (q2, .inl (c2, 8, .inl x)), (h, .inr (0, [.ref qk, .ref qb, .ref qo])), (qk, .inl (ck, 64, .inl (sa_bs f2))), (q1, .inl (c1, 16, .inl f2))]) (w1 := []) hP hD [] [0, 1, 2, 3, 4, 5] rfl rfl (by decide) (by decide) hk1 hFc hP1 hD1
      generalize H1 = H at hP hS ⊢
      have hP : va_P (dC, dI) vwCl [(qb, .inl (cb, 32, .inl (sa_bs x))), (qo, .inl (co, 32, .inl (sa_bs y))), (q2, .inl (c2, 8, .inl x)), (h, .inr (0, [.ref qk, .ref qb, .ref qo])), (qk, .inl (ck, 64, .inl (sa_bs f2))), (q1, .inl (c1, 16, .inl f2))] H := hP
      have hD : va_D A [(qb, .inl (cb, 32, .inl (sa_bs x))), (qo, .inl (co, 32, .inl (sa_bs y))), (q2, .inl (c2, 8, .inl x)), (h, .inr (0, [.ref qk, .ref qb, .ref qo])), (qk, .inl (ck, 64, .inl (sa_bs f2))), (q1, .inl (c1, 16, .inl f2))] := hD
      refine W.widen (k := CC + 0) (n := SS + 0) (by omega) (by omega) ?_
      subst hw
      refine lv_topi (fun a6 ea6 => ?_)
      refine lv_aload_n hx hb dL_law_135 rfl (lv_at hl 3 rfl) ?_
      refine lv_iload hx hb dL_law_136 (lv_at hl 2 rfl) ?_
      refine lv_bipush (v := 8) hx hb dL_law_138 (by decide) ?_
      refine lv_iadd hx hb dL_law_140 ?_
      refine sx_top (v := nI ((12 * k) + 8)) (nI_add (12 * k) 8) ?_
      have hPc := hP.sub (ws' := []) [] rfl
      have hDc := hD.sub (ws' := []) [] (by decide) rfl
      have hKc := hK.sub (tys' := []) [] rfl
      have hFc := va_free (wc := []) hD hS hA [] rfl
      refine va_calli (va_runS (As := [.ref b, .int (nI ((12 * k) + 8))]) (rest := [.int a6, .int a5, .int d2, .ref q2, .ref h]) ⟨hx, hb, hml, hown, hts⟩ (mt_cell l dC dI H.size b L ((12 * k) + 8) xs hL (by omega)) (va_cwS 2 hts (lw_S q260 q261 q7 q262) rfl rfl rfl (by decide +kernel) ⟨Nat.le_of_ble_eq_true rfl, Nat.le_of_ble_eq_true rfl⟩) ⟨sx_blindX, fun U hU hW => ⟨rfl, sx_Sc.pass hX hbl hbA hS hU hW, sx_Pre.mk hPc hKc hDc hU hW⟩⟩ rfl rfl hl.1 rfl (lv_room (Nat.le_of_ble_eq_true rfl)) dL_law_141 ⟨hrc (by omega), hrs (by omega)⟩) hS (fun q _ h => hFc q h) hFc (fun r_9 u t H1 locs ht hvm hw hB hz1 hk1 hS => ?_)
      obtain ⟨hP1, hD1⟩ := hB
      rw [ht] at hP1
      obtain ⟨hP, hD⟩ := va_join (wr := [(qb, .inl (cb, 32, .inl (sa_bs x))), (qo, .inl (co, 32, .inl (sa_bs y))), (q2, .inl (c2, 8, .inl x)), (h, .inr (0, [.ref qk, .ref qb, .ref qo])), (qk, .inl (ck, 64, .inl (sa_bs f2))), (q1, .inl (c1, 16, .inl f2))]) (w1 := []) hP hD [] [0, 1, 2, 3, 4, 5] rfl rfl (by decide) (by decide) hk1 hFc hP1 hD1
      generalize H1 = H at hP hS ⊢
      have hP : va_P (dC, dI) vwCl [(qb, .inl (cb, 32, .inl (sa_bs x))), (qo, .inl (co, 32, .inl (sa_bs y))), (q2, .inl (c2, 8, .inl x)), (h, .inr (0, [.ref qk, .ref qb, .ref qo])), (qk, .inl (ck, 64, .inl (sa_bs f2))), (q1, .inl (c1, 16, .inl f2))] H := hP
      have hD : va_D A [(qb, .inl (cb, 32, .inl (sa_bs x))), (qo, .inl (co, 32, .inl (sa_bs y))), (q2, .inl (c2, 8, .inl x)), (h, .inr (0, [.ref qk, .ref qb, .ref qo])), (qk, .inl (ck, 64, .inl (sa_bs f2))), (q1, .inl (c1, 16, .inl f2))] := hD
      refine W.widen (k := CC + 0) (n := SS + 0) (by omega) (by omega) ?_
      subst hw
      refine lv_topi (fun a7 ea7 => ?_)
      refine lv_aload_n hx hb dL_law_144 rfl (lv_at hl 3 rfl) ?_
      refine lv_iload hx hb dL_law_145 (lv_at hl 2 rfl) ?_
      refine lv_bipush (v := 9) hx hb dL_law_147 (by decide) ?_
      refine lv_iadd hx hb dL_law_149 ?_
      refine sx_top (v := nI ((12 * k) + 9)) (nI_add (12 * k) 9) ?_
      have hPc := hP.sub (ws' := []) [] rfl
      have hDc := hD.sub (ws' := []) [] (by decide) rfl
      have hKc := hK.sub (tys' := []) [] rfl
      have hFc := va_free (wc := []) hD hS hA [] rfl
      refine va_calli (va_runS (As := [.ref b, .int (nI ((12 * k) + 9))]) (rest := [.int a7, .int a6, .int a5, .int d2, .ref q2, .ref h]) ⟨hx, hb, hml, hown, hts⟩ (mt_cell l dC dI H.size b L ((12 * k) + 9) xs hL (by omega)) (va_cwS 2 hts (lw_S q260 q261 q7 q262) rfl rfl rfl (by decide +kernel) ⟨Nat.le_of_ble_eq_true rfl, Nat.le_of_ble_eq_true rfl⟩) ⟨sx_blindX, fun U hU hW => ⟨rfl, sx_Sc.pass hX hbl hbA hS hU hW, sx_Pre.mk hPc hKc hDc hU hW⟩⟩ rfl rfl hl.1 rfl (lv_room (Nat.le_of_ble_eq_true rfl)) dL_law_150 ⟨hrc (by omega), hrs (by omega)⟩) hS (fun q _ h => hFc q h) hFc (fun r_10 u t H1 locs ht hvm hw hB hz1 hk1 hS => ?_)
      obtain ⟨hP1, hD1⟩ := hB
      rw [ht] at hP1
      obtain ⟨hP, hD⟩ := va_join (wr := [(qb, .inl (cb, 32, .inl (sa_bs x))), (qo, .inl (co, 32, .inl (sa_bs y))), (q2, .inl (c2, 8, .inl x)), (h, .inr (0, [.ref qk, .ref qb, .ref qo])), (qk, .inl (ck, 64, .inl (sa_bs f2))), (q1, .inl (c1, 16, .inl f2))]) (w1 := []) hP hD [] [0, 1, 2, 3, 4, 5] rfl rfl (by decide) (by decide) hk1 hFc hP1 hD1
      generalize H1 = H at hP hS ⊢
      have hP : va_P (dC, dI) vwCl [(qb, .inl (cb, 32, .inl (sa_bs x))), (qo, .inl (co, 32, .inl (sa_bs y))), (q2, .inl (c2, 8, .inl x)), (h, .inr (0, [.ref qk, .ref qb, .ref qo])), (qk, .inl (ck, 64, .inl (sa_bs f2))), (q1, .inl (c1, 16, .inl f2))] H := hP
      have hD : va_D A [(qb, .inl (cb, 32, .inl (sa_bs x))), (qo, .inl (co, 32, .inl (sa_bs y))), (q2, .inl (c2, 8, .inl x)), (h, .inr (0, [.ref qk, .ref qb, .ref qo])), (qk, .inl (ck, 64, .inl (sa_bs f2))), (q1, .inl (c1, 16, .inl f2))] := hD
      refine W.widen (k := CC + 0) (n := SS + 0) (by omega) (by omega) ?_
      subst hw
      refine lv_topi (fun a8 ea8 => ?_)
      obtain ⟨pb, hpb, epb⟩ := pk_andE d2 (m := 1) 1 (by decide)
      have hPc := hP.sub (ws' := [(h, .inr (0, [.ref qk, .ref qb, .ref qo])), (qb, .inl (cb, 32, .inl (sa_bs x))), (q2, .inl (c2, 8, .inl x))]) [3, 0, 2] rfl
      have hDc := hD.sub (ws' := [(h, .inr (0, [.ref qk, .ref qb, .ref qo])), (qb, .inl (cb, 32, .inl (sa_bs x))), (q2, .inl (c2, 8, .inl x))]) [3, 0, 2] (by decide) rfl
      have hKc := hK.sub (tys' := [(cb, .byte), (c2, .int)]) [1, 4] rfl
      have hFc := va_free (wc := [(h, .inr (0, [.ref qk, .ref qb, .ref qo])), (qb, .inl (cb, 32, .inl (sa_bs x))), (q2, .inl (c2, 8, .inl x))]) hD hS hA [3, 0, 2] rfl
      refine va_callv (va_runS (As := [.ref h, .ref q2, .int d2, .int a5, .int a6, .int a7, .int a8]) (rest := []) ⟨hx, hb, hml, hown, hts⟩ (mt_puts l dC dI H.size h qk qb qo q2 cb c2 x pb d2 a5 a6 a7 a8 epb (by omega)) (va_cwS 7 hts (lw_S q291 q292 q7 q293) rfl rfl rfl (by decide +kernel) ⟨Nat.le_of_ble_eq_true rfl, Nat.le_of_ble_eq_true rfl⟩) ⟨sx_blind, fun U hU hW => ⟨rfl, sx_Pre.mk hPc hKc hDc hU hW⟩⟩ rfl rfl hl.1 rfl (lv_room (Nat.le_of_ble_eq_true rfl)) dL_law_153 ⟨hrc (by omega), hrs (by omega)⟩) hS (fun q _ h => hFc q h) hFc (fun u t H1 locs ht hvm hw hB hz1 hk1 hS => ?_)
      obtain ⟨hP1, hD1⟩ := hB
      rw [ht] at hP1
      obtain ⟨hP, hD⟩ := va_join (wr := [(qo, .inl (co, 32, .inl (sa_bs y))), (qk, .inl (ck, 64, .inl (sa_bs f2))), (q1, .inl (c1, 16, .inl f2))]) (w1 := [(h, .inr (0, [.ref qk, .ref qb, .ref qo])), (qb, .inl (cb, 32, .inl (sa_bs (sa_k4 x pb a5 a6 a7 a8)))), (q2, .inl (c2, 8, .inl (sa_k4 x pb a5 a6 a7 a8)))]) hP hD [3, 0, 2] [1, 4, 5] rfl rfl (by decide) (by decide) hk1 hFc hP1 hD1
      generalize H1 = H at hP hS ⊢
      have hP : va_P (dC, dI) vwCl [(qo, .inl (co, 32, .inl (sa_bs y))), (qk, .inl (ck, 64, .inl (sa_bs f2))), (q1, .inl (c1, 16, .inl f2)), (h, .inr (0, [.ref qk, .ref qb, .ref qo])), (qb, .inl (cb, 32, .inl (sa_bs (sa_k4 x pb a5 a6 a7 a8)))), (q2, .inl (c2, 8, .inl (sa_k4 x pb a5 a6 a7 a8)))] H := hP
      have hD : va_D A [(qo, .inl (co, 32, .inl (sa_bs y))), (qk, .inl (ck, 64, .inl (sa_bs f2))), (q1, .inl (c1, 16, .inl f2)), (h, .inr (0, [.ref qk, .ref qb, .ref qo])), (qb, .inl (cb, 32, .inl (sa_bs (sa_k4 x pb a5 a6 a7 a8)))), (q2, .inl (c2, 8, .inl (sa_k4 x pb a5 a6 a7 a8)))] := hD
      refine W.widen (k := CC + 0) (n := SS + 0) (by omega) (by omega) ?_
      obtain ⟨x2, ex2⟩ : ∃ z : Nat → Int32, z = sa_k4 x pb a5 a6 a7 a8 := ⟨_, rfl⟩
      rw [← ex2] at hP hD
      have hP : va_P (dC, dI) vwCl [(qo, .inl (co, 32, .inl (sa_bs y))), (qk, .inl (ck, 64, .inl (sa_bs f2))), (q1, .inl (c1, 16, .inl f2)), (h, .inr (0, [.ref qk, .ref qb, .ref qo])), (qb, .inl (cb, 32, .inl (sa_bs x2))), (q2, .inl (c2, 8, .inl x2))] H := hP
      have hD : va_D A [(qo, .inl (co, 32, .inl (sa_bs y))), (qk, .inl (ck, 64, .inl (sa_bs f2))), (q1, .inl (c1, 16, .inl f2)), (h, .inr (0, [.ref qk, .ref qb, .ref qo])), (qb, .inl (cb, 32, .inl (sa_bs x2))), (q2, .inl (c2, 8, .inl x2))] := hD
      refine lv_iconst (v := 0) hx hb dL_law_156 (by decide) ?_
      refine lv_istore (lv' := [(8, .int 0), (7, .int d2), (6, .int d1), (5, .int (nI (12 * k))), (0, .ref b), (1, .ref h), (2, .ref q1), (3, .ref q2), (4, .int (nI k))]) hx hb dL_law_157 hl (by decide) rfl (fun ls hl => ?_)
      have hl : lv_has ls 13 [(8, .int (nI 0)), (7, .int d2), (6, .int d1), (5, .int (nI (12 * k))), (0, .ref b), (1, .ref h), (2, .ref q1), (3, .ref q2), (4, .int (nI k))] := hl
      refine lz_in hL hx hb hml hown hts hA hX hbl hbA hFw hEK hER h qk qb qo q1 k CC SS ck cb co c1 f2 d1 d2 hlt (by omega) (by omega) 3 0 (by omega) (by omega) q2 c2 x2 y H locs ls (hK.sub [0, 1, 2, 3, 4] rfl) (hP.sub [3, 1, 4, 0, 2, 5] rfl) (hD.sub [3, 1, 4, 0, 2, 5] (by decide) rfl) hS (lv_sub hl [4, 5, 6, 7, 8, 3, 2, 1, 0] rfl) (fun q2 c2 x3 y3 H locs ls hK hP hD hS hl => ?_)
      refine lv_iinc (v := nI (k + 1)) (lv' := [(4, .int (nI (k + 1))), (0, .ref b), (1, .ref h), (2, .ref q1), (3, .ref q2), (5, .int (nI (12 * k))), (6, .int d1), (7, .int d2)]) hx hb dL_law_359 hl (k := 4) rfl (nI_1 k) (by decide) rfl (fun ls hl => ?_)
      refine lv_goto (tgt := 42) hx hb dL_law_362 (by decide) ?_
      refine W.widen (k := C0 + 36 * (k + 1)) (n := S0 + 1132 * (k + 1)) (by omega) (by omega) ?_
      exact ih (k + 1) (by omega) (by omega) q2 c2 f2 x3 y3 H locs ls hK hP hD hS (lv_sub hl [1, 2, 3, 4, 0] rfl) kk
set_option maxHeartbeats 4000000 in
set_option maxRecDepth 100000 in
/-- the law from its entry to its last two instructions -/
theorem lz_all {p : Program} {l : Launch} {e : Env} {s : State} {m : MethodId} {args : Array Value} {below : List Frame} {meth : Method} {c : Code} {Q : State → Prop} {A : Nat → Prop} {dC : Nat → ClassId} {dI : Nat → Nat → Nat} {b L tK tR : Nat} {xs : Nat → Int32} (hL : L ≤ 96) (hx : p.tables.exec = Jvm.exec) (hb : c.code = cL_law) (hml : c.maxLocals = 13) (hown : s.vm.findClass RX0 = some m.cls) (hts : ∀ w ∈ lw_all, w.before args s = true) (hA : ∀ q : Nat, s.heap.size ≤ q → A q) (hX : va_X b L xs s s.heap) (hbl : b < s.heap.size) (hbA : ¬ A b) (hFw : sx_Fw s) (hEK : sx_St "Shacal2Engine" "K" tK sa_rk A s) (hER : sx_St "ShacalDeskLaw" "ROOTS" tR sa_rk A s) (hK : va_K (dC, dI) vwCl [] s) (ls : Array Slot) (hl : lv_has ls 13 [(0, .ref b)]) (kk : ∀ (H : Heap) (locs : List Loc) (ls : Array Slot), va_S A s.heap H locs → W p l e room_1 s m args below meth c H locs (8 + 36 * 8) (171 + 1132 * 8) Q (F0 m 365 ls [])) : W p l e room_1 s m args below meth c s.heap [] 0 0 Q (F0 m 0 ls []) := by
  have hS : va_S A s.heap s.heap [] := va_S.rf
  have hP : va_P (dC, dI) vwCl [] s.heap := fun k q h => by simp at h
  have hD : va_D A [] := ⟨fun i j p q h => by simp at h, fun k q h => by simp at h⟩
  refine va_new (ci := 0) (fs := [.null, .null, .null]) (C := RX1) (T := TX1) (N := 3) hx hb hts in_X1 tyX1 tyX1_ok hown (hts _ q20) (hts _ q21) (hts _ q8) hK hP hD hS hA rfl (fun j hj => by rcases (show j = 0 ∨ j = 1 ∨ j = 2 by omega) with rfl | rfl | rfl <;> rfl) (Nat.le_of_ble_eq_true rfl) (Nat.le_of_ble_eq_true rfl) dL_law_0 (fun q_1 H hP hD hS => ?_)
  have hP : va_P (dC, dI) vwCl [(q_1, .inr (0, [.null, .null, .null]))] H := hP
  have hD : va_D A [(q_1, .inr (0, [.null, .null, .null]))] := hD
  refine W.widen (k := 1) (n := 3) (Nat.le_of_ble_eq_true rfl) (Nat.le_of_ble_eq_true rfl) ?_
  refine lv_dup hx hb dL_law_3 rfl ?_
  have hPc := hP.sub (ws' := [(q_1, .inr (0, [.null, .null, .null]))]) [0] rfl
  have hDc := hD.sub (ws' := [(q_1, .inr (0, [.null, .null, .null]))]) [0] (by decide) rfl
  have hKc := hK.sub (tys' := []) [] rfl
  have hFc := va_free (wc := [(q_1, .inr (0, [.null, .null, .null]))]) hD hS hA [0] rfl
  refine va_callv (va_runI (As := []) (rest := [.ref q_1]) ⟨hx, hb, hml, hown, hts⟩ (mt_desk l dC dI H.size q_1) (cwI 0 hts (lw_meth q24) rfl rfl rfl (hts _ q8) (hts _ q22) (hts _ q23) rfl (by decide +kernel) ⟨Nat.le_of_ble_eq_true rfl, Nat.le_of_ble_eq_true rfl⟩) ⟨sx_blind, fun U hU hW => ⟨rfl, sx_Pre.mk hPc hKc hDc hU hW⟩⟩ rfl rfl hl.1 rfl (lv_room (Nat.le_of_ble_eq_true rfl)) dL_law_4 ⟨Nat.le_of_ble_eq_true rfl, Nat.le_of_ble_eq_true rfl⟩) hS (fun q _ h => hFc q h) hFc (fun u t H1 locs ht hvm hw hB hz1 hk1 hS => ?_)
  obtain ⟨qk, qb, qo, ck, cb, co, hB⟩ := hB
  obtain ⟨hP1, hD1, hK1⟩ := hB
  rw [ht] at hP1
  obtain ⟨hP, hD⟩ := va_join (wr := []) (w1 := [(q_1, .inr (0, [.ref qk, .ref qb, .ref qo])), (qk, .inl (ck, 64, .inl (sa_bs (fun _ => 0)))), (qb, .inl (cb, 32, .inl (sa_bs (fun _ => 0)))), (qo, .inl (co, 32, .inl (sa_bs (fun _ => 0))))]) hP hD [0] [] rfl rfl (by decide) (by decide) hk1 hFc hP1 hD1
  have hK := hK.app (va_K.moved hvm.symm hK1)
  have hK : va_K (dC, dI) vwCl [(ck, .byte), (cb, .byte), (co, .byte)] s := hK
  generalize H1 = H at hP hS ⊢
  have hP : va_P (dC, dI) vwCl [(q_1, .inr (0, [.ref qk, .ref qb, .ref qo])), (qk, .inl (ck, 64, .inl (sa_bs (fun _ => 0)))), (qb, .inl (cb, 32, .inl (sa_bs (fun _ => 0)))), (qo, .inl (co, 32, .inl (sa_bs (fun _ => 0))))] H := hP
  have hD : va_D A [(q_1, .inr (0, [.ref qk, .ref qb, .ref qo])), (qk, .inl (ck, 64, .inl (sa_bs (fun _ => 0)))), (qb, .inl (cb, 32, .inl (sa_bs (fun _ => 0)))), (qo, .inl (co, 32, .inl (sa_bs (fun _ => 0))))] := hD
  refine W.widen (k := 4) (n := 131) (Nat.le_of_ble_eq_true rfl) (Nat.le_of_ble_eq_true rfl) ?_
  refine lv_astore_n (lv' := [(1, .ref q_1), (0, .ref b)]) hx hb dL_law_7 rfl hl (by decide) rfl (fun ls hl => ?_)
  refine lv_bipush (v := 16) hx hb dL_law_8 (by decide) ?_
  refine va_newa (atype := .int) (a0 := (16, .inl (fun _ => 0))) (N' := 16) hx hb (hts _ q196) (ty := .int) rfl hK hP hD hS hA (fun _ => rfl) (by decide) (by decide) (by decide) (Nat.le_of_ble_eq_true rfl) (Nat.le_of_ble_eq_true rfl) dL_law_10 (fun q_2 c_3 H hK hP hD hS => ?_)
  have hP : va_P (dC, dI) vwCl [(q_1, .inr (0, [.ref qk, .ref qb, .ref qo])), (qk, .inl (ck, 64, .inl (sa_bs (fun _ => 0)))), (qb, .inl (cb, 32, .inl (sa_bs (fun _ => 0)))), (qo, .inl (co, 32, .inl (sa_bs (fun _ => 0)))), (q_2, .inl (c_3, 16, .inl (fun _ => 0)))] H := hP
  have hD : va_D A [(q_1, .inr (0, [.ref qk, .ref qb, .ref qo])), (qk, .inl (ck, 64, .inl (sa_bs (fun _ => 0)))), (qb, .inl (cb, 32, .inl (sa_bs (fun _ => 0)))), (qo, .inl (co, 32, .inl (sa_bs (fun _ => 0)))), (q_2, .inl (c_3, 16, .inl (fun _ => 0)))] := hD
  have hK : va_K (dC, dI) vwCl [(ck, .byte), (cb, .byte), (co, .byte), (c_3, .int)] s := hK
  refine W.widen (k := 5) (n := 147) (Nat.le_of_ble_eq_true rfl) (Nat.le_of_ble_eq_true rfl) ?_
  refine lv_astore_n (lv' := [(2, .ref q_2), (1, .ref q_1), (0, .ref b)]) hx hb dL_law_12 rfl hl (by decide) rfl (fun ls hl => ?_)
  refine lv_bipush (v := 8) hx hb dL_law_13 (by decide) ?_
  refine va_newa (atype := .int) (a0 := (8, .inl (fun _ => 0))) (N' := 8) hx hb (hts _ q196) (ty := .int) rfl hK hP hD hS hA (fun _ => rfl) (by decide) (by decide) (by decide) (Nat.le_of_ble_eq_true rfl) (Nat.le_of_ble_eq_true rfl) dL_law_15 (fun q_4 c_5 H hK hP hD hS => ?_)
  have hP : va_P (dC, dI) vwCl [(q_1, .inr (0, [.ref qk, .ref qb, .ref qo])), (qk, .inl (ck, 64, .inl (sa_bs (fun _ => 0)))), (qb, .inl (cb, 32, .inl (sa_bs (fun _ => 0)))), (qo, .inl (co, 32, .inl (sa_bs (fun _ => 0)))), (q_2, .inl (c_3, 16, .inl (fun _ => 0))), (q_4, .inl (c_5, 8, .inl (fun _ => 0)))] H := hP
  have hD : va_D A [(q_1, .inr (0, [.ref qk, .ref qb, .ref qo])), (qk, .inl (ck, 64, .inl (sa_bs (fun _ => 0)))), (qb, .inl (cb, 32, .inl (sa_bs (fun _ => 0)))), (qo, .inl (co, 32, .inl (sa_bs (fun _ => 0)))), (q_2, .inl (c_3, 16, .inl (fun _ => 0))), (q_4, .inl (c_5, 8, .inl (fun _ => 0)))] := hD
  have hK : va_K (dC, dI) vwCl [(ck, .byte), (cb, .byte), (co, .byte), (c_3, .int), (c_5, .int)] s := hK
  refine W.widen (k := 6) (n := 155) (Nat.le_of_ble_eq_true rfl) (Nat.le_of_ble_eq_true rfl) ?_
  refine lv_astore_n (lv' := [(3, .ref q_4), (2, .ref q_2), (1, .ref q_1), (0, .ref b)]) hx hb dL_law_17 rfl hl (by decide) rfl (fun ls hl => ?_)
  refine lv_aload_n hx hb dL_law_18 rfl (lv_at hl 2 rfl) ?_
  refine lv_aload_n hx hb dL_law_19 rfl (lv_at hl 3 rfl) ?_
  refine lv_iconst (v := 0) hx hb dL_law_20 (by decide) ?_
  refine sx_top (v := nI 0) (nI_0.symm) ?_
  have hPc := hP.sub (ws' := []) [] rfl
  have hDc := hD.sub (ws' := []) [] (by decide) rfl
  have hKc := hK.sub (tys' := []) [] rfl
  have hFc := va_free (wc := []) hD hS hA [] rfl
  refine va_calli (va_runS (As := [.ref b, .int (nI 0)]) (rest := [.ref q_1]) ⟨hx, hb, hml, hown, hts⟩ (mt_cell l dC dI H.size b L 0 xs hL (by omega)) (va_cwS 2 hts (lw_S q260 q261 q7 q262) rfl rfl rfl (by decide +kernel) ⟨Nat.le_of_ble_eq_true rfl, Nat.le_of_ble_eq_true rfl⟩) ⟨sx_blindX, fun U hU hW => ⟨rfl, sx_Sc.pass hX hbl hbA hS hU hW, sx_Pre.mk hPc hKc hDc hU hW⟩⟩ rfl rfl hl.1 rfl (lv_room (Nat.le_of_ble_eq_true rfl)) dL_law_21 ⟨Nat.le_of_ble_eq_true rfl, Nat.le_of_ble_eq_true rfl⟩) hS (fun q _ h => hFc q h) hFc (fun r_6 u t H1 locs ht hvm hw hB hz1 hk1 hS => ?_)
  obtain ⟨hP1, hD1⟩ := hB
  rw [ht] at hP1
  obtain ⟨hP, hD⟩ := va_join (wr := [(q_1, .inr (0, [.ref qk, .ref qb, .ref qo])), (qk, .inl (ck, 64, .inl (sa_bs (fun _ => 0)))), (qb, .inl (cb, 32, .inl (sa_bs (fun _ => 0)))), (qo, .inl (co, 32, .inl (sa_bs (fun _ => 0)))), (q_2, .inl (c_3, 16, .inl (fun _ => 0))), (q_4, .inl (c_5, 8, .inl (fun _ => 0)))]) (w1 := []) hP hD [] [0, 1, 2, 3, 4, 5] rfl rfl (by decide) (by decide) hk1 hFc hP1 hD1
  generalize H1 = H at hP hS ⊢
  have hP : va_P (dC, dI) vwCl [(q_1, .inr (0, [.ref qk, .ref qb, .ref qo])), (qk, .inl (ck, 64, .inl (sa_bs (fun _ => 0)))), (qb, .inl (cb, 32, .inl (sa_bs (fun _ => 0)))), (qo, .inl (co, 32, .inl (sa_bs (fun _ => 0)))), (q_2, .inl (c_3, 16, .inl (fun _ => 0))), (q_4, .inl (c_5, 8, .inl (fun _ => 0)))] H := hP
  have hD : va_D A [(q_1, .inr (0, [.ref qk, .ref qb, .ref qo])), (qk, .inl (ck, 64, .inl (sa_bs (fun _ => 0)))), (qb, .inl (cb, 32, .inl (sa_bs (fun _ => 0)))), (qo, .inl (co, 32, .inl (sa_bs (fun _ => 0)))), (q_2, .inl (c_3, 16, .inl (fun _ => 0))), (q_4, .inl (c_5, 8, .inl (fun _ => 0)))] := hD
  refine W.widen (k := 6) (n := 155) (Nat.le_of_ble_eq_true rfl) (Nat.le_of_ble_eq_true rfl) ?_
  subst hw
  have hPc := hP.sub (ws' := [(q_1, .inr (0, [.ref qk, .ref qb, .ref qo])), (qo, .inl (co, 32, .inl (sa_bs (fun _ => 0))))]) [0, 3] rfl
  have hDc := hD.sub (ws' := [(q_1, .inr (0, [.ref qk, .ref qb, .ref qo])), (qo, .inl (co, 32, .inl (sa_bs (fun _ => 0))))]) [0, 3] (by decide) rfl
  have hKc := hK.sub (tys' := [(co, .byte)]) [2] rfl
  have hFc := va_free (wc := [(q_1, .inr (0, [.ref qk, .ref qb, .ref qo])), (qo, .inl (co, 32, .inl (sa_bs (fun _ => 0))))]) hD hS hA [0, 3] rfl
  refine va_callr (va_runS (As := [.ref q_1, .int (sa_cl xs L 0)]) (rest := []) ⟨hx, hb, hml, hown, hts⟩ (mt_lout l dC dI H.size q_1 qk qb qo co (sa_cl xs L 0) (fun _ => 0)) (va_cwS 2 hts (lw_S q271 q272 q7 q273) rfl rfl rfl (by decide +kernel) ⟨Nat.le_of_ble_eq_true rfl, Nat.le_of_ble_eq_true rfl⟩) ⟨sx_blind, fun U hU hW => ⟨rfl, sx_Pre.mk hPc hKc hDc hU hW⟩⟩ rfl rfl hl.1 rfl (lv_room (Nat.le_of_ble_eq_true rfl)) dL_law_24 ⟨Nat.le_of_ble_eq_true rfl, Nat.le_of_ble_eq_true rfl⟩) hS (fun q _ h => hFc q h) hFc (fun u ra_7 t H1 locs ht hvm hw hB hz1 hk1 hS => ?_)
  obtain ⟨cx_8, hB⟩ := hB
  obtain ⟨hP1, hD1, hK1⟩ := hB
  rw [ht] at hP1
  obtain ⟨hP, hD⟩ := va_join (wr := [(qk, .inl (ck, 64, .inl (sa_bs (fun _ => 0)))), (qb, .inl (cb, 32, .inl (sa_bs (fun _ => 0)))), (q_2, .inl (c_3, 16, .inl (fun _ => 0))), (q_4, .inl (c_5, 8, .inl (fun _ => 0)))]) (w1 := [(q_1, .inr (0, [.ref qk, .ref qb, .ref qo])), (qo, .inl (co, 32, .inl (sa_bs (fun _ => 0)))), (ra_7, .inl (cx_8, 8, .inl (fun _ => 0)))]) hP hD [0, 3] [1, 2, 4, 5] rfl rfl (by decide) (by decide) hk1 hFc hP1 hD1
  have hK := hK.app (va_K.moved hvm.symm hK1)
  have hK : va_K (dC, dI) vwCl [(ck, .byte), (cb, .byte), (co, .byte), (c_3, .int), (c_5, .int), (cx_8, .int)] s := hK
  generalize H1 = H at hP hS ⊢
  have hP : va_P (dC, dI) vwCl [(qk, .inl (ck, 64, .inl (sa_bs (fun _ => 0)))), (qb, .inl (cb, 32, .inl (sa_bs (fun _ => 0)))), (q_2, .inl (c_3, 16, .inl (fun _ => 0))), (q_4, .inl (c_5, 8, .inl (fun _ => 0))), (q_1, .inr (0, [.ref qk, .ref qb, .ref qo])), (qo, .inl (co, 32, .inl (sa_bs (fun _ => 0)))), (ra_7, .inl (cx_8, 8, .inl (fun _ => 0)))] H := hP
  have hD : va_D A [(qk, .inl (ck, 64, .inl (sa_bs (fun _ => 0)))), (qb, .inl (cb, 32, .inl (sa_bs (fun _ => 0)))), (q_2, .inl (c_3, 16, .inl (fun _ => 0))), (q_4, .inl (c_5, 8, .inl (fun _ => 0))), (q_1, .inr (0, [.ref qk, .ref qb, .ref qo])), (qo, .inl (co, 32, .inl (sa_bs (fun _ => 0)))), (ra_7, .inl (cx_8, 8, .inl (fun _ => 0)))] := hD
  refine W.widen (k := 7) (n := 163) (Nat.le_of_ble_eq_true rfl) (Nat.le_of_ble_eq_true rfl) ?_
  refine lv_bipush (v := 8) hx hb dL_law_27 (by decide) ?_
  refine va_newa (atype := .int) (a0 := (8, .inl (fun _ => 0))) (N' := 8) hx hb (hts _ q196) (ty := .int) rfl hK hP hD hS hA (fun _ => rfl) (by decide) (by decide) (by decide) (Nat.le_of_ble_eq_true rfl) (Nat.le_of_ble_eq_true rfl) dL_law_29 (fun q_9 c_10 H hK hP hD hS => ?_)
  have hP : va_P (dC, dI) vwCl [(qk, .inl (ck, 64, .inl (sa_bs (fun _ => 0)))), (qb, .inl (cb, 32, .inl (sa_bs (fun _ => 0)))), (q_2, .inl (c_3, 16, .inl (fun _ => 0))), (q_4, .inl (c_5, 8, .inl (fun _ => 0))), (q_1, .inr (0, [.ref qk, .ref qb, .ref qo])), (qo, .inl (co, 32, .inl (sa_bs (fun _ => 0)))), (ra_7, .inl (cx_8, 8, .inl (fun _ => 0))), (q_9, .inl (c_10, 8, .inl (fun _ => 0)))] H := hP
  have hD : va_D A [(qk, .inl (ck, 64, .inl (sa_bs (fun _ => 0)))), (qb, .inl (cb, 32, .inl (sa_bs (fun _ => 0)))), (q_2, .inl (c_3, 16, .inl (fun _ => 0))), (q_4, .inl (c_5, 8, .inl (fun _ => 0))), (q_1, .inr (0, [.ref qk, .ref qb, .ref qo])), (qo, .inl (co, 32, .inl (sa_bs (fun _ => 0)))), (ra_7, .inl (cx_8, 8, .inl (fun _ => 0))), (q_9, .inl (c_10, 8, .inl (fun _ => 0)))] := hD
  have hK : va_K (dC, dI) vwCl [(ck, .byte), (cb, .byte), (co, .byte), (c_3, .int), (c_5, .int), (cx_8, .int), (c_10, .int)] s := hK
  refine W.widen (k := 8) (n := 171) (Nat.le_of_ble_eq_true rfl) (Nat.le_of_ble_eq_true rfl) ?_
  have hPc := hP.sub (ws' := [(ra_7, .inl (cx_8, 8, .inl (fun _ => 0))), (q_9, .inl (c_10, 8, .inl (fun _ => 0)))]) [6, 7] rfl
  have hDc := hD.sub (ws' := [(ra_7, .inl (cx_8, 8, .inl (fun _ => 0))), (q_9, .inl (c_10, 8, .inl (fun _ => 0)))]) [6, 7] (by decide) rfl
  have hKc := hK.sub (tys' := [(cx_8, .int), (c_10, .int)]) [5, 6] rfl
  have hFc := va_free (wc := [(ra_7, .inl (cx_8, 8, .inl (fun _ => 0))), (q_9, .inl (c_10, 8, .inl (fun _ => 0)))]) hD hS hA [6, 7] rfl
  refine va_calli (va_runS (As := [.ref ra_7, .ref q_9]) (rest := []) ⟨hx, hb, hml, hown, hts⟩ (mt_same l dC dI H.size ra_7 q_9 cx_8 c_10 (fun _ => 0) (fun _ => 0) (fun _ _ => rfl)) (va_cwS 2 hts (lw_S q278 q279 q7 q280) rfl rfl rfl (by decide +kernel) ⟨Nat.le_of_ble_eq_true rfl, Nat.le_of_ble_eq_true rfl⟩) ⟨sx_blind, fun U hU hW => ⟨rfl, sx_Pre.mk hPc hKc hDc hU hW⟩⟩ rfl rfl hl.1 rfl (lv_room (Nat.le_of_ble_eq_true rfl)) dL_law_31 ⟨Nat.le_of_ble_eq_true rfl, Nat.le_of_ble_eq_true rfl⟩) hS (fun q _ h => hFc q h) hFc (fun r_11 u t H1 locs ht hvm hw hB hz1 hk1 hS => ?_)
  obtain ⟨hP1, hD1⟩ := hB
  rw [ht] at hP1
  obtain ⟨hP, hD⟩ := va_join (wr := [(qk, .inl (ck, 64, .inl (sa_bs (fun _ => 0)))), (qb, .inl (cb, 32, .inl (sa_bs (fun _ => 0)))), (q_2, .inl (c_3, 16, .inl (fun _ => 0))), (q_4, .inl (c_5, 8, .inl (fun _ => 0))), (q_1, .inr (0, [.ref qk, .ref qb, .ref qo])), (qo, .inl (co, 32, .inl (sa_bs (fun _ => 0))))]) (w1 := [(ra_7, .inl (cx_8, 8, .inl (fun _ => 0))), (q_9, .inl (c_10, 8, .inl (fun _ => 0)))]) hP hD [6, 7] [0, 1, 2, 3, 4, 5] rfl rfl (by decide) (by decide) hk1 hFc hP1 hD1
  generalize H1 = H at hP hS ⊢
  have hP : va_P (dC, dI) vwCl [(qk, .inl (ck, 64, .inl (sa_bs (fun _ => 0)))), (qb, .inl (cb, 32, .inl (sa_bs (fun _ => 0)))), (q_2, .inl (c_3, 16, .inl (fun _ => 0))), (q_4, .inl (c_5, 8, .inl (fun _ => 0))), (q_1, .inr (0, [.ref qk, .ref qb, .ref qo])), (qo, .inl (co, 32, .inl (sa_bs (fun _ => 0)))), (ra_7, .inl (cx_8, 8, .inl (fun _ => 0))), (q_9, .inl (c_10, 8, .inl (fun _ => 0)))] H := hP
  have hD : va_D A [(qk, .inl (ck, 64, .inl (sa_bs (fun _ => 0)))), (qb, .inl (cb, 32, .inl (sa_bs (fun _ => 0)))), (q_2, .inl (c_3, 16, .inl (fun _ => 0))), (q_4, .inl (c_5, 8, .inl (fun _ => 0))), (q_1, .inr (0, [.ref qk, .ref qb, .ref qo])), (qo, .inl (co, 32, .inl (sa_bs (fun _ => 0)))), (ra_7, .inl (cx_8, 8, .inl (fun _ => 0))), (q_9, .inl (c_10, 8, .inl (fun _ => 0)))] := hD
  refine W.widen (k := 8) (n := 171) (Nat.le_of_ble_eq_true rfl) (Nat.le_of_ble_eq_true rfl) ?_
  subst hw
  refine lv_if_ne (tgt := 39) hx hb dL_law_34 (by decide) (fun hc => ?_) (fun hc => absurd hc (by decide))
  refine lv_iconst (v := 0) hx hb dL_law_39 (by decide) ?_
  refine lv_istore (lv' := [(4, .int 0), (3, .ref q_4), (2, .ref q_2), (1, .ref q_1), (0, .ref b)]) hx hb dL_law_40 hl (by decide) rfl (fun ls hl => ?_)
  have hl : lv_has ls 13 [(4, .int (nI 0)), (3, .ref q_4), (2, .ref q_2), (1, .ref q_1), (0, .ref b)] := hl
  refine W.widen (k := 8 + 36 * 0) (n := 171 + 1132 * 0) (Nat.le_of_ble_eq_true rfl) (Nat.le_of_ble_eq_true rfl) ?_
  exact lz_out hL hx hb hml hown hts hA hX hbl hbA hFw hEK hER q_1 qk qb qo q_2 8 171 ck cb co c_3 (by decide) (by decide) 9 0 (by omega) (by omega) q_4 c_5 (fun _ => 0) (fun _ => 0) (fun _ => 0) H locs ls (hK.sub [0, 1, 2, 3, 4] rfl) (hP.sub [4, 0, 1, 5, 2, 3] rfl) (hD.sub [4, 0, 1, 5, 2, 3] (by decide) rfl) hS (lv_sub hl [4, 3, 2, 1, 0] rfl) kk
end
section
/-! THE CLAIM OUT OF ONE WALK OF THE LAW'S BODY. Your part is whole_start (and what it stands on); all else here is the same for every law, but numbers. -/
def R_law : String := "ShacalDeskLaw"
def lw_P (b : Addr) (xs : List Int32) (args : Array Value) (s : State) : Prop := args = #[.ref b] ∧ s.IntsAt b xs ∧ xs.length ≤ 96 ∧ (Jvm.Cond.and given_1 narrow_1).before args s = true
def lw_Q (_ : Array Value) (s : State) (o : Outcome) (t : State) : Prop := o = .returned (some (.int 1)) ∧ Framed s o t [] 1200192 5500522
def lw_Z (below : List Frame) (a : Array Value) (s : State) : State → Prop := fun t => ∃ o, t.status = .running ∧ Ended t below o ∧ lw_Q a s o t
/-- the law's own end, with 1 on the stack, nothing written that was there before, its room as the claim has it -/
theorem lw_ret {p : Program} {l : Launch} {e : Env} {s : State} {m : MethodId} {below : List Frame} {meth : Method} {c : Code} {b : Nat} (hx : p.tables.exec = Jvm.exec) (hb : c.code = code) (hr : meth.sig.returnType = ret) (hlocks : meth.locks = false) {pc : Nat} {H : Heap} {ls : Array Slot} (hdg : decode code pc = .ok (.ireturn, 1)) : W p l e room_1 s m #[Value.ref b] below meth c H [] 1200192 5500522 (lw_Z below #[Value.ref b] s) (F0 m pc ls [.int 1]) := by
  intro T hT X
  obtain ⟨fs, hret, hrun, hended, hW, hframe⟩ := X.leave (v := some (.int 1)) (hlocks := hlocks) (fun h => by rw [hr] at h; cases h)
  have hmeth' : T.vm.method? m = some meth := X.method'
  refine ⟨T.setFrames fs, ?_, .returned (some (.int 1)), hrun, hended, rfl, ⟨_, rfl⟩, hW, hframe⟩
  jvm_step X.here [X.here.top, hx, hb, hdg, hmeth', hr, ret, narrow_b1]
  (try refine ⟨rfl, ?_⟩); (try refine ⟨rfl, ?_⟩)
  first | (intro acts; rw [hret _ acts rfl rfl rfl]) | rw [hret _ _ rfl rfl rfl]
  exact Steps.refl _
/-- what holds at the law's entry: the machine, the code, the tables' words (any of lw_tbl by 'hts w (by decide +kernel)'), the script of L ints xs at the cell b, what the Statement gives of the start (any of its parts by flat_of_before) -/
def lw_At (p : Program) (s : State) (m : MethodId) (meth : Method) (c : Code) (b L : Nat) (xs : Nat → Int32) : Prop :=
  p.tables.exec = Jvm.exec ∧ c.code = code ∧ meth.sig.returnType = ret ∧ c.maxLocals = 13 ∧ s.vm.findClass R_law = some m.cls ∧ (∀ w ∈ lw_tbl, w.before #[Value.ref b] s = true) ∧ va_X b L xs s s.heap ∧ b < s.heap.size ∧ meth.locks = false ∧ (Jvm.Cond.and given_1 narrow_1).before #[Value.ref b] s = true
-- ===== YOUR PART BEGINS =====
/-- YOUR PART: from the entry, for every script of at most 96 ints, the law comes to its end with true ('hflags': the launch's flags, for a law that throws: no stack traces) -/
theorem whole_start {p : Program} {e : Env} {s : State} {m : MethodId} {below : List Frame} {meth : Method} {c : Code} (l : Launch) (hflags : l.flags = flags0) {b L : Nat} {xs : Nat → Int32} (hL : L ≤ 96) (C0 : lw_At p s m meth c b L xs) : W p l e room_1 s m #[Value.ref b] below meth c s.heap [] 0 0 (lw_Z below #[Value.ref b] s) (entryFrame m ([Value.ref b] : List Value).toArray 13) := by
  obtain ⟨hx, hb, hr, hml, hown, hts, hX, hbl, hlocks, hgv⟩ := C0
  have hA : ∀ q : Nat, s.heap.size ≤ q → (fun q : Nat => s.heap.size ≤ q) q := fun _ h => h
  have hbA : ¬ (fun q : Nat => s.heap.size ≤ q) b := Nat.not_le.mpr hbl
  have hnA : ∀ a : Nat, a < s.heap.size → ¬ (fun q : Nat => s.heap.size ≤ q) a := fun _ h => Nat.not_le.mpr h
  obtain ⟨k1, i1, hK1⟩ := u_known (C := RX1) (T := TX1) (N := 3) (n := 3) hts (fun w h => lw_all_tbl (in_X1 w h)) (hts _ (lw_all_tbl q21))
  obtain ⟨k2, i2, hK2⟩ := u_known (C := RX2) (T := TX2) (N := 2) (n := 2) hts (fun w h => lw_all_tbl (in_X2 w h)) (hts _ (lw_all_tbl q48))
  obtain ⟨k3, i3, hK3⟩ := u_known (C := RX3) (T := TX3) (N := 1) (n := 1) hts (fun w h => lw_all_tbl (in_X3 w h)) (hts _ (lw_all_tbl q61))
  obtain ⟨dC, dI, hKc⟩ : ∃ (dC : Nat → ClassId) (dI : Nat → Nat → Nat), ∀ (k : Nat) (q : vw_C), vwCl[k]? = some q → u_Kn s q.1 q.2.1 q.2.2 (dC k) (dI k) := by
    refine ⟨fun k => if k = 0 then k1 else if k = 1 then k2 else k3, fun k => if k = 0 then i1 else if k = 1 then i2 else i3, ?_⟩
    intro k q hq
    match k, hq with
    | 0, hq => cases hq; exact hK1
    | 1, hq => cases hq; exact hK2
    | 2, hq => cases hq; exact hK3
    | k + 3, hq => simp [vwCl] at hq
  obtain ⟨tK, hEK⟩ := sx_stK hgv (hts _ q243) (hts _ (lw_all_tbl q9)) hnA
  obtain ⟨tR, hER⟩ := sx_stR hgv (hts _ q270) (hts _ (lw_all_tbl q7)) hnA
  have hFw : sx_Fw s := ⟨va_Fw.of (hts _ q82) (hts _ q81) (hts _ q87) (hts _ q85) (hts _ q83), va_Fw.of (hts _ q174) (hts _ q173) (hts _ q178) (hts _ q176) (hts _ q83)⟩
  have hK : va_K (dC, dI) vwCl [] s := ⟨hKc, fun k q h => by simp at h⟩
  have hl := lv_entry ([.ref b]) (n := 13) (Nat.le_of_ble_eq_true rfl)
  rw [lg_entry_eq]
  generalize (lg_sl ([.ref b]) ++ List.replicate (13 - (lg_sl ([.ref b])).length) Slot.unset).toArray = ls at hl ⊢
  have hl : lv_has ls 13 [(0, .ref b)] := hl
  refine lz_all hL hx hb hml hown (fun w h => hts w (lw_all_tbl h)) hA hX hbl hbA hFw hEK hER hK ls hl (fun H locs ls hS => ?_)
  refine lv_iconst (v := 1) hx hb dL_law_365 (by decide) ?_
  refine W.widen (k := 1200192) (n := 5500522) (Nat.le_of_ble_eq_true rfl) (Nat.le_of_ble_eq_true rfl) ?_
  refine va_forget (fun q h => hS.2.2 q h) ?_
  exact lw_ret hx hb hr hlocks dL_law_366
-- ===== YOUR PART ENDS =====
set_option maxHeartbeats 4000000 in
theorem lw_walk (l : Launch) (hflags : l.flags = flags0) (b : Addr) (xs : List Int32) : MetFree l x (headSpec (Jvm.Cond.code x code maxLocals ret :: tables_1) room_1) (lw_P b xs) (fun _ _ _ _ _ => True) lw_Q := by
  refine MetFree.of_bodyS (code := code) (maxLocals := maxLocals) (ret := ret) (by decide) ?_ ?_
  · intro args s m h hn
    obtain ⟨meth, c, h1, h2, h3, h4, h5, h6, -, -⟩ := Cond.code_spec hn (atoms_spec (ws := Jvm.Cond.code x code maxLocals ret :: tables_1) h _ List.mem_cons_self)
    exact ⟨meth, c, h1, h2, h3, h4, h5, h6⟩
  · intro p e s m args below meth c s₁ B hml0 hP _
    obtain ⟨rfl, hx, hbd, hgv⟩ := hP
    obtain ⟨scr, harrAt, hlist, hof, hsmall⟩ := hx
    obtain ⟨hcb, hkn, -, -⟩ := State.arrayAt?_spec harrAt
    have hown : s.vm.findClass R_law = some m.cls := findClass_of_methodNamed B.named
    have hts0 : ∀ c ∈ (Jvm.Cond.code x code maxLocals ret :: tables_1), c.before #[Value.ref b] s = true := atoms_spec (ws := Jvm.Cond.code x code maxLocals ret :: tables_1) B.pre
    have hts : ∀ w ∈ lw_tbl, w.before #[Value.ref b] s = true := k2_hts_sels lw_privs (fun w hw => hts0 w (List.mem_cons_of_mem _ hw)) lw_privs_ok
    have hml : c.maxLocals = 13 := B.maxLocals_eq (hts0 _ List.mem_cons_self)
    have X₀ : Stand p l e room_1 s m #[Value.ref b] below meth c s₁ [] 0 0 := Stand.of_body B
    have hh0 : s₁.heap = s.heap := by rw [B.state]; rfl
    have hsz : scr.slots.size = xs.length := by rw [← Array.length_toList, hlist, List.length_map]
    have hval : ∀ j : Nat, j < xs.length → scr.slots[j]? = some (.int (xs.getD j 0)) := fun j hj => by
      rw [← Array.getElem?_toList, hlist]
      simp [hj]
    have hbl : b < s.heap.size := (Array.getElem?_eq_some_iff.mp hcb).1
    have hX : va_X b xs.length (fun j => xs.getD j 0) s s.heap := ⟨scr, hcb, hof, hkn, hsz, hval⟩
    have K : W p l e room_1 s m #[Value.ref b] below meth c s₁.heap [] 0 0 (lw_Z below #[Value.ref b] s) (entryFrame m ([Value.ref b] : List Value).toArray 13) := by
      rw [hh0]
      exact whole_start l hflags hbd ⟨B.exec, B.bytes, B.returns, hml, hown, hts, hX, hbl, B.notSynchronized, hgv⟩
    obtain ⟨t, a1, o, b1, b2, b3⟩ := K s₁ rfl X₀
    exact ⟨t, o, a1, b1, b2, b3⟩
theorem lw_pre_spec {args : Array Value} {s : State} (h : (Jvm.Cond.and given_1 narrow_1).before args s = true) (hr : rest_1_c.before args s = true) : ∃ (b : Addr) (xs : List Int32), lw_P b xs args s := by
  have hs := flat_of_before _ h
  have hq := flat_of_before _ hr
  have hc : (Cond.count 1).before args s = true := hs _ (by decide +kernel)
  have harr : (Cond.arrayOf (.arg 0) .int).before args s = true := hs _ (by decide +kernel)
  have hle : (Cond.le (.length (.arg 0)) (.int 96)).before args s = true := hs _ (by decide +kernel)
  have hlen : (Cond.isInt (.length (.arg 0))).before args s = true := hq _ (by decide +kernel)
  have hall : (Cond.all (.arg 0) (.isInt (.elem (.arg 0) (.index 0)))).before args s = true := hq _ (by decide +kernel)
  obtain ⟨b, xs, hb, hx⟩ := State.ints_of_pre rfl harr hlen hall
  have hsm : xs.length < 2 ^ 31 := hx.choose_spec.2.2.2
  have hev : (Term.length (.arg 0)).eval args s none [] s = some (.int xs.length.toInt32) := hx.length_eval hb
  have hv := Cond.le_ints hev (show (Term.int 96).eval args s none [] s = some (.int 96) from rfl)
  have hd : xs.length.toInt32 ≤ 96 := by
    simpa [Cond.before, Cond.holds, hv] using hle
  have hN : xs.length ≤ 96 := (Int32.ofNat_le_ofNat hsm (by decide)).mp (show Int32.ofNat xs.length ≤ Int32.ofNat 96 from hd)
  exact ⟨b, xs, Cond.one_arg hc (show args[0]? = some (.ref b) from hb), hx, hN, h⟩
theorem lw_comes (l : Launch) (hflags : l.flags = flags0) : Comes l x (Jvm.Cond.code x code maxLocals ret :: tables_1) room_1 (fun tb e args s => Calls_1 tb e args s ∧ rest_1 tb e args s ∧ Pre_1 tb e args s)
    (fun _ _ args s o t => lw_Q args s o t) := by
  intro p e ha hc hk s m args below hf hfit hheap happ hpre
  obtain ⟨b, xs, hP⟩ := lw_pre_spec hpre.2.2 hpre.2.1
  obtain ⟨k, o, h1, h2, h3, hQ⟩ := lw_walk l hflags b xs p e ha hc hk s m args below hf ((Spec.applies_iff_loose hf).mp happ).1 hP trivial
  exact ⟨k, o, h1, h2, h3, hQ⟩
theorem lw_frame {s t : State} {o : Outcome} {args : Array Value} (h : Framed s o t [] 1200192 5500522) :
    Framed s o t (fieldLocs frame_1_writes args s ++ arrayLocs frame_1_arrays args s ++ staticLocs frame_1_statics s) 1200192 5500522 := h
theorem lw_limb (L : Cond) (hL : ∀ (args : Array Value) (s t : State), L.after args s (.returned (some (.int 1))) t = true) :
    ArmFor flags0 classFile x code maxLocals ret World_1 tables_1 room_1 Calls_1 rest_1 Pre_1
      (fun tb e a s o t => postC L tb e a s o t ∧ Framed s o t (fieldLocs frame_1_writes a s ++ arrayLocs frame_1_arrays a s ++ staticLocs frame_1_statics s) 1200192 5500522) := by
  intro l hflags _ _ p e ha hc hk s m args below hf hfit hheap happ hpre
  obtain ⟨k, o, h1, h2, h3, rfl, hF⟩ := lw_comes l hflags p e ha hc hk s m args below hf hfit hheap happ hpre
  exact ⟨k, _, h1, h2, h3, hL args s _, lw_frame hF⟩
theorem i_vc : Claimed_1_1 ∧ Claimed_1_2 := ⟨lw_limb limb_1_1 (fun args s t => by simp [limb_1_1, Cond.after, Cond.holds, Cond.value]), lw_limb limb_1_2 (fun args s t => Cond.after_iff.mpr (by
  first | (rw [show limb_1_2 = Cond.eq .result (.int 1) from rfl, Cond.eq_ints (x := 1) (y := 1) rfl rfl]; simp; done) | (simp [limb_1_2, Cond.value, Term.eval]; done)))⟩
end
