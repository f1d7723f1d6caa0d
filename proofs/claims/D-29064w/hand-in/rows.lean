section
-- ===== PART A: goes FIRST, ahead of the names: the tables' words, and 'selects' of the private methods out of them =====
/-- a private method of a class that the tables say can be made, by its rows of tables_1 -/
def lw_okq (q : MethodName × Nat) : Prop := (q.1.cls ≠ "java/lang/invoke/MethodHandle" ∧ q.1.cls ≠ "java/lang/invoke/VarHandle") ∧ Cond.instantiable q.1.cls q.2 ∈ tables_1 ∧ Cond.privateMethod q.1 ∈ tables_1 ∧ Cond.instanceMethod q.1 ∈ tables_1
set_option maxRecDepth 100000
theorem lw_t1 {w : Cond} (h : w ∈ tables_1_1) : w ∈ tables_1 := List.mem_append_left _ h
theorem lw_t2 {w : Cond} (h : w ∈ tables_1_2) : w ∈ tables_1 := List.mem_append_right _ h
theorem lw_p0 : lw_okq (⟨"GostDesk", "run", "(ZI)V"⟩, 3) := ⟨⟨by decide +kernel, by decide +kernel⟩, lw_t1 (List.mem_of_getElem? (i := 16) rfl), lw_t1 (List.mem_of_getElem? (i := 50) rfl), lw_t1 (List.mem_of_getElem? (i := 51) rfl)⟩
theorem lw_p1 : lw_okq (⟨"java/lang/Throwable", "fillInStackTrace", "(I)Ljava/lang/Throwable;"⟩, 6) := ⟨⟨by decide +kernel, by decide +kernel⟩, lw_t1 (List.mem_of_getElem? (i := 148) rfl), lw_t1 (List.mem_of_getElem? (i := 146) rfl), lw_t1 (List.mem_of_getElem? (i := 147) rfl)⟩
theorem lw_p2 : lw_okq (⟨"GOST28147Engine", "generateWorkingKey", "(Z[B)[I"⟩, 3) := ⟨⟨by decide +kernel, by decide +kernel⟩, lw_t1 (List.mem_of_getElem? (i := 57) rfl), lw_t1 (List.mem_of_getElem? (i := 196) rfl), lw_t1 (List.mem_of_getElem? (i := 197) rfl)⟩
theorem lw_p3 : lw_okq (⟨"GOST28147Engine", "bytesToint", "([BI)I"⟩, 3) := ⟨⟨by decide +kernel, by decide +kernel⟩, lw_t1 (List.mem_of_getElem? (i := 57) rfl), lw_t1 (List.mem_of_getElem? (i := 201) rfl), lw_t1 (List.mem_of_getElem? (i := 202) rfl)⟩
theorem lw_p4 : lw_okq (⟨"GOST28147Engine", "GOST28147Func", "([I[BI[BI)V"⟩, 3) := ⟨⟨by decide +kernel, by decide +kernel⟩, lw_t1 (List.mem_of_getElem? (i := 57) rfl), lw_t2 (List.mem_of_getElem? (i := 32) rfl), lw_t2 (List.mem_of_getElem? (i := 33) rfl)⟩
theorem lw_p5 : lw_okq (⟨"GOST28147Engine", "GOST28147_mainStep", "(II)I"⟩, 3) := ⟨⟨by decide +kernel, by decide +kernel⟩, lw_t1 (List.mem_of_getElem? (i := 57) rfl), lw_t2 (List.mem_of_getElem? (i := 36) rfl), lw_t2 (List.mem_of_getElem? (i := 37) rfl)⟩
theorem lw_p6 : lw_okq (⟨"GOST28147Engine", "intTobytes", "(I[BI)V"⟩, 3) := ⟨⟨by decide +kernel, by decide +kernel⟩, lw_t1 (List.mem_of_getElem? (i := 57) rfl), lw_t2 (List.mem_of_getElem? (i := 40) rfl), lw_t2 (List.mem_of_getElem? (i := 41) rfl)⟩
theorem lw_p7 : lw_okq (⟨"GostDeskModel", "run", "(Z)V"⟩, 3) := ⟨⟨by decide +kernel, by decide +kernel⟩, lw_t2 (List.mem_of_getElem? (i := 56) rfl), lw_t2 (List.mem_of_getElem? (i := 87) rfl), lw_t2 (List.mem_of_getElem? (i := 88) rfl)⟩
def lw_privs_1 : List (MethodName × Nat) := [(⟨"GostDesk", "run", "(ZI)V"⟩, 3), (⟨"java/lang/Throwable", "fillInStackTrace", "(I)Ljava/lang/Throwable;"⟩, 6), (⟨"GOST28147Engine", "generateWorkingKey", "(Z[B)[I"⟩, 3), (⟨"GOST28147Engine", "bytesToint", "([BI)I"⟩, 3), (⟨"GOST28147Engine", "GOST28147Func", "([I[BI[BI)V"⟩, 3), (⟨"GOST28147Engine", "GOST28147_mainStep", "(II)I"⟩, 3), (⟨"GOST28147Engine", "intTobytes", "(I[BI)V"⟩, 3), (⟨"GostDeskModel", "run", "(Z)V"⟩, 3)]
theorem lw_r1 : ∀ q ∈ lw_privs_1, lw_okq q := List.forall_mem_cons.mpr ⟨lw_p0, List.forall_mem_cons.mpr ⟨lw_p1, List.forall_mem_cons.mpr ⟨lw_p2, List.forall_mem_cons.mpr ⟨lw_p3, List.forall_mem_cons.mpr ⟨lw_p4, List.forall_mem_cons.mpr ⟨lw_p5, List.forall_mem_cons.mpr ⟨lw_p6, List.forall_mem_cons.mpr ⟨lw_p7, fun _ h => absurd h List.not_mem_nil⟩⟩⟩⟩⟩⟩⟩⟩
def lw_privs : List (MethodName × Nat) := lw_privs_1
def lw_tbl : List Cond := k2_sels lw_privs ++ tables_1
theorem lw_privs_ok : ∀ q ∈ lw_privs, lw_okq q := lw_r1
-- ===== ONE list of words for every method: the tables' words that hold all through a run =====
def lw_all : List Cond := lw_tbl.filter goodWord
/-- a word of the tables by its place: claim/WORDS.tsv -/
theorem lw_w {w : Cond} (i : Nat) (h : lw_tbl[i]? = some w) (g : goodWord w = true) : w ∈ lw_all := List.mem_filter.mpr ⟨List.mem_of_getElem? h, g⟩
theorem lw_all_tbl {w : Cond} (h : w ∈ lw_all) : w ∈ lw_tbl := (List.mem_filter.mp h).1
theorem lw_self : GoodIn lw_all lw_all := fun w h => ⟨h, good_of_word (List.mem_filter.mp h).2⟩
/-- a class's field words, by their places -/
theorem lw_in (ws : List Cond) (ps : List Nat) (hp : ws = ps.filterMap (fun i => lw_tbl[i]?)) (hg : ws.all goodWord = true) : ∀ w ∈ ws, w ∈ lw_all := by
  intro w h
  have h1 := List.all_eq_true.mp hg w h
  rw [hp] at h
  obtain ⟨i, -, hi⟩ := List.mem_filterMap.mp h
  exact lw_w i hi h1
/-- the words of a contract for the method y with code b, L locals, answer r -/
abbrev ws_ (y : MethodName) (b : ByteArray) (L : Nat) (r : Option FieldType) : List Cond := Cond.code y b L r :: lw_all
theorem lw_meth {y : MethodName} {b : ByteArray} {L : Nat} {r : Option FieldType} (h : Cond.code y b L r ∈ lw_all) : GoodIn lw_all (ws_ y b L r) := by
  intro w hw
  rcases List.mem_cons.mp hw with e | e
  · rw [e]
    exact lw_self _ h
  · exact lw_self _ e
theorem lw_app {a c : List Cond} (ha : ∀ w ∈ a, w ∈ lw_all) (hc : GoodIn lw_all c) : GoodIn lw_all (a ++ c) := by
  intro w hw
  rcases List.mem_append.mp hw with e | e
  · exact lw_self w (ha w e)
  · exact hc w e
/-- what a call through an object asks: cwV n hts (lw_V ..) -/
theorem lw_V {own : String} {idx : Nat} {C : String} {y : MethodName} {b : ByteArray} {L : Nat} {r : Option FieldType} (h1 : Cond.methodLink own idx y ∈ lw_all) (h2 : Cond.instanceMethod y ∈ lw_all) (h3 : Cond.selects C y y ∈ lw_all) (h4 : Cond.initialized C ∈ lw_all) (h5 : Cond.code y b L r ∈ lw_all) : GoodIn lw_all (wsV own idx C y (ws_ y b L r)) := by
  refine lw_app ?_ (lw_meth h5)
  intro w hw
  simp only [List.mem_cons, List.not_mem_nil, or_false] at hw
  rcases hw with e | e | e | e
  · rw [e]; exact h1
  · rw [e]; exact h2
  · rw [e]; exact h3
  · rw [e]; exact h4
/-- what a static call asks: va_cwS n hts (lw_S ..) -/
theorem lw_S {own : String} {idx : Nat} {y : MethodName} {b : ByteArray} {L : Nat} {r : Option FieldType} (h1 : Cond.methodLink own idx y ∈ lw_all) (h2 : Cond.static y ∈ lw_all) (h3 : Cond.initialized y.cls ∈ lw_all) (h4 : Cond.code y b L r ∈ lw_all) : GoodIn lw_all (va_wsS own idx y (ws_ y b L r)) := by
  refine lw_app ?_ (lw_meth h4)
  intro w hw
  simp only [List.mem_cons, List.not_mem_nil, or_false] at hw
  rcases hw with e | e | e
  · rw [e]; exact h1
  · rw [e]; exact h2
  · rw [e]; exact h3
/-- the words of a contract for a method WITH HANDLERS (hh: its table) -/
abbrev wsW_ (y : MethodName) (b : ByteArray) (L : Nat) (r : Option FieldType) (hh : List (Nat × Nat × Nat × Nat)) : List Cond := Cond.codeWith y b L r hh :: lw_all
theorem lw_methW {y : MethodName} {b : ByteArray} {L : Nat} {r : Option FieldType} {hh : List (Nat × Nat × Nat × Nat)} (h : Cond.codeWith y b L r hh ∈ lw_all) : GoodIn lw_all (wsW_ y b L r hh) := by
  intro w hw
  rcases List.mem_cons.mp hw with e | e
  · rw [e]
    exact lw_self _ h
  · exact lw_self _ e
/-- any list of words by their places (lw_in), good -/
theorem lw_good {ws : List Cond} (h : ∀ w ∈ ws, w ∈ lw_all) : GoodIn lw_all ws := fun w hw => lw_self w (h w hw)
/-- what a call of a method with handlers asks: vx_cwVW n hts (lw_VW ..), vx_cwSW n hts (lw_SW ..) -/
theorem lw_VW {own : String} {idx : Nat} {C : String} {y : MethodName} {b : ByteArray} {L : Nat} {r : Option FieldType} {hh : List (Nat × Nat × Nat × Nat)} (h1 : Cond.methodLink own idx y ∈ lw_all) (h2 : Cond.instanceMethod y ∈ lw_all) (h3 : Cond.selects C y y ∈ lw_all) (h4 : Cond.initialized C ∈ lw_all) (h5 : Cond.codeWith y b L r hh ∈ lw_all) : GoodIn lw_all (wsV own idx C y (wsW_ y b L r hh)) := by
  refine lw_app ?_ (lw_methW h5)
  intro w hw
  simp only [List.mem_cons, List.not_mem_nil, or_false] at hw
  rcases hw with e | e | e | e
  · rw [e]; exact h1
  · rw [e]; exact h2
  · rw [e]; exact h3
  · rw [e]; exact h4
theorem lw_SW {own : String} {idx : Nat} {y : MethodName} {b : ByteArray} {L : Nat} {r : Option FieldType} {hh : List (Nat × Nat × Nat × Nat)} (h1 : Cond.methodLink own idx y ∈ lw_all) (h2 : Cond.static y ∈ lw_all) (h3 : Cond.initialized y.cls ∈ lw_all) (h4 : Cond.codeWith y b L r hh ∈ lw_all) : GoodIn lw_all (va_wsS own idx y (wsW_ y b L r hh)) := by
  refine lw_app ?_ (lw_methW h4)
  intro w hw
  simp only [List.mem_cons, List.not_mem_nil, or_false] at hw
  rcases hw with e | e | e
  · rw [e]; exact h1
  · rw [e]; exact h2
  · rw [e]; exact h3
/-- a word by its place in its run of the tables -/
theorem lw_at {r : List Cond} (hr : ∀ w ∈ r, w ∈ lw_tbl) {w : Cond} (i : Nat) (h : r[i]? = some w) : w ∈ lw_tbl := hr w (List.mem_of_getElem? h)
theorem lw_g {w : Cond} (h : w ∈ lw_tbl) (g : goodWord w = true) : w ∈ lw_all := List.mem_filter.mpr ⟨h, g⟩
theorem lw_ms : ∀ w ∈ k2_sels lw_privs, w ∈ lw_tbl := fun w h => show w ∈ k2_sels lw_privs ++ tables_1 from List.mem_append_left _ h
theorem lw_m1 : ∀ w ∈ tables_1_1, w ∈ lw_tbl := fun w h => show w ∈ k2_sels lw_privs ++ tables_1 from List.mem_append_right (k2_sels lw_privs) (show w ∈ tables_1 from List.mem_append_left _ h)
theorem lw_m2 : ∀ w ∈ tables_1_2, w ∈ lw_tbl := fun w h => show w ∈ k2_sels lw_privs ++ tables_1 from List.mem_append_right (k2_sels lw_privs) (show w ∈ tables_1 from List.mem_append_right _ h)
theorem qs0 : (Cond.selects "GostDesk" ⟨"GostDesk", "run", "(ZI)V"⟩ ⟨"GostDesk", "run", "(ZI)V"⟩) ∈ lw_all := lw_g (lw_at lw_ms 0 rfl) rfl
theorem qs1 : (Cond.selects "java/lang/Throwable" ⟨"java/lang/Throwable", "fillInStackTrace", "(I)Ljava/lang/Throwable;"⟩ ⟨"java/lang/Throwable", "fillInStackTrace", "(I)Ljava/lang/Throwable;"⟩) ∈ lw_all := lw_g (lw_at lw_ms 1 rfl) rfl
theorem qs2 : (Cond.selects "GOST28147Engine" ⟨"GOST28147Engine", "generateWorkingKey", "(Z[B)[I"⟩ ⟨"GOST28147Engine", "generateWorkingKey", "(Z[B)[I"⟩) ∈ lw_all := lw_g (lw_at lw_ms 2 rfl) rfl
theorem qs3 : (Cond.selects "GOST28147Engine" ⟨"GOST28147Engine", "bytesToint", "([BI)I"⟩ ⟨"GOST28147Engine", "bytesToint", "([BI)I"⟩) ∈ lw_all := lw_g (lw_at lw_ms 3 rfl) rfl
theorem qs4 : (Cond.selects "GOST28147Engine" ⟨"GOST28147Engine", "GOST28147Func", "([I[BI[BI)V"⟩ ⟨"GOST28147Engine", "GOST28147Func", "([I[BI[BI)V"⟩) ∈ lw_all := lw_g (lw_at lw_ms 4 rfl) rfl
theorem qs5 : (Cond.selects "GOST28147Engine" ⟨"GOST28147Engine", "GOST28147_mainStep", "(II)I"⟩ ⟨"GOST28147Engine", "GOST28147_mainStep", "(II)I"⟩) ∈ lw_all := lw_g (lw_at lw_ms 5 rfl) rfl
theorem qs6 : (Cond.selects "GOST28147Engine" ⟨"GOST28147Engine", "intTobytes", "(I[BI)V"⟩ ⟨"GOST28147Engine", "intTobytes", "(I[BI)V"⟩) ∈ lw_all := lw_g (lw_at lw_ms 6 rfl) rfl
theorem qs7 : (Cond.selects "GostDeskModel" ⟨"GostDeskModel", "run", "(Z)V"⟩ ⟨"GostDeskModel", "run", "(Z)V"⟩) ∈ lw_all := lw_g (lw_at lw_ms 7 rfl) rfl
-- ===== end of PART A; then your names; then what follows =====
end
section
/-! DECODE ROWS BY BYTES: one lemma an opcode; a method's code is cut into short pieces once, and a row reads its own piece alone. -/
set_option maxRecDepth 100000
/-- the code has just these bytes from pc on -/
def DkAt (code : ByteArray) (pc : Nat) (bs : List UInt8) : Prop := ∀ (j : Nat) (b : UInt8), bs[j]? = some b → code.data.toList[pc + j]? = some b
/-- the piece W has the bytes bs from its place j on -/
def dkIn (W : List UInt8) (j : Nat) (bs : List UInt8) : Bool := decide ((W.drop j).take bs.length = bs)
theorem dk_seg {l W T : List UInt8} {o o2 : Nat} (h : l.drop o = W ++ T) (n : Nat) (hn : W.length = n) (ho : o + n = o2) : l.drop o2 = T := by
  subst ho
  rw [← List.drop_drop, h, List.drop_left' hn]
theorem dk_at {code : ByteArray} {W T bs : List UInt8} {o pc : Nat} (h : code.data.toList.drop o = W ++ T) (j : Nat) (hp : o + j = pc) (hw : dkIn W j bs = true) : DkAt code pc bs := by
  subst hp
  intro i b e
  have h1 := of_decide_eq_true hw
  have h2 : i < bs.length := (List.getElem?_eq_some_iff.mp e).1
  have h3 : W[j + i]? = some b := by
    rw [← h1, List.getElem?_take, if_pos h2, List.getElem?_drop] at e
    exact e
  have h4 : j + i < W.length := (List.getElem?_eq_some_iff.mp h3).1
  have h5 : (code.data.toList.drop o)[j + i]? = some b := by
    rw [h, List.getElem?_append_left h4]
    exact h3
  rw [List.getElem?_drop, ← Nat.add_assoc] at h5
  exact h5
theorem dk_u1 {A : ByteArray} {p : Nat} {b : UInt8} (h : A.data.toList[p]? = some b) : (Reader.u1 : Reader DecodeError Nat) A p = .ok (b.toNat, p + 1) := by
  obtain ⟨h1, h2⟩ := List.getElem?_eq_some_iff.mp h
  have h3 : p < A.size := by simpa using h1
  have h4 : A[p]'h3 = b := h2
  have e : (Reader.u1 : Reader DecodeError Nat) A p = (if h : p < A.size then .ok (A[p].toNat, p + 1) else .error (HasTruncated.truncated p)) := by
    show (do if h : p < A.size then do set (p + 1); Pure.pure A[p].toNat else MonadExcept.throw (HasTruncated.truncated p) : Reader DecodeError Nat) A p = _
    by_cases hi : p < A.size
    · rw [dif_pos hi, dif_pos hi]; rfl
    · rw [dif_neg hi, dif_neg hi]; rfl
  rw [e, dif_pos h3, h4]
theorem dk_bind {α β : Type} {r : Reader DecodeError α} {f : α → Reader DecodeError β} {A : ByteArray} {p s : Nat} {a : α} (h : r A p = .ok (a, s)) : (r >>= f) A p = f a A s := by
  show (do let (a, s) ← r A p; f a A s : Except DecodeError (β × Nat)) = _
  rw [h]
  rfl
theorem dk_map {α β : Type} {r : Reader DecodeError α} {g : α → β} {A : ByteArray} {p s : Nat} {a : α} (h : r A p = .ok (a, s)) : (g <$> r) A p = .ok (g a, s) := by
  show (do let (a, s) ← r A p; .ok (g a, s) : Except DecodeError (β × Nat)) = _
  rw [h]
  rfl
theorem dk_u2 {A : ByteArray} {p : Nat} {a b : UInt8} (h : A.data.toList[p]? = some a) (h2 : A.data.toList[p + 1]? = some b) : (Reader.u2 : Reader DecodeError Nat) A p = .ok (a.toNat * 256 + b.toNat, p + 2) := by
  show (Reader.u1 >>= fun hi => Reader.u1 >>= fun lo => Pure.pure (hi * 256 + lo) : Reader DecodeError Nat) A p = _
  rw [dk_bind (dk_u1 h), dk_bind (dk_u1 h2)]
  rfl
theorem dk_of {code : ByteArray} {pc n : Nat} {i : Instr} (h : Decoder.instr pc code pc = .ok (i, pc + n)) : decode code pc = .ok (i, n) := by
  have e : decode code pc = (match Decoder.instr pc code pc with | .error x => .error x | .ok (j, s) => .ok (j, s - pc)) := by
    show (do let (j, s) ← Decoder.instr pc code pc; Pure.pure (j, s - pc) : Except DecodeError (Instr × Nat)) = _
    cases Decoder.instr pc code pc <;> rfl
  rw [e, h]
  show Except.ok (i, pc + n - pc) = _
  rw [Nat.add_sub_cancel_left]
theorem dk_1 {code : ByteArray} {pc : Nat} (h : DkAt code pc [1]) : decode code pc = .ok (.aconst_null, 1) := dk_of ((dk_bind (dk_u1 (h 0 _ rfl))).trans rfl)
theorem dk_3 {code : ByteArray} {pc : Nat} (h : DkAt code pc [3]) : decode code pc = .ok (.iconst 0, 1) := dk_of ((dk_bind (dk_u1 (h 0 _ rfl))).trans rfl)
theorem dk_4 {code : ByteArray} {pc : Nat} (h : DkAt code pc [4]) : decode code pc = .ok (.iconst 1, 1) := dk_of ((dk_bind (dk_u1 (h 0 _ rfl))).trans rfl)
theorem dk_5 {code : ByteArray} {pc : Nat} (h : DkAt code pc [5]) : decode code pc = .ok (.iconst 2, 1) := dk_of ((dk_bind (dk_u1 (h 0 _ rfl))).trans rfl)
theorem dk_6 {code : ByteArray} {pc : Nat} (h : DkAt code pc [6]) : decode code pc = .ok (.iconst 3, 1) := dk_of ((dk_bind (dk_u1 (h 0 _ rfl))).trans rfl)
theorem dk_7 {code : ByteArray} {pc : Nat} (h : DkAt code pc [7]) : decode code pc = .ok (.iconst 4, 1) := dk_of ((dk_bind (dk_u1 (h 0 _ rfl))).trans rfl)
theorem dk_8 {code : ByteArray} {pc : Nat} (h : DkAt code pc [8]) : decode code pc = .ok (.iconst 5, 1) := dk_of ((dk_bind (dk_u1 (h 0 _ rfl))).trans rfl)
theorem dk_16 {code : ByteArray} {pc : Nat} (a : UInt8) (h : DkAt code pc [16, a]) : decode code pc = .ok (.bipush (Reader.signed 8 a.toNat), 2) := dk_of ((dk_bind (dk_u1 (h 0 _ rfl))).trans ((dk_bind (dk_map (dk_u1 (h 1 _ rfl)))).trans rfl))
theorem dk_17 {code : ByteArray} {pc : Nat} (a b : UInt8) (h : DkAt code pc [17, a, b]) : decode code pc = .ok (.sipush (Reader.signed 16 (a.toNat * 256 + b.toNat)), 3) := dk_of ((dk_bind (dk_u1 (h 0 _ rfl))).trans ((dk_bind (dk_map (dk_u2 (h 1 _ rfl) (h 2 _ rfl)))).trans rfl))
theorem dk_18 {code : ByteArray} {pc : Nat} (a : UInt8) (h : DkAt code pc [18, a]) : decode code pc = .ok (.ldc a.toNat, 2) := dk_of ((dk_bind (dk_u1 (h 0 _ rfl))).trans ((dk_bind (dk_u1 (h 1 _ rfl))).trans rfl))
theorem dk_21 {code : ByteArray} {pc : Nat} (a : UInt8) (h : DkAt code pc [21, a]) : decode code pc = .ok (.iload a.toNat, 2) := dk_of ((dk_bind (dk_u1 (h 0 _ rfl))).trans ((dk_bind (dk_u1 (h 1 _ rfl))).trans rfl))
theorem dk_25 {code : ByteArray} {pc : Nat} (a : UInt8) (h : DkAt code pc [25, a]) : decode code pc = .ok (.aload a.toNat, 2) := dk_of ((dk_bind (dk_u1 (h 0 _ rfl))).trans ((dk_bind (dk_u1 (h 1 _ rfl))).trans rfl))
theorem dk_26 {code : ByteArray} {pc : Nat} (h : DkAt code pc [26]) : decode code pc = .ok (.iload_n 0, 1) := dk_of ((dk_bind (dk_u1 (h 0 _ rfl))).trans rfl)
theorem dk_27 {code : ByteArray} {pc : Nat} (h : DkAt code pc [27]) : decode code pc = .ok (.iload_n 1, 1) := dk_of ((dk_bind (dk_u1 (h 0 _ rfl))).trans rfl)
theorem dk_28 {code : ByteArray} {pc : Nat} (h : DkAt code pc [28]) : decode code pc = .ok (.iload_n 2, 1) := dk_of ((dk_bind (dk_u1 (h 0 _ rfl))).trans rfl)
theorem dk_29 {code : ByteArray} {pc : Nat} (h : DkAt code pc [29]) : decode code pc = .ok (.iload_n 3, 1) := dk_of ((dk_bind (dk_u1 (h 0 _ rfl))).trans rfl)
theorem dk_42 {code : ByteArray} {pc : Nat} (h : DkAt code pc [42]) : decode code pc = .ok (.aload_n 0, 1) := dk_of ((dk_bind (dk_u1 (h 0 _ rfl))).trans rfl)
theorem dk_43 {code : ByteArray} {pc : Nat} (h : DkAt code pc [43]) : decode code pc = .ok (.aload_n 1, 1) := dk_of ((dk_bind (dk_u1 (h 0 _ rfl))).trans rfl)
theorem dk_44 {code : ByteArray} {pc : Nat} (h : DkAt code pc [44]) : decode code pc = .ok (.aload_n 2, 1) := dk_of ((dk_bind (dk_u1 (h 0 _ rfl))).trans rfl)
theorem dk_45 {code : ByteArray} {pc : Nat} (h : DkAt code pc [45]) : decode code pc = .ok (.aload_n 3, 1) := dk_of ((dk_bind (dk_u1 (h 0 _ rfl))).trans rfl)
theorem dk_46 {code : ByteArray} {pc : Nat} (h : DkAt code pc [46]) : decode code pc = .ok (.iaload, 1) := dk_of ((dk_bind (dk_u1 (h 0 _ rfl))).trans rfl)
theorem dk_51 {code : ByteArray} {pc : Nat} (h : DkAt code pc [51]) : decode code pc = .ok (.baload, 1) := dk_of ((dk_bind (dk_u1 (h 0 _ rfl))).trans rfl)
theorem dk_54 {code : ByteArray} {pc : Nat} (a : UInt8) (h : DkAt code pc [54, a]) : decode code pc = .ok (.istore a.toNat, 2) := dk_of ((dk_bind (dk_u1 (h 0 _ rfl))).trans ((dk_bind (dk_u1 (h 1 _ rfl))).trans rfl))
theorem dk_58 {code : ByteArray} {pc : Nat} (a : UInt8) (h : DkAt code pc [58, a]) : decode code pc = .ok (.astore a.toNat, 2) := dk_of ((dk_bind (dk_u1 (h 0 _ rfl))).trans ((dk_bind (dk_u1 (h 1 _ rfl))).trans rfl))
theorem dk_60 {code : ByteArray} {pc : Nat} (h : DkAt code pc [60]) : decode code pc = .ok (.istore_n 1, 1) := dk_of ((dk_bind (dk_u1 (h 0 _ rfl))).trans rfl)
theorem dk_61 {code : ByteArray} {pc : Nat} (h : DkAt code pc [61]) : decode code pc = .ok (.istore_n 2, 1) := dk_of ((dk_bind (dk_u1 (h 0 _ rfl))).trans rfl)
theorem dk_62 {code : ByteArray} {pc : Nat} (h : DkAt code pc [62]) : decode code pc = .ok (.istore_n 3, 1) := dk_of ((dk_bind (dk_u1 (h 0 _ rfl))).trans rfl)
theorem dk_76 {code : ByteArray} {pc : Nat} (h : DkAt code pc [76]) : decode code pc = .ok (.astore_n 1, 1) := dk_of ((dk_bind (dk_u1 (h 0 _ rfl))).trans rfl)
theorem dk_77 {code : ByteArray} {pc : Nat} (h : DkAt code pc [77]) : decode code pc = .ok (.astore_n 2, 1) := dk_of ((dk_bind (dk_u1 (h 0 _ rfl))).trans rfl)
theorem dk_78 {code : ByteArray} {pc : Nat} (h : DkAt code pc [78]) : decode code pc = .ok (.astore_n 3, 1) := dk_of ((dk_bind (dk_u1 (h 0 _ rfl))).trans rfl)
theorem dk_79 {code : ByteArray} {pc : Nat} (h : DkAt code pc [79]) : decode code pc = .ok (.iastore, 1) := dk_of ((dk_bind (dk_u1 (h 0 _ rfl))).trans rfl)
theorem dk_84 {code : ByteArray} {pc : Nat} (h : DkAt code pc [84]) : decode code pc = .ok (.bastore, 1) := dk_of ((dk_bind (dk_u1 (h 0 _ rfl))).trans rfl)
theorem dk_87 {code : ByteArray} {pc : Nat} (h : DkAt code pc [87]) : decode code pc = .ok (.pop, 1) := dk_of ((dk_bind (dk_u1 (h 0 _ rfl))).trans rfl)
theorem dk_89 {code : ByteArray} {pc : Nat} (h : DkAt code pc [89]) : decode code pc = .ok (.dup, 1) := dk_of ((dk_bind (dk_u1 (h 0 _ rfl))).trans rfl)
theorem dk_96 {code : ByteArray} {pc : Nat} (h : DkAt code pc [96]) : decode code pc = .ok (.iadd, 1) := dk_of ((dk_bind (dk_u1 (h 0 _ rfl))).trans rfl)
theorem dk_100 {code : ByteArray} {pc : Nat} (h : DkAt code pc [100]) : decode code pc = .ok (.isub, 1) := dk_of ((dk_bind (dk_u1 (h 0 _ rfl))).trans rfl)
theorem dk_104 {code : ByteArray} {pc : Nat} (h : DkAt code pc [104]) : decode code pc = .ok (.imul, 1) := dk_of ((dk_bind (dk_u1 (h 0 _ rfl))).trans rfl)
theorem dk_112 {code : ByteArray} {pc : Nat} (h : DkAt code pc [112]) : decode code pc = .ok (.irem, 1) := dk_of ((dk_bind (dk_u1 (h 0 _ rfl))).trans rfl)
theorem dk_120 {code : ByteArray} {pc : Nat} (h : DkAt code pc [120]) : decode code pc = .ok (.ishl, 1) := dk_of ((dk_bind (dk_u1 (h 0 _ rfl))).trans rfl)
theorem dk_122 {code : ByteArray} {pc : Nat} (h : DkAt code pc [122]) : decode code pc = .ok (.ishr, 1) := dk_of ((dk_bind (dk_u1 (h 0 _ rfl))).trans rfl)
theorem dk_124 {code : ByteArray} {pc : Nat} (h : DkAt code pc [124]) : decode code pc = .ok (.iushr, 1) := dk_of ((dk_bind (dk_u1 (h 0 _ rfl))).trans rfl)
theorem dk_126 {code : ByteArray} {pc : Nat} (h : DkAt code pc [126]) : decode code pc = .ok (.iand, 1) := dk_of ((dk_bind (dk_u1 (h 0 _ rfl))).trans rfl)
theorem dk_128 {code : ByteArray} {pc : Nat} (h : DkAt code pc [128]) : decode code pc = .ok (.ior, 1) := dk_of ((dk_bind (dk_u1 (h 0 _ rfl))).trans rfl)
theorem dk_130 {code : ByteArray} {pc : Nat} (h : DkAt code pc [130]) : decode code pc = .ok (.ixor, 1) := dk_of ((dk_bind (dk_u1 (h 0 _ rfl))).trans rfl)
theorem dk_132 {code : ByteArray} {pc : Nat} (a b : UInt8) (h : DkAt code pc [132, a, b]) : decode code pc = .ok (.iinc a.toNat (Reader.signed 8 b.toNat), 3) := dk_of ((dk_bind (dk_u1 (h 0 _ rfl))).trans ((dk_bind (dk_u1 (h 1 _ rfl))).trans ((dk_bind (dk_map (dk_u1 (h 2 _ rfl)))).trans rfl)))
theorem dk_145 {code : ByteArray} {pc : Nat} (h : DkAt code pc [145]) : decode code pc = .ok (.i2b, 1) := dk_of ((dk_bind (dk_u1 (h 0 _ rfl))).trans rfl)
theorem dk_153 {code : ByteArray} {pc : Nat} (a b : UInt8) (h : DkAt code pc [153, a, b]) : decode code pc = .ok (.ifCond .eq (Reader.signed 16 (a.toNat * 256 + b.toNat)), 3) := dk_of ((dk_bind (dk_u1 (h 0 _ rfl))).trans ((dk_bind (dk_map (dk_u2 (h 1 _ rfl) (h 2 _ rfl)))).trans rfl))
theorem dk_154 {code : ByteArray} {pc : Nat} (a b : UInt8) (h : DkAt code pc [154, a, b]) : decode code pc = .ok (.ifCond .ne (Reader.signed 16 (a.toNat * 256 + b.toNat)), 3) := dk_of ((dk_bind (dk_u1 (h 0 _ rfl))).trans ((dk_bind (dk_map (dk_u2 (h 1 _ rfl) (h 2 _ rfl)))).trans rfl))
theorem dk_155 {code : ByteArray} {pc : Nat} (a b : UInt8) (h : DkAt code pc [155, a, b]) : decode code pc = .ok (.ifCond .lt (Reader.signed 16 (a.toNat * 256 + b.toNat)), 3) := dk_of ((dk_bind (dk_u1 (h 0 _ rfl))).trans ((dk_bind (dk_map (dk_u2 (h 1 _ rfl) (h 2 _ rfl)))).trans rfl))
theorem dk_158 {code : ByteArray} {pc : Nat} (a b : UInt8) (h : DkAt code pc [158, a, b]) : decode code pc = .ok (.ifCond .le (Reader.signed 16 (a.toNat * 256 + b.toNat)), 3) := dk_of ((dk_bind (dk_u1 (h 0 _ rfl))).trans ((dk_bind (dk_map (dk_u2 (h 1 _ rfl) (h 2 _ rfl)))).trans rfl))
theorem dk_159 {code : ByteArray} {pc : Nat} (a b : UInt8) (h : DkAt code pc [159, a, b]) : decode code pc = .ok (.if_icmp .eq (Reader.signed 16 (a.toNat * 256 + b.toNat)), 3) := dk_of ((dk_bind (dk_u1 (h 0 _ rfl))).trans ((dk_bind (dk_map (dk_u2 (h 1 _ rfl) (h 2 _ rfl)))).trans rfl))
theorem dk_160 {code : ByteArray} {pc : Nat} (a b : UInt8) (h : DkAt code pc [160, a, b]) : decode code pc = .ok (.if_icmp .ne (Reader.signed 16 (a.toNat * 256 + b.toNat)), 3) := dk_of ((dk_bind (dk_u1 (h 0 _ rfl))).trans ((dk_bind (dk_map (dk_u2 (h 1 _ rfl) (h 2 _ rfl)))).trans rfl))
theorem dk_162 {code : ByteArray} {pc : Nat} (a b : UInt8) (h : DkAt code pc [162, a, b]) : decode code pc = .ok (.if_icmp .ge (Reader.signed 16 (a.toNat * 256 + b.toNat)), 3) := dk_of ((dk_bind (dk_u1 (h 0 _ rfl))).trans ((dk_bind (dk_map (dk_u2 (h 1 _ rfl) (h 2 _ rfl)))).trans rfl))
theorem dk_163 {code : ByteArray} {pc : Nat} (a b : UInt8) (h : DkAt code pc [163, a, b]) : decode code pc = .ok (.if_icmp .gt (Reader.signed 16 (a.toNat * 256 + b.toNat)), 3) := dk_of ((dk_bind (dk_u1 (h 0 _ rfl))).trans ((dk_bind (dk_map (dk_u2 (h 1 _ rfl) (h 2 _ rfl)))).trans rfl))
theorem dk_164 {code : ByteArray} {pc : Nat} (a b : UInt8) (h : DkAt code pc [164, a, b]) : decode code pc = .ok (.if_icmp .le (Reader.signed 16 (a.toNat * 256 + b.toNat)), 3) := dk_of ((dk_bind (dk_u1 (h 0 _ rfl))).trans ((dk_bind (dk_map (dk_u2 (h 1 _ rfl) (h 2 _ rfl)))).trans rfl))
theorem dk_166 {code : ByteArray} {pc : Nat} (a b : UInt8) (h : DkAt code pc [166, a, b]) : decode code pc = .ok (.if_acmp .ne (Reader.signed 16 (a.toNat * 256 + b.toNat)), 3) := dk_of ((dk_bind (dk_u1 (h 0 _ rfl))).trans ((dk_bind (dk_map (dk_u2 (h 1 _ rfl) (h 2 _ rfl)))).trans rfl))
theorem dk_167 {code : ByteArray} {pc : Nat} (a b : UInt8) (h : DkAt code pc [167, a, b]) : decode code pc = .ok (.goto (Reader.signed 16 (a.toNat * 256 + b.toNat)), 3) := dk_of ((dk_bind (dk_u1 (h 0 _ rfl))).trans ((dk_bind (dk_map (dk_u2 (h 1 _ rfl) (h 2 _ rfl)))).trans rfl))
theorem dk_172 {code : ByteArray} {pc : Nat} (h : DkAt code pc [172]) : decode code pc = .ok (.ireturn, 1) := dk_of ((dk_bind (dk_u1 (h 0 _ rfl))).trans rfl)
theorem dk_176 {code : ByteArray} {pc : Nat} (h : DkAt code pc [176]) : decode code pc = .ok (.areturn, 1) := dk_of ((dk_bind (dk_u1 (h 0 _ rfl))).trans rfl)
theorem dk_177 {code : ByteArray} {pc : Nat} (h : DkAt code pc [177]) : decode code pc = .ok (.return_, 1) := dk_of ((dk_bind (dk_u1 (h 0 _ rfl))).trans rfl)
theorem dk_178 {code : ByteArray} {pc : Nat} (a b : UInt8) (h : DkAt code pc [178, a, b]) : decode code pc = .ok (.getstatic (a.toNat * 256 + b.toNat), 3) := dk_of ((dk_bind (dk_u1 (h 0 _ rfl))).trans ((dk_bind (dk_u2 (h 1 _ rfl) (h 2 _ rfl))).trans rfl))
theorem dk_180 {code : ByteArray} {pc : Nat} (a b : UInt8) (h : DkAt code pc [180, a, b]) : decode code pc = .ok (.getfield (a.toNat * 256 + b.toNat), 3) := dk_of ((dk_bind (dk_u1 (h 0 _ rfl))).trans ((dk_bind (dk_u2 (h 1 _ rfl) (h 2 _ rfl))).trans rfl))
theorem dk_181 {code : ByteArray} {pc : Nat} (a b : UInt8) (h : DkAt code pc [181, a, b]) : decode code pc = .ok (.putfield (a.toNat * 256 + b.toNat), 3) := dk_of ((dk_bind (dk_u1 (h 0 _ rfl))).trans ((dk_bind (dk_u2 (h 1 _ rfl) (h 2 _ rfl))).trans rfl))
theorem dk_182 {code : ByteArray} {pc : Nat} (a b : UInt8) (h : DkAt code pc [182, a, b]) : decode code pc = .ok (.invokevirtual (a.toNat * 256 + b.toNat), 3) := dk_of ((dk_bind (dk_u1 (h 0 _ rfl))).trans ((dk_bind (dk_u2 (h 1 _ rfl) (h 2 _ rfl))).trans rfl))
theorem dk_183 {code : ByteArray} {pc : Nat} (a b : UInt8) (h : DkAt code pc [183, a, b]) : decode code pc = .ok (.invokespecial (a.toNat * 256 + b.toNat), 3) := dk_of ((dk_bind (dk_u1 (h 0 _ rfl))).trans ((dk_bind (dk_u2 (h 1 _ rfl) (h 2 _ rfl))).trans rfl))
theorem dk_184 {code : ByteArray} {pc : Nat} (a b : UInt8) (h : DkAt code pc [184, a, b]) : decode code pc = .ok (.invokestatic (a.toNat * 256 + b.toNat), 3) := dk_of ((dk_bind (dk_u1 (h 0 _ rfl))).trans ((dk_bind (dk_u2 (h 1 _ rfl) (h 2 _ rfl))).trans rfl))
theorem dk_187 {code : ByteArray} {pc : Nat} (a b : UInt8) (h : DkAt code pc [187, a, b]) : decode code pc = .ok (.new (a.toNat * 256 + b.toNat), 3) := dk_of ((dk_bind (dk_u1 (h 0 _ rfl))).trans ((dk_bind (dk_u2 (h 1 _ rfl) (h 2 _ rfl))).trans rfl))
theorem dk_188_8 {code : ByteArray} {pc : Nat} (h : DkAt code pc [188, 8]) : decode code pc = .ok (.newarray .byte, 2) := dk_of ((dk_bind (dk_u1 (h 0 _ rfl))).trans ((dk_bind (dk_u1 (h 1 _ rfl))).trans rfl))
theorem dk_188_10 {code : ByteArray} {pc : Nat} (h : DkAt code pc [188, 10]) : decode code pc = .ok (.newarray .int, 2) := dk_of ((dk_bind (dk_u1 (h 0 _ rfl))).trans ((dk_bind (dk_u1 (h 1 _ rfl))).trans rfl))
theorem dk_190 {code : ByteArray} {pc : Nat} (h : DkAt code pc [190]) : decode code pc = .ok (.arraylength, 1) := dk_of ((dk_bind (dk_u1 (h 0 _ rfl))).trans rfl)
theorem dk_191 {code : ByteArray} {pc : Nat} (h : DkAt code pc [191]) : decode code pc = .ok (.athrow, 1) := dk_of ((dk_bind (dk_u1 (h 0 _ rfl))).trans rfl)
theorem dk_192 {code : ByteArray} {pc : Nat} (a b : UInt8) (h : DkAt code pc [192, a, b]) : decode code pc = .ok (.checkcast (a.toNat * 256 + b.toNat), 3) := dk_of ((dk_bind (dk_u1 (h 0 _ rfl))).trans ((dk_bind (dk_u2 (h 1 _ rfl) (h 2 _ rfl))).trans rfl))
theorem dk_193 {code : ByteArray} {pc : Nat} (a b : UInt8) (h : DkAt code pc [193, a, b]) : decode code pc = .ok (.instanceof (a.toNat * 256 + b.toNat), 3) := dk_of ((dk_bind (dk_u1 (h 0 _ rfl))).trans ((dk_bind (dk_u2 (h 1 _ rfl) (h 2 _ rfl))).trans rfl))
theorem dk_198 {code : ByteArray} {pc : Nat} (a b : UInt8) (h : DkAt code pc [198, a, b]) : decode code pc = .ok (.ifnull (Reader.signed 16 (a.toNat * 256 + b.toNat)), 3) := dk_of ((dk_bind (dk_u1 (h 0 _ rfl))).trans ((dk_bind (dk_map (dk_u2 (h 1 _ rfl) (h 2 _ rfl)))).trans rfl))
theorem dk_199 {code : ByteArray} {pc : Nat} (a b : UInt8) (h : DkAt code pc [199, a, b]) : decode code pc = .ok (.ifnonnull (Reader.signed 16 (a.toNat * 256 + b.toNat)), 3) := dk_of ((dk_bind (dk_u1 (h 0 _ rfl))).trans ((dk_bind (dk_map (dk_u2 (h 1 _ rfl) (h 2 _ rfl)))).trans rfl))
/-! java/lang/Object -/
set_option maxRecDepth 100000
def RJ5 : String := "java/lang/Object"
abbrev cJ5_init : ByteArray := object_method_1_code
def yJ5_init : MethodName := ⟨RJ5, "<init>", "()V"⟩
theorem dJ5_init_0 : decode cJ5_init 0 = .ok (.return_, 1) := by decide +kernel
theorem q29 : (Jvm.Cond.instanceMethod ({ cls := "java/lang/Object", name := "<init>", desc := "()V" } : Jvm.MethodName)) ∈ lw_all := lw_g (lw_at lw_m1 21 rfl) rfl
theorem q30 : (Jvm.Cond.code ({ cls := "java/lang/Object", name := "<init>", desc := "()V" } : Jvm.MethodName) object_method_1_code (1 : Nat) (Option.none : Option Jvm.ClassFile.FieldType)) ∈ lw_all := lw_g (lw_at lw_m1 22 rfl) rfl
theorem q189 : (Jvm.Cond.native ({ cls := "java/lang/Object", name := "clone", desc := "()Ljava/lang/Object;" } : Jvm.MethodName)) ∈ lw_all := lw_g (lw_at lw_m1 181 rfl) rfl
theorem q190 : (Jvm.Cond.instanceMethod ({ cls := "java/lang/Object", name := "clone", desc := "()Ljava/lang/Object;" } : Jvm.MethodName)) ∈ lw_all := lw_g (lw_at lw_m1 182 rfl) rfl
theorem q362 : (Jvm.Cond.initialized "java/lang/Object") ∈ lw_all := lw_g (lw_at lw_m2 114 rfl) rfl
/-! GostDesk -/
set_option maxRecDepth 100000
def RX0 : String := "GostDesk"
def TX0 : u_T := fun k => match k with
  | 0 => ("GostDesk", "key", "[B", true)
  | 1 => ("GostDesk", "block", "[B", true)
  | _ => ("GostDesk", "out", "[B", true)
def tyX0 : Nat → FieldType := fun k => match k with
  | 0 => .array .byte
  | 1 => .array .byte
  | _ => .array .byte
abbrev wsX00 : List Cond := u_ws RX0 TX0 3
theorem nmX0 : ∀ a, a < 3 → ∀ b, b < 3 → a ≠ b → (TX0 a).2.1 ≠ (TX0 b).2.1 := by decide +kernel
theorem tyX0_ok : ∀ k, k < 3 → parseFieldDescriptor (TX0 k).2.2.1 = some (tyX0 k) := by decide +kernel
abbrev cX0_init : ByteArray := prog_5_method_1_code
def yX0_init : MethodName := ⟨RX0, "<init>", "()V"⟩
def dkwX0_init_1 : List UInt8 := [188, 8, 181, 0, 16, 177]
abbrev dktX0_init_1 : List UInt8 := dkwX0_init_1 ++ []
def dkwX0_init_0 : List UInt8 := [42, 183, 0, 1, 42, 16, 32, 188, 8, 181, 0, 7, 42, 16, 8, 188, 8, 181, 0, 13, 42, 16, 8]
abbrev dktX0_init_0 : List UInt8 := dkwX0_init_0 ++ dktX0_init_1
theorem dksX0_init_0 : cX0_init.data.toList.drop 0 = dktX0_init_0 := by decide +kernel
theorem dksX0_init_1 : cX0_init.data.toList.drop 23 = dktX0_init_1 := dk_seg dksX0_init_0 23 rfl rfl
theorem dX0_init_0 : decode cX0_init 0 = .ok (.aload_n 0, 1) := dk_42 (dk_at dksX0_init_0 0 rfl rfl)
theorem dX0_init_1 : decode cX0_init 1 = .ok (.invokespecial 1, 3) := dk_183 0 1 (dk_at dksX0_init_0 1 rfl rfl)
theorem dX0_init_4 : decode cX0_init 4 = .ok (.aload_n 0, 1) := dk_42 (dk_at dksX0_init_0 4 rfl rfl)
theorem dX0_init_5 : decode cX0_init 5 = .ok (.bipush 32, 2) := dk_16 32 (dk_at dksX0_init_0 5 rfl rfl)
theorem dX0_init_7 : decode cX0_init 7 = .ok (.newarray .byte, 2) := dk_188_8 (dk_at dksX0_init_0 7 rfl rfl)
theorem dX0_init_9 : decode cX0_init 9 = .ok (.putfield 7, 3) := dk_181 0 7 (dk_at dksX0_init_0 9 rfl rfl)
theorem dX0_init_12 : decode cX0_init 12 = .ok (.aload_n 0, 1) := dk_42 (dk_at dksX0_init_0 12 rfl rfl)
theorem dX0_init_13 : decode cX0_init 13 = .ok (.bipush 8, 2) := dk_16 8 (dk_at dksX0_init_0 13 rfl rfl)
theorem dX0_init_15 : decode cX0_init 15 = .ok (.newarray .byte, 2) := dk_188_8 (dk_at dksX0_init_0 15 rfl rfl)
theorem dX0_init_17 : decode cX0_init 17 = .ok (.putfield 13, 3) := dk_181 0 13 (dk_at dksX0_init_0 17 rfl rfl)
theorem dX0_init_20 : decode cX0_init 20 = .ok (.aload_n 0, 1) := dk_42 (dk_at dksX0_init_0 20 rfl rfl)
theorem dX0_init_21 : decode cX0_init 21 = .ok (.bipush 8, 2) := dk_16 8 (dk_at dksX0_init_0 21 rfl rfl)
theorem dX0_init_23 : decode cX0_init 23 = .ok (.newarray .byte, 2) := dk_188_8 (dk_at dksX0_init_1 0 rfl rfl)
theorem dX0_init_25 : decode cX0_init 25 = .ok (.putfield 16, 3) := dk_181 0 16 (dk_at dksX0_init_1 2 rfl rfl)
theorem dX0_init_28 : decode cX0_init 28 = .ok (.return_, 1) := dk_177 (dk_at dksX0_init_1 5 rfl rfl)
abbrev cX0_key : ByteArray := prog_5_method_3_code
def yX0_key : MethodName := ⟨RX0, "key", "(IIIII)V"⟩
def dkwX0_key_2 : List UInt8 := [21, 6, 16, 12, 96, 21, 5, 184, 0, 19, 177]
abbrev dktX0_key_2 : List UInt8 := dkwX0_key_2 ++ []
def dkwX0_key_1 : List UInt8 := [96, 29, 184, 0, 19, 42, 180, 0, 7, 21, 6, 16, 8, 96, 21, 4, 184, 0, 19, 42, 180, 0, 7]
abbrev dktX0_key_1 : List UInt8 := dkwX0_key_1 ++ dktX0_key_2
def dkwX0_key_0 : List UInt8 := [27, 4, 126, 7, 120, 54, 6, 42, 180, 0, 7, 21, 6, 28, 184, 0, 19, 42, 180, 0, 7, 21, 6, 7]
abbrev dktX0_key_0 : List UInt8 := dkwX0_key_0 ++ dktX0_key_1
theorem dksX0_key_0 : cX0_key.data.toList.drop 0 = dktX0_key_0 := by decide +kernel
theorem dksX0_key_1 : cX0_key.data.toList.drop 24 = dktX0_key_1 := dk_seg dksX0_key_0 24 rfl rfl
theorem dksX0_key_2 : cX0_key.data.toList.drop 47 = dktX0_key_2 := dk_seg dksX0_key_1 23 rfl rfl
theorem dX0_key_0 : decode cX0_key 0 = .ok (.iload_n 1, 1) := dk_27 (dk_at dksX0_key_0 0 rfl rfl)
theorem dX0_key_1 : decode cX0_key 1 = .ok (.iconst 1, 1) := dk_4 (dk_at dksX0_key_0 1 rfl rfl)
theorem dX0_key_2 : decode cX0_key 2 = .ok (.iand, 1) := dk_126 (dk_at dksX0_key_0 2 rfl rfl)
theorem dX0_key_3 : decode cX0_key 3 = .ok (.iconst 4, 1) := dk_7 (dk_at dksX0_key_0 3 rfl rfl)
theorem dX0_key_4 : decode cX0_key 4 = .ok (.ishl, 1) := dk_120 (dk_at dksX0_key_0 4 rfl rfl)
theorem dX0_key_5 : decode cX0_key 5 = .ok (.istore 6, 2) := dk_54 6 (dk_at dksX0_key_0 5 rfl rfl)
theorem dX0_key_7 : decode cX0_key 7 = .ok (.aload_n 0, 1) := dk_42 (dk_at dksX0_key_0 7 rfl rfl)
theorem dX0_key_8 : decode cX0_key 8 = .ok (.getfield 7, 3) := dk_180 0 7 (dk_at dksX0_key_0 8 rfl rfl)
theorem dX0_key_11 : decode cX0_key 11 = .ok (.iload 6, 2) := dk_21 6 (dk_at dksX0_key_0 11 rfl rfl)
theorem dX0_key_13 : decode cX0_key 13 = .ok (.iload_n 2, 1) := dk_28 (dk_at dksX0_key_0 13 rfl rfl)
theorem dX0_key_14 : decode cX0_key 14 = .ok (.invokestatic 19, 3) := dk_184 0 19 (dk_at dksX0_key_0 14 rfl rfl)
theorem dX0_key_17 : decode cX0_key 17 = .ok (.aload_n 0, 1) := dk_42 (dk_at dksX0_key_0 17 rfl rfl)
theorem dX0_key_18 : decode cX0_key 18 = .ok (.getfield 7, 3) := dk_180 0 7 (dk_at dksX0_key_0 18 rfl rfl)
theorem dX0_key_21 : decode cX0_key 21 = .ok (.iload 6, 2) := dk_21 6 (dk_at dksX0_key_0 21 rfl rfl)
theorem dX0_key_23 : decode cX0_key 23 = .ok (.iconst 4, 1) := dk_7 (dk_at dksX0_key_0 23 rfl rfl)
theorem dX0_key_24 : decode cX0_key 24 = .ok (.iadd, 1) := dk_96 (dk_at dksX0_key_1 0 rfl rfl)
theorem dX0_key_25 : decode cX0_key 25 = .ok (.iload_n 3, 1) := dk_29 (dk_at dksX0_key_1 1 rfl rfl)
theorem dX0_key_26 : decode cX0_key 26 = .ok (.invokestatic 19, 3) := dk_184 0 19 (dk_at dksX0_key_1 2 rfl rfl)
theorem dX0_key_29 : decode cX0_key 29 = .ok (.aload_n 0, 1) := dk_42 (dk_at dksX0_key_1 5 rfl rfl)
theorem dX0_key_30 : decode cX0_key 30 = .ok (.getfield 7, 3) := dk_180 0 7 (dk_at dksX0_key_1 6 rfl rfl)
theorem dX0_key_33 : decode cX0_key 33 = .ok (.iload 6, 2) := dk_21 6 (dk_at dksX0_key_1 9 rfl rfl)
theorem dX0_key_35 : decode cX0_key 35 = .ok (.bipush 8, 2) := dk_16 8 (dk_at dksX0_key_1 11 rfl rfl)
theorem dX0_key_37 : decode cX0_key 37 = .ok (.iadd, 1) := dk_96 (dk_at dksX0_key_1 13 rfl rfl)
theorem dX0_key_38 : decode cX0_key 38 = .ok (.iload 4, 2) := dk_21 4 (dk_at dksX0_key_1 14 rfl rfl)
theorem dX0_key_40 : decode cX0_key 40 = .ok (.invokestatic 19, 3) := dk_184 0 19 (dk_at dksX0_key_1 16 rfl rfl)
theorem dX0_key_43 : decode cX0_key 43 = .ok (.aload_n 0, 1) := dk_42 (dk_at dksX0_key_1 19 rfl rfl)
theorem dX0_key_44 : decode cX0_key 44 = .ok (.getfield 7, 3) := dk_180 0 7 (dk_at dksX0_key_1 20 rfl rfl)
theorem dX0_key_47 : decode cX0_key 47 = .ok (.iload 6, 2) := dk_21 6 (dk_at dksX0_key_2 0 rfl rfl)
theorem dX0_key_49 : decode cX0_key 49 = .ok (.bipush 12, 2) := dk_16 12 (dk_at dksX0_key_2 2 rfl rfl)
theorem dX0_key_51 : decode cX0_key 51 = .ok (.iadd, 1) := dk_96 (dk_at dksX0_key_2 4 rfl rfl)
theorem dX0_key_52 : decode cX0_key 52 = .ok (.iload 5, 2) := dk_21 5 (dk_at dksX0_key_2 5 rfl rfl)
theorem dX0_key_54 : decode cX0_key 54 = .ok (.invokestatic 19, 3) := dk_184 0 19 (dk_at dksX0_key_2 7 rfl rfl)
theorem dX0_key_57 : decode cX0_key 57 = .ok (.return_, 1) := dk_177 (dk_at dksX0_key_2 10 rfl rfl)
abbrev cX0_word : ByteArray := prog_5_method_2_code
def yX0_word : MethodName := ⟨RX0, "word", "([BII)V"⟩
def dkwX0_word_1 : List UInt8 := [16, 8, 122, 145, 84, 42, 27, 6, 96, 28, 145, 84, 177]
abbrev dktX0_word_1 : List UInt8 := dkwX0_word_1 ++ []
def dkwX0_word_0 : List UInt8 := [42, 27, 28, 16, 24, 122, 145, 84, 42, 27, 4, 96, 28, 16, 16, 122, 145, 84, 42, 27, 5, 96, 28]
abbrev dktX0_word_0 : List UInt8 := dkwX0_word_0 ++ dktX0_word_1
theorem dksX0_word_0 : cX0_word.data.toList.drop 0 = dktX0_word_0 := by decide +kernel
theorem dksX0_word_1 : cX0_word.data.toList.drop 23 = dktX0_word_1 := dk_seg dksX0_word_0 23 rfl rfl
theorem dX0_word_0 : decode cX0_word 0 = .ok (.aload_n 0, 1) := dk_42 (dk_at dksX0_word_0 0 rfl rfl)
theorem dX0_word_1 : decode cX0_word 1 = .ok (.iload_n 1, 1) := dk_27 (dk_at dksX0_word_0 1 rfl rfl)
theorem dX0_word_2 : decode cX0_word 2 = .ok (.iload_n 2, 1) := dk_28 (dk_at dksX0_word_0 2 rfl rfl)
theorem dX0_word_3 : decode cX0_word 3 = .ok (.bipush 24, 2) := dk_16 24 (dk_at dksX0_word_0 3 rfl rfl)
theorem dX0_word_5 : decode cX0_word 5 = .ok (.ishr, 1) := dk_122 (dk_at dksX0_word_0 5 rfl rfl)
theorem dX0_word_6 : decode cX0_word 6 = .ok (.i2b, 1) := dk_145 (dk_at dksX0_word_0 6 rfl rfl)
theorem dX0_word_7 : decode cX0_word 7 = .ok (.bastore, 1) := dk_84 (dk_at dksX0_word_0 7 rfl rfl)
theorem dX0_word_8 : decode cX0_word 8 = .ok (.aload_n 0, 1) := dk_42 (dk_at dksX0_word_0 8 rfl rfl)
theorem dX0_word_9 : decode cX0_word 9 = .ok (.iload_n 1, 1) := dk_27 (dk_at dksX0_word_0 9 rfl rfl)
theorem dX0_word_10 : decode cX0_word 10 = .ok (.iconst 1, 1) := dk_4 (dk_at dksX0_word_0 10 rfl rfl)
theorem dX0_word_11 : decode cX0_word 11 = .ok (.iadd, 1) := dk_96 (dk_at dksX0_word_0 11 rfl rfl)
theorem dX0_word_12 : decode cX0_word 12 = .ok (.iload_n 2, 1) := dk_28 (dk_at dksX0_word_0 12 rfl rfl)
theorem dX0_word_13 : decode cX0_word 13 = .ok (.bipush 16, 2) := dk_16 16 (dk_at dksX0_word_0 13 rfl rfl)
theorem dX0_word_15 : decode cX0_word 15 = .ok (.ishr, 1) := dk_122 (dk_at dksX0_word_0 15 rfl rfl)
theorem dX0_word_16 : decode cX0_word 16 = .ok (.i2b, 1) := dk_145 (dk_at dksX0_word_0 16 rfl rfl)
theorem dX0_word_17 : decode cX0_word 17 = .ok (.bastore, 1) := dk_84 (dk_at dksX0_word_0 17 rfl rfl)
theorem dX0_word_18 : decode cX0_word 18 = .ok (.aload_n 0, 1) := dk_42 (dk_at dksX0_word_0 18 rfl rfl)
theorem dX0_word_19 : decode cX0_word 19 = .ok (.iload_n 1, 1) := dk_27 (dk_at dksX0_word_0 19 rfl rfl)
theorem dX0_word_20 : decode cX0_word 20 = .ok (.iconst 2, 1) := dk_5 (dk_at dksX0_word_0 20 rfl rfl)
theorem dX0_word_21 : decode cX0_word 21 = .ok (.iadd, 1) := dk_96 (dk_at dksX0_word_0 21 rfl rfl)
theorem dX0_word_22 : decode cX0_word 22 = .ok (.iload_n 2, 1) := dk_28 (dk_at dksX0_word_0 22 rfl rfl)
theorem dX0_word_23 : decode cX0_word 23 = .ok (.bipush 8, 2) := dk_16 8 (dk_at dksX0_word_1 0 rfl rfl)
theorem dX0_word_25 : decode cX0_word 25 = .ok (.ishr, 1) := dk_122 (dk_at dksX0_word_1 2 rfl rfl)
theorem dX0_word_26 : decode cX0_word 26 = .ok (.i2b, 1) := dk_145 (dk_at dksX0_word_1 3 rfl rfl)
theorem dX0_word_27 : decode cX0_word 27 = .ok (.bastore, 1) := dk_84 (dk_at dksX0_word_1 4 rfl rfl)
theorem dX0_word_28 : decode cX0_word 28 = .ok (.aload_n 0, 1) := dk_42 (dk_at dksX0_word_1 5 rfl rfl)
theorem dX0_word_29 : decode cX0_word 29 = .ok (.iload_n 1, 1) := dk_27 (dk_at dksX0_word_1 6 rfl rfl)
theorem dX0_word_30 : decode cX0_word 30 = .ok (.iconst 3, 1) := dk_6 (dk_at dksX0_word_1 7 rfl rfl)
theorem dX0_word_31 : decode cX0_word 31 = .ok (.iadd, 1) := dk_96 (dk_at dksX0_word_1 8 rfl rfl)
theorem dX0_word_32 : decode cX0_word 32 = .ok (.iload_n 2, 1) := dk_28 (dk_at dksX0_word_1 9 rfl rfl)
theorem dX0_word_33 : decode cX0_word 33 = .ok (.i2b, 1) := dk_145 (dk_at dksX0_word_1 10 rfl rfl)
theorem dX0_word_34 : decode cX0_word 34 = .ok (.bastore, 1) := dk_84 (dk_at dksX0_word_1 11 rfl rfl)
theorem dX0_word_35 : decode cX0_word 35 = .ok (.return_, 1) := dk_177 (dk_at dksX0_word_1 12 rfl rfl)
abbrev cX0_block : ByteArray := prog_5_method_4_code
def yX0_block : MethodName := ⟨RX0, "block", "(II)V"⟩
def dkwX0_block_0 : List UInt8 := [42, 180, 0, 13, 3, 27, 184, 0, 19, 42, 180, 0, 13, 7, 28, 184, 0, 19, 177]
abbrev dktX0_block_0 : List UInt8 := dkwX0_block_0 ++ []
theorem dksX0_block_0 : cX0_block.data.toList.drop 0 = dktX0_block_0 := by decide +kernel
theorem dX0_block_0 : decode cX0_block 0 = .ok (.aload_n 0, 1) := dk_42 (dk_at dksX0_block_0 0 rfl rfl)
theorem dX0_block_1 : decode cX0_block 1 = .ok (.getfield 13, 3) := dk_180 0 13 (dk_at dksX0_block_0 1 rfl rfl)
theorem dX0_block_4 : decode cX0_block 4 = .ok (.iconst 0, 1) := dk_3 (dk_at dksX0_block_0 4 rfl rfl)
theorem dX0_block_5 : decode cX0_block 5 = .ok (.iload_n 1, 1) := dk_27 (dk_at dksX0_block_0 5 rfl rfl)
theorem dX0_block_6 : decode cX0_block 6 = .ok (.invokestatic 19, 3) := dk_184 0 19 (dk_at dksX0_block_0 6 rfl rfl)
theorem dX0_block_9 : decode cX0_block 9 = .ok (.aload_n 0, 1) := dk_42 (dk_at dksX0_block_0 9 rfl rfl)
theorem dX0_block_10 : decode cX0_block 10 = .ok (.getfield 13, 3) := dk_180 0 13 (dk_at dksX0_block_0 10 rfl rfl)
theorem dX0_block_13 : decode cX0_block 13 = .ok (.iconst 4, 1) := dk_7 (dk_at dksX0_block_0 13 rfl rfl)
theorem dX0_block_14 : decode cX0_block 14 = .ok (.iload_n 2, 1) := dk_28 (dk_at dksX0_block_0 14 rfl rfl)
theorem dX0_block_15 : decode cX0_block 15 = .ok (.invokestatic 19, 3) := dk_184 0 19 (dk_at dksX0_block_0 15 rfl rfl)
theorem dX0_block_18 : decode cX0_block 18 = .ok (.return_, 1) := dk_177 (dk_at dksX0_block_0 18 rfl rfl)
abbrev cX0_lock : ByteArray := prog_5_method_7_code
def yX0_lock : MethodName := ⟨RX0, "lock", "(I)V"⟩
def dkwX0_lock_0 : List UInt8 := [42, 4, 27, 182, 0, 45, 177]
abbrev dktX0_lock_0 : List UInt8 := dkwX0_lock_0 ++ []
theorem dksX0_lock_0 : cX0_lock.data.toList.drop 0 = dktX0_lock_0 := by decide +kernel
theorem dX0_lock_0 : decode cX0_lock 0 = .ok (.aload_n 0, 1) := dk_42 (dk_at dksX0_lock_0 0 rfl rfl)
theorem dX0_lock_1 : decode cX0_lock 1 = .ok (.iconst 1, 1) := dk_4 (dk_at dksX0_lock_0 1 rfl rfl)
theorem dX0_lock_2 : decode cX0_lock 2 = .ok (.iload_n 1, 1) := dk_27 (dk_at dksX0_lock_0 2 rfl rfl)
theorem dX0_lock_3 : decode cX0_lock 3 = .ok (.invokevirtual 45, 3) := dk_182 0 45 (dk_at dksX0_lock_0 3 rfl rfl)
theorem dX0_lock_6 : decode cX0_lock 6 = .ok (.return_, 1) := dk_177 (dk_at dksX0_lock_0 6 rfl rfl)
abbrev cX0_run : ByteArray := prog_5_method_5_code
def yX0_run : MethodName := ⟨RX0, "run", "(ZI)V"⟩
def dkwX0_run_3 : List UInt8 := [180, 0, 13, 3, 42, 180, 0, 16, 3, 185, 0, 41, 5, 0, 87, 177]
abbrev dktX0_run_3 : List UInt8 := dkwX0_run_3 ++ []
def dkwX0_run_2 : List UInt8 := [58, 5, 25, 5, 27, 187, 0, 30, 89, 25, 4, 183, 0, 32, 185, 0, 35, 3, 0, 25, 5, 42]
abbrev dktX0_run_2 : List UInt8 := dkwX0_run_2 ++ dktX0_run_3
def dkwX0_run_1 : List UInt8 := [21, 5, 42, 180, 0, 7, 21, 5, 51, 84, 132, 5, 1, 167, 255, 235, 187, 0, 27, 89, 183, 0, 29]
abbrev dktX0_run_1 : List UInt8 := dkwX0_run_1 ++ dktX0_run_2
def dkwX0_run_0 : List UInt8 := [28, 6, 126, 184, 0, 23, 62, 29, 188, 8, 58, 4, 3, 54, 5, 21, 5, 29, 162, 0, 21, 25, 4]
abbrev dktX0_run_0 : List UInt8 := dkwX0_run_0 ++ dktX0_run_1
theorem dksX0_run_0 : cX0_run.data.toList.drop 0 = dktX0_run_0 := by decide +kernel
theorem dksX0_run_1 : cX0_run.data.toList.drop 23 = dktX0_run_1 := dk_seg dksX0_run_0 23 rfl rfl
theorem dksX0_run_2 : cX0_run.data.toList.drop 46 = dktX0_run_2 := dk_seg dksX0_run_1 23 rfl rfl
theorem dksX0_run_3 : cX0_run.data.toList.drop 68 = dktX0_run_3 := dk_seg dksX0_run_2 22 rfl rfl
theorem dX0_run_0 : decode cX0_run 0 = .ok (.iload_n 2, 1) := dk_28 (dk_at dksX0_run_0 0 rfl rfl)
theorem dX0_run_1 : decode cX0_run 1 = .ok (.iconst 3, 1) := dk_6 (dk_at dksX0_run_0 1 rfl rfl)
theorem dX0_run_2 : decode cX0_run 2 = .ok (.iand, 1) := dk_126 (dk_at dksX0_run_0 2 rfl rfl)
theorem dX0_run_3 : decode cX0_run 3 = .ok (.invokestatic 23, 3) := dk_184 0 23 (dk_at dksX0_run_0 3 rfl rfl)
theorem dX0_run_6 : decode cX0_run 6 = .ok (.istore_n 3, 1) := dk_62 (dk_at dksX0_run_0 6 rfl rfl)
theorem dX0_run_7 : decode cX0_run 7 = .ok (.iload_n 3, 1) := dk_29 (dk_at dksX0_run_0 7 rfl rfl)
theorem dX0_run_8 : decode cX0_run 8 = .ok (.newarray .byte, 2) := dk_188_8 (dk_at dksX0_run_0 8 rfl rfl)
theorem dX0_run_10 : decode cX0_run 10 = .ok (.astore 4, 2) := dk_58 4 (dk_at dksX0_run_0 10 rfl rfl)
theorem dX0_run_12 : decode cX0_run 12 = .ok (.iconst 0, 1) := dk_3 (dk_at dksX0_run_0 12 rfl rfl)
theorem dX0_run_13 : decode cX0_run 13 = .ok (.istore 5, 2) := dk_54 5 (dk_at dksX0_run_0 13 rfl rfl)
theorem dX0_run_15 : decode cX0_run 15 = .ok (.iload 5, 2) := dk_21 5 (dk_at dksX0_run_0 15 rfl rfl)
theorem dX0_run_17 : decode cX0_run 17 = .ok (.iload_n 3, 1) := dk_29 (dk_at dksX0_run_0 17 rfl rfl)
theorem dX0_run_18 : decode cX0_run 18 = .ok (.if_icmp .ge 21, 3) := dk_162 0 21 (dk_at dksX0_run_0 18 rfl rfl)
theorem dX0_run_21 : decode cX0_run 21 = .ok (.aload 4, 2) := dk_25 4 (dk_at dksX0_run_0 21 rfl rfl)
theorem dX0_run_23 : decode cX0_run 23 = .ok (.iload 5, 2) := dk_21 5 (dk_at dksX0_run_1 0 rfl rfl)
theorem dX0_run_25 : decode cX0_run 25 = .ok (.aload_n 0, 1) := dk_42 (dk_at dksX0_run_1 2 rfl rfl)
theorem dX0_run_26 : decode cX0_run 26 = .ok (.getfield 7, 3) := dk_180 0 7 (dk_at dksX0_run_1 3 rfl rfl)
theorem dX0_run_29 : decode cX0_run 29 = .ok (.iload 5, 2) := dk_21 5 (dk_at dksX0_run_1 6 rfl rfl)
theorem dX0_run_31 : decode cX0_run 31 = .ok (.baload, 1) := dk_51 (dk_at dksX0_run_1 8 rfl rfl)
theorem dX0_run_32 : decode cX0_run 32 = .ok (.bastore, 1) := dk_84 (dk_at dksX0_run_1 9 rfl rfl)
theorem dX0_run_33 : decode cX0_run 33 = .ok (.iinc 5 1, 3) := dk_132 5 1 (dk_at dksX0_run_1 10 rfl rfl)
theorem dX0_run_36 : decode cX0_run 36 = .ok (.goto (-21), 3) := dk_167 255 235 (dk_at dksX0_run_1 13 rfl rfl)
theorem dX0_run_39 : decode cX0_run 39 = .ok (.new 27, 3) := dk_187 0 27 (dk_at dksX0_run_1 16 rfl rfl)
theorem dX0_run_42 : decode cX0_run 42 = .ok (.dup, 1) := dk_89 (dk_at dksX0_run_1 19 rfl rfl)
theorem dX0_run_43 : decode cX0_run 43 = .ok (.invokespecial 29, 3) := dk_183 0 29 (dk_at dksX0_run_1 20 rfl rfl)
theorem dX0_run_46 : decode cX0_run 46 = .ok (.astore 5, 2) := dk_58 5 (dk_at dksX0_run_2 0 rfl rfl)
theorem dX0_run_48 : decode cX0_run 48 = .ok (.aload 5, 2) := dk_25 5 (dk_at dksX0_run_2 2 rfl rfl)
theorem dX0_run_50 : decode cX0_run 50 = .ok (.iload_n 1, 1) := dk_27 (dk_at dksX0_run_2 4 rfl rfl)
theorem dX0_run_51 : decode cX0_run 51 = .ok (.new 30, 3) := dk_187 0 30 (dk_at dksX0_run_2 5 rfl rfl)
theorem dX0_run_54 : decode cX0_run 54 = .ok (.dup, 1) := dk_89 (dk_at dksX0_run_2 8 rfl rfl)
theorem dX0_run_55 : decode cX0_run 55 = .ok (.aload 4, 2) := dk_25 4 (dk_at dksX0_run_2 9 rfl rfl)
theorem dX0_run_57 : decode cX0_run 57 = .ok (.invokespecial 32, 3) := dk_183 0 32 (dk_at dksX0_run_2 11 rfl rfl)
theorem dX0_run_60 : decode cX0_run 60 = .ok (.invokeinterface 35 3, 5) := by decide +kernel
theorem dX0_run_65 : decode cX0_run 65 = .ok (.aload 5, 2) := dk_25 5 (dk_at dksX0_run_2 19 rfl rfl)
theorem dX0_run_67 : decode cX0_run 67 = .ok (.aload_n 0, 1) := dk_42 (dk_at dksX0_run_2 21 rfl rfl)
theorem dX0_run_68 : decode cX0_run 68 = .ok (.getfield 13, 3) := dk_180 0 13 (dk_at dksX0_run_3 0 rfl rfl)
theorem dX0_run_71 : decode cX0_run 71 = .ok (.iconst 0, 1) := dk_3 (dk_at dksX0_run_3 3 rfl rfl)
theorem dX0_run_72 : decode cX0_run 72 = .ok (.aload_n 0, 1) := dk_42 (dk_at dksX0_run_3 4 rfl rfl)
theorem dX0_run_73 : decode cX0_run 73 = .ok (.getfield 16, 3) := dk_180 0 16 (dk_at dksX0_run_3 5 rfl rfl)
theorem dX0_run_76 : decode cX0_run 76 = .ok (.iconst 0, 1) := dk_3 (dk_at dksX0_run_3 8 rfl rfl)
theorem dX0_run_77 : decode cX0_run 77 = .ok (.invokeinterface 41 5, 5) := by decide +kernel
theorem dX0_run_82 : decode cX0_run 82 = .ok (.pop, 1) := dk_87 (dk_at dksX0_run_3 14 rfl rfl)
theorem dX0_run_83 : decode cX0_run 83 = .ok (.return_, 1) := dk_177 (dk_at dksX0_run_3 15 rfl rfl)
abbrev cX0_size : ByteArray := prog_5_method_6_code
def yX0_size : MethodName := ⟨RX0, "size", "(I)I"⟩
theorem dX0_size_0 : decode cX0_size 0 = .ok (.bipush 32, 2) := by decide +kernel
theorem dX0_size_2 : decode cX0_size 2 = .ok (.ireturn, 1) := by decide +kernel
abbrev cX0_open : ByteArray := prog_5_method_8_code
def yX0_open : MethodName := ⟨RX0, "open", "(I)V"⟩
def dkwX0_open_0 : List UInt8 := [42, 3, 27, 182, 0, 45, 177]
abbrev dktX0_open_0 : List UInt8 := dkwX0_open_0 ++ []
theorem dksX0_open_0 : cX0_open.data.toList.drop 0 = dktX0_open_0 := by decide +kernel
theorem dX0_open_0 : decode cX0_open 0 = .ok (.aload_n 0, 1) := dk_42 (dk_at dksX0_open_0 0 rfl rfl)
theorem dX0_open_1 : decode cX0_open 1 = .ok (.iconst 0, 1) := dk_3 (dk_at dksX0_open_0 1 rfl rfl)
theorem dX0_open_2 : decode cX0_open 2 = .ok (.iload_n 1, 1) := dk_27 (dk_at dksX0_open_0 2 rfl rfl)
theorem dX0_open_3 : decode cX0_open 3 = .ok (.invokevirtual 45, 3) := dk_182 0 45 (dk_at dksX0_open_0 3 rfl rfl)
theorem dX0_open_6 : decode cX0_open 6 = .ok (.return_, 1) := dk_177 (dk_at dksX0_open_0 6 rfl rfl)
abbrev cX0_again : ByteArray := prog_5_method_9_code
def yX0_again : MethodName := ⟨RX0, "again", "()V"⟩
def dkwX0_again_1 : List UInt8 := [167, 255, 235, 177]
abbrev dktX0_again_1 : List UInt8 := dkwX0_again_1 ++ []
def dkwX0_again_0 : List UInt8 := [3, 60, 27, 16, 8, 162, 0, 21, 42, 180, 0, 13, 27, 42, 180, 0, 16, 27, 51, 84, 132, 1, 1]
abbrev dktX0_again_0 : List UInt8 := dkwX0_again_0 ++ dktX0_again_1
theorem dksX0_again_0 : cX0_again.data.toList.drop 0 = dktX0_again_0 := by decide +kernel
theorem dksX0_again_1 : cX0_again.data.toList.drop 23 = dktX0_again_1 := dk_seg dksX0_again_0 23 rfl rfl
theorem dX0_again_0 : decode cX0_again 0 = .ok (.iconst 0, 1) := dk_3 (dk_at dksX0_again_0 0 rfl rfl)
theorem dX0_again_1 : decode cX0_again 1 = .ok (.istore_n 1, 1) := dk_60 (dk_at dksX0_again_0 1 rfl rfl)
theorem dX0_again_2 : decode cX0_again 2 = .ok (.iload_n 1, 1) := dk_27 (dk_at dksX0_again_0 2 rfl rfl)
theorem dX0_again_3 : decode cX0_again 3 = .ok (.bipush 8, 2) := dk_16 8 (dk_at dksX0_again_0 3 rfl rfl)
theorem dX0_again_5 : decode cX0_again 5 = .ok (.if_icmp .ge 21, 3) := dk_162 0 21 (dk_at dksX0_again_0 5 rfl rfl)
theorem dX0_again_8 : decode cX0_again 8 = .ok (.aload_n 0, 1) := dk_42 (dk_at dksX0_again_0 8 rfl rfl)
theorem dX0_again_9 : decode cX0_again 9 = .ok (.getfield 13, 3) := dk_180 0 13 (dk_at dksX0_again_0 9 rfl rfl)
theorem dX0_again_12 : decode cX0_again 12 = .ok (.iload_n 1, 1) := dk_27 (dk_at dksX0_again_0 12 rfl rfl)
theorem dX0_again_13 : decode cX0_again 13 = .ok (.aload_n 0, 1) := dk_42 (dk_at dksX0_again_0 13 rfl rfl)
theorem dX0_again_14 : decode cX0_again 14 = .ok (.getfield 16, 3) := dk_180 0 16 (dk_at dksX0_again_0 14 rfl rfl)
theorem dX0_again_17 : decode cX0_again 17 = .ok (.iload_n 1, 1) := dk_27 (dk_at dksX0_again_0 17 rfl rfl)
theorem dX0_again_18 : decode cX0_again 18 = .ok (.baload, 1) := dk_51 (dk_at dksX0_again_0 18 rfl rfl)
theorem dX0_again_19 : decode cX0_again 19 = .ok (.bastore, 1) := dk_84 (dk_at dksX0_again_0 19 rfl rfl)
theorem dX0_again_20 : decode cX0_again 20 = .ok (.iinc 1 1, 3) := dk_132 1 1 (dk_at dksX0_again_0 20 rfl rfl)
theorem dX0_again_23 : decode cX0_again 23 = .ok (.goto (-21), 3) := dk_167 255 235 (dk_at dksX0_again_1 0 rfl rfl)
theorem dX0_again_26 : decode cX0_again 26 = .ok (.return_, 1) := dk_177 (dk_at dksX0_again_1 3 rfl rfl)
abbrev cX0_out : ByteArray := prog_5_method_10_code
def yX0_out : MethodName := ⟨RX0, "out", "(I)I"⟩
def dkwX0_out_0 : List UInt8 := [42, 180, 0, 16, 27, 16, 7, 126, 51, 17, 0, 255, 126, 172]
abbrev dktX0_out_0 : List UInt8 := dkwX0_out_0 ++ []
theorem dksX0_out_0 : cX0_out.data.toList.drop 0 = dktX0_out_0 := by decide +kernel
theorem dX0_out_0 : decode cX0_out 0 = .ok (.aload_n 0, 1) := dk_42 (dk_at dksX0_out_0 0 rfl rfl)
theorem dX0_out_1 : decode cX0_out 1 = .ok (.getfield 16, 3) := dk_180 0 16 (dk_at dksX0_out_0 1 rfl rfl)
theorem dX0_out_4 : decode cX0_out 4 = .ok (.iload_n 1, 1) := dk_27 (dk_at dksX0_out_0 4 rfl rfl)
theorem dX0_out_5 : decode cX0_out 5 = .ok (.bipush 7, 2) := dk_16 7 (dk_at dksX0_out_0 5 rfl rfl)
theorem dX0_out_7 : decode cX0_out 7 = .ok (.iand, 1) := dk_126 (dk_at dksX0_out_0 7 rfl rfl)
theorem dX0_out_8 : decode cX0_out 8 = .ok (.baload, 1) := dk_51 (dk_at dksX0_out_0 8 rfl rfl)
theorem dX0_out_9 : decode cX0_out 9 = .ok (.sipush 255, 3) := dk_17 0 255 (dk_at dksX0_out_0 9 rfl rfl)
theorem dX0_out_12 : decode cX0_out 12 = .ok (.iand, 1) := dk_126 (dk_at dksX0_out_0 12 rfl rfl)
theorem dX0_out_13 : decode cX0_out 13 = .ok (.ireturn, 1) := dk_172 (dk_at dksX0_out_0 13 rfl rfl)
theorem q9 : (Jvm.Cond.initialized "GostDesk") ∈ lw_all := lw_g (lw_at lw_m1 1 rfl) rfl
theorem q24 : (Jvm.Cond.instantiable "GostDesk" (3 : Nat)) ∈ lw_all := lw_g (lw_at lw_m1 16 rfl) rfl
theorem q26 : (Jvm.Cond.instanceMethod ({ cls := "GostDesk", name := "<init>", desc := "()V" } : Jvm.MethodName)) ∈ lw_all := lw_g (lw_at lw_m1 18 rfl) rfl
theorem q27 : (Jvm.Cond.code ({ cls := "GostDesk", name := "<init>", desc := "()V" } : Jvm.MethodName) prog_5_method_1_code (1 : Nat) (Option.none : Option Jvm.ClassFile.FieldType)) ∈ lw_all := lw_g (lw_at lw_m1 19 rfl) rfl
theorem q28 : (Jvm.Cond.methodLink "GostDesk" (1 : Nat) ({ cls := "java/lang/Object", name := "<init>", desc := "()V" } : Jvm.MethodName)) ∈ lw_all := lw_g (lw_at lw_m1 20 rfl) rfl
theorem q31 : (Jvm.Cond.fieldLink "GostDesk" (7 : Nat) "GostDesk" "key" "[B") ∈ lw_all := lw_g (lw_at lw_m1 23 rfl) rfl
theorem q32 : (Jvm.Cond.fieldLink "GostDesk" (13 : Nat) "GostDesk" "block" "[B") ∈ lw_all := lw_g (lw_at lw_m1 24 rfl) rfl
theorem q33 : (Jvm.Cond.fieldLink "GostDesk" (16 : Nat) "GostDesk" "out" "[B") ∈ lw_all := lw_g (lw_at lw_m1 25 rfl) rfl
theorem q34 : (Jvm.Cond.laysFinal "GostDesk" "GostDesk" "key" "[B") ∈ lw_all := lw_g (lw_at lw_m1 26 rfl) rfl
theorem q35 : (Jvm.Cond.soleField "GostDesk" "key") ∈ lw_all := lw_g (lw_at lw_m1 27 rfl) rfl
theorem q36 : (Jvm.Cond.laysFinal "GostDesk" "GostDesk" "block" "[B") ∈ lw_all := lw_g (lw_at lw_m1 28 rfl) rfl
theorem q37 : (Jvm.Cond.soleField "GostDesk" "block") ∈ lw_all := lw_g (lw_at lw_m1 29 rfl) rfl
theorem q38 : (Jvm.Cond.laysFinal "GostDesk" "GostDesk" "out" "[B") ∈ lw_all := lw_g (lw_at lw_m1 30 rfl) rfl
theorem q39 : (Jvm.Cond.soleField "GostDesk" "out") ∈ lw_all := lw_g (lw_at lw_m1 31 rfl) rfl
theorem q40 : (Jvm.Cond.superclass "GostDesk" "java/lang/Object") ∈ lw_all := lw_g (lw_at lw_m1 32 rfl) rfl
theorem q43 : (Jvm.Cond.instanceMethod ({ cls := "GostDesk", name := "key", desc := "(IIIII)V" } : Jvm.MethodName)) ∈ lw_all := lw_g (lw_at lw_m1 35 rfl) rfl
theorem q44 : (Jvm.Cond.selects "GostDesk" ({ cls := "GostDesk", name := "key", desc := "(IIIII)V" } : Jvm.MethodName) ({ cls := "GostDesk", name := "key", desc := "(IIIII)V" } : Jvm.MethodName)) ∈ lw_all := lw_g (lw_at lw_m1 36 rfl) rfl
theorem q45 : (Jvm.Cond.code ({ cls := "GostDesk", name := "key", desc := "(IIIII)V" } : Jvm.MethodName) prog_5_method_3_code (7 : Nat) (Option.none : Option Jvm.ClassFile.FieldType)) ∈ lw_all := lw_g (lw_at lw_m1 37 rfl) rfl
theorem q46 : (Jvm.Cond.methodLink "GostDesk" (19 : Nat) ({ cls := "GostDesk", name := "word", desc := "([BII)V" } : Jvm.MethodName)) ∈ lw_all := lw_g (lw_at lw_m1 38 rfl) rfl
theorem q47 : (Jvm.Cond.static ({ cls := "GostDesk", name := "word", desc := "([BII)V" } : Jvm.MethodName)) ∈ lw_all := lw_g (lw_at lw_m1 39 rfl) rfl
theorem q48 : (Jvm.Cond.code ({ cls := "GostDesk", name := "word", desc := "([BII)V" } : Jvm.MethodName) prog_5_method_2_code (3 : Nat) (Option.none : Option Jvm.ClassFile.FieldType)) ∈ lw_all := lw_g (lw_at lw_m1 40 rfl) rfl
theorem q50 : (Jvm.Cond.instanceMethod ({ cls := "GostDesk", name := "block", desc := "(II)V" } : Jvm.MethodName)) ∈ lw_all := lw_g (lw_at lw_m1 42 rfl) rfl
theorem q51 : (Jvm.Cond.selects "GostDesk" ({ cls := "GostDesk", name := "block", desc := "(II)V" } : Jvm.MethodName) ({ cls := "GostDesk", name := "block", desc := "(II)V" } : Jvm.MethodName)) ∈ lw_all := lw_g (lw_at lw_m1 43 rfl) rfl
theorem q52 : (Jvm.Cond.code ({ cls := "GostDesk", name := "block", desc := "(II)V" } : Jvm.MethodName) prog_5_method_4_code (3 : Nat) (Option.none : Option Jvm.ClassFile.FieldType)) ∈ lw_all := lw_g (lw_at lw_m1 44 rfl) rfl
theorem q54 : (Jvm.Cond.instanceMethod ({ cls := "GostDesk", name := "lock", desc := "(I)V" } : Jvm.MethodName)) ∈ lw_all := lw_g (lw_at lw_m1 46 rfl) rfl
theorem q55 : (Jvm.Cond.selects "GostDesk" ({ cls := "GostDesk", name := "lock", desc := "(I)V" } : Jvm.MethodName) ({ cls := "GostDesk", name := "lock", desc := "(I)V" } : Jvm.MethodName)) ∈ lw_all := lw_g (lw_at lw_m1 47 rfl) rfl
theorem q56 : (Jvm.Cond.code ({ cls := "GostDesk", name := "lock", desc := "(I)V" } : Jvm.MethodName) prog_5_method_7_code (2 : Nat) (Option.none : Option Jvm.ClassFile.FieldType)) ∈ lw_all := lw_g (lw_at lw_m1 48 rfl) rfl
theorem q57 : (Jvm.Cond.methodLink "GostDesk" (45 : Nat) ({ cls := "GostDesk", name := "run", desc := "(ZI)V" } : Jvm.MethodName)) ∈ lw_all := lw_g (lw_at lw_m1 49 rfl) rfl
theorem q58 : (Jvm.Cond.privateMethod ({ cls := "GostDesk", name := "run", desc := "(ZI)V" } : Jvm.MethodName)) ∈ lw_tbl := lw_at lw_m1 50 rfl
theorem q59 : (Jvm.Cond.instanceMethod ({ cls := "GostDesk", name := "run", desc := "(ZI)V" } : Jvm.MethodName)) ∈ lw_all := lw_g (lw_at lw_m1 51 rfl) rfl
theorem q60 : (Jvm.Cond.code ({ cls := "GostDesk", name := "run", desc := "(ZI)V" } : Jvm.MethodName) prog_5_method_5_code (6 : Nat) (Option.none : Option Jvm.ClassFile.FieldType)) ∈ lw_all := lw_g (lw_at lw_m1 52 rfl) rfl
theorem q61 : (Jvm.Cond.methodLink "GostDesk" (23 : Nat) ({ cls := "GostDesk", name := "size", desc := "(I)I" } : Jvm.MethodName)) ∈ lw_all := lw_g (lw_at lw_m1 53 rfl) rfl
theorem q62 : (Jvm.Cond.static ({ cls := "GostDesk", name := "size", desc := "(I)I" } : Jvm.MethodName)) ∈ lw_all := lw_g (lw_at lw_m1 54 rfl) rfl
theorem q63 : (Jvm.Cond.code ({ cls := "GostDesk", name := "size", desc := "(I)I" } : Jvm.MethodName) prog_5_method_6_code (1 : Nat) (Option.some Jvm.ClassFile.FieldType.int)) ∈ lw_all := lw_g (lw_at lw_m1 55 rfl) rfl
theorem q64 : (Jvm.Cond.classLink "GostDesk" (27 : Nat) "GOST28147Engine") ∈ lw_all := lw_g (lw_at lw_m1 56 rfl) rfl
theorem q66 : (Jvm.Cond.methodLink "GostDesk" (29 : Nat) ({ cls := "GOST28147Engine", name := "<init>", desc := "()V" } : Jvm.MethodName)) ∈ lw_all := lw_g (lw_at lw_m1 58 rfl) rfl
theorem q82 : (Jvm.Cond.classLink "GostDesk" (30 : Nat) "KeyParameter") ∈ lw_all := lw_g (lw_at lw_m1 74 rfl) rfl
theorem q84 : (Jvm.Cond.methodLink "GostDesk" (32 : Nat) ({ cls := "KeyParameter", name := "<init>", desc := "([B)V" } : Jvm.MethodName)) ∈ lw_all := lw_g (lw_at lw_m1 76 rfl) rfl
theorem q101 : (Jvm.Cond.interfaceEntry "GostDesk" (35 : Nat)) ∈ lw_tbl := lw_at lw_m1 93 rfl
theorem q102 : (Jvm.Cond.methodLink "GostDesk" (35 : Nat) ({ cls := "BlockCipher", name := "init", desc := "(ZLCipherParameters;)V" } : Jvm.MethodName)) ∈ lw_all := lw_g (lw_at lw_m1 94 rfl) rfl
theorem q216 : (Jvm.Cond.interfaceEntry "GostDesk" (41 : Nat)) ∈ lw_tbl := lw_at lw_m1 208 rfl
theorem q217 : (Jvm.Cond.methodLink "GostDesk" (41 : Nat) ({ cls := "BlockCipher", name := "processBlock", desc := "([BI[BI)I" } : Jvm.MethodName)) ∈ lw_all := lw_g (lw_at lw_m1 209 rfl) rfl
theorem q292 : (Jvm.Cond.instanceMethod ({ cls := "GostDesk", name := "open", desc := "(I)V" } : Jvm.MethodName)) ∈ lw_all := lw_g (lw_at lw_m2 44 rfl) rfl
theorem q293 : (Jvm.Cond.selects "GostDesk" ({ cls := "GostDesk", name := "open", desc := "(I)V" } : Jvm.MethodName) ({ cls := "GostDesk", name := "open", desc := "(I)V" } : Jvm.MethodName)) ∈ lw_all := lw_g (lw_at lw_m2 45 rfl) rfl
theorem q294 : (Jvm.Cond.code ({ cls := "GostDesk", name := "open", desc := "(I)V" } : Jvm.MethodName) prog_5_method_8_code (2 : Nat) (Option.none : Option Jvm.ClassFile.FieldType)) ∈ lw_all := lw_g (lw_at lw_m2 46 rfl) rfl
theorem q296 : (Jvm.Cond.instanceMethod ({ cls := "GostDesk", name := "again", desc := "()V" } : Jvm.MethodName)) ∈ lw_all := lw_g (lw_at lw_m2 48 rfl) rfl
theorem q297 : (Jvm.Cond.selects "GostDesk" ({ cls := "GostDesk", name := "again", desc := "()V" } : Jvm.MethodName) ({ cls := "GostDesk", name := "again", desc := "()V" } : Jvm.MethodName)) ∈ lw_all := lw_g (lw_at lw_m2 49 rfl) rfl
theorem q298 : (Jvm.Cond.code ({ cls := "GostDesk", name := "again", desc := "()V" } : Jvm.MethodName) prog_5_method_9_code (2 : Nat) (Option.none : Option Jvm.ClassFile.FieldType)) ∈ lw_all := lw_g (lw_at lw_m2 50 rfl) rfl
theorem q300 : (Jvm.Cond.instanceMethod ({ cls := "GostDesk", name := "out", desc := "(I)I" } : Jvm.MethodName)) ∈ lw_all := lw_g (lw_at lw_m2 52 rfl) rfl
theorem q301 : (Jvm.Cond.selects "GostDesk" ({ cls := "GostDesk", name := "out", desc := "(I)I" } : Jvm.MethodName) ({ cls := "GostDesk", name := "out", desc := "(I)I" } : Jvm.MethodName)) ∈ lw_all := lw_g (lw_at lw_m2 53 rfl) rfl
theorem q302 : (Jvm.Cond.code ({ cls := "GostDesk", name := "out", desc := "(I)I" } : Jvm.MethodName) prog_5_method_10_code (2 : Nat) (Option.some Jvm.ClassFile.FieldType.int)) ∈ lw_all := lw_g (lw_at lw_m2 54 rfl) rfl
theorem in_X0 : ∀ w ∈ wsX00, w ∈ lw_all := lw_in wsX00 [34, 36, 38] (by decide +kernel) (by decide +kernel)
/-! GostDeskModel -/
set_option maxRecDepth 100000
def RX1 : String := "GostDeskModel"
def TX1 : u_T := fun k => match k with
  | 0 => ("GostDeskModel", "key", "[I", true)
  | 1 => ("GostDeskModel", "block", "[I", true)
  | _ => ("GostDeskModel", "out", "[I", true)
def tyX1 : Nat → FieldType := fun k => match k with
  | 0 => .array .int
  | 1 => .array .int
  | _ => .array .int
abbrev wsX10 : List Cond := u_ws RX1 TX1 3
theorem nmX1 : ∀ a, a < 3 → ∀ b, b < 3 → a ≠ b → (TX1 a).2.1 ≠ (TX1 b).2.1 := by decide +kernel
theorem tyX1_ok : ∀ k, k < 3 → parseFieldDescriptor (TX1 k).2.2.1 = some (tyX1 k) := by decide +kernel
abbrev cX1_init : ByteArray := prog_7_method_1_code
def yX1_init : MethodName := ⟨RX1, "<init>", "()V"⟩
def dkwX1_init_1 : List UInt8 := [188, 10, 181, 0, 16, 177]
abbrev dktX1_init_1 : List UInt8 := dkwX1_init_1 ++ []
def dkwX1_init_0 : List UInt8 := [42, 183, 0, 1, 42, 16, 32, 188, 10, 181, 0, 7, 42, 16, 8, 188, 10, 181, 0, 13, 42, 16, 8]
abbrev dktX1_init_0 : List UInt8 := dkwX1_init_0 ++ dktX1_init_1
theorem dksX1_init_0 : cX1_init.data.toList.drop 0 = dktX1_init_0 := by decide +kernel
theorem dksX1_init_1 : cX1_init.data.toList.drop 23 = dktX1_init_1 := dk_seg dksX1_init_0 23 rfl rfl
theorem dX1_init_0 : decode cX1_init 0 = .ok (.aload_n 0, 1) := dk_42 (dk_at dksX1_init_0 0 rfl rfl)
theorem dX1_init_1 : decode cX1_init 1 = .ok (.invokespecial 1, 3) := dk_183 0 1 (dk_at dksX1_init_0 1 rfl rfl)
theorem dX1_init_4 : decode cX1_init 4 = .ok (.aload_n 0, 1) := dk_42 (dk_at dksX1_init_0 4 rfl rfl)
theorem dX1_init_5 : decode cX1_init 5 = .ok (.bipush 32, 2) := dk_16 32 (dk_at dksX1_init_0 5 rfl rfl)
theorem dX1_init_7 : decode cX1_init 7 = .ok (.newarray .int, 2) := dk_188_10 (dk_at dksX1_init_0 7 rfl rfl)
theorem dX1_init_9 : decode cX1_init 9 = .ok (.putfield 7, 3) := dk_181 0 7 (dk_at dksX1_init_0 9 rfl rfl)
theorem dX1_init_12 : decode cX1_init 12 = .ok (.aload_n 0, 1) := dk_42 (dk_at dksX1_init_0 12 rfl rfl)
theorem dX1_init_13 : decode cX1_init 13 = .ok (.bipush 8, 2) := dk_16 8 (dk_at dksX1_init_0 13 rfl rfl)
theorem dX1_init_15 : decode cX1_init 15 = .ok (.newarray .int, 2) := dk_188_10 (dk_at dksX1_init_0 15 rfl rfl)
theorem dX1_init_17 : decode cX1_init 17 = .ok (.putfield 13, 3) := dk_181 0 13 (dk_at dksX1_init_0 17 rfl rfl)
theorem dX1_init_20 : decode cX1_init 20 = .ok (.aload_n 0, 1) := dk_42 (dk_at dksX1_init_0 20 rfl rfl)
theorem dX1_init_21 : decode cX1_init 21 = .ok (.bipush 8, 2) := dk_16 8 (dk_at dksX1_init_0 21 rfl rfl)
theorem dX1_init_23 : decode cX1_init 23 = .ok (.newarray .int, 2) := dk_188_10 (dk_at dksX1_init_1 0 rfl rfl)
theorem dX1_init_25 : decode cX1_init 25 = .ok (.putfield 16, 3) := dk_181 0 16 (dk_at dksX1_init_1 2 rfl rfl)
theorem dX1_init_28 : decode cX1_init 28 = .ok (.return_, 1) := dk_177 (dk_at dksX1_init_1 5 rfl rfl)
abbrev cX1_key : ByteArray := prog_7_method_4_code
def yX1_key : MethodName := ⟨RX1, "key", "(IIIII)V"⟩
def dkwX1_key_2 : List UInt8 := [184, 0, 19, 42, 180, 0, 7, 21, 6, 16, 12, 96, 21, 5, 184, 0, 19, 177]
abbrev dktX1_key_2 : List UInt8 := dkwX1_key_2 ++ []
def dkwX1_key_1 : List UInt8 := [42, 180, 0, 7, 21, 6, 7, 96, 29, 184, 0, 19, 42, 180, 0, 7, 21, 6, 16, 8, 96, 21, 4]
abbrev dktX1_key_1 : List UInt8 := dkwX1_key_1 ++ dktX1_key_2
def dkwX1_key_0 : List UInt8 := [3, 54, 6, 27, 4, 126, 4, 160, 0, 7, 16, 16, 54, 6, 42, 180, 0, 7, 21, 6, 28, 184, 0, 19]
abbrev dktX1_key_0 : List UInt8 := dkwX1_key_0 ++ dktX1_key_1
theorem dksX1_key_0 : cX1_key.data.toList.drop 0 = dktX1_key_0 := by decide +kernel
theorem dksX1_key_1 : cX1_key.data.toList.drop 24 = dktX1_key_1 := dk_seg dksX1_key_0 24 rfl rfl
theorem dksX1_key_2 : cX1_key.data.toList.drop 47 = dktX1_key_2 := dk_seg dksX1_key_1 23 rfl rfl
theorem dX1_key_0 : decode cX1_key 0 = .ok (.iconst 0, 1) := dk_3 (dk_at dksX1_key_0 0 rfl rfl)
theorem dX1_key_1 : decode cX1_key 1 = .ok (.istore 6, 2) := dk_54 6 (dk_at dksX1_key_0 1 rfl rfl)
theorem dX1_key_3 : decode cX1_key 3 = .ok (.iload_n 1, 1) := dk_27 (dk_at dksX1_key_0 3 rfl rfl)
theorem dX1_key_4 : decode cX1_key 4 = .ok (.iconst 1, 1) := dk_4 (dk_at dksX1_key_0 4 rfl rfl)
theorem dX1_key_5 : decode cX1_key 5 = .ok (.iand, 1) := dk_126 (dk_at dksX1_key_0 5 rfl rfl)
theorem dX1_key_6 : decode cX1_key 6 = .ok (.iconst 1, 1) := dk_4 (dk_at dksX1_key_0 6 rfl rfl)
theorem dX1_key_7 : decode cX1_key 7 = .ok (.if_icmp .ne 7, 3) := dk_160 0 7 (dk_at dksX1_key_0 7 rfl rfl)
theorem dX1_key_10 : decode cX1_key 10 = .ok (.bipush 16, 2) := dk_16 16 (dk_at dksX1_key_0 10 rfl rfl)
theorem dX1_key_12 : decode cX1_key 12 = .ok (.istore 6, 2) := dk_54 6 (dk_at dksX1_key_0 12 rfl rfl)
theorem dX1_key_14 : decode cX1_key 14 = .ok (.aload_n 0, 1) := dk_42 (dk_at dksX1_key_0 14 rfl rfl)
theorem dX1_key_15 : decode cX1_key 15 = .ok (.getfield 7, 3) := dk_180 0 7 (dk_at dksX1_key_0 15 rfl rfl)
theorem dX1_key_18 : decode cX1_key 18 = .ok (.iload 6, 2) := dk_21 6 (dk_at dksX1_key_0 18 rfl rfl)
theorem dX1_key_20 : decode cX1_key 20 = .ok (.iload_n 2, 1) := dk_28 (dk_at dksX1_key_0 20 rfl rfl)
theorem dX1_key_21 : decode cX1_key 21 = .ok (.invokestatic 19, 3) := dk_184 0 19 (dk_at dksX1_key_0 21 rfl rfl)
theorem dX1_key_24 : decode cX1_key 24 = .ok (.aload_n 0, 1) := dk_42 (dk_at dksX1_key_1 0 rfl rfl)
theorem dX1_key_25 : decode cX1_key 25 = .ok (.getfield 7, 3) := dk_180 0 7 (dk_at dksX1_key_1 1 rfl rfl)
theorem dX1_key_28 : decode cX1_key 28 = .ok (.iload 6, 2) := dk_21 6 (dk_at dksX1_key_1 4 rfl rfl)
theorem dX1_key_30 : decode cX1_key 30 = .ok (.iconst 4, 1) := dk_7 (dk_at dksX1_key_1 6 rfl rfl)
theorem dX1_key_31 : decode cX1_key 31 = .ok (.iadd, 1) := dk_96 (dk_at dksX1_key_1 7 rfl rfl)
theorem dX1_key_32 : decode cX1_key 32 = .ok (.iload_n 3, 1) := dk_29 (dk_at dksX1_key_1 8 rfl rfl)
theorem dX1_key_33 : decode cX1_key 33 = .ok (.invokestatic 19, 3) := dk_184 0 19 (dk_at dksX1_key_1 9 rfl rfl)
theorem dX1_key_36 : decode cX1_key 36 = .ok (.aload_n 0, 1) := dk_42 (dk_at dksX1_key_1 12 rfl rfl)
theorem dX1_key_37 : decode cX1_key 37 = .ok (.getfield 7, 3) := dk_180 0 7 (dk_at dksX1_key_1 13 rfl rfl)
theorem dX1_key_40 : decode cX1_key 40 = .ok (.iload 6, 2) := dk_21 6 (dk_at dksX1_key_1 16 rfl rfl)
theorem dX1_key_42 : decode cX1_key 42 = .ok (.bipush 8, 2) := dk_16 8 (dk_at dksX1_key_1 18 rfl rfl)
theorem dX1_key_44 : decode cX1_key 44 = .ok (.iadd, 1) := dk_96 (dk_at dksX1_key_1 20 rfl rfl)
theorem dX1_key_45 : decode cX1_key 45 = .ok (.iload 4, 2) := dk_21 4 (dk_at dksX1_key_1 21 rfl rfl)
theorem dX1_key_47 : decode cX1_key 47 = .ok (.invokestatic 19, 3) := dk_184 0 19 (dk_at dksX1_key_2 0 rfl rfl)
theorem dX1_key_50 : decode cX1_key 50 = .ok (.aload_n 0, 1) := dk_42 (dk_at dksX1_key_2 3 rfl rfl)
theorem dX1_key_51 : decode cX1_key 51 = .ok (.getfield 7, 3) := dk_180 0 7 (dk_at dksX1_key_2 4 rfl rfl)
theorem dX1_key_54 : decode cX1_key 54 = .ok (.iload 6, 2) := dk_21 6 (dk_at dksX1_key_2 7 rfl rfl)
theorem dX1_key_56 : decode cX1_key 56 = .ok (.bipush 12, 2) := dk_16 12 (dk_at dksX1_key_2 9 rfl rfl)
theorem dX1_key_58 : decode cX1_key 58 = .ok (.iadd, 1) := dk_96 (dk_at dksX1_key_2 11 rfl rfl)
theorem dX1_key_59 : decode cX1_key 59 = .ok (.iload 5, 2) := dk_21 5 (dk_at dksX1_key_2 12 rfl rfl)
theorem dX1_key_61 : decode cX1_key 61 = .ok (.invokestatic 19, 3) := dk_184 0 19 (dk_at dksX1_key_2 14 rfl rfl)
theorem dX1_key_64 : decode cX1_key 64 = .ok (.return_, 1) := dk_177 (dk_at dksX1_key_2 17 rfl rfl)
abbrev cX1_lay : ByteArray := prog_7_method_2_code
def yX1_lay : MethodName := ⟨RX1, "lay", "([III)V"⟩
def dkwX1_lay_1 : List UInt8 := [42, 27, 5, 96, 28, 16, 8, 124, 17, 0, 255, 126, 79, 42, 27, 6, 96, 28, 17, 0, 255, 126, 79, 177]
abbrev dktX1_lay_1 : List UInt8 := dkwX1_lay_1 ++ []
def dkwX1_lay_0 : List UInt8 := [42, 27, 28, 16, 24, 124, 17, 0, 255, 126, 79, 42, 27, 4, 96, 28, 16, 16, 124, 17, 0, 255, 126, 79]
abbrev dktX1_lay_0 : List UInt8 := dkwX1_lay_0 ++ dktX1_lay_1
theorem dksX1_lay_0 : cX1_lay.data.toList.drop 0 = dktX1_lay_0 := by decide +kernel
theorem dksX1_lay_1 : cX1_lay.data.toList.drop 24 = dktX1_lay_1 := dk_seg dksX1_lay_0 24 rfl rfl
theorem dX1_lay_0 : decode cX1_lay 0 = .ok (.aload_n 0, 1) := dk_42 (dk_at dksX1_lay_0 0 rfl rfl)
theorem dX1_lay_1 : decode cX1_lay 1 = .ok (.iload_n 1, 1) := dk_27 (dk_at dksX1_lay_0 1 rfl rfl)
theorem dX1_lay_2 : decode cX1_lay 2 = .ok (.iload_n 2, 1) := dk_28 (dk_at dksX1_lay_0 2 rfl rfl)
theorem dX1_lay_3 : decode cX1_lay 3 = .ok (.bipush 24, 2) := dk_16 24 (dk_at dksX1_lay_0 3 rfl rfl)
theorem dX1_lay_5 : decode cX1_lay 5 = .ok (.iushr, 1) := dk_124 (dk_at dksX1_lay_0 5 rfl rfl)
theorem dX1_lay_6 : decode cX1_lay 6 = .ok (.sipush 255, 3) := dk_17 0 255 (dk_at dksX1_lay_0 6 rfl rfl)
theorem dX1_lay_9 : decode cX1_lay 9 = .ok (.iand, 1) := dk_126 (dk_at dksX1_lay_0 9 rfl rfl)
theorem dX1_lay_10 : decode cX1_lay 10 = .ok (.iastore, 1) := dk_79 (dk_at dksX1_lay_0 10 rfl rfl)
theorem dX1_lay_11 : decode cX1_lay 11 = .ok (.aload_n 0, 1) := dk_42 (dk_at dksX1_lay_0 11 rfl rfl)
theorem dX1_lay_12 : decode cX1_lay 12 = .ok (.iload_n 1, 1) := dk_27 (dk_at dksX1_lay_0 12 rfl rfl)
theorem dX1_lay_13 : decode cX1_lay 13 = .ok (.iconst 1, 1) := dk_4 (dk_at dksX1_lay_0 13 rfl rfl)
theorem dX1_lay_14 : decode cX1_lay 14 = .ok (.iadd, 1) := dk_96 (dk_at dksX1_lay_0 14 rfl rfl)
theorem dX1_lay_15 : decode cX1_lay 15 = .ok (.iload_n 2, 1) := dk_28 (dk_at dksX1_lay_0 15 rfl rfl)
theorem dX1_lay_16 : decode cX1_lay 16 = .ok (.bipush 16, 2) := dk_16 16 (dk_at dksX1_lay_0 16 rfl rfl)
theorem dX1_lay_18 : decode cX1_lay 18 = .ok (.iushr, 1) := dk_124 (dk_at dksX1_lay_0 18 rfl rfl)
theorem dX1_lay_19 : decode cX1_lay 19 = .ok (.sipush 255, 3) := dk_17 0 255 (dk_at dksX1_lay_0 19 rfl rfl)
theorem dX1_lay_22 : decode cX1_lay 22 = .ok (.iand, 1) := dk_126 (dk_at dksX1_lay_0 22 rfl rfl)
theorem dX1_lay_23 : decode cX1_lay 23 = .ok (.iastore, 1) := dk_79 (dk_at dksX1_lay_0 23 rfl rfl)
theorem dX1_lay_24 : decode cX1_lay 24 = .ok (.aload_n 0, 1) := dk_42 (dk_at dksX1_lay_1 0 rfl rfl)
theorem dX1_lay_25 : decode cX1_lay 25 = .ok (.iload_n 1, 1) := dk_27 (dk_at dksX1_lay_1 1 rfl rfl)
theorem dX1_lay_26 : decode cX1_lay 26 = .ok (.iconst 2, 1) := dk_5 (dk_at dksX1_lay_1 2 rfl rfl)
theorem dX1_lay_27 : decode cX1_lay 27 = .ok (.iadd, 1) := dk_96 (dk_at dksX1_lay_1 3 rfl rfl)
theorem dX1_lay_28 : decode cX1_lay 28 = .ok (.iload_n 2, 1) := dk_28 (dk_at dksX1_lay_1 4 rfl rfl)
theorem dX1_lay_29 : decode cX1_lay 29 = .ok (.bipush 8, 2) := dk_16 8 (dk_at dksX1_lay_1 5 rfl rfl)
theorem dX1_lay_31 : decode cX1_lay 31 = .ok (.iushr, 1) := dk_124 (dk_at dksX1_lay_1 7 rfl rfl)
theorem dX1_lay_32 : decode cX1_lay 32 = .ok (.sipush 255, 3) := dk_17 0 255 (dk_at dksX1_lay_1 8 rfl rfl)
theorem dX1_lay_35 : decode cX1_lay 35 = .ok (.iand, 1) := dk_126 (dk_at dksX1_lay_1 11 rfl rfl)
theorem dX1_lay_36 : decode cX1_lay 36 = .ok (.iastore, 1) := dk_79 (dk_at dksX1_lay_1 12 rfl rfl)
theorem dX1_lay_37 : decode cX1_lay 37 = .ok (.aload_n 0, 1) := dk_42 (dk_at dksX1_lay_1 13 rfl rfl)
theorem dX1_lay_38 : decode cX1_lay 38 = .ok (.iload_n 1, 1) := dk_27 (dk_at dksX1_lay_1 14 rfl rfl)
theorem dX1_lay_39 : decode cX1_lay 39 = .ok (.iconst 3, 1) := dk_6 (dk_at dksX1_lay_1 15 rfl rfl)
theorem dX1_lay_40 : decode cX1_lay 40 = .ok (.iadd, 1) := dk_96 (dk_at dksX1_lay_1 16 rfl rfl)
theorem dX1_lay_41 : decode cX1_lay 41 = .ok (.iload_n 2, 1) := dk_28 (dk_at dksX1_lay_1 17 rfl rfl)
theorem dX1_lay_42 : decode cX1_lay 42 = .ok (.sipush 255, 3) := dk_17 0 255 (dk_at dksX1_lay_1 18 rfl rfl)
theorem dX1_lay_45 : decode cX1_lay 45 = .ok (.iand, 1) := dk_126 (dk_at dksX1_lay_1 21 rfl rfl)
theorem dX1_lay_46 : decode cX1_lay 46 = .ok (.iastore, 1) := dk_79 (dk_at dksX1_lay_1 22 rfl rfl)
theorem dX1_lay_47 : decode cX1_lay 47 = .ok (.return_, 1) := dk_177 (dk_at dksX1_lay_1 23 rfl rfl)
abbrev cX1_block : ByteArray := prog_7_method_5_code
def yX1_block : MethodName := ⟨RX1, "block", "(II)V"⟩
def dkwX1_block_0 : List UInt8 := [42, 180, 0, 13, 3, 27, 184, 0, 19, 42, 180, 0, 13, 7, 28, 184, 0, 19, 177]
abbrev dktX1_block_0 : List UInt8 := dkwX1_block_0 ++ []
theorem dksX1_block_0 : cX1_block.data.toList.drop 0 = dktX1_block_0 := by decide +kernel
theorem dX1_block_0 : decode cX1_block 0 = .ok (.aload_n 0, 1) := dk_42 (dk_at dksX1_block_0 0 rfl rfl)
theorem dX1_block_1 : decode cX1_block 1 = .ok (.getfield 13, 3) := dk_180 0 13 (dk_at dksX1_block_0 1 rfl rfl)
theorem dX1_block_4 : decode cX1_block 4 = .ok (.iconst 0, 1) := dk_3 (dk_at dksX1_block_0 4 rfl rfl)
theorem dX1_block_5 : decode cX1_block 5 = .ok (.iload_n 1, 1) := dk_27 (dk_at dksX1_block_0 5 rfl rfl)
theorem dX1_block_6 : decode cX1_block 6 = .ok (.invokestatic 19, 3) := dk_184 0 19 (dk_at dksX1_block_0 6 rfl rfl)
theorem dX1_block_9 : decode cX1_block 9 = .ok (.aload_n 0, 1) := dk_42 (dk_at dksX1_block_0 9 rfl rfl)
theorem dX1_block_10 : decode cX1_block 10 = .ok (.getfield 13, 3) := dk_180 0 13 (dk_at dksX1_block_0 10 rfl rfl)
theorem dX1_block_13 : decode cX1_block 13 = .ok (.iconst 4, 1) := dk_7 (dk_at dksX1_block_0 13 rfl rfl)
theorem dX1_block_14 : decode cX1_block 14 = .ok (.iload_n 2, 1) := dk_28 (dk_at dksX1_block_0 14 rfl rfl)
theorem dX1_block_15 : decode cX1_block 15 = .ok (.invokestatic 19, 3) := dk_184 0 19 (dk_at dksX1_block_0 15 rfl rfl)
theorem dX1_block_18 : decode cX1_block 18 = .ok (.return_, 1) := dk_177 (dk_at dksX1_block_0 18 rfl rfl)
abbrev cX1_lock : ByteArray := prog_7_method_9_code
def yX1_lock : MethodName := ⟨RX1, "lock", "(I)V"⟩
def dkwX1_lock_0 : List UInt8 := [42, 4, 182, 0, 38, 177]
abbrev dktX1_lock_0 : List UInt8 := dkwX1_lock_0 ++ []
theorem dksX1_lock_0 : cX1_lock.data.toList.drop 0 = dktX1_lock_0 := by decide +kernel
theorem dX1_lock_0 : decode cX1_lock 0 = .ok (.aload_n 0, 1) := dk_42 (dk_at dksX1_lock_0 0 rfl rfl)
theorem dX1_lock_1 : decode cX1_lock 1 = .ok (.iconst 1, 1) := dk_4 (dk_at dksX1_lock_0 1 rfl rfl)
theorem dX1_lock_2 : decode cX1_lock 2 = .ok (.invokevirtual 38, 3) := dk_182 0 38 (dk_at dksX1_lock_0 2 rfl rfl)
theorem dX1_lock_5 : decode cX1_lock 5 = .ok (.return_, 1) := dk_177 (dk_at dksX1_lock_0 5 rfl rfl)
abbrev cX1_run : ByteArray := prog_7_method_8_code
def yX1_run : MethodName := ⟨RX1, "run", "(Z)V"⟩
def dkwX1_run_5 : List UInt8 := [21, 4, 104, 124, 17, 0, 255, 126, 79, 132, 4, 1, 167, 255, 209, 177]
abbrev dktX1_run_5 : List UInt8 := dkwX1_run_5 ++ []
def dkwX1_run_4 : List UInt8 := [28, 16, 8, 21, 4, 104, 124, 17, 0, 255, 126, 79, 42, 180, 0, 16, 7, 21, 4, 96, 29, 16, 8]
abbrev dktX1_run_4 : List UInt8 := dkwX1_run_4 ++ dktX1_run_5
def dkwX1_run_3 : List UInt8 := [21, 6, 62, 132, 4, 1, 167, 255, 200, 3, 54, 4, 21, 4, 7, 162, 0, 47, 42, 180, 0, 16, 21, 4]
abbrev dktX1_run_3 : List UInt8 := dkwX1_run_3 ++ dktX1_run_4
def dkwX1_run_2 : List UInt8 := [21, 5, 96, 184, 0, 34, 130, 54, 6, 21, 4, 16, 31, 162, 0, 11, 28, 62, 21, 6, 61, 167, 0, 6]
abbrev dktX1_run_2 : List UInt8 := dkwX1_run_2 ++ dktX1_run_3
def dkwX1_run_1 : List UInt8 := [16, 32, 162, 0, 55, 42, 180, 0, 7, 7, 27, 21, 4, 184, 0, 30, 104, 184, 0, 26, 54, 5, 29, 28]
abbrev dktX1_run_1 : List UInt8 := dkwX1_run_1 ++ dktX1_run_2
def dkwX1_run_0 : List UInt8 := [42, 180, 0, 13, 3, 184, 0, 26, 61, 42, 180, 0, 13, 7, 184, 0, 26, 62, 3, 54, 4, 21, 4]
abbrev dktX1_run_0 : List UInt8 := dkwX1_run_0 ++ dktX1_run_1
theorem dksX1_run_0 : cX1_run.data.toList.drop 0 = dktX1_run_0 := by decide +kernel
theorem dksX1_run_1 : cX1_run.data.toList.drop 23 = dktX1_run_1 := dk_seg dksX1_run_0 23 rfl rfl
theorem dksX1_run_2 : cX1_run.data.toList.drop 47 = dktX1_run_2 := dk_seg dksX1_run_1 24 rfl rfl
theorem dksX1_run_3 : cX1_run.data.toList.drop 71 = dktX1_run_3 := dk_seg dksX1_run_2 24 rfl rfl
theorem dksX1_run_4 : cX1_run.data.toList.drop 95 = dktX1_run_4 := dk_seg dksX1_run_3 24 rfl rfl
theorem dksX1_run_5 : cX1_run.data.toList.drop 118 = dktX1_run_5 := dk_seg dksX1_run_4 23 rfl rfl
theorem dX1_run_0 : decode cX1_run 0 = .ok (.aload_n 0, 1) := dk_42 (dk_at dksX1_run_0 0 rfl rfl)
theorem dX1_run_1 : decode cX1_run 1 = .ok (.getfield 13, 3) := dk_180 0 13 (dk_at dksX1_run_0 1 rfl rfl)
theorem dX1_run_4 : decode cX1_run 4 = .ok (.iconst 0, 1) := dk_3 (dk_at dksX1_run_0 4 rfl rfl)
theorem dX1_run_5 : decode cX1_run 5 = .ok (.invokestatic 26, 3) := dk_184 0 26 (dk_at dksX1_run_0 5 rfl rfl)
theorem dX1_run_8 : decode cX1_run 8 = .ok (.istore_n 2, 1) := dk_61 (dk_at dksX1_run_0 8 rfl rfl)
theorem dX1_run_9 : decode cX1_run 9 = .ok (.aload_n 0, 1) := dk_42 (dk_at dksX1_run_0 9 rfl rfl)
theorem dX1_run_10 : decode cX1_run 10 = .ok (.getfield 13, 3) := dk_180 0 13 (dk_at dksX1_run_0 10 rfl rfl)
theorem dX1_run_13 : decode cX1_run 13 = .ok (.iconst 4, 1) := dk_7 (dk_at dksX1_run_0 13 rfl rfl)
theorem dX1_run_14 : decode cX1_run 14 = .ok (.invokestatic 26, 3) := dk_184 0 26 (dk_at dksX1_run_0 14 rfl rfl)
theorem dX1_run_17 : decode cX1_run 17 = .ok (.istore_n 3, 1) := dk_62 (dk_at dksX1_run_0 17 rfl rfl)
theorem dX1_run_18 : decode cX1_run 18 = .ok (.iconst 0, 1) := dk_3 (dk_at dksX1_run_0 18 rfl rfl)
theorem dX1_run_19 : decode cX1_run 19 = .ok (.istore 4, 2) := dk_54 4 (dk_at dksX1_run_0 19 rfl rfl)
theorem dX1_run_21 : decode cX1_run 21 = .ok (.iload 4, 2) := dk_21 4 (dk_at dksX1_run_0 21 rfl rfl)
theorem dX1_run_23 : decode cX1_run 23 = .ok (.bipush 32, 2) := dk_16 32 (dk_at dksX1_run_1 0 rfl rfl)
theorem dX1_run_25 : decode cX1_run 25 = .ok (.if_icmp .ge 55, 3) := dk_162 0 55 (dk_at dksX1_run_1 2 rfl rfl)
theorem dX1_run_28 : decode cX1_run 28 = .ok (.aload_n 0, 1) := dk_42 (dk_at dksX1_run_1 5 rfl rfl)
theorem dX1_run_29 : decode cX1_run 29 = .ok (.getfield 7, 3) := dk_180 0 7 (dk_at dksX1_run_1 6 rfl rfl)
theorem dX1_run_32 : decode cX1_run 32 = .ok (.iconst 4, 1) := dk_7 (dk_at dksX1_run_1 9 rfl rfl)
theorem dX1_run_33 : decode cX1_run 33 = .ok (.iload_n 1, 1) := dk_27 (dk_at dksX1_run_1 10 rfl rfl)
theorem dX1_run_34 : decode cX1_run 34 = .ok (.iload 4, 2) := dk_21 4 (dk_at dksX1_run_1 11 rfl rfl)
theorem dX1_run_36 : decode cX1_run 36 = .ok (.invokestatic 30, 3) := dk_184 0 30 (dk_at dksX1_run_1 13 rfl rfl)
theorem dX1_run_39 : decode cX1_run 39 = .ok (.imul, 1) := dk_104 (dk_at dksX1_run_1 16 rfl rfl)
theorem dX1_run_40 : decode cX1_run 40 = .ok (.invokestatic 26, 3) := dk_184 0 26 (dk_at dksX1_run_1 17 rfl rfl)
theorem dX1_run_43 : decode cX1_run 43 = .ok (.istore 5, 2) := dk_54 5 (dk_at dksX1_run_1 20 rfl rfl)
theorem dX1_run_45 : decode cX1_run 45 = .ok (.iload_n 3, 1) := dk_29 (dk_at dksX1_run_1 22 rfl rfl)
theorem dX1_run_46 : decode cX1_run 46 = .ok (.iload_n 2, 1) := dk_28 (dk_at dksX1_run_1 23 rfl rfl)
theorem dX1_run_47 : decode cX1_run 47 = .ok (.iload 5, 2) := dk_21 5 (dk_at dksX1_run_2 0 rfl rfl)
theorem dX1_run_49 : decode cX1_run 49 = .ok (.iadd, 1) := dk_96 (dk_at dksX1_run_2 2 rfl rfl)
theorem dX1_run_50 : decode cX1_run 50 = .ok (.invokestatic 34, 3) := dk_184 0 34 (dk_at dksX1_run_2 3 rfl rfl)
theorem dX1_run_53 : decode cX1_run 53 = .ok (.ixor, 1) := dk_130 (dk_at dksX1_run_2 6 rfl rfl)
theorem dX1_run_54 : decode cX1_run 54 = .ok (.istore 6, 2) := dk_54 6 (dk_at dksX1_run_2 7 rfl rfl)
theorem dX1_run_56 : decode cX1_run 56 = .ok (.iload 4, 2) := dk_21 4 (dk_at dksX1_run_2 9 rfl rfl)
theorem dX1_run_58 : decode cX1_run 58 = .ok (.bipush 31, 2) := dk_16 31 (dk_at dksX1_run_2 11 rfl rfl)
theorem dX1_run_60 : decode cX1_run 60 = .ok (.if_icmp .ge 11, 3) := dk_162 0 11 (dk_at dksX1_run_2 13 rfl rfl)
theorem dX1_run_63 : decode cX1_run 63 = .ok (.iload_n 2, 1) := dk_28 (dk_at dksX1_run_2 16 rfl rfl)
theorem dX1_run_64 : decode cX1_run 64 = .ok (.istore_n 3, 1) := dk_62 (dk_at dksX1_run_2 17 rfl rfl)
theorem dX1_run_65 : decode cX1_run 65 = .ok (.iload 6, 2) := dk_21 6 (dk_at dksX1_run_2 18 rfl rfl)
theorem dX1_run_67 : decode cX1_run 67 = .ok (.istore_n 2, 1) := dk_61 (dk_at dksX1_run_2 20 rfl rfl)
theorem dX1_run_68 : decode cX1_run 68 = .ok (.goto 6, 3) := dk_167 0 6 (dk_at dksX1_run_2 21 rfl rfl)
theorem dX1_run_71 : decode cX1_run 71 = .ok (.iload 6, 2) := dk_21 6 (dk_at dksX1_run_3 0 rfl rfl)
theorem dX1_run_73 : decode cX1_run 73 = .ok (.istore_n 3, 1) := dk_62 (dk_at dksX1_run_3 2 rfl rfl)
theorem dX1_run_74 : decode cX1_run 74 = .ok (.iinc 4 1, 3) := dk_132 4 1 (dk_at dksX1_run_3 3 rfl rfl)
theorem dX1_run_77 : decode cX1_run 77 = .ok (.goto (-56), 3) := dk_167 255 200 (dk_at dksX1_run_3 6 rfl rfl)
theorem dX1_run_80 : decode cX1_run 80 = .ok (.iconst 0, 1) := dk_3 (dk_at dksX1_run_3 9 rfl rfl)
theorem dX1_run_81 : decode cX1_run 81 = .ok (.istore 4, 2) := dk_54 4 (dk_at dksX1_run_3 10 rfl rfl)
theorem dX1_run_83 : decode cX1_run 83 = .ok (.iload 4, 2) := dk_21 4 (dk_at dksX1_run_3 12 rfl rfl)
theorem dX1_run_85 : decode cX1_run 85 = .ok (.iconst 4, 1) := dk_7 (dk_at dksX1_run_3 14 rfl rfl)
theorem dX1_run_86 : decode cX1_run 86 = .ok (.if_icmp .ge 47, 3) := dk_162 0 47 (dk_at dksX1_run_3 15 rfl rfl)
theorem dX1_run_89 : decode cX1_run 89 = .ok (.aload_n 0, 1) := dk_42 (dk_at dksX1_run_3 18 rfl rfl)
theorem dX1_run_90 : decode cX1_run 90 = .ok (.getfield 16, 3) := dk_180 0 16 (dk_at dksX1_run_3 19 rfl rfl)
theorem dX1_run_93 : decode cX1_run 93 = .ok (.iload 4, 2) := dk_21 4 (dk_at dksX1_run_3 22 rfl rfl)
theorem dX1_run_95 : decode cX1_run 95 = .ok (.iload_n 2, 1) := dk_28 (dk_at dksX1_run_4 0 rfl rfl)
theorem dX1_run_96 : decode cX1_run 96 = .ok (.bipush 8, 2) := dk_16 8 (dk_at dksX1_run_4 1 rfl rfl)
theorem dX1_run_98 : decode cX1_run 98 = .ok (.iload 4, 2) := dk_21 4 (dk_at dksX1_run_4 3 rfl rfl)
theorem dX1_run_100 : decode cX1_run 100 = .ok (.imul, 1) := dk_104 (dk_at dksX1_run_4 5 rfl rfl)
theorem dX1_run_101 : decode cX1_run 101 = .ok (.iushr, 1) := dk_124 (dk_at dksX1_run_4 6 rfl rfl)
theorem dX1_run_102 : decode cX1_run 102 = .ok (.sipush 255, 3) := dk_17 0 255 (dk_at dksX1_run_4 7 rfl rfl)
theorem dX1_run_105 : decode cX1_run 105 = .ok (.iand, 1) := dk_126 (dk_at dksX1_run_4 10 rfl rfl)
theorem dX1_run_106 : decode cX1_run 106 = .ok (.iastore, 1) := dk_79 (dk_at dksX1_run_4 11 rfl rfl)
theorem dX1_run_107 : decode cX1_run 107 = .ok (.aload_n 0, 1) := dk_42 (dk_at dksX1_run_4 12 rfl rfl)
theorem dX1_run_108 : decode cX1_run 108 = .ok (.getfield 16, 3) := dk_180 0 16 (dk_at dksX1_run_4 13 rfl rfl)
theorem dX1_run_111 : decode cX1_run 111 = .ok (.iconst 4, 1) := dk_7 (dk_at dksX1_run_4 16 rfl rfl)
theorem dX1_run_112 : decode cX1_run 112 = .ok (.iload 4, 2) := dk_21 4 (dk_at dksX1_run_4 17 rfl rfl)
theorem dX1_run_114 : decode cX1_run 114 = .ok (.iadd, 1) := dk_96 (dk_at dksX1_run_4 19 rfl rfl)
theorem dX1_run_115 : decode cX1_run 115 = .ok (.iload_n 3, 1) := dk_29 (dk_at dksX1_run_4 20 rfl rfl)
theorem dX1_run_116 : decode cX1_run 116 = .ok (.bipush 8, 2) := dk_16 8 (dk_at dksX1_run_4 21 rfl rfl)
theorem dX1_run_118 : decode cX1_run 118 = .ok (.iload 4, 2) := dk_21 4 (dk_at dksX1_run_5 0 rfl rfl)
theorem dX1_run_120 : decode cX1_run 120 = .ok (.imul, 1) := dk_104 (dk_at dksX1_run_5 2 rfl rfl)
theorem dX1_run_121 : decode cX1_run 121 = .ok (.iushr, 1) := dk_124 (dk_at dksX1_run_5 3 rfl rfl)
theorem dX1_run_122 : decode cX1_run 122 = .ok (.sipush 255, 3) := dk_17 0 255 (dk_at dksX1_run_5 4 rfl rfl)
theorem dX1_run_125 : decode cX1_run 125 = .ok (.iand, 1) := dk_126 (dk_at dksX1_run_5 7 rfl rfl)
theorem dX1_run_126 : decode cX1_run 126 = .ok (.iastore, 1) := dk_79 (dk_at dksX1_run_5 8 rfl rfl)
theorem dX1_run_127 : decode cX1_run 127 = .ok (.iinc 4 1, 3) := dk_132 4 1 (dk_at dksX1_run_5 9 rfl rfl)
theorem dX1_run_130 : decode cX1_run 130 = .ok (.goto (-47), 3) := dk_167 255 209 (dk_at dksX1_run_5 12 rfl rfl)
theorem dX1_run_133 : decode cX1_run 133 = .ok (.return_, 1) := dk_177 (dk_at dksX1_run_5 15 rfl rfl)
abbrev cX1_number : ByteArray := prog_7_method_3_code
def yX1_number : MethodName := ⟨RX1, "number", "([II)I"⟩
def dkwX1_number_1 : List UInt8 := [96, 46, 16, 24, 120, 128, 172]
abbrev dktX1_number_1 : List UInt8 := dkwX1_number_1 ++ []
def dkwX1_number_0 : List UInt8 := [42, 27, 46, 42, 27, 4, 96, 46, 16, 8, 120, 128, 42, 27, 5, 96, 46, 16, 16, 120, 128, 42, 27, 6]
abbrev dktX1_number_0 : List UInt8 := dkwX1_number_0 ++ dktX1_number_1
theorem dksX1_number_0 : cX1_number.data.toList.drop 0 = dktX1_number_0 := by decide +kernel
theorem dksX1_number_1 : cX1_number.data.toList.drop 24 = dktX1_number_1 := dk_seg dksX1_number_0 24 rfl rfl
theorem dX1_number_0 : decode cX1_number 0 = .ok (.aload_n 0, 1) := dk_42 (dk_at dksX1_number_0 0 rfl rfl)
theorem dX1_number_1 : decode cX1_number 1 = .ok (.iload_n 1, 1) := dk_27 (dk_at dksX1_number_0 1 rfl rfl)
theorem dX1_number_2 : decode cX1_number 2 = .ok (.iaload, 1) := dk_46 (dk_at dksX1_number_0 2 rfl rfl)
theorem dX1_number_3 : decode cX1_number 3 = .ok (.aload_n 0, 1) := dk_42 (dk_at dksX1_number_0 3 rfl rfl)
theorem dX1_number_4 : decode cX1_number 4 = .ok (.iload_n 1, 1) := dk_27 (dk_at dksX1_number_0 4 rfl rfl)
theorem dX1_number_5 : decode cX1_number 5 = .ok (.iconst 1, 1) := dk_4 (dk_at dksX1_number_0 5 rfl rfl)
theorem dX1_number_6 : decode cX1_number 6 = .ok (.iadd, 1) := dk_96 (dk_at dksX1_number_0 6 rfl rfl)
theorem dX1_number_7 : decode cX1_number 7 = .ok (.iaload, 1) := dk_46 (dk_at dksX1_number_0 7 rfl rfl)
theorem dX1_number_8 : decode cX1_number 8 = .ok (.bipush 8, 2) := dk_16 8 (dk_at dksX1_number_0 8 rfl rfl)
theorem dX1_number_10 : decode cX1_number 10 = .ok (.ishl, 1) := dk_120 (dk_at dksX1_number_0 10 rfl rfl)
theorem dX1_number_11 : decode cX1_number 11 = .ok (.ior, 1) := dk_128 (dk_at dksX1_number_0 11 rfl rfl)
theorem dX1_number_12 : decode cX1_number 12 = .ok (.aload_n 0, 1) := dk_42 (dk_at dksX1_number_0 12 rfl rfl)
theorem dX1_number_13 : decode cX1_number 13 = .ok (.iload_n 1, 1) := dk_27 (dk_at dksX1_number_0 13 rfl rfl)
theorem dX1_number_14 : decode cX1_number 14 = .ok (.iconst 2, 1) := dk_5 (dk_at dksX1_number_0 14 rfl rfl)
theorem dX1_number_15 : decode cX1_number 15 = .ok (.iadd, 1) := dk_96 (dk_at dksX1_number_0 15 rfl rfl)
theorem dX1_number_16 : decode cX1_number 16 = .ok (.iaload, 1) := dk_46 (dk_at dksX1_number_0 16 rfl rfl)
theorem dX1_number_17 : decode cX1_number 17 = .ok (.bipush 16, 2) := dk_16 16 (dk_at dksX1_number_0 17 rfl rfl)
theorem dX1_number_19 : decode cX1_number 19 = .ok (.ishl, 1) := dk_120 (dk_at dksX1_number_0 19 rfl rfl)
theorem dX1_number_20 : decode cX1_number 20 = .ok (.ior, 1) := dk_128 (dk_at dksX1_number_0 20 rfl rfl)
theorem dX1_number_21 : decode cX1_number 21 = .ok (.aload_n 0, 1) := dk_42 (dk_at dksX1_number_0 21 rfl rfl)
theorem dX1_number_22 : decode cX1_number 22 = .ok (.iload_n 1, 1) := dk_27 (dk_at dksX1_number_0 22 rfl rfl)
theorem dX1_number_23 : decode cX1_number 23 = .ok (.iconst 3, 1) := dk_6 (dk_at dksX1_number_0 23 rfl rfl)
theorem dX1_number_24 : decode cX1_number 24 = .ok (.iadd, 1) := dk_96 (dk_at dksX1_number_1 0 rfl rfl)
theorem dX1_number_25 : decode cX1_number 25 = .ok (.iaload, 1) := dk_46 (dk_at dksX1_number_1 1 rfl rfl)
theorem dX1_number_26 : decode cX1_number 26 = .ok (.bipush 24, 2) := dk_16 24 (dk_at dksX1_number_1 2 rfl rfl)
theorem dX1_number_28 : decode cX1_number 28 = .ok (.ishl, 1) := dk_120 (dk_at dksX1_number_1 4 rfl rfl)
theorem dX1_number_29 : decode cX1_number 29 = .ok (.ior, 1) := dk_128 (dk_at dksX1_number_1 5 rfl rfl)
theorem dX1_number_30 : decode cX1_number 30 = .ok (.ireturn, 1) := dk_172 (dk_at dksX1_number_1 6 rfl rfl)
abbrev cX1_wordOfRound : ByteArray := prog_7_method_7_code
def yX1_wordOfRound : MethodName := ⟨RX1, "wordOfRound", "(ZI)I"⟩
def dkwX1_wordOfRound_1 : List UInt8 := [162, 0, 5, 27, 172, 16, 7, 27, 16, 8, 112, 100, 172]
abbrev dktX1_wordOfRound_1 : List UInt8 := dkwX1_wordOfRound_1 ++ []
def dkwX1_wordOfRound_0 : List UInt8 := [26, 153, 0, 19, 27, 16, 24, 162, 0, 8, 27, 16, 8, 112, 172, 16, 31, 27, 100, 172, 27, 16, 8]
abbrev dktX1_wordOfRound_0 : List UInt8 := dkwX1_wordOfRound_0 ++ dktX1_wordOfRound_1
theorem dksX1_wordOfRound_0 : cX1_wordOfRound.data.toList.drop 0 = dktX1_wordOfRound_0 := by decide +kernel
theorem dksX1_wordOfRound_1 : cX1_wordOfRound.data.toList.drop 23 = dktX1_wordOfRound_1 := dk_seg dksX1_wordOfRound_0 23 rfl rfl
theorem dX1_wordOfRound_0 : decode cX1_wordOfRound 0 = .ok (.iload_n 0, 1) := dk_26 (dk_at dksX1_wordOfRound_0 0 rfl rfl)
theorem dX1_wordOfRound_1 : decode cX1_wordOfRound 1 = .ok (.ifCond .eq 19, 3) := dk_153 0 19 (dk_at dksX1_wordOfRound_0 1 rfl rfl)
theorem dX1_wordOfRound_4 : decode cX1_wordOfRound 4 = .ok (.iload_n 1, 1) := dk_27 (dk_at dksX1_wordOfRound_0 4 rfl rfl)
theorem dX1_wordOfRound_5 : decode cX1_wordOfRound 5 = .ok (.bipush 24, 2) := dk_16 24 (dk_at dksX1_wordOfRound_0 5 rfl rfl)
theorem dX1_wordOfRound_7 : decode cX1_wordOfRound 7 = .ok (.if_icmp .ge 8, 3) := dk_162 0 8 (dk_at dksX1_wordOfRound_0 7 rfl rfl)
theorem dX1_wordOfRound_10 : decode cX1_wordOfRound 10 = .ok (.iload_n 1, 1) := dk_27 (dk_at dksX1_wordOfRound_0 10 rfl rfl)
theorem dX1_wordOfRound_11 : decode cX1_wordOfRound 11 = .ok (.bipush 8, 2) := dk_16 8 (dk_at dksX1_wordOfRound_0 11 rfl rfl)
theorem dX1_wordOfRound_13 : decode cX1_wordOfRound 13 = .ok (.irem, 1) := dk_112 (dk_at dksX1_wordOfRound_0 13 rfl rfl)
theorem dX1_wordOfRound_14 : decode cX1_wordOfRound 14 = .ok (.ireturn, 1) := dk_172 (dk_at dksX1_wordOfRound_0 14 rfl rfl)
theorem dX1_wordOfRound_15 : decode cX1_wordOfRound 15 = .ok (.bipush 31, 2) := dk_16 31 (dk_at dksX1_wordOfRound_0 15 rfl rfl)
theorem dX1_wordOfRound_17 : decode cX1_wordOfRound 17 = .ok (.iload_n 1, 1) := dk_27 (dk_at dksX1_wordOfRound_0 17 rfl rfl)
theorem dX1_wordOfRound_18 : decode cX1_wordOfRound 18 = .ok (.isub, 1) := dk_100 (dk_at dksX1_wordOfRound_0 18 rfl rfl)
theorem dX1_wordOfRound_19 : decode cX1_wordOfRound 19 = .ok (.ireturn, 1) := dk_172 (dk_at dksX1_wordOfRound_0 19 rfl rfl)
theorem dX1_wordOfRound_20 : decode cX1_wordOfRound 20 = .ok (.iload_n 1, 1) := dk_27 (dk_at dksX1_wordOfRound_0 20 rfl rfl)
theorem dX1_wordOfRound_21 : decode cX1_wordOfRound 21 = .ok (.bipush 8, 2) := dk_16 8 (dk_at dksX1_wordOfRound_0 21 rfl rfl)
theorem dX1_wordOfRound_23 : decode cX1_wordOfRound 23 = .ok (.if_icmp .ge 5, 3) := dk_162 0 5 (dk_at dksX1_wordOfRound_1 0 rfl rfl)
theorem dX1_wordOfRound_26 : decode cX1_wordOfRound 26 = .ok (.iload_n 1, 1) := dk_27 (dk_at dksX1_wordOfRound_1 3 rfl rfl)
theorem dX1_wordOfRound_27 : decode cX1_wordOfRound 27 = .ok (.ireturn, 1) := dk_172 (dk_at dksX1_wordOfRound_1 4 rfl rfl)
theorem dX1_wordOfRound_28 : decode cX1_wordOfRound 28 = .ok (.bipush 7, 2) := dk_16 7 (dk_at dksX1_wordOfRound_1 5 rfl rfl)
theorem dX1_wordOfRound_30 : decode cX1_wordOfRound 30 = .ok (.iload_n 1, 1) := dk_27 (dk_at dksX1_wordOfRound_1 7 rfl rfl)
theorem dX1_wordOfRound_31 : decode cX1_wordOfRound 31 = .ok (.bipush 8, 2) := dk_16 8 (dk_at dksX1_wordOfRound_1 8 rfl rfl)
theorem dX1_wordOfRound_33 : decode cX1_wordOfRound 33 = .ok (.irem, 1) := dk_112 (dk_at dksX1_wordOfRound_1 10 rfl rfl)
theorem dX1_wordOfRound_34 : decode cX1_wordOfRound 34 = .ok (.isub, 1) := dk_100 (dk_at dksX1_wordOfRound_1 11 rfl rfl)
theorem dX1_wordOfRound_35 : decode cX1_wordOfRound 35 = .ok (.ireturn, 1) := dk_172 (dk_at dksX1_wordOfRound_1 12 rfl rfl)
abbrev cX1_mix : ByteArray := prog_7_method_6_code
def yX1_mix : MethodName := ⟨RX1, "mix", "(I)I"⟩
def dkwX1_mix_2 : List UInt8 := [16, 21, 124, 128, 172]
abbrev dktX1_mix_2 : List UInt8 := dkwX1_mix_2 ++ []
def dkwX1_mix_1 : List UInt8 := [16, 16, 28, 104, 29, 96, 46, 7, 28, 104, 120, 128, 60, 132, 2, 1, 167, 255, 221, 27, 16, 11, 120, 27]
abbrev dktX1_mix_1 : List UInt8 := dkwX1_mix_1 ++ dktX1_mix_2
def dkwX1_mix_0 : List UInt8 := [3, 60, 3, 61, 28, 16, 8, 162, 0, 35, 26, 7, 28, 104, 124, 16, 15, 126, 62, 27, 178, 0, 23]
abbrev dktX1_mix_0 : List UInt8 := dkwX1_mix_0 ++ dktX1_mix_1
theorem dksX1_mix_0 : cX1_mix.data.toList.drop 0 = dktX1_mix_0 := by decide +kernel
theorem dksX1_mix_1 : cX1_mix.data.toList.drop 23 = dktX1_mix_1 := dk_seg dksX1_mix_0 23 rfl rfl
theorem dksX1_mix_2 : cX1_mix.data.toList.drop 47 = dktX1_mix_2 := dk_seg dksX1_mix_1 24 rfl rfl
theorem dX1_mix_0 : decode cX1_mix 0 = .ok (.iconst 0, 1) := dk_3 (dk_at dksX1_mix_0 0 rfl rfl)
theorem dX1_mix_1 : decode cX1_mix 1 = .ok (.istore_n 1, 1) := dk_60 (dk_at dksX1_mix_0 1 rfl rfl)
theorem dX1_mix_2 : decode cX1_mix 2 = .ok (.iconst 0, 1) := dk_3 (dk_at dksX1_mix_0 2 rfl rfl)
theorem dX1_mix_3 : decode cX1_mix 3 = .ok (.istore_n 2, 1) := dk_61 (dk_at dksX1_mix_0 3 rfl rfl)
theorem dX1_mix_4 : decode cX1_mix 4 = .ok (.iload_n 2, 1) := dk_28 (dk_at dksX1_mix_0 4 rfl rfl)
theorem dX1_mix_5 : decode cX1_mix 5 = .ok (.bipush 8, 2) := dk_16 8 (dk_at dksX1_mix_0 5 rfl rfl)
theorem dX1_mix_7 : decode cX1_mix 7 = .ok (.if_icmp .ge 35, 3) := dk_162 0 35 (dk_at dksX1_mix_0 7 rfl rfl)
theorem dX1_mix_10 : decode cX1_mix 10 = .ok (.iload_n 0, 1) := dk_26 (dk_at dksX1_mix_0 10 rfl rfl)
theorem dX1_mix_11 : decode cX1_mix 11 = .ok (.iconst 4, 1) := dk_7 (dk_at dksX1_mix_0 11 rfl rfl)
theorem dX1_mix_12 : decode cX1_mix 12 = .ok (.iload_n 2, 1) := dk_28 (dk_at dksX1_mix_0 12 rfl rfl)
theorem dX1_mix_13 : decode cX1_mix 13 = .ok (.imul, 1) := dk_104 (dk_at dksX1_mix_0 13 rfl rfl)
theorem dX1_mix_14 : decode cX1_mix 14 = .ok (.iushr, 1) := dk_124 (dk_at dksX1_mix_0 14 rfl rfl)
theorem dX1_mix_15 : decode cX1_mix 15 = .ok (.bipush 15, 2) := dk_16 15 (dk_at dksX1_mix_0 15 rfl rfl)
theorem dX1_mix_17 : decode cX1_mix 17 = .ok (.iand, 1) := dk_126 (dk_at dksX1_mix_0 17 rfl rfl)
theorem dX1_mix_18 : decode cX1_mix 18 = .ok (.istore_n 3, 1) := dk_62 (dk_at dksX1_mix_0 18 rfl rfl)
theorem dX1_mix_19 : decode cX1_mix 19 = .ok (.iload_n 1, 1) := dk_27 (dk_at dksX1_mix_0 19 rfl rfl)
theorem dX1_mix_20 : decode cX1_mix 20 = .ok (.getstatic 23, 3) := dk_178 0 23 (dk_at dksX1_mix_0 20 rfl rfl)
theorem dX1_mix_23 : decode cX1_mix 23 = .ok (.bipush 16, 2) := dk_16 16 (dk_at dksX1_mix_1 0 rfl rfl)
theorem dX1_mix_25 : decode cX1_mix 25 = .ok (.iload_n 2, 1) := dk_28 (dk_at dksX1_mix_1 2 rfl rfl)
theorem dX1_mix_26 : decode cX1_mix 26 = .ok (.imul, 1) := dk_104 (dk_at dksX1_mix_1 3 rfl rfl)
theorem dX1_mix_27 : decode cX1_mix 27 = .ok (.iload_n 3, 1) := dk_29 (dk_at dksX1_mix_1 4 rfl rfl)
theorem dX1_mix_28 : decode cX1_mix 28 = .ok (.iadd, 1) := dk_96 (dk_at dksX1_mix_1 5 rfl rfl)
theorem dX1_mix_29 : decode cX1_mix 29 = .ok (.iaload, 1) := dk_46 (dk_at dksX1_mix_1 6 rfl rfl)
theorem dX1_mix_30 : decode cX1_mix 30 = .ok (.iconst 4, 1) := dk_7 (dk_at dksX1_mix_1 7 rfl rfl)
theorem dX1_mix_31 : decode cX1_mix 31 = .ok (.iload_n 2, 1) := dk_28 (dk_at dksX1_mix_1 8 rfl rfl)
theorem dX1_mix_32 : decode cX1_mix 32 = .ok (.imul, 1) := dk_104 (dk_at dksX1_mix_1 9 rfl rfl)
theorem dX1_mix_33 : decode cX1_mix 33 = .ok (.ishl, 1) := dk_120 (dk_at dksX1_mix_1 10 rfl rfl)
theorem dX1_mix_34 : decode cX1_mix 34 = .ok (.ior, 1) := dk_128 (dk_at dksX1_mix_1 11 rfl rfl)
theorem dX1_mix_35 : decode cX1_mix 35 = .ok (.istore_n 1, 1) := dk_60 (dk_at dksX1_mix_1 12 rfl rfl)
theorem dX1_mix_36 : decode cX1_mix 36 = .ok (.iinc 2 1, 3) := dk_132 2 1 (dk_at dksX1_mix_1 13 rfl rfl)
theorem dX1_mix_39 : decode cX1_mix 39 = .ok (.goto (-35), 3) := dk_167 255 221 (dk_at dksX1_mix_1 16 rfl rfl)
theorem dX1_mix_42 : decode cX1_mix 42 = .ok (.iload_n 1, 1) := dk_27 (dk_at dksX1_mix_1 19 rfl rfl)
theorem dX1_mix_43 : decode cX1_mix 43 = .ok (.bipush 11, 2) := dk_16 11 (dk_at dksX1_mix_1 20 rfl rfl)
theorem dX1_mix_45 : decode cX1_mix 45 = .ok (.ishl, 1) := dk_120 (dk_at dksX1_mix_1 22 rfl rfl)
theorem dX1_mix_46 : decode cX1_mix 46 = .ok (.iload_n 1, 1) := dk_27 (dk_at dksX1_mix_1 23 rfl rfl)
theorem dX1_mix_47 : decode cX1_mix 47 = .ok (.bipush 21, 2) := dk_16 21 (dk_at dksX1_mix_2 0 rfl rfl)
theorem dX1_mix_49 : decode cX1_mix 49 = .ok (.iushr, 1) := dk_124 (dk_at dksX1_mix_2 2 rfl rfl)
theorem dX1_mix_50 : decode cX1_mix 50 = .ok (.ior, 1) := dk_128 (dk_at dksX1_mix_2 3 rfl rfl)
theorem dX1_mix_51 : decode cX1_mix 51 = .ok (.ireturn, 1) := dk_172 (dk_at dksX1_mix_2 4 rfl rfl)
abbrev cX1_open : ByteArray := prog_7_method_10_code
def yX1_open : MethodName := ⟨RX1, "open", "(I)V"⟩
def dkwX1_open_0 : List UInt8 := [42, 3, 182, 0, 38, 177]
abbrev dktX1_open_0 : List UInt8 := dkwX1_open_0 ++ []
theorem dksX1_open_0 : cX1_open.data.toList.drop 0 = dktX1_open_0 := by decide +kernel
theorem dX1_open_0 : decode cX1_open 0 = .ok (.aload_n 0, 1) := dk_42 (dk_at dksX1_open_0 0 rfl rfl)
theorem dX1_open_1 : decode cX1_open 1 = .ok (.iconst 0, 1) := dk_3 (dk_at dksX1_open_0 1 rfl rfl)
theorem dX1_open_2 : decode cX1_open 2 = .ok (.invokevirtual 38, 3) := dk_182 0 38 (dk_at dksX1_open_0 2 rfl rfl)
theorem dX1_open_5 : decode cX1_open 5 = .ok (.return_, 1) := dk_177 (dk_at dksX1_open_0 5 rfl rfl)
abbrev cX1_again : ByteArray := prog_7_method_11_code
def yX1_again : MethodName := ⟨RX1, "again", "()V"⟩
def dkwX1_again_1 : List UInt8 := [167, 255, 235, 177]
abbrev dktX1_again_1 : List UInt8 := dkwX1_again_1 ++ []
def dkwX1_again_0 : List UInt8 := [3, 60, 27, 16, 8, 162, 0, 21, 42, 180, 0, 13, 27, 42, 180, 0, 16, 27, 46, 79, 132, 1, 1]
abbrev dktX1_again_0 : List UInt8 := dkwX1_again_0 ++ dktX1_again_1
theorem dksX1_again_0 : cX1_again.data.toList.drop 0 = dktX1_again_0 := by decide +kernel
theorem dksX1_again_1 : cX1_again.data.toList.drop 23 = dktX1_again_1 := dk_seg dksX1_again_0 23 rfl rfl
theorem dX1_again_0 : decode cX1_again 0 = .ok (.iconst 0, 1) := dk_3 (dk_at dksX1_again_0 0 rfl rfl)
theorem dX1_again_1 : decode cX1_again 1 = .ok (.istore_n 1, 1) := dk_60 (dk_at dksX1_again_0 1 rfl rfl)
theorem dX1_again_2 : decode cX1_again 2 = .ok (.iload_n 1, 1) := dk_27 (dk_at dksX1_again_0 2 rfl rfl)
theorem dX1_again_3 : decode cX1_again 3 = .ok (.bipush 8, 2) := dk_16 8 (dk_at dksX1_again_0 3 rfl rfl)
theorem dX1_again_5 : decode cX1_again 5 = .ok (.if_icmp .ge 21, 3) := dk_162 0 21 (dk_at dksX1_again_0 5 rfl rfl)
theorem dX1_again_8 : decode cX1_again 8 = .ok (.aload_n 0, 1) := dk_42 (dk_at dksX1_again_0 8 rfl rfl)
theorem dX1_again_9 : decode cX1_again 9 = .ok (.getfield 13, 3) := dk_180 0 13 (dk_at dksX1_again_0 9 rfl rfl)
theorem dX1_again_12 : decode cX1_again 12 = .ok (.iload_n 1, 1) := dk_27 (dk_at dksX1_again_0 12 rfl rfl)
theorem dX1_again_13 : decode cX1_again 13 = .ok (.aload_n 0, 1) := dk_42 (dk_at dksX1_again_0 13 rfl rfl)
theorem dX1_again_14 : decode cX1_again 14 = .ok (.getfield 16, 3) := dk_180 0 16 (dk_at dksX1_again_0 14 rfl rfl)
theorem dX1_again_17 : decode cX1_again 17 = .ok (.iload_n 1, 1) := dk_27 (dk_at dksX1_again_0 17 rfl rfl)
theorem dX1_again_18 : decode cX1_again 18 = .ok (.iaload, 1) := dk_46 (dk_at dksX1_again_0 18 rfl rfl)
theorem dX1_again_19 : decode cX1_again 19 = .ok (.iastore, 1) := dk_79 (dk_at dksX1_again_0 19 rfl rfl)
theorem dX1_again_20 : decode cX1_again 20 = .ok (.iinc 1 1, 3) := dk_132 1 1 (dk_at dksX1_again_0 20 rfl rfl)
theorem dX1_again_23 : decode cX1_again 23 = .ok (.goto (-21), 3) := dk_167 255 235 (dk_at dksX1_again_1 0 rfl rfl)
theorem dX1_again_26 : decode cX1_again 26 = .ok (.return_, 1) := dk_177 (dk_at dksX1_again_1 3 rfl rfl)
abbrev cX1_out : ByteArray := prog_7_method_12_code
def yX1_out : MethodName := ⟨RX1, "out", "(I)I"⟩
def dkwX1_out_0 : List UInt8 := [42, 180, 0, 16, 27, 16, 7, 126, 46, 172]
abbrev dktX1_out_0 : List UInt8 := dkwX1_out_0 ++ []
theorem dksX1_out_0 : cX1_out.data.toList.drop 0 = dktX1_out_0 := by decide +kernel
theorem dX1_out_0 : decode cX1_out 0 = .ok (.aload_n 0, 1) := dk_42 (dk_at dksX1_out_0 0 rfl rfl)
theorem dX1_out_1 : decode cX1_out 1 = .ok (.getfield 16, 3) := dk_180 0 16 (dk_at dksX1_out_0 1 rfl rfl)
theorem dX1_out_4 : decode cX1_out 4 = .ok (.iload_n 1, 1) := dk_27 (dk_at dksX1_out_0 4 rfl rfl)
theorem dX1_out_5 : decode cX1_out 5 = .ok (.bipush 7, 2) := dk_16 7 (dk_at dksX1_out_0 5 rfl rfl)
theorem dX1_out_7 : decode cX1_out 7 = .ok (.iand, 1) := dk_126 (dk_at dksX1_out_0 7 rfl rfl)
theorem dX1_out_8 : decode cX1_out 8 = .ok (.iaload, 1) := dk_46 (dk_at dksX1_out_0 8 rfl rfl)
theorem dX1_out_9 : decode cX1_out 9 = .ok (.ireturn, 1) := dk_172 (dk_at dksX1_out_0 9 rfl rfl)
theorem q10 : (Jvm.Cond.initialized "GostDeskModel") ∈ lw_all := lw_g (lw_at lw_m1 2 rfl) rfl
theorem q304 : (Jvm.Cond.instantiable "GostDeskModel" (3 : Nat)) ∈ lw_all := lw_g (lw_at lw_m2 56 rfl) rfl
theorem q306 : (Jvm.Cond.instanceMethod ({ cls := "GostDeskModel", name := "<init>", desc := "()V" } : Jvm.MethodName)) ∈ lw_all := lw_g (lw_at lw_m2 58 rfl) rfl
theorem q307 : (Jvm.Cond.code ({ cls := "GostDeskModel", name := "<init>", desc := "()V" } : Jvm.MethodName) prog_7_method_1_code (1 : Nat) (Option.none : Option Jvm.ClassFile.FieldType)) ∈ lw_all := lw_g (lw_at lw_m2 59 rfl) rfl
theorem q308 : (Jvm.Cond.methodLink "GostDeskModel" (1 : Nat) ({ cls := "java/lang/Object", name := "<init>", desc := "()V" } : Jvm.MethodName)) ∈ lw_all := lw_g (lw_at lw_m2 60 rfl) rfl
theorem q309 : (Jvm.Cond.fieldLink "GostDeskModel" (7 : Nat) "GostDeskModel" "key" "[I") ∈ lw_all := lw_g (lw_at lw_m2 61 rfl) rfl
theorem q310 : (Jvm.Cond.fieldLink "GostDeskModel" (13 : Nat) "GostDeskModel" "block" "[I") ∈ lw_all := lw_g (lw_at lw_m2 62 rfl) rfl
theorem q311 : (Jvm.Cond.fieldLink "GostDeskModel" (16 : Nat) "GostDeskModel" "out" "[I") ∈ lw_all := lw_g (lw_at lw_m2 63 rfl) rfl
theorem q312 : (Jvm.Cond.laysFinal "GostDeskModel" "GostDeskModel" "key" "[I") ∈ lw_all := lw_g (lw_at lw_m2 64 rfl) rfl
theorem q313 : (Jvm.Cond.soleField "GostDeskModel" "key") ∈ lw_all := lw_g (lw_at lw_m2 65 rfl) rfl
theorem q314 : (Jvm.Cond.laysFinal "GostDeskModel" "GostDeskModel" "block" "[I") ∈ lw_all := lw_g (lw_at lw_m2 66 rfl) rfl
theorem q315 : (Jvm.Cond.soleField "GostDeskModel" "block") ∈ lw_all := lw_g (lw_at lw_m2 67 rfl) rfl
theorem q316 : (Jvm.Cond.laysFinal "GostDeskModel" "GostDeskModel" "out" "[I") ∈ lw_all := lw_g (lw_at lw_m2 68 rfl) rfl
theorem q317 : (Jvm.Cond.soleField "GostDeskModel" "out") ∈ lw_all := lw_g (lw_at lw_m2 69 rfl) rfl
theorem q318 : (Jvm.Cond.superclass "GostDeskModel" "java/lang/Object") ∈ lw_all := lw_g (lw_at lw_m2 70 rfl) rfl
theorem q320 : (Jvm.Cond.instanceMethod ({ cls := "GostDeskModel", name := "key", desc := "(IIIII)V" } : Jvm.MethodName)) ∈ lw_all := lw_g (lw_at lw_m2 72 rfl) rfl
theorem q321 : (Jvm.Cond.selects "GostDeskModel" ({ cls := "GostDeskModel", name := "key", desc := "(IIIII)V" } : Jvm.MethodName) ({ cls := "GostDeskModel", name := "key", desc := "(IIIII)V" } : Jvm.MethodName)) ∈ lw_all := lw_g (lw_at lw_m2 73 rfl) rfl
theorem q322 : (Jvm.Cond.code ({ cls := "GostDeskModel", name := "key", desc := "(IIIII)V" } : Jvm.MethodName) prog_7_method_4_code (7 : Nat) (Option.none : Option Jvm.ClassFile.FieldType)) ∈ lw_all := lw_g (lw_at lw_m2 74 rfl) rfl
theorem q323 : (Jvm.Cond.methodLink "GostDeskModel" (19 : Nat) ({ cls := "GostDeskModel", name := "lay", desc := "([III)V" } : Jvm.MethodName)) ∈ lw_all := lw_g (lw_at lw_m2 75 rfl) rfl
theorem q324 : (Jvm.Cond.static ({ cls := "GostDeskModel", name := "lay", desc := "([III)V" } : Jvm.MethodName)) ∈ lw_all := lw_g (lw_at lw_m2 76 rfl) rfl
theorem q325 : (Jvm.Cond.code ({ cls := "GostDeskModel", name := "lay", desc := "([III)V" } : Jvm.MethodName) prog_7_method_2_code (3 : Nat) (Option.none : Option Jvm.ClassFile.FieldType)) ∈ lw_all := lw_g (lw_at lw_m2 77 rfl) rfl
theorem q327 : (Jvm.Cond.instanceMethod ({ cls := "GostDeskModel", name := "block", desc := "(II)V" } : Jvm.MethodName)) ∈ lw_all := lw_g (lw_at lw_m2 79 rfl) rfl
theorem q328 : (Jvm.Cond.selects "GostDeskModel" ({ cls := "GostDeskModel", name := "block", desc := "(II)V" } : Jvm.MethodName) ({ cls := "GostDeskModel", name := "block", desc := "(II)V" } : Jvm.MethodName)) ∈ lw_all := lw_g (lw_at lw_m2 80 rfl) rfl
theorem q329 : (Jvm.Cond.code ({ cls := "GostDeskModel", name := "block", desc := "(II)V" } : Jvm.MethodName) prog_7_method_5_code (3 : Nat) (Option.none : Option Jvm.ClassFile.FieldType)) ∈ lw_all := lw_g (lw_at lw_m2 81 rfl) rfl
theorem q331 : (Jvm.Cond.instanceMethod ({ cls := "GostDeskModel", name := "lock", desc := "(I)V" } : Jvm.MethodName)) ∈ lw_all := lw_g (lw_at lw_m2 83 rfl) rfl
theorem q332 : (Jvm.Cond.selects "GostDeskModel" ({ cls := "GostDeskModel", name := "lock", desc := "(I)V" } : Jvm.MethodName) ({ cls := "GostDeskModel", name := "lock", desc := "(I)V" } : Jvm.MethodName)) ∈ lw_all := lw_g (lw_at lw_m2 84 rfl) rfl
theorem q333 : (Jvm.Cond.code ({ cls := "GostDeskModel", name := "lock", desc := "(I)V" } : Jvm.MethodName) prog_7_method_9_code (2 : Nat) (Option.none : Option Jvm.ClassFile.FieldType)) ∈ lw_all := lw_g (lw_at lw_m2 85 rfl) rfl
theorem q334 : (Jvm.Cond.methodLink "GostDeskModel" (38 : Nat) ({ cls := "GostDeskModel", name := "run", desc := "(Z)V" } : Jvm.MethodName)) ∈ lw_all := lw_g (lw_at lw_m2 86 rfl) rfl
theorem q335 : (Jvm.Cond.privateMethod ({ cls := "GostDeskModel", name := "run", desc := "(Z)V" } : Jvm.MethodName)) ∈ lw_tbl := lw_at lw_m2 87 rfl
theorem q336 : (Jvm.Cond.instanceMethod ({ cls := "GostDeskModel", name := "run", desc := "(Z)V" } : Jvm.MethodName)) ∈ lw_all := lw_g (lw_at lw_m2 88 rfl) rfl
theorem q337 : (Jvm.Cond.code ({ cls := "GostDeskModel", name := "run", desc := "(Z)V" } : Jvm.MethodName) prog_7_method_8_code (7 : Nat) (Option.none : Option Jvm.ClassFile.FieldType)) ∈ lw_all := lw_g (lw_at lw_m2 89 rfl) rfl
theorem q338 : (Jvm.Cond.methodLink "GostDeskModel" (26 : Nat) ({ cls := "GostDeskModel", name := "number", desc := "([II)I" } : Jvm.MethodName)) ∈ lw_all := lw_g (lw_at lw_m2 90 rfl) rfl
theorem q339 : (Jvm.Cond.static ({ cls := "GostDeskModel", name := "number", desc := "([II)I" } : Jvm.MethodName)) ∈ lw_all := lw_g (lw_at lw_m2 91 rfl) rfl
theorem q340 : (Jvm.Cond.code ({ cls := "GostDeskModel", name := "number", desc := "([II)I" } : Jvm.MethodName) prog_7_method_3_code (2 : Nat) (Option.some Jvm.ClassFile.FieldType.int)) ∈ lw_all := lw_g (lw_at lw_m2 92 rfl) rfl
theorem q341 : (Jvm.Cond.methodLink "GostDeskModel" (30 : Nat) ({ cls := "GostDeskModel", name := "wordOfRound", desc := "(ZI)I" } : Jvm.MethodName)) ∈ lw_all := lw_g (lw_at lw_m2 93 rfl) rfl
theorem q342 : (Jvm.Cond.static ({ cls := "GostDeskModel", name := "wordOfRound", desc := "(ZI)I" } : Jvm.MethodName)) ∈ lw_all := lw_g (lw_at lw_m2 94 rfl) rfl
theorem q343 : (Jvm.Cond.code ({ cls := "GostDeskModel", name := "wordOfRound", desc := "(ZI)I" } : Jvm.MethodName) prog_7_method_7_code (2 : Nat) (Option.some Jvm.ClassFile.FieldType.int)) ∈ lw_all := lw_g (lw_at lw_m2 95 rfl) rfl
theorem q344 : (Jvm.Cond.methodLink "GostDeskModel" (34 : Nat) ({ cls := "GostDeskModel", name := "mix", desc := "(I)I" } : Jvm.MethodName)) ∈ lw_all := lw_g (lw_at lw_m2 96 rfl) rfl
theorem q345 : (Jvm.Cond.static ({ cls := "GostDeskModel", name := "mix", desc := "(I)I" } : Jvm.MethodName)) ∈ lw_all := lw_g (lw_at lw_m2 97 rfl) rfl
theorem q346 : (Jvm.Cond.code ({ cls := "GostDeskModel", name := "mix", desc := "(I)I" } : Jvm.MethodName) prog_7_method_6_code (4 : Nat) (Option.some Jvm.ClassFile.FieldType.int)) ∈ lw_all := lw_g (lw_at lw_m2 98 rfl) rfl
theorem q347 : (Jvm.Cond.fieldLink "GostDeskModel" (23 : Nat) "GostDeskModel" "ROWS" "[I") ∈ lw_all := lw_g (lw_at lw_m2 99 rfl) rfl
theorem q348 : (Jvm.Cond.laysStatic "GostDeskModel" "ROWS" "[I") ∈ lw_tbl := lw_at lw_m2 100 rfl
theorem q350 : (Jvm.Cond.instanceMethod ({ cls := "GostDeskModel", name := "open", desc := "(I)V" } : Jvm.MethodName)) ∈ lw_all := lw_g (lw_at lw_m2 102 rfl) rfl
theorem q351 : (Jvm.Cond.selects "GostDeskModel" ({ cls := "GostDeskModel", name := "open", desc := "(I)V" } : Jvm.MethodName) ({ cls := "GostDeskModel", name := "open", desc := "(I)V" } : Jvm.MethodName)) ∈ lw_all := lw_g (lw_at lw_m2 103 rfl) rfl
theorem q352 : (Jvm.Cond.code ({ cls := "GostDeskModel", name := "open", desc := "(I)V" } : Jvm.MethodName) prog_7_method_10_code (2 : Nat) (Option.none : Option Jvm.ClassFile.FieldType)) ∈ lw_all := lw_g (lw_at lw_m2 104 rfl) rfl
theorem q354 : (Jvm.Cond.instanceMethod ({ cls := "GostDeskModel", name := "again", desc := "()V" } : Jvm.MethodName)) ∈ lw_all := lw_g (lw_at lw_m2 106 rfl) rfl
theorem q355 : (Jvm.Cond.selects "GostDeskModel" ({ cls := "GostDeskModel", name := "again", desc := "()V" } : Jvm.MethodName) ({ cls := "GostDeskModel", name := "again", desc := "()V" } : Jvm.MethodName)) ∈ lw_all := lw_g (lw_at lw_m2 107 rfl) rfl
theorem q356 : (Jvm.Cond.code ({ cls := "GostDeskModel", name := "again", desc := "()V" } : Jvm.MethodName) prog_7_method_11_code (2 : Nat) (Option.none : Option Jvm.ClassFile.FieldType)) ∈ lw_all := lw_g (lw_at lw_m2 108 rfl) rfl
theorem q358 : (Jvm.Cond.instanceMethod ({ cls := "GostDeskModel", name := "out", desc := "(I)I" } : Jvm.MethodName)) ∈ lw_all := lw_g (lw_at lw_m2 110 rfl) rfl
theorem q359 : (Jvm.Cond.selects "GostDeskModel" ({ cls := "GostDeskModel", name := "out", desc := "(I)I" } : Jvm.MethodName) ({ cls := "GostDeskModel", name := "out", desc := "(I)I" } : Jvm.MethodName)) ∈ lw_all := lw_g (lw_at lw_m2 111 rfl) rfl
theorem q360 : (Jvm.Cond.code ({ cls := "GostDeskModel", name := "out", desc := "(I)I" } : Jvm.MethodName) prog_7_method_12_code (2 : Nat) (Option.some Jvm.ClassFile.FieldType.int)) ∈ lw_all := lw_g (lw_at lw_m2 112 rfl) rfl
theorem in_X1 : ∀ w ∈ wsX10, w ∈ lw_all := lw_in wsX10 [312, 314, 316] (by decide +kernel) (by decide +kernel)
/-! GOST28147Engine -/
set_option maxRecDepth 100000
def RX2 : String := "GOST28147Engine"
def TX2 : u_T := fun k => match k with
  | 0 => ("GOST28147Engine", "workingKey", "[I", false)
  | 1 => ("GOST28147Engine", "forEncryption", "Z", false)
  | _ => ("GOST28147Engine", "S", "[B", false)
def tyX2 : Nat → FieldType := fun k => match k with
  | 0 => .array .int
  | 1 => .boolean
  | _ => .array .byte
abbrev wsX20 : List Cond := u_ws RX2 TX2 3
theorem nmX2 : ∀ a, a < 3 → ∀ b, b < 3 → a ≠ b → (TX2 a).2.1 ≠ (TX2 b).2.1 := by decide +kernel
theorem tyX2_ok : ∀ k, k < 3 → parseFieldDescriptor (TX2 k).2.2.1 = some (tyX2 k) := by decide +kernel
abbrev cX2_init : ByteArray := prog_4_method_2_code
def yX2_init : MethodName := ⟨RX2, "<init>", "()V"⟩
def dkwX2_init_0 : List UInt8 := [42, 183, 0, 19, 42, 1, 181, 0, 25, 42, 178, 0, 29, 181, 0, 33, 177]
abbrev dktX2_init_0 : List UInt8 := dkwX2_init_0 ++ []
theorem dksX2_init_0 : cX2_init.data.toList.drop 0 = dktX2_init_0 := by decide +kernel
theorem dX2_init_0 : decode cX2_init 0 = .ok (.aload_n 0, 1) := dk_42 (dk_at dksX2_init_0 0 rfl rfl)
theorem dX2_init_1 : decode cX2_init 1 = .ok (.invokespecial 19, 3) := dk_183 0 19 (dk_at dksX2_init_0 1 rfl rfl)
theorem dX2_init_4 : decode cX2_init 4 = .ok (.aload_n 0, 1) := dk_42 (dk_at dksX2_init_0 4 rfl rfl)
theorem dX2_init_5 : decode cX2_init 5 = .ok (.aconst_null, 1) := dk_1 (dk_at dksX2_init_0 5 rfl rfl)
theorem dX2_init_6 : decode cX2_init 6 = .ok (.putfield 25, 3) := dk_181 0 25 (dk_at dksX2_init_0 6 rfl rfl)
theorem dX2_init_9 : decode cX2_init 9 = .ok (.aload_n 0, 1) := dk_42 (dk_at dksX2_init_0 9 rfl rfl)
theorem dX2_init_10 : decode cX2_init 10 = .ok (.getstatic 29, 3) := dk_178 0 29 (dk_at dksX2_init_0 10 rfl rfl)
theorem dX2_init_13 : decode cX2_init 13 = .ok (.putfield 33, 3) := dk_181 0 33 (dk_at dksX2_init_0 13 rfl rfl)
theorem dX2_init_16 : decode cX2_init 16 = .ok (.return_, 1) := dk_177 (dk_at dksX2_init_0 16 rfl rfl)
abbrev cX2_init_2 : ByteArray := prog_4_method_3_code
def yX2_init_2 : MethodName := ⟨RX2, "init", "(ZLCipherParameters;)V"⟩
def dkwX2_init_2_4 : List UInt8 := [182, 0, 64, 181, 0, 25, 167, 0, 17, 44, 198, 0, 13, 187, 0, 42, 89, 18, 68, 183, 0, 46, 191, 177]
abbrev dktX2_init_2_4 : List UInt8 := dkwX2_init_2_4 ++ []
def dkwX2_init_2_3 : List UInt8 := [181, 0, 25, 167, 0, 43, 44, 193, 0, 59, 153, 0, 22, 42, 42, 27, 44, 192, 0, 59, 182, 0, 61]
abbrev dktX2_init_2_3 : List UInt8 := dkwX2_init_2_3 ++ dktX2_init_2_4
def dkwX2_init_2_2 : List UInt8 := [182, 0, 55, 198, 0, 22, 42, 42, 27, 45, 182, 0, 55, 192, 0, 59, 182, 0, 61, 182, 0, 64]
abbrev dktX2_init_2_2 : List UInt8 := dkwX2_init_2_2 ++ dktX2_init_2_3
def dkwX2_init_2_1 : List UInt8 := [190, 159, 0, 13, 187, 0, 42, 89, 18, 44, 183, 0, 46, 191, 42, 25, 4, 184, 0, 49, 181, 0, 33, 45]
abbrev dktX2_init_2_1 : List UInt8 := dkwX2_init_2_1 ++ dktX2_init_2_2
def dkwX2_init_2_0 : List UInt8 := [44, 193, 0, 36, 153, 0, 72, 44, 192, 0, 36, 78, 45, 182, 0, 38, 58, 4, 25, 4, 190, 178, 0, 29]
abbrev dktX2_init_2_0 : List UInt8 := dkwX2_init_2_0 ++ dktX2_init_2_1
theorem dksX2_init_2_0 : cX2_init_2.data.toList.drop 0 = dktX2_init_2_0 := by decide +kernel
theorem dksX2_init_2_1 : cX2_init_2.data.toList.drop 24 = dktX2_init_2_1 := dk_seg dksX2_init_2_0 24 rfl rfl
theorem dksX2_init_2_2 : cX2_init_2.data.toList.drop 48 = dktX2_init_2_2 := dk_seg dksX2_init_2_1 24 rfl rfl
theorem dksX2_init_2_3 : cX2_init_2.data.toList.drop 70 = dktX2_init_2_3 := dk_seg dksX2_init_2_2 22 rfl rfl
theorem dksX2_init_2_4 : cX2_init_2.data.toList.drop 93 = dktX2_init_2_4 := dk_seg dksX2_init_2_3 23 rfl rfl
theorem dX2_init_2_0 : decode cX2_init_2 0 = .ok (.aload_n 2, 1) := dk_44 (dk_at dksX2_init_2_0 0 rfl rfl)
theorem dX2_init_2_1 : decode cX2_init_2 1 = .ok (.instanceof 36, 3) := dk_193 0 36 (dk_at dksX2_init_2_0 1 rfl rfl)
theorem dX2_init_2_4 : decode cX2_init_2 4 = .ok (.ifCond .eq 72, 3) := dk_153 0 72 (dk_at dksX2_init_2_0 4 rfl rfl)
theorem dX2_init_2_7 : decode cX2_init_2 7 = .ok (.aload_n 2, 1) := dk_44 (dk_at dksX2_init_2_0 7 rfl rfl)
theorem dX2_init_2_8 : decode cX2_init_2 8 = .ok (.checkcast 36, 3) := dk_192 0 36 (dk_at dksX2_init_2_0 8 rfl rfl)
theorem dX2_init_2_11 : decode cX2_init_2 11 = .ok (.astore_n 3, 1) := dk_78 (dk_at dksX2_init_2_0 11 rfl rfl)
theorem dX2_init_2_12 : decode cX2_init_2 12 = .ok (.aload_n 3, 1) := dk_45 (dk_at dksX2_init_2_0 12 rfl rfl)
theorem dX2_init_2_13 : decode cX2_init_2 13 = .ok (.invokevirtual 38, 3) := dk_182 0 38 (dk_at dksX2_init_2_0 13 rfl rfl)
theorem dX2_init_2_16 : decode cX2_init_2 16 = .ok (.astore 4, 2) := dk_58 4 (dk_at dksX2_init_2_0 16 rfl rfl)
theorem dX2_init_2_18 : decode cX2_init_2 18 = .ok (.aload 4, 2) := dk_25 4 (dk_at dksX2_init_2_0 18 rfl rfl)
theorem dX2_init_2_20 : decode cX2_init_2 20 = .ok (.arraylength, 1) := dk_190 (dk_at dksX2_init_2_0 20 rfl rfl)
theorem dX2_init_2_21 : decode cX2_init_2 21 = .ok (.getstatic 29, 3) := dk_178 0 29 (dk_at dksX2_init_2_0 21 rfl rfl)
theorem dX2_init_2_24 : decode cX2_init_2 24 = .ok (.arraylength, 1) := dk_190 (dk_at dksX2_init_2_1 0 rfl rfl)
theorem dX2_init_2_25 : decode cX2_init_2 25 = .ok (.if_icmp .eq 13, 3) := dk_159 0 13 (dk_at dksX2_init_2_1 1 rfl rfl)
theorem dX2_init_2_28 : decode cX2_init_2 28 = .ok (.new 42, 3) := dk_187 0 42 (dk_at dksX2_init_2_1 4 rfl rfl)
theorem dX2_init_2_31 : decode cX2_init_2 31 = .ok (.dup, 1) := dk_89 (dk_at dksX2_init_2_1 7 rfl rfl)
theorem dX2_init_2_32 : decode cX2_init_2 32 = .ok (.ldc 44, 2) := dk_18 44 (dk_at dksX2_init_2_1 8 rfl rfl)
theorem dX2_init_2_34 : decode cX2_init_2 34 = .ok (.invokespecial 46, 3) := dk_183 0 46 (dk_at dksX2_init_2_1 10 rfl rfl)
theorem dX2_init_2_37 : decode cX2_init_2 37 = .ok (.athrow, 1) := dk_191 (dk_at dksX2_init_2_1 13 rfl rfl)
theorem dX2_init_2_38 : decode cX2_init_2 38 = .ok (.aload_n 0, 1) := dk_42 (dk_at dksX2_init_2_1 14 rfl rfl)
theorem dX2_init_2_39 : decode cX2_init_2 39 = .ok (.aload 4, 2) := dk_25 4 (dk_at dksX2_init_2_1 15 rfl rfl)
theorem dX2_init_2_41 : decode cX2_init_2 41 = .ok (.invokestatic 49, 3) := dk_184 0 49 (dk_at dksX2_init_2_1 17 rfl rfl)
theorem dX2_init_2_44 : decode cX2_init_2 44 = .ok (.putfield 33, 3) := dk_181 0 33 (dk_at dksX2_init_2_1 20 rfl rfl)
theorem dX2_init_2_47 : decode cX2_init_2 47 = .ok (.aload_n 3, 1) := dk_45 (dk_at dksX2_init_2_1 23 rfl rfl)
theorem dX2_init_2_48 : decode cX2_init_2 48 = .ok (.invokevirtual 55, 3) := dk_182 0 55 (dk_at dksX2_init_2_2 0 rfl rfl)
theorem dX2_init_2_51 : decode cX2_init_2 51 = .ok (.ifnull 22, 3) := dk_198 0 22 (dk_at dksX2_init_2_2 3 rfl rfl)
theorem dX2_init_2_54 : decode cX2_init_2 54 = .ok (.aload_n 0, 1) := dk_42 (dk_at dksX2_init_2_2 6 rfl rfl)
theorem dX2_init_2_55 : decode cX2_init_2 55 = .ok (.aload_n 0, 1) := dk_42 (dk_at dksX2_init_2_2 7 rfl rfl)
theorem dX2_init_2_56 : decode cX2_init_2 56 = .ok (.iload_n 1, 1) := dk_27 (dk_at dksX2_init_2_2 8 rfl rfl)
theorem dX2_init_2_57 : decode cX2_init_2 57 = .ok (.aload_n 3, 1) := dk_45 (dk_at dksX2_init_2_2 9 rfl rfl)
theorem dX2_init_2_58 : decode cX2_init_2 58 = .ok (.invokevirtual 55, 3) := dk_182 0 55 (dk_at dksX2_init_2_2 10 rfl rfl)
theorem dX2_init_2_61 : decode cX2_init_2 61 = .ok (.checkcast 59, 3) := dk_192 0 59 (dk_at dksX2_init_2_2 13 rfl rfl)
theorem dX2_init_2_64 : decode cX2_init_2 64 = .ok (.invokevirtual 61, 3) := dk_182 0 61 (dk_at dksX2_init_2_2 16 rfl rfl)
theorem dX2_init_2_67 : decode cX2_init_2 67 = .ok (.invokevirtual 64, 3) := dk_182 0 64 (dk_at dksX2_init_2_2 19 rfl rfl)
theorem dX2_init_2_70 : decode cX2_init_2 70 = .ok (.putfield 25, 3) := dk_181 0 25 (dk_at dksX2_init_2_3 0 rfl rfl)
theorem dX2_init_2_73 : decode cX2_init_2 73 = .ok (.goto 43, 3) := dk_167 0 43 (dk_at dksX2_init_2_3 3 rfl rfl)
theorem dX2_init_2_76 : decode cX2_init_2 76 = .ok (.aload_n 2, 1) := dk_44 (dk_at dksX2_init_2_3 6 rfl rfl)
theorem dX2_init_2_77 : decode cX2_init_2 77 = .ok (.instanceof 59, 3) := dk_193 0 59 (dk_at dksX2_init_2_3 7 rfl rfl)
theorem dX2_init_2_80 : decode cX2_init_2 80 = .ok (.ifCond .eq 22, 3) := dk_153 0 22 (dk_at dksX2_init_2_3 10 rfl rfl)
theorem dX2_init_2_83 : decode cX2_init_2 83 = .ok (.aload_n 0, 1) := dk_42 (dk_at dksX2_init_2_3 13 rfl rfl)
theorem dX2_init_2_84 : decode cX2_init_2 84 = .ok (.aload_n 0, 1) := dk_42 (dk_at dksX2_init_2_3 14 rfl rfl)
theorem dX2_init_2_85 : decode cX2_init_2 85 = .ok (.iload_n 1, 1) := dk_27 (dk_at dksX2_init_2_3 15 rfl rfl)
theorem dX2_init_2_86 : decode cX2_init_2 86 = .ok (.aload_n 2, 1) := dk_44 (dk_at dksX2_init_2_3 16 rfl rfl)
theorem dX2_init_2_87 : decode cX2_init_2 87 = .ok (.checkcast 59, 3) := dk_192 0 59 (dk_at dksX2_init_2_3 17 rfl rfl)
theorem dX2_init_2_90 : decode cX2_init_2 90 = .ok (.invokevirtual 61, 3) := dk_182 0 61 (dk_at dksX2_init_2_3 20 rfl rfl)
theorem dX2_init_2_93 : decode cX2_init_2 93 = .ok (.invokevirtual 64, 3) := dk_182 0 64 (dk_at dksX2_init_2_4 0 rfl rfl)
theorem dX2_init_2_96 : decode cX2_init_2 96 = .ok (.putfield 25, 3) := dk_181 0 25 (dk_at dksX2_init_2_4 3 rfl rfl)
theorem dX2_init_2_99 : decode cX2_init_2 99 = .ok (.goto 17, 3) := dk_167 0 17 (dk_at dksX2_init_2_4 6 rfl rfl)
theorem dX2_init_2_102 : decode cX2_init_2 102 = .ok (.aload_n 2, 1) := dk_44 (dk_at dksX2_init_2_4 9 rfl rfl)
theorem dX2_init_2_103 : decode cX2_init_2 103 = .ok (.ifnull 13, 3) := dk_198 0 13 (dk_at dksX2_init_2_4 10 rfl rfl)
theorem dX2_init_2_106 : decode cX2_init_2 106 = .ok (.new 42, 3) := dk_187 0 42 (dk_at dksX2_init_2_4 13 rfl rfl)
theorem dX2_init_2_109 : decode cX2_init_2 109 = .ok (.dup, 1) := dk_89 (dk_at dksX2_init_2_4 16 rfl rfl)
theorem dX2_init_2_110 : decode cX2_init_2 110 = .ok (.ldc 68, 2) := dk_18 68 (dk_at dksX2_init_2_4 17 rfl rfl)
theorem dX2_init_2_112 : decode cX2_init_2 112 = .ok (.invokespecial 46, 3) := dk_183 0 46 (dk_at dksX2_init_2_4 19 rfl rfl)
theorem dX2_init_2_115 : decode cX2_init_2 115 = .ok (.athrow, 1) := dk_191 (dk_at dksX2_init_2_4 22 rfl rfl)
theorem dX2_init_2_116 : decode cX2_init_2 116 = .ok (.return_, 1) := dk_177 (dk_at dksX2_init_2_4 23 rfl rfl)
abbrev cX2_generateWorkingKey : ByteArray := prog_4_method_5_code
def yX2_generateWorkingKey : MethodName := ⟨RX2, "generateWorkingKey", "(Z[B)[I"⟩
def dkwX2_generateWorkingKey_2 : List UInt8 := [182, 0, 95, 79, 132, 4, 1, 167, 255, 233, 45, 176]
abbrev dktX2_generateWorkingKey_2 : List UInt8 := dkwX2_generateWorkingKey_2 ++ []
def dkwX2_generateWorkingKey_1 : List UInt8 := [188, 10, 78, 3, 54, 4, 21, 4, 16, 8, 159, 0, 22, 45, 21, 4, 42, 44, 21, 4, 7, 104]
abbrev dktX2_generateWorkingKey_1 : List UInt8 := dkwX2_generateWorkingKey_1 ++ dktX2_generateWorkingKey_2
def dkwX2_generateWorkingKey_0 : List UInt8 := [42, 27, 181, 0, 89, 44, 190, 16, 32, 159, 0, 13, 187, 0, 42, 89, 18, 93, 183, 0, 46, 191, 16, 8]
abbrev dktX2_generateWorkingKey_0 : List UInt8 := dkwX2_generateWorkingKey_0 ++ dktX2_generateWorkingKey_1
theorem dksX2_generateWorkingKey_0 : cX2_generateWorkingKey.data.toList.drop 0 = dktX2_generateWorkingKey_0 := by decide +kernel
theorem dksX2_generateWorkingKey_1 : cX2_generateWorkingKey.data.toList.drop 24 = dktX2_generateWorkingKey_1 := dk_seg dksX2_generateWorkingKey_0 24 rfl rfl
theorem dksX2_generateWorkingKey_2 : cX2_generateWorkingKey.data.toList.drop 46 = dktX2_generateWorkingKey_2 := dk_seg dksX2_generateWorkingKey_1 22 rfl rfl
theorem dX2_generateWorkingKey_0 : decode cX2_generateWorkingKey 0 = .ok (.aload_n 0, 1) := dk_42 (dk_at dksX2_generateWorkingKey_0 0 rfl rfl)
theorem dX2_generateWorkingKey_1 : decode cX2_generateWorkingKey 1 = .ok (.iload_n 1, 1) := dk_27 (dk_at dksX2_generateWorkingKey_0 1 rfl rfl)
theorem dX2_generateWorkingKey_2 : decode cX2_generateWorkingKey 2 = .ok (.putfield 89, 3) := dk_181 0 89 (dk_at dksX2_generateWorkingKey_0 2 rfl rfl)
theorem dX2_generateWorkingKey_5 : decode cX2_generateWorkingKey 5 = .ok (.aload_n 2, 1) := dk_44 (dk_at dksX2_generateWorkingKey_0 5 rfl rfl)
theorem dX2_generateWorkingKey_6 : decode cX2_generateWorkingKey 6 = .ok (.arraylength, 1) := dk_190 (dk_at dksX2_generateWorkingKey_0 6 rfl rfl)
theorem dX2_generateWorkingKey_7 : decode cX2_generateWorkingKey 7 = .ok (.bipush 32, 2) := dk_16 32 (dk_at dksX2_generateWorkingKey_0 7 rfl rfl)
theorem dX2_generateWorkingKey_9 : decode cX2_generateWorkingKey 9 = .ok (.if_icmp .eq 13, 3) := dk_159 0 13 (dk_at dksX2_generateWorkingKey_0 9 rfl rfl)
theorem dX2_generateWorkingKey_12 : decode cX2_generateWorkingKey 12 = .ok (.new 42, 3) := dk_187 0 42 (dk_at dksX2_generateWorkingKey_0 12 rfl rfl)
theorem dX2_generateWorkingKey_15 : decode cX2_generateWorkingKey 15 = .ok (.dup, 1) := dk_89 (dk_at dksX2_generateWorkingKey_0 15 rfl rfl)
theorem dX2_generateWorkingKey_16 : decode cX2_generateWorkingKey 16 = .ok (.ldc 93, 2) := dk_18 93 (dk_at dksX2_generateWorkingKey_0 16 rfl rfl)
theorem dX2_generateWorkingKey_18 : decode cX2_generateWorkingKey 18 = .ok (.invokespecial 46, 3) := dk_183 0 46 (dk_at dksX2_generateWorkingKey_0 18 rfl rfl)
theorem dX2_generateWorkingKey_21 : decode cX2_generateWorkingKey 21 = .ok (.athrow, 1) := dk_191 (dk_at dksX2_generateWorkingKey_0 21 rfl rfl)
theorem dX2_generateWorkingKey_22 : decode cX2_generateWorkingKey 22 = .ok (.bipush 8, 2) := dk_16 8 (dk_at dksX2_generateWorkingKey_0 22 rfl rfl)
theorem dX2_generateWorkingKey_24 : decode cX2_generateWorkingKey 24 = .ok (.newarray .int, 2) := dk_188_10 (dk_at dksX2_generateWorkingKey_1 0 rfl rfl)
theorem dX2_generateWorkingKey_26 : decode cX2_generateWorkingKey 26 = .ok (.astore_n 3, 1) := dk_78 (dk_at dksX2_generateWorkingKey_1 2 rfl rfl)
theorem dX2_generateWorkingKey_27 : decode cX2_generateWorkingKey 27 = .ok (.iconst 0, 1) := dk_3 (dk_at dksX2_generateWorkingKey_1 3 rfl rfl)
theorem dX2_generateWorkingKey_28 : decode cX2_generateWorkingKey 28 = .ok (.istore 4, 2) := dk_54 4 (dk_at dksX2_generateWorkingKey_1 4 rfl rfl)
theorem dX2_generateWorkingKey_30 : decode cX2_generateWorkingKey 30 = .ok (.iload 4, 2) := dk_21 4 (dk_at dksX2_generateWorkingKey_1 6 rfl rfl)
theorem dX2_generateWorkingKey_32 : decode cX2_generateWorkingKey 32 = .ok (.bipush 8, 2) := dk_16 8 (dk_at dksX2_generateWorkingKey_1 8 rfl rfl)
theorem dX2_generateWorkingKey_34 : decode cX2_generateWorkingKey 34 = .ok (.if_icmp .eq 22, 3) := dk_159 0 22 (dk_at dksX2_generateWorkingKey_1 10 rfl rfl)
theorem dX2_generateWorkingKey_37 : decode cX2_generateWorkingKey 37 = .ok (.aload_n 3, 1) := dk_45 (dk_at dksX2_generateWorkingKey_1 13 rfl rfl)
theorem dX2_generateWorkingKey_38 : decode cX2_generateWorkingKey 38 = .ok (.iload 4, 2) := dk_21 4 (dk_at dksX2_generateWorkingKey_1 14 rfl rfl)
theorem dX2_generateWorkingKey_40 : decode cX2_generateWorkingKey 40 = .ok (.aload_n 0, 1) := dk_42 (dk_at dksX2_generateWorkingKey_1 16 rfl rfl)
theorem dX2_generateWorkingKey_41 : decode cX2_generateWorkingKey 41 = .ok (.aload_n 2, 1) := dk_44 (dk_at dksX2_generateWorkingKey_1 17 rfl rfl)
theorem dX2_generateWorkingKey_42 : decode cX2_generateWorkingKey 42 = .ok (.iload 4, 2) := dk_21 4 (dk_at dksX2_generateWorkingKey_1 18 rfl rfl)
theorem dX2_generateWorkingKey_44 : decode cX2_generateWorkingKey 44 = .ok (.iconst 4, 1) := dk_7 (dk_at dksX2_generateWorkingKey_1 20 rfl rfl)
theorem dX2_generateWorkingKey_45 : decode cX2_generateWorkingKey 45 = .ok (.imul, 1) := dk_104 (dk_at dksX2_generateWorkingKey_1 21 rfl rfl)
theorem dX2_generateWorkingKey_46 : decode cX2_generateWorkingKey 46 = .ok (.invokevirtual 95, 3) := dk_182 0 95 (dk_at dksX2_generateWorkingKey_2 0 rfl rfl)
theorem dX2_generateWorkingKey_49 : decode cX2_generateWorkingKey 49 = .ok (.iastore, 1) := dk_79 (dk_at dksX2_generateWorkingKey_2 3 rfl rfl)
theorem dX2_generateWorkingKey_50 : decode cX2_generateWorkingKey 50 = .ok (.iinc 4 1, 3) := dk_132 4 1 (dk_at dksX2_generateWorkingKey_2 4 rfl rfl)
theorem dX2_generateWorkingKey_53 : decode cX2_generateWorkingKey 53 = .ok (.goto (-23), 3) := dk_167 255 233 (dk_at dksX2_generateWorkingKey_2 7 rfl rfl)
theorem dX2_generateWorkingKey_56 : decode cX2_generateWorkingKey 56 = .ok (.aload_n 3, 1) := dk_45 (dk_at dksX2_generateWorkingKey_2 10 rfl rfl)
theorem dX2_generateWorkingKey_57 : decode cX2_generateWorkingKey 57 = .ok (.areturn, 1) := dk_176 (dk_at dksX2_generateWorkingKey_2 11 rfl rfl)
abbrev cX2_bytesToint : ByteArray := prog_4_method_8_code
def yX2_bytesToint : MethodName := ⟨RX2, "bytesToint", "([BI)I"⟩
def dkwX2_bytesToint_1 : List UInt8 := [28, 4, 96, 51, 16, 8, 120, 18, 109, 126, 96, 43, 28, 51, 17, 0, 255, 126, 96, 172]
abbrev dktX2_bytesToint_1 : List UInt8 := dkwX2_bytesToint_1 ++ []
def dkwX2_bytesToint_0 : List UInt8 := [43, 28, 6, 96, 51, 16, 24, 120, 18, 107, 126, 43, 28, 5, 96, 51, 16, 16, 120, 18, 108, 126, 96, 43]
abbrev dktX2_bytesToint_0 : List UInt8 := dkwX2_bytesToint_0 ++ dktX2_bytesToint_1
theorem dksX2_bytesToint_0 : cX2_bytesToint.data.toList.drop 0 = dktX2_bytesToint_0 := by decide +kernel
theorem dksX2_bytesToint_1 : cX2_bytesToint.data.toList.drop 24 = dktX2_bytesToint_1 := dk_seg dksX2_bytesToint_0 24 rfl rfl
theorem dX2_bytesToint_0 : decode cX2_bytesToint 0 = .ok (.aload_n 1, 1) := dk_43 (dk_at dksX2_bytesToint_0 0 rfl rfl)
theorem dX2_bytesToint_1 : decode cX2_bytesToint 1 = .ok (.iload_n 2, 1) := dk_28 (dk_at dksX2_bytesToint_0 1 rfl rfl)
theorem dX2_bytesToint_2 : decode cX2_bytesToint 2 = .ok (.iconst 3, 1) := dk_6 (dk_at dksX2_bytesToint_0 2 rfl rfl)
theorem dX2_bytesToint_3 : decode cX2_bytesToint 3 = .ok (.iadd, 1) := dk_96 (dk_at dksX2_bytesToint_0 3 rfl rfl)
theorem dX2_bytesToint_4 : decode cX2_bytesToint 4 = .ok (.baload, 1) := dk_51 (dk_at dksX2_bytesToint_0 4 rfl rfl)
theorem dX2_bytesToint_5 : decode cX2_bytesToint 5 = .ok (.bipush 24, 2) := dk_16 24 (dk_at dksX2_bytesToint_0 5 rfl rfl)
theorem dX2_bytesToint_7 : decode cX2_bytesToint 7 = .ok (.ishl, 1) := dk_120 (dk_at dksX2_bytesToint_0 7 rfl rfl)
theorem dX2_bytesToint_8 : decode cX2_bytesToint 8 = .ok (.ldc 107, 2) := dk_18 107 (dk_at dksX2_bytesToint_0 8 rfl rfl)
theorem dX2_bytesToint_10 : decode cX2_bytesToint 10 = .ok (.iand, 1) := dk_126 (dk_at dksX2_bytesToint_0 10 rfl rfl)
theorem dX2_bytesToint_11 : decode cX2_bytesToint 11 = .ok (.aload_n 1, 1) := dk_43 (dk_at dksX2_bytesToint_0 11 rfl rfl)
theorem dX2_bytesToint_12 : decode cX2_bytesToint 12 = .ok (.iload_n 2, 1) := dk_28 (dk_at dksX2_bytesToint_0 12 rfl rfl)
theorem dX2_bytesToint_13 : decode cX2_bytesToint 13 = .ok (.iconst 2, 1) := dk_5 (dk_at dksX2_bytesToint_0 13 rfl rfl)
theorem dX2_bytesToint_14 : decode cX2_bytesToint 14 = .ok (.iadd, 1) := dk_96 (dk_at dksX2_bytesToint_0 14 rfl rfl)
theorem dX2_bytesToint_15 : decode cX2_bytesToint 15 = .ok (.baload, 1) := dk_51 (dk_at dksX2_bytesToint_0 15 rfl rfl)
theorem dX2_bytesToint_16 : decode cX2_bytesToint 16 = .ok (.bipush 16, 2) := dk_16 16 (dk_at dksX2_bytesToint_0 16 rfl rfl)
theorem dX2_bytesToint_18 : decode cX2_bytesToint 18 = .ok (.ishl, 1) := dk_120 (dk_at dksX2_bytesToint_0 18 rfl rfl)
theorem dX2_bytesToint_19 : decode cX2_bytesToint 19 = .ok (.ldc 108, 2) := dk_18 108 (dk_at dksX2_bytesToint_0 19 rfl rfl)
theorem dX2_bytesToint_21 : decode cX2_bytesToint 21 = .ok (.iand, 1) := dk_126 (dk_at dksX2_bytesToint_0 21 rfl rfl)
theorem dX2_bytesToint_22 : decode cX2_bytesToint 22 = .ok (.iadd, 1) := dk_96 (dk_at dksX2_bytesToint_0 22 rfl rfl)
theorem dX2_bytesToint_23 : decode cX2_bytesToint 23 = .ok (.aload_n 1, 1) := dk_43 (dk_at dksX2_bytesToint_0 23 rfl rfl)
theorem dX2_bytesToint_24 : decode cX2_bytesToint 24 = .ok (.iload_n 2, 1) := dk_28 (dk_at dksX2_bytesToint_1 0 rfl rfl)
theorem dX2_bytesToint_25 : decode cX2_bytesToint 25 = .ok (.iconst 1, 1) := dk_4 (dk_at dksX2_bytesToint_1 1 rfl rfl)
theorem dX2_bytesToint_26 : decode cX2_bytesToint 26 = .ok (.iadd, 1) := dk_96 (dk_at dksX2_bytesToint_1 2 rfl rfl)
theorem dX2_bytesToint_27 : decode cX2_bytesToint 27 = .ok (.baload, 1) := dk_51 (dk_at dksX2_bytesToint_1 3 rfl rfl)
theorem dX2_bytesToint_28 : decode cX2_bytesToint 28 = .ok (.bipush 8, 2) := dk_16 8 (dk_at dksX2_bytesToint_1 4 rfl rfl)
theorem dX2_bytesToint_30 : decode cX2_bytesToint 30 = .ok (.ishl, 1) := dk_120 (dk_at dksX2_bytesToint_1 6 rfl rfl)
theorem dX2_bytesToint_31 : decode cX2_bytesToint 31 = .ok (.ldc 109, 2) := dk_18 109 (dk_at dksX2_bytesToint_1 7 rfl rfl)
theorem dX2_bytesToint_33 : decode cX2_bytesToint 33 = .ok (.iand, 1) := dk_126 (dk_at dksX2_bytesToint_1 9 rfl rfl)
theorem dX2_bytesToint_34 : decode cX2_bytesToint 34 = .ok (.iadd, 1) := dk_96 (dk_at dksX2_bytesToint_1 10 rfl rfl)
theorem dX2_bytesToint_35 : decode cX2_bytesToint 35 = .ok (.aload_n 1, 1) := dk_43 (dk_at dksX2_bytesToint_1 11 rfl rfl)
theorem dX2_bytesToint_36 : decode cX2_bytesToint 36 = .ok (.iload_n 2, 1) := dk_28 (dk_at dksX2_bytesToint_1 12 rfl rfl)
theorem dX2_bytesToint_37 : decode cX2_bytesToint 37 = .ok (.baload, 1) := dk_51 (dk_at dksX2_bytesToint_1 13 rfl rfl)
theorem dX2_bytesToint_38 : decode cX2_bytesToint 38 = .ok (.sipush 255, 3) := dk_17 0 255 (dk_at dksX2_bytesToint_1 14 rfl rfl)
theorem dX2_bytesToint_41 : decode cX2_bytesToint 41 = .ok (.iand, 1) := dk_126 (dk_at dksX2_bytesToint_1 17 rfl rfl)
theorem dX2_bytesToint_42 : decode cX2_bytesToint 42 = .ok (.iadd, 1) := dk_96 (dk_at dksX2_bytesToint_1 18 rfl rfl)
theorem dX2_bytesToint_43 : decode cX2_bytesToint 43 = .ok (.ireturn, 1) := dk_172 (dk_at dksX2_bytesToint_1 19 rfl rfl)
abbrev cX2_processBlock : ByteArray := prog_4_method_4_code
def yX2_processBlock : MethodName := ⟨RX2, "processBlock", "([BI[BI)I"⟩
def dkwX2_processBlock_3 : List UInt8 := [16, 8, 172]
abbrev dktX2_processBlock_3 : List UInt8 := dkwX2_processBlock_3 ++ []
def dkwX2_processBlock_2 : List UInt8 := [187, 0, 80, 89, 18, 82, 183, 0, 84, 191, 42, 42, 180, 0, 25, 43, 28, 45, 21, 4, 182, 0, 85]
abbrev dktX2_processBlock_2 : List UInt8 := dkwX2_processBlock_2 ++ dktX2_processBlock_3
def dkwX2_processBlock_1 : List UInt8 := [164, 0, 13, 187, 0, 75, 89, 18, 77, 183, 0, 79, 191, 21, 4, 16, 8, 96, 45, 190, 164, 0, 13]
abbrev dktX2_processBlock_1 : List UInt8 := dkwX2_processBlock_1 ++ dktX2_processBlock_2
def dkwX2_processBlock_0 : List UInt8 := [42, 180, 0, 25, 199, 0, 13, 187, 0, 70, 89, 18, 72, 183, 0, 74, 191, 28, 16, 8, 96, 43, 190]
abbrev dktX2_processBlock_0 : List UInt8 := dkwX2_processBlock_0 ++ dktX2_processBlock_1
theorem dksX2_processBlock_0 : cX2_processBlock.data.toList.drop 0 = dktX2_processBlock_0 := by decide +kernel
theorem dksX2_processBlock_1 : cX2_processBlock.data.toList.drop 23 = dktX2_processBlock_1 := dk_seg dksX2_processBlock_0 23 rfl rfl
theorem dksX2_processBlock_2 : cX2_processBlock.data.toList.drop 46 = dktX2_processBlock_2 := dk_seg dksX2_processBlock_1 23 rfl rfl
theorem dksX2_processBlock_3 : cX2_processBlock.data.toList.drop 69 = dktX2_processBlock_3 := dk_seg dksX2_processBlock_2 23 rfl rfl
theorem dX2_processBlock_0 : decode cX2_processBlock 0 = .ok (.aload_n 0, 1) := dk_42 (dk_at dksX2_processBlock_0 0 rfl rfl)
theorem dX2_processBlock_1 : decode cX2_processBlock 1 = .ok (.getfield 25, 3) := dk_180 0 25 (dk_at dksX2_processBlock_0 1 rfl rfl)
theorem dX2_processBlock_4 : decode cX2_processBlock 4 = .ok (.ifnonnull 13, 3) := dk_199 0 13 (dk_at dksX2_processBlock_0 4 rfl rfl)
theorem dX2_processBlock_7 : decode cX2_processBlock 7 = .ok (.new 70, 3) := dk_187 0 70 (dk_at dksX2_processBlock_0 7 rfl rfl)
theorem dX2_processBlock_10 : decode cX2_processBlock 10 = .ok (.dup, 1) := dk_89 (dk_at dksX2_processBlock_0 10 rfl rfl)
theorem dX2_processBlock_11 : decode cX2_processBlock 11 = .ok (.ldc 72, 2) := dk_18 72 (dk_at dksX2_processBlock_0 11 rfl rfl)
theorem dX2_processBlock_13 : decode cX2_processBlock 13 = .ok (.invokespecial 74, 3) := dk_183 0 74 (dk_at dksX2_processBlock_0 13 rfl rfl)
theorem dX2_processBlock_16 : decode cX2_processBlock 16 = .ok (.athrow, 1) := dk_191 (dk_at dksX2_processBlock_0 16 rfl rfl)
theorem dX2_processBlock_17 : decode cX2_processBlock 17 = .ok (.iload_n 2, 1) := dk_28 (dk_at dksX2_processBlock_0 17 rfl rfl)
theorem dX2_processBlock_18 : decode cX2_processBlock 18 = .ok (.bipush 8, 2) := dk_16 8 (dk_at dksX2_processBlock_0 18 rfl rfl)
theorem dX2_processBlock_20 : decode cX2_processBlock 20 = .ok (.iadd, 1) := dk_96 (dk_at dksX2_processBlock_0 20 rfl rfl)
theorem dX2_processBlock_21 : decode cX2_processBlock 21 = .ok (.aload_n 1, 1) := dk_43 (dk_at dksX2_processBlock_0 21 rfl rfl)
theorem dX2_processBlock_22 : decode cX2_processBlock 22 = .ok (.arraylength, 1) := dk_190 (dk_at dksX2_processBlock_0 22 rfl rfl)
theorem dX2_processBlock_23 : decode cX2_processBlock 23 = .ok (.if_icmp .le 13, 3) := dk_164 0 13 (dk_at dksX2_processBlock_1 0 rfl rfl)
theorem dX2_processBlock_26 : decode cX2_processBlock 26 = .ok (.new 75, 3) := dk_187 0 75 (dk_at dksX2_processBlock_1 3 rfl rfl)
theorem dX2_processBlock_29 : decode cX2_processBlock 29 = .ok (.dup, 1) := dk_89 (dk_at dksX2_processBlock_1 6 rfl rfl)
theorem dX2_processBlock_30 : decode cX2_processBlock 30 = .ok (.ldc 77, 2) := dk_18 77 (dk_at dksX2_processBlock_1 7 rfl rfl)
theorem dX2_processBlock_32 : decode cX2_processBlock 32 = .ok (.invokespecial 79, 3) := dk_183 0 79 (dk_at dksX2_processBlock_1 9 rfl rfl)
theorem dX2_processBlock_35 : decode cX2_processBlock 35 = .ok (.athrow, 1) := dk_191 (dk_at dksX2_processBlock_1 12 rfl rfl)
theorem dX2_processBlock_36 : decode cX2_processBlock 36 = .ok (.iload 4, 2) := dk_21 4 (dk_at dksX2_processBlock_1 13 rfl rfl)
theorem dX2_processBlock_38 : decode cX2_processBlock 38 = .ok (.bipush 8, 2) := dk_16 8 (dk_at dksX2_processBlock_1 15 rfl rfl)
theorem dX2_processBlock_40 : decode cX2_processBlock 40 = .ok (.iadd, 1) := dk_96 (dk_at dksX2_processBlock_1 17 rfl rfl)
theorem dX2_processBlock_41 : decode cX2_processBlock 41 = .ok (.aload_n 3, 1) := dk_45 (dk_at dksX2_processBlock_1 18 rfl rfl)
theorem dX2_processBlock_42 : decode cX2_processBlock 42 = .ok (.arraylength, 1) := dk_190 (dk_at dksX2_processBlock_1 19 rfl rfl)
theorem dX2_processBlock_43 : decode cX2_processBlock 43 = .ok (.if_icmp .le 13, 3) := dk_164 0 13 (dk_at dksX2_processBlock_1 20 rfl rfl)
theorem dX2_processBlock_46 : decode cX2_processBlock 46 = .ok (.new 80, 3) := dk_187 0 80 (dk_at dksX2_processBlock_2 0 rfl rfl)
theorem dX2_processBlock_49 : decode cX2_processBlock 49 = .ok (.dup, 1) := dk_89 (dk_at dksX2_processBlock_2 3 rfl rfl)
theorem dX2_processBlock_50 : decode cX2_processBlock 50 = .ok (.ldc 82, 2) := dk_18 82 (dk_at dksX2_processBlock_2 4 rfl rfl)
theorem dX2_processBlock_52 : decode cX2_processBlock 52 = .ok (.invokespecial 84, 3) := dk_183 0 84 (dk_at dksX2_processBlock_2 6 rfl rfl)
theorem dX2_processBlock_55 : decode cX2_processBlock 55 = .ok (.athrow, 1) := dk_191 (dk_at dksX2_processBlock_2 9 rfl rfl)
theorem dX2_processBlock_56 : decode cX2_processBlock 56 = .ok (.aload_n 0, 1) := dk_42 (dk_at dksX2_processBlock_2 10 rfl rfl)
theorem dX2_processBlock_57 : decode cX2_processBlock 57 = .ok (.aload_n 0, 1) := dk_42 (dk_at dksX2_processBlock_2 11 rfl rfl)
theorem dX2_processBlock_58 : decode cX2_processBlock 58 = .ok (.getfield 25, 3) := dk_180 0 25 (dk_at dksX2_processBlock_2 12 rfl rfl)
theorem dX2_processBlock_61 : decode cX2_processBlock 61 = .ok (.aload_n 1, 1) := dk_43 (dk_at dksX2_processBlock_2 15 rfl rfl)
theorem dX2_processBlock_62 : decode cX2_processBlock 62 = .ok (.iload_n 2, 1) := dk_28 (dk_at dksX2_processBlock_2 16 rfl rfl)
theorem dX2_processBlock_63 : decode cX2_processBlock 63 = .ok (.aload_n 3, 1) := dk_45 (dk_at dksX2_processBlock_2 17 rfl rfl)
theorem dX2_processBlock_64 : decode cX2_processBlock 64 = .ok (.iload 4, 2) := dk_21 4 (dk_at dksX2_processBlock_2 18 rfl rfl)
theorem dX2_processBlock_66 : decode cX2_processBlock 66 = .ok (.invokevirtual 85, 3) := dk_182 0 85 (dk_at dksX2_processBlock_2 20 rfl rfl)
theorem dX2_processBlock_69 : decode cX2_processBlock 69 = .ok (.bipush 8, 2) := dk_16 8 (dk_at dksX2_processBlock_3 0 rfl rfl)
theorem dX2_processBlock_71 : decode cX2_processBlock 71 = .ok (.ireturn, 1) := dk_172 (dk_at dksX2_processBlock_3 2 rfl rfl)
abbrev cX2_GOST28147Func : ByteArray := prog_4_method_7_code
def yX2_GOST28147Func : MethodName := ⟨RX2, "GOST28147Func", "([I[BI[BI)V"⟩
def dkwX2_GOST28147Func_11 : List UInt8 := [96, 182, 0, 103, 177]
abbrev dktX2_GOST28147Func_11 : List UInt8 := dkwX2_GOST28147Func_11 ++ []
def dkwX2_GOST28147Func_10 : List UInt8 := [182, 0, 99, 130, 54, 7, 42, 21, 6, 25, 4, 21, 5, 182, 0, 103, 42, 21, 7, 25, 4, 21, 5, 7]
abbrev dktX2_GOST28147Func_10 : List UInt8 := dkwX2_GOST28147Func_10 ++ dktX2_GOST28147Func_11
def dkwX2_GOST28147Func_9 : List UInt8 := [54, 7, 132, 10, 255, 167, 255, 211, 132, 9, 1, 167, 255, 195, 21, 7, 42, 21, 6, 43, 3, 46]
abbrev dktX2_GOST28147Func_9 : List UInt8 := dkwX2_GOST28147Func_9 ++ dktX2_GOST28147Func_10
def dkwX2_GOST28147Func_8 : List UInt8 := [167, 0, 32, 21, 6, 54, 8, 21, 7, 42, 21, 6, 43, 21, 10, 46, 182, 0, 99, 130, 54, 6, 21, 8]
abbrev dktX2_GOST28147Func_8 : List UInt8 := dkwX2_GOST28147Func_8 ++ dktX2_GOST28147Func_9
def dkwX2_GOST28147Func_7 : List UInt8 := [6, 162, 0, 61, 16, 7, 54, 10, 21, 10, 155, 0, 46, 21, 9, 5, 160, 0, 11, 21, 10, 154, 0, 6]
abbrev dktX2_GOST28147Func_7 : List UInt8 := dkwX2_GOST28147Func_7 ++ dktX2_GOST28147Func_8
def dkwX2_GOST28147Func_6 : List UInt8 := [21, 9, 46, 182, 0, 99, 130, 54, 6, 21, 8, 54, 7, 132, 9, 1, 167, 255, 223, 3, 54, 9, 21, 9]
abbrev dktX2_GOST28147Func_6 : List UInt8 := dkwX2_GOST28147Func_6 ++ dktX2_GOST28147Func_7
def dkwX2_GOST28147Func_5 : List UInt8 := [167, 0, 109, 3, 54, 9, 21, 9, 16, 8, 162, 0, 32, 21, 6, 54, 8, 21, 7, 42, 21, 6, 43]
abbrev dktX2_GOST28147Func_5 : List UInt8 := dkwX2_GOST28147Func_5 ++ dktX2_GOST28147Func_6
def dkwX2_GOST28147Func_4 : List UInt8 := [42, 21, 6, 43, 21, 9, 46, 182, 0, 99, 130, 54, 6, 21, 8, 54, 7, 132, 9, 255, 167, 255, 225]
abbrev dktX2_GOST28147Func_4 : List UInt8 := dkwX2_GOST28147Func_4 ++ dktX2_GOST28147Func_5
def dkwX2_GOST28147Func_3 : List UInt8 := [167, 255, 223, 132, 9, 1, 167, 255, 208, 16, 7, 54, 9, 21, 9, 158, 0, 32, 21, 6, 54, 8, 21, 7]
abbrev dktX2_GOST28147Func_3 : List UInt8 := dkwX2_GOST28147Func_3 ++ dktX2_GOST28147Func_4
def dkwX2_GOST28147Func_2 : List UInt8 := [54, 8, 21, 7, 42, 21, 6, 43, 21, 10, 46, 182, 0, 99, 130, 54, 6, 21, 8, 54, 7, 132, 10, 1]
abbrev dktX2_GOST28147Func_2 : List UInt8 := dkwX2_GOST28147Func_2 ++ dktX2_GOST28147Func_3
def dkwX2_GOST28147Func_1 : List UInt8 := [153, 0, 98, 3, 54, 9, 21, 9, 6, 162, 0, 48, 3, 54, 10, 21, 10, 16, 8, 162, 0, 32, 21, 6]
abbrev dktX2_GOST28147Func_1 : List UInt8 := dkwX2_GOST28147Func_1 ++ dktX2_GOST28147Func_2
def dkwX2_GOST28147Func_0 : List UInt8 := [42, 44, 29, 182, 0, 95, 54, 6, 42, 44, 29, 7, 96, 182, 0, 95, 54, 7, 42, 180, 0, 89]
abbrev dktX2_GOST28147Func_0 : List UInt8 := dkwX2_GOST28147Func_0 ++ dktX2_GOST28147Func_1
theorem dksX2_GOST28147Func_0 : cX2_GOST28147Func.data.toList.drop 0 = dktX2_GOST28147Func_0 := by decide +kernel
theorem dksX2_GOST28147Func_1 : cX2_GOST28147Func.data.toList.drop 22 = dktX2_GOST28147Func_1 := dk_seg dksX2_GOST28147Func_0 22 rfl rfl
theorem dksX2_GOST28147Func_2 : cX2_GOST28147Func.data.toList.drop 46 = dktX2_GOST28147Func_2 := dk_seg dksX2_GOST28147Func_1 24 rfl rfl
theorem dksX2_GOST28147Func_3 : cX2_GOST28147Func.data.toList.drop 70 = dktX2_GOST28147Func_3 := dk_seg dksX2_GOST28147Func_2 24 rfl rfl
theorem dksX2_GOST28147Func_4 : cX2_GOST28147Func.data.toList.drop 94 = dktX2_GOST28147Func_4 := dk_seg dksX2_GOST28147Func_3 24 rfl rfl
theorem dksX2_GOST28147Func_5 : cX2_GOST28147Func.data.toList.drop 117 = dktX2_GOST28147Func_5 := dk_seg dksX2_GOST28147Func_4 23 rfl rfl
theorem dksX2_GOST28147Func_6 : cX2_GOST28147Func.data.toList.drop 140 = dktX2_GOST28147Func_6 := dk_seg dksX2_GOST28147Func_5 23 rfl rfl
theorem dksX2_GOST28147Func_7 : cX2_GOST28147Func.data.toList.drop 164 = dktX2_GOST28147Func_7 := dk_seg dksX2_GOST28147Func_6 24 rfl rfl
theorem dksX2_GOST28147Func_8 : cX2_GOST28147Func.data.toList.drop 188 = dktX2_GOST28147Func_8 := dk_seg dksX2_GOST28147Func_7 24 rfl rfl
theorem dksX2_GOST28147Func_9 : cX2_GOST28147Func.data.toList.drop 212 = dktX2_GOST28147Func_9 := dk_seg dksX2_GOST28147Func_8 24 rfl rfl
theorem dksX2_GOST28147Func_10 : cX2_GOST28147Func.data.toList.drop 234 = dktX2_GOST28147Func_10 := dk_seg dksX2_GOST28147Func_9 22 rfl rfl
theorem dksX2_GOST28147Func_11 : cX2_GOST28147Func.data.toList.drop 258 = dktX2_GOST28147Func_11 := dk_seg dksX2_GOST28147Func_10 24 rfl rfl
theorem dX2_GOST28147Func_0 : decode cX2_GOST28147Func 0 = .ok (.aload_n 0, 1) := dk_42 (dk_at dksX2_GOST28147Func_0 0 rfl rfl)
theorem dX2_GOST28147Func_1 : decode cX2_GOST28147Func 1 = .ok (.aload_n 2, 1) := dk_44 (dk_at dksX2_GOST28147Func_0 1 rfl rfl)
theorem dX2_GOST28147Func_2 : decode cX2_GOST28147Func 2 = .ok (.iload_n 3, 1) := dk_29 (dk_at dksX2_GOST28147Func_0 2 rfl rfl)
theorem dX2_GOST28147Func_3 : decode cX2_GOST28147Func 3 = .ok (.invokevirtual 95, 3) := dk_182 0 95 (dk_at dksX2_GOST28147Func_0 3 rfl rfl)
theorem dX2_GOST28147Func_6 : decode cX2_GOST28147Func 6 = .ok (.istore 6, 2) := dk_54 6 (dk_at dksX2_GOST28147Func_0 6 rfl rfl)
theorem dX2_GOST28147Func_8 : decode cX2_GOST28147Func 8 = .ok (.aload_n 0, 1) := dk_42 (dk_at dksX2_GOST28147Func_0 8 rfl rfl)
theorem dX2_GOST28147Func_9 : decode cX2_GOST28147Func 9 = .ok (.aload_n 2, 1) := dk_44 (dk_at dksX2_GOST28147Func_0 9 rfl rfl)
theorem dX2_GOST28147Func_10 : decode cX2_GOST28147Func 10 = .ok (.iload_n 3, 1) := dk_29 (dk_at dksX2_GOST28147Func_0 10 rfl rfl)
theorem dX2_GOST28147Func_11 : decode cX2_GOST28147Func 11 = .ok (.iconst 4, 1) := dk_7 (dk_at dksX2_GOST28147Func_0 11 rfl rfl)
theorem dX2_GOST28147Func_12 : decode cX2_GOST28147Func 12 = .ok (.iadd, 1) := dk_96 (dk_at dksX2_GOST28147Func_0 12 rfl rfl)
theorem dX2_GOST28147Func_13 : decode cX2_GOST28147Func 13 = .ok (.invokevirtual 95, 3) := dk_182 0 95 (dk_at dksX2_GOST28147Func_0 13 rfl rfl)
theorem dX2_GOST28147Func_16 : decode cX2_GOST28147Func 16 = .ok (.istore 7, 2) := dk_54 7 (dk_at dksX2_GOST28147Func_0 16 rfl rfl)
theorem dX2_GOST28147Func_18 : decode cX2_GOST28147Func 18 = .ok (.aload_n 0, 1) := dk_42 (dk_at dksX2_GOST28147Func_0 18 rfl rfl)
theorem dX2_GOST28147Func_19 : decode cX2_GOST28147Func 19 = .ok (.getfield 89, 3) := dk_180 0 89 (dk_at dksX2_GOST28147Func_0 19 rfl rfl)
theorem dX2_GOST28147Func_22 : decode cX2_GOST28147Func 22 = .ok (.ifCond .eq 98, 3) := dk_153 0 98 (dk_at dksX2_GOST28147Func_1 0 rfl rfl)
theorem dX2_GOST28147Func_25 : decode cX2_GOST28147Func 25 = .ok (.iconst 0, 1) := dk_3 (dk_at dksX2_GOST28147Func_1 3 rfl rfl)
theorem dX2_GOST28147Func_26 : decode cX2_GOST28147Func 26 = .ok (.istore 9, 2) := dk_54 9 (dk_at dksX2_GOST28147Func_1 4 rfl rfl)
theorem dX2_GOST28147Func_28 : decode cX2_GOST28147Func 28 = .ok (.iload 9, 2) := dk_21 9 (dk_at dksX2_GOST28147Func_1 6 rfl rfl)
theorem dX2_GOST28147Func_30 : decode cX2_GOST28147Func 30 = .ok (.iconst 3, 1) := dk_6 (dk_at dksX2_GOST28147Func_1 8 rfl rfl)
theorem dX2_GOST28147Func_31 : decode cX2_GOST28147Func 31 = .ok (.if_icmp .ge 48, 3) := dk_162 0 48 (dk_at dksX2_GOST28147Func_1 9 rfl rfl)
theorem dX2_GOST28147Func_34 : decode cX2_GOST28147Func 34 = .ok (.iconst 0, 1) := dk_3 (dk_at dksX2_GOST28147Func_1 12 rfl rfl)
theorem dX2_GOST28147Func_35 : decode cX2_GOST28147Func 35 = .ok (.istore 10, 2) := dk_54 10 (dk_at dksX2_GOST28147Func_1 13 rfl rfl)
theorem dX2_GOST28147Func_37 : decode cX2_GOST28147Func 37 = .ok (.iload 10, 2) := dk_21 10 (dk_at dksX2_GOST28147Func_1 15 rfl rfl)
theorem dX2_GOST28147Func_39 : decode cX2_GOST28147Func 39 = .ok (.bipush 8, 2) := dk_16 8 (dk_at dksX2_GOST28147Func_1 17 rfl rfl)
theorem dX2_GOST28147Func_41 : decode cX2_GOST28147Func 41 = .ok (.if_icmp .ge 32, 3) := dk_162 0 32 (dk_at dksX2_GOST28147Func_1 19 rfl rfl)
theorem dX2_GOST28147Func_44 : decode cX2_GOST28147Func 44 = .ok (.iload 6, 2) := dk_21 6 (dk_at dksX2_GOST28147Func_1 22 rfl rfl)
theorem dX2_GOST28147Func_46 : decode cX2_GOST28147Func 46 = .ok (.istore 8, 2) := dk_54 8 (dk_at dksX2_GOST28147Func_2 0 rfl rfl)
theorem dX2_GOST28147Func_48 : decode cX2_GOST28147Func 48 = .ok (.iload 7, 2) := dk_21 7 (dk_at dksX2_GOST28147Func_2 2 rfl rfl)
theorem dX2_GOST28147Func_50 : decode cX2_GOST28147Func 50 = .ok (.aload_n 0, 1) := dk_42 (dk_at dksX2_GOST28147Func_2 4 rfl rfl)
theorem dX2_GOST28147Func_51 : decode cX2_GOST28147Func 51 = .ok (.iload 6, 2) := dk_21 6 (dk_at dksX2_GOST28147Func_2 5 rfl rfl)
theorem dX2_GOST28147Func_53 : decode cX2_GOST28147Func 53 = .ok (.aload_n 1, 1) := dk_43 (dk_at dksX2_GOST28147Func_2 7 rfl rfl)
theorem dX2_GOST28147Func_54 : decode cX2_GOST28147Func 54 = .ok (.iload 10, 2) := dk_21 10 (dk_at dksX2_GOST28147Func_2 8 rfl rfl)
theorem dX2_GOST28147Func_56 : decode cX2_GOST28147Func 56 = .ok (.iaload, 1) := dk_46 (dk_at dksX2_GOST28147Func_2 10 rfl rfl)
theorem dX2_GOST28147Func_57 : decode cX2_GOST28147Func 57 = .ok (.invokevirtual 99, 3) := dk_182 0 99 (dk_at dksX2_GOST28147Func_2 11 rfl rfl)
theorem dX2_GOST28147Func_60 : decode cX2_GOST28147Func 60 = .ok (.ixor, 1) := dk_130 (dk_at dksX2_GOST28147Func_2 14 rfl rfl)
theorem dX2_GOST28147Func_61 : decode cX2_GOST28147Func 61 = .ok (.istore 6, 2) := dk_54 6 (dk_at dksX2_GOST28147Func_2 15 rfl rfl)
theorem dX2_GOST28147Func_63 : decode cX2_GOST28147Func 63 = .ok (.iload 8, 2) := dk_21 8 (dk_at dksX2_GOST28147Func_2 17 rfl rfl)
theorem dX2_GOST28147Func_65 : decode cX2_GOST28147Func 65 = .ok (.istore 7, 2) := dk_54 7 (dk_at dksX2_GOST28147Func_2 19 rfl rfl)
theorem dX2_GOST28147Func_67 : decode cX2_GOST28147Func 67 = .ok (.iinc 10 1, 3) := dk_132 10 1 (dk_at dksX2_GOST28147Func_2 21 rfl rfl)
theorem dX2_GOST28147Func_70 : decode cX2_GOST28147Func 70 = .ok (.goto (-33), 3) := dk_167 255 223 (dk_at dksX2_GOST28147Func_3 0 rfl rfl)
theorem dX2_GOST28147Func_73 : decode cX2_GOST28147Func 73 = .ok (.iinc 9 1, 3) := dk_132 9 1 (dk_at dksX2_GOST28147Func_3 3 rfl rfl)
theorem dX2_GOST28147Func_76 : decode cX2_GOST28147Func 76 = .ok (.goto (-48), 3) := dk_167 255 208 (dk_at dksX2_GOST28147Func_3 6 rfl rfl)
theorem dX2_GOST28147Func_79 : decode cX2_GOST28147Func 79 = .ok (.bipush 7, 2) := dk_16 7 (dk_at dksX2_GOST28147Func_3 9 rfl rfl)
theorem dX2_GOST28147Func_81 : decode cX2_GOST28147Func 81 = .ok (.istore 9, 2) := dk_54 9 (dk_at dksX2_GOST28147Func_3 11 rfl rfl)
theorem dX2_GOST28147Func_83 : decode cX2_GOST28147Func 83 = .ok (.iload 9, 2) := dk_21 9 (dk_at dksX2_GOST28147Func_3 13 rfl rfl)
theorem dX2_GOST28147Func_85 : decode cX2_GOST28147Func 85 = .ok (.ifCond .le 32, 3) := dk_158 0 32 (dk_at dksX2_GOST28147Func_3 15 rfl rfl)
theorem dX2_GOST28147Func_88 : decode cX2_GOST28147Func 88 = .ok (.iload 6, 2) := dk_21 6 (dk_at dksX2_GOST28147Func_3 18 rfl rfl)
theorem dX2_GOST28147Func_90 : decode cX2_GOST28147Func 90 = .ok (.istore 8, 2) := dk_54 8 (dk_at dksX2_GOST28147Func_3 20 rfl rfl)
theorem dX2_GOST28147Func_92 : decode cX2_GOST28147Func 92 = .ok (.iload 7, 2) := dk_21 7 (dk_at dksX2_GOST28147Func_3 22 rfl rfl)
theorem dX2_GOST28147Func_94 : decode cX2_GOST28147Func 94 = .ok (.aload_n 0, 1) := dk_42 (dk_at dksX2_GOST28147Func_4 0 rfl rfl)
theorem dX2_GOST28147Func_95 : decode cX2_GOST28147Func 95 = .ok (.iload 6, 2) := dk_21 6 (dk_at dksX2_GOST28147Func_4 1 rfl rfl)
theorem dX2_GOST28147Func_97 : decode cX2_GOST28147Func 97 = .ok (.aload_n 1, 1) := dk_43 (dk_at dksX2_GOST28147Func_4 3 rfl rfl)
theorem dX2_GOST28147Func_98 : decode cX2_GOST28147Func 98 = .ok (.iload 9, 2) := dk_21 9 (dk_at dksX2_GOST28147Func_4 4 rfl rfl)
theorem dX2_GOST28147Func_100 : decode cX2_GOST28147Func 100 = .ok (.iaload, 1) := dk_46 (dk_at dksX2_GOST28147Func_4 6 rfl rfl)
theorem dX2_GOST28147Func_101 : decode cX2_GOST28147Func 101 = .ok (.invokevirtual 99, 3) := dk_182 0 99 (dk_at dksX2_GOST28147Func_4 7 rfl rfl)
theorem dX2_GOST28147Func_104 : decode cX2_GOST28147Func 104 = .ok (.ixor, 1) := dk_130 (dk_at dksX2_GOST28147Func_4 10 rfl rfl)
theorem dX2_GOST28147Func_105 : decode cX2_GOST28147Func 105 = .ok (.istore 6, 2) := dk_54 6 (dk_at dksX2_GOST28147Func_4 11 rfl rfl)
theorem dX2_GOST28147Func_107 : decode cX2_GOST28147Func 107 = .ok (.iload 8, 2) := dk_21 8 (dk_at dksX2_GOST28147Func_4 13 rfl rfl)
theorem dX2_GOST28147Func_109 : decode cX2_GOST28147Func 109 = .ok (.istore 7, 2) := dk_54 7 (dk_at dksX2_GOST28147Func_4 15 rfl rfl)
theorem dX2_GOST28147Func_111 : decode cX2_GOST28147Func 111 = .ok (.iinc 9 (-1), 3) := dk_132 9 255 (dk_at dksX2_GOST28147Func_4 17 rfl rfl)
theorem dX2_GOST28147Func_114 : decode cX2_GOST28147Func 114 = .ok (.goto (-31), 3) := dk_167 255 225 (dk_at dksX2_GOST28147Func_4 20 rfl rfl)
theorem dX2_GOST28147Func_117 : decode cX2_GOST28147Func 117 = .ok (.goto 109, 3) := dk_167 0 109 (dk_at dksX2_GOST28147Func_5 0 rfl rfl)
theorem dX2_GOST28147Func_120 : decode cX2_GOST28147Func 120 = .ok (.iconst 0, 1) := dk_3 (dk_at dksX2_GOST28147Func_5 3 rfl rfl)
theorem dX2_GOST28147Func_121 : decode cX2_GOST28147Func 121 = .ok (.istore 9, 2) := dk_54 9 (dk_at dksX2_GOST28147Func_5 4 rfl rfl)
theorem dX2_GOST28147Func_123 : decode cX2_GOST28147Func 123 = .ok (.iload 9, 2) := dk_21 9 (dk_at dksX2_GOST28147Func_5 6 rfl rfl)
theorem dX2_GOST28147Func_125 : decode cX2_GOST28147Func 125 = .ok (.bipush 8, 2) := dk_16 8 (dk_at dksX2_GOST28147Func_5 8 rfl rfl)
theorem dX2_GOST28147Func_127 : decode cX2_GOST28147Func 127 = .ok (.if_icmp .ge 32, 3) := dk_162 0 32 (dk_at dksX2_GOST28147Func_5 10 rfl rfl)
theorem dX2_GOST28147Func_130 : decode cX2_GOST28147Func 130 = .ok (.iload 6, 2) := dk_21 6 (dk_at dksX2_GOST28147Func_5 13 rfl rfl)
theorem dX2_GOST28147Func_132 : decode cX2_GOST28147Func 132 = .ok (.istore 8, 2) := dk_54 8 (dk_at dksX2_GOST28147Func_5 15 rfl rfl)
theorem dX2_GOST28147Func_134 : decode cX2_GOST28147Func 134 = .ok (.iload 7, 2) := dk_21 7 (dk_at dksX2_GOST28147Func_5 17 rfl rfl)
theorem dX2_GOST28147Func_136 : decode cX2_GOST28147Func 136 = .ok (.aload_n 0, 1) := dk_42 (dk_at dksX2_GOST28147Func_5 19 rfl rfl)
theorem dX2_GOST28147Func_137 : decode cX2_GOST28147Func 137 = .ok (.iload 6, 2) := dk_21 6 (dk_at dksX2_GOST28147Func_5 20 rfl rfl)
theorem dX2_GOST28147Func_139 : decode cX2_GOST28147Func 139 = .ok (.aload_n 1, 1) := dk_43 (dk_at dksX2_GOST28147Func_5 22 rfl rfl)
theorem dX2_GOST28147Func_140 : decode cX2_GOST28147Func 140 = .ok (.iload 9, 2) := dk_21 9 (dk_at dksX2_GOST28147Func_6 0 rfl rfl)
theorem dX2_GOST28147Func_142 : decode cX2_GOST28147Func 142 = .ok (.iaload, 1) := dk_46 (dk_at dksX2_GOST28147Func_6 2 rfl rfl)
theorem dX2_GOST28147Func_143 : decode cX2_GOST28147Func 143 = .ok (.invokevirtual 99, 3) := dk_182 0 99 (dk_at dksX2_GOST28147Func_6 3 rfl rfl)
theorem dX2_GOST28147Func_146 : decode cX2_GOST28147Func 146 = .ok (.ixor, 1) := dk_130 (dk_at dksX2_GOST28147Func_6 6 rfl rfl)
theorem dX2_GOST28147Func_147 : decode cX2_GOST28147Func 147 = .ok (.istore 6, 2) := dk_54 6 (dk_at dksX2_GOST28147Func_6 7 rfl rfl)
theorem dX2_GOST28147Func_149 : decode cX2_GOST28147Func 149 = .ok (.iload 8, 2) := dk_21 8 (dk_at dksX2_GOST28147Func_6 9 rfl rfl)
theorem dX2_GOST28147Func_151 : decode cX2_GOST28147Func 151 = .ok (.istore 7, 2) := dk_54 7 (dk_at dksX2_GOST28147Func_6 11 rfl rfl)
theorem dX2_GOST28147Func_153 : decode cX2_GOST28147Func 153 = .ok (.iinc 9 1, 3) := dk_132 9 1 (dk_at dksX2_GOST28147Func_6 13 rfl rfl)
theorem dX2_GOST28147Func_156 : decode cX2_GOST28147Func 156 = .ok (.goto (-33), 3) := dk_167 255 223 (dk_at dksX2_GOST28147Func_6 16 rfl rfl)
theorem dX2_GOST28147Func_159 : decode cX2_GOST28147Func 159 = .ok (.iconst 0, 1) := dk_3 (dk_at dksX2_GOST28147Func_6 19 rfl rfl)
theorem dX2_GOST28147Func_160 : decode cX2_GOST28147Func 160 = .ok (.istore 9, 2) := dk_54 9 (dk_at dksX2_GOST28147Func_6 20 rfl rfl)
theorem dX2_GOST28147Func_162 : decode cX2_GOST28147Func 162 = .ok (.iload 9, 2) := dk_21 9 (dk_at dksX2_GOST28147Func_6 22 rfl rfl)
theorem dX2_GOST28147Func_164 : decode cX2_GOST28147Func 164 = .ok (.iconst 3, 1) := dk_6 (dk_at dksX2_GOST28147Func_7 0 rfl rfl)
theorem dX2_GOST28147Func_165 : decode cX2_GOST28147Func 165 = .ok (.if_icmp .ge 61, 3) := dk_162 0 61 (dk_at dksX2_GOST28147Func_7 1 rfl rfl)
theorem dX2_GOST28147Func_168 : decode cX2_GOST28147Func 168 = .ok (.bipush 7, 2) := dk_16 7 (dk_at dksX2_GOST28147Func_7 4 rfl rfl)
theorem dX2_GOST28147Func_170 : decode cX2_GOST28147Func 170 = .ok (.istore 10, 2) := dk_54 10 (dk_at dksX2_GOST28147Func_7 6 rfl rfl)
theorem dX2_GOST28147Func_172 : decode cX2_GOST28147Func 172 = .ok (.iload 10, 2) := dk_21 10 (dk_at dksX2_GOST28147Func_7 8 rfl rfl)
theorem dX2_GOST28147Func_174 : decode cX2_GOST28147Func 174 = .ok (.ifCond .lt 46, 3) := dk_155 0 46 (dk_at dksX2_GOST28147Func_7 10 rfl rfl)
theorem dX2_GOST28147Func_177 : decode cX2_GOST28147Func 177 = .ok (.iload 9, 2) := dk_21 9 (dk_at dksX2_GOST28147Func_7 13 rfl rfl)
theorem dX2_GOST28147Func_179 : decode cX2_GOST28147Func 179 = .ok (.iconst 2, 1) := dk_5 (dk_at dksX2_GOST28147Func_7 15 rfl rfl)
theorem dX2_GOST28147Func_180 : decode cX2_GOST28147Func 180 = .ok (.if_icmp .ne 11, 3) := dk_160 0 11 (dk_at dksX2_GOST28147Func_7 16 rfl rfl)
theorem dX2_GOST28147Func_183 : decode cX2_GOST28147Func 183 = .ok (.iload 10, 2) := dk_21 10 (dk_at dksX2_GOST28147Func_7 19 rfl rfl)
theorem dX2_GOST28147Func_185 : decode cX2_GOST28147Func 185 = .ok (.ifCond .ne 6, 3) := dk_154 0 6 (dk_at dksX2_GOST28147Func_7 21 rfl rfl)
theorem dX2_GOST28147Func_188 : decode cX2_GOST28147Func 188 = .ok (.goto 32, 3) := dk_167 0 32 (dk_at dksX2_GOST28147Func_8 0 rfl rfl)
theorem dX2_GOST28147Func_191 : decode cX2_GOST28147Func 191 = .ok (.iload 6, 2) := dk_21 6 (dk_at dksX2_GOST28147Func_8 3 rfl rfl)
theorem dX2_GOST28147Func_193 : decode cX2_GOST28147Func 193 = .ok (.istore 8, 2) := dk_54 8 (dk_at dksX2_GOST28147Func_8 5 rfl rfl)
theorem dX2_GOST28147Func_195 : decode cX2_GOST28147Func 195 = .ok (.iload 7, 2) := dk_21 7 (dk_at dksX2_GOST28147Func_8 7 rfl rfl)
theorem dX2_GOST28147Func_197 : decode cX2_GOST28147Func 197 = .ok (.aload_n 0, 1) := dk_42 (dk_at dksX2_GOST28147Func_8 9 rfl rfl)
theorem dX2_GOST28147Func_198 : decode cX2_GOST28147Func 198 = .ok (.iload 6, 2) := dk_21 6 (dk_at dksX2_GOST28147Func_8 10 rfl rfl)
theorem dX2_GOST28147Func_200 : decode cX2_GOST28147Func 200 = .ok (.aload_n 1, 1) := dk_43 (dk_at dksX2_GOST28147Func_8 12 rfl rfl)
theorem dX2_GOST28147Func_201 : decode cX2_GOST28147Func 201 = .ok (.iload 10, 2) := dk_21 10 (dk_at dksX2_GOST28147Func_8 13 rfl rfl)
theorem dX2_GOST28147Func_203 : decode cX2_GOST28147Func 203 = .ok (.iaload, 1) := dk_46 (dk_at dksX2_GOST28147Func_8 15 rfl rfl)
theorem dX2_GOST28147Func_204 : decode cX2_GOST28147Func 204 = .ok (.invokevirtual 99, 3) := dk_182 0 99 (dk_at dksX2_GOST28147Func_8 16 rfl rfl)
theorem dX2_GOST28147Func_207 : decode cX2_GOST28147Func 207 = .ok (.ixor, 1) := dk_130 (dk_at dksX2_GOST28147Func_8 19 rfl rfl)
theorem dX2_GOST28147Func_208 : decode cX2_GOST28147Func 208 = .ok (.istore 6, 2) := dk_54 6 (dk_at dksX2_GOST28147Func_8 20 rfl rfl)
theorem dX2_GOST28147Func_210 : decode cX2_GOST28147Func 210 = .ok (.iload 8, 2) := dk_21 8 (dk_at dksX2_GOST28147Func_8 22 rfl rfl)
theorem dX2_GOST28147Func_212 : decode cX2_GOST28147Func 212 = .ok (.istore 7, 2) := dk_54 7 (dk_at dksX2_GOST28147Func_9 0 rfl rfl)
theorem dX2_GOST28147Func_214 : decode cX2_GOST28147Func 214 = .ok (.iinc 10 (-1), 3) := dk_132 10 255 (dk_at dksX2_GOST28147Func_9 2 rfl rfl)
theorem dX2_GOST28147Func_217 : decode cX2_GOST28147Func 217 = .ok (.goto (-45), 3) := dk_167 255 211 (dk_at dksX2_GOST28147Func_9 5 rfl rfl)
theorem dX2_GOST28147Func_220 : decode cX2_GOST28147Func 220 = .ok (.iinc 9 1, 3) := dk_132 9 1 (dk_at dksX2_GOST28147Func_9 8 rfl rfl)
theorem dX2_GOST28147Func_223 : decode cX2_GOST28147Func 223 = .ok (.goto (-61), 3) := dk_167 255 195 (dk_at dksX2_GOST28147Func_9 11 rfl rfl)
theorem dX2_GOST28147Func_226 : decode cX2_GOST28147Func 226 = .ok (.iload 7, 2) := dk_21 7 (dk_at dksX2_GOST28147Func_9 14 rfl rfl)
theorem dX2_GOST28147Func_228 : decode cX2_GOST28147Func 228 = .ok (.aload_n 0, 1) := dk_42 (dk_at dksX2_GOST28147Func_9 16 rfl rfl)
theorem dX2_GOST28147Func_229 : decode cX2_GOST28147Func 229 = .ok (.iload 6, 2) := dk_21 6 (dk_at dksX2_GOST28147Func_9 17 rfl rfl)
theorem dX2_GOST28147Func_231 : decode cX2_GOST28147Func 231 = .ok (.aload_n 1, 1) := dk_43 (dk_at dksX2_GOST28147Func_9 19 rfl rfl)
theorem dX2_GOST28147Func_232 : decode cX2_GOST28147Func 232 = .ok (.iconst 0, 1) := dk_3 (dk_at dksX2_GOST28147Func_9 20 rfl rfl)
theorem dX2_GOST28147Func_233 : decode cX2_GOST28147Func 233 = .ok (.iaload, 1) := dk_46 (dk_at dksX2_GOST28147Func_9 21 rfl rfl)
theorem dX2_GOST28147Func_234 : decode cX2_GOST28147Func 234 = .ok (.invokevirtual 99, 3) := dk_182 0 99 (dk_at dksX2_GOST28147Func_10 0 rfl rfl)
theorem dX2_GOST28147Func_237 : decode cX2_GOST28147Func 237 = .ok (.ixor, 1) := dk_130 (dk_at dksX2_GOST28147Func_10 3 rfl rfl)
theorem dX2_GOST28147Func_238 : decode cX2_GOST28147Func 238 = .ok (.istore 7, 2) := dk_54 7 (dk_at dksX2_GOST28147Func_10 4 rfl rfl)
theorem dX2_GOST28147Func_240 : decode cX2_GOST28147Func 240 = .ok (.aload_n 0, 1) := dk_42 (dk_at dksX2_GOST28147Func_10 6 rfl rfl)
theorem dX2_GOST28147Func_241 : decode cX2_GOST28147Func 241 = .ok (.iload 6, 2) := dk_21 6 (dk_at dksX2_GOST28147Func_10 7 rfl rfl)
theorem dX2_GOST28147Func_243 : decode cX2_GOST28147Func 243 = .ok (.aload 4, 2) := dk_25 4 (dk_at dksX2_GOST28147Func_10 9 rfl rfl)
theorem dX2_GOST28147Func_245 : decode cX2_GOST28147Func 245 = .ok (.iload 5, 2) := dk_21 5 (dk_at dksX2_GOST28147Func_10 11 rfl rfl)
theorem dX2_GOST28147Func_247 : decode cX2_GOST28147Func 247 = .ok (.invokevirtual 103, 3) := dk_182 0 103 (dk_at dksX2_GOST28147Func_10 13 rfl rfl)
theorem dX2_GOST28147Func_250 : decode cX2_GOST28147Func 250 = .ok (.aload_n 0, 1) := dk_42 (dk_at dksX2_GOST28147Func_10 16 rfl rfl)
theorem dX2_GOST28147Func_251 : decode cX2_GOST28147Func 251 = .ok (.iload 7, 2) := dk_21 7 (dk_at dksX2_GOST28147Func_10 17 rfl rfl)
theorem dX2_GOST28147Func_253 : decode cX2_GOST28147Func 253 = .ok (.aload 4, 2) := dk_25 4 (dk_at dksX2_GOST28147Func_10 19 rfl rfl)
theorem dX2_GOST28147Func_255 : decode cX2_GOST28147Func 255 = .ok (.iload 5, 2) := dk_21 5 (dk_at dksX2_GOST28147Func_10 21 rfl rfl)
theorem dX2_GOST28147Func_257 : decode cX2_GOST28147Func 257 = .ok (.iconst 4, 1) := dk_7 (dk_at dksX2_GOST28147Func_10 23 rfl rfl)
theorem dX2_GOST28147Func_258 : decode cX2_GOST28147Func 258 = .ok (.iadd, 1) := dk_96 (dk_at dksX2_GOST28147Func_11 0 rfl rfl)
theorem dX2_GOST28147Func_259 : decode cX2_GOST28147Func 259 = .ok (.invokevirtual 103, 3) := dk_182 0 103 (dk_at dksX2_GOST28147Func_11 1 rfl rfl)
theorem dX2_GOST28147Func_262 : decode cX2_GOST28147Func 262 = .ok (.return_, 1) := dk_177 (dk_at dksX2_GOST28147Func_11 4 rfl rfl)
abbrev cX2_GOST28147_mainStep : ByteArray := prog_4_method_6_code
def yX2_GOST28147_mainStep : MethodName := ⟨RX2, "GOST28147_mainStep", "(II)I"⟩
def dkwX2_GOST28147_mainStep_8 : List UInt8 := [16, 21, 124, 128, 172]
abbrev dktX2_GOST28147_mainStep_8 : List UInt8 := dkwX2_GOST28147_mainStep_8 ++ []
def dkwX2_GOST28147_mainStep_7 : List UInt8 := [16, 112, 29, 16, 28, 122, 16, 15, 126, 96, 51, 16, 28, 120, 96, 54, 4, 21, 4, 16, 11, 120, 21, 4]
abbrev dktX2_GOST28147_mainStep_7 : List UInt8 := dkwX2_GOST28147_mainStep_7 ++ dktX2_GOST28147_mainStep_8
def dkwX2_GOST28147_mainStep_6 : List UInt8 := [16, 96, 29, 16, 24, 122, 16, 15, 126, 96, 51, 16, 24, 120, 96, 54, 4, 21, 4, 42, 180, 0, 33]
abbrev dktX2_GOST28147_mainStep_6 : List UInt8 := dkwX2_GOST28147_mainStep_6 ++ dktX2_GOST28147_mainStep_7
def dkwX2_GOST28147_mainStep_5 : List UInt8 := [16, 80, 29, 16, 20, 122, 16, 15, 126, 96, 51, 16, 20, 120, 96, 54, 4, 21, 4, 42, 180, 0, 33]
abbrev dktX2_GOST28147_mainStep_5 : List UInt8 := dkwX2_GOST28147_mainStep_5 ++ dktX2_GOST28147_mainStep_6
def dkwX2_GOST28147_mainStep_4 : List UInt8 := [16, 64, 29, 16, 16, 122, 16, 15, 126, 96, 51, 16, 16, 120, 96, 54, 4, 21, 4, 42, 180, 0, 33]
abbrev dktX2_GOST28147_mainStep_4 : List UInt8 := dkwX2_GOST28147_mainStep_4 ++ dktX2_GOST28147_mainStep_5
def dkwX2_GOST28147_mainStep_3 : List UInt8 := [16, 48, 29, 16, 12, 122, 16, 15, 126, 96, 51, 16, 12, 120, 96, 54, 4, 21, 4, 42, 180, 0, 33]
abbrev dktX2_GOST28147_mainStep_3 : List UInt8 := dkwX2_GOST28147_mainStep_3 ++ dktX2_GOST28147_mainStep_4
def dkwX2_GOST28147_mainStep_2 : List UInt8 := [16, 32, 29, 16, 8, 122, 16, 15, 126, 96, 51, 16, 8, 120, 96, 54, 4, 21, 4, 42, 180, 0, 33]
abbrev dktX2_GOST28147_mainStep_2 : List UInt8 := dkwX2_GOST28147_mainStep_2 ++ dktX2_GOST28147_mainStep_3
def dkwX2_GOST28147_mainStep_1 : List UInt8 := [180, 0, 33, 16, 16, 29, 7, 122, 16, 15, 126, 96, 51, 7, 120, 96, 54, 4, 21, 4, 42, 180, 0, 33]
abbrev dktX2_GOST28147_mainStep_1 : List UInt8 := dkwX2_GOST28147_mainStep_1 ++ dktX2_GOST28147_mainStep_2
def dkwX2_GOST28147_mainStep_0 : List UInt8 := [28, 27, 96, 62, 42, 180, 0, 33, 3, 29, 3, 122, 16, 15, 126, 96, 51, 3, 120, 54, 4, 21, 4, 42]
abbrev dktX2_GOST28147_mainStep_0 : List UInt8 := dkwX2_GOST28147_mainStep_0 ++ dktX2_GOST28147_mainStep_1
theorem dksX2_GOST28147_mainStep_0 : cX2_GOST28147_mainStep.data.toList.drop 0 = dktX2_GOST28147_mainStep_0 := by decide +kernel
theorem dksX2_GOST28147_mainStep_1 : cX2_GOST28147_mainStep.data.toList.drop 24 = dktX2_GOST28147_mainStep_1 := dk_seg dksX2_GOST28147_mainStep_0 24 rfl rfl
theorem dksX2_GOST28147_mainStep_2 : cX2_GOST28147_mainStep.data.toList.drop 48 = dktX2_GOST28147_mainStep_2 := dk_seg dksX2_GOST28147_mainStep_1 24 rfl rfl
theorem dksX2_GOST28147_mainStep_3 : cX2_GOST28147_mainStep.data.toList.drop 71 = dktX2_GOST28147_mainStep_3 := dk_seg dksX2_GOST28147_mainStep_2 23 rfl rfl
theorem dksX2_GOST28147_mainStep_4 : cX2_GOST28147_mainStep.data.toList.drop 94 = dktX2_GOST28147_mainStep_4 := dk_seg dksX2_GOST28147_mainStep_3 23 rfl rfl
theorem dksX2_GOST28147_mainStep_5 : cX2_GOST28147_mainStep.data.toList.drop 117 = dktX2_GOST28147_mainStep_5 := dk_seg dksX2_GOST28147_mainStep_4 23 rfl rfl
theorem dksX2_GOST28147_mainStep_6 : cX2_GOST28147_mainStep.data.toList.drop 140 = dktX2_GOST28147_mainStep_6 := dk_seg dksX2_GOST28147_mainStep_5 23 rfl rfl
theorem dksX2_GOST28147_mainStep_7 : cX2_GOST28147_mainStep.data.toList.drop 163 = dktX2_GOST28147_mainStep_7 := dk_seg dksX2_GOST28147_mainStep_6 23 rfl rfl
theorem dksX2_GOST28147_mainStep_8 : cX2_GOST28147_mainStep.data.toList.drop 187 = dktX2_GOST28147_mainStep_8 := dk_seg dksX2_GOST28147_mainStep_7 24 rfl rfl
theorem dX2_GOST28147_mainStep_0 : decode cX2_GOST28147_mainStep 0 = .ok (.iload_n 2, 1) := dk_28 (dk_at dksX2_GOST28147_mainStep_0 0 rfl rfl)
theorem dX2_GOST28147_mainStep_1 : decode cX2_GOST28147_mainStep 1 = .ok (.iload_n 1, 1) := dk_27 (dk_at dksX2_GOST28147_mainStep_0 1 rfl rfl)
theorem dX2_GOST28147_mainStep_2 : decode cX2_GOST28147_mainStep 2 = .ok (.iadd, 1) := dk_96 (dk_at dksX2_GOST28147_mainStep_0 2 rfl rfl)
theorem dX2_GOST28147_mainStep_3 : decode cX2_GOST28147_mainStep 3 = .ok (.istore_n 3, 1) := dk_62 (dk_at dksX2_GOST28147_mainStep_0 3 rfl rfl)
theorem dX2_GOST28147_mainStep_4 : decode cX2_GOST28147_mainStep 4 = .ok (.aload_n 0, 1) := dk_42 (dk_at dksX2_GOST28147_mainStep_0 4 rfl rfl)
theorem dX2_GOST28147_mainStep_5 : decode cX2_GOST28147_mainStep 5 = .ok (.getfield 33, 3) := dk_180 0 33 (dk_at dksX2_GOST28147_mainStep_0 5 rfl rfl)
theorem dX2_GOST28147_mainStep_8 : decode cX2_GOST28147_mainStep 8 = .ok (.iconst 0, 1) := dk_3 (dk_at dksX2_GOST28147_mainStep_0 8 rfl rfl)
theorem dX2_GOST28147_mainStep_9 : decode cX2_GOST28147_mainStep 9 = .ok (.iload_n 3, 1) := dk_29 (dk_at dksX2_GOST28147_mainStep_0 9 rfl rfl)
theorem dX2_GOST28147_mainStep_10 : decode cX2_GOST28147_mainStep 10 = .ok (.iconst 0, 1) := dk_3 (dk_at dksX2_GOST28147_mainStep_0 10 rfl rfl)
theorem dX2_GOST28147_mainStep_11 : decode cX2_GOST28147_mainStep 11 = .ok (.ishr, 1) := dk_122 (dk_at dksX2_GOST28147_mainStep_0 11 rfl rfl)
theorem dX2_GOST28147_mainStep_12 : decode cX2_GOST28147_mainStep 12 = .ok (.bipush 15, 2) := dk_16 15 (dk_at dksX2_GOST28147_mainStep_0 12 rfl rfl)
theorem dX2_GOST28147_mainStep_14 : decode cX2_GOST28147_mainStep 14 = .ok (.iand, 1) := dk_126 (dk_at dksX2_GOST28147_mainStep_0 14 rfl rfl)
theorem dX2_GOST28147_mainStep_15 : decode cX2_GOST28147_mainStep 15 = .ok (.iadd, 1) := dk_96 (dk_at dksX2_GOST28147_mainStep_0 15 rfl rfl)
theorem dX2_GOST28147_mainStep_16 : decode cX2_GOST28147_mainStep 16 = .ok (.baload, 1) := dk_51 (dk_at dksX2_GOST28147_mainStep_0 16 rfl rfl)
theorem dX2_GOST28147_mainStep_17 : decode cX2_GOST28147_mainStep 17 = .ok (.iconst 0, 1) := dk_3 (dk_at dksX2_GOST28147_mainStep_0 17 rfl rfl)
theorem dX2_GOST28147_mainStep_18 : decode cX2_GOST28147_mainStep 18 = .ok (.ishl, 1) := dk_120 (dk_at dksX2_GOST28147_mainStep_0 18 rfl rfl)
theorem dX2_GOST28147_mainStep_19 : decode cX2_GOST28147_mainStep 19 = .ok (.istore 4, 2) := dk_54 4 (dk_at dksX2_GOST28147_mainStep_0 19 rfl rfl)
theorem dX2_GOST28147_mainStep_21 : decode cX2_GOST28147_mainStep 21 = .ok (.iload 4, 2) := dk_21 4 (dk_at dksX2_GOST28147_mainStep_0 21 rfl rfl)
theorem dX2_GOST28147_mainStep_23 : decode cX2_GOST28147_mainStep 23 = .ok (.aload_n 0, 1) := dk_42 (dk_at dksX2_GOST28147_mainStep_0 23 rfl rfl)
theorem dX2_GOST28147_mainStep_24 : decode cX2_GOST28147_mainStep 24 = .ok (.getfield 33, 3) := dk_180 0 33 (dk_at dksX2_GOST28147_mainStep_1 0 rfl rfl)
theorem dX2_GOST28147_mainStep_27 : decode cX2_GOST28147_mainStep 27 = .ok (.bipush 16, 2) := dk_16 16 (dk_at dksX2_GOST28147_mainStep_1 3 rfl rfl)
theorem dX2_GOST28147_mainStep_29 : decode cX2_GOST28147_mainStep 29 = .ok (.iload_n 3, 1) := dk_29 (dk_at dksX2_GOST28147_mainStep_1 5 rfl rfl)
theorem dX2_GOST28147_mainStep_30 : decode cX2_GOST28147_mainStep 30 = .ok (.iconst 4, 1) := dk_7 (dk_at dksX2_GOST28147_mainStep_1 6 rfl rfl)
theorem dX2_GOST28147_mainStep_31 : decode cX2_GOST28147_mainStep 31 = .ok (.ishr, 1) := dk_122 (dk_at dksX2_GOST28147_mainStep_1 7 rfl rfl)
theorem dX2_GOST28147_mainStep_32 : decode cX2_GOST28147_mainStep 32 = .ok (.bipush 15, 2) := dk_16 15 (dk_at dksX2_GOST28147_mainStep_1 8 rfl rfl)
theorem dX2_GOST28147_mainStep_34 : decode cX2_GOST28147_mainStep 34 = .ok (.iand, 1) := dk_126 (dk_at dksX2_GOST28147_mainStep_1 10 rfl rfl)
theorem dX2_GOST28147_mainStep_35 : decode cX2_GOST28147_mainStep 35 = .ok (.iadd, 1) := dk_96 (dk_at dksX2_GOST28147_mainStep_1 11 rfl rfl)
theorem dX2_GOST28147_mainStep_36 : decode cX2_GOST28147_mainStep 36 = .ok (.baload, 1) := dk_51 (dk_at dksX2_GOST28147_mainStep_1 12 rfl rfl)
theorem dX2_GOST28147_mainStep_37 : decode cX2_GOST28147_mainStep 37 = .ok (.iconst 4, 1) := dk_7 (dk_at dksX2_GOST28147_mainStep_1 13 rfl rfl)
theorem dX2_GOST28147_mainStep_38 : decode cX2_GOST28147_mainStep 38 = .ok (.ishl, 1) := dk_120 (dk_at dksX2_GOST28147_mainStep_1 14 rfl rfl)
theorem dX2_GOST28147_mainStep_39 : decode cX2_GOST28147_mainStep 39 = .ok (.iadd, 1) := dk_96 (dk_at dksX2_GOST28147_mainStep_1 15 rfl rfl)
theorem dX2_GOST28147_mainStep_40 : decode cX2_GOST28147_mainStep 40 = .ok (.istore 4, 2) := dk_54 4 (dk_at dksX2_GOST28147_mainStep_1 16 rfl rfl)
theorem dX2_GOST28147_mainStep_42 : decode cX2_GOST28147_mainStep 42 = .ok (.iload 4, 2) := dk_21 4 (dk_at dksX2_GOST28147_mainStep_1 18 rfl rfl)
theorem dX2_GOST28147_mainStep_44 : decode cX2_GOST28147_mainStep 44 = .ok (.aload_n 0, 1) := dk_42 (dk_at dksX2_GOST28147_mainStep_1 20 rfl rfl)
theorem dX2_GOST28147_mainStep_45 : decode cX2_GOST28147_mainStep 45 = .ok (.getfield 33, 3) := dk_180 0 33 (dk_at dksX2_GOST28147_mainStep_1 21 rfl rfl)
theorem dX2_GOST28147_mainStep_48 : decode cX2_GOST28147_mainStep 48 = .ok (.bipush 32, 2) := dk_16 32 (dk_at dksX2_GOST28147_mainStep_2 0 rfl rfl)
theorem dX2_GOST28147_mainStep_50 : decode cX2_GOST28147_mainStep 50 = .ok (.iload_n 3, 1) := dk_29 (dk_at dksX2_GOST28147_mainStep_2 2 rfl rfl)
theorem dX2_GOST28147_mainStep_51 : decode cX2_GOST28147_mainStep 51 = .ok (.bipush 8, 2) := dk_16 8 (dk_at dksX2_GOST28147_mainStep_2 3 rfl rfl)
theorem dX2_GOST28147_mainStep_53 : decode cX2_GOST28147_mainStep 53 = .ok (.ishr, 1) := dk_122 (dk_at dksX2_GOST28147_mainStep_2 5 rfl rfl)
theorem dX2_GOST28147_mainStep_54 : decode cX2_GOST28147_mainStep 54 = .ok (.bipush 15, 2) := dk_16 15 (dk_at dksX2_GOST28147_mainStep_2 6 rfl rfl)
theorem dX2_GOST28147_mainStep_56 : decode cX2_GOST28147_mainStep 56 = .ok (.iand, 1) := dk_126 (dk_at dksX2_GOST28147_mainStep_2 8 rfl rfl)
theorem dX2_GOST28147_mainStep_57 : decode cX2_GOST28147_mainStep 57 = .ok (.iadd, 1) := dk_96 (dk_at dksX2_GOST28147_mainStep_2 9 rfl rfl)
theorem dX2_GOST28147_mainStep_58 : decode cX2_GOST28147_mainStep 58 = .ok (.baload, 1) := dk_51 (dk_at dksX2_GOST28147_mainStep_2 10 rfl rfl)
theorem dX2_GOST28147_mainStep_59 : decode cX2_GOST28147_mainStep 59 = .ok (.bipush 8, 2) := dk_16 8 (dk_at dksX2_GOST28147_mainStep_2 11 rfl rfl)
theorem dX2_GOST28147_mainStep_61 : decode cX2_GOST28147_mainStep 61 = .ok (.ishl, 1) := dk_120 (dk_at dksX2_GOST28147_mainStep_2 13 rfl rfl)
theorem dX2_GOST28147_mainStep_62 : decode cX2_GOST28147_mainStep 62 = .ok (.iadd, 1) := dk_96 (dk_at dksX2_GOST28147_mainStep_2 14 rfl rfl)
theorem dX2_GOST28147_mainStep_63 : decode cX2_GOST28147_mainStep 63 = .ok (.istore 4, 2) := dk_54 4 (dk_at dksX2_GOST28147_mainStep_2 15 rfl rfl)
theorem dX2_GOST28147_mainStep_65 : decode cX2_GOST28147_mainStep 65 = .ok (.iload 4, 2) := dk_21 4 (dk_at dksX2_GOST28147_mainStep_2 17 rfl rfl)
theorem dX2_GOST28147_mainStep_67 : decode cX2_GOST28147_mainStep 67 = .ok (.aload_n 0, 1) := dk_42 (dk_at dksX2_GOST28147_mainStep_2 19 rfl rfl)
theorem dX2_GOST28147_mainStep_68 : decode cX2_GOST28147_mainStep 68 = .ok (.getfield 33, 3) := dk_180 0 33 (dk_at dksX2_GOST28147_mainStep_2 20 rfl rfl)
theorem dX2_GOST28147_mainStep_71 : decode cX2_GOST28147_mainStep 71 = .ok (.bipush 48, 2) := dk_16 48 (dk_at dksX2_GOST28147_mainStep_3 0 rfl rfl)
theorem dX2_GOST28147_mainStep_73 : decode cX2_GOST28147_mainStep 73 = .ok (.iload_n 3, 1) := dk_29 (dk_at dksX2_GOST28147_mainStep_3 2 rfl rfl)
theorem dX2_GOST28147_mainStep_74 : decode cX2_GOST28147_mainStep 74 = .ok (.bipush 12, 2) := dk_16 12 (dk_at dksX2_GOST28147_mainStep_3 3 rfl rfl)
theorem dX2_GOST28147_mainStep_76 : decode cX2_GOST28147_mainStep 76 = .ok (.ishr, 1) := dk_122 (dk_at dksX2_GOST28147_mainStep_3 5 rfl rfl)
theorem dX2_GOST28147_mainStep_77 : decode cX2_GOST28147_mainStep 77 = .ok (.bipush 15, 2) := dk_16 15 (dk_at dksX2_GOST28147_mainStep_3 6 rfl rfl)
theorem dX2_GOST28147_mainStep_79 : decode cX2_GOST28147_mainStep 79 = .ok (.iand, 1) := dk_126 (dk_at dksX2_GOST28147_mainStep_3 8 rfl rfl)
theorem dX2_GOST28147_mainStep_80 : decode cX2_GOST28147_mainStep 80 = .ok (.iadd, 1) := dk_96 (dk_at dksX2_GOST28147_mainStep_3 9 rfl rfl)
theorem dX2_GOST28147_mainStep_81 : decode cX2_GOST28147_mainStep 81 = .ok (.baload, 1) := dk_51 (dk_at dksX2_GOST28147_mainStep_3 10 rfl rfl)
theorem dX2_GOST28147_mainStep_82 : decode cX2_GOST28147_mainStep 82 = .ok (.bipush 12, 2) := dk_16 12 (dk_at dksX2_GOST28147_mainStep_3 11 rfl rfl)
theorem dX2_GOST28147_mainStep_84 : decode cX2_GOST28147_mainStep 84 = .ok (.ishl, 1) := dk_120 (dk_at dksX2_GOST28147_mainStep_3 13 rfl rfl)
theorem dX2_GOST28147_mainStep_85 : decode cX2_GOST28147_mainStep 85 = .ok (.iadd, 1) := dk_96 (dk_at dksX2_GOST28147_mainStep_3 14 rfl rfl)
theorem dX2_GOST28147_mainStep_86 : decode cX2_GOST28147_mainStep 86 = .ok (.istore 4, 2) := dk_54 4 (dk_at dksX2_GOST28147_mainStep_3 15 rfl rfl)
theorem dX2_GOST28147_mainStep_88 : decode cX2_GOST28147_mainStep 88 = .ok (.iload 4, 2) := dk_21 4 (dk_at dksX2_GOST28147_mainStep_3 17 rfl rfl)
theorem dX2_GOST28147_mainStep_90 : decode cX2_GOST28147_mainStep 90 = .ok (.aload_n 0, 1) := dk_42 (dk_at dksX2_GOST28147_mainStep_3 19 rfl rfl)
theorem dX2_GOST28147_mainStep_91 : decode cX2_GOST28147_mainStep 91 = .ok (.getfield 33, 3) := dk_180 0 33 (dk_at dksX2_GOST28147_mainStep_3 20 rfl rfl)
theorem dX2_GOST28147_mainStep_94 : decode cX2_GOST28147_mainStep 94 = .ok (.bipush 64, 2) := dk_16 64 (dk_at dksX2_GOST28147_mainStep_4 0 rfl rfl)
theorem dX2_GOST28147_mainStep_96 : decode cX2_GOST28147_mainStep 96 = .ok (.iload_n 3, 1) := dk_29 (dk_at dksX2_GOST28147_mainStep_4 2 rfl rfl)
theorem dX2_GOST28147_mainStep_97 : decode cX2_GOST28147_mainStep 97 = .ok (.bipush 16, 2) := dk_16 16 (dk_at dksX2_GOST28147_mainStep_4 3 rfl rfl)
theorem dX2_GOST28147_mainStep_99 : decode cX2_GOST28147_mainStep 99 = .ok (.ishr, 1) := dk_122 (dk_at dksX2_GOST28147_mainStep_4 5 rfl rfl)
theorem dX2_GOST28147_mainStep_100 : decode cX2_GOST28147_mainStep 100 = .ok (.bipush 15, 2) := dk_16 15 (dk_at dksX2_GOST28147_mainStep_4 6 rfl rfl)
theorem dX2_GOST28147_mainStep_102 : decode cX2_GOST28147_mainStep 102 = .ok (.iand, 1) := dk_126 (dk_at dksX2_GOST28147_mainStep_4 8 rfl rfl)
theorem dX2_GOST28147_mainStep_103 : decode cX2_GOST28147_mainStep 103 = .ok (.iadd, 1) := dk_96 (dk_at dksX2_GOST28147_mainStep_4 9 rfl rfl)
theorem dX2_GOST28147_mainStep_104 : decode cX2_GOST28147_mainStep 104 = .ok (.baload, 1) := dk_51 (dk_at dksX2_GOST28147_mainStep_4 10 rfl rfl)
theorem dX2_GOST28147_mainStep_105 : decode cX2_GOST28147_mainStep 105 = .ok (.bipush 16, 2) := dk_16 16 (dk_at dksX2_GOST28147_mainStep_4 11 rfl rfl)
theorem dX2_GOST28147_mainStep_107 : decode cX2_GOST28147_mainStep 107 = .ok (.ishl, 1) := dk_120 (dk_at dksX2_GOST28147_mainStep_4 13 rfl rfl)
theorem dX2_GOST28147_mainStep_108 : decode cX2_GOST28147_mainStep 108 = .ok (.iadd, 1) := dk_96 (dk_at dksX2_GOST28147_mainStep_4 14 rfl rfl)
theorem dX2_GOST28147_mainStep_109 : decode cX2_GOST28147_mainStep 109 = .ok (.istore 4, 2) := dk_54 4 (dk_at dksX2_GOST28147_mainStep_4 15 rfl rfl)
theorem dX2_GOST28147_mainStep_111 : decode cX2_GOST28147_mainStep 111 = .ok (.iload 4, 2) := dk_21 4 (dk_at dksX2_GOST28147_mainStep_4 17 rfl rfl)
theorem dX2_GOST28147_mainStep_113 : decode cX2_GOST28147_mainStep 113 = .ok (.aload_n 0, 1) := dk_42 (dk_at dksX2_GOST28147_mainStep_4 19 rfl rfl)
theorem dX2_GOST28147_mainStep_114 : decode cX2_GOST28147_mainStep 114 = .ok (.getfield 33, 3) := dk_180 0 33 (dk_at dksX2_GOST28147_mainStep_4 20 rfl rfl)
theorem dX2_GOST28147_mainStep_117 : decode cX2_GOST28147_mainStep 117 = .ok (.bipush 80, 2) := dk_16 80 (dk_at dksX2_GOST28147_mainStep_5 0 rfl rfl)
theorem dX2_GOST28147_mainStep_119 : decode cX2_GOST28147_mainStep 119 = .ok (.iload_n 3, 1) := dk_29 (dk_at dksX2_GOST28147_mainStep_5 2 rfl rfl)
theorem dX2_GOST28147_mainStep_120 : decode cX2_GOST28147_mainStep 120 = .ok (.bipush 20, 2) := dk_16 20 (dk_at dksX2_GOST28147_mainStep_5 3 rfl rfl)
theorem dX2_GOST28147_mainStep_122 : decode cX2_GOST28147_mainStep 122 = .ok (.ishr, 1) := dk_122 (dk_at dksX2_GOST28147_mainStep_5 5 rfl rfl)
theorem dX2_GOST28147_mainStep_123 : decode cX2_GOST28147_mainStep 123 = .ok (.bipush 15, 2) := dk_16 15 (dk_at dksX2_GOST28147_mainStep_5 6 rfl rfl)
theorem dX2_GOST28147_mainStep_125 : decode cX2_GOST28147_mainStep 125 = .ok (.iand, 1) := dk_126 (dk_at dksX2_GOST28147_mainStep_5 8 rfl rfl)
theorem dX2_GOST28147_mainStep_126 : decode cX2_GOST28147_mainStep 126 = .ok (.iadd, 1) := dk_96 (dk_at dksX2_GOST28147_mainStep_5 9 rfl rfl)
theorem dX2_GOST28147_mainStep_127 : decode cX2_GOST28147_mainStep 127 = .ok (.baload, 1) := dk_51 (dk_at dksX2_GOST28147_mainStep_5 10 rfl rfl)
theorem dX2_GOST28147_mainStep_128 : decode cX2_GOST28147_mainStep 128 = .ok (.bipush 20, 2) := dk_16 20 (dk_at dksX2_GOST28147_mainStep_5 11 rfl rfl)
theorem dX2_GOST28147_mainStep_130 : decode cX2_GOST28147_mainStep 130 = .ok (.ishl, 1) := dk_120 (dk_at dksX2_GOST28147_mainStep_5 13 rfl rfl)
theorem dX2_GOST28147_mainStep_131 : decode cX2_GOST28147_mainStep 131 = .ok (.iadd, 1) := dk_96 (dk_at dksX2_GOST28147_mainStep_5 14 rfl rfl)
theorem dX2_GOST28147_mainStep_132 : decode cX2_GOST28147_mainStep 132 = .ok (.istore 4, 2) := dk_54 4 (dk_at dksX2_GOST28147_mainStep_5 15 rfl rfl)
theorem dX2_GOST28147_mainStep_134 : decode cX2_GOST28147_mainStep 134 = .ok (.iload 4, 2) := dk_21 4 (dk_at dksX2_GOST28147_mainStep_5 17 rfl rfl)
theorem dX2_GOST28147_mainStep_136 : decode cX2_GOST28147_mainStep 136 = .ok (.aload_n 0, 1) := dk_42 (dk_at dksX2_GOST28147_mainStep_5 19 rfl rfl)
theorem dX2_GOST28147_mainStep_137 : decode cX2_GOST28147_mainStep 137 = .ok (.getfield 33, 3) := dk_180 0 33 (dk_at dksX2_GOST28147_mainStep_5 20 rfl rfl)
theorem dX2_GOST28147_mainStep_140 : decode cX2_GOST28147_mainStep 140 = .ok (.bipush 96, 2) := dk_16 96 (dk_at dksX2_GOST28147_mainStep_6 0 rfl rfl)
theorem dX2_GOST28147_mainStep_142 : decode cX2_GOST28147_mainStep 142 = .ok (.iload_n 3, 1) := dk_29 (dk_at dksX2_GOST28147_mainStep_6 2 rfl rfl)
theorem dX2_GOST28147_mainStep_143 : decode cX2_GOST28147_mainStep 143 = .ok (.bipush 24, 2) := dk_16 24 (dk_at dksX2_GOST28147_mainStep_6 3 rfl rfl)
theorem dX2_GOST28147_mainStep_145 : decode cX2_GOST28147_mainStep 145 = .ok (.ishr, 1) := dk_122 (dk_at dksX2_GOST28147_mainStep_6 5 rfl rfl)
theorem dX2_GOST28147_mainStep_146 : decode cX2_GOST28147_mainStep 146 = .ok (.bipush 15, 2) := dk_16 15 (dk_at dksX2_GOST28147_mainStep_6 6 rfl rfl)
theorem dX2_GOST28147_mainStep_148 : decode cX2_GOST28147_mainStep 148 = .ok (.iand, 1) := dk_126 (dk_at dksX2_GOST28147_mainStep_6 8 rfl rfl)
theorem dX2_GOST28147_mainStep_149 : decode cX2_GOST28147_mainStep 149 = .ok (.iadd, 1) := dk_96 (dk_at dksX2_GOST28147_mainStep_6 9 rfl rfl)
theorem dX2_GOST28147_mainStep_150 : decode cX2_GOST28147_mainStep 150 = .ok (.baload, 1) := dk_51 (dk_at dksX2_GOST28147_mainStep_6 10 rfl rfl)
theorem dX2_GOST28147_mainStep_151 : decode cX2_GOST28147_mainStep 151 = .ok (.bipush 24, 2) := dk_16 24 (dk_at dksX2_GOST28147_mainStep_6 11 rfl rfl)
theorem dX2_GOST28147_mainStep_153 : decode cX2_GOST28147_mainStep 153 = .ok (.ishl, 1) := dk_120 (dk_at dksX2_GOST28147_mainStep_6 13 rfl rfl)
theorem dX2_GOST28147_mainStep_154 : decode cX2_GOST28147_mainStep 154 = .ok (.iadd, 1) := dk_96 (dk_at dksX2_GOST28147_mainStep_6 14 rfl rfl)
theorem dX2_GOST28147_mainStep_155 : decode cX2_GOST28147_mainStep 155 = .ok (.istore 4, 2) := dk_54 4 (dk_at dksX2_GOST28147_mainStep_6 15 rfl rfl)
theorem dX2_GOST28147_mainStep_157 : decode cX2_GOST28147_mainStep 157 = .ok (.iload 4, 2) := dk_21 4 (dk_at dksX2_GOST28147_mainStep_6 17 rfl rfl)
theorem dX2_GOST28147_mainStep_159 : decode cX2_GOST28147_mainStep 159 = .ok (.aload_n 0, 1) := dk_42 (dk_at dksX2_GOST28147_mainStep_6 19 rfl rfl)
theorem dX2_GOST28147_mainStep_160 : decode cX2_GOST28147_mainStep 160 = .ok (.getfield 33, 3) := dk_180 0 33 (dk_at dksX2_GOST28147_mainStep_6 20 rfl rfl)
theorem dX2_GOST28147_mainStep_163 : decode cX2_GOST28147_mainStep 163 = .ok (.bipush 112, 2) := dk_16 112 (dk_at dksX2_GOST28147_mainStep_7 0 rfl rfl)
theorem dX2_GOST28147_mainStep_165 : decode cX2_GOST28147_mainStep 165 = .ok (.iload_n 3, 1) := dk_29 (dk_at dksX2_GOST28147_mainStep_7 2 rfl rfl)
theorem dX2_GOST28147_mainStep_166 : decode cX2_GOST28147_mainStep 166 = .ok (.bipush 28, 2) := dk_16 28 (dk_at dksX2_GOST28147_mainStep_7 3 rfl rfl)
theorem dX2_GOST28147_mainStep_168 : decode cX2_GOST28147_mainStep 168 = .ok (.ishr, 1) := dk_122 (dk_at dksX2_GOST28147_mainStep_7 5 rfl rfl)
theorem dX2_GOST28147_mainStep_169 : decode cX2_GOST28147_mainStep 169 = .ok (.bipush 15, 2) := dk_16 15 (dk_at dksX2_GOST28147_mainStep_7 6 rfl rfl)
theorem dX2_GOST28147_mainStep_171 : decode cX2_GOST28147_mainStep 171 = .ok (.iand, 1) := dk_126 (dk_at dksX2_GOST28147_mainStep_7 8 rfl rfl)
theorem dX2_GOST28147_mainStep_172 : decode cX2_GOST28147_mainStep 172 = .ok (.iadd, 1) := dk_96 (dk_at dksX2_GOST28147_mainStep_7 9 rfl rfl)
theorem dX2_GOST28147_mainStep_173 : decode cX2_GOST28147_mainStep 173 = .ok (.baload, 1) := dk_51 (dk_at dksX2_GOST28147_mainStep_7 10 rfl rfl)
theorem dX2_GOST28147_mainStep_174 : decode cX2_GOST28147_mainStep 174 = .ok (.bipush 28, 2) := dk_16 28 (dk_at dksX2_GOST28147_mainStep_7 11 rfl rfl)
theorem dX2_GOST28147_mainStep_176 : decode cX2_GOST28147_mainStep 176 = .ok (.ishl, 1) := dk_120 (dk_at dksX2_GOST28147_mainStep_7 13 rfl rfl)
theorem dX2_GOST28147_mainStep_177 : decode cX2_GOST28147_mainStep 177 = .ok (.iadd, 1) := dk_96 (dk_at dksX2_GOST28147_mainStep_7 14 rfl rfl)
theorem dX2_GOST28147_mainStep_178 : decode cX2_GOST28147_mainStep 178 = .ok (.istore 4, 2) := dk_54 4 (dk_at dksX2_GOST28147_mainStep_7 15 rfl rfl)
theorem dX2_GOST28147_mainStep_180 : decode cX2_GOST28147_mainStep 180 = .ok (.iload 4, 2) := dk_21 4 (dk_at dksX2_GOST28147_mainStep_7 17 rfl rfl)
theorem dX2_GOST28147_mainStep_182 : decode cX2_GOST28147_mainStep 182 = .ok (.bipush 11, 2) := dk_16 11 (dk_at dksX2_GOST28147_mainStep_7 19 rfl rfl)
theorem dX2_GOST28147_mainStep_184 : decode cX2_GOST28147_mainStep 184 = .ok (.ishl, 1) := dk_120 (dk_at dksX2_GOST28147_mainStep_7 21 rfl rfl)
theorem dX2_GOST28147_mainStep_185 : decode cX2_GOST28147_mainStep 185 = .ok (.iload 4, 2) := dk_21 4 (dk_at dksX2_GOST28147_mainStep_7 22 rfl rfl)
theorem dX2_GOST28147_mainStep_187 : decode cX2_GOST28147_mainStep 187 = .ok (.bipush 21, 2) := dk_16 21 (dk_at dksX2_GOST28147_mainStep_8 0 rfl rfl)
theorem dX2_GOST28147_mainStep_189 : decode cX2_GOST28147_mainStep 189 = .ok (.iushr, 1) := dk_124 (dk_at dksX2_GOST28147_mainStep_8 2 rfl rfl)
theorem dX2_GOST28147_mainStep_190 : decode cX2_GOST28147_mainStep 190 = .ok (.ior, 1) := dk_128 (dk_at dksX2_GOST28147_mainStep_8 3 rfl rfl)
theorem dX2_GOST28147_mainStep_191 : decode cX2_GOST28147_mainStep 191 = .ok (.ireturn, 1) := dk_172 (dk_at dksX2_GOST28147_mainStep_8 4 rfl rfl)
abbrev cX2_intTobytes : ByteArray := prog_4_method_9_code
def yX2_intTobytes : MethodName := ⟨RX2, "intTobytes", "(I[BI)V"⟩
def dkwX2_intTobytes_1 : List UInt8 := [27, 16, 8, 124, 145, 84, 44, 29, 27, 145, 84, 177]
abbrev dktX2_intTobytes_1 : List UInt8 := dkwX2_intTobytes_1 ++ []
def dkwX2_intTobytes_0 : List UInt8 := [44, 29, 6, 96, 27, 16, 24, 124, 145, 84, 44, 29, 5, 96, 27, 16, 16, 124, 145, 84, 44, 29, 4, 96]
abbrev dktX2_intTobytes_0 : List UInt8 := dkwX2_intTobytes_0 ++ dktX2_intTobytes_1
theorem dksX2_intTobytes_0 : cX2_intTobytes.data.toList.drop 0 = dktX2_intTobytes_0 := by decide +kernel
theorem dksX2_intTobytes_1 : cX2_intTobytes.data.toList.drop 24 = dktX2_intTobytes_1 := dk_seg dksX2_intTobytes_0 24 rfl rfl
theorem dX2_intTobytes_0 : decode cX2_intTobytes 0 = .ok (.aload_n 2, 1) := dk_44 (dk_at dksX2_intTobytes_0 0 rfl rfl)
theorem dX2_intTobytes_1 : decode cX2_intTobytes 1 = .ok (.iload_n 3, 1) := dk_29 (dk_at dksX2_intTobytes_0 1 rfl rfl)
theorem dX2_intTobytes_2 : decode cX2_intTobytes 2 = .ok (.iconst 3, 1) := dk_6 (dk_at dksX2_intTobytes_0 2 rfl rfl)
theorem dX2_intTobytes_3 : decode cX2_intTobytes 3 = .ok (.iadd, 1) := dk_96 (dk_at dksX2_intTobytes_0 3 rfl rfl)
theorem dX2_intTobytes_4 : decode cX2_intTobytes 4 = .ok (.iload_n 1, 1) := dk_27 (dk_at dksX2_intTobytes_0 4 rfl rfl)
theorem dX2_intTobytes_5 : decode cX2_intTobytes 5 = .ok (.bipush 24, 2) := dk_16 24 (dk_at dksX2_intTobytes_0 5 rfl rfl)
theorem dX2_intTobytes_7 : decode cX2_intTobytes 7 = .ok (.iushr, 1) := dk_124 (dk_at dksX2_intTobytes_0 7 rfl rfl)
theorem dX2_intTobytes_8 : decode cX2_intTobytes 8 = .ok (.i2b, 1) := dk_145 (dk_at dksX2_intTobytes_0 8 rfl rfl)
theorem dX2_intTobytes_9 : decode cX2_intTobytes 9 = .ok (.bastore, 1) := dk_84 (dk_at dksX2_intTobytes_0 9 rfl rfl)
theorem dX2_intTobytes_10 : decode cX2_intTobytes 10 = .ok (.aload_n 2, 1) := dk_44 (dk_at dksX2_intTobytes_0 10 rfl rfl)
theorem dX2_intTobytes_11 : decode cX2_intTobytes 11 = .ok (.iload_n 3, 1) := dk_29 (dk_at dksX2_intTobytes_0 11 rfl rfl)
theorem dX2_intTobytes_12 : decode cX2_intTobytes 12 = .ok (.iconst 2, 1) := dk_5 (dk_at dksX2_intTobytes_0 12 rfl rfl)
theorem dX2_intTobytes_13 : decode cX2_intTobytes 13 = .ok (.iadd, 1) := dk_96 (dk_at dksX2_intTobytes_0 13 rfl rfl)
theorem dX2_intTobytes_14 : decode cX2_intTobytes 14 = .ok (.iload_n 1, 1) := dk_27 (dk_at dksX2_intTobytes_0 14 rfl rfl)
theorem dX2_intTobytes_15 : decode cX2_intTobytes 15 = .ok (.bipush 16, 2) := dk_16 16 (dk_at dksX2_intTobytes_0 15 rfl rfl)
theorem dX2_intTobytes_17 : decode cX2_intTobytes 17 = .ok (.iushr, 1) := dk_124 (dk_at dksX2_intTobytes_0 17 rfl rfl)
theorem dX2_intTobytes_18 : decode cX2_intTobytes 18 = .ok (.i2b, 1) := dk_145 (dk_at dksX2_intTobytes_0 18 rfl rfl)
theorem dX2_intTobytes_19 : decode cX2_intTobytes 19 = .ok (.bastore, 1) := dk_84 (dk_at dksX2_intTobytes_0 19 rfl rfl)
theorem dX2_intTobytes_20 : decode cX2_intTobytes 20 = .ok (.aload_n 2, 1) := dk_44 (dk_at dksX2_intTobytes_0 20 rfl rfl)
theorem dX2_intTobytes_21 : decode cX2_intTobytes 21 = .ok (.iload_n 3, 1) := dk_29 (dk_at dksX2_intTobytes_0 21 rfl rfl)
theorem dX2_intTobytes_22 : decode cX2_intTobytes 22 = .ok (.iconst 1, 1) := dk_4 (dk_at dksX2_intTobytes_0 22 rfl rfl)
theorem dX2_intTobytes_23 : decode cX2_intTobytes 23 = .ok (.iadd, 1) := dk_96 (dk_at dksX2_intTobytes_0 23 rfl rfl)
theorem dX2_intTobytes_24 : decode cX2_intTobytes 24 = .ok (.iload_n 1, 1) := dk_27 (dk_at dksX2_intTobytes_1 0 rfl rfl)
theorem dX2_intTobytes_25 : decode cX2_intTobytes 25 = .ok (.bipush 8, 2) := dk_16 8 (dk_at dksX2_intTobytes_1 1 rfl rfl)
theorem dX2_intTobytes_27 : decode cX2_intTobytes 27 = .ok (.iushr, 1) := dk_124 (dk_at dksX2_intTobytes_1 3 rfl rfl)
theorem dX2_intTobytes_28 : decode cX2_intTobytes 28 = .ok (.i2b, 1) := dk_145 (dk_at dksX2_intTobytes_1 4 rfl rfl)
theorem dX2_intTobytes_29 : decode cX2_intTobytes 29 = .ok (.bastore, 1) := dk_84 (dk_at dksX2_intTobytes_1 5 rfl rfl)
theorem dX2_intTobytes_30 : decode cX2_intTobytes 30 = .ok (.aload_n 2, 1) := dk_44 (dk_at dksX2_intTobytes_1 6 rfl rfl)
theorem dX2_intTobytes_31 : decode cX2_intTobytes 31 = .ok (.iload_n 3, 1) := dk_29 (dk_at dksX2_intTobytes_1 7 rfl rfl)
theorem dX2_intTobytes_32 : decode cX2_intTobytes 32 = .ok (.iload_n 1, 1) := dk_27 (dk_at dksX2_intTobytes_1 8 rfl rfl)
theorem dX2_intTobytes_33 : decode cX2_intTobytes 33 = .ok (.i2b, 1) := dk_145 (dk_at dksX2_intTobytes_1 9 rfl rfl)
theorem dX2_intTobytes_34 : decode cX2_intTobytes 34 = .ok (.bastore, 1) := dk_84 (dk_at dksX2_intTobytes_1 10 rfl rfl)
theorem dX2_intTobytes_35 : decode cX2_intTobytes 35 = .ok (.return_, 1) := dk_177 (dk_at dksX2_intTobytes_1 11 rfl rfl)
theorem q11 : (Jvm.Cond.initialized "GOST28147Engine") ∈ lw_all := lw_g (lw_at lw_m1 3 rfl) rfl
theorem q65 : (Jvm.Cond.instantiable "GOST28147Engine" (3 : Nat)) ∈ lw_all := lw_g (lw_at lw_m1 57 rfl) rfl
theorem q67 : (Jvm.Cond.instanceMethod ({ cls := "GOST28147Engine", name := "<init>", desc := "()V" } : Jvm.MethodName)) ∈ lw_all := lw_g (lw_at lw_m1 59 rfl) rfl
theorem q68 : (Jvm.Cond.code ({ cls := "GOST28147Engine", name := "<init>", desc := "()V" } : Jvm.MethodName) prog_4_method_2_code (1 : Nat) (Option.none : Option Jvm.ClassFile.FieldType)) ∈ lw_all := lw_g (lw_at lw_m1 60 rfl) rfl
theorem q69 : (Jvm.Cond.methodLink "GOST28147Engine" (19 : Nat) ({ cls := "java/lang/Object", name := "<init>", desc := "()V" } : Jvm.MethodName)) ∈ lw_all := lw_g (lw_at lw_m1 61 rfl) rfl
theorem q70 : (Jvm.Cond.fieldLink "GOST28147Engine" (29 : Nat) "GOST28147Engine" "Sbox_Default" "[B") ∈ lw_all := lw_g (lw_at lw_m1 62 rfl) rfl
theorem q71 : (Jvm.Cond.laysStatic "GOST28147Engine" "Sbox_Default" "[B") ∈ lw_tbl := lw_at lw_m1 63 rfl
theorem q72 : (Jvm.Cond.fieldLink "GOST28147Engine" (25 : Nat) "GOST28147Engine" "workingKey" "[I") ∈ lw_all := lw_g (lw_at lw_m1 64 rfl) rfl
theorem q73 : (Jvm.Cond.fieldLink "GOST28147Engine" (89 : Nat) "GOST28147Engine" "forEncryption" "Z") ∈ lw_all := lw_g (lw_at lw_m1 65 rfl) rfl
theorem q74 : (Jvm.Cond.fieldLink "GOST28147Engine" (33 : Nat) "GOST28147Engine" "S" "[B") ∈ lw_all := lw_g (lw_at lw_m1 66 rfl) rfl
theorem q75 : (Jvm.Cond.lays "GOST28147Engine" "GOST28147Engine" "workingKey" "[I") ∈ lw_all := lw_g (lw_at lw_m1 67 rfl) rfl
theorem q76 : (Jvm.Cond.soleField "GOST28147Engine" "workingKey") ∈ lw_all := lw_g (lw_at lw_m1 68 rfl) rfl
theorem q77 : (Jvm.Cond.lays "GOST28147Engine" "GOST28147Engine" "forEncryption" "Z") ∈ lw_all := lw_g (lw_at lw_m1 69 rfl) rfl
theorem q78 : (Jvm.Cond.soleField "GOST28147Engine" "forEncryption") ∈ lw_all := lw_g (lw_at lw_m1 70 rfl) rfl
theorem q79 : (Jvm.Cond.lays "GOST28147Engine" "GOST28147Engine" "S" "[B") ∈ lw_all := lw_g (lw_at lw_m1 71 rfl) rfl
theorem q80 : (Jvm.Cond.soleField "GOST28147Engine" "S") ∈ lw_all := lw_g (lw_at lw_m1 72 rfl) rfl
theorem q81 : (Jvm.Cond.superclass "GOST28147Engine" "java/lang/Object") ∈ lw_all := lw_g (lw_at lw_m1 73 rfl) rfl
theorem q105 : (Jvm.Cond.castable "GOST28147Engine" "BlockCipher") ∈ lw_tbl := lw_at lw_m1 97 rfl
theorem q106 : (Jvm.Cond.selects "GOST28147Engine" ({ cls := "BlockCipher", name := "init", desc := "(ZLCipherParameters;)V" } : Jvm.MethodName) ({ cls := "GOST28147Engine", name := "init", desc := "(ZLCipherParameters;)V" } : Jvm.MethodName)) ∈ lw_all := lw_g (lw_at lw_m1 98 rfl) rfl
theorem q107 : (Jvm.Cond.unhidden "GOST28147Engine" "init" "(ZLCipherParameters;)V") ∈ lw_tbl := lw_at lw_m1 99 rfl
theorem q108 : (Jvm.Cond.instanceMethod ({ cls := "GOST28147Engine", name := "init", desc := "(ZLCipherParameters;)V" } : Jvm.MethodName)) ∈ lw_all := lw_g (lw_at lw_m1 100 rfl) rfl
theorem q109 : (Jvm.Cond.publicMethod ({ cls := "GOST28147Engine", name := "init", desc := "(ZLCipherParameters;)V" } : Jvm.MethodName)) ∈ lw_tbl := lw_at lw_m1 101 rfl
theorem q110 : (Jvm.Cond.code ({ cls := "GOST28147Engine", name := "init", desc := "(ZLCipherParameters;)V" } : Jvm.MethodName) prog_4_method_3_code (5 : Nat) (Option.none : Option Jvm.ClassFile.FieldType)) ∈ lw_all := lw_g (lw_at lw_m1 102 rfl) rfl
theorem q111 : (Jvm.Cond.classLink "GOST28147Engine" (36 : Nat) "ParametersWithSBox") ∈ lw_all := lw_g (lw_at lw_m1 103 rfl) rfl
theorem q112 : (Jvm.Cond.methodLink "GOST28147Engine" (38 : Nat) ({ cls := "ParametersWithSBox", name := "getSBox", desc := "()[B" } : Jvm.MethodName)) ∈ lw_all := lw_g (lw_at lw_m1 104 rfl) rfl
theorem q116 : (Jvm.Cond.classLink "GOST28147Engine" (42 : Nat) "java/lang/IllegalArgumentException") ∈ lw_all := lw_g (lw_at lw_m1 108 rfl) rfl
theorem q158 : (Jvm.Cond.stringRef "GOST28147Engine" (44 : Nat) "invalid S-box passed to GOST28147 init") ∈ lw_tbl := lw_at lw_m1 150 rfl
theorem q159 : (Jvm.Cond.methodLink "GOST28147Engine" (46 : Nat) ({ cls := "java/lang/IllegalArgumentException", name := "<init>", desc := "(Ljava/lang/String;)V" } : Jvm.MethodName)) ∈ lw_all := lw_g (lw_at lw_m1 151 rfl) rfl
theorem q184 : (Jvm.Cond.methodLink "GOST28147Engine" (49 : Nat) ({ cls := "OwnArrays", name := "clone", desc := "([B)[B" } : Jvm.MethodName)) ∈ lw_all := lw_g (lw_at lw_m1 176 rfl) rfl
theorem q194 : (Jvm.Cond.methodLink "GOST28147Engine" (55 : Nat) ({ cls := "ParametersWithSBox", name := "getParameters", desc := "()LCipherParameters;" } : Jvm.MethodName)) ∈ lw_all := lw_g (lw_at lw_m1 186 rfl) rfl
theorem q198 : (Jvm.Cond.classLink "GOST28147Engine" (59 : Nat) "KeyParameter") ∈ lw_all := lw_g (lw_at lw_m1 190 rfl) rfl
theorem q199 : (Jvm.Cond.methodLink "GOST28147Engine" (61 : Nat) ({ cls := "KeyParameter", name := "getKey", desc := "()[B" } : Jvm.MethodName)) ∈ lw_all := lw_g (lw_at lw_m1 191 rfl) rfl
theorem q203 : (Jvm.Cond.methodLink "GOST28147Engine" (64 : Nat) ({ cls := "GOST28147Engine", name := "generateWorkingKey", desc := "(Z[B)[I" } : Jvm.MethodName)) ∈ lw_all := lw_g (lw_at lw_m1 195 rfl) rfl
theorem q204 : (Jvm.Cond.privateMethod ({ cls := "GOST28147Engine", name := "generateWorkingKey", desc := "(Z[B)[I" } : Jvm.MethodName)) ∈ lw_tbl := lw_at lw_m1 196 rfl
theorem q205 : (Jvm.Cond.instanceMethod ({ cls := "GOST28147Engine", name := "generateWorkingKey", desc := "(Z[B)[I" } : Jvm.MethodName)) ∈ lw_all := lw_g (lw_at lw_m1 197 rfl) rfl
theorem q206 : (Jvm.Cond.code ({ cls := "GOST28147Engine", name := "generateWorkingKey", desc := "(Z[B)[I" } : Jvm.MethodName) prog_4_method_5_code (5 : Nat) (Option.some (Jvm.ClassFile.FieldType.array Jvm.ClassFile.FieldType.int))) ∈ lw_all := lw_g (lw_at lw_m1 198 rfl) rfl
theorem q207 : (Jvm.Cond.stringRef "GOST28147Engine" (93 : Nat) "Key length invalid. Key needs to be 32 byte - 256 bit!!!") ∈ lw_tbl := lw_at lw_m1 199 rfl
theorem q208 : (Jvm.Cond.methodLink "GOST28147Engine" (95 : Nat) ({ cls := "GOST28147Engine", name := "bytesToint", desc := "([BI)I" } : Jvm.MethodName)) ∈ lw_all := lw_g (lw_at lw_m1 200 rfl) rfl
theorem q209 : (Jvm.Cond.privateMethod ({ cls := "GOST28147Engine", name := "bytesToint", desc := "([BI)I" } : Jvm.MethodName)) ∈ lw_tbl := lw_at lw_m1 201 rfl
theorem q210 : (Jvm.Cond.instanceMethod ({ cls := "GOST28147Engine", name := "bytesToint", desc := "([BI)I" } : Jvm.MethodName)) ∈ lw_all := lw_g (lw_at lw_m1 202 rfl) rfl
theorem q211 : (Jvm.Cond.code ({ cls := "GOST28147Engine", name := "bytesToint", desc := "([BI)I" } : Jvm.MethodName) prog_4_method_8_code (3 : Nat) (Option.some Jvm.ClassFile.FieldType.int)) ∈ lw_all := lw_g (lw_at lw_m1 203 rfl) rfl
theorem q212 : (Jvm.Cond.constant "GOST28147Engine" (107 : Nat) (-16777216 : Int32)) ∈ lw_all := lw_g (lw_at lw_m1 204 rfl) rfl
theorem q213 : (Jvm.Cond.constant "GOST28147Engine" (108 : Nat) (16711680 : Int32)) ∈ lw_all := lw_g (lw_at lw_m1 205 rfl) rfl
theorem q214 : (Jvm.Cond.constant "GOST28147Engine" (109 : Nat) (65280 : Int32)) ∈ lw_all := lw_g (lw_at lw_m1 206 rfl) rfl
theorem q215 : (Jvm.Cond.stringRef "GOST28147Engine" (68 : Nat) "left out") ∈ lw_tbl := lw_at lw_m1 207 rfl
theorem q220 : (Jvm.Cond.selects "GOST28147Engine" ({ cls := "BlockCipher", name := "processBlock", desc := "([BI[BI)I" } : Jvm.MethodName) ({ cls := "GOST28147Engine", name := "processBlock", desc := "([BI[BI)I" } : Jvm.MethodName)) ∈ lw_all := lw_g (lw_at lw_m1 212 rfl) rfl
theorem q221 : (Jvm.Cond.unhidden "GOST28147Engine" "processBlock" "([BI[BI)I") ∈ lw_tbl := lw_at lw_m1 213 rfl
theorem q222 : (Jvm.Cond.instanceMethod ({ cls := "GOST28147Engine", name := "processBlock", desc := "([BI[BI)I" } : Jvm.MethodName)) ∈ lw_all := lw_g (lw_at lw_m1 214 rfl) rfl
theorem q223 : (Jvm.Cond.publicMethod ({ cls := "GOST28147Engine", name := "processBlock", desc := "([BI[BI)I" } : Jvm.MethodName)) ∈ lw_tbl := lw_at lw_m1 215 rfl
theorem q224 : (Jvm.Cond.code ({ cls := "GOST28147Engine", name := "processBlock", desc := "([BI[BI)I" } : Jvm.MethodName) prog_4_method_4_code (5 : Nat) (Option.some Jvm.ClassFile.FieldType.int)) ∈ lw_all := lw_g (lw_at lw_m1 216 rfl) rfl
theorem q225 : (Jvm.Cond.classLink "GOST28147Engine" (70 : Nat) "java/lang/IllegalStateException") ∈ lw_all := lw_g (lw_at lw_m1 217 rfl) rfl
theorem q234 : (Jvm.Cond.stringRef "GOST28147Engine" (72 : Nat) "GOST28147 engine not initialised") ∈ lw_tbl := lw_at lw_m1 226 rfl
theorem q235 : (Jvm.Cond.methodLink "GOST28147Engine" (74 : Nat) ({ cls := "java/lang/IllegalStateException", name := "<init>", desc := "(Ljava/lang/String;)V" } : Jvm.MethodName)) ∈ lw_all := lw_g (lw_at lw_m1 227 rfl) rfl
theorem q242 : (Jvm.Cond.classLink "GOST28147Engine" (75 : Nat) "DataLengthException") ∈ lw_all := lw_g (lw_at lw_m1 234 rfl) rfl
theorem q252 : (Jvm.Cond.stringRef "GOST28147Engine" (77 : Nat) "input buffer too short") ∈ lw_tbl := lw_at lw_m2 4 rfl
theorem q253 : (Jvm.Cond.methodLink "GOST28147Engine" (79 : Nat) ({ cls := "DataLengthException", name := "<init>", desc := "(Ljava/lang/String;)V" } : Jvm.MethodName)) ∈ lw_all := lw_g (lw_at lw_m2 5 rfl) rfl
theorem q262 : (Jvm.Cond.classLink "GOST28147Engine" (80 : Nat) "OutputLengthException") ∈ lw_all := lw_g (lw_at lw_m2 14 rfl) rfl
theorem q272 : (Jvm.Cond.stringRef "GOST28147Engine" (82 : Nat) "output buffer too short") ∈ lw_tbl := lw_at lw_m2 24 rfl
theorem q273 : (Jvm.Cond.methodLink "GOST28147Engine" (84 : Nat) ({ cls := "OutputLengthException", name := "<init>", desc := "(Ljava/lang/String;)V" } : Jvm.MethodName)) ∈ lw_all := lw_g (lw_at lw_m2 25 rfl) rfl
theorem q279 : (Jvm.Cond.methodLink "GOST28147Engine" (85 : Nat) ({ cls := "GOST28147Engine", name := "GOST28147Func", desc := "([I[BI[BI)V" } : Jvm.MethodName)) ∈ lw_all := lw_g (lw_at lw_m2 31 rfl) rfl
theorem q280 : (Jvm.Cond.privateMethod ({ cls := "GOST28147Engine", name := "GOST28147Func", desc := "([I[BI[BI)V" } : Jvm.MethodName)) ∈ lw_tbl := lw_at lw_m2 32 rfl
theorem q281 : (Jvm.Cond.instanceMethod ({ cls := "GOST28147Engine", name := "GOST28147Func", desc := "([I[BI[BI)V" } : Jvm.MethodName)) ∈ lw_all := lw_g (lw_at lw_m2 33 rfl) rfl
theorem q282 : (Jvm.Cond.code ({ cls := "GOST28147Engine", name := "GOST28147Func", desc := "([I[BI[BI)V" } : Jvm.MethodName) prog_4_method_7_code (11 : Nat) (Option.none : Option Jvm.ClassFile.FieldType)) ∈ lw_all := lw_g (lw_at lw_m2 34 rfl) rfl
theorem q283 : (Jvm.Cond.methodLink "GOST28147Engine" (99 : Nat) ({ cls := "GOST28147Engine", name := "GOST28147_mainStep", desc := "(II)I" } : Jvm.MethodName)) ∈ lw_all := lw_g (lw_at lw_m2 35 rfl) rfl
theorem q284 : (Jvm.Cond.privateMethod ({ cls := "GOST28147Engine", name := "GOST28147_mainStep", desc := "(II)I" } : Jvm.MethodName)) ∈ lw_tbl := lw_at lw_m2 36 rfl
theorem q285 : (Jvm.Cond.instanceMethod ({ cls := "GOST28147Engine", name := "GOST28147_mainStep", desc := "(II)I" } : Jvm.MethodName)) ∈ lw_all := lw_g (lw_at lw_m2 37 rfl) rfl
theorem q286 : (Jvm.Cond.code ({ cls := "GOST28147Engine", name := "GOST28147_mainStep", desc := "(II)I" } : Jvm.MethodName) prog_4_method_6_code (5 : Nat) (Option.some Jvm.ClassFile.FieldType.int)) ∈ lw_all := lw_g (lw_at lw_m2 38 rfl) rfl
theorem q287 : (Jvm.Cond.methodLink "GOST28147Engine" (103 : Nat) ({ cls := "GOST28147Engine", name := "intTobytes", desc := "(I[BI)V" } : Jvm.MethodName)) ∈ lw_all := lw_g (lw_at lw_m2 39 rfl) rfl
theorem q288 : (Jvm.Cond.privateMethod ({ cls := "GOST28147Engine", name := "intTobytes", desc := "(I[BI)V" } : Jvm.MethodName)) ∈ lw_tbl := lw_at lw_m2 40 rfl
theorem q289 : (Jvm.Cond.instanceMethod ({ cls := "GOST28147Engine", name := "intTobytes", desc := "(I[BI)V" } : Jvm.MethodName)) ∈ lw_all := lw_g (lw_at lw_m2 41 rfl) rfl
theorem q290 : (Jvm.Cond.code ({ cls := "GOST28147Engine", name := "intTobytes", desc := "(I[BI)V" } : Jvm.MethodName) prog_4_method_9_code (4 : Nat) (Option.none : Option Jvm.ClassFile.FieldType)) ∈ lw_all := lw_g (lw_at lw_m2 42 rfl) rfl
theorem in_X2 : ∀ w ∈ wsX20, w ∈ lw_all := lw_in wsX20 [75, 77, 79] (by decide +kernel) (by decide +kernel)
/-! KeyParameter -/
set_option maxRecDepth 100000
def RX3 : String := "KeyParameter"
def TX3 : u_T := fun k => match k with
  | _ => ("KeyParameter", "key", "[B", false)
def tyX3 : Nat → FieldType := fun k => match k with
  | _ => .array .byte
abbrev wsX30 : List Cond := u_ws RX3 TX3 1
theorem nmX3 : ∀ a, a < 1 → ∀ b, b < 1 → a ≠ b → (TX3 a).2.1 ≠ (TX3 b).2.1 := by decide +kernel
theorem tyX3_ok : ∀ k, k < 1 → parseFieldDescriptor (TX3 k).2.2.1 = some (tyX3 k) := by decide +kernel
abbrev cX3_init : ByteArray := prog_8_method_1_code
def yX3_init : MethodName := ⟨RX3, "<init>", "([B)V"⟩
def dkwX3_init_0 : List UInt8 := [42, 43, 3, 43, 190, 183, 0, 1, 177]
abbrev dktX3_init_0 : List UInt8 := dkwX3_init_0 ++ []
theorem dksX3_init_0 : cX3_init.data.toList.drop 0 = dktX3_init_0 := by decide +kernel
theorem dX3_init_0 : decode cX3_init 0 = .ok (.aload_n 0, 1) := dk_42 (dk_at dksX3_init_0 0 rfl rfl)
theorem dX3_init_1 : decode cX3_init 1 = .ok (.aload_n 1, 1) := dk_43 (dk_at dksX3_init_0 1 rfl rfl)
theorem dX3_init_2 : decode cX3_init 2 = .ok (.iconst 0, 1) := dk_3 (dk_at dksX3_init_0 2 rfl rfl)
theorem dX3_init_3 : decode cX3_init 3 = .ok (.aload_n 1, 1) := dk_43 (dk_at dksX3_init_0 3 rfl rfl)
theorem dX3_init_4 : decode cX3_init 4 = .ok (.arraylength, 1) := dk_190 (dk_at dksX3_init_0 4 rfl rfl)
theorem dX3_init_5 : decode cX3_init 5 = .ok (.invokespecial 1, 3) := dk_183 0 1 (dk_at dksX3_init_0 5 rfl rfl)
theorem dX3_init_8 : decode cX3_init 8 = .ok (.return_, 1) := dk_177 (dk_at dksX3_init_0 8 rfl rfl)
abbrev cX3_init_2 : ByteArray := prog_8_method_2_code
def yX3_init_2 : MethodName := ⟨RX3, "<init>", "([BII)V"⟩
def dkwX3_init_2_0 : List UInt8 := [42, 29, 183, 0, 7, 43, 28, 42, 180, 0, 10, 3, 29, 184, 0, 14, 177]
abbrev dktX3_init_2_0 : List UInt8 := dkwX3_init_2_0 ++ []
theorem dksX3_init_2_0 : cX3_init_2.data.toList.drop 0 = dktX3_init_2_0 := by decide +kernel
theorem dX3_init_2_0 : decode cX3_init_2 0 = .ok (.aload_n 0, 1) := dk_42 (dk_at dksX3_init_2_0 0 rfl rfl)
theorem dX3_init_2_1 : decode cX3_init_2 1 = .ok (.iload_n 3, 1) := dk_29 (dk_at dksX3_init_2_0 1 rfl rfl)
theorem dX3_init_2_2 : decode cX3_init_2 2 = .ok (.invokespecial 7, 3) := dk_183 0 7 (dk_at dksX3_init_2_0 2 rfl rfl)
theorem dX3_init_2_5 : decode cX3_init_2 5 = .ok (.aload_n 1, 1) := dk_43 (dk_at dksX3_init_2_0 5 rfl rfl)
theorem dX3_init_2_6 : decode cX3_init_2 6 = .ok (.iload_n 2, 1) := dk_28 (dk_at dksX3_init_2_0 6 rfl rfl)
theorem dX3_init_2_7 : decode cX3_init_2 7 = .ok (.aload_n 0, 1) := dk_42 (dk_at dksX3_init_2_0 7 rfl rfl)
theorem dX3_init_2_8 : decode cX3_init_2 8 = .ok (.getfield 10, 3) := dk_180 0 10 (dk_at dksX3_init_2_0 8 rfl rfl)
theorem dX3_init_2_11 : decode cX3_init_2 11 = .ok (.iconst 0, 1) := dk_3 (dk_at dksX3_init_2_0 11 rfl rfl)
theorem dX3_init_2_12 : decode cX3_init_2 12 = .ok (.iload_n 3, 1) := dk_29 (dk_at dksX3_init_2_0 12 rfl rfl)
theorem dX3_init_2_13 : decode cX3_init_2 13 = .ok (.invokestatic 14, 3) := dk_184 0 14 (dk_at dksX3_init_2_0 13 rfl rfl)
theorem dX3_init_2_16 : decode cX3_init_2 16 = .ok (.return_, 1) := dk_177 (dk_at dksX3_init_2_0 16 rfl rfl)
abbrev cX3_init_3 : ByteArray := prog_8_method_3_code
def yX3_init_3 : MethodName := ⟨RX3, "<init>", "(I)V"⟩
def dkwX3_init_3_0 : List UInt8 := [42, 183, 0, 20, 42, 27, 188, 8, 181, 0, 10, 177]
abbrev dktX3_init_3_0 : List UInt8 := dkwX3_init_3_0 ++ []
theorem dksX3_init_3_0 : cX3_init_3.data.toList.drop 0 = dktX3_init_3_0 := by decide +kernel
theorem dX3_init_3_0 : decode cX3_init_3 0 = .ok (.aload_n 0, 1) := dk_42 (dk_at dksX3_init_3_0 0 rfl rfl)
theorem dX3_init_3_1 : decode cX3_init_3 1 = .ok (.invokespecial 20, 3) := dk_183 0 20 (dk_at dksX3_init_3_0 1 rfl rfl)
theorem dX3_init_3_4 : decode cX3_init_3 4 = .ok (.aload_n 0, 1) := dk_42 (dk_at dksX3_init_3_0 4 rfl rfl)
theorem dX3_init_3_5 : decode cX3_init_3 5 = .ok (.iload_n 1, 1) := dk_27 (dk_at dksX3_init_3_0 5 rfl rfl)
theorem dX3_init_3_6 : decode cX3_init_3 6 = .ok (.newarray .byte, 2) := dk_188_8 (dk_at dksX3_init_3_0 6 rfl rfl)
theorem dX3_init_3_8 : decode cX3_init_3 8 = .ok (.putfield 10, 3) := dk_181 0 10 (dk_at dksX3_init_3_0 8 rfl rfl)
theorem dX3_init_3_11 : decode cX3_init_3 11 = .ok (.return_, 1) := dk_177 (dk_at dksX3_init_3_0 11 rfl rfl)
abbrev cX3_getKey : ByteArray := prog_8_method_4_code
def yX3_getKey : MethodName := ⟨RX3, "getKey", "()[B"⟩
theorem dX3_getKey_0 : decode cX3_getKey 0 = .ok (.aload_n 0, 1) := by decide +kernel
theorem dX3_getKey_1 : decode cX3_getKey 1 = .ok (.getfield 10, 3) := by decide +kernel
theorem dX3_getKey_4 : decode cX3_getKey 4 = .ok (.areturn, 1) := by decide +kernel
theorem q12 : (Jvm.Cond.initialized "KeyParameter") ∈ lw_all := lw_g (lw_at lw_m1 4 rfl) rfl
theorem q83 : (Jvm.Cond.instantiable "KeyParameter" (1 : Nat)) ∈ lw_all := lw_g (lw_at lw_m1 75 rfl) rfl
theorem q85 : (Jvm.Cond.instanceMethod ({ cls := "KeyParameter", name := "<init>", desc := "([B)V" } : Jvm.MethodName)) ∈ lw_all := lw_g (lw_at lw_m1 77 rfl) rfl
theorem q86 : (Jvm.Cond.code ({ cls := "KeyParameter", name := "<init>", desc := "([B)V" } : Jvm.MethodName) prog_8_method_1_code (2 : Nat) (Option.none : Option Jvm.ClassFile.FieldType)) ∈ lw_all := lw_g (lw_at lw_m1 78 rfl) rfl
theorem q87 : (Jvm.Cond.methodLink "KeyParameter" (1 : Nat) ({ cls := "KeyParameter", name := "<init>", desc := "([BII)V" } : Jvm.MethodName)) ∈ lw_all := lw_g (lw_at lw_m1 79 rfl) rfl
theorem q88 : (Jvm.Cond.instanceMethod ({ cls := "KeyParameter", name := "<init>", desc := "([BII)V" } : Jvm.MethodName)) ∈ lw_all := lw_g (lw_at lw_m1 80 rfl) rfl
theorem q89 : (Jvm.Cond.code ({ cls := "KeyParameter", name := "<init>", desc := "([BII)V" } : Jvm.MethodName) prog_8_method_2_code (4 : Nat) (Option.none : Option Jvm.ClassFile.FieldType)) ∈ lw_all := lw_g (lw_at lw_m1 81 rfl) rfl
theorem q90 : (Jvm.Cond.methodLink "KeyParameter" (7 : Nat) ({ cls := "KeyParameter", name := "<init>", desc := "(I)V" } : Jvm.MethodName)) ∈ lw_all := lw_g (lw_at lw_m1 82 rfl) rfl
theorem q91 : (Jvm.Cond.instanceMethod ({ cls := "KeyParameter", name := "<init>", desc := "(I)V" } : Jvm.MethodName)) ∈ lw_all := lw_g (lw_at lw_m1 83 rfl) rfl
theorem q92 : (Jvm.Cond.code ({ cls := "KeyParameter", name := "<init>", desc := "(I)V" } : Jvm.MethodName) prog_8_method_3_code (2 : Nat) (Option.none : Option Jvm.ClassFile.FieldType)) ∈ lw_all := lw_g (lw_at lw_m1 84 rfl) rfl
theorem q93 : (Jvm.Cond.methodLink "KeyParameter" (20 : Nat) ({ cls := "java/lang/Object", name := "<init>", desc := "()V" } : Jvm.MethodName)) ∈ lw_all := lw_g (lw_at lw_m1 85 rfl) rfl
theorem q94 : (Jvm.Cond.fieldLink "KeyParameter" (10 : Nat) "KeyParameter" "key" "[B") ∈ lw_all := lw_g (lw_at lw_m1 86 rfl) rfl
theorem q95 : (Jvm.Cond.lays "KeyParameter" "KeyParameter" "key" "[B") ∈ lw_all := lw_g (lw_at lw_m1 87 rfl) rfl
theorem q96 : (Jvm.Cond.soleField "KeyParameter" "key") ∈ lw_all := lw_g (lw_at lw_m1 88 rfl) rfl
theorem q97 : (Jvm.Cond.superclass "KeyParameter" "java/lang/Object") ∈ lw_all := lw_g (lw_at lw_m1 89 rfl) rfl
theorem q98 : (Jvm.Cond.methodLink "KeyParameter" (14 : Nat) ({ cls := "java/lang/System", name := "arraycopy", desc := "(Ljava/lang/Object;ILjava/lang/Object;II)V" } : Jvm.MethodName)) ∈ lw_all := lw_g (lw_at lw_m1 90 rfl) rfl
theorem q200 : (Jvm.Cond.instanceMethod ({ cls := "KeyParameter", name := "getKey", desc := "()[B" } : Jvm.MethodName)) ∈ lw_all := lw_g (lw_at lw_m1 192 rfl) rfl
theorem q201 : (Jvm.Cond.selects "KeyParameter" ({ cls := "KeyParameter", name := "getKey", desc := "()[B" } : Jvm.MethodName) ({ cls := "KeyParameter", name := "getKey", desc := "()[B" } : Jvm.MethodName)) ∈ lw_all := lw_g (lw_at lw_m1 193 rfl) rfl
theorem q202 : (Jvm.Cond.code ({ cls := "KeyParameter", name := "getKey", desc := "()[B" } : Jvm.MethodName) prog_8_method_4_code (1 : Nat) (Option.some (Jvm.ClassFile.FieldType.array Jvm.ClassFile.FieldType.byte))) ∈ lw_all := lw_g (lw_at lw_m1 194 rfl) rfl
theorem in_X3 : ∀ w ∈ wsX30, w ∈ lw_all := lw_in wsX30 [95] (by decide +kernel) (by decide +kernel)
/-! the law's own entry -/
set_option maxRecDepth 100000
abbrev cL_law : ByteArray := code
def dkwL_law_10 : List UInt8 := [3, 172, 132, 3, 6, 167, 255, 31, 4, 172]
abbrev dktL_law_10 : List UInt8 := dkwL_law_10 ++ []
def dkwL_law_9 : List UInt8 := [167, 0, 26, 43, 42, 29, 4, 96, 46, 182, 0, 36, 44, 42, 29, 4, 96, 46, 182, 0, 40, 159, 0, 5]
abbrev dktL_law_9 : List UInt8 := dkwL_law_9 ++ dktL_law_10
def dkwL_law_8 : List UInt8 := [182, 0, 28, 44, 42, 29, 4, 96, 46, 182, 0, 31, 167, 0, 37, 43, 182, 0, 32, 44, 182, 0, 35]
abbrev dktL_law_8 : List UInt8 := dkwL_law_8 ++ dktL_law_9
def dkwL_law_7 : List UInt8 := [96, 46, 182, 0, 23, 44, 42, 29, 4, 96, 46, 182, 0, 27, 167, 0, 58, 43, 42, 29, 4, 96, 46]
abbrev dktL_law_7 : List UInt8 := dkwL_law_7 ++ dktL_law_8
def dkwL_law_6 : List UInt8 := [182, 0, 18, 44, 42, 29, 4, 96, 46, 42, 29, 5, 96, 46, 182, 0, 22, 167, 0, 79, 43, 42, 29, 4]
abbrev dktL_law_6 : List UInt8 := dkwL_law_6 ++ dktL_law_7
def dkwL_law_5 : List UInt8 := [96, 46, 42, 29, 8, 96, 46, 182, 0, 17, 167, 0, 110, 43, 42, 29, 4, 96, 46, 42, 29, 5, 96, 46]
abbrev dktL_law_5 : List UInt8 := dkwL_law_5 ++ dktL_law_6
def dkwL_law_4 : List UInt8 := [96, 46, 182, 0, 13, 44, 42, 29, 4, 96, 46, 42, 29, 5, 96, 46, 42, 29, 6, 96, 46, 42, 29, 7]
abbrev dktL_law_4 : List UInt8 := dkwL_law_4 ++ dktL_law_5
def dkwL_law_3 : List UInt8 := [43, 42, 29, 4, 96, 46, 42, 29, 5, 96, 46, 42, 29, 6, 96, 46, 42, 29, 7, 96, 46, 42, 29, 8]
abbrev dktL_law_3 : List UInt8 := dkwL_law_3 ++ dktL_law_4
def dkwL_law_2 : List UInt8 := [170, 0, 0, 0, 0, 0, 207, 0, 0, 0, 0, 0, 0, 0, 5, 0, 0, 0, 39, 0, 0, 0, 100, 0, 0, 0, 131, 0, 0, 0, 152, 0, 0, 0, 173, 0, 0, 0, 184]
abbrev dktL_law_2 : List UInt8 := dkwL_law_2 ++ dktL_law_3
def dkwL_law_1 : List UInt8 := [163, 0, 222, 42, 29, 46, 16, 7, 126]
abbrev dktL_law_1 : List UInt8 := dkwL_law_1 ++ dktL_law_2
def dkwL_law_0 : List UInt8 := [187, 0, 7, 89, 183, 0, 9, 76, 187, 0, 10, 89, 183, 0, 12, 77, 3, 62, 29, 42, 190, 16, 6, 100]
abbrev dktL_law_0 : List UInt8 := dkwL_law_0 ++ dktL_law_1
theorem dksL_law_0 : cL_law.data.toList.drop 0 = dktL_law_0 := by decide +kernel
theorem dksL_law_1 : cL_law.data.toList.drop 24 = dktL_law_1 := dk_seg dksL_law_0 24 rfl rfl
theorem dksL_law_2 : cL_law.data.toList.drop 33 = dktL_law_2 := dk_seg dksL_law_1 9 rfl rfl
theorem dksL_law_3 : cL_law.data.toList.drop 72 = dktL_law_3 := dk_seg dksL_law_2 39 rfl rfl
theorem dksL_law_4 : cL_law.data.toList.drop 96 = dktL_law_4 := dk_seg dksL_law_3 24 rfl rfl
theorem dksL_law_5 : cL_law.data.toList.drop 120 = dktL_law_5 := dk_seg dksL_law_4 24 rfl rfl
theorem dksL_law_6 : cL_law.data.toList.drop 144 = dktL_law_6 := dk_seg dksL_law_5 24 rfl rfl
theorem dksL_law_7 : cL_law.data.toList.drop 168 = dktL_law_7 := dk_seg dksL_law_6 24 rfl rfl
theorem dksL_law_8 : cL_law.data.toList.drop 191 = dktL_law_8 := dk_seg dksL_law_7 23 rfl rfl
theorem dksL_law_9 : cL_law.data.toList.drop 214 = dktL_law_9 := dk_seg dksL_law_8 23 rfl rfl
theorem dksL_law_10 : cL_law.data.toList.drop 238 = dktL_law_10 := dk_seg dksL_law_9 24 rfl rfl
theorem dL_law_0 : decode cL_law 0 = .ok (.new 7, 3) := dk_187 0 7 (dk_at dksL_law_0 0 rfl rfl)
theorem dL_law_3 : decode cL_law 3 = .ok (.dup, 1) := dk_89 (dk_at dksL_law_0 3 rfl rfl)
theorem dL_law_4 : decode cL_law 4 = .ok (.invokespecial 9, 3) := dk_183 0 9 (dk_at dksL_law_0 4 rfl rfl)
theorem dL_law_7 : decode cL_law 7 = .ok (.astore_n 1, 1) := dk_76 (dk_at dksL_law_0 7 rfl rfl)
theorem dL_law_8 : decode cL_law 8 = .ok (.new 10, 3) := dk_187 0 10 (dk_at dksL_law_0 8 rfl rfl)
theorem dL_law_11 : decode cL_law 11 = .ok (.dup, 1) := dk_89 (dk_at dksL_law_0 11 rfl rfl)
theorem dL_law_12 : decode cL_law 12 = .ok (.invokespecial 12, 3) := dk_183 0 12 (dk_at dksL_law_0 12 rfl rfl)
theorem dL_law_15 : decode cL_law 15 = .ok (.astore_n 2, 1) := dk_77 (dk_at dksL_law_0 15 rfl rfl)
theorem dL_law_16 : decode cL_law 16 = .ok (.iconst 0, 1) := dk_3 (dk_at dksL_law_0 16 rfl rfl)
theorem dL_law_17 : decode cL_law 17 = .ok (.istore_n 3, 1) := dk_62 (dk_at dksL_law_0 17 rfl rfl)
theorem dL_law_18 : decode cL_law 18 = .ok (.iload_n 3, 1) := dk_29 (dk_at dksL_law_0 18 rfl rfl)
theorem dL_law_19 : decode cL_law 19 = .ok (.aload_n 0, 1) := dk_42 (dk_at dksL_law_0 19 rfl rfl)
theorem dL_law_20 : decode cL_law 20 = .ok (.arraylength, 1) := dk_190 (dk_at dksL_law_0 20 rfl rfl)
theorem dL_law_21 : decode cL_law 21 = .ok (.bipush 6, 2) := dk_16 6 (dk_at dksL_law_0 21 rfl rfl)
theorem dL_law_23 : decode cL_law 23 = .ok (.isub, 1) := dk_100 (dk_at dksL_law_0 23 rfl rfl)
theorem dL_law_24 : decode cL_law 24 = .ok (.if_icmp .gt 222, 3) := dk_163 0 222 (dk_at dksL_law_1 0 rfl rfl)
theorem dL_law_27 : decode cL_law 27 = .ok (.aload_n 0, 1) := dk_42 (dk_at dksL_law_1 3 rfl rfl)
theorem dL_law_28 : decode cL_law 28 = .ok (.iload_n 3, 1) := dk_29 (dk_at dksL_law_1 4 rfl rfl)
theorem dL_law_29 : decode cL_law 29 = .ok (.iaload, 1) := dk_46 (dk_at dksL_law_1 5 rfl rfl)
theorem dL_law_30 : decode cL_law 30 = .ok (.bipush 7, 2) := dk_16 7 (dk_at dksL_law_1 6 rfl rfl)
theorem dL_law_32 : decode cL_law 32 = .ok (.iand, 1) := dk_126 (dk_at dksL_law_1 8 rfl rfl)
theorem dL_law_33 : decode cL_law 33 = .ok (.tableswitch 207 0 5 #[39, 100, 131, 152, 173, 184], 39) := by decide +kernel
theorem dL_law_72 : decode cL_law 72 = .ok (.aload_n 1, 1) := dk_43 (dk_at dksL_law_3 0 rfl rfl)
theorem dL_law_73 : decode cL_law 73 = .ok (.aload_n 0, 1) := dk_42 (dk_at dksL_law_3 1 rfl rfl)
theorem dL_law_74 : decode cL_law 74 = .ok (.iload_n 3, 1) := dk_29 (dk_at dksL_law_3 2 rfl rfl)
theorem dL_law_75 : decode cL_law 75 = .ok (.iconst 1, 1) := dk_4 (dk_at dksL_law_3 3 rfl rfl)
theorem dL_law_76 : decode cL_law 76 = .ok (.iadd, 1) := dk_96 (dk_at dksL_law_3 4 rfl rfl)
theorem dL_law_77 : decode cL_law 77 = .ok (.iaload, 1) := dk_46 (dk_at dksL_law_3 5 rfl rfl)
theorem dL_law_78 : decode cL_law 78 = .ok (.aload_n 0, 1) := dk_42 (dk_at dksL_law_3 6 rfl rfl)
theorem dL_law_79 : decode cL_law 79 = .ok (.iload_n 3, 1) := dk_29 (dk_at dksL_law_3 7 rfl rfl)
theorem dL_law_80 : decode cL_law 80 = .ok (.iconst 2, 1) := dk_5 (dk_at dksL_law_3 8 rfl rfl)
theorem dL_law_81 : decode cL_law 81 = .ok (.iadd, 1) := dk_96 (dk_at dksL_law_3 9 rfl rfl)
theorem dL_law_82 : decode cL_law 82 = .ok (.iaload, 1) := dk_46 (dk_at dksL_law_3 10 rfl rfl)
theorem dL_law_83 : decode cL_law 83 = .ok (.aload_n 0, 1) := dk_42 (dk_at dksL_law_3 11 rfl rfl)
theorem dL_law_84 : decode cL_law 84 = .ok (.iload_n 3, 1) := dk_29 (dk_at dksL_law_3 12 rfl rfl)
theorem dL_law_85 : decode cL_law 85 = .ok (.iconst 3, 1) := dk_6 (dk_at dksL_law_3 13 rfl rfl)
theorem dL_law_86 : decode cL_law 86 = .ok (.iadd, 1) := dk_96 (dk_at dksL_law_3 14 rfl rfl)
theorem dL_law_87 : decode cL_law 87 = .ok (.iaload, 1) := dk_46 (dk_at dksL_law_3 15 rfl rfl)
theorem dL_law_88 : decode cL_law 88 = .ok (.aload_n 0, 1) := dk_42 (dk_at dksL_law_3 16 rfl rfl)
theorem dL_law_89 : decode cL_law 89 = .ok (.iload_n 3, 1) := dk_29 (dk_at dksL_law_3 17 rfl rfl)
theorem dL_law_90 : decode cL_law 90 = .ok (.iconst 4, 1) := dk_7 (dk_at dksL_law_3 18 rfl rfl)
theorem dL_law_91 : decode cL_law 91 = .ok (.iadd, 1) := dk_96 (dk_at dksL_law_3 19 rfl rfl)
theorem dL_law_92 : decode cL_law 92 = .ok (.iaload, 1) := dk_46 (dk_at dksL_law_3 20 rfl rfl)
theorem dL_law_93 : decode cL_law 93 = .ok (.aload_n 0, 1) := dk_42 (dk_at dksL_law_3 21 rfl rfl)
theorem dL_law_94 : decode cL_law 94 = .ok (.iload_n 3, 1) := dk_29 (dk_at dksL_law_3 22 rfl rfl)
theorem dL_law_95 : decode cL_law 95 = .ok (.iconst 5, 1) := dk_8 (dk_at dksL_law_3 23 rfl rfl)
theorem dL_law_96 : decode cL_law 96 = .ok (.iadd, 1) := dk_96 (dk_at dksL_law_4 0 rfl rfl)
theorem dL_law_97 : decode cL_law 97 = .ok (.iaload, 1) := dk_46 (dk_at dksL_law_4 1 rfl rfl)
theorem dL_law_98 : decode cL_law 98 = .ok (.invokevirtual 13, 3) := dk_182 0 13 (dk_at dksL_law_4 2 rfl rfl)
theorem dL_law_101 : decode cL_law 101 = .ok (.aload_n 2, 1) := dk_44 (dk_at dksL_law_4 5 rfl rfl)
theorem dL_law_102 : decode cL_law 102 = .ok (.aload_n 0, 1) := dk_42 (dk_at dksL_law_4 6 rfl rfl)
theorem dL_law_103 : decode cL_law 103 = .ok (.iload_n 3, 1) := dk_29 (dk_at dksL_law_4 7 rfl rfl)
theorem dL_law_104 : decode cL_law 104 = .ok (.iconst 1, 1) := dk_4 (dk_at dksL_law_4 8 rfl rfl)
theorem dL_law_105 : decode cL_law 105 = .ok (.iadd, 1) := dk_96 (dk_at dksL_law_4 9 rfl rfl)
theorem dL_law_106 : decode cL_law 106 = .ok (.iaload, 1) := dk_46 (dk_at dksL_law_4 10 rfl rfl)
theorem dL_law_107 : decode cL_law 107 = .ok (.aload_n 0, 1) := dk_42 (dk_at dksL_law_4 11 rfl rfl)
theorem dL_law_108 : decode cL_law 108 = .ok (.iload_n 3, 1) := dk_29 (dk_at dksL_law_4 12 rfl rfl)
theorem dL_law_109 : decode cL_law 109 = .ok (.iconst 2, 1) := dk_5 (dk_at dksL_law_4 13 rfl rfl)
theorem dL_law_110 : decode cL_law 110 = .ok (.iadd, 1) := dk_96 (dk_at dksL_law_4 14 rfl rfl)
theorem dL_law_111 : decode cL_law 111 = .ok (.iaload, 1) := dk_46 (dk_at dksL_law_4 15 rfl rfl)
theorem dL_law_112 : decode cL_law 112 = .ok (.aload_n 0, 1) := dk_42 (dk_at dksL_law_4 16 rfl rfl)
theorem dL_law_113 : decode cL_law 113 = .ok (.iload_n 3, 1) := dk_29 (dk_at dksL_law_4 17 rfl rfl)
theorem dL_law_114 : decode cL_law 114 = .ok (.iconst 3, 1) := dk_6 (dk_at dksL_law_4 18 rfl rfl)
theorem dL_law_115 : decode cL_law 115 = .ok (.iadd, 1) := dk_96 (dk_at dksL_law_4 19 rfl rfl)
theorem dL_law_116 : decode cL_law 116 = .ok (.iaload, 1) := dk_46 (dk_at dksL_law_4 20 rfl rfl)
theorem dL_law_117 : decode cL_law 117 = .ok (.aload_n 0, 1) := dk_42 (dk_at dksL_law_4 21 rfl rfl)
theorem dL_law_118 : decode cL_law 118 = .ok (.iload_n 3, 1) := dk_29 (dk_at dksL_law_4 22 rfl rfl)
theorem dL_law_119 : decode cL_law 119 = .ok (.iconst 4, 1) := dk_7 (dk_at dksL_law_4 23 rfl rfl)
theorem dL_law_120 : decode cL_law 120 = .ok (.iadd, 1) := dk_96 (dk_at dksL_law_5 0 rfl rfl)
theorem dL_law_121 : decode cL_law 121 = .ok (.iaload, 1) := dk_46 (dk_at dksL_law_5 1 rfl rfl)
theorem dL_law_122 : decode cL_law 122 = .ok (.aload_n 0, 1) := dk_42 (dk_at dksL_law_5 2 rfl rfl)
theorem dL_law_123 : decode cL_law 123 = .ok (.iload_n 3, 1) := dk_29 (dk_at dksL_law_5 3 rfl rfl)
theorem dL_law_124 : decode cL_law 124 = .ok (.iconst 5, 1) := dk_8 (dk_at dksL_law_5 4 rfl rfl)
theorem dL_law_125 : decode cL_law 125 = .ok (.iadd, 1) := dk_96 (dk_at dksL_law_5 5 rfl rfl)
theorem dL_law_126 : decode cL_law 126 = .ok (.iaload, 1) := dk_46 (dk_at dksL_law_5 6 rfl rfl)
theorem dL_law_127 : decode cL_law 127 = .ok (.invokevirtual 17, 3) := dk_182 0 17 (dk_at dksL_law_5 7 rfl rfl)
theorem dL_law_130 : decode cL_law 130 = .ok (.goto 110, 3) := dk_167 0 110 (dk_at dksL_law_5 10 rfl rfl)
theorem dL_law_133 : decode cL_law 133 = .ok (.aload_n 1, 1) := dk_43 (dk_at dksL_law_5 13 rfl rfl)
theorem dL_law_134 : decode cL_law 134 = .ok (.aload_n 0, 1) := dk_42 (dk_at dksL_law_5 14 rfl rfl)
theorem dL_law_135 : decode cL_law 135 = .ok (.iload_n 3, 1) := dk_29 (dk_at dksL_law_5 15 rfl rfl)
theorem dL_law_136 : decode cL_law 136 = .ok (.iconst 1, 1) := dk_4 (dk_at dksL_law_5 16 rfl rfl)
theorem dL_law_137 : decode cL_law 137 = .ok (.iadd, 1) := dk_96 (dk_at dksL_law_5 17 rfl rfl)
theorem dL_law_138 : decode cL_law 138 = .ok (.iaload, 1) := dk_46 (dk_at dksL_law_5 18 rfl rfl)
theorem dL_law_139 : decode cL_law 139 = .ok (.aload_n 0, 1) := dk_42 (dk_at dksL_law_5 19 rfl rfl)
theorem dL_law_140 : decode cL_law 140 = .ok (.iload_n 3, 1) := dk_29 (dk_at dksL_law_5 20 rfl rfl)
theorem dL_law_141 : decode cL_law 141 = .ok (.iconst 2, 1) := dk_5 (dk_at dksL_law_5 21 rfl rfl)
theorem dL_law_142 : decode cL_law 142 = .ok (.iadd, 1) := dk_96 (dk_at dksL_law_5 22 rfl rfl)
theorem dL_law_143 : decode cL_law 143 = .ok (.iaload, 1) := dk_46 (dk_at dksL_law_5 23 rfl rfl)
theorem dL_law_144 : decode cL_law 144 = .ok (.invokevirtual 18, 3) := dk_182 0 18 (dk_at dksL_law_6 0 rfl rfl)
theorem dL_law_147 : decode cL_law 147 = .ok (.aload_n 2, 1) := dk_44 (dk_at dksL_law_6 3 rfl rfl)
theorem dL_law_148 : decode cL_law 148 = .ok (.aload_n 0, 1) := dk_42 (dk_at dksL_law_6 4 rfl rfl)
theorem dL_law_149 : decode cL_law 149 = .ok (.iload_n 3, 1) := dk_29 (dk_at dksL_law_6 5 rfl rfl)
theorem dL_law_150 : decode cL_law 150 = .ok (.iconst 1, 1) := dk_4 (dk_at dksL_law_6 6 rfl rfl)
theorem dL_law_151 : decode cL_law 151 = .ok (.iadd, 1) := dk_96 (dk_at dksL_law_6 7 rfl rfl)
theorem dL_law_152 : decode cL_law 152 = .ok (.iaload, 1) := dk_46 (dk_at dksL_law_6 8 rfl rfl)
theorem dL_law_153 : decode cL_law 153 = .ok (.aload_n 0, 1) := dk_42 (dk_at dksL_law_6 9 rfl rfl)
theorem dL_law_154 : decode cL_law 154 = .ok (.iload_n 3, 1) := dk_29 (dk_at dksL_law_6 10 rfl rfl)
theorem dL_law_155 : decode cL_law 155 = .ok (.iconst 2, 1) := dk_5 (dk_at dksL_law_6 11 rfl rfl)
theorem dL_law_156 : decode cL_law 156 = .ok (.iadd, 1) := dk_96 (dk_at dksL_law_6 12 rfl rfl)
theorem dL_law_157 : decode cL_law 157 = .ok (.iaload, 1) := dk_46 (dk_at dksL_law_6 13 rfl rfl)
theorem dL_law_158 : decode cL_law 158 = .ok (.invokevirtual 22, 3) := dk_182 0 22 (dk_at dksL_law_6 14 rfl rfl)
theorem dL_law_161 : decode cL_law 161 = .ok (.goto 79, 3) := dk_167 0 79 (dk_at dksL_law_6 17 rfl rfl)
theorem dL_law_164 : decode cL_law 164 = .ok (.aload_n 1, 1) := dk_43 (dk_at dksL_law_6 20 rfl rfl)
theorem dL_law_165 : decode cL_law 165 = .ok (.aload_n 0, 1) := dk_42 (dk_at dksL_law_6 21 rfl rfl)
theorem dL_law_166 : decode cL_law 166 = .ok (.iload_n 3, 1) := dk_29 (dk_at dksL_law_6 22 rfl rfl)
theorem dL_law_167 : decode cL_law 167 = .ok (.iconst 1, 1) := dk_4 (dk_at dksL_law_6 23 rfl rfl)
theorem dL_law_168 : decode cL_law 168 = .ok (.iadd, 1) := dk_96 (dk_at dksL_law_7 0 rfl rfl)
theorem dL_law_169 : decode cL_law 169 = .ok (.iaload, 1) := dk_46 (dk_at dksL_law_7 1 rfl rfl)
theorem dL_law_170 : decode cL_law 170 = .ok (.invokevirtual 23, 3) := dk_182 0 23 (dk_at dksL_law_7 2 rfl rfl)
theorem dL_law_173 : decode cL_law 173 = .ok (.aload_n 2, 1) := dk_44 (dk_at dksL_law_7 5 rfl rfl)
theorem dL_law_174 : decode cL_law 174 = .ok (.aload_n 0, 1) := dk_42 (dk_at dksL_law_7 6 rfl rfl)
theorem dL_law_175 : decode cL_law 175 = .ok (.iload_n 3, 1) := dk_29 (dk_at dksL_law_7 7 rfl rfl)
theorem dL_law_176 : decode cL_law 176 = .ok (.iconst 1, 1) := dk_4 (dk_at dksL_law_7 8 rfl rfl)
theorem dL_law_177 : decode cL_law 177 = .ok (.iadd, 1) := dk_96 (dk_at dksL_law_7 9 rfl rfl)
theorem dL_law_178 : decode cL_law 178 = .ok (.iaload, 1) := dk_46 (dk_at dksL_law_7 10 rfl rfl)
theorem dL_law_179 : decode cL_law 179 = .ok (.invokevirtual 27, 3) := dk_182 0 27 (dk_at dksL_law_7 11 rfl rfl)
theorem dL_law_182 : decode cL_law 182 = .ok (.goto 58, 3) := dk_167 0 58 (dk_at dksL_law_7 14 rfl rfl)
theorem dL_law_185 : decode cL_law 185 = .ok (.aload_n 1, 1) := dk_43 (dk_at dksL_law_7 17 rfl rfl)
theorem dL_law_186 : decode cL_law 186 = .ok (.aload_n 0, 1) := dk_42 (dk_at dksL_law_7 18 rfl rfl)
theorem dL_law_187 : decode cL_law 187 = .ok (.iload_n 3, 1) := dk_29 (dk_at dksL_law_7 19 rfl rfl)
theorem dL_law_188 : decode cL_law 188 = .ok (.iconst 1, 1) := dk_4 (dk_at dksL_law_7 20 rfl rfl)
theorem dL_law_189 : decode cL_law 189 = .ok (.iadd, 1) := dk_96 (dk_at dksL_law_7 21 rfl rfl)
theorem dL_law_190 : decode cL_law 190 = .ok (.iaload, 1) := dk_46 (dk_at dksL_law_7 22 rfl rfl)
theorem dL_law_191 : decode cL_law 191 = .ok (.invokevirtual 28, 3) := dk_182 0 28 (dk_at dksL_law_8 0 rfl rfl)
theorem dL_law_194 : decode cL_law 194 = .ok (.aload_n 2, 1) := dk_44 (dk_at dksL_law_8 3 rfl rfl)
theorem dL_law_195 : decode cL_law 195 = .ok (.aload_n 0, 1) := dk_42 (dk_at dksL_law_8 4 rfl rfl)
theorem dL_law_196 : decode cL_law 196 = .ok (.iload_n 3, 1) := dk_29 (dk_at dksL_law_8 5 rfl rfl)
theorem dL_law_197 : decode cL_law 197 = .ok (.iconst 1, 1) := dk_4 (dk_at dksL_law_8 6 rfl rfl)
theorem dL_law_198 : decode cL_law 198 = .ok (.iadd, 1) := dk_96 (dk_at dksL_law_8 7 rfl rfl)
theorem dL_law_199 : decode cL_law 199 = .ok (.iaload, 1) := dk_46 (dk_at dksL_law_8 8 rfl rfl)
theorem dL_law_200 : decode cL_law 200 = .ok (.invokevirtual 31, 3) := dk_182 0 31 (dk_at dksL_law_8 9 rfl rfl)
theorem dL_law_203 : decode cL_law 203 = .ok (.goto 37, 3) := dk_167 0 37 (dk_at dksL_law_8 12 rfl rfl)
theorem dL_law_206 : decode cL_law 206 = .ok (.aload_n 1, 1) := dk_43 (dk_at dksL_law_8 15 rfl rfl)
theorem dL_law_207 : decode cL_law 207 = .ok (.invokevirtual 32, 3) := dk_182 0 32 (dk_at dksL_law_8 16 rfl rfl)
theorem dL_law_210 : decode cL_law 210 = .ok (.aload_n 2, 1) := dk_44 (dk_at dksL_law_8 19 rfl rfl)
theorem dL_law_211 : decode cL_law 211 = .ok (.invokevirtual 35, 3) := dk_182 0 35 (dk_at dksL_law_8 20 rfl rfl)
theorem dL_law_214 : decode cL_law 214 = .ok (.goto 26, 3) := dk_167 0 26 (dk_at dksL_law_9 0 rfl rfl)
theorem dL_law_217 : decode cL_law 217 = .ok (.aload_n 1, 1) := dk_43 (dk_at dksL_law_9 3 rfl rfl)
theorem dL_law_218 : decode cL_law 218 = .ok (.aload_n 0, 1) := dk_42 (dk_at dksL_law_9 4 rfl rfl)
theorem dL_law_219 : decode cL_law 219 = .ok (.iload_n 3, 1) := dk_29 (dk_at dksL_law_9 5 rfl rfl)
theorem dL_law_220 : decode cL_law 220 = .ok (.iconst 1, 1) := dk_4 (dk_at dksL_law_9 6 rfl rfl)
theorem dL_law_221 : decode cL_law 221 = .ok (.iadd, 1) := dk_96 (dk_at dksL_law_9 7 rfl rfl)
theorem dL_law_222 : decode cL_law 222 = .ok (.iaload, 1) := dk_46 (dk_at dksL_law_9 8 rfl rfl)
theorem dL_law_223 : decode cL_law 223 = .ok (.invokevirtual 36, 3) := dk_182 0 36 (dk_at dksL_law_9 9 rfl rfl)
theorem dL_law_226 : decode cL_law 226 = .ok (.aload_n 2, 1) := dk_44 (dk_at dksL_law_9 12 rfl rfl)
theorem dL_law_227 : decode cL_law 227 = .ok (.aload_n 0, 1) := dk_42 (dk_at dksL_law_9 13 rfl rfl)
theorem dL_law_228 : decode cL_law 228 = .ok (.iload_n 3, 1) := dk_29 (dk_at dksL_law_9 14 rfl rfl)
theorem dL_law_229 : decode cL_law 229 = .ok (.iconst 1, 1) := dk_4 (dk_at dksL_law_9 15 rfl rfl)
theorem dL_law_230 : decode cL_law 230 = .ok (.iadd, 1) := dk_96 (dk_at dksL_law_9 16 rfl rfl)
theorem dL_law_231 : decode cL_law 231 = .ok (.iaload, 1) := dk_46 (dk_at dksL_law_9 17 rfl rfl)
theorem dL_law_232 : decode cL_law 232 = .ok (.invokevirtual 40, 3) := dk_182 0 40 (dk_at dksL_law_9 18 rfl rfl)
theorem dL_law_235 : decode cL_law 235 = .ok (.if_icmp .eq 5, 3) := dk_159 0 5 (dk_at dksL_law_9 21 rfl rfl)
theorem dL_law_238 : decode cL_law 238 = .ok (.iconst 0, 1) := dk_3 (dk_at dksL_law_10 0 rfl rfl)
theorem dL_law_239 : decode cL_law 239 = .ok (.ireturn, 1) := dk_172 (dk_at dksL_law_10 1 rfl rfl)
theorem dL_law_240 : decode cL_law 240 = .ok (.iinc 3 6, 3) := dk_132 3 6 (dk_at dksL_law_10 2 rfl rfl)
theorem dL_law_243 : decode cL_law 243 = .ok (.goto (-225), 3) := dk_167 255 31 (dk_at dksL_law_10 5 rfl rfl)
theorem dL_law_246 : decode cL_law 246 = .ok (.iconst 1, 1) := dk_4 (dk_at dksL_law_10 8 rfl rfl)
theorem dL_law_247 : decode cL_law 247 = .ok (.ireturn, 1) := dk_172 (dk_at dksL_law_10 9 rfl rfl)
theorem q103 : (Jvm.Cond.interfaceMethod "BlockCipher" "BlockCipher" "init" "(ZLCipherParameters;)V") ∈ lw_tbl := lw_at lw_m1 95 rfl
set_option maxRecDepth 100000
theorem q104 : (Jvm.Cond.declares ({ cls := "BlockCipher", name := "init", desc := "(ZLCipherParameters;)V" } : Jvm.MethodName)) ∈ lw_tbl := lw_at lw_m1 96 rfl
theorem q218 : (Jvm.Cond.interfaceMethod "BlockCipher" "BlockCipher" "processBlock" "([BI[BI)I") ∈ lw_tbl := lw_at lw_m1 210 rfl
theorem q219 : (Jvm.Cond.declares ({ cls := "BlockCipher", name := "processBlock", desc := "([BI[BI)I" } : Jvm.MethodName)) ∈ lw_tbl := lw_at lw_m1 211 rfl
theorem q8 : (Jvm.Cond.initialized "GostDeskLaw") ∈ lw_all := lw_g (lw_at lw_m1 0 rfl) rfl
set_option maxRecDepth 100000
theorem q23 : (Jvm.Cond.classLink "GostDeskLaw" (7 : Nat) "GostDesk") ∈ lw_all := lw_g (lw_at lw_m1 15 rfl) rfl
theorem q25 : (Jvm.Cond.methodLink "GostDeskLaw" (9 : Nat) ({ cls := "GostDesk", name := "<init>", desc := "()V" } : Jvm.MethodName)) ∈ lw_all := lw_g (lw_at lw_m1 17 rfl) rfl
theorem q42 : (Jvm.Cond.methodLink "GostDeskLaw" (13 : Nat) ({ cls := "GostDesk", name := "key", desc := "(IIIII)V" } : Jvm.MethodName)) ∈ lw_all := lw_g (lw_at lw_m1 34 rfl) rfl
theorem q49 : (Jvm.Cond.methodLink "GostDeskLaw" (18 : Nat) ({ cls := "GostDesk", name := "block", desc := "(II)V" } : Jvm.MethodName)) ∈ lw_all := lw_g (lw_at lw_m1 41 rfl) rfl
theorem q53 : (Jvm.Cond.methodLink "GostDeskLaw" (23 : Nat) ({ cls := "GostDesk", name := "lock", desc := "(I)V" } : Jvm.MethodName)) ∈ lw_all := lw_g (lw_at lw_m1 45 rfl) rfl
theorem q291 : (Jvm.Cond.methodLink "GostDeskLaw" (28 : Nat) ({ cls := "GostDesk", name := "open", desc := "(I)V" } : Jvm.MethodName)) ∈ lw_all := lw_g (lw_at lw_m2 43 rfl) rfl
theorem q295 : (Jvm.Cond.methodLink "GostDeskLaw" (32 : Nat) ({ cls := "GostDesk", name := "again", desc := "()V" } : Jvm.MethodName)) ∈ lw_all := lw_g (lw_at lw_m2 47 rfl) rfl
theorem q299 : (Jvm.Cond.methodLink "GostDeskLaw" (36 : Nat) ({ cls := "GostDesk", name := "out", desc := "(I)I" } : Jvm.MethodName)) ∈ lw_all := lw_g (lw_at lw_m2 51 rfl) rfl
theorem q303 : (Jvm.Cond.classLink "GostDeskLaw" (10 : Nat) "GostDeskModel") ∈ lw_all := lw_g (lw_at lw_m2 55 rfl) rfl
theorem q305 : (Jvm.Cond.methodLink "GostDeskLaw" (12 : Nat) ({ cls := "GostDeskModel", name := "<init>", desc := "()V" } : Jvm.MethodName)) ∈ lw_all := lw_g (lw_at lw_m2 57 rfl) rfl
theorem q319 : (Jvm.Cond.methodLink "GostDeskLaw" (17 : Nat) ({ cls := "GostDeskModel", name := "key", desc := "(IIIII)V" } : Jvm.MethodName)) ∈ lw_all := lw_g (lw_at lw_m2 71 rfl) rfl
theorem q326 : (Jvm.Cond.methodLink "GostDeskLaw" (22 : Nat) ({ cls := "GostDeskModel", name := "block", desc := "(II)V" } : Jvm.MethodName)) ∈ lw_all := lw_g (lw_at lw_m2 78 rfl) rfl
theorem q330 : (Jvm.Cond.methodLink "GostDeskLaw" (27 : Nat) ({ cls := "GostDeskModel", name := "lock", desc := "(I)V" } : Jvm.MethodName)) ∈ lw_all := lw_g (lw_at lw_m2 82 rfl) rfl
theorem q349 : (Jvm.Cond.methodLink "GostDeskLaw" (31 : Nat) ({ cls := "GostDeskModel", name := "open", desc := "(I)V" } : Jvm.MethodName)) ∈ lw_all := lw_g (lw_at lw_m2 101 rfl) rfl
theorem q353 : (Jvm.Cond.methodLink "GostDeskLaw" (35 : Nat) ({ cls := "GostDeskModel", name := "again", desc := "()V" } : Jvm.MethodName)) ∈ lw_all := lw_g (lw_at lw_m2 105 rfl) rfl
theorem q357 : (Jvm.Cond.methodLink "GostDeskLaw" (40 : Nat) ({ cls := "GostDeskModel", name := "out", desc := "(I)I" } : Jvm.MethodName)) ∈ lw_all := lw_g (lw_at lw_m2 109 rfl) rfl
theorem q13 : (Jvm.Cond.initialized "java/lang/System") ∈ lw_all := lw_g (lw_at lw_m1 5 rfl) rfl
set_option maxRecDepth 100000
theorem q99 : (Jvm.Cond.static ({ cls := "java/lang/System", name := "arraycopy", desc := "(Ljava/lang/Object;ILjava/lang/Object;II)V" } : Jvm.MethodName)) ∈ lw_all := lw_g (lw_at lw_m1 91 rfl) rfl
theorem q100 : (Jvm.Cond.native ({ cls := "java/lang/System", name := "arraycopy", desc := "(Ljava/lang/Object;ILjava/lang/Object;II)V" } : Jvm.MethodName)) ∈ lw_all := lw_g (lw_at lw_m1 92 rfl) rfl
theorem q41 : (Jvm.Cond.arrayClass Jvm.ClassFile.FieldType.byte) ∈ lw_all := lw_g (lw_at lw_m1 33 rfl) rfl
set_option maxRecDepth 100000
theorem q241 : (Jvm.Cond.arrayClass Jvm.ClassFile.FieldType.int) ∈ lw_all := lw_g (lw_at lw_m1 233 rfl) rfl
end
section
/-! ===== Int32 by its bits: bt x i ===== -/
def bt (x : Int32) (i : Nat) : Bool := x.toBitVec.getLsbD i
theorem b_ext {x y : Int32} (h : ∀ i, i < 32 → bt x i = bt y i) : x = y := Int32.toBitVec_inj.mp (BitVec.eq_of_getLsbD_eq (fun i hi => h i hi))
theorem b_or (x y : Int32) (i : Nat) : bt (x ||| y) i = (bt x i || bt y i) := by unfold bt; rw [Int32.toBitVec_or, BitVec.getLsbD_or]
theorem b_and (x y : Int32) (i : Nat) : bt (x &&& y) i = (bt x i && bt y i) := by unfold bt; rw [Int32.toBitVec_and, BitVec.getLsbD_and]
theorem b_xor (x y : Int32) (i : Nat) : bt (x ^^^ y) i = (bt x i ^^ bt y i) := by unfold bt; rw [Int32.toBitVec_xor, BitVec.getLsbD_xor]
theorem b_big {x : Int32} {i : Nat} (h : 32 ≤ i) : bt x i = false := BitVec.getLsbD_of_ge _ _ h
theorem b_255 (i : Nat) : bt 255 i = decide (i < 8) := by
  rcases Nat.lt_or_ge i 32 with h | h
  · exact (by decide +kernel : ∀ i, i < 32 → bt 255 i = decide (i < 8)) i h
  · rw [b_big h, decide_eq_false (by omega)]
theorem b_65535 (i : Nat) : bt 65535 i = decide (i < 16) := by
  rcases Nat.lt_or_ge i 32 with h | h
  · exact (by decide +kernel : ∀ i, i < 32 → bt 65535 i = decide (i < 16)) i h
  · rw [b_big h, decide_eq_false (by omega)]
theorem b_m1 : ∀ i, i < 32 → bt (-1) i = true := by decide +kernel
theorem b_0 (i : Nat) : bt 0 i = false := BitVec.getLsbD_zero
theorem s_l : ∀ n, n < 32 → ((nI n &&& 31).toBitVec.smod 32).toNat = n := by decide +kernel
theorem s_u : ∀ n, n < 32 → (((nI n).toUInt32 &&& Int32.toUInt32 31).toBitVec % 32).toNat = n := by decide +kernel
theorem b_shl (n : Nat) (hn : n < 32) (x : Int32) {i : Nat} (hi : i < 32) : bt (x <<< (nI n &&& 31)) i = (decide (n ≤ i) && bt x (i - n)) := by
  unfold bt
  rw [Int32.toBitVec_shiftLeft]
  show (x.toBitVec <<< ((nI n &&& 31).toBitVec.smod 32).toNat).getLsbD i = _
  rw [s_l n hn, BitVec.getLsbD_shiftLeft]
  rcases Nat.lt_or_ge i n with h | h
  · simp [h, Nat.not_le.mpr h]
  · simp [hi, h, Nat.not_lt.mpr h]
theorem b_ushr (n : Nat) (hn : n < 32) (x : Int32) (i : Nat) : bt ((x.toUInt32 >>> ((nI n).toUInt32 &&& Int32.toUInt32 31)).toInt32) i = bt x (n + i) := by
  show (x.toUInt32 >>> ((nI n).toUInt32 &&& Int32.toUInt32 31)).toBitVec.getLsbD i = x.toUInt32.toBitVec.getLsbD (n + i)
  rw [UInt32.toBitVec_shiftRight]
  show (x.toUInt32.toBitVec >>> (((nI n).toUInt32 &&& Int32.toUInt32 31).toBitVec % 32).toNat).getLsbD i = _
  rw [s_u n hn, BitVec.getLsbD_ushiftRight]
theorem b_sshr (n : Nat) (hn : n < 32) (x : Int32) {i : Nat} (hi : i < 32) : bt (x >>> (nI n &&& 31)) i = if n + i < 32 then bt x (n + i) else bt x 31 := by
  unfold bt
  rw [Int32.toBitVec_shiftRight]
  show (x.toBitVec.sshiftRight ((nI n &&& 31).toBitVec.smod 32).toNat).getLsbD i = _
  rw [s_l n hn, BitVec.getLsbD_sshiftRight, BitVec.msb_eq_getLsbD_last]
  simp [hi]
theorem b_shl8 (x : Int32) {i : Nat} (hi : i < 32) : bt (x <<< ((8 : Int32) &&& 31)) i = (decide (8 ≤ i) && bt x (i - 8)) := b_shl 8 (by omega) x hi
theorem b_shl16 (x : Int32) {i : Nat} (hi : i < 32) : bt (x <<< ((16 : Int32) &&& 31)) i = (decide (16 ≤ i) && bt x (i - 16)) := b_shl 16 (by omega) x hi
theorem b_shl24 (x : Int32) {i : Nat} (hi : i < 32) : bt (x <<< ((24 : Int32) &&& 31)) i = (decide (24 ≤ i) && bt x (i - 24)) := b_shl 24 (by omega) x hi
theorem b_sshr8 (x : Int32) {i : Nat} (hi : i < 32) : bt (x >>> ((8 : Int32) &&& 31)) i = if 8 + i < 32 then bt x (8 + i) else bt x 31 := b_sshr 8 (by omega) x hi
theorem nx_and (a b : Nat) : nI a &&& nI b = nI (a &&& b) := by
  apply Int32.toBitVec_inj.1
  show BitVec.ofNat 32 a &&& BitVec.ofNat 32 b = BitVec.ofNat 32 (a &&& b)
  apply BitVec.eq_of_getLsbD_eq
  intro i hi
  simp [hi]
theorem nx_xor (a b : Nat) : nI a ^^^ nI b = nI (a ^^^ b) := by
  apply Int32.toBitVec_inj.1
  show BitVec.ofNat 32 a ^^^ BitVec.ofNat 32 b = BitVec.ofNat 32 (a ^^^ b)
  apply BitVec.eq_of_getLsbD_eq
  intro i hi
  simp [hi]
theorem bp_b (x : Int32) : x.toInt8.toInt32 &&& 255 = x &&& 255 := by
  apply Int32.toBitVec_inj.mp
  rw [Int32.toBitVec_and, Int32.toBitVec_and, Int8.toBitVec_toInt32, Int32.toBitVec_toInt8]
  apply BitVec.eq_of_getLsbD_eq
  intro i hi
  rw [BitVec.getLsbD_and, BitVec.getLsbD_and]
  have hm : ∀ i < 32, 8 ≤ i → (255 : Int32).toBitVec.getLsbD i = false := by decide
  rcases Nat.lt_or_ge i 8 with z | z
  · rw [BitVec.getLsbD_signExtend, BitVec.getLsbD_signExtend, if_pos z, if_pos hi]
    simp only [z, hi, decide_true, Bool.true_and]
  · rw [hm i hi z]; simp
/-! ===== the cipher in numbers ===== -/
/-- the unsigned right turn of the machine, as its row writes it -/
abbrev gUshr (x y : Int32) : Int32 := (x.toUInt32 >>> (y.toUInt32 &&& Int32.toUInt32 31)).toInt32
/-- a byte of memory, as a store writes it -/
abbrev gB8 (x : Int32) : Int32 := vp_nar .byte x
theorem g_of (x : Int32) : x = nI x.toBitVec.toNat := by
  apply Int32.toBitVec_inj.1
  show x.toBitVec = BitVec.ofNat 32 x.toBitVec.toNat
  simp
theorem g_or (a b : Nat) : nI a ||| nI b = nI (a ||| b) := by
  apply Int32.toBitVec_inj.1
  show BitVec.ofNat 32 a ||| BitVec.ofNat 32 b = BitVec.ofNat 32 (a ||| b)
  apply BitVec.eq_of_getLsbD_eq
  intro i hi
  simp [hi]
/-- the four bits of x at place i -/
def gNib (x : Int32) (i : Nat) : Nat := x.toBitVec.toNat / 2 ^ (4 * i) % 16
theorem gNib_lt (x : Int32) (i : Nat) : gNib x i < 16 := Nat.mod_lt _ (by omega)
def gTab : List Nat := [4, 10, 9, 2, 13, 8, 0, 14, 6, 11, 1, 12, 7, 15, 5, 3,
        14, 11, 4, 12, 6, 13, 15, 10, 2, 3, 8, 1, 0, 7, 5, 9,
        5, 8, 1, 13, 10, 3, 4, 2, 14, 15, 12, 7, 6, 0, 9, 11,
        7, 13, 10, 1, 0, 8, 9, 15, 14, 4, 6, 12, 11, 2, 5, 3,
        6, 12, 7, 1, 5, 15, 13, 8, 4, 10, 9, 14, 0, 3, 11, 2,
        4, 11, 10, 0, 7, 2, 1, 13, 3, 6, 8, 5, 9, 12, 15, 14,
        13, 11, 4, 1, 3, 15, 5, 9, 0, 10, 14, 7, 6, 8, 2, 12,
        1, 15, 13, 0, 5, 7, 10, 4, 9, 2, 3, 14, 6, 11, 8, 12]
def gS (k : Nat) : Nat := gTab.getD k 0
/-- the table as a cell of the machine holds it -/
def gTv (k : Nat) : Value := .int (nI (gS k))
theorem gS_lt (k : Nat) : gS k < 16 := by
  unfold gS
  rw [List.getD_eq_getElem?_getD]
  cases h : gTab[k]? with
  | none => exact (by decide)
  | some v => exact (by decide +kernel : ∀ w ∈ gTab, w < 16) v (List.mem_of_getElem? h)
def gSum (x : Int32) : Nat → Nat
  | 0 => 0
  | i + 1 => gSum x i + gS (16 * i + gNib x i) * 2 ^ (4 * i)
theorem gSum_lt (x : Int32) : ∀ i, gSum x i < 2 ^ (4 * i)
  | 0 => by show 0 < 1; omega
  | i + 1 => by
    have h := gSum_lt x i
    have h2 := gS_lt (16 * i + gNib x i)
    show gSum x i + gS (16 * i + gNib x i) * 2 ^ (4 * i) < 2 ^ (4 * (i + 1))
    rw [show 4 * (i + 1) = 4 * i + 4 by omega, Nat.pow_add]
    have h3 : gS (16 * i + gNib x i) * 2 ^ (4 * i) ≤ 15 * 2 ^ (4 * i) := Nat.mul_le_mul_right _ (by omega)
    omega
/-- the turn to the left by eleven places, as the rows write it -/
def gRot (r : Int32) : Int32 := (r <<< ((11 : Int32) &&& 31)) ||| gUshr r 21
def gMix (x : Int32) : Int32 := gRot (nI (gSum x 8))
theorem g_15 (x : Int32) : x &&& 15 = nI (x.toBitVec.toNat % 16) := pk_and x 4 rfl
theorem g_sm (k : Nat) (hk : k < 32) : ((nI k &&& 31).toBitVec.smod 32).toNat = k := s_l k hk
/-- the signed and the unsigned turn agree below -/
theorem g_sshr (x : Int32) (k : Nat) (hk : k + 4 ≤ 32) : (x >>> (nI k &&& 31)) &&& 15 = gUshr x (nI k) &&& 15 := by
  have h15 : ∀ i, i < 32 → bt 15 i = decide (i < 4) := by decide +kernel
  apply b_ext
  intro i hi
  rw [b_and, b_and, h15 i hi, b_sshr k (by omega) x hi, b_ushr k (by omega)]
  by_cases h : i < 4
  · rw [if_pos (by omega)]
  · simp [h]
theorem g_ushr15 (x : Int32) (i : Nat) (hi : i < 8) : gUshr x (nI (4 * i)) &&& 15 = nI (gNib x i) := by
  rw [g_15, pk_ushr x (nI (4 * i)) (4 * i) (s_u (4 * i) (by omega))]
  rfl
theorem g_ix (x : Int32) (i : Nat) (hi : i < 8) : nI (16 * i) + ((x >>> (nI (4 * i) &&& 31)) &&& 15) = nI (16 * i + gNib x i) := by
  rw [g_sshr x (4 * i) (by omega), g_ushr15 x i hi, nI_add]
theorem g_ix_lt (x : Int32) (i : Nat) (hi : i < 8) : 16 * i + gNib x i < 128 := by
  have h := gNib_lt x i
  omega
theorem g_shl (i v : Nat) (hi : i < 8) (hv : v < 16) : nI v <<< (nI (4 * i) &&& 31) = nI (v * 2 ^ (4 * i)) := by
  refine pk_shlN (nI (4 * i) &&& 31) (4 * i) (g_sm (4 * i) (by omega)) ?_
  have h1 : 2 ^ (4 * i) ≤ 2 ^ 28 := Nat.pow_le_pow_right (by omega) (by omega)
  have h2 : v * 2 ^ (4 * i) ≤ 15 * 2 ^ 28 := Nat.mul_le_mul (by omega) h1
  omega
theorem g_acc (x : Int32) (i : Nat) (hi : i < 8) : nI (gSum x i) + (nI (gS (16 * i + gNib x i)) <<< (nI (4 * i) &&& 31)) = nI (gSum x (i + 1)) := by
  rw [g_shl i _ hi (gS_lt _), nI_add]
  rfl
theorem g_acc0 (x : Int32) : nI (gS (16 * 0 + gNib x 0)) <<< (nI (4 * 0) &&& 31) = nI (gSum x 1) := by
  rw [g_shl 0 _ (by omega) (gS_lt _)]
  exact congrArg nI (Nat.zero_add _).symm
theorem g_acco (x : Int32) (i : Nat) (hi : i < 8) : nI (gSum x i) ||| (nI (gS (16 * i + gNib x i)) <<< (nI (4 * i) &&& 31)) = nI (gSum x (i + 1)) := by
  rw [g_shl i _ hi (gS_lt _), g_or]
  congr 1
  show _ = gSum x i + gS (16 * i + gNib x i) * 2 ^ (4 * i)
  have h := Nat.two_pow_add_eq_or_of_lt (gSum_lt x i) (gS (16 * i + gNib x i))
  rw [Nat.or_comm, Nat.mul_comm, ← h]
  rw [Nat.mul_comm]
  omega
/-! ===== words out of bytes ===== -/
def gW (f : Nat → Int32) (a : Nat) : Int32 := ((f a ||| (f (a + 1) <<< ((8 : Int32) &&& 31))) ||| (f (a + 2) <<< ((16 : Int32) &&& 31))) ||| (f (a + 3) <<< ((24 : Int32) &&& 31))
def gWe (f : Nat → Int32) (a : Nat) : Int32 := ((((f (a + 3) <<< ((24 : Int32) &&& 31)) &&& (-16777216)) + ((f (a + 2) <<< ((16 : Int32) &&& 31)) &&& 16711680)) + ((f (a + 1) <<< ((8 : Int32) &&& 31)) &&& 65280)) + (f a &&& 255)
theorem g_addor {x y : Int32} (h : ∀ i, i < 32 → (bt x i && bt y i) = false) : x + y = x ||| y := by
  apply Int32.toBitVec_inj.1
  rw [Int32.toBitVec_add, Int32.toBitVec_or]
  refine BitVec.add_eq_or_of_and_eq_zero _ _ ?_
  apply BitVec.eq_of_getLsbD_eq
  intro i hi
  rw [BitVec.getLsbD_and, BitVec.getLsbD_zero]
  exact h i hi
theorem g_c24 : ∀ i, i < 32 → bt (-16777216) i = decide (24 ≤ i) := by decide +kernel
theorem g_c16 : ∀ i, i < 32 → bt 16711680 i = decide (16 ≤ i ∧ i < 24) := by decide +kernel
theorem g_c8 : ∀ i, i < 32 → bt 65280 i = decide (8 ≤ i ∧ i < 16) := by decide +kernel
theorem g_We {f g : Nat → Int32} {a : Nat} (h0 : g a = f a &&& 255) (h1 : g (a + 1) = f (a + 1) &&& 255) (h2 : g (a + 2) = f (a + 2) &&& 255) (h3 : g (a + 3) = f (a + 3) &&& 255) : gWe f a = gW g a := by
  unfold gWe gW
  rw [h0, h1, h2, h3]
  generalize f a = x0
  generalize f (a + 1) = x1
  generalize f (a + 2) = x2
  generalize f (a + 3) = x3
  have e1 : ((x3 <<< ((24 : Int32) &&& 31)) &&& (-16777216)) + ((x2 <<< ((16 : Int32) &&& 31)) &&& 16711680) = ((x3 <<< ((24 : Int32) &&& 31)) &&& (-16777216)) ||| ((x2 <<< ((16 : Int32) &&& 31)) &&& 16711680) := by
    refine g_addor fun i hi => ?_
    rw [b_and, b_and, g_c24 i hi, g_c16 i hi]
    by_cases h : 24 ≤ i
    · rw [decide_eq_false (show ¬ (16 ≤ i ∧ i < 24) by omega)]; simp
    · rw [decide_eq_false h]; simp
  rw [e1]
  have e2 : (((x3 <<< ((24 : Int32) &&& 31)) &&& (-16777216)) ||| ((x2 <<< ((16 : Int32) &&& 31)) &&& 16711680)) + ((x1 <<< ((8 : Int32) &&& 31)) &&& 65280) = (((x3 <<< ((24 : Int32) &&& 31)) &&& (-16777216)) ||| ((x2 <<< ((16 : Int32) &&& 31)) &&& 16711680)) ||| ((x1 <<< ((8 : Int32) &&& 31)) &&& 65280) := by
    refine g_addor fun i hi => ?_
    rw [b_or, b_and, b_and, b_and, g_c24 i hi, g_c16 i hi, g_c8 i hi]
    by_cases h : 16 ≤ i
    · rw [decide_eq_false (show ¬ (8 ≤ i ∧ i < 16) by omega)]; simp
    · rw [decide_eq_false (show ¬ (16 ≤ i ∧ i < 24) by omega), decide_eq_false (show ¬ 24 ≤ i by omega)]; simp
  rw [e2]
  have e3 : ((((x3 <<< ((24 : Int32) &&& 31)) &&& (-16777216)) ||| ((x2 <<< ((16 : Int32) &&& 31)) &&& 16711680)) ||| ((x1 <<< ((8 : Int32) &&& 31)) &&& 65280)) + (x0 &&& 255) = ((((x3 <<< ((24 : Int32) &&& 31)) &&& (-16777216)) ||| ((x2 <<< ((16 : Int32) &&& 31)) &&& 16711680)) ||| ((x1 <<< ((8 : Int32) &&& 31)) &&& 65280)) ||| (x0 &&& 255) := by
    refine g_addor fun i hi => ?_
    rw [b_or, b_or, b_and, b_and, b_and, b_and, g_c24 i hi, g_c16 i hi, g_c8 i hi, b_255]
    by_cases h : 8 ≤ i
    · rw [decide_eq_false (show ¬ i < 8 by omega)]; simp
    · rw [decide_eq_false (show ¬ (16 ≤ i ∧ i < 24) by omega), decide_eq_false (show ¬ 24 ≤ i by omega), decide_eq_false (show ¬ (8 ≤ i ∧ i < 16) by omega)]; simp
  rw [e3]
  apply b_ext
  intro i hi
  simp only [b_or, b_and, g_c24 i hi, g_c16 i hi, g_c8 i hi, b_255, b_shl8 _ hi, b_shl16 _ hi, b_shl24 _ hi]
  rcases Nat.lt_or_ge i 8 with h | h
  · have a1 : ¬ 24 ≤ i := by omega
    have a2 : ¬ 16 ≤ i := by omega
    have a3 : ¬ 8 ≤ i := by omega
    simp [a1, a2, a3, h]
  · rcases Nat.lt_or_ge i 16 with h2 | h2
    · have a1 : ¬ 24 ≤ i := by omega
      have a2 : ¬ 16 ≤ i := by omega
      have a3 : ¬ i < 8 := by omega
      have a4 : i - 8 < 8 := by omega
      simp [a1, a2, a3, a4, h, h2]
    · rcases Nat.lt_or_ge i 24 with h3 | h3
      · have a1 : ¬ 24 ≤ i := by omega
        have a2 : ¬ i < 16 := by omega
        have a3 : ¬ i < 8 := by omega
        have a4 : i - 16 < 8 := by omega
        have a5 : ¬ i - 8 < 8 := by omega
        simp [a1, a2, a3, a4, a5, h, h2, h3]
      · have a1 : ¬ i < 24 := by omega
        have a2 : ¬ i < 16 := by omega
        have a3 : ¬ i < 8 := by omega
        have a4 : i - 24 < 8 := by omega
        have a5 : ¬ i - 8 < 8 := by omega
        have a6 : ¬ i - 16 < 8 := by omega
        simp [a1, a2, a3, a4, a5, a6, h, h2, h3]
/-! ===== bytes out of words ===== -/
theorem g_nar (x : Int32) : gB8 x &&& 255 = x &&& 255 := by
  show vp_nar .byte x &&& 255 = _
  rw [vp_nar_byte, bp_b]
theorem g_fit (x : Int32) : fits .byte (.int (gB8 x)) = true := by
  show fits .byte (.int (vp_nar .byte x)) = true
  rw [vp_nar_byte]
  exact pk_fb x
theorem g_i2b (x : Int32) : gB8 x.toInt8.toInt32 &&& 255 = x &&& 255 := by rw [g_nar, bp_b]
theorem g_sb (x : Int32) (k : Nat) (hk : k + 8 ≤ 32) : (x >>> (nI k &&& 31)) &&& 255 = gUshr x (nI k) &&& 255 := by
  apply b_ext
  intro i hi
  rw [b_and, b_and, b_255, b_sshr k (by omega) x hi, b_ushr k (by omega)]
  by_cases h : i < 8
  · rw [if_pos (by omega)]
  · simp [h]
/-- a word laid into memory: the class's way (bytes with a sign) and the reference's (0 .. 255) -/
def gPut (f : Nat → Int32) (i : Nat) (w : Int32) : Nat → Int32 := upd (upd (upd (upd f i (gB8 (w >>> ((24 : Int32) &&& 31)).toInt8.toInt32)) (i + 1) (gB8 (w >>> ((16 : Int32) &&& 31)).toInt8.toInt32)) (i + 2) (gB8 (w >>> ((8 : Int32) &&& 31)).toInt8.toInt32)) (i + 3) (gB8 w.toInt8.toInt32)
def gLay (f : Nat → Int32) (i : Nat) (w : Int32) : Nat → Int32 := upd (upd (upd (upd f i (gUshr w 24 &&& 255)) (i + 1) (gUshr w 16 &&& 255)) (i + 2) (gUshr w 8 &&& 255)) (i + 3) (w &&& 255)
/-- the class's memory f and the reference's g -/
def gR (n : Nat) (f g : Nat → Int32) : Prop := ∀ j, j < n → g j = f j &&& 255
theorem gR_upd {n : Nat} {f g : Nat → Int32} (h : gR n f g) (k : Nat) {x y : Int32} (e : y = x &&& 255) : gR n (upd f k x) (upd g k y) := by
  intro j hj
  unfold upd
  by_cases q : j = k
  · rw [if_pos q, if_pos q]; exact e
  · rw [if_neg q, if_neg q]; exact h j hj
theorem gR_put {n : Nat} {f g : Nat → Int32} (h : gR n f g) (i : Nat) (w : Int32) : gR n (gPut f i w) (gLay g i w) := by
  refine gR_upd (gR_upd (gR_upd (gR_upd h i ?_) (i + 1) ?_) (i + 2) ?_) (i + 3) ?_
  · rw [g_i2b]; exact (g_sb w 24 (by omega)).symm
  · rw [g_i2b]; exact (g_sb w 16 (by omega)).symm
  · rw [g_i2b]; exact (g_sb w 8 (by omega)).symm
  · rw [g_i2b]
def gPut4 (f : Nat → Int32) (i : Nat) (a b c d : Int32) : Nat → Int32 := gPut (gPut (gPut (gPut f i a) (i + 4) b) (i + 8) c) (i + 12) d
def gLay4 (f : Nat → Int32) (i : Nat) (a b c d : Int32) : Nat → Int32 := gLay (gLay (gLay (gLay f i a) (i + 4) b) (i + 8) c) (i + 12) d
theorem gR_put4 {n : Nat} {f g : Nat → Int32} (h : gR n f g) (i : Nat) (a b c d : Int32) : gR n (gPut4 f i a b c d) (gLay4 g i a b c d) := gR_put (gR_put (gR_put (gR_put h _ _) _ _) _ _) _ _
theorem gR_0 (n : Nat) : gR n (fun _ => 0) (fun _ => 0) := fun _ _ => (show (0 : Int32) = 0 &&& 255 by decide)
/-- which half of the key a number names -/
def gHalf (p : Int32) : Nat := p.toBitVec.toNat % 2
theorem gHalf_lt (p : Int32) : gHalf p < 2 := Nat.mod_lt _ (by omega)
theorem g_and1 (p : Int32) : p &&& 1 = nI (gHalf p) := pk_and p 1 rfl
theorem g_at (p : Int32) : (p &&& 1) <<< ((4 : Int32) &&& 31) = nI (16 * gHalf p) := by
  have h := gHalf_lt p
  rw [g_and1]
  refine (pk_shlN (nI 4 &&& 31) 4 (g_sm 4 (by omega)) (by omega)).trans ?_
  rw [Nat.mul_comm]
/-- which place of eight a number names -/
def gAt (p : Int32) : Nat := p.toBitVec.toNat % 8
theorem gAt_lt (p : Int32) : gAt p < 8 := Nat.mod_lt _ (by omega)
theorem g_and7 (p : Int32) : p &&& 7 = nI (gAt p) := pk_and p 3 rfl
/-! ===== copies place by place ===== -/
def gCopB (f o : Nat → Int32) (i : Nat) : Nat → Int32 := fun j => if j < i then gB8 (o j) else f j
theorem gCopB_0 (f o : Nat → Int32) : gCopB f o 0 = f := funext fun j => by unfold gCopB; rw [if_neg (by omega)]
theorem gCopB_s (f o : Nat → Int32) (i : Nat) : upd (gCopB f o i) i (gB8 (o i)) = gCopB f o (i + 1) := funext fun j => by
  unfold gCopB upd
  by_cases h : j = i
  · subst h
    rw [if_pos rfl, if_pos (by omega)]
  · rw [if_neg h]
    dsimp only
    by_cases h2 : j < i
    · rw [if_pos h2, if_pos (by omega)]
    · rw [if_neg h2, if_neg (by omega)]
def gCopI (f o : Nat → Int32) (i : Nat) : Nat → Int32 := fun j => if j < i then o j else f j
theorem gCopI_0 (f o : Nat → Int32) : gCopI f o 0 = f := funext fun j => by unfold gCopI; rw [if_neg (by omega)]
theorem gCopI_s (f o : Nat → Int32) (i : Nat) : upd (gCopI f o i) i (o i) = gCopI f o (i + 1) := funext fun j => by
  unfold gCopI upd
  by_cases h : j = i
  · subst h
    rw [if_pos rfl, if_pos (by omega)]
  · rw [if_neg h]
    dsimp only
    by_cases h2 : j < i
    · rw [if_pos h2, if_pos (by omega)]
    · rw [if_neg h2, if_neg (by omega)]
theorem gR_cop {f o fm om : Nat → Int32} (h : gR 8 o om) : gR 8 (gCopB f o 8) (gCopI fm om 8) := by
  intro j hj
  unfold gCopB gCopI
  rw [if_pos hj, if_pos hj, g_nar]
  exact h j hj
/-! ===== the rounds ===== -/
def gSch (b : Bool) (r : Nat) : Nat := if b = true then (if r < 24 then r % 8 else 31 - r) else (if r < 8 then r else 7 - r % 8)
theorem gSch_lt (b : Bool) : ∀ r, r < 32 → gSch b r < 8 := by
  cases b
  · decide +kernel
  · decide +kernel
theorem gSch_31 (b : Bool) : gSch b 31 = 0 := by cases b <;> rfl
def gRun (b : Bool) (K : Nat → Int32) (n1 n2 : Int32) : Nat → Int32 × Int32
  | 0 => (n1, n2)
  | r + 1 => ((gRun b K n1 n2 r).2 ^^^ gMix ((gRun b K n1 n2 r).1 + K (gSch b r)), (gRun b K n1 n2 r).1)
theorem gRun_congr (b : Bool) {K K' : Nat → Int32} (h : ∀ j, j < 8 → K j = K' j) (n1 n2 : Int32) : ∀ r, r ≤ 32 → gRun b K n1 n2 r = gRun b K' n1 n2 r
  | 0, _ => rfl
  | r + 1, hr => by
    have e := gRun_congr b h n1 n2 r (by omega)
    show (_, _) = (_, _)
    rw [e, h _ (gSch_lt b r (by omega))]
/-- what the block becomes -/
def gN1 (b : Bool) (K : Nat → Int32) (n1 n2 : Int32) : Int32 := (gRun b K n1 n2 31).1
def gN2 (b : Bool) (K : Nat → Int32) (n1 n2 : Int32) : Int32 := (gRun b K n1 n2 31).2 ^^^ gMix ((gRun b K n1 n2 31).1 + K 0)
/-! ===== the block's end ===== -/
def gPutE (f : Nat → Int32) (i : Nat) (n : Int32) : Nat → Int32 := upd (upd (upd (upd f (i + 3) (gB8 (gUshr n 24).toInt8.toInt32)) (i + 2) (gB8 (gUshr n 16).toInt8.toInt32)) (i + 1) (gB8 (gUshr n 8).toInt8.toInt32)) i (gB8 n.toInt8.toInt32)
def gO (n : Int32) (j : Nat) : Int32 := gUshr n (nI (8 * j)) &&& 255
/-- the reference's out, place by place -/
def gOut (f : Nat → Int32) (n1 n2 : Int32) (i : Nat) : Nat → Int32 := fun j => if j < i then gO n1 j else if 4 ≤ j ∧ j < 4 + i then gO n2 (j - 4) else f j
theorem gOut_0 (f : Nat → Int32) (n1 n2 : Int32) : gOut f n1 n2 0 = f := funext fun j => by
  unfold gOut
  rw [if_neg (by omega), if_neg (by omega)]
theorem gOut_s (f : Nat → Int32) (n1 n2 : Int32) (i : Nat) (hi : i < 4) : upd (upd (gOut f n1 n2 i) i (gO n1 i)) (4 + i) (gO n2 i) = gOut f n1 n2 (i + 1) := funext fun j => by
  unfold gOut upd
  by_cases h : j = 4 + i
  · subst h
    rw [if_pos rfl, if_neg (by omega), if_pos (by omega), Nat.add_sub_cancel_left]
  · rw [if_neg h]
    by_cases h1 : j = i
    · subst h1
      rw [if_pos rfl, if_pos (by omega)]
    · rw [if_neg h1]
      dsimp only
      by_cases h2 : j < i
      · rw [if_pos h2, if_pos (by omega)]
      · rw [if_neg h2, if_neg (show ¬ j < i + 1 by omega)]
        by_cases h3 : 4 ≤ j ∧ j < 4 + i
        · rw [if_pos h3, if_pos (show 4 ≤ j ∧ j < 4 + (i + 1) by omega)]
        · rw [if_neg h3, if_neg (show ¬ (4 ≤ j ∧ j < 4 + (i + 1)) by omega)]
theorem g_u0 (n : Int32) : gUshr n (nI (8 * 0)) = n := by
  apply b_ext
  intro i hi
  rw [b_ushr (8 * 0) (by omega)]
  simp
theorem gR_out (f g : Nat → Int32) (n1 n2 : Int32) : gR 8 (gPutE (gPutE f 0 n1) 4 n2) (gOut g n1 n2 4) := by
  intro j hj
  have q : j = 0 ∨ j = 1 ∨ j = 2 ∨ j = 3 ∨ j = 4 ∨ j = 5 ∨ j = 6 ∨ j = 7 := by omega
  have e : ∀ (n : Int32), gO n 0 = gB8 n.toInt8.toInt32 &&& 255 ∧ gO n 1 = gB8 (gUshr n 8).toInt8.toInt32 &&& 255 ∧ gO n 2 = gB8 (gUshr n 16).toInt8.toInt32 &&& 255 ∧ gO n 3 = gB8 (gUshr n 24).toInt8.toInt32 &&& 255 := by
    intro n
    refine ⟨?_, ?_, ?_, ?_⟩
    · rw [g_i2b]; unfold gO; rw [g_u0]
    · rw [g_i2b]; rfl
    · rw [g_i2b]; rfl
    · rw [g_i2b]; rfl
  rcases q with rfl | rfl | rfl | rfl | rfl | rfl | rfl | rfl
  · exact (e n1).1
  · exact (e n1).2.1
  · exact (e n1).2.2.1
  · exact (e n1).2.2.2
  · exact (e n2).1
  · exact (e n2).2.1
  · exact (e n2).2.2.1
  · exact (e n2).2.2.2
/-! ===== the class's way of the key: an array of bytes, its copy, the words ===== -/
def gKcopy (kf : Nat → Int32) : Nat → Int32 := gCopB (fun _ => 0) kf 32
def gKpar (kf : Nat → Int32) : Nat → Int32 := va_cpy (gKcopy kf) (fun _ => 0) 0 0 32
def gWk (f : Nat → Int32) (i : Nat) : Nat → Int32 := fun j => if j < i then gWe f (4 * j) else 0
theorem gWk_0 (f : Nat → Int32) : gWk f 0 = fun _ => 0 := funext fun j => by unfold gWk; rw [if_neg (by omega)]
theorem gWk_s (f : Nat → Int32) (i : Nat) : upd (gWk f i) i (gWe f (4 * i)) = gWk f (i + 1) := funext fun j => by
  unfold gWk upd
  by_cases h : j = i
  · subst h
    rw [if_pos rfl, if_pos (by omega)]
  · rw [if_neg h]
    dsimp only
    by_cases h2 : j < i
    · rw [if_pos h2, if_pos (by omega)]
    · rw [if_neg h2, if_neg (by omega)]
theorem gKcopy_fit (kf : Nat → Int32) : ∀ i, i < 32 → fits .byte (.int (gKcopy kf i)) = true := by
  intro i hi
  unfold gKcopy gCopB
  rw [if_pos hi]
  exact g_fit _
theorem gKpar_at (kf : Nat → Int32) {j : Nat} (hj : j < 32) : gKpar kf j = gB8 (kf j) := by
  unfold gKpar va_cpy gKcopy gCopB
  rw [if_pos (by omega), if_pos (by omega)]
  rw [show 0 + (j - 0) = j by omega]
theorem gR_key {kf km : Nat → Int32} (h : gR 32 kf km) : gR 32 (gKpar kf) km := by
  intro j hj
  rw [gKpar_at kf hj, g_nar]
  exact h j hj
/-- the words of the key: both sides' are the same -/
def gKm (km : Nat → Int32) : Nat → Int32 := fun j => gW km (4 * j)
theorem gK_eq {kf km : Nat → Int32} (h : gR 32 kf km) : ∀ j, j < 8 → gWk (gKpar kf) 8 j = gKm km j := by
  intro j hj
  have q := gR_key h
  unfold gWk gKm
  rw [if_pos hj]
  exact g_We (q _ (by omega)) (q _ (by omega)) (q _ (by omega)) (q _ (by omega))
theorem gB_eq {bf bm : Nat → Int32} (h : gR 8 bf bm) : gWe bf 0 = gW bm 0 ∧ gWe bf 4 = gW bm 4 :=
  ⟨g_We (h _ (by omega)) (h _ (by omega)) (h _ (by omega)) (h _ (by omega)), g_We (h _ (by omega)) (h _ (by omega)) (h _ (by omega)) (h _ (by omega))⟩
/-- what run leaves in out: the class's and the reference's -/
def gRunX (b : Bool) (kf bf f : Nat → Int32) : Nat → Int32 := gPutE (gPutE f 0 (gN1 b (gWk (gKpar kf) 8) (gWe bf 0) (gWe bf 4))) 4 (gN2 b (gWk (gKpar kf) 8) (gWe bf 0) (gWe bf 4))
def gRunM (b : Bool) (km bm g : Nat → Int32) : Nat → Int32 := gOut g (gN1 b (gKm km) (gW bm 0) (gW bm 4)) (gN2 b (gKm km) (gW bm 0) (gW bm 4)) 4
theorem gR_run (b : Bool) {kf km bf bm : Nat → Int32} (f g : Nat → Int32) (hk : gR 32 kf km) (hb : gR 8 bf bm) : gR 8 (gRunX b kf bf f) (gRunM b km bm g) := by
  have h0 := gRun_congr b (gK_eq hk) (gWe bf 0) (gWe bf 4) 31 (by omega)
  have e1 : gN1 b (gWk (gKpar kf) 8) (gWe bf 0) (gWe bf 4) = gN1 b (gKm km) (gW bm 0) (gW bm 4) := by
    unfold gN1
    rw [h0, (gB_eq hb).1, (gB_eq hb).2]
  have e2 : gN2 b (gWk (gKpar kf) 8) (gWe bf 0) (gWe bf 4) = gN2 b (gKm km) (gW bm 0) (gW bm 4) := by
    unfold gN2
    rw [h0, gK_eq hk 0 (by omega), (gB_eq hb).1, (gB_eq hb).2]
  unfold gRunX gRunM
  rw [e1, e2]
  exact gR_out f g _ _
end
section
/-! ===== rows of our own over the kit's: places by number, one start for every method ===== -/
abbrev vwCl : List vw_C := [(RX0, TX0, 3), (RX1, TX1, 3), (RX2, TX2, 3), (RX3, TX3, 1)]
abbrev gX_init : MethodName := { cls := "BlockCipher", name := "init", desc := "(ZLCipherParameters;)V" }
abbrev gX_proc : MethodName := { cls := "BlockCipher", name := "processBlock", desc := "([BI[BI)I" }
/-- what nobody writes: the two tables and the statics that hold them, what the tables of words say beside lw_all -/
def gZ (tS tR : Nat) (A : Nat → Prop) (U : State) (H : Heap) : Prop :=
  (va_Z RX2 "Sbox_Default" "[B" (.ref tS) A U H ∧ va_T .byte tS 128 gTv A U H) ∧ (va_Z RX1 "ROWS" "[I" (.ref tR) A U H ∧ va_T .int tR 128 gTv A U H) ∧
  va_Fw RX2 gX_init yX2_init_2 U ∧ va_Fw RX2 gX_proc yX2_processBlock U ∧ va_Nc RX3 "ParametersWithSBox" U
theorem gZ.moved {tS tR : Nat} {A : Nat → Prop} {u U : State} {H : Heap} (hvm : u.vm.Alike U.vm) (h : gZ tS tR A u H) : gZ tS tR A U H :=
  ⟨⟨va_Z.moved hvm h.1.1, va_T.moved hvm h.1.2⟩, ⟨va_Z.moved hvm h.2.1.1, va_T.moved hvm h.2.1.2⟩, va_Fw.moved (by decide +kernel) hvm h.2.2.1, va_Fw.moved (by decide +kernel) hvm h.2.2.2.1, va_Nc.moved hvm h.2.2.2.2⟩
theorem gZ.kept {tS tR : Nat} {A : Nat → Prop} {U : State} {H H1 : Heap} (h : gZ tS tR A U H) (hq : ∀ a : Nat, a < H.size → ¬ A a → H1[a]? = H[a]?) : gZ tS tR A U H1 :=
  ⟨⟨h.1.1.kept hq, h.1.2.kept hq⟩, ⟨h.2.1.1.kept hq, h.2.1.2.kept hq⟩, h.2.2⟩
theorem gZ.narrow {tS tR : Nat} {A B : Nat → Prop} {U : State} {H : Heap} (h : gZ tS tR A U H) (hAB : ∀ q, B q → A q) : gZ tS tR B U H :=
  ⟨⟨h.1.1.narrow hAB, h.1.2.narrow hAB⟩, ⟨h.2.1.1.narrow hAB, h.2.1.2.narrow hAB⟩, h.2.2⟩
theorem gZ.at {tS tR : Nat} {A : Nat → Prop} {s U : State} {H : Heap} {locs : List Loc} (h : gZ tS tR A s s.heap) (hS : va_S A s.heap H locs) (hU : U.heap = H) (hW : s.vm.Alike U.vm) : gZ tS tR A U U.heap := by
  rw [hU]
  exact (h.kept hS.2.1).moved hW
/-- a start of a method that writes; of one that only reads -/
def gPw (D : va_G) (sz : Nat) (ws : va_W) (tys : List (ClassId × FieldType)) (tS tR : Nat) (U : State) : Prop :=
  U.heap.size = sz ∧ va_P D vwCl ws U.heap ∧ va_K D vwCl tys U ∧ va_D (fun _ => True) ws ∧ gZ tS tR (va_A ws sz) U U.heap
def gPr (D : va_G) (ws : va_W) (tys : List (ClassId × FieldType)) (tS tR : Nat) (U : State) : Prop :=
  va_P D vwCl ws U.heap ∧ va_K D vwCl tys U ∧ gZ tS tR (fun _ => False) U U.heap
/-- the world behind a method -/
def gBw (D : va_G) (A : Nat → Prop) (ws : va_W) (tys : List (ClassId × FieldType)) (t : State) : Prop := va_P D vwCl ws t.heap ∧ va_K D vwCl tys t ∧ va_D A ws
theorem gPw_blind {av : List Value} {D : va_G} {sz : Nat} {ws : va_W} {tys : List (ClassId × FieldType)} {tS tR : Nat} : FrameBlind (va_Pc av (gPw D sz ws tys tS tR)) := fun a U g mk q => by
  obtain ⟨q0, q1, qP, qK, qD, qZ⟩ := q
  exact ⟨q0, q1, qP, va_K.moved (u := U) (U := U.calling g mk a) (Vm.Alike.refl U.vm) qK, qD, gZ.moved (u := U) (U := U.calling g mk a) (Vm.Alike.refl U.vm) qZ⟩
theorem gPr_blind {av : List Value} {D : va_G} {ws : va_W} {tys : List (ClassId × FieldType)} {tS tR : Nat} : FrameBlind (va_Pc av (gPr D ws tys tS tR)) := fun a U g mk q => by
  obtain ⟨q0, qP, qK, qZ⟩ := q
  exact ⟨q0, qP, va_K.moved (u := U) (U := U.calling g mk a) (Vm.Alike.refl U.vm) qK, gZ.moved (u := U) (U := U.calling g mk a) (Vm.Alike.refl U.vm) qZ⟩
theorem gPw_of {av : List Value} {D : va_G} {wc : va_W} {tys : List (ClassId × FieldType)} {tS tR : Nat} {A : Nat → Prop} {s : State} {H : Heap} {locs : List Loc} (hP : va_P D vwCl wc H) (hK : va_K D vwCl tys s) (hD : va_D A wc) (hZ : gZ tS tR A s s.heap) (hS : va_S A s.heap H locs) (hF : ∀ q, va_A wc H.size q → A q) :
    ∀ U : State, U.heap = H → s.WarmedH U.vm → va_Pc av (gPw D H.size wc tys tS tR) av.toArray U := fun U hU hW =>
  ⟨rfl, by rw [hU], by rw [hU]; exact hP, va_K.moved hW.alike hK, hD.weaken (fun _ _ _ _ => trivial), (hZ.at hS hU hW.alike).narrow hF⟩
theorem gPr_of {av : List Value} {D : va_G} {wc : va_W} {tys : List (ClassId × FieldType)} {tS tR : Nat} {A : Nat → Prop} {s : State} {H : Heap} {locs : List Loc} (hP : va_P D vwCl wc H) (hK : va_K D vwCl tys s) (hZ : gZ tS tR A s s.heap) (hS : va_S A s.heap H locs) :
    ∀ U : State, U.heap = H → s.WarmedH U.vm → va_Pc av (gPr D wc tys tS tR) av.toArray U := fun U hU hW =>
  ⟨rfl, by rw [hU]; exact hP, va_K.moved hW.alike hK, (hZ.at hS hU hW.alike).narrow (fun _ h => h.elim)⟩
theorem gMetW {l : Launch} {y : MethodName} {cc : ByteArray} {maxL : Nat} {ret : Option FieldType} {rm : Room} {D : va_G} {sz : Nat} {ws : va_W} {tys : List (ClassId × FieldType)} {tS tR : Nat} {av : List Value} {mc ms : Nat} (Qc : (Nat → Prop) → Array Value → State → Outcome → State → Prop)
    (hy : plainName y.cls = true) (hlen : (lg_sl av).length ≤ maxL)
    (body : ∀ (p : Program) (e : Env) (s : State) (m : MethodId) (below : List Frame) (meth : Method) (c : Code) (A : Nat → Prop) (ls : Array Slot), p.tables.exec = Jvm.exec → c.code = cc → meth.sig.returnType = ret → (∀ w ∈ lw_all, w.before av.toArray s = true) → s.vm.findClass y.cls = some m.cls → meth.locks = false → meth.name = y.name → c.maxLocals = maxL → A = va_A ws sz → (∀ q : Nat, s.heap.size ≤ q → A q) → s.heap.size = sz → va_P D vwCl ws s.heap → va_K D vwCl tys s → va_D A ws → gZ tS tR A s s.heap → va_S A s.heap s.heap [] → lv_has ls maxL (lv_args 0 av) →
      W p l e (headSpec (ws_ y cc maxL ret) rm).room s m av.toArray below meth c s.heap [] 0 0 (MQ below (Qc A) av.toArray s mc ms A) (F0 m 0 ls [])) :
    Met l y (ws_ y cc maxL ret) rm (va_Pc av (gPw D sz ws tys tS tR)) (Qc (va_A ws sz)) mc ms (va_A ws sz) := by
  refine Met.ofW (cc := cc) (maxL := maxL) (ret := ret) hy rfl ?_
  intro p e s m args below meth c s₁ B hml hv
  obtain ⟨rfl, hsz, hP, hK, hD0, hZ⟩ := hv
  have hts := atoms_spec (ws := ws_ y cc maxL ret) B.pre
  have hts : ∀ w ∈ lw_all, w.before _ s = true := fun w h => hts w (List.mem_cons_of_mem _ h)
  have hown : s.vm.findClass y.cls = some m.cls := findClass_of_methodNamed B.named
  have hl := lv_entry av (n := maxL) hlen
  rw [lg_entry_eq]
  have hin : meth.name = y.name := (name_of_methodNamed B.named B.method).1
  exact body p e s m below meth c (va_A ws sz) _ B.exec B.bytes B.returns hts hown B.notSynchronized hin hml rfl (fun q h => Or.inr (hsz ▸ h)) hsz hP hK hD0.self hZ va_S.rf hl
theorem gMetR {l : Launch} {y : MethodName} {cc : ByteArray} {maxL : Nat} {ret : Option FieldType} {rm : Room} {D : va_G} {ws : va_W} {tys : List (ClassId × FieldType)} {tS tR : Nat} {av : List Value} (Qc : Array Value → State → Outcome → State → Prop)
    (hy : plainName y.cls = true) (hlen : (lg_sl av).length ≤ maxL)
    (body : ∀ (p : Program) (e : Env) (s : State) (m : MethodId) (below : List Frame) (meth : Method) (c : Code) (ls : Array Slot), p.tables.exec = Jvm.exec → c.code = cc → meth.sig.returnType = ret → (∀ w ∈ lw_all, w.before av.toArray s = true) → s.vm.findClass y.cls = some m.cls → meth.locks = false → c.maxLocals = maxL → va_P D vwCl ws s.heap → va_K D vwCl tys s → gZ tS tR (fun _ => False) s s.heap → va_S (fun _ => False) s.heap s.heap [] → lv_has ls maxL (lv_args 0 av) →
      W p l e (headSpec (ws_ y cc maxL ret) rm).room s m av.toArray below meth c s.heap [] 0 0 (MQ below Qc av.toArray s 0 0 (fun _ => False)) (F0 m 0 ls [])) :
    Met l y (ws_ y cc maxL ret) rm (va_Pc av (gPr D ws tys tS tR)) Qc 0 0 (fun _ => False) := by
  refine Met.ofW (cc := cc) (maxL := maxL) (ret := ret) hy rfl ?_
  intro p e s m args below meth c s₁ B hml hv
  obtain ⟨rfl, hP, hK, hZ⟩ := hv
  have hts := atoms_spec (ws := ws_ y cc maxL ret) B.pre
  have hts : ∀ w ∈ lw_all, w.before _ s = true := fun w h => hts w (List.mem_cons_of_mem _ h)
  have hown : s.vm.findClass y.cls = some m.cls := findClass_of_methodNamed B.named
  have hl := lv_entry av (n := maxL) hlen
  rw [lg_entry_eq]
  exact body p e s m below meth c _ B.exec B.bytes B.returns hts hown B.notSynchronized hml hP hK hZ va_S.rf hl
section GRW
variable {p : Program} {l : Launch} {e : Env} {R : Room} {s : State} {m : MethodId} {args : Array Value} {below : List Frame} {meth : Method} {c : Code} {H : Heap} {locs : List Loc} {cells slots : Nat} {Q : State → Prop}
variable {cc : ByteArray} {pc : Nat} {ls : Array Slot} {rest : List Value} {D : va_G} {cl : List vw_C} {A : Nat → Prop} {a : Nat} {tys : List (ClassId × FieldType)} {ws : va_W} {H0 : Heap}
theorem g_bald (hexec : p.tables.exec = Jvm.exec) (hb : c.code = cc) (hK : va_K D cl tys s) (hP : va_P D cl ws H) (q0 t0 : Nat) {cA : ClassId} {n : Nat} {f : Nat → Int32} (ha : ws[q0]? = some (a, .inl (cA, n, .inl f))) (ht : tys[t0]? = some (cA, .byte)) {i : Int32} (k : Nat) (hk : i = nI k) (hn : k < n) (hN : n < 2 ^ 31) (hdg : decode cc pc = .ok (.baload, 1))
    (kk : W p l e R s m args below meth c H locs cells slots Q (F0 m (pc + 1) ls (.int (f k) :: rest))) : W p l e R s m args below meth c H locs cells slots Q (F0 m pc ls (.int i :: .ref a :: rest)) := by
  subst hk
  refine va_bald hexec hb hK hP q0 t0 ha ht (vp_in_nI hn hN) hdg ?_
  rw [nI_clamp (Nat.lt_trans hn hN)]
  exact kk
theorem g_iald (hexec : p.tables.exec = Jvm.exec) (hb : c.code = cc) (hK : va_K D cl tys s) (hP : va_P D cl ws H) (q0 t0 : Nat) {cA : ClassId} {n : Nat} {f : Nat → Int32} (ha : ws[q0]? = some (a, .inl (cA, n, .inl f))) (ht : tys[t0]? = some (cA, .int)) {i : Int32} (k : Nat) (hk : i = nI k) (hn : k < n) (hN : n < 2 ^ 31) (hdg : decode cc pc = .ok (.iaload, 1))
    (kk : W p l e R s m args below meth c H locs cells slots Q (F0 m (pc + 1) ls (.int (f k) :: rest))) : W p l e R s m args below meth c H locs cells slots Q (F0 m pc ls (.int i :: .ref a :: rest)) := by
  subst hk
  refine va_iald hexec hb hK hP q0 t0 ha ht (vp_in_nI hn hN) hdg ?_
  rw [nI_clamp (Nat.lt_trans hn hN)]
  exact kk
theorem g_bast (hexec : p.tables.exec = Jvm.exec) (hb : c.code = cc) (hK : va_K D cl tys s) (hP : va_P D cl ws H) (hD : va_D A ws) (hS : va_S A H0 H locs) (q0 t0 : Nat) {cA : ClassId} {n : Nat} {f : Nat → Int32} (ha : ws[q0]? = some (a, .inl (cA, n, .inl f))) (ht : tys[t0]? = some (cA, .byte)) {i : Int32} {x : Int32} (k : Nat) (hk : i = nI k) (hn : k < n) (hN : n < 2 ^ 31) {g : Nat → Int32} (hg : upd f k (gB8 x) = g) (hdg : decode cc pc = .ok (.bastore, 1))
    (kk : ∀ (H1 : Heap) (locs1 : List Loc), va_P D cl (ws.set q0 (a, .inl (cA, n, .inl g))) H1 → va_D A (ws.set q0 (a, .inl (cA, n, .inl g))) → va_S A H0 H1 locs1 → W p l e R s m args below meth c H1 locs1 cells slots Q (F0 m (pc + 1) ls rest)) : W p l e R s m args below meth c H locs cells slots Q (F0 m pc ls (.int x :: .int i :: .ref a :: rest)) := by
  subst hk
  subst hg
  refine va_bast hexec hb hK hP hD hS q0 t0 ha ht (vp_in_nI hn hN) hdg ?_
  rw [nI_clamp (Nat.lt_trans hn hN)]
  exact kk
theorem g_iast (hexec : p.tables.exec = Jvm.exec) (hb : c.code = cc) (hK : va_K D cl tys s) (hP : va_P D cl ws H) (hD : va_D A ws) (hS : va_S A H0 H locs) (q0 t0 : Nat) {cA : ClassId} {n : Nat} {f : Nat → Int32} (ha : ws[q0]? = some (a, .inl (cA, n, .inl f))) (ht : tys[t0]? = some (cA, .int)) {i : Int32} {x : Int32} (k : Nat) (hk : i = nI k) (hn : k < n) (hN : n < 2 ^ 31) {g : Nat → Int32} (hg : upd f k x = g) (hdg : decode cc pc = .ok (.iastore, 1))
    (kk : ∀ (H1 : Heap) (locs1 : List Loc), va_P D cl (ws.set q0 (a, .inl (cA, n, .inl g))) H1 → va_D A (ws.set q0 (a, .inl (cA, n, .inl g))) → va_S A H0 H1 locs1 → W p l e R s m args below meth c H1 locs1 cells slots Q (F0 m (pc + 1) ls rest)) : W p l e R s m args below meth c H locs cells slots Q (F0 m pc ls (.int x :: .int i :: .ref a :: rest)) := by
  subst hk
  subst hg
  refine va_iast hexec hb hK hP hD hS q0 t0 ha ht (vp_in_nI hn hN) hdg ?_
  rw [nI_clamp (Nat.lt_trans hn hN)]
  exact kk
theorem g_tb {t N : Nat} {f : Nat → Value} (hexec : p.tables.exec = Jvm.exec) (hb : c.code = cc) (hT : va_T .byte t N f A s s.heap) (hS : va_S A s.heap H locs) {i : Int32} (k : Nat) (hk : i = nI k) (hn : k < N) (hN : N < 2 ^ 31) {v : Value} (hv : f k = v) (hdg : decode cc pc = .ok (.baload, 1))
    (kk : W p l e R s m args below meth c H locs cells slots Q (F0 m (pc + 1) ls (v :: rest))) : W p l e R s m args below meth c H locs cells slots Q (F0 m pc ls (.int i :: .ref t :: rest)) := by
  subst hk
  exact va_tb hexec hb hT hS (vp_in_nI hn hN) (by rw [nI_clamp (Nat.lt_trans hn hN)]; exact hv) hdg kk
theorem g_ti {t N : Nat} {f : Nat → Value} (hexec : p.tables.exec = Jvm.exec) (hb : c.code = cc) (hT : va_T .int t N f A s s.heap) (hS : va_S A s.heap H locs) {i : Int32} (k : Nat) (hk : i = nI k) (hn : k < N) (hN : N < 2 ^ 31) {v : Value} (hv : f k = v) (hdg : decode cc pc = .ok (.iaload, 1))
    (kk : W p l e R s m args below meth c H locs cells slots Q (F0 m (pc + 1) ls (v :: rest))) : W p l e R s m args below meth c H locs cells slots Q (F0 m pc ls (.int i :: .ref t :: rest)) := by
  subst hk
  exact va_ti hexec hb hT hS (vp_in_nI hn hN) (by rw [nI_clamp (Nat.lt_trans hn hN)]; exact hv) hdg kk
/-- the number on top gets another name -/
theorem g_top {x : Int32} (y : Int32) (h : x = y) (k : W p l e R s m args below meth c H locs cells slots Q (F0 m pc ls (.int y :: rest))) : W p l e R s m args below meth c H locs cells slots Q (F0 m pc ls (.int x :: rest)) := h ▸ k
end GRW
section GRE
variable {p : Program} {l : Launch} {e : Env} {R : Room} {s : State} {m : MethodId} {args : Array Value} {below : List Frame} {meth : Method} {c : Code} {H : Heap} {locs : List Loc} {cells slots : Nat}
variable {cc : ByteArray} {pc : Nat} {ls : Array Slot} {D : va_G} {A : Nat → Prop} {tys : List (ClassId × FieldType)} {ws : va_W}
/-- the ends: void; a number of a reader -/
theorem g_vret (hexec : p.tables.exec = Jvm.exec) (hb : c.code = cc) (hr : meth.sig.returnType = none) (hP : va_P D vwCl ws H) (hK : va_K D vwCl tys s) (hD : va_D A ws) (hS : va_S A s.heap H locs) (hlocks : meth.locks = false) (hdg : decode cc pc = .ok (.return_, 1)) :
    W p l e R s m args below meth c H locs cells slots (MQ below (va_Qv (fun _ : Unit => True) (fun _ => gBw D A ws tys) A) args s cells slots A) (F0 m pc ls []) :=
  W.vret hexec hb hr (fun t ht hW => ⟨⟨(), rfl, trivial, by rw [ht]; exact hP, va_K.moved hW.alike hK, hD⟩, hS.F ht⟩) hS.2.2 hdg hlocks
theorem g_iret {x : Int32} (hexec : p.tables.exec = Jvm.exec) (hb : c.code = cc) (hr : meth.sig.returnType = some .int) {v : Int32} (hv : v = x) (hlocks : meth.locks = false) (hdg : decode cc pc = .ok (.ireturn, 1)) :
    W p l e R s m args below meth c s.heap [] cells slots (MQ below (vp_Si (fun r => r = x)) args s cells slots (fun _ => False)) (F0 m pc ls [.int v]) :=
  W.iret hexec hb hr (fun t ht _ => ⟨v, rfl, hv, ht⟩) (fun q h => by cases h) hdg hlocks
end GRE
end
section
/-! ===== GostDeskModel, method by method ===== -/
def gBi : Bool → Int32
  | true => 1
  | false => 0
theorem gBi_0 {b : Bool} (h : gBi b = 0) : b = false := by
  cases b
  · rfl
  · exact absurd h (by decide)
theorem gBi_1 {b : Bool} (h : ¬ gBi b = 0) : b = true := by
  cases b
  · exact absurd rfl h
  · rfl
theorem g_four (x : Int32) (i : Nat) (hi : i < 8) : gUshr x ((4 : Int32) * nI i) &&& 15 = nI (gNib x i) := by
  rw [show (4 : Int32) * nI i = nI (4 * i) from pk_mul 4 i]
  exact g_ushr15 x i hi
theorem g_idx (x : Int32) (i : Nat) : (16 : Int32) * nI i + nI (gNib x i) = nI (16 * i + gNib x i) := by
  rw [show (16 : Int32) * nI i = nI (16 * i) from pk_mul 16 i, nI_add]
theorem g_accm (x : Int32) (i : Nat) (hi : i < 8) : nI (gSum x i) ||| (nI (gS (16 * i + gNib x i)) <<< (((4 : Int32) * nI i) &&& 31)) = nI (gSum x (i + 1)) := by
  rw [show (4 : Int32) * nI i = nI (4 * i) from pk_mul 4 i]
  exact g_acco x i hi
theorem g_out (n : Int32) (i : Nat) : gUshr n ((8 : Int32) * nI i) &&& 255 = gO n i := by
  rw [show (8 : Int32) * nI i = nI (8 * i) from pk_mul 8 i]
  rfl
set_option maxHeartbeats 4000000 in
set_option maxRecDepth 100000 in
/-- GostDeskModel.lay: four numbers of a byte each -/
theorem mX1_lay (l : Launch) (D : va_G) (a : Nat) (c1 : ClassId) (n : Nat) (f : Nat → Int32) (i : Nat) (w : Int32) (sz tS tR : Nat) (hi : i + 3 < n) (hn : n < 2 ^ 31) : Met l yX1_lay (ws_ yX1_lay cX1_lay 3 none) ({ frames := 0, cells := 0, slots := 0, locals := 0 }) (va_Pc [.ref a, .int (nI i), .int w] (gPw D sz [(a, .inl (c1, n, .inl f))] [(c1, .int)] tS tR)) (va_Qv (fun _ : Unit => True) (fun _ => gBw D (va_A [(a, .inl (c1, n, .inl f))] sz) [(a, .inl (c1, n, .inl (gLay f i w)))] [(c1, .int)]) (va_A [(a, .inl (c1, n, .inl f))] sz)) 0 0 (va_A [(a, .inl (c1, n, .inl f))] sz) := by
  refine gMetW (fun A => va_Qv (fun _ : Unit => True) (fun _ => gBw D A [(a, .inl (c1, n, .inl (gLay f i w)))] [(c1, .int)]) A) (by decide) (Nat.le_of_ble_eq_true rfl) ?_
  intro p e s m below meth c A ls hx hb hr hts hown hlocks hin hml hAe hA hsz hP hK hD hZ hS hl
  have hl : lv_has ls 3 [(0, .ref a), (1, .int (nI i)), (2, .int w)] := hl
  refine lv_aload_n hx hb dX1_lay_0 rfl (lv_at hl 0 rfl) ?_
  refine lv_iload_n hx hb dX1_lay_1 rfl (lv_at hl 1 rfl) ?_
  refine lv_iload_n hx hb dX1_lay_2 rfl (lv_at hl 2 rfl) ?_
  refine lv_bipush (v := 24) hx hb dX1_lay_3 (by decide) ?_
  refine lv_iushr hx hb dX1_lay_5 rfl ?_
  refine lv_sipush (v := 255) hx hb dX1_lay_6 (by decide) ?_
  refine lv_iand hx hb dX1_lay_9 ?_
  refine g_iast (g := upd f i (gUshr w 24 &&& 255)) hx hb hK hP hD hS 0 0 rfl rfl (i) rfl (by omega) hn rfl dX1_lay_10 (fun H locs hP hD hS => ?_)
  have hP : va_P D vwCl [(a, .inl (c1, n, .inl (upd f i (gUshr w 24 &&& 255))))] H := hP
  have hD : va_D A [(a, .inl (c1, n, .inl (upd f i (gUshr w 24 &&& 255))))] := hD
  refine lv_aload_n hx hb dX1_lay_11 rfl (lv_at hl 0 rfl) ?_
  refine lv_iload_n hx hb dX1_lay_12 rfl (lv_at hl 1 rfl) ?_
  refine lv_iconst (v := 1) hx hb dX1_lay_13 (by decide) ?_
  refine lv_iadd hx hb dX1_lay_14 ?_
  refine lv_iload_n hx hb dX1_lay_15 rfl (lv_at hl 2 rfl) ?_
  refine lv_bipush (v := 16) hx hb dX1_lay_16 (by decide) ?_
  refine lv_iushr hx hb dX1_lay_18 rfl ?_
  refine lv_sipush (v := 255) hx hb dX1_lay_19 (by decide) ?_
  refine lv_iand hx hb dX1_lay_22 ?_
  refine g_iast (g := upd (upd f i (gUshr w 24 &&& 255)) (i + 1) (gUshr w 16 &&& 255)) hx hb hK hP hD hS 0 0 rfl rfl (i + 1) (nI_1 i) (by omega) hn rfl dX1_lay_23 (fun H locs hP hD hS => ?_)
  have hP : va_P D vwCl [(a, .inl (c1, n, .inl (upd (upd f i (gUshr w 24 &&& 255)) (i + 1) (gUshr w 16 &&& 255))))] H := hP
  have hD : va_D A [(a, .inl (c1, n, .inl (upd (upd f i (gUshr w 24 &&& 255)) (i + 1) (gUshr w 16 &&& 255))))] := hD
  refine lv_aload_n hx hb dX1_lay_24 rfl (lv_at hl 0 rfl) ?_
  refine lv_iload_n hx hb dX1_lay_25 rfl (lv_at hl 1 rfl) ?_
  refine lv_iconst (v := 2) hx hb dX1_lay_26 (by decide) ?_
  refine lv_iadd hx hb dX1_lay_27 ?_
  refine lv_iload_n hx hb dX1_lay_28 rfl (lv_at hl 2 rfl) ?_
  refine lv_bipush (v := 8) hx hb dX1_lay_29 (by decide) ?_
  refine lv_iushr hx hb dX1_lay_31 rfl ?_
  refine lv_sipush (v := 255) hx hb dX1_lay_32 (by decide) ?_
  refine lv_iand hx hb dX1_lay_35 ?_
  refine g_iast (g := upd (upd (upd f i (gUshr w 24 &&& 255)) (i + 1) (gUshr w 16 &&& 255)) (i + 2) (gUshr w 8 &&& 255)) hx hb hK hP hD hS 0 0 rfl rfl (i + 2) (nI_add i 2) (by omega) hn rfl dX1_lay_36 (fun H locs hP hD hS => ?_)
  have hP : va_P D vwCl [(a, .inl (c1, n, .inl (upd (upd (upd f i (gUshr w 24 &&& 255)) (i + 1) (gUshr w 16 &&& 255)) (i + 2) (gUshr w 8 &&& 255))))] H := hP
  have hD : va_D A [(a, .inl (c1, n, .inl (upd (upd (upd f i (gUshr w 24 &&& 255)) (i + 1) (gUshr w 16 &&& 255)) (i + 2) (gUshr w 8 &&& 255))))] := hD
  refine lv_aload_n hx hb dX1_lay_37 rfl (lv_at hl 0 rfl) ?_
  refine lv_iload_n hx hb dX1_lay_38 rfl (lv_at hl 1 rfl) ?_
  refine lv_iconst (v := 3) hx hb dX1_lay_39 (by decide) ?_
  refine lv_iadd hx hb dX1_lay_40 ?_
  refine lv_iload_n hx hb dX1_lay_41 rfl (lv_at hl 2 rfl) ?_
  refine lv_sipush (v := 255) hx hb dX1_lay_42 (by decide) ?_
  refine lv_iand hx hb dX1_lay_45 ?_
  refine g_iast (g := gLay f i w) hx hb hK hP hD hS 0 0 rfl rfl (i + 3) (nI_add i 3) (by omega) hn rfl dX1_lay_46 (fun H locs hP hD hS => ?_)
  have hP : va_P D vwCl [(a, .inl (c1, n, .inl (gLay f i w)))] H := hP
  have hD : va_D A [(a, .inl (c1, n, .inl (gLay f i w)))] := hD
  exact g_vret hx hb hr hP hK hD hS hlocks dX1_lay_47
set_option maxHeartbeats 4000000 in
set_option maxRecDepth 100000 in
/-- GostDeskModel.number: four bytes, the lowest first -/
theorem mX1_number (l : Launch) (D : va_G) (a : Nat) (c1 : ClassId) (n : Nat) (f : Nat → Int32) (i : Nat) (tS tR : Nat) (hi : i + 3 < n) (hn : n < 2 ^ 31) : Met l yX1_number (ws_ yX1_number cX1_number 2 (some .int)) ({ frames := 0, cells := 0, slots := 0, locals := 0 }) (va_Pc [.ref a, .int (nI i)] (gPr D [(a, .inl (c1, n, .inl f))] [(c1, .int)] tS tR)) (vp_Si (fun z => z = gW f i)) 0 0 (fun _ => False) := by
  refine gMetR (vp_Si (fun z => z = gW f i)) (by decide) (Nat.le_of_ble_eq_true rfl) ?_
  intro p e s m below meth c ls hx hb hr hts hown hlocks hml hP hK hZ hS hl
  have hl : lv_has ls 2 [(0, .ref a), (1, .int (nI i))] := hl
  refine lv_aload_n hx hb dX1_number_0 rfl (lv_at hl 0 rfl) ?_
  refine lv_iload_n hx hb dX1_number_1 rfl (lv_at hl 1 rfl) ?_
  refine g_iald hx hb hK hP 0 0 rfl rfl (i) rfl (by omega) hn dX1_number_2 ?_
  refine lv_aload_n hx hb dX1_number_3 rfl (lv_at hl 0 rfl) ?_
  refine lv_iload_n hx hb dX1_number_4 rfl (lv_at hl 1 rfl) ?_
  refine lv_iconst (v := 1) hx hb dX1_number_5 (by decide) ?_
  refine lv_iadd hx hb dX1_number_6 ?_
  refine g_iald hx hb hK hP 0 0 rfl rfl (i + 1) (nI_1 i) (by omega) hn dX1_number_7 ?_
  refine lv_bipush (v := 8) hx hb dX1_number_8 (by decide) ?_
  refine lv_ishl hx hb dX1_number_10 ?_
  refine lv_ior hx hb dX1_number_11 ?_
  refine lv_aload_n hx hb dX1_number_12 rfl (lv_at hl 0 rfl) ?_
  refine lv_iload_n hx hb dX1_number_13 rfl (lv_at hl 1 rfl) ?_
  refine lv_iconst (v := 2) hx hb dX1_number_14 (by decide) ?_
  refine lv_iadd hx hb dX1_number_15 ?_
  refine g_iald hx hb hK hP 0 0 rfl rfl (i + 2) (nI_add i 2) (by omega) hn dX1_number_16 ?_
  refine lv_bipush (v := 16) hx hb dX1_number_17 (by decide) ?_
  refine lv_ishl hx hb dX1_number_19 ?_
  refine lv_ior hx hb dX1_number_20 ?_
  refine lv_aload_n hx hb dX1_number_21 rfl (lv_at hl 0 rfl) ?_
  refine lv_iload_n hx hb dX1_number_22 rfl (lv_at hl 1 rfl) ?_
  refine lv_iconst (v := 3) hx hb dX1_number_23 (by decide) ?_
  refine lv_iadd hx hb dX1_number_24 ?_
  refine g_iald hx hb hK hP 0 0 rfl rfl (i + 3) (nI_add i 3) (by omega) hn dX1_number_25 ?_
  refine lv_bipush (v := 24) hx hb dX1_number_26 (by decide) ?_
  refine lv_ishl hx hb dX1_number_28 ?_
  refine lv_ior hx hb dX1_number_29 ?_
  exact g_iret hx hb hr rfl hlocks dX1_number_30
set_option maxHeartbeats 4000000 in
set_option maxRecDepth 100000 in
/-- GostDeskModel.mix -/
theorem mX1_mix (l : Launch) (D : va_G) (x : Int32) (tS tR : Nat) : Met l yX1_mix (ws_ yX1_mix cX1_mix 4 (some .int)) ({ frames := 0, cells := 0, slots := 0, locals := 0 }) (va_Pc [.int x] (gPr D [] [] tS tR)) (vp_Si (fun z => z = gMix x)) 0 0 (fun _ => False) := by
  refine gMetR (vp_Si (fun z => z = gMix x)) (by decide) (Nat.le_of_ble_eq_true rfl) ?_
  intro p e s m below meth c ls hx hb hr hts hown hlocks hml hP hK hZ hS hl
  have hl : lv_has ls 4 [(0, .int x)] := hl
  have loop : ∀ (n i : Nat), i ≤ 8 → 9 ≤ i + n → ∀ ls : Array Slot, lv_has ls 4 [(0, .int x), (1, .int (nI (gSum x i))), (2, .int (nI i))] → W p l e (headSpec (ws_ yX1_mix cX1_mix 4 (some .int)) ({ frames := 0, cells := 0, slots := 0, locals := 0 })).room s m ([.int x] : List Value).toArray below meth c s.heap [] 0 0 (MQ below (vp_Si (fun z => z = gMix x)) ([.int x] : List Value).toArray s 0 0 (fun _ => False)) (F0 m 4 ls []) := by
    intro n
    induction n with
    | zero => intro i k1 k2; exact absurd k2 (by omega)
    | succ n ih =>
      intro i k1 k2 ls hl
      refine lv_iload_n hx hb dX1_mix_4 rfl (lv_at hl 2 rfl) ?_
      refine lv_bipush (v := 8) hx hb dX1_mix_5 (by decide) ?_
      refine lv_icmp_ge (tgt := 42) hx hb dX1_mix_7 (by decide) (fun c7 => ?_) (fun c7 => ?_)
      · obtain rfl : i = 8 := Nat.le_antisymm k1 ((nI_leI (a := 8) (b := i) (by omega) (by omega)).mp c7)
        refine lv_iload_n hx hb dX1_mix_42 rfl (lv_at hl 1 rfl) ?_
        refine lv_bipush (v := 11) hx hb dX1_mix_43 (by decide) ?_
        refine lv_ishl hx hb dX1_mix_45 ?_
        refine lv_iload_n hx hb dX1_mix_46 rfl (lv_at hl 1 rfl) ?_
        refine lv_bipush (v := 21) hx hb dX1_mix_47 (by decide) ?_
        refine lv_iushr hx hb dX1_mix_49 rfl ?_
        refine lv_ior hx hb dX1_mix_50 ?_
        exact g_iret hx hb hr rfl hlocks dX1_mix_51
      · have hi : i < 8 := Nat.lt_of_not_le fun q => c7 (nI_le (a := 8) (b := i) q (by omega))
        refine lv_iload_n hx hb dX1_mix_10 rfl (lv_at hl 0 rfl) ?_
        refine lv_iconst (v := 4) hx hb dX1_mix_11 (by decide) ?_
        refine lv_iload_n hx hb dX1_mix_12 rfl (lv_at hl 2 rfl) ?_
        refine lv_imul hx hb dX1_mix_13 ?_
        refine lv_iushr hx hb dX1_mix_14 rfl ?_
        refine lv_bipush (v := 15) hx hb dX1_mix_15 (by decide) ?_
        refine lv_iand hx hb dX1_mix_17 ?_
        refine g_top (nI (gNib x i)) (g_four x i hi) ?_
        refine lv_istore_n (lv' := [(3, .int (nI (gNib x i))), (0, .int x), (1, .int (nI (gSum x i))), (2, .int (nI i))]) hx hb dX1_mix_18 rfl hl (by decide) rfl (fun ls hl => ?_)
        refine lv_iload_n hx hb dX1_mix_19 rfl (lv_at hl 2 rfl) ?_
        refine va_gets hx hb (v := .ref tR) hZ.2.1.1 hS hown (hts _ q347) (fun _ h9 => h9) dX1_mix_20 ?_
        refine lv_bipush (v := 16) hx hb dX1_mix_23 (by decide) ?_
        refine lv_iload_n hx hb dX1_mix_25 rfl (lv_at hl 3 rfl) ?_
        refine lv_imul hx hb dX1_mix_26 ?_
        refine lv_iload_n hx hb dX1_mix_27 rfl (lv_at hl 0 rfl) ?_
        refine lv_iadd hx hb dX1_mix_28 ?_
        refine g_ti hx hb hZ.2.1.2 hS (16 * i + gNib x i) (g_idx x i) (g_ix_lt x i hi) (by decide) (v := .int (nI (gS (16 * i + gNib x i)))) rfl dX1_mix_29 ?_
        refine lv_iconst (v := 4) hx hb dX1_mix_30 (by decide) ?_
        refine lv_iload_n hx hb dX1_mix_31 rfl (lv_at hl 3 rfl) ?_
        refine lv_imul hx hb dX1_mix_32 ?_
        refine lv_ishl hx hb dX1_mix_33 ?_
        refine lv_ior hx hb dX1_mix_34 ?_
        refine g_top (nI (gSum x (i + 1))) (g_accm x i hi) ?_
        refine lv_istore_n (lv' := [(1, .int (nI (gSum x (i + 1)))), (3, .int (nI (gNib x i))), (0, .int x), (2, .int (nI i))]) hx hb dX1_mix_35 rfl hl (by decide) rfl (fun ls hl => ?_)
        refine lv_iinc (v := (nI (i + 1))) (lv' := [(2, .int (nI (i + 1))), (1, .int (nI (gSum x (i + 1)))), (3, .int (nI (gNib x i))), (0, .int x)]) hx hb dX1_mix_36 hl (k := 3) rfl (nI_1 i) (by decide) rfl (fun ls hl => ?_)
        refine lv_goto (tgt := 4) hx hb dX1_mix_39 (by decide) ?_
        exact ih (i + 1) hi (by omega) ls (lv_sub hl [3, 1, 0] rfl)
  refine lv_iconst (v := 0) hx hb dX1_mix_0 (by decide) ?_
  refine g_top (nI (gSum x 0)) rfl ?_
  refine lv_istore_n (lv' := [(1, .int (nI (gSum x 0))), (0, .int x)]) hx hb dX1_mix_1 rfl hl (by decide) rfl (fun ls hl => ?_)
  refine lv_iconst (v := 0) hx hb dX1_mix_2 (by decide) ?_
  refine g_top (nI 0) rfl ?_
  refine lv_istore_n (lv' := [(2, .int (nI 0)), (1, .int (nI (gSum x 0))), (0, .int x)]) hx hb dX1_mix_3 rfl hl (by decide) rfl (fun ls hl => ?_)
  exact loop 9 0 (by omega) (by omega) ls (lv_sub hl [2, 1, 0] rfl)
set_option maxHeartbeats 4000000 in
set_option maxRecDepth 100000 in
/-- GostDeskModel.wordOfRound -/
theorem mX1_wordOfRound (l : Launch) (D : va_G) (b : Bool) (r : Nat) (tS tR : Nat) (hr32 : r < 32) : Met l yX1_wordOfRound (ws_ yX1_wordOfRound cX1_wordOfRound 2 (some .int)) ({ frames := 0, cells := 0, slots := 0, locals := 0 }) (va_Pc [.int (gBi b), .int (nI r)] (gPr D [] [] tS tR)) (vp_Si (fun z => z = nI (gSch b r))) 0 0 (fun _ => False) := by
  refine gMetR (vp_Si (fun z => z = nI (gSch b r))) (by decide) (Nat.le_of_ble_eq_true rfl) ?_
  intro p e s m below meth c ls hx hb hr hts hown hlocks hml hP hK hZ hS hl
  have hl : lv_has ls 2 [(0, .int (gBi b)), (1, .int (nI r))] := hl
  refine lv_iload_n hx hb dX1_wordOfRound_0 rfl (lv_at hl 0 rfl) ?_
  refine lv_if_eq (tgt := 20) hx hb dX1_wordOfRound_1 (by decide) (fun c1 => ?_) (fun c1 => ?_)
  · obtain rfl : b = false := gBi_0 c1
    refine lv_iload_n hx hb dX1_wordOfRound_20 rfl (lv_at hl 1 rfl) ?_
    refine lv_bipush (v := 8) hx hb dX1_wordOfRound_21 (by decide) ?_
    refine lv_icmp_ge (tgt := 28) hx hb dX1_wordOfRound_23 (by decide) (fun c23 => ?_) (fun c23 => ?_)
    · have h8 : 8 ≤ r := (nI_leI (a := 8) (b := r) (by omega) (by omega)).mp c23
      refine lv_bipush (v := 7) hx hb dX1_wordOfRound_28 (by decide) ?_
      refine lv_iload_n hx hb dX1_wordOfRound_30 rfl (lv_at hl 1 rfl) ?_
      refine lv_bipush (v := 8) hx hb dX1_wordOfRound_31 (by decide) ?_
      refine lv_irem hx hb dX1_wordOfRound_33 (by decide) ?_
      refine g_top (nI (r % 8)) (pk_rem (a := r) (d := 8) (by omega) (by omega) (by omega)) ?_
      refine lv_isub hx hb dX1_wordOfRound_34 ?_
      exact g_iret hx hb hr ((pk_sub (a := 7) (b := r % 8) (by omega)).trans (by unfold gSch; rw [if_neg (by decide), if_neg (by omega)])) hlocks dX1_wordOfRound_35
    · have h8 : ¬ 8 ≤ r := fun q => c23 (nI_le (a := 8) (b := r) q (by omega))
      refine lv_iload_n hx hb dX1_wordOfRound_26 rfl (lv_at hl 1 rfl) ?_
      exact g_iret hx hb hr (by unfold gSch; rw [if_neg (by decide), if_pos (by omega)]) hlocks dX1_wordOfRound_27
  · obtain rfl : b = true := gBi_1 c1
    refine lv_iload_n hx hb dX1_wordOfRound_4 rfl (lv_at hl 1 rfl) ?_
    refine lv_bipush (v := 24) hx hb dX1_wordOfRound_5 (by decide) ?_
    refine lv_icmp_ge (tgt := 15) hx hb dX1_wordOfRound_7 (by decide) (fun c7 => ?_) (fun c7 => ?_)
    · have h8 : 24 ≤ r := (nI_leI (a := 24) (b := r) (by omega) (by omega)).mp c7
      refine lv_bipush (v := 31) hx hb dX1_wordOfRound_15 (by decide) ?_
      refine lv_iload_n hx hb dX1_wordOfRound_17 rfl (lv_at hl 1 rfl) ?_
      refine lv_isub hx hb dX1_wordOfRound_18 ?_
      exact g_iret hx hb hr ((pk_sub (a := 31) (b := r) (by omega)).trans (by unfold gSch; rw [if_pos rfl, if_neg (by omega)])) hlocks dX1_wordOfRound_19
    · have h8 : ¬ 24 ≤ r := fun q => c7 (nI_le (a := 24) (b := r) q (by omega))
      refine lv_iload_n hx hb dX1_wordOfRound_10 rfl (lv_at hl 1 rfl) ?_
      refine lv_bipush (v := 8) hx hb dX1_wordOfRound_11 (by decide) ?_
      refine lv_irem hx hb dX1_wordOfRound_13 (by decide) ?_
      refine g_top (nI (r % 8)) (pk_rem (a := r) (d := 8) (by omega) (by omega) (by omega)) ?_
      exact g_iret hx hb hr (by unfold gSch; rw [if_pos rfl, if_pos (by omega)]) hlocks dX1_wordOfRound_14
set_option maxHeartbeats 4000000 in
set_option maxRecDepth 100000 in
/-- GostDeskModel(): three arrays of zeros -/
theorem mX1_init (l : Launch) (D : va_G) (h0 : Nat) (sz tS tR : Nat) : Met l yX1_init (ws_ yX1_init cX1_init 1 none) ({ frames := 1, cells := 3, slots := 48, locals := 12 }) (va_Pc [.ref h0] (gPw D sz [(h0, .inr (1, [.null, .null, .null]))] [] tS tR)) (va_Qv (fun _ : Unit => True) (fun _ t => ∃ (h1 h2 h3 : Nat) (c1 c2 c3 : ClassId), gBw D (va_A [(h0, .inr (1, [.null, .null, .null]))] sz) [(h0, .inr (1, [.ref h1, .ref h2, .ref h3])), (h1, .inl (c1, 32, .inl (fun _ => 0))), (h2, .inl (c2, 8, .inl (fun _ => 0))), (h3, .inl (c3, 8, .inl (fun _ => 0)))] [(c1, .int), (c2, .int), (c3, .int)] t) (va_A [(h0, .inr (1, [.null, .null, .null]))] sz)) 3 48 (va_A [(h0, .inr (1, [.null, .null, .null]))] sz) := by
  refine gMetW (fun A => va_Qv (fun _ : Unit => True) (fun _ t => ∃ (h1 h2 h3 : Nat) (c1 c2 c3 : ClassId), gBw D A [(h0, .inr (1, [.ref h1, .ref h2, .ref h3])), (h1, .inl (c1, 32, .inl (fun _ => 0))), (h2, .inl (c2, 8, .inl (fun _ => 0))), (h3, .inl (c3, 8, .inl (fun _ => 0)))] [(c1, .int), (c2, .int), (c3, .int)] t) A) (by decide) (Nat.le_of_ble_eq_true rfl) ?_
  intro p e s m below meth c A ls hx hb hr hts hown hlocks hin hml hAe hA hsz hP hK hD hZ hS hl
  have hl : lv_has ls 1 [(0, .ref h0)] := hl
  refine lv_aload_n hx hb dX1_init_0 rfl (lv_at hl 0 rfl) ?_
  refine W.objInit hx hb hown (hts _ q308) (hts _ q29) (hts _ q30) rfl (by rw [hml]; exact hl.1) rfl dX1_init_1 (Nat.le_of_ble_eq_true rfl) (Nat.le_of_ble_eq_true rfl) ?_
  refine W.eq (g2 := F0 m 4 ls []) rfl ?_
  refine lv_aload_n hx hb dX1_init_4 rfl (lv_at hl 0 rfl) ?_
  refine lv_bipush (v := 32) hx hb dX1_init_5 (by decide) ?_
  refine va_newa (atype := .int) (ty := .int) (N' := 32) (a0 := (32, .inl (fun _ => 0))) hx hb (hts _ q241) rfl hK hP hD hS hA (fun _ => rfl) (by decide) rfl (Nat.le_of_ble_eq_true rfl) (Nat.le_of_ble_eq_true rfl) (Nat.le_of_ble_eq_true rfl) dX1_init_7 (fun h1 c1 H hK hP hD hS => ?_)
  have hP : va_P D vwCl [(h0, .inr (1, [.null, .null, .null])), (h1, .inl (c1, 32, .inl (fun _ => 0)))] H := hP
  have hD : va_D A [(h0, .inr (1, [.null, .null, .null])), (h1, .inl (c1, 32, .inl (fun _ => 0)))] := hD
  have hK : va_K D vwCl [(c1, .int)] s := hK
  refine W.widen (k := 1) (n := 32) (Nat.le_of_ble_eq_true rfl) (Nat.le_of_ble_eq_true rfl) ?_
  refine va_putF (D := D) (ci := 1) (v := .ref h1) (ty := .array .int) (C := RX1) (T := TX1) (N := 3) hx hb hts in_X1 tyX1 tyX1_ok nmX1 hown hK hP hD hS 0 rfl rfl 0 (by decide) (hts _ q309) (fun _ h9 => h9) rfl hin rfl (by decide +kernel) rfl rfl (Nat.le_of_ble_eq_true rfl) dX1_init_9 (fun H locs hP hD hS => ?_)
  have hP : va_P D vwCl [(h0, .inr (1, [.ref h1, .null, .null])), (h1, .inl (c1, 32, .inl (fun _ => 0)))] H := hP
  have hD : va_D A [(h0, .inr (1, [.ref h1, .null, .null])), (h1, .inl (c1, 32, .inl (fun _ => 0)))] := hD
  refine lv_aload_n hx hb dX1_init_12 rfl (lv_at hl 0 rfl) ?_
  refine lv_bipush (v := 8) hx hb dX1_init_13 (by decide) ?_
  refine va_newa (atype := .int) (ty := .int) (N' := 8) (a0 := (8, .inl (fun _ => 0))) hx hb (hts _ q241) rfl hK hP hD hS hA (fun _ => rfl) (by decide) rfl (Nat.le_of_ble_eq_true rfl) (Nat.le_of_ble_eq_true rfl) (Nat.le_of_ble_eq_true rfl) dX1_init_15 (fun h2 c2 H hK hP hD hS => ?_)
  have hP : va_P D vwCl [(h0, .inr (1, [.ref h1, .null, .null])), (h1, .inl (c1, 32, .inl (fun _ => 0))), (h2, .inl (c2, 8, .inl (fun _ => 0)))] H := hP
  have hD : va_D A [(h0, .inr (1, [.ref h1, .null, .null])), (h1, .inl (c1, 32, .inl (fun _ => 0))), (h2, .inl (c2, 8, .inl (fun _ => 0)))] := hD
  have hK : va_K D vwCl [(c1, .int), (c2, .int)] s := hK
  refine W.widen (k := 2) (n := 40) (Nat.le_of_ble_eq_true rfl) (Nat.le_of_ble_eq_true rfl) ?_
  refine va_putF (D := D) (ci := 1) (v := .ref h2) (ty := .array .int) (C := RX1) (T := TX1) (N := 3) hx hb hts in_X1 tyX1 tyX1_ok nmX1 hown hK hP hD hS 0 rfl rfl 1 (by decide) (hts _ q310) (fun _ h9 => h9) rfl hin rfl (by decide +kernel) rfl rfl (Nat.le_of_ble_eq_true rfl) dX1_init_17 (fun H locs hP hD hS => ?_)
  have hP : va_P D vwCl [(h0, .inr (1, [.ref h1, .ref h2, .null])), (h1, .inl (c1, 32, .inl (fun _ => 0))), (h2, .inl (c2, 8, .inl (fun _ => 0)))] H := hP
  have hD : va_D A [(h0, .inr (1, [.ref h1, .ref h2, .null])), (h1, .inl (c1, 32, .inl (fun _ => 0))), (h2, .inl (c2, 8, .inl (fun _ => 0)))] := hD
  refine lv_aload_n hx hb dX1_init_20 rfl (lv_at hl 0 rfl) ?_
  refine lv_bipush (v := 8) hx hb dX1_init_21 (by decide) ?_
  refine va_newa (atype := .int) (ty := .int) (N' := 8) (a0 := (8, .inl (fun _ => 0))) hx hb (hts _ q241) rfl hK hP hD hS hA (fun _ => rfl) (by decide) rfl (Nat.le_of_ble_eq_true rfl) (Nat.le_of_ble_eq_true rfl) (Nat.le_of_ble_eq_true rfl) dX1_init_23 (fun h3 c3 H hK hP hD hS => ?_)
  have hP : va_P D vwCl [(h0, .inr (1, [.ref h1, .ref h2, .null])), (h1, .inl (c1, 32, .inl (fun _ => 0))), (h2, .inl (c2, 8, .inl (fun _ => 0))), (h3, .inl (c3, 8, .inl (fun _ => 0)))] H := hP
  have hD : va_D A [(h0, .inr (1, [.ref h1, .ref h2, .null])), (h1, .inl (c1, 32, .inl (fun _ => 0))), (h2, .inl (c2, 8, .inl (fun _ => 0))), (h3, .inl (c3, 8, .inl (fun _ => 0)))] := hD
  have hK : va_K D vwCl [(c1, .int), (c2, .int), (c3, .int)] s := hK
  refine W.widen (k := 3) (n := 48) (Nat.le_of_ble_eq_true rfl) (Nat.le_of_ble_eq_true rfl) ?_
  refine va_putF (D := D) (ci := 1) (v := .ref h3) (ty := .array .int) (C := RX1) (T := TX1) (N := 3) hx hb hts in_X1 tyX1 tyX1_ok nmX1 hown hK hP hD hS 0 rfl rfl 2 (by decide) (hts _ q311) (fun _ h9 => h9) rfl hin rfl (by decide +kernel) rfl rfl (Nat.le_of_ble_eq_true rfl) dX1_init_25 (fun H locs hP hD hS => ?_)
  have hP : va_P D vwCl [(h0, .inr (1, [.ref h1, .ref h2, .ref h3])), (h1, .inl (c1, 32, .inl (fun _ => 0))), (h2, .inl (c2, 8, .inl (fun _ => 0))), (h3, .inl (c3, 8, .inl (fun _ => 0)))] H := hP
  have hD : va_D A [(h0, .inr (1, [.ref h1, .ref h2, .ref h3])), (h1, .inl (c1, 32, .inl (fun _ => 0))), (h2, .inl (c2, 8, .inl (fun _ => 0))), (h3, .inl (c3, 8, .inl (fun _ => 0)))] := hD
  exact W.vret hx hb hr (fun t ht hW => ⟨⟨(), rfl, trivial, h1, h2, h3, c1, c2, c3, by rw [ht]; exact hP, va_K.moved hW.alike hK, hD⟩, hS.F ht⟩) hS.2.2 dX1_init_28 hlocks
set_option maxHeartbeats 4000000 in
set_option maxRecDepth 100000 in
/-- GostDeskModel.key -/
theorem mX1_key (l : Launch) (D : va_G) (h0 h1 h2 h3 : Nat) (c1 c2 c3 : ClassId) (kf bf of : Nat → Int32) (p1 p2 p3 p4 p5 : Int32) (sz tS tR : Nat) : Met l yX1_key (ws_ yX1_key cX1_key 7 none) ({ frames := 1, cells := 0, slots := 0, locals := 22 }) (va_Pc [.ref h0, .int p1, .int p2, .int p3, .int p4, .int p5] (gPw D sz [(h0, .inr (1, [.ref h1, .ref h2, .ref h3])), (h1, .inl (c1, 32, .inl kf)), (h2, .inl (c2, 8, .inl bf)), (h3, .inl (c3, 8, .inl of))] [(c1, .int), (c2, .int), (c3, .int)] tS tR)) (va_Qv (fun _ : Unit => True) (fun _ => gBw D (va_A [(h0, .inr (1, [.ref h1, .ref h2, .ref h3])), (h1, .inl (c1, 32, .inl kf)), (h2, .inl (c2, 8, .inl bf)), (h3, .inl (c3, 8, .inl of))] sz) [(h0, .inr (1, [.ref h1, .ref h2, .ref h3])), (h1, .inl (c1, 32, .inl (gLay4 kf (16 * gHalf p1) p2 p3 p4 p5))), (h2, .inl (c2, 8, .inl bf)), (h3, .inl (c3, 8, .inl of))] [(c1, .int), (c2, .int), (c3, .int)]) (va_A [(h0, .inr (1, [.ref h1, .ref h2, .ref h3])), (h1, .inl (c1, 32, .inl kf)), (h2, .inl (c2, 8, .inl bf)), (h3, .inl (c3, 8, .inl of))] sz)) 0 0 (va_A [(h0, .inr (1, [.ref h1, .ref h2, .ref h3])), (h1, .inl (c1, 32, .inl kf)), (h2, .inl (c2, 8, .inl bf)), (h3, .inl (c3, 8, .inl of))] sz) := by
  refine gMetW (fun A => va_Qv (fun _ : Unit => True) (fun _ => gBw D A [(h0, .inr (1, [.ref h1, .ref h2, .ref h3])), (h1, .inl (c1, 32, .inl (gLay4 kf (16 * gHalf p1) p2 p3 p4 p5))), (h2, .inl (c2, 8, .inl bf)), (h3, .inl (c3, 8, .inl of))] [(c1, .int), (c2, .int), (c3, .int)]) A) (by decide) (Nat.le_of_ble_eq_true rfl) ?_
  intro p e s m below meth c A ls hx hb hr hts hown hlocks hin hml hAe hA hsz hP hK hD hZ hS hl
  have hl : lv_has ls 7 [(0, .ref h0), (1, .int p1), (2, .int p2), (3, .int p3), (4, .int p4), (5, .int p5)] := hl
  have go : ∀ (ls : Array Slot), lv_has ls 7 [(0, .ref h0), (2, .int p2), (3, .int p3), (4, .int p4), (5, .int p5), (6, .int (nI (16 * gHalf p1)))] → W p l e (headSpec (ws_ yX1_key cX1_key 7 none) ({ frames := 1, cells := 0, slots := 0, locals := 22 })).room s m ([.ref h0, .int p1, .int p2, .int p3, .int p4, .int p5] : List Value).toArray below meth c s.heap [] 0 0 (MQ below (va_Qv (fun _ : Unit => True) (fun _ => gBw D A [(h0, .inr (1, [.ref h1, .ref h2, .ref h3])), (h1, .inl (c1, 32, .inl (gLay4 kf (16 * gHalf p1) p2 p3 p4 p5))), (h2, .inl (c2, 8, .inl bf)), (h3, .inl (c3, 8, .inl of))] [(c1, .int), (c2, .int), (c3, .int)]) A) ([.ref h0, .int p1, .int p2, .int p3, .int p4, .int p5] : List Value).toArray s 0 0 A) (F0 m 14 ls []) := by
    intro ls hl
    refine lv_aload_n hx hb dX1_key_14 rfl (lv_at hl 0 rfl) ?_
    refine va_get (D := D) (ci := 1) (v := .ref h1) (C := RX1) (T := TX1) (N := 3) hx hb hts in_X1 hown hK hP 0 rfl rfl 0 (by decide) (hts _ q309) (fun _ h9 => h9) rfl dX1_key_15 ?_
    refine lv_iload hx hb dX1_key_18 (lv_at hl 5 rfl) ?_
    refine lv_iload_n hx hb dX1_key_20 rfl (lv_at hl 1 rfl) ?_
    have hPc := hP.sub (ws' := [(h1, .inl (c1, 32, .inl kf))]) [1] rfl
    have hDc := hD.sub (ws' := [(h1, .inl (c1, 32, .inl kf))]) [1] (by decide) rfl
    have hKc := hK.sub (tys' := [(c1, .int)]) [0] rfl
    have hFc := va_free (wc := [(h1, .inl (c1, 32, .inl kf))]) hD hS hA [1] rfl
    refine va_callv (va_runS (As := [.ref h1, .int (nI (16 * gHalf p1)), .int p2]) (rest := []) ⟨hx, hb, hml, hown, hts⟩ (mX1_lay l D h1 c1 32 (kf) (16 * gHalf p1) p2 s.heap.size tS tR (by have := gHalf_lt p1; omega) (by decide)) (va_cwS 3 hts (lw_S q323 q324 q10 q325) rfl rfl rfl (by decide +kernel) ⟨Nat.le_of_ble_eq_true rfl, Nat.le_of_ble_eq_true rfl⟩) ⟨gPw_blind, gPw_of hPc hKc hDc hZ hS hFc⟩ rfl rfl hl.1 rfl (lv_room (Nat.le_of_ble_eq_true rfl)) dX1_key_21 ⟨Nat.le_of_ble_eq_true rfl, Nat.le_of_ble_eq_true rfl⟩) hS (fun q _ h => hFc q h) hFc (fun u t H1 locs ht hvm hw hB hz1 hk1 hS => ?_)
    obtain ⟨hP1, hK1, hD1⟩ := hB
    rw [ht] at hP1
    have hK1 := va_K.moved hvm.symm hK1
    obtain ⟨hP, hD⟩ := va_join (wr := [(h0, .inr (1, [.ref h1, .ref h2, .ref h3])), (h2, .inl (c2, 8, .inl bf)), (h3, .inl (c3, 8, .inl of))]) (w1 := [(h1, .inl (c1, 32, .inl (gLay (kf) (16 * gHalf p1) p2)))]) hP hD [1] [0, 2, 3] rfl rfl (by decide) (by decide) hk1 hFc hP1 hD1
    have hK := (hK.sub (tys' := [(c1, .int), (c2, .int), (c3, .int)]) [0, 1, 2] rfl).app (hK1.sub (tys' := []) [] rfl)
    generalize H1 = H at hP hS ⊢
    have hP : va_P D vwCl [(h0, .inr (1, [.ref h1, .ref h2, .ref h3])), (h2, .inl (c2, 8, .inl bf)), (h3, .inl (c3, 8, .inl of)), (h1, .inl (c1, 32, .inl (gLay (kf) (16 * gHalf p1) p2)))] H := hP
    have hD : va_D A [(h0, .inr (1, [.ref h1, .ref h2, .ref h3])), (h2, .inl (c2, 8, .inl bf)), (h3, .inl (c3, 8, .inl of)), (h1, .inl (c1, 32, .inl (gLay (kf) (16 * gHalf p1) p2)))] := hD
    have hK : va_K D vwCl [(c1, .int), (c2, .int), (c3, .int)] s := hK
    refine W.widen (k := 0) (n := 0) (Nat.le_of_ble_eq_true rfl) (Nat.le_of_ble_eq_true rfl) ?_
    refine lv_aload_n hx hb dX1_key_24 rfl (lv_at hl 0 rfl) ?_
    refine va_get (D := D) (ci := 1) (v := .ref h1) (C := RX1) (T := TX1) (N := 3) hx hb hts in_X1 hown hK hP 0 rfl rfl 0 (by decide) (hts _ q309) (fun _ h9 => h9) rfl dX1_key_25 ?_
    refine lv_iload hx hb dX1_key_28 (lv_at hl 5 rfl) ?_
    refine lv_iconst (v := 4) hx hb dX1_key_30 (by decide) ?_
    refine lv_iadd hx hb dX1_key_31 ?_
    refine g_top (nI (16 * gHalf p1 + 4)) (nI_add _ 4) ?_
    refine lv_iload_n hx hb dX1_key_32 rfl (lv_at hl 2 rfl) ?_
    have hPc := hP.sub (ws' := [(h1, .inl (c1, 32, .inl (gLay (kf) (16 * gHalf p1) p2)))]) [3] rfl
    have hDc := hD.sub (ws' := [(h1, .inl (c1, 32, .inl (gLay (kf) (16 * gHalf p1) p2)))]) [3] (by decide) rfl
    have hKc := hK.sub (tys' := [(c1, .int)]) [0] rfl
    have hFc := va_free (wc := [(h1, .inl (c1, 32, .inl (gLay (kf) (16 * gHalf p1) p2)))]) hD hS hA [3] rfl
    refine va_callv (va_runS (As := [.ref h1, .int (nI (16 * gHalf p1 + 4)), .int p3]) (rest := []) ⟨hx, hb, hml, hown, hts⟩ (mX1_lay l D h1 c1 32 (gLay (kf) (16 * gHalf p1) p2) (16 * gHalf p1 + 4) p3 H.size tS tR (by have := gHalf_lt p1; omega) (by decide)) (va_cwS 3 hts (lw_S q323 q324 q10 q325) rfl rfl rfl (by decide +kernel) ⟨Nat.le_of_ble_eq_true rfl, Nat.le_of_ble_eq_true rfl⟩) ⟨gPw_blind, gPw_of hPc hKc hDc hZ hS hFc⟩ rfl rfl hl.1 rfl (lv_room (Nat.le_of_ble_eq_true rfl)) dX1_key_33 ⟨Nat.le_of_ble_eq_true rfl, Nat.le_of_ble_eq_true rfl⟩) hS (fun q _ h => hFc q h) hFc (fun u t H1 locs ht hvm hw hB hz1 hk1 hS => ?_)
    obtain ⟨hP1, hK1, hD1⟩ := hB
    rw [ht] at hP1
    have hK1 := va_K.moved hvm.symm hK1
    obtain ⟨hP, hD⟩ := va_join (wr := [(h0, .inr (1, [.ref h1, .ref h2, .ref h3])), (h2, .inl (c2, 8, .inl bf)), (h3, .inl (c3, 8, .inl of))]) (w1 := [(h1, .inl (c1, 32, .inl (gLay (gLay (kf) (16 * gHalf p1) p2) (16 * gHalf p1 + 4) p3)))]) hP hD [3] [0, 1, 2] rfl rfl (by decide) (by decide) hk1 hFc hP1 hD1
    have hK := (hK.sub (tys' := [(c1, .int), (c2, .int), (c3, .int)]) [0, 1, 2] rfl).app (hK1.sub (tys' := []) [] rfl)
    generalize H1 = H at hP hS ⊢
    have hP : va_P D vwCl [(h0, .inr (1, [.ref h1, .ref h2, .ref h3])), (h2, .inl (c2, 8, .inl bf)), (h3, .inl (c3, 8, .inl of)), (h1, .inl (c1, 32, .inl (gLay (gLay (kf) (16 * gHalf p1) p2) (16 * gHalf p1 + 4) p3)))] H := hP
    have hD : va_D A [(h0, .inr (1, [.ref h1, .ref h2, .ref h3])), (h2, .inl (c2, 8, .inl bf)), (h3, .inl (c3, 8, .inl of)), (h1, .inl (c1, 32, .inl (gLay (gLay (kf) (16 * gHalf p1) p2) (16 * gHalf p1 + 4) p3)))] := hD
    have hK : va_K D vwCl [(c1, .int), (c2, .int), (c3, .int)] s := hK
    refine W.widen (k := 0) (n := 0) (Nat.le_of_ble_eq_true rfl) (Nat.le_of_ble_eq_true rfl) ?_
    refine lv_aload_n hx hb dX1_key_36 rfl (lv_at hl 0 rfl) ?_
    refine va_get (D := D) (ci := 1) (v := .ref h1) (C := RX1) (T := TX1) (N := 3) hx hb hts in_X1 hown hK hP 0 rfl rfl 0 (by decide) (hts _ q309) (fun _ h9 => h9) rfl dX1_key_37 ?_
    refine lv_iload hx hb dX1_key_40 (lv_at hl 5 rfl) ?_
    refine lv_bipush (v := 8) hx hb dX1_key_42 (by decide) ?_
    refine lv_iadd hx hb dX1_key_44 ?_
    refine g_top (nI (16 * gHalf p1 + 8)) (nI_add _ 8) ?_
    refine lv_iload hx hb dX1_key_45 (lv_at hl 3 rfl) ?_
    have hPc := hP.sub (ws' := [(h1, .inl (c1, 32, .inl (gLay (gLay (kf) (16 * gHalf p1) p2) (16 * gHalf p1 + 4) p3)))]) [3] rfl
    have hDc := hD.sub (ws' := [(h1, .inl (c1, 32, .inl (gLay (gLay (kf) (16 * gHalf p1) p2) (16 * gHalf p1 + 4) p3)))]) [3] (by decide) rfl
    have hKc := hK.sub (tys' := [(c1, .int)]) [0] rfl
    have hFc := va_free (wc := [(h1, .inl (c1, 32, .inl (gLay (gLay (kf) (16 * gHalf p1) p2) (16 * gHalf p1 + 4) p3)))]) hD hS hA [3] rfl
    refine va_callv (va_runS (As := [.ref h1, .int (nI (16 * gHalf p1 + 8)), .int p4]) (rest := []) ⟨hx, hb, hml, hown, hts⟩ (mX1_lay l D h1 c1 32 (gLay (gLay (kf) (16 * gHalf p1) p2) (16 * gHalf p1 + 4) p3) (16 * gHalf p1 + 8) p4 H.size tS tR (by have := gHalf_lt p1; omega) (by decide)) (va_cwS 3 hts (lw_S q323 q324 q10 q325) rfl rfl rfl (by decide +kernel) ⟨Nat.le_of_ble_eq_true rfl, Nat.le_of_ble_eq_true rfl⟩) ⟨gPw_blind, gPw_of hPc hKc hDc hZ hS hFc⟩ rfl rfl hl.1 rfl (lv_room (Nat.le_of_ble_eq_true rfl)) dX1_key_47 ⟨Nat.le_of_ble_eq_true rfl, Nat.le_of_ble_eq_true rfl⟩) hS (fun q _ h => hFc q h) hFc (fun u t H1 locs ht hvm hw hB hz1 hk1 hS => ?_)
    obtain ⟨hP1, hK1, hD1⟩ := hB
    rw [ht] at hP1
    have hK1 := va_K.moved hvm.symm hK1
    obtain ⟨hP, hD⟩ := va_join (wr := [(h0, .inr (1, [.ref h1, .ref h2, .ref h3])), (h2, .inl (c2, 8, .inl bf)), (h3, .inl (c3, 8, .inl of))]) (w1 := [(h1, .inl (c1, 32, .inl (gLay (gLay (gLay (kf) (16 * gHalf p1) p2) (16 * gHalf p1 + 4) p3) (16 * gHalf p1 + 8) p4)))]) hP hD [3] [0, 1, 2] rfl rfl (by decide) (by decide) hk1 hFc hP1 hD1
    have hK := (hK.sub (tys' := [(c1, .int), (c2, .int), (c3, .int)]) [0, 1, 2] rfl).app (hK1.sub (tys' := []) [] rfl)
    generalize H1 = H at hP hS ⊢
    have hP : va_P D vwCl [(h0, .inr (1, [.ref h1, .ref h2, .ref h3])), (h2, .inl (c2, 8, .inl bf)), (h3, .inl (c3, 8, .inl of)), (h1, .inl (c1, 32, .inl (gLay (gLay (gLay (kf) (16 * gHalf p1) p2) (16 * gHalf p1 + 4) p3) (16 * gHalf p1 + 8) p4)))] H := hP
    have hD : va_D A [(h0, .inr (1, [.ref h1, .ref h2, .ref h3])), (h2, .inl (c2, 8, .inl bf)), (h3, .inl (c3, 8, .inl of)), (h1, .inl (c1, 32, .inl (gLay (gLay (gLay (kf) (16 * gHalf p1) p2) (16 * gHalf p1 + 4) p3) (16 * gHalf p1 + 8) p4)))] := hD
    have hK : va_K D vwCl [(c1, .int), (c2, .int), (c3, .int)] s := hK
    refine W.widen (k := 0) (n := 0) (Nat.le_of_ble_eq_true rfl) (Nat.le_of_ble_eq_true rfl) ?_
    refine lv_aload_n hx hb dX1_key_50 rfl (lv_at hl 0 rfl) ?_
    refine va_get (D := D) (ci := 1) (v := .ref h1) (C := RX1) (T := TX1) (N := 3) hx hb hts in_X1 hown hK hP 0 rfl rfl 0 (by decide) (hts _ q309) (fun _ h9 => h9) rfl dX1_key_51 ?_
    refine lv_iload hx hb dX1_key_54 (lv_at hl 5 rfl) ?_
    refine lv_bipush (v := 12) hx hb dX1_key_56 (by decide) ?_
    refine lv_iadd hx hb dX1_key_58 ?_
    refine g_top (nI (16 * gHalf p1 + 12)) (nI_add _ 12) ?_
    refine lv_iload hx hb dX1_key_59 (lv_at hl 4 rfl) ?_
    have hPc := hP.sub (ws' := [(h1, .inl (c1, 32, .inl (gLay (gLay (gLay (kf) (16 * gHalf p1) p2) (16 * gHalf p1 + 4) p3) (16 * gHalf p1 + 8) p4)))]) [3] rfl
    have hDc := hD.sub (ws' := [(h1, .inl (c1, 32, .inl (gLay (gLay (gLay (kf) (16 * gHalf p1) p2) (16 * gHalf p1 + 4) p3) (16 * gHalf p1 + 8) p4)))]) [3] (by decide) rfl
    have hKc := hK.sub (tys' := [(c1, .int)]) [0] rfl
    have hFc := va_free (wc := [(h1, .inl (c1, 32, .inl (gLay (gLay (gLay (kf) (16 * gHalf p1) p2) (16 * gHalf p1 + 4) p3) (16 * gHalf p1 + 8) p4)))]) hD hS hA [3] rfl
    refine va_callv (va_runS (As := [.ref h1, .int (nI (16 * gHalf p1 + 12)), .int p5]) (rest := []) ⟨hx, hb, hml, hown, hts⟩ (mX1_lay l D h1 c1 32 (gLay (gLay (gLay (kf) (16 * gHalf p1) p2) (16 * gHalf p1 + 4) p3) (16 * gHalf p1 + 8) p4) (16 * gHalf p1 + 12) p5 H.size tS tR (by have := gHalf_lt p1; omega) (by decide)) (va_cwS 3 hts (lw_S q323 q324 q10 q325) rfl rfl rfl (by decide +kernel) ⟨Nat.le_of_ble_eq_true rfl, Nat.le_of_ble_eq_true rfl⟩) ⟨gPw_blind, gPw_of hPc hKc hDc hZ hS hFc⟩ rfl rfl hl.1 rfl (lv_room (Nat.le_of_ble_eq_true rfl)) dX1_key_61 ⟨Nat.le_of_ble_eq_true rfl, Nat.le_of_ble_eq_true rfl⟩) hS (fun q _ h => hFc q h) hFc (fun u t H1 locs ht hvm hw hB hz1 hk1 hS => ?_)
    obtain ⟨hP1, hK1, hD1⟩ := hB
    rw [ht] at hP1
    have hK1 := va_K.moved hvm.symm hK1
    obtain ⟨hP, hD⟩ := va_join (wr := [(h0, .inr (1, [.ref h1, .ref h2, .ref h3])), (h2, .inl (c2, 8, .inl bf)), (h3, .inl (c3, 8, .inl of))]) (w1 := [(h1, .inl (c1, 32, .inl (gLay (gLay (gLay (gLay (kf) (16 * gHalf p1) p2) (16 * gHalf p1 + 4) p3) (16 * gHalf p1 + 8) p4) (16 * gHalf p1 + 12) p5)))]) hP hD [3] [0, 1, 2] rfl rfl (by decide) (by decide) hk1 hFc hP1 hD1
    have hK := (hK.sub (tys' := [(c1, .int), (c2, .int), (c3, .int)]) [0, 1, 2] rfl).app (hK1.sub (tys' := []) [] rfl)
    generalize H1 = H at hP hS ⊢
    have hP : va_P D vwCl [(h0, .inr (1, [.ref h1, .ref h2, .ref h3])), (h2, .inl (c2, 8, .inl bf)), (h3, .inl (c3, 8, .inl of)), (h1, .inl (c1, 32, .inl (gLay (gLay (gLay (gLay (kf) (16 * gHalf p1) p2) (16 * gHalf p1 + 4) p3) (16 * gHalf p1 + 8) p4) (16 * gHalf p1 + 12) p5)))] H := hP
    have hD : va_D A [(h0, .inr (1, [.ref h1, .ref h2, .ref h3])), (h2, .inl (c2, 8, .inl bf)), (h3, .inl (c3, 8, .inl of)), (h1, .inl (c1, 32, .inl (gLay (gLay (gLay (gLay (kf) (16 * gHalf p1) p2) (16 * gHalf p1 + 4) p3) (16 * gHalf p1 + 8) p4) (16 * gHalf p1 + 12) p5)))] := hD
    have hK : va_K D vwCl [(c1, .int), (c2, .int), (c3, .int)] s := hK
    refine W.widen (k := 0) (n := 0) (Nat.le_of_ble_eq_true rfl) (Nat.le_of_ble_eq_true rfl) ?_
    have hP := hP.sub (ws' := [(h0, .inr (1, [.ref h1, .ref h2, .ref h3])), (h1, .inl (c1, 32, .inl (gLay (gLay (gLay (gLay (kf) (16 * gHalf p1) p2) (16 * gHalf p1 + 4) p3) (16 * gHalf p1 + 8) p4) (16 * gHalf p1 + 12) p5))), (h2, .inl (c2, 8, .inl bf)), (h3, .inl (c3, 8, .inl of))]) [0, 3, 1, 2] rfl
    have hD := hD.sub (ws' := [(h0, .inr (1, [.ref h1, .ref h2, .ref h3])), (h1, .inl (c1, 32, .inl (gLay (gLay (gLay (gLay (kf) (16 * gHalf p1) p2) (16 * gHalf p1 + 4) p3) (16 * gHalf p1 + 8) p4) (16 * gHalf p1 + 12) p5))), (h2, .inl (c2, 8, .inl bf)), (h3, .inl (c3, 8, .inl of))]) [0, 3, 1, 2] (by decide) rfl
    have hK := hK.sub (tys' := [(c1, .int), (c2, .int), (c3, .int)]) [0, 1, 2] rfl
    exact g_vret hx hb hr hP hK hD hS hlocks dX1_key_64
  refine lv_iconst (v := 0) hx hb dX1_key_0 (by decide) ?_
  refine g_top (nI 0) rfl ?_
  refine lv_istore (lv' := [(6, .int (nI 0)), (0, .ref h0), (1, .int p1), (2, .int p2), (3, .int p3), (4, .int p4), (5, .int p5)]) hx hb dX1_key_1 hl (by decide) rfl (fun ls hl => ?_)
  refine lv_iload_n hx hb dX1_key_3 rfl (lv_at hl 2 rfl) ?_
  refine lv_iconst (v := 1) hx hb dX1_key_4 (by decide) ?_
  refine lv_iand hx hb dX1_key_5 ?_
  refine g_top (nI (gHalf p1)) (g_and1 p1) ?_
  refine lv_iconst (v := 1) hx hb dX1_key_6 (by decide) ?_
  refine lv_icmp_ne (tgt := 14) hx hb dX1_key_7 (by decide) (fun c7 => ?_) (fun c7 => ?_)
  · have hz : gHalf p1 = 0 := by have h2 := gHalf_lt p1; have h3 : gHalf p1 ≠ 1 := fun q => c7 (by rw [q]; rfl); omega
    exact go ls (by have q := lv_sub hl (l' := [(0, .ref h0), (2, .int p2), (3, .int p3), (4, .int p4), (5, .int p5), (6, .int (nI 0))]) [1, 3, 4, 5, 6, 0] rfl; rw [show 16 * gHalf p1 = 0 by omega]; exact q)
  · have hz : gHalf p1 = 1 := (nI_eq (a := gHalf p1) (b := 1) (by have h2 := gHalf_lt p1; omega) (by decide)).mp c7
    refine lv_bipush (v := 16) hx hb dX1_key_10 (by decide) ?_
    refine g_top (nI 16) rfl ?_
    refine lv_istore (lv' := [(6, .int (nI 16)), (0, .ref h0), (1, .int p1), (2, .int p2), (3, .int p3), (4, .int p4), (5, .int p5)]) hx hb dX1_key_12 hl (by decide) rfl (fun ls hl => ?_)
    exact go ls (by have q := lv_sub hl (l' := [(0, .ref h0), (2, .int p2), (3, .int p3), (4, .int p4), (5, .int p5), (6, .int (nI 16))]) [1, 3, 4, 5, 6, 0] rfl; rw [show 16 * gHalf p1 = 16 by omega]; exact q)
set_option maxHeartbeats 4000000 in
set_option maxRecDepth 100000 in
/-- GostDeskModel.block -/
theorem mX1_block (l : Launch) (D : va_G) (h0 h1 h2 h3 : Nat) (c1 c2 c3 : ClassId) (kf bf of : Nat → Int32) (p1 p2 : Int32) (sz tS tR : Nat) : Met l yX1_block (ws_ yX1_block cX1_block 3 none) ({ frames := 1, cells := 0, slots := 0, locals := 22 }) (va_Pc [.ref h0, .int p1, .int p2] (gPw D sz [(h0, .inr (1, [.ref h1, .ref h2, .ref h3])), (h1, .inl (c1, 32, .inl kf)), (h2, .inl (c2, 8, .inl bf)), (h3, .inl (c3, 8, .inl of))] [(c1, .int), (c2, .int), (c3, .int)] tS tR)) (va_Qv (fun _ : Unit => True) (fun _ => gBw D (va_A [(h0, .inr (1, [.ref h1, .ref h2, .ref h3])), (h1, .inl (c1, 32, .inl kf)), (h2, .inl (c2, 8, .inl bf)), (h3, .inl (c3, 8, .inl of))] sz) [(h0, .inr (1, [.ref h1, .ref h2, .ref h3])), (h1, .inl (c1, 32, .inl kf)), (h2, .inl (c2, 8, .inl (gLay (gLay bf 0 p1) 4 p2))), (h3, .inl (c3, 8, .inl of))] [(c1, .int), (c2, .int), (c3, .int)]) (va_A [(h0, .inr (1, [.ref h1, .ref h2, .ref h3])), (h1, .inl (c1, 32, .inl kf)), (h2, .inl (c2, 8, .inl bf)), (h3, .inl (c3, 8, .inl of))] sz)) 0 0 (va_A [(h0, .inr (1, [.ref h1, .ref h2, .ref h3])), (h1, .inl (c1, 32, .inl kf)), (h2, .inl (c2, 8, .inl bf)), (h3, .inl (c3, 8, .inl of))] sz) := by
  refine gMetW (fun A => va_Qv (fun _ : Unit => True) (fun _ => gBw D A [(h0, .inr (1, [.ref h1, .ref h2, .ref h3])), (h1, .inl (c1, 32, .inl kf)), (h2, .inl (c2, 8, .inl (gLay (gLay bf 0 p1) 4 p2))), (h3, .inl (c3, 8, .inl of))] [(c1, .int), (c2, .int), (c3, .int)]) A) (by decide) (Nat.le_of_ble_eq_true rfl) ?_
  intro p e s m below meth c A ls hx hb hr hts hown hlocks hin hml hAe hA hsz hP hK hD hZ hS hl
  have hl : lv_has ls 3 [(0, .ref h0), (1, .int p1), (2, .int p2)] := hl
  refine lv_aload_n hx hb dX1_block_0 rfl (lv_at hl 0 rfl) ?_
  refine va_get (D := D) (ci := 1) (v := .ref h2) (C := RX1) (T := TX1) (N := 3) hx hb hts in_X1 hown hK hP 0 rfl rfl 1 (by decide) (hts _ q310) (fun _ h9 => h9) rfl dX1_block_1 ?_
  refine lv_iconst (v := 0) hx hb dX1_block_4 (by decide) ?_
  refine g_top (nI 0) rfl ?_
  refine lv_iload_n hx hb dX1_block_5 rfl (lv_at hl 1 rfl) ?_
  have hPc := hP.sub (ws' := [(h2, .inl (c2, 8, .inl bf))]) [2] rfl
  have hDc := hD.sub (ws' := [(h2, .inl (c2, 8, .inl bf))]) [2] (by decide) rfl
  have hKc := hK.sub (tys' := [(c2, .int)]) [1] rfl
  have hFc := va_free (wc := [(h2, .inl (c2, 8, .inl bf))]) hD hS hA [2] rfl
  refine va_callv (va_runS (As := [.ref h2, .int (nI 0), .int p1]) (rest := []) ⟨hx, hb, hml, hown, hts⟩ (mX1_lay l D h2 c2 8 (bf) 0 p1 s.heap.size tS tR (by decide) (by decide)) (va_cwS 3 hts (lw_S q323 q324 q10 q325) rfl rfl rfl (by decide +kernel) ⟨Nat.le_of_ble_eq_true rfl, Nat.le_of_ble_eq_true rfl⟩) ⟨gPw_blind, gPw_of hPc hKc hDc hZ hS hFc⟩ rfl rfl hl.1 rfl (lv_room (Nat.le_of_ble_eq_true rfl)) dX1_block_6 ⟨Nat.le_of_ble_eq_true rfl, Nat.le_of_ble_eq_true rfl⟩) hS (fun q _ h => hFc q h) hFc (fun u t H1 locs ht hvm hw hB hz1 hk1 hS => ?_)
  obtain ⟨hP1, hK1, hD1⟩ := hB
  rw [ht] at hP1
  have hK1 := va_K.moved hvm.symm hK1
  obtain ⟨hP, hD⟩ := va_join (wr := [(h0, .inr (1, [.ref h1, .ref h2, .ref h3])), (h1, .inl (c1, 32, .inl kf)), (h3, .inl (c3, 8, .inl of))]) (w1 := [(h2, .inl (c2, 8, .inl (gLay (bf) 0 p1)))]) hP hD [2] [0, 1, 3] rfl rfl (by decide) (by decide) hk1 hFc hP1 hD1
  have hK := (hK.sub (tys' := [(c1, .int), (c2, .int), (c3, .int)]) [0, 1, 2] rfl).app (hK1.sub (tys' := []) [] rfl)
  generalize H1 = H at hP hS ⊢
  have hP : va_P D vwCl [(h0, .inr (1, [.ref h1, .ref h2, .ref h3])), (h1, .inl (c1, 32, .inl kf)), (h3, .inl (c3, 8, .inl of)), (h2, .inl (c2, 8, .inl (gLay (bf) 0 p1)))] H := hP
  have hD : va_D A [(h0, .inr (1, [.ref h1, .ref h2, .ref h3])), (h1, .inl (c1, 32, .inl kf)), (h3, .inl (c3, 8, .inl of)), (h2, .inl (c2, 8, .inl (gLay (bf) 0 p1)))] := hD
  have hK : va_K D vwCl [(c1, .int), (c2, .int), (c3, .int)] s := hK
  refine W.widen (k := 0) (n := 0) (Nat.le_of_ble_eq_true rfl) (Nat.le_of_ble_eq_true rfl) ?_
  refine lv_aload_n hx hb dX1_block_9 rfl (lv_at hl 0 rfl) ?_
  refine va_get (D := D) (ci := 1) (v := .ref h2) (C := RX1) (T := TX1) (N := 3) hx hb hts in_X1 hown hK hP 0 rfl rfl 1 (by decide) (hts _ q310) (fun _ h9 => h9) rfl dX1_block_10 ?_
  refine lv_iconst (v := 4) hx hb dX1_block_13 (by decide) ?_
  refine g_top (nI 4) rfl ?_
  refine lv_iload_n hx hb dX1_block_14 rfl (lv_at hl 2 rfl) ?_
  have hPc := hP.sub (ws' := [(h2, .inl (c2, 8, .inl (gLay (bf) 0 p1)))]) [3] rfl
  have hDc := hD.sub (ws' := [(h2, .inl (c2, 8, .inl (gLay (bf) 0 p1)))]) [3] (by decide) rfl
  have hKc := hK.sub (tys' := [(c2, .int)]) [1] rfl
  have hFc := va_free (wc := [(h2, .inl (c2, 8, .inl (gLay (bf) 0 p1)))]) hD hS hA [3] rfl
  refine va_callv (va_runS (As := [.ref h2, .int (nI 4), .int p2]) (rest := []) ⟨hx, hb, hml, hown, hts⟩ (mX1_lay l D h2 c2 8 (gLay (bf) 0 p1) 4 p2 H.size tS tR (by decide) (by decide)) (va_cwS 3 hts (lw_S q323 q324 q10 q325) rfl rfl rfl (by decide +kernel) ⟨Nat.le_of_ble_eq_true rfl, Nat.le_of_ble_eq_true rfl⟩) ⟨gPw_blind, gPw_of hPc hKc hDc hZ hS hFc⟩ rfl rfl hl.1 rfl (lv_room (Nat.le_of_ble_eq_true rfl)) dX1_block_15 ⟨Nat.le_of_ble_eq_true rfl, Nat.le_of_ble_eq_true rfl⟩) hS (fun q _ h => hFc q h) hFc (fun u t H1 locs ht hvm hw hB hz1 hk1 hS => ?_)
  obtain ⟨hP1, hK1, hD1⟩ := hB
  rw [ht] at hP1
  have hK1 := va_K.moved hvm.symm hK1
  obtain ⟨hP, hD⟩ := va_join (wr := [(h0, .inr (1, [.ref h1, .ref h2, .ref h3])), (h1, .inl (c1, 32, .inl kf)), (h3, .inl (c3, 8, .inl of))]) (w1 := [(h2, .inl (c2, 8, .inl (gLay (gLay (bf) 0 p1) 4 p2)))]) hP hD [3] [0, 1, 2] rfl rfl (by decide) (by decide) hk1 hFc hP1 hD1
  have hK := (hK.sub (tys' := [(c1, .int), (c2, .int), (c3, .int)]) [0, 1, 2] rfl).app (hK1.sub (tys' := []) [] rfl)
  generalize H1 = H at hP hS ⊢
  have hP : va_P D vwCl [(h0, .inr (1, [.ref h1, .ref h2, .ref h3])), (h1, .inl (c1, 32, .inl kf)), (h3, .inl (c3, 8, .inl of)), (h2, .inl (c2, 8, .inl (gLay (gLay (bf) 0 p1) 4 p2)))] H := hP
  have hD : va_D A [(h0, .inr (1, [.ref h1, .ref h2, .ref h3])), (h1, .inl (c1, 32, .inl kf)), (h3, .inl (c3, 8, .inl of)), (h2, .inl (c2, 8, .inl (gLay (gLay (bf) 0 p1) 4 p2)))] := hD
  have hK : va_K D vwCl [(c1, .int), (c2, .int), (c3, .int)] s := hK
  refine W.widen (k := 0) (n := 0) (Nat.le_of_ble_eq_true rfl) (Nat.le_of_ble_eq_true rfl) ?_
  have hP := hP.sub (ws' := [(h0, .inr (1, [.ref h1, .ref h2, .ref h3])), (h1, .inl (c1, 32, .inl kf)), (h2, .inl (c2, 8, .inl (gLay (gLay (bf) 0 p1) 4 p2))), (h3, .inl (c3, 8, .inl of))]) [0, 1, 3, 2] rfl
  have hD := hD.sub (ws' := [(h0, .inr (1, [.ref h1, .ref h2, .ref h3])), (h1, .inl (c1, 32, .inl kf)), (h2, .inl (c2, 8, .inl (gLay (gLay (bf) 0 p1) 4 p2))), (h3, .inl (c3, 8, .inl of))]) [0, 1, 3, 2] (by decide) rfl
  have hK := hK.sub (tys' := [(c1, .int), (c2, .int), (c3, .int)]) [0, 1, 2] rfl
  exact g_vret hx hb hr hP hK hD hS hlocks dX1_block_18
set_option maxHeartbeats 4000000 in
set_option maxRecDepth 100000 in
/-- GostDeskModel.run: thirty-two rounds, then the bytes -/
theorem mX1_run (l : Launch) (D : va_G) (h0 h1 h2 h3 : Nat) (c1 c2 c3 : ClassId) (kf bf of : Nat → Int32) (b : Bool) (sz tS tR : Nat) : Met l yX1_run (ws_ yX1_run cX1_run 7 none) ({ frames := 1, cells := 0, slots := 0, locals := 23 }) (va_Pc [.ref h0, .int (gBi b)] (gPw D sz [(h0, .inr (1, [.ref h1, .ref h2, .ref h3])), (h1, .inl (c1, 32, .inl kf)), (h2, .inl (c2, 8, .inl bf)), (h3, .inl (c3, 8, .inl of))] [(c1, .int), (c2, .int), (c3, .int)] tS tR)) (va_Qv (fun _ : Unit => True) (fun _ => gBw D (va_A [(h0, .inr (1, [.ref h1, .ref h2, .ref h3])), (h1, .inl (c1, 32, .inl kf)), (h2, .inl (c2, 8, .inl bf)), (h3, .inl (c3, 8, .inl of))] sz) [(h0, .inr (1, [.ref h1, .ref h2, .ref h3])), (h1, .inl (c1, 32, .inl kf)), (h2, .inl (c2, 8, .inl bf)), (h3, .inl (c3, 8, .inl (gRunM b kf bf of)))] [(c1, .int), (c2, .int), (c3, .int)]) (va_A [(h0, .inr (1, [.ref h1, .ref h2, .ref h3])), (h1, .inl (c1, 32, .inl kf)), (h2, .inl (c2, 8, .inl bf)), (h3, .inl (c3, 8, .inl of))] sz)) 0 0 (va_A [(h0, .inr (1, [.ref h1, .ref h2, .ref h3])), (h1, .inl (c1, 32, .inl kf)), (h2, .inl (c2, 8, .inl bf)), (h3, .inl (c3, 8, .inl of))] sz) := by
  refine gMetW (fun A => va_Qv (fun _ : Unit => True) (fun _ => gBw D A [(h0, .inr (1, [.ref h1, .ref h2, .ref h3])), (h1, .inl (c1, 32, .inl kf)), (h2, .inl (c2, 8, .inl bf)), (h3, .inl (c3, 8, .inl (gRunM b kf bf of)))] [(c1, .int), (c2, .int), (c3, .int)]) A) (by decide) (Nat.le_of_ble_eq_true rfl) ?_
  intro p e s m below meth c A ls hx hb hr hts hown hlocks hin hml hAe hA hsz hP hK hD hZ hS hl
  have hl : lv_has ls 7 [(0, .ref h0), (1, .int (gBi b))] := hl
  have loop2 : ∀ (n i : Nat), i ≤ 4 → 5 ≤ i + n → ∀ (n1 n2 : Int32) (H : Heap) (locs : List Loc), n1 = gN1 b (gKm kf) (gW bf 0) (gW bf 4) → n2 = gN2 b (gKm kf) (gW bf 0) (gW bf 4) → va_P D vwCl [(h0, .inr (1, [.ref h1, .ref h2, .ref h3])), (h1, .inl (c1, 32, .inl kf)), (h2, .inl (c2, 8, .inl bf)), (h3, .inl (c3, 8, .inl (gOut of n1 n2 i)))] H → va_D A [(h0, .inr (1, [.ref h1, .ref h2, .ref h3])), (h1, .inl (c1, 32, .inl kf)), (h2, .inl (c2, 8, .inl bf)), (h3, .inl (c3, 8, .inl (gOut of n1 n2 i)))] → va_S A s.heap H locs → ∀ ls : Array Slot, lv_has ls 7 [(0, .ref h0), (2, .int n1), (3, .int n2), (4, .int (nI i))] → W p l e (headSpec (ws_ yX1_run cX1_run 7 none) ({ frames := 1, cells := 0, slots := 0, locals := 23 })).room s m ([.ref h0, .int (gBi b)] : List Value).toArray below meth c H locs 0 0 (MQ below (va_Qv (fun _ : Unit => True) (fun _ => gBw D A [(h0, .inr (1, [.ref h1, .ref h2, .ref h3])), (h1, .inl (c1, 32, .inl kf)), (h2, .inl (c2, 8, .inl bf)), (h3, .inl (c3, 8, .inl (gRunM b kf bf of)))] [(c1, .int), (c2, .int), (c3, .int)]) A) ([.ref h0, .int (gBi b)] : List Value).toArray s 0 0 A) (F0 m 83 ls []) := by
    intro n
    induction n with
    | zero => intro i k1 k2; exact absurd k2 (by omega)
    | succ n ih =>
      intro i k1 k2 n1 n2 H locs e1 e2 hP hD hS ls hl
      refine lv_iload hx hb dX1_run_83 (lv_at hl 3 rfl) ?_
      refine lv_iconst (v := 4) hx hb dX1_run_85 (by decide) ?_
      refine lv_icmp_ge (tgt := 133) hx hb dX1_run_86 (by decide) (fun c86 => ?_) (fun c86 => ?_)
      · obtain rfl : i = 4 := Nat.le_antisymm k1 ((nI_leI (a := 4) (b := i) (by omega) (by omega)).mp c86)
        subst e1
        subst e2
        exact g_vret hx hb hr hP hK hD hS hlocks dX1_run_133
      · have hi : i < 4 := Nat.lt_of_not_le fun q => c86 (nI_le (a := 4) (b := i) q (by omega))
        refine lv_aload_n hx hb dX1_run_89 rfl (lv_at hl 0 rfl) ?_
        refine va_get (D := D) (ci := 1) (v := .ref h3) (C := RX1) (T := TX1) (N := 3) hx hb hts in_X1 hown hK hP 0 rfl rfl 2 (by decide) (hts _ q311) (fun _ h9 => h9) rfl dX1_run_90 ?_
        refine lv_iload hx hb dX1_run_93 (lv_at hl 3 rfl) ?_
        refine lv_iload_n hx hb dX1_run_95 rfl (lv_at hl 1 rfl) ?_
        refine lv_bipush (v := 8) hx hb dX1_run_96 (by decide) ?_
        refine lv_iload hx hb dX1_run_98 (lv_at hl 3 rfl) ?_
        refine lv_imul hx hb dX1_run_100 ?_
        refine lv_iushr hx hb dX1_run_101 rfl ?_
        refine lv_sipush (v := 255) hx hb dX1_run_102 (by decide) ?_
        refine lv_iand hx hb dX1_run_105 ?_
        refine g_top (gO n1 i) (g_out n1 i) ?_
        refine g_iast (g := upd (gOut of n1 n2 i) i (gO n1 i)) hx hb hK hP hD hS 3 2 rfl rfl (i) rfl (by omega) (by decide) rfl dX1_run_106 (fun H locs hP hD hS => ?_)
        have hP : va_P D vwCl [(h0, .inr (1, [.ref h1, .ref h2, .ref h3])), (h1, .inl (c1, 32, .inl kf)), (h2, .inl (c2, 8, .inl bf)), (h3, .inl (c3, 8, .inl (upd (gOut of n1 n2 i) i (gO n1 i))))] H := hP
        have hD : va_D A [(h0, .inr (1, [.ref h1, .ref h2, .ref h3])), (h1, .inl (c1, 32, .inl kf)), (h2, .inl (c2, 8, .inl bf)), (h3, .inl (c3, 8, .inl (upd (gOut of n1 n2 i) i (gO n1 i))))] := hD
        refine lv_aload_n hx hb dX1_run_107 rfl (lv_at hl 0 rfl) ?_
        refine va_get (D := D) (ci := 1) (v := .ref h3) (C := RX1) (T := TX1) (N := 3) hx hb hts in_X1 hown hK hP 0 rfl rfl 2 (by decide) (hts _ q311) (fun _ h9 => h9) rfl dX1_run_108 ?_
        refine lv_iconst (v := 4) hx hb dX1_run_111 (by decide) ?_
        refine lv_iload hx hb dX1_run_112 (lv_at hl 3 rfl) ?_
        refine lv_iadd hx hb dX1_run_114 ?_
        refine g_top (nI (4 + i)) (nI_add 4 i) ?_
        refine lv_iload_n hx hb dX1_run_115 rfl (lv_at hl 2 rfl) ?_
        refine lv_bipush (v := 8) hx hb dX1_run_116 (by decide) ?_
        refine lv_iload hx hb dX1_run_118 (lv_at hl 3 rfl) ?_
        refine lv_imul hx hb dX1_run_120 ?_
        refine lv_iushr hx hb dX1_run_121 rfl ?_
        refine lv_sipush (v := 255) hx hb dX1_run_122 (by decide) ?_
        refine lv_iand hx hb dX1_run_125 ?_
        refine g_top (gO n2 i) (g_out n2 i) ?_
        refine g_iast (g := gOut of n1 n2 (i + 1)) hx hb hK hP hD hS 3 2 rfl rfl (4 + i) rfl (by omega) (by decide) (gOut_s of n1 n2 i hi) dX1_run_126 (fun H locs hP hD hS => ?_)
        have hP : va_P D vwCl [(h0, .inr (1, [.ref h1, .ref h2, .ref h3])), (h1, .inl (c1, 32, .inl kf)), (h2, .inl (c2, 8, .inl bf)), (h3, .inl (c3, 8, .inl (gOut of n1 n2 (i + 1))))] H := hP
        have hD : va_D A [(h0, .inr (1, [.ref h1, .ref h2, .ref h3])), (h1, .inl (c1, 32, .inl kf)), (h2, .inl (c2, 8, .inl bf)), (h3, .inl (c3, 8, .inl (gOut of n1 n2 (i + 1))))] := hD
        refine lv_iinc (v := (nI (i + 1))) (lv' := [(4, .int (nI (i + 1))), (0, .ref h0), (2, .int n1), (3, .int n2)]) hx hb dX1_run_127 hl (k := 3) rfl (nI_1 i) (by decide) rfl (fun ls hl => ?_)
        refine lv_goto (tgt := 83) hx hb dX1_run_130 (by decide) ?_
        exact ih (i + 1) hi (by omega) n1 n2 H locs e1 e2 hP hD hS ls (lv_sub hl [1, 2, 3, 0] rfl)
  have loop1 : ∀ (n r : Nat), r ≤ 31 → 32 ≤ r + n → ∀ ls : Array Slot, lv_has ls 7 [(0, .ref h0), (1, .int (gBi b)), (2, .int (gRun b (gKm kf) (gW bf 0) (gW bf 4) r).1), (3, .int (gRun b (gKm kf) (gW bf 0) (gW bf 4) r).2), (4, .int (nI r))] → W p l e (headSpec (ws_ yX1_run cX1_run 7 none) ({ frames := 1, cells := 0, slots := 0, locals := 23 })).room s m ([.ref h0, .int (gBi b)] : List Value).toArray below meth c s.heap [] 0 0 (MQ below (va_Qv (fun _ : Unit => True) (fun _ => gBw D A [(h0, .inr (1, [.ref h1, .ref h2, .ref h3])), (h1, .inl (c1, 32, .inl kf)), (h2, .inl (c2, 8, .inl bf)), (h3, .inl (c3, 8, .inl (gRunM b kf bf of)))] [(c1, .int), (c2, .int), (c3, .int)]) A) ([.ref h0, .int (gBi b)] : List Value).toArray s 0 0 A) (F0 m 21 ls []) := by
    intro n
    induction n with
    | zero => intro r k1 k2; exact absurd k2 (by omega)
    | succ n ih =>
      intro r k1 k2 ls hl
      refine lv_iload hx hb dX1_run_21 (lv_at hl 4 rfl) ?_
      refine lv_bipush (v := 32) hx hb dX1_run_23 (by decide) ?_
      refine lv_icmp_ge (tgt := 80) hx hb dX1_run_25 (by decide) (fun c => absurd c (nI_ge (a := r) (b := 32) (by omega) (by decide))) (fun _ => ?_)
      refine lv_aload_n hx hb dX1_run_28 rfl (lv_at hl 0 rfl) ?_
      refine va_get (D := D) (ci := 1) (v := .ref h1) (C := RX1) (T := TX1) (N := 3) hx hb hts in_X1 hown hK hP 0 rfl rfl 0 (by decide) (hts _ q309) (fun _ h9 => h9) rfl dX1_run_29 ?_
      refine lv_iconst (v := 4) hx hb dX1_run_32 (by decide) ?_
      refine lv_iload_n hx hb dX1_run_33 rfl (lv_at hl 1 rfl) ?_
      refine lv_iload hx hb dX1_run_34 (lv_at hl 4 rfl) ?_
      have hPc := hP.sub (ws' := []) [] rfl
      have hKc := hK.sub (tys' := []) [] rfl
      refine vp_callSi (va_Run.run (va_runS (As := [.int (gBi b), .int (nI r)]) (rest := [.int 4, .ref h1]) ⟨hx, hb, hml, hown, hts⟩ (mX1_wordOfRound l D b r tS tR (by omega)) (va_cwS 2 hts (lw_S q341 q342 q10 q343) rfl rfl rfl (by decide +kernel) ⟨Nat.le_of_ble_eq_true rfl, Nat.le_of_ble_eq_true rfl⟩) ⟨gPr_blind, gPr_of hPc hKc hZ hS⟩ rfl rfl hl.1 rfl (lv_room (Nat.le_of_ble_eq_true rfl)) dX1_run_36 ⟨Nat.le_of_ble_eq_true rfl, Nat.le_of_ble_eq_true rfl⟩)) (fun r_36 hr_36 => ?_)
      obtain rfl : r_36 = nI (gSch b r) := hr_36
      refine W.widen (k := 0) (n := 0) (Nat.le_of_ble_eq_true rfl) (Nat.le_of_ble_eq_true rfl) ?_
      refine lv_imul hx hb dX1_run_39 ?_
      refine g_top (nI (4 * gSch b r)) (pk_mul 4 _) ?_
      have hPc := hP.sub (ws' := [(h1, .inl (c1, 32, .inl kf))]) [1] rfl
      have hKc := hK.sub (tys' := [(c1, .int)]) [0] rfl
      refine vp_callSi (va_Run.run (va_runS (As := [.ref h1, .int (nI (4 * gSch b r))]) (rest := []) ⟨hx, hb, hml, hown, hts⟩ (mX1_number l D h1 c1 32 kf (4 * gSch b r) tS tR (by have := gSch_lt b r (by omega); omega) (by decide)) (va_cwS 2 hts (lw_S q338 q339 q10 q340) rfl rfl rfl (by decide +kernel) ⟨Nat.le_of_ble_eq_true rfl, Nat.le_of_ble_eq_true rfl⟩) ⟨gPr_blind, gPr_of hPc hKc hZ hS⟩ rfl rfl hl.1 rfl (lv_room (Nat.le_of_ble_eq_true rfl)) dX1_run_40 ⟨Nat.le_of_ble_eq_true rfl, Nat.le_of_ble_eq_true rfl⟩)) (fun r_40 hr_40 => ?_)
      obtain rfl : r_40 = gW kf (4 * gSch b r) := hr_40
      refine W.widen (k := 0) (n := 0) (Nat.le_of_ble_eq_true rfl) (Nat.le_of_ble_eq_true rfl) ?_
      refine lv_istore (lv' := [(5, .int (gW kf (4 * gSch b r))), (0, .ref h0), (1, .int (gBi b)), (2, .int ((gRun b (gKm kf) (gW bf 0) (gW bf 4) r).1)), (3, .int ((gRun b (gKm kf) (gW bf 0) (gW bf 4) r).2)), (4, .int (nI r))]) hx hb dX1_run_43 hl (by decide) rfl (fun ls hl => ?_)
      refine lv_iload_n hx hb dX1_run_45 rfl (lv_at hl 4 rfl) ?_
      refine lv_iload_n hx hb dX1_run_46 rfl (lv_at hl 3 rfl) ?_
      refine lv_iload hx hb dX1_run_47 (lv_at hl 0 rfl) ?_
      refine lv_iadd hx hb dX1_run_49 ?_
      have hPc := hP.sub (ws' := []) [] rfl
      have hKc := hK.sub (tys' := []) [] rfl
      refine vp_callSi (va_Run.run (va_runS (As := [.int (((gRun b (gKm kf) (gW bf 0) (gW bf 4) r).1) + (gW kf (4 * gSch b r)))]) (rest := [.int ((gRun b (gKm kf) (gW bf 0) (gW bf 4) r).2)]) ⟨hx, hb, hml, hown, hts⟩ (mX1_mix l D ((gRun b (gKm kf) (gW bf 0) (gW bf 4) r).1 + gW kf (4 * gSch b r)) tS tR) (va_cwS 1 hts (lw_S q344 q345 q10 q346) rfl rfl rfl (by decide +kernel) ⟨Nat.le_of_ble_eq_true rfl, Nat.le_of_ble_eq_true rfl⟩) ⟨gPr_blind, gPr_of hPc hKc hZ hS⟩ rfl rfl hl.1 rfl (lv_room (Nat.le_of_ble_eq_true rfl)) dX1_run_50 ⟨Nat.le_of_ble_eq_true rfl, Nat.le_of_ble_eq_true rfl⟩)) (fun r_50 hr_50 => ?_)
      obtain rfl : r_50 = gMix ((gRun b (gKm kf) (gW bf 0) (gW bf 4) r).1 + gW kf (4 * gSch b r)) := hr_50
      refine W.widen (k := 0) (n := 0) (Nat.le_of_ble_eq_true rfl) (Nat.le_of_ble_eq_true rfl) ?_
      refine lv_ixor hx hb dX1_run_53 ?_
      refine g_top ((gRun b (gKm kf) (gW bf 0) (gW bf 4) r).2 ^^^ gMix ((gRun b (gKm kf) (gW bf 0) (gW bf 4) r).1 + gKm kf (gSch b r))) rfl ?_
      refine lv_istore (lv' := [(6, .int ((gRun b (gKm kf) (gW bf 0) (gW bf 4) r).2 ^^^ gMix ((gRun b (gKm kf) (gW bf 0) (gW bf 4) r).1 + gKm kf (gSch b r)))), (5, .int (gW kf (4 * gSch b r))), (0, .ref h0), (1, .int (gBi b)), (2, .int ((gRun b (gKm kf) (gW bf 0) (gW bf 4) r).1)), (3, .int ((gRun b (gKm kf) (gW bf 0) (gW bf 4) r).2)), (4, .int (nI r))]) hx hb dX1_run_54 hl (by decide) rfl (fun ls hl => ?_)
      refine lv_iload hx hb dX1_run_56 (lv_at hl 6 rfl) ?_
      refine lv_bipush (v := 31) hx hb dX1_run_58 (by decide) ?_
      refine lv_icmp_ge (tgt := 71) hx hb dX1_run_60 (by decide) (fun c60 => ?_) (fun c60 => ?_)
      · obtain rfl : r = 31 := Nat.le_antisymm k1 ((nI_leI (a := 31) (b := r) (by omega) (by omega)).mp c60)
        refine lv_iload hx hb dX1_run_71 (lv_at hl 0 rfl) ?_
        refine lv_istore_n (lv' := [(3, .int ((gRun b (gKm kf) (gW bf 0) (gW bf 4) 31).2 ^^^ gMix ((gRun b (gKm kf) (gW bf 0) (gW bf 4) 31).1 + gKm kf (gSch b 31)))), (6, .int ((gRun b (gKm kf) (gW bf 0) (gW bf 4) 31).2 ^^^ gMix ((gRun b (gKm kf) (gW bf 0) (gW bf 4) 31).1 + gKm kf (gSch b 31)))), (5, .int (gW kf (4 * gSch b 31))), (0, .ref h0), (1, .int (gBi b)), (2, .int ((gRun b (gKm kf) (gW bf 0) (gW bf 4) 31).1)), (4, .int (nI 31))]) hx hb dX1_run_73 rfl hl (by decide) rfl (fun ls hl => ?_)
        refine lv_iinc (v := (nI 32)) (lv' := [(4, .int (nI 32)), (3, .int ((gRun b (gKm kf) (gW bf 0) (gW bf 4) 31).2 ^^^ gMix ((gRun b (gKm kf) (gW bf 0) (gW bf 4) 31).1 + gKm kf (gSch b 31)))), (6, .int ((gRun b (gKm kf) (gW bf 0) (gW bf 4) 31).2 ^^^ gMix ((gRun b (gKm kf) (gW bf 0) (gW bf 4) 31).1 + gKm kf (gSch b 31)))), (5, .int (gW kf (4 * gSch b 31))), (0, .ref h0), (1, .int (gBi b)), (2, .int ((gRun b (gKm kf) (gW bf 0) (gW bf 4) 31).1))]) hx hb dX1_run_74 hl (k := 6) rfl rfl (by decide) rfl (fun ls hl => ?_)
        refine lv_goto (tgt := 21) hx hb dX1_run_77 (by decide) ?_
        refine lv_iload hx hb dX1_run_21 (lv_at hl 0 rfl) ?_
        refine lv_bipush (v := 32) hx hb dX1_run_23 (by decide) ?_
        refine lv_icmp_ge (tgt := 80) hx hb dX1_run_25 (by decide) (fun _ => ?_) (fun c => absurd (show nI 32 ≤ nI 32 by decide) c)
        refine lv_iconst (v := 0) hx hb dX1_run_80 (by decide) ?_
        refine g_top (nI 0) rfl ?_
        refine lv_istore (lv' := [(4, .int (nI 0)), (3, .int ((gRun b (gKm kf) (gW bf 0) (gW bf 4) 31).2 ^^^ gMix ((gRun b (gKm kf) (gW bf 0) (gW bf 4) 31).1 + gKm kf (gSch b 31)))), (6, .int ((gRun b (gKm kf) (gW bf 0) (gW bf 4) 31).2 ^^^ gMix ((gRun b (gKm kf) (gW bf 0) (gW bf 4) 31).1 + gKm kf (gSch b 31)))), (5, .int (gW kf (4 * gSch b 31))), (0, .ref h0), (1, .int (gBi b)), (2, .int ((gRun b (gKm kf) (gW bf 0) (gW bf 4) 31).1))]) hx hb dX1_run_81 hl (by decide) rfl (fun ls hl => ?_)
        exact loop2 5 0 (by omega) (by omega) _ _ s.heap [] rfl (by unfold gN2; rw [gSch_31]) (by rw [gOut_0]; exact hP) (by rw [gOut_0]; exact hD) hS ls (lv_sub hl [4, 6, 1, 0] rfl)
      · have hr31 : r < 31 := Nat.lt_of_not_le fun q => c60 (nI_le (a := 31) (b := r) q (by omega))
        refine lv_iload_n hx hb dX1_run_63 rfl (lv_at hl 4 rfl) ?_
        refine lv_istore_n (lv' := [(3, .int ((gRun b (gKm kf) (gW bf 0) (gW bf 4) r).1)), (6, .int ((gRun b (gKm kf) (gW bf 0) (gW bf 4) r).2 ^^^ gMix ((gRun b (gKm kf) (gW bf 0) (gW bf 4) r).1 + gKm kf (gSch b r)))), (5, .int (gW kf (4 * gSch b r))), (0, .ref h0), (1, .int (gBi b)), (2, .int ((gRun b (gKm kf) (gW bf 0) (gW bf 4) r).1)), (4, .int (nI r))]) hx hb dX1_run_64 rfl hl (by decide) rfl (fun ls hl => ?_)
        refine lv_iload hx hb dX1_run_65 (lv_at hl 1 rfl) ?_
        refine lv_istore_n (lv' := [(2, .int ((gRun b (gKm kf) (gW bf 0) (gW bf 4) r).2 ^^^ gMix ((gRun b (gKm kf) (gW bf 0) (gW bf 4) r).1 + gKm kf (gSch b r)))), (3, .int ((gRun b (gKm kf) (gW bf 0) (gW bf 4) r).1)), (6, .int ((gRun b (gKm kf) (gW bf 0) (gW bf 4) r).2 ^^^ gMix ((gRun b (gKm kf) (gW bf 0) (gW bf 4) r).1 + gKm kf (gSch b r)))), (5, .int (gW kf (4 * gSch b r))), (0, .ref h0), (1, .int (gBi b)), (4, .int (nI r))]) hx hb dX1_run_67 rfl hl (by decide) rfl (fun ls hl => ?_)
        refine lv_goto (tgt := 74) hx hb dX1_run_68 (by decide) ?_
        refine lv_iinc (v := (nI (r + 1))) (lv' := [(4, .int (nI (r + 1))), (2, .int ((gRun b (gKm kf) (gW bf 0) (gW bf 4) r).2 ^^^ gMix ((gRun b (gKm kf) (gW bf 0) (gW bf 4) r).1 + gKm kf (gSch b r)))), (3, .int ((gRun b (gKm kf) (gW bf 0) (gW bf 4) r).1)), (6, .int ((gRun b (gKm kf) (gW bf 0) (gW bf 4) r).2 ^^^ gMix ((gRun b (gKm kf) (gW bf 0) (gW bf 4) r).1 + gKm kf (gSch b r)))), (5, .int (gW kf (4 * gSch b r))), (0, .ref h0), (1, .int (gBi b))]) hx hb dX1_run_74 hl (k := 6) rfl (nI_1 r) (by decide) rfl (fun ls hl => ?_)
        refine lv_goto (tgt := 21) hx hb dX1_run_77 (by decide) ?_
        exact ih (r + 1) hr31 (by omega) ls (lv_sub hl [5, 6, 1, 2, 0] rfl)
  refine lv_aload_n hx hb dX1_run_0 rfl (lv_at hl 0 rfl) ?_
  refine va_get (D := D) (ci := 1) (v := .ref h2) (C := RX1) (T := TX1) (N := 3) hx hb hts in_X1 hown hK hP 0 rfl rfl 1 (by decide) (hts _ q310) (fun _ h9 => h9) rfl dX1_run_1 ?_
  refine lv_iconst (v := 0) hx hb dX1_run_4 (by decide) ?_
  refine g_top (nI 0) rfl ?_
  have hPc := hP.sub (ws' := [(h2, .inl (c2, 8, .inl bf))]) [2] rfl
  have hKc := hK.sub (tys' := [(c2, .int)]) [1] rfl
  refine vp_callSi (va_Run.run (va_runS (As := [.ref h2, .int (nI 0)]) (rest := []) ⟨hx, hb, hml, hown, hts⟩ (mX1_number l D h2 c2 8 bf (0) tS tR (by decide) (by decide)) (va_cwS 2 hts (lw_S q338 q339 q10 q340) rfl rfl rfl (by decide +kernel) ⟨Nat.le_of_ble_eq_true rfl, Nat.le_of_ble_eq_true rfl⟩) ⟨gPr_blind, gPr_of hPc hKc hZ hS⟩ rfl rfl hl.1 rfl (lv_room (Nat.le_of_ble_eq_true rfl)) dX1_run_5 ⟨Nat.le_of_ble_eq_true rfl, Nat.le_of_ble_eq_true rfl⟩)) (fun r_5 hr_5 => ?_)
  obtain rfl : r_5 = gW bf 0 := hr_5
  refine W.widen (k := 0) (n := 0) (Nat.le_of_ble_eq_true rfl) (Nat.le_of_ble_eq_true rfl) ?_
  refine lv_istore_n (lv' := [(2, .int (gW bf 0)), (0, .ref h0), (1, .int (gBi b))]) hx hb dX1_run_8 rfl hl (by decide) rfl (fun ls hl => ?_)
  refine lv_aload_n hx hb dX1_run_9 rfl (lv_at hl 1 rfl) ?_
  refine va_get (D := D) (ci := 1) (v := .ref h2) (C := RX1) (T := TX1) (N := 3) hx hb hts in_X1 hown hK hP 0 rfl rfl 1 (by decide) (hts _ q310) (fun _ h9 => h9) rfl dX1_run_10 ?_
  refine lv_iconst (v := 4) hx hb dX1_run_13 (by decide) ?_
  refine g_top (nI 4) rfl ?_
  have hPc := hP.sub (ws' := [(h2, .inl (c2, 8, .inl bf))]) [2] rfl
  have hKc := hK.sub (tys' := [(c2, .int)]) [1] rfl
  refine vp_callSi (va_Run.run (va_runS (As := [.ref h2, .int (nI 4)]) (rest := []) ⟨hx, hb, hml, hown, hts⟩ (mX1_number l D h2 c2 8 bf (4) tS tR (by decide) (by decide)) (va_cwS 2 hts (lw_S q338 q339 q10 q340) rfl rfl rfl (by decide +kernel) ⟨Nat.le_of_ble_eq_true rfl, Nat.le_of_ble_eq_true rfl⟩) ⟨gPr_blind, gPr_of hPc hKc hZ hS⟩ rfl rfl hl.1 rfl (lv_room (Nat.le_of_ble_eq_true rfl)) dX1_run_14 ⟨Nat.le_of_ble_eq_true rfl, Nat.le_of_ble_eq_true rfl⟩)) (fun r_14 hr_14 => ?_)
  obtain rfl : r_14 = gW bf 4 := hr_14
  refine W.widen (k := 0) (n := 0) (Nat.le_of_ble_eq_true rfl) (Nat.le_of_ble_eq_true rfl) ?_
  refine lv_istore_n (lv' := [(3, .int (gW bf 4)), (2, .int (gW bf 0)), (0, .ref h0), (1, .int (gBi b))]) hx hb dX1_run_17 rfl hl (by decide) rfl (fun ls hl => ?_)
  refine lv_iconst (v := 0) hx hb dX1_run_18 (by decide) ?_
  refine g_top (nI 0) rfl ?_
  refine lv_istore (lv' := [(4, .int (nI 0)), (3, .int (gW bf 4)), (2, .int (gW bf 0)), (0, .ref h0), (1, .int (gBi b))]) hx hb dX1_run_19 hl (by decide) rfl (fun ls hl => ?_)
  exact loop1 32 0 (by omega) (by omega) ls (lv_sub hl [3, 4, 2, 1, 0] rfl)
set_option maxHeartbeats 4000000 in
set_option maxRecDepth 100000 in
/-- GostDeskModel.lock -/
theorem mX1_lock (l : Launch) (D : va_G) (h0 h1 h2 h3 : Nat) (c1 c2 c3 : ClassId) (kf bf of : Nat → Int32) (p1 : Int32) (sz tS tR : Nat) : Met l yX1_lock (ws_ yX1_lock cX1_lock 2 none) ({ frames := 2, cells := 0, slots := 0, locals := 49 }) (va_Pc [.ref h0, .int p1] (gPw D sz [(h0, .inr (1, [.ref h1, .ref h2, .ref h3])), (h1, .inl (c1, 32, .inl kf)), (h2, .inl (c2, 8, .inl bf)), (h3, .inl (c3, 8, .inl of))] [(c1, .int), (c2, .int), (c3, .int)] tS tR)) (va_Qv (fun _ : Unit => True) (fun _ => gBw D (va_A [(h0, .inr (1, [.ref h1, .ref h2, .ref h3])), (h1, .inl (c1, 32, .inl kf)), (h2, .inl (c2, 8, .inl bf)), (h3, .inl (c3, 8, .inl of))] sz) [(h0, .inr (1, [.ref h1, .ref h2, .ref h3])), (h1, .inl (c1, 32, .inl kf)), (h2, .inl (c2, 8, .inl bf)), (h3, .inl (c3, 8, .inl (gRunM true kf bf of)))] [(c1, .int), (c2, .int), (c3, .int)]) (va_A [(h0, .inr (1, [.ref h1, .ref h2, .ref h3])), (h1, .inl (c1, 32, .inl kf)), (h2, .inl (c2, 8, .inl bf)), (h3, .inl (c3, 8, .inl of))] sz)) 0 0 (va_A [(h0, .inr (1, [.ref h1, .ref h2, .ref h3])), (h1, .inl (c1, 32, .inl kf)), (h2, .inl (c2, 8, .inl bf)), (h3, .inl (c3, 8, .inl of))] sz) := by
  refine gMetW (fun A => va_Qv (fun _ : Unit => True) (fun _ => gBw D A [(h0, .inr (1, [.ref h1, .ref h2, .ref h3])), (h1, .inl (c1, 32, .inl kf)), (h2, .inl (c2, 8, .inl bf)), (h3, .inl (c3, 8, .inl (gRunM true kf bf of)))] [(c1, .int), (c2, .int), (c3, .int)]) A) (by decide) (Nat.le_of_ble_eq_true rfl) ?_
  intro p e s m below meth c A ls hx hb hr hts hown hlocks hin hml hAe hA hsz hP hK hD hZ hS hl
  have hl : lv_has ls 2 [(0, .ref h0), (1, .int p1)] := hl
  refine lv_aload_n hx hb dX1_lock_0 rfl (lv_at hl 0 rfl) ?_
  refine lv_iconst (v := 1) hx hb dX1_lock_1 (by decide) ?_
  refine g_top (gBi true) rfl ?_
  have hPc := hP.sub (ws' := [(h0, .inr (1, [.ref h1, .ref h2, .ref h3])), (h1, .inl (c1, 32, .inl kf)), (h2, .inl (c2, 8, .inl bf)), (h3, .inl (c3, 8, .inl of))]) [0, 1, 2, 3] rfl
  have hDc := hD.sub (ws' := [(h0, .inr (1, [.ref h1, .ref h2, .ref h3])), (h1, .inl (c1, 32, .inl kf)), (h2, .inl (c2, 8, .inl bf)), (h3, .inl (c3, 8, .inl of))]) [0, 1, 2, 3] (by decide) rfl
  have hKc := hK.sub (tys' := [(c1, .int), (c2, .int), (c3, .int)]) [0, 1, 2] rfl
  have hFc := va_free (wc := [(h0, .inr (1, [.ref h1, .ref h2, .ref h3])), (h1, .inl (c1, 32, .inl kf)), (h2, .inl (c2, 8, .inl bf)), (h3, .inl (c3, 8, .inl of))]) hD hS hA [0, 1, 2, 3] rfl
  refine va_callv (va_runV (As := [.int (gBi true)]) (rest := []) ⟨hx, hb, hml, hown, hts⟩ (mX1_run l D h0 h1 h2 h3 c1 c2 c3 kf bf of true s.heap.size tS tR) (cwV 1 hts (lw_V q334 q336 qs7 q10 q337) rfl rfl rfl (by decide +kernel) ⟨Nat.le_of_ble_eq_true rfl, Nat.le_of_ble_eq_true rfl⟩) ⟨gPw_blind, va_recv hK hP (ci := 1) (q0 := 0) rfl rfl, gPw_of hPc hKc hDc hZ hS hFc⟩ rfl rfl hl.1 rfl (lv_room (Nat.le_of_ble_eq_true rfl)) dX1_lock_2 ⟨Nat.le_of_ble_eq_true rfl, Nat.le_of_ble_eq_true rfl⟩) hS (fun q _ h => hFc q h) hFc (fun u t H1 locs ht hvm hw hB hz1 hk1 hS => ?_)
  obtain ⟨hP1, hK1, hD1⟩ := hB
  rw [ht] at hP1
  have hK1 := va_K.moved hvm.symm hK1
  obtain ⟨hP, hD⟩ := va_join (wr := []) (w1 := [(h0, .inr (1, [.ref h1, .ref h2, .ref h3])), (h1, .inl (c1, 32, .inl kf)), (h2, .inl (c2, 8, .inl bf)), (h3, .inl (c3, 8, .inl (gRunM true kf bf of)))]) hP hD [0, 1, 2, 3] [] rfl rfl (by decide) (by decide) hk1 hFc hP1 hD1
  have hK := (hK.sub (tys' := [(c1, .int), (c2, .int), (c3, .int)]) [0, 1, 2] rfl).app (hK1.sub (tys' := []) [] rfl)
  generalize H1 = H at hP hS ⊢
  have hP : va_P D vwCl [(h0, .inr (1, [.ref h1, .ref h2, .ref h3])), (h1, .inl (c1, 32, .inl kf)), (h2, .inl (c2, 8, .inl bf)), (h3, .inl (c3, 8, .inl (gRunM true kf bf of)))] H := hP
  have hD : va_D A [(h0, .inr (1, [.ref h1, .ref h2, .ref h3])), (h1, .inl (c1, 32, .inl kf)), (h2, .inl (c2, 8, .inl bf)), (h3, .inl (c3, 8, .inl (gRunM true kf bf of)))] := hD
  have hK : va_K D vwCl [(c1, .int), (c2, .int), (c3, .int)] s := hK
  refine W.widen (k := 0) (n := 0) (Nat.le_of_ble_eq_true rfl) (Nat.le_of_ble_eq_true rfl) ?_
  exact g_vret hx hb hr hP hK hD hS hlocks dX1_lock_5
set_option maxHeartbeats 4000000 in
set_option maxRecDepth 100000 in
/-- GostDeskModel.unlock -/
theorem mX1_open (l : Launch) (D : va_G) (h0 h1 h2 h3 : Nat) (c1 c2 c3 : ClassId) (kf bf of : Nat → Int32) (p1 : Int32) (sz tS tR : Nat) : Met l yX1_open (ws_ yX1_open cX1_open 2 none) ({ frames := 2, cells := 0, slots := 0, locals := 49 }) (va_Pc [.ref h0, .int p1] (gPw D sz [(h0, .inr (1, [.ref h1, .ref h2, .ref h3])), (h1, .inl (c1, 32, .inl kf)), (h2, .inl (c2, 8, .inl bf)), (h3, .inl (c3, 8, .inl of))] [(c1, .int), (c2, .int), (c3, .int)] tS tR)) (va_Qv (fun _ : Unit => True) (fun _ => gBw D (va_A [(h0, .inr (1, [.ref h1, .ref h2, .ref h3])), (h1, .inl (c1, 32, .inl kf)), (h2, .inl (c2, 8, .inl bf)), (h3, .inl (c3, 8, .inl of))] sz) [(h0, .inr (1, [.ref h1, .ref h2, .ref h3])), (h1, .inl (c1, 32, .inl kf)), (h2, .inl (c2, 8, .inl bf)), (h3, .inl (c3, 8, .inl (gRunM false kf bf of)))] [(c1, .int), (c2, .int), (c3, .int)]) (va_A [(h0, .inr (1, [.ref h1, .ref h2, .ref h3])), (h1, .inl (c1, 32, .inl kf)), (h2, .inl (c2, 8, .inl bf)), (h3, .inl (c3, 8, .inl of))] sz)) 0 0 (va_A [(h0, .inr (1, [.ref h1, .ref h2, .ref h3])), (h1, .inl (c1, 32, .inl kf)), (h2, .inl (c2, 8, .inl bf)), (h3, .inl (c3, 8, .inl of))] sz) := by
  refine gMetW (fun A => va_Qv (fun _ : Unit => True) (fun _ => gBw D A [(h0, .inr (1, [.ref h1, .ref h2, .ref h3])), (h1, .inl (c1, 32, .inl kf)), (h2, .inl (c2, 8, .inl bf)), (h3, .inl (c3, 8, .inl (gRunM false kf bf of)))] [(c1, .int), (c2, .int), (c3, .int)]) A) (by decide) (Nat.le_of_ble_eq_true rfl) ?_
  intro p e s m below meth c A ls hx hb hr hts hown hlocks hin hml hAe hA hsz hP hK hD hZ hS hl
  have hl : lv_has ls 2 [(0, .ref h0), (1, .int p1)] := hl
  refine lv_aload_n hx hb dX1_open_0 rfl (lv_at hl 0 rfl) ?_
  refine lv_iconst (v := 0) hx hb dX1_open_1 (by decide) ?_
  refine g_top (gBi false) rfl ?_
  have hPc := hP.sub (ws' := [(h0, .inr (1, [.ref h1, .ref h2, .ref h3])), (h1, .inl (c1, 32, .inl kf)), (h2, .inl (c2, 8, .inl bf)), (h3, .inl (c3, 8, .inl of))]) [0, 1, 2, 3] rfl
  have hDc := hD.sub (ws' := [(h0, .inr (1, [.ref h1, .ref h2, .ref h3])), (h1, .inl (c1, 32, .inl kf)), (h2, .inl (c2, 8, .inl bf)), (h3, .inl (c3, 8, .inl of))]) [0, 1, 2, 3] (by decide) rfl
  have hKc := hK.sub (tys' := [(c1, .int), (c2, .int), (c3, .int)]) [0, 1, 2] rfl
  have hFc := va_free (wc := [(h0, .inr (1, [.ref h1, .ref h2, .ref h3])), (h1, .inl (c1, 32, .inl kf)), (h2, .inl (c2, 8, .inl bf)), (h3, .inl (c3, 8, .inl of))]) hD hS hA [0, 1, 2, 3] rfl
  refine va_callv (va_runV (As := [.int (gBi false)]) (rest := []) ⟨hx, hb, hml, hown, hts⟩ (mX1_run l D h0 h1 h2 h3 c1 c2 c3 kf bf of false s.heap.size tS tR) (cwV 1 hts (lw_V q334 q336 qs7 q10 q337) rfl rfl rfl (by decide +kernel) ⟨Nat.le_of_ble_eq_true rfl, Nat.le_of_ble_eq_true rfl⟩) ⟨gPw_blind, va_recv hK hP (ci := 1) (q0 := 0) rfl rfl, gPw_of hPc hKc hDc hZ hS hFc⟩ rfl rfl hl.1 rfl (lv_room (Nat.le_of_ble_eq_true rfl)) dX1_open_2 ⟨Nat.le_of_ble_eq_true rfl, Nat.le_of_ble_eq_true rfl⟩) hS (fun q _ h => hFc q h) hFc (fun u t H1 locs ht hvm hw hB hz1 hk1 hS => ?_)
  obtain ⟨hP1, hK1, hD1⟩ := hB
  rw [ht] at hP1
  have hK1 := va_K.moved hvm.symm hK1
  obtain ⟨hP, hD⟩ := va_join (wr := []) (w1 := [(h0, .inr (1, [.ref h1, .ref h2, .ref h3])), (h1, .inl (c1, 32, .inl kf)), (h2, .inl (c2, 8, .inl bf)), (h3, .inl (c3, 8, .inl (gRunM false kf bf of)))]) hP hD [0, 1, 2, 3] [] rfl rfl (by decide) (by decide) hk1 hFc hP1 hD1
  have hK := (hK.sub (tys' := [(c1, .int), (c2, .int), (c3, .int)]) [0, 1, 2] rfl).app (hK1.sub (tys' := []) [] rfl)
  generalize H1 = H at hP hS ⊢
  have hP : va_P D vwCl [(h0, .inr (1, [.ref h1, .ref h2, .ref h3])), (h1, .inl (c1, 32, .inl kf)), (h2, .inl (c2, 8, .inl bf)), (h3, .inl (c3, 8, .inl (gRunM false kf bf of)))] H := hP
  have hD : va_D A [(h0, .inr (1, [.ref h1, .ref h2, .ref h3])), (h1, .inl (c1, 32, .inl kf)), (h2, .inl (c2, 8, .inl bf)), (h3, .inl (c3, 8, .inl (gRunM false kf bf of)))] := hD
  have hK : va_K D vwCl [(c1, .int), (c2, .int), (c3, .int)] s := hK
  refine W.widen (k := 0) (n := 0) (Nat.le_of_ble_eq_true rfl) (Nat.le_of_ble_eq_true rfl) ?_
  exact g_vret hx hb hr hP hK hD hS hlocks dX1_open_5
set_option maxHeartbeats 4000000 in
set_option maxRecDepth 100000 in
/-- GostDeskModel.again -/
theorem mX1_again (l : Launch) (D : va_G) (h0 h1 h2 h3 : Nat) (c1 c2 c3 : ClassId) (kf bf of : Nat → Int32) (sz tS tR : Nat) : Met l yX1_again (ws_ yX1_again cX1_again 2 none) ({ frames := 0, cells := 0, slots := 0, locals := 0 }) (va_Pc [.ref h0] (gPw D sz [(h0, .inr (1, [.ref h1, .ref h2, .ref h3])), (h1, .inl (c1, 32, .inl kf)), (h2, .inl (c2, 8, .inl bf)), (h3, .inl (c3, 8, .inl of))] [(c1, .int), (c2, .int), (c3, .int)] tS tR)) (va_Qv (fun _ : Unit => True) (fun _ => gBw D (va_A [(h0, .inr (1, [.ref h1, .ref h2, .ref h3])), (h1, .inl (c1, 32, .inl kf)), (h2, .inl (c2, 8, .inl bf)), (h3, .inl (c3, 8, .inl of))] sz) [(h0, .inr (1, [.ref h1, .ref h2, .ref h3])), (h1, .inl (c1, 32, .inl kf)), (h2, .inl (c2, 8, .inl (gCopI bf of 8))), (h3, .inl (c3, 8, .inl of))] [(c1, .int), (c2, .int), (c3, .int)]) (va_A [(h0, .inr (1, [.ref h1, .ref h2, .ref h3])), (h1, .inl (c1, 32, .inl kf)), (h2, .inl (c2, 8, .inl bf)), (h3, .inl (c3, 8, .inl of))] sz)) 0 0 (va_A [(h0, .inr (1, [.ref h1, .ref h2, .ref h3])), (h1, .inl (c1, 32, .inl kf)), (h2, .inl (c2, 8, .inl bf)), (h3, .inl (c3, 8, .inl of))] sz) := by
  refine gMetW (fun A => va_Qv (fun _ : Unit => True) (fun _ => gBw D A [(h0, .inr (1, [.ref h1, .ref h2, .ref h3])), (h1, .inl (c1, 32, .inl kf)), (h2, .inl (c2, 8, .inl (gCopI bf of 8))), (h3, .inl (c3, 8, .inl of))] [(c1, .int), (c2, .int), (c3, .int)]) A) (by decide) (Nat.le_of_ble_eq_true rfl) ?_
  intro p e s m below meth c A ls hx hb hr hts hown hlocks hin hml hAe hA hsz hP hK hD hZ hS hl
  have hl : lv_has ls 2 [(0, .ref h0)] := hl
  have loop : ∀ (n i : Nat), i ≤ 8 → 9 ≤ i + n → ∀ (H : Heap) (locs : List Loc), va_P D vwCl [(h0, .inr (1, [.ref h1, .ref h2, .ref h3])), (h1, .inl (c1, 32, .inl kf)), (h2, .inl (c2, 8, .inl (gCopI bf of i))), (h3, .inl (c3, 8, .inl of))] H → va_D A [(h0, .inr (1, [.ref h1, .ref h2, .ref h3])), (h1, .inl (c1, 32, .inl kf)), (h2, .inl (c2, 8, .inl (gCopI bf of i))), (h3, .inl (c3, 8, .inl of))] → va_S A s.heap H locs → ∀ ls : Array Slot, lv_has ls 2 [(0, .ref h0), (1, .int (nI i))] → W p l e (headSpec (ws_ yX1_again cX1_again 2 none) ({ frames := 0, cells := 0, slots := 0, locals := 0 })).room s m ([.ref h0] : List Value).toArray below meth c H locs 0 0 (MQ below (va_Qv (fun _ : Unit => True) (fun _ => gBw D A [(h0, .inr (1, [.ref h1, .ref h2, .ref h3])), (h1, .inl (c1, 32, .inl kf)), (h2, .inl (c2, 8, .inl (gCopI bf of 8))), (h3, .inl (c3, 8, .inl of))] [(c1, .int), (c2, .int), (c3, .int)]) A) ([.ref h0] : List Value).toArray s 0 0 A) (F0 m 2 ls []) := by
    intro n
    induction n with
    | zero => intro i k1 k2; exact absurd k2 (by omega)
    | succ n ih =>
      intro i k1 k2 H locs hP hD hS ls hl
      refine lv_iload_n hx hb dX1_again_2 rfl (lv_at hl 1 rfl) ?_
      refine lv_bipush (v := 8) hx hb dX1_again_3 (by decide) ?_
      refine lv_icmp_ge (tgt := 26) hx hb dX1_again_5 (by decide) (fun c5 => ?_) (fun c5 => ?_)
      · obtain rfl : i = 8 := Nat.le_antisymm k1 ((nI_leI (a := 8) (b := i) (by omega) (by omega)).mp c5)
        exact g_vret hx hb hr hP hK hD hS hlocks dX1_again_26
      · have hi : i < 8 := Nat.lt_of_not_le fun q => c5 (nI_le (a := 8) (b := i) q (by omega))
        refine lv_aload_n hx hb dX1_again_8 rfl (lv_at hl 0 rfl) ?_
        refine va_get (D := D) (ci := 1) (v := .ref h2) (C := RX1) (T := TX1) (N := 3) hx hb hts in_X1 hown hK hP 0 rfl rfl 1 (by decide) (hts _ q310) (fun _ h9 => h9) rfl dX1_again_9 ?_
        refine lv_iload_n hx hb dX1_again_12 rfl (lv_at hl 1 rfl) ?_
        refine lv_aload_n hx hb dX1_again_13 rfl (lv_at hl 0 rfl) ?_
        refine va_get (D := D) (ci := 1) (v := .ref h3) (C := RX1) (T := TX1) (N := 3) hx hb hts in_X1 hown hK hP 0 rfl rfl 2 (by decide) (hts _ q311) (fun _ h9 => h9) rfl dX1_again_14 ?_
        refine lv_iload_n hx hb dX1_again_17 rfl (lv_at hl 1 rfl) ?_
        refine g_iald hx hb hK hP 3 2 rfl rfl (i) rfl hi (by decide) dX1_again_18 ?_
        refine g_iast (g := gCopI bf of (i + 1)) hx hb hK hP hD hS 2 1 rfl rfl (i) rfl hi (by decide) (gCopI_s bf of i) dX1_again_19 (fun H locs hP hD hS => ?_)
        have hP : va_P D vwCl [(h0, .inr (1, [.ref h1, .ref h2, .ref h3])), (h1, .inl (c1, 32, .inl kf)), (h2, .inl (c2, 8, .inl (gCopI bf of (i + 1)))), (h3, .inl (c3, 8, .inl of))] H := hP
        have hD : va_D A [(h0, .inr (1, [.ref h1, .ref h2, .ref h3])), (h1, .inl (c1, 32, .inl kf)), (h2, .inl (c2, 8, .inl (gCopI bf of (i + 1)))), (h3, .inl (c3, 8, .inl of))] := hD
        refine lv_iinc (v := (nI (i + 1))) (lv' := [(1, .int (nI (i + 1))), (0, .ref h0)]) hx hb dX1_again_20 hl (k := 1) rfl (nI_1 i) (by decide) rfl (fun ls hl => ?_)
        refine lv_goto (tgt := 2) hx hb dX1_again_23 (by decide) ?_
        exact ih (i + 1) hi (by omega) H locs hP hD hS ls (lv_sub hl [1, 0] rfl)
  refine lv_iconst (v := 0) hx hb dX1_again_0 (by decide) ?_
  refine g_top (nI 0) rfl ?_
  refine lv_istore_n (lv' := [(1, .int (nI 0)), (0, .ref h0)]) hx hb dX1_again_1 rfl hl (by decide) rfl (fun ls hl => ?_)
  exact loop 9 0 (by omega) (by omega) s.heap [] (by rw [gCopI_0]; exact hP) (by rw [gCopI_0]; exact hD) hS ls (lv_sub hl [1, 0] rfl)
set_option maxHeartbeats 4000000 in
set_option maxRecDepth 100000 in
/-- GostDeskModel.out -/
theorem mX1_out (l : Launch) (D : va_G) (h0 h1 h2 h3 : Nat) (c1 c2 c3 : ClassId) (kf bf of : Nat → Int32) (p1 : Int32) (tS tR : Nat) : Met l yX1_out (ws_ yX1_out cX1_out 2 (some .int)) ({ frames := 0, cells := 0, slots := 0, locals := 0 }) (va_Pc [.ref h0, .int p1] (gPr D [(h0, .inr (1, [.ref h1, .ref h2, .ref h3])), (h1, .inl (c1, 32, .inl kf)), (h2, .inl (c2, 8, .inl bf)), (h3, .inl (c3, 8, .inl of))] [(c1, .int), (c2, .int), (c3, .int)] tS tR)) (vp_Si (fun z => z = of (gAt p1))) 0 0 (fun _ => False) := by
  refine gMetR (vp_Si (fun z => z = of (gAt p1))) (by decide) (Nat.le_of_ble_eq_true rfl) ?_
  intro p e s m below meth c ls hx hb hr hts hown hlocks hml hP hK hZ hS hl
  have hl : lv_has ls 2 [(0, .ref h0), (1, .int p1)] := hl
  refine lv_aload_n hx hb dX1_out_0 rfl (lv_at hl 0 rfl) ?_
  refine va_get (D := D) (ci := 1) (v := .ref h3) (C := RX1) (T := TX1) (N := 3) hx hb hts in_X1 hown hK hP 0 rfl rfl 2 (by decide) (hts _ q311) (fun _ h9 => h9) rfl dX1_out_1 ?_
  refine lv_iload_n hx hb dX1_out_4 rfl (lv_at hl 1 rfl) ?_
  refine lv_bipush (v := 7) hx hb dX1_out_5 (by decide) ?_
  refine lv_iand hx hb dX1_out_7 ?_
  refine g_top (nI (gAt p1)) (g_and7 p1) ?_
  refine g_iald hx hb hK hP 3 2 rfl rfl (gAt p1) rfl (gAt_lt p1) (by decide) dX1_out_8 ?_
  exact g_iret hx hb hr rfl hlocks dX1_out_9
end
section
/-! ===== KeyParameter and GOST28147Engine, method by method ===== -/
theorem gBi_nar (b : Bool) : narrow .boolean (.int (gBi b)) = .int (gBi b) := by cases b <;> rfl
theorem gBi_fit (b : Bool) : fits .boolean (.int (gBi b)) = true := by cases b <;> rfl
theorem gSch_e1 {k j r : Nat} (hr : r = 8 * k + j) (hk : k < 3) (hj : j < 8) : gSch true r = j := by
  unfold gSch
  rw [if_pos rfl, if_pos (show r < 24 by omega)]
  omega
theorem gSch_e2 {j r : Nat} (hr : r + j = 30) (hj : j < 7) : gSch true r = j + 1 := by
  unfold gSch
  rw [if_pos rfl, if_neg (show ¬ r < 24 by omega)]
  omega
theorem gSch_d1 {j : Nat} (hj : j < 8) : gSch false j = j := by
  unfold gSch
  rw [if_neg (by decide), if_pos hj]
theorem gSch_d2 {k j r : Nat} (hr : r + j = 15 + 8 * k) (hj : j < 8) : gSch false r = j := by
  unfold gSch
  rw [if_neg (by decide), if_neg (show ¬ r < 8 by omega)]
  omega
theorem g_step {b : Bool} {K : Nat → Int32} {u v : Int32} {r j : Nat} (hs : gSch b r = j) : (gRun b K u v r).2 ^^^ gMix (K j + (gRun b K u v r).1) = (gRun b K u v (r + 1)).1 := by
  subst hs
  rw [Int32.add_comm (K (gSch b r))]
  rfl
theorem g_last (b : Bool) (K : Nat → Int32) (u v : Int32) : (gRun b K u v 31).2 ^^^ gMix (K 0 + (gRun b K u v 31).1) = gN2 b K u v := by
  unfold gN2
  rw [Int32.add_comm (K 0)]
/-- a counter that runs down past zero -/
def gDn : Nat → Int32
  | 0 => -1
  | t + 1 => nI t
theorem gDn_s (t : Nat) : nI t + (-1) = gDn t := by
  cases t with
  | zero => decide +kernel
  | succ t => exact pk_m1 t
theorem gDn_neg {t : Nat} (ht : t ≤ 8) (h : gDn t < 0) : t = 0 := by
  cases t with
  | zero => rfl
  | succ t => exact absurd h (nI_pos (n := t) (by omega))
theorem g_F {own : String} {idx : Nat} {C : String} {x y : MethodName} {b : ByteArray} {L : Nat} {r : Option FieldType} (h1 : Cond.methodLink own idx x ∈ lw_all) (h2 : Cond.selects C x y ∈ lw_all) (h3 : Cond.instanceMethod y ∈ lw_all) (h4 : Cond.initialized y.cls ∈ lw_all) (h5 : Cond.code y b L r ∈ lw_all) : GoodIn lw_all (va_wsF own idx C x y (ws_ y b L r)) := by
  refine lw_app ?_ (lw_meth h5)
  intro w hw
  simp only [List.mem_cons, List.not_mem_nil, or_false] at hw
  rcases hw with e | e | e | e
  · rw [e]; exact h1
  · rw [e]; exact h2
  · rw [e]; exact h3
  · rw [e]; exact h4
set_option maxHeartbeats 4000000 in
set_option maxRecDepth 100000 in
/-- KeyParameter(int) -/
theorem mX3_init_3 (l : Launch) (D : va_G) (h0 : Nat) (sz tS tR : Nat) : Met l yX3_init_3 (ws_ yX3_init_3 cX3_init_3 2 none) ({ frames := 1, cells := 1, slots := 32, locals := 12 }) (va_Pc [.ref h0, .int (nI 32)] (gPw D sz [(h0, .inr (3, [.null]))] [] tS tR)) (va_Qv (fun _ : Unit => True) (fun _ t => ∃ (h1 : Nat) (cA : ClassId), gBw D (va_A [(h0, .inr (3, [.null]))] sz) [(h0, .inr (3, [.ref h1])), (h1, .inl (cA, 32, .inl (fun _ => 0)))] [(cA, .byte)] t) (va_A [(h0, .inr (3, [.null]))] sz)) 1 32 (va_A [(h0, .inr (3, [.null]))] sz) := by
  refine gMetW (fun A => va_Qv (fun _ : Unit => True) (fun _ t => ∃ (h1 : Nat) (cA : ClassId), gBw D A [(h0, .inr (3, [.ref h1])), (h1, .inl (cA, 32, .inl (fun _ => 0)))] [(cA, .byte)] t) A) (by decide) (Nat.le_of_ble_eq_true rfl) ?_
  intro p e s m below meth c A ls hx hb hr hts hown hlocks hin hml hAe hA hsz hP hK hD hZ hS hl
  have hl : lv_has ls 2 [(0, .ref h0), (1, .int (nI 32))] := hl
  refine lv_aload_n hx hb dX3_init_3_0 rfl (lv_at hl 0 rfl) ?_
  refine W.objInit hx hb hown (hts _ q93) (hts _ q29) (hts _ q30) rfl (by rw [hml]; exact hl.1) rfl dX3_init_3_1 (Nat.le_of_ble_eq_true rfl) (Nat.le_of_ble_eq_true rfl) ?_
  refine W.eq (g2 := F0 m 4 ls []) rfl ?_
  refine lv_aload_n hx hb dX3_init_3_4 rfl (lv_at hl 0 rfl) ?_
  refine lv_iload_n hx hb dX3_init_3_5 rfl (lv_at hl 1 rfl) ?_
  refine va_newa (atype := .byte) (ty := .byte) (N' := 32) (a0 := (32, .inl (fun _ => 0))) hx hb (hts _ q41) rfl hK hP hD hS hA (fun _ => rfl) (by decide +kernel) (nI_clamp (by decide)) (Nat.le_of_ble_eq_true rfl) (Nat.le_of_ble_eq_true rfl) (Nat.le_of_ble_eq_true rfl) dX3_init_3_6 (fun h1 cA H hK hP hD hS => ?_)
  have hP : va_P D vwCl [(h0, .inr (3, [.null])), (h1, .inl (cA, 32, .inl (fun _ => 0)))] H := hP
  have hD : va_D A [(h0, .inr (3, [.null])), (h1, .inl (cA, 32, .inl (fun _ => 0)))] := hD
  have hK : va_K D vwCl [(cA, .byte)] s := hK
  refine W.widen (k := 1) (n := 32) (Nat.le_of_ble_eq_true rfl) (Nat.le_of_ble_eq_true rfl) ?_
  refine va_put (D := D) (ci := 3) (v := .ref h1) (ty := .array .byte) (C := RX3) (T := TX3) (N := 1) hx hb hts in_X3 tyX3 tyX3_ok nmX3 hown hK hP hD hS 0 rfl rfl 0 (by decide) (hts _ q94) (fun _ h9 => h9) rfl (by decide +kernel) rfl rfl (Nat.le_of_ble_eq_true rfl) dX3_init_3_8 (fun H locs hP hD hS => ?_)
  have hP : va_P D vwCl [(h0, .inr (3, [.ref h1])), (h1, .inl (cA, 32, .inl (fun _ => 0)))] H := hP
  have hD : va_D A [(h0, .inr (3, [.ref h1])), (h1, .inl (cA, 32, .inl (fun _ => 0)))] := hD
  exact W.vret hx hb hr (fun t ht hW => ⟨⟨(), rfl, trivial, h1, cA, by rw [ht]; exact hP, va_K.moved hW.alike hK, hD⟩, hS.F ht⟩) hS.2.2 dX3_init_3_11 hlocks
set_option maxHeartbeats 4000000 in
set_option maxRecDepth 100000 in
/-- KeyParameter(byte[], int, int): a copy -/
theorem mX3_init_2 (l : Launch) (D : va_G) (h0 h2 : Nat) (c2 : ClassId) (f : Nat → Int32) (sz tS tR : Nat) (hfit : ∀ i, i < 32 → fits .byte (.int (f i)) = true) : Met l yX3_init_2 (ws_ yX3_init_2 cX3_init_2 4 none) ({ frames := 2, cells := 1, slots := 32, locals := 60 }) (va_Pc [.ref h0, .ref h2, .int 0, .int (nI 32)] (gPw D sz [(h0, .inr (3, [.null])), (h2, .inl (c2, 32, .inl f))] [(c2, .byte)] tS tR)) (va_Qv (fun _ : Unit => True) (fun _ t => ∃ (h1 : Nat) (cA : ClassId), gBw D (va_A [(h0, .inr (3, [.null])), (h2, .inl (c2, 32, .inl f))] sz) [(h0, .inr (3, [.ref h1])), (h2, .inl (c2, 32, .inl f)), (h1, .inl (cA, 32, .inl (va_cpy f (fun _ => 0) 0 0 32)))] [(c2, .byte), (cA, .byte)] t) (va_A [(h0, .inr (3, [.null])), (h2, .inl (c2, 32, .inl f))] sz)) 1 32 (va_A [(h0, .inr (3, [.null])), (h2, .inl (c2, 32, .inl f))] sz) := by
  refine gMetW (fun A => va_Qv (fun _ : Unit => True) (fun _ t => ∃ (h1 : Nat) (cA : ClassId), gBw D A [(h0, .inr (3, [.ref h1])), (h2, .inl (c2, 32, .inl f)), (h1, .inl (cA, 32, .inl (va_cpy f (fun _ => 0) 0 0 32)))] [(c2, .byte), (cA, .byte)] t) A) (by decide) (Nat.le_of_ble_eq_true rfl) ?_
  intro p e s m below meth c A ls hx hb hr hts hown hlocks hin hml hAe hA hsz hP hK hD hZ hS hl
  have hl : lv_has ls 4 [(0, .ref h0), (1, .ref h2), (2, .int 0), (3, .int (nI 32))] := hl
  refine lv_aload_n hx hb dX3_init_2_0 rfl (lv_at hl 0 rfl) ?_
  refine lv_iload_n hx hb dX3_init_2_1 rfl (lv_at hl 3 rfl) ?_
  have hPc := hP.sub (ws' := [(h0, .inr (3, [.null]))]) [0] rfl
  have hDc := hD.sub (ws' := [(h0, .inr (3, [.null]))]) [0] (by decide) rfl
  have hKc := hK.sub (tys' := []) [] rfl
  have hFc := va_free (wc := [(h0, .inr (3, [.null]))]) hD hS hA [0] rfl
  refine va_callv (va_runI (As := [.int (nI 32)]) (rest := []) ⟨hx, hb, hml, hown, hts⟩ (mX3_init_3 l D h0 s.heap.size tS tR) (cwI 1 hts (lw_meth q92) rfl rfl rfl (hts _ q12) (hts _ q90) (hts _ q91) rfl (by decide +kernel) ⟨Nat.le_of_ble_eq_true rfl, Nat.le_of_ble_eq_true rfl⟩) ⟨gPw_blind, gPw_of hPc hKc hDc hZ hS hFc⟩ rfl rfl hl.1 rfl (lv_room (Nat.le_of_ble_eq_true rfl)) dX3_init_2_2 ⟨Nat.le_of_ble_eq_true rfl, Nat.le_of_ble_eq_true rfl⟩) hS (fun q _ h => hFc q h) hFc (fun u t H1 locs ht hvm hw hB hz1 hk1 hS => ?_)
  obtain ⟨h1, cA, hP1, hK1, hD1⟩ := hB
  rw [ht] at hP1
  have hK1 := va_K.moved hvm.symm hK1
  obtain ⟨hP, hD⟩ := va_join (wr := [(h2, .inl (c2, 32, .inl f))]) (w1 := [(h0, .inr (3, [.ref h1])), (h1, .inl (cA, 32, .inl (fun _ => 0)))]) hP hD [0] [1] rfl rfl (by decide) (by decide) hk1 hFc hP1 hD1
  have hK := (hK.sub (tys' := [(c2, .byte)]) [0] rfl).app (hK1.sub (tys' := [(cA, .byte)]) [0] rfl)
  generalize H1 = H at hP hS ⊢
  have hP : va_P D vwCl [(h2, .inl (c2, 32, .inl f)), (h0, .inr (3, [.ref h1])), (h1, .inl (cA, 32, .inl (fun _ => 0)))] H := hP
  have hD : va_D A [(h2, .inl (c2, 32, .inl f)), (h0, .inr (3, [.ref h1])), (h1, .inl (cA, 32, .inl (fun _ => 0)))] := hD
  have hK : va_K D vwCl [(c2, .byte), (cA, .byte)] s := hK
  refine W.widen (k := 1) (n := 32) (Nat.le_of_ble_eq_true rfl) (Nat.le_of_ble_eq_true rfl) ?_
  refine lv_aload_n hx hb dX3_init_2_5 rfl (lv_at hl 1 rfl) ?_
  refine lv_iload_n hx hb dX3_init_2_6 rfl (lv_at hl 2 rfl) ?_
  refine lv_aload_n hx hb dX3_init_2_7 rfl (lv_at hl 0 rfl) ?_
  refine va_get (D := D) (ci := 3) (v := .ref h1) (C := RX3) (T := TX3) (N := 1) hx hb hts in_X3 hown hK hP 1 rfl rfl 0 (by decide) (hts _ q94) (fun _ h9 => h9) rfl dX3_init_2_8 ?_
  refine lv_iconst (v := 0) hx hb dX3_init_2_11 (by decide) ?_
  refine lv_iload_n hx hb dX3_init_2_12 rfl (lv_at hl 3 rfl) ?_
  refine va_copyi hx hb (by rw [hml]; exact hl.1.symm) hown (hts _ q98) (hts _ q100) (hts _ q99) (hts _ q13) hK hP hD hS 0 2 0 1 rfl rfl rfl rfl rfl (by decide) (by decide) (by decide +kernel) (by decide +kernel) (by decide +kernel) (fun i hi => by rw [nI_clamp (by decide)] at hi; rw [show (0 : Int32).toNatClampNeg + i = i from Nat.zero_add i]; exact hfit i hi) (Nat.le_of_ble_eq_true rfl) (by decide +kernel) dX3_init_2_13 (fun H locs hP hD hS => ?_)
  rw [show (nI 32).toNatClampNeg = 32 from nI_clamp (by decide), show (0 : Int32).toNatClampNeg = 0 from by decide +kernel] at hP hD
  have hP : va_P D vwCl [(h2, .inl (c2, 32, .inl f)), (h0, .inr (3, [.ref h1])), (h1, .inl (cA, 32, .inl (va_cpy f (fun _ => 0) 0 0 32)))] H := hP
  have hD : va_D A [(h2, .inl (c2, 32, .inl f)), (h0, .inr (3, [.ref h1])), (h1, .inl (cA, 32, .inl (va_cpy f (fun _ => 0) 0 0 32)))] := hD
  have hP := hP.sub (ws' := [(h0, .inr (3, [.ref h1])), (h2, .inl (c2, 32, .inl f)), (h1, .inl (cA, 32, .inl (va_cpy f (fun _ => 0) 0 0 32)))]) [1, 0, 2] rfl
  have hD := hD.sub (ws' := [(h0, .inr (3, [.ref h1])), (h2, .inl (c2, 32, .inl f)), (h1, .inl (cA, 32, .inl (va_cpy f (fun _ => 0) 0 0 32)))]) [1, 0, 2] (by decide) rfl
  have hK := hK.sub (tys' := [(c2, .byte), (cA, .byte)]) [0, 1] rfl
  exact W.vret hx hb hr (fun t ht hW => ⟨⟨(), rfl, trivial, h1, cA, by rw [ht]; exact hP, va_K.moved hW.alike hK, hD⟩, hS.F ht⟩) hS.2.2 dX3_init_2_16 hlocks
set_option maxHeartbeats 4000000 in
set_option maxRecDepth 100000 in
/-- KeyParameter(byte[]) -/
theorem mX3_init (l : Launch) (D : va_G) (h0 h2 : Nat) (c2 : ClassId) (f : Nat → Int32) (sz tS tR : Nat) (hfit : ∀ i, i < 32 → fits .byte (.int (f i)) = true) : Met l yX3_init (ws_ yX3_init cX3_init 2 none) ({ frames := 3, cells := 1, slots := 32, locals := 83 }) (va_Pc [.ref h0, .ref h2] (gPw D sz [(h0, .inr (3, [.null])), (h2, .inl (c2, 32, .inl f))] [(c2, .byte)] tS tR)) (va_Qv (fun _ : Unit => True) (fun _ t => ∃ (h1 : Nat) (cA : ClassId), gBw D (va_A [(h0, .inr (3, [.null])), (h2, .inl (c2, 32, .inl f))] sz) [(h0, .inr (3, [.ref h1])), (h2, .inl (c2, 32, .inl f)), (h1, .inl (cA, 32, .inl (va_cpy f (fun _ => 0) 0 0 32)))] [(c2, .byte), (cA, .byte)] t) (va_A [(h0, .inr (3, [.null])), (h2, .inl (c2, 32, .inl f))] sz)) 1 32 (va_A [(h0, .inr (3, [.null])), (h2, .inl (c2, 32, .inl f))] sz) := by
  refine gMetW (fun A => va_Qv (fun _ : Unit => True) (fun _ t => ∃ (h1 : Nat) (cA : ClassId), gBw D A [(h0, .inr (3, [.ref h1])), (h2, .inl (c2, 32, .inl f)), (h1, .inl (cA, 32, .inl (va_cpy f (fun _ => 0) 0 0 32)))] [(c2, .byte), (cA, .byte)] t) A) (by decide) (Nat.le_of_ble_eq_true rfl) ?_
  intro p e s m below meth c A ls hx hb hr hts hown hlocks hin hml hAe hA hsz hP hK hD hZ hS hl
  have hl : lv_has ls 2 [(0, .ref h0), (1, .ref h2)] := hl
  refine lv_aload_n hx hb dX3_init_0 rfl (lv_at hl 0 rfl) ?_
  refine lv_aload_n hx hb dX3_init_1 rfl (lv_at hl 1 rfl) ?_
  refine lv_iconst (v := 0) hx hb dX3_init_2 (by decide) ?_
  refine lv_aload_n hx hb dX3_init_3 rfl (lv_at hl 1 rfl) ?_
  refine va_alen (v := 32) hx hb hK hP 1 0 rfl rfl rfl dX3_init_4 ?_
  refine g_top (nI 32) rfl ?_
  have hPc := hP.sub (ws' := [(h0, .inr (3, [.null])), (h2, .inl (c2, 32, .inl f))]) [0, 1] rfl
  have hDc := hD.sub (ws' := [(h0, .inr (3, [.null])), (h2, .inl (c2, 32, .inl f))]) [0, 1] (by decide) rfl
  have hKc := hK.sub (tys' := [(c2, .byte)]) [0] rfl
  have hFc := va_free (wc := [(h0, .inr (3, [.null])), (h2, .inl (c2, 32, .inl f))]) hD hS hA [0, 1] rfl
  refine va_callv (va_runI (As := [.ref h2, .int 0, .int (nI 32)]) (rest := []) ⟨hx, hb, hml, hown, hts⟩ (mX3_init_2 l D h0 h2 c2 f s.heap.size tS tR hfit) (cwI 3 hts (lw_meth q89) rfl rfl rfl (hts _ q12) (hts _ q87) (hts _ q88) rfl (by decide +kernel) ⟨Nat.le_of_ble_eq_true rfl, Nat.le_of_ble_eq_true rfl⟩) ⟨gPw_blind, gPw_of hPc hKc hDc hZ hS hFc⟩ rfl rfl hl.1 rfl (lv_room (Nat.le_of_ble_eq_true rfl)) dX3_init_5 ⟨Nat.le_of_ble_eq_true rfl, Nat.le_of_ble_eq_true rfl⟩) hS (fun q _ h => hFc q h) hFc (fun u t H1 locs ht hvm hw hB hz1 hk1 hS => ?_)
  obtain ⟨h1, cA, hP1, hK1, hD1⟩ := hB
  rw [ht] at hP1
  have hK1 := va_K.moved hvm.symm hK1
  obtain ⟨hP, hD⟩ := va_join (wr := []) (w1 := [(h0, .inr (3, [.ref h1])), (h2, .inl (c2, 32, .inl f)), (h1, .inl (cA, 32, .inl (va_cpy f (fun _ => 0) 0 0 32)))]) hP hD [0, 1] [] rfl rfl (by decide) (by decide) hk1 hFc hP1 hD1
  have hK := (hK.sub (tys' := [(c2, .byte)]) [0] rfl).app (hK1.sub (tys' := [(cA, .byte)]) [1] rfl)
  generalize H1 = H at hP hS ⊢
  have hP : va_P D vwCl [(h0, .inr (3, [.ref h1])), (h2, .inl (c2, 32, .inl f)), (h1, .inl (cA, 32, .inl (va_cpy f (fun _ => 0) 0 0 32)))] H := hP
  have hD : va_D A [(h0, .inr (3, [.ref h1])), (h2, .inl (c2, 32, .inl f)), (h1, .inl (cA, 32, .inl (va_cpy f (fun _ => 0) 0 0 32)))] := hD
  have hK : va_K D vwCl [(c2, .byte), (cA, .byte)] s := hK
  refine W.widen (k := 1) (n := 32) (Nat.le_of_ble_eq_true rfl) (Nat.le_of_ble_eq_true rfl) ?_
  have hP := hP.sub (ws' := [(h0, .inr (3, [.ref h1])), (h2, .inl (c2, 32, .inl f)), (h1, .inl (cA, 32, .inl (va_cpy f (fun _ => 0) 0 0 32)))]) [0, 1, 2] rfl
  have hD := hD.sub (ws' := [(h0, .inr (3, [.ref h1])), (h2, .inl (c2, 32, .inl f)), (h1, .inl (cA, 32, .inl (va_cpy f (fun _ => 0) 0 0 32)))]) [0, 1, 2] (by decide) rfl
  have hK := hK.sub (tys' := [(c2, .byte), (cA, .byte)]) [0, 1] rfl
  exact W.vret hx hb hr (fun t ht hW => ⟨⟨(), rfl, trivial, h1, cA, by rw [ht]; exact hP, va_K.moved hW.alike hK, hD⟩, hS.F ht⟩) hS.2.2 dX3_init_8 hlocks
set_option maxHeartbeats 4000000 in
set_option maxRecDepth 100000 in
/-- KeyParameter.getKey -/
theorem mX3_getKey (l : Launch) (D : va_G) (h0 h1 : Nat) (tS tR : Nat) : Met l yX3_getKey (ws_ yX3_getKey cX3_getKey 1 (some (.array .byte))) ({ frames := 0, cells := 0, slots := 0, locals := 0 }) (va_Pc [.ref h0] (gPr D [(h0, .inr (3, [.ref h1]))] [] tS tR)) (va_Sr (fun _ => True) (fun _ => .ref h1)) 0 0 (fun _ => False) := by
  refine gMetR (va_Sr (fun _ => True) (fun _ => .ref h1)) (by decide) (Nat.le_of_ble_eq_true rfl) ?_
  intro p e s m below meth c ls hx hb hr hts hown hlocks hml hP hK hZ hS hl
  have hl : lv_has ls 1 [(0, .ref h0)] := hl
  refine lv_aload_n hx hb dX3_getKey_0 rfl (lv_at hl 0 rfl) ?_
  refine va_get (D := D) (ci := 3) (v := .ref h1) (C := RX3) (T := TX3) (N := 1) hx hb hts in_X3 hown hK hP 0 rfl rfl 0 (by decide) (hts _ q94) (fun _ h9 => h9) rfl dX3_getKey_1 ?_
  exact W.aret hx hb hr (Or.inr ⟨_, rfl⟩) (Or.inr ⟨_, rfl⟩) (fun t ht _ => ⟨0, rfl, trivial, ht⟩) (fun q h => by cases h) dX3_getKey_4 hlocks
set_option maxHeartbeats 4000000 in
set_option maxRecDepth 100000 in
/-- GOST28147Engine(): the default table -/
theorem mX2_init (l : Launch) (D : va_G) (h0 : Nat) (sz tS tR : Nat) : Met l yX2_init (ws_ yX2_init cX2_init 1 none) ({ frames := 1, cells := 0, slots := 0, locals := 12 }) (va_Pc [.ref h0] (gPw D sz [(h0, .inr (2, [.null, .int 0, .null]))] [] tS tR)) (va_Qv (fun _ : Unit => True) (fun _ => gBw D (va_A [(h0, .inr (2, [.null, .int 0, .null]))] sz) [(h0, .inr (2, [.null, .int 0, .ref tS]))] []) (va_A [(h0, .inr (2, [.null, .int 0, .null]))] sz)) 0 0 (va_A [(h0, .inr (2, [.null, .int 0, .null]))] sz) := by
  refine gMetW (fun A => va_Qv (fun _ : Unit => True) (fun _ => gBw D A [(h0, .inr (2, [.null, .int 0, .ref tS]))] []) A) (by decide) (Nat.le_of_ble_eq_true rfl) ?_
  intro p e s m below meth c A ls hx hb hr hts hown hlocks hin hml hAe hA hsz hP hK hD hZ hS hl
  have hl : lv_has ls 1 [(0, .ref h0)] := hl
  refine lv_aload_n hx hb dX2_init_0 rfl (lv_at hl 0 rfl) ?_
  refine W.objInit hx hb hown (hts _ q69) (hts _ q29) (hts _ q30) rfl (by rw [hml]; exact hl.1) rfl dX2_init_1 (Nat.le_of_ble_eq_true rfl) (Nat.le_of_ble_eq_true rfl) ?_
  refine W.eq (g2 := F0 m 4 ls []) rfl ?_
  refine lv_aload_n hx hb dX2_init_4 rfl (lv_at hl 0 rfl) ?_
  refine lv_null hx hb dX2_init_5 ?_
  refine va_put (D := D) (ci := 2) (v := .null) (ty := .array .int) (C := RX2) (T := TX2) (N := 3) hx hb hts in_X2 tyX2 tyX2_ok nmX2 hown hK hP hD hS 0 rfl rfl 0 (by decide) (hts _ q72) (fun _ h9 => h9) rfl (by decide +kernel) rfl rfl (Nat.le_of_ble_eq_true rfl) dX2_init_6 (fun H locs hP hD hS => ?_)
  have hP : va_P D vwCl [(h0, .inr (2, [.null, .int 0, .null]))] H := hP
  have hD : va_D A [(h0, .inr (2, [.null, .int 0, .null]))] := hD
  refine lv_aload_n hx hb dX2_init_9 rfl (lv_at hl 0 rfl) ?_
  refine va_gets hx hb (v := .ref tS) hZ.1.1 hS hown (hts _ q70) (fun _ h9 => h9) dX2_init_10 ?_
  refine va_put (D := D) (ci := 2) (v := .ref tS) (ty := .array .byte) (C := RX2) (T := TX2) (N := 3) hx hb hts in_X2 tyX2 tyX2_ok nmX2 hown hK hP hD hS 0 rfl rfl 2 (by decide) (hts _ q74) (fun _ h9 => h9) rfl (by decide +kernel) rfl rfl (Nat.le_of_ble_eq_true rfl) dX2_init_13 (fun H locs hP hD hS => ?_)
  have hP : va_P D vwCl [(h0, .inr (2, [.null, .int 0, .ref tS]))] H := hP
  have hD : va_D A [(h0, .inr (2, [.null, .int 0, .ref tS]))] := hD
  exact g_vret hx hb hr hP hK hD hS hlocks dX2_init_16
set_option maxHeartbeats 4000000 in
set_option maxRecDepth 100000 in
/-- GOST28147Engine.bytesToint -/
theorem mX2_bytesToint (l : Launch) (D : va_G) (h0 a : Nat) (c1 : ClassId) (n : Nat) (f : Nat → Int32) (i : Nat) (tS tR : Nat) (hi : i + 3 < n) (hn : n < 2 ^ 31) : Met l yX2_bytesToint (ws_ yX2_bytesToint cX2_bytesToint 3 (some .int)) ({ frames := 0, cells := 0, slots := 0, locals := 0 }) (va_Pc [.ref h0, .ref a, .int (nI i)] (gPr D [(a, .inl (c1, n, .inl f))] [(c1, .byte)] tS tR)) (vp_Si (fun z => z = gWe f i)) 0 0 (fun _ => False) := by
  refine gMetR (vp_Si (fun z => z = gWe f i)) (by decide) (Nat.le_of_ble_eq_true rfl) ?_
  intro p e s m below meth c ls hx hb hr hts hown hlocks hml hP hK hZ hS hl
  have hl : lv_has ls 3 [(0, .ref h0), (1, .ref a), (2, .int (nI i))] := hl
  refine lv_aload_n hx hb dX2_bytesToint_0 rfl (lv_at hl 1 rfl) ?_
  refine lv_iload_n hx hb dX2_bytesToint_1 rfl (lv_at hl 2 rfl) ?_
  refine lv_iconst (v := 3) hx hb dX2_bytesToint_2 (by decide) ?_
  refine lv_iadd hx hb dX2_bytesToint_3 ?_
  refine g_bald hx hb hK hP 0 0 rfl rfl (i + 3) (nI_add i 3) (by omega) hn dX2_bytesToint_4 ?_
  refine lv_bipush (v := 24) hx hb dX2_bytesToint_5 (by decide) ?_
  refine lv_ishl hx hb dX2_bytesToint_7 ?_
  refine lv_ldc hx hb hown (hts _ q212) dX2_bytesToint_8 ?_
  refine lv_iand hx hb dX2_bytesToint_10 ?_
  refine lv_aload_n hx hb dX2_bytesToint_11 rfl (lv_at hl 1 rfl) ?_
  refine lv_iload_n hx hb dX2_bytesToint_12 rfl (lv_at hl 2 rfl) ?_
  refine lv_iconst (v := 2) hx hb dX2_bytesToint_13 (by decide) ?_
  refine lv_iadd hx hb dX2_bytesToint_14 ?_
  refine g_bald hx hb hK hP 0 0 rfl rfl (i + 2) (nI_add i 2) (by omega) hn dX2_bytesToint_15 ?_
  refine lv_bipush (v := 16) hx hb dX2_bytesToint_16 (by decide) ?_
  refine lv_ishl hx hb dX2_bytesToint_18 ?_
  refine lv_ldc hx hb hown (hts _ q213) dX2_bytesToint_19 ?_
  refine lv_iand hx hb dX2_bytesToint_21 ?_
  refine lv_iadd hx hb dX2_bytesToint_22 ?_
  refine lv_aload_n hx hb dX2_bytesToint_23 rfl (lv_at hl 1 rfl) ?_
  refine lv_iload_n hx hb dX2_bytesToint_24 rfl (lv_at hl 2 rfl) ?_
  refine lv_iconst (v := 1) hx hb dX2_bytesToint_25 (by decide) ?_
  refine lv_iadd hx hb dX2_bytesToint_26 ?_
  refine g_bald hx hb hK hP 0 0 rfl rfl (i + 1) (nI_1 i) (by omega) hn dX2_bytesToint_27 ?_
  refine lv_bipush (v := 8) hx hb dX2_bytesToint_28 (by decide) ?_
  refine lv_ishl hx hb dX2_bytesToint_30 ?_
  refine lv_ldc hx hb hown (hts _ q214) dX2_bytesToint_31 ?_
  refine lv_iand hx hb dX2_bytesToint_33 ?_
  refine lv_iadd hx hb dX2_bytesToint_34 ?_
  refine lv_aload_n hx hb dX2_bytesToint_35 rfl (lv_at hl 1 rfl) ?_
  refine lv_iload_n hx hb dX2_bytesToint_36 rfl (lv_at hl 2 rfl) ?_
  refine g_bald hx hb hK hP 0 0 rfl rfl (i) rfl (by omega) hn dX2_bytesToint_37 ?_
  refine lv_sipush (v := 255) hx hb dX2_bytesToint_38 (by decide) ?_
  refine lv_iand hx hb dX2_bytesToint_41 ?_
  refine lv_iadd hx hb dX2_bytesToint_42 ?_
  exact g_iret hx hb hr rfl hlocks dX2_bytesToint_43
set_option maxHeartbeats 4000000 in
set_option maxRecDepth 100000 in
/-- GOST28147Engine.intTobytes -/
theorem mX2_intTobytes (l : Launch) (D : va_G) (h0 a : Nat) (c1 : ClassId) (n : Nat) (f : Nat → Int32) (v : Int32) (i : Nat) (sz tS tR : Nat) (hi : i + 3 < n) (hn : n < 2 ^ 31) : Met l yX2_intTobytes (ws_ yX2_intTobytes cX2_intTobytes 4 none) ({ frames := 0, cells := 0, slots := 0, locals := 0 }) (va_Pc [.ref h0, .int v, .ref a, .int (nI i)] (gPw D sz [(a, .inl (c1, n, .inl f))] [(c1, .byte)] tS tR)) (va_Qv (fun _ : Unit => True) (fun _ => gBw D (va_A [(a, .inl (c1, n, .inl f))] sz) [(a, .inl (c1, n, .inl (gPutE f i v)))] [(c1, .byte)]) (va_A [(a, .inl (c1, n, .inl f))] sz)) 0 0 (va_A [(a, .inl (c1, n, .inl f))] sz) := by
  refine gMetW (fun A => va_Qv (fun _ : Unit => True) (fun _ => gBw D A [(a, .inl (c1, n, .inl (gPutE f i v)))] [(c1, .byte)]) A) (by decide) (Nat.le_of_ble_eq_true rfl) ?_
  intro p e s m below meth c A ls hx hb hr hts hown hlocks hin hml hAe hA hsz hP hK hD hZ hS hl
  have hl : lv_has ls 4 [(0, .ref h0), (1, .int v), (2, .ref a), (3, .int (nI i))] := hl
  refine lv_aload_n hx hb dX2_intTobytes_0 rfl (lv_at hl 2 rfl) ?_
  refine lv_iload_n hx hb dX2_intTobytes_1 rfl (lv_at hl 3 rfl) ?_
  refine lv_iconst (v := 3) hx hb dX2_intTobytes_2 (by decide) ?_
  refine lv_iadd hx hb dX2_intTobytes_3 ?_
  refine lv_iload_n hx hb dX2_intTobytes_4 rfl (lv_at hl 1 rfl) ?_
  refine lv_bipush (v := 24) hx hb dX2_intTobytes_5 (by decide) ?_
  refine lv_iushr hx hb dX2_intTobytes_7 rfl ?_
  refine lv_i2b hx hb dX2_intTobytes_8 rfl ?_
  refine g_bast (g := upd f (i + 3) (gB8 (gUshr v 24).toInt8.toInt32)) hx hb hK hP hD hS 0 0 rfl rfl (i + 3) (nI_add i 3) (by omega) hn rfl dX2_intTobytes_9 (fun H locs hP hD hS => ?_)
  have hP : va_P D vwCl [(a, .inl (c1, n, .inl (upd f (i + 3) (gB8 (gUshr v 24).toInt8.toInt32))))] H := hP
  have hD : va_D A [(a, .inl (c1, n, .inl (upd f (i + 3) (gB8 (gUshr v 24).toInt8.toInt32))))] := hD
  refine lv_aload_n hx hb dX2_intTobytes_10 rfl (lv_at hl 2 rfl) ?_
  refine lv_iload_n hx hb dX2_intTobytes_11 rfl (lv_at hl 3 rfl) ?_
  refine lv_iconst (v := 2) hx hb dX2_intTobytes_12 (by decide) ?_
  refine lv_iadd hx hb dX2_intTobytes_13 ?_
  refine lv_iload_n hx hb dX2_intTobytes_14 rfl (lv_at hl 1 rfl) ?_
  refine lv_bipush (v := 16) hx hb dX2_intTobytes_15 (by decide) ?_
  refine lv_iushr hx hb dX2_intTobytes_17 rfl ?_
  refine lv_i2b hx hb dX2_intTobytes_18 rfl ?_
  refine g_bast (g := upd (upd f (i + 3) (gB8 (gUshr v 24).toInt8.toInt32)) (i + 2) (gB8 (gUshr v 16).toInt8.toInt32)) hx hb hK hP hD hS 0 0 rfl rfl (i + 2) (nI_add i 2) (by omega) hn rfl dX2_intTobytes_19 (fun H locs hP hD hS => ?_)
  have hP : va_P D vwCl [(a, .inl (c1, n, .inl (upd (upd f (i + 3) (gB8 (gUshr v 24).toInt8.toInt32)) (i + 2) (gB8 (gUshr v 16).toInt8.toInt32))))] H := hP
  have hD : va_D A [(a, .inl (c1, n, .inl (upd (upd f (i + 3) (gB8 (gUshr v 24).toInt8.toInt32)) (i + 2) (gB8 (gUshr v 16).toInt8.toInt32))))] := hD
  refine lv_aload_n hx hb dX2_intTobytes_20 rfl (lv_at hl 2 rfl) ?_
  refine lv_iload_n hx hb dX2_intTobytes_21 rfl (lv_at hl 3 rfl) ?_
  refine lv_iconst (v := 1) hx hb dX2_intTobytes_22 (by decide) ?_
  refine lv_iadd hx hb dX2_intTobytes_23 ?_
  refine lv_iload_n hx hb dX2_intTobytes_24 rfl (lv_at hl 1 rfl) ?_
  refine lv_bipush (v := 8) hx hb dX2_intTobytes_25 (by decide) ?_
  refine lv_iushr hx hb dX2_intTobytes_27 rfl ?_
  refine lv_i2b hx hb dX2_intTobytes_28 rfl ?_
  refine g_bast (g := upd (upd (upd f (i + 3) (gB8 (gUshr v 24).toInt8.toInt32)) (i + 2) (gB8 (gUshr v 16).toInt8.toInt32)) (i + 1) (gB8 (gUshr v 8).toInt8.toInt32)) hx hb hK hP hD hS 0 0 rfl rfl (i + 1) (nI_1 i) (by omega) hn rfl dX2_intTobytes_29 (fun H locs hP hD hS => ?_)
  have hP : va_P D vwCl [(a, .inl (c1, n, .inl (upd (upd (upd f (i + 3) (gB8 (gUshr v 24).toInt8.toInt32)) (i + 2) (gB8 (gUshr v 16).toInt8.toInt32)) (i + 1) (gB8 (gUshr v 8).toInt8.toInt32))))] H := hP
  have hD : va_D A [(a, .inl (c1, n, .inl (upd (upd (upd f (i + 3) (gB8 (gUshr v 24).toInt8.toInt32)) (i + 2) (gB8 (gUshr v 16).toInt8.toInt32)) (i + 1) (gB8 (gUshr v 8).toInt8.toInt32))))] := hD
  refine lv_aload_n hx hb dX2_intTobytes_30 rfl (lv_at hl 2 rfl) ?_
  refine lv_iload_n hx hb dX2_intTobytes_31 rfl (lv_at hl 3 rfl) ?_
  refine lv_iload_n hx hb dX2_intTobytes_32 rfl (lv_at hl 1 rfl) ?_
  refine lv_i2b hx hb dX2_intTobytes_33 rfl ?_
  refine g_bast (g := gPutE f i v) hx hb hK hP hD hS 0 0 rfl rfl (i) rfl (by omega) hn rfl dX2_intTobytes_34 (fun H locs hP hD hS => ?_)
  have hP : va_P D vwCl [(a, .inl (c1, n, .inl (gPutE f i v)))] H := hP
  have hD : va_D A [(a, .inl (c1, n, .inl (gPutE f i v)))] := hD
  exact g_vret hx hb hr hP hK hD hS hlocks dX2_intTobytes_35
set_option maxHeartbeats 4000000 in
set_option maxRecDepth 100000 in
/-- GOST28147Engine.GOST28147_mainStep -/
theorem mX2_GOST28147_mainStep (l : Launch) (D : va_G) (h0 : Nat) (v0 v1 : Value) (p1 p2 : Int32) (tS tR : Nat) : Met l yX2_GOST28147_mainStep (ws_ yX2_GOST28147_mainStep cX2_GOST28147_mainStep 5 (some .int)) ({ frames := 0, cells := 0, slots := 0, locals := 0 }) (va_Pc [.ref h0, .int p1, .int p2] (gPr D [(h0, .inr (2, [v0, v1, .ref tS]))] [] tS tR)) (vp_Si (fun z => z = gMix (p2 + p1))) 0 0 (fun _ => False) := by
  refine gMetR (vp_Si (fun z => z = gMix (p2 + p1))) (by decide) (Nat.le_of_ble_eq_true rfl) ?_
  intro p e s m below meth c ls hx hb hr hts hown hlocks hml hP hK hZ hS hl
  have hl : lv_has ls 5 [(0, .ref h0), (1, .int p1), (2, .int p2)] := hl
  refine lv_iload_n hx hb dX2_GOST28147_mainStep_0 rfl (lv_at hl 2 rfl) ?_
  refine lv_iload_n hx hb dX2_GOST28147_mainStep_1 rfl (lv_at hl 1 rfl) ?_
  refine lv_iadd hx hb dX2_GOST28147_mainStep_2 ?_
  refine lv_topi (fun x ex => ?_)
  refine lv_istore_n (lv' := [(3, .int x), (0, .ref h0), (1, .int p1), (2, .int p2)]) hx hb dX2_GOST28147_mainStep_3 rfl hl (by decide) rfl (fun ls hl => ?_)
  refine lv_aload_n hx hb dX2_GOST28147_mainStep_4 rfl (lv_at hl 1 rfl) ?_
  refine va_get (D := D) (ci := 2) (v := .ref tS) (C := RX2) (T := TX2) (N := 3) hx hb hts in_X2 hown hK hP 0 rfl rfl 2 (by decide) (hts _ q74) (fun _ h9 => h9) rfl dX2_GOST28147_mainStep_5 ?_
  refine lv_iconst (v := 0) hx hb dX2_GOST28147_mainStep_8 (by decide) ?_
  refine lv_iload_n hx hb dX2_GOST28147_mainStep_9 rfl (lv_at hl 0 rfl) ?_
  refine lv_iconst (v := 0) hx hb dX2_GOST28147_mainStep_10 (by decide) ?_
  refine lv_ishr hx hb dX2_GOST28147_mainStep_11 ?_
  refine lv_bipush (v := 15) hx hb dX2_GOST28147_mainStep_12 (by decide) ?_
  refine lv_iand hx hb dX2_GOST28147_mainStep_14 ?_
  refine lv_iadd hx hb dX2_GOST28147_mainStep_15 ?_
  refine g_tb hx hb hZ.1.2 hS (16 * 0 + gNib x 0) (g_ix x 0 (by decide)) (g_ix_lt x 0 (by decide)) (by decide) (v := .int (nI (gS (16 * 0 + gNib x 0)))) rfl dX2_GOST28147_mainStep_16 ?_
  refine lv_iconst (v := 0) hx hb dX2_GOST28147_mainStep_17 (by decide) ?_
  refine lv_ishl hx hb dX2_GOST28147_mainStep_18 ?_
  refine g_top (nI (gSum x 1)) (g_acc0 x) ?_
  refine lv_istore (lv' := [(4, .int (nI (gSum x 1))), (3, .int x), (0, .ref h0), (1, .int p1), (2, .int p2)]) hx hb dX2_GOST28147_mainStep_19 hl (by decide) rfl (fun ls hl => ?_)
  refine lv_iload hx hb dX2_GOST28147_mainStep_21 (lv_at hl 0 rfl) ?_
  refine lv_aload_n hx hb dX2_GOST28147_mainStep_23 rfl (lv_at hl 2 rfl) ?_
  refine va_get (D := D) (ci := 2) (v := .ref tS) (C := RX2) (T := TX2) (N := 3) hx hb hts in_X2 hown hK hP 0 rfl rfl 2 (by decide) (hts _ q74) (fun _ h9 => h9) rfl dX2_GOST28147_mainStep_24 ?_
  refine lv_bipush (v := 16) hx hb dX2_GOST28147_mainStep_27 (by decide) ?_
  refine lv_iload_n hx hb dX2_GOST28147_mainStep_29 rfl (lv_at hl 1 rfl) ?_
  refine lv_iconst (v := 4) hx hb dX2_GOST28147_mainStep_30 (by decide) ?_
  refine lv_ishr hx hb dX2_GOST28147_mainStep_31 ?_
  refine lv_bipush (v := 15) hx hb dX2_GOST28147_mainStep_32 (by decide) ?_
  refine lv_iand hx hb dX2_GOST28147_mainStep_34 ?_
  refine lv_iadd hx hb dX2_GOST28147_mainStep_35 ?_
  refine g_tb hx hb hZ.1.2 hS (16 * 1 + gNib x 1) (g_ix x 1 (by decide)) (g_ix_lt x 1 (by decide)) (by decide) (v := .int (nI (gS (16 * 1 + gNib x 1)))) rfl dX2_GOST28147_mainStep_36 ?_
  refine lv_iconst (v := 4) hx hb dX2_GOST28147_mainStep_37 (by decide) ?_
  refine lv_ishl hx hb dX2_GOST28147_mainStep_38 ?_
  refine lv_iadd hx hb dX2_GOST28147_mainStep_39 ?_
  refine g_top (nI (gSum x 2)) (g_acc x 1 (by decide)) ?_
  refine lv_istore (lv' := [(4, .int (nI (gSum x 2))), (3, .int x), (0, .ref h0), (1, .int p1), (2, .int p2)]) hx hb dX2_GOST28147_mainStep_40 hl (by decide) rfl (fun ls hl => ?_)
  refine lv_iload hx hb dX2_GOST28147_mainStep_42 (lv_at hl 0 rfl) ?_
  refine lv_aload_n hx hb dX2_GOST28147_mainStep_44 rfl (lv_at hl 2 rfl) ?_
  refine va_get (D := D) (ci := 2) (v := .ref tS) (C := RX2) (T := TX2) (N := 3) hx hb hts in_X2 hown hK hP 0 rfl rfl 2 (by decide) (hts _ q74) (fun _ h9 => h9) rfl dX2_GOST28147_mainStep_45 ?_
  refine lv_bipush (v := 32) hx hb dX2_GOST28147_mainStep_48 (by decide) ?_
  refine lv_iload_n hx hb dX2_GOST28147_mainStep_50 rfl (lv_at hl 1 rfl) ?_
  refine lv_bipush (v := 8) hx hb dX2_GOST28147_mainStep_51 (by decide) ?_
  refine lv_ishr hx hb dX2_GOST28147_mainStep_53 ?_
  refine lv_bipush (v := 15) hx hb dX2_GOST28147_mainStep_54 (by decide) ?_
  refine lv_iand hx hb dX2_GOST28147_mainStep_56 ?_
  refine lv_iadd hx hb dX2_GOST28147_mainStep_57 ?_
  refine g_tb hx hb hZ.1.2 hS (16 * 2 + gNib x 2) (g_ix x 2 (by decide)) (g_ix_lt x 2 (by decide)) (by decide) (v := .int (nI (gS (16 * 2 + gNib x 2)))) rfl dX2_GOST28147_mainStep_58 ?_
  refine lv_bipush (v := 8) hx hb dX2_GOST28147_mainStep_59 (by decide) ?_
  refine lv_ishl hx hb dX2_GOST28147_mainStep_61 ?_
  refine lv_iadd hx hb dX2_GOST28147_mainStep_62 ?_
  refine g_top (nI (gSum x 3)) (g_acc x 2 (by decide)) ?_
  refine lv_istore (lv' := [(4, .int (nI (gSum x 3))), (3, .int x), (0, .ref h0), (1, .int p1), (2, .int p2)]) hx hb dX2_GOST28147_mainStep_63 hl (by decide) rfl (fun ls hl => ?_)
  refine lv_iload hx hb dX2_GOST28147_mainStep_65 (lv_at hl 0 rfl) ?_
  refine lv_aload_n hx hb dX2_GOST28147_mainStep_67 rfl (lv_at hl 2 rfl) ?_
  refine va_get (D := D) (ci := 2) (v := .ref tS) (C := RX2) (T := TX2) (N := 3) hx hb hts in_X2 hown hK hP 0 rfl rfl 2 (by decide) (hts _ q74) (fun _ h9 => h9) rfl dX2_GOST28147_mainStep_68 ?_
  refine lv_bipush (v := 48) hx hb dX2_GOST28147_mainStep_71 (by decide) ?_
  refine lv_iload_n hx hb dX2_GOST28147_mainStep_73 rfl (lv_at hl 1 rfl) ?_
  refine lv_bipush (v := 12) hx hb dX2_GOST28147_mainStep_74 (by decide) ?_
  refine lv_ishr hx hb dX2_GOST28147_mainStep_76 ?_
  refine lv_bipush (v := 15) hx hb dX2_GOST28147_mainStep_77 (by decide) ?_
  refine lv_iand hx hb dX2_GOST28147_mainStep_79 ?_
  refine lv_iadd hx hb dX2_GOST28147_mainStep_80 ?_
  refine g_tb hx hb hZ.1.2 hS (16 * 3 + gNib x 3) (g_ix x 3 (by decide)) (g_ix_lt x 3 (by decide)) (by decide) (v := .int (nI (gS (16 * 3 + gNib x 3)))) rfl dX2_GOST28147_mainStep_81 ?_
  refine lv_bipush (v := 12) hx hb dX2_GOST28147_mainStep_82 (by decide) ?_
  refine lv_ishl hx hb dX2_GOST28147_mainStep_84 ?_
  refine lv_iadd hx hb dX2_GOST28147_mainStep_85 ?_
  refine g_top (nI (gSum x 4)) (g_acc x 3 (by decide)) ?_
  refine lv_istore (lv' := [(4, .int (nI (gSum x 4))), (3, .int x), (0, .ref h0), (1, .int p1), (2, .int p2)]) hx hb dX2_GOST28147_mainStep_86 hl (by decide) rfl (fun ls hl => ?_)
  refine lv_iload hx hb dX2_GOST28147_mainStep_88 (lv_at hl 0 rfl) ?_
  refine lv_aload_n hx hb dX2_GOST28147_mainStep_90 rfl (lv_at hl 2 rfl) ?_
  refine va_get (D := D) (ci := 2) (v := .ref tS) (C := RX2) (T := TX2) (N := 3) hx hb hts in_X2 hown hK hP 0 rfl rfl 2 (by decide) (hts _ q74) (fun _ h9 => h9) rfl dX2_GOST28147_mainStep_91 ?_
  refine lv_bipush (v := 64) hx hb dX2_GOST28147_mainStep_94 (by decide) ?_
  refine lv_iload_n hx hb dX2_GOST28147_mainStep_96 rfl (lv_at hl 1 rfl) ?_
  refine lv_bipush (v := 16) hx hb dX2_GOST28147_mainStep_97 (by decide) ?_
  refine lv_ishr hx hb dX2_GOST28147_mainStep_99 ?_
  refine lv_bipush (v := 15) hx hb dX2_GOST28147_mainStep_100 (by decide) ?_
  refine lv_iand hx hb dX2_GOST28147_mainStep_102 ?_
  refine lv_iadd hx hb dX2_GOST28147_mainStep_103 ?_
  refine g_tb hx hb hZ.1.2 hS (16 * 4 + gNib x 4) (g_ix x 4 (by decide)) (g_ix_lt x 4 (by decide)) (by decide) (v := .int (nI (gS (16 * 4 + gNib x 4)))) rfl dX2_GOST28147_mainStep_104 ?_
  refine lv_bipush (v := 16) hx hb dX2_GOST28147_mainStep_105 (by decide) ?_
  refine lv_ishl hx hb dX2_GOST28147_mainStep_107 ?_
  refine lv_iadd hx hb dX2_GOST28147_mainStep_108 ?_
  refine g_top (nI (gSum x 5)) (g_acc x 4 (by decide)) ?_
  refine lv_istore (lv' := [(4, .int (nI (gSum x 5))), (3, .int x), (0, .ref h0), (1, .int p1), (2, .int p2)]) hx hb dX2_GOST28147_mainStep_109 hl (by decide) rfl (fun ls hl => ?_)
  refine lv_iload hx hb dX2_GOST28147_mainStep_111 (lv_at hl 0 rfl) ?_
  refine lv_aload_n hx hb dX2_GOST28147_mainStep_113 rfl (lv_at hl 2 rfl) ?_
  refine va_get (D := D) (ci := 2) (v := .ref tS) (C := RX2) (T := TX2) (N := 3) hx hb hts in_X2 hown hK hP 0 rfl rfl 2 (by decide) (hts _ q74) (fun _ h9 => h9) rfl dX2_GOST28147_mainStep_114 ?_
  refine lv_bipush (v := 80) hx hb dX2_GOST28147_mainStep_117 (by decide) ?_
  refine lv_iload_n hx hb dX2_GOST28147_mainStep_119 rfl (lv_at hl 1 rfl) ?_
  refine lv_bipush (v := 20) hx hb dX2_GOST28147_mainStep_120 (by decide) ?_
  refine lv_ishr hx hb dX2_GOST28147_mainStep_122 ?_
  refine lv_bipush (v := 15) hx hb dX2_GOST28147_mainStep_123 (by decide) ?_
  refine lv_iand hx hb dX2_GOST28147_mainStep_125 ?_
  refine lv_iadd hx hb dX2_GOST28147_mainStep_126 ?_
  refine g_tb hx hb hZ.1.2 hS (16 * 5 + gNib x 5) (g_ix x 5 (by decide)) (g_ix_lt x 5 (by decide)) (by decide) (v := .int (nI (gS (16 * 5 + gNib x 5)))) rfl dX2_GOST28147_mainStep_127 ?_
  refine lv_bipush (v := 20) hx hb dX2_GOST28147_mainStep_128 (by decide) ?_
  refine lv_ishl hx hb dX2_GOST28147_mainStep_130 ?_
  refine lv_iadd hx hb dX2_GOST28147_mainStep_131 ?_
  refine g_top (nI (gSum x 6)) (g_acc x 5 (by decide)) ?_
  refine lv_istore (lv' := [(4, .int (nI (gSum x 6))), (3, .int x), (0, .ref h0), (1, .int p1), (2, .int p2)]) hx hb dX2_GOST28147_mainStep_132 hl (by decide) rfl (fun ls hl => ?_)
  refine lv_iload hx hb dX2_GOST28147_mainStep_134 (lv_at hl 0 rfl) ?_
  refine lv_aload_n hx hb dX2_GOST28147_mainStep_136 rfl (lv_at hl 2 rfl) ?_
  refine va_get (D := D) (ci := 2) (v := .ref tS) (C := RX2) (T := TX2) (N := 3) hx hb hts in_X2 hown hK hP 0 rfl rfl 2 (by decide) (hts _ q74) (fun _ h9 => h9) rfl dX2_GOST28147_mainStep_137 ?_
  refine lv_bipush (v := 96) hx hb dX2_GOST28147_mainStep_140 (by decide) ?_
  refine lv_iload_n hx hb dX2_GOST28147_mainStep_142 rfl (lv_at hl 1 rfl) ?_
  refine lv_bipush (v := 24) hx hb dX2_GOST28147_mainStep_143 (by decide) ?_
  refine lv_ishr hx hb dX2_GOST28147_mainStep_145 ?_
  refine lv_bipush (v := 15) hx hb dX2_GOST28147_mainStep_146 (by decide) ?_
  refine lv_iand hx hb dX2_GOST28147_mainStep_148 ?_
  refine lv_iadd hx hb dX2_GOST28147_mainStep_149 ?_
  refine g_tb hx hb hZ.1.2 hS (16 * 6 + gNib x 6) (g_ix x 6 (by decide)) (g_ix_lt x 6 (by decide)) (by decide) (v := .int (nI (gS (16 * 6 + gNib x 6)))) rfl dX2_GOST28147_mainStep_150 ?_
  refine lv_bipush (v := 24) hx hb dX2_GOST28147_mainStep_151 (by decide) ?_
  refine lv_ishl hx hb dX2_GOST28147_mainStep_153 ?_
  refine lv_iadd hx hb dX2_GOST28147_mainStep_154 ?_
  refine g_top (nI (gSum x 7)) (g_acc x 6 (by decide)) ?_
  refine lv_istore (lv' := [(4, .int (nI (gSum x 7))), (3, .int x), (0, .ref h0), (1, .int p1), (2, .int p2)]) hx hb dX2_GOST28147_mainStep_155 hl (by decide) rfl (fun ls hl => ?_)
  refine lv_iload hx hb dX2_GOST28147_mainStep_157 (lv_at hl 0 rfl) ?_
  refine lv_aload_n hx hb dX2_GOST28147_mainStep_159 rfl (lv_at hl 2 rfl) ?_
  refine va_get (D := D) (ci := 2) (v := .ref tS) (C := RX2) (T := TX2) (N := 3) hx hb hts in_X2 hown hK hP 0 rfl rfl 2 (by decide) (hts _ q74) (fun _ h9 => h9) rfl dX2_GOST28147_mainStep_160 ?_
  refine lv_bipush (v := 112) hx hb dX2_GOST28147_mainStep_163 (by decide) ?_
  refine lv_iload_n hx hb dX2_GOST28147_mainStep_165 rfl (lv_at hl 1 rfl) ?_
  refine lv_bipush (v := 28) hx hb dX2_GOST28147_mainStep_166 (by decide) ?_
  refine lv_ishr hx hb dX2_GOST28147_mainStep_168 ?_
  refine lv_bipush (v := 15) hx hb dX2_GOST28147_mainStep_169 (by decide) ?_
  refine lv_iand hx hb dX2_GOST28147_mainStep_171 ?_
  refine lv_iadd hx hb dX2_GOST28147_mainStep_172 ?_
  refine g_tb hx hb hZ.1.2 hS (16 * 7 + gNib x 7) (g_ix x 7 (by decide)) (g_ix_lt x 7 (by decide)) (by decide) (v := .int (nI (gS (16 * 7 + gNib x 7)))) rfl dX2_GOST28147_mainStep_173 ?_
  refine lv_bipush (v := 28) hx hb dX2_GOST28147_mainStep_174 (by decide) ?_
  refine lv_ishl hx hb dX2_GOST28147_mainStep_176 ?_
  refine lv_iadd hx hb dX2_GOST28147_mainStep_177 ?_
  refine g_top (nI (gSum x 8)) (g_acc x 7 (by decide)) ?_
  refine lv_istore (lv' := [(4, .int (nI (gSum x 8))), (3, .int x), (0, .ref h0), (1, .int p1), (2, .int p2)]) hx hb dX2_GOST28147_mainStep_178 hl (by decide) rfl (fun ls hl => ?_)
  refine lv_iload hx hb dX2_GOST28147_mainStep_180 (lv_at hl 0 rfl) ?_
  refine lv_bipush (v := 11) hx hb dX2_GOST28147_mainStep_182 (by decide) ?_
  refine lv_ishl hx hb dX2_GOST28147_mainStep_184 ?_
  refine lv_iload hx hb dX2_GOST28147_mainStep_185 (lv_at hl 0 rfl) ?_
  refine lv_bipush (v := 21) hx hb dX2_GOST28147_mainStep_187 (by decide) ?_
  refine lv_iushr hx hb dX2_GOST28147_mainStep_189 rfl ?_
  refine lv_ior hx hb dX2_GOST28147_mainStep_190 ?_
  exact g_iret hx hb hr (by rw [← ex]; rfl) hlocks dX2_GOST28147_mainStep_191
set_option maxHeartbeats 4000000 in
set_option maxRecDepth 100000 in
/-- GOST28147Engine.generateWorkingKey: eight words -/
theorem mX2_generateWorkingKey (l : Launch) (D : va_G) (h0 k : Nat) (cK : ClassId) (v0 v1 v2 : Value) (f : Nat → Int32) (b : Bool) (sz tS tR : Nat) : Met l yX2_generateWorkingKey (ws_ yX2_generateWorkingKey cX2_generateWorkingKey 5 (some (.array .int))) ({ frames := 1, cells := 1, slots := 8, locals := 22 }) (va_Pc [.ref h0, .int (gBi b), .ref k] (gPw D sz [(h0, .inr (2, [v0, v1, v2])), (k, .inl (cK, 32, .inl f))] [(cK, .byte)] tS tR)) (va_Qr (fun _ : Unit => True) (fun _ q t => ∃ (cI : ClassId), gBw D (va_A [(h0, .inr (2, [v0, v1, v2])), (k, .inl (cK, 32, .inl f))] sz) [(h0, .inr (2, [v0, .int (gBi b), v2])), (k, .inl (cK, 32, .inl f)), (q, .inl (cI, 8, .inl (gWk f 8)))] [(cK, .byte), (cI, .int)] t) (va_A [(h0, .inr (2, [v0, v1, v2])), (k, .inl (cK, 32, .inl f))] sz)) 1 8 (va_A [(h0, .inr (2, [v0, v1, v2])), (k, .inl (cK, 32, .inl f))] sz) := by
  refine gMetW (fun A => va_Qr (fun _ : Unit => True) (fun _ q t => ∃ (cI : ClassId), gBw D A [(h0, .inr (2, [v0, .int (gBi b), v2])), (k, .inl (cK, 32, .inl f)), (q, .inl (cI, 8, .inl (gWk f 8)))] [(cK, .byte), (cI, .int)] t) A) (by decide) (Nat.le_of_ble_eq_true rfl) ?_
  intro p e s m below meth c A ls hx hb hr hts hown hlocks hin hml hAe hA hsz hP hK hD hZ hS hl
  have hl : lv_has ls 5 [(0, .ref h0), (1, .int (gBi b)), (2, .ref k)] := hl
  refine lv_aload_n hx hb dX2_generateWorkingKey_0 rfl (lv_at hl 0 rfl) ?_
  refine lv_iload_n hx hb dX2_generateWorkingKey_1 rfl (lv_at hl 1 rfl) ?_
  refine va_put (D := D) (ci := 2) (v := .int (gBi b)) (ty := .boolean) (C := RX2) (T := TX2) (N := 3) hx hb hts in_X2 tyX2 tyX2_ok nmX2 hown hK hP hD hS 0 rfl rfl 1 (by decide) (hts _ q73) (fun _ h9 => h9) rfl (by decide +kernel) (gBi_nar b) (gBi_fit b) (Nat.le_of_ble_eq_true rfl) dX2_generateWorkingKey_2 (fun H locs hP hD hS => ?_)
  have hP : va_P D vwCl [(h0, .inr (2, [v0, .int (gBi b), v2])), (k, .inl (cK, 32, .inl f))] H := hP
  have hD : va_D A [(h0, .inr (2, [v0, .int (gBi b), v2])), (k, .inl (cK, 32, .inl f))] := hD
  refine lv_aload_n hx hb dX2_generateWorkingKey_5 rfl (lv_at hl 2 rfl) ?_
  refine va_alen (v := 32) hx hb hK hP 1 0 rfl rfl rfl dX2_generateWorkingKey_6 ?_
  refine lv_bipush (v := 32) hx hb dX2_generateWorkingKey_7 (by decide) ?_
  refine lv_icmp_eq (tgt := 22) hx hb dX2_generateWorkingKey_9 (by decide) (fun _ => ?_) (fun c => absurd rfl c)
  refine lv_bipush (v := 8) hx hb dX2_generateWorkingKey_22 (by decide) ?_
  refine va_newa (atype := .int) (ty := .int) (N' := 8) (a0 := (8, .inl (fun _ => 0))) hx hb (hts _ q241) rfl hK hP hD hS hA (fun _ => rfl) (by decide) rfl (Nat.le_of_ble_eq_true rfl) (Nat.le_of_ble_eq_true rfl) (Nat.le_of_ble_eq_true rfl) dX2_generateWorkingKey_24 (fun q cI H hK hP hD hS => ?_)
  have hP : va_P D vwCl [(h0, .inr (2, [v0, .int (gBi b), v2])), (k, .inl (cK, 32, .inl f)), (q, .inl (cI, 8, .inl (fun _ => 0)))] H := hP
  have hD : va_D A [(h0, .inr (2, [v0, .int (gBi b), v2])), (k, .inl (cK, 32, .inl f)), (q, .inl (cI, 8, .inl (fun _ => 0)))] := hD
  have hK : va_K D vwCl [(cK, .byte), (cI, .int)] s := hK
  refine W.widen (k := 1) (n := 8) (Nat.le_of_ble_eq_true rfl) (Nat.le_of_ble_eq_true rfl) ?_
  refine lv_astore_n (lv' := [(3, .ref q), (0, .ref h0), (1, .int (gBi b)), (2, .ref k)]) hx hb dX2_generateWorkingKey_26 rfl hl (by decide) rfl (fun ls hl => ?_)
  refine lv_iconst (v := 0) hx hb dX2_generateWorkingKey_27 (by decide) ?_
  refine g_top (nI 0) rfl ?_
  refine lv_istore (lv' := [(4, .int (nI 0)), (3, .ref q), (0, .ref h0), (1, .int (gBi b)), (2, .ref k)]) hx hb dX2_generateWorkingKey_28 hl (by decide) rfl (fun ls hl => ?_)
  have loop : ∀ (n j : Nat), j ≤ 8 → 9 ≤ j + n → ∀ (H : Heap) (locs : List Loc), va_P D vwCl [(h0, .inr (2, [v0, .int (gBi b), v2])), (k, .inl (cK, 32, .inl f)), (q, .inl (cI, 8, .inl (gWk f j)))] H → va_D A [(h0, .inr (2, [v0, .int (gBi b), v2])), (k, .inl (cK, 32, .inl f)), (q, .inl (cI, 8, .inl (gWk f j)))] → va_S A s.heap H locs → ∀ ls : Array Slot, lv_has ls 5 [(0, .ref h0), (2, .ref k), (3, .ref q), (4, .int (nI j))] → W p l e (headSpec (ws_ yX2_generateWorkingKey cX2_generateWorkingKey 5 (some (.array .int))) ({ frames := 1, cells := 1, slots := 8, locals := 22 })).room s m ([.ref h0, .int (gBi b), .ref k] : List Value).toArray below meth c H locs 1 8 (MQ below (va_Qr (fun _ : Unit => True) (fun _ q t => ∃ (cI : ClassId), gBw D A [(h0, .inr (2, [v0, .int (gBi b), v2])), (k, .inl (cK, 32, .inl f)), (q, .inl (cI, 8, .inl (gWk f 8)))] [(cK, .byte), (cI, .int)] t) A) ([.ref h0, .int (gBi b), .ref k] : List Value).toArray s 1 8 A) (F0 m 30 ls []) := by
    intro n
    induction n with
    | zero => intro j k1 k2; exact absurd k2 (by omega)
    | succ n ih =>
      intro j k1 k2 H locs hP hD hS ls hl
      refine lv_iload hx hb dX2_generateWorkingKey_30 (lv_at hl 3 rfl) ?_
      refine lv_bipush (v := 8) hx hb dX2_generateWorkingKey_32 (by decide) ?_
      refine lv_icmp_eq (tgt := 56) hx hb dX2_generateWorkingKey_34 (by decide) (fun c34 => ?_) (fun c34 => ?_)
      · obtain rfl : j = 8 := (nI_eq (a := j) (b := 8) (by omega) (by decide)).mp c34
        refine lv_aload_n hx hb dX2_generateWorkingKey_56 rfl (lv_at hl 2 rfl) ?_
        exact W.aret hx hb hr (Or.inr ⟨_, rfl⟩) (Or.inr ⟨_, rfl⟩) (fun t ht hW => ⟨⟨(), q, rfl, trivial, cI, by rw [ht]; exact hP, va_K.moved hW.alike hK, hD⟩, hS.F ht⟩) hS.2.2 dX2_generateWorkingKey_57 hlocks
      · have hj : j < 8 := Nat.lt_of_le_of_ne k1 (fun q => c34 (by rw [q]; rfl))
        refine lv_aload_n hx hb dX2_generateWorkingKey_37 rfl (lv_at hl 2 rfl) ?_
        refine lv_iload hx hb dX2_generateWorkingKey_38 (lv_at hl 3 rfl) ?_
        refine lv_aload_n hx hb dX2_generateWorkingKey_40 rfl (lv_at hl 0 rfl) ?_
        refine lv_aload_n hx hb dX2_generateWorkingKey_41 rfl (lv_at hl 1 rfl) ?_
        refine lv_iload hx hb dX2_generateWorkingKey_42 (lv_at hl 3 rfl) ?_
        refine lv_iconst (v := 4) hx hb dX2_generateWorkingKey_44 (by decide) ?_
        refine lv_imul hx hb dX2_generateWorkingKey_45 ?_
        refine g_top (nI (4 * j)) ((pk_mul j 4).trans (by rw [Nat.mul_comm])) ?_
        have hPc := hP.sub (ws' := [(k, .inl (cK, 32, .inl f))]) [1] rfl
        have hKc := hK.sub (tys' := [(cK, .byte)]) [0] rfl
        refine vp_callSi (va_Run.run (va_runV (As := [.ref k, .int (nI (4 * j))]) (rest := [.int (nI j), .ref q]) ⟨hx, hb, hml, hown, hts⟩ (mX2_bytesToint l D h0 k cK 32 f (4 * j) tS tR (by omega) (by decide)) (cwV 2 hts (lw_V q208 q210 qs3 q11 q211) rfl rfl rfl (by decide +kernel) ⟨Nat.le_of_ble_eq_true rfl, Nat.le_of_ble_eq_true rfl⟩) ⟨gPr_blind, va_recv hK hP (ci := 2) (q0 := 0) rfl rfl, gPr_of hPc hKc hZ hS⟩ rfl rfl hl.1 rfl (lv_room (Nat.le_of_ble_eq_true rfl)) dX2_generateWorkingKey_46 ⟨Nat.le_of_ble_eq_true rfl, Nat.le_of_ble_eq_true rfl⟩)) (fun r_46 hr_46 => ?_)
        obtain rfl : r_46 = gWe f (4 * j) := hr_46
        refine W.widen (k := 1) (n := 8) (Nat.le_of_ble_eq_true rfl) (Nat.le_of_ble_eq_true rfl) ?_
        refine g_iast (g := gWk f (j + 1)) hx hb hK hP hD hS 2 1 rfl rfl (j) rfl hj (by decide) (gWk_s f j) dX2_generateWorkingKey_49 (fun H locs hP hD hS => ?_)
        have hP : va_P D vwCl [(h0, .inr (2, [v0, .int (gBi b), v2])), (k, .inl (cK, 32, .inl f)), (q, .inl (cI, 8, .inl (gWk f (j + 1))))] H := hP
        have hD : va_D A [(h0, .inr (2, [v0, .int (gBi b), v2])), (k, .inl (cK, 32, .inl f)), (q, .inl (cI, 8, .inl (gWk f (j + 1))))] := hD
        refine lv_iinc (v := (nI (j + 1))) (lv' := [(4, .int (nI (j + 1))), (0, .ref h0), (2, .ref k), (3, .ref q)]) hx hb dX2_generateWorkingKey_50 hl (k := 3) rfl (nI_1 j) (by decide) rfl (fun ls hl => ?_)
        refine lv_goto (tgt := 30) hx hb dX2_generateWorkingKey_53 (by decide) ?_
        exact ih (j + 1) hj (by omega) H locs hP hD hS ls (lv_sub hl [1, 2, 3, 0] rfl)
  exact loop 9 0 (by omega) (by omega) H _ (by rw [gWk_0]; exact hP) (by rw [gWk_0]; exact hD) hS ls (lv_sub hl [2, 4, 1, 0] rfl)
set_option maxHeartbeats 4000000 in
set_option maxRecDepth 100000 in
/-- GOST28147Engine.init with a KeyParameter -/
theorem mX2_init_2 (l : Launch) (D : va_G) (h0 p0 k : Nat) (cK : ClassId) (v0 v1 v2 : Value) (f : Nat → Int32) (b : Bool) (sz tS tR : Nat) : Met l yX2_init_2 (ws_ yX2_init_2 cX2_init_2 5 none) ({ frames := 2, cells := 1, slots := 8, locals := 46 }) (va_Pc [.ref h0, .int (gBi b), .ref p0] (gPw D sz [(h0, .inr (2, [v0, v1, v2])), (p0, .inr (3, [.ref k])), (k, .inl (cK, 32, .inl f))] [(cK, .byte)] tS tR)) (va_Qv (fun _ : Unit => True) (fun _ t => ∃ (q : Nat) (cI : ClassId), gBw D (va_A [(h0, .inr (2, [v0, v1, v2])), (p0, .inr (3, [.ref k])), (k, .inl (cK, 32, .inl f))] sz) [(h0, .inr (2, [.ref q, .int (gBi b), v2])), (p0, .inr (3, [.ref k])), (k, .inl (cK, 32, .inl f)), (q, .inl (cI, 8, .inl (gWk f 8)))] [(cK, .byte), (cI, .int)] t) (va_A [(h0, .inr (2, [v0, v1, v2])), (p0, .inr (3, [.ref k])), (k, .inl (cK, 32, .inl f))] sz)) 1 8 (va_A [(h0, .inr (2, [v0, v1, v2])), (p0, .inr (3, [.ref k])), (k, .inl (cK, 32, .inl f))] sz) := by
  refine gMetW (fun A => va_Qv (fun _ : Unit => True) (fun _ t => ∃ (q : Nat) (cI : ClassId), gBw D A [(h0, .inr (2, [.ref q, .int (gBi b), v2])), (p0, .inr (3, [.ref k])), (k, .inl (cK, 32, .inl f)), (q, .inl (cI, 8, .inl (gWk f 8)))] [(cK, .byte), (cI, .int)] t) A) (by decide) (Nat.le_of_ble_eq_true rfl) ?_
  intro p e s m below meth c A ls hx hb hr hts hown hlocks hin hml hAe hA hsz hP hK hD hZ hS hl
  have hl : lv_has ls 5 [(0, .ref h0), (1, .int (gBi b)), (2, .ref p0)] := hl
  refine lv_aload_n hx hb dX2_init_2_0 rfl (lv_at hl 2 rfl) ?_
  refine va_instNo hx hb hown (hts _ q111) hZ.2.2.2.2 (va_recv hK hP (ci := 3) (q0 := 1) rfl rfl) dX2_init_2_1 ?_
  refine lv_if_eq (tgt := 76) hx hb dX2_init_2_4 (by decide) (fun _ => ?_) (fun c => absurd rfl c)
  refine lv_aload_n hx hb dX2_init_2_76 rfl (lv_at hl 2 rfl) ?_
  refine va_instS hx hb hown (hts _ q198) (hK.1 3 _ rfl).2 (va_recv hK hP (ci := 3) (q0 := 1) rfl rfl) dX2_init_2_77 ?_
  refine lv_if_eq (tgt := 102) hx hb dX2_init_2_80 (by decide) (fun c => absurd c (by decide)) (fun _ => ?_)
  refine lv_aload_n hx hb dX2_init_2_83 rfl (lv_at hl 0 rfl) ?_
  refine lv_aload_n hx hb dX2_init_2_84 rfl (lv_at hl 0 rfl) ?_
  refine lv_iload_n hx hb dX2_init_2_85 rfl (lv_at hl 1 rfl) ?_
  refine lv_aload_n hx hb dX2_init_2_86 rfl (lv_at hl 2 rfl) ?_
  refine va_castS hx hb hown (hts _ q198) (hK.1 3 _ rfl).2 (va_recv hK hP (ci := 3) (q0 := 1) rfl rfl) dX2_init_2_87 ?_
  have hPc := hP.sub (ws' := [(p0, .inr (3, [.ref k]))]) [1] rfl
  have hKc := hK.sub (tys' := []) [] rfl
  refine va_csr (va_Run.run (va_runV (As := []) (rest := [.int (gBi b), .ref h0, .ref h0]) ⟨hx, hb, hml, hown, hts⟩ (mX3_getKey l D p0 k tS tR) (cwV 0 hts (lw_V q199 q200 q201 q12 q202) rfl rfl rfl (by decide +kernel) ⟨Nat.le_of_ble_eq_true rfl, Nat.le_of_ble_eq_true rfl⟩) ⟨gPr_blind, va_recv hK hP (ci := 3) (q0 := 1) rfl rfl, gPr_of hPc hKc hZ hS⟩ rfl rfl hl.1 rfl (lv_room (Nat.le_of_ble_eq_true rfl)) dX2_init_2_90 ⟨Nat.le_of_ble_eq_true rfl, Nat.le_of_ble_eq_true rfl⟩)) (fun _ _ => ?_)
  refine W.widen (k := 0) (n := 0) (Nat.le_of_ble_eq_true rfl) (Nat.le_of_ble_eq_true rfl) ?_
  have hPc := hP.sub (ws' := [(h0, .inr (2, [v0, v1, v2])), (k, .inl (cK, 32, .inl f))]) [0, 2] rfl
  have hDc := hD.sub (ws' := [(h0, .inr (2, [v0, v1, v2])), (k, .inl (cK, 32, .inl f))]) [0, 2] (by decide) rfl
  have hKc := hK.sub (tys' := [(cK, .byte)]) [0] rfl
  have hFc := va_free (wc := [(h0, .inr (2, [v0, v1, v2])), (k, .inl (cK, 32, .inl f))]) hD hS hA [0, 2] rfl
  refine va_callr (va_runV (As := [.int (gBi b), .ref k]) (rest := [.ref h0]) ⟨hx, hb, hml, hown, hts⟩ (mX2_generateWorkingKey l D h0 k cK v0 v1 v2 f b s.heap.size tS tR) (cwV 2 hts (lw_V q203 q205 qs2 q11 q206) rfl rfl rfl (by decide +kernel) ⟨Nat.le_of_ble_eq_true rfl, Nat.le_of_ble_eq_true rfl⟩) ⟨gPw_blind, va_recv hK hP (ci := 2) (q0 := 0) rfl rfl, gPw_of hPc hKc hDc hZ hS hFc⟩ rfl rfl hl.1 rfl (lv_room (Nat.le_of_ble_eq_true rfl)) dX2_init_2_93 ⟨Nat.le_of_ble_eq_true rfl, Nat.le_of_ble_eq_true rfl⟩) hS (fun q _ h => hFc q h) hFc (fun u q t H1 locs ht hvm hw hB hz1 hk1 hS => ?_)
  obtain ⟨cI, hP1, hK1, hD1⟩ := hB
  rw [ht] at hP1
  have hK1 := va_K.moved hvm.symm hK1
  obtain ⟨hP, hD⟩ := va_join (wr := [(p0, .inr (3, [.ref k]))]) (w1 := [(h0, .inr (2, [v0, .int (gBi b), v2])), (k, .inl (cK, 32, .inl f)), (q, .inl (cI, 8, .inl (gWk f 8)))]) hP hD [0, 2] [1] rfl rfl (by decide) (by decide) hk1 hFc hP1 hD1
  have hK := (hK.sub (tys' := [(cK, .byte)]) [0] rfl).app (hK1.sub (tys' := [(cI, .int)]) [1] rfl)
  generalize H1 = H at hP hS ⊢
  have hP : va_P D vwCl [(p0, .inr (3, [.ref k])), (h0, .inr (2, [v0, .int (gBi b), v2])), (k, .inl (cK, 32, .inl f)), (q, .inl (cI, 8, .inl (gWk f 8)))] H := hP
  have hD : va_D A [(p0, .inr (3, [.ref k])), (h0, .inr (2, [v0, .int (gBi b), v2])), (k, .inl (cK, 32, .inl f)), (q, .inl (cI, 8, .inl (gWk f 8)))] := hD
  have hK : va_K D vwCl [(cK, .byte), (cI, .int)] s := hK
  refine W.widen (k := 1) (n := 8) (Nat.le_of_ble_eq_true rfl) (Nat.le_of_ble_eq_true rfl) ?_
  refine va_put (D := D) (ci := 2) (v := .ref q) (ty := .array .int) (C := RX2) (T := TX2) (N := 3) hx hb hts in_X2 tyX2 tyX2_ok nmX2 hown hK hP hD hS 1 rfl rfl 0 (by decide) (hts _ q72) (fun _ h9 => h9) rfl (by decide +kernel) rfl rfl (Nat.le_of_ble_eq_true rfl) dX2_init_2_96 (fun H locs hP hD hS => ?_)
  have hP : va_P D vwCl [(p0, .inr (3, [.ref k])), (h0, .inr (2, [.ref q, .int (gBi b), v2])), (k, .inl (cK, 32, .inl f)), (q, .inl (cI, 8, .inl (gWk f 8)))] H := hP
  have hD : va_D A [(p0, .inr (3, [.ref k])), (h0, .inr (2, [.ref q, .int (gBi b), v2])), (k, .inl (cK, 32, .inl f)), (q, .inl (cI, 8, .inl (gWk f 8)))] := hD
  refine lv_goto (tgt := 116) hx hb dX2_init_2_99 (by decide) ?_
  have hP := hP.sub (ws' := [(h0, .inr (2, [.ref q, .int (gBi b), v2])), (p0, .inr (3, [.ref k])), (k, .inl (cK, 32, .inl f)), (q, .inl (cI, 8, .inl (gWk f 8)))]) [1, 0, 2, 3] rfl
  have hD := hD.sub (ws' := [(h0, .inr (2, [.ref q, .int (gBi b), v2])), (p0, .inr (3, [.ref k])), (k, .inl (cK, 32, .inl f)), (q, .inl (cI, 8, .inl (gWk f 8)))]) [1, 0, 2, 3] (by decide) rfl
  have hK := hK.sub (tys' := [(cK, .byte), (cI, .int)]) [0, 1] rfl
  exact W.vret hx hb hr (fun t ht hW => ⟨⟨(), rfl, trivial, q, cI, by rw [ht]; exact hP, va_K.moved hW.alike hK, hD⟩, hS.F ht⟩) hS.2.2 dX2_init_2_116 hlocks
set_option maxHeartbeats 4000000 in
set_option maxRecDepth 100000 in
/-- GOST28147Engine.GOST28147Func: thirty-one rounds, the last one, the bytes -/
theorem mX2_GOST28147Func (l : Launch) (D : va_G) (h0 q a o : Nat) (cI c1 c2 : ClassId) (K fi fo : Nat → Int32) (b : Bool) (v0 : Value) (sz tS tR : Nat) : Met l yX2_GOST28147Func (ws_ yX2_GOST28147Func cX2_GOST28147Func 11 none) ({ frames := 1, cells := 0, slots := 0, locals := 24 }) (va_Pc [.ref h0, .ref q, .ref a, .int (nI 0), .ref o, .int (nI 0)] (gPw D sz [(h0, .inr (2, [v0, .int (gBi b), .ref tS])), (q, .inl (cI, 8, .inl K)), (a, .inl (c1, 8, .inl fi)), (o, .inl (c2, 8, .inl fo))] [(cI, .int), (c1, .byte), (c2, .byte)] tS tR)) (va_Qv (fun _ : Unit => True) (fun _ => gBw D (va_A [(h0, .inr (2, [v0, .int (gBi b), .ref tS])), (q, .inl (cI, 8, .inl K)), (a, .inl (c1, 8, .inl fi)), (o, .inl (c2, 8, .inl fo))] sz) [(h0, .inr (2, [v0, .int (gBi b), .ref tS])), (q, .inl (cI, 8, .inl K)), (a, .inl (c1, 8, .inl fi)), (o, .inl (c2, 8, .inl (gPutE (gPutE fo 0 (gN1 b K (gWe fi 0) (gWe fi 4))) 4 (gN2 b K (gWe fi 0) (gWe fi 4)))))] [(cI, .int), (c1, .byte), (c2, .byte)]) (va_A [(h0, .inr (2, [v0, .int (gBi b), .ref tS])), (q, .inl (cI, 8, .inl K)), (a, .inl (c1, 8, .inl fi)), (o, .inl (c2, 8, .inl fo))] sz)) 0 0 (va_A [(h0, .inr (2, [v0, .int (gBi b), .ref tS])), (q, .inl (cI, 8, .inl K)), (a, .inl (c1, 8, .inl fi)), (o, .inl (c2, 8, .inl fo))] sz) := by
  refine gMetW (fun A => va_Qv (fun _ : Unit => True) (fun _ => gBw D A [(h0, .inr (2, [v0, .int (gBi b), .ref tS])), (q, .inl (cI, 8, .inl K)), (a, .inl (c1, 8, .inl fi)), (o, .inl (c2, 8, .inl (gPutE (gPutE fo 0 (gN1 b K (gWe fi 0) (gWe fi 4))) 4 (gN2 b K (gWe fi 0) (gWe fi 4)))))] [(cI, .int), (c1, .byte), (c2, .byte)]) A) (by decide) (Nat.le_of_ble_eq_true rfl) ?_
  intro p e s m below meth c A ls hx hb hr hts hown hlocks hin hml hAe hA hsz hP hK hD hZ hS hl
  have hl : lv_has ls 11 [(0, .ref h0), (1, .ref q), (2, .ref a), (3, .int (nI 0)), (4, .ref o), (5, .int (nI 0))] := hl
  refine lv_aload_n hx hb dX2_GOST28147Func_0 rfl (lv_at hl 0 rfl) ?_
  refine lv_aload_n hx hb dX2_GOST28147Func_1 rfl (lv_at hl 2 rfl) ?_
  refine lv_iload_n hx hb dX2_GOST28147Func_2 rfl (lv_at hl 3 rfl) ?_
  have hPc := hP.sub (ws' := [(a, .inl (c1, 8, .inl fi))]) [2] rfl
  have hKc := hK.sub (tys' := [(c1, .byte)]) [1] rfl
  refine vp_callSi (va_Run.run (va_runV (As := [.ref a, .int (nI 0)]) (rest := []) ⟨hx, hb, hml, hown, hts⟩ (mX2_bytesToint l D h0 a c1 8 fi 0 tS tR (by decide) (by decide)) (cwV 2 hts (lw_V q208 q210 qs3 q11 q211) rfl rfl rfl (by decide +kernel) ⟨Nat.le_of_ble_eq_true rfl, Nat.le_of_ble_eq_true rfl⟩) ⟨gPr_blind, va_recv hK hP (ci := 2) (q0 := 0) rfl rfl, gPr_of hPc hKc hZ hS⟩ rfl rfl hl.1 rfl (lv_room (Nat.le_of_ble_eq_true rfl)) dX2_GOST28147Func_3 ⟨Nat.le_of_ble_eq_true rfl, Nat.le_of_ble_eq_true rfl⟩)) (fun r_3 hr_3 => ?_)
  obtain rfl : r_3 = gWe fi 0 := hr_3
  refine W.widen (k := 0) (n := 0) (Nat.le_of_ble_eq_true rfl) (Nat.le_of_ble_eq_true rfl) ?_
  refine lv_istore (lv' := [(6, .int (gWe fi 0)), (0, .ref h0), (1, .ref q), (2, .ref a), (3, .int (nI 0)), (4, .ref o), (5, .int (nI 0))]) hx hb dX2_GOST28147Func_6 hl (by decide) rfl (fun ls hl => ?_)
  refine lv_aload_n hx hb dX2_GOST28147Func_8 rfl (lv_at hl 1 rfl) ?_
  refine lv_aload_n hx hb dX2_GOST28147Func_9 rfl (lv_at hl 3 rfl) ?_
  refine lv_iload_n hx hb dX2_GOST28147Func_10 rfl (lv_at hl 4 rfl) ?_
  refine lv_iconst (v := 4) hx hb dX2_GOST28147Func_11 (by decide) ?_
  refine lv_iadd hx hb dX2_GOST28147Func_12 ?_
  refine g_top (nI 4) (nI_add 0 4) ?_
  have hPc := hP.sub (ws' := [(a, .inl (c1, 8, .inl fi))]) [2] rfl
  have hKc := hK.sub (tys' := [(c1, .byte)]) [1] rfl
  refine vp_callSi (va_Run.run (va_runV (As := [.ref a, .int (nI 4)]) (rest := []) ⟨hx, hb, hml, hown, hts⟩ (mX2_bytesToint l D h0 a c1 8 fi 4 tS tR (by decide) (by decide)) (cwV 2 hts (lw_V q208 q210 qs3 q11 q211) rfl rfl rfl (by decide +kernel) ⟨Nat.le_of_ble_eq_true rfl, Nat.le_of_ble_eq_true rfl⟩) ⟨gPr_blind, va_recv hK hP (ci := 2) (q0 := 0) rfl rfl, gPr_of hPc hKc hZ hS⟩ rfl rfl hl.1 rfl (lv_room (Nat.le_of_ble_eq_true rfl)) dX2_GOST28147Func_13 ⟨Nat.le_of_ble_eq_true rfl, Nat.le_of_ble_eq_true rfl⟩)) (fun r_13 hr_13 => ?_)
  obtain rfl : r_13 = gWe fi 4 := hr_13
  refine W.widen (k := 0) (n := 0) (Nat.le_of_ble_eq_true rfl) (Nat.le_of_ble_eq_true rfl) ?_
  refine lv_istore (lv' := [(7, .int (gWe fi 4)), (6, .int (gWe fi 0)), (0, .ref h0), (1, .ref q), (2, .ref a), (3, .int (nI 0)), (4, .ref o), (5, .int (nI 0))]) hx hb dX2_GOST28147Func_16 hl (by decide) rfl (fun ls hl => ?_)
  refine lv_aload_n hx hb dX2_GOST28147Func_18 rfl (lv_at hl 2 rfl) ?_
  refine va_get (D := D) (ci := 2) (v := .int (gBi b)) (C := RX2) (T := TX2) (N := 3) hx hb hts in_X2 hown hK hP 0 rfl rfl 1 (by decide) (hts _ q73) (fun _ h9 => h9) rfl dX2_GOST28147Func_19 ?_
  have fin : ∀ ls : Array Slot, lv_has ls 11 [(0, .ref h0), (1, .ref q), (4, .ref o), (5, .int (nI 0)), (6, .int ((gRun b K (gWe fi 0) (gWe fi 4) 31).1)), (7, .int ((gRun b K (gWe fi 0) (gWe fi 4) 31).2))] → W p l e (headSpec (ws_ yX2_GOST28147Func cX2_GOST28147Func 11 none) ({ frames := 1, cells := 0, slots := 0, locals := 24 })).room s m ([.ref h0, .ref q, .ref a, .int (nI 0), .ref o, .int (nI 0)] : List Value).toArray below meth c s.heap [] 0 0 (MQ below (va_Qv (fun _ : Unit => True) (fun _ => gBw D A [(h0, .inr (2, [v0, .int (gBi b), .ref tS])), (q, .inl (cI, 8, .inl K)), (a, .inl (c1, 8, .inl fi)), (o, .inl (c2, 8, .inl (gPutE (gPutE fo 0 (gN1 b K (gWe fi 0) (gWe fi 4))) 4 (gN2 b K (gWe fi 0) (gWe fi 4)))))] [(cI, .int), (c1, .byte), (c2, .byte)]) A) ([.ref h0, .ref q, .ref a, .int (nI 0), .ref o, .int (nI 0)] : List Value).toArray s 0 0 A) (F0 m 226 ls []) := by
    intro ls hl
    refine lv_iload hx hb dX2_GOST28147Func_226 (lv_at hl 5 rfl) ?_
    refine lv_aload_n hx hb dX2_GOST28147Func_228 rfl (lv_at hl 0 rfl) ?_
    refine lv_iload hx hb dX2_GOST28147Func_229 (lv_at hl 4 rfl) ?_
    refine lv_aload_n hx hb dX2_GOST28147Func_231 rfl (lv_at hl 1 rfl) ?_
    refine lv_iconst (v := 0) hx hb dX2_GOST28147Func_232 (by decide) ?_
    refine g_iald hx hb hK hP 1 0 rfl rfl (0) rfl (by decide) (by decide) dX2_GOST28147Func_233 ?_
    have hPc := hP.sub (ws' := [(h0, .inr (2, [v0, .int (gBi b), .ref tS]))]) [0] rfl
    have hKc := hK.sub (tys' := []) [] rfl
    refine vp_callSi (va_Run.run (va_runV (As := [.int ((gRun b K (gWe fi 0) (gWe fi 4) 31).1), .int (K 0)]) (rest := [.int ((gRun b K (gWe fi 0) (gWe fi 4) 31).2)]) ⟨hx, hb, hml, hown, hts⟩ (mX2_GOST28147_mainStep l D h0 v0 (.int (gBi b)) (gRun b K (gWe fi 0) (gWe fi 4) 31).1 (K 0) tS tR) (cwV 2 hts (lw_V q283 q285 qs5 q11 q286) rfl rfl rfl (by decide +kernel) ⟨Nat.le_of_ble_eq_true rfl, Nat.le_of_ble_eq_true rfl⟩) ⟨gPr_blind, va_recv hK hP (ci := 2) (q0 := 0) rfl rfl, gPr_of hPc hKc hZ hS⟩ rfl rfl hl.1 rfl (lv_room (Nat.le_of_ble_eq_true rfl)) dX2_GOST28147Func_234 ⟨Nat.le_of_ble_eq_true rfl, Nat.le_of_ble_eq_true rfl⟩)) (fun r_234 hr_234 => ?_)
    obtain rfl : r_234 = gMix (K 0 + (gRun b K (gWe fi 0) (gWe fi 4) 31).1) := hr_234
    refine W.widen (k := 0) (n := 0) (Nat.le_of_ble_eq_true rfl) (Nat.le_of_ble_eq_true rfl) ?_
    refine lv_ixor hx hb dX2_GOST28147Func_237 ?_
    refine g_top (gN2 b K (gWe fi 0) (gWe fi 4)) (g_last b K _ _) ?_
    refine lv_istore (lv' := [(7, .int (gN2 b K (gWe fi 0) (gWe fi 4))), (0, .ref h0), (1, .ref q), (4, .ref o), (5, .int (nI 0)), (6, .int ((gRun b K (gWe fi 0) (gWe fi 4) 31).1))]) hx hb dX2_GOST28147Func_238 hl (by decide) rfl (fun ls hl => ?_)
    refine lv_aload_n hx hb dX2_GOST28147Func_240 rfl (lv_at hl 1 rfl) ?_
    refine lv_iload hx hb dX2_GOST28147Func_241 (lv_at hl 5 rfl) ?_
    refine lv_aload hx hb dX2_GOST28147Func_243 (lv_at hl 3 rfl) ?_
    refine lv_iload hx hb dX2_GOST28147Func_245 (lv_at hl 4 rfl) ?_
    have hPc := hP.sub (ws' := [(o, .inl (c2, 8, .inl fo))]) [3] rfl
    have hDc := hD.sub (ws' := [(o, .inl (c2, 8, .inl fo))]) [3] (by decide) rfl
    have hKc := hK.sub (tys' := [(c2, .byte)]) [2] rfl
    have hFc := va_free (wc := [(o, .inl (c2, 8, .inl fo))]) hD hS hA [3] rfl
    refine va_callv (va_runV (As := [.int ((gRun b K (gWe fi 0) (gWe fi 4) 31).1), .ref o, .int (nI 0)]) (rest := []) ⟨hx, hb, hml, hown, hts⟩ (mX2_intTobytes l D h0 o c2 8 fo (gRun b K (gWe fi 0) (gWe fi 4) 31).1 0 s.heap.size tS tR (by decide) (by decide)) (cwV 3 hts (lw_V q287 q289 qs6 q11 q290) rfl rfl rfl (by decide +kernel) ⟨Nat.le_of_ble_eq_true rfl, Nat.le_of_ble_eq_true rfl⟩) ⟨gPw_blind, va_recv hK hP (ci := 2) (q0 := 0) rfl rfl, gPw_of hPc hKc hDc hZ hS hFc⟩ rfl rfl hl.1 rfl (lv_room (Nat.le_of_ble_eq_true rfl)) dX2_GOST28147Func_247 ⟨Nat.le_of_ble_eq_true rfl, Nat.le_of_ble_eq_true rfl⟩) hS (fun q _ h => hFc q h) hFc (fun u t H1 locs ht hvm hw hB hz1 hk1 hS => ?_)
    obtain ⟨hP1, hK1, hD1⟩ := hB
    rw [ht] at hP1
    have hK1 := va_K.moved hvm.symm hK1
    obtain ⟨hP, hD⟩ := va_join (wr := [(h0, .inr (2, [v0, .int (gBi b), .ref tS])), (q, .inl (cI, 8, .inl K)), (a, .inl (c1, 8, .inl fi))]) (w1 := [(o, .inl (c2, 8, .inl (gPutE fo 0 (gN1 b K (gWe fi 0) (gWe fi 4)))))]) hP hD [3] [0, 1, 2] rfl rfl (by decide) (by decide) hk1 hFc hP1 hD1
    have hK := (hK.sub (tys' := [(cI, .int), (c1, .byte), (c2, .byte)]) [0, 1, 2] rfl).app (hK1.sub (tys' := []) [] rfl)
    generalize H1 = H at hP hS ⊢
    have hP : va_P D vwCl [(h0, .inr (2, [v0, .int (gBi b), .ref tS])), (q, .inl (cI, 8, .inl K)), (a, .inl (c1, 8, .inl fi)), (o, .inl (c2, 8, .inl (gPutE fo 0 (gN1 b K (gWe fi 0) (gWe fi 4)))))] H := hP
    have hD : va_D A [(h0, .inr (2, [v0, .int (gBi b), .ref tS])), (q, .inl (cI, 8, .inl K)), (a, .inl (c1, 8, .inl fi)), (o, .inl (c2, 8, .inl (gPutE fo 0 (gN1 b K (gWe fi 0) (gWe fi 4)))))] := hD
    have hK : va_K D vwCl [(cI, .int), (c1, .byte), (c2, .byte)] s := hK
    refine W.widen (k := 0) (n := 0) (Nat.le_of_ble_eq_true rfl) (Nat.le_of_ble_eq_true rfl) ?_
    refine lv_aload_n hx hb dX2_GOST28147Func_250 rfl (lv_at hl 1 rfl) ?_
    refine lv_iload hx hb dX2_GOST28147Func_251 (lv_at hl 0 rfl) ?_
    refine lv_aload hx hb dX2_GOST28147Func_253 (lv_at hl 3 rfl) ?_
    refine lv_iload hx hb dX2_GOST28147Func_255 (lv_at hl 4 rfl) ?_
    refine lv_iconst (v := 4) hx hb dX2_GOST28147Func_257 (by decide) ?_
    refine lv_iadd hx hb dX2_GOST28147Func_258 ?_
    refine g_top (nI 4) (nI_add 0 4) ?_
    have hPc := hP.sub (ws' := [(o, .inl (c2, 8, .inl (gPutE fo 0 (gN1 b K (gWe fi 0) (gWe fi 4)))))]) [3] rfl
    have hDc := hD.sub (ws' := [(o, .inl (c2, 8, .inl (gPutE fo 0 (gN1 b K (gWe fi 0) (gWe fi 4)))))]) [3] (by decide) rfl
    have hKc := hK.sub (tys' := [(c2, .byte)]) [2] rfl
    have hFc := va_free (wc := [(o, .inl (c2, 8, .inl (gPutE fo 0 (gN1 b K (gWe fi 0) (gWe fi 4)))))]) hD hS hA [3] rfl
    refine va_callv (va_runV (As := [.int (gN2 b K (gWe fi 0) (gWe fi 4)), .ref o, .int (nI 4)]) (rest := []) ⟨hx, hb, hml, hown, hts⟩ (mX2_intTobytes l D h0 o c2 8 (gPutE fo 0 (gN1 b K (gWe fi 0) (gWe fi 4))) (gN2 b K (gWe fi 0) (gWe fi 4)) 4 H.size tS tR (by decide) (by decide)) (cwV 3 hts (lw_V q287 q289 qs6 q11 q290) rfl rfl rfl (by decide +kernel) ⟨Nat.le_of_ble_eq_true rfl, Nat.le_of_ble_eq_true rfl⟩) ⟨gPw_blind, va_recv hK hP (ci := 2) (q0 := 0) rfl rfl, gPw_of hPc hKc hDc hZ hS hFc⟩ rfl rfl hl.1 rfl (lv_room (Nat.le_of_ble_eq_true rfl)) dX2_GOST28147Func_259 ⟨Nat.le_of_ble_eq_true rfl, Nat.le_of_ble_eq_true rfl⟩) hS (fun q _ h => hFc q h) hFc (fun u t H1 locs ht hvm hw hB hz1 hk1 hS => ?_)
    obtain ⟨hP1, hK1, hD1⟩ := hB
    rw [ht] at hP1
    have hK1 := va_K.moved hvm.symm hK1
    obtain ⟨hP, hD⟩ := va_join (wr := [(h0, .inr (2, [v0, .int (gBi b), .ref tS])), (q, .inl (cI, 8, .inl K)), (a, .inl (c1, 8, .inl fi))]) (w1 := [(o, .inl (c2, 8, .inl (gPutE (gPutE fo 0 (gN1 b K (gWe fi 0) (gWe fi 4))) 4 (gN2 b K (gWe fi 0) (gWe fi 4)))))]) hP hD [3] [0, 1, 2] rfl rfl (by decide) (by decide) hk1 hFc hP1 hD1
    have hK := (hK.sub (tys' := [(cI, .int), (c1, .byte), (c2, .byte)]) [0, 1, 2] rfl).app (hK1.sub (tys' := []) [] rfl)
    generalize H1 = H at hP hS ⊢
    have hP : va_P D vwCl [(h0, .inr (2, [v0, .int (gBi b), .ref tS])), (q, .inl (cI, 8, .inl K)), (a, .inl (c1, 8, .inl fi)), (o, .inl (c2, 8, .inl (gPutE (gPutE fo 0 (gN1 b K (gWe fi 0) (gWe fi 4))) 4 (gN2 b K (gWe fi 0) (gWe fi 4)))))] H := hP
    have hD : va_D A [(h0, .inr (2, [v0, .int (gBi b), .ref tS])), (q, .inl (cI, 8, .inl K)), (a, .inl (c1, 8, .inl fi)), (o, .inl (c2, 8, .inl (gPutE (gPutE fo 0 (gN1 b K (gWe fi 0) (gWe fi 4))) 4 (gN2 b K (gWe fi 0) (gWe fi 4)))))] := hD
    have hK : va_K D vwCl [(cI, .int), (c1, .byte), (c2, .byte)] s := hK
    refine W.widen (k := 0) (n := 0) (Nat.le_of_ble_eq_true rfl) (Nat.le_of_ble_eq_true rfl) ?_
    have hP := hP.sub (ws' := [(h0, .inr (2, [v0, .int (gBi b), .ref tS])), (q, .inl (cI, 8, .inl K)), (a, .inl (c1, 8, .inl fi)), (o, .inl (c2, 8, .inl (gPutE (gPutE fo 0 (gN1 b K (gWe fi 0) (gWe fi 4))) 4 (gN2 b K (gWe fi 0) (gWe fi 4)))))]) [0, 1, 2, 3] rfl
    have hD := hD.sub (ws' := [(h0, .inr (2, [v0, .int (gBi b), .ref tS])), (q, .inl (cI, 8, .inl K)), (a, .inl (c1, 8, .inl fi)), (o, .inl (c2, 8, .inl (gPutE (gPutE fo 0 (gN1 b K (gWe fi 0) (gWe fi 4))) 4 (gN2 b K (gWe fi 0) (gWe fi 4)))))]) [0, 1, 2, 3] (by decide) rfl
    have hK := hK.sub (tys' := [(cI, .int), (c1, .byte), (c2, .byte)]) [0, 1, 2] rfl
    exact g_vret hx hb hr hP hK hD hS hlocks dX2_GOST28147Func_262
  refine lv_if_eq (tgt := 120) hx hb dX2_GOST28147Func_22 (by decide) (fun c22 => ?_) (fun c22 => ?_)
  · obtain rfl : b = false := gBi_0 c22
    have inner : ∀ (u k r : Nat), k < 3 → u ≤ 8 → (k = 2 → 1 ≤ u) → r + u = 16 + 8 * k → (∀ ls : Array Slot, lv_has ls 11 [(0, .ref h0), (1, .ref q), (4, .ref o), (5, .int (nI 0)), (6, .int ((gRun false K (gWe fi 0) (gWe fi 4) (if k = 2 then 31 else 16 + 8 * k)).1)), (7, .int ((gRun false K (gWe fi 0) (gWe fi 4) (if k = 2 then 31 else 16 + 8 * k)).2)), (9, .int (nI k))] → W p l e (headSpec (ws_ yX2_GOST28147Func cX2_GOST28147Func 11 none) ({ frames := 1, cells := 0, slots := 0, locals := 24 })).room s m ([.ref h0, .ref q, .ref a, .int (nI 0), .ref o, .int (nI 0)] : List Value).toArray below meth c s.heap [] 0 0 (MQ below (va_Qv (fun _ : Unit => True) (fun _ => gBw D A [(h0, .inr (2, [v0, .int (gBi false), .ref tS])), (q, .inl (cI, 8, .inl K)), (a, .inl (c1, 8, .inl fi)), (o, .inl (c2, 8, .inl (gPutE (gPutE fo 0 (gN1 false K (gWe fi 0) (gWe fi 4))) 4 (gN2 false K (gWe fi 0) (gWe fi 4)))))] [(cI, .int), (c1, .byte), (c2, .byte)]) A) ([.ref h0, .ref q, .ref a, .int (nI 0), .ref o, .int (nI 0)] : List Value).toArray s 0 0 A) (F0 m 220 ls [])) → ∀ ls : Array Slot, lv_has ls 11 [(0, .ref h0), (1, .ref q), (4, .ref o), (5, .int (nI 0)), (6, .int ((gRun false K (gWe fi 0) (gWe fi 4) r).1)), (7, .int ((gRun false K (gWe fi 0) (gWe fi 4) r).2)), (9, .int (nI k)), (10, .int (gDn u))] → W p l e (headSpec (ws_ yX2_GOST28147Func cX2_GOST28147Func 11 none) ({ frames := 1, cells := 0, slots := 0, locals := 24 })).room s m ([.ref h0, .ref q, .ref a, .int (nI 0), .ref o, .int (nI 0)] : List Value).toArray below meth c s.heap [] 0 0 (MQ below (va_Qv (fun _ : Unit => True) (fun _ => gBw D A [(h0, .inr (2, [v0, .int (gBi false), .ref tS])), (q, .inl (cI, 8, .inl K)), (a, .inl (c1, 8, .inl fi)), (o, .inl (c2, 8, .inl (gPutE (gPutE fo 0 (gN1 false K (gWe fi 0) (gWe fi 4))) 4 (gN2 false K (gWe fi 0) (gWe fi 4)))))] [(cI, .int), (c1, .byte), (c2, .byte)]) A) ([.ref h0, .ref q, .ref a, .int (nI 0), .ref o, .int (nI 0)] : List Value).toArray s 0 0 A) (F0 m 172 ls []) := by
      intro u
      induction u with
      | zero =>
        intro k r k0 k1 k2 er cont ls hl
        refine lv_iload hx hb dX2_GOST28147Func_172 (lv_at hl 7 rfl) ?_
        refine lv_if_lt (tgt := 220) hx hb dX2_GOST28147Func_174 (by decide) (fun _ => ?_) (fun c => absurd (by decide) c)
        have hk2 : k ≠ 2 := fun q => absurd (k2 q) (by omega)
        obtain rfl : r = 16 + 8 * k := by omega
        exact cont ls (by rw [if_neg hk2]; exact lv_sub hl [0, 1, 2, 3, 4, 5, 6] rfl)
      | succ u ih =>
        intro k r k0 k1 k2 er cont ls hl
        have hl : lv_has ls 11 [(0, .ref h0), (1, .ref q), (4, .ref o), (5, .int (nI 0)), (6, .int ((gRun false K (gWe fi 0) (gWe fi 4) r).1)), (7, .int ((gRun false K (gWe fi 0) (gWe fi 4) r).2)), (9, .int (nI k)), (10, .int (nI u))] := hl
        refine lv_iload hx hb dX2_GOST28147Func_172 (lv_at hl 7 rfl) ?_
        refine lv_if_lt (tgt := 220) hx hb dX2_GOST28147Func_174 (by decide) (fun c => absurd c (nI_pos (n := u) (by omega))) (fun _ => ?_)
        have go : (k = 2 → u ≠ 0) → W p l e (headSpec (ws_ yX2_GOST28147Func cX2_GOST28147Func 11 none) ({ frames := 1, cells := 0, slots := 0, locals := 24 })).room s m ([.ref h0, .ref q, .ref a, .int (nI 0), .ref o, .int (nI 0)] : List Value).toArray below meth c s.heap [] 0 0 (MQ below (va_Qv (fun _ : Unit => True) (fun _ => gBw D A [(h0, .inr (2, [v0, .int (gBi false), .ref tS])), (q, .inl (cI, 8, .inl K)), (a, .inl (c1, 8, .inl fi)), (o, .inl (c2, 8, .inl (gPutE (gPutE fo 0 (gN1 false K (gWe fi 0) (gWe fi 4))) 4 (gN2 false K (gWe fi 0) (gWe fi 4)))))] [(cI, .int), (c1, .byte), (c2, .byte)]) A) ([.ref h0, .ref q, .ref a, .int (nI 0), .ref o, .int (nI 0)] : List Value).toArray s 0 0 A) (F0 m 191 ls []) := by
          intro hgo
          refine lv_iload hx hb dX2_GOST28147Func_191 (lv_at hl 4 rfl) ?_
          refine lv_istore (lv' := [(8, .int ((gRun false K (gWe fi 0) (gWe fi 4) r).1)), (0, .ref h0), (1, .ref q), (4, .ref o), (5, .int (nI 0)), (6, .int ((gRun false K (gWe fi 0) (gWe fi 4) r).1)), (7, .int ((gRun false K (gWe fi 0) (gWe fi 4) r).2)), (9, .int (nI k)), (10, .int (nI u))]) hx hb dX2_GOST28147Func_193 hl (by decide) rfl (fun ls hl => ?_)
          refine lv_iload hx hb dX2_GOST28147Func_195 (lv_at hl 6 rfl) ?_
          refine lv_aload_n hx hb dX2_GOST28147Func_197 rfl (lv_at hl 1 rfl) ?_
          refine lv_iload hx hb dX2_GOST28147Func_198 (lv_at hl 5 rfl) ?_
          refine lv_aload_n hx hb dX2_GOST28147Func_200 rfl (lv_at hl 2 rfl) ?_
          refine lv_iload hx hb dX2_GOST28147Func_201 (lv_at hl 8 rfl) ?_
          refine g_iald hx hb hK hP 1 0 rfl rfl (u) rfl (by omega) (by decide) dX2_GOST28147Func_203 ?_
          have hPc := hP.sub (ws' := [(h0, .inr (2, [v0, .int (gBi false), .ref tS]))]) [0] rfl
          have hKc := hK.sub (tys' := []) [] rfl
          refine vp_callSi (va_Run.run (va_runV (As := [.int ((gRun false K (gWe fi 0) (gWe fi 4) r).1), .int (K u)]) (rest := [.int ((gRun false K (gWe fi 0) (gWe fi 4) r).2)]) ⟨hx, hb, hml, hown, hts⟩ (mX2_GOST28147_mainStep l D h0 v0 (.int (gBi false)) (gRun false K (gWe fi 0) (gWe fi 4) r).1 (K u) tS tR) (cwV 2 hts (lw_V q283 q285 qs5 q11 q286) rfl rfl rfl (by decide +kernel) ⟨Nat.le_of_ble_eq_true rfl, Nat.le_of_ble_eq_true rfl⟩) ⟨gPr_blind, va_recv hK hP (ci := 2) (q0 := 0) rfl rfl, gPr_of hPc hKc hZ hS⟩ rfl rfl hl.1 rfl (lv_room (Nat.le_of_ble_eq_true rfl)) dX2_GOST28147Func_204 ⟨Nat.le_of_ble_eq_true rfl, Nat.le_of_ble_eq_true rfl⟩)) (fun r_204 hr_204 => ?_)
          obtain rfl : r_204 = gMix (K u + (gRun false K (gWe fi 0) (gWe fi 4) r).1) := hr_204
          refine W.widen (k := 0) (n := 0) (Nat.le_of_ble_eq_true rfl) (Nat.le_of_ble_eq_true rfl) ?_
          refine lv_ixor hx hb dX2_GOST28147Func_207 ?_
          refine g_top ((gRun false K (gWe fi 0) (gWe fi 4) (r + 1)).1) (g_step (gSch_d2 (k := k) (by omega) (by omega))) ?_
          refine lv_istore (lv' := [(6, .int ((gRun false K (gWe fi 0) (gWe fi 4) (r + 1)).1)), (8, .int ((gRun false K (gWe fi 0) (gWe fi 4) r).1)), (0, .ref h0), (1, .ref q), (4, .ref o), (5, .int (nI 0)), (7, .int ((gRun false K (gWe fi 0) (gWe fi 4) r).2)), (9, .int (nI k)), (10, .int (nI u))]) hx hb dX2_GOST28147Func_208 hl (by decide) rfl (fun ls hl => ?_)
          refine lv_iload hx hb dX2_GOST28147Func_210 (lv_at hl 1 rfl) ?_
          refine g_top ((gRun false K (gWe fi 0) (gWe fi 4) (r + 1)).2) rfl ?_
          refine lv_istore (lv' := [(7, .int ((gRun false K (gWe fi 0) (gWe fi 4) (r + 1)).2)), (6, .int ((gRun false K (gWe fi 0) (gWe fi 4) (r + 1)).1)), (8, .int ((gRun false K (gWe fi 0) (gWe fi 4) r).1)), (0, .ref h0), (1, .ref q), (4, .ref o), (5, .int (nI 0)), (9, .int (nI k)), (10, .int (nI u))]) hx hb dX2_GOST28147Func_212 hl (by decide) rfl (fun ls hl => ?_)
          refine lv_iinc (v := (gDn u)) (lv' := [(10, .int (gDn u)), (7, .int ((gRun false K (gWe fi 0) (gWe fi 4) (r + 1)).2)), (6, .int ((gRun false K (gWe fi 0) (gWe fi 4) (r + 1)).1)), (8, .int ((gRun false K (gWe fi 0) (gWe fi 4) r).1)), (0, .ref h0), (1, .ref q), (4, .ref o), (5, .int (nI 0)), (9, .int (nI k))]) hx hb dX2_GOST28147Func_214 hl (k := 8) rfl (gDn_s u) (by decide) rfl (fun ls hl => ?_)
          refine lv_goto (tgt := 172) hx hb dX2_GOST28147Func_217 (by decide) ?_
          exact ih k (r + 1) k0 (by omega) (fun q => by have := hgo q; omega) (by omega) cont ls (lv_sub hl [4, 5, 6, 7, 2, 1, 8, 0] rfl)
        refine lv_iload hx hb dX2_GOST28147Func_177 (lv_at hl 6 rfl) ?_
        refine lv_iconst (v := 2) hx hb dX2_GOST28147Func_179 (by decide) ?_
        refine lv_icmp_ne (tgt := 191) hx hb dX2_GOST28147Func_180 (by decide) (fun c180 => ?_) (fun c180 => ?_)
        · exact go (fun q => absurd (show nI k = 2 by rw [q]; rfl) c180)
        · obtain rfl : k = 2 := (nI_eq (a := k) (b := 2) (by omega) (by decide)).mp c180
          refine lv_iload hx hb dX2_GOST28147Func_183 (lv_at hl 7 rfl) ?_
          refine lv_if_ne (tgt := 191) hx hb dX2_GOST28147Func_185 (by decide) (fun c185 => ?_) (fun c185 => ?_)
          · exact go (fun _ q => c185 (by rw [q]; rfl))
          · obtain rfl : u = 0 := (nI_eq (a := u) (b := 0) (by omega) (by decide)).mp c185
            obtain rfl : r = 31 := by omega
            refine lv_goto (tgt := 220) hx hb dX2_GOST28147Func_188 (by decide) ?_
            exact cont ls (lv_sub hl [0, 1, 2, 3, 4, 5, 6] rfl)
    have outer : ∀ (n k r : Nat), k ≤ 3 → 4 ≤ k + n → (k < 3 → r = 8 + 8 * k) → (k = 3 → r = 31) → ∀ ls : Array Slot, lv_has ls 11 [(0, .ref h0), (1, .ref q), (4, .ref o), (5, .int (nI 0)), (6, .int ((gRun false K (gWe fi 0) (gWe fi 4) r).1)), (7, .int ((gRun false K (gWe fi 0) (gWe fi 4) r).2)), (9, .int (nI k))] → W p l e (headSpec (ws_ yX2_GOST28147Func cX2_GOST28147Func 11 none) ({ frames := 1, cells := 0, slots := 0, locals := 24 })).room s m ([.ref h0, .ref q, .ref a, .int (nI 0), .ref o, .int (nI 0)] : List Value).toArray below meth c s.heap [] 0 0 (MQ below (va_Qv (fun _ : Unit => True) (fun _ => gBw D A [(h0, .inr (2, [v0, .int (gBi false), .ref tS])), (q, .inl (cI, 8, .inl K)), (a, .inl (c1, 8, .inl fi)), (o, .inl (c2, 8, .inl (gPutE (gPutE fo 0 (gN1 false K (gWe fi 0) (gWe fi 4))) 4 (gN2 false K (gWe fi 0) (gWe fi 4)))))] [(cI, .int), (c1, .byte), (c2, .byte)]) A) ([.ref h0, .ref q, .ref a, .int (nI 0), .ref o, .int (nI 0)] : List Value).toArray s 0 0 A) (F0 m 162 ls []) := by
      intro n
      induction n with
      | zero => intro k r k1 k2; exact absurd k2 (by omega)
      | succ n ih =>
        intro k r k1 k2 e1 e2 ls hl
        refine lv_iload hx hb dX2_GOST28147Func_162 (lv_at hl 6 rfl) ?_
        refine lv_iconst (v := 3) hx hb dX2_GOST28147Func_164 (by decide) ?_
        refine lv_icmp_ge (tgt := 226) hx hb dX2_GOST28147Func_165 (by decide) (fun c165 => ?_) (fun c165 => ?_)
        · obtain rfl : k = 3 := Nat.le_antisymm k1 ((nI_leI (a := 3) (b := k) (by omega) (by omega)).mp c165)
          obtain rfl : r = 31 := e2 rfl
          exact fin ls (lv_sub hl [0, 1, 2, 3, 4, 5] rfl)
        · have hk : k < 3 := Nat.lt_of_not_le fun q => c165 (nI_le (a := 3) (b := k) q (by omega))
          have er := e1 hk
          refine lv_bipush (v := 7) hx hb dX2_GOST28147Func_168 (by decide) ?_
          refine g_top (gDn 8) rfl ?_
          refine lv_istore (lv' := [(10, .int (gDn 8)), (0, .ref h0), (1, .ref q), (4, .ref o), (5, .int (nI 0)), (6, .int ((gRun false K (gWe fi 0) (gWe fi 4) r).1)), (7, .int ((gRun false K (gWe fi 0) (gWe fi 4) r).2)), (9, .int (nI k))]) hx hb dX2_GOST28147Func_170 hl (by decide) rfl (fun ls hl => ?_)
          refine inner 8 k r hk (by omega) (fun _ => by omega) (by omega) (fun ls hl => ?_) ls (lv_sub hl [1, 2, 3, 4, 5, 6, 7, 0] rfl)
          refine lv_iinc (v := (nI (k + 1))) (lv' := [(9, .int (nI (k + 1))), (0, .ref h0), (1, .ref q), (4, .ref o), (5, .int (nI 0)), (6, .int ((gRun false K (gWe fi 0) (gWe fi 4) (if k = 2 then 31 else 16 + 8 * k)).1)), (7, .int ((gRun false K (gWe fi 0) (gWe fi 4) (if k = 2 then 31 else 16 + 8 * k)).2))]) hx hb dX2_GOST28147Func_220 hl (k := 6) rfl (nI_1 k) (by decide) rfl (fun ls hl => ?_)
          refine lv_goto (tgt := 162) hx hb dX2_GOST28147Func_223 (by decide) ?_
          exact ih (k + 1) (if k = 2 then 31 else 16 + 8 * k) hk (by omega) (fun q => by rw [if_neg (by omega)]; omega) (fun q => by rw [if_pos (by omega)]) ls (lv_sub hl [1, 2, 3, 4, 5, 6, 0] rfl)
    have first : ∀ (n j : Nat), j ≤ 8 → 9 ≤ j + n → ∀ ls : Array Slot, lv_has ls 11 [(0, .ref h0), (1, .ref q), (4, .ref o), (5, .int (nI 0)), (6, .int ((gRun false K (gWe fi 0) (gWe fi 4) j).1)), (7, .int ((gRun false K (gWe fi 0) (gWe fi 4) j).2)), (9, .int (nI j))] → W p l e (headSpec (ws_ yX2_GOST28147Func cX2_GOST28147Func 11 none) ({ frames := 1, cells := 0, slots := 0, locals := 24 })).room s m ([.ref h0, .ref q, .ref a, .int (nI 0), .ref o, .int (nI 0)] : List Value).toArray below meth c s.heap [] 0 0 (MQ below (va_Qv (fun _ : Unit => True) (fun _ => gBw D A [(h0, .inr (2, [v0, .int (gBi false), .ref tS])), (q, .inl (cI, 8, .inl K)), (a, .inl (c1, 8, .inl fi)), (o, .inl (c2, 8, .inl (gPutE (gPutE fo 0 (gN1 false K (gWe fi 0) (gWe fi 4))) 4 (gN2 false K (gWe fi 0) (gWe fi 4)))))] [(cI, .int), (c1, .byte), (c2, .byte)]) A) ([.ref h0, .ref q, .ref a, .int (nI 0), .ref o, .int (nI 0)] : List Value).toArray s 0 0 A) (F0 m 123 ls []) := by
      intro n
      induction n with
      | zero => intro j k1 k2; exact absurd k2 (by omega)
      | succ n ih =>
        intro j k1 k2 ls hl
        refine lv_iload hx hb dX2_GOST28147Func_123 (lv_at hl 6 rfl) ?_
        refine lv_bipush (v := 8) hx hb dX2_GOST28147Func_125 (by decide) ?_
        refine lv_icmp_ge (tgt := 159) hx hb dX2_GOST28147Func_127 (by decide) (fun c127 => ?_) (fun c127 => ?_)
        · obtain rfl : j = 8 := Nat.le_antisymm k1 ((nI_leI (a := 8) (b := j) (by omega) (by omega)).mp c127)
          refine lv_iconst (v := 0) hx hb dX2_GOST28147Func_159 (by decide) ?_
          refine g_top (nI 0) rfl ?_
          refine lv_istore (lv' := [(9, .int (nI 0)), (0, .ref h0), (1, .ref q), (4, .ref o), (5, .int (nI 0)), (6, .int ((gRun false K (gWe fi 0) (gWe fi 4) 8).1)), (7, .int ((gRun false K (gWe fi 0) (gWe fi 4) 8).2))]) hx hb dX2_GOST28147Func_160 hl (by decide) rfl (fun ls hl => ?_)
          exact outer 4 0 8 (by omega) (by omega) (fun _ => rfl) (fun q => absurd q (by omega)) ls (lv_sub hl [1, 2, 3, 4, 5, 6, 0] rfl)
        · have hj : j < 8 := Nat.lt_of_not_le fun q => c127 (nI_le (a := 8) (b := j) q (by omega))
          refine lv_iload hx hb dX2_GOST28147Func_130 (lv_at hl 4 rfl) ?_
          refine lv_istore (lv' := [(8, .int ((gRun false K (gWe fi 0) (gWe fi 4) j).1)), (0, .ref h0), (1, .ref q), (4, .ref o), (5, .int (nI 0)), (6, .int ((gRun false K (gWe fi 0) (gWe fi 4) j).1)), (7, .int ((gRun false K (gWe fi 0) (gWe fi 4) j).2)), (9, .int (nI j))]) hx hb dX2_GOST28147Func_132 hl (by decide) rfl (fun ls hl => ?_)
          refine lv_iload hx hb dX2_GOST28147Func_134 (lv_at hl 6 rfl) ?_
          refine lv_aload_n hx hb dX2_GOST28147Func_136 rfl (lv_at hl 1 rfl) ?_
          refine lv_iload hx hb dX2_GOST28147Func_137 (lv_at hl 5 rfl) ?_
          refine lv_aload_n hx hb dX2_GOST28147Func_139 rfl (lv_at hl 2 rfl) ?_
          refine lv_iload hx hb dX2_GOST28147Func_140 (lv_at hl 7 rfl) ?_
          refine g_iald hx hb hK hP 1 0 rfl rfl (j) rfl hj (by decide) dX2_GOST28147Func_142 ?_
          have hPc := hP.sub (ws' := [(h0, .inr (2, [v0, .int (gBi false), .ref tS]))]) [0] rfl
          have hKc := hK.sub (tys' := []) [] rfl
          refine vp_callSi (va_Run.run (va_runV (As := [.int ((gRun false K (gWe fi 0) (gWe fi 4) j).1), .int (K j)]) (rest := [.int ((gRun false K (gWe fi 0) (gWe fi 4) j).2)]) ⟨hx, hb, hml, hown, hts⟩ (mX2_GOST28147_mainStep l D h0 v0 (.int (gBi false)) (gRun false K (gWe fi 0) (gWe fi 4) j).1 (K j) tS tR) (cwV 2 hts (lw_V q283 q285 qs5 q11 q286) rfl rfl rfl (by decide +kernel) ⟨Nat.le_of_ble_eq_true rfl, Nat.le_of_ble_eq_true rfl⟩) ⟨gPr_blind, va_recv hK hP (ci := 2) (q0 := 0) rfl rfl, gPr_of hPc hKc hZ hS⟩ rfl rfl hl.1 rfl (lv_room (Nat.le_of_ble_eq_true rfl)) dX2_GOST28147Func_143 ⟨Nat.le_of_ble_eq_true rfl, Nat.le_of_ble_eq_true rfl⟩)) (fun r_143 hr_143 => ?_)
          obtain rfl : r_143 = gMix (K j + (gRun false K (gWe fi 0) (gWe fi 4) j).1) := hr_143
          refine W.widen (k := 0) (n := 0) (Nat.le_of_ble_eq_true rfl) (Nat.le_of_ble_eq_true rfl) ?_
          refine lv_ixor hx hb dX2_GOST28147Func_146 ?_
          refine g_top ((gRun false K (gWe fi 0) (gWe fi 4) (j + 1)).1) (g_step (gSch_d1 hj)) ?_
          refine lv_istore (lv' := [(6, .int ((gRun false K (gWe fi 0) (gWe fi 4) (j + 1)).1)), (8, .int ((gRun false K (gWe fi 0) (gWe fi 4) j).1)), (0, .ref h0), (1, .ref q), (4, .ref o), (5, .int (nI 0)), (7, .int ((gRun false K (gWe fi 0) (gWe fi 4) j).2)), (9, .int (nI j))]) hx hb dX2_GOST28147Func_147 hl (by decide) rfl (fun ls hl => ?_)
          refine lv_iload hx hb dX2_GOST28147Func_149 (lv_at hl 1 rfl) ?_
          refine g_top ((gRun false K (gWe fi 0) (gWe fi 4) (j + 1)).2) rfl ?_
          refine lv_istore (lv' := [(7, .int ((gRun false K (gWe fi 0) (gWe fi 4) (j + 1)).2)), (6, .int ((gRun false K (gWe fi 0) (gWe fi 4) (j + 1)).1)), (8, .int ((gRun false K (gWe fi 0) (gWe fi 4) j).1)), (0, .ref h0), (1, .ref q), (4, .ref o), (5, .int (nI 0)), (9, .int (nI j))]) hx hb dX2_GOST28147Func_151 hl (by decide) rfl (fun ls hl => ?_)
          refine lv_iinc (v := (nI (j + 1))) (lv' := [(9, .int (nI (j + 1))), (7, .int ((gRun false K (gWe fi 0) (gWe fi 4) (j + 1)).2)), (6, .int ((gRun false K (gWe fi 0) (gWe fi 4) (j + 1)).1)), (8, .int ((gRun false K (gWe fi 0) (gWe fi 4) j).1)), (0, .ref h0), (1, .ref q), (4, .ref o), (5, .int (nI 0))]) hx hb dX2_GOST28147Func_153 hl (k := 7) rfl (nI_1 j) (by decide) rfl (fun ls hl => ?_)
          refine lv_goto (tgt := 123) hx hb dX2_GOST28147Func_156 (by decide) ?_
          exact ih (j + 1) hj (by omega) ls (lv_sub hl [4, 5, 6, 7, 2, 1, 0] rfl)
    refine lv_iconst (v := 0) hx hb dX2_GOST28147Func_120 (by decide) ?_
    refine g_top (nI 0) rfl ?_
    refine lv_istore (lv' := [(9, .int (nI 0)), (7, .int (gWe fi 4)), (6, .int (gWe fi 0)), (0, .ref h0), (1, .ref q), (2, .ref a), (3, .int (nI 0)), (4, .ref o), (5, .int (nI 0))]) hx hb dX2_GOST28147Func_121 hl (by decide) rfl (fun ls hl => ?_)
    exact first 9 0 (by omega) (by omega) ls (lv_sub hl [3, 4, 7, 8, 2, 1, 0] rfl)
  · obtain rfl : b = true := gBi_1 c22
    have inner : ∀ (n k j r : Nat), k < 3 → j ≤ 8 → 9 ≤ j + n → r = 8 * k + j → (∀ ls : Array Slot, lv_has ls 11 [(0, .ref h0), (1, .ref q), (4, .ref o), (5, .int (nI 0)), (6, .int ((gRun true K (gWe fi 0) (gWe fi 4) (8 * (k + 1))).1)), (7, .int ((gRun true K (gWe fi 0) (gWe fi 4) (8 * (k + 1))).2)), (9, .int (nI k))] → W p l e (headSpec (ws_ yX2_GOST28147Func cX2_GOST28147Func 11 none) ({ frames := 1, cells := 0, slots := 0, locals := 24 })).room s m ([.ref h0, .ref q, .ref a, .int (nI 0), .ref o, .int (nI 0)] : List Value).toArray below meth c s.heap [] 0 0 (MQ below (va_Qv (fun _ : Unit => True) (fun _ => gBw D A [(h0, .inr (2, [v0, .int (gBi true), .ref tS])), (q, .inl (cI, 8, .inl K)), (a, .inl (c1, 8, .inl fi)), (o, .inl (c2, 8, .inl (gPutE (gPutE fo 0 (gN1 true K (gWe fi 0) (gWe fi 4))) 4 (gN2 true K (gWe fi 0) (gWe fi 4)))))] [(cI, .int), (c1, .byte), (c2, .byte)]) A) ([.ref h0, .ref q, .ref a, .int (nI 0), .ref o, .int (nI 0)] : List Value).toArray s 0 0 A) (F0 m 73 ls [])) → ∀ ls : Array Slot, lv_has ls 11 [(0, .ref h0), (1, .ref q), (4, .ref o), (5, .int (nI 0)), (6, .int ((gRun true K (gWe fi 0) (gWe fi 4) r).1)), (7, .int ((gRun true K (gWe fi 0) (gWe fi 4) r).2)), (9, .int (nI k)), (10, .int (nI j))] → W p l e (headSpec (ws_ yX2_GOST28147Func cX2_GOST28147Func 11 none) ({ frames := 1, cells := 0, slots := 0, locals := 24 })).room s m ([.ref h0, .ref q, .ref a, .int (nI 0), .ref o, .int (nI 0)] : List Value).toArray below meth c s.heap [] 0 0 (MQ below (va_Qv (fun _ : Unit => True) (fun _ => gBw D A [(h0, .inr (2, [v0, .int (gBi true), .ref tS])), (q, .inl (cI, 8, .inl K)), (a, .inl (c1, 8, .inl fi)), (o, .inl (c2, 8, .inl (gPutE (gPutE fo 0 (gN1 true K (gWe fi 0) (gWe fi 4))) 4 (gN2 true K (gWe fi 0) (gWe fi 4)))))] [(cI, .int), (c1, .byte), (c2, .byte)]) A) ([.ref h0, .ref q, .ref a, .int (nI 0), .ref o, .int (nI 0)] : List Value).toArray s 0 0 A) (F0 m 37 ls []) := by
      intro n
      induction n with
      | zero => intro k j r k0 k1 k2; exact absurd k2 (by omega)
      | succ n ih =>
        intro k j r k0 k1 k2 er cont ls hl
        refine lv_iload hx hb dX2_GOST28147Func_37 (lv_at hl 7 rfl) ?_
        refine lv_bipush (v := 8) hx hb dX2_GOST28147Func_39 (by decide) ?_
        refine lv_icmp_ge (tgt := 73) hx hb dX2_GOST28147Func_41 (by decide) (fun c41 => ?_) (fun c41 => ?_)
        · obtain rfl : j = 8 := Nat.le_antisymm k1 ((nI_leI (a := 8) (b := j) (by omega) (by omega)).mp c41)
          obtain rfl : r = 8 * (k + 1) := by omega
          exact cont ls (lv_sub hl [0, 1, 2, 3, 4, 5, 6] rfl)
        · have hj : j < 8 := Nat.lt_of_not_le fun q => c41 (nI_le (a := 8) (b := j) q (by omega))
          refine lv_iload hx hb dX2_GOST28147Func_44 (lv_at hl 4 rfl) ?_
          refine lv_istore (lv' := [(8, .int ((gRun true K (gWe fi 0) (gWe fi 4) r).1)), (0, .ref h0), (1, .ref q), (4, .ref o), (5, .int (nI 0)), (6, .int ((gRun true K (gWe fi 0) (gWe fi 4) r).1)), (7, .int ((gRun true K (gWe fi 0) (gWe fi 4) r).2)), (9, .int (nI k)), (10, .int (nI j))]) hx hb dX2_GOST28147Func_46 hl (by decide) rfl (fun ls hl => ?_)
          refine lv_iload hx hb dX2_GOST28147Func_48 (lv_at hl 6 rfl) ?_
          refine lv_aload_n hx hb dX2_GOST28147Func_50 rfl (lv_at hl 1 rfl) ?_
          refine lv_iload hx hb dX2_GOST28147Func_51 (lv_at hl 5 rfl) ?_
          refine lv_aload_n hx hb dX2_GOST28147Func_53 rfl (lv_at hl 2 rfl) ?_
          refine lv_iload hx hb dX2_GOST28147Func_54 (lv_at hl 8 rfl) ?_
          refine g_iald hx hb hK hP 1 0 rfl rfl (j) rfl hj (by decide) dX2_GOST28147Func_56 ?_
          have hPc := hP.sub (ws' := [(h0, .inr (2, [v0, .int (gBi true), .ref tS]))]) [0] rfl
          have hKc := hK.sub (tys' := []) [] rfl
          refine vp_callSi (va_Run.run (va_runV (As := [.int ((gRun true K (gWe fi 0) (gWe fi 4) r).1), .int (K j)]) (rest := [.int ((gRun true K (gWe fi 0) (gWe fi 4) r).2)]) ⟨hx, hb, hml, hown, hts⟩ (mX2_GOST28147_mainStep l D h0 v0 (.int (gBi true)) (gRun true K (gWe fi 0) (gWe fi 4) r).1 (K j) tS tR) (cwV 2 hts (lw_V q283 q285 qs5 q11 q286) rfl rfl rfl (by decide +kernel) ⟨Nat.le_of_ble_eq_true rfl, Nat.le_of_ble_eq_true rfl⟩) ⟨gPr_blind, va_recv hK hP (ci := 2) (q0 := 0) rfl rfl, gPr_of hPc hKc hZ hS⟩ rfl rfl hl.1 rfl (lv_room (Nat.le_of_ble_eq_true rfl)) dX2_GOST28147Func_57 ⟨Nat.le_of_ble_eq_true rfl, Nat.le_of_ble_eq_true rfl⟩)) (fun r_57 hr_57 => ?_)
          obtain rfl : r_57 = gMix (K j + (gRun true K (gWe fi 0) (gWe fi 4) r).1) := hr_57
          refine W.widen (k := 0) (n := 0) (Nat.le_of_ble_eq_true rfl) (Nat.le_of_ble_eq_true rfl) ?_
          refine lv_ixor hx hb dX2_GOST28147Func_60 ?_
          refine g_top ((gRun true K (gWe fi 0) (gWe fi 4) (r + 1)).1) (g_step (gSch_e1 er k0 hj)) ?_
          refine lv_istore (lv' := [(6, .int ((gRun true K (gWe fi 0) (gWe fi 4) (r + 1)).1)), (8, .int ((gRun true K (gWe fi 0) (gWe fi 4) r).1)), (0, .ref h0), (1, .ref q), (4, .ref o), (5, .int (nI 0)), (7, .int ((gRun true K (gWe fi 0) (gWe fi 4) r).2)), (9, .int (nI k)), (10, .int (nI j))]) hx hb dX2_GOST28147Func_61 hl (by decide) rfl (fun ls hl => ?_)
          refine lv_iload hx hb dX2_GOST28147Func_63 (lv_at hl 1 rfl) ?_
          refine g_top ((gRun true K (gWe fi 0) (gWe fi 4) (r + 1)).2) rfl ?_
          refine lv_istore (lv' := [(7, .int ((gRun true K (gWe fi 0) (gWe fi 4) (r + 1)).2)), (6, .int ((gRun true K (gWe fi 0) (gWe fi 4) (r + 1)).1)), (8, .int ((gRun true K (gWe fi 0) (gWe fi 4) r).1)), (0, .ref h0), (1, .ref q), (4, .ref o), (5, .int (nI 0)), (9, .int (nI k)), (10, .int (nI j))]) hx hb dX2_GOST28147Func_65 hl (by decide) rfl (fun ls hl => ?_)
          refine lv_iinc (v := (nI (j + 1))) (lv' := [(10, .int (nI (j + 1))), (7, .int ((gRun true K (gWe fi 0) (gWe fi 4) (r + 1)).2)), (6, .int ((gRun true K (gWe fi 0) (gWe fi 4) (r + 1)).1)), (8, .int ((gRun true K (gWe fi 0) (gWe fi 4) r).1)), (0, .ref h0), (1, .ref q), (4, .ref o), (5, .int (nI 0)), (9, .int (nI k))]) hx hb dX2_GOST28147Func_67 hl (k := 8) rfl (nI_1 j) (by decide) rfl (fun ls hl => ?_)
          refine lv_goto (tgt := 37) hx hb dX2_GOST28147Func_70 (by decide) ?_
          exact ih k (j + 1) (r + 1) k0 hj (by omega) (by omega) cont ls (lv_sub hl [4, 5, 6, 7, 2, 1, 8, 0] rfl)
    have down : ∀ (j r : Nat), j ≤ 7 → r + j = 31 → ∀ ls : Array Slot, lv_has ls 11 [(0, .ref h0), (1, .ref q), (4, .ref o), (5, .int (nI 0)), (6, .int ((gRun true K (gWe fi 0) (gWe fi 4) r).1)), (7, .int ((gRun true K (gWe fi 0) (gWe fi 4) r).2)), (9, .int (nI j))] → W p l e (headSpec (ws_ yX2_GOST28147Func cX2_GOST28147Func 11 none) ({ frames := 1, cells := 0, slots := 0, locals := 24 })).room s m ([.ref h0, .ref q, .ref a, .int (nI 0), .ref o, .int (nI 0)] : List Value).toArray below meth c s.heap [] 0 0 (MQ below (va_Qv (fun _ : Unit => True) (fun _ => gBw D A [(h0, .inr (2, [v0, .int (gBi true), .ref tS])), (q, .inl (cI, 8, .inl K)), (a, .inl (c1, 8, .inl fi)), (o, .inl (c2, 8, .inl (gPutE (gPutE fo 0 (gN1 true K (gWe fi 0) (gWe fi 4))) 4 (gN2 true K (gWe fi 0) (gWe fi 4)))))] [(cI, .int), (c1, .byte), (c2, .byte)]) A) ([.ref h0, .ref q, .ref a, .int (nI 0), .ref o, .int (nI 0)] : List Value).toArray s 0 0 A) (F0 m 83 ls []) := by
      intro j
      induction j with
      | zero =>
        intro r k1 er ls hl
        obtain rfl : r = 31 := by omega
        refine lv_iload hx hb dX2_GOST28147Func_83 (lv_at hl 6 rfl) ?_
        refine lv_if_le (tgt := 117) hx hb dX2_GOST28147Func_85 (by decide) (fun _ => ?_) (fun c => absurd (by decide) c)
        refine lv_goto (tgt := 226) hx hb dX2_GOST28147Func_117 (by decide) ?_
        exact fin ls (lv_sub hl [0, 1, 2, 3, 4, 5] rfl)
      | succ j ih =>
        intro r k1 er ls hl
        refine lv_iload hx hb dX2_GOST28147Func_83 (lv_at hl 6 rfl) ?_
        refine lv_if_le (tgt := 117) hx hb dX2_GOST28147Func_85 (by decide) (fun c => absurd c (nI_nle (n := j + 1) (by omega) (by omega))) (fun _ => ?_)
        refine lv_iload hx hb dX2_GOST28147Func_88 (lv_at hl 4 rfl) ?_
        refine lv_istore (lv' := [(8, .int ((gRun true K (gWe fi 0) (gWe fi 4) r).1)), (0, .ref h0), (1, .ref q), (4, .ref o), (5, .int (nI 0)), (6, .int ((gRun true K (gWe fi 0) (gWe fi 4) r).1)), (7, .int ((gRun true K (gWe fi 0) (gWe fi 4) r).2)), (9, .int (nI (j + 1)))]) hx hb dX2_GOST28147Func_90 hl (by decide) rfl (fun ls hl => ?_)
        refine lv_iload hx hb dX2_GOST28147Func_92 (lv_at hl 6 rfl) ?_
        refine lv_aload_n hx hb dX2_GOST28147Func_94 rfl (lv_at hl 1 rfl) ?_
        refine lv_iload hx hb dX2_GOST28147Func_95 (lv_at hl 5 rfl) ?_
        refine lv_aload_n hx hb dX2_GOST28147Func_97 rfl (lv_at hl 2 rfl) ?_
        refine lv_iload hx hb dX2_GOST28147Func_98 (lv_at hl 7 rfl) ?_
        refine g_iald hx hb hK hP 1 0 rfl rfl (j + 1) rfl (by omega) (by decide) dX2_GOST28147Func_100 ?_
        have hPc := hP.sub (ws' := [(h0, .inr (2, [v0, .int (gBi true), .ref tS]))]) [0] rfl
        have hKc := hK.sub (tys' := []) [] rfl
        refine vp_callSi (va_Run.run (va_runV (As := [.int ((gRun true K (gWe fi 0) (gWe fi 4) r).1), .int (K (j + 1))]) (rest := [.int ((gRun true K (gWe fi 0) (gWe fi 4) r).2)]) ⟨hx, hb, hml, hown, hts⟩ (mX2_GOST28147_mainStep l D h0 v0 (.int (gBi true)) (gRun true K (gWe fi 0) (gWe fi 4) r).1 (K (j + 1)) tS tR) (cwV 2 hts (lw_V q283 q285 qs5 q11 q286) rfl rfl rfl (by decide +kernel) ⟨Nat.le_of_ble_eq_true rfl, Nat.le_of_ble_eq_true rfl⟩) ⟨gPr_blind, va_recv hK hP (ci := 2) (q0 := 0) rfl rfl, gPr_of hPc hKc hZ hS⟩ rfl rfl hl.1 rfl (lv_room (Nat.le_of_ble_eq_true rfl)) dX2_GOST28147Func_101 ⟨Nat.le_of_ble_eq_true rfl, Nat.le_of_ble_eq_true rfl⟩)) (fun r_101 hr_101 => ?_)
        obtain rfl : r_101 = gMix (K (j + 1) + (gRun true K (gWe fi 0) (gWe fi 4) r).1) := hr_101
        refine W.widen (k := 0) (n := 0) (Nat.le_of_ble_eq_true rfl) (Nat.le_of_ble_eq_true rfl) ?_
        refine lv_ixor hx hb dX2_GOST28147Func_104 ?_
        refine g_top ((gRun true K (gWe fi 0) (gWe fi 4) (r + 1)).1) (g_step (gSch_e2 (by omega) (by omega))) ?_
        refine lv_istore (lv' := [(6, .int ((gRun true K (gWe fi 0) (gWe fi 4) (r + 1)).1)), (8, .int ((gRun true K (gWe fi 0) (gWe fi 4) r).1)), (0, .ref h0), (1, .ref q), (4, .ref o), (5, .int (nI 0)), (7, .int ((gRun true K (gWe fi 0) (gWe fi 4) r).2)), (9, .int (nI (j + 1)))]) hx hb dX2_GOST28147Func_105 hl (by decide) rfl (fun ls hl => ?_)
        refine lv_iload hx hb dX2_GOST28147Func_107 (lv_at hl 1 rfl) ?_
        refine g_top ((gRun true K (gWe fi 0) (gWe fi 4) (r + 1)).2) rfl ?_
        refine lv_istore (lv' := [(7, .int ((gRun true K (gWe fi 0) (gWe fi 4) (r + 1)).2)), (6, .int ((gRun true K (gWe fi 0) (gWe fi 4) (r + 1)).1)), (8, .int ((gRun true K (gWe fi 0) (gWe fi 4) r).1)), (0, .ref h0), (1, .ref q), (4, .ref o), (5, .int (nI 0)), (9, .int (nI (j + 1)))]) hx hb dX2_GOST28147Func_109 hl (by decide) rfl (fun ls hl => ?_)
        refine lv_iinc (v := (nI j)) (lv' := [(9, .int (nI j)), (7, .int ((gRun true K (gWe fi 0) (gWe fi 4) (r + 1)).2)), (6, .int ((gRun true K (gWe fi 0) (gWe fi 4) (r + 1)).1)), (8, .int ((gRun true K (gWe fi 0) (gWe fi 4) r).1)), (0, .ref h0), (1, .ref q), (4, .ref o), (5, .int (nI 0))]) hx hb dX2_GOST28147Func_111 hl (k := 7) rfl (pk_m1 j) (by decide) rfl (fun ls hl => ?_)
        refine lv_goto (tgt := 83) hx hb dX2_GOST28147Func_114 (by decide) ?_
        exact ih (r + 1) (by omega) (by omega) ls (lv_sub hl [4, 5, 6, 7, 2, 1, 0] rfl)
    have outer : ∀ (n k : Nat), k ≤ 3 → 4 ≤ k + n → ∀ ls : Array Slot, lv_has ls 11 [(0, .ref h0), (1, .ref q), (4, .ref o), (5, .int (nI 0)), (6, .int ((gRun true K (gWe fi 0) (gWe fi 4) (8 * k)).1)), (7, .int ((gRun true K (gWe fi 0) (gWe fi 4) (8 * k)).2)), (9, .int (nI k))] → W p l e (headSpec (ws_ yX2_GOST28147Func cX2_GOST28147Func 11 none) ({ frames := 1, cells := 0, slots := 0, locals := 24 })).room s m ([.ref h0, .ref q, .ref a, .int (nI 0), .ref o, .int (nI 0)] : List Value).toArray below meth c s.heap [] 0 0 (MQ below (va_Qv (fun _ : Unit => True) (fun _ => gBw D A [(h0, .inr (2, [v0, .int (gBi true), .ref tS])), (q, .inl (cI, 8, .inl K)), (a, .inl (c1, 8, .inl fi)), (o, .inl (c2, 8, .inl (gPutE (gPutE fo 0 (gN1 true K (gWe fi 0) (gWe fi 4))) 4 (gN2 true K (gWe fi 0) (gWe fi 4)))))] [(cI, .int), (c1, .byte), (c2, .byte)]) A) ([.ref h0, .ref q, .ref a, .int (nI 0), .ref o, .int (nI 0)] : List Value).toArray s 0 0 A) (F0 m 28 ls []) := by
      intro n
      induction n with
      | zero => intro k k1 k2; exact absurd k2 (by omega)
      | succ n ih =>
        intro k k1 k2 ls hl
        refine lv_iload hx hb dX2_GOST28147Func_28 (lv_at hl 6 rfl) ?_
        refine lv_iconst (v := 3) hx hb dX2_GOST28147Func_30 (by decide) ?_
        refine lv_icmp_ge (tgt := 79) hx hb dX2_GOST28147Func_31 (by decide) (fun c31 => ?_) (fun c31 => ?_)
        · obtain rfl : k = 3 := Nat.le_antisymm k1 ((nI_leI (a := 3) (b := k) (by omega) (by omega)).mp c31)
          refine lv_bipush (v := 7) hx hb dX2_GOST28147Func_79 (by decide) ?_
          refine g_top (nI 7) rfl ?_
          refine lv_istore (lv' := [(9, .int (nI 7)), (0, .ref h0), (1, .ref q), (4, .ref o), (5, .int (nI 0)), (6, .int ((gRun true K (gWe fi 0) (gWe fi 4) (8 * 3)).1)), (7, .int ((gRun true K (gWe fi 0) (gWe fi 4) (8 * 3)).2))]) hx hb dX2_GOST28147Func_81 hl (by decide) rfl (fun ls hl => ?_)
          exact down 7 (8 * 3) (by omega) (by omega) ls (lv_sub hl [1, 2, 3, 4, 5, 6, 0] rfl)
        · have hk : k < 3 := Nat.lt_of_not_le fun q => c31 (nI_le (a := 3) (b := k) q (by omega))
          refine lv_iconst (v := 0) hx hb dX2_GOST28147Func_34 (by decide) ?_
          refine g_top (nI 0) rfl ?_
          refine lv_istore (lv' := [(10, .int (nI 0)), (0, .ref h0), (1, .ref q), (4, .ref o), (5, .int (nI 0)), (6, .int ((gRun true K (gWe fi 0) (gWe fi 4) (8 * k)).1)), (7, .int ((gRun true K (gWe fi 0) (gWe fi 4) (8 * k)).2)), (9, .int (nI k))]) hx hb dX2_GOST28147Func_35 hl (by decide) rfl (fun ls hl => ?_)
          refine inner 9 k 0 (8 * k) hk (by omega) (by omega) (by omega) (fun ls hl => ?_) ls (lv_sub hl [1, 2, 3, 4, 5, 6, 7, 0] rfl)
          refine lv_iinc (v := (nI (k + 1))) (lv' := [(9, .int (nI (k + 1))), (0, .ref h0), (1, .ref q), (4, .ref o), (5, .int (nI 0)), (6, .int ((gRun true K (gWe fi 0) (gWe fi 4) (8 * (k + 1))).1)), (7, .int ((gRun true K (gWe fi 0) (gWe fi 4) (8 * (k + 1))).2))]) hx hb dX2_GOST28147Func_73 hl (k := 6) rfl (nI_1 k) (by decide) rfl (fun ls hl => ?_)
          refine lv_goto (tgt := 28) hx hb dX2_GOST28147Func_76 (by decide) ?_
          exact ih (k + 1) hk (by omega) ls (lv_sub hl [1, 2, 3, 4, 5, 6, 0] rfl)
    refine lv_iconst (v := 0) hx hb dX2_GOST28147Func_25 (by decide) ?_
    refine g_top (nI 0) rfl ?_
    refine lv_istore (lv' := [(9, .int (nI 0)), (7, .int (gWe fi 4)), (6, .int (gWe fi 0)), (0, .ref h0), (1, .ref q), (2, .ref a), (3, .int (nI 0)), (4, .ref o), (5, .int (nI 0))]) hx hb dX2_GOST28147Func_26 hl (by decide) rfl (fun ls hl => ?_)
    exact outer 4 0 (by omega) (by omega) ls (lv_sub hl [3, 4, 7, 8, 2, 1, 0] rfl)
set_option maxHeartbeats 4000000 in
set_option maxRecDepth 100000 in
/-- GOST28147Engine.processBlock -/
theorem mX2_processBlock (l : Launch) (D : va_G) (h0 q a o : Nat) (cI c1 c2 : ClassId) (K fi fo : Nat → Int32) (b : Bool) (sz tS tR : Nat) : Met l yX2_processBlock (ws_ yX2_processBlock cX2_processBlock 5 (some .int)) ({ frames := 2, cells := 0, slots := 0, locals := 54 }) (va_Pc [.ref h0, .ref a, .int (nI 0), .ref o, .int (nI 0)] (gPw D sz [(h0, .inr (2, [.ref q, .int (gBi b), .ref tS])), (q, .inl (cI, 8, .inl K)), (a, .inl (c1, 8, .inl fi)), (o, .inl (c2, 8, .inl fo))] [(cI, .int), (c1, .byte), (c2, .byte)] tS tR)) (va_Qi (fun (z : Int32) (_ : Unit) => z = 8) (fun _ => gBw D (va_A [(h0, .inr (2, [.ref q, .int (gBi b), .ref tS])), (q, .inl (cI, 8, .inl K)), (a, .inl (c1, 8, .inl fi)), (o, .inl (c2, 8, .inl fo))] sz) [(h0, .inr (2, [.ref q, .int (gBi b), .ref tS])), (q, .inl (cI, 8, .inl K)), (a, .inl (c1, 8, .inl fi)), (o, .inl (c2, 8, .inl (gPutE (gPutE fo 0 (gN1 b K (gWe fi 0) (gWe fi 4))) 4 (gN2 b K (gWe fi 0) (gWe fi 4)))))] [(cI, .int), (c1, .byte), (c2, .byte)]) (va_A [(h0, .inr (2, [.ref q, .int (gBi b), .ref tS])), (q, .inl (cI, 8, .inl K)), (a, .inl (c1, 8, .inl fi)), (o, .inl (c2, 8, .inl fo))] sz)) 0 0 (va_A [(h0, .inr (2, [.ref q, .int (gBi b), .ref tS])), (q, .inl (cI, 8, .inl K)), (a, .inl (c1, 8, .inl fi)), (o, .inl (c2, 8, .inl fo))] sz) := by
  refine gMetW (fun A => va_Qi (fun (z : Int32) (_ : Unit) => z = 8) (fun _ => gBw D A [(h0, .inr (2, [.ref q, .int (gBi b), .ref tS])), (q, .inl (cI, 8, .inl K)), (a, .inl (c1, 8, .inl fi)), (o, .inl (c2, 8, .inl (gPutE (gPutE fo 0 (gN1 b K (gWe fi 0) (gWe fi 4))) 4 (gN2 b K (gWe fi 0) (gWe fi 4)))))] [(cI, .int), (c1, .byte), (c2, .byte)]) A) (by decide) (Nat.le_of_ble_eq_true rfl) ?_
  intro p e s m below meth c A ls hx hb hr hts hown hlocks hin hml hAe hA hsz hP hK hD hZ hS hl
  have hl : lv_has ls 5 [(0, .ref h0), (1, .ref a), (2, .int (nI 0)), (3, .ref o), (4, .int (nI 0))] := hl
  refine lv_aload_n hx hb dX2_processBlock_0 rfl (lv_at hl 0 rfl) ?_
  refine va_get (D := D) (ci := 2) (v := .ref q) (C := RX2) (T := TX2) (N := 3) hx hb hts in_X2 hown hK hP 0 rfl rfl 0 (by decide) (hts _ q72) (fun _ h9 => h9) rfl dX2_processBlock_1 ?_
  refine lv_ifnonnull (tgt := 17) hx hb dX2_processBlock_4 (by decide) ?_
  refine lv_iload_n hx hb dX2_processBlock_17 rfl (lv_at hl 2 rfl) ?_
  refine lv_bipush (v := 8) hx hb dX2_processBlock_18 (by decide) ?_
  refine lv_iadd hx hb dX2_processBlock_20 ?_
  refine g_top (nI 8) (nI_add 0 8) ?_
  refine lv_aload_n hx hb dX2_processBlock_21 rfl (lv_at hl 1 rfl) ?_
  refine va_alen (v := 8) hx hb hK hP 2 1 rfl rfl rfl dX2_processBlock_22 ?_
  refine lv_icmp_le (tgt := 36) hx hb dX2_processBlock_23 (by decide) (fun _ => ?_) (fun c => absurd (show nI 8 ≤ 8 by decide +kernel) c)
  refine lv_iload hx hb dX2_processBlock_36 (lv_at hl 4 rfl) ?_
  refine lv_bipush (v := 8) hx hb dX2_processBlock_38 (by decide) ?_
  refine lv_iadd hx hb dX2_processBlock_40 ?_
  refine g_top (nI 8) (nI_add 0 8) ?_
  refine lv_aload_n hx hb dX2_processBlock_41 rfl (lv_at hl 3 rfl) ?_
  refine va_alen (v := 8) hx hb hK hP 3 2 rfl rfl rfl dX2_processBlock_42 ?_
  refine lv_icmp_le (tgt := 56) hx hb dX2_processBlock_43 (by decide) (fun _ => ?_) (fun c => absurd (show nI 8 ≤ 8 by decide +kernel) c)
  refine lv_aload_n hx hb dX2_processBlock_56 rfl (lv_at hl 0 rfl) ?_
  refine lv_aload_n hx hb dX2_processBlock_57 rfl (lv_at hl 0 rfl) ?_
  refine va_get (D := D) (ci := 2) (v := .ref q) (C := RX2) (T := TX2) (N := 3) hx hb hts in_X2 hown hK hP 0 rfl rfl 0 (by decide) (hts _ q72) (fun _ h9 => h9) rfl dX2_processBlock_58 ?_
  refine lv_aload_n hx hb dX2_processBlock_61 rfl (lv_at hl 1 rfl) ?_
  refine lv_iload_n hx hb dX2_processBlock_62 rfl (lv_at hl 2 rfl) ?_
  refine lv_aload_n hx hb dX2_processBlock_63 rfl (lv_at hl 3 rfl) ?_
  refine lv_iload hx hb dX2_processBlock_64 (lv_at hl 4 rfl) ?_
  have hPc := hP.sub (ws' := [(h0, .inr (2, [.ref q, .int (gBi b), .ref tS])), (q, .inl (cI, 8, .inl K)), (a, .inl (c1, 8, .inl fi)), (o, .inl (c2, 8, .inl fo))]) [0, 1, 2, 3] rfl
  have hDc := hD.sub (ws' := [(h0, .inr (2, [.ref q, .int (gBi b), .ref tS])), (q, .inl (cI, 8, .inl K)), (a, .inl (c1, 8, .inl fi)), (o, .inl (c2, 8, .inl fo))]) [0, 1, 2, 3] (by decide) rfl
  have hKc := hK.sub (tys' := [(cI, .int), (c1, .byte), (c2, .byte)]) [0, 1, 2] rfl
  have hFc := va_free (wc := [(h0, .inr (2, [.ref q, .int (gBi b), .ref tS])), (q, .inl (cI, 8, .inl K)), (a, .inl (c1, 8, .inl fi)), (o, .inl (c2, 8, .inl fo))]) hD hS hA [0, 1, 2, 3] rfl
  refine va_callv (va_runV (As := [.ref q, .ref a, .int (nI 0), .ref o, .int (nI 0)]) (rest := []) ⟨hx, hb, hml, hown, hts⟩ (mX2_GOST28147Func l D h0 q a o cI c1 c2 K fi fo b (.ref q) s.heap.size tS tR) (cwV 5 hts (lw_V q279 q281 qs4 q11 q282) rfl rfl rfl (by decide +kernel) ⟨Nat.le_of_ble_eq_true rfl, Nat.le_of_ble_eq_true rfl⟩) ⟨gPw_blind, va_recv hK hP (ci := 2) (q0 := 0) rfl rfl, gPw_of hPc hKc hDc hZ hS hFc⟩ rfl rfl hl.1 rfl (lv_room (Nat.le_of_ble_eq_true rfl)) dX2_processBlock_66 ⟨Nat.le_of_ble_eq_true rfl, Nat.le_of_ble_eq_true rfl⟩) hS (fun q _ h => hFc q h) hFc (fun u t H1 locs ht hvm hw hB hz1 hk1 hS => ?_)
  obtain ⟨hP1, hK1, hD1⟩ := hB
  rw [ht] at hP1
  have hK1 := va_K.moved hvm.symm hK1
  obtain ⟨hP, hD⟩ := va_join (wr := []) (w1 := [(h0, .inr (2, [.ref q, .int (gBi b), .ref tS])), (q, .inl (cI, 8, .inl K)), (a, .inl (c1, 8, .inl fi)), (o, .inl (c2, 8, .inl (gPutE (gPutE fo 0 (gN1 b K (gWe fi 0) (gWe fi 4))) 4 (gN2 b K (gWe fi 0) (gWe fi 4)))))]) hP hD [0, 1, 2, 3] [] rfl rfl (by decide) (by decide) hk1 hFc hP1 hD1
  have hK := (hK.sub (tys' := [(cI, .int), (c1, .byte), (c2, .byte)]) [0, 1, 2] rfl).app (hK1.sub (tys' := []) [] rfl)
  generalize H1 = H at hP hS ⊢
  have hP : va_P D vwCl [(h0, .inr (2, [.ref q, .int (gBi b), .ref tS])), (q, .inl (cI, 8, .inl K)), (a, .inl (c1, 8, .inl fi)), (o, .inl (c2, 8, .inl (gPutE (gPutE fo 0 (gN1 b K (gWe fi 0) (gWe fi 4))) 4 (gN2 b K (gWe fi 0) (gWe fi 4)))))] H := hP
  have hD : va_D A [(h0, .inr (2, [.ref q, .int (gBi b), .ref tS])), (q, .inl (cI, 8, .inl K)), (a, .inl (c1, 8, .inl fi)), (o, .inl (c2, 8, .inl (gPutE (gPutE fo 0 (gN1 b K (gWe fi 0) (gWe fi 4))) 4 (gN2 b K (gWe fi 0) (gWe fi 4)))))] := hD
  have hK : va_K D vwCl [(cI, .int), (c1, .byte), (c2, .byte)] s := hK
  refine W.widen (k := 0) (n := 0) (Nat.le_of_ble_eq_true rfl) (Nat.le_of_ble_eq_true rfl) ?_
  refine lv_bipush (v := 8) hx hb dX2_processBlock_69 (by decide) ?_
  exact W.iret hx hb hr (fun t ht hW => ⟨⟨8, (), rfl, rfl, by rw [ht]; exact hP, va_K.moved hW.alike hK, hD⟩, hS.F ht⟩) hS.2.2 dX2_processBlock_71 hlocks
end
section
/-! ===== GostDesk, method by method ===== -/
set_option maxHeartbeats 4000000 in
set_option maxRecDepth 100000 in
/-- GostDesk(): three arrays of zeros -/
theorem mX0_init (l : Launch) (D : va_G) (h0 : Nat) (sz tS tR : Nat) : Met l yX0_init (ws_ yX0_init cX0_init 1 none) ({ frames := 1, cells := 3, slots := 48, locals := 12 }) (va_Pc [.ref h0] (gPw D sz [(h0, .inr (0, [.null, .null, .null]))] [] tS tR)) (va_Qv (fun _ : Unit => True) (fun _ t => ∃ (h1 h2 h3 : Nat) (c1 c2 c3 : ClassId), gBw D (va_A [(h0, .inr (0, [.null, .null, .null]))] sz) [(h0, .inr (0, [.ref h1, .ref h2, .ref h3])), (h1, .inl (c1, 32, .inl (fun _ => 0))), (h2, .inl (c2, 8, .inl (fun _ => 0))), (h3, .inl (c3, 8, .inl (fun _ => 0)))] [(c1, .byte), (c2, .byte), (c3, .byte)] t) (va_A [(h0, .inr (0, [.null, .null, .null]))] sz)) 3 48 (va_A [(h0, .inr (0, [.null, .null, .null]))] sz) := by
  refine gMetW (fun A => va_Qv (fun _ : Unit => True) (fun _ t => ∃ (h1 h2 h3 : Nat) (c1 c2 c3 : ClassId), gBw D A [(h0, .inr (0, [.ref h1, .ref h2, .ref h3])), (h1, .inl (c1, 32, .inl (fun _ => 0))), (h2, .inl (c2, 8, .inl (fun _ => 0))), (h3, .inl (c3, 8, .inl (fun _ => 0)))] [(c1, .byte), (c2, .byte), (c3, .byte)] t) A) (by decide) (Nat.le_of_ble_eq_true rfl) ?_
  intro p e s m below meth c A ls hx hb hr hts hown hlocks hin hml hAe hA hsz hP hK hD hZ hS hl
  have hl : lv_has ls 1 [(0, .ref h0)] := hl
  refine lv_aload_n hx hb dX0_init_0 rfl (lv_at hl 0 rfl) ?_
  refine W.objInit hx hb hown (hts _ q28) (hts _ q29) (hts _ q30) rfl (by rw [hml]; exact hl.1) rfl dX0_init_1 (Nat.le_of_ble_eq_true rfl) (Nat.le_of_ble_eq_true rfl) ?_
  refine W.eq (g2 := F0 m 4 ls []) rfl ?_
  refine lv_aload_n hx hb dX0_init_4 rfl (lv_at hl 0 rfl) ?_
  refine lv_bipush (v := 32) hx hb dX0_init_5 (by decide) ?_
  refine va_newa (atype := .byte) (ty := .byte) (N' := 32) (a0 := (32, .inl (fun _ => 0))) hx hb (hts _ q41) rfl hK hP hD hS hA (fun _ => rfl) (by decide) rfl (Nat.le_of_ble_eq_true rfl) (Nat.le_of_ble_eq_true rfl) (Nat.le_of_ble_eq_true rfl) dX0_init_7 (fun h1 c1 H hK hP hD hS => ?_)
  have hP : va_P D vwCl [(h0, .inr (0, [.null, .null, .null])), (h1, .inl (c1, 32, .inl (fun _ => 0)))] H := hP
  have hD : va_D A [(h0, .inr (0, [.null, .null, .null])), (h1, .inl (c1, 32, .inl (fun _ => 0)))] := hD
  have hK : va_K D vwCl [(c1, .byte)] s := hK
  refine W.widen (k := 1) (n := 32) (Nat.le_of_ble_eq_true rfl) (Nat.le_of_ble_eq_true rfl) ?_
  refine va_putF (D := D) (ci := 0) (v := .ref h1) (ty := .array .byte) (C := RX0) (T := TX0) (N := 3) hx hb hts in_X0 tyX0 tyX0_ok nmX0 hown hK hP hD hS 0 rfl rfl 0 (by decide) (hts _ q31) (fun _ h9 => h9) rfl hin rfl (by decide +kernel) rfl rfl (Nat.le_of_ble_eq_true rfl) dX0_init_9 (fun H locs hP hD hS => ?_)
  have hP : va_P D vwCl [(h0, .inr (0, [.ref h1, .null, .null])), (h1, .inl (c1, 32, .inl (fun _ => 0)))] H := hP
  have hD : va_D A [(h0, .inr (0, [.ref h1, .null, .null])), (h1, .inl (c1, 32, .inl (fun _ => 0)))] := hD
  refine lv_aload_n hx hb dX0_init_12 rfl (lv_at hl 0 rfl) ?_
  refine lv_bipush (v := 8) hx hb dX0_init_13 (by decide) ?_
  refine va_newa (atype := .byte) (ty := .byte) (N' := 8) (a0 := (8, .inl (fun _ => 0))) hx hb (hts _ q41) rfl hK hP hD hS hA (fun _ => rfl) (by decide) rfl (Nat.le_of_ble_eq_true rfl) (Nat.le_of_ble_eq_true rfl) (Nat.le_of_ble_eq_true rfl) dX0_init_15 (fun h2 c2 H hK hP hD hS => ?_)
  have hP : va_P D vwCl [(h0, .inr (0, [.ref h1, .null, .null])), (h1, .inl (c1, 32, .inl (fun _ => 0))), (h2, .inl (c2, 8, .inl (fun _ => 0)))] H := hP
  have hD : va_D A [(h0, .inr (0, [.ref h1, .null, .null])), (h1, .inl (c1, 32, .inl (fun _ => 0))), (h2, .inl (c2, 8, .inl (fun _ => 0)))] := hD
  have hK : va_K D vwCl [(c1, .byte), (c2, .byte)] s := hK
  refine W.widen (k := 2) (n := 40) (Nat.le_of_ble_eq_true rfl) (Nat.le_of_ble_eq_true rfl) ?_
  refine va_putF (D := D) (ci := 0) (v := .ref h2) (ty := .array .byte) (C := RX0) (T := TX0) (N := 3) hx hb hts in_X0 tyX0 tyX0_ok nmX0 hown hK hP hD hS 0 rfl rfl 1 (by decide) (hts _ q32) (fun _ h9 => h9) rfl hin rfl (by decide +kernel) rfl rfl (Nat.le_of_ble_eq_true rfl) dX0_init_17 (fun H locs hP hD hS => ?_)
  have hP : va_P D vwCl [(h0, .inr (0, [.ref h1, .ref h2, .null])), (h1, .inl (c1, 32, .inl (fun _ => 0))), (h2, .inl (c2, 8, .inl (fun _ => 0)))] H := hP
  have hD : va_D A [(h0, .inr (0, [.ref h1, .ref h2, .null])), (h1, .inl (c1, 32, .inl (fun _ => 0))), (h2, .inl (c2, 8, .inl (fun _ => 0)))] := hD
  refine lv_aload_n hx hb dX0_init_20 rfl (lv_at hl 0 rfl) ?_
  refine lv_bipush (v := 8) hx hb dX0_init_21 (by decide) ?_
  refine va_newa (atype := .byte) (ty := .byte) (N' := 8) (a0 := (8, .inl (fun _ => 0))) hx hb (hts _ q41) rfl hK hP hD hS hA (fun _ => rfl) (by decide) rfl (Nat.le_of_ble_eq_true rfl) (Nat.le_of_ble_eq_true rfl) (Nat.le_of_ble_eq_true rfl) dX0_init_23 (fun h3 c3 H hK hP hD hS => ?_)
  have hP : va_P D vwCl [(h0, .inr (0, [.ref h1, .ref h2, .null])), (h1, .inl (c1, 32, .inl (fun _ => 0))), (h2, .inl (c2, 8, .inl (fun _ => 0))), (h3, .inl (c3, 8, .inl (fun _ => 0)))] H := hP
  have hD : va_D A [(h0, .inr (0, [.ref h1, .ref h2, .null])), (h1, .inl (c1, 32, .inl (fun _ => 0))), (h2, .inl (c2, 8, .inl (fun _ => 0))), (h3, .inl (c3, 8, .inl (fun _ => 0)))] := hD
  have hK : va_K D vwCl [(c1, .byte), (c2, .byte), (c3, .byte)] s := hK
  refine W.widen (k := 3) (n := 48) (Nat.le_of_ble_eq_true rfl) (Nat.le_of_ble_eq_true rfl) ?_
  refine va_putF (D := D) (ci := 0) (v := .ref h3) (ty := .array .byte) (C := RX0) (T := TX0) (N := 3) hx hb hts in_X0 tyX0 tyX0_ok nmX0 hown hK hP hD hS 0 rfl rfl 2 (by decide) (hts _ q33) (fun _ h9 => h9) rfl hin rfl (by decide +kernel) rfl rfl (Nat.le_of_ble_eq_true rfl) dX0_init_25 (fun H locs hP hD hS => ?_)
  have hP : va_P D vwCl [(h0, .inr (0, [.ref h1, .ref h2, .ref h3])), (h1, .inl (c1, 32, .inl (fun _ => 0))), (h2, .inl (c2, 8, .inl (fun _ => 0))), (h3, .inl (c3, 8, .inl (fun _ => 0)))] H := hP
  have hD : va_D A [(h0, .inr (0, [.ref h1, .ref h2, .ref h3])), (h1, .inl (c1, 32, .inl (fun _ => 0))), (h2, .inl (c2, 8, .inl (fun _ => 0))), (h3, .inl (c3, 8, .inl (fun _ => 0)))] := hD
  exact W.vret hx hb hr (fun t ht hW => ⟨⟨(), rfl, trivial, h1, h2, h3, c1, c2, c3, by rw [ht]; exact hP, va_K.moved hW.alike hK, hD⟩, hS.F ht⟩) hS.2.2 dX0_init_28 hlocks
set_option maxHeartbeats 4000000 in
set_option maxRecDepth 100000 in
/-- GostDesk.word: four bytes, the highest first -/
theorem mX0_word (l : Launch) (D : va_G) (a : Nat) (c1 : ClassId) (n : Nat) (f : Nat → Int32) (i : Nat) (w : Int32) (sz tS tR : Nat) (hi : i + 3 < n) (hn : n < 2 ^ 31) : Met l yX0_word (ws_ yX0_word cX0_word 3 none) ({ frames := 0, cells := 0, slots := 0, locals := 0 }) (va_Pc [.ref a, .int (nI i), .int w] (gPw D sz [(a, .inl (c1, n, .inl f))] [(c1, .byte)] tS tR)) (va_Qv (fun _ : Unit => True) (fun _ => gBw D (va_A [(a, .inl (c1, n, .inl f))] sz) [(a, .inl (c1, n, .inl (gPut f i w)))] [(c1, .byte)]) (va_A [(a, .inl (c1, n, .inl f))] sz)) 0 0 (va_A [(a, .inl (c1, n, .inl f))] sz) := by
  refine gMetW (fun A => va_Qv (fun _ : Unit => True) (fun _ => gBw D A [(a, .inl (c1, n, .inl (gPut f i w)))] [(c1, .byte)]) A) (by decide) (Nat.le_of_ble_eq_true rfl) ?_
  intro p e s m below meth c A ls hx hb hr hts hown hlocks hin hml hAe hA hsz hP hK hD hZ hS hl
  have hl : lv_has ls 3 [(0, .ref a), (1, .int (nI i)), (2, .int w)] := hl
  refine lv_aload_n hx hb dX0_word_0 rfl (lv_at hl 0 rfl) ?_
  refine lv_iload_n hx hb dX0_word_1 rfl (lv_at hl 1 rfl) ?_
  refine lv_iload_n hx hb dX0_word_2 rfl (lv_at hl 2 rfl) ?_
  refine lv_bipush (v := 24) hx hb dX0_word_3 (by decide) ?_
  refine lv_ishr hx hb dX0_word_5 ?_
  refine lv_i2b hx hb dX0_word_6 rfl ?_
  refine g_bast (g := upd f i (gB8 (w >>> ((24 : Int32) &&& 31)).toInt8.toInt32)) hx hb hK hP hD hS 0 0 rfl rfl (i) rfl (by omega) hn rfl dX0_word_7 (fun H locs hP hD hS => ?_)
  have hP : va_P D vwCl [(a, .inl (c1, n, .inl (upd f i (gB8 (w >>> ((24 : Int32) &&& 31)).toInt8.toInt32))))] H := hP
  have hD : va_D A [(a, .inl (c1, n, .inl (upd f i (gB8 (w >>> ((24 : Int32) &&& 31)).toInt8.toInt32))))] := hD
  refine lv_aload_n hx hb dX0_word_8 rfl (lv_at hl 0 rfl) ?_
  refine lv_iload_n hx hb dX0_word_9 rfl (lv_at hl 1 rfl) ?_
  refine lv_iconst (v := 1) hx hb dX0_word_10 (by decide) ?_
  refine lv_iadd hx hb dX0_word_11 ?_
  refine lv_iload_n hx hb dX0_word_12 rfl (lv_at hl 2 rfl) ?_
  refine lv_bipush (v := 16) hx hb dX0_word_13 (by decide) ?_
  refine lv_ishr hx hb dX0_word_15 ?_
  refine lv_i2b hx hb dX0_word_16 rfl ?_
  refine g_bast (g := upd (upd f i (gB8 (w >>> ((24 : Int32) &&& 31)).toInt8.toInt32)) (i + 1) (gB8 (w >>> ((16 : Int32) &&& 31)).toInt8.toInt32)) hx hb hK hP hD hS 0 0 rfl rfl (i + 1) (nI_1 i) (by omega) hn rfl dX0_word_17 (fun H locs hP hD hS => ?_)
  have hP : va_P D vwCl [(a, .inl (c1, n, .inl (upd (upd f i (gB8 (w >>> ((24 : Int32) &&& 31)).toInt8.toInt32)) (i + 1) (gB8 (w >>> ((16 : Int32) &&& 31)).toInt8.toInt32))))] H := hP
  have hD : va_D A [(a, .inl (c1, n, .inl (upd (upd f i (gB8 (w >>> ((24 : Int32) &&& 31)).toInt8.toInt32)) (i + 1) (gB8 (w >>> ((16 : Int32) &&& 31)).toInt8.toInt32))))] := hD
  refine lv_aload_n hx hb dX0_word_18 rfl (lv_at hl 0 rfl) ?_
  refine lv_iload_n hx hb dX0_word_19 rfl (lv_at hl 1 rfl) ?_
  refine lv_iconst (v := 2) hx hb dX0_word_20 (by decide) ?_
  refine lv_iadd hx hb dX0_word_21 ?_
  refine lv_iload_n hx hb dX0_word_22 rfl (lv_at hl 2 rfl) ?_
  refine lv_bipush (v := 8) hx hb dX0_word_23 (by decide) ?_
  refine lv_ishr hx hb dX0_word_25 ?_
  refine lv_i2b hx hb dX0_word_26 rfl ?_
  refine g_bast (g := upd (upd (upd f i (gB8 (w >>> ((24 : Int32) &&& 31)).toInt8.toInt32)) (i + 1) (gB8 (w >>> ((16 : Int32) &&& 31)).toInt8.toInt32)) (i + 2) (gB8 (w >>> ((8 : Int32) &&& 31)).toInt8.toInt32)) hx hb hK hP hD hS 0 0 rfl rfl (i + 2) (nI_add i 2) (by omega) hn rfl dX0_word_27 (fun H locs hP hD hS => ?_)
  have hP : va_P D vwCl [(a, .inl (c1, n, .inl (upd (upd (upd f i (gB8 (w >>> ((24 : Int32) &&& 31)).toInt8.toInt32)) (i + 1) (gB8 (w >>> ((16 : Int32) &&& 31)).toInt8.toInt32)) (i + 2) (gB8 (w >>> ((8 : Int32) &&& 31)).toInt8.toInt32))))] H := hP
  have hD : va_D A [(a, .inl (c1, n, .inl (upd (upd (upd f i (gB8 (w >>> ((24 : Int32) &&& 31)).toInt8.toInt32)) (i + 1) (gB8 (w >>> ((16 : Int32) &&& 31)).toInt8.toInt32)) (i + 2) (gB8 (w >>> ((8 : Int32) &&& 31)).toInt8.toInt32))))] := hD
  refine lv_aload_n hx hb dX0_word_28 rfl (lv_at hl 0 rfl) ?_
  refine lv_iload_n hx hb dX0_word_29 rfl (lv_at hl 1 rfl) ?_
  refine lv_iconst (v := 3) hx hb dX0_word_30 (by decide) ?_
  refine lv_iadd hx hb dX0_word_31 ?_
  refine lv_iload_n hx hb dX0_word_32 rfl (lv_at hl 2 rfl) ?_
  refine lv_i2b hx hb dX0_word_33 rfl ?_
  refine g_bast (g := gPut f i w) hx hb hK hP hD hS 0 0 rfl rfl (i + 3) (nI_add i 3) (by omega) hn rfl dX0_word_34 (fun H locs hP hD hS => ?_)
  have hP : va_P D vwCl [(a, .inl (c1, n, .inl (gPut f i w)))] H := hP
  have hD : va_D A [(a, .inl (c1, n, .inl (gPut f i w)))] := hD
  exact g_vret hx hb hr hP hK hD hS hlocks dX0_word_35
set_option maxHeartbeats 4000000 in
set_option maxRecDepth 100000 in
/-- GostDesk.size -/
theorem mX0_size (l : Launch) (D : va_G) (p1 : Int32) (tS tR : Nat) : Met l yX0_size (ws_ yX0_size cX0_size 1 (some .int)) ({ frames := 0, cells := 0, slots := 0, locals := 0 }) (va_Pc [.int p1] (gPr D [] [] tS tR)) (vp_Si (fun z => z = 32)) 0 0 (fun _ => False) := by
  refine gMetR (vp_Si (fun z => z = 32)) (by decide) (Nat.le_of_ble_eq_true rfl) ?_
  intro p e s m below meth c ls hx hb hr hts hown hlocks hml hP hK hZ hS hl
  have hl : lv_has ls 1 [(0, .int p1)] := hl
  refine lv_bipush (v := 32) hx hb dX0_size_0 (by decide) ?_
  exact g_iret hx hb hr rfl hlocks dX0_size_2
set_option maxHeartbeats 4000000 in
set_option maxRecDepth 100000 in
/-- GostDesk.key -/
theorem mX0_key (l : Launch) (D : va_G) (h0 h1 h2 h3 : Nat) (c1 c2 c3 : ClassId) (kf bf of : Nat → Int32) (p1 p2 p3 p4 p5 : Int32) (sz tS tR : Nat) : Met l yX0_key (ws_ yX0_key cX0_key 7 none) ({ frames := 1, cells := 0, slots := 0, locals := 22 }) (va_Pc [.ref h0, .int p1, .int p2, .int p3, .int p4, .int p5] (gPw D sz [(h0, .inr (0, [.ref h1, .ref h2, .ref h3])), (h1, .inl (c1, 32, .inl kf)), (h2, .inl (c2, 8, .inl bf)), (h3, .inl (c3, 8, .inl of))] [(c1, .byte), (c2, .byte), (c3, .byte)] tS tR)) (va_Qv (fun _ : Unit => True) (fun _ => gBw D (va_A [(h0, .inr (0, [.ref h1, .ref h2, .ref h3])), (h1, .inl (c1, 32, .inl kf)), (h2, .inl (c2, 8, .inl bf)), (h3, .inl (c3, 8, .inl of))] sz) [(h0, .inr (0, [.ref h1, .ref h2, .ref h3])), (h1, .inl (c1, 32, .inl (gPut4 kf (16 * gHalf p1) p2 p3 p4 p5))), (h2, .inl (c2, 8, .inl bf)), (h3, .inl (c3, 8, .inl of))] [(c1, .byte), (c2, .byte), (c3, .byte)]) (va_A [(h0, .inr (0, [.ref h1, .ref h2, .ref h3])), (h1, .inl (c1, 32, .inl kf)), (h2, .inl (c2, 8, .inl bf)), (h3, .inl (c3, 8, .inl of))] sz)) 0 0 (va_A [(h0, .inr (0, [.ref h1, .ref h2, .ref h3])), (h1, .inl (c1, 32, .inl kf)), (h2, .inl (c2, 8, .inl bf)), (h3, .inl (c3, 8, .inl of))] sz) := by
  refine gMetW (fun A => va_Qv (fun _ : Unit => True) (fun _ => gBw D A [(h0, .inr (0, [.ref h1, .ref h2, .ref h3])), (h1, .inl (c1, 32, .inl (gPut4 kf (16 * gHalf p1) p2 p3 p4 p5))), (h2, .inl (c2, 8, .inl bf)), (h3, .inl (c3, 8, .inl of))] [(c1, .byte), (c2, .byte), (c3, .byte)]) A) (by decide) (Nat.le_of_ble_eq_true rfl) ?_
  intro p e s m below meth c A ls hx hb hr hts hown hlocks hin hml hAe hA hsz hP hK hD hZ hS hl
  have hl : lv_has ls 7 [(0, .ref h0), (1, .int p1), (2, .int p2), (3, .int p3), (4, .int p4), (5, .int p5)] := hl
  refine lv_iload_n hx hb dX0_key_0 rfl (lv_at hl 1 rfl) ?_
  refine lv_iconst (v := 1) hx hb dX0_key_1 (by decide) ?_
  refine lv_iand hx hb dX0_key_2 ?_
  refine lv_iconst (v := 4) hx hb dX0_key_3 (by decide) ?_
  refine lv_ishl hx hb dX0_key_4 ?_
  refine g_top (nI (16 * gHalf p1)) (g_at p1) ?_
  refine lv_istore (lv' := [(6, .int (nI (16 * gHalf p1))), (0, .ref h0), (1, .int p1), (2, .int p2), (3, .int p3), (4, .int p4), (5, .int p5)]) hx hb dX0_key_5 hl (by decide) rfl (fun ls hl => ?_)
  refine lv_aload_n hx hb dX0_key_7 rfl (lv_at hl 1 rfl) ?_
  refine va_get (D := D) (ci := 0) (v := .ref h1) (C := RX0) (T := TX0) (N := 3) hx hb hts in_X0 hown hK hP 0 rfl rfl 0 (by decide) (hts _ q31) (fun _ h9 => h9) rfl dX0_key_8 ?_
  refine lv_iload hx hb dX0_key_11 (lv_at hl 0 rfl) ?_
  refine lv_iload_n hx hb dX0_key_13 rfl (lv_at hl 3 rfl) ?_
  have hPc := hP.sub (ws' := [(h1, .inl (c1, 32, .inl kf))]) [1] rfl
  have hDc := hD.sub (ws' := [(h1, .inl (c1, 32, .inl kf))]) [1] (by decide) rfl
  have hKc := hK.sub (tys' := [(c1, .byte)]) [0] rfl
  have hFc := va_free (wc := [(h1, .inl (c1, 32, .inl kf))]) hD hS hA [1] rfl
  refine va_callv (va_runS (As := [.ref h1, .int (nI (16 * gHalf p1)), .int p2]) (rest := []) ⟨hx, hb, hml, hown, hts⟩ (mX0_word l D h1 c1 32 (kf) (16 * gHalf p1) p2 s.heap.size tS tR (by have := gHalf_lt p1; omega) (by decide)) (va_cwS 3 hts (lw_S q46 q47 q9 q48) rfl rfl rfl (by decide +kernel) ⟨Nat.le_of_ble_eq_true rfl, Nat.le_of_ble_eq_true rfl⟩) ⟨gPw_blind, gPw_of hPc hKc hDc hZ hS hFc⟩ rfl rfl hl.1 rfl (lv_room (Nat.le_of_ble_eq_true rfl)) dX0_key_14 ⟨Nat.le_of_ble_eq_true rfl, Nat.le_of_ble_eq_true rfl⟩) hS (fun q _ h => hFc q h) hFc (fun u t H1 locs ht hvm hw hB hz1 hk1 hS => ?_)
  obtain ⟨hP1, hK1, hD1⟩ := hB
  rw [ht] at hP1
  have hK1 := va_K.moved hvm.symm hK1
  obtain ⟨hP, hD⟩ := va_join (wr := [(h0, .inr (0, [.ref h1, .ref h2, .ref h3])), (h2, .inl (c2, 8, .inl bf)), (h3, .inl (c3, 8, .inl of))]) (w1 := [(h1, .inl (c1, 32, .inl (gPut (kf) (16 * gHalf p1) p2)))]) hP hD [1] [0, 2, 3] rfl rfl (by decide) (by decide) hk1 hFc hP1 hD1
  have hK := (hK.sub (tys' := [(c1, .byte), (c2, .byte), (c3, .byte)]) [0, 1, 2] rfl).app (hK1.sub (tys' := []) [] rfl)
  generalize H1 = H at hP hS ⊢
  have hP : va_P D vwCl [(h0, .inr (0, [.ref h1, .ref h2, .ref h3])), (h2, .inl (c2, 8, .inl bf)), (h3, .inl (c3, 8, .inl of)), (h1, .inl (c1, 32, .inl (gPut (kf) (16 * gHalf p1) p2)))] H := hP
  have hD : va_D A [(h0, .inr (0, [.ref h1, .ref h2, .ref h3])), (h2, .inl (c2, 8, .inl bf)), (h3, .inl (c3, 8, .inl of)), (h1, .inl (c1, 32, .inl (gPut (kf) (16 * gHalf p1) p2)))] := hD
  have hK : va_K D vwCl [(c1, .byte), (c2, .byte), (c3, .byte)] s := hK
  refine W.widen (k := 0) (n := 0) (Nat.le_of_ble_eq_true rfl) (Nat.le_of_ble_eq_true rfl) ?_
  refine lv_aload_n hx hb dX0_key_17 rfl (lv_at hl 1 rfl) ?_
  refine va_get (D := D) (ci := 0) (v := .ref h1) (C := RX0) (T := TX0) (N := 3) hx hb hts in_X0 hown hK hP 0 rfl rfl 0 (by decide) (hts _ q31) (fun _ h9 => h9) rfl dX0_key_18 ?_
  refine lv_iload hx hb dX0_key_21 (lv_at hl 0 rfl) ?_
  refine lv_iconst (v := 4) hx hb dX0_key_23 (by decide) ?_
  refine lv_iadd hx hb dX0_key_24 ?_
  refine g_top (nI (16 * gHalf p1 + 4)) (nI_add _ 4) ?_
  refine lv_iload_n hx hb dX0_key_25 rfl (lv_at hl 4 rfl) ?_
  have hPc := hP.sub (ws' := [(h1, .inl (c1, 32, .inl (gPut (kf) (16 * gHalf p1) p2)))]) [3] rfl
  have hDc := hD.sub (ws' := [(h1, .inl (c1, 32, .inl (gPut (kf) (16 * gHalf p1) p2)))]) [3] (by decide) rfl
  have hKc := hK.sub (tys' := [(c1, .byte)]) [0] rfl
  have hFc := va_free (wc := [(h1, .inl (c1, 32, .inl (gPut (kf) (16 * gHalf p1) p2)))]) hD hS hA [3] rfl
  refine va_callv (va_runS (As := [.ref h1, .int (nI (16 * gHalf p1 + 4)), .int p3]) (rest := []) ⟨hx, hb, hml, hown, hts⟩ (mX0_word l D h1 c1 32 (gPut (kf) (16 * gHalf p1) p2) (16 * gHalf p1 + 4) p3 H.size tS tR (by have := gHalf_lt p1; omega) (by decide)) (va_cwS 3 hts (lw_S q46 q47 q9 q48) rfl rfl rfl (by decide +kernel) ⟨Nat.le_of_ble_eq_true rfl, Nat.le_of_ble_eq_true rfl⟩) ⟨gPw_blind, gPw_of hPc hKc hDc hZ hS hFc⟩ rfl rfl hl.1 rfl (lv_room (Nat.le_of_ble_eq_true rfl)) dX0_key_26 ⟨Nat.le_of_ble_eq_true rfl, Nat.le_of_ble_eq_true rfl⟩) hS (fun q _ h => hFc q h) hFc (fun u t H1 locs ht hvm hw hB hz1 hk1 hS => ?_)
  obtain ⟨hP1, hK1, hD1⟩ := hB
  rw [ht] at hP1
  have hK1 := va_K.moved hvm.symm hK1
  obtain ⟨hP, hD⟩ := va_join (wr := [(h0, .inr (0, [.ref h1, .ref h2, .ref h3])), (h2, .inl (c2, 8, .inl bf)), (h3, .inl (c3, 8, .inl of))]) (w1 := [(h1, .inl (c1, 32, .inl (gPut (gPut (kf) (16 * gHalf p1) p2) (16 * gHalf p1 + 4) p3)))]) hP hD [3] [0, 1, 2] rfl rfl (by decide) (by decide) hk1 hFc hP1 hD1
  have hK := (hK.sub (tys' := [(c1, .byte), (c2, .byte), (c3, .byte)]) [0, 1, 2] rfl).app (hK1.sub (tys' := []) [] rfl)
  generalize H1 = H at hP hS ⊢
  have hP : va_P D vwCl [(h0, .inr (0, [.ref h1, .ref h2, .ref h3])), (h2, .inl (c2, 8, .inl bf)), (h3, .inl (c3, 8, .inl of)), (h1, .inl (c1, 32, .inl (gPut (gPut (kf) (16 * gHalf p1) p2) (16 * gHalf p1 + 4) p3)))] H := hP
  have hD : va_D A [(h0, .inr (0, [.ref h1, .ref h2, .ref h3])), (h2, .inl (c2, 8, .inl bf)), (h3, .inl (c3, 8, .inl of)), (h1, .inl (c1, 32, .inl (gPut (gPut (kf) (16 * gHalf p1) p2) (16 * gHalf p1 + 4) p3)))] := hD
  have hK : va_K D vwCl [(c1, .byte), (c2, .byte), (c3, .byte)] s := hK
  refine W.widen (k := 0) (n := 0) (Nat.le_of_ble_eq_true rfl) (Nat.le_of_ble_eq_true rfl) ?_
  refine lv_aload_n hx hb dX0_key_29 rfl (lv_at hl 1 rfl) ?_
  refine va_get (D := D) (ci := 0) (v := .ref h1) (C := RX0) (T := TX0) (N := 3) hx hb hts in_X0 hown hK hP 0 rfl rfl 0 (by decide) (hts _ q31) (fun _ h9 => h9) rfl dX0_key_30 ?_
  refine lv_iload hx hb dX0_key_33 (lv_at hl 0 rfl) ?_
  refine lv_bipush (v := 8) hx hb dX0_key_35 (by decide) ?_
  refine lv_iadd hx hb dX0_key_37 ?_
  refine g_top (nI (16 * gHalf p1 + 8)) (nI_add _ 8) ?_
  refine lv_iload hx hb dX0_key_38 (lv_at hl 5 rfl) ?_
  have hPc := hP.sub (ws' := [(h1, .inl (c1, 32, .inl (gPut (gPut (kf) (16 * gHalf p1) p2) (16 * gHalf p1 + 4) p3)))]) [3] rfl
  have hDc := hD.sub (ws' := [(h1, .inl (c1, 32, .inl (gPut (gPut (kf) (16 * gHalf p1) p2) (16 * gHalf p1 + 4) p3)))]) [3] (by decide) rfl
  have hKc := hK.sub (tys' := [(c1, .byte)]) [0] rfl
  have hFc := va_free (wc := [(h1, .inl (c1, 32, .inl (gPut (gPut (kf) (16 * gHalf p1) p2) (16 * gHalf p1 + 4) p3)))]) hD hS hA [3] rfl
  refine va_callv (va_runS (As := [.ref h1, .int (nI (16 * gHalf p1 + 8)), .int p4]) (rest := []) ⟨hx, hb, hml, hown, hts⟩ (mX0_word l D h1 c1 32 (gPut (gPut (kf) (16 * gHalf p1) p2) (16 * gHalf p1 + 4) p3) (16 * gHalf p1 + 8) p4 H.size tS tR (by have := gHalf_lt p1; omega) (by decide)) (va_cwS 3 hts (lw_S q46 q47 q9 q48) rfl rfl rfl (by decide +kernel) ⟨Nat.le_of_ble_eq_true rfl, Nat.le_of_ble_eq_true rfl⟩) ⟨gPw_blind, gPw_of hPc hKc hDc hZ hS hFc⟩ rfl rfl hl.1 rfl (lv_room (Nat.le_of_ble_eq_true rfl)) dX0_key_40 ⟨Nat.le_of_ble_eq_true rfl, Nat.le_of_ble_eq_true rfl⟩) hS (fun q _ h => hFc q h) hFc (fun u t H1 locs ht hvm hw hB hz1 hk1 hS => ?_)
  obtain ⟨hP1, hK1, hD1⟩ := hB
  rw [ht] at hP1
  have hK1 := va_K.moved hvm.symm hK1
  obtain ⟨hP, hD⟩ := va_join (wr := [(h0, .inr (0, [.ref h1, .ref h2, .ref h3])), (h2, .inl (c2, 8, .inl bf)), (h3, .inl (c3, 8, .inl of))]) (w1 := [(h1, .inl (c1, 32, .inl (gPut (gPut (gPut (kf) (16 * gHalf p1) p2) (16 * gHalf p1 + 4) p3) (16 * gHalf p1 + 8) p4)))]) hP hD [3] [0, 1, 2] rfl rfl (by decide) (by decide) hk1 hFc hP1 hD1
  have hK := (hK.sub (tys' := [(c1, .byte), (c2, .byte), (c3, .byte)]) [0, 1, 2] rfl).app (hK1.sub (tys' := []) [] rfl)
  generalize H1 = H at hP hS ⊢
  have hP : va_P D vwCl [(h0, .inr (0, [.ref h1, .ref h2, .ref h3])), (h2, .inl (c2, 8, .inl bf)), (h3, .inl (c3, 8, .inl of)), (h1, .inl (c1, 32, .inl (gPut (gPut (gPut (kf) (16 * gHalf p1) p2) (16 * gHalf p1 + 4) p3) (16 * gHalf p1 + 8) p4)))] H := hP
  have hD : va_D A [(h0, .inr (0, [.ref h1, .ref h2, .ref h3])), (h2, .inl (c2, 8, .inl bf)), (h3, .inl (c3, 8, .inl of)), (h1, .inl (c1, 32, .inl (gPut (gPut (gPut (kf) (16 * gHalf p1) p2) (16 * gHalf p1 + 4) p3) (16 * gHalf p1 + 8) p4)))] := hD
  have hK : va_K D vwCl [(c1, .byte), (c2, .byte), (c3, .byte)] s := hK
  refine W.widen (k := 0) (n := 0) (Nat.le_of_ble_eq_true rfl) (Nat.le_of_ble_eq_true rfl) ?_
  refine lv_aload_n hx hb dX0_key_43 rfl (lv_at hl 1 rfl) ?_
  refine va_get (D := D) (ci := 0) (v := .ref h1) (C := RX0) (T := TX0) (N := 3) hx hb hts in_X0 hown hK hP 0 rfl rfl 0 (by decide) (hts _ q31) (fun _ h9 => h9) rfl dX0_key_44 ?_
  refine lv_iload hx hb dX0_key_47 (lv_at hl 0 rfl) ?_
  refine lv_bipush (v := 12) hx hb dX0_key_49 (by decide) ?_
  refine lv_iadd hx hb dX0_key_51 ?_
  refine g_top (nI (16 * gHalf p1 + 12)) (nI_add _ 12) ?_
  refine lv_iload hx hb dX0_key_52 (lv_at hl 6 rfl) ?_
  have hPc := hP.sub (ws' := [(h1, .inl (c1, 32, .inl (gPut (gPut (gPut (kf) (16 * gHalf p1) p2) (16 * gHalf p1 + 4) p3) (16 * gHalf p1 + 8) p4)))]) [3] rfl
  have hDc := hD.sub (ws' := [(h1, .inl (c1, 32, .inl (gPut (gPut (gPut (kf) (16 * gHalf p1) p2) (16 * gHalf p1 + 4) p3) (16 * gHalf p1 + 8) p4)))]) [3] (by decide) rfl
  have hKc := hK.sub (tys' := [(c1, .byte)]) [0] rfl
  have hFc := va_free (wc := [(h1, .inl (c1, 32, .inl (gPut (gPut (gPut (kf) (16 * gHalf p1) p2) (16 * gHalf p1 + 4) p3) (16 * gHalf p1 + 8) p4)))]) hD hS hA [3] rfl
  refine va_callv (va_runS (As := [.ref h1, .int (nI (16 * gHalf p1 + 12)), .int p5]) (rest := []) ⟨hx, hb, hml, hown, hts⟩ (mX0_word l D h1 c1 32 (gPut (gPut (gPut (kf) (16 * gHalf p1) p2) (16 * gHalf p1 + 4) p3) (16 * gHalf p1 + 8) p4) (16 * gHalf p1 + 12) p5 H.size tS tR (by have := gHalf_lt p1; omega) (by decide)) (va_cwS 3 hts (lw_S q46 q47 q9 q48) rfl rfl rfl (by decide +kernel) ⟨Nat.le_of_ble_eq_true rfl, Nat.le_of_ble_eq_true rfl⟩) ⟨gPw_blind, gPw_of hPc hKc hDc hZ hS hFc⟩ rfl rfl hl.1 rfl (lv_room (Nat.le_of_ble_eq_true rfl)) dX0_key_54 ⟨Nat.le_of_ble_eq_true rfl, Nat.le_of_ble_eq_true rfl⟩) hS (fun q _ h => hFc q h) hFc (fun u t H1 locs ht hvm hw hB hz1 hk1 hS => ?_)
  obtain ⟨hP1, hK1, hD1⟩ := hB
  rw [ht] at hP1
  have hK1 := va_K.moved hvm.symm hK1
  obtain ⟨hP, hD⟩ := va_join (wr := [(h0, .inr (0, [.ref h1, .ref h2, .ref h3])), (h2, .inl (c2, 8, .inl bf)), (h3, .inl (c3, 8, .inl of))]) (w1 := [(h1, .inl (c1, 32, .inl (gPut (gPut (gPut (gPut (kf) (16 * gHalf p1) p2) (16 * gHalf p1 + 4) p3) (16 * gHalf p1 + 8) p4) (16 * gHalf p1 + 12) p5)))]) hP hD [3] [0, 1, 2] rfl rfl (by decide) (by decide) hk1 hFc hP1 hD1
  have hK := (hK.sub (tys' := [(c1, .byte), (c2, .byte), (c3, .byte)]) [0, 1, 2] rfl).app (hK1.sub (tys' := []) [] rfl)
  generalize H1 = H at hP hS ⊢
  have hP : va_P D vwCl [(h0, .inr (0, [.ref h1, .ref h2, .ref h3])), (h2, .inl (c2, 8, .inl bf)), (h3, .inl (c3, 8, .inl of)), (h1, .inl (c1, 32, .inl (gPut (gPut (gPut (gPut (kf) (16 * gHalf p1) p2) (16 * gHalf p1 + 4) p3) (16 * gHalf p1 + 8) p4) (16 * gHalf p1 + 12) p5)))] H := hP
  have hD : va_D A [(h0, .inr (0, [.ref h1, .ref h2, .ref h3])), (h2, .inl (c2, 8, .inl bf)), (h3, .inl (c3, 8, .inl of)), (h1, .inl (c1, 32, .inl (gPut (gPut (gPut (gPut (kf) (16 * gHalf p1) p2) (16 * gHalf p1 + 4) p3) (16 * gHalf p1 + 8) p4) (16 * gHalf p1 + 12) p5)))] := hD
  have hK : va_K D vwCl [(c1, .byte), (c2, .byte), (c3, .byte)] s := hK
  refine W.widen (k := 0) (n := 0) (Nat.le_of_ble_eq_true rfl) (Nat.le_of_ble_eq_true rfl) ?_
  have hP := hP.sub (ws' := [(h0, .inr (0, [.ref h1, .ref h2, .ref h3])), (h1, .inl (c1, 32, .inl (gPut (gPut (gPut (gPut (kf) (16 * gHalf p1) p2) (16 * gHalf p1 + 4) p3) (16 * gHalf p1 + 8) p4) (16 * gHalf p1 + 12) p5))), (h2, .inl (c2, 8, .inl bf)), (h3, .inl (c3, 8, .inl of))]) [0, 3, 1, 2] rfl
  have hD := hD.sub (ws' := [(h0, .inr (0, [.ref h1, .ref h2, .ref h3])), (h1, .inl (c1, 32, .inl (gPut (gPut (gPut (gPut (kf) (16 * gHalf p1) p2) (16 * gHalf p1 + 4) p3) (16 * gHalf p1 + 8) p4) (16 * gHalf p1 + 12) p5))), (h2, .inl (c2, 8, .inl bf)), (h3, .inl (c3, 8, .inl of))]) [0, 3, 1, 2] (by decide) rfl
  have hK := hK.sub (tys' := [(c1, .byte), (c2, .byte), (c3, .byte)]) [0, 1, 2] rfl
  exact g_vret hx hb hr hP hK hD hS hlocks dX0_key_57
set_option maxHeartbeats 4000000 in
set_option maxRecDepth 100000 in
/-- GostDesk.block -/
theorem mX0_block (l : Launch) (D : va_G) (h0 h1 h2 h3 : Nat) (c1 c2 c3 : ClassId) (kf bf of : Nat → Int32) (p1 p2 : Int32) (sz tS tR : Nat) : Met l yX0_block (ws_ yX0_block cX0_block 3 none) ({ frames := 1, cells := 0, slots := 0, locals := 22 }) (va_Pc [.ref h0, .int p1, .int p2] (gPw D sz [(h0, .inr (0, [.ref h1, .ref h2, .ref h3])), (h1, .inl (c1, 32, .inl kf)), (h2, .inl (c2, 8, .inl bf)), (h3, .inl (c3, 8, .inl of))] [(c1, .byte), (c2, .byte), (c3, .byte)] tS tR)) (va_Qv (fun _ : Unit => True) (fun _ => gBw D (va_A [(h0, .inr (0, [.ref h1, .ref h2, .ref h3])), (h1, .inl (c1, 32, .inl kf)), (h2, .inl (c2, 8, .inl bf)), (h3, .inl (c3, 8, .inl of))] sz) [(h0, .inr (0, [.ref h1, .ref h2, .ref h3])), (h1, .inl (c1, 32, .inl kf)), (h2, .inl (c2, 8, .inl (gPut (gPut bf 0 p1) 4 p2))), (h3, .inl (c3, 8, .inl of))] [(c1, .byte), (c2, .byte), (c3, .byte)]) (va_A [(h0, .inr (0, [.ref h1, .ref h2, .ref h3])), (h1, .inl (c1, 32, .inl kf)), (h2, .inl (c2, 8, .inl bf)), (h3, .inl (c3, 8, .inl of))] sz)) 0 0 (va_A [(h0, .inr (0, [.ref h1, .ref h2, .ref h3])), (h1, .inl (c1, 32, .inl kf)), (h2, .inl (c2, 8, .inl bf)), (h3, .inl (c3, 8, .inl of))] sz) := by
  refine gMetW (fun A => va_Qv (fun _ : Unit => True) (fun _ => gBw D A [(h0, .inr (0, [.ref h1, .ref h2, .ref h3])), (h1, .inl (c1, 32, .inl kf)), (h2, .inl (c2, 8, .inl (gPut (gPut bf 0 p1) 4 p2))), (h3, .inl (c3, 8, .inl of))] [(c1, .byte), (c2, .byte), (c3, .byte)]) A) (by decide) (Nat.le_of_ble_eq_true rfl) ?_
  intro p e s m below meth c A ls hx hb hr hts hown hlocks hin hml hAe hA hsz hP hK hD hZ hS hl
  have hl : lv_has ls 3 [(0, .ref h0), (1, .int p1), (2, .int p2)] := hl
  refine lv_aload_n hx hb dX0_block_0 rfl (lv_at hl 0 rfl) ?_
  refine va_get (D := D) (ci := 0) (v := .ref h2) (C := RX0) (T := TX0) (N := 3) hx hb hts in_X0 hown hK hP 0 rfl rfl 1 (by decide) (hts _ q32) (fun _ h9 => h9) rfl dX0_block_1 ?_
  refine lv_iconst (v := 0) hx hb dX0_block_4 (by decide) ?_
  refine g_top (nI 0) rfl ?_
  refine lv_iload_n hx hb dX0_block_5 rfl (lv_at hl 1 rfl) ?_
  have hPc := hP.sub (ws' := [(h2, .inl (c2, 8, .inl bf))]) [2] rfl
  have hDc := hD.sub (ws' := [(h2, .inl (c2, 8, .inl bf))]) [2] (by decide) rfl
  have hKc := hK.sub (tys' := [(c2, .byte)]) [1] rfl
  have hFc := va_free (wc := [(h2, .inl (c2, 8, .inl bf))]) hD hS hA [2] rfl
  refine va_callv (va_runS (As := [.ref h2, .int (nI 0), .int p1]) (rest := []) ⟨hx, hb, hml, hown, hts⟩ (mX0_word l D h2 c2 8 (bf) 0 p1 s.heap.size tS tR (by decide) (by decide)) (va_cwS 3 hts (lw_S q46 q47 q9 q48) rfl rfl rfl (by decide +kernel) ⟨Nat.le_of_ble_eq_true rfl, Nat.le_of_ble_eq_true rfl⟩) ⟨gPw_blind, gPw_of hPc hKc hDc hZ hS hFc⟩ rfl rfl hl.1 rfl (lv_room (Nat.le_of_ble_eq_true rfl)) dX0_block_6 ⟨Nat.le_of_ble_eq_true rfl, Nat.le_of_ble_eq_true rfl⟩) hS (fun q _ h => hFc q h) hFc (fun u t H1 locs ht hvm hw hB hz1 hk1 hS => ?_)
  obtain ⟨hP1, hK1, hD1⟩ := hB
  rw [ht] at hP1
  have hK1 := va_K.moved hvm.symm hK1
  obtain ⟨hP, hD⟩ := va_join (wr := [(h0, .inr (0, [.ref h1, .ref h2, .ref h3])), (h1, .inl (c1, 32, .inl kf)), (h3, .inl (c3, 8, .inl of))]) (w1 := [(h2, .inl (c2, 8, .inl (gPut (bf) 0 p1)))]) hP hD [2] [0, 1, 3] rfl rfl (by decide) (by decide) hk1 hFc hP1 hD1
  have hK := (hK.sub (tys' := [(c1, .byte), (c2, .byte), (c3, .byte)]) [0, 1, 2] rfl).app (hK1.sub (tys' := []) [] rfl)
  generalize H1 = H at hP hS ⊢
  have hP : va_P D vwCl [(h0, .inr (0, [.ref h1, .ref h2, .ref h3])), (h1, .inl (c1, 32, .inl kf)), (h3, .inl (c3, 8, .inl of)), (h2, .inl (c2, 8, .inl (gPut (bf) 0 p1)))] H := hP
  have hD : va_D A [(h0, .inr (0, [.ref h1, .ref h2, .ref h3])), (h1, .inl (c1, 32, .inl kf)), (h3, .inl (c3, 8, .inl of)), (h2, .inl (c2, 8, .inl (gPut (bf) 0 p1)))] := hD
  have hK : va_K D vwCl [(c1, .byte), (c2, .byte), (c3, .byte)] s := hK
  refine W.widen (k := 0) (n := 0) (Nat.le_of_ble_eq_true rfl) (Nat.le_of_ble_eq_true rfl) ?_
  refine lv_aload_n hx hb dX0_block_9 rfl (lv_at hl 0 rfl) ?_
  refine va_get (D := D) (ci := 0) (v := .ref h2) (C := RX0) (T := TX0) (N := 3) hx hb hts in_X0 hown hK hP 0 rfl rfl 1 (by decide) (hts _ q32) (fun _ h9 => h9) rfl dX0_block_10 ?_
  refine lv_iconst (v := 4) hx hb dX0_block_13 (by decide) ?_
  refine g_top (nI 4) rfl ?_
  refine lv_iload_n hx hb dX0_block_14 rfl (lv_at hl 2 rfl) ?_
  have hPc := hP.sub (ws' := [(h2, .inl (c2, 8, .inl (gPut (bf) 0 p1)))]) [3] rfl
  have hDc := hD.sub (ws' := [(h2, .inl (c2, 8, .inl (gPut (bf) 0 p1)))]) [3] (by decide) rfl
  have hKc := hK.sub (tys' := [(c2, .byte)]) [1] rfl
  have hFc := va_free (wc := [(h2, .inl (c2, 8, .inl (gPut (bf) 0 p1)))]) hD hS hA [3] rfl
  refine va_callv (va_runS (As := [.ref h2, .int (nI 4), .int p2]) (rest := []) ⟨hx, hb, hml, hown, hts⟩ (mX0_word l D h2 c2 8 (gPut (bf) 0 p1) 4 p2 H.size tS tR (by decide) (by decide)) (va_cwS 3 hts (lw_S q46 q47 q9 q48) rfl rfl rfl (by decide +kernel) ⟨Nat.le_of_ble_eq_true rfl, Nat.le_of_ble_eq_true rfl⟩) ⟨gPw_blind, gPw_of hPc hKc hDc hZ hS hFc⟩ rfl rfl hl.1 rfl (lv_room (Nat.le_of_ble_eq_true rfl)) dX0_block_15 ⟨Nat.le_of_ble_eq_true rfl, Nat.le_of_ble_eq_true rfl⟩) hS (fun q _ h => hFc q h) hFc (fun u t H1 locs ht hvm hw hB hz1 hk1 hS => ?_)
  obtain ⟨hP1, hK1, hD1⟩ := hB
  rw [ht] at hP1
  have hK1 := va_K.moved hvm.symm hK1
  obtain ⟨hP, hD⟩ := va_join (wr := [(h0, .inr (0, [.ref h1, .ref h2, .ref h3])), (h1, .inl (c1, 32, .inl kf)), (h3, .inl (c3, 8, .inl of))]) (w1 := [(h2, .inl (c2, 8, .inl (gPut (gPut (bf) 0 p1) 4 p2)))]) hP hD [3] [0, 1, 2] rfl rfl (by decide) (by decide) hk1 hFc hP1 hD1
  have hK := (hK.sub (tys' := [(c1, .byte), (c2, .byte), (c3, .byte)]) [0, 1, 2] rfl).app (hK1.sub (tys' := []) [] rfl)
  generalize H1 = H at hP hS ⊢
  have hP : va_P D vwCl [(h0, .inr (0, [.ref h1, .ref h2, .ref h3])), (h1, .inl (c1, 32, .inl kf)), (h3, .inl (c3, 8, .inl of)), (h2, .inl (c2, 8, .inl (gPut (gPut (bf) 0 p1) 4 p2)))] H := hP
  have hD : va_D A [(h0, .inr (0, [.ref h1, .ref h2, .ref h3])), (h1, .inl (c1, 32, .inl kf)), (h3, .inl (c3, 8, .inl of)), (h2, .inl (c2, 8, .inl (gPut (gPut (bf) 0 p1) 4 p2)))] := hD
  have hK : va_K D vwCl [(c1, .byte), (c2, .byte), (c3, .byte)] s := hK
  refine W.widen (k := 0) (n := 0) (Nat.le_of_ble_eq_true rfl) (Nat.le_of_ble_eq_true rfl) ?_
  have hP := hP.sub (ws' := [(h0, .inr (0, [.ref h1, .ref h2, .ref h3])), (h1, .inl (c1, 32, .inl kf)), (h2, .inl (c2, 8, .inl (gPut (gPut (bf) 0 p1) 4 p2))), (h3, .inl (c3, 8, .inl of))]) [0, 1, 3, 2] rfl
  have hD := hD.sub (ws' := [(h0, .inr (0, [.ref h1, .ref h2, .ref h3])), (h1, .inl (c1, 32, .inl kf)), (h2, .inl (c2, 8, .inl (gPut (gPut (bf) 0 p1) 4 p2))), (h3, .inl (c3, 8, .inl of))]) [0, 1, 3, 2] (by decide) rfl
  have hK := hK.sub (tys' := [(c1, .byte), (c2, .byte), (c3, .byte)]) [0, 1, 2] rfl
  exact g_vret hx hb hr hP hK hD hS hlocks dX0_block_18
set_option maxHeartbeats 4000000 in
set_option maxRecDepth 100000 in
/-- GostDesk.run: a new engine, a new key, one block -/
theorem mX0_run (l : Launch) (D : va_G) (h0 h1 h2 h3 : Nat) (c1 c2 c3 : ClassId) (kf bf of : Nat → Int32) (b : Bool) (p1 : Int32) (sz tS tR : Nat) : Met l yX0_run (ws_ yX0_run cX0_run 6 none) ({ frames := 4, cells := 5, slots := 76, locals := 104 }) (va_Pc [.ref h0, .int (gBi b), .int p1] (gPw D sz [(h0, .inr (0, [.ref h1, .ref h2, .ref h3])), (h1, .inl (c1, 32, .inl kf)), (h2, .inl (c2, 8, .inl bf)), (h3, .inl (c3, 8, .inl of))] [(c1, .byte), (c2, .byte), (c3, .byte)] tS tR)) (va_Qv (fun _ : Unit => True) (fun _ => gBw D (va_A [(h0, .inr (0, [.ref h1, .ref h2, .ref h3])), (h1, .inl (c1, 32, .inl kf)), (h2, .inl (c2, 8, .inl bf)), (h3, .inl (c3, 8, .inl of))] sz) [(h0, .inr (0, [.ref h1, .ref h2, .ref h3])), (h1, .inl (c1, 32, .inl kf)), (h2, .inl (c2, 8, .inl bf)), (h3, .inl (c3, 8, .inl (gRunX b kf bf of)))] [(c1, .byte), (c2, .byte), (c3, .byte)]) (va_A [(h0, .inr (0, [.ref h1, .ref h2, .ref h3])), (h1, .inl (c1, 32, .inl kf)), (h2, .inl (c2, 8, .inl bf)), (h3, .inl (c3, 8, .inl of))] sz)) 5 76 (va_A [(h0, .inr (0, [.ref h1, .ref h2, .ref h3])), (h1, .inl (c1, 32, .inl kf)), (h2, .inl (c2, 8, .inl bf)), (h3, .inl (c3, 8, .inl of))] sz) := by
  refine gMetW (fun A => va_Qv (fun _ : Unit => True) (fun _ => gBw D A [(h0, .inr (0, [.ref h1, .ref h2, .ref h3])), (h1, .inl (c1, 32, .inl kf)), (h2, .inl (c2, 8, .inl bf)), (h3, .inl (c3, 8, .inl (gRunX b kf bf of)))] [(c1, .byte), (c2, .byte), (c3, .byte)]) A) (by decide) (Nat.le_of_ble_eq_true rfl) ?_
  intro p e s m below meth c A ls hx hb hr hts hown hlocks hin hml hAe hA hsz hP hK hD hZ hS hl
  have hl : lv_has ls 6 [(0, .ref h0), (1, .int (gBi b)), (2, .int p1)] := hl
  refine lv_iload_n hx hb dX0_run_0 rfl (lv_at hl 2 rfl) ?_
  refine lv_iconst (v := 3) hx hb dX0_run_1 (by decide) ?_
  refine lv_iand hx hb dX0_run_2 ?_
  have hPc := hP.sub (ws' := []) [] rfl
  have hKc := hK.sub (tys' := []) [] rfl
  refine vp_callSi (va_Run.run (va_runS (As := [.int (p1 &&& 3)]) (rest := []) ⟨hx, hb, hml, hown, hts⟩ (mX0_size l D (p1 &&& 3) tS tR) (va_cwS 1 hts (lw_S q61 q62 q9 q63) rfl rfl rfl (by decide +kernel) ⟨Nat.le_of_ble_eq_true rfl, Nat.le_of_ble_eq_true rfl⟩) ⟨gPr_blind, gPr_of hPc hKc hZ hS⟩ rfl rfl hl.1 rfl (lv_room (Nat.le_of_ble_eq_true rfl)) dX0_run_3 ⟨Nat.le_of_ble_eq_true rfl, Nat.le_of_ble_eq_true rfl⟩)) (fun r_3 hr_3 => ?_)
  obtain rfl : r_3 = 32 := hr_3
  refine W.widen (k := 0) (n := 0) (Nat.le_of_ble_eq_true rfl) (Nat.le_of_ble_eq_true rfl) ?_
  refine lv_istore_n (lv' := [(3, .int 32), (0, .ref h0), (1, .int (gBi b)), (2, .int p1)]) hx hb dX0_run_6 rfl hl (by decide) rfl (fun ls hl => ?_)
  refine lv_iload_n hx hb dX0_run_7 rfl (lv_at hl 0 rfl) ?_
  refine va_newa (atype := .byte) (ty := .byte) (N' := 32) (a0 := (32, .inl (fun _ => 0))) hx hb (hts _ q41) rfl hK hP hD hS hA (fun _ => rfl) (by decide) rfl (Nat.le_of_ble_eq_true rfl) (Nat.le_of_ble_eq_true rfl) (Nat.le_of_ble_eq_true rfl) dX0_run_8 (fun h4 c4 H hK hP hD hS => ?_)
  have hP : va_P D vwCl [(h0, .inr (0, [.ref h1, .ref h2, .ref h3])), (h1, .inl (c1, 32, .inl kf)), (h2, .inl (c2, 8, .inl bf)), (h3, .inl (c3, 8, .inl of)), (h4, .inl (c4, 32, .inl (fun _ => 0)))] H := hP
  have hD : va_D A [(h0, .inr (0, [.ref h1, .ref h2, .ref h3])), (h1, .inl (c1, 32, .inl kf)), (h2, .inl (c2, 8, .inl bf)), (h3, .inl (c3, 8, .inl of)), (h4, .inl (c4, 32, .inl (fun _ => 0)))] := hD
  have hK : va_K D vwCl [(c1, .byte), (c2, .byte), (c3, .byte), (c4, .byte)] s := hK
  refine W.widen (k := 1) (n := 32) (Nat.le_of_ble_eq_true rfl) (Nat.le_of_ble_eq_true rfl) ?_
  refine lv_astore (lv' := [(4, .ref h4), (3, .int 32), (0, .ref h0), (1, .int (gBi b)), (2, .int p1)]) hx hb dX0_run_10 hl (by decide) rfl (fun ls hl => ?_)
  refine lv_iconst (v := 0) hx hb dX0_run_12 (by decide) ?_
  refine g_top (nI 0) rfl ?_
  refine lv_istore (lv' := [(5, .int (nI 0)), (4, .ref h4), (3, .int 32), (0, .ref h0), (1, .int (gBi b)), (2, .int p1)]) hx hb dX0_run_13 hl (by decide) rfl (fun ls hl => ?_)
  have loop : ∀ (n i : Nat), i ≤ 32 → 33 ≤ i + n → ∀ (H : Heap) (locs : List Loc), va_P D vwCl [(h0, .inr (0, [.ref h1, .ref h2, .ref h3])), (h1, .inl (c1, 32, .inl kf)), (h2, .inl (c2, 8, .inl bf)), (h3, .inl (c3, 8, .inl of)), (h4, .inl (c4, 32, .inl (gCopB (fun _ => 0) kf i)))] H → va_D A [(h0, .inr (0, [.ref h1, .ref h2, .ref h3])), (h1, .inl (c1, 32, .inl kf)), (h2, .inl (c2, 8, .inl bf)), (h3, .inl (c3, 8, .inl of)), (h4, .inl (c4, 32, .inl (gCopB (fun _ => 0) kf i)))] → va_S A s.heap H locs → ∀ ls : Array Slot, lv_has ls 6 [(0, .ref h0), (1, .int (gBi b)), (3, .int 32), (4, .ref h4), (5, .int (nI i))] → W p l e (headSpec (ws_ yX0_run cX0_run 6 none) ({ frames := 4, cells := 5, slots := 76, locals := 104 })).room s m ([.ref h0, .int (gBi b), .int p1] : List Value).toArray below meth c H locs 1 32 (MQ below (va_Qv (fun _ : Unit => True) (fun _ => gBw D A [(h0, .inr (0, [.ref h1, .ref h2, .ref h3])), (h1, .inl (c1, 32, .inl kf)), (h2, .inl (c2, 8, .inl bf)), (h3, .inl (c3, 8, .inl (gRunX b kf bf of)))] [(c1, .byte), (c2, .byte), (c3, .byte)]) A) ([.ref h0, .int (gBi b), .int p1] : List Value).toArray s 5 76 A) (F0 m 15 ls []) := by
    intro n
    induction n with
    | zero => intro i k1 k2; exact absurd k2 (by omega)
    | succ n ih =>
      intro i k1 k2 H locs hP hD hS ls hl
      refine lv_iload hx hb dX0_run_15 (lv_at hl 4 rfl) ?_
      refine lv_iload_n hx hb dX0_run_17 rfl (lv_at hl 2 rfl) ?_
      refine lv_icmp_ge (tgt := 39) hx hb dX0_run_18 (by decide) (fun c18 => ?_) (fun c18 => ?_)
      · obtain rfl : i = 32 := Nat.le_antisymm k1 ((nI_leI (a := 32) (b := i) (by omega) (by omega)).mp c18)
        have hP : va_P D vwCl [(h0, .inr (0, [.ref h1, .ref h2, .ref h3])), (h1, .inl (c1, 32, .inl kf)), (h2, .inl (c2, 8, .inl bf)), (h3, .inl (c3, 8, .inl of)), (h4, .inl (c4, 32, .inl (gKcopy kf)))] H := hP
        have hD : va_D A [(h0, .inr (0, [.ref h1, .ref h2, .ref h3])), (h1, .inl (c1, 32, .inl kf)), (h2, .inl (c2, 8, .inl bf)), (h3, .inl (c3, 8, .inl of)), (h4, .inl (c4, 32, .inl (gKcopy kf)))] := hD
        refine va_new (D := D) (cl := vwCl) (ci := 2) (fs := [.null, .int 0, .null]) (C := RX2) (T := TX2) (N := 3) hx hb hts in_X2 tyX2 tyX2_ok hown (hts _ q64) (hts _ q65) (hts _ q11) hK hP hD hS hA rfl (fun j hj => by rcases (show j = 0 ∨ j = 1 ∨ j = 2 by omega) with rfl | rfl | rfl <;> rfl) (Nat.le_of_ble_eq_true rfl) (Nat.le_of_ble_eq_true rfl) dX0_run_39 (fun h5 H hP hD hS => ?_)
        have hP : va_P D vwCl [(h0, .inr (0, [.ref h1, .ref h2, .ref h3])), (h1, .inl (c1, 32, .inl kf)), (h2, .inl (c2, 8, .inl bf)), (h3, .inl (c3, 8, .inl of)), (h4, .inl (c4, 32, .inl (gKcopy kf))), (h5, .inr (2, [.null, .int 0, .null]))] H := hP
        have hD : va_D A [(h0, .inr (0, [.ref h1, .ref h2, .ref h3])), (h1, .inl (c1, 32, .inl kf)), (h2, .inl (c2, 8, .inl bf)), (h3, .inl (c3, 8, .inl of)), (h4, .inl (c4, 32, .inl (gKcopy kf))), (h5, .inr (2, [.null, .int 0, .null]))] := hD
        refine W.widen (k := 2) (n := 35) (Nat.le_of_ble_eq_true rfl) (Nat.le_of_ble_eq_true rfl) ?_
        refine lv_dup hx hb dX0_run_42 rfl ?_
        have hPc := hP.sub (ws' := [(h5, .inr (2, [.null, .int 0, .null]))]) [5] rfl
        have hDc := hD.sub (ws' := [(h5, .inr (2, [.null, .int 0, .null]))]) [5] (by decide) rfl
        have hKc := hK.sub (tys' := []) [] rfl
        have hFc := va_free (wc := [(h5, .inr (2, [.null, .int 0, .null]))]) hD hS hA [5] rfl
        refine va_callv (va_runI (As := []) (rest := [.ref h5]) ⟨hx, hb, hml, hown, hts⟩ (mX2_init l D h5 H.size tS tR) (cwI 0 hts (lw_meth q68) rfl rfl rfl (hts _ q11) (hts _ q66) (hts _ q67) rfl (by decide +kernel) ⟨Nat.le_of_ble_eq_true rfl, Nat.le_of_ble_eq_true rfl⟩) ⟨gPw_blind, gPw_of hPc hKc hDc hZ hS hFc⟩ rfl rfl hl.1 rfl (lv_room (Nat.le_of_ble_eq_true rfl)) dX0_run_43 ⟨Nat.le_of_ble_eq_true rfl, Nat.le_of_ble_eq_true rfl⟩) hS (fun q _ h => hFc q h) hFc (fun u t H1 locs ht hvm hw hB hz1 hk1 hS => ?_)
        obtain ⟨hP1, hK1, hD1⟩ := hB
        rw [ht] at hP1
        have hK1 := va_K.moved hvm.symm hK1
        obtain ⟨hP, hD⟩ := va_join (wr := [(h0, .inr (0, [.ref h1, .ref h2, .ref h3])), (h1, .inl (c1, 32, .inl kf)), (h2, .inl (c2, 8, .inl bf)), (h3, .inl (c3, 8, .inl of)), (h4, .inl (c4, 32, .inl (gKcopy kf)))]) (w1 := [(h5, .inr (2, [.null, .int 0, .ref tS]))]) hP hD [5] [0, 1, 2, 3, 4] rfl rfl (by decide) (by decide) hk1 hFc hP1 hD1
        have hK := (hK.sub (tys' := [(c1, .byte), (c2, .byte), (c3, .byte), (c4, .byte)]) [0, 1, 2, 3] rfl).app (hK1.sub (tys' := []) [] rfl)
        generalize H1 = H at hP hS ⊢
        have hP : va_P D vwCl [(h0, .inr (0, [.ref h1, .ref h2, .ref h3])), (h1, .inl (c1, 32, .inl kf)), (h2, .inl (c2, 8, .inl bf)), (h3, .inl (c3, 8, .inl of)), (h4, .inl (c4, 32, .inl (gKcopy kf))), (h5, .inr (2, [.null, .int 0, .ref tS]))] H := hP
        have hD : va_D A [(h0, .inr (0, [.ref h1, .ref h2, .ref h3])), (h1, .inl (c1, 32, .inl kf)), (h2, .inl (c2, 8, .inl bf)), (h3, .inl (c3, 8, .inl of)), (h4, .inl (c4, 32, .inl (gKcopy kf))), (h5, .inr (2, [.null, .int 0, .ref tS]))] := hD
        have hK : va_K D vwCl [(c1, .byte), (c2, .byte), (c3, .byte), (c4, .byte)] s := hK
        refine W.widen (k := 2) (n := 35) (Nat.le_of_ble_eq_true rfl) (Nat.le_of_ble_eq_true rfl) ?_
        refine lv_astore (lv' := [(5, .ref h5), (0, .ref h0), (1, .int (gBi b)), (3, .int 32), (4, .ref h4)]) hx hb dX0_run_46 hl (by decide) rfl (fun ls hl => ?_)
        refine lv_aload hx hb dX0_run_48 (lv_at hl 0 rfl) ?_
        refine lv_iload_n hx hb dX0_run_50 rfl (lv_at hl 2 rfl) ?_
        refine va_new (D := D) (cl := vwCl) (ci := 3) (fs := [.null]) (C := RX3) (T := TX3) (N := 1) hx hb hts in_X3 tyX3 tyX3_ok hown (hts _ q82) (hts _ q83) (hts _ q12) hK hP hD hS hA rfl (fun j hj => by rcases (show j = 0 by omega) with rfl <;> rfl) (Nat.le_of_ble_eq_true rfl) (Nat.le_of_ble_eq_true rfl) dX0_run_51 (fun h6 H hP hD hS => ?_)
        have hP : va_P D vwCl [(h0, .inr (0, [.ref h1, .ref h2, .ref h3])), (h1, .inl (c1, 32, .inl kf)), (h2, .inl (c2, 8, .inl bf)), (h3, .inl (c3, 8, .inl of)), (h4, .inl (c4, 32, .inl (gKcopy kf))), (h5, .inr (2, [.null, .int 0, .ref tS])), (h6, .inr (3, [.null]))] H := hP
        have hD : va_D A [(h0, .inr (0, [.ref h1, .ref h2, .ref h3])), (h1, .inl (c1, 32, .inl kf)), (h2, .inl (c2, 8, .inl bf)), (h3, .inl (c3, 8, .inl of)), (h4, .inl (c4, 32, .inl (gKcopy kf))), (h5, .inr (2, [.null, .int 0, .ref tS])), (h6, .inr (3, [.null]))] := hD
        refine W.widen (k := 3) (n := 36) (Nat.le_of_ble_eq_true rfl) (Nat.le_of_ble_eq_true rfl) ?_
        refine lv_dup hx hb dX0_run_54 rfl ?_
        refine lv_aload hx hb dX0_run_55 (lv_at hl 4 rfl) ?_
        have hPc := hP.sub (ws' := [(h6, .inr (3, [.null])), (h4, .inl (c4, 32, .inl (gKcopy kf)))]) [6, 4] rfl
        have hDc := hD.sub (ws' := [(h6, .inr (3, [.null])), (h4, .inl (c4, 32, .inl (gKcopy kf)))]) [6, 4] (by decide) rfl
        have hKc := hK.sub (tys' := [(c4, .byte)]) [3] rfl
        have hFc := va_free (wc := [(h6, .inr (3, [.null])), (h4, .inl (c4, 32, .inl (gKcopy kf)))]) hD hS hA [6, 4] rfl
        refine va_callv (va_runI (As := [.ref h4]) (rest := [.ref h6, .int (gBi b), .ref h5]) ⟨hx, hb, hml, hown, hts⟩ (mX3_init l D h6 h4 c4 (gKcopy kf) H.size tS tR (gKcopy_fit kf)) (cwI 1 hts (lw_meth q86) rfl rfl rfl (hts _ q12) (hts _ q84) (hts _ q85) rfl (by decide +kernel) ⟨Nat.le_of_ble_eq_true rfl, Nat.le_of_ble_eq_true rfl⟩) ⟨gPw_blind, gPw_of hPc hKc hDc hZ hS hFc⟩ rfl rfl hl.1 rfl (lv_room (Nat.le_of_ble_eq_true rfl)) dX0_run_57 ⟨Nat.le_of_ble_eq_true rfl, Nat.le_of_ble_eq_true rfl⟩) hS (fun q _ h => hFc q h) hFc (fun u t H1 locs ht hvm hw hB hz1 hk1 hS => ?_)
        obtain ⟨h7, c7, hP1, hK1, hD1⟩ := hB
        rw [ht] at hP1
        have hK1 := va_K.moved hvm.symm hK1
        obtain ⟨hP, hD⟩ := va_join (wr := [(h0, .inr (0, [.ref h1, .ref h2, .ref h3])), (h1, .inl (c1, 32, .inl kf)), (h2, .inl (c2, 8, .inl bf)), (h3, .inl (c3, 8, .inl of)), (h5, .inr (2, [.null, .int 0, .ref tS]))]) (w1 := [(h6, .inr (3, [.ref h7])), (h4, .inl (c4, 32, .inl (gKcopy kf))), (h7, .inl (c7, 32, .inl (gKpar kf)))]) hP hD [6, 4] [0, 1, 2, 3, 5] rfl rfl (by decide) (by decide) hk1 hFc hP1 hD1
        have hK := (hK.sub (tys' := [(c1, .byte), (c2, .byte), (c3, .byte), (c4, .byte)]) [0, 1, 2, 3] rfl).app (hK1.sub (tys' := [(c7, .byte)]) [1] rfl)
        generalize H1 = H at hP hS ⊢
        have hP : va_P D vwCl [(h0, .inr (0, [.ref h1, .ref h2, .ref h3])), (h1, .inl (c1, 32, .inl kf)), (h2, .inl (c2, 8, .inl bf)), (h3, .inl (c3, 8, .inl of)), (h5, .inr (2, [.null, .int 0, .ref tS])), (h6, .inr (3, [.ref h7])), (h4, .inl (c4, 32, .inl (gKcopy kf))), (h7, .inl (c7, 32, .inl (gKpar kf)))] H := hP
        have hD : va_D A [(h0, .inr (0, [.ref h1, .ref h2, .ref h3])), (h1, .inl (c1, 32, .inl kf)), (h2, .inl (c2, 8, .inl bf)), (h3, .inl (c3, 8, .inl of)), (h5, .inr (2, [.null, .int 0, .ref tS])), (h6, .inr (3, [.ref h7])), (h4, .inl (c4, 32, .inl (gKcopy kf))), (h7, .inl (c7, 32, .inl (gKpar kf)))] := hD
        have hK : va_K D vwCl [(c1, .byte), (c2, .byte), (c3, .byte), (c4, .byte), (c7, .byte)] s := hK
        refine W.widen (k := 4) (n := 68) (Nat.le_of_ble_eq_true rfl) (Nat.le_of_ble_eq_true rfl) ?_
        have hPc := hP.sub (ws' := [(h5, .inr (2, [.null, .int 0, .ref tS])), (h6, .inr (3, [.ref h7])), (h7, .inl (c7, 32, .inl (gKpar kf)))]) [4, 5, 7] rfl
        have hDc := hD.sub (ws' := [(h5, .inr (2, [.null, .int 0, .ref tS])), (h6, .inr (3, [.ref h7])), (h7, .inl (c7, 32, .inl (gKpar kf)))]) [4, 5, 7] (by decide) rfl
        have hKc := hK.sub (tys' := [(c7, .byte)]) [4] rfl
        have hFc := va_free (wc := [(h5, .inr (2, [.null, .int 0, .ref tS])), (h6, .inr (3, [.ref h7])), (h7, .inl (c7, 32, .inl (gKpar kf)))]) hD hS hA [4, 5, 7] rfl
        refine va_callFv (va_runF (cC := D.1 2) (As := [.int (gBi b), .ref h6]) (rest := []) (hK.1 2 _ rfl).2 ⟨hx, hb, hml, hown, hts⟩ (mX2_init_2 l D h5 h6 h7 c7 .null (.int 0) (.ref tS) (gKpar kf) b H.size tS tR) (va_cwF 2 hts (g_F q102 q106 q108 q11 q110) rfl rfl rfl hZ.2.2.1 (by decide +kernel) ⟨Nat.le_of_ble_eq_true rfl, Nat.le_of_ble_eq_true rfl⟩) ⟨gPw_blind, va_recv hK hP (ci := 2) (q0 := 4) rfl rfl, gPw_of hPc hKc hDc hZ hS hFc⟩ rfl rfl hl.1 rfl (lv_room (Nat.le_of_ble_eq_true rfl)) dX0_run_60 ⟨Nat.le_of_ble_eq_true rfl, Nat.le_of_ble_eq_true rfl⟩) hS (fun q _ h => hFc q h) hFc (fun u t H1 locs ht hvm hw hB hz1 hk1 hS => ?_)
        obtain ⟨h8, c8, hP1, hK1, hD1⟩ := hB
        rw [ht] at hP1
        have hK1 := va_K.moved hvm.symm hK1
        obtain ⟨hP, hD⟩ := va_join (wr := [(h0, .inr (0, [.ref h1, .ref h2, .ref h3])), (h1, .inl (c1, 32, .inl kf)), (h2, .inl (c2, 8, .inl bf)), (h3, .inl (c3, 8, .inl of)), (h4, .inl (c4, 32, .inl (gKcopy kf)))]) (w1 := [(h5, .inr (2, [.ref h8, .int (gBi b), .ref tS])), (h6, .inr (3, [.ref h7])), (h7, .inl (c7, 32, .inl (gKpar kf))), (h8, .inl (c8, 8, .inl (gWk (gKpar kf) 8)))]) hP hD [4, 5, 7] [0, 1, 2, 3, 6] rfl rfl (by decide) (by decide) hk1 hFc hP1 hD1
        have hK := (hK.sub (tys' := [(c1, .byte), (c2, .byte), (c3, .byte), (c4, .byte), (c7, .byte)]) [0, 1, 2, 3, 4] rfl).app (hK1.sub (tys' := [(c8, .int)]) [1] rfl)
        generalize H1 = H at hP hS ⊢
        have hP : va_P D vwCl [(h0, .inr (0, [.ref h1, .ref h2, .ref h3])), (h1, .inl (c1, 32, .inl kf)), (h2, .inl (c2, 8, .inl bf)), (h3, .inl (c3, 8, .inl of)), (h4, .inl (c4, 32, .inl (gKcopy kf))), (h5, .inr (2, [.ref h8, .int (gBi b), .ref tS])), (h6, .inr (3, [.ref h7])), (h7, .inl (c7, 32, .inl (gKpar kf))), (h8, .inl (c8, 8, .inl (gWk (gKpar kf) 8)))] H := hP
        have hD : va_D A [(h0, .inr (0, [.ref h1, .ref h2, .ref h3])), (h1, .inl (c1, 32, .inl kf)), (h2, .inl (c2, 8, .inl bf)), (h3, .inl (c3, 8, .inl of)), (h4, .inl (c4, 32, .inl (gKcopy kf))), (h5, .inr (2, [.ref h8, .int (gBi b), .ref tS])), (h6, .inr (3, [.ref h7])), (h7, .inl (c7, 32, .inl (gKpar kf))), (h8, .inl (c8, 8, .inl (gWk (gKpar kf) 8)))] := hD
        have hK : va_K D vwCl [(c1, .byte), (c2, .byte), (c3, .byte), (c4, .byte), (c7, .byte), (c8, .int)] s := hK
        refine W.widen (k := 5) (n := 76) (Nat.le_of_ble_eq_true rfl) (Nat.le_of_ble_eq_true rfl) ?_
        refine lv_aload hx hb dX0_run_65 (lv_at hl 0 rfl) ?_
        refine lv_aload_n hx hb dX0_run_67 rfl (lv_at hl 1 rfl) ?_
        refine va_get (D := D) (ci := 0) (v := .ref h2) (C := RX0) (T := TX0) (N := 3) hx hb hts in_X0 hown hK hP 0 rfl rfl 1 (by decide) (hts _ q32) (fun _ h9 => h9) rfl dX0_run_68 ?_
        refine lv_iconst (v := 0) hx hb dX0_run_71 (by decide) ?_
        refine g_top (nI 0) rfl ?_
        refine lv_aload_n hx hb dX0_run_72 rfl (lv_at hl 1 rfl) ?_
        refine va_get (D := D) (ci := 0) (v := .ref h3) (C := RX0) (T := TX0) (N := 3) hx hb hts in_X0 hown hK hP 0 rfl rfl 2 (by decide) (hts _ q33) (fun _ h9 => h9) rfl dX0_run_73 ?_
        refine lv_iconst (v := 0) hx hb dX0_run_76 (by decide) ?_
        refine g_top (nI 0) rfl ?_
        have hPc := hP.sub (ws' := [(h5, .inr (2, [.ref h8, .int (gBi b), .ref tS])), (h8, .inl (c8, 8, .inl (gWk (gKpar kf) 8))), (h2, .inl (c2, 8, .inl bf)), (h3, .inl (c3, 8, .inl of))]) [5, 8, 2, 3] rfl
        have hDc := hD.sub (ws' := [(h5, .inr (2, [.ref h8, .int (gBi b), .ref tS])), (h8, .inl (c8, 8, .inl (gWk (gKpar kf) 8))), (h2, .inl (c2, 8, .inl bf)), (h3, .inl (c3, 8, .inl of))]) [5, 8, 2, 3] (by decide) rfl
        have hKc := hK.sub (tys' := [(c8, .int), (c2, .byte), (c3, .byte)]) [5, 1, 2] rfl
        have hFc := va_free (wc := [(h5, .inr (2, [.ref h8, .int (gBi b), .ref tS])), (h8, .inl (c8, 8, .inl (gWk (gKpar kf) 8))), (h2, .inl (c2, 8, .inl bf)), (h3, .inl (c3, 8, .inl of))]) hD hS hA [5, 8, 2, 3] rfl
        refine va_callFi (va_runF (cC := D.1 2) (As := [.ref h2, .int (nI 0), .ref h3, .int (nI 0)]) (rest := []) (hK.1 2 _ rfl).2 ⟨hx, hb, hml, hown, hts⟩ (mX2_processBlock l D h5 h8 h2 h3 c8 c2 c3 (gWk (gKpar kf) 8) bf of b H.size tS tR) (va_cwF 4 hts (g_F q217 q220 q222 q11 q224) rfl rfl rfl hZ.2.2.2.1 (by decide +kernel) ⟨Nat.le_of_ble_eq_true rfl, Nat.le_of_ble_eq_true rfl⟩) ⟨gPw_blind, va_recv hK hP (ci := 2) (q0 := 5) rfl rfl, gPw_of hPc hKc hDc hZ hS hFc⟩ rfl rfl hl.1 rfl (lv_room (Nat.le_of_ble_eq_true rfl)) dX0_run_77 ⟨Nat.le_of_ble_eq_true rfl, Nat.le_of_ble_eq_true rfl⟩) hS (fun q _ h => hFc q h) hFc (fun r u t H1 locs ht hvm hw hB hz1 hk1 hS => ?_)
        obtain ⟨hP1, hK1, hD1⟩ := hB
        rw [ht] at hP1
        have hK1 := va_K.moved hvm.symm hK1
        obtain ⟨hP, hD⟩ := va_join (wr := [(h0, .inr (0, [.ref h1, .ref h2, .ref h3])), (h1, .inl (c1, 32, .inl kf)), (h4, .inl (c4, 32, .inl (gKcopy kf))), (h6, .inr (3, [.ref h7])), (h7, .inl (c7, 32, .inl (gKpar kf)))]) (w1 := [(h5, .inr (2, [.ref h8, .int (gBi b), .ref tS])), (h8, .inl (c8, 8, .inl (gWk (gKpar kf) 8))), (h2, .inl (c2, 8, .inl bf)), (h3, .inl (c3, 8, .inl (gRunX b kf bf of)))]) hP hD [5, 8, 2, 3] [0, 1, 4, 6, 7] rfl rfl (by decide) (by decide) hk1 hFc hP1 hD1
        have hK := (hK.sub (tys' := [(c1, .byte), (c2, .byte), (c3, .byte), (c4, .byte), (c7, .byte), (c8, .int)]) [0, 1, 2, 3, 4, 5] rfl).app (hK1.sub (tys' := []) [] rfl)
        generalize H1 = H at hP hS ⊢
        have hP : va_P D vwCl [(h0, .inr (0, [.ref h1, .ref h2, .ref h3])), (h1, .inl (c1, 32, .inl kf)), (h4, .inl (c4, 32, .inl (gKcopy kf))), (h6, .inr (3, [.ref h7])), (h7, .inl (c7, 32, .inl (gKpar kf))), (h5, .inr (2, [.ref h8, .int (gBi b), .ref tS])), (h8, .inl (c8, 8, .inl (gWk (gKpar kf) 8))), (h2, .inl (c2, 8, .inl bf)), (h3, .inl (c3, 8, .inl (gRunX b kf bf of)))] H := hP
        have hD : va_D A [(h0, .inr (0, [.ref h1, .ref h2, .ref h3])), (h1, .inl (c1, 32, .inl kf)), (h4, .inl (c4, 32, .inl (gKcopy kf))), (h6, .inr (3, [.ref h7])), (h7, .inl (c7, 32, .inl (gKpar kf))), (h5, .inr (2, [.ref h8, .int (gBi b), .ref tS])), (h8, .inl (c8, 8, .inl (gWk (gKpar kf) 8))), (h2, .inl (c2, 8, .inl bf)), (h3, .inl (c3, 8, .inl (gRunX b kf bf of)))] := hD
        have hK : va_K D vwCl [(c1, .byte), (c2, .byte), (c3, .byte), (c4, .byte), (c7, .byte), (c8, .int)] s := hK
        refine W.widen (k := 5) (n := 76) (Nat.le_of_ble_eq_true rfl) (Nat.le_of_ble_eq_true rfl) ?_
        obtain rfl : r = 8 := hw
        refine lv_pop hx hb dX0_run_82 rfl ?_
        have hP := hP.sub (ws' := [(h0, .inr (0, [.ref h1, .ref h2, .ref h3])), (h1, .inl (c1, 32, .inl kf)), (h2, .inl (c2, 8, .inl bf)), (h3, .inl (c3, 8, .inl (gRunX b kf bf of)))]) [0, 1, 7, 8] rfl
        have hD := hD.sub (ws' := [(h0, .inr (0, [.ref h1, .ref h2, .ref h3])), (h1, .inl (c1, 32, .inl kf)), (h2, .inl (c2, 8, .inl bf)), (h3, .inl (c3, 8, .inl (gRunX b kf bf of)))]) [0, 1, 7, 8] (by decide) rfl
        have hK := hK.sub (tys' := [(c1, .byte), (c2, .byte), (c3, .byte)]) [0, 1, 2] rfl
        exact g_vret hx hb hr hP hK hD hS hlocks dX0_run_83
      · have hi : i < 32 := Nat.lt_of_not_le fun q => c18 (nI_le (a := 32) (b := i) q (by omega))
        refine lv_aload hx hb dX0_run_21 (lv_at hl 3 rfl) ?_
        refine lv_iload hx hb dX0_run_23 (lv_at hl 4 rfl) ?_
        refine lv_aload_n hx hb dX0_run_25 rfl (lv_at hl 0 rfl) ?_
        refine va_get (D := D) (ci := 0) (v := .ref h1) (C := RX0) (T := TX0) (N := 3) hx hb hts in_X0 hown hK hP 0 rfl rfl 0 (by decide) (hts _ q31) (fun _ h9 => h9) rfl dX0_run_26 ?_
        refine lv_iload hx hb dX0_run_29 (lv_at hl 4 rfl) ?_
        refine g_bald hx hb hK hP 1 0 rfl rfl (i) rfl hi (by decide) dX0_run_31 ?_
        refine g_bast (g := gCopB (fun _ => 0) kf (i + 1)) hx hb hK hP hD hS 4 3 rfl rfl (i) rfl hi (by decide) (gCopB_s _ kf i) dX0_run_32 (fun H locs hP hD hS => ?_)
        have hP : va_P D vwCl [(h0, .inr (0, [.ref h1, .ref h2, .ref h3])), (h1, .inl (c1, 32, .inl kf)), (h2, .inl (c2, 8, .inl bf)), (h3, .inl (c3, 8, .inl of)), (h4, .inl (c4, 32, .inl (gCopB (fun _ => 0) kf (i + 1))))] H := hP
        have hD : va_D A [(h0, .inr (0, [.ref h1, .ref h2, .ref h3])), (h1, .inl (c1, 32, .inl kf)), (h2, .inl (c2, 8, .inl bf)), (h3, .inl (c3, 8, .inl of)), (h4, .inl (c4, 32, .inl (gCopB (fun _ => 0) kf (i + 1))))] := hD
        refine lv_iinc (v := (nI (i + 1))) (lv' := [(5, .int (nI (i + 1))), (0, .ref h0), (1, .int (gBi b)), (3, .int 32), (4, .ref h4)]) hx hb dX0_run_33 hl (k := 4) rfl (nI_1 i) (by decide) rfl (fun ls hl => ?_)
        refine lv_goto (tgt := 15) hx hb dX0_run_36 (by decide) ?_
        exact ih (i + 1) hi (by omega) H locs hP hD hS ls (lv_sub hl [1, 2, 3, 4, 0] rfl)
  exact loop 33 0 (by omega) (by omega) H _ (by rw [gCopB_0]; exact hP) (by rw [gCopB_0]; exact hD) hS ls (lv_sub hl [3, 4, 2, 1, 0] rfl)
set_option maxHeartbeats 4000000 in
set_option maxRecDepth 100000 in
/-- GostDesk.lock -/
theorem mX0_lock (l : Launch) (D : va_G) (h0 h1 h2 h3 : Nat) (c1 c2 c3 : ClassId) (kf bf of : Nat → Int32) (p1 : Int32) (sz tS tR : Nat) : Met l yX0_lock (ws_ yX0_lock cX0_lock 2 none) ({ frames := 5, cells := 5, slots := 76, locals := 129 }) (va_Pc [.ref h0, .int p1] (gPw D sz [(h0, .inr (0, [.ref h1, .ref h2, .ref h3])), (h1, .inl (c1, 32, .inl kf)), (h2, .inl (c2, 8, .inl bf)), (h3, .inl (c3, 8, .inl of))] [(c1, .byte), (c2, .byte), (c3, .byte)] tS tR)) (va_Qv (fun _ : Unit => True) (fun _ => gBw D (va_A [(h0, .inr (0, [.ref h1, .ref h2, .ref h3])), (h1, .inl (c1, 32, .inl kf)), (h2, .inl (c2, 8, .inl bf)), (h3, .inl (c3, 8, .inl of))] sz) [(h0, .inr (0, [.ref h1, .ref h2, .ref h3])), (h1, .inl (c1, 32, .inl kf)), (h2, .inl (c2, 8, .inl bf)), (h3, .inl (c3, 8, .inl (gRunX true kf bf of)))] [(c1, .byte), (c2, .byte), (c3, .byte)]) (va_A [(h0, .inr (0, [.ref h1, .ref h2, .ref h3])), (h1, .inl (c1, 32, .inl kf)), (h2, .inl (c2, 8, .inl bf)), (h3, .inl (c3, 8, .inl of))] sz)) 5 76 (va_A [(h0, .inr (0, [.ref h1, .ref h2, .ref h3])), (h1, .inl (c1, 32, .inl kf)), (h2, .inl (c2, 8, .inl bf)), (h3, .inl (c3, 8, .inl of))] sz) := by
  refine gMetW (fun A => va_Qv (fun _ : Unit => True) (fun _ => gBw D A [(h0, .inr (0, [.ref h1, .ref h2, .ref h3])), (h1, .inl (c1, 32, .inl kf)), (h2, .inl (c2, 8, .inl bf)), (h3, .inl (c3, 8, .inl (gRunX true kf bf of)))] [(c1, .byte), (c2, .byte), (c3, .byte)]) A) (by decide) (Nat.le_of_ble_eq_true rfl) ?_
  intro p e s m below meth c A ls hx hb hr hts hown hlocks hin hml hAe hA hsz hP hK hD hZ hS hl
  have hl : lv_has ls 2 [(0, .ref h0), (1, .int p1)] := hl
  refine lv_aload_n hx hb dX0_lock_0 rfl (lv_at hl 0 rfl) ?_
  refine lv_iconst (v := 1) hx hb dX0_lock_1 (by decide) ?_
  refine g_top (gBi true) rfl ?_
  refine lv_iload_n hx hb dX0_lock_2 rfl (lv_at hl 1 rfl) ?_
  have hPc := hP.sub (ws' := [(h0, .inr (0, [.ref h1, .ref h2, .ref h3])), (h1, .inl (c1, 32, .inl kf)), (h2, .inl (c2, 8, .inl bf)), (h3, .inl (c3, 8, .inl of))]) [0, 1, 2, 3] rfl
  have hDc := hD.sub (ws' := [(h0, .inr (0, [.ref h1, .ref h2, .ref h3])), (h1, .inl (c1, 32, .inl kf)), (h2, .inl (c2, 8, .inl bf)), (h3, .inl (c3, 8, .inl of))]) [0, 1, 2, 3] (by decide) rfl
  have hKc := hK.sub (tys' := [(c1, .byte), (c2, .byte), (c3, .byte)]) [0, 1, 2] rfl
  have hFc := va_free (wc := [(h0, .inr (0, [.ref h1, .ref h2, .ref h3])), (h1, .inl (c1, 32, .inl kf)), (h2, .inl (c2, 8, .inl bf)), (h3, .inl (c3, 8, .inl of))]) hD hS hA [0, 1, 2, 3] rfl
  refine va_callv (va_runV (As := [.int (gBi true), .int p1]) (rest := []) ⟨hx, hb, hml, hown, hts⟩ (mX0_run l D h0 h1 h2 h3 c1 c2 c3 kf bf of true p1 s.heap.size tS tR) (cwV 2 hts (lw_V q57 q59 qs0 q9 q60) rfl rfl rfl (by decide +kernel) ⟨Nat.le_of_ble_eq_true rfl, Nat.le_of_ble_eq_true rfl⟩) ⟨gPw_blind, va_recv hK hP (ci := 0) (q0 := 0) rfl rfl, gPw_of hPc hKc hDc hZ hS hFc⟩ rfl rfl hl.1 rfl (lv_room (Nat.le_of_ble_eq_true rfl)) dX0_lock_3 ⟨Nat.le_of_ble_eq_true rfl, Nat.le_of_ble_eq_true rfl⟩) hS (fun q _ h => hFc q h) hFc (fun u t H1 locs ht hvm hw hB hz1 hk1 hS => ?_)
  obtain ⟨hP1, hK1, hD1⟩ := hB
  rw [ht] at hP1
  have hK1 := va_K.moved hvm.symm hK1
  obtain ⟨hP, hD⟩ := va_join (wr := []) (w1 := [(h0, .inr (0, [.ref h1, .ref h2, .ref h3])), (h1, .inl (c1, 32, .inl kf)), (h2, .inl (c2, 8, .inl bf)), (h3, .inl (c3, 8, .inl (gRunX true kf bf of)))]) hP hD [0, 1, 2, 3] [] rfl rfl (by decide) (by decide) hk1 hFc hP1 hD1
  have hK := (hK.sub (tys' := [(c1, .byte), (c2, .byte), (c3, .byte)]) [0, 1, 2] rfl).app (hK1.sub (tys' := []) [] rfl)
  generalize H1 = H at hP hS ⊢
  have hP : va_P D vwCl [(h0, .inr (0, [.ref h1, .ref h2, .ref h3])), (h1, .inl (c1, 32, .inl kf)), (h2, .inl (c2, 8, .inl bf)), (h3, .inl (c3, 8, .inl (gRunX true kf bf of)))] H := hP
  have hD : va_D A [(h0, .inr (0, [.ref h1, .ref h2, .ref h3])), (h1, .inl (c1, 32, .inl kf)), (h2, .inl (c2, 8, .inl bf)), (h3, .inl (c3, 8, .inl (gRunX true kf bf of)))] := hD
  have hK : va_K D vwCl [(c1, .byte), (c2, .byte), (c3, .byte)] s := hK
  refine W.widen (k := 5) (n := 76) (Nat.le_of_ble_eq_true rfl) (Nat.le_of_ble_eq_true rfl) ?_
  exact g_vret hx hb hr hP hK hD hS hlocks dX0_lock_6
set_option maxHeartbeats 4000000 in
set_option maxRecDepth 100000 in
/-- GostDesk.unlock -/
theorem mX0_open (l : Launch) (D : va_G) (h0 h1 h2 h3 : Nat) (c1 c2 c3 : ClassId) (kf bf of : Nat → Int32) (p1 : Int32) (sz tS tR : Nat) : Met l yX0_open (ws_ yX0_open cX0_open 2 none) ({ frames := 5, cells := 5, slots := 76, locals := 129 }) (va_Pc [.ref h0, .int p1] (gPw D sz [(h0, .inr (0, [.ref h1, .ref h2, .ref h3])), (h1, .inl (c1, 32, .inl kf)), (h2, .inl (c2, 8, .inl bf)), (h3, .inl (c3, 8, .inl of))] [(c1, .byte), (c2, .byte), (c3, .byte)] tS tR)) (va_Qv (fun _ : Unit => True) (fun _ => gBw D (va_A [(h0, .inr (0, [.ref h1, .ref h2, .ref h3])), (h1, .inl (c1, 32, .inl kf)), (h2, .inl (c2, 8, .inl bf)), (h3, .inl (c3, 8, .inl of))] sz) [(h0, .inr (0, [.ref h1, .ref h2, .ref h3])), (h1, .inl (c1, 32, .inl kf)), (h2, .inl (c2, 8, .inl bf)), (h3, .inl (c3, 8, .inl (gRunX false kf bf of)))] [(c1, .byte), (c2, .byte), (c3, .byte)]) (va_A [(h0, .inr (0, [.ref h1, .ref h2, .ref h3])), (h1, .inl (c1, 32, .inl kf)), (h2, .inl (c2, 8, .inl bf)), (h3, .inl (c3, 8, .inl of))] sz)) 5 76 (va_A [(h0, .inr (0, [.ref h1, .ref h2, .ref h3])), (h1, .inl (c1, 32, .inl kf)), (h2, .inl (c2, 8, .inl bf)), (h3, .inl (c3, 8, .inl of))] sz) := by
  refine gMetW (fun A => va_Qv (fun _ : Unit => True) (fun _ => gBw D A [(h0, .inr (0, [.ref h1, .ref h2, .ref h3])), (h1, .inl (c1, 32, .inl kf)), (h2, .inl (c2, 8, .inl bf)), (h3, .inl (c3, 8, .inl (gRunX false kf bf of)))] [(c1, .byte), (c2, .byte), (c3, .byte)]) A) (by decide) (Nat.le_of_ble_eq_true rfl) ?_
  intro p e s m below meth c A ls hx hb hr hts hown hlocks hin hml hAe hA hsz hP hK hD hZ hS hl
  have hl : lv_has ls 2 [(0, .ref h0), (1, .int p1)] := hl
  refine lv_aload_n hx hb dX0_open_0 rfl (lv_at hl 0 rfl) ?_
  refine lv_iconst (v := 0) hx hb dX0_open_1 (by decide) ?_
  refine g_top (gBi false) rfl ?_
  refine lv_iload_n hx hb dX0_open_2 rfl (lv_at hl 1 rfl) ?_
  have hPc := hP.sub (ws' := [(h0, .inr (0, [.ref h1, .ref h2, .ref h3])), (h1, .inl (c1, 32, .inl kf)), (h2, .inl (c2, 8, .inl bf)), (h3, .inl (c3, 8, .inl of))]) [0, 1, 2, 3] rfl
  have hDc := hD.sub (ws' := [(h0, .inr (0, [.ref h1, .ref h2, .ref h3])), (h1, .inl (c1, 32, .inl kf)), (h2, .inl (c2, 8, .inl bf)), (h3, .inl (c3, 8, .inl of))]) [0, 1, 2, 3] (by decide) rfl
  have hKc := hK.sub (tys' := [(c1, .byte), (c2, .byte), (c3, .byte)]) [0, 1, 2] rfl
  have hFc := va_free (wc := [(h0, .inr (0, [.ref h1, .ref h2, .ref h3])), (h1, .inl (c1, 32, .inl kf)), (h2, .inl (c2, 8, .inl bf)), (h3, .inl (c3, 8, .inl of))]) hD hS hA [0, 1, 2, 3] rfl
  refine va_callv (va_runV (As := [.int (gBi false), .int p1]) (rest := []) ⟨hx, hb, hml, hown, hts⟩ (mX0_run l D h0 h1 h2 h3 c1 c2 c3 kf bf of false p1 s.heap.size tS tR) (cwV 2 hts (lw_V q57 q59 qs0 q9 q60) rfl rfl rfl (by decide +kernel) ⟨Nat.le_of_ble_eq_true rfl, Nat.le_of_ble_eq_true rfl⟩) ⟨gPw_blind, va_recv hK hP (ci := 0) (q0 := 0) rfl rfl, gPw_of hPc hKc hDc hZ hS hFc⟩ rfl rfl hl.1 rfl (lv_room (Nat.le_of_ble_eq_true rfl)) dX0_open_3 ⟨Nat.le_of_ble_eq_true rfl, Nat.le_of_ble_eq_true rfl⟩) hS (fun q _ h => hFc q h) hFc (fun u t H1 locs ht hvm hw hB hz1 hk1 hS => ?_)
  obtain ⟨hP1, hK1, hD1⟩ := hB
  rw [ht] at hP1
  have hK1 := va_K.moved hvm.symm hK1
  obtain ⟨hP, hD⟩ := va_join (wr := []) (w1 := [(h0, .inr (0, [.ref h1, .ref h2, .ref h3])), (h1, .inl (c1, 32, .inl kf)), (h2, .inl (c2, 8, .inl bf)), (h3, .inl (c3, 8, .inl (gRunX false kf bf of)))]) hP hD [0, 1, 2, 3] [] rfl rfl (by decide) (by decide) hk1 hFc hP1 hD1
  have hK := (hK.sub (tys' := [(c1, .byte), (c2, .byte), (c3, .byte)]) [0, 1, 2] rfl).app (hK1.sub (tys' := []) [] rfl)
  generalize H1 = H at hP hS ⊢
  have hP : va_P D vwCl [(h0, .inr (0, [.ref h1, .ref h2, .ref h3])), (h1, .inl (c1, 32, .inl kf)), (h2, .inl (c2, 8, .inl bf)), (h3, .inl (c3, 8, .inl (gRunX false kf bf of)))] H := hP
  have hD : va_D A [(h0, .inr (0, [.ref h1, .ref h2, .ref h3])), (h1, .inl (c1, 32, .inl kf)), (h2, .inl (c2, 8, .inl bf)), (h3, .inl (c3, 8, .inl (gRunX false kf bf of)))] := hD
  have hK : va_K D vwCl [(c1, .byte), (c2, .byte), (c3, .byte)] s := hK
  refine W.widen (k := 5) (n := 76) (Nat.le_of_ble_eq_true rfl) (Nat.le_of_ble_eq_true rfl) ?_
  exact g_vret hx hb hr hP hK hD hS hlocks dX0_open_6
set_option maxHeartbeats 4000000 in
set_option maxRecDepth 100000 in
/-- GostDesk.again -/
theorem mX0_again (l : Launch) (D : va_G) (h0 h1 h2 h3 : Nat) (c1 c2 c3 : ClassId) (kf bf of : Nat → Int32) (sz tS tR : Nat) : Met l yX0_again (ws_ yX0_again cX0_again 2 none) ({ frames := 0, cells := 0, slots := 0, locals := 0 }) (va_Pc [.ref h0] (gPw D sz [(h0, .inr (0, [.ref h1, .ref h2, .ref h3])), (h1, .inl (c1, 32, .inl kf)), (h2, .inl (c2, 8, .inl bf)), (h3, .inl (c3, 8, .inl of))] [(c1, .byte), (c2, .byte), (c3, .byte)] tS tR)) (va_Qv (fun _ : Unit => True) (fun _ => gBw D (va_A [(h0, .inr (0, [.ref h1, .ref h2, .ref h3])), (h1, .inl (c1, 32, .inl kf)), (h2, .inl (c2, 8, .inl bf)), (h3, .inl (c3, 8, .inl of))] sz) [(h0, .inr (0, [.ref h1, .ref h2, .ref h3])), (h1, .inl (c1, 32, .inl kf)), (h2, .inl (c2, 8, .inl (gCopB bf of 8))), (h3, .inl (c3, 8, .inl of))] [(c1, .byte), (c2, .byte), (c3, .byte)]) (va_A [(h0, .inr (0, [.ref h1, .ref h2, .ref h3])), (h1, .inl (c1, 32, .inl kf)), (h2, .inl (c2, 8, .inl bf)), (h3, .inl (c3, 8, .inl of))] sz)) 0 0 (va_A [(h0, .inr (0, [.ref h1, .ref h2, .ref h3])), (h1, .inl (c1, 32, .inl kf)), (h2, .inl (c2, 8, .inl bf)), (h3, .inl (c3, 8, .inl of))] sz) := by
  refine gMetW (fun A => va_Qv (fun _ : Unit => True) (fun _ => gBw D A [(h0, .inr (0, [.ref h1, .ref h2, .ref h3])), (h1, .inl (c1, 32, .inl kf)), (h2, .inl (c2, 8, .inl (gCopB bf of 8))), (h3, .inl (c3, 8, .inl of))] [(c1, .byte), (c2, .byte), (c3, .byte)]) A) (by decide) (Nat.le_of_ble_eq_true rfl) ?_
  intro p e s m below meth c A ls hx hb hr hts hown hlocks hin hml hAe hA hsz hP hK hD hZ hS hl
  have hl : lv_has ls 2 [(0, .ref h0)] := hl
  have loop : ∀ (n i : Nat), i ≤ 8 → 9 ≤ i + n → ∀ (H : Heap) (locs : List Loc), va_P D vwCl [(h0, .inr (0, [.ref h1, .ref h2, .ref h3])), (h1, .inl (c1, 32, .inl kf)), (h2, .inl (c2, 8, .inl (gCopB bf of i))), (h3, .inl (c3, 8, .inl of))] H → va_D A [(h0, .inr (0, [.ref h1, .ref h2, .ref h3])), (h1, .inl (c1, 32, .inl kf)), (h2, .inl (c2, 8, .inl (gCopB bf of i))), (h3, .inl (c3, 8, .inl of))] → va_S A s.heap H locs → ∀ ls : Array Slot, lv_has ls 2 [(0, .ref h0), (1, .int (nI i))] → W p l e (headSpec (ws_ yX0_again cX0_again 2 none) ({ frames := 0, cells := 0, slots := 0, locals := 0 })).room s m ([.ref h0] : List Value).toArray below meth c H locs 0 0 (MQ below (va_Qv (fun _ : Unit => True) (fun _ => gBw D A [(h0, .inr (0, [.ref h1, .ref h2, .ref h3])), (h1, .inl (c1, 32, .inl kf)), (h2, .inl (c2, 8, .inl (gCopB bf of 8))), (h3, .inl (c3, 8, .inl of))] [(c1, .byte), (c2, .byte), (c3, .byte)]) A) ([.ref h0] : List Value).toArray s 0 0 A) (F0 m 2 ls []) := by
    intro n
    induction n with
    | zero => intro i k1 k2; exact absurd k2 (by omega)
    | succ n ih =>
      intro i k1 k2 H locs hP hD hS ls hl
      refine lv_iload_n hx hb dX0_again_2 rfl (lv_at hl 1 rfl) ?_
      refine lv_bipush (v := 8) hx hb dX0_again_3 (by decide) ?_
      refine lv_icmp_ge (tgt := 26) hx hb dX0_again_5 (by decide) (fun c5 => ?_) (fun c5 => ?_)
      · obtain rfl : i = 8 := Nat.le_antisymm k1 ((nI_leI (a := 8) (b := i) (by omega) (by omega)).mp c5)
        exact g_vret hx hb hr hP hK hD hS hlocks dX0_again_26
      · have hi : i < 8 := Nat.lt_of_not_le fun q => c5 (nI_le (a := 8) (b := i) q (by omega))
        refine lv_aload_n hx hb dX0_again_8 rfl (lv_at hl 0 rfl) ?_
        refine va_get (D := D) (ci := 0) (v := .ref h2) (C := RX0) (T := TX0) (N := 3) hx hb hts in_X0 hown hK hP 0 rfl rfl 1 (by decide) (hts _ q32) (fun _ h9 => h9) rfl dX0_again_9 ?_
        refine lv_iload_n hx hb dX0_again_12 rfl (lv_at hl 1 rfl) ?_
        refine lv_aload_n hx hb dX0_again_13 rfl (lv_at hl 0 rfl) ?_
        refine va_get (D := D) (ci := 0) (v := .ref h3) (C := RX0) (T := TX0) (N := 3) hx hb hts in_X0 hown hK hP 0 rfl rfl 2 (by decide) (hts _ q33) (fun _ h9 => h9) rfl dX0_again_14 ?_
        refine lv_iload_n hx hb dX0_again_17 rfl (lv_at hl 1 rfl) ?_
        refine g_bald hx hb hK hP 3 2 rfl rfl (i) rfl hi (by decide) dX0_again_18 ?_
        refine g_bast (g := gCopB bf of (i + 1)) hx hb hK hP hD hS 2 1 rfl rfl (i) rfl hi (by decide) (gCopB_s bf of i) dX0_again_19 (fun H locs hP hD hS => ?_)
        have hP : va_P D vwCl [(h0, .inr (0, [.ref h1, .ref h2, .ref h3])), (h1, .inl (c1, 32, .inl kf)), (h2, .inl (c2, 8, .inl (gCopB bf of (i + 1)))), (h3, .inl (c3, 8, .inl of))] H := hP
        have hD : va_D A [(h0, .inr (0, [.ref h1, .ref h2, .ref h3])), (h1, .inl (c1, 32, .inl kf)), (h2, .inl (c2, 8, .inl (gCopB bf of (i + 1)))), (h3, .inl (c3, 8, .inl of))] := hD
        refine lv_iinc (v := (nI (i + 1))) (lv' := [(1, .int (nI (i + 1))), (0, .ref h0)]) hx hb dX0_again_20 hl (k := 1) rfl (nI_1 i) (by decide) rfl (fun ls hl => ?_)
        refine lv_goto (tgt := 2) hx hb dX0_again_23 (by decide) ?_
        exact ih (i + 1) hi (by omega) H locs hP hD hS ls (lv_sub hl [1, 0] rfl)
  refine lv_iconst (v := 0) hx hb dX0_again_0 (by decide) ?_
  refine g_top (nI 0) rfl ?_
  refine lv_istore_n (lv' := [(1, .int (nI 0)), (0, .ref h0)]) hx hb dX0_again_1 rfl hl (by decide) rfl (fun ls hl => ?_)
  exact loop 9 0 (by omega) (by omega) s.heap [] (by rw [gCopB_0]; exact hP) (by rw [gCopB_0]; exact hD) hS ls (lv_sub hl [1, 0] rfl)
set_option maxHeartbeats 4000000 in
set_option maxRecDepth 100000 in
/-- GostDesk.out -/
theorem mX0_out (l : Launch) (D : va_G) (h0 h1 h2 h3 : Nat) (c1 c2 c3 : ClassId) (kf bf of : Nat → Int32) (p1 : Int32) (tS tR : Nat) : Met l yX0_out (ws_ yX0_out cX0_out 2 (some .int)) ({ frames := 0, cells := 0, slots := 0, locals := 0 }) (va_Pc [.ref h0, .int p1] (gPr D [(h0, .inr (0, [.ref h1, .ref h2, .ref h3])), (h1, .inl (c1, 32, .inl kf)), (h2, .inl (c2, 8, .inl bf)), (h3, .inl (c3, 8, .inl of))] [(c1, .byte), (c2, .byte), (c3, .byte)] tS tR)) (vp_Si (fun z => z = of (gAt p1) &&& 255)) 0 0 (fun _ => False) := by
  refine gMetR (vp_Si (fun z => z = of (gAt p1) &&& 255)) (by decide) (Nat.le_of_ble_eq_true rfl) ?_
  intro p e s m below meth c ls hx hb hr hts hown hlocks hml hP hK hZ hS hl
  have hl : lv_has ls 2 [(0, .ref h0), (1, .int p1)] := hl
  refine lv_aload_n hx hb dX0_out_0 rfl (lv_at hl 0 rfl) ?_
  refine va_get (D := D) (ci := 0) (v := .ref h3) (C := RX0) (T := TX0) (N := 3) hx hb hts in_X0 hown hK hP 0 rfl rfl 2 (by decide) (hts _ q33) (fun _ h9 => h9) rfl dX0_out_1 ?_
  refine lv_iload_n hx hb dX0_out_4 rfl (lv_at hl 1 rfl) ?_
  refine lv_bipush (v := 7) hx hb dX0_out_5 (by decide) ?_
  refine lv_iand hx hb dX0_out_7 ?_
  refine g_top (nI (gAt p1)) (g_and7 p1) ?_
  refine g_bald hx hb hK hP 3 2 rfl rfl (gAt p1) rfl (gAt_lt p1) (by decide) dX0_out_8 ?_
  refine lv_sipush (v := 255) hx hb dX0_out_9 (by decide) ?_
  refine lv_iand hx hb dX0_out_12 ?_
  exact g_iret hx hb hr rfl hlocks dX0_out_13
end
section
/-! THE CLAIM OUT OF ONE WALK OF THE LAW'S BODY. Your part is whole_start (and what it stands on); all else here is the same for every law, but numbers. -/
def R_law : String := "GostDeskLaw"
def lw_P (b : Addr) (xs : List Int32) (args : Array Value) (s : State) : Prop := args = #[.ref b] ∧ s.IntsAt b xs ∧ xs.length ≤ 288 ∧ (Jvm.Cond.and given_1 narrow_1).before args s = true
def lw_Q (_ : Array Value) (s : State) (o : Outcome) (t : State) : Prop := o = .returned (some (.int 1)) ∧ Framed s o t [] 600096 7301386
def lw_Z (below : List Frame) (a : Array Value) (s : State) : State → Prop := fun t => ∃ o, t.status = .running ∧ Ended t below o ∧ lw_Q a s o t
/-- the law's own end, with 1 on the stack, nothing written that was there before, its room as the claim has it -/
theorem lw_ret {p : Program} {l : Launch} {e : Env} {s : State} {m : MethodId} {below : List Frame} {meth : Method} {c : Code} {b : Nat} (hx : p.tables.exec = Jvm.exec) (hb : c.code = code) (hr : meth.sig.returnType = ret) (hlocks : meth.locks = false) {pc : Nat} {H : Heap} {ls : Array Slot} (hdg : decode code pc = .ok (.ireturn, 1)) : W p l e room_1 s m #[Value.ref b] below meth c H [] 600096 7301386 (lw_Z below #[Value.ref b] s) (F0 m pc ls [.int 1]) := by
  intro T hT X
  obtain ⟨fs, hret, hrun, hended, hW, hframe⟩ := X.leave (v := some (.int 1)) (hlocks := hlocks) (fun h => by rw [hr] at h; cases h)
  have hmeth' : T.vm.method? m = some meth := X.method'
  refine ⟨T.setFrames fs, ?_, .returned (some (.int 1)), hrun, hended, rfl, ⟨_, rfl⟩, hW, hframe⟩
  jvm_step X.here [X.here.top, hx, hb, hdg, hmeth', hr, ret, narrow_b1]
  (try refine ⟨rfl, ?_⟩); (try refine ⟨rfl, ?_⟩)
  first | (intro acts; rw [hret _ acts rfl rfl rfl]) | rw [hret _ _ rfl rfl rfl]
  exact Steps.refl _
/-- what holds at the law's entry: the machine, the code, the tables' words (any of lw_tbl by 'hts w (by decide +kernel)'), the script of L ints xs at the cell b, what the Statement gives of the start (any of its parts by flat_of_before) -/
def lw_At (p : Program) (s : State) (m : MethodId) (meth : Method) (c : Code) (b L : Nat) (xs : Nat → Int32) : Prop :=
  p.tables.exec = Jvm.exec ∧ c.code = code ∧ meth.sig.returnType = ret ∧ c.maxLocals = 4 ∧ s.vm.findClass R_law = some m.cls ∧ (∀ w ∈ lw_tbl, w.before #[Value.ref b] s = true) ∧ va_X b L xs s s.heap ∧ b < s.heap.size ∧ meth.locks = false ∧ (Jvm.Cond.and given_1 narrow_1).before #[Value.ref b] s = true
/-! ===== the law's loop ===== -/
section GLW
variable {p : Program} {l : Launch} {e : Env} {R : Room} {s : State} {m : MethodId} {args : Array Value} {below : List Frame} {meth : Method} {c : Code} {H : Heap} {locs : List Loc} {cells slots : Nat} {Q : State → Prop}
variable {cc : ByteArray} {pc : Nat} {ls : Array Slot} {rest : List Value} {A : Nat → Prop} {H0 : Heap}
theorem g_sld (hexec : p.tables.exec = Jvm.exec) (hb : c.code = cc) {b L : Nat} {xs : Nat → Int32} (hX : va_X b L xs s H0) (hbl : b < H0.size) (hbA : ¬ A b) (hS : va_S A H0 H locs) {i : Int32} (k : Nat) (hk : i = nI k) (hn : k < L) (hN : L < 2 ^ 31) (hdg : decode cc pc = .ok (.iaload, 1))
    (kk : W p l e R s m args below meth c H locs cells slots Q (F0 m (pc + 1) ls (.int (xs k) :: rest))) : W p l e R s m args below meth c H locs cells slots Q (F0 m pc ls (.int i :: .ref b :: rest)) := by
  subst hk
  refine va_sld hexec hb hX hbl hbA hS (vp_in_nI hn hN) hdg ?_
  rw [nI_clamp (Nat.lt_trans hn hN)]
  exact kk
end GLW
theorem g_head {t L : Nat} (ht : t ≤ 48) (hL : L ≤ 288) (h : ¬ nI L - 6 < nI (6 * t)) : 6 * t + 6 ≤ L := by
  have e : (nI L - 6).toInt = (L : Int) - 6 := pk_sub_toInt (a := L) (b := 6) (by omega) (by omega)
  rw [Int32.lt_iff_toInt_lt, e, nI_toInt (by omega)] at h
  omega
/-- at pc, with the objects' memory in agreement: the law comes to its end -/
def gAt8 (p : Program) (l : Launch) (e : Env) (s : State) (m : MethodId) (below : List Frame) (meth : Method) (c : Code) (D : va_G) (A : Nat → Prop) (b : Nat) (x0 x1 x2 x3 y0 y1 y2 y3 : Nat) (c1 c2 c3 c4 c5 c6 : ClassId) (i : Int32) (C S pc : Nat) : Prop :=
  ∀ (kf bf of km bm om : Nat → Int32), gR 32 kf km → gR 8 bf bm → gR 8 of om → ∀ (H : Heap) (locs : List Loc), va_P D vwCl [(x0, .inr (0, [.ref x1, .ref x2, .ref x3])), (x1, .inl (c1, 32, .inl kf)), (x2, .inl (c2, 8, .inl bf)), (x3, .inl (c3, 8, .inl of)), (y0, .inr (1, [.ref y1, .ref y2, .ref y3])), (y1, .inl (c4, 32, .inl km)), (y2, .inl (c5, 8, .inl bm)), (y3, .inl (c6, 8, .inl om))] H → va_D A [(x0, .inr (0, [.ref x1, .ref x2, .ref x3])), (x1, .inl (c1, 32, .inl kf)), (x2, .inl (c2, 8, .inl bf)), (x3, .inl (c3, 8, .inl of)), (y0, .inr (1, [.ref y1, .ref y2, .ref y3])), (y1, .inl (c4, 32, .inl km)), (y2, .inl (c5, 8, .inl bm)), (y3, .inl (c6, 8, .inl om))] → va_S A s.heap H locs → ∀ ls : Array Slot, lv_has ls 4 [(0, .ref b), (1, .ref x0), (2, .ref y0), (3, .int i)] → W p l e room_1 s m #[Value.ref b] below meth c H locs C S (lw_Z below #[Value.ref b] s) (F0 m pc ls [])
end
section
set_option maxHeartbeats 4000000 in
set_option maxRecDepth 100000 in
/-- case 0 of the law's switch -/
theorem law_case0 {p : Program} {l : Launch} {e : Env} {s : State} {m : MethodId} {below : List Frame} {meth : Method} {c : Code} {D : va_G} {A : Nat → Prop} {tS tR : Nat} {b L : Nat} {xs : Nat → Int32} (hL : L ≤ 288) (hAe : A = fun q : Nat => s.heap.size ≤ q) (C0 : lw_At p s m meth c b L xs) (hZ : gZ tS tR A s s.heap) (x0 x1 x2 x3 y0 y1 y2 y3 : Nat) (c1 c2 c3 c4 c5 c6 : ClassId) (hK : va_K D vwCl [(c1, .byte), (c2, .byte), (c3, .byte), (c4, .int), (c5, .int), (c6, .int)] s) (t : Nat) (kt : t ≤ 48) (h6 : 6 * t + 6 ≤ L) (next : gAt8 p l e s m below meth c D A b x0 x1 x2 x3 y0 y1 y2 y3 c1 c2 c3 c4 c5 c6 (nI (6 * t)) (8 + 5 * (t + 1)) (102 + 76 * (t + 1)) 240) : gAt8 p l e s m below meth c D A b x0 x1 x2 x3 y0 y1 y2 y3 c1 c2 c3 c4 c5 c6 (nI (6 * t)) (8 + 5 * t) (102 + 76 * t) 72 := by
  obtain ⟨hx, hb, hr, hml, hown, hts0, hX, hbl, hlocks, hgv⟩ := C0
  have hts : ∀ w ∈ lw_all, w.before #[Value.ref b] s = true := fun w h => hts0 w (lw_all_tbl h)
  have hA : ∀ q : Nat, s.heap.size ≤ q → A q := fun q h => by rw [hAe]; exact h
  have hbA : ¬ A b := fun h => by rw [hAe] at h; exact absurd hbl (Nat.not_lt.mpr h)
  intro kf bf of km bm om hRk hRb hRo H locs hP hD hS ls hl
  refine lv_aload_n hx hb dL_law_72 rfl (lv_at hl 1 rfl) ?_
  refine lv_aload_n hx hb dL_law_73 rfl (lv_at hl 0 rfl) ?_
  refine lv_iload_n hx hb dL_law_74 rfl (lv_at hl 3 rfl) ?_
  refine lv_iconst (v := 1) hx hb dL_law_75 (by decide) ?_
  refine lv_iadd hx hb dL_law_76 ?_
  refine g_top (nI (6 * t + 1)) (nI_add (6 * t) 1) ?_
  refine g_sld hx hb hX hbl hbA hS (6 * t + 1) rfl (by omega) (by omega) dL_law_77 ?_
  refine lv_aload_n hx hb dL_law_78 rfl (lv_at hl 0 rfl) ?_
  refine lv_iload_n hx hb dL_law_79 rfl (lv_at hl 3 rfl) ?_
  refine lv_iconst (v := 2) hx hb dL_law_80 (by decide) ?_
  refine lv_iadd hx hb dL_law_81 ?_
  refine g_top (nI (6 * t + 2)) (nI_add (6 * t) 2) ?_
  refine g_sld hx hb hX hbl hbA hS (6 * t + 2) rfl (by omega) (by omega) dL_law_82 ?_
  refine lv_aload_n hx hb dL_law_83 rfl (lv_at hl 0 rfl) ?_
  refine lv_iload_n hx hb dL_law_84 rfl (lv_at hl 3 rfl) ?_
  refine lv_iconst (v := 3) hx hb dL_law_85 (by decide) ?_
  refine lv_iadd hx hb dL_law_86 ?_
  refine g_top (nI (6 * t + 3)) (nI_add (6 * t) 3) ?_
  refine g_sld hx hb hX hbl hbA hS (6 * t + 3) rfl (by omega) (by omega) dL_law_87 ?_
  refine lv_aload_n hx hb dL_law_88 rfl (lv_at hl 0 rfl) ?_
  refine lv_iload_n hx hb dL_law_89 rfl (lv_at hl 3 rfl) ?_
  refine lv_iconst (v := 4) hx hb dL_law_90 (by decide) ?_
  refine lv_iadd hx hb dL_law_91 ?_
  refine g_top (nI (6 * t + 4)) (nI_add (6 * t) 4) ?_
  refine g_sld hx hb hX hbl hbA hS (6 * t + 4) rfl (by omega) (by omega) dL_law_92 ?_
  refine lv_aload_n hx hb dL_law_93 rfl (lv_at hl 0 rfl) ?_
  refine lv_iload_n hx hb dL_law_94 rfl (lv_at hl 3 rfl) ?_
  refine lv_iconst (v := 5) hx hb dL_law_95 (by decide) ?_
  refine lv_iadd hx hb dL_law_96 ?_
  refine g_top (nI (6 * t + 5)) (nI_add (6 * t) 5) ?_
  refine g_sld hx hb hX hbl hbA hS (6 * t + 5) rfl (by omega) (by omega) dL_law_97 ?_
  have hPc := hP.sub (ws' := [(x0, .inr (0, [.ref x1, .ref x2, .ref x3])), (x1, .inl (c1, 32, .inl kf)), (x2, .inl (c2, 8, .inl bf)), (x3, .inl (c3, 8, .inl of))]) [0, 1, 2, 3] rfl
  have hDc := hD.sub (ws' := [(x0, .inr (0, [.ref x1, .ref x2, .ref x3])), (x1, .inl (c1, 32, .inl kf)), (x2, .inl (c2, 8, .inl bf)), (x3, .inl (c3, 8, .inl of))]) [0, 1, 2, 3] (by decide) rfl
  have hKc := hK.sub (tys' := [(c1, .byte), (c2, .byte), (c3, .byte)]) [0, 1, 2] rfl
  have hFc := va_free (wc := [(x0, .inr (0, [.ref x1, .ref x2, .ref x3])), (x1, .inl (c1, 32, .inl kf)), (x2, .inl (c2, 8, .inl bf)), (x3, .inl (c3, 8, .inl of))]) hD hS hA [0, 1, 2, 3] rfl
  refine va_callv (va_runV (As := [.int (xs (6 * t + 1)), .int (xs (6 * t + 2)), .int (xs (6 * t + 3)), .int (xs (6 * t + 4)), .int (xs (6 * t + 5))]) (rest := []) ⟨hx, hb, hml, hown, hts⟩ (mX0_key l D x0 x1 x2 x3 c1 c2 c3 kf bf of (xs (6 * t + 1)) (xs (6 * t + 2)) (xs (6 * t + 3)) (xs (6 * t + 4)) (xs (6 * t + 5)) H.size tS tR) (cwV 5 hts (lw_V q42 q43 q44 q9 q45) rfl rfl rfl (by decide +kernel) ⟨Nat.le_of_ble_eq_true rfl, Nat.le_of_ble_eq_true rfl⟩) ⟨gPw_blind, va_recv hK hP (ci := 0) (q0 := 0) rfl rfl, gPw_of hPc hKc hDc hZ hS hFc⟩ rfl rfl hl.1 rfl (lv_room (Nat.le_of_ble_eq_true rfl)) dL_law_98 ⟨show 8 + 5 * t + 0 + 0 ≤ 600096 by omega, show 102 + 76 * t + 0 + 0 ≤ 7301386 by omega⟩) hS (fun q _ h => hFc q h) hFc (fun u tq H1 locs ht hvm hw hB hz1 hk1 hS => ?_)
  obtain ⟨hP1, hK1, hD1⟩ := hB
  rw [ht] at hP1
  have hK1 := va_K.moved hvm.symm hK1
  obtain ⟨hP, hD⟩ := va_join (wr := [(y0, .inr (1, [.ref y1, .ref y2, .ref y3])), (y1, .inl (c4, 32, .inl km)), (y2, .inl (c5, 8, .inl bm)), (y3, .inl (c6, 8, .inl om))]) (w1 := [(x0, .inr (0, [.ref x1, .ref x2, .ref x3])), (x1, .inl (c1, 32, .inl (gPut4 kf (16 * gHalf (xs (6 * t + 1))) (xs (6 * t + 2)) (xs (6 * t + 3)) (xs (6 * t + 4)) (xs (6 * t + 5))))), (x2, .inl (c2, 8, .inl bf)), (x3, .inl (c3, 8, .inl of))]) hP hD [0, 1, 2, 3] [4, 5, 6, 7] rfl rfl (by decide) (by decide) hk1 hFc hP1 hD1
  have hK := (hK.sub (tys' := [(c1, .byte), (c2, .byte), (c3, .byte), (c4, .int), (c5, .int), (c6, .int)]) [0, 1, 2, 3, 4, 5] rfl).app (hK1.sub (tys' := []) [] rfl)
  generalize H1 = H at hP hS ⊢
  have hP : va_P D vwCl [(y0, .inr (1, [.ref y1, .ref y2, .ref y3])), (y1, .inl (c4, 32, .inl km)), (y2, .inl (c5, 8, .inl bm)), (y3, .inl (c6, 8, .inl om)), (x0, .inr (0, [.ref x1, .ref x2, .ref x3])), (x1, .inl (c1, 32, .inl (gPut4 kf (16 * gHalf (xs (6 * t + 1))) (xs (6 * t + 2)) (xs (6 * t + 3)) (xs (6 * t + 4)) (xs (6 * t + 5))))), (x2, .inl (c2, 8, .inl bf)), (x3, .inl (c3, 8, .inl of))] H := hP
  have hD : va_D A [(y0, .inr (1, [.ref y1, .ref y2, .ref y3])), (y1, .inl (c4, 32, .inl km)), (y2, .inl (c5, 8, .inl bm)), (y3, .inl (c6, 8, .inl om)), (x0, .inr (0, [.ref x1, .ref x2, .ref x3])), (x1, .inl (c1, 32, .inl (gPut4 kf (16 * gHalf (xs (6 * t + 1))) (xs (6 * t + 2)) (xs (6 * t + 3)) (xs (6 * t + 4)) (xs (6 * t + 5))))), (x2, .inl (c2, 8, .inl bf)), (x3, .inl (c3, 8, .inl of))] := hD
  have hK : va_K D vwCl [(c1, .byte), (c2, .byte), (c3, .byte), (c4, .int), (c5, .int), (c6, .int)] s := hK
  refine W.widen (k := 8 + 5 * t + 0) (n := 102 + 76 * t + 0) (by omega) (by omega) ?_
  refine lv_aload_n hx hb dL_law_101 rfl (lv_at hl 2 rfl) ?_
  refine lv_aload_n hx hb dL_law_102 rfl (lv_at hl 0 rfl) ?_
  refine lv_iload_n hx hb dL_law_103 rfl (lv_at hl 3 rfl) ?_
  refine lv_iconst (v := 1) hx hb dL_law_104 (by decide) ?_
  refine lv_iadd hx hb dL_law_105 ?_
  refine g_top (nI (6 * t + 1)) (nI_add (6 * t) 1) ?_
  refine g_sld hx hb hX hbl hbA hS (6 * t + 1) rfl (by omega) (by omega) dL_law_106 ?_
  refine lv_aload_n hx hb dL_law_107 rfl (lv_at hl 0 rfl) ?_
  refine lv_iload_n hx hb dL_law_108 rfl (lv_at hl 3 rfl) ?_
  refine lv_iconst (v := 2) hx hb dL_law_109 (by decide) ?_
  refine lv_iadd hx hb dL_law_110 ?_
  refine g_top (nI (6 * t + 2)) (nI_add (6 * t) 2) ?_
  refine g_sld hx hb hX hbl hbA hS (6 * t + 2) rfl (by omega) (by omega) dL_law_111 ?_
  refine lv_aload_n hx hb dL_law_112 rfl (lv_at hl 0 rfl) ?_
  refine lv_iload_n hx hb dL_law_113 rfl (lv_at hl 3 rfl) ?_
  refine lv_iconst (v := 3) hx hb dL_law_114 (by decide) ?_
  refine lv_iadd hx hb dL_law_115 ?_
  refine g_top (nI (6 * t + 3)) (nI_add (6 * t) 3) ?_
  refine g_sld hx hb hX hbl hbA hS (6 * t + 3) rfl (by omega) (by omega) dL_law_116 ?_
  refine lv_aload_n hx hb dL_law_117 rfl (lv_at hl 0 rfl) ?_
  refine lv_iload_n hx hb dL_law_118 rfl (lv_at hl 3 rfl) ?_
  refine lv_iconst (v := 4) hx hb dL_law_119 (by decide) ?_
  refine lv_iadd hx hb dL_law_120 ?_
  refine g_top (nI (6 * t + 4)) (nI_add (6 * t) 4) ?_
  refine g_sld hx hb hX hbl hbA hS (6 * t + 4) rfl (by omega) (by omega) dL_law_121 ?_
  refine lv_aload_n hx hb dL_law_122 rfl (lv_at hl 0 rfl) ?_
  refine lv_iload_n hx hb dL_law_123 rfl (lv_at hl 3 rfl) ?_
  refine lv_iconst (v := 5) hx hb dL_law_124 (by decide) ?_
  refine lv_iadd hx hb dL_law_125 ?_
  refine g_top (nI (6 * t + 5)) (nI_add (6 * t) 5) ?_
  refine g_sld hx hb hX hbl hbA hS (6 * t + 5) rfl (by omega) (by omega) dL_law_126 ?_
  have hPc := hP.sub (ws' := [(y0, .inr (1, [.ref y1, .ref y2, .ref y3])), (y1, .inl (c4, 32, .inl km)), (y2, .inl (c5, 8, .inl bm)), (y3, .inl (c6, 8, .inl om))]) [0, 1, 2, 3] rfl
  have hDc := hD.sub (ws' := [(y0, .inr (1, [.ref y1, .ref y2, .ref y3])), (y1, .inl (c4, 32, .inl km)), (y2, .inl (c5, 8, .inl bm)), (y3, .inl (c6, 8, .inl om))]) [0, 1, 2, 3] (by decide) rfl
  have hKc := hK.sub (tys' := [(c4, .int), (c5, .int), (c6, .int)]) [3, 4, 5] rfl
  have hFc := va_free (wc := [(y0, .inr (1, [.ref y1, .ref y2, .ref y3])), (y1, .inl (c4, 32, .inl km)), (y2, .inl (c5, 8, .inl bm)), (y3, .inl (c6, 8, .inl om))]) hD hS hA [0, 1, 2, 3] rfl
  refine va_callv (va_runV (As := [.int (xs (6 * t + 1)), .int (xs (6 * t + 2)), .int (xs (6 * t + 3)), .int (xs (6 * t + 4)), .int (xs (6 * t + 5))]) (rest := []) ⟨hx, hb, hml, hown, hts⟩ (mX1_key l D y0 y1 y2 y3 c4 c5 c6 km bm om (xs (6 * t + 1)) (xs (6 * t + 2)) (xs (6 * t + 3)) (xs (6 * t + 4)) (xs (6 * t + 5)) H.size tS tR) (cwV 5 hts (lw_V q319 q320 q321 q10 q322) rfl rfl rfl (by decide +kernel) ⟨Nat.le_of_ble_eq_true rfl, Nat.le_of_ble_eq_true rfl⟩) ⟨gPw_blind, va_recv hK hP (ci := 1) (q0 := 0) rfl rfl, gPw_of hPc hKc hDc hZ hS hFc⟩ rfl rfl hl.1 rfl (lv_room (Nat.le_of_ble_eq_true rfl)) dL_law_127 ⟨show 8 + 5 * t + 0 + 0 ≤ 600096 by omega, show 102 + 76 * t + 0 + 0 ≤ 7301386 by omega⟩) hS (fun q _ h => hFc q h) hFc (fun u tq H1 locs ht hvm hw hB hz1 hk1 hS => ?_)
  obtain ⟨hP1, hK1, hD1⟩ := hB
  rw [ht] at hP1
  have hK1 := va_K.moved hvm.symm hK1
  obtain ⟨hP, hD⟩ := va_join (wr := [(x0, .inr (0, [.ref x1, .ref x2, .ref x3])), (x1, .inl (c1, 32, .inl (gPut4 kf (16 * gHalf (xs (6 * t + 1))) (xs (6 * t + 2)) (xs (6 * t + 3)) (xs (6 * t + 4)) (xs (6 * t + 5))))), (x2, .inl (c2, 8, .inl bf)), (x3, .inl (c3, 8, .inl of))]) (w1 := [(y0, .inr (1, [.ref y1, .ref y2, .ref y3])), (y1, .inl (c4, 32, .inl (gLay4 km (16 * gHalf (xs (6 * t + 1))) (xs (6 * t + 2)) (xs (6 * t + 3)) (xs (6 * t + 4)) (xs (6 * t + 5))))), (y2, .inl (c5, 8, .inl bm)), (y3, .inl (c6, 8, .inl om))]) hP hD [0, 1, 2, 3] [4, 5, 6, 7] rfl rfl (by decide) (by decide) hk1 hFc hP1 hD1
  have hK := (hK.sub (tys' := [(c1, .byte), (c2, .byte), (c3, .byte), (c4, .int), (c5, .int), (c6, .int)]) [0, 1, 2, 3, 4, 5] rfl).app (hK1.sub (tys' := []) [] rfl)
  generalize H1 = H at hP hS ⊢
  have hP : va_P D vwCl [(x0, .inr (0, [.ref x1, .ref x2, .ref x3])), (x1, .inl (c1, 32, .inl (gPut4 kf (16 * gHalf (xs (6 * t + 1))) (xs (6 * t + 2)) (xs (6 * t + 3)) (xs (6 * t + 4)) (xs (6 * t + 5))))), (x2, .inl (c2, 8, .inl bf)), (x3, .inl (c3, 8, .inl of)), (y0, .inr (1, [.ref y1, .ref y2, .ref y3])), (y1, .inl (c4, 32, .inl (gLay4 km (16 * gHalf (xs (6 * t + 1))) (xs (6 * t + 2)) (xs (6 * t + 3)) (xs (6 * t + 4)) (xs (6 * t + 5))))), (y2, .inl (c5, 8, .inl bm)), (y3, .inl (c6, 8, .inl om))] H := hP
  have hD : va_D A [(x0, .inr (0, [.ref x1, .ref x2, .ref x3])), (x1, .inl (c1, 32, .inl (gPut4 kf (16 * gHalf (xs (6 * t + 1))) (xs (6 * t + 2)) (xs (6 * t + 3)) (xs (6 * t + 4)) (xs (6 * t + 5))))), (x2, .inl (c2, 8, .inl bf)), (x3, .inl (c3, 8, .inl of)), (y0, .inr (1, [.ref y1, .ref y2, .ref y3])), (y1, .inl (c4, 32, .inl (gLay4 km (16 * gHalf (xs (6 * t + 1))) (xs (6 * t + 2)) (xs (6 * t + 3)) (xs (6 * t + 4)) (xs (6 * t + 5))))), (y2, .inl (c5, 8, .inl bm)), (y3, .inl (c6, 8, .inl om))] := hD
  have hK : va_K D vwCl [(c1, .byte), (c2, .byte), (c3, .byte), (c4, .int), (c5, .int), (c6, .int)] s := hK
  refine W.widen (k := 8 + 5 * t + 0) (n := 102 + 76 * t + 0) (by omega) (by omega) ?_
  refine lv_goto (tgt := 240) hx hb dL_law_130 (by decide) ?_
  have hP := hP.sub (ws' := [(x0, .inr (0, [.ref x1, .ref x2, .ref x3])), (x1, .inl (c1, 32, .inl (gPut4 kf (16 * gHalf (xs (6 * t + 1))) (xs (6 * t + 2)) (xs (6 * t + 3)) (xs (6 * t + 4)) (xs (6 * t + 5))))), (x2, .inl (c2, 8, .inl bf)), (x3, .inl (c3, 8, .inl of)), (y0, .inr (1, [.ref y1, .ref y2, .ref y3])), (y1, .inl (c4, 32, .inl (gLay4 km (16 * gHalf (xs (6 * t + 1))) (xs (6 * t + 2)) (xs (6 * t + 3)) (xs (6 * t + 4)) (xs (6 * t + 5))))), (y2, .inl (c5, 8, .inl bm)), (y3, .inl (c6, 8, .inl om))]) [0, 1, 2, 3, 4, 5, 6, 7] rfl
  have hD := hD.sub (ws' := [(x0, .inr (0, [.ref x1, .ref x2, .ref x3])), (x1, .inl (c1, 32, .inl (gPut4 kf (16 * gHalf (xs (6 * t + 1))) (xs (6 * t + 2)) (xs (6 * t + 3)) (xs (6 * t + 4)) (xs (6 * t + 5))))), (x2, .inl (c2, 8, .inl bf)), (x3, .inl (c3, 8, .inl of)), (y0, .inr (1, [.ref y1, .ref y2, .ref y3])), (y1, .inl (c4, 32, .inl (gLay4 km (16 * gHalf (xs (6 * t + 1))) (xs (6 * t + 2)) (xs (6 * t + 3)) (xs (6 * t + 4)) (xs (6 * t + 5))))), (y2, .inl (c5, 8, .inl bm)), (y3, .inl (c6, 8, .inl om))]) [0, 1, 2, 3, 4, 5, 6, 7] (by decide) rfl
  have hK := hK.sub (tys' := [(c1, .byte), (c2, .byte), (c3, .byte), (c4, .int), (c5, .int), (c6, .int)]) [0, 1, 2, 3, 4, 5] rfl
  refine W.widen (k := 8 + 5 * (t + 1)) (n := 102 + 76 * (t + 1)) (by omega) (by omega) ?_
  exact next (gPut4 kf (16 * gHalf (xs (6 * t + 1))) (xs (6 * t + 2)) (xs (6 * t + 3)) (xs (6 * t + 4)) (xs (6 * t + 5))) bf of (gLay4 km (16 * gHalf (xs (6 * t + 1))) (xs (6 * t + 2)) (xs (6 * t + 3)) (xs (6 * t + 4)) (xs (6 * t + 5))) bm om (gR_put4 hRk _ _ _ _ _) hRb hRo _ _ hP hD hS ls (lv_sub hl [0, 1, 2, 3] rfl)
end
section
set_option maxHeartbeats 4000000 in
set_option maxRecDepth 100000 in
/-- case 1 of the law's switch -/
theorem law_case1 {p : Program} {l : Launch} {e : Env} {s : State} {m : MethodId} {below : List Frame} {meth : Method} {c : Code} {D : va_G} {A : Nat → Prop} {tS tR : Nat} {b L : Nat} {xs : Nat → Int32} (hL : L ≤ 288) (hAe : A = fun q : Nat => s.heap.size ≤ q) (C0 : lw_At p s m meth c b L xs) (hZ : gZ tS tR A s s.heap) (x0 x1 x2 x3 y0 y1 y2 y3 : Nat) (c1 c2 c3 c4 c5 c6 : ClassId) (hK : va_K D vwCl [(c1, .byte), (c2, .byte), (c3, .byte), (c4, .int), (c5, .int), (c6, .int)] s) (t : Nat) (kt : t ≤ 48) (h6 : 6 * t + 6 ≤ L) (next : gAt8 p l e s m below meth c D A b x0 x1 x2 x3 y0 y1 y2 y3 c1 c2 c3 c4 c5 c6 (nI (6 * t)) (8 + 5 * (t + 1)) (102 + 76 * (t + 1)) 240) : gAt8 p l e s m below meth c D A b x0 x1 x2 x3 y0 y1 y2 y3 c1 c2 c3 c4 c5 c6 (nI (6 * t)) (8 + 5 * t) (102 + 76 * t) 133 := by
  obtain ⟨hx, hb, hr, hml, hown, hts0, hX, hbl, hlocks, hgv⟩ := C0
  have hts : ∀ w ∈ lw_all, w.before #[Value.ref b] s = true := fun w h => hts0 w (lw_all_tbl h)
  have hA : ∀ q : Nat, s.heap.size ≤ q → A q := fun q h => by rw [hAe]; exact h
  have hbA : ¬ A b := fun h => by rw [hAe] at h; exact absurd hbl (Nat.not_lt.mpr h)
  intro kf bf of km bm om hRk hRb hRo H locs hP hD hS ls hl
  refine lv_aload_n hx hb dL_law_133 rfl (lv_at hl 1 rfl) ?_
  refine lv_aload_n hx hb dL_law_134 rfl (lv_at hl 0 rfl) ?_
  refine lv_iload_n hx hb dL_law_135 rfl (lv_at hl 3 rfl) ?_
  refine lv_iconst (v := 1) hx hb dL_law_136 (by decide) ?_
  refine lv_iadd hx hb dL_law_137 ?_
  refine g_top (nI (6 * t + 1)) (nI_add (6 * t) 1) ?_
  refine g_sld hx hb hX hbl hbA hS (6 * t + 1) rfl (by omega) (by omega) dL_law_138 ?_
  refine lv_aload_n hx hb dL_law_139 rfl (lv_at hl 0 rfl) ?_
  refine lv_iload_n hx hb dL_law_140 rfl (lv_at hl 3 rfl) ?_
  refine lv_iconst (v := 2) hx hb dL_law_141 (by decide) ?_
  refine lv_iadd hx hb dL_law_142 ?_
  refine g_top (nI (6 * t + 2)) (nI_add (6 * t) 2) ?_
  refine g_sld hx hb hX hbl hbA hS (6 * t + 2) rfl (by omega) (by omega) dL_law_143 ?_
  have hPc := hP.sub (ws' := [(x0, .inr (0, [.ref x1, .ref x2, .ref x3])), (x1, .inl (c1, 32, .inl kf)), (x2, .inl (c2, 8, .inl bf)), (x3, .inl (c3, 8, .inl of))]) [0, 1, 2, 3] rfl
  have hDc := hD.sub (ws' := [(x0, .inr (0, [.ref x1, .ref x2, .ref x3])), (x1, .inl (c1, 32, .inl kf)), (x2, .inl (c2, 8, .inl bf)), (x3, .inl (c3, 8, .inl of))]) [0, 1, 2, 3] (by decide) rfl
  have hKc := hK.sub (tys' := [(c1, .byte), (c2, .byte), (c3, .byte)]) [0, 1, 2] rfl
  have hFc := va_free (wc := [(x0, .inr (0, [.ref x1, .ref x2, .ref x3])), (x1, .inl (c1, 32, .inl kf)), (x2, .inl (c2, 8, .inl bf)), (x3, .inl (c3, 8, .inl of))]) hD hS hA [0, 1, 2, 3] rfl
  refine va_callv (va_runV (As := [.int (xs (6 * t + 1)), .int (xs (6 * t + 2))]) (rest := []) ⟨hx, hb, hml, hown, hts⟩ (mX0_block l D x0 x1 x2 x3 c1 c2 c3 kf bf of (xs (6 * t + 1)) (xs (6 * t + 2)) H.size tS tR) (cwV 2 hts (lw_V q49 q50 q51 q9 q52) rfl rfl rfl (by decide +kernel) ⟨Nat.le_of_ble_eq_true rfl, Nat.le_of_ble_eq_true rfl⟩) ⟨gPw_blind, va_recv hK hP (ci := 0) (q0 := 0) rfl rfl, gPw_of hPc hKc hDc hZ hS hFc⟩ rfl rfl hl.1 rfl (lv_room (Nat.le_of_ble_eq_true rfl)) dL_law_144 ⟨show 8 + 5 * t + 0 + 0 ≤ 600096 by omega, show 102 + 76 * t + 0 + 0 ≤ 7301386 by omega⟩) hS (fun q _ h => hFc q h) hFc (fun u tq H1 locs ht hvm hw hB hz1 hk1 hS => ?_)
  obtain ⟨hP1, hK1, hD1⟩ := hB
  rw [ht] at hP1
  have hK1 := va_K.moved hvm.symm hK1
  obtain ⟨hP, hD⟩ := va_join (wr := [(y0, .inr (1, [.ref y1, .ref y2, .ref y3])), (y1, .inl (c4, 32, .inl km)), (y2, .inl (c5, 8, .inl bm)), (y3, .inl (c6, 8, .inl om))]) (w1 := [(x0, .inr (0, [.ref x1, .ref x2, .ref x3])), (x1, .inl (c1, 32, .inl kf)), (x2, .inl (c2, 8, .inl (gPut (gPut bf 0 (xs (6 * t + 1))) 4 (xs (6 * t + 2))))), (x3, .inl (c3, 8, .inl of))]) hP hD [0, 1, 2, 3] [4, 5, 6, 7] rfl rfl (by decide) (by decide) hk1 hFc hP1 hD1
  have hK := (hK.sub (tys' := [(c1, .byte), (c2, .byte), (c3, .byte), (c4, .int), (c5, .int), (c6, .int)]) [0, 1, 2, 3, 4, 5] rfl).app (hK1.sub (tys' := []) [] rfl)
  generalize H1 = H at hP hS ⊢
  have hP : va_P D vwCl [(y0, .inr (1, [.ref y1, .ref y2, .ref y3])), (y1, .inl (c4, 32, .inl km)), (y2, .inl (c5, 8, .inl bm)), (y3, .inl (c6, 8, .inl om)), (x0, .inr (0, [.ref x1, .ref x2, .ref x3])), (x1, .inl (c1, 32, .inl kf)), (x2, .inl (c2, 8, .inl (gPut (gPut bf 0 (xs (6 * t + 1))) 4 (xs (6 * t + 2))))), (x3, .inl (c3, 8, .inl of))] H := hP
  have hD : va_D A [(y0, .inr (1, [.ref y1, .ref y2, .ref y3])), (y1, .inl (c4, 32, .inl km)), (y2, .inl (c5, 8, .inl bm)), (y3, .inl (c6, 8, .inl om)), (x0, .inr (0, [.ref x1, .ref x2, .ref x3])), (x1, .inl (c1, 32, .inl kf)), (x2, .inl (c2, 8, .inl (gPut (gPut bf 0 (xs (6 * t + 1))) 4 (xs (6 * t + 2))))), (x3, .inl (c3, 8, .inl of))] := hD
  have hK : va_K D vwCl [(c1, .byte), (c2, .byte), (c3, .byte), (c4, .int), (c5, .int), (c6, .int)] s := hK
  refine W.widen (k := 8 + 5 * t + 0) (n := 102 + 76 * t + 0) (by omega) (by omega) ?_
  refine lv_aload_n hx hb dL_law_147 rfl (lv_at hl 2 rfl) ?_
  refine lv_aload_n hx hb dL_law_148 rfl (lv_at hl 0 rfl) ?_
  refine lv_iload_n hx hb dL_law_149 rfl (lv_at hl 3 rfl) ?_
  refine lv_iconst (v := 1) hx hb dL_law_150 (by decide) ?_
  refine lv_iadd hx hb dL_law_151 ?_
  refine g_top (nI (6 * t + 1)) (nI_add (6 * t) 1) ?_
  refine g_sld hx hb hX hbl hbA hS (6 * t + 1) rfl (by omega) (by omega) dL_law_152 ?_
  refine lv_aload_n hx hb dL_law_153 rfl (lv_at hl 0 rfl) ?_
  refine lv_iload_n hx hb dL_law_154 rfl (lv_at hl 3 rfl) ?_
  refine lv_iconst (v := 2) hx hb dL_law_155 (by decide) ?_
  refine lv_iadd hx hb dL_law_156 ?_
  refine g_top (nI (6 * t + 2)) (nI_add (6 * t) 2) ?_
  refine g_sld hx hb hX hbl hbA hS (6 * t + 2) rfl (by omega) (by omega) dL_law_157 ?_
  have hPc := hP.sub (ws' := [(y0, .inr (1, [.ref y1, .ref y2, .ref y3])), (y1, .inl (c4, 32, .inl km)), (y2, .inl (c5, 8, .inl bm)), (y3, .inl (c6, 8, .inl om))]) [0, 1, 2, 3] rfl
  have hDc := hD.sub (ws' := [(y0, .inr (1, [.ref y1, .ref y2, .ref y3])), (y1, .inl (c4, 32, .inl km)), (y2, .inl (c5, 8, .inl bm)), (y3, .inl (c6, 8, .inl om))]) [0, 1, 2, 3] (by decide) rfl
  have hKc := hK.sub (tys' := [(c4, .int), (c5, .int), (c6, .int)]) [3, 4, 5] rfl
  have hFc := va_free (wc := [(y0, .inr (1, [.ref y1, .ref y2, .ref y3])), (y1, .inl (c4, 32, .inl km)), (y2, .inl (c5, 8, .inl bm)), (y3, .inl (c6, 8, .inl om))]) hD hS hA [0, 1, 2, 3] rfl
  refine va_callv (va_runV (As := [.int (xs (6 * t + 1)), .int (xs (6 * t + 2))]) (rest := []) ⟨hx, hb, hml, hown, hts⟩ (mX1_block l D y0 y1 y2 y3 c4 c5 c6 km bm om (xs (6 * t + 1)) (xs (6 * t + 2)) H.size tS tR) (cwV 2 hts (lw_V q326 q327 q328 q10 q329) rfl rfl rfl (by decide +kernel) ⟨Nat.le_of_ble_eq_true rfl, Nat.le_of_ble_eq_true rfl⟩) ⟨gPw_blind, va_recv hK hP (ci := 1) (q0 := 0) rfl rfl, gPw_of hPc hKc hDc hZ hS hFc⟩ rfl rfl hl.1 rfl (lv_room (Nat.le_of_ble_eq_true rfl)) dL_law_158 ⟨show 8 + 5 * t + 0 + 0 ≤ 600096 by omega, show 102 + 76 * t + 0 + 0 ≤ 7301386 by omega⟩) hS (fun q _ h => hFc q h) hFc (fun u tq H1 locs ht hvm hw hB hz1 hk1 hS => ?_)
  obtain ⟨hP1, hK1, hD1⟩ := hB
  rw [ht] at hP1
  have hK1 := va_K.moved hvm.symm hK1
  obtain ⟨hP, hD⟩ := va_join (wr := [(x0, .inr (0, [.ref x1, .ref x2, .ref x3])), (x1, .inl (c1, 32, .inl kf)), (x2, .inl (c2, 8, .inl (gPut (gPut bf 0 (xs (6 * t + 1))) 4 (xs (6 * t + 2))))), (x3, .inl (c3, 8, .inl of))]) (w1 := [(y0, .inr (1, [.ref y1, .ref y2, .ref y3])), (y1, .inl (c4, 32, .inl km)), (y2, .inl (c5, 8, .inl (gLay (gLay bm 0 (xs (6 * t + 1))) 4 (xs (6 * t + 2))))), (y3, .inl (c6, 8, .inl om))]) hP hD [0, 1, 2, 3] [4, 5, 6, 7] rfl rfl (by decide) (by decide) hk1 hFc hP1 hD1
  have hK := (hK.sub (tys' := [(c1, .byte), (c2, .byte), (c3, .byte), (c4, .int), (c5, .int), (c6, .int)]) [0, 1, 2, 3, 4, 5] rfl).app (hK1.sub (tys' := []) [] rfl)
  generalize H1 = H at hP hS ⊢
  have hP : va_P D vwCl [(x0, .inr (0, [.ref x1, .ref x2, .ref x3])), (x1, .inl (c1, 32, .inl kf)), (x2, .inl (c2, 8, .inl (gPut (gPut bf 0 (xs (6 * t + 1))) 4 (xs (6 * t + 2))))), (x3, .inl (c3, 8, .inl of)), (y0, .inr (1, [.ref y1, .ref y2, .ref y3])), (y1, .inl (c4, 32, .inl km)), (y2, .inl (c5, 8, .inl (gLay (gLay bm 0 (xs (6 * t + 1))) 4 (xs (6 * t + 2))))), (y3, .inl (c6, 8, .inl om))] H := hP
  have hD : va_D A [(x0, .inr (0, [.ref x1, .ref x2, .ref x3])), (x1, .inl (c1, 32, .inl kf)), (x2, .inl (c2, 8, .inl (gPut (gPut bf 0 (xs (6 * t + 1))) 4 (xs (6 * t + 2))))), (x3, .inl (c3, 8, .inl of)), (y0, .inr (1, [.ref y1, .ref y2, .ref y3])), (y1, .inl (c4, 32, .inl km)), (y2, .inl (c5, 8, .inl (gLay (gLay bm 0 (xs (6 * t + 1))) 4 (xs (6 * t + 2))))), (y3, .inl (c6, 8, .inl om))] := hD
  have hK : va_K D vwCl [(c1, .byte), (c2, .byte), (c3, .byte), (c4, .int), (c5, .int), (c6, .int)] s := hK
  refine W.widen (k := 8 + 5 * t + 0) (n := 102 + 76 * t + 0) (by omega) (by omega) ?_
  refine lv_goto (tgt := 240) hx hb dL_law_161 (by decide) ?_
  have hP := hP.sub (ws' := [(x0, .inr (0, [.ref x1, .ref x2, .ref x3])), (x1, .inl (c1, 32, .inl kf)), (x2, .inl (c2, 8, .inl (gPut (gPut bf 0 (xs (6 * t + 1))) 4 (xs (6 * t + 2))))), (x3, .inl (c3, 8, .inl of)), (y0, .inr (1, [.ref y1, .ref y2, .ref y3])), (y1, .inl (c4, 32, .inl km)), (y2, .inl (c5, 8, .inl (gLay (gLay bm 0 (xs (6 * t + 1))) 4 (xs (6 * t + 2))))), (y3, .inl (c6, 8, .inl om))]) [0, 1, 2, 3, 4, 5, 6, 7] rfl
  have hD := hD.sub (ws' := [(x0, .inr (0, [.ref x1, .ref x2, .ref x3])), (x1, .inl (c1, 32, .inl kf)), (x2, .inl (c2, 8, .inl (gPut (gPut bf 0 (xs (6 * t + 1))) 4 (xs (6 * t + 2))))), (x3, .inl (c3, 8, .inl of)), (y0, .inr (1, [.ref y1, .ref y2, .ref y3])), (y1, .inl (c4, 32, .inl km)), (y2, .inl (c5, 8, .inl (gLay (gLay bm 0 (xs (6 * t + 1))) 4 (xs (6 * t + 2))))), (y3, .inl (c6, 8, .inl om))]) [0, 1, 2, 3, 4, 5, 6, 7] (by decide) rfl
  have hK := hK.sub (tys' := [(c1, .byte), (c2, .byte), (c3, .byte), (c4, .int), (c5, .int), (c6, .int)]) [0, 1, 2, 3, 4, 5] rfl
  refine W.widen (k := 8 + 5 * (t + 1)) (n := 102 + 76 * (t + 1)) (by omega) (by omega) ?_
  exact next kf (gPut (gPut bf 0 (xs (6 * t + 1))) 4 (xs (6 * t + 2))) of km (gLay (gLay bm 0 (xs (6 * t + 1))) 4 (xs (6 * t + 2))) om hRk (gR_put (gR_put hRb _ _) _ _) hRo _ _ hP hD hS ls (lv_sub hl [0, 1, 2, 3] rfl)
end
section
set_option maxHeartbeats 4000000 in
set_option maxRecDepth 100000 in
/-- case 2 of the law's switch -/
theorem law_case2 {p : Program} {l : Launch} {e : Env} {s : State} {m : MethodId} {below : List Frame} {meth : Method} {c : Code} {D : va_G} {A : Nat → Prop} {tS tR : Nat} {b L : Nat} {xs : Nat → Int32} (hL : L ≤ 288) (hAe : A = fun q : Nat => s.heap.size ≤ q) (C0 : lw_At p s m meth c b L xs) (hZ : gZ tS tR A s s.heap) (x0 x1 x2 x3 y0 y1 y2 y3 : Nat) (c1 c2 c3 c4 c5 c6 : ClassId) (hK : va_K D vwCl [(c1, .byte), (c2, .byte), (c3, .byte), (c4, .int), (c5, .int), (c6, .int)] s) (t : Nat) (kt : t ≤ 48) (h6 : 6 * t + 6 ≤ L) (next : gAt8 p l e s m below meth c D A b x0 x1 x2 x3 y0 y1 y2 y3 c1 c2 c3 c4 c5 c6 (nI (6 * t)) (8 + 5 * (t + 1)) (102 + 76 * (t + 1)) 240) : gAt8 p l e s m below meth c D A b x0 x1 x2 x3 y0 y1 y2 y3 c1 c2 c3 c4 c5 c6 (nI (6 * t)) (8 + 5 * t) (102 + 76 * t) 164 := by
  obtain ⟨hx, hb, hr, hml, hown, hts0, hX, hbl, hlocks, hgv⟩ := C0
  have hts : ∀ w ∈ lw_all, w.before #[Value.ref b] s = true := fun w h => hts0 w (lw_all_tbl h)
  have hA : ∀ q : Nat, s.heap.size ≤ q → A q := fun q h => by rw [hAe]; exact h
  have hbA : ¬ A b := fun h => by rw [hAe] at h; exact absurd hbl (Nat.not_lt.mpr h)
  intro kf bf of km bm om hRk hRb hRo H locs hP hD hS ls hl
  refine lv_aload_n hx hb dL_law_164 rfl (lv_at hl 1 rfl) ?_
  refine lv_aload_n hx hb dL_law_165 rfl (lv_at hl 0 rfl) ?_
  refine lv_iload_n hx hb dL_law_166 rfl (lv_at hl 3 rfl) ?_
  refine lv_iconst (v := 1) hx hb dL_law_167 (by decide) ?_
  refine lv_iadd hx hb dL_law_168 ?_
  refine g_top (nI (6 * t + 1)) (nI_add (6 * t) 1) ?_
  refine g_sld hx hb hX hbl hbA hS (6 * t + 1) rfl (by omega) (by omega) dL_law_169 ?_
  have hPc := hP.sub (ws' := [(x0, .inr (0, [.ref x1, .ref x2, .ref x3])), (x1, .inl (c1, 32, .inl kf)), (x2, .inl (c2, 8, .inl bf)), (x3, .inl (c3, 8, .inl of))]) [0, 1, 2, 3] rfl
  have hDc := hD.sub (ws' := [(x0, .inr (0, [.ref x1, .ref x2, .ref x3])), (x1, .inl (c1, 32, .inl kf)), (x2, .inl (c2, 8, .inl bf)), (x3, .inl (c3, 8, .inl of))]) [0, 1, 2, 3] (by decide) rfl
  have hKc := hK.sub (tys' := [(c1, .byte), (c2, .byte), (c3, .byte)]) [0, 1, 2] rfl
  have hFc := va_free (wc := [(x0, .inr (0, [.ref x1, .ref x2, .ref x3])), (x1, .inl (c1, 32, .inl kf)), (x2, .inl (c2, 8, .inl bf)), (x3, .inl (c3, 8, .inl of))]) hD hS hA [0, 1, 2, 3] rfl
  refine va_callv (va_runV (As := [.int (xs (6 * t + 1))]) (rest := []) ⟨hx, hb, hml, hown, hts⟩ (mX0_lock l D x0 x1 x2 x3 c1 c2 c3 kf bf of (xs (6 * t + 1)) H.size tS tR) (cwV 1 hts (lw_V q53 q54 q55 q9 q56) rfl rfl rfl (by decide +kernel) ⟨Nat.le_of_ble_eq_true rfl, Nat.le_of_ble_eq_true rfl⟩) ⟨gPw_blind, va_recv hK hP (ci := 0) (q0 := 0) rfl rfl, gPw_of hPc hKc hDc hZ hS hFc⟩ rfl rfl hl.1 rfl (lv_room (Nat.le_of_ble_eq_true rfl)) dL_law_170 ⟨show 8 + 5 * t + 0 + 5 ≤ 600096 by omega, show 102 + 76 * t + 0 + 76 ≤ 7301386 by omega⟩) hS (fun q _ h => hFc q h) hFc (fun u tq H1 locs ht hvm hw hB hz1 hk1 hS => ?_)
  obtain ⟨hP1, hK1, hD1⟩ := hB
  rw [ht] at hP1
  have hK1 := va_K.moved hvm.symm hK1
  obtain ⟨hP, hD⟩ := va_join (wr := [(y0, .inr (1, [.ref y1, .ref y2, .ref y3])), (y1, .inl (c4, 32, .inl km)), (y2, .inl (c5, 8, .inl bm)), (y3, .inl (c6, 8, .inl om))]) (w1 := [(x0, .inr (0, [.ref x1, .ref x2, .ref x3])), (x1, .inl (c1, 32, .inl kf)), (x2, .inl (c2, 8, .inl bf)), (x3, .inl (c3, 8, .inl (gRunX true kf bf of)))]) hP hD [0, 1, 2, 3] [4, 5, 6, 7] rfl rfl (by decide) (by decide) hk1 hFc hP1 hD1
  have hK := (hK.sub (tys' := [(c1, .byte), (c2, .byte), (c3, .byte), (c4, .int), (c5, .int), (c6, .int)]) [0, 1, 2, 3, 4, 5] rfl).app (hK1.sub (tys' := []) [] rfl)
  generalize H1 = H at hP hS ⊢
  have hP : va_P D vwCl [(y0, .inr (1, [.ref y1, .ref y2, .ref y3])), (y1, .inl (c4, 32, .inl km)), (y2, .inl (c5, 8, .inl bm)), (y3, .inl (c6, 8, .inl om)), (x0, .inr (0, [.ref x1, .ref x2, .ref x3])), (x1, .inl (c1, 32, .inl kf)), (x2, .inl (c2, 8, .inl bf)), (x3, .inl (c3, 8, .inl (gRunX true kf bf of)))] H := hP
  have hD : va_D A [(y0, .inr (1, [.ref y1, .ref y2, .ref y3])), (y1, .inl (c4, 32, .inl km)), (y2, .inl (c5, 8, .inl bm)), (y3, .inl (c6, 8, .inl om)), (x0, .inr (0, [.ref x1, .ref x2, .ref x3])), (x1, .inl (c1, 32, .inl kf)), (x2, .inl (c2, 8, .inl bf)), (x3, .inl (c3, 8, .inl (gRunX true kf bf of)))] := hD
  have hK : va_K D vwCl [(c1, .byte), (c2, .byte), (c3, .byte), (c4, .int), (c5, .int), (c6, .int)] s := hK
  refine W.widen (k := 8 + 5 * t + 5) (n := 102 + 76 * t + 76) (by omega) (by omega) ?_
  refine lv_aload_n hx hb dL_law_173 rfl (lv_at hl 2 rfl) ?_
  refine lv_aload_n hx hb dL_law_174 rfl (lv_at hl 0 rfl) ?_
  refine lv_iload_n hx hb dL_law_175 rfl (lv_at hl 3 rfl) ?_
  refine lv_iconst (v := 1) hx hb dL_law_176 (by decide) ?_
  refine lv_iadd hx hb dL_law_177 ?_
  refine g_top (nI (6 * t + 1)) (nI_add (6 * t) 1) ?_
  refine g_sld hx hb hX hbl hbA hS (6 * t + 1) rfl (by omega) (by omega) dL_law_178 ?_
  have hPc := hP.sub (ws' := [(y0, .inr (1, [.ref y1, .ref y2, .ref y3])), (y1, .inl (c4, 32, .inl km)), (y2, .inl (c5, 8, .inl bm)), (y3, .inl (c6, 8, .inl om))]) [0, 1, 2, 3] rfl
  have hDc := hD.sub (ws' := [(y0, .inr (1, [.ref y1, .ref y2, .ref y3])), (y1, .inl (c4, 32, .inl km)), (y2, .inl (c5, 8, .inl bm)), (y3, .inl (c6, 8, .inl om))]) [0, 1, 2, 3] (by decide) rfl
  have hKc := hK.sub (tys' := [(c4, .int), (c5, .int), (c6, .int)]) [3, 4, 5] rfl
  have hFc := va_free (wc := [(y0, .inr (1, [.ref y1, .ref y2, .ref y3])), (y1, .inl (c4, 32, .inl km)), (y2, .inl (c5, 8, .inl bm)), (y3, .inl (c6, 8, .inl om))]) hD hS hA [0, 1, 2, 3] rfl
  refine va_callv (va_runV (As := [.int (xs (6 * t + 1))]) (rest := []) ⟨hx, hb, hml, hown, hts⟩ (mX1_lock l D y0 y1 y2 y3 c4 c5 c6 km bm om (xs (6 * t + 1)) H.size tS tR) (cwV 1 hts (lw_V q330 q331 q332 q10 q333) rfl rfl rfl (by decide +kernel) ⟨Nat.le_of_ble_eq_true rfl, Nat.le_of_ble_eq_true rfl⟩) ⟨gPw_blind, va_recv hK hP (ci := 1) (q0 := 0) rfl rfl, gPw_of hPc hKc hDc hZ hS hFc⟩ rfl rfl hl.1 rfl (lv_room (Nat.le_of_ble_eq_true rfl)) dL_law_179 ⟨show 8 + 5 * t + 5 + 0 ≤ 600096 by omega, show 102 + 76 * t + 76 + 0 ≤ 7301386 by omega⟩) hS (fun q _ h => hFc q h) hFc (fun u tq H1 locs ht hvm hw hB hz1 hk1 hS => ?_)
  obtain ⟨hP1, hK1, hD1⟩ := hB
  rw [ht] at hP1
  have hK1 := va_K.moved hvm.symm hK1
  obtain ⟨hP, hD⟩ := va_join (wr := [(x0, .inr (0, [.ref x1, .ref x2, .ref x3])), (x1, .inl (c1, 32, .inl kf)), (x2, .inl (c2, 8, .inl bf)), (x3, .inl (c3, 8, .inl (gRunX true kf bf of)))]) (w1 := [(y0, .inr (1, [.ref y1, .ref y2, .ref y3])), (y1, .inl (c4, 32, .inl km)), (y2, .inl (c5, 8, .inl bm)), (y3, .inl (c6, 8, .inl (gRunM true km bm om)))]) hP hD [0, 1, 2, 3] [4, 5, 6, 7] rfl rfl (by decide) (by decide) hk1 hFc hP1 hD1
  have hK := (hK.sub (tys' := [(c1, .byte), (c2, .byte), (c3, .byte), (c4, .int), (c5, .int), (c6, .int)]) [0, 1, 2, 3, 4, 5] rfl).app (hK1.sub (tys' := []) [] rfl)
  generalize H1 = H at hP hS ⊢
  have hP : va_P D vwCl [(x0, .inr (0, [.ref x1, .ref x2, .ref x3])), (x1, .inl (c1, 32, .inl kf)), (x2, .inl (c2, 8, .inl bf)), (x3, .inl (c3, 8, .inl (gRunX true kf bf of))), (y0, .inr (1, [.ref y1, .ref y2, .ref y3])), (y1, .inl (c4, 32, .inl km)), (y2, .inl (c5, 8, .inl bm)), (y3, .inl (c6, 8, .inl (gRunM true km bm om)))] H := hP
  have hD : va_D A [(x0, .inr (0, [.ref x1, .ref x2, .ref x3])), (x1, .inl (c1, 32, .inl kf)), (x2, .inl (c2, 8, .inl bf)), (x3, .inl (c3, 8, .inl (gRunX true kf bf of))), (y0, .inr (1, [.ref y1, .ref y2, .ref y3])), (y1, .inl (c4, 32, .inl km)), (y2, .inl (c5, 8, .inl bm)), (y3, .inl (c6, 8, .inl (gRunM true km bm om)))] := hD
  have hK : va_K D vwCl [(c1, .byte), (c2, .byte), (c3, .byte), (c4, .int), (c5, .int), (c6, .int)] s := hK
  refine W.widen (k := 8 + 5 * t + 5) (n := 102 + 76 * t + 76) (by omega) (by omega) ?_
  refine lv_goto (tgt := 240) hx hb dL_law_182 (by decide) ?_
  have hP := hP.sub (ws' := [(x0, .inr (0, [.ref x1, .ref x2, .ref x3])), (x1, .inl (c1, 32, .inl kf)), (x2, .inl (c2, 8, .inl bf)), (x3, .inl (c3, 8, .inl (gRunX true kf bf of))), (y0, .inr (1, [.ref y1, .ref y2, .ref y3])), (y1, .inl (c4, 32, .inl km)), (y2, .inl (c5, 8, .inl bm)), (y3, .inl (c6, 8, .inl (gRunM true km bm om)))]) [0, 1, 2, 3, 4, 5, 6, 7] rfl
  have hD := hD.sub (ws' := [(x0, .inr (0, [.ref x1, .ref x2, .ref x3])), (x1, .inl (c1, 32, .inl kf)), (x2, .inl (c2, 8, .inl bf)), (x3, .inl (c3, 8, .inl (gRunX true kf bf of))), (y0, .inr (1, [.ref y1, .ref y2, .ref y3])), (y1, .inl (c4, 32, .inl km)), (y2, .inl (c5, 8, .inl bm)), (y3, .inl (c6, 8, .inl (gRunM true km bm om)))]) [0, 1, 2, 3, 4, 5, 6, 7] (by decide) rfl
  have hK := hK.sub (tys' := [(c1, .byte), (c2, .byte), (c3, .byte), (c4, .int), (c5, .int), (c6, .int)]) [0, 1, 2, 3, 4, 5] rfl
  refine W.widen (k := 8 + 5 * (t + 1)) (n := 102 + 76 * (t + 1)) (by omega) (by omega) ?_
  exact next kf bf (gRunX true kf bf of) km bm (gRunM true km bm om) hRk hRb (gR_run true of om hRk hRb) _ _ hP hD hS ls (lv_sub hl [0, 1, 2, 3] rfl)
end
section
set_option maxHeartbeats 4000000 in
set_option maxRecDepth 100000 in
/-- case 3 of the law's switch -/
theorem law_case3 {p : Program} {l : Launch} {e : Env} {s : State} {m : MethodId} {below : List Frame} {meth : Method} {c : Code} {D : va_G} {A : Nat → Prop} {tS tR : Nat} {b L : Nat} {xs : Nat → Int32} (hL : L ≤ 288) (hAe : A = fun q : Nat => s.heap.size ≤ q) (C0 : lw_At p s m meth c b L xs) (hZ : gZ tS tR A s s.heap) (x0 x1 x2 x3 y0 y1 y2 y3 : Nat) (c1 c2 c3 c4 c5 c6 : ClassId) (hK : va_K D vwCl [(c1, .byte), (c2, .byte), (c3, .byte), (c4, .int), (c5, .int), (c6, .int)] s) (t : Nat) (kt : t ≤ 48) (h6 : 6 * t + 6 ≤ L) (next : gAt8 p l e s m below meth c D A b x0 x1 x2 x3 y0 y1 y2 y3 c1 c2 c3 c4 c5 c6 (nI (6 * t)) (8 + 5 * (t + 1)) (102 + 76 * (t + 1)) 240) : gAt8 p l e s m below meth c D A b x0 x1 x2 x3 y0 y1 y2 y3 c1 c2 c3 c4 c5 c6 (nI (6 * t)) (8 + 5 * t) (102 + 76 * t) 185 := by
  obtain ⟨hx, hb, hr, hml, hown, hts0, hX, hbl, hlocks, hgv⟩ := C0
  have hts : ∀ w ∈ lw_all, w.before #[Value.ref b] s = true := fun w h => hts0 w (lw_all_tbl h)
  have hA : ∀ q : Nat, s.heap.size ≤ q → A q := fun q h => by rw [hAe]; exact h
  have hbA : ¬ A b := fun h => by rw [hAe] at h; exact absurd hbl (Nat.not_lt.mpr h)
  intro kf bf of km bm om hRk hRb hRo H locs hP hD hS ls hl
  refine lv_aload_n hx hb dL_law_185 rfl (lv_at hl 1 rfl) ?_
  refine lv_aload_n hx hb dL_law_186 rfl (lv_at hl 0 rfl) ?_
  refine lv_iload_n hx hb dL_law_187 rfl (lv_at hl 3 rfl) ?_
  refine lv_iconst (v := 1) hx hb dL_law_188 (by decide) ?_
  refine lv_iadd hx hb dL_law_189 ?_
  refine g_top (nI (6 * t + 1)) (nI_add (6 * t) 1) ?_
  refine g_sld hx hb hX hbl hbA hS (6 * t + 1) rfl (by omega) (by omega) dL_law_190 ?_
  have hPc := hP.sub (ws' := [(x0, .inr (0, [.ref x1, .ref x2, .ref x3])), (x1, .inl (c1, 32, .inl kf)), (x2, .inl (c2, 8, .inl bf)), (x3, .inl (c3, 8, .inl of))]) [0, 1, 2, 3] rfl
  have hDc := hD.sub (ws' := [(x0, .inr (0, [.ref x1, .ref x2, .ref x3])), (x1, .inl (c1, 32, .inl kf)), (x2, .inl (c2, 8, .inl bf)), (x3, .inl (c3, 8, .inl of))]) [0, 1, 2, 3] (by decide) rfl
  have hKc := hK.sub (tys' := [(c1, .byte), (c2, .byte), (c3, .byte)]) [0, 1, 2] rfl
  have hFc := va_free (wc := [(x0, .inr (0, [.ref x1, .ref x2, .ref x3])), (x1, .inl (c1, 32, .inl kf)), (x2, .inl (c2, 8, .inl bf)), (x3, .inl (c3, 8, .inl of))]) hD hS hA [0, 1, 2, 3] rfl
  refine va_callv (va_runV (As := [.int (xs (6 * t + 1))]) (rest := []) ⟨hx, hb, hml, hown, hts⟩ (mX0_open l D x0 x1 x2 x3 c1 c2 c3 kf bf of (xs (6 * t + 1)) H.size tS tR) (cwV 1 hts (lw_V q291 q292 q293 q9 q294) rfl rfl rfl (by decide +kernel) ⟨Nat.le_of_ble_eq_true rfl, Nat.le_of_ble_eq_true rfl⟩) ⟨gPw_blind, va_recv hK hP (ci := 0) (q0 := 0) rfl rfl, gPw_of hPc hKc hDc hZ hS hFc⟩ rfl rfl hl.1 rfl (lv_room (Nat.le_of_ble_eq_true rfl)) dL_law_191 ⟨show 8 + 5 * t + 0 + 5 ≤ 600096 by omega, show 102 + 76 * t + 0 + 76 ≤ 7301386 by omega⟩) hS (fun q _ h => hFc q h) hFc (fun u tq H1 locs ht hvm hw hB hz1 hk1 hS => ?_)
  obtain ⟨hP1, hK1, hD1⟩ := hB
  rw [ht] at hP1
  have hK1 := va_K.moved hvm.symm hK1
  obtain ⟨hP, hD⟩ := va_join (wr := [(y0, .inr (1, [.ref y1, .ref y2, .ref y3])), (y1, .inl (c4, 32, .inl km)), (y2, .inl (c5, 8, .inl bm)), (y3, .inl (c6, 8, .inl om))]) (w1 := [(x0, .inr (0, [.ref x1, .ref x2, .ref x3])), (x1, .inl (c1, 32, .inl kf)), (x2, .inl (c2, 8, .inl bf)), (x3, .inl (c3, 8, .inl (gRunX false kf bf of)))]) hP hD [0, 1, 2, 3] [4, 5, 6, 7] rfl rfl (by decide) (by decide) hk1 hFc hP1 hD1
  have hK := (hK.sub (tys' := [(c1, .byte), (c2, .byte), (c3, .byte), (c4, .int), (c5, .int), (c6, .int)]) [0, 1, 2, 3, 4, 5] rfl).app (hK1.sub (tys' := []) [] rfl)
  generalize H1 = H at hP hS ⊢
  have hP : va_P D vwCl [(y0, .inr (1, [.ref y1, .ref y2, .ref y3])), (y1, .inl (c4, 32, .inl km)), (y2, .inl (c5, 8, .inl bm)), (y3, .inl (c6, 8, .inl om)), (x0, .inr (0, [.ref x1, .ref x2, .ref x3])), (x1, .inl (c1, 32, .inl kf)), (x2, .inl (c2, 8, .inl bf)), (x3, .inl (c3, 8, .inl (gRunX false kf bf of)))] H := hP
  have hD : va_D A [(y0, .inr (1, [.ref y1, .ref y2, .ref y3])), (y1, .inl (c4, 32, .inl km)), (y2, .inl (c5, 8, .inl bm)), (y3, .inl (c6, 8, .inl om)), (x0, .inr (0, [.ref x1, .ref x2, .ref x3])), (x1, .inl (c1, 32, .inl kf)), (x2, .inl (c2, 8, .inl bf)), (x3, .inl (c3, 8, .inl (gRunX false kf bf of)))] := hD
  have hK : va_K D vwCl [(c1, .byte), (c2, .byte), (c3, .byte), (c4, .int), (c5, .int), (c6, .int)] s := hK
  refine W.widen (k := 8 + 5 * t + 5) (n := 102 + 76 * t + 76) (by omega) (by omega) ?_
  refine lv_aload_n hx hb dL_law_194 rfl (lv_at hl 2 rfl) ?_
  refine lv_aload_n hx hb dL_law_195 rfl (lv_at hl 0 rfl) ?_
  refine lv_iload_n hx hb dL_law_196 rfl (lv_at hl 3 rfl) ?_
  refine lv_iconst (v := 1) hx hb dL_law_197 (by decide) ?_
  refine lv_iadd hx hb dL_law_198 ?_
  refine g_top (nI (6 * t + 1)) (nI_add (6 * t) 1) ?_
  refine g_sld hx hb hX hbl hbA hS (6 * t + 1) rfl (by omega) (by omega) dL_law_199 ?_
  have hPc := hP.sub (ws' := [(y0, .inr (1, [.ref y1, .ref y2, .ref y3])), (y1, .inl (c4, 32, .inl km)), (y2, .inl (c5, 8, .inl bm)), (y3, .inl (c6, 8, .inl om))]) [0, 1, 2, 3] rfl
  have hDc := hD.sub (ws' := [(y0, .inr (1, [.ref y1, .ref y2, .ref y3])), (y1, .inl (c4, 32, .inl km)), (y2, .inl (c5, 8, .inl bm)), (y3, .inl (c6, 8, .inl om))]) [0, 1, 2, 3] (by decide) rfl
  have hKc := hK.sub (tys' := [(c4, .int), (c5, .int), (c6, .int)]) [3, 4, 5] rfl
  have hFc := va_free (wc := [(y0, .inr (1, [.ref y1, .ref y2, .ref y3])), (y1, .inl (c4, 32, .inl km)), (y2, .inl (c5, 8, .inl bm)), (y3, .inl (c6, 8, .inl om))]) hD hS hA [0, 1, 2, 3] rfl
  refine va_callv (va_runV (As := [.int (xs (6 * t + 1))]) (rest := []) ⟨hx, hb, hml, hown, hts⟩ (mX1_open l D y0 y1 y2 y3 c4 c5 c6 km bm om (xs (6 * t + 1)) H.size tS tR) (cwV 1 hts (lw_V q349 q350 q351 q10 q352) rfl rfl rfl (by decide +kernel) ⟨Nat.le_of_ble_eq_true rfl, Nat.le_of_ble_eq_true rfl⟩) ⟨gPw_blind, va_recv hK hP (ci := 1) (q0 := 0) rfl rfl, gPw_of hPc hKc hDc hZ hS hFc⟩ rfl rfl hl.1 rfl (lv_room (Nat.le_of_ble_eq_true rfl)) dL_law_200 ⟨show 8 + 5 * t + 5 + 0 ≤ 600096 by omega, show 102 + 76 * t + 76 + 0 ≤ 7301386 by omega⟩) hS (fun q _ h => hFc q h) hFc (fun u tq H1 locs ht hvm hw hB hz1 hk1 hS => ?_)
  obtain ⟨hP1, hK1, hD1⟩ := hB
  rw [ht] at hP1
  have hK1 := va_K.moved hvm.symm hK1
  obtain ⟨hP, hD⟩ := va_join (wr := [(x0, .inr (0, [.ref x1, .ref x2, .ref x3])), (x1, .inl (c1, 32, .inl kf)), (x2, .inl (c2, 8, .inl bf)), (x3, .inl (c3, 8, .inl (gRunX false kf bf of)))]) (w1 := [(y0, .inr (1, [.ref y1, .ref y2, .ref y3])), (y1, .inl (c4, 32, .inl km)), (y2, .inl (c5, 8, .inl bm)), (y3, .inl (c6, 8, .inl (gRunM false km bm om)))]) hP hD [0, 1, 2, 3] [4, 5, 6, 7] rfl rfl (by decide) (by decide) hk1 hFc hP1 hD1
  have hK := (hK.sub (tys' := [(c1, .byte), (c2, .byte), (c3, .byte), (c4, .int), (c5, .int), (c6, .int)]) [0, 1, 2, 3, 4, 5] rfl).app (hK1.sub (tys' := []) [] rfl)
  generalize H1 = H at hP hS ⊢
  have hP : va_P D vwCl [(x0, .inr (0, [.ref x1, .ref x2, .ref x3])), (x1, .inl (c1, 32, .inl kf)), (x2, .inl (c2, 8, .inl bf)), (x3, .inl (c3, 8, .inl (gRunX false kf bf of))), (y0, .inr (1, [.ref y1, .ref y2, .ref y3])), (y1, .inl (c4, 32, .inl km)), (y2, .inl (c5, 8, .inl bm)), (y3, .inl (c6, 8, .inl (gRunM false km bm om)))] H := hP
  have hD : va_D A [(x0, .inr (0, [.ref x1, .ref x2, .ref x3])), (x1, .inl (c1, 32, .inl kf)), (x2, .inl (c2, 8, .inl bf)), (x3, .inl (c3, 8, .inl (gRunX false kf bf of))), (y0, .inr (1, [.ref y1, .ref y2, .ref y3])), (y1, .inl (c4, 32, .inl km)), (y2, .inl (c5, 8, .inl bm)), (y3, .inl (c6, 8, .inl (gRunM false km bm om)))] := hD
  have hK : va_K D vwCl [(c1, .byte), (c2, .byte), (c3, .byte), (c4, .int), (c5, .int), (c6, .int)] s := hK
  refine W.widen (k := 8 + 5 * t + 5) (n := 102 + 76 * t + 76) (by omega) (by omega) ?_
  refine lv_goto (tgt := 240) hx hb dL_law_203 (by decide) ?_
  have hP := hP.sub (ws' := [(x0, .inr (0, [.ref x1, .ref x2, .ref x3])), (x1, .inl (c1, 32, .inl kf)), (x2, .inl (c2, 8, .inl bf)), (x3, .inl (c3, 8, .inl (gRunX false kf bf of))), (y0, .inr (1, [.ref y1, .ref y2, .ref y3])), (y1, .inl (c4, 32, .inl km)), (y2, .inl (c5, 8, .inl bm)), (y3, .inl (c6, 8, .inl (gRunM false km bm om)))]) [0, 1, 2, 3, 4, 5, 6, 7] rfl
  have hD := hD.sub (ws' := [(x0, .inr (0, [.ref x1, .ref x2, .ref x3])), (x1, .inl (c1, 32, .inl kf)), (x2, .inl (c2, 8, .inl bf)), (x3, .inl (c3, 8, .inl (gRunX false kf bf of))), (y0, .inr (1, [.ref y1, .ref y2, .ref y3])), (y1, .inl (c4, 32, .inl km)), (y2, .inl (c5, 8, .inl bm)), (y3, .inl (c6, 8, .inl (gRunM false km bm om)))]) [0, 1, 2, 3, 4, 5, 6, 7] (by decide) rfl
  have hK := hK.sub (tys' := [(c1, .byte), (c2, .byte), (c3, .byte), (c4, .int), (c5, .int), (c6, .int)]) [0, 1, 2, 3, 4, 5] rfl
  refine W.widen (k := 8 + 5 * (t + 1)) (n := 102 + 76 * (t + 1)) (by omega) (by omega) ?_
  exact next kf bf (gRunX false kf bf of) km bm (gRunM false km bm om) hRk hRb (gR_run false of om hRk hRb) _ _ hP hD hS ls (lv_sub hl [0, 1, 2, 3] rfl)
end
section
set_option maxHeartbeats 4000000 in
set_option maxRecDepth 100000 in
/-- case 4 of the law's switch -/
theorem law_case4 {p : Program} {l : Launch} {e : Env} {s : State} {m : MethodId} {below : List Frame} {meth : Method} {c : Code} {D : va_G} {A : Nat → Prop} {tS tR : Nat} {b L : Nat} {xs : Nat → Int32} (hL : L ≤ 288) (hAe : A = fun q : Nat => s.heap.size ≤ q) (C0 : lw_At p s m meth c b L xs) (hZ : gZ tS tR A s s.heap) (x0 x1 x2 x3 y0 y1 y2 y3 : Nat) (c1 c2 c3 c4 c5 c6 : ClassId) (hK : va_K D vwCl [(c1, .byte), (c2, .byte), (c3, .byte), (c4, .int), (c5, .int), (c6, .int)] s) (t : Nat) (kt : t ≤ 48) (h6 : 6 * t + 6 ≤ L) (next : gAt8 p l e s m below meth c D A b x0 x1 x2 x3 y0 y1 y2 y3 c1 c2 c3 c4 c5 c6 (nI (6 * t)) (8 + 5 * (t + 1)) (102 + 76 * (t + 1)) 240) : gAt8 p l e s m below meth c D A b x0 x1 x2 x3 y0 y1 y2 y3 c1 c2 c3 c4 c5 c6 (nI (6 * t)) (8 + 5 * t) (102 + 76 * t) 206 := by
  obtain ⟨hx, hb, hr, hml, hown, hts0, hX, hbl, hlocks, hgv⟩ := C0
  have hts : ∀ w ∈ lw_all, w.before #[Value.ref b] s = true := fun w h => hts0 w (lw_all_tbl h)
  have hA : ∀ q : Nat, s.heap.size ≤ q → A q := fun q h => by rw [hAe]; exact h
  have hbA : ¬ A b := fun h => by rw [hAe] at h; exact absurd hbl (Nat.not_lt.mpr h)
  intro kf bf of km bm om hRk hRb hRo H locs hP hD hS ls hl
  refine lv_aload_n hx hb dL_law_206 rfl (lv_at hl 1 rfl) ?_
  have hPc := hP.sub (ws' := [(x0, .inr (0, [.ref x1, .ref x2, .ref x3])), (x1, .inl (c1, 32, .inl kf)), (x2, .inl (c2, 8, .inl bf)), (x3, .inl (c3, 8, .inl of))]) [0, 1, 2, 3] rfl
  have hDc := hD.sub (ws' := [(x0, .inr (0, [.ref x1, .ref x2, .ref x3])), (x1, .inl (c1, 32, .inl kf)), (x2, .inl (c2, 8, .inl bf)), (x3, .inl (c3, 8, .inl of))]) [0, 1, 2, 3] (by decide) rfl
  have hKc := hK.sub (tys' := [(c1, .byte), (c2, .byte), (c3, .byte)]) [0, 1, 2] rfl
  have hFc := va_free (wc := [(x0, .inr (0, [.ref x1, .ref x2, .ref x3])), (x1, .inl (c1, 32, .inl kf)), (x2, .inl (c2, 8, .inl bf)), (x3, .inl (c3, 8, .inl of))]) hD hS hA [0, 1, 2, 3] rfl
  refine va_callv (va_runV (As := []) (rest := []) ⟨hx, hb, hml, hown, hts⟩ (mX0_again l D x0 x1 x2 x3 c1 c2 c3 kf bf of H.size tS tR) (cwV 0 hts (lw_V q295 q296 q297 q9 q298) rfl rfl rfl (by decide +kernel) ⟨Nat.le_of_ble_eq_true rfl, Nat.le_of_ble_eq_true rfl⟩) ⟨gPw_blind, va_recv hK hP (ci := 0) (q0 := 0) rfl rfl, gPw_of hPc hKc hDc hZ hS hFc⟩ rfl rfl hl.1 rfl (lv_room (Nat.le_of_ble_eq_true rfl)) dL_law_207 ⟨show 8 + 5 * t + 0 + 0 ≤ 600096 by omega, show 102 + 76 * t + 0 + 0 ≤ 7301386 by omega⟩) hS (fun q _ h => hFc q h) hFc (fun u tq H1 locs ht hvm hw hB hz1 hk1 hS => ?_)
  obtain ⟨hP1, hK1, hD1⟩ := hB
  rw [ht] at hP1
  have hK1 := va_K.moved hvm.symm hK1
  obtain ⟨hP, hD⟩ := va_join (wr := [(y0, .inr (1, [.ref y1, .ref y2, .ref y3])), (y1, .inl (c4, 32, .inl km)), (y2, .inl (c5, 8, .inl bm)), (y3, .inl (c6, 8, .inl om))]) (w1 := [(x0, .inr (0, [.ref x1, .ref x2, .ref x3])), (x1, .inl (c1, 32, .inl kf)), (x2, .inl (c2, 8, .inl (gCopB bf of 8))), (x3, .inl (c3, 8, .inl of))]) hP hD [0, 1, 2, 3] [4, 5, 6, 7] rfl rfl (by decide) (by decide) hk1 hFc hP1 hD1
  have hK := (hK.sub (tys' := [(c1, .byte), (c2, .byte), (c3, .byte), (c4, .int), (c5, .int), (c6, .int)]) [0, 1, 2, 3, 4, 5] rfl).app (hK1.sub (tys' := []) [] rfl)
  generalize H1 = H at hP hS ⊢
  have hP : va_P D vwCl [(y0, .inr (1, [.ref y1, .ref y2, .ref y3])), (y1, .inl (c4, 32, .inl km)), (y2, .inl (c5, 8, .inl bm)), (y3, .inl (c6, 8, .inl om)), (x0, .inr (0, [.ref x1, .ref x2, .ref x3])), (x1, .inl (c1, 32, .inl kf)), (x2, .inl (c2, 8, .inl (gCopB bf of 8))), (x3, .inl (c3, 8, .inl of))] H := hP
  have hD : va_D A [(y0, .inr (1, [.ref y1, .ref y2, .ref y3])), (y1, .inl (c4, 32, .inl km)), (y2, .inl (c5, 8, .inl bm)), (y3, .inl (c6, 8, .inl om)), (x0, .inr (0, [.ref x1, .ref x2, .ref x3])), (x1, .inl (c1, 32, .inl kf)), (x2, .inl (c2, 8, .inl (gCopB bf of 8))), (x3, .inl (c3, 8, .inl of))] := hD
  have hK : va_K D vwCl [(c1, .byte), (c2, .byte), (c3, .byte), (c4, .int), (c5, .int), (c6, .int)] s := hK
  refine W.widen (k := 8 + 5 * t + 0) (n := 102 + 76 * t + 0) (by omega) (by omega) ?_
  refine lv_aload_n hx hb dL_law_210 rfl (lv_at hl 2 rfl) ?_
  have hPc := hP.sub (ws' := [(y0, .inr (1, [.ref y1, .ref y2, .ref y3])), (y1, .inl (c4, 32, .inl km)), (y2, .inl (c5, 8, .inl bm)), (y3, .inl (c6, 8, .inl om))]) [0, 1, 2, 3] rfl
  have hDc := hD.sub (ws' := [(y0, .inr (1, [.ref y1, .ref y2, .ref y3])), (y1, .inl (c4, 32, .inl km)), (y2, .inl (c5, 8, .inl bm)), (y3, .inl (c6, 8, .inl om))]) [0, 1, 2, 3] (by decide) rfl
  have hKc := hK.sub (tys' := [(c4, .int), (c5, .int), (c6, .int)]) [3, 4, 5] rfl
  have hFc := va_free (wc := [(y0, .inr (1, [.ref y1, .ref y2, .ref y3])), (y1, .inl (c4, 32, .inl km)), (y2, .inl (c5, 8, .inl bm)), (y3, .inl (c6, 8, .inl om))]) hD hS hA [0, 1, 2, 3] rfl
  refine va_callv (va_runV (As := []) (rest := []) ⟨hx, hb, hml, hown, hts⟩ (mX1_again l D y0 y1 y2 y3 c4 c5 c6 km bm om H.size tS tR) (cwV 0 hts (lw_V q353 q354 q355 q10 q356) rfl rfl rfl (by decide +kernel) ⟨Nat.le_of_ble_eq_true rfl, Nat.le_of_ble_eq_true rfl⟩) ⟨gPw_blind, va_recv hK hP (ci := 1) (q0 := 0) rfl rfl, gPw_of hPc hKc hDc hZ hS hFc⟩ rfl rfl hl.1 rfl (lv_room (Nat.le_of_ble_eq_true rfl)) dL_law_211 ⟨show 8 + 5 * t + 0 + 0 ≤ 600096 by omega, show 102 + 76 * t + 0 + 0 ≤ 7301386 by omega⟩) hS (fun q _ h => hFc q h) hFc (fun u tq H1 locs ht hvm hw hB hz1 hk1 hS => ?_)
  obtain ⟨hP1, hK1, hD1⟩ := hB
  rw [ht] at hP1
  have hK1 := va_K.moved hvm.symm hK1
  obtain ⟨hP, hD⟩ := va_join (wr := [(x0, .inr (0, [.ref x1, .ref x2, .ref x3])), (x1, .inl (c1, 32, .inl kf)), (x2, .inl (c2, 8, .inl (gCopB bf of 8))), (x3, .inl (c3, 8, .inl of))]) (w1 := [(y0, .inr (1, [.ref y1, .ref y2, .ref y3])), (y1, .inl (c4, 32, .inl km)), (y2, .inl (c5, 8, .inl (gCopI bm om 8))), (y3, .inl (c6, 8, .inl om))]) hP hD [0, 1, 2, 3] [4, 5, 6, 7] rfl rfl (by decide) (by decide) hk1 hFc hP1 hD1
  have hK := (hK.sub (tys' := [(c1, .byte), (c2, .byte), (c3, .byte), (c4, .int), (c5, .int), (c6, .int)]) [0, 1, 2, 3, 4, 5] rfl).app (hK1.sub (tys' := []) [] rfl)
  generalize H1 = H at hP hS ⊢
  have hP : va_P D vwCl [(x0, .inr (0, [.ref x1, .ref x2, .ref x3])), (x1, .inl (c1, 32, .inl kf)), (x2, .inl (c2, 8, .inl (gCopB bf of 8))), (x3, .inl (c3, 8, .inl of)), (y0, .inr (1, [.ref y1, .ref y2, .ref y3])), (y1, .inl (c4, 32, .inl km)), (y2, .inl (c5, 8, .inl (gCopI bm om 8))), (y3, .inl (c6, 8, .inl om))] H := hP
  have hD : va_D A [(x0, .inr (0, [.ref x1, .ref x2, .ref x3])), (x1, .inl (c1, 32, .inl kf)), (x2, .inl (c2, 8, .inl (gCopB bf of 8))), (x3, .inl (c3, 8, .inl of)), (y0, .inr (1, [.ref y1, .ref y2, .ref y3])), (y1, .inl (c4, 32, .inl km)), (y2, .inl (c5, 8, .inl (gCopI bm om 8))), (y3, .inl (c6, 8, .inl om))] := hD
  have hK : va_K D vwCl [(c1, .byte), (c2, .byte), (c3, .byte), (c4, .int), (c5, .int), (c6, .int)] s := hK
  refine W.widen (k := 8 + 5 * t + 0) (n := 102 + 76 * t + 0) (by omega) (by omega) ?_
  refine lv_goto (tgt := 240) hx hb dL_law_214 (by decide) ?_
  have hP := hP.sub (ws' := [(x0, .inr (0, [.ref x1, .ref x2, .ref x3])), (x1, .inl (c1, 32, .inl kf)), (x2, .inl (c2, 8, .inl (gCopB bf of 8))), (x3, .inl (c3, 8, .inl of)), (y0, .inr (1, [.ref y1, .ref y2, .ref y3])), (y1, .inl (c4, 32, .inl km)), (y2, .inl (c5, 8, .inl (gCopI bm om 8))), (y3, .inl (c6, 8, .inl om))]) [0, 1, 2, 3, 4, 5, 6, 7] rfl
  have hD := hD.sub (ws' := [(x0, .inr (0, [.ref x1, .ref x2, .ref x3])), (x1, .inl (c1, 32, .inl kf)), (x2, .inl (c2, 8, .inl (gCopB bf of 8))), (x3, .inl (c3, 8, .inl of)), (y0, .inr (1, [.ref y1, .ref y2, .ref y3])), (y1, .inl (c4, 32, .inl km)), (y2, .inl (c5, 8, .inl (gCopI bm om 8))), (y3, .inl (c6, 8, .inl om))]) [0, 1, 2, 3, 4, 5, 6, 7] (by decide) rfl
  have hK := hK.sub (tys' := [(c1, .byte), (c2, .byte), (c3, .byte), (c4, .int), (c5, .int), (c6, .int)]) [0, 1, 2, 3, 4, 5] rfl
  refine W.widen (k := 8 + 5 * (t + 1)) (n := 102 + 76 * (t + 1)) (by omega) (by omega) ?_
  exact next kf (gCopB bf of 8) of km (gCopI bm om 8) om hRk (gR_cop hRo) hRo _ _ hP hD hS ls (lv_sub hl [0, 1, 2, 3] rfl)
end
section
set_option maxHeartbeats 4000000 in
set_option maxRecDepth 100000 in
/-- case 5 of the law's switch -/
theorem law_case5 {p : Program} {l : Launch} {e : Env} {s : State} {m : MethodId} {below : List Frame} {meth : Method} {c : Code} {D : va_G} {A : Nat → Prop} {tS tR : Nat} {b L : Nat} {xs : Nat → Int32} (hL : L ≤ 288) (hAe : A = fun q : Nat => s.heap.size ≤ q) (C0 : lw_At p s m meth c b L xs) (hZ : gZ tS tR A s s.heap) (x0 x1 x2 x3 y0 y1 y2 y3 : Nat) (c1 c2 c3 c4 c5 c6 : ClassId) (hK : va_K D vwCl [(c1, .byte), (c2, .byte), (c3, .byte), (c4, .int), (c5, .int), (c6, .int)] s) (t : Nat) (kt : t ≤ 48) (h6 : 6 * t + 6 ≤ L) (next : gAt8 p l e s m below meth c D A b x0 x1 x2 x3 y0 y1 y2 y3 c1 c2 c3 c4 c5 c6 (nI (6 * t)) (8 + 5 * (t + 1)) (102 + 76 * (t + 1)) 240) : gAt8 p l e s m below meth c D A b x0 x1 x2 x3 y0 y1 y2 y3 c1 c2 c3 c4 c5 c6 (nI (6 * t)) (8 + 5 * t) (102 + 76 * t) 217 := by
  obtain ⟨hx, hb, hr, hml, hown, hts0, hX, hbl, hlocks, hgv⟩ := C0
  have hts : ∀ w ∈ lw_all, w.before #[Value.ref b] s = true := fun w h => hts0 w (lw_all_tbl h)
  have hA : ∀ q : Nat, s.heap.size ≤ q → A q := fun q h => by rw [hAe]; exact h
  have hbA : ¬ A b := fun h => by rw [hAe] at h; exact absurd hbl (Nat.not_lt.mpr h)
  intro kf bf of km bm om hRk hRb hRo H locs hP hD hS ls hl
  refine lv_aload_n hx hb dL_law_217 rfl (lv_at hl 1 rfl) ?_
  refine lv_aload_n hx hb dL_law_218 rfl (lv_at hl 0 rfl) ?_
  refine lv_iload_n hx hb dL_law_219 rfl (lv_at hl 3 rfl) ?_
  refine lv_iconst (v := 1) hx hb dL_law_220 (by decide) ?_
  refine lv_iadd hx hb dL_law_221 ?_
  refine g_top (nI (6 * t + 1)) (nI_add (6 * t) 1) ?_
  refine g_sld hx hb hX hbl hbA hS (6 * t + 1) rfl (by omega) (by omega) dL_law_222 ?_
  have hPc := hP.sub (ws' := [(x0, .inr (0, [.ref x1, .ref x2, .ref x3])), (x1, .inl (c1, 32, .inl kf)), (x2, .inl (c2, 8, .inl bf)), (x3, .inl (c3, 8, .inl of))]) [0, 1, 2, 3] rfl
  have hKc := hK.sub (tys' := [(c1, .byte), (c2, .byte), (c3, .byte)]) [0, 1, 2] rfl
  refine vp_callSi (va_Run.run (va_runV (As := [.int (xs (6 * t + 1))]) (rest := []) ⟨hx, hb, hml, hown, hts⟩ (mX0_out l D x0 x1 x2 x3 c1 c2 c3 kf bf of (xs (6 * t + 1)) tS tR) (cwV 1 hts (lw_V q299 q300 q301 q9 q302) rfl rfl rfl (by decide +kernel) ⟨Nat.le_of_ble_eq_true rfl, Nat.le_of_ble_eq_true rfl⟩) ⟨gPr_blind, va_recv hK hP (ci := 0) (q0 := 0) rfl rfl, gPr_of hPc hKc hZ hS⟩ rfl rfl hl.1 rfl (lv_room (Nat.le_of_ble_eq_true rfl)) dL_law_223 ⟨show 8 + 5 * t + 0 + 0 ≤ 600096 by omega, show 102 + 76 * t + 0 + 0 ≤ 7301386 by omega⟩)) (fun r_223 hr_223 => ?_)
  obtain rfl : r_223 = of (gAt (xs (6 * t + 1))) &&& 255 := hr_223
  refine W.widen (k := 8 + 5 * t + 0) (n := 102 + 76 * t + 0) (by omega) (by omega) ?_
  refine lv_aload_n hx hb dL_law_226 rfl (lv_at hl 2 rfl) ?_
  refine lv_aload_n hx hb dL_law_227 rfl (lv_at hl 0 rfl) ?_
  refine lv_iload_n hx hb dL_law_228 rfl (lv_at hl 3 rfl) ?_
  refine lv_iconst (v := 1) hx hb dL_law_229 (by decide) ?_
  refine lv_iadd hx hb dL_law_230 ?_
  refine g_top (nI (6 * t + 1)) (nI_add (6 * t) 1) ?_
  refine g_sld hx hb hX hbl hbA hS (6 * t + 1) rfl (by omega) (by omega) dL_law_231 ?_
  have hPc := hP.sub (ws' := [(y0, .inr (1, [.ref y1, .ref y2, .ref y3])), (y1, .inl (c4, 32, .inl km)), (y2, .inl (c5, 8, .inl bm)), (y3, .inl (c6, 8, .inl om))]) [4, 5, 6, 7] rfl
  have hKc := hK.sub (tys' := [(c4, .int), (c5, .int), (c6, .int)]) [3, 4, 5] rfl
  refine vp_callSi (va_Run.run (va_runV (As := [.int (xs (6 * t + 1))]) (rest := [.int (of (gAt (xs (6 * t + 1))) &&& 255)]) ⟨hx, hb, hml, hown, hts⟩ (mX1_out l D y0 y1 y2 y3 c4 c5 c6 km bm om (xs (6 * t + 1)) tS tR) (cwV 1 hts (lw_V q357 q358 q359 q10 q360) rfl rfl rfl (by decide +kernel) ⟨Nat.le_of_ble_eq_true rfl, Nat.le_of_ble_eq_true rfl⟩) ⟨gPr_blind, va_recv hK hP (ci := 1) (q0 := 4) rfl rfl, gPr_of hPc hKc hZ hS⟩ rfl rfl hl.1 rfl (lv_room (Nat.le_of_ble_eq_true rfl)) dL_law_232 ⟨show 8 + 5 * t + 0 + 0 ≤ 600096 by omega, show 102 + 76 * t + 0 + 0 ≤ 7301386 by omega⟩)) (fun r_232 hr_232 => ?_)
  obtain rfl : r_232 = om (gAt (xs (6 * t + 1))) := hr_232
  refine W.widen (k := 8 + 5 * t + 0) (n := 102 + 76 * t + 0) (by omega) (by omega) ?_
  refine lv_icmp_eq (tgt := 240) hx hb dL_law_235 (by decide) (fun _ => ?_) (fun c => absurd ((hRo _ (gAt_lt _)).symm) c)
  have hP := hP.sub (ws' := [(x0, .inr (0, [.ref x1, .ref x2, .ref x3])), (x1, .inl (c1, 32, .inl kf)), (x2, .inl (c2, 8, .inl bf)), (x3, .inl (c3, 8, .inl of)), (y0, .inr (1, [.ref y1, .ref y2, .ref y3])), (y1, .inl (c4, 32, .inl km)), (y2, .inl (c5, 8, .inl bm)), (y3, .inl (c6, 8, .inl om))]) [0, 1, 2, 3, 4, 5, 6, 7] rfl
  have hD := hD.sub (ws' := [(x0, .inr (0, [.ref x1, .ref x2, .ref x3])), (x1, .inl (c1, 32, .inl kf)), (x2, .inl (c2, 8, .inl bf)), (x3, .inl (c3, 8, .inl of)), (y0, .inr (1, [.ref y1, .ref y2, .ref y3])), (y1, .inl (c4, 32, .inl km)), (y2, .inl (c5, 8, .inl bm)), (y3, .inl (c6, 8, .inl om))]) [0, 1, 2, 3, 4, 5, 6, 7] (by decide) rfl
  have hK := hK.sub (tys' := [(c1, .byte), (c2, .byte), (c3, .byte), (c4, .int), (c5, .int), (c6, .int)]) [0, 1, 2, 3, 4, 5] rfl
  refine W.widen (k := 8 + 5 * (t + 1)) (n := 102 + 76 * (t + 1)) (by omega) (by omega) ?_
  exact next kf bf of km bm om hRk hRb hRo _ _ hP hD hS ls (lv_sub hl [0, 1, 2, 3] rfl)
end
section
set_option maxHeartbeats 4000000 in
set_option maxRecDepth 100000 in
/-- THE LAW'S LOOP: with t calls read, the class's memory and the reference's agree -/
theorem law_loop {p : Program} {l : Launch} {e : Env} {s : State} {m : MethodId} {below : List Frame} {meth : Method} {c : Code} {D : va_G} {A : Nat → Prop} {tS tR : Nat} {b L : Nat} {xs : Nat → Int32} (hL : L ≤ 288) (hAe : A = fun q : Nat => s.heap.size ≤ q) (C0 : lw_At p s m meth c b L xs) (hZ : gZ tS tR A s s.heap) (x0 x1 x2 x3 y0 y1 y2 y3 : Nat) (c1 c2 c3 c4 c5 c6 : ClassId) (hK : va_K D vwCl [(c1, .byte), (c2, .byte), (c3, .byte), (c4, .int), (c5, .int), (c6, .int)] s) :
    ∀ (n t : Nat), t ≤ 48 → 49 ≤ t + n → gAt8 p l e s m below meth c D A b x0 x1 x2 x3 y0 y1 y2 y3 c1 c2 c3 c4 c5 c6 (nI (6 * t)) (8 + 5 * t) (102 + 76 * t) 18 := by
  obtain ⟨hx, hb, hr, hml, hown, hts0, hX, hbl, hlocks, hgv⟩ := id C0
  have hts : ∀ w ∈ lw_all, w.before #[Value.ref b] s = true := fun w h => hts0 w (lw_all_tbl h)
  have hA : ∀ q : Nat, s.heap.size ≤ q → A q := fun q h => by rw [hAe]; exact h
  have hbA : ¬ A b := fun h => by rw [hAe] at h; exact absurd hbl (Nat.not_lt.mpr h)
  intro n
  induction n with
  | zero => intro t kt k2; exact absurd k2 (by omega)
  | succ n ih =>
    intro t kt k2
    intro kf bf of km bm om hRk hRb hRo H locs hP hD hS ls hl
    refine lv_iload_n hx hb dL_law_18 rfl (lv_at hl 3 rfl) ?_
    refine lv_aload_n hx hb dL_law_19 rfl (lv_at hl 0 rfl) ?_
    refine va_slen hx hb hX hbl hbA hS dL_law_20 ?_
    refine g_top (nI L) rfl ?_
    refine lv_bipush (v := 6) hx hb dL_law_21 (by decide) ?_
    refine lv_isub hx hb dL_law_23 ?_
    refine lv_icmp_gt (tgt := 246) hx hb dL_law_24 (by decide) (fun c24 => ?_) (fun c24 => ?_)
    · refine lv_iconst (v := 1) hx hb dL_law_246 (by decide) ?_
      refine va_forget (fun q hq => by have h9 := hS.2.2 q hq; rw [hAe] at h9; exact h9) ?_
      refine W.widen (k := 600096) (n := 7301386) (by omega) (by omega) ?_
      exact lw_ret hx hb hr hlocks dL_law_247
    · have h6 : 6 * t + 6 ≤ L := g_head kt hL c24
      refine lv_aload_n hx hb dL_law_27 rfl (lv_at hl 0 rfl) ?_
      refine lv_iload_n hx hb dL_law_28 rfl (lv_at hl 3 rfl) ?_
      refine g_sld hx hb hX hbl hbA hS (6 * t) rfl (by omega) (by omega) dL_law_29 ?_
      refine lv_bipush (v := 7) hx hb dL_law_30 (by decide) ?_
      refine lv_iand hx hb dL_law_32 ?_
      refine g_top (nI (gAt (xs (6 * t)))) (g_and7 _) ?_
      have next : gAt8 p l e s m below meth c D A b x0 x1 x2 x3 y0 y1 y2 y3 c1 c2 c3 c4 c5 c6 (nI (6 * t)) (8 + 5 * (t + 1)) (102 + 76 * (t + 1)) 240 := by
        intro kf bf of km bm om hRk hRb hRo H locs hP hD hS ls hl
        refine lv_iinc (v := (nI (6 * (t + 1)))) (lv' := [(3, .int (nI (6 * (t + 1)))), (0, .ref b), (1, .ref x0), (2, .ref y0)]) hx hb dL_law_240 hl (k := 3) rfl (nI_add (6 * t) 6) (by decide) rfl (fun ls hl => ?_)
        refine lv_goto (tgt := 18) hx hb dL_law_243 (by decide) ?_
        exact ih (t + 1) (by omega) (by omega) kf bf of km bm om hRk hRb hRo H locs hP hD hS ls (lv_sub hl [1, 2, 3, 0] rfl)
      have hcase : gAt (xs (6 * t)) = 0 ∨ gAt (xs (6 * t)) = 1 ∨ gAt (xs (6 * t)) = 2 ∨ gAt (xs (6 * t)) = 3 ∨ gAt (xs (6 * t)) = 4 ∨ gAt (xs (6 * t)) = 5 ∨ gAt (xs (6 * t)) = 6 ∨ gAt (xs (6 * t)) = 7 := by have := gAt_lt (xs (6 * t)); omega
      rcases hcase with hc | hc | hc | hc | hc | hc | hc | hc
      · refine g_top (nI 0) (by rw [hc]) ?_
        refine lv_tableIn (off := 39) (tgt := 72) hx hb dL_law_33 (by decide +kernel) (by decide +kernel) (by decide +kernel) (by decide) ?_
        exact law_case0 hL hAe C0 hZ x0 x1 x2 x3 y0 y1 y2 y3 c1 c2 c3 c4 c5 c6 hK t kt h6 next kf bf of km bm om hRk hRb hRo H locs hP hD hS ls hl
      · refine g_top (nI 1) (by rw [hc]) ?_
        refine lv_tableIn (off := 100) (tgt := 133) hx hb dL_law_33 (by decide +kernel) (by decide +kernel) (by decide +kernel) (by decide) ?_
        exact law_case1 hL hAe C0 hZ x0 x1 x2 x3 y0 y1 y2 y3 c1 c2 c3 c4 c5 c6 hK t kt h6 next kf bf of km bm om hRk hRb hRo H locs hP hD hS ls hl
      · refine g_top (nI 2) (by rw [hc]) ?_
        refine lv_tableIn (off := 131) (tgt := 164) hx hb dL_law_33 (by decide +kernel) (by decide +kernel) (by decide +kernel) (by decide) ?_
        exact law_case2 hL hAe C0 hZ x0 x1 x2 x3 y0 y1 y2 y3 c1 c2 c3 c4 c5 c6 hK t kt h6 next kf bf of km bm om hRk hRb hRo H locs hP hD hS ls hl
      · refine g_top (nI 3) (by rw [hc]) ?_
        refine lv_tableIn (off := 152) (tgt := 185) hx hb dL_law_33 (by decide +kernel) (by decide +kernel) (by decide +kernel) (by decide) ?_
        exact law_case3 hL hAe C0 hZ x0 x1 x2 x3 y0 y1 y2 y3 c1 c2 c3 c4 c5 c6 hK t kt h6 next kf bf of km bm om hRk hRb hRo H locs hP hD hS ls hl
      · refine g_top (nI 4) (by rw [hc]) ?_
        refine lv_tableIn (off := 173) (tgt := 206) hx hb dL_law_33 (by decide +kernel) (by decide +kernel) (by decide +kernel) (by decide) ?_
        exact law_case4 hL hAe C0 hZ x0 x1 x2 x3 y0 y1 y2 y3 c1 c2 c3 c4 c5 c6 hK t kt h6 next kf bf of km bm om hRk hRb hRo H locs hP hD hS ls hl
      · refine g_top (nI 5) (by rw [hc]) ?_
        refine lv_tableIn (off := 184) (tgt := 217) hx hb dL_law_33 (by decide +kernel) (by decide +kernel) (by decide +kernel) (by decide) ?_
        exact law_case5 hL hAe C0 hZ x0 x1 x2 x3 y0 y1 y2 y3 c1 c2 c3 c4 c5 c6 hK t kt h6 next kf bf of km bm om hRk hRb hRo H locs hP hD hS ls hl
      · refine g_top (nI 6) (by rw [hc]) ?_
        refine lv_tableOut (tgt := 240) hx hb dL_law_33 (by decide +kernel) (by decide) ?_
        have hP := hP.sub (ws' := [(x0, .inr (0, [.ref x1, .ref x2, .ref x3])), (x1, .inl (c1, 32, .inl kf)), (x2, .inl (c2, 8, .inl bf)), (x3, .inl (c3, 8, .inl of)), (y0, .inr (1, [.ref y1, .ref y2, .ref y3])), (y1, .inl (c4, 32, .inl km)), (y2, .inl (c5, 8, .inl bm)), (y3, .inl (c6, 8, .inl om))]) [0, 1, 2, 3, 4, 5, 6, 7] rfl
        have hD := hD.sub (ws' := [(x0, .inr (0, [.ref x1, .ref x2, .ref x3])), (x1, .inl (c1, 32, .inl kf)), (x2, .inl (c2, 8, .inl bf)), (x3, .inl (c3, 8, .inl of)), (y0, .inr (1, [.ref y1, .ref y2, .ref y3])), (y1, .inl (c4, 32, .inl km)), (y2, .inl (c5, 8, .inl bm)), (y3, .inl (c6, 8, .inl om))]) [0, 1, 2, 3, 4, 5, 6, 7] (by decide) rfl
        have hK := hK.sub (tys' := [(c1, .byte), (c2, .byte), (c3, .byte), (c4, .int), (c5, .int), (c6, .int)]) [0, 1, 2, 3, 4, 5] rfl
        refine W.widen (k := 8 + 5 * (t + 1)) (n := 102 + 76 * (t + 1)) (by omega) (by omega) ?_
        exact next kf bf of km bm om hRk hRb hRo _ _ hP hD hS ls (lv_sub hl [0, 1, 2, 3] rfl)
      · refine g_top (nI 7) (by rw [hc]) ?_
        refine lv_tableOut (tgt := 240) hx hb dL_law_33 (by decide +kernel) (by decide) ?_
        have hP := hP.sub (ws' := [(x0, .inr (0, [.ref x1, .ref x2, .ref x3])), (x1, .inl (c1, 32, .inl kf)), (x2, .inl (c2, 8, .inl bf)), (x3, .inl (c3, 8, .inl of)), (y0, .inr (1, [.ref y1, .ref y2, .ref y3])), (y1, .inl (c4, 32, .inl km)), (y2, .inl (c5, 8, .inl bm)), (y3, .inl (c6, 8, .inl om))]) [0, 1, 2, 3, 4, 5, 6, 7] rfl
        have hD := hD.sub (ws' := [(x0, .inr (0, [.ref x1, .ref x2, .ref x3])), (x1, .inl (c1, 32, .inl kf)), (x2, .inl (c2, 8, .inl bf)), (x3, .inl (c3, 8, .inl of)), (y0, .inr (1, [.ref y1, .ref y2, .ref y3])), (y1, .inl (c4, 32, .inl km)), (y2, .inl (c5, 8, .inl bm)), (y3, .inl (c6, 8, .inl om))]) [0, 1, 2, 3, 4, 5, 6, 7] (by decide) rfl
        have hK := hK.sub (tys' := [(c1, .byte), (c2, .byte), (c3, .byte), (c4, .int), (c5, .int), (c6, .int)]) [0, 1, 2, 3, 4, 5] rfl
        refine W.widen (k := 8 + 5 * (t + 1)) (n := 102 + 76 * (t + 1)) (by omega) (by omega) ?_
        exact next kf bf of km bm om hRk hRb hRo _ _ hP hD hS ls (lv_sub hl [0, 1, 2, 3] rfl)
end
section
/-! ===== the start: the two tables, the words beside lw_all ===== -/
def gFlat : List Cond := flatC (Jvm.Cond.and given_1 narrow_1)
abbrev gTmS : Term := .static "GOST28147Engine" "Sbox_Default" "[B"
abbrev gTmR : Term := .static "GostDeskModel" "ROWS" "[I"
theorem g_elS : ∀ j, j < 128 → gFlat[9 + j]? = some (Cond.eq (.elem gTmS (.int (Int32.ofNat j))) (.int (nI (gS j)))) := by decide +kernel
theorem g_elR : ∀ j, j < 128 → gFlat[143 + j]? = some (Cond.eq (.elem gTmR (.int (Int32.ofNat j))) (.int (nI (gS j)))) := by decide +kernel
theorem g_arS : gFlat[6]? = some (Cond.arrayOf gTmS .byte) := by decide +kernel
theorem g_lnS : gFlat[8]? = some (Cond.eq (.length gTmS) (.int (Int32.ofNat 128))) := by decide +kernel
theorem g_arR : gFlat[140]? = some (Cond.arrayOf gTmR .int) := by decide +kernel
theorem g_lnR : gFlat[142]? = some (Cond.eq (.length gTmR) (.int (Int32.ofNat 128))) := by decide +kernel
theorem g_ncK : gFlat[274]? = some (Cond.not (.castable "KeyParameter" "ParametersWithSBox")) := by decide +kernel
theorem g_start {s : State} {A : Nat → Prop} {b : Addr} (hA : ∀ a : Nat, a < s.heap.size → ¬ A a) (hts : ∀ w ∈ lw_tbl, w.before #[Value.ref b] s = true) (hgv : (Jvm.Cond.and given_1 narrow_1).before #[Value.ref b] s = true) : ∃ tS tR : Nat, gZ tS tR A s s.heap := by
  have hs : ∀ (i : Nat) (w : Cond), gFlat[i]? = some w → w.before #[Value.ref b] s = true := fun i w h => flat_of_before _ hgv w (List.mem_of_getElem? h)
  obtain ⟨tS, h1, h2⟩ := va_Tof (A := A) (tm := gTmS) (ty := .byte) (N := 128) (f := gTv) (by decide) (hs _ _ g_arS) (va_eqt (hs _ _ g_lnS)) (fun j hj => va_eqt (hs _ _ (g_elS j hj))) hA
  obtain ⟨tR, h3, h4⟩ := va_Tof (A := A) (tm := gTmR) (ty := .int) (N := 128) (f := gTv) (by decide) (hs _ _ g_arR) (va_eqt (hs _ _ g_lnR)) (fun j hj => va_eqt (hs _ _ (g_elR j hj))) hA
  exact ⟨tS, tR, ⟨va_Zref (hts _ q71) (hts _ (lw_all_tbl q11)) h1 hA, h2⟩, ⟨va_Zref (hts _ q348) (hts _ (lw_all_tbl q10)) h3 hA, h4⟩,
    va_Fw.of (hts _ q104) (hts _ q103) (hts _ q109) (hts _ q107) (hts _ q105), va_Fw.of (hts _ q219) (hts _ q218) (hts _ q223) (hts _ q221) (hts _ q105), va_Nc.of (hs _ _ g_ncK)⟩
set_option maxHeartbeats 4000000 in
set_option maxRecDepth 100000 in
/-- THE LAW, from its entry -/
theorem whole_start {p : Program} {e : Env} {s : State} {m : MethodId} {below : List Frame} {meth : Method} {c : Code} (l : Launch) (hflags : l.flags = flags0) {b L : Nat} {xs : Nat → Int32} (hL : L ≤ 288) (C0 : lw_At p s m meth c b L xs) : W p l e room_1 s m #[Value.ref b] below meth c s.heap [] 0 0 (lw_Z below #[Value.ref b] s) (entryFrame m ([Value.ref b] : List Value).toArray 4) := by
  obtain ⟨hx, hb, hr, hml, hown, hts0, hX, hbl, hlocks, hgv⟩ := id C0
  have hts : ∀ w ∈ lw_all, w.before #[Value.ref b] s = true := fun w h => hts0 w (lw_all_tbl h)
  obtain ⟨d0, iS0, hKn0⟩ := u_known (C := RX0) (T := TX0) (N := 3) (n := 3) hts0 (fun w h => lw_all_tbl (in_X0 w h)) (hts0 _ (lw_all_tbl q24))
  obtain ⟨d1, iS1, hKn1⟩ := u_known (C := RX1) (T := TX1) (N := 3) (n := 3) hts0 (fun w h => lw_all_tbl (in_X1 w h)) (hts0 _ (lw_all_tbl q304))
  obtain ⟨d2, iS2, hKn2⟩ := u_known (C := RX2) (T := TX2) (N := 3) (n := 3) hts0 (fun w h => lw_all_tbl (in_X2 w h)) (hts0 _ (lw_all_tbl q65))
  obtain ⟨d3, iS3, hKn3⟩ := u_known (C := RX3) (T := TX3) (N := 1) (n := 1) hts0 (fun w h => lw_all_tbl (in_X3 w h)) (hts0 _ (lw_all_tbl q83))
  obtain ⟨D, hKc⟩ : ∃ D : va_G, ∀ (k : Nat) (q : vw_C), vwCl[k]? = some q → u_Kn s q.1 q.2.1 q.2.2 (D.1 k) (D.2 k) := by
    refine ⟨(fun k => if k = 0 then d0 else if k = 1 then d1 else if k = 2 then d2 else d3, fun k => if k = 0 then iS0 else if k = 1 then iS1 else if k = 2 then iS2 else iS3), ?_⟩
    intro k q hq
    match k, hq with
    | 0, hq => cases hq; exact hKn0
    | 1, hq => cases hq; exact hKn1
    | 2, hq => cases hq; exact hKn2
    | 3, hq => cases hq; exact hKn3
    | k + 4, hq => simp [vwCl] at hq
  obtain ⟨A, hAe⟩ : ∃ A : Nat → Prop, A = fun q : Nat => s.heap.size ≤ q := ⟨_, rfl⟩
  have hA : ∀ q : Nat, s.heap.size ≤ q → A q := fun q h => by rw [hAe]; exact h
  have hAn : ∀ a : Nat, a < s.heap.size → ¬ A a := fun a h q => by rw [hAe] at q; exact absurd h (Nat.not_lt.mpr q)
  obtain ⟨tS, tR, hZ⟩ := g_start hAn hts0 hgv
  have hS : va_S A s.heap s.heap [] := va_S.rf
  have hK : va_K D vwCl [] s := ⟨hKc, fun k q h => by simp at h⟩
  have hP : va_P D vwCl [] s.heap := fun k q h => by simp at h
  have hD : va_D A [] := ⟨fun i j p q h => by simp at h, fun k q h => by simp at h⟩
  have hl := lv_entry ([.ref b]) (n := 4) (Nat.le_of_ble_eq_true rfl)
  rw [lg_entry_eq]
  generalize (lg_sl ([.ref b]) ++ List.replicate (4 - (lg_sl ([.ref b])).length) Slot.unset).toArray = ls at hl ⊢
  have hl : lv_has ls 4 [(0, .ref b)] := hl
  refine va_new (D := D) (cl := vwCl) (ci := 0) (fs := [.null, .null, .null]) (C := RX0) (T := TX0) (N := 3) hx hb hts in_X0 tyX0 tyX0_ok hown (hts _ q23) (hts _ q24) (hts _ q9) hK hP hD hS hA rfl (fun j hj => by rcases (show j = 0 ∨ j = 1 ∨ j = 2 by omega) with rfl | rfl | rfl <;> rfl) (Nat.le_of_ble_eq_true rfl) (Nat.le_of_ble_eq_true rfl) dL_law_0 (fun x0 H hP hD hS => ?_)
  have hP : va_P D vwCl [(x0, .inr (0, [.null, .null, .null]))] H := hP
  have hD : va_D A [(x0, .inr (0, [.null, .null, .null]))] := hD
  refine W.widen (k := 1) (n := 3) (Nat.le_of_ble_eq_true rfl) (Nat.le_of_ble_eq_true rfl) ?_
  refine lv_dup hx hb dL_law_3 rfl ?_
  have hPc := hP.sub (ws' := [(x0, .inr (0, [.null, .null, .null]))]) [0] rfl
  have hDc := hD.sub (ws' := [(x0, .inr (0, [.null, .null, .null]))]) [0] (by decide) rfl
  have hKc := hK.sub (tys' := []) [] rfl
  have hFc := va_free (wc := [(x0, .inr (0, [.null, .null, .null]))]) hD hS hA [0] rfl
  refine va_callv (va_runI (As := []) (rest := [.ref x0]) ⟨hx, hb, hml, hown, hts⟩ (mX0_init l D x0 H.size tS tR) (cwI 0 hts (lw_meth q27) rfl rfl rfl (hts _ q9) (hts _ q25) (hts _ q26) rfl (by decide +kernel) ⟨Nat.le_of_ble_eq_true rfl, Nat.le_of_ble_eq_true rfl⟩) ⟨gPw_blind, gPw_of hPc hKc hDc hZ hS hFc⟩ rfl rfl hl.1 rfl (lv_room (Nat.le_of_ble_eq_true rfl)) dL_law_4 ⟨Nat.le_of_ble_eq_true rfl, Nat.le_of_ble_eq_true rfl⟩) hS (fun q _ h => hFc q h) hFc (fun u t H1 locs ht hvm hw hB hz1 hk1 hS => ?_)
  obtain ⟨x1, x2, x3, c1, c2, c3, hP1, hK1, hD1⟩ := hB
  rw [ht] at hP1
  have hK1 := va_K.moved hvm.symm hK1
  obtain ⟨hP, hD⟩ := va_join (wr := []) (w1 := [(x0, .inr (0, [.ref x1, .ref x2, .ref x3])), (x1, .inl (c1, 32, .inl (fun _ => 0))), (x2, .inl (c2, 8, .inl (fun _ => 0))), (x3, .inl (c3, 8, .inl (fun _ => 0)))]) hP hD [0] [] rfl rfl (by decide) (by decide) hk1 hFc hP1 hD1
  have hK := (hK.sub (tys' := []) [] rfl).app (hK1.sub (tys' := [(c1, .byte), (c2, .byte), (c3, .byte)]) [0, 1, 2] rfl)
  generalize H1 = H at hP hS ⊢
  have hP : va_P D vwCl [(x0, .inr (0, [.ref x1, .ref x2, .ref x3])), (x1, .inl (c1, 32, .inl (fun _ => 0))), (x2, .inl (c2, 8, .inl (fun _ => 0))), (x3, .inl (c3, 8, .inl (fun _ => 0)))] H := hP
  have hD : va_D A [(x0, .inr (0, [.ref x1, .ref x2, .ref x3])), (x1, .inl (c1, 32, .inl (fun _ => 0))), (x2, .inl (c2, 8, .inl (fun _ => 0))), (x3, .inl (c3, 8, .inl (fun _ => 0)))] := hD
  have hK : va_K D vwCl [(c1, .byte), (c2, .byte), (c3, .byte)] s := hK
  refine W.widen (k := 4) (n := 51) (Nat.le_of_ble_eq_true rfl) (Nat.le_of_ble_eq_true rfl) ?_
  refine lv_astore_n (lv' := [(1, .ref x0), (0, .ref b)]) hx hb dL_law_7 rfl hl (by decide) rfl (fun ls hl => ?_)
  refine va_new (D := D) (cl := vwCl) (ci := 1) (fs := [.null, .null, .null]) (C := RX1) (T := TX1) (N := 3) hx hb hts in_X1 tyX1 tyX1_ok hown (hts _ q303) (hts _ q304) (hts _ q10) hK hP hD hS hA rfl (fun j hj => by rcases (show j = 0 ∨ j = 1 ∨ j = 2 by omega) with rfl | rfl | rfl <;> rfl) (Nat.le_of_ble_eq_true rfl) (Nat.le_of_ble_eq_true rfl) dL_law_8 (fun y0 H hP hD hS => ?_)
  have hP : va_P D vwCl [(x0, .inr (0, [.ref x1, .ref x2, .ref x3])), (x1, .inl (c1, 32, .inl (fun _ => 0))), (x2, .inl (c2, 8, .inl (fun _ => 0))), (x3, .inl (c3, 8, .inl (fun _ => 0))), (y0, .inr (1, [.null, .null, .null]))] H := hP
  have hD : va_D A [(x0, .inr (0, [.ref x1, .ref x2, .ref x3])), (x1, .inl (c1, 32, .inl (fun _ => 0))), (x2, .inl (c2, 8, .inl (fun _ => 0))), (x3, .inl (c3, 8, .inl (fun _ => 0))), (y0, .inr (1, [.null, .null, .null]))] := hD
  refine W.widen (k := 5) (n := 54) (Nat.le_of_ble_eq_true rfl) (Nat.le_of_ble_eq_true rfl) ?_
  refine lv_dup hx hb dL_law_11 rfl ?_
  have hPc := hP.sub (ws' := [(y0, .inr (1, [.null, .null, .null]))]) [4] rfl
  have hDc := hD.sub (ws' := [(y0, .inr (1, [.null, .null, .null]))]) [4] (by decide) rfl
  have hKc := hK.sub (tys' := []) [] rfl
  have hFc := va_free (wc := [(y0, .inr (1, [.null, .null, .null]))]) hD hS hA [4] rfl
  refine va_callv (va_runI (As := []) (rest := [.ref y0]) ⟨hx, hb, hml, hown, hts⟩ (mX1_init l D y0 H.size tS tR) (cwI 0 hts (lw_meth q307) rfl rfl rfl (hts _ q10) (hts _ q305) (hts _ q306) rfl (by decide +kernel) ⟨Nat.le_of_ble_eq_true rfl, Nat.le_of_ble_eq_true rfl⟩) ⟨gPw_blind, gPw_of hPc hKc hDc hZ hS hFc⟩ rfl rfl hl.1 rfl (lv_room (Nat.le_of_ble_eq_true rfl)) dL_law_12 ⟨Nat.le_of_ble_eq_true rfl, Nat.le_of_ble_eq_true rfl⟩) hS (fun q _ h => hFc q h) hFc (fun u t H1 locs ht hvm hw hB hz1 hk1 hS => ?_)
  obtain ⟨y1, y2, y3, c4, c5, c6, hP1, hK1, hD1⟩ := hB
  rw [ht] at hP1
  have hK1 := va_K.moved hvm.symm hK1
  obtain ⟨hP, hD⟩ := va_join (wr := [(x0, .inr (0, [.ref x1, .ref x2, .ref x3])), (x1, .inl (c1, 32, .inl (fun _ => 0))), (x2, .inl (c2, 8, .inl (fun _ => 0))), (x3, .inl (c3, 8, .inl (fun _ => 0)))]) (w1 := [(y0, .inr (1, [.ref y1, .ref y2, .ref y3])), (y1, .inl (c4, 32, .inl (fun _ => 0))), (y2, .inl (c5, 8, .inl (fun _ => 0))), (y3, .inl (c6, 8, .inl (fun _ => 0)))]) hP hD [4] [0, 1, 2, 3] rfl rfl (by decide) (by decide) hk1 hFc hP1 hD1
  have hK := (hK.sub (tys' := [(c1, .byte), (c2, .byte), (c3, .byte)]) [0, 1, 2] rfl).app (hK1.sub (tys' := [(c4, .int), (c5, .int), (c6, .int)]) [0, 1, 2] rfl)
  generalize H1 = H at hP hS ⊢
  have hP : va_P D vwCl [(x0, .inr (0, [.ref x1, .ref x2, .ref x3])), (x1, .inl (c1, 32, .inl (fun _ => 0))), (x2, .inl (c2, 8, .inl (fun _ => 0))), (x3, .inl (c3, 8, .inl (fun _ => 0))), (y0, .inr (1, [.ref y1, .ref y2, .ref y3])), (y1, .inl (c4, 32, .inl (fun _ => 0))), (y2, .inl (c5, 8, .inl (fun _ => 0))), (y3, .inl (c6, 8, .inl (fun _ => 0)))] H := hP
  have hD : va_D A [(x0, .inr (0, [.ref x1, .ref x2, .ref x3])), (x1, .inl (c1, 32, .inl (fun _ => 0))), (x2, .inl (c2, 8, .inl (fun _ => 0))), (x3, .inl (c3, 8, .inl (fun _ => 0))), (y0, .inr (1, [.ref y1, .ref y2, .ref y3])), (y1, .inl (c4, 32, .inl (fun _ => 0))), (y2, .inl (c5, 8, .inl (fun _ => 0))), (y3, .inl (c6, 8, .inl (fun _ => 0)))] := hD
  have hK : va_K D vwCl [(c1, .byte), (c2, .byte), (c3, .byte), (c4, .int), (c5, .int), (c6, .int)] s := hK
  refine W.widen (k := 8) (n := 102) (Nat.le_of_ble_eq_true rfl) (Nat.le_of_ble_eq_true rfl) ?_
  refine lv_astore_n (lv' := [(2, .ref y0), (1, .ref x0), (0, .ref b)]) hx hb dL_law_15 rfl hl (by decide) rfl (fun ls hl => ?_)
  refine lv_iconst (v := 0) hx hb dL_law_16 (by decide) ?_
  refine g_top (nI (6 * 0)) rfl ?_
  refine lv_istore_n (lv' := [(3, .int (nI (6 * 0))), (2, .ref y0), (1, .ref x0), (0, .ref b)]) hx hb dL_law_17 rfl hl (by decide) rfl (fun ls hl => ?_)
  have hP := hP.sub (ws' := [(x0, .inr (0, [.ref x1, .ref x2, .ref x3])), (x1, .inl (c1, 32, .inl (fun _ => 0))), (x2, .inl (c2, 8, .inl (fun _ => 0))), (x3, .inl (c3, 8, .inl (fun _ => 0))), (y0, .inr (1, [.ref y1, .ref y2, .ref y3])), (y1, .inl (c4, 32, .inl (fun _ => 0))), (y2, .inl (c5, 8, .inl (fun _ => 0))), (y3, .inl (c6, 8, .inl (fun _ => 0)))]) [0, 1, 2, 3, 4, 5, 6, 7] rfl
  have hD := hD.sub (ws' := [(x0, .inr (0, [.ref x1, .ref x2, .ref x3])), (x1, .inl (c1, 32, .inl (fun _ => 0))), (x2, .inl (c2, 8, .inl (fun _ => 0))), (x3, .inl (c3, 8, .inl (fun _ => 0))), (y0, .inr (1, [.ref y1, .ref y2, .ref y3])), (y1, .inl (c4, 32, .inl (fun _ => 0))), (y2, .inl (c5, 8, .inl (fun _ => 0))), (y3, .inl (c6, 8, .inl (fun _ => 0)))]) [0, 1, 2, 3, 4, 5, 6, 7] (by decide) rfl
  have hK := hK.sub (tys' := [(c1, .byte), (c2, .byte), (c3, .byte), (c4, .int), (c5, .int), (c6, .int)]) [0, 1, 2, 3, 4, 5] rfl
  exact law_loop hL hAe C0 hZ x0 x1 x2 x3 y0 y1 y2 y3 c1 c2 c3 c4 c5 c6 hK 49 0 (by omega) (by omega) _ _ _ _ _ _ (gR_0 32) (gR_0 8) (gR_0 8) H _ hP hD hS ls (lv_sub hl [3, 2, 1, 0] rfl)
end
section
-- ===== YOUR PART ENDS =====
set_option maxHeartbeats 4000000 in
theorem lw_walk (l : Launch) (hflags : l.flags = flags0) (b : Addr) (xs : List Int32) : MetFree l x (headSpec (Jvm.Cond.code x code maxLocals ret :: tables_1) room_1) (lw_P b xs) (fun _ _ _ _ _ => True) lw_Q := by
  refine MetFree.of_bodyS (code := code) (maxLocals := maxLocals) (ret := ret) (by decide) ?_ ?_
  · intro args s m h hn
    obtain ⟨meth, c, h1, h2, h3, h4, h5, h6, -, -⟩ := Cond.code_spec hn (atoms_spec (ws := Jvm.Cond.code x code maxLocals ret :: tables_1) h _ List.mem_cons_self)
    exact ⟨meth, c, h1, h2, h3, h4, h5, h6⟩
  · intro p e s m args below meth c s₁ B hml0 hP _
    obtain ⟨rfl, hx, hbd, hgv⟩ := hP
    obtain ⟨scr, harrAt, hlist, hof, hsmall⟩ := hx
    obtain ⟨hcb, hkn, -, -⟩ := State.arrayAt?_spec harrAt
    have hown : s.vm.findClass R_law = some m.cls := findClass_of_methodNamed B.named
    have hts0 : ∀ c ∈ (Jvm.Cond.code x code maxLocals ret :: tables_1), c.before #[Value.ref b] s = true := atoms_spec (ws := Jvm.Cond.code x code maxLocals ret :: tables_1) B.pre
    have hts : ∀ w ∈ lw_tbl, w.before #[Value.ref b] s = true := k2_hts_sels lw_privs (fun w hw => hts0 w (List.mem_cons_of_mem _ hw)) lw_privs_ok
    have hml : c.maxLocals = 4 := B.maxLocals_eq (hts0 _ List.mem_cons_self)
    have X₀ : Stand p l e room_1 s m #[Value.ref b] below meth c s₁ [] 0 0 := Stand.of_body B
    have hh0 : s₁.heap = s.heap := by rw [B.state]; rfl
    have hsz : scr.slots.size = xs.length := by rw [← Array.length_toList, hlist, List.length_map]
    have hval : ∀ j : Nat, j < xs.length → scr.slots[j]? = some (.int (xs.getD j 0)) := fun j hj => by
      rw [← Array.getElem?_toList, hlist]
      simp [hj]
    have hbl : b < s.heap.size := (Array.getElem?_eq_some_iff.mp hcb).1
    have hX : va_X b xs.length (fun j => xs.getD j 0) s s.heap := ⟨scr, hcb, hof, hkn, hsz, hval⟩
    have K : W p l e room_1 s m #[Value.ref b] below meth c s₁.heap [] 0 0 (lw_Z below #[Value.ref b] s) (entryFrame m ([Value.ref b] : List Value).toArray 4) := by
      rw [hh0]
      exact whole_start l hflags hbd ⟨B.exec, B.bytes, B.returns, hml, hown, hts, hX, hbl, B.notSynchronized, hgv⟩
    obtain ⟨t, a1, o, b1, b2, b3⟩ := K s₁ rfl X₀
    exact ⟨t, o, a1, b1, b2, b3⟩
theorem lw_pre_spec {args : Array Value} {s : State} (h : (Jvm.Cond.and given_1 narrow_1).before args s = true) (hr : rest_1_c.before args s = true) : ∃ (b : Addr) (xs : List Int32), lw_P b xs args s := by
  have hs := flat_of_before _ h
  have hq := flat_of_before _ hr
  have hc : (Cond.count 1).before args s = true := hs _ (by decide +kernel)
  have harr : (Cond.arrayOf (.arg 0) .int).before args s = true := hs _ (by decide +kernel)
  have hle : (Cond.le (.length (.arg 0)) (.int 288)).before args s = true := hs _ (by decide +kernel)
  have hlen : (Cond.isInt (.length (.arg 0))).before args s = true := hq _ (by decide +kernel)
  have hall : (Cond.all (.arg 0) (.isInt (.elem (.arg 0) (.index 0)))).before args s = true := hq _ (by decide +kernel)
  obtain ⟨b, xs, hb, hx⟩ := State.ints_of_pre rfl harr hlen hall
  have hsm : xs.length < 2 ^ 31 := hx.choose_spec.2.2.2
  have hev : (Term.length (.arg 0)).eval args s none [] s = some (.int xs.length.toInt32) := hx.length_eval hb
  have hv := Cond.le_ints hev (show (Term.int 288).eval args s none [] s = some (.int 288) from rfl)
  have hd : xs.length.toInt32 ≤ 288 := by
    simpa [Cond.before, Cond.holds, hv] using hle
  have hN : xs.length ≤ 288 := (Int32.ofNat_le_ofNat hsm (by decide)).mp (show Int32.ofNat xs.length ≤ Int32.ofNat 288 from hd)
  exact ⟨b, xs, Cond.one_arg hc (show args[0]? = some (.ref b) from hb), hx, hN, h⟩
theorem lw_comes (l : Launch) (hflags : l.flags = flags0) : Comes l x (Jvm.Cond.code x code maxLocals ret :: tables_1) room_1 (fun tb e args s => Calls_1 tb e args s ∧ rest_1 tb e args s ∧ Pre_1 tb e args s)
    (fun _ _ args s o t => lw_Q args s o t) := by
  intro p e ha hc hk s m args below hf hfit hheap happ hpre
  obtain ⟨b, xs, hP⟩ := lw_pre_spec hpre.2.2 hpre.2.1
  obtain ⟨k, o, h1, h2, h3, hQ⟩ := lw_walk l hflags b xs p e ha hc hk s m args below hf ((Spec.applies_iff_loose hf).mp happ).1 hP trivial
  exact ⟨k, o, h1, h2, h3, hQ⟩
theorem lw_frame {s t : State} {o : Outcome} {args : Array Value} (h : Framed s o t [] 600096 7301386) :
    Framed s o t (fieldLocs frame_1_writes args s ++ arrayLocs frame_1_arrays args s ++ staticLocs frame_1_statics s) 600096 7301386 := h
theorem lw_limb (L : Cond) (hL : ∀ (args : Array Value) (s t : State), L.after args s (.returned (some (.int 1))) t = true) :
    ArmFor flags0 classFile x code maxLocals ret World_1 tables_1 room_1 Calls_1 rest_1 Pre_1
      (fun tb e a s o t => postC L tb e a s o t ∧ Framed s o t (fieldLocs frame_1_writes a s ++ arrayLocs frame_1_arrays a s ++ staticLocs frame_1_statics s) 600096 7301386) := by
  intro l hflags _ _ p e ha hc hk s m args below hf hfit hheap happ hpre
  obtain ⟨k, o, h1, h2, h3, rfl, hF⟩ := lw_comes l hflags p e ha hc hk s m args below hf hfit hheap happ hpre
  exact ⟨k, _, h1, h2, h3, hL args s _, lw_frame hF⟩
theorem i_vc : Claimed_1_1 ∧ Claimed_1_2 := ⟨lw_limb limb_1_1 (fun args s t => by simp [limb_1_1, Cond.after, Cond.holds, Cond.value]), lw_limb limb_1_2 (fun args s t => Cond.after_iff.mpr (by
  first | (rw [show limb_1_2 = Cond.eq .result (.int 1) from rfl, Cond.eq_ints (x := 1) (y := 1) rfl rfl]; simp; done) | (simp [limb_1_2, Cond.value, Term.eval]; done)))⟩
end
