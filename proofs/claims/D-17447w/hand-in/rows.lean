section
-- ===== PART A: goes FIRST, ahead of the names: the tables' words, and 'selects' of the private methods out of them =====
/-- a private method of a class that the tables say can be made, by its rows of tables_1 -/
def lw_okq (q : MethodName × Nat) : Prop := (q.1.cls ≠ "java/lang/invoke/MethodHandle" ∧ q.1.cls ≠ "java/lang/invoke/VarHandle") ∧ Cond.instantiable q.1.cls q.2 ∈ tables_1 ∧ Cond.privateMethod q.1 ∈ tables_1 ∧ Cond.instanceMethod q.1 ∈ tables_1
set_option maxRecDepth 100000
theorem lw_t1 {w : Cond} (h : w ∈ tables_1_1) : w ∈ tables_1 := List.mem_append_left _ h
theorem lw_t2 {w : Cond} (h : w ∈ tables_1_2) : w ∈ tables_1 := List.mem_append_right _ h
theorem lw_p0 : lw_okq (⟨"VmpcDesk", "from", "(I)I"⟩, 8) := ⟨⟨by decide +kernel, by decide +kernel⟩, lw_t1 (List.mem_of_getElem? (i := 15) rfl), lw_t1 (List.mem_of_getElem? (i := 82) rfl), lw_t1 (List.mem_of_getElem? (i := 83) rfl)⟩
theorem lw_p1 : lw_okq (⟨"java/lang/Throwable", "fillInStackTrace", "(I)Ljava/lang/Throwable;"⟩, 6) := ⟨⟨by decide +kernel, by decide +kernel⟩, lw_t1 (List.mem_of_getElem? (i := 178) rfl), lw_t1 (List.mem_of_getElem? (i := 176) rfl), lw_t1 (List.mem_of_getElem? (i := 177) rfl)⟩
theorem lw_p2 : lw_okq (⟨"VmpcDesk", "count", "(II)I"⟩, 8) := ⟨⟨by decide +kernel, by decide +kernel⟩, lw_t1 (List.mem_of_getElem? (i := 15) rfl), lw_t1 (List.mem_of_getElem? (i := 230) rfl), lw_t1 (List.mem_of_getElem? (i := 231) rfl)⟩
theorem lw_p3 : lw_okq (⟨"VmpcDeskModel", "from", "(I)I"⟩, 12) := ⟨⟨by decide +kernel, by decide +kernel⟩, lw_t2 (List.mem_of_getElem? (i := 55) rfl), lw_t2 (List.mem_of_getElem? (i := 110) rfl), lw_t2 (List.mem_of_getElem? (i := 111) rfl)⟩
theorem lw_p4 : lw_okq (⟨"VmpcDeskModel", "sets", "()V"⟩, 12) := ⟨⟨by decide +kernel, by decide +kernel⟩, lw_t2 (List.mem_of_getElem? (i := 55) rfl), lw_t2 (List.mem_of_getElem? (i := 130) rfl), lw_t2 (List.mem_of_getElem? (i := 131) rfl)⟩
theorem lw_p5 : lw_okq (⟨"VmpcDeskModel", "stirs", "([B)V"⟩, 12) := ⟨⟨by decide +kernel, by decide +kernel⟩, lw_t2 (List.mem_of_getElem? (i := 55) rfl), lw_t2 (List.mem_of_getElem? (i := 134) rfl), lw_t2 (List.mem_of_getElem? (i := 135) rfl)⟩
theorem lw_p6 : lw_okq (⟨"VmpcDeskModel", "changes", "(II)V"⟩, 12) := ⟨⟨by decide +kernel, by decide +kernel⟩, lw_t2 (List.mem_of_getElem? (i := 55) rfl), lw_t2 (List.mem_of_getElem? (i := 138) rfl), lw_t2 (List.mem_of_getElem? (i := 139) rfl)⟩
theorem lw_p7 : lw_okq (⟨"VmpcDeskModel", "next", "()I"⟩, 12) := ⟨⟨by decide +kernel, by decide +kernel⟩, lw_t2 (List.mem_of_getElem? (i := 55) rfl), lw_t2 (List.mem_of_getElem? (i := 146) rfl), lw_t2 (List.mem_of_getElem? (i := 147) rfl)⟩
def lw_privs_1 : List (MethodName × Nat) := [(⟨"VmpcDesk", "from", "(I)I"⟩, 8), (⟨"java/lang/Throwable", "fillInStackTrace", "(I)Ljava/lang/Throwable;"⟩, 6), (⟨"VmpcDesk", "count", "(II)I"⟩, 8), (⟨"VmpcDeskModel", "from", "(I)I"⟩, 12), (⟨"VmpcDeskModel", "sets", "()V"⟩, 12), (⟨"VmpcDeskModel", "stirs", "([B)V"⟩, 12), (⟨"VmpcDeskModel", "changes", "(II)V"⟩, 12), (⟨"VmpcDeskModel", "next", "()I"⟩, 12)]
theorem lw_r1 : ∀ q ∈ lw_privs_1, lw_okq q := List.forall_mem_cons.mpr ⟨lw_p0, List.forall_mem_cons.mpr ⟨lw_p1, List.forall_mem_cons.mpr ⟨lw_p2, List.forall_mem_cons.mpr ⟨lw_p3, List.forall_mem_cons.mpr ⟨lw_p4, List.forall_mem_cons.mpr ⟨lw_p5, List.forall_mem_cons.mpr ⟨lw_p6, List.forall_mem_cons.mpr ⟨lw_p7, fun _ h => absurd h List.not_mem_nil⟩⟩⟩⟩⟩⟩⟩⟩
def lw_privs : List (MethodName × Nat) := lw_privs_1
def lw_tbl : List Cond := k2_sels lw_privs ++ tables_1
theorem lw_privs_ok : ∀ q ∈ lw_privs, lw_okq q := lw_r1
-- ===== ONE list of words for every method: the tables' words that hold all through a run =====
def lw_all : List Cond := lw_tbl.filter goodWord
/-- a word of the tables by its place: claim/WORDS.tsv -/
theorem lw_w {w : Cond} (i : Nat) (h : lw_tbl[i]? = some w) (g : goodWord w = true) : w ∈ lw_all := List.mem_filter.mpr ⟨List.mem_of_getElem? h, g⟩
theorem lw_all_tbl {w : Cond} (h : w ∈ lw_all) : w ∈ lw_tbl := (List.mem_filter.mp h).1
theorem lw_self : GoodIn lw_all lw_all := fun w h => ⟨h, good_of_word (List.mem_filter.mp h).2⟩
/-- a class's field words, by their places -/
theorem lw_in (ws : List Cond) (ps : List Nat) (hp : ws = ps.filterMap (fun i => lw_tbl[i]?)) (hg : ws.all goodWord = true) : ∀ w ∈ ws, w ∈ lw_all := by
  intro w h
  have h1 := List.all_eq_true.mp hg w h
  rw [hp] at h
  obtain ⟨i, -, hi⟩ := List.mem_filterMap.mp h
  exact lw_w i hi h1
/-- the words of a contract for the method y with code b, L locals, answer r -/
abbrev ws_ (y : MethodName) (b : ByteArray) (L : Nat) (r : Option FieldType) : List Cond := Cond.code y b L r :: lw_all
theorem lw_meth {y : MethodName} {b : ByteArray} {L : Nat} {r : Option FieldType} (h : Cond.code y b L r ∈ lw_all) : GoodIn lw_all (ws_ y b L r) := by
  intro w hw
  rcases List.mem_cons.mp hw with e | e
  · rw [e]
    exact lw_self _ h
  · exact lw_self _ e
theorem lw_app {a c : List Cond} (ha : ∀ w ∈ a, w ∈ lw_all) (hc : GoodIn lw_all c) : GoodIn lw_all (a ++ c) := by
  intro w hw
  rcases List.mem_append.mp hw with e | e
  · exact lw_self w (ha w e)
  · exact hc w e
/-- what a call through an object asks: cwV n hts (lw_V ..) -/
theorem lw_V {own : String} {idx : Nat} {C : String} {y : MethodName} {b : ByteArray} {L : Nat} {r : Option FieldType} (h1 : Cond.methodLink own idx y ∈ lw_all) (h2 : Cond.instanceMethod y ∈ lw_all) (h3 : Cond.selects C y y ∈ lw_all) (h4 : Cond.initialized C ∈ lw_all) (h5 : Cond.code y b L r ∈ lw_all) : GoodIn lw_all (wsV own idx C y (ws_ y b L r)) := by
  refine lw_app ?_ (lw_meth h5)
  intro w hw
  simp only [List.mem_cons, List.not_mem_nil, or_false] at hw
  rcases hw with e | e | e | e
  · rw [e]; exact h1
  · rw [e]; exact h2
  · rw [e]; exact h3
  · rw [e]; exact h4
/-- what a static call asks: va_cwS n hts (lw_S ..) -/
theorem lw_S {own : String} {idx : Nat} {y : MethodName} {b : ByteArray} {L : Nat} {r : Option FieldType} (h1 : Cond.methodLink own idx y ∈ lw_all) (h2 : Cond.static y ∈ lw_all) (h3 : Cond.initialized y.cls ∈ lw_all) (h4 : Cond.code y b L r ∈ lw_all) : GoodIn lw_all (va_wsS own idx y (ws_ y b L r)) := by
  refine lw_app ?_ (lw_meth h4)
  intro w hw
  simp only [List.mem_cons, List.not_mem_nil, or_false] at hw
  rcases hw with e | e | e
  · rw [e]; exact h1
  · rw [e]; exact h2
  · rw [e]; exact h3
/-- the words of a contract for a method WITH HANDLERS (hh: its table) -/
abbrev wsW_ (y : MethodName) (b : ByteArray) (L : Nat) (r : Option FieldType) (hh : List (Nat × Nat × Nat × Nat)) : List Cond := Cond.codeWith y b L r hh :: lw_all
theorem lw_methW {y : MethodName} {b : ByteArray} {L : Nat} {r : Option FieldType} {hh : List (Nat × Nat × Nat × Nat)} (h : Cond.codeWith y b L r hh ∈ lw_all) : GoodIn lw_all (wsW_ y b L r hh) := by
  intro w hw
  rcases List.mem_cons.mp hw with e | e
  · rw [e]
    exact lw_self _ h
  · exact lw_self _ e
/-- any list of words by their places (lw_in), good -/
theorem lw_good {ws : List Cond} (h : ∀ w ∈ ws, w ∈ lw_all) : GoodIn lw_all ws := fun w hw => lw_self w (h w hw)
/-- what a call of a method with handlers asks: vx_cwVW n hts (lw_VW ..), vx_cwSW n hts (lw_SW ..) -/
theorem lw_VW {own : String} {idx : Nat} {C : String} {y : MethodName} {b : ByteArray} {L : Nat} {r : Option FieldType} {hh : List (Nat × Nat × Nat × Nat)} (h1 : Cond.methodLink own idx y ∈ lw_all) (h2 : Cond.instanceMethod y ∈ lw_all) (h3 : Cond.selects C y y ∈ lw_all) (h4 : Cond.initialized C ∈ lw_all) (h5 : Cond.codeWith y b L r hh ∈ lw_all) : GoodIn lw_all (wsV own idx C y (wsW_ y b L r hh)) := by
  refine lw_app ?_ (lw_methW h5)
  intro w hw
  simp only [List.mem_cons, List.not_mem_nil, or_false] at hw
  rcases hw with e | e | e | e
  · rw [e]; exact h1
  · rw [e]; exact h2
  · rw [e]; exact h3
  · rw [e]; exact h4
theorem lw_SW {own : String} {idx : Nat} {y : MethodName} {b : ByteArray} {L : Nat} {r : Option FieldType} {hh : List (Nat × Nat × Nat × Nat)} (h1 : Cond.methodLink own idx y ∈ lw_all) (h2 : Cond.static y ∈ lw_all) (h3 : Cond.initialized y.cls ∈ lw_all) (h4 : Cond.codeWith y b L r hh ∈ lw_all) : GoodIn lw_all (va_wsS own idx y (wsW_ y b L r hh)) := by
  refine lw_app ?_ (lw_methW h4)
  intro w hw
  simp only [List.mem_cons, List.not_mem_nil, or_false] at hw
  rcases hw with e | e | e
  · rw [e]; exact h1
  · rw [e]; exact h2
  · rw [e]; exact h3
/-- a word by its place in its run of the tables -/
theorem lw_at {r : List Cond} (hr : ∀ w ∈ r, w ∈ lw_tbl) {w : Cond} (i : Nat) (h : r[i]? = some w) : w ∈ lw_tbl := hr w (List.mem_of_getElem? h)
theorem lw_g {w : Cond} (h : w ∈ lw_tbl) (g : goodWord w = true) : w ∈ lw_all := List.mem_filter.mpr ⟨h, g⟩
theorem lw_ms : ∀ w ∈ k2_sels lw_privs, w ∈ lw_tbl := fun w h => show w ∈ k2_sels lw_privs ++ tables_1 from List.mem_append_left _ h
theorem lw_m1 : ∀ w ∈ tables_1_1, w ∈ lw_tbl := fun w h => show w ∈ k2_sels lw_privs ++ tables_1 from List.mem_append_right (k2_sels lw_privs) (show w ∈ tables_1 from List.mem_append_left _ h)
theorem lw_m2 : ∀ w ∈ tables_1_2, w ∈ lw_tbl := fun w h => show w ∈ k2_sels lw_privs ++ tables_1 from List.mem_append_right (k2_sels lw_privs) (show w ∈ tables_1 from List.mem_append_right _ h)
theorem qs0 : (Cond.selects "VmpcDesk" ⟨"VmpcDesk", "from", "(I)I"⟩ ⟨"VmpcDesk", "from", "(I)I"⟩) ∈ lw_all := lw_g (lw_at lw_ms 0 rfl) rfl
theorem qs1 : (Cond.selects "java/lang/Throwable" ⟨"java/lang/Throwable", "fillInStackTrace", "(I)Ljava/lang/Throwable;"⟩ ⟨"java/lang/Throwable", "fillInStackTrace", "(I)Ljava/lang/Throwable;"⟩) ∈ lw_all := lw_g (lw_at lw_ms 1 rfl) rfl
theorem qs2 : (Cond.selects "VmpcDesk" ⟨"VmpcDesk", "count", "(II)I"⟩ ⟨"VmpcDesk", "count", "(II)I"⟩) ∈ lw_all := lw_g (lw_at lw_ms 2 rfl) rfl
theorem qs3 : (Cond.selects "VmpcDeskModel" ⟨"VmpcDeskModel", "from", "(I)I"⟩ ⟨"VmpcDeskModel", "from", "(I)I"⟩) ∈ lw_all := lw_g (lw_at lw_ms 3 rfl) rfl
theorem qs4 : (Cond.selects "VmpcDeskModel" ⟨"VmpcDeskModel", "sets", "()V"⟩ ⟨"VmpcDeskModel", "sets", "()V"⟩) ∈ lw_all := lw_g (lw_at lw_ms 4 rfl) rfl
theorem qs5 : (Cond.selects "VmpcDeskModel" ⟨"VmpcDeskModel", "stirs", "([B)V"⟩ ⟨"VmpcDeskModel", "stirs", "([B)V"⟩) ∈ lw_all := lw_g (lw_at lw_ms 5 rfl) rfl
theorem qs6 : (Cond.selects "VmpcDeskModel" ⟨"VmpcDeskModel", "changes", "(II)V"⟩ ⟨"VmpcDeskModel", "changes", "(II)V"⟩) ∈ lw_all := lw_g (lw_at lw_ms 6 rfl) rfl
theorem qs7 : (Cond.selects "VmpcDeskModel" ⟨"VmpcDeskModel", "next", "()I"⟩ ⟨"VmpcDeskModel", "next", "()I"⟩) ∈ lw_all := lw_g (lw_at lw_ms 7 rfl) rfl
/-! DECODE ROWS BY BYTES: one lemma an opcode; a method's code is cut into short pieces once, and a row reads its own piece alone. -/
set_option maxRecDepth 100000
/-- the code has just these bytes from pc on -/
def DkAt (code : ByteArray) (pc : Nat) (bs : List UInt8) : Prop := ∀ (j : Nat) (b : UInt8), bs[j]? = some b → code.data.toList[pc + j]? = some b
/-- the piece W has the bytes bs from its place j on -/
def dkIn (W : List UInt8) (j : Nat) (bs : List UInt8) : Bool := decide ((W.drop j).take bs.length = bs)
theorem dk_seg {l W T : List UInt8} {o o2 : Nat} (h : l.drop o = W ++ T) (n : Nat) (hn : W.length = n) (ho : o + n = o2) : l.drop o2 = T := by
  subst ho
  rw [← List.drop_drop, h, List.drop_left' hn]
theorem dk_at {code : ByteArray} {W T bs : List UInt8} {o pc : Nat} (h : code.data.toList.drop o = W ++ T) (j : Nat) (hp : o + j = pc) (hw : dkIn W j bs = true) : DkAt code pc bs := by
  subst hp
  intro i b e
  have h1 := of_decide_eq_true hw
  have h2 : i < bs.length := (List.getElem?_eq_some_iff.mp e).1
  have h3 : W[j + i]? = some b := by
    rw [← h1, List.getElem?_take, if_pos h2, List.getElem?_drop] at e
    exact e
  have h4 : j + i < W.length := (List.getElem?_eq_some_iff.mp h3).1
  have h5 : (code.data.toList.drop o)[j + i]? = some b := by
    rw [h, List.getElem?_append_left h4]
    exact h3
  rw [List.getElem?_drop, ← Nat.add_assoc] at h5
  exact h5
theorem dk_u1 {A : ByteArray} {p : Nat} {b : UInt8} (h : A.data.toList[p]? = some b) : (Reader.u1 : Reader DecodeError Nat) A p = .ok (b.toNat, p + 1) := by
  obtain ⟨h1, h2⟩ := List.getElem?_eq_some_iff.mp h
  have h3 : p < A.size := by simpa using h1
  have h4 : A[p]'h3 = b := h2
  have e : (Reader.u1 : Reader DecodeError Nat) A p = (if h : p < A.size then .ok (A[p].toNat, p + 1) else .error (HasTruncated.truncated p)) := by
    show (do if h : p < A.size then do set (p + 1); Pure.pure A[p].toNat else MonadExcept.throw (HasTruncated.truncated p) : Reader DecodeError Nat) A p = _
    by_cases hi : p < A.size
    · rw [dif_pos hi, dif_pos hi]; rfl
    · rw [dif_neg hi, dif_neg hi]; rfl
  rw [e, dif_pos h3, h4]
theorem dk_bind {α β : Type} {r : Reader DecodeError α} {f : α → Reader DecodeError β} {A : ByteArray} {p s : Nat} {a : α} (h : r A p = .ok (a, s)) : (r >>= f) A p = f a A s := by
  show (do let (a, s) ← r A p; f a A s : Except DecodeError (β × Nat)) = _
  rw [h]
  rfl
theorem dk_map {α β : Type} {r : Reader DecodeError α} {g : α → β} {A : ByteArray} {p s : Nat} {a : α} (h : r A p = .ok (a, s)) : (g <$> r) A p = .ok (g a, s) := by
  show (do let (a, s) ← r A p; .ok (g a, s) : Except DecodeError (β × Nat)) = _
  rw [h]
  rfl
theorem dk_u2 {A : ByteArray} {p : Nat} {a b : UInt8} (h : A.data.toList[p]? = some a) (h2 : A.data.toList[p + 1]? = some b) : (Reader.u2 : Reader DecodeError Nat) A p = .ok (a.toNat * 256 + b.toNat, p + 2) := by
  show (Reader.u1 >>= fun hi => Reader.u1 >>= fun lo => Pure.pure (hi * 256 + lo) : Reader DecodeError Nat) A p = _
  rw [dk_bind (dk_u1 h), dk_bind (dk_u1 h2)]
  rfl
theorem dk_of {code : ByteArray} {pc n : Nat} {i : Instr} (h : Decoder.instr pc code pc = .ok (i, pc + n)) : decode code pc = .ok (i, n) := by
  have e : decode code pc = (match Decoder.instr pc code pc with | .error x => .error x | .ok (j, s) => .ok (j, s - pc)) := by
    show (do let (j, s) ← Decoder.instr pc code pc; Pure.pure (j, s - pc) : Except DecodeError (Instr × Nat)) = _
    cases Decoder.instr pc code pc <;> rfl
  rw [e, h]
  show Except.ok (i, pc + n - pc) = _
  rw [Nat.add_sub_cancel_left]
theorem dk_1 {code : ByteArray} {pc : Nat} (h : DkAt code pc [1]) : decode code pc = .ok (.aconst_null, 1) := dk_of ((dk_bind (dk_u1 (h 0 _ rfl))).trans rfl)
theorem dk_2 {code : ByteArray} {pc : Nat} (h : DkAt code pc [2]) : decode code pc = .ok (.iconst (-1), 1) := dk_of ((dk_bind (dk_u1 (h 0 _ rfl))).trans rfl)
theorem dk_3 {code : ByteArray} {pc : Nat} (h : DkAt code pc [3]) : decode code pc = .ok (.iconst 0, 1) := dk_of ((dk_bind (dk_u1 (h 0 _ rfl))).trans rfl)
theorem dk_4 {code : ByteArray} {pc : Nat} (h : DkAt code pc [4]) : decode code pc = .ok (.iconst 1, 1) := dk_of ((dk_bind (dk_u1 (h 0 _ rfl))).trans rfl)
theorem dk_5 {code : ByteArray} {pc : Nat} (h : DkAt code pc [5]) : decode code pc = .ok (.iconst 2, 1) := dk_of ((dk_bind (dk_u1 (h 0 _ rfl))).trans rfl)
theorem dk_6 {code : ByteArray} {pc : Nat} (h : DkAt code pc [6]) : decode code pc = .ok (.iconst 3, 1) := dk_of ((dk_bind (dk_u1 (h 0 _ rfl))).trans rfl)
theorem dk_7 {code : ByteArray} {pc : Nat} (h : DkAt code pc [7]) : decode code pc = .ok (.iconst 4, 1) := dk_of ((dk_bind (dk_u1 (h 0 _ rfl))).trans rfl)
theorem dk_8 {code : ByteArray} {pc : Nat} (h : DkAt code pc [8]) : decode code pc = .ok (.iconst 5, 1) := dk_of ((dk_bind (dk_u1 (h 0 _ rfl))).trans rfl)
theorem dk_16 {code : ByteArray} {pc : Nat} (a : UInt8) (h : DkAt code pc [16, a]) : decode code pc = .ok (.bipush (Reader.signed 8 a.toNat), 2) := dk_of ((dk_bind (dk_u1 (h 0 _ rfl))).trans ((dk_bind (dk_map (dk_u1 (h 1 _ rfl)))).trans rfl))
theorem dk_17 {code : ByteArray} {pc : Nat} (a b : UInt8) (h : DkAt code pc [17, a, b]) : decode code pc = .ok (.sipush (Reader.signed 16 (a.toNat * 256 + b.toNat)), 3) := dk_of ((dk_bind (dk_u1 (h 0 _ rfl))).trans ((dk_bind (dk_map (dk_u2 (h 1 _ rfl) (h 2 _ rfl)))).trans rfl))
theorem dk_18 {code : ByteArray} {pc : Nat} (a : UInt8) (h : DkAt code pc [18, a]) : decode code pc = .ok (.ldc a.toNat, 2) := dk_of ((dk_bind (dk_u1 (h 0 _ rfl))).trans ((dk_bind (dk_u1 (h 1 _ rfl))).trans rfl))
theorem dk_21 {code : ByteArray} {pc : Nat} (a : UInt8) (h : DkAt code pc [21, a]) : decode code pc = .ok (.iload a.toNat, 2) := dk_of ((dk_bind (dk_u1 (h 0 _ rfl))).trans ((dk_bind (dk_u1 (h 1 _ rfl))).trans rfl))
theorem dk_25 {code : ByteArray} {pc : Nat} (a : UInt8) (h : DkAt code pc [25, a]) : decode code pc = .ok (.aload a.toNat, 2) := dk_of ((dk_bind (dk_u1 (h 0 _ rfl))).trans ((dk_bind (dk_u1 (h 1 _ rfl))).trans rfl))
theorem dk_27 {code : ByteArray} {pc : Nat} (h : DkAt code pc [27]) : decode code pc = .ok (.iload_n 1, 1) := dk_of ((dk_bind (dk_u1 (h 0 _ rfl))).trans rfl)
theorem dk_28 {code : ByteArray} {pc : Nat} (h : DkAt code pc [28]) : decode code pc = .ok (.iload_n 2, 1) := dk_of ((dk_bind (dk_u1 (h 0 _ rfl))).trans rfl)
theorem dk_29 {code : ByteArray} {pc : Nat} (h : DkAt code pc [29]) : decode code pc = .ok (.iload_n 3, 1) := dk_of ((dk_bind (dk_u1 (h 0 _ rfl))).trans rfl)
theorem dk_42 {code : ByteArray} {pc : Nat} (h : DkAt code pc [42]) : decode code pc = .ok (.aload_n 0, 1) := dk_of ((dk_bind (dk_u1 (h 0 _ rfl))).trans rfl)
theorem dk_43 {code : ByteArray} {pc : Nat} (h : DkAt code pc [43]) : decode code pc = .ok (.aload_n 1, 1) := dk_of ((dk_bind (dk_u1 (h 0 _ rfl))).trans rfl)
theorem dk_44 {code : ByteArray} {pc : Nat} (h : DkAt code pc [44]) : decode code pc = .ok (.aload_n 2, 1) := dk_of ((dk_bind (dk_u1 (h 0 _ rfl))).trans rfl)
theorem dk_45 {code : ByteArray} {pc : Nat} (h : DkAt code pc [45]) : decode code pc = .ok (.aload_n 3, 1) := dk_of ((dk_bind (dk_u1 (h 0 _ rfl))).trans rfl)
theorem dk_46 {code : ByteArray} {pc : Nat} (h : DkAt code pc [46]) : decode code pc = .ok (.iaload, 1) := dk_of ((dk_bind (dk_u1 (h 0 _ rfl))).trans rfl)
theorem dk_51 {code : ByteArray} {pc : Nat} (h : DkAt code pc [51]) : decode code pc = .ok (.baload, 1) := dk_of ((dk_bind (dk_u1 (h 0 _ rfl))).trans rfl)
theorem dk_54 {code : ByteArray} {pc : Nat} (a : UInt8) (h : DkAt code pc [54, a]) : decode code pc = .ok (.istore a.toNat, 2) := dk_of ((dk_bind (dk_u1 (h 0 _ rfl))).trans ((dk_bind (dk_u1 (h 1 _ rfl))).trans rfl))
theorem dk_58 {code : ByteArray} {pc : Nat} (a : UInt8) (h : DkAt code pc [58, a]) : decode code pc = .ok (.astore a.toNat, 2) := dk_of ((dk_bind (dk_u1 (h 0 _ rfl))).trans ((dk_bind (dk_u1 (h 1 _ rfl))).trans rfl))
theorem dk_60 {code : ByteArray} {pc : Nat} (h : DkAt code pc [60]) : decode code pc = .ok (.istore_n 1, 1) := dk_of ((dk_bind (dk_u1 (h 0 _ rfl))).trans rfl)
theorem dk_61 {code : ByteArray} {pc : Nat} (h : DkAt code pc [61]) : decode code pc = .ok (.istore_n 2, 1) := dk_of ((dk_bind (dk_u1 (h 0 _ rfl))).trans rfl)
theorem dk_62 {code : ByteArray} {pc : Nat} (h : DkAt code pc [62]) : decode code pc = .ok (.istore_n 3, 1) := dk_of ((dk_bind (dk_u1 (h 0 _ rfl))).trans rfl)
theorem dk_76 {code : ByteArray} {pc : Nat} (h : DkAt code pc [76]) : decode code pc = .ok (.astore_n 1, 1) := dk_of ((dk_bind (dk_u1 (h 0 _ rfl))).trans rfl)
theorem dk_77 {code : ByteArray} {pc : Nat} (h : DkAt code pc [77]) : decode code pc = .ok (.astore_n 2, 1) := dk_of ((dk_bind (dk_u1 (h 0 _ rfl))).trans rfl)
theorem dk_78 {code : ByteArray} {pc : Nat} (h : DkAt code pc [78]) : decode code pc = .ok (.astore_n 3, 1) := dk_of ((dk_bind (dk_u1 (h 0 _ rfl))).trans rfl)
theorem dk_79 {code : ByteArray} {pc : Nat} (h : DkAt code pc [79]) : decode code pc = .ok (.iastore, 1) := dk_of ((dk_bind (dk_u1 (h 0 _ rfl))).trans rfl)
theorem dk_84 {code : ByteArray} {pc : Nat} (h : DkAt code pc [84]) : decode code pc = .ok (.bastore, 1) := dk_of ((dk_bind (dk_u1 (h 0 _ rfl))).trans rfl)
theorem dk_87 {code : ByteArray} {pc : Nat} (h : DkAt code pc [87]) : decode code pc = .ok (.pop, 1) := dk_of ((dk_bind (dk_u1 (h 0 _ rfl))).trans rfl)
theorem dk_89 {code : ByteArray} {pc : Nat} (h : DkAt code pc [89]) : decode code pc = .ok (.dup, 1) := dk_of ((dk_bind (dk_u1 (h 0 _ rfl))).trans rfl)
theorem dk_96 {code : ByteArray} {pc : Nat} (h : DkAt code pc [96]) : decode code pc = .ok (.iadd, 1) := dk_of ((dk_bind (dk_u1 (h 0 _ rfl))).trans rfl)
theorem dk_100 {code : ByteArray} {pc : Nat} (h : DkAt code pc [100]) : decode code pc = .ok (.isub, 1) := dk_of ((dk_bind (dk_u1 (h 0 _ rfl))).trans rfl)
theorem dk_104 {code : ByteArray} {pc : Nat} (h : DkAt code pc [104]) : decode code pc = .ok (.imul, 1) := dk_of ((dk_bind (dk_u1 (h 0 _ rfl))).trans rfl)
theorem dk_112 {code : ByteArray} {pc : Nat} (h : DkAt code pc [112]) : decode code pc = .ok (.irem, 1) := dk_of ((dk_bind (dk_u1 (h 0 _ rfl))).trans rfl)
theorem dk_120 {code : ByteArray} {pc : Nat} (h : DkAt code pc [120]) : decode code pc = .ok (.ishl, 1) := dk_of ((dk_bind (dk_u1 (h 0 _ rfl))).trans rfl)
theorem dk_122 {code : ByteArray} {pc : Nat} (h : DkAt code pc [122]) : decode code pc = .ok (.ishr, 1) := dk_of ((dk_bind (dk_u1 (h 0 _ rfl))).trans rfl)
theorem dk_126 {code : ByteArray} {pc : Nat} (h : DkAt code pc [126]) : decode code pc = .ok (.iand, 1) := dk_of ((dk_bind (dk_u1 (h 0 _ rfl))).trans rfl)
theorem dk_130 {code : ByteArray} {pc : Nat} (h : DkAt code pc [130]) : decode code pc = .ok (.ixor, 1) := dk_of ((dk_bind (dk_u1 (h 0 _ rfl))).trans rfl)
theorem dk_132 {code : ByteArray} {pc : Nat} (a b : UInt8) (h : DkAt code pc [132, a, b]) : decode code pc = .ok (.iinc a.toNat (Reader.signed 8 b.toNat), 3) := dk_of ((dk_bind (dk_u1 (h 0 _ rfl))).trans ((dk_bind (dk_u1 (h 1 _ rfl))).trans ((dk_bind (dk_map (dk_u1 (h 2 _ rfl)))).trans rfl)))
theorem dk_145 {code : ByteArray} {pc : Nat} (h : DkAt code pc [145]) : decode code pc = .ok (.i2b, 1) := dk_of ((dk_bind (dk_u1 (h 0 _ rfl))).trans rfl)
theorem dk_153 {code : ByteArray} {pc : Nat} (a b : UInt8) (h : DkAt code pc [153, a, b]) : decode code pc = .ok (.ifCond .eq (Reader.signed 16 (a.toNat * 256 + b.toNat)), 3) := dk_of ((dk_bind (dk_u1 (h 0 _ rfl))).trans ((dk_bind (dk_map (dk_u2 (h 1 _ rfl) (h 2 _ rfl)))).trans rfl))
theorem dk_154 {code : ByteArray} {pc : Nat} (a b : UInt8) (h : DkAt code pc [154, a, b]) : decode code pc = .ok (.ifCond .ne (Reader.signed 16 (a.toNat * 256 + b.toNat)), 3) := dk_of ((dk_bind (dk_u1 (h 0 _ rfl))).trans ((dk_bind (dk_map (dk_u2 (h 1 _ rfl) (h 2 _ rfl)))).trans rfl))
theorem dk_159 {code : ByteArray} {pc : Nat} (a b : UInt8) (h : DkAt code pc [159, a, b]) : decode code pc = .ok (.if_icmp .eq (Reader.signed 16 (a.toNat * 256 + b.toNat)), 3) := dk_of ((dk_bind (dk_u1 (h 0 _ rfl))).trans ((dk_bind (dk_map (dk_u2 (h 1 _ rfl) (h 2 _ rfl)))).trans rfl))
theorem dk_161 {code : ByteArray} {pc : Nat} (a b : UInt8) (h : DkAt code pc [161, a, b]) : decode code pc = .ok (.if_icmp .lt (Reader.signed 16 (a.toNat * 256 + b.toNat)), 3) := dk_of ((dk_bind (dk_u1 (h 0 _ rfl))).trans ((dk_bind (dk_map (dk_u2 (h 1 _ rfl) (h 2 _ rfl)))).trans rfl))
theorem dk_162 {code : ByteArray} {pc : Nat} (a b : UInt8) (h : DkAt code pc [162, a, b]) : decode code pc = .ok (.if_icmp .ge (Reader.signed 16 (a.toNat * 256 + b.toNat)), 3) := dk_of ((dk_bind (dk_u1 (h 0 _ rfl))).trans ((dk_bind (dk_map (dk_u2 (h 1 _ rfl) (h 2 _ rfl)))).trans rfl))
theorem dk_163 {code : ByteArray} {pc : Nat} (a b : UInt8) (h : DkAt code pc [163, a, b]) : decode code pc = .ok (.if_icmp .gt (Reader.signed 16 (a.toNat * 256 + b.toNat)), 3) := dk_of ((dk_bind (dk_u1 (h 0 _ rfl))).trans ((dk_bind (dk_map (dk_u2 (h 1 _ rfl) (h 2 _ rfl)))).trans rfl))
theorem dk_164 {code : ByteArray} {pc : Nat} (a b : UInt8) (h : DkAt code pc [164, a, b]) : decode code pc = .ok (.if_icmp .le (Reader.signed 16 (a.toNat * 256 + b.toNat)), 3) := dk_of ((dk_bind (dk_u1 (h 0 _ rfl))).trans ((dk_bind (dk_map (dk_u2 (h 1 _ rfl) (h 2 _ rfl)))).trans rfl))
theorem dk_167 {code : ByteArray} {pc : Nat} (a b : UInt8) (h : DkAt code pc [167, a, b]) : decode code pc = .ok (.goto (Reader.signed 16 (a.toNat * 256 + b.toNat)), 3) := dk_of ((dk_bind (dk_u1 (h 0 _ rfl))).trans ((dk_bind (dk_map (dk_u2 (h 1 _ rfl) (h 2 _ rfl)))).trans rfl))
theorem dk_172 {code : ByteArray} {pc : Nat} (h : DkAt code pc [172]) : decode code pc = .ok (.ireturn, 1) := dk_of ((dk_bind (dk_u1 (h 0 _ rfl))).trans rfl)
theorem dk_177 {code : ByteArray} {pc : Nat} (h : DkAt code pc [177]) : decode code pc = .ok (.return_, 1) := dk_of ((dk_bind (dk_u1 (h 0 _ rfl))).trans rfl)
theorem dk_178 {code : ByteArray} {pc : Nat} (a b : UInt8) (h : DkAt code pc [178, a, b]) : decode code pc = .ok (.getstatic (a.toNat * 256 + b.toNat), 3) := dk_of ((dk_bind (dk_u1 (h 0 _ rfl))).trans ((dk_bind (dk_u2 (h 1 _ rfl) (h 2 _ rfl))).trans rfl))
theorem dk_180 {code : ByteArray} {pc : Nat} (a b : UInt8) (h : DkAt code pc [180, a, b]) : decode code pc = .ok (.getfield (a.toNat * 256 + b.toNat), 3) := dk_of ((dk_bind (dk_u1 (h 0 _ rfl))).trans ((dk_bind (dk_u2 (h 1 _ rfl) (h 2 _ rfl))).trans rfl))
theorem dk_181 {code : ByteArray} {pc : Nat} (a b : UInt8) (h : DkAt code pc [181, a, b]) : decode code pc = .ok (.putfield (a.toNat * 256 + b.toNat), 3) := dk_of ((dk_bind (dk_u1 (h 0 _ rfl))).trans ((dk_bind (dk_u2 (h 1 _ rfl) (h 2 _ rfl))).trans rfl))
theorem dk_182 {code : ByteArray} {pc : Nat} (a b : UInt8) (h : DkAt code pc [182, a, b]) : decode code pc = .ok (.invokevirtual (a.toNat * 256 + b.toNat), 3) := dk_of ((dk_bind (dk_u1 (h 0 _ rfl))).trans ((dk_bind (dk_u2 (h 1 _ rfl) (h 2 _ rfl))).trans rfl))
theorem dk_183 {code : ByteArray} {pc : Nat} (a b : UInt8) (h : DkAt code pc [183, a, b]) : decode code pc = .ok (.invokespecial (a.toNat * 256 + b.toNat), 3) := dk_of ((dk_bind (dk_u1 (h 0 _ rfl))).trans ((dk_bind (dk_u2 (h 1 _ rfl) (h 2 _ rfl))).trans rfl))
theorem dk_184 {code : ByteArray} {pc : Nat} (a b : UInt8) (h : DkAt code pc [184, a, b]) : decode code pc = .ok (.invokestatic (a.toNat * 256 + b.toNat), 3) := dk_of ((dk_bind (dk_u1 (h 0 _ rfl))).trans ((dk_bind (dk_u2 (h 1 _ rfl) (h 2 _ rfl))).trans rfl))
theorem dk_187 {code : ByteArray} {pc : Nat} (a b : UInt8) (h : DkAt code pc [187, a, b]) : decode code pc = .ok (.new (a.toNat * 256 + b.toNat), 3) := dk_of ((dk_bind (dk_u1 (h 0 _ rfl))).trans ((dk_bind (dk_u2 (h 1 _ rfl) (h 2 _ rfl))).trans rfl))
theorem dk_188_8 {code : ByteArray} {pc : Nat} (h : DkAt code pc [188, 8]) : decode code pc = .ok (.newarray .byte, 2) := dk_of ((dk_bind (dk_u1 (h 0 _ rfl))).trans ((dk_bind (dk_u1 (h 1 _ rfl))).trans rfl))
theorem dk_188_10 {code : ByteArray} {pc : Nat} (h : DkAt code pc [188, 10]) : decode code pc = .ok (.newarray .int, 2) := dk_of ((dk_bind (dk_u1 (h 0 _ rfl))).trans ((dk_bind (dk_u1 (h 1 _ rfl))).trans rfl))
theorem dk_190 {code : ByteArray} {pc : Nat} (h : DkAt code pc [190]) : decode code pc = .ok (.arraylength, 1) := dk_of ((dk_bind (dk_u1 (h 0 _ rfl))).trans rfl)
theorem dk_191 {code : ByteArray} {pc : Nat} (h : DkAt code pc [191]) : decode code pc = .ok (.athrow, 1) := dk_of ((dk_bind (dk_u1 (h 0 _ rfl))).trans rfl)
theorem dk_192 {code : ByteArray} {pc : Nat} (a b : UInt8) (h : DkAt code pc [192, a, b]) : decode code pc = .ok (.checkcast (a.toNat * 256 + b.toNat), 3) := dk_of ((dk_bind (dk_u1 (h 0 _ rfl))).trans ((dk_bind (dk_u2 (h 1 _ rfl) (h 2 _ rfl))).trans rfl))
theorem dk_193 {code : ByteArray} {pc : Nat} (a b : UInt8) (h : DkAt code pc [193, a, b]) : decode code pc = .ok (.instanceof (a.toNat * 256 + b.toNat), 3) := dk_of ((dk_bind (dk_u1 (h 0 _ rfl))).trans ((dk_bind (dk_u2 (h 1 _ rfl) (h 2 _ rfl))).trans rfl))
theorem dk_198 {code : ByteArray} {pc : Nat} (a b : UInt8) (h : DkAt code pc [198, a, b]) : decode code pc = .ok (.ifnull (Reader.signed 16 (a.toNat * 256 + b.toNat)), 3) := dk_of ((dk_bind (dk_u1 (h 0 _ rfl))).trans ((dk_bind (dk_map (dk_u2 (h 1 _ rfl) (h 2 _ rfl)))).trans rfl))
end
section
/-! VmpcDesk -/
set_option maxRecDepth 100000
def RX0 : String := "VmpcDesk"
def TX0 : u_T := fun k => match k with
  | 0 => ("VmpcDesk", "run", "LVMPCEngine;", false)
  | 1 => ("VmpcDesk", "set", "Z", false)
  | 2 => ("VmpcDesk", "given", "I", false)
  | 3 => ("VmpcDesk", "key", "[B", true)
  | 4 => ("VmpcDesk", "nonce", "[B", true)
  | 5 => ("VmpcDesk", "text", "[B", true)
  | 6 => ("VmpcDesk", "size", "I", false)
  | _ => ("VmpcDesk", "out", "[B", false)
def tyX0 : Nat → FieldType := fun k => match k with
  | 0 => .object "VMPCEngine"
  | 1 => .boolean
  | 2 => .int
  | 3 => .array .byte
  | 4 => .array .byte
  | 5 => .array .byte
  | 6 => .int
  | _ => .array .byte
abbrev wsX00 : List Cond := u_ws RX0 TX0 8
theorem nmX0 : ∀ a, a < 8 → ∀ b, b < 8 → a ≠ b → (TX0 a).2.1 ≠ (TX0 b).2.1 := by decide +kernel
theorem tyX0_ok : ∀ k, k < 8 → parseFieldDescriptor (TX0 k).2.2.1 = some (tyX0 k) := by decide +kernel
abbrev cX0_init : ByteArray := prog_8_method_1_code
def yX0_init : MethodName := ⟨RX0, "<init>", "()V"⟩
def dkwX0_init_1 : List UInt8 := [16, 32, 188, 8, 181, 0, 20, 42, 17, 1, 0, 188, 8, 181, 0, 23, 42, 3, 188, 8, 181, 0, 26, 177]
abbrev dktX0_init_1 : List UInt8 := dkwX0_init_1 ++ []
def dkwX0_init_0 : List UInt8 := [42, 183, 0, 1, 42, 187, 0, 7, 89, 183, 0, 9, 181, 0, 10, 42, 16, 32, 188, 8, 181, 0, 16, 42]
abbrev dktX0_init_0 : List UInt8 := dkwX0_init_0 ++ dktX0_init_1
theorem dksX0_init_0 : cX0_init.data.toList.drop 0 = dktX0_init_0 := by decide +kernel
theorem dksX0_init_1 : cX0_init.data.toList.drop 24 = dktX0_init_1 := dk_seg dksX0_init_0 24 rfl rfl
theorem dX0_init_0 : decode cX0_init 0 = .ok (.aload_n 0, 1) := dk_42 (dk_at dksX0_init_0 0 rfl rfl)
theorem dX0_init_1 : decode cX0_init 1 = .ok (.invokespecial 1, 3) := dk_183 0 1 (dk_at dksX0_init_0 1 rfl rfl)
theorem dX0_init_4 : decode cX0_init 4 = .ok (.aload_n 0, 1) := dk_42 (dk_at dksX0_init_0 4 rfl rfl)
theorem dX0_init_5 : decode cX0_init 5 = .ok (.new 7, 3) := dk_187 0 7 (dk_at dksX0_init_0 5 rfl rfl)
theorem dX0_init_8 : decode cX0_init 8 = .ok (.dup, 1) := dk_89 (dk_at dksX0_init_0 8 rfl rfl)
theorem dX0_init_9 : decode cX0_init 9 = .ok (.invokespecial 9, 3) := dk_183 0 9 (dk_at dksX0_init_0 9 rfl rfl)
theorem dX0_init_12 : decode cX0_init 12 = .ok (.putfield 10, 3) := dk_181 0 10 (dk_at dksX0_init_0 12 rfl rfl)
theorem dX0_init_15 : decode cX0_init 15 = .ok (.aload_n 0, 1) := dk_42 (dk_at dksX0_init_0 15 rfl rfl)
theorem dX0_init_16 : decode cX0_init 16 = .ok (.bipush 32, 2) := dk_16 32 (dk_at dksX0_init_0 16 rfl rfl)
theorem dX0_init_18 : decode cX0_init 18 = .ok (.newarray .byte, 2) := dk_188_8 (dk_at dksX0_init_0 18 rfl rfl)
theorem dX0_init_20 : decode cX0_init 20 = .ok (.putfield 16, 3) := dk_181 0 16 (dk_at dksX0_init_0 20 rfl rfl)
theorem dX0_init_23 : decode cX0_init 23 = .ok (.aload_n 0, 1) := dk_42 (dk_at dksX0_init_0 23 rfl rfl)
theorem dX0_init_24 : decode cX0_init 24 = .ok (.bipush 32, 2) := dk_16 32 (dk_at dksX0_init_1 0 rfl rfl)
theorem dX0_init_26 : decode cX0_init 26 = .ok (.newarray .byte, 2) := dk_188_8 (dk_at dksX0_init_1 2 rfl rfl)
theorem dX0_init_28 : decode cX0_init 28 = .ok (.putfield 20, 3) := dk_181 0 20 (dk_at dksX0_init_1 4 rfl rfl)
theorem dX0_init_31 : decode cX0_init 31 = .ok (.aload_n 0, 1) := dk_42 (dk_at dksX0_init_1 7 rfl rfl)
theorem dX0_init_32 : decode cX0_init 32 = .ok (.sipush 256, 3) := dk_17 1 0 (dk_at dksX0_init_1 8 rfl rfl)
theorem dX0_init_35 : decode cX0_init 35 = .ok (.newarray .byte, 2) := dk_188_8 (dk_at dksX0_init_1 11 rfl rfl)
theorem dX0_init_37 : decode cX0_init 37 = .ok (.putfield 23, 3) := dk_181 0 23 (dk_at dksX0_init_1 13 rfl rfl)
theorem dX0_init_40 : decode cX0_init 40 = .ok (.aload_n 0, 1) := dk_42 (dk_at dksX0_init_1 16 rfl rfl)
theorem dX0_init_41 : decode cX0_init 41 = .ok (.iconst 0, 1) := dk_3 (dk_at dksX0_init_1 17 rfl rfl)
theorem dX0_init_42 : decode cX0_init 42 = .ok (.newarray .byte, 2) := dk_188_8 (dk_at dksX0_init_1 18 rfl rfl)
theorem dX0_init_44 : decode cX0_init 44 = .ok (.putfield 26, 3) := dk_181 0 26 (dk_at dksX0_init_1 20 rfl rfl)
theorem dX0_init_47 : decode cX0_init 47 = .ok (.return_, 1) := dk_177 (dk_at dksX0_init_1 23 rfl rfl)
abbrev cX0_put : ByteArray := prog_8_method_2_code
def yX0_put : MethodName := ⟨RX0, "put", "(IIII)Z"⟩
def dkwX0_put_3 : List UInt8 := [96, 21, 4, 184, 0, 33, 42, 89, 180, 0, 29, 16, 16, 96, 181, 0, 29, 4, 172]
abbrev dktX0_put_3 : List UInt8 := dkwX0_put_3 ++ []
def dkwX0_put_2 : List UInt8 := [180, 0, 23, 42, 180, 0, 29, 16, 8, 96, 29, 184, 0, 33, 42, 180, 0, 23, 42, 180, 0, 29, 16, 12]
abbrev dktX0_put_2 : List UInt8 := dkwX0_put_2 ++ dktX0_put_3
def dkwX0_put_1 : List UInt8 := [180, 0, 29, 27, 184, 0, 33, 42, 180, 0, 23, 42, 180, 0, 29, 7, 96, 28, 184, 0, 33, 42]
abbrev dktX0_put_1 : List UInt8 := dkwX0_put_1 ++ dktX0_put_2
def dkwX0_put_0 : List UInt8 := [42, 180, 0, 29, 42, 180, 0, 23, 190, 16, 16, 100, 164, 0, 5, 3, 172, 42, 180, 0, 23, 42]
abbrev dktX0_put_0 : List UInt8 := dkwX0_put_0 ++ dktX0_put_1
theorem dksX0_put_0 : cX0_put.data.toList.drop 0 = dktX0_put_0 := by decide +kernel
theorem dksX0_put_1 : cX0_put.data.toList.drop 22 = dktX0_put_1 := dk_seg dksX0_put_0 22 rfl rfl
theorem dksX0_put_2 : cX0_put.data.toList.drop 44 = dktX0_put_2 := dk_seg dksX0_put_1 22 rfl rfl
theorem dksX0_put_3 : cX0_put.data.toList.drop 68 = dktX0_put_3 := dk_seg dksX0_put_2 24 rfl rfl
theorem dX0_put_0 : decode cX0_put 0 = .ok (.aload_n 0, 1) := dk_42 (dk_at dksX0_put_0 0 rfl rfl)
theorem dX0_put_1 : decode cX0_put 1 = .ok (.getfield 29, 3) := dk_180 0 29 (dk_at dksX0_put_0 1 rfl rfl)
theorem dX0_put_4 : decode cX0_put 4 = .ok (.aload_n 0, 1) := dk_42 (dk_at dksX0_put_0 4 rfl rfl)
theorem dX0_put_5 : decode cX0_put 5 = .ok (.getfield 23, 3) := dk_180 0 23 (dk_at dksX0_put_0 5 rfl rfl)
theorem dX0_put_8 : decode cX0_put 8 = .ok (.arraylength, 1) := dk_190 (dk_at dksX0_put_0 8 rfl rfl)
theorem dX0_put_9 : decode cX0_put 9 = .ok (.bipush 16, 2) := dk_16 16 (dk_at dksX0_put_0 9 rfl rfl)
theorem dX0_put_11 : decode cX0_put 11 = .ok (.isub, 1) := dk_100 (dk_at dksX0_put_0 11 rfl rfl)
theorem dX0_put_12 : decode cX0_put 12 = .ok (.if_icmp .le 5, 3) := dk_164 0 5 (dk_at dksX0_put_0 12 rfl rfl)
theorem dX0_put_15 : decode cX0_put 15 = .ok (.iconst 0, 1) := dk_3 (dk_at dksX0_put_0 15 rfl rfl)
theorem dX0_put_16 : decode cX0_put 16 = .ok (.ireturn, 1) := dk_172 (dk_at dksX0_put_0 16 rfl rfl)
theorem dX0_put_17 : decode cX0_put 17 = .ok (.aload_n 0, 1) := dk_42 (dk_at dksX0_put_0 17 rfl rfl)
theorem dX0_put_18 : decode cX0_put 18 = .ok (.getfield 23, 3) := dk_180 0 23 (dk_at dksX0_put_0 18 rfl rfl)
theorem dX0_put_21 : decode cX0_put 21 = .ok (.aload_n 0, 1) := dk_42 (dk_at dksX0_put_0 21 rfl rfl)
theorem dX0_put_22 : decode cX0_put 22 = .ok (.getfield 29, 3) := dk_180 0 29 (dk_at dksX0_put_1 0 rfl rfl)
theorem dX0_put_25 : decode cX0_put 25 = .ok (.iload_n 1, 1) := dk_27 (dk_at dksX0_put_1 3 rfl rfl)
theorem dX0_put_26 : decode cX0_put 26 = .ok (.invokestatic 33, 3) := dk_184 0 33 (dk_at dksX0_put_1 4 rfl rfl)
theorem dX0_put_29 : decode cX0_put 29 = .ok (.aload_n 0, 1) := dk_42 (dk_at dksX0_put_1 7 rfl rfl)
theorem dX0_put_30 : decode cX0_put 30 = .ok (.getfield 23, 3) := dk_180 0 23 (dk_at dksX0_put_1 8 rfl rfl)
theorem dX0_put_33 : decode cX0_put 33 = .ok (.aload_n 0, 1) := dk_42 (dk_at dksX0_put_1 11 rfl rfl)
theorem dX0_put_34 : decode cX0_put 34 = .ok (.getfield 29, 3) := dk_180 0 29 (dk_at dksX0_put_1 12 rfl rfl)
theorem dX0_put_37 : decode cX0_put 37 = .ok (.iconst 4, 1) := dk_7 (dk_at dksX0_put_1 15 rfl rfl)
theorem dX0_put_38 : decode cX0_put 38 = .ok (.iadd, 1) := dk_96 (dk_at dksX0_put_1 16 rfl rfl)
theorem dX0_put_39 : decode cX0_put 39 = .ok (.iload_n 2, 1) := dk_28 (dk_at dksX0_put_1 17 rfl rfl)
theorem dX0_put_40 : decode cX0_put 40 = .ok (.invokestatic 33, 3) := dk_184 0 33 (dk_at dksX0_put_1 18 rfl rfl)
theorem dX0_put_43 : decode cX0_put 43 = .ok (.aload_n 0, 1) := dk_42 (dk_at dksX0_put_1 21 rfl rfl)
theorem dX0_put_44 : decode cX0_put 44 = .ok (.getfield 23, 3) := dk_180 0 23 (dk_at dksX0_put_2 0 rfl rfl)
theorem dX0_put_47 : decode cX0_put 47 = .ok (.aload_n 0, 1) := dk_42 (dk_at dksX0_put_2 3 rfl rfl)
theorem dX0_put_48 : decode cX0_put 48 = .ok (.getfield 29, 3) := dk_180 0 29 (dk_at dksX0_put_2 4 rfl rfl)
theorem dX0_put_51 : decode cX0_put 51 = .ok (.bipush 8, 2) := dk_16 8 (dk_at dksX0_put_2 7 rfl rfl)
theorem dX0_put_53 : decode cX0_put 53 = .ok (.iadd, 1) := dk_96 (dk_at dksX0_put_2 9 rfl rfl)
theorem dX0_put_54 : decode cX0_put 54 = .ok (.iload_n 3, 1) := dk_29 (dk_at dksX0_put_2 10 rfl rfl)
theorem dX0_put_55 : decode cX0_put 55 = .ok (.invokestatic 33, 3) := dk_184 0 33 (dk_at dksX0_put_2 11 rfl rfl)
theorem dX0_put_58 : decode cX0_put 58 = .ok (.aload_n 0, 1) := dk_42 (dk_at dksX0_put_2 14 rfl rfl)
theorem dX0_put_59 : decode cX0_put 59 = .ok (.getfield 23, 3) := dk_180 0 23 (dk_at dksX0_put_2 15 rfl rfl)
theorem dX0_put_62 : decode cX0_put 62 = .ok (.aload_n 0, 1) := dk_42 (dk_at dksX0_put_2 18 rfl rfl)
theorem dX0_put_63 : decode cX0_put 63 = .ok (.getfield 29, 3) := dk_180 0 29 (dk_at dksX0_put_2 19 rfl rfl)
theorem dX0_put_66 : decode cX0_put 66 = .ok (.bipush 12, 2) := dk_16 12 (dk_at dksX0_put_2 22 rfl rfl)
theorem dX0_put_68 : decode cX0_put 68 = .ok (.iadd, 1) := dk_96 (dk_at dksX0_put_3 0 rfl rfl)
theorem dX0_put_69 : decode cX0_put 69 = .ok (.iload 4, 2) := dk_21 4 (dk_at dksX0_put_3 1 rfl rfl)
theorem dX0_put_71 : decode cX0_put 71 = .ok (.invokestatic 33, 3) := dk_184 0 33 (dk_at dksX0_put_3 3 rfl rfl)
theorem dX0_put_74 : decode cX0_put 74 = .ok (.aload_n 0, 1) := dk_42 (dk_at dksX0_put_3 6 rfl rfl)
theorem dX0_put_75 : decode cX0_put 75 = .ok (.dup, 1) := dk_89 (dk_at dksX0_put_3 7 rfl rfl)
theorem dX0_put_76 : decode cX0_put 76 = .ok (.getfield 29, 3) := dk_180 0 29 (dk_at dksX0_put_3 8 rfl rfl)
theorem dX0_put_79 : decode cX0_put 79 = .ok (.bipush 16, 2) := dk_16 16 (dk_at dksX0_put_3 11 rfl rfl)
theorem dX0_put_81 : decode cX0_put 81 = .ok (.iadd, 1) := dk_96 (dk_at dksX0_put_3 13 rfl rfl)
theorem dX0_put_82 : decode cX0_put 82 = .ok (.putfield 29, 3) := dk_181 0 29 (dk_at dksX0_put_3 14 rfl rfl)
theorem dX0_put_85 : decode cX0_put 85 = .ok (.iconst 1, 1) := dk_4 (dk_at dksX0_put_3 17 rfl rfl)
theorem dX0_put_86 : decode cX0_put 86 = .ok (.ireturn, 1) := dk_172 (dk_at dksX0_put_3 18 rfl rfl)
abbrev cX0_word : ByteArray := prog_8_method_3_code
def yX0_word : MethodName := ⟨RX0, "word", "([BII)V"⟩
def dkwX0_word_1 : List UInt8 := [16, 8, 122, 145, 84, 42, 27, 6, 96, 28, 145, 84, 177]
abbrev dktX0_word_1 : List UInt8 := dkwX0_word_1 ++ []
def dkwX0_word_0 : List UInt8 := [42, 27, 28, 16, 24, 122, 145, 84, 42, 27, 4, 96, 28, 16, 16, 122, 145, 84, 42, 27, 5, 96, 28]
abbrev dktX0_word_0 : List UInt8 := dkwX0_word_0 ++ dktX0_word_1
theorem dksX0_word_0 : cX0_word.data.toList.drop 0 = dktX0_word_0 := by decide +kernel
theorem dksX0_word_1 : cX0_word.data.toList.drop 23 = dktX0_word_1 := dk_seg dksX0_word_0 23 rfl rfl
theorem dX0_word_0 : decode cX0_word 0 = .ok (.aload_n 0, 1) := dk_42 (dk_at dksX0_word_0 0 rfl rfl)
theorem dX0_word_1 : decode cX0_word 1 = .ok (.iload_n 1, 1) := dk_27 (dk_at dksX0_word_0 1 rfl rfl)
theorem dX0_word_2 : decode cX0_word 2 = .ok (.iload_n 2, 1) := dk_28 (dk_at dksX0_word_0 2 rfl rfl)
theorem dX0_word_3 : decode cX0_word 3 = .ok (.bipush 24, 2) := dk_16 24 (dk_at dksX0_word_0 3 rfl rfl)
theorem dX0_word_5 : decode cX0_word 5 = .ok (.ishr, 1) := dk_122 (dk_at dksX0_word_0 5 rfl rfl)
theorem dX0_word_6 : decode cX0_word 6 = .ok (.i2b, 1) := dk_145 (dk_at dksX0_word_0 6 rfl rfl)
theorem dX0_word_7 : decode cX0_word 7 = .ok (.bastore, 1) := dk_84 (dk_at dksX0_word_0 7 rfl rfl)
theorem dX0_word_8 : decode cX0_word 8 = .ok (.aload_n 0, 1) := dk_42 (dk_at dksX0_word_0 8 rfl rfl)
theorem dX0_word_9 : decode cX0_word 9 = .ok (.iload_n 1, 1) := dk_27 (dk_at dksX0_word_0 9 rfl rfl)
theorem dX0_word_10 : decode cX0_word 10 = .ok (.iconst 1, 1) := dk_4 (dk_at dksX0_word_0 10 rfl rfl)
theorem dX0_word_11 : decode cX0_word 11 = .ok (.iadd, 1) := dk_96 (dk_at dksX0_word_0 11 rfl rfl)
theorem dX0_word_12 : decode cX0_word 12 = .ok (.iload_n 2, 1) := dk_28 (dk_at dksX0_word_0 12 rfl rfl)
theorem dX0_word_13 : decode cX0_word 13 = .ok (.bipush 16, 2) := dk_16 16 (dk_at dksX0_word_0 13 rfl rfl)
theorem dX0_word_15 : decode cX0_word 15 = .ok (.ishr, 1) := dk_122 (dk_at dksX0_word_0 15 rfl rfl)
theorem dX0_word_16 : decode cX0_word 16 = .ok (.i2b, 1) := dk_145 (dk_at dksX0_word_0 16 rfl rfl)
theorem dX0_word_17 : decode cX0_word 17 = .ok (.bastore, 1) := dk_84 (dk_at dksX0_word_0 17 rfl rfl)
theorem dX0_word_18 : decode cX0_word 18 = .ok (.aload_n 0, 1) := dk_42 (dk_at dksX0_word_0 18 rfl rfl)
theorem dX0_word_19 : decode cX0_word 19 = .ok (.iload_n 1, 1) := dk_27 (dk_at dksX0_word_0 19 rfl rfl)
theorem dX0_word_20 : decode cX0_word 20 = .ok (.iconst 2, 1) := dk_5 (dk_at dksX0_word_0 20 rfl rfl)
theorem dX0_word_21 : decode cX0_word 21 = .ok (.iadd, 1) := dk_96 (dk_at dksX0_word_0 21 rfl rfl)
theorem dX0_word_22 : decode cX0_word 22 = .ok (.iload_n 2, 1) := dk_28 (dk_at dksX0_word_0 22 rfl rfl)
theorem dX0_word_23 : decode cX0_word 23 = .ok (.bipush 8, 2) := dk_16 8 (dk_at dksX0_word_1 0 rfl rfl)
theorem dX0_word_25 : decode cX0_word 25 = .ok (.ishr, 1) := dk_122 (dk_at dksX0_word_1 2 rfl rfl)
theorem dX0_word_26 : decode cX0_word 26 = .ok (.i2b, 1) := dk_145 (dk_at dksX0_word_1 3 rfl rfl)
theorem dX0_word_27 : decode cX0_word 27 = .ok (.bastore, 1) := dk_84 (dk_at dksX0_word_1 4 rfl rfl)
theorem dX0_word_28 : decode cX0_word 28 = .ok (.aload_n 0, 1) := dk_42 (dk_at dksX0_word_1 5 rfl rfl)
theorem dX0_word_29 : decode cX0_word 29 = .ok (.iload_n 1, 1) := dk_27 (dk_at dksX0_word_1 6 rfl rfl)
theorem dX0_word_30 : decode cX0_word 30 = .ok (.iconst 3, 1) := dk_6 (dk_at dksX0_word_1 7 rfl rfl)
theorem dX0_word_31 : decode cX0_word 31 = .ok (.iadd, 1) := dk_96 (dk_at dksX0_word_1 8 rfl rfl)
theorem dX0_word_32 : decode cX0_word 32 = .ok (.iload_n 2, 1) := dk_28 (dk_at dksX0_word_1 9 rfl rfl)
theorem dX0_word_33 : decode cX0_word 33 = .ok (.i2b, 1) := dk_145 (dk_at dksX0_word_1 10 rfl rfl)
theorem dX0_word_34 : decode cX0_word 34 = .ok (.bastore, 1) := dk_84 (dk_at dksX0_word_1 11 rfl rfl)
theorem dX0_word_35 : decode cX0_word 35 = .ok (.return_, 1) := dk_177 (dk_at dksX0_word_1 12 rfl rfl)
abbrev cX0_trim : ByteArray := prog_8_method_4_code
def yX0_trim : MethodName := ⟨RX0, "trim", "(I)V"⟩
def dkwX0_trim_0 : List UInt8 := [42, 42, 27, 182, 0, 37, 181, 0, 29, 177]
abbrev dktX0_trim_0 : List UInt8 := dkwX0_trim_0 ++ []
theorem dksX0_trim_0 : cX0_trim.data.toList.drop 0 = dktX0_trim_0 := by decide +kernel
theorem dX0_trim_0 : decode cX0_trim 0 = .ok (.aload_n 0, 1) := dk_42 (dk_at dksX0_trim_0 0 rfl rfl)
theorem dX0_trim_1 : decode cX0_trim 1 = .ok (.aload_n 0, 1) := dk_42 (dk_at dksX0_trim_0 1 rfl rfl)
theorem dX0_trim_2 : decode cX0_trim 2 = .ok (.iload_n 1, 1) := dk_27 (dk_at dksX0_trim_0 2 rfl rfl)
theorem dX0_trim_3 : decode cX0_trim 3 = .ok (.invokevirtual 37, 3) := dk_182 0 37 (dk_at dksX0_trim_0 3 rfl rfl)
theorem dX0_trim_6 : decode cX0_trim 6 = .ok (.putfield 29, 3) := dk_181 0 29 (dk_at dksX0_trim_0 6 rfl rfl)
theorem dX0_trim_9 : decode cX0_trim 9 = .ok (.return_, 1) := dk_177 (dk_at dksX0_trim_0 9 rfl rfl)
abbrev cX0_from : ByteArray := prog_8_method_5_code
def yX0_from : MethodName := ⟨RX0, "from", "(I)I"⟩
def dkwX0_from_0 : List UInt8 := [27, 18, 41, 126, 42, 180, 0, 29, 4, 96, 112, 172]
abbrev dktX0_from_0 : List UInt8 := dkwX0_from_0 ++ []
theorem dksX0_from_0 : cX0_from.data.toList.drop 0 = dktX0_from_0 := by decide +kernel
theorem dX0_from_0 : decode cX0_from 0 = .ok (.iload_n 1, 1) := dk_27 (dk_at dksX0_from_0 0 rfl rfl)
theorem dX0_from_1 : decode cX0_from 1 = .ok (.ldc 41, 2) := dk_18 41 (dk_at dksX0_from_0 1 rfl rfl)
theorem dX0_from_3 : decode cX0_from 3 = .ok (.iand, 1) := dk_126 (dk_at dksX0_from_0 3 rfl rfl)
theorem dX0_from_4 : decode cX0_from 4 = .ok (.aload_n 0, 1) := dk_42 (dk_at dksX0_from_0 4 rfl rfl)
theorem dX0_from_5 : decode cX0_from 5 = .ok (.getfield 29, 3) := dk_180 0 29 (dk_at dksX0_from_0 5 rfl rfl)
theorem dX0_from_8 : decode cX0_from 8 = .ok (.iconst 1, 1) := dk_4 (dk_at dksX0_from_0 8 rfl rfl)
theorem dX0_from_9 : decode cX0_from 9 = .ok (.iadd, 1) := dk_96 (dk_at dksX0_from_0 9 rfl rfl)
theorem dX0_from_10 : decode cX0_from 10 = .ok (.irem, 1) := dk_112 (dk_at dksX0_from_0 10 rfl rfl)
theorem dX0_from_11 : decode cX0_from 11 = .ok (.ireturn, 1) := dk_172 (dk_at dksX0_from_0 11 rfl rfl)
abbrev cX0_key : ByteArray := prog_8_method_7_code
def yX0_key : MethodName := ⟨RX0, "key", "(IIIII)V"⟩
def dkwX0_key_2 : List UInt8 := [21, 6, 16, 12, 96, 21, 5, 184, 0, 33, 177]
abbrev dktX0_key_2 : List UInt8 := dkwX0_key_2 ++ []
def dkwX0_key_1 : List UInt8 := [96, 29, 184, 0, 33, 42, 180, 0, 16, 21, 6, 16, 8, 96, 21, 4, 184, 0, 33, 42, 180, 0, 16]
abbrev dktX0_key_1 : List UInt8 := dkwX0_key_1 ++ dktX0_key_2
def dkwX0_key_0 : List UInt8 := [27, 4, 126, 7, 120, 54, 6, 42, 180, 0, 16, 21, 6, 28, 184, 0, 33, 42, 180, 0, 16, 21, 6, 7]
abbrev dktX0_key_0 : List UInt8 := dkwX0_key_0 ++ dktX0_key_1
theorem dksX0_key_0 : cX0_key.data.toList.drop 0 = dktX0_key_0 := by decide +kernel
theorem dksX0_key_1 : cX0_key.data.toList.drop 24 = dktX0_key_1 := dk_seg dksX0_key_0 24 rfl rfl
theorem dksX0_key_2 : cX0_key.data.toList.drop 47 = dktX0_key_2 := dk_seg dksX0_key_1 23 rfl rfl
theorem dX0_key_0 : decode cX0_key 0 = .ok (.iload_n 1, 1) := dk_27 (dk_at dksX0_key_0 0 rfl rfl)
theorem dX0_key_1 : decode cX0_key 1 = .ok (.iconst 1, 1) := dk_4 (dk_at dksX0_key_0 1 rfl rfl)
theorem dX0_key_2 : decode cX0_key 2 = .ok (.iand, 1) := dk_126 (dk_at dksX0_key_0 2 rfl rfl)
theorem dX0_key_3 : decode cX0_key 3 = .ok (.iconst 4, 1) := dk_7 (dk_at dksX0_key_0 3 rfl rfl)
theorem dX0_key_4 : decode cX0_key 4 = .ok (.ishl, 1) := dk_120 (dk_at dksX0_key_0 4 rfl rfl)
theorem dX0_key_5 : decode cX0_key 5 = .ok (.istore 6, 2) := dk_54 6 (dk_at dksX0_key_0 5 rfl rfl)
theorem dX0_key_7 : decode cX0_key 7 = .ok (.aload_n 0, 1) := dk_42 (dk_at dksX0_key_0 7 rfl rfl)
theorem dX0_key_8 : decode cX0_key 8 = .ok (.getfield 16, 3) := dk_180 0 16 (dk_at dksX0_key_0 8 rfl rfl)
theorem dX0_key_11 : decode cX0_key 11 = .ok (.iload 6, 2) := dk_21 6 (dk_at dksX0_key_0 11 rfl rfl)
theorem dX0_key_13 : decode cX0_key 13 = .ok (.iload_n 2, 1) := dk_28 (dk_at dksX0_key_0 13 rfl rfl)
theorem dX0_key_14 : decode cX0_key 14 = .ok (.invokestatic 33, 3) := dk_184 0 33 (dk_at dksX0_key_0 14 rfl rfl)
theorem dX0_key_17 : decode cX0_key 17 = .ok (.aload_n 0, 1) := dk_42 (dk_at dksX0_key_0 17 rfl rfl)
theorem dX0_key_18 : decode cX0_key 18 = .ok (.getfield 16, 3) := dk_180 0 16 (dk_at dksX0_key_0 18 rfl rfl)
theorem dX0_key_21 : decode cX0_key 21 = .ok (.iload 6, 2) := dk_21 6 (dk_at dksX0_key_0 21 rfl rfl)
theorem dX0_key_23 : decode cX0_key 23 = .ok (.iconst 4, 1) := dk_7 (dk_at dksX0_key_0 23 rfl rfl)
theorem dX0_key_24 : decode cX0_key 24 = .ok (.iadd, 1) := dk_96 (dk_at dksX0_key_1 0 rfl rfl)
theorem dX0_key_25 : decode cX0_key 25 = .ok (.iload_n 3, 1) := dk_29 (dk_at dksX0_key_1 1 rfl rfl)
theorem dX0_key_26 : decode cX0_key 26 = .ok (.invokestatic 33, 3) := dk_184 0 33 (dk_at dksX0_key_1 2 rfl rfl)
theorem dX0_key_29 : decode cX0_key 29 = .ok (.aload_n 0, 1) := dk_42 (dk_at dksX0_key_1 5 rfl rfl)
theorem dX0_key_30 : decode cX0_key 30 = .ok (.getfield 16, 3) := dk_180 0 16 (dk_at dksX0_key_1 6 rfl rfl)
theorem dX0_key_33 : decode cX0_key 33 = .ok (.iload 6, 2) := dk_21 6 (dk_at dksX0_key_1 9 rfl rfl)
theorem dX0_key_35 : decode cX0_key 35 = .ok (.bipush 8, 2) := dk_16 8 (dk_at dksX0_key_1 11 rfl rfl)
theorem dX0_key_37 : decode cX0_key 37 = .ok (.iadd, 1) := dk_96 (dk_at dksX0_key_1 13 rfl rfl)
theorem dX0_key_38 : decode cX0_key 38 = .ok (.iload 4, 2) := dk_21 4 (dk_at dksX0_key_1 14 rfl rfl)
theorem dX0_key_40 : decode cX0_key 40 = .ok (.invokestatic 33, 3) := dk_184 0 33 (dk_at dksX0_key_1 16 rfl rfl)
theorem dX0_key_43 : decode cX0_key 43 = .ok (.aload_n 0, 1) := dk_42 (dk_at dksX0_key_1 19 rfl rfl)
theorem dX0_key_44 : decode cX0_key 44 = .ok (.getfield 16, 3) := dk_180 0 16 (dk_at dksX0_key_1 20 rfl rfl)
theorem dX0_key_47 : decode cX0_key 47 = .ok (.iload 6, 2) := dk_21 6 (dk_at dksX0_key_2 0 rfl rfl)
theorem dX0_key_49 : decode cX0_key 49 = .ok (.bipush 12, 2) := dk_16 12 (dk_at dksX0_key_2 2 rfl rfl)
theorem dX0_key_51 : decode cX0_key 51 = .ok (.iadd, 1) := dk_96 (dk_at dksX0_key_2 4 rfl rfl)
theorem dX0_key_52 : decode cX0_key 52 = .ok (.iload 5, 2) := dk_21 5 (dk_at dksX0_key_2 5 rfl rfl)
theorem dX0_key_54 : decode cX0_key 54 = .ok (.invokestatic 33, 3) := dk_184 0 33 (dk_at dksX0_key_2 7 rfl rfl)
theorem dX0_key_57 : decode cX0_key 57 = .ok (.return_, 1) := dk_177 (dk_at dksX0_key_2 10 rfl rfl)
abbrev cX0_nonce : ByteArray := prog_8_method_8_code
def yX0_nonce : MethodName := ⟨RX0, "nonce", "(IIIII)V"⟩
def dkwX0_nonce_2 : List UInt8 := [21, 6, 16, 12, 96, 21, 5, 184, 0, 33, 177]
abbrev dktX0_nonce_2 : List UInt8 := dkwX0_nonce_2 ++ []
def dkwX0_nonce_1 : List UInt8 := [96, 29, 184, 0, 33, 42, 180, 0, 20, 21, 6, 16, 8, 96, 21, 4, 184, 0, 33, 42, 180, 0, 20]
abbrev dktX0_nonce_1 : List UInt8 := dkwX0_nonce_1 ++ dktX0_nonce_2
def dkwX0_nonce_0 : List UInt8 := [27, 4, 126, 7, 120, 54, 6, 42, 180, 0, 20, 21, 6, 28, 184, 0, 33, 42, 180, 0, 20, 21, 6, 7]
abbrev dktX0_nonce_0 : List UInt8 := dkwX0_nonce_0 ++ dktX0_nonce_1
theorem dksX0_nonce_0 : cX0_nonce.data.toList.drop 0 = dktX0_nonce_0 := by decide +kernel
theorem dksX0_nonce_1 : cX0_nonce.data.toList.drop 24 = dktX0_nonce_1 := dk_seg dksX0_nonce_0 24 rfl rfl
theorem dksX0_nonce_2 : cX0_nonce.data.toList.drop 47 = dktX0_nonce_2 := dk_seg dksX0_nonce_1 23 rfl rfl
theorem dX0_nonce_0 : decode cX0_nonce 0 = .ok (.iload_n 1, 1) := dk_27 (dk_at dksX0_nonce_0 0 rfl rfl)
theorem dX0_nonce_1 : decode cX0_nonce 1 = .ok (.iconst 1, 1) := dk_4 (dk_at dksX0_nonce_0 1 rfl rfl)
theorem dX0_nonce_2 : decode cX0_nonce 2 = .ok (.iand, 1) := dk_126 (dk_at dksX0_nonce_0 2 rfl rfl)
theorem dX0_nonce_3 : decode cX0_nonce 3 = .ok (.iconst 4, 1) := dk_7 (dk_at dksX0_nonce_0 3 rfl rfl)
theorem dX0_nonce_4 : decode cX0_nonce 4 = .ok (.ishl, 1) := dk_120 (dk_at dksX0_nonce_0 4 rfl rfl)
theorem dX0_nonce_5 : decode cX0_nonce 5 = .ok (.istore 6, 2) := dk_54 6 (dk_at dksX0_nonce_0 5 rfl rfl)
theorem dX0_nonce_7 : decode cX0_nonce 7 = .ok (.aload_n 0, 1) := dk_42 (dk_at dksX0_nonce_0 7 rfl rfl)
theorem dX0_nonce_8 : decode cX0_nonce 8 = .ok (.getfield 20, 3) := dk_180 0 20 (dk_at dksX0_nonce_0 8 rfl rfl)
theorem dX0_nonce_11 : decode cX0_nonce 11 = .ok (.iload 6, 2) := dk_21 6 (dk_at dksX0_nonce_0 11 rfl rfl)
theorem dX0_nonce_13 : decode cX0_nonce 13 = .ok (.iload_n 2, 1) := dk_28 (dk_at dksX0_nonce_0 13 rfl rfl)
theorem dX0_nonce_14 : decode cX0_nonce 14 = .ok (.invokestatic 33, 3) := dk_184 0 33 (dk_at dksX0_nonce_0 14 rfl rfl)
theorem dX0_nonce_17 : decode cX0_nonce 17 = .ok (.aload_n 0, 1) := dk_42 (dk_at dksX0_nonce_0 17 rfl rfl)
theorem dX0_nonce_18 : decode cX0_nonce 18 = .ok (.getfield 20, 3) := dk_180 0 20 (dk_at dksX0_nonce_0 18 rfl rfl)
theorem dX0_nonce_21 : decode cX0_nonce 21 = .ok (.iload 6, 2) := dk_21 6 (dk_at dksX0_nonce_0 21 rfl rfl)
theorem dX0_nonce_23 : decode cX0_nonce 23 = .ok (.iconst 4, 1) := dk_7 (dk_at dksX0_nonce_0 23 rfl rfl)
theorem dX0_nonce_24 : decode cX0_nonce 24 = .ok (.iadd, 1) := dk_96 (dk_at dksX0_nonce_1 0 rfl rfl)
theorem dX0_nonce_25 : decode cX0_nonce 25 = .ok (.iload_n 3, 1) := dk_29 (dk_at dksX0_nonce_1 1 rfl rfl)
theorem dX0_nonce_26 : decode cX0_nonce 26 = .ok (.invokestatic 33, 3) := dk_184 0 33 (dk_at dksX0_nonce_1 2 rfl rfl)
theorem dX0_nonce_29 : decode cX0_nonce 29 = .ok (.aload_n 0, 1) := dk_42 (dk_at dksX0_nonce_1 5 rfl rfl)
theorem dX0_nonce_30 : decode cX0_nonce 30 = .ok (.getfield 20, 3) := dk_180 0 20 (dk_at dksX0_nonce_1 6 rfl rfl)
theorem dX0_nonce_33 : decode cX0_nonce 33 = .ok (.iload 6, 2) := dk_21 6 (dk_at dksX0_nonce_1 9 rfl rfl)
theorem dX0_nonce_35 : decode cX0_nonce 35 = .ok (.bipush 8, 2) := dk_16 8 (dk_at dksX0_nonce_1 11 rfl rfl)
theorem dX0_nonce_37 : decode cX0_nonce 37 = .ok (.iadd, 1) := dk_96 (dk_at dksX0_nonce_1 13 rfl rfl)
theorem dX0_nonce_38 : decode cX0_nonce 38 = .ok (.iload 4, 2) := dk_21 4 (dk_at dksX0_nonce_1 14 rfl rfl)
theorem dX0_nonce_40 : decode cX0_nonce 40 = .ok (.invokestatic 33, 3) := dk_184 0 33 (dk_at dksX0_nonce_1 16 rfl rfl)
theorem dX0_nonce_43 : decode cX0_nonce 43 = .ok (.aload_n 0, 1) := dk_42 (dk_at dksX0_nonce_1 19 rfl rfl)
theorem dX0_nonce_44 : decode cX0_nonce 44 = .ok (.getfield 20, 3) := dk_180 0 20 (dk_at dksX0_nonce_1 20 rfl rfl)
theorem dX0_nonce_47 : decode cX0_nonce 47 = .ok (.iload 6, 2) := dk_21 6 (dk_at dksX0_nonce_2 0 rfl rfl)
theorem dX0_nonce_49 : decode cX0_nonce 49 = .ok (.bipush 12, 2) := dk_16 12 (dk_at dksX0_nonce_2 2 rfl rfl)
theorem dX0_nonce_51 : decode cX0_nonce 51 = .ok (.iadd, 1) := dk_96 (dk_at dksX0_nonce_2 4 rfl rfl)
theorem dX0_nonce_52 : decode cX0_nonce 52 = .ok (.iload 5, 2) := dk_21 5 (dk_at dksX0_nonce_2 5 rfl rfl)
theorem dX0_nonce_54 : decode cX0_nonce 54 = .ok (.invokestatic 33, 3) := dk_184 0 33 (dk_at dksX0_nonce_2 7 rfl rfl)
theorem dX0_nonce_57 : decode cX0_nonce 57 = .ok (.return_, 1) := dk_177 (dk_at dksX0_nonce_2 10 rfl rfl)
abbrev cX0_begin : ByteArray := prog_8_method_9_code
def yX0_begin : MethodName := ⟨RX0, "begin", "(I)V"⟩
def dkwX0_begin_4 : List UInt8 := [4, 25, 4, 182, 0, 52, 42, 4, 181, 0, 56, 42, 3, 181, 0, 60, 177]
abbrev dktX0_begin_4 : List UInt8 := dkwX0_begin_4 ++ []
def dkwX0_begin_3 : List UInt8 := [183, 0, 46, 45, 183, 0, 49, 58, 4, 42, 187, 0, 7, 89, 183, 0, 9, 181, 0, 10, 42, 180, 0, 10]
abbrev dktX0_begin_3 : List UInt8 := dkwX0_begin_3 ++ dktX0_begin_4
def dkwX0_begin_2 : List UInt8 := [42, 180, 0, 20, 21, 4, 51, 84, 132, 4, 1, 167, 255, 235, 187, 0, 42, 89, 187, 0, 44, 89, 44]
abbrev dktX0_begin_2 : List UInt8 := dkwX0_begin_2 ++ dktX0_begin_3
def dkwX0_begin_1 : List UInt8 := [132, 3, 1, 167, 255, 238, 16, 16, 188, 8, 78, 3, 54, 4, 21, 4, 16, 16, 162, 0, 20, 45, 21, 4]
abbrev dktX0_begin_1 : List UInt8 := dkwX0_begin_1 ++ dktX0_begin_2
def dkwX0_begin_0 : List UInt8 := [16, 16, 188, 8, 77, 3, 62, 29, 44, 190, 162, 0, 18, 44, 29, 42, 180, 0, 16, 29, 51, 84]
abbrev dktX0_begin_0 : List UInt8 := dkwX0_begin_0 ++ dktX0_begin_1
theorem dksX0_begin_0 : cX0_begin.data.toList.drop 0 = dktX0_begin_0 := by decide +kernel
theorem dksX0_begin_1 : cX0_begin.data.toList.drop 22 = dktX0_begin_1 := dk_seg dksX0_begin_0 22 rfl rfl
theorem dksX0_begin_2 : cX0_begin.data.toList.drop 46 = dktX0_begin_2 := dk_seg dksX0_begin_1 24 rfl rfl
theorem dksX0_begin_3 : cX0_begin.data.toList.drop 69 = dktX0_begin_3 := dk_seg dksX0_begin_2 23 rfl rfl
theorem dksX0_begin_4 : cX0_begin.data.toList.drop 93 = dktX0_begin_4 := dk_seg dksX0_begin_3 24 rfl rfl
theorem dX0_begin_0 : decode cX0_begin 0 = .ok (.bipush 16, 2) := dk_16 16 (dk_at dksX0_begin_0 0 rfl rfl)
theorem dX0_begin_2 : decode cX0_begin 2 = .ok (.newarray .byte, 2) := dk_188_8 (dk_at dksX0_begin_0 2 rfl rfl)
theorem dX0_begin_4 : decode cX0_begin 4 = .ok (.astore_n 2, 1) := dk_77 (dk_at dksX0_begin_0 4 rfl rfl)
theorem dX0_begin_5 : decode cX0_begin 5 = .ok (.iconst 0, 1) := dk_3 (dk_at dksX0_begin_0 5 rfl rfl)
theorem dX0_begin_6 : decode cX0_begin 6 = .ok (.istore_n 3, 1) := dk_62 (dk_at dksX0_begin_0 6 rfl rfl)
theorem dX0_begin_7 : decode cX0_begin 7 = .ok (.iload_n 3, 1) := dk_29 (dk_at dksX0_begin_0 7 rfl rfl)
theorem dX0_begin_8 : decode cX0_begin 8 = .ok (.aload_n 2, 1) := dk_44 (dk_at dksX0_begin_0 8 rfl rfl)
theorem dX0_begin_9 : decode cX0_begin 9 = .ok (.arraylength, 1) := dk_190 (dk_at dksX0_begin_0 9 rfl rfl)
theorem dX0_begin_10 : decode cX0_begin 10 = .ok (.if_icmp .ge 18, 3) := dk_162 0 18 (dk_at dksX0_begin_0 10 rfl rfl)
theorem dX0_begin_13 : decode cX0_begin 13 = .ok (.aload_n 2, 1) := dk_44 (dk_at dksX0_begin_0 13 rfl rfl)
theorem dX0_begin_14 : decode cX0_begin 14 = .ok (.iload_n 3, 1) := dk_29 (dk_at dksX0_begin_0 14 rfl rfl)
theorem dX0_begin_15 : decode cX0_begin 15 = .ok (.aload_n 0, 1) := dk_42 (dk_at dksX0_begin_0 15 rfl rfl)
theorem dX0_begin_16 : decode cX0_begin 16 = .ok (.getfield 16, 3) := dk_180 0 16 (dk_at dksX0_begin_0 16 rfl rfl)
theorem dX0_begin_19 : decode cX0_begin 19 = .ok (.iload_n 3, 1) := dk_29 (dk_at dksX0_begin_0 19 rfl rfl)
theorem dX0_begin_20 : decode cX0_begin 20 = .ok (.baload, 1) := dk_51 (dk_at dksX0_begin_0 20 rfl rfl)
theorem dX0_begin_21 : decode cX0_begin 21 = .ok (.bastore, 1) := dk_84 (dk_at dksX0_begin_0 21 rfl rfl)
theorem dX0_begin_22 : decode cX0_begin 22 = .ok (.iinc 3 1, 3) := dk_132 3 1 (dk_at dksX0_begin_1 0 rfl rfl)
theorem dX0_begin_25 : decode cX0_begin 25 = .ok (.goto (-18), 3) := dk_167 255 238 (dk_at dksX0_begin_1 3 rfl rfl)
theorem dX0_begin_28 : decode cX0_begin 28 = .ok (.bipush 16, 2) := dk_16 16 (dk_at dksX0_begin_1 6 rfl rfl)
theorem dX0_begin_30 : decode cX0_begin 30 = .ok (.newarray .byte, 2) := dk_188_8 (dk_at dksX0_begin_1 8 rfl rfl)
theorem dX0_begin_32 : decode cX0_begin 32 = .ok (.astore_n 3, 1) := dk_78 (dk_at dksX0_begin_1 10 rfl rfl)
theorem dX0_begin_33 : decode cX0_begin 33 = .ok (.iconst 0, 1) := dk_3 (dk_at dksX0_begin_1 11 rfl rfl)
theorem dX0_begin_34 : decode cX0_begin 34 = .ok (.istore 4, 2) := dk_54 4 (dk_at dksX0_begin_1 12 rfl rfl)
theorem dX0_begin_36 : decode cX0_begin 36 = .ok (.iload 4, 2) := dk_21 4 (dk_at dksX0_begin_1 14 rfl rfl)
theorem dX0_begin_38 : decode cX0_begin 38 = .ok (.bipush 16, 2) := dk_16 16 (dk_at dksX0_begin_1 16 rfl rfl)
theorem dX0_begin_40 : decode cX0_begin 40 = .ok (.if_icmp .ge 20, 3) := dk_162 0 20 (dk_at dksX0_begin_1 18 rfl rfl)
theorem dX0_begin_43 : decode cX0_begin 43 = .ok (.aload_n 3, 1) := dk_45 (dk_at dksX0_begin_1 21 rfl rfl)
theorem dX0_begin_44 : decode cX0_begin 44 = .ok (.iload 4, 2) := dk_21 4 (dk_at dksX0_begin_1 22 rfl rfl)
theorem dX0_begin_46 : decode cX0_begin 46 = .ok (.aload_n 0, 1) := dk_42 (dk_at dksX0_begin_2 0 rfl rfl)
theorem dX0_begin_47 : decode cX0_begin 47 = .ok (.getfield 20, 3) := dk_180 0 20 (dk_at dksX0_begin_2 1 rfl rfl)
theorem dX0_begin_50 : decode cX0_begin 50 = .ok (.iload 4, 2) := dk_21 4 (dk_at dksX0_begin_2 4 rfl rfl)
theorem dX0_begin_52 : decode cX0_begin 52 = .ok (.baload, 1) := dk_51 (dk_at dksX0_begin_2 6 rfl rfl)
theorem dX0_begin_53 : decode cX0_begin 53 = .ok (.bastore, 1) := dk_84 (dk_at dksX0_begin_2 7 rfl rfl)
theorem dX0_begin_54 : decode cX0_begin 54 = .ok (.iinc 4 1, 3) := dk_132 4 1 (dk_at dksX0_begin_2 8 rfl rfl)
theorem dX0_begin_57 : decode cX0_begin 57 = .ok (.goto (-21), 3) := dk_167 255 235 (dk_at dksX0_begin_2 11 rfl rfl)
theorem dX0_begin_60 : decode cX0_begin 60 = .ok (.new 42, 3) := dk_187 0 42 (dk_at dksX0_begin_2 14 rfl rfl)
theorem dX0_begin_63 : decode cX0_begin 63 = .ok (.dup, 1) := dk_89 (dk_at dksX0_begin_2 17 rfl rfl)
theorem dX0_begin_64 : decode cX0_begin 64 = .ok (.new 44, 3) := dk_187 0 44 (dk_at dksX0_begin_2 18 rfl rfl)
theorem dX0_begin_67 : decode cX0_begin 67 = .ok (.dup, 1) := dk_89 (dk_at dksX0_begin_2 21 rfl rfl)
theorem dX0_begin_68 : decode cX0_begin 68 = .ok (.aload_n 2, 1) := dk_44 (dk_at dksX0_begin_2 22 rfl rfl)
theorem dX0_begin_69 : decode cX0_begin 69 = .ok (.invokespecial 46, 3) := dk_183 0 46 (dk_at dksX0_begin_3 0 rfl rfl)
theorem dX0_begin_72 : decode cX0_begin 72 = .ok (.aload_n 3, 1) := dk_45 (dk_at dksX0_begin_3 3 rfl rfl)
theorem dX0_begin_73 : decode cX0_begin 73 = .ok (.invokespecial 49, 3) := dk_183 0 49 (dk_at dksX0_begin_3 4 rfl rfl)
theorem dX0_begin_76 : decode cX0_begin 76 = .ok (.astore 4, 2) := dk_58 4 (dk_at dksX0_begin_3 7 rfl rfl)
theorem dX0_begin_78 : decode cX0_begin 78 = .ok (.aload_n 0, 1) := dk_42 (dk_at dksX0_begin_3 9 rfl rfl)
theorem dX0_begin_79 : decode cX0_begin 79 = .ok (.new 7, 3) := dk_187 0 7 (dk_at dksX0_begin_3 10 rfl rfl)
theorem dX0_begin_82 : decode cX0_begin 82 = .ok (.dup, 1) := dk_89 (dk_at dksX0_begin_3 13 rfl rfl)
theorem dX0_begin_83 : decode cX0_begin 83 = .ok (.invokespecial 9, 3) := dk_183 0 9 (dk_at dksX0_begin_3 14 rfl rfl)
theorem dX0_begin_86 : decode cX0_begin 86 = .ok (.putfield 10, 3) := dk_181 0 10 (dk_at dksX0_begin_3 17 rfl rfl)
theorem dX0_begin_89 : decode cX0_begin 89 = .ok (.aload_n 0, 1) := dk_42 (dk_at dksX0_begin_3 20 rfl rfl)
theorem dX0_begin_90 : decode cX0_begin 90 = .ok (.getfield 10, 3) := dk_180 0 10 (dk_at dksX0_begin_3 21 rfl rfl)
theorem dX0_begin_93 : decode cX0_begin 93 = .ok (.iconst 1, 1) := dk_4 (dk_at dksX0_begin_4 0 rfl rfl)
theorem dX0_begin_94 : decode cX0_begin 94 = .ok (.aload 4, 2) := dk_25 4 (dk_at dksX0_begin_4 1 rfl rfl)
theorem dX0_begin_96 : decode cX0_begin 96 = .ok (.invokevirtual 52, 3) := dk_182 0 52 (dk_at dksX0_begin_4 3 rfl rfl)
theorem dX0_begin_99 : decode cX0_begin 99 = .ok (.aload_n 0, 1) := dk_42 (dk_at dksX0_begin_4 6 rfl rfl)
theorem dX0_begin_100 : decode cX0_begin 100 = .ok (.iconst 1, 1) := dk_4 (dk_at dksX0_begin_4 7 rfl rfl)
theorem dX0_begin_101 : decode cX0_begin 101 = .ok (.putfield 56, 3) := dk_181 0 56 (dk_at dksX0_begin_4 8 rfl rfl)
theorem dX0_begin_104 : decode cX0_begin 104 = .ok (.aload_n 0, 1) := dk_42 (dk_at dksX0_begin_4 11 rfl rfl)
theorem dX0_begin_105 : decode cX0_begin 105 = .ok (.iconst 0, 1) := dk_3 (dk_at dksX0_begin_4 12 rfl rfl)
theorem dX0_begin_106 : decode cX0_begin 106 = .ok (.putfield 60, 3) := dk_181 0 60 (dk_at dksX0_begin_4 13 rfl rfl)
theorem dX0_begin_109 : decode cX0_begin 109 = .ok (.return_, 1) := dk_177 (dk_at dksX0_begin_4 16 rfl rfl)
abbrev cX0_run : ByteArray := prog_8_method_10_code
def yX0_run : MethodName := ⟨RX0, "run", "(II)I"⟩
def dkwX0_run_3 : List UInt8 := [182, 0, 67, 87, 42, 25, 5, 181, 0, 26, 21, 4, 172]
abbrev dktX0_run_3 : List UInt8 := dkwX0_run_3 ++ []
def dkwX0_run_2 : List UInt8 := [181, 0, 60, 21, 4, 188, 8, 58, 5, 42, 180, 0, 10, 42, 180, 0, 23, 29, 21, 4, 25, 5, 3]
abbrev dktX0_run_2 : List UInt8 := dkwX0_run_2 ++ dktX0_run_3
def dkwX0_run_1 : List UInt8 := [180, 0, 60, 21, 4, 96, 17, 4, 0, 164, 0, 6, 16, 254, 172, 42, 89, 180, 0, 60, 21, 4, 96]
abbrev dktX0_run_1 : List UInt8 := dkwX0_run_1 ++ dktX0_run_2
def dkwX0_run_0 : List UInt8 := [42, 180, 0, 56, 154, 0, 5, 2, 172, 42, 27, 182, 0, 37, 62, 42, 29, 28, 182, 0, 63, 54, 4, 42]
abbrev dktX0_run_0 : List UInt8 := dkwX0_run_0 ++ dktX0_run_1
theorem dksX0_run_0 : cX0_run.data.toList.drop 0 = dktX0_run_0 := by decide +kernel
theorem dksX0_run_1 : cX0_run.data.toList.drop 24 = dktX0_run_1 := dk_seg dksX0_run_0 24 rfl rfl
theorem dksX0_run_2 : cX0_run.data.toList.drop 47 = dktX0_run_2 := dk_seg dksX0_run_1 23 rfl rfl
theorem dksX0_run_3 : cX0_run.data.toList.drop 70 = dktX0_run_3 := dk_seg dksX0_run_2 23 rfl rfl
theorem dX0_run_0 : decode cX0_run 0 = .ok (.aload_n 0, 1) := dk_42 (dk_at dksX0_run_0 0 rfl rfl)
theorem dX0_run_1 : decode cX0_run 1 = .ok (.getfield 56, 3) := dk_180 0 56 (dk_at dksX0_run_0 1 rfl rfl)
theorem dX0_run_4 : decode cX0_run 4 = .ok (.ifCond .ne 5, 3) := dk_154 0 5 (dk_at dksX0_run_0 4 rfl rfl)
theorem dX0_run_7 : decode cX0_run 7 = .ok (.iconst (-1), 1) := dk_2 (dk_at dksX0_run_0 7 rfl rfl)
theorem dX0_run_8 : decode cX0_run 8 = .ok (.ireturn, 1) := dk_172 (dk_at dksX0_run_0 8 rfl rfl)
theorem dX0_run_9 : decode cX0_run 9 = .ok (.aload_n 0, 1) := dk_42 (dk_at dksX0_run_0 9 rfl rfl)
theorem dX0_run_10 : decode cX0_run 10 = .ok (.iload_n 1, 1) := dk_27 (dk_at dksX0_run_0 10 rfl rfl)
theorem dX0_run_11 : decode cX0_run 11 = .ok (.invokevirtual 37, 3) := dk_182 0 37 (dk_at dksX0_run_0 11 rfl rfl)
theorem dX0_run_14 : decode cX0_run 14 = .ok (.istore_n 3, 1) := dk_62 (dk_at dksX0_run_0 14 rfl rfl)
theorem dX0_run_15 : decode cX0_run 15 = .ok (.aload_n 0, 1) := dk_42 (dk_at dksX0_run_0 15 rfl rfl)
theorem dX0_run_16 : decode cX0_run 16 = .ok (.iload_n 3, 1) := dk_29 (dk_at dksX0_run_0 16 rfl rfl)
theorem dX0_run_17 : decode cX0_run 17 = .ok (.iload_n 2, 1) := dk_28 (dk_at dksX0_run_0 17 rfl rfl)
theorem dX0_run_18 : decode cX0_run 18 = .ok (.invokevirtual 63, 3) := dk_182 0 63 (dk_at dksX0_run_0 18 rfl rfl)
theorem dX0_run_21 : decode cX0_run 21 = .ok (.istore 4, 2) := dk_54 4 (dk_at dksX0_run_0 21 rfl rfl)
theorem dX0_run_23 : decode cX0_run 23 = .ok (.aload_n 0, 1) := dk_42 (dk_at dksX0_run_0 23 rfl rfl)
theorem dX0_run_24 : decode cX0_run 24 = .ok (.getfield 60, 3) := dk_180 0 60 (dk_at dksX0_run_1 0 rfl rfl)
theorem dX0_run_27 : decode cX0_run 27 = .ok (.iload 4, 2) := dk_21 4 (dk_at dksX0_run_1 3 rfl rfl)
theorem dX0_run_29 : decode cX0_run 29 = .ok (.iadd, 1) := dk_96 (dk_at dksX0_run_1 5 rfl rfl)
theorem dX0_run_30 : decode cX0_run 30 = .ok (.sipush 1024, 3) := dk_17 4 0 (dk_at dksX0_run_1 6 rfl rfl)
theorem dX0_run_33 : decode cX0_run 33 = .ok (.if_icmp .le 6, 3) := dk_164 0 6 (dk_at dksX0_run_1 9 rfl rfl)
theorem dX0_run_36 : decode cX0_run 36 = .ok (.bipush (-2), 2) := dk_16 254 (dk_at dksX0_run_1 12 rfl rfl)
theorem dX0_run_38 : decode cX0_run 38 = .ok (.ireturn, 1) := dk_172 (dk_at dksX0_run_1 14 rfl rfl)
theorem dX0_run_39 : decode cX0_run 39 = .ok (.aload_n 0, 1) := dk_42 (dk_at dksX0_run_1 15 rfl rfl)
theorem dX0_run_40 : decode cX0_run 40 = .ok (.dup, 1) := dk_89 (dk_at dksX0_run_1 16 rfl rfl)
theorem dX0_run_41 : decode cX0_run 41 = .ok (.getfield 60, 3) := dk_180 0 60 (dk_at dksX0_run_1 17 rfl rfl)
theorem dX0_run_44 : decode cX0_run 44 = .ok (.iload 4, 2) := dk_21 4 (dk_at dksX0_run_1 20 rfl rfl)
theorem dX0_run_46 : decode cX0_run 46 = .ok (.iadd, 1) := dk_96 (dk_at dksX0_run_1 22 rfl rfl)
theorem dX0_run_47 : decode cX0_run 47 = .ok (.putfield 60, 3) := dk_181 0 60 (dk_at dksX0_run_2 0 rfl rfl)
theorem dX0_run_50 : decode cX0_run 50 = .ok (.iload 4, 2) := dk_21 4 (dk_at dksX0_run_2 3 rfl rfl)
theorem dX0_run_52 : decode cX0_run 52 = .ok (.newarray .byte, 2) := dk_188_8 (dk_at dksX0_run_2 5 rfl rfl)
theorem dX0_run_54 : decode cX0_run 54 = .ok (.astore 5, 2) := dk_58 5 (dk_at dksX0_run_2 7 rfl rfl)
theorem dX0_run_56 : decode cX0_run 56 = .ok (.aload_n 0, 1) := dk_42 (dk_at dksX0_run_2 9 rfl rfl)
theorem dX0_run_57 : decode cX0_run 57 = .ok (.getfield 10, 3) := dk_180 0 10 (dk_at dksX0_run_2 10 rfl rfl)
theorem dX0_run_60 : decode cX0_run 60 = .ok (.aload_n 0, 1) := dk_42 (dk_at dksX0_run_2 13 rfl rfl)
theorem dX0_run_61 : decode cX0_run 61 = .ok (.getfield 23, 3) := dk_180 0 23 (dk_at dksX0_run_2 14 rfl rfl)
theorem dX0_run_64 : decode cX0_run 64 = .ok (.iload_n 3, 1) := dk_29 (dk_at dksX0_run_2 17 rfl rfl)
theorem dX0_run_65 : decode cX0_run 65 = .ok (.iload 4, 2) := dk_21 4 (dk_at dksX0_run_2 18 rfl rfl)
theorem dX0_run_67 : decode cX0_run 67 = .ok (.aload 5, 2) := dk_25 5 (dk_at dksX0_run_2 20 rfl rfl)
theorem dX0_run_69 : decode cX0_run 69 = .ok (.iconst 0, 1) := dk_3 (dk_at dksX0_run_2 22 rfl rfl)
theorem dX0_run_70 : decode cX0_run 70 = .ok (.invokevirtual 67, 3) := dk_182 0 67 (dk_at dksX0_run_3 0 rfl rfl)
theorem dX0_run_73 : decode cX0_run 73 = .ok (.pop, 1) := dk_87 (dk_at dksX0_run_3 3 rfl rfl)
theorem dX0_run_74 : decode cX0_run 74 = .ok (.aload_n 0, 1) := dk_42 (dk_at dksX0_run_3 4 rfl rfl)
theorem dX0_run_75 : decode cX0_run 75 = .ok (.aload 5, 2) := dk_25 5 (dk_at dksX0_run_3 5 rfl rfl)
theorem dX0_run_77 : decode cX0_run 77 = .ok (.putfield 26, 3) := dk_181 0 26 (dk_at dksX0_run_3 7 rfl rfl)
theorem dX0_run_80 : decode cX0_run 80 = .ok (.iload 4, 2) := dk_21 4 (dk_at dksX0_run_3 10 rfl rfl)
theorem dX0_run_82 : decode cX0_run 82 = .ok (.ireturn, 1) := dk_172 (dk_at dksX0_run_3 12 rfl rfl)
abbrev cX0_count : ByteArray := prog_8_method_6_code
def yX0_count : MethodName := ⟨RX0, "count", "(II)I"⟩
def dkwX0_count_0 : List UInt8 := [28, 18, 41, 126, 42, 180, 0, 29, 27, 100, 4, 96, 112, 172]
abbrev dktX0_count_0 : List UInt8 := dkwX0_count_0 ++ []
theorem dksX0_count_0 : cX0_count.data.toList.drop 0 = dktX0_count_0 := by decide +kernel
theorem dX0_count_0 : decode cX0_count 0 = .ok (.iload_n 2, 1) := dk_28 (dk_at dksX0_count_0 0 rfl rfl)
theorem dX0_count_1 : decode cX0_count 1 = .ok (.ldc 41, 2) := dk_18 41 (dk_at dksX0_count_0 1 rfl rfl)
theorem dX0_count_3 : decode cX0_count 3 = .ok (.iand, 1) := dk_126 (dk_at dksX0_count_0 3 rfl rfl)
theorem dX0_count_4 : decode cX0_count 4 = .ok (.aload_n 0, 1) := dk_42 (dk_at dksX0_count_0 4 rfl rfl)
theorem dX0_count_5 : decode cX0_count 5 = .ok (.getfield 29, 3) := dk_180 0 29 (dk_at dksX0_count_0 5 rfl rfl)
theorem dX0_count_8 : decode cX0_count 8 = .ok (.iload_n 1, 1) := dk_27 (dk_at dksX0_count_0 8 rfl rfl)
theorem dX0_count_9 : decode cX0_count 9 = .ok (.isub, 1) := dk_100 (dk_at dksX0_count_0 9 rfl rfl)
theorem dX0_count_10 : decode cX0_count 10 = .ok (.iconst 1, 1) := dk_4 (dk_at dksX0_count_0 10 rfl rfl)
theorem dX0_count_11 : decode cX0_count 11 = .ok (.iadd, 1) := dk_96 (dk_at dksX0_count_0 11 rfl rfl)
theorem dX0_count_12 : decode cX0_count 12 = .ok (.irem, 1) := dk_112 (dk_at dksX0_count_0 12 rfl rfl)
theorem dX0_count_13 : decode cX0_count 13 = .ok (.ireturn, 1) := dk_172 (dk_at dksX0_count_0 13 rfl rfl)
abbrev cX0_one : ByteArray := prog_8_method_11_code
def yX0_one : MethodName := ⟨RX0, "one", "(I)I"⟩
def dkwX0_one_1 : List UInt8 := [180, 0, 60, 4, 96, 181, 0, 60, 42, 180, 0, 10, 27, 145, 182, 0, 71, 17, 0, 255, 126, 172]
abbrev dktX0_one_1 : List UInt8 := dkwX0_one_1 ++ []
def dkwX0_one_0 : List UInt8 := [42, 180, 0, 56, 154, 0, 5, 2, 172, 42, 180, 0, 60, 17, 4, 0, 161, 0, 6, 16, 254, 172, 42, 89]
abbrev dktX0_one_0 : List UInt8 := dkwX0_one_0 ++ dktX0_one_1
theorem dksX0_one_0 : cX0_one.data.toList.drop 0 = dktX0_one_0 := by decide +kernel
theorem dksX0_one_1 : cX0_one.data.toList.drop 24 = dktX0_one_1 := dk_seg dksX0_one_0 24 rfl rfl
theorem dX0_one_0 : decode cX0_one 0 = .ok (.aload_n 0, 1) := dk_42 (dk_at dksX0_one_0 0 rfl rfl)
theorem dX0_one_1 : decode cX0_one 1 = .ok (.getfield 56, 3) := dk_180 0 56 (dk_at dksX0_one_0 1 rfl rfl)
theorem dX0_one_4 : decode cX0_one 4 = .ok (.ifCond .ne 5, 3) := dk_154 0 5 (dk_at dksX0_one_0 4 rfl rfl)
theorem dX0_one_7 : decode cX0_one 7 = .ok (.iconst (-1), 1) := dk_2 (dk_at dksX0_one_0 7 rfl rfl)
theorem dX0_one_8 : decode cX0_one 8 = .ok (.ireturn, 1) := dk_172 (dk_at dksX0_one_0 8 rfl rfl)
theorem dX0_one_9 : decode cX0_one 9 = .ok (.aload_n 0, 1) := dk_42 (dk_at dksX0_one_0 9 rfl rfl)
theorem dX0_one_10 : decode cX0_one 10 = .ok (.getfield 60, 3) := dk_180 0 60 (dk_at dksX0_one_0 10 rfl rfl)
theorem dX0_one_13 : decode cX0_one 13 = .ok (.sipush 1024, 3) := dk_17 4 0 (dk_at dksX0_one_0 13 rfl rfl)
theorem dX0_one_16 : decode cX0_one 16 = .ok (.if_icmp .lt 6, 3) := dk_161 0 6 (dk_at dksX0_one_0 16 rfl rfl)
theorem dX0_one_19 : decode cX0_one 19 = .ok (.bipush (-2), 2) := dk_16 254 (dk_at dksX0_one_0 19 rfl rfl)
theorem dX0_one_21 : decode cX0_one 21 = .ok (.ireturn, 1) := dk_172 (dk_at dksX0_one_0 21 rfl rfl)
theorem dX0_one_22 : decode cX0_one 22 = .ok (.aload_n 0, 1) := dk_42 (dk_at dksX0_one_0 22 rfl rfl)
theorem dX0_one_23 : decode cX0_one 23 = .ok (.dup, 1) := dk_89 (dk_at dksX0_one_0 23 rfl rfl)
theorem dX0_one_24 : decode cX0_one 24 = .ok (.getfield 60, 3) := dk_180 0 60 (dk_at dksX0_one_1 0 rfl rfl)
theorem dX0_one_27 : decode cX0_one 27 = .ok (.iconst 1, 1) := dk_4 (dk_at dksX0_one_1 3 rfl rfl)
theorem dX0_one_28 : decode cX0_one 28 = .ok (.iadd, 1) := dk_96 (dk_at dksX0_one_1 4 rfl rfl)
theorem dX0_one_29 : decode cX0_one 29 = .ok (.putfield 60, 3) := dk_181 0 60 (dk_at dksX0_one_1 5 rfl rfl)
theorem dX0_one_32 : decode cX0_one 32 = .ok (.aload_n 0, 1) := dk_42 (dk_at dksX0_one_1 8 rfl rfl)
theorem dX0_one_33 : decode cX0_one 33 = .ok (.getfield 10, 3) := dk_180 0 10 (dk_at dksX0_one_1 9 rfl rfl)
theorem dX0_one_36 : decode cX0_one 36 = .ok (.iload_n 1, 1) := dk_27 (dk_at dksX0_one_1 12 rfl rfl)
theorem dX0_one_37 : decode cX0_one 37 = .ok (.i2b, 1) := dk_145 (dk_at dksX0_one_1 13 rfl rfl)
theorem dX0_one_38 : decode cX0_one 38 = .ok (.invokevirtual 71, 3) := dk_182 0 71 (dk_at dksX0_one_1 14 rfl rfl)
theorem dX0_one_41 : decode cX0_one 41 = .ok (.sipush 255, 3) := dk_17 0 255 (dk_at dksX0_one_1 17 rfl rfl)
theorem dX0_one_44 : decode cX0_one 44 = .ok (.iand, 1) := dk_126 (dk_at dksX0_one_1 20 rfl rfl)
theorem dX0_one_45 : decode cX0_one 45 = .ok (.ireturn, 1) := dk_172 (dk_at dksX0_one_1 21 rfl rfl)
abbrev cX0_again : ByteArray := prog_8_method_12_code
def yX0_again : MethodName := ⟨RX0, "again", "()V"⟩
def dkwX0_again_0 : List UInt8 := [42, 180, 0, 56, 153, 0, 15, 42, 180, 0, 10, 182, 0, 75, 42, 3, 181, 0, 60, 177]
abbrev dktX0_again_0 : List UInt8 := dkwX0_again_0 ++ []
theorem dksX0_again_0 : cX0_again.data.toList.drop 0 = dktX0_again_0 := by decide +kernel
theorem dX0_again_0 : decode cX0_again 0 = .ok (.aload_n 0, 1) := dk_42 (dk_at dksX0_again_0 0 rfl rfl)
theorem dX0_again_1 : decode cX0_again 1 = .ok (.getfield 56, 3) := dk_180 0 56 (dk_at dksX0_again_0 1 rfl rfl)
theorem dX0_again_4 : decode cX0_again 4 = .ok (.ifCond .eq 15, 3) := dk_153 0 15 (dk_at dksX0_again_0 4 rfl rfl)
theorem dX0_again_7 : decode cX0_again 7 = .ok (.aload_n 0, 1) := dk_42 (dk_at dksX0_again_0 7 rfl rfl)
theorem dX0_again_8 : decode cX0_again 8 = .ok (.getfield 10, 3) := dk_180 0 10 (dk_at dksX0_again_0 8 rfl rfl)
theorem dX0_again_11 : decode cX0_again 11 = .ok (.invokevirtual 75, 3) := dk_182 0 75 (dk_at dksX0_again_0 11 rfl rfl)
theorem dX0_again_14 : decode cX0_again 14 = .ok (.aload_n 0, 1) := dk_42 (dk_at dksX0_again_0 14 rfl rfl)
theorem dX0_again_15 : decode cX0_again 15 = .ok (.iconst 0, 1) := dk_3 (dk_at dksX0_again_0 15 rfl rfl)
theorem dX0_again_16 : decode cX0_again 16 = .ok (.putfield 60, 3) := dk_181 0 60 (dk_at dksX0_again_0 16 rfl rfl)
theorem dX0_again_19 : decode cX0_again 19 = .ok (.return_, 1) := dk_177 (dk_at dksX0_again_0 19 rfl rfl)
abbrev cX0_out : ByteArray := prog_8_method_13_code
def yX0_out : MethodName := ⟨RX0, "out", "(I)I"⟩
def dkwX0_out_1 : List UInt8 := [190, 112, 51, 17, 0, 255, 126, 172]
abbrev dktX0_out_1 : List UInt8 := dkwX0_out_1 ++ []
def dkwX0_out_0 : List UInt8 := [42, 180, 0, 26, 190, 154, 0, 7, 2, 167, 0, 22, 42, 180, 0, 26, 27, 18, 41, 126, 42, 180, 0, 26]
abbrev dktX0_out_0 : List UInt8 := dkwX0_out_0 ++ dktX0_out_1
theorem dksX0_out_0 : cX0_out.data.toList.drop 0 = dktX0_out_0 := by decide +kernel
theorem dksX0_out_1 : cX0_out.data.toList.drop 24 = dktX0_out_1 := dk_seg dksX0_out_0 24 rfl rfl
theorem dX0_out_0 : decode cX0_out 0 = .ok (.aload_n 0, 1) := dk_42 (dk_at dksX0_out_0 0 rfl rfl)
theorem dX0_out_1 : decode cX0_out 1 = .ok (.getfield 26, 3) := dk_180 0 26 (dk_at dksX0_out_0 1 rfl rfl)
theorem dX0_out_4 : decode cX0_out 4 = .ok (.arraylength, 1) := dk_190 (dk_at dksX0_out_0 4 rfl rfl)
theorem dX0_out_5 : decode cX0_out 5 = .ok (.ifCond .ne 7, 3) := dk_154 0 7 (dk_at dksX0_out_0 5 rfl rfl)
theorem dX0_out_8 : decode cX0_out 8 = .ok (.iconst (-1), 1) := dk_2 (dk_at dksX0_out_0 8 rfl rfl)
theorem dX0_out_9 : decode cX0_out 9 = .ok (.goto 22, 3) := dk_167 0 22 (dk_at dksX0_out_0 9 rfl rfl)
theorem dX0_out_12 : decode cX0_out 12 = .ok (.aload_n 0, 1) := dk_42 (dk_at dksX0_out_0 12 rfl rfl)
theorem dX0_out_13 : decode cX0_out 13 = .ok (.getfield 26, 3) := dk_180 0 26 (dk_at dksX0_out_0 13 rfl rfl)
theorem dX0_out_16 : decode cX0_out 16 = .ok (.iload_n 1, 1) := dk_27 (dk_at dksX0_out_0 16 rfl rfl)
theorem dX0_out_17 : decode cX0_out 17 = .ok (.ldc 41, 2) := dk_18 41 (dk_at dksX0_out_0 17 rfl rfl)
theorem dX0_out_19 : decode cX0_out 19 = .ok (.iand, 1) := dk_126 (dk_at dksX0_out_0 19 rfl rfl)
theorem dX0_out_20 : decode cX0_out 20 = .ok (.aload_n 0, 1) := dk_42 (dk_at dksX0_out_0 20 rfl rfl)
theorem dX0_out_21 : decode cX0_out 21 = .ok (.getfield 26, 3) := dk_180 0 26 (dk_at dksX0_out_0 21 rfl rfl)
theorem dX0_out_24 : decode cX0_out 24 = .ok (.arraylength, 1) := dk_190 (dk_at dksX0_out_1 0 rfl rfl)
theorem dX0_out_25 : decode cX0_out 25 = .ok (.irem, 1) := dk_112 (dk_at dksX0_out_1 1 rfl rfl)
theorem dX0_out_26 : decode cX0_out 26 = .ok (.baload, 1) := dk_51 (dk_at dksX0_out_1 2 rfl rfl)
theorem dX0_out_27 : decode cX0_out 27 = .ok (.sipush 255, 3) := dk_17 0 255 (dk_at dksX0_out_1 3 rfl rfl)
theorem dX0_out_30 : decode cX0_out 30 = .ok (.iand, 1) := dk_126 (dk_at dksX0_out_1 6 rfl rfl)
theorem dX0_out_31 : decode cX0_out 31 = .ok (.ireturn, 1) := dk_172 (dk_at dksX0_out_1 7 rfl rfl)
theorem q9 : (Jvm.Cond.initialized "VmpcDesk") ∈ lw_all := lw_g (lw_at lw_m1 1 rfl) rfl
theorem q23 : (Jvm.Cond.instantiable "VmpcDesk" (8 : Nat)) ∈ lw_all := lw_g (lw_at lw_m1 15 rfl) rfl
theorem q25 : (Jvm.Cond.instanceMethod ({ cls := "VmpcDesk", name := "<init>", desc := "()V" } : Jvm.MethodName)) ∈ lw_all := lw_g (lw_at lw_m1 17 rfl) rfl
theorem q26 : (Jvm.Cond.code ({ cls := "VmpcDesk", name := "<init>", desc := "()V" } : Jvm.MethodName) prog_8_method_1_code (1 : Nat) (Option.none : Option Jvm.ClassFile.FieldType)) ∈ lw_all := lw_g (lw_at lw_m1 18 rfl) rfl
theorem q27 : (Jvm.Cond.methodLink "VmpcDesk" (1 : Nat) ({ cls := "java/lang/Object", name := "<init>", desc := "()V" } : Jvm.MethodName)) ∈ lw_all := lw_g (lw_at lw_m1 19 rfl) rfl
theorem q30 : (Jvm.Cond.classLink "VmpcDesk" (7 : Nat) "VMPCEngine") ∈ lw_all := lw_g (lw_at lw_m1 22 rfl) rfl
theorem q32 : (Jvm.Cond.methodLink "VmpcDesk" (9 : Nat) ({ cls := "VMPCEngine", name := "<init>", desc := "()V" } : Jvm.MethodName)) ∈ lw_all := lw_g (lw_at lw_m1 24 rfl) rfl
theorem q52 : (Jvm.Cond.fieldLink "VmpcDesk" (10 : Nat) "VmpcDesk" "run" "LVMPCEngine;") ∈ lw_all := lw_g (lw_at lw_m1 44 rfl) rfl
theorem q53 : (Jvm.Cond.fieldLink "VmpcDesk" (56 : Nat) "VmpcDesk" "set" "Z") ∈ lw_all := lw_g (lw_at lw_m1 45 rfl) rfl
theorem q54 : (Jvm.Cond.fieldLink "VmpcDesk" (60 : Nat) "VmpcDesk" "given" "I") ∈ lw_all := lw_g (lw_at lw_m1 46 rfl) rfl
theorem q55 : (Jvm.Cond.fieldLink "VmpcDesk" (16 : Nat) "VmpcDesk" "key" "[B") ∈ lw_all := lw_g (lw_at lw_m1 47 rfl) rfl
theorem q56 : (Jvm.Cond.fieldLink "VmpcDesk" (20 : Nat) "VmpcDesk" "nonce" "[B") ∈ lw_all := lw_g (lw_at lw_m1 48 rfl) rfl
theorem q57 : (Jvm.Cond.fieldLink "VmpcDesk" (23 : Nat) "VmpcDesk" "text" "[B") ∈ lw_all := lw_g (lw_at lw_m1 49 rfl) rfl
theorem q58 : (Jvm.Cond.fieldLink "VmpcDesk" (29 : Nat) "VmpcDesk" "size" "I") ∈ lw_all := lw_g (lw_at lw_m1 50 rfl) rfl
theorem q59 : (Jvm.Cond.fieldLink "VmpcDesk" (26 : Nat) "VmpcDesk" "out" "[B") ∈ lw_all := lw_g (lw_at lw_m1 51 rfl) rfl
theorem q60 : (Jvm.Cond.lays "VmpcDesk" "VmpcDesk" "run" "LVMPCEngine;") ∈ lw_all := lw_g (lw_at lw_m1 52 rfl) rfl
theorem q61 : (Jvm.Cond.soleField "VmpcDesk" "run") ∈ lw_all := lw_g (lw_at lw_m1 53 rfl) rfl
theorem q62 : (Jvm.Cond.lays "VmpcDesk" "VmpcDesk" "set" "Z") ∈ lw_all := lw_g (lw_at lw_m1 54 rfl) rfl
theorem q63 : (Jvm.Cond.soleField "VmpcDesk" "set") ∈ lw_all := lw_g (lw_at lw_m1 55 rfl) rfl
theorem q64 : (Jvm.Cond.lays "VmpcDesk" "VmpcDesk" "given" "I") ∈ lw_all := lw_g (lw_at lw_m1 56 rfl) rfl
theorem q65 : (Jvm.Cond.soleField "VmpcDesk" "given") ∈ lw_all := lw_g (lw_at lw_m1 57 rfl) rfl
theorem q66 : (Jvm.Cond.laysFinal "VmpcDesk" "VmpcDesk" "key" "[B") ∈ lw_all := lw_g (lw_at lw_m1 58 rfl) rfl
theorem q67 : (Jvm.Cond.soleField "VmpcDesk" "key") ∈ lw_all := lw_g (lw_at lw_m1 59 rfl) rfl
theorem q68 : (Jvm.Cond.laysFinal "VmpcDesk" "VmpcDesk" "nonce" "[B") ∈ lw_all := lw_g (lw_at lw_m1 60 rfl) rfl
theorem q69 : (Jvm.Cond.soleField "VmpcDesk" "nonce") ∈ lw_all := lw_g (lw_at lw_m1 61 rfl) rfl
theorem q70 : (Jvm.Cond.laysFinal "VmpcDesk" "VmpcDesk" "text" "[B") ∈ lw_all := lw_g (lw_at lw_m1 62 rfl) rfl
theorem q71 : (Jvm.Cond.soleField "VmpcDesk" "text") ∈ lw_all := lw_g (lw_at lw_m1 63 rfl) rfl
theorem q72 : (Jvm.Cond.lays "VmpcDesk" "VmpcDesk" "size" "I") ∈ lw_all := lw_g (lw_at lw_m1 64 rfl) rfl
theorem q73 : (Jvm.Cond.soleField "VmpcDesk" "size") ∈ lw_all := lw_g (lw_at lw_m1 65 rfl) rfl
theorem q74 : (Jvm.Cond.lays "VmpcDesk" "VmpcDesk" "out" "[B") ∈ lw_all := lw_g (lw_at lw_m1 66 rfl) rfl
theorem q75 : (Jvm.Cond.soleField "VmpcDesk" "out") ∈ lw_all := lw_g (lw_at lw_m1 67 rfl) rfl
theorem q76 : (Jvm.Cond.superclass "VmpcDesk" "java/lang/Object") ∈ lw_all := lw_g (lw_at lw_m1 68 rfl) rfl
theorem q79 : (Jvm.Cond.instanceMethod ({ cls := "VmpcDesk", name := "put", desc := "(IIII)Z" } : Jvm.MethodName)) ∈ lw_all := lw_g (lw_at lw_m1 71 rfl) rfl
theorem q80 : (Jvm.Cond.selects "VmpcDesk" ({ cls := "VmpcDesk", name := "put", desc := "(IIII)Z" } : Jvm.MethodName) ({ cls := "VmpcDesk", name := "put", desc := "(IIII)Z" } : Jvm.MethodName)) ∈ lw_all := lw_g (lw_at lw_m1 72 rfl) rfl
theorem q81 : (Jvm.Cond.code ({ cls := "VmpcDesk", name := "put", desc := "(IIII)Z" } : Jvm.MethodName) prog_8_method_2_code (5 : Nat) (Option.some Jvm.ClassFile.FieldType.boolean)) ∈ lw_all := lw_g (lw_at lw_m1 73 rfl) rfl
theorem q82 : (Jvm.Cond.methodLink "VmpcDesk" (33 : Nat) ({ cls := "VmpcDesk", name := "word", desc := "([BII)V" } : Jvm.MethodName)) ∈ lw_all := lw_g (lw_at lw_m1 74 rfl) rfl
theorem q83 : (Jvm.Cond.static ({ cls := "VmpcDesk", name := "word", desc := "([BII)V" } : Jvm.MethodName)) ∈ lw_all := lw_g (lw_at lw_m1 75 rfl) rfl
theorem q84 : (Jvm.Cond.code ({ cls := "VmpcDesk", name := "word", desc := "([BII)V" } : Jvm.MethodName) prog_8_method_3_code (3 : Nat) (Option.none : Option Jvm.ClassFile.FieldType)) ∈ lw_all := lw_g (lw_at lw_m1 76 rfl) rfl
theorem q86 : (Jvm.Cond.instanceMethod ({ cls := "VmpcDesk", name := "trim", desc := "(I)V" } : Jvm.MethodName)) ∈ lw_all := lw_g (lw_at lw_m1 78 rfl) rfl
theorem q87 : (Jvm.Cond.selects "VmpcDesk" ({ cls := "VmpcDesk", name := "trim", desc := "(I)V" } : Jvm.MethodName) ({ cls := "VmpcDesk", name := "trim", desc := "(I)V" } : Jvm.MethodName)) ∈ lw_all := lw_g (lw_at lw_m1 79 rfl) rfl
theorem q88 : (Jvm.Cond.code ({ cls := "VmpcDesk", name := "trim", desc := "(I)V" } : Jvm.MethodName) prog_8_method_4_code (2 : Nat) (Option.none : Option Jvm.ClassFile.FieldType)) ∈ lw_all := lw_g (lw_at lw_m1 80 rfl) rfl
theorem q89 : (Jvm.Cond.methodLink "VmpcDesk" (37 : Nat) ({ cls := "VmpcDesk", name := "from", desc := "(I)I" } : Jvm.MethodName)) ∈ lw_all := lw_g (lw_at lw_m1 81 rfl) rfl
theorem q90 : (Jvm.Cond.privateMethod ({ cls := "VmpcDesk", name := "from", desc := "(I)I" } : Jvm.MethodName)) ∈ lw_tbl := lw_at lw_m1 82 rfl
theorem q91 : (Jvm.Cond.instanceMethod ({ cls := "VmpcDesk", name := "from", desc := "(I)I" } : Jvm.MethodName)) ∈ lw_all := lw_g (lw_at lw_m1 83 rfl) rfl
theorem q92 : (Jvm.Cond.code ({ cls := "VmpcDesk", name := "from", desc := "(I)I" } : Jvm.MethodName) prog_8_method_5_code (2 : Nat) (Option.some Jvm.ClassFile.FieldType.int)) ∈ lw_all := lw_g (lw_at lw_m1 84 rfl) rfl
theorem q93 : (Jvm.Cond.constant "VmpcDesk" (41 : Nat) (2147483647 : Int32)) ∈ lw_all := lw_g (lw_at lw_m1 85 rfl) rfl
theorem q95 : (Jvm.Cond.instanceMethod ({ cls := "VmpcDesk", name := "key", desc := "(IIIII)V" } : Jvm.MethodName)) ∈ lw_all := lw_g (lw_at lw_m1 87 rfl) rfl
theorem q96 : (Jvm.Cond.selects "VmpcDesk" ({ cls := "VmpcDesk", name := "key", desc := "(IIIII)V" } : Jvm.MethodName) ({ cls := "VmpcDesk", name := "key", desc := "(IIIII)V" } : Jvm.MethodName)) ∈ lw_all := lw_g (lw_at lw_m1 88 rfl) rfl
theorem q97 : (Jvm.Cond.code ({ cls := "VmpcDesk", name := "key", desc := "(IIIII)V" } : Jvm.MethodName) prog_8_method_7_code (7 : Nat) (Option.none : Option Jvm.ClassFile.FieldType)) ∈ lw_all := lw_g (lw_at lw_m1 89 rfl) rfl
theorem q99 : (Jvm.Cond.instanceMethod ({ cls := "VmpcDesk", name := "nonce", desc := "(IIIII)V" } : Jvm.MethodName)) ∈ lw_all := lw_g (lw_at lw_m1 91 rfl) rfl
theorem q100 : (Jvm.Cond.selects "VmpcDesk" ({ cls := "VmpcDesk", name := "nonce", desc := "(IIIII)V" } : Jvm.MethodName) ({ cls := "VmpcDesk", name := "nonce", desc := "(IIIII)V" } : Jvm.MethodName)) ∈ lw_all := lw_g (lw_at lw_m1 92 rfl) rfl
theorem q101 : (Jvm.Cond.code ({ cls := "VmpcDesk", name := "nonce", desc := "(IIIII)V" } : Jvm.MethodName) prog_8_method_8_code (7 : Nat) (Option.none : Option Jvm.ClassFile.FieldType)) ∈ lw_all := lw_g (lw_at lw_m1 93 rfl) rfl
theorem q103 : (Jvm.Cond.instanceMethod ({ cls := "VmpcDesk", name := "begin", desc := "(I)V" } : Jvm.MethodName)) ∈ lw_all := lw_g (lw_at lw_m1 95 rfl) rfl
theorem q104 : (Jvm.Cond.selects "VmpcDesk" ({ cls := "VmpcDesk", name := "begin", desc := "(I)V" } : Jvm.MethodName) ({ cls := "VmpcDesk", name := "begin", desc := "(I)V" } : Jvm.MethodName)) ∈ lw_all := lw_g (lw_at lw_m1 96 rfl) rfl
theorem q105 : (Jvm.Cond.code ({ cls := "VmpcDesk", name := "begin", desc := "(I)V" } : Jvm.MethodName) prog_8_method_9_code (5 : Nat) (Option.none : Option Jvm.ClassFile.FieldType)) ∈ lw_all := lw_g (lw_at lw_m1 97 rfl) rfl
theorem q106 : (Jvm.Cond.classLink "VmpcDesk" (42 : Nat) "ParametersWithIV") ∈ lw_all := lw_g (lw_at lw_m1 98 rfl) rfl
theorem q108 : (Jvm.Cond.classLink "VmpcDesk" (44 : Nat) "KeyParameter") ∈ lw_all := lw_g (lw_at lw_m1 100 rfl) rfl
theorem q110 : (Jvm.Cond.methodLink "VmpcDesk" (46 : Nat) ({ cls := "KeyParameter", name := "<init>", desc := "([B)V" } : Jvm.MethodName)) ∈ lw_all := lw_g (lw_at lw_m1 102 rfl) rfl
theorem q127 : (Jvm.Cond.methodLink "VmpcDesk" (49 : Nat) ({ cls := "ParametersWithIV", name := "<init>", desc := "(LCipherParameters;[B)V" } : Jvm.MethodName)) ∈ lw_all := lw_g (lw_at lw_m1 119 rfl) rfl
theorem q142 : (Jvm.Cond.methodLink "VmpcDesk" (52 : Nat) ({ cls := "VMPCEngine", name := "init", desc := "(ZLCipherParameters;)V" } : Jvm.MethodName)) ∈ lw_all := lw_g (lw_at lw_m1 134 rfl) rfl
theorem q234 : (Jvm.Cond.instanceMethod ({ cls := "VmpcDesk", name := "run", desc := "(II)I" } : Jvm.MethodName)) ∈ lw_all := lw_g (lw_at lw_m1 226 rfl) rfl
theorem q235 : (Jvm.Cond.selects "VmpcDesk" ({ cls := "VmpcDesk", name := "run", desc := "(II)I" } : Jvm.MethodName) ({ cls := "VmpcDesk", name := "run", desc := "(II)I" } : Jvm.MethodName)) ∈ lw_all := lw_g (lw_at lw_m1 227 rfl) rfl
theorem q236 : (Jvm.Cond.code ({ cls := "VmpcDesk", name := "run", desc := "(II)I" } : Jvm.MethodName) prog_8_method_10_code (6 : Nat) (Option.some Jvm.ClassFile.FieldType.int)) ∈ lw_all := lw_g (lw_at lw_m1 228 rfl) rfl
theorem q237 : (Jvm.Cond.methodLink "VmpcDesk" (63 : Nat) ({ cls := "VmpcDesk", name := "count", desc := "(II)I" } : Jvm.MethodName)) ∈ lw_all := lw_g (lw_at lw_m1 229 rfl) rfl
theorem q238 : (Jvm.Cond.privateMethod ({ cls := "VmpcDesk", name := "count", desc := "(II)I" } : Jvm.MethodName)) ∈ lw_tbl := lw_at lw_m1 230 rfl
theorem q239 : (Jvm.Cond.instanceMethod ({ cls := "VmpcDesk", name := "count", desc := "(II)I" } : Jvm.MethodName)) ∈ lw_all := lw_g (lw_at lw_m1 231 rfl) rfl
theorem q240 : (Jvm.Cond.code ({ cls := "VmpcDesk", name := "count", desc := "(II)I" } : Jvm.MethodName) prog_8_method_6_code (3 : Nat) (Option.some Jvm.ClassFile.FieldType.int)) ∈ lw_all := lw_g (lw_at lw_m1 232 rfl) rfl
theorem q241 : (Jvm.Cond.methodLink "VmpcDesk" (67 : Nat) ({ cls := "VMPCEngine", name := "processBytes", desc := "([BII[BI)I" } : Jvm.MethodName)) ∈ lw_all := lw_g (lw_at lw_m1 233 rfl) rfl
theorem q283 : (Jvm.Cond.instanceMethod ({ cls := "VmpcDesk", name := "one", desc := "(I)I" } : Jvm.MethodName)) ∈ lw_all := lw_g (lw_at lw_m2 35 rfl) rfl
theorem q284 : (Jvm.Cond.selects "VmpcDesk" ({ cls := "VmpcDesk", name := "one", desc := "(I)I" } : Jvm.MethodName) ({ cls := "VmpcDesk", name := "one", desc := "(I)I" } : Jvm.MethodName)) ∈ lw_all := lw_g (lw_at lw_m2 36 rfl) rfl
theorem q285 : (Jvm.Cond.code ({ cls := "VmpcDesk", name := "one", desc := "(I)I" } : Jvm.MethodName) prog_8_method_11_code (2 : Nat) (Option.some Jvm.ClassFile.FieldType.int)) ∈ lw_all := lw_g (lw_at lw_m2 37 rfl) rfl
theorem q286 : (Jvm.Cond.methodLink "VmpcDesk" (71 : Nat) ({ cls := "VMPCEngine", name := "returnByte", desc := "(B)B" } : Jvm.MethodName)) ∈ lw_all := lw_g (lw_at lw_m2 38 rfl) rfl
theorem q291 : (Jvm.Cond.instanceMethod ({ cls := "VmpcDesk", name := "again", desc := "()V" } : Jvm.MethodName)) ∈ lw_all := lw_g (lw_at lw_m2 43 rfl) rfl
theorem q292 : (Jvm.Cond.selects "VmpcDesk" ({ cls := "VmpcDesk", name := "again", desc := "()V" } : Jvm.MethodName) ({ cls := "VmpcDesk", name := "again", desc := "()V" } : Jvm.MethodName)) ∈ lw_all := lw_g (lw_at lw_m2 44 rfl) rfl
theorem q293 : (Jvm.Cond.code ({ cls := "VmpcDesk", name := "again", desc := "()V" } : Jvm.MethodName) prog_8_method_12_code (1 : Nat) (Option.none : Option Jvm.ClassFile.FieldType)) ∈ lw_all := lw_g (lw_at lw_m2 45 rfl) rfl
theorem q294 : (Jvm.Cond.methodLink "VmpcDesk" (75 : Nat) ({ cls := "VMPCEngine", name := "reset", desc := "()V" } : Jvm.MethodName)) ∈ lw_all := lw_g (lw_at lw_m2 46 rfl) rfl
theorem q299 : (Jvm.Cond.instanceMethod ({ cls := "VmpcDesk", name := "out", desc := "(I)I" } : Jvm.MethodName)) ∈ lw_all := lw_g (lw_at lw_m2 51 rfl) rfl
theorem q300 : (Jvm.Cond.selects "VmpcDesk" ({ cls := "VmpcDesk", name := "out", desc := "(I)I" } : Jvm.MethodName) ({ cls := "VmpcDesk", name := "out", desc := "(I)I" } : Jvm.MethodName)) ∈ lw_all := lw_g (lw_at lw_m2 52 rfl) rfl
theorem q301 : (Jvm.Cond.code ({ cls := "VmpcDesk", name := "out", desc := "(I)I" } : Jvm.MethodName) prog_8_method_13_code (2 : Nat) (Option.some Jvm.ClassFile.FieldType.int)) ∈ lw_all := lw_g (lw_at lw_m2 53 rfl) rfl
theorem in_X0 : ∀ w ∈ wsX00, w ∈ lw_all := lw_in wsX00 [60, 62, 64, 66, 68, 70, 72, 74] (by decide +kernel) (by decide +kernel)
/-! ParametersWithIV -/
set_option maxRecDepth 100000
def RX3 : String := "ParametersWithIV"
def TX3 : u_T := fun k => match k with
  | 0 => ("ParametersWithIV", "iv", "[B", false)
  | _ => ("ParametersWithIV", "parameters", "LCipherParameters;", false)
def tyX3 : Nat → FieldType := fun k => match k with
  | 0 => .array .byte
  | _ => .object "CipherParameters"
abbrev wsX30 : List Cond := u_ws RX3 TX3 2
theorem nmX3 : ∀ a, a < 2 → ∀ b, b < 2 → a ≠ b → (TX3 a).2.1 ≠ (TX3 b).2.1 := by decide +kernel
theorem tyX3_ok : ∀ k, k < 2 → parseFieldDescriptor (TX3 k).2.2.1 = some (tyX3 k) := by decide +kernel
abbrev cX3_init : ByteArray := prog_5_method_1_code
def yX3_init : MethodName := ⟨RX3, "<init>", "(LCipherParameters;[B)V"⟩
def dkwX3_init_0 : List UInt8 := [42, 43, 44, 3, 44, 190, 183, 0, 1, 177]
abbrev dktX3_init_0 : List UInt8 := dkwX3_init_0 ++ []
theorem dksX3_init_0 : cX3_init.data.toList.drop 0 = dktX3_init_0 := by decide +kernel
theorem dX3_init_0 : decode cX3_init 0 = .ok (.aload_n 0, 1) := dk_42 (dk_at dksX3_init_0 0 rfl rfl)
theorem dX3_init_1 : decode cX3_init 1 = .ok (.aload_n 1, 1) := dk_43 (dk_at dksX3_init_0 1 rfl rfl)
theorem dX3_init_2 : decode cX3_init 2 = .ok (.aload_n 2, 1) := dk_44 (dk_at dksX3_init_0 2 rfl rfl)
theorem dX3_init_3 : decode cX3_init 3 = .ok (.iconst 0, 1) := dk_3 (dk_at dksX3_init_0 3 rfl rfl)
theorem dX3_init_4 : decode cX3_init 4 = .ok (.aload_n 2, 1) := dk_44 (dk_at dksX3_init_0 4 rfl rfl)
theorem dX3_init_5 : decode cX3_init 5 = .ok (.arraylength, 1) := dk_190 (dk_at dksX3_init_0 5 rfl rfl)
theorem dX3_init_6 : decode cX3_init 6 = .ok (.invokespecial 1, 3) := dk_183 0 1 (dk_at dksX3_init_0 6 rfl rfl)
theorem dX3_init_9 : decode cX3_init 9 = .ok (.return_, 1) := dk_177 (dk_at dksX3_init_0 9 rfl rfl)
abbrev cX3_init_2 : ByteArray := prog_5_method_2_code
def yX3_init_2 : MethodName := ⟨RX3, "<init>", "(LCipherParameters;[BII)V"⟩
def dkwX3_init_2_1 : List UInt8 := [21, 4, 184, 0, 20, 177]
abbrev dktX3_init_2_1 : List UInt8 := dkwX3_init_2_1 ++ []
def dkwX3_init_2_0 : List UInt8 := [42, 183, 0, 7, 42, 21, 4, 188, 8, 181, 0, 12, 42, 43, 181, 0, 16, 44, 29, 42, 180, 0, 12, 3]
abbrev dktX3_init_2_0 : List UInt8 := dkwX3_init_2_0 ++ dktX3_init_2_1
theorem dksX3_init_2_0 : cX3_init_2.data.toList.drop 0 = dktX3_init_2_0 := by decide +kernel
theorem dksX3_init_2_1 : cX3_init_2.data.toList.drop 24 = dktX3_init_2_1 := dk_seg dksX3_init_2_0 24 rfl rfl
theorem dX3_init_2_0 : decode cX3_init_2 0 = .ok (.aload_n 0, 1) := dk_42 (dk_at dksX3_init_2_0 0 rfl rfl)
theorem dX3_init_2_1 : decode cX3_init_2 1 = .ok (.invokespecial 7, 3) := dk_183 0 7 (dk_at dksX3_init_2_0 1 rfl rfl)
theorem dX3_init_2_4 : decode cX3_init_2 4 = .ok (.aload_n 0, 1) := dk_42 (dk_at dksX3_init_2_0 4 rfl rfl)
theorem dX3_init_2_5 : decode cX3_init_2 5 = .ok (.iload 4, 2) := dk_21 4 (dk_at dksX3_init_2_0 5 rfl rfl)
theorem dX3_init_2_7 : decode cX3_init_2 7 = .ok (.newarray .byte, 2) := dk_188_8 (dk_at dksX3_init_2_0 7 rfl rfl)
theorem dX3_init_2_9 : decode cX3_init_2 9 = .ok (.putfield 12, 3) := dk_181 0 12 (dk_at dksX3_init_2_0 9 rfl rfl)
theorem dX3_init_2_12 : decode cX3_init_2 12 = .ok (.aload_n 0, 1) := dk_42 (dk_at dksX3_init_2_0 12 rfl rfl)
theorem dX3_init_2_13 : decode cX3_init_2 13 = .ok (.aload_n 1, 1) := dk_43 (dk_at dksX3_init_2_0 13 rfl rfl)
theorem dX3_init_2_14 : decode cX3_init_2 14 = .ok (.putfield 16, 3) := dk_181 0 16 (dk_at dksX3_init_2_0 14 rfl rfl)
theorem dX3_init_2_17 : decode cX3_init_2 17 = .ok (.aload_n 2, 1) := dk_44 (dk_at dksX3_init_2_0 17 rfl rfl)
theorem dX3_init_2_18 : decode cX3_init_2 18 = .ok (.iload_n 3, 1) := dk_29 (dk_at dksX3_init_2_0 18 rfl rfl)
theorem dX3_init_2_19 : decode cX3_init_2 19 = .ok (.aload_n 0, 1) := dk_42 (dk_at dksX3_init_2_0 19 rfl rfl)
theorem dX3_init_2_20 : decode cX3_init_2 20 = .ok (.getfield 12, 3) := dk_180 0 12 (dk_at dksX3_init_2_0 20 rfl rfl)
theorem dX3_init_2_23 : decode cX3_init_2 23 = .ok (.iconst 0, 1) := dk_3 (dk_at dksX3_init_2_0 23 rfl rfl)
theorem dX3_init_2_24 : decode cX3_init_2 24 = .ok (.iload 4, 2) := dk_21 4 (dk_at dksX3_init_2_1 0 rfl rfl)
theorem dX3_init_2_26 : decode cX3_init_2 26 = .ok (.invokestatic 20, 3) := dk_184 0 20 (dk_at dksX3_init_2_1 2 rfl rfl)
theorem dX3_init_2_29 : decode cX3_init_2 29 = .ok (.return_, 1) := dk_177 (dk_at dksX3_init_2_1 5 rfl rfl)
abbrev cX3_getParameters : ByteArray := prog_5_method_4_code
def yX3_getParameters : MethodName := ⟨RX3, "getParameters", "()LCipherParameters;"⟩
theorem dX3_getParameters_0 : decode cX3_getParameters 0 = .ok (.aload_n 0, 1) := by decide +kernel
theorem dX3_getParameters_1 : decode cX3_getParameters 1 = .ok (.getfield 16, 3) := by decide +kernel
theorem dX3_getParameters_4 : decode cX3_getParameters 4 = .ok (.areturn, 1) := by decide +kernel
abbrev cX3_getIV : ByteArray := prog_5_method_3_code
def yX3_getIV : MethodName := ⟨RX3, "getIV", "()[B"⟩
theorem dX3_getIV_0 : decode cX3_getIV 0 = .ok (.aload_n 0, 1) := by decide +kernel
theorem dX3_getIV_1 : decode cX3_getIV 1 = .ok (.getfield 12, 3) := by decide +kernel
theorem dX3_getIV_4 : decode cX3_getIV 4 = .ok (.areturn, 1) := by decide +kernel
theorem q12 : (Jvm.Cond.initialized "ParametersWithIV") ∈ lw_all := lw_g (lw_at lw_m1 4 rfl) rfl
theorem q107 : (Jvm.Cond.instantiable "ParametersWithIV" (2 : Nat)) ∈ lw_all := lw_g (lw_at lw_m1 99 rfl) rfl
theorem q128 : (Jvm.Cond.instanceMethod ({ cls := "ParametersWithIV", name := "<init>", desc := "(LCipherParameters;[B)V" } : Jvm.MethodName)) ∈ lw_all := lw_g (lw_at lw_m1 120 rfl) rfl
theorem q129 : (Jvm.Cond.code ({ cls := "ParametersWithIV", name := "<init>", desc := "(LCipherParameters;[B)V" } : Jvm.MethodName) prog_5_method_1_code (3 : Nat) (Option.none : Option Jvm.ClassFile.FieldType)) ∈ lw_all := lw_g (lw_at lw_m1 121 rfl) rfl
theorem q130 : (Jvm.Cond.methodLink "ParametersWithIV" (1 : Nat) ({ cls := "ParametersWithIV", name := "<init>", desc := "(LCipherParameters;[BII)V" } : Jvm.MethodName)) ∈ lw_all := lw_g (lw_at lw_m1 122 rfl) rfl
theorem q131 : (Jvm.Cond.instanceMethod ({ cls := "ParametersWithIV", name := "<init>", desc := "(LCipherParameters;[BII)V" } : Jvm.MethodName)) ∈ lw_all := lw_g (lw_at lw_m1 123 rfl) rfl
theorem q132 : (Jvm.Cond.code ({ cls := "ParametersWithIV", name := "<init>", desc := "(LCipherParameters;[BII)V" } : Jvm.MethodName) prog_5_method_2_code (5 : Nat) (Option.none : Option Jvm.ClassFile.FieldType)) ∈ lw_all := lw_g (lw_at lw_m1 124 rfl) rfl
theorem q133 : (Jvm.Cond.methodLink "ParametersWithIV" (7 : Nat) ({ cls := "java/lang/Object", name := "<init>", desc := "()V" } : Jvm.MethodName)) ∈ lw_all := lw_g (lw_at lw_m1 125 rfl) rfl
theorem q134 : (Jvm.Cond.methodLink "ParametersWithIV" (20 : Nat) ({ cls := "java/lang/System", name := "arraycopy", desc := "(Ljava/lang/Object;ILjava/lang/Object;II)V" } : Jvm.MethodName)) ∈ lw_all := lw_g (lw_at lw_m1 126 rfl) rfl
theorem q135 : (Jvm.Cond.fieldLink "ParametersWithIV" (12 : Nat) "ParametersWithIV" "iv" "[B") ∈ lw_all := lw_g (lw_at lw_m1 127 rfl) rfl
theorem q136 : (Jvm.Cond.fieldLink "ParametersWithIV" (16 : Nat) "ParametersWithIV" "parameters" "LCipherParameters;") ∈ lw_all := lw_g (lw_at lw_m1 128 rfl) rfl
theorem q137 : (Jvm.Cond.lays "ParametersWithIV" "ParametersWithIV" "iv" "[B") ∈ lw_all := lw_g (lw_at lw_m1 129 rfl) rfl
theorem q138 : (Jvm.Cond.soleField "ParametersWithIV" "iv") ∈ lw_all := lw_g (lw_at lw_m1 130 rfl) rfl
theorem q139 : (Jvm.Cond.lays "ParametersWithIV" "ParametersWithIV" "parameters" "LCipherParameters;") ∈ lw_all := lw_g (lw_at lw_m1 131 rfl) rfl
theorem q140 : (Jvm.Cond.soleField "ParametersWithIV" "parameters") ∈ lw_all := lw_g (lw_at lw_m1 132 rfl) rfl
theorem q141 : (Jvm.Cond.superclass "ParametersWithIV" "java/lang/Object") ∈ lw_all := lw_g (lw_at lw_m1 133 rfl) rfl
theorem q215 : (Jvm.Cond.instanceMethod ({ cls := "ParametersWithIV", name := "getParameters", desc := "()LCipherParameters;" } : Jvm.MethodName)) ∈ lw_all := lw_g (lw_at lw_m1 207 rfl) rfl
theorem q216 : (Jvm.Cond.selects "ParametersWithIV" ({ cls := "ParametersWithIV", name := "getParameters", desc := "()LCipherParameters;" } : Jvm.MethodName) ({ cls := "ParametersWithIV", name := "getParameters", desc := "()LCipherParameters;" } : Jvm.MethodName)) ∈ lw_all := lw_g (lw_at lw_m1 208 rfl) rfl
theorem q217 : (Jvm.Cond.code ({ cls := "ParametersWithIV", name := "getParameters", desc := "()LCipherParameters;" } : Jvm.MethodName) prog_5_method_4_code (1 : Nat) (Option.some (Jvm.ClassFile.FieldType.object "CipherParameters"))) ∈ lw_all := lw_g (lw_at lw_m1 209 rfl) rfl
theorem q221 : (Jvm.Cond.instanceMethod ({ cls := "ParametersWithIV", name := "getIV", desc := "()[B" } : Jvm.MethodName)) ∈ lw_all := lw_g (lw_at lw_m1 213 rfl) rfl
theorem q222 : (Jvm.Cond.selects "ParametersWithIV" ({ cls := "ParametersWithIV", name := "getIV", desc := "()[B" } : Jvm.MethodName) ({ cls := "ParametersWithIV", name := "getIV", desc := "()[B" } : Jvm.MethodName)) ∈ lw_all := lw_g (lw_at lw_m1 214 rfl) rfl
theorem q223 : (Jvm.Cond.code ({ cls := "ParametersWithIV", name := "getIV", desc := "()[B" } : Jvm.MethodName) prog_5_method_3_code (1 : Nat) (Option.some (Jvm.ClassFile.FieldType.array Jvm.ClassFile.FieldType.byte))) ∈ lw_all := lw_g (lw_at lw_m1 215 rfl) rfl
theorem in_X3 : ∀ w ∈ wsX30, w ∈ lw_all := lw_in wsX30 [137, 139] (by decide +kernel) (by decide +kernel)
/-! KeyParameter -/
set_option maxRecDepth 100000
def RX4 : String := "KeyParameter"
def TX4 : u_T := fun k => match k with
  | _ => ("KeyParameter", "key", "[B", false)
def tyX4 : Nat → FieldType := fun k => match k with
  | _ => .array .byte
abbrev wsX40 : List Cond := u_ws RX4 TX4 1
theorem nmX4 : ∀ a, a < 1 → ∀ b, b < 1 → a ≠ b → (TX4 a).2.1 ≠ (TX4 b).2.1 := by decide +kernel
theorem tyX4_ok : ∀ k, k < 1 → parseFieldDescriptor (TX4 k).2.2.1 = some (tyX4 k) := by decide +kernel
abbrev cX4_init : ByteArray := prog_3_method_1_code
def yX4_init : MethodName := ⟨RX4, "<init>", "([B)V"⟩
def dkwX4_init_0 : List UInt8 := [42, 43, 3, 43, 190, 183, 0, 1, 177]
abbrev dktX4_init_0 : List UInt8 := dkwX4_init_0 ++ []
theorem dksX4_init_0 : cX4_init.data.toList.drop 0 = dktX4_init_0 := by decide +kernel
theorem dX4_init_0 : decode cX4_init 0 = .ok (.aload_n 0, 1) := dk_42 (dk_at dksX4_init_0 0 rfl rfl)
theorem dX4_init_1 : decode cX4_init 1 = .ok (.aload_n 1, 1) := dk_43 (dk_at dksX4_init_0 1 rfl rfl)
theorem dX4_init_2 : decode cX4_init 2 = .ok (.iconst 0, 1) := dk_3 (dk_at dksX4_init_0 2 rfl rfl)
theorem dX4_init_3 : decode cX4_init 3 = .ok (.aload_n 1, 1) := dk_43 (dk_at dksX4_init_0 3 rfl rfl)
theorem dX4_init_4 : decode cX4_init 4 = .ok (.arraylength, 1) := dk_190 (dk_at dksX4_init_0 4 rfl rfl)
theorem dX4_init_5 : decode cX4_init 5 = .ok (.invokespecial 1, 3) := dk_183 0 1 (dk_at dksX4_init_0 5 rfl rfl)
theorem dX4_init_8 : decode cX4_init 8 = .ok (.return_, 1) := dk_177 (dk_at dksX4_init_0 8 rfl rfl)
abbrev cX4_init_2 : ByteArray := prog_3_method_2_code
def yX4_init_2 : MethodName := ⟨RX4, "<init>", "([BII)V"⟩
def dkwX4_init_2_0 : List UInt8 := [42, 29, 183, 0, 7, 43, 28, 42, 180, 0, 10, 3, 29, 184, 0, 14, 177]
abbrev dktX4_init_2_0 : List UInt8 := dkwX4_init_2_0 ++ []
theorem dksX4_init_2_0 : cX4_init_2.data.toList.drop 0 = dktX4_init_2_0 := by decide +kernel
theorem dX4_init_2_0 : decode cX4_init_2 0 = .ok (.aload_n 0, 1) := dk_42 (dk_at dksX4_init_2_0 0 rfl rfl)
theorem dX4_init_2_1 : decode cX4_init_2 1 = .ok (.iload_n 3, 1) := dk_29 (dk_at dksX4_init_2_0 1 rfl rfl)
theorem dX4_init_2_2 : decode cX4_init_2 2 = .ok (.invokespecial 7, 3) := dk_183 0 7 (dk_at dksX4_init_2_0 2 rfl rfl)
theorem dX4_init_2_5 : decode cX4_init_2 5 = .ok (.aload_n 1, 1) := dk_43 (dk_at dksX4_init_2_0 5 rfl rfl)
theorem dX4_init_2_6 : decode cX4_init_2 6 = .ok (.iload_n 2, 1) := dk_28 (dk_at dksX4_init_2_0 6 rfl rfl)
theorem dX4_init_2_7 : decode cX4_init_2 7 = .ok (.aload_n 0, 1) := dk_42 (dk_at dksX4_init_2_0 7 rfl rfl)
theorem dX4_init_2_8 : decode cX4_init_2 8 = .ok (.getfield 10, 3) := dk_180 0 10 (dk_at dksX4_init_2_0 8 rfl rfl)
theorem dX4_init_2_11 : decode cX4_init_2 11 = .ok (.iconst 0, 1) := dk_3 (dk_at dksX4_init_2_0 11 rfl rfl)
theorem dX4_init_2_12 : decode cX4_init_2 12 = .ok (.iload_n 3, 1) := dk_29 (dk_at dksX4_init_2_0 12 rfl rfl)
theorem dX4_init_2_13 : decode cX4_init_2 13 = .ok (.invokestatic 14, 3) := dk_184 0 14 (dk_at dksX4_init_2_0 13 rfl rfl)
theorem dX4_init_2_16 : decode cX4_init_2 16 = .ok (.return_, 1) := dk_177 (dk_at dksX4_init_2_0 16 rfl rfl)
abbrev cX4_init_3 : ByteArray := prog_3_method_3_code
def yX4_init_3 : MethodName := ⟨RX4, "<init>", "(I)V"⟩
def dkwX4_init_3_0 : List UInt8 := [42, 183, 0, 20, 42, 27, 188, 8, 181, 0, 10, 177]
abbrev dktX4_init_3_0 : List UInt8 := dkwX4_init_3_0 ++ []
theorem dksX4_init_3_0 : cX4_init_3.data.toList.drop 0 = dktX4_init_3_0 := by decide +kernel
theorem dX4_init_3_0 : decode cX4_init_3 0 = .ok (.aload_n 0, 1) := dk_42 (dk_at dksX4_init_3_0 0 rfl rfl)
theorem dX4_init_3_1 : decode cX4_init_3 1 = .ok (.invokespecial 20, 3) := dk_183 0 20 (dk_at dksX4_init_3_0 1 rfl rfl)
theorem dX4_init_3_4 : decode cX4_init_3 4 = .ok (.aload_n 0, 1) := dk_42 (dk_at dksX4_init_3_0 4 rfl rfl)
theorem dX4_init_3_5 : decode cX4_init_3 5 = .ok (.iload_n 1, 1) := dk_27 (dk_at dksX4_init_3_0 5 rfl rfl)
theorem dX4_init_3_6 : decode cX4_init_3 6 = .ok (.newarray .byte, 2) := dk_188_8 (dk_at dksX4_init_3_0 6 rfl rfl)
theorem dX4_init_3_8 : decode cX4_init_3 8 = .ok (.putfield 10, 3) := dk_181 0 10 (dk_at dksX4_init_3_0 8 rfl rfl)
theorem dX4_init_3_11 : decode cX4_init_3 11 = .ok (.return_, 1) := dk_177 (dk_at dksX4_init_3_0 11 rfl rfl)
abbrev cX4_getKey : ByteArray := prog_3_method_4_code
def yX4_getKey : MethodName := ⟨RX4, "getKey", "()[B"⟩
theorem dX4_getKey_0 : decode cX4_getKey 0 = .ok (.aload_n 0, 1) := by decide +kernel
theorem dX4_getKey_1 : decode cX4_getKey 1 = .ok (.getfield 10, 3) := by decide +kernel
theorem dX4_getKey_4 : decode cX4_getKey 4 = .ok (.areturn, 1) := by decide +kernel
theorem q13 : (Jvm.Cond.initialized "KeyParameter") ∈ lw_all := lw_g (lw_at lw_m1 5 rfl) rfl
theorem q109 : (Jvm.Cond.instantiable "KeyParameter" (1 : Nat)) ∈ lw_all := lw_g (lw_at lw_m1 101 rfl) rfl
theorem q111 : (Jvm.Cond.instanceMethod ({ cls := "KeyParameter", name := "<init>", desc := "([B)V" } : Jvm.MethodName)) ∈ lw_all := lw_g (lw_at lw_m1 103 rfl) rfl
theorem q112 : (Jvm.Cond.code ({ cls := "KeyParameter", name := "<init>", desc := "([B)V" } : Jvm.MethodName) prog_3_method_1_code (2 : Nat) (Option.none : Option Jvm.ClassFile.FieldType)) ∈ lw_all := lw_g (lw_at lw_m1 104 rfl) rfl
theorem q113 : (Jvm.Cond.methodLink "KeyParameter" (1 : Nat) ({ cls := "KeyParameter", name := "<init>", desc := "([BII)V" } : Jvm.MethodName)) ∈ lw_all := lw_g (lw_at lw_m1 105 rfl) rfl
theorem q114 : (Jvm.Cond.instanceMethod ({ cls := "KeyParameter", name := "<init>", desc := "([BII)V" } : Jvm.MethodName)) ∈ lw_all := lw_g (lw_at lw_m1 106 rfl) rfl
theorem q115 : (Jvm.Cond.code ({ cls := "KeyParameter", name := "<init>", desc := "([BII)V" } : Jvm.MethodName) prog_3_method_2_code (4 : Nat) (Option.none : Option Jvm.ClassFile.FieldType)) ∈ lw_all := lw_g (lw_at lw_m1 107 rfl) rfl
theorem q116 : (Jvm.Cond.methodLink "KeyParameter" (7 : Nat) ({ cls := "KeyParameter", name := "<init>", desc := "(I)V" } : Jvm.MethodName)) ∈ lw_all := lw_g (lw_at lw_m1 108 rfl) rfl
theorem q117 : (Jvm.Cond.instanceMethod ({ cls := "KeyParameter", name := "<init>", desc := "(I)V" } : Jvm.MethodName)) ∈ lw_all := lw_g (lw_at lw_m1 109 rfl) rfl
theorem q118 : (Jvm.Cond.code ({ cls := "KeyParameter", name := "<init>", desc := "(I)V" } : Jvm.MethodName) prog_3_method_3_code (2 : Nat) (Option.none : Option Jvm.ClassFile.FieldType)) ∈ lw_all := lw_g (lw_at lw_m1 110 rfl) rfl
theorem q119 : (Jvm.Cond.methodLink "KeyParameter" (20 : Nat) ({ cls := "java/lang/Object", name := "<init>", desc := "()V" } : Jvm.MethodName)) ∈ lw_all := lw_g (lw_at lw_m1 111 rfl) rfl
theorem q120 : (Jvm.Cond.fieldLink "KeyParameter" (10 : Nat) "KeyParameter" "key" "[B") ∈ lw_all := lw_g (lw_at lw_m1 112 rfl) rfl
theorem q121 : (Jvm.Cond.lays "KeyParameter" "KeyParameter" "key" "[B") ∈ lw_all := lw_g (lw_at lw_m1 113 rfl) rfl
theorem q122 : (Jvm.Cond.soleField "KeyParameter" "key") ∈ lw_all := lw_g (lw_at lw_m1 114 rfl) rfl
theorem q123 : (Jvm.Cond.superclass "KeyParameter" "java/lang/Object") ∈ lw_all := lw_g (lw_at lw_m1 115 rfl) rfl
theorem q124 : (Jvm.Cond.methodLink "KeyParameter" (14 : Nat) ({ cls := "java/lang/System", name := "arraycopy", desc := "(Ljava/lang/Object;ILjava/lang/Object;II)V" } : Jvm.MethodName)) ∈ lw_all := lw_g (lw_at lw_m1 116 rfl) rfl
theorem q226 : (Jvm.Cond.instanceMethod ({ cls := "KeyParameter", name := "getKey", desc := "()[B" } : Jvm.MethodName)) ∈ lw_all := lw_g (lw_at lw_m1 218 rfl) rfl
theorem q227 : (Jvm.Cond.selects "KeyParameter" ({ cls := "KeyParameter", name := "getKey", desc := "()[B" } : Jvm.MethodName) ({ cls := "KeyParameter", name := "getKey", desc := "()[B" } : Jvm.MethodName)) ∈ lw_all := lw_g (lw_at lw_m1 219 rfl) rfl
theorem q228 : (Jvm.Cond.code ({ cls := "KeyParameter", name := "getKey", desc := "()[B" } : Jvm.MethodName) prog_3_method_4_code (1 : Nat) (Option.some (Jvm.ClassFile.FieldType.array Jvm.ClassFile.FieldType.byte))) ∈ lw_all := lw_g (lw_at lw_m1 220 rfl) rfl
theorem in_X4 : ∀ w ∈ wsX40, w ∈ lw_all := lw_in wsX40 [121] (by decide +kernel) (by decide +kernel)
/-! java/lang/Object -/
set_option maxRecDepth 100000
def RJ4 : String := "java/lang/Object"
abbrev cJ4_init : ByteArray := object_method_1_code
def yJ4_init : MethodName := ⟨RJ4, "<init>", "()V"⟩
theorem dJ4_init_0 : decode cJ4_init 0 = .ok (.return_, 1) := by decide +kernel
theorem q28 : (Jvm.Cond.instanceMethod ({ cls := "java/lang/Object", name := "<init>", desc := "()V" } : Jvm.MethodName)) ∈ lw_all := lw_g (lw_at lw_m1 20 rfl) rfl
theorem q29 : (Jvm.Cond.code ({ cls := "java/lang/Object", name := "<init>", desc := "()V" } : Jvm.MethodName) object_method_1_code (1 : Nat) (Option.none : Option Jvm.ClassFile.FieldType)) ∈ lw_all := lw_g (lw_at lw_m1 21 rfl) rfl
theorem q8 : (Jvm.Cond.initialized "VmpcDeskLaw") ∈ lw_all := lw_g (lw_at lw_m1 0 rfl) rfl
set_option maxRecDepth 100000
theorem q22 : (Jvm.Cond.classLink "VmpcDeskLaw" (7 : Nat) "VmpcDesk") ∈ lw_all := lw_g (lw_at lw_m1 14 rfl) rfl
theorem q24 : (Jvm.Cond.methodLink "VmpcDeskLaw" (9 : Nat) ({ cls := "VmpcDesk", name := "<init>", desc := "()V" } : Jvm.MethodName)) ∈ lw_all := lw_g (lw_at lw_m1 16 rfl) rfl
theorem q78 : (Jvm.Cond.methodLink "VmpcDeskLaw" (13 : Nat) ({ cls := "VmpcDesk", name := "put", desc := "(IIII)Z" } : Jvm.MethodName)) ∈ lw_all := lw_g (lw_at lw_m1 70 rfl) rfl
theorem q85 : (Jvm.Cond.methodLink "VmpcDeskLaw" (18 : Nat) ({ cls := "VmpcDesk", name := "trim", desc := "(I)V" } : Jvm.MethodName)) ∈ lw_all := lw_g (lw_at lw_m1 77 rfl) rfl
theorem q94 : (Jvm.Cond.methodLink "VmpcDeskLaw" (23 : Nat) ({ cls := "VmpcDesk", name := "key", desc := "(IIIII)V" } : Jvm.MethodName)) ∈ lw_all := lw_g (lw_at lw_m1 86 rfl) rfl
theorem q98 : (Jvm.Cond.methodLink "VmpcDeskLaw" (28 : Nat) ({ cls := "VmpcDesk", name := "nonce", desc := "(IIIII)V" } : Jvm.MethodName)) ∈ lw_all := lw_g (lw_at lw_m1 90 rfl) rfl
theorem q102 : (Jvm.Cond.methodLink "VmpcDeskLaw" (32 : Nat) ({ cls := "VmpcDesk", name := "begin", desc := "(I)V" } : Jvm.MethodName)) ∈ lw_all := lw_g (lw_at lw_m1 94 rfl) rfl
theorem q233 : (Jvm.Cond.methodLink "VmpcDeskLaw" (36 : Nat) ({ cls := "VmpcDesk", name := "run", desc := "(II)I" } : Jvm.MethodName)) ∈ lw_all := lw_g (lw_at lw_m1 225 rfl) rfl
theorem q282 : (Jvm.Cond.methodLink "VmpcDeskLaw" (41 : Nat) ({ cls := "VmpcDesk", name := "one", desc := "(I)I" } : Jvm.MethodName)) ∈ lw_all := lw_g (lw_at lw_m2 34 rfl) rfl
theorem q290 : (Jvm.Cond.methodLink "VmpcDeskLaw" (46 : Nat) ({ cls := "VmpcDesk", name := "again", desc := "()V" } : Jvm.MethodName)) ∈ lw_all := lw_g (lw_at lw_m2 42 rfl) rfl
theorem q298 : (Jvm.Cond.methodLink "VmpcDeskLaw" (50 : Nat) ({ cls := "VmpcDesk", name := "out", desc := "(I)I" } : Jvm.MethodName)) ∈ lw_all := lw_g (lw_at lw_m2 50 rfl) rfl
theorem q302 : (Jvm.Cond.classLink "VmpcDeskLaw" (10 : Nat) "VmpcDeskModel") ∈ lw_all := lw_g (lw_at lw_m2 54 rfl) rfl
theorem q304 : (Jvm.Cond.methodLink "VmpcDeskLaw" (12 : Nat) ({ cls := "VmpcDeskModel", name := "<init>", desc := "()V" } : Jvm.MethodName)) ∈ lw_all := lw_g (lw_at lw_m2 56 rfl) rfl
theorem q346 : (Jvm.Cond.methodLink "VmpcDeskLaw" (17 : Nat) ({ cls := "VmpcDeskModel", name := "put", desc := "(IIII)Z" } : Jvm.MethodName)) ∈ lw_all := lw_g (lw_at lw_m2 98 rfl) rfl
theorem q353 : (Jvm.Cond.methodLink "VmpcDeskLaw" (22 : Nat) ({ cls := "VmpcDeskModel", name := "trim", desc := "(I)V" } : Jvm.MethodName)) ∈ lw_all := lw_g (lw_at lw_m2 105 rfl) rfl
theorem q362 : (Jvm.Cond.methodLink "VmpcDeskLaw" (27 : Nat) ({ cls := "VmpcDeskModel", name := "key", desc := "(IIIII)V" } : Jvm.MethodName)) ∈ lw_all := lw_g (lw_at lw_m2 114 rfl) rfl
theorem q369 : (Jvm.Cond.methodLink "VmpcDeskLaw" (31 : Nat) ({ cls := "VmpcDeskModel", name := "nonce", desc := "(IIIII)V" } : Jvm.MethodName)) ∈ lw_all := lw_g (lw_at lw_m2 121 rfl) rfl
theorem q373 : (Jvm.Cond.methodLink "VmpcDeskLaw" (35 : Nat) ({ cls := "VmpcDeskModel", name := "begin", desc := "(I)V" } : Jvm.MethodName)) ∈ lw_all := lw_g (lw_at lw_m2 125 rfl) rfl
theorem q389 : (Jvm.Cond.methodLink "VmpcDeskLaw" (40 : Nat) ({ cls := "VmpcDeskModel", name := "run", desc := "(II)I" } : Jvm.MethodName)) ∈ lw_all := lw_g (lw_at lw_m2 141 rfl) rfl
theorem q397 : (Jvm.Cond.methodLink "VmpcDeskLaw" (45 : Nat) ({ cls := "VmpcDeskModel", name := "one", desc := "(I)I" } : Jvm.MethodName)) ∈ lw_all := lw_g (lw_at lw_m2 149 rfl) rfl
theorem q401 : (Jvm.Cond.methodLink "VmpcDeskLaw" (49 : Nat) ({ cls := "VmpcDeskModel", name := "again", desc := "()V" } : Jvm.MethodName)) ∈ lw_all := lw_g (lw_at lw_m2 153 rfl) rfl
theorem q405 : (Jvm.Cond.methodLink "VmpcDeskLaw" (53 : Nat) ({ cls := "VmpcDeskModel", name := "out", desc := "(I)I" } : Jvm.MethodName)) ∈ lw_all := lw_g (lw_at lw_m2 157 rfl) rfl
theorem q14 : (Jvm.Cond.initialized "java/lang/System") ∈ lw_all := lw_g (lw_at lw_m1 6 rfl) rfl
set_option maxRecDepth 100000
theorem q125 : (Jvm.Cond.static ({ cls := "java/lang/System", name := "arraycopy", desc := "(Ljava/lang/Object;ILjava/lang/Object;II)V" } : Jvm.MethodName)) ∈ lw_all := lw_g (lw_at lw_m1 117 rfl) rfl
theorem q126 : (Jvm.Cond.native ({ cls := "java/lang/System", name := "arraycopy", desc := "(Ljava/lang/Object;ILjava/lang/Object;II)V" } : Jvm.MethodName)) ∈ lw_all := lw_g (lw_at lw_m1 118 rfl) rfl
theorem q77 : (Jvm.Cond.arrayClass Jvm.ClassFile.FieldType.byte) ∈ lw_all := lw_g (lw_at lw_m1 69 rfl) rfl
set_option maxRecDepth 100000
theorem q345 : (Jvm.Cond.arrayClass Jvm.ClassFile.FieldType.int) ∈ lw_all := lw_g (lw_at lw_m2 97 rfl) rfl
end
section
/-! VMPCEngine -/
set_option maxRecDepth 100000
def RX1 : String := "VMPCEngine"
def TX1 : u_T := fun k => match k with
  | 0 => ("VMPCEngine", "n", "B", false)
  | 1 => ("VMPCEngine", "P", "[B", false)
  | 2 => ("VMPCEngine", "s", "B", false)
  | 3 => ("VMPCEngine", "workingIV", "[B", false)
  | _ => ("VMPCEngine", "workingKey", "[B", false)
def tyX1 : Nat → FieldType := fun k => match k with
  | 0 => .byte
  | 1 => .array .byte
  | 2 => .byte
  | 3 => .array .byte
  | _ => .array .byte
abbrev wsX10 : List Cond := u_ws RX1 TX1 5
theorem nmX1 : ∀ a, a < 5 → ∀ b, b < 5 → a ≠ b → (TX1 a).2.1 ≠ (TX1 b).2.1 := by decide +kernel
theorem tyX1_ok : ∀ k, k < 5 → parseFieldDescriptor (TX1 k).2.2.1 = some (tyX1 k) := by decide +kernel
abbrev cX1_init : ByteArray := prog_7_method_1_code
def yX1_init : MethodName := ⟨RX1, "<init>", "()V"⟩
def dkwX1_init_0 : List UInt8 := [42, 183, 0, 1, 42, 3, 181, 0, 7, 42, 1, 181, 0, 13, 42, 3, 181, 0, 17, 177]
abbrev dktX1_init_0 : List UInt8 := dkwX1_init_0 ++ []
theorem dksX1_init_0 : cX1_init.data.toList.drop 0 = dktX1_init_0 := by decide +kernel
theorem dX1_init_0 : decode cX1_init 0 = .ok (.aload_n 0, 1) := dk_42 (dk_at dksX1_init_0 0 rfl rfl)
theorem dX1_init_1 : decode cX1_init 1 = .ok (.invokespecial 1, 3) := dk_183 0 1 (dk_at dksX1_init_0 1 rfl rfl)
theorem dX1_init_4 : decode cX1_init 4 = .ok (.aload_n 0, 1) := dk_42 (dk_at dksX1_init_0 4 rfl rfl)
theorem dX1_init_5 : decode cX1_init 5 = .ok (.iconst 0, 1) := dk_3 (dk_at dksX1_init_0 5 rfl rfl)
theorem dX1_init_6 : decode cX1_init 6 = .ok (.putfield 7, 3) := dk_181 0 7 (dk_at dksX1_init_0 6 rfl rfl)
theorem dX1_init_9 : decode cX1_init 9 = .ok (.aload_n 0, 1) := dk_42 (dk_at dksX1_init_0 9 rfl rfl)
theorem dX1_init_10 : decode cX1_init 10 = .ok (.aconst_null, 1) := dk_1 (dk_at dksX1_init_0 10 rfl rfl)
theorem dX1_init_11 : decode cX1_init 11 = .ok (.putfield 13, 3) := dk_181 0 13 (dk_at dksX1_init_0 11 rfl rfl)
theorem dX1_init_14 : decode cX1_init 14 = .ok (.aload_n 0, 1) := dk_42 (dk_at dksX1_init_0 14 rfl rfl)
theorem dX1_init_15 : decode cX1_init 15 = .ok (.iconst 0, 1) := dk_3 (dk_at dksX1_init_0 15 rfl rfl)
theorem dX1_init_16 : decode cX1_init 16 = .ok (.putfield 17, 3) := dk_181 0 17 (dk_at dksX1_init_0 16 rfl rfl)
theorem dX1_init_19 : decode cX1_init 19 = .ok (.return_, 1) := dk_177 (dk_at dksX1_init_0 19 rfl rfl)
abbrev cX1_init_2 : ByteArray := prog_7_method_2_code
def yX1_init_2 : MethodName := ⟨RX1, "init", "(ZLCipherParameters;)V"⟩
def dkwX1_init_2_5 : List UInt8 := [182, 0, 52, 177]
abbrev dktX1_init_2_5 : List UInt8 := dkwX1_init_2_5 ++ []
def dkwX1_init_2_4 : List UInt8 := [183, 0, 26, 191, 42, 25, 4, 182, 0, 46, 181, 0, 49, 42, 42, 180, 0, 49, 42, 180, 0, 41]
abbrev dktX1_init_2_4 : List UInt8 := dkwX1_init_2_4 ++ dktX1_init_2_5
def dkwX1_init_2_3 : List UInt8 := [190, 4, 161, 0, 14, 42, 180, 0, 41, 190, 17, 3, 0, 164, 0, 13, 187, 0, 22, 89, 18, 44]
abbrev dktX1_init_2_3 : List UInt8 := dkwX1_init_2_3 ++ dktX1_init_2_4
def dkwX1_init_2_2 : List UInt8 := [192, 0, 33, 58, 4, 42, 45, 182, 0, 37, 181, 0, 41, 42, 180, 0, 41, 198, 0, 23, 42, 180, 0, 41]
abbrev dktX1_init_2_2 : List UInt8 := dkwX1_init_2_2 ++ dktX1_init_2_3
def dkwX1_init_2_1 : List UInt8 := [182, 0, 29, 193, 0, 33, 154, 0, 13, 187, 0, 22, 89, 18, 35, 183, 0, 26, 191, 45, 182, 0, 29]
abbrev dktX1_init_2_1 : List UInt8 := dkwX1_init_2_1 ++ dktX1_init_2_2
def dkwX1_init_2_0 : List UInt8 := [44, 193, 0, 20, 154, 0, 13, 187, 0, 22, 89, 18, 24, 183, 0, 26, 191, 44, 192, 0, 20, 78, 45]
abbrev dktX1_init_2_0 : List UInt8 := dkwX1_init_2_0 ++ dktX1_init_2_1
theorem dksX1_init_2_0 : cX1_init_2.data.toList.drop 0 = dktX1_init_2_0 := by decide +kernel
theorem dksX1_init_2_1 : cX1_init_2.data.toList.drop 23 = dktX1_init_2_1 := dk_seg dksX1_init_2_0 23 rfl rfl
theorem dksX1_init_2_2 : cX1_init_2.data.toList.drop 46 = dktX1_init_2_2 := dk_seg dksX1_init_2_1 23 rfl rfl
theorem dksX1_init_2_3 : cX1_init_2.data.toList.drop 70 = dktX1_init_2_3 := dk_seg dksX1_init_2_2 24 rfl rfl
theorem dksX1_init_2_4 : cX1_init_2.data.toList.drop 92 = dktX1_init_2_4 := dk_seg dksX1_init_2_3 22 rfl rfl
theorem dksX1_init_2_5 : cX1_init_2.data.toList.drop 114 = dktX1_init_2_5 := dk_seg dksX1_init_2_4 22 rfl rfl
theorem dX1_init_2_0 : decode cX1_init_2 0 = .ok (.aload_n 2, 1) := dk_44 (dk_at dksX1_init_2_0 0 rfl rfl)
theorem dX1_init_2_1 : decode cX1_init_2 1 = .ok (.instanceof 20, 3) := dk_193 0 20 (dk_at dksX1_init_2_0 1 rfl rfl)
theorem dX1_init_2_4 : decode cX1_init_2 4 = .ok (.ifCond .ne 13, 3) := dk_154 0 13 (dk_at dksX1_init_2_0 4 rfl rfl)
theorem dX1_init_2_7 : decode cX1_init_2 7 = .ok (.new 22, 3) := dk_187 0 22 (dk_at dksX1_init_2_0 7 rfl rfl)
theorem dX1_init_2_10 : decode cX1_init_2 10 = .ok (.dup, 1) := dk_89 (dk_at dksX1_init_2_0 10 rfl rfl)
theorem dX1_init_2_11 : decode cX1_init_2 11 = .ok (.ldc 24, 2) := dk_18 24 (dk_at dksX1_init_2_0 11 rfl rfl)
theorem dX1_init_2_13 : decode cX1_init_2 13 = .ok (.invokespecial 26, 3) := dk_183 0 26 (dk_at dksX1_init_2_0 13 rfl rfl)
theorem dX1_init_2_16 : decode cX1_init_2 16 = .ok (.athrow, 1) := dk_191 (dk_at dksX1_init_2_0 16 rfl rfl)
theorem dX1_init_2_17 : decode cX1_init_2 17 = .ok (.aload_n 2, 1) := dk_44 (dk_at dksX1_init_2_0 17 rfl rfl)
theorem dX1_init_2_18 : decode cX1_init_2 18 = .ok (.checkcast 20, 3) := dk_192 0 20 (dk_at dksX1_init_2_0 18 rfl rfl)
theorem dX1_init_2_21 : decode cX1_init_2 21 = .ok (.astore_n 3, 1) := dk_78 (dk_at dksX1_init_2_0 21 rfl rfl)
theorem dX1_init_2_22 : decode cX1_init_2 22 = .ok (.aload_n 3, 1) := dk_45 (dk_at dksX1_init_2_0 22 rfl rfl)
theorem dX1_init_2_23 : decode cX1_init_2 23 = .ok (.invokevirtual 29, 3) := dk_182 0 29 (dk_at dksX1_init_2_1 0 rfl rfl)
theorem dX1_init_2_26 : decode cX1_init_2 26 = .ok (.instanceof 33, 3) := dk_193 0 33 (dk_at dksX1_init_2_1 3 rfl rfl)
theorem dX1_init_2_29 : decode cX1_init_2 29 = .ok (.ifCond .ne 13, 3) := dk_154 0 13 (dk_at dksX1_init_2_1 6 rfl rfl)
theorem dX1_init_2_32 : decode cX1_init_2 32 = .ok (.new 22, 3) := dk_187 0 22 (dk_at dksX1_init_2_1 9 rfl rfl)
theorem dX1_init_2_35 : decode cX1_init_2 35 = .ok (.dup, 1) := dk_89 (dk_at dksX1_init_2_1 12 rfl rfl)
theorem dX1_init_2_36 : decode cX1_init_2 36 = .ok (.ldc 35, 2) := dk_18 35 (dk_at dksX1_init_2_1 13 rfl rfl)
theorem dX1_init_2_38 : decode cX1_init_2 38 = .ok (.invokespecial 26, 3) := dk_183 0 26 (dk_at dksX1_init_2_1 15 rfl rfl)
theorem dX1_init_2_41 : decode cX1_init_2 41 = .ok (.athrow, 1) := dk_191 (dk_at dksX1_init_2_1 18 rfl rfl)
theorem dX1_init_2_42 : decode cX1_init_2 42 = .ok (.aload_n 3, 1) := dk_45 (dk_at dksX1_init_2_1 19 rfl rfl)
theorem dX1_init_2_43 : decode cX1_init_2 43 = .ok (.invokevirtual 29, 3) := dk_182 0 29 (dk_at dksX1_init_2_1 20 rfl rfl)
theorem dX1_init_2_46 : decode cX1_init_2 46 = .ok (.checkcast 33, 3) := dk_192 0 33 (dk_at dksX1_init_2_2 0 rfl rfl)
theorem dX1_init_2_49 : decode cX1_init_2 49 = .ok (.astore 4, 2) := dk_58 4 (dk_at dksX1_init_2_2 3 rfl rfl)
theorem dX1_init_2_51 : decode cX1_init_2 51 = .ok (.aload_n 0, 1) := dk_42 (dk_at dksX1_init_2_2 5 rfl rfl)
theorem dX1_init_2_52 : decode cX1_init_2 52 = .ok (.aload_n 3, 1) := dk_45 (dk_at dksX1_init_2_2 6 rfl rfl)
theorem dX1_init_2_53 : decode cX1_init_2 53 = .ok (.invokevirtual 37, 3) := dk_182 0 37 (dk_at dksX1_init_2_2 7 rfl rfl)
theorem dX1_init_2_56 : decode cX1_init_2 56 = .ok (.putfield 41, 3) := dk_181 0 41 (dk_at dksX1_init_2_2 10 rfl rfl)
theorem dX1_init_2_59 : decode cX1_init_2 59 = .ok (.aload_n 0, 1) := dk_42 (dk_at dksX1_init_2_2 13 rfl rfl)
theorem dX1_init_2_60 : decode cX1_init_2 60 = .ok (.getfield 41, 3) := dk_180 0 41 (dk_at dksX1_init_2_2 14 rfl rfl)
theorem dX1_init_2_63 : decode cX1_init_2 63 = .ok (.ifnull 23, 3) := dk_198 0 23 (dk_at dksX1_init_2_2 17 rfl rfl)
theorem dX1_init_2_66 : decode cX1_init_2 66 = .ok (.aload_n 0, 1) := dk_42 (dk_at dksX1_init_2_2 20 rfl rfl)
theorem dX1_init_2_67 : decode cX1_init_2 67 = .ok (.getfield 41, 3) := dk_180 0 41 (dk_at dksX1_init_2_2 21 rfl rfl)
theorem dX1_init_2_70 : decode cX1_init_2 70 = .ok (.arraylength, 1) := dk_190 (dk_at dksX1_init_2_3 0 rfl rfl)
theorem dX1_init_2_71 : decode cX1_init_2 71 = .ok (.iconst 1, 1) := dk_4 (dk_at dksX1_init_2_3 1 rfl rfl)
theorem dX1_init_2_72 : decode cX1_init_2 72 = .ok (.if_icmp .lt 14, 3) := dk_161 0 14 (dk_at dksX1_init_2_3 2 rfl rfl)
theorem dX1_init_2_75 : decode cX1_init_2 75 = .ok (.aload_n 0, 1) := dk_42 (dk_at dksX1_init_2_3 5 rfl rfl)
theorem dX1_init_2_76 : decode cX1_init_2 76 = .ok (.getfield 41, 3) := dk_180 0 41 (dk_at dksX1_init_2_3 6 rfl rfl)
theorem dX1_init_2_79 : decode cX1_init_2 79 = .ok (.arraylength, 1) := dk_190 (dk_at dksX1_init_2_3 9 rfl rfl)
theorem dX1_init_2_80 : decode cX1_init_2 80 = .ok (.sipush 768, 3) := dk_17 3 0 (dk_at dksX1_init_2_3 10 rfl rfl)
theorem dX1_init_2_83 : decode cX1_init_2 83 = .ok (.if_icmp .le 13, 3) := dk_164 0 13 (dk_at dksX1_init_2_3 13 rfl rfl)
theorem dX1_init_2_86 : decode cX1_init_2 86 = .ok (.new 22, 3) := dk_187 0 22 (dk_at dksX1_init_2_3 16 rfl rfl)
theorem dX1_init_2_89 : decode cX1_init_2 89 = .ok (.dup, 1) := dk_89 (dk_at dksX1_init_2_3 19 rfl rfl)
theorem dX1_init_2_90 : decode cX1_init_2 90 = .ok (.ldc 44, 2) := dk_18 44 (dk_at dksX1_init_2_3 20 rfl rfl)
theorem dX1_init_2_92 : decode cX1_init_2 92 = .ok (.invokespecial 26, 3) := dk_183 0 26 (dk_at dksX1_init_2_4 0 rfl rfl)
theorem dX1_init_2_95 : decode cX1_init_2 95 = .ok (.athrow, 1) := dk_191 (dk_at dksX1_init_2_4 3 rfl rfl)
theorem dX1_init_2_96 : decode cX1_init_2 96 = .ok (.aload_n 0, 1) := dk_42 (dk_at dksX1_init_2_4 4 rfl rfl)
theorem dX1_init_2_97 : decode cX1_init_2 97 = .ok (.aload 4, 2) := dk_25 4 (dk_at dksX1_init_2_4 5 rfl rfl)
theorem dX1_init_2_99 : decode cX1_init_2 99 = .ok (.invokevirtual 46, 3) := dk_182 0 46 (dk_at dksX1_init_2_4 7 rfl rfl)
theorem dX1_init_2_102 : decode cX1_init_2 102 = .ok (.putfield 49, 3) := dk_181 0 49 (dk_at dksX1_init_2_4 10 rfl rfl)
theorem dX1_init_2_105 : decode cX1_init_2 105 = .ok (.aload_n 0, 1) := dk_42 (dk_at dksX1_init_2_4 13 rfl rfl)
theorem dX1_init_2_106 : decode cX1_init_2 106 = .ok (.aload_n 0, 1) := dk_42 (dk_at dksX1_init_2_4 14 rfl rfl)
theorem dX1_init_2_107 : decode cX1_init_2 107 = .ok (.getfield 49, 3) := dk_180 0 49 (dk_at dksX1_init_2_4 15 rfl rfl)
theorem dX1_init_2_110 : decode cX1_init_2 110 = .ok (.aload_n 0, 1) := dk_42 (dk_at dksX1_init_2_4 18 rfl rfl)
theorem dX1_init_2_111 : decode cX1_init_2 111 = .ok (.getfield 41, 3) := dk_180 0 41 (dk_at dksX1_init_2_4 19 rfl rfl)
theorem dX1_init_2_114 : decode cX1_init_2 114 = .ok (.invokevirtual 52, 3) := dk_182 0 52 (dk_at dksX1_init_2_5 0 rfl rfl)
theorem dX1_init_2_117 : decode cX1_init_2 117 = .ok (.return_, 1) := dk_177 (dk_at dksX1_init_2_5 3 rfl rfl)
abbrev cX1_initKey : ByteArray := prog_7_method_3_code
def yX1_initKey : MethodName := ⟨RX1, "initKey", "([B[B)V"⟩
def dkwX1_initKey_10 : List UInt8 := [167, 255, 161, 42, 3, 181, 0, 7, 177]
abbrev dktX1_initKey_10 : List UInt8 := dkwX1_initKey_10 ++ []
def dkwX1_initKey_9 : List UInt8 := [17, 0, 255, 126, 51, 84, 42, 180, 0, 13, 42, 180, 0, 17, 17, 0, 255, 126, 21, 4, 84, 132, 3, 1]
abbrev dktX1_initKey_9 : List UInt8 := dkwX1_initKey_9 ++ dktX1_initKey_10
def dkwX1_initKey_8 : List UInt8 := [17, 0, 255, 126, 51, 54, 4, 42, 180, 0, 13, 29, 17, 0, 255, 126, 42, 180, 0, 13, 42, 180, 0, 17]
abbrev dktX1_initKey_8 : List UInt8 := dkwX1_initKey_8 ++ dktX1_initKey_9
def dkwX1_initKey_7 : List UInt8 := [51, 96, 44, 29, 44, 190, 112, 51, 96, 17, 0, 255, 126, 51, 181, 0, 17, 42, 180, 0, 13, 29]
abbrev dktX1_initKey_7 : List UInt8 := dkwX1_initKey_7 ++ dktX1_initKey_8
def dkwX1_initKey_6 : List UInt8 := [17, 3, 0, 162, 0, 94, 42, 42, 180, 0, 13, 42, 180, 0, 17, 42, 180, 0, 13, 29, 17, 0, 255, 126]
abbrev dktX1_initKey_6 : List UInt8 := dkwX1_initKey_6 ++ dktX1_initKey_7
def dkwX1_initKey_5 : List UInt8 := [180, 0, 13, 42, 180, 0, 17, 17, 0, 255, 126, 21, 4, 84, 132, 3, 1, 167, 255, 161, 3, 62, 29]
abbrev dktX1_initKey_5 : List UInt8 := dkwX1_initKey_5 ++ dktX1_initKey_6
def dkwX1_initKey_4 : List UInt8 := [180, 0, 13, 29, 17, 0, 255, 126, 42, 180, 0, 13, 42, 180, 0, 17, 17, 0, 255, 126, 51, 84, 42]
abbrev dktX1_initKey_4 : List UInt8 := dkwX1_initKey_4 ++ dktX1_initKey_5
def dkwX1_initKey_3 : List UInt8 := [96, 17, 0, 255, 126, 51, 181, 0, 17, 42, 180, 0, 13, 29, 17, 0, 255, 126, 51, 54, 4, 42]
abbrev dktX1_initKey_3 : List UInt8 := dkwX1_initKey_3 ++ dktX1_initKey_4
def dkwX1_initKey_2 : List UInt8 := [180, 0, 13, 42, 180, 0, 17, 42, 180, 0, 13, 29, 17, 0, 255, 126, 51, 96, 43, 29, 43, 190, 112, 51]
abbrev dktX1_initKey_2 : List UInt8 := dkwX1_initKey_2 ++ dktX1_initKey_3
def dkwX1_initKey_1 : List UInt8 := [180, 0, 13, 29, 29, 145, 84, 132, 3, 1, 167, 255, 238, 3, 62, 29, 17, 3, 0, 162, 0, 94, 42, 42]
abbrev dktX1_initKey_1 : List UInt8 := dkwX1_initKey_1 ++ dktX1_initKey_2
def dkwX1_initKey_0 : List UInt8 := [42, 3, 181, 0, 17, 42, 17, 1, 0, 188, 8, 181, 0, 13, 3, 62, 29, 17, 1, 0, 162, 0, 17, 42]
abbrev dktX1_initKey_0 : List UInt8 := dkwX1_initKey_0 ++ dktX1_initKey_1
theorem dksX1_initKey_0 : cX1_initKey.data.toList.drop 0 = dktX1_initKey_0 := by decide +kernel
theorem dksX1_initKey_1 : cX1_initKey.data.toList.drop 24 = dktX1_initKey_1 := dk_seg dksX1_initKey_0 24 rfl rfl
theorem dksX1_initKey_2 : cX1_initKey.data.toList.drop 48 = dktX1_initKey_2 := dk_seg dksX1_initKey_1 24 rfl rfl
theorem dksX1_initKey_3 : cX1_initKey.data.toList.drop 72 = dktX1_initKey_3 := dk_seg dksX1_initKey_2 24 rfl rfl
theorem dksX1_initKey_4 : cX1_initKey.data.toList.drop 94 = dktX1_initKey_4 := dk_seg dksX1_initKey_3 22 rfl rfl
theorem dksX1_initKey_5 : cX1_initKey.data.toList.drop 117 = dktX1_initKey_5 := dk_seg dksX1_initKey_4 23 rfl rfl
theorem dksX1_initKey_6 : cX1_initKey.data.toList.drop 140 = dktX1_initKey_6 := dk_seg dksX1_initKey_5 23 rfl rfl
theorem dksX1_initKey_7 : cX1_initKey.data.toList.drop 164 = dktX1_initKey_7 := dk_seg dksX1_initKey_6 24 rfl rfl
theorem dksX1_initKey_8 : cX1_initKey.data.toList.drop 186 = dktX1_initKey_8 := dk_seg dksX1_initKey_7 22 rfl rfl
theorem dksX1_initKey_9 : cX1_initKey.data.toList.drop 210 = dktX1_initKey_9 := dk_seg dksX1_initKey_8 24 rfl rfl
theorem dksX1_initKey_10 : cX1_initKey.data.toList.drop 234 = dktX1_initKey_10 := dk_seg dksX1_initKey_9 24 rfl rfl
theorem dX1_initKey_0 : decode cX1_initKey 0 = .ok (.aload_n 0, 1) := dk_42 (dk_at dksX1_initKey_0 0 rfl rfl)
theorem dX1_initKey_1 : decode cX1_initKey 1 = .ok (.iconst 0, 1) := dk_3 (dk_at dksX1_initKey_0 1 rfl rfl)
theorem dX1_initKey_2 : decode cX1_initKey 2 = .ok (.putfield 17, 3) := dk_181 0 17 (dk_at dksX1_initKey_0 2 rfl rfl)
theorem dX1_initKey_5 : decode cX1_initKey 5 = .ok (.aload_n 0, 1) := dk_42 (dk_at dksX1_initKey_0 5 rfl rfl)
theorem dX1_initKey_6 : decode cX1_initKey 6 = .ok (.sipush 256, 3) := dk_17 1 0 (dk_at dksX1_initKey_0 6 rfl rfl)
theorem dX1_initKey_9 : decode cX1_initKey 9 = .ok (.newarray .byte, 2) := dk_188_8 (dk_at dksX1_initKey_0 9 rfl rfl)
theorem dX1_initKey_11 : decode cX1_initKey 11 = .ok (.putfield 13, 3) := dk_181 0 13 (dk_at dksX1_initKey_0 11 rfl rfl)
theorem dX1_initKey_14 : decode cX1_initKey 14 = .ok (.iconst 0, 1) := dk_3 (dk_at dksX1_initKey_0 14 rfl rfl)
theorem dX1_initKey_15 : decode cX1_initKey 15 = .ok (.istore_n 3, 1) := dk_62 (dk_at dksX1_initKey_0 15 rfl rfl)
theorem dX1_initKey_16 : decode cX1_initKey 16 = .ok (.iload_n 3, 1) := dk_29 (dk_at dksX1_initKey_0 16 rfl rfl)
theorem dX1_initKey_17 : decode cX1_initKey 17 = .ok (.sipush 256, 3) := dk_17 1 0 (dk_at dksX1_initKey_0 17 rfl rfl)
theorem dX1_initKey_20 : decode cX1_initKey 20 = .ok (.if_icmp .ge 17, 3) := dk_162 0 17 (dk_at dksX1_initKey_0 20 rfl rfl)
theorem dX1_initKey_23 : decode cX1_initKey 23 = .ok (.aload_n 0, 1) := dk_42 (dk_at dksX1_initKey_0 23 rfl rfl)
theorem dX1_initKey_24 : decode cX1_initKey 24 = .ok (.getfield 13, 3) := dk_180 0 13 (dk_at dksX1_initKey_1 0 rfl rfl)
theorem dX1_initKey_27 : decode cX1_initKey 27 = .ok (.iload_n 3, 1) := dk_29 (dk_at dksX1_initKey_1 3 rfl rfl)
theorem dX1_initKey_28 : decode cX1_initKey 28 = .ok (.iload_n 3, 1) := dk_29 (dk_at dksX1_initKey_1 4 rfl rfl)
theorem dX1_initKey_29 : decode cX1_initKey 29 = .ok (.i2b, 1) := dk_145 (dk_at dksX1_initKey_1 5 rfl rfl)
theorem dX1_initKey_30 : decode cX1_initKey 30 = .ok (.bastore, 1) := dk_84 (dk_at dksX1_initKey_1 6 rfl rfl)
theorem dX1_initKey_31 : decode cX1_initKey 31 = .ok (.iinc 3 1, 3) := dk_132 3 1 (dk_at dksX1_initKey_1 7 rfl rfl)
theorem dX1_initKey_34 : decode cX1_initKey 34 = .ok (.goto (-18), 3) := dk_167 255 238 (dk_at dksX1_initKey_1 10 rfl rfl)
theorem dX1_initKey_37 : decode cX1_initKey 37 = .ok (.iconst 0, 1) := dk_3 (dk_at dksX1_initKey_1 13 rfl rfl)
theorem dX1_initKey_38 : decode cX1_initKey 38 = .ok (.istore_n 3, 1) := dk_62 (dk_at dksX1_initKey_1 14 rfl rfl)
theorem dX1_initKey_39 : decode cX1_initKey 39 = .ok (.iload_n 3, 1) := dk_29 (dk_at dksX1_initKey_1 15 rfl rfl)
theorem dX1_initKey_40 : decode cX1_initKey 40 = .ok (.sipush 768, 3) := dk_17 3 0 (dk_at dksX1_initKey_1 16 rfl rfl)
theorem dX1_initKey_43 : decode cX1_initKey 43 = .ok (.if_icmp .ge 94, 3) := dk_162 0 94 (dk_at dksX1_initKey_1 19 rfl rfl)
theorem dX1_initKey_46 : decode cX1_initKey 46 = .ok (.aload_n 0, 1) := dk_42 (dk_at dksX1_initKey_1 22 rfl rfl)
theorem dX1_initKey_47 : decode cX1_initKey 47 = .ok (.aload_n 0, 1) := dk_42 (dk_at dksX1_initKey_1 23 rfl rfl)
theorem dX1_initKey_48 : decode cX1_initKey 48 = .ok (.getfield 13, 3) := dk_180 0 13 (dk_at dksX1_initKey_2 0 rfl rfl)
theorem dX1_initKey_51 : decode cX1_initKey 51 = .ok (.aload_n 0, 1) := dk_42 (dk_at dksX1_initKey_2 3 rfl rfl)
theorem dX1_initKey_52 : decode cX1_initKey 52 = .ok (.getfield 17, 3) := dk_180 0 17 (dk_at dksX1_initKey_2 4 rfl rfl)
theorem dX1_initKey_55 : decode cX1_initKey 55 = .ok (.aload_n 0, 1) := dk_42 (dk_at dksX1_initKey_2 7 rfl rfl)
theorem dX1_initKey_56 : decode cX1_initKey 56 = .ok (.getfield 13, 3) := dk_180 0 13 (dk_at dksX1_initKey_2 8 rfl rfl)
theorem dX1_initKey_59 : decode cX1_initKey 59 = .ok (.iload_n 3, 1) := dk_29 (dk_at dksX1_initKey_2 11 rfl rfl)
theorem dX1_initKey_60 : decode cX1_initKey 60 = .ok (.sipush 255, 3) := dk_17 0 255 (dk_at dksX1_initKey_2 12 rfl rfl)
theorem dX1_initKey_63 : decode cX1_initKey 63 = .ok (.iand, 1) := dk_126 (dk_at dksX1_initKey_2 15 rfl rfl)
theorem dX1_initKey_64 : decode cX1_initKey 64 = .ok (.baload, 1) := dk_51 (dk_at dksX1_initKey_2 16 rfl rfl)
theorem dX1_initKey_65 : decode cX1_initKey 65 = .ok (.iadd, 1) := dk_96 (dk_at dksX1_initKey_2 17 rfl rfl)
theorem dX1_initKey_66 : decode cX1_initKey 66 = .ok (.aload_n 1, 1) := dk_43 (dk_at dksX1_initKey_2 18 rfl rfl)
theorem dX1_initKey_67 : decode cX1_initKey 67 = .ok (.iload_n 3, 1) := dk_29 (dk_at dksX1_initKey_2 19 rfl rfl)
theorem dX1_initKey_68 : decode cX1_initKey 68 = .ok (.aload_n 1, 1) := dk_43 (dk_at dksX1_initKey_2 20 rfl rfl)
theorem dX1_initKey_69 : decode cX1_initKey 69 = .ok (.arraylength, 1) := dk_190 (dk_at dksX1_initKey_2 21 rfl rfl)
theorem dX1_initKey_70 : decode cX1_initKey 70 = .ok (.irem, 1) := dk_112 (dk_at dksX1_initKey_2 22 rfl rfl)
theorem dX1_initKey_71 : decode cX1_initKey 71 = .ok (.baload, 1) := dk_51 (dk_at dksX1_initKey_2 23 rfl rfl)
theorem dX1_initKey_72 : decode cX1_initKey 72 = .ok (.iadd, 1) := dk_96 (dk_at dksX1_initKey_3 0 rfl rfl)
theorem dX1_initKey_73 : decode cX1_initKey 73 = .ok (.sipush 255, 3) := dk_17 0 255 (dk_at dksX1_initKey_3 1 rfl rfl)
theorem dX1_initKey_76 : decode cX1_initKey 76 = .ok (.iand, 1) := dk_126 (dk_at dksX1_initKey_3 4 rfl rfl)
theorem dX1_initKey_77 : decode cX1_initKey 77 = .ok (.baload, 1) := dk_51 (dk_at dksX1_initKey_3 5 rfl rfl)
theorem dX1_initKey_78 : decode cX1_initKey 78 = .ok (.putfield 17, 3) := dk_181 0 17 (dk_at dksX1_initKey_3 6 rfl rfl)
theorem dX1_initKey_81 : decode cX1_initKey 81 = .ok (.aload_n 0, 1) := dk_42 (dk_at dksX1_initKey_3 9 rfl rfl)
theorem dX1_initKey_82 : decode cX1_initKey 82 = .ok (.getfield 13, 3) := dk_180 0 13 (dk_at dksX1_initKey_3 10 rfl rfl)
theorem dX1_initKey_85 : decode cX1_initKey 85 = .ok (.iload_n 3, 1) := dk_29 (dk_at dksX1_initKey_3 13 rfl rfl)
theorem dX1_initKey_86 : decode cX1_initKey 86 = .ok (.sipush 255, 3) := dk_17 0 255 (dk_at dksX1_initKey_3 14 rfl rfl)
theorem dX1_initKey_89 : decode cX1_initKey 89 = .ok (.iand, 1) := dk_126 (dk_at dksX1_initKey_3 17 rfl rfl)
theorem dX1_initKey_90 : decode cX1_initKey 90 = .ok (.baload, 1) := dk_51 (dk_at dksX1_initKey_3 18 rfl rfl)
theorem dX1_initKey_91 : decode cX1_initKey 91 = .ok (.istore 4, 2) := dk_54 4 (dk_at dksX1_initKey_3 19 rfl rfl)
theorem dX1_initKey_93 : decode cX1_initKey 93 = .ok (.aload_n 0, 1) := dk_42 (dk_at dksX1_initKey_3 21 rfl rfl)
theorem dX1_initKey_94 : decode cX1_initKey 94 = .ok (.getfield 13, 3) := dk_180 0 13 (dk_at dksX1_initKey_4 0 rfl rfl)
theorem dX1_initKey_97 : decode cX1_initKey 97 = .ok (.iload_n 3, 1) := dk_29 (dk_at dksX1_initKey_4 3 rfl rfl)
theorem dX1_initKey_98 : decode cX1_initKey 98 = .ok (.sipush 255, 3) := dk_17 0 255 (dk_at dksX1_initKey_4 4 rfl rfl)
theorem dX1_initKey_101 : decode cX1_initKey 101 = .ok (.iand, 1) := dk_126 (dk_at dksX1_initKey_4 7 rfl rfl)
theorem dX1_initKey_102 : decode cX1_initKey 102 = .ok (.aload_n 0, 1) := dk_42 (dk_at dksX1_initKey_4 8 rfl rfl)
theorem dX1_initKey_103 : decode cX1_initKey 103 = .ok (.getfield 13, 3) := dk_180 0 13 (dk_at dksX1_initKey_4 9 rfl rfl)
theorem dX1_initKey_106 : decode cX1_initKey 106 = .ok (.aload_n 0, 1) := dk_42 (dk_at dksX1_initKey_4 12 rfl rfl)
theorem dX1_initKey_107 : decode cX1_initKey 107 = .ok (.getfield 17, 3) := dk_180 0 17 (dk_at dksX1_initKey_4 13 rfl rfl)
theorem dX1_initKey_110 : decode cX1_initKey 110 = .ok (.sipush 255, 3) := dk_17 0 255 (dk_at dksX1_initKey_4 16 rfl rfl)
theorem dX1_initKey_113 : decode cX1_initKey 113 = .ok (.iand, 1) := dk_126 (dk_at dksX1_initKey_4 19 rfl rfl)
theorem dX1_initKey_114 : decode cX1_initKey 114 = .ok (.baload, 1) := dk_51 (dk_at dksX1_initKey_4 20 rfl rfl)
theorem dX1_initKey_115 : decode cX1_initKey 115 = .ok (.bastore, 1) := dk_84 (dk_at dksX1_initKey_4 21 rfl rfl)
theorem dX1_initKey_116 : decode cX1_initKey 116 = .ok (.aload_n 0, 1) := dk_42 (dk_at dksX1_initKey_4 22 rfl rfl)
theorem dX1_initKey_117 : decode cX1_initKey 117 = .ok (.getfield 13, 3) := dk_180 0 13 (dk_at dksX1_initKey_5 0 rfl rfl)
theorem dX1_initKey_120 : decode cX1_initKey 120 = .ok (.aload_n 0, 1) := dk_42 (dk_at dksX1_initKey_5 3 rfl rfl)
theorem dX1_initKey_121 : decode cX1_initKey 121 = .ok (.getfield 17, 3) := dk_180 0 17 (dk_at dksX1_initKey_5 4 rfl rfl)
theorem dX1_initKey_124 : decode cX1_initKey 124 = .ok (.sipush 255, 3) := dk_17 0 255 (dk_at dksX1_initKey_5 7 rfl rfl)
theorem dX1_initKey_127 : decode cX1_initKey 127 = .ok (.iand, 1) := dk_126 (dk_at dksX1_initKey_5 10 rfl rfl)
theorem dX1_initKey_128 : decode cX1_initKey 128 = .ok (.iload 4, 2) := dk_21 4 (dk_at dksX1_initKey_5 11 rfl rfl)
theorem dX1_initKey_130 : decode cX1_initKey 130 = .ok (.bastore, 1) := dk_84 (dk_at dksX1_initKey_5 13 rfl rfl)
theorem dX1_initKey_131 : decode cX1_initKey 131 = .ok (.iinc 3 1, 3) := dk_132 3 1 (dk_at dksX1_initKey_5 14 rfl rfl)
theorem dX1_initKey_134 : decode cX1_initKey 134 = .ok (.goto (-95), 3) := dk_167 255 161 (dk_at dksX1_initKey_5 17 rfl rfl)
theorem dX1_initKey_137 : decode cX1_initKey 137 = .ok (.iconst 0, 1) := dk_3 (dk_at dksX1_initKey_5 20 rfl rfl)
theorem dX1_initKey_138 : decode cX1_initKey 138 = .ok (.istore_n 3, 1) := dk_62 (dk_at dksX1_initKey_5 21 rfl rfl)
theorem dX1_initKey_139 : decode cX1_initKey 139 = .ok (.iload_n 3, 1) := dk_29 (dk_at dksX1_initKey_5 22 rfl rfl)
theorem dX1_initKey_140 : decode cX1_initKey 140 = .ok (.sipush 768, 3) := dk_17 3 0 (dk_at dksX1_initKey_6 0 rfl rfl)
theorem dX1_initKey_143 : decode cX1_initKey 143 = .ok (.if_icmp .ge 94, 3) := dk_162 0 94 (dk_at dksX1_initKey_6 3 rfl rfl)
theorem dX1_initKey_146 : decode cX1_initKey 146 = .ok (.aload_n 0, 1) := dk_42 (dk_at dksX1_initKey_6 6 rfl rfl)
theorem dX1_initKey_147 : decode cX1_initKey 147 = .ok (.aload_n 0, 1) := dk_42 (dk_at dksX1_initKey_6 7 rfl rfl)
theorem dX1_initKey_148 : decode cX1_initKey 148 = .ok (.getfield 13, 3) := dk_180 0 13 (dk_at dksX1_initKey_6 8 rfl rfl)
theorem dX1_initKey_151 : decode cX1_initKey 151 = .ok (.aload_n 0, 1) := dk_42 (dk_at dksX1_initKey_6 11 rfl rfl)
theorem dX1_initKey_152 : decode cX1_initKey 152 = .ok (.getfield 17, 3) := dk_180 0 17 (dk_at dksX1_initKey_6 12 rfl rfl)
theorem dX1_initKey_155 : decode cX1_initKey 155 = .ok (.aload_n 0, 1) := dk_42 (dk_at dksX1_initKey_6 15 rfl rfl)
theorem dX1_initKey_156 : decode cX1_initKey 156 = .ok (.getfield 13, 3) := dk_180 0 13 (dk_at dksX1_initKey_6 16 rfl rfl)
theorem dX1_initKey_159 : decode cX1_initKey 159 = .ok (.iload_n 3, 1) := dk_29 (dk_at dksX1_initKey_6 19 rfl rfl)
theorem dX1_initKey_160 : decode cX1_initKey 160 = .ok (.sipush 255, 3) := dk_17 0 255 (dk_at dksX1_initKey_6 20 rfl rfl)
theorem dX1_initKey_163 : decode cX1_initKey 163 = .ok (.iand, 1) := dk_126 (dk_at dksX1_initKey_6 23 rfl rfl)
theorem dX1_initKey_164 : decode cX1_initKey 164 = .ok (.baload, 1) := dk_51 (dk_at dksX1_initKey_7 0 rfl rfl)
theorem dX1_initKey_165 : decode cX1_initKey 165 = .ok (.iadd, 1) := dk_96 (dk_at dksX1_initKey_7 1 rfl rfl)
theorem dX1_initKey_166 : decode cX1_initKey 166 = .ok (.aload_n 2, 1) := dk_44 (dk_at dksX1_initKey_7 2 rfl rfl)
theorem dX1_initKey_167 : decode cX1_initKey 167 = .ok (.iload_n 3, 1) := dk_29 (dk_at dksX1_initKey_7 3 rfl rfl)
theorem dX1_initKey_168 : decode cX1_initKey 168 = .ok (.aload_n 2, 1) := dk_44 (dk_at dksX1_initKey_7 4 rfl rfl)
theorem dX1_initKey_169 : decode cX1_initKey 169 = .ok (.arraylength, 1) := dk_190 (dk_at dksX1_initKey_7 5 rfl rfl)
theorem dX1_initKey_170 : decode cX1_initKey 170 = .ok (.irem, 1) := dk_112 (dk_at dksX1_initKey_7 6 rfl rfl)
theorem dX1_initKey_171 : decode cX1_initKey 171 = .ok (.baload, 1) := dk_51 (dk_at dksX1_initKey_7 7 rfl rfl)
theorem dX1_initKey_172 : decode cX1_initKey 172 = .ok (.iadd, 1) := dk_96 (dk_at dksX1_initKey_7 8 rfl rfl)
theorem dX1_initKey_173 : decode cX1_initKey 173 = .ok (.sipush 255, 3) := dk_17 0 255 (dk_at dksX1_initKey_7 9 rfl rfl)
theorem dX1_initKey_176 : decode cX1_initKey 176 = .ok (.iand, 1) := dk_126 (dk_at dksX1_initKey_7 12 rfl rfl)
theorem dX1_initKey_177 : decode cX1_initKey 177 = .ok (.baload, 1) := dk_51 (dk_at dksX1_initKey_7 13 rfl rfl)
theorem dX1_initKey_178 : decode cX1_initKey 178 = .ok (.putfield 17, 3) := dk_181 0 17 (dk_at dksX1_initKey_7 14 rfl rfl)
theorem dX1_initKey_181 : decode cX1_initKey 181 = .ok (.aload_n 0, 1) := dk_42 (dk_at dksX1_initKey_7 17 rfl rfl)
theorem dX1_initKey_182 : decode cX1_initKey 182 = .ok (.getfield 13, 3) := dk_180 0 13 (dk_at dksX1_initKey_7 18 rfl rfl)
theorem dX1_initKey_185 : decode cX1_initKey 185 = .ok (.iload_n 3, 1) := dk_29 (dk_at dksX1_initKey_7 21 rfl rfl)
theorem dX1_initKey_186 : decode cX1_initKey 186 = .ok (.sipush 255, 3) := dk_17 0 255 (dk_at dksX1_initKey_8 0 rfl rfl)
theorem dX1_initKey_189 : decode cX1_initKey 189 = .ok (.iand, 1) := dk_126 (dk_at dksX1_initKey_8 3 rfl rfl)
theorem dX1_initKey_190 : decode cX1_initKey 190 = .ok (.baload, 1) := dk_51 (dk_at dksX1_initKey_8 4 rfl rfl)
theorem dX1_initKey_191 : decode cX1_initKey 191 = .ok (.istore 4, 2) := dk_54 4 (dk_at dksX1_initKey_8 5 rfl rfl)
theorem dX1_initKey_193 : decode cX1_initKey 193 = .ok (.aload_n 0, 1) := dk_42 (dk_at dksX1_initKey_8 7 rfl rfl)
theorem dX1_initKey_194 : decode cX1_initKey 194 = .ok (.getfield 13, 3) := dk_180 0 13 (dk_at dksX1_initKey_8 8 rfl rfl)
theorem dX1_initKey_197 : decode cX1_initKey 197 = .ok (.iload_n 3, 1) := dk_29 (dk_at dksX1_initKey_8 11 rfl rfl)
theorem dX1_initKey_198 : decode cX1_initKey 198 = .ok (.sipush 255, 3) := dk_17 0 255 (dk_at dksX1_initKey_8 12 rfl rfl)
theorem dX1_initKey_201 : decode cX1_initKey 201 = .ok (.iand, 1) := dk_126 (dk_at dksX1_initKey_8 15 rfl rfl)
theorem dX1_initKey_202 : decode cX1_initKey 202 = .ok (.aload_n 0, 1) := dk_42 (dk_at dksX1_initKey_8 16 rfl rfl)
theorem dX1_initKey_203 : decode cX1_initKey 203 = .ok (.getfield 13, 3) := dk_180 0 13 (dk_at dksX1_initKey_8 17 rfl rfl)
theorem dX1_initKey_206 : decode cX1_initKey 206 = .ok (.aload_n 0, 1) := dk_42 (dk_at dksX1_initKey_8 20 rfl rfl)
theorem dX1_initKey_207 : decode cX1_initKey 207 = .ok (.getfield 17, 3) := dk_180 0 17 (dk_at dksX1_initKey_8 21 rfl rfl)
theorem dX1_initKey_210 : decode cX1_initKey 210 = .ok (.sipush 255, 3) := dk_17 0 255 (dk_at dksX1_initKey_9 0 rfl rfl)
theorem dX1_initKey_213 : decode cX1_initKey 213 = .ok (.iand, 1) := dk_126 (dk_at dksX1_initKey_9 3 rfl rfl)
theorem dX1_initKey_214 : decode cX1_initKey 214 = .ok (.baload, 1) := dk_51 (dk_at dksX1_initKey_9 4 rfl rfl)
theorem dX1_initKey_215 : decode cX1_initKey 215 = .ok (.bastore, 1) := dk_84 (dk_at dksX1_initKey_9 5 rfl rfl)
theorem dX1_initKey_216 : decode cX1_initKey 216 = .ok (.aload_n 0, 1) := dk_42 (dk_at dksX1_initKey_9 6 rfl rfl)
theorem dX1_initKey_217 : decode cX1_initKey 217 = .ok (.getfield 13, 3) := dk_180 0 13 (dk_at dksX1_initKey_9 7 rfl rfl)
theorem dX1_initKey_220 : decode cX1_initKey 220 = .ok (.aload_n 0, 1) := dk_42 (dk_at dksX1_initKey_9 10 rfl rfl)
theorem dX1_initKey_221 : decode cX1_initKey 221 = .ok (.getfield 17, 3) := dk_180 0 17 (dk_at dksX1_initKey_9 11 rfl rfl)
theorem dX1_initKey_224 : decode cX1_initKey 224 = .ok (.sipush 255, 3) := dk_17 0 255 (dk_at dksX1_initKey_9 14 rfl rfl)
theorem dX1_initKey_227 : decode cX1_initKey 227 = .ok (.iand, 1) := dk_126 (dk_at dksX1_initKey_9 17 rfl rfl)
theorem dX1_initKey_228 : decode cX1_initKey 228 = .ok (.iload 4, 2) := dk_21 4 (dk_at dksX1_initKey_9 18 rfl rfl)
theorem dX1_initKey_230 : decode cX1_initKey 230 = .ok (.bastore, 1) := dk_84 (dk_at dksX1_initKey_9 20 rfl rfl)
theorem dX1_initKey_231 : decode cX1_initKey 231 = .ok (.iinc 3 1, 3) := dk_132 3 1 (dk_at dksX1_initKey_9 21 rfl rfl)
theorem dX1_initKey_234 : decode cX1_initKey 234 = .ok (.goto (-95), 3) := dk_167 255 161 (dk_at dksX1_initKey_10 0 rfl rfl)
theorem dX1_initKey_237 : decode cX1_initKey 237 = .ok (.aload_n 0, 1) := dk_42 (dk_at dksX1_initKey_10 3 rfl rfl)
theorem dX1_initKey_238 : decode cX1_initKey 238 = .ok (.iconst 0, 1) := dk_3 (dk_at dksX1_initKey_10 4 rfl rfl)
theorem dX1_initKey_239 : decode cX1_initKey 239 = .ok (.putfield 7, 3) := dk_181 0 7 (dk_at dksX1_initKey_10 5 rfl rfl)
theorem dX1_initKey_242 : decode cX1_initKey 242 = .ok (.return_, 1) := dk_177 (dk_at dksX1_initKey_10 8 rfl rfl)
abbrev cX1_processBytes : ByteArray := prog_7_method_4_code
def yX1_processBytes : MethodName := ⟨RX1, "processBytes", "([BII[BI)I"⟩
def dkwX1_processBytes_8 : List UInt8 := [21, 5, 96, 43, 21, 6, 28, 96, 51, 21, 7, 130, 145, 84, 132, 6, 1, 167, 255, 92, 29, 172]
abbrev dktX1_processBytes_8 : List UInt8 := dkwX1_processBytes_8 ++ []
def dkwX1_processBytes_7 : List UInt8 := [126, 21, 8, 84, 42, 42, 180, 0, 7, 4, 96, 17, 0, 255, 126, 145, 181, 0, 7, 25, 4, 21, 6]
abbrev dktX1_processBytes_7 : List UInt8 := dkwX1_processBytes_7 ++ dktX1_processBytes_8
def dkwX1_processBytes_6 : List UInt8 := [180, 0, 13, 42, 180, 0, 17, 17, 0, 255, 126, 51, 84, 42, 180, 0, 13, 42, 180, 0, 17, 17, 0, 255]
abbrev dktX1_processBytes_6 : List UInt8 := dkwX1_processBytes_6 ++ dktX1_processBytes_7
def dkwX1_processBytes_5 : List UInt8 := [180, 0, 7, 17, 0, 255, 126, 51, 54, 8, 42, 180, 0, 13, 42, 180, 0, 7, 17, 0, 255, 126, 42]
abbrev dktX1_processBytes_5 : List UInt8 := dkwX1_processBytes_5 ++ dktX1_processBytes_6
def dkwX1_processBytes_4 : List UInt8 := [17, 0, 255, 126, 51, 17, 0, 255, 126, 51, 4, 96, 17, 0, 255, 126, 51, 54, 7, 42, 180, 0, 13, 42]
abbrev dktX1_processBytes_4 : List UInt8 := dkwX1_processBytes_4 ++ dktX1_processBytes_5
def dkwX1_processBytes_3 : List UInt8 := [17, 0, 255, 126, 51, 181, 0, 17, 42, 180, 0, 13, 42, 180, 0, 13, 42, 180, 0, 13, 42, 180, 0, 17]
abbrev dktX1_processBytes_3 : List UInt8 := dkwX1_processBytes_3 ++ dktX1_processBytes_4
def dkwX1_processBytes_2 : List UInt8 := [42, 180, 0, 13, 42, 180, 0, 17, 42, 180, 0, 13, 42, 180, 0, 7, 17, 0, 255, 126, 51, 96]
abbrev dktX1_processBytes_2 : List UInt8 := dkwX1_processBytes_2 ++ dktX1_processBytes_3
def dkwX1_processBytes_1 : List UInt8 := [190, 164, 0, 13, 187, 0, 61, 89, 18, 63, 183, 0, 65, 191, 3, 54, 6, 21, 6, 29, 162, 0, 164, 42]
abbrev dktX1_processBytes_1 : List UInt8 := dkwX1_processBytes_1 ++ dktX1_processBytes_2
def dkwX1_processBytes_0 : List UInt8 := [28, 29, 96, 43, 190, 164, 0, 13, 187, 0, 56, 89, 18, 58, 183, 0, 60, 191, 21, 5, 29, 96, 25, 4]
abbrev dktX1_processBytes_0 : List UInt8 := dkwX1_processBytes_0 ++ dktX1_processBytes_1
theorem dksX1_processBytes_0 : cX1_processBytes.data.toList.drop 0 = dktX1_processBytes_0 := by decide +kernel
theorem dksX1_processBytes_1 : cX1_processBytes.data.toList.drop 24 = dktX1_processBytes_1 := dk_seg dksX1_processBytes_0 24 rfl rfl
theorem dksX1_processBytes_2 : cX1_processBytes.data.toList.drop 48 = dktX1_processBytes_2 := dk_seg dksX1_processBytes_1 24 rfl rfl
theorem dksX1_processBytes_3 : cX1_processBytes.data.toList.drop 70 = dktX1_processBytes_3 := dk_seg dksX1_processBytes_2 22 rfl rfl
theorem dksX1_processBytes_4 : cX1_processBytes.data.toList.drop 94 = dktX1_processBytes_4 := dk_seg dksX1_processBytes_3 24 rfl rfl
theorem dksX1_processBytes_5 : cX1_processBytes.data.toList.drop 118 = dktX1_processBytes_5 := dk_seg dksX1_processBytes_4 24 rfl rfl
theorem dksX1_processBytes_6 : cX1_processBytes.data.toList.drop 141 = dktX1_processBytes_6 := dk_seg dksX1_processBytes_5 23 rfl rfl
theorem dksX1_processBytes_7 : cX1_processBytes.data.toList.drop 165 = dktX1_processBytes_7 := dk_seg dksX1_processBytes_6 24 rfl rfl
theorem dksX1_processBytes_8 : cX1_processBytes.data.toList.drop 188 = dktX1_processBytes_8 := dk_seg dksX1_processBytes_7 23 rfl rfl
theorem dX1_processBytes_0 : decode cX1_processBytes 0 = .ok (.iload_n 2, 1) := dk_28 (dk_at dksX1_processBytes_0 0 rfl rfl)
theorem dX1_processBytes_1 : decode cX1_processBytes 1 = .ok (.iload_n 3, 1) := dk_29 (dk_at dksX1_processBytes_0 1 rfl rfl)
theorem dX1_processBytes_2 : decode cX1_processBytes 2 = .ok (.iadd, 1) := dk_96 (dk_at dksX1_processBytes_0 2 rfl rfl)
theorem dX1_processBytes_3 : decode cX1_processBytes 3 = .ok (.aload_n 1, 1) := dk_43 (dk_at dksX1_processBytes_0 3 rfl rfl)
theorem dX1_processBytes_4 : decode cX1_processBytes 4 = .ok (.arraylength, 1) := dk_190 (dk_at dksX1_processBytes_0 4 rfl rfl)
theorem dX1_processBytes_5 : decode cX1_processBytes 5 = .ok (.if_icmp .le 13, 3) := dk_164 0 13 (dk_at dksX1_processBytes_0 5 rfl rfl)
theorem dX1_processBytes_8 : decode cX1_processBytes 8 = .ok (.new 56, 3) := dk_187 0 56 (dk_at dksX1_processBytes_0 8 rfl rfl)
theorem dX1_processBytes_11 : decode cX1_processBytes 11 = .ok (.dup, 1) := dk_89 (dk_at dksX1_processBytes_0 11 rfl rfl)
theorem dX1_processBytes_12 : decode cX1_processBytes 12 = .ok (.ldc 58, 2) := dk_18 58 (dk_at dksX1_processBytes_0 12 rfl rfl)
theorem dX1_processBytes_14 : decode cX1_processBytes 14 = .ok (.invokespecial 60, 3) := dk_183 0 60 (dk_at dksX1_processBytes_0 14 rfl rfl)
theorem dX1_processBytes_17 : decode cX1_processBytes 17 = .ok (.athrow, 1) := dk_191 (dk_at dksX1_processBytes_0 17 rfl rfl)
theorem dX1_processBytes_18 : decode cX1_processBytes 18 = .ok (.iload 5, 2) := dk_21 5 (dk_at dksX1_processBytes_0 18 rfl rfl)
theorem dX1_processBytes_20 : decode cX1_processBytes 20 = .ok (.iload_n 3, 1) := dk_29 (dk_at dksX1_processBytes_0 20 rfl rfl)
theorem dX1_processBytes_21 : decode cX1_processBytes 21 = .ok (.iadd, 1) := dk_96 (dk_at dksX1_processBytes_0 21 rfl rfl)
theorem dX1_processBytes_22 : decode cX1_processBytes 22 = .ok (.aload 4, 2) := dk_25 4 (dk_at dksX1_processBytes_0 22 rfl rfl)
theorem dX1_processBytes_24 : decode cX1_processBytes 24 = .ok (.arraylength, 1) := dk_190 (dk_at dksX1_processBytes_1 0 rfl rfl)
theorem dX1_processBytes_25 : decode cX1_processBytes 25 = .ok (.if_icmp .le 13, 3) := dk_164 0 13 (dk_at dksX1_processBytes_1 1 rfl rfl)
theorem dX1_processBytes_28 : decode cX1_processBytes 28 = .ok (.new 61, 3) := dk_187 0 61 (dk_at dksX1_processBytes_1 4 rfl rfl)
theorem dX1_processBytes_31 : decode cX1_processBytes 31 = .ok (.dup, 1) := dk_89 (dk_at dksX1_processBytes_1 7 rfl rfl)
theorem dX1_processBytes_32 : decode cX1_processBytes 32 = .ok (.ldc 63, 2) := dk_18 63 (dk_at dksX1_processBytes_1 8 rfl rfl)
theorem dX1_processBytes_34 : decode cX1_processBytes 34 = .ok (.invokespecial 65, 3) := dk_183 0 65 (dk_at dksX1_processBytes_1 10 rfl rfl)
theorem dX1_processBytes_37 : decode cX1_processBytes 37 = .ok (.athrow, 1) := dk_191 (dk_at dksX1_processBytes_1 13 rfl rfl)
theorem dX1_processBytes_38 : decode cX1_processBytes 38 = .ok (.iconst 0, 1) := dk_3 (dk_at dksX1_processBytes_1 14 rfl rfl)
theorem dX1_processBytes_39 : decode cX1_processBytes 39 = .ok (.istore 6, 2) := dk_54 6 (dk_at dksX1_processBytes_1 15 rfl rfl)
theorem dX1_processBytes_41 : decode cX1_processBytes 41 = .ok (.iload 6, 2) := dk_21 6 (dk_at dksX1_processBytes_1 17 rfl rfl)
theorem dX1_processBytes_43 : decode cX1_processBytes 43 = .ok (.iload_n 3, 1) := dk_29 (dk_at dksX1_processBytes_1 19 rfl rfl)
theorem dX1_processBytes_44 : decode cX1_processBytes 44 = .ok (.if_icmp .ge 164, 3) := dk_162 0 164 (dk_at dksX1_processBytes_1 20 rfl rfl)
theorem dX1_processBytes_47 : decode cX1_processBytes 47 = .ok (.aload_n 0, 1) := dk_42 (dk_at dksX1_processBytes_1 23 rfl rfl)
theorem dX1_processBytes_48 : decode cX1_processBytes 48 = .ok (.aload_n 0, 1) := dk_42 (dk_at dksX1_processBytes_2 0 rfl rfl)
theorem dX1_processBytes_49 : decode cX1_processBytes 49 = .ok (.getfield 13, 3) := dk_180 0 13 (dk_at dksX1_processBytes_2 1 rfl rfl)
theorem dX1_processBytes_52 : decode cX1_processBytes 52 = .ok (.aload_n 0, 1) := dk_42 (dk_at dksX1_processBytes_2 4 rfl rfl)
theorem dX1_processBytes_53 : decode cX1_processBytes 53 = .ok (.getfield 17, 3) := dk_180 0 17 (dk_at dksX1_processBytes_2 5 rfl rfl)
theorem dX1_processBytes_56 : decode cX1_processBytes 56 = .ok (.aload_n 0, 1) := dk_42 (dk_at dksX1_processBytes_2 8 rfl rfl)
theorem dX1_processBytes_57 : decode cX1_processBytes 57 = .ok (.getfield 13, 3) := dk_180 0 13 (dk_at dksX1_processBytes_2 9 rfl rfl)
theorem dX1_processBytes_60 : decode cX1_processBytes 60 = .ok (.aload_n 0, 1) := dk_42 (dk_at dksX1_processBytes_2 12 rfl rfl)
theorem dX1_processBytes_61 : decode cX1_processBytes 61 = .ok (.getfield 7, 3) := dk_180 0 7 (dk_at dksX1_processBytes_2 13 rfl rfl)
theorem dX1_processBytes_64 : decode cX1_processBytes 64 = .ok (.sipush 255, 3) := dk_17 0 255 (dk_at dksX1_processBytes_2 16 rfl rfl)
theorem dX1_processBytes_67 : decode cX1_processBytes 67 = .ok (.iand, 1) := dk_126 (dk_at dksX1_processBytes_2 19 rfl rfl)
theorem dX1_processBytes_68 : decode cX1_processBytes 68 = .ok (.baload, 1) := dk_51 (dk_at dksX1_processBytes_2 20 rfl rfl)
theorem dX1_processBytes_69 : decode cX1_processBytes 69 = .ok (.iadd, 1) := dk_96 (dk_at dksX1_processBytes_2 21 rfl rfl)
theorem dX1_processBytes_70 : decode cX1_processBytes 70 = .ok (.sipush 255, 3) := dk_17 0 255 (dk_at dksX1_processBytes_3 0 rfl rfl)
theorem dX1_processBytes_73 : decode cX1_processBytes 73 = .ok (.iand, 1) := dk_126 (dk_at dksX1_processBytes_3 3 rfl rfl)
theorem dX1_processBytes_74 : decode cX1_processBytes 74 = .ok (.baload, 1) := dk_51 (dk_at dksX1_processBytes_3 4 rfl rfl)
theorem dX1_processBytes_75 : decode cX1_processBytes 75 = .ok (.putfield 17, 3) := dk_181 0 17 (dk_at dksX1_processBytes_3 5 rfl rfl)
theorem dX1_processBytes_78 : decode cX1_processBytes 78 = .ok (.aload_n 0, 1) := dk_42 (dk_at dksX1_processBytes_3 8 rfl rfl)
theorem dX1_processBytes_79 : decode cX1_processBytes 79 = .ok (.getfield 13, 3) := dk_180 0 13 (dk_at dksX1_processBytes_3 9 rfl rfl)
theorem dX1_processBytes_82 : decode cX1_processBytes 82 = .ok (.aload_n 0, 1) := dk_42 (dk_at dksX1_processBytes_3 12 rfl rfl)
theorem dX1_processBytes_83 : decode cX1_processBytes 83 = .ok (.getfield 13, 3) := dk_180 0 13 (dk_at dksX1_processBytes_3 13 rfl rfl)
theorem dX1_processBytes_86 : decode cX1_processBytes 86 = .ok (.aload_n 0, 1) := dk_42 (dk_at dksX1_processBytes_3 16 rfl rfl)
theorem dX1_processBytes_87 : decode cX1_processBytes 87 = .ok (.getfield 13, 3) := dk_180 0 13 (dk_at dksX1_processBytes_3 17 rfl rfl)
theorem dX1_processBytes_90 : decode cX1_processBytes 90 = .ok (.aload_n 0, 1) := dk_42 (dk_at dksX1_processBytes_3 20 rfl rfl)
theorem dX1_processBytes_91 : decode cX1_processBytes 91 = .ok (.getfield 17, 3) := dk_180 0 17 (dk_at dksX1_processBytes_3 21 rfl rfl)
theorem dX1_processBytes_94 : decode cX1_processBytes 94 = .ok (.sipush 255, 3) := dk_17 0 255 (dk_at dksX1_processBytes_4 0 rfl rfl)
theorem dX1_processBytes_97 : decode cX1_processBytes 97 = .ok (.iand, 1) := dk_126 (dk_at dksX1_processBytes_4 3 rfl rfl)
theorem dX1_processBytes_98 : decode cX1_processBytes 98 = .ok (.baload, 1) := dk_51 (dk_at dksX1_processBytes_4 4 rfl rfl)
theorem dX1_processBytes_99 : decode cX1_processBytes 99 = .ok (.sipush 255, 3) := dk_17 0 255 (dk_at dksX1_processBytes_4 5 rfl rfl)
theorem dX1_processBytes_102 : decode cX1_processBytes 102 = .ok (.iand, 1) := dk_126 (dk_at dksX1_processBytes_4 8 rfl rfl)
theorem dX1_processBytes_103 : decode cX1_processBytes 103 = .ok (.baload, 1) := dk_51 (dk_at dksX1_processBytes_4 9 rfl rfl)
theorem dX1_processBytes_104 : decode cX1_processBytes 104 = .ok (.iconst 1, 1) := dk_4 (dk_at dksX1_processBytes_4 10 rfl rfl)
theorem dX1_processBytes_105 : decode cX1_processBytes 105 = .ok (.iadd, 1) := dk_96 (dk_at dksX1_processBytes_4 11 rfl rfl)
theorem dX1_processBytes_106 : decode cX1_processBytes 106 = .ok (.sipush 255, 3) := dk_17 0 255 (dk_at dksX1_processBytes_4 12 rfl rfl)
theorem dX1_processBytes_109 : decode cX1_processBytes 109 = .ok (.iand, 1) := dk_126 (dk_at dksX1_processBytes_4 15 rfl rfl)
theorem dX1_processBytes_110 : decode cX1_processBytes 110 = .ok (.baload, 1) := dk_51 (dk_at dksX1_processBytes_4 16 rfl rfl)
theorem dX1_processBytes_111 : decode cX1_processBytes 111 = .ok (.istore 7, 2) := dk_54 7 (dk_at dksX1_processBytes_4 17 rfl rfl)
theorem dX1_processBytes_113 : decode cX1_processBytes 113 = .ok (.aload_n 0, 1) := dk_42 (dk_at dksX1_processBytes_4 19 rfl rfl)
theorem dX1_processBytes_114 : decode cX1_processBytes 114 = .ok (.getfield 13, 3) := dk_180 0 13 (dk_at dksX1_processBytes_4 20 rfl rfl)
theorem dX1_processBytes_117 : decode cX1_processBytes 117 = .ok (.aload_n 0, 1) := dk_42 (dk_at dksX1_processBytes_4 23 rfl rfl)
theorem dX1_processBytes_118 : decode cX1_processBytes 118 = .ok (.getfield 7, 3) := dk_180 0 7 (dk_at dksX1_processBytes_5 0 rfl rfl)
theorem dX1_processBytes_121 : decode cX1_processBytes 121 = .ok (.sipush 255, 3) := dk_17 0 255 (dk_at dksX1_processBytes_5 3 rfl rfl)
theorem dX1_processBytes_124 : decode cX1_processBytes 124 = .ok (.iand, 1) := dk_126 (dk_at dksX1_processBytes_5 6 rfl rfl)
theorem dX1_processBytes_125 : decode cX1_processBytes 125 = .ok (.baload, 1) := dk_51 (dk_at dksX1_processBytes_5 7 rfl rfl)
theorem dX1_processBytes_126 : decode cX1_processBytes 126 = .ok (.istore 8, 2) := dk_54 8 (dk_at dksX1_processBytes_5 8 rfl rfl)
theorem dX1_processBytes_128 : decode cX1_processBytes 128 = .ok (.aload_n 0, 1) := dk_42 (dk_at dksX1_processBytes_5 10 rfl rfl)
theorem dX1_processBytes_129 : decode cX1_processBytes 129 = .ok (.getfield 13, 3) := dk_180 0 13 (dk_at dksX1_processBytes_5 11 rfl rfl)
theorem dX1_processBytes_132 : decode cX1_processBytes 132 = .ok (.aload_n 0, 1) := dk_42 (dk_at dksX1_processBytes_5 14 rfl rfl)
theorem dX1_processBytes_133 : decode cX1_processBytes 133 = .ok (.getfield 7, 3) := dk_180 0 7 (dk_at dksX1_processBytes_5 15 rfl rfl)
theorem dX1_processBytes_136 : decode cX1_processBytes 136 = .ok (.sipush 255, 3) := dk_17 0 255 (dk_at dksX1_processBytes_5 18 rfl rfl)
theorem dX1_processBytes_139 : decode cX1_processBytes 139 = .ok (.iand, 1) := dk_126 (dk_at dksX1_processBytes_5 21 rfl rfl)
theorem dX1_processBytes_140 : decode cX1_processBytes 140 = .ok (.aload_n 0, 1) := dk_42 (dk_at dksX1_processBytes_5 22 rfl rfl)
theorem dX1_processBytes_141 : decode cX1_processBytes 141 = .ok (.getfield 13, 3) := dk_180 0 13 (dk_at dksX1_processBytes_6 0 rfl rfl)
theorem dX1_processBytes_144 : decode cX1_processBytes 144 = .ok (.aload_n 0, 1) := dk_42 (dk_at dksX1_processBytes_6 3 rfl rfl)
theorem dX1_processBytes_145 : decode cX1_processBytes 145 = .ok (.getfield 17, 3) := dk_180 0 17 (dk_at dksX1_processBytes_6 4 rfl rfl)
theorem dX1_processBytes_148 : decode cX1_processBytes 148 = .ok (.sipush 255, 3) := dk_17 0 255 (dk_at dksX1_processBytes_6 7 rfl rfl)
theorem dX1_processBytes_151 : decode cX1_processBytes 151 = .ok (.iand, 1) := dk_126 (dk_at dksX1_processBytes_6 10 rfl rfl)
theorem dX1_processBytes_152 : decode cX1_processBytes 152 = .ok (.baload, 1) := dk_51 (dk_at dksX1_processBytes_6 11 rfl rfl)
theorem dX1_processBytes_153 : decode cX1_processBytes 153 = .ok (.bastore, 1) := dk_84 (dk_at dksX1_processBytes_6 12 rfl rfl)
theorem dX1_processBytes_154 : decode cX1_processBytes 154 = .ok (.aload_n 0, 1) := dk_42 (dk_at dksX1_processBytes_6 13 rfl rfl)
theorem dX1_processBytes_155 : decode cX1_processBytes 155 = .ok (.getfield 13, 3) := dk_180 0 13 (dk_at dksX1_processBytes_6 14 rfl rfl)
theorem dX1_processBytes_158 : decode cX1_processBytes 158 = .ok (.aload_n 0, 1) := dk_42 (dk_at dksX1_processBytes_6 17 rfl rfl)
theorem dX1_processBytes_159 : decode cX1_processBytes 159 = .ok (.getfield 17, 3) := dk_180 0 17 (dk_at dksX1_processBytes_6 18 rfl rfl)
theorem dX1_processBytes_162 : decode cX1_processBytes 162 = .ok (.sipush 255, 3) := dk_17 0 255 (dk_at dksX1_processBytes_6 21 rfl rfl)
theorem dX1_processBytes_165 : decode cX1_processBytes 165 = .ok (.iand, 1) := dk_126 (dk_at dksX1_processBytes_7 0 rfl rfl)
theorem dX1_processBytes_166 : decode cX1_processBytes 166 = .ok (.iload 8, 2) := dk_21 8 (dk_at dksX1_processBytes_7 1 rfl rfl)
theorem dX1_processBytes_168 : decode cX1_processBytes 168 = .ok (.bastore, 1) := dk_84 (dk_at dksX1_processBytes_7 3 rfl rfl)
theorem dX1_processBytes_169 : decode cX1_processBytes 169 = .ok (.aload_n 0, 1) := dk_42 (dk_at dksX1_processBytes_7 4 rfl rfl)
theorem dX1_processBytes_170 : decode cX1_processBytes 170 = .ok (.aload_n 0, 1) := dk_42 (dk_at dksX1_processBytes_7 5 rfl rfl)
theorem dX1_processBytes_171 : decode cX1_processBytes 171 = .ok (.getfield 7, 3) := dk_180 0 7 (dk_at dksX1_processBytes_7 6 rfl rfl)
theorem dX1_processBytes_174 : decode cX1_processBytes 174 = .ok (.iconst 1, 1) := dk_4 (dk_at dksX1_processBytes_7 9 rfl rfl)
theorem dX1_processBytes_175 : decode cX1_processBytes 175 = .ok (.iadd, 1) := dk_96 (dk_at dksX1_processBytes_7 10 rfl rfl)
theorem dX1_processBytes_176 : decode cX1_processBytes 176 = .ok (.sipush 255, 3) := dk_17 0 255 (dk_at dksX1_processBytes_7 11 rfl rfl)
theorem dX1_processBytes_179 : decode cX1_processBytes 179 = .ok (.iand, 1) := dk_126 (dk_at dksX1_processBytes_7 14 rfl rfl)
theorem dX1_processBytes_180 : decode cX1_processBytes 180 = .ok (.i2b, 1) := dk_145 (dk_at dksX1_processBytes_7 15 rfl rfl)
theorem dX1_processBytes_181 : decode cX1_processBytes 181 = .ok (.putfield 7, 3) := dk_181 0 7 (dk_at dksX1_processBytes_7 16 rfl rfl)
theorem dX1_processBytes_184 : decode cX1_processBytes 184 = .ok (.aload 4, 2) := dk_25 4 (dk_at dksX1_processBytes_7 19 rfl rfl)
theorem dX1_processBytes_186 : decode cX1_processBytes 186 = .ok (.iload 6, 2) := dk_21 6 (dk_at dksX1_processBytes_7 21 rfl rfl)
theorem dX1_processBytes_188 : decode cX1_processBytes 188 = .ok (.iload 5, 2) := dk_21 5 (dk_at dksX1_processBytes_8 0 rfl rfl)
theorem dX1_processBytes_190 : decode cX1_processBytes 190 = .ok (.iadd, 1) := dk_96 (dk_at dksX1_processBytes_8 2 rfl rfl)
theorem dX1_processBytes_191 : decode cX1_processBytes 191 = .ok (.aload_n 1, 1) := dk_43 (dk_at dksX1_processBytes_8 3 rfl rfl)
theorem dX1_processBytes_192 : decode cX1_processBytes 192 = .ok (.iload 6, 2) := dk_21 6 (dk_at dksX1_processBytes_8 4 rfl rfl)
theorem dX1_processBytes_194 : decode cX1_processBytes 194 = .ok (.iload_n 2, 1) := dk_28 (dk_at dksX1_processBytes_8 6 rfl rfl)
theorem dX1_processBytes_195 : decode cX1_processBytes 195 = .ok (.iadd, 1) := dk_96 (dk_at dksX1_processBytes_8 7 rfl rfl)
theorem dX1_processBytes_196 : decode cX1_processBytes 196 = .ok (.baload, 1) := dk_51 (dk_at dksX1_processBytes_8 8 rfl rfl)
theorem dX1_processBytes_197 : decode cX1_processBytes 197 = .ok (.iload 7, 2) := dk_21 7 (dk_at dksX1_processBytes_8 9 rfl rfl)
theorem dX1_processBytes_199 : decode cX1_processBytes 199 = .ok (.ixor, 1) := dk_130 (dk_at dksX1_processBytes_8 11 rfl rfl)
theorem dX1_processBytes_200 : decode cX1_processBytes 200 = .ok (.i2b, 1) := dk_145 (dk_at dksX1_processBytes_8 12 rfl rfl)
theorem dX1_processBytes_201 : decode cX1_processBytes 201 = .ok (.bastore, 1) := dk_84 (dk_at dksX1_processBytes_8 13 rfl rfl)
theorem dX1_processBytes_202 : decode cX1_processBytes 202 = .ok (.iinc 6 1, 3) := dk_132 6 1 (dk_at dksX1_processBytes_8 14 rfl rfl)
theorem dX1_processBytes_205 : decode cX1_processBytes 205 = .ok (.goto (-164), 3) := dk_167 255 92 (dk_at dksX1_processBytes_8 17 rfl rfl)
theorem dX1_processBytes_208 : decode cX1_processBytes 208 = .ok (.iload_n 3, 1) := dk_29 (dk_at dksX1_processBytes_8 20 rfl rfl)
theorem dX1_processBytes_209 : decode cX1_processBytes 209 = .ok (.ireturn, 1) := dk_172 (dk_at dksX1_processBytes_8 21 rfl rfl)
abbrev cX1_returnByte : ByteArray := prog_7_method_6_code
def yX1_returnByte : MethodName := ⟨RX1, "returnByte", "(B)B"⟩
def dkwX1_returnByte_5 : List UInt8 := [126, 29, 84, 42, 42, 180, 0, 7, 4, 96, 17, 0, 255, 126, 145, 181, 0, 7, 27, 28, 130, 145, 172]
abbrev dktX1_returnByte_5 : List UInt8 := dkwX1_returnByte_5 ++ []
def dkwX1_returnByte_4 : List UInt8 := [180, 0, 13, 42, 180, 0, 17, 17, 0, 255, 126, 51, 84, 42, 180, 0, 13, 42, 180, 0, 17, 17, 0, 255]
abbrev dktX1_returnByte_4 : List UInt8 := dkwX1_returnByte_4 ++ dktX1_returnByte_5
def dkwX1_returnByte_3 : List UInt8 := [180, 0, 7, 17, 0, 255, 126, 51, 62, 42, 180, 0, 13, 42, 180, 0, 7, 17, 0, 255, 126, 42]
abbrev dktX1_returnByte_3 : List UInt8 := dkwX1_returnByte_3 ++ dktX1_returnByte_4
def dkwX1_returnByte_2 : List UInt8 := [17, 0, 255, 126, 51, 17, 0, 255, 126, 51, 4, 96, 17, 0, 255, 126, 51, 61, 42, 180, 0, 13, 42]
abbrev dktX1_returnByte_2 : List UInt8 := dkwX1_returnByte_2 ++ dktX1_returnByte_3
def dkwX1_returnByte_1 : List UInt8 := [17, 0, 255, 126, 51, 181, 0, 17, 42, 180, 0, 13, 42, 180, 0, 13, 42, 180, 0, 13, 42, 180, 0, 17]
abbrev dktX1_returnByte_1 : List UInt8 := dkwX1_returnByte_1 ++ dktX1_returnByte_2
def dkwX1_returnByte_0 : List UInt8 := [42, 42, 180, 0, 13, 42, 180, 0, 17, 42, 180, 0, 13, 42, 180, 0, 7, 17, 0, 255, 126, 51, 96]
abbrev dktX1_returnByte_0 : List UInt8 := dkwX1_returnByte_0 ++ dktX1_returnByte_1
theorem dksX1_returnByte_0 : cX1_returnByte.data.toList.drop 0 = dktX1_returnByte_0 := by decide +kernel
theorem dksX1_returnByte_1 : cX1_returnByte.data.toList.drop 23 = dktX1_returnByte_1 := dk_seg dksX1_returnByte_0 23 rfl rfl
theorem dksX1_returnByte_2 : cX1_returnByte.data.toList.drop 47 = dktX1_returnByte_2 := dk_seg dksX1_returnByte_1 24 rfl rfl
theorem dksX1_returnByte_3 : cX1_returnByte.data.toList.drop 70 = dktX1_returnByte_3 := dk_seg dksX1_returnByte_2 23 rfl rfl
theorem dksX1_returnByte_4 : cX1_returnByte.data.toList.drop 92 = dktX1_returnByte_4 := dk_seg dksX1_returnByte_3 22 rfl rfl
theorem dksX1_returnByte_5 : cX1_returnByte.data.toList.drop 116 = dktX1_returnByte_5 := dk_seg dksX1_returnByte_4 24 rfl rfl
theorem dX1_returnByte_0 : decode cX1_returnByte 0 = .ok (.aload_n 0, 1) := dk_42 (dk_at dksX1_returnByte_0 0 rfl rfl)
theorem dX1_returnByte_1 : decode cX1_returnByte 1 = .ok (.aload_n 0, 1) := dk_42 (dk_at dksX1_returnByte_0 1 rfl rfl)
theorem dX1_returnByte_2 : decode cX1_returnByte 2 = .ok (.getfield 13, 3) := dk_180 0 13 (dk_at dksX1_returnByte_0 2 rfl rfl)
theorem dX1_returnByte_5 : decode cX1_returnByte 5 = .ok (.aload_n 0, 1) := dk_42 (dk_at dksX1_returnByte_0 5 rfl rfl)
theorem dX1_returnByte_6 : decode cX1_returnByte 6 = .ok (.getfield 17, 3) := dk_180 0 17 (dk_at dksX1_returnByte_0 6 rfl rfl)
theorem dX1_returnByte_9 : decode cX1_returnByte 9 = .ok (.aload_n 0, 1) := dk_42 (dk_at dksX1_returnByte_0 9 rfl rfl)
theorem dX1_returnByte_10 : decode cX1_returnByte 10 = .ok (.getfield 13, 3) := dk_180 0 13 (dk_at dksX1_returnByte_0 10 rfl rfl)
theorem dX1_returnByte_13 : decode cX1_returnByte 13 = .ok (.aload_n 0, 1) := dk_42 (dk_at dksX1_returnByte_0 13 rfl rfl)
theorem dX1_returnByte_14 : decode cX1_returnByte 14 = .ok (.getfield 7, 3) := dk_180 0 7 (dk_at dksX1_returnByte_0 14 rfl rfl)
theorem dX1_returnByte_17 : decode cX1_returnByte 17 = .ok (.sipush 255, 3) := dk_17 0 255 (dk_at dksX1_returnByte_0 17 rfl rfl)
theorem dX1_returnByte_20 : decode cX1_returnByte 20 = .ok (.iand, 1) := dk_126 (dk_at dksX1_returnByte_0 20 rfl rfl)
theorem dX1_returnByte_21 : decode cX1_returnByte 21 = .ok (.baload, 1) := dk_51 (dk_at dksX1_returnByte_0 21 rfl rfl)
theorem dX1_returnByte_22 : decode cX1_returnByte 22 = .ok (.iadd, 1) := dk_96 (dk_at dksX1_returnByte_0 22 rfl rfl)
theorem dX1_returnByte_23 : decode cX1_returnByte 23 = .ok (.sipush 255, 3) := dk_17 0 255 (dk_at dksX1_returnByte_1 0 rfl rfl)
theorem dX1_returnByte_26 : decode cX1_returnByte 26 = .ok (.iand, 1) := dk_126 (dk_at dksX1_returnByte_1 3 rfl rfl)
theorem dX1_returnByte_27 : decode cX1_returnByte 27 = .ok (.baload, 1) := dk_51 (dk_at dksX1_returnByte_1 4 rfl rfl)
theorem dX1_returnByte_28 : decode cX1_returnByte 28 = .ok (.putfield 17, 3) := dk_181 0 17 (dk_at dksX1_returnByte_1 5 rfl rfl)
theorem dX1_returnByte_31 : decode cX1_returnByte 31 = .ok (.aload_n 0, 1) := dk_42 (dk_at dksX1_returnByte_1 8 rfl rfl)
theorem dX1_returnByte_32 : decode cX1_returnByte 32 = .ok (.getfield 13, 3) := dk_180 0 13 (dk_at dksX1_returnByte_1 9 rfl rfl)
theorem dX1_returnByte_35 : decode cX1_returnByte 35 = .ok (.aload_n 0, 1) := dk_42 (dk_at dksX1_returnByte_1 12 rfl rfl)
theorem dX1_returnByte_36 : decode cX1_returnByte 36 = .ok (.getfield 13, 3) := dk_180 0 13 (dk_at dksX1_returnByte_1 13 rfl rfl)
theorem dX1_returnByte_39 : decode cX1_returnByte 39 = .ok (.aload_n 0, 1) := dk_42 (dk_at dksX1_returnByte_1 16 rfl rfl)
theorem dX1_returnByte_40 : decode cX1_returnByte 40 = .ok (.getfield 13, 3) := dk_180 0 13 (dk_at dksX1_returnByte_1 17 rfl rfl)
theorem dX1_returnByte_43 : decode cX1_returnByte 43 = .ok (.aload_n 0, 1) := dk_42 (dk_at dksX1_returnByte_1 20 rfl rfl)
theorem dX1_returnByte_44 : decode cX1_returnByte 44 = .ok (.getfield 17, 3) := dk_180 0 17 (dk_at dksX1_returnByte_1 21 rfl rfl)
theorem dX1_returnByte_47 : decode cX1_returnByte 47 = .ok (.sipush 255, 3) := dk_17 0 255 (dk_at dksX1_returnByte_2 0 rfl rfl)
theorem dX1_returnByte_50 : decode cX1_returnByte 50 = .ok (.iand, 1) := dk_126 (dk_at dksX1_returnByte_2 3 rfl rfl)
theorem dX1_returnByte_51 : decode cX1_returnByte 51 = .ok (.baload, 1) := dk_51 (dk_at dksX1_returnByte_2 4 rfl rfl)
theorem dX1_returnByte_52 : decode cX1_returnByte 52 = .ok (.sipush 255, 3) := dk_17 0 255 (dk_at dksX1_returnByte_2 5 rfl rfl)
theorem dX1_returnByte_55 : decode cX1_returnByte 55 = .ok (.iand, 1) := dk_126 (dk_at dksX1_returnByte_2 8 rfl rfl)
theorem dX1_returnByte_56 : decode cX1_returnByte 56 = .ok (.baload, 1) := dk_51 (dk_at dksX1_returnByte_2 9 rfl rfl)
theorem dX1_returnByte_57 : decode cX1_returnByte 57 = .ok (.iconst 1, 1) := dk_4 (dk_at dksX1_returnByte_2 10 rfl rfl)
theorem dX1_returnByte_58 : decode cX1_returnByte 58 = .ok (.iadd, 1) := dk_96 (dk_at dksX1_returnByte_2 11 rfl rfl)
theorem dX1_returnByte_59 : decode cX1_returnByte 59 = .ok (.sipush 255, 3) := dk_17 0 255 (dk_at dksX1_returnByte_2 12 rfl rfl)
theorem dX1_returnByte_62 : decode cX1_returnByte 62 = .ok (.iand, 1) := dk_126 (dk_at dksX1_returnByte_2 15 rfl rfl)
theorem dX1_returnByte_63 : decode cX1_returnByte 63 = .ok (.baload, 1) := dk_51 (dk_at dksX1_returnByte_2 16 rfl rfl)
theorem dX1_returnByte_64 : decode cX1_returnByte 64 = .ok (.istore_n 2, 1) := dk_61 (dk_at dksX1_returnByte_2 17 rfl rfl)
theorem dX1_returnByte_65 : decode cX1_returnByte 65 = .ok (.aload_n 0, 1) := dk_42 (dk_at dksX1_returnByte_2 18 rfl rfl)
theorem dX1_returnByte_66 : decode cX1_returnByte 66 = .ok (.getfield 13, 3) := dk_180 0 13 (dk_at dksX1_returnByte_2 19 rfl rfl)
theorem dX1_returnByte_69 : decode cX1_returnByte 69 = .ok (.aload_n 0, 1) := dk_42 (dk_at dksX1_returnByte_2 22 rfl rfl)
theorem dX1_returnByte_70 : decode cX1_returnByte 70 = .ok (.getfield 7, 3) := dk_180 0 7 (dk_at dksX1_returnByte_3 0 rfl rfl)
theorem dX1_returnByte_73 : decode cX1_returnByte 73 = .ok (.sipush 255, 3) := dk_17 0 255 (dk_at dksX1_returnByte_3 3 rfl rfl)
theorem dX1_returnByte_76 : decode cX1_returnByte 76 = .ok (.iand, 1) := dk_126 (dk_at dksX1_returnByte_3 6 rfl rfl)
theorem dX1_returnByte_77 : decode cX1_returnByte 77 = .ok (.baload, 1) := dk_51 (dk_at dksX1_returnByte_3 7 rfl rfl)
theorem dX1_returnByte_78 : decode cX1_returnByte 78 = .ok (.istore_n 3, 1) := dk_62 (dk_at dksX1_returnByte_3 8 rfl rfl)
theorem dX1_returnByte_79 : decode cX1_returnByte 79 = .ok (.aload_n 0, 1) := dk_42 (dk_at dksX1_returnByte_3 9 rfl rfl)
theorem dX1_returnByte_80 : decode cX1_returnByte 80 = .ok (.getfield 13, 3) := dk_180 0 13 (dk_at dksX1_returnByte_3 10 rfl rfl)
theorem dX1_returnByte_83 : decode cX1_returnByte 83 = .ok (.aload_n 0, 1) := dk_42 (dk_at dksX1_returnByte_3 13 rfl rfl)
theorem dX1_returnByte_84 : decode cX1_returnByte 84 = .ok (.getfield 7, 3) := dk_180 0 7 (dk_at dksX1_returnByte_3 14 rfl rfl)
theorem dX1_returnByte_87 : decode cX1_returnByte 87 = .ok (.sipush 255, 3) := dk_17 0 255 (dk_at dksX1_returnByte_3 17 rfl rfl)
theorem dX1_returnByte_90 : decode cX1_returnByte 90 = .ok (.iand, 1) := dk_126 (dk_at dksX1_returnByte_3 20 rfl rfl)
theorem dX1_returnByte_91 : decode cX1_returnByte 91 = .ok (.aload_n 0, 1) := dk_42 (dk_at dksX1_returnByte_3 21 rfl rfl)
theorem dX1_returnByte_92 : decode cX1_returnByte 92 = .ok (.getfield 13, 3) := dk_180 0 13 (dk_at dksX1_returnByte_4 0 rfl rfl)
theorem dX1_returnByte_95 : decode cX1_returnByte 95 = .ok (.aload_n 0, 1) := dk_42 (dk_at dksX1_returnByte_4 3 rfl rfl)
theorem dX1_returnByte_96 : decode cX1_returnByte 96 = .ok (.getfield 17, 3) := dk_180 0 17 (dk_at dksX1_returnByte_4 4 rfl rfl)
theorem dX1_returnByte_99 : decode cX1_returnByte 99 = .ok (.sipush 255, 3) := dk_17 0 255 (dk_at dksX1_returnByte_4 7 rfl rfl)
theorem dX1_returnByte_102 : decode cX1_returnByte 102 = .ok (.iand, 1) := dk_126 (dk_at dksX1_returnByte_4 10 rfl rfl)
theorem dX1_returnByte_103 : decode cX1_returnByte 103 = .ok (.baload, 1) := dk_51 (dk_at dksX1_returnByte_4 11 rfl rfl)
theorem dX1_returnByte_104 : decode cX1_returnByte 104 = .ok (.bastore, 1) := dk_84 (dk_at dksX1_returnByte_4 12 rfl rfl)
theorem dX1_returnByte_105 : decode cX1_returnByte 105 = .ok (.aload_n 0, 1) := dk_42 (dk_at dksX1_returnByte_4 13 rfl rfl)
theorem dX1_returnByte_106 : decode cX1_returnByte 106 = .ok (.getfield 13, 3) := dk_180 0 13 (dk_at dksX1_returnByte_4 14 rfl rfl)
theorem dX1_returnByte_109 : decode cX1_returnByte 109 = .ok (.aload_n 0, 1) := dk_42 (dk_at dksX1_returnByte_4 17 rfl rfl)
theorem dX1_returnByte_110 : decode cX1_returnByte 110 = .ok (.getfield 17, 3) := dk_180 0 17 (dk_at dksX1_returnByte_4 18 rfl rfl)
theorem dX1_returnByte_113 : decode cX1_returnByte 113 = .ok (.sipush 255, 3) := dk_17 0 255 (dk_at dksX1_returnByte_4 21 rfl rfl)
theorem dX1_returnByte_116 : decode cX1_returnByte 116 = .ok (.iand, 1) := dk_126 (dk_at dksX1_returnByte_5 0 rfl rfl)
theorem dX1_returnByte_117 : decode cX1_returnByte 117 = .ok (.iload_n 3, 1) := dk_29 (dk_at dksX1_returnByte_5 1 rfl rfl)
theorem dX1_returnByte_118 : decode cX1_returnByte 118 = .ok (.bastore, 1) := dk_84 (dk_at dksX1_returnByte_5 2 rfl rfl)
theorem dX1_returnByte_119 : decode cX1_returnByte 119 = .ok (.aload_n 0, 1) := dk_42 (dk_at dksX1_returnByte_5 3 rfl rfl)
theorem dX1_returnByte_120 : decode cX1_returnByte 120 = .ok (.aload_n 0, 1) := dk_42 (dk_at dksX1_returnByte_5 4 rfl rfl)
theorem dX1_returnByte_121 : decode cX1_returnByte 121 = .ok (.getfield 7, 3) := dk_180 0 7 (dk_at dksX1_returnByte_5 5 rfl rfl)
theorem dX1_returnByte_124 : decode cX1_returnByte 124 = .ok (.iconst 1, 1) := dk_4 (dk_at dksX1_returnByte_5 8 rfl rfl)
theorem dX1_returnByte_125 : decode cX1_returnByte 125 = .ok (.iadd, 1) := dk_96 (dk_at dksX1_returnByte_5 9 rfl rfl)
theorem dX1_returnByte_126 : decode cX1_returnByte 126 = .ok (.sipush 255, 3) := dk_17 0 255 (dk_at dksX1_returnByte_5 10 rfl rfl)
theorem dX1_returnByte_129 : decode cX1_returnByte 129 = .ok (.iand, 1) := dk_126 (dk_at dksX1_returnByte_5 13 rfl rfl)
theorem dX1_returnByte_130 : decode cX1_returnByte 130 = .ok (.i2b, 1) := dk_145 (dk_at dksX1_returnByte_5 14 rfl rfl)
theorem dX1_returnByte_131 : decode cX1_returnByte 131 = .ok (.putfield 7, 3) := dk_181 0 7 (dk_at dksX1_returnByte_5 15 rfl rfl)
theorem dX1_returnByte_134 : decode cX1_returnByte 134 = .ok (.iload_n 1, 1) := dk_27 (dk_at dksX1_returnByte_5 18 rfl rfl)
theorem dX1_returnByte_135 : decode cX1_returnByte 135 = .ok (.iload_n 2, 1) := dk_28 (dk_at dksX1_returnByte_5 19 rfl rfl)
theorem dX1_returnByte_136 : decode cX1_returnByte 136 = .ok (.ixor, 1) := dk_130 (dk_at dksX1_returnByte_5 20 rfl rfl)
theorem dX1_returnByte_137 : decode cX1_returnByte 137 = .ok (.i2b, 1) := dk_145 (dk_at dksX1_returnByte_5 21 rfl rfl)
theorem dX1_returnByte_138 : decode cX1_returnByte 138 = .ok (.ireturn, 1) := dk_172 (dk_at dksX1_returnByte_5 22 rfl rfl)
abbrev cX1_reset : ByteArray := prog_7_method_5_code
def yX1_reset : MethodName := ⟨RX1, "reset", "()V"⟩
def dkwX1_reset_0 : List UInt8 := [42, 42, 180, 0, 49, 42, 180, 0, 41, 182, 0, 52, 177]
abbrev dktX1_reset_0 : List UInt8 := dkwX1_reset_0 ++ []
theorem dksX1_reset_0 : cX1_reset.data.toList.drop 0 = dktX1_reset_0 := by decide +kernel
theorem dX1_reset_0 : decode cX1_reset 0 = .ok (.aload_n 0, 1) := dk_42 (dk_at dksX1_reset_0 0 rfl rfl)
theorem dX1_reset_1 : decode cX1_reset 1 = .ok (.aload_n 0, 1) := dk_42 (dk_at dksX1_reset_0 1 rfl rfl)
theorem dX1_reset_2 : decode cX1_reset 2 = .ok (.getfield 49, 3) := dk_180 0 49 (dk_at dksX1_reset_0 2 rfl rfl)
theorem dX1_reset_5 : decode cX1_reset 5 = .ok (.aload_n 0, 1) := dk_42 (dk_at dksX1_reset_0 5 rfl rfl)
theorem dX1_reset_6 : decode cX1_reset 6 = .ok (.getfield 41, 3) := dk_180 0 41 (dk_at dksX1_reset_0 6 rfl rfl)
theorem dX1_reset_9 : decode cX1_reset 9 = .ok (.invokevirtual 52, 3) := dk_182 0 52 (dk_at dksX1_reset_0 9 rfl rfl)
theorem dX1_reset_12 : decode cX1_reset 12 = .ok (.return_, 1) := dk_177 (dk_at dksX1_reset_0 12 rfl rfl)
theorem q10 : (Jvm.Cond.initialized "VMPCEngine") ∈ lw_all := lw_g (lw_at lw_m1 2 rfl) rfl
theorem q31 : (Jvm.Cond.instantiable "VMPCEngine" (5 : Nat)) ∈ lw_all := lw_g (lw_at lw_m1 23 rfl) rfl
theorem q33 : (Jvm.Cond.instanceMethod ({ cls := "VMPCEngine", name := "<init>", desc := "()V" } : Jvm.MethodName)) ∈ lw_all := lw_g (lw_at lw_m1 25 rfl) rfl
theorem q34 : (Jvm.Cond.code ({ cls := "VMPCEngine", name := "<init>", desc := "()V" } : Jvm.MethodName) prog_7_method_1_code (1 : Nat) (Option.none : Option Jvm.ClassFile.FieldType)) ∈ lw_all := lw_g (lw_at lw_m1 26 rfl) rfl
theorem q35 : (Jvm.Cond.methodLink "VMPCEngine" (1 : Nat) ({ cls := "java/lang/Object", name := "<init>", desc := "()V" } : Jvm.MethodName)) ∈ lw_all := lw_g (lw_at lw_m1 27 rfl) rfl
theorem q36 : (Jvm.Cond.fieldLink "VMPCEngine" (7 : Nat) "VMPCEngine" "n" "B") ∈ lw_all := lw_g (lw_at lw_m1 28 rfl) rfl
theorem q37 : (Jvm.Cond.fieldLink "VMPCEngine" (13 : Nat) "VMPCEngine" "P" "[B") ∈ lw_all := lw_g (lw_at lw_m1 29 rfl) rfl
theorem q38 : (Jvm.Cond.fieldLink "VMPCEngine" (17 : Nat) "VMPCEngine" "s" "B") ∈ lw_all := lw_g (lw_at lw_m1 30 rfl) rfl
theorem q39 : (Jvm.Cond.fieldLink "VMPCEngine" (41 : Nat) "VMPCEngine" "workingIV" "[B") ∈ lw_all := lw_g (lw_at lw_m1 31 rfl) rfl
theorem q40 : (Jvm.Cond.fieldLink "VMPCEngine" (49 : Nat) "VMPCEngine" "workingKey" "[B") ∈ lw_all := lw_g (lw_at lw_m1 32 rfl) rfl
theorem q41 : (Jvm.Cond.lays "VMPCEngine" "VMPCEngine" "n" "B") ∈ lw_all := lw_g (lw_at lw_m1 33 rfl) rfl
theorem q42 : (Jvm.Cond.soleField "VMPCEngine" "n") ∈ lw_all := lw_g (lw_at lw_m1 34 rfl) rfl
theorem q43 : (Jvm.Cond.lays "VMPCEngine" "VMPCEngine" "P" "[B") ∈ lw_all := lw_g (lw_at lw_m1 35 rfl) rfl
theorem q44 : (Jvm.Cond.soleField "VMPCEngine" "P") ∈ lw_all := lw_g (lw_at lw_m1 36 rfl) rfl
theorem q45 : (Jvm.Cond.lays "VMPCEngine" "VMPCEngine" "s" "B") ∈ lw_all := lw_g (lw_at lw_m1 37 rfl) rfl
theorem q46 : (Jvm.Cond.soleField "VMPCEngine" "s") ∈ lw_all := lw_g (lw_at lw_m1 38 rfl) rfl
theorem q47 : (Jvm.Cond.lays "VMPCEngine" "VMPCEngine" "workingIV" "[B") ∈ lw_all := lw_g (lw_at lw_m1 39 rfl) rfl
theorem q48 : (Jvm.Cond.soleField "VMPCEngine" "workingIV") ∈ lw_all := lw_g (lw_at lw_m1 40 rfl) rfl
theorem q49 : (Jvm.Cond.lays "VMPCEngine" "VMPCEngine" "workingKey" "[B") ∈ lw_all := lw_g (lw_at lw_m1 41 rfl) rfl
theorem q50 : (Jvm.Cond.soleField "VMPCEngine" "workingKey") ∈ lw_all := lw_g (lw_at lw_m1 42 rfl) rfl
theorem q51 : (Jvm.Cond.superclass "VMPCEngine" "java/lang/Object") ∈ lw_all := lw_g (lw_at lw_m1 43 rfl) rfl
theorem q143 : (Jvm.Cond.instanceMethod ({ cls := "VMPCEngine", name := "init", desc := "(ZLCipherParameters;)V" } : Jvm.MethodName)) ∈ lw_all := lw_g (lw_at lw_m1 135 rfl) rfl
theorem q144 : (Jvm.Cond.selects "VMPCEngine" ({ cls := "VMPCEngine", name := "init", desc := "(ZLCipherParameters;)V" } : Jvm.MethodName) ({ cls := "VMPCEngine", name := "init", desc := "(ZLCipherParameters;)V" } : Jvm.MethodName)) ∈ lw_all := lw_g (lw_at lw_m1 136 rfl) rfl
theorem q145 : (Jvm.Cond.code ({ cls := "VMPCEngine", name := "init", desc := "(ZLCipherParameters;)V" } : Jvm.MethodName) prog_7_method_2_code (5 : Nat) (Option.none : Option Jvm.ClassFile.FieldType)) ∈ lw_all := lw_g (lw_at lw_m1 137 rfl) rfl
theorem q146 : (Jvm.Cond.classLink "VMPCEngine" (20 : Nat) "ParametersWithIV") ∈ lw_all := lw_g (lw_at lw_m1 138 rfl) rfl
theorem q147 : (Jvm.Cond.classLink "VMPCEngine" (22 : Nat) "java/lang/IllegalArgumentException") ∈ lw_all := lw_g (lw_at lw_m1 139 rfl) rfl
theorem q188 : (Jvm.Cond.stringRef "VMPCEngine" (24 : Nat) "VMPC init parameters must include an IV") ∈ lw_tbl := lw_at lw_m1 180 rfl
theorem q189 : (Jvm.Cond.methodLink "VMPCEngine" (26 : Nat) ({ cls := "java/lang/IllegalArgumentException", name := "<init>", desc := "(Ljava/lang/String;)V" } : Jvm.MethodName)) ∈ lw_all := lw_g (lw_at lw_m1 181 rfl) rfl
theorem q214 : (Jvm.Cond.methodLink "VMPCEngine" (29 : Nat) ({ cls := "ParametersWithIV", name := "getParameters", desc := "()LCipherParameters;" } : Jvm.MethodName)) ∈ lw_all := lw_g (lw_at lw_m1 206 rfl) rfl
theorem q218 : (Jvm.Cond.classLink "VMPCEngine" (33 : Nat) "KeyParameter") ∈ lw_all := lw_g (lw_at lw_m1 210 rfl) rfl
theorem q219 : (Jvm.Cond.stringRef "VMPCEngine" (35 : Nat) "VMPC init parameters must include a key") ∈ lw_tbl := lw_at lw_m1 211 rfl
theorem q220 : (Jvm.Cond.methodLink "VMPCEngine" (37 : Nat) ({ cls := "ParametersWithIV", name := "getIV", desc := "()[B" } : Jvm.MethodName)) ∈ lw_all := lw_g (lw_at lw_m1 212 rfl) rfl
theorem q224 : (Jvm.Cond.stringRef "VMPCEngine" (44 : Nat) "VMPC requires 1 to 768 bytes of IV") ∈ lw_tbl := lw_at lw_m1 216 rfl
theorem q225 : (Jvm.Cond.methodLink "VMPCEngine" (46 : Nat) ({ cls := "KeyParameter", name := "getKey", desc := "()[B" } : Jvm.MethodName)) ∈ lw_all := lw_g (lw_at lw_m1 217 rfl) rfl
theorem q229 : (Jvm.Cond.methodLink "VMPCEngine" (52 : Nat) ({ cls := "VMPCEngine", name := "initKey", desc := "([B[B)V" } : Jvm.MethodName)) ∈ lw_all := lw_g (lw_at lw_m1 221 rfl) rfl
theorem q230 : (Jvm.Cond.instanceMethod ({ cls := "VMPCEngine", name := "initKey", desc := "([B[B)V" } : Jvm.MethodName)) ∈ lw_all := lw_g (lw_at lw_m1 222 rfl) rfl
theorem q231 : (Jvm.Cond.selects "VMPCEngine" ({ cls := "VMPCEngine", name := "initKey", desc := "([B[B)V" } : Jvm.MethodName) ({ cls := "VMPCEngine", name := "initKey", desc := "([B[B)V" } : Jvm.MethodName)) ∈ lw_all := lw_g (lw_at lw_m1 223 rfl) rfl
theorem q232 : (Jvm.Cond.code ({ cls := "VMPCEngine", name := "initKey", desc := "([B[B)V" } : Jvm.MethodName) prog_7_method_3_code (5 : Nat) (Option.none : Option Jvm.ClassFile.FieldType)) ∈ lw_all := lw_g (lw_at lw_m1 224 rfl) rfl
theorem q242 : (Jvm.Cond.instanceMethod ({ cls := "VMPCEngine", name := "processBytes", desc := "([BII[BI)I" } : Jvm.MethodName)) ∈ lw_all := lw_g (lw_at lw_m1 234 rfl) rfl
theorem q243 : (Jvm.Cond.selects "VMPCEngine" ({ cls := "VMPCEngine", name := "processBytes", desc := "([BII[BI)I" } : Jvm.MethodName) ({ cls := "VMPCEngine", name := "processBytes", desc := "([BII[BI)I" } : Jvm.MethodName)) ∈ lw_all := lw_g (lw_at lw_m1 235 rfl) rfl
theorem q244 : (Jvm.Cond.code ({ cls := "VMPCEngine", name := "processBytes", desc := "([BII[BI)I" } : Jvm.MethodName) prog_7_method_4_code (9 : Nat) (Option.some Jvm.ClassFile.FieldType.int)) ∈ lw_all := lw_g (lw_at lw_m1 236 rfl) rfl
theorem q245 : (Jvm.Cond.classLink "VMPCEngine" (56 : Nat) "DataLengthException") ∈ lw_all := lw_g (lw_at lw_m1 237 rfl) rfl
theorem q255 : (Jvm.Cond.stringRef "VMPCEngine" (58 : Nat) "input buffer too short") ∈ lw_tbl := lw_at lw_m2 7 rfl
theorem q256 : (Jvm.Cond.methodLink "VMPCEngine" (60 : Nat) ({ cls := "DataLengthException", name := "<init>", desc := "(Ljava/lang/String;)V" } : Jvm.MethodName)) ∈ lw_all := lw_g (lw_at lw_m2 8 rfl) rfl
theorem q265 : (Jvm.Cond.classLink "VMPCEngine" (61 : Nat) "OutputLengthException") ∈ lw_all := lw_g (lw_at lw_m2 17 rfl) rfl
theorem q275 : (Jvm.Cond.stringRef "VMPCEngine" (63 : Nat) "output buffer too short") ∈ lw_tbl := lw_at lw_m2 27 rfl
theorem q276 : (Jvm.Cond.methodLink "VMPCEngine" (65 : Nat) ({ cls := "OutputLengthException", name := "<init>", desc := "(Ljava/lang/String;)V" } : Jvm.MethodName)) ∈ lw_all := lw_g (lw_at lw_m2 28 rfl) rfl
theorem q287 : (Jvm.Cond.instanceMethod ({ cls := "VMPCEngine", name := "returnByte", desc := "(B)B" } : Jvm.MethodName)) ∈ lw_all := lw_g (lw_at lw_m2 39 rfl) rfl
theorem q288 : (Jvm.Cond.selects "VMPCEngine" ({ cls := "VMPCEngine", name := "returnByte", desc := "(B)B" } : Jvm.MethodName) ({ cls := "VMPCEngine", name := "returnByte", desc := "(B)B" } : Jvm.MethodName)) ∈ lw_all := lw_g (lw_at lw_m2 40 rfl) rfl
theorem q289 : (Jvm.Cond.code ({ cls := "VMPCEngine", name := "returnByte", desc := "(B)B" } : Jvm.MethodName) prog_7_method_6_code (4 : Nat) (Option.some Jvm.ClassFile.FieldType.byte)) ∈ lw_all := lw_g (lw_at lw_m2 41 rfl) rfl
theorem q295 : (Jvm.Cond.instanceMethod ({ cls := "VMPCEngine", name := "reset", desc := "()V" } : Jvm.MethodName)) ∈ lw_all := lw_g (lw_at lw_m2 47 rfl) rfl
theorem q296 : (Jvm.Cond.selects "VMPCEngine" ({ cls := "VMPCEngine", name := "reset", desc := "()V" } : Jvm.MethodName) ({ cls := "VMPCEngine", name := "reset", desc := "()V" } : Jvm.MethodName)) ∈ lw_all := lw_g (lw_at lw_m2 48 rfl) rfl
theorem q297 : (Jvm.Cond.code ({ cls := "VMPCEngine", name := "reset", desc := "()V" } : Jvm.MethodName) prog_7_method_5_code (1 : Nat) (Option.none : Option Jvm.ClassFile.FieldType)) ∈ lw_all := lw_g (lw_at lw_m2 49 rfl) rfl
theorem in_X1 : ∀ w ∈ wsX10, w ∈ lw_all := lw_in wsX10 [41, 43, 45, 47, 49] (by decide +kernel) (by decide +kernel)
end
section
/-! VmpcDeskModel -/
set_option maxRecDepth 100000
def RX2 : String := "VmpcDeskModel"
def TX2 : u_T := fun k => match k with
  | 0 => ("VmpcDeskModel", "key", "[B", true)
  | 1 => ("VmpcDeskModel", "nonce", "[B", true)
  | 2 => ("VmpcDeskModel", "text", "[B", true)
  | 3 => ("VmpcDeskModel", "size", "I", false)
  | 4 => ("VmpcDeskModel", "out", "[B", false)
  | 5 => ("VmpcDeskModel", "isSet", "Z", false)
  | 6 => ("VmpcDeskModel", "given", "I", false)
  | 7 => ("VmpcDeskModel", "begunKey", "[B", true)
  | 8 => ("VmpcDeskModel", "begunNonce", "[B", true)
  | 9 => ("VmpcDeskModel", "row", "[I", true)
  | 10 => ("VmpcDeskModel", "sum", "I", false)
  | _ => ("VmpcDeskModel", "at", "I", false)
def tyX2 : Nat → FieldType := fun k => match k with
  | 0 => .array .byte
  | 1 => .array .byte
  | 2 => .array .byte
  | 3 => .int
  | 4 => .array .byte
  | 5 => .boolean
  | 6 => .int
  | 7 => .array .byte
  | 8 => .array .byte
  | 9 => .array .int
  | 10 => .int
  | _ => .int
abbrev wsX20 : List Cond := u_ws RX2 TX2 12
theorem nmX2 : ∀ a, a < 12 → ∀ b, b < 12 → a ≠ b → (TX2 a).2.1 ≠ (TX2 b).2.1 := by decide +kernel
theorem tyX2_ok : ∀ k, k < 12 → parseFieldDescriptor (TX2 k).2.2.1 = some (tyX2 k) := by decide +kernel
abbrev cX2_init : ByteArray := prog_10_method_1_code
def yX2_init : MethodName := ⟨RX2, "<init>", "()V"⟩
def dkwX2_init_2 : List UInt8 := [188, 8, 181, 0, 25, 42, 17, 1, 0, 188, 10, 181, 0, 28, 177]
abbrev dktX2_init_2 : List UInt8 := dkwX2_init_2 ++ []
def dkwX2_init_1 : List UInt8 := [188, 8, 181, 0, 16, 42, 3, 188, 8, 181, 0, 19, 42, 16, 16, 188, 8, 181, 0, 22, 42, 16, 16]
abbrev dktX2_init_1 : List UInt8 := dkwX2_init_1 ++ dktX2_init_2
def dkwX2_init_0 : List UInt8 := [42, 183, 0, 1, 42, 16, 32, 188, 8, 181, 0, 7, 42, 16, 32, 188, 8, 181, 0, 13, 42, 17, 1, 0]
abbrev dktX2_init_0 : List UInt8 := dkwX2_init_0 ++ dktX2_init_1
theorem dksX2_init_0 : cX2_init.data.toList.drop 0 = dktX2_init_0 := by decide +kernel
theorem dksX2_init_1 : cX2_init.data.toList.drop 24 = dktX2_init_1 := dk_seg dksX2_init_0 24 rfl rfl
theorem dksX2_init_2 : cX2_init.data.toList.drop 47 = dktX2_init_2 := dk_seg dksX2_init_1 23 rfl rfl
theorem dX2_init_0 : decode cX2_init 0 = .ok (.aload_n 0, 1) := dk_42 (dk_at dksX2_init_0 0 rfl rfl)
theorem dX2_init_1 : decode cX2_init 1 = .ok (.invokespecial 1, 3) := dk_183 0 1 (dk_at dksX2_init_0 1 rfl rfl)
theorem dX2_init_4 : decode cX2_init 4 = .ok (.aload_n 0, 1) := dk_42 (dk_at dksX2_init_0 4 rfl rfl)
theorem dX2_init_5 : decode cX2_init 5 = .ok (.bipush 32, 2) := dk_16 32 (dk_at dksX2_init_0 5 rfl rfl)
theorem dX2_init_7 : decode cX2_init 7 = .ok (.newarray .byte, 2) := dk_188_8 (dk_at dksX2_init_0 7 rfl rfl)
theorem dX2_init_9 : decode cX2_init 9 = .ok (.putfield 7, 3) := dk_181 0 7 (dk_at dksX2_init_0 9 rfl rfl)
theorem dX2_init_12 : decode cX2_init 12 = .ok (.aload_n 0, 1) := dk_42 (dk_at dksX2_init_0 12 rfl rfl)
theorem dX2_init_13 : decode cX2_init 13 = .ok (.bipush 32, 2) := dk_16 32 (dk_at dksX2_init_0 13 rfl rfl)
theorem dX2_init_15 : decode cX2_init 15 = .ok (.newarray .byte, 2) := dk_188_8 (dk_at dksX2_init_0 15 rfl rfl)
theorem dX2_init_17 : decode cX2_init 17 = .ok (.putfield 13, 3) := dk_181 0 13 (dk_at dksX2_init_0 17 rfl rfl)
theorem dX2_init_20 : decode cX2_init 20 = .ok (.aload_n 0, 1) := dk_42 (dk_at dksX2_init_0 20 rfl rfl)
theorem dX2_init_21 : decode cX2_init 21 = .ok (.sipush 256, 3) := dk_17 1 0 (dk_at dksX2_init_0 21 rfl rfl)
theorem dX2_init_24 : decode cX2_init 24 = .ok (.newarray .byte, 2) := dk_188_8 (dk_at dksX2_init_1 0 rfl rfl)
theorem dX2_init_26 : decode cX2_init 26 = .ok (.putfield 16, 3) := dk_181 0 16 (dk_at dksX2_init_1 2 rfl rfl)
theorem dX2_init_29 : decode cX2_init 29 = .ok (.aload_n 0, 1) := dk_42 (dk_at dksX2_init_1 5 rfl rfl)
theorem dX2_init_30 : decode cX2_init 30 = .ok (.iconst 0, 1) := dk_3 (dk_at dksX2_init_1 6 rfl rfl)
theorem dX2_init_31 : decode cX2_init 31 = .ok (.newarray .byte, 2) := dk_188_8 (dk_at dksX2_init_1 7 rfl rfl)
theorem dX2_init_33 : decode cX2_init 33 = .ok (.putfield 19, 3) := dk_181 0 19 (dk_at dksX2_init_1 9 rfl rfl)
theorem dX2_init_36 : decode cX2_init 36 = .ok (.aload_n 0, 1) := dk_42 (dk_at dksX2_init_1 12 rfl rfl)
theorem dX2_init_37 : decode cX2_init 37 = .ok (.bipush 16, 2) := dk_16 16 (dk_at dksX2_init_1 13 rfl rfl)
theorem dX2_init_39 : decode cX2_init 39 = .ok (.newarray .byte, 2) := dk_188_8 (dk_at dksX2_init_1 15 rfl rfl)
theorem dX2_init_41 : decode cX2_init 41 = .ok (.putfield 22, 3) := dk_181 0 22 (dk_at dksX2_init_1 17 rfl rfl)
theorem dX2_init_44 : decode cX2_init 44 = .ok (.aload_n 0, 1) := dk_42 (dk_at dksX2_init_1 20 rfl rfl)
theorem dX2_init_45 : decode cX2_init 45 = .ok (.bipush 16, 2) := dk_16 16 (dk_at dksX2_init_1 21 rfl rfl)
theorem dX2_init_47 : decode cX2_init 47 = .ok (.newarray .byte, 2) := dk_188_8 (dk_at dksX2_init_2 0 rfl rfl)
theorem dX2_init_49 : decode cX2_init 49 = .ok (.putfield 25, 3) := dk_181 0 25 (dk_at dksX2_init_2 2 rfl rfl)
theorem dX2_init_52 : decode cX2_init 52 = .ok (.aload_n 0, 1) := dk_42 (dk_at dksX2_init_2 5 rfl rfl)
theorem dX2_init_53 : decode cX2_init 53 = .ok (.sipush 256, 3) := dk_17 1 0 (dk_at dksX2_init_2 6 rfl rfl)
theorem dX2_init_56 : decode cX2_init 56 = .ok (.newarray .int, 2) := dk_188_10 (dk_at dksX2_init_2 9 rfl rfl)
theorem dX2_init_58 : decode cX2_init 58 = .ok (.putfield 28, 3) := dk_181 0 28 (dk_at dksX2_init_2 11 rfl rfl)
theorem dX2_init_61 : decode cX2_init 61 = .ok (.return_, 1) := dk_177 (dk_at dksX2_init_2 14 rfl rfl)
abbrev cX2_put : ByteArray := prog_10_method_3_code
def yX2_put : MethodName := ⟨RX2, "put", "(IIII)Z"⟩
def dkwX2_put_3 : List UInt8 := [180, 0, 32, 16, 16, 96, 181, 0, 32, 4, 172]
abbrev dktX2_put_3 : List UInt8 := dkwX2_put_3 ++ []
def dkwX2_put_2 : List UInt8 := [96, 29, 184, 0, 36, 42, 180, 0, 16, 42, 180, 0, 32, 16, 12, 96, 21, 4, 184, 0, 36, 42, 89]
abbrev dktX2_put_2 : List UInt8 := dkwX2_put_2 ++ dktX2_put_3
def dkwX2_put_1 : List UInt8 := [42, 180, 0, 16, 42, 180, 0, 32, 7, 96, 28, 184, 0, 36, 42, 180, 0, 16, 42, 180, 0, 32, 16, 8]
abbrev dktX2_put_1 : List UInt8 := dkwX2_put_1 ++ dktX2_put_2
def dkwX2_put_0 : List UInt8 := [42, 180, 0, 32, 17, 0, 240, 164, 0, 5, 3, 172, 42, 180, 0, 16, 42, 180, 0, 32, 27, 184, 0, 36]
abbrev dktX2_put_0 : List UInt8 := dkwX2_put_0 ++ dktX2_put_1
theorem dksX2_put_0 : cX2_put.data.toList.drop 0 = dktX2_put_0 := by decide +kernel
theorem dksX2_put_1 : cX2_put.data.toList.drop 24 = dktX2_put_1 := dk_seg dksX2_put_0 24 rfl rfl
theorem dksX2_put_2 : cX2_put.data.toList.drop 48 = dktX2_put_2 := dk_seg dksX2_put_1 24 rfl rfl
theorem dksX2_put_3 : cX2_put.data.toList.drop 71 = dktX2_put_3 := dk_seg dksX2_put_2 23 rfl rfl
theorem dX2_put_0 : decode cX2_put 0 = .ok (.aload_n 0, 1) := dk_42 (dk_at dksX2_put_0 0 rfl rfl)
theorem dX2_put_1 : decode cX2_put 1 = .ok (.getfield 32, 3) := dk_180 0 32 (dk_at dksX2_put_0 1 rfl rfl)
theorem dX2_put_4 : decode cX2_put 4 = .ok (.sipush 240, 3) := dk_17 0 240 (dk_at dksX2_put_0 4 rfl rfl)
theorem dX2_put_7 : decode cX2_put 7 = .ok (.if_icmp .le 5, 3) := dk_164 0 5 (dk_at dksX2_put_0 7 rfl rfl)
theorem dX2_put_10 : decode cX2_put 10 = .ok (.iconst 0, 1) := dk_3 (dk_at dksX2_put_0 10 rfl rfl)
theorem dX2_put_11 : decode cX2_put 11 = .ok (.ireturn, 1) := dk_172 (dk_at dksX2_put_0 11 rfl rfl)
theorem dX2_put_12 : decode cX2_put 12 = .ok (.aload_n 0, 1) := dk_42 (dk_at dksX2_put_0 12 rfl rfl)
theorem dX2_put_13 : decode cX2_put 13 = .ok (.getfield 16, 3) := dk_180 0 16 (dk_at dksX2_put_0 13 rfl rfl)
theorem dX2_put_16 : decode cX2_put 16 = .ok (.aload_n 0, 1) := dk_42 (dk_at dksX2_put_0 16 rfl rfl)
theorem dX2_put_17 : decode cX2_put 17 = .ok (.getfield 32, 3) := dk_180 0 32 (dk_at dksX2_put_0 17 rfl rfl)
theorem dX2_put_20 : decode cX2_put 20 = .ok (.iload_n 1, 1) := dk_27 (dk_at dksX2_put_0 20 rfl rfl)
theorem dX2_put_21 : decode cX2_put 21 = .ok (.invokestatic 36, 3) := dk_184 0 36 (dk_at dksX2_put_0 21 rfl rfl)
theorem dX2_put_24 : decode cX2_put 24 = .ok (.aload_n 0, 1) := dk_42 (dk_at dksX2_put_1 0 rfl rfl)
theorem dX2_put_25 : decode cX2_put 25 = .ok (.getfield 16, 3) := dk_180 0 16 (dk_at dksX2_put_1 1 rfl rfl)
theorem dX2_put_28 : decode cX2_put 28 = .ok (.aload_n 0, 1) := dk_42 (dk_at dksX2_put_1 4 rfl rfl)
theorem dX2_put_29 : decode cX2_put 29 = .ok (.getfield 32, 3) := dk_180 0 32 (dk_at dksX2_put_1 5 rfl rfl)
theorem dX2_put_32 : decode cX2_put 32 = .ok (.iconst 4, 1) := dk_7 (dk_at dksX2_put_1 8 rfl rfl)
theorem dX2_put_33 : decode cX2_put 33 = .ok (.iadd, 1) := dk_96 (dk_at dksX2_put_1 9 rfl rfl)
theorem dX2_put_34 : decode cX2_put 34 = .ok (.iload_n 2, 1) := dk_28 (dk_at dksX2_put_1 10 rfl rfl)
theorem dX2_put_35 : decode cX2_put 35 = .ok (.invokestatic 36, 3) := dk_184 0 36 (dk_at dksX2_put_1 11 rfl rfl)
theorem dX2_put_38 : decode cX2_put 38 = .ok (.aload_n 0, 1) := dk_42 (dk_at dksX2_put_1 14 rfl rfl)
theorem dX2_put_39 : decode cX2_put 39 = .ok (.getfield 16, 3) := dk_180 0 16 (dk_at dksX2_put_1 15 rfl rfl)
theorem dX2_put_42 : decode cX2_put 42 = .ok (.aload_n 0, 1) := dk_42 (dk_at dksX2_put_1 18 rfl rfl)
theorem dX2_put_43 : decode cX2_put 43 = .ok (.getfield 32, 3) := dk_180 0 32 (dk_at dksX2_put_1 19 rfl rfl)
theorem dX2_put_46 : decode cX2_put 46 = .ok (.bipush 8, 2) := dk_16 8 (dk_at dksX2_put_1 22 rfl rfl)
theorem dX2_put_48 : decode cX2_put 48 = .ok (.iadd, 1) := dk_96 (dk_at dksX2_put_2 0 rfl rfl)
theorem dX2_put_49 : decode cX2_put 49 = .ok (.iload_n 3, 1) := dk_29 (dk_at dksX2_put_2 1 rfl rfl)
theorem dX2_put_50 : decode cX2_put 50 = .ok (.invokestatic 36, 3) := dk_184 0 36 (dk_at dksX2_put_2 2 rfl rfl)
theorem dX2_put_53 : decode cX2_put 53 = .ok (.aload_n 0, 1) := dk_42 (dk_at dksX2_put_2 5 rfl rfl)
theorem dX2_put_54 : decode cX2_put 54 = .ok (.getfield 16, 3) := dk_180 0 16 (dk_at dksX2_put_2 6 rfl rfl)
theorem dX2_put_57 : decode cX2_put 57 = .ok (.aload_n 0, 1) := dk_42 (dk_at dksX2_put_2 9 rfl rfl)
theorem dX2_put_58 : decode cX2_put 58 = .ok (.getfield 32, 3) := dk_180 0 32 (dk_at dksX2_put_2 10 rfl rfl)
theorem dX2_put_61 : decode cX2_put 61 = .ok (.bipush 12, 2) := dk_16 12 (dk_at dksX2_put_2 13 rfl rfl)
theorem dX2_put_63 : decode cX2_put 63 = .ok (.iadd, 1) := dk_96 (dk_at dksX2_put_2 15 rfl rfl)
theorem dX2_put_64 : decode cX2_put 64 = .ok (.iload 4, 2) := dk_21 4 (dk_at dksX2_put_2 16 rfl rfl)
theorem dX2_put_66 : decode cX2_put 66 = .ok (.invokestatic 36, 3) := dk_184 0 36 (dk_at dksX2_put_2 18 rfl rfl)
theorem dX2_put_69 : decode cX2_put 69 = .ok (.aload_n 0, 1) := dk_42 (dk_at dksX2_put_2 21 rfl rfl)
theorem dX2_put_70 : decode cX2_put 70 = .ok (.dup, 1) := dk_89 (dk_at dksX2_put_2 22 rfl rfl)
theorem dX2_put_71 : decode cX2_put 71 = .ok (.getfield 32, 3) := dk_180 0 32 (dk_at dksX2_put_3 0 rfl rfl)
theorem dX2_put_74 : decode cX2_put 74 = .ok (.bipush 16, 2) := dk_16 16 (dk_at dksX2_put_3 3 rfl rfl)
theorem dX2_put_76 : decode cX2_put 76 = .ok (.iadd, 1) := dk_96 (dk_at dksX2_put_3 5 rfl rfl)
theorem dX2_put_77 : decode cX2_put 77 = .ok (.putfield 32, 3) := dk_181 0 32 (dk_at dksX2_put_3 6 rfl rfl)
theorem dX2_put_80 : decode cX2_put 80 = .ok (.iconst 1, 1) := dk_4 (dk_at dksX2_put_3 9 rfl rfl)
theorem dX2_put_81 : decode cX2_put 81 = .ok (.ireturn, 1) := dk_172 (dk_at dksX2_put_3 10 rfl rfl)
abbrev cX2_put_2 : ByteArray := prog_10_method_2_code
def yX2_put_2 : MethodName := ⟨RX2, "put", "([BII)V"⟩
def dkwX2_put_2_1 : List UInt8 := [132, 3, 1, 167, 255, 233, 177]
abbrev dktX2_put_2_1 : List UInt8 := dkwX2_put_2_1 ++ []
def dkwX2_put_2_0 : List UInt8 := [3, 62, 29, 7, 162, 0, 24, 42, 27, 29, 96, 28, 16, 24, 16, 8, 29, 104, 100, 122, 145, 84]
abbrev dktX2_put_2_0 : List UInt8 := dkwX2_put_2_0 ++ dktX2_put_2_1
theorem dksX2_put_2_0 : cX2_put_2.data.toList.drop 0 = dktX2_put_2_0 := by decide +kernel
theorem dksX2_put_2_1 : cX2_put_2.data.toList.drop 22 = dktX2_put_2_1 := dk_seg dksX2_put_2_0 22 rfl rfl
theorem dX2_put_2_0 : decode cX2_put_2 0 = .ok (.iconst 0, 1) := dk_3 (dk_at dksX2_put_2_0 0 rfl rfl)
theorem dX2_put_2_1 : decode cX2_put_2 1 = .ok (.istore_n 3, 1) := dk_62 (dk_at dksX2_put_2_0 1 rfl rfl)
theorem dX2_put_2_2 : decode cX2_put_2 2 = .ok (.iload_n 3, 1) := dk_29 (dk_at dksX2_put_2_0 2 rfl rfl)
theorem dX2_put_2_3 : decode cX2_put_2 3 = .ok (.iconst 4, 1) := dk_7 (dk_at dksX2_put_2_0 3 rfl rfl)
theorem dX2_put_2_4 : decode cX2_put_2 4 = .ok (.if_icmp .ge 24, 3) := dk_162 0 24 (dk_at dksX2_put_2_0 4 rfl rfl)
theorem dX2_put_2_7 : decode cX2_put_2 7 = .ok (.aload_n 0, 1) := dk_42 (dk_at dksX2_put_2_0 7 rfl rfl)
theorem dX2_put_2_8 : decode cX2_put_2 8 = .ok (.iload_n 1, 1) := dk_27 (dk_at dksX2_put_2_0 8 rfl rfl)
theorem dX2_put_2_9 : decode cX2_put_2 9 = .ok (.iload_n 3, 1) := dk_29 (dk_at dksX2_put_2_0 9 rfl rfl)
theorem dX2_put_2_10 : decode cX2_put_2 10 = .ok (.iadd, 1) := dk_96 (dk_at dksX2_put_2_0 10 rfl rfl)
theorem dX2_put_2_11 : decode cX2_put_2 11 = .ok (.iload_n 2, 1) := dk_28 (dk_at dksX2_put_2_0 11 rfl rfl)
theorem dX2_put_2_12 : decode cX2_put_2 12 = .ok (.bipush 24, 2) := dk_16 24 (dk_at dksX2_put_2_0 12 rfl rfl)
theorem dX2_put_2_14 : decode cX2_put_2 14 = .ok (.bipush 8, 2) := dk_16 8 (dk_at dksX2_put_2_0 14 rfl rfl)
theorem dX2_put_2_16 : decode cX2_put_2 16 = .ok (.iload_n 3, 1) := dk_29 (dk_at dksX2_put_2_0 16 rfl rfl)
theorem dX2_put_2_17 : decode cX2_put_2 17 = .ok (.imul, 1) := dk_104 (dk_at dksX2_put_2_0 17 rfl rfl)
theorem dX2_put_2_18 : decode cX2_put_2 18 = .ok (.isub, 1) := dk_100 (dk_at dksX2_put_2_0 18 rfl rfl)
theorem dX2_put_2_19 : decode cX2_put_2 19 = .ok (.ishr, 1) := dk_122 (dk_at dksX2_put_2_0 19 rfl rfl)
theorem dX2_put_2_20 : decode cX2_put_2 20 = .ok (.i2b, 1) := dk_145 (dk_at dksX2_put_2_0 20 rfl rfl)
theorem dX2_put_2_21 : decode cX2_put_2 21 = .ok (.bastore, 1) := dk_84 (dk_at dksX2_put_2_0 21 rfl rfl)
theorem dX2_put_2_22 : decode cX2_put_2 22 = .ok (.iinc 3 1, 3) := dk_132 3 1 (dk_at dksX2_put_2_1 0 rfl rfl)
theorem dX2_put_2_25 : decode cX2_put_2 25 = .ok (.goto (-23), 3) := dk_167 255 233 (dk_at dksX2_put_2_1 3 rfl rfl)
theorem dX2_put_2_28 : decode cX2_put_2 28 = .ok (.return_, 1) := dk_177 (dk_at dksX2_put_2_1 6 rfl rfl)
abbrev cX2_trim : ByteArray := prog_10_method_5_code
def yX2_trim : MethodName := ⟨RX2, "trim", "(I)V"⟩
def dkwX2_trim_0 : List UInt8 := [42, 42, 27, 182, 0, 41, 181, 0, 32, 177]
abbrev dktX2_trim_0 : List UInt8 := dkwX2_trim_0 ++ []
theorem dksX2_trim_0 : cX2_trim.data.toList.drop 0 = dktX2_trim_0 := by decide +kernel
theorem dX2_trim_0 : decode cX2_trim 0 = .ok (.aload_n 0, 1) := dk_42 (dk_at dksX2_trim_0 0 rfl rfl)
theorem dX2_trim_1 : decode cX2_trim 1 = .ok (.aload_n 0, 1) := dk_42 (dk_at dksX2_trim_0 1 rfl rfl)
theorem dX2_trim_2 : decode cX2_trim 2 = .ok (.iload_n 1, 1) := dk_27 (dk_at dksX2_trim_0 2 rfl rfl)
theorem dX2_trim_3 : decode cX2_trim 3 = .ok (.invokevirtual 41, 3) := dk_182 0 41 (dk_at dksX2_trim_0 3 rfl rfl)
theorem dX2_trim_6 : decode cX2_trim 6 = .ok (.putfield 32, 3) := dk_181 0 32 (dk_at dksX2_trim_0 6 rfl rfl)
theorem dX2_trim_9 : decode cX2_trim 9 = .ok (.return_, 1) := dk_177 (dk_at dksX2_trim_0 9 rfl rfl)
abbrev cX2_from : ByteArray := prog_10_method_4_code
def yX2_from : MethodName := ⟨RX2, "from", "(I)I"⟩
def dkwX2_from_0 : List UInt8 := [27, 18, 40, 126, 42, 180, 0, 32, 4, 96, 112, 172]
abbrev dktX2_from_0 : List UInt8 := dkwX2_from_0 ++ []
theorem dksX2_from_0 : cX2_from.data.toList.drop 0 = dktX2_from_0 := by decide +kernel
theorem dX2_from_0 : decode cX2_from 0 = .ok (.iload_n 1, 1) := dk_27 (dk_at dksX2_from_0 0 rfl rfl)
theorem dX2_from_1 : decode cX2_from 1 = .ok (.ldc 40, 2) := dk_18 40 (dk_at dksX2_from_0 1 rfl rfl)
theorem dX2_from_3 : decode cX2_from 3 = .ok (.iand, 1) := dk_126 (dk_at dksX2_from_0 3 rfl rfl)
theorem dX2_from_4 : decode cX2_from 4 = .ok (.aload_n 0, 1) := dk_42 (dk_at dksX2_from_0 4 rfl rfl)
theorem dX2_from_5 : decode cX2_from 5 = .ok (.getfield 32, 3) := dk_180 0 32 (dk_at dksX2_from_0 5 rfl rfl)
theorem dX2_from_8 : decode cX2_from 8 = .ok (.iconst 1, 1) := dk_4 (dk_at dksX2_from_0 8 rfl rfl)
theorem dX2_from_9 : decode cX2_from 9 = .ok (.iadd, 1) := dk_96 (dk_at dksX2_from_0 9 rfl rfl)
theorem dX2_from_10 : decode cX2_from 10 = .ok (.irem, 1) := dk_112 (dk_at dksX2_from_0 10 rfl rfl)
theorem dX2_from_11 : decode cX2_from 11 = .ok (.ireturn, 1) := dk_172 (dk_at dksX2_from_0 11 rfl rfl)
abbrev cX2_key : ByteArray := prog_10_method_7_code
def yX2_key : MethodName := ⟨RX2, "key", "(IIIII)V"⟩
def dkwX2_key_0 : List UInt8 := [42, 180, 0, 7, 27, 28, 29, 21, 4, 21, 5, 184, 0, 45, 177]
abbrev dktX2_key_0 : List UInt8 := dkwX2_key_0 ++ []
theorem dksX2_key_0 : cX2_key.data.toList.drop 0 = dktX2_key_0 := by decide +kernel
theorem dX2_key_0 : decode cX2_key 0 = .ok (.aload_n 0, 1) := dk_42 (dk_at dksX2_key_0 0 rfl rfl)
theorem dX2_key_1 : decode cX2_key 1 = .ok (.getfield 7, 3) := dk_180 0 7 (dk_at dksX2_key_0 1 rfl rfl)
theorem dX2_key_4 : decode cX2_key 4 = .ok (.iload_n 1, 1) := dk_27 (dk_at dksX2_key_0 4 rfl rfl)
theorem dX2_key_5 : decode cX2_key 5 = .ok (.iload_n 2, 1) := dk_28 (dk_at dksX2_key_0 5 rfl rfl)
theorem dX2_key_6 : decode cX2_key 6 = .ok (.iload_n 3, 1) := dk_29 (dk_at dksX2_key_0 6 rfl rfl)
theorem dX2_key_7 : decode cX2_key 7 = .ok (.iload 4, 2) := dk_21 4 (dk_at dksX2_key_0 7 rfl rfl)
theorem dX2_key_9 : decode cX2_key 9 = .ok (.iload 5, 2) := dk_21 5 (dk_at dksX2_key_0 9 rfl rfl)
theorem dX2_key_11 : decode cX2_key 11 = .ok (.invokestatic 45, 3) := dk_184 0 45 (dk_at dksX2_key_0 11 rfl rfl)
theorem dX2_key_14 : decode cX2_key 14 = .ok (.return_, 1) := dk_177 (dk_at dksX2_key_0 14 rfl rfl)
abbrev cX2_four : ByteArray := prog_10_method_6_code
def yX2_four : MethodName := ⟨RX2, "four", "([BIIIII)V"⟩
def dkwX2_four_1 : List UInt8 := [42, 21, 6, 16, 8, 96, 21, 4, 184, 0, 36, 42, 21, 6, 16, 12, 96, 21, 5, 184, 0, 36, 177]
abbrev dktX2_four_1 : List UInt8 := dkwX2_four_1 ++ []
def dkwX2_four_0 : List UInt8 := [16, 16, 27, 4, 126, 104, 54, 6, 42, 21, 6, 28, 184, 0, 36, 42, 21, 6, 7, 96, 29, 184, 0, 36]
abbrev dktX2_four_0 : List UInt8 := dkwX2_four_0 ++ dktX2_four_1
theorem dksX2_four_0 : cX2_four.data.toList.drop 0 = dktX2_four_0 := by decide +kernel
theorem dksX2_four_1 : cX2_four.data.toList.drop 24 = dktX2_four_1 := dk_seg dksX2_four_0 24 rfl rfl
theorem dX2_four_0 : decode cX2_four 0 = .ok (.bipush 16, 2) := dk_16 16 (dk_at dksX2_four_0 0 rfl rfl)
theorem dX2_four_2 : decode cX2_four 2 = .ok (.iload_n 1, 1) := dk_27 (dk_at dksX2_four_0 2 rfl rfl)
theorem dX2_four_3 : decode cX2_four 3 = .ok (.iconst 1, 1) := dk_4 (dk_at dksX2_four_0 3 rfl rfl)
theorem dX2_four_4 : decode cX2_four 4 = .ok (.iand, 1) := dk_126 (dk_at dksX2_four_0 4 rfl rfl)
theorem dX2_four_5 : decode cX2_four 5 = .ok (.imul, 1) := dk_104 (dk_at dksX2_four_0 5 rfl rfl)
theorem dX2_four_6 : decode cX2_four 6 = .ok (.istore 6, 2) := dk_54 6 (dk_at dksX2_four_0 6 rfl rfl)
theorem dX2_four_8 : decode cX2_four 8 = .ok (.aload_n 0, 1) := dk_42 (dk_at dksX2_four_0 8 rfl rfl)
theorem dX2_four_9 : decode cX2_four 9 = .ok (.iload 6, 2) := dk_21 6 (dk_at dksX2_four_0 9 rfl rfl)
theorem dX2_four_11 : decode cX2_four 11 = .ok (.iload_n 2, 1) := dk_28 (dk_at dksX2_four_0 11 rfl rfl)
theorem dX2_four_12 : decode cX2_four 12 = .ok (.invokestatic 36, 3) := dk_184 0 36 (dk_at dksX2_four_0 12 rfl rfl)
theorem dX2_four_15 : decode cX2_four 15 = .ok (.aload_n 0, 1) := dk_42 (dk_at dksX2_four_0 15 rfl rfl)
theorem dX2_four_16 : decode cX2_four 16 = .ok (.iload 6, 2) := dk_21 6 (dk_at dksX2_four_0 16 rfl rfl)
theorem dX2_four_18 : decode cX2_four 18 = .ok (.iconst 4, 1) := dk_7 (dk_at dksX2_four_0 18 rfl rfl)
theorem dX2_four_19 : decode cX2_four 19 = .ok (.iadd, 1) := dk_96 (dk_at dksX2_four_0 19 rfl rfl)
theorem dX2_four_20 : decode cX2_four 20 = .ok (.iload_n 3, 1) := dk_29 (dk_at dksX2_four_0 20 rfl rfl)
theorem dX2_four_21 : decode cX2_four 21 = .ok (.invokestatic 36, 3) := dk_184 0 36 (dk_at dksX2_four_0 21 rfl rfl)
theorem dX2_four_24 : decode cX2_four 24 = .ok (.aload_n 0, 1) := dk_42 (dk_at dksX2_four_1 0 rfl rfl)
theorem dX2_four_25 : decode cX2_four 25 = .ok (.iload 6, 2) := dk_21 6 (dk_at dksX2_four_1 1 rfl rfl)
theorem dX2_four_27 : decode cX2_four 27 = .ok (.bipush 8, 2) := dk_16 8 (dk_at dksX2_four_1 3 rfl rfl)
theorem dX2_four_29 : decode cX2_four 29 = .ok (.iadd, 1) := dk_96 (dk_at dksX2_four_1 5 rfl rfl)
theorem dX2_four_30 : decode cX2_four 30 = .ok (.iload 4, 2) := dk_21 4 (dk_at dksX2_four_1 6 rfl rfl)
theorem dX2_four_32 : decode cX2_four 32 = .ok (.invokestatic 36, 3) := dk_184 0 36 (dk_at dksX2_four_1 8 rfl rfl)
theorem dX2_four_35 : decode cX2_four 35 = .ok (.aload_n 0, 1) := dk_42 (dk_at dksX2_four_1 11 rfl rfl)
theorem dX2_four_36 : decode cX2_four 36 = .ok (.iload 6, 2) := dk_21 6 (dk_at dksX2_four_1 12 rfl rfl)
theorem dX2_four_38 : decode cX2_four 38 = .ok (.bipush 12, 2) := dk_16 12 (dk_at dksX2_four_1 14 rfl rfl)
theorem dX2_four_40 : decode cX2_four 40 = .ok (.iadd, 1) := dk_96 (dk_at dksX2_four_1 16 rfl rfl)
theorem dX2_four_41 : decode cX2_four 41 = .ok (.iload 5, 2) := dk_21 5 (dk_at dksX2_four_1 17 rfl rfl)
theorem dX2_four_43 : decode cX2_four 43 = .ok (.invokestatic 36, 3) := dk_184 0 36 (dk_at dksX2_four_1 19 rfl rfl)
theorem dX2_four_46 : decode cX2_four 46 = .ok (.return_, 1) := dk_177 (dk_at dksX2_four_1 22 rfl rfl)
abbrev cX2_nonce : ByteArray := prog_10_method_8_code
def yX2_nonce : MethodName := ⟨RX2, "nonce", "(IIIII)V"⟩
def dkwX2_nonce_0 : List UInt8 := [42, 180, 0, 13, 27, 28, 29, 21, 4, 21, 5, 184, 0, 45, 177]
abbrev dktX2_nonce_0 : List UInt8 := dkwX2_nonce_0 ++ []
theorem dksX2_nonce_0 : cX2_nonce.data.toList.drop 0 = dktX2_nonce_0 := by decide +kernel
theorem dX2_nonce_0 : decode cX2_nonce 0 = .ok (.aload_n 0, 1) := dk_42 (dk_at dksX2_nonce_0 0 rfl rfl)
theorem dX2_nonce_1 : decode cX2_nonce 1 = .ok (.getfield 13, 3) := dk_180 0 13 (dk_at dksX2_nonce_0 1 rfl rfl)
theorem dX2_nonce_4 : decode cX2_nonce 4 = .ok (.iload_n 1, 1) := dk_27 (dk_at dksX2_nonce_0 4 rfl rfl)
theorem dX2_nonce_5 : decode cX2_nonce 5 = .ok (.iload_n 2, 1) := dk_28 (dk_at dksX2_nonce_0 5 rfl rfl)
theorem dX2_nonce_6 : decode cX2_nonce 6 = .ok (.iload_n 3, 1) := dk_29 (dk_at dksX2_nonce_0 6 rfl rfl)
theorem dX2_nonce_7 : decode cX2_nonce 7 = .ok (.iload 4, 2) := dk_21 4 (dk_at dksX2_nonce_0 7 rfl rfl)
theorem dX2_nonce_9 : decode cX2_nonce 9 = .ok (.iload 5, 2) := dk_21 5 (dk_at dksX2_nonce_0 9 rfl rfl)
theorem dX2_nonce_11 : decode cX2_nonce 11 = .ok (.invokestatic 45, 3) := dk_184 0 45 (dk_at dksX2_nonce_0 11 rfl rfl)
theorem dX2_nonce_14 : decode cX2_nonce 14 = .ok (.return_, 1) := dk_177 (dk_at dksX2_nonce_0 14 rfl rfl)
abbrev cX2_begin : ByteArray := prog_10_method_13_code
def yX2_begin : MethodName := ⟨RX2, "begin", "(I)V"⟩
def dkwX2_begin_1 : List UInt8 := [28, 42, 180, 0, 13, 28, 51, 84, 132, 2, 1, 167, 255, 223, 42, 4, 181, 0, 66, 42, 182, 0, 70, 177]
abbrev dktX2_begin_1 : List UInt8 := dkwX2_begin_1 ++ []
def dkwX2_begin_0 : List UInt8 := [3, 61, 28, 16, 16, 162, 0, 33, 42, 180, 0, 22, 28, 42, 180, 0, 7, 28, 51, 84, 42, 180, 0, 25]
abbrev dktX2_begin_0 : List UInt8 := dkwX2_begin_0 ++ dktX2_begin_1
theorem dksX2_begin_0 : cX2_begin.data.toList.drop 0 = dktX2_begin_0 := by decide +kernel
theorem dksX2_begin_1 : cX2_begin.data.toList.drop 24 = dktX2_begin_1 := dk_seg dksX2_begin_0 24 rfl rfl
theorem dX2_begin_0 : decode cX2_begin 0 = .ok (.iconst 0, 1) := dk_3 (dk_at dksX2_begin_0 0 rfl rfl)
theorem dX2_begin_1 : decode cX2_begin 1 = .ok (.istore_n 2, 1) := dk_61 (dk_at dksX2_begin_0 1 rfl rfl)
theorem dX2_begin_2 : decode cX2_begin 2 = .ok (.iload_n 2, 1) := dk_28 (dk_at dksX2_begin_0 2 rfl rfl)
theorem dX2_begin_3 : decode cX2_begin 3 = .ok (.bipush 16, 2) := dk_16 16 (dk_at dksX2_begin_0 3 rfl rfl)
theorem dX2_begin_5 : decode cX2_begin 5 = .ok (.if_icmp .ge 33, 3) := dk_162 0 33 (dk_at dksX2_begin_0 5 rfl rfl)
theorem dX2_begin_8 : decode cX2_begin 8 = .ok (.aload_n 0, 1) := dk_42 (dk_at dksX2_begin_0 8 rfl rfl)
theorem dX2_begin_9 : decode cX2_begin 9 = .ok (.getfield 22, 3) := dk_180 0 22 (dk_at dksX2_begin_0 9 rfl rfl)
theorem dX2_begin_12 : decode cX2_begin 12 = .ok (.iload_n 2, 1) := dk_28 (dk_at dksX2_begin_0 12 rfl rfl)
theorem dX2_begin_13 : decode cX2_begin 13 = .ok (.aload_n 0, 1) := dk_42 (dk_at dksX2_begin_0 13 rfl rfl)
theorem dX2_begin_14 : decode cX2_begin 14 = .ok (.getfield 7, 3) := dk_180 0 7 (dk_at dksX2_begin_0 14 rfl rfl)
theorem dX2_begin_17 : decode cX2_begin 17 = .ok (.iload_n 2, 1) := dk_28 (dk_at dksX2_begin_0 17 rfl rfl)
theorem dX2_begin_18 : decode cX2_begin 18 = .ok (.baload, 1) := dk_51 (dk_at dksX2_begin_0 18 rfl rfl)
theorem dX2_begin_19 : decode cX2_begin 19 = .ok (.bastore, 1) := dk_84 (dk_at dksX2_begin_0 19 rfl rfl)
theorem dX2_begin_20 : decode cX2_begin 20 = .ok (.aload_n 0, 1) := dk_42 (dk_at dksX2_begin_0 20 rfl rfl)
theorem dX2_begin_21 : decode cX2_begin 21 = .ok (.getfield 25, 3) := dk_180 0 25 (dk_at dksX2_begin_0 21 rfl rfl)
theorem dX2_begin_24 : decode cX2_begin 24 = .ok (.iload_n 2, 1) := dk_28 (dk_at dksX2_begin_1 0 rfl rfl)
theorem dX2_begin_25 : decode cX2_begin 25 = .ok (.aload_n 0, 1) := dk_42 (dk_at dksX2_begin_1 1 rfl rfl)
theorem dX2_begin_26 : decode cX2_begin 26 = .ok (.getfield 13, 3) := dk_180 0 13 (dk_at dksX2_begin_1 2 rfl rfl)
theorem dX2_begin_29 : decode cX2_begin 29 = .ok (.iload_n 2, 1) := dk_28 (dk_at dksX2_begin_1 5 rfl rfl)
theorem dX2_begin_30 : decode cX2_begin 30 = .ok (.baload, 1) := dk_51 (dk_at dksX2_begin_1 6 rfl rfl)
theorem dX2_begin_31 : decode cX2_begin 31 = .ok (.bastore, 1) := dk_84 (dk_at dksX2_begin_1 7 rfl rfl)
theorem dX2_begin_32 : decode cX2_begin 32 = .ok (.iinc 2 1, 3) := dk_132 2 1 (dk_at dksX2_begin_1 8 rfl rfl)
theorem dX2_begin_35 : decode cX2_begin 35 = .ok (.goto (-33), 3) := dk_167 255 223 (dk_at dksX2_begin_1 11 rfl rfl)
theorem dX2_begin_38 : decode cX2_begin 38 = .ok (.aload_n 0, 1) := dk_42 (dk_at dksX2_begin_1 14 rfl rfl)
theorem dX2_begin_39 : decode cX2_begin 39 = .ok (.iconst 1, 1) := dk_4 (dk_at dksX2_begin_1 15 rfl rfl)
theorem dX2_begin_40 : decode cX2_begin 40 = .ok (.putfield 66, 3) := dk_181 0 66 (dk_at dksX2_begin_1 16 rfl rfl)
theorem dX2_begin_43 : decode cX2_begin 43 = .ok (.aload_n 0, 1) := dk_42 (dk_at dksX2_begin_1 19 rfl rfl)
theorem dX2_begin_44 : decode cX2_begin 44 = .ok (.invokevirtual 70, 3) := dk_182 0 70 (dk_at dksX2_begin_1 20 rfl rfl)
theorem dX2_begin_47 : decode cX2_begin 47 = .ok (.return_, 1) := dk_177 (dk_at dksX2_begin_1 23 rfl rfl)
abbrev cX2_sets : ByteArray := prog_10_method_11_code
def yX2_sets : MethodName := ⟨RX2, "sets", "()V"⟩
def dkwX2_sets_2 : List UInt8 := [42, 3, 181, 0, 63, 177]
abbrev dktX2_sets_2 : List UInt8 := dkwX2_sets_2 ++ []
def dkwX2_sets_1 : List UInt8 := [181, 0, 49, 42, 3, 181, 0, 56, 42, 42, 180, 0, 22, 182, 0, 59, 42, 42, 180, 0, 25, 182, 0, 59]
abbrev dktX2_sets_1 : List UInt8 := dkwX2_sets_1 ++ dktX2_sets_2
def dkwX2_sets_0 : List UInt8 := [3, 60, 27, 17, 1, 0, 162, 0, 16, 42, 180, 0, 28, 27, 27, 79, 132, 1, 1, 167, 255, 239, 42, 3]
abbrev dktX2_sets_0 : List UInt8 := dkwX2_sets_0 ++ dktX2_sets_1
theorem dksX2_sets_0 : cX2_sets.data.toList.drop 0 = dktX2_sets_0 := by decide +kernel
theorem dksX2_sets_1 : cX2_sets.data.toList.drop 24 = dktX2_sets_1 := dk_seg dksX2_sets_0 24 rfl rfl
theorem dksX2_sets_2 : cX2_sets.data.toList.drop 48 = dktX2_sets_2 := dk_seg dksX2_sets_1 24 rfl rfl
theorem dX2_sets_0 : decode cX2_sets 0 = .ok (.iconst 0, 1) := dk_3 (dk_at dksX2_sets_0 0 rfl rfl)
theorem dX2_sets_1 : decode cX2_sets 1 = .ok (.istore_n 1, 1) := dk_60 (dk_at dksX2_sets_0 1 rfl rfl)
theorem dX2_sets_2 : decode cX2_sets 2 = .ok (.iload_n 1, 1) := dk_27 (dk_at dksX2_sets_0 2 rfl rfl)
theorem dX2_sets_3 : decode cX2_sets 3 = .ok (.sipush 256, 3) := dk_17 1 0 (dk_at dksX2_sets_0 3 rfl rfl)
theorem dX2_sets_6 : decode cX2_sets 6 = .ok (.if_icmp .ge 16, 3) := dk_162 0 16 (dk_at dksX2_sets_0 6 rfl rfl)
theorem dX2_sets_9 : decode cX2_sets 9 = .ok (.aload_n 0, 1) := dk_42 (dk_at dksX2_sets_0 9 rfl rfl)
theorem dX2_sets_10 : decode cX2_sets 10 = .ok (.getfield 28, 3) := dk_180 0 28 (dk_at dksX2_sets_0 10 rfl rfl)
theorem dX2_sets_13 : decode cX2_sets 13 = .ok (.iload_n 1, 1) := dk_27 (dk_at dksX2_sets_0 13 rfl rfl)
theorem dX2_sets_14 : decode cX2_sets 14 = .ok (.iload_n 1, 1) := dk_27 (dk_at dksX2_sets_0 14 rfl rfl)
theorem dX2_sets_15 : decode cX2_sets 15 = .ok (.iastore, 1) := dk_79 (dk_at dksX2_sets_0 15 rfl rfl)
theorem dX2_sets_16 : decode cX2_sets 16 = .ok (.iinc 1 1, 3) := dk_132 1 1 (dk_at dksX2_sets_0 16 rfl rfl)
theorem dX2_sets_19 : decode cX2_sets 19 = .ok (.goto (-17), 3) := dk_167 255 239 (dk_at dksX2_sets_0 19 rfl rfl)
theorem dX2_sets_22 : decode cX2_sets 22 = .ok (.aload_n 0, 1) := dk_42 (dk_at dksX2_sets_0 22 rfl rfl)
theorem dX2_sets_23 : decode cX2_sets 23 = .ok (.iconst 0, 1) := dk_3 (dk_at dksX2_sets_0 23 rfl rfl)
theorem dX2_sets_24 : decode cX2_sets 24 = .ok (.putfield 49, 3) := dk_181 0 49 (dk_at dksX2_sets_1 0 rfl rfl)
theorem dX2_sets_27 : decode cX2_sets 27 = .ok (.aload_n 0, 1) := dk_42 (dk_at dksX2_sets_1 3 rfl rfl)
theorem dX2_sets_28 : decode cX2_sets 28 = .ok (.iconst 0, 1) := dk_3 (dk_at dksX2_sets_1 4 rfl rfl)
theorem dX2_sets_29 : decode cX2_sets 29 = .ok (.putfield 56, 3) := dk_181 0 56 (dk_at dksX2_sets_1 5 rfl rfl)
theorem dX2_sets_32 : decode cX2_sets 32 = .ok (.aload_n 0, 1) := dk_42 (dk_at dksX2_sets_1 8 rfl rfl)
theorem dX2_sets_33 : decode cX2_sets 33 = .ok (.aload_n 0, 1) := dk_42 (dk_at dksX2_sets_1 9 rfl rfl)
theorem dX2_sets_34 : decode cX2_sets 34 = .ok (.getfield 22, 3) := dk_180 0 22 (dk_at dksX2_sets_1 10 rfl rfl)
theorem dX2_sets_37 : decode cX2_sets 37 = .ok (.invokevirtual 59, 3) := dk_182 0 59 (dk_at dksX2_sets_1 13 rfl rfl)
theorem dX2_sets_40 : decode cX2_sets 40 = .ok (.aload_n 0, 1) := dk_42 (dk_at dksX2_sets_1 16 rfl rfl)
theorem dX2_sets_41 : decode cX2_sets 41 = .ok (.aload_n 0, 1) := dk_42 (dk_at dksX2_sets_1 17 rfl rfl)
theorem dX2_sets_42 : decode cX2_sets 42 = .ok (.getfield 25, 3) := dk_180 0 25 (dk_at dksX2_sets_1 18 rfl rfl)
theorem dX2_sets_45 : decode cX2_sets 45 = .ok (.invokevirtual 59, 3) := dk_182 0 59 (dk_at dksX2_sets_1 21 rfl rfl)
theorem dX2_sets_48 : decode cX2_sets 48 = .ok (.aload_n 0, 1) := dk_42 (dk_at dksX2_sets_2 0 rfl rfl)
theorem dX2_sets_49 : decode cX2_sets 49 = .ok (.iconst 0, 1) := dk_3 (dk_at dksX2_sets_2 1 rfl rfl)
theorem dX2_sets_50 : decode cX2_sets 50 = .ok (.putfield 63, 3) := dk_181 0 63 (dk_at dksX2_sets_2 2 rfl rfl)
theorem dX2_sets_53 : decode cX2_sets 53 = .ok (.return_, 1) := dk_177 (dk_at dksX2_sets_2 5 rfl rfl)
abbrev cX2_stirs : ByteArray := prog_10_method_10_code
def yX2_stirs : MethodName := ⟨RX2, "stirs", "([B)V"⟩
def dkwX2_stirs_2 : List UInt8 := [181, 0, 49, 42, 29, 42, 180, 0, 49, 182, 0, 52, 132, 2, 1, 167, 255, 196, 177]
abbrev dktX2_stirs_2 : List UInt8 := dkwX2_stirs_2 ++ []
def dkwX2_stirs_1 : List UInt8 := [42, 180, 0, 28, 29, 46, 96, 43, 28, 16, 16, 112, 51, 17, 0, 255, 126, 96, 17, 1, 0, 112, 46]
abbrev dktX2_stirs_1 : List UInt8 := dkwX2_stirs_1 ++ dktX2_stirs_2
def dkwX2_stirs_0 : List UInt8 := [3, 61, 28, 17, 3, 0, 162, 0, 59, 28, 17, 1, 0, 112, 62, 42, 42, 180, 0, 28, 42, 180, 0, 49]
abbrev dktX2_stirs_0 : List UInt8 := dkwX2_stirs_0 ++ dktX2_stirs_1
theorem dksX2_stirs_0 : cX2_stirs.data.toList.drop 0 = dktX2_stirs_0 := by decide +kernel
theorem dksX2_stirs_1 : cX2_stirs.data.toList.drop 24 = dktX2_stirs_1 := dk_seg dksX2_stirs_0 24 rfl rfl
theorem dksX2_stirs_2 : cX2_stirs.data.toList.drop 47 = dktX2_stirs_2 := dk_seg dksX2_stirs_1 23 rfl rfl
theorem dX2_stirs_0 : decode cX2_stirs 0 = .ok (.iconst 0, 1) := dk_3 (dk_at dksX2_stirs_0 0 rfl rfl)
theorem dX2_stirs_1 : decode cX2_stirs 1 = .ok (.istore_n 2, 1) := dk_61 (dk_at dksX2_stirs_0 1 rfl rfl)
theorem dX2_stirs_2 : decode cX2_stirs 2 = .ok (.iload_n 2, 1) := dk_28 (dk_at dksX2_stirs_0 2 rfl rfl)
theorem dX2_stirs_3 : decode cX2_stirs 3 = .ok (.sipush 768, 3) := dk_17 3 0 (dk_at dksX2_stirs_0 3 rfl rfl)
theorem dX2_stirs_6 : decode cX2_stirs 6 = .ok (.if_icmp .ge 59, 3) := dk_162 0 59 (dk_at dksX2_stirs_0 6 rfl rfl)
theorem dX2_stirs_9 : decode cX2_stirs 9 = .ok (.iload_n 2, 1) := dk_28 (dk_at dksX2_stirs_0 9 rfl rfl)
theorem dX2_stirs_10 : decode cX2_stirs 10 = .ok (.sipush 256, 3) := dk_17 1 0 (dk_at dksX2_stirs_0 10 rfl rfl)
theorem dX2_stirs_13 : decode cX2_stirs 13 = .ok (.irem, 1) := dk_112 (dk_at dksX2_stirs_0 13 rfl rfl)
theorem dX2_stirs_14 : decode cX2_stirs 14 = .ok (.istore_n 3, 1) := dk_62 (dk_at dksX2_stirs_0 14 rfl rfl)
theorem dX2_stirs_15 : decode cX2_stirs 15 = .ok (.aload_n 0, 1) := dk_42 (dk_at dksX2_stirs_0 15 rfl rfl)
theorem dX2_stirs_16 : decode cX2_stirs 16 = .ok (.aload_n 0, 1) := dk_42 (dk_at dksX2_stirs_0 16 rfl rfl)
theorem dX2_stirs_17 : decode cX2_stirs 17 = .ok (.getfield 28, 3) := dk_180 0 28 (dk_at dksX2_stirs_0 17 rfl rfl)
theorem dX2_stirs_20 : decode cX2_stirs 20 = .ok (.aload_n 0, 1) := dk_42 (dk_at dksX2_stirs_0 20 rfl rfl)
theorem dX2_stirs_21 : decode cX2_stirs 21 = .ok (.getfield 49, 3) := dk_180 0 49 (dk_at dksX2_stirs_0 21 rfl rfl)
theorem dX2_stirs_24 : decode cX2_stirs 24 = .ok (.aload_n 0, 1) := dk_42 (dk_at dksX2_stirs_1 0 rfl rfl)
theorem dX2_stirs_25 : decode cX2_stirs 25 = .ok (.getfield 28, 3) := dk_180 0 28 (dk_at dksX2_stirs_1 1 rfl rfl)
theorem dX2_stirs_28 : decode cX2_stirs 28 = .ok (.iload_n 3, 1) := dk_29 (dk_at dksX2_stirs_1 4 rfl rfl)
theorem dX2_stirs_29 : decode cX2_stirs 29 = .ok (.iaload, 1) := dk_46 (dk_at dksX2_stirs_1 5 rfl rfl)
theorem dX2_stirs_30 : decode cX2_stirs 30 = .ok (.iadd, 1) := dk_96 (dk_at dksX2_stirs_1 6 rfl rfl)
theorem dX2_stirs_31 : decode cX2_stirs 31 = .ok (.aload_n 1, 1) := dk_43 (dk_at dksX2_stirs_1 7 rfl rfl)
theorem dX2_stirs_32 : decode cX2_stirs 32 = .ok (.iload_n 2, 1) := dk_28 (dk_at dksX2_stirs_1 8 rfl rfl)
theorem dX2_stirs_33 : decode cX2_stirs 33 = .ok (.bipush 16, 2) := dk_16 16 (dk_at dksX2_stirs_1 9 rfl rfl)
theorem dX2_stirs_35 : decode cX2_stirs 35 = .ok (.irem, 1) := dk_112 (dk_at dksX2_stirs_1 11 rfl rfl)
theorem dX2_stirs_36 : decode cX2_stirs 36 = .ok (.baload, 1) := dk_51 (dk_at dksX2_stirs_1 12 rfl rfl)
theorem dX2_stirs_37 : decode cX2_stirs 37 = .ok (.sipush 255, 3) := dk_17 0 255 (dk_at dksX2_stirs_1 13 rfl rfl)
theorem dX2_stirs_40 : decode cX2_stirs 40 = .ok (.iand, 1) := dk_126 (dk_at dksX2_stirs_1 16 rfl rfl)
theorem dX2_stirs_41 : decode cX2_stirs 41 = .ok (.iadd, 1) := dk_96 (dk_at dksX2_stirs_1 17 rfl rfl)
theorem dX2_stirs_42 : decode cX2_stirs 42 = .ok (.sipush 256, 3) := dk_17 1 0 (dk_at dksX2_stirs_1 18 rfl rfl)
theorem dX2_stirs_45 : decode cX2_stirs 45 = .ok (.irem, 1) := dk_112 (dk_at dksX2_stirs_1 21 rfl rfl)
theorem dX2_stirs_46 : decode cX2_stirs 46 = .ok (.iaload, 1) := dk_46 (dk_at dksX2_stirs_1 22 rfl rfl)
theorem dX2_stirs_47 : decode cX2_stirs 47 = .ok (.putfield 49, 3) := dk_181 0 49 (dk_at dksX2_stirs_2 0 rfl rfl)
theorem dX2_stirs_50 : decode cX2_stirs 50 = .ok (.aload_n 0, 1) := dk_42 (dk_at dksX2_stirs_2 3 rfl rfl)
theorem dX2_stirs_51 : decode cX2_stirs 51 = .ok (.iload_n 3, 1) := dk_29 (dk_at dksX2_stirs_2 4 rfl rfl)
theorem dX2_stirs_52 : decode cX2_stirs 52 = .ok (.aload_n 0, 1) := dk_42 (dk_at dksX2_stirs_2 5 rfl rfl)
theorem dX2_stirs_53 : decode cX2_stirs 53 = .ok (.getfield 49, 3) := dk_180 0 49 (dk_at dksX2_stirs_2 6 rfl rfl)
theorem dX2_stirs_56 : decode cX2_stirs 56 = .ok (.invokevirtual 52, 3) := dk_182 0 52 (dk_at dksX2_stirs_2 9 rfl rfl)
theorem dX2_stirs_59 : decode cX2_stirs 59 = .ok (.iinc 2 1, 3) := dk_132 2 1 (dk_at dksX2_stirs_2 12 rfl rfl)
theorem dX2_stirs_62 : decode cX2_stirs 62 = .ok (.goto (-60), 3) := dk_167 255 196 (dk_at dksX2_stirs_2 15 rfl rfl)
theorem dX2_stirs_65 : decode cX2_stirs 65 = .ok (.return_, 1) := dk_177 (dk_at dksX2_stirs_2 18 rfl rfl)
abbrev cX2_changes : ByteArray := prog_10_method_9_code
def yX2_changes : MethodName := ⟨RX2, "changes", "(II)V"⟩
def dkwX2_changes_1 : List UInt8 := [29, 79, 177]
abbrev dktX2_changes_1 : List UInt8 := dkwX2_changes_1 ++ []
def dkwX2_changes_0 : List UInt8 := [42, 180, 0, 28, 27, 46, 62, 42, 180, 0, 28, 27, 42, 180, 0, 28, 28, 46, 79, 42, 180, 0, 28, 28]
abbrev dktX2_changes_0 : List UInt8 := dkwX2_changes_0 ++ dktX2_changes_1
theorem dksX2_changes_0 : cX2_changes.data.toList.drop 0 = dktX2_changes_0 := by decide +kernel
theorem dksX2_changes_1 : cX2_changes.data.toList.drop 24 = dktX2_changes_1 := dk_seg dksX2_changes_0 24 rfl rfl
theorem dX2_changes_0 : decode cX2_changes 0 = .ok (.aload_n 0, 1) := dk_42 (dk_at dksX2_changes_0 0 rfl rfl)
theorem dX2_changes_1 : decode cX2_changes 1 = .ok (.getfield 28, 3) := dk_180 0 28 (dk_at dksX2_changes_0 1 rfl rfl)
theorem dX2_changes_4 : decode cX2_changes 4 = .ok (.iload_n 1, 1) := dk_27 (dk_at dksX2_changes_0 4 rfl rfl)
theorem dX2_changes_5 : decode cX2_changes 5 = .ok (.iaload, 1) := dk_46 (dk_at dksX2_changes_0 5 rfl rfl)
theorem dX2_changes_6 : decode cX2_changes 6 = .ok (.istore_n 3, 1) := dk_62 (dk_at dksX2_changes_0 6 rfl rfl)
theorem dX2_changes_7 : decode cX2_changes 7 = .ok (.aload_n 0, 1) := dk_42 (dk_at dksX2_changes_0 7 rfl rfl)
theorem dX2_changes_8 : decode cX2_changes 8 = .ok (.getfield 28, 3) := dk_180 0 28 (dk_at dksX2_changes_0 8 rfl rfl)
theorem dX2_changes_11 : decode cX2_changes 11 = .ok (.iload_n 1, 1) := dk_27 (dk_at dksX2_changes_0 11 rfl rfl)
theorem dX2_changes_12 : decode cX2_changes 12 = .ok (.aload_n 0, 1) := dk_42 (dk_at dksX2_changes_0 12 rfl rfl)
theorem dX2_changes_13 : decode cX2_changes 13 = .ok (.getfield 28, 3) := dk_180 0 28 (dk_at dksX2_changes_0 13 rfl rfl)
theorem dX2_changes_16 : decode cX2_changes 16 = .ok (.iload_n 2, 1) := dk_28 (dk_at dksX2_changes_0 16 rfl rfl)
theorem dX2_changes_17 : decode cX2_changes 17 = .ok (.iaload, 1) := dk_46 (dk_at dksX2_changes_0 17 rfl rfl)
theorem dX2_changes_18 : decode cX2_changes 18 = .ok (.iastore, 1) := dk_79 (dk_at dksX2_changes_0 18 rfl rfl)
theorem dX2_changes_19 : decode cX2_changes 19 = .ok (.aload_n 0, 1) := dk_42 (dk_at dksX2_changes_0 19 rfl rfl)
theorem dX2_changes_20 : decode cX2_changes 20 = .ok (.getfield 28, 3) := dk_180 0 28 (dk_at dksX2_changes_0 20 rfl rfl)
theorem dX2_changes_23 : decode cX2_changes 23 = .ok (.iload_n 2, 1) := dk_28 (dk_at dksX2_changes_0 23 rfl rfl)
theorem dX2_changes_24 : decode cX2_changes 24 = .ok (.iload_n 3, 1) := dk_29 (dk_at dksX2_changes_1 0 rfl rfl)
theorem dX2_changes_25 : decode cX2_changes 25 = .ok (.iastore, 1) := dk_79 (dk_at dksX2_changes_1 1 rfl rfl)
theorem dX2_changes_26 : decode cX2_changes 26 = .ok (.return_, 1) := dk_177 (dk_at dksX2_changes_1 2 rfl rfl)
abbrev cX2_run : ByteArray := prog_10_method_14_code
def yX2_run : MethodName := ⟨RX2, "run", "(II)I"⟩
def dkwX2_run_4 : List UInt8 := [84, 132, 5, 1, 167, 255, 224, 21, 4, 172]
abbrev dktX2_run_4 : List UInt8 := dkwX2_run_4 ++ []
def dkwX2_run_3 : List UInt8 := [162, 0, 31, 42, 180, 0, 19, 21, 5, 42, 180, 0, 16, 29, 21, 5, 96, 51, 42, 182, 0, 73, 130, 145]
abbrev dktX2_run_3 : List UInt8 := dkwX2_run_3 ++ dktX2_run_4
def dkwX2_run_2 : List UInt8 := [180, 0, 63, 21, 4, 96, 181, 0, 63, 42, 21, 4, 188, 8, 181, 0, 19, 3, 54, 5, 21, 5, 21, 4]
abbrev dktX2_run_2 : List UInt8 := dkwX2_run_2 ++ dktX2_run_3
def dkwX2_run_1 : List UInt8 := [100, 4, 96, 112, 54, 4, 42, 180, 0, 63, 21, 4, 96, 17, 4, 0, 164, 0, 6, 16, 254, 172, 42, 89]
abbrev dktX2_run_1 : List UInt8 := dkwX2_run_1 ++ dktX2_run_2
def dkwX2_run_0 : List UInt8 := [42, 180, 0, 66, 154, 0, 5, 2, 172, 42, 27, 182, 0, 41, 62, 28, 18, 40, 126, 42, 180, 0, 32, 29]
abbrev dktX2_run_0 : List UInt8 := dkwX2_run_0 ++ dktX2_run_1
theorem dksX2_run_0 : cX2_run.data.toList.drop 0 = dktX2_run_0 := by decide +kernel
theorem dksX2_run_1 : cX2_run.data.toList.drop 24 = dktX2_run_1 := dk_seg dksX2_run_0 24 rfl rfl
theorem dksX2_run_2 : cX2_run.data.toList.drop 48 = dktX2_run_2 := dk_seg dksX2_run_1 24 rfl rfl
theorem dksX2_run_3 : cX2_run.data.toList.drop 72 = dktX2_run_3 := dk_seg dksX2_run_2 24 rfl rfl
theorem dksX2_run_4 : cX2_run.data.toList.drop 96 = dktX2_run_4 := dk_seg dksX2_run_3 24 rfl rfl
theorem dX2_run_0 : decode cX2_run 0 = .ok (.aload_n 0, 1) := dk_42 (dk_at dksX2_run_0 0 rfl rfl)
theorem dX2_run_1 : decode cX2_run 1 = .ok (.getfield 66, 3) := dk_180 0 66 (dk_at dksX2_run_0 1 rfl rfl)
theorem dX2_run_4 : decode cX2_run 4 = .ok (.ifCond .ne 5, 3) := dk_154 0 5 (dk_at dksX2_run_0 4 rfl rfl)
theorem dX2_run_7 : decode cX2_run 7 = .ok (.iconst (-1), 1) := dk_2 (dk_at dksX2_run_0 7 rfl rfl)
theorem dX2_run_8 : decode cX2_run 8 = .ok (.ireturn, 1) := dk_172 (dk_at dksX2_run_0 8 rfl rfl)
theorem dX2_run_9 : decode cX2_run 9 = .ok (.aload_n 0, 1) := dk_42 (dk_at dksX2_run_0 9 rfl rfl)
theorem dX2_run_10 : decode cX2_run 10 = .ok (.iload_n 1, 1) := dk_27 (dk_at dksX2_run_0 10 rfl rfl)
theorem dX2_run_11 : decode cX2_run 11 = .ok (.invokevirtual 41, 3) := dk_182 0 41 (dk_at dksX2_run_0 11 rfl rfl)
theorem dX2_run_14 : decode cX2_run 14 = .ok (.istore_n 3, 1) := dk_62 (dk_at dksX2_run_0 14 rfl rfl)
theorem dX2_run_15 : decode cX2_run 15 = .ok (.iload_n 2, 1) := dk_28 (dk_at dksX2_run_0 15 rfl rfl)
theorem dX2_run_16 : decode cX2_run 16 = .ok (.ldc 40, 2) := dk_18 40 (dk_at dksX2_run_0 16 rfl rfl)
theorem dX2_run_18 : decode cX2_run 18 = .ok (.iand, 1) := dk_126 (dk_at dksX2_run_0 18 rfl rfl)
theorem dX2_run_19 : decode cX2_run 19 = .ok (.aload_n 0, 1) := dk_42 (dk_at dksX2_run_0 19 rfl rfl)
theorem dX2_run_20 : decode cX2_run 20 = .ok (.getfield 32, 3) := dk_180 0 32 (dk_at dksX2_run_0 20 rfl rfl)
theorem dX2_run_23 : decode cX2_run 23 = .ok (.iload_n 3, 1) := dk_29 (dk_at dksX2_run_0 23 rfl rfl)
theorem dX2_run_24 : decode cX2_run 24 = .ok (.isub, 1) := dk_100 (dk_at dksX2_run_1 0 rfl rfl)
theorem dX2_run_25 : decode cX2_run 25 = .ok (.iconst 1, 1) := dk_4 (dk_at dksX2_run_1 1 rfl rfl)
theorem dX2_run_26 : decode cX2_run 26 = .ok (.iadd, 1) := dk_96 (dk_at dksX2_run_1 2 rfl rfl)
theorem dX2_run_27 : decode cX2_run 27 = .ok (.irem, 1) := dk_112 (dk_at dksX2_run_1 3 rfl rfl)
theorem dX2_run_28 : decode cX2_run 28 = .ok (.istore 4, 2) := dk_54 4 (dk_at dksX2_run_1 4 rfl rfl)
theorem dX2_run_30 : decode cX2_run 30 = .ok (.aload_n 0, 1) := dk_42 (dk_at dksX2_run_1 6 rfl rfl)
theorem dX2_run_31 : decode cX2_run 31 = .ok (.getfield 63, 3) := dk_180 0 63 (dk_at dksX2_run_1 7 rfl rfl)
theorem dX2_run_34 : decode cX2_run 34 = .ok (.iload 4, 2) := dk_21 4 (dk_at dksX2_run_1 10 rfl rfl)
theorem dX2_run_36 : decode cX2_run 36 = .ok (.iadd, 1) := dk_96 (dk_at dksX2_run_1 12 rfl rfl)
theorem dX2_run_37 : decode cX2_run 37 = .ok (.sipush 1024, 3) := dk_17 4 0 (dk_at dksX2_run_1 13 rfl rfl)
theorem dX2_run_40 : decode cX2_run 40 = .ok (.if_icmp .le 6, 3) := dk_164 0 6 (dk_at dksX2_run_1 16 rfl rfl)
theorem dX2_run_43 : decode cX2_run 43 = .ok (.bipush (-2), 2) := dk_16 254 (dk_at dksX2_run_1 19 rfl rfl)
theorem dX2_run_45 : decode cX2_run 45 = .ok (.ireturn, 1) := dk_172 (dk_at dksX2_run_1 21 rfl rfl)
theorem dX2_run_46 : decode cX2_run 46 = .ok (.aload_n 0, 1) := dk_42 (dk_at dksX2_run_1 22 rfl rfl)
theorem dX2_run_47 : decode cX2_run 47 = .ok (.dup, 1) := dk_89 (dk_at dksX2_run_1 23 rfl rfl)
theorem dX2_run_48 : decode cX2_run 48 = .ok (.getfield 63, 3) := dk_180 0 63 (dk_at dksX2_run_2 0 rfl rfl)
theorem dX2_run_51 : decode cX2_run 51 = .ok (.iload 4, 2) := dk_21 4 (dk_at dksX2_run_2 3 rfl rfl)
theorem dX2_run_53 : decode cX2_run 53 = .ok (.iadd, 1) := dk_96 (dk_at dksX2_run_2 5 rfl rfl)
theorem dX2_run_54 : decode cX2_run 54 = .ok (.putfield 63, 3) := dk_181 0 63 (dk_at dksX2_run_2 6 rfl rfl)
theorem dX2_run_57 : decode cX2_run 57 = .ok (.aload_n 0, 1) := dk_42 (dk_at dksX2_run_2 9 rfl rfl)
theorem dX2_run_58 : decode cX2_run 58 = .ok (.iload 4, 2) := dk_21 4 (dk_at dksX2_run_2 10 rfl rfl)
theorem dX2_run_60 : decode cX2_run 60 = .ok (.newarray .byte, 2) := dk_188_8 (dk_at dksX2_run_2 12 rfl rfl)
theorem dX2_run_62 : decode cX2_run 62 = .ok (.putfield 19, 3) := dk_181 0 19 (dk_at dksX2_run_2 14 rfl rfl)
theorem dX2_run_65 : decode cX2_run 65 = .ok (.iconst 0, 1) := dk_3 (dk_at dksX2_run_2 17 rfl rfl)
theorem dX2_run_66 : decode cX2_run 66 = .ok (.istore 5, 2) := dk_54 5 (dk_at dksX2_run_2 18 rfl rfl)
theorem dX2_run_68 : decode cX2_run 68 = .ok (.iload 5, 2) := dk_21 5 (dk_at dksX2_run_2 20 rfl rfl)
theorem dX2_run_70 : decode cX2_run 70 = .ok (.iload 4, 2) := dk_21 4 (dk_at dksX2_run_2 22 rfl rfl)
theorem dX2_run_72 : decode cX2_run 72 = .ok (.if_icmp .ge 31, 3) := dk_162 0 31 (dk_at dksX2_run_3 0 rfl rfl)
theorem dX2_run_75 : decode cX2_run 75 = .ok (.aload_n 0, 1) := dk_42 (dk_at dksX2_run_3 3 rfl rfl)
theorem dX2_run_76 : decode cX2_run 76 = .ok (.getfield 19, 3) := dk_180 0 19 (dk_at dksX2_run_3 4 rfl rfl)
theorem dX2_run_79 : decode cX2_run 79 = .ok (.iload 5, 2) := dk_21 5 (dk_at dksX2_run_3 7 rfl rfl)
theorem dX2_run_81 : decode cX2_run 81 = .ok (.aload_n 0, 1) := dk_42 (dk_at dksX2_run_3 9 rfl rfl)
theorem dX2_run_82 : decode cX2_run 82 = .ok (.getfield 16, 3) := dk_180 0 16 (dk_at dksX2_run_3 10 rfl rfl)
theorem dX2_run_85 : decode cX2_run 85 = .ok (.iload_n 3, 1) := dk_29 (dk_at dksX2_run_3 13 rfl rfl)
theorem dX2_run_86 : decode cX2_run 86 = .ok (.iload 5, 2) := dk_21 5 (dk_at dksX2_run_3 14 rfl rfl)
theorem dX2_run_88 : decode cX2_run 88 = .ok (.iadd, 1) := dk_96 (dk_at dksX2_run_3 16 rfl rfl)
theorem dX2_run_89 : decode cX2_run 89 = .ok (.baload, 1) := dk_51 (dk_at dksX2_run_3 17 rfl rfl)
theorem dX2_run_90 : decode cX2_run 90 = .ok (.aload_n 0, 1) := dk_42 (dk_at dksX2_run_3 18 rfl rfl)
theorem dX2_run_91 : decode cX2_run 91 = .ok (.invokevirtual 73, 3) := dk_182 0 73 (dk_at dksX2_run_3 19 rfl rfl)
theorem dX2_run_94 : decode cX2_run 94 = .ok (.ixor, 1) := dk_130 (dk_at dksX2_run_3 22 rfl rfl)
theorem dX2_run_95 : decode cX2_run 95 = .ok (.i2b, 1) := dk_145 (dk_at dksX2_run_3 23 rfl rfl)
theorem dX2_run_96 : decode cX2_run 96 = .ok (.bastore, 1) := dk_84 (dk_at dksX2_run_4 0 rfl rfl)
theorem dX2_run_97 : decode cX2_run 97 = .ok (.iinc 5 1, 3) := dk_132 5 1 (dk_at dksX2_run_4 1 rfl rfl)
theorem dX2_run_100 : decode cX2_run 100 = .ok (.goto (-32), 3) := dk_167 255 224 (dk_at dksX2_run_4 4 rfl rfl)
theorem dX2_run_103 : decode cX2_run 103 = .ok (.iload 4, 2) := dk_21 4 (dk_at dksX2_run_4 7 rfl rfl)
theorem dX2_run_105 : decode cX2_run 105 = .ok (.ireturn, 1) := dk_172 (dk_at dksX2_run_4 9 rfl rfl)
abbrev cX2_next : ByteArray := prog_10_method_12_code
def yX2_next : MethodName := ⟨RX2, "next", "()I"⟩
def dkwX2_next_3 : List UInt8 := [96, 17, 1, 0, 112, 181, 0, 56, 27, 172]
abbrev dktX2_next_3 : List UInt8 := dkwX2_next_3 ++ []
def dkwX2_next_2 : List UInt8 := [17, 1, 0, 112, 46, 60, 42, 42, 180, 0, 56, 42, 180, 0, 49, 182, 0, 52, 42, 42, 180, 0, 56, 4]
abbrev dktX2_next_2 : List UInt8 := dkwX2_next_2 ++ dktX2_next_3
def dkwX2_next_1 : List UInt8 := [181, 0, 49, 42, 180, 0, 28, 42, 180, 0, 28, 42, 180, 0, 28, 42, 180, 0, 49, 46, 46, 4, 96]
abbrev dktX2_next_1 : List UInt8 := dkwX2_next_1 ++ dktX2_next_2
def dkwX2_next_0 : List UInt8 := [42, 42, 180, 0, 28, 42, 180, 0, 49, 42, 180, 0, 28, 42, 180, 0, 56, 46, 96, 17, 1, 0, 112, 46]
abbrev dktX2_next_0 : List UInt8 := dkwX2_next_0 ++ dktX2_next_1
theorem dksX2_next_0 : cX2_next.data.toList.drop 0 = dktX2_next_0 := by decide +kernel
theorem dksX2_next_1 : cX2_next.data.toList.drop 24 = dktX2_next_1 := dk_seg dksX2_next_0 24 rfl rfl
theorem dksX2_next_2 : cX2_next.data.toList.drop 47 = dktX2_next_2 := dk_seg dksX2_next_1 23 rfl rfl
theorem dksX2_next_3 : cX2_next.data.toList.drop 71 = dktX2_next_3 := dk_seg dksX2_next_2 24 rfl rfl
theorem dX2_next_0 : decode cX2_next 0 = .ok (.aload_n 0, 1) := dk_42 (dk_at dksX2_next_0 0 rfl rfl)
theorem dX2_next_1 : decode cX2_next 1 = .ok (.aload_n 0, 1) := dk_42 (dk_at dksX2_next_0 1 rfl rfl)
theorem dX2_next_2 : decode cX2_next 2 = .ok (.getfield 28, 3) := dk_180 0 28 (dk_at dksX2_next_0 2 rfl rfl)
theorem dX2_next_5 : decode cX2_next 5 = .ok (.aload_n 0, 1) := dk_42 (dk_at dksX2_next_0 5 rfl rfl)
theorem dX2_next_6 : decode cX2_next 6 = .ok (.getfield 49, 3) := dk_180 0 49 (dk_at dksX2_next_0 6 rfl rfl)
theorem dX2_next_9 : decode cX2_next 9 = .ok (.aload_n 0, 1) := dk_42 (dk_at dksX2_next_0 9 rfl rfl)
theorem dX2_next_10 : decode cX2_next 10 = .ok (.getfield 28, 3) := dk_180 0 28 (dk_at dksX2_next_0 10 rfl rfl)
theorem dX2_next_13 : decode cX2_next 13 = .ok (.aload_n 0, 1) := dk_42 (dk_at dksX2_next_0 13 rfl rfl)
theorem dX2_next_14 : decode cX2_next 14 = .ok (.getfield 56, 3) := dk_180 0 56 (dk_at dksX2_next_0 14 rfl rfl)
theorem dX2_next_17 : decode cX2_next 17 = .ok (.iaload, 1) := dk_46 (dk_at dksX2_next_0 17 rfl rfl)
theorem dX2_next_18 : decode cX2_next 18 = .ok (.iadd, 1) := dk_96 (dk_at dksX2_next_0 18 rfl rfl)
theorem dX2_next_19 : decode cX2_next 19 = .ok (.sipush 256, 3) := dk_17 1 0 (dk_at dksX2_next_0 19 rfl rfl)
theorem dX2_next_22 : decode cX2_next 22 = .ok (.irem, 1) := dk_112 (dk_at dksX2_next_0 22 rfl rfl)
theorem dX2_next_23 : decode cX2_next 23 = .ok (.iaload, 1) := dk_46 (dk_at dksX2_next_0 23 rfl rfl)
theorem dX2_next_24 : decode cX2_next 24 = .ok (.putfield 49, 3) := dk_181 0 49 (dk_at dksX2_next_1 0 rfl rfl)
theorem dX2_next_27 : decode cX2_next 27 = .ok (.aload_n 0, 1) := dk_42 (dk_at dksX2_next_1 3 rfl rfl)
theorem dX2_next_28 : decode cX2_next 28 = .ok (.getfield 28, 3) := dk_180 0 28 (dk_at dksX2_next_1 4 rfl rfl)
theorem dX2_next_31 : decode cX2_next 31 = .ok (.aload_n 0, 1) := dk_42 (dk_at dksX2_next_1 7 rfl rfl)
theorem dX2_next_32 : decode cX2_next 32 = .ok (.getfield 28, 3) := dk_180 0 28 (dk_at dksX2_next_1 8 rfl rfl)
theorem dX2_next_35 : decode cX2_next 35 = .ok (.aload_n 0, 1) := dk_42 (dk_at dksX2_next_1 11 rfl rfl)
theorem dX2_next_36 : decode cX2_next 36 = .ok (.getfield 28, 3) := dk_180 0 28 (dk_at dksX2_next_1 12 rfl rfl)
theorem dX2_next_39 : decode cX2_next 39 = .ok (.aload_n 0, 1) := dk_42 (dk_at dksX2_next_1 15 rfl rfl)
theorem dX2_next_40 : decode cX2_next 40 = .ok (.getfield 49, 3) := dk_180 0 49 (dk_at dksX2_next_1 16 rfl rfl)
theorem dX2_next_43 : decode cX2_next 43 = .ok (.iaload, 1) := dk_46 (dk_at dksX2_next_1 19 rfl rfl)
theorem dX2_next_44 : decode cX2_next 44 = .ok (.iaload, 1) := dk_46 (dk_at dksX2_next_1 20 rfl rfl)
theorem dX2_next_45 : decode cX2_next 45 = .ok (.iconst 1, 1) := dk_4 (dk_at dksX2_next_1 21 rfl rfl)
theorem dX2_next_46 : decode cX2_next 46 = .ok (.iadd, 1) := dk_96 (dk_at dksX2_next_1 22 rfl rfl)
theorem dX2_next_47 : decode cX2_next 47 = .ok (.sipush 256, 3) := dk_17 1 0 (dk_at dksX2_next_2 0 rfl rfl)
theorem dX2_next_50 : decode cX2_next 50 = .ok (.irem, 1) := dk_112 (dk_at dksX2_next_2 3 rfl rfl)
theorem dX2_next_51 : decode cX2_next 51 = .ok (.iaload, 1) := dk_46 (dk_at dksX2_next_2 4 rfl rfl)
theorem dX2_next_52 : decode cX2_next 52 = .ok (.istore_n 1, 1) := dk_60 (dk_at dksX2_next_2 5 rfl rfl)
theorem dX2_next_53 : decode cX2_next 53 = .ok (.aload_n 0, 1) := dk_42 (dk_at dksX2_next_2 6 rfl rfl)
theorem dX2_next_54 : decode cX2_next 54 = .ok (.aload_n 0, 1) := dk_42 (dk_at dksX2_next_2 7 rfl rfl)
theorem dX2_next_55 : decode cX2_next 55 = .ok (.getfield 56, 3) := dk_180 0 56 (dk_at dksX2_next_2 8 rfl rfl)
theorem dX2_next_58 : decode cX2_next 58 = .ok (.aload_n 0, 1) := dk_42 (dk_at dksX2_next_2 11 rfl rfl)
theorem dX2_next_59 : decode cX2_next 59 = .ok (.getfield 49, 3) := dk_180 0 49 (dk_at dksX2_next_2 12 rfl rfl)
theorem dX2_next_62 : decode cX2_next 62 = .ok (.invokevirtual 52, 3) := dk_182 0 52 (dk_at dksX2_next_2 15 rfl rfl)
theorem dX2_next_65 : decode cX2_next 65 = .ok (.aload_n 0, 1) := dk_42 (dk_at dksX2_next_2 18 rfl rfl)
theorem dX2_next_66 : decode cX2_next 66 = .ok (.aload_n 0, 1) := dk_42 (dk_at dksX2_next_2 19 rfl rfl)
theorem dX2_next_67 : decode cX2_next 67 = .ok (.getfield 56, 3) := dk_180 0 56 (dk_at dksX2_next_2 20 rfl rfl)
theorem dX2_next_70 : decode cX2_next 70 = .ok (.iconst 1, 1) := dk_4 (dk_at dksX2_next_2 23 rfl rfl)
theorem dX2_next_71 : decode cX2_next 71 = .ok (.iadd, 1) := dk_96 (dk_at dksX2_next_3 0 rfl rfl)
theorem dX2_next_72 : decode cX2_next 72 = .ok (.sipush 256, 3) := dk_17 1 0 (dk_at dksX2_next_3 1 rfl rfl)
theorem dX2_next_75 : decode cX2_next 75 = .ok (.irem, 1) := dk_112 (dk_at dksX2_next_3 4 rfl rfl)
theorem dX2_next_76 : decode cX2_next 76 = .ok (.putfield 56, 3) := dk_181 0 56 (dk_at dksX2_next_3 5 rfl rfl)
theorem dX2_next_79 : decode cX2_next 79 = .ok (.iload_n 1, 1) := dk_27 (dk_at dksX2_next_3 8 rfl rfl)
theorem dX2_next_80 : decode cX2_next 80 = .ok (.ireturn, 1) := dk_172 (dk_at dksX2_next_3 9 rfl rfl)
abbrev cX2_one : ByteArray := prog_10_method_15_code
def yX2_one : MethodName := ⟨RX2, "one", "(I)I"⟩
def dkwX2_one_1 : List UInt8 := [180, 0, 63, 4, 96, 181, 0, 63, 27, 42, 182, 0, 73, 130, 17, 0, 255, 126, 172]
abbrev dktX2_one_1 : List UInt8 := dkwX2_one_1 ++ []
def dkwX2_one_0 : List UInt8 := [42, 180, 0, 66, 154, 0, 5, 2, 172, 42, 180, 0, 63, 17, 4, 0, 161, 0, 6, 16, 254, 172, 42, 89]
abbrev dktX2_one_0 : List UInt8 := dkwX2_one_0 ++ dktX2_one_1
theorem dksX2_one_0 : cX2_one.data.toList.drop 0 = dktX2_one_0 := by decide +kernel
theorem dksX2_one_1 : cX2_one.data.toList.drop 24 = dktX2_one_1 := dk_seg dksX2_one_0 24 rfl rfl
theorem dX2_one_0 : decode cX2_one 0 = .ok (.aload_n 0, 1) := dk_42 (dk_at dksX2_one_0 0 rfl rfl)
theorem dX2_one_1 : decode cX2_one 1 = .ok (.getfield 66, 3) := dk_180 0 66 (dk_at dksX2_one_0 1 rfl rfl)
theorem dX2_one_4 : decode cX2_one 4 = .ok (.ifCond .ne 5, 3) := dk_154 0 5 (dk_at dksX2_one_0 4 rfl rfl)
theorem dX2_one_7 : decode cX2_one 7 = .ok (.iconst (-1), 1) := dk_2 (dk_at dksX2_one_0 7 rfl rfl)
theorem dX2_one_8 : decode cX2_one 8 = .ok (.ireturn, 1) := dk_172 (dk_at dksX2_one_0 8 rfl rfl)
theorem dX2_one_9 : decode cX2_one 9 = .ok (.aload_n 0, 1) := dk_42 (dk_at dksX2_one_0 9 rfl rfl)
theorem dX2_one_10 : decode cX2_one 10 = .ok (.getfield 63, 3) := dk_180 0 63 (dk_at dksX2_one_0 10 rfl rfl)
theorem dX2_one_13 : decode cX2_one 13 = .ok (.sipush 1024, 3) := dk_17 4 0 (dk_at dksX2_one_0 13 rfl rfl)
theorem dX2_one_16 : decode cX2_one 16 = .ok (.if_icmp .lt 6, 3) := dk_161 0 6 (dk_at dksX2_one_0 16 rfl rfl)
theorem dX2_one_19 : decode cX2_one 19 = .ok (.bipush (-2), 2) := dk_16 254 (dk_at dksX2_one_0 19 rfl rfl)
theorem dX2_one_21 : decode cX2_one 21 = .ok (.ireturn, 1) := dk_172 (dk_at dksX2_one_0 21 rfl rfl)
theorem dX2_one_22 : decode cX2_one 22 = .ok (.aload_n 0, 1) := dk_42 (dk_at dksX2_one_0 22 rfl rfl)
theorem dX2_one_23 : decode cX2_one 23 = .ok (.dup, 1) := dk_89 (dk_at dksX2_one_0 23 rfl rfl)
theorem dX2_one_24 : decode cX2_one 24 = .ok (.getfield 63, 3) := dk_180 0 63 (dk_at dksX2_one_1 0 rfl rfl)
theorem dX2_one_27 : decode cX2_one 27 = .ok (.iconst 1, 1) := dk_4 (dk_at dksX2_one_1 3 rfl rfl)
theorem dX2_one_28 : decode cX2_one 28 = .ok (.iadd, 1) := dk_96 (dk_at dksX2_one_1 4 rfl rfl)
theorem dX2_one_29 : decode cX2_one 29 = .ok (.putfield 63, 3) := dk_181 0 63 (dk_at dksX2_one_1 5 rfl rfl)
theorem dX2_one_32 : decode cX2_one 32 = .ok (.iload_n 1, 1) := dk_27 (dk_at dksX2_one_1 8 rfl rfl)
theorem dX2_one_33 : decode cX2_one 33 = .ok (.aload_n 0, 1) := dk_42 (dk_at dksX2_one_1 9 rfl rfl)
theorem dX2_one_34 : decode cX2_one 34 = .ok (.invokevirtual 73, 3) := dk_182 0 73 (dk_at dksX2_one_1 10 rfl rfl)
theorem dX2_one_37 : decode cX2_one 37 = .ok (.ixor, 1) := dk_130 (dk_at dksX2_one_1 13 rfl rfl)
theorem dX2_one_38 : decode cX2_one 38 = .ok (.sipush 255, 3) := dk_17 0 255 (dk_at dksX2_one_1 14 rfl rfl)
theorem dX2_one_41 : decode cX2_one 41 = .ok (.iand, 1) := dk_126 (dk_at dksX2_one_1 17 rfl rfl)
theorem dX2_one_42 : decode cX2_one 42 = .ok (.ireturn, 1) := dk_172 (dk_at dksX2_one_1 18 rfl rfl)
abbrev cX2_again : ByteArray := prog_10_method_16_code
def yX2_again : MethodName := ⟨RX2, "again", "()V"⟩
def dkwX2_again_0 : List UInt8 := [42, 180, 0, 66, 153, 0, 7, 42, 182, 0, 70, 177]
abbrev dktX2_again_0 : List UInt8 := dkwX2_again_0 ++ []
theorem dksX2_again_0 : cX2_again.data.toList.drop 0 = dktX2_again_0 := by decide +kernel
theorem dX2_again_0 : decode cX2_again 0 = .ok (.aload_n 0, 1) := dk_42 (dk_at dksX2_again_0 0 rfl rfl)
theorem dX2_again_1 : decode cX2_again 1 = .ok (.getfield 66, 3) := dk_180 0 66 (dk_at dksX2_again_0 1 rfl rfl)
theorem dX2_again_4 : decode cX2_again 4 = .ok (.ifCond .eq 7, 3) := dk_153 0 7 (dk_at dksX2_again_0 4 rfl rfl)
theorem dX2_again_7 : decode cX2_again 7 = .ok (.aload_n 0, 1) := dk_42 (dk_at dksX2_again_0 7 rfl rfl)
theorem dX2_again_8 : decode cX2_again 8 = .ok (.invokevirtual 70, 3) := dk_182 0 70 (dk_at dksX2_again_0 8 rfl rfl)
theorem dX2_again_11 : decode cX2_again 11 = .ok (.return_, 1) := dk_177 (dk_at dksX2_again_0 11 rfl rfl)
abbrev cX2_out : ByteArray := prog_10_method_17_code
def yX2_out : MethodName := ⟨RX2, "out", "(I)I"⟩
def dkwX2_out_1 : List UInt8 := [190, 112, 51, 17, 0, 255, 126, 172]
abbrev dktX2_out_1 : List UInt8 := dkwX2_out_1 ++ []
def dkwX2_out_0 : List UInt8 := [42, 180, 0, 19, 190, 154, 0, 7, 2, 167, 0, 22, 42, 180, 0, 19, 27, 18, 40, 126, 42, 180, 0, 19]
abbrev dktX2_out_0 : List UInt8 := dkwX2_out_0 ++ dktX2_out_1
theorem dksX2_out_0 : cX2_out.data.toList.drop 0 = dktX2_out_0 := by decide +kernel
theorem dksX2_out_1 : cX2_out.data.toList.drop 24 = dktX2_out_1 := dk_seg dksX2_out_0 24 rfl rfl
theorem dX2_out_0 : decode cX2_out 0 = .ok (.aload_n 0, 1) := dk_42 (dk_at dksX2_out_0 0 rfl rfl)
theorem dX2_out_1 : decode cX2_out 1 = .ok (.getfield 19, 3) := dk_180 0 19 (dk_at dksX2_out_0 1 rfl rfl)
theorem dX2_out_4 : decode cX2_out 4 = .ok (.arraylength, 1) := dk_190 (dk_at dksX2_out_0 4 rfl rfl)
theorem dX2_out_5 : decode cX2_out 5 = .ok (.ifCond .ne 7, 3) := dk_154 0 7 (dk_at dksX2_out_0 5 rfl rfl)
theorem dX2_out_8 : decode cX2_out 8 = .ok (.iconst (-1), 1) := dk_2 (dk_at dksX2_out_0 8 rfl rfl)
theorem dX2_out_9 : decode cX2_out 9 = .ok (.goto 22, 3) := dk_167 0 22 (dk_at dksX2_out_0 9 rfl rfl)
theorem dX2_out_12 : decode cX2_out 12 = .ok (.aload_n 0, 1) := dk_42 (dk_at dksX2_out_0 12 rfl rfl)
theorem dX2_out_13 : decode cX2_out 13 = .ok (.getfield 19, 3) := dk_180 0 19 (dk_at dksX2_out_0 13 rfl rfl)
theorem dX2_out_16 : decode cX2_out 16 = .ok (.iload_n 1, 1) := dk_27 (dk_at dksX2_out_0 16 rfl rfl)
theorem dX2_out_17 : decode cX2_out 17 = .ok (.ldc 40, 2) := dk_18 40 (dk_at dksX2_out_0 17 rfl rfl)
theorem dX2_out_19 : decode cX2_out 19 = .ok (.iand, 1) := dk_126 (dk_at dksX2_out_0 19 rfl rfl)
theorem dX2_out_20 : decode cX2_out 20 = .ok (.aload_n 0, 1) := dk_42 (dk_at dksX2_out_0 20 rfl rfl)
theorem dX2_out_21 : decode cX2_out 21 = .ok (.getfield 19, 3) := dk_180 0 19 (dk_at dksX2_out_0 21 rfl rfl)
theorem dX2_out_24 : decode cX2_out 24 = .ok (.arraylength, 1) := dk_190 (dk_at dksX2_out_1 0 rfl rfl)
theorem dX2_out_25 : decode cX2_out 25 = .ok (.irem, 1) := dk_112 (dk_at dksX2_out_1 1 rfl rfl)
theorem dX2_out_26 : decode cX2_out 26 = .ok (.baload, 1) := dk_51 (dk_at dksX2_out_1 2 rfl rfl)
theorem dX2_out_27 : decode cX2_out 27 = .ok (.sipush 255, 3) := dk_17 0 255 (dk_at dksX2_out_1 3 rfl rfl)
theorem dX2_out_30 : decode cX2_out 30 = .ok (.iand, 1) := dk_126 (dk_at dksX2_out_1 6 rfl rfl)
theorem dX2_out_31 : decode cX2_out 31 = .ok (.ireturn, 1) := dk_172 (dk_at dksX2_out_1 7 rfl rfl)
theorem q11 : (Jvm.Cond.initialized "VmpcDeskModel") ∈ lw_all := lw_g (lw_at lw_m1 3 rfl) rfl
theorem q303 : (Jvm.Cond.instantiable "VmpcDeskModel" (12 : Nat)) ∈ lw_all := lw_g (lw_at lw_m2 55 rfl) rfl
theorem q305 : (Jvm.Cond.instanceMethod ({ cls := "VmpcDeskModel", name := "<init>", desc := "()V" } : Jvm.MethodName)) ∈ lw_all := lw_g (lw_at lw_m2 57 rfl) rfl
theorem q306 : (Jvm.Cond.code ({ cls := "VmpcDeskModel", name := "<init>", desc := "()V" } : Jvm.MethodName) prog_10_method_1_code (1 : Nat) (Option.none : Option Jvm.ClassFile.FieldType)) ∈ lw_all := lw_g (lw_at lw_m2 58 rfl) rfl
theorem q307 : (Jvm.Cond.methodLink "VmpcDeskModel" (1 : Nat) ({ cls := "java/lang/Object", name := "<init>", desc := "()V" } : Jvm.MethodName)) ∈ lw_all := lw_g (lw_at lw_m2 59 rfl) rfl
theorem q308 : (Jvm.Cond.fieldLink "VmpcDeskModel" (7 : Nat) "VmpcDeskModel" "key" "[B") ∈ lw_all := lw_g (lw_at lw_m2 60 rfl) rfl
theorem q309 : (Jvm.Cond.fieldLink "VmpcDeskModel" (13 : Nat) "VmpcDeskModel" "nonce" "[B") ∈ lw_all := lw_g (lw_at lw_m2 61 rfl) rfl
theorem q310 : (Jvm.Cond.fieldLink "VmpcDeskModel" (16 : Nat) "VmpcDeskModel" "text" "[B") ∈ lw_all := lw_g (lw_at lw_m2 62 rfl) rfl
theorem q311 : (Jvm.Cond.fieldLink "VmpcDeskModel" (32 : Nat) "VmpcDeskModel" "size" "I") ∈ lw_all := lw_g (lw_at lw_m2 63 rfl) rfl
theorem q312 : (Jvm.Cond.fieldLink "VmpcDeskModel" (19 : Nat) "VmpcDeskModel" "out" "[B") ∈ lw_all := lw_g (lw_at lw_m2 64 rfl) rfl
theorem q313 : (Jvm.Cond.fieldLink "VmpcDeskModel" (66 : Nat) "VmpcDeskModel" "isSet" "Z") ∈ lw_all := lw_g (lw_at lw_m2 65 rfl) rfl
theorem q314 : (Jvm.Cond.fieldLink "VmpcDeskModel" (63 : Nat) "VmpcDeskModel" "given" "I") ∈ lw_all := lw_g (lw_at lw_m2 66 rfl) rfl
theorem q315 : (Jvm.Cond.fieldLink "VmpcDeskModel" (22 : Nat) "VmpcDeskModel" "begunKey" "[B") ∈ lw_all := lw_g (lw_at lw_m2 67 rfl) rfl
theorem q316 : (Jvm.Cond.fieldLink "VmpcDeskModel" (25 : Nat) "VmpcDeskModel" "begunNonce" "[B") ∈ lw_all := lw_g (lw_at lw_m2 68 rfl) rfl
theorem q317 : (Jvm.Cond.fieldLink "VmpcDeskModel" (28 : Nat) "VmpcDeskModel" "row" "[I") ∈ lw_all := lw_g (lw_at lw_m2 69 rfl) rfl
theorem q318 : (Jvm.Cond.fieldLink "VmpcDeskModel" (49 : Nat) "VmpcDeskModel" "sum" "I") ∈ lw_all := lw_g (lw_at lw_m2 70 rfl) rfl
theorem q319 : (Jvm.Cond.fieldLink "VmpcDeskModel" (56 : Nat) "VmpcDeskModel" "at" "I") ∈ lw_all := lw_g (lw_at lw_m2 71 rfl) rfl
theorem q320 : (Jvm.Cond.laysFinal "VmpcDeskModel" "VmpcDeskModel" "key" "[B") ∈ lw_all := lw_g (lw_at lw_m2 72 rfl) rfl
theorem q321 : (Jvm.Cond.soleField "VmpcDeskModel" "key") ∈ lw_all := lw_g (lw_at lw_m2 73 rfl) rfl
theorem q322 : (Jvm.Cond.laysFinal "VmpcDeskModel" "VmpcDeskModel" "nonce" "[B") ∈ lw_all := lw_g (lw_at lw_m2 74 rfl) rfl
theorem q323 : (Jvm.Cond.soleField "VmpcDeskModel" "nonce") ∈ lw_all := lw_g (lw_at lw_m2 75 rfl) rfl
theorem q324 : (Jvm.Cond.laysFinal "VmpcDeskModel" "VmpcDeskModel" "text" "[B") ∈ lw_all := lw_g (lw_at lw_m2 76 rfl) rfl
theorem q325 : (Jvm.Cond.soleField "VmpcDeskModel" "text") ∈ lw_all := lw_g (lw_at lw_m2 77 rfl) rfl
theorem q326 : (Jvm.Cond.lays "VmpcDeskModel" "VmpcDeskModel" "size" "I") ∈ lw_all := lw_g (lw_at lw_m2 78 rfl) rfl
theorem q327 : (Jvm.Cond.soleField "VmpcDeskModel" "size") ∈ lw_all := lw_g (lw_at lw_m2 79 rfl) rfl
theorem q328 : (Jvm.Cond.lays "VmpcDeskModel" "VmpcDeskModel" "out" "[B") ∈ lw_all := lw_g (lw_at lw_m2 80 rfl) rfl
theorem q329 : (Jvm.Cond.soleField "VmpcDeskModel" "out") ∈ lw_all := lw_g (lw_at lw_m2 81 rfl) rfl
theorem q330 : (Jvm.Cond.lays "VmpcDeskModel" "VmpcDeskModel" "isSet" "Z") ∈ lw_all := lw_g (lw_at lw_m2 82 rfl) rfl
theorem q331 : (Jvm.Cond.soleField "VmpcDeskModel" "isSet") ∈ lw_all := lw_g (lw_at lw_m2 83 rfl) rfl
theorem q332 : (Jvm.Cond.lays "VmpcDeskModel" "VmpcDeskModel" "given" "I") ∈ lw_all := lw_g (lw_at lw_m2 84 rfl) rfl
theorem q333 : (Jvm.Cond.soleField "VmpcDeskModel" "given") ∈ lw_all := lw_g (lw_at lw_m2 85 rfl) rfl
theorem q334 : (Jvm.Cond.laysFinal "VmpcDeskModel" "VmpcDeskModel" "begunKey" "[B") ∈ lw_all := lw_g (lw_at lw_m2 86 rfl) rfl
theorem q335 : (Jvm.Cond.soleField "VmpcDeskModel" "begunKey") ∈ lw_all := lw_g (lw_at lw_m2 87 rfl) rfl
theorem q336 : (Jvm.Cond.laysFinal "VmpcDeskModel" "VmpcDeskModel" "begunNonce" "[B") ∈ lw_all := lw_g (lw_at lw_m2 88 rfl) rfl
theorem q337 : (Jvm.Cond.soleField "VmpcDeskModel" "begunNonce") ∈ lw_all := lw_g (lw_at lw_m2 89 rfl) rfl
theorem q338 : (Jvm.Cond.laysFinal "VmpcDeskModel" "VmpcDeskModel" "row" "[I") ∈ lw_all := lw_g (lw_at lw_m2 90 rfl) rfl
theorem q339 : (Jvm.Cond.soleField "VmpcDeskModel" "row") ∈ lw_all := lw_g (lw_at lw_m2 91 rfl) rfl
theorem q340 : (Jvm.Cond.lays "VmpcDeskModel" "VmpcDeskModel" "sum" "I") ∈ lw_all := lw_g (lw_at lw_m2 92 rfl) rfl
theorem q341 : (Jvm.Cond.soleField "VmpcDeskModel" "sum") ∈ lw_all := lw_g (lw_at lw_m2 93 rfl) rfl
theorem q342 : (Jvm.Cond.lays "VmpcDeskModel" "VmpcDeskModel" "at" "I") ∈ lw_all := lw_g (lw_at lw_m2 94 rfl) rfl
theorem q343 : (Jvm.Cond.soleField "VmpcDeskModel" "at") ∈ lw_all := lw_g (lw_at lw_m2 95 rfl) rfl
theorem q344 : (Jvm.Cond.superclass "VmpcDeskModel" "java/lang/Object") ∈ lw_all := lw_g (lw_at lw_m2 96 rfl) rfl
theorem q347 : (Jvm.Cond.instanceMethod ({ cls := "VmpcDeskModel", name := "put", desc := "(IIII)Z" } : Jvm.MethodName)) ∈ lw_all := lw_g (lw_at lw_m2 99 rfl) rfl
theorem q348 : (Jvm.Cond.selects "VmpcDeskModel" ({ cls := "VmpcDeskModel", name := "put", desc := "(IIII)Z" } : Jvm.MethodName) ({ cls := "VmpcDeskModel", name := "put", desc := "(IIII)Z" } : Jvm.MethodName)) ∈ lw_all := lw_g (lw_at lw_m2 100 rfl) rfl
theorem q349 : (Jvm.Cond.code ({ cls := "VmpcDeskModel", name := "put", desc := "(IIII)Z" } : Jvm.MethodName) prog_10_method_3_code (5 : Nat) (Option.some Jvm.ClassFile.FieldType.boolean)) ∈ lw_all := lw_g (lw_at lw_m2 101 rfl) rfl
theorem q350 : (Jvm.Cond.methodLink "VmpcDeskModel" (36 : Nat) ({ cls := "VmpcDeskModel", name := "put", desc := "([BII)V" } : Jvm.MethodName)) ∈ lw_all := lw_g (lw_at lw_m2 102 rfl) rfl
theorem q351 : (Jvm.Cond.static ({ cls := "VmpcDeskModel", name := "put", desc := "([BII)V" } : Jvm.MethodName)) ∈ lw_all := lw_g (lw_at lw_m2 103 rfl) rfl
theorem q352 : (Jvm.Cond.code ({ cls := "VmpcDeskModel", name := "put", desc := "([BII)V" } : Jvm.MethodName) prog_10_method_2_code (4 : Nat) (Option.none : Option Jvm.ClassFile.FieldType)) ∈ lw_all := lw_g (lw_at lw_m2 104 rfl) rfl
theorem q354 : (Jvm.Cond.instanceMethod ({ cls := "VmpcDeskModel", name := "trim", desc := "(I)V" } : Jvm.MethodName)) ∈ lw_all := lw_g (lw_at lw_m2 106 rfl) rfl
theorem q355 : (Jvm.Cond.selects "VmpcDeskModel" ({ cls := "VmpcDeskModel", name := "trim", desc := "(I)V" } : Jvm.MethodName) ({ cls := "VmpcDeskModel", name := "trim", desc := "(I)V" } : Jvm.MethodName)) ∈ lw_all := lw_g (lw_at lw_m2 107 rfl) rfl
theorem q356 : (Jvm.Cond.code ({ cls := "VmpcDeskModel", name := "trim", desc := "(I)V" } : Jvm.MethodName) prog_10_method_5_code (2 : Nat) (Option.none : Option Jvm.ClassFile.FieldType)) ∈ lw_all := lw_g (lw_at lw_m2 108 rfl) rfl
theorem q357 : (Jvm.Cond.methodLink "VmpcDeskModel" (41 : Nat) ({ cls := "VmpcDeskModel", name := "from", desc := "(I)I" } : Jvm.MethodName)) ∈ lw_all := lw_g (lw_at lw_m2 109 rfl) rfl
theorem q358 : (Jvm.Cond.privateMethod ({ cls := "VmpcDeskModel", name := "from", desc := "(I)I" } : Jvm.MethodName)) ∈ lw_tbl := lw_at lw_m2 110 rfl
theorem q359 : (Jvm.Cond.instanceMethod ({ cls := "VmpcDeskModel", name := "from", desc := "(I)I" } : Jvm.MethodName)) ∈ lw_all := lw_g (lw_at lw_m2 111 rfl) rfl
theorem q360 : (Jvm.Cond.code ({ cls := "VmpcDeskModel", name := "from", desc := "(I)I" } : Jvm.MethodName) prog_10_method_4_code (2 : Nat) (Option.some Jvm.ClassFile.FieldType.int)) ∈ lw_all := lw_g (lw_at lw_m2 112 rfl) rfl
theorem q361 : (Jvm.Cond.constant "VmpcDeskModel" (40 : Nat) (2147483647 : Int32)) ∈ lw_all := lw_g (lw_at lw_m2 113 rfl) rfl
theorem q363 : (Jvm.Cond.instanceMethod ({ cls := "VmpcDeskModel", name := "key", desc := "(IIIII)V" } : Jvm.MethodName)) ∈ lw_all := lw_g (lw_at lw_m2 115 rfl) rfl
theorem q364 : (Jvm.Cond.selects "VmpcDeskModel" ({ cls := "VmpcDeskModel", name := "key", desc := "(IIIII)V" } : Jvm.MethodName) ({ cls := "VmpcDeskModel", name := "key", desc := "(IIIII)V" } : Jvm.MethodName)) ∈ lw_all := lw_g (lw_at lw_m2 116 rfl) rfl
theorem q365 : (Jvm.Cond.code ({ cls := "VmpcDeskModel", name := "key", desc := "(IIIII)V" } : Jvm.MethodName) prog_10_method_7_code (6 : Nat) (Option.none : Option Jvm.ClassFile.FieldType)) ∈ lw_all := lw_g (lw_at lw_m2 117 rfl) rfl
theorem q366 : (Jvm.Cond.methodLink "VmpcDeskModel" (45 : Nat) ({ cls := "VmpcDeskModel", name := "four", desc := "([BIIIII)V" } : Jvm.MethodName)) ∈ lw_all := lw_g (lw_at lw_m2 118 rfl) rfl
theorem q367 : (Jvm.Cond.static ({ cls := "VmpcDeskModel", name := "four", desc := "([BIIIII)V" } : Jvm.MethodName)) ∈ lw_all := lw_g (lw_at lw_m2 119 rfl) rfl
theorem q368 : (Jvm.Cond.code ({ cls := "VmpcDeskModel", name := "four", desc := "([BIIIII)V" } : Jvm.MethodName) prog_10_method_6_code (7 : Nat) (Option.none : Option Jvm.ClassFile.FieldType)) ∈ lw_all := lw_g (lw_at lw_m2 120 rfl) rfl
theorem q370 : (Jvm.Cond.instanceMethod ({ cls := "VmpcDeskModel", name := "nonce", desc := "(IIIII)V" } : Jvm.MethodName)) ∈ lw_all := lw_g (lw_at lw_m2 122 rfl) rfl
theorem q371 : (Jvm.Cond.selects "VmpcDeskModel" ({ cls := "VmpcDeskModel", name := "nonce", desc := "(IIIII)V" } : Jvm.MethodName) ({ cls := "VmpcDeskModel", name := "nonce", desc := "(IIIII)V" } : Jvm.MethodName)) ∈ lw_all := lw_g (lw_at lw_m2 123 rfl) rfl
theorem q372 : (Jvm.Cond.code ({ cls := "VmpcDeskModel", name := "nonce", desc := "(IIIII)V" } : Jvm.MethodName) prog_10_method_8_code (6 : Nat) (Option.none : Option Jvm.ClassFile.FieldType)) ∈ lw_all := lw_g (lw_at lw_m2 124 rfl) rfl
theorem q374 : (Jvm.Cond.instanceMethod ({ cls := "VmpcDeskModel", name := "begin", desc := "(I)V" } : Jvm.MethodName)) ∈ lw_all := lw_g (lw_at lw_m2 126 rfl) rfl
theorem q375 : (Jvm.Cond.selects "VmpcDeskModel" ({ cls := "VmpcDeskModel", name := "begin", desc := "(I)V" } : Jvm.MethodName) ({ cls := "VmpcDeskModel", name := "begin", desc := "(I)V" } : Jvm.MethodName)) ∈ lw_all := lw_g (lw_at lw_m2 127 rfl) rfl
theorem q376 : (Jvm.Cond.code ({ cls := "VmpcDeskModel", name := "begin", desc := "(I)V" } : Jvm.MethodName) prog_10_method_13_code (3 : Nat) (Option.none : Option Jvm.ClassFile.FieldType)) ∈ lw_all := lw_g (lw_at lw_m2 128 rfl) rfl
theorem q377 : (Jvm.Cond.methodLink "VmpcDeskModel" (70 : Nat) ({ cls := "VmpcDeskModel", name := "sets", desc := "()V" } : Jvm.MethodName)) ∈ lw_all := lw_g (lw_at lw_m2 129 rfl) rfl
theorem q378 : (Jvm.Cond.privateMethod ({ cls := "VmpcDeskModel", name := "sets", desc := "()V" } : Jvm.MethodName)) ∈ lw_tbl := lw_at lw_m2 130 rfl
theorem q379 : (Jvm.Cond.instanceMethod ({ cls := "VmpcDeskModel", name := "sets", desc := "()V" } : Jvm.MethodName)) ∈ lw_all := lw_g (lw_at lw_m2 131 rfl) rfl
theorem q380 : (Jvm.Cond.code ({ cls := "VmpcDeskModel", name := "sets", desc := "()V" } : Jvm.MethodName) prog_10_method_11_code (2 : Nat) (Option.none : Option Jvm.ClassFile.FieldType)) ∈ lw_all := lw_g (lw_at lw_m2 132 rfl) rfl
theorem q381 : (Jvm.Cond.methodLink "VmpcDeskModel" (59 : Nat) ({ cls := "VmpcDeskModel", name := "stirs", desc := "([B)V" } : Jvm.MethodName)) ∈ lw_all := lw_g (lw_at lw_m2 133 rfl) rfl
theorem q382 : (Jvm.Cond.privateMethod ({ cls := "VmpcDeskModel", name := "stirs", desc := "([B)V" } : Jvm.MethodName)) ∈ lw_tbl := lw_at lw_m2 134 rfl
theorem q383 : (Jvm.Cond.instanceMethod ({ cls := "VmpcDeskModel", name := "stirs", desc := "([B)V" } : Jvm.MethodName)) ∈ lw_all := lw_g (lw_at lw_m2 135 rfl) rfl
theorem q384 : (Jvm.Cond.code ({ cls := "VmpcDeskModel", name := "stirs", desc := "([B)V" } : Jvm.MethodName) prog_10_method_10_code (4 : Nat) (Option.none : Option Jvm.ClassFile.FieldType)) ∈ lw_all := lw_g (lw_at lw_m2 136 rfl) rfl
theorem q385 : (Jvm.Cond.methodLink "VmpcDeskModel" (52 : Nat) ({ cls := "VmpcDeskModel", name := "changes", desc := "(II)V" } : Jvm.MethodName)) ∈ lw_all := lw_g (lw_at lw_m2 137 rfl) rfl
theorem q386 : (Jvm.Cond.privateMethod ({ cls := "VmpcDeskModel", name := "changes", desc := "(II)V" } : Jvm.MethodName)) ∈ lw_tbl := lw_at lw_m2 138 rfl
theorem q387 : (Jvm.Cond.instanceMethod ({ cls := "VmpcDeskModel", name := "changes", desc := "(II)V" } : Jvm.MethodName)) ∈ lw_all := lw_g (lw_at lw_m2 139 rfl) rfl
theorem q388 : (Jvm.Cond.code ({ cls := "VmpcDeskModel", name := "changes", desc := "(II)V" } : Jvm.MethodName) prog_10_method_9_code (4 : Nat) (Option.none : Option Jvm.ClassFile.FieldType)) ∈ lw_all := lw_g (lw_at lw_m2 140 rfl) rfl
theorem q390 : (Jvm.Cond.instanceMethod ({ cls := "VmpcDeskModel", name := "run", desc := "(II)I" } : Jvm.MethodName)) ∈ lw_all := lw_g (lw_at lw_m2 142 rfl) rfl
theorem q391 : (Jvm.Cond.selects "VmpcDeskModel" ({ cls := "VmpcDeskModel", name := "run", desc := "(II)I" } : Jvm.MethodName) ({ cls := "VmpcDeskModel", name := "run", desc := "(II)I" } : Jvm.MethodName)) ∈ lw_all := lw_g (lw_at lw_m2 143 rfl) rfl
theorem q392 : (Jvm.Cond.code ({ cls := "VmpcDeskModel", name := "run", desc := "(II)I" } : Jvm.MethodName) prog_10_method_14_code (6 : Nat) (Option.some Jvm.ClassFile.FieldType.int)) ∈ lw_all := lw_g (lw_at lw_m2 144 rfl) rfl
theorem q393 : (Jvm.Cond.methodLink "VmpcDeskModel" (73 : Nat) ({ cls := "VmpcDeskModel", name := "next", desc := "()I" } : Jvm.MethodName)) ∈ lw_all := lw_g (lw_at lw_m2 145 rfl) rfl
theorem q394 : (Jvm.Cond.privateMethod ({ cls := "VmpcDeskModel", name := "next", desc := "()I" } : Jvm.MethodName)) ∈ lw_tbl := lw_at lw_m2 146 rfl
theorem q395 : (Jvm.Cond.instanceMethod ({ cls := "VmpcDeskModel", name := "next", desc := "()I" } : Jvm.MethodName)) ∈ lw_all := lw_g (lw_at lw_m2 147 rfl) rfl
theorem q396 : (Jvm.Cond.code ({ cls := "VmpcDeskModel", name := "next", desc := "()I" } : Jvm.MethodName) prog_10_method_12_code (2 : Nat) (Option.some Jvm.ClassFile.FieldType.int)) ∈ lw_all := lw_g (lw_at lw_m2 148 rfl) rfl
theorem q398 : (Jvm.Cond.instanceMethod ({ cls := "VmpcDeskModel", name := "one", desc := "(I)I" } : Jvm.MethodName)) ∈ lw_all := lw_g (lw_at lw_m2 150 rfl) rfl
theorem q399 : (Jvm.Cond.selects "VmpcDeskModel" ({ cls := "VmpcDeskModel", name := "one", desc := "(I)I" } : Jvm.MethodName) ({ cls := "VmpcDeskModel", name := "one", desc := "(I)I" } : Jvm.MethodName)) ∈ lw_all := lw_g (lw_at lw_m2 151 rfl) rfl
theorem q400 : (Jvm.Cond.code ({ cls := "VmpcDeskModel", name := "one", desc := "(I)I" } : Jvm.MethodName) prog_10_method_15_code (2 : Nat) (Option.some Jvm.ClassFile.FieldType.int)) ∈ lw_all := lw_g (lw_at lw_m2 152 rfl) rfl
theorem q402 : (Jvm.Cond.instanceMethod ({ cls := "VmpcDeskModel", name := "again", desc := "()V" } : Jvm.MethodName)) ∈ lw_all := lw_g (lw_at lw_m2 154 rfl) rfl
theorem q403 : (Jvm.Cond.selects "VmpcDeskModel" ({ cls := "VmpcDeskModel", name := "again", desc := "()V" } : Jvm.MethodName) ({ cls := "VmpcDeskModel", name := "again", desc := "()V" } : Jvm.MethodName)) ∈ lw_all := lw_g (lw_at lw_m2 155 rfl) rfl
theorem q404 : (Jvm.Cond.code ({ cls := "VmpcDeskModel", name := "again", desc := "()V" } : Jvm.MethodName) prog_10_method_16_code (1 : Nat) (Option.none : Option Jvm.ClassFile.FieldType)) ∈ lw_all := lw_g (lw_at lw_m2 156 rfl) rfl
theorem q406 : (Jvm.Cond.instanceMethod ({ cls := "VmpcDeskModel", name := "out", desc := "(I)I" } : Jvm.MethodName)) ∈ lw_all := lw_g (lw_at lw_m2 158 rfl) rfl
theorem q407 : (Jvm.Cond.selects "VmpcDeskModel" ({ cls := "VmpcDeskModel", name := "out", desc := "(I)I" } : Jvm.MethodName) ({ cls := "VmpcDeskModel", name := "out", desc := "(I)I" } : Jvm.MethodName)) ∈ lw_all := lw_g (lw_at lw_m2 159 rfl) rfl
theorem q408 : (Jvm.Cond.code ({ cls := "VmpcDeskModel", name := "out", desc := "(I)I" } : Jvm.MethodName) prog_10_method_17_code (2 : Nat) (Option.some Jvm.ClassFile.FieldType.int)) ∈ lw_all := lw_g (lw_at lw_m2 160 rfl) rfl
theorem in_X2 : ∀ w ∈ wsX20, w ∈ lw_all := lw_in wsX20 [320, 322, 324, 326, 328, 330, 332, 334, 336, 338, 340, 342] (by decide +kernel) (by decide +kernel)
end
section
/-! the law's own entry -/
set_option maxRecDepth 100000
abbrev cL_law : ByteArray := code
def dkwL_law_16 : List UInt8 := [167, 254, 136, 4, 172]
abbrev dktL_law_16 : List UInt8 := dkwL_law_16 ++ []
def dkwL_law_15 : List UInt8 := [29, 4, 96, 46, 182, 0, 50, 44, 42, 29, 4, 96, 46, 182, 0, 53, 159, 0, 5, 3, 172, 132, 3, 6]
abbrev dktL_law_15 : List UInt8 := dkwL_law_15 ++ dktL_law_16
def dkwL_law_14 : List UInt8 := [4, 96, 46, 182, 0, 45, 159, 0, 39, 3, 172, 43, 182, 0, 46, 44, 182, 0, 49, 167, 0, 26, 43, 42]
abbrev dktL_law_14 : List UInt8 := dkwL_law_14 ++ dktL_law_15
def dkwL_law_13 : List UInt8 := [29, 5, 96, 46, 182, 0, 40, 159, 0, 62, 3, 172, 43, 42, 29, 4, 96, 46, 182, 0, 41, 44, 42, 29]
abbrev dktL_law_13 : List UInt8 := dkwL_law_13 ++ dktL_law_14
def dkwL_law_12 : List UInt8 := [167, 0, 93, 43, 42, 29, 4, 96, 46, 42, 29, 5, 96, 46, 182, 0, 36, 44, 42, 29, 4, 96, 46, 42]
abbrev dktL_law_12 : List UInt8 := dkwL_law_12 ++ dktL_law_13
def dkwL_law_11 : List UInt8 := [182, 0, 31, 167, 0, 114, 43, 42, 29, 4, 96, 46, 182, 0, 32, 44, 42, 29, 4, 96, 46, 182, 0, 35]
abbrev dktL_law_11 : List UInt8 := dkwL_law_11 ++ dktL_law_12
def dkwL_law_10 : List UInt8 := [4, 96, 46, 42, 29, 5, 96, 46, 42, 29, 6, 96, 46, 42, 29, 7, 96, 46, 42, 29, 8, 96, 46]
abbrev dktL_law_10 : List UInt8 := dkwL_law_10 ++ dktL_law_11
def dkwL_law_9 : List UInt8 := [5, 96, 46, 42, 29, 6, 96, 46, 42, 29, 7, 96, 46, 42, 29, 8, 96, 46, 182, 0, 28, 44, 42, 29]
abbrev dktL_law_9 : List UInt8 := dkwL_law_9 ++ dktL_law_10
def dkwL_law_8 : List UInt8 := [42, 29, 7, 96, 46, 42, 29, 8, 96, 46, 182, 0, 27, 167, 0, 175, 43, 42, 29, 4, 96, 46, 42, 29]
abbrev dktL_law_8 : List UInt8 := dkwL_law_8 ++ dktL_law_9
def dkwL_law_7 : List UInt8 := [42, 29, 8, 96, 46, 182, 0, 23, 44, 42, 29, 4, 96, 46, 42, 29, 5, 96, 46, 42, 29, 6, 96, 46]
abbrev dktL_law_7 : List UInt8 := dkwL_law_7 ++ dktL_law_8
def dkwL_law_6 : List UInt8 := [167, 0, 236, 43, 42, 29, 4, 96, 46, 42, 29, 5, 96, 46, 42, 29, 6, 96, 46, 42, 29, 7, 96, 46]
abbrev dktL_law_6 : List UInt8 := dkwL_law_6 ++ dktL_law_7
def dkwL_law_5 : List UInt8 := [159, 1, 3, 3, 172, 43, 42, 29, 4, 96, 46, 182, 0, 18, 44, 42, 29, 4, 96, 46, 182, 0, 22]
abbrev dktL_law_5 : List UInt8 := dkwL_law_5 ++ dktL_law_6
def dkwL_law_4 : List UInt8 := [44, 42, 29, 4, 96, 46, 42, 29, 5, 96, 46, 42, 29, 6, 96, 46, 42, 29, 7, 96, 46, 182, 0, 17]
abbrev dktL_law_4 : List UInt8 := dkwL_law_4 ++ dktL_law_5
def dkwL_law_3 : List UInt8 := [43, 42, 29, 4, 96, 46, 42, 29, 5, 96, 46, 42, 29, 6, 96, 46, 42, 29, 7, 96, 46, 182, 0, 13]
abbrev dktL_law_3 : List UInt8 := dkwL_law_3 ++ dktL_law_4
def dkwL_law_2 : List UInt8 := [170, 0, 0, 0, 0, 1, 102, 0, 0, 0, 0, 0, 0, 0, 8, 0, 0, 0, 51, 0, 0, 0, 104, 0, 0, 0, 125, 0, 0, 0, 186, 0, 0, 0, 247, 0, 0, 1, 12, 0, 0, 1, 45, 0, 0, 1, 68, 0, 0, 1, 79]
abbrev dktL_law_2 : List UInt8 := dkwL_law_2 ++ dktL_law_3
def dkwL_law_1 : List UInt8 := [163, 1, 117, 42, 29, 46, 16, 15, 126]
abbrev dktL_law_1 : List UInt8 := dkwL_law_1 ++ dktL_law_2
def dkwL_law_0 : List UInt8 := [187, 0, 7, 89, 183, 0, 9, 76, 187, 0, 10, 89, 183, 0, 12, 77, 3, 62, 29, 42, 190, 16, 6, 100]
abbrev dktL_law_0 : List UInt8 := dkwL_law_0 ++ dktL_law_1
theorem dksL_law_0 : cL_law.data.toList.drop 0 = dktL_law_0 := by decide +kernel
theorem dksL_law_1 : cL_law.data.toList.drop 24 = dktL_law_1 := dk_seg dksL_law_0 24 rfl rfl
theorem dksL_law_2 : cL_law.data.toList.drop 33 = dktL_law_2 := dk_seg dksL_law_1 9 rfl rfl
theorem dksL_law_3 : cL_law.data.toList.drop 84 = dktL_law_3 := dk_seg dksL_law_2 51 rfl rfl
theorem dksL_law_4 : cL_law.data.toList.drop 108 = dktL_law_4 := dk_seg dksL_law_3 24 rfl rfl
theorem dksL_law_5 : cL_law.data.toList.drop 132 = dktL_law_5 := dk_seg dksL_law_4 24 rfl rfl
theorem dksL_law_6 : cL_law.data.toList.drop 155 = dktL_law_6 := dk_seg dksL_law_5 23 rfl rfl
theorem dksL_law_7 : cL_law.data.toList.drop 179 = dktL_law_7 := dk_seg dksL_law_6 24 rfl rfl
theorem dksL_law_8 : cL_law.data.toList.drop 203 = dktL_law_8 := dk_seg dksL_law_7 24 rfl rfl
theorem dksL_law_9 : cL_law.data.toList.drop 227 = dktL_law_9 := dk_seg dksL_law_8 24 rfl rfl
theorem dksL_law_10 : cL_law.data.toList.drop 251 = dktL_law_10 := dk_seg dksL_law_9 24 rfl rfl
theorem dksL_law_11 : cL_law.data.toList.drop 274 = dktL_law_11 := dk_seg dksL_law_10 23 rfl rfl
theorem dksL_law_12 : cL_law.data.toList.drop 298 = dktL_law_12 := dk_seg dksL_law_11 24 rfl rfl
theorem dksL_law_13 : cL_law.data.toList.drop 322 = dktL_law_13 := dk_seg dksL_law_12 24 rfl rfl
theorem dksL_law_14 : cL_law.data.toList.drop 346 = dktL_law_14 := dk_seg dksL_law_13 24 rfl rfl
theorem dksL_law_15 : cL_law.data.toList.drop 370 = dktL_law_15 := dk_seg dksL_law_14 24 rfl rfl
theorem dksL_law_16 : cL_law.data.toList.drop 394 = dktL_law_16 := dk_seg dksL_law_15 24 rfl rfl
theorem dL_law_0 : decode cL_law 0 = .ok (.new 7, 3) := dk_187 0 7 (dk_at dksL_law_0 0 rfl rfl)
theorem dL_law_3 : decode cL_law 3 = .ok (.dup, 1) := dk_89 (dk_at dksL_law_0 3 rfl rfl)
theorem dL_law_4 : decode cL_law 4 = .ok (.invokespecial 9, 3) := dk_183 0 9 (dk_at dksL_law_0 4 rfl rfl)
theorem dL_law_7 : decode cL_law 7 = .ok (.astore_n 1, 1) := dk_76 (dk_at dksL_law_0 7 rfl rfl)
theorem dL_law_8 : decode cL_law 8 = .ok (.new 10, 3) := dk_187 0 10 (dk_at dksL_law_0 8 rfl rfl)
theorem dL_law_11 : decode cL_law 11 = .ok (.dup, 1) := dk_89 (dk_at dksL_law_0 11 rfl rfl)
theorem dL_law_12 : decode cL_law 12 = .ok (.invokespecial 12, 3) := dk_183 0 12 (dk_at dksL_law_0 12 rfl rfl)
theorem dL_law_15 : decode cL_law 15 = .ok (.astore_n 2, 1) := dk_77 (dk_at dksL_law_0 15 rfl rfl)
theorem dL_law_16 : decode cL_law 16 = .ok (.iconst 0, 1) := dk_3 (dk_at dksL_law_0 16 rfl rfl)
theorem dL_law_17 : decode cL_law 17 = .ok (.istore_n 3, 1) := dk_62 (dk_at dksL_law_0 17 rfl rfl)
theorem dL_law_18 : decode cL_law 18 = .ok (.iload_n 3, 1) := dk_29 (dk_at dksL_law_0 18 rfl rfl)
theorem dL_law_19 : decode cL_law 19 = .ok (.aload_n 0, 1) := dk_42 (dk_at dksL_law_0 19 rfl rfl)
theorem dL_law_20 : decode cL_law 20 = .ok (.arraylength, 1) := dk_190 (dk_at dksL_law_0 20 rfl rfl)
theorem dL_law_21 : decode cL_law 21 = .ok (.bipush 6, 2) := dk_16 6 (dk_at dksL_law_0 21 rfl rfl)
theorem dL_law_23 : decode cL_law 23 = .ok (.isub, 1) := dk_100 (dk_at dksL_law_0 23 rfl rfl)
theorem dL_law_24 : decode cL_law 24 = .ok (.if_icmp .gt 373, 3) := dk_163 1 117 (dk_at dksL_law_1 0 rfl rfl)
theorem dL_law_27 : decode cL_law 27 = .ok (.aload_n 0, 1) := dk_42 (dk_at dksL_law_1 3 rfl rfl)
theorem dL_law_28 : decode cL_law 28 = .ok (.iload_n 3, 1) := dk_29 (dk_at dksL_law_1 4 rfl rfl)
theorem dL_law_29 : decode cL_law 29 = .ok (.iaload, 1) := dk_46 (dk_at dksL_law_1 5 rfl rfl)
theorem dL_law_30 : decode cL_law 30 = .ok (.bipush 15, 2) := dk_16 15 (dk_at dksL_law_1 6 rfl rfl)
theorem dL_law_32 : decode cL_law 32 = .ok (.iand, 1) := dk_126 (dk_at dksL_law_1 8 rfl rfl)
theorem dL_law_33 : decode cL_law 33 = .ok (.tableswitch 358 0 8 #[51, 104, 125, 186, 247, 268, 301, 324, 335], 51) := by decide +kernel
theorem dL_law_84 : decode cL_law 84 = .ok (.aload_n 1, 1) := dk_43 (dk_at dksL_law_3 0 rfl rfl)
theorem dL_law_85 : decode cL_law 85 = .ok (.aload_n 0, 1) := dk_42 (dk_at dksL_law_3 1 rfl rfl)
theorem dL_law_86 : decode cL_law 86 = .ok (.iload_n 3, 1) := dk_29 (dk_at dksL_law_3 2 rfl rfl)
theorem dL_law_87 : decode cL_law 87 = .ok (.iconst 1, 1) := dk_4 (dk_at dksL_law_3 3 rfl rfl)
theorem dL_law_88 : decode cL_law 88 = .ok (.iadd, 1) := dk_96 (dk_at dksL_law_3 4 rfl rfl)
theorem dL_law_89 : decode cL_law 89 = .ok (.iaload, 1) := dk_46 (dk_at dksL_law_3 5 rfl rfl)
theorem dL_law_90 : decode cL_law 90 = .ok (.aload_n 0, 1) := dk_42 (dk_at dksL_law_3 6 rfl rfl)
theorem dL_law_91 : decode cL_law 91 = .ok (.iload_n 3, 1) := dk_29 (dk_at dksL_law_3 7 rfl rfl)
theorem dL_law_92 : decode cL_law 92 = .ok (.iconst 2, 1) := dk_5 (dk_at dksL_law_3 8 rfl rfl)
theorem dL_law_93 : decode cL_law 93 = .ok (.iadd, 1) := dk_96 (dk_at dksL_law_3 9 rfl rfl)
theorem dL_law_94 : decode cL_law 94 = .ok (.iaload, 1) := dk_46 (dk_at dksL_law_3 10 rfl rfl)
theorem dL_law_95 : decode cL_law 95 = .ok (.aload_n 0, 1) := dk_42 (dk_at dksL_law_3 11 rfl rfl)
theorem dL_law_96 : decode cL_law 96 = .ok (.iload_n 3, 1) := dk_29 (dk_at dksL_law_3 12 rfl rfl)
theorem dL_law_97 : decode cL_law 97 = .ok (.iconst 3, 1) := dk_6 (dk_at dksL_law_3 13 rfl rfl)
theorem dL_law_98 : decode cL_law 98 = .ok (.iadd, 1) := dk_96 (dk_at dksL_law_3 14 rfl rfl)
theorem dL_law_99 : decode cL_law 99 = .ok (.iaload, 1) := dk_46 (dk_at dksL_law_3 15 rfl rfl)
theorem dL_law_100 : decode cL_law 100 = .ok (.aload_n 0, 1) := dk_42 (dk_at dksL_law_3 16 rfl rfl)
theorem dL_law_101 : decode cL_law 101 = .ok (.iload_n 3, 1) := dk_29 (dk_at dksL_law_3 17 rfl rfl)
theorem dL_law_102 : decode cL_law 102 = .ok (.iconst 4, 1) := dk_7 (dk_at dksL_law_3 18 rfl rfl)
theorem dL_law_103 : decode cL_law 103 = .ok (.iadd, 1) := dk_96 (dk_at dksL_law_3 19 rfl rfl)
theorem dL_law_104 : decode cL_law 104 = .ok (.iaload, 1) := dk_46 (dk_at dksL_law_3 20 rfl rfl)
theorem dL_law_105 : decode cL_law 105 = .ok (.invokevirtual 13, 3) := dk_182 0 13 (dk_at dksL_law_3 21 rfl rfl)
theorem dL_law_108 : decode cL_law 108 = .ok (.aload_n 2, 1) := dk_44 (dk_at dksL_law_4 0 rfl rfl)
theorem dL_law_109 : decode cL_law 109 = .ok (.aload_n 0, 1) := dk_42 (dk_at dksL_law_4 1 rfl rfl)
theorem dL_law_110 : decode cL_law 110 = .ok (.iload_n 3, 1) := dk_29 (dk_at dksL_law_4 2 rfl rfl)
theorem dL_law_111 : decode cL_law 111 = .ok (.iconst 1, 1) := dk_4 (dk_at dksL_law_4 3 rfl rfl)
theorem dL_law_112 : decode cL_law 112 = .ok (.iadd, 1) := dk_96 (dk_at dksL_law_4 4 rfl rfl)
theorem dL_law_113 : decode cL_law 113 = .ok (.iaload, 1) := dk_46 (dk_at dksL_law_4 5 rfl rfl)
theorem dL_law_114 : decode cL_law 114 = .ok (.aload_n 0, 1) := dk_42 (dk_at dksL_law_4 6 rfl rfl)
theorem dL_law_115 : decode cL_law 115 = .ok (.iload_n 3, 1) := dk_29 (dk_at dksL_law_4 7 rfl rfl)
theorem dL_law_116 : decode cL_law 116 = .ok (.iconst 2, 1) := dk_5 (dk_at dksL_law_4 8 rfl rfl)
theorem dL_law_117 : decode cL_law 117 = .ok (.iadd, 1) := dk_96 (dk_at dksL_law_4 9 rfl rfl)
theorem dL_law_118 : decode cL_law 118 = .ok (.iaload, 1) := dk_46 (dk_at dksL_law_4 10 rfl rfl)
theorem dL_law_119 : decode cL_law 119 = .ok (.aload_n 0, 1) := dk_42 (dk_at dksL_law_4 11 rfl rfl)
theorem dL_law_120 : decode cL_law 120 = .ok (.iload_n 3, 1) := dk_29 (dk_at dksL_law_4 12 rfl rfl)
theorem dL_law_121 : decode cL_law 121 = .ok (.iconst 3, 1) := dk_6 (dk_at dksL_law_4 13 rfl rfl)
theorem dL_law_122 : decode cL_law 122 = .ok (.iadd, 1) := dk_96 (dk_at dksL_law_4 14 rfl rfl)
theorem dL_law_123 : decode cL_law 123 = .ok (.iaload, 1) := dk_46 (dk_at dksL_law_4 15 rfl rfl)
theorem dL_law_124 : decode cL_law 124 = .ok (.aload_n 0, 1) := dk_42 (dk_at dksL_law_4 16 rfl rfl)
theorem dL_law_125 : decode cL_law 125 = .ok (.iload_n 3, 1) := dk_29 (dk_at dksL_law_4 17 rfl rfl)
theorem dL_law_126 : decode cL_law 126 = .ok (.iconst 4, 1) := dk_7 (dk_at dksL_law_4 18 rfl rfl)
theorem dL_law_127 : decode cL_law 127 = .ok (.iadd, 1) := dk_96 (dk_at dksL_law_4 19 rfl rfl)
theorem dL_law_128 : decode cL_law 128 = .ok (.iaload, 1) := dk_46 (dk_at dksL_law_4 20 rfl rfl)
theorem dL_law_129 : decode cL_law 129 = .ok (.invokevirtual 17, 3) := dk_182 0 17 (dk_at dksL_law_4 21 rfl rfl)
theorem dL_law_132 : decode cL_law 132 = .ok (.if_icmp .eq 259, 3) := dk_159 1 3 (dk_at dksL_law_5 0 rfl rfl)
theorem dL_law_135 : decode cL_law 135 = .ok (.iconst 0, 1) := dk_3 (dk_at dksL_law_5 3 rfl rfl)
theorem dL_law_136 : decode cL_law 136 = .ok (.ireturn, 1) := dk_172 (dk_at dksL_law_5 4 rfl rfl)
theorem dL_law_137 : decode cL_law 137 = .ok (.aload_n 1, 1) := dk_43 (dk_at dksL_law_5 5 rfl rfl)
theorem dL_law_138 : decode cL_law 138 = .ok (.aload_n 0, 1) := dk_42 (dk_at dksL_law_5 6 rfl rfl)
theorem dL_law_139 : decode cL_law 139 = .ok (.iload_n 3, 1) := dk_29 (dk_at dksL_law_5 7 rfl rfl)
theorem dL_law_140 : decode cL_law 140 = .ok (.iconst 1, 1) := dk_4 (dk_at dksL_law_5 8 rfl rfl)
theorem dL_law_141 : decode cL_law 141 = .ok (.iadd, 1) := dk_96 (dk_at dksL_law_5 9 rfl rfl)
theorem dL_law_142 : decode cL_law 142 = .ok (.iaload, 1) := dk_46 (dk_at dksL_law_5 10 rfl rfl)
theorem dL_law_143 : decode cL_law 143 = .ok (.invokevirtual 18, 3) := dk_182 0 18 (dk_at dksL_law_5 11 rfl rfl)
theorem dL_law_146 : decode cL_law 146 = .ok (.aload_n 2, 1) := dk_44 (dk_at dksL_law_5 14 rfl rfl)
theorem dL_law_147 : decode cL_law 147 = .ok (.aload_n 0, 1) := dk_42 (dk_at dksL_law_5 15 rfl rfl)
theorem dL_law_148 : decode cL_law 148 = .ok (.iload_n 3, 1) := dk_29 (dk_at dksL_law_5 16 rfl rfl)
theorem dL_law_149 : decode cL_law 149 = .ok (.iconst 1, 1) := dk_4 (dk_at dksL_law_5 17 rfl rfl)
theorem dL_law_150 : decode cL_law 150 = .ok (.iadd, 1) := dk_96 (dk_at dksL_law_5 18 rfl rfl)
theorem dL_law_151 : decode cL_law 151 = .ok (.iaload, 1) := dk_46 (dk_at dksL_law_5 19 rfl rfl)
theorem dL_law_152 : decode cL_law 152 = .ok (.invokevirtual 22, 3) := dk_182 0 22 (dk_at dksL_law_5 20 rfl rfl)
theorem dL_law_155 : decode cL_law 155 = .ok (.goto 236, 3) := dk_167 0 236 (dk_at dksL_law_6 0 rfl rfl)
theorem dL_law_158 : decode cL_law 158 = .ok (.aload_n 1, 1) := dk_43 (dk_at dksL_law_6 3 rfl rfl)
theorem dL_law_159 : decode cL_law 159 = .ok (.aload_n 0, 1) := dk_42 (dk_at dksL_law_6 4 rfl rfl)
theorem dL_law_160 : decode cL_law 160 = .ok (.iload_n 3, 1) := dk_29 (dk_at dksL_law_6 5 rfl rfl)
theorem dL_law_161 : decode cL_law 161 = .ok (.iconst 1, 1) := dk_4 (dk_at dksL_law_6 6 rfl rfl)
theorem dL_law_162 : decode cL_law 162 = .ok (.iadd, 1) := dk_96 (dk_at dksL_law_6 7 rfl rfl)
theorem dL_law_163 : decode cL_law 163 = .ok (.iaload, 1) := dk_46 (dk_at dksL_law_6 8 rfl rfl)
theorem dL_law_164 : decode cL_law 164 = .ok (.aload_n 0, 1) := dk_42 (dk_at dksL_law_6 9 rfl rfl)
theorem dL_law_165 : decode cL_law 165 = .ok (.iload_n 3, 1) := dk_29 (dk_at dksL_law_6 10 rfl rfl)
theorem dL_law_166 : decode cL_law 166 = .ok (.iconst 2, 1) := dk_5 (dk_at dksL_law_6 11 rfl rfl)
theorem dL_law_167 : decode cL_law 167 = .ok (.iadd, 1) := dk_96 (dk_at dksL_law_6 12 rfl rfl)
theorem dL_law_168 : decode cL_law 168 = .ok (.iaload, 1) := dk_46 (dk_at dksL_law_6 13 rfl rfl)
theorem dL_law_169 : decode cL_law 169 = .ok (.aload_n 0, 1) := dk_42 (dk_at dksL_law_6 14 rfl rfl)
theorem dL_law_170 : decode cL_law 170 = .ok (.iload_n 3, 1) := dk_29 (dk_at dksL_law_6 15 rfl rfl)
theorem dL_law_171 : decode cL_law 171 = .ok (.iconst 3, 1) := dk_6 (dk_at dksL_law_6 16 rfl rfl)
theorem dL_law_172 : decode cL_law 172 = .ok (.iadd, 1) := dk_96 (dk_at dksL_law_6 17 rfl rfl)
theorem dL_law_173 : decode cL_law 173 = .ok (.iaload, 1) := dk_46 (dk_at dksL_law_6 18 rfl rfl)
theorem dL_law_174 : decode cL_law 174 = .ok (.aload_n 0, 1) := dk_42 (dk_at dksL_law_6 19 rfl rfl)
theorem dL_law_175 : decode cL_law 175 = .ok (.iload_n 3, 1) := dk_29 (dk_at dksL_law_6 20 rfl rfl)
theorem dL_law_176 : decode cL_law 176 = .ok (.iconst 4, 1) := dk_7 (dk_at dksL_law_6 21 rfl rfl)
theorem dL_law_177 : decode cL_law 177 = .ok (.iadd, 1) := dk_96 (dk_at dksL_law_6 22 rfl rfl)
theorem dL_law_178 : decode cL_law 178 = .ok (.iaload, 1) := dk_46 (dk_at dksL_law_6 23 rfl rfl)
theorem dL_law_179 : decode cL_law 179 = .ok (.aload_n 0, 1) := dk_42 (dk_at dksL_law_7 0 rfl rfl)
theorem dL_law_180 : decode cL_law 180 = .ok (.iload_n 3, 1) := dk_29 (dk_at dksL_law_7 1 rfl rfl)
theorem dL_law_181 : decode cL_law 181 = .ok (.iconst 5, 1) := dk_8 (dk_at dksL_law_7 2 rfl rfl)
theorem dL_law_182 : decode cL_law 182 = .ok (.iadd, 1) := dk_96 (dk_at dksL_law_7 3 rfl rfl)
theorem dL_law_183 : decode cL_law 183 = .ok (.iaload, 1) := dk_46 (dk_at dksL_law_7 4 rfl rfl)
theorem dL_law_184 : decode cL_law 184 = .ok (.invokevirtual 23, 3) := dk_182 0 23 (dk_at dksL_law_7 5 rfl rfl)
theorem dL_law_187 : decode cL_law 187 = .ok (.aload_n 2, 1) := dk_44 (dk_at dksL_law_7 8 rfl rfl)
theorem dL_law_188 : decode cL_law 188 = .ok (.aload_n 0, 1) := dk_42 (dk_at dksL_law_7 9 rfl rfl)
theorem dL_law_189 : decode cL_law 189 = .ok (.iload_n 3, 1) := dk_29 (dk_at dksL_law_7 10 rfl rfl)
theorem dL_law_190 : decode cL_law 190 = .ok (.iconst 1, 1) := dk_4 (dk_at dksL_law_7 11 rfl rfl)
theorem dL_law_191 : decode cL_law 191 = .ok (.iadd, 1) := dk_96 (dk_at dksL_law_7 12 rfl rfl)
theorem dL_law_192 : decode cL_law 192 = .ok (.iaload, 1) := dk_46 (dk_at dksL_law_7 13 rfl rfl)
theorem dL_law_193 : decode cL_law 193 = .ok (.aload_n 0, 1) := dk_42 (dk_at dksL_law_7 14 rfl rfl)
theorem dL_law_194 : decode cL_law 194 = .ok (.iload_n 3, 1) := dk_29 (dk_at dksL_law_7 15 rfl rfl)
theorem dL_law_195 : decode cL_law 195 = .ok (.iconst 2, 1) := dk_5 (dk_at dksL_law_7 16 rfl rfl)
theorem dL_law_196 : decode cL_law 196 = .ok (.iadd, 1) := dk_96 (dk_at dksL_law_7 17 rfl rfl)
theorem dL_law_197 : decode cL_law 197 = .ok (.iaload, 1) := dk_46 (dk_at dksL_law_7 18 rfl rfl)
theorem dL_law_198 : decode cL_law 198 = .ok (.aload_n 0, 1) := dk_42 (dk_at dksL_law_7 19 rfl rfl)
theorem dL_law_199 : decode cL_law 199 = .ok (.iload_n 3, 1) := dk_29 (dk_at dksL_law_7 20 rfl rfl)
theorem dL_law_200 : decode cL_law 200 = .ok (.iconst 3, 1) := dk_6 (dk_at dksL_law_7 21 rfl rfl)
theorem dL_law_201 : decode cL_law 201 = .ok (.iadd, 1) := dk_96 (dk_at dksL_law_7 22 rfl rfl)
theorem dL_law_202 : decode cL_law 202 = .ok (.iaload, 1) := dk_46 (dk_at dksL_law_7 23 rfl rfl)
theorem dL_law_203 : decode cL_law 203 = .ok (.aload_n 0, 1) := dk_42 (dk_at dksL_law_8 0 rfl rfl)
theorem dL_law_204 : decode cL_law 204 = .ok (.iload_n 3, 1) := dk_29 (dk_at dksL_law_8 1 rfl rfl)
theorem dL_law_205 : decode cL_law 205 = .ok (.iconst 4, 1) := dk_7 (dk_at dksL_law_8 2 rfl rfl)
theorem dL_law_206 : decode cL_law 206 = .ok (.iadd, 1) := dk_96 (dk_at dksL_law_8 3 rfl rfl)
theorem dL_law_207 : decode cL_law 207 = .ok (.iaload, 1) := dk_46 (dk_at dksL_law_8 4 rfl rfl)
theorem dL_law_208 : decode cL_law 208 = .ok (.aload_n 0, 1) := dk_42 (dk_at dksL_law_8 5 rfl rfl)
theorem dL_law_209 : decode cL_law 209 = .ok (.iload_n 3, 1) := dk_29 (dk_at dksL_law_8 6 rfl rfl)
theorem dL_law_210 : decode cL_law 210 = .ok (.iconst 5, 1) := dk_8 (dk_at dksL_law_8 7 rfl rfl)
theorem dL_law_211 : decode cL_law 211 = .ok (.iadd, 1) := dk_96 (dk_at dksL_law_8 8 rfl rfl)
theorem dL_law_212 : decode cL_law 212 = .ok (.iaload, 1) := dk_46 (dk_at dksL_law_8 9 rfl rfl)
theorem dL_law_213 : decode cL_law 213 = .ok (.invokevirtual 27, 3) := dk_182 0 27 (dk_at dksL_law_8 10 rfl rfl)
theorem dL_law_216 : decode cL_law 216 = .ok (.goto 175, 3) := dk_167 0 175 (dk_at dksL_law_8 13 rfl rfl)
theorem dL_law_219 : decode cL_law 219 = .ok (.aload_n 1, 1) := dk_43 (dk_at dksL_law_8 16 rfl rfl)
theorem dL_law_220 : decode cL_law 220 = .ok (.aload_n 0, 1) := dk_42 (dk_at dksL_law_8 17 rfl rfl)
theorem dL_law_221 : decode cL_law 221 = .ok (.iload_n 3, 1) := dk_29 (dk_at dksL_law_8 18 rfl rfl)
theorem dL_law_222 : decode cL_law 222 = .ok (.iconst 1, 1) := dk_4 (dk_at dksL_law_8 19 rfl rfl)
theorem dL_law_223 : decode cL_law 223 = .ok (.iadd, 1) := dk_96 (dk_at dksL_law_8 20 rfl rfl)
theorem dL_law_224 : decode cL_law 224 = .ok (.iaload, 1) := dk_46 (dk_at dksL_law_8 21 rfl rfl)
theorem dL_law_225 : decode cL_law 225 = .ok (.aload_n 0, 1) := dk_42 (dk_at dksL_law_8 22 rfl rfl)
theorem dL_law_226 : decode cL_law 226 = .ok (.iload_n 3, 1) := dk_29 (dk_at dksL_law_8 23 rfl rfl)
theorem dL_law_227 : decode cL_law 227 = .ok (.iconst 2, 1) := dk_5 (dk_at dksL_law_9 0 rfl rfl)
theorem dL_law_228 : decode cL_law 228 = .ok (.iadd, 1) := dk_96 (dk_at dksL_law_9 1 rfl rfl)
theorem dL_law_229 : decode cL_law 229 = .ok (.iaload, 1) := dk_46 (dk_at dksL_law_9 2 rfl rfl)
theorem dL_law_230 : decode cL_law 230 = .ok (.aload_n 0, 1) := dk_42 (dk_at dksL_law_9 3 rfl rfl)
theorem dL_law_231 : decode cL_law 231 = .ok (.iload_n 3, 1) := dk_29 (dk_at dksL_law_9 4 rfl rfl)
theorem dL_law_232 : decode cL_law 232 = .ok (.iconst 3, 1) := dk_6 (dk_at dksL_law_9 5 rfl rfl)
theorem dL_law_233 : decode cL_law 233 = .ok (.iadd, 1) := dk_96 (dk_at dksL_law_9 6 rfl rfl)
theorem dL_law_234 : decode cL_law 234 = .ok (.iaload, 1) := dk_46 (dk_at dksL_law_9 7 rfl rfl)
theorem dL_law_235 : decode cL_law 235 = .ok (.aload_n 0, 1) := dk_42 (dk_at dksL_law_9 8 rfl rfl)
theorem dL_law_236 : decode cL_law 236 = .ok (.iload_n 3, 1) := dk_29 (dk_at dksL_law_9 9 rfl rfl)
theorem dL_law_237 : decode cL_law 237 = .ok (.iconst 4, 1) := dk_7 (dk_at dksL_law_9 10 rfl rfl)
theorem dL_law_238 : decode cL_law 238 = .ok (.iadd, 1) := dk_96 (dk_at dksL_law_9 11 rfl rfl)
theorem dL_law_239 : decode cL_law 239 = .ok (.iaload, 1) := dk_46 (dk_at dksL_law_9 12 rfl rfl)
theorem dL_law_240 : decode cL_law 240 = .ok (.aload_n 0, 1) := dk_42 (dk_at dksL_law_9 13 rfl rfl)
theorem dL_law_241 : decode cL_law 241 = .ok (.iload_n 3, 1) := dk_29 (dk_at dksL_law_9 14 rfl rfl)
theorem dL_law_242 : decode cL_law 242 = .ok (.iconst 5, 1) := dk_8 (dk_at dksL_law_9 15 rfl rfl)
theorem dL_law_243 : decode cL_law 243 = .ok (.iadd, 1) := dk_96 (dk_at dksL_law_9 16 rfl rfl)
theorem dL_law_244 : decode cL_law 244 = .ok (.iaload, 1) := dk_46 (dk_at dksL_law_9 17 rfl rfl)
theorem dL_law_245 : decode cL_law 245 = .ok (.invokevirtual 28, 3) := dk_182 0 28 (dk_at dksL_law_9 18 rfl rfl)
theorem dL_law_248 : decode cL_law 248 = .ok (.aload_n 2, 1) := dk_44 (dk_at dksL_law_9 21 rfl rfl)
theorem dL_law_249 : decode cL_law 249 = .ok (.aload_n 0, 1) := dk_42 (dk_at dksL_law_9 22 rfl rfl)
theorem dL_law_250 : decode cL_law 250 = .ok (.iload_n 3, 1) := dk_29 (dk_at dksL_law_9 23 rfl rfl)
theorem dL_law_251 : decode cL_law 251 = .ok (.iconst 1, 1) := dk_4 (dk_at dksL_law_10 0 rfl rfl)
theorem dL_law_252 : decode cL_law 252 = .ok (.iadd, 1) := dk_96 (dk_at dksL_law_10 1 rfl rfl)
theorem dL_law_253 : decode cL_law 253 = .ok (.iaload, 1) := dk_46 (dk_at dksL_law_10 2 rfl rfl)
theorem dL_law_254 : decode cL_law 254 = .ok (.aload_n 0, 1) := dk_42 (dk_at dksL_law_10 3 rfl rfl)
theorem dL_law_255 : decode cL_law 255 = .ok (.iload_n 3, 1) := dk_29 (dk_at dksL_law_10 4 rfl rfl)
theorem dL_law_256 : decode cL_law 256 = .ok (.iconst 2, 1) := dk_5 (dk_at dksL_law_10 5 rfl rfl)
theorem dL_law_257 : decode cL_law 257 = .ok (.iadd, 1) := dk_96 (dk_at dksL_law_10 6 rfl rfl)
theorem dL_law_258 : decode cL_law 258 = .ok (.iaload, 1) := dk_46 (dk_at dksL_law_10 7 rfl rfl)
theorem dL_law_259 : decode cL_law 259 = .ok (.aload_n 0, 1) := dk_42 (dk_at dksL_law_10 8 rfl rfl)
theorem dL_law_260 : decode cL_law 260 = .ok (.iload_n 3, 1) := dk_29 (dk_at dksL_law_10 9 rfl rfl)
theorem dL_law_261 : decode cL_law 261 = .ok (.iconst 3, 1) := dk_6 (dk_at dksL_law_10 10 rfl rfl)
theorem dL_law_262 : decode cL_law 262 = .ok (.iadd, 1) := dk_96 (dk_at dksL_law_10 11 rfl rfl)
theorem dL_law_263 : decode cL_law 263 = .ok (.iaload, 1) := dk_46 (dk_at dksL_law_10 12 rfl rfl)
theorem dL_law_264 : decode cL_law 264 = .ok (.aload_n 0, 1) := dk_42 (dk_at dksL_law_10 13 rfl rfl)
theorem dL_law_265 : decode cL_law 265 = .ok (.iload_n 3, 1) := dk_29 (dk_at dksL_law_10 14 rfl rfl)
theorem dL_law_266 : decode cL_law 266 = .ok (.iconst 4, 1) := dk_7 (dk_at dksL_law_10 15 rfl rfl)
theorem dL_law_267 : decode cL_law 267 = .ok (.iadd, 1) := dk_96 (dk_at dksL_law_10 16 rfl rfl)
theorem dL_law_268 : decode cL_law 268 = .ok (.iaload, 1) := dk_46 (dk_at dksL_law_10 17 rfl rfl)
theorem dL_law_269 : decode cL_law 269 = .ok (.aload_n 0, 1) := dk_42 (dk_at dksL_law_10 18 rfl rfl)
theorem dL_law_270 : decode cL_law 270 = .ok (.iload_n 3, 1) := dk_29 (dk_at dksL_law_10 19 rfl rfl)
theorem dL_law_271 : decode cL_law 271 = .ok (.iconst 5, 1) := dk_8 (dk_at dksL_law_10 20 rfl rfl)
theorem dL_law_272 : decode cL_law 272 = .ok (.iadd, 1) := dk_96 (dk_at dksL_law_10 21 rfl rfl)
theorem dL_law_273 : decode cL_law 273 = .ok (.iaload, 1) := dk_46 (dk_at dksL_law_10 22 rfl rfl)
theorem dL_law_274 : decode cL_law 274 = .ok (.invokevirtual 31, 3) := dk_182 0 31 (dk_at dksL_law_11 0 rfl rfl)
theorem dL_law_277 : decode cL_law 277 = .ok (.goto 114, 3) := dk_167 0 114 (dk_at dksL_law_11 3 rfl rfl)
theorem dL_law_280 : decode cL_law 280 = .ok (.aload_n 1, 1) := dk_43 (dk_at dksL_law_11 6 rfl rfl)
theorem dL_law_281 : decode cL_law 281 = .ok (.aload_n 0, 1) := dk_42 (dk_at dksL_law_11 7 rfl rfl)
theorem dL_law_282 : decode cL_law 282 = .ok (.iload_n 3, 1) := dk_29 (dk_at dksL_law_11 8 rfl rfl)
theorem dL_law_283 : decode cL_law 283 = .ok (.iconst 1, 1) := dk_4 (dk_at dksL_law_11 9 rfl rfl)
theorem dL_law_284 : decode cL_law 284 = .ok (.iadd, 1) := dk_96 (dk_at dksL_law_11 10 rfl rfl)
theorem dL_law_285 : decode cL_law 285 = .ok (.iaload, 1) := dk_46 (dk_at dksL_law_11 11 rfl rfl)
theorem dL_law_286 : decode cL_law 286 = .ok (.invokevirtual 32, 3) := dk_182 0 32 (dk_at dksL_law_11 12 rfl rfl)
theorem dL_law_289 : decode cL_law 289 = .ok (.aload_n 2, 1) := dk_44 (dk_at dksL_law_11 15 rfl rfl)
theorem dL_law_290 : decode cL_law 290 = .ok (.aload_n 0, 1) := dk_42 (dk_at dksL_law_11 16 rfl rfl)
theorem dL_law_291 : decode cL_law 291 = .ok (.iload_n 3, 1) := dk_29 (dk_at dksL_law_11 17 rfl rfl)
theorem dL_law_292 : decode cL_law 292 = .ok (.iconst 1, 1) := dk_4 (dk_at dksL_law_11 18 rfl rfl)
theorem dL_law_293 : decode cL_law 293 = .ok (.iadd, 1) := dk_96 (dk_at dksL_law_11 19 rfl rfl)
theorem dL_law_294 : decode cL_law 294 = .ok (.iaload, 1) := dk_46 (dk_at dksL_law_11 20 rfl rfl)
theorem dL_law_295 : decode cL_law 295 = .ok (.invokevirtual 35, 3) := dk_182 0 35 (dk_at dksL_law_11 21 rfl rfl)
theorem dL_law_298 : decode cL_law 298 = .ok (.goto 93, 3) := dk_167 0 93 (dk_at dksL_law_12 0 rfl rfl)
theorem dL_law_301 : decode cL_law 301 = .ok (.aload_n 1, 1) := dk_43 (dk_at dksL_law_12 3 rfl rfl)
theorem dL_law_302 : decode cL_law 302 = .ok (.aload_n 0, 1) := dk_42 (dk_at dksL_law_12 4 rfl rfl)
theorem dL_law_303 : decode cL_law 303 = .ok (.iload_n 3, 1) := dk_29 (dk_at dksL_law_12 5 rfl rfl)
theorem dL_law_304 : decode cL_law 304 = .ok (.iconst 1, 1) := dk_4 (dk_at dksL_law_12 6 rfl rfl)
theorem dL_law_305 : decode cL_law 305 = .ok (.iadd, 1) := dk_96 (dk_at dksL_law_12 7 rfl rfl)
theorem dL_law_306 : decode cL_law 306 = .ok (.iaload, 1) := dk_46 (dk_at dksL_law_12 8 rfl rfl)
theorem dL_law_307 : decode cL_law 307 = .ok (.aload_n 0, 1) := dk_42 (dk_at dksL_law_12 9 rfl rfl)
theorem dL_law_308 : decode cL_law 308 = .ok (.iload_n 3, 1) := dk_29 (dk_at dksL_law_12 10 rfl rfl)
theorem dL_law_309 : decode cL_law 309 = .ok (.iconst 2, 1) := dk_5 (dk_at dksL_law_12 11 rfl rfl)
theorem dL_law_310 : decode cL_law 310 = .ok (.iadd, 1) := dk_96 (dk_at dksL_law_12 12 rfl rfl)
theorem dL_law_311 : decode cL_law 311 = .ok (.iaload, 1) := dk_46 (dk_at dksL_law_12 13 rfl rfl)
theorem dL_law_312 : decode cL_law 312 = .ok (.invokevirtual 36, 3) := dk_182 0 36 (dk_at dksL_law_12 14 rfl rfl)
theorem dL_law_315 : decode cL_law 315 = .ok (.aload_n 2, 1) := dk_44 (dk_at dksL_law_12 17 rfl rfl)
theorem dL_law_316 : decode cL_law 316 = .ok (.aload_n 0, 1) := dk_42 (dk_at dksL_law_12 18 rfl rfl)
theorem dL_law_317 : decode cL_law 317 = .ok (.iload_n 3, 1) := dk_29 (dk_at dksL_law_12 19 rfl rfl)
theorem dL_law_318 : decode cL_law 318 = .ok (.iconst 1, 1) := dk_4 (dk_at dksL_law_12 20 rfl rfl)
theorem dL_law_319 : decode cL_law 319 = .ok (.iadd, 1) := dk_96 (dk_at dksL_law_12 21 rfl rfl)
theorem dL_law_320 : decode cL_law 320 = .ok (.iaload, 1) := dk_46 (dk_at dksL_law_12 22 rfl rfl)
theorem dL_law_321 : decode cL_law 321 = .ok (.aload_n 0, 1) := dk_42 (dk_at dksL_law_12 23 rfl rfl)
theorem dL_law_322 : decode cL_law 322 = .ok (.iload_n 3, 1) := dk_29 (dk_at dksL_law_13 0 rfl rfl)
theorem dL_law_323 : decode cL_law 323 = .ok (.iconst 2, 1) := dk_5 (dk_at dksL_law_13 1 rfl rfl)
theorem dL_law_324 : decode cL_law 324 = .ok (.iadd, 1) := dk_96 (dk_at dksL_law_13 2 rfl rfl)
theorem dL_law_325 : decode cL_law 325 = .ok (.iaload, 1) := dk_46 (dk_at dksL_law_13 3 rfl rfl)
theorem dL_law_326 : decode cL_law 326 = .ok (.invokevirtual 40, 3) := dk_182 0 40 (dk_at dksL_law_13 4 rfl rfl)
theorem dL_law_329 : decode cL_law 329 = .ok (.if_icmp .eq 62, 3) := dk_159 0 62 (dk_at dksL_law_13 7 rfl rfl)
theorem dL_law_332 : decode cL_law 332 = .ok (.iconst 0, 1) := dk_3 (dk_at dksL_law_13 10 rfl rfl)
theorem dL_law_333 : decode cL_law 333 = .ok (.ireturn, 1) := dk_172 (dk_at dksL_law_13 11 rfl rfl)
theorem dL_law_334 : decode cL_law 334 = .ok (.aload_n 1, 1) := dk_43 (dk_at dksL_law_13 12 rfl rfl)
theorem dL_law_335 : decode cL_law 335 = .ok (.aload_n 0, 1) := dk_42 (dk_at dksL_law_13 13 rfl rfl)
theorem dL_law_336 : decode cL_law 336 = .ok (.iload_n 3, 1) := dk_29 (dk_at dksL_law_13 14 rfl rfl)
theorem dL_law_337 : decode cL_law 337 = .ok (.iconst 1, 1) := dk_4 (dk_at dksL_law_13 15 rfl rfl)
theorem dL_law_338 : decode cL_law 338 = .ok (.iadd, 1) := dk_96 (dk_at dksL_law_13 16 rfl rfl)
theorem dL_law_339 : decode cL_law 339 = .ok (.iaload, 1) := dk_46 (dk_at dksL_law_13 17 rfl rfl)
theorem dL_law_340 : decode cL_law 340 = .ok (.invokevirtual 41, 3) := dk_182 0 41 (dk_at dksL_law_13 18 rfl rfl)
theorem dL_law_343 : decode cL_law 343 = .ok (.aload_n 2, 1) := dk_44 (dk_at dksL_law_13 21 rfl rfl)
theorem dL_law_344 : decode cL_law 344 = .ok (.aload_n 0, 1) := dk_42 (dk_at dksL_law_13 22 rfl rfl)
theorem dL_law_345 : decode cL_law 345 = .ok (.iload_n 3, 1) := dk_29 (dk_at dksL_law_13 23 rfl rfl)
theorem dL_law_346 : decode cL_law 346 = .ok (.iconst 1, 1) := dk_4 (dk_at dksL_law_14 0 rfl rfl)
theorem dL_law_347 : decode cL_law 347 = .ok (.iadd, 1) := dk_96 (dk_at dksL_law_14 1 rfl rfl)
theorem dL_law_348 : decode cL_law 348 = .ok (.iaload, 1) := dk_46 (dk_at dksL_law_14 2 rfl rfl)
theorem dL_law_349 : decode cL_law 349 = .ok (.invokevirtual 45, 3) := dk_182 0 45 (dk_at dksL_law_14 3 rfl rfl)
theorem dL_law_352 : decode cL_law 352 = .ok (.if_icmp .eq 39, 3) := dk_159 0 39 (dk_at dksL_law_14 6 rfl rfl)
theorem dL_law_355 : decode cL_law 355 = .ok (.iconst 0, 1) := dk_3 (dk_at dksL_law_14 9 rfl rfl)
theorem dL_law_356 : decode cL_law 356 = .ok (.ireturn, 1) := dk_172 (dk_at dksL_law_14 10 rfl rfl)
theorem dL_law_357 : decode cL_law 357 = .ok (.aload_n 1, 1) := dk_43 (dk_at dksL_law_14 11 rfl rfl)
theorem dL_law_358 : decode cL_law 358 = .ok (.invokevirtual 46, 3) := dk_182 0 46 (dk_at dksL_law_14 12 rfl rfl)
theorem dL_law_361 : decode cL_law 361 = .ok (.aload_n 2, 1) := dk_44 (dk_at dksL_law_14 15 rfl rfl)
theorem dL_law_362 : decode cL_law 362 = .ok (.invokevirtual 49, 3) := dk_182 0 49 (dk_at dksL_law_14 16 rfl rfl)
theorem dL_law_365 : decode cL_law 365 = .ok (.goto 26, 3) := dk_167 0 26 (dk_at dksL_law_14 19 rfl rfl)
theorem dL_law_368 : decode cL_law 368 = .ok (.aload_n 1, 1) := dk_43 (dk_at dksL_law_14 22 rfl rfl)
theorem dL_law_369 : decode cL_law 369 = .ok (.aload_n 0, 1) := dk_42 (dk_at dksL_law_14 23 rfl rfl)
theorem dL_law_370 : decode cL_law 370 = .ok (.iload_n 3, 1) := dk_29 (dk_at dksL_law_15 0 rfl rfl)
theorem dL_law_371 : decode cL_law 371 = .ok (.iconst 1, 1) := dk_4 (dk_at dksL_law_15 1 rfl rfl)
theorem dL_law_372 : decode cL_law 372 = .ok (.iadd, 1) := dk_96 (dk_at dksL_law_15 2 rfl rfl)
theorem dL_law_373 : decode cL_law 373 = .ok (.iaload, 1) := dk_46 (dk_at dksL_law_15 3 rfl rfl)
theorem dL_law_374 : decode cL_law 374 = .ok (.invokevirtual 50, 3) := dk_182 0 50 (dk_at dksL_law_15 4 rfl rfl)
theorem dL_law_377 : decode cL_law 377 = .ok (.aload_n 2, 1) := dk_44 (dk_at dksL_law_15 7 rfl rfl)
theorem dL_law_378 : decode cL_law 378 = .ok (.aload_n 0, 1) := dk_42 (dk_at dksL_law_15 8 rfl rfl)
theorem dL_law_379 : decode cL_law 379 = .ok (.iload_n 3, 1) := dk_29 (dk_at dksL_law_15 9 rfl rfl)
theorem dL_law_380 : decode cL_law 380 = .ok (.iconst 1, 1) := dk_4 (dk_at dksL_law_15 10 rfl rfl)
theorem dL_law_381 : decode cL_law 381 = .ok (.iadd, 1) := dk_96 (dk_at dksL_law_15 11 rfl rfl)
theorem dL_law_382 : decode cL_law 382 = .ok (.iaload, 1) := dk_46 (dk_at dksL_law_15 12 rfl rfl)
theorem dL_law_383 : decode cL_law 383 = .ok (.invokevirtual 53, 3) := dk_182 0 53 (dk_at dksL_law_15 13 rfl rfl)
theorem dL_law_386 : decode cL_law 386 = .ok (.if_icmp .eq 5, 3) := dk_159 0 5 (dk_at dksL_law_15 16 rfl rfl)
theorem dL_law_389 : decode cL_law 389 = .ok (.iconst 0, 1) := dk_3 (dk_at dksL_law_15 19 rfl rfl)
theorem dL_law_390 : decode cL_law 390 = .ok (.ireturn, 1) := dk_172 (dk_at dksL_law_15 20 rfl rfl)
theorem dL_law_391 : decode cL_law 391 = .ok (.iinc 3 6, 3) := dk_132 3 6 (dk_at dksL_law_15 21 rfl rfl)
theorem dL_law_394 : decode cL_law 394 = .ok (.goto (-376), 3) := dk_167 254 136 (dk_at dksL_law_16 0 rfl rfl)
theorem dL_law_397 : decode cL_law 397 = .ok (.iconst 1, 1) := dk_4 (dk_at dksL_law_16 3 rfl rfl)
theorem dL_law_398 : decode cL_law 398 = .ok (.ireturn, 1) := dk_172 (dk_at dksL_law_16 4 rfl rfl)
end
section
/-! PLAIN LAWS: bytes as numbers under 256, VMPC's row of 256 numbers, its stirring and its steps -/
/-- the byte that holds the number a (a < 256), as an int -/
def bI (a : Nat) : Int32 := (nI a).toInt8.toInt32
/-- the low eight bits -/
def lo8 (x : Int32) : Nat := x.toBitVec.toNat % 256
theorem lo8_lt (x : Int32) : lo8 x < 256 := Nat.mod_lt _ (by decide)
theorem and255 (x : Int32) : x &&& nI 255 = nI (lo8 x) := pk_and x 8 (by decide)
theorem nI_toNat (a : Nat) : (nI a).toBitVec.toNat = a % 2 ^ 32 := by
  show (BitVec.ofNat 32 a).toNat = _
  simp
theorem lo8_nI (a : Nat) : lo8 (nI a) = a % 256 := by
  unfold lo8
  rw [nI_toNat]
  omega
theorem lo8_nIs {a : Nat} (h : a < 256) : lo8 (nI a) = a := by
  rw [lo8_nI]
  omega
theorem lo8_nar (x : Int32) : lo8 x.toInt8.toInt32 = lo8 x := by
  unfold lo8
  have h : x.toInt8.toInt32.toInt8 = x.toInt8 := by simp
  have h2 : ∀ y : Int32, y.toInt8.toBitVec.toNat = y.toBitVec.toNat % 256 := by
    intro y
    have e : y.toInt8.toBitVec = y.toBitVec.setWidth 8 := by
      rw [show y.toInt8.toBitVec = y.toBitVec.signExtend 8 from rfl]
      exact BitVec.signExtend_eq_setWidth_of_le _ (by decide)
    rw [e, BitVec.toNat_setWidth]
  rw [← h2, ← h2, h]
theorem lo8_bI (a : Nat) : lo8 (bI a) = a % 256 := by
  unfold bI
  rw [lo8_nar, lo8_nI]
theorem lo8_bIs {a : Nat} (h : a < 256) : lo8 (bI a) = a := by
  rw [lo8_bI]
  omega
theorem lo8_add (x y : Int32) : lo8 (x + y) = (lo8 x + lo8 y) % 256 := by
  unfold lo8
  have e : (x + y).toBitVec.toNat = (x.toBitVec.toNat + y.toBitVec.toNat) % 2 ^ 32 := by
    rw [Int32.toBitVec_add, BitVec.toNat_add]
  rw [e]
  omega
theorem lo8_xor (x y : Int32) : lo8 (x ^^^ y) = lo8 x ^^^ lo8 y := by
  unfold lo8
  rw [Int32.toBitVec_xor, BitVec.toNat_xor]
  exact Nat.xor_mod_two_pow (n := 8)
theorem toInt8_ext {x y : Int32} (h : lo8 x = lo8 y) : x.toInt8 = y.toInt8 := by
  have h2 : ∀ y : Int32, y.toInt8.toBitVec.toNat = y.toBitVec.toNat % 256 := by
    intro y
    have e : y.toInt8.toBitVec = y.toBitVec.setWidth 8 := by
      rw [show y.toInt8.toBitVec = y.toBitVec.signExtend 8 from rfl]
      exact BitVec.signExtend_eq_setWidth_of_le _ (by decide)
    rw [e, BitVec.toNat_setWidth]
  apply Int8.toBitVec_inj.mp
  apply BitVec.eq_of_toNat_eq
  rw [h2, h2]
  exact h
theorem nar_lo8 (x : Int32) : x.toInt8.toInt32 = bI (lo8 x) := by
  unfold bI
  rw [toInt8_ext (x := x) (y := nI (lo8 x))]
  rw [lo8_nIs (lo8_lt x)]
theorem bI_nar (a : Nat) : (bI a).toInt8.toInt32 = bI a := by
  unfold bI
  simp
theorem bI_0 : bI 0 = 0 := by decide
theorem bI_vb (a : Nat) : vp_nar .byte (bI a) = bI a := pk_vb (nI a)
theorem vb_nar (x : Int32) : vp_nar .byte x = x.toInt8.toInt32 := vp_nar_byte x
theorem vb_idem (x : Int32) : vp_nar .byte x.toInt8.toInt32 = x.toInt8.toInt32 := pk_vb x
theorem bI_and {a : Nat} (h : a < 256) : bI a &&& nI 255 = nI a := by rw [and255, lo8_bIs h]
/-- the class's index: (s + P[m & 255] + k) & 255 -/
theorem ix3 {a b : Nat} (ha : a < 256) (hb : b < 256) (x : Int32) : (bI a + bI b + x) &&& nI 255 = nI ((a + b + lo8 x) % 256) := by
  rw [and255, lo8_add, lo8_add, lo8_bIs ha, lo8_bIs hb]
  congr 1
  omega
theorem ix2 {a b : Nat} (ha : a < 256) (hb : b < 256) : (bI a + bI b) &&& nI 255 = nI ((a + b) % 256) := by
  rw [and255, lo8_add, lo8_bIs ha, lo8_bIs hb]
theorem ix1 {a : Nat} (ha : a < 256) : (bI a + nI 1) &&& nI 255 = nI ((a + 1) % 256) := by
  rw [and255, lo8_add, lo8_bIs ha, lo8_nIs (by decide)]
theorem mm255 {a : Nat} (ha : a < 2 ^ 31) : nI a &&& nI 255 = nI (a % 256) := by rw [and255, lo8_nI]
theorem rem_nI {a d : Nat} (ha : a < 2 ^ 31) (h0 : 0 < d) (hd : d < 2 ^ 31) : nI a - nI a / nI d * nI d = nI (a % d) := pk_rem ha h0 hd
theorem rem3 {a b : Nat} (ha : a < 256) (hb : b < 256) (x : Int32) : nI a + nI b + (nI (lo8 x)) - (nI a + nI b + (nI (lo8 x))) / nI 256 * nI 256 = nI ((a + b + lo8 x) % 256) := by
  rw [nI_add, nI_add]
  exact pk_rem (by have := lo8_lt x; omega) (by decide) (by decide)
theorem nI_cl {n : Nat} (h : n < 2 ^ 31) : (nI n).toNatClampNeg = n := nI_clamp h
/-- f & 2147483647 -/
def lo31 (x : Int32) : Nat := x.toBitVec.toNat % 2 ^ 31
theorem lo31_lt (x : Int32) : lo31 x < 2 ^ 31 := Nat.mod_lt _ (by decide)
theorem and31 (x : Int32) : x &&& 2147483647 = nI (lo31 x) := pk_and x 31 (by decide)
theorem xor_nar (x : Int32) (z : Nat) : (x ^^^ bI z).toInt8.toInt32 = (x ^^^ nI z).toInt8.toInt32 := by
  rw [toInt8_ext]
  rw [lo8_xor, lo8_xor, lo8_bI, lo8_nI]
/-- the answer of one(b): both sides -/
theorem one_eq (b : Int32) (z : Nat) : ((b.toInt8.toInt32 ^^^ bI z).toInt8.toInt32) &&& nI 255 = (b ^^^ nI z) &&& nI 255 := by
  rw [and255, and255, lo8_nar, lo8_xor, lo8_xor, lo8_nar, lo8_bI, lo8_nI]
theorem jinc (i : Nat) : nI i + Int32.ofInt 1 = nI (i + 1) := by
  rw [show Int32.ofInt 1 = 1 from by decide]
  exact nI_1 i
/-! the row of 256 numbers -/
def updN (f : Nat → Nat) (k x : Nat) : Nat → Nat := fun j => if j = k then x else f j
def swp (P : Nat → Nat) (a b : Nat) : Nat → Nat := updN (updN P a (P b)) b (P a)
/-- one stirring by the number k (m & 255): the row and the sum -/
def st1 (k : Nat → Nat) (m : Nat) (q : (Nat → Nat) × Nat) : (Nat → Nat) × Nat :=
  (swp q.1 (m % 256) (q.1 ((q.2 + q.1 (m % 256) + k (m % 16)) % 256)), q.1 ((q.2 + q.1 (m % 256) + k (m % 16)) % 256))
def stN (k : Nat → Nat) : Nat → (Nat → Nat) × Nat → (Nat → Nat) × Nat
  | 0, q => q
  | m + 1, q => st1 k m (stN k m q)
def id0 (n : Nat) : Nat → Nat := fun j => if j < n then j else 0
def setK (kk vv : Nat → Nat) : (Nat → Nat) × Nat := stN vv 768 (stN kk 768 (id0 256, 0))
/-- the numbers stay under 256 -/
def okP (P : Nat → Nat) : Prop := ∀ j, P j < 256
theorem okP_updN {P : Nat → Nat} {k x : Nat} (h : okP P) (hx : x < 256) : okP (updN P k x) := by
  intro j
  unfold updN
  split
  · exact hx
  · exact h j
theorem okP_swp {P : Nat → Nat} {a b : Nat} (h : okP P) : okP (swp P a b) := okP_updN (okP_updN h (h b)) (h a)
theorem okP_id0 {n : Nat} (h : n ≤ 256) : okP (id0 n) := by
  intro j
  unfold id0
  split
  · omega
  · decide
theorem ok_st1 {k : Nat → Nat} {m : Nat} {q : (Nat → Nat) × Nat} (h : okP q.1) : okP (st1 k m q).1 ∧ (st1 k m q).2 < 256 := ⟨okP_swp h, h _⟩
theorem ok_stN {k : Nat → Nat} {q : (Nat → Nat) × Nat} (h : okP q.1) (hs : q.2 < 256) : ∀ m, okP (stN k m q).1 ∧ (stN k m q).2 < 256
  | 0 => ⟨h, hs⟩
  | m + 1 => ok_st1 (ok_stN h hs m).1
theorem ok_setK (kk vv : Nat → Nat) : okP (setK kk vv).1 ∧ (setK kk vv).2 < 256 := by
  have h := ok_stN (k := kk) (q := (id0 256, 0)) (okP_id0 (Nat.le_refl _)) (by decide) 768
  exact ok_stN (k := vv) h.1 h.2 768
theorem stN_congr {k k' : Nat → Nat} (h : ∀ j, j < 16 → k j = k' j) (q : (Nat → Nat) × Nat) : ∀ m, stN k m q = stN k' m q
  | 0 => rfl
  | m + 1 => by
    show st1 k m (stN k m q) = st1 k' m (stN k' m q)
    rw [stN_congr h q m]
    unfold st1
    rw [h (m % 16) (Nat.mod_lt _ (by decide))]
theorem setK_congr {k k' v v' : Nat → Nat} (h : ∀ j, j < 16 → k j = k' j) (hv : ∀ j, j < 16 → v j = v' j) : setK k v = setK k' v' := by
  unfold setK
  rw [stN_congr h, stN_congr hv]
/-- a step: row, sum, place -/
def nx (q : (Nat → Nat) × Nat × Nat) : (Nat → Nat) × Nat × Nat :=
  (swp q.1 q.2.2 (q.1 ((q.2.1 + q.1 q.2.2) % 256)), q.1 ((q.2.1 + q.1 q.2.2) % 256), (q.2.2 + 1) % 256)
def nz (q : (Nat → Nat) × Nat × Nat) : Nat := q.1 ((q.1 (q.1 (q.1 ((q.2.1 + q.1 q.2.2) % 256))) + 1) % 256)
def okS (q : (Nat → Nat) × Nat × Nat) : Prop := okP q.1 ∧ q.2.1 < 256 ∧ q.2.2 < 256
theorem okS_nx {q : (Nat → Nat) × Nat × Nat} (h : okS q) : okS (nx q) := ⟨okP_swp h.1, h.1 _, Nat.mod_lt _ (by decide)⟩
theorem nz_lt {q : (Nat → Nat) × Nat × Nat} (h : okS q) : nz q < 256 := h.1 _
def nxN : Nat → (Nat → Nat) × Nat × Nat → (Nat → Nat) × Nat × Nat
  | 0, q => q
  | n + 1, q => nx (nxN n q)
theorem okS_nxN {q : (Nat → Nat) × Nat × Nat} (h : okS q) : ∀ n, okS (nxN n q)
  | 0 => h
  | n + 1 => okS_nx (okS_nxN h n)
/-- the first i of the bytes that run(f, ..) writes -/
def runO (T : Nat → Int32) (f : Nat) (q : (Nat → Nat) × Nat × Nat) (i : Nat) : Nat → Int32 := fun j => if j < i then (T (f + j) ^^^ nI (nz (nxN j q))).toInt8.toInt32 else 0
theorem runO_0 (T : Nat → Int32) (f : Nat) (q : (Nat → Nat) × Nat × Nat) : runO T f q 0 = fun _ => 0 := by
  funext j
  unfold runO
  rw [if_neg (by omega)]
theorem runO_S (T : Nat → Int32) (f : Nat) (q : (Nat → Nat) × Nat × Nat) (i : Nat) : upd (runO T f q i) i ((T (f + i) ^^^ nI (nz (nxN i q))).toInt8.toInt32) = runO T f q (i + 1) := by
  funext j
  unfold upd runO
  by_cases h : j = i
  · subst h
    rw [if_pos rfl, if_pos (by omega)]
  · rw [if_neg h]
    by_cases h2 : j < i
    · rw [if_pos h2, if_pos (by omega)]
    · rw [if_neg h2, if_neg (by omega)]
/-! the arrays' contents -/
/-- the class's row: bytes -/
def bP (P : Nat → Nat) : Nat → Int32 := fun j => bI (P j)
/-- the reference's row: ints -/
def nP (P : Nat → Nat) : Nat → Int32 := fun j => nI (P j)
theorem bP_upd (P : Nat → Nat) (k x : Nat) : upd (bP P) k (bI x) = bP (updN P k x) := by
  funext j
  unfold upd bP updN
  by_cases h : j = k
  · rw [if_pos h, if_pos h]
  · rw [if_neg h, if_neg h]
theorem nP_upd (P : Nat → Nat) (k x : Nat) : upd (nP P) k (nI x) = nP (updN P k x) := by
  funext j
  unfold upd nP updN
  by_cases h : j = k
  · rw [if_pos h, if_pos h]
  · rw [if_neg h, if_neg h]
theorem id0_S (i : Nat) : updN (id0 i) i i = id0 (i + 1) := by
  funext j
  unfold updN id0
  by_cases h : j = i
  · subst h
    rw [if_pos rfl, if_pos (by omega)]
  · rw [if_neg h]
    by_cases h2 : j < i
    · rw [if_pos h2, if_pos (by omega)]
    · rw [if_neg h2, if_neg (by omega)]
theorem bP_0 : (fun _ => 0 : Nat → Int32) = bP (id0 0) := by
  funext j
  unfold bP id0
  rw [if_neg (by omega), bI_0]
/-- a row filled with k up to i, what stood there behind -/
def fil (P : Nat → Int32) (i : Nat) : Nat → Int32 := fun j => if j < i then nI j else P j
theorem fil_S (P : Nat → Int32) (i : Nat) : upd (fil P i) i (nI i) = fil P (i + 1) := by
  funext j
  unfold upd fil
  by_cases h : j = i
  · subst h
    rw [if_pos rfl, if_pos (by omega)]
  · rw [if_neg h]
    by_cases h2 : j < i
    · rw [if_pos h2, if_pos (by omega)]
    · rw [if_neg h2, if_neg (by omega)]
/-- an array overwritten by another's bytes up to i -/
def cpB (K Z : Nat → Int32) (i : Nat) : Nat → Int32 := fun j => if j < i then (K j).toInt8.toInt32 else Z j
theorem cpB_0 (K Z : Nat → Int32) : cpB K Z 0 = Z := by
  funext j
  unfold cpB
  rw [if_neg (by omega)]
theorem cpB_S (K Z : Nat → Int32) (i : Nat) : upd (cpB K Z i) i ((K i).toInt8.toInt32) = cpB K Z (i + 1) := by
  funext j
  unfold upd cpB
  by_cases h : j = i
  · subst h
    rw [if_pos rfl, if_pos (by omega)]
  · rw [if_neg h]
    by_cases h2 : j < i
    · rw [if_pos h2, if_pos (by omega)]
    · rw [if_neg h2, if_neg (by omega)]
/-- System.arraycopy of sixteen bytes into a new array: the same contents -/
theorem cpy16 (K : Nat → Int32) : va_cpy (cpB K (fun _ => 0) 16) (fun _ => 0) 0 0 16 = cpB K (fun _ => 0) 16 := by
  funext j
  unfold va_cpy
  by_cases h : 0 ≤ j ∧ j < 0 + 16
  · rw [if_pos h]
    congr 1
    omega
  · rw [if_neg h]
    unfold cpB
    rw [if_neg (by omega)]
theorem cpB_fit (K : Nat → Int32) (j : Nat) : fits .byte (.int (cpB K (fun _ => 0) 16 j)) = true := by
  unfold cpB
  split
  · exact pk_fb _
  · rfl
/-- four bytes of a word, the highest first -/
def wrd (f : Nat → Int32) (a : Nat) (w : Int32) : Nat → Int32 := upd (upd (upd (upd f a ((w >>> (nI 24 &&& 31)).toInt8.toInt32)) (a + 1) ((w >>> (nI 16 &&& 31)).toInt8.toInt32)) (a + 2) ((w >>> (nI 8 &&& 31)).toInt8.toInt32)) (a + 3) (w.toInt8.toInt32)
def wrd4 (f : Nat → Int32) (z : Nat) (a b c d : Int32) : Nat → Int32 := wrd (wrd (wrd (wrd f z a) (z + 4) b) (z + 8) c) (z + 12) d
theorem sh0 (w : Int32) : w >>> (nI 0 &&& 31) = w := sb_shr0 w
/-- 16 * (half & 1) -/
def half (x : Int32) : Nat := x.toBitVec.toNat % 2
theorem half_lt (x : Int32) : half x < 2 := Nat.mod_lt _ (by decide)
theorem and1 (x : Int32) : x &&& nI 1 = nI (half x) := pk_and x 1 (by decide)
theorem shl4 (x : Int32) : nI (half x) <<< (nI 4 &&& 31) = nI (16 * half x) := by
  have h := half_lt x
  rw [pk_shlN (nI 4 &&& 31) 4 (by decide) (by omega)]
  congr 1
  omega
theorem mul16 (x : Int32) : nI 16 * nI (half x) = nI (16 * half x) := pk_mul 16 (half x)
theorem nb_bI (a : Nat) : narrow .byte (.int (bI a)) = .int (bI a) := pk_nb (nI a)
theorem fb_bI (a : Nat) : fits .byte (.int (bI a)) = true := pk_fb (nI a)
/-! what put, out, run answer, both sides -/
def putZ (z : Nat) : Nat := if 240 < z then z else z + 16
def putT (T : Nat → Int32) (z : Nat) (a b c d : Int32) : Nat → Int32 := if 240 < z then T else wrd4 T z a b c d
def putR (z : Nat) : Int32 := if 240 < z then 0 else 1
theorem putZ_le {z : Nat} (h : z ≤ 256) : putZ z ≤ 256 := by
  unfold putZ
  split <;> omega
def outR (O : Nat → Int32) (n : Nat) (x : Int32) : Int32 := if n = 0 then (-1) else O (lo31 x % n) &&& nI 255
def frm (x : Int32) (z : Nat) : Nat := lo31 x % (z + 1)
def cnt (y : Int32) (z f : Nat) : Nat := lo31 y % (z - f + 1)
theorem frm_le (x : Int32) (z : Nat) : frm x z ≤ z := Nat.le_of_lt_succ (Nat.mod_lt _ (Nat.succ_pos z))
theorem cnt_le {y : Int32} {z f : Nat} (h : f ≤ z) : f + cnt y z f ≤ z := by
  have := Nat.mod_lt (lo31 y) (Nat.succ_pos (z - f))
  unfold cnt
  have e : z - f + 1 = (z - f).succ := rfl
  rw [e]
  omega
end
section
/-! THE FRAME OF OUR CONTRACTS: the classes, two array classes that hold all through a run, calls that set cells in place -/
abbrev vwCl : List vw_C := [(RX0, TX0, 8), (RX1, TX1, 5), (RX2, TX2, 12), (RX3, TX3, 2), (RX4, TX4, 1)]
abbrev TY (B : ClassId × ClassId) : List (ClassId × FieldType) := [(B.1, .byte), (B.2, .int)]
abbrev jA (b : Nat) (c : ClassId) (n : Nat) (f : Nat → Int32) : Nat × va_E := (b, .inl (c, n, .inl f))
abbrev jO (b : Nat) (ci : Nat) (fs : List Value) : Nat × va_E := (b, .inr (ci, fs))
def jP (D : va_G) (B : ClassId × ClassId) (sz : Nat) (ws : va_W) (U : State) : Prop := U.heap.size = sz ∧ va_P D vwCl ws U.heap ∧ va_K D vwCl (TY B) U ∧ va_D (fun _ => True) ws
def jQ (D : va_G) (A : Nat → Prop) (ws : va_W) (t : State) : Prop := va_P D vwCl ws t.heap ∧ va_D A ws
/-- a contract, void: args, the world before, what is said of the new names, the world behind -/
abbrev jMv (l : Launch) (y : MethodName) (ws : List Cond) (rm : Room) (D : va_G) (B : ClassId × ClassId) (sz : Nat) (av : List Value) (w : va_W) {S : Type} (post : S → Prop) (w' : S → va_W) : Prop :=
  Met l y ws rm (va_Pc av (jP D B sz w)) (va_Qv post (fun u t => jQ D (va_A w sz) (w' u) t) (va_A w sz)) rm.cells rm.slots (va_A w sz)
abbrev jMi (l : Launch) (y : MethodName) (ws : List Cond) (rm : Room) (D : va_G) (B : ClassId × ClassId) (sz : Nat) (av : List Value) (w : va_W) {S : Type} (post : Int32 → S → Prop) (w' : S → va_W) : Prop :=
  Met l y ws rm (va_Pc av (jP D B sz w)) (va_Qi post (fun u t => jQ D (va_A w sz) (w' u) t) (va_A w sz)) rm.cells rm.slots (va_A w sz)
abbrev jMr (l : Launch) (y : MethodName) (ws : List Cond) (rm : Room) (D : va_G) (B : ClassId × ClassId) (sz : Nat) (av : List Value) (w : va_W) {S : Type} (post : S → Prop) (ra : S → Nat) (w' : S → va_W) : Prop :=
  Met l y ws rm (va_Pc av (jP D B sz w)) (va_Qr post (fun u a t => a = ra u ∧ jQ D (va_A w sz) (w' u) t) (va_A w sz)) rm.cells rm.slots (va_A w sz)
theorem jP_blind {D : va_G} {B : ClassId × ClassId} {sz : Nat} {w : va_W} {av : List Value} : FrameBlind (va_Pc av (jP D B sz w)) := by
  intro a U g mk q
  obtain ⟨q0, q1, qP, qK, qD⟩ := q
  exact ⟨q0, q1, qP, va_K.moved (u := U) (U := U.calling g mk a) (Vm.Alike.refl U.vm) qK, qD⟩
theorem jPreS {s : State} {H : Heap} {D : va_G} {B : ClassId × ClassId} {A : Nat → Prop} {wc : va_W} {As : List Value} (hK : va_K D vwCl (TY B) s) (hP : va_P D vwCl wc H) (hD : va_D A wc) : PreS s H (va_Pc As (jP D B H.size wc)) As :=
  ⟨jP_blind, fun U hU hW => ⟨rfl, by rw [hU], by rw [hU]; exact hP, va_K.moved hW.alike hK, hD.weaken (fun _ _ _ _ => trivial)⟩⟩
theorem jPreV {s : State} {H : Heap} {D : va_G} {B : ClassId × ClassId} {A : Nat → Prop} {wc : va_W} {b : Nat} {As : List Value} {ci q0 : Nat} {q : vw_C} {fs : List Value} (hK : va_K D vwCl (TY B) s) (hP : va_P D vwCl wc H) (hD : va_D A wc) (hc : vwCl[ci]? = some q) (he : wc[q0]? = some (b, .inr (ci, fs))) : PreV s H q.1 b (va_Pc (.ref b :: As) (jP D B H.size wc)) As :=
  ⟨jP_blind, va_recv hK hP hc he, fun U hU hW => ⟨rfl, by rw [hU], by rw [hU]; exact hP, va_K.moved hW.alike hK, hD.weaken (fun _ _ _ _ => trivial)⟩⟩
/-- a world with the cells of the places is set to the first of w1, and the rest of w1 added -/
def jset (ws : va_W) (is : List Nat) (w1 : va_W) : va_W := match is with
  | [] => match w1 with
    | [] => ws
    | x :: w1 => ws ++ (x :: w1)
  | i :: is => match w1 with
    | [] => ws
    | x :: w1 => jset (ws.set i x) is w1
theorem jset_test (a b x y z : Nat × va_E) (E : va_W) : jset (a :: b :: E) [1, 0] [x, y, z] = y :: x :: (E ++ [z]) := rfl
theorem jset_test2 (a b x y : Nat × va_E) (E : va_W) : jset (a :: b :: E) [1, 0] [x, y] = y :: x :: E := rfl
theorem jset_ok {A : Nat → Prop} {D : va_G} {cl : List vw_C} {H1 : Heap} : ∀ (is : List Nat) (ws w1 : va_W), va_nd is = true → va_D A ws → (∀ (k i : Nat), is[k]? = some i → ∃ (e : va_E) (x : Nat × va_E), w1[k]? = some x ∧ ws[i]? = some (x.1, e)) → (∀ (j : Nat) (q : Nat × va_E), ws[j]? = some q → j ∉ is → va_at D cl q H1) → va_P D cl w1 H1 → va_D A w1 → (∀ (i j : Nat) (p q : Nat × va_E), ws[i]? = some p → w1[j]? = some q → is.length ≤ j → p.1 ≠ q.1) → va_P D cl (jset ws is w1) H1 ∧ va_D A (jset ws is w1)
  | [], ws, w1, _, hD, _, hr, hP1, hD1, hn => by
    have e : jset ws [] w1 = ws ++ w1 := by
      cases w1 with
      | nil => simp [jset]
      | cons x w1 => rw [jset]
    rw [e]
    refine ⟨va_P.app (fun k q hk => hr k q hk (by simp)) hP1, va_D.app hD hD1 (fun i j p q hp hq => hn i j p q hp hq (Nat.zero_le _))⟩
  | i :: is, ws, [], _, hD, ha, hr, hP1, hD1, hn => by
    obtain ⟨e, x, h1, _⟩ := ha 0 i rfl
    cases h1
  | i :: is, ws, x :: w1, hnd, hD, ha, hr, hP1, hD1, hn => by
    have hnd' : va_nd is = true ∧ i ∉ is := by
      simp only [va_nd, Bool.and_eq_true] at hnd
      refine ⟨hnd.2, ?_⟩
      intro hm
      simp [hm] at hnd
    obtain ⟨e, x0, h1, h2⟩ := ha 0 i rfl
    have hx0 : x0 = x := (Option.some.inj h1).symm
    subst hx0
    have hD' : va_D A (ws.set i (x0.1, x0.2)) := hD.set h2
    have get_set : ∀ (j : Nat) (q : Nat × va_E), (ws.set i x0)[j]? = some q → (j = i ∧ q = x0) ∨ (j ≠ i ∧ ws[j]? = some q) := by
      intro j q hq
      by_cases hji : j = i
      · subst hji
        have hlt : j < ws.length := (List.getElem?_eq_some_iff.mp h2).1
        rw [List.getElem?_set_self hlt] at hq
        exact Or.inl ⟨rfl, (Option.some.inj hq).symm⟩
      · rw [List.getElem?_set_ne (fun q => hji q.symm)] at hq
        exact Or.inr ⟨hji, hq⟩
    have e0 : jset ws (i :: is) (x0 :: w1) = jset (ws.set i x0) is w1 := by rw [jset]
    rw [e0]
    refine jset_ok is (ws.set i x0) w1 hnd'.1 hD' ?_ ?_ (fun k q hk => hP1 (k + 1) q hk) ⟨?_, fun k q hk => hD1.2 (k + 1) q hk⟩ ?_
    · intro k i' hk
      obtain ⟨e', x', g1, g2⟩ := ha (k + 1) i' hk
      have hne : i ≠ i' := fun q => hnd'.2 (by rw [q]; exact List.mem_of_getElem? hk)
      exact ⟨e', x', g1, by rw [List.getElem?_set_ne hne]; exact g2⟩
    · intro j q hq hj
      rcases get_set j q hq with ⟨_, rfl⟩ | ⟨hji, hq'⟩
      · exact hP1 0 _ rfl
      · exact hr j q hq' (fun hm => by
          rcases List.mem_cons.mp hm with h | h
          · exact hji h
          · exact hj h)
    · intro a b p q hp hq hpq
      have := hD1.1 (a + 1) (b + 1) p q hp hq hpq
      omega
    · intro a b p q hp hq hle hpq
      rcases get_set a p hp with ⟨_, rfl⟩ | ⟨_, hp'⟩
      · exact hn i (b + 1) (p.1, e) q h2 hq (by simp; omega) hpq
      · exact hn a (b + 1) p q hp' hq (by simp; omega) hpq
/-- behind a call that kept its cells' addresses -/
theorem jjoin {A0 : Nat → Prop} {D : va_G} {cl : List vw_C} {ws wc w1 : va_W} {H H1 : Heap} (hP : va_P D cl ws H) (hD : va_D A0 ws) (isC : List Nat) (hC : isC.map (fun i => ws[i]?) = wc.map some) (hn : va_nd isC = true)
    (hadr : (w1.map (fun q => q.1)).take isC.length = wc.map (fun q => q.1))
    (hk : ∀ q : Nat, q < H.size → ¬ va_A wc H.size q → H1[q]? = H[q]?) (hF : ∀ q, va_A wc H.size q → A0 q) (hP1 : va_P D cl w1 H1) (hD1 : va_D (va_A wc H.size) w1) : va_P D cl (jset ws isC w1) H1 ∧ va_D A0 (jset ws isC w1) := by
  have hlen : isC.length = wc.length := by
    have := congrArg List.length hC
    simpa using this
  have atC : ∀ (k i : Nat), isC[k]? = some i → ∃ q, wc[k]? = some q ∧ ws[i]? = some q := by
    intro k i hi
    have h1 : (isC.map (fun i => ws[i]?))[k]? = some (ws[i]?) := by rw [List.getElem?_map, hi]; rfl
    rw [hC, List.getElem?_map] at h1
    cases hq : wc[k]? with
    | none => rw [hq] at h1; cases h1
    | some q => rw [hq] at h1; exact ⟨q, rfl, (Option.some.inj h1).symm⟩
  have inC : ∀ (k : Nat) (q : Nat × va_E), wc[k]? = some q → ∃ i, isC[k]? = some i ∧ ws[i]? = some q := by
    intro k q hq
    have h1 : (isC.map (fun i => ws[i]?))[k]? = some (some q) := by rw [hC, List.getElem?_map, hq]; rfl
    rw [List.getElem?_map] at h1
    cases hi : isC[k]? with
    | none => rw [hi] at h1; cases h1
    | some i => rw [hi] at h1; exact ⟨i, rfl, Option.some.inj h1⟩
  have adr : ∀ (k : Nat) (q : Nat × va_E), wc[k]? = some q → ∃ x, w1[k]? = some x ∧ x.1 = q.1 := by
    intro k q hq
    have hkl : k < isC.length := by rw [hlen]; exact (List.getElem?_eq_some_iff.mp hq).1
    have h1 : (wc.map (fun q => q.1))[k]? = some q.1 := by rw [List.getElem?_map, hq]; rfl
    rw [← hadr, List.getElem?_take, if_pos hkl, List.getElem?_map] at h1
    cases hx : w1[k]? with
    | none => rw [hx] at h1; cases h1
    | some x => rw [hx] at h1; exact ⟨x, rfl, Option.some.inj h1⟩
  refine jset_ok isC ws w1 hn hD ?_ ?_ hP1 (hD1.weaken (fun k q _ h => hF q.1 h)) ?_
  · intro k i hi
    obtain ⟨q, h1, h2⟩ := atC k i hi
    obtain ⟨x, h3, h4⟩ := adr k q h1
    exact ⟨q.2, x, h3, by rw [h4]; exact h2⟩
  · intro j q hq hj
    refine (hP j q hq).kept (hk q.1 ((hP j q hq).lt) (fun h => ?_))
    rcases h with ⟨k, e, h⟩ | h
    · obtain ⟨i, h3, h4⟩ := inC k (q.1, e) h
      have hij := hD.1 j i q (q.1, e) hq h4 rfl
      subst hij
      exact hj (List.mem_of_getElem? h3)
    · have := (hP j q hq).lt
      omega
  · intro i j p q hp hq hle hpq
    rcases hD1.2 j q hq with ⟨k, e, h⟩ | h
    · obtain ⟨x, h3, h4⟩ := adr k (q.1, e) h
      have hkl : k < isC.length := by rw [hlen]; exact (List.getElem?_eq_some_iff.mp h).1
      have := hD1.1 k j x q h3 hq h4
      omega
    · have := (hP i p hp).lt
      omega
/-- an array's contents count within its length alone -/
theorem jcong {D : va_G} {cl : List vw_C} {A : Nat → Prop} {ws : va_W} {H : Heap} (hP : va_P D cl ws H) (hD : va_D A ws) (k : Nat) {b : Nat} {c : ClassId} {n : Nat} {f : Nat → Int32} (g : Nat → Int32) (hk : ws[k]? = some (jA b c n f)) (h : ∀ j, j < n → f j = g j) : va_P D cl (ws.set k (jA b c n g)) H ∧ va_D A (ws.set k (jA b c n g)) := by
  refine ⟨hP.set hD hk ?_ (fun q _ => rfl), hD.set hk⟩
  have h1 : H[b]? = some (vp_cell c (n, .inl f)) := hP k _ hk
  show H[b]? = some (vp_cell c (n, .inl g))
  rw [h1, vp_cell_i, vp_cell_i]
  congr 1
  unfold arrV
  congr 1
  apply Array.ext
  · simp
  · intro j h1 h2
    simp only [Array.getElem_ofFn]
    rw [h j (by simpa using h1)]
section JW
variable {p : Program} {l : Launch} {e : Env} {R : Room} {s : State} {m : MethodId} {args : Array Value} {below : List Frame} {meth : Method} {c : Code} {H : Heap} {locs : List Loc} {cells slots : Nat} {Q : State → Prop}
variable {cc : ByteArray} {pc : Nat} {ls : Array Slot} {rest st0 : List Value} {D : va_G} {B : ClassId × ClassId} {A : Nat → Prop} {a : Nat} {ws : va_W} {H0 : Heap}
/-- the number on the stack, by another name -/
theorem jas {x y : Int32} (h : x = y) (k : W p l e R s m args below meth c H locs cells slots Q (F0 m pc ls (.int y :: rest))) : W p l e R s m args below meth c H locs cells slots Q (F0 m pc ls (.int x :: rest)) := by rw [h]; exact k
/-- a method's start -/
theorem jStart {y : MethodName} {rm : Room} {maxL : Nat} {ret : Option FieldType} {sz : Nat} {av : List Value} {w : va_W} {Qc : (Nat → Prop) → Array Value → State → Outcome → State → Prop} (hy : plainName y.cls = true) (hn : (lg_sl av).length ≤ maxL)
    (body : ∀ (p : Program) (e : Env) (s : State) (m : MethodId) (below : List Frame) (meth : Method) (c : Code) (A : Nat → Prop) (H : Heap) (ls : Array Slot), p.tables.exec = Jvm.exec → c.code = cc → meth.sig.returnType = ret → meth.locks = false → c.maxLocals = maxL → s.vm.findClass y.cls = some m.cls → meth.name = y.name → (∀ w ∈ lw_all, w.before av.toArray s = true) → va_K D vwCl (TY B) s → va_P D vwCl w H → va_D A w → (∀ q : Nat, s.heap.size ≤ q → A q) → va_S A s.heap H [] → lv_has ls maxL (lv_args 0 av) →
      W p l e rm s m av.toArray below meth c H [] 0 0 (MQ below (Qc A) av.toArray s rm.cells rm.slots A) (F0 m 0 ls [])) : Met l y (ws_ y cc maxL ret) rm (va_Pc av (jP D B sz w)) (Qc (va_A w sz)) rm.cells rm.slots (va_A w sz) := by
  refine Met.ofW (cc := cc) (maxL := maxL) (ret := ret) hy rfl ?_
  intro p e s m args below meth c s₁ Bd hml hv
  obtain ⟨rfl, hsz, hP, hK, hD0⟩ := hv
  have hts := atoms_spec (ws := ws_ y cc maxL ret) Bd.pre
  have hts : ∀ w ∈ lw_all, w.before _ s = true := fun w h => hts w (List.mem_cons_of_mem _ h)
  have hown : s.vm.findClass y.cls = some m.cls := findClass_of_methodNamed Bd.named
  have hin : meth.name = y.name := (name_of_methodNamed Bd.named Bd.method).1
  subst hsz
  have hl := lv_entry av (n := maxL) hn
  rw [lg_entry_eq]
  exact body p e s m below meth c _ s.heap _ Bd.exec Bd.bytes Bd.returns Bd.notSynchronized hml hown hin hts hK hP (hD0.self (sz := s.heap.size)) (fun q h => Or.inr h) va_S.rf hl
theorem jStartV {y : MethodName} {rm : Room} {maxL : Nat} {sz : Nat} {av : List Value} {w : va_W} {S : Type} {post : S → Prop} {w' : S → va_W} (hy : plainName y.cls = true) (hn : (lg_sl av).length ≤ maxL)
    (body : ∀ (p : Program) (e : Env) (s : State) (m : MethodId) (below : List Frame) (meth : Method) (c : Code) (A : Nat → Prop) (H : Heap) (ls : Array Slot), p.tables.exec = Jvm.exec → c.code = cc → meth.sig.returnType = none → meth.locks = false → c.maxLocals = maxL → s.vm.findClass y.cls = some m.cls → meth.name = y.name → (∀ w ∈ lw_all, w.before av.toArray s = true) → va_K D vwCl (TY B) s → va_P D vwCl w H → va_D A w → (∀ q : Nat, s.heap.size ≤ q → A q) → va_S A s.heap H [] → lv_has ls maxL (lv_args 0 av) →
      W p l e rm s m av.toArray below meth c H [] 0 0 (MQ below (va_Qv post (fun u t => jQ D A (w' u) t) A) av.toArray s rm.cells rm.slots A) (F0 m 0 ls [])) : jMv l y (ws_ y cc maxL none) rm D B sz av w post w' :=
  jStart (Qc := fun A => va_Qv post (fun u t => jQ D A (w' u) t) A) hy hn body
theorem jStartI {y : MethodName} {rm : Room} {maxL : Nat} {sz : Nat} {ty : FieldType} {av : List Value} {w : va_W} {S : Type} {post : Int32 → S → Prop} {w' : S → va_W} (hy : plainName y.cls = true) (hn : (lg_sl av).length ≤ maxL)
    (body : ∀ (p : Program) (e : Env) (s : State) (m : MethodId) (below : List Frame) (meth : Method) (c : Code) (A : Nat → Prop) (H : Heap) (ls : Array Slot), p.tables.exec = Jvm.exec → c.code = cc → meth.sig.returnType = some ty → meth.locks = false → c.maxLocals = maxL → s.vm.findClass y.cls = some m.cls → meth.name = y.name → (∀ w ∈ lw_all, w.before av.toArray s = true) → va_K D vwCl (TY B) s → va_P D vwCl w H → va_D A w → (∀ q : Nat, s.heap.size ≤ q → A q) → va_S A s.heap H [] → lv_has ls maxL (lv_args 0 av) →
      W p l e rm s m av.toArray below meth c H [] 0 0 (MQ below (va_Qi post (fun u t => jQ D A (w' u) t) A) av.toArray s rm.cells rm.slots A) (F0 m 0 ls [])) : jMi l y (ws_ y cc maxL (some ty)) rm D B sz av w post w' :=
  jStart (Qc := fun A => va_Qi post (fun u t => jQ D A (w' u) t) A) hy hn body
theorem jStartR {y : MethodName} {rm : Room} {maxL : Nat} {sz : Nat} {ty : FieldType} {av : List Value} {w : va_W} {S : Type} {post : S → Prop} {ra : S → Nat} {w' : S → va_W} (hy : plainName y.cls = true) (hn : (lg_sl av).length ≤ maxL)
    (body : ∀ (p : Program) (e : Env) (s : State) (m : MethodId) (below : List Frame) (meth : Method) (c : Code) (A : Nat → Prop) (H : Heap) (ls : Array Slot), p.tables.exec = Jvm.exec → c.code = cc → meth.sig.returnType = some ty → meth.locks = false → c.maxLocals = maxL → s.vm.findClass y.cls = some m.cls → meth.name = y.name → (∀ w ∈ lw_all, w.before av.toArray s = true) → va_K D vwCl (TY B) s → va_P D vwCl w H → va_D A w → (∀ q : Nat, s.heap.size ≤ q → A q) → va_S A s.heap H [] → lv_has ls maxL (lv_args 0 av) →
      W p l e rm s m av.toArray below meth c H [] 0 0 (MQ below (va_Qr post (fun u a t => a = ra u ∧ jQ D A (w' u) t) A) av.toArray s rm.cells rm.slots A) (F0 m 0 ls [])) : jMr l y (ws_ y cc maxL (some ty)) rm D B sz av w post ra w' :=
  jStart (Qc := fun A => va_Qr post (fun u a t => a = ra u ∧ jQ D A (w' u) t) A) hy hn body
/-- ends -/
theorem jvret {S : Type} {post : S → Prop} {w' : S → va_W} {mc ms : Nat} (u : S) (hx : p.tables.exec = Jvm.exec) (hb : c.code = cc) (hr : meth.sig.returnType = none) (hlocks : meth.locks = false) (hp : post u) (hP : va_P D vwCl (w' u) H) (hD : va_D A (w' u)) (hS : va_S A s.heap H locs) (hc : cells ≤ mc) (hs : slots ≤ ms) (hdg : decode cc pc = .ok (.return_, 1)) : W p l e R s m args below meth c H locs cells slots (MQ below (va_Qv post (fun u t => jQ D A (w' u) t) A) args s mc ms A) (F0 m pc ls []) :=
  W.widen hc hs (W.vret hx hb hr (fun t ht hW => ⟨⟨u, rfl, hp, by rw [ht]; exact hP, hD⟩, hS.F ht⟩) hS.2.2 hdg hlocks)
theorem jiret {S : Type} {post : Int32 → S → Prop} {w' : S → va_W} {mc ms : Nat} {v : Int32} {ty : FieldType} (u : S) (hx : p.tables.exec = Jvm.exec) (hb : c.code = cc) (hr : meth.sig.returnType = some ty) (hn : narrow ty (.int v) = .int v) (hlocks : meth.locks = false) (hp : post v u) (hP : va_P D vwCl (w' u) H) (hD : va_D A (w' u)) (hS : va_S A s.heap H locs) (hc : cells ≤ mc) (hs : slots ≤ ms) (hdg : decode cc pc = .ok (.ireturn, 1)) : W p l e R s m args below meth c H locs cells slots (MQ below (va_Qi post (fun u t => jQ D A (w' u) t) A) args s mc ms A) (F0 m pc ls [.int v]) :=
  W.widen hc hs (W.zret hx hb hr hn (fun t ht hW => ⟨⟨v, u, rfl, hp, by rw [ht]; exact hP, hD⟩, hS.F ht⟩) hS.2.2 hdg hlocks)
theorem jaret {S : Type} {post : S → Prop} {ra : S → Nat} {w' : S → va_W} {mc ms : Nat} {rt : FieldType} (u : S) (hx : p.tables.exec = Jvm.exec) (hb : c.code = cc) (hr : meth.sig.returnType = some rt) (hrt : (∃ n, rt = .object n) ∨ ∃ t, rt = .array t) (hlocks : meth.locks = false) (hp : post u) (hP : va_P D vwCl (w' u) H) (hD : va_D A (w' u)) (hS : va_S A s.heap H locs) (hc : cells ≤ mc) (hs : slots ≤ ms) (hdg : decode cc pc = .ok (.areturn, 1)) : W p l e R s m args below meth c H locs cells slots (MQ below (va_Qr post (fun u a t => a = ra u ∧ jQ D A (w' u) t) A) args s mc ms A) (F0 m pc ls [.ref (ra u)]) :=
  W.widen hc hs (W.aret hx hb hr hrt (Or.inr ⟨_, rfl⟩) (fun t ht hW => ⟨⟨u, ra u, rfl, hp, rfl, by rw [ht]; exact hP, hD⟩, hS.F ht⟩) hS.2.2 hdg hlocks)
/-- calls: the callee's cells at the places isC are set in place, what it made is added -/
theorem jcallv {S : Type} {post : S → Prop} {w1 : S → va_W} {wc : va_W} {mc ms : Nat} {av : Array Value} (isC : List Nat) (hC : isC.map (fun i => ws[i]?) = wc.map some) (hn : va_nd isC = true) (hadr : ∀ u, ((w1 u).map (fun q => q.1)).take isC.length = wc.map (fun q => q.1)) (hP : va_P D vwCl ws H) (hD : va_D A ws) (hS : va_S A H0 H locs) (hA : ∀ q : Nat, H0.size ≤ q → A q)
    (hr : va_Run p l e R s m args below meth c H locs cells slots mc ms (F0 m pc ls st0) rest (va_Qv post (fun u t => jQ D (va_A wc H.size) (w1 u) t) (va_A wc H.size) av) (va_A wc H.size))
    (kk : ∀ (u : S) (H1 : Heap) (locs1 : List Loc), post u → va_P D vwCl (jset ws isC (w1 u)) H1 → va_D A (jset ws isC (w1 u)) → va_S A H0 H1 locs1 → W p l e R s m args below meth c H1 locs1 (cells + mc) (slots + ms) Q (F0 m (pc + 3) ls rest)) : W p l e R s m args below meth c H locs cells slots Q (F0 m pc ls st0) := by
  have hF := va_free (wc := wc) hD hS hA isC hC
  refine va_callv hr hS (fun q _ h => hF q h) hF (fun u t H1 locs1 ht hvm hp hB hz hk hS1 => ?_)
  obtain ⟨hP1, hD1⟩ := hB
  rw [ht] at hP1
  obtain ⟨hP2, hD2⟩ := jjoin hP hD isC hC hn (hadr u) hk hF hP1 hD1
  exact kk u H1 locs1 hp hP2 hD2 hS1
theorem jcalli {S : Type} {post : Int32 → S → Prop} {w1 : S → va_W} {wc : va_W} {mc ms : Nat} {av : Array Value} (isC : List Nat) (hC : isC.map (fun i => ws[i]?) = wc.map some) (hn : va_nd isC = true) (hadr : ∀ u, ((w1 u).map (fun q => q.1)).take isC.length = wc.map (fun q => q.1)) (hP : va_P D vwCl ws H) (hD : va_D A ws) (hS : va_S A H0 H locs) (hA : ∀ q : Nat, H0.size ≤ q → A q)
    (hr : va_Run p l e R s m args below meth c H locs cells slots mc ms (F0 m pc ls st0) rest (va_Qi post (fun u t => jQ D (va_A wc H.size) (w1 u) t) (va_A wc H.size) av) (va_A wc H.size))
    (kk : ∀ (r : Int32) (u : S) (H1 : Heap) (locs1 : List Loc), post r u → va_P D vwCl (jset ws isC (w1 u)) H1 → va_D A (jset ws isC (w1 u)) → va_S A H0 H1 locs1 → W p l e R s m args below meth c H1 locs1 (cells + mc) (slots + ms) Q (F0 m (pc + 3) ls (.int r :: rest))) : W p l e R s m args below meth c H locs cells slots Q (F0 m pc ls st0) := by
  have hF := va_free (wc := wc) hD hS hA isC hC
  refine va_calli hr hS (fun q _ h => hF q h) hF (fun r u t H1 locs1 ht hvm hp hB hz hk hS1 => ?_)
  obtain ⟨hP1, hD1⟩ := hB
  rw [ht] at hP1
  obtain ⟨hP2, hD2⟩ := jjoin hP hD isC hC hn (hadr u) hk hF hP1 hD1
  exact kk r u H1 locs1 hp hP2 hD2 hS1
theorem jcallr {S : Type} {post : S → Prop} {ra : S → Nat} {w1 : S → va_W} {wc : va_W} {mc ms : Nat} {av : Array Value} (isC : List Nat) (hC : isC.map (fun i => ws[i]?) = wc.map some) (hn : va_nd isC = true) (hadr : ∀ u, ((w1 u).map (fun q => q.1)).take isC.length = wc.map (fun q => q.1)) (hP : va_P D vwCl ws H) (hD : va_D A ws) (hS : va_S A H0 H locs) (hA : ∀ q : Nat, H0.size ≤ q → A q)
    (hr : va_Run p l e R s m args below meth c H locs cells slots mc ms (F0 m pc ls st0) rest (va_Qr post (fun u a t => a = ra u ∧ jQ D (va_A wc H.size) (w1 u) t) (va_A wc H.size) av) (va_A wc H.size))
    (kk : ∀ (u : S) (H1 : Heap) (locs1 : List Loc), post u → va_P D vwCl (jset ws isC (w1 u)) H1 → va_D A (jset ws isC (w1 u)) → va_S A H0 H1 locs1 → W p l e R s m args below meth c H1 locs1 (cells + mc) (slots + ms) Q (F0 m (pc + 3) ls (.ref (ra u) :: rest))) : W p l e R s m args below meth c H locs cells slots Q (F0 m pc ls st0) := by
  have hF := va_free (wc := wc) hD hS hA isC hC
  refine va_callr hr hS (fun q _ h => hF q h) hF (fun u r t H1 locs1 ht hvm hp hB hz hk hS1 => ?_)
  obtain ⟨hra, hP1, hD1⟩ := hB
  rw [ht] at hP1
  subst hra
  obtain ⟨hP2, hD2⟩ := jjoin hP hD isC hC hn (hadr u) hk hF hP1 hD1
  exact kk u H1 locs1 hp hP2 hD2 hS1
/-- arrays at a place that is a Nat -/
theorem jbald (hx : p.tables.exec = Jvm.exec) (hb : c.code = cc) (hK : va_K D vwCl (TY B) s) (hP : va_P D vwCl ws H) (q0 : Nat) {n : Nat} {f : Nat → Int32} (ha : ws[q0]? = some (jA a B.1 n f)) (k : Nat) (hk : k < n) (hn : n < 2 ^ 31) (hdg : decode cc pc = .ok (.baload, 1))
    (kk : W p l e R s m args below meth c H locs cells slots Q (F0 m (pc + 1) ls (.int (f k) :: rest))) : W p l e R s m args below meth c H locs cells slots Q (F0 m pc ls (.int (nI k) :: .ref a :: rest)) := by
  refine va_bald hx hb hK hP q0 0 ha rfl (vp_in_nI hk hn) hdg ?_
  rw [nI_clamp (Nat.lt_trans hk hn)]
  exact kk
theorem jiald (hx : p.tables.exec = Jvm.exec) (hb : c.code = cc) (hK : va_K D vwCl (TY B) s) (hP : va_P D vwCl ws H) (q0 : Nat) {n : Nat} {f : Nat → Int32} (ha : ws[q0]? = some (jA a B.2 n f)) (k : Nat) (hk : k < n) (hn : n < 2 ^ 31) (hdg : decode cc pc = .ok (.iaload, 1))
    (kk : W p l e R s m args below meth c H locs cells slots Q (F0 m (pc + 1) ls (.int (f k) :: rest))) : W p l e R s m args below meth c H locs cells slots Q (F0 m pc ls (.int (nI k) :: .ref a :: rest)) := by
  refine va_iald hx hb hK hP q0 1 ha rfl (vp_in_nI hk hn) hdg ?_
  rw [nI_clamp (Nat.lt_trans hk hn)]
  exact kk
theorem jbast (hx : p.tables.exec = Jvm.exec) (hb : c.code = cc) (hK : va_K D vwCl (TY B) s) (hP : va_P D vwCl ws H) (hD : va_D A ws) (hS : va_S A H0 H locs) (q0 : Nat) {n : Nat} {f : Nat → Int32} (ha : ws[q0]? = some (jA a B.1 n f)) (k : Nat) (hk : k < n) (hn : n < 2 ^ 31) {x : Int32} (g : Nat → Int32) (hg : upd f k (vp_nar .byte x) = g) (hdg : decode cc pc = .ok (.bastore, 1))
    (kk : ∀ (H1 : Heap) (locs1 : List Loc), va_P D vwCl (ws.set q0 (jA a B.1 n g)) H1 → va_D A (ws.set q0 (jA a B.1 n g)) → va_S A H0 H1 locs1 → W p l e R s m args below meth c H1 locs1 cells slots Q (F0 m (pc + 1) ls rest)) : W p l e R s m args below meth c H locs cells slots Q (F0 m pc ls (.int x :: .int (nI k) :: .ref a :: rest)) := by
  subst hg
  refine va_bast hx hb hK hP hD hS q0 0 ha rfl (vp_in_nI hk hn) hdg ?_
  rw [nI_clamp (Nat.lt_trans hk hn)]
  exact kk
theorem jiast (hx : p.tables.exec = Jvm.exec) (hb : c.code = cc) (hK : va_K D vwCl (TY B) s) (hP : va_P D vwCl ws H) (hD : va_D A ws) (hS : va_S A H0 H locs) (q0 : Nat) {n : Nat} {f : Nat → Int32} (ha : ws[q0]? = some (jA a B.2 n f)) (k : Nat) (hk : k < n) (hn : n < 2 ^ 31) {x : Int32} (g : Nat → Int32) (hg : upd f k x = g) (hdg : decode cc pc = .ok (.iastore, 1))
    (kk : ∀ (H1 : Heap) (locs1 : List Loc), va_P D vwCl (ws.set q0 (jA a B.2 n g)) H1 → va_D A (ws.set q0 (jA a B.2 n g)) → va_S A H0 H1 locs1 → W p l e R s m args below meth c H1 locs1 cells slots Q (F0 m (pc + 1) ls rest)) : W p l e R s m args below meth c H locs cells slots Q (F0 m pc ls (.int x :: .int (nI k) :: .ref a :: rest)) := by
  subst hg
  refine va_iast hx hb hK hP hD hS q0 1 ha rfl (vp_in_nI hk hn) hdg ?_
  rw [nI_clamp (Nat.lt_trans hk hn)]
  exact kk
/-- the law's own script -/
theorem jsld (hx : p.tables.exec = Jvm.exec) (hb : c.code = cc) {b L : Nat} {xs : Nat → Int32} (hX : va_X b L xs s H0) (hbl : b < H0.size) (hbA : ¬ A b) (hS : va_S A H0 H locs) (k : Nat) (hk : k < L) (hL : L < 2 ^ 31) (hdg : decode cc pc = .ok (.iaload, 1))
    (kk : W p l e R s m args below meth c H locs cells slots Q (F0 m (pc + 1) ls (.int (xs k) :: rest))) : W p l e R s m args below meth c H locs cells slots Q (F0 m pc ls (.int (nI k) :: .ref b :: rest)) := by
  refine va_sld hx hb hX hbl hbA hS (vp_in_nI hk hL) hdg ?_
  rw [nI_clamp (Nat.lt_trans hk hL)]
  exact kk
theorem jnewb (hx : p.tables.exec = Jvm.exec) (hb : c.code = cc) (harr : (Cond.arrayClass .byte).before args s = true) (hK : va_K D vwCl (TY B) s) (hP : va_P D vwCl ws H) (hD : va_D A ws) (hS : va_S A H0 H locs) (hA : ∀ q : Nat, H0.size ≤ q → A q) (N : Nat) (hN : N < 65536) (hcells : cells + 1 ≤ R.cells) (hslots : slots + N ≤ R.slots) (hdg : decode cc pc = .ok (.newarray .byte, 2))
    (kk : ∀ (q : Nat) (H1 : Heap), va_P D vwCl (ws ++ [jA q B.1 N (fun _ => 0)]) H1 → va_D A (ws ++ [jA q B.1 N (fun _ => 0)]) → va_S A H0 H1 locs → W p l e R s m args below meth c H1 locs (cells + 1) (slots + N) Q (F0 m (pc + 2) ls (.ref q :: rest))) : W p l e R s m args below meth c H locs cells slots Q (F0 m pc ls (.int (nI N) :: rest)) := by
  refine va_newa (atype := .byte) (ty := .byte) (N' := N) (a0 := (N, .inl (fun _ => 0))) hx hb harr rfl hK hP hD hS hA (fun cA => rfl) (nI_pos (by omega)) (nI_clamp (by omega)) (by show N * 1 ≤ 536870912; omega) hcells hslots hdg (fun q cA H1 hK1 hP1 hD1 hS1 => ?_)
  have e1 : s.vm.findClass ("[" ++ FieldType.byte.toString) = some cA := (hK1.2 2 (cA, .byte) rfl).2
  have e2 : s.vm.findClass ("[" ++ FieldType.byte.toString) = some B.1 := (hK.2 0 (B.1, .byte) rfl).2
  have e3 : cA = B.1 := Option.some.inj (e1.symm.trans e2)
  subst e3
  exact kk q H1 hP1 hD1 hS1
theorem jnewi (hx : p.tables.exec = Jvm.exec) (hb : c.code = cc) (harr : (Cond.arrayClass .int).before args s = true) (hK : va_K D vwCl (TY B) s) (hP : va_P D vwCl ws H) (hD : va_D A ws) (hS : va_S A H0 H locs) (hA : ∀ q : Nat, H0.size ≤ q → A q) (N : Nat) (hN : N < 65536) (hcells : cells + 1 ≤ R.cells) (hslots : slots + N ≤ R.slots) (hdg : decode cc pc = .ok (.newarray .int, 2))
    (kk : ∀ (q : Nat) (H1 : Heap), va_P D vwCl (ws ++ [jA q B.2 N (fun _ => 0)]) H1 → va_D A (ws ++ [jA q B.2 N (fun _ => 0)]) → va_S A H0 H1 locs → W p l e R s m args below meth c H1 locs (cells + 1) (slots + N) Q (F0 m (pc + 2) ls (.ref q :: rest))) : W p l e R s m args below meth c H locs cells slots Q (F0 m pc ls (.int (nI N) :: rest)) := by
  refine va_newa (atype := .int) (ty := .int) (N' := N) (a0 := (N, .inl (fun _ => 0))) hx hb harr rfl hK hP hD hS hA (fun cA => rfl) (nI_pos (by omega)) (nI_clamp (by omega)) (by show N * 4 ≤ 536870912; omega) hcells hslots hdg (fun q cA H1 hK1 hP1 hD1 hS1 => ?_)
  have e1 : s.vm.findClass ("[" ++ FieldType.int.toString) = some cA := (hK1.2 2 (cA, .int) rfl).2
  have e2 : s.vm.findClass ("[" ++ FieldType.int.toString) = some B.2 := (hK.2 1 (B.2, .int) rfl).2
  have e3 : cA = B.2 := Option.some.inj (e1.symm.trans e2)
  subst e3
  exact kk q H1 hP1 hD1 hS1
end JW
end
section
set_option maxHeartbeats 4000000 in
set_option maxRecDepth 100000 in
/-- KeyParameter(16): a new array of sixteen bytes -/
theorem metX4_init_3 (l : Launch) (D : va_G) (B : ClassId × ClassId) (sz : Nat) (h0 : Nat) : jMv l yX4_init_3 (ws_ yX4_init_3 cX4_init_3 2 none) { frames := 1, cells := 1, slots := 16, locals := 12 } D B sz [.ref h0, .int (nI 16)] [jO h0 4 [.null]] (S := Nat) (fun _ => True) (fun u => [jO h0 4 [.ref u], jA u B.1 16 (fun _ => 0)]) := by
  refine jStartV (by decide) (Nat.le_of_ble_eq_true rfl) ?_
  intro p e s m below meth c A H ls hx hb hr hlk hml hown hin hts hK hP hD hA hS hl
  have hown : s.vm.findClass "KeyParameter" = some m.cls := hown
  have hin : meth.name = "<init>" := hin
  have hl : lv_has ls 2 [(0, .ref h0), (1, .int (nI 16))] := hl
  refine lv_aload_n hx hb dX4_init_3_0 rfl (lv_at hl 0 rfl) ?_
  refine W.objInit hx hb hown (hts _ q119) (hts _ q28) (hts _ q29) rfl (by rw [hml]; exact hl.1) rfl dX4_init_3_1 (Nat.le_of_ble_eq_true rfl) (Nat.le_of_ble_eq_true rfl) ?_
  refine W.eq (g2 := F0 m 4 ls []) rfl ?_
  refine lv_aload_n hx hb dX4_init_3_4 rfl (lv_at hl 0 rfl) ?_
  refine lv_iload_n hx hb dX4_init_3_5 rfl (lv_at hl 1 rfl) ?_
  refine jnewb hx hb (hts _ q77) hK hP hD hS hA 16 (by decide) (Nat.le_of_ble_eq_true rfl) (Nat.le_of_ble_eq_true rfl) dX4_init_3_6 (fun a_6 H hP hD hS => ?_)
  have hP : va_P D vwCl [jO h0 4 [.null], jA a_6 B.1 16 (fun _ => 0)] H := hP
  have hD : va_D A [jO h0 4 [.null], jA a_6 B.1 16 (fun _ => 0)] := hD
  refine va_put (D := D) (ci := 4) (v := .ref a_6) (ty := .array .byte) (C := RX4) (T := TX4) (N := 1) hx hb hts in_X4 tyX4 tyX4_ok nmX4 hown hK hP hD hS 0 rfl rfl 0 (by decide) (hts _ q120) (fun _ h9 => h9) rfl (by decide +kernel) rfl rfl (Nat.le_of_ble_eq_true rfl) dX4_init_3_8 (fun H locs hP hD hS => ?_)
  have hP : va_P D vwCl [jO h0 4 [.ref a_6], jA a_6 B.1 16 (fun _ => 0)] H := hP
  have hD : va_D A [jO h0 4 [.ref a_6], jA a_6 B.1 16 (fun _ => 0)] := hD
  exact jvret a_6 hx hb hr hlk trivial hP hD hS (Nat.le_of_ble_eq_true rfl) (Nat.le_of_ble_eq_true rfl) dX4_init_3_11
set_option maxHeartbeats 4000000 in
set_option maxRecDepth 100000 in
/-- KeyParameter(key, 0, 16): a copy -/
theorem metX4_init_2 (l : Launch) (D : va_G) (B : ClassId × ClassId) (sz : Nat) (h0 k0 : Nat) (K : Nat → Int32) : jMv l yX4_init_2 (ws_ yX4_init_2 cX4_init_2 4 none) { frames := 2, cells := 1, slots := 16, locals := 60 } D B sz [.ref h0, .ref k0, .int (nI 0), .int (nI 16)] [jO h0 4 [.null], jA k0 B.1 16 (cpB K (fun _ => 0) 16)] (S := Nat) (fun _ => True) (fun u => [jO h0 4 [.ref u], jA k0 B.1 16 (cpB K (fun _ => 0) 16), jA u B.1 16 (cpB K (fun _ => 0) 16)]) := by
  refine jStartV (by decide) (Nat.le_of_ble_eq_true rfl) ?_
  intro p e s m below meth c A H ls hx hb hr hlk hml hown hin hts hK hP hD hA hS hl
  have hown : s.vm.findClass "KeyParameter" = some m.cls := hown
  have hin : meth.name = "<init>" := hin
  have hl : lv_has ls 4 [(0, .ref h0), (1, .ref k0), (2, .int (nI 0)), (3, .int (nI 16))] := hl
  refine lv_aload_n hx hb dX4_init_2_0 rfl (lv_at hl 0 rfl) ?_
  refine lv_iload_n hx hb dX4_init_2_1 rfl (lv_at hl 3 rfl) ?_
  refine jcallv (ws := [jO h0 4 [.null], jA k0 B.1 16 (cpB K (fun _ => 0) 16)]) (wc := [jO h0 4 [.null]]) [0] rfl (by decide) (fun _ => rfl) hP hD hS hA (va_runI (b := h0) (As := [.int (nI 16)]) (rest := []) ⟨hx, hb, hml, hown, hts⟩ (metX4_init_3 l D B H.size h0) (cwI 1 hts (lw_meth q118) rfl rfl rfl (hts _ q13) (hts _ q116) (hts _ q117) rfl (by decide +kernel) ⟨Nat.le_of_ble_eq_true rfl, Nat.le_of_ble_eq_true rfl⟩) (jPreS hK (hP.sub (ws' := [jO h0 4 [.null]]) [0] rfl) (hD.sub (ws' := [jO h0 4 [.null]]) [0] (by decide) rfl)) rfl rfl hl.1 rfl (lv_room (Nat.le_of_ble_eq_true rfl)) dX4_init_2_2 ⟨Nat.le_of_ble_eq_true rfl, Nat.le_of_ble_eq_true rfl⟩) (fun u H locs hu hP hD hS => ?_)
  have hP : va_P D vwCl [jO h0 4 [.ref u], jA k0 B.1 16 (cpB K (fun _ => 0) 16), jA u B.1 16 (fun _ => 0)] H := hP
  have hD : va_D A [jO h0 4 [.ref u], jA k0 B.1 16 (cpB K (fun _ => 0) 16), jA u B.1 16 (fun _ => 0)] := hD
  refine lv_aload_n hx hb dX4_init_2_5 rfl (lv_at hl 1 rfl) ?_
  refine lv_iload_n hx hb dX4_init_2_6 rfl (lv_at hl 2 rfl) ?_
  refine lv_aload_n hx hb dX4_init_2_7 rfl (lv_at hl 0 rfl) ?_
  refine va_get (D := D) (ci := 4) (v := .ref u) (C := RX4) (T := TX4) (N := 1) hx hb hts in_X4 hown hK hP 0 rfl rfl 0 (by decide) (hts _ q120) (fun _ h9 => h9) rfl dX4_init_2_8 ?_
  refine lv_iconst (v := nI 0) hx hb dX4_init_2_11 (by decide) ?_
  refine lv_iload_n hx hb dX4_init_2_12 rfl (lv_at hl 3 rfl) ?_
  refine va_copyi (ty := .byte) (sp := nI 0) (dp := nI 0) (n := nI 16) hx hb (hml.trans hl.1.symm) hown (hts _ q124) (hts _ q126) (hts _ q125) (hts _ q14) hK hP hD hS 1 2 0 0 rfl rfl rfl rfl rfl (nI_pos (by decide)) (nI_pos (by decide)) (nI_pos (by decide)) (by decide) (by decide) (fun i _ => cpB_fit K _) (Nat.le_of_ble_eq_true rfl) (Nat.le_of_ble_eq_true rfl) dX4_init_2_13 (fun H locs hP hD hS => ?_)
  have hP : va_P D vwCl [jO h0 4 [.ref u], jA k0 B.1 16 (cpB K (fun _ => 0) 16), jA u B.1 16 (va_cpy (cpB K (fun _ => 0) 16) (fun _ => 0) 0 0 16)] H := hP
  have hD : va_D A [jO h0 4 [.ref u], jA k0 B.1 16 (cpB K (fun _ => 0) 16), jA u B.1 16 (va_cpy (cpB K (fun _ => 0) 16) (fun _ => 0) 0 0 16)] := hD
  rw [cpy16] at hP hD
  have hP : va_P D vwCl [jO h0 4 [.ref u], jA k0 B.1 16 (cpB K (fun _ => 0) 16), jA u B.1 16 (cpB K (fun _ => 0) 16)] H := hP
  have hD : va_D A [jO h0 4 [.ref u], jA k0 B.1 16 (cpB K (fun _ => 0) 16), jA u B.1 16 (cpB K (fun _ => 0) 16)] := hD
  exact jvret u hx hb hr hlk trivial hP hD hS (Nat.le_of_ble_eq_true rfl) (Nat.le_of_ble_eq_true rfl) dX4_init_2_16
set_option maxHeartbeats 4000000 in
set_option maxRecDepth 100000 in
/-- KeyParameter(key) -/
theorem metX4_init (l : Launch) (D : va_G) (B : ClassId × ClassId) (sz : Nat) (h0 k0 : Nat) (K : Nat → Int32) : jMv l yX4_init (ws_ yX4_init cX4_init 2 none) { frames := 3, cells := 1, slots := 16, locals := 83 } D B sz [.ref h0, .ref k0] [jO h0 4 [.null], jA k0 B.1 16 (cpB K (fun _ => 0) 16)] (S := Nat) (fun _ => True) (fun u => [jO h0 4 [.ref u], jA k0 B.1 16 (cpB K (fun _ => 0) 16), jA u B.1 16 (cpB K (fun _ => 0) 16)]) := by
  refine jStartV (by decide) (Nat.le_of_ble_eq_true rfl) ?_
  intro p e s m below meth c A H ls hx hb hr hlk hml hown hin hts hK hP hD hA hS hl
  have hown : s.vm.findClass "KeyParameter" = some m.cls := hown
  have hin : meth.name = "<init>" := hin
  have hl : lv_has ls 2 [(0, .ref h0), (1, .ref k0)] := hl
  refine lv_aload_n hx hb dX4_init_0 rfl (lv_at hl 0 rfl) ?_
  refine lv_aload_n hx hb dX4_init_1 rfl (lv_at hl 1 rfl) ?_
  refine lv_iconst (v := nI 0) hx hb dX4_init_2 (by decide) ?_
  refine lv_aload_n hx hb dX4_init_3 rfl (lv_at hl 1 rfl) ?_
  refine va_alen (v := nI 16) hx hb hK hP 1 0 rfl rfl rfl dX4_init_4 ?_
  refine jcallv (ws := [jO h0 4 [.null], jA k0 B.1 16 (cpB K (fun _ => 0) 16)]) (wc := [jO h0 4 [.null], jA k0 B.1 16 (cpB K (fun _ => 0) 16)]) [0, 1] rfl (by decide) (fun _ => rfl) hP hD hS hA (va_runI (b := h0) (As := [.ref k0, .int (nI 0), .int (nI 16)]) (rest := []) ⟨hx, hb, hml, hown, hts⟩ (metX4_init_2 l D B H.size h0 k0 K) (cwI 3 hts (lw_meth q115) rfl rfl rfl (hts _ q13) (hts _ q113) (hts _ q114) rfl (by decide +kernel) ⟨Nat.le_of_ble_eq_true rfl, Nat.le_of_ble_eq_true rfl⟩) (jPreS hK (hP.sub (ws' := [jO h0 4 [.null], jA k0 B.1 16 (cpB K (fun _ => 0) 16)]) [0, 1] rfl) (hD.sub (ws' := [jO h0 4 [.null], jA k0 B.1 16 (cpB K (fun _ => 0) 16)]) [0, 1] (by decide) rfl)) rfl rfl hl.1 rfl (lv_room (Nat.le_of_ble_eq_true rfl)) dX4_init_5 ⟨Nat.le_of_ble_eq_true rfl, Nat.le_of_ble_eq_true rfl⟩) (fun u H locs hu hP hD hS => ?_)
  have hP : va_P D vwCl [jO h0 4 [.ref u], jA k0 B.1 16 (cpB K (fun _ => 0) 16), jA u B.1 16 (cpB K (fun _ => 0) 16)] H := hP
  have hD : va_D A [jO h0 4 [.ref u], jA k0 B.1 16 (cpB K (fun _ => 0) 16), jA u B.1 16 (cpB K (fun _ => 0) 16)] := hD
  exact jvret u hx hb hr hlk trivial hP hD hS (Nat.le_of_ble_eq_true rfl) (Nat.le_of_ble_eq_true rfl) dX4_init_8
set_option maxHeartbeats 4000000 in
set_option maxRecDepth 100000 in
/-- getKey() -/
theorem metX4_getKey (l : Launch) (D : va_G) (B : ClassId × ClassId) (sz : Nat) (h0 k0 : Nat) : jMr l yX4_getKey (ws_ yX4_getKey cX4_getKey 1 (some (.array .byte))) { frames := 0, cells := 0, slots := 0, locals := 0 } D B sz [.ref h0] [jO h0 4 [.ref k0]] (S := Unit) (fun _ => True) (fun _ => k0) (fun u => [jO h0 4 [.ref k0]]) := by
  refine jStartR (by decide) (Nat.le_of_ble_eq_true rfl) ?_
  intro p e s m below meth c A H ls hx hb hr hlk hml hown hin hts hK hP hD hA hS hl
  have hown : s.vm.findClass "KeyParameter" = some m.cls := hown
  have hl : lv_has ls 1 [(0, .ref h0)] := hl
  refine lv_aload_n hx hb dX4_getKey_0 rfl (lv_at hl 0 rfl) ?_
  refine va_get (D := D) (ci := 4) (v := .ref k0) (C := RX4) (T := TX4) (N := 1) hx hb hts in_X4 hown hK hP 0 rfl rfl 0 (by decide) (hts _ q120) (fun _ h9 => h9) rfl dX4_getKey_1 ?_
  exact jaret (()) hx hb hr (Or.inr ⟨_, rfl⟩) hlk trivial hP hD hS (Nat.le_of_ble_eq_true rfl) (Nat.le_of_ble_eq_true rfl) dX4_getKey_4
set_option maxHeartbeats 4000000 in
set_option maxRecDepth 100000 in
/-- ParametersWithIV(p, iv, 0, 16): a copy of iv -/
theorem metX3_init_2 (l : Launch) (D : va_G) (B : ClassId × ClassId) (sz : Nat) (h0 p0 v0 : Nat) (K : Nat → Int32) : jMv l yX3_init_2 (ws_ yX3_init_2 cX3_init_2 5 none) { frames := 1, cells := 1, slots := 16, locals := 60 } D B sz [.ref h0, .ref p0, .ref v0, .int (nI 0), .int (nI 16)] [jO h0 3 [.null, .null], jA v0 B.1 16 (cpB K (fun _ => 0) 16)] (S := Nat) (fun _ => True) (fun u => [jO h0 3 [.ref u, .ref p0], jA v0 B.1 16 (cpB K (fun _ => 0) 16), jA u B.1 16 (cpB K (fun _ => 0) 16)]) := by
  refine jStartV (by decide) (Nat.le_of_ble_eq_true rfl) ?_
  intro p e s m below meth c A H ls hx hb hr hlk hml hown hin hts hK hP hD hA hS hl
  have hown : s.vm.findClass "ParametersWithIV" = some m.cls := hown
  have hin : meth.name = "<init>" := hin
  have hl : lv_has ls 5 [(0, .ref h0), (1, .ref p0), (2, .ref v0), (3, .int (nI 0)), (4, .int (nI 16))] := hl
  refine lv_aload_n hx hb dX3_init_2_0 rfl (lv_at hl 0 rfl) ?_
  refine W.objInit hx hb hown (hts _ q133) (hts _ q28) (hts _ q29) rfl (by rw [hml]; exact hl.1) rfl dX3_init_2_1 (Nat.le_of_ble_eq_true rfl) (Nat.le_of_ble_eq_true rfl) ?_
  refine W.eq (g2 := F0 m 4 ls []) rfl ?_
  refine lv_aload_n hx hb dX3_init_2_4 rfl (lv_at hl 0 rfl) ?_
  refine lv_iload hx hb dX3_init_2_5 (lv_at hl 4 rfl) ?_
  refine jnewb hx hb (hts _ q77) hK hP hD hS hA 16 (by decide) (Nat.le_of_ble_eq_true rfl) (Nat.le_of_ble_eq_true rfl) dX3_init_2_7 (fun a_7 H hP hD hS => ?_)
  have hP : va_P D vwCl [jO h0 3 [.null, .null], jA v0 B.1 16 (cpB K (fun _ => 0) 16), jA a_7 B.1 16 (fun _ => 0)] H := hP
  have hD : va_D A [jO h0 3 [.null, .null], jA v0 B.1 16 (cpB K (fun _ => 0) 16), jA a_7 B.1 16 (fun _ => 0)] := hD
  refine va_put (D := D) (ci := 3) (v := .ref a_7) (ty := .array .byte) (C := RX3) (T := TX3) (N := 2) hx hb hts in_X3 tyX3 tyX3_ok nmX3 hown hK hP hD hS 0 rfl rfl 0 (by decide) (hts _ q135) (fun _ h9 => h9) rfl (by decide +kernel) rfl rfl (Nat.le_of_ble_eq_true rfl) dX3_init_2_9 (fun H locs hP hD hS => ?_)
  have hP : va_P D vwCl [jO h0 3 [.ref a_7, .null], jA v0 B.1 16 (cpB K (fun _ => 0) 16), jA a_7 B.1 16 (fun _ => 0)] H := hP
  have hD : va_D A [jO h0 3 [.ref a_7, .null], jA v0 B.1 16 (cpB K (fun _ => 0) 16), jA a_7 B.1 16 (fun _ => 0)] := hD
  refine lv_aload_n hx hb dX3_init_2_12 rfl (lv_at hl 0 rfl) ?_
  refine lv_aload_n hx hb dX3_init_2_13 rfl (lv_at hl 1 rfl) ?_
  refine va_put (D := D) (ci := 3) (v := .ref p0) (ty := .object "CipherParameters") (C := RX3) (T := TX3) (N := 2) hx hb hts in_X3 tyX3 tyX3_ok nmX3 hown hK hP hD hS 0 rfl rfl 1 (by decide) (hts _ q136) (fun _ h9 => h9) rfl (by decide +kernel) rfl rfl (Nat.le_of_ble_eq_true rfl) dX3_init_2_14 (fun H locs hP hD hS => ?_)
  have hP : va_P D vwCl [jO h0 3 [.ref a_7, .ref p0], jA v0 B.1 16 (cpB K (fun _ => 0) 16), jA a_7 B.1 16 (fun _ => 0)] H := hP
  have hD : va_D A [jO h0 3 [.ref a_7, .ref p0], jA v0 B.1 16 (cpB K (fun _ => 0) 16), jA a_7 B.1 16 (fun _ => 0)] := hD
  refine lv_aload_n hx hb dX3_init_2_17 rfl (lv_at hl 2 rfl) ?_
  refine lv_iload_n hx hb dX3_init_2_18 rfl (lv_at hl 3 rfl) ?_
  refine lv_aload_n hx hb dX3_init_2_19 rfl (lv_at hl 0 rfl) ?_
  refine va_get (D := D) (ci := 3) (v := .ref a_7) (C := RX3) (T := TX3) (N := 2) hx hb hts in_X3 hown hK hP 0 rfl rfl 0 (by decide) (hts _ q135) (fun _ h9 => h9) rfl dX3_init_2_20 ?_
  refine lv_iconst (v := nI 0) hx hb dX3_init_2_23 (by decide) ?_
  refine lv_iload hx hb dX3_init_2_24 (lv_at hl 4 rfl) ?_
  refine va_copyi (ty := .byte) (sp := nI 0) (dp := nI 0) (n := nI 16) hx hb (hml.trans hl.1.symm) hown (hts _ q134) (hts _ q126) (hts _ q125) (hts _ q14) hK hP hD hS 1 2 0 0 rfl rfl rfl rfl rfl (nI_pos (by decide)) (nI_pos (by decide)) (nI_pos (by decide)) (by decide) (by decide) (fun i _ => cpB_fit K _) (Nat.le_of_ble_eq_true rfl) (Nat.le_of_ble_eq_true rfl) dX3_init_2_26 (fun H locs hP hD hS => ?_)
  have hP : va_P D vwCl [jO h0 3 [.ref a_7, .ref p0], jA v0 B.1 16 (cpB K (fun _ => 0) 16), jA a_7 B.1 16 (va_cpy (cpB K (fun _ => 0) 16) (fun _ => 0) 0 0 16)] H := hP
  have hD : va_D A [jO h0 3 [.ref a_7, .ref p0], jA v0 B.1 16 (cpB K (fun _ => 0) 16), jA a_7 B.1 16 (va_cpy (cpB K (fun _ => 0) 16) (fun _ => 0) 0 0 16)] := hD
  rw [cpy16] at hP hD
  have hP : va_P D vwCl [jO h0 3 [.ref a_7, .ref p0], jA v0 B.1 16 (cpB K (fun _ => 0) 16), jA a_7 B.1 16 (cpB K (fun _ => 0) 16)] H := hP
  have hD : va_D A [jO h0 3 [.ref a_7, .ref p0], jA v0 B.1 16 (cpB K (fun _ => 0) 16), jA a_7 B.1 16 (cpB K (fun _ => 0) 16)] := hD
  exact jvret a_7 hx hb hr hlk trivial hP hD hS (Nat.le_of_ble_eq_true rfl) (Nat.le_of_ble_eq_true rfl) dX3_init_2_29
set_option maxHeartbeats 4000000 in
set_option maxRecDepth 100000 in
/-- ParametersWithIV(p, iv) -/
theorem metX3_init (l : Launch) (D : va_G) (B : ClassId × ClassId) (sz : Nat) (h0 p0 v0 : Nat) (K : Nat → Int32) : jMv l yX3_init (ws_ yX3_init cX3_init 3 none) { frames := 2, cells := 1, slots := 16, locals := 84 } D B sz [.ref h0, .ref p0, .ref v0] [jO h0 3 [.null, .null], jA v0 B.1 16 (cpB K (fun _ => 0) 16)] (S := Nat) (fun _ => True) (fun u => [jO h0 3 [.ref u, .ref p0], jA v0 B.1 16 (cpB K (fun _ => 0) 16), jA u B.1 16 (cpB K (fun _ => 0) 16)]) := by
  refine jStartV (by decide) (Nat.le_of_ble_eq_true rfl) ?_
  intro p e s m below meth c A H ls hx hb hr hlk hml hown hin hts hK hP hD hA hS hl
  have hown : s.vm.findClass "ParametersWithIV" = some m.cls := hown
  have hin : meth.name = "<init>" := hin
  have hl : lv_has ls 3 [(0, .ref h0), (1, .ref p0), (2, .ref v0)] := hl
  refine lv_aload_n hx hb dX3_init_0 rfl (lv_at hl 0 rfl) ?_
  refine lv_aload_n hx hb dX3_init_1 rfl (lv_at hl 1 rfl) ?_
  refine lv_aload_n hx hb dX3_init_2 rfl (lv_at hl 2 rfl) ?_
  refine lv_iconst (v := nI 0) hx hb dX3_init_3 (by decide) ?_
  refine lv_aload_n hx hb dX3_init_4 rfl (lv_at hl 2 rfl) ?_
  refine va_alen (v := nI 16) hx hb hK hP 1 0 rfl rfl rfl dX3_init_5 ?_
  refine jcallv (ws := [jO h0 3 [.null, .null], jA v0 B.1 16 (cpB K (fun _ => 0) 16)]) (wc := [jO h0 3 [.null, .null], jA v0 B.1 16 (cpB K (fun _ => 0) 16)]) [0, 1] rfl (by decide) (fun _ => rfl) hP hD hS hA (va_runI (b := h0) (As := [.ref p0, .ref v0, .int (nI 0), .int (nI 16)]) (rest := []) ⟨hx, hb, hml, hown, hts⟩ (metX3_init_2 l D B H.size h0 p0 v0 K) (cwI 4 hts (lw_meth q132) rfl rfl rfl (hts _ q12) (hts _ q130) (hts _ q131) rfl (by decide +kernel) ⟨Nat.le_of_ble_eq_true rfl, Nat.le_of_ble_eq_true rfl⟩) (jPreS hK (hP.sub (ws' := [jO h0 3 [.null, .null], jA v0 B.1 16 (cpB K (fun _ => 0) 16)]) [0, 1] rfl) (hD.sub (ws' := [jO h0 3 [.null, .null], jA v0 B.1 16 (cpB K (fun _ => 0) 16)]) [0, 1] (by decide) rfl)) rfl rfl hl.1 rfl (lv_room (Nat.le_of_ble_eq_true rfl)) dX3_init_6 ⟨Nat.le_of_ble_eq_true rfl, Nat.le_of_ble_eq_true rfl⟩) (fun u H locs hu hP hD hS => ?_)
  have hP : va_P D vwCl [jO h0 3 [.ref u, .ref p0], jA v0 B.1 16 (cpB K (fun _ => 0) 16), jA u B.1 16 (cpB K (fun _ => 0) 16)] H := hP
  have hD : va_D A [jO h0 3 [.ref u, .ref p0], jA v0 B.1 16 (cpB K (fun _ => 0) 16), jA u B.1 16 (cpB K (fun _ => 0) 16)] := hD
  exact jvret u hx hb hr hlk trivial hP hD hS (Nat.le_of_ble_eq_true rfl) (Nat.le_of_ble_eq_true rfl) dX3_init_9
set_option maxHeartbeats 4000000 in
set_option maxRecDepth 100000 in
/-- getIV() -/
theorem metX3_getIV (l : Launch) (D : va_G) (B : ClassId × ClassId) (sz : Nat) (h0 p0 v0 : Nat) : jMr l yX3_getIV (ws_ yX3_getIV cX3_getIV 1 (some (.array .byte))) { frames := 0, cells := 0, slots := 0, locals := 0 } D B sz [.ref h0] [jO h0 3 [.ref v0, .ref p0]] (S := Unit) (fun _ => True) (fun _ => v0) (fun u => [jO h0 3 [.ref v0, .ref p0]]) := by
  refine jStartR (by decide) (Nat.le_of_ble_eq_true rfl) ?_
  intro p e s m below meth c A H ls hx hb hr hlk hml hown hin hts hK hP hD hA hS hl
  have hown : s.vm.findClass "ParametersWithIV" = some m.cls := hown
  have hl : lv_has ls 1 [(0, .ref h0)] := hl
  refine lv_aload_n hx hb dX3_getIV_0 rfl (lv_at hl 0 rfl) ?_
  refine va_get (D := D) (ci := 3) (v := .ref v0) (C := RX3) (T := TX3) (N := 2) hx hb hts in_X3 hown hK hP 0 rfl rfl 0 (by decide) (hts _ q135) (fun _ h9 => h9) rfl dX3_getIV_1 ?_
  exact jaret (()) hx hb hr (Or.inr ⟨_, rfl⟩) hlk trivial hP hD hS (Nat.le_of_ble_eq_true rfl) (Nat.le_of_ble_eq_true rfl) dX3_getIV_4
set_option maxHeartbeats 4000000 in
set_option maxRecDepth 100000 in
/-- getParameters() -/
theorem metX3_getParameters (l : Launch) (D : va_G) (B : ClassId × ClassId) (sz : Nat) (h0 p0 v0 : Nat) : jMr l yX3_getParameters (ws_ yX3_getParameters cX3_getParameters 1 (some (.object "CipherParameters"))) { frames := 0, cells := 0, slots := 0, locals := 0 } D B sz [.ref h0] [jO h0 3 [.ref v0, .ref p0]] (S := Unit) (fun _ => True) (fun _ => p0) (fun u => [jO h0 3 [.ref v0, .ref p0]]) := by
  refine jStartR (by decide) (Nat.le_of_ble_eq_true rfl) ?_
  intro p e s m below meth c A H ls hx hb hr hlk hml hown hin hts hK hP hD hA hS hl
  have hown : s.vm.findClass "ParametersWithIV" = some m.cls := hown
  have hl : lv_has ls 1 [(0, .ref h0)] := hl
  refine lv_aload_n hx hb dX3_getParameters_0 rfl (lv_at hl 0 rfl) ?_
  refine va_get (D := D) (ci := 3) (v := .ref p0) (C := RX3) (T := TX3) (N := 2) hx hb hts in_X3 hown hK hP 0 rfl rfl 1 (by decide) (hts _ q136) (fun _ h9 => h9) rfl dX3_getParameters_1 ?_
  exact jaret (()) hx hb hr (Or.inl ⟨_, rfl⟩) hlk trivial hP hD hS (Nat.le_of_ble_eq_true rfl) (Nat.le_of_ble_eq_true rfl) dX3_getParameters_4
set_option maxHeartbeats 4000000 in
set_option maxRecDepth 100000 in
/-- VMPCEngine() -/
theorem metX1_init (l : Launch) (D : va_G) (B : ClassId × ClassId) (sz : Nat) (h0 : Nat) : jMv l yX1_init (ws_ yX1_init cX1_init 1 none) { frames := 1, cells := 0, slots := 0, locals := 12 } D B sz [.ref h0] [jO h0 1 [.int 0, .null, .int 0, .null, .null]] (S := Unit) (fun _ => True) (fun u => [jO h0 1 [.int (nI 0), .null, .int (nI 0), .null, .null]]) := by
  refine jStartV (by decide) (Nat.le_of_ble_eq_true rfl) ?_
  intro p e s m below meth c A H ls hx hb hr hlk hml hown hin hts hK hP hD hA hS hl
  have hown : s.vm.findClass "VMPCEngine" = some m.cls := hown
  have hin : meth.name = "<init>" := hin
  have hl : lv_has ls 1 [(0, .ref h0)] := hl
  refine lv_aload_n hx hb dX1_init_0 rfl (lv_at hl 0 rfl) ?_
  refine W.objInit hx hb hown (hts _ q35) (hts _ q28) (hts _ q29) rfl (by rw [hml]; exact hl.1) rfl dX1_init_1 (Nat.le_of_ble_eq_true rfl) (Nat.le_of_ble_eq_true rfl) ?_
  refine W.eq (g2 := F0 m 4 ls []) rfl ?_
  refine lv_aload_n hx hb dX1_init_4 rfl (lv_at hl 0 rfl) ?_
  refine lv_iconst (v := nI 0) hx hb dX1_init_5 (by decide) ?_
  refine va_put (D := D) (ci := 1) (v := .int (nI 0)) (ty := .byte) (C := RX1) (T := TX1) (N := 5) hx hb hts in_X1 tyX1 tyX1_ok nmX1 hown hK hP hD hS 0 rfl rfl 0 (by decide) (hts _ q36) (fun _ h9 => h9) rfl (by decide +kernel) rfl rfl (Nat.le_of_ble_eq_true rfl) dX1_init_6 (fun H locs hP hD hS => ?_)
  have hP : va_P D vwCl [jO h0 1 [.int (nI 0), .null, .int 0, .null, .null]] H := hP
  have hD : va_D A [jO h0 1 [.int (nI 0), .null, .int 0, .null, .null]] := hD
  refine lv_aload_n hx hb dX1_init_9 rfl (lv_at hl 0 rfl) ?_
  refine lv_null hx hb dX1_init_10 ?_
  refine va_put (D := D) (ci := 1) (v := .null) (ty := .array .byte) (C := RX1) (T := TX1) (N := 5) hx hb hts in_X1 tyX1 tyX1_ok nmX1 hown hK hP hD hS 0 rfl rfl 1 (by decide) (hts _ q37) (fun _ h9 => h9) rfl (by decide +kernel) rfl rfl (Nat.le_of_ble_eq_true rfl) dX1_init_11 (fun H locs hP hD hS => ?_)
  have hP : va_P D vwCl [jO h0 1 [.int (nI 0), .null, .int 0, .null, .null]] H := hP
  have hD : va_D A [jO h0 1 [.int (nI 0), .null, .int 0, .null, .null]] := hD
  refine lv_aload_n hx hb dX1_init_14 rfl (lv_at hl 0 rfl) ?_
  refine lv_iconst (v := nI 0) hx hb dX1_init_15 (by decide) ?_
  refine va_put (D := D) (ci := 1) (v := .int (nI 0)) (ty := .byte) (C := RX1) (T := TX1) (N := 5) hx hb hts in_X1 tyX1 tyX1_ok nmX1 hown hK hP hD hS 0 rfl rfl 2 (by decide) (hts _ q38) (fun _ h9 => h9) rfl (by decide +kernel) rfl rfl (Nat.le_of_ble_eq_true rfl) dX1_init_16 (fun H locs hP hD hS => ?_)
  have hP : va_P D vwCl [jO h0 1 [.int (nI 0), .null, .int (nI 0), .null, .null]] H := hP
  have hD : va_D A [jO h0 1 [.int (nI 0), .null, .int (nI 0), .null, .null]] := hD
  exact jvret (()) hx hb hr hlk trivial hP hD hS (Nat.le_of_ble_eq_true rfl) (Nat.le_of_ble_eq_true rfl) dX1_init_19
end
section
set_option maxHeartbeats 4000000 in
set_option maxRecDepth 100000 in
theorem loopX1_fill {p : Program} {l : Launch} {e : Env} {R : Room} {s : State} {m : MethodId} {args : Array Value} {below : List Frame} {meth : Method} {c : Code} {Q : State → Prop} {cells slots : Nat} {D : va_G} {B : ClassId × ClassId} {A : Nat → Prop} {h0 k0 v0 a0 : Nat} {K L : Nat → Int32} {x0 x3 x4 : Value} (hx : p.tables.exec = Jvm.exec) (hb : c.code = cX1_initKey) (hml : c.maxLocals = 5) (hown : s.vm.findClass "VMPCEngine" = some m.cls) (hts : ∀ w ∈ lw_all, w.before args s = true) (hK : va_K D vwCl (TY B) s) (hA : ∀ q : Nat, s.heap.size ≤ q → A q) {x2 : Value}
    (kk : ∀ (H : Heap) (locs : List Loc) (ls : Array Slot), va_P D vwCl [jO h0 1 [x0, .ref a0, x2, x3, x4], jA k0 B.1 16 K, jA v0 B.1 16 L, jA a0 B.1 256 (bP (id0 256))] H → va_D A [jO h0 1 [x0, .ref a0, x2, x3, x4], jA k0 B.1 16 K, jA v0 B.1 16 L, jA a0 B.1 256 (bP (id0 256))] → va_S A s.heap H locs → lv_has ls 5 [(0, .ref h0), (1, .ref k0), (2, .ref v0), (3, .int (nI 256))] → W p l e R s m args below meth c H locs cells slots Q (F0 m 37 ls [])) :
    ∀ (n i : Nat), i + n = 256 → ∀ (H : Heap) (locs : List Loc) (ls : Array Slot), va_P D vwCl [jO h0 1 [x0, .ref a0, x2, x3, x4], jA k0 B.1 16 K, jA v0 B.1 16 L, jA a0 B.1 256 (bP (id0 i))] H → va_D A [jO h0 1 [x0, .ref a0, x2, x3, x4], jA k0 B.1 16 K, jA v0 B.1 16 L, jA a0 B.1 256 (bP (id0 i))] → va_S A s.heap H locs → lv_has ls 5 [(0, .ref h0), (1, .ref k0), (2, .ref v0), (3, .int (nI i))] → W p l e R s m args below meth c H locs cells slots Q (F0 m 16 ls []) := by
  intro n
  induction n with
  | zero =>
    intro i hi H locs ls hP hD hS hl
    have hi : i = 256 := by omega
    subst hi
    refine lv_iload_n hx hb dX1_initKey_16 rfl (lv_at hl 3 rfl) ?_
    refine lv_sipush (v := nI 256) hx hb dX1_initKey_17 (by decide) ?_
    refine lv_icmp_ge (tgt := 37) hx hb dX1_initKey_20 (by decide) (fun c_20 => ?_) (fun c_20 => ?_)
    · exact kk H locs ls hP hD hS hl
    · exact absurd (nI_le (Nat.le_refl _) (by decide)) c_20
  | succ n ih =>
    intro i hi H locs ls hP hD hS hl
    refine lv_iload_n hx hb dX1_initKey_16 rfl (lv_at hl 3 rfl) ?_
    refine lv_sipush (v := nI 256) hx hb dX1_initKey_17 (by decide) ?_
    refine lv_icmp_ge (tgt := 37) hx hb dX1_initKey_20 (by decide) (fun c_20 => ?_) (fun c_20 => ?_)
    · exact absurd ((nI_leI (by decide) (by omega)).mp c_20) (by omega)
    · refine lv_aload_n hx hb dX1_initKey_23 rfl (lv_at hl 0 rfl) ?_
      refine va_get (D := D) (ci := 1) (v := .ref a0) (C := RX1) (T := TX1) (N := 5) hx hb hts in_X1 hown hK hP 0 rfl rfl 1 (by decide) (hts _ q37) (fun _ h9 => h9) rfl dX1_initKey_24 ?_
      refine lv_iload_n hx hb dX1_initKey_27 rfl (lv_at hl 3 rfl) ?_
      refine lv_iload_n hx hb dX1_initKey_28 rfl (lv_at hl 3 rfl) ?_
      refine lv_i2b (v := (nI i).toInt8.toInt32) hx hb dX1_initKey_29 rfl ?_
      refine jbast hx hb hK hP hD hS 3 rfl i (by omega) (by decide) (bP (id0 (i + 1))) (by rw [vb_idem]; exact (bP_upd _ _ _).trans (congrArg bP (id0_S i))) dX1_initKey_30 (fun H locs hP hD hS => ?_)
      have hP : va_P D vwCl [jO h0 1 [x0, .ref a0, x2, x3, x4], jA k0 B.1 16 K, jA v0 B.1 16 L, jA a0 B.1 256 (bP (id0 (i + 1)))] H := hP
      have hD : va_D A [jO h0 1 [x0, .ref a0, x2, x3, x4], jA k0 B.1 16 K, jA v0 B.1 16 L, jA a0 B.1 256 (bP (id0 (i + 1)))] := hD
      refine lv_iinc (v := nI (i + 1)) (lv' := [(3, .int (nI (i + 1))), (0, .ref h0), (1, .ref k0), (2, .ref v0)]) hx hb dX1_initKey_31 hl (k := 3) rfl (jinc i) (by decide) rfl (fun ls hl => ?_)
      refine lv_goto (tgt := 16) hx hb dX1_initKey_34 (by decide) ?_
      exact ih (i + 1) (by omega) H locs ls hP hD hS (lv_sub hl [1, 2, 3, 0] rfl)
set_option maxHeartbeats 4000000 in
set_option maxRecDepth 100000 in
theorem loopX1_key {p : Program} {l : Launch} {e : Env} {R : Room} {s : State} {m : MethodId} {args : Array Value} {below : List Frame} {meth : Method} {c : Code} {Q : State → Prop} {cells slots : Nat} {D : va_G} {B : ClassId × ClassId} {A : Nat → Prop} {h0 k0 v0 a0 : Nat} {K L : Nat → Int32} {x0 x3 x4 : Value} (hx : p.tables.exec = Jvm.exec) (hb : c.code = cX1_initKey) (hml : c.maxLocals = 5) (hown : s.vm.findClass "VMPCEngine" = some m.cls) (hts : ∀ w ∈ lw_all, w.before args s = true) (hK : va_K D vwCl (TY B) s) (hA : ∀ q : Nat, s.heap.size ≤ q → A q) {q0 : (Nat → Nat) × Nat}
    (kk : ∀ (H : Heap) (locs : List Loc) (ls : Array Slot), va_P D vwCl [jO h0 1 [x0, .ref a0, .int (bI (stN (fun j => lo8 (K j)) 768 q0).2), x3, x4], jA k0 B.1 16 K, jA v0 B.1 16 L, jA a0 B.1 256 (bP (stN (fun j => lo8 (K j)) 768 q0).1)] H → va_D A [jO h0 1 [x0, .ref a0, .int (bI (stN (fun j => lo8 (K j)) 768 q0).2), x3, x4], jA k0 B.1 16 K, jA v0 B.1 16 L, jA a0 B.1 256 (bP (stN (fun j => lo8 (K j)) 768 q0).1)] → va_S A s.heap H locs → lv_has ls 5 [(0, .ref h0), (1, .ref k0), (2, .ref v0), (3, .int (nI 768))] → W p l e R s m args below meth c H locs cells slots Q (F0 m 137 ls [])) :
    ∀ (n i : Nat) (q : (Nat → Nat) × Nat), i + n = 768 → q = stN (fun j => lo8 (K j)) i q0 → okP q.1 → q.2 < 256 → ∀ (H : Heap) (locs : List Loc) (ls : Array Slot), va_P D vwCl [jO h0 1 [x0, .ref a0, .int (bI q.2), x3, x4], jA k0 B.1 16 K, jA v0 B.1 16 L, jA a0 B.1 256 (bP q.1)] H → va_D A [jO h0 1 [x0, .ref a0, .int (bI q.2), x3, x4], jA k0 B.1 16 K, jA v0 B.1 16 L, jA a0 B.1 256 (bP q.1)] → va_S A s.heap H locs → lv_has ls 5 [(0, .ref h0), (1, .ref k0), (2, .ref v0), (3, .int (nI i))] → W p l e R s m args below meth c H locs cells slots Q (F0 m 39 ls []) := by
  intro n
  induction n with
  | zero =>
    intro i q hi hq hq1 hq2 H locs ls hP hD hS hl
    have hi : i = 768 := by omega
    subst hi
    subst hq
    refine lv_iload_n hx hb dX1_initKey_39 rfl (lv_at hl 3 rfl) ?_
    refine lv_sipush (v := nI 768) hx hb dX1_initKey_40 (by decide) ?_
    refine lv_icmp_ge (tgt := 137) hx hb dX1_initKey_43 (by decide) (fun c_43 => ?_) (fun c_43 => ?_)
    · exact kk H locs ls hP hD hS hl
    · exact absurd (nI_le (Nat.le_refl _) (by decide)) c_43
  | succ n ih =>
    intro i q hi hq hq1 hq2 H locs ls hP hD hS hl
    refine lv_iload_n hx hb dX1_initKey_39 rfl (lv_at hl 3 rfl) ?_
    refine lv_sipush (v := nI 768) hx hb dX1_initKey_40 (by decide) ?_
    refine lv_icmp_ge (tgt := 137) hx hb dX1_initKey_43 (by decide) (fun c_43 => ?_) (fun c_43 => ?_)
    · exact absurd ((nI_leI (by decide) (by omega)).mp c_43) (by omega)
    · refine lv_aload_n hx hb dX1_initKey_46 rfl (lv_at hl 0 rfl) ?_
      refine lv_aload_n hx hb dX1_initKey_47 rfl (lv_at hl 0 rfl) ?_
      refine va_get (D := D) (ci := 1) (v := .ref a0) (C := RX1) (T := TX1) (N := 5) hx hb hts in_X1 hown hK hP 0 rfl rfl 1 (by decide) (hts _ q37) (fun _ h9 => h9) rfl dX1_initKey_48 ?_
      refine lv_aload_n hx hb dX1_initKey_51 rfl (lv_at hl 0 rfl) ?_
      refine va_get (D := D) (ci := 1) (v := .int (bI q.2)) (C := RX1) (T := TX1) (N := 5) hx hb hts in_X1 hown hK hP 0 rfl rfl 2 (by decide) (hts _ q38) (fun _ h9 => h9) rfl dX1_initKey_52 ?_
      refine lv_aload_n hx hb dX1_initKey_55 rfl (lv_at hl 0 rfl) ?_
      refine va_get (D := D) (ci := 1) (v := .ref a0) (C := RX1) (T := TX1) (N := 5) hx hb hts in_X1 hown hK hP 0 rfl rfl 1 (by decide) (hts _ q37) (fun _ h9 => h9) rfl dX1_initKey_56 ?_
      refine lv_iload_n hx hb dX1_initKey_59 rfl (lv_at hl 3 rfl) ?_
      refine lv_sipush (v := nI 255) hx hb dX1_initKey_60 (by decide) ?_
      refine lv_iand hx hb dX1_initKey_63 ?_
      refine jas (y := nI (i % 256)) (mm255 (by omega)) ?_
      refine jbald hx hb hK hP 3 rfl (i % 256) (Nat.mod_lt _ (by decide)) (by decide) dX1_initKey_64 ?_
      refine jas (y := bI (q.1 (i % 256))) rfl ?_
      refine lv_iadd hx hb dX1_initKey_65 ?_
      refine lv_aload_n hx hb dX1_initKey_66 rfl (lv_at hl 1 rfl) ?_
      refine lv_iload_n hx hb dX1_initKey_67 rfl (lv_at hl 3 rfl) ?_
      refine lv_aload_n hx hb dX1_initKey_68 rfl (lv_at hl 1 rfl) ?_
      refine va_alen (v := nI 16) hx hb hK hP 1 0 rfl rfl rfl dX1_initKey_69 ?_
      refine lv_irem hx hb dX1_initKey_70 (by decide) ?_
      refine jas (y := nI (i % 16)) (rem_nI (by omega) (by decide) (by decide)) ?_
      refine jbald hx hb hK hP 1 rfl (i % 16) (Nat.mod_lt _ (by decide)) (by decide) dX1_initKey_71 ?_
      refine lv_iadd hx hb dX1_initKey_72 ?_
      refine lv_sipush (v := nI 255) hx hb dX1_initKey_73 (by decide) ?_
      refine lv_iand hx hb dX1_initKey_76 ?_
      refine jas (y := nI ((q.2 + q.1 (i % 256) + lo8 (K (i % 16))) % 256)) (ix3 hq2 (hq1 _) _) ?_
      refine jbald hx hb hK hP 3 rfl ((q.2 + q.1 (i % 256) + lo8 (K (i % 16))) % 256) (Nat.mod_lt _ (by decide)) (by decide) dX1_initKey_77 ?_
      refine jas (y := bI (q.1 ((q.2 + q.1 (i % 256) + lo8 (K (i % 16))) % 256))) rfl ?_
      refine va_put (D := D) (ci := 1) (v := .int (bI (q.1 ((q.2 + q.1 (i % 256) + lo8 (K (i % 16))) % 256)))) (ty := .byte) (C := RX1) (T := TX1) (N := 5) hx hb hts in_X1 tyX1 tyX1_ok nmX1 hown hK hP hD hS 0 rfl rfl 2 (by decide) (hts _ q38) (fun _ h9 => h9) rfl (by decide +kernel) (nb_bI _) (fb_bI _) (Nat.le_of_ble_eq_true rfl) dX1_initKey_78 (fun H locs hP hD hS => ?_)
      have hP : va_P D vwCl [jO h0 1 [x0, .ref a0, .int (bI (q.1 ((q.2 + q.1 (i % 256) + lo8 (K (i % 16))) % 256))), x3, x4], jA k0 B.1 16 K, jA v0 B.1 16 L, jA a0 B.1 256 (bP q.1)] H := hP
      have hD : va_D A [jO h0 1 [x0, .ref a0, .int (bI (q.1 ((q.2 + q.1 (i % 256) + lo8 (K (i % 16))) % 256))), x3, x4], jA k0 B.1 16 K, jA v0 B.1 16 L, jA a0 B.1 256 (bP q.1)] := hD
      refine lv_aload_n hx hb dX1_initKey_81 rfl (lv_at hl 0 rfl) ?_
      refine va_get (D := D) (ci := 1) (v := .ref a0) (C := RX1) (T := TX1) (N := 5) hx hb hts in_X1 hown hK hP 0 rfl rfl 1 (by decide) (hts _ q37) (fun _ h9 => h9) rfl dX1_initKey_82 ?_
      refine lv_iload_n hx hb dX1_initKey_85 rfl (lv_at hl 3 rfl) ?_
      refine lv_sipush (v := nI 255) hx hb dX1_initKey_86 (by decide) ?_
      refine lv_iand hx hb dX1_initKey_89 ?_
      refine jas (y := nI (i % 256)) (mm255 (by omega)) ?_
      refine jbald hx hb hK hP 3 rfl (i % 256) (Nat.mod_lt _ (by decide)) (by decide) dX1_initKey_90 ?_
      refine jas (y := bI (q.1 (i % 256))) rfl ?_
      refine lv_istore (lv' := [(4, .int (bI (q.1 (i % 256)))), (0, .ref h0), (1, .ref k0), (2, .ref v0), (3, .int (nI i))]) hx hb dX1_initKey_91 hl (by decide) rfl (fun ls hl => ?_)
      refine lv_aload_n hx hb dX1_initKey_93 rfl (lv_at hl 1 rfl) ?_
      refine va_get (D := D) (ci := 1) (v := .ref a0) (C := RX1) (T := TX1) (N := 5) hx hb hts in_X1 hown hK hP 0 rfl rfl 1 (by decide) (hts _ q37) (fun _ h9 => h9) rfl dX1_initKey_94 ?_
      refine lv_iload_n hx hb dX1_initKey_97 rfl (lv_at hl 4 rfl) ?_
      refine lv_sipush (v := nI 255) hx hb dX1_initKey_98 (by decide) ?_
      refine lv_iand hx hb dX1_initKey_101 ?_
      refine jas (y := nI (i % 256)) (mm255 (by omega)) ?_
      refine lv_aload_n hx hb dX1_initKey_102 rfl (lv_at hl 1 rfl) ?_
      refine va_get (D := D) (ci := 1) (v := .ref a0) (C := RX1) (T := TX1) (N := 5) hx hb hts in_X1 hown hK hP 0 rfl rfl 1 (by decide) (hts _ q37) (fun _ h9 => h9) rfl dX1_initKey_103 ?_
      refine lv_aload_n hx hb dX1_initKey_106 rfl (lv_at hl 1 rfl) ?_
      refine va_get (D := D) (ci := 1) (v := .int (bI (q.1 ((q.2 + q.1 (i % 256) + lo8 (K (i % 16))) % 256)))) (C := RX1) (T := TX1) (N := 5) hx hb hts in_X1 hown hK hP 0 rfl rfl 2 (by decide) (hts _ q38) (fun _ h9 => h9) rfl dX1_initKey_107 ?_
      refine lv_sipush (v := nI 255) hx hb dX1_initKey_110 (by decide) ?_
      refine lv_iand hx hb dX1_initKey_113 ?_
      refine jas (y := nI (q.1 ((q.2 + q.1 (i % 256) + lo8 (K (i % 16))) % 256))) (bI_and (hq1 _)) ?_
      refine jbald hx hb hK hP 3 rfl (q.1 ((q.2 + q.1 (i % 256) + lo8 (K (i % 16))) % 256)) (hq1 _) (by decide) dX1_initKey_114 ?_
      refine jas (y := bI (q.1 (q.1 ((q.2 + q.1 (i % 256) + lo8 (K (i % 16))) % 256)))) rfl ?_
      refine jbast hx hb hK hP hD hS 3 rfl (i % 256) (Nat.mod_lt _ (by decide)) (by decide) (bP (updN q.1 (i % 256) (q.1 (q.1 ((q.2 + q.1 (i % 256) + lo8 (K (i % 16))) % 256))))) (by rw [bI_vb, bP_upd]) dX1_initKey_115 (fun H locs hP hD hS => ?_)
      have hP : va_P D vwCl [jO h0 1 [x0, .ref a0, .int (bI (q.1 ((q.2 + q.1 (i % 256) + lo8 (K (i % 16))) % 256))), x3, x4], jA k0 B.1 16 K, jA v0 B.1 16 L, jA a0 B.1 256 (bP (updN q.1 (i % 256) (q.1 (q.1 ((q.2 + q.1 (i % 256) + lo8 (K (i % 16))) % 256)))))] H := hP
      have hD : va_D A [jO h0 1 [x0, .ref a0, .int (bI (q.1 ((q.2 + q.1 (i % 256) + lo8 (K (i % 16))) % 256))), x3, x4], jA k0 B.1 16 K, jA v0 B.1 16 L, jA a0 B.1 256 (bP (updN q.1 (i % 256) (q.1 (q.1 ((q.2 + q.1 (i % 256) + lo8 (K (i % 16))) % 256)))))] := hD
      refine lv_aload_n hx hb dX1_initKey_116 rfl (lv_at hl 1 rfl) ?_
      refine va_get (D := D) (ci := 1) (v := .ref a0) (C := RX1) (T := TX1) (N := 5) hx hb hts in_X1 hown hK hP 0 rfl rfl 1 (by decide) (hts _ q37) (fun _ h9 => h9) rfl dX1_initKey_117 ?_
      refine lv_aload_n hx hb dX1_initKey_120 rfl (lv_at hl 1 rfl) ?_
      refine va_get (D := D) (ci := 1) (v := .int (bI (q.1 ((q.2 + q.1 (i % 256) + lo8 (K (i % 16))) % 256)))) (C := RX1) (T := TX1) (N := 5) hx hb hts in_X1 hown hK hP 0 rfl rfl 2 (by decide) (hts _ q38) (fun _ h9 => h9) rfl dX1_initKey_121 ?_
      refine lv_sipush (v := nI 255) hx hb dX1_initKey_124 (by decide) ?_
      refine lv_iand hx hb dX1_initKey_127 ?_
      refine jas (y := nI (q.1 ((q.2 + q.1 (i % 256) + lo8 (K (i % 16))) % 256))) (bI_and (hq1 _)) ?_
      refine lv_iload hx hb dX1_initKey_128 (lv_at hl 0 rfl) ?_
      refine jbast hx hb hK hP hD hS 3 rfl (q.1 ((q.2 + q.1 (i % 256) + lo8 (K (i % 16))) % 256)) (hq1 _) (by decide) (bP (swp q.1 (i % 256) (q.1 ((q.2 + q.1 (i % 256) + lo8 (K (i % 16))) % 256)))) (by rw [bI_vb, bP_upd]; rfl) dX1_initKey_130 (fun H locs hP hD hS => ?_)
      have hP : va_P D vwCl [jO h0 1 [x0, .ref a0, .int (bI (q.1 ((q.2 + q.1 (i % 256) + lo8 (K (i % 16))) % 256))), x3, x4], jA k0 B.1 16 K, jA v0 B.1 16 L, jA a0 B.1 256 (bP (swp q.1 (i % 256) (q.1 ((q.2 + q.1 (i % 256) + lo8 (K (i % 16))) % 256))))] H := hP
      have hD : va_D A [jO h0 1 [x0, .ref a0, .int (bI (q.1 ((q.2 + q.1 (i % 256) + lo8 (K (i % 16))) % 256))), x3, x4], jA k0 B.1 16 K, jA v0 B.1 16 L, jA a0 B.1 256 (bP (swp q.1 (i % 256) (q.1 ((q.2 + q.1 (i % 256) + lo8 (K (i % 16))) % 256))))] := hD
      refine lv_iinc (v := nI (i + 1)) (lv' := [(3, .int (nI (i + 1))), (4, .int (bI (q.1 (i % 256)))), (0, .ref h0), (1, .ref k0), (2, .ref v0)]) hx hb dX1_initKey_131 hl (k := 4) rfl (jinc i) (by decide) rfl (fun ls hl => ?_)
      refine lv_goto (tgt := 39) hx hb dX1_initKey_134 (by decide) ?_
      exact ih (i + 1) (st1 (fun j => lo8 (K j)) i q) (by omega) (by rw [hq]; rfl) (ok_st1 hq1).1 (ok_st1 hq1).2 H locs ls hP hD hS (lv_sub hl [2, 3, 4, 0] rfl)
set_option maxHeartbeats 4000000 in
set_option maxRecDepth 100000 in
theorem loopX1_iv {p : Program} {l : Launch} {e : Env} {R : Room} {s : State} {m : MethodId} {args : Array Value} {below : List Frame} {meth : Method} {c : Code} {Q : State → Prop} {cells slots : Nat} {D : va_G} {B : ClassId × ClassId} {A : Nat → Prop} {h0 k0 v0 a0 : Nat} {K L : Nat → Int32} {x0 x3 x4 : Value} (hx : p.tables.exec = Jvm.exec) (hb : c.code = cX1_initKey) (hml : c.maxLocals = 5) (hown : s.vm.findClass "VMPCEngine" = some m.cls) (hts : ∀ w ∈ lw_all, w.before args s = true) (hK : va_K D vwCl (TY B) s) (hA : ∀ q : Nat, s.heap.size ≤ q → A q) {q0 : (Nat → Nat) × Nat}
    (kk : ∀ (H : Heap) (locs : List Loc) (ls : Array Slot), va_P D vwCl [jO h0 1 [x0, .ref a0, .int (bI (stN (fun j => lo8 (L j)) 768 q0).2), x3, x4], jA k0 B.1 16 K, jA v0 B.1 16 L, jA a0 B.1 256 (bP (stN (fun j => lo8 (L j)) 768 q0).1)] H → va_D A [jO h0 1 [x0, .ref a0, .int (bI (stN (fun j => lo8 (L j)) 768 q0).2), x3, x4], jA k0 B.1 16 K, jA v0 B.1 16 L, jA a0 B.1 256 (bP (stN (fun j => lo8 (L j)) 768 q0).1)] → va_S A s.heap H locs → lv_has ls 5 [(0, .ref h0), (1, .ref k0), (2, .ref v0), (3, .int (nI 768))] → W p l e R s m args below meth c H locs cells slots Q (F0 m 237 ls [])) :
    ∀ (n i : Nat) (q : (Nat → Nat) × Nat), i + n = 768 → q = stN (fun j => lo8 (L j)) i q0 → okP q.1 → q.2 < 256 → ∀ (H : Heap) (locs : List Loc) (ls : Array Slot), va_P D vwCl [jO h0 1 [x0, .ref a0, .int (bI q.2), x3, x4], jA k0 B.1 16 K, jA v0 B.1 16 L, jA a0 B.1 256 (bP q.1)] H → va_D A [jO h0 1 [x0, .ref a0, .int (bI q.2), x3, x4], jA k0 B.1 16 K, jA v0 B.1 16 L, jA a0 B.1 256 (bP q.1)] → va_S A s.heap H locs → lv_has ls 5 [(0, .ref h0), (1, .ref k0), (2, .ref v0), (3, .int (nI i))] → W p l e R s m args below meth c H locs cells slots Q (F0 m 139 ls []) := by
  intro n
  induction n with
  | zero =>
    intro i q hi hq hq1 hq2 H locs ls hP hD hS hl
    have hi : i = 768 := by omega
    subst hi
    subst hq
    refine lv_iload_n hx hb dX1_initKey_139 rfl (lv_at hl 3 rfl) ?_
    refine lv_sipush (v := nI 768) hx hb dX1_initKey_140 (by decide) ?_
    refine lv_icmp_ge (tgt := 237) hx hb dX1_initKey_143 (by decide) (fun c_143 => ?_) (fun c_143 => ?_)
    · exact kk H locs ls hP hD hS hl
    · exact absurd (nI_le (Nat.le_refl _) (by decide)) c_143
  | succ n ih =>
    intro i q hi hq hq1 hq2 H locs ls hP hD hS hl
    refine lv_iload_n hx hb dX1_initKey_139 rfl (lv_at hl 3 rfl) ?_
    refine lv_sipush (v := nI 768) hx hb dX1_initKey_140 (by decide) ?_
    refine lv_icmp_ge (tgt := 237) hx hb dX1_initKey_143 (by decide) (fun c_143 => ?_) (fun c_143 => ?_)
    · exact absurd ((nI_leI (by decide) (by omega)).mp c_143) (by omega)
    · refine lv_aload_n hx hb dX1_initKey_146 rfl (lv_at hl 0 rfl) ?_
      refine lv_aload_n hx hb dX1_initKey_147 rfl (lv_at hl 0 rfl) ?_
      refine va_get (D := D) (ci := 1) (v := .ref a0) (C := RX1) (T := TX1) (N := 5) hx hb hts in_X1 hown hK hP 0 rfl rfl 1 (by decide) (hts _ q37) (fun _ h9 => h9) rfl dX1_initKey_148 ?_
      refine lv_aload_n hx hb dX1_initKey_151 rfl (lv_at hl 0 rfl) ?_
      refine va_get (D := D) (ci := 1) (v := .int (bI q.2)) (C := RX1) (T := TX1) (N := 5) hx hb hts in_X1 hown hK hP 0 rfl rfl 2 (by decide) (hts _ q38) (fun _ h9 => h9) rfl dX1_initKey_152 ?_
      refine lv_aload_n hx hb dX1_initKey_155 rfl (lv_at hl 0 rfl) ?_
      refine va_get (D := D) (ci := 1) (v := .ref a0) (C := RX1) (T := TX1) (N := 5) hx hb hts in_X1 hown hK hP 0 rfl rfl 1 (by decide) (hts _ q37) (fun _ h9 => h9) rfl dX1_initKey_156 ?_
      refine lv_iload_n hx hb dX1_initKey_159 rfl (lv_at hl 3 rfl) ?_
      refine lv_sipush (v := nI 255) hx hb dX1_initKey_160 (by decide) ?_
      refine lv_iand hx hb dX1_initKey_163 ?_
      refine jas (y := nI (i % 256)) (mm255 (by omega)) ?_
      refine jbald hx hb hK hP 3 rfl (i % 256) (Nat.mod_lt _ (by decide)) (by decide) dX1_initKey_164 ?_
      refine jas (y := bI (q.1 (i % 256))) rfl ?_
      refine lv_iadd hx hb dX1_initKey_165 ?_
      refine lv_aload_n hx hb dX1_initKey_166 rfl (lv_at hl 2 rfl) ?_
      refine lv_iload_n hx hb dX1_initKey_167 rfl (lv_at hl 3 rfl) ?_
      refine lv_aload_n hx hb dX1_initKey_168 rfl (lv_at hl 2 rfl) ?_
      refine va_alen (v := nI 16) hx hb hK hP 2 0 rfl rfl rfl dX1_initKey_169 ?_
      refine lv_irem hx hb dX1_initKey_170 (by decide) ?_
      refine jas (y := nI (i % 16)) (rem_nI (by omega) (by decide) (by decide)) ?_
      refine jbald hx hb hK hP 2 rfl (i % 16) (Nat.mod_lt _ (by decide)) (by decide) dX1_initKey_171 ?_
      refine lv_iadd hx hb dX1_initKey_172 ?_
      refine lv_sipush (v := nI 255) hx hb dX1_initKey_173 (by decide) ?_
      refine lv_iand hx hb dX1_initKey_176 ?_
      refine jas (y := nI ((q.2 + q.1 (i % 256) + lo8 (L (i % 16))) % 256)) (ix3 hq2 (hq1 _) _) ?_
      refine jbald hx hb hK hP 3 rfl ((q.2 + q.1 (i % 256) + lo8 (L (i % 16))) % 256) (Nat.mod_lt _ (by decide)) (by decide) dX1_initKey_177 ?_
      refine jas (y := bI (q.1 ((q.2 + q.1 (i % 256) + lo8 (L (i % 16))) % 256))) rfl ?_
      refine va_put (D := D) (ci := 1) (v := .int (bI (q.1 ((q.2 + q.1 (i % 256) + lo8 (L (i % 16))) % 256)))) (ty := .byte) (C := RX1) (T := TX1) (N := 5) hx hb hts in_X1 tyX1 tyX1_ok nmX1 hown hK hP hD hS 0 rfl rfl 2 (by decide) (hts _ q38) (fun _ h9 => h9) rfl (by decide +kernel) (nb_bI _) (fb_bI _) (Nat.le_of_ble_eq_true rfl) dX1_initKey_178 (fun H locs hP hD hS => ?_)
      have hP : va_P D vwCl [jO h0 1 [x0, .ref a0, .int (bI (q.1 ((q.2 + q.1 (i % 256) + lo8 (L (i % 16))) % 256))), x3, x4], jA k0 B.1 16 K, jA v0 B.1 16 L, jA a0 B.1 256 (bP q.1)] H := hP
      have hD : va_D A [jO h0 1 [x0, .ref a0, .int (bI (q.1 ((q.2 + q.1 (i % 256) + lo8 (L (i % 16))) % 256))), x3, x4], jA k0 B.1 16 K, jA v0 B.1 16 L, jA a0 B.1 256 (bP q.1)] := hD
      refine lv_aload_n hx hb dX1_initKey_181 rfl (lv_at hl 0 rfl) ?_
      refine va_get (D := D) (ci := 1) (v := .ref a0) (C := RX1) (T := TX1) (N := 5) hx hb hts in_X1 hown hK hP 0 rfl rfl 1 (by decide) (hts _ q37) (fun _ h9 => h9) rfl dX1_initKey_182 ?_
      refine lv_iload_n hx hb dX1_initKey_185 rfl (lv_at hl 3 rfl) ?_
      refine lv_sipush (v := nI 255) hx hb dX1_initKey_186 (by decide) ?_
      refine lv_iand hx hb dX1_initKey_189 ?_
      refine jas (y := nI (i % 256)) (mm255 (by omega)) ?_
      refine jbald hx hb hK hP 3 rfl (i % 256) (Nat.mod_lt _ (by decide)) (by decide) dX1_initKey_190 ?_
      refine jas (y := bI (q.1 (i % 256))) rfl ?_
      refine lv_istore (lv' := [(4, .int (bI (q.1 (i % 256)))), (0, .ref h0), (1, .ref k0), (2, .ref v0), (3, .int (nI i))]) hx hb dX1_initKey_191 hl (by decide) rfl (fun ls hl => ?_)
      refine lv_aload_n hx hb dX1_initKey_193 rfl (lv_at hl 1 rfl) ?_
      refine va_get (D := D) (ci := 1) (v := .ref a0) (C := RX1) (T := TX1) (N := 5) hx hb hts in_X1 hown hK hP 0 rfl rfl 1 (by decide) (hts _ q37) (fun _ h9 => h9) rfl dX1_initKey_194 ?_
      refine lv_iload_n hx hb dX1_initKey_197 rfl (lv_at hl 4 rfl) ?_
      refine lv_sipush (v := nI 255) hx hb dX1_initKey_198 (by decide) ?_
      refine lv_iand hx hb dX1_initKey_201 ?_
      refine jas (y := nI (i % 256)) (mm255 (by omega)) ?_
      refine lv_aload_n hx hb dX1_initKey_202 rfl (lv_at hl 1 rfl) ?_
      refine va_get (D := D) (ci := 1) (v := .ref a0) (C := RX1) (T := TX1) (N := 5) hx hb hts in_X1 hown hK hP 0 rfl rfl 1 (by decide) (hts _ q37) (fun _ h9 => h9) rfl dX1_initKey_203 ?_
      refine lv_aload_n hx hb dX1_initKey_206 rfl (lv_at hl 1 rfl) ?_
      refine va_get (D := D) (ci := 1) (v := .int (bI (q.1 ((q.2 + q.1 (i % 256) + lo8 (L (i % 16))) % 256)))) (C := RX1) (T := TX1) (N := 5) hx hb hts in_X1 hown hK hP 0 rfl rfl 2 (by decide) (hts _ q38) (fun _ h9 => h9) rfl dX1_initKey_207 ?_
      refine lv_sipush (v := nI 255) hx hb dX1_initKey_210 (by decide) ?_
      refine lv_iand hx hb dX1_initKey_213 ?_
      refine jas (y := nI (q.1 ((q.2 + q.1 (i % 256) + lo8 (L (i % 16))) % 256))) (bI_and (hq1 _)) ?_
      refine jbald hx hb hK hP 3 rfl (q.1 ((q.2 + q.1 (i % 256) + lo8 (L (i % 16))) % 256)) (hq1 _) (by decide) dX1_initKey_214 ?_
      refine jas (y := bI (q.1 (q.1 ((q.2 + q.1 (i % 256) + lo8 (L (i % 16))) % 256)))) rfl ?_
      refine jbast hx hb hK hP hD hS 3 rfl (i % 256) (Nat.mod_lt _ (by decide)) (by decide) (bP (updN q.1 (i % 256) (q.1 (q.1 ((q.2 + q.1 (i % 256) + lo8 (L (i % 16))) % 256))))) (by rw [bI_vb, bP_upd]) dX1_initKey_215 (fun H locs hP hD hS => ?_)
      have hP : va_P D vwCl [jO h0 1 [x0, .ref a0, .int (bI (q.1 ((q.2 + q.1 (i % 256) + lo8 (L (i % 16))) % 256))), x3, x4], jA k0 B.1 16 K, jA v0 B.1 16 L, jA a0 B.1 256 (bP (updN q.1 (i % 256) (q.1 (q.1 ((q.2 + q.1 (i % 256) + lo8 (L (i % 16))) % 256)))))] H := hP
      have hD : va_D A [jO h0 1 [x0, .ref a0, .int (bI (q.1 ((q.2 + q.1 (i % 256) + lo8 (L (i % 16))) % 256))), x3, x4], jA k0 B.1 16 K, jA v0 B.1 16 L, jA a0 B.1 256 (bP (updN q.1 (i % 256) (q.1 (q.1 ((q.2 + q.1 (i % 256) + lo8 (L (i % 16))) % 256)))))] := hD
      refine lv_aload_n hx hb dX1_initKey_216 rfl (lv_at hl 1 rfl) ?_
      refine va_get (D := D) (ci := 1) (v := .ref a0) (C := RX1) (T := TX1) (N := 5) hx hb hts in_X1 hown hK hP 0 rfl rfl 1 (by decide) (hts _ q37) (fun _ h9 => h9) rfl dX1_initKey_217 ?_
      refine lv_aload_n hx hb dX1_initKey_220 rfl (lv_at hl 1 rfl) ?_
      refine va_get (D := D) (ci := 1) (v := .int (bI (q.1 ((q.2 + q.1 (i % 256) + lo8 (L (i % 16))) % 256)))) (C := RX1) (T := TX1) (N := 5) hx hb hts in_X1 hown hK hP 0 rfl rfl 2 (by decide) (hts _ q38) (fun _ h9 => h9) rfl dX1_initKey_221 ?_
      refine lv_sipush (v := nI 255) hx hb dX1_initKey_224 (by decide) ?_
      refine lv_iand hx hb dX1_initKey_227 ?_
      refine jas (y := nI (q.1 ((q.2 + q.1 (i % 256) + lo8 (L (i % 16))) % 256))) (bI_and (hq1 _)) ?_
      refine lv_iload hx hb dX1_initKey_228 (lv_at hl 0 rfl) ?_
      refine jbast hx hb hK hP hD hS 3 rfl (q.1 ((q.2 + q.1 (i % 256) + lo8 (L (i % 16))) % 256)) (hq1 _) (by decide) (bP (swp q.1 (i % 256) (q.1 ((q.2 + q.1 (i % 256) + lo8 (L (i % 16))) % 256)))) (by rw [bI_vb, bP_upd]; rfl) dX1_initKey_230 (fun H locs hP hD hS => ?_)
      have hP : va_P D vwCl [jO h0 1 [x0, .ref a0, .int (bI (q.1 ((q.2 + q.1 (i % 256) + lo8 (L (i % 16))) % 256))), x3, x4], jA k0 B.1 16 K, jA v0 B.1 16 L, jA a0 B.1 256 (bP (swp q.1 (i % 256) (q.1 ((q.2 + q.1 (i % 256) + lo8 (L (i % 16))) % 256))))] H := hP
      have hD : va_D A [jO h0 1 [x0, .ref a0, .int (bI (q.1 ((q.2 + q.1 (i % 256) + lo8 (L (i % 16))) % 256))), x3, x4], jA k0 B.1 16 K, jA v0 B.1 16 L, jA a0 B.1 256 (bP (swp q.1 (i % 256) (q.1 ((q.2 + q.1 (i % 256) + lo8 (L (i % 16))) % 256))))] := hD
      refine lv_iinc (v := nI (i + 1)) (lv' := [(3, .int (nI (i + 1))), (4, .int (bI (q.1 (i % 256)))), (0, .ref h0), (1, .ref k0), (2, .ref v0)]) hx hb dX1_initKey_231 hl (k := 4) rfl (jinc i) (by decide) rfl (fun ls hl => ?_)
      refine lv_goto (tgt := 139) hx hb dX1_initKey_234 (by decide) ?_
      exact ih (i + 1) (st1 (fun j => lo8 (L j)) i q) (by omega) (by rw [hq]; rfl) (ok_st1 hq1).1 (ok_st1 hq1).2 H locs ls hP hD hS (lv_sub hl [2, 3, 4, 0] rfl)
set_option maxHeartbeats 4000000 in
set_option maxRecDepth 100000 in
/-- initKey(key, iv): a new row, stirred three times by the key and three times by the iv -/
theorem metX1_initKey (l : Launch) (D : va_G) (B : ClassId × ClassId) (sz : Nat) (h0 k0 v0 : Nat) (K L : Nat → Int32) (x0 x1 x2 x3 x4 : Value) : jMv l yX1_initKey (ws_ yX1_initKey cX1_initKey 5 none) { frames := 0, cells := 1, slots := 256, locals := 0 } D B sz [.ref h0, .ref k0, .ref v0] [jO h0 1 [x0, x1, x2, x3, x4], jA k0 B.1 16 K, jA v0 B.1 16 L] (S := Nat) (fun _ => True) (fun u => [jO h0 1 [.int (bI 0), .ref u, .int (bI (setK (fun j => lo8 (K j)) (fun j => lo8 (L j))).2), x3, x4], jA k0 B.1 16 K, jA v0 B.1 16 L, jA u B.1 256 (bP (setK (fun j => lo8 (K j)) (fun j => lo8 (L j))).1)]) := by
  refine jStartV (by decide) (Nat.le_of_ble_eq_true rfl) ?_
  intro p e s m below meth c A H ls hx hb hr hlk hml hown hin hts hK hP hD hA hS hl
  have hown : s.vm.findClass "VMPCEngine" = some m.cls := hown
  have hl : lv_has ls 5 [(0, .ref h0), (1, .ref k0), (2, .ref v0)] := hl
  refine lv_aload_n hx hb dX1_initKey_0 rfl (lv_at hl 0 rfl) ?_
  refine lv_iconst (v := bI 0) hx hb dX1_initKey_1 (by decide) ?_
  refine va_put (D := D) (ci := 1) (v := .int (bI 0)) (ty := .byte) (C := RX1) (T := TX1) (N := 5) hx hb hts in_X1 tyX1 tyX1_ok nmX1 hown hK hP hD hS 0 rfl rfl 2 (by decide) (hts _ q38) (fun _ h9 => h9) rfl (by decide +kernel) (nb_bI _) (fb_bI _) (Nat.le_of_ble_eq_true rfl) dX1_initKey_2 (fun H locs hP hD hS => ?_)
  have hP : va_P D vwCl [jO h0 1 [x0, x1, .int (bI 0), x3, x4], jA k0 B.1 16 K, jA v0 B.1 16 L] H := hP
  have hD : va_D A [jO h0 1 [x0, x1, .int (bI 0), x3, x4], jA k0 B.1 16 K, jA v0 B.1 16 L] := hD
  refine lv_aload_n hx hb dX1_initKey_5 rfl (lv_at hl 0 rfl) ?_
  refine lv_sipush (v := nI 256) hx hb dX1_initKey_6 (by decide) ?_
  refine jnewb hx hb (hts _ q77) hK hP hD hS hA 256 (by decide) (Nat.le_of_ble_eq_true rfl) (Nat.le_of_ble_eq_true rfl) dX1_initKey_9 (fun a_9 H hP hD hS => ?_)
  have hP : va_P D vwCl [jO h0 1 [x0, x1, .int (bI 0), x3, x4], jA k0 B.1 16 K, jA v0 B.1 16 L, jA a_9 B.1 256 (fun _ => 0)] H := hP
  have hD : va_D A [jO h0 1 [x0, x1, .int (bI 0), x3, x4], jA k0 B.1 16 K, jA v0 B.1 16 L, jA a_9 B.1 256 (fun _ => 0)] := hD
  rw [bP_0] at hP hD
  have hP : va_P D vwCl [jO h0 1 [x0, x1, .int (bI 0), x3, x4], jA k0 B.1 16 K, jA v0 B.1 16 L, jA a_9 B.1 256 (bP (id0 0))] H := hP
  have hD : va_D A [jO h0 1 [x0, x1, .int (bI 0), x3, x4], jA k0 B.1 16 K, jA v0 B.1 16 L, jA a_9 B.1 256 (bP (id0 0))] := hD
  refine va_put (D := D) (ci := 1) (v := .ref a_9) (ty := .array .byte) (C := RX1) (T := TX1) (N := 5) hx hb hts in_X1 tyX1 tyX1_ok nmX1 hown hK hP hD hS 0 rfl rfl 1 (by decide) (hts _ q37) (fun _ h9 => h9) rfl (by decide +kernel) rfl rfl (Nat.le_of_ble_eq_true rfl) dX1_initKey_11 (fun H locs hP hD hS => ?_)
  have hP : va_P D vwCl [jO h0 1 [x0, .ref a_9, .int (bI 0), x3, x4], jA k0 B.1 16 K, jA v0 B.1 16 L, jA a_9 B.1 256 (bP (id0 0))] H := hP
  have hD : va_D A [jO h0 1 [x0, .ref a_9, .int (bI 0), x3, x4], jA k0 B.1 16 K, jA v0 B.1 16 L, jA a_9 B.1 256 (bP (id0 0))] := hD
  refine lv_iconst (v := nI 0) hx hb dX1_initKey_14 (by decide) ?_
  refine lv_istore_n (lv' := [(3, .int (nI 0)), (0, .ref h0), (1, .ref k0), (2, .ref v0)]) hx hb dX1_initKey_15 rfl hl (by decide) rfl (fun ls hl => ?_)
  refine loopX1_fill hx hb hml hown hts hK hA (fun H locs ls hP hD hS hl => ?_) 256 0 rfl H _ ls hP hD hS (lv_sub hl [1, 2, 3, 0] rfl)
  refine lv_iconst (v := nI 0) hx hb dX1_initKey_37 (by decide) ?_
  refine lv_istore_n (lv' := [(3, .int (nI 0)), (0, .ref h0), (1, .ref k0), (2, .ref v0)]) hx hb dX1_initKey_38 rfl hl (by decide) rfl (fun ls hl => ?_)
  refine loopX1_key (q0 := (id0 256, 0)) hx hb hml hown hts hK hA (fun H locs ls hP hD hS hl => ?_) 768 0 (id0 256, 0) rfl rfl (okP_id0 (Nat.le_refl _)) (by decide) H _ ls hP hD hS (lv_sub hl [1, 2, 3, 0] rfl)
  refine lv_iconst (v := nI 0) hx hb dX1_initKey_137 (by decide) ?_
  refine lv_istore_n (lv' := [(3, .int (nI 0)), (0, .ref h0), (1, .ref k0), (2, .ref v0)]) hx hb dX1_initKey_138 rfl hl (by decide) rfl (fun ls hl => ?_)
  have hok := ok_stN (k := (fun j => lo8 (K j))) (q := (id0 256, 0)) (okP_id0 (Nat.le_refl _)) (by decide) 768
  refine loopX1_iv (q0 := (stN (fun j => lo8 (K j)) 768 (id0 256, 0))) hx hb hml hown hts hK hA (fun H locs ls hP hD hS hl => ?_) 768 0 (stN (fun j => lo8 (K j)) 768 (id0 256, 0)) rfl rfl hok.1 hok.2 H _ ls hP hD hS (lv_sub hl [1, 2, 3, 0] rfl)
  refine lv_aload_n hx hb dX1_initKey_237 rfl (lv_at hl 0 rfl) ?_
  refine lv_iconst (v := bI 0) hx hb dX1_initKey_238 (by decide) ?_
  refine va_put (D := D) (ci := 1) (v := .int (bI 0)) (ty := .byte) (C := RX1) (T := TX1) (N := 5) hx hb hts in_X1 tyX1 tyX1_ok nmX1 hown hK hP hD hS 0 rfl rfl 0 (by decide) (hts _ q36) (fun _ h9 => h9) rfl (by decide +kernel) (nb_bI _) (fb_bI _) (Nat.le_of_ble_eq_true rfl) dX1_initKey_239 (fun H locs hP hD hS => ?_)
  have hP : va_P D vwCl [jO h0 1 [.int (bI 0), .ref a_9, .int (bI (setK (fun j => lo8 (K j)) (fun j => lo8 (L j))).2), x3, x4], jA k0 B.1 16 K, jA v0 B.1 16 L, jA a_9 B.1 256 (bP (setK (fun j => lo8 (K j)) (fun j => lo8 (L j))).1)] H := hP
  have hD : va_D A [jO h0 1 [.int (bI 0), .ref a_9, .int (bI (setK (fun j => lo8 (K j)) (fun j => lo8 (L j))).2), x3, x4], jA k0 B.1 16 K, jA v0 B.1 16 L, jA a_9 B.1 256 (bP (setK (fun j => lo8 (K j)) (fun j => lo8 (L j))).1)] := hD
  exact jvret a_9 hx hb hr hlk trivial hP hD hS (Nat.le_of_ble_eq_true rfl) (Nat.le_of_ble_eq_true rfl) dX1_initKey_242
end
section
set_option maxHeartbeats 4000000 in
set_option maxRecDepth 100000 in
/-- reset() -/
theorem metX1_reset (l : Launch) (D : va_G) (B : ClassId × ClassId) (sz : Nat) (h0 k0 v0 : Nat) (K L : Nat → Int32) (x0 x1 x2 : Value) : jMv l yX1_reset (ws_ yX1_reset cX1_reset 1 none) { frames := 1, cells := 1, slots := 256, locals := 24 } D B sz [.ref h0] [jO h0 1 [x0, x1, x2, .ref v0, .ref k0], jA k0 B.1 16 K, jA v0 B.1 16 L] (S := Nat) (fun _ => True) (fun u => [jO h0 1 [.int (bI 0), .ref u, .int (bI (setK (fun j => lo8 (K j)) (fun j => lo8 (L j))).2), .ref v0, .ref k0], jA k0 B.1 16 K, jA v0 B.1 16 L, jA u B.1 256 (bP (setK (fun j => lo8 (K j)) (fun j => lo8 (L j))).1)]) := by
  refine jStartV (by decide) (Nat.le_of_ble_eq_true rfl) ?_
  intro p e s m below meth c A H ls hx hb hr hlk hml hown hin hts hK hP hD hA hS hl
  have hown : s.vm.findClass "VMPCEngine" = some m.cls := hown
  have hl : lv_has ls 1 [(0, .ref h0)] := hl
  refine lv_aload_n hx hb dX1_reset_0 rfl (lv_at hl 0 rfl) ?_
  refine lv_aload_n hx hb dX1_reset_1 rfl (lv_at hl 0 rfl) ?_
  refine va_get (D := D) (ci := 1) (v := .ref k0) (C := RX1) (T := TX1) (N := 5) hx hb hts in_X1 hown hK hP 0 rfl rfl 4 (by decide) (hts _ q40) (fun _ h9 => h9) rfl dX1_reset_2 ?_
  refine lv_aload_n hx hb dX1_reset_5 rfl (lv_at hl 0 rfl) ?_
  refine va_get (D := D) (ci := 1) (v := .ref v0) (C := RX1) (T := TX1) (N := 5) hx hb hts in_X1 hown hK hP 0 rfl rfl 3 (by decide) (hts _ q39) (fun _ h9 => h9) rfl dX1_reset_6 ?_
  refine jcallv (ws := [jO h0 1 [x0, x1, x2, .ref v0, .ref k0], jA k0 B.1 16 K, jA v0 B.1 16 L]) (wc := [jO h0 1 [x0, x1, x2, .ref v0, .ref k0], jA k0 B.1 16 K, jA v0 B.1 16 L]) [0, 1, 2] rfl (by decide) (fun _ => rfl) hP hD hS hA (va_runV (C := RX1) (b := h0) (As := [.ref k0, .ref v0]) (rest := []) ⟨hx, hb, hml, hown, hts⟩ (metX1_initKey l D B H.size h0 k0 v0 K L x0 x1 x2 (.ref v0) (.ref k0)) (cwV 2 hts (lw_V q229 q230 q231 q10 q232) rfl rfl rfl (by decide +kernel) ⟨Nat.le_of_ble_eq_true rfl, Nat.le_of_ble_eq_true rfl⟩) (jPreV (ci := 1) (q0 := 0) hK (hP.sub (ws' := [jO h0 1 [x0, x1, x2, .ref v0, .ref k0], jA k0 B.1 16 K, jA v0 B.1 16 L]) [0, 1, 2] rfl) (hD.sub (ws' := [jO h0 1 [x0, x1, x2, .ref v0, .ref k0], jA k0 B.1 16 K, jA v0 B.1 16 L]) [0, 1, 2] (by decide) rfl) rfl rfl) rfl rfl hl.1 rfl (lv_room (Nat.le_of_ble_eq_true rfl)) dX1_reset_9 ⟨Nat.le_of_ble_eq_true rfl, Nat.le_of_ble_eq_true rfl⟩) (fun u H locs hu hP hD hS => ?_)
  have hP : va_P D vwCl [jO h0 1 [.int (bI 0), .ref u, .int (bI (setK (fun j => lo8 (K j)) (fun j => lo8 (L j))).2), .ref v0, .ref k0], jA k0 B.1 16 K, jA v0 B.1 16 L, jA u B.1 256 (bP (setK (fun j => lo8 (K j)) (fun j => lo8 (L j))).1)] H := hP
  have hD : va_D A [jO h0 1 [.int (bI 0), .ref u, .int (bI (setK (fun j => lo8 (K j)) (fun j => lo8 (L j))).2), .ref v0, .ref k0], jA k0 B.1 16 K, jA v0 B.1 16 L, jA u B.1 256 (bP (setK (fun j => lo8 (K j)) (fun j => lo8 (L j))).1)] := hD
  exact jvret u hx hb hr hlk trivial hP hD hS (Nat.le_of_ble_eq_true rfl) (Nat.le_of_ble_eq_true rfl) dX1_reset_12
set_option maxHeartbeats 4000000 in
set_option maxRecDepth 100000 in
/-- init(true, p) -/
theorem metX1_init_2 (l : Launch) (D : va_G) (B : ClassId × ClassId) (sz : Nat) (h0 p0 g0 k0 v0 : Nat) (K L : Nat → Int32) (x0 x2 : Int32) : jMv l yX1_init_2 (ws_ yX1_init_2 cX1_init_2 5 none) { frames := 1, cells := 1, slots := 256, locals := 24 } D B sz [.ref h0, .int (nI 1), .ref p0] [jO h0 1 [.int x0, .null, .int x2, .null, .null], jO p0 3 [.ref v0, .ref g0], jO g0 4 [.ref k0], jA k0 B.1 16 K, jA v0 B.1 16 L] (S := Nat) (fun _ => True) (fun u => [jO h0 1 [.int (bI 0), .ref u, .int (bI (setK (fun j => lo8 (K j)) (fun j => lo8 (L j))).2), .ref v0, .ref k0], jO p0 3 [.ref v0, .ref g0], jO g0 4 [.ref k0], jA k0 B.1 16 K, jA v0 B.1 16 L, jA u B.1 256 (bP (setK (fun j => lo8 (K j)) (fun j => lo8 (L j))).1)]) := by
  refine jStartV (by decide) (Nat.le_of_ble_eq_true rfl) ?_
  intro p e s m below meth c A H ls hx hb hr hlk hml hown hin hts hK hP hD hA hS hl
  have hown : s.vm.findClass "VMPCEngine" = some m.cls := hown
  have hl : lv_has ls 5 [(0, .ref h0), (1, .int (nI 1)), (2, .ref p0)] := hl
  refine lv_aload_n hx hb dX1_init_2_0 rfl (lv_at hl 2 rfl) ?_
  refine va_instS (nm := RX3) hx hb hown (hts _ q146) (hK.1 3 _ rfl).2 (va_recv hK hP (ci := 3) (q0 := 1) rfl rfl) dX1_init_2_1 ?_
  refine lv_if_ne (tgt := 17) hx hb dX1_init_2_4 (by decide) (fun c_4 => ?_) (fun c_4 => ?_)
  · refine lv_aload_n hx hb dX1_init_2_17 rfl (lv_at hl 2 rfl) ?_
    refine va_castS (nm := RX3) hx hb hown (hts _ q146) (hK.1 3 _ rfl).2 (va_recv hK hP (ci := 3) (q0 := 1) rfl rfl) dX1_init_2_18 ?_
    refine lv_astore_n (lv' := [(3, .ref p0), (0, .ref h0), (1, .int (nI 1)), (2, .ref p0)]) hx hb dX1_init_2_21 rfl hl (by decide) rfl (fun ls hl => ?_)
    refine lv_aload_n hx hb dX1_init_2_22 rfl (lv_at hl 0 rfl) ?_
    refine jcallr (ws := [jO h0 1 [.int x0, .null, .int x2, .null, .null], jO p0 3 [.ref v0, .ref g0], jO g0 4 [.ref k0], jA k0 B.1 16 K, jA v0 B.1 16 L]) (wc := [jO p0 3 [.ref v0, .ref g0]]) [1] rfl (by decide) (fun _ => rfl) hP hD hS hA (va_runV (C := RX3) (b := p0) (As := []) (rest := []) ⟨hx, hb, hml, hown, hts⟩ (metX3_getParameters l D B H.size p0 g0 v0) (cwV 0 hts (lw_V q214 q215 q216 q12 q217) rfl rfl rfl (by decide +kernel) ⟨Nat.le_of_ble_eq_true rfl, Nat.le_of_ble_eq_true rfl⟩) (jPreV (ci := 3) (q0 := 0) hK (hP.sub (ws' := [jO p0 3 [.ref v0, .ref g0]]) [1] rfl) (hD.sub (ws' := [jO p0 3 [.ref v0, .ref g0]]) [1] (by decide) rfl) rfl rfl) rfl rfl hl.1 rfl (lv_room (Nat.le_of_ble_eq_true rfl)) dX1_init_2_23 ⟨Nat.le_of_ble_eq_true rfl, Nat.le_of_ble_eq_true rfl⟩) (fun _ H locs hu hP hD hS => ?_)
    have hP : va_P D vwCl [jO h0 1 [.int x0, .null, .int x2, .null, .null], jO p0 3 [.ref v0, .ref g0], jO g0 4 [.ref k0], jA k0 B.1 16 K, jA v0 B.1 16 L] H := hP
    have hD : va_D A [jO h0 1 [.int x0, .null, .int x2, .null, .null], jO p0 3 [.ref v0, .ref g0], jO g0 4 [.ref k0], jA k0 B.1 16 K, jA v0 B.1 16 L] := hD
    refine va_instS (nm := RX4) hx hb hown (hts _ q218) (hK.1 4 _ rfl).2 (va_recv hK hP (ci := 4) (q0 := 2) rfl rfl) dX1_init_2_26 ?_
    refine lv_if_ne (tgt := 42) hx hb dX1_init_2_29 (by decide) (fun c_29 => ?_) (fun c_29 => ?_)
    · refine lv_aload_n hx hb dX1_init_2_42 rfl (lv_at hl 0 rfl) ?_
      refine jcallr (ws := [jO h0 1 [.int x0, .null, .int x2, .null, .null], jO p0 3 [.ref v0, .ref g0], jO g0 4 [.ref k0], jA k0 B.1 16 K, jA v0 B.1 16 L]) (wc := [jO p0 3 [.ref v0, .ref g0]]) [1] rfl (by decide) (fun _ => rfl) hP hD hS hA (va_runV (C := RX3) (b := p0) (As := []) (rest := []) ⟨hx, hb, hml, hown, hts⟩ (metX3_getParameters l D B H.size p0 g0 v0) (cwV 0 hts (lw_V q214 q215 q216 q12 q217) rfl rfl rfl (by decide +kernel) ⟨Nat.le_of_ble_eq_true rfl, Nat.le_of_ble_eq_true rfl⟩) (jPreV (ci := 3) (q0 := 0) hK (hP.sub (ws' := [jO p0 3 [.ref v0, .ref g0]]) [1] rfl) (hD.sub (ws' := [jO p0 3 [.ref v0, .ref g0]]) [1] (by decide) rfl) rfl rfl) rfl rfl hl.1 rfl (lv_room (Nat.le_of_ble_eq_true rfl)) dX1_init_2_43 ⟨Nat.le_of_ble_eq_true rfl, Nat.le_of_ble_eq_true rfl⟩) (fun _ H locs hu hP hD hS => ?_)
      have hP : va_P D vwCl [jO h0 1 [.int x0, .null, .int x2, .null, .null], jO p0 3 [.ref v0, .ref g0], jO g0 4 [.ref k0], jA k0 B.1 16 K, jA v0 B.1 16 L] H := hP
      have hD : va_D A [jO h0 1 [.int x0, .null, .int x2, .null, .null], jO p0 3 [.ref v0, .ref g0], jO g0 4 [.ref k0], jA k0 B.1 16 K, jA v0 B.1 16 L] := hD
      refine va_castS (nm := RX4) hx hb hown (hts _ q218) (hK.1 4 _ rfl).2 (va_recv hK hP (ci := 4) (q0 := 2) rfl rfl) dX1_init_2_46 ?_
      refine lv_astore (lv' := [(4, .ref g0), (3, .ref p0), (0, .ref h0), (1, .int (nI 1)), (2, .ref p0)]) hx hb dX1_init_2_49 hl (by decide) rfl (fun ls hl => ?_)
      refine lv_aload_n hx hb dX1_init_2_51 rfl (lv_at hl 2 rfl) ?_
      refine lv_aload_n hx hb dX1_init_2_52 rfl (lv_at hl 1 rfl) ?_
      refine jcallr (ws := [jO h0 1 [.int x0, .null, .int x2, .null, .null], jO p0 3 [.ref v0, .ref g0], jO g0 4 [.ref k0], jA k0 B.1 16 K, jA v0 B.1 16 L]) (wc := [jO p0 3 [.ref v0, .ref g0]]) [1] rfl (by decide) (fun _ => rfl) hP hD hS hA (va_runV (C := RX3) (b := p0) (As := []) (rest := [.ref h0]) ⟨hx, hb, hml, hown, hts⟩ (metX3_getIV l D B H.size p0 g0 v0) (cwV 0 hts (lw_V q220 q221 q222 q12 q223) rfl rfl rfl (by decide +kernel) ⟨Nat.le_of_ble_eq_true rfl, Nat.le_of_ble_eq_true rfl⟩) (jPreV (ci := 3) (q0 := 0) hK (hP.sub (ws' := [jO p0 3 [.ref v0, .ref g0]]) [1] rfl) (hD.sub (ws' := [jO p0 3 [.ref v0, .ref g0]]) [1] (by decide) rfl) rfl rfl) rfl rfl hl.1 rfl (lv_room (Nat.le_of_ble_eq_true rfl)) dX1_init_2_53 ⟨Nat.le_of_ble_eq_true rfl, Nat.le_of_ble_eq_true rfl⟩) (fun _ H locs hu hP hD hS => ?_)
      have hP : va_P D vwCl [jO h0 1 [.int x0, .null, .int x2, .null, .null], jO p0 3 [.ref v0, .ref g0], jO g0 4 [.ref k0], jA k0 B.1 16 K, jA v0 B.1 16 L] H := hP
      have hD : va_D A [jO h0 1 [.int x0, .null, .int x2, .null, .null], jO p0 3 [.ref v0, .ref g0], jO g0 4 [.ref k0], jA k0 B.1 16 K, jA v0 B.1 16 L] := hD
      refine va_put (D := D) (ci := 1) (v := .ref v0) (ty := .array .byte) (C := RX1) (T := TX1) (N := 5) hx hb hts in_X1 tyX1 tyX1_ok nmX1 hown hK hP hD hS 0 rfl rfl 3 (by decide) (hts _ q39) (fun _ h9 => h9) rfl (by decide +kernel) rfl rfl (Nat.le_of_ble_eq_true rfl) dX1_init_2_56 (fun H locs hP hD hS => ?_)
      have hP : va_P D vwCl [jO h0 1 [.int x0, .null, .int x2, .ref v0, .null], jO p0 3 [.ref v0, .ref g0], jO g0 4 [.ref k0], jA k0 B.1 16 K, jA v0 B.1 16 L] H := hP
      have hD : va_D A [jO h0 1 [.int x0, .null, .int x2, .ref v0, .null], jO p0 3 [.ref v0, .ref g0], jO g0 4 [.ref k0], jA k0 B.1 16 K, jA v0 B.1 16 L] := hD
      refine lv_aload_n hx hb dX1_init_2_59 rfl (lv_at hl 2 rfl) ?_
      refine va_get (D := D) (ci := 1) (v := .ref v0) (C := RX1) (T := TX1) (N := 5) hx hb hts in_X1 hown hK hP 0 rfl rfl 3 (by decide) (hts _ q39) (fun _ h9 => h9) rfl dX1_init_2_60 ?_
      refine lv_ifnull hx hb dX1_init_2_63 ?_
      refine lv_aload_n hx hb dX1_init_2_66 rfl (lv_at hl 2 rfl) ?_
      refine va_get (D := D) (ci := 1) (v := .ref v0) (C := RX1) (T := TX1) (N := 5) hx hb hts in_X1 hown hK hP 0 rfl rfl 3 (by decide) (hts _ q39) (fun _ h9 => h9) rfl dX1_init_2_67 ?_
      refine va_alen (v := nI 16) hx hb hK hP 4 0 rfl rfl rfl dX1_init_2_70 ?_
      refine lv_iconst (v := nI 1) hx hb dX1_init_2_71 (by decide) ?_
      refine lv_icmp_lt (tgt := 86) hx hb dX1_init_2_72 (by decide) (fun c_72 => ?_) (fun c_72 => ?_)
      · exact absurd c_72 (by decide)
      · refine lv_aload_n hx hb dX1_init_2_75 rfl (lv_at hl 2 rfl) ?_
        refine va_get (D := D) (ci := 1) (v := .ref v0) (C := RX1) (T := TX1) (N := 5) hx hb hts in_X1 hown hK hP 0 rfl rfl 3 (by decide) (hts _ q39) (fun _ h9 => h9) rfl dX1_init_2_76 ?_
        refine va_alen (v := nI 16) hx hb hK hP 4 0 rfl rfl rfl dX1_init_2_79 ?_
        refine lv_sipush (v := nI 768) hx hb dX1_init_2_80 (by decide) ?_
        refine lv_icmp_le (tgt := 96) hx hb dX1_init_2_83 (by decide) (fun c_83 => ?_) (fun c_83 => ?_)
        · refine lv_aload_n hx hb dX1_init_2_96 rfl (lv_at hl 2 rfl) ?_
          refine lv_aload hx hb dX1_init_2_97 (lv_at hl 0 rfl) ?_
          refine jcallr (ws := [jO h0 1 [.int x0, .null, .int x2, .ref v0, .null], jO p0 3 [.ref v0, .ref g0], jO g0 4 [.ref k0], jA k0 B.1 16 K, jA v0 B.1 16 L]) (wc := [jO g0 4 [.ref k0]]) [2] rfl (by decide) (fun _ => rfl) hP hD hS hA (va_runV (C := RX4) (b := g0) (As := []) (rest := [.ref h0]) ⟨hx, hb, hml, hown, hts⟩ (metX4_getKey l D B H.size g0 k0) (cwV 0 hts (lw_V q225 q226 q227 q13 q228) rfl rfl rfl (by decide +kernel) ⟨Nat.le_of_ble_eq_true rfl, Nat.le_of_ble_eq_true rfl⟩) (jPreV (ci := 4) (q0 := 0) hK (hP.sub (ws' := [jO g0 4 [.ref k0]]) [2] rfl) (hD.sub (ws' := [jO g0 4 [.ref k0]]) [2] (by decide) rfl) rfl rfl) rfl rfl hl.1 rfl (lv_room (Nat.le_of_ble_eq_true rfl)) dX1_init_2_99 ⟨Nat.le_of_ble_eq_true rfl, Nat.le_of_ble_eq_true rfl⟩) (fun _ H locs hu hP hD hS => ?_)
          have hP : va_P D vwCl [jO h0 1 [.int x0, .null, .int x2, .ref v0, .null], jO p0 3 [.ref v0, .ref g0], jO g0 4 [.ref k0], jA k0 B.1 16 K, jA v0 B.1 16 L] H := hP
          have hD : va_D A [jO h0 1 [.int x0, .null, .int x2, .ref v0, .null], jO p0 3 [.ref v0, .ref g0], jO g0 4 [.ref k0], jA k0 B.1 16 K, jA v0 B.1 16 L] := hD
          refine va_put (D := D) (ci := 1) (v := .ref k0) (ty := .array .byte) (C := RX1) (T := TX1) (N := 5) hx hb hts in_X1 tyX1 tyX1_ok nmX1 hown hK hP hD hS 0 rfl rfl 4 (by decide) (hts _ q40) (fun _ h9 => h9) rfl (by decide +kernel) rfl rfl (Nat.le_of_ble_eq_true rfl) dX1_init_2_102 (fun H locs hP hD hS => ?_)
          have hP : va_P D vwCl [jO h0 1 [.int x0, .null, .int x2, .ref v0, .ref k0], jO p0 3 [.ref v0, .ref g0], jO g0 4 [.ref k0], jA k0 B.1 16 K, jA v0 B.1 16 L] H := hP
          have hD : va_D A [jO h0 1 [.int x0, .null, .int x2, .ref v0, .ref k0], jO p0 3 [.ref v0, .ref g0], jO g0 4 [.ref k0], jA k0 B.1 16 K, jA v0 B.1 16 L] := hD
          refine lv_aload_n hx hb dX1_init_2_105 rfl (lv_at hl 2 rfl) ?_
          refine lv_aload_n hx hb dX1_init_2_106 rfl (lv_at hl 2 rfl) ?_
          refine va_get (D := D) (ci := 1) (v := .ref k0) (C := RX1) (T := TX1) (N := 5) hx hb hts in_X1 hown hK hP 0 rfl rfl 4 (by decide) (hts _ q40) (fun _ h9 => h9) rfl dX1_init_2_107 ?_
          refine lv_aload_n hx hb dX1_init_2_110 rfl (lv_at hl 2 rfl) ?_
          refine va_get (D := D) (ci := 1) (v := .ref v0) (C := RX1) (T := TX1) (N := 5) hx hb hts in_X1 hown hK hP 0 rfl rfl 3 (by decide) (hts _ q39) (fun _ h9 => h9) rfl dX1_init_2_111 ?_
          refine jcallv (ws := [jO h0 1 [.int x0, .null, .int x2, .ref v0, .ref k0], jO p0 3 [.ref v0, .ref g0], jO g0 4 [.ref k0], jA k0 B.1 16 K, jA v0 B.1 16 L]) (wc := [jO h0 1 [.int x0, .null, .int x2, .ref v0, .ref k0], jA k0 B.1 16 K, jA v0 B.1 16 L]) [0, 3, 4] rfl (by decide) (fun _ => rfl) hP hD hS hA (va_runV (C := RX1) (b := h0) (As := [.ref k0, .ref v0]) (rest := []) ⟨hx, hb, hml, hown, hts⟩ (metX1_initKey l D B H.size h0 k0 v0 K L (.int x0) .null (.int x2) (.ref v0) (.ref k0)) (cwV 2 hts (lw_V q229 q230 q231 q10 q232) rfl rfl rfl (by decide +kernel) ⟨Nat.le_of_ble_eq_true rfl, Nat.le_of_ble_eq_true rfl⟩) (jPreV (ci := 1) (q0 := 0) hK (hP.sub (ws' := [jO h0 1 [.int x0, .null, .int x2, .ref v0, .ref k0], jA k0 B.1 16 K, jA v0 B.1 16 L]) [0, 3, 4] rfl) (hD.sub (ws' := [jO h0 1 [.int x0, .null, .int x2, .ref v0, .ref k0], jA k0 B.1 16 K, jA v0 B.1 16 L]) [0, 3, 4] (by decide) rfl) rfl rfl) rfl rfl hl.1 rfl (lv_room (Nat.le_of_ble_eq_true rfl)) dX1_init_2_114 ⟨Nat.le_of_ble_eq_true rfl, Nat.le_of_ble_eq_true rfl⟩) (fun u H locs hu hP hD hS => ?_)
          have hP : va_P D vwCl [jO h0 1 [.int (bI 0), .ref u, .int (bI (setK (fun j => lo8 (K j)) (fun j => lo8 (L j))).2), .ref v0, .ref k0], jO p0 3 [.ref v0, .ref g0], jO g0 4 [.ref k0], jA k0 B.1 16 K, jA v0 B.1 16 L, jA u B.1 256 (bP (setK (fun j => lo8 (K j)) (fun j => lo8 (L j))).1)] H := hP
          have hD : va_D A [jO h0 1 [.int (bI 0), .ref u, .int (bI (setK (fun j => lo8 (K j)) (fun j => lo8 (L j))).2), .ref v0, .ref k0], jO p0 3 [.ref v0, .ref g0], jO g0 4 [.ref k0], jA k0 B.1 16 K, jA v0 B.1 16 L, jA u B.1 256 (bP (setK (fun j => lo8 (K j)) (fun j => lo8 (L j))).1)] := hD
          exact jvret u hx hb hr hlk trivial hP hD hS (Nat.le_of_ble_eq_true rfl) (Nat.le_of_ble_eq_true rfl) dX1_init_2_117
        · exact absurd (show nI 16 ≤ nI 768 by decide) c_83
    · exact absurd c_29 (by decide)
  · exact absurd c_4 (by decide)
set_option maxHeartbeats 4000000 in
set_option maxRecDepth 100000 in
/-- returnByte(b): a step -/
theorem metX1_returnByte (l : Launch) (D : va_G) (B : ClassId × ClassId) (sz : Nat) (h0 a0 : Nat) (q : (Nat → Nat) × Nat × Nat) (hq : okS q) (b : Int32) (x3 x4 : Value) : jMi l yX1_returnByte (ws_ yX1_returnByte cX1_returnByte 4 (some .byte)) { frames := 0, cells := 0, slots := 0, locals := 0 } D B sz [.ref h0, .int b] [jO h0 1 [.int (bI q.2.2), .ref a0, .int (bI q.2.1), x3, x4], jA a0 B.1 256 (bP q.1)] (S := Unit) (fun r _ => r = (b ^^^ bI (nz q)).toInt8.toInt32) (fun u => [jO h0 1 [.int (bI (nx q).2.2), .ref a0, .int (bI (nx q).2.1), x3, x4], jA a0 B.1 256 (bP (nx q).1)]) := by
  refine jStartI (by decide) (Nat.le_of_ble_eq_true rfl) ?_
  intro p e s m below meth c A H ls hx hb hr hlk hml hown hin hts hK hP hD hA hS hl
  have hown : s.vm.findClass "VMPCEngine" = some m.cls := hown
  have hl : lv_has ls 4 [(0, .ref h0), (1, .int b)] := hl
  refine lv_aload_n hx hb dX1_returnByte_0 rfl (lv_at hl 0 rfl) ?_
  refine lv_aload_n hx hb dX1_returnByte_1 rfl (lv_at hl 0 rfl) ?_
  refine va_get (D := D) (ci := 1) (v := .ref a0) (C := RX1) (T := TX1) (N := 5) hx hb hts in_X1 hown hK hP 0 rfl rfl 1 (by decide) (hts _ q37) (fun _ h9 => h9) rfl dX1_returnByte_2 ?_
  refine lv_aload_n hx hb dX1_returnByte_5 rfl (lv_at hl 0 rfl) ?_
  refine va_get (D := D) (ci := 1) (v := .int (bI q.2.1)) (C := RX1) (T := TX1) (N := 5) hx hb hts in_X1 hown hK hP 0 rfl rfl 2 (by decide) (hts _ q38) (fun _ h9 => h9) rfl dX1_returnByte_6 ?_
  refine lv_aload_n hx hb dX1_returnByte_9 rfl (lv_at hl 0 rfl) ?_
  refine va_get (D := D) (ci := 1) (v := .ref a0) (C := RX1) (T := TX1) (N := 5) hx hb hts in_X1 hown hK hP 0 rfl rfl 1 (by decide) (hts _ q37) (fun _ h9 => h9) rfl dX1_returnByte_10 ?_
  refine lv_aload_n hx hb dX1_returnByte_13 rfl (lv_at hl 0 rfl) ?_
  refine va_get (D := D) (ci := 1) (v := .int (bI q.2.2)) (C := RX1) (T := TX1) (N := 5) hx hb hts in_X1 hown hK hP 0 rfl rfl 0 (by decide) (hts _ q36) (fun _ h9 => h9) rfl dX1_returnByte_14 ?_
  refine lv_sipush (v := nI 255) hx hb dX1_returnByte_17 (by decide) ?_
  refine lv_iand hx hb dX1_returnByte_20 ?_
  refine jas (y := nI q.2.2) (bI_and hq.2.2) ?_
  refine jbald hx hb hK hP 1 rfl q.2.2 hq.2.2 (by decide) dX1_returnByte_21 ?_
  refine jas (y := bI (q.1 q.2.2)) rfl ?_
  refine lv_iadd hx hb dX1_returnByte_22 ?_
  refine lv_sipush (v := nI 255) hx hb dX1_returnByte_23 (by decide) ?_
  refine lv_iand hx hb dX1_returnByte_26 ?_
  refine jas (y := nI ((q.2.1 + q.1 q.2.2) % 256)) (ix2 hq.2.1 (hq.1 _)) ?_
  refine jbald hx hb hK hP 1 rfl ((q.2.1 + q.1 q.2.2) % 256) (Nat.mod_lt _ (by decide)) (by decide) dX1_returnByte_27 ?_
  refine jas (y := bI (q.1 ((q.2.1 + q.1 q.2.2) % 256))) rfl ?_
  refine va_put (D := D) (ci := 1) (v := .int (bI (q.1 ((q.2.1 + q.1 q.2.2) % 256)))) (ty := .byte) (C := RX1) (T := TX1) (N := 5) hx hb hts in_X1 tyX1 tyX1_ok nmX1 hown hK hP hD hS 0 rfl rfl 2 (by decide) (hts _ q38) (fun _ h9 => h9) rfl (by decide +kernel) (nb_bI _) (fb_bI _) (Nat.le_of_ble_eq_true rfl) dX1_returnByte_28 (fun H locs hP hD hS => ?_)
  have hP : va_P D vwCl [jO h0 1 [.int (bI q.2.2), .ref a0, .int (bI (q.1 ((q.2.1 + q.1 q.2.2) % 256))), x3, x4], jA a0 B.1 256 (bP q.1)] H := hP
  have hD : va_D A [jO h0 1 [.int (bI q.2.2), .ref a0, .int (bI (q.1 ((q.2.1 + q.1 q.2.2) % 256))), x3, x4], jA a0 B.1 256 (bP q.1)] := hD
  refine lv_aload_n hx hb dX1_returnByte_31 rfl (lv_at hl 0 rfl) ?_
  refine va_get (D := D) (ci := 1) (v := .ref a0) (C := RX1) (T := TX1) (N := 5) hx hb hts in_X1 hown hK hP 0 rfl rfl 1 (by decide) (hts _ q37) (fun _ h9 => h9) rfl dX1_returnByte_32 ?_
  refine lv_aload_n hx hb dX1_returnByte_35 rfl (lv_at hl 0 rfl) ?_
  refine va_get (D := D) (ci := 1) (v := .ref a0) (C := RX1) (T := TX1) (N := 5) hx hb hts in_X1 hown hK hP 0 rfl rfl 1 (by decide) (hts _ q37) (fun _ h9 => h9) rfl dX1_returnByte_36 ?_
  refine lv_aload_n hx hb dX1_returnByte_39 rfl (lv_at hl 0 rfl) ?_
  refine va_get (D := D) (ci := 1) (v := .ref a0) (C := RX1) (T := TX1) (N := 5) hx hb hts in_X1 hown hK hP 0 rfl rfl 1 (by decide) (hts _ q37) (fun _ h9 => h9) rfl dX1_returnByte_40 ?_
  refine lv_aload_n hx hb dX1_returnByte_43 rfl (lv_at hl 0 rfl) ?_
  refine va_get (D := D) (ci := 1) (v := .int (bI (q.1 ((q.2.1 + q.1 q.2.2) % 256)))) (C := RX1) (T := TX1) (N := 5) hx hb hts in_X1 hown hK hP 0 rfl rfl 2 (by decide) (hts _ q38) (fun _ h9 => h9) rfl dX1_returnByte_44 ?_
  refine lv_sipush (v := nI 255) hx hb dX1_returnByte_47 (by decide) ?_
  refine lv_iand hx hb dX1_returnByte_50 ?_
  refine jas (y := nI (q.1 ((q.2.1 + q.1 q.2.2) % 256))) (bI_and (hq.1 _)) ?_
  refine jbald hx hb hK hP 1 rfl (q.1 ((q.2.1 + q.1 q.2.2) % 256)) (hq.1 _) (by decide) dX1_returnByte_51 ?_
  refine jas (y := bI (q.1 (q.1 ((q.2.1 + q.1 q.2.2) % 256)))) rfl ?_
  refine lv_sipush (v := nI 255) hx hb dX1_returnByte_52 (by decide) ?_
  refine lv_iand hx hb dX1_returnByte_55 ?_
  refine jas (y := nI (q.1 (q.1 ((q.2.1 + q.1 q.2.2) % 256)))) (bI_and (hq.1 _)) ?_
  refine jbald hx hb hK hP 1 rfl (q.1 (q.1 ((q.2.1 + q.1 q.2.2) % 256))) (hq.1 _) (by decide) dX1_returnByte_56 ?_
  refine jas (y := bI (q.1 (q.1 (q.1 ((q.2.1 + q.1 q.2.2) % 256))))) rfl ?_
  refine lv_iconst (v := nI 1) hx hb dX1_returnByte_57 (by decide) ?_
  refine lv_iadd hx hb dX1_returnByte_58 ?_
  refine lv_sipush (v := nI 255) hx hb dX1_returnByte_59 (by decide) ?_
  refine lv_iand hx hb dX1_returnByte_62 ?_
  refine jas (y := nI ((q.1 (q.1 (q.1 ((q.2.1 + q.1 q.2.2) % 256))) + 1) % 256)) (ix1 (hq.1 _)) ?_
  refine jbald hx hb hK hP 1 rfl ((q.1 (q.1 (q.1 ((q.2.1 + q.1 q.2.2) % 256))) + 1) % 256) (Nat.mod_lt _ (by decide)) (by decide) dX1_returnByte_63 ?_
  refine jas (y := bI (nz q)) rfl ?_
  refine lv_istore_n (lv' := [(2, .int (bI (nz q))), (0, .ref h0), (1, .int b)]) hx hb dX1_returnByte_64 rfl hl (by decide) rfl (fun ls hl => ?_)
  refine lv_aload_n hx hb dX1_returnByte_65 rfl (lv_at hl 1 rfl) ?_
  refine va_get (D := D) (ci := 1) (v := .ref a0) (C := RX1) (T := TX1) (N := 5) hx hb hts in_X1 hown hK hP 0 rfl rfl 1 (by decide) (hts _ q37) (fun _ h9 => h9) rfl dX1_returnByte_66 ?_
  refine lv_aload_n hx hb dX1_returnByte_69 rfl (lv_at hl 1 rfl) ?_
  refine va_get (D := D) (ci := 1) (v := .int (bI q.2.2)) (C := RX1) (T := TX1) (N := 5) hx hb hts in_X1 hown hK hP 0 rfl rfl 0 (by decide) (hts _ q36) (fun _ h9 => h9) rfl dX1_returnByte_70 ?_
  refine lv_sipush (v := nI 255) hx hb dX1_returnByte_73 (by decide) ?_
  refine lv_iand hx hb dX1_returnByte_76 ?_
  refine jas (y := nI q.2.2) (bI_and hq.2.2) ?_
  refine jbald hx hb hK hP 1 rfl q.2.2 hq.2.2 (by decide) dX1_returnByte_77 ?_
  refine jas (y := bI (q.1 q.2.2)) rfl ?_
  refine lv_istore_n (lv' := [(3, .int (bI (q.1 q.2.2))), (2, .int (bI (nz q))), (0, .ref h0), (1, .int b)]) hx hb dX1_returnByte_78 rfl hl (by decide) rfl (fun ls hl => ?_)
  refine lv_aload_n hx hb dX1_returnByte_79 rfl (lv_at hl 2 rfl) ?_
  refine va_get (D := D) (ci := 1) (v := .ref a0) (C := RX1) (T := TX1) (N := 5) hx hb hts in_X1 hown hK hP 0 rfl rfl 1 (by decide) (hts _ q37) (fun _ h9 => h9) rfl dX1_returnByte_80 ?_
  refine lv_aload_n hx hb dX1_returnByte_83 rfl (lv_at hl 2 rfl) ?_
  refine va_get (D := D) (ci := 1) (v := .int (bI q.2.2)) (C := RX1) (T := TX1) (N := 5) hx hb hts in_X1 hown hK hP 0 rfl rfl 0 (by decide) (hts _ q36) (fun _ h9 => h9) rfl dX1_returnByte_84 ?_
  refine lv_sipush (v := nI 255) hx hb dX1_returnByte_87 (by decide) ?_
  refine lv_iand hx hb dX1_returnByte_90 ?_
  refine jas (y := nI q.2.2) (bI_and hq.2.2) ?_
  refine lv_aload_n hx hb dX1_returnByte_91 rfl (lv_at hl 2 rfl) ?_
  refine va_get (D := D) (ci := 1) (v := .ref a0) (C := RX1) (T := TX1) (N := 5) hx hb hts in_X1 hown hK hP 0 rfl rfl 1 (by decide) (hts _ q37) (fun _ h9 => h9) rfl dX1_returnByte_92 ?_
  refine lv_aload_n hx hb dX1_returnByte_95 rfl (lv_at hl 2 rfl) ?_
  refine va_get (D := D) (ci := 1) (v := .int (bI (q.1 ((q.2.1 + q.1 q.2.2) % 256)))) (C := RX1) (T := TX1) (N := 5) hx hb hts in_X1 hown hK hP 0 rfl rfl 2 (by decide) (hts _ q38) (fun _ h9 => h9) rfl dX1_returnByte_96 ?_
  refine lv_sipush (v := nI 255) hx hb dX1_returnByte_99 (by decide) ?_
  refine lv_iand hx hb dX1_returnByte_102 ?_
  refine jas (y := nI (q.1 ((q.2.1 + q.1 q.2.2) % 256))) (bI_and (hq.1 _)) ?_
  refine jbald hx hb hK hP 1 rfl (q.1 ((q.2.1 + q.1 q.2.2) % 256)) (hq.1 _) (by decide) dX1_returnByte_103 ?_
  refine jas (y := bI (q.1 (q.1 ((q.2.1 + q.1 q.2.2) % 256)))) rfl ?_
  refine jbast hx hb hK hP hD hS 1 rfl q.2.2 hq.2.2 (by decide) (bP (updN q.1 q.2.2 (q.1 (q.1 ((q.2.1 + q.1 q.2.2) % 256))))) (by rw [bI_vb, bP_upd]) dX1_returnByte_104 (fun H locs hP hD hS => ?_)
  have hP : va_P D vwCl [jO h0 1 [.int (bI q.2.2), .ref a0, .int (bI (q.1 ((q.2.1 + q.1 q.2.2) % 256))), x3, x4], jA a0 B.1 256 (bP (updN q.1 q.2.2 (q.1 (q.1 ((q.2.1 + q.1 q.2.2) % 256)))))] H := hP
  have hD : va_D A [jO h0 1 [.int (bI q.2.2), .ref a0, .int (bI (q.1 ((q.2.1 + q.1 q.2.2) % 256))), x3, x4], jA a0 B.1 256 (bP (updN q.1 q.2.2 (q.1 (q.1 ((q.2.1 + q.1 q.2.2) % 256)))))] := hD
  refine lv_aload_n hx hb dX1_returnByte_105 rfl (lv_at hl 2 rfl) ?_
  refine va_get (D := D) (ci := 1) (v := .ref a0) (C := RX1) (T := TX1) (N := 5) hx hb hts in_X1 hown hK hP 0 rfl rfl 1 (by decide) (hts _ q37) (fun _ h9 => h9) rfl dX1_returnByte_106 ?_
  refine lv_aload_n hx hb dX1_returnByte_109 rfl (lv_at hl 2 rfl) ?_
  refine va_get (D := D) (ci := 1) (v := .int (bI (q.1 ((q.2.1 + q.1 q.2.2) % 256)))) (C := RX1) (T := TX1) (N := 5) hx hb hts in_X1 hown hK hP 0 rfl rfl 2 (by decide) (hts _ q38) (fun _ h9 => h9) rfl dX1_returnByte_110 ?_
  refine lv_sipush (v := nI 255) hx hb dX1_returnByte_113 (by decide) ?_
  refine lv_iand hx hb dX1_returnByte_116 ?_
  refine jas (y := nI (q.1 ((q.2.1 + q.1 q.2.2) % 256))) (bI_and (hq.1 _)) ?_
  refine lv_iload_n hx hb dX1_returnByte_117 rfl (lv_at hl 0 rfl) ?_
  refine jbast hx hb hK hP hD hS 1 rfl (q.1 ((q.2.1 + q.1 q.2.2) % 256)) (hq.1 _) (by decide) (bP (swp q.1 q.2.2 (q.1 ((q.2.1 + q.1 q.2.2) % 256)))) (by rw [bI_vb, bP_upd]; rfl) dX1_returnByte_118 (fun H locs hP hD hS => ?_)
  have hP : va_P D vwCl [jO h0 1 [.int (bI q.2.2), .ref a0, .int (bI (q.1 ((q.2.1 + q.1 q.2.2) % 256))), x3, x4], jA a0 B.1 256 (bP (swp q.1 q.2.2 (q.1 ((q.2.1 + q.1 q.2.2) % 256))))] H := hP
  have hD : va_D A [jO h0 1 [.int (bI q.2.2), .ref a0, .int (bI (q.1 ((q.2.1 + q.1 q.2.2) % 256))), x3, x4], jA a0 B.1 256 (bP (swp q.1 q.2.2 (q.1 ((q.2.1 + q.1 q.2.2) % 256))))] := hD
  refine lv_aload_n hx hb dX1_returnByte_119 rfl (lv_at hl 2 rfl) ?_
  refine lv_aload_n hx hb dX1_returnByte_120 rfl (lv_at hl 2 rfl) ?_
  refine va_get (D := D) (ci := 1) (v := .int (bI q.2.2)) (C := RX1) (T := TX1) (N := 5) hx hb hts in_X1 hown hK hP 0 rfl rfl 0 (by decide) (hts _ q36) (fun _ h9 => h9) rfl dX1_returnByte_121 ?_
  refine lv_iconst (v := nI 1) hx hb dX1_returnByte_124 (by decide) ?_
  refine lv_iadd hx hb dX1_returnByte_125 ?_
  refine lv_sipush (v := nI 255) hx hb dX1_returnByte_126 (by decide) ?_
  refine lv_iand hx hb dX1_returnByte_129 ?_
  refine jas (y := nI ((q.2.2 + 1) % 256)) (ix1 hq.2.2) ?_
  refine lv_i2b (v := (nI ((q.2.2 + 1) % 256)).toInt8.toInt32) hx hb dX1_returnByte_130 rfl ?_
  refine jas (y := bI ((q.2.2 + 1) % 256)) rfl ?_
  refine va_put (D := D) (ci := 1) (v := .int (bI ((q.2.2 + 1) % 256))) (ty := .byte) (C := RX1) (T := TX1) (N := 5) hx hb hts in_X1 tyX1 tyX1_ok nmX1 hown hK hP hD hS 0 rfl rfl 0 (by decide) (hts _ q36) (fun _ h9 => h9) rfl (by decide +kernel) (nb_bI _) (fb_bI _) (Nat.le_of_ble_eq_true rfl) dX1_returnByte_131 (fun H locs hP hD hS => ?_)
  have hP : va_P D vwCl [jO h0 1 [.int (bI ((q.2.2 + 1) % 256)), .ref a0, .int (bI (q.1 ((q.2.1 + q.1 q.2.2) % 256))), x3, x4], jA a0 B.1 256 (bP (swp q.1 q.2.2 (q.1 ((q.2.1 + q.1 q.2.2) % 256))))] H := hP
  have hD : va_D A [jO h0 1 [.int (bI ((q.2.2 + 1) % 256)), .ref a0, .int (bI (q.1 ((q.2.1 + q.1 q.2.2) % 256))), x3, x4], jA a0 B.1 256 (bP (swp q.1 q.2.2 (q.1 ((q.2.1 + q.1 q.2.2) % 256))))] := hD
  refine lv_iload_n hx hb dX1_returnByte_134 rfl (lv_at hl 3 rfl) ?_
  refine lv_iload_n hx hb dX1_returnByte_135 rfl (lv_at hl 1 rfl) ?_
  refine lv_ixor hx hb dX1_returnByte_136 ?_
  refine lv_i2b (v := (b ^^^ (bI (nz q))).toInt8.toInt32) hx hb dX1_returnByte_137 rfl ?_
  exact jiret (()) hx hb hr (pk_nb _) hlk rfl hP hD hS (Nat.le_of_ble_eq_true rfl) (Nat.le_of_ble_eq_true rfl) dX1_returnByte_138
set_option maxHeartbeats 4000000 in
set_option maxRecDepth 100000 in
theorem loopX1_run {p : Program} {l : Launch} {e : Env} {R : Room} {s : State} {m : MethodId} {args : Array Value} {below : List Frame} {meth : Method} {c : Code} {Q : State → Prop} {cells slots : Nat} {D : va_G} {B : ClassId × ClassId} {A : Nat → Prop} {h0 a0 t0 o0 f n0 : Nat} {T : Nat → Int32} {x3 x4 : Value} (hx : p.tables.exec = Jvm.exec) (hb : c.code = cX1_processBytes) (hml : c.maxLocals = 9) (hown : s.vm.findClass "VMPCEngine" = some m.cls) (hts : ∀ w ∈ lw_all, w.before args s = true) (hK : va_K D vwCl (TY B) s) (hA : ∀ q : Nat, s.heap.size ≤ q → A q) {q0 : (Nat → Nat) × Nat × Nat} (hf : f + n0 ≤ 256)
    (kk : ∀ (H : Heap) (locs : List Loc) (ls : Array Slot), va_P D vwCl [jO h0 1 [.int (bI (nxN n0 q0).2.2), .ref a0, .int (bI (nxN n0 q0).2.1), x3, x4], jA a0 B.1 256 (bP (nxN n0 q0).1), jA t0 B.1 256 T, jA o0 B.1 n0 (runO T f q0 n0)] H → va_D A [jO h0 1 [.int (bI (nxN n0 q0).2.2), .ref a0, .int (bI (nxN n0 q0).2.1), x3, x4], jA a0 B.1 256 (bP (nxN n0 q0).1), jA t0 B.1 256 T, jA o0 B.1 n0 (runO T f q0 n0)] → va_S A s.heap H locs → lv_has ls 9 [(0, .ref h0), (1, .ref t0), (2, .int (nI f)), (3, .int (nI n0)), (4, .ref o0), (5, .int (nI 0)), (6, .int (nI n0))] → W p l e R s m args below meth c H locs cells slots Q (F0 m 208 ls [])) :
    ∀ (n i : Nat) (q : (Nat → Nat) × Nat × Nat), i + n = n0 → q = nxN i q0 → okS q → ∀ (H : Heap) (locs : List Loc) (ls : Array Slot), va_P D vwCl [jO h0 1 [.int (bI q.2.2), .ref a0, .int (bI q.2.1), x3, x4], jA a0 B.1 256 (bP q.1), jA t0 B.1 256 T, jA o0 B.1 n0 (runO T f q0 i)] H → va_D A [jO h0 1 [.int (bI q.2.2), .ref a0, .int (bI q.2.1), x3, x4], jA a0 B.1 256 (bP q.1), jA t0 B.1 256 T, jA o0 B.1 n0 (runO T f q0 i)] → va_S A s.heap H locs → lv_has ls 9 [(0, .ref h0), (1, .ref t0), (2, .int (nI f)), (3, .int (nI n0)), (4, .ref o0), (5, .int (nI 0)), (6, .int (nI i))] → W p l e R s m args below meth c H locs cells slots Q (F0 m 41 ls []) := by
  intro n
  induction n with
  | zero =>
    intro i q hi hq0 hq H locs ls hP hD hS hl
    have hi : i = n0 := by omega
    subst hi
    subst hq0
    refine lv_iload hx hb dX1_processBytes_41 (lv_at hl 6 rfl) ?_
    refine lv_iload_n hx hb dX1_processBytes_43 rfl (lv_at hl 3 rfl) ?_
    refine lv_icmp_ge (tgt := 208) hx hb dX1_processBytes_44 (by decide) (fun c_44 => ?_) (fun c_44 => ?_)
    · exact kk H locs ls hP hD hS hl
    · exact absurd (nI_le (Nat.le_refl _) (by omega)) c_44
  | succ n ih =>
    intro i q hi hq0 hq H locs ls hP hD hS hl
    refine lv_iload hx hb dX1_processBytes_41 (lv_at hl 6 rfl) ?_
    refine lv_iload_n hx hb dX1_processBytes_43 rfl (lv_at hl 3 rfl) ?_
    refine lv_icmp_ge (tgt := 208) hx hb dX1_processBytes_44 (by decide) (fun c_44 => ?_) (fun c_44 => ?_)
    · exact absurd ((nI_leI (by omega) (by omega)).mp c_44) (by omega)
    · refine lv_aload_n hx hb dX1_processBytes_47 rfl (lv_at hl 0 rfl) ?_
      refine lv_aload_n hx hb dX1_processBytes_48 rfl (lv_at hl 0 rfl) ?_
      refine va_get (D := D) (ci := 1) (v := .ref a0) (C := RX1) (T := TX1) (N := 5) hx hb hts in_X1 hown hK hP 0 rfl rfl 1 (by decide) (hts _ q37) (fun _ h9 => h9) rfl dX1_processBytes_49 ?_
      refine lv_aload_n hx hb dX1_processBytes_52 rfl (lv_at hl 0 rfl) ?_
      refine va_get (D := D) (ci := 1) (v := .int (bI q.2.1)) (C := RX1) (T := TX1) (N := 5) hx hb hts in_X1 hown hK hP 0 rfl rfl 2 (by decide) (hts _ q38) (fun _ h9 => h9) rfl dX1_processBytes_53 ?_
      refine lv_aload_n hx hb dX1_processBytes_56 rfl (lv_at hl 0 rfl) ?_
      refine va_get (D := D) (ci := 1) (v := .ref a0) (C := RX1) (T := TX1) (N := 5) hx hb hts in_X1 hown hK hP 0 rfl rfl 1 (by decide) (hts _ q37) (fun _ h9 => h9) rfl dX1_processBytes_57 ?_
      refine lv_aload_n hx hb dX1_processBytes_60 rfl (lv_at hl 0 rfl) ?_
      refine va_get (D := D) (ci := 1) (v := .int (bI q.2.2)) (C := RX1) (T := TX1) (N := 5) hx hb hts in_X1 hown hK hP 0 rfl rfl 0 (by decide) (hts _ q36) (fun _ h9 => h9) rfl dX1_processBytes_61 ?_
      refine lv_sipush (v := nI 255) hx hb dX1_processBytes_64 (by decide) ?_
      refine lv_iand hx hb dX1_processBytes_67 ?_
      refine jas (y := nI q.2.2) (bI_and hq.2.2) ?_
      refine jbald hx hb hK hP 1 rfl q.2.2 hq.2.2 (by decide) dX1_processBytes_68 ?_
      refine jas (y := bI (q.1 q.2.2)) rfl ?_
      refine lv_iadd hx hb dX1_processBytes_69 ?_
      refine lv_sipush (v := nI 255) hx hb dX1_processBytes_70 (by decide) ?_
      refine lv_iand hx hb dX1_processBytes_73 ?_
      refine jas (y := nI ((q.2.1 + q.1 q.2.2) % 256)) (ix2 hq.2.1 (hq.1 _)) ?_
      refine jbald hx hb hK hP 1 rfl ((q.2.1 + q.1 q.2.2) % 256) (Nat.mod_lt _ (by decide)) (by decide) dX1_processBytes_74 ?_
      refine jas (y := bI (q.1 ((q.2.1 + q.1 q.2.2) % 256))) rfl ?_
      refine va_put (D := D) (ci := 1) (v := .int (bI (q.1 ((q.2.1 + q.1 q.2.2) % 256)))) (ty := .byte) (C := RX1) (T := TX1) (N := 5) hx hb hts in_X1 tyX1 tyX1_ok nmX1 hown hK hP hD hS 0 rfl rfl 2 (by decide) (hts _ q38) (fun _ h9 => h9) rfl (by decide +kernel) (nb_bI _) (fb_bI _) (Nat.le_of_ble_eq_true rfl) dX1_processBytes_75 (fun H locs hP hD hS => ?_)
      have hP : va_P D vwCl [jO h0 1 [.int (bI q.2.2), .ref a0, .int (bI (q.1 ((q.2.1 + q.1 q.2.2) % 256))), x3, x4], jA a0 B.1 256 (bP q.1), jA t0 B.1 256 T, jA o0 B.1 n0 (runO T f q0 i)] H := hP
      have hD : va_D A [jO h0 1 [.int (bI q.2.2), .ref a0, .int (bI (q.1 ((q.2.1 + q.1 q.2.2) % 256))), x3, x4], jA a0 B.1 256 (bP q.1), jA t0 B.1 256 T, jA o0 B.1 n0 (runO T f q0 i)] := hD
      refine lv_aload_n hx hb dX1_processBytes_78 rfl (lv_at hl 0 rfl) ?_
      refine va_get (D := D) (ci := 1) (v := .ref a0) (C := RX1) (T := TX1) (N := 5) hx hb hts in_X1 hown hK hP 0 rfl rfl 1 (by decide) (hts _ q37) (fun _ h9 => h9) rfl dX1_processBytes_79 ?_
      refine lv_aload_n hx hb dX1_processBytes_82 rfl (lv_at hl 0 rfl) ?_
      refine va_get (D := D) (ci := 1) (v := .ref a0) (C := RX1) (T := TX1) (N := 5) hx hb hts in_X1 hown hK hP 0 rfl rfl 1 (by decide) (hts _ q37) (fun _ h9 => h9) rfl dX1_processBytes_83 ?_
      refine lv_aload_n hx hb dX1_processBytes_86 rfl (lv_at hl 0 rfl) ?_
      refine va_get (D := D) (ci := 1) (v := .ref a0) (C := RX1) (T := TX1) (N := 5) hx hb hts in_X1 hown hK hP 0 rfl rfl 1 (by decide) (hts _ q37) (fun _ h9 => h9) rfl dX1_processBytes_87 ?_
      refine lv_aload_n hx hb dX1_processBytes_90 rfl (lv_at hl 0 rfl) ?_
      refine va_get (D := D) (ci := 1) (v := .int (bI (q.1 ((q.2.1 + q.1 q.2.2) % 256)))) (C := RX1) (T := TX1) (N := 5) hx hb hts in_X1 hown hK hP 0 rfl rfl 2 (by decide) (hts _ q38) (fun _ h9 => h9) rfl dX1_processBytes_91 ?_
      refine lv_sipush (v := nI 255) hx hb dX1_processBytes_94 (by decide) ?_
      refine lv_iand hx hb dX1_processBytes_97 ?_
      refine jas (y := nI (q.1 ((q.2.1 + q.1 q.2.2) % 256))) (bI_and (hq.1 _)) ?_
      refine jbald hx hb hK hP 1 rfl (q.1 ((q.2.1 + q.1 q.2.2) % 256)) (hq.1 _) (by decide) dX1_processBytes_98 ?_
      refine jas (y := bI (q.1 (q.1 ((q.2.1 + q.1 q.2.2) % 256)))) rfl ?_
      refine lv_sipush (v := nI 255) hx hb dX1_processBytes_99 (by decide) ?_
      refine lv_iand hx hb dX1_processBytes_102 ?_
      refine jas (y := nI (q.1 (q.1 ((q.2.1 + q.1 q.2.2) % 256)))) (bI_and (hq.1 _)) ?_
      refine jbald hx hb hK hP 1 rfl (q.1 (q.1 ((q.2.1 + q.1 q.2.2) % 256))) (hq.1 _) (by decide) dX1_processBytes_103 ?_
      refine jas (y := bI (q.1 (q.1 (q.1 ((q.2.1 + q.1 q.2.2) % 256))))) rfl ?_
      refine lv_iconst (v := nI 1) hx hb dX1_processBytes_104 (by decide) ?_
      refine lv_iadd hx hb dX1_processBytes_105 ?_
      refine lv_sipush (v := nI 255) hx hb dX1_processBytes_106 (by decide) ?_
      refine lv_iand hx hb dX1_processBytes_109 ?_
      refine jas (y := nI ((q.1 (q.1 (q.1 ((q.2.1 + q.1 q.2.2) % 256))) + 1) % 256)) (ix1 (hq.1 _)) ?_
      refine jbald hx hb hK hP 1 rfl ((q.1 (q.1 (q.1 ((q.2.1 + q.1 q.2.2) % 256))) + 1) % 256) (Nat.mod_lt _ (by decide)) (by decide) dX1_processBytes_110 ?_
      refine jas (y := bI (nz q)) rfl ?_
      refine lv_istore (lv' := [(7, .int (bI (nz q))), (0, .ref h0), (1, .ref t0), (2, .int (nI f)), (3, .int (nI n0)), (4, .ref o0), (5, .int (nI 0)), (6, .int (nI i))]) hx hb dX1_processBytes_111 hl (by decide) rfl (fun ls hl => ?_)
      refine lv_aload_n hx hb dX1_processBytes_113 rfl (lv_at hl 1 rfl) ?_
      refine va_get (D := D) (ci := 1) (v := .ref a0) (C := RX1) (T := TX1) (N := 5) hx hb hts in_X1 hown hK hP 0 rfl rfl 1 (by decide) (hts _ q37) (fun _ h9 => h9) rfl dX1_processBytes_114 ?_
      refine lv_aload_n hx hb dX1_processBytes_117 rfl (lv_at hl 1 rfl) ?_
      refine va_get (D := D) (ci := 1) (v := .int (bI q.2.2)) (C := RX1) (T := TX1) (N := 5) hx hb hts in_X1 hown hK hP 0 rfl rfl 0 (by decide) (hts _ q36) (fun _ h9 => h9) rfl dX1_processBytes_118 ?_
      refine lv_sipush (v := nI 255) hx hb dX1_processBytes_121 (by decide) ?_
      refine lv_iand hx hb dX1_processBytes_124 ?_
      refine jas (y := nI q.2.2) (bI_and hq.2.2) ?_
      refine jbald hx hb hK hP 1 rfl q.2.2 hq.2.2 (by decide) dX1_processBytes_125 ?_
      refine jas (y := bI (q.1 q.2.2)) rfl ?_
      refine lv_istore (lv' := [(8, .int (bI (q.1 q.2.2))), (7, .int (bI (nz q))), (0, .ref h0), (1, .ref t0), (2, .int (nI f)), (3, .int (nI n0)), (4, .ref o0), (5, .int (nI 0)), (6, .int (nI i))]) hx hb dX1_processBytes_126 hl (by decide) rfl (fun ls hl => ?_)
      refine lv_aload_n hx hb dX1_processBytes_128 rfl (lv_at hl 2 rfl) ?_
      refine va_get (D := D) (ci := 1) (v := .ref a0) (C := RX1) (T := TX1) (N := 5) hx hb hts in_X1 hown hK hP 0 rfl rfl 1 (by decide) (hts _ q37) (fun _ h9 => h9) rfl dX1_processBytes_129 ?_
      refine lv_aload_n hx hb dX1_processBytes_132 rfl (lv_at hl 2 rfl) ?_
      refine va_get (D := D) (ci := 1) (v := .int (bI q.2.2)) (C := RX1) (T := TX1) (N := 5) hx hb hts in_X1 hown hK hP 0 rfl rfl 0 (by decide) (hts _ q36) (fun _ h9 => h9) rfl dX1_processBytes_133 ?_
      refine lv_sipush (v := nI 255) hx hb dX1_processBytes_136 (by decide) ?_
      refine lv_iand hx hb dX1_processBytes_139 ?_
      refine jas (y := nI q.2.2) (bI_and hq.2.2) ?_
      refine lv_aload_n hx hb dX1_processBytes_140 rfl (lv_at hl 2 rfl) ?_
      refine va_get (D := D) (ci := 1) (v := .ref a0) (C := RX1) (T := TX1) (N := 5) hx hb hts in_X1 hown hK hP 0 rfl rfl 1 (by decide) (hts _ q37) (fun _ h9 => h9) rfl dX1_processBytes_141 ?_
      refine lv_aload_n hx hb dX1_processBytes_144 rfl (lv_at hl 2 rfl) ?_
      refine va_get (D := D) (ci := 1) (v := .int (bI (q.1 ((q.2.1 + q.1 q.2.2) % 256)))) (C := RX1) (T := TX1) (N := 5) hx hb hts in_X1 hown hK hP 0 rfl rfl 2 (by decide) (hts _ q38) (fun _ h9 => h9) rfl dX1_processBytes_145 ?_
      refine lv_sipush (v := nI 255) hx hb dX1_processBytes_148 (by decide) ?_
      refine lv_iand hx hb dX1_processBytes_151 ?_
      refine jas (y := nI (q.1 ((q.2.1 + q.1 q.2.2) % 256))) (bI_and (hq.1 _)) ?_
      refine jbald hx hb hK hP 1 rfl (q.1 ((q.2.1 + q.1 q.2.2) % 256)) (hq.1 _) (by decide) dX1_processBytes_152 ?_
      refine jas (y := bI (q.1 (q.1 ((q.2.1 + q.1 q.2.2) % 256)))) rfl ?_
      refine jbast hx hb hK hP hD hS 1 rfl q.2.2 hq.2.2 (by decide) (bP (updN q.1 q.2.2 (q.1 (q.1 ((q.2.1 + q.1 q.2.2) % 256))))) (by rw [bI_vb, bP_upd]) dX1_processBytes_153 (fun H locs hP hD hS => ?_)
      have hP : va_P D vwCl [jO h0 1 [.int (bI q.2.2), .ref a0, .int (bI (q.1 ((q.2.1 + q.1 q.2.2) % 256))), x3, x4], jA a0 B.1 256 (bP (updN q.1 q.2.2 (q.1 (q.1 ((q.2.1 + q.1 q.2.2) % 256))))), jA t0 B.1 256 T, jA o0 B.1 n0 (runO T f q0 i)] H := hP
      have hD : va_D A [jO h0 1 [.int (bI q.2.2), .ref a0, .int (bI (q.1 ((q.2.1 + q.1 q.2.2) % 256))), x3, x4], jA a0 B.1 256 (bP (updN q.1 q.2.2 (q.1 (q.1 ((q.2.1 + q.1 q.2.2) % 256))))), jA t0 B.1 256 T, jA o0 B.1 n0 (runO T f q0 i)] := hD
      refine lv_aload_n hx hb dX1_processBytes_154 rfl (lv_at hl 2 rfl) ?_
      refine va_get (D := D) (ci := 1) (v := .ref a0) (C := RX1) (T := TX1) (N := 5) hx hb hts in_X1 hown hK hP 0 rfl rfl 1 (by decide) (hts _ q37) (fun _ h9 => h9) rfl dX1_processBytes_155 ?_
      refine lv_aload_n hx hb dX1_processBytes_158 rfl (lv_at hl 2 rfl) ?_
      refine va_get (D := D) (ci := 1) (v := .int (bI (q.1 ((q.2.1 + q.1 q.2.2) % 256)))) (C := RX1) (T := TX1) (N := 5) hx hb hts in_X1 hown hK hP 0 rfl rfl 2 (by decide) (hts _ q38) (fun _ h9 => h9) rfl dX1_processBytes_159 ?_
      refine lv_sipush (v := nI 255) hx hb dX1_processBytes_162 (by decide) ?_
      refine lv_iand hx hb dX1_processBytes_165 ?_
      refine jas (y := nI (q.1 ((q.2.1 + q.1 q.2.2) % 256))) (bI_and (hq.1 _)) ?_
      refine lv_iload hx hb dX1_processBytes_166 (lv_at hl 0 rfl) ?_
      refine jbast hx hb hK hP hD hS 1 rfl (q.1 ((q.2.1 + q.1 q.2.2) % 256)) (hq.1 _) (by decide) (bP (swp q.1 q.2.2 (q.1 ((q.2.1 + q.1 q.2.2) % 256)))) (by rw [bI_vb, bP_upd]; rfl) dX1_processBytes_168 (fun H locs hP hD hS => ?_)
      have hP : va_P D vwCl [jO h0 1 [.int (bI q.2.2), .ref a0, .int (bI (q.1 ((q.2.1 + q.1 q.2.2) % 256))), x3, x4], jA a0 B.1 256 (bP (swp q.1 q.2.2 (q.1 ((q.2.1 + q.1 q.2.2) % 256)))), jA t0 B.1 256 T, jA o0 B.1 n0 (runO T f q0 i)] H := hP
      have hD : va_D A [jO h0 1 [.int (bI q.2.2), .ref a0, .int (bI (q.1 ((q.2.1 + q.1 q.2.2) % 256))), x3, x4], jA a0 B.1 256 (bP (swp q.1 q.2.2 (q.1 ((q.2.1 + q.1 q.2.2) % 256)))), jA t0 B.1 256 T, jA o0 B.1 n0 (runO T f q0 i)] := hD
      refine lv_aload_n hx hb dX1_processBytes_169 rfl (lv_at hl 2 rfl) ?_
      refine lv_aload_n hx hb dX1_processBytes_170 rfl (lv_at hl 2 rfl) ?_
      refine va_get (D := D) (ci := 1) (v := .int (bI q.2.2)) (C := RX1) (T := TX1) (N := 5) hx hb hts in_X1 hown hK hP 0 rfl rfl 0 (by decide) (hts _ q36) (fun _ h9 => h9) rfl dX1_processBytes_171 ?_
      refine lv_iconst (v := nI 1) hx hb dX1_processBytes_174 (by decide) ?_
      refine lv_iadd hx hb dX1_processBytes_175 ?_
      refine lv_sipush (v := nI 255) hx hb dX1_processBytes_176 (by decide) ?_
      refine lv_iand hx hb dX1_processBytes_179 ?_
      refine jas (y := nI ((q.2.2 + 1) % 256)) (ix1 hq.2.2) ?_
      refine lv_i2b (v := (nI ((q.2.2 + 1) % 256)).toInt8.toInt32) hx hb dX1_processBytes_180 rfl ?_
      refine jas (y := bI ((q.2.2 + 1) % 256)) rfl ?_
      refine va_put (D := D) (ci := 1) (v := .int (bI ((q.2.2 + 1) % 256))) (ty := .byte) (C := RX1) (T := TX1) (N := 5) hx hb hts in_X1 tyX1 tyX1_ok nmX1 hown hK hP hD hS 0 rfl rfl 0 (by decide) (hts _ q36) (fun _ h9 => h9) rfl (by decide +kernel) (nb_bI _) (fb_bI _) (Nat.le_of_ble_eq_true rfl) dX1_processBytes_181 (fun H locs hP hD hS => ?_)
      have hP : va_P D vwCl [jO h0 1 [.int (bI ((q.2.2 + 1) % 256)), .ref a0, .int (bI (q.1 ((q.2.1 + q.1 q.2.2) % 256))), x3, x4], jA a0 B.1 256 (bP (swp q.1 q.2.2 (q.1 ((q.2.1 + q.1 q.2.2) % 256)))), jA t0 B.1 256 T, jA o0 B.1 n0 (runO T f q0 i)] H := hP
      have hD : va_D A [jO h0 1 [.int (bI ((q.2.2 + 1) % 256)), .ref a0, .int (bI (q.1 ((q.2.1 + q.1 q.2.2) % 256))), x3, x4], jA a0 B.1 256 (bP (swp q.1 q.2.2 (q.1 ((q.2.1 + q.1 q.2.2) % 256)))), jA t0 B.1 256 T, jA o0 B.1 n0 (runO T f q0 i)] := hD
      refine lv_aload hx hb dX1_processBytes_184 (lv_at hl 6 rfl) ?_
      refine lv_iload hx hb dX1_processBytes_186 (lv_at hl 8 rfl) ?_
      refine lv_iload hx hb dX1_processBytes_188 (lv_at hl 7 rfl) ?_
      refine lv_iadd hx hb dX1_processBytes_190 ?_
      refine jas (y := nI i) (by rw [nI_add, Nat.add_zero]) ?_
      refine lv_aload_n hx hb dX1_processBytes_191 rfl (lv_at hl 3 rfl) ?_
      refine lv_iload hx hb dX1_processBytes_192 (lv_at hl 8 rfl) ?_
      refine lv_iload_n hx hb dX1_processBytes_194 rfl (lv_at hl 4 rfl) ?_
      refine lv_iadd hx hb dX1_processBytes_195 ?_
      refine jas (y := nI (f + i)) (by rw [nI_add, Nat.add_comm]) ?_
      refine jbald hx hb hK hP 2 rfl (f + i) (by omega) (by decide) dX1_processBytes_196 ?_
      refine lv_iload hx hb dX1_processBytes_197 (lv_at hl 1 rfl) ?_
      refine lv_ixor hx hb dX1_processBytes_199 ?_
      refine lv_i2b (v := ((T (f + i)) ^^^ (bI (nz q))).toInt8.toInt32) hx hb dX1_processBytes_200 rfl ?_
      refine jas (y := (T (f + i) ^^^ nI (nz q)).toInt8.toInt32) (xor_nar _ _) ?_
      refine jbast hx hb hK hP hD hS 3 rfl i (by omega) (by omega) (runO T f q0 (i + 1)) (by rw [vb_idem, hq0]; exact runO_S T f q0 i) dX1_processBytes_201 (fun H locs hP hD hS => ?_)
      have hP : va_P D vwCl [jO h0 1 [.int (bI ((q.2.2 + 1) % 256)), .ref a0, .int (bI (q.1 ((q.2.1 + q.1 q.2.2) % 256))), x3, x4], jA a0 B.1 256 (bP (swp q.1 q.2.2 (q.1 ((q.2.1 + q.1 q.2.2) % 256)))), jA t0 B.1 256 T, jA o0 B.1 n0 (runO T f q0 (i + 1))] H := hP
      have hD : va_D A [jO h0 1 [.int (bI ((q.2.2 + 1) % 256)), .ref a0, .int (bI (q.1 ((q.2.1 + q.1 q.2.2) % 256))), x3, x4], jA a0 B.1 256 (bP (swp q.1 q.2.2 (q.1 ((q.2.1 + q.1 q.2.2) % 256)))), jA t0 B.1 256 T, jA o0 B.1 n0 (runO T f q0 (i + 1))] := hD
      refine lv_iinc (v := nI (i + 1)) (lv' := [(6, .int (nI (i + 1))), (8, .int (bI (q.1 q.2.2))), (7, .int (bI (nz q))), (0, .ref h0), (1, .ref t0), (2, .int (nI f)), (3, .int (nI n0)), (4, .ref o0), (5, .int (nI 0))]) hx hb dX1_processBytes_202 hl (k := 8) rfl (jinc i) (by decide) rfl (fun ls hl => ?_)
      refine lv_goto (tgt := 41) hx hb dX1_processBytes_205 (by decide) ?_
      exact ih (i + 1) (nx q) (by omega) (by rw [hq0]; rfl) (okS_nx hq) H locs ls hP hD hS (lv_sub hl [3, 4, 5, 6, 7, 8, 0] rfl)
set_option maxHeartbeats 4000000 in
set_option maxRecDepth 100000 in
/-- processBytes(text, f, n, out, 0) -/
theorem metX1_processBytes (l : Launch) (D : va_G) (B : ClassId × ClassId) (sz : Nat) (h0 a0 t0 o0 f n0 : Nat) (hf : f + n0 ≤ 256) (q0 : (Nat → Nat) × Nat × Nat) (hq0 : okS q0) (T : Nat → Int32) (x3 x4 : Value) : jMi l yX1_processBytes (ws_ yX1_processBytes cX1_processBytes 9 (some .int)) { frames := 0, cells := 0, slots := 0, locals := 0 } D B sz [.ref h0, .ref t0, .int (nI f), .int (nI n0), .ref o0, .int (nI 0)] [jO h0 1 [.int (bI q0.2.2), .ref a0, .int (bI q0.2.1), x3, x4], jA a0 B.1 256 (bP q0.1), jA t0 B.1 256 T, jA o0 B.1 n0 (fun _ => 0)] (S := Unit) (fun r _ => r = nI n0) (fun u => [jO h0 1 [.int (bI (nxN n0 q0).2.2), .ref a0, .int (bI (nxN n0 q0).2.1), x3, x4], jA a0 B.1 256 (bP (nxN n0 q0).1), jA t0 B.1 256 T, jA o0 B.1 n0 (runO T f q0 n0)]) := by
  refine jStartI (by decide) (Nat.le_of_ble_eq_true rfl) ?_
  intro p e s m below meth c A H ls hx hb hr hlk hml hown hin hts hK hP hD hA hS hl
  have hown : s.vm.findClass "VMPCEngine" = some m.cls := hown
  have hl : lv_has ls 9 [(0, .ref h0), (1, .ref t0), (2, .int (nI f)), (3, .int (nI n0)), (4, .ref o0), (5, .int (nI 0))] := hl
  refine lv_iload_n hx hb dX1_processBytes_0 rfl (lv_at hl 2 rfl) ?_
  refine lv_iload_n hx hb dX1_processBytes_1 rfl (lv_at hl 3 rfl) ?_
  refine lv_iadd hx hb dX1_processBytes_2 ?_
  refine jas (y := nI (f + n0)) (nI_add _ _) ?_
  refine lv_aload_n hx hb dX1_processBytes_3 rfl (lv_at hl 1 rfl) ?_
  refine va_alen (v := nI 256) hx hb hK hP 2 0 rfl rfl rfl dX1_processBytes_4 ?_
  refine lv_icmp_le (tgt := 18) hx hb dX1_processBytes_5 (by decide) (fun c_5 => ?_) (fun c_5 => ?_)
  · refine lv_iload hx hb dX1_processBytes_18 (lv_at hl 5 rfl) ?_
    refine lv_iload_n hx hb dX1_processBytes_20 rfl (lv_at hl 3 rfl) ?_
    refine lv_iadd hx hb dX1_processBytes_21 ?_
    refine jas (y := nI n0) (by rw [nI_add, Nat.zero_add]) ?_
    refine lv_aload hx hb dX1_processBytes_22 (lv_at hl 4 rfl) ?_
    refine va_alen (v := nI n0) hx hb hK hP 3 0 rfl rfl rfl dX1_processBytes_24 ?_
    refine lv_icmp_le (tgt := 38) hx hb dX1_processBytes_25 (by decide) (fun c_25 => ?_) (fun c_25 => ?_)
    · refine lv_iconst (v := nI 0) hx hb dX1_processBytes_38 (by decide) ?_
      refine lv_istore (lv' := [(6, .int (nI 0)), (0, .ref h0), (1, .ref t0), (2, .int (nI f)), (3, .int (nI n0)), (4, .ref o0), (5, .int (nI 0))]) hx hb dX1_processBytes_39 hl (by decide) rfl (fun ls hl => ?_)
      rw [← runO_0 T f q0] at hP hD
      refine loopX1_run (q0 := q0) hx hb hml hown hts hK hA hf (fun H locs ls hP hD hS hl => ?_) n0 0 q0 (by omega) rfl hq0 H _ ls hP hD hS (lv_sub hl [1, 2, 3, 4, 5, 6, 0] rfl)
      refine lv_iload_n hx hb dX1_processBytes_208 rfl (lv_at hl 3 rfl) ?_
      exact jiret (()) hx hb hr rfl hlk rfl hP hD hS (Nat.le_of_ble_eq_true rfl) (Nat.le_of_ble_eq_true rfl) dX1_processBytes_209
    · exact absurd (nI_le (Nat.le_refl _) (by omega)) c_25
  · exact absurd (nI_le (by omega) (by decide)) c_5
end
section
set_option maxHeartbeats 4000000 in
set_option maxRecDepth 100000 in
/-- word(to, z, w) -/
theorem metX0_word (l : Launch) (D : va_G) (B : ClassId × ClassId) (sz : Nat) (a0 n0 z : Nat) (hz : z + 4 ≤ n0) (hn0 : n0 ≤ 256) (f : Nat → Int32) (w : Int32) : jMv l yX0_word (ws_ yX0_word cX0_word 3 none) { frames := 0, cells := 0, slots := 0, locals := 0 } D B sz [.ref a0, .int (nI z), .int w] [jA a0 B.1 n0 f] (S := Unit) (fun _ => True) (fun u => [jA a0 B.1 n0 (wrd f z w)]) := by
  refine jStartV (by decide) (Nat.le_of_ble_eq_true rfl) ?_
  intro p e s m below meth c A H ls hx hb hr hlk hml hown hin hts hK hP hD hA hS hl
  have hown : s.vm.findClass "VmpcDesk" = some m.cls := hown
  have hl : lv_has ls 3 [(0, .ref a0), (1, .int (nI z)), (2, .int w)] := hl
  refine lv_aload_n hx hb dX0_word_0 rfl (lv_at hl 0 rfl) ?_
  refine lv_iload_n hx hb dX0_word_1 rfl (lv_at hl 1 rfl) ?_
  refine lv_iload_n hx hb dX0_word_2 rfl (lv_at hl 2 rfl) ?_
  refine lv_bipush (v := nI 24) hx hb dX0_word_3 (by decide) ?_
  refine lv_ishr hx hb dX0_word_5 ?_
  refine lv_i2b (v := (w >>> ((nI 24) &&& 31)).toInt8.toInt32) hx hb dX0_word_6 rfl ?_
  refine jbast hx hb hK hP hD hS 0 rfl z (by omega) (by omega) (upd f z ((w >>> (nI 24 &&& 31)).toInt8.toInt32)) (by rw [vb_idem]) dX0_word_7 (fun H locs hP hD hS => ?_)
  have hP : va_P D vwCl [jA a0 B.1 n0 (upd f z ((w >>> (nI 24 &&& 31)).toInt8.toInt32))] H := hP
  have hD : va_D A [jA a0 B.1 n0 (upd f z ((w >>> (nI 24 &&& 31)).toInt8.toInt32))] := hD
  refine lv_aload_n hx hb dX0_word_8 rfl (lv_at hl 0 rfl) ?_
  refine lv_iload_n hx hb dX0_word_9 rfl (lv_at hl 1 rfl) ?_
  refine lv_iconst (v := nI 1) hx hb dX0_word_10 (by decide) ?_
  refine lv_iadd hx hb dX0_word_11 ?_
  refine jas (y := nI (z + 1)) (nI_add _ _) ?_
  refine lv_iload_n hx hb dX0_word_12 rfl (lv_at hl 2 rfl) ?_
  refine lv_bipush (v := nI 16) hx hb dX0_word_13 (by decide) ?_
  refine lv_ishr hx hb dX0_word_15 ?_
  refine lv_i2b (v := (w >>> ((nI 16) &&& 31)).toInt8.toInt32) hx hb dX0_word_16 rfl ?_
  refine jbast hx hb hK hP hD hS 0 rfl (z + 1) (by omega) (by omega) (upd (upd f z ((w >>> (nI 24 &&& 31)).toInt8.toInt32)) (z + 1) ((w >>> (nI 16 &&& 31)).toInt8.toInt32)) (by rw [vb_idem]) dX0_word_17 (fun H locs hP hD hS => ?_)
  have hP : va_P D vwCl [jA a0 B.1 n0 (upd (upd f z ((w >>> (nI 24 &&& 31)).toInt8.toInt32)) (z + 1) ((w >>> (nI 16 &&& 31)).toInt8.toInt32))] H := hP
  have hD : va_D A [jA a0 B.1 n0 (upd (upd f z ((w >>> (nI 24 &&& 31)).toInt8.toInt32)) (z + 1) ((w >>> (nI 16 &&& 31)).toInt8.toInt32))] := hD
  refine lv_aload_n hx hb dX0_word_18 rfl (lv_at hl 0 rfl) ?_
  refine lv_iload_n hx hb dX0_word_19 rfl (lv_at hl 1 rfl) ?_
  refine lv_iconst (v := nI 2) hx hb dX0_word_20 (by decide) ?_
  refine lv_iadd hx hb dX0_word_21 ?_
  refine jas (y := nI (z + 2)) (nI_add _ _) ?_
  refine lv_iload_n hx hb dX0_word_22 rfl (lv_at hl 2 rfl) ?_
  refine lv_bipush (v := nI 8) hx hb dX0_word_23 (by decide) ?_
  refine lv_ishr hx hb dX0_word_25 ?_
  refine lv_i2b (v := (w >>> ((nI 8) &&& 31)).toInt8.toInt32) hx hb dX0_word_26 rfl ?_
  refine jbast hx hb hK hP hD hS 0 rfl (z + 2) (by omega) (by omega) (upd (upd (upd f z ((w >>> (nI 24 &&& 31)).toInt8.toInt32)) (z + 1) ((w >>> (nI 16 &&& 31)).toInt8.toInt32)) (z + 2) ((w >>> (nI 8 &&& 31)).toInt8.toInt32)) (by rw [vb_idem]) dX0_word_27 (fun H locs hP hD hS => ?_)
  have hP : va_P D vwCl [jA a0 B.1 n0 (upd (upd (upd f z ((w >>> (nI 24 &&& 31)).toInt8.toInt32)) (z + 1) ((w >>> (nI 16 &&& 31)).toInt8.toInt32)) (z + 2) ((w >>> (nI 8 &&& 31)).toInt8.toInt32))] H := hP
  have hD : va_D A [jA a0 B.1 n0 (upd (upd (upd f z ((w >>> (nI 24 &&& 31)).toInt8.toInt32)) (z + 1) ((w >>> (nI 16 &&& 31)).toInt8.toInt32)) (z + 2) ((w >>> (nI 8 &&& 31)).toInt8.toInt32))] := hD
  refine lv_aload_n hx hb dX0_word_28 rfl (lv_at hl 0 rfl) ?_
  refine lv_iload_n hx hb dX0_word_29 rfl (lv_at hl 1 rfl) ?_
  refine lv_iconst (v := nI 3) hx hb dX0_word_30 (by decide) ?_
  refine lv_iadd hx hb dX0_word_31 ?_
  refine jas (y := nI (z + 3)) (nI_add _ _) ?_
  refine lv_iload_n hx hb dX0_word_32 rfl (lv_at hl 2 rfl) ?_
  refine lv_i2b (v := w.toInt8.toInt32) hx hb dX0_word_33 rfl ?_
  refine jbast hx hb hK hP hD hS 0 rfl (z + 3) (by omega) (by omega) (upd (upd (upd (upd f z ((w >>> (nI 24 &&& 31)).toInt8.toInt32)) (z + 1) ((w >>> (nI 16 &&& 31)).toInt8.toInt32)) (z + 2) ((w >>> (nI 8 &&& 31)).toInt8.toInt32)) (z + 3) (w.toInt8.toInt32)) (by rw [vb_idem]) dX0_word_34 (fun H locs hP hD hS => ?_)
  have hP : va_P D vwCl [jA a0 B.1 n0 (upd (upd (upd (upd f z ((w >>> (nI 24 &&& 31)).toInt8.toInt32)) (z + 1) ((w >>> (nI 16 &&& 31)).toInt8.toInt32)) (z + 2) ((w >>> (nI 8 &&& 31)).toInt8.toInt32)) (z + 3) (w.toInt8.toInt32))] H := hP
  have hD : va_D A [jA a0 B.1 n0 (upd (upd (upd (upd f z ((w >>> (nI 24 &&& 31)).toInt8.toInt32)) (z + 1) ((w >>> (nI 16 &&& 31)).toInt8.toInt32)) (z + 2) ((w >>> (nI 8 &&& 31)).toInt8.toInt32)) (z + 3) (w.toInt8.toInt32))] := hD
  exact jvret (()) hx hb hr hlk trivial hP hD hS (Nat.le_of_ble_eq_true rfl) (Nat.le_of_ble_eq_true rfl) dX0_word_35
set_option maxHeartbeats 4000000 in
set_option maxRecDepth 100000 in
/-- from(x) -/
theorem metX0_from (l : Launch) (D : va_G) (B : ClassId × ClassId) (sz : Nat) (h0 z : Nat) (hz : z ≤ 256) (x : Int32) (x0 x1 x2 x3 x4 x5 x7 : Value) : jMi l yX0_from (ws_ yX0_from cX0_from 2 (some .int)) { frames := 0, cells := 0, slots := 0, locals := 0 } D B sz [.ref h0, .int x] [jO h0 0 [x0, x1, x2, x3, x4, x5, .int (nI z), x7]] (S := Unit) (fun r _ => r = nI (frm x z)) (fun u => [jO h0 0 [x0, x1, x2, x3, x4, x5, .int (nI z), x7]]) := by
  refine jStartI (by decide) (Nat.le_of_ble_eq_true rfl) ?_
  intro p e s m below meth c A H ls hx hb hr hlk hml hown hin hts hK hP hD hA hS hl
  have hown : s.vm.findClass "VmpcDesk" = some m.cls := hown
  have hl : lv_has ls 2 [(0, .ref h0), (1, .int x)] := hl
  refine lv_iload_n hx hb dX0_from_0 rfl (lv_at hl 1 rfl) ?_
  refine lv_ldc (v := 2147483647) hx hb hown (hts _ q93) dX0_from_1 ?_
  refine lv_iand hx hb dX0_from_3 ?_
  refine jas (y := nI (lo31 x)) (and31 x) ?_
  refine lv_aload_n hx hb dX0_from_4 rfl (lv_at hl 0 rfl) ?_
  refine va_get (D := D) (ci := 0) (v := .int (nI z)) (C := RX0) (T := TX0) (N := 8) hx hb hts in_X0 hown hK hP 0 rfl rfl 6 (by decide) (hts _ q58) (fun _ h9 => h9) rfl dX0_from_5 ?_
  refine lv_iconst (v := nI 1) hx hb dX0_from_8 (by decide) ?_
  refine lv_iadd hx hb dX0_from_9 ?_
  refine jas (y := nI (z + 1)) (nI_add _ _) ?_
  refine lv_irem hx hb dX0_from_10 (nI_ne0 (by omega) (by omega)) ?_
  refine jas (y := nI (frm x z)) (rem_nI (lo31_lt x) (by omega) (by omega)) ?_
  exact jiret (()) hx hb hr rfl hlk rfl hP hD hS (Nat.le_of_ble_eq_true rfl) (Nat.le_of_ble_eq_true rfl) dX0_from_11
set_option maxHeartbeats 4000000 in
set_option maxRecDepth 100000 in
/-- count(f, y) -/
theorem metX0_count (l : Launch) (D : va_G) (B : ClassId × ClassId) (sz : Nat) (h0 z f : Nat) (hz : z ≤ 256) (hf : f ≤ z) (y : Int32) (x0 x1 x2 x3 x4 x5 x7 : Value) : jMi l yX0_count (ws_ yX0_count cX0_count 3 (some .int)) { frames := 0, cells := 0, slots := 0, locals := 0 } D B sz [.ref h0, .int (nI f), .int y] [jO h0 0 [x0, x1, x2, x3, x4, x5, .int (nI z), x7]] (S := Unit) (fun r _ => r = nI (cnt y z f)) (fun u => [jO h0 0 [x0, x1, x2, x3, x4, x5, .int (nI z), x7]]) := by
  refine jStartI (by decide) (Nat.le_of_ble_eq_true rfl) ?_
  intro p e s m below meth c A H ls hx hb hr hlk hml hown hin hts hK hP hD hA hS hl
  have hown : s.vm.findClass "VmpcDesk" = some m.cls := hown
  have hl : lv_has ls 3 [(0, .ref h0), (1, .int (nI f)), (2, .int y)] := hl
  refine lv_iload_n hx hb dX0_count_0 rfl (lv_at hl 2 rfl) ?_
  refine lv_ldc (v := 2147483647) hx hb hown (hts _ q93) dX0_count_1 ?_
  refine lv_iand hx hb dX0_count_3 ?_
  refine jas (y := nI (lo31 y)) (and31 y) ?_
  refine lv_aload_n hx hb dX0_count_4 rfl (lv_at hl 0 rfl) ?_
  refine va_get (D := D) (ci := 0) (v := .int (nI z)) (C := RX0) (T := TX0) (N := 8) hx hb hts in_X0 hown hK hP 0 rfl rfl 6 (by decide) (hts _ q58) (fun _ h9 => h9) rfl dX0_count_5 ?_
  refine lv_iload_n hx hb dX0_count_8 rfl (lv_at hl 1 rfl) ?_
  refine lv_isub hx hb dX0_count_9 ?_
  refine jas (y := nI (z - f)) (pk_sub hf) ?_
  refine lv_iconst (v := nI 1) hx hb dX0_count_10 (by decide) ?_
  refine lv_iadd hx hb dX0_count_11 ?_
  refine jas (y := nI (z - f + 1)) (nI_add _ _) ?_
  refine lv_irem hx hb dX0_count_12 (nI_ne0 (by omega) (by omega)) ?_
  refine jas (y := nI (cnt y z f)) (rem_nI (lo31_lt y) (by omega) (by omega)) ?_
  exact jiret (()) hx hb hr rfl hlk rfl hP hD hS (Nat.le_of_ble_eq_true rfl) (Nat.le_of_ble_eq_true rfl) dX0_count_13
set_option maxHeartbeats 4000000 in
set_option maxRecDepth 100000 in
/-- trim(x) -/
theorem metX0_trim (l : Launch) (D : va_G) (B : ClassId × ClassId) (sz : Nat) (h0 z : Nat) (hz : z ≤ 256) (x : Int32) (x0 x1 x2 x3 x4 x5 x7 : Value) : jMv l yX0_trim (ws_ yX0_trim cX0_trim 2 none) { frames := 1, cells := 0, slots := 0, locals := 40 } D B sz [.ref h0, .int x] [jO h0 0 [x0, x1, x2, x3, x4, x5, .int (nI z), x7]] (S := Unit) (fun _ => True) (fun u => [jO h0 0 [x0, x1, x2, x3, x4, x5, .int (nI (frm x z)), x7]]) := by
  refine jStartV (by decide) (Nat.le_of_ble_eq_true rfl) ?_
  intro p e s m below meth c A H ls hx hb hr hlk hml hown hin hts hK hP hD hA hS hl
  have hown : s.vm.findClass "VmpcDesk" = some m.cls := hown
  have hl : lv_has ls 2 [(0, .ref h0), (1, .int x)] := hl
  refine lv_aload_n hx hb dX0_trim_0 rfl (lv_at hl 0 rfl) ?_
  refine lv_aload_n hx hb dX0_trim_1 rfl (lv_at hl 0 rfl) ?_
  refine lv_iload_n hx hb dX0_trim_2 rfl (lv_at hl 1 rfl) ?_
  refine jcalli (ws := [jO h0 0 [x0, x1, x2, x3, x4, x5, .int (nI z), x7]]) (wc := [jO h0 0 [x0, x1, x2, x3, x4, x5, .int (nI z), x7]]) [0] rfl (by decide) (fun _ => rfl) hP hD hS hA (va_runV (C := RX0) (b := h0) (As := [.int x]) (rest := [.ref h0]) ⟨hx, hb, hml, hown, hts⟩ (metX0_from l D B H.size h0 z hz x x0 x1 x2 x3 x4 x5 x7) (cwV 1 hts (lw_V q89 q91 qs0 q9 q92) rfl rfl rfl (by decide +kernel) ⟨Nat.le_of_ble_eq_true rfl, Nat.le_of_ble_eq_true rfl⟩) (jPreV (ci := 0) (q0 := 0) hK (hP.sub (ws' := [jO h0 0 [x0, x1, x2, x3, x4, x5, .int (nI z), x7]]) [0] rfl) (hD.sub (ws' := [jO h0 0 [x0, x1, x2, x3, x4, x5, .int (nI z), x7]]) [0] (by decide) rfl) rfl rfl) rfl rfl hl.1 rfl (lv_room (Nat.le_of_ble_eq_true rfl)) dX0_trim_3 ⟨Nat.le_of_ble_eq_true rfl, Nat.le_of_ble_eq_true rfl⟩) (fun r_3 _ H locs hu hP hD hS => ?_)
  subst hu
  have hP : va_P D vwCl [jO h0 0 [x0, x1, x2, x3, x4, x5, .int (nI z), x7]] H := hP
  have hD : va_D A [jO h0 0 [x0, x1, x2, x3, x4, x5, .int (nI z), x7]] := hD
  refine va_put (D := D) (ci := 0) (v := .int (nI (frm x z))) (ty := .int) (C := RX0) (T := TX0) (N := 8) hx hb hts in_X0 tyX0 tyX0_ok nmX0 hown hK hP hD hS 0 rfl rfl 6 (by decide) (hts _ q58) (fun _ h9 => h9) rfl (by decide +kernel) rfl rfl (Nat.le_of_ble_eq_true rfl) dX0_trim_6 (fun H locs hP hD hS => ?_)
  have hP : va_P D vwCl [jO h0 0 [x0, x1, x2, x3, x4, x5, .int (nI (frm x z)), x7]] H := hP
  have hD : va_D A [jO h0 0 [x0, x1, x2, x3, x4, x5, .int (nI (frm x z)), x7]] := hD
  exact jvret (()) hx hb hr hlk trivial hP hD hS (Nat.le_of_ble_eq_true rfl) (Nat.le_of_ble_eq_true rfl) dX0_trim_9
set_option maxHeartbeats 4000000 in
set_option maxRecDepth 100000 in
/-- put(a, b, c, d) -/
theorem metX0_put (l : Launch) (D : va_G) (B : ClassId × ClassId) (sz : Nat) (h0 t0 z : Nat) (hz : z ≤ 256) (T : Nat → Int32) (a b c_ d : Int32) (x0 x1 x2 x3 x4 x7 : Value) : jMi l yX0_put (ws_ yX0_put cX0_put 5 (some .boolean)) { frames := 1, cells := 0, slots := 0, locals := 40 } D B sz [.ref h0, .int a, .int b, .int c_, .int d] [jO h0 0 [x0, x1, x2, x3, x4, .ref t0, .int (nI z), x7], jA t0 B.1 256 T] (S := Unit) (fun r _ => r = putR z) (fun u => [jO h0 0 [x0, x1, x2, x3, x4, .ref t0, .int (nI (putZ z)), x7], jA t0 B.1 256 (putT T z a b c_ d)]) := by
  refine jStartI (by decide) (Nat.le_of_ble_eq_true rfl) ?_
  intro p e s m below meth c A H ls hx hb hr hlk hml hown hin hts hK hP hD hA hS hl
  have hown : s.vm.findClass "VmpcDesk" = some m.cls := hown
  have hl : lv_has ls 5 [(0, .ref h0), (1, .int a), (2, .int b), (3, .int c_), (4, .int d)] := hl
  refine lv_aload_n hx hb dX0_put_0 rfl (lv_at hl 0 rfl) ?_
  refine va_get (D := D) (ci := 0) (v := .int (nI z)) (C := RX0) (T := TX0) (N := 8) hx hb hts in_X0 hown hK hP 0 rfl rfl 6 (by decide) (hts _ q58) (fun _ h9 => h9) rfl dX0_put_1 ?_
  refine lv_aload_n hx hb dX0_put_4 rfl (lv_at hl 0 rfl) ?_
  refine va_get (D := D) (ci := 0) (v := .ref t0) (C := RX0) (T := TX0) (N := 8) hx hb hts in_X0 hown hK hP 0 rfl rfl 5 (by decide) (hts _ q57) (fun _ h9 => h9) rfl dX0_put_5 ?_
  refine va_alen (v := nI 256) hx hb hK hP 1 0 rfl rfl rfl dX0_put_8 ?_
  refine lv_bipush (v := nI 16) hx hb dX0_put_9 (by decide) ?_
  refine lv_isub hx hb dX0_put_11 ?_
  refine jas (y := nI 240) (by decide) ?_
  refine lv_icmp_le (tgt := 17) hx hb dX0_put_12 (by decide) (fun c_12 => ?_) (fun c_12 => ?_)
  · have hz2 : z ≤ 240 := (nI_leI (by omega) (by decide)).mp c_12
    refine lv_aload_n hx hb dX0_put_17 rfl (lv_at hl 0 rfl) ?_
    refine va_get (D := D) (ci := 0) (v := .ref t0) (C := RX0) (T := TX0) (N := 8) hx hb hts in_X0 hown hK hP 0 rfl rfl 5 (by decide) (hts _ q57) (fun _ h9 => h9) rfl dX0_put_18 ?_
    refine lv_aload_n hx hb dX0_put_21 rfl (lv_at hl 0 rfl) ?_
    refine va_get (D := D) (ci := 0) (v := .int (nI z)) (C := RX0) (T := TX0) (N := 8) hx hb hts in_X0 hown hK hP 0 rfl rfl 6 (by decide) (hts _ q58) (fun _ h9 => h9) rfl dX0_put_22 ?_
    refine lv_iload_n hx hb dX0_put_25 rfl (lv_at hl 1 rfl) ?_
    refine jcallv (ws := [jO h0 0 [x0, x1, x2, x3, x4, .ref t0, .int (nI z), x7], jA t0 B.1 256 T]) (wc := [jA t0 B.1 256 T]) [1] rfl (by decide) (fun _ => rfl) hP hD hS hA (va_runS (As := [.ref t0, .int (nI z), .int a]) (rest := []) ⟨hx, hb, hml, hown, hts⟩ (metX0_word l D B H.size t0 256 z (by omega) (by omega) (T) a) (va_cwS 3 hts (lw_S q82 q83 q9 q84) rfl rfl rfl (by decide +kernel) ⟨Nat.le_of_ble_eq_true rfl, Nat.le_of_ble_eq_true rfl⟩) (jPreS hK (hP.sub (ws' := [jA t0 B.1 256 T]) [1] rfl) (hD.sub (ws' := [jA t0 B.1 256 T]) [1] (by decide) rfl)) rfl rfl hl.1 rfl (lv_room (Nat.le_of_ble_eq_true rfl)) dX0_put_26 ⟨Nat.le_of_ble_eq_true rfl, Nat.le_of_ble_eq_true rfl⟩) (fun _ H locs hu hP hD hS => ?_)
    have hP : va_P D vwCl [jO h0 0 [x0, x1, x2, x3, x4, .ref t0, .int (nI z), x7], jA t0 B.1 256 (wrd T z a)] H := hP
    have hD : va_D A [jO h0 0 [x0, x1, x2, x3, x4, .ref t0, .int (nI z), x7], jA t0 B.1 256 (wrd T z a)] := hD
    refine lv_aload_n hx hb dX0_put_29 rfl (lv_at hl 0 rfl) ?_
    refine va_get (D := D) (ci := 0) (v := .ref t0) (C := RX0) (T := TX0) (N := 8) hx hb hts in_X0 hown hK hP 0 rfl rfl 5 (by decide) (hts _ q57) (fun _ h9 => h9) rfl dX0_put_30 ?_
    refine lv_aload_n hx hb dX0_put_33 rfl (lv_at hl 0 rfl) ?_
    refine va_get (D := D) (ci := 0) (v := .int (nI z)) (C := RX0) (T := TX0) (N := 8) hx hb hts in_X0 hown hK hP 0 rfl rfl 6 (by decide) (hts _ q58) (fun _ h9 => h9) rfl dX0_put_34 ?_
    refine lv_iconst (v := nI 4) hx hb dX0_put_37 (by decide) ?_
    refine lv_iadd hx hb dX0_put_38 ?_
    refine jas (y := nI (z + 4)) (nI_add _ _) ?_
    refine lv_iload_n hx hb dX0_put_39 rfl (lv_at hl 2 rfl) ?_
    refine jcallv (ws := [jO h0 0 [x0, x1, x2, x3, x4, .ref t0, .int (nI z), x7], jA t0 B.1 256 (wrd T z a)]) (wc := [jA t0 B.1 256 (wrd T z a)]) [1] rfl (by decide) (fun _ => rfl) hP hD hS hA (va_runS (As := [.ref t0, .int (nI (z + 4)), .int b]) (rest := []) ⟨hx, hb, hml, hown, hts⟩ (metX0_word l D B H.size t0 256 (z + 4) (by omega) (by omega) (wrd T z a) b) (va_cwS 3 hts (lw_S q82 q83 q9 q84) rfl rfl rfl (by decide +kernel) ⟨Nat.le_of_ble_eq_true rfl, Nat.le_of_ble_eq_true rfl⟩) (jPreS hK (hP.sub (ws' := [jA t0 B.1 256 (wrd T z a)]) [1] rfl) (hD.sub (ws' := [jA t0 B.1 256 (wrd T z a)]) [1] (by decide) rfl)) rfl rfl hl.1 rfl (lv_room (Nat.le_of_ble_eq_true rfl)) dX0_put_40 ⟨Nat.le_of_ble_eq_true rfl, Nat.le_of_ble_eq_true rfl⟩) (fun _ H locs hu hP hD hS => ?_)
    have hP : va_P D vwCl [jO h0 0 [x0, x1, x2, x3, x4, .ref t0, .int (nI z), x7], jA t0 B.1 256 (wrd (wrd T z a) (z + 4) b)] H := hP
    have hD : va_D A [jO h0 0 [x0, x1, x2, x3, x4, .ref t0, .int (nI z), x7], jA t0 B.1 256 (wrd (wrd T z a) (z + 4) b)] := hD
    refine lv_aload_n hx hb dX0_put_43 rfl (lv_at hl 0 rfl) ?_
    refine va_get (D := D) (ci := 0) (v := .ref t0) (C := RX0) (T := TX0) (N := 8) hx hb hts in_X0 hown hK hP 0 rfl rfl 5 (by decide) (hts _ q57) (fun _ h9 => h9) rfl dX0_put_44 ?_
    refine lv_aload_n hx hb dX0_put_47 rfl (lv_at hl 0 rfl) ?_
    refine va_get (D := D) (ci := 0) (v := .int (nI z)) (C := RX0) (T := TX0) (N := 8) hx hb hts in_X0 hown hK hP 0 rfl rfl 6 (by decide) (hts _ q58) (fun _ h9 => h9) rfl dX0_put_48 ?_
    refine lv_bipush (v := nI 8) hx hb dX0_put_51 (by decide) ?_
    refine lv_iadd hx hb dX0_put_53 ?_
    refine jas (y := nI (z + 8)) (nI_add _ _) ?_
    refine lv_iload_n hx hb dX0_put_54 rfl (lv_at hl 3 rfl) ?_
    refine jcallv (ws := [jO h0 0 [x0, x1, x2, x3, x4, .ref t0, .int (nI z), x7], jA t0 B.1 256 (wrd (wrd T z a) (z + 4) b)]) (wc := [jA t0 B.1 256 (wrd (wrd T z a) (z + 4) b)]) [1] rfl (by decide) (fun _ => rfl) hP hD hS hA (va_runS (As := [.ref t0, .int (nI (z + 8)), .int c_]) (rest := []) ⟨hx, hb, hml, hown, hts⟩ (metX0_word l D B H.size t0 256 (z + 8) (by omega) (by omega) (wrd (wrd T z a) (z + 4) b) c_) (va_cwS 3 hts (lw_S q82 q83 q9 q84) rfl rfl rfl (by decide +kernel) ⟨Nat.le_of_ble_eq_true rfl, Nat.le_of_ble_eq_true rfl⟩) (jPreS hK (hP.sub (ws' := [jA t0 B.1 256 (wrd (wrd T z a) (z + 4) b)]) [1] rfl) (hD.sub (ws' := [jA t0 B.1 256 (wrd (wrd T z a) (z + 4) b)]) [1] (by decide) rfl)) rfl rfl hl.1 rfl (lv_room (Nat.le_of_ble_eq_true rfl)) dX0_put_55 ⟨Nat.le_of_ble_eq_true rfl, Nat.le_of_ble_eq_true rfl⟩) (fun _ H locs hu hP hD hS => ?_)
    have hP : va_P D vwCl [jO h0 0 [x0, x1, x2, x3, x4, .ref t0, .int (nI z), x7], jA t0 B.1 256 (wrd (wrd (wrd T z a) (z + 4) b) (z + 8) c_)] H := hP
    have hD : va_D A [jO h0 0 [x0, x1, x2, x3, x4, .ref t0, .int (nI z), x7], jA t0 B.1 256 (wrd (wrd (wrd T z a) (z + 4) b) (z + 8) c_)] := hD
    refine lv_aload_n hx hb dX0_put_58 rfl (lv_at hl 0 rfl) ?_
    refine va_get (D := D) (ci := 0) (v := .ref t0) (C := RX0) (T := TX0) (N := 8) hx hb hts in_X0 hown hK hP 0 rfl rfl 5 (by decide) (hts _ q57) (fun _ h9 => h9) rfl dX0_put_59 ?_
    refine lv_aload_n hx hb dX0_put_62 rfl (lv_at hl 0 rfl) ?_
    refine va_get (D := D) (ci := 0) (v := .int (nI z)) (C := RX0) (T := TX0) (N := 8) hx hb hts in_X0 hown hK hP 0 rfl rfl 6 (by decide) (hts _ q58) (fun _ h9 => h9) rfl dX0_put_63 ?_
    refine lv_bipush (v := nI 12) hx hb dX0_put_66 (by decide) ?_
    refine lv_iadd hx hb dX0_put_68 ?_
    refine jas (y := nI (z + 12)) (nI_add _ _) ?_
    refine lv_iload hx hb dX0_put_69 (lv_at hl 4 rfl) ?_
    refine jcallv (ws := [jO h0 0 [x0, x1, x2, x3, x4, .ref t0, .int (nI z), x7], jA t0 B.1 256 (wrd (wrd (wrd T z a) (z + 4) b) (z + 8) c_)]) (wc := [jA t0 B.1 256 (wrd (wrd (wrd T z a) (z + 4) b) (z + 8) c_)]) [1] rfl (by decide) (fun _ => rfl) hP hD hS hA (va_runS (As := [.ref t0, .int (nI (z + 12)), .int d]) (rest := []) ⟨hx, hb, hml, hown, hts⟩ (metX0_word l D B H.size t0 256 (z + 12) (by omega) (by omega) (wrd (wrd (wrd T z a) (z + 4) b) (z + 8) c_) d) (va_cwS 3 hts (lw_S q82 q83 q9 q84) rfl rfl rfl (by decide +kernel) ⟨Nat.le_of_ble_eq_true rfl, Nat.le_of_ble_eq_true rfl⟩) (jPreS hK (hP.sub (ws' := [jA t0 B.1 256 (wrd (wrd (wrd T z a) (z + 4) b) (z + 8) c_)]) [1] rfl) (hD.sub (ws' := [jA t0 B.1 256 (wrd (wrd (wrd T z a) (z + 4) b) (z + 8) c_)]) [1] (by decide) rfl)) rfl rfl hl.1 rfl (lv_room (Nat.le_of_ble_eq_true rfl)) dX0_put_71 ⟨Nat.le_of_ble_eq_true rfl, Nat.le_of_ble_eq_true rfl⟩) (fun _ H locs hu hP hD hS => ?_)
    have hP : va_P D vwCl [jO h0 0 [x0, x1, x2, x3, x4, .ref t0, .int (nI z), x7], jA t0 B.1 256 (wrd (wrd (wrd (wrd T z a) (z + 4) b) (z + 8) c_) (z + 12) d)] H := hP
    have hD : va_D A [jO h0 0 [x0, x1, x2, x3, x4, .ref t0, .int (nI z), x7], jA t0 B.1 256 (wrd (wrd (wrd (wrd T z a) (z + 4) b) (z + 8) c_) (z + 12) d)] := hD
    refine lv_aload_n hx hb dX0_put_74 rfl (lv_at hl 0 rfl) ?_
    refine lv_dup hx hb dX0_put_75 rfl ?_
    refine va_get (D := D) (ci := 0) (v := .int (nI z)) (C := RX0) (T := TX0) (N := 8) hx hb hts in_X0 hown hK hP 0 rfl rfl 6 (by decide) (hts _ q58) (fun _ h9 => h9) rfl dX0_put_76 ?_
    refine lv_bipush (v := nI 16) hx hb dX0_put_79 (by decide) ?_
    refine lv_iadd hx hb dX0_put_81 ?_
    refine jas (y := nI (z + 16)) (nI_add _ _) ?_
    refine va_put (D := D) (ci := 0) (v := .int (nI (z + 16))) (ty := .int) (C := RX0) (T := TX0) (N := 8) hx hb hts in_X0 tyX0 tyX0_ok nmX0 hown hK hP hD hS 0 rfl rfl 6 (by decide) (hts _ q58) (fun _ h9 => h9) rfl (by decide +kernel) rfl rfl (Nat.le_of_ble_eq_true rfl) dX0_put_82 (fun H locs hP hD hS => ?_)
    have hP : va_P D vwCl [jO h0 0 [x0, x1, x2, x3, x4, .ref t0, .int (nI (z + 16)), x7], jA t0 B.1 256 (wrd (wrd (wrd (wrd T z a) (z + 4) b) (z + 8) c_) (z + 12) d)] H := hP
    have hD : va_D A [jO h0 0 [x0, x1, x2, x3, x4, .ref t0, .int (nI (z + 16)), x7], jA t0 B.1 256 (wrd (wrd (wrd (wrd T z a) (z + 4) b) (z + 8) c_) (z + 12) d)] := hD
    refine lv_iconst (v := nI 1) hx hb dX0_put_85 (by decide) ?_
    have e1 : putZ z = z + 16 := if_neg (by omega)
    have e2 : putT T z a b c_ d = wrd4 T z a b c_ d := if_neg (by omega)
    have e3 : putR z = nI 1 := if_neg (by omega)
    exact jiret (()) hx hb hr rfl hlk e3.symm (by rw [e1, e2]; exact hP) (by rw [e1, e2]; exact hD) hS (Nat.le_of_ble_eq_true rfl) (Nat.le_of_ble_eq_true rfl) dX0_put_86
  · refine lv_iconst (v := nI 0) hx hb dX0_put_15 (by decide) ?_
    have hz2 : 240 < z := Nat.lt_of_not_le (fun q => c_12 (nI_le q (by decide)))
    have e1 : putZ z = z := if_pos hz2
    have e2 : putT T z a b c_ d = T := if_pos hz2
    have e3 : putR z = nI 0 := if_pos hz2
    exact jiret (()) hx hb hr rfl hlk e3.symm (by rw [e1, e2]; exact hP) (by rw [e1, e2]; exact hD) hS (Nat.le_of_ble_eq_true rfl) (Nat.le_of_ble_eq_true rfl) dX0_put_16
set_option maxHeartbeats 4000000 in
set_option maxRecDepth 100000 in
/-- key(g, a, b, c, d) -/
theorem metX0_key (l : Launch) (D : va_G) (B : ClassId × ClassId) (sz : Nat) (h0 t0 : Nat) (T : Nat → Int32) (g a b c_ d : Int32) (x0 x1 x2 x4 x5 x6 x7 : Value) : jMv l yX0_key (ws_ yX0_key cX0_key 7 none) { frames := 1, cells := 0, slots := 0, locals := 40 } D B sz [.ref h0, .int g, .int a, .int b, .int c_, .int d] [jO h0 0 [x0, x1, x2, .ref t0, x4, x5, x6, x7], jA t0 B.1 32 T] (S := Unit) (fun _ => True) (fun u => [jO h0 0 [x0, x1, x2, .ref t0, x4, x5, x6, x7], jA t0 B.1 32 (wrd4 T (16 * half g) a b c_ d)]) := by
  refine jStartV (by decide) (Nat.le_of_ble_eq_true rfl) ?_
  intro p e s m below meth c A H ls hx hb hr hlk hml hown hin hts hK hP hD hA hS hl
  have hown : s.vm.findClass "VmpcDesk" = some m.cls := hown
  have hl : lv_has ls 7 [(0, .ref h0), (1, .int g), (2, .int a), (3, .int b), (4, .int c_), (5, .int d)] := hl
  have hg := half_lt g
  refine lv_iload_n hx hb dX0_key_0 rfl (lv_at hl 1 rfl) ?_
  refine lv_iconst (v := nI 1) hx hb dX0_key_1 (by decide) ?_
  refine lv_iand hx hb dX0_key_2 ?_
  refine jas (y := nI (half g)) (and1 g) ?_
  refine lv_iconst (v := nI 4) hx hb dX0_key_3 (by decide) ?_
  refine lv_ishl hx hb dX0_key_4 ?_
  refine jas (y := nI (16 * half g)) (shl4 g) ?_
  refine lv_istore (lv' := [(6, .int (nI (16 * half g))), (0, .ref h0), (1, .int g), (2, .int a), (3, .int b), (4, .int c_), (5, .int d)]) hx hb dX0_key_5 hl (by decide) rfl (fun ls hl => ?_)
  refine lv_aload_n hx hb dX0_key_7 rfl (lv_at hl 1 rfl) ?_
  refine va_get (D := D) (ci := 0) (v := .ref t0) (C := RX0) (T := TX0) (N := 8) hx hb hts in_X0 hown hK hP 0 rfl rfl 3 (by decide) (hts _ q55) (fun _ h9 => h9) rfl dX0_key_8 ?_
  refine lv_iload hx hb dX0_key_11 (lv_at hl 0 rfl) ?_
  refine lv_iload_n hx hb dX0_key_13 rfl (lv_at hl 3 rfl) ?_
  refine jcallv (ws := [jO h0 0 [x0, x1, x2, .ref t0, x4, x5, x6, x7], jA t0 B.1 32 T]) (wc := [jA t0 B.1 32 T]) [1] rfl (by decide) (fun _ => rfl) hP hD hS hA (va_runS (As := [.ref t0, .int (nI (16 * half g)), .int a]) (rest := []) ⟨hx, hb, hml, hown, hts⟩ (metX0_word l D B H.size t0 32 (16 * half g) (by omega) (by omega) (T) a) (va_cwS 3 hts (lw_S q82 q83 q9 q84) rfl rfl rfl (by decide +kernel) ⟨Nat.le_of_ble_eq_true rfl, Nat.le_of_ble_eq_true rfl⟩) (jPreS hK (hP.sub (ws' := [jA t0 B.1 32 T]) [1] rfl) (hD.sub (ws' := [jA t0 B.1 32 T]) [1] (by decide) rfl)) rfl rfl hl.1 rfl (lv_room (Nat.le_of_ble_eq_true rfl)) dX0_key_14 ⟨Nat.le_of_ble_eq_true rfl, Nat.le_of_ble_eq_true rfl⟩) (fun _ H locs hu hP hD hS => ?_)
  have hP : va_P D vwCl [jO h0 0 [x0, x1, x2, .ref t0, x4, x5, x6, x7], jA t0 B.1 32 (wrd T (16 * half g) a)] H := hP
  have hD : va_D A [jO h0 0 [x0, x1, x2, .ref t0, x4, x5, x6, x7], jA t0 B.1 32 (wrd T (16 * half g) a)] := hD
  refine lv_aload_n hx hb dX0_key_17 rfl (lv_at hl 1 rfl) ?_
  refine va_get (D := D) (ci := 0) (v := .ref t0) (C := RX0) (T := TX0) (N := 8) hx hb hts in_X0 hown hK hP 0 rfl rfl 3 (by decide) (hts _ q55) (fun _ h9 => h9) rfl dX0_key_18 ?_
  refine lv_iload hx hb dX0_key_21 (lv_at hl 0 rfl) ?_
  refine lv_iconst (v := nI 4) hx hb dX0_key_23 (by decide) ?_
  refine lv_iadd hx hb dX0_key_24 ?_
  refine jas (y := nI (16 * half g + 4)) (nI_add _ _) ?_
  refine lv_iload_n hx hb dX0_key_25 rfl (lv_at hl 4 rfl) ?_
  refine jcallv (ws := [jO h0 0 [x0, x1, x2, .ref t0, x4, x5, x6, x7], jA t0 B.1 32 (wrd T (16 * half g) a)]) (wc := [jA t0 B.1 32 (wrd T (16 * half g) a)]) [1] rfl (by decide) (fun _ => rfl) hP hD hS hA (va_runS (As := [.ref t0, .int (nI (16 * half g + 4)), .int b]) (rest := []) ⟨hx, hb, hml, hown, hts⟩ (metX0_word l D B H.size t0 32 (16 * half g + 4) (by omega) (by omega) (wrd T (16 * half g) a) b) (va_cwS 3 hts (lw_S q82 q83 q9 q84) rfl rfl rfl (by decide +kernel) ⟨Nat.le_of_ble_eq_true rfl, Nat.le_of_ble_eq_true rfl⟩) (jPreS hK (hP.sub (ws' := [jA t0 B.1 32 (wrd T (16 * half g) a)]) [1] rfl) (hD.sub (ws' := [jA t0 B.1 32 (wrd T (16 * half g) a)]) [1] (by decide) rfl)) rfl rfl hl.1 rfl (lv_room (Nat.le_of_ble_eq_true rfl)) dX0_key_26 ⟨Nat.le_of_ble_eq_true rfl, Nat.le_of_ble_eq_true rfl⟩) (fun _ H locs hu hP hD hS => ?_)
  have hP : va_P D vwCl [jO h0 0 [x0, x1, x2, .ref t0, x4, x5, x6, x7], jA t0 B.1 32 (wrd (wrd T (16 * half g) a) (16 * half g + 4) b)] H := hP
  have hD : va_D A [jO h0 0 [x0, x1, x2, .ref t0, x4, x5, x6, x7], jA t0 B.1 32 (wrd (wrd T (16 * half g) a) (16 * half g + 4) b)] := hD
  refine lv_aload_n hx hb dX0_key_29 rfl (lv_at hl 1 rfl) ?_
  refine va_get (D := D) (ci := 0) (v := .ref t0) (C := RX0) (T := TX0) (N := 8) hx hb hts in_X0 hown hK hP 0 rfl rfl 3 (by decide) (hts _ q55) (fun _ h9 => h9) rfl dX0_key_30 ?_
  refine lv_iload hx hb dX0_key_33 (lv_at hl 0 rfl) ?_
  refine lv_bipush (v := nI 8) hx hb dX0_key_35 (by decide) ?_
  refine lv_iadd hx hb dX0_key_37 ?_
  refine jas (y := nI (16 * half g + 8)) (nI_add _ _) ?_
  refine lv_iload hx hb dX0_key_38 (lv_at hl 5 rfl) ?_
  refine jcallv (ws := [jO h0 0 [x0, x1, x2, .ref t0, x4, x5, x6, x7], jA t0 B.1 32 (wrd (wrd T (16 * half g) a) (16 * half g + 4) b)]) (wc := [jA t0 B.1 32 (wrd (wrd T (16 * half g) a) (16 * half g + 4) b)]) [1] rfl (by decide) (fun _ => rfl) hP hD hS hA (va_runS (As := [.ref t0, .int (nI (16 * half g + 8)), .int c_]) (rest := []) ⟨hx, hb, hml, hown, hts⟩ (metX0_word l D B H.size t0 32 (16 * half g + 8) (by omega) (by omega) (wrd (wrd T (16 * half g) a) (16 * half g + 4) b) c_) (va_cwS 3 hts (lw_S q82 q83 q9 q84) rfl rfl rfl (by decide +kernel) ⟨Nat.le_of_ble_eq_true rfl, Nat.le_of_ble_eq_true rfl⟩) (jPreS hK (hP.sub (ws' := [jA t0 B.1 32 (wrd (wrd T (16 * half g) a) (16 * half g + 4) b)]) [1] rfl) (hD.sub (ws' := [jA t0 B.1 32 (wrd (wrd T (16 * half g) a) (16 * half g + 4) b)]) [1] (by decide) rfl)) rfl rfl hl.1 rfl (lv_room (Nat.le_of_ble_eq_true rfl)) dX0_key_40 ⟨Nat.le_of_ble_eq_true rfl, Nat.le_of_ble_eq_true rfl⟩) (fun _ H locs hu hP hD hS => ?_)
  have hP : va_P D vwCl [jO h0 0 [x0, x1, x2, .ref t0, x4, x5, x6, x7], jA t0 B.1 32 (wrd (wrd (wrd T (16 * half g) a) (16 * half g + 4) b) (16 * half g + 8) c_)] H := hP
  have hD : va_D A [jO h0 0 [x0, x1, x2, .ref t0, x4, x5, x6, x7], jA t0 B.1 32 (wrd (wrd (wrd T (16 * half g) a) (16 * half g + 4) b) (16 * half g + 8) c_)] := hD
  refine lv_aload_n hx hb dX0_key_43 rfl (lv_at hl 1 rfl) ?_
  refine va_get (D := D) (ci := 0) (v := .ref t0) (C := RX0) (T := TX0) (N := 8) hx hb hts in_X0 hown hK hP 0 rfl rfl 3 (by decide) (hts _ q55) (fun _ h9 => h9) rfl dX0_key_44 ?_
  refine lv_iload hx hb dX0_key_47 (lv_at hl 0 rfl) ?_
  refine lv_bipush (v := nI 12) hx hb dX0_key_49 (by decide) ?_
  refine lv_iadd hx hb dX0_key_51 ?_
  refine jas (y := nI (16 * half g + 12)) (nI_add _ _) ?_
  refine lv_iload hx hb dX0_key_52 (lv_at hl 6 rfl) ?_
  refine jcallv (ws := [jO h0 0 [x0, x1, x2, .ref t0, x4, x5, x6, x7], jA t0 B.1 32 (wrd (wrd (wrd T (16 * half g) a) (16 * half g + 4) b) (16 * half g + 8) c_)]) (wc := [jA t0 B.1 32 (wrd (wrd (wrd T (16 * half g) a) (16 * half g + 4) b) (16 * half g + 8) c_)]) [1] rfl (by decide) (fun _ => rfl) hP hD hS hA (va_runS (As := [.ref t0, .int (nI (16 * half g + 12)), .int d]) (rest := []) ⟨hx, hb, hml, hown, hts⟩ (metX0_word l D B H.size t0 32 (16 * half g + 12) (by omega) (by omega) (wrd (wrd (wrd T (16 * half g) a) (16 * half g + 4) b) (16 * half g + 8) c_) d) (va_cwS 3 hts (lw_S q82 q83 q9 q84) rfl rfl rfl (by decide +kernel) ⟨Nat.le_of_ble_eq_true rfl, Nat.le_of_ble_eq_true rfl⟩) (jPreS hK (hP.sub (ws' := [jA t0 B.1 32 (wrd (wrd (wrd T (16 * half g) a) (16 * half g + 4) b) (16 * half g + 8) c_)]) [1] rfl) (hD.sub (ws' := [jA t0 B.1 32 (wrd (wrd (wrd T (16 * half g) a) (16 * half g + 4) b) (16 * half g + 8) c_)]) [1] (by decide) rfl)) rfl rfl hl.1 rfl (lv_room (Nat.le_of_ble_eq_true rfl)) dX0_key_54 ⟨Nat.le_of_ble_eq_true rfl, Nat.le_of_ble_eq_true rfl⟩) (fun _ H locs hu hP hD hS => ?_)
  have hP : va_P D vwCl [jO h0 0 [x0, x1, x2, .ref t0, x4, x5, x6, x7], jA t0 B.1 32 (wrd (wrd (wrd (wrd T (16 * half g) a) (16 * half g + 4) b) (16 * half g + 8) c_) (16 * half g + 12) d)] H := hP
  have hD : va_D A [jO h0 0 [x0, x1, x2, .ref t0, x4, x5, x6, x7], jA t0 B.1 32 (wrd (wrd (wrd (wrd T (16 * half g) a) (16 * half g + 4) b) (16 * half g + 8) c_) (16 * half g + 12) d)] := hD
  exact jvret (()) hx hb hr hlk trivial hP hD hS (Nat.le_of_ble_eq_true rfl) (Nat.le_of_ble_eq_true rfl) dX0_key_57
set_option maxHeartbeats 4000000 in
set_option maxRecDepth 100000 in
/-- nonce(g, a, b, c, d) -/
theorem metX0_nonce (l : Launch) (D : va_G) (B : ClassId × ClassId) (sz : Nat) (h0 t0 : Nat) (T : Nat → Int32) (g a b c_ d : Int32) (x0 x1 x2 x3 x5 x6 x7 : Value) : jMv l yX0_nonce (ws_ yX0_nonce cX0_nonce 7 none) { frames := 1, cells := 0, slots := 0, locals := 40 } D B sz [.ref h0, .int g, .int a, .int b, .int c_, .int d] [jO h0 0 [x0, x1, x2, x3, .ref t0, x5, x6, x7], jA t0 B.1 32 T] (S := Unit) (fun _ => True) (fun u => [jO h0 0 [x0, x1, x2, x3, .ref t0, x5, x6, x7], jA t0 B.1 32 (wrd4 T (16 * half g) a b c_ d)]) := by
  refine jStartV (by decide) (Nat.le_of_ble_eq_true rfl) ?_
  intro p e s m below meth c A H ls hx hb hr hlk hml hown hin hts hK hP hD hA hS hl
  have hown : s.vm.findClass "VmpcDesk" = some m.cls := hown
  have hl : lv_has ls 7 [(0, .ref h0), (1, .int g), (2, .int a), (3, .int b), (4, .int c_), (5, .int d)] := hl
  have hg := half_lt g
  refine lv_iload_n hx hb dX0_nonce_0 rfl (lv_at hl 1 rfl) ?_
  refine lv_iconst (v := nI 1) hx hb dX0_nonce_1 (by decide) ?_
  refine lv_iand hx hb dX0_nonce_2 ?_
  refine jas (y := nI (half g)) (and1 g) ?_
  refine lv_iconst (v := nI 4) hx hb dX0_nonce_3 (by decide) ?_
  refine lv_ishl hx hb dX0_nonce_4 ?_
  refine jas (y := nI (16 * half g)) (shl4 g) ?_
  refine lv_istore (lv' := [(6, .int (nI (16 * half g))), (0, .ref h0), (1, .int g), (2, .int a), (3, .int b), (4, .int c_), (5, .int d)]) hx hb dX0_nonce_5 hl (by decide) rfl (fun ls hl => ?_)
  refine lv_aload_n hx hb dX0_nonce_7 rfl (lv_at hl 1 rfl) ?_
  refine va_get (D := D) (ci := 0) (v := .ref t0) (C := RX0) (T := TX0) (N := 8) hx hb hts in_X0 hown hK hP 0 rfl rfl 4 (by decide) (hts _ q56) (fun _ h9 => h9) rfl dX0_nonce_8 ?_
  refine lv_iload hx hb dX0_nonce_11 (lv_at hl 0 rfl) ?_
  refine lv_iload_n hx hb dX0_nonce_13 rfl (lv_at hl 3 rfl) ?_
  refine jcallv (ws := [jO h0 0 [x0, x1, x2, x3, .ref t0, x5, x6, x7], jA t0 B.1 32 T]) (wc := [jA t0 B.1 32 T]) [1] rfl (by decide) (fun _ => rfl) hP hD hS hA (va_runS (As := [.ref t0, .int (nI (16 * half g)), .int a]) (rest := []) ⟨hx, hb, hml, hown, hts⟩ (metX0_word l D B H.size t0 32 (16 * half g) (by omega) (by omega) (T) a) (va_cwS 3 hts (lw_S q82 q83 q9 q84) rfl rfl rfl (by decide +kernel) ⟨Nat.le_of_ble_eq_true rfl, Nat.le_of_ble_eq_true rfl⟩) (jPreS hK (hP.sub (ws' := [jA t0 B.1 32 T]) [1] rfl) (hD.sub (ws' := [jA t0 B.1 32 T]) [1] (by decide) rfl)) rfl rfl hl.1 rfl (lv_room (Nat.le_of_ble_eq_true rfl)) dX0_nonce_14 ⟨Nat.le_of_ble_eq_true rfl, Nat.le_of_ble_eq_true rfl⟩) (fun _ H locs hu hP hD hS => ?_)
  have hP : va_P D vwCl [jO h0 0 [x0, x1, x2, x3, .ref t0, x5, x6, x7], jA t0 B.1 32 (wrd T (16 * half g) a)] H := hP
  have hD : va_D A [jO h0 0 [x0, x1, x2, x3, .ref t0, x5, x6, x7], jA t0 B.1 32 (wrd T (16 * half g) a)] := hD
  refine lv_aload_n hx hb dX0_nonce_17 rfl (lv_at hl 1 rfl) ?_
  refine va_get (D := D) (ci := 0) (v := .ref t0) (C := RX0) (T := TX0) (N := 8) hx hb hts in_X0 hown hK hP 0 rfl rfl 4 (by decide) (hts _ q56) (fun _ h9 => h9) rfl dX0_nonce_18 ?_
  refine lv_iload hx hb dX0_nonce_21 (lv_at hl 0 rfl) ?_
  refine lv_iconst (v := nI 4) hx hb dX0_nonce_23 (by decide) ?_
  refine lv_iadd hx hb dX0_nonce_24 ?_
  refine jas (y := nI (16 * half g + 4)) (nI_add _ _) ?_
  refine lv_iload_n hx hb dX0_nonce_25 rfl (lv_at hl 4 rfl) ?_
  refine jcallv (ws := [jO h0 0 [x0, x1, x2, x3, .ref t0, x5, x6, x7], jA t0 B.1 32 (wrd T (16 * half g) a)]) (wc := [jA t0 B.1 32 (wrd T (16 * half g) a)]) [1] rfl (by decide) (fun _ => rfl) hP hD hS hA (va_runS (As := [.ref t0, .int (nI (16 * half g + 4)), .int b]) (rest := []) ⟨hx, hb, hml, hown, hts⟩ (metX0_word l D B H.size t0 32 (16 * half g + 4) (by omega) (by omega) (wrd T (16 * half g) a) b) (va_cwS 3 hts (lw_S q82 q83 q9 q84) rfl rfl rfl (by decide +kernel) ⟨Nat.le_of_ble_eq_true rfl, Nat.le_of_ble_eq_true rfl⟩) (jPreS hK (hP.sub (ws' := [jA t0 B.1 32 (wrd T (16 * half g) a)]) [1] rfl) (hD.sub (ws' := [jA t0 B.1 32 (wrd T (16 * half g) a)]) [1] (by decide) rfl)) rfl rfl hl.1 rfl (lv_room (Nat.le_of_ble_eq_true rfl)) dX0_nonce_26 ⟨Nat.le_of_ble_eq_true rfl, Nat.le_of_ble_eq_true rfl⟩) (fun _ H locs hu hP hD hS => ?_)
  have hP : va_P D vwCl [jO h0 0 [x0, x1, x2, x3, .ref t0, x5, x6, x7], jA t0 B.1 32 (wrd (wrd T (16 * half g) a) (16 * half g + 4) b)] H := hP
  have hD : va_D A [jO h0 0 [x0, x1, x2, x3, .ref t0, x5, x6, x7], jA t0 B.1 32 (wrd (wrd T (16 * half g) a) (16 * half g + 4) b)] := hD
  refine lv_aload_n hx hb dX0_nonce_29 rfl (lv_at hl 1 rfl) ?_
  refine va_get (D := D) (ci := 0) (v := .ref t0) (C := RX0) (T := TX0) (N := 8) hx hb hts in_X0 hown hK hP 0 rfl rfl 4 (by decide) (hts _ q56) (fun _ h9 => h9) rfl dX0_nonce_30 ?_
  refine lv_iload hx hb dX0_nonce_33 (lv_at hl 0 rfl) ?_
  refine lv_bipush (v := nI 8) hx hb dX0_nonce_35 (by decide) ?_
  refine lv_iadd hx hb dX0_nonce_37 ?_
  refine jas (y := nI (16 * half g + 8)) (nI_add _ _) ?_
  refine lv_iload hx hb dX0_nonce_38 (lv_at hl 5 rfl) ?_
  refine jcallv (ws := [jO h0 0 [x0, x1, x2, x3, .ref t0, x5, x6, x7], jA t0 B.1 32 (wrd (wrd T (16 * half g) a) (16 * half g + 4) b)]) (wc := [jA t0 B.1 32 (wrd (wrd T (16 * half g) a) (16 * half g + 4) b)]) [1] rfl (by decide) (fun _ => rfl) hP hD hS hA (va_runS (As := [.ref t0, .int (nI (16 * half g + 8)), .int c_]) (rest := []) ⟨hx, hb, hml, hown, hts⟩ (metX0_word l D B H.size t0 32 (16 * half g + 8) (by omega) (by omega) (wrd (wrd T (16 * half g) a) (16 * half g + 4) b) c_) (va_cwS 3 hts (lw_S q82 q83 q9 q84) rfl rfl rfl (by decide +kernel) ⟨Nat.le_of_ble_eq_true rfl, Nat.le_of_ble_eq_true rfl⟩) (jPreS hK (hP.sub (ws' := [jA t0 B.1 32 (wrd (wrd T (16 * half g) a) (16 * half g + 4) b)]) [1] rfl) (hD.sub (ws' := [jA t0 B.1 32 (wrd (wrd T (16 * half g) a) (16 * half g + 4) b)]) [1] (by decide) rfl)) rfl rfl hl.1 rfl (lv_room (Nat.le_of_ble_eq_true rfl)) dX0_nonce_40 ⟨Nat.le_of_ble_eq_true rfl, Nat.le_of_ble_eq_true rfl⟩) (fun _ H locs hu hP hD hS => ?_)
  have hP : va_P D vwCl [jO h0 0 [x0, x1, x2, x3, .ref t0, x5, x6, x7], jA t0 B.1 32 (wrd (wrd (wrd T (16 * half g) a) (16 * half g + 4) b) (16 * half g + 8) c_)] H := hP
  have hD : va_D A [jO h0 0 [x0, x1, x2, x3, .ref t0, x5, x6, x7], jA t0 B.1 32 (wrd (wrd (wrd T (16 * half g) a) (16 * half g + 4) b) (16 * half g + 8) c_)] := hD
  refine lv_aload_n hx hb dX0_nonce_43 rfl (lv_at hl 1 rfl) ?_
  refine va_get (D := D) (ci := 0) (v := .ref t0) (C := RX0) (T := TX0) (N := 8) hx hb hts in_X0 hown hK hP 0 rfl rfl 4 (by decide) (hts _ q56) (fun _ h9 => h9) rfl dX0_nonce_44 ?_
  refine lv_iload hx hb dX0_nonce_47 (lv_at hl 0 rfl) ?_
  refine lv_bipush (v := nI 12) hx hb dX0_nonce_49 (by decide) ?_
  refine lv_iadd hx hb dX0_nonce_51 ?_
  refine jas (y := nI (16 * half g + 12)) (nI_add _ _) ?_
  refine lv_iload hx hb dX0_nonce_52 (lv_at hl 6 rfl) ?_
  refine jcallv (ws := [jO h0 0 [x0, x1, x2, x3, .ref t0, x5, x6, x7], jA t0 B.1 32 (wrd (wrd (wrd T (16 * half g) a) (16 * half g + 4) b) (16 * half g + 8) c_)]) (wc := [jA t0 B.1 32 (wrd (wrd (wrd T (16 * half g) a) (16 * half g + 4) b) (16 * half g + 8) c_)]) [1] rfl (by decide) (fun _ => rfl) hP hD hS hA (va_runS (As := [.ref t0, .int (nI (16 * half g + 12)), .int d]) (rest := []) ⟨hx, hb, hml, hown, hts⟩ (metX0_word l D B H.size t0 32 (16 * half g + 12) (by omega) (by omega) (wrd (wrd (wrd T (16 * half g) a) (16 * half g + 4) b) (16 * half g + 8) c_) d) (va_cwS 3 hts (lw_S q82 q83 q9 q84) rfl rfl rfl (by decide +kernel) ⟨Nat.le_of_ble_eq_true rfl, Nat.le_of_ble_eq_true rfl⟩) (jPreS hK (hP.sub (ws' := [jA t0 B.1 32 (wrd (wrd (wrd T (16 * half g) a) (16 * half g + 4) b) (16 * half g + 8) c_)]) [1] rfl) (hD.sub (ws' := [jA t0 B.1 32 (wrd (wrd (wrd T (16 * half g) a) (16 * half g + 4) b) (16 * half g + 8) c_)]) [1] (by decide) rfl)) rfl rfl hl.1 rfl (lv_room (Nat.le_of_ble_eq_true rfl)) dX0_nonce_54 ⟨Nat.le_of_ble_eq_true rfl, Nat.le_of_ble_eq_true rfl⟩) (fun _ H locs hu hP hD hS => ?_)
  have hP : va_P D vwCl [jO h0 0 [x0, x1, x2, x3, .ref t0, x5, x6, x7], jA t0 B.1 32 (wrd (wrd (wrd (wrd T (16 * half g) a) (16 * half g + 4) b) (16 * half g + 8) c_) (16 * half g + 12) d)] H := hP
  have hD : va_D A [jO h0 0 [x0, x1, x2, x3, .ref t0, x5, x6, x7], jA t0 B.1 32 (wrd (wrd (wrd (wrd T (16 * half g) a) (16 * half g + 4) b) (16 * half g + 8) c_) (16 * half g + 12) d)] := hD
  exact jvret (()) hx hb hr hlk trivial hP hD hS (Nat.le_of_ble_eq_true rfl) (Nat.le_of_ble_eq_true rfl) dX0_nonce_57
set_option maxHeartbeats 4000000 in
set_option maxRecDepth 100000 in
/-- out(x) -/
theorem metX0_out (l : Launch) (D : va_G) (B : ClassId × ClassId) (sz : Nat) (h0 o0 n0 : Nat) (hn : n0 ≤ 256) (O_ : Nat → Int32) (x : Int32) (x0 x1 x2 x3 x4 x5 x6 : Value) : jMi l yX0_out (ws_ yX0_out cX0_out 2 (some .int)) { frames := 0, cells := 0, slots := 0, locals := 0 } D B sz [.ref h0, .int x] [jO h0 0 [x0, x1, x2, x3, x4, x5, x6, .ref o0], jA o0 B.1 n0 O_] (S := Unit) (fun r _ => r = outR O_ n0 x) (fun u => [jO h0 0 [x0, x1, x2, x3, x4, x5, x6, .ref o0], jA o0 B.1 n0 O_]) := by
  refine jStartI (by decide) (Nat.le_of_ble_eq_true rfl) ?_
  intro p e s m below meth c A H ls hx hb hr hlk hml hown hin hts hK hP hD hA hS hl
  have hown : s.vm.findClass "VmpcDesk" = some m.cls := hown
  have hl : lv_has ls 2 [(0, .ref h0), (1, .int x)] := hl
  refine lv_aload_n hx hb dX0_out_0 rfl (lv_at hl 0 rfl) ?_
  refine va_get (D := D) (ci := 0) (v := .ref o0) (C := RX0) (T := TX0) (N := 8) hx hb hts in_X0 hown hK hP 0 rfl rfl 7 (by decide) (hts _ q59) (fun _ h9 => h9) rfl dX0_out_1 ?_
  refine va_alen (v := nI n0) hx hb hK hP 1 0 rfl rfl rfl dX0_out_4 ?_
  refine lv_if_ne (tgt := 12) hx hb dX0_out_5 (by decide) (fun c_5 => ?_) (fun c_5 => ?_)
  · have hn0 : ¬ n0 = 0 := fun q => c_5 (by rw [q]; decide)
    have e1 : outR O_ n0 x = O_ (lo31 x % n0) &&& nI 255 := if_neg hn0
    refine lv_aload_n hx hb dX0_out_12 rfl (lv_at hl 0 rfl) ?_
    refine va_get (D := D) (ci := 0) (v := .ref o0) (C := RX0) (T := TX0) (N := 8) hx hb hts in_X0 hown hK hP 0 rfl rfl 7 (by decide) (hts _ q59) (fun _ h9 => h9) rfl dX0_out_13 ?_
    refine lv_iload_n hx hb dX0_out_16 rfl (lv_at hl 1 rfl) ?_
    refine lv_ldc (v := 2147483647) hx hb hown (hts _ q93) dX0_out_17 ?_
    refine lv_iand hx hb dX0_out_19 ?_
    refine jas (y := nI (lo31 x)) (and31 x) ?_
    refine lv_aload_n hx hb dX0_out_20 rfl (lv_at hl 0 rfl) ?_
    refine va_get (D := D) (ci := 0) (v := .ref o0) (C := RX0) (T := TX0) (N := 8) hx hb hts in_X0 hown hK hP 0 rfl rfl 7 (by decide) (hts _ q59) (fun _ h9 => h9) rfl dX0_out_21 ?_
    refine va_alen (v := nI n0) hx hb hK hP 1 0 rfl rfl rfl dX0_out_24 ?_
    refine lv_irem hx hb dX0_out_25 (nI_ne0 (by omega) (by omega)) ?_
    refine jas (y := nI (lo31 x % n0)) (rem_nI (lo31_lt x) (by omega) (by omega)) ?_
    refine jbald hx hb hK hP 1 rfl (lo31 x % n0) (Nat.mod_lt _ (by omega)) (by omega) dX0_out_26 ?_
    refine lv_sipush (v := nI 255) hx hb dX0_out_27 (by decide) ?_
    refine lv_iand hx hb dX0_out_30 ?_
    exact jiret (()) hx hb hr rfl hlk e1.symm hP hD hS (Nat.le_of_ble_eq_true rfl) (Nat.le_of_ble_eq_true rfl) dX0_out_31
  · have hn0 : n0 = 0 := (nI_eq (by omega) (by decide)).mp (c_5.trans nI_0.symm)
    have e1 : outR O_ n0 x = (-1) := if_pos hn0
    refine lv_iconst (v := (-1)) hx hb dX0_out_8 (by decide) ?_
    refine lv_goto (tgt := 31) hx hb dX0_out_9 (by decide) ?_
    exact jiret (()) hx hb hr rfl hlk e1.symm hP hD hS (Nat.le_of_ble_eq_true rfl) (Nat.le_of_ble_eq_true rfl) dX0_out_31
end
section
set_option maxHeartbeats 4000000 in
set_option maxRecDepth 100000 in
/-- VmpcDesk() -/
theorem metX0_init (l : Launch) (D : va_G) (B : ClassId × ClassId) (sz : Nat) (h0 : Nat) : jMv l yX0_init (ws_ yX0_init cX0_init 1 none) { frames := 2, cells := 6, slots := 325, locals := 40 } D B sz [.ref h0] [jO h0 0 [.null, .int 0, .int 0, .null, .null, .null, .int 0, .null]] (S := Nat × Nat × Nat × Nat × Nat) (fun _ => True) (fun u => [jO h0 0 [.ref u.1, .int 0, .int 0, .ref u.2.1, .ref u.2.2.1, .ref u.2.2.2.1, .int 0, .ref u.2.2.2.2], jA u.2.1 B.1 32 (fun _ => 0), jA u.2.2.1 B.1 32 (fun _ => 0), jA u.2.2.2.1 B.1 256 (fun _ => 0), jA u.2.2.2.2 B.1 0 (fun _ => 0)]) := by
  refine jStartV (by decide) (Nat.le_of_ble_eq_true rfl) ?_
  intro p e s m below meth c A H ls hx hb hr hlk hml hown hin hts hK hP hD hA hS hl
  have hown : s.vm.findClass "VmpcDesk" = some m.cls := hown
  have hin : meth.name = "<init>" := hin
  have hl : lv_has ls 1 [(0, .ref h0)] := hl
  refine lv_aload_n hx hb dX0_init_0 rfl (lv_at hl 0 rfl) ?_
  refine W.objInit hx hb hown (hts _ q27) (hts _ q28) (hts _ q29) rfl (by rw [hml]; exact hl.1) rfl dX0_init_1 (Nat.le_of_ble_eq_true rfl) (Nat.le_of_ble_eq_true rfl) ?_
  refine W.eq (g2 := F0 m 4 ls []) rfl ?_
  refine lv_aload_n hx hb dX0_init_4 rfl (lv_at hl 0 rfl) ?_
  refine va_new (ci := 1) (fs := [.int 0, .null, .int 0, .null, .null]) (C := RX1) (T := TX1) (N := 5) hx hb hts in_X1 tyX1 tyX1_ok hown (hts _ q30) (hts _ q31) (hts _ q10) hK hP hD hS hA rfl (by decide) (Nat.le_of_ble_eq_true rfl) (Nat.le_of_ble_eq_true rfl) dX0_init_5 (fun o_5 H hP hD hS => ?_)
  have hP : va_P D vwCl [jO h0 0 [.null, .int 0, .int 0, .null, .null, .null, .int 0, .null], jO o_5 1 [.int 0, .null, .int 0, .null, .null]] H := hP
  have hD : va_D A [jO h0 0 [.null, .int 0, .int 0, .null, .null, .null, .int 0, .null], jO o_5 1 [.int 0, .null, .int 0, .null, .null]] := hD
  refine lv_dup hx hb dX0_init_8 rfl ?_
  refine jcallv (ws := [jO h0 0 [.null, .int 0, .int 0, .null, .null, .null, .int 0, .null], jO o_5 1 [.int 0, .null, .int 0, .null, .null]]) (wc := [jO o_5 1 [.int 0, .null, .int 0, .null, .null]]) [1] rfl (by decide) (fun _ => rfl) hP hD hS hA (va_runI (b := o_5) (As := []) (rest := [.ref o_5, .ref h0]) ⟨hx, hb, hml, hown, hts⟩ (metX1_init l D B H.size o_5) (cwI 0 hts (lw_meth q34) rfl rfl rfl (hts _ q10) (hts _ q32) (hts _ q33) rfl (by decide +kernel) ⟨Nat.le_of_ble_eq_true rfl, Nat.le_of_ble_eq_true rfl⟩) (jPreS hK (hP.sub (ws' := [jO o_5 1 [.int 0, .null, .int 0, .null, .null]]) [1] rfl) (hD.sub (ws' := [jO o_5 1 [.int 0, .null, .int 0, .null, .null]]) [1] (by decide) rfl)) rfl rfl hl.1 rfl (lv_room (Nat.le_of_ble_eq_true rfl)) dX0_init_9 ⟨Nat.le_of_ble_eq_true rfl, Nat.le_of_ble_eq_true rfl⟩) (fun _ H locs hu hP hD hS => ?_)
  have hP : va_P D vwCl [jO h0 0 [.null, .int 0, .int 0, .null, .null, .null, .int 0, .null], jO o_5 1 [.int (nI 0), .null, .int (nI 0), .null, .null]] H := hP
  have hD : va_D A [jO h0 0 [.null, .int 0, .int 0, .null, .null, .null, .int 0, .null], jO o_5 1 [.int (nI 0), .null, .int (nI 0), .null, .null]] := hD
  refine va_put (D := D) (ci := 0) (v := .ref o_5) (ty := .object "VMPCEngine") (C := RX0) (T := TX0) (N := 8) hx hb hts in_X0 tyX0 tyX0_ok nmX0 hown hK hP hD hS 0 rfl rfl 0 (by decide) (hts _ q52) (fun _ h9 => h9) rfl (by decide +kernel) rfl rfl (Nat.le_of_ble_eq_true rfl) dX0_init_12 (fun H locs hP hD hS => ?_)
  have hP : va_P D vwCl [jO h0 0 [.ref o_5, .int 0, .int 0, .null, .null, .null, .int 0, .null], jO o_5 1 [.int (nI 0), .null, .int (nI 0), .null, .null]] H := hP
  have hD : va_D A [jO h0 0 [.ref o_5, .int 0, .int 0, .null, .null, .null, .int 0, .null], jO o_5 1 [.int (nI 0), .null, .int (nI 0), .null, .null]] := hD
  refine lv_aload_n hx hb dX0_init_15 rfl (lv_at hl 0 rfl) ?_
  refine lv_bipush (v := nI 32) hx hb dX0_init_16 (by decide) ?_
  refine jnewb hx hb (hts _ q77) hK hP hD hS hA 32 (by decide) (Nat.le_of_ble_eq_true rfl) (Nat.le_of_ble_eq_true rfl) dX0_init_18 (fun a_18 H hP hD hS => ?_)
  have hP : va_P D vwCl [jO h0 0 [.ref o_5, .int 0, .int 0, .null, .null, .null, .int 0, .null], jO o_5 1 [.int (nI 0), .null, .int (nI 0), .null, .null], jA a_18 B.1 32 (fun _ => 0)] H := hP
  have hD : va_D A [jO h0 0 [.ref o_5, .int 0, .int 0, .null, .null, .null, .int 0, .null], jO o_5 1 [.int (nI 0), .null, .int (nI 0), .null, .null], jA a_18 B.1 32 (fun _ => 0)] := hD
  refine va_putF (D := D) (ci := 0) (v := .ref a_18) (ty := .array .byte) (C := RX0) (T := TX0) (N := 8) hx hb hts in_X0 tyX0 tyX0_ok nmX0 hown hK hP hD hS 0 rfl rfl 3 (by decide) (hts _ q55) (fun _ h9 => h9) rfl hin rfl (by decide +kernel) rfl rfl (Nat.le_of_ble_eq_true rfl) dX0_init_20 (fun H locs hP hD hS => ?_)
  have hP : va_P D vwCl [jO h0 0 [.ref o_5, .int 0, .int 0, .ref a_18, .null, .null, .int 0, .null], jO o_5 1 [.int (nI 0), .null, .int (nI 0), .null, .null], jA a_18 B.1 32 (fun _ => 0)] H := hP
  have hD : va_D A [jO h0 0 [.ref o_5, .int 0, .int 0, .ref a_18, .null, .null, .int 0, .null], jO o_5 1 [.int (nI 0), .null, .int (nI 0), .null, .null], jA a_18 B.1 32 (fun _ => 0)] := hD
  refine lv_aload_n hx hb dX0_init_23 rfl (lv_at hl 0 rfl) ?_
  refine lv_bipush (v := nI 32) hx hb dX0_init_24 (by decide) ?_
  refine jnewb hx hb (hts _ q77) hK hP hD hS hA 32 (by decide) (Nat.le_of_ble_eq_true rfl) (Nat.le_of_ble_eq_true rfl) dX0_init_26 (fun a_26 H hP hD hS => ?_)
  have hP : va_P D vwCl [jO h0 0 [.ref o_5, .int 0, .int 0, .ref a_18, .null, .null, .int 0, .null], jO o_5 1 [.int (nI 0), .null, .int (nI 0), .null, .null], jA a_18 B.1 32 (fun _ => 0), jA a_26 B.1 32 (fun _ => 0)] H := hP
  have hD : va_D A [jO h0 0 [.ref o_5, .int 0, .int 0, .ref a_18, .null, .null, .int 0, .null], jO o_5 1 [.int (nI 0), .null, .int (nI 0), .null, .null], jA a_18 B.1 32 (fun _ => 0), jA a_26 B.1 32 (fun _ => 0)] := hD
  refine va_putF (D := D) (ci := 0) (v := .ref a_26) (ty := .array .byte) (C := RX0) (T := TX0) (N := 8) hx hb hts in_X0 tyX0 tyX0_ok nmX0 hown hK hP hD hS 0 rfl rfl 4 (by decide) (hts _ q56) (fun _ h9 => h9) rfl hin rfl (by decide +kernel) rfl rfl (Nat.le_of_ble_eq_true rfl) dX0_init_28 (fun H locs hP hD hS => ?_)
  have hP : va_P D vwCl [jO h0 0 [.ref o_5, .int 0, .int 0, .ref a_18, .ref a_26, .null, .int 0, .null], jO o_5 1 [.int (nI 0), .null, .int (nI 0), .null, .null], jA a_18 B.1 32 (fun _ => 0), jA a_26 B.1 32 (fun _ => 0)] H := hP
  have hD : va_D A [jO h0 0 [.ref o_5, .int 0, .int 0, .ref a_18, .ref a_26, .null, .int 0, .null], jO o_5 1 [.int (nI 0), .null, .int (nI 0), .null, .null], jA a_18 B.1 32 (fun _ => 0), jA a_26 B.1 32 (fun _ => 0)] := hD
  refine lv_aload_n hx hb dX0_init_31 rfl (lv_at hl 0 rfl) ?_
  refine lv_sipush (v := nI 256) hx hb dX0_init_32 (by decide) ?_
  refine jnewb hx hb (hts _ q77) hK hP hD hS hA 256 (by decide) (Nat.le_of_ble_eq_true rfl) (Nat.le_of_ble_eq_true rfl) dX0_init_35 (fun a_35 H hP hD hS => ?_)
  have hP : va_P D vwCl [jO h0 0 [.ref o_5, .int 0, .int 0, .ref a_18, .ref a_26, .null, .int 0, .null], jO o_5 1 [.int (nI 0), .null, .int (nI 0), .null, .null], jA a_18 B.1 32 (fun _ => 0), jA a_26 B.1 32 (fun _ => 0), jA a_35 B.1 256 (fun _ => 0)] H := hP
  have hD : va_D A [jO h0 0 [.ref o_5, .int 0, .int 0, .ref a_18, .ref a_26, .null, .int 0, .null], jO o_5 1 [.int (nI 0), .null, .int (nI 0), .null, .null], jA a_18 B.1 32 (fun _ => 0), jA a_26 B.1 32 (fun _ => 0), jA a_35 B.1 256 (fun _ => 0)] := hD
  refine va_putF (D := D) (ci := 0) (v := .ref a_35) (ty := .array .byte) (C := RX0) (T := TX0) (N := 8) hx hb hts in_X0 tyX0 tyX0_ok nmX0 hown hK hP hD hS 0 rfl rfl 5 (by decide) (hts _ q57) (fun _ h9 => h9) rfl hin rfl (by decide +kernel) rfl rfl (Nat.le_of_ble_eq_true rfl) dX0_init_37 (fun H locs hP hD hS => ?_)
  have hP : va_P D vwCl [jO h0 0 [.ref o_5, .int 0, .int 0, .ref a_18, .ref a_26, .ref a_35, .int 0, .null], jO o_5 1 [.int (nI 0), .null, .int (nI 0), .null, .null], jA a_18 B.1 32 (fun _ => 0), jA a_26 B.1 32 (fun _ => 0), jA a_35 B.1 256 (fun _ => 0)] H := hP
  have hD : va_D A [jO h0 0 [.ref o_5, .int 0, .int 0, .ref a_18, .ref a_26, .ref a_35, .int 0, .null], jO o_5 1 [.int (nI 0), .null, .int (nI 0), .null, .null], jA a_18 B.1 32 (fun _ => 0), jA a_26 B.1 32 (fun _ => 0), jA a_35 B.1 256 (fun _ => 0)] := hD
  refine lv_aload_n hx hb dX0_init_40 rfl (lv_at hl 0 rfl) ?_
  refine lv_iconst (v := nI 0) hx hb dX0_init_41 (by decide) ?_
  refine jnewb hx hb (hts _ q77) hK hP hD hS hA 0 (by decide) (Nat.le_of_ble_eq_true rfl) (Nat.le_of_ble_eq_true rfl) dX0_init_42 (fun a_42 H hP hD hS => ?_)
  have hP : va_P D vwCl [jO h0 0 [.ref o_5, .int 0, .int 0, .ref a_18, .ref a_26, .ref a_35, .int 0, .null], jO o_5 1 [.int (nI 0), .null, .int (nI 0), .null, .null], jA a_18 B.1 32 (fun _ => 0), jA a_26 B.1 32 (fun _ => 0), jA a_35 B.1 256 (fun _ => 0), jA a_42 B.1 0 (fun _ => 0)] H := hP
  have hD : va_D A [jO h0 0 [.ref o_5, .int 0, .int 0, .ref a_18, .ref a_26, .ref a_35, .int 0, .null], jO o_5 1 [.int (nI 0), .null, .int (nI 0), .null, .null], jA a_18 B.1 32 (fun _ => 0), jA a_26 B.1 32 (fun _ => 0), jA a_35 B.1 256 (fun _ => 0), jA a_42 B.1 0 (fun _ => 0)] := hD
  refine va_put (D := D) (ci := 0) (v := .ref a_42) (ty := .array .byte) (C := RX0) (T := TX0) (N := 8) hx hb hts in_X0 tyX0 tyX0_ok nmX0 hown hK hP hD hS 0 rfl rfl 7 (by decide) (hts _ q59) (fun _ h9 => h9) rfl (by decide +kernel) rfl rfl (Nat.le_of_ble_eq_true rfl) dX0_init_44 (fun H locs hP hD hS => ?_)
  have hP : va_P D vwCl [jO h0 0 [.ref o_5, .int 0, .int 0, .ref a_18, .ref a_26, .ref a_35, .int 0, .ref a_42], jO o_5 1 [.int (nI 0), .null, .int (nI 0), .null, .null], jA a_18 B.1 32 (fun _ => 0), jA a_26 B.1 32 (fun _ => 0), jA a_35 B.1 256 (fun _ => 0), jA a_42 B.1 0 (fun _ => 0)] H := hP
  have hD : va_D A [jO h0 0 [.ref o_5, .int 0, .int 0, .ref a_18, .ref a_26, .ref a_35, .int 0, .ref a_42], jO o_5 1 [.int (nI 0), .null, .int (nI 0), .null, .null], jA a_18 B.1 32 (fun _ => 0), jA a_26 B.1 32 (fun _ => 0), jA a_35 B.1 256 (fun _ => 0), jA a_42 B.1 0 (fun _ => 0)] := hD
  exact jvret ((o_5, a_18, a_26, a_35, a_42)) hx hb hr hlk trivial (hP.sub [0, 2, 3, 4, 5] rfl) (hD.sub [0, 2, 3, 4, 5] (by decide) rfl) hS (Nat.le_of_ble_eq_true rfl) (Nat.le_of_ble_eq_true rfl) dX0_init_47
set_option maxHeartbeats 4000000 in
set_option maxRecDepth 100000 in
theorem loopX0_key {p : Program} {l : Launch} {e : Env} {R : Room} {s : State} {m : MethodId} {args : Array Value} {below : List Frame} {meth : Method} {c : Code} {Q : State → Prop} {cells slots : Nat} {D : va_G} {B : ClassId × ClassId} {A : Nat → Prop} {h0 k0 v0 a1 : Nat} {K L : Nat → Int32} {x0 x1 x2 x5 x6 x7 : Value} (hx : p.tables.exec = Jvm.exec) (hb : c.code = cX0_begin) (hml : c.maxLocals = 5) (hown : s.vm.findClass "VmpcDesk" = some m.cls) (hts : ∀ w ∈ lw_all, w.before args s = true) (hK : va_K D vwCl (TY B) s) (hA : ∀ q : Nat, s.heap.size ≤ q → A q) 
    (kk : ∀ (H : Heap) (locs : List Loc) (ls : Array Slot), va_P D vwCl [jO h0 0 [x0, x1, x2, .ref k0, .ref v0, x5, x6, x7], jA k0 B.1 32 K, jA v0 B.1 32 L, jA a1 B.1 16 (cpB K (fun _ => 0) 16)] H → va_D A [jO h0 0 [x0, x1, x2, .ref k0, .ref v0, x5, x6, x7], jA k0 B.1 32 K, jA v0 B.1 32 L, jA a1 B.1 16 (cpB K (fun _ => 0) 16)] → va_S A s.heap H locs → lv_has ls 5 [(0, .ref h0), (2, .ref a1), (3, .int (nI 16))] → W p l e R s m args below meth c H locs cells slots Q (F0 m 28 ls [])) :
    ∀ (n i : Nat), i + n = 16 → ∀ (H : Heap) (locs : List Loc) (ls : Array Slot), va_P D vwCl [jO h0 0 [x0, x1, x2, .ref k0, .ref v0, x5, x6, x7], jA k0 B.1 32 K, jA v0 B.1 32 L, jA a1 B.1 16 (cpB K (fun _ => 0) i)] H → va_D A [jO h0 0 [x0, x1, x2, .ref k0, .ref v0, x5, x6, x7], jA k0 B.1 32 K, jA v0 B.1 32 L, jA a1 B.1 16 (cpB K (fun _ => 0) i)] → va_S A s.heap H locs → lv_has ls 5 [(0, .ref h0), (2, .ref a1), (3, .int (nI i))] → W p l e R s m args below meth c H locs cells slots Q (F0 m 7 ls []) := by
  intro n
  induction n with
  | zero =>
    intro i hi H locs ls hP hD hS hl
    have hi : i = 16 := by omega
    subst hi
    refine lv_iload_n hx hb dX0_begin_7 rfl (lv_at hl 2 rfl) ?_
    refine lv_aload_n hx hb dX0_begin_8 rfl (lv_at hl 1 rfl) ?_
    refine va_alen (v := nI 16) hx hb hK hP 3 0 rfl rfl rfl dX0_begin_9 ?_
    refine lv_icmp_ge (tgt := 28) hx hb dX0_begin_10 (by decide) (fun c_10 => ?_) (fun c_10 => ?_)
    · exact kk H locs ls hP hD hS hl
    · exact absurd (nI_le (Nat.le_refl _) (by decide)) c_10
  | succ n ih =>
    intro i hi H locs ls hP hD hS hl
    refine lv_iload_n hx hb dX0_begin_7 rfl (lv_at hl 2 rfl) ?_
    refine lv_aload_n hx hb dX0_begin_8 rfl (lv_at hl 1 rfl) ?_
    refine va_alen (v := nI 16) hx hb hK hP 3 0 rfl rfl rfl dX0_begin_9 ?_
    refine lv_icmp_ge (tgt := 28) hx hb dX0_begin_10 (by decide) (fun c_10 => ?_) (fun c_10 => ?_)
    · exact absurd ((nI_leI (by decide) (by omega)).mp c_10) (by omega)
    · refine lv_aload_n hx hb dX0_begin_13 rfl (lv_at hl 1 rfl) ?_
      refine lv_iload_n hx hb dX0_begin_14 rfl (lv_at hl 2 rfl) ?_
      refine lv_aload_n hx hb dX0_begin_15 rfl (lv_at hl 0 rfl) ?_
      refine va_get (D := D) (ci := 0) (v := .ref k0) (C := RX0) (T := TX0) (N := 8) hx hb hts in_X0 hown hK hP 0 rfl rfl 3 (by decide) (hts _ q55) (fun _ h9 => h9) rfl dX0_begin_16 ?_
      refine lv_iload_n hx hb dX0_begin_19 rfl (lv_at hl 2 rfl) ?_
      refine jbald hx hb hK hP 1 rfl i (by omega) (by decide) dX0_begin_20 ?_
      refine jbast hx hb hK hP hD hS 3 rfl i (by omega) (by decide) (cpB K (fun _ => 0) (i + 1)) (by rw [vb_nar]; exact cpB_S K _ i) dX0_begin_21 (fun H locs hP hD hS => ?_)
      have hP : va_P D vwCl [jO h0 0 [x0, x1, x2, .ref k0, .ref v0, x5, x6, x7], jA k0 B.1 32 K, jA v0 B.1 32 L, jA a1 B.1 16 (cpB K (fun _ => 0) (i + 1))] H := hP
      have hD : va_D A [jO h0 0 [x0, x1, x2, .ref k0, .ref v0, x5, x6, x7], jA k0 B.1 32 K, jA v0 B.1 32 L, jA a1 B.1 16 (cpB K (fun _ => 0) (i + 1))] := hD
      refine lv_iinc (v := nI (i + 1)) (lv' := [(3, .int (nI (i + 1))), (0, .ref h0), (2, .ref a1)]) hx hb dX0_begin_22 hl (k := 2) rfl (jinc i) (by decide) rfl (fun ls hl => ?_)
      refine lv_goto (tgt := 7) hx hb dX0_begin_25 (by decide) ?_
      exact ih (i + 1) (by omega) H locs ls hP hD hS (lv_sub hl [1, 2, 0] rfl)
set_option maxHeartbeats 4000000 in
set_option maxRecDepth 100000 in
theorem loopX0_nonce {p : Program} {l : Launch} {e : Env} {R : Room} {s : State} {m : MethodId} {args : Array Value} {below : List Frame} {meth : Method} {c : Code} {Q : State → Prop} {cells slots : Nat} {D : va_G} {B : ClassId × ClassId} {A : Nat → Prop} {h0 k0 v0 a1 a2 : Nat} {K L F : Nat → Int32} {x0 x1 x2 x5 x6 x7 : Value} (hx : p.tables.exec = Jvm.exec) (hb : c.code = cX0_begin) (hml : c.maxLocals = 5) (hown : s.vm.findClass "VmpcDesk" = some m.cls) (hts : ∀ w ∈ lw_all, w.before args s = true) (hK : va_K D vwCl (TY B) s) (hA : ∀ q : Nat, s.heap.size ≤ q → A q) 
    (kk : ∀ (H : Heap) (locs : List Loc) (ls : Array Slot), va_P D vwCl [jO h0 0 [x0, x1, x2, .ref k0, .ref v0, x5, x6, x7], jA k0 B.1 32 K, jA v0 B.1 32 L, jA a1 B.1 16 F, jA a2 B.1 16 (cpB L (fun _ => 0) 16)] H → va_D A [jO h0 0 [x0, x1, x2, .ref k0, .ref v0, x5, x6, x7], jA k0 B.1 32 K, jA v0 B.1 32 L, jA a1 B.1 16 F, jA a2 B.1 16 (cpB L (fun _ => 0) 16)] → va_S A s.heap H locs → lv_has ls 5 [(0, .ref h0), (2, .ref a1), (3, .ref a2), (4, .int (nI 16))] → W p l e R s m args below meth c H locs cells slots Q (F0 m 60 ls [])) :
    ∀ (n i : Nat), i + n = 16 → ∀ (H : Heap) (locs : List Loc) (ls : Array Slot), va_P D vwCl [jO h0 0 [x0, x1, x2, .ref k0, .ref v0, x5, x6, x7], jA k0 B.1 32 K, jA v0 B.1 32 L, jA a1 B.1 16 F, jA a2 B.1 16 (cpB L (fun _ => 0) i)] H → va_D A [jO h0 0 [x0, x1, x2, .ref k0, .ref v0, x5, x6, x7], jA k0 B.1 32 K, jA v0 B.1 32 L, jA a1 B.1 16 F, jA a2 B.1 16 (cpB L (fun _ => 0) i)] → va_S A s.heap H locs → lv_has ls 5 [(0, .ref h0), (2, .ref a1), (3, .ref a2), (4, .int (nI i))] → W p l e R s m args below meth c H locs cells slots Q (F0 m 36 ls []) := by
  intro n
  induction n with
  | zero =>
    intro i hi H locs ls hP hD hS hl
    have hi : i = 16 := by omega
    subst hi
    refine lv_iload hx hb dX0_begin_36 (lv_at hl 3 rfl) ?_
    refine lv_bipush (v := nI 16) hx hb dX0_begin_38 (by decide) ?_
    refine lv_icmp_ge (tgt := 60) hx hb dX0_begin_40 (by decide) (fun c_40 => ?_) (fun c_40 => ?_)
    · exact kk H locs ls hP hD hS hl
    · exact absurd (nI_le (Nat.le_refl _) (by decide)) c_40
  | succ n ih =>
    intro i hi H locs ls hP hD hS hl
    refine lv_iload hx hb dX0_begin_36 (lv_at hl 3 rfl) ?_
    refine lv_bipush (v := nI 16) hx hb dX0_begin_38 (by decide) ?_
    refine lv_icmp_ge (tgt := 60) hx hb dX0_begin_40 (by decide) (fun c_40 => ?_) (fun c_40 => ?_)
    · exact absurd ((nI_leI (by decide) (by omega)).mp c_40) (by omega)
    · refine lv_aload_n hx hb dX0_begin_43 rfl (lv_at hl 2 rfl) ?_
      refine lv_iload hx hb dX0_begin_44 (lv_at hl 3 rfl) ?_
      refine lv_aload_n hx hb dX0_begin_46 rfl (lv_at hl 0 rfl) ?_
      refine va_get (D := D) (ci := 0) (v := .ref v0) (C := RX0) (T := TX0) (N := 8) hx hb hts in_X0 hown hK hP 0 rfl rfl 4 (by decide) (hts _ q56) (fun _ h9 => h9) rfl dX0_begin_47 ?_
      refine lv_iload hx hb dX0_begin_50 (lv_at hl 3 rfl) ?_
      refine jbald hx hb hK hP 2 rfl i (by omega) (by decide) dX0_begin_52 ?_
      refine jbast hx hb hK hP hD hS 4 rfl i (by omega) (by decide) (cpB L (fun _ => 0) (i + 1)) (by rw [vb_nar]; exact cpB_S L _ i) dX0_begin_53 (fun H locs hP hD hS => ?_)
      have hP : va_P D vwCl [jO h0 0 [x0, x1, x2, .ref k0, .ref v0, x5, x6, x7], jA k0 B.1 32 K, jA v0 B.1 32 L, jA a1 B.1 16 F, jA a2 B.1 16 (cpB L (fun _ => 0) (i + 1))] H := hP
      have hD : va_D A [jO h0 0 [x0, x1, x2, .ref k0, .ref v0, x5, x6, x7], jA k0 B.1 32 K, jA v0 B.1 32 L, jA a1 B.1 16 F, jA a2 B.1 16 (cpB L (fun _ => 0) (i + 1))] := hD
      refine lv_iinc (v := nI (i + 1)) (lv' := [(4, .int (nI (i + 1))), (0, .ref h0), (2, .ref a1), (3, .ref a2)]) hx hb dX0_begin_54 hl (k := 3) rfl (jinc i) (by decide) rfl (fun ls hl => ?_)
      refine lv_goto (tgt := 36) hx hb dX0_begin_57 (by decide) ?_
      exact ih (i + 1) (by omega) H locs ls hP hD hS (lv_sub hl [1, 2, 3, 0] rfl)
set_option maxHeartbeats 4000000 in
set_option maxRecDepth 100000 in
/-- begin(x): a new engine, keyed by the first sixteen bytes of key and nonce -/
theorem metX0_begin (l : Launch) (D : va_G) (B : ClassId × ClassId) (sz : Nat) (h0 k0 v0 : Nat) (K L : Nat → Int32) (x : Int32) (x0 x1 x2 x5 x6 x7 : Value) : jMv l yX0_begin (ws_ yX0_begin cX0_begin 5 none) { frames := 4, cells := 8, slots := 328, locals := 120 } D B sz [.ref h0, .int x] [jO h0 0 [x0, x1, x2, .ref k0, .ref v0, x5, x6, x7], jA k0 B.1 32 K, jA v0 B.1 32 L] (S := Nat × Nat × Nat × Nat) (fun _ => True) (fun u => [jO h0 0 [.ref u.1, .int (nI 1), .int (nI 0), .ref k0, .ref v0, x5, x6, x7], jA k0 B.1 32 K, jA v0 B.1 32 L, jO u.1 1 [.int (bI 0), .ref u.2.1, .int (bI (setK (fun j => lo8 (cpB K (fun _ => 0) 16 j)) (fun j => lo8 (cpB L (fun _ => 0) 16 j))).2), .ref u.2.2.1, .ref u.2.2.2], jA u.2.1 B.1 256 (bP (setK (fun j => lo8 (cpB K (fun _ => 0) 16 j)) (fun j => lo8 (cpB L (fun _ => 0) 16 j))).1), jA u.2.2.1 B.1 16 (cpB L (fun _ => 0) 16), jA u.2.2.2 B.1 16 (cpB K (fun _ => 0) 16)]) := by
  refine jStartV (by decide) (Nat.le_of_ble_eq_true rfl) ?_
  intro p e s m below meth c A H ls hx hb hr hlk hml hown hin hts hK hP hD hA hS hl
  have hown : s.vm.findClass "VmpcDesk" = some m.cls := hown
  have hl : lv_has ls 5 [(0, .ref h0), (1, .int x)] := hl
  refine lv_bipush (v := nI 16) hx hb dX0_begin_0 (by decide) ?_
  refine jnewb hx hb (hts _ q77) hK hP hD hS hA 16 (by decide) (Nat.le_of_ble_eq_true rfl) (Nat.le_of_ble_eq_true rfl) dX0_begin_2 (fun a_2 H hP hD hS => ?_)
  have hP : va_P D vwCl [jO h0 0 [x0, x1, x2, .ref k0, .ref v0, x5, x6, x7], jA k0 B.1 32 K, jA v0 B.1 32 L, jA a_2 B.1 16 (fun _ => 0)] H := hP
  have hD : va_D A [jO h0 0 [x0, x1, x2, .ref k0, .ref v0, x5, x6, x7], jA k0 B.1 32 K, jA v0 B.1 32 L, jA a_2 B.1 16 (fun _ => 0)] := hD
  refine lv_astore_n (lv' := [(2, .ref a_2), (0, .ref h0), (1, .int x)]) hx hb dX0_begin_4 rfl hl (by decide) rfl (fun ls hl => ?_)
  refine lv_iconst (v := nI 0) hx hb dX0_begin_5 (by decide) ?_
  refine lv_istore_n (lv' := [(3, .int (nI 0)), (2, .ref a_2), (0, .ref h0), (1, .int x)]) hx hb dX0_begin_6 rfl hl (by decide) rfl (fun ls hl => ?_)
  rw [← cpB_0 K (fun _ => 0)] at hP hD
  refine loopX0_key hx hb hml hown hts hK hA (fun H locs ls hP hD hS hl => ?_) 16 0 rfl H _ ls hP hD hS (lv_sub hl [2, 1, 0] rfl)
  refine lv_bipush (v := nI 16) hx hb dX0_begin_28 (by decide) ?_
  refine jnewb hx hb (hts _ q77) hK hP hD hS hA 16 (by decide) (Nat.le_of_ble_eq_true rfl) (Nat.le_of_ble_eq_true rfl) dX0_begin_30 (fun a_30 H hP hD hS => ?_)
  have hP : va_P D vwCl [jO h0 0 [x0, x1, x2, .ref k0, .ref v0, x5, x6, x7], jA k0 B.1 32 K, jA v0 B.1 32 L, jA a_2 B.1 16 (cpB K (fun _ => 0) 16), jA a_30 B.1 16 (fun _ => 0)] H := hP
  have hD : va_D A [jO h0 0 [x0, x1, x2, .ref k0, .ref v0, x5, x6, x7], jA k0 B.1 32 K, jA v0 B.1 32 L, jA a_2 B.1 16 (cpB K (fun _ => 0) 16), jA a_30 B.1 16 (fun _ => 0)] := hD
  refine lv_astore_n (lv' := [(3, .ref a_30), (0, .ref h0), (2, .ref a_2)]) hx hb dX0_begin_32 rfl hl (by decide) rfl (fun ls hl => ?_)
  refine lv_iconst (v := nI 0) hx hb dX0_begin_33 (by decide) ?_
  refine lv_istore (lv' := [(4, .int (nI 0)), (3, .ref a_30), (0, .ref h0), (2, .ref a_2)]) hx hb dX0_begin_34 hl (by decide) rfl (fun ls hl => ?_)
  have e0 : (fun _ => 0 : Nat → Int32) = cpB L (fun _ => 0) 0 := (cpB_0 L _).symm
  have hP : va_P D vwCl [jO h0 0 [x0, x1, x2, .ref k0, .ref v0, x5, x6, x7], jA k0 B.1 32 K, jA v0 B.1 32 L, jA a_2 B.1 16 (cpB K (fun _ => 0) 16), jA a_30 B.1 16 (cpB L (fun _ => 0) 0)] H := by rw [cpB_0]; exact hP
  have hD : va_D A [jO h0 0 [x0, x1, x2, .ref k0, .ref v0, x5, x6, x7], jA k0 B.1 32 K, jA v0 B.1 32 L, jA a_2 B.1 16 (cpB K (fun _ => 0) 16), jA a_30 B.1 16 (cpB L (fun _ => 0) 0)] := by rw [cpB_0]; exact hD
  refine loopX0_nonce (F := cpB K (fun _ => 0) 16) hx hb hml hown hts hK hA (fun H locs ls hP hD hS hl => ?_) 16 0 rfl H _ ls hP hD hS (lv_sub hl [2, 3, 1, 0] rfl)
  refine va_new (ci := 3) (fs := [.null, .null]) (C := RX3) (T := TX3) (N := 2) hx hb hts in_X3 tyX3 tyX3_ok hown (hts _ q106) (hts _ q107) (hts _ q12) hK hP hD hS hA rfl (by decide) (Nat.le_of_ble_eq_true rfl) (Nat.le_of_ble_eq_true rfl) dX0_begin_60 (fun o_60 H hP hD hS => ?_)
  have hP : va_P D vwCl [jO h0 0 [x0, x1, x2, .ref k0, .ref v0, x5, x6, x7], jA k0 B.1 32 K, jA v0 B.1 32 L, jA a_2 B.1 16 (cpB K (fun _ => 0) 16), jA a_30 B.1 16 (cpB L (fun _ => 0) 16), jO o_60 3 [.null, .null]] H := hP
  have hD : va_D A [jO h0 0 [x0, x1, x2, .ref k0, .ref v0, x5, x6, x7], jA k0 B.1 32 K, jA v0 B.1 32 L, jA a_2 B.1 16 (cpB K (fun _ => 0) 16), jA a_30 B.1 16 (cpB L (fun _ => 0) 16), jO o_60 3 [.null, .null]] := hD
  refine lv_dup hx hb dX0_begin_63 rfl ?_
  refine va_new (ci := 4) (fs := [.null]) (C := RX4) (T := TX4) (N := 1) hx hb hts in_X4 tyX4 tyX4_ok hown (hts _ q108) (hts _ q109) (hts _ q13) hK hP hD hS hA rfl (by decide) (Nat.le_of_ble_eq_true rfl) (Nat.le_of_ble_eq_true rfl) dX0_begin_64 (fun o_64 H hP hD hS => ?_)
  have hP : va_P D vwCl [jO h0 0 [x0, x1, x2, .ref k0, .ref v0, x5, x6, x7], jA k0 B.1 32 K, jA v0 B.1 32 L, jA a_2 B.1 16 (cpB K (fun _ => 0) 16), jA a_30 B.1 16 (cpB L (fun _ => 0) 16), jO o_60 3 [.null, .null], jO o_64 4 [.null]] H := hP
  have hD : va_D A [jO h0 0 [x0, x1, x2, .ref k0, .ref v0, x5, x6, x7], jA k0 B.1 32 K, jA v0 B.1 32 L, jA a_2 B.1 16 (cpB K (fun _ => 0) 16), jA a_30 B.1 16 (cpB L (fun _ => 0) 16), jO o_60 3 [.null, .null], jO o_64 4 [.null]] := hD
  refine lv_dup hx hb dX0_begin_67 rfl ?_
  refine lv_aload_n hx hb dX0_begin_68 rfl (lv_at hl 1 rfl) ?_
  refine jcallv (ws := [jO h0 0 [x0, x1, x2, .ref k0, .ref v0, x5, x6, x7], jA k0 B.1 32 K, jA v0 B.1 32 L, jA a_2 B.1 16 (cpB K (fun _ => 0) 16), jA a_30 B.1 16 (cpB L (fun _ => 0) 16), jO o_60 3 [.null, .null], jO o_64 4 [.null]]) (wc := [jO o_64 4 [.null], jA a_2 B.1 16 (cpB K (fun _ => 0) 16)]) [6, 3] rfl (by decide) (fun _ => rfl) hP hD hS hA (va_runI (b := o_64) (As := [.ref a_2]) (rest := [.ref o_64, .ref o_60, .ref o_60]) ⟨hx, hb, hml, hown, hts⟩ (metX4_init l D B H.size o_64 a_2 K) (cwI 1 hts (lw_meth q112) rfl rfl rfl (hts _ q13) (hts _ q110) (hts _ q111) rfl (by decide +kernel) ⟨Nat.le_of_ble_eq_true rfl, Nat.le_of_ble_eq_true rfl⟩) (jPreS hK (hP.sub (ws' := [jO o_64 4 [.null], jA a_2 B.1 16 (cpB K (fun _ => 0) 16)]) [6, 3] rfl) (hD.sub (ws' := [jO o_64 4 [.null], jA a_2 B.1 16 (cpB K (fun _ => 0) 16)]) [6, 3] (by decide) rfl)) rfl rfl hl.1 rfl (lv_room (Nat.le_of_ble_eq_true rfl)) dX0_begin_69 ⟨Nat.le_of_ble_eq_true rfl, Nat.le_of_ble_eq_true rfl⟩) (fun uk H locs hu hP hD hS => ?_)
  have hP : va_P D vwCl [jO h0 0 [x0, x1, x2, .ref k0, .ref v0, x5, x6, x7], jA k0 B.1 32 K, jA v0 B.1 32 L, jA a_2 B.1 16 (cpB K (fun _ => 0) 16), jA a_30 B.1 16 (cpB L (fun _ => 0) 16), jO o_60 3 [.null, .null], jO o_64 4 [.ref uk], jA uk B.1 16 (cpB K (fun _ => 0) 16)] H := hP
  have hD : va_D A [jO h0 0 [x0, x1, x2, .ref k0, .ref v0, x5, x6, x7], jA k0 B.1 32 K, jA v0 B.1 32 L, jA a_2 B.1 16 (cpB K (fun _ => 0) 16), jA a_30 B.1 16 (cpB L (fun _ => 0) 16), jO o_60 3 [.null, .null], jO o_64 4 [.ref uk], jA uk B.1 16 (cpB K (fun _ => 0) 16)] := hD
  refine lv_aload_n hx hb dX0_begin_72 rfl (lv_at hl 2 rfl) ?_
  refine jcallv (ws := [jO h0 0 [x0, x1, x2, .ref k0, .ref v0, x5, x6, x7], jA k0 B.1 32 K, jA v0 B.1 32 L, jA a_2 B.1 16 (cpB K (fun _ => 0) 16), jA a_30 B.1 16 (cpB L (fun _ => 0) 16), jO o_60 3 [.null, .null], jO o_64 4 [.ref uk], jA uk B.1 16 (cpB K (fun _ => 0) 16)]) (wc := [jO o_60 3 [.null, .null], jA a_30 B.1 16 (cpB L (fun _ => 0) 16)]) [5, 4] rfl (by decide) (fun _ => rfl) hP hD hS hA (va_runI (b := o_60) (As := [.ref o_64, .ref a_30]) (rest := [.ref o_60]) ⟨hx, hb, hml, hown, hts⟩ (metX3_init l D B H.size o_60 o_64 a_30 L) (cwI 2 hts (lw_meth q129) rfl rfl rfl (hts _ q12) (hts _ q127) (hts _ q128) rfl (by decide +kernel) ⟨Nat.le_of_ble_eq_true rfl, Nat.le_of_ble_eq_true rfl⟩) (jPreS hK (hP.sub (ws' := [jO o_60 3 [.null, .null], jA a_30 B.1 16 (cpB L (fun _ => 0) 16)]) [5, 4] rfl) (hD.sub (ws' := [jO o_60 3 [.null, .null], jA a_30 B.1 16 (cpB L (fun _ => 0) 16)]) [5, 4] (by decide) rfl)) rfl rfl hl.1 rfl (lv_room (Nat.le_of_ble_eq_true rfl)) dX0_begin_73 ⟨Nat.le_of_ble_eq_true rfl, Nat.le_of_ble_eq_true rfl⟩) (fun uv H locs hu hP hD hS => ?_)
  have hP : va_P D vwCl [jO h0 0 [x0, x1, x2, .ref k0, .ref v0, x5, x6, x7], jA k0 B.1 32 K, jA v0 B.1 32 L, jA a_2 B.1 16 (cpB K (fun _ => 0) 16), jA a_30 B.1 16 (cpB L (fun _ => 0) 16), jO o_60 3 [.ref uv, .ref o_64], jO o_64 4 [.ref uk], jA uk B.1 16 (cpB K (fun _ => 0) 16), jA uv B.1 16 (cpB L (fun _ => 0) 16)] H := hP
  have hD : va_D A [jO h0 0 [x0, x1, x2, .ref k0, .ref v0, x5, x6, x7], jA k0 B.1 32 K, jA v0 B.1 32 L, jA a_2 B.1 16 (cpB K (fun _ => 0) 16), jA a_30 B.1 16 (cpB L (fun _ => 0) 16), jO o_60 3 [.ref uv, .ref o_64], jO o_64 4 [.ref uk], jA uk B.1 16 (cpB K (fun _ => 0) 16), jA uv B.1 16 (cpB L (fun _ => 0) 16)] := hD
  refine lv_astore (lv' := [(4, .ref o_60), (0, .ref h0), (2, .ref a_2), (3, .ref a_30)]) hx hb dX0_begin_76 hl (by decide) rfl (fun ls hl => ?_)
  refine lv_aload_n hx hb dX0_begin_78 rfl (lv_at hl 1 rfl) ?_
  refine va_new (ci := 1) (fs := [.int 0, .null, .int 0, .null, .null]) (C := RX1) (T := TX1) (N := 5) hx hb hts in_X1 tyX1 tyX1_ok hown (hts _ q30) (hts _ q31) (hts _ q10) hK hP hD hS hA rfl (by decide) (Nat.le_of_ble_eq_true rfl) (Nat.le_of_ble_eq_true rfl) dX0_begin_79 (fun o_79 H hP hD hS => ?_)
  have hP : va_P D vwCl [jO h0 0 [x0, x1, x2, .ref k0, .ref v0, x5, x6, x7], jA k0 B.1 32 K, jA v0 B.1 32 L, jA a_2 B.1 16 (cpB K (fun _ => 0) 16), jA a_30 B.1 16 (cpB L (fun _ => 0) 16), jO o_60 3 [.ref uv, .ref o_64], jO o_64 4 [.ref uk], jA uk B.1 16 (cpB K (fun _ => 0) 16), jA uv B.1 16 (cpB L (fun _ => 0) 16), jO o_79 1 [.int 0, .null, .int 0, .null, .null]] H := hP
  have hD : va_D A [jO h0 0 [x0, x1, x2, .ref k0, .ref v0, x5, x6, x7], jA k0 B.1 32 K, jA v0 B.1 32 L, jA a_2 B.1 16 (cpB K (fun _ => 0) 16), jA a_30 B.1 16 (cpB L (fun _ => 0) 16), jO o_60 3 [.ref uv, .ref o_64], jO o_64 4 [.ref uk], jA uk B.1 16 (cpB K (fun _ => 0) 16), jA uv B.1 16 (cpB L (fun _ => 0) 16), jO o_79 1 [.int 0, .null, .int 0, .null, .null]] := hD
  refine lv_dup hx hb dX0_begin_82 rfl ?_
  refine jcallv (ws := [jO h0 0 [x0, x1, x2, .ref k0, .ref v0, x5, x6, x7], jA k0 B.1 32 K, jA v0 B.1 32 L, jA a_2 B.1 16 (cpB K (fun _ => 0) 16), jA a_30 B.1 16 (cpB L (fun _ => 0) 16), jO o_60 3 [.ref uv, .ref o_64], jO o_64 4 [.ref uk], jA uk B.1 16 (cpB K (fun _ => 0) 16), jA uv B.1 16 (cpB L (fun _ => 0) 16), jO o_79 1 [.int 0, .null, .int 0, .null, .null]]) (wc := [jO o_79 1 [.int 0, .null, .int 0, .null, .null]]) [9] rfl (by decide) (fun _ => rfl) hP hD hS hA (va_runI (b := o_79) (As := []) (rest := [.ref o_79, .ref h0]) ⟨hx, hb, hml, hown, hts⟩ (metX1_init l D B H.size o_79) (cwI 0 hts (lw_meth q34) rfl rfl rfl (hts _ q10) (hts _ q32) (hts _ q33) rfl (by decide +kernel) ⟨Nat.le_of_ble_eq_true rfl, Nat.le_of_ble_eq_true rfl⟩) (jPreS hK (hP.sub (ws' := [jO o_79 1 [.int 0, .null, .int 0, .null, .null]]) [9] rfl) (hD.sub (ws' := [jO o_79 1 [.int 0, .null, .int 0, .null, .null]]) [9] (by decide) rfl)) rfl rfl hl.1 rfl (lv_room (Nat.le_of_ble_eq_true rfl)) dX0_begin_83 ⟨Nat.le_of_ble_eq_true rfl, Nat.le_of_ble_eq_true rfl⟩) (fun _ H locs hu hP hD hS => ?_)
  have hP : va_P D vwCl [jO h0 0 [x0, x1, x2, .ref k0, .ref v0, x5, x6, x7], jA k0 B.1 32 K, jA v0 B.1 32 L, jA a_2 B.1 16 (cpB K (fun _ => 0) 16), jA a_30 B.1 16 (cpB L (fun _ => 0) 16), jO o_60 3 [.ref uv, .ref o_64], jO o_64 4 [.ref uk], jA uk B.1 16 (cpB K (fun _ => 0) 16), jA uv B.1 16 (cpB L (fun _ => 0) 16), jO o_79 1 [.int (nI 0), .null, .int (nI 0), .null, .null]] H := hP
  have hD : va_D A [jO h0 0 [x0, x1, x2, .ref k0, .ref v0, x5, x6, x7], jA k0 B.1 32 K, jA v0 B.1 32 L, jA a_2 B.1 16 (cpB K (fun _ => 0) 16), jA a_30 B.1 16 (cpB L (fun _ => 0) 16), jO o_60 3 [.ref uv, .ref o_64], jO o_64 4 [.ref uk], jA uk B.1 16 (cpB K (fun _ => 0) 16), jA uv B.1 16 (cpB L (fun _ => 0) 16), jO o_79 1 [.int (nI 0), .null, .int (nI 0), .null, .null]] := hD
  refine va_put (D := D) (ci := 0) (v := .ref o_79) (ty := .object "VMPCEngine") (C := RX0) (T := TX0) (N := 8) hx hb hts in_X0 tyX0 tyX0_ok nmX0 hown hK hP hD hS 0 rfl rfl 0 (by decide) (hts _ q52) (fun _ h9 => h9) rfl (by decide +kernel) rfl rfl (Nat.le_of_ble_eq_true rfl) dX0_begin_86 (fun H locs hP hD hS => ?_)
  have hP : va_P D vwCl [jO h0 0 [.ref o_79, x1, x2, .ref k0, .ref v0, x5, x6, x7], jA k0 B.1 32 K, jA v0 B.1 32 L, jA a_2 B.1 16 (cpB K (fun _ => 0) 16), jA a_30 B.1 16 (cpB L (fun _ => 0) 16), jO o_60 3 [.ref uv, .ref o_64], jO o_64 4 [.ref uk], jA uk B.1 16 (cpB K (fun _ => 0) 16), jA uv B.1 16 (cpB L (fun _ => 0) 16), jO o_79 1 [.int (nI 0), .null, .int (nI 0), .null, .null]] H := hP
  have hD : va_D A [jO h0 0 [.ref o_79, x1, x2, .ref k0, .ref v0, x5, x6, x7], jA k0 B.1 32 K, jA v0 B.1 32 L, jA a_2 B.1 16 (cpB K (fun _ => 0) 16), jA a_30 B.1 16 (cpB L (fun _ => 0) 16), jO o_60 3 [.ref uv, .ref o_64], jO o_64 4 [.ref uk], jA uk B.1 16 (cpB K (fun _ => 0) 16), jA uv B.1 16 (cpB L (fun _ => 0) 16), jO o_79 1 [.int (nI 0), .null, .int (nI 0), .null, .null]] := hD
  refine lv_aload_n hx hb dX0_begin_89 rfl (lv_at hl 1 rfl) ?_
  refine va_get (D := D) (ci := 0) (v := .ref o_79) (C := RX0) (T := TX0) (N := 8) hx hb hts in_X0 hown hK hP 0 rfl rfl 0 (by decide) (hts _ q52) (fun _ h9 => h9) rfl dX0_begin_90 ?_
  refine lv_iconst (v := nI 1) hx hb dX0_begin_93 (by decide) ?_
  refine lv_aload hx hb dX0_begin_94 (lv_at hl 0 rfl) ?_
  refine jcallv (ws := [jO h0 0 [.ref o_79, x1, x2, .ref k0, .ref v0, x5, x6, x7], jA k0 B.1 32 K, jA v0 B.1 32 L, jA a_2 B.1 16 (cpB K (fun _ => 0) 16), jA a_30 B.1 16 (cpB L (fun _ => 0) 16), jO o_60 3 [.ref uv, .ref o_64], jO o_64 4 [.ref uk], jA uk B.1 16 (cpB K (fun _ => 0) 16), jA uv B.1 16 (cpB L (fun _ => 0) 16), jO o_79 1 [.int (nI 0), .null, .int (nI 0), .null, .null]]) (wc := [jO o_79 1 [.int (nI 0), .null, .int (nI 0), .null, .null], jO o_60 3 [.ref uv, .ref o_64], jO o_64 4 [.ref uk], jA uk B.1 16 (cpB K (fun _ => 0) 16), jA uv B.1 16 (cpB L (fun _ => 0) 16)]) [9, 5, 6, 7, 8] rfl (by decide) (fun _ => rfl) hP hD hS hA (va_runV (C := RX1) (b := o_79) (As := [.int (nI 1), .ref o_60]) (rest := []) ⟨hx, hb, hml, hown, hts⟩ (metX1_init_2 l D B H.size o_79 o_60 o_64 uk uv (cpB K (fun _ => 0) 16) (cpB L (fun _ => 0) 16) (nI 0) (nI 0)) (cwV 2 hts (lw_V q142 q143 q144 q10 q145) rfl rfl rfl (by decide +kernel) ⟨Nat.le_of_ble_eq_true rfl, Nat.le_of_ble_eq_true rfl⟩) (jPreV (ci := 1) (q0 := 0) hK (hP.sub (ws' := [jO o_79 1 [.int (nI 0), .null, .int (nI 0), .null, .null], jO o_60 3 [.ref uv, .ref o_64], jO o_64 4 [.ref uk], jA uk B.1 16 (cpB K (fun _ => 0) 16), jA uv B.1 16 (cpB L (fun _ => 0) 16)]) [9, 5, 6, 7, 8] rfl) (hD.sub (ws' := [jO o_79 1 [.int (nI 0), .null, .int (nI 0), .null, .null], jO o_60 3 [.ref uv, .ref o_64], jO o_64 4 [.ref uk], jA uk B.1 16 (cpB K (fun _ => 0) 16), jA uv B.1 16 (cpB L (fun _ => 0) 16)]) [9, 5, 6, 7, 8] (by decide) rfl) rfl rfl) rfl rfl hl.1 rfl (lv_room (Nat.le_of_ble_eq_true rfl)) dX0_begin_96 ⟨Nat.le_of_ble_eq_true rfl, Nat.le_of_ble_eq_true rfl⟩) (fun up H locs hu hP hD hS => ?_)
  have hP : va_P D vwCl [jO h0 0 [.ref o_79, x1, x2, .ref k0, .ref v0, x5, x6, x7], jA k0 B.1 32 K, jA v0 B.1 32 L, jA a_2 B.1 16 (cpB K (fun _ => 0) 16), jA a_30 B.1 16 (cpB L (fun _ => 0) 16), jO o_60 3 [.ref uv, .ref o_64], jO o_64 4 [.ref uk], jA uk B.1 16 (cpB K (fun _ => 0) 16), jA uv B.1 16 (cpB L (fun _ => 0) 16), jO o_79 1 [.int (bI 0), .ref up, .int (bI (setK (fun j => lo8 (cpB K (fun _ => 0) 16 j)) (fun j => lo8 (cpB L (fun _ => 0) 16 j))).2), .ref uv, .ref uk], jA up B.1 256 (bP (setK (fun j => lo8 (cpB K (fun _ => 0) 16 j)) (fun j => lo8 (cpB L (fun _ => 0) 16 j))).1)] H := hP
  have hD : va_D A [jO h0 0 [.ref o_79, x1, x2, .ref k0, .ref v0, x5, x6, x7], jA k0 B.1 32 K, jA v0 B.1 32 L, jA a_2 B.1 16 (cpB K (fun _ => 0) 16), jA a_30 B.1 16 (cpB L (fun _ => 0) 16), jO o_60 3 [.ref uv, .ref o_64], jO o_64 4 [.ref uk], jA uk B.1 16 (cpB K (fun _ => 0) 16), jA uv B.1 16 (cpB L (fun _ => 0) 16), jO o_79 1 [.int (bI 0), .ref up, .int (bI (setK (fun j => lo8 (cpB K (fun _ => 0) 16 j)) (fun j => lo8 (cpB L (fun _ => 0) 16 j))).2), .ref uv, .ref uk], jA up B.1 256 (bP (setK (fun j => lo8 (cpB K (fun _ => 0) 16 j)) (fun j => lo8 (cpB L (fun _ => 0) 16 j))).1)] := hD
  refine lv_aload_n hx hb dX0_begin_99 rfl (lv_at hl 1 rfl) ?_
  refine lv_iconst (v := nI 1) hx hb dX0_begin_100 (by decide) ?_
  refine va_put (D := D) (ci := 0) (v := .int (nI 1)) (ty := .boolean) (C := RX0) (T := TX0) (N := 8) hx hb hts in_X0 tyX0 tyX0_ok nmX0 hown hK hP hD hS 0 rfl rfl 1 (by decide) (hts _ q53) (fun _ h9 => h9) rfl (by decide +kernel) rfl rfl (Nat.le_of_ble_eq_true rfl) dX0_begin_101 (fun H locs hP hD hS => ?_)
  have hP : va_P D vwCl [jO h0 0 [.ref o_79, .int (nI 1), x2, .ref k0, .ref v0, x5, x6, x7], jA k0 B.1 32 K, jA v0 B.1 32 L, jA a_2 B.1 16 (cpB K (fun _ => 0) 16), jA a_30 B.1 16 (cpB L (fun _ => 0) 16), jO o_60 3 [.ref uv, .ref o_64], jO o_64 4 [.ref uk], jA uk B.1 16 (cpB K (fun _ => 0) 16), jA uv B.1 16 (cpB L (fun _ => 0) 16), jO o_79 1 [.int (bI 0), .ref up, .int (bI (setK (fun j => lo8 (cpB K (fun _ => 0) 16 j)) (fun j => lo8 (cpB L (fun _ => 0) 16 j))).2), .ref uv, .ref uk], jA up B.1 256 (bP (setK (fun j => lo8 (cpB K (fun _ => 0) 16 j)) (fun j => lo8 (cpB L (fun _ => 0) 16 j))).1)] H := hP
  have hD : va_D A [jO h0 0 [.ref o_79, .int (nI 1), x2, .ref k0, .ref v0, x5, x6, x7], jA k0 B.1 32 K, jA v0 B.1 32 L, jA a_2 B.1 16 (cpB K (fun _ => 0) 16), jA a_30 B.1 16 (cpB L (fun _ => 0) 16), jO o_60 3 [.ref uv, .ref o_64], jO o_64 4 [.ref uk], jA uk B.1 16 (cpB K (fun _ => 0) 16), jA uv B.1 16 (cpB L (fun _ => 0) 16), jO o_79 1 [.int (bI 0), .ref up, .int (bI (setK (fun j => lo8 (cpB K (fun _ => 0) 16 j)) (fun j => lo8 (cpB L (fun _ => 0) 16 j))).2), .ref uv, .ref uk], jA up B.1 256 (bP (setK (fun j => lo8 (cpB K (fun _ => 0) 16 j)) (fun j => lo8 (cpB L (fun _ => 0) 16 j))).1)] := hD
  refine lv_aload_n hx hb dX0_begin_104 rfl (lv_at hl 1 rfl) ?_
  refine lv_iconst (v := nI 0) hx hb dX0_begin_105 (by decide) ?_
  refine va_put (D := D) (ci := 0) (v := .int (nI 0)) (ty := .int) (C := RX0) (T := TX0) (N := 8) hx hb hts in_X0 tyX0 tyX0_ok nmX0 hown hK hP hD hS 0 rfl rfl 2 (by decide) (hts _ q54) (fun _ h9 => h9) rfl (by decide +kernel) rfl rfl (Nat.le_of_ble_eq_true rfl) dX0_begin_106 (fun H locs hP hD hS => ?_)
  have hP : va_P D vwCl [jO h0 0 [.ref o_79, .int (nI 1), .int (nI 0), .ref k0, .ref v0, x5, x6, x7], jA k0 B.1 32 K, jA v0 B.1 32 L, jA a_2 B.1 16 (cpB K (fun _ => 0) 16), jA a_30 B.1 16 (cpB L (fun _ => 0) 16), jO o_60 3 [.ref uv, .ref o_64], jO o_64 4 [.ref uk], jA uk B.1 16 (cpB K (fun _ => 0) 16), jA uv B.1 16 (cpB L (fun _ => 0) 16), jO o_79 1 [.int (bI 0), .ref up, .int (bI (setK (fun j => lo8 (cpB K (fun _ => 0) 16 j)) (fun j => lo8 (cpB L (fun _ => 0) 16 j))).2), .ref uv, .ref uk], jA up B.1 256 (bP (setK (fun j => lo8 (cpB K (fun _ => 0) 16 j)) (fun j => lo8 (cpB L (fun _ => 0) 16 j))).1)] H := hP
  have hD : va_D A [jO h0 0 [.ref o_79, .int (nI 1), .int (nI 0), .ref k0, .ref v0, x5, x6, x7], jA k0 B.1 32 K, jA v0 B.1 32 L, jA a_2 B.1 16 (cpB K (fun _ => 0) 16), jA a_30 B.1 16 (cpB L (fun _ => 0) 16), jO o_60 3 [.ref uv, .ref o_64], jO o_64 4 [.ref uk], jA uk B.1 16 (cpB K (fun _ => 0) 16), jA uv B.1 16 (cpB L (fun _ => 0) 16), jO o_79 1 [.int (bI 0), .ref up, .int (bI (setK (fun j => lo8 (cpB K (fun _ => 0) 16 j)) (fun j => lo8 (cpB L (fun _ => 0) 16 j))).2), .ref uv, .ref uk], jA up B.1 256 (bP (setK (fun j => lo8 (cpB K (fun _ => 0) 16 j)) (fun j => lo8 (cpB L (fun _ => 0) 16 j))).1)] := hD
  exact jvret ((o_79, up, uv, uk)) hx hb hr hlk trivial (hP.sub [0, 1, 2, 9, 10, 8, 7] rfl) (hD.sub [0, 1, 2, 9, 10, 8, 7] (by decide) rfl) hS (Nat.le_of_ble_eq_true rfl) (Nat.le_of_ble_eq_true rfl) dX0_begin_109
set_option maxHeartbeats 4000000 in
set_option maxRecDepth 100000 in
/-- one(b), not begun -/
theorem metX0_one_no (l : Launch) (D : va_G) (B : ClassId × ClassId) (sz : Nat) (h0 : Nat) (b : Int32) (x0 x2 x3 x4 x5 x6 x7 : Value) : jMi l yX0_one (ws_ yX0_one cX0_one 2 (some .int)) { frames := 1, cells := 0, slots := 0, locals := 40 } D B sz [.ref h0, .int b] [jO h0 0 [x0, .int (nI 0), x2, x3, x4, x5, x6, x7]] (S := Unit) (fun r _ => r = (-1)) (fun u => [jO h0 0 [x0, .int (nI 0), x2, x3, x4, x5, x6, x7]]) := by
  refine jStartI (by decide) (Nat.le_of_ble_eq_true rfl) ?_
  intro p e s m below meth c A H ls hx hb hr hlk hml hown hin hts hK hP hD hA hS hl
  have hown : s.vm.findClass "VmpcDesk" = some m.cls := hown
  have hl : lv_has ls 2 [(0, .ref h0), (1, .int b)] := hl
  refine lv_aload_n hx hb dX0_one_0 rfl (lv_at hl 0 rfl) ?_
  refine va_get (D := D) (ci := 0) (v := .int (nI 0)) (C := RX0) (T := TX0) (N := 8) hx hb hts in_X0 hown hK hP 0 rfl rfl 1 (by decide) (hts _ q53) (fun _ h9 => h9) rfl dX0_one_1 ?_
  refine lv_if_ne (tgt := 9) hx hb dX0_one_4 (by decide) (fun c_4 => ?_) (fun c_4 => ?_)
  · exact absurd nI_0 c_4
  · refine lv_iconst (v := (-1)) hx hb dX0_one_7 (by decide) ?_
    exact jiret (()) hx hb hr rfl hlk rfl hP hD hS (Nat.le_of_ble_eq_true rfl) (Nat.le_of_ble_eq_true rfl) dX0_one_8
set_option maxHeartbeats 4000000 in
set_option maxRecDepth 100000 in
/-- one(b), all given -/
theorem metX0_one_full (l : Launch) (D : va_G) (B : ClassId × ClassId) (sz : Nat) (h0 g : Nat) (hg : 1024 ≤ g) (hg2 : g ≤ 2048) (b : Int32) (x0 x3 x4 x5 x6 x7 : Value) : jMi l yX0_one (ws_ yX0_one cX0_one 2 (some .int)) { frames := 1, cells := 0, slots := 0, locals := 40 } D B sz [.ref h0, .int b] [jO h0 0 [x0, .int (nI 1), .int (nI g), x3, x4, x5, x6, x7]] (S := Unit) (fun r _ => r = (-2)) (fun u => [jO h0 0 [x0, .int (nI 1), .int (nI g), x3, x4, x5, x6, x7]]) := by
  refine jStartI (by decide) (Nat.le_of_ble_eq_true rfl) ?_
  intro p e s m below meth c A H ls hx hb hr hlk hml hown hin hts hK hP hD hA hS hl
  have hown : s.vm.findClass "VmpcDesk" = some m.cls := hown
  have hl : lv_has ls 2 [(0, .ref h0), (1, .int b)] := hl
  refine lv_aload_n hx hb dX0_one_0 rfl (lv_at hl 0 rfl) ?_
  refine va_get (D := D) (ci := 0) (v := .int (nI 1)) (C := RX0) (T := TX0) (N := 8) hx hb hts in_X0 hown hK hP 0 rfl rfl 1 (by decide) (hts _ q53) (fun _ h9 => h9) rfl dX0_one_1 ?_
  refine lv_if_ne (tgt := 9) hx hb dX0_one_4 (by decide) (fun c_4 => ?_) (fun c_4 => ?_)
  · refine lv_aload_n hx hb dX0_one_9 rfl (lv_at hl 0 rfl) ?_
    refine va_get (D := D) (ci := 0) (v := .int (nI g)) (C := RX0) (T := TX0) (N := 8) hx hb hts in_X0 hown hK hP 0 rfl rfl 2 (by decide) (hts _ q54) (fun _ h9 => h9) rfl dX0_one_10 ?_
    refine lv_sipush (v := nI 1024) hx hb dX0_one_13 (by decide) ?_
    refine lv_icmp_lt (tgt := 22) hx hb dX0_one_16 (by decide) (fun c_16 => ?_) (fun c_16 => ?_)
    · exact absurd c_16 (nI_nlt hg (by omega))
    · refine lv_bipush (v := (-2)) hx hb dX0_one_19 (by decide) ?_
      exact jiret (()) hx hb hr rfl hlk rfl hP hD hS (Nat.le_of_ble_eq_true rfl) (Nat.le_of_ble_eq_true rfl) dX0_one_21
  · exact absurd c_4 (by decide)
set_option maxHeartbeats 4000000 in
set_option maxRecDepth 100000 in
/-- one(b): a step -/
theorem metX0_one_ok (l : Launch) (D : va_G) (B : ClassId × ClassId) (sz : Nat) (h0 e0 a0 g : Nat) (hg : g < 1024) (q : (Nat → Nat) × Nat × Nat) (hq : okS q) (b : Int32) (w3 w4 : Value) (x3 x4 x5 x6 x7 : Value) : jMi l yX0_one (ws_ yX0_one cX0_one 2 (some .int)) { frames := 1, cells := 0, slots := 0, locals := 40 } D B sz [.ref h0, .int b] [jO h0 0 [.ref e0, .int (nI 1), .int (nI g), x3, x4, x5, x6, x7], jO e0 1 [.int (bI q.2.2), .ref a0, .int (bI q.2.1), w3, w4], jA a0 B.1 256 (bP q.1)] (S := Unit) (fun r _ => r = (b ^^^ nI (nz q)) &&& nI 255) (fun u => [jO h0 0 [.ref e0, .int (nI 1), .int (nI (g + 1)), x3, x4, x5, x6, x7], jO e0 1 [.int (bI (nx q).2.2), .ref a0, .int (bI (nx q).2.1), w3, w4], jA a0 B.1 256 (bP (nx q).1)]) := by
  refine jStartI (by decide) (Nat.le_of_ble_eq_true rfl) ?_
  intro p e s m below meth c A H ls hx hb hr hlk hml hown hin hts hK hP hD hA hS hl
  have hown : s.vm.findClass "VmpcDesk" = some m.cls := hown
  have hl : lv_has ls 2 [(0, .ref h0), (1, .int b)] := hl
  refine lv_aload_n hx hb dX0_one_0 rfl (lv_at hl 0 rfl) ?_
  refine va_get (D := D) (ci := 0) (v := .int (nI 1)) (C := RX0) (T := TX0) (N := 8) hx hb hts in_X0 hown hK hP 0 rfl rfl 1 (by decide) (hts _ q53) (fun _ h9 => h9) rfl dX0_one_1 ?_
  refine lv_if_ne (tgt := 9) hx hb dX0_one_4 (by decide) (fun c_4 => ?_) (fun c_4 => ?_)
  · refine lv_aload_n hx hb dX0_one_9 rfl (lv_at hl 0 rfl) ?_
    refine va_get (D := D) (ci := 0) (v := .int (nI g)) (C := RX0) (T := TX0) (N := 8) hx hb hts in_X0 hown hK hP 0 rfl rfl 2 (by decide) (hts _ q54) (fun _ h9 => h9) rfl dX0_one_10 ?_
    refine lv_sipush (v := nI 1024) hx hb dX0_one_13 (by decide) ?_
    refine lv_icmp_lt (tgt := 22) hx hb dX0_one_16 (by decide) (fun c_16 => ?_) (fun c_16 => ?_)
    · refine lv_aload_n hx hb dX0_one_22 rfl (lv_at hl 0 rfl) ?_
      refine lv_dup hx hb dX0_one_23 rfl ?_
      refine va_get (D := D) (ci := 0) (v := .int (nI g)) (C := RX0) (T := TX0) (N := 8) hx hb hts in_X0 hown hK hP 0 rfl rfl 2 (by decide) (hts _ q54) (fun _ h9 => h9) rfl dX0_one_24 ?_
      refine lv_iconst (v := nI 1) hx hb dX0_one_27 (by decide) ?_
      refine lv_iadd hx hb dX0_one_28 ?_
      refine jas (y := nI (g + 1)) (nI_add _ _) ?_
      refine va_put (D := D) (ci := 0) (v := .int (nI (g + 1))) (ty := .int) (C := RX0) (T := TX0) (N := 8) hx hb hts in_X0 tyX0 tyX0_ok nmX0 hown hK hP hD hS 0 rfl rfl 2 (by decide) (hts _ q54) (fun _ h9 => h9) rfl (by decide +kernel) rfl rfl (Nat.le_of_ble_eq_true rfl) dX0_one_29 (fun H locs hP hD hS => ?_)
      have hP : va_P D vwCl [jO h0 0 [.ref e0, .int (nI 1), .int (nI (g + 1)), x3, x4, x5, x6, x7], jO e0 1 [.int (bI q.2.2), .ref a0, .int (bI q.2.1), w3, w4], jA a0 B.1 256 (bP q.1)] H := hP
      have hD : va_D A [jO h0 0 [.ref e0, .int (nI 1), .int (nI (g + 1)), x3, x4, x5, x6, x7], jO e0 1 [.int (bI q.2.2), .ref a0, .int (bI q.2.1), w3, w4], jA a0 B.1 256 (bP q.1)] := hD
      refine lv_aload_n hx hb dX0_one_32 rfl (lv_at hl 0 rfl) ?_
      refine va_get (D := D) (ci := 0) (v := .ref e0) (C := RX0) (T := TX0) (N := 8) hx hb hts in_X0 hown hK hP 0 rfl rfl 0 (by decide) (hts _ q52) (fun _ h9 => h9) rfl dX0_one_33 ?_
      refine lv_iload_n hx hb dX0_one_36 rfl (lv_at hl 1 rfl) ?_
      refine lv_i2b (v := b.toInt8.toInt32) hx hb dX0_one_37 rfl ?_
      refine jcalli (ws := [jO h0 0 [.ref e0, .int (nI 1), .int (nI (g + 1)), x3, x4, x5, x6, x7], jO e0 1 [.int (bI q.2.2), .ref a0, .int (bI q.2.1), w3, w4], jA a0 B.1 256 (bP q.1)]) (wc := [jO e0 1 [.int (bI q.2.2), .ref a0, .int (bI q.2.1), w3, w4], jA a0 B.1 256 (bP q.1)]) [1, 2] rfl (by decide) (fun _ => rfl) hP hD hS hA (va_runV (C := RX1) (b := e0) (As := [.int (b.toInt8.toInt32)]) (rest := []) ⟨hx, hb, hml, hown, hts⟩ (metX1_returnByte l D B H.size e0 a0 q hq (b.toInt8.toInt32) w3 w4) (cwV 1 hts (lw_V q286 q287 q288 q10 q289) rfl rfl rfl (by decide +kernel) ⟨Nat.le_of_ble_eq_true rfl, Nat.le_of_ble_eq_true rfl⟩) (jPreV (ci := 1) (q0 := 0) hK (hP.sub (ws' := [jO e0 1 [.int (bI q.2.2), .ref a0, .int (bI q.2.1), w3, w4], jA a0 B.1 256 (bP q.1)]) [1, 2] rfl) (hD.sub (ws' := [jO e0 1 [.int (bI q.2.2), .ref a0, .int (bI q.2.1), w3, w4], jA a0 B.1 256 (bP q.1)]) [1, 2] (by decide) rfl) rfl rfl) rfl rfl hl.1 rfl (lv_room (Nat.le_of_ble_eq_true rfl)) dX0_one_38 ⟨Nat.le_of_ble_eq_true rfl, Nat.le_of_ble_eq_true rfl⟩) (fun r_38 _ H locs hu hP hD hS => ?_)
      subst hu
      have hP : va_P D vwCl [jO h0 0 [.ref e0, .int (nI 1), .int (nI (g + 1)), x3, x4, x5, x6, x7], jO e0 1 [.int (bI (nx q).2.2), .ref a0, .int (bI (nx q).2.1), w3, w4], jA a0 B.1 256 (bP (nx q).1)] H := hP
      have hD : va_D A [jO h0 0 [.ref e0, .int (nI 1), .int (nI (g + 1)), x3, x4, x5, x6, x7], jO e0 1 [.int (bI (nx q).2.2), .ref a0, .int (bI (nx q).2.1), w3, w4], jA a0 B.1 256 (bP (nx q).1)] := hD
      refine lv_sipush (v := nI 255) hx hb dX0_one_41 (by decide) ?_
      refine lv_iand hx hb dX0_one_44 ?_
      refine jas (y := (b ^^^ nI (nz q)) &&& nI 255) (one_eq b (nz q)) ?_
      exact jiret (()) hx hb hr rfl hlk rfl hP hD hS (Nat.le_of_ble_eq_true rfl) (Nat.le_of_ble_eq_true rfl) dX0_one_45
    · exact absurd (nI_lt hg (by decide)) c_16
  · exact absurd c_4 (by decide)
set_option maxHeartbeats 4000000 in
set_option maxRecDepth 100000 in
/-- again(), not begun -/
theorem metX0_again_no (l : Launch) (D : va_G) (B : ClassId × ClassId) (sz : Nat) (h0 : Nat) (x0 x2 x3 x4 x5 x6 x7 : Value) : jMv l yX0_again (ws_ yX0_again cX0_again 1 none) { frames := 2, cells := 1, slots := 256, locals := 60 } D B sz [.ref h0] [jO h0 0 [x0, .int (nI 0), x2, x3, x4, x5, x6, x7]] (S := Unit) (fun _ => True) (fun u => [jO h0 0 [x0, .int (nI 0), x2, x3, x4, x5, x6, x7]]) := by
  refine jStartV (by decide) (Nat.le_of_ble_eq_true rfl) ?_
  intro p e s m below meth c A H ls hx hb hr hlk hml hown hin hts hK hP hD hA hS hl
  have hown : s.vm.findClass "VmpcDesk" = some m.cls := hown
  have hl : lv_has ls 1 [(0, .ref h0)] := hl
  refine lv_aload_n hx hb dX0_again_0 rfl (lv_at hl 0 rfl) ?_
  refine va_get (D := D) (ci := 0) (v := .int (nI 0)) (C := RX0) (T := TX0) (N := 8) hx hb hts in_X0 hown hK hP 0 rfl rfl 1 (by decide) (hts _ q53) (fun _ h9 => h9) rfl dX0_again_1 ?_
  refine lv_if_eq (tgt := 19) hx hb dX0_again_4 (by decide) (fun c_4 => ?_) (fun c_4 => ?_)
  · exact jvret (()) hx hb hr hlk trivial hP hD hS (Nat.le_of_ble_eq_true rfl) (Nat.le_of_ble_eq_true rfl) dX0_again_19
  · exact absurd nI_0 c_4
set_option maxHeartbeats 4000000 in
set_option maxRecDepth 100000 in
/-- again() -/
theorem metX0_again_ok (l : Launch) (D : va_G) (B : ClassId × ClassId) (sz : Nat) (h0 e0 k0 v0 : Nat) (K L : Nat → Int32) (w0 w1 w2 : Value) (x2 x3 x4 x5 x6 x7 : Value) : jMv l yX0_again (ws_ yX0_again cX0_again 1 none) { frames := 2, cells := 1, slots := 256, locals := 60 } D B sz [.ref h0] [jO h0 0 [.ref e0, .int (nI 1), x2, x3, x4, x5, x6, x7], jO e0 1 [w0, w1, w2, .ref v0, .ref k0], jA k0 B.1 16 K, jA v0 B.1 16 L] (S := Nat) (fun _ => True) (fun u => [jO h0 0 [.ref e0, .int (nI 1), .int (nI 0), x3, x4, x5, x6, x7], jO e0 1 [.int (bI 0), .ref u, .int (bI (setK (fun j => lo8 (K j)) (fun j => lo8 (L j))).2), .ref v0, .ref k0], jA k0 B.1 16 K, jA v0 B.1 16 L, jA u B.1 256 (bP (setK (fun j => lo8 (K j)) (fun j => lo8 (L j))).1)]) := by
  refine jStartV (by decide) (Nat.le_of_ble_eq_true rfl) ?_
  intro p e s m below meth c A H ls hx hb hr hlk hml hown hin hts hK hP hD hA hS hl
  have hown : s.vm.findClass "VmpcDesk" = some m.cls := hown
  have hl : lv_has ls 1 [(0, .ref h0)] := hl
  refine lv_aload_n hx hb dX0_again_0 rfl (lv_at hl 0 rfl) ?_
  refine va_get (D := D) (ci := 0) (v := .int (nI 1)) (C := RX0) (T := TX0) (N := 8) hx hb hts in_X0 hown hK hP 0 rfl rfl 1 (by decide) (hts _ q53) (fun _ h9 => h9) rfl dX0_again_1 ?_
  refine lv_if_eq (tgt := 19) hx hb dX0_again_4 (by decide) (fun c_4 => ?_) (fun c_4 => ?_)
  · exact absurd c_4 (by decide)
  · refine lv_aload_n hx hb dX0_again_7 rfl (lv_at hl 0 rfl) ?_
    refine va_get (D := D) (ci := 0) (v := .ref e0) (C := RX0) (T := TX0) (N := 8) hx hb hts in_X0 hown hK hP 0 rfl rfl 0 (by decide) (hts _ q52) (fun _ h9 => h9) rfl dX0_again_8 ?_
    refine jcallv (ws := [jO h0 0 [.ref e0, .int (nI 1), x2, x3, x4, x5, x6, x7], jO e0 1 [w0, w1, w2, .ref v0, .ref k0], jA k0 B.1 16 K, jA v0 B.1 16 L]) (wc := [jO e0 1 [w0, w1, w2, .ref v0, .ref k0], jA k0 B.1 16 K, jA v0 B.1 16 L]) [1, 2, 3] rfl (by decide) (fun _ => rfl) hP hD hS hA (va_runV (C := RX1) (b := e0) (As := []) (rest := []) ⟨hx, hb, hml, hown, hts⟩ (metX1_reset l D B H.size e0 k0 v0 K L w0 w1 w2) (cwV 0 hts (lw_V q294 q295 q296 q10 q297) rfl rfl rfl (by decide +kernel) ⟨Nat.le_of_ble_eq_true rfl, Nat.le_of_ble_eq_true rfl⟩) (jPreV (ci := 1) (q0 := 0) hK (hP.sub (ws' := [jO e0 1 [w0, w1, w2, .ref v0, .ref k0], jA k0 B.1 16 K, jA v0 B.1 16 L]) [1, 2, 3] rfl) (hD.sub (ws' := [jO e0 1 [w0, w1, w2, .ref v0, .ref k0], jA k0 B.1 16 K, jA v0 B.1 16 L]) [1, 2, 3] (by decide) rfl) rfl rfl) rfl rfl hl.1 rfl (lv_room (Nat.le_of_ble_eq_true rfl)) dX0_again_11 ⟨Nat.le_of_ble_eq_true rfl, Nat.le_of_ble_eq_true rfl⟩) (fun u H locs hu hP hD hS => ?_)
    have hP : va_P D vwCl [jO h0 0 [.ref e0, .int (nI 1), x2, x3, x4, x5, x6, x7], jO e0 1 [.int (bI 0), .ref u, .int (bI (setK (fun j => lo8 (K j)) (fun j => lo8 (L j))).2), .ref v0, .ref k0], jA k0 B.1 16 K, jA v0 B.1 16 L, jA u B.1 256 (bP (setK (fun j => lo8 (K j)) (fun j => lo8 (L j))).1)] H := hP
    have hD : va_D A [jO h0 0 [.ref e0, .int (nI 1), x2, x3, x4, x5, x6, x7], jO e0 1 [.int (bI 0), .ref u, .int (bI (setK (fun j => lo8 (K j)) (fun j => lo8 (L j))).2), .ref v0, .ref k0], jA k0 B.1 16 K, jA v0 B.1 16 L, jA u B.1 256 (bP (setK (fun j => lo8 (K j)) (fun j => lo8 (L j))).1)] := hD
    refine lv_aload_n hx hb dX0_again_14 rfl (lv_at hl 0 rfl) ?_
    refine lv_iconst (v := nI 0) hx hb dX0_again_15 (by decide) ?_
    refine va_put (D := D) (ci := 0) (v := .int (nI 0)) (ty := .int) (C := RX0) (T := TX0) (N := 8) hx hb hts in_X0 tyX0 tyX0_ok nmX0 hown hK hP hD hS 0 rfl rfl 2 (by decide) (hts _ q54) (fun _ h9 => h9) rfl (by decide +kernel) rfl rfl (Nat.le_of_ble_eq_true rfl) dX0_again_16 (fun H locs hP hD hS => ?_)
    have hP : va_P D vwCl [jO h0 0 [.ref e0, .int (nI 1), .int (nI 0), x3, x4, x5, x6, x7], jO e0 1 [.int (bI 0), .ref u, .int (bI (setK (fun j => lo8 (K j)) (fun j => lo8 (L j))).2), .ref v0, .ref k0], jA k0 B.1 16 K, jA v0 B.1 16 L, jA u B.1 256 (bP (setK (fun j => lo8 (K j)) (fun j => lo8 (L j))).1)] H := hP
    have hD : va_D A [jO h0 0 [.ref e0, .int (nI 1), .int (nI 0), x3, x4, x5, x6, x7], jO e0 1 [.int (bI 0), .ref u, .int (bI (setK (fun j => lo8 (K j)) (fun j => lo8 (L j))).2), .ref v0, .ref k0], jA k0 B.1 16 K, jA v0 B.1 16 L, jA u B.1 256 (bP (setK (fun j => lo8 (K j)) (fun j => lo8 (L j))).1)] := hD
    exact jvret u hx hb hr hlk trivial hP hD hS (Nat.le_of_ble_eq_true rfl) (Nat.le_of_ble_eq_true rfl) dX0_again_19
set_option maxHeartbeats 4000000 in
set_option maxRecDepth 100000 in
/-- run(x, y), not begun -/
theorem metX0_run_no (l : Launch) (D : va_G) (B : ClassId × ClassId) (sz : Nat) (h0 : Nat) (x y : Int32) (x0 x2 x3 x4 x5 x6 x7 : Value) : jMi l yX0_run (ws_ yX0_run cX0_run 6 (some .int)) { frames := 1, cells := 1, slots := 256, locals := 60 } D B sz [.ref h0, .int x, .int y] [jO h0 0 [x0, .int (nI 0), x2, x3, x4, x5, x6, x7]] (S := Unit) (fun r _ => r = (-1)) (fun u => [jO h0 0 [x0, .int (nI 0), x2, x3, x4, x5, x6, x7]]) := by
  refine jStartI (by decide) (Nat.le_of_ble_eq_true rfl) ?_
  intro p e s m below meth c A H ls hx hb hr hlk hml hown hin hts hK hP hD hA hS hl
  have hown : s.vm.findClass "VmpcDesk" = some m.cls := hown
  have hl : lv_has ls 6 [(0, .ref h0), (1, .int x), (2, .int y)] := hl
  refine lv_aload_n hx hb dX0_run_0 rfl (lv_at hl 0 rfl) ?_
  refine va_get (D := D) (ci := 0) (v := .int (nI 0)) (C := RX0) (T := TX0) (N := 8) hx hb hts in_X0 hown hK hP 0 rfl rfl 1 (by decide) (hts _ q53) (fun _ h9 => h9) rfl dX0_run_1 ?_
  refine lv_if_ne (tgt := 9) hx hb dX0_run_4 (by decide) (fun c_4 => ?_) (fun c_4 => ?_)
  · exact absurd nI_0 c_4
  · refine lv_iconst (v := (-1)) hx hb dX0_run_7 (by decide) ?_
    exact jiret (()) hx hb hr rfl hlk rfl hP hD hS (Nat.le_of_ble_eq_true rfl) (Nat.le_of_ble_eq_true rfl) dX0_run_8
set_option maxHeartbeats 4000000 in
set_option maxRecDepth 100000 in
/-- run(x, y), more than is left -/
theorem metX0_run_full (l : Launch) (D : va_G) (B : ClassId × ClassId) (sz : Nat) (h0 z g : Nat) (hz : z ≤ 256) (hg2 : g ≤ 1024) (x y : Int32) (hg : 1024 < g + cnt y z (frm x z)) (x0 x3 x4 x5 x7 : Value) : jMi l yX0_run (ws_ yX0_run cX0_run 6 (some .int)) { frames := 1, cells := 1, slots := 256, locals := 60 } D B sz [.ref h0, .int x, .int y] [jO h0 0 [x0, .int (nI 1), .int (nI g), x3, x4, x5, .int (nI z), x7]] (S := Unit) (fun r _ => r = (-2)) (fun u => [jO h0 0 [x0, .int (nI 1), .int (nI g), x3, x4, x5, .int (nI z), x7]]) := by
  refine jStartI (by decide) (Nat.le_of_ble_eq_true rfl) ?_
  intro p e s m below meth c A H ls hx hb hr hlk hml hown hin hts hK hP hD hA hS hl
  have hown : s.vm.findClass "VmpcDesk" = some m.cls := hown
  have hl : lv_has ls 6 [(0, .ref h0), (1, .int x), (2, .int y)] := hl
  have hcl := cnt_le (y := y) (frm_le x z)
  refine lv_aload_n hx hb dX0_run_0 rfl (lv_at hl 0 rfl) ?_
  refine va_get (D := D) (ci := 0) (v := .int (nI 1)) (C := RX0) (T := TX0) (N := 8) hx hb hts in_X0 hown hK hP 0 rfl rfl 1 (by decide) (hts _ q53) (fun _ h9 => h9) rfl dX0_run_1 ?_
  refine lv_if_ne (tgt := 9) hx hb dX0_run_4 (by decide) (fun c_4 => ?_) (fun c_4 => ?_)
  · refine lv_aload_n hx hb dX0_run_9 rfl (lv_at hl 0 rfl) ?_
    refine lv_iload_n hx hb dX0_run_10 rfl (lv_at hl 1 rfl) ?_
    refine jcalli (ws := [jO h0 0 [x0, .int (nI 1), .int (nI g), x3, x4, x5, .int (nI z), x7]]) (wc := [jO h0 0 [x0, .int (nI 1), .int (nI g), x3, x4, x5, .int (nI z), x7]]) [0] rfl (by decide) (fun _ => rfl) hP hD hS hA (va_runV (C := RX0) (b := h0) (As := [.int x]) (rest := []) ⟨hx, hb, hml, hown, hts⟩ (metX0_from l D B H.size h0 z hz x x0 (.int (nI 1)) (.int (nI g)) x3 x4 x5 x7) (cwV 1 hts (lw_V q89 q91 qs0 q9 q92) rfl rfl rfl (by decide +kernel) ⟨Nat.le_of_ble_eq_true rfl, Nat.le_of_ble_eq_true rfl⟩) (jPreV (ci := 0) (q0 := 0) hK (hP.sub (ws' := [jO h0 0 [x0, .int (nI 1), .int (nI g), x3, x4, x5, .int (nI z), x7]]) [0] rfl) (hD.sub (ws' := [jO h0 0 [x0, .int (nI 1), .int (nI g), x3, x4, x5, .int (nI z), x7]]) [0] (by decide) rfl) rfl rfl) rfl rfl hl.1 rfl (lv_room (Nat.le_of_ble_eq_true rfl)) dX0_run_11 ⟨Nat.le_of_ble_eq_true rfl, Nat.le_of_ble_eq_true rfl⟩) (fun r_11 _ H locs hu hP hD hS => ?_)
    subst hu
    have hP : va_P D vwCl [jO h0 0 [x0, .int (nI 1), .int (nI g), x3, x4, x5, .int (nI z), x7]] H := hP
    have hD : va_D A [jO h0 0 [x0, .int (nI 1), .int (nI g), x3, x4, x5, .int (nI z), x7]] := hD
    refine lv_istore_n (lv' := [(3, .int (nI (frm x z))), (0, .ref h0), (1, .int x), (2, .int y)]) hx hb dX0_run_14 rfl hl (by decide) rfl (fun ls hl => ?_)
    refine lv_aload_n hx hb dX0_run_15 rfl (lv_at hl 1 rfl) ?_
    refine lv_iload_n hx hb dX0_run_16 rfl (lv_at hl 0 rfl) ?_
    refine lv_iload_n hx hb dX0_run_17 rfl (lv_at hl 3 rfl) ?_
    refine jcalli (ws := [jO h0 0 [x0, .int (nI 1), .int (nI g), x3, x4, x5, .int (nI z), x7]]) (wc := [jO h0 0 [x0, .int (nI 1), .int (nI g), x3, x4, x5, .int (nI z), x7]]) [0] rfl (by decide) (fun _ => rfl) hP hD hS hA (va_runV (C := RX0) (b := h0) (As := [.int (nI (frm x z)), .int y]) (rest := []) ⟨hx, hb, hml, hown, hts⟩ (metX0_count l D B H.size h0 z (frm x z) hz (frm_le x z) y x0 (.int (nI 1)) (.int (nI g)) x3 x4 x5 x7) (cwV 2 hts (lw_V q237 q239 qs2 q9 q240) rfl rfl rfl (by decide +kernel) ⟨Nat.le_of_ble_eq_true rfl, Nat.le_of_ble_eq_true rfl⟩) (jPreV (ci := 0) (q0 := 0) hK (hP.sub (ws' := [jO h0 0 [x0, .int (nI 1), .int (nI g), x3, x4, x5, .int (nI z), x7]]) [0] rfl) (hD.sub (ws' := [jO h0 0 [x0, .int (nI 1), .int (nI g), x3, x4, x5, .int (nI z), x7]]) [0] (by decide) rfl) rfl rfl) rfl rfl hl.1 rfl (lv_room (Nat.le_of_ble_eq_true rfl)) dX0_run_18 ⟨Nat.le_of_ble_eq_true rfl, Nat.le_of_ble_eq_true rfl⟩) (fun r_18 _ H locs hu hP hD hS => ?_)
    subst hu
    have hP : va_P D vwCl [jO h0 0 [x0, .int (nI 1), .int (nI g), x3, x4, x5, .int (nI z), x7]] H := hP
    have hD : va_D A [jO h0 0 [x0, .int (nI 1), .int (nI g), x3, x4, x5, .int (nI z), x7]] := hD
    refine lv_istore (lv' := [(4, .int (nI (cnt y z (frm x z)))), (3, .int (nI (frm x z))), (0, .ref h0), (1, .int x), (2, .int y)]) hx hb dX0_run_21 hl (by decide) rfl (fun ls hl => ?_)
    refine lv_aload_n hx hb dX0_run_23 rfl (lv_at hl 2 rfl) ?_
    refine va_get (D := D) (ci := 0) (v := .int (nI g)) (C := RX0) (T := TX0) (N := 8) hx hb hts in_X0 hown hK hP 0 rfl rfl 2 (by decide) (hts _ q54) (fun _ h9 => h9) rfl dX0_run_24 ?_
    refine lv_iload hx hb dX0_run_27 (lv_at hl 0 rfl) ?_
    refine lv_iadd hx hb dX0_run_29 ?_
    refine jas (y := nI (g + cnt y z (frm x z))) (nI_add _ _) ?_
    refine lv_sipush (v := nI 1024) hx hb dX0_run_30 (by decide) ?_
    refine lv_icmp_le (tgt := 39) hx hb dX0_run_33 (by decide) (fun c_33 => ?_) (fun c_33 => ?_)
    · exact absurd ((nI_leI (by omega) (by decide)).mp c_33) (by omega)
    · refine lv_bipush (v := (-2)) hx hb dX0_run_36 (by decide) ?_
      exact jiret (()) hx hb hr rfl hlk rfl hP hD hS (Nat.le_of_ble_eq_true rfl) (Nat.le_of_ble_eq_true rfl) dX0_run_38
  · exact absurd c_4 (by decide)
set_option maxHeartbeats 4000000 in
set_option maxRecDepth 100000 in
/-- run(x, y) -/
theorem metX0_run_ok (l : Launch) (D : va_G) (B : ClassId × ClassId) (sz : Nat) (h0 e0 a0 t0 z g : Nat) (hz : z ≤ 256) (x y : Int32) (hg : g + cnt y z (frm x z) ≤ 1024) (q : (Nat → Nat) × Nat × Nat) (hq : okS q) (T : Nat → Int32) (w3 w4 : Value) (x3 x4 x7 : Value) : jMi l yX0_run (ws_ yX0_run cX0_run 6 (some .int)) { frames := 1, cells := 1, slots := 256, locals := 60 } D B sz [.ref h0, .int x, .int y] [jO h0 0 [.ref e0, .int (nI 1), .int (nI g), x3, x4, .ref t0, .int (nI z), x7], jO e0 1 [.int (bI q.2.2), .ref a0, .int (bI q.2.1), w3, w4], jA a0 B.1 256 (bP q.1), jA t0 B.1 256 T] (S := Nat) (fun r _ => r = nI (cnt y z (frm x z))) (fun u => [jO h0 0 [.ref e0, .int (nI 1), .int (nI (g + cnt y z (frm x z))), x3, x4, .ref t0, .int (nI z), .ref u], jO e0 1 [.int (bI (nxN (cnt y z (frm x z)) q).2.2), .ref a0, .int (bI (nxN (cnt y z (frm x z)) q).2.1), w3, w4], jA a0 B.1 256 (bP (nxN (cnt y z (frm x z)) q).1), jA t0 B.1 256 T, jA u B.1 (cnt y z (frm x z)) (runO T (frm x z) q (cnt y z (frm x z)))]) := by
  refine jStartI (by decide) (Nat.le_of_ble_eq_true rfl) ?_
  intro p e s m below meth c A H ls hx hb hr hlk hml hown hin hts hK hP hD hA hS hl
  have hown : s.vm.findClass "VmpcDesk" = some m.cls := hown
  have hl : lv_has ls 6 [(0, .ref h0), (1, .int x), (2, .int y)] := hl
  have hcl := cnt_le (y := y) (frm_le x z)
  refine lv_aload_n hx hb dX0_run_0 rfl (lv_at hl 0 rfl) ?_
  refine va_get (D := D) (ci := 0) (v := .int (nI 1)) (C := RX0) (T := TX0) (N := 8) hx hb hts in_X0 hown hK hP 0 rfl rfl 1 (by decide) (hts _ q53) (fun _ h9 => h9) rfl dX0_run_1 ?_
  refine lv_if_ne (tgt := 9) hx hb dX0_run_4 (by decide) (fun c_4 => ?_) (fun c_4 => ?_)
  · refine lv_aload_n hx hb dX0_run_9 rfl (lv_at hl 0 rfl) ?_
    refine lv_iload_n hx hb dX0_run_10 rfl (lv_at hl 1 rfl) ?_
    refine jcalli (ws := [jO h0 0 [.ref e0, .int (nI 1), .int (nI g), x3, x4, .ref t0, .int (nI z), x7], jO e0 1 [.int (bI q.2.2), .ref a0, .int (bI q.2.1), w3, w4], jA a0 B.1 256 (bP q.1), jA t0 B.1 256 T]) (wc := [jO h0 0 [.ref e0, .int (nI 1), .int (nI g), x3, x4, .ref t0, .int (nI z), x7]]) [0] rfl (by decide) (fun _ => rfl) hP hD hS hA (va_runV (C := RX0) (b := h0) (As := [.int x]) (rest := []) ⟨hx, hb, hml, hown, hts⟩ (metX0_from l D B H.size h0 z hz x (.ref e0) (.int (nI 1)) (.int (nI g)) x3 x4 (.ref t0) x7) (cwV 1 hts (lw_V q89 q91 qs0 q9 q92) rfl rfl rfl (by decide +kernel) ⟨Nat.le_of_ble_eq_true rfl, Nat.le_of_ble_eq_true rfl⟩) (jPreV (ci := 0) (q0 := 0) hK (hP.sub (ws' := [jO h0 0 [.ref e0, .int (nI 1), .int (nI g), x3, x4, .ref t0, .int (nI z), x7]]) [0] rfl) (hD.sub (ws' := [jO h0 0 [.ref e0, .int (nI 1), .int (nI g), x3, x4, .ref t0, .int (nI z), x7]]) [0] (by decide) rfl) rfl rfl) rfl rfl hl.1 rfl (lv_room (Nat.le_of_ble_eq_true rfl)) dX0_run_11 ⟨Nat.le_of_ble_eq_true rfl, Nat.le_of_ble_eq_true rfl⟩) (fun r_11 _ H locs hu hP hD hS => ?_)
    subst hu
    have hP : va_P D vwCl [jO h0 0 [.ref e0, .int (nI 1), .int (nI g), x3, x4, .ref t0, .int (nI z), x7], jO e0 1 [.int (bI q.2.2), .ref a0, .int (bI q.2.1), w3, w4], jA a0 B.1 256 (bP q.1), jA t0 B.1 256 T] H := hP
    have hD : va_D A [jO h0 0 [.ref e0, .int (nI 1), .int (nI g), x3, x4, .ref t0, .int (nI z), x7], jO e0 1 [.int (bI q.2.2), .ref a0, .int (bI q.2.1), w3, w4], jA a0 B.1 256 (bP q.1), jA t0 B.1 256 T] := hD
    refine lv_istore_n (lv' := [(3, .int (nI (frm x z))), (0, .ref h0), (1, .int x), (2, .int y)]) hx hb dX0_run_14 rfl hl (by decide) rfl (fun ls hl => ?_)
    refine lv_aload_n hx hb dX0_run_15 rfl (lv_at hl 1 rfl) ?_
    refine lv_iload_n hx hb dX0_run_16 rfl (lv_at hl 0 rfl) ?_
    refine lv_iload_n hx hb dX0_run_17 rfl (lv_at hl 3 rfl) ?_
    refine jcalli (ws := [jO h0 0 [.ref e0, .int (nI 1), .int (nI g), x3, x4, .ref t0, .int (nI z), x7], jO e0 1 [.int (bI q.2.2), .ref a0, .int (bI q.2.1), w3, w4], jA a0 B.1 256 (bP q.1), jA t0 B.1 256 T]) (wc := [jO h0 0 [.ref e0, .int (nI 1), .int (nI g), x3, x4, .ref t0, .int (nI z), x7]]) [0] rfl (by decide) (fun _ => rfl) hP hD hS hA (va_runV (C := RX0) (b := h0) (As := [.int (nI (frm x z)), .int y]) (rest := []) ⟨hx, hb, hml, hown, hts⟩ (metX0_count l D B H.size h0 z (frm x z) hz (frm_le x z) y (.ref e0) (.int (nI 1)) (.int (nI g)) x3 x4 (.ref t0) x7) (cwV 2 hts (lw_V q237 q239 qs2 q9 q240) rfl rfl rfl (by decide +kernel) ⟨Nat.le_of_ble_eq_true rfl, Nat.le_of_ble_eq_true rfl⟩) (jPreV (ci := 0) (q0 := 0) hK (hP.sub (ws' := [jO h0 0 [.ref e0, .int (nI 1), .int (nI g), x3, x4, .ref t0, .int (nI z), x7]]) [0] rfl) (hD.sub (ws' := [jO h0 0 [.ref e0, .int (nI 1), .int (nI g), x3, x4, .ref t0, .int (nI z), x7]]) [0] (by decide) rfl) rfl rfl) rfl rfl hl.1 rfl (lv_room (Nat.le_of_ble_eq_true rfl)) dX0_run_18 ⟨Nat.le_of_ble_eq_true rfl, Nat.le_of_ble_eq_true rfl⟩) (fun r_18 _ H locs hu hP hD hS => ?_)
    subst hu
    have hP : va_P D vwCl [jO h0 0 [.ref e0, .int (nI 1), .int (nI g), x3, x4, .ref t0, .int (nI z), x7], jO e0 1 [.int (bI q.2.2), .ref a0, .int (bI q.2.1), w3, w4], jA a0 B.1 256 (bP q.1), jA t0 B.1 256 T] H := hP
    have hD : va_D A [jO h0 0 [.ref e0, .int (nI 1), .int (nI g), x3, x4, .ref t0, .int (nI z), x7], jO e0 1 [.int (bI q.2.2), .ref a0, .int (bI q.2.1), w3, w4], jA a0 B.1 256 (bP q.1), jA t0 B.1 256 T] := hD
    refine lv_istore (lv' := [(4, .int (nI (cnt y z (frm x z)))), (3, .int (nI (frm x z))), (0, .ref h0), (1, .int x), (2, .int y)]) hx hb dX0_run_21 hl (by decide) rfl (fun ls hl => ?_)
    refine lv_aload_n hx hb dX0_run_23 rfl (lv_at hl 2 rfl) ?_
    refine va_get (D := D) (ci := 0) (v := .int (nI g)) (C := RX0) (T := TX0) (N := 8) hx hb hts in_X0 hown hK hP 0 rfl rfl 2 (by decide) (hts _ q54) (fun _ h9 => h9) rfl dX0_run_24 ?_
    refine lv_iload hx hb dX0_run_27 (lv_at hl 0 rfl) ?_
    refine lv_iadd hx hb dX0_run_29 ?_
    refine jas (y := nI (g + cnt y z (frm x z))) (nI_add _ _) ?_
    refine lv_sipush (v := nI 1024) hx hb dX0_run_30 (by decide) ?_
    refine lv_icmp_le (tgt := 39) hx hb dX0_run_33 (by decide) (fun c_33 => ?_) (fun c_33 => ?_)
    · refine lv_aload_n hx hb dX0_run_39 rfl (lv_at hl 2 rfl) ?_
      refine lv_dup hx hb dX0_run_40 rfl ?_
      refine va_get (D := D) (ci := 0) (v := .int (nI g)) (C := RX0) (T := TX0) (N := 8) hx hb hts in_X0 hown hK hP 0 rfl rfl 2 (by decide) (hts _ q54) (fun _ h9 => h9) rfl dX0_run_41 ?_
      refine lv_iload hx hb dX0_run_44 (lv_at hl 0 rfl) ?_
      refine lv_iadd hx hb dX0_run_46 ?_
      refine jas (y := nI (g + cnt y z (frm x z))) (nI_add _ _) ?_
      refine va_put (D := D) (ci := 0) (v := .int (nI (g + cnt y z (frm x z)))) (ty := .int) (C := RX0) (T := TX0) (N := 8) hx hb hts in_X0 tyX0 tyX0_ok nmX0 hown hK hP hD hS 0 rfl rfl 2 (by decide) (hts _ q54) (fun _ h9 => h9) rfl (by decide +kernel) rfl rfl (Nat.le_of_ble_eq_true rfl) dX0_run_47 (fun H locs hP hD hS => ?_)
      have hP : va_P D vwCl [jO h0 0 [.ref e0, .int (nI 1), .int (nI (g + cnt y z (frm x z))), x3, x4, .ref t0, .int (nI z), x7], jO e0 1 [.int (bI q.2.2), .ref a0, .int (bI q.2.1), w3, w4], jA a0 B.1 256 (bP q.1), jA t0 B.1 256 T] H := hP
      have hD : va_D A [jO h0 0 [.ref e0, .int (nI 1), .int (nI (g + cnt y z (frm x z))), x3, x4, .ref t0, .int (nI z), x7], jO e0 1 [.int (bI q.2.2), .ref a0, .int (bI q.2.1), w3, w4], jA a0 B.1 256 (bP q.1), jA t0 B.1 256 T] := hD
      refine lv_iload hx hb dX0_run_50 (lv_at hl 0 rfl) ?_
      refine jnewb hx hb (hts _ q77) hK hP hD hS hA (cnt y z (frm x z)) (by omega) (Nat.le_of_ble_eq_true rfl) (by show 0 + 0 + 0 + cnt y z (frm x z) ≤ 256; omega) dX0_run_52 (fun a_52 H hP hD hS => ?_)
      have hP : va_P D vwCl [jO h0 0 [.ref e0, .int (nI 1), .int (nI (g + cnt y z (frm x z))), x3, x4, .ref t0, .int (nI z), x7], jO e0 1 [.int (bI q.2.2), .ref a0, .int (bI q.2.1), w3, w4], jA a0 B.1 256 (bP q.1), jA t0 B.1 256 T, jA a_52 B.1 ((cnt y z (frm x z))) (fun _ => 0)] H := hP
      have hD : va_D A [jO h0 0 [.ref e0, .int (nI 1), .int (nI (g + cnt y z (frm x z))), x3, x4, .ref t0, .int (nI z), x7], jO e0 1 [.int (bI q.2.2), .ref a0, .int (bI q.2.1), w3, w4], jA a0 B.1 256 (bP q.1), jA t0 B.1 256 T, jA a_52 B.1 ((cnt y z (frm x z))) (fun _ => 0)] := hD
      refine lv_astore (lv' := [(5, .ref a_52), (4, .int (nI (cnt y z (frm x z)))), (3, .int (nI (frm x z))), (0, .ref h0), (1, .int x), (2, .int y)]) hx hb dX0_run_54 hl (by decide) rfl (fun ls hl => ?_)
      refine lv_aload_n hx hb dX0_run_56 rfl (lv_at hl 3 rfl) ?_
      refine va_get (D := D) (ci := 0) (v := .ref e0) (C := RX0) (T := TX0) (N := 8) hx hb hts in_X0 hown hK hP 0 rfl rfl 0 (by decide) (hts _ q52) (fun _ h9 => h9) rfl dX0_run_57 ?_
      refine lv_aload_n hx hb dX0_run_60 rfl (lv_at hl 3 rfl) ?_
      refine va_get (D := D) (ci := 0) (v := .ref t0) (C := RX0) (T := TX0) (N := 8) hx hb hts in_X0 hown hK hP 0 rfl rfl 5 (by decide) (hts _ q57) (fun _ h9 => h9) rfl dX0_run_61 ?_
      refine lv_iload_n hx hb dX0_run_64 rfl (lv_at hl 2 rfl) ?_
      refine lv_iload hx hb dX0_run_65 (lv_at hl 1 rfl) ?_
      refine lv_aload hx hb dX0_run_67 (lv_at hl 0 rfl) ?_
      refine lv_iconst (v := nI 0) hx hb dX0_run_69 (by decide) ?_
      refine jcalli (ws := [jO h0 0 [.ref e0, .int (nI 1), .int (nI (g + cnt y z (frm x z))), x3, x4, .ref t0, .int (nI z), x7], jO e0 1 [.int (bI q.2.2), .ref a0, .int (bI q.2.1), w3, w4], jA a0 B.1 256 (bP q.1), jA t0 B.1 256 T, jA a_52 B.1 ((cnt y z (frm x z))) (fun _ => 0)]) (wc := [jO e0 1 [.int (bI q.2.2), .ref a0, .int (bI q.2.1), w3, w4], jA a0 B.1 256 (bP q.1), jA t0 B.1 256 T, jA a_52 B.1 ((cnt y z (frm x z))) (fun _ => 0)]) [1, 2, 3, 4] rfl (by decide) (fun _ => rfl) hP hD hS hA (va_runV (C := RX1) (b := e0) (As := [.ref t0, .int (nI (frm x z)), .int (nI (cnt y z (frm x z))), .ref a_52, .int (nI 0)]) (rest := []) ⟨hx, hb, hml, hown, hts⟩ (metX1_processBytes l D B H.size e0 a0 t0 a_52 (frm x z) (cnt y z (frm x z)) (by omega) q hq T w3 w4) (cwV 5 hts (lw_V q241 q242 q243 q10 q244) rfl rfl rfl (by decide +kernel) ⟨Nat.le_of_ble_eq_true rfl, Nat.le_of_ble_eq_true rfl⟩) (jPreV (ci := 1) (q0 := 0) hK (hP.sub (ws' := [jO e0 1 [.int (bI q.2.2), .ref a0, .int (bI q.2.1), w3, w4], jA a0 B.1 256 (bP q.1), jA t0 B.1 256 T, jA a_52 B.1 ((cnt y z (frm x z))) (fun _ => 0)]) [1, 2, 3, 4] rfl) (hD.sub (ws' := [jO e0 1 [.int (bI q.2.2), .ref a0, .int (bI q.2.1), w3, w4], jA a0 B.1 256 (bP q.1), jA t0 B.1 256 T, jA a_52 B.1 ((cnt y z (frm x z))) (fun _ => 0)]) [1, 2, 3, 4] (by decide) rfl) rfl rfl) rfl rfl hl.1 rfl (lv_room (Nat.le_of_ble_eq_true rfl)) dX0_run_70 ⟨Nat.le_of_ble_eq_true rfl, (by show 0 + 0 + 0 + cnt y z (frm x z) + 0 ≤ 256; omega)⟩) (fun r_70 _ H locs hu hP hD hS => ?_)
      subst hu
      have hP : va_P D vwCl [jO h0 0 [.ref e0, .int (nI 1), .int (nI (g + cnt y z (frm x z))), x3, x4, .ref t0, .int (nI z), x7], jO e0 1 [.int (bI (nxN (cnt y z (frm x z)) q).2.2), .ref a0, .int (bI (nxN (cnt y z (frm x z)) q).2.1), w3, w4], jA a0 B.1 256 (bP (nxN (cnt y z (frm x z)) q).1), jA t0 B.1 256 T, jA a_52 B.1 (cnt y z (frm x z)) (runO T (frm x z) q (cnt y z (frm x z)))] H := hP
      have hD : va_D A [jO h0 0 [.ref e0, .int (nI 1), .int (nI (g + cnt y z (frm x z))), x3, x4, .ref t0, .int (nI z), x7], jO e0 1 [.int (bI (nxN (cnt y z (frm x z)) q).2.2), .ref a0, .int (bI (nxN (cnt y z (frm x z)) q).2.1), w3, w4], jA a0 B.1 256 (bP (nxN (cnt y z (frm x z)) q).1), jA t0 B.1 256 T, jA a_52 B.1 (cnt y z (frm x z)) (runO T (frm x z) q (cnt y z (frm x z)))] := hD
      refine lv_pop hx hb dX0_run_73 rfl ?_
      refine lv_aload_n hx hb dX0_run_74 rfl (lv_at hl 3 rfl) ?_
      refine lv_aload hx hb dX0_run_75 (lv_at hl 0 rfl) ?_
      refine va_put (D := D) (ci := 0) (v := .ref a_52) (ty := .array .byte) (C := RX0) (T := TX0) (N := 8) hx hb hts in_X0 tyX0 tyX0_ok nmX0 hown hK hP hD hS 0 rfl rfl 7 (by decide) (hts _ q59) (fun _ h9 => h9) rfl (by decide +kernel) rfl rfl (Nat.le_of_ble_eq_true rfl) dX0_run_77 (fun H locs hP hD hS => ?_)
      have hP : va_P D vwCl [jO h0 0 [.ref e0, .int (nI 1), .int (nI (g + cnt y z (frm x z))), x3, x4, .ref t0, .int (nI z), .ref a_52], jO e0 1 [.int (bI (nxN (cnt y z (frm x z)) q).2.2), .ref a0, .int (bI (nxN (cnt y z (frm x z)) q).2.1), w3, w4], jA a0 B.1 256 (bP (nxN (cnt y z (frm x z)) q).1), jA t0 B.1 256 T, jA a_52 B.1 (cnt y z (frm x z)) (runO T (frm x z) q (cnt y z (frm x z)))] H := hP
      have hD : va_D A [jO h0 0 [.ref e0, .int (nI 1), .int (nI (g + cnt y z (frm x z))), x3, x4, .ref t0, .int (nI z), .ref a_52], jO e0 1 [.int (bI (nxN (cnt y z (frm x z)) q).2.2), .ref a0, .int (bI (nxN (cnt y z (frm x z)) q).2.1), w3, w4], jA a0 B.1 256 (bP (nxN (cnt y z (frm x z)) q).1), jA t0 B.1 256 T, jA a_52 B.1 (cnt y z (frm x z)) (runO T (frm x z) q (cnt y z (frm x z)))] := hD
      refine lv_iload hx hb dX0_run_80 (lv_at hl 1 rfl) ?_
      exact jiret a_52 hx hb hr rfl hlk rfl hP hD hS (Nat.le_of_ble_eq_true rfl) (by show 0 + 0 + 0 + cnt y z (frm x z) + 0 ≤ 256; omega) dX0_run_82
    · exact absurd (nI_le hg (by decide)) c_33
  · exact absurd c_4 (by decide)
end
section
set_option maxHeartbeats 4000000 in
set_option maxRecDepth 100000 in
/-- VmpcDeskModel() -/
theorem metX2_init (l : Launch) (D : va_G) (B : ClassId × ClassId) (sz : Nat) (h0 : Nat) : jMv l yX2_init (ws_ yX2_init cX2_init 1 none) { frames := 1, cells := 7, slots := 608, locals := 20 } D B sz [.ref h0] [jO h0 2 [.null, .null, .null, .int 0, .null, .int 0, .int 0, .null, .null, .null, .int 0, .int 0]] (S := Nat × Nat × Nat × Nat × Nat × Nat × Nat) (fun _ => True) (fun u => [jO h0 2 [.ref u.1, .ref u.2.1, .ref u.2.2.1, .int 0, .ref u.2.2.2.1, .int 0, .int 0, .ref u.2.2.2.2.1, .ref u.2.2.2.2.2.1, .ref u.2.2.2.2.2.2, .int 0, .int 0], jA u.1 B.1 32 (fun _ => 0), jA u.2.1 B.1 32 (fun _ => 0), jA u.2.2.1 B.1 256 (fun _ => 0), jA u.2.2.2.1 B.1 0 (fun _ => 0), jA u.2.2.2.2.1 B.1 16 (fun _ => 0), jA u.2.2.2.2.2.1 B.1 16 (fun _ => 0), jA u.2.2.2.2.2.2 B.2 256 (fun _ => 0)]) := by
  refine jStartV (by decide) (Nat.le_of_ble_eq_true rfl) ?_
  intro p e s m below meth c A H ls hx hb hr hlk hml hown hin hts hK hP hD hA hS hl
  have hown : s.vm.findClass "VmpcDeskModel" = some m.cls := hown
  have hin : meth.name = "<init>" := hin
  have hl : lv_has ls 1 [(0, .ref h0)] := hl
  refine lv_aload_n hx hb dX2_init_0 rfl (lv_at hl 0 rfl) ?_
  refine W.objInit hx hb hown (hts _ q307) (hts _ q28) (hts _ q29) rfl (by rw [hml]; exact hl.1) rfl dX2_init_1 (Nat.le_of_ble_eq_true rfl) (Nat.le_of_ble_eq_true rfl) ?_
  refine W.eq (g2 := F0 m 4 ls []) rfl ?_
  refine lv_aload_n hx hb dX2_init_4 rfl (lv_at hl 0 rfl) ?_
  refine lv_bipush (v := nI 32) hx hb dX2_init_5 (by decide) ?_
  refine jnewb hx hb (hts _ q77) hK hP hD hS hA 32 (by decide) (Nat.le_of_ble_eq_true rfl) (Nat.le_of_ble_eq_true rfl) dX2_init_7 (fun a_7 H hP hD hS => ?_)
  have hP : va_P D vwCl [jO h0 2 [.null, .null, .null, .int 0, .null, .int 0, .int 0, .null, .null, .null, .int 0, .int 0], jA a_7 B.1 32 (fun _ => 0)] H := hP
  have hD : va_D A [jO h0 2 [.null, .null, .null, .int 0, .null, .int 0, .int 0, .null, .null, .null, .int 0, .int 0], jA a_7 B.1 32 (fun _ => 0)] := hD
  refine va_putF (D := D) (ci := 2) (v := .ref a_7) (ty := .array .byte) (C := RX2) (T := TX2) (N := 12) hx hb hts in_X2 tyX2 tyX2_ok nmX2 hown hK hP hD hS 0 rfl rfl 0 (by decide) (hts _ q308) (fun _ h9 => h9) rfl hin rfl (by decide +kernel) rfl rfl (Nat.le_of_ble_eq_true rfl) dX2_init_9 (fun H locs hP hD hS => ?_)
  have hP : va_P D vwCl [jO h0 2 [.ref a_7, .null, .null, .int 0, .null, .int 0, .int 0, .null, .null, .null, .int 0, .int 0], jA a_7 B.1 32 (fun _ => 0)] H := hP
  have hD : va_D A [jO h0 2 [.ref a_7, .null, .null, .int 0, .null, .int 0, .int 0, .null, .null, .null, .int 0, .int 0], jA a_7 B.1 32 (fun _ => 0)] := hD
  refine lv_aload_n hx hb dX2_init_12 rfl (lv_at hl 0 rfl) ?_
  refine lv_bipush (v := nI 32) hx hb dX2_init_13 (by decide) ?_
  refine jnewb hx hb (hts _ q77) hK hP hD hS hA 32 (by decide) (Nat.le_of_ble_eq_true rfl) (Nat.le_of_ble_eq_true rfl) dX2_init_15 (fun a_15 H hP hD hS => ?_)
  have hP : va_P D vwCl [jO h0 2 [.ref a_7, .null, .null, .int 0, .null, .int 0, .int 0, .null, .null, .null, .int 0, .int 0], jA a_7 B.1 32 (fun _ => 0), jA a_15 B.1 32 (fun _ => 0)] H := hP
  have hD : va_D A [jO h0 2 [.ref a_7, .null, .null, .int 0, .null, .int 0, .int 0, .null, .null, .null, .int 0, .int 0], jA a_7 B.1 32 (fun _ => 0), jA a_15 B.1 32 (fun _ => 0)] := hD
  refine va_putF (D := D) (ci := 2) (v := .ref a_15) (ty := .array .byte) (C := RX2) (T := TX2) (N := 12) hx hb hts in_X2 tyX2 tyX2_ok nmX2 hown hK hP hD hS 0 rfl rfl 1 (by decide) (hts _ q309) (fun _ h9 => h9) rfl hin rfl (by decide +kernel) rfl rfl (Nat.le_of_ble_eq_true rfl) dX2_init_17 (fun H locs hP hD hS => ?_)
  have hP : va_P D vwCl [jO h0 2 [.ref a_7, .ref a_15, .null, .int 0, .null, .int 0, .int 0, .null, .null, .null, .int 0, .int 0], jA a_7 B.1 32 (fun _ => 0), jA a_15 B.1 32 (fun _ => 0)] H := hP
  have hD : va_D A [jO h0 2 [.ref a_7, .ref a_15, .null, .int 0, .null, .int 0, .int 0, .null, .null, .null, .int 0, .int 0], jA a_7 B.1 32 (fun _ => 0), jA a_15 B.1 32 (fun _ => 0)] := hD
  refine lv_aload_n hx hb dX2_init_20 rfl (lv_at hl 0 rfl) ?_
  refine lv_sipush (v := nI 256) hx hb dX2_init_21 (by decide) ?_
  refine jnewb hx hb (hts _ q77) hK hP hD hS hA 256 (by decide) (Nat.le_of_ble_eq_true rfl) (Nat.le_of_ble_eq_true rfl) dX2_init_24 (fun a_24 H hP hD hS => ?_)
  have hP : va_P D vwCl [jO h0 2 [.ref a_7, .ref a_15, .null, .int 0, .null, .int 0, .int 0, .null, .null, .null, .int 0, .int 0], jA a_7 B.1 32 (fun _ => 0), jA a_15 B.1 32 (fun _ => 0), jA a_24 B.1 256 (fun _ => 0)] H := hP
  have hD : va_D A [jO h0 2 [.ref a_7, .ref a_15, .null, .int 0, .null, .int 0, .int 0, .null, .null, .null, .int 0, .int 0], jA a_7 B.1 32 (fun _ => 0), jA a_15 B.1 32 (fun _ => 0), jA a_24 B.1 256 (fun _ => 0)] := hD
  refine va_putF (D := D) (ci := 2) (v := .ref a_24) (ty := .array .byte) (C := RX2) (T := TX2) (N := 12) hx hb hts in_X2 tyX2 tyX2_ok nmX2 hown hK hP hD hS 0 rfl rfl 2 (by decide) (hts _ q310) (fun _ h9 => h9) rfl hin rfl (by decide +kernel) rfl rfl (Nat.le_of_ble_eq_true rfl) dX2_init_26 (fun H locs hP hD hS => ?_)
  have hP : va_P D vwCl [jO h0 2 [.ref a_7, .ref a_15, .ref a_24, .int 0, .null, .int 0, .int 0, .null, .null, .null, .int 0, .int 0], jA a_7 B.1 32 (fun _ => 0), jA a_15 B.1 32 (fun _ => 0), jA a_24 B.1 256 (fun _ => 0)] H := hP
  have hD : va_D A [jO h0 2 [.ref a_7, .ref a_15, .ref a_24, .int 0, .null, .int 0, .int 0, .null, .null, .null, .int 0, .int 0], jA a_7 B.1 32 (fun _ => 0), jA a_15 B.1 32 (fun _ => 0), jA a_24 B.1 256 (fun _ => 0)] := hD
  refine lv_aload_n hx hb dX2_init_29 rfl (lv_at hl 0 rfl) ?_
  refine lv_iconst (v := nI 0) hx hb dX2_init_30 (by decide) ?_
  refine jnewb hx hb (hts _ q77) hK hP hD hS hA 0 (by decide) (Nat.le_of_ble_eq_true rfl) (Nat.le_of_ble_eq_true rfl) dX2_init_31 (fun a_31 H hP hD hS => ?_)
  have hP : va_P D vwCl [jO h0 2 [.ref a_7, .ref a_15, .ref a_24, .int 0, .null, .int 0, .int 0, .null, .null, .null, .int 0, .int 0], jA a_7 B.1 32 (fun _ => 0), jA a_15 B.1 32 (fun _ => 0), jA a_24 B.1 256 (fun _ => 0), jA a_31 B.1 0 (fun _ => 0)] H := hP
  have hD : va_D A [jO h0 2 [.ref a_7, .ref a_15, .ref a_24, .int 0, .null, .int 0, .int 0, .null, .null, .null, .int 0, .int 0], jA a_7 B.1 32 (fun _ => 0), jA a_15 B.1 32 (fun _ => 0), jA a_24 B.1 256 (fun _ => 0), jA a_31 B.1 0 (fun _ => 0)] := hD
  refine va_put (D := D) (ci := 2) (v := .ref a_31) (ty := .array .byte) (C := RX2) (T := TX2) (N := 12) hx hb hts in_X2 tyX2 tyX2_ok nmX2 hown hK hP hD hS 0 rfl rfl 4 (by decide) (hts _ q312) (fun _ h9 => h9) rfl (by decide +kernel) rfl rfl (Nat.le_of_ble_eq_true rfl) dX2_init_33 (fun H locs hP hD hS => ?_)
  have hP : va_P D vwCl [jO h0 2 [.ref a_7, .ref a_15, .ref a_24, .int 0, .ref a_31, .int 0, .int 0, .null, .null, .null, .int 0, .int 0], jA a_7 B.1 32 (fun _ => 0), jA a_15 B.1 32 (fun _ => 0), jA a_24 B.1 256 (fun _ => 0), jA a_31 B.1 0 (fun _ => 0)] H := hP
  have hD : va_D A [jO h0 2 [.ref a_7, .ref a_15, .ref a_24, .int 0, .ref a_31, .int 0, .int 0, .null, .null, .null, .int 0, .int 0], jA a_7 B.1 32 (fun _ => 0), jA a_15 B.1 32 (fun _ => 0), jA a_24 B.1 256 (fun _ => 0), jA a_31 B.1 0 (fun _ => 0)] := hD
  refine lv_aload_n hx hb dX2_init_36 rfl (lv_at hl 0 rfl) ?_
  refine lv_bipush (v := nI 16) hx hb dX2_init_37 (by decide) ?_
  refine jnewb hx hb (hts _ q77) hK hP hD hS hA 16 (by decide) (Nat.le_of_ble_eq_true rfl) (Nat.le_of_ble_eq_true rfl) dX2_init_39 (fun a_39 H hP hD hS => ?_)
  have hP : va_P D vwCl [jO h0 2 [.ref a_7, .ref a_15, .ref a_24, .int 0, .ref a_31, .int 0, .int 0, .null, .null, .null, .int 0, .int 0], jA a_7 B.1 32 (fun _ => 0), jA a_15 B.1 32 (fun _ => 0), jA a_24 B.1 256 (fun _ => 0), jA a_31 B.1 0 (fun _ => 0), jA a_39 B.1 16 (fun _ => 0)] H := hP
  have hD : va_D A [jO h0 2 [.ref a_7, .ref a_15, .ref a_24, .int 0, .ref a_31, .int 0, .int 0, .null, .null, .null, .int 0, .int 0], jA a_7 B.1 32 (fun _ => 0), jA a_15 B.1 32 (fun _ => 0), jA a_24 B.1 256 (fun _ => 0), jA a_31 B.1 0 (fun _ => 0), jA a_39 B.1 16 (fun _ => 0)] := hD
  refine va_putF (D := D) (ci := 2) (v := .ref a_39) (ty := .array .byte) (C := RX2) (T := TX2) (N := 12) hx hb hts in_X2 tyX2 tyX2_ok nmX2 hown hK hP hD hS 0 rfl rfl 7 (by decide) (hts _ q315) (fun _ h9 => h9) rfl hin rfl (by decide +kernel) rfl rfl (Nat.le_of_ble_eq_true rfl) dX2_init_41 (fun H locs hP hD hS => ?_)
  have hP : va_P D vwCl [jO h0 2 [.ref a_7, .ref a_15, .ref a_24, .int 0, .ref a_31, .int 0, .int 0, .ref a_39, .null, .null, .int 0, .int 0], jA a_7 B.1 32 (fun _ => 0), jA a_15 B.1 32 (fun _ => 0), jA a_24 B.1 256 (fun _ => 0), jA a_31 B.1 0 (fun _ => 0), jA a_39 B.1 16 (fun _ => 0)] H := hP
  have hD : va_D A [jO h0 2 [.ref a_7, .ref a_15, .ref a_24, .int 0, .ref a_31, .int 0, .int 0, .ref a_39, .null, .null, .int 0, .int 0], jA a_7 B.1 32 (fun _ => 0), jA a_15 B.1 32 (fun _ => 0), jA a_24 B.1 256 (fun _ => 0), jA a_31 B.1 0 (fun _ => 0), jA a_39 B.1 16 (fun _ => 0)] := hD
  refine lv_aload_n hx hb dX2_init_44 rfl (lv_at hl 0 rfl) ?_
  refine lv_bipush (v := nI 16) hx hb dX2_init_45 (by decide) ?_
  refine jnewb hx hb (hts _ q77) hK hP hD hS hA 16 (by decide) (Nat.le_of_ble_eq_true rfl) (Nat.le_of_ble_eq_true rfl) dX2_init_47 (fun a_47 H hP hD hS => ?_)
  have hP : va_P D vwCl [jO h0 2 [.ref a_7, .ref a_15, .ref a_24, .int 0, .ref a_31, .int 0, .int 0, .ref a_39, .null, .null, .int 0, .int 0], jA a_7 B.1 32 (fun _ => 0), jA a_15 B.1 32 (fun _ => 0), jA a_24 B.1 256 (fun _ => 0), jA a_31 B.1 0 (fun _ => 0), jA a_39 B.1 16 (fun _ => 0), jA a_47 B.1 16 (fun _ => 0)] H := hP
  have hD : va_D A [jO h0 2 [.ref a_7, .ref a_15, .ref a_24, .int 0, .ref a_31, .int 0, .int 0, .ref a_39, .null, .null, .int 0, .int 0], jA a_7 B.1 32 (fun _ => 0), jA a_15 B.1 32 (fun _ => 0), jA a_24 B.1 256 (fun _ => 0), jA a_31 B.1 0 (fun _ => 0), jA a_39 B.1 16 (fun _ => 0), jA a_47 B.1 16 (fun _ => 0)] := hD
  refine va_putF (D := D) (ci := 2) (v := .ref a_47) (ty := .array .byte) (C := RX2) (T := TX2) (N := 12) hx hb hts in_X2 tyX2 tyX2_ok nmX2 hown hK hP hD hS 0 rfl rfl 8 (by decide) (hts _ q316) (fun _ h9 => h9) rfl hin rfl (by decide +kernel) rfl rfl (Nat.le_of_ble_eq_true rfl) dX2_init_49 (fun H locs hP hD hS => ?_)
  have hP : va_P D vwCl [jO h0 2 [.ref a_7, .ref a_15, .ref a_24, .int 0, .ref a_31, .int 0, .int 0, .ref a_39, .ref a_47, .null, .int 0, .int 0], jA a_7 B.1 32 (fun _ => 0), jA a_15 B.1 32 (fun _ => 0), jA a_24 B.1 256 (fun _ => 0), jA a_31 B.1 0 (fun _ => 0), jA a_39 B.1 16 (fun _ => 0), jA a_47 B.1 16 (fun _ => 0)] H := hP
  have hD : va_D A [jO h0 2 [.ref a_7, .ref a_15, .ref a_24, .int 0, .ref a_31, .int 0, .int 0, .ref a_39, .ref a_47, .null, .int 0, .int 0], jA a_7 B.1 32 (fun _ => 0), jA a_15 B.1 32 (fun _ => 0), jA a_24 B.1 256 (fun _ => 0), jA a_31 B.1 0 (fun _ => 0), jA a_39 B.1 16 (fun _ => 0), jA a_47 B.1 16 (fun _ => 0)] := hD
  refine lv_aload_n hx hb dX2_init_52 rfl (lv_at hl 0 rfl) ?_
  refine lv_sipush (v := nI 256) hx hb dX2_init_53 (by decide) ?_
  refine jnewi hx hb (hts _ q345) hK hP hD hS hA 256 (by decide) (Nat.le_of_ble_eq_true rfl) (Nat.le_of_ble_eq_true rfl) dX2_init_56 (fun a_56 H hP hD hS => ?_)
  have hP : va_P D vwCl [jO h0 2 [.ref a_7, .ref a_15, .ref a_24, .int 0, .ref a_31, .int 0, .int 0, .ref a_39, .ref a_47, .null, .int 0, .int 0], jA a_7 B.1 32 (fun _ => 0), jA a_15 B.1 32 (fun _ => 0), jA a_24 B.1 256 (fun _ => 0), jA a_31 B.1 0 (fun _ => 0), jA a_39 B.1 16 (fun _ => 0), jA a_47 B.1 16 (fun _ => 0), jA a_56 B.2 256 (fun _ => 0)] H := hP
  have hD : va_D A [jO h0 2 [.ref a_7, .ref a_15, .ref a_24, .int 0, .ref a_31, .int 0, .int 0, .ref a_39, .ref a_47, .null, .int 0, .int 0], jA a_7 B.1 32 (fun _ => 0), jA a_15 B.1 32 (fun _ => 0), jA a_24 B.1 256 (fun _ => 0), jA a_31 B.1 0 (fun _ => 0), jA a_39 B.1 16 (fun _ => 0), jA a_47 B.1 16 (fun _ => 0), jA a_56 B.2 256 (fun _ => 0)] := hD
  refine va_putF (D := D) (ci := 2) (v := .ref a_56) (ty := .array .int) (C := RX2) (T := TX2) (N := 12) hx hb hts in_X2 tyX2 tyX2_ok nmX2 hown hK hP hD hS 0 rfl rfl 9 (by decide) (hts _ q317) (fun _ h9 => h9) rfl hin rfl (by decide +kernel) rfl rfl (Nat.le_of_ble_eq_true rfl) dX2_init_58 (fun H locs hP hD hS => ?_)
  have hP : va_P D vwCl [jO h0 2 [.ref a_7, .ref a_15, .ref a_24, .int 0, .ref a_31, .int 0, .int 0, .ref a_39, .ref a_47, .ref a_56, .int 0, .int 0], jA a_7 B.1 32 (fun _ => 0), jA a_15 B.1 32 (fun _ => 0), jA a_24 B.1 256 (fun _ => 0), jA a_31 B.1 0 (fun _ => 0), jA a_39 B.1 16 (fun _ => 0), jA a_47 B.1 16 (fun _ => 0), jA a_56 B.2 256 (fun _ => 0)] H := hP
  have hD : va_D A [jO h0 2 [.ref a_7, .ref a_15, .ref a_24, .int 0, .ref a_31, .int 0, .int 0, .ref a_39, .ref a_47, .ref a_56, .int 0, .int 0], jA a_7 B.1 32 (fun _ => 0), jA a_15 B.1 32 (fun _ => 0), jA a_24 B.1 256 (fun _ => 0), jA a_31 B.1 0 (fun _ => 0), jA a_39 B.1 16 (fun _ => 0), jA a_47 B.1 16 (fun _ => 0), jA a_56 B.2 256 (fun _ => 0)] := hD
  exact jvret ((a_7, a_15, a_24, a_31, a_39, a_47, a_56)) hx hb hr hlk trivial hP hD hS (Nat.le_of_ble_eq_true rfl) (Nat.le_of_ble_eq_true rfl) dX2_init_61
set_option maxHeartbeats 4000000 in
set_option maxRecDepth 100000 in
/-- put(to, z, w) -/
theorem metX2_put_2 (l : Launch) (D : va_G) (B : ClassId × ClassId) (sz : Nat) (a0 n0 z : Nat) (hz : z + 4 ≤ n0) (hn0 : n0 ≤ 256) (f : Nat → Int32) (w : Int32) : jMv l yX2_put_2 (ws_ yX2_put_2 cX2_put_2 4 none) { frames := 0, cells := 0, slots := 0, locals := 0 } D B sz [.ref a0, .int (nI z), .int w] [jA a0 B.1 n0 f] (S := Unit) (fun _ => True) (fun u => [jA a0 B.1 n0 (wrd f z w)]) := by
  refine jStartV (by decide) (Nat.le_of_ble_eq_true rfl) ?_
  intro p e s m below meth c A H ls hx hb hr hlk hml hown hin hts hK hP hD hA hS hl
  have hown : s.vm.findClass "VmpcDeskModel" = some m.cls := hown
  have hl : lv_has ls 4 [(0, .ref a0), (1, .int (nI z)), (2, .int w)] := hl
  refine lv_iconst (v := nI 0) hx hb dX2_put_2_0 (by decide) ?_
  refine lv_istore_n (lv' := [(3, .int (nI 0)), (0, .ref a0), (1, .int (nI z)), (2, .int w)]) hx hb dX2_put_2_1 rfl hl (by decide) rfl (fun ls hl => ?_)
  refine lv_iload_n hx hb dX2_put_2_2 rfl (lv_at hl 0 rfl) ?_
  refine lv_iconst (v := nI 4) hx hb dX2_put_2_3 (by decide) ?_
  refine lv_icmp_ge (tgt := 28) hx hb dX2_put_2_4 (by decide) (fun c_4 => ?_) (fun c_4 => ?_)
  · exact absurd c_4 (by decide)
  · refine lv_aload_n hx hb dX2_put_2_7 rfl (lv_at hl 1 rfl) ?_
    refine lv_iload_n hx hb dX2_put_2_8 rfl (lv_at hl 2 rfl) ?_
    refine lv_iload_n hx hb dX2_put_2_9 rfl (lv_at hl 0 rfl) ?_
    refine lv_iadd hx hb dX2_put_2_10 ?_
    refine jas (y := nI z) (by rw [nI_add, Nat.add_zero]) ?_
    refine lv_iload_n hx hb dX2_put_2_11 rfl (lv_at hl 3 rfl) ?_
    refine lv_bipush (v := nI 24) hx hb dX2_put_2_12 (by decide) ?_
    refine lv_bipush (v := nI 8) hx hb dX2_put_2_14 (by decide) ?_
    refine lv_iload_n hx hb dX2_put_2_16 rfl (lv_at hl 0 rfl) ?_
    refine lv_imul hx hb dX2_put_2_17 ?_
    refine jas (y := nI 0) (by decide) ?_
    refine lv_isub hx hb dX2_put_2_18 ?_
    refine jas (y := nI 24) (by decide) ?_
    refine lv_ishr hx hb dX2_put_2_19 ?_
    refine lv_i2b (v := (w >>> ((nI 24) &&& 31)).toInt8.toInt32) hx hb dX2_put_2_20 rfl ?_
    refine jbast hx hb hK hP hD hS 0 rfl z (by omega) (by omega) (upd f z ((w >>> (nI 24 &&& 31)).toInt8.toInt32)) (by rw [vb_idem]) dX2_put_2_21 (fun H locs hP hD hS => ?_)
    have hP : va_P D vwCl [jA a0 B.1 n0 (upd f z ((w >>> (nI 24 &&& 31)).toInt8.toInt32))] H := hP
    have hD : va_D A [jA a0 B.1 n0 (upd f z ((w >>> (nI 24 &&& 31)).toInt8.toInt32))] := hD
    refine lv_iinc (v := nI 1) (lv' := [(3, .int (nI 1)), (0, .ref a0), (1, .int (nI z)), (2, .int w)]) hx hb dX2_put_2_22 hl (k := 0) rfl (by decide) (by decide) rfl (fun ls hl => ?_)
    refine lv_goto (tgt := 2) hx hb dX2_put_2_25 (by decide) ?_
    refine lv_iload_n hx hb dX2_put_2_2 rfl (lv_at hl 0 rfl) ?_
    refine lv_iconst (v := nI 4) hx hb dX2_put_2_3 (by decide) ?_
    refine lv_icmp_ge (tgt := 28) hx hb dX2_put_2_4 (by decide) (fun c_4 => ?_) (fun c_4 => ?_)
    · exact absurd c_4 (by decide)
    · refine lv_aload_n hx hb dX2_put_2_7 rfl (lv_at hl 1 rfl) ?_
      refine lv_iload_n hx hb dX2_put_2_8 rfl (lv_at hl 2 rfl) ?_
      refine lv_iload_n hx hb dX2_put_2_9 rfl (lv_at hl 0 rfl) ?_
      refine lv_iadd hx hb dX2_put_2_10 ?_
      refine jas (y := nI (z + 1)) (nI_add _ _) ?_
      refine lv_iload_n hx hb dX2_put_2_11 rfl (lv_at hl 3 rfl) ?_
      refine lv_bipush (v := nI 24) hx hb dX2_put_2_12 (by decide) ?_
      refine lv_bipush (v := nI 8) hx hb dX2_put_2_14 (by decide) ?_
      refine lv_iload_n hx hb dX2_put_2_16 rfl (lv_at hl 0 rfl) ?_
      refine lv_imul hx hb dX2_put_2_17 ?_
      refine jas (y := nI 8) (by decide) ?_
      refine lv_isub hx hb dX2_put_2_18 ?_
      refine jas (y := nI 16) (by decide) ?_
      refine lv_ishr hx hb dX2_put_2_19 ?_
      refine lv_i2b (v := (w >>> ((nI 16) &&& 31)).toInt8.toInt32) hx hb dX2_put_2_20 rfl ?_
      refine jbast hx hb hK hP hD hS 0 rfl (z + 1) (by omega) (by omega) (upd (upd f z ((w >>> (nI 24 &&& 31)).toInt8.toInt32)) (z + 1) ((w >>> (nI 16 &&& 31)).toInt8.toInt32)) (by rw [vb_idem]) dX2_put_2_21 (fun H locs hP hD hS => ?_)
      have hP : va_P D vwCl [jA a0 B.1 n0 (upd (upd f z ((w >>> (nI 24 &&& 31)).toInt8.toInt32)) (z + 1) ((w >>> (nI 16 &&& 31)).toInt8.toInt32))] H := hP
      have hD : va_D A [jA a0 B.1 n0 (upd (upd f z ((w >>> (nI 24 &&& 31)).toInt8.toInt32)) (z + 1) ((w >>> (nI 16 &&& 31)).toInt8.toInt32))] := hD
      refine lv_iinc (v := nI 2) (lv' := [(3, .int (nI 2)), (0, .ref a0), (1, .int (nI z)), (2, .int w)]) hx hb dX2_put_2_22 hl (k := 0) rfl (by decide) (by decide) rfl (fun ls hl => ?_)
      refine lv_goto (tgt := 2) hx hb dX2_put_2_25 (by decide) ?_
      refine lv_iload_n hx hb dX2_put_2_2 rfl (lv_at hl 0 rfl) ?_
      refine lv_iconst (v := nI 4) hx hb dX2_put_2_3 (by decide) ?_
      refine lv_icmp_ge (tgt := 28) hx hb dX2_put_2_4 (by decide) (fun c_4 => ?_) (fun c_4 => ?_)
      · exact absurd c_4 (by decide)
      · refine lv_aload_n hx hb dX2_put_2_7 rfl (lv_at hl 1 rfl) ?_
        refine lv_iload_n hx hb dX2_put_2_8 rfl (lv_at hl 2 rfl) ?_
        refine lv_iload_n hx hb dX2_put_2_9 rfl (lv_at hl 0 rfl) ?_
        refine lv_iadd hx hb dX2_put_2_10 ?_
        refine jas (y := nI (z + 2)) (nI_add _ _) ?_
        refine lv_iload_n hx hb dX2_put_2_11 rfl (lv_at hl 3 rfl) ?_
        refine lv_bipush (v := nI 24) hx hb dX2_put_2_12 (by decide) ?_
        refine lv_bipush (v := nI 8) hx hb dX2_put_2_14 (by decide) ?_
        refine lv_iload_n hx hb dX2_put_2_16 rfl (lv_at hl 0 rfl) ?_
        refine lv_imul hx hb dX2_put_2_17 ?_
        refine jas (y := nI 16) (by decide) ?_
        refine lv_isub hx hb dX2_put_2_18 ?_
        refine jas (y := nI 8) (by decide) ?_
        refine lv_ishr hx hb dX2_put_2_19 ?_
        refine lv_i2b (v := (w >>> ((nI 8) &&& 31)).toInt8.toInt32) hx hb dX2_put_2_20 rfl ?_
        refine jbast hx hb hK hP hD hS 0 rfl (z + 2) (by omega) (by omega) (upd (upd (upd f z ((w >>> (nI 24 &&& 31)).toInt8.toInt32)) (z + 1) ((w >>> (nI 16 &&& 31)).toInt8.toInt32)) (z + 2) ((w >>> (nI 8 &&& 31)).toInt8.toInt32)) (by rw [vb_idem]) dX2_put_2_21 (fun H locs hP hD hS => ?_)
        have hP : va_P D vwCl [jA a0 B.1 n0 (upd (upd (upd f z ((w >>> (nI 24 &&& 31)).toInt8.toInt32)) (z + 1) ((w >>> (nI 16 &&& 31)).toInt8.toInt32)) (z + 2) ((w >>> (nI 8 &&& 31)).toInt8.toInt32))] H := hP
        have hD : va_D A [jA a0 B.1 n0 (upd (upd (upd f z ((w >>> (nI 24 &&& 31)).toInt8.toInt32)) (z + 1) ((w >>> (nI 16 &&& 31)).toInt8.toInt32)) (z + 2) ((w >>> (nI 8 &&& 31)).toInt8.toInt32))] := hD
        refine lv_iinc (v := nI 3) (lv' := [(3, .int (nI 3)), (0, .ref a0), (1, .int (nI z)), (2, .int w)]) hx hb dX2_put_2_22 hl (k := 0) rfl (by decide) (by decide) rfl (fun ls hl => ?_)
        refine lv_goto (tgt := 2) hx hb dX2_put_2_25 (by decide) ?_
        refine lv_iload_n hx hb dX2_put_2_2 rfl (lv_at hl 0 rfl) ?_
        refine lv_iconst (v := nI 4) hx hb dX2_put_2_3 (by decide) ?_
        refine lv_icmp_ge (tgt := 28) hx hb dX2_put_2_4 (by decide) (fun c_4 => ?_) (fun c_4 => ?_)
        · exact absurd c_4 (by decide)
        · refine lv_aload_n hx hb dX2_put_2_7 rfl (lv_at hl 1 rfl) ?_
          refine lv_iload_n hx hb dX2_put_2_8 rfl (lv_at hl 2 rfl) ?_
          refine lv_iload_n hx hb dX2_put_2_9 rfl (lv_at hl 0 rfl) ?_
          refine lv_iadd hx hb dX2_put_2_10 ?_
          refine jas (y := nI (z + 3)) (nI_add _ _) ?_
          refine lv_iload_n hx hb dX2_put_2_11 rfl (lv_at hl 3 rfl) ?_
          refine lv_bipush (v := nI 24) hx hb dX2_put_2_12 (by decide) ?_
          refine lv_bipush (v := nI 8) hx hb dX2_put_2_14 (by decide) ?_
          refine lv_iload_n hx hb dX2_put_2_16 rfl (lv_at hl 0 rfl) ?_
          refine lv_imul hx hb dX2_put_2_17 ?_
          refine jas (y := nI 24) (by decide) ?_
          refine lv_isub hx hb dX2_put_2_18 ?_
          refine jas (y := nI 0) (by decide) ?_
          refine lv_ishr hx hb dX2_put_2_19 ?_
          refine jas (y := w) (sh0 w) ?_
          refine lv_i2b (v := w.toInt8.toInt32) hx hb dX2_put_2_20 rfl ?_
          refine jbast hx hb hK hP hD hS 0 rfl (z + 3) (by omega) (by omega) (upd (upd (upd (upd f z ((w >>> (nI 24 &&& 31)).toInt8.toInt32)) (z + 1) ((w >>> (nI 16 &&& 31)).toInt8.toInt32)) (z + 2) ((w >>> (nI 8 &&& 31)).toInt8.toInt32)) (z + 3) (w.toInt8.toInt32)) (by rw [vb_idem]) dX2_put_2_21 (fun H locs hP hD hS => ?_)
          have hP : va_P D vwCl [jA a0 B.1 n0 (upd (upd (upd (upd f z ((w >>> (nI 24 &&& 31)).toInt8.toInt32)) (z + 1) ((w >>> (nI 16 &&& 31)).toInt8.toInt32)) (z + 2) ((w >>> (nI 8 &&& 31)).toInt8.toInt32)) (z + 3) (w.toInt8.toInt32))] H := hP
          have hD : va_D A [jA a0 B.1 n0 (upd (upd (upd (upd f z ((w >>> (nI 24 &&& 31)).toInt8.toInt32)) (z + 1) ((w >>> (nI 16 &&& 31)).toInt8.toInt32)) (z + 2) ((w >>> (nI 8 &&& 31)).toInt8.toInt32)) (z + 3) (w.toInt8.toInt32))] := hD
          refine lv_iinc (v := nI 4) (lv' := [(3, .int (nI 4)), (0, .ref a0), (1, .int (nI z)), (2, .int w)]) hx hb dX2_put_2_22 hl (k := 0) rfl (by decide) (by decide) rfl (fun ls hl => ?_)
          refine lv_goto (tgt := 2) hx hb dX2_put_2_25 (by decide) ?_
          refine lv_iload_n hx hb dX2_put_2_2 rfl (lv_at hl 0 rfl) ?_
          refine lv_iconst (v := nI 4) hx hb dX2_put_2_3 (by decide) ?_
          refine lv_icmp_ge (tgt := 28) hx hb dX2_put_2_4 (by decide) (fun c_4 => ?_) (fun c_4 => ?_)
          · exact jvret (()) hx hb hr hlk trivial hP hD hS (Nat.le_of_ble_eq_true rfl) (Nat.le_of_ble_eq_true rfl) dX2_put_2_28
          · exact absurd (show nI 4 ≤ nI 4 by decide) c_4
set_option maxHeartbeats 4000000 in
set_option maxRecDepth 100000 in
/-- from(x) -/
theorem metX2_from (l : Launch) (D : va_G) (B : ClassId × ClassId) (sz : Nat) (h0 z : Nat) (hz : z ≤ 256) (x : Int32) (y0 y1 y2 y4 y5 y6 y7 y8 y9 y10 y11 : Value) : jMi l yX2_from (ws_ yX2_from cX2_from 2 (some .int)) { frames := 0, cells := 0, slots := 0, locals := 0 } D B sz [.ref h0, .int x] [jO h0 2 [y0, y1, y2, .int (nI z), y4, y5, y6, y7, y8, y9, y10, y11]] (S := Unit) (fun r _ => r = nI (frm x z)) (fun u => [jO h0 2 [y0, y1, y2, .int (nI z), y4, y5, y6, y7, y8, y9, y10, y11]]) := by
  refine jStartI (by decide) (Nat.le_of_ble_eq_true rfl) ?_
  intro p e s m below meth c A H ls hx hb hr hlk hml hown hin hts hK hP hD hA hS hl
  have hown : s.vm.findClass "VmpcDeskModel" = some m.cls := hown
  have hl : lv_has ls 2 [(0, .ref h0), (1, .int x)] := hl
  refine lv_iload_n hx hb dX2_from_0 rfl (lv_at hl 1 rfl) ?_
  refine lv_ldc (v := 2147483647) hx hb hown (hts _ q361) dX2_from_1 ?_
  refine lv_iand hx hb dX2_from_3 ?_
  refine jas (y := nI (lo31 x)) (and31 x) ?_
  refine lv_aload_n hx hb dX2_from_4 rfl (lv_at hl 0 rfl) ?_
  refine va_get (D := D) (ci := 2) (v := .int (nI z)) (C := RX2) (T := TX2) (N := 12) hx hb hts in_X2 hown hK hP 0 rfl rfl 3 (by decide) (hts _ q311) (fun _ h9 => h9) rfl dX2_from_5 ?_
  refine lv_iconst (v := nI 1) hx hb dX2_from_8 (by decide) ?_
  refine lv_iadd hx hb dX2_from_9 ?_
  refine jas (y := nI (z + 1)) (nI_add _ _) ?_
  refine lv_irem hx hb dX2_from_10 (nI_ne0 (by omega) (by omega)) ?_
  refine jas (y := nI (frm x z)) (rem_nI (lo31_lt x) (by omega) (by omega)) ?_
  exact jiret (()) hx hb hr rfl hlk rfl hP hD hS (Nat.le_of_ble_eq_true rfl) (Nat.le_of_ble_eq_true rfl) dX2_from_11
set_option maxHeartbeats 4000000 in
set_option maxRecDepth 100000 in
/-- trim(x) -/
theorem metX2_trim (l : Launch) (D : va_G) (B : ClassId × ClassId) (sz : Nat) (h0 z : Nat) (hz : z ≤ 256) (x : Int32) (y0 y1 y2 y4 y5 y6 y7 y8 y9 y10 y11 : Value) : jMv l yX2_trim (ws_ yX2_trim cX2_trim 2 none) { frames := 1, cells := 0, slots := 0, locals := 40 } D B sz [.ref h0, .int x] [jO h0 2 [y0, y1, y2, .int (nI z), y4, y5, y6, y7, y8, y9, y10, y11]] (S := Unit) (fun _ => True) (fun u => [jO h0 2 [y0, y1, y2, .int (nI (frm x z)), y4, y5, y6, y7, y8, y9, y10, y11]]) := by
  refine jStartV (by decide) (Nat.le_of_ble_eq_true rfl) ?_
  intro p e s m below meth c A H ls hx hb hr hlk hml hown hin hts hK hP hD hA hS hl
  have hown : s.vm.findClass "VmpcDeskModel" = some m.cls := hown
  have hl : lv_has ls 2 [(0, .ref h0), (1, .int x)] := hl
  refine lv_aload_n hx hb dX2_trim_0 rfl (lv_at hl 0 rfl) ?_
  refine lv_aload_n hx hb dX2_trim_1 rfl (lv_at hl 0 rfl) ?_
  refine lv_iload_n hx hb dX2_trim_2 rfl (lv_at hl 1 rfl) ?_
  refine jcalli (ws := [jO h0 2 [y0, y1, y2, .int (nI z), y4, y5, y6, y7, y8, y9, y10, y11]]) (wc := [jO h0 2 [y0, y1, y2, .int (nI z), y4, y5, y6, y7, y8, y9, y10, y11]]) [0] rfl (by decide) (fun _ => rfl) hP hD hS hA (va_runV (C := RX2) (b := h0) (As := [.int x]) (rest := [.ref h0]) ⟨hx, hb, hml, hown, hts⟩ (metX2_from l D B H.size h0 z hz x y0 y1 y2 y4 y5 y6 y7 y8 y9 y10 y11) (cwV 1 hts (lw_V q357 q359 qs3 q11 q360) rfl rfl rfl (by decide +kernel) ⟨Nat.le_of_ble_eq_true rfl, Nat.le_of_ble_eq_true rfl⟩) (jPreV (ci := 2) (q0 := 0) hK (hP.sub (ws' := [jO h0 2 [y0, y1, y2, .int (nI z), y4, y5, y6, y7, y8, y9, y10, y11]]) [0] rfl) (hD.sub (ws' := [jO h0 2 [y0, y1, y2, .int (nI z), y4, y5, y6, y7, y8, y9, y10, y11]]) [0] (by decide) rfl) rfl rfl) rfl rfl hl.1 rfl (lv_room (Nat.le_of_ble_eq_true rfl)) dX2_trim_3 ⟨Nat.le_of_ble_eq_true rfl, Nat.le_of_ble_eq_true rfl⟩) (fun r_3 _ H locs hu hP hD hS => ?_)
  subst hu
  have hP : va_P D vwCl [jO h0 2 [y0, y1, y2, .int (nI z), y4, y5, y6, y7, y8, y9, y10, y11]] H := hP
  have hD : va_D A [jO h0 2 [y0, y1, y2, .int (nI z), y4, y5, y6, y7, y8, y9, y10, y11]] := hD
  refine va_put (D := D) (ci := 2) (v := .int (nI (frm x z))) (ty := .int) (C := RX2) (T := TX2) (N := 12) hx hb hts in_X2 tyX2 tyX2_ok nmX2 hown hK hP hD hS 0 rfl rfl 3 (by decide) (hts _ q311) (fun _ h9 => h9) rfl (by decide +kernel) rfl rfl (Nat.le_of_ble_eq_true rfl) dX2_trim_6 (fun H locs hP hD hS => ?_)
  have hP : va_P D vwCl [jO h0 2 [y0, y1, y2, .int (nI (frm x z)), y4, y5, y6, y7, y8, y9, y10, y11]] H := hP
  have hD : va_D A [jO h0 2 [y0, y1, y2, .int (nI (frm x z)), y4, y5, y6, y7, y8, y9, y10, y11]] := hD
  exact jvret (()) hx hb hr hlk trivial hP hD hS (Nat.le_of_ble_eq_true rfl) (Nat.le_of_ble_eq_true rfl) dX2_trim_9
set_option maxHeartbeats 4000000 in
set_option maxRecDepth 100000 in
/-- put(a, b, c, d) -/
theorem metX2_put (l : Launch) (D : va_G) (B : ClassId × ClassId) (sz : Nat) (h0 t0 z : Nat) (hz : z ≤ 256) (T : Nat → Int32) (a b c_ d : Int32) (y0 y1 y4 y5 y6 y7 y8 y9 y10 y11 : Value) : jMi l yX2_put (ws_ yX2_put cX2_put 5 (some .boolean)) { frames := 1, cells := 0, slots := 0, locals := 40 } D B sz [.ref h0, .int a, .int b, .int c_, .int d] [jO h0 2 [y0, y1, .ref t0, .int (nI z), y4, y5, y6, y7, y8, y9, y10, y11], jA t0 B.1 256 T] (S := Unit) (fun r _ => r = putR z) (fun u => [jO h0 2 [y0, y1, .ref t0, .int (nI (putZ z)), y4, y5, y6, y7, y8, y9, y10, y11], jA t0 B.1 256 (putT T z a b c_ d)]) := by
  refine jStartI (by decide) (Nat.le_of_ble_eq_true rfl) ?_
  intro p e s m below meth c A H ls hx hb hr hlk hml hown hin hts hK hP hD hA hS hl
  have hown : s.vm.findClass "VmpcDeskModel" = some m.cls := hown
  have hl : lv_has ls 5 [(0, .ref h0), (1, .int a), (2, .int b), (3, .int c_), (4, .int d)] := hl
  refine lv_aload_n hx hb dX2_put_0 rfl (lv_at hl 0 rfl) ?_
  refine va_get (D := D) (ci := 2) (v := .int (nI z)) (C := RX2) (T := TX2) (N := 12) hx hb hts in_X2 hown hK hP 0 rfl rfl 3 (by decide) (hts _ q311) (fun _ h9 => h9) rfl dX2_put_1 ?_
  refine lv_sipush (v := nI 240) hx hb dX2_put_4 (by decide) ?_
  refine lv_icmp_le (tgt := 12) hx hb dX2_put_7 (by decide) (fun c_7 => ?_) (fun c_7 => ?_)
  · have hz2 : z ≤ 240 := (nI_leI (by omega) (by decide)).mp c_7
    refine lv_aload_n hx hb dX2_put_12 rfl (lv_at hl 0 rfl) ?_
    refine va_get (D := D) (ci := 2) (v := .ref t0) (C := RX2) (T := TX2) (N := 12) hx hb hts in_X2 hown hK hP 0 rfl rfl 2 (by decide) (hts _ q310) (fun _ h9 => h9) rfl dX2_put_13 ?_
    refine lv_aload_n hx hb dX2_put_16 rfl (lv_at hl 0 rfl) ?_
    refine va_get (D := D) (ci := 2) (v := .int (nI z)) (C := RX2) (T := TX2) (N := 12) hx hb hts in_X2 hown hK hP 0 rfl rfl 3 (by decide) (hts _ q311) (fun _ h9 => h9) rfl dX2_put_17 ?_
    refine lv_iload_n hx hb dX2_put_20 rfl (lv_at hl 1 rfl) ?_
    refine jcallv (ws := [jO h0 2 [y0, y1, .ref t0, .int (nI z), y4, y5, y6, y7, y8, y9, y10, y11], jA t0 B.1 256 T]) (wc := [jA t0 B.1 256 T]) [1] rfl (by decide) (fun _ => rfl) hP hD hS hA (va_runS (As := [.ref t0, .int (nI z), .int a]) (rest := []) ⟨hx, hb, hml, hown, hts⟩ (metX2_put_2 l D B H.size t0 256 z (by omega) (by omega) (T) a) (va_cwS 3 hts (lw_S q350 q351 q11 q352) rfl rfl rfl (by decide +kernel) ⟨Nat.le_of_ble_eq_true rfl, Nat.le_of_ble_eq_true rfl⟩) (jPreS hK (hP.sub (ws' := [jA t0 B.1 256 T]) [1] rfl) (hD.sub (ws' := [jA t0 B.1 256 T]) [1] (by decide) rfl)) rfl rfl hl.1 rfl (lv_room (Nat.le_of_ble_eq_true rfl)) dX2_put_21 ⟨Nat.le_of_ble_eq_true rfl, Nat.le_of_ble_eq_true rfl⟩) (fun _ H locs hu hP hD hS => ?_)
    have hP : va_P D vwCl [jO h0 2 [y0, y1, .ref t0, .int (nI z), y4, y5, y6, y7, y8, y9, y10, y11], jA t0 B.1 256 (wrd T z a)] H := hP
    have hD : va_D A [jO h0 2 [y0, y1, .ref t0, .int (nI z), y4, y5, y6, y7, y8, y9, y10, y11], jA t0 B.1 256 (wrd T z a)] := hD
    refine lv_aload_n hx hb dX2_put_24 rfl (lv_at hl 0 rfl) ?_
    refine va_get (D := D) (ci := 2) (v := .ref t0) (C := RX2) (T := TX2) (N := 12) hx hb hts in_X2 hown hK hP 0 rfl rfl 2 (by decide) (hts _ q310) (fun _ h9 => h9) rfl dX2_put_25 ?_
    refine lv_aload_n hx hb dX2_put_28 rfl (lv_at hl 0 rfl) ?_
    refine va_get (D := D) (ci := 2) (v := .int (nI z)) (C := RX2) (T := TX2) (N := 12) hx hb hts in_X2 hown hK hP 0 rfl rfl 3 (by decide) (hts _ q311) (fun _ h9 => h9) rfl dX2_put_29 ?_
    refine lv_iconst (v := nI 4) hx hb dX2_put_32 (by decide) ?_
    refine lv_iadd hx hb dX2_put_33 ?_
    refine jas (y := nI (z + 4)) (nI_add _ _) ?_
    refine lv_iload_n hx hb dX2_put_34 rfl (lv_at hl 2 rfl) ?_
    refine jcallv (ws := [jO h0 2 [y0, y1, .ref t0, .int (nI z), y4, y5, y6, y7, y8, y9, y10, y11], jA t0 B.1 256 (wrd T z a)]) (wc := [jA t0 B.1 256 (wrd T z a)]) [1] rfl (by decide) (fun _ => rfl) hP hD hS hA (va_runS (As := [.ref t0, .int (nI (z + 4)), .int b]) (rest := []) ⟨hx, hb, hml, hown, hts⟩ (metX2_put_2 l D B H.size t0 256 (z + 4) (by omega) (by omega) (wrd T z a) b) (va_cwS 3 hts (lw_S q350 q351 q11 q352) rfl rfl rfl (by decide +kernel) ⟨Nat.le_of_ble_eq_true rfl, Nat.le_of_ble_eq_true rfl⟩) (jPreS hK (hP.sub (ws' := [jA t0 B.1 256 (wrd T z a)]) [1] rfl) (hD.sub (ws' := [jA t0 B.1 256 (wrd T z a)]) [1] (by decide) rfl)) rfl rfl hl.1 rfl (lv_room (Nat.le_of_ble_eq_true rfl)) dX2_put_35 ⟨Nat.le_of_ble_eq_true rfl, Nat.le_of_ble_eq_true rfl⟩) (fun _ H locs hu hP hD hS => ?_)
    have hP : va_P D vwCl [jO h0 2 [y0, y1, .ref t0, .int (nI z), y4, y5, y6, y7, y8, y9, y10, y11], jA t0 B.1 256 (wrd (wrd T z a) (z + 4) b)] H := hP
    have hD : va_D A [jO h0 2 [y0, y1, .ref t0, .int (nI z), y4, y5, y6, y7, y8, y9, y10, y11], jA t0 B.1 256 (wrd (wrd T z a) (z + 4) b)] := hD
    refine lv_aload_n hx hb dX2_put_38 rfl (lv_at hl 0 rfl) ?_
    refine va_get (D := D) (ci := 2) (v := .ref t0) (C := RX2) (T := TX2) (N := 12) hx hb hts in_X2 hown hK hP 0 rfl rfl 2 (by decide) (hts _ q310) (fun _ h9 => h9) rfl dX2_put_39 ?_
    refine lv_aload_n hx hb dX2_put_42 rfl (lv_at hl 0 rfl) ?_
    refine va_get (D := D) (ci := 2) (v := .int (nI z)) (C := RX2) (T := TX2) (N := 12) hx hb hts in_X2 hown hK hP 0 rfl rfl 3 (by decide) (hts _ q311) (fun _ h9 => h9) rfl dX2_put_43 ?_
    refine lv_bipush (v := nI 8) hx hb dX2_put_46 (by decide) ?_
    refine lv_iadd hx hb dX2_put_48 ?_
    refine jas (y := nI (z + 8)) (nI_add _ _) ?_
    refine lv_iload_n hx hb dX2_put_49 rfl (lv_at hl 3 rfl) ?_
    refine jcallv (ws := [jO h0 2 [y0, y1, .ref t0, .int (nI z), y4, y5, y6, y7, y8, y9, y10, y11], jA t0 B.1 256 (wrd (wrd T z a) (z + 4) b)]) (wc := [jA t0 B.1 256 (wrd (wrd T z a) (z + 4) b)]) [1] rfl (by decide) (fun _ => rfl) hP hD hS hA (va_runS (As := [.ref t0, .int (nI (z + 8)), .int c_]) (rest := []) ⟨hx, hb, hml, hown, hts⟩ (metX2_put_2 l D B H.size t0 256 (z + 8) (by omega) (by omega) (wrd (wrd T z a) (z + 4) b) c_) (va_cwS 3 hts (lw_S q350 q351 q11 q352) rfl rfl rfl (by decide +kernel) ⟨Nat.le_of_ble_eq_true rfl, Nat.le_of_ble_eq_true rfl⟩) (jPreS hK (hP.sub (ws' := [jA t0 B.1 256 (wrd (wrd T z a) (z + 4) b)]) [1] rfl) (hD.sub (ws' := [jA t0 B.1 256 (wrd (wrd T z a) (z + 4) b)]) [1] (by decide) rfl)) rfl rfl hl.1 rfl (lv_room (Nat.le_of_ble_eq_true rfl)) dX2_put_50 ⟨Nat.le_of_ble_eq_true rfl, Nat.le_of_ble_eq_true rfl⟩) (fun _ H locs hu hP hD hS => ?_)
    have hP : va_P D vwCl [jO h0 2 [y0, y1, .ref t0, .int (nI z), y4, y5, y6, y7, y8, y9, y10, y11], jA t0 B.1 256 (wrd (wrd (wrd T z a) (z + 4) b) (z + 8) c_)] H := hP
    have hD : va_D A [jO h0 2 [y0, y1, .ref t0, .int (nI z), y4, y5, y6, y7, y8, y9, y10, y11], jA t0 B.1 256 (wrd (wrd (wrd T z a) (z + 4) b) (z + 8) c_)] := hD
    refine lv_aload_n hx hb dX2_put_53 rfl (lv_at hl 0 rfl) ?_
    refine va_get (D := D) (ci := 2) (v := .ref t0) (C := RX2) (T := TX2) (N := 12) hx hb hts in_X2 hown hK hP 0 rfl rfl 2 (by decide) (hts _ q310) (fun _ h9 => h9) rfl dX2_put_54 ?_
    refine lv_aload_n hx hb dX2_put_57 rfl (lv_at hl 0 rfl) ?_
    refine va_get (D := D) (ci := 2) (v := .int (nI z)) (C := RX2) (T := TX2) (N := 12) hx hb hts in_X2 hown hK hP 0 rfl rfl 3 (by decide) (hts _ q311) (fun _ h9 => h9) rfl dX2_put_58 ?_
    refine lv_bipush (v := nI 12) hx hb dX2_put_61 (by decide) ?_
    refine lv_iadd hx hb dX2_put_63 ?_
    refine jas (y := nI (z + 12)) (nI_add _ _) ?_
    refine lv_iload hx hb dX2_put_64 (lv_at hl 4 rfl) ?_
    refine jcallv (ws := [jO h0 2 [y0, y1, .ref t0, .int (nI z), y4, y5, y6, y7, y8, y9, y10, y11], jA t0 B.1 256 (wrd (wrd (wrd T z a) (z + 4) b) (z + 8) c_)]) (wc := [jA t0 B.1 256 (wrd (wrd (wrd T z a) (z + 4) b) (z + 8) c_)]) [1] rfl (by decide) (fun _ => rfl) hP hD hS hA (va_runS (As := [.ref t0, .int (nI (z + 12)), .int d]) (rest := []) ⟨hx, hb, hml, hown, hts⟩ (metX2_put_2 l D B H.size t0 256 (z + 12) (by omega) (by omega) (wrd (wrd (wrd T z a) (z + 4) b) (z + 8) c_) d) (va_cwS 3 hts (lw_S q350 q351 q11 q352) rfl rfl rfl (by decide +kernel) ⟨Nat.le_of_ble_eq_true rfl, Nat.le_of_ble_eq_true rfl⟩) (jPreS hK (hP.sub (ws' := [jA t0 B.1 256 (wrd (wrd (wrd T z a) (z + 4) b) (z + 8) c_)]) [1] rfl) (hD.sub (ws' := [jA t0 B.1 256 (wrd (wrd (wrd T z a) (z + 4) b) (z + 8) c_)]) [1] (by decide) rfl)) rfl rfl hl.1 rfl (lv_room (Nat.le_of_ble_eq_true rfl)) dX2_put_66 ⟨Nat.le_of_ble_eq_true rfl, Nat.le_of_ble_eq_true rfl⟩) (fun _ H locs hu hP hD hS => ?_)
    have hP : va_P D vwCl [jO h0 2 [y0, y1, .ref t0, .int (nI z), y4, y5, y6, y7, y8, y9, y10, y11], jA t0 B.1 256 (wrd (wrd (wrd (wrd T z a) (z + 4) b) (z + 8) c_) (z + 12) d)] H := hP
    have hD : va_D A [jO h0 2 [y0, y1, .ref t0, .int (nI z), y4, y5, y6, y7, y8, y9, y10, y11], jA t0 B.1 256 (wrd (wrd (wrd (wrd T z a) (z + 4) b) (z + 8) c_) (z + 12) d)] := hD
    refine lv_aload_n hx hb dX2_put_69 rfl (lv_at hl 0 rfl) ?_
    refine lv_dup hx hb dX2_put_70 rfl ?_
    refine va_get (D := D) (ci := 2) (v := .int (nI z)) (C := RX2) (T := TX2) (N := 12) hx hb hts in_X2 hown hK hP 0 rfl rfl 3 (by decide) (hts _ q311) (fun _ h9 => h9) rfl dX2_put_71 ?_
    refine lv_bipush (v := nI 16) hx hb dX2_put_74 (by decide) ?_
    refine lv_iadd hx hb dX2_put_76 ?_
    refine jas (y := nI (z + 16)) (nI_add _ _) ?_
    refine va_put (D := D) (ci := 2) (v := .int (nI (z + 16))) (ty := .int) (C := RX2) (T := TX2) (N := 12) hx hb hts in_X2 tyX2 tyX2_ok nmX2 hown hK hP hD hS 0 rfl rfl 3 (by decide) (hts _ q311) (fun _ h9 => h9) rfl (by decide +kernel) rfl rfl (Nat.le_of_ble_eq_true rfl) dX2_put_77 (fun H locs hP hD hS => ?_)
    have hP : va_P D vwCl [jO h0 2 [y0, y1, .ref t0, .int (nI (z + 16)), y4, y5, y6, y7, y8, y9, y10, y11], jA t0 B.1 256 (wrd (wrd (wrd (wrd T z a) (z + 4) b) (z + 8) c_) (z + 12) d)] H := hP
    have hD : va_D A [jO h0 2 [y0, y1, .ref t0, .int (nI (z + 16)), y4, y5, y6, y7, y8, y9, y10, y11], jA t0 B.1 256 (wrd (wrd (wrd (wrd T z a) (z + 4) b) (z + 8) c_) (z + 12) d)] := hD
    refine lv_iconst (v := nI 1) hx hb dX2_put_80 (by decide) ?_
    have e1 : putZ z = z + 16 := if_neg (by omega)
    have e2 : putT T z a b c_ d = wrd4 T z a b c_ d := if_neg (by omega)
    have e3 : putR z = nI 1 := if_neg (by omega)
    exact jiret (()) hx hb hr rfl hlk e3.symm (by rw [e1, e2]; exact hP) (by rw [e1, e2]; exact hD) hS (Nat.le_of_ble_eq_true rfl) (Nat.le_of_ble_eq_true rfl) dX2_put_81
  · refine lv_iconst (v := nI 0) hx hb dX2_put_10 (by decide) ?_
    have hz2 : 240 < z := Nat.lt_of_not_le (fun q => c_7 (nI_le q (by decide)))
    have e1 : putZ z = z := if_pos hz2
    have e2 : putT T z a b c_ d = T := if_pos hz2
    have e3 : putR z = nI 0 := if_pos hz2
    exact jiret (()) hx hb hr rfl hlk e3.symm (by rw [e1, e2]; exact hP) (by rw [e1, e2]; exact hD) hS (Nat.le_of_ble_eq_true rfl) (Nat.le_of_ble_eq_true rfl) dX2_put_11
set_option maxHeartbeats 4000000 in
set_option maxRecDepth 100000 in
/-- four(to, g, a, b, c, d) -/
theorem metX2_four (l : Launch) (D : va_G) (B : ClassId × ClassId) (sz : Nat) (t0 : Nat) (T : Nat → Int32) (g a b c_ d : Int32) : jMv l yX2_four (ws_ yX2_four cX2_four 7 none) { frames := 1, cells := 0, slots := 0, locals := 40 } D B sz [.ref t0, .int g, .int a, .int b, .int c_, .int d] [jA t0 B.1 32 T] (S := Unit) (fun _ => True) (fun u => [jA t0 B.1 32 (wrd4 T (16 * half g) a b c_ d)]) := by
  refine jStartV (by decide) (Nat.le_of_ble_eq_true rfl) ?_
  intro p e s m below meth c A H ls hx hb hr hlk hml hown hin hts hK hP hD hA hS hl
  have hown : s.vm.findClass "VmpcDeskModel" = some m.cls := hown
  have hl : lv_has ls 7 [(0, .ref t0), (1, .int g), (2, .int a), (3, .int b), (4, .int c_), (5, .int d)] := hl
  have hg := half_lt g
  refine lv_bipush (v := nI 16) hx hb dX2_four_0 (by decide) ?_
  refine lv_iload_n hx hb dX2_four_2 rfl (lv_at hl 1 rfl) ?_
  refine lv_iconst (v := nI 1) hx hb dX2_four_3 (by decide) ?_
  refine lv_iand hx hb dX2_four_4 ?_
  refine jas (y := nI (half g)) (and1 g) ?_
  refine lv_imul hx hb dX2_four_5 ?_
  refine jas (y := nI (16 * half g)) (mul16 g) ?_
  refine lv_istore (lv' := [(6, .int (nI (16 * half g))), (0, .ref t0), (1, .int g), (2, .int a), (3, .int b), (4, .int c_), (5, .int d)]) hx hb dX2_four_6 hl (by decide) rfl (fun ls hl => ?_)
  refine lv_aload_n hx hb dX2_four_8 rfl (lv_at hl 1 rfl) ?_
  refine lv_iload hx hb dX2_four_9 (lv_at hl 0 rfl) ?_
  refine lv_iload_n hx hb dX2_four_11 rfl (lv_at hl 3 rfl) ?_
  refine jcallv (ws := [jA t0 B.1 32 T]) (wc := [jA t0 B.1 32 T]) [0] rfl (by decide) (fun _ => rfl) hP hD hS hA (va_runS (As := [.ref t0, .int (nI (16 * half g)), .int a]) (rest := []) ⟨hx, hb, hml, hown, hts⟩ (metX2_put_2 l D B H.size t0 32 (16 * half g) (by omega) (by omega) (T) a) (va_cwS 3 hts (lw_S q350 q351 q11 q352) rfl rfl rfl (by decide +kernel) ⟨Nat.le_of_ble_eq_true rfl, Nat.le_of_ble_eq_true rfl⟩) (jPreS hK (hP.sub (ws' := [jA t0 B.1 32 T]) [0] rfl) (hD.sub (ws' := [jA t0 B.1 32 T]) [0] (by decide) rfl)) rfl rfl hl.1 rfl (lv_room (Nat.le_of_ble_eq_true rfl)) dX2_four_12 ⟨Nat.le_of_ble_eq_true rfl, Nat.le_of_ble_eq_true rfl⟩) (fun _ H locs hu hP hD hS => ?_)
  have hP : va_P D vwCl [jA t0 B.1 32 (wrd T (16 * half g) a)] H := hP
  have hD : va_D A [jA t0 B.1 32 (wrd T (16 * half g) a)] := hD
  refine lv_aload_n hx hb dX2_four_15 rfl (lv_at hl 1 rfl) ?_
  refine lv_iload hx hb dX2_four_16 (lv_at hl 0 rfl) ?_
  refine lv_iconst (v := nI 4) hx hb dX2_four_18 (by decide) ?_
  refine lv_iadd hx hb dX2_four_19 ?_
  refine jas (y := nI (16 * half g + 4)) (nI_add _ _) ?_
  refine lv_iload_n hx hb dX2_four_20 rfl (lv_at hl 4 rfl) ?_
  refine jcallv (ws := [jA t0 B.1 32 (wrd T (16 * half g) a)]) (wc := [jA t0 B.1 32 (wrd T (16 * half g) a)]) [0] rfl (by decide) (fun _ => rfl) hP hD hS hA (va_runS (As := [.ref t0, .int (nI (16 * half g + 4)), .int b]) (rest := []) ⟨hx, hb, hml, hown, hts⟩ (metX2_put_2 l D B H.size t0 32 (16 * half g + 4) (by omega) (by omega) (wrd T (16 * half g) a) b) (va_cwS 3 hts (lw_S q350 q351 q11 q352) rfl rfl rfl (by decide +kernel) ⟨Nat.le_of_ble_eq_true rfl, Nat.le_of_ble_eq_true rfl⟩) (jPreS hK (hP.sub (ws' := [jA t0 B.1 32 (wrd T (16 * half g) a)]) [0] rfl) (hD.sub (ws' := [jA t0 B.1 32 (wrd T (16 * half g) a)]) [0] (by decide) rfl)) rfl rfl hl.1 rfl (lv_room (Nat.le_of_ble_eq_true rfl)) dX2_four_21 ⟨Nat.le_of_ble_eq_true rfl, Nat.le_of_ble_eq_true rfl⟩) (fun _ H locs hu hP hD hS => ?_)
  have hP : va_P D vwCl [jA t0 B.1 32 (wrd (wrd T (16 * half g) a) (16 * half g + 4) b)] H := hP
  have hD : va_D A [jA t0 B.1 32 (wrd (wrd T (16 * half g) a) (16 * half g + 4) b)] := hD
  refine lv_aload_n hx hb dX2_four_24 rfl (lv_at hl 1 rfl) ?_
  refine lv_iload hx hb dX2_four_25 (lv_at hl 0 rfl) ?_
  refine lv_bipush (v := nI 8) hx hb dX2_four_27 (by decide) ?_
  refine lv_iadd hx hb dX2_four_29 ?_
  refine jas (y := nI (16 * half g + 8)) (nI_add _ _) ?_
  refine lv_iload hx hb dX2_four_30 (lv_at hl 5 rfl) ?_
  refine jcallv (ws := [jA t0 B.1 32 (wrd (wrd T (16 * half g) a) (16 * half g + 4) b)]) (wc := [jA t0 B.1 32 (wrd (wrd T (16 * half g) a) (16 * half g + 4) b)]) [0] rfl (by decide) (fun _ => rfl) hP hD hS hA (va_runS (As := [.ref t0, .int (nI (16 * half g + 8)), .int c_]) (rest := []) ⟨hx, hb, hml, hown, hts⟩ (metX2_put_2 l D B H.size t0 32 (16 * half g + 8) (by omega) (by omega) (wrd (wrd T (16 * half g) a) (16 * half g + 4) b) c_) (va_cwS 3 hts (lw_S q350 q351 q11 q352) rfl rfl rfl (by decide +kernel) ⟨Nat.le_of_ble_eq_true rfl, Nat.le_of_ble_eq_true rfl⟩) (jPreS hK (hP.sub (ws' := [jA t0 B.1 32 (wrd (wrd T (16 * half g) a) (16 * half g + 4) b)]) [0] rfl) (hD.sub (ws' := [jA t0 B.1 32 (wrd (wrd T (16 * half g) a) (16 * half g + 4) b)]) [0] (by decide) rfl)) rfl rfl hl.1 rfl (lv_room (Nat.le_of_ble_eq_true rfl)) dX2_four_32 ⟨Nat.le_of_ble_eq_true rfl, Nat.le_of_ble_eq_true rfl⟩) (fun _ H locs hu hP hD hS => ?_)
  have hP : va_P D vwCl [jA t0 B.1 32 (wrd (wrd (wrd T (16 * half g) a) (16 * half g + 4) b) (16 * half g + 8) c_)] H := hP
  have hD : va_D A [jA t0 B.1 32 (wrd (wrd (wrd T (16 * half g) a) (16 * half g + 4) b) (16 * half g + 8) c_)] := hD
  refine lv_aload_n hx hb dX2_four_35 rfl (lv_at hl 1 rfl) ?_
  refine lv_iload hx hb dX2_four_36 (lv_at hl 0 rfl) ?_
  refine lv_bipush (v := nI 12) hx hb dX2_four_38 (by decide) ?_
  refine lv_iadd hx hb dX2_four_40 ?_
  refine jas (y := nI (16 * half g + 12)) (nI_add _ _) ?_
  refine lv_iload hx hb dX2_four_41 (lv_at hl 6 rfl) ?_
  refine jcallv (ws := [jA t0 B.1 32 (wrd (wrd (wrd T (16 * half g) a) (16 * half g + 4) b) (16 * half g + 8) c_)]) (wc := [jA t0 B.1 32 (wrd (wrd (wrd T (16 * half g) a) (16 * half g + 4) b) (16 * half g + 8) c_)]) [0] rfl (by decide) (fun _ => rfl) hP hD hS hA (va_runS (As := [.ref t0, .int (nI (16 * half g + 12)), .int d]) (rest := []) ⟨hx, hb, hml, hown, hts⟩ (metX2_put_2 l D B H.size t0 32 (16 * half g + 12) (by omega) (by omega) (wrd (wrd (wrd T (16 * half g) a) (16 * half g + 4) b) (16 * half g + 8) c_) d) (va_cwS 3 hts (lw_S q350 q351 q11 q352) rfl rfl rfl (by decide +kernel) ⟨Nat.le_of_ble_eq_true rfl, Nat.le_of_ble_eq_true rfl⟩) (jPreS hK (hP.sub (ws' := [jA t0 B.1 32 (wrd (wrd (wrd T (16 * half g) a) (16 * half g + 4) b) (16 * half g + 8) c_)]) [0] rfl) (hD.sub (ws' := [jA t0 B.1 32 (wrd (wrd (wrd T (16 * half g) a) (16 * half g + 4) b) (16 * half g + 8) c_)]) [0] (by decide) rfl)) rfl rfl hl.1 rfl (lv_room (Nat.le_of_ble_eq_true rfl)) dX2_four_43 ⟨Nat.le_of_ble_eq_true rfl, Nat.le_of_ble_eq_true rfl⟩) (fun _ H locs hu hP hD hS => ?_)
  have hP : va_P D vwCl [jA t0 B.1 32 (wrd (wrd (wrd (wrd T (16 * half g) a) (16 * half g + 4) b) (16 * half g + 8) c_) (16 * half g + 12) d)] H := hP
  have hD : va_D A [jA t0 B.1 32 (wrd (wrd (wrd (wrd T (16 * half g) a) (16 * half g + 4) b) (16 * half g + 8) c_) (16 * half g + 12) d)] := hD
  exact jvret (()) hx hb hr hlk trivial hP hD hS (Nat.le_of_ble_eq_true rfl) (Nat.le_of_ble_eq_true rfl) dX2_four_46
set_option maxHeartbeats 4000000 in
set_option maxRecDepth 100000 in
/-- key(g, a, b, c, d) -/
theorem metX2_key (l : Launch) (D : va_G) (B : ClassId × ClassId) (sz : Nat) (h0 t0 : Nat) (T : Nat → Int32) (g a b c_ d : Int32) (y1 y2 y3 y4 y5 y6 y7 y8 y9 y10 y11 : Value) : jMv l yX2_key (ws_ yX2_key cX2_key 6 none) { frames := 2, cells := 0, slots := 0, locals := 80 } D B sz [.ref h0, .int g, .int a, .int b, .int c_, .int d] [jO h0 2 [.ref t0, y1, y2, y3, y4, y5, y6, y7, y8, y9, y10, y11], jA t0 B.1 32 T] (S := Unit) (fun _ => True) (fun u => [jO h0 2 [.ref t0, y1, y2, y3, y4, y5, y6, y7, y8, y9, y10, y11], jA t0 B.1 32 (wrd4 T (16 * half g) a b c_ d)]) := by
  refine jStartV (by decide) (Nat.le_of_ble_eq_true rfl) ?_
  intro p e s m below meth c A H ls hx hb hr hlk hml hown hin hts hK hP hD hA hS hl
  have hown : s.vm.findClass "VmpcDeskModel" = some m.cls := hown
  have hl : lv_has ls 6 [(0, .ref h0), (1, .int g), (2, .int a), (3, .int b), (4, .int c_), (5, .int d)] := hl
  refine lv_aload_n hx hb dX2_key_0 rfl (lv_at hl 0 rfl) ?_
  refine va_get (D := D) (ci := 2) (v := .ref t0) (C := RX2) (T := TX2) (N := 12) hx hb hts in_X2 hown hK hP 0 rfl rfl 0 (by decide) (hts _ q308) (fun _ h9 => h9) rfl dX2_key_1 ?_
  refine lv_iload_n hx hb dX2_key_4 rfl (lv_at hl 1 rfl) ?_
  refine lv_iload_n hx hb dX2_key_5 rfl (lv_at hl 2 rfl) ?_
  refine lv_iload_n hx hb dX2_key_6 rfl (lv_at hl 3 rfl) ?_
  refine lv_iload hx hb dX2_key_7 (lv_at hl 4 rfl) ?_
  refine lv_iload hx hb dX2_key_9 (lv_at hl 5 rfl) ?_
  refine jcallv (ws := [jO h0 2 [.ref t0, y1, y2, y3, y4, y5, y6, y7, y8, y9, y10, y11], jA t0 B.1 32 T]) (wc := [jA t0 B.1 32 T]) [1] rfl (by decide) (fun _ => rfl) hP hD hS hA (va_runS (As := [.ref t0, .int g, .int a, .int b, .int c_, .int d]) (rest := []) ⟨hx, hb, hml, hown, hts⟩ (metX2_four l D B H.size t0 T g a b c_ d) (va_cwS 6 hts (lw_S q366 q367 q11 q368) rfl rfl rfl (by decide +kernel) ⟨Nat.le_of_ble_eq_true rfl, Nat.le_of_ble_eq_true rfl⟩) (jPreS hK (hP.sub (ws' := [jA t0 B.1 32 T]) [1] rfl) (hD.sub (ws' := [jA t0 B.1 32 T]) [1] (by decide) rfl)) rfl rfl hl.1 rfl (lv_room (Nat.le_of_ble_eq_true rfl)) dX2_key_11 ⟨Nat.le_of_ble_eq_true rfl, Nat.le_of_ble_eq_true rfl⟩) (fun _ H locs hu hP hD hS => ?_)
  have hP : va_P D vwCl [jO h0 2 [.ref t0, y1, y2, y3, y4, y5, y6, y7, y8, y9, y10, y11], jA t0 B.1 32 (wrd4 T (16 * half g) a b c_ d)] H := hP
  have hD : va_D A [jO h0 2 [.ref t0, y1, y2, y3, y4, y5, y6, y7, y8, y9, y10, y11], jA t0 B.1 32 (wrd4 T (16 * half g) a b c_ d)] := hD
  exact jvret (()) hx hb hr hlk trivial hP hD hS (Nat.le_of_ble_eq_true rfl) (Nat.le_of_ble_eq_true rfl) dX2_key_14
set_option maxHeartbeats 4000000 in
set_option maxRecDepth 100000 in
/-- nonce(g, a, b, c, d) -/
theorem metX2_nonce (l : Launch) (D : va_G) (B : ClassId × ClassId) (sz : Nat) (h0 t0 : Nat) (T : Nat → Int32) (g a b c_ d : Int32) (y0 y2 y3 y4 y5 y6 y7 y8 y9 y10 y11 : Value) : jMv l yX2_nonce (ws_ yX2_nonce cX2_nonce 6 none) { frames := 2, cells := 0, slots := 0, locals := 80 } D B sz [.ref h0, .int g, .int a, .int b, .int c_, .int d] [jO h0 2 [y0, .ref t0, y2, y3, y4, y5, y6, y7, y8, y9, y10, y11], jA t0 B.1 32 T] (S := Unit) (fun _ => True) (fun u => [jO h0 2 [y0, .ref t0, y2, y3, y4, y5, y6, y7, y8, y9, y10, y11], jA t0 B.1 32 (wrd4 T (16 * half g) a b c_ d)]) := by
  refine jStartV (by decide) (Nat.le_of_ble_eq_true rfl) ?_
  intro p e s m below meth c A H ls hx hb hr hlk hml hown hin hts hK hP hD hA hS hl
  have hown : s.vm.findClass "VmpcDeskModel" = some m.cls := hown
  have hl : lv_has ls 6 [(0, .ref h0), (1, .int g), (2, .int a), (3, .int b), (4, .int c_), (5, .int d)] := hl
  refine lv_aload_n hx hb dX2_nonce_0 rfl (lv_at hl 0 rfl) ?_
  refine va_get (D := D) (ci := 2) (v := .ref t0) (C := RX2) (T := TX2) (N := 12) hx hb hts in_X2 hown hK hP 0 rfl rfl 1 (by decide) (hts _ q309) (fun _ h9 => h9) rfl dX2_nonce_1 ?_
  refine lv_iload_n hx hb dX2_nonce_4 rfl (lv_at hl 1 rfl) ?_
  refine lv_iload_n hx hb dX2_nonce_5 rfl (lv_at hl 2 rfl) ?_
  refine lv_iload_n hx hb dX2_nonce_6 rfl (lv_at hl 3 rfl) ?_
  refine lv_iload hx hb dX2_nonce_7 (lv_at hl 4 rfl) ?_
  refine lv_iload hx hb dX2_nonce_9 (lv_at hl 5 rfl) ?_
  refine jcallv (ws := [jO h0 2 [y0, .ref t0, y2, y3, y4, y5, y6, y7, y8, y9, y10, y11], jA t0 B.1 32 T]) (wc := [jA t0 B.1 32 T]) [1] rfl (by decide) (fun _ => rfl) hP hD hS hA (va_runS (As := [.ref t0, .int g, .int a, .int b, .int c_, .int d]) (rest := []) ⟨hx, hb, hml, hown, hts⟩ (metX2_four l D B H.size t0 T g a b c_ d) (va_cwS 6 hts (lw_S q366 q367 q11 q368) rfl rfl rfl (by decide +kernel) ⟨Nat.le_of_ble_eq_true rfl, Nat.le_of_ble_eq_true rfl⟩) (jPreS hK (hP.sub (ws' := [jA t0 B.1 32 T]) [1] rfl) (hD.sub (ws' := [jA t0 B.1 32 T]) [1] (by decide) rfl)) rfl rfl hl.1 rfl (lv_room (Nat.le_of_ble_eq_true rfl)) dX2_nonce_11 ⟨Nat.le_of_ble_eq_true rfl, Nat.le_of_ble_eq_true rfl⟩) (fun _ H locs hu hP hD hS => ?_)
  have hP : va_P D vwCl [jO h0 2 [y0, .ref t0, y2, y3, y4, y5, y6, y7, y8, y9, y10, y11], jA t0 B.1 32 (wrd4 T (16 * half g) a b c_ d)] H := hP
  have hD : va_D A [jO h0 2 [y0, .ref t0, y2, y3, y4, y5, y6, y7, y8, y9, y10, y11], jA t0 B.1 32 (wrd4 T (16 * half g) a b c_ d)] := hD
  exact jvret (()) hx hb hr hlk trivial hP hD hS (Nat.le_of_ble_eq_true rfl) (Nat.le_of_ble_eq_true rfl) dX2_nonce_14
set_option maxHeartbeats 4000000 in
set_option maxRecDepth 100000 in
/-- out(x) -/
theorem metX2_out (l : Launch) (D : va_G) (B : ClassId × ClassId) (sz : Nat) (h0 o0 n0 : Nat) (hn : n0 ≤ 256) (O_ : Nat → Int32) (x : Int32) (y0 y1 y2 y3 y5 y6 y7 y8 y9 y10 y11 : Value) : jMi l yX2_out (ws_ yX2_out cX2_out 2 (some .int)) { frames := 0, cells := 0, slots := 0, locals := 0 } D B sz [.ref h0, .int x] [jO h0 2 [y0, y1, y2, y3, .ref o0, y5, y6, y7, y8, y9, y10, y11], jA o0 B.1 n0 O_] (S := Unit) (fun r _ => r = outR O_ n0 x) (fun u => [jO h0 2 [y0, y1, y2, y3, .ref o0, y5, y6, y7, y8, y9, y10, y11], jA o0 B.1 n0 O_]) := by
  refine jStartI (by decide) (Nat.le_of_ble_eq_true rfl) ?_
  intro p e s m below meth c A H ls hx hb hr hlk hml hown hin hts hK hP hD hA hS hl
  have hown : s.vm.findClass "VmpcDeskModel" = some m.cls := hown
  have hl : lv_has ls 2 [(0, .ref h0), (1, .int x)] := hl
  refine lv_aload_n hx hb dX2_out_0 rfl (lv_at hl 0 rfl) ?_
  refine va_get (D := D) (ci := 2) (v := .ref o0) (C := RX2) (T := TX2) (N := 12) hx hb hts in_X2 hown hK hP 0 rfl rfl 4 (by decide) (hts _ q312) (fun _ h9 => h9) rfl dX2_out_1 ?_
  refine va_alen (v := nI n0) hx hb hK hP 1 0 rfl rfl rfl dX2_out_4 ?_
  refine lv_if_ne (tgt := 12) hx hb dX2_out_5 (by decide) (fun c_5 => ?_) (fun c_5 => ?_)
  · have hn0 : ¬ n0 = 0 := fun q => c_5 (by rw [q]; decide)
    have e1 : outR O_ n0 x = O_ (lo31 x % n0) &&& nI 255 := if_neg hn0
    refine lv_aload_n hx hb dX2_out_12 rfl (lv_at hl 0 rfl) ?_
    refine va_get (D := D) (ci := 2) (v := .ref o0) (C := RX2) (T := TX2) (N := 12) hx hb hts in_X2 hown hK hP 0 rfl rfl 4 (by decide) (hts _ q312) (fun _ h9 => h9) rfl dX2_out_13 ?_
    refine lv_iload_n hx hb dX2_out_16 rfl (lv_at hl 1 rfl) ?_
    refine lv_ldc (v := 2147483647) hx hb hown (hts _ q361) dX2_out_17 ?_
    refine lv_iand hx hb dX2_out_19 ?_
    refine jas (y := nI (lo31 x)) (and31 x) ?_
    refine lv_aload_n hx hb dX2_out_20 rfl (lv_at hl 0 rfl) ?_
    refine va_get (D := D) (ci := 2) (v := .ref o0) (C := RX2) (T := TX2) (N := 12) hx hb hts in_X2 hown hK hP 0 rfl rfl 4 (by decide) (hts _ q312) (fun _ h9 => h9) rfl dX2_out_21 ?_
    refine va_alen (v := nI n0) hx hb hK hP 1 0 rfl rfl rfl dX2_out_24 ?_
    refine lv_irem hx hb dX2_out_25 (nI_ne0 (by omega) (by omega)) ?_
    refine jas (y := nI (lo31 x % n0)) (rem_nI (lo31_lt x) (by omega) (by omega)) ?_
    refine jbald hx hb hK hP 1 rfl (lo31 x % n0) (Nat.mod_lt _ (by omega)) (by omega) dX2_out_26 ?_
    refine lv_sipush (v := nI 255) hx hb dX2_out_27 (by decide) ?_
    refine lv_iand hx hb dX2_out_30 ?_
    exact jiret (()) hx hb hr rfl hlk e1.symm hP hD hS (Nat.le_of_ble_eq_true rfl) (Nat.le_of_ble_eq_true rfl) dX2_out_31
  · have hn0 : n0 = 0 := (nI_eq (by omega) (by decide)).mp (c_5.trans nI_0.symm)
    have e1 : outR O_ n0 x = (-1) := if_pos hn0
    refine lv_iconst (v := (-1)) hx hb dX2_out_8 (by decide) ?_
    refine lv_goto (tgt := 31) hx hb dX2_out_9 (by decide) ?_
    exact jiret (()) hx hb hr rfl hlk e1.symm hP hD hS (Nat.le_of_ble_eq_true rfl) (Nat.le_of_ble_eq_true rfl) dX2_out_31
set_option maxHeartbeats 4000000 in
set_option maxRecDepth 100000 in
/-- changes(a, b) -/
theorem metX2_changes (l : Launch) (D : va_G) (B : ClassId × ClassId) (sz : Nat) (h0 r0 a b : Nat) (ha : a < 256) (hb_ : b < 256) (P : Nat → Nat) (y0 y1 y2 y3 y4 y5 y6 y7 y8 y10 y11 : Value) : jMv l yX2_changes (ws_ yX2_changes cX2_changes 4 none) { frames := 0, cells := 0, slots := 0, locals := 0 } D B sz [.ref h0, .int (nI a), .int (nI b)] [jO h0 2 [y0, y1, y2, y3, y4, y5, y6, y7, y8, .ref r0, y10, y11], jA r0 B.2 256 (nP P)] (S := Unit) (fun _ => True) (fun u => [jO h0 2 [y0, y1, y2, y3, y4, y5, y6, y7, y8, .ref r0, y10, y11], jA r0 B.2 256 (nP (swp P a b))]) := by
  refine jStartV (by decide) (Nat.le_of_ble_eq_true rfl) ?_
  intro p e s m below meth c A H ls hx hb hr hlk hml hown hin hts hK hP hD hA hS hl
  have hown : s.vm.findClass "VmpcDeskModel" = some m.cls := hown
  have hl : lv_has ls 4 [(0, .ref h0), (1, .int (nI a)), (2, .int (nI b))] := hl
  refine lv_aload_n hx hb dX2_changes_0 rfl (lv_at hl 0 rfl) ?_
  refine va_get (D := D) (ci := 2) (v := .ref r0) (C := RX2) (T := TX2) (N := 12) hx hb hts in_X2 hown hK hP 0 rfl rfl 9 (by decide) (hts _ q317) (fun _ h9 => h9) rfl dX2_changes_1 ?_
  refine lv_iload_n hx hb dX2_changes_4 rfl (lv_at hl 1 rfl) ?_
  refine jiald hx hb hK hP 1 rfl a ha (by decide) dX2_changes_5 ?_
  refine jas (y := nI (P a)) rfl ?_
  refine lv_istore_n (lv' := [(3, .int (nI (P a))), (0, .ref h0), (1, .int (nI a)), (2, .int (nI b))]) hx hb dX2_changes_6 rfl hl (by decide) rfl (fun ls hl => ?_)
  refine lv_aload_n hx hb dX2_changes_7 rfl (lv_at hl 1 rfl) ?_
  refine va_get (D := D) (ci := 2) (v := .ref r0) (C := RX2) (T := TX2) (N := 12) hx hb hts in_X2 hown hK hP 0 rfl rfl 9 (by decide) (hts _ q317) (fun _ h9 => h9) rfl dX2_changes_8 ?_
  refine lv_iload_n hx hb dX2_changes_11 rfl (lv_at hl 2 rfl) ?_
  refine lv_aload_n hx hb dX2_changes_12 rfl (lv_at hl 1 rfl) ?_
  refine va_get (D := D) (ci := 2) (v := .ref r0) (C := RX2) (T := TX2) (N := 12) hx hb hts in_X2 hown hK hP 0 rfl rfl 9 (by decide) (hts _ q317) (fun _ h9 => h9) rfl dX2_changes_13 ?_
  refine lv_iload_n hx hb dX2_changes_16 rfl (lv_at hl 3 rfl) ?_
  refine jiald hx hb hK hP 1 rfl b hb_ (by decide) dX2_changes_17 ?_
  refine jas (y := nI (P b)) rfl ?_
  refine jiast hx hb hK hP hD hS 1 rfl a ha (by decide) (nP (updN P a (P b))) (nP_upd _ _ _) dX2_changes_18 (fun H locs hP hD hS => ?_)
  have hP : va_P D vwCl [jO h0 2 [y0, y1, y2, y3, y4, y5, y6, y7, y8, .ref r0, y10, y11], jA r0 B.2 256 (nP (updN P a (P b)))] H := hP
  have hD : va_D A [jO h0 2 [y0, y1, y2, y3, y4, y5, y6, y7, y8, .ref r0, y10, y11], jA r0 B.2 256 (nP (updN P a (P b)))] := hD
  refine lv_aload_n hx hb dX2_changes_19 rfl (lv_at hl 1 rfl) ?_
  refine va_get (D := D) (ci := 2) (v := .ref r0) (C := RX2) (T := TX2) (N := 12) hx hb hts in_X2 hown hK hP 0 rfl rfl 9 (by decide) (hts _ q317) (fun _ h9 => h9) rfl dX2_changes_20 ?_
  refine lv_iload_n hx hb dX2_changes_23 rfl (lv_at hl 3 rfl) ?_
  refine lv_iload_n hx hb dX2_changes_24 rfl (lv_at hl 0 rfl) ?_
  refine jiast hx hb hK hP hD hS 1 rfl b hb_ (by decide) (nP (swp P a b)) (nP_upd _ _ _) dX2_changes_25 (fun H locs hP hD hS => ?_)
  have hP : va_P D vwCl [jO h0 2 [y0, y1, y2, y3, y4, y5, y6, y7, y8, .ref r0, y10, y11], jA r0 B.2 256 (nP (swp P a b))] H := hP
  have hD : va_D A [jO h0 2 [y0, y1, y2, y3, y4, y5, y6, y7, y8, .ref r0, y10, y11], jA r0 B.2 256 (nP (swp P a b))] := hD
  exact jvret (()) hx hb hr hlk trivial hP hD hS (Nat.le_of_ble_eq_true rfl) (Nat.le_of_ble_eq_true rfl) dX2_changes_26
end
section
set_option maxHeartbeats 4000000 in
set_option maxRecDepth 100000 in
theorem loopX2_stirs {p : Program} {l : Launch} {e : Env} {R : Room} {s : State} {m : MethodId} {args : Array Value} {below : List Frame} {meth : Method} {c : Code} {Q : State → Prop} {cells slots : Nat} {D : va_G} {B : ClassId × ClassId} {A : Nat → Prop} {h0 r0 b0 : Nat} {K : Nat → Int32} {y0 y1 y2 y3 y4 y5 y6 y7 y8 y11 : Value} (hx : p.tables.exec = Jvm.exec) (hb : c.code = cX2_stirs) (hml : c.maxLocals = 4) (hown : s.vm.findClass "VmpcDeskModel" = some m.cls) (hts : ∀ w ∈ lw_all, w.before args s = true) (hK : va_K D vwCl (TY B) s) (hA : ∀ q : Nat, s.heap.size ≤ q → A q) {q0 : (Nat → Nat) × Nat} (hRm : 1 ≤ R.frames ∧ 23 ≤ R.locals) (hFt : cells ≤ R.cells ∧ slots ≤ R.slots)
    (kk : ∀ (H : Heap) (locs : List Loc) (ls : Array Slot), va_P D vwCl [jO h0 2 [y0, y1, y2, y3, y4, y5, y6, y7, y8, .ref r0, .int (nI (stN (fun j => lo8 (K j)) 768 q0).2), y11], jA r0 B.2 256 (nP (stN (fun j => lo8 (K j)) 768 q0).1), jA b0 B.1 16 K] H → va_D A [jO h0 2 [y0, y1, y2, y3, y4, y5, y6, y7, y8, .ref r0, .int (nI (stN (fun j => lo8 (K j)) 768 q0).2), y11], jA r0 B.2 256 (nP (stN (fun j => lo8 (K j)) 768 q0).1), jA b0 B.1 16 K] → va_S A s.heap H locs → lv_has ls 4 [(0, .ref h0), (1, .ref b0), (2, .int (nI 768))] → W p l e R s m args below meth c H locs cells slots Q (F0 m 65 ls [])) :
    ∀ (n i : Nat) (q : (Nat → Nat) × Nat), i + n = 768 → q = stN (fun j => lo8 (K j)) i q0 → okP q.1 → q.2 < 256 → ∀ (H : Heap) (locs : List Loc) (ls : Array Slot), va_P D vwCl [jO h0 2 [y0, y1, y2, y3, y4, y5, y6, y7, y8, .ref r0, .int (nI q.2), y11], jA r0 B.2 256 (nP q.1), jA b0 B.1 16 K] H → va_D A [jO h0 2 [y0, y1, y2, y3, y4, y5, y6, y7, y8, .ref r0, .int (nI q.2), y11], jA r0 B.2 256 (nP q.1), jA b0 B.1 16 K] → va_S A s.heap H locs → lv_has ls 4 [(0, .ref h0), (1, .ref b0), (2, .int (nI i))] → W p l e R s m args below meth c H locs cells slots Q (F0 m 2 ls []) := by
  intro n
  induction n with
  | zero =>
    intro i q hi hq hq1 hq2 H locs ls hP hD hS hl
    have hi : i = 768 := by omega
    subst hi
    subst hq
    refine lv_iload_n hx hb dX2_stirs_2 rfl (lv_at hl 2 rfl) ?_
    refine lv_sipush (v := nI 768) hx hb dX2_stirs_3 (by decide) ?_
    refine lv_icmp_ge (tgt := 65) hx hb dX2_stirs_6 (by decide) (fun c_6 => ?_) (fun c_6 => ?_)
    · exact kk H locs ls hP hD hS hl
    · exact absurd (nI_le (Nat.le_refl _) (by decide)) c_6
  | succ n ih =>
    intro i q hi hq hq1 hq2 H locs ls hP hD hS hl
    refine lv_iload_n hx hb dX2_stirs_2 rfl (lv_at hl 2 rfl) ?_
    refine lv_sipush (v := nI 768) hx hb dX2_stirs_3 (by decide) ?_
    refine lv_icmp_ge (tgt := 65) hx hb dX2_stirs_6 (by decide) (fun c_6 => ?_) (fun c_6 => ?_)
    · exact absurd ((nI_leI (by decide) (by omega)).mp c_6) (by omega)
    · refine lv_iload_n hx hb dX2_stirs_9 rfl (lv_at hl 2 rfl) ?_
      refine lv_sipush (v := nI 256) hx hb dX2_stirs_10 (by decide) ?_
      refine lv_irem hx hb dX2_stirs_13 (by decide) ?_
      refine jas (y := nI (i % 256)) (rem_nI (by omega) (by decide) (by decide)) ?_
      refine lv_istore_n (lv' := [(3, .int (nI (i % 256))), (0, .ref h0), (1, .ref b0), (2, .int (nI i))]) hx hb dX2_stirs_14 rfl hl (by decide) rfl (fun ls hl => ?_)
      refine lv_aload_n hx hb dX2_stirs_15 rfl (lv_at hl 1 rfl) ?_
      refine lv_aload_n hx hb dX2_stirs_16 rfl (lv_at hl 1 rfl) ?_
      refine va_get (D := D) (ci := 2) (v := .ref r0) (C := RX2) (T := TX2) (N := 12) hx hb hts in_X2 hown hK hP 0 rfl rfl 9 (by decide) (hts _ q317) (fun _ h9 => h9) rfl dX2_stirs_17 ?_
      refine lv_aload_n hx hb dX2_stirs_20 rfl (lv_at hl 1 rfl) ?_
      refine va_get (D := D) (ci := 2) (v := .int (nI q.2)) (C := RX2) (T := TX2) (N := 12) hx hb hts in_X2 hown hK hP 0 rfl rfl 10 (by decide) (hts _ q318) (fun _ h9 => h9) rfl dX2_stirs_21 ?_
      refine lv_aload_n hx hb dX2_stirs_24 rfl (lv_at hl 1 rfl) ?_
      refine va_get (D := D) (ci := 2) (v := .ref r0) (C := RX2) (T := TX2) (N := 12) hx hb hts in_X2 hown hK hP 0 rfl rfl 9 (by decide) (hts _ q317) (fun _ h9 => h9) rfl dX2_stirs_25 ?_
      refine lv_iload_n hx hb dX2_stirs_28 rfl (lv_at hl 0 rfl) ?_
      refine jiald hx hb hK hP 1 rfl (i % 256) (Nat.mod_lt _ (by decide)) (by decide) dX2_stirs_29 ?_
      refine jas (y := nI (q.1 (i % 256))) rfl ?_
      refine lv_iadd hx hb dX2_stirs_30 ?_
      refine lv_aload_n hx hb dX2_stirs_31 rfl (lv_at hl 2 rfl) ?_
      refine lv_iload_n hx hb dX2_stirs_32 rfl (lv_at hl 3 rfl) ?_
      refine lv_bipush (v := nI 16) hx hb dX2_stirs_33 (by decide) ?_
      refine lv_irem hx hb dX2_stirs_35 (by decide) ?_
      refine jas (y := nI (i % 16)) (rem_nI (by omega) (by decide) (by decide)) ?_
      refine jbald hx hb hK hP 2 rfl (i % 16) (Nat.mod_lt _ (by decide)) (by decide) dX2_stirs_36 ?_
      refine lv_sipush (v := nI 255) hx hb dX2_stirs_37 (by decide) ?_
      refine lv_iand hx hb dX2_stirs_40 ?_
      refine jas (y := nI (lo8 (K (i % 16)))) (and255 _) ?_
      refine lv_iadd hx hb dX2_stirs_41 ?_
      refine lv_sipush (v := nI 256) hx hb dX2_stirs_42 (by decide) ?_
      refine lv_irem hx hb dX2_stirs_45 (by decide) ?_
      refine jas (y := nI ((q.2 + q.1 (i % 256) + lo8 (K (i % 16))) % 256)) (rem3 hq2 (hq1 _) _) ?_
      refine jiald hx hb hK hP 1 rfl ((q.2 + q.1 (i % 256) + lo8 (K (i % 16))) % 256) (Nat.mod_lt _ (by decide)) (by decide) dX2_stirs_46 ?_
      refine jas (y := nI (q.1 ((q.2 + q.1 (i % 256) + lo8 (K (i % 16))) % 256))) rfl ?_
      refine va_put (D := D) (ci := 2) (v := .int (nI (q.1 ((q.2 + q.1 (i % 256) + lo8 (K (i % 16))) % 256)))) (ty := .int) (C := RX2) (T := TX2) (N := 12) hx hb hts in_X2 tyX2 tyX2_ok nmX2 hown hK hP hD hS 0 rfl rfl 10 (by decide) (hts _ q318) (fun _ h9 => h9) rfl (by decide +kernel) rfl rfl (Nat.le_of_ble_eq_true rfl) dX2_stirs_47 (fun H locs hP hD hS => ?_)
      have hP : va_P D vwCl [jO h0 2 [y0, y1, y2, y3, y4, y5, y6, y7, y8, .ref r0, .int (nI (q.1 ((q.2 + q.1 (i % 256) + lo8 (K (i % 16))) % 256))), y11], jA r0 B.2 256 (nP q.1), jA b0 B.1 16 K] H := hP
      have hD : va_D A [jO h0 2 [y0, y1, y2, y3, y4, y5, y6, y7, y8, .ref r0, .int (nI (q.1 ((q.2 + q.1 (i % 256) + lo8 (K (i % 16))) % 256))), y11], jA r0 B.2 256 (nP q.1), jA b0 B.1 16 K] := hD
      refine lv_aload_n hx hb dX2_stirs_50 rfl (lv_at hl 1 rfl) ?_
      refine lv_iload_n hx hb dX2_stirs_51 rfl (lv_at hl 0 rfl) ?_
      refine lv_aload_n hx hb dX2_stirs_52 rfl (lv_at hl 1 rfl) ?_
      refine va_get (D := D) (ci := 2) (v := .int (nI (q.1 ((q.2 + q.1 (i % 256) + lo8 (K (i % 16))) % 256)))) (C := RX2) (T := TX2) (N := 12) hx hb hts in_X2 hown hK hP 0 rfl rfl 10 (by decide) (hts _ q318) (fun _ h9 => h9) rfl dX2_stirs_53 ?_
      refine jcallv (ws := [jO h0 2 [y0, y1, y2, y3, y4, y5, y6, y7, y8, .ref r0, .int (nI (q.1 ((q.2 + q.1 (i % 256) + lo8 (K (i % 16))) % 256))), y11], jA r0 B.2 256 (nP q.1), jA b0 B.1 16 K]) (wc := [jO h0 2 [y0, y1, y2, y3, y4, y5, y6, y7, y8, .ref r0, .int (nI (q.1 ((q.2 + q.1 (i % 256) + lo8 (K (i % 16))) % 256))), y11], jA r0 B.2 256 (nP q.1)]) [0, 1] rfl (by decide) (fun _ => rfl) hP hD hS hA (va_runV (C := RX2) (b := h0) (As := [.int (nI (i % 256)), .int (nI (q.1 ((q.2 + q.1 (i % 256) + lo8 (K (i % 16))) % 256)))]) (rest := []) ⟨hx, hb, hml, hown, hts⟩ (metX2_changes l D B H.size h0 r0 (i % 256) (q.1 ((q.2 + q.1 (i % 256) + lo8 (K (i % 16))) % 256)) (Nat.mod_lt _ (by decide)) (hq1 _) q.1 y0 y1 y2 y3 y4 y5 y6 y7 y8 (.int (nI (q.1 ((q.2 + q.1 (i % 256) + lo8 (K (i % 16))) % 256)))) y11) (cwV 2 hts (lw_V q385 q387 qs6 q11 q388) rfl rfl rfl (by decide +kernel) hRm) (jPreV (ci := 2) (q0 := 0) hK (hP.sub (ws' := [jO h0 2 [y0, y1, y2, y3, y4, y5, y6, y7, y8, .ref r0, .int (nI (q.1 ((q.2 + q.1 (i % 256) + lo8 (K (i % 16))) % 256))), y11], jA r0 B.2 256 (nP q.1)]) [0, 1] rfl) (hD.sub (ws' := [jO h0 2 [y0, y1, y2, y3, y4, y5, y6, y7, y8, .ref r0, .int (nI (q.1 ((q.2 + q.1 (i % 256) + lo8 (K (i % 16))) % 256))), y11], jA r0 B.2 256 (nP q.1)]) [0, 1] (by decide) rfl) rfl rfl) rfl rfl hl.1 rfl (lv_room (Nat.le_of_ble_eq_true rfl)) dX2_stirs_56 hFt) (fun _ H locs hu hP hD hS => ?_)
      have hP : va_P D vwCl [jO h0 2 [y0, y1, y2, y3, y4, y5, y6, y7, y8, .ref r0, .int (nI (q.1 ((q.2 + q.1 (i % 256) + lo8 (K (i % 16))) % 256))), y11], jA r0 B.2 256 (nP (swp q.1 (i % 256) (q.1 ((q.2 + q.1 (i % 256) + lo8 (K (i % 16))) % 256)))), jA b0 B.1 16 K] H := hP
      have hD : va_D A [jO h0 2 [y0, y1, y2, y3, y4, y5, y6, y7, y8, .ref r0, .int (nI (q.1 ((q.2 + q.1 (i % 256) + lo8 (K (i % 16))) % 256))), y11], jA r0 B.2 256 (nP (swp q.1 (i % 256) (q.1 ((q.2 + q.1 (i % 256) + lo8 (K (i % 16))) % 256)))), jA b0 B.1 16 K] := hD
      refine lv_iinc (v := nI (i + 1)) (lv' := [(2, .int (nI (i + 1))), (3, .int (nI (i % 256))), (0, .ref h0), (1, .ref b0)]) hx hb dX2_stirs_59 hl (k := 3) rfl (jinc i) (by decide) rfl (fun ls hl => ?_)
      refine lv_goto (tgt := 2) hx hb dX2_stirs_62 (by decide) ?_
      exact ih (i + 1) (st1 (fun j => lo8 (K j)) i q) (by omega) (by rw [hq]; rfl) (ok_st1 hq1).1 (ok_st1 hq1).2 H locs ls hP hD hS (lv_sub hl [2, 3, 0] rfl)
set_option maxHeartbeats 4000000 in
set_option maxRecDepth 100000 in
/-- stirs(by) -/
theorem metX2_stirs (l : Launch) (D : va_G) (B : ClassId × ClassId) (sz : Nat) (h0 r0 b0 : Nat) (K : Nat → Int32) (q0 : (Nat → Nat) × Nat) (hq1 : okP q0.1) (hq2 : q0.2 < 256) (y0 y1 y2 y3 y4 y5 y6 y7 y8 y11 : Value) : jMv l yX2_stirs (ws_ yX2_stirs cX2_stirs 4 none) { frames := 1, cells := 0, slots := 0, locals := 40 } D B sz [.ref h0, .ref b0] [jO h0 2 [y0, y1, y2, y3, y4, y5, y6, y7, y8, .ref r0, .int (nI q0.2), y11], jA r0 B.2 256 (nP q0.1), jA b0 B.1 16 K] (S := Unit) (fun _ => True) (fun u => [jO h0 2 [y0, y1, y2, y3, y4, y5, y6, y7, y8, .ref r0, .int (nI (stN (fun j => lo8 (K j)) 768 q0).2), y11], jA r0 B.2 256 (nP (stN (fun j => lo8 (K j)) 768 q0).1), jA b0 B.1 16 K]) := by
  refine jStartV (by decide) (Nat.le_of_ble_eq_true rfl) ?_
  intro p e s m below meth c A H ls hx hb hr hlk hml hown hin hts hK hP hD hA hS hl
  have hown : s.vm.findClass "VmpcDeskModel" = some m.cls := hown
  have hl : lv_has ls 4 [(0, .ref h0), (1, .ref b0)] := hl
  refine lv_iconst (v := nI 0) hx hb dX2_stirs_0 (by decide) ?_
  refine lv_istore_n (lv' := [(2, .int (nI 0)), (0, .ref h0), (1, .ref b0)]) hx hb dX2_stirs_1 rfl hl (by decide) rfl (fun ls hl => ?_)
  refine loopX2_stirs (q0 := q0) hx hb hml hown hts hK hA ⟨Nat.le_of_ble_eq_true rfl, Nat.le_of_ble_eq_true rfl⟩ ⟨Nat.le_of_ble_eq_true rfl, Nat.le_of_ble_eq_true rfl⟩ (fun H locs ls hP hD hS hl => ?_) 768 0 q0 rfl rfl hq1 hq2 H _ ls hP hD hS (lv_sub hl [1, 2, 0] rfl)
  exact jvret (()) hx hb hr hlk trivial hP hD hS (Nat.le_of_ble_eq_true rfl) (Nat.le_of_ble_eq_true rfl) dX2_stirs_65
set_option maxHeartbeats 4000000 in
set_option maxRecDepth 100000 in
theorem loopX2_fill {p : Program} {l : Launch} {e : Env} {R : Room} {s : State} {m : MethodId} {args : Array Value} {below : List Frame} {meth : Method} {c : Code} {Q : State → Prop} {cells slots : Nat} {D : va_G} {B : ClassId × ClassId} {A : Nat → Prop} {h0 r0 k0 v0 : Nat} {K L F : Nat → Int32} {y0 y1 y2 y3 y4 y5 y6 y10 y11 : Value} (hx : p.tables.exec = Jvm.exec) (hb : c.code = cX2_sets) (hml : c.maxLocals = 2) (hown : s.vm.findClass "VmpcDeskModel" = some m.cls) (hts : ∀ w ∈ lw_all, w.before args s = true) (hK : va_K D vwCl (TY B) s) (hA : ∀ q : Nat, s.heap.size ≤ q → A q) 
    (kk : ∀ (H : Heap) (locs : List Loc) (ls : Array Slot), va_P D vwCl [jO h0 2 [y0, y1, y2, y3, y4, y5, y6, .ref k0, .ref v0, .ref r0, y10, y11], jA r0 B.2 256 (fil F 256), jA k0 B.1 16 K, jA v0 B.1 16 L] H → va_D A [jO h0 2 [y0, y1, y2, y3, y4, y5, y6, .ref k0, .ref v0, .ref r0, y10, y11], jA r0 B.2 256 (fil F 256), jA k0 B.1 16 K, jA v0 B.1 16 L] → va_S A s.heap H locs → lv_has ls 2 [(0, .ref h0), (1, .int (nI 256))] → W p l e R s m args below meth c H locs cells slots Q (F0 m 22 ls [])) :
    ∀ (n i : Nat), i + n = 256 → ∀ (H : Heap) (locs : List Loc) (ls : Array Slot), va_P D vwCl [jO h0 2 [y0, y1, y2, y3, y4, y5, y6, .ref k0, .ref v0, .ref r0, y10, y11], jA r0 B.2 256 (fil F i), jA k0 B.1 16 K, jA v0 B.1 16 L] H → va_D A [jO h0 2 [y0, y1, y2, y3, y4, y5, y6, .ref k0, .ref v0, .ref r0, y10, y11], jA r0 B.2 256 (fil F i), jA k0 B.1 16 K, jA v0 B.1 16 L] → va_S A s.heap H locs → lv_has ls 2 [(0, .ref h0), (1, .int (nI i))] → W p l e R s m args below meth c H locs cells slots Q (F0 m 2 ls []) := by
  intro n
  induction n with
  | zero =>
    intro i hi H locs ls hP hD hS hl
    have hi : i = 256 := by omega
    subst hi
    refine lv_iload_n hx hb dX2_sets_2 rfl (lv_at hl 1 rfl) ?_
    refine lv_sipush (v := nI 256) hx hb dX2_sets_3 (by decide) ?_
    refine lv_icmp_ge (tgt := 22) hx hb dX2_sets_6 (by decide) (fun c_6 => ?_) (fun c_6 => ?_)
    · exact kk H locs ls hP hD hS hl
    · exact absurd (nI_le (Nat.le_refl _) (by decide)) c_6
  | succ n ih =>
    intro i hi H locs ls hP hD hS hl
    refine lv_iload_n hx hb dX2_sets_2 rfl (lv_at hl 1 rfl) ?_
    refine lv_sipush (v := nI 256) hx hb dX2_sets_3 (by decide) ?_
    refine lv_icmp_ge (tgt := 22) hx hb dX2_sets_6 (by decide) (fun c_6 => ?_) (fun c_6 => ?_)
    · exact absurd ((nI_leI (by decide) (by omega)).mp c_6) (by omega)
    · refine lv_aload_n hx hb dX2_sets_9 rfl (lv_at hl 0 rfl) ?_
      refine va_get (D := D) (ci := 2) (v := .ref r0) (C := RX2) (T := TX2) (N := 12) hx hb hts in_X2 hown hK hP 0 rfl rfl 9 (by decide) (hts _ q317) (fun _ h9 => h9) rfl dX2_sets_10 ?_
      refine lv_iload_n hx hb dX2_sets_13 rfl (lv_at hl 1 rfl) ?_
      refine lv_iload_n hx hb dX2_sets_14 rfl (lv_at hl 1 rfl) ?_
      refine jiast hx hb hK hP hD hS 1 rfl i (by omega) (by decide) (fil F (i + 1)) (fil_S F i) dX2_sets_15 (fun H locs hP hD hS => ?_)
      have hP : va_P D vwCl [jO h0 2 [y0, y1, y2, y3, y4, y5, y6, .ref k0, .ref v0, .ref r0, y10, y11], jA r0 B.2 256 (fil F (i + 1)), jA k0 B.1 16 K, jA v0 B.1 16 L] H := hP
      have hD : va_D A [jO h0 2 [y0, y1, y2, y3, y4, y5, y6, .ref k0, .ref v0, .ref r0, y10, y11], jA r0 B.2 256 (fil F (i + 1)), jA k0 B.1 16 K, jA v0 B.1 16 L] := hD
      refine lv_iinc (v := nI (i + 1)) (lv' := [(1, .int (nI (i + 1))), (0, .ref h0)]) hx hb dX2_sets_16 hl (k := 1) rfl (jinc i) (by decide) rfl (fun ls hl => ?_)
      refine lv_goto (tgt := 2) hx hb dX2_sets_19 (by decide) ?_
      exact ih (i + 1) (by omega) H locs ls hP hD hS (lv_sub hl [1, 0] rfl)
set_option maxHeartbeats 4000000 in
set_option maxRecDepth 100000 in
/-- sets() -/
theorem metX2_sets (l : Launch) (D : va_G) (B : ClassId × ClassId) (sz : Nat) (h0 r0 k0 v0 : Nat) (K L F : Nat → Int32) (y0 y1 y2 y3 y4 y5 y6 y10 y11 : Value) : jMv l yX2_sets (ws_ yX2_sets cX2_sets 2 none) { frames := 2, cells := 0, slots := 0, locals := 80 } D B sz [.ref h0] [jO h0 2 [y0, y1, y2, y3, y4, y5, y6, .ref k0, .ref v0, .ref r0, y10, y11], jA r0 B.2 256 F, jA k0 B.1 16 K, jA v0 B.1 16 L] (S := Unit) (fun _ => True) (fun u => [jO h0 2 [y0, y1, y2, y3, y4, y5, .int (nI 0), .ref k0, .ref v0, .ref r0, .int (nI (setK (fun j => lo8 (K j)) (fun j => lo8 (L j))).2), .int (nI 0)], jA r0 B.2 256 (nP (setK (fun j => lo8 (K j)) (fun j => lo8 (L j))).1), jA k0 B.1 16 K, jA v0 B.1 16 L]) := by
  refine jStartV (by decide) (Nat.le_of_ble_eq_true rfl) ?_
  intro p e s m below meth c A H ls hx hb hr hlk hml hown hin hts hK hP hD hA hS hl
  have hown : s.vm.findClass "VmpcDeskModel" = some m.cls := hown
  have hl : lv_has ls 2 [(0, .ref h0)] := hl
  refine lv_iconst (v := nI 0) hx hb dX2_sets_0 (by decide) ?_
  refine lv_istore_n (lv' := [(1, .int (nI 0)), (0, .ref h0)]) hx hb dX2_sets_1 rfl hl (by decide) rfl (fun ls hl => ?_)
  have eF : fil F 0 = F := by
    funext j
    unfold fil
    rw [if_neg (by omega)]
  have hP : va_P D vwCl [jO h0 2 [y0, y1, y2, y3, y4, y5, y6, .ref k0, .ref v0, .ref r0, y10, y11], jA r0 B.2 256 (fil F 0), jA k0 B.1 16 K, jA v0 B.1 16 L] H := by rw [eF]; exact hP
  have hD : va_D A [jO h0 2 [y0, y1, y2, y3, y4, y5, y6, .ref k0, .ref v0, .ref r0, y10, y11], jA r0 B.2 256 (fil F 0), jA k0 B.1 16 K, jA v0 B.1 16 L] := by rw [eF]; exact hD
  refine loopX2_fill hx hb hml hown hts hK hA (fun H locs ls hP hD hS hl => ?_) 256 0 rfl H _ ls hP hD hS (lv_sub hl [1, 0] rfl)
  obtain ⟨hP, hD⟩ := jcong hP hD 1 (nP (id0 256)) rfl (fun j hj => by unfold fil nP id0; rw [if_pos hj, if_pos hj])
  have hP : va_P D vwCl [jO h0 2 [y0, y1, y2, y3, y4, y5, y6, .ref k0, .ref v0, .ref r0, y10, y11], jA r0 B.2 256 (nP (id0 256)), jA k0 B.1 16 K, jA v0 B.1 16 L] H := hP
  have hD : va_D A [jO h0 2 [y0, y1, y2, y3, y4, y5, y6, .ref k0, .ref v0, .ref r0, y10, y11], jA r0 B.2 256 (nP (id0 256)), jA k0 B.1 16 K, jA v0 B.1 16 L] := hD
  refine lv_aload_n hx hb dX2_sets_22 rfl (lv_at hl 0 rfl) ?_
  refine lv_iconst (v := nI 0) hx hb dX2_sets_23 (by decide) ?_
  refine va_put (D := D) (ci := 2) (v := .int (nI 0)) (ty := .int) (C := RX2) (T := TX2) (N := 12) hx hb hts in_X2 tyX2 tyX2_ok nmX2 hown hK hP hD hS 0 rfl rfl 10 (by decide) (hts _ q318) (fun _ h9 => h9) rfl (by decide +kernel) rfl rfl (Nat.le_of_ble_eq_true rfl) dX2_sets_24 (fun H locs hP hD hS => ?_)
  have hP : va_P D vwCl [jO h0 2 [y0, y1, y2, y3, y4, y5, y6, .ref k0, .ref v0, .ref r0, .int (nI 0), y11], jA r0 B.2 256 (nP (id0 256)), jA k0 B.1 16 K, jA v0 B.1 16 L] H := hP
  have hD : va_D A [jO h0 2 [y0, y1, y2, y3, y4, y5, y6, .ref k0, .ref v0, .ref r0, .int (nI 0), y11], jA r0 B.2 256 (nP (id0 256)), jA k0 B.1 16 K, jA v0 B.1 16 L] := hD
  refine lv_aload_n hx hb dX2_sets_27 rfl (lv_at hl 0 rfl) ?_
  refine lv_iconst (v := nI 0) hx hb dX2_sets_28 (by decide) ?_
  refine va_put (D := D) (ci := 2) (v := .int (nI 0)) (ty := .int) (C := RX2) (T := TX2) (N := 12) hx hb hts in_X2 tyX2 tyX2_ok nmX2 hown hK hP hD hS 0 rfl rfl 11 (by decide) (hts _ q319) (fun _ h9 => h9) rfl (by decide +kernel) rfl rfl (Nat.le_of_ble_eq_true rfl) dX2_sets_29 (fun H locs hP hD hS => ?_)
  have hP : va_P D vwCl [jO h0 2 [y0, y1, y2, y3, y4, y5, y6, .ref k0, .ref v0, .ref r0, .int (nI 0), .int (nI 0)], jA r0 B.2 256 (nP (id0 256)), jA k0 B.1 16 K, jA v0 B.1 16 L] H := hP
  have hD : va_D A [jO h0 2 [y0, y1, y2, y3, y4, y5, y6, .ref k0, .ref v0, .ref r0, .int (nI 0), .int (nI 0)], jA r0 B.2 256 (nP (id0 256)), jA k0 B.1 16 K, jA v0 B.1 16 L] := hD
  refine lv_aload_n hx hb dX2_sets_32 rfl (lv_at hl 0 rfl) ?_
  refine lv_aload_n hx hb dX2_sets_33 rfl (lv_at hl 0 rfl) ?_
  refine va_get (D := D) (ci := 2) (v := .ref k0) (C := RX2) (T := TX2) (N := 12) hx hb hts in_X2 hown hK hP 0 rfl rfl 7 (by decide) (hts _ q315) (fun _ h9 => h9) rfl dX2_sets_34 ?_
  refine jcallv (ws := [jO h0 2 [y0, y1, y2, y3, y4, y5, y6, .ref k0, .ref v0, .ref r0, .int (nI 0), .int (nI 0)], jA r0 B.2 256 (nP (id0 256)), jA k0 B.1 16 K, jA v0 B.1 16 L]) (wc := [jO h0 2 [y0, y1, y2, y3, y4, y5, y6, .ref k0, .ref v0, .ref r0, .int (nI 0), .int (nI 0)], jA r0 B.2 256 (nP (id0 256)), jA k0 B.1 16 K]) [0, 1, 2] rfl (by decide) (fun _ => rfl) hP hD hS hA (va_runV (C := RX2) (b := h0) (As := [.ref k0]) (rest := []) ⟨hx, hb, hml, hown, hts⟩ (metX2_stirs l D B H.size h0 r0 k0 K (id0 256, 0) (okP_id0 (Nat.le_refl _)) (by decide) y0 y1 y2 y3 y4 y5 y6 (.ref k0) (.ref v0) (.int (nI 0))) (cwV 1 hts (lw_V q381 q383 qs5 q11 q384) rfl rfl rfl (by decide +kernel) ⟨Nat.le_of_ble_eq_true rfl, Nat.le_of_ble_eq_true rfl⟩) (jPreV (ci := 2) (q0 := 0) hK (hP.sub (ws' := [jO h0 2 [y0, y1, y2, y3, y4, y5, y6, .ref k0, .ref v0, .ref r0, .int (nI 0), .int (nI 0)], jA r0 B.2 256 (nP (id0 256)), jA k0 B.1 16 K]) [0, 1, 2] rfl) (hD.sub (ws' := [jO h0 2 [y0, y1, y2, y3, y4, y5, y6, .ref k0, .ref v0, .ref r0, .int (nI 0), .int (nI 0)], jA r0 B.2 256 (nP (id0 256)), jA k0 B.1 16 K]) [0, 1, 2] (by decide) rfl) rfl rfl) rfl rfl hl.1 rfl (lv_room (Nat.le_of_ble_eq_true rfl)) dX2_sets_37 ⟨Nat.le_of_ble_eq_true rfl, Nat.le_of_ble_eq_true rfl⟩) (fun _ H locs hu hP hD hS => ?_)
  have hP : va_P D vwCl [jO h0 2 [y0, y1, y2, y3, y4, y5, y6, .ref k0, .ref v0, .ref r0, .int (nI (stN (fun j => lo8 (K j)) 768 (id0 256, 0)).2), .int (nI 0)], jA r0 B.2 256 (nP (stN (fun j => lo8 (K j)) 768 (id0 256, 0)).1), jA k0 B.1 16 K, jA v0 B.1 16 L] H := hP
  have hD : va_D A [jO h0 2 [y0, y1, y2, y3, y4, y5, y6, .ref k0, .ref v0, .ref r0, .int (nI (stN (fun j => lo8 (K j)) 768 (id0 256, 0)).2), .int (nI 0)], jA r0 B.2 256 (nP (stN (fun j => lo8 (K j)) 768 (id0 256, 0)).1), jA k0 B.1 16 K, jA v0 B.1 16 L] := hD
  refine lv_aload_n hx hb dX2_sets_40 rfl (lv_at hl 0 rfl) ?_
  refine lv_aload_n hx hb dX2_sets_41 rfl (lv_at hl 0 rfl) ?_
  refine va_get (D := D) (ci := 2) (v := .ref v0) (C := RX2) (T := TX2) (N := 12) hx hb hts in_X2 hown hK hP 0 rfl rfl 8 (by decide) (hts _ q316) (fun _ h9 => h9) rfl dX2_sets_42 ?_
  have hok := ok_stN (k := (fun j => lo8 (K j))) (q := (id0 256, 0)) (okP_id0 (Nat.le_refl _)) (by decide) 768
  refine jcallv (ws := [jO h0 2 [y0, y1, y2, y3, y4, y5, y6, .ref k0, .ref v0, .ref r0, .int (nI (stN (fun j => lo8 (K j)) 768 (id0 256, 0)).2), .int (nI 0)], jA r0 B.2 256 (nP (stN (fun j => lo8 (K j)) 768 (id0 256, 0)).1), jA k0 B.1 16 K, jA v0 B.1 16 L]) (wc := [jO h0 2 [y0, y1, y2, y3, y4, y5, y6, .ref k0, .ref v0, .ref r0, .int (nI (stN (fun j => lo8 (K j)) 768 (id0 256, 0)).2), .int (nI 0)], jA r0 B.2 256 (nP (stN (fun j => lo8 (K j)) 768 (id0 256, 0)).1), jA v0 B.1 16 L]) [0, 1, 3] rfl (by decide) (fun _ => rfl) hP hD hS hA (va_runV (C := RX2) (b := h0) (As := [.ref v0]) (rest := []) ⟨hx, hb, hml, hown, hts⟩ (metX2_stirs l D B H.size h0 r0 v0 L (stN (fun j => lo8 (K j)) 768 (id0 256, 0)) hok.1 hok.2 y0 y1 y2 y3 y4 y5 y6 (.ref k0) (.ref v0) (.int (nI 0))) (cwV 1 hts (lw_V q381 q383 qs5 q11 q384) rfl rfl rfl (by decide +kernel) ⟨Nat.le_of_ble_eq_true rfl, Nat.le_of_ble_eq_true rfl⟩) (jPreV (ci := 2) (q0 := 0) hK (hP.sub (ws' := [jO h0 2 [y0, y1, y2, y3, y4, y5, y6, .ref k0, .ref v0, .ref r0, .int (nI (stN (fun j => lo8 (K j)) 768 (id0 256, 0)).2), .int (nI 0)], jA r0 B.2 256 (nP (stN (fun j => lo8 (K j)) 768 (id0 256, 0)).1), jA v0 B.1 16 L]) [0, 1, 3] rfl) (hD.sub (ws' := [jO h0 2 [y0, y1, y2, y3, y4, y5, y6, .ref k0, .ref v0, .ref r0, .int (nI (stN (fun j => lo8 (K j)) 768 (id0 256, 0)).2), .int (nI 0)], jA r0 B.2 256 (nP (stN (fun j => lo8 (K j)) 768 (id0 256, 0)).1), jA v0 B.1 16 L]) [0, 1, 3] (by decide) rfl) rfl rfl) rfl rfl hl.1 rfl (lv_room (Nat.le_of_ble_eq_true rfl)) dX2_sets_45 ⟨Nat.le_of_ble_eq_true rfl, Nat.le_of_ble_eq_true rfl⟩) (fun _ H locs hu hP hD hS => ?_)
  have hP : va_P D vwCl [jO h0 2 [y0, y1, y2, y3, y4, y5, y6, .ref k0, .ref v0, .ref r0, .int (nI (setK (fun j => lo8 (K j)) (fun j => lo8 (L j))).2), .int (nI 0)], jA r0 B.2 256 (nP (setK (fun j => lo8 (K j)) (fun j => lo8 (L j))).1), jA k0 B.1 16 K, jA v0 B.1 16 L] H := hP
  have hD : va_D A [jO h0 2 [y0, y1, y2, y3, y4, y5, y6, .ref k0, .ref v0, .ref r0, .int (nI (setK (fun j => lo8 (K j)) (fun j => lo8 (L j))).2), .int (nI 0)], jA r0 B.2 256 (nP (setK (fun j => lo8 (K j)) (fun j => lo8 (L j))).1), jA k0 B.1 16 K, jA v0 B.1 16 L] := hD
  refine lv_aload_n hx hb dX2_sets_48 rfl (lv_at hl 0 rfl) ?_
  refine lv_iconst (v := nI 0) hx hb dX2_sets_49 (by decide) ?_
  refine va_put (D := D) (ci := 2) (v := .int (nI 0)) (ty := .int) (C := RX2) (T := TX2) (N := 12) hx hb hts in_X2 tyX2 tyX2_ok nmX2 hown hK hP hD hS 0 rfl rfl 6 (by decide) (hts _ q314) (fun _ h9 => h9) rfl (by decide +kernel) rfl rfl (Nat.le_of_ble_eq_true rfl) dX2_sets_50 (fun H locs hP hD hS => ?_)
  have hP : va_P D vwCl [jO h0 2 [y0, y1, y2, y3, y4, y5, .int (nI 0), .ref k0, .ref v0, .ref r0, .int (nI (setK (fun j => lo8 (K j)) (fun j => lo8 (L j))).2), .int (nI 0)], jA r0 B.2 256 (nP (setK (fun j => lo8 (K j)) (fun j => lo8 (L j))).1), jA k0 B.1 16 K, jA v0 B.1 16 L] H := hP
  have hD : va_D A [jO h0 2 [y0, y1, y2, y3, y4, y5, .int (nI 0), .ref k0, .ref v0, .ref r0, .int (nI (setK (fun j => lo8 (K j)) (fun j => lo8 (L j))).2), .int (nI 0)], jA r0 B.2 256 (nP (setK (fun j => lo8 (K j)) (fun j => lo8 (L j))).1), jA k0 B.1 16 K, jA v0 B.1 16 L] := hD
  exact jvret (()) hx hb hr hlk trivial hP hD hS (Nat.le_of_ble_eq_true rfl) (Nat.le_of_ble_eq_true rfl) dX2_sets_53
set_option maxHeartbeats 4000000 in
set_option maxRecDepth 100000 in
/-- next() -/
theorem metX2_next (l : Launch) (D : va_G) (B : ClassId × ClassId) (sz : Nat) (h0 r0 : Nat) (q : (Nat → Nat) × Nat × Nat) (hq : okS q) (y0 y1 y2 y3 y4 y5 y6 y7 y8 : Value) : jMi l yX2_next (ws_ yX2_next cX2_next 2 (some .int)) { frames := 1, cells := 0, slots := 0, locals := 40 } D B sz [.ref h0] [jO h0 2 [y0, y1, y2, y3, y4, y5, y6, y7, y8, .ref r0, .int (nI q.2.1), .int (nI q.2.2)], jA r0 B.2 256 (nP q.1)] (S := Unit) (fun r _ => r = nI (nz q)) (fun u => [jO h0 2 [y0, y1, y2, y3, y4, y5, y6, y7, y8, .ref r0, .int (nI (nx q).2.1), .int (nI (nx q).2.2)], jA r0 B.2 256 (nP (nx q).1)]) := by
  refine jStartI (by decide) (Nat.le_of_ble_eq_true rfl) ?_
  intro p e s m below meth c A H ls hx hb hr hlk hml hown hin hts hK hP hD hA hS hl
  have hown : s.vm.findClass "VmpcDeskModel" = some m.cls := hown
  have hl : lv_has ls 2 [(0, .ref h0)] := hl
  have h1 := hq.1 q.2.2
  have h2 := hq.2.1
  have h3 := hq.2.2
  have h4 := hq.1 (q.1 (q.1 ((q.2.1 + q.1 q.2.2) % 256)))
  refine lv_aload_n hx hb dX2_next_0 rfl (lv_at hl 0 rfl) ?_
  refine lv_aload_n hx hb dX2_next_1 rfl (lv_at hl 0 rfl) ?_
  refine va_get (D := D) (ci := 2) (v := .ref r0) (C := RX2) (T := TX2) (N := 12) hx hb hts in_X2 hown hK hP 0 rfl rfl 9 (by decide) (hts _ q317) (fun _ h9 => h9) rfl dX2_next_2 ?_
  refine lv_aload_n hx hb dX2_next_5 rfl (lv_at hl 0 rfl) ?_
  refine va_get (D := D) (ci := 2) (v := .int (nI q.2.1)) (C := RX2) (T := TX2) (N := 12) hx hb hts in_X2 hown hK hP 0 rfl rfl 10 (by decide) (hts _ q318) (fun _ h9 => h9) rfl dX2_next_6 ?_
  refine lv_aload_n hx hb dX2_next_9 rfl (lv_at hl 0 rfl) ?_
  refine va_get (D := D) (ci := 2) (v := .ref r0) (C := RX2) (T := TX2) (N := 12) hx hb hts in_X2 hown hK hP 0 rfl rfl 9 (by decide) (hts _ q317) (fun _ h9 => h9) rfl dX2_next_10 ?_
  refine lv_aload_n hx hb dX2_next_13 rfl (lv_at hl 0 rfl) ?_
  refine va_get (D := D) (ci := 2) (v := .int (nI q.2.2)) (C := RX2) (T := TX2) (N := 12) hx hb hts in_X2 hown hK hP 0 rfl rfl 11 (by decide) (hts _ q319) (fun _ h9 => h9) rfl dX2_next_14 ?_
  refine jiald hx hb hK hP 1 rfl q.2.2 hq.2.2 (by decide) dX2_next_17 ?_
  refine jas (y := nI (q.1 q.2.2)) rfl ?_
  refine lv_iadd hx hb dX2_next_18 ?_
  refine jas (y := nI (q.2.1 + q.1 q.2.2)) (nI_add _ _) ?_
  refine lv_sipush (v := nI 256) hx hb dX2_next_19 (by decide) ?_
  refine lv_irem hx hb dX2_next_22 (by decide) ?_
  refine jas (y := nI ((q.2.1 + q.1 q.2.2) % 256)) (rem_nI (by omega) (by decide) (by decide)) ?_
  refine jiald hx hb hK hP 1 rfl ((q.2.1 + q.1 q.2.2) % 256) (Nat.mod_lt _ (by decide)) (by decide) dX2_next_23 ?_
  refine jas (y := nI (q.1 ((q.2.1 + q.1 q.2.2) % 256))) rfl ?_
  refine va_put (D := D) (ci := 2) (v := .int (nI (q.1 ((q.2.1 + q.1 q.2.2) % 256)))) (ty := .int) (C := RX2) (T := TX2) (N := 12) hx hb hts in_X2 tyX2 tyX2_ok nmX2 hown hK hP hD hS 0 rfl rfl 10 (by decide) (hts _ q318) (fun _ h9 => h9) rfl (by decide +kernel) rfl rfl (Nat.le_of_ble_eq_true rfl) dX2_next_24 (fun H locs hP hD hS => ?_)
  have hP : va_P D vwCl [jO h0 2 [y0, y1, y2, y3, y4, y5, y6, y7, y8, .ref r0, .int (nI (q.1 ((q.2.1 + q.1 q.2.2) % 256))), .int (nI q.2.2)], jA r0 B.2 256 (nP q.1)] H := hP
  have hD : va_D A [jO h0 2 [y0, y1, y2, y3, y4, y5, y6, y7, y8, .ref r0, .int (nI (q.1 ((q.2.1 + q.1 q.2.2) % 256))), .int (nI q.2.2)], jA r0 B.2 256 (nP q.1)] := hD
  refine lv_aload_n hx hb dX2_next_27 rfl (lv_at hl 0 rfl) ?_
  refine va_get (D := D) (ci := 2) (v := .ref r0) (C := RX2) (T := TX2) (N := 12) hx hb hts in_X2 hown hK hP 0 rfl rfl 9 (by decide) (hts _ q317) (fun _ h9 => h9) rfl dX2_next_28 ?_
  refine lv_aload_n hx hb dX2_next_31 rfl (lv_at hl 0 rfl) ?_
  refine va_get (D := D) (ci := 2) (v := .ref r0) (C := RX2) (T := TX2) (N := 12) hx hb hts in_X2 hown hK hP 0 rfl rfl 9 (by decide) (hts _ q317) (fun _ h9 => h9) rfl dX2_next_32 ?_
  refine lv_aload_n hx hb dX2_next_35 rfl (lv_at hl 0 rfl) ?_
  refine va_get (D := D) (ci := 2) (v := .ref r0) (C := RX2) (T := TX2) (N := 12) hx hb hts in_X2 hown hK hP 0 rfl rfl 9 (by decide) (hts _ q317) (fun _ h9 => h9) rfl dX2_next_36 ?_
  refine lv_aload_n hx hb dX2_next_39 rfl (lv_at hl 0 rfl) ?_
  refine va_get (D := D) (ci := 2) (v := .int (nI (q.1 ((q.2.1 + q.1 q.2.2) % 256)))) (C := RX2) (T := TX2) (N := 12) hx hb hts in_X2 hown hK hP 0 rfl rfl 10 (by decide) (hts _ q318) (fun _ h9 => h9) rfl dX2_next_40 ?_
  refine jiald hx hb hK hP 1 rfl (q.1 ((q.2.1 + q.1 q.2.2) % 256)) (hq.1 _) (by decide) dX2_next_43 ?_
  refine jas (y := nI (q.1 (q.1 ((q.2.1 + q.1 q.2.2) % 256)))) rfl ?_
  refine jiald hx hb hK hP 1 rfl (q.1 (q.1 ((q.2.1 + q.1 q.2.2) % 256))) (hq.1 _) (by decide) dX2_next_44 ?_
  refine jas (y := nI (q.1 (q.1 (q.1 ((q.2.1 + q.1 q.2.2) % 256))))) rfl ?_
  refine lv_iconst (v := nI 1) hx hb dX2_next_45 (by decide) ?_
  refine lv_iadd hx hb dX2_next_46 ?_
  refine jas (y := nI (q.1 (q.1 (q.1 ((q.2.1 + q.1 q.2.2) % 256))) + 1)) (nI_add _ _) ?_
  refine lv_sipush (v := nI 256) hx hb dX2_next_47 (by decide) ?_
  refine lv_irem hx hb dX2_next_50 (by decide) ?_
  refine jas (y := nI ((q.1 (q.1 (q.1 ((q.2.1 + q.1 q.2.2) % 256))) + 1) % 256)) (rem_nI (by omega) (by decide) (by decide)) ?_
  refine jiald hx hb hK hP 1 rfl ((q.1 (q.1 (q.1 ((q.2.1 + q.1 q.2.2) % 256))) + 1) % 256) (Nat.mod_lt _ (by decide)) (by decide) dX2_next_51 ?_
  refine jas (y := nI (nz q)) rfl ?_
  refine lv_istore_n (lv' := [(1, .int (nI (nz q))), (0, .ref h0)]) hx hb dX2_next_52 rfl hl (by decide) rfl (fun ls hl => ?_)
  refine lv_aload_n hx hb dX2_next_53 rfl (lv_at hl 1 rfl) ?_
  refine lv_aload_n hx hb dX2_next_54 rfl (lv_at hl 1 rfl) ?_
  refine va_get (D := D) (ci := 2) (v := .int (nI q.2.2)) (C := RX2) (T := TX2) (N := 12) hx hb hts in_X2 hown hK hP 0 rfl rfl 11 (by decide) (hts _ q319) (fun _ h9 => h9) rfl dX2_next_55 ?_
  refine lv_aload_n hx hb dX2_next_58 rfl (lv_at hl 1 rfl) ?_
  refine va_get (D := D) (ci := 2) (v := .int (nI (q.1 ((q.2.1 + q.1 q.2.2) % 256)))) (C := RX2) (T := TX2) (N := 12) hx hb hts in_X2 hown hK hP 0 rfl rfl 10 (by decide) (hts _ q318) (fun _ h9 => h9) rfl dX2_next_59 ?_
  refine jcallv (ws := [jO h0 2 [y0, y1, y2, y3, y4, y5, y6, y7, y8, .ref r0, .int (nI (q.1 ((q.2.1 + q.1 q.2.2) % 256))), .int (nI q.2.2)], jA r0 B.2 256 (nP q.1)]) (wc := [jO h0 2 [y0, y1, y2, y3, y4, y5, y6, y7, y8, .ref r0, .int (nI (q.1 ((q.2.1 + q.1 q.2.2) % 256))), .int (nI q.2.2)], jA r0 B.2 256 (nP q.1)]) [0, 1] rfl (by decide) (fun _ => rfl) hP hD hS hA (va_runV (C := RX2) (b := h0) (As := [.int (nI q.2.2), .int (nI (q.1 ((q.2.1 + q.1 q.2.2) % 256)))]) (rest := []) ⟨hx, hb, hml, hown, hts⟩ (metX2_changes l D B H.size h0 r0 q.2.2 (q.1 ((q.2.1 + q.1 q.2.2) % 256)) hq.2.2 (hq.1 _) q.1 y0 y1 y2 y3 y4 y5 y6 y7 y8 (.int (nI (q.1 ((q.2.1 + q.1 q.2.2) % 256)))) (.int (nI q.2.2))) (cwV 2 hts (lw_V q385 q387 qs6 q11 q388) rfl rfl rfl (by decide +kernel) ⟨Nat.le_of_ble_eq_true rfl, Nat.le_of_ble_eq_true rfl⟩) (jPreV (ci := 2) (q0 := 0) hK (hP.sub (ws' := [jO h0 2 [y0, y1, y2, y3, y4, y5, y6, y7, y8, .ref r0, .int (nI (q.1 ((q.2.1 + q.1 q.2.2) % 256))), .int (nI q.2.2)], jA r0 B.2 256 (nP q.1)]) [0, 1] rfl) (hD.sub (ws' := [jO h0 2 [y0, y1, y2, y3, y4, y5, y6, y7, y8, .ref r0, .int (nI (q.1 ((q.2.1 + q.1 q.2.2) % 256))), .int (nI q.2.2)], jA r0 B.2 256 (nP q.1)]) [0, 1] (by decide) rfl) rfl rfl) rfl rfl hl.1 rfl (lv_room (Nat.le_of_ble_eq_true rfl)) dX2_next_62 ⟨Nat.le_of_ble_eq_true rfl, Nat.le_of_ble_eq_true rfl⟩) (fun _ H locs hu hP hD hS => ?_)
  have hP : va_P D vwCl [jO h0 2 [y0, y1, y2, y3, y4, y5, y6, y7, y8, .ref r0, .int (nI (q.1 ((q.2.1 + q.1 q.2.2) % 256))), .int (nI q.2.2)], jA r0 B.2 256 (nP (swp q.1 q.2.2 (q.1 ((q.2.1 + q.1 q.2.2) % 256))))] H := hP
  have hD : va_D A [jO h0 2 [y0, y1, y2, y3, y4, y5, y6, y7, y8, .ref r0, .int (nI (q.1 ((q.2.1 + q.1 q.2.2) % 256))), .int (nI q.2.2)], jA r0 B.2 256 (nP (swp q.1 q.2.2 (q.1 ((q.2.1 + q.1 q.2.2) % 256))))] := hD
  refine lv_aload_n hx hb dX2_next_65 rfl (lv_at hl 1 rfl) ?_
  refine lv_aload_n hx hb dX2_next_66 rfl (lv_at hl 1 rfl) ?_
  refine va_get (D := D) (ci := 2) (v := .int (nI q.2.2)) (C := RX2) (T := TX2) (N := 12) hx hb hts in_X2 hown hK hP 0 rfl rfl 11 (by decide) (hts _ q319) (fun _ h9 => h9) rfl dX2_next_67 ?_
  refine lv_iconst (v := nI 1) hx hb dX2_next_70 (by decide) ?_
  refine lv_iadd hx hb dX2_next_71 ?_
  refine jas (y := nI (q.2.2 + 1)) (nI_add _ _) ?_
  refine lv_sipush (v := nI 256) hx hb dX2_next_72 (by decide) ?_
  refine lv_irem hx hb dX2_next_75 (by decide) ?_
  refine jas (y := nI ((q.2.2 + 1) % 256)) (rem_nI (by omega) (by decide) (by decide)) ?_
  refine va_put (D := D) (ci := 2) (v := .int (nI ((q.2.2 + 1) % 256))) (ty := .int) (C := RX2) (T := TX2) (N := 12) hx hb hts in_X2 tyX2 tyX2_ok nmX2 hown hK hP hD hS 0 rfl rfl 11 (by decide) (hts _ q319) (fun _ h9 => h9) rfl (by decide +kernel) rfl rfl (Nat.le_of_ble_eq_true rfl) dX2_next_76 (fun H locs hP hD hS => ?_)
  have hP : va_P D vwCl [jO h0 2 [y0, y1, y2, y3, y4, y5, y6, y7, y8, .ref r0, .int (nI (q.1 ((q.2.1 + q.1 q.2.2) % 256))), .int (nI ((q.2.2 + 1) % 256))], jA r0 B.2 256 (nP (swp q.1 q.2.2 (q.1 ((q.2.1 + q.1 q.2.2) % 256))))] H := hP
  have hD : va_D A [jO h0 2 [y0, y1, y2, y3, y4, y5, y6, y7, y8, .ref r0, .int (nI (q.1 ((q.2.1 + q.1 q.2.2) % 256))), .int (nI ((q.2.2 + 1) % 256))], jA r0 B.2 256 (nP (swp q.1 q.2.2 (q.1 ((q.2.1 + q.1 q.2.2) % 256))))] := hD
  refine lv_iload_n hx hb dX2_next_79 rfl (lv_at hl 0 rfl) ?_
  exact jiret (()) hx hb hr rfl hlk rfl hP hD hS (Nat.le_of_ble_eq_true rfl) (Nat.le_of_ble_eq_true rfl) dX2_next_80
set_option maxHeartbeats 4000000 in
set_option maxRecDepth 100000 in
theorem loopX2_begin {p : Program} {l : Launch} {e : Env} {R : Room} {s : State} {m : MethodId} {args : Array Value} {below : List Frame} {meth : Method} {c : Code} {Q : State → Prop} {cells slots : Nat} {D : va_G} {B : ClassId × ClassId} {A : Nat → Prop} {h0 g0 n0 r0 k0 v0 : Nat} {K L K0 L0 F : Nat → Int32} {y2 y3 y4 y5 y6 y10 y11 : Value} (hx : p.tables.exec = Jvm.exec) (hb : c.code = cX2_begin) (hml : c.maxLocals = 3) (hown : s.vm.findClass "VmpcDeskModel" = some m.cls) (hts : ∀ w ∈ lw_all, w.before args s = true) (hK : va_K D vwCl (TY B) s) (hA : ∀ q : Nat, s.heap.size ≤ q → A q) 
    (kk : ∀ (H : Heap) (locs : List Loc) (ls : Array Slot), va_P D vwCl [jO h0 2 [.ref g0, .ref n0, y2, y3, y4, y5, y6, .ref k0, .ref v0, .ref r0, y10, y11], jA g0 B.1 32 K, jA n0 B.1 32 L, jA k0 B.1 16 (cpB K K0 16), jA v0 B.1 16 (cpB L L0 16), jA r0 B.2 256 F] H → va_D A [jO h0 2 [.ref g0, .ref n0, y2, y3, y4, y5, y6, .ref k0, .ref v0, .ref r0, y10, y11], jA g0 B.1 32 K, jA n0 B.1 32 L, jA k0 B.1 16 (cpB K K0 16), jA v0 B.1 16 (cpB L L0 16), jA r0 B.2 256 F] → va_S A s.heap H locs → lv_has ls 3 [(0, .ref h0), (2, .int (nI 16))] → W p l e R s m args below meth c H locs cells slots Q (F0 m 38 ls [])) :
    ∀ (n i : Nat), i + n = 16 → ∀ (H : Heap) (locs : List Loc) (ls : Array Slot), va_P D vwCl [jO h0 2 [.ref g0, .ref n0, y2, y3, y4, y5, y6, .ref k0, .ref v0, .ref r0, y10, y11], jA g0 B.1 32 K, jA n0 B.1 32 L, jA k0 B.1 16 (cpB K K0 i), jA v0 B.1 16 (cpB L L0 i), jA r0 B.2 256 F] H → va_D A [jO h0 2 [.ref g0, .ref n0, y2, y3, y4, y5, y6, .ref k0, .ref v0, .ref r0, y10, y11], jA g0 B.1 32 K, jA n0 B.1 32 L, jA k0 B.1 16 (cpB K K0 i), jA v0 B.1 16 (cpB L L0 i), jA r0 B.2 256 F] → va_S A s.heap H locs → lv_has ls 3 [(0, .ref h0), (2, .int (nI i))] → W p l e R s m args below meth c H locs cells slots Q (F0 m 2 ls []) := by
  intro n
  induction n with
  | zero =>
    intro i hi H locs ls hP hD hS hl
    have hi : i = 16 := by omega
    subst hi
    refine lv_iload_n hx hb dX2_begin_2 rfl (lv_at hl 1 rfl) ?_
    refine lv_bipush (v := nI 16) hx hb dX2_begin_3 (by decide) ?_
    refine lv_icmp_ge (tgt := 38) hx hb dX2_begin_5 (by decide) (fun c_5 => ?_) (fun c_5 => ?_)
    · exact kk H locs ls hP hD hS hl
    · exact absurd (nI_le (Nat.le_refl _) (by decide)) c_5
  | succ n ih =>
    intro i hi H locs ls hP hD hS hl
    refine lv_iload_n hx hb dX2_begin_2 rfl (lv_at hl 1 rfl) ?_
    refine lv_bipush (v := nI 16) hx hb dX2_begin_3 (by decide) ?_
    refine lv_icmp_ge (tgt := 38) hx hb dX2_begin_5 (by decide) (fun c_5 => ?_) (fun c_5 => ?_)
    · exact absurd ((nI_leI (by decide) (by omega)).mp c_5) (by omega)
    · refine lv_aload_n hx hb dX2_begin_8 rfl (lv_at hl 0 rfl) ?_
      refine va_get (D := D) (ci := 2) (v := .ref k0) (C := RX2) (T := TX2) (N := 12) hx hb hts in_X2 hown hK hP 0 rfl rfl 7 (by decide) (hts _ q315) (fun _ h9 => h9) rfl dX2_begin_9 ?_
      refine lv_iload_n hx hb dX2_begin_12 rfl (lv_at hl 1 rfl) ?_
      refine lv_aload_n hx hb dX2_begin_13 rfl (lv_at hl 0 rfl) ?_
      refine va_get (D := D) (ci := 2) (v := .ref g0) (C := RX2) (T := TX2) (N := 12) hx hb hts in_X2 hown hK hP 0 rfl rfl 0 (by decide) (hts _ q308) (fun _ h9 => h9) rfl dX2_begin_14 ?_
      refine lv_iload_n hx hb dX2_begin_17 rfl (lv_at hl 1 rfl) ?_
      refine jbald hx hb hK hP 1 rfl i (by omega) (by decide) dX2_begin_18 ?_
      refine jbast hx hb hK hP hD hS 3 rfl i (by omega) (by decide) (cpB K K0 (i + 1)) (by rw [vb_nar]; exact cpB_S K K0 i) dX2_begin_19 (fun H locs hP hD hS => ?_)
      have hP : va_P D vwCl [jO h0 2 [.ref g0, .ref n0, y2, y3, y4, y5, y6, .ref k0, .ref v0, .ref r0, y10, y11], jA g0 B.1 32 K, jA n0 B.1 32 L, jA k0 B.1 16 (cpB K K0 (i + 1)), jA v0 B.1 16 (cpB L L0 i), jA r0 B.2 256 F] H := hP
      have hD : va_D A [jO h0 2 [.ref g0, .ref n0, y2, y3, y4, y5, y6, .ref k0, .ref v0, .ref r0, y10, y11], jA g0 B.1 32 K, jA n0 B.1 32 L, jA k0 B.1 16 (cpB K K0 (i + 1)), jA v0 B.1 16 (cpB L L0 i), jA r0 B.2 256 F] := hD
      refine lv_aload_n hx hb dX2_begin_20 rfl (lv_at hl 0 rfl) ?_
      refine va_get (D := D) (ci := 2) (v := .ref v0) (C := RX2) (T := TX2) (N := 12) hx hb hts in_X2 hown hK hP 0 rfl rfl 8 (by decide) (hts _ q316) (fun _ h9 => h9) rfl dX2_begin_21 ?_
      refine lv_iload_n hx hb dX2_begin_24 rfl (lv_at hl 1 rfl) ?_
      refine lv_aload_n hx hb dX2_begin_25 rfl (lv_at hl 0 rfl) ?_
      refine va_get (D := D) (ci := 2) (v := .ref n0) (C := RX2) (T := TX2) (N := 12) hx hb hts in_X2 hown hK hP 0 rfl rfl 1 (by decide) (hts _ q309) (fun _ h9 => h9) rfl dX2_begin_26 ?_
      refine lv_iload_n hx hb dX2_begin_29 rfl (lv_at hl 1 rfl) ?_
      refine jbald hx hb hK hP 2 rfl i (by omega) (by decide) dX2_begin_30 ?_
      refine jbast hx hb hK hP hD hS 4 rfl i (by omega) (by decide) (cpB L L0 (i + 1)) (by rw [vb_nar]; exact cpB_S L L0 i) dX2_begin_31 (fun H locs hP hD hS => ?_)
      have hP : va_P D vwCl [jO h0 2 [.ref g0, .ref n0, y2, y3, y4, y5, y6, .ref k0, .ref v0, .ref r0, y10, y11], jA g0 B.1 32 K, jA n0 B.1 32 L, jA k0 B.1 16 (cpB K K0 (i + 1)), jA v0 B.1 16 (cpB L L0 (i + 1)), jA r0 B.2 256 F] H := hP
      have hD : va_D A [jO h0 2 [.ref g0, .ref n0, y2, y3, y4, y5, y6, .ref k0, .ref v0, .ref r0, y10, y11], jA g0 B.1 32 K, jA n0 B.1 32 L, jA k0 B.1 16 (cpB K K0 (i + 1)), jA v0 B.1 16 (cpB L L0 (i + 1)), jA r0 B.2 256 F] := hD
      refine lv_iinc (v := nI (i + 1)) (lv' := [(2, .int (nI (i + 1))), (0, .ref h0)]) hx hb dX2_begin_32 hl (k := 1) rfl (jinc i) (by decide) rfl (fun ls hl => ?_)
      refine lv_goto (tgt := 2) hx hb dX2_begin_35 (by decide) ?_
      exact ih (i + 1) (by omega) H locs ls hP hD hS (lv_sub hl [1, 0] rfl)
set_option maxHeartbeats 4000000 in
set_option maxRecDepth 100000 in
/-- begin(x) -/
theorem metX2_begin (l : Launch) (D : va_G) (B : ClassId × ClassId) (sz : Nat) (h0 g0 n0 r0 k0 v0 : Nat) (K L K0 L0 F : Nat → Int32) (x : Int32) (y2 y3 y4 y5 y6 y10 y11 : Value) : jMv l yX2_begin (ws_ yX2_begin cX2_begin 3 none) { frames := 3, cells := 0, slots := 0, locals := 120 } D B sz [.ref h0, .int x] [jO h0 2 [.ref g0, .ref n0, y2, y3, y4, y5, y6, .ref k0, .ref v0, .ref r0, y10, y11], jA g0 B.1 32 K, jA n0 B.1 32 L, jA k0 B.1 16 K0, jA v0 B.1 16 L0, jA r0 B.2 256 F] (S := Unit) (fun _ => True) (fun u => [jO h0 2 [.ref g0, .ref n0, y2, y3, y4, .int (nI 1), .int (nI 0), .ref k0, .ref v0, .ref r0, .int (nI (setK (fun j => lo8 (cpB K K0 16 j)) (fun j => lo8 (cpB L L0 16 j))).2), .int (nI 0)], jA g0 B.1 32 K, jA n0 B.1 32 L, jA k0 B.1 16 (cpB K K0 16), jA v0 B.1 16 (cpB L L0 16), jA r0 B.2 256 (nP (setK (fun j => lo8 (cpB K K0 16 j)) (fun j => lo8 (cpB L L0 16 j))).1)]) := by
  refine jStartV (by decide) (Nat.le_of_ble_eq_true rfl) ?_
  intro p e s m below meth c A H ls hx hb hr hlk hml hown hin hts hK hP hD hA hS hl
  have hown : s.vm.findClass "VmpcDeskModel" = some m.cls := hown
  have hl : lv_has ls 3 [(0, .ref h0), (1, .int x)] := hl
  refine lv_iconst (v := nI 0) hx hb dX2_begin_0 (by decide) ?_
  refine lv_istore_n (lv' := [(2, .int (nI 0)), (0, .ref h0), (1, .int x)]) hx hb dX2_begin_1 rfl hl (by decide) rfl (fun ls hl => ?_)
  have hP : va_P D vwCl [jO h0 2 [.ref g0, .ref n0, y2, y3, y4, y5, y6, .ref k0, .ref v0, .ref r0, y10, y11], jA g0 B.1 32 K, jA n0 B.1 32 L, jA k0 B.1 16 (cpB K K0 0), jA v0 B.1 16 (cpB L L0 0), jA r0 B.2 256 F] H := by rw [cpB_0, cpB_0]; exact hP
  have hD : va_D A [jO h0 2 [.ref g0, .ref n0, y2, y3, y4, y5, y6, .ref k0, .ref v0, .ref r0, y10, y11], jA g0 B.1 32 K, jA n0 B.1 32 L, jA k0 B.1 16 (cpB K K0 0), jA v0 B.1 16 (cpB L L0 0), jA r0 B.2 256 F] := by rw [cpB_0, cpB_0]; exact hD
  refine loopX2_begin hx hb hml hown hts hK hA (fun H locs ls hP hD hS hl => ?_) 16 0 rfl H _ ls hP hD hS (lv_sub hl [1, 0] rfl)
  refine lv_aload_n hx hb dX2_begin_38 rfl (lv_at hl 0 rfl) ?_
  refine lv_iconst (v := nI 1) hx hb dX2_begin_39 (by decide) ?_
  refine va_put (D := D) (ci := 2) (v := .int (nI 1)) (ty := .boolean) (C := RX2) (T := TX2) (N := 12) hx hb hts in_X2 tyX2 tyX2_ok nmX2 hown hK hP hD hS 0 rfl rfl 5 (by decide) (hts _ q313) (fun _ h9 => h9) rfl (by decide +kernel) rfl rfl (Nat.le_of_ble_eq_true rfl) dX2_begin_40 (fun H locs hP hD hS => ?_)
  have hP : va_P D vwCl [jO h0 2 [.ref g0, .ref n0, y2, y3, y4, .int (nI 1), y6, .ref k0, .ref v0, .ref r0, y10, y11], jA g0 B.1 32 K, jA n0 B.1 32 L, jA k0 B.1 16 (cpB K K0 16), jA v0 B.1 16 (cpB L L0 16), jA r0 B.2 256 F] H := hP
  have hD : va_D A [jO h0 2 [.ref g0, .ref n0, y2, y3, y4, .int (nI 1), y6, .ref k0, .ref v0, .ref r0, y10, y11], jA g0 B.1 32 K, jA n0 B.1 32 L, jA k0 B.1 16 (cpB K K0 16), jA v0 B.1 16 (cpB L L0 16), jA r0 B.2 256 F] := hD
  refine lv_aload_n hx hb dX2_begin_43 rfl (lv_at hl 0 rfl) ?_
  refine jcallv (ws := [jO h0 2 [.ref g0, .ref n0, y2, y3, y4, .int (nI 1), y6, .ref k0, .ref v0, .ref r0, y10, y11], jA g0 B.1 32 K, jA n0 B.1 32 L, jA k0 B.1 16 (cpB K K0 16), jA v0 B.1 16 (cpB L L0 16), jA r0 B.2 256 F]) (wc := [jO h0 2 [.ref g0, .ref n0, y2, y3, y4, .int (nI 1), y6, .ref k0, .ref v0, .ref r0, y10, y11], jA r0 B.2 256 F, jA k0 B.1 16 (cpB K K0 16), jA v0 B.1 16 (cpB L L0 16)]) [0, 5, 3, 4] rfl (by decide) (fun _ => rfl) hP hD hS hA (va_runV (C := RX2) (b := h0) (As := []) (rest := []) ⟨hx, hb, hml, hown, hts⟩ (metX2_sets l D B H.size h0 r0 k0 v0 (cpB K K0 16) (cpB L L0 16) F (.ref g0) (.ref n0) y2 y3 y4 (.int (nI 1)) y6 y10 y11) (cwV 0 hts (lw_V q377 q379 qs4 q11 q380) rfl rfl rfl (by decide +kernel) ⟨Nat.le_of_ble_eq_true rfl, Nat.le_of_ble_eq_true rfl⟩) (jPreV (ci := 2) (q0 := 0) hK (hP.sub (ws' := [jO h0 2 [.ref g0, .ref n0, y2, y3, y4, .int (nI 1), y6, .ref k0, .ref v0, .ref r0, y10, y11], jA r0 B.2 256 F, jA k0 B.1 16 (cpB K K0 16), jA v0 B.1 16 (cpB L L0 16)]) [0, 5, 3, 4] rfl) (hD.sub (ws' := [jO h0 2 [.ref g0, .ref n0, y2, y3, y4, .int (nI 1), y6, .ref k0, .ref v0, .ref r0, y10, y11], jA r0 B.2 256 F, jA k0 B.1 16 (cpB K K0 16), jA v0 B.1 16 (cpB L L0 16)]) [0, 5, 3, 4] (by decide) rfl) rfl rfl) rfl rfl hl.1 rfl (lv_room (Nat.le_of_ble_eq_true rfl)) dX2_begin_44 ⟨Nat.le_of_ble_eq_true rfl, Nat.le_of_ble_eq_true rfl⟩) (fun _ H locs hu hP hD hS => ?_)
  have hP : va_P D vwCl [jO h0 2 [.ref g0, .ref n0, y2, y3, y4, .int (nI 1), .int (nI 0), .ref k0, .ref v0, .ref r0, .int (nI (setK (fun j => lo8 (cpB K K0 16 j)) (fun j => lo8 (cpB L L0 16 j))).2), .int (nI 0)], jA g0 B.1 32 K, jA n0 B.1 32 L, jA k0 B.1 16 (cpB K K0 16), jA v0 B.1 16 (cpB L L0 16), jA r0 B.2 256 (nP (setK (fun j => lo8 (cpB K K0 16 j)) (fun j => lo8 (cpB L L0 16 j))).1)] H := hP
  have hD : va_D A [jO h0 2 [.ref g0, .ref n0, y2, y3, y4, .int (nI 1), .int (nI 0), .ref k0, .ref v0, .ref r0, .int (nI (setK (fun j => lo8 (cpB K K0 16 j)) (fun j => lo8 (cpB L L0 16 j))).2), .int (nI 0)], jA g0 B.1 32 K, jA n0 B.1 32 L, jA k0 B.1 16 (cpB K K0 16), jA v0 B.1 16 (cpB L L0 16), jA r0 B.2 256 (nP (setK (fun j => lo8 (cpB K K0 16 j)) (fun j => lo8 (cpB L L0 16 j))).1)] := hD
  exact jvret (()) hx hb hr hlk trivial hP hD hS (Nat.le_of_ble_eq_true rfl) (Nat.le_of_ble_eq_true rfl) dX2_begin_47
set_option maxHeartbeats 4000000 in
set_option maxRecDepth 100000 in
/-- again(), not begun -/
theorem metX2_again_no (l : Launch) (D : va_G) (B : ClassId × ClassId) (sz : Nat) (h0 : Nat) (y0 y1 y2 y3 y4 y6 y7 y8 y9 y10 y11 : Value) : jMv l yX2_again (ws_ yX2_again cX2_again 1 none) { frames := 3, cells := 0, slots := 0, locals := 120 } D B sz [.ref h0] [jO h0 2 [y0, y1, y2, y3, y4, .int (nI 0), y6, y7, y8, y9, y10, y11]] (S := Unit) (fun _ => True) (fun u => [jO h0 2 [y0, y1, y2, y3, y4, .int (nI 0), y6, y7, y8, y9, y10, y11]]) := by
  refine jStartV (by decide) (Nat.le_of_ble_eq_true rfl) ?_
  intro p e s m below meth c A H ls hx hb hr hlk hml hown hin hts hK hP hD hA hS hl
  have hown : s.vm.findClass "VmpcDeskModel" = some m.cls := hown
  have hl : lv_has ls 1 [(0, .ref h0)] := hl
  refine lv_aload_n hx hb dX2_again_0 rfl (lv_at hl 0 rfl) ?_
  refine va_get (D := D) (ci := 2) (v := .int (nI 0)) (C := RX2) (T := TX2) (N := 12) hx hb hts in_X2 hown hK hP 0 rfl rfl 5 (by decide) (hts _ q313) (fun _ h9 => h9) rfl dX2_again_1 ?_
  refine lv_if_eq (tgt := 11) hx hb dX2_again_4 (by decide) (fun c_4 => ?_) (fun c_4 => ?_)
  · exact jvret (()) hx hb hr hlk trivial hP hD hS (Nat.le_of_ble_eq_true rfl) (Nat.le_of_ble_eq_true rfl) dX2_again_11
  · exact absurd nI_0 c_4
set_option maxHeartbeats 4000000 in
set_option maxRecDepth 100000 in
/-- again() -/
theorem metX2_again_ok (l : Launch) (D : va_G) (B : ClassId × ClassId) (sz : Nat) (h0 r0 k0 v0 : Nat) (K L F : Nat → Int32) (y0 y1 y2 y3 y4 y6 y10 y11 : Value) : jMv l yX2_again (ws_ yX2_again cX2_again 1 none) { frames := 3, cells := 0, slots := 0, locals := 120 } D B sz [.ref h0] [jO h0 2 [y0, y1, y2, y3, y4, .int (nI 1), y6, .ref k0, .ref v0, .ref r0, y10, y11], jA r0 B.2 256 F, jA k0 B.1 16 K, jA v0 B.1 16 L] (S := Unit) (fun _ => True) (fun u => [jO h0 2 [y0, y1, y2, y3, y4, .int (nI 1), .int (nI 0), .ref k0, .ref v0, .ref r0, .int (nI (setK (fun j => lo8 (K j)) (fun j => lo8 (L j))).2), .int (nI 0)], jA r0 B.2 256 (nP (setK (fun j => lo8 (K j)) (fun j => lo8 (L j))).1), jA k0 B.1 16 K, jA v0 B.1 16 L]) := by
  refine jStartV (by decide) (Nat.le_of_ble_eq_true rfl) ?_
  intro p e s m below meth c A H ls hx hb hr hlk hml hown hin hts hK hP hD hA hS hl
  have hown : s.vm.findClass "VmpcDeskModel" = some m.cls := hown
  have hl : lv_has ls 1 [(0, .ref h0)] := hl
  refine lv_aload_n hx hb dX2_again_0 rfl (lv_at hl 0 rfl) ?_
  refine va_get (D := D) (ci := 2) (v := .int (nI 1)) (C := RX2) (T := TX2) (N := 12) hx hb hts in_X2 hown hK hP 0 rfl rfl 5 (by decide) (hts _ q313) (fun _ h9 => h9) rfl dX2_again_1 ?_
  refine lv_if_eq (tgt := 11) hx hb dX2_again_4 (by decide) (fun c_4 => ?_) (fun c_4 => ?_)
  · exact absurd c_4 (by decide)
  · refine lv_aload_n hx hb dX2_again_7 rfl (lv_at hl 0 rfl) ?_
    refine jcallv (ws := [jO h0 2 [y0, y1, y2, y3, y4, .int (nI 1), y6, .ref k0, .ref v0, .ref r0, y10, y11], jA r0 B.2 256 F, jA k0 B.1 16 K, jA v0 B.1 16 L]) (wc := [jO h0 2 [y0, y1, y2, y3, y4, .int (nI 1), y6, .ref k0, .ref v0, .ref r0, y10, y11], jA r0 B.2 256 F, jA k0 B.1 16 K, jA v0 B.1 16 L]) [0, 1, 2, 3] rfl (by decide) (fun _ => rfl) hP hD hS hA (va_runV (C := RX2) (b := h0) (As := []) (rest := []) ⟨hx, hb, hml, hown, hts⟩ (metX2_sets l D B H.size h0 r0 k0 v0 K L F y0 y1 y2 y3 y4 (.int (nI 1)) y6 y10 y11) (cwV 0 hts (lw_V q377 q379 qs4 q11 q380) rfl rfl rfl (by decide +kernel) ⟨Nat.le_of_ble_eq_true rfl, Nat.le_of_ble_eq_true rfl⟩) (jPreV (ci := 2) (q0 := 0) hK (hP.sub (ws' := [jO h0 2 [y0, y1, y2, y3, y4, .int (nI 1), y6, .ref k0, .ref v0, .ref r0, y10, y11], jA r0 B.2 256 F, jA k0 B.1 16 K, jA v0 B.1 16 L]) [0, 1, 2, 3] rfl) (hD.sub (ws' := [jO h0 2 [y0, y1, y2, y3, y4, .int (nI 1), y6, .ref k0, .ref v0, .ref r0, y10, y11], jA r0 B.2 256 F, jA k0 B.1 16 K, jA v0 B.1 16 L]) [0, 1, 2, 3] (by decide) rfl) rfl rfl) rfl rfl hl.1 rfl (lv_room (Nat.le_of_ble_eq_true rfl)) dX2_again_8 ⟨Nat.le_of_ble_eq_true rfl, Nat.le_of_ble_eq_true rfl⟩) (fun _ H locs hu hP hD hS => ?_)
    have hP : va_P D vwCl [jO h0 2 [y0, y1, y2, y3, y4, .int (nI 1), .int (nI 0), .ref k0, .ref v0, .ref r0, .int (nI (setK (fun j => lo8 (K j)) (fun j => lo8 (L j))).2), .int (nI 0)], jA r0 B.2 256 (nP (setK (fun j => lo8 (K j)) (fun j => lo8 (L j))).1), jA k0 B.1 16 K, jA v0 B.1 16 L] H := hP
    have hD : va_D A [jO h0 2 [y0, y1, y2, y3, y4, .int (nI 1), .int (nI 0), .ref k0, .ref v0, .ref r0, .int (nI (setK (fun j => lo8 (K j)) (fun j => lo8 (L j))).2), .int (nI 0)], jA r0 B.2 256 (nP (setK (fun j => lo8 (K j)) (fun j => lo8 (L j))).1), jA k0 B.1 16 K, jA v0 B.1 16 L] := hD
    exact jvret (()) hx hb hr hlk trivial hP hD hS (Nat.le_of_ble_eq_true rfl) (Nat.le_of_ble_eq_true rfl) dX2_again_11
set_option maxHeartbeats 4000000 in
set_option maxRecDepth 100000 in
/-- one(b), not begun -/
theorem metX2_one_no (l : Launch) (D : va_G) (B : ClassId × ClassId) (sz : Nat) (h0 : Nat) (b : Int32) (y0 y1 y2 y3 y4 y6 y7 y8 y9 y10 y11 : Value) : jMi l yX2_one (ws_ yX2_one cX2_one 2 (some .int)) { frames := 2, cells := 0, slots := 0, locals := 80 } D B sz [.ref h0, .int b] [jO h0 2 [y0, y1, y2, y3, y4, .int (nI 0), y6, y7, y8, y9, y10, y11]] (S := Unit) (fun r _ => r = (-1)) (fun u => [jO h0 2 [y0, y1, y2, y3, y4, .int (nI 0), y6, y7, y8, y9, y10, y11]]) := by
  refine jStartI (by decide) (Nat.le_of_ble_eq_true rfl) ?_
  intro p e s m below meth c A H ls hx hb hr hlk hml hown hin hts hK hP hD hA hS hl
  have hown : s.vm.findClass "VmpcDeskModel" = some m.cls := hown
  have hl : lv_has ls 2 [(0, .ref h0), (1, .int b)] := hl
  refine lv_aload_n hx hb dX2_one_0 rfl (lv_at hl 0 rfl) ?_
  refine va_get (D := D) (ci := 2) (v := .int (nI 0)) (C := RX2) (T := TX2) (N := 12) hx hb hts in_X2 hown hK hP 0 rfl rfl 5 (by decide) (hts _ q313) (fun _ h9 => h9) rfl dX2_one_1 ?_
  refine lv_if_ne (tgt := 9) hx hb dX2_one_4 (by decide) (fun c_4 => ?_) (fun c_4 => ?_)
  · exact absurd nI_0 c_4
  · refine lv_iconst (v := (-1)) hx hb dX2_one_7 (by decide) ?_
    exact jiret (()) hx hb hr rfl hlk rfl hP hD hS (Nat.le_of_ble_eq_true rfl) (Nat.le_of_ble_eq_true rfl) dX2_one_8
set_option maxHeartbeats 4000000 in
set_option maxRecDepth 100000 in
/-- one(b), all given -/
theorem metX2_one_full (l : Launch) (D : va_G) (B : ClassId × ClassId) (sz : Nat) (h0 g : Nat) (hg : 1024 ≤ g) (hg2 : g ≤ 2048) (b : Int32) (y0 y1 y2 y3 y4 y7 y8 y9 y10 y11 : Value) : jMi l yX2_one (ws_ yX2_one cX2_one 2 (some .int)) { frames := 2, cells := 0, slots := 0, locals := 80 } D B sz [.ref h0, .int b] [jO h0 2 [y0, y1, y2, y3, y4, .int (nI 1), .int (nI g), y7, y8, y9, y10, y11]] (S := Unit) (fun r _ => r = (-2)) (fun u => [jO h0 2 [y0, y1, y2, y3, y4, .int (nI 1), .int (nI g), y7, y8, y9, y10, y11]]) := by
  refine jStartI (by decide) (Nat.le_of_ble_eq_true rfl) ?_
  intro p e s m below meth c A H ls hx hb hr hlk hml hown hin hts hK hP hD hA hS hl
  have hown : s.vm.findClass "VmpcDeskModel" = some m.cls := hown
  have hl : lv_has ls 2 [(0, .ref h0), (1, .int b)] := hl
  refine lv_aload_n hx hb dX2_one_0 rfl (lv_at hl 0 rfl) ?_
  refine va_get (D := D) (ci := 2) (v := .int (nI 1)) (C := RX2) (T := TX2) (N := 12) hx hb hts in_X2 hown hK hP 0 rfl rfl 5 (by decide) (hts _ q313) (fun _ h9 => h9) rfl dX2_one_1 ?_
  refine lv_if_ne (tgt := 9) hx hb dX2_one_4 (by decide) (fun c_4 => ?_) (fun c_4 => ?_)
  · refine lv_aload_n hx hb dX2_one_9 rfl (lv_at hl 0 rfl) ?_
    refine va_get (D := D) (ci := 2) (v := .int (nI g)) (C := RX2) (T := TX2) (N := 12) hx hb hts in_X2 hown hK hP 0 rfl rfl 6 (by decide) (hts _ q314) (fun _ h9 => h9) rfl dX2_one_10 ?_
    refine lv_sipush (v := nI 1024) hx hb dX2_one_13 (by decide) ?_
    refine lv_icmp_lt (tgt := 22) hx hb dX2_one_16 (by decide) (fun c_16 => ?_) (fun c_16 => ?_)
    · exact absurd c_16 (nI_nlt hg (by omega))
    · refine lv_bipush (v := (-2)) hx hb dX2_one_19 (by decide) ?_
      exact jiret (()) hx hb hr rfl hlk rfl hP hD hS (Nat.le_of_ble_eq_true rfl) (Nat.le_of_ble_eq_true rfl) dX2_one_21
  · exact absurd c_4 (by decide)
set_option maxHeartbeats 4000000 in
set_option maxRecDepth 100000 in
/-- one(b): a step -/
theorem metX2_one_ok (l : Launch) (D : va_G) (B : ClassId × ClassId) (sz : Nat) (h0 r0 g : Nat) (hg : g < 1024) (q : (Nat → Nat) × Nat × Nat) (hq : okS q) (b : Int32) (y0 y1 y2 y3 y4 y7 y8 : Value) : jMi l yX2_one (ws_ yX2_one cX2_one 2 (some .int)) { frames := 2, cells := 0, slots := 0, locals := 80 } D B sz [.ref h0, .int b] [jO h0 2 [y0, y1, y2, y3, y4, .int (nI 1), .int (nI g), y7, y8, .ref r0, .int (nI q.2.1), .int (nI q.2.2)], jA r0 B.2 256 (nP q.1)] (S := Unit) (fun r _ => r = (b ^^^ nI (nz q)) &&& nI 255) (fun u => [jO h0 2 [y0, y1, y2, y3, y4, .int (nI 1), .int (nI (g + 1)), y7, y8, .ref r0, .int (nI (nx q).2.1), .int (nI (nx q).2.2)], jA r0 B.2 256 (nP (nx q).1)]) := by
  refine jStartI (by decide) (Nat.le_of_ble_eq_true rfl) ?_
  intro p e s m below meth c A H ls hx hb hr hlk hml hown hin hts hK hP hD hA hS hl
  have hown : s.vm.findClass "VmpcDeskModel" = some m.cls := hown
  have hl : lv_has ls 2 [(0, .ref h0), (1, .int b)] := hl
  refine lv_aload_n hx hb dX2_one_0 rfl (lv_at hl 0 rfl) ?_
  refine va_get (D := D) (ci := 2) (v := .int (nI 1)) (C := RX2) (T := TX2) (N := 12) hx hb hts in_X2 hown hK hP 0 rfl rfl 5 (by decide) (hts _ q313) (fun _ h9 => h9) rfl dX2_one_1 ?_
  refine lv_if_ne (tgt := 9) hx hb dX2_one_4 (by decide) (fun c_4 => ?_) (fun c_4 => ?_)
  · refine lv_aload_n hx hb dX2_one_9 rfl (lv_at hl 0 rfl) ?_
    refine va_get (D := D) (ci := 2) (v := .int (nI g)) (C := RX2) (T := TX2) (N := 12) hx hb hts in_X2 hown hK hP 0 rfl rfl 6 (by decide) (hts _ q314) (fun _ h9 => h9) rfl dX2_one_10 ?_
    refine lv_sipush (v := nI 1024) hx hb dX2_one_13 (by decide) ?_
    refine lv_icmp_lt (tgt := 22) hx hb dX2_one_16 (by decide) (fun c_16 => ?_) (fun c_16 => ?_)
    · refine lv_aload_n hx hb dX2_one_22 rfl (lv_at hl 0 rfl) ?_
      refine lv_dup hx hb dX2_one_23 rfl ?_
      refine va_get (D := D) (ci := 2) (v := .int (nI g)) (C := RX2) (T := TX2) (N := 12) hx hb hts in_X2 hown hK hP 0 rfl rfl 6 (by decide) (hts _ q314) (fun _ h9 => h9) rfl dX2_one_24 ?_
      refine lv_iconst (v := nI 1) hx hb dX2_one_27 (by decide) ?_
      refine lv_iadd hx hb dX2_one_28 ?_
      refine jas (y := nI (g + 1)) (nI_add _ _) ?_
      refine va_put (D := D) (ci := 2) (v := .int (nI (g + 1))) (ty := .int) (C := RX2) (T := TX2) (N := 12) hx hb hts in_X2 tyX2 tyX2_ok nmX2 hown hK hP hD hS 0 rfl rfl 6 (by decide) (hts _ q314) (fun _ h9 => h9) rfl (by decide +kernel) rfl rfl (Nat.le_of_ble_eq_true rfl) dX2_one_29 (fun H locs hP hD hS => ?_)
      have hP : va_P D vwCl [jO h0 2 [y0, y1, y2, y3, y4, .int (nI 1), .int (nI (g + 1)), y7, y8, .ref r0, .int (nI q.2.1), .int (nI q.2.2)], jA r0 B.2 256 (nP q.1)] H := hP
      have hD : va_D A [jO h0 2 [y0, y1, y2, y3, y4, .int (nI 1), .int (nI (g + 1)), y7, y8, .ref r0, .int (nI q.2.1), .int (nI q.2.2)], jA r0 B.2 256 (nP q.1)] := hD
      refine lv_iload_n hx hb dX2_one_32 rfl (lv_at hl 1 rfl) ?_
      refine lv_aload_n hx hb dX2_one_33 rfl (lv_at hl 0 rfl) ?_
      refine jcalli (ws := [jO h0 2 [y0, y1, y2, y3, y4, .int (nI 1), .int (nI (g + 1)), y7, y8, .ref r0, .int (nI q.2.1), .int (nI q.2.2)], jA r0 B.2 256 (nP q.1)]) (wc := [jO h0 2 [y0, y1, y2, y3, y4, .int (nI 1), .int (nI (g + 1)), y7, y8, .ref r0, .int (nI q.2.1), .int (nI q.2.2)], jA r0 B.2 256 (nP q.1)]) [0, 1] rfl (by decide) (fun _ => rfl) hP hD hS hA (va_runV (C := RX2) (b := h0) (As := []) (rest := [.int b]) ⟨hx, hb, hml, hown, hts⟩ (metX2_next l D B H.size h0 r0 q hq y0 y1 y2 y3 y4 (.int (nI 1)) (.int (nI (g + 1))) y7 y8) (cwV 0 hts (lw_V q393 q395 qs7 q11 q396) rfl rfl rfl (by decide +kernel) ⟨Nat.le_of_ble_eq_true rfl, Nat.le_of_ble_eq_true rfl⟩) (jPreV (ci := 2) (q0 := 0) hK (hP.sub (ws' := [jO h0 2 [y0, y1, y2, y3, y4, .int (nI 1), .int (nI (g + 1)), y7, y8, .ref r0, .int (nI q.2.1), .int (nI q.2.2)], jA r0 B.2 256 (nP q.1)]) [0, 1] rfl) (hD.sub (ws' := [jO h0 2 [y0, y1, y2, y3, y4, .int (nI 1), .int (nI (g + 1)), y7, y8, .ref r0, .int (nI q.2.1), .int (nI q.2.2)], jA r0 B.2 256 (nP q.1)]) [0, 1] (by decide) rfl) rfl rfl) rfl rfl hl.1 rfl (lv_room (Nat.le_of_ble_eq_true rfl)) dX2_one_34 ⟨Nat.le_of_ble_eq_true rfl, Nat.le_of_ble_eq_true rfl⟩) (fun r_34 _ H locs hu hP hD hS => ?_)
      subst hu
      have hP : va_P D vwCl [jO h0 2 [y0, y1, y2, y3, y4, .int (nI 1), .int (nI (g + 1)), y7, y8, .ref r0, .int (nI (nx q).2.1), .int (nI (nx q).2.2)], jA r0 B.2 256 (nP (nx q).1)] H := hP
      have hD : va_D A [jO h0 2 [y0, y1, y2, y3, y4, .int (nI 1), .int (nI (g + 1)), y7, y8, .ref r0, .int (nI (nx q).2.1), .int (nI (nx q).2.2)], jA r0 B.2 256 (nP (nx q).1)] := hD
      refine lv_ixor hx hb dX2_one_37 ?_
      refine lv_sipush (v := nI 255) hx hb dX2_one_38 (by decide) ?_
      refine lv_iand hx hb dX2_one_41 ?_
      exact jiret (()) hx hb hr rfl hlk rfl hP hD hS (Nat.le_of_ble_eq_true rfl) (Nat.le_of_ble_eq_true rfl) dX2_one_42
    · exact absurd (nI_lt hg (by decide)) c_16
  · exact absurd c_4 (by decide)
set_option maxHeartbeats 4000000 in
set_option maxRecDepth 100000 in
/-- run(x, y), not begun -/
theorem metX2_run_no (l : Launch) (D : va_G) (B : ClassId × ClassId) (sz : Nat) (h0 : Nat) (x y : Int32) (y0 y1 y2 y3 y4 y6 y7 y8 y9 y10 y11 : Value) : jMi l yX2_run (ws_ yX2_run cX2_run 6 (some .int)) { frames := 2, cells := 1, slots := 256, locals := 80 } D B sz [.ref h0, .int x, .int y] [jO h0 2 [y0, y1, y2, y3, y4, .int (nI 0), y6, y7, y8, y9, y10, y11]] (S := Unit) (fun r _ => r = (-1)) (fun u => [jO h0 2 [y0, y1, y2, y3, y4, .int (nI 0), y6, y7, y8, y9, y10, y11]]) := by
  refine jStartI (by decide) (Nat.le_of_ble_eq_true rfl) ?_
  intro p e s m below meth c A H ls hx hb hr hlk hml hown hin hts hK hP hD hA hS hl
  have hown : s.vm.findClass "VmpcDeskModel" = some m.cls := hown
  have hl : lv_has ls 6 [(0, .ref h0), (1, .int x), (2, .int y)] := hl
  refine lv_aload_n hx hb dX2_run_0 rfl (lv_at hl 0 rfl) ?_
  refine va_get (D := D) (ci := 2) (v := .int (nI 0)) (C := RX2) (T := TX2) (N := 12) hx hb hts in_X2 hown hK hP 0 rfl rfl 5 (by decide) (hts _ q313) (fun _ h9 => h9) rfl dX2_run_1 ?_
  refine lv_if_ne (tgt := 9) hx hb dX2_run_4 (by decide) (fun c_4 => ?_) (fun c_4 => ?_)
  · exact absurd nI_0 c_4
  · refine lv_iconst (v := (-1)) hx hb dX2_run_7 (by decide) ?_
    exact jiret (()) hx hb hr rfl hlk rfl hP hD hS (Nat.le_of_ble_eq_true rfl) (Nat.le_of_ble_eq_true rfl) dX2_run_8
set_option maxHeartbeats 4000000 in
set_option maxRecDepth 100000 in
/-- run(x, y), more than is left -/
theorem metX2_run_full (l : Launch) (D : va_G) (B : ClassId × ClassId) (sz : Nat) (h0 z g : Nat) (hz : z ≤ 256) (hg2 : g ≤ 1024) (x y : Int32) (hg : 1024 < g + cnt y z (frm x z)) (y0 y1 y2 y4 y7 y8 y9 y10 y11 : Value) : jMi l yX2_run (ws_ yX2_run cX2_run 6 (some .int)) { frames := 2, cells := 1, slots := 256, locals := 80 } D B sz [.ref h0, .int x, .int y] [jO h0 2 [y0, y1, y2, .int (nI z), y4, .int (nI 1), .int (nI g), y7, y8, y9, y10, y11]] (S := Unit) (fun r _ => r = (-2)) (fun u => [jO h0 2 [y0, y1, y2, .int (nI z), y4, .int (nI 1), .int (nI g), y7, y8, y9, y10, y11]]) := by
  refine jStartI (by decide) (Nat.le_of_ble_eq_true rfl) ?_
  intro p e s m below meth c A H ls hx hb hr hlk hml hown hin hts hK hP hD hA hS hl
  have hown : s.vm.findClass "VmpcDeskModel" = some m.cls := hown
  have hl : lv_has ls 6 [(0, .ref h0), (1, .int x), (2, .int y)] := hl
  have hcl := cnt_le (y := y) (frm_le x z)
  have hfl := frm_le x z
  refine lv_aload_n hx hb dX2_run_0 rfl (lv_at hl 0 rfl) ?_
  refine va_get (D := D) (ci := 2) (v := .int (nI 1)) (C := RX2) (T := TX2) (N := 12) hx hb hts in_X2 hown hK hP 0 rfl rfl 5 (by decide) (hts _ q313) (fun _ h9 => h9) rfl dX2_run_1 ?_
  refine lv_if_ne (tgt := 9) hx hb dX2_run_4 (by decide) (fun c_4 => ?_) (fun c_4 => ?_)
  · refine lv_aload_n hx hb dX2_run_9 rfl (lv_at hl 0 rfl) ?_
    refine lv_iload_n hx hb dX2_run_10 rfl (lv_at hl 1 rfl) ?_
    refine jcalli (ws := [jO h0 2 [y0, y1, y2, .int (nI z), y4, .int (nI 1), .int (nI g), y7, y8, y9, y10, y11]]) (wc := [jO h0 2 [y0, y1, y2, .int (nI z), y4, .int (nI 1), .int (nI g), y7, y8, y9, y10, y11]]) [0] rfl (by decide) (fun _ => rfl) hP hD hS hA (va_runV (C := RX2) (b := h0) (As := [.int x]) (rest := []) ⟨hx, hb, hml, hown, hts⟩ (metX2_from l D B H.size h0 z hz x y0 y1 y2 y4 (.int (nI 1)) (.int (nI g)) y7 y8 y9 y10 y11) (cwV 1 hts (lw_V q357 q359 qs3 q11 q360) rfl rfl rfl (by decide +kernel) ⟨Nat.le_of_ble_eq_true rfl, Nat.le_of_ble_eq_true rfl⟩) (jPreV (ci := 2) (q0 := 0) hK (hP.sub (ws' := [jO h0 2 [y0, y1, y2, .int (nI z), y4, .int (nI 1), .int (nI g), y7, y8, y9, y10, y11]]) [0] rfl) (hD.sub (ws' := [jO h0 2 [y0, y1, y2, .int (nI z), y4, .int (nI 1), .int (nI g), y7, y8, y9, y10, y11]]) [0] (by decide) rfl) rfl rfl) rfl rfl hl.1 rfl (lv_room (Nat.le_of_ble_eq_true rfl)) dX2_run_11 ⟨Nat.le_of_ble_eq_true rfl, Nat.le_of_ble_eq_true rfl⟩) (fun r_11 _ H locs hu hP hD hS => ?_)
    subst hu
    have hP : va_P D vwCl [jO h0 2 [y0, y1, y2, .int (nI z), y4, .int (nI 1), .int (nI g), y7, y8, y9, y10, y11]] H := hP
    have hD : va_D A [jO h0 2 [y0, y1, y2, .int (nI z), y4, .int (nI 1), .int (nI g), y7, y8, y9, y10, y11]] := hD
    refine lv_istore_n (lv' := [(3, .int (nI (frm x z))), (0, .ref h0), (1, .int x), (2, .int y)]) hx hb dX2_run_14 rfl hl (by decide) rfl (fun ls hl => ?_)
    refine lv_iload_n hx hb dX2_run_15 rfl (lv_at hl 3 rfl) ?_
    refine lv_ldc (v := 2147483647) hx hb hown (hts _ q361) dX2_run_16 ?_
    refine lv_iand hx hb dX2_run_18 ?_
    refine jas (y := nI (lo31 y)) (and31 y) ?_
    refine lv_aload_n hx hb dX2_run_19 rfl (lv_at hl 1 rfl) ?_
    refine va_get (D := D) (ci := 2) (v := .int (nI z)) (C := RX2) (T := TX2) (N := 12) hx hb hts in_X2 hown hK hP 0 rfl rfl 3 (by decide) (hts _ q311) (fun _ h9 => h9) rfl dX2_run_20 ?_
    refine lv_iload_n hx hb dX2_run_23 rfl (lv_at hl 0 rfl) ?_
    refine lv_isub hx hb dX2_run_24 ?_
    refine jas (y := nI (z - frm x z)) (pk_sub (frm_le x z)) ?_
    refine lv_iconst (v := nI 1) hx hb dX2_run_25 (by decide) ?_
    refine lv_iadd hx hb dX2_run_26 ?_
    refine jas (y := nI (z - frm x z + 1)) (nI_add _ _) ?_
    refine lv_irem hx hb dX2_run_27 (nI_ne0 (by omega) (by omega)) ?_
    refine jas (y := nI (cnt y z (frm x z))) (rem_nI (lo31_lt y) (by omega) (by omega)) ?_
    refine lv_istore (lv' := [(4, .int (nI (cnt y z (frm x z)))), (3, .int (nI (frm x z))), (0, .ref h0), (1, .int x), (2, .int y)]) hx hb dX2_run_28 hl (by decide) rfl (fun ls hl => ?_)
    refine lv_aload_n hx hb dX2_run_30 rfl (lv_at hl 2 rfl) ?_
    refine va_get (D := D) (ci := 2) (v := .int (nI g)) (C := RX2) (T := TX2) (N := 12) hx hb hts in_X2 hown hK hP 0 rfl rfl 6 (by decide) (hts _ q314) (fun _ h9 => h9) rfl dX2_run_31 ?_
    refine lv_iload hx hb dX2_run_34 (lv_at hl 0 rfl) ?_
    refine lv_iadd hx hb dX2_run_36 ?_
    refine jas (y := nI (g + cnt y z (frm x z))) (nI_add _ _) ?_
    refine lv_sipush (v := nI 1024) hx hb dX2_run_37 (by decide) ?_
    refine lv_icmp_le (tgt := 46) hx hb dX2_run_40 (by decide) (fun c_40 => ?_) (fun c_40 => ?_)
    · exact absurd ((nI_leI (by omega) (by decide)).mp c_40) (by omega)
    · refine lv_bipush (v := (-2)) hx hb dX2_run_43 (by decide) ?_
      exact jiret (()) hx hb hr rfl hlk rfl hP hD hS (Nat.le_of_ble_eq_true rfl) (Nat.le_of_ble_eq_true rfl) dX2_run_45
  · exact absurd c_4 (by decide)
set_option maxHeartbeats 4000000 in
set_option maxRecDepth 100000 in
theorem loopX2_run {p : Program} {l : Launch} {e : Env} {R : Room} {s : State} {m : MethodId} {args : Array Value} {below : List Frame} {meth : Method} {c : Code} {Q : State → Prop} {cells slots : Nat} {D : va_G} {B : ClassId × ClassId} {A : Nat → Prop} {h0 t0 r0 o0 f n0 : Nat} {T : Nat → Int32} {y0 y1 y3 y5 y6 y7 y8 : Value} (hx : p.tables.exec = Jvm.exec) (hb : c.code = cX2_run) (hml : c.maxLocals = 6) (hown : s.vm.findClass "VmpcDeskModel" = some m.cls) (hts : ∀ w ∈ lw_all, w.before args s = true) (hK : va_K D vwCl (TY B) s) (hA : ∀ q : Nat, s.heap.size ≤ q → A q) {q0 : (Nat → Nat) × Nat × Nat} (hf : f + n0 ≤ 256) (hRm : 2 ≤ R.frames ∧ 61 ≤ R.locals) (hFt : cells ≤ R.cells ∧ slots ≤ R.slots)
    (kk : ∀ (H : Heap) (locs : List Loc) (ls : Array Slot), va_P D vwCl [jO h0 2 [y0, y1, .ref t0, y3, .ref o0, y5, y6, y7, y8, .ref r0, .int (nI (nxN n0 q0).2.1), .int (nI (nxN n0 q0).2.2)], jA t0 B.1 256 T, jA r0 B.2 256 (nP (nxN n0 q0).1), jA o0 B.1 n0 (runO T f q0 n0)] H → va_D A [jO h0 2 [y0, y1, .ref t0, y3, .ref o0, y5, y6, y7, y8, .ref r0, .int (nI (nxN n0 q0).2.1), .int (nI (nxN n0 q0).2.2)], jA t0 B.1 256 T, jA r0 B.2 256 (nP (nxN n0 q0).1), jA o0 B.1 n0 (runO T f q0 n0)] → va_S A s.heap H locs → lv_has ls 6 [(0, .ref h0), (3, .int (nI f)), (4, .int (nI n0)), (5, .int (nI n0))] → W p l e R s m args below meth c H locs cells slots Q (F0 m 103 ls [])) :
    ∀ (n i : Nat) (q : (Nat → Nat) × Nat × Nat), i + n = n0 → q = nxN i q0 → okS q → ∀ (H : Heap) (locs : List Loc) (ls : Array Slot), va_P D vwCl [jO h0 2 [y0, y1, .ref t0, y3, .ref o0, y5, y6, y7, y8, .ref r0, .int (nI q.2.1), .int (nI q.2.2)], jA t0 B.1 256 T, jA r0 B.2 256 (nP q.1), jA o0 B.1 n0 (runO T f q0 i)] H → va_D A [jO h0 2 [y0, y1, .ref t0, y3, .ref o0, y5, y6, y7, y8, .ref r0, .int (nI q.2.1), .int (nI q.2.2)], jA t0 B.1 256 T, jA r0 B.2 256 (nP q.1), jA o0 B.1 n0 (runO T f q0 i)] → va_S A s.heap H locs → lv_has ls 6 [(0, .ref h0), (3, .int (nI f)), (4, .int (nI n0)), (5, .int (nI i))] → W p l e R s m args below meth c H locs cells slots Q (F0 m 68 ls []) := by
  intro n
  induction n with
  | zero =>
    intro i q hi hq0 hq H locs ls hP hD hS hl
    have hi : i = n0 := by omega
    subst hi
    subst hq0
    refine lv_iload hx hb dX2_run_68 (lv_at hl 3 rfl) ?_
    refine lv_iload hx hb dX2_run_70 (lv_at hl 2 rfl) ?_
    refine lv_icmp_ge (tgt := 103) hx hb dX2_run_72 (by decide) (fun c_72 => ?_) (fun c_72 => ?_)
    · exact kk H locs ls hP hD hS hl
    · exact absurd (nI_le (Nat.le_refl _) (by omega)) c_72
  | succ n ih =>
    intro i q hi hq0 hq H locs ls hP hD hS hl
    refine lv_iload hx hb dX2_run_68 (lv_at hl 3 rfl) ?_
    refine lv_iload hx hb dX2_run_70 (lv_at hl 2 rfl) ?_
    refine lv_icmp_ge (tgt := 103) hx hb dX2_run_72 (by decide) (fun c_72 => ?_) (fun c_72 => ?_)
    · exact absurd ((nI_leI (by omega) (by omega)).mp c_72) (by omega)
    · refine lv_aload_n hx hb dX2_run_75 rfl (lv_at hl 0 rfl) ?_
      refine va_get (D := D) (ci := 2) (v := .ref o0) (C := RX2) (T := TX2) (N := 12) hx hb hts in_X2 hown hK hP 0 rfl rfl 4 (by decide) (hts _ q312) (fun _ h9 => h9) rfl dX2_run_76 ?_
      refine lv_iload hx hb dX2_run_79 (lv_at hl 3 rfl) ?_
      refine lv_aload_n hx hb dX2_run_81 rfl (lv_at hl 0 rfl) ?_
      refine va_get (D := D) (ci := 2) (v := .ref t0) (C := RX2) (T := TX2) (N := 12) hx hb hts in_X2 hown hK hP 0 rfl rfl 2 (by decide) (hts _ q310) (fun _ h9 => h9) rfl dX2_run_82 ?_
      refine lv_iload_n hx hb dX2_run_85 rfl (lv_at hl 1 rfl) ?_
      refine lv_iload hx hb dX2_run_86 (lv_at hl 3 rfl) ?_
      refine lv_iadd hx hb dX2_run_88 ?_
      refine jas (y := nI (f + i)) (nI_add _ _) ?_
      refine jbald hx hb hK hP 1 rfl (f + i) (by omega) (by decide) dX2_run_89 ?_
      refine lv_aload_n hx hb dX2_run_90 rfl (lv_at hl 0 rfl) ?_
      refine jcalli (ws := [jO h0 2 [y0, y1, .ref t0, y3, .ref o0, y5, y6, y7, y8, .ref r0, .int (nI q.2.1), .int (nI q.2.2)], jA t0 B.1 256 T, jA r0 B.2 256 (nP q.1), jA o0 B.1 n0 (runO T f q0 i)]) (wc := [jO h0 2 [y0, y1, .ref t0, y3, .ref o0, y5, y6, y7, y8, .ref r0, .int (nI q.2.1), .int (nI q.2.2)], jA r0 B.2 256 (nP q.1)]) [0, 2] rfl (by decide) (fun _ => rfl) hP hD hS hA (va_runV (C := RX2) (b := h0) (As := []) (rest := [.int (T (f + i)), .int (nI i), .ref o0]) ⟨hx, hb, hml, hown, hts⟩ (metX2_next l D B H.size h0 r0 q hq y0 y1 (.ref t0) y3 (.ref o0) y5 y6 y7 y8) (cwV 0 hts (lw_V q393 q395 qs7 q11 q396) rfl rfl rfl (by decide +kernel) hRm) (jPreV (ci := 2) (q0 := 0) hK (hP.sub (ws' := [jO h0 2 [y0, y1, .ref t0, y3, .ref o0, y5, y6, y7, y8, .ref r0, .int (nI q.2.1), .int (nI q.2.2)], jA r0 B.2 256 (nP q.1)]) [0, 2] rfl) (hD.sub (ws' := [jO h0 2 [y0, y1, .ref t0, y3, .ref o0, y5, y6, y7, y8, .ref r0, .int (nI q.2.1), .int (nI q.2.2)], jA r0 B.2 256 (nP q.1)]) [0, 2] (by decide) rfl) rfl rfl) rfl rfl hl.1 rfl (lv_room (Nat.le_of_ble_eq_true rfl)) dX2_run_91 hFt) (fun r_91 _ H locs hu hP hD hS => ?_)
      subst hu
      have hP : va_P D vwCl [jO h0 2 [y0, y1, .ref t0, y3, .ref o0, y5, y6, y7, y8, .ref r0, .int (nI (nx q).2.1), .int (nI (nx q).2.2)], jA t0 B.1 256 T, jA r0 B.2 256 (nP (nx q).1), jA o0 B.1 n0 (runO T f q0 i)] H := hP
      have hD : va_D A [jO h0 2 [y0, y1, .ref t0, y3, .ref o0, y5, y6, y7, y8, .ref r0, .int (nI (nx q).2.1), .int (nI (nx q).2.2)], jA t0 B.1 256 T, jA r0 B.2 256 (nP (nx q).1), jA o0 B.1 n0 (runO T f q0 i)] := hD
      refine lv_ixor hx hb dX2_run_94 ?_
      refine lv_i2b (v := ((T (f + i)) ^^^ (nI (nz q))).toInt8.toInt32) hx hb dX2_run_95 rfl ?_
      refine jbast hx hb hK hP hD hS 3 rfl i (by omega) (by omega) (runO T f q0 (i + 1)) (by rw [vb_idem, hq0]; exact runO_S T f q0 i) dX2_run_96 (fun H locs hP hD hS => ?_)
      have hP : va_P D vwCl [jO h0 2 [y0, y1, .ref t0, y3, .ref o0, y5, y6, y7, y8, .ref r0, .int (nI (nx q).2.1), .int (nI (nx q).2.2)], jA t0 B.1 256 T, jA r0 B.2 256 (nP (nx q).1), jA o0 B.1 n0 (runO T f q0 (i + 1))] H := hP
      have hD : va_D A [jO h0 2 [y0, y1, .ref t0, y3, .ref o0, y5, y6, y7, y8, .ref r0, .int (nI (nx q).2.1), .int (nI (nx q).2.2)], jA t0 B.1 256 T, jA r0 B.2 256 (nP (nx q).1), jA o0 B.1 n0 (runO T f q0 (i + 1))] := hD
      refine lv_iinc (v := nI (i + 1)) (lv' := [(5, .int (nI (i + 1))), (0, .ref h0), (3, .int (nI f)), (4, .int (nI n0))]) hx hb dX2_run_97 hl (k := 3) rfl (jinc i) (by decide) rfl (fun ls hl => ?_)
      refine lv_goto (tgt := 68) hx hb dX2_run_100 (by decide) ?_
      exact ih (i + 1) (nx q) (by omega) (by rw [hq0]; rfl) (okS_nx hq) H locs ls hP hD hS (lv_sub hl [1, 2, 3, 0] rfl)
set_option maxHeartbeats 4000000 in
set_option maxRecDepth 100000 in
/-- run(x, y) -/
theorem metX2_run_ok (l : Launch) (D : va_G) (B : ClassId × ClassId) (sz : Nat) (h0 r0 t0 z g : Nat) (hz : z ≤ 256) (x y : Int32) (hg : g + cnt y z (frm x z) ≤ 1024) (q : (Nat → Nat) × Nat × Nat) (hq : okS q) (T : Nat → Int32) (y0 y1 y4 y7 y8 : Value) : jMi l yX2_run (ws_ yX2_run cX2_run 6 (some .int)) { frames := 2, cells := 1, slots := 256, locals := 80 } D B sz [.ref h0, .int x, .int y] [jO h0 2 [y0, y1, .ref t0, .int (nI z), y4, .int (nI 1), .int (nI g), y7, y8, .ref r0, .int (nI q.2.1), .int (nI q.2.2)], jA t0 B.1 256 T, jA r0 B.2 256 (nP q.1)] (S := Nat) (fun r _ => r = nI (cnt y z (frm x z))) (fun u => [jO h0 2 [y0, y1, .ref t0, .int (nI z), .ref u, .int (nI 1), .int (nI (g + cnt y z (frm x z))), y7, y8, .ref r0, .int (nI (nxN (cnt y z (frm x z)) q).2.1), .int (nI (nxN (cnt y z (frm x z)) q).2.2)], jA t0 B.1 256 T, jA r0 B.2 256 (nP (nxN (cnt y z (frm x z)) q).1), jA u B.1 (cnt y z (frm x z)) (runO T (frm x z) q (cnt y z (frm x z)))]) := by
  refine jStartI (by decide) (Nat.le_of_ble_eq_true rfl) ?_
  intro p e s m below meth c A H ls hx hb hr hlk hml hown hin hts hK hP hD hA hS hl
  have hown : s.vm.findClass "VmpcDeskModel" = some m.cls := hown
  have hl : lv_has ls 6 [(0, .ref h0), (1, .int x), (2, .int y)] := hl
  have hcl := cnt_le (y := y) (frm_le x z)
  have hfl := frm_le x z
  refine lv_aload_n hx hb dX2_run_0 rfl (lv_at hl 0 rfl) ?_
  refine va_get (D := D) (ci := 2) (v := .int (nI 1)) (C := RX2) (T := TX2) (N := 12) hx hb hts in_X2 hown hK hP 0 rfl rfl 5 (by decide) (hts _ q313) (fun _ h9 => h9) rfl dX2_run_1 ?_
  refine lv_if_ne (tgt := 9) hx hb dX2_run_4 (by decide) (fun c_4 => ?_) (fun c_4 => ?_)
  · refine lv_aload_n hx hb dX2_run_9 rfl (lv_at hl 0 rfl) ?_
    refine lv_iload_n hx hb dX2_run_10 rfl (lv_at hl 1 rfl) ?_
    refine jcalli (ws := [jO h0 2 [y0, y1, .ref t0, .int (nI z), y4, .int (nI 1), .int (nI g), y7, y8, .ref r0, .int (nI q.2.1), .int (nI q.2.2)], jA t0 B.1 256 T, jA r0 B.2 256 (nP q.1)]) (wc := [jO h0 2 [y0, y1, .ref t0, .int (nI z), y4, .int (nI 1), .int (nI g), y7, y8, .ref r0, .int (nI q.2.1), .int (nI q.2.2)]]) [0] rfl (by decide) (fun _ => rfl) hP hD hS hA (va_runV (C := RX2) (b := h0) (As := [.int x]) (rest := []) ⟨hx, hb, hml, hown, hts⟩ (metX2_from l D B H.size h0 z hz x y0 y1 (.ref t0) y4 (.int (nI 1)) (.int (nI g)) y7 y8 (.ref r0) (.int (nI q.2.1)) (.int (nI q.2.2))) (cwV 1 hts (lw_V q357 q359 qs3 q11 q360) rfl rfl rfl (by decide +kernel) ⟨Nat.le_of_ble_eq_true rfl, Nat.le_of_ble_eq_true rfl⟩) (jPreV (ci := 2) (q0 := 0) hK (hP.sub (ws' := [jO h0 2 [y0, y1, .ref t0, .int (nI z), y4, .int (nI 1), .int (nI g), y7, y8, .ref r0, .int (nI q.2.1), .int (nI q.2.2)]]) [0] rfl) (hD.sub (ws' := [jO h0 2 [y0, y1, .ref t0, .int (nI z), y4, .int (nI 1), .int (nI g), y7, y8, .ref r0, .int (nI q.2.1), .int (nI q.2.2)]]) [0] (by decide) rfl) rfl rfl) rfl rfl hl.1 rfl (lv_room (Nat.le_of_ble_eq_true rfl)) dX2_run_11 ⟨Nat.le_of_ble_eq_true rfl, Nat.le_of_ble_eq_true rfl⟩) (fun r_11 _ H locs hu hP hD hS => ?_)
    subst hu
    have hP : va_P D vwCl [jO h0 2 [y0, y1, .ref t0, .int (nI z), y4, .int (nI 1), .int (nI g), y7, y8, .ref r0, .int (nI q.2.1), .int (nI q.2.2)], jA t0 B.1 256 T, jA r0 B.2 256 (nP q.1)] H := hP
    have hD : va_D A [jO h0 2 [y0, y1, .ref t0, .int (nI z), y4, .int (nI 1), .int (nI g), y7, y8, .ref r0, .int (nI q.2.1), .int (nI q.2.2)], jA t0 B.1 256 T, jA r0 B.2 256 (nP q.1)] := hD
    refine lv_istore_n (lv' := [(3, .int (nI (frm x z))), (0, .ref h0), (1, .int x), (2, .int y)]) hx hb dX2_run_14 rfl hl (by decide) rfl (fun ls hl => ?_)
    refine lv_iload_n hx hb dX2_run_15 rfl (lv_at hl 3 rfl) ?_
    refine lv_ldc (v := 2147483647) hx hb hown (hts _ q361) dX2_run_16 ?_
    refine lv_iand hx hb dX2_run_18 ?_
    refine jas (y := nI (lo31 y)) (and31 y) ?_
    refine lv_aload_n hx hb dX2_run_19 rfl (lv_at hl 1 rfl) ?_
    refine va_get (D := D) (ci := 2) (v := .int (nI z)) (C := RX2) (T := TX2) (N := 12) hx hb hts in_X2 hown hK hP 0 rfl rfl 3 (by decide) (hts _ q311) (fun _ h9 => h9) rfl dX2_run_20 ?_
    refine lv_iload_n hx hb dX2_run_23 rfl (lv_at hl 0 rfl) ?_
    refine lv_isub hx hb dX2_run_24 ?_
    refine jas (y := nI (z - frm x z)) (pk_sub (frm_le x z)) ?_
    refine lv_iconst (v := nI 1) hx hb dX2_run_25 (by decide) ?_
    refine lv_iadd hx hb dX2_run_26 ?_
    refine jas (y := nI (z - frm x z + 1)) (nI_add _ _) ?_
    refine lv_irem hx hb dX2_run_27 (nI_ne0 (by omega) (by omega)) ?_
    refine jas (y := nI (cnt y z (frm x z))) (rem_nI (lo31_lt y) (by omega) (by omega)) ?_
    refine lv_istore (lv' := [(4, .int (nI (cnt y z (frm x z)))), (3, .int (nI (frm x z))), (0, .ref h0), (1, .int x), (2, .int y)]) hx hb dX2_run_28 hl (by decide) rfl (fun ls hl => ?_)
    refine lv_aload_n hx hb dX2_run_30 rfl (lv_at hl 2 rfl) ?_
    refine va_get (D := D) (ci := 2) (v := .int (nI g)) (C := RX2) (T := TX2) (N := 12) hx hb hts in_X2 hown hK hP 0 rfl rfl 6 (by decide) (hts _ q314) (fun _ h9 => h9) rfl dX2_run_31 ?_
    refine lv_iload hx hb dX2_run_34 (lv_at hl 0 rfl) ?_
    refine lv_iadd hx hb dX2_run_36 ?_
    refine jas (y := nI (g + cnt y z (frm x z))) (nI_add _ _) ?_
    refine lv_sipush (v := nI 1024) hx hb dX2_run_37 (by decide) ?_
    refine lv_icmp_le (tgt := 46) hx hb dX2_run_40 (by decide) (fun c_40 => ?_) (fun c_40 => ?_)
    · refine lv_aload_n hx hb dX2_run_46 rfl (lv_at hl 2 rfl) ?_
      refine lv_dup hx hb dX2_run_47 rfl ?_
      refine va_get (D := D) (ci := 2) (v := .int (nI g)) (C := RX2) (T := TX2) (N := 12) hx hb hts in_X2 hown hK hP 0 rfl rfl 6 (by decide) (hts _ q314) (fun _ h9 => h9) rfl dX2_run_48 ?_
      refine lv_iload hx hb dX2_run_51 (lv_at hl 0 rfl) ?_
      refine lv_iadd hx hb dX2_run_53 ?_
      refine jas (y := nI (g + cnt y z (frm x z))) (nI_add _ _) ?_
      refine va_put (D := D) (ci := 2) (v := .int (nI (g + cnt y z (frm x z)))) (ty := .int) (C := RX2) (T := TX2) (N := 12) hx hb hts in_X2 tyX2 tyX2_ok nmX2 hown hK hP hD hS 0 rfl rfl 6 (by decide) (hts _ q314) (fun _ h9 => h9) rfl (by decide +kernel) rfl rfl (Nat.le_of_ble_eq_true rfl) dX2_run_54 (fun H locs hP hD hS => ?_)
      have hP : va_P D vwCl [jO h0 2 [y0, y1, .ref t0, .int (nI z), y4, .int (nI 1), .int (nI (g + cnt y z (frm x z))), y7, y8, .ref r0, .int (nI q.2.1), .int (nI q.2.2)], jA t0 B.1 256 T, jA r0 B.2 256 (nP q.1)] H := hP
      have hD : va_D A [jO h0 2 [y0, y1, .ref t0, .int (nI z), y4, .int (nI 1), .int (nI (g + cnt y z (frm x z))), y7, y8, .ref r0, .int (nI q.2.1), .int (nI q.2.2)], jA t0 B.1 256 T, jA r0 B.2 256 (nP q.1)] := hD
      refine lv_aload_n hx hb dX2_run_57 rfl (lv_at hl 2 rfl) ?_
      refine lv_iload hx hb dX2_run_58 (lv_at hl 0 rfl) ?_
      refine jnewb hx hb (hts _ q77) hK hP hD hS hA (cnt y z (frm x z)) (by omega) (Nat.le_of_ble_eq_true rfl) (by show 0 + 0 + cnt y z (frm x z) ≤ 256; omega) dX2_run_60 (fun a_60 H hP hD hS => ?_)
      have hP : va_P D vwCl [jO h0 2 [y0, y1, .ref t0, .int (nI z), y4, .int (nI 1), .int (nI (g + cnt y z (frm x z))), y7, y8, .ref r0, .int (nI q.2.1), .int (nI q.2.2)], jA t0 B.1 256 T, jA r0 B.2 256 (nP q.1), jA a_60 B.1 ((cnt y z (frm x z))) (fun _ => 0)] H := hP
      have hD : va_D A [jO h0 2 [y0, y1, .ref t0, .int (nI z), y4, .int (nI 1), .int (nI (g + cnt y z (frm x z))), y7, y8, .ref r0, .int (nI q.2.1), .int (nI q.2.2)], jA t0 B.1 256 T, jA r0 B.2 256 (nP q.1), jA a_60 B.1 ((cnt y z (frm x z))) (fun _ => 0)] := hD
      refine va_put (D := D) (ci := 2) (v := .ref a_60) (ty := .array .byte) (C := RX2) (T := TX2) (N := 12) hx hb hts in_X2 tyX2 tyX2_ok nmX2 hown hK hP hD hS 0 rfl rfl 4 (by decide) (hts _ q312) (fun _ h9 => h9) rfl (by decide +kernel) rfl rfl (Nat.le_of_ble_eq_true rfl) dX2_run_62 (fun H locs hP hD hS => ?_)
      have hP : va_P D vwCl [jO h0 2 [y0, y1, .ref t0, .int (nI z), .ref a_60, .int (nI 1), .int (nI (g + cnt y z (frm x z))), y7, y8, .ref r0, .int (nI q.2.1), .int (nI q.2.2)], jA t0 B.1 256 T, jA r0 B.2 256 (nP q.1), jA a_60 B.1 ((cnt y z (frm x z))) (fun _ => 0)] H := hP
      have hD : va_D A [jO h0 2 [y0, y1, .ref t0, .int (nI z), .ref a_60, .int (nI 1), .int (nI (g + cnt y z (frm x z))), y7, y8, .ref r0, .int (nI q.2.1), .int (nI q.2.2)], jA t0 B.1 256 T, jA r0 B.2 256 (nP q.1), jA a_60 B.1 ((cnt y z (frm x z))) (fun _ => 0)] := hD
      refine lv_iconst (v := nI 0) hx hb dX2_run_65 (by decide) ?_
      refine lv_istore (lv' := [(5, .int (nI 0)), (4, .int (nI (cnt y z (frm x z)))), (3, .int (nI (frm x z))), (0, .ref h0), (1, .int x), (2, .int y)]) hx hb dX2_run_66 hl (by decide) rfl (fun ls hl => ?_)
      have hP : va_P D vwCl [jO h0 2 [y0, y1, .ref t0, .int (nI z), .ref a_60, .int (nI 1), .int (nI (g + cnt y z (frm x z))), y7, y8, .ref r0, .int (nI q.2.1), .int (nI q.2.2)], jA t0 B.1 256 T, jA r0 B.2 256 (nP q.1), jA a_60 B.1 (cnt y z (frm x z)) (runO T (frm x z) q 0)] H := by rw [runO_0]; exact hP
      have hD : va_D A [jO h0 2 [y0, y1, .ref t0, .int (nI z), .ref a_60, .int (nI 1), .int (nI (g + cnt y z (frm x z))), y7, y8, .ref r0, .int (nI q.2.1), .int (nI q.2.2)], jA t0 B.1 256 T, jA r0 B.2 256 (nP q.1), jA a_60 B.1 (cnt y z (frm x z)) (runO T (frm x z) q 0)] := by rw [runO_0]; exact hD
      refine loopX2_run (q0 := q) hx hb hml hown hts hK hA (by omega) ⟨Nat.le_of_ble_eq_true rfl, Nat.le_of_ble_eq_true rfl⟩ ⟨Nat.le_of_ble_eq_true rfl, (by show 0 + 0 + cnt y z (frm x z) ≤ 256; omega)⟩ (fun H locs ls hP hD hS hl => ?_) (cnt y z (frm x z)) 0 q (by omega) rfl hq H _ ls hP hD hS (lv_sub hl [3, 2, 1, 0] rfl)
      refine lv_iload hx hb dX2_run_103 (lv_at hl 2 rfl) ?_
      exact jiret a_60 hx hb hr rfl hlk rfl hP hD hS (Nat.le_of_ble_eq_true rfl) (by show 0 + 0 + cnt y z (frm x z) ≤ 256; omega) dX2_run_105
    · exact absurd (nI_le hg (by decide)) c_40
  · exact absurd c_4 (by decide)
end
section
/-- not begun, or begun: then both sides hold the same row, sum and place; E: the engine's cells -/
abbrev ESt (B : ClassId × ClassId) (v : Nat) (xr ys ya : Value) (RW BK BN : Nat → Int32) (E : va_W) : Prop :=
  (v = 0 ∧ E = []) ∨ (v = 1 ∧ ∃ (q : (Nat → Nat) × Nat × Nat) (e0 a0 iv wk : Nat) (KW VW : Nat → Int32), okS q ∧ xr = .ref e0 ∧ E = [jO e0 1 [.int (bI q.2.2), .ref a0, .int (bI q.2.1), .ref iv, .ref wk], jA a0 B.1 256 (bP q.1), jA iv B.1 16 VW, jA wk B.1 16 KW] ∧ ys = .int (nI q.2.1) ∧ ya = .int (nI q.2.2) ∧ RW = nP q.1 ∧ (∀ j, j < 16 → lo8 (KW j) = lo8 (BK j)) ∧ (∀ j, j < 16 → lo8 (VW j) = lo8 (BN j)))
/-- the law's world: the class's desk and the reference hold the same text, key, nonce, out, size and count -/
abbrev LInv (B : ClassId × ClassId) (dk md : Nat) (w : va_W) : Prop :=
  ∃ (xr : Value) (v g z no : Nat) (k0 n0 t0 o0 mk mn mt mo mbk mbn mr : Nat) (K N T O_ BK BN RW : Nat → Int32) (ys ya : Value) (E : va_W), w = (jO dk 0 [xr, .int (nI v), .int (nI g), .ref k0, .ref n0, .ref t0, .int (nI z), .ref o0] :: jA k0 B.1 32 K :: jA n0 B.1 32 N :: jA t0 B.1 256 T :: jA o0 B.1 no O_ :: jO md 2 [.ref mk, .ref mn, .ref mt, .int (nI z), .ref mo, .int (nI v), .int (nI g), .ref mbk, .ref mbn, .ref mr, ys, ya] :: jA mk B.1 32 K :: jA mn B.1 32 N :: jA mt B.1 256 T :: jA mo B.1 no O_ :: jA mbk B.1 16 BK :: jA mbn B.1 16 BN :: jA mr B.2 256 RW :: E) ∧ z ≤ 256 ∧ g ≤ 1024 ∧ no ≤ 256 ∧ ESt B v xr ys ya RW BK BN E
set_option maxHeartbeats 4000000 in
set_option maxRecDepth 100000 in
theorem stepL_put {p : Program} {l : Launch} {e : Env} {s : State} {m : MethodId} {below : List Frame} {meth : Method} {c : Code} {Q : State → Prop} {cells slots : Nat} {D : va_G} {B : ClassId × ClassId} {A : Nat → Prop} {b L j dk md : Nat} {sc : Nat → Int32} (hx : p.tables.exec = Jvm.exec) (hb : c.code = cL_law) (hml : c.maxLocals = 4) (hown : s.vm.findClass "VmpcDeskLaw" = some m.cls) (hts : ∀ w ∈ lw_all, w.before #[Value.ref b] s = true) (hK : va_K D vwCl (TY B) s) (hA : ∀ q : Nat, s.heap.size ≤ q → A q) (hX : va_X b L sc s s.heap) (hbl : b < s.heap.size) (hbA : ¬ A b) (hL : L ≤ 384) (hj : 6 * j + 6 ≤ L) (hcl : cells + 10 ≤ 600128) (hsl : slots + 600 ≤ 7301098)
    (kk : ∀ (w : va_W) (H : Heap) (locs : List Loc) (ls : Array Slot), LInv B dk md w → va_P D vwCl w H → va_D A w → va_S A s.heap H locs → lv_has ls 4 [(0, .ref b), (1, .ref dk), (2, .ref md), (3, .int (nI (6 * j)))] → W p l e room_1 s m #[Value.ref b] below meth c H locs (cells + 10) (slots + 600) Q (F0 m 391 ls [])) :
    ∀ (w : va_W) (H : Heap) (locs : List Loc) (ls : Array Slot), LInv B dk md w → va_P D vwCl w H → va_D A w → va_S A s.heap H locs → lv_has ls 4 [(0, .ref b), (1, .ref dk), (2, .ref md), (3, .int (nI (6 * j)))] → W p l e room_1 s m #[Value.ref b] below meth c H locs cells slots Q (F0 m 84 ls []) := by
  intro w H locs ls hI hP hD hS hl
  obtain ⟨xr, v, g, z, no, k0, n0, t0, o0, mk, mn, mt, mo, mbk, mbn, mr, K, N, T, O_, BK, BN, RW, ys, ya, E, rfl, hz, hg, hno, hE⟩ := hI
  refine lv_aload_n hx hb dL_law_84 rfl (lv_at hl 1 rfl) ?_
  refine lv_aload_n hx hb dL_law_85 rfl (lv_at hl 0 rfl) ?_
  refine lv_iload_n hx hb dL_law_86 rfl (lv_at hl 3 rfl) ?_
  refine lv_iconst (v := nI 1) hx hb dL_law_87 (by decide) ?_
  refine lv_iadd hx hb dL_law_88 ?_
  refine jas (y := nI (6 * j + 1)) (nI_add _ _) ?_
  refine jsld hx hb hX hbl hbA hS (6 * j + 1) (by omega) (by omega) dL_law_89 ?_
  refine lv_aload_n hx hb dL_law_90 rfl (lv_at hl 0 rfl) ?_
  refine lv_iload_n hx hb dL_law_91 rfl (lv_at hl 3 rfl) ?_
  refine lv_iconst (v := nI 2) hx hb dL_law_92 (by decide) ?_
  refine lv_iadd hx hb dL_law_93 ?_
  refine jas (y := nI (6 * j + 2)) (nI_add _ _) ?_
  refine jsld hx hb hX hbl hbA hS (6 * j + 2) (by omega) (by omega) dL_law_94 ?_
  refine lv_aload_n hx hb dL_law_95 rfl (lv_at hl 0 rfl) ?_
  refine lv_iload_n hx hb dL_law_96 rfl (lv_at hl 3 rfl) ?_
  refine lv_iconst (v := nI 3) hx hb dL_law_97 (by decide) ?_
  refine lv_iadd hx hb dL_law_98 ?_
  refine jas (y := nI (6 * j + 3)) (nI_add _ _) ?_
  refine jsld hx hb hX hbl hbA hS (6 * j + 3) (by omega) (by omega) dL_law_99 ?_
  refine lv_aload_n hx hb dL_law_100 rfl (lv_at hl 0 rfl) ?_
  refine lv_iload_n hx hb dL_law_101 rfl (lv_at hl 3 rfl) ?_
  refine lv_iconst (v := nI 4) hx hb dL_law_102 (by decide) ?_
  refine lv_iadd hx hb dL_law_103 ?_
  refine jas (y := nI (6 * j + 4)) (nI_add _ _) ?_
  refine jsld hx hb hX hbl hbA hS (6 * j + 4) (by omega) (by omega) dL_law_104 ?_
  refine jcalli (ws := (jO dk 0 [xr, .int (nI v), .int (nI g), .ref k0, .ref n0, .ref t0, .int (nI z), .ref o0] :: jA k0 B.1 32 K :: jA n0 B.1 32 N :: jA t0 B.1 256 T :: jA o0 B.1 no O_ :: jO md 2 [.ref mk, .ref mn, .ref mt, .int (nI z), .ref mo, .int (nI v), .int (nI g), .ref mbk, .ref mbn, .ref mr, ys, ya] :: jA mk B.1 32 K :: jA mn B.1 32 N :: jA mt B.1 256 T :: jA mo B.1 no O_ :: jA mbk B.1 16 BK :: jA mbn B.1 16 BN :: jA mr B.2 256 RW :: E)) (wc := [jO dk 0 [xr, .int (nI v), .int (nI g), .ref k0, .ref n0, .ref t0, .int (nI z), .ref o0], jA t0 B.1 256 T]) [0, 3] rfl (by decide) (fun _ => rfl) hP hD hS hA (va_runV (C := RX0) (b := dk) (As := [.int (sc (6 * j + 1)), .int (sc (6 * j + 2)), .int (sc (6 * j + 3)), .int (sc (6 * j + 4))]) (rest := []) ⟨hx, hb, hml, hown, hts⟩ (metX0_put l D B H.size dk t0 z hz T (sc (6 * j + 1)) (sc (6 * j + 2)) (sc (6 * j + 3)) (sc (6 * j + 4)) (xr) (.int (nI v)) (.int (nI g)) (.ref k0) (.ref n0) (.ref o0)) (cwV 4 hts (lw_V q78 q79 q80 q9 q81) rfl rfl rfl (by decide +kernel) ⟨Nat.le_of_ble_eq_true rfl, Nat.le_of_ble_eq_true rfl⟩) (jPreV (ci := 0) (q0 := 0) hK (hP.sub (ws' := [jO dk 0 [xr, .int (nI v), .int (nI g), .ref k0, .ref n0, .ref t0, .int (nI z), .ref o0], jA t0 B.1 256 T]) [0, 3] rfl) (hD.sub (ws' := [jO dk 0 [xr, .int (nI v), .int (nI g), .ref k0, .ref n0, .ref t0, .int (nI z), .ref o0], jA t0 B.1 256 T]) [0, 3] (by decide) rfl) rfl rfl) rfl rfl hl.1 rfl (lv_room (Nat.le_of_ble_eq_true rfl)) dL_law_105 ⟨by show cells + 0 ≤ 600128; omega, by show slots + 0 ≤ 7301098; omega⟩) (fun r_105 _ H locs hu hP hD hS => ?_)
  subst hu
  have hP : va_P D vwCl (jO dk 0 [xr, .int (nI v), .int (nI g), .ref k0, .ref n0, .ref t0, .int (nI (putZ z)), .ref o0] :: jA k0 B.1 32 K :: jA n0 B.1 32 N :: jA t0 B.1 256 (putT T z (sc (6 * j + 1)) (sc (6 * j + 2)) (sc (6 * j + 3)) (sc (6 * j + 4))) :: jA o0 B.1 no O_ :: jO md 2 [.ref mk, .ref mn, .ref mt, .int (nI z), .ref mo, .int (nI v), .int (nI g), .ref mbk, .ref mbn, .ref mr, ys, ya] :: jA mk B.1 32 K :: jA mn B.1 32 N :: jA mt B.1 256 T :: jA mo B.1 no O_ :: jA mbk B.1 16 BK :: jA mbn B.1 16 BN :: jA mr B.2 256 RW :: E) H := hP
  have hD : va_D A (jO dk 0 [xr, .int (nI v), .int (nI g), .ref k0, .ref n0, .ref t0, .int (nI (putZ z)), .ref o0] :: jA k0 B.1 32 K :: jA n0 B.1 32 N :: jA t0 B.1 256 (putT T z (sc (6 * j + 1)) (sc (6 * j + 2)) (sc (6 * j + 3)) (sc (6 * j + 4))) :: jA o0 B.1 no O_ :: jO md 2 [.ref mk, .ref mn, .ref mt, .int (nI z), .ref mo, .int (nI v), .int (nI g), .ref mbk, .ref mbn, .ref mr, ys, ya] :: jA mk B.1 32 K :: jA mn B.1 32 N :: jA mt B.1 256 T :: jA mo B.1 no O_ :: jA mbk B.1 16 BK :: jA mbn B.1 16 BN :: jA mr B.2 256 RW :: E) := hD
  refine lv_aload_n hx hb dL_law_108 rfl (lv_at hl 2 rfl) ?_
  refine lv_aload_n hx hb dL_law_109 rfl (lv_at hl 0 rfl) ?_
  refine lv_iload_n hx hb dL_law_110 rfl (lv_at hl 3 rfl) ?_
  refine lv_iconst (v := nI 1) hx hb dL_law_111 (by decide) ?_
  refine lv_iadd hx hb dL_law_112 ?_
  refine jas (y := nI (6 * j + 1)) (nI_add _ _) ?_
  refine jsld hx hb hX hbl hbA hS (6 * j + 1) (by omega) (by omega) dL_law_113 ?_
  refine lv_aload_n hx hb dL_law_114 rfl (lv_at hl 0 rfl) ?_
  refine lv_iload_n hx hb dL_law_115 rfl (lv_at hl 3 rfl) ?_
  refine lv_iconst (v := nI 2) hx hb dL_law_116 (by decide) ?_
  refine lv_iadd hx hb dL_law_117 ?_
  refine jas (y := nI (6 * j + 2)) (nI_add _ _) ?_
  refine jsld hx hb hX hbl hbA hS (6 * j + 2) (by omega) (by omega) dL_law_118 ?_
  refine lv_aload_n hx hb dL_law_119 rfl (lv_at hl 0 rfl) ?_
  refine lv_iload_n hx hb dL_law_120 rfl (lv_at hl 3 rfl) ?_
  refine lv_iconst (v := nI 3) hx hb dL_law_121 (by decide) ?_
  refine lv_iadd hx hb dL_law_122 ?_
  refine jas (y := nI (6 * j + 3)) (nI_add _ _) ?_
  refine jsld hx hb hX hbl hbA hS (6 * j + 3) (by omega) (by omega) dL_law_123 ?_
  refine lv_aload_n hx hb dL_law_124 rfl (lv_at hl 0 rfl) ?_
  refine lv_iload_n hx hb dL_law_125 rfl (lv_at hl 3 rfl) ?_
  refine lv_iconst (v := nI 4) hx hb dL_law_126 (by decide) ?_
  refine lv_iadd hx hb dL_law_127 ?_
  refine jas (y := nI (6 * j + 4)) (nI_add _ _) ?_
  refine jsld hx hb hX hbl hbA hS (6 * j + 4) (by omega) (by omega) dL_law_128 ?_
  refine jcalli (ws := (jO dk 0 [xr, .int (nI v), .int (nI g), .ref k0, .ref n0, .ref t0, .int (nI (putZ z)), .ref o0] :: jA k0 B.1 32 K :: jA n0 B.1 32 N :: jA t0 B.1 256 (putT T z (sc (6 * j + 1)) (sc (6 * j + 2)) (sc (6 * j + 3)) (sc (6 * j + 4))) :: jA o0 B.1 no O_ :: jO md 2 [.ref mk, .ref mn, .ref mt, .int (nI z), .ref mo, .int (nI v), .int (nI g), .ref mbk, .ref mbn, .ref mr, ys, ya] :: jA mk B.1 32 K :: jA mn B.1 32 N :: jA mt B.1 256 T :: jA mo B.1 no O_ :: jA mbk B.1 16 BK :: jA mbn B.1 16 BN :: jA mr B.2 256 RW :: E)) (wc := [jO md 2 [.ref mk, .ref mn, .ref mt, .int (nI z), .ref mo, .int (nI v), .int (nI g), .ref mbk, .ref mbn, .ref mr, ys, ya], jA mt B.1 256 T]) [5, 8] rfl (by decide) (fun _ => rfl) hP hD hS hA (va_runV (C := RX2) (b := md) (As := [.int (sc (6 * j + 1)), .int (sc (6 * j + 2)), .int (sc (6 * j + 3)), .int (sc (6 * j + 4))]) (rest := [.int (putR z)]) ⟨hx, hb, hml, hown, hts⟩ (metX2_put l D B H.size md mt z hz T (sc (6 * j + 1)) (sc (6 * j + 2)) (sc (6 * j + 3)) (sc (6 * j + 4)) (.ref mk) (.ref mn) (.ref mo) (.int (nI v)) (.int (nI g)) (.ref mbk) (.ref mbn) (.ref mr) (ys) (ya)) (cwV 4 hts (lw_V q346 q347 q348 q11 q349) rfl rfl rfl (by decide +kernel) ⟨Nat.le_of_ble_eq_true rfl, Nat.le_of_ble_eq_true rfl⟩) (jPreV (ci := 2) (q0 := 0) hK (hP.sub (ws' := [jO md 2 [.ref mk, .ref mn, .ref mt, .int (nI z), .ref mo, .int (nI v), .int (nI g), .ref mbk, .ref mbn, .ref mr, ys, ya], jA mt B.1 256 T]) [5, 8] rfl) (hD.sub (ws' := [jO md 2 [.ref mk, .ref mn, .ref mt, .int (nI z), .ref mo, .int (nI v), .int (nI g), .ref mbk, .ref mbn, .ref mr, ys, ya], jA mt B.1 256 T]) [5, 8] (by decide) rfl) rfl rfl) rfl rfl hl.1 rfl (lv_room (Nat.le_of_ble_eq_true rfl)) dL_law_129 ⟨by show cells + 0 + 0 ≤ 600128; omega, by show slots + 0 + 0 ≤ 7301098; omega⟩) (fun r_129 _ H locs hu hP hD hS => ?_)
  subst hu
  have hP : va_P D vwCl (jO dk 0 [xr, .int (nI v), .int (nI g), .ref k0, .ref n0, .ref t0, .int (nI (putZ z)), .ref o0] :: jA k0 B.1 32 K :: jA n0 B.1 32 N :: jA t0 B.1 256 (putT T z (sc (6 * j + 1)) (sc (6 * j + 2)) (sc (6 * j + 3)) (sc (6 * j + 4))) :: jA o0 B.1 no O_ :: jO md 2 [.ref mk, .ref mn, .ref mt, .int (nI (putZ z)), .ref mo, .int (nI v), .int (nI g), .ref mbk, .ref mbn, .ref mr, ys, ya] :: jA mk B.1 32 K :: jA mn B.1 32 N :: jA mt B.1 256 (putT T z (sc (6 * j + 1)) (sc (6 * j + 2)) (sc (6 * j + 3)) (sc (6 * j + 4))) :: jA mo B.1 no O_ :: jA mbk B.1 16 BK :: jA mbn B.1 16 BN :: jA mr B.2 256 RW :: E) H := hP
  have hD : va_D A (jO dk 0 [xr, .int (nI v), .int (nI g), .ref k0, .ref n0, .ref t0, .int (nI (putZ z)), .ref o0] :: jA k0 B.1 32 K :: jA n0 B.1 32 N :: jA t0 B.1 256 (putT T z (sc (6 * j + 1)) (sc (6 * j + 2)) (sc (6 * j + 3)) (sc (6 * j + 4))) :: jA o0 B.1 no O_ :: jO md 2 [.ref mk, .ref mn, .ref mt, .int (nI (putZ z)), .ref mo, .int (nI v), .int (nI g), .ref mbk, .ref mbn, .ref mr, ys, ya] :: jA mk B.1 32 K :: jA mn B.1 32 N :: jA mt B.1 256 (putT T z (sc (6 * j + 1)) (sc (6 * j + 2)) (sc (6 * j + 3)) (sc (6 * j + 4))) :: jA mo B.1 no O_ :: jA mbk B.1 16 BK :: jA mbn B.1 16 BN :: jA mr B.2 256 RW :: E) := hD
  refine lv_icmp_eq (tgt := 391) hx hb dL_law_132 (by decide) (fun c_132 => ?_) (fun c_132 => ?_)
  · refine W.widen (k := cells + 10) (n := slots + 600) (by show cells + 0 + 0 ≤ cells + 10; omega) (by show slots + 0 + 0 ≤ slots + 600; omega) ?_
    exact kk _ H _ ls ⟨xr, v, g, putZ z, no, k0, n0, t0, o0, mk, mn, mt, mo, mbk, mbn, mr, K, N, putT T z (sc (6 * j + 1)) (sc (6 * j + 2)) (sc (6 * j + 3)) (sc (6 * j + 4)), O_, BK, BN, RW, ys, ya, E, rfl, putZ_le hz, hg, hno, hE⟩ hP hD hS hl
  · exact absurd rfl c_132
set_option maxHeartbeats 4000000 in
set_option maxRecDepth 100000 in
theorem stepL_trim {p : Program} {l : Launch} {e : Env} {s : State} {m : MethodId} {below : List Frame} {meth : Method} {c : Code} {Q : State → Prop} {cells slots : Nat} {D : va_G} {B : ClassId × ClassId} {A : Nat → Prop} {b L j dk md : Nat} {sc : Nat → Int32} (hx : p.tables.exec = Jvm.exec) (hb : c.code = cL_law) (hml : c.maxLocals = 4) (hown : s.vm.findClass "VmpcDeskLaw" = some m.cls) (hts : ∀ w ∈ lw_all, w.before #[Value.ref b] s = true) (hK : va_K D vwCl (TY B) s) (hA : ∀ q : Nat, s.heap.size ≤ q → A q) (hX : va_X b L sc s s.heap) (hbl : b < s.heap.size) (hbA : ¬ A b) (hL : L ≤ 384) (hj : 6 * j + 6 ≤ L) (hcl : cells + 10 ≤ 600128) (hsl : slots + 600 ≤ 7301098)
    (kk : ∀ (w : va_W) (H : Heap) (locs : List Loc) (ls : Array Slot), LInv B dk md w → va_P D vwCl w H → va_D A w → va_S A s.heap H locs → lv_has ls 4 [(0, .ref b), (1, .ref dk), (2, .ref md), (3, .int (nI (6 * j)))] → W p l e room_1 s m #[Value.ref b] below meth c H locs (cells + 10) (slots + 600) Q (F0 m 391 ls [])) :
    ∀ (w : va_W) (H : Heap) (locs : List Loc) (ls : Array Slot), LInv B dk md w → va_P D vwCl w H → va_D A w → va_S A s.heap H locs → lv_has ls 4 [(0, .ref b), (1, .ref dk), (2, .ref md), (3, .int (nI (6 * j)))] → W p l e room_1 s m #[Value.ref b] below meth c H locs cells slots Q (F0 m 137 ls []) := by
  intro w H locs ls hI hP hD hS hl
  obtain ⟨xr, v, g, z, no, k0, n0, t0, o0, mk, mn, mt, mo, mbk, mbn, mr, K, N, T, O_, BK, BN, RW, ys, ya, E, rfl, hz, hg, hno, hE⟩ := hI
  refine lv_aload_n hx hb dL_law_137 rfl (lv_at hl 1 rfl) ?_
  refine lv_aload_n hx hb dL_law_138 rfl (lv_at hl 0 rfl) ?_
  refine lv_iload_n hx hb dL_law_139 rfl (lv_at hl 3 rfl) ?_
  refine lv_iconst (v := nI 1) hx hb dL_law_140 (by decide) ?_
  refine lv_iadd hx hb dL_law_141 ?_
  refine jas (y := nI (6 * j + 1)) (nI_add _ _) ?_
  refine jsld hx hb hX hbl hbA hS (6 * j + 1) (by omega) (by omega) dL_law_142 ?_
  refine jcallv (ws := (jO dk 0 [xr, .int (nI v), .int (nI g), .ref k0, .ref n0, .ref t0, .int (nI z), .ref o0] :: jA k0 B.1 32 K :: jA n0 B.1 32 N :: jA t0 B.1 256 T :: jA o0 B.1 no O_ :: jO md 2 [.ref mk, .ref mn, .ref mt, .int (nI z), .ref mo, .int (nI v), .int (nI g), .ref mbk, .ref mbn, .ref mr, ys, ya] :: jA mk B.1 32 K :: jA mn B.1 32 N :: jA mt B.1 256 T :: jA mo B.1 no O_ :: jA mbk B.1 16 BK :: jA mbn B.1 16 BN :: jA mr B.2 256 RW :: E)) (wc := [jO dk 0 [xr, .int (nI v), .int (nI g), .ref k0, .ref n0, .ref t0, .int (nI z), .ref o0]]) [0] rfl (by decide) (fun _ => rfl) hP hD hS hA (va_runV (C := RX0) (b := dk) (As := [.int (sc (6 * j + 1))]) (rest := []) ⟨hx, hb, hml, hown, hts⟩ (metX0_trim l D B H.size dk z hz (sc (6 * j + 1)) (xr) (.int (nI v)) (.int (nI g)) (.ref k0) (.ref n0) (.ref t0) (.ref o0)) (cwV 1 hts (lw_V q85 q86 q87 q9 q88) rfl rfl rfl (by decide +kernel) ⟨Nat.le_of_ble_eq_true rfl, Nat.le_of_ble_eq_true rfl⟩) (jPreV (ci := 0) (q0 := 0) hK (hP.sub (ws' := [jO dk 0 [xr, .int (nI v), .int (nI g), .ref k0, .ref n0, .ref t0, .int (nI z), .ref o0]]) [0] rfl) (hD.sub (ws' := [jO dk 0 [xr, .int (nI v), .int (nI g), .ref k0, .ref n0, .ref t0, .int (nI z), .ref o0]]) [0] (by decide) rfl) rfl rfl) rfl rfl hl.1 rfl (lv_room (Nat.le_of_ble_eq_true rfl)) dL_law_143 ⟨by show cells + 0 ≤ 600128; omega, by show slots + 0 ≤ 7301098; omega⟩) (fun _ H locs hu hP hD hS => ?_)
  have hP : va_P D vwCl (jO dk 0 [xr, .int (nI v), .int (nI g), .ref k0, .ref n0, .ref t0, .int (nI (frm (sc (6 * j + 1)) z)), .ref o0] :: jA k0 B.1 32 K :: jA n0 B.1 32 N :: jA t0 B.1 256 T :: jA o0 B.1 no O_ :: jO md 2 [.ref mk, .ref mn, .ref mt, .int (nI z), .ref mo, .int (nI v), .int (nI g), .ref mbk, .ref mbn, .ref mr, ys, ya] :: jA mk B.1 32 K :: jA mn B.1 32 N :: jA mt B.1 256 T :: jA mo B.1 no O_ :: jA mbk B.1 16 BK :: jA mbn B.1 16 BN :: jA mr B.2 256 RW :: E) H := hP
  have hD : va_D A (jO dk 0 [xr, .int (nI v), .int (nI g), .ref k0, .ref n0, .ref t0, .int (nI (frm (sc (6 * j + 1)) z)), .ref o0] :: jA k0 B.1 32 K :: jA n0 B.1 32 N :: jA t0 B.1 256 T :: jA o0 B.1 no O_ :: jO md 2 [.ref mk, .ref mn, .ref mt, .int (nI z), .ref mo, .int (nI v), .int (nI g), .ref mbk, .ref mbn, .ref mr, ys, ya] :: jA mk B.1 32 K :: jA mn B.1 32 N :: jA mt B.1 256 T :: jA mo B.1 no O_ :: jA mbk B.1 16 BK :: jA mbn B.1 16 BN :: jA mr B.2 256 RW :: E) := hD
  refine lv_aload_n hx hb dL_law_146 rfl (lv_at hl 2 rfl) ?_
  refine lv_aload_n hx hb dL_law_147 rfl (lv_at hl 0 rfl) ?_
  refine lv_iload_n hx hb dL_law_148 rfl (lv_at hl 3 rfl) ?_
  refine lv_iconst (v := nI 1) hx hb dL_law_149 (by decide) ?_
  refine lv_iadd hx hb dL_law_150 ?_
  refine jas (y := nI (6 * j + 1)) (nI_add _ _) ?_
  refine jsld hx hb hX hbl hbA hS (6 * j + 1) (by omega) (by omega) dL_law_151 ?_
  refine jcallv (ws := (jO dk 0 [xr, .int (nI v), .int (nI g), .ref k0, .ref n0, .ref t0, .int (nI (frm (sc (6 * j + 1)) z)), .ref o0] :: jA k0 B.1 32 K :: jA n0 B.1 32 N :: jA t0 B.1 256 T :: jA o0 B.1 no O_ :: jO md 2 [.ref mk, .ref mn, .ref mt, .int (nI z), .ref mo, .int (nI v), .int (nI g), .ref mbk, .ref mbn, .ref mr, ys, ya] :: jA mk B.1 32 K :: jA mn B.1 32 N :: jA mt B.1 256 T :: jA mo B.1 no O_ :: jA mbk B.1 16 BK :: jA mbn B.1 16 BN :: jA mr B.2 256 RW :: E)) (wc := [jO md 2 [.ref mk, .ref mn, .ref mt, .int (nI z), .ref mo, .int (nI v), .int (nI g), .ref mbk, .ref mbn, .ref mr, ys, ya]]) [5] rfl (by decide) (fun _ => rfl) hP hD hS hA (va_runV (C := RX2) (b := md) (As := [.int (sc (6 * j + 1))]) (rest := []) ⟨hx, hb, hml, hown, hts⟩ (metX2_trim l D B H.size md z hz (sc (6 * j + 1)) (.ref mk) (.ref mn) (.ref mt) (.ref mo) (.int (nI v)) (.int (nI g)) (.ref mbk) (.ref mbn) (.ref mr) (ys) (ya)) (cwV 1 hts (lw_V q353 q354 q355 q11 q356) rfl rfl rfl (by decide +kernel) ⟨Nat.le_of_ble_eq_true rfl, Nat.le_of_ble_eq_true rfl⟩) (jPreV (ci := 2) (q0 := 0) hK (hP.sub (ws' := [jO md 2 [.ref mk, .ref mn, .ref mt, .int (nI z), .ref mo, .int (nI v), .int (nI g), .ref mbk, .ref mbn, .ref mr, ys, ya]]) [5] rfl) (hD.sub (ws' := [jO md 2 [.ref mk, .ref mn, .ref mt, .int (nI z), .ref mo, .int (nI v), .int (nI g), .ref mbk, .ref mbn, .ref mr, ys, ya]]) [5] (by decide) rfl) rfl rfl) rfl rfl hl.1 rfl (lv_room (Nat.le_of_ble_eq_true rfl)) dL_law_152 ⟨by show cells + 0 + 0 ≤ 600128; omega, by show slots + 0 + 0 ≤ 7301098; omega⟩) (fun _ H locs hu hP hD hS => ?_)
  have hP : va_P D vwCl (jO dk 0 [xr, .int (nI v), .int (nI g), .ref k0, .ref n0, .ref t0, .int (nI (frm (sc (6 * j + 1)) z)), .ref o0] :: jA k0 B.1 32 K :: jA n0 B.1 32 N :: jA t0 B.1 256 T :: jA o0 B.1 no O_ :: jO md 2 [.ref mk, .ref mn, .ref mt, .int (nI (frm (sc (6 * j + 1)) z)), .ref mo, .int (nI v), .int (nI g), .ref mbk, .ref mbn, .ref mr, ys, ya] :: jA mk B.1 32 K :: jA mn B.1 32 N :: jA mt B.1 256 T :: jA mo B.1 no O_ :: jA mbk B.1 16 BK :: jA mbn B.1 16 BN :: jA mr B.2 256 RW :: E) H := hP
  have hD : va_D A (jO dk 0 [xr, .int (nI v), .int (nI g), .ref k0, .ref n0, .ref t0, .int (nI (frm (sc (6 * j + 1)) z)), .ref o0] :: jA k0 B.1 32 K :: jA n0 B.1 32 N :: jA t0 B.1 256 T :: jA o0 B.1 no O_ :: jO md 2 [.ref mk, .ref mn, .ref mt, .int (nI (frm (sc (6 * j + 1)) z)), .ref mo, .int (nI v), .int (nI g), .ref mbk, .ref mbn, .ref mr, ys, ya] :: jA mk B.1 32 K :: jA mn B.1 32 N :: jA mt B.1 256 T :: jA mo B.1 no O_ :: jA mbk B.1 16 BK :: jA mbn B.1 16 BN :: jA mr B.2 256 RW :: E) := hD
  refine lv_goto (tgt := 391) hx hb dL_law_155 (by decide) ?_
  refine W.widen (k := cells + 10) (n := slots + 600) (by show cells + 0 + 0 ≤ cells + 10; omega) (by show slots + 0 + 0 ≤ slots + 600; omega) ?_
  exact kk _ H _ ls ⟨xr, v, g, frm (sc (6 * j + 1)) z, no, k0, n0, t0, o0, mk, mn, mt, mo, mbk, mbn, mr, K, N, T, O_, BK, BN, RW, ys, ya, E, rfl, Nat.le_trans (frm_le _ _) hz, hg, hno, hE⟩ hP hD hS hl
set_option maxHeartbeats 4000000 in
set_option maxRecDepth 100000 in
theorem stepL_key {p : Program} {l : Launch} {e : Env} {s : State} {m : MethodId} {below : List Frame} {meth : Method} {c : Code} {Q : State → Prop} {cells slots : Nat} {D : va_G} {B : ClassId × ClassId} {A : Nat → Prop} {b L j dk md : Nat} {sc : Nat → Int32} (hx : p.tables.exec = Jvm.exec) (hb : c.code = cL_law) (hml : c.maxLocals = 4) (hown : s.vm.findClass "VmpcDeskLaw" = some m.cls) (hts : ∀ w ∈ lw_all, w.before #[Value.ref b] s = true) (hK : va_K D vwCl (TY B) s) (hA : ∀ q : Nat, s.heap.size ≤ q → A q) (hX : va_X b L sc s s.heap) (hbl : b < s.heap.size) (hbA : ¬ A b) (hL : L ≤ 384) (hj : 6 * j + 6 ≤ L) (hcl : cells + 10 ≤ 600128) (hsl : slots + 600 ≤ 7301098)
    (kk : ∀ (w : va_W) (H : Heap) (locs : List Loc) (ls : Array Slot), LInv B dk md w → va_P D vwCl w H → va_D A w → va_S A s.heap H locs → lv_has ls 4 [(0, .ref b), (1, .ref dk), (2, .ref md), (3, .int (nI (6 * j)))] → W p l e room_1 s m #[Value.ref b] below meth c H locs (cells + 10) (slots + 600) Q (F0 m 391 ls [])) :
    ∀ (w : va_W) (H : Heap) (locs : List Loc) (ls : Array Slot), LInv B dk md w → va_P D vwCl w H → va_D A w → va_S A s.heap H locs → lv_has ls 4 [(0, .ref b), (1, .ref dk), (2, .ref md), (3, .int (nI (6 * j)))] → W p l e room_1 s m #[Value.ref b] below meth c H locs cells slots Q (F0 m 158 ls []) := by
  intro w H locs ls hI hP hD hS hl
  obtain ⟨xr, v, g, z, no, k0, n0, t0, o0, mk, mn, mt, mo, mbk, mbn, mr, K, N, T, O_, BK, BN, RW, ys, ya, E, rfl, hz, hg, hno, hE⟩ := hI
  refine lv_aload_n hx hb dL_law_158 rfl (lv_at hl 1 rfl) ?_
  refine lv_aload_n hx hb dL_law_159 rfl (lv_at hl 0 rfl) ?_
  refine lv_iload_n hx hb dL_law_160 rfl (lv_at hl 3 rfl) ?_
  refine lv_iconst (v := nI 1) hx hb dL_law_161 (by decide) ?_
  refine lv_iadd hx hb dL_law_162 ?_
  refine jas (y := nI (6 * j + 1)) (nI_add _ _) ?_
  refine jsld hx hb hX hbl hbA hS (6 * j + 1) (by omega) (by omega) dL_law_163 ?_
  refine lv_aload_n hx hb dL_law_164 rfl (lv_at hl 0 rfl) ?_
  refine lv_iload_n hx hb dL_law_165 rfl (lv_at hl 3 rfl) ?_
  refine lv_iconst (v := nI 2) hx hb dL_law_166 (by decide) ?_
  refine lv_iadd hx hb dL_law_167 ?_
  refine jas (y := nI (6 * j + 2)) (nI_add _ _) ?_
  refine jsld hx hb hX hbl hbA hS (6 * j + 2) (by omega) (by omega) dL_law_168 ?_
  refine lv_aload_n hx hb dL_law_169 rfl (lv_at hl 0 rfl) ?_
  refine lv_iload_n hx hb dL_law_170 rfl (lv_at hl 3 rfl) ?_
  refine lv_iconst (v := nI 3) hx hb dL_law_171 (by decide) ?_
  refine lv_iadd hx hb dL_law_172 ?_
  refine jas (y := nI (6 * j + 3)) (nI_add _ _) ?_
  refine jsld hx hb hX hbl hbA hS (6 * j + 3) (by omega) (by omega) dL_law_173 ?_
  refine lv_aload_n hx hb dL_law_174 rfl (lv_at hl 0 rfl) ?_
  refine lv_iload_n hx hb dL_law_175 rfl (lv_at hl 3 rfl) ?_
  refine lv_iconst (v := nI 4) hx hb dL_law_176 (by decide) ?_
  refine lv_iadd hx hb dL_law_177 ?_
  refine jas (y := nI (6 * j + 4)) (nI_add _ _) ?_
  refine jsld hx hb hX hbl hbA hS (6 * j + 4) (by omega) (by omega) dL_law_178 ?_
  refine lv_aload_n hx hb dL_law_179 rfl (lv_at hl 0 rfl) ?_
  refine lv_iload_n hx hb dL_law_180 rfl (lv_at hl 3 rfl) ?_
  refine lv_iconst (v := nI 5) hx hb dL_law_181 (by decide) ?_
  refine lv_iadd hx hb dL_law_182 ?_
  refine jas (y := nI (6 * j + 5)) (nI_add _ _) ?_
  refine jsld hx hb hX hbl hbA hS (6 * j + 5) (by omega) (by omega) dL_law_183 ?_
  refine jcallv (ws := (jO dk 0 [xr, .int (nI v), .int (nI g), .ref k0, .ref n0, .ref t0, .int (nI z), .ref o0] :: jA k0 B.1 32 K :: jA n0 B.1 32 N :: jA t0 B.1 256 T :: jA o0 B.1 no O_ :: jO md 2 [.ref mk, .ref mn, .ref mt, .int (nI z), .ref mo, .int (nI v), .int (nI g), .ref mbk, .ref mbn, .ref mr, ys, ya] :: jA mk B.1 32 K :: jA mn B.1 32 N :: jA mt B.1 256 T :: jA mo B.1 no O_ :: jA mbk B.1 16 BK :: jA mbn B.1 16 BN :: jA mr B.2 256 RW :: E)) (wc := [jO dk 0 [xr, .int (nI v), .int (nI g), .ref k0, .ref n0, .ref t0, .int (nI z), .ref o0], jA k0 B.1 32 K]) [0, 1] rfl (by decide) (fun _ => rfl) hP hD hS hA (va_runV (C := RX0) (b := dk) (As := [.int (sc (6 * j + 1)), .int (sc (6 * j + 2)), .int (sc (6 * j + 3)), .int (sc (6 * j + 4)), .int (sc (6 * j + 5))]) (rest := []) ⟨hx, hb, hml, hown, hts⟩ (metX0_key l D B H.size dk k0 K (sc (6 * j + 1)) (sc (6 * j + 2)) (sc (6 * j + 3)) (sc (6 * j + 4)) (sc (6 * j + 5)) (xr) (.int (nI v)) (.int (nI g)) (.ref n0) (.ref t0) (.int (nI z)) (.ref o0)) (cwV 5 hts (lw_V q94 q95 q96 q9 q97) rfl rfl rfl (by decide +kernel) ⟨Nat.le_of_ble_eq_true rfl, Nat.le_of_ble_eq_true rfl⟩) (jPreV (ci := 0) (q0 := 0) hK (hP.sub (ws' := [jO dk 0 [xr, .int (nI v), .int (nI g), .ref k0, .ref n0, .ref t0, .int (nI z), .ref o0], jA k0 B.1 32 K]) [0, 1] rfl) (hD.sub (ws' := [jO dk 0 [xr, .int (nI v), .int (nI g), .ref k0, .ref n0, .ref t0, .int (nI z), .ref o0], jA k0 B.1 32 K]) [0, 1] (by decide) rfl) rfl rfl) rfl rfl hl.1 rfl (lv_room (Nat.le_of_ble_eq_true rfl)) dL_law_184 ⟨by show cells + 0 ≤ 600128; omega, by show slots + 0 ≤ 7301098; omega⟩) (fun _ H locs hu hP hD hS => ?_)
  have hP : va_P D vwCl (jO dk 0 [xr, .int (nI v), .int (nI g), .ref k0, .ref n0, .ref t0, .int (nI z), .ref o0] :: jA k0 B.1 32 (wrd4 K (16 * half (sc (6 * j + 1))) (sc (6 * j + 2)) (sc (6 * j + 3)) (sc (6 * j + 4)) (sc (6 * j + 5))) :: jA n0 B.1 32 N :: jA t0 B.1 256 T :: jA o0 B.1 no O_ :: jO md 2 [.ref mk, .ref mn, .ref mt, .int (nI z), .ref mo, .int (nI v), .int (nI g), .ref mbk, .ref mbn, .ref mr, ys, ya] :: jA mk B.1 32 K :: jA mn B.1 32 N :: jA mt B.1 256 T :: jA mo B.1 no O_ :: jA mbk B.1 16 BK :: jA mbn B.1 16 BN :: jA mr B.2 256 RW :: E) H := hP
  have hD : va_D A (jO dk 0 [xr, .int (nI v), .int (nI g), .ref k0, .ref n0, .ref t0, .int (nI z), .ref o0] :: jA k0 B.1 32 (wrd4 K (16 * half (sc (6 * j + 1))) (sc (6 * j + 2)) (sc (6 * j + 3)) (sc (6 * j + 4)) (sc (6 * j + 5))) :: jA n0 B.1 32 N :: jA t0 B.1 256 T :: jA o0 B.1 no O_ :: jO md 2 [.ref mk, .ref mn, .ref mt, .int (nI z), .ref mo, .int (nI v), .int (nI g), .ref mbk, .ref mbn, .ref mr, ys, ya] :: jA mk B.1 32 K :: jA mn B.1 32 N :: jA mt B.1 256 T :: jA mo B.1 no O_ :: jA mbk B.1 16 BK :: jA mbn B.1 16 BN :: jA mr B.2 256 RW :: E) := hD
  refine lv_aload_n hx hb dL_law_187 rfl (lv_at hl 2 rfl) ?_
  refine lv_aload_n hx hb dL_law_188 rfl (lv_at hl 0 rfl) ?_
  refine lv_iload_n hx hb dL_law_189 rfl (lv_at hl 3 rfl) ?_
  refine lv_iconst (v := nI 1) hx hb dL_law_190 (by decide) ?_
  refine lv_iadd hx hb dL_law_191 ?_
  refine jas (y := nI (6 * j + 1)) (nI_add _ _) ?_
  refine jsld hx hb hX hbl hbA hS (6 * j + 1) (by omega) (by omega) dL_law_192 ?_
  refine lv_aload_n hx hb dL_law_193 rfl (lv_at hl 0 rfl) ?_
  refine lv_iload_n hx hb dL_law_194 rfl (lv_at hl 3 rfl) ?_
  refine lv_iconst (v := nI 2) hx hb dL_law_195 (by decide) ?_
  refine lv_iadd hx hb dL_law_196 ?_
  refine jas (y := nI (6 * j + 2)) (nI_add _ _) ?_
  refine jsld hx hb hX hbl hbA hS (6 * j + 2) (by omega) (by omega) dL_law_197 ?_
  refine lv_aload_n hx hb dL_law_198 rfl (lv_at hl 0 rfl) ?_
  refine lv_iload_n hx hb dL_law_199 rfl (lv_at hl 3 rfl) ?_
  refine lv_iconst (v := nI 3) hx hb dL_law_200 (by decide) ?_
  refine lv_iadd hx hb dL_law_201 ?_
  refine jas (y := nI (6 * j + 3)) (nI_add _ _) ?_
  refine jsld hx hb hX hbl hbA hS (6 * j + 3) (by omega) (by omega) dL_law_202 ?_
  refine lv_aload_n hx hb dL_law_203 rfl (lv_at hl 0 rfl) ?_
  refine lv_iload_n hx hb dL_law_204 rfl (lv_at hl 3 rfl) ?_
  refine lv_iconst (v := nI 4) hx hb dL_law_205 (by decide) ?_
  refine lv_iadd hx hb dL_law_206 ?_
  refine jas (y := nI (6 * j + 4)) (nI_add _ _) ?_
  refine jsld hx hb hX hbl hbA hS (6 * j + 4) (by omega) (by omega) dL_law_207 ?_
  refine lv_aload_n hx hb dL_law_208 rfl (lv_at hl 0 rfl) ?_
  refine lv_iload_n hx hb dL_law_209 rfl (lv_at hl 3 rfl) ?_
  refine lv_iconst (v := nI 5) hx hb dL_law_210 (by decide) ?_
  refine lv_iadd hx hb dL_law_211 ?_
  refine jas (y := nI (6 * j + 5)) (nI_add _ _) ?_
  refine jsld hx hb hX hbl hbA hS (6 * j + 5) (by omega) (by omega) dL_law_212 ?_
  refine jcallv (ws := (jO dk 0 [xr, .int (nI v), .int (nI g), .ref k0, .ref n0, .ref t0, .int (nI z), .ref o0] :: jA k0 B.1 32 (wrd4 K (16 * half (sc (6 * j + 1))) (sc (6 * j + 2)) (sc (6 * j + 3)) (sc (6 * j + 4)) (sc (6 * j + 5))) :: jA n0 B.1 32 N :: jA t0 B.1 256 T :: jA o0 B.1 no O_ :: jO md 2 [.ref mk, .ref mn, .ref mt, .int (nI z), .ref mo, .int (nI v), .int (nI g), .ref mbk, .ref mbn, .ref mr, ys, ya] :: jA mk B.1 32 K :: jA mn B.1 32 N :: jA mt B.1 256 T :: jA mo B.1 no O_ :: jA mbk B.1 16 BK :: jA mbn B.1 16 BN :: jA mr B.2 256 RW :: E)) (wc := [jO md 2 [.ref mk, .ref mn, .ref mt, .int (nI z), .ref mo, .int (nI v), .int (nI g), .ref mbk, .ref mbn, .ref mr, ys, ya], jA mk B.1 32 K]) [5, 6] rfl (by decide) (fun _ => rfl) hP hD hS hA (va_runV (C := RX2) (b := md) (As := [.int (sc (6 * j + 1)), .int (sc (6 * j + 2)), .int (sc (6 * j + 3)), .int (sc (6 * j + 4)), .int (sc (6 * j + 5))]) (rest := []) ⟨hx, hb, hml, hown, hts⟩ (metX2_key l D B H.size md mk K (sc (6 * j + 1)) (sc (6 * j + 2)) (sc (6 * j + 3)) (sc (6 * j + 4)) (sc (6 * j + 5)) (.ref mn) (.ref mt) (.int (nI z)) (.ref mo) (.int (nI v)) (.int (nI g)) (.ref mbk) (.ref mbn) (.ref mr) (ys) (ya)) (cwV 5 hts (lw_V q362 q363 q364 q11 q365) rfl rfl rfl (by decide +kernel) ⟨Nat.le_of_ble_eq_true rfl, Nat.le_of_ble_eq_true rfl⟩) (jPreV (ci := 2) (q0 := 0) hK (hP.sub (ws' := [jO md 2 [.ref mk, .ref mn, .ref mt, .int (nI z), .ref mo, .int (nI v), .int (nI g), .ref mbk, .ref mbn, .ref mr, ys, ya], jA mk B.1 32 K]) [5, 6] rfl) (hD.sub (ws' := [jO md 2 [.ref mk, .ref mn, .ref mt, .int (nI z), .ref mo, .int (nI v), .int (nI g), .ref mbk, .ref mbn, .ref mr, ys, ya], jA mk B.1 32 K]) [5, 6] (by decide) rfl) rfl rfl) rfl rfl hl.1 rfl (lv_room (Nat.le_of_ble_eq_true rfl)) dL_law_213 ⟨by show cells + 0 + 0 ≤ 600128; omega, by show slots + 0 + 0 ≤ 7301098; omega⟩) (fun _ H locs hu hP hD hS => ?_)
  have hP : va_P D vwCl (jO dk 0 [xr, .int (nI v), .int (nI g), .ref k0, .ref n0, .ref t0, .int (nI z), .ref o0] :: jA k0 B.1 32 (wrd4 K (16 * half (sc (6 * j + 1))) (sc (6 * j + 2)) (sc (6 * j + 3)) (sc (6 * j + 4)) (sc (6 * j + 5))) :: jA n0 B.1 32 N :: jA t0 B.1 256 T :: jA o0 B.1 no O_ :: jO md 2 [.ref mk, .ref mn, .ref mt, .int (nI z), .ref mo, .int (nI v), .int (nI g), .ref mbk, .ref mbn, .ref mr, ys, ya] :: jA mk B.1 32 (wrd4 K (16 * half (sc (6 * j + 1))) (sc (6 * j + 2)) (sc (6 * j + 3)) (sc (6 * j + 4)) (sc (6 * j + 5))) :: jA mn B.1 32 N :: jA mt B.1 256 T :: jA mo B.1 no O_ :: jA mbk B.1 16 BK :: jA mbn B.1 16 BN :: jA mr B.2 256 RW :: E) H := hP
  have hD : va_D A (jO dk 0 [xr, .int (nI v), .int (nI g), .ref k0, .ref n0, .ref t0, .int (nI z), .ref o0] :: jA k0 B.1 32 (wrd4 K (16 * half (sc (6 * j + 1))) (sc (6 * j + 2)) (sc (6 * j + 3)) (sc (6 * j + 4)) (sc (6 * j + 5))) :: jA n0 B.1 32 N :: jA t0 B.1 256 T :: jA o0 B.1 no O_ :: jO md 2 [.ref mk, .ref mn, .ref mt, .int (nI z), .ref mo, .int (nI v), .int (nI g), .ref mbk, .ref mbn, .ref mr, ys, ya] :: jA mk B.1 32 (wrd4 K (16 * half (sc (6 * j + 1))) (sc (6 * j + 2)) (sc (6 * j + 3)) (sc (6 * j + 4)) (sc (6 * j + 5))) :: jA mn B.1 32 N :: jA mt B.1 256 T :: jA mo B.1 no O_ :: jA mbk B.1 16 BK :: jA mbn B.1 16 BN :: jA mr B.2 256 RW :: E) := hD
  refine lv_goto (tgt := 391) hx hb dL_law_216 (by decide) ?_
  refine W.widen (k := cells + 10) (n := slots + 600) (by show cells + 0 + 0 ≤ cells + 10; omega) (by show slots + 0 + 0 ≤ slots + 600; omega) ?_
  exact kk _ H _ ls ⟨xr, v, g, z, no, k0, n0, t0, o0, mk, mn, mt, mo, mbk, mbn, mr, wrd4 K (16 * half (sc (6 * j + 1))) (sc (6 * j + 2)) (sc (6 * j + 3)) (sc (6 * j + 4)) (sc (6 * j + 5)), N, T, O_, BK, BN, RW, ys, ya, E, rfl, hz, hg, hno, hE⟩ hP hD hS hl
set_option maxHeartbeats 4000000 in
set_option maxRecDepth 100000 in
theorem stepL_nonce {p : Program} {l : Launch} {e : Env} {s : State} {m : MethodId} {below : List Frame} {meth : Method} {c : Code} {Q : State → Prop} {cells slots : Nat} {D : va_G} {B : ClassId × ClassId} {A : Nat → Prop} {b L j dk md : Nat} {sc : Nat → Int32} (hx : p.tables.exec = Jvm.exec) (hb : c.code = cL_law) (hml : c.maxLocals = 4) (hown : s.vm.findClass "VmpcDeskLaw" = some m.cls) (hts : ∀ w ∈ lw_all, w.before #[Value.ref b] s = true) (hK : va_K D vwCl (TY B) s) (hA : ∀ q : Nat, s.heap.size ≤ q → A q) (hX : va_X b L sc s s.heap) (hbl : b < s.heap.size) (hbA : ¬ A b) (hL : L ≤ 384) (hj : 6 * j + 6 ≤ L) (hcl : cells + 10 ≤ 600128) (hsl : slots + 600 ≤ 7301098)
    (kk : ∀ (w : va_W) (H : Heap) (locs : List Loc) (ls : Array Slot), LInv B dk md w → va_P D vwCl w H → va_D A w → va_S A s.heap H locs → lv_has ls 4 [(0, .ref b), (1, .ref dk), (2, .ref md), (3, .int (nI (6 * j)))] → W p l e room_1 s m #[Value.ref b] below meth c H locs (cells + 10) (slots + 600) Q (F0 m 391 ls [])) :
    ∀ (w : va_W) (H : Heap) (locs : List Loc) (ls : Array Slot), LInv B dk md w → va_P D vwCl w H → va_D A w → va_S A s.heap H locs → lv_has ls 4 [(0, .ref b), (1, .ref dk), (2, .ref md), (3, .int (nI (6 * j)))] → W p l e room_1 s m #[Value.ref b] below meth c H locs cells slots Q (F0 m 219 ls []) := by
  intro w H locs ls hI hP hD hS hl
  obtain ⟨xr, v, g, z, no, k0, n0, t0, o0, mk, mn, mt, mo, mbk, mbn, mr, K, N, T, O_, BK, BN, RW, ys, ya, E, rfl, hz, hg, hno, hE⟩ := hI
  refine lv_aload_n hx hb dL_law_219 rfl (lv_at hl 1 rfl) ?_
  refine lv_aload_n hx hb dL_law_220 rfl (lv_at hl 0 rfl) ?_
  refine lv_iload_n hx hb dL_law_221 rfl (lv_at hl 3 rfl) ?_
  refine lv_iconst (v := nI 1) hx hb dL_law_222 (by decide) ?_
  refine lv_iadd hx hb dL_law_223 ?_
  refine jas (y := nI (6 * j + 1)) (nI_add _ _) ?_
  refine jsld hx hb hX hbl hbA hS (6 * j + 1) (by omega) (by omega) dL_law_224 ?_
  refine lv_aload_n hx hb dL_law_225 rfl (lv_at hl 0 rfl) ?_
  refine lv_iload_n hx hb dL_law_226 rfl (lv_at hl 3 rfl) ?_
  refine lv_iconst (v := nI 2) hx hb dL_law_227 (by decide) ?_
  refine lv_iadd hx hb dL_law_228 ?_
  refine jas (y := nI (6 * j + 2)) (nI_add _ _) ?_
  refine jsld hx hb hX hbl hbA hS (6 * j + 2) (by omega) (by omega) dL_law_229 ?_
  refine lv_aload_n hx hb dL_law_230 rfl (lv_at hl 0 rfl) ?_
  refine lv_iload_n hx hb dL_law_231 rfl (lv_at hl 3 rfl) ?_
  refine lv_iconst (v := nI 3) hx hb dL_law_232 (by decide) ?_
  refine lv_iadd hx hb dL_law_233 ?_
  refine jas (y := nI (6 * j + 3)) (nI_add _ _) ?_
  refine jsld hx hb hX hbl hbA hS (6 * j + 3) (by omega) (by omega) dL_law_234 ?_
  refine lv_aload_n hx hb dL_law_235 rfl (lv_at hl 0 rfl) ?_
  refine lv_iload_n hx hb dL_law_236 rfl (lv_at hl 3 rfl) ?_
  refine lv_iconst (v := nI 4) hx hb dL_law_237 (by decide) ?_
  refine lv_iadd hx hb dL_law_238 ?_
  refine jas (y := nI (6 * j + 4)) (nI_add _ _) ?_
  refine jsld hx hb hX hbl hbA hS (6 * j + 4) (by omega) (by omega) dL_law_239 ?_
  refine lv_aload_n hx hb dL_law_240 rfl (lv_at hl 0 rfl) ?_
  refine lv_iload_n hx hb dL_law_241 rfl (lv_at hl 3 rfl) ?_
  refine lv_iconst (v := nI 5) hx hb dL_law_242 (by decide) ?_
  refine lv_iadd hx hb dL_law_243 ?_
  refine jas (y := nI (6 * j + 5)) (nI_add _ _) ?_
  refine jsld hx hb hX hbl hbA hS (6 * j + 5) (by omega) (by omega) dL_law_244 ?_
  refine jcallv (ws := (jO dk 0 [xr, .int (nI v), .int (nI g), .ref k0, .ref n0, .ref t0, .int (nI z), .ref o0] :: jA k0 B.1 32 K :: jA n0 B.1 32 N :: jA t0 B.1 256 T :: jA o0 B.1 no O_ :: jO md 2 [.ref mk, .ref mn, .ref mt, .int (nI z), .ref mo, .int (nI v), .int (nI g), .ref mbk, .ref mbn, .ref mr, ys, ya] :: jA mk B.1 32 K :: jA mn B.1 32 N :: jA mt B.1 256 T :: jA mo B.1 no O_ :: jA mbk B.1 16 BK :: jA mbn B.1 16 BN :: jA mr B.2 256 RW :: E)) (wc := [jO dk 0 [xr, .int (nI v), .int (nI g), .ref k0, .ref n0, .ref t0, .int (nI z), .ref o0], jA n0 B.1 32 N]) [0, 2] rfl (by decide) (fun _ => rfl) hP hD hS hA (va_runV (C := RX0) (b := dk) (As := [.int (sc (6 * j + 1)), .int (sc (6 * j + 2)), .int (sc (6 * j + 3)), .int (sc (6 * j + 4)), .int (sc (6 * j + 5))]) (rest := []) ⟨hx, hb, hml, hown, hts⟩ (metX0_nonce l D B H.size dk n0 N (sc (6 * j + 1)) (sc (6 * j + 2)) (sc (6 * j + 3)) (sc (6 * j + 4)) (sc (6 * j + 5)) (xr) (.int (nI v)) (.int (nI g)) (.ref k0) (.ref t0) (.int (nI z)) (.ref o0)) (cwV 5 hts (lw_V q98 q99 q100 q9 q101) rfl rfl rfl (by decide +kernel) ⟨Nat.le_of_ble_eq_true rfl, Nat.le_of_ble_eq_true rfl⟩) (jPreV (ci := 0) (q0 := 0) hK (hP.sub (ws' := [jO dk 0 [xr, .int (nI v), .int (nI g), .ref k0, .ref n0, .ref t0, .int (nI z), .ref o0], jA n0 B.1 32 N]) [0, 2] rfl) (hD.sub (ws' := [jO dk 0 [xr, .int (nI v), .int (nI g), .ref k0, .ref n0, .ref t0, .int (nI z), .ref o0], jA n0 B.1 32 N]) [0, 2] (by decide) rfl) rfl rfl) rfl rfl hl.1 rfl (lv_room (Nat.le_of_ble_eq_true rfl)) dL_law_245 ⟨by show cells + 0 ≤ 600128; omega, by show slots + 0 ≤ 7301098; omega⟩) (fun _ H locs hu hP hD hS => ?_)
  have hP : va_P D vwCl (jO dk 0 [xr, .int (nI v), .int (nI g), .ref k0, .ref n0, .ref t0, .int (nI z), .ref o0] :: jA k0 B.1 32 K :: jA n0 B.1 32 (wrd4 N (16 * half (sc (6 * j + 1))) (sc (6 * j + 2)) (sc (6 * j + 3)) (sc (6 * j + 4)) (sc (6 * j + 5))) :: jA t0 B.1 256 T :: jA o0 B.1 no O_ :: jO md 2 [.ref mk, .ref mn, .ref mt, .int (nI z), .ref mo, .int (nI v), .int (nI g), .ref mbk, .ref mbn, .ref mr, ys, ya] :: jA mk B.1 32 K :: jA mn B.1 32 N :: jA mt B.1 256 T :: jA mo B.1 no O_ :: jA mbk B.1 16 BK :: jA mbn B.1 16 BN :: jA mr B.2 256 RW :: E) H := hP
  have hD : va_D A (jO dk 0 [xr, .int (nI v), .int (nI g), .ref k0, .ref n0, .ref t0, .int (nI z), .ref o0] :: jA k0 B.1 32 K :: jA n0 B.1 32 (wrd4 N (16 * half (sc (6 * j + 1))) (sc (6 * j + 2)) (sc (6 * j + 3)) (sc (6 * j + 4)) (sc (6 * j + 5))) :: jA t0 B.1 256 T :: jA o0 B.1 no O_ :: jO md 2 [.ref mk, .ref mn, .ref mt, .int (nI z), .ref mo, .int (nI v), .int (nI g), .ref mbk, .ref mbn, .ref mr, ys, ya] :: jA mk B.1 32 K :: jA mn B.1 32 N :: jA mt B.1 256 T :: jA mo B.1 no O_ :: jA mbk B.1 16 BK :: jA mbn B.1 16 BN :: jA mr B.2 256 RW :: E) := hD
  refine lv_aload_n hx hb dL_law_248 rfl (lv_at hl 2 rfl) ?_
  refine lv_aload_n hx hb dL_law_249 rfl (lv_at hl 0 rfl) ?_
  refine lv_iload_n hx hb dL_law_250 rfl (lv_at hl 3 rfl) ?_
  refine lv_iconst (v := nI 1) hx hb dL_law_251 (by decide) ?_
  refine lv_iadd hx hb dL_law_252 ?_
  refine jas (y := nI (6 * j + 1)) (nI_add _ _) ?_
  refine jsld hx hb hX hbl hbA hS (6 * j + 1) (by omega) (by omega) dL_law_253 ?_
  refine lv_aload_n hx hb dL_law_254 rfl (lv_at hl 0 rfl) ?_
  refine lv_iload_n hx hb dL_law_255 rfl (lv_at hl 3 rfl) ?_
  refine lv_iconst (v := nI 2) hx hb dL_law_256 (by decide) ?_
  refine lv_iadd hx hb dL_law_257 ?_
  refine jas (y := nI (6 * j + 2)) (nI_add _ _) ?_
  refine jsld hx hb hX hbl hbA hS (6 * j + 2) (by omega) (by omega) dL_law_258 ?_
  refine lv_aload_n hx hb dL_law_259 rfl (lv_at hl 0 rfl) ?_
  refine lv_iload_n hx hb dL_law_260 rfl (lv_at hl 3 rfl) ?_
  refine lv_iconst (v := nI 3) hx hb dL_law_261 (by decide) ?_
  refine lv_iadd hx hb dL_law_262 ?_
  refine jas (y := nI (6 * j + 3)) (nI_add _ _) ?_
  refine jsld hx hb hX hbl hbA hS (6 * j + 3) (by omega) (by omega) dL_law_263 ?_
  refine lv_aload_n hx hb dL_law_264 rfl (lv_at hl 0 rfl) ?_
  refine lv_iload_n hx hb dL_law_265 rfl (lv_at hl 3 rfl) ?_
  refine lv_iconst (v := nI 4) hx hb dL_law_266 (by decide) ?_
  refine lv_iadd hx hb dL_law_267 ?_
  refine jas (y := nI (6 * j + 4)) (nI_add _ _) ?_
  refine jsld hx hb hX hbl hbA hS (6 * j + 4) (by omega) (by omega) dL_law_268 ?_
  refine lv_aload_n hx hb dL_law_269 rfl (lv_at hl 0 rfl) ?_
  refine lv_iload_n hx hb dL_law_270 rfl (lv_at hl 3 rfl) ?_
  refine lv_iconst (v := nI 5) hx hb dL_law_271 (by decide) ?_
  refine lv_iadd hx hb dL_law_272 ?_
  refine jas (y := nI (6 * j + 5)) (nI_add _ _) ?_
  refine jsld hx hb hX hbl hbA hS (6 * j + 5) (by omega) (by omega) dL_law_273 ?_
  refine jcallv (ws := (jO dk 0 [xr, .int (nI v), .int (nI g), .ref k0, .ref n0, .ref t0, .int (nI z), .ref o0] :: jA k0 B.1 32 K :: jA n0 B.1 32 (wrd4 N (16 * half (sc (6 * j + 1))) (sc (6 * j + 2)) (sc (6 * j + 3)) (sc (6 * j + 4)) (sc (6 * j + 5))) :: jA t0 B.1 256 T :: jA o0 B.1 no O_ :: jO md 2 [.ref mk, .ref mn, .ref mt, .int (nI z), .ref mo, .int (nI v), .int (nI g), .ref mbk, .ref mbn, .ref mr, ys, ya] :: jA mk B.1 32 K :: jA mn B.1 32 N :: jA mt B.1 256 T :: jA mo B.1 no O_ :: jA mbk B.1 16 BK :: jA mbn B.1 16 BN :: jA mr B.2 256 RW :: E)) (wc := [jO md 2 [.ref mk, .ref mn, .ref mt, .int (nI z), .ref mo, .int (nI v), .int (nI g), .ref mbk, .ref mbn, .ref mr, ys, ya], jA mn B.1 32 N]) [5, 7] rfl (by decide) (fun _ => rfl) hP hD hS hA (va_runV (C := RX2) (b := md) (As := [.int (sc (6 * j + 1)), .int (sc (6 * j + 2)), .int (sc (6 * j + 3)), .int (sc (6 * j + 4)), .int (sc (6 * j + 5))]) (rest := []) ⟨hx, hb, hml, hown, hts⟩ (metX2_nonce l D B H.size md mn N (sc (6 * j + 1)) (sc (6 * j + 2)) (sc (6 * j + 3)) (sc (6 * j + 4)) (sc (6 * j + 5)) (.ref mk) (.ref mt) (.int (nI z)) (.ref mo) (.int (nI v)) (.int (nI g)) (.ref mbk) (.ref mbn) (.ref mr) (ys) (ya)) (cwV 5 hts (lw_V q369 q370 q371 q11 q372) rfl rfl rfl (by decide +kernel) ⟨Nat.le_of_ble_eq_true rfl, Nat.le_of_ble_eq_true rfl⟩) (jPreV (ci := 2) (q0 := 0) hK (hP.sub (ws' := [jO md 2 [.ref mk, .ref mn, .ref mt, .int (nI z), .ref mo, .int (nI v), .int (nI g), .ref mbk, .ref mbn, .ref mr, ys, ya], jA mn B.1 32 N]) [5, 7] rfl) (hD.sub (ws' := [jO md 2 [.ref mk, .ref mn, .ref mt, .int (nI z), .ref mo, .int (nI v), .int (nI g), .ref mbk, .ref mbn, .ref mr, ys, ya], jA mn B.1 32 N]) [5, 7] (by decide) rfl) rfl rfl) rfl rfl hl.1 rfl (lv_room (Nat.le_of_ble_eq_true rfl)) dL_law_274 ⟨by show cells + 0 + 0 ≤ 600128; omega, by show slots + 0 + 0 ≤ 7301098; omega⟩) (fun _ H locs hu hP hD hS => ?_)
  have hP : va_P D vwCl (jO dk 0 [xr, .int (nI v), .int (nI g), .ref k0, .ref n0, .ref t0, .int (nI z), .ref o0] :: jA k0 B.1 32 K :: jA n0 B.1 32 (wrd4 N (16 * half (sc (6 * j + 1))) (sc (6 * j + 2)) (sc (6 * j + 3)) (sc (6 * j + 4)) (sc (6 * j + 5))) :: jA t0 B.1 256 T :: jA o0 B.1 no O_ :: jO md 2 [.ref mk, .ref mn, .ref mt, .int (nI z), .ref mo, .int (nI v), .int (nI g), .ref mbk, .ref mbn, .ref mr, ys, ya] :: jA mk B.1 32 K :: jA mn B.1 32 (wrd4 N (16 * half (sc (6 * j + 1))) (sc (6 * j + 2)) (sc (6 * j + 3)) (sc (6 * j + 4)) (sc (6 * j + 5))) :: jA mt B.1 256 T :: jA mo B.1 no O_ :: jA mbk B.1 16 BK :: jA mbn B.1 16 BN :: jA mr B.2 256 RW :: E) H := hP
  have hD : va_D A (jO dk 0 [xr, .int (nI v), .int (nI g), .ref k0, .ref n0, .ref t0, .int (nI z), .ref o0] :: jA k0 B.1 32 K :: jA n0 B.1 32 (wrd4 N (16 * half (sc (6 * j + 1))) (sc (6 * j + 2)) (sc (6 * j + 3)) (sc (6 * j + 4)) (sc (6 * j + 5))) :: jA t0 B.1 256 T :: jA o0 B.1 no O_ :: jO md 2 [.ref mk, .ref mn, .ref mt, .int (nI z), .ref mo, .int (nI v), .int (nI g), .ref mbk, .ref mbn, .ref mr, ys, ya] :: jA mk B.1 32 K :: jA mn B.1 32 (wrd4 N (16 * half (sc (6 * j + 1))) (sc (6 * j + 2)) (sc (6 * j + 3)) (sc (6 * j + 4)) (sc (6 * j + 5))) :: jA mt B.1 256 T :: jA mo B.1 no O_ :: jA mbk B.1 16 BK :: jA mbn B.1 16 BN :: jA mr B.2 256 RW :: E) := hD
  refine lv_goto (tgt := 391) hx hb dL_law_277 (by decide) ?_
  refine W.widen (k := cells + 10) (n := slots + 600) (by show cells + 0 + 0 ≤ cells + 10; omega) (by show slots + 0 + 0 ≤ slots + 600; omega) ?_
  exact kk _ H _ ls ⟨xr, v, g, z, no, k0, n0, t0, o0, mk, mn, mt, mo, mbk, mbn, mr, K, wrd4 N (16 * half (sc (6 * j + 1))) (sc (6 * j + 2)) (sc (6 * j + 3)) (sc (6 * j + 4)) (sc (6 * j + 5)), T, O_, BK, BN, RW, ys, ya, E, rfl, hz, hg, hno, hE⟩ hP hD hS hl
set_option maxHeartbeats 4000000 in
set_option maxRecDepth 100000 in
theorem stepL_out {p : Program} {l : Launch} {e : Env} {s : State} {m : MethodId} {below : List Frame} {meth : Method} {c : Code} {Q : State → Prop} {cells slots : Nat} {D : va_G} {B : ClassId × ClassId} {A : Nat → Prop} {b L j dk md : Nat} {sc : Nat → Int32} (hx : p.tables.exec = Jvm.exec) (hb : c.code = cL_law) (hml : c.maxLocals = 4) (hown : s.vm.findClass "VmpcDeskLaw" = some m.cls) (hts : ∀ w ∈ lw_all, w.before #[Value.ref b] s = true) (hK : va_K D vwCl (TY B) s) (hA : ∀ q : Nat, s.heap.size ≤ q → A q) (hX : va_X b L sc s s.heap) (hbl : b < s.heap.size) (hbA : ¬ A b) (hL : L ≤ 384) (hj : 6 * j + 6 ≤ L) (hcl : cells + 10 ≤ 600128) (hsl : slots + 600 ≤ 7301098)
    (kk : ∀ (w : va_W) (H : Heap) (locs : List Loc) (ls : Array Slot), LInv B dk md w → va_P D vwCl w H → va_D A w → va_S A s.heap H locs → lv_has ls 4 [(0, .ref b), (1, .ref dk), (2, .ref md), (3, .int (nI (6 * j)))] → W p l e room_1 s m #[Value.ref b] below meth c H locs (cells + 10) (slots + 600) Q (F0 m 391 ls [])) :
    ∀ (w : va_W) (H : Heap) (locs : List Loc) (ls : Array Slot), LInv B dk md w → va_P D vwCl w H → va_D A w → va_S A s.heap H locs → lv_has ls 4 [(0, .ref b), (1, .ref dk), (2, .ref md), (3, .int (nI (6 * j)))] → W p l e room_1 s m #[Value.ref b] below meth c H locs cells slots Q (F0 m 368 ls []) := by
  intro w H locs ls hI hP hD hS hl
  obtain ⟨xr, v, g, z, no, k0, n0, t0, o0, mk, mn, mt, mo, mbk, mbn, mr, K, N, T, O_, BK, BN, RW, ys, ya, E, rfl, hz, hg, hno, hE⟩ := hI
  refine lv_aload_n hx hb dL_law_368 rfl (lv_at hl 1 rfl) ?_
  refine lv_aload_n hx hb dL_law_369 rfl (lv_at hl 0 rfl) ?_
  refine lv_iload_n hx hb dL_law_370 rfl (lv_at hl 3 rfl) ?_
  refine lv_iconst (v := nI 1) hx hb dL_law_371 (by decide) ?_
  refine lv_iadd hx hb dL_law_372 ?_
  refine jas (y := nI (6 * j + 1)) (nI_add _ _) ?_
  refine jsld hx hb hX hbl hbA hS (6 * j + 1) (by omega) (by omega) dL_law_373 ?_
  refine jcalli (ws := (jO dk 0 [xr, .int (nI v), .int (nI g), .ref k0, .ref n0, .ref t0, .int (nI z), .ref o0] :: jA k0 B.1 32 K :: jA n0 B.1 32 N :: jA t0 B.1 256 T :: jA o0 B.1 no O_ :: jO md 2 [.ref mk, .ref mn, .ref mt, .int (nI z), .ref mo, .int (nI v), .int (nI g), .ref mbk, .ref mbn, .ref mr, ys, ya] :: jA mk B.1 32 K :: jA mn B.1 32 N :: jA mt B.1 256 T :: jA mo B.1 no O_ :: jA mbk B.1 16 BK :: jA mbn B.1 16 BN :: jA mr B.2 256 RW :: E)) (wc := [jO dk 0 [xr, .int (nI v), .int (nI g), .ref k0, .ref n0, .ref t0, .int (nI z), .ref o0], jA o0 B.1 no O_]) [0, 4] rfl (by decide) (fun _ => rfl) hP hD hS hA (va_runV (C := RX0) (b := dk) (As := [.int (sc (6 * j + 1))]) (rest := []) ⟨hx, hb, hml, hown, hts⟩ (metX0_out l D B H.size dk o0 no hno O_ (sc (6 * j + 1)) (xr) (.int (nI v)) (.int (nI g)) (.ref k0) (.ref n0) (.ref t0) (.int (nI z))) (cwV 1 hts (lw_V q298 q299 q300 q9 q301) rfl rfl rfl (by decide +kernel) ⟨Nat.le_of_ble_eq_true rfl, Nat.le_of_ble_eq_true rfl⟩) (jPreV (ci := 0) (q0 := 0) hK (hP.sub (ws' := [jO dk 0 [xr, .int (nI v), .int (nI g), .ref k0, .ref n0, .ref t0, .int (nI z), .ref o0], jA o0 B.1 no O_]) [0, 4] rfl) (hD.sub (ws' := [jO dk 0 [xr, .int (nI v), .int (nI g), .ref k0, .ref n0, .ref t0, .int (nI z), .ref o0], jA o0 B.1 no O_]) [0, 4] (by decide) rfl) rfl rfl) rfl rfl hl.1 rfl (lv_room (Nat.le_of_ble_eq_true rfl)) dL_law_374 ⟨by show cells + 0 ≤ 600128; omega, by show slots + 0 ≤ 7301098; omega⟩) (fun r_374 _ H locs hu hP hD hS => ?_)
  subst hu
  have hP : va_P D vwCl (jO dk 0 [xr, .int (nI v), .int (nI g), .ref k0, .ref n0, .ref t0, .int (nI z), .ref o0] :: jA k0 B.1 32 K :: jA n0 B.1 32 N :: jA t0 B.1 256 T :: jA o0 B.1 no O_ :: jO md 2 [.ref mk, .ref mn, .ref mt, .int (nI z), .ref mo, .int (nI v), .int (nI g), .ref mbk, .ref mbn, .ref mr, ys, ya] :: jA mk B.1 32 K :: jA mn B.1 32 N :: jA mt B.1 256 T :: jA mo B.1 no O_ :: jA mbk B.1 16 BK :: jA mbn B.1 16 BN :: jA mr B.2 256 RW :: E) H := hP
  have hD : va_D A (jO dk 0 [xr, .int (nI v), .int (nI g), .ref k0, .ref n0, .ref t0, .int (nI z), .ref o0] :: jA k0 B.1 32 K :: jA n0 B.1 32 N :: jA t0 B.1 256 T :: jA o0 B.1 no O_ :: jO md 2 [.ref mk, .ref mn, .ref mt, .int (nI z), .ref mo, .int (nI v), .int (nI g), .ref mbk, .ref mbn, .ref mr, ys, ya] :: jA mk B.1 32 K :: jA mn B.1 32 N :: jA mt B.1 256 T :: jA mo B.1 no O_ :: jA mbk B.1 16 BK :: jA mbn B.1 16 BN :: jA mr B.2 256 RW :: E) := hD
  refine lv_aload_n hx hb dL_law_377 rfl (lv_at hl 2 rfl) ?_
  refine lv_aload_n hx hb dL_law_378 rfl (lv_at hl 0 rfl) ?_
  refine lv_iload_n hx hb dL_law_379 rfl (lv_at hl 3 rfl) ?_
  refine lv_iconst (v := nI 1) hx hb dL_law_380 (by decide) ?_
  refine lv_iadd hx hb dL_law_381 ?_
  refine jas (y := nI (6 * j + 1)) (nI_add _ _) ?_
  refine jsld hx hb hX hbl hbA hS (6 * j + 1) (by omega) (by omega) dL_law_382 ?_
  refine jcalli (ws := (jO dk 0 [xr, .int (nI v), .int (nI g), .ref k0, .ref n0, .ref t0, .int (nI z), .ref o0] :: jA k0 B.1 32 K :: jA n0 B.1 32 N :: jA t0 B.1 256 T :: jA o0 B.1 no O_ :: jO md 2 [.ref mk, .ref mn, .ref mt, .int (nI z), .ref mo, .int (nI v), .int (nI g), .ref mbk, .ref mbn, .ref mr, ys, ya] :: jA mk B.1 32 K :: jA mn B.1 32 N :: jA mt B.1 256 T :: jA mo B.1 no O_ :: jA mbk B.1 16 BK :: jA mbn B.1 16 BN :: jA mr B.2 256 RW :: E)) (wc := [jO md 2 [.ref mk, .ref mn, .ref mt, .int (nI z), .ref mo, .int (nI v), .int (nI g), .ref mbk, .ref mbn, .ref mr, ys, ya], jA mo B.1 no O_]) [5, 9] rfl (by decide) (fun _ => rfl) hP hD hS hA (va_runV (C := RX2) (b := md) (As := [.int (sc (6 * j + 1))]) (rest := [.int (outR O_ no (sc (6 * j + 1)))]) ⟨hx, hb, hml, hown, hts⟩ (metX2_out l D B H.size md mo no hno O_ (sc (6 * j + 1)) (.ref mk) (.ref mn) (.ref mt) (.int (nI z)) (.int (nI v)) (.int (nI g)) (.ref mbk) (.ref mbn) (.ref mr) (ys) (ya)) (cwV 1 hts (lw_V q405 q406 q407 q11 q408) rfl rfl rfl (by decide +kernel) ⟨Nat.le_of_ble_eq_true rfl, Nat.le_of_ble_eq_true rfl⟩) (jPreV (ci := 2) (q0 := 0) hK (hP.sub (ws' := [jO md 2 [.ref mk, .ref mn, .ref mt, .int (nI z), .ref mo, .int (nI v), .int (nI g), .ref mbk, .ref mbn, .ref mr, ys, ya], jA mo B.1 no O_]) [5, 9] rfl) (hD.sub (ws' := [jO md 2 [.ref mk, .ref mn, .ref mt, .int (nI z), .ref mo, .int (nI v), .int (nI g), .ref mbk, .ref mbn, .ref mr, ys, ya], jA mo B.1 no O_]) [5, 9] (by decide) rfl) rfl rfl) rfl rfl hl.1 rfl (lv_room (Nat.le_of_ble_eq_true rfl)) dL_law_383 ⟨by show cells + 0 + 0 ≤ 600128; omega, by show slots + 0 + 0 ≤ 7301098; omega⟩) (fun r_383 _ H locs hu hP hD hS => ?_)
  subst hu
  have hP : va_P D vwCl (jO dk 0 [xr, .int (nI v), .int (nI g), .ref k0, .ref n0, .ref t0, .int (nI z), .ref o0] :: jA k0 B.1 32 K :: jA n0 B.1 32 N :: jA t0 B.1 256 T :: jA o0 B.1 no O_ :: jO md 2 [.ref mk, .ref mn, .ref mt, .int (nI z), .ref mo, .int (nI v), .int (nI g), .ref mbk, .ref mbn, .ref mr, ys, ya] :: jA mk B.1 32 K :: jA mn B.1 32 N :: jA mt B.1 256 T :: jA mo B.1 no O_ :: jA mbk B.1 16 BK :: jA mbn B.1 16 BN :: jA mr B.2 256 RW :: E) H := hP
  have hD : va_D A (jO dk 0 [xr, .int (nI v), .int (nI g), .ref k0, .ref n0, .ref t0, .int (nI z), .ref o0] :: jA k0 B.1 32 K :: jA n0 B.1 32 N :: jA t0 B.1 256 T :: jA o0 B.1 no O_ :: jO md 2 [.ref mk, .ref mn, .ref mt, .int (nI z), .ref mo, .int (nI v), .int (nI g), .ref mbk, .ref mbn, .ref mr, ys, ya] :: jA mk B.1 32 K :: jA mn B.1 32 N :: jA mt B.1 256 T :: jA mo B.1 no O_ :: jA mbk B.1 16 BK :: jA mbn B.1 16 BN :: jA mr B.2 256 RW :: E) := hD
  refine lv_icmp_eq (tgt := 391) hx hb dL_law_386 (by decide) (fun c_386 => ?_) (fun c_386 => ?_)
  · refine W.widen (k := cells + 10) (n := slots + 600) (by show cells + 0 + 0 ≤ cells + 10; omega) (by show slots + 0 + 0 ≤ slots + 600; omega) ?_
    exact kk _ H _ ls ⟨xr, v, g, z, no, k0, n0, t0, o0, mk, mn, mt, mo, mbk, mbn, mr, K, N, T, O_, BK, BN, RW, ys, ya, E, rfl, hz, hg, hno, hE⟩ hP hD hS hl
  · exact absurd rfl c_386
set_option maxHeartbeats 4000000 in
set_option maxRecDepth 100000 in
theorem stepL_begin {p : Program} {l : Launch} {e : Env} {s : State} {m : MethodId} {below : List Frame} {meth : Method} {c : Code} {Q : State → Prop} {cells slots : Nat} {D : va_G} {B : ClassId × ClassId} {A : Nat → Prop} {b L j dk md : Nat} {sc : Nat → Int32} (hx : p.tables.exec = Jvm.exec) (hb : c.code = cL_law) (hml : c.maxLocals = 4) (hown : s.vm.findClass "VmpcDeskLaw" = some m.cls) (hts : ∀ w ∈ lw_all, w.before #[Value.ref b] s = true) (hK : va_K D vwCl (TY B) s) (hA : ∀ q : Nat, s.heap.size ≤ q → A q) (hX : va_X b L sc s s.heap) (hbl : b < s.heap.size) (hbA : ¬ A b) (hL : L ≤ 384) (hj : 6 * j + 6 ≤ L) (hcl : cells + 10 ≤ 600128) (hsl : slots + 600 ≤ 7301098)
    (kk : ∀ (w : va_W) (H : Heap) (locs : List Loc) (ls : Array Slot), LInv B dk md w → va_P D vwCl w H → va_D A w → va_S A s.heap H locs → lv_has ls 4 [(0, .ref b), (1, .ref dk), (2, .ref md), (3, .int (nI (6 * j)))] → W p l e room_1 s m #[Value.ref b] below meth c H locs (cells + 10) (slots + 600) Q (F0 m 391 ls [])) :
    ∀ (w : va_W) (H : Heap) (locs : List Loc) (ls : Array Slot), LInv B dk md w → va_P D vwCl w H → va_D A w → va_S A s.heap H locs → lv_has ls 4 [(0, .ref b), (1, .ref dk), (2, .ref md), (3, .int (nI (6 * j)))] → W p l e room_1 s m #[Value.ref b] below meth c H locs cells slots Q (F0 m 280 ls []) := by
  intro w H locs ls hI hP hD hS hl
  obtain ⟨xr, v, g, z, no, k0, n0, t0, o0, mk, mn, mt, mo, mbk, mbn, mr, K, N, T, O_, BK, BN, RW, ys, ya, E, rfl, hz, hg, hno, hE⟩ := hI
  have hP : va_P D vwCl [jO dk 0 [xr, .int (nI v), .int (nI g), .ref k0, .ref n0, .ref t0, .int (nI z), .ref o0], jA k0 B.1 32 K, jA n0 B.1 32 N, jA t0 B.1 256 T, jA o0 B.1 no O_, jO md 2 [.ref mk, .ref mn, .ref mt, .int (nI z), .ref mo, .int (nI v), .int (nI g), .ref mbk, .ref mbn, .ref mr, ys, ya], jA mk B.1 32 K, jA mn B.1 32 N, jA mt B.1 256 T, jA mo B.1 no O_, jA mbk B.1 16 BK, jA mbn B.1 16 BN, jA mr B.2 256 RW] H := hP.sub [0, 1, 2, 3, 4, 5, 6, 7, 8, 9, 10, 11, 12] rfl
  have hD : va_D A [jO dk 0 [xr, .int (nI v), .int (nI g), .ref k0, .ref n0, .ref t0, .int (nI z), .ref o0], jA k0 B.1 32 K, jA n0 B.1 32 N, jA t0 B.1 256 T, jA o0 B.1 no O_, jO md 2 [.ref mk, .ref mn, .ref mt, .int (nI z), .ref mo, .int (nI v), .int (nI g), .ref mbk, .ref mbn, .ref mr, ys, ya], jA mk B.1 32 K, jA mn B.1 32 N, jA mt B.1 256 T, jA mo B.1 no O_, jA mbk B.1 16 BK, jA mbn B.1 16 BN, jA mr B.2 256 RW] := hD.sub [0, 1, 2, 3, 4, 5, 6, 7, 8, 9, 10, 11, 12] (by decide) rfl
  refine lv_aload_n hx hb dL_law_280 rfl (lv_at hl 1 rfl) ?_
  refine lv_aload_n hx hb dL_law_281 rfl (lv_at hl 0 rfl) ?_
  refine lv_iload_n hx hb dL_law_282 rfl (lv_at hl 3 rfl) ?_
  refine lv_iconst (v := nI 1) hx hb dL_law_283 (by decide) ?_
  refine lv_iadd hx hb dL_law_284 ?_
  refine jas (y := nI (6 * j + 1)) (nI_add _ _) ?_
  refine jsld hx hb hX hbl hbA hS (6 * j + 1) (by omega) (by omega) dL_law_285 ?_
  refine jcallv (ws := [jO dk 0 [xr, .int (nI v), .int (nI g), .ref k0, .ref n0, .ref t0, .int (nI z), .ref o0], jA k0 B.1 32 K, jA n0 B.1 32 N, jA t0 B.1 256 T, jA o0 B.1 no O_, jO md 2 [.ref mk, .ref mn, .ref mt, .int (nI z), .ref mo, .int (nI v), .int (nI g), .ref mbk, .ref mbn, .ref mr, ys, ya], jA mk B.1 32 K, jA mn B.1 32 N, jA mt B.1 256 T, jA mo B.1 no O_, jA mbk B.1 16 BK, jA mbn B.1 16 BN, jA mr B.2 256 RW]) (wc := [jO dk 0 [xr, .int (nI v), .int (nI g), .ref k0, .ref n0, .ref t0, .int (nI z), .ref o0], jA k0 B.1 32 K, jA n0 B.1 32 N]) [0, 1, 2] rfl (by decide) (fun _ => rfl) hP hD hS hA (va_runV (C := RX0) (b := dk) (As := [.int (sc (6 * j + 1))]) (rest := []) ⟨hx, hb, hml, hown, hts⟩ (metX0_begin l D B H.size dk k0 n0 K N (sc (6 * j + 1)) (xr) (.int (nI v)) (.int (nI g)) (.ref t0) (.int (nI z)) (.ref o0)) (cwV 1 hts (lw_V q102 q103 q104 q9 q105) rfl rfl rfl (by decide +kernel) ⟨Nat.le_of_ble_eq_true rfl, Nat.le_of_ble_eq_true rfl⟩) (jPreV (ci := 0) (q0 := 0) hK (hP.sub (ws' := [jO dk 0 [xr, .int (nI v), .int (nI g), .ref k0, .ref n0, .ref t0, .int (nI z), .ref o0], jA k0 B.1 32 K, jA n0 B.1 32 N]) [0, 1, 2] rfl) (hD.sub (ws' := [jO dk 0 [xr, .int (nI v), .int (nI g), .ref k0, .ref n0, .ref t0, .int (nI z), .ref o0], jA k0 B.1 32 K, jA n0 B.1 32 N]) [0, 1, 2] (by decide) rfl) rfl rfl) rfl rfl hl.1 rfl (lv_room (Nat.le_of_ble_eq_true rfl)) dL_law_286 ⟨by show cells + 8 ≤ 600128; omega, by show slots + 328 ≤ 7301098; omega⟩) (fun u H locs hu hP hD hS => ?_)
  have hP : va_P D vwCl [jO dk 0 [.ref u.1, .int (nI 1), .int (nI 0), .ref k0, .ref n0, .ref t0, .int (nI z), .ref o0], jA k0 B.1 32 K, jA n0 B.1 32 N, jA t0 B.1 256 T, jA o0 B.1 no O_, jO md 2 [.ref mk, .ref mn, .ref mt, .int (nI z), .ref mo, .int (nI v), .int (nI g), .ref mbk, .ref mbn, .ref mr, ys, ya], jA mk B.1 32 K, jA mn B.1 32 N, jA mt B.1 256 T, jA mo B.1 no O_, jA mbk B.1 16 BK, jA mbn B.1 16 BN, jA mr B.2 256 RW, jO u.1 1 [.int (bI 0), .ref u.2.1, .int (bI (setK (fun j => lo8 (cpB K (fun _ => 0) 16 j)) (fun j => lo8 (cpB N (fun _ => 0) 16 j))).2), .ref u.2.2.1, .ref u.2.2.2], jA u.2.1 B.1 256 (bP (setK (fun j => lo8 (cpB K (fun _ => 0) 16 j)) (fun j => lo8 (cpB N (fun _ => 0) 16 j))).1), jA u.2.2.1 B.1 16 (cpB N (fun _ => 0) 16), jA u.2.2.2 B.1 16 (cpB K (fun _ => 0) 16)] H := hP
  have hD : va_D A [jO dk 0 [.ref u.1, .int (nI 1), .int (nI 0), .ref k0, .ref n0, .ref t0, .int (nI z), .ref o0], jA k0 B.1 32 K, jA n0 B.1 32 N, jA t0 B.1 256 T, jA o0 B.1 no O_, jO md 2 [.ref mk, .ref mn, .ref mt, .int (nI z), .ref mo, .int (nI v), .int (nI g), .ref mbk, .ref mbn, .ref mr, ys, ya], jA mk B.1 32 K, jA mn B.1 32 N, jA mt B.1 256 T, jA mo B.1 no O_, jA mbk B.1 16 BK, jA mbn B.1 16 BN, jA mr B.2 256 RW, jO u.1 1 [.int (bI 0), .ref u.2.1, .int (bI (setK (fun j => lo8 (cpB K (fun _ => 0) 16 j)) (fun j => lo8 (cpB N (fun _ => 0) 16 j))).2), .ref u.2.2.1, .ref u.2.2.2], jA u.2.1 B.1 256 (bP (setK (fun j => lo8 (cpB K (fun _ => 0) 16 j)) (fun j => lo8 (cpB N (fun _ => 0) 16 j))).1), jA u.2.2.1 B.1 16 (cpB N (fun _ => 0) 16), jA u.2.2.2 B.1 16 (cpB K (fun _ => 0) 16)] := hD
  refine lv_aload_n hx hb dL_law_289 rfl (lv_at hl 2 rfl) ?_
  refine lv_aload_n hx hb dL_law_290 rfl (lv_at hl 0 rfl) ?_
  refine lv_iload_n hx hb dL_law_291 rfl (lv_at hl 3 rfl) ?_
  refine lv_iconst (v := nI 1) hx hb dL_law_292 (by decide) ?_
  refine lv_iadd hx hb dL_law_293 ?_
  refine jas (y := nI (6 * j + 1)) (nI_add _ _) ?_
  refine jsld hx hb hX hbl hbA hS (6 * j + 1) (by omega) (by omega) dL_law_294 ?_
  refine jcallv (ws := [jO dk 0 [.ref u.1, .int (nI 1), .int (nI 0), .ref k0, .ref n0, .ref t0, .int (nI z), .ref o0], jA k0 B.1 32 K, jA n0 B.1 32 N, jA t0 B.1 256 T, jA o0 B.1 no O_, jO md 2 [.ref mk, .ref mn, .ref mt, .int (nI z), .ref mo, .int (nI v), .int (nI g), .ref mbk, .ref mbn, .ref mr, ys, ya], jA mk B.1 32 K, jA mn B.1 32 N, jA mt B.1 256 T, jA mo B.1 no O_, jA mbk B.1 16 BK, jA mbn B.1 16 BN, jA mr B.2 256 RW, jO u.1 1 [.int (bI 0), .ref u.2.1, .int (bI (setK (fun j => lo8 (cpB K (fun _ => 0) 16 j)) (fun j => lo8 (cpB N (fun _ => 0) 16 j))).2), .ref u.2.2.1, .ref u.2.2.2], jA u.2.1 B.1 256 (bP (setK (fun j => lo8 (cpB K (fun _ => 0) 16 j)) (fun j => lo8 (cpB N (fun _ => 0) 16 j))).1), jA u.2.2.1 B.1 16 (cpB N (fun _ => 0) 16), jA u.2.2.2 B.1 16 (cpB K (fun _ => 0) 16)]) (wc := [jO md 2 [.ref mk, .ref mn, .ref mt, .int (nI z), .ref mo, .int (nI v), .int (nI g), .ref mbk, .ref mbn, .ref mr, ys, ya], jA mk B.1 32 K, jA mn B.1 32 N, jA mbk B.1 16 BK, jA mbn B.1 16 BN, jA mr B.2 256 RW]) [5, 6, 7, 10, 11, 12] rfl (by decide) (fun _ => rfl) hP hD hS hA (va_runV (C := RX2) (b := md) (As := [.int (sc (6 * j + 1))]) (rest := []) ⟨hx, hb, hml, hown, hts⟩ (metX2_begin l D B H.size md mk mn mr mbk mbn K N BK BN RW (sc (6 * j + 1)) (.ref mt) (.int (nI z)) (.ref mo) (.int (nI v)) (.int (nI g)) (ys) (ya)) (cwV 1 hts (lw_V q373 q374 q375 q11 q376) rfl rfl rfl (by decide +kernel) ⟨Nat.le_of_ble_eq_true rfl, Nat.le_of_ble_eq_true rfl⟩) (jPreV (ci := 2) (q0 := 0) hK (hP.sub (ws' := [jO md 2 [.ref mk, .ref mn, .ref mt, .int (nI z), .ref mo, .int (nI v), .int (nI g), .ref mbk, .ref mbn, .ref mr, ys, ya], jA mk B.1 32 K, jA mn B.1 32 N, jA mbk B.1 16 BK, jA mbn B.1 16 BN, jA mr B.2 256 RW]) [5, 6, 7, 10, 11, 12] rfl) (hD.sub (ws' := [jO md 2 [.ref mk, .ref mn, .ref mt, .int (nI z), .ref mo, .int (nI v), .int (nI g), .ref mbk, .ref mbn, .ref mr, ys, ya], jA mk B.1 32 K, jA mn B.1 32 N, jA mbk B.1 16 BK, jA mbn B.1 16 BN, jA mr B.2 256 RW]) [5, 6, 7, 10, 11, 12] (by decide) rfl) rfl rfl) rfl rfl hl.1 rfl (lv_room (Nat.le_of_ble_eq_true rfl)) dL_law_295 ⟨by show cells + 8 + 0 ≤ 600128; omega, by show slots + 328 + 0 ≤ 7301098; omega⟩) (fun _ H locs hu hP hD hS => ?_)
  have hP : va_P D vwCl [jO dk 0 [.ref u.1, .int (nI 1), .int (nI 0), .ref k0, .ref n0, .ref t0, .int (nI z), .ref o0], jA k0 B.1 32 K, jA n0 B.1 32 N, jA t0 B.1 256 T, jA o0 B.1 no O_, jO md 2 [.ref mk, .ref mn, .ref mt, .int (nI z), .ref mo, .int (nI 1), .int (nI 0), .ref mbk, .ref mbn, .ref mr, .int (nI (setK (fun j => lo8 (cpB K BK 16 j)) (fun j => lo8 (cpB N BN 16 j))).2), .int (nI 0)], jA mk B.1 32 K, jA mn B.1 32 N, jA mt B.1 256 T, jA mo B.1 no O_, jA mbk B.1 16 (cpB K BK 16), jA mbn B.1 16 (cpB N BN 16), jA mr B.2 256 (nP (setK (fun j => lo8 (cpB K BK 16 j)) (fun j => lo8 (cpB N BN 16 j))).1), jO u.1 1 [.int (bI 0), .ref u.2.1, .int (bI (setK (fun j => lo8 (cpB K (fun _ => 0) 16 j)) (fun j => lo8 (cpB N (fun _ => 0) 16 j))).2), .ref u.2.2.1, .ref u.2.2.2], jA u.2.1 B.1 256 (bP (setK (fun j => lo8 (cpB K (fun _ => 0) 16 j)) (fun j => lo8 (cpB N (fun _ => 0) 16 j))).1), jA u.2.2.1 B.1 16 (cpB N (fun _ => 0) 16), jA u.2.2.2 B.1 16 (cpB K (fun _ => 0) 16)] H := hP
  have hD : va_D A [jO dk 0 [.ref u.1, .int (nI 1), .int (nI 0), .ref k0, .ref n0, .ref t0, .int (nI z), .ref o0], jA k0 B.1 32 K, jA n0 B.1 32 N, jA t0 B.1 256 T, jA o0 B.1 no O_, jO md 2 [.ref mk, .ref mn, .ref mt, .int (nI z), .ref mo, .int (nI 1), .int (nI 0), .ref mbk, .ref mbn, .ref mr, .int (nI (setK (fun j => lo8 (cpB K BK 16 j)) (fun j => lo8 (cpB N BN 16 j))).2), .int (nI 0)], jA mk B.1 32 K, jA mn B.1 32 N, jA mt B.1 256 T, jA mo B.1 no O_, jA mbk B.1 16 (cpB K BK 16), jA mbn B.1 16 (cpB N BN 16), jA mr B.2 256 (nP (setK (fun j => lo8 (cpB K BK 16 j)) (fun j => lo8 (cpB N BN 16 j))).1), jO u.1 1 [.int (bI 0), .ref u.2.1, .int (bI (setK (fun j => lo8 (cpB K (fun _ => 0) 16 j)) (fun j => lo8 (cpB N (fun _ => 0) 16 j))).2), .ref u.2.2.1, .ref u.2.2.2], jA u.2.1 B.1 256 (bP (setK (fun j => lo8 (cpB K (fun _ => 0) 16 j)) (fun j => lo8 (cpB N (fun _ => 0) 16 j))).1), jA u.2.2.1 B.1 16 (cpB N (fun _ => 0) 16), jA u.2.2.2 B.1 16 (cpB K (fun _ => 0) 16)] := hD
  refine lv_goto (tgt := 391) hx hb dL_law_298 (by decide) ?_
  have e1 : ∀ j, j < 16 → (cpB K (fun _ => 0) 16) j = (cpB K BK 16) j := fun j hj => by unfold cpB; rw [if_pos hj, if_pos hj]
  have e2 : ∀ j, j < 16 → (cpB N (fun _ => 0) 16) j = (cpB N BN 16) j := fun j hj => by unfold cpB; rw [if_pos hj, if_pos hj]
  have eS : (setK (fun j => lo8 (cpB K BK 16 j)) (fun j => lo8 (cpB N BN 16 j))) = (setK (fun j => lo8 (cpB K (fun _ => 0) 16 j)) (fun j => lo8 (cpB N (fun _ => 0) 16 j))) := setK_congr (fun j hj => by rw [e1 j hj]) (fun j hj => by rw [e2 j hj])
  rw [eS] at hP hD
  have hok := ok_setK (fun j => lo8 (cpB K (fun _ => 0) 16 j)) (fun j => lo8 (cpB N (fun _ => 0) 16 j))
  refine W.widen (k := cells + 10) (n := slots + 600) (by show cells + 8 + 0 ≤ cells + 10; omega) (by show slots + 328 + 0 ≤ slots + 600; omega) ?_
  exact kk _ H _ ls ⟨.ref u.1, 1, 0, z, no, k0, n0, t0, o0, mk, mn, mt, mo, mbk, mbn, mr, K, N, T, O_, cpB K BK 16, cpB N BN 16, nP (setK (fun j => lo8 (cpB K (fun _ => 0) 16 j)) (fun j => lo8 (cpB N (fun _ => 0) 16 j))).1, .int (nI (setK (fun j => lo8 (cpB K (fun _ => 0) 16 j)) (fun j => lo8 (cpB N (fun _ => 0) 16 j))).2), .int (nI 0), [jO u.1 1 [.int (bI 0), .ref u.2.1, .int (bI (setK (fun j => lo8 (cpB K (fun _ => 0) 16 j)) (fun j => lo8 (cpB N (fun _ => 0) 16 j))).2), .ref u.2.2.1, .ref u.2.2.2], jA u.2.1 B.1 256 (bP (setK (fun j => lo8 (cpB K (fun _ => 0) 16 j)) (fun j => lo8 (cpB N (fun _ => 0) 16 j))).1), jA u.2.2.1 B.1 16 (cpB N (fun _ => 0) 16), jA u.2.2.2 B.1 16 (cpB K (fun _ => 0) 16)], rfl, hz, Nat.zero_le _, hno, Or.inr ⟨rfl, ((setK (fun j => lo8 (cpB K (fun _ => 0) 16 j)) (fun j => lo8 (cpB N (fun _ => 0) 16 j))).1, (setK (fun j => lo8 (cpB K (fun _ => 0) 16 j)) (fun j => lo8 (cpB N (fun _ => 0) 16 j))).2, 0), u.1, u.2.1, u.2.2.1, u.2.2.2, cpB K (fun _ => 0) 16, cpB N (fun _ => 0) 16, ⟨hok.1, hok.2, Nat.zero_lt_succ _⟩, rfl, rfl, rfl, rfl, rfl, (fun j hj => by rw [e1 j hj]), (fun j hj => by rw [e2 j hj])⟩⟩ hP hD hS hl
set_option maxHeartbeats 4000000 in
set_option maxRecDepth 100000 in
theorem stepL_one {p : Program} {l : Launch} {e : Env} {s : State} {m : MethodId} {below : List Frame} {meth : Method} {c : Code} {Q : State → Prop} {cells slots : Nat} {D : va_G} {B : ClassId × ClassId} {A : Nat → Prop} {b L j dk md : Nat} {sc : Nat → Int32} (hx : p.tables.exec = Jvm.exec) (hb : c.code = cL_law) (hml : c.maxLocals = 4) (hown : s.vm.findClass "VmpcDeskLaw" = some m.cls) (hts : ∀ w ∈ lw_all, w.before #[Value.ref b] s = true) (hK : va_K D vwCl (TY B) s) (hA : ∀ q : Nat, s.heap.size ≤ q → A q) (hX : va_X b L sc s s.heap) (hbl : b < s.heap.size) (hbA : ¬ A b) (hL : L ≤ 384) (hj : 6 * j + 6 ≤ L) (hcl : cells + 10 ≤ 600128) (hsl : slots + 600 ≤ 7301098)
    (kk : ∀ (w : va_W) (H : Heap) (locs : List Loc) (ls : Array Slot), LInv B dk md w → va_P D vwCl w H → va_D A w → va_S A s.heap H locs → lv_has ls 4 [(0, .ref b), (1, .ref dk), (2, .ref md), (3, .int (nI (6 * j)))] → W p l e room_1 s m #[Value.ref b] below meth c H locs (cells + 10) (slots + 600) Q (F0 m 391 ls [])) :
    ∀ (w : va_W) (H : Heap) (locs : List Loc) (ls : Array Slot), LInv B dk md w → va_P D vwCl w H → va_D A w → va_S A s.heap H locs → lv_has ls 4 [(0, .ref b), (1, .ref dk), (2, .ref md), (3, .int (nI (6 * j)))] → W p l e room_1 s m #[Value.ref b] below meth c H locs cells slots Q (F0 m 334 ls []) := by
  intro w H locs ls hI hP hD hS hl
  obtain ⟨xr, v, g, z, no, k0, n0, t0, o0, mk, mn, mt, mo, mbk, mbn, mr, K, N, T, O_, BK, BN, RW, ys, ya, E, rfl, hz, hg, hno, hE⟩ := hI
  rcases hE with ⟨rfl, rfl⟩ | ⟨rfl, q, e0, a0, iv, wk, KW, VW, hq, rfl, rfl, rfl, rfl, rfl, hkw, hvw⟩
  · have hP : va_P D vwCl [jO dk 0 [xr, .int (nI 0), .int (nI g), .ref k0, .ref n0, .ref t0, .int (nI z), .ref o0], jA k0 B.1 32 K, jA n0 B.1 32 N, jA t0 B.1 256 T, jA o0 B.1 no O_, jO md 2 [.ref mk, .ref mn, .ref mt, .int (nI z), .ref mo, .int (nI 0), .int (nI g), .ref mbk, .ref mbn, .ref mr, ys, ya], jA mk B.1 32 K, jA mn B.1 32 N, jA mt B.1 256 T, jA mo B.1 no O_, jA mbk B.1 16 BK, jA mbn B.1 16 BN, jA mr B.2 256 RW] H := hP
    have hD : va_D A [jO dk 0 [xr, .int (nI 0), .int (nI g), .ref k0, .ref n0, .ref t0, .int (nI z), .ref o0], jA k0 B.1 32 K, jA n0 B.1 32 N, jA t0 B.1 256 T, jA o0 B.1 no O_, jO md 2 [.ref mk, .ref mn, .ref mt, .int (nI z), .ref mo, .int (nI 0), .int (nI g), .ref mbk, .ref mbn, .ref mr, ys, ya], jA mk B.1 32 K, jA mn B.1 32 N, jA mt B.1 256 T, jA mo B.1 no O_, jA mbk B.1 16 BK, jA mbn B.1 16 BN, jA mr B.2 256 RW] := hD
    refine lv_aload_n hx hb dL_law_334 rfl (lv_at hl 1 rfl) ?_
    refine lv_aload_n hx hb dL_law_335 rfl (lv_at hl 0 rfl) ?_
    refine lv_iload_n hx hb dL_law_336 rfl (lv_at hl 3 rfl) ?_
    refine lv_iconst (v := nI 1) hx hb dL_law_337 (by decide) ?_
    refine lv_iadd hx hb dL_law_338 ?_
    refine jas (y := nI (6 * j + 1)) (nI_add _ _) ?_
    refine jsld hx hb hX hbl hbA hS (6 * j + 1) (by omega) (by omega) dL_law_339 ?_
    refine jcalli (ws := [jO dk 0 [xr, .int (nI 0), .int (nI g), .ref k0, .ref n0, .ref t0, .int (nI z), .ref o0], jA k0 B.1 32 K, jA n0 B.1 32 N, jA t0 B.1 256 T, jA o0 B.1 no O_, jO md 2 [.ref mk, .ref mn, .ref mt, .int (nI z), .ref mo, .int (nI 0), .int (nI g), .ref mbk, .ref mbn, .ref mr, ys, ya], jA mk B.1 32 K, jA mn B.1 32 N, jA mt B.1 256 T, jA mo B.1 no O_, jA mbk B.1 16 BK, jA mbn B.1 16 BN, jA mr B.2 256 RW]) (wc := [jO dk 0 [xr, .int (nI 0), .int (nI g), .ref k0, .ref n0, .ref t0, .int (nI z), .ref o0]]) [0] rfl (by decide) (fun _ => rfl) hP hD hS hA (va_runV (C := RX0) (b := dk) (As := [.int (sc (6 * j + 1))]) (rest := []) ⟨hx, hb, hml, hown, hts⟩ (metX0_one_no l D B H.size dk (sc (6 * j + 1)) (xr) (.int (nI g)) (.ref k0) (.ref n0) (.ref t0) (.int (nI z)) (.ref o0)) (cwV 1 hts (lw_V q282 q283 q284 q9 q285) rfl rfl rfl (by decide +kernel) ⟨Nat.le_of_ble_eq_true rfl, Nat.le_of_ble_eq_true rfl⟩) (jPreV (ci := 0) (q0 := 0) hK (hP.sub (ws' := [jO dk 0 [xr, .int (nI 0), .int (nI g), .ref k0, .ref n0, .ref t0, .int (nI z), .ref o0]]) [0] rfl) (hD.sub (ws' := [jO dk 0 [xr, .int (nI 0), .int (nI g), .ref k0, .ref n0, .ref t0, .int (nI z), .ref o0]]) [0] (by decide) rfl) rfl rfl) rfl rfl hl.1 rfl (lv_room (Nat.le_of_ble_eq_true rfl)) dL_law_340 ⟨by show cells + 0 ≤ 600128; omega, by show slots + 0 ≤ 7301098; omega⟩) (fun r_340 _ H locs hu hP hD hS => ?_)
    subst hu
    have hP : va_P D vwCl [jO dk 0 [xr, .int (nI 0), .int (nI g), .ref k0, .ref n0, .ref t0, .int (nI z), .ref o0], jA k0 B.1 32 K, jA n0 B.1 32 N, jA t0 B.1 256 T, jA o0 B.1 no O_, jO md 2 [.ref mk, .ref mn, .ref mt, .int (nI z), .ref mo, .int (nI 0), .int (nI g), .ref mbk, .ref mbn, .ref mr, ys, ya], jA mk B.1 32 K, jA mn B.1 32 N, jA mt B.1 256 T, jA mo B.1 no O_, jA mbk B.1 16 BK, jA mbn B.1 16 BN, jA mr B.2 256 RW] H := hP
    have hD : va_D A [jO dk 0 [xr, .int (nI 0), .int (nI g), .ref k0, .ref n0, .ref t0, .int (nI z), .ref o0], jA k0 B.1 32 K, jA n0 B.1 32 N, jA t0 B.1 256 T, jA o0 B.1 no O_, jO md 2 [.ref mk, .ref mn, .ref mt, .int (nI z), .ref mo, .int (nI 0), .int (nI g), .ref mbk, .ref mbn, .ref mr, ys, ya], jA mk B.1 32 K, jA mn B.1 32 N, jA mt B.1 256 T, jA mo B.1 no O_, jA mbk B.1 16 BK, jA mbn B.1 16 BN, jA mr B.2 256 RW] := hD
    refine lv_aload_n hx hb dL_law_343 rfl (lv_at hl 2 rfl) ?_
    refine lv_aload_n hx hb dL_law_344 rfl (lv_at hl 0 rfl) ?_
    refine lv_iload_n hx hb dL_law_345 rfl (lv_at hl 3 rfl) ?_
    refine lv_iconst (v := nI 1) hx hb dL_law_346 (by decide) ?_
    refine lv_iadd hx hb dL_law_347 ?_
    refine jas (y := nI (6 * j + 1)) (nI_add _ _) ?_
    refine jsld hx hb hX hbl hbA hS (6 * j + 1) (by omega) (by omega) dL_law_348 ?_
    refine jcalli (ws := [jO dk 0 [xr, .int (nI 0), .int (nI g), .ref k0, .ref n0, .ref t0, .int (nI z), .ref o0], jA k0 B.1 32 K, jA n0 B.1 32 N, jA t0 B.1 256 T, jA o0 B.1 no O_, jO md 2 [.ref mk, .ref mn, .ref mt, .int (nI z), .ref mo, .int (nI 0), .int (nI g), .ref mbk, .ref mbn, .ref mr, ys, ya], jA mk B.1 32 K, jA mn B.1 32 N, jA mt B.1 256 T, jA mo B.1 no O_, jA mbk B.1 16 BK, jA mbn B.1 16 BN, jA mr B.2 256 RW]) (wc := [jO md 2 [.ref mk, .ref mn, .ref mt, .int (nI z), .ref mo, .int (nI 0), .int (nI g), .ref mbk, .ref mbn, .ref mr, ys, ya]]) [5] rfl (by decide) (fun _ => rfl) hP hD hS hA (va_runV (C := RX2) (b := md) (As := [.int (sc (6 * j + 1))]) (rest := [.int ((-1))]) ⟨hx, hb, hml, hown, hts⟩ (metX2_one_no l D B H.size md (sc (6 * j + 1)) (.ref mk) (.ref mn) (.ref mt) (.int (nI z)) (.ref mo) (.int (nI g)) (.ref mbk) (.ref mbn) (.ref mr) (ys) (ya)) (cwV 1 hts (lw_V q397 q398 q399 q11 q400) rfl rfl rfl (by decide +kernel) ⟨Nat.le_of_ble_eq_true rfl, Nat.le_of_ble_eq_true rfl⟩) (jPreV (ci := 2) (q0 := 0) hK (hP.sub (ws' := [jO md 2 [.ref mk, .ref mn, .ref mt, .int (nI z), .ref mo, .int (nI 0), .int (nI g), .ref mbk, .ref mbn, .ref mr, ys, ya]]) [5] rfl) (hD.sub (ws' := [jO md 2 [.ref mk, .ref mn, .ref mt, .int (nI z), .ref mo, .int (nI 0), .int (nI g), .ref mbk, .ref mbn, .ref mr, ys, ya]]) [5] (by decide) rfl) rfl rfl) rfl rfl hl.1 rfl (lv_room (Nat.le_of_ble_eq_true rfl)) dL_law_349 ⟨by show cells + 0 + 0 ≤ 600128; omega, by show slots + 0 + 0 ≤ 7301098; omega⟩) (fun r_349 _ H locs hu hP hD hS => ?_)
    subst hu
    have hP : va_P D vwCl [jO dk 0 [xr, .int (nI 0), .int (nI g), .ref k0, .ref n0, .ref t0, .int (nI z), .ref o0], jA k0 B.1 32 K, jA n0 B.1 32 N, jA t0 B.1 256 T, jA o0 B.1 no O_, jO md 2 [.ref mk, .ref mn, .ref mt, .int (nI z), .ref mo, .int (nI 0), .int (nI g), .ref mbk, .ref mbn, .ref mr, ys, ya], jA mk B.1 32 K, jA mn B.1 32 N, jA mt B.1 256 T, jA mo B.1 no O_, jA mbk B.1 16 BK, jA mbn B.1 16 BN, jA mr B.2 256 RW] H := hP
    have hD : va_D A [jO dk 0 [xr, .int (nI 0), .int (nI g), .ref k0, .ref n0, .ref t0, .int (nI z), .ref o0], jA k0 B.1 32 K, jA n0 B.1 32 N, jA t0 B.1 256 T, jA o0 B.1 no O_, jO md 2 [.ref mk, .ref mn, .ref mt, .int (nI z), .ref mo, .int (nI 0), .int (nI g), .ref mbk, .ref mbn, .ref mr, ys, ya], jA mk B.1 32 K, jA mn B.1 32 N, jA mt B.1 256 T, jA mo B.1 no O_, jA mbk B.1 16 BK, jA mbn B.1 16 BN, jA mr B.2 256 RW] := hD
    refine lv_icmp_eq (tgt := 391) hx hb dL_law_352 (by decide) (fun c_352 => ?_) (fun c_352 => ?_)
    · refine W.widen (k := cells + 10) (n := slots + 600) (by show cells + 0 + 0 ≤ cells + 10; omega) (by show slots + 0 + 0 ≤ slots + 600; omega) ?_
      exact kk _ H _ ls ⟨xr, 0, g, z, no, k0, n0, t0, o0, mk, mn, mt, mo, mbk, mbn, mr, K, N, T, O_, BK, BN, RW, ys, ya, [], rfl, hz, hg, hno, Or.inl ⟨rfl, rfl⟩⟩ hP hD hS hl
    · exact absurd rfl c_352
  · have hP : va_P D vwCl [jO dk 0 [.ref e0, .int (nI 1), .int (nI g), .ref k0, .ref n0, .ref t0, .int (nI z), .ref o0], jA k0 B.1 32 K, jA n0 B.1 32 N, jA t0 B.1 256 T, jA o0 B.1 no O_, jO md 2 [.ref mk, .ref mn, .ref mt, .int (nI z), .ref mo, .int (nI 1), .int (nI g), .ref mbk, .ref mbn, .ref mr, .int (nI q.2.1), .int (nI q.2.2)], jA mk B.1 32 K, jA mn B.1 32 N, jA mt B.1 256 T, jA mo B.1 no O_, jA mbk B.1 16 BK, jA mbn B.1 16 BN, jA mr B.2 256 (nP q.1), jO e0 1 [.int (bI q.2.2), .ref a0, .int (bI q.2.1), .ref iv, .ref wk], jA a0 B.1 256 (bP q.1), jA iv B.1 16 VW, jA wk B.1 16 KW] H := hP
    have hD : va_D A [jO dk 0 [.ref e0, .int (nI 1), .int (nI g), .ref k0, .ref n0, .ref t0, .int (nI z), .ref o0], jA k0 B.1 32 K, jA n0 B.1 32 N, jA t0 B.1 256 T, jA o0 B.1 no O_, jO md 2 [.ref mk, .ref mn, .ref mt, .int (nI z), .ref mo, .int (nI 1), .int (nI g), .ref mbk, .ref mbn, .ref mr, .int (nI q.2.1), .int (nI q.2.2)], jA mk B.1 32 K, jA mn B.1 32 N, jA mt B.1 256 T, jA mo B.1 no O_, jA mbk B.1 16 BK, jA mbn B.1 16 BN, jA mr B.2 256 (nP q.1), jO e0 1 [.int (bI q.2.2), .ref a0, .int (bI q.2.1), .ref iv, .ref wk], jA a0 B.1 256 (bP q.1), jA iv B.1 16 VW, jA wk B.1 16 KW] := hD
    by_cases hc : 1024 ≤ g
    · refine lv_aload_n hx hb dL_law_334 rfl (lv_at hl 1 rfl) ?_
      refine lv_aload_n hx hb dL_law_335 rfl (lv_at hl 0 rfl) ?_
      refine lv_iload_n hx hb dL_law_336 rfl (lv_at hl 3 rfl) ?_
      refine lv_iconst (v := nI 1) hx hb dL_law_337 (by decide) ?_
      refine lv_iadd hx hb dL_law_338 ?_
      refine jas (y := nI (6 * j + 1)) (nI_add _ _) ?_
      refine jsld hx hb hX hbl hbA hS (6 * j + 1) (by omega) (by omega) dL_law_339 ?_
      refine jcalli (ws := [jO dk 0 [.ref e0, .int (nI 1), .int (nI g), .ref k0, .ref n0, .ref t0, .int (nI z), .ref o0], jA k0 B.1 32 K, jA n0 B.1 32 N, jA t0 B.1 256 T, jA o0 B.1 no O_, jO md 2 [.ref mk, .ref mn, .ref mt, .int (nI z), .ref mo, .int (nI 1), .int (nI g), .ref mbk, .ref mbn, .ref mr, .int (nI q.2.1), .int (nI q.2.2)], jA mk B.1 32 K, jA mn B.1 32 N, jA mt B.1 256 T, jA mo B.1 no O_, jA mbk B.1 16 BK, jA mbn B.1 16 BN, jA mr B.2 256 (nP q.1), jO e0 1 [.int (bI q.2.2), .ref a0, .int (bI q.2.1), .ref iv, .ref wk], jA a0 B.1 256 (bP q.1), jA iv B.1 16 VW, jA wk B.1 16 KW]) (wc := [jO dk 0 [.ref e0, .int (nI 1), .int (nI g), .ref k0, .ref n0, .ref t0, .int (nI z), .ref o0]]) [0] rfl (by decide) (fun _ => rfl) hP hD hS hA (va_runV (C := RX0) (b := dk) (As := [.int (sc (6 * j + 1))]) (rest := []) ⟨hx, hb, hml, hown, hts⟩ (metX0_one_full l D B H.size dk g hc (by omega) (sc (6 * j + 1)) (.ref e0) (.ref k0) (.ref n0) (.ref t0) (.int (nI z)) (.ref o0)) (cwV 1 hts (lw_V q282 q283 q284 q9 q285) rfl rfl rfl (by decide +kernel) ⟨Nat.le_of_ble_eq_true rfl, Nat.le_of_ble_eq_true rfl⟩) (jPreV (ci := 0) (q0 := 0) hK (hP.sub (ws' := [jO dk 0 [.ref e0, .int (nI 1), .int (nI g), .ref k0, .ref n0, .ref t0, .int (nI z), .ref o0]]) [0] rfl) (hD.sub (ws' := [jO dk 0 [.ref e0, .int (nI 1), .int (nI g), .ref k0, .ref n0, .ref t0, .int (nI z), .ref o0]]) [0] (by decide) rfl) rfl rfl) rfl rfl hl.1 rfl (lv_room (Nat.le_of_ble_eq_true rfl)) dL_law_340 ⟨by show cells + 0 ≤ 600128; omega, by show slots + 0 ≤ 7301098; omega⟩) (fun r_340 _ H locs hu hP hD hS => ?_)
      subst hu
      have hP : va_P D vwCl [jO dk 0 [.ref e0, .int (nI 1), .int (nI g), .ref k0, .ref n0, .ref t0, .int (nI z), .ref o0], jA k0 B.1 32 K, jA n0 B.1 32 N, jA t0 B.1 256 T, jA o0 B.1 no O_, jO md 2 [.ref mk, .ref mn, .ref mt, .int (nI z), .ref mo, .int (nI 1), .int (nI g), .ref mbk, .ref mbn, .ref mr, .int (nI q.2.1), .int (nI q.2.2)], jA mk B.1 32 K, jA mn B.1 32 N, jA mt B.1 256 T, jA mo B.1 no O_, jA mbk B.1 16 BK, jA mbn B.1 16 BN, jA mr B.2 256 (nP q.1), jO e0 1 [.int (bI q.2.2), .ref a0, .int (bI q.2.1), .ref iv, .ref wk], jA a0 B.1 256 (bP q.1), jA iv B.1 16 VW, jA wk B.1 16 KW] H := hP
      have hD : va_D A [jO dk 0 [.ref e0, .int (nI 1), .int (nI g), .ref k0, .ref n0, .ref t0, .int (nI z), .ref o0], jA k0 B.1 32 K, jA n0 B.1 32 N, jA t0 B.1 256 T, jA o0 B.1 no O_, jO md 2 [.ref mk, .ref mn, .ref mt, .int (nI z), .ref mo, .int (nI 1), .int (nI g), .ref mbk, .ref mbn, .ref mr, .int (nI q.2.1), .int (nI q.2.2)], jA mk B.1 32 K, jA mn B.1 32 N, jA mt B.1 256 T, jA mo B.1 no O_, jA mbk B.1 16 BK, jA mbn B.1 16 BN, jA mr B.2 256 (nP q.1), jO e0 1 [.int (bI q.2.2), .ref a0, .int (bI q.2.1), .ref iv, .ref wk], jA a0 B.1 256 (bP q.1), jA iv B.1 16 VW, jA wk B.1 16 KW] := hD
      refine lv_aload_n hx hb dL_law_343 rfl (lv_at hl 2 rfl) ?_
      refine lv_aload_n hx hb dL_law_344 rfl (lv_at hl 0 rfl) ?_
      refine lv_iload_n hx hb dL_law_345 rfl (lv_at hl 3 rfl) ?_
      refine lv_iconst (v := nI 1) hx hb dL_law_346 (by decide) ?_
      refine lv_iadd hx hb dL_law_347 ?_
      refine jas (y := nI (6 * j + 1)) (nI_add _ _) ?_
      refine jsld hx hb hX hbl hbA hS (6 * j + 1) (by omega) (by omega) dL_law_348 ?_
      refine jcalli (ws := [jO dk 0 [.ref e0, .int (nI 1), .int (nI g), .ref k0, .ref n0, .ref t0, .int (nI z), .ref o0], jA k0 B.1 32 K, jA n0 B.1 32 N, jA t0 B.1 256 T, jA o0 B.1 no O_, jO md 2 [.ref mk, .ref mn, .ref mt, .int (nI z), .ref mo, .int (nI 1), .int (nI g), .ref mbk, .ref mbn, .ref mr, .int (nI q.2.1), .int (nI q.2.2)], jA mk B.1 32 K, jA mn B.1 32 N, jA mt B.1 256 T, jA mo B.1 no O_, jA mbk B.1 16 BK, jA mbn B.1 16 BN, jA mr B.2 256 (nP q.1), jO e0 1 [.int (bI q.2.2), .ref a0, .int (bI q.2.1), .ref iv, .ref wk], jA a0 B.1 256 (bP q.1), jA iv B.1 16 VW, jA wk B.1 16 KW]) (wc := [jO md 2 [.ref mk, .ref mn, .ref mt, .int (nI z), .ref mo, .int (nI 1), .int (nI g), .ref mbk, .ref mbn, .ref mr, .int (nI q.2.1), .int (nI q.2.2)]]) [5] rfl (by decide) (fun _ => rfl) hP hD hS hA (va_runV (C := RX2) (b := md) (As := [.int (sc (6 * j + 1))]) (rest := [.int ((-2))]) ⟨hx, hb, hml, hown, hts⟩ (metX2_one_full l D B H.size md g hc (by omega) (sc (6 * j + 1)) (.ref mk) (.ref mn) (.ref mt) (.int (nI z)) (.ref mo) (.ref mbk) (.ref mbn) (.ref mr) (.int (nI q.2.1)) (.int (nI q.2.2))) (cwV 1 hts (lw_V q397 q398 q399 q11 q400) rfl rfl rfl (by decide +kernel) ⟨Nat.le_of_ble_eq_true rfl, Nat.le_of_ble_eq_true rfl⟩) (jPreV (ci := 2) (q0 := 0) hK (hP.sub (ws' := [jO md 2 [.ref mk, .ref mn, .ref mt, .int (nI z), .ref mo, .int (nI 1), .int (nI g), .ref mbk, .ref mbn, .ref mr, .int (nI q.2.1), .int (nI q.2.2)]]) [5] rfl) (hD.sub (ws' := [jO md 2 [.ref mk, .ref mn, .ref mt, .int (nI z), .ref mo, .int (nI 1), .int (nI g), .ref mbk, .ref mbn, .ref mr, .int (nI q.2.1), .int (nI q.2.2)]]) [5] (by decide) rfl) rfl rfl) rfl rfl hl.1 rfl (lv_room (Nat.le_of_ble_eq_true rfl)) dL_law_349 ⟨by show cells + 0 + 0 ≤ 600128; omega, by show slots + 0 + 0 ≤ 7301098; omega⟩) (fun r_349 _ H locs hu hP hD hS => ?_)
      subst hu
      have hP : va_P D vwCl [jO dk 0 [.ref e0, .int (nI 1), .int (nI g), .ref k0, .ref n0, .ref t0, .int (nI z), .ref o0], jA k0 B.1 32 K, jA n0 B.1 32 N, jA t0 B.1 256 T, jA o0 B.1 no O_, jO md 2 [.ref mk, .ref mn, .ref mt, .int (nI z), .ref mo, .int (nI 1), .int (nI g), .ref mbk, .ref mbn, .ref mr, .int (nI q.2.1), .int (nI q.2.2)], jA mk B.1 32 K, jA mn B.1 32 N, jA mt B.1 256 T, jA mo B.1 no O_, jA mbk B.1 16 BK, jA mbn B.1 16 BN, jA mr B.2 256 (nP q.1), jO e0 1 [.int (bI q.2.2), .ref a0, .int (bI q.2.1), .ref iv, .ref wk], jA a0 B.1 256 (bP q.1), jA iv B.1 16 VW, jA wk B.1 16 KW] H := hP
      have hD : va_D A [jO dk 0 [.ref e0, .int (nI 1), .int (nI g), .ref k0, .ref n0, .ref t0, .int (nI z), .ref o0], jA k0 B.1 32 K, jA n0 B.1 32 N, jA t0 B.1 256 T, jA o0 B.1 no O_, jO md 2 [.ref mk, .ref mn, .ref mt, .int (nI z), .ref mo, .int (nI 1), .int (nI g), .ref mbk, .ref mbn, .ref mr, .int (nI q.2.1), .int (nI q.2.2)], jA mk B.1 32 K, jA mn B.1 32 N, jA mt B.1 256 T, jA mo B.1 no O_, jA mbk B.1 16 BK, jA mbn B.1 16 BN, jA mr B.2 256 (nP q.1), jO e0 1 [.int (bI q.2.2), .ref a0, .int (bI q.2.1), .ref iv, .ref wk], jA a0 B.1 256 (bP q.1), jA iv B.1 16 VW, jA wk B.1 16 KW] := hD
      refine lv_icmp_eq (tgt := 391) hx hb dL_law_352 (by decide) (fun c_352 => ?_) (fun c_352 => ?_)
      · refine W.widen (k := cells + 10) (n := slots + 600) (by show cells + 0 + 0 ≤ cells + 10; omega) (by show slots + 0 + 0 ≤ slots + 600; omega) ?_
        exact kk _ H _ ls ⟨.ref e0, 1, g, z, no, k0, n0, t0, o0, mk, mn, mt, mo, mbk, mbn, mr, K, N, T, O_, BK, BN, nP q.1, .int (nI q.2.1), .int (nI q.2.2), [jO e0 1 [.int (bI q.2.2), .ref a0, .int (bI q.2.1), .ref iv, .ref wk], jA a0 B.1 256 (bP q.1), jA iv B.1 16 VW, jA wk B.1 16 KW], rfl, hz, hg, hno, Or.inr ⟨rfl, q, e0, a0, iv, wk, KW, VW, hq, rfl, rfl, rfl, rfl, rfl, hkw, hvw⟩⟩ hP hD hS hl
      · exact absurd rfl c_352
    · refine lv_aload_n hx hb dL_law_334 rfl (lv_at hl 1 rfl) ?_
      refine lv_aload_n hx hb dL_law_335 rfl (lv_at hl 0 rfl) ?_
      refine lv_iload_n hx hb dL_law_336 rfl (lv_at hl 3 rfl) ?_
      refine lv_iconst (v := nI 1) hx hb dL_law_337 (by decide) ?_
      refine lv_iadd hx hb dL_law_338 ?_
      refine jas (y := nI (6 * j + 1)) (nI_add _ _) ?_
      refine jsld hx hb hX hbl hbA hS (6 * j + 1) (by omega) (by omega) dL_law_339 ?_
      refine jcalli (ws := [jO dk 0 [.ref e0, .int (nI 1), .int (nI g), .ref k0, .ref n0, .ref t0, .int (nI z), .ref o0], jA k0 B.1 32 K, jA n0 B.1 32 N, jA t0 B.1 256 T, jA o0 B.1 no O_, jO md 2 [.ref mk, .ref mn, .ref mt, .int (nI z), .ref mo, .int (nI 1), .int (nI g), .ref mbk, .ref mbn, .ref mr, .int (nI q.2.1), .int (nI q.2.2)], jA mk B.1 32 K, jA mn B.1 32 N, jA mt B.1 256 T, jA mo B.1 no O_, jA mbk B.1 16 BK, jA mbn B.1 16 BN, jA mr B.2 256 (nP q.1), jO e0 1 [.int (bI q.2.2), .ref a0, .int (bI q.2.1), .ref iv, .ref wk], jA a0 B.1 256 (bP q.1), jA iv B.1 16 VW, jA wk B.1 16 KW]) (wc := [jO dk 0 [.ref e0, .int (nI 1), .int (nI g), .ref k0, .ref n0, .ref t0, .int (nI z), .ref o0], jO e0 1 [.int (bI q.2.2), .ref a0, .int (bI q.2.1), .ref iv, .ref wk], jA a0 B.1 256 (bP q.1)]) [0, 13, 14] rfl (by decide) (fun _ => rfl) hP hD hS hA (va_runV (C := RX0) (b := dk) (As := [.int (sc (6 * j + 1))]) (rest := []) ⟨hx, hb, hml, hown, hts⟩ (metX0_one_ok l D B H.size dk e0 a0 g (by omega) q hq (sc (6 * j + 1)) (.ref iv) (.ref wk) (.ref k0) (.ref n0) (.ref t0) (.int (nI z)) (.ref o0)) (cwV 1 hts (lw_V q282 q283 q284 q9 q285) rfl rfl rfl (by decide +kernel) ⟨Nat.le_of_ble_eq_true rfl, Nat.le_of_ble_eq_true rfl⟩) (jPreV (ci := 0) (q0 := 0) hK (hP.sub (ws' := [jO dk 0 [.ref e0, .int (nI 1), .int (nI g), .ref k0, .ref n0, .ref t0, .int (nI z), .ref o0], jO e0 1 [.int (bI q.2.2), .ref a0, .int (bI q.2.1), .ref iv, .ref wk], jA a0 B.1 256 (bP q.1)]) [0, 13, 14] rfl) (hD.sub (ws' := [jO dk 0 [.ref e0, .int (nI 1), .int (nI g), .ref k0, .ref n0, .ref t0, .int (nI z), .ref o0], jO e0 1 [.int (bI q.2.2), .ref a0, .int (bI q.2.1), .ref iv, .ref wk], jA a0 B.1 256 (bP q.1)]) [0, 13, 14] (by decide) rfl) rfl rfl) rfl rfl hl.1 rfl (lv_room (Nat.le_of_ble_eq_true rfl)) dL_law_340 ⟨by show cells + 0 ≤ 600128; omega, by show slots + 0 ≤ 7301098; omega⟩) (fun r_340 _ H locs hu hP hD hS => ?_)
      subst hu
      have hP : va_P D vwCl [jO dk 0 [.ref e0, .int (nI 1), .int (nI (g + 1)), .ref k0, .ref n0, .ref t0, .int (nI z), .ref o0], jA k0 B.1 32 K, jA n0 B.1 32 N, jA t0 B.1 256 T, jA o0 B.1 no O_, jO md 2 [.ref mk, .ref mn, .ref mt, .int (nI z), .ref mo, .int (nI 1), .int (nI g), .ref mbk, .ref mbn, .ref mr, .int (nI q.2.1), .int (nI q.2.2)], jA mk B.1 32 K, jA mn B.1 32 N, jA mt B.1 256 T, jA mo B.1 no O_, jA mbk B.1 16 BK, jA mbn B.1 16 BN, jA mr B.2 256 (nP q.1), jO e0 1 [.int (bI (nx q).2.2), .ref a0, .int (bI (nx q).2.1), .ref iv, .ref wk], jA a0 B.1 256 (bP (nx q).1), jA iv B.1 16 VW, jA wk B.1 16 KW] H := hP
      have hD : va_D A [jO dk 0 [.ref e0, .int (nI 1), .int (nI (g + 1)), .ref k0, .ref n0, .ref t0, .int (nI z), .ref o0], jA k0 B.1 32 K, jA n0 B.1 32 N, jA t0 B.1 256 T, jA o0 B.1 no O_, jO md 2 [.ref mk, .ref mn, .ref mt, .int (nI z), .ref mo, .int (nI 1), .int (nI g), .ref mbk, .ref mbn, .ref mr, .int (nI q.2.1), .int (nI q.2.2)], jA mk B.1 32 K, jA mn B.1 32 N, jA mt B.1 256 T, jA mo B.1 no O_, jA mbk B.1 16 BK, jA mbn B.1 16 BN, jA mr B.2 256 (nP q.1), jO e0 1 [.int (bI (nx q).2.2), .ref a0, .int (bI (nx q).2.1), .ref iv, .ref wk], jA a0 B.1 256 (bP (nx q).1), jA iv B.1 16 VW, jA wk B.1 16 KW] := hD
      refine lv_aload_n hx hb dL_law_343 rfl (lv_at hl 2 rfl) ?_
      refine lv_aload_n hx hb dL_law_344 rfl (lv_at hl 0 rfl) ?_
      refine lv_iload_n hx hb dL_law_345 rfl (lv_at hl 3 rfl) ?_
      refine lv_iconst (v := nI 1) hx hb dL_law_346 (by decide) ?_
      refine lv_iadd hx hb dL_law_347 ?_
      refine jas (y := nI (6 * j + 1)) (nI_add _ _) ?_
      refine jsld hx hb hX hbl hbA hS (6 * j + 1) (by omega) (by omega) dL_law_348 ?_
      refine jcalli (ws := [jO dk 0 [.ref e0, .int (nI 1), .int (nI (g + 1)), .ref k0, .ref n0, .ref t0, .int (nI z), .ref o0], jA k0 B.1 32 K, jA n0 B.1 32 N, jA t0 B.1 256 T, jA o0 B.1 no O_, jO md 2 [.ref mk, .ref mn, .ref mt, .int (nI z), .ref mo, .int (nI 1), .int (nI g), .ref mbk, .ref mbn, .ref mr, .int (nI q.2.1), .int (nI q.2.2)], jA mk B.1 32 K, jA mn B.1 32 N, jA mt B.1 256 T, jA mo B.1 no O_, jA mbk B.1 16 BK, jA mbn B.1 16 BN, jA mr B.2 256 (nP q.1), jO e0 1 [.int (bI (nx q).2.2), .ref a0, .int (bI (nx q).2.1), .ref iv, .ref wk], jA a0 B.1 256 (bP (nx q).1), jA iv B.1 16 VW, jA wk B.1 16 KW]) (wc := [jO md 2 [.ref mk, .ref mn, .ref mt, .int (nI z), .ref mo, .int (nI 1), .int (nI g), .ref mbk, .ref mbn, .ref mr, .int (nI q.2.1), .int (nI q.2.2)], jA mr B.2 256 (nP q.1)]) [5, 12] rfl (by decide) (fun _ => rfl) hP hD hS hA (va_runV (C := RX2) (b := md) (As := [.int (sc (6 * j + 1))]) (rest := [.int (((sc (6 * j + 1)) ^^^ nI (nz q)) &&& nI 255)]) ⟨hx, hb, hml, hown, hts⟩ (metX2_one_ok l D B H.size md mr g (by omega) q hq (sc (6 * j + 1)) (.ref mk) (.ref mn) (.ref mt) (.int (nI z)) (.ref mo) (.ref mbk) (.ref mbn)) (cwV 1 hts (lw_V q397 q398 q399 q11 q400) rfl rfl rfl (by decide +kernel) ⟨Nat.le_of_ble_eq_true rfl, Nat.le_of_ble_eq_true rfl⟩) (jPreV (ci := 2) (q0 := 0) hK (hP.sub (ws' := [jO md 2 [.ref mk, .ref mn, .ref mt, .int (nI z), .ref mo, .int (nI 1), .int (nI g), .ref mbk, .ref mbn, .ref mr, .int (nI q.2.1), .int (nI q.2.2)], jA mr B.2 256 (nP q.1)]) [5, 12] rfl) (hD.sub (ws' := [jO md 2 [.ref mk, .ref mn, .ref mt, .int (nI z), .ref mo, .int (nI 1), .int (nI g), .ref mbk, .ref mbn, .ref mr, .int (nI q.2.1), .int (nI q.2.2)], jA mr B.2 256 (nP q.1)]) [5, 12] (by decide) rfl) rfl rfl) rfl rfl hl.1 rfl (lv_room (Nat.le_of_ble_eq_true rfl)) dL_law_349 ⟨by show cells + 0 + 0 ≤ 600128; omega, by show slots + 0 + 0 ≤ 7301098; omega⟩) (fun r_349 _ H locs hu hP hD hS => ?_)
      subst hu
      have hP : va_P D vwCl [jO dk 0 [.ref e0, .int (nI 1), .int (nI (g + 1)), .ref k0, .ref n0, .ref t0, .int (nI z), .ref o0], jA k0 B.1 32 K, jA n0 B.1 32 N, jA t0 B.1 256 T, jA o0 B.1 no O_, jO md 2 [.ref mk, .ref mn, .ref mt, .int (nI z), .ref mo, .int (nI 1), .int (nI (g + 1)), .ref mbk, .ref mbn, .ref mr, .int (nI (nx q).2.1), .int (nI (nx q).2.2)], jA mk B.1 32 K, jA mn B.1 32 N, jA mt B.1 256 T, jA mo B.1 no O_, jA mbk B.1 16 BK, jA mbn B.1 16 BN, jA mr B.2 256 (nP (nx q).1), jO e0 1 [.int (bI (nx q).2.2), .ref a0, .int (bI (nx q).2.1), .ref iv, .ref wk], jA a0 B.1 256 (bP (nx q).1), jA iv B.1 16 VW, jA wk B.1 16 KW] H := hP
      have hD : va_D A [jO dk 0 [.ref e0, .int (nI 1), .int (nI (g + 1)), .ref k0, .ref n0, .ref t0, .int (nI z), .ref o0], jA k0 B.1 32 K, jA n0 B.1 32 N, jA t0 B.1 256 T, jA o0 B.1 no O_, jO md 2 [.ref mk, .ref mn, .ref mt, .int (nI z), .ref mo, .int (nI 1), .int (nI (g + 1)), .ref mbk, .ref mbn, .ref mr, .int (nI (nx q).2.1), .int (nI (nx q).2.2)], jA mk B.1 32 K, jA mn B.1 32 N, jA mt B.1 256 T, jA mo B.1 no O_, jA mbk B.1 16 BK, jA mbn B.1 16 BN, jA mr B.2 256 (nP (nx q).1), jO e0 1 [.int (bI (nx q).2.2), .ref a0, .int (bI (nx q).2.1), .ref iv, .ref wk], jA a0 B.1 256 (bP (nx q).1), jA iv B.1 16 VW, jA wk B.1 16 KW] := hD
      refine lv_icmp_eq (tgt := 391) hx hb dL_law_352 (by decide) (fun c_352 => ?_) (fun c_352 => ?_)
      · refine W.widen (k := cells + 10) (n := slots + 600) (by show cells + 0 + 0 ≤ cells + 10; omega) (by show slots + 0 + 0 ≤ slots + 600; omega) ?_
        exact kk _ H _ ls ⟨.ref e0, 1, (g + 1), z, no, k0, n0, t0, o0, mk, mn, mt, mo, mbk, mbn, mr, K, N, T, O_, BK, BN, nP (nx q).1, .int (nI (nx q).2.1), .int (nI (nx q).2.2), [jO e0 1 [.int (bI (nx q).2.2), .ref a0, .int (bI (nx q).2.1), .ref iv, .ref wk], jA a0 B.1 256 (bP (nx q).1), jA iv B.1 16 VW, jA wk B.1 16 KW], rfl, hz, (by omega), hno, Or.inr ⟨rfl, (nx q), e0, a0, iv, wk, KW, VW, (okS_nx hq), rfl, rfl, rfl, rfl, rfl, hkw, hvw⟩⟩ hP hD hS hl
      · exact absurd rfl c_352
set_option maxHeartbeats 4000000 in
set_option maxRecDepth 100000 in
theorem stepL_again {p : Program} {l : Launch} {e : Env} {s : State} {m : MethodId} {below : List Frame} {meth : Method} {c : Code} {Q : State → Prop} {cells slots : Nat} {D : va_G} {B : ClassId × ClassId} {A : Nat → Prop} {b L j dk md : Nat} {sc : Nat → Int32} (hx : p.tables.exec = Jvm.exec) (hb : c.code = cL_law) (hml : c.maxLocals = 4) (hown : s.vm.findClass "VmpcDeskLaw" = some m.cls) (hts : ∀ w ∈ lw_all, w.before #[Value.ref b] s = true) (hK : va_K D vwCl (TY B) s) (hA : ∀ q : Nat, s.heap.size ≤ q → A q) (hX : va_X b L sc s s.heap) (hbl : b < s.heap.size) (hbA : ¬ A b) (hL : L ≤ 384) (hj : 6 * j + 6 ≤ L) (hcl : cells + 10 ≤ 600128) (hsl : slots + 600 ≤ 7301098)
    (kk : ∀ (w : va_W) (H : Heap) (locs : List Loc) (ls : Array Slot), LInv B dk md w → va_P D vwCl w H → va_D A w → va_S A s.heap H locs → lv_has ls 4 [(0, .ref b), (1, .ref dk), (2, .ref md), (3, .int (nI (6 * j)))] → W p l e room_1 s m #[Value.ref b] below meth c H locs (cells + 10) (slots + 600) Q (F0 m 391 ls [])) :
    ∀ (w : va_W) (H : Heap) (locs : List Loc) (ls : Array Slot), LInv B dk md w → va_P D vwCl w H → va_D A w → va_S A s.heap H locs → lv_has ls 4 [(0, .ref b), (1, .ref dk), (2, .ref md), (3, .int (nI (6 * j)))] → W p l e room_1 s m #[Value.ref b] below meth c H locs cells slots Q (F0 m 357 ls []) := by
  intro w H locs ls hI hP hD hS hl
  obtain ⟨xr, v, g, z, no, k0, n0, t0, o0, mk, mn, mt, mo, mbk, mbn, mr, K, N, T, O_, BK, BN, RW, ys, ya, E, rfl, hz, hg, hno, hE⟩ := hI
  rcases hE with ⟨rfl, rfl⟩ | ⟨rfl, q, e0, a0, iv, wk, KW, VW, hq, rfl, rfl, rfl, rfl, rfl, hkw, hvw⟩
  · have hP : va_P D vwCl [jO dk 0 [xr, .int (nI 0), .int (nI g), .ref k0, .ref n0, .ref t0, .int (nI z), .ref o0], jA k0 B.1 32 K, jA n0 B.1 32 N, jA t0 B.1 256 T, jA o0 B.1 no O_, jO md 2 [.ref mk, .ref mn, .ref mt, .int (nI z), .ref mo, .int (nI 0), .int (nI g), .ref mbk, .ref mbn, .ref mr, ys, ya], jA mk B.1 32 K, jA mn B.1 32 N, jA mt B.1 256 T, jA mo B.1 no O_, jA mbk B.1 16 BK, jA mbn B.1 16 BN, jA mr B.2 256 RW] H := hP
    have hD : va_D A [jO dk 0 [xr, .int (nI 0), .int (nI g), .ref k0, .ref n0, .ref t0, .int (nI z), .ref o0], jA k0 B.1 32 K, jA n0 B.1 32 N, jA t0 B.1 256 T, jA o0 B.1 no O_, jO md 2 [.ref mk, .ref mn, .ref mt, .int (nI z), .ref mo, .int (nI 0), .int (nI g), .ref mbk, .ref mbn, .ref mr, ys, ya], jA mk B.1 32 K, jA mn B.1 32 N, jA mt B.1 256 T, jA mo B.1 no O_, jA mbk B.1 16 BK, jA mbn B.1 16 BN, jA mr B.2 256 RW] := hD
    refine lv_aload_n hx hb dL_law_357 rfl (lv_at hl 1 rfl) ?_
    refine jcallv (ws := [jO dk 0 [xr, .int (nI 0), .int (nI g), .ref k0, .ref n0, .ref t0, .int (nI z), .ref o0], jA k0 B.1 32 K, jA n0 B.1 32 N, jA t0 B.1 256 T, jA o0 B.1 no O_, jO md 2 [.ref mk, .ref mn, .ref mt, .int (nI z), .ref mo, .int (nI 0), .int (nI g), .ref mbk, .ref mbn, .ref mr, ys, ya], jA mk B.1 32 K, jA mn B.1 32 N, jA mt B.1 256 T, jA mo B.1 no O_, jA mbk B.1 16 BK, jA mbn B.1 16 BN, jA mr B.2 256 RW]) (wc := [jO dk 0 [xr, .int (nI 0), .int (nI g), .ref k0, .ref n0, .ref t0, .int (nI z), .ref o0]]) [0] rfl (by decide) (fun _ => rfl) hP hD hS hA (va_runV (C := RX0) (b := dk) (As := []) (rest := []) ⟨hx, hb, hml, hown, hts⟩ (metX0_again_no l D B H.size dk (xr) (.int (nI g)) (.ref k0) (.ref n0) (.ref t0) (.int (nI z)) (.ref o0)) (cwV 0 hts (lw_V q290 q291 q292 q9 q293) rfl rfl rfl (by decide +kernel) ⟨Nat.le_of_ble_eq_true rfl, Nat.le_of_ble_eq_true rfl⟩) (jPreV (ci := 0) (q0 := 0) hK (hP.sub (ws' := [jO dk 0 [xr, .int (nI 0), .int (nI g), .ref k0, .ref n0, .ref t0, .int (nI z), .ref o0]]) [0] rfl) (hD.sub (ws' := [jO dk 0 [xr, .int (nI 0), .int (nI g), .ref k0, .ref n0, .ref t0, .int (nI z), .ref o0]]) [0] (by decide) rfl) rfl rfl) rfl rfl hl.1 rfl (lv_room (Nat.le_of_ble_eq_true rfl)) dL_law_358 ⟨by show cells + 1 ≤ 600128; omega, by show slots + 256 ≤ 7301098; omega⟩) (fun _ H locs hu hP hD hS => ?_)
    have hP : va_P D vwCl [jO dk 0 [xr, .int (nI 0), .int (nI g), .ref k0, .ref n0, .ref t0, .int (nI z), .ref o0], jA k0 B.1 32 K, jA n0 B.1 32 N, jA t0 B.1 256 T, jA o0 B.1 no O_, jO md 2 [.ref mk, .ref mn, .ref mt, .int (nI z), .ref mo, .int (nI 0), .int (nI g), .ref mbk, .ref mbn, .ref mr, ys, ya], jA mk B.1 32 K, jA mn B.1 32 N, jA mt B.1 256 T, jA mo B.1 no O_, jA mbk B.1 16 BK, jA mbn B.1 16 BN, jA mr B.2 256 RW] H := hP
    have hD : va_D A [jO dk 0 [xr, .int (nI 0), .int (nI g), .ref k0, .ref n0, .ref t0, .int (nI z), .ref o0], jA k0 B.1 32 K, jA n0 B.1 32 N, jA t0 B.1 256 T, jA o0 B.1 no O_, jO md 2 [.ref mk, .ref mn, .ref mt, .int (nI z), .ref mo, .int (nI 0), .int (nI g), .ref mbk, .ref mbn, .ref mr, ys, ya], jA mk B.1 32 K, jA mn B.1 32 N, jA mt B.1 256 T, jA mo B.1 no O_, jA mbk B.1 16 BK, jA mbn B.1 16 BN, jA mr B.2 256 RW] := hD
    refine lv_aload_n hx hb dL_law_361 rfl (lv_at hl 2 rfl) ?_
    refine jcallv (ws := [jO dk 0 [xr, .int (nI 0), .int (nI g), .ref k0, .ref n0, .ref t0, .int (nI z), .ref o0], jA k0 B.1 32 K, jA n0 B.1 32 N, jA t0 B.1 256 T, jA o0 B.1 no O_, jO md 2 [.ref mk, .ref mn, .ref mt, .int (nI z), .ref mo, .int (nI 0), .int (nI g), .ref mbk, .ref mbn, .ref mr, ys, ya], jA mk B.1 32 K, jA mn B.1 32 N, jA mt B.1 256 T, jA mo B.1 no O_, jA mbk B.1 16 BK, jA mbn B.1 16 BN, jA mr B.2 256 RW]) (wc := [jO md 2 [.ref mk, .ref mn, .ref mt, .int (nI z), .ref mo, .int (nI 0), .int (nI g), .ref mbk, .ref mbn, .ref mr, ys, ya]]) [5] rfl (by decide) (fun _ => rfl) hP hD hS hA (va_runV (C := RX2) (b := md) (As := []) (rest := []) ⟨hx, hb, hml, hown, hts⟩ (metX2_again_no l D B H.size md (.ref mk) (.ref mn) (.ref mt) (.int (nI z)) (.ref mo) (.int (nI g)) (.ref mbk) (.ref mbn) (.ref mr) (ys) (ya)) (cwV 0 hts (lw_V q401 q402 q403 q11 q404) rfl rfl rfl (by decide +kernel) ⟨Nat.le_of_ble_eq_true rfl, Nat.le_of_ble_eq_true rfl⟩) (jPreV (ci := 2) (q0 := 0) hK (hP.sub (ws' := [jO md 2 [.ref mk, .ref mn, .ref mt, .int (nI z), .ref mo, .int (nI 0), .int (nI g), .ref mbk, .ref mbn, .ref mr, ys, ya]]) [5] rfl) (hD.sub (ws' := [jO md 2 [.ref mk, .ref mn, .ref mt, .int (nI z), .ref mo, .int (nI 0), .int (nI g), .ref mbk, .ref mbn, .ref mr, ys, ya]]) [5] (by decide) rfl) rfl rfl) rfl rfl hl.1 rfl (lv_room (Nat.le_of_ble_eq_true rfl)) dL_law_362 ⟨by show cells + 1 + 0 ≤ 600128; omega, by show slots + 256 + 0 ≤ 7301098; omega⟩) (fun _ H locs hu hP hD hS => ?_)
    have hP : va_P D vwCl [jO dk 0 [xr, .int (nI 0), .int (nI g), .ref k0, .ref n0, .ref t0, .int (nI z), .ref o0], jA k0 B.1 32 K, jA n0 B.1 32 N, jA t0 B.1 256 T, jA o0 B.1 no O_, jO md 2 [.ref mk, .ref mn, .ref mt, .int (nI z), .ref mo, .int (nI 0), .int (nI g), .ref mbk, .ref mbn, .ref mr, ys, ya], jA mk B.1 32 K, jA mn B.1 32 N, jA mt B.1 256 T, jA mo B.1 no O_, jA mbk B.1 16 BK, jA mbn B.1 16 BN, jA mr B.2 256 RW] H := hP
    have hD : va_D A [jO dk 0 [xr, .int (nI 0), .int (nI g), .ref k0, .ref n0, .ref t0, .int (nI z), .ref o0], jA k0 B.1 32 K, jA n0 B.1 32 N, jA t0 B.1 256 T, jA o0 B.1 no O_, jO md 2 [.ref mk, .ref mn, .ref mt, .int (nI z), .ref mo, .int (nI 0), .int (nI g), .ref mbk, .ref mbn, .ref mr, ys, ya], jA mk B.1 32 K, jA mn B.1 32 N, jA mt B.1 256 T, jA mo B.1 no O_, jA mbk B.1 16 BK, jA mbn B.1 16 BN, jA mr B.2 256 RW] := hD
    refine lv_goto (tgt := 391) hx hb dL_law_365 (by decide) ?_
    refine W.widen (k := cells + 10) (n := slots + 600) (by show cells + 1 + 0 ≤ cells + 10; omega) (by show slots + 256 + 0 ≤ slots + 600; omega) ?_
    exact kk _ H _ ls ⟨xr, 0, g, z, no, k0, n0, t0, o0, mk, mn, mt, mo, mbk, mbn, mr, K, N, T, O_, BK, BN, RW, ys, ya, [], rfl, hz, hg, hno, Or.inl ⟨rfl, rfl⟩⟩ hP hD hS hl
  · have hP : va_P D vwCl [jO dk 0 [.ref e0, .int (nI 1), .int (nI g), .ref k0, .ref n0, .ref t0, .int (nI z), .ref o0], jA k0 B.1 32 K, jA n0 B.1 32 N, jA t0 B.1 256 T, jA o0 B.1 no O_, jO md 2 [.ref mk, .ref mn, .ref mt, .int (nI z), .ref mo, .int (nI 1), .int (nI g), .ref mbk, .ref mbn, .ref mr, .int (nI q.2.1), .int (nI q.2.2)], jA mk B.1 32 K, jA mn B.1 32 N, jA mt B.1 256 T, jA mo B.1 no O_, jA mbk B.1 16 BK, jA mbn B.1 16 BN, jA mr B.2 256 (nP q.1), jO e0 1 [.int (bI q.2.2), .ref a0, .int (bI q.2.1), .ref iv, .ref wk], jA a0 B.1 256 (bP q.1), jA iv B.1 16 VW, jA wk B.1 16 KW] H := hP
    have hD : va_D A [jO dk 0 [.ref e0, .int (nI 1), .int (nI g), .ref k0, .ref n0, .ref t0, .int (nI z), .ref o0], jA k0 B.1 32 K, jA n0 B.1 32 N, jA t0 B.1 256 T, jA o0 B.1 no O_, jO md 2 [.ref mk, .ref mn, .ref mt, .int (nI z), .ref mo, .int (nI 1), .int (nI g), .ref mbk, .ref mbn, .ref mr, .int (nI q.2.1), .int (nI q.2.2)], jA mk B.1 32 K, jA mn B.1 32 N, jA mt B.1 256 T, jA mo B.1 no O_, jA mbk B.1 16 BK, jA mbn B.1 16 BN, jA mr B.2 256 (nP q.1), jO e0 1 [.int (bI q.2.2), .ref a0, .int (bI q.2.1), .ref iv, .ref wk], jA a0 B.1 256 (bP q.1), jA iv B.1 16 VW, jA wk B.1 16 KW] := hD
    refine lv_aload_n hx hb dL_law_357 rfl (lv_at hl 1 rfl) ?_
    refine jcallv (ws := [jO dk 0 [.ref e0, .int (nI 1), .int (nI g), .ref k0, .ref n0, .ref t0, .int (nI z), .ref o0], jA k0 B.1 32 K, jA n0 B.1 32 N, jA t0 B.1 256 T, jA o0 B.1 no O_, jO md 2 [.ref mk, .ref mn, .ref mt, .int (nI z), .ref mo, .int (nI 1), .int (nI g), .ref mbk, .ref mbn, .ref mr, .int (nI q.2.1), .int (nI q.2.2)], jA mk B.1 32 K, jA mn B.1 32 N, jA mt B.1 256 T, jA mo B.1 no O_, jA mbk B.1 16 BK, jA mbn B.1 16 BN, jA mr B.2 256 (nP q.1), jO e0 1 [.int (bI q.2.2), .ref a0, .int (bI q.2.1), .ref iv, .ref wk], jA a0 B.1 256 (bP q.1), jA iv B.1 16 VW, jA wk B.1 16 KW]) (wc := [jO dk 0 [.ref e0, .int (nI 1), .int (nI g), .ref k0, .ref n0, .ref t0, .int (nI z), .ref o0], jO e0 1 [.int (bI q.2.2), .ref a0, .int (bI q.2.1), .ref iv, .ref wk], jA wk B.1 16 KW, jA iv B.1 16 VW]) [0, 13, 16, 15] rfl (by decide) (fun _ => rfl) hP hD hS hA (va_runV (C := RX0) (b := dk) (As := []) (rest := []) ⟨hx, hb, hml, hown, hts⟩ (metX0_again_ok l D B H.size dk e0 wk iv KW VW (.int (bI q.2.2)) (.ref a0) (.int (bI q.2.1)) (.int (nI g)) (.ref k0) (.ref n0) (.ref t0) (.int (nI z)) (.ref o0)) (cwV 0 hts (lw_V q290 q291 q292 q9 q293) rfl rfl rfl (by decide +kernel) ⟨Nat.le_of_ble_eq_true rfl, Nat.le_of_ble_eq_true rfl⟩) (jPreV (ci := 0) (q0 := 0) hK (hP.sub (ws' := [jO dk 0 [.ref e0, .int (nI 1), .int (nI g), .ref k0, .ref n0, .ref t0, .int (nI z), .ref o0], jO e0 1 [.int (bI q.2.2), .ref a0, .int (bI q.2.1), .ref iv, .ref wk], jA wk B.1 16 KW, jA iv B.1 16 VW]) [0, 13, 16, 15] rfl) (hD.sub (ws' := [jO dk 0 [.ref e0, .int (nI 1), .int (nI g), .ref k0, .ref n0, .ref t0, .int (nI z), .ref o0], jO e0 1 [.int (bI q.2.2), .ref a0, .int (bI q.2.1), .ref iv, .ref wk], jA wk B.1 16 KW, jA iv B.1 16 VW]) [0, 13, 16, 15] (by decide) rfl) rfl rfl) rfl rfl hl.1 rfl (lv_room (Nat.le_of_ble_eq_true rfl)) dL_law_358 ⟨by show cells + 1 ≤ 600128; omega, by show slots + 256 ≤ 7301098; omega⟩) (fun u H locs hu hP hD hS => ?_)
    have hP : va_P D vwCl [jO dk 0 [.ref e0, .int (nI 1), .int (nI 0), .ref k0, .ref n0, .ref t0, .int (nI z), .ref o0], jA k0 B.1 32 K, jA n0 B.1 32 N, jA t0 B.1 256 T, jA o0 B.1 no O_, jO md 2 [.ref mk, .ref mn, .ref mt, .int (nI z), .ref mo, .int (nI 1), .int (nI g), .ref mbk, .ref mbn, .ref mr, .int (nI q.2.1), .int (nI q.2.2)], jA mk B.1 32 K, jA mn B.1 32 N, jA mt B.1 256 T, jA mo B.1 no O_, jA mbk B.1 16 BK, jA mbn B.1 16 BN, jA mr B.2 256 (nP q.1), jO e0 1 [.int (bI 0), .ref u, .int (bI (setK (fun j => lo8 (KW j)) (fun j => lo8 (VW j))).2), .ref iv, .ref wk], jA a0 B.1 256 (bP q.1), jA iv B.1 16 VW, jA wk B.1 16 KW, jA u B.1 256 (bP (setK (fun j => lo8 (KW j)) (fun j => lo8 (VW j))).1)] H := hP
    have hD : va_D A [jO dk 0 [.ref e0, .int (nI 1), .int (nI 0), .ref k0, .ref n0, .ref t0, .int (nI z), .ref o0], jA k0 B.1 32 K, jA n0 B.1 32 N, jA t0 B.1 256 T, jA o0 B.1 no O_, jO md 2 [.ref mk, .ref mn, .ref mt, .int (nI z), .ref mo, .int (nI 1), .int (nI g), .ref mbk, .ref mbn, .ref mr, .int (nI q.2.1), .int (nI q.2.2)], jA mk B.1 32 K, jA mn B.1 32 N, jA mt B.1 256 T, jA mo B.1 no O_, jA mbk B.1 16 BK, jA mbn B.1 16 BN, jA mr B.2 256 (nP q.1), jO e0 1 [.int (bI 0), .ref u, .int (bI (setK (fun j => lo8 (KW j)) (fun j => lo8 (VW j))).2), .ref iv, .ref wk], jA a0 B.1 256 (bP q.1), jA iv B.1 16 VW, jA wk B.1 16 KW, jA u B.1 256 (bP (setK (fun j => lo8 (KW j)) (fun j => lo8 (VW j))).1)] := hD
    refine lv_aload_n hx hb dL_law_361 rfl (lv_at hl 2 rfl) ?_
    refine jcallv (ws := [jO dk 0 [.ref e0, .int (nI 1), .int (nI 0), .ref k0, .ref n0, .ref t0, .int (nI z), .ref o0], jA k0 B.1 32 K, jA n0 B.1 32 N, jA t0 B.1 256 T, jA o0 B.1 no O_, jO md 2 [.ref mk, .ref mn, .ref mt, .int (nI z), .ref mo, .int (nI 1), .int (nI g), .ref mbk, .ref mbn, .ref mr, .int (nI q.2.1), .int (nI q.2.2)], jA mk B.1 32 K, jA mn B.1 32 N, jA mt B.1 256 T, jA mo B.1 no O_, jA mbk B.1 16 BK, jA mbn B.1 16 BN, jA mr B.2 256 (nP q.1), jO e0 1 [.int (bI 0), .ref u, .int (bI (setK (fun j => lo8 (KW j)) (fun j => lo8 (VW j))).2), .ref iv, .ref wk], jA a0 B.1 256 (bP q.1), jA iv B.1 16 VW, jA wk B.1 16 KW, jA u B.1 256 (bP (setK (fun j => lo8 (KW j)) (fun j => lo8 (VW j))).1)]) (wc := [jO md 2 [.ref mk, .ref mn, .ref mt, .int (nI z), .ref mo, .int (nI 1), .int (nI g), .ref mbk, .ref mbn, .ref mr, .int (nI q.2.1), .int (nI q.2.2)], jA mr B.2 256 (nP q.1), jA mbk B.1 16 BK, jA mbn B.1 16 BN]) [5, 12, 10, 11] rfl (by decide) (fun _ => rfl) hP hD hS hA (va_runV (C := RX2) (b := md) (As := []) (rest := []) ⟨hx, hb, hml, hown, hts⟩ (metX2_again_ok l D B H.size md mr mbk mbn BK BN (nP q.1) (.ref mk) (.ref mn) (.ref mt) (.int (nI z)) (.ref mo) (.int (nI g)) (.int (nI q.2.1)) (.int (nI q.2.2))) (cwV 0 hts (lw_V q401 q402 q403 q11 q404) rfl rfl rfl (by decide +kernel) ⟨Nat.le_of_ble_eq_true rfl, Nat.le_of_ble_eq_true rfl⟩) (jPreV (ci := 2) (q0 := 0) hK (hP.sub (ws' := [jO md 2 [.ref mk, .ref mn, .ref mt, .int (nI z), .ref mo, .int (nI 1), .int (nI g), .ref mbk, .ref mbn, .ref mr, .int (nI q.2.1), .int (nI q.2.2)], jA mr B.2 256 (nP q.1), jA mbk B.1 16 BK, jA mbn B.1 16 BN]) [5, 12, 10, 11] rfl) (hD.sub (ws' := [jO md 2 [.ref mk, .ref mn, .ref mt, .int (nI z), .ref mo, .int (nI 1), .int (nI g), .ref mbk, .ref mbn, .ref mr, .int (nI q.2.1), .int (nI q.2.2)], jA mr B.2 256 (nP q.1), jA mbk B.1 16 BK, jA mbn B.1 16 BN]) [5, 12, 10, 11] (by decide) rfl) rfl rfl) rfl rfl hl.1 rfl (lv_room (Nat.le_of_ble_eq_true rfl)) dL_law_362 ⟨by show cells + 1 + 0 ≤ 600128; omega, by show slots + 256 + 0 ≤ 7301098; omega⟩) (fun _ H locs hu hP hD hS => ?_)
    have hP : va_P D vwCl [jO dk 0 [.ref e0, .int (nI 1), .int (nI 0), .ref k0, .ref n0, .ref t0, .int (nI z), .ref o0], jA k0 B.1 32 K, jA n0 B.1 32 N, jA t0 B.1 256 T, jA o0 B.1 no O_, jO md 2 [.ref mk, .ref mn, .ref mt, .int (nI z), .ref mo, .int (nI 1), .int (nI 0), .ref mbk, .ref mbn, .ref mr, .int (nI (setK (fun j => lo8 (BK j)) (fun j => lo8 (BN j))).2), .int (nI 0)], jA mk B.1 32 K, jA mn B.1 32 N, jA mt B.1 256 T, jA mo B.1 no O_, jA mbk B.1 16 BK, jA mbn B.1 16 BN, jA mr B.2 256 (nP (setK (fun j => lo8 (BK j)) (fun j => lo8 (BN j))).1), jO e0 1 [.int (bI 0), .ref u, .int (bI (setK (fun j => lo8 (KW j)) (fun j => lo8 (VW j))).2), .ref iv, .ref wk], jA a0 B.1 256 (bP q.1), jA iv B.1 16 VW, jA wk B.1 16 KW, jA u B.1 256 (bP (setK (fun j => lo8 (KW j)) (fun j => lo8 (VW j))).1)] H := hP
    have hD : va_D A [jO dk 0 [.ref e0, .int (nI 1), .int (nI 0), .ref k0, .ref n0, .ref t0, .int (nI z), .ref o0], jA k0 B.1 32 K, jA n0 B.1 32 N, jA t0 B.1 256 T, jA o0 B.1 no O_, jO md 2 [.ref mk, .ref mn, .ref mt, .int (nI z), .ref mo, .int (nI 1), .int (nI 0), .ref mbk, .ref mbn, .ref mr, .int (nI (setK (fun j => lo8 (BK j)) (fun j => lo8 (BN j))).2), .int (nI 0)], jA mk B.1 32 K, jA mn B.1 32 N, jA mt B.1 256 T, jA mo B.1 no O_, jA mbk B.1 16 BK, jA mbn B.1 16 BN, jA mr B.2 256 (nP (setK (fun j => lo8 (BK j)) (fun j => lo8 (BN j))).1), jO e0 1 [.int (bI 0), .ref u, .int (bI (setK (fun j => lo8 (KW j)) (fun j => lo8 (VW j))).2), .ref iv, .ref wk], jA a0 B.1 256 (bP q.1), jA iv B.1 16 VW, jA wk B.1 16 KW, jA u B.1 256 (bP (setK (fun j => lo8 (KW j)) (fun j => lo8 (VW j))).1)] := hD
    refine lv_goto (tgt := 391) hx hb dL_law_365 (by decide) ?_
    have eS : (setK (fun j => lo8 (BK j)) (fun j => lo8 (BN j))) = (setK (fun j => lo8 (KW j)) (fun j => lo8 (VW j))) := setK_congr (fun j hj => (hkw j hj).symm) (fun j hj => (hvw j hj).symm)
    rw [eS] at hP hD
    have hok := ok_setK (fun j => lo8 (KW j)) (fun j => lo8 (VW j))
    have hP : va_P D vwCl [jO dk 0 [.ref e0, .int (nI 1), .int (nI 0), .ref k0, .ref n0, .ref t0, .int (nI z), .ref o0], jA k0 B.1 32 K, jA n0 B.1 32 N, jA t0 B.1 256 T, jA o0 B.1 no O_, jO md 2 [.ref mk, .ref mn, .ref mt, .int (nI z), .ref mo, .int (nI 1), .int (nI 0), .ref mbk, .ref mbn, .ref mr, .int (nI (setK (fun j => lo8 (KW j)) (fun j => lo8 (VW j))).2), .int (nI 0)], jA mk B.1 32 K, jA mn B.1 32 N, jA mt B.1 256 T, jA mo B.1 no O_, jA mbk B.1 16 BK, jA mbn B.1 16 BN, jA mr B.2 256 (nP (setK (fun j => lo8 (KW j)) (fun j => lo8 (VW j))).1), jO e0 1 [.int (bI 0), .ref u, .int (bI (setK (fun j => lo8 (KW j)) (fun j => lo8 (VW j))).2), .ref iv, .ref wk], jA u B.1 256 (bP (setK (fun j => lo8 (KW j)) (fun j => lo8 (VW j))).1), jA iv B.1 16 VW, jA wk B.1 16 KW] H := hP.sub [0, 1, 2, 3, 4, 5, 6, 7, 8, 9, 10, 11, 12, 13, 17, 15, 16] rfl
    have hD : va_D A [jO dk 0 [.ref e0, .int (nI 1), .int (nI 0), .ref k0, .ref n0, .ref t0, .int (nI z), .ref o0], jA k0 B.1 32 K, jA n0 B.1 32 N, jA t0 B.1 256 T, jA o0 B.1 no O_, jO md 2 [.ref mk, .ref mn, .ref mt, .int (nI z), .ref mo, .int (nI 1), .int (nI 0), .ref mbk, .ref mbn, .ref mr, .int (nI (setK (fun j => lo8 (KW j)) (fun j => lo8 (VW j))).2), .int (nI 0)], jA mk B.1 32 K, jA mn B.1 32 N, jA mt B.1 256 T, jA mo B.1 no O_, jA mbk B.1 16 BK, jA mbn B.1 16 BN, jA mr B.2 256 (nP (setK (fun j => lo8 (KW j)) (fun j => lo8 (VW j))).1), jO e0 1 [.int (bI 0), .ref u, .int (bI (setK (fun j => lo8 (KW j)) (fun j => lo8 (VW j))).2), .ref iv, .ref wk], jA u B.1 256 (bP (setK (fun j => lo8 (KW j)) (fun j => lo8 (VW j))).1), jA iv B.1 16 VW, jA wk B.1 16 KW] := hD.sub [0, 1, 2, 3, 4, 5, 6, 7, 8, 9, 10, 11, 12, 13, 17, 15, 16] (by decide) rfl
    refine W.widen (k := cells + 10) (n := slots + 600) (by show cells + 1 + 0 ≤ cells + 10; omega) (by show slots + 256 + 0 ≤ slots + 600; omega) ?_
    exact kk _ H _ ls ⟨.ref e0, 1, 0, z, no, k0, n0, t0, o0, mk, mn, mt, mo, mbk, mbn, mr, K, N, T, O_, BK, BN, nP (setK (fun j => lo8 (KW j)) (fun j => lo8 (VW j))).1, .int (nI (setK (fun j => lo8 (KW j)) (fun j => lo8 (VW j))).2), .int (nI 0), [jO e0 1 [.int (bI 0), .ref u, .int (bI (setK (fun j => lo8 (KW j)) (fun j => lo8 (VW j))).2), .ref iv, .ref wk], jA u B.1 256 (bP (setK (fun j => lo8 (KW j)) (fun j => lo8 (VW j))).1), jA iv B.1 16 VW, jA wk B.1 16 KW], rfl, hz, Nat.zero_le _, hno, Or.inr ⟨rfl, ((setK (fun j => lo8 (KW j)) (fun j => lo8 (VW j))).1, (setK (fun j => lo8 (KW j)) (fun j => lo8 (VW j))).2, 0), e0, u, iv, wk, KW, VW, ⟨hok.1, hok.2, Nat.zero_lt_succ _⟩, rfl, rfl, rfl, rfl, rfl, hkw, hvw⟩⟩ hP hD hS hl
set_option maxHeartbeats 4000000 in
set_option maxRecDepth 100000 in
theorem stepL_run {p : Program} {l : Launch} {e : Env} {s : State} {m : MethodId} {below : List Frame} {meth : Method} {c : Code} {Q : State → Prop} {cells slots : Nat} {D : va_G} {B : ClassId × ClassId} {A : Nat → Prop} {b L j dk md : Nat} {sc : Nat → Int32} (hx : p.tables.exec = Jvm.exec) (hb : c.code = cL_law) (hml : c.maxLocals = 4) (hown : s.vm.findClass "VmpcDeskLaw" = some m.cls) (hts : ∀ w ∈ lw_all, w.before #[Value.ref b] s = true) (hK : va_K D vwCl (TY B) s) (hA : ∀ q : Nat, s.heap.size ≤ q → A q) (hX : va_X b L sc s s.heap) (hbl : b < s.heap.size) (hbA : ¬ A b) (hL : L ≤ 384) (hj : 6 * j + 6 ≤ L) (hcl : cells + 10 ≤ 600128) (hsl : slots + 600 ≤ 7301098)
    (kk : ∀ (w : va_W) (H : Heap) (locs : List Loc) (ls : Array Slot), LInv B dk md w → va_P D vwCl w H → va_D A w → va_S A s.heap H locs → lv_has ls 4 [(0, .ref b), (1, .ref dk), (2, .ref md), (3, .int (nI (6 * j)))] → W p l e room_1 s m #[Value.ref b] below meth c H locs (cells + 10) (slots + 600) Q (F0 m 391 ls [])) :
    ∀ (w : va_W) (H : Heap) (locs : List Loc) (ls : Array Slot), LInv B dk md w → va_P D vwCl w H → va_D A w → va_S A s.heap H locs → lv_has ls 4 [(0, .ref b), (1, .ref dk), (2, .ref md), (3, .int (nI (6 * j)))] → W p l e room_1 s m #[Value.ref b] below meth c H locs cells slots Q (F0 m 301 ls []) := by
  intro w H locs ls hI hP hD hS hl
  obtain ⟨xr, v, g, z, no, k0, n0, t0, o0, mk, mn, mt, mo, mbk, mbn, mr, K, N, T, O_, BK, BN, RW, ys, ya, E, rfl, hz, hg, hno, hE⟩ := hI
  rcases hE with ⟨rfl, rfl⟩ | ⟨rfl, q, e0, a0, iv, wk, KW, VW, hq, rfl, rfl, rfl, rfl, rfl, hkw, hvw⟩
  · have hP : va_P D vwCl [jO dk 0 [xr, .int (nI 0), .int (nI g), .ref k0, .ref n0, .ref t0, .int (nI z), .ref o0], jA k0 B.1 32 K, jA n0 B.1 32 N, jA t0 B.1 256 T, jA o0 B.1 no O_, jO md 2 [.ref mk, .ref mn, .ref mt, .int (nI z), .ref mo, .int (nI 0), .int (nI g), .ref mbk, .ref mbn, .ref mr, ys, ya], jA mk B.1 32 K, jA mn B.1 32 N, jA mt B.1 256 T, jA mo B.1 no O_, jA mbk B.1 16 BK, jA mbn B.1 16 BN, jA mr B.2 256 RW] H := hP
    have hD : va_D A [jO dk 0 [xr, .int (nI 0), .int (nI g), .ref k0, .ref n0, .ref t0, .int (nI z), .ref o0], jA k0 B.1 32 K, jA n0 B.1 32 N, jA t0 B.1 256 T, jA o0 B.1 no O_, jO md 2 [.ref mk, .ref mn, .ref mt, .int (nI z), .ref mo, .int (nI 0), .int (nI g), .ref mbk, .ref mbn, .ref mr, ys, ya], jA mk B.1 32 K, jA mn B.1 32 N, jA mt B.1 256 T, jA mo B.1 no O_, jA mbk B.1 16 BK, jA mbn B.1 16 BN, jA mr B.2 256 RW] := hD
    refine lv_aload_n hx hb dL_law_301 rfl (lv_at hl 1 rfl) ?_
    refine lv_aload_n hx hb dL_law_302 rfl (lv_at hl 0 rfl) ?_
    refine lv_iload_n hx hb dL_law_303 rfl (lv_at hl 3 rfl) ?_
    refine lv_iconst (v := nI 1) hx hb dL_law_304 (by decide) ?_
    refine lv_iadd hx hb dL_law_305 ?_
    refine jas (y := nI (6 * j + 1)) (nI_add _ _) ?_
    refine jsld hx hb hX hbl hbA hS (6 * j + 1) (by omega) (by omega) dL_law_306 ?_
    refine lv_aload_n hx hb dL_law_307 rfl (lv_at hl 0 rfl) ?_
    refine lv_iload_n hx hb dL_law_308 rfl (lv_at hl 3 rfl) ?_
    refine lv_iconst (v := nI 2) hx hb dL_law_309 (by decide) ?_
    refine lv_iadd hx hb dL_law_310 ?_
    refine jas (y := nI (6 * j + 2)) (nI_add _ _) ?_
    refine jsld hx hb hX hbl hbA hS (6 * j + 2) (by omega) (by omega) dL_law_311 ?_
    refine jcalli (ws := [jO dk 0 [xr, .int (nI 0), .int (nI g), .ref k0, .ref n0, .ref t0, .int (nI z), .ref o0], jA k0 B.1 32 K, jA n0 B.1 32 N, jA t0 B.1 256 T, jA o0 B.1 no O_, jO md 2 [.ref mk, .ref mn, .ref mt, .int (nI z), .ref mo, .int (nI 0), .int (nI g), .ref mbk, .ref mbn, .ref mr, ys, ya], jA mk B.1 32 K, jA mn B.1 32 N, jA mt B.1 256 T, jA mo B.1 no O_, jA mbk B.1 16 BK, jA mbn B.1 16 BN, jA mr B.2 256 RW]) (wc := [jO dk 0 [xr, .int (nI 0), .int (nI g), .ref k0, .ref n0, .ref t0, .int (nI z), .ref o0]]) [0] rfl (by decide) (fun _ => rfl) hP hD hS hA (va_runV (C := RX0) (b := dk) (As := [.int (sc (6 * j + 1)), .int (sc (6 * j + 2))]) (rest := []) ⟨hx, hb, hml, hown, hts⟩ (metX0_run_no l D B H.size dk (sc (6 * j + 1)) (sc (6 * j + 2)) (xr) (.int (nI g)) (.ref k0) (.ref n0) (.ref t0) (.int (nI z)) (.ref o0)) (cwV 2 hts (lw_V q233 q234 q235 q9 q236) rfl rfl rfl (by decide +kernel) ⟨Nat.le_of_ble_eq_true rfl, Nat.le_of_ble_eq_true rfl⟩) (jPreV (ci := 0) (q0 := 0) hK (hP.sub (ws' := [jO dk 0 [xr, .int (nI 0), .int (nI g), .ref k0, .ref n0, .ref t0, .int (nI z), .ref o0]]) [0] rfl) (hD.sub (ws' := [jO dk 0 [xr, .int (nI 0), .int (nI g), .ref k0, .ref n0, .ref t0, .int (nI z), .ref o0]]) [0] (by decide) rfl) rfl rfl) rfl rfl hl.1 rfl (lv_room (Nat.le_of_ble_eq_true rfl)) dL_law_312 ⟨by show cells + 1 ≤ 600128; omega, by show slots + 256 ≤ 7301098; omega⟩) (fun r_312 _ H locs hu hP hD hS => ?_)
    subst hu
    have hP : va_P D vwCl [jO dk 0 [xr, .int (nI 0), .int (nI g), .ref k0, .ref n0, .ref t0, .int (nI z), .ref o0], jA k0 B.1 32 K, jA n0 B.1 32 N, jA t0 B.1 256 T, jA o0 B.1 no O_, jO md 2 [.ref mk, .ref mn, .ref mt, .int (nI z), .ref mo, .int (nI 0), .int (nI g), .ref mbk, .ref mbn, .ref mr, ys, ya], jA mk B.1 32 K, jA mn B.1 32 N, jA mt B.1 256 T, jA mo B.1 no O_, jA mbk B.1 16 BK, jA mbn B.1 16 BN, jA mr B.2 256 RW] H := hP
    have hD : va_D A [jO dk 0 [xr, .int (nI 0), .int (nI g), .ref k0, .ref n0, .ref t0, .int (nI z), .ref o0], jA k0 B.1 32 K, jA n0 B.1 32 N, jA t0 B.1 256 T, jA o0 B.1 no O_, jO md 2 [.ref mk, .ref mn, .ref mt, .int (nI z), .ref mo, .int (nI 0), .int (nI g), .ref mbk, .ref mbn, .ref mr, ys, ya], jA mk B.1 32 K, jA mn B.1 32 N, jA mt B.1 256 T, jA mo B.1 no O_, jA mbk B.1 16 BK, jA mbn B.1 16 BN, jA mr B.2 256 RW] := hD
    refine lv_aload_n hx hb dL_law_315 rfl (lv_at hl 2 rfl) ?_
    refine lv_aload_n hx hb dL_law_316 rfl (lv_at hl 0 rfl) ?_
    refine lv_iload_n hx hb dL_law_317 rfl (lv_at hl 3 rfl) ?_
    refine lv_iconst (v := nI 1) hx hb dL_law_318 (by decide) ?_
    refine lv_iadd hx hb dL_law_319 ?_
    refine jas (y := nI (6 * j + 1)) (nI_add _ _) ?_
    refine jsld hx hb hX hbl hbA hS (6 * j + 1) (by omega) (by omega) dL_law_320 ?_
    refine lv_aload_n hx hb dL_law_321 rfl (lv_at hl 0 rfl) ?_
    refine lv_iload_n hx hb dL_law_322 rfl (lv_at hl 3 rfl) ?_
    refine lv_iconst (v := nI 2) hx hb dL_law_323 (by decide) ?_
    refine lv_iadd hx hb dL_law_324 ?_
    refine jas (y := nI (6 * j + 2)) (nI_add _ _) ?_
    refine jsld hx hb hX hbl hbA hS (6 * j + 2) (by omega) (by omega) dL_law_325 ?_
    refine jcalli (ws := [jO dk 0 [xr, .int (nI 0), .int (nI g), .ref k0, .ref n0, .ref t0, .int (nI z), .ref o0], jA k0 B.1 32 K, jA n0 B.1 32 N, jA t0 B.1 256 T, jA o0 B.1 no O_, jO md 2 [.ref mk, .ref mn, .ref mt, .int (nI z), .ref mo, .int (nI 0), .int (nI g), .ref mbk, .ref mbn, .ref mr, ys, ya], jA mk B.1 32 K, jA mn B.1 32 N, jA mt B.1 256 T, jA mo B.1 no O_, jA mbk B.1 16 BK, jA mbn B.1 16 BN, jA mr B.2 256 RW]) (wc := [jO md 2 [.ref mk, .ref mn, .ref mt, .int (nI z), .ref mo, .int (nI 0), .int (nI g), .ref mbk, .ref mbn, .ref mr, ys, ya]]) [5] rfl (by decide) (fun _ => rfl) hP hD hS hA (va_runV (C := RX2) (b := md) (As := [.int (sc (6 * j + 1)), .int (sc (6 * j + 2))]) (rest := [.int ((-1))]) ⟨hx, hb, hml, hown, hts⟩ (metX2_run_no l D B H.size md (sc (6 * j + 1)) (sc (6 * j + 2)) (.ref mk) (.ref mn) (.ref mt) (.int (nI z)) (.ref mo) (.int (nI g)) (.ref mbk) (.ref mbn) (.ref mr) (ys) (ya)) (cwV 2 hts (lw_V q389 q390 q391 q11 q392) rfl rfl rfl (by decide +kernel) ⟨Nat.le_of_ble_eq_true rfl, Nat.le_of_ble_eq_true rfl⟩) (jPreV (ci := 2) (q0 := 0) hK (hP.sub (ws' := [jO md 2 [.ref mk, .ref mn, .ref mt, .int (nI z), .ref mo, .int (nI 0), .int (nI g), .ref mbk, .ref mbn, .ref mr, ys, ya]]) [5] rfl) (hD.sub (ws' := [jO md 2 [.ref mk, .ref mn, .ref mt, .int (nI z), .ref mo, .int (nI 0), .int (nI g), .ref mbk, .ref mbn, .ref mr, ys, ya]]) [5] (by decide) rfl) rfl rfl) rfl rfl hl.1 rfl (lv_room (Nat.le_of_ble_eq_true rfl)) dL_law_326 ⟨by show cells + 1 + 1 ≤ 600128; omega, by show slots + 256 + 256 ≤ 7301098; omega⟩) (fun r_326 _ H locs hu hP hD hS => ?_)
    subst hu
    have hP : va_P D vwCl [jO dk 0 [xr, .int (nI 0), .int (nI g), .ref k0, .ref n0, .ref t0, .int (nI z), .ref o0], jA k0 B.1 32 K, jA n0 B.1 32 N, jA t0 B.1 256 T, jA o0 B.1 no O_, jO md 2 [.ref mk, .ref mn, .ref mt, .int (nI z), .ref mo, .int (nI 0), .int (nI g), .ref mbk, .ref mbn, .ref mr, ys, ya], jA mk B.1 32 K, jA mn B.1 32 N, jA mt B.1 256 T, jA mo B.1 no O_, jA mbk B.1 16 BK, jA mbn B.1 16 BN, jA mr B.2 256 RW] H := hP
    have hD : va_D A [jO dk 0 [xr, .int (nI 0), .int (nI g), .ref k0, .ref n0, .ref t0, .int (nI z), .ref o0], jA k0 B.1 32 K, jA n0 B.1 32 N, jA t0 B.1 256 T, jA o0 B.1 no O_, jO md 2 [.ref mk, .ref mn, .ref mt, .int (nI z), .ref mo, .int (nI 0), .int (nI g), .ref mbk, .ref mbn, .ref mr, ys, ya], jA mk B.1 32 K, jA mn B.1 32 N, jA mt B.1 256 T, jA mo B.1 no O_, jA mbk B.1 16 BK, jA mbn B.1 16 BN, jA mr B.2 256 RW] := hD
    refine lv_icmp_eq (tgt := 391) hx hb dL_law_329 (by decide) (fun c_329 => ?_) (fun c_329 => ?_)
    · refine W.widen (k := cells + 10) (n := slots + 600) (by show cells + 1 + 1 ≤ cells + 10; omega) (by show slots + 256 + 256 ≤ slots + 600; omega) ?_
      exact kk _ H _ ls ⟨xr, 0, g, z, no, k0, n0, t0, o0, mk, mn, mt, mo, mbk, mbn, mr, K, N, T, O_, BK, BN, RW, ys, ya, [], rfl, hz, hg, hno, Or.inl ⟨rfl, rfl⟩⟩ hP hD hS hl
    · exact absurd rfl c_329
  · have hP : va_P D vwCl [jO dk 0 [.ref e0, .int (nI 1), .int (nI g), .ref k0, .ref n0, .ref t0, .int (nI z), .ref o0], jA k0 B.1 32 K, jA n0 B.1 32 N, jA t0 B.1 256 T, jA o0 B.1 no O_, jO md 2 [.ref mk, .ref mn, .ref mt, .int (nI z), .ref mo, .int (nI 1), .int (nI g), .ref mbk, .ref mbn, .ref mr, .int (nI q.2.1), .int (nI q.2.2)], jA mk B.1 32 K, jA mn B.1 32 N, jA mt B.1 256 T, jA mo B.1 no O_, jA mbk B.1 16 BK, jA mbn B.1 16 BN, jA mr B.2 256 (nP q.1), jO e0 1 [.int (bI q.2.2), .ref a0, .int (bI q.2.1), .ref iv, .ref wk], jA a0 B.1 256 (bP q.1), jA iv B.1 16 VW, jA wk B.1 16 KW] H := hP
    have hD : va_D A [jO dk 0 [.ref e0, .int (nI 1), .int (nI g), .ref k0, .ref n0, .ref t0, .int (nI z), .ref o0], jA k0 B.1 32 K, jA n0 B.1 32 N, jA t0 B.1 256 T, jA o0 B.1 no O_, jO md 2 [.ref mk, .ref mn, .ref mt, .int (nI z), .ref mo, .int (nI 1), .int (nI g), .ref mbk, .ref mbn, .ref mr, .int (nI q.2.1), .int (nI q.2.2)], jA mk B.1 32 K, jA mn B.1 32 N, jA mt B.1 256 T, jA mo B.1 no O_, jA mbk B.1 16 BK, jA mbn B.1 16 BN, jA mr B.2 256 (nP q.1), jO e0 1 [.int (bI q.2.2), .ref a0, .int (bI q.2.1), .ref iv, .ref wk], jA a0 B.1 256 (bP q.1), jA iv B.1 16 VW, jA wk B.1 16 KW] := hD
    by_cases hc : g + cnt (sc (6 * j + 2)) z (frm (sc (6 * j + 1)) z) ≤ 1024
    · refine lv_aload_n hx hb dL_law_301 rfl (lv_at hl 1 rfl) ?_
      refine lv_aload_n hx hb dL_law_302 rfl (lv_at hl 0 rfl) ?_
      refine lv_iload_n hx hb dL_law_303 rfl (lv_at hl 3 rfl) ?_
      refine lv_iconst (v := nI 1) hx hb dL_law_304 (by decide) ?_
      refine lv_iadd hx hb dL_law_305 ?_
      refine jas (y := nI (6 * j + 1)) (nI_add _ _) ?_
      refine jsld hx hb hX hbl hbA hS (6 * j + 1) (by omega) (by omega) dL_law_306 ?_
      refine lv_aload_n hx hb dL_law_307 rfl (lv_at hl 0 rfl) ?_
      refine lv_iload_n hx hb dL_law_308 rfl (lv_at hl 3 rfl) ?_
      refine lv_iconst (v := nI 2) hx hb dL_law_309 (by decide) ?_
      refine lv_iadd hx hb dL_law_310 ?_
      refine jas (y := nI (6 * j + 2)) (nI_add _ _) ?_
      refine jsld hx hb hX hbl hbA hS (6 * j + 2) (by omega) (by omega) dL_law_311 ?_
      refine jcalli (ws := [jO dk 0 [.ref e0, .int (nI 1), .int (nI g), .ref k0, .ref n0, .ref t0, .int (nI z), .ref o0], jA k0 B.1 32 K, jA n0 B.1 32 N, jA t0 B.1 256 T, jA o0 B.1 no O_, jO md 2 [.ref mk, .ref mn, .ref mt, .int (nI z), .ref mo, .int (nI 1), .int (nI g), .ref mbk, .ref mbn, .ref mr, .int (nI q.2.1), .int (nI q.2.2)], jA mk B.1 32 K, jA mn B.1 32 N, jA mt B.1 256 T, jA mo B.1 no O_, jA mbk B.1 16 BK, jA mbn B.1 16 BN, jA mr B.2 256 (nP q.1), jO e0 1 [.int (bI q.2.2), .ref a0, .int (bI q.2.1), .ref iv, .ref wk], jA a0 B.1 256 (bP q.1), jA iv B.1 16 VW, jA wk B.1 16 KW]) (wc := [jO dk 0 [.ref e0, .int (nI 1), .int (nI g), .ref k0, .ref n0, .ref t0, .int (nI z), .ref o0], jO e0 1 [.int (bI q.2.2), .ref a0, .int (bI q.2.1), .ref iv, .ref wk], jA a0 B.1 256 (bP q.1), jA t0 B.1 256 T]) [0, 13, 14, 3] rfl (by decide) (fun _ => rfl) hP hD hS hA (va_runV (C := RX0) (b := dk) (As := [.int (sc (6 * j + 1)), .int (sc (6 * j + 2))]) (rest := []) ⟨hx, hb, hml, hown, hts⟩ (metX0_run_ok l D B H.size dk e0 a0 t0 z g hz (sc (6 * j + 1)) (sc (6 * j + 2)) hc q hq T (.ref iv) (.ref wk) (.ref k0) (.ref n0) (.ref o0)) (cwV 2 hts (lw_V q233 q234 q235 q9 q236) rfl rfl rfl (by decide +kernel) ⟨Nat.le_of_ble_eq_true rfl, Nat.le_of_ble_eq_true rfl⟩) (jPreV (ci := 0) (q0 := 0) hK (hP.sub (ws' := [jO dk 0 [.ref e0, .int (nI 1), .int (nI g), .ref k0, .ref n0, .ref t0, .int (nI z), .ref o0], jO e0 1 [.int (bI q.2.2), .ref a0, .int (bI q.2.1), .ref iv, .ref wk], jA a0 B.1 256 (bP q.1), jA t0 B.1 256 T]) [0, 13, 14, 3] rfl) (hD.sub (ws' := [jO dk 0 [.ref e0, .int (nI 1), .int (nI g), .ref k0, .ref n0, .ref t0, .int (nI z), .ref o0], jO e0 1 [.int (bI q.2.2), .ref a0, .int (bI q.2.1), .ref iv, .ref wk], jA a0 B.1 256 (bP q.1), jA t0 B.1 256 T]) [0, 13, 14, 3] (by decide) rfl) rfl rfl) rfl rfl hl.1 rfl (lv_room (Nat.le_of_ble_eq_true rfl)) dL_law_312 ⟨by show cells + 1 ≤ 600128; omega, by show slots + 256 ≤ 7301098; omega⟩) (fun r_312 u H locs hu hP hD hS => ?_)
      subst hu
      have hP : va_P D vwCl [jO dk 0 [.ref e0, .int (nI 1), .int (nI (g + cnt (sc (6 * j + 2)) z (frm (sc (6 * j + 1)) z))), .ref k0, .ref n0, .ref t0, .int (nI z), .ref u], jA k0 B.1 32 K, jA n0 B.1 32 N, jA t0 B.1 256 T, jA o0 B.1 no O_, jO md 2 [.ref mk, .ref mn, .ref mt, .int (nI z), .ref mo, .int (nI 1), .int (nI g), .ref mbk, .ref mbn, .ref mr, .int (nI q.2.1), .int (nI q.2.2)], jA mk B.1 32 K, jA mn B.1 32 N, jA mt B.1 256 T, jA mo B.1 no O_, jA mbk B.1 16 BK, jA mbn B.1 16 BN, jA mr B.2 256 (nP q.1), jO e0 1 [.int (bI (nxN (cnt (sc (6 * j + 2)) z (frm (sc (6 * j + 1)) z)) q).2.2), .ref a0, .int (bI (nxN (cnt (sc (6 * j + 2)) z (frm (sc (6 * j + 1)) z)) q).2.1), .ref iv, .ref wk], jA a0 B.1 256 (bP (nxN (cnt (sc (6 * j + 2)) z (frm (sc (6 * j + 1)) z)) q).1), jA iv B.1 16 VW, jA wk B.1 16 KW, jA u B.1 (cnt (sc (6 * j + 2)) z (frm (sc (6 * j + 1)) z)) (runO T (frm (sc (6 * j + 1)) z) q (cnt (sc (6 * j + 2)) z (frm (sc (6 * j + 1)) z)))] H := hP
      have hD : va_D A [jO dk 0 [.ref e0, .int (nI 1), .int (nI (g + cnt (sc (6 * j + 2)) z (frm (sc (6 * j + 1)) z))), .ref k0, .ref n0, .ref t0, .int (nI z), .ref u], jA k0 B.1 32 K, jA n0 B.1 32 N, jA t0 B.1 256 T, jA o0 B.1 no O_, jO md 2 [.ref mk, .ref mn, .ref mt, .int (nI z), .ref mo, .int (nI 1), .int (nI g), .ref mbk, .ref mbn, .ref mr, .int (nI q.2.1), .int (nI q.2.2)], jA mk B.1 32 K, jA mn B.1 32 N, jA mt B.1 256 T, jA mo B.1 no O_, jA mbk B.1 16 BK, jA mbn B.1 16 BN, jA mr B.2 256 (nP q.1), jO e0 1 [.int (bI (nxN (cnt (sc (6 * j + 2)) z (frm (sc (6 * j + 1)) z)) q).2.2), .ref a0, .int (bI (nxN (cnt (sc (6 * j + 2)) z (frm (sc (6 * j + 1)) z)) q).2.1), .ref iv, .ref wk], jA a0 B.1 256 (bP (nxN (cnt (sc (6 * j + 2)) z (frm (sc (6 * j + 1)) z)) q).1), jA iv B.1 16 VW, jA wk B.1 16 KW, jA u B.1 (cnt (sc (6 * j + 2)) z (frm (sc (6 * j + 1)) z)) (runO T (frm (sc (6 * j + 1)) z) q (cnt (sc (6 * j + 2)) z (frm (sc (6 * j + 1)) z)))] := hD
      refine lv_aload_n hx hb dL_law_315 rfl (lv_at hl 2 rfl) ?_
      refine lv_aload_n hx hb dL_law_316 rfl (lv_at hl 0 rfl) ?_
      refine lv_iload_n hx hb dL_law_317 rfl (lv_at hl 3 rfl) ?_
      refine lv_iconst (v := nI 1) hx hb dL_law_318 (by decide) ?_
      refine lv_iadd hx hb dL_law_319 ?_
      refine jas (y := nI (6 * j + 1)) (nI_add _ _) ?_
      refine jsld hx hb hX hbl hbA hS (6 * j + 1) (by omega) (by omega) dL_law_320 ?_
      refine lv_aload_n hx hb dL_law_321 rfl (lv_at hl 0 rfl) ?_
      refine lv_iload_n hx hb dL_law_322 rfl (lv_at hl 3 rfl) ?_
      refine lv_iconst (v := nI 2) hx hb dL_law_323 (by decide) ?_
      refine lv_iadd hx hb dL_law_324 ?_
      refine jas (y := nI (6 * j + 2)) (nI_add _ _) ?_
      refine jsld hx hb hX hbl hbA hS (6 * j + 2) (by omega) (by omega) dL_law_325 ?_
      refine jcalli (ws := [jO dk 0 [.ref e0, .int (nI 1), .int (nI (g + cnt (sc (6 * j + 2)) z (frm (sc (6 * j + 1)) z))), .ref k0, .ref n0, .ref t0, .int (nI z), .ref u], jA k0 B.1 32 K, jA n0 B.1 32 N, jA t0 B.1 256 T, jA o0 B.1 no O_, jO md 2 [.ref mk, .ref mn, .ref mt, .int (nI z), .ref mo, .int (nI 1), .int (nI g), .ref mbk, .ref mbn, .ref mr, .int (nI q.2.1), .int (nI q.2.2)], jA mk B.1 32 K, jA mn B.1 32 N, jA mt B.1 256 T, jA mo B.1 no O_, jA mbk B.1 16 BK, jA mbn B.1 16 BN, jA mr B.2 256 (nP q.1), jO e0 1 [.int (bI (nxN (cnt (sc (6 * j + 2)) z (frm (sc (6 * j + 1)) z)) q).2.2), .ref a0, .int (bI (nxN (cnt (sc (6 * j + 2)) z (frm (sc (6 * j + 1)) z)) q).2.1), .ref iv, .ref wk], jA a0 B.1 256 (bP (nxN (cnt (sc (6 * j + 2)) z (frm (sc (6 * j + 1)) z)) q).1), jA iv B.1 16 VW, jA wk B.1 16 KW, jA u B.1 (cnt (sc (6 * j + 2)) z (frm (sc (6 * j + 1)) z)) (runO T (frm (sc (6 * j + 1)) z) q (cnt (sc (6 * j + 2)) z (frm (sc (6 * j + 1)) z)))]) (wc := [jO md 2 [.ref mk, .ref mn, .ref mt, .int (nI z), .ref mo, .int (nI 1), .int (nI g), .ref mbk, .ref mbn, .ref mr, .int (nI q.2.1), .int (nI q.2.2)], jA mt B.1 256 T, jA mr B.2 256 (nP q.1)]) [5, 8, 12] rfl (by decide) (fun _ => rfl) hP hD hS hA (va_runV (C := RX2) (b := md) (As := [.int (sc (6 * j + 1)), .int (sc (6 * j + 2))]) (rest := [.int (nI (cnt (sc (6 * j + 2)) z (frm (sc (6 * j + 1)) z)))]) ⟨hx, hb, hml, hown, hts⟩ (metX2_run_ok l D B H.size md mr mt z g hz (sc (6 * j + 1)) (sc (6 * j + 2)) hc q hq T (.ref mk) (.ref mn) (.ref mo) (.ref mbk) (.ref mbn)) (cwV 2 hts (lw_V q389 q390 q391 q11 q392) rfl rfl rfl (by decide +kernel) ⟨Nat.le_of_ble_eq_true rfl, Nat.le_of_ble_eq_true rfl⟩) (jPreV (ci := 2) (q0 := 0) hK (hP.sub (ws' := [jO md 2 [.ref mk, .ref mn, .ref mt, .int (nI z), .ref mo, .int (nI 1), .int (nI g), .ref mbk, .ref mbn, .ref mr, .int (nI q.2.1), .int (nI q.2.2)], jA mt B.1 256 T, jA mr B.2 256 (nP q.1)]) [5, 8, 12] rfl) (hD.sub (ws' := [jO md 2 [.ref mk, .ref mn, .ref mt, .int (nI z), .ref mo, .int (nI 1), .int (nI g), .ref mbk, .ref mbn, .ref mr, .int (nI q.2.1), .int (nI q.2.2)], jA mt B.1 256 T, jA mr B.2 256 (nP q.1)]) [5, 8, 12] (by decide) rfl) rfl rfl) rfl rfl hl.1 rfl (lv_room (Nat.le_of_ble_eq_true rfl)) dL_law_326 ⟨by show cells + 1 + 1 ≤ 600128; omega, by show slots + 256 + 256 ≤ 7301098; omega⟩) (fun r_326 um H locs hu hP hD hS => ?_)
      subst hu
      have hP : va_P D vwCl [jO dk 0 [.ref e0, .int (nI 1), .int (nI (g + cnt (sc (6 * j + 2)) z (frm (sc (6 * j + 1)) z))), .ref k0, .ref n0, .ref t0, .int (nI z), .ref u], jA k0 B.1 32 K, jA n0 B.1 32 N, jA t0 B.1 256 T, jA o0 B.1 no O_, jO md 2 [.ref mk, .ref mn, .ref mt, .int (nI z), .ref um, .int (nI 1), .int (nI (g + cnt (sc (6 * j + 2)) z (frm (sc (6 * j + 1)) z))), .ref mbk, .ref mbn, .ref mr, .int (nI (nxN (cnt (sc (6 * j + 2)) z (frm (sc (6 * j + 1)) z)) q).2.1), .int (nI (nxN (cnt (sc (6 * j + 2)) z (frm (sc (6 * j + 1)) z)) q).2.2)], jA mk B.1 32 K, jA mn B.1 32 N, jA mt B.1 256 T, jA mo B.1 no O_, jA mbk B.1 16 BK, jA mbn B.1 16 BN, jA mr B.2 256 (nP (nxN (cnt (sc (6 * j + 2)) z (frm (sc (6 * j + 1)) z)) q).1), jO e0 1 [.int (bI (nxN (cnt (sc (6 * j + 2)) z (frm (sc (6 * j + 1)) z)) q).2.2), .ref a0, .int (bI (nxN (cnt (sc (6 * j + 2)) z (frm (sc (6 * j + 1)) z)) q).2.1), .ref iv, .ref wk], jA a0 B.1 256 (bP (nxN (cnt (sc (6 * j + 2)) z (frm (sc (6 * j + 1)) z)) q).1), jA iv B.1 16 VW, jA wk B.1 16 KW, jA u B.1 (cnt (sc (6 * j + 2)) z (frm (sc (6 * j + 1)) z)) (runO T (frm (sc (6 * j + 1)) z) q (cnt (sc (6 * j + 2)) z (frm (sc (6 * j + 1)) z))), jA um B.1 (cnt (sc (6 * j + 2)) z (frm (sc (6 * j + 1)) z)) (runO T (frm (sc (6 * j + 1)) z) q (cnt (sc (6 * j + 2)) z (frm (sc (6 * j + 1)) z)))] H := hP
      have hD : va_D A [jO dk 0 [.ref e0, .int (nI 1), .int (nI (g + cnt (sc (6 * j + 2)) z (frm (sc (6 * j + 1)) z))), .ref k0, .ref n0, .ref t0, .int (nI z), .ref u], jA k0 B.1 32 K, jA n0 B.1 32 N, jA t0 B.1 256 T, jA o0 B.1 no O_, jO md 2 [.ref mk, .ref mn, .ref mt, .int (nI z), .ref um, .int (nI 1), .int (nI (g + cnt (sc (6 * j + 2)) z (frm (sc (6 * j + 1)) z))), .ref mbk, .ref mbn, .ref mr, .int (nI (nxN (cnt (sc (6 * j + 2)) z (frm (sc (6 * j + 1)) z)) q).2.1), .int (nI (nxN (cnt (sc (6 * j + 2)) z (frm (sc (6 * j + 1)) z)) q).2.2)], jA mk B.1 32 K, jA mn B.1 32 N, jA mt B.1 256 T, jA mo B.1 no O_, jA mbk B.1 16 BK, jA mbn B.1 16 BN, jA mr B.2 256 (nP (nxN (cnt (sc (6 * j + 2)) z (frm (sc (6 * j + 1)) z)) q).1), jO e0 1 [.int (bI (nxN (cnt (sc (6 * j + 2)) z (frm (sc (6 * j + 1)) z)) q).2.2), .ref a0, .int (bI (nxN (cnt (sc (6 * j + 2)) z (frm (sc (6 * j + 1)) z)) q).2.1), .ref iv, .ref wk], jA a0 B.1 256 (bP (nxN (cnt (sc (6 * j + 2)) z (frm (sc (6 * j + 1)) z)) q).1), jA iv B.1 16 VW, jA wk B.1 16 KW, jA u B.1 (cnt (sc (6 * j + 2)) z (frm (sc (6 * j + 1)) z)) (runO T (frm (sc (6 * j + 1)) z) q (cnt (sc (6 * j + 2)) z (frm (sc (6 * j + 1)) z))), jA um B.1 (cnt (sc (6 * j + 2)) z (frm (sc (6 * j + 1)) z)) (runO T (frm (sc (6 * j + 1)) z) q (cnt (sc (6 * j + 2)) z (frm (sc (6 * j + 1)) z)))] := hD
      refine lv_icmp_eq (tgt := 391) hx hb dL_law_329 (by decide) (fun c_329 => ?_) (fun c_329 => ?_)
      · have hP : va_P D vwCl [jO dk 0 [.ref e0, .int (nI 1), .int (nI (g + cnt (sc (6 * j + 2)) z (frm (sc (6 * j + 1)) z))), .ref k0, .ref n0, .ref t0, .int (nI z), .ref u], jA k0 B.1 32 K, jA n0 B.1 32 N, jA t0 B.1 256 T, jA u B.1 (cnt (sc (6 * j + 2)) z (frm (sc (6 * j + 1)) z)) (runO T (frm (sc (6 * j + 1)) z) q (cnt (sc (6 * j + 2)) z (frm (sc (6 * j + 1)) z))), jO md 2 [.ref mk, .ref mn, .ref mt, .int (nI z), .ref um, .int (nI 1), .int (nI (g + cnt (sc (6 * j + 2)) z (frm (sc (6 * j + 1)) z))), .ref mbk, .ref mbn, .ref mr, .int (nI (nxN (cnt (sc (6 * j + 2)) z (frm (sc (6 * j + 1)) z)) q).2.1), .int (nI (nxN (cnt (sc (6 * j + 2)) z (frm (sc (6 * j + 1)) z)) q).2.2)], jA mk B.1 32 K, jA mn B.1 32 N, jA mt B.1 256 T, jA um B.1 (cnt (sc (6 * j + 2)) z (frm (sc (6 * j + 1)) z)) (runO T (frm (sc (6 * j + 1)) z) q (cnt (sc (6 * j + 2)) z (frm (sc (6 * j + 1)) z))), jA mbk B.1 16 BK, jA mbn B.1 16 BN, jA mr B.2 256 (nP (nxN (cnt (sc (6 * j + 2)) z (frm (sc (6 * j + 1)) z)) q).1), jO e0 1 [.int (bI (nxN (cnt (sc (6 * j + 2)) z (frm (sc (6 * j + 1)) z)) q).2.2), .ref a0, .int (bI (nxN (cnt (sc (6 * j + 2)) z (frm (sc (6 * j + 1)) z)) q).2.1), .ref iv, .ref wk], jA a0 B.1 256 (bP (nxN (cnt (sc (6 * j + 2)) z (frm (sc (6 * j + 1)) z)) q).1), jA iv B.1 16 VW, jA wk B.1 16 KW] H := hP.sub [0, 1, 2, 3, 17, 5, 6, 7, 8, 18, 10, 11, 12, 13, 14, 15, 16] rfl
        have hD : va_D A [jO dk 0 [.ref e0, .int (nI 1), .int (nI (g + cnt (sc (6 * j + 2)) z (frm (sc (6 * j + 1)) z))), .ref k0, .ref n0, .ref t0, .int (nI z), .ref u], jA k0 B.1 32 K, jA n0 B.1 32 N, jA t0 B.1 256 T, jA u B.1 (cnt (sc (6 * j + 2)) z (frm (sc (6 * j + 1)) z)) (runO T (frm (sc (6 * j + 1)) z) q (cnt (sc (6 * j + 2)) z (frm (sc (6 * j + 1)) z))), jO md 2 [.ref mk, .ref mn, .ref mt, .int (nI z), .ref um, .int (nI 1), .int (nI (g + cnt (sc (6 * j + 2)) z (frm (sc (6 * j + 1)) z))), .ref mbk, .ref mbn, .ref mr, .int (nI (nxN (cnt (sc (6 * j + 2)) z (frm (sc (6 * j + 1)) z)) q).2.1), .int (nI (nxN (cnt (sc (6 * j + 2)) z (frm (sc (6 * j + 1)) z)) q).2.2)], jA mk B.1 32 K, jA mn B.1 32 N, jA mt B.1 256 T, jA um B.1 (cnt (sc (6 * j + 2)) z (frm (sc (6 * j + 1)) z)) (runO T (frm (sc (6 * j + 1)) z) q (cnt (sc (6 * j + 2)) z (frm (sc (6 * j + 1)) z))), jA mbk B.1 16 BK, jA mbn B.1 16 BN, jA mr B.2 256 (nP (nxN (cnt (sc (6 * j + 2)) z (frm (sc (6 * j + 1)) z)) q).1), jO e0 1 [.int (bI (nxN (cnt (sc (6 * j + 2)) z (frm (sc (6 * j + 1)) z)) q).2.2), .ref a0, .int (bI (nxN (cnt (sc (6 * j + 2)) z (frm (sc (6 * j + 1)) z)) q).2.1), .ref iv, .ref wk], jA a0 B.1 256 (bP (nxN (cnt (sc (6 * j + 2)) z (frm (sc (6 * j + 1)) z)) q).1), jA iv B.1 16 VW, jA wk B.1 16 KW] := hD.sub [0, 1, 2, 3, 17, 5, 6, 7, 8, 18, 10, 11, 12, 13, 14, 15, 16] (by decide) rfl
        have hcl2 := cnt_le (y := (sc (6 * j + 2))) (frm_le (sc (6 * j + 1)) z)
        refine W.widen (k := cells + 10) (n := slots + 600) (by show cells + 1 + 1 ≤ cells + 10; omega) (by show slots + 256 + 256 ≤ slots + 600; omega) ?_
        exact kk _ H _ ls ⟨.ref e0, 1, (g + cnt (sc (6 * j + 2)) z (frm (sc (6 * j + 1)) z)), z, (cnt (sc (6 * j + 2)) z (frm (sc (6 * j + 1)) z)), k0, n0, t0, u, mk, mn, mt, um, mbk, mbn, mr, K, N, T, runO T (frm (sc (6 * j + 1)) z) q (cnt (sc (6 * j + 2)) z (frm (sc (6 * j + 1)) z)), BK, BN, nP (nxN (cnt (sc (6 * j + 2)) z (frm (sc (6 * j + 1)) z)) q).1, .int (nI (nxN (cnt (sc (6 * j + 2)) z (frm (sc (6 * j + 1)) z)) q).2.1), .int (nI (nxN (cnt (sc (6 * j + 2)) z (frm (sc (6 * j + 1)) z)) q).2.2), [jO e0 1 [.int (bI (nxN (cnt (sc (6 * j + 2)) z (frm (sc (6 * j + 1)) z)) q).2.2), .ref a0, .int (bI (nxN (cnt (sc (6 * j + 2)) z (frm (sc (6 * j + 1)) z)) q).2.1), .ref iv, .ref wk], jA a0 B.1 256 (bP (nxN (cnt (sc (6 * j + 2)) z (frm (sc (6 * j + 1)) z)) q).1), jA iv B.1 16 VW, jA wk B.1 16 KW], rfl, hz, hc, (by omega), Or.inr ⟨rfl, (nxN (cnt (sc (6 * j + 2)) z (frm (sc (6 * j + 1)) z)) q), e0, a0, iv, wk, KW, VW, (okS_nxN hq _), rfl, rfl, rfl, rfl, rfl, hkw, hvw⟩⟩ hP hD hS hl
      · exact absurd rfl c_329
    · refine lv_aload_n hx hb dL_law_301 rfl (lv_at hl 1 rfl) ?_
      refine lv_aload_n hx hb dL_law_302 rfl (lv_at hl 0 rfl) ?_
      refine lv_iload_n hx hb dL_law_303 rfl (lv_at hl 3 rfl) ?_
      refine lv_iconst (v := nI 1) hx hb dL_law_304 (by decide) ?_
      refine lv_iadd hx hb dL_law_305 ?_
      refine jas (y := nI (6 * j + 1)) (nI_add _ _) ?_
      refine jsld hx hb hX hbl hbA hS (6 * j + 1) (by omega) (by omega) dL_law_306 ?_
      refine lv_aload_n hx hb dL_law_307 rfl (lv_at hl 0 rfl) ?_
      refine lv_iload_n hx hb dL_law_308 rfl (lv_at hl 3 rfl) ?_
      refine lv_iconst (v := nI 2) hx hb dL_law_309 (by decide) ?_
      refine lv_iadd hx hb dL_law_310 ?_
      refine jas (y := nI (6 * j + 2)) (nI_add _ _) ?_
      refine jsld hx hb hX hbl hbA hS (6 * j + 2) (by omega) (by omega) dL_law_311 ?_
      refine jcalli (ws := [jO dk 0 [.ref e0, .int (nI 1), .int (nI g), .ref k0, .ref n0, .ref t0, .int (nI z), .ref o0], jA k0 B.1 32 K, jA n0 B.1 32 N, jA t0 B.1 256 T, jA o0 B.1 no O_, jO md 2 [.ref mk, .ref mn, .ref mt, .int (nI z), .ref mo, .int (nI 1), .int (nI g), .ref mbk, .ref mbn, .ref mr, .int (nI q.2.1), .int (nI q.2.2)], jA mk B.1 32 K, jA mn B.1 32 N, jA mt B.1 256 T, jA mo B.1 no O_, jA mbk B.1 16 BK, jA mbn B.1 16 BN, jA mr B.2 256 (nP q.1), jO e0 1 [.int (bI q.2.2), .ref a0, .int (bI q.2.1), .ref iv, .ref wk], jA a0 B.1 256 (bP q.1), jA iv B.1 16 VW, jA wk B.1 16 KW]) (wc := [jO dk 0 [.ref e0, .int (nI 1), .int (nI g), .ref k0, .ref n0, .ref t0, .int (nI z), .ref o0]]) [0] rfl (by decide) (fun _ => rfl) hP hD hS hA (va_runV (C := RX0) (b := dk) (As := [.int (sc (6 * j + 1)), .int (sc (6 * j + 2))]) (rest := []) ⟨hx, hb, hml, hown, hts⟩ (metX0_run_full l D B H.size dk z g hz hg (sc (6 * j + 1)) (sc (6 * j + 2)) (by omega) (.ref e0) (.ref k0) (.ref n0) (.ref t0) (.ref o0)) (cwV 2 hts (lw_V q233 q234 q235 q9 q236) rfl rfl rfl (by decide +kernel) ⟨Nat.le_of_ble_eq_true rfl, Nat.le_of_ble_eq_true rfl⟩) (jPreV (ci := 0) (q0 := 0) hK (hP.sub (ws' := [jO dk 0 [.ref e0, .int (nI 1), .int (nI g), .ref k0, .ref n0, .ref t0, .int (nI z), .ref o0]]) [0] rfl) (hD.sub (ws' := [jO dk 0 [.ref e0, .int (nI 1), .int (nI g), .ref k0, .ref n0, .ref t0, .int (nI z), .ref o0]]) [0] (by decide) rfl) rfl rfl) rfl rfl hl.1 rfl (lv_room (Nat.le_of_ble_eq_true rfl)) dL_law_312 ⟨by show cells + 1 ≤ 600128; omega, by show slots + 256 ≤ 7301098; omega⟩) (fun r_312 _ H locs hu hP hD hS => ?_)
      subst hu
      have hP : va_P D vwCl [jO dk 0 [.ref e0, .int (nI 1), .int (nI g), .ref k0, .ref n0, .ref t0, .int (nI z), .ref o0], jA k0 B.1 32 K, jA n0 B.1 32 N, jA t0 B.1 256 T, jA o0 B.1 no O_, jO md 2 [.ref mk, .ref mn, .ref mt, .int (nI z), .ref mo, .int (nI 1), .int (nI g), .ref mbk, .ref mbn, .ref mr, .int (nI q.2.1), .int (nI q.2.2)], jA mk B.1 32 K, jA mn B.1 32 N, jA mt B.1 256 T, jA mo B.1 no O_, jA mbk B.1 16 BK, jA mbn B.1 16 BN, jA mr B.2 256 (nP q.1), jO e0 1 [.int (bI q.2.2), .ref a0, .int (bI q.2.1), .ref iv, .ref wk], jA a0 B.1 256 (bP q.1), jA iv B.1 16 VW, jA wk B.1 16 KW] H := hP
      have hD : va_D A [jO dk 0 [.ref e0, .int (nI 1), .int (nI g), .ref k0, .ref n0, .ref t0, .int (nI z), .ref o0], jA k0 B.1 32 K, jA n0 B.1 32 N, jA t0 B.1 256 T, jA o0 B.1 no O_, jO md 2 [.ref mk, .ref mn, .ref mt, .int (nI z), .ref mo, .int (nI 1), .int (nI g), .ref mbk, .ref mbn, .ref mr, .int (nI q.2.1), .int (nI q.2.2)], jA mk B.1 32 K, jA mn B.1 32 N, jA mt B.1 256 T, jA mo B.1 no O_, jA mbk B.1 16 BK, jA mbn B.1 16 BN, jA mr B.2 256 (nP q.1), jO e0 1 [.int (bI q.2.2), .ref a0, .int (bI q.2.1), .ref iv, .ref wk], jA a0 B.1 256 (bP q.1), jA iv B.1 16 VW, jA wk B.1 16 KW] := hD
      refine lv_aload_n hx hb dL_law_315 rfl (lv_at hl 2 rfl) ?_
      refine lv_aload_n hx hb dL_law_316 rfl (lv_at hl 0 rfl) ?_
      refine lv_iload_n hx hb dL_law_317 rfl (lv_at hl 3 rfl) ?_
      refine lv_iconst (v := nI 1) hx hb dL_law_318 (by decide) ?_
      refine lv_iadd hx hb dL_law_319 ?_
      refine jas (y := nI (6 * j + 1)) (nI_add _ _) ?_
      refine jsld hx hb hX hbl hbA hS (6 * j + 1) (by omega) (by omega) dL_law_320 ?_
      refine lv_aload_n hx hb dL_law_321 rfl (lv_at hl 0 rfl) ?_
      refine lv_iload_n hx hb dL_law_322 rfl (lv_at hl 3 rfl) ?_
      refine lv_iconst (v := nI 2) hx hb dL_law_323 (by decide) ?_
      refine lv_iadd hx hb dL_law_324 ?_
      refine jas (y := nI (6 * j + 2)) (nI_add _ _) ?_
      refine jsld hx hb hX hbl hbA hS (6 * j + 2) (by omega) (by omega) dL_law_325 ?_
      refine jcalli (ws := [jO dk 0 [.ref e0, .int (nI 1), .int (nI g), .ref k0, .ref n0, .ref t0, .int (nI z), .ref o0], jA k0 B.1 32 K, jA n0 B.1 32 N, jA t0 B.1 256 T, jA o0 B.1 no O_, jO md 2 [.ref mk, .ref mn, .ref mt, .int (nI z), .ref mo, .int (nI 1), .int (nI g), .ref mbk, .ref mbn, .ref mr, .int (nI q.2.1), .int (nI q.2.2)], jA mk B.1 32 K, jA mn B.1 32 N, jA mt B.1 256 T, jA mo B.1 no O_, jA mbk B.1 16 BK, jA mbn B.1 16 BN, jA mr B.2 256 (nP q.1), jO e0 1 [.int (bI q.2.2), .ref a0, .int (bI q.2.1), .ref iv, .ref wk], jA a0 B.1 256 (bP q.1), jA iv B.1 16 VW, jA wk B.1 16 KW]) (wc := [jO md 2 [.ref mk, .ref mn, .ref mt, .int (nI z), .ref mo, .int (nI 1), .int (nI g), .ref mbk, .ref mbn, .ref mr, .int (nI q.2.1), .int (nI q.2.2)]]) [5] rfl (by decide) (fun _ => rfl) hP hD hS hA (va_runV (C := RX2) (b := md) (As := [.int (sc (6 * j + 1)), .int (sc (6 * j + 2))]) (rest := [.int ((-2))]) ⟨hx, hb, hml, hown, hts⟩ (metX2_run_full l D B H.size md z g hz hg (sc (6 * j + 1)) (sc (6 * j + 2)) (by omega) (.ref mk) (.ref mn) (.ref mt) (.ref mo) (.ref mbk) (.ref mbn) (.ref mr) (.int (nI q.2.1)) (.int (nI q.2.2))) (cwV 2 hts (lw_V q389 q390 q391 q11 q392) rfl rfl rfl (by decide +kernel) ⟨Nat.le_of_ble_eq_true rfl, Nat.le_of_ble_eq_true rfl⟩) (jPreV (ci := 2) (q0 := 0) hK (hP.sub (ws' := [jO md 2 [.ref mk, .ref mn, .ref mt, .int (nI z), .ref mo, .int (nI 1), .int (nI g), .ref mbk, .ref mbn, .ref mr, .int (nI q.2.1), .int (nI q.2.2)]]) [5] rfl) (hD.sub (ws' := [jO md 2 [.ref mk, .ref mn, .ref mt, .int (nI z), .ref mo, .int (nI 1), .int (nI g), .ref mbk, .ref mbn, .ref mr, .int (nI q.2.1), .int (nI q.2.2)]]) [5] (by decide) rfl) rfl rfl) rfl rfl hl.1 rfl (lv_room (Nat.le_of_ble_eq_true rfl)) dL_law_326 ⟨by show cells + 1 + 1 ≤ 600128; omega, by show slots + 256 + 256 ≤ 7301098; omega⟩) (fun r_326 _ H locs hu hP hD hS => ?_)
      subst hu
      have hP : va_P D vwCl [jO dk 0 [.ref e0, .int (nI 1), .int (nI g), .ref k0, .ref n0, .ref t0, .int (nI z), .ref o0], jA k0 B.1 32 K, jA n0 B.1 32 N, jA t0 B.1 256 T, jA o0 B.1 no O_, jO md 2 [.ref mk, .ref mn, .ref mt, .int (nI z), .ref mo, .int (nI 1), .int (nI g), .ref mbk, .ref mbn, .ref mr, .int (nI q.2.1), .int (nI q.2.2)], jA mk B.1 32 K, jA mn B.1 32 N, jA mt B.1 256 T, jA mo B.1 no O_, jA mbk B.1 16 BK, jA mbn B.1 16 BN, jA mr B.2 256 (nP q.1), jO e0 1 [.int (bI q.2.2), .ref a0, .int (bI q.2.1), .ref iv, .ref wk], jA a0 B.1 256 (bP q.1), jA iv B.1 16 VW, jA wk B.1 16 KW] H := hP
      have hD : va_D A [jO dk 0 [.ref e0, .int (nI 1), .int (nI g), .ref k0, .ref n0, .ref t0, .int (nI z), .ref o0], jA k0 B.1 32 K, jA n0 B.1 32 N, jA t0 B.1 256 T, jA o0 B.1 no O_, jO md 2 [.ref mk, .ref mn, .ref mt, .int (nI z), .ref mo, .int (nI 1), .int (nI g), .ref mbk, .ref mbn, .ref mr, .int (nI q.2.1), .int (nI q.2.2)], jA mk B.1 32 K, jA mn B.1 32 N, jA mt B.1 256 T, jA mo B.1 no O_, jA mbk B.1 16 BK, jA mbn B.1 16 BN, jA mr B.2 256 (nP q.1), jO e0 1 [.int (bI q.2.2), .ref a0, .int (bI q.2.1), .ref iv, .ref wk], jA a0 B.1 256 (bP q.1), jA iv B.1 16 VW, jA wk B.1 16 KW] := hD
      refine lv_icmp_eq (tgt := 391) hx hb dL_law_329 (by decide) (fun c_329 => ?_) (fun c_329 => ?_)
      · refine W.widen (k := cells + 10) (n := slots + 600) (by show cells + 1 + 1 ≤ cells + 10; omega) (by show slots + 256 + 256 ≤ slots + 600; omega) ?_
        exact kk _ H _ ls ⟨.ref e0, 1, g, z, no, k0, n0, t0, o0, mk, mn, mt, mo, mbk, mbn, mr, K, N, T, O_, BK, BN, nP q.1, .int (nI q.2.1), .int (nI q.2.2), [jO e0 1 [.int (bI q.2.2), .ref a0, .int (bI q.2.1), .ref iv, .ref wk], jA a0 B.1 256 (bP q.1), jA iv B.1 16 VW, jA wk B.1 16 KW], rfl, hz, hg, hno, Or.inr ⟨rfl, q, e0, a0, iv, wk, KW, VW, hq, rfl, rfl, rfl, rfl, rfl, hkw, hvw⟩⟩ hP hD hS hl
      · exact absurd rfl c_329
end
section
/-! THE CLAIM OUT OF ONE WALK OF THE LAW'S BODY. Your part is whole_start (and what it stands on); all else here is the same for every law, but numbers. -/
def R_law : String := "VmpcDeskLaw"
def lw_P (b : Addr) (xs : List Int32) (args : Array Value) (s : State) : Prop := args = #[.ref b] ∧ s.IntsAt b xs ∧ xs.length ≤ 384 ∧ (Jvm.Cond.and given_1 narrow_1).before args s = true
def lw_Q (_ : Array Value) (s : State) (o : Outcome) (t : State) : Prop := o = .returned (some (.int 1)) ∧ Framed s o t [] 600128 7301098
def lw_Z (below : List Frame) (a : Array Value) (s : State) : State → Prop := fun t => ∃ o, t.status = .running ∧ Ended t below o ∧ lw_Q a s o t
/-- the law's own end, with 1 on the stack, nothing written that was there before, its room as the claim has it -/
theorem lw_ret {p : Program} {l : Launch} {e : Env} {s : State} {m : MethodId} {below : List Frame} {meth : Method} {c : Code} {b : Nat} (hx : p.tables.exec = Jvm.exec) (hb : c.code = code) (hr : meth.sig.returnType = ret) (hlocks : meth.locks = false) {pc : Nat} {H : Heap} {ls : Array Slot} (hdg : decode code pc = .ok (.ireturn, 1)) : W p l e room_1 s m #[Value.ref b] below meth c H [] 600128 7301098 (lw_Z below #[Value.ref b] s) (F0 m pc ls [.int 1]) := by
  intro T hT X
  obtain ⟨fs, hret, hrun, hended, hW, hframe⟩ := X.leave (v := some (.int 1)) (hlocks := hlocks) (fun h => by rw [hr] at h; cases h)
  have hmeth' : T.vm.method? m = some meth := X.method'
  refine ⟨T.setFrames fs, ?_, .returned (some (.int 1)), hrun, hended, rfl, ⟨_, rfl⟩, hW, hframe⟩
  jvm_step X.here [X.here.top, hx, hb, hdg, hmeth', hr, ret, narrow_b1]
  (try refine ⟨rfl, ?_⟩); (try refine ⟨rfl, ?_⟩)
  first | (intro acts; rw [hret _ acts rfl rfl rfl]) | rw [hret _ _ rfl rfl rfl]
  exact Steps.refl _
/-- what holds at the law's entry: the machine, the code, the tables' words (any of lw_tbl by 'hts w (by decide +kernel)'), the script of L ints xs at the cell b, what the Statement gives of the start (any of its parts by flat_of_before) -/
def lw_At (p : Program) (s : State) (m : MethodId) (meth : Method) (c : Code) (b L : Nat) (xs : Nat → Int32) : Prop :=
  p.tables.exec = Jvm.exec ∧ c.code = code ∧ meth.sig.returnType = ret ∧ c.maxLocals = 4 ∧ s.vm.findClass R_law = some m.cls ∧ (∀ w ∈ lw_tbl, w.before #[Value.ref b] s = true) ∧ va_X b L xs s s.heap ∧ b < s.heap.size ∧ meth.locks = false ∧ (Jvm.Cond.and given_1 narrow_1).before #[Value.ref b] s = true
/-- the classes and the two array classes, known at the claim's start -/
theorem law_K {s : State} {b : Addr} (ht0 : ∀ w ∈ lw_tbl, w.before #[Value.ref b] s = true) : ∃ (D : va_G) (B : ClassId × ClassId), va_K D vwCl (TY B) s := by
  obtain ⟨c0, i0, h0⟩ := u_known (C := RX0) (T := TX0) (N := 8) (n := 8) ht0 (fun w h => lw_all_tbl (in_X0 w h)) (ht0 _ (lw_all_tbl q23))
  obtain ⟨c1, i1, h1⟩ := u_known (C := RX1) (T := TX1) (N := 5) (n := 5) ht0 (fun w h => lw_all_tbl (in_X1 w h)) (ht0 _ (lw_all_tbl q31))
  obtain ⟨c2, i2, h2⟩ := u_known (C := RX2) (T := TX2) (N := 12) (n := 12) ht0 (fun w h => lw_all_tbl (in_X2 w h)) (ht0 _ (lw_all_tbl q303))
  obtain ⟨c3, i3, h3⟩ := u_known (C := RX3) (T := TX3) (N := 2) (n := 2) ht0 (fun w h => lw_all_tbl (in_X3 w h)) (ht0 _ (lw_all_tbl q107))
  obtain ⟨c4, i4, h4⟩ := u_known (C := RX4) (T := TX4) (N := 1) (n := 1) ht0 (fun w h => lw_all_tbl (in_X4 w h)) (ht0 _ (lw_all_tbl q109))
  obtain ⟨cB, kB, mB, b1, b2, b3⟩ := Cond.arrayClass_spec (ht0 _ (lw_all_tbl q77))
  obtain ⟨cI, kI, mI, n1, n2, n3⟩ := Cond.arrayClass_spec (ht0 _ (lw_all_tbl q345))
  refine ⟨(fun k => match k with | 0 => c0 | 1 => c1 | 2 => c2 | 3 => c3 | _ => c4, fun k => match k with | 0 => i0 | 1 => i1 | 2 => i2 | 3 => i3 | _ => i4), (cB, cI), ?_, ?_⟩
  · intro k q hq
    match k, hq with
    | 0, hq => cases hq; exact h0
    | 1, hq => cases hq; exact h1
    | 2, hq => cases hq; exact h2
    | 3, hq => cases hq; exact h3
    | 4, hq => cases hq; exact h4
    | k + 5, hq => simp [vwCl] at hq
  · intro k q hq
    match k, hq with
    | 0, hq => cases hq; exact ⟨fun n z => ⟨fun k h => (by cases h), kB, b2, mB, b3⟩, b1⟩
    | 1, hq => cases hq; exact ⟨fun n z => ⟨fun k h => (by cases h), kI, n2, mI, n3⟩, n1⟩
    | k + 2, hq => simp [TY] at hq
set_option maxHeartbeats 4000000 in
set_option maxRecDepth 100000 in
/-- the law's loop at its head, j calls made -/
theorem law_loop {p : Program} {l : Launch} {e : Env} {s : State} {m : MethodId} {below : List Frame} {meth : Method} {c : Code} {D : va_G} {B : ClassId × ClassId} {A : Nat → Prop} {b L dk md : Nat} {sc : Nat → Int32} (hx : p.tables.exec = Jvm.exec) (hb : c.code = cL_law) (hml : c.maxLocals = 4) (hown : s.vm.findClass "VmpcDeskLaw" = some m.cls) (hts : ∀ w ∈ lw_all, w.before #[Value.ref b] s = true) (hK : va_K D vwCl (TY B) s) (hA : ∀ q : Nat, s.heap.size ≤ q → A q) (hX : va_X b L sc s s.heap) (hbl : b < s.heap.size) (hbA : ¬ A b) (hL : L ≤ 384) (hr : meth.sig.returnType = ret) (hlocks : meth.locks = false) (hAs : ∀ q : Nat, A q → s.heap.size ≤ q) :
    ∀ (n j : Nat), L < 6 * j + n → 6 * j ≤ L + 6 → ∀ (w : va_W) (H : Heap) (locs : List Loc) (ls : Array Slot), LInv B dk md w → va_P D vwCl w H → va_D A w → va_S A s.heap H locs → lv_has ls 4 [(0, .ref b), (1, .ref dk), (2, .ref md), (3, .int (nI (6 * j)))] → W p l e room_1 s m #[Value.ref b] below meth c H locs (16 + 10 * j) (1000 + 600 * j) (lw_Z below #[Value.ref b] s) (F0 m 18 ls []) := by
  intro n
  induction n with
  | zero =>
    intro j hn hj0 w H locs ls hI hP hD hS hl
    refine lv_iload_n hx hb dL_law_18 rfl (lv_at hl 3 rfl) ?_
    refine lv_aload_n hx hb dL_law_19 rfl (lv_at hl 0 rfl) ?_
    refine va_slen hx hb hX hbl hbA hS dL_law_20 ?_
    refine jas (y := nI L) rfl ?_
    refine lv_bipush (v := nI 6) hx hb dL_law_21 (by decide) ?_
    refine lv_isub hx hb dL_law_23 ?_
    refine lv_icmp_gt (tgt := 397) hx hb dL_law_24 (by decide) (fun c_24 => ?_) (fun c_24 => ?_)
    · refine lv_iconst (v := 1) hx hb dL_law_397 (by decide) ?_
      refine va_forget (fun q hq => hAs _ (hS.2.2 q hq)) ?_
      refine W.widen (k := 600128) (n := 7301098) (by omega) (by omega) ?_
      exact lw_ret hx hb hr hlocks dL_law_398
    · have hj : 6 * j + 6 ≤ L := by
        have h1 := pk_sub_toInt (a := L) (b := 6) (by omega) (by decide)
        have h2 := nI_toInt (n := 6 * j) (by omega)
        have h3 : ¬ (nI L - nI 6).toInt < (nI (6 * j)).toInt := fun q => c_24 (Int32.lt_iff_toInt_lt.mpr q)
        rw [h1, h2] at h3
        omega
      omega
  | succ n ih =>
    intro j hn hj0 w H locs ls hI hP hD hS hl
    refine lv_iload_n hx hb dL_law_18 rfl (lv_at hl 3 rfl) ?_
    refine lv_aload_n hx hb dL_law_19 rfl (lv_at hl 0 rfl) ?_
    refine va_slen hx hb hX hbl hbA hS dL_law_20 ?_
    refine jas (y := nI L) rfl ?_
    refine lv_bipush (v := nI 6) hx hb dL_law_21 (by decide) ?_
    refine lv_isub hx hb dL_law_23 ?_
    refine lv_icmp_gt (tgt := 397) hx hb dL_law_24 (by decide) (fun c_24 => ?_) (fun c_24 => ?_)
    · refine lv_iconst (v := 1) hx hb dL_law_397 (by decide) ?_
      refine va_forget (fun q hq => hAs _ (hS.2.2 q hq)) ?_
      refine W.widen (k := 600128) (n := 7301098) (by omega) (by omega) ?_
      exact lw_ret hx hb hr hlocks dL_law_398
    · have hj : 6 * j + 6 ≤ L := by
        have h1 := pk_sub_toInt (a := L) (b := 6) (by omega) (by decide)
        have h2 := nI_toInt (n := 6 * j) (by omega)
        have h3 : ¬ (nI L - nI 6).toInt < (nI (6 * j)).toInt := fun q => c_24 (Int32.lt_iff_toInt_lt.mpr q)
        rw [h1, h2] at h3
        omega
      have kk : ∀ (w : va_W) (H : Heap) (locs : List Loc) (ls : Array Slot), LInv B dk md w → va_P D vwCl w H → va_D A w → va_S A s.heap H locs → lv_has ls 4 [(0, .ref b), (1, .ref dk), (2, .ref md), (3, .int (nI (6 * j)))] → W p l e room_1 s m #[Value.ref b] below meth c H locs (16 + 10 * j + 10) (1000 + 600 * j + 600) (lw_Z below #[Value.ref b] s) (F0 m 391 ls []) := by
        intro w H locs ls hI hP hD hS hl
        refine lv_iinc (v := nI (6 * (j + 1))) (lv' := [(3, .int (nI (6 * (j + 1)))), (0, .ref b), (1, .ref dk), (2, .ref md)]) hx hb dL_law_391 hl (k := 3) rfl (by rw [show Int32.ofInt 6 = nI 6 from by decide, nI_add]; rfl) (by decide) rfl (fun ls hl => ?_)
        refine lv_goto (tgt := 18) hx hb dL_law_394 (by decide) ?_
        refine W.widen (k := 16 + 10 * (j + 1)) (n := 1000 + 600 * (j + 1)) (by omega) (by omega) ?_
        exact ih (j + 1) (by omega) (by omega) w H locs ls hI hP hD hS (lv_sub hl [1, 2, 3, 0] rfl)
      refine lv_aload_n hx hb dL_law_27 rfl (lv_at hl 0 rfl) ?_
      refine lv_iload_n hx hb dL_law_28 rfl (lv_at hl 3 rfl) ?_
      refine jsld hx hb hX hbl hbA hS (6 * j) (by omega) (by omega) dL_law_29 ?_
      refine lv_bipush (v := nI 15) hx hb dL_law_30 (by decide) ?_
      refine lv_iand hx hb dL_law_32 ?_
      obtain ⟨o, ho, eo⟩ := pk_andE (sc (6 * j)) (m := nI 15) 4 (by decide)
      refine jas eo ?_
      by_cases h0 : o = 0
      · subst h0
        refine lv_tableIn (tgt := 84) (off := 51) hx hb dL_law_33 (by decide) (by decide) rfl (by decide) ?_
        exact stepL_put hx hb hml hown hts hK hA hX hbl hbA hL hj (by omega) (by omega) kk w H locs ls hI hP hD hS hl
      by_cases h1 : o = 1
      · subst h1
        refine lv_tableIn (tgt := 137) (off := 104) hx hb dL_law_33 (by decide) (by decide) rfl (by decide) ?_
        exact stepL_trim hx hb hml hown hts hK hA hX hbl hbA hL hj (by omega) (by omega) kk w H locs ls hI hP hD hS hl
      by_cases h2 : o = 2
      · subst h2
        refine lv_tableIn (tgt := 158) (off := 125) hx hb dL_law_33 (by decide) (by decide) rfl (by decide) ?_
        exact stepL_key hx hb hml hown hts hK hA hX hbl hbA hL hj (by omega) (by omega) kk w H locs ls hI hP hD hS hl
      by_cases h3 : o = 3
      · subst h3
        refine lv_tableIn (tgt := 219) (off := 186) hx hb dL_law_33 (by decide) (by decide) rfl (by decide) ?_
        exact stepL_nonce hx hb hml hown hts hK hA hX hbl hbA hL hj (by omega) (by omega) kk w H locs ls hI hP hD hS hl
      by_cases h4 : o = 4
      · subst h4
        refine lv_tableIn (tgt := 280) (off := 247) hx hb dL_law_33 (by decide) (by decide) rfl (by decide) ?_
        exact stepL_begin hx hb hml hown hts hK hA hX hbl hbA hL hj (by omega) (by omega) kk w H locs ls hI hP hD hS hl
      by_cases h5 : o = 5
      · subst h5
        refine lv_tableIn (tgt := 301) (off := 268) hx hb dL_law_33 (by decide) (by decide) rfl (by decide) ?_
        exact stepL_run hx hb hml hown hts hK hA hX hbl hbA hL hj (by omega) (by omega) kk w H locs ls hI hP hD hS hl
      by_cases h6 : o = 6
      · subst h6
        refine lv_tableIn (tgt := 334) (off := 301) hx hb dL_law_33 (by decide) (by decide) rfl (by decide) ?_
        exact stepL_one hx hb hml hown hts hK hA hX hbl hbA hL hj (by omega) (by omega) kk w H locs ls hI hP hD hS hl
      by_cases h7 : o = 7
      · subst h7
        refine lv_tableIn (tgt := 357) (off := 324) hx hb dL_law_33 (by decide) (by decide) rfl (by decide) ?_
        exact stepL_again hx hb hml hown hts hK hA hX hbl hbA hL hj (by omega) (by omega) kk w H locs ls hI hP hD hS hl
      by_cases h8 : o = 8
      · subst h8
        refine lv_tableIn (tgt := 368) (off := 335) hx hb dL_law_33 (by decide) (by decide) rfl (by decide) ?_
        exact stepL_out hx hb hml hown hts hK hA hX hbl hbA hL hj (by omega) (by omega) kk w H locs ls hI hP hD hS hl
      refine lv_tableOut (tgt := 391) hx hb dL_law_33 (Or.inr (by rw [nI_toInt (by omega)]; omega)) (by decide) ?_
      refine W.widen (k := 16 + 10 * j + 10) (n := 1000 + 600 * j + 600) (by omega) (by omega) ?_
      exact kk w H locs ls hI hP hD hS hl
set_option maxHeartbeats 4000000 in
set_option maxRecDepth 100000 in
/-- from the entry: two objects are made, then the loop -/
theorem whole_start {p : Program} {e : Env} {s : State} {m : MethodId} {below : List Frame} {meth : Method} {c : Code} (l : Launch) (hflags : l.flags = flags0) {b L : Nat} {xs : Nat → Int32} (hL : L ≤ 384) (C0 : lw_At p s m meth c b L xs) : W p l e room_1 s m #[Value.ref b] below meth c s.heap [] 0 0 (lw_Z below #[Value.ref b] s) (entryFrame m ([Value.ref b] : List Value).toArray 4) := by
  obtain ⟨hx, hb, hr, hml, hown, hts0, hX, hbl, hlocks, hgv⟩ := C0
  have hown : s.vm.findClass "VmpcDeskLaw" = some m.cls := hown
  have hts : ∀ w ∈ lw_all, w.before #[Value.ref b] s = true := fun w h => hts0 w (lw_all_tbl h)
  obtain ⟨D, B, hK⟩ := law_K hts0
  obtain ⟨A, hAd⟩ : ∃ A : Nat → Prop, A = fun q => s.heap.size ≤ q := ⟨_, rfl⟩
  have hA : ∀ q : Nat, s.heap.size ≤ q → A q := fun q h => by rw [hAd]; exact h
  have hAs : ∀ q : Nat, A q → s.heap.size ≤ q := fun q h => by rw [hAd] at h; exact h
  have hbA : ¬ A b := fun h => Nat.lt_irrefl _ (Nat.lt_of_lt_of_le hbl (hAs b h))
  have hP : va_P D vwCl [] s.heap := fun k q h => by simp at h
  have hD : va_D A [] := ⟨fun i j p q h => by simp at h, fun k q h => by simp at h⟩
  have hS : va_S A s.heap s.heap [] := va_S.rf
  have hl := lv_entry ([.ref b]) (n := 4) (Nat.le_of_ble_eq_true rfl)
  rw [lg_entry_eq]
  generalize (lg_sl ([.ref b]) ++ List.replicate (4 - (lg_sl ([.ref b])).length) Slot.unset).toArray = ls at hl ⊢
  have hl : lv_has ls 4 [(0, .ref b)] := hl
  refine va_new (ci := 0) (fs := [.null, .int 0, .int 0, .null, .null, .null, .int 0, .null]) (C := RX0) (T := TX0) (N := 8) hx hb hts in_X0 tyX0 tyX0_ok hown (hts _ q22) (hts _ q23) (hts _ q9) hK hP hD hS hA rfl (by decide) (Nat.le_of_ble_eq_true rfl) (Nat.le_of_ble_eq_true rfl) dL_law_0 (fun dk H hP hD hS => ?_)
  have hP : va_P D vwCl [jO dk 0 [.null, .int 0, .int 0, .null, .null, .null, .int 0, .null]] H := hP
  have hD : va_D A [jO dk 0 [.null, .int 0, .int 0, .null, .null, .null, .int 0, .null]] := hD
  refine lv_dup hx hb dL_law_3 rfl ?_
  refine jcallv (ws := [jO dk 0 [.null, .int 0, .int 0, .null, .null, .null, .int 0, .null]]) (wc := [jO dk 0 [.null, .int 0, .int 0, .null, .null, .null, .int 0, .null]]) [0] rfl (by decide) (fun _ => rfl) hP hD hS hA (va_runI (b := dk) (As := []) (rest := [.ref dk]) ⟨hx, hb, hml, hown, hts⟩ (metX0_init l D B H.size dk) (cwI 0 hts (lw_meth q26) rfl rfl rfl (hts _ q9) (hts _ q24) (hts _ q25) rfl (by decide +kernel) ⟨Nat.le_of_ble_eq_true rfl, Nat.le_of_ble_eq_true rfl⟩) (jPreS hK (hP.sub (ws' := [jO dk 0 [.null, .int 0, .int 0, .null, .null, .null, .int 0, .null]]) [0] rfl) (hD.sub (ws' := [jO dk 0 [.null, .int 0, .int 0, .null, .null, .null, .int 0, .null]]) [0] (by decide) rfl)) rfl rfl hl.1 rfl (lv_room (Nat.le_of_ble_eq_true rfl)) dL_law_4 ⟨Nat.le_of_ble_eq_true rfl, Nat.le_of_ble_eq_true rfl⟩) (fun u H locs hu hP hD hS => ?_)
  have hP : va_P D vwCl [jO dk 0 [.ref u.1, .int 0, .int 0, .ref u.2.1, .ref u.2.2.1, .ref u.2.2.2.1, .int 0, .ref u.2.2.2.2], jA u.2.1 B.1 32 (fun _ => 0), jA u.2.2.1 B.1 32 (fun _ => 0), jA u.2.2.2.1 B.1 256 (fun _ => 0), jA u.2.2.2.2 B.1 0 (fun _ => 0)] H := hP
  have hD : va_D A [jO dk 0 [.ref u.1, .int 0, .int 0, .ref u.2.1, .ref u.2.2.1, .ref u.2.2.2.1, .int 0, .ref u.2.2.2.2], jA u.2.1 B.1 32 (fun _ => 0), jA u.2.2.1 B.1 32 (fun _ => 0), jA u.2.2.2.1 B.1 256 (fun _ => 0), jA u.2.2.2.2 B.1 0 (fun _ => 0)] := hD
  refine lv_astore_n (lv' := [(1, .ref dk), (0, .ref b)]) hx hb dL_law_7 rfl hl (by decide) rfl (fun ls hl => ?_)
  refine va_new (ci := 2) (fs := [.null, .null, .null, .int 0, .null, .int 0, .int 0, .null, .null, .null, .int 0, .int 0]) (C := RX2) (T := TX2) (N := 12) hx hb hts in_X2 tyX2 tyX2_ok hown (hts _ q302) (hts _ q303) (hts _ q11) hK hP hD hS hA rfl (by decide) (Nat.le_of_ble_eq_true rfl) (Nat.le_of_ble_eq_true rfl) dL_law_8 (fun md H hP hD hS => ?_)
  have hP : va_P D vwCl [jO dk 0 [.ref u.1, .int 0, .int 0, .ref u.2.1, .ref u.2.2.1, .ref u.2.2.2.1, .int 0, .ref u.2.2.2.2], jA u.2.1 B.1 32 (fun _ => 0), jA u.2.2.1 B.1 32 (fun _ => 0), jA u.2.2.2.1 B.1 256 (fun _ => 0), jA u.2.2.2.2 B.1 0 (fun _ => 0), jO md 2 [.null, .null, .null, .int 0, .null, .int 0, .int 0, .null, .null, .null, .int 0, .int 0]] H := hP
  have hD : va_D A [jO dk 0 [.ref u.1, .int 0, .int 0, .ref u.2.1, .ref u.2.2.1, .ref u.2.2.2.1, .int 0, .ref u.2.2.2.2], jA u.2.1 B.1 32 (fun _ => 0), jA u.2.2.1 B.1 32 (fun _ => 0), jA u.2.2.2.1 B.1 256 (fun _ => 0), jA u.2.2.2.2 B.1 0 (fun _ => 0), jO md 2 [.null, .null, .null, .int 0, .null, .int 0, .int 0, .null, .null, .null, .int 0, .int 0]] := hD
  refine lv_dup hx hb dL_law_11 rfl ?_
  refine jcallv (ws := [jO dk 0 [.ref u.1, .int 0, .int 0, .ref u.2.1, .ref u.2.2.1, .ref u.2.2.2.1, .int 0, .ref u.2.2.2.2], jA u.2.1 B.1 32 (fun _ => 0), jA u.2.2.1 B.1 32 (fun _ => 0), jA u.2.2.2.1 B.1 256 (fun _ => 0), jA u.2.2.2.2 B.1 0 (fun _ => 0), jO md 2 [.null, .null, .null, .int 0, .null, .int 0, .int 0, .null, .null, .null, .int 0, .int 0]]) (wc := [jO md 2 [.null, .null, .null, .int 0, .null, .int 0, .int 0, .null, .null, .null, .int 0, .int 0]]) [5] rfl (by decide) (fun _ => rfl) hP hD hS hA (va_runI (b := md) (As := []) (rest := [.ref md]) ⟨hx, hb, hml, hown, hts⟩ (metX2_init l D B H.size md) (cwI 0 hts (lw_meth q306) rfl rfl rfl (hts _ q11) (hts _ q304) (hts _ q305) rfl (by decide +kernel) ⟨Nat.le_of_ble_eq_true rfl, Nat.le_of_ble_eq_true rfl⟩) (jPreS hK (hP.sub (ws' := [jO md 2 [.null, .null, .null, .int 0, .null, .int 0, .int 0, .null, .null, .null, .int 0, .int 0]]) [5] rfl) (hD.sub (ws' := [jO md 2 [.null, .null, .null, .int 0, .null, .int 0, .int 0, .null, .null, .null, .int 0, .int 0]]) [5] (by decide) rfl)) rfl rfl hl.1 rfl (lv_room (Nat.le_of_ble_eq_true rfl)) dL_law_12 ⟨Nat.le_of_ble_eq_true rfl, Nat.le_of_ble_eq_true rfl⟩) (fun t H locs hu hP hD hS => ?_)
  have hP : va_P D vwCl [jO dk 0 [.ref u.1, .int 0, .int 0, .ref u.2.1, .ref u.2.2.1, .ref u.2.2.2.1, .int 0, .ref u.2.2.2.2], jA u.2.1 B.1 32 (fun _ => 0), jA u.2.2.1 B.1 32 (fun _ => 0), jA u.2.2.2.1 B.1 256 (fun _ => 0), jA u.2.2.2.2 B.1 0 (fun _ => 0), jO md 2 [.ref t.1, .ref t.2.1, .ref t.2.2.1, .int 0, .ref t.2.2.2.1, .int 0, .int 0, .ref t.2.2.2.2.1, .ref t.2.2.2.2.2.1, .ref t.2.2.2.2.2.2, .int 0, .int 0], jA t.1 B.1 32 (fun _ => 0), jA t.2.1 B.1 32 (fun _ => 0), jA t.2.2.1 B.1 256 (fun _ => 0), jA t.2.2.2.1 B.1 0 (fun _ => 0), jA t.2.2.2.2.1 B.1 16 (fun _ => 0), jA t.2.2.2.2.2.1 B.1 16 (fun _ => 0), jA t.2.2.2.2.2.2 B.2 256 (fun _ => 0)] H := hP
  have hD : va_D A [jO dk 0 [.ref u.1, .int 0, .int 0, .ref u.2.1, .ref u.2.2.1, .ref u.2.2.2.1, .int 0, .ref u.2.2.2.2], jA u.2.1 B.1 32 (fun _ => 0), jA u.2.2.1 B.1 32 (fun _ => 0), jA u.2.2.2.1 B.1 256 (fun _ => 0), jA u.2.2.2.2 B.1 0 (fun _ => 0), jO md 2 [.ref t.1, .ref t.2.1, .ref t.2.2.1, .int 0, .ref t.2.2.2.1, .int 0, .int 0, .ref t.2.2.2.2.1, .ref t.2.2.2.2.2.1, .ref t.2.2.2.2.2.2, .int 0, .int 0], jA t.1 B.1 32 (fun _ => 0), jA t.2.1 B.1 32 (fun _ => 0), jA t.2.2.1 B.1 256 (fun _ => 0), jA t.2.2.2.1 B.1 0 (fun _ => 0), jA t.2.2.2.2.1 B.1 16 (fun _ => 0), jA t.2.2.2.2.2.1 B.1 16 (fun _ => 0), jA t.2.2.2.2.2.2 B.2 256 (fun _ => 0)] := hD
  refine lv_astore_n (lv' := [(2, .ref md), (1, .ref dk), (0, .ref b)]) hx hb dL_law_15 rfl hl (by decide) rfl (fun ls hl => ?_)
  refine lv_iconst (v := nI 0) hx hb dL_law_16 (by decide) ?_
  refine lv_istore_n (lv' := [(3, .int (nI 0)), (2, .ref md), (1, .ref dk), (0, .ref b)]) hx hb dL_law_17 rfl hl (by decide) rfl (fun ls hl => ?_)
  refine W.widen (k := 16 + 10 * 0) (n := 1000 + 600 * 0) (Nat.le_of_ble_eq_true rfl) (Nat.le_of_ble_eq_true rfl) ?_
  exact law_loop hx hb hml hown hts hK hA hX hbl hbA hL hr hlocks hAs (L + 1) 0 (by omega) (by omega) _ H _ ls ⟨.ref u.1, 0, 0, 0, 0, u.2.1, u.2.2.1, u.2.2.2.1, u.2.2.2.2, t.1, t.2.1, t.2.2.1, t.2.2.2.1, t.2.2.2.2.1, t.2.2.2.2.2.1, t.2.2.2.2.2.2, (fun _ => 0), (fun _ => 0), (fun _ => 0), (fun _ => 0), (fun _ => 0), (fun _ => 0), (fun _ => 0), .int 0, .int 0, [], rfl, Nat.zero_le _, Nat.zero_le _, Nat.zero_le _, Or.inl ⟨rfl, rfl⟩⟩ hP hD hS (lv_sub hl [3, 2, 1, 0] rfl)
end
section
set_option maxHeartbeats 4000000 in
theorem lw_walk (l : Launch) (hflags : l.flags = flags0) (b : Addr) (xs : List Int32) : MetFree l x (headSpec (Jvm.Cond.code x code maxLocals ret :: tables_1) room_1) (lw_P b xs) (fun _ _ _ _ _ => True) lw_Q := by
  refine MetFree.of_bodyS (code := code) (maxLocals := maxLocals) (ret := ret) (by decide) ?_ ?_
  · intro args s m h hn
    obtain ⟨meth, c, h1, h2, h3, h4, h5, h6, -, -⟩ := Cond.code_spec hn (atoms_spec (ws := Jvm.Cond.code x code maxLocals ret :: tables_1) h _ List.mem_cons_self)
    exact ⟨meth, c, h1, h2, h3, h4, h5, h6⟩
  · intro p e s m args below meth c s₁ B hml0 hP _
    obtain ⟨rfl, hx, hbd, hgv⟩ := hP
    obtain ⟨scr, harrAt, hlist, hof, hsmall⟩ := hx
    obtain ⟨hcb, hkn, -, -⟩ := State.arrayAt?_spec harrAt
    have hown : s.vm.findClass R_law = some m.cls := findClass_of_methodNamed B.named
    have hts0 : ∀ c ∈ (Jvm.Cond.code x code maxLocals ret :: tables_1), c.before #[Value.ref b] s = true := atoms_spec (ws := Jvm.Cond.code x code maxLocals ret :: tables_1) B.pre
    have hts : ∀ w ∈ lw_tbl, w.before #[Value.ref b] s = true := k2_hts_sels lw_privs (fun w hw => hts0 w (List.mem_cons_of_mem _ hw)) lw_privs_ok
    have hml : c.maxLocals = 4 := B.maxLocals_eq (hts0 _ List.mem_cons_self)
    have X₀ : Stand p l e room_1 s m #[Value.ref b] below meth c s₁ [] 0 0 := Stand.of_body B
    have hh0 : s₁.heap = s.heap := by rw [B.state]; rfl
    have hsz : scr.slots.size = xs.length := by rw [← Array.length_toList, hlist, List.length_map]
    have hval : ∀ j : Nat, j < xs.length → scr.slots[j]? = some (.int (xs.getD j 0)) := fun j hj => by
      rw [← Array.getElem?_toList, hlist]
      simp [hj]
    have hbl : b < s.heap.size := (Array.getElem?_eq_some_iff.mp hcb).1
    have hX : va_X b xs.length (fun j => xs.getD j 0) s s.heap := ⟨scr, hcb, hof, hkn, hsz, hval⟩
    have K : W p l e room_1 s m #[Value.ref b] below meth c s₁.heap [] 0 0 (lw_Z below #[Value.ref b] s) (entryFrame m ([Value.ref b] : List Value).toArray 4) := by
      rw [hh0]
      exact whole_start l hflags hbd ⟨B.exec, B.bytes, B.returns, hml, hown, hts, hX, hbl, B.notSynchronized, hgv⟩
    obtain ⟨t, a1, o, b1, b2, b3⟩ := K s₁ rfl X₀
    exact ⟨t, o, a1, b1, b2, b3⟩
theorem lw_pre_spec {args : Array Value} {s : State} (h : (Jvm.Cond.and given_1 narrow_1).before args s = true) (hr : rest_1_c.before args s = true) : ∃ (b : Addr) (xs : List Int32), lw_P b xs args s := by
  have hs := flat_of_before _ h
  have hq := flat_of_before _ hr
  have hc : (Cond.count 1).before args s = true := hs _ (by decide +kernel)
  have harr : (Cond.arrayOf (.arg 0) .int).before args s = true := hs _ (by decide +kernel)
  have hle : (Cond.le (.length (.arg 0)) (.int 384)).before args s = true := hs _ (by decide +kernel)
  have hlen : (Cond.isInt (.length (.arg 0))).before args s = true := hq _ (by decide +kernel)
  have hall : (Cond.all (.arg 0) (.isInt (.elem (.arg 0) (.index 0)))).before args s = true := hq _ (by decide +kernel)
  obtain ⟨b, xs, hb, hx⟩ := State.ints_of_pre rfl harr hlen hall
  have hsm : xs.length < 2 ^ 31 := hx.choose_spec.2.2.2
  have hev : (Term.length (.arg 0)).eval args s none [] s = some (.int xs.length.toInt32) := hx.length_eval hb
  have hv := Cond.le_ints hev (show (Term.int 384).eval args s none [] s = some (.int 384) from rfl)
  have hd : xs.length.toInt32 ≤ 384 := by
    simpa [Cond.before, Cond.holds, hv] using hle
  have hN : xs.length ≤ 384 := (Int32.ofNat_le_ofNat hsm (by decide)).mp (show Int32.ofNat xs.length ≤ Int32.ofNat 384 from hd)
  exact ⟨b, xs, Cond.one_arg hc (show args[0]? = some (.ref b) from hb), hx, hN, h⟩
theorem lw_comes (l : Launch) (hflags : l.flags = flags0) : Comes l x (Jvm.Cond.code x code maxLocals ret :: tables_1) room_1 (fun tb e args s => Calls_1 tb e args s ∧ rest_1 tb e args s ∧ Pre_1 tb e args s)
    (fun _ _ args s o t => lw_Q args s o t) := by
  intro p e ha hc hk s m args below hf hfit hheap happ hpre
  obtain ⟨b, xs, hP⟩ := lw_pre_spec hpre.2.2 hpre.2.1
  obtain ⟨k, o, h1, h2, h3, hQ⟩ := lw_walk l hflags b xs p e ha hc hk s m args below hf ((Spec.applies_iff_loose hf).mp happ).1 hP trivial
  exact ⟨k, o, h1, h2, h3, hQ⟩
theorem lw_frame {s t : State} {o : Outcome} {args : Array Value} (h : Framed s o t [] 600128 7301098) :
    Framed s o t (fieldLocs frame_1_writes args s ++ arrayLocs frame_1_arrays args s ++ staticLocs frame_1_statics s) 600128 7301098 := h
theorem lw_limb (L : Cond) (hL : ∀ (args : Array Value) (s t : State), L.after args s (.returned (some (.int 1))) t = true) :
    ArmFor flags0 classFile x code maxLocals ret World_1 tables_1 room_1 Calls_1 rest_1 Pre_1
      (fun tb e a s o t => postC L tb e a s o t ∧ Framed s o t (fieldLocs frame_1_writes a s ++ arrayLocs frame_1_arrays a s ++ staticLocs frame_1_statics s) 600128 7301098) := by
  intro l hflags _ _ p e ha hc hk s m args below hf hfit hheap happ hpre
  obtain ⟨k, o, h1, h2, h3, rfl, hF⟩ := lw_comes l hflags p e ha hc hk s m args below hf hfit hheap happ hpre
  exact ⟨k, _, h1, h2, h3, hL args s _, lw_frame hF⟩
theorem i_vc : Claimed_1_1 ∧ Claimed_1_2 := ⟨lw_limb limb_1_1 (fun args s t => by simp [limb_1_1, Cond.after, Cond.holds, Cond.value]), lw_limb limb_1_2 (fun args s t => Cond.after_iff.mpr (by
  first | (rw [show limb_1_2 = Cond.eq .result (.int 1) from rfl, Cond.eq_ints (x := 1) (y := 1) rfl rfl]; simp; done) | (simp [limb_1_2, Cond.value, Term.eval]; done)))⟩
end
