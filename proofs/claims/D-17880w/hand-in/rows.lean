section
-- ===== PART A: goes FIRST, ahead of the names: the tables' words, and 'selects' of the private methods out of them =====
/-- a private method of a class that the tables say can be made, by its rows of tables_1 -/
def lw_okq (q : MethodName × Nat) : Prop := (q.1.cls ≠ "java/lang/invoke/MethodHandle" ∧ q.1.cls ≠ "java/lang/invoke/VarHandle") ∧ Cond.instantiable q.1.cls q.2 ∈ tables_1 ∧ Cond.privateMethod q.1 ∈ tables_1 ∧ Cond.instanceMethod q.1 ∈ tables_1
set_option maxRecDepth 100000
theorem lw_p0 : lw_okq (⟨"UtfDeskLaw", "turns", "(IIII)Z"⟩, 5) := ⟨⟨by decide +kernel, by decide +kernel⟩, List.mem_of_getElem? (i := 9) rfl, List.mem_of_getElem? (i := 58) rfl, List.mem_of_getElem? (i := 59) rfl⟩
theorem lw_p1 : lw_okq (⟨"UtfDeskLaw", "turned", "(III)I"⟩, 5) := ⟨⟨by decide +kernel, by decide +kernel⟩, List.mem_of_getElem? (i := 9) rfl, List.mem_of_getElem? (i := 66) rfl, List.mem_of_getElem? (i := 67) rfl⟩
theorem lw_p2 : lw_okq (⟨"UtfDeskLaw", "number", "(II)I"⟩, 5) := ⟨⟨by decide +kernel, by decide +kernel⟩, List.mem_of_getElem? (i := 9) rfl, List.mem_of_getElem? (i := 70) rfl, List.mem_of_getElem? (i := 71) rfl⟩
theorem lw_p3 : lw_okq (⟨"UtfDesk", "part", "(II)[B"⟩, 4) := ⟨⟨by decide +kernel, by decide +kernel⟩, List.mem_of_getElem? (i := 17) rfl, List.mem_of_getElem? (i := 90) rfl, List.mem_of_getElem? (i := 91) rfl⟩
theorem lw_p4 : lw_okq (⟨"UtfDesk", "from", "(I)I"⟩, 4) := ⟨⟨by decide +kernel, by decide +kernel⟩, List.mem_of_getElem? (i := 17) rfl, List.mem_of_getElem? (i := 94) rfl, List.mem_of_getElem? (i := 95) rfl⟩
theorem lw_p5 : lw_okq (⟨"UtfDesk", "count", "(II)I"⟩, 4) := ⟨⟨by decide +kernel, by decide +kernel⟩, List.mem_of_getElem? (i := 17) rfl, List.mem_of_getElem? (i := 98) rfl, List.mem_of_getElem? (i := 99) rfl⟩
theorem lw_p6 : lw_okq (⟨"UtfDeskLaw", "isUnit", "(I)Z"⟩, 5) := ⟨⟨by decide +kernel, by decide +kernel⟩, List.mem_of_getElem? (i := 9) rfl, List.mem_of_getElem? (i := 115) rfl, List.mem_of_getElem? (i := 116) rfl⟩
theorem lw_p7 : lw_okq (⟨"UtfDeskLaw", "step", "(IIIIII)Z"⟩, 5) := ⟨⟨by decide +kernel, by decide +kernel⟩, List.mem_of_getElem? (i := 9) rfl, List.mem_of_getElem? (i := 119) rfl, List.mem_of_getElem? (i := 120) rfl⟩
theorem lw_p8 : lw_okq (⟨"UtfDeskLaw", "put", "(IIII)Z"⟩, 5) := ⟨⟨by decide +kernel, by decide +kernel⟩, List.mem_of_getElem? (i := 9) rfl, List.mem_of_getElem? (i := 123) rfl, List.mem_of_getElem? (i := 124) rfl⟩
theorem lw_p9 : lw_okq (⟨"UtfDeskLaw", "letter", "(III)Z"⟩, 5) := ⟨⟨by decide +kernel, by decide +kernel⟩, List.mem_of_getElem? (i := 9) rfl, List.mem_of_getElem? (i := 135) rfl, List.mem_of_getElem? (i := 136) rfl⟩
theorem lw_p10 : lw_okq (⟨"UtfDeskLaw", "set", "(II)Z"⟩, 5) := ⟨⟨by decide +kernel, by decide +kernel⟩, List.mem_of_getElem? (i := 9) rfl, List.mem_of_getElem? (i := 146) rfl, List.mem_of_getElem? (i := 147) rfl⟩
def lw_privs_1 : List (MethodName × Nat) := [(⟨"UtfDeskLaw", "turns", "(IIII)Z"⟩, 5), (⟨"UtfDeskLaw", "turned", "(III)I"⟩, 5), (⟨"UtfDeskLaw", "number", "(II)I"⟩, 5), (⟨"UtfDesk", "part", "(II)[B"⟩, 4), (⟨"UtfDesk", "from", "(I)I"⟩, 4), (⟨"UtfDesk", "count", "(II)I"⟩, 4), (⟨"UtfDeskLaw", "isUnit", "(I)Z"⟩, 5), (⟨"UtfDeskLaw", "step", "(IIIIII)Z"⟩, 5), (⟨"UtfDeskLaw", "put", "(IIII)Z"⟩, 5), (⟨"UtfDeskLaw", "letter", "(III)Z"⟩, 5), (⟨"UtfDeskLaw", "set", "(II)Z"⟩, 5)]
theorem lw_r1 : ∀ q ∈ lw_privs_1, lw_okq q := List.forall_mem_cons.mpr ⟨lw_p0, List.forall_mem_cons.mpr ⟨lw_p1, List.forall_mem_cons.mpr ⟨lw_p2, List.forall_mem_cons.mpr ⟨lw_p3, List.forall_mem_cons.mpr ⟨lw_p4, List.forall_mem_cons.mpr ⟨lw_p5, List.forall_mem_cons.mpr ⟨lw_p6, List.forall_mem_cons.mpr ⟨lw_p7, List.forall_mem_cons.mpr ⟨lw_p8, List.forall_mem_cons.mpr ⟨lw_p9, List.forall_mem_cons.mpr ⟨lw_p10, fun _ h => absurd h List.not_mem_nil⟩⟩⟩⟩⟩⟩⟩⟩⟩⟩⟩
def lw_privs : List (MethodName × Nat) := lw_privs_1
def lw_tbl : List Cond := k2_sels lw_privs ++ tables_1
theorem lw_privs_ok : ∀ q ∈ lw_privs, lw_okq q := lw_r1
-- ===== ONE list of words for every method: the tables' words that hold all through a run =====
def lw_all : List Cond := lw_tbl.filter goodWord
/-- a word of the tables by its place: claim/WORDS.tsv -/
theorem lw_w {w : Cond} (i : Nat) (h : lw_tbl[i]? = some w) (g : goodWord w = true) : w ∈ lw_all := List.mem_filter.mpr ⟨List.mem_of_getElem? h, g⟩
theorem lw_all_tbl {w : Cond} (h : w ∈ lw_all) : w ∈ lw_tbl := (List.mem_filter.mp h).1
theorem lw_self : GoodIn lw_all lw_all := fun w h => ⟨h, good_of_word (List.mem_filter.mp h).2⟩
/-- a class's field words, by their places -/
theorem lw_in (ws : List Cond) (ps : List Nat) (hp : ws = ps.filterMap (fun i => lw_tbl[i]?)) (hg : ws.all goodWord = true) : ∀ w ∈ ws, w ∈ lw_all := by
  intro w h
  have h1 := List.all_eq_true.mp hg w h
  rw [hp] at h
  obtain ⟨i, -, hi⟩ := List.mem_filterMap.mp h
  exact lw_w i hi h1
/-- the words of a contract for the method y with code b, L locals, answer r -/
abbrev ws_ (y : MethodName) (b : ByteArray) (L : Nat) (r : Option FieldType) : List Cond := Cond.code y b L r :: lw_all
theorem lw_meth {y : MethodName} {b : ByteArray} {L : Nat} {r : Option FieldType} (h : Cond.code y b L r ∈ lw_all) : GoodIn lw_all (ws_ y b L r) := by
  intro w hw
  rcases List.mem_cons.mp hw with e | e
  · rw [e]
    exact lw_self _ h
  · exact lw_self _ e
theorem lw_app {a c : List Cond} (ha : ∀ w ∈ a, w ∈ lw_all) (hc : GoodIn lw_all c) : GoodIn lw_all (a ++ c) := by
  intro w hw
  rcases List.mem_append.mp hw with e | e
  · exact lw_self w (ha w e)
  · exact hc w e
/-- what a call through an object asks: cwV n hts (lw_V ..) -/
theorem lw_V {own : String} {idx : Nat} {C : String} {y : MethodName} {b : ByteArray} {L : Nat} {r : Option FieldType} (h1 : Cond.methodLink own idx y ∈ lw_all) (h2 : Cond.instanceMethod y ∈ lw_all) (h3 : Cond.selects C y y ∈ lw_all) (h4 : Cond.initialized C ∈ lw_all) (h5 : Cond.code y b L r ∈ lw_all) : GoodIn lw_all (wsV own idx C y (ws_ y b L r)) := by
  refine lw_app ?_ (lw_meth h5)
  intro w hw
  simp only [List.mem_cons, List.not_mem_nil, or_false] at hw
  rcases hw with e | e | e | e
  · rw [e]; exact h1
  · rw [e]; exact h2
  · rw [e]; exact h3
  · rw [e]; exact h4
/-- what a static call asks: va_cwS n hts (lw_S ..) -/
theorem lw_S {own : String} {idx : Nat} {y : MethodName} {b : ByteArray} {L : Nat} {r : Option FieldType} (h1 : Cond.methodLink own idx y ∈ lw_all) (h2 : Cond.static y ∈ lw_all) (h3 : Cond.initialized y.cls ∈ lw_all) (h4 : Cond.code y b L r ∈ lw_all) : GoodIn lw_all (va_wsS own idx y (ws_ y b L r)) := by
  refine lw_app ?_ (lw_meth h4)
  intro w hw
  simp only [List.mem_cons, List.not_mem_nil, or_false] at hw
  rcases hw with e | e | e
  · rw [e]; exact h1
  · rw [e]; exact h2
  · rw [e]; exact h3
/-- the words of a contract for a method WITH HANDLERS (hh: its table) -/
abbrev wsW_ (y : MethodName) (b : ByteArray) (L : Nat) (r : Option FieldType) (hh : List (Nat × Nat × Nat × Nat)) : List Cond := Cond.codeWith y b L r hh :: lw_all
theorem lw_methW {y : MethodName} {b : ByteArray} {L : Nat} {r : Option FieldType} {hh : List (Nat × Nat × Nat × Nat)} (h : Cond.codeWith y b L r hh ∈ lw_all) : GoodIn lw_all (wsW_ y b L r hh) := by
  intro w hw
  rcases List.mem_cons.mp hw with e | e
  · rw [e]
    exact lw_self _ h
  · exact lw_self _ e
/-- any list of words by their places (lw_in), good -/
theorem lw_good {ws : List Cond} (h : ∀ w ∈ ws, w ∈ lw_all) : GoodIn lw_all ws := fun w hw => lw_self w (h w hw)
/-- what a call of a method with handlers asks: vx_cwVW n hts (lw_VW ..), vx_cwSW n hts (lw_SW ..) -/
theorem lw_VW {own : String} {idx : Nat} {C : String} {y : MethodName} {b : ByteArray} {L : Nat} {r : Option FieldType} {hh : List (Nat × Nat × Nat × Nat)} (h1 : Cond.methodLink own idx y ∈ lw_all) (h2 : Cond.instanceMethod y ∈ lw_all) (h3 : Cond.selects C y y ∈ lw_all) (h4 : Cond.initialized C ∈ lw_all) (h5 : Cond.codeWith y b L r hh ∈ lw_all) : GoodIn lw_all (wsV own idx C y (wsW_ y b L r hh)) := by
  refine lw_app ?_ (lw_methW h5)
  intro w hw
  simp only [List.mem_cons, List.not_mem_nil, or_false] at hw
  rcases hw with e | e | e | e
  · rw [e]; exact h1
  · rw [e]; exact h2
  · rw [e]; exact h3
  · rw [e]; exact h4
theorem lw_SW {own : String} {idx : Nat} {y : MethodName} {b : ByteArray} {L : Nat} {r : Option FieldType} {hh : List (Nat × Nat × Nat × Nat)} (h1 : Cond.methodLink own idx y ∈ lw_all) (h2 : Cond.static y ∈ lw_all) (h3 : Cond.initialized y.cls ∈ lw_all) (h4 : Cond.codeWith y b L r hh ∈ lw_all) : GoodIn lw_all (va_wsS own idx y (wsW_ y b L r hh)) := by
  refine lw_app ?_ (lw_methW h4)
  intro w hw
  simp only [List.mem_cons, List.not_mem_nil, or_false] at hw
  rcases hw with e | e | e
  · rw [e]; exact h1
  · rw [e]; exact h2
  · rw [e]; exact h3
/-- a word by its place in its run of the tables -/
theorem lw_at {r : List Cond} (hr : ∀ w ∈ r, w ∈ lw_tbl) {w : Cond} (i : Nat) (h : r[i]? = some w) : w ∈ lw_tbl := hr w (List.mem_of_getElem? h)
theorem lw_g {w : Cond} (h : w ∈ lw_tbl) (g : goodWord w = true) : w ∈ lw_all := List.mem_filter.mpr ⟨h, g⟩
theorem lw_ms : ∀ w ∈ k2_sels lw_privs, w ∈ lw_tbl := fun w h => show w ∈ k2_sels lw_privs ++ tables_1 from List.mem_append_left _ h
theorem lw_m0 : ∀ w ∈ tables_1, w ∈ lw_tbl := fun w h => show w ∈ k2_sels lw_privs ++ tables_1 from List.mem_append_right (k2_sels lw_privs) h
theorem qs0 : (Cond.selects "UtfDeskLaw" ⟨"UtfDeskLaw", "turns", "(IIII)Z"⟩ ⟨"UtfDeskLaw", "turns", "(IIII)Z"⟩) ∈ lw_all := lw_g (lw_at lw_ms 0 rfl) rfl
theorem qs1 : (Cond.selects "UtfDeskLaw" ⟨"UtfDeskLaw", "turned", "(III)I"⟩ ⟨"UtfDeskLaw", "turned", "(III)I"⟩) ∈ lw_all := lw_g (lw_at lw_ms 1 rfl) rfl
theorem qs2 : (Cond.selects "UtfDeskLaw" ⟨"UtfDeskLaw", "number", "(II)I"⟩ ⟨"UtfDeskLaw", "number", "(II)I"⟩) ∈ lw_all := lw_g (lw_at lw_ms 2 rfl) rfl
theorem qs3 : (Cond.selects "UtfDesk" ⟨"UtfDesk", "part", "(II)[B"⟩ ⟨"UtfDesk", "part", "(II)[B"⟩) ∈ lw_all := lw_g (lw_at lw_ms 3 rfl) rfl
theorem qs4 : (Cond.selects "UtfDesk" ⟨"UtfDesk", "from", "(I)I"⟩ ⟨"UtfDesk", "from", "(I)I"⟩) ∈ lw_all := lw_g (lw_at lw_ms 4 rfl) rfl
theorem qs5 : (Cond.selects "UtfDesk" ⟨"UtfDesk", "count", "(II)I"⟩ ⟨"UtfDesk", "count", "(II)I"⟩) ∈ lw_all := lw_g (lw_at lw_ms 5 rfl) rfl
theorem qs6 : (Cond.selects "UtfDeskLaw" ⟨"UtfDeskLaw", "isUnit", "(I)Z"⟩ ⟨"UtfDeskLaw", "isUnit", "(I)Z"⟩) ∈ lw_all := lw_g (lw_at lw_ms 6 rfl) rfl
theorem qs7 : (Cond.selects "UtfDeskLaw" ⟨"UtfDeskLaw", "step", "(IIIIII)Z"⟩ ⟨"UtfDeskLaw", "step", "(IIIIII)Z"⟩) ∈ lw_all := lw_g (lw_at lw_ms 7 rfl) rfl
theorem qs8 : (Cond.selects "UtfDeskLaw" ⟨"UtfDeskLaw", "put", "(IIII)Z"⟩ ⟨"UtfDeskLaw", "put", "(IIII)Z"⟩) ∈ lw_all := lw_g (lw_at lw_ms 8 rfl) rfl
theorem qs9 : (Cond.selects "UtfDeskLaw" ⟨"UtfDeskLaw", "letter", "(III)Z"⟩ ⟨"UtfDeskLaw", "letter", "(III)Z"⟩) ∈ lw_all := lw_g (lw_at lw_ms 9 rfl) rfl
theorem qs10 : (Cond.selects "UtfDeskLaw" ⟨"UtfDeskLaw", "set", "(II)Z"⟩ ⟨"UtfDeskLaw", "set", "(II)Z"⟩) ∈ lw_all := lw_g (lw_at lw_ms 10 rfl) rfl
-- ===== end of PART A; then your names; then what follows =====
/-! DECODE ROWS BY BYTES: one lemma an opcode; a method's code is cut into short pieces once, and a row reads its own piece alone. -/
set_option maxRecDepth 100000
/-- the code has just these bytes from pc on -/
def DkAt (code : ByteArray) (pc : Nat) (bs : List UInt8) : Prop := ∀ (j : Nat) (b : UInt8), bs[j]? = some b → code.data.toList[pc + j]? = some b
/-- the piece W has the bytes bs from its place j on -/
def dkIn (W : List UInt8) (j : Nat) (bs : List UInt8) : Bool := decide ((W.drop j).take bs.length = bs)
theorem dk_seg {l W T : List UInt8} {o o2 : Nat} (h : l.drop o = W ++ T) (n : Nat) (hn : W.length = n) (ho : o + n = o2) : l.drop o2 = T := by
  subst ho
  rw [← List.drop_drop, h, List.drop_left' hn]
theorem dk_at {code : ByteArray} {W T bs : List UInt8} {o pc : Nat} (h : code.data.toList.drop o = W ++ T) (j : Nat) (hp : o + j = pc) (hw : dkIn W j bs = true) : DkAt code pc bs := by
  subst hp
  intro i b e
  have h1 := of_decide_eq_true hw
  have h2 : i < bs.length := (List.getElem?_eq_some_iff.mp e).1
  have h3 : W[j + i]? = some b := by
    rw [← h1, List.getElem?_take, if_pos h2, List.getElem?_drop] at e
    exact e
  have h4 : j + i < W.length := (List.getElem?_eq_some_iff.mp h3).1
  have h5 : (code.data.toList.drop o)[j + i]? = some b := by
    rw [h, List.getElem?_append_left h4]
    exact h3
  rw [List.getElem?_drop, ← Nat.add_assoc] at h5
  exact h5
theorem dk_u1 {A : ByteArray} {p : Nat} {b : UInt8} (h : A.data.toList[p]? = some b) : (Reader.u1 : Reader DecodeError Nat) A p = .ok (b.toNat, p + 1) := by
  obtain ⟨h1, h2⟩ := List.getElem?_eq_some_iff.mp h
  have h3 : p < A.size := by simpa using h1
  have h4 : A[p]'h3 = b := h2
  have e : (Reader.u1 : Reader DecodeError Nat) A p = (if h : p < A.size then .ok (A[p].toNat, p + 1) else .error (HasTruncated.truncated p)) := by
    show (do if h : p < A.size then do set (p + 1); Pure.pure A[p].toNat else MonadExcept.throw (HasTruncated.truncated p) : Reader DecodeError Nat) A p = _
    by_cases hi : p < A.size
    · rw [dif_pos hi, dif_pos hi]; rfl
    · rw [dif_neg hi, dif_neg hi]; rfl
  rw [e, dif_pos h3, h4]
theorem dk_bind {α β : Type} {r : Reader DecodeError α} {f : α → Reader DecodeError β} {A : ByteArray} {p s : Nat} {a : α} (h : r A p = .ok (a, s)) : (r >>= f) A p = f a A s := by
  show (do let (a, s) ← r A p; f a A s : Except DecodeError (β × Nat)) = _
  rw [h]
  rfl
theorem dk_map {α β : Type} {r : Reader DecodeError α} {g : α → β} {A : ByteArray} {p s : Nat} {a : α} (h : r A p = .ok (a, s)) : (g <$> r) A p = .ok (g a, s) := by
  show (do let (a, s) ← r A p; .ok (g a, s) : Except DecodeError (β × Nat)) = _
  rw [h]
  rfl
theorem dk_u2 {A : ByteArray} {p : Nat} {a b : UInt8} (h : A.data.toList[p]? = some a) (h2 : A.data.toList[p + 1]? = some b) : (Reader.u2 : Reader DecodeError Nat) A p = .ok (a.toNat * 256 + b.toNat, p + 2) := by
  show (Reader.u1 >>= fun hi => Reader.u1 >>= fun lo => Pure.pure (hi * 256 + lo) : Reader DecodeError Nat) A p = _
  rw [dk_bind (dk_u1 h), dk_bind (dk_u1 h2)]
  rfl
theorem dk_of {code : ByteArray} {pc n : Nat} {i : Instr} (h : Decoder.instr pc code pc = .ok (i, pc + n)) : decode code pc = .ok (i, n) := by
  have e : decode code pc = (match Decoder.instr pc code pc with | .error x => .error x | .ok (j, s) => .ok (j, s - pc)) := by
    show (do let (j, s) ← Decoder.instr pc code pc; Pure.pure (j, s - pc) : Except DecodeError (Instr × Nat)) = _
    cases Decoder.instr pc code pc <;> rfl
  rw [e, h]
  show Except.ok (i, pc + n - pc) = _
  rw [Nat.add_sub_cancel_left]
theorem dk_2 {code : ByteArray} {pc : Nat} (h : DkAt code pc [2]) : decode code pc = .ok (.iconst (-1), 1) := dk_of ((dk_bind (dk_u1 (h 0 _ rfl))).trans rfl)
theorem dk_3 {code : ByteArray} {pc : Nat} (h : DkAt code pc [3]) : decode code pc = .ok (.iconst 0, 1) := dk_of ((dk_bind (dk_u1 (h 0 _ rfl))).trans rfl)
theorem dk_4 {code : ByteArray} {pc : Nat} (h : DkAt code pc [4]) : decode code pc = .ok (.iconst 1, 1) := dk_of ((dk_bind (dk_u1 (h 0 _ rfl))).trans rfl)
theorem dk_5 {code : ByteArray} {pc : Nat} (h : DkAt code pc [5]) : decode code pc = .ok (.iconst 2, 1) := dk_of ((dk_bind (dk_u1 (h 0 _ rfl))).trans rfl)
theorem dk_6 {code : ByteArray} {pc : Nat} (h : DkAt code pc [6]) : decode code pc = .ok (.iconst 3, 1) := dk_of ((dk_bind (dk_u1 (h 0 _ rfl))).trans rfl)
theorem dk_7 {code : ByteArray} {pc : Nat} (h : DkAt code pc [7]) : decode code pc = .ok (.iconst 4, 1) := dk_of ((dk_bind (dk_u1 (h 0 _ rfl))).trans rfl)
theorem dk_8 {code : ByteArray} {pc : Nat} (h : DkAt code pc [8]) : decode code pc = .ok (.iconst 5, 1) := dk_of ((dk_bind (dk_u1 (h 0 _ rfl))).trans rfl)
theorem dk_16 {code : ByteArray} {pc : Nat} (a : UInt8) (h : DkAt code pc [16, a]) : decode code pc = .ok (.bipush (Reader.signed 8 a.toNat), 2) := dk_of ((dk_bind (dk_u1 (h 0 _ rfl))).trans ((dk_bind (dk_map (dk_u1 (h 1 _ rfl)))).trans rfl))
theorem dk_17 {code : ByteArray} {pc : Nat} (a b : UInt8) (h : DkAt code pc [17, a, b]) : decode code pc = .ok (.sipush (Reader.signed 16 (a.toNat * 256 + b.toNat)), 3) := dk_of ((dk_bind (dk_u1 (h 0 _ rfl))).trans ((dk_bind (dk_map (dk_u2 (h 1 _ rfl) (h 2 _ rfl)))).trans rfl))
theorem dk_18 {code : ByteArray} {pc : Nat} (a : UInt8) (h : DkAt code pc [18, a]) : decode code pc = .ok (.ldc a.toNat, 2) := dk_of ((dk_bind (dk_u1 (h 0 _ rfl))).trans ((dk_bind (dk_u1 (h 1 _ rfl))).trans rfl))
theorem dk_21 {code : ByteArray} {pc : Nat} (a : UInt8) (h : DkAt code pc [21, a]) : decode code pc = .ok (.iload a.toNat, 2) := dk_of ((dk_bind (dk_u1 (h 0 _ rfl))).trans ((dk_bind (dk_u1 (h 1 _ rfl))).trans rfl))
theorem dk_25 {code : ByteArray} {pc : Nat} (a : UInt8) (h : DkAt code pc [25, a]) : decode code pc = .ok (.aload a.toNat, 2) := dk_of ((dk_bind (dk_u1 (h 0 _ rfl))).trans ((dk_bind (dk_u1 (h 1 _ rfl))).trans rfl))
theorem dk_26 {code : ByteArray} {pc : Nat} (h : DkAt code pc [26]) : decode code pc = .ok (.iload_n 0, 1) := dk_of ((dk_bind (dk_u1 (h 0 _ rfl))).trans rfl)
theorem dk_27 {code : ByteArray} {pc : Nat} (h : DkAt code pc [27]) : decode code pc = .ok (.iload_n 1, 1) := dk_of ((dk_bind (dk_u1 (h 0 _ rfl))).trans rfl)
theorem dk_28 {code : ByteArray} {pc : Nat} (h : DkAt code pc [28]) : decode code pc = .ok (.iload_n 2, 1) := dk_of ((dk_bind (dk_u1 (h 0 _ rfl))).trans rfl)
theorem dk_29 {code : ByteArray} {pc : Nat} (h : DkAt code pc [29]) : decode code pc = .ok (.iload_n 3, 1) := dk_of ((dk_bind (dk_u1 (h 0 _ rfl))).trans rfl)
theorem dk_42 {code : ByteArray} {pc : Nat} (h : DkAt code pc [42]) : decode code pc = .ok (.aload_n 0, 1) := dk_of ((dk_bind (dk_u1 (h 0 _ rfl))).trans rfl)
theorem dk_43 {code : ByteArray} {pc : Nat} (h : DkAt code pc [43]) : decode code pc = .ok (.aload_n 1, 1) := dk_of ((dk_bind (dk_u1 (h 0 _ rfl))).trans rfl)
theorem dk_45 {code : ByteArray} {pc : Nat} (h : DkAt code pc [45]) : decode code pc = .ok (.aload_n 3, 1) := dk_of ((dk_bind (dk_u1 (h 0 _ rfl))).trans rfl)
theorem dk_46 {code : ByteArray} {pc : Nat} (h : DkAt code pc [46]) : decode code pc = .ok (.iaload, 1) := dk_of ((dk_bind (dk_u1 (h 0 _ rfl))).trans rfl)
theorem dk_51 {code : ByteArray} {pc : Nat} (h : DkAt code pc [51]) : decode code pc = .ok (.baload, 1) := dk_of ((dk_bind (dk_u1 (h 0 _ rfl))).trans rfl)
theorem dk_52 {code : ByteArray} {pc : Nat} (h : DkAt code pc [52]) : decode code pc = .ok (.caload, 1) := dk_of ((dk_bind (dk_u1 (h 0 _ rfl))).trans rfl)
theorem dk_53 {code : ByteArray} {pc : Nat} (h : DkAt code pc [53]) : decode code pc = .ok (.saload, 1) := dk_of ((dk_bind (dk_u1 (h 0 _ rfl))).trans rfl)
theorem dk_54 {code : ByteArray} {pc : Nat} (a : UInt8) (h : DkAt code pc [54, a]) : decode code pc = .ok (.istore a.toNat, 2) := dk_of ((dk_bind (dk_u1 (h 0 _ rfl))).trans ((dk_bind (dk_u1 (h 1 _ rfl))).trans rfl))
theorem dk_58 {code : ByteArray} {pc : Nat} (a : UInt8) (h : DkAt code pc [58, a]) : decode code pc = .ok (.astore a.toNat, 2) := dk_of ((dk_bind (dk_u1 (h 0 _ rfl))).trans ((dk_bind (dk_u1 (h 1 _ rfl))).trans rfl))
theorem dk_61 {code : ByteArray} {pc : Nat} (h : DkAt code pc [61]) : decode code pc = .ok (.istore_n 2, 1) := dk_of ((dk_bind (dk_u1 (h 0 _ rfl))).trans rfl)
theorem dk_62 {code : ByteArray} {pc : Nat} (h : DkAt code pc [62]) : decode code pc = .ok (.istore_n 3, 1) := dk_of ((dk_bind (dk_u1 (h 0 _ rfl))).trans rfl)
theorem dk_76 {code : ByteArray} {pc : Nat} (h : DkAt code pc [76]) : decode code pc = .ok (.astore_n 1, 1) := dk_of ((dk_bind (dk_u1 (h 0 _ rfl))).trans rfl)
theorem dk_79 {code : ByteArray} {pc : Nat} (h : DkAt code pc [79]) : decode code pc = .ok (.iastore, 1) := dk_of ((dk_bind (dk_u1 (h 0 _ rfl))).trans rfl)
theorem dk_84 {code : ByteArray} {pc : Nat} (h : DkAt code pc [84]) : decode code pc = .ok (.bastore, 1) := dk_of ((dk_bind (dk_u1 (h 0 _ rfl))).trans rfl)
theorem dk_85 {code : ByteArray} {pc : Nat} (h : DkAt code pc [85]) : decode code pc = .ok (.castore, 1) := dk_of ((dk_bind (dk_u1 (h 0 _ rfl))).trans rfl)
theorem dk_89 {code : ByteArray} {pc : Nat} (h : DkAt code pc [89]) : decode code pc = .ok (.dup, 1) := dk_of ((dk_bind (dk_u1 (h 0 _ rfl))).trans rfl)
theorem dk_96 {code : ByteArray} {pc : Nat} (h : DkAt code pc [96]) : decode code pc = .ok (.iadd, 1) := dk_of ((dk_bind (dk_u1 (h 0 _ rfl))).trans rfl)
theorem dk_100 {code : ByteArray} {pc : Nat} (h : DkAt code pc [100]) : decode code pc = .ok (.isub, 1) := dk_of ((dk_bind (dk_u1 (h 0 _ rfl))).trans rfl)
theorem dk_104 {code : ByteArray} {pc : Nat} (h : DkAt code pc [104]) : decode code pc = .ok (.imul, 1) := dk_of ((dk_bind (dk_u1 (h 0 _ rfl))).trans rfl)
theorem dk_112 {code : ByteArray} {pc : Nat} (h : DkAt code pc [112]) : decode code pc = .ok (.irem, 1) := dk_of ((dk_bind (dk_u1 (h 0 _ rfl))).trans rfl)
theorem dk_120 {code : ByteArray} {pc : Nat} (h : DkAt code pc [120]) : decode code pc = .ok (.ishl, 1) := dk_of ((dk_bind (dk_u1 (h 0 _ rfl))).trans rfl)
theorem dk_122 {code : ByteArray} {pc : Nat} (h : DkAt code pc [122]) : decode code pc = .ok (.ishr, 1) := dk_of ((dk_bind (dk_u1 (h 0 _ rfl))).trans rfl)
theorem dk_124 {code : ByteArray} {pc : Nat} (h : DkAt code pc [124]) : decode code pc = .ok (.iushr, 1) := dk_of ((dk_bind (dk_u1 (h 0 _ rfl))).trans rfl)
theorem dk_126 {code : ByteArray} {pc : Nat} (h : DkAt code pc [126]) : decode code pc = .ok (.iand, 1) := dk_of ((dk_bind (dk_u1 (h 0 _ rfl))).trans rfl)
theorem dk_128 {code : ByteArray} {pc : Nat} (h : DkAt code pc [128]) : decode code pc = .ok (.ior, 1) := dk_of ((dk_bind (dk_u1 (h 0 _ rfl))).trans rfl)
theorem dk_132 {code : ByteArray} {pc : Nat} (a b : UInt8) (h : DkAt code pc [132, a, b]) : decode code pc = .ok (.iinc a.toNat (Reader.signed 8 b.toNat), 3) := dk_of ((dk_bind (dk_u1 (h 0 _ rfl))).trans ((dk_bind (dk_u1 (h 1 _ rfl))).trans ((dk_bind (dk_map (dk_u1 (h 2 _ rfl)))).trans rfl)))
theorem dk_145 {code : ByteArray} {pc : Nat} (h : DkAt code pc [145]) : decode code pc = .ok (.i2b, 1) := dk_of ((dk_bind (dk_u1 (h 0 _ rfl))).trans rfl)
theorem dk_146 {code : ByteArray} {pc : Nat} (h : DkAt code pc [146]) : decode code pc = .ok (.i2c, 1) := dk_of ((dk_bind (dk_u1 (h 0 _ rfl))).trans rfl)
theorem dk_153 {code : ByteArray} {pc : Nat} (a b : UInt8) (h : DkAt code pc [153, a, b]) : decode code pc = .ok (.ifCond .eq (Reader.signed 16 (a.toNat * 256 + b.toNat)), 3) := dk_of ((dk_bind (dk_u1 (h 0 _ rfl))).trans ((dk_bind (dk_map (dk_u2 (h 1 _ rfl) (h 2 _ rfl)))).trans rfl))
theorem dk_154 {code : ByteArray} {pc : Nat} (a b : UInt8) (h : DkAt code pc [154, a, b]) : decode code pc = .ok (.ifCond .ne (Reader.signed 16 (a.toNat * 256 + b.toNat)), 3) := dk_of ((dk_bind (dk_u1 (h 0 _ rfl))).trans ((dk_bind (dk_map (dk_u2 (h 1 _ rfl) (h 2 _ rfl)))).trans rfl))
theorem dk_155 {code : ByteArray} {pc : Nat} (a b : UInt8) (h : DkAt code pc [155, a, b]) : decode code pc = .ok (.ifCond .lt (Reader.signed 16 (a.toNat * 256 + b.toNat)), 3) := dk_of ((dk_bind (dk_u1 (h 0 _ rfl))).trans ((dk_bind (dk_map (dk_u2 (h 1 _ rfl) (h 2 _ rfl)))).trans rfl))
theorem dk_157 {code : ByteArray} {pc : Nat} (a b : UInt8) (h : DkAt code pc [157, a, b]) : decode code pc = .ok (.ifCond .gt (Reader.signed 16 (a.toNat * 256 + b.toNat)), 3) := dk_of ((dk_bind (dk_u1 (h 0 _ rfl))).trans ((dk_bind (dk_map (dk_u2 (h 1 _ rfl) (h 2 _ rfl)))).trans rfl))
theorem dk_158 {code : ByteArray} {pc : Nat} (a b : UInt8) (h : DkAt code pc [158, a, b]) : decode code pc = .ok (.ifCond .le (Reader.signed 16 (a.toNat * 256 + b.toNat)), 3) := dk_of ((dk_bind (dk_u1 (h 0 _ rfl))).trans ((dk_bind (dk_map (dk_u2 (h 1 _ rfl) (h 2 _ rfl)))).trans rfl))
theorem dk_159 {code : ByteArray} {pc : Nat} (a b : UInt8) (h : DkAt code pc [159, a, b]) : decode code pc = .ok (.if_icmp .eq (Reader.signed 16 (a.toNat * 256 + b.toNat)), 3) := dk_of ((dk_bind (dk_u1 (h 0 _ rfl))).trans ((dk_bind (dk_map (dk_u2 (h 1 _ rfl) (h 2 _ rfl)))).trans rfl))
theorem dk_160 {code : ByteArray} {pc : Nat} (a b : UInt8) (h : DkAt code pc [160, a, b]) : decode code pc = .ok (.if_icmp .ne (Reader.signed 16 (a.toNat * 256 + b.toNat)), 3) := dk_of ((dk_bind (dk_u1 (h 0 _ rfl))).trans ((dk_bind (dk_map (dk_u2 (h 1 _ rfl) (h 2 _ rfl)))).trans rfl))
theorem dk_161 {code : ByteArray} {pc : Nat} (a b : UInt8) (h : DkAt code pc [161, a, b]) : decode code pc = .ok (.if_icmp .lt (Reader.signed 16 (a.toNat * 256 + b.toNat)), 3) := dk_of ((dk_bind (dk_u1 (h 0 _ rfl))).trans ((dk_bind (dk_map (dk_u2 (h 1 _ rfl) (h 2 _ rfl)))).trans rfl))
theorem dk_162 {code : ByteArray} {pc : Nat} (a b : UInt8) (h : DkAt code pc [162, a, b]) : decode code pc = .ok (.if_icmp .ge (Reader.signed 16 (a.toNat * 256 + b.toNat)), 3) := dk_of ((dk_bind (dk_u1 (h 0 _ rfl))).trans ((dk_bind (dk_map (dk_u2 (h 1 _ rfl) (h 2 _ rfl)))).trans rfl))
theorem dk_163 {code : ByteArray} {pc : Nat} (a b : UInt8) (h : DkAt code pc [163, a, b]) : decode code pc = .ok (.if_icmp .gt (Reader.signed 16 (a.toNat * 256 + b.toNat)), 3) := dk_of ((dk_bind (dk_u1 (h 0 _ rfl))).trans ((dk_bind (dk_map (dk_u2 (h 1 _ rfl) (h 2 _ rfl)))).trans rfl))
theorem dk_164 {code : ByteArray} {pc : Nat} (a b : UInt8) (h : DkAt code pc [164, a, b]) : decode code pc = .ok (.if_icmp .le (Reader.signed 16 (a.toNat * 256 + b.toNat)), 3) := dk_of ((dk_bind (dk_u1 (h 0 _ rfl))).trans ((dk_bind (dk_map (dk_u2 (h 1 _ rfl) (h 2 _ rfl)))).trans rfl))
theorem dk_167 {code : ByteArray} {pc : Nat} (a b : UInt8) (h : DkAt code pc [167, a, b]) : decode code pc = .ok (.goto (Reader.signed 16 (a.toNat * 256 + b.toNat)), 3) := dk_of ((dk_bind (dk_u1 (h 0 _ rfl))).trans ((dk_bind (dk_map (dk_u2 (h 1 _ rfl) (h 2 _ rfl)))).trans rfl))
theorem dk_172 {code : ByteArray} {pc : Nat} (h : DkAt code pc [172]) : decode code pc = .ok (.ireturn, 1) := dk_of ((dk_bind (dk_u1 (h 0 _ rfl))).trans rfl)
theorem dk_176 {code : ByteArray} {pc : Nat} (h : DkAt code pc [176]) : decode code pc = .ok (.areturn, 1) := dk_of ((dk_bind (dk_u1 (h 0 _ rfl))).trans rfl)
theorem dk_177 {code : ByteArray} {pc : Nat} (h : DkAt code pc [177]) : decode code pc = .ok (.return_, 1) := dk_of ((dk_bind (dk_u1 (h 0 _ rfl))).trans rfl)
theorem dk_178 {code : ByteArray} {pc : Nat} (a b : UInt8) (h : DkAt code pc [178, a, b]) : decode code pc = .ok (.getstatic (a.toNat * 256 + b.toNat), 3) := dk_of ((dk_bind (dk_u1 (h 0 _ rfl))).trans ((dk_bind (dk_u2 (h 1 _ rfl) (h 2 _ rfl))).trans rfl))
theorem dk_180 {code : ByteArray} {pc : Nat} (a b : UInt8) (h : DkAt code pc [180, a, b]) : decode code pc = .ok (.getfield (a.toNat * 256 + b.toNat), 3) := dk_of ((dk_bind (dk_u1 (h 0 _ rfl))).trans ((dk_bind (dk_u2 (h 1 _ rfl) (h 2 _ rfl))).trans rfl))
theorem dk_181 {code : ByteArray} {pc : Nat} (a b : UInt8) (h : DkAt code pc [181, a, b]) : decode code pc = .ok (.putfield (a.toNat * 256 + b.toNat), 3) := dk_of ((dk_bind (dk_u1 (h 0 _ rfl))).trans ((dk_bind (dk_u2 (h 1 _ rfl) (h 2 _ rfl))).trans rfl))
theorem dk_182 {code : ByteArray} {pc : Nat} (a b : UInt8) (h : DkAt code pc [182, a, b]) : decode code pc = .ok (.invokevirtual (a.toNat * 256 + b.toNat), 3) := dk_of ((dk_bind (dk_u1 (h 0 _ rfl))).trans ((dk_bind (dk_u2 (h 1 _ rfl) (h 2 _ rfl))).trans rfl))
theorem dk_183 {code : ByteArray} {pc : Nat} (a b : UInt8) (h : DkAt code pc [183, a, b]) : decode code pc = .ok (.invokespecial (a.toNat * 256 + b.toNat), 3) := dk_of ((dk_bind (dk_u1 (h 0 _ rfl))).trans ((dk_bind (dk_u2 (h 1 _ rfl) (h 2 _ rfl))).trans rfl))
theorem dk_184 {code : ByteArray} {pc : Nat} (a b : UInt8) (h : DkAt code pc [184, a, b]) : decode code pc = .ok (.invokestatic (a.toNat * 256 + b.toNat), 3) := dk_of ((dk_bind (dk_u1 (h 0 _ rfl))).trans ((dk_bind (dk_u2 (h 1 _ rfl) (h 2 _ rfl))).trans rfl))
theorem dk_187 {code : ByteArray} {pc : Nat} (a b : UInt8) (h : DkAt code pc [187, a, b]) : decode code pc = .ok (.new (a.toNat * 256 + b.toNat), 3) := dk_of ((dk_bind (dk_u1 (h 0 _ rfl))).trans ((dk_bind (dk_u2 (h 1 _ rfl) (h 2 _ rfl))).trans rfl))
theorem dk_188_5 {code : ByteArray} {pc : Nat} (h : DkAt code pc [188, 5]) : decode code pc = .ok (.newarray .char, 2) := dk_of ((dk_bind (dk_u1 (h 0 _ rfl))).trans ((dk_bind (dk_u1 (h 1 _ rfl))).trans rfl))
theorem dk_188_8 {code : ByteArray} {pc : Nat} (h : DkAt code pc [188, 8]) : decode code pc = .ok (.newarray .byte, 2) := dk_of ((dk_bind (dk_u1 (h 0 _ rfl))).trans ((dk_bind (dk_u1 (h 1 _ rfl))).trans rfl))
theorem dk_188_10 {code : ByteArray} {pc : Nat} (h : DkAt code pc [188, 10]) : decode code pc = .ok (.newarray .int, 2) := dk_of ((dk_bind (dk_u1 (h 0 _ rfl))).trans ((dk_bind (dk_u1 (h 1 _ rfl))).trans rfl))
theorem dk_190 {code : ByteArray} {pc : Nat} (h : DkAt code pc [190]) : decode code pc = .ok (.arraylength, 1) := dk_of ((dk_bind (dk_u1 (h 0 _ rfl))).trans rfl)
/-! java/lang/Object -/
set_option maxRecDepth 100000
def RJ0 : String := "java/lang/Object"
abbrev cJ0_init : ByteArray := object_method_1_code
def yJ0_init : MethodName := ⟨RJ0, "<init>", "()V"⟩
theorem dJ0_init_0 : decode cJ0_init 0 = .ok (.return_, 1) := by decide +kernel
theorem q25 : (Jvm.Cond.instanceMethod ({ cls := "java/lang/Object", name := "<init>", desc := "()V" } : Jvm.MethodName)) ∈ lw_all := lw_g (lw_at lw_m0 14 rfl) rfl
theorem q26 : (Jvm.Cond.code ({ cls := "java/lang/Object", name := "<init>", desc := "()V" } : Jvm.MethodName) object_method_1_code (1 : Nat) (Option.none : Option Jvm.ClassFile.FieldType)) ∈ lw_all := lw_g (lw_at lw_m0 15 rfl) rfl
theorem q46 : (Jvm.Cond.arrayClass Jvm.ClassFile.FieldType.byte) ∈ lw_all := lw_g (lw_at lw_m0 35 rfl) rfl
set_option maxRecDepth 100000
theorem q47 : (Jvm.Cond.arrayClass Jvm.ClassFile.FieldType.char) ∈ lw_all := lw_g (lw_at lw_m0 36 rfl) rfl
theorem q64 : (Jvm.Cond.arrayClass Jvm.ClassFile.FieldType.int) ∈ lw_all := lw_g (lw_at lw_m0 53 rfl) rfl
theorem q168 : (Jvm.Cond.arrayClass Jvm.ClassFile.FieldType.short) ∈ lw_all := lw_g (lw_at lw_m0 157 rfl) rfl
/-! UTF8 -/
set_option maxRecDepth 100000
def RX2 : String := "UTF8"
abbrev cX2_transcodeToUTF16 : ByteArray := prog_1_method_3_code
def yX2_transcodeToUTF16 : MethodName := ⟨RX2, "transcodeToUTF16", "([B[C)I"⟩
def dkwX2_transcodeToUTF16_0 : List UInt8 := [42, 3, 42, 190, 43, 184, 0, 7, 172]
abbrev dktX2_transcodeToUTF16_0 : List UInt8 := dkwX2_transcodeToUTF16_0 ++ []
theorem dksX2_transcodeToUTF16_0 : cX2_transcodeToUTF16.data.toList.drop 0 = dktX2_transcodeToUTF16_0 := by decide +kernel
theorem dX2_transcodeToUTF16_0 : decode cX2_transcodeToUTF16 0 = .ok (.aload_n 0, 1) := dk_42 (dk_at dksX2_transcodeToUTF16_0 0 rfl rfl)
theorem dX2_transcodeToUTF16_1 : decode cX2_transcodeToUTF16 1 = .ok (.iconst 0, 1) := dk_3 (dk_at dksX2_transcodeToUTF16_0 1 rfl rfl)
theorem dX2_transcodeToUTF16_2 : decode cX2_transcodeToUTF16 2 = .ok (.aload_n 0, 1) := dk_42 (dk_at dksX2_transcodeToUTF16_0 2 rfl rfl)
theorem dX2_transcodeToUTF16_3 : decode cX2_transcodeToUTF16 3 = .ok (.arraylength, 1) := dk_190 (dk_at dksX2_transcodeToUTF16_0 3 rfl rfl)
theorem dX2_transcodeToUTF16_4 : decode cX2_transcodeToUTF16 4 = .ok (.aload_n 1, 1) := dk_43 (dk_at dksX2_transcodeToUTF16_0 4 rfl rfl)
theorem dX2_transcodeToUTF16_5 : decode cX2_transcodeToUTF16 5 = .ok (.invokestatic 7, 3) := dk_184 0 7 (dk_at dksX2_transcodeToUTF16_0 5 rfl rfl)
theorem dX2_transcodeToUTF16_8 : decode cX2_transcodeToUTF16 8 = .ok (.ireturn, 1) := dk_172 (dk_at dksX2_transcodeToUTF16_0 8 rfl rfl)
abbrev cX2_transcodeToUTF16_2 : ByteArray := prog_1_method_4_code
def yX2_transcodeToUTF16_2 : MethodName := ⟨RX2, "transcodeToUTF16", "([BII[C)I"⟩
def dkwX2_transcodeToUTF16_2_9 : List UInt8 := [85, 167, 255, 52, 21, 5, 172]
abbrev dktX2_transcodeToUTF16_2_9 : List UInt8 := dkwX2_transcodeToUTF16_2_9 ++ []
def dkwX2_transcodeToUTF16_2_8 : List UInt8 := [21, 9, 16, 10, 124, 96, 146, 85, 45, 21, 5, 132, 5, 1, 18, 23, 21, 9, 17, 3, 255, 126, 128, 146]
abbrev dktX2_transcodeToUTF16_2_8 : List UInt8 := dkwX2_transcodeToUTF16_2_8 ++ dktX2_transcodeToUTF16_2_9
def dkwX2_transcodeToUTF16_2_7 : List UInt8 := [146, 85, 167, 0, 47, 21, 5, 45, 190, 4, 100, 161, 0, 5, 2, 172, 45, 21, 5, 132, 5, 1, 18, 22]
abbrev dktX2_transcodeToUTF16_2_7 : List UInt8 := dkwX2_transcodeToUTF16_2_7 ++ dktX2_transcodeToUTF16_2_8
def dkwX2_transcodeToUTF16_2_6 : List UInt8 := [21, 9, 18, 21, 163, 0, 25, 21, 5, 45, 190, 161, 0, 5, 2, 172, 45, 21, 5, 132, 5, 1, 21, 9]
abbrev dktX2_transcodeToUTF16_2_6 : List UInt8 := dkwX2_transcodeToUTF16_2_6 ++ dktX2_transcodeToUTF16_2_7
def dkwX2_transcodeToUTF16_2_5 : List UInt8 := [21, 7, 17, 0, 255, 126, 7, 124, 96, 51, 54, 10, 167, 255, 203, 21, 10, 16, 254, 160, 0, 5, 2, 172]
abbrev dktX2_transcodeToUTF16_2_5 : List UInt8 := dkwX2_transcodeToUTF16_2_5 ++ dktX2_transcodeToUTF16_2_6
def dkwX2_transcodeToUTF16_2_4 : List UInt8 := [132, 4, 1, 51, 54, 7, 21, 9, 16, 6, 120, 21, 7, 16, 63, 126, 128, 54, 9, 178, 0, 17, 21, 10]
abbrev dktX2_transcodeToUTF16_2_4 : List UInt8 := dkwX2_transcodeToUTF16_2_4 ++ dktX2_transcodeToUTF16_2_5
def dkwX2_transcodeToUTF16_2_3 : List UInt8 := [54, 9, 21, 8, 145, 54, 10, 21, 10, 155, 0, 54, 21, 4, 21, 6, 161, 0, 5, 2, 172, 42, 21, 4]
abbrev dktX2_transcodeToUTF16_2_3 : List UInt8 := dkwX2_transcodeToUTF16_2_3 ++ dktX2_transcodeToUTF16_2_4
def dkwX2_transcodeToUTF16_2_2 : List UInt8 := [21, 7, 146, 85, 167, 255, 216, 178, 0, 13, 21, 7, 16, 127, 126, 53, 54, 8, 21, 8, 16, 8, 124]
abbrev dktX2_transcodeToUTF16_2_2 : List UInt8 := dkwX2_transcodeToUTF16_2_2 ++ dktX2_transcodeToUTF16_2_3
def dkwX2_transcodeToUTF16_2_1 : List UInt8 := [51, 54, 7, 21, 7, 155, 0, 25, 21, 5, 45, 190, 161, 0, 5, 2, 172, 45, 21, 5, 132, 5, 1]
abbrev dktX2_transcodeToUTF16_2_1 : List UInt8 := dkwX2_transcodeToUTF16_2_1 ++ dktX2_transcodeToUTF16_2_2
def dkwX2_transcodeToUTF16_2_0 : List UInt8 := [27, 54, 4, 3, 54, 5, 27, 28, 96, 54, 6, 21, 4, 21, 6, 162, 0, 203, 42, 21, 4, 132, 4, 1]
abbrev dktX2_transcodeToUTF16_2_0 : List UInt8 := dkwX2_transcodeToUTF16_2_0 ++ dktX2_transcodeToUTF16_2_1
theorem dksX2_transcodeToUTF16_2_0 : cX2_transcodeToUTF16_2.data.toList.drop 0 = dktX2_transcodeToUTF16_2_0 := by decide +kernel
theorem dksX2_transcodeToUTF16_2_1 : cX2_transcodeToUTF16_2.data.toList.drop 24 = dktX2_transcodeToUTF16_2_1 := dk_seg dksX2_transcodeToUTF16_2_0 24 rfl rfl
theorem dksX2_transcodeToUTF16_2_2 : cX2_transcodeToUTF16_2.data.toList.drop 47 = dktX2_transcodeToUTF16_2_2 := dk_seg dksX2_transcodeToUTF16_2_1 23 rfl rfl
theorem dksX2_transcodeToUTF16_2_3 : cX2_transcodeToUTF16_2.data.toList.drop 70 = dktX2_transcodeToUTF16_2_3 := dk_seg dksX2_transcodeToUTF16_2_2 23 rfl rfl
theorem dksX2_transcodeToUTF16_2_4 : cX2_transcodeToUTF16_2.data.toList.drop 94 = dktX2_transcodeToUTF16_2_4 := dk_seg dksX2_transcodeToUTF16_2_3 24 rfl rfl
theorem dksX2_transcodeToUTF16_2_5 : cX2_transcodeToUTF16_2.data.toList.drop 118 = dktX2_transcodeToUTF16_2_5 := dk_seg dksX2_transcodeToUTF16_2_4 24 rfl rfl
theorem dksX2_transcodeToUTF16_2_6 : cX2_transcodeToUTF16_2.data.toList.drop 142 = dktX2_transcodeToUTF16_2_6 := dk_seg dksX2_transcodeToUTF16_2_5 24 rfl rfl
theorem dksX2_transcodeToUTF16_2_7 : cX2_transcodeToUTF16_2.data.toList.drop 166 = dktX2_transcodeToUTF16_2_7 := dk_seg dksX2_transcodeToUTF16_2_6 24 rfl rfl
theorem dksX2_transcodeToUTF16_2_8 : cX2_transcodeToUTF16_2.data.toList.drop 190 = dktX2_transcodeToUTF16_2_8 := dk_seg dksX2_transcodeToUTF16_2_7 24 rfl rfl
theorem dksX2_transcodeToUTF16_2_9 : cX2_transcodeToUTF16_2.data.toList.drop 214 = dktX2_transcodeToUTF16_2_9 := dk_seg dksX2_transcodeToUTF16_2_8 24 rfl rfl
theorem dX2_transcodeToUTF16_2_0 : decode cX2_transcodeToUTF16_2 0 = .ok (.iload_n 1, 1) := dk_27 (dk_at dksX2_transcodeToUTF16_2_0 0 rfl rfl)
theorem dX2_transcodeToUTF16_2_1 : decode cX2_transcodeToUTF16_2 1 = .ok (.istore 4, 2) := dk_54 4 (dk_at dksX2_transcodeToUTF16_2_0 1 rfl rfl)
theorem dX2_transcodeToUTF16_2_3 : decode cX2_transcodeToUTF16_2 3 = .ok (.iconst 0, 1) := dk_3 (dk_at dksX2_transcodeToUTF16_2_0 3 rfl rfl)
theorem dX2_transcodeToUTF16_2_4 : decode cX2_transcodeToUTF16_2 4 = .ok (.istore 5, 2) := dk_54 5 (dk_at dksX2_transcodeToUTF16_2_0 4 rfl rfl)
theorem dX2_transcodeToUTF16_2_6 : decode cX2_transcodeToUTF16_2 6 = .ok (.iload_n 1, 1) := dk_27 (dk_at dksX2_transcodeToUTF16_2_0 6 rfl rfl)
theorem dX2_transcodeToUTF16_2_7 : decode cX2_transcodeToUTF16_2 7 = .ok (.iload_n 2, 1) := dk_28 (dk_at dksX2_transcodeToUTF16_2_0 7 rfl rfl)
theorem dX2_transcodeToUTF16_2_8 : decode cX2_transcodeToUTF16_2 8 = .ok (.iadd, 1) := dk_96 (dk_at dksX2_transcodeToUTF16_2_0 8 rfl rfl)
theorem dX2_transcodeToUTF16_2_9 : decode cX2_transcodeToUTF16_2 9 = .ok (.istore 6, 2) := dk_54 6 (dk_at dksX2_transcodeToUTF16_2_0 9 rfl rfl)
theorem dX2_transcodeToUTF16_2_11 : decode cX2_transcodeToUTF16_2 11 = .ok (.iload 4, 2) := dk_21 4 (dk_at dksX2_transcodeToUTF16_2_0 11 rfl rfl)
theorem dX2_transcodeToUTF16_2_13 : decode cX2_transcodeToUTF16_2 13 = .ok (.iload 6, 2) := dk_21 6 (dk_at dksX2_transcodeToUTF16_2_0 13 rfl rfl)
theorem dX2_transcodeToUTF16_2_15 : decode cX2_transcodeToUTF16_2 15 = .ok (.if_icmp .ge 203, 3) := dk_162 0 203 (dk_at dksX2_transcodeToUTF16_2_0 15 rfl rfl)
theorem dX2_transcodeToUTF16_2_18 : decode cX2_transcodeToUTF16_2 18 = .ok (.aload_n 0, 1) := dk_42 (dk_at dksX2_transcodeToUTF16_2_0 18 rfl rfl)
theorem dX2_transcodeToUTF16_2_19 : decode cX2_transcodeToUTF16_2 19 = .ok (.iload 4, 2) := dk_21 4 (dk_at dksX2_transcodeToUTF16_2_0 19 rfl rfl)
theorem dX2_transcodeToUTF16_2_21 : decode cX2_transcodeToUTF16_2 21 = .ok (.iinc 4 1, 3) := dk_132 4 1 (dk_at dksX2_transcodeToUTF16_2_0 21 rfl rfl)
theorem dX2_transcodeToUTF16_2_24 : decode cX2_transcodeToUTF16_2 24 = .ok (.baload, 1) := dk_51 (dk_at dksX2_transcodeToUTF16_2_1 0 rfl rfl)
theorem dX2_transcodeToUTF16_2_25 : decode cX2_transcodeToUTF16_2 25 = .ok (.istore 7, 2) := dk_54 7 (dk_at dksX2_transcodeToUTF16_2_1 1 rfl rfl)
theorem dX2_transcodeToUTF16_2_27 : decode cX2_transcodeToUTF16_2 27 = .ok (.iload 7, 2) := dk_21 7 (dk_at dksX2_transcodeToUTF16_2_1 3 rfl rfl)
theorem dX2_transcodeToUTF16_2_29 : decode cX2_transcodeToUTF16_2 29 = .ok (.ifCond .lt 25, 3) := dk_155 0 25 (dk_at dksX2_transcodeToUTF16_2_1 5 rfl rfl)
theorem dX2_transcodeToUTF16_2_32 : decode cX2_transcodeToUTF16_2 32 = .ok (.iload 5, 2) := dk_21 5 (dk_at dksX2_transcodeToUTF16_2_1 8 rfl rfl)
theorem dX2_transcodeToUTF16_2_34 : decode cX2_transcodeToUTF16_2 34 = .ok (.aload_n 3, 1) := dk_45 (dk_at dksX2_transcodeToUTF16_2_1 10 rfl rfl)
theorem dX2_transcodeToUTF16_2_35 : decode cX2_transcodeToUTF16_2 35 = .ok (.arraylength, 1) := dk_190 (dk_at dksX2_transcodeToUTF16_2_1 11 rfl rfl)
theorem dX2_transcodeToUTF16_2_36 : decode cX2_transcodeToUTF16_2 36 = .ok (.if_icmp .lt 5, 3) := dk_161 0 5 (dk_at dksX2_transcodeToUTF16_2_1 12 rfl rfl)
theorem dX2_transcodeToUTF16_2_39 : decode cX2_transcodeToUTF16_2 39 = .ok (.iconst (-1), 1) := dk_2 (dk_at dksX2_transcodeToUTF16_2_1 15 rfl rfl)
theorem dX2_transcodeToUTF16_2_40 : decode cX2_transcodeToUTF16_2 40 = .ok (.ireturn, 1) := dk_172 (dk_at dksX2_transcodeToUTF16_2_1 16 rfl rfl)
theorem dX2_transcodeToUTF16_2_41 : decode cX2_transcodeToUTF16_2 41 = .ok (.aload_n 3, 1) := dk_45 (dk_at dksX2_transcodeToUTF16_2_1 17 rfl rfl)
theorem dX2_transcodeToUTF16_2_42 : decode cX2_transcodeToUTF16_2 42 = .ok (.iload 5, 2) := dk_21 5 (dk_at dksX2_transcodeToUTF16_2_1 18 rfl rfl)
theorem dX2_transcodeToUTF16_2_44 : decode cX2_transcodeToUTF16_2 44 = .ok (.iinc 5 1, 3) := dk_132 5 1 (dk_at dksX2_transcodeToUTF16_2_1 20 rfl rfl)
theorem dX2_transcodeToUTF16_2_47 : decode cX2_transcodeToUTF16_2 47 = .ok (.iload 7, 2) := dk_21 7 (dk_at dksX2_transcodeToUTF16_2_2 0 rfl rfl)
theorem dX2_transcodeToUTF16_2_49 : decode cX2_transcodeToUTF16_2 49 = .ok (.i2c, 1) := dk_146 (dk_at dksX2_transcodeToUTF16_2_2 2 rfl rfl)
theorem dX2_transcodeToUTF16_2_50 : decode cX2_transcodeToUTF16_2 50 = .ok (.castore, 1) := dk_85 (dk_at dksX2_transcodeToUTF16_2_2 3 rfl rfl)
theorem dX2_transcodeToUTF16_2_51 : decode cX2_transcodeToUTF16_2 51 = .ok (.goto (-40), 3) := dk_167 255 216 (dk_at dksX2_transcodeToUTF16_2_2 4 rfl rfl)
theorem dX2_transcodeToUTF16_2_54 : decode cX2_transcodeToUTF16_2 54 = .ok (.getstatic 13, 3) := dk_178 0 13 (dk_at dksX2_transcodeToUTF16_2_2 7 rfl rfl)
theorem dX2_transcodeToUTF16_2_57 : decode cX2_transcodeToUTF16_2 57 = .ok (.iload 7, 2) := dk_21 7 (dk_at dksX2_transcodeToUTF16_2_2 10 rfl rfl)
theorem dX2_transcodeToUTF16_2_59 : decode cX2_transcodeToUTF16_2 59 = .ok (.bipush 127, 2) := dk_16 127 (dk_at dksX2_transcodeToUTF16_2_2 12 rfl rfl)
theorem dX2_transcodeToUTF16_2_61 : decode cX2_transcodeToUTF16_2 61 = .ok (.iand, 1) := dk_126 (dk_at dksX2_transcodeToUTF16_2_2 14 rfl rfl)
theorem dX2_transcodeToUTF16_2_62 : decode cX2_transcodeToUTF16_2 62 = .ok (.saload, 1) := dk_53 (dk_at dksX2_transcodeToUTF16_2_2 15 rfl rfl)
theorem dX2_transcodeToUTF16_2_63 : decode cX2_transcodeToUTF16_2 63 = .ok (.istore 8, 2) := dk_54 8 (dk_at dksX2_transcodeToUTF16_2_2 16 rfl rfl)
theorem dX2_transcodeToUTF16_2_65 : decode cX2_transcodeToUTF16_2 65 = .ok (.iload 8, 2) := dk_21 8 (dk_at dksX2_transcodeToUTF16_2_2 18 rfl rfl)
theorem dX2_transcodeToUTF16_2_67 : decode cX2_transcodeToUTF16_2 67 = .ok (.bipush 8, 2) := dk_16 8 (dk_at dksX2_transcodeToUTF16_2_2 20 rfl rfl)
theorem dX2_transcodeToUTF16_2_69 : decode cX2_transcodeToUTF16_2 69 = .ok (.iushr, 1) := dk_124 (dk_at dksX2_transcodeToUTF16_2_2 22 rfl rfl)
theorem dX2_transcodeToUTF16_2_70 : decode cX2_transcodeToUTF16_2 70 = .ok (.istore 9, 2) := dk_54 9 (dk_at dksX2_transcodeToUTF16_2_3 0 rfl rfl)
theorem dX2_transcodeToUTF16_2_72 : decode cX2_transcodeToUTF16_2 72 = .ok (.iload 8, 2) := dk_21 8 (dk_at dksX2_transcodeToUTF16_2_3 2 rfl rfl)
theorem dX2_transcodeToUTF16_2_74 : decode cX2_transcodeToUTF16_2 74 = .ok (.i2b, 1) := dk_145 (dk_at dksX2_transcodeToUTF16_2_3 4 rfl rfl)
theorem dX2_transcodeToUTF16_2_75 : decode cX2_transcodeToUTF16_2 75 = .ok (.istore 10, 2) := dk_54 10 (dk_at dksX2_transcodeToUTF16_2_3 5 rfl rfl)
theorem dX2_transcodeToUTF16_2_77 : decode cX2_transcodeToUTF16_2 77 = .ok (.iload 10, 2) := dk_21 10 (dk_at dksX2_transcodeToUTF16_2_3 7 rfl rfl)
theorem dX2_transcodeToUTF16_2_79 : decode cX2_transcodeToUTF16_2 79 = .ok (.ifCond .lt 54, 3) := dk_155 0 54 (dk_at dksX2_transcodeToUTF16_2_3 9 rfl rfl)
theorem dX2_transcodeToUTF16_2_82 : decode cX2_transcodeToUTF16_2 82 = .ok (.iload 4, 2) := dk_21 4 (dk_at dksX2_transcodeToUTF16_2_3 12 rfl rfl)
theorem dX2_transcodeToUTF16_2_84 : decode cX2_transcodeToUTF16_2 84 = .ok (.iload 6, 2) := dk_21 6 (dk_at dksX2_transcodeToUTF16_2_3 14 rfl rfl)
theorem dX2_transcodeToUTF16_2_86 : decode cX2_transcodeToUTF16_2 86 = .ok (.if_icmp .lt 5, 3) := dk_161 0 5 (dk_at dksX2_transcodeToUTF16_2_3 16 rfl rfl)
theorem dX2_transcodeToUTF16_2_89 : decode cX2_transcodeToUTF16_2 89 = .ok (.iconst (-1), 1) := dk_2 (dk_at dksX2_transcodeToUTF16_2_3 19 rfl rfl)
theorem dX2_transcodeToUTF16_2_90 : decode cX2_transcodeToUTF16_2 90 = .ok (.ireturn, 1) := dk_172 (dk_at dksX2_transcodeToUTF16_2_3 20 rfl rfl)
theorem dX2_transcodeToUTF16_2_91 : decode cX2_transcodeToUTF16_2 91 = .ok (.aload_n 0, 1) := dk_42 (dk_at dksX2_transcodeToUTF16_2_3 21 rfl rfl)
theorem dX2_transcodeToUTF16_2_92 : decode cX2_transcodeToUTF16_2 92 = .ok (.iload 4, 2) := dk_21 4 (dk_at dksX2_transcodeToUTF16_2_3 22 rfl rfl)
theorem dX2_transcodeToUTF16_2_94 : decode cX2_transcodeToUTF16_2 94 = .ok (.iinc 4 1, 3) := dk_132 4 1 (dk_at dksX2_transcodeToUTF16_2_4 0 rfl rfl)
theorem dX2_transcodeToUTF16_2_97 : decode cX2_transcodeToUTF16_2 97 = .ok (.baload, 1) := dk_51 (dk_at dksX2_transcodeToUTF16_2_4 3 rfl rfl)
theorem dX2_transcodeToUTF16_2_98 : decode cX2_transcodeToUTF16_2 98 = .ok (.istore 7, 2) := dk_54 7 (dk_at dksX2_transcodeToUTF16_2_4 4 rfl rfl)
theorem dX2_transcodeToUTF16_2_100 : decode cX2_transcodeToUTF16_2 100 = .ok (.iload 9, 2) := dk_21 9 (dk_at dksX2_transcodeToUTF16_2_4 6 rfl rfl)
theorem dX2_transcodeToUTF16_2_102 : decode cX2_transcodeToUTF16_2 102 = .ok (.bipush 6, 2) := dk_16 6 (dk_at dksX2_transcodeToUTF16_2_4 8 rfl rfl)
theorem dX2_transcodeToUTF16_2_104 : decode cX2_transcodeToUTF16_2 104 = .ok (.ishl, 1) := dk_120 (dk_at dksX2_transcodeToUTF16_2_4 10 rfl rfl)
theorem dX2_transcodeToUTF16_2_105 : decode cX2_transcodeToUTF16_2 105 = .ok (.iload 7, 2) := dk_21 7 (dk_at dksX2_transcodeToUTF16_2_4 11 rfl rfl)
theorem dX2_transcodeToUTF16_2_107 : decode cX2_transcodeToUTF16_2 107 = .ok (.bipush 63, 2) := dk_16 63 (dk_at dksX2_transcodeToUTF16_2_4 13 rfl rfl)
theorem dX2_transcodeToUTF16_2_109 : decode cX2_transcodeToUTF16_2 109 = .ok (.iand, 1) := dk_126 (dk_at dksX2_transcodeToUTF16_2_4 15 rfl rfl)
theorem dX2_transcodeToUTF16_2_110 : decode cX2_transcodeToUTF16_2 110 = .ok (.ior, 1) := dk_128 (dk_at dksX2_transcodeToUTF16_2_4 16 rfl rfl)
theorem dX2_transcodeToUTF16_2_111 : decode cX2_transcodeToUTF16_2 111 = .ok (.istore 9, 2) := dk_54 9 (dk_at dksX2_transcodeToUTF16_2_4 17 rfl rfl)
theorem dX2_transcodeToUTF16_2_113 : decode cX2_transcodeToUTF16_2 113 = .ok (.getstatic 17, 3) := dk_178 0 17 (dk_at dksX2_transcodeToUTF16_2_4 19 rfl rfl)
theorem dX2_transcodeToUTF16_2_116 : decode cX2_transcodeToUTF16_2 116 = .ok (.iload 10, 2) := dk_21 10 (dk_at dksX2_transcodeToUTF16_2_4 22 rfl rfl)
theorem dX2_transcodeToUTF16_2_118 : decode cX2_transcodeToUTF16_2 118 = .ok (.iload 7, 2) := dk_21 7 (dk_at dksX2_transcodeToUTF16_2_5 0 rfl rfl)
theorem dX2_transcodeToUTF16_2_120 : decode cX2_transcodeToUTF16_2 120 = .ok (.sipush 255, 3) := dk_17 0 255 (dk_at dksX2_transcodeToUTF16_2_5 2 rfl rfl)
theorem dX2_transcodeToUTF16_2_123 : decode cX2_transcodeToUTF16_2 123 = .ok (.iand, 1) := dk_126 (dk_at dksX2_transcodeToUTF16_2_5 5 rfl rfl)
theorem dX2_transcodeToUTF16_2_124 : decode cX2_transcodeToUTF16_2 124 = .ok (.iconst 4, 1) := dk_7 (dk_at dksX2_transcodeToUTF16_2_5 6 rfl rfl)
theorem dX2_transcodeToUTF16_2_125 : decode cX2_transcodeToUTF16_2 125 = .ok (.iushr, 1) := dk_124 (dk_at dksX2_transcodeToUTF16_2_5 7 rfl rfl)
theorem dX2_transcodeToUTF16_2_126 : decode cX2_transcodeToUTF16_2 126 = .ok (.iadd, 1) := dk_96 (dk_at dksX2_transcodeToUTF16_2_5 8 rfl rfl)
theorem dX2_transcodeToUTF16_2_127 : decode cX2_transcodeToUTF16_2 127 = .ok (.baload, 1) := dk_51 (dk_at dksX2_transcodeToUTF16_2_5 9 rfl rfl)
theorem dX2_transcodeToUTF16_2_128 : decode cX2_transcodeToUTF16_2 128 = .ok (.istore 10, 2) := dk_54 10 (dk_at dksX2_transcodeToUTF16_2_5 10 rfl rfl)
theorem dX2_transcodeToUTF16_2_130 : decode cX2_transcodeToUTF16_2 130 = .ok (.goto (-53), 3) := dk_167 255 203 (dk_at dksX2_transcodeToUTF16_2_5 12 rfl rfl)
theorem dX2_transcodeToUTF16_2_133 : decode cX2_transcodeToUTF16_2 133 = .ok (.iload 10, 2) := dk_21 10 (dk_at dksX2_transcodeToUTF16_2_5 15 rfl rfl)
theorem dX2_transcodeToUTF16_2_135 : decode cX2_transcodeToUTF16_2 135 = .ok (.bipush (-2), 2) := dk_16 254 (dk_at dksX2_transcodeToUTF16_2_5 17 rfl rfl)
theorem dX2_transcodeToUTF16_2_137 : decode cX2_transcodeToUTF16_2 137 = .ok (.if_icmp .ne 5, 3) := dk_160 0 5 (dk_at dksX2_transcodeToUTF16_2_5 19 rfl rfl)
theorem dX2_transcodeToUTF16_2_140 : decode cX2_transcodeToUTF16_2 140 = .ok (.iconst (-1), 1) := dk_2 (dk_at dksX2_transcodeToUTF16_2_5 22 rfl rfl)
theorem dX2_transcodeToUTF16_2_141 : decode cX2_transcodeToUTF16_2 141 = .ok (.ireturn, 1) := dk_172 (dk_at dksX2_transcodeToUTF16_2_5 23 rfl rfl)
theorem dX2_transcodeToUTF16_2_142 : decode cX2_transcodeToUTF16_2 142 = .ok (.iload 9, 2) := dk_21 9 (dk_at dksX2_transcodeToUTF16_2_6 0 rfl rfl)
theorem dX2_transcodeToUTF16_2_144 : decode cX2_transcodeToUTF16_2 144 = .ok (.ldc 21, 2) := dk_18 21 (dk_at dksX2_transcodeToUTF16_2_6 2 rfl rfl)
theorem dX2_transcodeToUTF16_2_146 : decode cX2_transcodeToUTF16_2 146 = .ok (.if_icmp .gt 25, 3) := dk_163 0 25 (dk_at dksX2_transcodeToUTF16_2_6 4 rfl rfl)
theorem dX2_transcodeToUTF16_2_149 : decode cX2_transcodeToUTF16_2 149 = .ok (.iload 5, 2) := dk_21 5 (dk_at dksX2_transcodeToUTF16_2_6 7 rfl rfl)
theorem dX2_transcodeToUTF16_2_151 : decode cX2_transcodeToUTF16_2 151 = .ok (.aload_n 3, 1) := dk_45 (dk_at dksX2_transcodeToUTF16_2_6 9 rfl rfl)
theorem dX2_transcodeToUTF16_2_152 : decode cX2_transcodeToUTF16_2 152 = .ok (.arraylength, 1) := dk_190 (dk_at dksX2_transcodeToUTF16_2_6 10 rfl rfl)
theorem dX2_transcodeToUTF16_2_153 : decode cX2_transcodeToUTF16_2 153 = .ok (.if_icmp .lt 5, 3) := dk_161 0 5 (dk_at dksX2_transcodeToUTF16_2_6 11 rfl rfl)
theorem dX2_transcodeToUTF16_2_156 : decode cX2_transcodeToUTF16_2 156 = .ok (.iconst (-1), 1) := dk_2 (dk_at dksX2_transcodeToUTF16_2_6 14 rfl rfl)
theorem dX2_transcodeToUTF16_2_157 : decode cX2_transcodeToUTF16_2 157 = .ok (.ireturn, 1) := dk_172 (dk_at dksX2_transcodeToUTF16_2_6 15 rfl rfl)
theorem dX2_transcodeToUTF16_2_158 : decode cX2_transcodeToUTF16_2 158 = .ok (.aload_n 3, 1) := dk_45 (dk_at dksX2_transcodeToUTF16_2_6 16 rfl rfl)
theorem dX2_transcodeToUTF16_2_159 : decode cX2_transcodeToUTF16_2 159 = .ok (.iload 5, 2) := dk_21 5 (dk_at dksX2_transcodeToUTF16_2_6 17 rfl rfl)
theorem dX2_transcodeToUTF16_2_161 : decode cX2_transcodeToUTF16_2 161 = .ok (.iinc 5 1, 3) := dk_132 5 1 (dk_at dksX2_transcodeToUTF16_2_6 19 rfl rfl)
theorem dX2_transcodeToUTF16_2_164 : decode cX2_transcodeToUTF16_2 164 = .ok (.iload 9, 2) := dk_21 9 (dk_at dksX2_transcodeToUTF16_2_6 22 rfl rfl)
theorem dX2_transcodeToUTF16_2_166 : decode cX2_transcodeToUTF16_2 166 = .ok (.i2c, 1) := dk_146 (dk_at dksX2_transcodeToUTF16_2_7 0 rfl rfl)
theorem dX2_transcodeToUTF16_2_167 : decode cX2_transcodeToUTF16_2 167 = .ok (.castore, 1) := dk_85 (dk_at dksX2_transcodeToUTF16_2_7 1 rfl rfl)
theorem dX2_transcodeToUTF16_2_168 : decode cX2_transcodeToUTF16_2 168 = .ok (.goto 47, 3) := dk_167 0 47 (dk_at dksX2_transcodeToUTF16_2_7 2 rfl rfl)
theorem dX2_transcodeToUTF16_2_171 : decode cX2_transcodeToUTF16_2 171 = .ok (.iload 5, 2) := dk_21 5 (dk_at dksX2_transcodeToUTF16_2_7 5 rfl rfl)
theorem dX2_transcodeToUTF16_2_173 : decode cX2_transcodeToUTF16_2 173 = .ok (.aload_n 3, 1) := dk_45 (dk_at dksX2_transcodeToUTF16_2_7 7 rfl rfl)
theorem dX2_transcodeToUTF16_2_174 : decode cX2_transcodeToUTF16_2 174 = .ok (.arraylength, 1) := dk_190 (dk_at dksX2_transcodeToUTF16_2_7 8 rfl rfl)
theorem dX2_transcodeToUTF16_2_175 : decode cX2_transcodeToUTF16_2 175 = .ok (.iconst 1, 1) := dk_4 (dk_at dksX2_transcodeToUTF16_2_7 9 rfl rfl)
theorem dX2_transcodeToUTF16_2_176 : decode cX2_transcodeToUTF16_2 176 = .ok (.isub, 1) := dk_100 (dk_at dksX2_transcodeToUTF16_2_7 10 rfl rfl)
theorem dX2_transcodeToUTF16_2_177 : decode cX2_transcodeToUTF16_2 177 = .ok (.if_icmp .lt 5, 3) := dk_161 0 5 (dk_at dksX2_transcodeToUTF16_2_7 11 rfl rfl)
theorem dX2_transcodeToUTF16_2_180 : decode cX2_transcodeToUTF16_2 180 = .ok (.iconst (-1), 1) := dk_2 (dk_at dksX2_transcodeToUTF16_2_7 14 rfl rfl)
theorem dX2_transcodeToUTF16_2_181 : decode cX2_transcodeToUTF16_2 181 = .ok (.ireturn, 1) := dk_172 (dk_at dksX2_transcodeToUTF16_2_7 15 rfl rfl)
theorem dX2_transcodeToUTF16_2_182 : decode cX2_transcodeToUTF16_2 182 = .ok (.aload_n 3, 1) := dk_45 (dk_at dksX2_transcodeToUTF16_2_7 16 rfl rfl)
theorem dX2_transcodeToUTF16_2_183 : decode cX2_transcodeToUTF16_2 183 = .ok (.iload 5, 2) := dk_21 5 (dk_at dksX2_transcodeToUTF16_2_7 17 rfl rfl)
theorem dX2_transcodeToUTF16_2_185 : decode cX2_transcodeToUTF16_2 185 = .ok (.iinc 5 1, 3) := dk_132 5 1 (dk_at dksX2_transcodeToUTF16_2_7 19 rfl rfl)
theorem dX2_transcodeToUTF16_2_188 : decode cX2_transcodeToUTF16_2 188 = .ok (.ldc 22, 2) := dk_18 22 (dk_at dksX2_transcodeToUTF16_2_7 22 rfl rfl)
theorem dX2_transcodeToUTF16_2_190 : decode cX2_transcodeToUTF16_2 190 = .ok (.iload 9, 2) := dk_21 9 (dk_at dksX2_transcodeToUTF16_2_8 0 rfl rfl)
theorem dX2_transcodeToUTF16_2_192 : decode cX2_transcodeToUTF16_2 192 = .ok (.bipush 10, 2) := dk_16 10 (dk_at dksX2_transcodeToUTF16_2_8 2 rfl rfl)
theorem dX2_transcodeToUTF16_2_194 : decode cX2_transcodeToUTF16_2 194 = .ok (.iushr, 1) := dk_124 (dk_at dksX2_transcodeToUTF16_2_8 4 rfl rfl)
theorem dX2_transcodeToUTF16_2_195 : decode cX2_transcodeToUTF16_2 195 = .ok (.iadd, 1) := dk_96 (dk_at dksX2_transcodeToUTF16_2_8 5 rfl rfl)
theorem dX2_transcodeToUTF16_2_196 : decode cX2_transcodeToUTF16_2 196 = .ok (.i2c, 1) := dk_146 (dk_at dksX2_transcodeToUTF16_2_8 6 rfl rfl)
theorem dX2_transcodeToUTF16_2_197 : decode cX2_transcodeToUTF16_2 197 = .ok (.castore, 1) := dk_85 (dk_at dksX2_transcodeToUTF16_2_8 7 rfl rfl)
theorem dX2_transcodeToUTF16_2_198 : decode cX2_transcodeToUTF16_2 198 = .ok (.aload_n 3, 1) := dk_45 (dk_at dksX2_transcodeToUTF16_2_8 8 rfl rfl)
theorem dX2_transcodeToUTF16_2_199 : decode cX2_transcodeToUTF16_2 199 = .ok (.iload 5, 2) := dk_21 5 (dk_at dksX2_transcodeToUTF16_2_8 9 rfl rfl)
theorem dX2_transcodeToUTF16_2_201 : decode cX2_transcodeToUTF16_2 201 = .ok (.iinc 5 1, 3) := dk_132 5 1 (dk_at dksX2_transcodeToUTF16_2_8 11 rfl rfl)
theorem dX2_transcodeToUTF16_2_204 : decode cX2_transcodeToUTF16_2 204 = .ok (.ldc 23, 2) := dk_18 23 (dk_at dksX2_transcodeToUTF16_2_8 14 rfl rfl)
theorem dX2_transcodeToUTF16_2_206 : decode cX2_transcodeToUTF16_2 206 = .ok (.iload 9, 2) := dk_21 9 (dk_at dksX2_transcodeToUTF16_2_8 16 rfl rfl)
theorem dX2_transcodeToUTF16_2_208 : decode cX2_transcodeToUTF16_2 208 = .ok (.sipush 1023, 3) := dk_17 3 255 (dk_at dksX2_transcodeToUTF16_2_8 18 rfl rfl)
theorem dX2_transcodeToUTF16_2_211 : decode cX2_transcodeToUTF16_2 211 = .ok (.iand, 1) := dk_126 (dk_at dksX2_transcodeToUTF16_2_8 21 rfl rfl)
theorem dX2_transcodeToUTF16_2_212 : decode cX2_transcodeToUTF16_2 212 = .ok (.ior, 1) := dk_128 (dk_at dksX2_transcodeToUTF16_2_8 22 rfl rfl)
theorem dX2_transcodeToUTF16_2_213 : decode cX2_transcodeToUTF16_2 213 = .ok (.i2c, 1) := dk_146 (dk_at dksX2_transcodeToUTF16_2_8 23 rfl rfl)
theorem dX2_transcodeToUTF16_2_214 : decode cX2_transcodeToUTF16_2 214 = .ok (.castore, 1) := dk_85 (dk_at dksX2_transcodeToUTF16_2_9 0 rfl rfl)
theorem dX2_transcodeToUTF16_2_215 : decode cX2_transcodeToUTF16_2 215 = .ok (.goto (-204), 3) := dk_167 255 52 (dk_at dksX2_transcodeToUTF16_2_9 1 rfl rfl)
theorem dX2_transcodeToUTF16_2_218 : decode cX2_transcodeToUTF16_2 218 = .ok (.iload 5, 2) := dk_21 5 (dk_at dksX2_transcodeToUTF16_2_9 4 rfl rfl)
theorem dX2_transcodeToUTF16_2_220 : decode cX2_transcodeToUTF16_2 220 = .ok (.ireturn, 1) := dk_172 (dk_at dksX2_transcodeToUTF16_2_9 6 rfl rfl)
theorem q13 : (Jvm.Cond.initialized "UTF8") ∈ lw_all := lw_g (lw_at lw_m0 2 rfl) rfl
theorem q113 : (Jvm.Cond.static ({ cls := "UTF8", name := "transcodeToUTF16", desc := "([B[C)I" } : Jvm.MethodName)) ∈ lw_all := lw_g (lw_at lw_m0 102 rfl) rfl
theorem q114 : (Jvm.Cond.code ({ cls := "UTF8", name := "transcodeToUTF16", desc := "([B[C)I" } : Jvm.MethodName) prog_1_method_3_code (2 : Nat) (Option.some Jvm.ClassFile.FieldType.int)) ∈ lw_all := lw_g (lw_at lw_m0 103 rfl) rfl
theorem q115 : (Jvm.Cond.methodLink "UTF8" (7 : Nat) ({ cls := "UTF8", name := "transcodeToUTF16", desc := "([BII[C)I" } : Jvm.MethodName)) ∈ lw_all := lw_g (lw_at lw_m0 104 rfl) rfl
theorem q116 : (Jvm.Cond.static ({ cls := "UTF8", name := "transcodeToUTF16", desc := "([BII[C)I" } : Jvm.MethodName)) ∈ lw_all := lw_g (lw_at lw_m0 105 rfl) rfl
theorem q117 : (Jvm.Cond.code ({ cls := "UTF8", name := "transcodeToUTF16", desc := "([BII[C)I" } : Jvm.MethodName) prog_1_method_4_code (11 : Nat) (Option.some Jvm.ClassFile.FieldType.int)) ∈ lw_all := lw_g (lw_at lw_m0 106 rfl) rfl
theorem q118 : (Jvm.Cond.fieldLink "UTF8" (13 : Nat) "UTF8" "firstUnitTable" "[S") ∈ lw_all := lw_g (lw_at lw_m0 107 rfl) rfl
theorem q119 : (Jvm.Cond.laysStatic "UTF8" "firstUnitTable" "[S") ∈ lw_tbl := lw_at lw_m0 108 rfl
theorem q120 : (Jvm.Cond.fieldLink "UTF8" (17 : Nat) "UTF8" "transitionTable" "[B") ∈ lw_all := lw_g (lw_at lw_m0 109 rfl) rfl
theorem q121 : (Jvm.Cond.laysStatic "UTF8" "transitionTable" "[B") ∈ lw_tbl := lw_at lw_m0 110 rfl
theorem q122 : (Jvm.Cond.constant "UTF8" (21 : Nat) (65535 : Int32)) ∈ lw_all := lw_g (lw_at lw_m0 111 rfl) rfl
theorem q123 : (Jvm.Cond.constant "UTF8" (22 : Nat) (55232 : Int32)) ∈ lw_all := lw_g (lw_at lw_m0 112 rfl) rfl
theorem q124 : (Jvm.Cond.constant "UTF8" (23 : Nat) (56320 : Int32)) ∈ lw_all := lw_g (lw_at lw_m0 113 rfl) rfl
/-! UtfDesk -/
set_option maxRecDepth 100000
def RX1 : String := "UtfDesk"
def TX1 : u_T := fun k => match k with
  | 0 => ("UtfDesk", "text", "[B", true)
  | 1 => ("UtfDesk", "size", "I", false)
  | 2 => ("UtfDesk", "units", "[C", true)
  | _ => ("UtfDesk", "made", "I", false)
def tyX1 : Nat → FieldType := fun k => match k with
  | 0 => .array .byte
  | 1 => .int
  | 2 => .array .char
  | _ => .int
abbrev wsX10 : List Cond := u_ws RX1 TX1 4
theorem nmX1 : ∀ a, a < 4 → ∀ b, b < 4 → a ≠ b → (TX1 a).2.1 ≠ (TX1 b).2.1 := by decide +kernel
theorem tyX1_ok : ∀ k, k < 4 → parseFieldDescriptor (TX1 k).2.2.1 = some (tyX1 k) := by decide +kernel
abbrev cX1_unit : ByteArray := prog_2_method_9_code
def yX1_unit : MethodName := ⟨RX1, "unit", "(I)I"⟩
def dkwX1_unit_1 : List UInt8 := [52, 172]
abbrev dktX1_unit_1 : List UInt8 := dkwX1_unit_1 ++ []
def dkwX1_unit_0 : List UInt8 := [42, 180, 0, 17, 157, 0, 7, 2, 167, 0, 17, 42, 180, 0, 13, 27, 18, 32, 126, 42, 180, 0, 17, 112]
abbrev dktX1_unit_0 : List UInt8 := dkwX1_unit_0 ++ dktX1_unit_1
theorem dksX1_unit_0 : cX1_unit.data.toList.drop 0 = dktX1_unit_0 := by decide +kernel
theorem dksX1_unit_1 : cX1_unit.data.toList.drop 24 = dktX1_unit_1 := dk_seg dksX1_unit_0 24 rfl rfl
theorem dX1_unit_0 : decode cX1_unit 0 = .ok (.aload_n 0, 1) := dk_42 (dk_at dksX1_unit_0 0 rfl rfl)
theorem dX1_unit_1 : decode cX1_unit 1 = .ok (.getfield 17, 3) := dk_180 0 17 (dk_at dksX1_unit_0 1 rfl rfl)
theorem dX1_unit_4 : decode cX1_unit 4 = .ok (.ifCond .gt 7, 3) := dk_157 0 7 (dk_at dksX1_unit_0 4 rfl rfl)
theorem dX1_unit_7 : decode cX1_unit 7 = .ok (.iconst (-1), 1) := dk_2 (dk_at dksX1_unit_0 7 rfl rfl)
theorem dX1_unit_8 : decode cX1_unit 8 = .ok (.goto 17, 3) := dk_167 0 17 (dk_at dksX1_unit_0 8 rfl rfl)
theorem dX1_unit_11 : decode cX1_unit 11 = .ok (.aload_n 0, 1) := dk_42 (dk_at dksX1_unit_0 11 rfl rfl)
theorem dX1_unit_12 : decode cX1_unit 12 = .ok (.getfield 13, 3) := dk_180 0 13 (dk_at dksX1_unit_0 12 rfl rfl)
theorem dX1_unit_15 : decode cX1_unit 15 = .ok (.iload_n 1, 1) := dk_27 (dk_at dksX1_unit_0 15 rfl rfl)
theorem dX1_unit_16 : decode cX1_unit 16 = .ok (.ldc 32, 2) := dk_18 32 (dk_at dksX1_unit_0 16 rfl rfl)
theorem dX1_unit_18 : decode cX1_unit 18 = .ok (.iand, 1) := dk_126 (dk_at dksX1_unit_0 18 rfl rfl)
theorem dX1_unit_19 : decode cX1_unit 19 = .ok (.aload_n 0, 1) := dk_42 (dk_at dksX1_unit_0 19 rfl rfl)
theorem dX1_unit_20 : decode cX1_unit 20 = .ok (.getfield 17, 3) := dk_180 0 17 (dk_at dksX1_unit_0 20 rfl rfl)
theorem dX1_unit_23 : decode cX1_unit 23 = .ok (.irem, 1) := dk_112 (dk_at dksX1_unit_0 23 rfl rfl)
theorem dX1_unit_24 : decode cX1_unit 24 = .ok (.caload, 1) := dk_52 (dk_at dksX1_unit_1 0 rfl rfl)
theorem dX1_unit_25 : decode cX1_unit 25 = .ok (.ireturn, 1) := dk_172 (dk_at dksX1_unit_1 1 rfl rfl)
abbrev cX1_init : ByteArray := prog_2_method_1_code
def yX1_init : MethodName := ⟨RX1, "<init>", "()V"⟩
def dkwX1_init_1 : List UInt8 := [181, 0, 17, 177]
abbrev dktX1_init_1 : List UInt8 := dkwX1_init_1 ++ []
def dkwX1_init_0 : List UInt8 := [42, 183, 0, 1, 42, 17, 0, 128, 188, 8, 181, 0, 7, 42, 17, 0, 160, 188, 5, 181, 0, 13, 42, 2]
abbrev dktX1_init_0 : List UInt8 := dkwX1_init_0 ++ dktX1_init_1
theorem dksX1_init_0 : cX1_init.data.toList.drop 0 = dktX1_init_0 := by decide +kernel
theorem dksX1_init_1 : cX1_init.data.toList.drop 24 = dktX1_init_1 := dk_seg dksX1_init_0 24 rfl rfl
theorem dX1_init_0 : decode cX1_init 0 = .ok (.aload_n 0, 1) := dk_42 (dk_at dksX1_init_0 0 rfl rfl)
theorem dX1_init_1 : decode cX1_init 1 = .ok (.invokespecial 1, 3) := dk_183 0 1 (dk_at dksX1_init_0 1 rfl rfl)
theorem dX1_init_4 : decode cX1_init 4 = .ok (.aload_n 0, 1) := dk_42 (dk_at dksX1_init_0 4 rfl rfl)
theorem dX1_init_5 : decode cX1_init 5 = .ok (.sipush 128, 3) := dk_17 0 128 (dk_at dksX1_init_0 5 rfl rfl)
theorem dX1_init_8 : decode cX1_init 8 = .ok (.newarray .byte, 2) := dk_188_8 (dk_at dksX1_init_0 8 rfl rfl)
theorem dX1_init_10 : decode cX1_init 10 = .ok (.putfield 7, 3) := dk_181 0 7 (dk_at dksX1_init_0 10 rfl rfl)
theorem dX1_init_13 : decode cX1_init 13 = .ok (.aload_n 0, 1) := dk_42 (dk_at dksX1_init_0 13 rfl rfl)
theorem dX1_init_14 : decode cX1_init 14 = .ok (.sipush 160, 3) := dk_17 0 160 (dk_at dksX1_init_0 14 rfl rfl)
theorem dX1_init_17 : decode cX1_init 17 = .ok (.newarray .char, 2) := dk_188_5 (dk_at dksX1_init_0 17 rfl rfl)
theorem dX1_init_19 : decode cX1_init 19 = .ok (.putfield 13, 3) := dk_181 0 13 (dk_at dksX1_init_0 19 rfl rfl)
theorem dX1_init_22 : decode cX1_init 22 = .ok (.aload_n 0, 1) := dk_42 (dk_at dksX1_init_0 22 rfl rfl)
theorem dX1_init_23 : decode cX1_init 23 = .ok (.iconst (-1), 1) := dk_2 (dk_at dksX1_init_0 23 rfl rfl)
theorem dX1_init_24 : decode cX1_init 24 = .ok (.putfield 17, 3) := dk_181 0 17 (dk_at dksX1_init_1 0 rfl rfl)
theorem dX1_init_27 : decode cX1_init 27 = .ok (.return_, 1) := dk_177 (dk_at dksX1_init_1 3 rfl rfl)
abbrev cX1_turn : ByteArray := prog_2_method_8_code
def yX1_turn : MethodName := ⟨RX1, "turn", "(III)I"⟩
def dkwX1_turn_2 : List UInt8 := [21, 6, 25, 5, 21, 6, 52, 85, 132, 6, 1, 167, 255, 232, 42, 180, 0, 17, 172]
abbrev dktX1_turn_2 : List UInt8 := dkwX1_turn_2 ++ []
def dkwX1_turn_1 : List UInt8 := [25, 5, 184, 0, 41, 181, 0, 17, 3, 54, 6, 21, 6, 42, 180, 0, 17, 162, 0, 21, 42, 180, 0, 13]
abbrev dktX1_turn_1 : List UInt8 := dkwX1_turn_1 ++ dktX1_turn_2
def dkwX1_turn_0 : List UInt8 := [42, 27, 28, 182, 0, 37, 58, 4, 29, 18, 32, 126, 17, 0, 161, 112, 188, 5, 58, 5, 42, 25, 4]
abbrev dktX1_turn_0 : List UInt8 := dkwX1_turn_0 ++ dktX1_turn_1
theorem dksX1_turn_0 : cX1_turn.data.toList.drop 0 = dktX1_turn_0 := by decide +kernel
theorem dksX1_turn_1 : cX1_turn.data.toList.drop 23 = dktX1_turn_1 := dk_seg dksX1_turn_0 23 rfl rfl
theorem dksX1_turn_2 : cX1_turn.data.toList.drop 47 = dktX1_turn_2 := dk_seg dksX1_turn_1 24 rfl rfl
theorem dX1_turn_0 : decode cX1_turn 0 = .ok (.aload_n 0, 1) := dk_42 (dk_at dksX1_turn_0 0 rfl rfl)
theorem dX1_turn_1 : decode cX1_turn 1 = .ok (.iload_n 1, 1) := dk_27 (dk_at dksX1_turn_0 1 rfl rfl)
theorem dX1_turn_2 : decode cX1_turn 2 = .ok (.iload_n 2, 1) := dk_28 (dk_at dksX1_turn_0 2 rfl rfl)
theorem dX1_turn_3 : decode cX1_turn 3 = .ok (.invokevirtual 37, 3) := dk_182 0 37 (dk_at dksX1_turn_0 3 rfl rfl)
theorem dX1_turn_6 : decode cX1_turn 6 = .ok (.astore 4, 2) := dk_58 4 (dk_at dksX1_turn_0 6 rfl rfl)
theorem dX1_turn_8 : decode cX1_turn 8 = .ok (.iload_n 3, 1) := dk_29 (dk_at dksX1_turn_0 8 rfl rfl)
theorem dX1_turn_9 : decode cX1_turn 9 = .ok (.ldc 32, 2) := dk_18 32 (dk_at dksX1_turn_0 9 rfl rfl)
theorem dX1_turn_11 : decode cX1_turn 11 = .ok (.iand, 1) := dk_126 (dk_at dksX1_turn_0 11 rfl rfl)
theorem dX1_turn_12 : decode cX1_turn 12 = .ok (.sipush 161, 3) := dk_17 0 161 (dk_at dksX1_turn_0 12 rfl rfl)
theorem dX1_turn_15 : decode cX1_turn 15 = .ok (.irem, 1) := dk_112 (dk_at dksX1_turn_0 15 rfl rfl)
theorem dX1_turn_16 : decode cX1_turn 16 = .ok (.newarray .char, 2) := dk_188_5 (dk_at dksX1_turn_0 16 rfl rfl)
theorem dX1_turn_18 : decode cX1_turn 18 = .ok (.astore 5, 2) := dk_58 5 (dk_at dksX1_turn_0 18 rfl rfl)
theorem dX1_turn_20 : decode cX1_turn 20 = .ok (.aload_n 0, 1) := dk_42 (dk_at dksX1_turn_0 20 rfl rfl)
theorem dX1_turn_21 : decode cX1_turn 21 = .ok (.aload 4, 2) := dk_25 4 (dk_at dksX1_turn_0 21 rfl rfl)
theorem dX1_turn_23 : decode cX1_turn 23 = .ok (.aload 5, 2) := dk_25 5 (dk_at dksX1_turn_1 0 rfl rfl)
theorem dX1_turn_25 : decode cX1_turn 25 = .ok (.invokestatic 41, 3) := dk_184 0 41 (dk_at dksX1_turn_1 2 rfl rfl)
theorem dX1_turn_28 : decode cX1_turn 28 = .ok (.putfield 17, 3) := dk_181 0 17 (dk_at dksX1_turn_1 5 rfl rfl)
theorem dX1_turn_31 : decode cX1_turn 31 = .ok (.iconst 0, 1) := dk_3 (dk_at dksX1_turn_1 8 rfl rfl)
theorem dX1_turn_32 : decode cX1_turn 32 = .ok (.istore 6, 2) := dk_54 6 (dk_at dksX1_turn_1 9 rfl rfl)
theorem dX1_turn_34 : decode cX1_turn 34 = .ok (.iload 6, 2) := dk_21 6 (dk_at dksX1_turn_1 11 rfl rfl)
theorem dX1_turn_36 : decode cX1_turn 36 = .ok (.aload_n 0, 1) := dk_42 (dk_at dksX1_turn_1 13 rfl rfl)
theorem dX1_turn_37 : decode cX1_turn 37 = .ok (.getfield 17, 3) := dk_180 0 17 (dk_at dksX1_turn_1 14 rfl rfl)
theorem dX1_turn_40 : decode cX1_turn 40 = .ok (.if_icmp .ge 21, 3) := dk_162 0 21 (dk_at dksX1_turn_1 17 rfl rfl)
theorem dX1_turn_43 : decode cX1_turn 43 = .ok (.aload_n 0, 1) := dk_42 (dk_at dksX1_turn_1 20 rfl rfl)
theorem dX1_turn_44 : decode cX1_turn 44 = .ok (.getfield 13, 3) := dk_180 0 13 (dk_at dksX1_turn_1 21 rfl rfl)
theorem dX1_turn_47 : decode cX1_turn 47 = .ok (.iload 6, 2) := dk_21 6 (dk_at dksX1_turn_2 0 rfl rfl)
theorem dX1_turn_49 : decode cX1_turn 49 = .ok (.aload 5, 2) := dk_25 5 (dk_at dksX1_turn_2 2 rfl rfl)
theorem dX1_turn_51 : decode cX1_turn 51 = .ok (.iload 6, 2) := dk_21 6 (dk_at dksX1_turn_2 4 rfl rfl)
theorem dX1_turn_53 : decode cX1_turn 53 = .ok (.caload, 1) := dk_52 (dk_at dksX1_turn_2 6 rfl rfl)
theorem dX1_turn_54 : decode cX1_turn 54 = .ok (.castore, 1) := dk_85 (dk_at dksX1_turn_2 7 rfl rfl)
theorem dX1_turn_55 : decode cX1_turn 55 = .ok (.iinc 6 1, 3) := dk_132 6 1 (dk_at dksX1_turn_2 8 rfl rfl)
theorem dX1_turn_58 : decode cX1_turn 58 = .ok (.goto (-24), 3) := dk_167 255 232 (dk_at dksX1_turn_2 11 rfl rfl)
theorem dX1_turn_61 : decode cX1_turn 61 = .ok (.aload_n 0, 1) := dk_42 (dk_at dksX1_turn_2 14 rfl rfl)
theorem dX1_turn_62 : decode cX1_turn 62 = .ok (.getfield 17, 3) := dk_180 0 17 (dk_at dksX1_turn_2 15 rfl rfl)
theorem dX1_turn_65 : decode cX1_turn 65 = .ok (.ireturn, 1) := dk_172 (dk_at dksX1_turn_2 18 rfl rfl)
abbrev cX1_part : ByteArray := prog_2_method_7_code
def yX1_part : MethodName := ⟨RX1, "part", "(II)[B"⟩
def dkwX1_part_2 : List UInt8 := [167, 255, 232, 25, 5, 176]
abbrev dktX1_part_2 : List UInt8 := dkwX1_part_2 ++ []
def dkwX1_part_1 : List UInt8 := [21, 6, 21, 4, 162, 0, 23, 25, 5, 21, 6, 42, 180, 0, 7, 29, 21, 6, 96, 51, 84, 132, 6, 1]
abbrev dktX1_part_1 : List UInt8 := dkwX1_part_1 ++ dktX1_part_2
def dkwX1_part_0 : List UInt8 := [42, 27, 182, 0, 28, 62, 42, 29, 28, 182, 0, 33, 54, 4, 21, 4, 188, 8, 58, 5, 3, 54, 6]
abbrev dktX1_part_0 : List UInt8 := dkwX1_part_0 ++ dktX1_part_1
theorem dksX1_part_0 : cX1_part.data.toList.drop 0 = dktX1_part_0 := by decide +kernel
theorem dksX1_part_1 : cX1_part.data.toList.drop 23 = dktX1_part_1 := dk_seg dksX1_part_0 23 rfl rfl
theorem dksX1_part_2 : cX1_part.data.toList.drop 47 = dktX1_part_2 := dk_seg dksX1_part_1 24 rfl rfl
theorem dX1_part_0 : decode cX1_part 0 = .ok (.aload_n 0, 1) := dk_42 (dk_at dksX1_part_0 0 rfl rfl)
theorem dX1_part_1 : decode cX1_part 1 = .ok (.iload_n 1, 1) := dk_27 (dk_at dksX1_part_0 1 rfl rfl)
theorem dX1_part_2 : decode cX1_part 2 = .ok (.invokevirtual 28, 3) := dk_182 0 28 (dk_at dksX1_part_0 2 rfl rfl)
theorem dX1_part_5 : decode cX1_part 5 = .ok (.istore_n 3, 1) := dk_62 (dk_at dksX1_part_0 5 rfl rfl)
theorem dX1_part_6 : decode cX1_part 6 = .ok (.aload_n 0, 1) := dk_42 (dk_at dksX1_part_0 6 rfl rfl)
theorem dX1_part_7 : decode cX1_part 7 = .ok (.iload_n 3, 1) := dk_29 (dk_at dksX1_part_0 7 rfl rfl)
theorem dX1_part_8 : decode cX1_part 8 = .ok (.iload_n 2, 1) := dk_28 (dk_at dksX1_part_0 8 rfl rfl)
theorem dX1_part_9 : decode cX1_part 9 = .ok (.invokevirtual 33, 3) := dk_182 0 33 (dk_at dksX1_part_0 9 rfl rfl)
theorem dX1_part_12 : decode cX1_part 12 = .ok (.istore 4, 2) := dk_54 4 (dk_at dksX1_part_0 12 rfl rfl)
theorem dX1_part_14 : decode cX1_part 14 = .ok (.iload 4, 2) := dk_21 4 (dk_at dksX1_part_0 14 rfl rfl)
theorem dX1_part_16 : decode cX1_part 16 = .ok (.newarray .byte, 2) := dk_188_8 (dk_at dksX1_part_0 16 rfl rfl)
theorem dX1_part_18 : decode cX1_part 18 = .ok (.astore 5, 2) := dk_58 5 (dk_at dksX1_part_0 18 rfl rfl)
theorem dX1_part_20 : decode cX1_part 20 = .ok (.iconst 0, 1) := dk_3 (dk_at dksX1_part_0 20 rfl rfl)
theorem dX1_part_21 : decode cX1_part 21 = .ok (.istore 6, 2) := dk_54 6 (dk_at dksX1_part_0 21 rfl rfl)
theorem dX1_part_23 : decode cX1_part 23 = .ok (.iload 6, 2) := dk_21 6 (dk_at dksX1_part_1 0 rfl rfl)
theorem dX1_part_25 : decode cX1_part 25 = .ok (.iload 4, 2) := dk_21 4 (dk_at dksX1_part_1 2 rfl rfl)
theorem dX1_part_27 : decode cX1_part 27 = .ok (.if_icmp .ge 23, 3) := dk_162 0 23 (dk_at dksX1_part_1 4 rfl rfl)
theorem dX1_part_30 : decode cX1_part 30 = .ok (.aload 5, 2) := dk_25 5 (dk_at dksX1_part_1 7 rfl rfl)
theorem dX1_part_32 : decode cX1_part 32 = .ok (.iload 6, 2) := dk_21 6 (dk_at dksX1_part_1 9 rfl rfl)
theorem dX1_part_34 : decode cX1_part 34 = .ok (.aload_n 0, 1) := dk_42 (dk_at dksX1_part_1 11 rfl rfl)
theorem dX1_part_35 : decode cX1_part 35 = .ok (.getfield 7, 3) := dk_180 0 7 (dk_at dksX1_part_1 12 rfl rfl)
theorem dX1_part_38 : decode cX1_part 38 = .ok (.iload_n 3, 1) := dk_29 (dk_at dksX1_part_1 15 rfl rfl)
theorem dX1_part_39 : decode cX1_part 39 = .ok (.iload 6, 2) := dk_21 6 (dk_at dksX1_part_1 16 rfl rfl)
theorem dX1_part_41 : decode cX1_part 41 = .ok (.iadd, 1) := dk_96 (dk_at dksX1_part_1 18 rfl rfl)
theorem dX1_part_42 : decode cX1_part 42 = .ok (.baload, 1) := dk_51 (dk_at dksX1_part_1 19 rfl rfl)
theorem dX1_part_43 : decode cX1_part 43 = .ok (.bastore, 1) := dk_84 (dk_at dksX1_part_1 20 rfl rfl)
theorem dX1_part_44 : decode cX1_part 44 = .ok (.iinc 6 1, 3) := dk_132 6 1 (dk_at dksX1_part_1 21 rfl rfl)
theorem dX1_part_47 : decode cX1_part 47 = .ok (.goto (-24), 3) := dk_167 255 232 (dk_at dksX1_part_2 0 rfl rfl)
theorem dX1_part_50 : decode cX1_part 50 = .ok (.aload 5, 2) := dk_25 5 (dk_at dksX1_part_2 3 rfl rfl)
theorem dX1_part_52 : decode cX1_part 52 = .ok (.areturn, 1) := dk_176 (dk_at dksX1_part_2 5 rfl rfl)
abbrev cX1_from : ByteArray := prog_2_method_5_code
def yX1_from : MethodName := ⟨RX1, "from", "(I)I"⟩
def dkwX1_from_0 : List UInt8 := [27, 18, 32, 126, 42, 180, 0, 21, 4, 96, 112, 172]
abbrev dktX1_from_0 : List UInt8 := dkwX1_from_0 ++ []
theorem dksX1_from_0 : cX1_from.data.toList.drop 0 = dktX1_from_0 := by decide +kernel
theorem dX1_from_0 : decode cX1_from 0 = .ok (.iload_n 1, 1) := dk_27 (dk_at dksX1_from_0 0 rfl rfl)
theorem dX1_from_1 : decode cX1_from 1 = .ok (.ldc 32, 2) := dk_18 32 (dk_at dksX1_from_0 1 rfl rfl)
theorem dX1_from_3 : decode cX1_from 3 = .ok (.iand, 1) := dk_126 (dk_at dksX1_from_0 3 rfl rfl)
theorem dX1_from_4 : decode cX1_from 4 = .ok (.aload_n 0, 1) := dk_42 (dk_at dksX1_from_0 4 rfl rfl)
theorem dX1_from_5 : decode cX1_from 5 = .ok (.getfield 21, 3) := dk_180 0 21 (dk_at dksX1_from_0 5 rfl rfl)
theorem dX1_from_8 : decode cX1_from 8 = .ok (.iconst 1, 1) := dk_4 (dk_at dksX1_from_0 8 rfl rfl)
theorem dX1_from_9 : decode cX1_from 9 = .ok (.iadd, 1) := dk_96 (dk_at dksX1_from_0 9 rfl rfl)
theorem dX1_from_10 : decode cX1_from 10 = .ok (.irem, 1) := dk_112 (dk_at dksX1_from_0 10 rfl rfl)
theorem dX1_from_11 : decode cX1_from 11 = .ok (.ireturn, 1) := dk_172 (dk_at dksX1_from_0 11 rfl rfl)
abbrev cX1_count : ByteArray := prog_2_method_6_code
def yX1_count : MethodName := ⟨RX1, "count", "(II)I"⟩
def dkwX1_count_0 : List UInt8 := [28, 18, 32, 126, 42, 180, 0, 21, 27, 100, 4, 96, 112, 172]
abbrev dktX1_count_0 : List UInt8 := dkwX1_count_0 ++ []
theorem dksX1_count_0 : cX1_count.data.toList.drop 0 = dktX1_count_0 := by decide +kernel
theorem dX1_count_0 : decode cX1_count 0 = .ok (.iload_n 2, 1) := dk_28 (dk_at dksX1_count_0 0 rfl rfl)
theorem dX1_count_1 : decode cX1_count 1 = .ok (.ldc 32, 2) := dk_18 32 (dk_at dksX1_count_0 1 rfl rfl)
theorem dX1_count_3 : decode cX1_count 3 = .ok (.iand, 1) := dk_126 (dk_at dksX1_count_0 3 rfl rfl)
theorem dX1_count_4 : decode cX1_count 4 = .ok (.aload_n 0, 1) := dk_42 (dk_at dksX1_count_0 4 rfl rfl)
theorem dX1_count_5 : decode cX1_count 5 = .ok (.getfield 21, 3) := dk_180 0 21 (dk_at dksX1_count_0 5 rfl rfl)
theorem dX1_count_8 : decode cX1_count 8 = .ok (.iload_n 1, 1) := dk_27 (dk_at dksX1_count_0 8 rfl rfl)
theorem dX1_count_9 : decode cX1_count 9 = .ok (.isub, 1) := dk_100 (dk_at dksX1_count_0 9 rfl rfl)
theorem dX1_count_10 : decode cX1_count 10 = .ok (.iconst 1, 1) := dk_4 (dk_at dksX1_count_0 10 rfl rfl)
theorem dX1_count_11 : decode cX1_count 11 = .ok (.iadd, 1) := dk_96 (dk_at dksX1_count_0 11 rfl rfl)
theorem dX1_count_12 : decode cX1_count 12 = .ok (.irem, 1) := dk_112 (dk_at dksX1_count_0 12 rfl rfl)
theorem dX1_count_13 : decode cX1_count 13 = .ok (.ireturn, 1) := dk_172 (dk_at dksX1_count_0 13 rfl rfl)
abbrev cX1_put : ByteArray := prog_2_method_2_code
def yX1_put : MethodName := ⟨RX1, "put", "(IIII)Z"⟩
def dkwX1_put_3 : List UInt8 := [96, 21, 4, 184, 0, 24, 42, 89, 180, 0, 21, 16, 16, 96, 181, 0, 21, 4, 172]
abbrev dktX1_put_3 : List UInt8 := dkwX1_put_3 ++ []
def dkwX1_put_2 : List UInt8 := [180, 0, 7, 42, 180, 0, 21, 16, 8, 96, 29, 184, 0, 24, 42, 180, 0, 7, 42, 180, 0, 21, 16, 12]
abbrev dktX1_put_2 : List UInt8 := dkwX1_put_2 ++ dktX1_put_3
def dkwX1_put_1 : List UInt8 := [180, 0, 21, 27, 184, 0, 24, 42, 180, 0, 7, 42, 180, 0, 21, 7, 96, 28, 184, 0, 24, 42]
abbrev dktX1_put_1 : List UInt8 := dkwX1_put_1 ++ dktX1_put_2
def dkwX1_put_0 : List UInt8 := [42, 180, 0, 21, 42, 180, 0, 7, 190, 16, 16, 100, 164, 0, 5, 3, 172, 42, 180, 0, 7, 42]
abbrev dktX1_put_0 : List UInt8 := dkwX1_put_0 ++ dktX1_put_1
theorem dksX1_put_0 : cX1_put.data.toList.drop 0 = dktX1_put_0 := by decide +kernel
theorem dksX1_put_1 : cX1_put.data.toList.drop 22 = dktX1_put_1 := dk_seg dksX1_put_0 22 rfl rfl
theorem dksX1_put_2 : cX1_put.data.toList.drop 44 = dktX1_put_2 := dk_seg dksX1_put_1 22 rfl rfl
theorem dksX1_put_3 : cX1_put.data.toList.drop 68 = dktX1_put_3 := dk_seg dksX1_put_2 24 rfl rfl
theorem dX1_put_0 : decode cX1_put 0 = .ok (.aload_n 0, 1) := dk_42 (dk_at dksX1_put_0 0 rfl rfl)
theorem dX1_put_1 : decode cX1_put 1 = .ok (.getfield 21, 3) := dk_180 0 21 (dk_at dksX1_put_0 1 rfl rfl)
theorem dX1_put_4 : decode cX1_put 4 = .ok (.aload_n 0, 1) := dk_42 (dk_at dksX1_put_0 4 rfl rfl)
theorem dX1_put_5 : decode cX1_put 5 = .ok (.getfield 7, 3) := dk_180 0 7 (dk_at dksX1_put_0 5 rfl rfl)
theorem dX1_put_8 : decode cX1_put 8 = .ok (.arraylength, 1) := dk_190 (dk_at dksX1_put_0 8 rfl rfl)
theorem dX1_put_9 : decode cX1_put 9 = .ok (.bipush 16, 2) := dk_16 16 (dk_at dksX1_put_0 9 rfl rfl)
theorem dX1_put_11 : decode cX1_put 11 = .ok (.isub, 1) := dk_100 (dk_at dksX1_put_0 11 rfl rfl)
theorem dX1_put_12 : decode cX1_put 12 = .ok (.if_icmp .le 5, 3) := dk_164 0 5 (dk_at dksX1_put_0 12 rfl rfl)
theorem dX1_put_15 : decode cX1_put 15 = .ok (.iconst 0, 1) := dk_3 (dk_at dksX1_put_0 15 rfl rfl)
theorem dX1_put_16 : decode cX1_put 16 = .ok (.ireturn, 1) := dk_172 (dk_at dksX1_put_0 16 rfl rfl)
theorem dX1_put_17 : decode cX1_put 17 = .ok (.aload_n 0, 1) := dk_42 (dk_at dksX1_put_0 17 rfl rfl)
theorem dX1_put_18 : decode cX1_put 18 = .ok (.getfield 7, 3) := dk_180 0 7 (dk_at dksX1_put_0 18 rfl rfl)
theorem dX1_put_21 : decode cX1_put 21 = .ok (.aload_n 0, 1) := dk_42 (dk_at dksX1_put_0 21 rfl rfl)
theorem dX1_put_22 : decode cX1_put 22 = .ok (.getfield 21, 3) := dk_180 0 21 (dk_at dksX1_put_1 0 rfl rfl)
theorem dX1_put_25 : decode cX1_put 25 = .ok (.iload_n 1, 1) := dk_27 (dk_at dksX1_put_1 3 rfl rfl)
theorem dX1_put_26 : decode cX1_put 26 = .ok (.invokestatic 24, 3) := dk_184 0 24 (dk_at dksX1_put_1 4 rfl rfl)
theorem dX1_put_29 : decode cX1_put 29 = .ok (.aload_n 0, 1) := dk_42 (dk_at dksX1_put_1 7 rfl rfl)
theorem dX1_put_30 : decode cX1_put 30 = .ok (.getfield 7, 3) := dk_180 0 7 (dk_at dksX1_put_1 8 rfl rfl)
theorem dX1_put_33 : decode cX1_put 33 = .ok (.aload_n 0, 1) := dk_42 (dk_at dksX1_put_1 11 rfl rfl)
theorem dX1_put_34 : decode cX1_put 34 = .ok (.getfield 21, 3) := dk_180 0 21 (dk_at dksX1_put_1 12 rfl rfl)
theorem dX1_put_37 : decode cX1_put 37 = .ok (.iconst 4, 1) := dk_7 (dk_at dksX1_put_1 15 rfl rfl)
theorem dX1_put_38 : decode cX1_put 38 = .ok (.iadd, 1) := dk_96 (dk_at dksX1_put_1 16 rfl rfl)
theorem dX1_put_39 : decode cX1_put 39 = .ok (.iload_n 2, 1) := dk_28 (dk_at dksX1_put_1 17 rfl rfl)
theorem dX1_put_40 : decode cX1_put 40 = .ok (.invokestatic 24, 3) := dk_184 0 24 (dk_at dksX1_put_1 18 rfl rfl)
theorem dX1_put_43 : decode cX1_put 43 = .ok (.aload_n 0, 1) := dk_42 (dk_at dksX1_put_1 21 rfl rfl)
theorem dX1_put_44 : decode cX1_put 44 = .ok (.getfield 7, 3) := dk_180 0 7 (dk_at dksX1_put_2 0 rfl rfl)
theorem dX1_put_47 : decode cX1_put 47 = .ok (.aload_n 0, 1) := dk_42 (dk_at dksX1_put_2 3 rfl rfl)
theorem dX1_put_48 : decode cX1_put 48 = .ok (.getfield 21, 3) := dk_180 0 21 (dk_at dksX1_put_2 4 rfl rfl)
theorem dX1_put_51 : decode cX1_put 51 = .ok (.bipush 8, 2) := dk_16 8 (dk_at dksX1_put_2 7 rfl rfl)
theorem dX1_put_53 : decode cX1_put 53 = .ok (.iadd, 1) := dk_96 (dk_at dksX1_put_2 9 rfl rfl)
theorem dX1_put_54 : decode cX1_put 54 = .ok (.iload_n 3, 1) := dk_29 (dk_at dksX1_put_2 10 rfl rfl)
theorem dX1_put_55 : decode cX1_put 55 = .ok (.invokestatic 24, 3) := dk_184 0 24 (dk_at dksX1_put_2 11 rfl rfl)
theorem dX1_put_58 : decode cX1_put 58 = .ok (.aload_n 0, 1) := dk_42 (dk_at dksX1_put_2 14 rfl rfl)
theorem dX1_put_59 : decode cX1_put 59 = .ok (.getfield 7, 3) := dk_180 0 7 (dk_at dksX1_put_2 15 rfl rfl)
theorem dX1_put_62 : decode cX1_put 62 = .ok (.aload_n 0, 1) := dk_42 (dk_at dksX1_put_2 18 rfl rfl)
theorem dX1_put_63 : decode cX1_put 63 = .ok (.getfield 21, 3) := dk_180 0 21 (dk_at dksX1_put_2 19 rfl rfl)
theorem dX1_put_66 : decode cX1_put 66 = .ok (.bipush 12, 2) := dk_16 12 (dk_at dksX1_put_2 22 rfl rfl)
theorem dX1_put_68 : decode cX1_put 68 = .ok (.iadd, 1) := dk_96 (dk_at dksX1_put_3 0 rfl rfl)
theorem dX1_put_69 : decode cX1_put 69 = .ok (.iload 4, 2) := dk_21 4 (dk_at dksX1_put_3 1 rfl rfl)
theorem dX1_put_71 : decode cX1_put 71 = .ok (.invokestatic 24, 3) := dk_184 0 24 (dk_at dksX1_put_3 3 rfl rfl)
theorem dX1_put_74 : decode cX1_put 74 = .ok (.aload_n 0, 1) := dk_42 (dk_at dksX1_put_3 6 rfl rfl)
theorem dX1_put_75 : decode cX1_put 75 = .ok (.dup, 1) := dk_89 (dk_at dksX1_put_3 7 rfl rfl)
theorem dX1_put_76 : decode cX1_put 76 = .ok (.getfield 21, 3) := dk_180 0 21 (dk_at dksX1_put_3 8 rfl rfl)
theorem dX1_put_79 : decode cX1_put 79 = .ok (.bipush 16, 2) := dk_16 16 (dk_at dksX1_put_3 11 rfl rfl)
theorem dX1_put_81 : decode cX1_put 81 = .ok (.iadd, 1) := dk_96 (dk_at dksX1_put_3 13 rfl rfl)
theorem dX1_put_82 : decode cX1_put 82 = .ok (.putfield 21, 3) := dk_181 0 21 (dk_at dksX1_put_3 14 rfl rfl)
theorem dX1_put_85 : decode cX1_put 85 = .ok (.iconst 1, 1) := dk_4 (dk_at dksX1_put_3 17 rfl rfl)
theorem dX1_put_86 : decode cX1_put 86 = .ok (.ireturn, 1) := dk_172 (dk_at dksX1_put_3 18 rfl rfl)
abbrev cX1_word : ByteArray := prog_2_method_3_code
def yX1_word : MethodName := ⟨RX1, "word", "([BII)V"⟩
def dkwX1_word_1 : List UInt8 := [16, 8, 122, 145, 84, 42, 27, 6, 96, 28, 145, 84, 177]
abbrev dktX1_word_1 : List UInt8 := dkwX1_word_1 ++ []
def dkwX1_word_0 : List UInt8 := [42, 27, 28, 16, 24, 122, 145, 84, 42, 27, 4, 96, 28, 16, 16, 122, 145, 84, 42, 27, 5, 96, 28]
abbrev dktX1_word_0 : List UInt8 := dkwX1_word_0 ++ dktX1_word_1
theorem dksX1_word_0 : cX1_word.data.toList.drop 0 = dktX1_word_0 := by decide +kernel
theorem dksX1_word_1 : cX1_word.data.toList.drop 23 = dktX1_word_1 := dk_seg dksX1_word_0 23 rfl rfl
theorem dX1_word_0 : decode cX1_word 0 = .ok (.aload_n 0, 1) := dk_42 (dk_at dksX1_word_0 0 rfl rfl)
theorem dX1_word_1 : decode cX1_word 1 = .ok (.iload_n 1, 1) := dk_27 (dk_at dksX1_word_0 1 rfl rfl)
theorem dX1_word_2 : decode cX1_word 2 = .ok (.iload_n 2, 1) := dk_28 (dk_at dksX1_word_0 2 rfl rfl)
theorem dX1_word_3 : decode cX1_word 3 = .ok (.bipush 24, 2) := dk_16 24 (dk_at dksX1_word_0 3 rfl rfl)
theorem dX1_word_5 : decode cX1_word 5 = .ok (.ishr, 1) := dk_122 (dk_at dksX1_word_0 5 rfl rfl)
theorem dX1_word_6 : decode cX1_word 6 = .ok (.i2b, 1) := dk_145 (dk_at dksX1_word_0 6 rfl rfl)
theorem dX1_word_7 : decode cX1_word 7 = .ok (.bastore, 1) := dk_84 (dk_at dksX1_word_0 7 rfl rfl)
theorem dX1_word_8 : decode cX1_word 8 = .ok (.aload_n 0, 1) := dk_42 (dk_at dksX1_word_0 8 rfl rfl)
theorem dX1_word_9 : decode cX1_word 9 = .ok (.iload_n 1, 1) := dk_27 (dk_at dksX1_word_0 9 rfl rfl)
theorem dX1_word_10 : decode cX1_word 10 = .ok (.iconst 1, 1) := dk_4 (dk_at dksX1_word_0 10 rfl rfl)
theorem dX1_word_11 : decode cX1_word 11 = .ok (.iadd, 1) := dk_96 (dk_at dksX1_word_0 11 rfl rfl)
theorem dX1_word_12 : decode cX1_word 12 = .ok (.iload_n 2, 1) := dk_28 (dk_at dksX1_word_0 12 rfl rfl)
theorem dX1_word_13 : decode cX1_word 13 = .ok (.bipush 16, 2) := dk_16 16 (dk_at dksX1_word_0 13 rfl rfl)
theorem dX1_word_15 : decode cX1_word 15 = .ok (.ishr, 1) := dk_122 (dk_at dksX1_word_0 15 rfl rfl)
theorem dX1_word_16 : decode cX1_word 16 = .ok (.i2b, 1) := dk_145 (dk_at dksX1_word_0 16 rfl rfl)
theorem dX1_word_17 : decode cX1_word 17 = .ok (.bastore, 1) := dk_84 (dk_at dksX1_word_0 17 rfl rfl)
theorem dX1_word_18 : decode cX1_word 18 = .ok (.aload_n 0, 1) := dk_42 (dk_at dksX1_word_0 18 rfl rfl)
theorem dX1_word_19 : decode cX1_word 19 = .ok (.iload_n 1, 1) := dk_27 (dk_at dksX1_word_0 19 rfl rfl)
theorem dX1_word_20 : decode cX1_word 20 = .ok (.iconst 2, 1) := dk_5 (dk_at dksX1_word_0 20 rfl rfl)
theorem dX1_word_21 : decode cX1_word 21 = .ok (.iadd, 1) := dk_96 (dk_at dksX1_word_0 21 rfl rfl)
theorem dX1_word_22 : decode cX1_word 22 = .ok (.iload_n 2, 1) := dk_28 (dk_at dksX1_word_0 22 rfl rfl)
theorem dX1_word_23 : decode cX1_word 23 = .ok (.bipush 8, 2) := dk_16 8 (dk_at dksX1_word_1 0 rfl rfl)
theorem dX1_word_25 : decode cX1_word 25 = .ok (.ishr, 1) := dk_122 (dk_at dksX1_word_1 2 rfl rfl)
theorem dX1_word_26 : decode cX1_word 26 = .ok (.i2b, 1) := dk_145 (dk_at dksX1_word_1 3 rfl rfl)
theorem dX1_word_27 : decode cX1_word 27 = .ok (.bastore, 1) := dk_84 (dk_at dksX1_word_1 4 rfl rfl)
theorem dX1_word_28 : decode cX1_word 28 = .ok (.aload_n 0, 1) := dk_42 (dk_at dksX1_word_1 5 rfl rfl)
theorem dX1_word_29 : decode cX1_word 29 = .ok (.iload_n 1, 1) := dk_27 (dk_at dksX1_word_1 6 rfl rfl)
theorem dX1_word_30 : decode cX1_word 30 = .ok (.iconst 3, 1) := dk_6 (dk_at dksX1_word_1 7 rfl rfl)
theorem dX1_word_31 : decode cX1_word 31 = .ok (.iadd, 1) := dk_96 (dk_at dksX1_word_1 8 rfl rfl)
theorem dX1_word_32 : decode cX1_word 32 = .ok (.iload_n 2, 1) := dk_28 (dk_at dksX1_word_1 9 rfl rfl)
theorem dX1_word_33 : decode cX1_word 33 = .ok (.i2b, 1) := dk_145 (dk_at dksX1_word_1 10 rfl rfl)
theorem dX1_word_34 : decode cX1_word 34 = .ok (.bastore, 1) := dk_84 (dk_at dksX1_word_1 11 rfl rfl)
theorem dX1_word_35 : decode cX1_word 35 = .ok (.return_, 1) := dk_177 (dk_at dksX1_word_1 12 rfl rfl)
abbrev cX1_letter : ByteArray := prog_2_method_11_code
def yX1_letter : MethodName := ⟨RX1, "letter", "(II)I"⟩
def dkwX1_letter_7 : List UInt8 := [17, 0, 240, 29, 128, 145, 84, 21, 4, 172]
abbrev dktX1_letter_7 : List UInt8 := dkwX1_letter_7 ++ []
def dkwX1_letter_6 : List UInt8 := [17, 0, 192, 29, 128, 167, 0, 22, 21, 4, 6, 160, 0, 11, 17, 0, 224, 29, 128, 167, 0, 8]
abbrev dktX1_letter_6 : List UInt8 := dkwX1_letter_6 ++ dktX1_letter_7
def dkwX1_letter_5 : List UInt8 := [16, 6, 122, 62, 132, 6, 255, 167, 255, 224, 42, 180, 0, 7, 21, 5, 21, 4, 5, 160, 0, 11]
abbrev dktX1_letter_5 : List UInt8 := dkwX1_letter_5 ++ dktX1_letter_6
def dkwX1_letter_4 : List UInt8 := [158, 0, 33, 42, 180, 0, 7, 21, 5, 21, 6, 96, 17, 0, 128, 29, 16, 63, 126, 128, 145, 84, 29]
abbrev dktX1_letter_4 : List UInt8 := dkwX1_letter_4 ++ dktX1_letter_5
def dkwX1_letter_3 : List UInt8 := [160, 0, 15, 42, 180, 0, 7, 21, 5, 29, 145, 84, 167, 0, 85, 21, 4, 4, 100, 54, 6, 21, 6]
abbrev dktX1_letter_3 : List UInt8 := dkwX1_letter_3 ++ dktX1_letter_4
def dkwX1_letter_2 : List UInt8 := [182, 0, 28, 54, 5, 21, 5, 21, 4, 96, 42, 180, 0, 21, 164, 0, 5, 2, 172, 21, 4, 4]
abbrev dktX1_letter_2 : List UInt8 := dkwX1_letter_2 ++ dktX1_letter_3
def dkwX1_letter_1 : List UInt8 := [162, 0, 7, 5, 167, 0, 14, 29, 18, 48, 162, 0, 7, 6, 167, 0, 4, 7, 54, 4, 42, 27]
abbrev dktX1_letter_1 : List UInt8 := dkwX1_letter_1 ++ dktX1_letter_2
def dkwX1_letter_0 : List UInt8 := [28, 18, 32, 126, 18, 47, 112, 62, 29, 17, 0, 128, 162, 0, 7, 4, 167, 0, 25, 29, 17, 8, 0]
abbrev dktX1_letter_0 : List UInt8 := dkwX1_letter_0 ++ dktX1_letter_1
theorem dksX1_letter_0 : cX1_letter.data.toList.drop 0 = dktX1_letter_0 := by decide +kernel
theorem dksX1_letter_1 : cX1_letter.data.toList.drop 23 = dktX1_letter_1 := dk_seg dksX1_letter_0 23 rfl rfl
theorem dksX1_letter_2 : cX1_letter.data.toList.drop 45 = dktX1_letter_2 := dk_seg dksX1_letter_1 22 rfl rfl
theorem dksX1_letter_3 : cX1_letter.data.toList.drop 67 = dktX1_letter_3 := dk_seg dksX1_letter_2 22 rfl rfl
theorem dksX1_letter_4 : cX1_letter.data.toList.drop 90 = dktX1_letter_4 := dk_seg dksX1_letter_3 23 rfl rfl
theorem dksX1_letter_5 : cX1_letter.data.toList.drop 113 = dktX1_letter_5 := dk_seg dksX1_letter_4 23 rfl rfl
theorem dksX1_letter_6 : cX1_letter.data.toList.drop 135 = dktX1_letter_6 := dk_seg dksX1_letter_5 22 rfl rfl
theorem dksX1_letter_7 : cX1_letter.data.toList.drop 157 = dktX1_letter_7 := dk_seg dksX1_letter_6 22 rfl rfl
theorem dX1_letter_0 : decode cX1_letter 0 = .ok (.iload_n 2, 1) := dk_28 (dk_at dksX1_letter_0 0 rfl rfl)
theorem dX1_letter_1 : decode cX1_letter 1 = .ok (.ldc 32, 2) := dk_18 32 (dk_at dksX1_letter_0 1 rfl rfl)
theorem dX1_letter_3 : decode cX1_letter 3 = .ok (.iand, 1) := dk_126 (dk_at dksX1_letter_0 3 rfl rfl)
theorem dX1_letter_4 : decode cX1_letter 4 = .ok (.ldc 47, 2) := dk_18 47 (dk_at dksX1_letter_0 4 rfl rfl)
theorem dX1_letter_6 : decode cX1_letter 6 = .ok (.irem, 1) := dk_112 (dk_at dksX1_letter_0 6 rfl rfl)
theorem dX1_letter_7 : decode cX1_letter 7 = .ok (.istore_n 3, 1) := dk_62 (dk_at dksX1_letter_0 7 rfl rfl)
theorem dX1_letter_8 : decode cX1_letter 8 = .ok (.iload_n 3, 1) := dk_29 (dk_at dksX1_letter_0 8 rfl rfl)
theorem dX1_letter_9 : decode cX1_letter 9 = .ok (.sipush 128, 3) := dk_17 0 128 (dk_at dksX1_letter_0 9 rfl rfl)
theorem dX1_letter_12 : decode cX1_letter 12 = .ok (.if_icmp .ge 7, 3) := dk_162 0 7 (dk_at dksX1_letter_0 12 rfl rfl)
theorem dX1_letter_15 : decode cX1_letter 15 = .ok (.iconst 1, 1) := dk_4 (dk_at dksX1_letter_0 15 rfl rfl)
theorem dX1_letter_16 : decode cX1_letter 16 = .ok (.goto 25, 3) := dk_167 0 25 (dk_at dksX1_letter_0 16 rfl rfl)
theorem dX1_letter_19 : decode cX1_letter 19 = .ok (.iload_n 3, 1) := dk_29 (dk_at dksX1_letter_0 19 rfl rfl)
theorem dX1_letter_20 : decode cX1_letter 20 = .ok (.sipush 2048, 3) := dk_17 8 0 (dk_at dksX1_letter_0 20 rfl rfl)
theorem dX1_letter_23 : decode cX1_letter 23 = .ok (.if_icmp .ge 7, 3) := dk_162 0 7 (dk_at dksX1_letter_1 0 rfl rfl)
theorem dX1_letter_26 : decode cX1_letter 26 = .ok (.iconst 2, 1) := dk_5 (dk_at dksX1_letter_1 3 rfl rfl)
theorem dX1_letter_27 : decode cX1_letter 27 = .ok (.goto 14, 3) := dk_167 0 14 (dk_at dksX1_letter_1 4 rfl rfl)
theorem dX1_letter_30 : decode cX1_letter 30 = .ok (.iload_n 3, 1) := dk_29 (dk_at dksX1_letter_1 7 rfl rfl)
theorem dX1_letter_31 : decode cX1_letter 31 = .ok (.ldc 48, 2) := dk_18 48 (dk_at dksX1_letter_1 8 rfl rfl)
theorem dX1_letter_33 : decode cX1_letter 33 = .ok (.if_icmp .ge 7, 3) := dk_162 0 7 (dk_at dksX1_letter_1 10 rfl rfl)
theorem dX1_letter_36 : decode cX1_letter 36 = .ok (.iconst 3, 1) := dk_6 (dk_at dksX1_letter_1 13 rfl rfl)
theorem dX1_letter_37 : decode cX1_letter 37 = .ok (.goto 4, 3) := dk_167 0 4 (dk_at dksX1_letter_1 14 rfl rfl)
theorem dX1_letter_40 : decode cX1_letter 40 = .ok (.iconst 4, 1) := dk_7 (dk_at dksX1_letter_1 17 rfl rfl)
theorem dX1_letter_41 : decode cX1_letter 41 = .ok (.istore 4, 2) := dk_54 4 (dk_at dksX1_letter_1 18 rfl rfl)
theorem dX1_letter_43 : decode cX1_letter 43 = .ok (.aload_n 0, 1) := dk_42 (dk_at dksX1_letter_1 20 rfl rfl)
theorem dX1_letter_44 : decode cX1_letter 44 = .ok (.iload_n 1, 1) := dk_27 (dk_at dksX1_letter_1 21 rfl rfl)
theorem dX1_letter_45 : decode cX1_letter 45 = .ok (.invokevirtual 28, 3) := dk_182 0 28 (dk_at dksX1_letter_2 0 rfl rfl)
theorem dX1_letter_48 : decode cX1_letter 48 = .ok (.istore 5, 2) := dk_54 5 (dk_at dksX1_letter_2 3 rfl rfl)
theorem dX1_letter_50 : decode cX1_letter 50 = .ok (.iload 5, 2) := dk_21 5 (dk_at dksX1_letter_2 5 rfl rfl)
theorem dX1_letter_52 : decode cX1_letter 52 = .ok (.iload 4, 2) := dk_21 4 (dk_at dksX1_letter_2 7 rfl rfl)
theorem dX1_letter_54 : decode cX1_letter 54 = .ok (.iadd, 1) := dk_96 (dk_at dksX1_letter_2 9 rfl rfl)
theorem dX1_letter_55 : decode cX1_letter 55 = .ok (.aload_n 0, 1) := dk_42 (dk_at dksX1_letter_2 10 rfl rfl)
theorem dX1_letter_56 : decode cX1_letter 56 = .ok (.getfield 21, 3) := dk_180 0 21 (dk_at dksX1_letter_2 11 rfl rfl)
theorem dX1_letter_59 : decode cX1_letter 59 = .ok (.if_icmp .le 5, 3) := dk_164 0 5 (dk_at dksX1_letter_2 14 rfl rfl)
theorem dX1_letter_62 : decode cX1_letter 62 = .ok (.iconst (-1), 1) := dk_2 (dk_at dksX1_letter_2 17 rfl rfl)
theorem dX1_letter_63 : decode cX1_letter 63 = .ok (.ireturn, 1) := dk_172 (dk_at dksX1_letter_2 18 rfl rfl)
theorem dX1_letter_64 : decode cX1_letter 64 = .ok (.iload 4, 2) := dk_21 4 (dk_at dksX1_letter_2 19 rfl rfl)
theorem dX1_letter_66 : decode cX1_letter 66 = .ok (.iconst 1, 1) := dk_4 (dk_at dksX1_letter_2 21 rfl rfl)
theorem dX1_letter_67 : decode cX1_letter 67 = .ok (.if_icmp .ne 15, 3) := dk_160 0 15 (dk_at dksX1_letter_3 0 rfl rfl)
theorem dX1_letter_70 : decode cX1_letter 70 = .ok (.aload_n 0, 1) := dk_42 (dk_at dksX1_letter_3 3 rfl rfl)
theorem dX1_letter_71 : decode cX1_letter 71 = .ok (.getfield 7, 3) := dk_180 0 7 (dk_at dksX1_letter_3 4 rfl rfl)
theorem dX1_letter_74 : decode cX1_letter 74 = .ok (.iload 5, 2) := dk_21 5 (dk_at dksX1_letter_3 7 rfl rfl)
theorem dX1_letter_76 : decode cX1_letter 76 = .ok (.iload_n 3, 1) := dk_29 (dk_at dksX1_letter_3 9 rfl rfl)
theorem dX1_letter_77 : decode cX1_letter 77 = .ok (.i2b, 1) := dk_145 (dk_at dksX1_letter_3 10 rfl rfl)
theorem dX1_letter_78 : decode cX1_letter 78 = .ok (.bastore, 1) := dk_84 (dk_at dksX1_letter_3 11 rfl rfl)
theorem dX1_letter_79 : decode cX1_letter 79 = .ok (.goto 85, 3) := dk_167 0 85 (dk_at dksX1_letter_3 12 rfl rfl)
theorem dX1_letter_82 : decode cX1_letter 82 = .ok (.iload 4, 2) := dk_21 4 (dk_at dksX1_letter_3 15 rfl rfl)
theorem dX1_letter_84 : decode cX1_letter 84 = .ok (.iconst 1, 1) := dk_4 (dk_at dksX1_letter_3 17 rfl rfl)
theorem dX1_letter_85 : decode cX1_letter 85 = .ok (.isub, 1) := dk_100 (dk_at dksX1_letter_3 18 rfl rfl)
theorem dX1_letter_86 : decode cX1_letter 86 = .ok (.istore 6, 2) := dk_54 6 (dk_at dksX1_letter_3 19 rfl rfl)
theorem dX1_letter_88 : decode cX1_letter 88 = .ok (.iload 6, 2) := dk_21 6 (dk_at dksX1_letter_3 21 rfl rfl)
theorem dX1_letter_90 : decode cX1_letter 90 = .ok (.ifCond .le 33, 3) := dk_158 0 33 (dk_at dksX1_letter_4 0 rfl rfl)
theorem dX1_letter_93 : decode cX1_letter 93 = .ok (.aload_n 0, 1) := dk_42 (dk_at dksX1_letter_4 3 rfl rfl)
theorem dX1_letter_94 : decode cX1_letter 94 = .ok (.getfield 7, 3) := dk_180 0 7 (dk_at dksX1_letter_4 4 rfl rfl)
theorem dX1_letter_97 : decode cX1_letter 97 = .ok (.iload 5, 2) := dk_21 5 (dk_at dksX1_letter_4 7 rfl rfl)
theorem dX1_letter_99 : decode cX1_letter 99 = .ok (.iload 6, 2) := dk_21 6 (dk_at dksX1_letter_4 9 rfl rfl)
theorem dX1_letter_101 : decode cX1_letter 101 = .ok (.iadd, 1) := dk_96 (dk_at dksX1_letter_4 11 rfl rfl)
theorem dX1_letter_102 : decode cX1_letter 102 = .ok (.sipush 128, 3) := dk_17 0 128 (dk_at dksX1_letter_4 12 rfl rfl)
theorem dX1_letter_105 : decode cX1_letter 105 = .ok (.iload_n 3, 1) := dk_29 (dk_at dksX1_letter_4 15 rfl rfl)
theorem dX1_letter_106 : decode cX1_letter 106 = .ok (.bipush 63, 2) := dk_16 63 (dk_at dksX1_letter_4 16 rfl rfl)
theorem dX1_letter_108 : decode cX1_letter 108 = .ok (.iand, 1) := dk_126 (dk_at dksX1_letter_4 18 rfl rfl)
theorem dX1_letter_109 : decode cX1_letter 109 = .ok (.ior, 1) := dk_128 (dk_at dksX1_letter_4 19 rfl rfl)
theorem dX1_letter_110 : decode cX1_letter 110 = .ok (.i2b, 1) := dk_145 (dk_at dksX1_letter_4 20 rfl rfl)
theorem dX1_letter_111 : decode cX1_letter 111 = .ok (.bastore, 1) := dk_84 (dk_at dksX1_letter_4 21 rfl rfl)
theorem dX1_letter_112 : decode cX1_letter 112 = .ok (.iload_n 3, 1) := dk_29 (dk_at dksX1_letter_4 22 rfl rfl)
theorem dX1_letter_113 : decode cX1_letter 113 = .ok (.bipush 6, 2) := dk_16 6 (dk_at dksX1_letter_5 0 rfl rfl)
theorem dX1_letter_115 : decode cX1_letter 115 = .ok (.ishr, 1) := dk_122 (dk_at dksX1_letter_5 2 rfl rfl)
theorem dX1_letter_116 : decode cX1_letter 116 = .ok (.istore_n 3, 1) := dk_62 (dk_at dksX1_letter_5 3 rfl rfl)
theorem dX1_letter_117 : decode cX1_letter 117 = .ok (.iinc 6 (-1), 3) := dk_132 6 255 (dk_at dksX1_letter_5 4 rfl rfl)
theorem dX1_letter_120 : decode cX1_letter 120 = .ok (.goto (-32), 3) := dk_167 255 224 (dk_at dksX1_letter_5 7 rfl rfl)
theorem dX1_letter_123 : decode cX1_letter 123 = .ok (.aload_n 0, 1) := dk_42 (dk_at dksX1_letter_5 10 rfl rfl)
theorem dX1_letter_124 : decode cX1_letter 124 = .ok (.getfield 7, 3) := dk_180 0 7 (dk_at dksX1_letter_5 11 rfl rfl)
theorem dX1_letter_127 : decode cX1_letter 127 = .ok (.iload 5, 2) := dk_21 5 (dk_at dksX1_letter_5 14 rfl rfl)
theorem dX1_letter_129 : decode cX1_letter 129 = .ok (.iload 4, 2) := dk_21 4 (dk_at dksX1_letter_5 16 rfl rfl)
theorem dX1_letter_131 : decode cX1_letter 131 = .ok (.iconst 2, 1) := dk_5 (dk_at dksX1_letter_5 18 rfl rfl)
theorem dX1_letter_132 : decode cX1_letter 132 = .ok (.if_icmp .ne 11, 3) := dk_160 0 11 (dk_at dksX1_letter_5 19 rfl rfl)
theorem dX1_letter_135 : decode cX1_letter 135 = .ok (.sipush 192, 3) := dk_17 0 192 (dk_at dksX1_letter_6 0 rfl rfl)
theorem dX1_letter_138 : decode cX1_letter 138 = .ok (.iload_n 3, 1) := dk_29 (dk_at dksX1_letter_6 3 rfl rfl)
theorem dX1_letter_139 : decode cX1_letter 139 = .ok (.ior, 1) := dk_128 (dk_at dksX1_letter_6 4 rfl rfl)
theorem dX1_letter_140 : decode cX1_letter 140 = .ok (.goto 22, 3) := dk_167 0 22 (dk_at dksX1_letter_6 5 rfl rfl)
theorem dX1_letter_143 : decode cX1_letter 143 = .ok (.iload 4, 2) := dk_21 4 (dk_at dksX1_letter_6 8 rfl rfl)
theorem dX1_letter_145 : decode cX1_letter 145 = .ok (.iconst 3, 1) := dk_6 (dk_at dksX1_letter_6 10 rfl rfl)
theorem dX1_letter_146 : decode cX1_letter 146 = .ok (.if_icmp .ne 11, 3) := dk_160 0 11 (dk_at dksX1_letter_6 11 rfl rfl)
theorem dX1_letter_149 : decode cX1_letter 149 = .ok (.sipush 224, 3) := dk_17 0 224 (dk_at dksX1_letter_6 14 rfl rfl)
theorem dX1_letter_152 : decode cX1_letter 152 = .ok (.iload_n 3, 1) := dk_29 (dk_at dksX1_letter_6 17 rfl rfl)
theorem dX1_letter_153 : decode cX1_letter 153 = .ok (.ior, 1) := dk_128 (dk_at dksX1_letter_6 18 rfl rfl)
theorem dX1_letter_154 : decode cX1_letter 154 = .ok (.goto 8, 3) := dk_167 0 8 (dk_at dksX1_letter_6 19 rfl rfl)
theorem dX1_letter_157 : decode cX1_letter 157 = .ok (.sipush 240, 3) := dk_17 0 240 (dk_at dksX1_letter_7 0 rfl rfl)
theorem dX1_letter_160 : decode cX1_letter 160 = .ok (.iload_n 3, 1) := dk_29 (dk_at dksX1_letter_7 3 rfl rfl)
theorem dX1_letter_161 : decode cX1_letter 161 = .ok (.ior, 1) := dk_128 (dk_at dksX1_letter_7 4 rfl rfl)
theorem dX1_letter_162 : decode cX1_letter 162 = .ok (.i2b, 1) := dk_145 (dk_at dksX1_letter_7 5 rfl rfl)
theorem dX1_letter_163 : decode cX1_letter 163 = .ok (.bastore, 1) := dk_84 (dk_at dksX1_letter_7 6 rfl rfl)
theorem dX1_letter_164 : decode cX1_letter 164 = .ok (.iload 4, 2) := dk_21 4 (dk_at dksX1_letter_7 7 rfl rfl)
theorem dX1_letter_166 : decode cX1_letter 166 = .ok (.ireturn, 1) := dk_172 (dk_at dksX1_letter_7 9 rfl rfl)
abbrev cX1_set : ByteArray := prog_2_method_10_code
def yX1_set : MethodName := ⟨RX1, "set", "(II)Z"⟩
def dkwX1_set_1 : List UInt8 := [84, 4, 172]
abbrev dktX1_set_1 : List UInt8 := dkwX1_set_1 ++ []
def dkwX1_set_0 : List UInt8 := [42, 180, 0, 21, 154, 0, 5, 3, 172, 42, 180, 0, 7, 27, 18, 32, 126, 42, 180, 0, 21, 112, 28, 145]
abbrev dktX1_set_0 : List UInt8 := dkwX1_set_0 ++ dktX1_set_1
theorem dksX1_set_0 : cX1_set.data.toList.drop 0 = dktX1_set_0 := by decide +kernel
theorem dksX1_set_1 : cX1_set.data.toList.drop 24 = dktX1_set_1 := dk_seg dksX1_set_0 24 rfl rfl
theorem dX1_set_0 : decode cX1_set 0 = .ok (.aload_n 0, 1) := dk_42 (dk_at dksX1_set_0 0 rfl rfl)
theorem dX1_set_1 : decode cX1_set 1 = .ok (.getfield 21, 3) := dk_180 0 21 (dk_at dksX1_set_0 1 rfl rfl)
theorem dX1_set_4 : decode cX1_set 4 = .ok (.ifCond .ne 5, 3) := dk_154 0 5 (dk_at dksX1_set_0 4 rfl rfl)
theorem dX1_set_7 : decode cX1_set 7 = .ok (.iconst 0, 1) := dk_3 (dk_at dksX1_set_0 7 rfl rfl)
theorem dX1_set_8 : decode cX1_set 8 = .ok (.ireturn, 1) := dk_172 (dk_at dksX1_set_0 8 rfl rfl)
theorem dX1_set_9 : decode cX1_set 9 = .ok (.aload_n 0, 1) := dk_42 (dk_at dksX1_set_0 9 rfl rfl)
theorem dX1_set_10 : decode cX1_set 10 = .ok (.getfield 7, 3) := dk_180 0 7 (dk_at dksX1_set_0 10 rfl rfl)
theorem dX1_set_13 : decode cX1_set 13 = .ok (.iload_n 1, 1) := dk_27 (dk_at dksX1_set_0 13 rfl rfl)
theorem dX1_set_14 : decode cX1_set 14 = .ok (.ldc 32, 2) := dk_18 32 (dk_at dksX1_set_0 14 rfl rfl)
theorem dX1_set_16 : decode cX1_set 16 = .ok (.iand, 1) := dk_126 (dk_at dksX1_set_0 16 rfl rfl)
theorem dX1_set_17 : decode cX1_set 17 = .ok (.aload_n 0, 1) := dk_42 (dk_at dksX1_set_0 17 rfl rfl)
theorem dX1_set_18 : decode cX1_set 18 = .ok (.getfield 21, 3) := dk_180 0 21 (dk_at dksX1_set_0 18 rfl rfl)
theorem dX1_set_21 : decode cX1_set 21 = .ok (.irem, 1) := dk_112 (dk_at dksX1_set_0 21 rfl rfl)
theorem dX1_set_22 : decode cX1_set 22 = .ok (.iload_n 2, 1) := dk_28 (dk_at dksX1_set_0 22 rfl rfl)
theorem dX1_set_23 : decode cX1_set 23 = .ok (.i2b, 1) := dk_145 (dk_at dksX1_set_0 23 rfl rfl)
theorem dX1_set_24 : decode cX1_set 24 = .ok (.bastore, 1) := dk_84 (dk_at dksX1_set_1 0 rfl rfl)
theorem dX1_set_25 : decode cX1_set 25 = .ok (.iconst 1, 1) := dk_4 (dk_at dksX1_set_1 1 rfl rfl)
theorem dX1_set_26 : decode cX1_set 26 = .ok (.ireturn, 1) := dk_172 (dk_at dksX1_set_1 2 rfl rfl)
abbrev cX1_trim : ByteArray := prog_2_method_4_code
def yX1_trim : MethodName := ⟨RX1, "trim", "(I)V"⟩
def dkwX1_trim_0 : List UInt8 := [42, 42, 27, 182, 0, 28, 181, 0, 21, 177]
abbrev dktX1_trim_0 : List UInt8 := dkwX1_trim_0 ++ []
theorem dksX1_trim_0 : cX1_trim.data.toList.drop 0 = dktX1_trim_0 := by decide +kernel
theorem dX1_trim_0 : decode cX1_trim 0 = .ok (.aload_n 0, 1) := dk_42 (dk_at dksX1_trim_0 0 rfl rfl)
theorem dX1_trim_1 : decode cX1_trim 1 = .ok (.aload_n 0, 1) := dk_42 (dk_at dksX1_trim_0 1 rfl rfl)
theorem dX1_trim_2 : decode cX1_trim 2 = .ok (.iload_n 1, 1) := dk_27 (dk_at dksX1_trim_0 2 rfl rfl)
theorem dX1_trim_3 : decode cX1_trim 3 = .ok (.invokevirtual 28, 3) := dk_182 0 28 (dk_at dksX1_trim_0 3 rfl rfl)
theorem dX1_trim_6 : decode cX1_trim 6 = .ok (.putfield 21, 3) := dk_181 0 21 (dk_at dksX1_trim_0 6 rfl rfl)
theorem dX1_trim_9 : decode cX1_trim 9 = .ok (.return_, 1) := dk_177 (dk_at dksX1_trim_0 9 rfl rfl)
theorem q12 : (Jvm.Cond.initialized "UtfDesk") ∈ lw_all := lw_g (lw_at lw_m0 1 rfl) rfl
theorem q15 : (Jvm.Cond.instanceMethod ({ cls := "UtfDesk", name := "unit", desc := "(I)I" } : Jvm.MethodName)) ∈ lw_all := lw_g (lw_at lw_m0 4 rfl) rfl
theorem q16 : (Jvm.Cond.selects "UtfDesk" ({ cls := "UtfDesk", name := "unit", desc := "(I)I" } : Jvm.MethodName) ({ cls := "UtfDesk", name := "unit", desc := "(I)I" } : Jvm.MethodName)) ∈ lw_all := lw_g (lw_at lw_m0 5 rfl) rfl
theorem q17 : (Jvm.Cond.code ({ cls := "UtfDesk", name := "unit", desc := "(I)I" } : Jvm.MethodName) prog_2_method_9_code (2 : Nat) (Option.some Jvm.ClassFile.FieldType.int)) ∈ lw_all := lw_g (lw_at lw_m0 6 rfl) rfl
theorem q18 : (Jvm.Cond.constant "UtfDesk" (32 : Nat) (2147483647 : Int32)) ∈ lw_all := lw_g (lw_at lw_m0 7 rfl) rfl
theorem q28 : (Jvm.Cond.instantiable "UtfDesk" (4 : Nat)) ∈ lw_all := lw_g (lw_at lw_m0 17 rfl) rfl
theorem q30 : (Jvm.Cond.instanceMethod ({ cls := "UtfDesk", name := "<init>", desc := "()V" } : Jvm.MethodName)) ∈ lw_all := lw_g (lw_at lw_m0 19 rfl) rfl
theorem q31 : (Jvm.Cond.code ({ cls := "UtfDesk", name := "<init>", desc := "()V" } : Jvm.MethodName) prog_2_method_1_code (1 : Nat) (Option.none : Option Jvm.ClassFile.FieldType)) ∈ lw_all := lw_g (lw_at lw_m0 20 rfl) rfl
theorem q32 : (Jvm.Cond.methodLink "UtfDesk" (1 : Nat) ({ cls := "java/lang/Object", name := "<init>", desc := "()V" } : Jvm.MethodName)) ∈ lw_all := lw_g (lw_at lw_m0 21 rfl) rfl
theorem q33 : (Jvm.Cond.fieldLink "UtfDesk" (7 : Nat) "UtfDesk" "text" "[B") ∈ lw_all := lw_g (lw_at lw_m0 22 rfl) rfl
theorem q34 : (Jvm.Cond.fieldLink "UtfDesk" (21 : Nat) "UtfDesk" "size" "I") ∈ lw_all := lw_g (lw_at lw_m0 23 rfl) rfl
theorem q35 : (Jvm.Cond.fieldLink "UtfDesk" (13 : Nat) "UtfDesk" "units" "[C") ∈ lw_all := lw_g (lw_at lw_m0 24 rfl) rfl
theorem q36 : (Jvm.Cond.fieldLink "UtfDesk" (17 : Nat) "UtfDesk" "made" "I") ∈ lw_all := lw_g (lw_at lw_m0 25 rfl) rfl
theorem q37 : (Jvm.Cond.laysFinal "UtfDesk" "UtfDesk" "text" "[B") ∈ lw_all := lw_g (lw_at lw_m0 26 rfl) rfl
theorem q38 : (Jvm.Cond.soleField "UtfDesk" "text") ∈ lw_all := lw_g (lw_at lw_m0 27 rfl) rfl
theorem q39 : (Jvm.Cond.lays "UtfDesk" "UtfDesk" "size" "I") ∈ lw_all := lw_g (lw_at lw_m0 28 rfl) rfl
theorem q40 : (Jvm.Cond.soleField "UtfDesk" "size") ∈ lw_all := lw_g (lw_at lw_m0 29 rfl) rfl
theorem q41 : (Jvm.Cond.laysFinal "UtfDesk" "UtfDesk" "units" "[C") ∈ lw_all := lw_g (lw_at lw_m0 30 rfl) rfl
theorem q42 : (Jvm.Cond.soleField "UtfDesk" "units") ∈ lw_all := lw_g (lw_at lw_m0 31 rfl) rfl
theorem q43 : (Jvm.Cond.lays "UtfDesk" "UtfDesk" "made" "I") ∈ lw_all := lw_g (lw_at lw_m0 32 rfl) rfl
theorem q44 : (Jvm.Cond.soleField "UtfDesk" "made") ∈ lw_all := lw_g (lw_at lw_m0 33 rfl) rfl
theorem q45 : (Jvm.Cond.superclass "UtfDesk" "java/lang/Object") ∈ lw_all := lw_g (lw_at lw_m0 34 rfl) rfl
theorem q97 : (Jvm.Cond.instanceMethod ({ cls := "UtfDesk", name := "turn", desc := "(III)I" } : Jvm.MethodName)) ∈ lw_all := lw_g (lw_at lw_m0 86 rfl) rfl
theorem q98 : (Jvm.Cond.selects "UtfDesk" ({ cls := "UtfDesk", name := "turn", desc := "(III)I" } : Jvm.MethodName) ({ cls := "UtfDesk", name := "turn", desc := "(III)I" } : Jvm.MethodName)) ∈ lw_all := lw_g (lw_at lw_m0 87 rfl) rfl
theorem q99 : (Jvm.Cond.code ({ cls := "UtfDesk", name := "turn", desc := "(III)I" } : Jvm.MethodName) prog_2_method_8_code (7 : Nat) (Option.some Jvm.ClassFile.FieldType.int)) ∈ lw_all := lw_g (lw_at lw_m0 88 rfl) rfl
theorem q100 : (Jvm.Cond.methodLink "UtfDesk" (37 : Nat) ({ cls := "UtfDesk", name := "part", desc := "(II)[B" } : Jvm.MethodName)) ∈ lw_all := lw_g (lw_at lw_m0 89 rfl) rfl
theorem q101 : (Jvm.Cond.privateMethod ({ cls := "UtfDesk", name := "part", desc := "(II)[B" } : Jvm.MethodName)) ∈ lw_tbl := lw_at lw_m0 90 rfl
theorem q102 : (Jvm.Cond.instanceMethod ({ cls := "UtfDesk", name := "part", desc := "(II)[B" } : Jvm.MethodName)) ∈ lw_all := lw_g (lw_at lw_m0 91 rfl) rfl
theorem q103 : (Jvm.Cond.code ({ cls := "UtfDesk", name := "part", desc := "(II)[B" } : Jvm.MethodName) prog_2_method_7_code (7 : Nat) (Option.some (Jvm.ClassFile.FieldType.array Jvm.ClassFile.FieldType.byte))) ∈ lw_all := lw_g (lw_at lw_m0 92 rfl) rfl
theorem q104 : (Jvm.Cond.methodLink "UtfDesk" (28 : Nat) ({ cls := "UtfDesk", name := "from", desc := "(I)I" } : Jvm.MethodName)) ∈ lw_all := lw_g (lw_at lw_m0 93 rfl) rfl
theorem q105 : (Jvm.Cond.privateMethod ({ cls := "UtfDesk", name := "from", desc := "(I)I" } : Jvm.MethodName)) ∈ lw_tbl := lw_at lw_m0 94 rfl
theorem q106 : (Jvm.Cond.instanceMethod ({ cls := "UtfDesk", name := "from", desc := "(I)I" } : Jvm.MethodName)) ∈ lw_all := lw_g (lw_at lw_m0 95 rfl) rfl
theorem q107 : (Jvm.Cond.code ({ cls := "UtfDesk", name := "from", desc := "(I)I" } : Jvm.MethodName) prog_2_method_5_code (2 : Nat) (Option.some Jvm.ClassFile.FieldType.int)) ∈ lw_all := lw_g (lw_at lw_m0 96 rfl) rfl
theorem q108 : (Jvm.Cond.methodLink "UtfDesk" (33 : Nat) ({ cls := "UtfDesk", name := "count", desc := "(II)I" } : Jvm.MethodName)) ∈ lw_all := lw_g (lw_at lw_m0 97 rfl) rfl
theorem q109 : (Jvm.Cond.privateMethod ({ cls := "UtfDesk", name := "count", desc := "(II)I" } : Jvm.MethodName)) ∈ lw_tbl := lw_at lw_m0 98 rfl
theorem q110 : (Jvm.Cond.instanceMethod ({ cls := "UtfDesk", name := "count", desc := "(II)I" } : Jvm.MethodName)) ∈ lw_all := lw_g (lw_at lw_m0 99 rfl) rfl
theorem q111 : (Jvm.Cond.code ({ cls := "UtfDesk", name := "count", desc := "(II)I" } : Jvm.MethodName) prog_2_method_6_code (3 : Nat) (Option.some Jvm.ClassFile.FieldType.int)) ∈ lw_all := lw_g (lw_at lw_m0 100 rfl) rfl
theorem q112 : (Jvm.Cond.methodLink "UtfDesk" (41 : Nat) ({ cls := "UTF8", name := "transcodeToUTF16", desc := "([B[C)I" } : Jvm.MethodName)) ∈ lw_all := lw_g (lw_at lw_m0 101 rfl) rfl
theorem q138 : (Jvm.Cond.instanceMethod ({ cls := "UtfDesk", name := "put", desc := "(IIII)Z" } : Jvm.MethodName)) ∈ lw_all := lw_g (lw_at lw_m0 127 rfl) rfl
theorem q139 : (Jvm.Cond.selects "UtfDesk" ({ cls := "UtfDesk", name := "put", desc := "(IIII)Z" } : Jvm.MethodName) ({ cls := "UtfDesk", name := "put", desc := "(IIII)Z" } : Jvm.MethodName)) ∈ lw_all := lw_g (lw_at lw_m0 128 rfl) rfl
theorem q140 : (Jvm.Cond.code ({ cls := "UtfDesk", name := "put", desc := "(IIII)Z" } : Jvm.MethodName) prog_2_method_2_code (5 : Nat) (Option.some Jvm.ClassFile.FieldType.boolean)) ∈ lw_all := lw_g (lw_at lw_m0 129 rfl) rfl
theorem q141 : (Jvm.Cond.methodLink "UtfDesk" (24 : Nat) ({ cls := "UtfDesk", name := "word", desc := "([BII)V" } : Jvm.MethodName)) ∈ lw_all := lw_g (lw_at lw_m0 130 rfl) rfl
theorem q142 : (Jvm.Cond.static ({ cls := "UtfDesk", name := "word", desc := "([BII)V" } : Jvm.MethodName)) ∈ lw_all := lw_g (lw_at lw_m0 131 rfl) rfl
theorem q143 : (Jvm.Cond.code ({ cls := "UtfDesk", name := "word", desc := "([BII)V" } : Jvm.MethodName) prog_2_method_3_code (3 : Nat) (Option.none : Option Jvm.ClassFile.FieldType)) ∈ lw_all := lw_g (lw_at lw_m0 132 rfl) rfl
theorem q151 : (Jvm.Cond.instanceMethod ({ cls := "UtfDesk", name := "letter", desc := "(II)I" } : Jvm.MethodName)) ∈ lw_all := lw_g (lw_at lw_m0 140 rfl) rfl
theorem q152 : (Jvm.Cond.selects "UtfDesk" ({ cls := "UtfDesk", name := "letter", desc := "(II)I" } : Jvm.MethodName) ({ cls := "UtfDesk", name := "letter", desc := "(II)I" } : Jvm.MethodName)) ∈ lw_all := lw_g (lw_at lw_m0 141 rfl) rfl
theorem q153 : (Jvm.Cond.code ({ cls := "UtfDesk", name := "letter", desc := "(II)I" } : Jvm.MethodName) prog_2_method_11_code (7 : Nat) (Option.some Jvm.ClassFile.FieldType.int)) ∈ lw_all := lw_g (lw_at lw_m0 142 rfl) rfl
theorem q154 : (Jvm.Cond.constant "UtfDesk" (47 : Nat) (1114112 : Int32)) ∈ lw_all := lw_g (lw_at lw_m0 143 rfl) rfl
theorem q155 : (Jvm.Cond.constant "UtfDesk" (48 : Nat) (65536 : Int32)) ∈ lw_all := lw_g (lw_at lw_m0 144 rfl) rfl
theorem q161 : (Jvm.Cond.instanceMethod ({ cls := "UtfDesk", name := "set", desc := "(II)Z" } : Jvm.MethodName)) ∈ lw_all := lw_g (lw_at lw_m0 150 rfl) rfl
theorem q162 : (Jvm.Cond.selects "UtfDesk" ({ cls := "UtfDesk", name := "set", desc := "(II)Z" } : Jvm.MethodName) ({ cls := "UtfDesk", name := "set", desc := "(II)Z" } : Jvm.MethodName)) ∈ lw_all := lw_g (lw_at lw_m0 151 rfl) rfl
theorem q163 : (Jvm.Cond.code ({ cls := "UtfDesk", name := "set", desc := "(II)Z" } : Jvm.MethodName) prog_2_method_10_code (3 : Nat) (Option.some Jvm.ClassFile.FieldType.boolean)) ∈ lw_all := lw_g (lw_at lw_m0 152 rfl) rfl
theorem q165 : (Jvm.Cond.instanceMethod ({ cls := "UtfDesk", name := "trim", desc := "(I)V" } : Jvm.MethodName)) ∈ lw_all := lw_g (lw_at lw_m0 154 rfl) rfl
theorem q166 : (Jvm.Cond.selects "UtfDesk" ({ cls := "UtfDesk", name := "trim", desc := "(I)V" } : Jvm.MethodName) ({ cls := "UtfDesk", name := "trim", desc := "(I)V" } : Jvm.MethodName)) ∈ lw_all := lw_g (lw_at lw_m0 155 rfl) rfl
theorem q167 : (Jvm.Cond.code ({ cls := "UtfDesk", name := "trim", desc := "(I)V" } : Jvm.MethodName) prog_2_method_4_code (2 : Nat) (Option.none : Option Jvm.ClassFile.FieldType)) ∈ lw_all := lw_g (lw_at lw_m0 156 rfl) rfl
theorem in_X1 : ∀ w ∈ wsX10, w ∈ lw_all := lw_in wsX10 [37, 39, 41, 43] (by decide +kernel) (by decide +kernel)
/-! UtfDeskLaw -/
set_option maxRecDepth 100000
def RX0 : String := "UtfDeskLaw"
def TX0 : u_T := fun k => match k with
  | 0 => ("UtfDeskLaw", "f", "LUtfDesk;", true)
  | 1 => ("UtfDeskLaw", "text", "[B", true)
  | 2 => ("UtfDeskLaw", "size", "I", false)
  | 3 => ("UtfDeskLaw", "units", "[I", true)
  | _ => ("UtfDeskLaw", "made", "I", false)
def tyX0 : Nat → FieldType := fun k => match k with
  | 0 => .object "UtfDesk"
  | 1 => .array .byte
  | 2 => .int
  | 3 => .array .int
  | _ => .int
abbrev wsX00 : List Cond := u_ws RX0 TX0 5
theorem nmX0 : ∀ a, a < 5 → ∀ b, b < 5 → a ≠ b → (TX0 a).2.1 ≠ (TX0 b).2.1 := by decide +kernel
theorem tyX0_ok : ∀ k, k < 5 → parseFieldDescriptor (TX0 k).2.2.1 = some (tyX0 k) := by decide +kernel
abbrev cX0_init : ByteArray := method_1_code
def yX0_init : MethodName := ⟨RX0, "<init>", "()V"⟩
def dkwX0_init_1 : List UInt8 := [42, 17, 0, 160, 188, 10, 181, 0, 20, 42, 2, 181, 0, 24, 177]
abbrev dktX0_init_1 : List UInt8 := dkwX0_init_1 ++ []
def dkwX0_init_0 : List UInt8 := [42, 183, 0, 1, 42, 187, 0, 7, 89, 183, 0, 9, 181, 0, 10, 42, 17, 0, 128, 188, 8, 181, 0, 16]
abbrev dktX0_init_0 : List UInt8 := dkwX0_init_0 ++ dktX0_init_1
theorem dksX0_init_0 : cX0_init.data.toList.drop 0 = dktX0_init_0 := by decide +kernel
theorem dksX0_init_1 : cX0_init.data.toList.drop 24 = dktX0_init_1 := dk_seg dksX0_init_0 24 rfl rfl
theorem dX0_init_0 : decode cX0_init 0 = .ok (.aload_n 0, 1) := dk_42 (dk_at dksX0_init_0 0 rfl rfl)
theorem dX0_init_1 : decode cX0_init 1 = .ok (.invokespecial 1, 3) := dk_183 0 1 (dk_at dksX0_init_0 1 rfl rfl)
theorem dX0_init_4 : decode cX0_init 4 = .ok (.aload_n 0, 1) := dk_42 (dk_at dksX0_init_0 4 rfl rfl)
theorem dX0_init_5 : decode cX0_init 5 = .ok (.new 7, 3) := dk_187 0 7 (dk_at dksX0_init_0 5 rfl rfl)
theorem dX0_init_8 : decode cX0_init 8 = .ok (.dup, 1) := dk_89 (dk_at dksX0_init_0 8 rfl rfl)
theorem dX0_init_9 : decode cX0_init 9 = .ok (.invokespecial 9, 3) := dk_183 0 9 (dk_at dksX0_init_0 9 rfl rfl)
theorem dX0_init_12 : decode cX0_init 12 = .ok (.putfield 10, 3) := dk_181 0 10 (dk_at dksX0_init_0 12 rfl rfl)
theorem dX0_init_15 : decode cX0_init 15 = .ok (.aload_n 0, 1) := dk_42 (dk_at dksX0_init_0 15 rfl rfl)
theorem dX0_init_16 : decode cX0_init 16 = .ok (.sipush 128, 3) := dk_17 0 128 (dk_at dksX0_init_0 16 rfl rfl)
theorem dX0_init_19 : decode cX0_init 19 = .ok (.newarray .byte, 2) := dk_188_8 (dk_at dksX0_init_0 19 rfl rfl)
theorem dX0_init_21 : decode cX0_init 21 = .ok (.putfield 16, 3) := dk_181 0 16 (dk_at dksX0_init_0 21 rfl rfl)
theorem dX0_init_24 : decode cX0_init 24 = .ok (.aload_n 0, 1) := dk_42 (dk_at dksX0_init_1 0 rfl rfl)
theorem dX0_init_25 : decode cX0_init 25 = .ok (.sipush 160, 3) := dk_17 0 160 (dk_at dksX0_init_1 1 rfl rfl)
theorem dX0_init_28 : decode cX0_init 28 = .ok (.newarray .int, 2) := dk_188_10 (dk_at dksX0_init_1 4 rfl rfl)
theorem dX0_init_30 : decode cX0_init 30 = .ok (.putfield 20, 3) := dk_181 0 20 (dk_at dksX0_init_1 6 rfl rfl)
theorem dX0_init_33 : decode cX0_init 33 = .ok (.aload_n 0, 1) := dk_42 (dk_at dksX0_init_1 9 rfl rfl)
theorem dX0_init_34 : decode cX0_init 34 = .ok (.iconst (-1), 1) := dk_2 (dk_at dksX0_init_1 10 rfl rfl)
theorem dX0_init_35 : decode cX0_init 35 = .ok (.putfield 24, 3) := dk_181 0 24 (dk_at dksX0_init_1 11 rfl rfl)
theorem dX0_init_38 : decode cX0_init 38 = .ok (.return_, 1) := dk_177 (dk_at dksX0_init_1 14 rfl rfl)
abbrev cX0_cell : ByteArray := method_2_code
def yX0_cell : MethodName := ⟨RX0, "cell", "([II)I"⟩
def dkwX0_cell_0 : List UInt8 := [27, 42, 190, 162, 0, 9, 42, 27, 46, 167, 0, 4, 3, 172]
abbrev dktX0_cell_0 : List UInt8 := dkwX0_cell_0 ++ []
theorem dksX0_cell_0 : cX0_cell.data.toList.drop 0 = dktX0_cell_0 := by decide +kernel
theorem dX0_cell_0 : decode cX0_cell 0 = .ok (.iload_n 1, 1) := dk_27 (dk_at dksX0_cell_0 0 rfl rfl)
theorem dX0_cell_1 : decode cX0_cell 1 = .ok (.aload_n 0, 1) := dk_42 (dk_at dksX0_cell_0 1 rfl rfl)
theorem dX0_cell_2 : decode cX0_cell 2 = .ok (.arraylength, 1) := dk_190 (dk_at dksX0_cell_0 2 rfl rfl)
theorem dX0_cell_3 : decode cX0_cell 3 = .ok (.if_icmp .ge 9, 3) := dk_162 0 9 (dk_at dksX0_cell_0 3 rfl rfl)
theorem dX0_cell_6 : decode cX0_cell 6 = .ok (.aload_n 0, 1) := dk_42 (dk_at dksX0_cell_0 6 rfl rfl)
theorem dX0_cell_7 : decode cX0_cell 7 = .ok (.iload_n 1, 1) := dk_27 (dk_at dksX0_cell_0 7 rfl rfl)
theorem dX0_cell_8 : decode cX0_cell 8 = .ok (.iaload, 1) := dk_46 (dk_at dksX0_cell_0 8 rfl rfl)
theorem dX0_cell_9 : decode cX0_cell 9 = .ok (.goto 4, 3) := dk_167 0 4 (dk_at dksX0_cell_0 9 rfl rfl)
theorem dX0_cell_12 : decode cX0_cell 12 = .ok (.iconst 0, 1) := dk_3 (dk_at dksX0_cell_0 12 rfl rfl)
theorem dX0_cell_13 : decode cX0_cell 13 = .ok (.ireturn, 1) := dk_172 (dk_at dksX0_cell_0 13 rfl rfl)
abbrev cX0_turns : ByteArray := method_8_code
def yX0_turns : MethodName := ⟨RX0, "turns", "(IIII)Z"⟩
def dkwX0_turns_4 : List UInt8 := [21, 7, 46, 159, 0, 5, 3, 172, 132, 7, 1, 167, 255, 223, 42, 21, 4, 182, 0, 62, 172]
abbrev dktX0_turns_4 : List UInt8 := dkwX0_turns_4 ++ []
def dkwX0_turns_3 : List UInt8 := [54, 7, 21, 7, 42, 180, 0, 24, 162, 0, 30, 42, 180, 0, 10, 21, 7, 182, 0, 59, 42, 180, 0, 20]
abbrev dktX0_turns_3 : List UInt8 := dkwX0_turns_3 ++ dktX0_turns_4
def dkwX0_turns_2 : List UInt8 := [181, 0, 24, 42, 180, 0, 10, 27, 28, 29, 182, 0, 56, 42, 180, 0, 24, 159, 0, 5, 3, 172, 3]
abbrev dktX0_turns_2 : List UInt8 := dkwX0_turns_2 ++ dktX0_turns_3
def dkwX0_turns_1 : List UInt8 := [184, 0, 49, 54, 6, 42, 42, 21, 5, 21, 5, 21, 6, 96, 29, 17, 0, 161, 184, 0, 49, 182, 0, 52]
abbrev dktX0_turns_1 : List UInt8 := dkwX0_turns_1 ++ dktX0_turns_2
def dkwX0_turns_0 : List UInt8 := [27, 42, 180, 0, 46, 4, 96, 184, 0, 49, 54, 5, 28, 42, 180, 0, 46, 21, 5, 100, 4, 96]
abbrev dktX0_turns_0 : List UInt8 := dkwX0_turns_0 ++ dktX0_turns_1
theorem dksX0_turns_0 : cX0_turns.data.toList.drop 0 = dktX0_turns_0 := by decide +kernel
theorem dksX0_turns_1 : cX0_turns.data.toList.drop 22 = dktX0_turns_1 := dk_seg dksX0_turns_0 22 rfl rfl
theorem dksX0_turns_2 : cX0_turns.data.toList.drop 46 = dktX0_turns_2 := dk_seg dksX0_turns_1 24 rfl rfl
theorem dksX0_turns_3 : cX0_turns.data.toList.drop 69 = dktX0_turns_3 := dk_seg dksX0_turns_2 23 rfl rfl
theorem dksX0_turns_4 : cX0_turns.data.toList.drop 93 = dktX0_turns_4 := dk_seg dksX0_turns_3 24 rfl rfl
theorem dX0_turns_0 : decode cX0_turns 0 = .ok (.iload_n 1, 1) := dk_27 (dk_at dksX0_turns_0 0 rfl rfl)
theorem dX0_turns_1 : decode cX0_turns 1 = .ok (.aload_n 0, 1) := dk_42 (dk_at dksX0_turns_0 1 rfl rfl)
theorem dX0_turns_2 : decode cX0_turns 2 = .ok (.getfield 46, 3) := dk_180 0 46 (dk_at dksX0_turns_0 2 rfl rfl)
theorem dX0_turns_5 : decode cX0_turns 5 = .ok (.iconst 1, 1) := dk_4 (dk_at dksX0_turns_0 5 rfl rfl)
theorem dX0_turns_6 : decode cX0_turns 6 = .ok (.iadd, 1) := dk_96 (dk_at dksX0_turns_0 6 rfl rfl)
theorem dX0_turns_7 : decode cX0_turns 7 = .ok (.invokestatic 49, 3) := dk_184 0 49 (dk_at dksX0_turns_0 7 rfl rfl)
theorem dX0_turns_10 : decode cX0_turns 10 = .ok (.istore 5, 2) := dk_54 5 (dk_at dksX0_turns_0 10 rfl rfl)
theorem dX0_turns_12 : decode cX0_turns 12 = .ok (.iload_n 2, 1) := dk_28 (dk_at dksX0_turns_0 12 rfl rfl)
theorem dX0_turns_13 : decode cX0_turns 13 = .ok (.aload_n 0, 1) := dk_42 (dk_at dksX0_turns_0 13 rfl rfl)
theorem dX0_turns_14 : decode cX0_turns 14 = .ok (.getfield 46, 3) := dk_180 0 46 (dk_at dksX0_turns_0 14 rfl rfl)
theorem dX0_turns_17 : decode cX0_turns 17 = .ok (.iload 5, 2) := dk_21 5 (dk_at dksX0_turns_0 17 rfl rfl)
theorem dX0_turns_19 : decode cX0_turns 19 = .ok (.isub, 1) := dk_100 (dk_at dksX0_turns_0 19 rfl rfl)
theorem dX0_turns_20 : decode cX0_turns 20 = .ok (.iconst 1, 1) := dk_4 (dk_at dksX0_turns_0 20 rfl rfl)
theorem dX0_turns_21 : decode cX0_turns 21 = .ok (.iadd, 1) := dk_96 (dk_at dksX0_turns_0 21 rfl rfl)
theorem dX0_turns_22 : decode cX0_turns 22 = .ok (.invokestatic 49, 3) := dk_184 0 49 (dk_at dksX0_turns_1 0 rfl rfl)
theorem dX0_turns_25 : decode cX0_turns 25 = .ok (.istore 6, 2) := dk_54 6 (dk_at dksX0_turns_1 3 rfl rfl)
theorem dX0_turns_27 : decode cX0_turns 27 = .ok (.aload_n 0, 1) := dk_42 (dk_at dksX0_turns_1 5 rfl rfl)
theorem dX0_turns_28 : decode cX0_turns 28 = .ok (.aload_n 0, 1) := dk_42 (dk_at dksX0_turns_1 6 rfl rfl)
theorem dX0_turns_29 : decode cX0_turns 29 = .ok (.iload 5, 2) := dk_21 5 (dk_at dksX0_turns_1 7 rfl rfl)
theorem dX0_turns_31 : decode cX0_turns 31 = .ok (.iload 5, 2) := dk_21 5 (dk_at dksX0_turns_1 9 rfl rfl)
theorem dX0_turns_33 : decode cX0_turns 33 = .ok (.iload 6, 2) := dk_21 6 (dk_at dksX0_turns_1 11 rfl rfl)
theorem dX0_turns_35 : decode cX0_turns 35 = .ok (.iadd, 1) := dk_96 (dk_at dksX0_turns_1 13 rfl rfl)
theorem dX0_turns_36 : decode cX0_turns 36 = .ok (.iload_n 3, 1) := dk_29 (dk_at dksX0_turns_1 14 rfl rfl)
theorem dX0_turns_37 : decode cX0_turns 37 = .ok (.sipush 161, 3) := dk_17 0 161 (dk_at dksX0_turns_1 15 rfl rfl)
theorem dX0_turns_40 : decode cX0_turns 40 = .ok (.invokestatic 49, 3) := dk_184 0 49 (dk_at dksX0_turns_1 18 rfl rfl)
theorem dX0_turns_43 : decode cX0_turns 43 = .ok (.invokevirtual 52, 3) := dk_182 0 52 (dk_at dksX0_turns_1 21 rfl rfl)
theorem dX0_turns_46 : decode cX0_turns 46 = .ok (.putfield 24, 3) := dk_181 0 24 (dk_at dksX0_turns_2 0 rfl rfl)
theorem dX0_turns_49 : decode cX0_turns 49 = .ok (.aload_n 0, 1) := dk_42 (dk_at dksX0_turns_2 3 rfl rfl)
theorem dX0_turns_50 : decode cX0_turns 50 = .ok (.getfield 10, 3) := dk_180 0 10 (dk_at dksX0_turns_2 4 rfl rfl)
theorem dX0_turns_53 : decode cX0_turns 53 = .ok (.iload_n 1, 1) := dk_27 (dk_at dksX0_turns_2 7 rfl rfl)
theorem dX0_turns_54 : decode cX0_turns 54 = .ok (.iload_n 2, 1) := dk_28 (dk_at dksX0_turns_2 8 rfl rfl)
theorem dX0_turns_55 : decode cX0_turns 55 = .ok (.iload_n 3, 1) := dk_29 (dk_at dksX0_turns_2 9 rfl rfl)
theorem dX0_turns_56 : decode cX0_turns 56 = .ok (.invokevirtual 56, 3) := dk_182 0 56 (dk_at dksX0_turns_2 10 rfl rfl)
theorem dX0_turns_59 : decode cX0_turns 59 = .ok (.aload_n 0, 1) := dk_42 (dk_at dksX0_turns_2 13 rfl rfl)
theorem dX0_turns_60 : decode cX0_turns 60 = .ok (.getfield 24, 3) := dk_180 0 24 (dk_at dksX0_turns_2 14 rfl rfl)
theorem dX0_turns_63 : decode cX0_turns 63 = .ok (.if_icmp .eq 5, 3) := dk_159 0 5 (dk_at dksX0_turns_2 17 rfl rfl)
theorem dX0_turns_66 : decode cX0_turns 66 = .ok (.iconst 0, 1) := dk_3 (dk_at dksX0_turns_2 20 rfl rfl)
theorem dX0_turns_67 : decode cX0_turns 67 = .ok (.ireturn, 1) := dk_172 (dk_at dksX0_turns_2 21 rfl rfl)
theorem dX0_turns_68 : decode cX0_turns 68 = .ok (.iconst 0, 1) := dk_3 (dk_at dksX0_turns_2 22 rfl rfl)
theorem dX0_turns_69 : decode cX0_turns 69 = .ok (.istore 7, 2) := dk_54 7 (dk_at dksX0_turns_3 0 rfl rfl)
theorem dX0_turns_71 : decode cX0_turns 71 = .ok (.iload 7, 2) := dk_21 7 (dk_at dksX0_turns_3 2 rfl rfl)
theorem dX0_turns_73 : decode cX0_turns 73 = .ok (.aload_n 0, 1) := dk_42 (dk_at dksX0_turns_3 4 rfl rfl)
theorem dX0_turns_74 : decode cX0_turns 74 = .ok (.getfield 24, 3) := dk_180 0 24 (dk_at dksX0_turns_3 5 rfl rfl)
theorem dX0_turns_77 : decode cX0_turns 77 = .ok (.if_icmp .ge 30, 3) := dk_162 0 30 (dk_at dksX0_turns_3 8 rfl rfl)
theorem dX0_turns_80 : decode cX0_turns 80 = .ok (.aload_n 0, 1) := dk_42 (dk_at dksX0_turns_3 11 rfl rfl)
theorem dX0_turns_81 : decode cX0_turns 81 = .ok (.getfield 10, 3) := dk_180 0 10 (dk_at dksX0_turns_3 12 rfl rfl)
theorem dX0_turns_84 : decode cX0_turns 84 = .ok (.iload 7, 2) := dk_21 7 (dk_at dksX0_turns_3 15 rfl rfl)
theorem dX0_turns_86 : decode cX0_turns 86 = .ok (.invokevirtual 59, 3) := dk_182 0 59 (dk_at dksX0_turns_3 17 rfl rfl)
theorem dX0_turns_89 : decode cX0_turns 89 = .ok (.aload_n 0, 1) := dk_42 (dk_at dksX0_turns_3 20 rfl rfl)
theorem dX0_turns_90 : decode cX0_turns 90 = .ok (.getfield 20, 3) := dk_180 0 20 (dk_at dksX0_turns_3 21 rfl rfl)
theorem dX0_turns_93 : decode cX0_turns 93 = .ok (.iload 7, 2) := dk_21 7 (dk_at dksX0_turns_4 0 rfl rfl)
theorem dX0_turns_95 : decode cX0_turns 95 = .ok (.iaload, 1) := dk_46 (dk_at dksX0_turns_4 2 rfl rfl)
theorem dX0_turns_96 : decode cX0_turns 96 = .ok (.if_icmp .eq 5, 3) := dk_159 0 5 (dk_at dksX0_turns_4 3 rfl rfl)
theorem dX0_turns_99 : decode cX0_turns 99 = .ok (.iconst 0, 1) := dk_3 (dk_at dksX0_turns_4 6 rfl rfl)
theorem dX0_turns_100 : decode cX0_turns 100 = .ok (.ireturn, 1) := dk_172 (dk_at dksX0_turns_4 7 rfl rfl)
theorem dX0_turns_101 : decode cX0_turns 101 = .ok (.iinc 7 1, 3) := dk_132 7 1 (dk_at dksX0_turns_4 8 rfl rfl)
theorem dX0_turns_104 : decode cX0_turns 104 = .ok (.goto (-33), 3) := dk_167 255 223 (dk_at dksX0_turns_4 11 rfl rfl)
theorem dX0_turns_107 : decode cX0_turns 107 = .ok (.aload_n 0, 1) := dk_42 (dk_at dksX0_turns_4 14 rfl rfl)
theorem dX0_turns_108 : decode cX0_turns 108 = .ok (.iload 4, 2) := dk_21 4 (dk_at dksX0_turns_4 15 rfl rfl)
theorem dX0_turns_110 : decode cX0_turns 110 = .ok (.invokevirtual 62, 3) := dk_182 0 62 (dk_at dksX0_turns_4 17 rfl rfl)
theorem dX0_turns_113 : decode cX0_turns 113 = .ok (.ireturn, 1) := dk_172 (dk_at dksX0_turns_4 20 rfl rfl)
abbrev cX0_from : ByteArray := method_3_code
def yX0_from : MethodName := ⟨RX0, "from", "(II)I"⟩
def dkwX0_from_0 : List UInt8 := [26, 18, 28, 126, 27, 112, 172]
abbrev dktX0_from_0 : List UInt8 := dkwX0_from_0 ++ []
theorem dksX0_from_0 : cX0_from.data.toList.drop 0 = dktX0_from_0 := by decide +kernel
theorem dX0_from_0 : decode cX0_from 0 = .ok (.iload_n 0, 1) := dk_26 (dk_at dksX0_from_0 0 rfl rfl)
theorem dX0_from_1 : decode cX0_from 1 = .ok (.ldc 28, 2) := dk_18 28 (dk_at dksX0_from_0 1 rfl rfl)
theorem dX0_from_3 : decode cX0_from 3 = .ok (.iand, 1) := dk_126 (dk_at dksX0_from_0 3 rfl rfl)
theorem dX0_from_4 : decode cX0_from 4 = .ok (.iload_n 1, 1) := dk_27 (dk_at dksX0_from_0 4 rfl rfl)
theorem dX0_from_5 : decode cX0_from 5 = .ok (.irem, 1) := dk_112 (dk_at dksX0_from_0 5 rfl rfl)
theorem dX0_from_6 : decode cX0_from 6 = .ok (.ireturn, 1) := dk_172 (dk_at dksX0_from_0 6 rfl rfl)
abbrev cX0_turned : ByteArray := method_7_code
def yX0_turned : MethodName := ⟨RX0, "turned", "(III)I"⟩
def dkwX0_turned_5 : List UInt8 := [184, 0, 33, 96, 54, 5, 167, 255, 140, 21, 4, 172]
abbrev dktX0_turned_5 : List UInt8 := dkwX0_turned_5 ++ []
def dkwX0_turned_4 : List UInt8 := [126, 96, 79, 167, 0, 15, 42, 180, 0, 20, 21, 4, 132, 4, 1, 21, 6, 79, 21, 5, 21, 6]
abbrev dktX0_turned_4 : List UInt8 := dkwX0_turned_4 ++ dktX0_turned_5
def dkwX0_turned_3 : List UInt8 := [16, 10, 122, 96, 79, 42, 180, 0, 20, 21, 4, 132, 4, 1, 18, 45, 21, 6, 18, 39, 100, 17, 3, 255]
abbrev dktX0_turned_3 : List UInt8 := dkwX0_turned_3 ++ dktX0_turned_4
def dkwX0_turned_2 : List UInt8 := [21, 6, 18, 44, 164, 0, 49, 42, 180, 0, 20, 21, 4, 132, 4, 1, 18, 37, 21, 6, 18, 39, 100]
abbrev dktX0_turned_2 : List UInt8 := dkwX0_turned_2 ++ dktX0_turned_3
def dkwX0_turned_1 : List UInt8 := [155, 0, 22, 21, 4, 21, 6, 18, 44, 164, 0, 7, 5, 167, 0, 4, 4, 96, 29, 164, 0, 5, 2, 172]
abbrev dktX0_turned_1 : List UInt8 := dkwX0_turned_1 ++ dktX0_turned_2
def dkwX0_turned_0 : List UInt8 := [3, 54, 4, 27, 54, 5, 21, 5, 28, 162, 0, 116, 42, 21, 5, 28, 182, 0, 40, 54, 6, 21, 6]
abbrev dktX0_turned_0 : List UInt8 := dkwX0_turned_0 ++ dktX0_turned_1
theorem dksX0_turned_0 : cX0_turned.data.toList.drop 0 = dktX0_turned_0 := by decide +kernel
theorem dksX0_turned_1 : cX0_turned.data.toList.drop 23 = dktX0_turned_1 := dk_seg dksX0_turned_0 23 rfl rfl
theorem dksX0_turned_2 : cX0_turned.data.toList.drop 47 = dktX0_turned_2 := dk_seg dksX0_turned_1 24 rfl rfl
theorem dksX0_turned_3 : cX0_turned.data.toList.drop 70 = dktX0_turned_3 := dk_seg dksX0_turned_2 23 rfl rfl
theorem dksX0_turned_4 : cX0_turned.data.toList.drop 94 = dktX0_turned_4 := dk_seg dksX0_turned_3 24 rfl rfl
theorem dksX0_turned_5 : cX0_turned.data.toList.drop 116 = dktX0_turned_5 := dk_seg dksX0_turned_4 22 rfl rfl
theorem dX0_turned_0 : decode cX0_turned 0 = .ok (.iconst 0, 1) := dk_3 (dk_at dksX0_turned_0 0 rfl rfl)
theorem dX0_turned_1 : decode cX0_turned 1 = .ok (.istore 4, 2) := dk_54 4 (dk_at dksX0_turned_0 1 rfl rfl)
theorem dX0_turned_3 : decode cX0_turned 3 = .ok (.iload_n 1, 1) := dk_27 (dk_at dksX0_turned_0 3 rfl rfl)
theorem dX0_turned_4 : decode cX0_turned 4 = .ok (.istore 5, 2) := dk_54 5 (dk_at dksX0_turned_0 4 rfl rfl)
theorem dX0_turned_6 : decode cX0_turned 6 = .ok (.iload 5, 2) := dk_21 5 (dk_at dksX0_turned_0 6 rfl rfl)
theorem dX0_turned_8 : decode cX0_turned 8 = .ok (.iload_n 2, 1) := dk_28 (dk_at dksX0_turned_0 8 rfl rfl)
theorem dX0_turned_9 : decode cX0_turned 9 = .ok (.if_icmp .ge 116, 3) := dk_162 0 116 (dk_at dksX0_turned_0 9 rfl rfl)
theorem dX0_turned_12 : decode cX0_turned 12 = .ok (.aload_n 0, 1) := dk_42 (dk_at dksX0_turned_0 12 rfl rfl)
theorem dX0_turned_13 : decode cX0_turned 13 = .ok (.iload 5, 2) := dk_21 5 (dk_at dksX0_turned_0 13 rfl rfl)
theorem dX0_turned_15 : decode cX0_turned 15 = .ok (.iload_n 2, 1) := dk_28 (dk_at dksX0_turned_0 15 rfl rfl)
theorem dX0_turned_16 : decode cX0_turned 16 = .ok (.invokevirtual 40, 3) := dk_182 0 40 (dk_at dksX0_turned_0 16 rfl rfl)
theorem dX0_turned_19 : decode cX0_turned 19 = .ok (.istore 6, 2) := dk_54 6 (dk_at dksX0_turned_0 19 rfl rfl)
theorem dX0_turned_21 : decode cX0_turned 21 = .ok (.iload 6, 2) := dk_21 6 (dk_at dksX0_turned_0 21 rfl rfl)
theorem dX0_turned_23 : decode cX0_turned 23 = .ok (.ifCond .lt 22, 3) := dk_155 0 22 (dk_at dksX0_turned_1 0 rfl rfl)
theorem dX0_turned_26 : decode cX0_turned 26 = .ok (.iload 4, 2) := dk_21 4 (dk_at dksX0_turned_1 3 rfl rfl)
theorem dX0_turned_28 : decode cX0_turned 28 = .ok (.iload 6, 2) := dk_21 6 (dk_at dksX0_turned_1 5 rfl rfl)
theorem dX0_turned_30 : decode cX0_turned 30 = .ok (.ldc 44, 2) := dk_18 44 (dk_at dksX0_turned_1 7 rfl rfl)
theorem dX0_turned_32 : decode cX0_turned 32 = .ok (.if_icmp .le 7, 3) := dk_164 0 7 (dk_at dksX0_turned_1 9 rfl rfl)
theorem dX0_turned_35 : decode cX0_turned 35 = .ok (.iconst 2, 1) := dk_5 (dk_at dksX0_turned_1 12 rfl rfl)
theorem dX0_turned_36 : decode cX0_turned 36 = .ok (.goto 4, 3) := dk_167 0 4 (dk_at dksX0_turned_1 13 rfl rfl)
theorem dX0_turned_39 : decode cX0_turned 39 = .ok (.iconst 1, 1) := dk_4 (dk_at dksX0_turned_1 16 rfl rfl)
theorem dX0_turned_40 : decode cX0_turned 40 = .ok (.iadd, 1) := dk_96 (dk_at dksX0_turned_1 17 rfl rfl)
theorem dX0_turned_41 : decode cX0_turned 41 = .ok (.iload_n 3, 1) := dk_29 (dk_at dksX0_turned_1 18 rfl rfl)
theorem dX0_turned_42 : decode cX0_turned 42 = .ok (.if_icmp .le 5, 3) := dk_164 0 5 (dk_at dksX0_turned_1 19 rfl rfl)
theorem dX0_turned_45 : decode cX0_turned 45 = .ok (.iconst (-1), 1) := dk_2 (dk_at dksX0_turned_1 22 rfl rfl)
theorem dX0_turned_46 : decode cX0_turned 46 = .ok (.ireturn, 1) := dk_172 (dk_at dksX0_turned_1 23 rfl rfl)
theorem dX0_turned_47 : decode cX0_turned 47 = .ok (.iload 6, 2) := dk_21 6 (dk_at dksX0_turned_2 0 rfl rfl)
theorem dX0_turned_49 : decode cX0_turned 49 = .ok (.ldc 44, 2) := dk_18 44 (dk_at dksX0_turned_2 2 rfl rfl)
theorem dX0_turned_51 : decode cX0_turned 51 = .ok (.if_icmp .le 49, 3) := dk_164 0 49 (dk_at dksX0_turned_2 4 rfl rfl)
theorem dX0_turned_54 : decode cX0_turned 54 = .ok (.aload_n 0, 1) := dk_42 (dk_at dksX0_turned_2 7 rfl rfl)
theorem dX0_turned_55 : decode cX0_turned 55 = .ok (.getfield 20, 3) := dk_180 0 20 (dk_at dksX0_turned_2 8 rfl rfl)
theorem dX0_turned_58 : decode cX0_turned 58 = .ok (.iload 4, 2) := dk_21 4 (dk_at dksX0_turned_2 11 rfl rfl)
theorem dX0_turned_60 : decode cX0_turned 60 = .ok (.iinc 4 1, 3) := dk_132 4 1 (dk_at dksX0_turned_2 13 rfl rfl)
theorem dX0_turned_63 : decode cX0_turned 63 = .ok (.ldc 37, 2) := dk_18 37 (dk_at dksX0_turned_2 16 rfl rfl)
theorem dX0_turned_65 : decode cX0_turned 65 = .ok (.iload 6, 2) := dk_21 6 (dk_at dksX0_turned_2 18 rfl rfl)
theorem dX0_turned_67 : decode cX0_turned 67 = .ok (.ldc 39, 2) := dk_18 39 (dk_at dksX0_turned_2 20 rfl rfl)
theorem dX0_turned_69 : decode cX0_turned 69 = .ok (.isub, 1) := dk_100 (dk_at dksX0_turned_2 22 rfl rfl)
theorem dX0_turned_70 : decode cX0_turned 70 = .ok (.bipush 10, 2) := dk_16 10 (dk_at dksX0_turned_3 0 rfl rfl)
theorem dX0_turned_72 : decode cX0_turned 72 = .ok (.ishr, 1) := dk_122 (dk_at dksX0_turned_3 2 rfl rfl)
theorem dX0_turned_73 : decode cX0_turned 73 = .ok (.iadd, 1) := dk_96 (dk_at dksX0_turned_3 3 rfl rfl)
theorem dX0_turned_74 : decode cX0_turned 74 = .ok (.iastore, 1) := dk_79 (dk_at dksX0_turned_3 4 rfl rfl)
theorem dX0_turned_75 : decode cX0_turned 75 = .ok (.aload_n 0, 1) := dk_42 (dk_at dksX0_turned_3 5 rfl rfl)
theorem dX0_turned_76 : decode cX0_turned 76 = .ok (.getfield 20, 3) := dk_180 0 20 (dk_at dksX0_turned_3 6 rfl rfl)
theorem dX0_turned_79 : decode cX0_turned 79 = .ok (.iload 4, 2) := dk_21 4 (dk_at dksX0_turned_3 9 rfl rfl)
theorem dX0_turned_81 : decode cX0_turned 81 = .ok (.iinc 4 1, 3) := dk_132 4 1 (dk_at dksX0_turned_3 11 rfl rfl)
theorem dX0_turned_84 : decode cX0_turned 84 = .ok (.ldc 45, 2) := dk_18 45 (dk_at dksX0_turned_3 14 rfl rfl)
theorem dX0_turned_86 : decode cX0_turned 86 = .ok (.iload 6, 2) := dk_21 6 (dk_at dksX0_turned_3 16 rfl rfl)
theorem dX0_turned_88 : decode cX0_turned 88 = .ok (.ldc 39, 2) := dk_18 39 (dk_at dksX0_turned_3 18 rfl rfl)
theorem dX0_turned_90 : decode cX0_turned 90 = .ok (.isub, 1) := dk_100 (dk_at dksX0_turned_3 20 rfl rfl)
theorem dX0_turned_91 : decode cX0_turned 91 = .ok (.sipush 1023, 3) := dk_17 3 255 (dk_at dksX0_turned_3 21 rfl rfl)
theorem dX0_turned_94 : decode cX0_turned 94 = .ok (.iand, 1) := dk_126 (dk_at dksX0_turned_4 0 rfl rfl)
theorem dX0_turned_95 : decode cX0_turned 95 = .ok (.iadd, 1) := dk_96 (dk_at dksX0_turned_4 1 rfl rfl)
theorem dX0_turned_96 : decode cX0_turned 96 = .ok (.iastore, 1) := dk_79 (dk_at dksX0_turned_4 2 rfl rfl)
theorem dX0_turned_97 : decode cX0_turned 97 = .ok (.goto 15, 3) := dk_167 0 15 (dk_at dksX0_turned_4 3 rfl rfl)
theorem dX0_turned_100 : decode cX0_turned 100 = .ok (.aload_n 0, 1) := dk_42 (dk_at dksX0_turned_4 6 rfl rfl)
theorem dX0_turned_101 : decode cX0_turned 101 = .ok (.getfield 20, 3) := dk_180 0 20 (dk_at dksX0_turned_4 7 rfl rfl)
theorem dX0_turned_104 : decode cX0_turned 104 = .ok (.iload 4, 2) := dk_21 4 (dk_at dksX0_turned_4 10 rfl rfl)
theorem dX0_turned_106 : decode cX0_turned 106 = .ok (.iinc 4 1, 3) := dk_132 4 1 (dk_at dksX0_turned_4 12 rfl rfl)
theorem dX0_turned_109 : decode cX0_turned 109 = .ok (.iload 6, 2) := dk_21 6 (dk_at dksX0_turned_4 15 rfl rfl)
theorem dX0_turned_111 : decode cX0_turned 111 = .ok (.iastore, 1) := dk_79 (dk_at dksX0_turned_4 17 rfl rfl)
theorem dX0_turned_112 : decode cX0_turned 112 = .ok (.iload 5, 2) := dk_21 5 (dk_at dksX0_turned_4 18 rfl rfl)
theorem dX0_turned_114 : decode cX0_turned 114 = .ok (.iload 6, 2) := dk_21 6 (dk_at dksX0_turned_4 20 rfl rfl)
theorem dX0_turned_116 : decode cX0_turned 116 = .ok (.invokestatic 33, 3) := dk_184 0 33 (dk_at dksX0_turned_5 0 rfl rfl)
theorem dX0_turned_119 : decode cX0_turned 119 = .ok (.iadd, 1) := dk_96 (dk_at dksX0_turned_5 3 rfl rfl)
theorem dX0_turned_120 : decode cX0_turned 120 = .ok (.istore 5, 2) := dk_54 5 (dk_at dksX0_turned_5 4 rfl rfl)
theorem dX0_turned_122 : decode cX0_turned 122 = .ok (.goto (-116), 3) := dk_167 255 140 (dk_at dksX0_turned_5 6 rfl rfl)
theorem dX0_turned_125 : decode cX0_turned 125 = .ok (.iload 4, 2) := dk_21 4 (dk_at dksX0_turned_5 9 rfl rfl)
theorem dX0_turned_127 : decode cX0_turned 127 = .ok (.ireturn, 1) := dk_172 (dk_at dksX0_turned_5 11 rfl rfl)
abbrev cX0_number : ByteArray := method_4_code
def yX0_number : MethodName := ⟨RX0, "number", "(II)I"⟩
def dkwX0_number_7 : List UInt8 := [163, 0, 7, 2, 167, 0, 5, 21, 5, 172]
abbrev dktX0_number_7 : List UInt8 := dkwX0_number_7 ++ []
def dkwX0_number_6 : List UInt8 := [184, 0, 33, 160, 0, 24, 21, 5, 18, 36, 163, 0, 17, 21, 5, 18, 37, 161, 0, 14, 21, 5, 18, 38]
abbrev dktX0_number_6 : List UInt8 := dkwX0_number_6 ++ dktX0_number_7
def dkwX0_number_5 : List UInt8 := [21, 5, 16, 6, 120, 21, 7, 16, 63, 126, 128, 54, 5, 132, 6, 1, 167, 255, 200, 21, 4, 21, 5]
abbrev dktX0_number_5 : List UInt8 := dkwX0_number_5 ++ dktX0_number_6
def dkwX0_number_4 : List UInt8 := [17, 0, 255, 126, 54, 7, 21, 7, 17, 0, 128, 161, 0, 11, 21, 7, 17, 0, 191, 164, 0, 5, 2, 172]
abbrev dktX0_number_4 : List UInt8 := dkwX0_number_4 ++ dktX0_number_5
def dkwX0_number_3 : List UInt8 := [164, 0, 5, 2, 172, 4, 54, 6, 21, 6, 21, 4, 162, 0, 55, 42, 180, 0, 16, 27, 21, 6, 96, 51]
abbrev dktX0_number_3 : List UInt8 := dkwX0_number_3 ++ dktX0_number_4
def dkwX0_number_2 : List UInt8 := [16, 15, 126, 167, 0, 7, 29, 16, 7, 126, 54, 5, 21, 4, 153, 0, 11, 27, 21, 4, 96, 28]
abbrev dktX0_number_2 : List UInt8 := dkwX0_number_2 ++ dktX0_number_3
def dkwX0_number_1 : List UInt8 := [167, 0, 33, 21, 4, 5, 160, 0, 10, 29, 16, 31, 126, 167, 0, 20, 21, 4, 6, 160, 0, 10, 29]
abbrev dktX0_number_1 : List UInt8 := dkwX0_number_1 ++ dktX0_number_2
def dkwX0_number_0 : List UInt8 := [42, 180, 0, 16, 27, 51, 17, 0, 255, 126, 62, 29, 184, 0, 29, 54, 4, 21, 4, 4, 160, 0, 7, 29]
abbrev dktX0_number_0 : List UInt8 := dkwX0_number_0 ++ dktX0_number_1
theorem dksX0_number_0 : cX0_number.data.toList.drop 0 = dktX0_number_0 := by decide +kernel
theorem dksX0_number_1 : cX0_number.data.toList.drop 24 = dktX0_number_1 := dk_seg dksX0_number_0 24 rfl rfl
theorem dksX0_number_2 : cX0_number.data.toList.drop 47 = dktX0_number_2 := dk_seg dksX0_number_1 23 rfl rfl
theorem dksX0_number_3 : cX0_number.data.toList.drop 69 = dktX0_number_3 := dk_seg dksX0_number_2 22 rfl rfl
theorem dksX0_number_4 : cX0_number.data.toList.drop 93 = dktX0_number_4 := dk_seg dksX0_number_3 24 rfl rfl
theorem dksX0_number_5 : cX0_number.data.toList.drop 117 = dktX0_number_5 := dk_seg dksX0_number_4 24 rfl rfl
theorem dksX0_number_6 : cX0_number.data.toList.drop 140 = dktX0_number_6 := dk_seg dksX0_number_5 23 rfl rfl
theorem dksX0_number_7 : cX0_number.data.toList.drop 164 = dktX0_number_7 := dk_seg dksX0_number_6 24 rfl rfl
theorem dX0_number_0 : decode cX0_number 0 = .ok (.aload_n 0, 1) := dk_42 (dk_at dksX0_number_0 0 rfl rfl)
theorem dX0_number_1 : decode cX0_number 1 = .ok (.getfield 16, 3) := dk_180 0 16 (dk_at dksX0_number_0 1 rfl rfl)
theorem dX0_number_4 : decode cX0_number 4 = .ok (.iload_n 1, 1) := dk_27 (dk_at dksX0_number_0 4 rfl rfl)
theorem dX0_number_5 : decode cX0_number 5 = .ok (.baload, 1) := dk_51 (dk_at dksX0_number_0 5 rfl rfl)
theorem dX0_number_6 : decode cX0_number 6 = .ok (.sipush 255, 3) := dk_17 0 255 (dk_at dksX0_number_0 6 rfl rfl)
theorem dX0_number_9 : decode cX0_number 9 = .ok (.iand, 1) := dk_126 (dk_at dksX0_number_0 9 rfl rfl)
theorem dX0_number_10 : decode cX0_number 10 = .ok (.istore_n 3, 1) := dk_62 (dk_at dksX0_number_0 10 rfl rfl)
theorem dX0_number_11 : decode cX0_number 11 = .ok (.iload_n 3, 1) := dk_29 (dk_at dksX0_number_0 11 rfl rfl)
theorem dX0_number_12 : decode cX0_number 12 = .ok (.invokestatic 29, 3) := dk_184 0 29 (dk_at dksX0_number_0 12 rfl rfl)
theorem dX0_number_15 : decode cX0_number 15 = .ok (.istore 4, 2) := dk_54 4 (dk_at dksX0_number_0 15 rfl rfl)
theorem dX0_number_17 : decode cX0_number 17 = .ok (.iload 4, 2) := dk_21 4 (dk_at dksX0_number_0 17 rfl rfl)
theorem dX0_number_19 : decode cX0_number 19 = .ok (.iconst 1, 1) := dk_4 (dk_at dksX0_number_0 19 rfl rfl)
theorem dX0_number_20 : decode cX0_number 20 = .ok (.if_icmp .ne 7, 3) := dk_160 0 7 (dk_at dksX0_number_0 20 rfl rfl)
theorem dX0_number_23 : decode cX0_number 23 = .ok (.iload_n 3, 1) := dk_29 (dk_at dksX0_number_0 23 rfl rfl)
theorem dX0_number_24 : decode cX0_number 24 = .ok (.goto 33, 3) := dk_167 0 33 (dk_at dksX0_number_1 0 rfl rfl)
theorem dX0_number_27 : decode cX0_number 27 = .ok (.iload 4, 2) := dk_21 4 (dk_at dksX0_number_1 3 rfl rfl)
theorem dX0_number_29 : decode cX0_number 29 = .ok (.iconst 2, 1) := dk_5 (dk_at dksX0_number_1 5 rfl rfl)
theorem dX0_number_30 : decode cX0_number 30 = .ok (.if_icmp .ne 10, 3) := dk_160 0 10 (dk_at dksX0_number_1 6 rfl rfl)
theorem dX0_number_33 : decode cX0_number 33 = .ok (.iload_n 3, 1) := dk_29 (dk_at dksX0_number_1 9 rfl rfl)
theorem dX0_number_34 : decode cX0_number 34 = .ok (.bipush 31, 2) := dk_16 31 (dk_at dksX0_number_1 10 rfl rfl)
theorem dX0_number_36 : decode cX0_number 36 = .ok (.iand, 1) := dk_126 (dk_at dksX0_number_1 12 rfl rfl)
theorem dX0_number_37 : decode cX0_number 37 = .ok (.goto 20, 3) := dk_167 0 20 (dk_at dksX0_number_1 13 rfl rfl)
theorem dX0_number_40 : decode cX0_number 40 = .ok (.iload 4, 2) := dk_21 4 (dk_at dksX0_number_1 16 rfl rfl)
theorem dX0_number_42 : decode cX0_number 42 = .ok (.iconst 3, 1) := dk_6 (dk_at dksX0_number_1 18 rfl rfl)
theorem dX0_number_43 : decode cX0_number 43 = .ok (.if_icmp .ne 10, 3) := dk_160 0 10 (dk_at dksX0_number_1 19 rfl rfl)
theorem dX0_number_46 : decode cX0_number 46 = .ok (.iload_n 3, 1) := dk_29 (dk_at dksX0_number_1 22 rfl rfl)
theorem dX0_number_47 : decode cX0_number 47 = .ok (.bipush 15, 2) := dk_16 15 (dk_at dksX0_number_2 0 rfl rfl)
theorem dX0_number_49 : decode cX0_number 49 = .ok (.iand, 1) := dk_126 (dk_at dksX0_number_2 2 rfl rfl)
theorem dX0_number_50 : decode cX0_number 50 = .ok (.goto 7, 3) := dk_167 0 7 (dk_at dksX0_number_2 3 rfl rfl)
theorem dX0_number_53 : decode cX0_number 53 = .ok (.iload_n 3, 1) := dk_29 (dk_at dksX0_number_2 6 rfl rfl)
theorem dX0_number_54 : decode cX0_number 54 = .ok (.bipush 7, 2) := dk_16 7 (dk_at dksX0_number_2 7 rfl rfl)
theorem dX0_number_56 : decode cX0_number 56 = .ok (.iand, 1) := dk_126 (dk_at dksX0_number_2 9 rfl rfl)
theorem dX0_number_57 : decode cX0_number 57 = .ok (.istore 5, 2) := dk_54 5 (dk_at dksX0_number_2 10 rfl rfl)
theorem dX0_number_59 : decode cX0_number 59 = .ok (.iload 4, 2) := dk_21 4 (dk_at dksX0_number_2 12 rfl rfl)
theorem dX0_number_61 : decode cX0_number 61 = .ok (.ifCond .eq 11, 3) := dk_153 0 11 (dk_at dksX0_number_2 14 rfl rfl)
theorem dX0_number_64 : decode cX0_number 64 = .ok (.iload_n 1, 1) := dk_27 (dk_at dksX0_number_2 17 rfl rfl)
theorem dX0_number_65 : decode cX0_number 65 = .ok (.iload 4, 2) := dk_21 4 (dk_at dksX0_number_2 18 rfl rfl)
theorem dX0_number_67 : decode cX0_number 67 = .ok (.iadd, 1) := dk_96 (dk_at dksX0_number_2 20 rfl rfl)
theorem dX0_number_68 : decode cX0_number 68 = .ok (.iload_n 2, 1) := dk_28 (dk_at dksX0_number_2 21 rfl rfl)
theorem dX0_number_69 : decode cX0_number 69 = .ok (.if_icmp .le 5, 3) := dk_164 0 5 (dk_at dksX0_number_3 0 rfl rfl)
theorem dX0_number_72 : decode cX0_number 72 = .ok (.iconst (-1), 1) := dk_2 (dk_at dksX0_number_3 3 rfl rfl)
theorem dX0_number_73 : decode cX0_number 73 = .ok (.ireturn, 1) := dk_172 (dk_at dksX0_number_3 4 rfl rfl)
theorem dX0_number_74 : decode cX0_number 74 = .ok (.iconst 1, 1) := dk_4 (dk_at dksX0_number_3 5 rfl rfl)
theorem dX0_number_75 : decode cX0_number 75 = .ok (.istore 6, 2) := dk_54 6 (dk_at dksX0_number_3 6 rfl rfl)
theorem dX0_number_77 : decode cX0_number 77 = .ok (.iload 6, 2) := dk_21 6 (dk_at dksX0_number_3 8 rfl rfl)
theorem dX0_number_79 : decode cX0_number 79 = .ok (.iload 4, 2) := dk_21 4 (dk_at dksX0_number_3 10 rfl rfl)
theorem dX0_number_81 : decode cX0_number 81 = .ok (.if_icmp .ge 55, 3) := dk_162 0 55 (dk_at dksX0_number_3 12 rfl rfl)
theorem dX0_number_84 : decode cX0_number 84 = .ok (.aload_n 0, 1) := dk_42 (dk_at dksX0_number_3 15 rfl rfl)
theorem dX0_number_85 : decode cX0_number 85 = .ok (.getfield 16, 3) := dk_180 0 16 (dk_at dksX0_number_3 16 rfl rfl)
theorem dX0_number_88 : decode cX0_number 88 = .ok (.iload_n 1, 1) := dk_27 (dk_at dksX0_number_3 19 rfl rfl)
theorem dX0_number_89 : decode cX0_number 89 = .ok (.iload 6, 2) := dk_21 6 (dk_at dksX0_number_3 20 rfl rfl)
theorem dX0_number_91 : decode cX0_number 91 = .ok (.iadd, 1) := dk_96 (dk_at dksX0_number_3 22 rfl rfl)
theorem dX0_number_92 : decode cX0_number 92 = .ok (.baload, 1) := dk_51 (dk_at dksX0_number_3 23 rfl rfl)
theorem dX0_number_93 : decode cX0_number 93 = .ok (.sipush 255, 3) := dk_17 0 255 (dk_at dksX0_number_4 0 rfl rfl)
theorem dX0_number_96 : decode cX0_number 96 = .ok (.iand, 1) := dk_126 (dk_at dksX0_number_4 3 rfl rfl)
theorem dX0_number_97 : decode cX0_number 97 = .ok (.istore 7, 2) := dk_54 7 (dk_at dksX0_number_4 4 rfl rfl)
theorem dX0_number_99 : decode cX0_number 99 = .ok (.iload 7, 2) := dk_21 7 (dk_at dksX0_number_4 6 rfl rfl)
theorem dX0_number_101 : decode cX0_number 101 = .ok (.sipush 128, 3) := dk_17 0 128 (dk_at dksX0_number_4 8 rfl rfl)
theorem dX0_number_104 : decode cX0_number 104 = .ok (.if_icmp .lt 11, 3) := dk_161 0 11 (dk_at dksX0_number_4 11 rfl rfl)
theorem dX0_number_107 : decode cX0_number 107 = .ok (.iload 7, 2) := dk_21 7 (dk_at dksX0_number_4 14 rfl rfl)
theorem dX0_number_109 : decode cX0_number 109 = .ok (.sipush 191, 3) := dk_17 0 191 (dk_at dksX0_number_4 16 rfl rfl)
theorem dX0_number_112 : decode cX0_number 112 = .ok (.if_icmp .le 5, 3) := dk_164 0 5 (dk_at dksX0_number_4 19 rfl rfl)
theorem dX0_number_115 : decode cX0_number 115 = .ok (.iconst (-1), 1) := dk_2 (dk_at dksX0_number_4 22 rfl rfl)
theorem dX0_number_116 : decode cX0_number 116 = .ok (.ireturn, 1) := dk_172 (dk_at dksX0_number_4 23 rfl rfl)
theorem dX0_number_117 : decode cX0_number 117 = .ok (.iload 5, 2) := dk_21 5 (dk_at dksX0_number_5 0 rfl rfl)
theorem dX0_number_119 : decode cX0_number 119 = .ok (.bipush 6, 2) := dk_16 6 (dk_at dksX0_number_5 2 rfl rfl)
theorem dX0_number_121 : decode cX0_number 121 = .ok (.ishl, 1) := dk_120 (dk_at dksX0_number_5 4 rfl rfl)
theorem dX0_number_122 : decode cX0_number 122 = .ok (.iload 7, 2) := dk_21 7 (dk_at dksX0_number_5 5 rfl rfl)
theorem dX0_number_124 : decode cX0_number 124 = .ok (.bipush 63, 2) := dk_16 63 (dk_at dksX0_number_5 7 rfl rfl)
theorem dX0_number_126 : decode cX0_number 126 = .ok (.iand, 1) := dk_126 (dk_at dksX0_number_5 9 rfl rfl)
theorem dX0_number_127 : decode cX0_number 127 = .ok (.ior, 1) := dk_128 (dk_at dksX0_number_5 10 rfl rfl)
theorem dX0_number_128 : decode cX0_number 128 = .ok (.istore 5, 2) := dk_54 5 (dk_at dksX0_number_5 11 rfl rfl)
theorem dX0_number_130 : decode cX0_number 130 = .ok (.iinc 6 1, 3) := dk_132 6 1 (dk_at dksX0_number_5 13 rfl rfl)
theorem dX0_number_133 : decode cX0_number 133 = .ok (.goto (-56), 3) := dk_167 255 200 (dk_at dksX0_number_5 16 rfl rfl)
theorem dX0_number_136 : decode cX0_number 136 = .ok (.iload 4, 2) := dk_21 4 (dk_at dksX0_number_5 19 rfl rfl)
theorem dX0_number_138 : decode cX0_number 138 = .ok (.iload 5, 2) := dk_21 5 (dk_at dksX0_number_5 21 rfl rfl)
theorem dX0_number_140 : decode cX0_number 140 = .ok (.invokestatic 33, 3) := dk_184 0 33 (dk_at dksX0_number_6 0 rfl rfl)
theorem dX0_number_143 : decode cX0_number 143 = .ok (.if_icmp .ne 24, 3) := dk_160 0 24 (dk_at dksX0_number_6 3 rfl rfl)
theorem dX0_number_146 : decode cX0_number 146 = .ok (.iload 5, 2) := dk_21 5 (dk_at dksX0_number_6 6 rfl rfl)
theorem dX0_number_148 : decode cX0_number 148 = .ok (.ldc 36, 2) := dk_18 36 (dk_at dksX0_number_6 8 rfl rfl)
theorem dX0_number_150 : decode cX0_number 150 = .ok (.if_icmp .gt 17, 3) := dk_163 0 17 (dk_at dksX0_number_6 10 rfl rfl)
theorem dX0_number_153 : decode cX0_number 153 = .ok (.iload 5, 2) := dk_21 5 (dk_at dksX0_number_6 13 rfl rfl)
theorem dX0_number_155 : decode cX0_number 155 = .ok (.ldc 37, 2) := dk_18 37 (dk_at dksX0_number_6 15 rfl rfl)
theorem dX0_number_157 : decode cX0_number 157 = .ok (.if_icmp .lt 14, 3) := dk_161 0 14 (dk_at dksX0_number_6 17 rfl rfl)
theorem dX0_number_160 : decode cX0_number 160 = .ok (.iload 5, 2) := dk_21 5 (dk_at dksX0_number_6 20 rfl rfl)
theorem dX0_number_162 : decode cX0_number 162 = .ok (.ldc 38, 2) := dk_18 38 (dk_at dksX0_number_6 22 rfl rfl)
theorem dX0_number_164 : decode cX0_number 164 = .ok (.if_icmp .gt 7, 3) := dk_163 0 7 (dk_at dksX0_number_7 0 rfl rfl)
theorem dX0_number_167 : decode cX0_number 167 = .ok (.iconst (-1), 1) := dk_2 (dk_at dksX0_number_7 3 rfl rfl)
theorem dX0_number_168 : decode cX0_number 168 = .ok (.goto 5, 3) := dk_167 0 5 (dk_at dksX0_number_7 4 rfl rfl)
theorem dX0_number_171 : decode cX0_number 171 = .ok (.iload 5, 2) := dk_21 5 (dk_at dksX0_number_7 7 rfl rfl)
theorem dX0_number_173 : decode cX0_number 173 = .ok (.ireturn, 1) := dk_172 (dk_at dksX0_number_7 9 rfl rfl)
abbrev cX0_bytes : ByteArray := method_5_code
def yX0_bytes : MethodName := ⟨RX0, "bytes", "(I)I"⟩
def dkwX0_bytes_2 : List UInt8 := [17, 0, 248, 162, 0, 7, 7, 167, 0, 4, 3, 172]
abbrev dktX0_bytes_2 : List UInt8 := dkwX0_bytes_2 ++ []
def dkwX0_bytes_1 : List UInt8 := [17, 0, 224, 162, 0, 7, 5, 167, 0, 26, 26, 17, 0, 240, 162, 0, 7, 6, 167, 0, 15, 26]
abbrev dktX0_bytes_1 : List UInt8 := dkwX0_bytes_1 ++ dktX0_bytes_2
def dkwX0_bytes_0 : List UInt8 := [26, 17, 0, 128, 162, 0, 7, 4, 167, 0, 48, 26, 17, 0, 192, 162, 0, 7, 3, 167, 0, 37, 26]
abbrev dktX0_bytes_0 : List UInt8 := dkwX0_bytes_0 ++ dktX0_bytes_1
theorem dksX0_bytes_0 : cX0_bytes.data.toList.drop 0 = dktX0_bytes_0 := by decide +kernel
theorem dksX0_bytes_1 : cX0_bytes.data.toList.drop 23 = dktX0_bytes_1 := dk_seg dksX0_bytes_0 23 rfl rfl
theorem dksX0_bytes_2 : cX0_bytes.data.toList.drop 45 = dktX0_bytes_2 := dk_seg dksX0_bytes_1 22 rfl rfl
theorem dX0_bytes_0 : decode cX0_bytes 0 = .ok (.iload_n 0, 1) := dk_26 (dk_at dksX0_bytes_0 0 rfl rfl)
theorem dX0_bytes_1 : decode cX0_bytes 1 = .ok (.sipush 128, 3) := dk_17 0 128 (dk_at dksX0_bytes_0 1 rfl rfl)
theorem dX0_bytes_4 : decode cX0_bytes 4 = .ok (.if_icmp .ge 7, 3) := dk_162 0 7 (dk_at dksX0_bytes_0 4 rfl rfl)
theorem dX0_bytes_7 : decode cX0_bytes 7 = .ok (.iconst 1, 1) := dk_4 (dk_at dksX0_bytes_0 7 rfl rfl)
theorem dX0_bytes_8 : decode cX0_bytes 8 = .ok (.goto 48, 3) := dk_167 0 48 (dk_at dksX0_bytes_0 8 rfl rfl)
theorem dX0_bytes_11 : decode cX0_bytes 11 = .ok (.iload_n 0, 1) := dk_26 (dk_at dksX0_bytes_0 11 rfl rfl)
theorem dX0_bytes_12 : decode cX0_bytes 12 = .ok (.sipush 192, 3) := dk_17 0 192 (dk_at dksX0_bytes_0 12 rfl rfl)
theorem dX0_bytes_15 : decode cX0_bytes 15 = .ok (.if_icmp .ge 7, 3) := dk_162 0 7 (dk_at dksX0_bytes_0 15 rfl rfl)
theorem dX0_bytes_18 : decode cX0_bytes 18 = .ok (.iconst 0, 1) := dk_3 (dk_at dksX0_bytes_0 18 rfl rfl)
theorem dX0_bytes_19 : decode cX0_bytes 19 = .ok (.goto 37, 3) := dk_167 0 37 (dk_at dksX0_bytes_0 19 rfl rfl)
theorem dX0_bytes_22 : decode cX0_bytes 22 = .ok (.iload_n 0, 1) := dk_26 (dk_at dksX0_bytes_0 22 rfl rfl)
theorem dX0_bytes_23 : decode cX0_bytes 23 = .ok (.sipush 224, 3) := dk_17 0 224 (dk_at dksX0_bytes_1 0 rfl rfl)
theorem dX0_bytes_26 : decode cX0_bytes 26 = .ok (.if_icmp .ge 7, 3) := dk_162 0 7 (dk_at dksX0_bytes_1 3 rfl rfl)
theorem dX0_bytes_29 : decode cX0_bytes 29 = .ok (.iconst 2, 1) := dk_5 (dk_at dksX0_bytes_1 6 rfl rfl)
theorem dX0_bytes_30 : decode cX0_bytes 30 = .ok (.goto 26, 3) := dk_167 0 26 (dk_at dksX0_bytes_1 7 rfl rfl)
theorem dX0_bytes_33 : decode cX0_bytes 33 = .ok (.iload_n 0, 1) := dk_26 (dk_at dksX0_bytes_1 10 rfl rfl)
theorem dX0_bytes_34 : decode cX0_bytes 34 = .ok (.sipush 240, 3) := dk_17 0 240 (dk_at dksX0_bytes_1 11 rfl rfl)
theorem dX0_bytes_37 : decode cX0_bytes 37 = .ok (.if_icmp .ge 7, 3) := dk_162 0 7 (dk_at dksX0_bytes_1 14 rfl rfl)
theorem dX0_bytes_40 : decode cX0_bytes 40 = .ok (.iconst 3, 1) := dk_6 (dk_at dksX0_bytes_1 17 rfl rfl)
theorem dX0_bytes_41 : decode cX0_bytes 41 = .ok (.goto 15, 3) := dk_167 0 15 (dk_at dksX0_bytes_1 18 rfl rfl)
theorem dX0_bytes_44 : decode cX0_bytes 44 = .ok (.iload_n 0, 1) := dk_26 (dk_at dksX0_bytes_1 21 rfl rfl)
theorem dX0_bytes_45 : decode cX0_bytes 45 = .ok (.sipush 248, 3) := dk_17 0 248 (dk_at dksX0_bytes_2 0 rfl rfl)
theorem dX0_bytes_48 : decode cX0_bytes 48 = .ok (.if_icmp .ge 7, 3) := dk_162 0 7 (dk_at dksX0_bytes_2 3 rfl rfl)
theorem dX0_bytes_51 : decode cX0_bytes 51 = .ok (.iconst 4, 1) := dk_7 (dk_at dksX0_bytes_2 6 rfl rfl)
theorem dX0_bytes_52 : decode cX0_bytes 52 = .ok (.goto 4, 3) := dk_167 0 4 (dk_at dksX0_bytes_2 7 rfl rfl)
theorem dX0_bytes_55 : decode cX0_bytes 55 = .ok (.iconst 0, 1) := dk_3 (dk_at dksX0_bytes_2 10 rfl rfl)
theorem dX0_bytes_56 : decode cX0_bytes 56 = .ok (.ireturn, 1) := dk_172 (dk_at dksX0_bytes_2 11 rfl rfl)
abbrev cX0_needed : ByteArray := method_6_code
def yX0_needed : MethodName := ⟨RX0, "needed", "(I)I"⟩
def dkwX0_needed_1 : List UInt8 := [18, 39, 162, 0, 7, 6, 167, 0, 4, 7, 172]
abbrev dktX0_needed_1 : List UInt8 := dkwX0_needed_1 ++ []
def dkwX0_needed_0 : List UInt8 := [26, 17, 0, 128, 162, 0, 7, 4, 167, 0, 25, 26, 17, 8, 0, 162, 0, 7, 5, 167, 0, 14, 26]
abbrev dktX0_needed_0 : List UInt8 := dkwX0_needed_0 ++ dktX0_needed_1
theorem dksX0_needed_0 : cX0_needed.data.toList.drop 0 = dktX0_needed_0 := by decide +kernel
theorem dksX0_needed_1 : cX0_needed.data.toList.drop 23 = dktX0_needed_1 := dk_seg dksX0_needed_0 23 rfl rfl
theorem dX0_needed_0 : decode cX0_needed 0 = .ok (.iload_n 0, 1) := dk_26 (dk_at dksX0_needed_0 0 rfl rfl)
theorem dX0_needed_1 : decode cX0_needed 1 = .ok (.sipush 128, 3) := dk_17 0 128 (dk_at dksX0_needed_0 1 rfl rfl)
theorem dX0_needed_4 : decode cX0_needed 4 = .ok (.if_icmp .ge 7, 3) := dk_162 0 7 (dk_at dksX0_needed_0 4 rfl rfl)
theorem dX0_needed_7 : decode cX0_needed 7 = .ok (.iconst 1, 1) := dk_4 (dk_at dksX0_needed_0 7 rfl rfl)
theorem dX0_needed_8 : decode cX0_needed 8 = .ok (.goto 25, 3) := dk_167 0 25 (dk_at dksX0_needed_0 8 rfl rfl)
theorem dX0_needed_11 : decode cX0_needed 11 = .ok (.iload_n 0, 1) := dk_26 (dk_at dksX0_needed_0 11 rfl rfl)
theorem dX0_needed_12 : decode cX0_needed 12 = .ok (.sipush 2048, 3) := dk_17 8 0 (dk_at dksX0_needed_0 12 rfl rfl)
theorem dX0_needed_15 : decode cX0_needed 15 = .ok (.if_icmp .ge 7, 3) := dk_162 0 7 (dk_at dksX0_needed_0 15 rfl rfl)
theorem dX0_needed_18 : decode cX0_needed 18 = .ok (.iconst 2, 1) := dk_5 (dk_at dksX0_needed_0 18 rfl rfl)
theorem dX0_needed_19 : decode cX0_needed 19 = .ok (.goto 14, 3) := dk_167 0 14 (dk_at dksX0_needed_0 19 rfl rfl)
theorem dX0_needed_22 : decode cX0_needed 22 = .ok (.iload_n 0, 1) := dk_26 (dk_at dksX0_needed_0 22 rfl rfl)
theorem dX0_needed_23 : decode cX0_needed 23 = .ok (.ldc 39, 2) := dk_18 39 (dk_at dksX0_needed_1 0 rfl rfl)
theorem dX0_needed_25 : decode cX0_needed 25 = .ok (.if_icmp .ge 7, 3) := dk_162 0 7 (dk_at dksX0_needed_1 2 rfl rfl)
theorem dX0_needed_28 : decode cX0_needed 28 = .ok (.iconst 3, 1) := dk_6 (dk_at dksX0_needed_1 5 rfl rfl)
theorem dX0_needed_29 : decode cX0_needed 29 = .ok (.goto 4, 3) := dk_167 0 4 (dk_at dksX0_needed_1 6 rfl rfl)
theorem dX0_needed_32 : decode cX0_needed 32 = .ok (.iconst 4, 1) := dk_7 (dk_at dksX0_needed_1 9 rfl rfl)
theorem dX0_needed_33 : decode cX0_needed 33 = .ok (.ireturn, 1) := dk_172 (dk_at dksX0_needed_1 10 rfl rfl)
abbrev cX0_isUnit : ByteArray := method_9_code
def yX0_isUnit : MethodName := ⟨RX0, "isUnit", "(I)Z"⟩
def dkwX0_isUnit_1 : List UInt8 := [42, 180, 0, 24, 184, 0, 49, 46, 160, 0, 7, 4, 167, 0, 4, 3, 172]
abbrev dktX0_isUnit_1 : List UInt8 := dkwX0_isUnit_1 ++ []
def dkwX0_isUnit_0 : List UInt8 := [42, 180, 0, 10, 27, 182, 0, 59, 42, 180, 0, 24, 157, 0, 7, 2, 167, 0, 16, 42, 180, 0, 20, 27]
abbrev dktX0_isUnit_0 : List UInt8 := dkwX0_isUnit_0 ++ dktX0_isUnit_1
theorem dksX0_isUnit_0 : cX0_isUnit.data.toList.drop 0 = dktX0_isUnit_0 := by decide +kernel
theorem dksX0_isUnit_1 : cX0_isUnit.data.toList.drop 24 = dktX0_isUnit_1 := dk_seg dksX0_isUnit_0 24 rfl rfl
theorem dX0_isUnit_0 : decode cX0_isUnit 0 = .ok (.aload_n 0, 1) := dk_42 (dk_at dksX0_isUnit_0 0 rfl rfl)
theorem dX0_isUnit_1 : decode cX0_isUnit 1 = .ok (.getfield 10, 3) := dk_180 0 10 (dk_at dksX0_isUnit_0 1 rfl rfl)
theorem dX0_isUnit_4 : decode cX0_isUnit 4 = .ok (.iload_n 1, 1) := dk_27 (dk_at dksX0_isUnit_0 4 rfl rfl)
theorem dX0_isUnit_5 : decode cX0_isUnit 5 = .ok (.invokevirtual 59, 3) := dk_182 0 59 (dk_at dksX0_isUnit_0 5 rfl rfl)
theorem dX0_isUnit_8 : decode cX0_isUnit 8 = .ok (.aload_n 0, 1) := dk_42 (dk_at dksX0_isUnit_0 8 rfl rfl)
theorem dX0_isUnit_9 : decode cX0_isUnit 9 = .ok (.getfield 24, 3) := dk_180 0 24 (dk_at dksX0_isUnit_0 9 rfl rfl)
theorem dX0_isUnit_12 : decode cX0_isUnit 12 = .ok (.ifCond .gt 7, 3) := dk_157 0 7 (dk_at dksX0_isUnit_0 12 rfl rfl)
theorem dX0_isUnit_15 : decode cX0_isUnit 15 = .ok (.iconst (-1), 1) := dk_2 (dk_at dksX0_isUnit_0 15 rfl rfl)
theorem dX0_isUnit_16 : decode cX0_isUnit 16 = .ok (.goto 16, 3) := dk_167 0 16 (dk_at dksX0_isUnit_0 16 rfl rfl)
theorem dX0_isUnit_19 : decode cX0_isUnit 19 = .ok (.aload_n 0, 1) := dk_42 (dk_at dksX0_isUnit_0 19 rfl rfl)
theorem dX0_isUnit_20 : decode cX0_isUnit 20 = .ok (.getfield 20, 3) := dk_180 0 20 (dk_at dksX0_isUnit_0 20 rfl rfl)
theorem dX0_isUnit_23 : decode cX0_isUnit 23 = .ok (.iload_n 1, 1) := dk_27 (dk_at dksX0_isUnit_0 23 rfl rfl)
theorem dX0_isUnit_24 : decode cX0_isUnit 24 = .ok (.aload_n 0, 1) := dk_42 (dk_at dksX0_isUnit_1 0 rfl rfl)
theorem dX0_isUnit_25 : decode cX0_isUnit 25 = .ok (.getfield 24, 3) := dk_180 0 24 (dk_at dksX0_isUnit_1 1 rfl rfl)
theorem dX0_isUnit_28 : decode cX0_isUnit 28 = .ok (.invokestatic 49, 3) := dk_184 0 49 (dk_at dksX0_isUnit_1 4 rfl rfl)
theorem dX0_isUnit_31 : decode cX0_isUnit 31 = .ok (.iaload, 1) := dk_46 (dk_at dksX0_isUnit_1 7 rfl rfl)
theorem dX0_isUnit_32 : decode cX0_isUnit 32 = .ok (.if_icmp .ne 7, 3) := dk_160 0 7 (dk_at dksX0_isUnit_1 8 rfl rfl)
theorem dX0_isUnit_35 : decode cX0_isUnit 35 = .ok (.iconst 1, 1) := dk_4 (dk_at dksX0_isUnit_1 11 rfl rfl)
theorem dX0_isUnit_36 : decode cX0_isUnit 36 = .ok (.goto 4, 3) := dk_167 0 4 (dk_at dksX0_isUnit_1 12 rfl rfl)
theorem dX0_isUnit_39 : decode cX0_isUnit 39 = .ok (.iconst 0, 1) := dk_3 (dk_at dksX0_isUnit_1 15 rfl rfl)
theorem dX0_isUnit_40 : decode cX0_isUnit 40 = .ok (.ireturn, 1) := dk_172 (dk_at dksX0_isUnit_1 16 rfl rfl)
abbrev cX0_step : ByteArray := method_13_code
def yX0_step : MethodName := ⟨RX0, "step", "(IIIIII)Z"⟩
def dkwX0_step_17 : List UInt8 := [153, 0, 7, 4, 167, 0, 4, 3, 172]
abbrev dktX0_step_17 : List UInt8 := dkwX0_step_17 ++ []
def dkwX0_step_16 : List UInt8 := [21, 5, 182, 0, 78, 153, 0, 24, 42, 3, 42, 180, 0, 46, 17, 0, 160, 21, 6, 182, 0, 78]
abbrev dktX0_step_16 : List UInt8 := dkwX0_step_16 ++ dktX0_step_17
def dkwX0_step_15 : List UInt8 := [29, 21, 4, 21, 5, 21, 6, 182, 0, 78, 153, 0, 7, 4, 167, 0, 4, 3, 172, 42, 28, 29, 21, 4]
abbrev dktX0_step_15 : List UInt8 := dkwX0_step_15 ++ dktX0_step_16
def dkwX0_step_14 : List UInt8 := [21, 6, 6, 126, 154, 0, 11, 42, 180, 0, 10, 28, 182, 0, 87, 42, 28, 182, 0, 62, 153, 0, 21, 42]
abbrev dktX0_step_14 : List UInt8 := dkwX0_step_14 ++ dktX0_step_15
def dkwX0_step_13 : List UInt8 := [154, 0, 16, 28, 42, 180, 0, 46, 4, 96, 184, 0, 49, 167, 0, 7, 42, 180, 0, 46, 181, 0, 46]
abbrev dktX0_step_13 : List UInt8 := dkwX0_step_13 ++ dktX0_step_14
def dkwX0_step_12 : List UInt8 := [180, 0, 46, 21, 6, 21, 4, 182, 0, 78, 153, 0, 7, 4, 167, 0, 4, 3, 172, 42, 21, 6, 6, 126]
abbrev dktX0_step_12 : List UInt8 := dkwX0_step_12 ++ dktX0_step_13
def dkwX0_step_11 : List UInt8 := [153, 0, 40, 42, 3, 42, 180, 0, 46, 17, 0, 160, 21, 5, 182, 0, 78, 153, 0, 23, 42, 3, 42]
abbrev dktX0_step_11 : List UInt8 := dkwX0_step_11 ++ dktX0_step_12
def dkwX0_step_10 : List UInt8 := [17, 0, 128, 21, 4, 16, 63, 126, 128, 167, 0, 12, 17, 0, 192, 21, 4, 16, 63, 126, 128, 182, 0, 86]
abbrev dktX0_step_10 : List UInt8 := dkwX0_step_10 ++ dktX0_step_11
def dkwX0_step_9 : List UInt8 := [21, 6, 28, 182, 0, 78, 153, 0, 7, 4, 167, 0, 4, 3, 172, 42, 28, 29, 4, 126, 154, 0, 15]
abbrev dktX0_step_9 : List UInt8 := dkwX0_step_9 ++ dktX0_step_10
def dkwX0_step_8 : List UInt8 := [153, 0, 7, 4, 167, 0, 4, 3, 172, 42, 28, 29, 182, 0, 86, 153, 0, 21, 42, 21, 4, 21, 5]
abbrev dktX0_step_8 : List UInt8 := dkwX0_step_8 ++ dktX0_step_9
def dkwX0_step_7 : List UInt8 := [182, 0, 83, 153, 0, 27, 42, 21, 5, 18, 37, 21, 6, 17, 31, 255, 126, 96, 21, 4, 182, 0, 83]
abbrev dktX0_step_7 : List UInt8 := dkwX0_step_7 ++ dktX0_step_8
def dkwX0_step_6 : List UInt8 := [21, 4, 182, 0, 83, 153, 0, 7, 4, 167, 0, 4, 3, 172, 42, 28, 29, 17, 7, 255, 126, 21, 4]
abbrev dktX0_step_6 : List UInt8 := dkwX0_step_6 ++ dktX0_step_7
def dkwX0_step_5 : List UInt8 := [167, 0, 4, 3, 172, 42, 28, 29, 21, 4, 182, 0, 83, 153, 0, 23, 42, 21, 5, 21, 6, 18, 44, 126]
abbrev dktX0_step_5 : List UInt8 := dkwX0_step_5 ++ dktX0_step_6
def dkwX0_step_4 : List UInt8 := [182, 0, 81, 153, 0, 24, 42, 3, 42, 180, 0, 46, 17, 0, 160, 21, 6, 182, 0, 78, 153, 0, 7, 4]
abbrev dktX0_step_4 : List UInt8 := dkwX0_step_4 ++ dktX0_step_5
def dkwX0_step_3 : List UInt8 := [167, 0, 4, 3, 172, 42, 28, 18, 82, 126, 29, 18, 82, 126, 21, 4, 18, 82, 126, 21, 5, 18, 82, 126]
abbrev dktX0_step_3 : List UInt8 := dkwX0_step_3 ++ dktX0_step_4
def dkwX0_step_2 : List UInt8 := [42, 28, 29, 21, 4, 21, 5, 182, 0, 81, 153, 0, 16, 42, 21, 6, 182, 0, 62, 153, 0, 7, 4]
abbrev dktX0_step_2 : List UInt8 := dkwX0_step_2 ++ dktX0_step_3
def dkwX0_step_1 : List UInt8 := [170, 0, 0, 0, 0, 0, 1, 112, 0, 0, 0, 0, 0, 0, 0, 6, 0, 0, 0, 44, 0, 0, 0, 72, 0, 0, 0, 120, 0, 0, 0, 153, 0, 0, 0, 194, 0, 0, 0, 223, 0, 0, 1, 41]
abbrev dktX0_step_1 : List UInt8 := dkwX0_step_1 ++ dktX0_step_2
def dkwX0_step_0 : List UInt8 := [27, 16, 7, 126]
abbrev dktX0_step_0 : List UInt8 := dkwX0_step_0 ++ dktX0_step_1
theorem dksX0_step_0 : cX0_step.data.toList.drop 0 = dktX0_step_0 := by decide +kernel
theorem dksX0_step_1 : cX0_step.data.toList.drop 4 = dktX0_step_1 := dk_seg dksX0_step_0 4 rfl rfl
theorem dksX0_step_2 : cX0_step.data.toList.drop 48 = dktX0_step_2 := dk_seg dksX0_step_1 44 rfl rfl
theorem dksX0_step_3 : cX0_step.data.toList.drop 71 = dktX0_step_3 := dk_seg dksX0_step_2 23 rfl rfl
theorem dksX0_step_4 : cX0_step.data.toList.drop 95 = dktX0_step_4 := dk_seg dksX0_step_3 24 rfl rfl
theorem dksX0_step_5 : cX0_step.data.toList.drop 119 = dktX0_step_5 := dk_seg dksX0_step_4 24 rfl rfl
theorem dksX0_step_6 : cX0_step.data.toList.drop 143 = dktX0_step_6 := dk_seg dksX0_step_5 24 rfl rfl
theorem dksX0_step_7 : cX0_step.data.toList.drop 166 = dktX0_step_7 := dk_seg dksX0_step_6 23 rfl rfl
theorem dksX0_step_8 : cX0_step.data.toList.drop 189 = dktX0_step_8 := dk_seg dksX0_step_7 23 rfl rfl
theorem dksX0_step_9 : cX0_step.data.toList.drop 212 = dktX0_step_9 := dk_seg dksX0_step_8 23 rfl rfl
theorem dksX0_step_10 : cX0_step.data.toList.drop 235 = dktX0_step_10 := dk_seg dksX0_step_9 23 rfl rfl
theorem dksX0_step_11 : cX0_step.data.toList.drop 259 = dktX0_step_11 := dk_seg dksX0_step_10 24 rfl rfl
theorem dksX0_step_12 : cX0_step.data.toList.drop 282 = dktX0_step_12 := dk_seg dksX0_step_11 23 rfl rfl
theorem dksX0_step_13 : cX0_step.data.toList.drop 306 = dktX0_step_13 := dk_seg dksX0_step_12 24 rfl rfl
theorem dksX0_step_14 : cX0_step.data.toList.drop 329 = dktX0_step_14 := dk_seg dksX0_step_13 23 rfl rfl
theorem dksX0_step_15 : cX0_step.data.toList.drop 353 = dktX0_step_15 := dk_seg dksX0_step_14 24 rfl rfl
theorem dksX0_step_16 : cX0_step.data.toList.drop 377 = dktX0_step_16 := dk_seg dksX0_step_15 24 rfl rfl
theorem dksX0_step_17 : cX0_step.data.toList.drop 399 = dktX0_step_17 := dk_seg dksX0_step_16 22 rfl rfl
theorem dX0_step_0 : decode cX0_step 0 = .ok (.iload_n 1, 1) := dk_27 (dk_at dksX0_step_0 0 rfl rfl)
theorem dX0_step_1 : decode cX0_step 1 = .ok (.bipush 7, 2) := dk_16 7 (dk_at dksX0_step_0 1 rfl rfl)
theorem dX0_step_3 : decode cX0_step 3 = .ok (.iand, 1) := dk_126 (dk_at dksX0_step_0 3 rfl rfl)
theorem dX0_step_4 : decode cX0_step 4 = .ok (.tableswitch 368 0 6 #[44, 72, 120, 153, 194, 223, 297], 44) := by decide +kernel
theorem dX0_step_48 : decode cX0_step 48 = .ok (.aload_n 0, 1) := dk_42 (dk_at dksX0_step_2 0 rfl rfl)
theorem dX0_step_49 : decode cX0_step 49 = .ok (.iload_n 2, 1) := dk_28 (dk_at dksX0_step_2 1 rfl rfl)
theorem dX0_step_50 : decode cX0_step 50 = .ok (.iload_n 3, 1) := dk_29 (dk_at dksX0_step_2 2 rfl rfl)
theorem dX0_step_51 : decode cX0_step 51 = .ok (.iload 4, 2) := dk_21 4 (dk_at dksX0_step_2 3 rfl rfl)
theorem dX0_step_53 : decode cX0_step 53 = .ok (.iload 5, 2) := dk_21 5 (dk_at dksX0_step_2 5 rfl rfl)
theorem dX0_step_55 : decode cX0_step 55 = .ok (.invokevirtual 81, 3) := dk_182 0 81 (dk_at dksX0_step_2 7 rfl rfl)
theorem dX0_step_58 : decode cX0_step 58 = .ok (.ifCond .eq 16, 3) := dk_153 0 16 (dk_at dksX0_step_2 10 rfl rfl)
theorem dX0_step_61 : decode cX0_step 61 = .ok (.aload_n 0, 1) := dk_42 (dk_at dksX0_step_2 13 rfl rfl)
theorem dX0_step_62 : decode cX0_step 62 = .ok (.iload 6, 2) := dk_21 6 (dk_at dksX0_step_2 14 rfl rfl)
theorem dX0_step_64 : decode cX0_step 64 = .ok (.invokevirtual 62, 3) := dk_182 0 62 (dk_at dksX0_step_2 16 rfl rfl)
theorem dX0_step_67 : decode cX0_step 67 = .ok (.ifCond .eq 7, 3) := dk_153 0 7 (dk_at dksX0_step_2 19 rfl rfl)
theorem dX0_step_70 : decode cX0_step 70 = .ok (.iconst 1, 1) := dk_4 (dk_at dksX0_step_2 22 rfl rfl)
theorem dX0_step_71 : decode cX0_step 71 = .ok (.goto 4, 3) := dk_167 0 4 (dk_at dksX0_step_3 0 rfl rfl)
theorem dX0_step_74 : decode cX0_step 74 = .ok (.iconst 0, 1) := dk_3 (dk_at dksX0_step_3 3 rfl rfl)
theorem dX0_step_75 : decode cX0_step 75 = .ok (.ireturn, 1) := dk_172 (dk_at dksX0_step_3 4 rfl rfl)
theorem dX0_step_76 : decode cX0_step 76 = .ok (.aload_n 0, 1) := dk_42 (dk_at dksX0_step_3 5 rfl rfl)
theorem dX0_step_77 : decode cX0_step 77 = .ok (.iload_n 2, 1) := dk_28 (dk_at dksX0_step_3 6 rfl rfl)
theorem dX0_step_78 : decode cX0_step 78 = .ok (.ldc 82, 2) := dk_18 82 (dk_at dksX0_step_3 7 rfl rfl)
theorem dX0_step_80 : decode cX0_step 80 = .ok (.iand, 1) := dk_126 (dk_at dksX0_step_3 9 rfl rfl)
theorem dX0_step_81 : decode cX0_step 81 = .ok (.iload_n 3, 1) := dk_29 (dk_at dksX0_step_3 10 rfl rfl)
theorem dX0_step_82 : decode cX0_step 82 = .ok (.ldc 82, 2) := dk_18 82 (dk_at dksX0_step_3 11 rfl rfl)
theorem dX0_step_84 : decode cX0_step 84 = .ok (.iand, 1) := dk_126 (dk_at dksX0_step_3 13 rfl rfl)
theorem dX0_step_85 : decode cX0_step 85 = .ok (.iload 4, 2) := dk_21 4 (dk_at dksX0_step_3 14 rfl rfl)
theorem dX0_step_87 : decode cX0_step 87 = .ok (.ldc 82, 2) := dk_18 82 (dk_at dksX0_step_3 16 rfl rfl)
theorem dX0_step_89 : decode cX0_step 89 = .ok (.iand, 1) := dk_126 (dk_at dksX0_step_3 18 rfl rfl)
theorem dX0_step_90 : decode cX0_step 90 = .ok (.iload 5, 2) := dk_21 5 (dk_at dksX0_step_3 19 rfl rfl)
theorem dX0_step_92 : decode cX0_step 92 = .ok (.ldc 82, 2) := dk_18 82 (dk_at dksX0_step_3 21 rfl rfl)
theorem dX0_step_94 : decode cX0_step 94 = .ok (.iand, 1) := dk_126 (dk_at dksX0_step_3 23 rfl rfl)
theorem dX0_step_95 : decode cX0_step 95 = .ok (.invokevirtual 81, 3) := dk_182 0 81 (dk_at dksX0_step_4 0 rfl rfl)
theorem dX0_step_98 : decode cX0_step 98 = .ok (.ifCond .eq 24, 3) := dk_153 0 24 (dk_at dksX0_step_4 3 rfl rfl)
theorem dX0_step_101 : decode cX0_step 101 = .ok (.aload_n 0, 1) := dk_42 (dk_at dksX0_step_4 6 rfl rfl)
theorem dX0_step_102 : decode cX0_step 102 = .ok (.iconst 0, 1) := dk_3 (dk_at dksX0_step_4 7 rfl rfl)
theorem dX0_step_103 : decode cX0_step 103 = .ok (.aload_n 0, 1) := dk_42 (dk_at dksX0_step_4 8 rfl rfl)
theorem dX0_step_104 : decode cX0_step 104 = .ok (.getfield 46, 3) := dk_180 0 46 (dk_at dksX0_step_4 9 rfl rfl)
theorem dX0_step_107 : decode cX0_step 107 = .ok (.sipush 160, 3) := dk_17 0 160 (dk_at dksX0_step_4 12 rfl rfl)
theorem dX0_step_110 : decode cX0_step 110 = .ok (.iload 6, 2) := dk_21 6 (dk_at dksX0_step_4 15 rfl rfl)
theorem dX0_step_112 : decode cX0_step 112 = .ok (.invokevirtual 78, 3) := dk_182 0 78 (dk_at dksX0_step_4 17 rfl rfl)
theorem dX0_step_115 : decode cX0_step 115 = .ok (.ifCond .eq 7, 3) := dk_153 0 7 (dk_at dksX0_step_4 20 rfl rfl)
theorem dX0_step_118 : decode cX0_step 118 = .ok (.iconst 1, 1) := dk_4 (dk_at dksX0_step_4 23 rfl rfl)
theorem dX0_step_119 : decode cX0_step 119 = .ok (.goto 4, 3) := dk_167 0 4 (dk_at dksX0_step_5 0 rfl rfl)
theorem dX0_step_122 : decode cX0_step 122 = .ok (.iconst 0, 1) := dk_3 (dk_at dksX0_step_5 3 rfl rfl)
theorem dX0_step_123 : decode cX0_step 123 = .ok (.ireturn, 1) := dk_172 (dk_at dksX0_step_5 4 rfl rfl)
theorem dX0_step_124 : decode cX0_step 124 = .ok (.aload_n 0, 1) := dk_42 (dk_at dksX0_step_5 5 rfl rfl)
theorem dX0_step_125 : decode cX0_step 125 = .ok (.iload_n 2, 1) := dk_28 (dk_at dksX0_step_5 6 rfl rfl)
theorem dX0_step_126 : decode cX0_step 126 = .ok (.iload_n 3, 1) := dk_29 (dk_at dksX0_step_5 7 rfl rfl)
theorem dX0_step_127 : decode cX0_step 127 = .ok (.iload 4, 2) := dk_21 4 (dk_at dksX0_step_5 8 rfl rfl)
theorem dX0_step_129 : decode cX0_step 129 = .ok (.invokevirtual 83, 3) := dk_182 0 83 (dk_at dksX0_step_5 10 rfl rfl)
theorem dX0_step_132 : decode cX0_step 132 = .ok (.ifCond .eq 23, 3) := dk_153 0 23 (dk_at dksX0_step_5 13 rfl rfl)
theorem dX0_step_135 : decode cX0_step 135 = .ok (.aload_n 0, 1) := dk_42 (dk_at dksX0_step_5 16 rfl rfl)
theorem dX0_step_136 : decode cX0_step 136 = .ok (.iload 5, 2) := dk_21 5 (dk_at dksX0_step_5 17 rfl rfl)
theorem dX0_step_138 : decode cX0_step 138 = .ok (.iload 6, 2) := dk_21 6 (dk_at dksX0_step_5 19 rfl rfl)
theorem dX0_step_140 : decode cX0_step 140 = .ok (.ldc 44, 2) := dk_18 44 (dk_at dksX0_step_5 21 rfl rfl)
theorem dX0_step_142 : decode cX0_step 142 = .ok (.iand, 1) := dk_126 (dk_at dksX0_step_5 23 rfl rfl)
theorem dX0_step_143 : decode cX0_step 143 = .ok (.iload 4, 2) := dk_21 4 (dk_at dksX0_step_6 0 rfl rfl)
theorem dX0_step_145 : decode cX0_step 145 = .ok (.invokevirtual 83, 3) := dk_182 0 83 (dk_at dksX0_step_6 2 rfl rfl)
theorem dX0_step_148 : decode cX0_step 148 = .ok (.ifCond .eq 7, 3) := dk_153 0 7 (dk_at dksX0_step_6 5 rfl rfl)
theorem dX0_step_151 : decode cX0_step 151 = .ok (.iconst 1, 1) := dk_4 (dk_at dksX0_step_6 8 rfl rfl)
theorem dX0_step_152 : decode cX0_step 152 = .ok (.goto 4, 3) := dk_167 0 4 (dk_at dksX0_step_6 9 rfl rfl)
theorem dX0_step_155 : decode cX0_step 155 = .ok (.iconst 0, 1) := dk_3 (dk_at dksX0_step_6 12 rfl rfl)
theorem dX0_step_156 : decode cX0_step 156 = .ok (.ireturn, 1) := dk_172 (dk_at dksX0_step_6 13 rfl rfl)
theorem dX0_step_157 : decode cX0_step 157 = .ok (.aload_n 0, 1) := dk_42 (dk_at dksX0_step_6 14 rfl rfl)
theorem dX0_step_158 : decode cX0_step 158 = .ok (.iload_n 2, 1) := dk_28 (dk_at dksX0_step_6 15 rfl rfl)
theorem dX0_step_159 : decode cX0_step 159 = .ok (.iload_n 3, 1) := dk_29 (dk_at dksX0_step_6 16 rfl rfl)
theorem dX0_step_160 : decode cX0_step 160 = .ok (.sipush 2047, 3) := dk_17 7 255 (dk_at dksX0_step_6 17 rfl rfl)
theorem dX0_step_163 : decode cX0_step 163 = .ok (.iand, 1) := dk_126 (dk_at dksX0_step_6 20 rfl rfl)
theorem dX0_step_164 : decode cX0_step 164 = .ok (.iload 4, 2) := dk_21 4 (dk_at dksX0_step_6 21 rfl rfl)
theorem dX0_step_166 : decode cX0_step 166 = .ok (.invokevirtual 83, 3) := dk_182 0 83 (dk_at dksX0_step_7 0 rfl rfl)
theorem dX0_step_169 : decode cX0_step 169 = .ok (.ifCond .eq 27, 3) := dk_153 0 27 (dk_at dksX0_step_7 3 rfl rfl)
theorem dX0_step_172 : decode cX0_step 172 = .ok (.aload_n 0, 1) := dk_42 (dk_at dksX0_step_7 6 rfl rfl)
theorem dX0_step_173 : decode cX0_step 173 = .ok (.iload 5, 2) := dk_21 5 (dk_at dksX0_step_7 7 rfl rfl)
theorem dX0_step_175 : decode cX0_step 175 = .ok (.ldc 37, 2) := dk_18 37 (dk_at dksX0_step_7 9 rfl rfl)
theorem dX0_step_177 : decode cX0_step 177 = .ok (.iload 6, 2) := dk_21 6 (dk_at dksX0_step_7 11 rfl rfl)
theorem dX0_step_179 : decode cX0_step 179 = .ok (.sipush 8191, 3) := dk_17 31 255 (dk_at dksX0_step_7 13 rfl rfl)
theorem dX0_step_182 : decode cX0_step 182 = .ok (.iand, 1) := dk_126 (dk_at dksX0_step_7 16 rfl rfl)
theorem dX0_step_183 : decode cX0_step 183 = .ok (.iadd, 1) := dk_96 (dk_at dksX0_step_7 17 rfl rfl)
theorem dX0_step_184 : decode cX0_step 184 = .ok (.iload 4, 2) := dk_21 4 (dk_at dksX0_step_7 18 rfl rfl)
theorem dX0_step_186 : decode cX0_step 186 = .ok (.invokevirtual 83, 3) := dk_182 0 83 (dk_at dksX0_step_7 20 rfl rfl)
theorem dX0_step_189 : decode cX0_step 189 = .ok (.ifCond .eq 7, 3) := dk_153 0 7 (dk_at dksX0_step_8 0 rfl rfl)
theorem dX0_step_192 : decode cX0_step 192 = .ok (.iconst 1, 1) := dk_4 (dk_at dksX0_step_8 3 rfl rfl)
theorem dX0_step_193 : decode cX0_step 193 = .ok (.goto 4, 3) := dk_167 0 4 (dk_at dksX0_step_8 4 rfl rfl)
theorem dX0_step_196 : decode cX0_step 196 = .ok (.iconst 0, 1) := dk_3 (dk_at dksX0_step_8 7 rfl rfl)
theorem dX0_step_197 : decode cX0_step 197 = .ok (.ireturn, 1) := dk_172 (dk_at dksX0_step_8 8 rfl rfl)
theorem dX0_step_198 : decode cX0_step 198 = .ok (.aload_n 0, 1) := dk_42 (dk_at dksX0_step_8 9 rfl rfl)
theorem dX0_step_199 : decode cX0_step 199 = .ok (.iload_n 2, 1) := dk_28 (dk_at dksX0_step_8 10 rfl rfl)
theorem dX0_step_200 : decode cX0_step 200 = .ok (.iload_n 3, 1) := dk_29 (dk_at dksX0_step_8 11 rfl rfl)
theorem dX0_step_201 : decode cX0_step 201 = .ok (.invokevirtual 86, 3) := dk_182 0 86 (dk_at dksX0_step_8 12 rfl rfl)
theorem dX0_step_204 : decode cX0_step 204 = .ok (.ifCond .eq 21, 3) := dk_153 0 21 (dk_at dksX0_step_8 15 rfl rfl)
theorem dX0_step_207 : decode cX0_step 207 = .ok (.aload_n 0, 1) := dk_42 (dk_at dksX0_step_8 18 rfl rfl)
theorem dX0_step_208 : decode cX0_step 208 = .ok (.iload 4, 2) := dk_21 4 (dk_at dksX0_step_8 19 rfl rfl)
theorem dX0_step_210 : decode cX0_step 210 = .ok (.iload 5, 2) := dk_21 5 (dk_at dksX0_step_8 21 rfl rfl)
theorem dX0_step_212 : decode cX0_step 212 = .ok (.iload 6, 2) := dk_21 6 (dk_at dksX0_step_9 0 rfl rfl)
theorem dX0_step_214 : decode cX0_step 214 = .ok (.iload_n 2, 1) := dk_28 (dk_at dksX0_step_9 2 rfl rfl)
theorem dX0_step_215 : decode cX0_step 215 = .ok (.invokevirtual 78, 3) := dk_182 0 78 (dk_at dksX0_step_9 3 rfl rfl)
theorem dX0_step_218 : decode cX0_step 218 = .ok (.ifCond .eq 7, 3) := dk_153 0 7 (dk_at dksX0_step_9 6 rfl rfl)
theorem dX0_step_221 : decode cX0_step 221 = .ok (.iconst 1, 1) := dk_4 (dk_at dksX0_step_9 9 rfl rfl)
theorem dX0_step_222 : decode cX0_step 222 = .ok (.goto 4, 3) := dk_167 0 4 (dk_at dksX0_step_9 10 rfl rfl)
theorem dX0_step_225 : decode cX0_step 225 = .ok (.iconst 0, 1) := dk_3 (dk_at dksX0_step_9 13 rfl rfl)
theorem dX0_step_226 : decode cX0_step 226 = .ok (.ireturn, 1) := dk_172 (dk_at dksX0_step_9 14 rfl rfl)
theorem dX0_step_227 : decode cX0_step 227 = .ok (.aload_n 0, 1) := dk_42 (dk_at dksX0_step_9 15 rfl rfl)
theorem dX0_step_228 : decode cX0_step 228 = .ok (.iload_n 2, 1) := dk_28 (dk_at dksX0_step_9 16 rfl rfl)
theorem dX0_step_229 : decode cX0_step 229 = .ok (.iload_n 3, 1) := dk_29 (dk_at dksX0_step_9 17 rfl rfl)
theorem dX0_step_230 : decode cX0_step 230 = .ok (.iconst 1, 1) := dk_4 (dk_at dksX0_step_9 18 rfl rfl)
theorem dX0_step_231 : decode cX0_step 231 = .ok (.iand, 1) := dk_126 (dk_at dksX0_step_9 19 rfl rfl)
theorem dX0_step_232 : decode cX0_step 232 = .ok (.ifCond .ne 15, 3) := dk_154 0 15 (dk_at dksX0_step_9 20 rfl rfl)
theorem dX0_step_235 : decode cX0_step 235 = .ok (.sipush 128, 3) := dk_17 0 128 (dk_at dksX0_step_10 0 rfl rfl)
theorem dX0_step_238 : decode cX0_step 238 = .ok (.iload 4, 2) := dk_21 4 (dk_at dksX0_step_10 3 rfl rfl)
theorem dX0_step_240 : decode cX0_step 240 = .ok (.bipush 63, 2) := dk_16 63 (dk_at dksX0_step_10 5 rfl rfl)
theorem dX0_step_242 : decode cX0_step 242 = .ok (.iand, 1) := dk_126 (dk_at dksX0_step_10 7 rfl rfl)
theorem dX0_step_243 : decode cX0_step 243 = .ok (.ior, 1) := dk_128 (dk_at dksX0_step_10 8 rfl rfl)
theorem dX0_step_244 : decode cX0_step 244 = .ok (.goto 12, 3) := dk_167 0 12 (dk_at dksX0_step_10 9 rfl rfl)
theorem dX0_step_247 : decode cX0_step 247 = .ok (.sipush 192, 3) := dk_17 0 192 (dk_at dksX0_step_10 12 rfl rfl)
theorem dX0_step_250 : decode cX0_step 250 = .ok (.iload 4, 2) := dk_21 4 (dk_at dksX0_step_10 15 rfl rfl)
theorem dX0_step_252 : decode cX0_step 252 = .ok (.bipush 63, 2) := dk_16 63 (dk_at dksX0_step_10 17 rfl rfl)
theorem dX0_step_254 : decode cX0_step 254 = .ok (.iand, 1) := dk_126 (dk_at dksX0_step_10 19 rfl rfl)
theorem dX0_step_255 : decode cX0_step 255 = .ok (.ior, 1) := dk_128 (dk_at dksX0_step_10 20 rfl rfl)
theorem dX0_step_256 : decode cX0_step 256 = .ok (.invokevirtual 86, 3) := dk_182 0 86 (dk_at dksX0_step_10 21 rfl rfl)
theorem dX0_step_259 : decode cX0_step 259 = .ok (.ifCond .eq 40, 3) := dk_153 0 40 (dk_at dksX0_step_11 0 rfl rfl)
theorem dX0_step_262 : decode cX0_step 262 = .ok (.aload_n 0, 1) := dk_42 (dk_at dksX0_step_11 3 rfl rfl)
theorem dX0_step_263 : decode cX0_step 263 = .ok (.iconst 0, 1) := dk_3 (dk_at dksX0_step_11 4 rfl rfl)
theorem dX0_step_264 : decode cX0_step 264 = .ok (.aload_n 0, 1) := dk_42 (dk_at dksX0_step_11 5 rfl rfl)
theorem dX0_step_265 : decode cX0_step 265 = .ok (.getfield 46, 3) := dk_180 0 46 (dk_at dksX0_step_11 6 rfl rfl)
theorem dX0_step_268 : decode cX0_step 268 = .ok (.sipush 160, 3) := dk_17 0 160 (dk_at dksX0_step_11 9 rfl rfl)
theorem dX0_step_271 : decode cX0_step 271 = .ok (.iload 5, 2) := dk_21 5 (dk_at dksX0_step_11 12 rfl rfl)
theorem dX0_step_273 : decode cX0_step 273 = .ok (.invokevirtual 78, 3) := dk_182 0 78 (dk_at dksX0_step_11 14 rfl rfl)
theorem dX0_step_276 : decode cX0_step 276 = .ok (.ifCond .eq 23, 3) := dk_153 0 23 (dk_at dksX0_step_11 17 rfl rfl)
theorem dX0_step_279 : decode cX0_step 279 = .ok (.aload_n 0, 1) := dk_42 (dk_at dksX0_step_11 20 rfl rfl)
theorem dX0_step_280 : decode cX0_step 280 = .ok (.iconst 0, 1) := dk_3 (dk_at dksX0_step_11 21 rfl rfl)
theorem dX0_step_281 : decode cX0_step 281 = .ok (.aload_n 0, 1) := dk_42 (dk_at dksX0_step_11 22 rfl rfl)
theorem dX0_step_282 : decode cX0_step 282 = .ok (.getfield 46, 3) := dk_180 0 46 (dk_at dksX0_step_12 0 rfl rfl)
theorem dX0_step_285 : decode cX0_step 285 = .ok (.iload 6, 2) := dk_21 6 (dk_at dksX0_step_12 3 rfl rfl)
theorem dX0_step_287 : decode cX0_step 287 = .ok (.iload 4, 2) := dk_21 4 (dk_at dksX0_step_12 5 rfl rfl)
theorem dX0_step_289 : decode cX0_step 289 = .ok (.invokevirtual 78, 3) := dk_182 0 78 (dk_at dksX0_step_12 7 rfl rfl)
theorem dX0_step_292 : decode cX0_step 292 = .ok (.ifCond .eq 7, 3) := dk_153 0 7 (dk_at dksX0_step_12 10 rfl rfl)
theorem dX0_step_295 : decode cX0_step 295 = .ok (.iconst 1, 1) := dk_4 (dk_at dksX0_step_12 13 rfl rfl)
theorem dX0_step_296 : decode cX0_step 296 = .ok (.goto 4, 3) := dk_167 0 4 (dk_at dksX0_step_12 14 rfl rfl)
theorem dX0_step_299 : decode cX0_step 299 = .ok (.iconst 0, 1) := dk_3 (dk_at dksX0_step_12 17 rfl rfl)
theorem dX0_step_300 : decode cX0_step 300 = .ok (.ireturn, 1) := dk_172 (dk_at dksX0_step_12 18 rfl rfl)
theorem dX0_step_301 : decode cX0_step 301 = .ok (.aload_n 0, 1) := dk_42 (dk_at dksX0_step_12 19 rfl rfl)
theorem dX0_step_302 : decode cX0_step 302 = .ok (.iload 6, 2) := dk_21 6 (dk_at dksX0_step_12 20 rfl rfl)
theorem dX0_step_304 : decode cX0_step 304 = .ok (.iconst 3, 1) := dk_6 (dk_at dksX0_step_12 22 rfl rfl)
theorem dX0_step_305 : decode cX0_step 305 = .ok (.iand, 1) := dk_126 (dk_at dksX0_step_12 23 rfl rfl)
theorem dX0_step_306 : decode cX0_step 306 = .ok (.ifCond .ne 16, 3) := dk_154 0 16 (dk_at dksX0_step_13 0 rfl rfl)
theorem dX0_step_309 : decode cX0_step 309 = .ok (.iload_n 2, 1) := dk_28 (dk_at dksX0_step_13 3 rfl rfl)
theorem dX0_step_310 : decode cX0_step 310 = .ok (.aload_n 0, 1) := dk_42 (dk_at dksX0_step_13 4 rfl rfl)
theorem dX0_step_311 : decode cX0_step 311 = .ok (.getfield 46, 3) := dk_180 0 46 (dk_at dksX0_step_13 5 rfl rfl)
theorem dX0_step_314 : decode cX0_step 314 = .ok (.iconst 1, 1) := dk_4 (dk_at dksX0_step_13 8 rfl rfl)
theorem dX0_step_315 : decode cX0_step 315 = .ok (.iadd, 1) := dk_96 (dk_at dksX0_step_13 9 rfl rfl)
theorem dX0_step_316 : decode cX0_step 316 = .ok (.invokestatic 49, 3) := dk_184 0 49 (dk_at dksX0_step_13 10 rfl rfl)
theorem dX0_step_319 : decode cX0_step 319 = .ok (.goto 7, 3) := dk_167 0 7 (dk_at dksX0_step_13 13 rfl rfl)
theorem dX0_step_322 : decode cX0_step 322 = .ok (.aload_n 0, 1) := dk_42 (dk_at dksX0_step_13 16 rfl rfl)
theorem dX0_step_323 : decode cX0_step 323 = .ok (.getfield 46, 3) := dk_180 0 46 (dk_at dksX0_step_13 17 rfl rfl)
theorem dX0_step_326 : decode cX0_step 326 = .ok (.putfield 46, 3) := dk_181 0 46 (dk_at dksX0_step_13 20 rfl rfl)
theorem dX0_step_329 : decode cX0_step 329 = .ok (.iload 6, 2) := dk_21 6 (dk_at dksX0_step_14 0 rfl rfl)
theorem dX0_step_331 : decode cX0_step 331 = .ok (.iconst 3, 1) := dk_6 (dk_at dksX0_step_14 2 rfl rfl)
theorem dX0_step_332 : decode cX0_step 332 = .ok (.iand, 1) := dk_126 (dk_at dksX0_step_14 3 rfl rfl)
theorem dX0_step_333 : decode cX0_step 333 = .ok (.ifCond .ne 11, 3) := dk_154 0 11 (dk_at dksX0_step_14 4 rfl rfl)
theorem dX0_step_336 : decode cX0_step 336 = .ok (.aload_n 0, 1) := dk_42 (dk_at dksX0_step_14 7 rfl rfl)
theorem dX0_step_337 : decode cX0_step 337 = .ok (.getfield 10, 3) := dk_180 0 10 (dk_at dksX0_step_14 8 rfl rfl)
theorem dX0_step_340 : decode cX0_step 340 = .ok (.iload_n 2, 1) := dk_28 (dk_at dksX0_step_14 11 rfl rfl)
theorem dX0_step_341 : decode cX0_step 341 = .ok (.invokevirtual 87, 3) := dk_182 0 87 (dk_at dksX0_step_14 12 rfl rfl)
theorem dX0_step_344 : decode cX0_step 344 = .ok (.aload_n 0, 1) := dk_42 (dk_at dksX0_step_14 15 rfl rfl)
theorem dX0_step_345 : decode cX0_step 345 = .ok (.iload_n 2, 1) := dk_28 (dk_at dksX0_step_14 16 rfl rfl)
theorem dX0_step_346 : decode cX0_step 346 = .ok (.invokevirtual 62, 3) := dk_182 0 62 (dk_at dksX0_step_14 17 rfl rfl)
theorem dX0_step_349 : decode cX0_step 349 = .ok (.ifCond .eq 21, 3) := dk_153 0 21 (dk_at dksX0_step_14 20 rfl rfl)
theorem dX0_step_352 : decode cX0_step 352 = .ok (.aload_n 0, 1) := dk_42 (dk_at dksX0_step_14 23 rfl rfl)
theorem dX0_step_353 : decode cX0_step 353 = .ok (.iload_n 3, 1) := dk_29 (dk_at dksX0_step_15 0 rfl rfl)
theorem dX0_step_354 : decode cX0_step 354 = .ok (.iload 4, 2) := dk_21 4 (dk_at dksX0_step_15 1 rfl rfl)
theorem dX0_step_356 : decode cX0_step 356 = .ok (.iload 5, 2) := dk_21 5 (dk_at dksX0_step_15 3 rfl rfl)
theorem dX0_step_358 : decode cX0_step 358 = .ok (.iload 6, 2) := dk_21 6 (dk_at dksX0_step_15 5 rfl rfl)
theorem dX0_step_360 : decode cX0_step 360 = .ok (.invokevirtual 78, 3) := dk_182 0 78 (dk_at dksX0_step_15 7 rfl rfl)
theorem dX0_step_363 : decode cX0_step 363 = .ok (.ifCond .eq 7, 3) := dk_153 0 7 (dk_at dksX0_step_15 10 rfl rfl)
theorem dX0_step_366 : decode cX0_step 366 = .ok (.iconst 1, 1) := dk_4 (dk_at dksX0_step_15 13 rfl rfl)
theorem dX0_step_367 : decode cX0_step 367 = .ok (.goto 4, 3) := dk_167 0 4 (dk_at dksX0_step_15 14 rfl rfl)
theorem dX0_step_370 : decode cX0_step 370 = .ok (.iconst 0, 1) := dk_3 (dk_at dksX0_step_15 17 rfl rfl)
theorem dX0_step_371 : decode cX0_step 371 = .ok (.ireturn, 1) := dk_172 (dk_at dksX0_step_15 18 rfl rfl)
theorem dX0_step_372 : decode cX0_step 372 = .ok (.aload_n 0, 1) := dk_42 (dk_at dksX0_step_15 19 rfl rfl)
theorem dX0_step_373 : decode cX0_step 373 = .ok (.iload_n 2, 1) := dk_28 (dk_at dksX0_step_15 20 rfl rfl)
theorem dX0_step_374 : decode cX0_step 374 = .ok (.iload_n 3, 1) := dk_29 (dk_at dksX0_step_15 21 rfl rfl)
theorem dX0_step_375 : decode cX0_step 375 = .ok (.iload 4, 2) := dk_21 4 (dk_at dksX0_step_15 22 rfl rfl)
theorem dX0_step_377 : decode cX0_step 377 = .ok (.iload 5, 2) := dk_21 5 (dk_at dksX0_step_16 0 rfl rfl)
theorem dX0_step_379 : decode cX0_step 379 = .ok (.invokevirtual 78, 3) := dk_182 0 78 (dk_at dksX0_step_16 2 rfl rfl)
theorem dX0_step_382 : decode cX0_step 382 = .ok (.ifCond .eq 24, 3) := dk_153 0 24 (dk_at dksX0_step_16 5 rfl rfl)
theorem dX0_step_385 : decode cX0_step 385 = .ok (.aload_n 0, 1) := dk_42 (dk_at dksX0_step_16 8 rfl rfl)
theorem dX0_step_386 : decode cX0_step 386 = .ok (.iconst 0, 1) := dk_3 (dk_at dksX0_step_16 9 rfl rfl)
theorem dX0_step_387 : decode cX0_step 387 = .ok (.aload_n 0, 1) := dk_42 (dk_at dksX0_step_16 10 rfl rfl)
theorem dX0_step_388 : decode cX0_step 388 = .ok (.getfield 46, 3) := dk_180 0 46 (dk_at dksX0_step_16 11 rfl rfl)
theorem dX0_step_391 : decode cX0_step 391 = .ok (.sipush 160, 3) := dk_17 0 160 (dk_at dksX0_step_16 14 rfl rfl)
theorem dX0_step_394 : decode cX0_step 394 = .ok (.iload 6, 2) := dk_21 6 (dk_at dksX0_step_16 17 rfl rfl)
theorem dX0_step_396 : decode cX0_step 396 = .ok (.invokevirtual 78, 3) := dk_182 0 78 (dk_at dksX0_step_16 19 rfl rfl)
theorem dX0_step_399 : decode cX0_step 399 = .ok (.ifCond .eq 7, 3) := dk_153 0 7 (dk_at dksX0_step_17 0 rfl rfl)
theorem dX0_step_402 : decode cX0_step 402 = .ok (.iconst 1, 1) := dk_4 (dk_at dksX0_step_17 3 rfl rfl)
theorem dX0_step_403 : decode cX0_step 403 = .ok (.goto 4, 3) := dk_167 0 4 (dk_at dksX0_step_17 4 rfl rfl)
theorem dX0_step_406 : decode cX0_step 406 = .ok (.iconst 0, 1) := dk_3 (dk_at dksX0_step_17 7 rfl rfl)
theorem dX0_step_407 : decode cX0_step 407 = .ok (.ireturn, 1) := dk_172 (dk_at dksX0_step_17 8 rfl rfl)
abbrev cX0_put : ByteArray := method_10_code
def yX0_put : MethodName := ⟨RX0, "put", "(IIII)Z"⟩
def dkwX0_put_5 : List UInt8 := [21, 4, 182, 0, 66, 172]
abbrev dktX0_put_5 : List UInt8 := dkwX0_put_5 ++ []
def dkwX0_put_4 : List UInt8 := [132, 6, 1, 167, 255, 215, 42, 89, 180, 0, 46, 16, 16, 96, 181, 0, 46, 42, 180, 0, 10, 27, 28, 29]
abbrev dktX0_put_4 : List UInt8 := dkwX0_put_4 ++ dktX0_put_5
def dkwX0_put_3 : List UInt8 := [21, 6, 96, 25, 5, 21, 6, 5, 122, 46, 16, 24, 16, 8, 21, 6, 6, 126, 104, 100, 122, 145, 84]
abbrev dktX0_put_3 : List UInt8 := dkwX0_put_3 ++ dktX0_put_4
def dkwX0_put_2 : List UInt8 := [21, 4, 79, 58, 5, 3, 54, 6, 21, 6, 16, 16, 162, 0, 40, 42, 180, 0, 16, 42, 180, 0, 46]
abbrev dktX0_put_2 : List UInt8 := dkwX0_put_2 ++ dktX0_put_3
def dkwX0_put_1 : List UInt8 := [4, 167, 0, 4, 3, 172, 7, 188, 10, 89, 3, 27, 79, 89, 4, 28, 79, 89, 5, 29, 79, 89, 6]
abbrev dktX0_put_1 : List UInt8 := dkwX0_put_1 ++ dktX0_put_2
def dkwX0_put_0 : List UInt8 := [42, 180, 0, 46, 16, 112, 164, 0, 24, 42, 180, 0, 10, 27, 28, 29, 21, 4, 182, 0, 66, 154, 0, 7]
abbrev dktX0_put_0 : List UInt8 := dkwX0_put_0 ++ dktX0_put_1
theorem dksX0_put_0 : cX0_put.data.toList.drop 0 = dktX0_put_0 := by decide +kernel
theorem dksX0_put_1 : cX0_put.data.toList.drop 24 = dktX0_put_1 := dk_seg dksX0_put_0 24 rfl rfl
theorem dksX0_put_2 : cX0_put.data.toList.drop 47 = dktX0_put_2 := dk_seg dksX0_put_1 23 rfl rfl
theorem dksX0_put_3 : cX0_put.data.toList.drop 70 = dktX0_put_3 := dk_seg dksX0_put_2 23 rfl rfl
theorem dksX0_put_4 : cX0_put.data.toList.drop 93 = dktX0_put_4 := dk_seg dksX0_put_3 23 rfl rfl
theorem dksX0_put_5 : cX0_put.data.toList.drop 117 = dktX0_put_5 := dk_seg dksX0_put_4 24 rfl rfl
theorem dX0_put_0 : decode cX0_put 0 = .ok (.aload_n 0, 1) := dk_42 (dk_at dksX0_put_0 0 rfl rfl)
theorem dX0_put_1 : decode cX0_put 1 = .ok (.getfield 46, 3) := dk_180 0 46 (dk_at dksX0_put_0 1 rfl rfl)
theorem dX0_put_4 : decode cX0_put 4 = .ok (.bipush 112, 2) := dk_16 112 (dk_at dksX0_put_0 4 rfl rfl)
theorem dX0_put_6 : decode cX0_put 6 = .ok (.if_icmp .le 24, 3) := dk_164 0 24 (dk_at dksX0_put_0 6 rfl rfl)
theorem dX0_put_9 : decode cX0_put 9 = .ok (.aload_n 0, 1) := dk_42 (dk_at dksX0_put_0 9 rfl rfl)
theorem dX0_put_10 : decode cX0_put 10 = .ok (.getfield 10, 3) := dk_180 0 10 (dk_at dksX0_put_0 10 rfl rfl)
theorem dX0_put_13 : decode cX0_put 13 = .ok (.iload_n 1, 1) := dk_27 (dk_at dksX0_put_0 13 rfl rfl)
theorem dX0_put_14 : decode cX0_put 14 = .ok (.iload_n 2, 1) := dk_28 (dk_at dksX0_put_0 14 rfl rfl)
theorem dX0_put_15 : decode cX0_put 15 = .ok (.iload_n 3, 1) := dk_29 (dk_at dksX0_put_0 15 rfl rfl)
theorem dX0_put_16 : decode cX0_put 16 = .ok (.iload 4, 2) := dk_21 4 (dk_at dksX0_put_0 16 rfl rfl)
theorem dX0_put_18 : decode cX0_put 18 = .ok (.invokevirtual 66, 3) := dk_182 0 66 (dk_at dksX0_put_0 18 rfl rfl)
theorem dX0_put_21 : decode cX0_put 21 = .ok (.ifCond .ne 7, 3) := dk_154 0 7 (dk_at dksX0_put_0 21 rfl rfl)
theorem dX0_put_24 : decode cX0_put 24 = .ok (.iconst 1, 1) := dk_4 (dk_at dksX0_put_1 0 rfl rfl)
theorem dX0_put_25 : decode cX0_put 25 = .ok (.goto 4, 3) := dk_167 0 4 (dk_at dksX0_put_1 1 rfl rfl)
theorem dX0_put_28 : decode cX0_put 28 = .ok (.iconst 0, 1) := dk_3 (dk_at dksX0_put_1 4 rfl rfl)
theorem dX0_put_29 : decode cX0_put 29 = .ok (.ireturn, 1) := dk_172 (dk_at dksX0_put_1 5 rfl rfl)
theorem dX0_put_30 : decode cX0_put 30 = .ok (.iconst 4, 1) := dk_7 (dk_at dksX0_put_1 6 rfl rfl)
theorem dX0_put_31 : decode cX0_put 31 = .ok (.newarray .int, 2) := dk_188_10 (dk_at dksX0_put_1 7 rfl rfl)
theorem dX0_put_33 : decode cX0_put 33 = .ok (.dup, 1) := dk_89 (dk_at dksX0_put_1 9 rfl rfl)
theorem dX0_put_34 : decode cX0_put 34 = .ok (.iconst 0, 1) := dk_3 (dk_at dksX0_put_1 10 rfl rfl)
theorem dX0_put_35 : decode cX0_put 35 = .ok (.iload_n 1, 1) := dk_27 (dk_at dksX0_put_1 11 rfl rfl)
theorem dX0_put_36 : decode cX0_put 36 = .ok (.iastore, 1) := dk_79 (dk_at dksX0_put_1 12 rfl rfl)
theorem dX0_put_37 : decode cX0_put 37 = .ok (.dup, 1) := dk_89 (dk_at dksX0_put_1 13 rfl rfl)
theorem dX0_put_38 : decode cX0_put 38 = .ok (.iconst 1, 1) := dk_4 (dk_at dksX0_put_1 14 rfl rfl)
theorem dX0_put_39 : decode cX0_put 39 = .ok (.iload_n 2, 1) := dk_28 (dk_at dksX0_put_1 15 rfl rfl)
theorem dX0_put_40 : decode cX0_put 40 = .ok (.iastore, 1) := dk_79 (dk_at dksX0_put_1 16 rfl rfl)
theorem dX0_put_41 : decode cX0_put 41 = .ok (.dup, 1) := dk_89 (dk_at dksX0_put_1 17 rfl rfl)
theorem dX0_put_42 : decode cX0_put 42 = .ok (.iconst 2, 1) := dk_5 (dk_at dksX0_put_1 18 rfl rfl)
theorem dX0_put_43 : decode cX0_put 43 = .ok (.iload_n 3, 1) := dk_29 (dk_at dksX0_put_1 19 rfl rfl)
theorem dX0_put_44 : decode cX0_put 44 = .ok (.iastore, 1) := dk_79 (dk_at dksX0_put_1 20 rfl rfl)
theorem dX0_put_45 : decode cX0_put 45 = .ok (.dup, 1) := dk_89 (dk_at dksX0_put_1 21 rfl rfl)
theorem dX0_put_46 : decode cX0_put 46 = .ok (.iconst 3, 1) := dk_6 (dk_at dksX0_put_1 22 rfl rfl)
theorem dX0_put_47 : decode cX0_put 47 = .ok (.iload 4, 2) := dk_21 4 (dk_at dksX0_put_2 0 rfl rfl)
theorem dX0_put_49 : decode cX0_put 49 = .ok (.iastore, 1) := dk_79 (dk_at dksX0_put_2 2 rfl rfl)
theorem dX0_put_50 : decode cX0_put 50 = .ok (.astore 5, 2) := dk_58 5 (dk_at dksX0_put_2 3 rfl rfl)
theorem dX0_put_52 : decode cX0_put 52 = .ok (.iconst 0, 1) := dk_3 (dk_at dksX0_put_2 5 rfl rfl)
theorem dX0_put_53 : decode cX0_put 53 = .ok (.istore 6, 2) := dk_54 6 (dk_at dksX0_put_2 6 rfl rfl)
theorem dX0_put_55 : decode cX0_put 55 = .ok (.iload 6, 2) := dk_21 6 (dk_at dksX0_put_2 8 rfl rfl)
theorem dX0_put_57 : decode cX0_put 57 = .ok (.bipush 16, 2) := dk_16 16 (dk_at dksX0_put_2 10 rfl rfl)
theorem dX0_put_59 : decode cX0_put 59 = .ok (.if_icmp .ge 40, 3) := dk_162 0 40 (dk_at dksX0_put_2 12 rfl rfl)
theorem dX0_put_62 : decode cX0_put 62 = .ok (.aload_n 0, 1) := dk_42 (dk_at dksX0_put_2 15 rfl rfl)
theorem dX0_put_63 : decode cX0_put 63 = .ok (.getfield 16, 3) := dk_180 0 16 (dk_at dksX0_put_2 16 rfl rfl)
theorem dX0_put_66 : decode cX0_put 66 = .ok (.aload_n 0, 1) := dk_42 (dk_at dksX0_put_2 19 rfl rfl)
theorem dX0_put_67 : decode cX0_put 67 = .ok (.getfield 46, 3) := dk_180 0 46 (dk_at dksX0_put_2 20 rfl rfl)
theorem dX0_put_70 : decode cX0_put 70 = .ok (.iload 6, 2) := dk_21 6 (dk_at dksX0_put_3 0 rfl rfl)
theorem dX0_put_72 : decode cX0_put 72 = .ok (.iadd, 1) := dk_96 (dk_at dksX0_put_3 2 rfl rfl)
theorem dX0_put_73 : decode cX0_put 73 = .ok (.aload 5, 2) := dk_25 5 (dk_at dksX0_put_3 3 rfl rfl)
theorem dX0_put_75 : decode cX0_put 75 = .ok (.iload 6, 2) := dk_21 6 (dk_at dksX0_put_3 5 rfl rfl)
theorem dX0_put_77 : decode cX0_put 77 = .ok (.iconst 2, 1) := dk_5 (dk_at dksX0_put_3 7 rfl rfl)
theorem dX0_put_78 : decode cX0_put 78 = .ok (.ishr, 1) := dk_122 (dk_at dksX0_put_3 8 rfl rfl)
theorem dX0_put_79 : decode cX0_put 79 = .ok (.iaload, 1) := dk_46 (dk_at dksX0_put_3 9 rfl rfl)
theorem dX0_put_80 : decode cX0_put 80 = .ok (.bipush 24, 2) := dk_16 24 (dk_at dksX0_put_3 10 rfl rfl)
theorem dX0_put_82 : decode cX0_put 82 = .ok (.bipush 8, 2) := dk_16 8 (dk_at dksX0_put_3 12 rfl rfl)
theorem dX0_put_84 : decode cX0_put 84 = .ok (.iload 6, 2) := dk_21 6 (dk_at dksX0_put_3 14 rfl rfl)
theorem dX0_put_86 : decode cX0_put 86 = .ok (.iconst 3, 1) := dk_6 (dk_at dksX0_put_3 16 rfl rfl)
theorem dX0_put_87 : decode cX0_put 87 = .ok (.iand, 1) := dk_126 (dk_at dksX0_put_3 17 rfl rfl)
theorem dX0_put_88 : decode cX0_put 88 = .ok (.imul, 1) := dk_104 (dk_at dksX0_put_3 18 rfl rfl)
theorem dX0_put_89 : decode cX0_put 89 = .ok (.isub, 1) := dk_100 (dk_at dksX0_put_3 19 rfl rfl)
theorem dX0_put_90 : decode cX0_put 90 = .ok (.ishr, 1) := dk_122 (dk_at dksX0_put_3 20 rfl rfl)
theorem dX0_put_91 : decode cX0_put 91 = .ok (.i2b, 1) := dk_145 (dk_at dksX0_put_3 21 rfl rfl)
theorem dX0_put_92 : decode cX0_put 92 = .ok (.bastore, 1) := dk_84 (dk_at dksX0_put_3 22 rfl rfl)
theorem dX0_put_93 : decode cX0_put 93 = .ok (.iinc 6 1, 3) := dk_132 6 1 (dk_at dksX0_put_4 0 rfl rfl)
theorem dX0_put_96 : decode cX0_put 96 = .ok (.goto (-41), 3) := dk_167 255 215 (dk_at dksX0_put_4 3 rfl rfl)
theorem dX0_put_99 : decode cX0_put 99 = .ok (.aload_n 0, 1) := dk_42 (dk_at dksX0_put_4 6 rfl rfl)
theorem dX0_put_100 : decode cX0_put 100 = .ok (.dup, 1) := dk_89 (dk_at dksX0_put_4 7 rfl rfl)
theorem dX0_put_101 : decode cX0_put 101 = .ok (.getfield 46, 3) := dk_180 0 46 (dk_at dksX0_put_4 8 rfl rfl)
theorem dX0_put_104 : decode cX0_put 104 = .ok (.bipush 16, 2) := dk_16 16 (dk_at dksX0_put_4 11 rfl rfl)
theorem dX0_put_106 : decode cX0_put 106 = .ok (.iadd, 1) := dk_96 (dk_at dksX0_put_4 13 rfl rfl)
theorem dX0_put_107 : decode cX0_put 107 = .ok (.putfield 46, 3) := dk_181 0 46 (dk_at dksX0_put_4 14 rfl rfl)
theorem dX0_put_110 : decode cX0_put 110 = .ok (.aload_n 0, 1) := dk_42 (dk_at dksX0_put_4 17 rfl rfl)
theorem dX0_put_111 : decode cX0_put 111 = .ok (.getfield 10, 3) := dk_180 0 10 (dk_at dksX0_put_4 18 rfl rfl)
theorem dX0_put_114 : decode cX0_put 114 = .ok (.iload_n 1, 1) := dk_27 (dk_at dksX0_put_4 21 rfl rfl)
theorem dX0_put_115 : decode cX0_put 115 = .ok (.iload_n 2, 1) := dk_28 (dk_at dksX0_put_4 22 rfl rfl)
theorem dX0_put_116 : decode cX0_put 116 = .ok (.iload_n 3, 1) := dk_29 (dk_at dksX0_put_4 23 rfl rfl)
theorem dX0_put_117 : decode cX0_put 117 = .ok (.iload 4, 2) := dk_21 4 (dk_at dksX0_put_5 0 rfl rfl)
theorem dX0_put_119 : decode cX0_put 119 = .ok (.invokevirtual 66, 3) := dk_182 0 66 (dk_at dksX0_put_5 2 rfl rfl)
theorem dX0_put_122 : decode cX0_put 122 = .ok (.ireturn, 1) := dk_172 (dk_at dksX0_put_5 5 rfl rfl)
abbrev cX0_letter : ByteArray := method_12_code
def yX0_letter : MethodName := ⟨RX0, "letter", "(III)Z"⟩
def dkwX0_letter_10 : List UInt8 := [21, 4, 18, 44, 164, 0, 7, 5, 167, 0, 4, 4, 160, 0, 7, 4, 167, 0, 4, 3, 172]
abbrev dktX0_letter_10 : List UInt8 := dkwX0_letter_10 ++ []
def dkwX0_letter_9 : List UInt8 := [184, 0, 49, 96, 29, 182, 0, 78, 153, 0, 35, 42, 180, 0, 24, 21, 7, 153, 0, 7, 2, 167, 0, 15]
abbrev dktX0_letter_9 : List UInt8 := dkwX0_letter_9 ++ dktX0_letter_10
def dkwX0_letter_8 : List UInt8 := [42, 180, 0, 10, 27, 28, 182, 0, 75, 21, 5, 160, 0, 55, 42, 21, 6, 21, 5, 5, 29, 16, 100]
abbrev dktX0_letter_8 : List UInt8 := dkwX0_letter_8 ++ dktX0_letter_9
def dkwX0_letter_7 : List UInt8 := [167, 255, 156, 21, 4, 18, 37, 161, 0, 14, 21, 4, 18, 38, 163, 0, 7, 4, 167, 0, 4, 3, 54, 7]
abbrev dktX0_letter_7 : List UInt8 := dkwX0_letter_7 ++ dktX0_letter_8
def dkwX0_letter_6 : List UInt8 := [160, 0, 12, 17, 0, 224, 21, 8, 128, 167, 0, 9, 17, 0, 240, 21, 8, 128, 145, 84, 132, 7, 1]
abbrev dktX0_letter_6 : List UInt8 := dkwX0_letter_6 ++ dktX0_letter_7
def dkwX0_letter_5 : List UInt8 := [21, 8, 167, 0, 39, 21, 5, 5, 160, 0, 12, 17, 0, 192, 21, 8, 128, 167, 0, 24, 21, 5, 6]
abbrev dktX0_letter_5 : List UInt8 := dkwX0_letter_5 ++ dktX0_letter_6
def dkwX0_letter_4 : List UInt8 := [21, 7, 158, 0, 15, 17, 0, 128, 21, 8, 16, 63, 126, 128, 167, 0, 50, 21, 5, 4, 160, 0, 8]
abbrev dktX0_letter_4 : List UInt8 := dkwX0_letter_4 ++ dktX0_letter_5
def dkwX0_letter_3 : List UInt8 := [21, 4, 16, 6, 21, 5, 4, 100, 21, 7, 100, 104, 122, 54, 8, 42, 180, 0, 16, 21, 6, 21, 7, 96]
abbrev dktX0_letter_3 : List UInt8 := dkwX0_letter_3 ++ dktX0_letter_4
def dkwX0_letter_2 : List UInt8 := [182, 0, 75, 2, 160, 0, 7, 4, 167, 0, 4, 3, 172, 3, 54, 7, 21, 7, 21, 5, 162, 0, 99]
abbrev dktX0_letter_2 : List UInt8 := dkwX0_letter_2 ++ dktX0_letter_3
def dkwX0_letter_1 : List UInt8 := [184, 0, 49, 54, 6, 21, 6, 21, 5, 96, 42, 180, 0, 46, 164, 0, 22, 42, 180, 0, 10, 27, 28]
abbrev dktX0_letter_1 : List UInt8 := dkwX0_letter_1 ++ dktX0_letter_2
def dkwX0_letter_0 : List UInt8 := [28, 18, 74, 184, 0, 49, 54, 4, 21, 4, 184, 0, 33, 54, 5, 27, 42, 180, 0, 46, 4, 96]
abbrev dktX0_letter_0 : List UInt8 := dkwX0_letter_0 ++ dktX0_letter_1
theorem dksX0_letter_0 : cX0_letter.data.toList.drop 0 = dktX0_letter_0 := by decide +kernel
theorem dksX0_letter_1 : cX0_letter.data.toList.drop 22 = dktX0_letter_1 := dk_seg dksX0_letter_0 22 rfl rfl
theorem dksX0_letter_2 : cX0_letter.data.toList.drop 45 = dktX0_letter_2 := dk_seg dksX0_letter_1 23 rfl rfl
theorem dksX0_letter_3 : cX0_letter.data.toList.drop 68 = dktX0_letter_3 := dk_seg dksX0_letter_2 23 rfl rfl
theorem dksX0_letter_4 : cX0_letter.data.toList.drop 92 = dktX0_letter_4 := dk_seg dksX0_letter_3 24 rfl rfl
theorem dksX0_letter_5 : cX0_letter.data.toList.drop 115 = dktX0_letter_5 := dk_seg dksX0_letter_4 23 rfl rfl
theorem dksX0_letter_6 : cX0_letter.data.toList.drop 138 = dktX0_letter_6 := dk_seg dksX0_letter_5 23 rfl rfl
theorem dksX0_letter_7 : cX0_letter.data.toList.drop 161 = dktX0_letter_7 := dk_seg dksX0_letter_6 23 rfl rfl
theorem dksX0_letter_8 : cX0_letter.data.toList.drop 185 = dktX0_letter_8 := dk_seg dksX0_letter_7 24 rfl rfl
theorem dksX0_letter_9 : cX0_letter.data.toList.drop 208 = dktX0_letter_9 := dk_seg dksX0_letter_8 23 rfl rfl
theorem dksX0_letter_10 : cX0_letter.data.toList.drop 232 = dktX0_letter_10 := dk_seg dksX0_letter_9 24 rfl rfl
theorem dX0_letter_0 : decode cX0_letter 0 = .ok (.iload_n 2, 1) := dk_28 (dk_at dksX0_letter_0 0 rfl rfl)
theorem dX0_letter_1 : decode cX0_letter 1 = .ok (.ldc 74, 2) := dk_18 74 (dk_at dksX0_letter_0 1 rfl rfl)
theorem dX0_letter_3 : decode cX0_letter 3 = .ok (.invokestatic 49, 3) := dk_184 0 49 (dk_at dksX0_letter_0 3 rfl rfl)
theorem dX0_letter_6 : decode cX0_letter 6 = .ok (.istore 4, 2) := dk_54 4 (dk_at dksX0_letter_0 6 rfl rfl)
theorem dX0_letter_8 : decode cX0_letter 8 = .ok (.iload 4, 2) := dk_21 4 (dk_at dksX0_letter_0 8 rfl rfl)
theorem dX0_letter_10 : decode cX0_letter 10 = .ok (.invokestatic 33, 3) := dk_184 0 33 (dk_at dksX0_letter_0 10 rfl rfl)
theorem dX0_letter_13 : decode cX0_letter 13 = .ok (.istore 5, 2) := dk_54 5 (dk_at dksX0_letter_0 13 rfl rfl)
theorem dX0_letter_15 : decode cX0_letter 15 = .ok (.iload_n 1, 1) := dk_27 (dk_at dksX0_letter_0 15 rfl rfl)
theorem dX0_letter_16 : decode cX0_letter 16 = .ok (.aload_n 0, 1) := dk_42 (dk_at dksX0_letter_0 16 rfl rfl)
theorem dX0_letter_17 : decode cX0_letter 17 = .ok (.getfield 46, 3) := dk_180 0 46 (dk_at dksX0_letter_0 17 rfl rfl)
theorem dX0_letter_20 : decode cX0_letter 20 = .ok (.iconst 1, 1) := dk_4 (dk_at dksX0_letter_0 20 rfl rfl)
theorem dX0_letter_21 : decode cX0_letter 21 = .ok (.iadd, 1) := dk_96 (dk_at dksX0_letter_0 21 rfl rfl)
theorem dX0_letter_22 : decode cX0_letter 22 = .ok (.invokestatic 49, 3) := dk_184 0 49 (dk_at dksX0_letter_1 0 rfl rfl)
theorem dX0_letter_25 : decode cX0_letter 25 = .ok (.istore 6, 2) := dk_54 6 (dk_at dksX0_letter_1 3 rfl rfl)
theorem dX0_letter_27 : decode cX0_letter 27 = .ok (.iload 6, 2) := dk_21 6 (dk_at dksX0_letter_1 5 rfl rfl)
theorem dX0_letter_29 : decode cX0_letter 29 = .ok (.iload 5, 2) := dk_21 5 (dk_at dksX0_letter_1 7 rfl rfl)
theorem dX0_letter_31 : decode cX0_letter 31 = .ok (.iadd, 1) := dk_96 (dk_at dksX0_letter_1 9 rfl rfl)
theorem dX0_letter_32 : decode cX0_letter 32 = .ok (.aload_n 0, 1) := dk_42 (dk_at dksX0_letter_1 10 rfl rfl)
theorem dX0_letter_33 : decode cX0_letter 33 = .ok (.getfield 46, 3) := dk_180 0 46 (dk_at dksX0_letter_1 11 rfl rfl)
theorem dX0_letter_36 : decode cX0_letter 36 = .ok (.if_icmp .le 22, 3) := dk_164 0 22 (dk_at dksX0_letter_1 14 rfl rfl)
theorem dX0_letter_39 : decode cX0_letter 39 = .ok (.aload_n 0, 1) := dk_42 (dk_at dksX0_letter_1 17 rfl rfl)
theorem dX0_letter_40 : decode cX0_letter 40 = .ok (.getfield 10, 3) := dk_180 0 10 (dk_at dksX0_letter_1 18 rfl rfl)
theorem dX0_letter_43 : decode cX0_letter 43 = .ok (.iload_n 1, 1) := dk_27 (dk_at dksX0_letter_1 21 rfl rfl)
theorem dX0_letter_44 : decode cX0_letter 44 = .ok (.iload_n 2, 1) := dk_28 (dk_at dksX0_letter_1 22 rfl rfl)
theorem dX0_letter_45 : decode cX0_letter 45 = .ok (.invokevirtual 75, 3) := dk_182 0 75 (dk_at dksX0_letter_2 0 rfl rfl)
theorem dX0_letter_48 : decode cX0_letter 48 = .ok (.iconst (-1), 1) := dk_2 (dk_at dksX0_letter_2 3 rfl rfl)
theorem dX0_letter_49 : decode cX0_letter 49 = .ok (.if_icmp .ne 7, 3) := dk_160 0 7 (dk_at dksX0_letter_2 4 rfl rfl)
theorem dX0_letter_52 : decode cX0_letter 52 = .ok (.iconst 1, 1) := dk_4 (dk_at dksX0_letter_2 7 rfl rfl)
theorem dX0_letter_53 : decode cX0_letter 53 = .ok (.goto 4, 3) := dk_167 0 4 (dk_at dksX0_letter_2 8 rfl rfl)
theorem dX0_letter_56 : decode cX0_letter 56 = .ok (.iconst 0, 1) := dk_3 (dk_at dksX0_letter_2 11 rfl rfl)
theorem dX0_letter_57 : decode cX0_letter 57 = .ok (.ireturn, 1) := dk_172 (dk_at dksX0_letter_2 12 rfl rfl)
theorem dX0_letter_58 : decode cX0_letter 58 = .ok (.iconst 0, 1) := dk_3 (dk_at dksX0_letter_2 13 rfl rfl)
theorem dX0_letter_59 : decode cX0_letter 59 = .ok (.istore 7, 2) := dk_54 7 (dk_at dksX0_letter_2 14 rfl rfl)
theorem dX0_letter_61 : decode cX0_letter 61 = .ok (.iload 7, 2) := dk_21 7 (dk_at dksX0_letter_2 16 rfl rfl)
theorem dX0_letter_63 : decode cX0_letter 63 = .ok (.iload 5, 2) := dk_21 5 (dk_at dksX0_letter_2 18 rfl rfl)
theorem dX0_letter_65 : decode cX0_letter 65 = .ok (.if_icmp .ge 99, 3) := dk_162 0 99 (dk_at dksX0_letter_2 20 rfl rfl)
theorem dX0_letter_68 : decode cX0_letter 68 = .ok (.iload 4, 2) := dk_21 4 (dk_at dksX0_letter_3 0 rfl rfl)
theorem dX0_letter_70 : decode cX0_letter 70 = .ok (.bipush 6, 2) := dk_16 6 (dk_at dksX0_letter_3 2 rfl rfl)
theorem dX0_letter_72 : decode cX0_letter 72 = .ok (.iload 5, 2) := dk_21 5 (dk_at dksX0_letter_3 4 rfl rfl)
theorem dX0_letter_74 : decode cX0_letter 74 = .ok (.iconst 1, 1) := dk_4 (dk_at dksX0_letter_3 6 rfl rfl)
theorem dX0_letter_75 : decode cX0_letter 75 = .ok (.isub, 1) := dk_100 (dk_at dksX0_letter_3 7 rfl rfl)
theorem dX0_letter_76 : decode cX0_letter 76 = .ok (.iload 7, 2) := dk_21 7 (dk_at dksX0_letter_3 8 rfl rfl)
theorem dX0_letter_78 : decode cX0_letter 78 = .ok (.isub, 1) := dk_100 (dk_at dksX0_letter_3 10 rfl rfl)
theorem dX0_letter_79 : decode cX0_letter 79 = .ok (.imul, 1) := dk_104 (dk_at dksX0_letter_3 11 rfl rfl)
theorem dX0_letter_80 : decode cX0_letter 80 = .ok (.ishr, 1) := dk_122 (dk_at dksX0_letter_3 12 rfl rfl)
theorem dX0_letter_81 : decode cX0_letter 81 = .ok (.istore 8, 2) := dk_54 8 (dk_at dksX0_letter_3 13 rfl rfl)
theorem dX0_letter_83 : decode cX0_letter 83 = .ok (.aload_n 0, 1) := dk_42 (dk_at dksX0_letter_3 15 rfl rfl)
theorem dX0_letter_84 : decode cX0_letter 84 = .ok (.getfield 16, 3) := dk_180 0 16 (dk_at dksX0_letter_3 16 rfl rfl)
theorem dX0_letter_87 : decode cX0_letter 87 = .ok (.iload 6, 2) := dk_21 6 (dk_at dksX0_letter_3 19 rfl rfl)
theorem dX0_letter_89 : decode cX0_letter 89 = .ok (.iload 7, 2) := dk_21 7 (dk_at dksX0_letter_3 21 rfl rfl)
theorem dX0_letter_91 : decode cX0_letter 91 = .ok (.iadd, 1) := dk_96 (dk_at dksX0_letter_3 23 rfl rfl)
theorem dX0_letter_92 : decode cX0_letter 92 = .ok (.iload 7, 2) := dk_21 7 (dk_at dksX0_letter_4 0 rfl rfl)
theorem dX0_letter_94 : decode cX0_letter 94 = .ok (.ifCond .le 15, 3) := dk_158 0 15 (dk_at dksX0_letter_4 2 rfl rfl)
theorem dX0_letter_97 : decode cX0_letter 97 = .ok (.sipush 128, 3) := dk_17 0 128 (dk_at dksX0_letter_4 5 rfl rfl)
theorem dX0_letter_100 : decode cX0_letter 100 = .ok (.iload 8, 2) := dk_21 8 (dk_at dksX0_letter_4 8 rfl rfl)
theorem dX0_letter_102 : decode cX0_letter 102 = .ok (.bipush 63, 2) := dk_16 63 (dk_at dksX0_letter_4 10 rfl rfl)
theorem dX0_letter_104 : decode cX0_letter 104 = .ok (.iand, 1) := dk_126 (dk_at dksX0_letter_4 12 rfl rfl)
theorem dX0_letter_105 : decode cX0_letter 105 = .ok (.ior, 1) := dk_128 (dk_at dksX0_letter_4 13 rfl rfl)
theorem dX0_letter_106 : decode cX0_letter 106 = .ok (.goto 50, 3) := dk_167 0 50 (dk_at dksX0_letter_4 14 rfl rfl)
theorem dX0_letter_109 : decode cX0_letter 109 = .ok (.iload 5, 2) := dk_21 5 (dk_at dksX0_letter_4 17 rfl rfl)
theorem dX0_letter_111 : decode cX0_letter 111 = .ok (.iconst 1, 1) := dk_4 (dk_at dksX0_letter_4 19 rfl rfl)
theorem dX0_letter_112 : decode cX0_letter 112 = .ok (.if_icmp .ne 8, 3) := dk_160 0 8 (dk_at dksX0_letter_4 20 rfl rfl)
theorem dX0_letter_115 : decode cX0_letter 115 = .ok (.iload 8, 2) := dk_21 8 (dk_at dksX0_letter_5 0 rfl rfl)
theorem dX0_letter_117 : decode cX0_letter 117 = .ok (.goto 39, 3) := dk_167 0 39 (dk_at dksX0_letter_5 2 rfl rfl)
theorem dX0_letter_120 : decode cX0_letter 120 = .ok (.iload 5, 2) := dk_21 5 (dk_at dksX0_letter_5 5 rfl rfl)
theorem dX0_letter_122 : decode cX0_letter 122 = .ok (.iconst 2, 1) := dk_5 (dk_at dksX0_letter_5 7 rfl rfl)
theorem dX0_letter_123 : decode cX0_letter 123 = .ok (.if_icmp .ne 12, 3) := dk_160 0 12 (dk_at dksX0_letter_5 8 rfl rfl)
theorem dX0_letter_126 : decode cX0_letter 126 = .ok (.sipush 192, 3) := dk_17 0 192 (dk_at dksX0_letter_5 11 rfl rfl)
theorem dX0_letter_129 : decode cX0_letter 129 = .ok (.iload 8, 2) := dk_21 8 (dk_at dksX0_letter_5 14 rfl rfl)
theorem dX0_letter_131 : decode cX0_letter 131 = .ok (.ior, 1) := dk_128 (dk_at dksX0_letter_5 16 rfl rfl)
theorem dX0_letter_132 : decode cX0_letter 132 = .ok (.goto 24, 3) := dk_167 0 24 (dk_at dksX0_letter_5 17 rfl rfl)
theorem dX0_letter_135 : decode cX0_letter 135 = .ok (.iload 5, 2) := dk_21 5 (dk_at dksX0_letter_5 20 rfl rfl)
theorem dX0_letter_137 : decode cX0_letter 137 = .ok (.iconst 3, 1) := dk_6 (dk_at dksX0_letter_5 22 rfl rfl)
theorem dX0_letter_138 : decode cX0_letter 138 = .ok (.if_icmp .ne 12, 3) := dk_160 0 12 (dk_at dksX0_letter_6 0 rfl rfl)
theorem dX0_letter_141 : decode cX0_letter 141 = .ok (.sipush 224, 3) := dk_17 0 224 (dk_at dksX0_letter_6 3 rfl rfl)
theorem dX0_letter_144 : decode cX0_letter 144 = .ok (.iload 8, 2) := dk_21 8 (dk_at dksX0_letter_6 6 rfl rfl)
theorem dX0_letter_146 : decode cX0_letter 146 = .ok (.ior, 1) := dk_128 (dk_at dksX0_letter_6 8 rfl rfl)
theorem dX0_letter_147 : decode cX0_letter 147 = .ok (.goto 9, 3) := dk_167 0 9 (dk_at dksX0_letter_6 9 rfl rfl)
theorem dX0_letter_150 : decode cX0_letter 150 = .ok (.sipush 240, 3) := dk_17 0 240 (dk_at dksX0_letter_6 12 rfl rfl)
theorem dX0_letter_153 : decode cX0_letter 153 = .ok (.iload 8, 2) := dk_21 8 (dk_at dksX0_letter_6 15 rfl rfl)
theorem dX0_letter_155 : decode cX0_letter 155 = .ok (.ior, 1) := dk_128 (dk_at dksX0_letter_6 17 rfl rfl)
theorem dX0_letter_156 : decode cX0_letter 156 = .ok (.i2b, 1) := dk_145 (dk_at dksX0_letter_6 18 rfl rfl)
theorem dX0_letter_157 : decode cX0_letter 157 = .ok (.bastore, 1) := dk_84 (dk_at dksX0_letter_6 19 rfl rfl)
theorem dX0_letter_158 : decode cX0_letter 158 = .ok (.iinc 7 1, 3) := dk_132 7 1 (dk_at dksX0_letter_6 20 rfl rfl)
theorem dX0_letter_161 : decode cX0_letter 161 = .ok (.goto (-100), 3) := dk_167 255 156 (dk_at dksX0_letter_7 0 rfl rfl)
theorem dX0_letter_164 : decode cX0_letter 164 = .ok (.iload 4, 2) := dk_21 4 (dk_at dksX0_letter_7 3 rfl rfl)
theorem dX0_letter_166 : decode cX0_letter 166 = .ok (.ldc 37, 2) := dk_18 37 (dk_at dksX0_letter_7 5 rfl rfl)
theorem dX0_letter_168 : decode cX0_letter 168 = .ok (.if_icmp .lt 14, 3) := dk_161 0 14 (dk_at dksX0_letter_7 7 rfl rfl)
theorem dX0_letter_171 : decode cX0_letter 171 = .ok (.iload 4, 2) := dk_21 4 (dk_at dksX0_letter_7 10 rfl rfl)
theorem dX0_letter_173 : decode cX0_letter 173 = .ok (.ldc 38, 2) := dk_18 38 (dk_at dksX0_letter_7 12 rfl rfl)
theorem dX0_letter_175 : decode cX0_letter 175 = .ok (.if_icmp .gt 7, 3) := dk_163 0 7 (dk_at dksX0_letter_7 14 rfl rfl)
theorem dX0_letter_178 : decode cX0_letter 178 = .ok (.iconst 1, 1) := dk_4 (dk_at dksX0_letter_7 17 rfl rfl)
theorem dX0_letter_179 : decode cX0_letter 179 = .ok (.goto 4, 3) := dk_167 0 4 (dk_at dksX0_letter_7 18 rfl rfl)
theorem dX0_letter_182 : decode cX0_letter 182 = .ok (.iconst 0, 1) := dk_3 (dk_at dksX0_letter_7 21 rfl rfl)
theorem dX0_letter_183 : decode cX0_letter 183 = .ok (.istore 7, 2) := dk_54 7 (dk_at dksX0_letter_7 22 rfl rfl)
theorem dX0_letter_185 : decode cX0_letter 185 = .ok (.aload_n 0, 1) := dk_42 (dk_at dksX0_letter_8 0 rfl rfl)
theorem dX0_letter_186 : decode cX0_letter 186 = .ok (.getfield 10, 3) := dk_180 0 10 (dk_at dksX0_letter_8 1 rfl rfl)
theorem dX0_letter_189 : decode cX0_letter 189 = .ok (.iload_n 1, 1) := dk_27 (dk_at dksX0_letter_8 4 rfl rfl)
theorem dX0_letter_190 : decode cX0_letter 190 = .ok (.iload_n 2, 1) := dk_28 (dk_at dksX0_letter_8 5 rfl rfl)
theorem dX0_letter_191 : decode cX0_letter 191 = .ok (.invokevirtual 75, 3) := dk_182 0 75 (dk_at dksX0_letter_8 6 rfl rfl)
theorem dX0_letter_194 : decode cX0_letter 194 = .ok (.iload 5, 2) := dk_21 5 (dk_at dksX0_letter_8 9 rfl rfl)
theorem dX0_letter_196 : decode cX0_letter 196 = .ok (.if_icmp .ne 55, 3) := dk_160 0 55 (dk_at dksX0_letter_8 11 rfl rfl)
theorem dX0_letter_199 : decode cX0_letter 199 = .ok (.aload_n 0, 1) := dk_42 (dk_at dksX0_letter_8 14 rfl rfl)
theorem dX0_letter_200 : decode cX0_letter 200 = .ok (.iload 6, 2) := dk_21 6 (dk_at dksX0_letter_8 15 rfl rfl)
theorem dX0_letter_202 : decode cX0_letter 202 = .ok (.iload 5, 2) := dk_21 5 (dk_at dksX0_letter_8 17 rfl rfl)
theorem dX0_letter_204 : decode cX0_letter 204 = .ok (.iconst 2, 1) := dk_5 (dk_at dksX0_letter_8 19 rfl rfl)
theorem dX0_letter_205 : decode cX0_letter 205 = .ok (.iload_n 3, 1) := dk_29 (dk_at dksX0_letter_8 20 rfl rfl)
theorem dX0_letter_206 : decode cX0_letter 206 = .ok (.bipush 100, 2) := dk_16 100 (dk_at dksX0_letter_8 21 rfl rfl)
theorem dX0_letter_208 : decode cX0_letter 208 = .ok (.invokestatic 49, 3) := dk_184 0 49 (dk_at dksX0_letter_9 0 rfl rfl)
theorem dX0_letter_211 : decode cX0_letter 211 = .ok (.iadd, 1) := dk_96 (dk_at dksX0_letter_9 3 rfl rfl)
theorem dX0_letter_212 : decode cX0_letter 212 = .ok (.iload_n 3, 1) := dk_29 (dk_at dksX0_letter_9 4 rfl rfl)
theorem dX0_letter_213 : decode cX0_letter 213 = .ok (.invokevirtual 78, 3) := dk_182 0 78 (dk_at dksX0_letter_9 5 rfl rfl)
theorem dX0_letter_216 : decode cX0_letter 216 = .ok (.ifCond .eq 35, 3) := dk_153 0 35 (dk_at dksX0_letter_9 8 rfl rfl)
theorem dX0_letter_219 : decode cX0_letter 219 = .ok (.aload_n 0, 1) := dk_42 (dk_at dksX0_letter_9 11 rfl rfl)
theorem dX0_letter_220 : decode cX0_letter 220 = .ok (.getfield 24, 3) := dk_180 0 24 (dk_at dksX0_letter_9 12 rfl rfl)
theorem dX0_letter_223 : decode cX0_letter 223 = .ok (.iload 7, 2) := dk_21 7 (dk_at dksX0_letter_9 15 rfl rfl)
theorem dX0_letter_225 : decode cX0_letter 225 = .ok (.ifCond .eq 7, 3) := dk_153 0 7 (dk_at dksX0_letter_9 17 rfl rfl)
theorem dX0_letter_228 : decode cX0_letter 228 = .ok (.iconst (-1), 1) := dk_2 (dk_at dksX0_letter_9 20 rfl rfl)
theorem dX0_letter_229 : decode cX0_letter 229 = .ok (.goto 15, 3) := dk_167 0 15 (dk_at dksX0_letter_9 21 rfl rfl)
theorem dX0_letter_232 : decode cX0_letter 232 = .ok (.iload 4, 2) := dk_21 4 (dk_at dksX0_letter_10 0 rfl rfl)
theorem dX0_letter_234 : decode cX0_letter 234 = .ok (.ldc 44, 2) := dk_18 44 (dk_at dksX0_letter_10 2 rfl rfl)
theorem dX0_letter_236 : decode cX0_letter 236 = .ok (.if_icmp .le 7, 3) := dk_164 0 7 (dk_at dksX0_letter_10 4 rfl rfl)
theorem dX0_letter_239 : decode cX0_letter 239 = .ok (.iconst 2, 1) := dk_5 (dk_at dksX0_letter_10 7 rfl rfl)
theorem dX0_letter_240 : decode cX0_letter 240 = .ok (.goto 4, 3) := dk_167 0 4 (dk_at dksX0_letter_10 8 rfl rfl)
theorem dX0_letter_243 : decode cX0_letter 243 = .ok (.iconst 1, 1) := dk_4 (dk_at dksX0_letter_10 11 rfl rfl)
theorem dX0_letter_244 : decode cX0_letter 244 = .ok (.if_icmp .ne 7, 3) := dk_160 0 7 (dk_at dksX0_letter_10 12 rfl rfl)
theorem dX0_letter_247 : decode cX0_letter 247 = .ok (.iconst 1, 1) := dk_4 (dk_at dksX0_letter_10 15 rfl rfl)
theorem dX0_letter_248 : decode cX0_letter 248 = .ok (.goto 4, 3) := dk_167 0 4 (dk_at dksX0_letter_10 16 rfl rfl)
theorem dX0_letter_251 : decode cX0_letter 251 = .ok (.iconst 0, 1) := dk_3 (dk_at dksX0_letter_10 19 rfl rfl)
theorem dX0_letter_252 : decode cX0_letter 252 = .ok (.ireturn, 1) := dk_172 (dk_at dksX0_letter_10 20 rfl rfl)
abbrev cX0_set : ByteArray := method_11_code
def yX0_set : MethodName := ⟨RX0, "set", "(II)Z"⟩
def dkwX0_set_2 : List UInt8 := [167, 0, 4, 3, 172]
abbrev dktX0_set_2 : List UInt8 := dkwX0_set_2 ++ []
def dkwX0_set_1 : List UInt8 := [180, 0, 10, 27, 28, 182, 0, 70, 42, 180, 0, 46, 158, 0, 7, 4, 167, 0, 4, 3, 160, 0, 7, 4]
abbrev dktX0_set_1 : List UInt8 := dkwX0_set_1 ++ dktX0_set_2
def dkwX0_set_0 : List UInt8 := [42, 180, 0, 46, 158, 0, 18, 42, 180, 0, 16, 27, 42, 180, 0, 46, 184, 0, 49, 28, 145, 84, 42]
abbrev dktX0_set_0 : List UInt8 := dkwX0_set_0 ++ dktX0_set_1
theorem dksX0_set_0 : cX0_set.data.toList.drop 0 = dktX0_set_0 := by decide +kernel
theorem dksX0_set_1 : cX0_set.data.toList.drop 23 = dktX0_set_1 := dk_seg dksX0_set_0 23 rfl rfl
theorem dksX0_set_2 : cX0_set.data.toList.drop 47 = dktX0_set_2 := dk_seg dksX0_set_1 24 rfl rfl
theorem dX0_set_0 : decode cX0_set 0 = .ok (.aload_n 0, 1) := dk_42 (dk_at dksX0_set_0 0 rfl rfl)
theorem dX0_set_1 : decode cX0_set 1 = .ok (.getfield 46, 3) := dk_180 0 46 (dk_at dksX0_set_0 1 rfl rfl)
theorem dX0_set_4 : decode cX0_set 4 = .ok (.ifCond .le 18, 3) := dk_158 0 18 (dk_at dksX0_set_0 4 rfl rfl)
theorem dX0_set_7 : decode cX0_set 7 = .ok (.aload_n 0, 1) := dk_42 (dk_at dksX0_set_0 7 rfl rfl)
theorem dX0_set_8 : decode cX0_set 8 = .ok (.getfield 16, 3) := dk_180 0 16 (dk_at dksX0_set_0 8 rfl rfl)
theorem dX0_set_11 : decode cX0_set 11 = .ok (.iload_n 1, 1) := dk_27 (dk_at dksX0_set_0 11 rfl rfl)
theorem dX0_set_12 : decode cX0_set 12 = .ok (.aload_n 0, 1) := dk_42 (dk_at dksX0_set_0 12 rfl rfl)
theorem dX0_set_13 : decode cX0_set 13 = .ok (.getfield 46, 3) := dk_180 0 46 (dk_at dksX0_set_0 13 rfl rfl)
theorem dX0_set_16 : decode cX0_set 16 = .ok (.invokestatic 49, 3) := dk_184 0 49 (dk_at dksX0_set_0 16 rfl rfl)
theorem dX0_set_19 : decode cX0_set 19 = .ok (.iload_n 2, 1) := dk_28 (dk_at dksX0_set_0 19 rfl rfl)
theorem dX0_set_20 : decode cX0_set 20 = .ok (.i2b, 1) := dk_145 (dk_at dksX0_set_0 20 rfl rfl)
theorem dX0_set_21 : decode cX0_set 21 = .ok (.bastore, 1) := dk_84 (dk_at dksX0_set_0 21 rfl rfl)
theorem dX0_set_22 : decode cX0_set 22 = .ok (.aload_n 0, 1) := dk_42 (dk_at dksX0_set_0 22 rfl rfl)
theorem dX0_set_23 : decode cX0_set 23 = .ok (.getfield 10, 3) := dk_180 0 10 (dk_at dksX0_set_1 0 rfl rfl)
theorem dX0_set_26 : decode cX0_set 26 = .ok (.iload_n 1, 1) := dk_27 (dk_at dksX0_set_1 3 rfl rfl)
theorem dX0_set_27 : decode cX0_set 27 = .ok (.iload_n 2, 1) := dk_28 (dk_at dksX0_set_1 4 rfl rfl)
theorem dX0_set_28 : decode cX0_set 28 = .ok (.invokevirtual 70, 3) := dk_182 0 70 (dk_at dksX0_set_1 5 rfl rfl)
theorem dX0_set_31 : decode cX0_set 31 = .ok (.aload_n 0, 1) := dk_42 (dk_at dksX0_set_1 8 rfl rfl)
theorem dX0_set_32 : decode cX0_set 32 = .ok (.getfield 46, 3) := dk_180 0 46 (dk_at dksX0_set_1 9 rfl rfl)
theorem dX0_set_35 : decode cX0_set 35 = .ok (.ifCond .le 7, 3) := dk_158 0 7 (dk_at dksX0_set_1 12 rfl rfl)
theorem dX0_set_38 : decode cX0_set 38 = .ok (.iconst 1, 1) := dk_4 (dk_at dksX0_set_1 15 rfl rfl)
theorem dX0_set_39 : decode cX0_set 39 = .ok (.goto 4, 3) := dk_167 0 4 (dk_at dksX0_set_1 16 rfl rfl)
theorem dX0_set_42 : decode cX0_set 42 = .ok (.iconst 0, 1) := dk_3 (dk_at dksX0_set_1 19 rfl rfl)
theorem dX0_set_43 : decode cX0_set 43 = .ok (.if_icmp .ne 7, 3) := dk_160 0 7 (dk_at dksX0_set_1 20 rfl rfl)
theorem dX0_set_46 : decode cX0_set 46 = .ok (.iconst 1, 1) := dk_4 (dk_at dksX0_set_1 23 rfl rfl)
theorem dX0_set_47 : decode cX0_set 47 = .ok (.goto 4, 3) := dk_167 0 4 (dk_at dksX0_set_2 0 rfl rfl)
theorem dX0_set_50 : decode cX0_set 50 = .ok (.iconst 0, 1) := dk_3 (dk_at dksX0_set_2 3 rfl rfl)
theorem dX0_set_51 : decode cX0_set 51 = .ok (.ireturn, 1) := dk_172 (dk_at dksX0_set_2 4 rfl rfl)
theorem q11 : (Jvm.Cond.initialized "UtfDeskLaw") ∈ lw_all := lw_g (lw_at lw_m0 0 rfl) rfl
theorem q14 : (Jvm.Cond.methodLink "UtfDeskLaw" (59 : Nat) ({ cls := "UtfDesk", name := "unit", desc := "(I)I" } : Jvm.MethodName)) ∈ lw_all := lw_g (lw_at lw_m0 3 rfl) rfl
theorem q19 : (Jvm.Cond.classLink "UtfDeskLaw" (11 : Nat) "UtfDeskLaw") ∈ lw_all := lw_g (lw_at lw_m0 8 rfl) rfl
theorem q20 : (Jvm.Cond.instantiable "UtfDeskLaw" (5 : Nat)) ∈ lw_all := lw_g (lw_at lw_m0 9 rfl) rfl
theorem q21 : (Jvm.Cond.methodLink "UtfDeskLaw" (91 : Nat) ({ cls := "UtfDeskLaw", name := "<init>", desc := "()V" } : Jvm.MethodName)) ∈ lw_all := lw_g (lw_at lw_m0 10 rfl) rfl
theorem q22 : (Jvm.Cond.instanceMethod ({ cls := "UtfDeskLaw", name := "<init>", desc := "()V" } : Jvm.MethodName)) ∈ lw_all := lw_g (lw_at lw_m0 11 rfl) rfl
theorem q23 : (Jvm.Cond.code ({ cls := "UtfDeskLaw", name := "<init>", desc := "()V" } : Jvm.MethodName) method_1_code (1 : Nat) (Option.none : Option Jvm.ClassFile.FieldType)) ∈ lw_all := lw_g (lw_at lw_m0 12 rfl) rfl
theorem q24 : (Jvm.Cond.methodLink "UtfDeskLaw" (1 : Nat) ({ cls := "java/lang/Object", name := "<init>", desc := "()V" } : Jvm.MethodName)) ∈ lw_all := lw_g (lw_at lw_m0 13 rfl) rfl
theorem q27 : (Jvm.Cond.classLink "UtfDeskLaw" (7 : Nat) "UtfDesk") ∈ lw_all := lw_g (lw_at lw_m0 16 rfl) rfl
theorem q29 : (Jvm.Cond.methodLink "UtfDeskLaw" (9 : Nat) ({ cls := "UtfDesk", name := "<init>", desc := "()V" } : Jvm.MethodName)) ∈ lw_all := lw_g (lw_at lw_m0 18 rfl) rfl
theorem q48 : (Jvm.Cond.fieldLink "UtfDeskLaw" (10 : Nat) "UtfDeskLaw" "f" "LUtfDesk;") ∈ lw_all := lw_g (lw_at lw_m0 37 rfl) rfl
theorem q49 : (Jvm.Cond.fieldLink "UtfDeskLaw" (16 : Nat) "UtfDeskLaw" "text" "[B") ∈ lw_all := lw_g (lw_at lw_m0 38 rfl) rfl
theorem q50 : (Jvm.Cond.fieldLink "UtfDeskLaw" (46 : Nat) "UtfDeskLaw" "size" "I") ∈ lw_all := lw_g (lw_at lw_m0 39 rfl) rfl
theorem q51 : (Jvm.Cond.fieldLink "UtfDeskLaw" (20 : Nat) "UtfDeskLaw" "units" "[I") ∈ lw_all := lw_g (lw_at lw_m0 40 rfl) rfl
theorem q52 : (Jvm.Cond.fieldLink "UtfDeskLaw" (24 : Nat) "UtfDeskLaw" "made" "I") ∈ lw_all := lw_g (lw_at lw_m0 41 rfl) rfl
theorem q53 : (Jvm.Cond.laysFinal "UtfDeskLaw" "UtfDeskLaw" "f" "LUtfDesk;") ∈ lw_all := lw_g (lw_at lw_m0 42 rfl) rfl
theorem q54 : (Jvm.Cond.soleField "UtfDeskLaw" "f") ∈ lw_all := lw_g (lw_at lw_m0 43 rfl) rfl
theorem q55 : (Jvm.Cond.laysFinal "UtfDeskLaw" "UtfDeskLaw" "text" "[B") ∈ lw_all := lw_g (lw_at lw_m0 44 rfl) rfl
theorem q56 : (Jvm.Cond.soleField "UtfDeskLaw" "text") ∈ lw_all := lw_g (lw_at lw_m0 45 rfl) rfl
theorem q57 : (Jvm.Cond.lays "UtfDeskLaw" "UtfDeskLaw" "size" "I") ∈ lw_all := lw_g (lw_at lw_m0 46 rfl) rfl
theorem q58 : (Jvm.Cond.soleField "UtfDeskLaw" "size") ∈ lw_all := lw_g (lw_at lw_m0 47 rfl) rfl
theorem q59 : (Jvm.Cond.laysFinal "UtfDeskLaw" "UtfDeskLaw" "units" "[I") ∈ lw_all := lw_g (lw_at lw_m0 48 rfl) rfl
theorem q60 : (Jvm.Cond.soleField "UtfDeskLaw" "units") ∈ lw_all := lw_g (lw_at lw_m0 49 rfl) rfl
theorem q61 : (Jvm.Cond.lays "UtfDeskLaw" "UtfDeskLaw" "made" "I") ∈ lw_all := lw_g (lw_at lw_m0 50 rfl) rfl
theorem q62 : (Jvm.Cond.soleField "UtfDeskLaw" "made") ∈ lw_all := lw_g (lw_at lw_m0 51 rfl) rfl
theorem q63 : (Jvm.Cond.superclass "UtfDeskLaw" "java/lang/Object") ∈ lw_all := lw_g (lw_at lw_m0 52 rfl) rfl
theorem q65 : (Jvm.Cond.methodLink "UtfDeskLaw" (92 : Nat) ({ cls := "UtfDeskLaw", name := "cell", desc := "([II)I" } : Jvm.MethodName)) ∈ lw_all := lw_g (lw_at lw_m0 54 rfl) rfl
theorem q66 : (Jvm.Cond.static ({ cls := "UtfDeskLaw", name := "cell", desc := "([II)I" } : Jvm.MethodName)) ∈ lw_all := lw_g (lw_at lw_m0 55 rfl) rfl
theorem q67 : (Jvm.Cond.code ({ cls := "UtfDeskLaw", name := "cell", desc := "([II)I" } : Jvm.MethodName) method_2_code (2 : Nat) (Option.some Jvm.ClassFile.FieldType.int)) ∈ lw_all := lw_g (lw_at lw_m0 56 rfl) rfl
theorem q68 : (Jvm.Cond.methodLink "UtfDeskLaw" (78 : Nat) ({ cls := "UtfDeskLaw", name := "turns", desc := "(IIII)Z" } : Jvm.MethodName)) ∈ lw_all := lw_g (lw_at lw_m0 57 rfl) rfl
theorem q69 : (Jvm.Cond.privateMethod ({ cls := "UtfDeskLaw", name := "turns", desc := "(IIII)Z" } : Jvm.MethodName)) ∈ lw_tbl := lw_at lw_m0 58 rfl
theorem q70 : (Jvm.Cond.instanceMethod ({ cls := "UtfDeskLaw", name := "turns", desc := "(IIII)Z" } : Jvm.MethodName)) ∈ lw_all := lw_g (lw_at lw_m0 59 rfl) rfl
theorem q71 : (Jvm.Cond.code ({ cls := "UtfDeskLaw", name := "turns", desc := "(IIII)Z" } : Jvm.MethodName) method_8_code (8 : Nat) (Option.some Jvm.ClassFile.FieldType.boolean)) ∈ lw_all := lw_g (lw_at lw_m0 60 rfl) rfl
theorem q72 : (Jvm.Cond.methodLink "UtfDeskLaw" (49 : Nat) ({ cls := "UtfDeskLaw", name := "from", desc := "(II)I" } : Jvm.MethodName)) ∈ lw_all := lw_g (lw_at lw_m0 61 rfl) rfl
theorem q73 : (Jvm.Cond.static ({ cls := "UtfDeskLaw", name := "from", desc := "(II)I" } : Jvm.MethodName)) ∈ lw_all := lw_g (lw_at lw_m0 62 rfl) rfl
theorem q74 : (Jvm.Cond.code ({ cls := "UtfDeskLaw", name := "from", desc := "(II)I" } : Jvm.MethodName) method_3_code (2 : Nat) (Option.some Jvm.ClassFile.FieldType.int)) ∈ lw_all := lw_g (lw_at lw_m0 63 rfl) rfl
theorem q75 : (Jvm.Cond.constant "UtfDeskLaw" (28 : Nat) (2147483647 : Int32)) ∈ lw_all := lw_g (lw_at lw_m0 64 rfl) rfl
theorem q76 : (Jvm.Cond.methodLink "UtfDeskLaw" (52 : Nat) ({ cls := "UtfDeskLaw", name := "turned", desc := "(III)I" } : Jvm.MethodName)) ∈ lw_all := lw_g (lw_at lw_m0 65 rfl) rfl
theorem q77 : (Jvm.Cond.privateMethod ({ cls := "UtfDeskLaw", name := "turned", desc := "(III)I" } : Jvm.MethodName)) ∈ lw_tbl := lw_at lw_m0 66 rfl
theorem q78 : (Jvm.Cond.instanceMethod ({ cls := "UtfDeskLaw", name := "turned", desc := "(III)I" } : Jvm.MethodName)) ∈ lw_all := lw_g (lw_at lw_m0 67 rfl) rfl
theorem q79 : (Jvm.Cond.code ({ cls := "UtfDeskLaw", name := "turned", desc := "(III)I" } : Jvm.MethodName) method_7_code (7 : Nat) (Option.some Jvm.ClassFile.FieldType.int)) ∈ lw_all := lw_g (lw_at lw_m0 68 rfl) rfl
theorem q80 : (Jvm.Cond.methodLink "UtfDeskLaw" (40 : Nat) ({ cls := "UtfDeskLaw", name := "number", desc := "(II)I" } : Jvm.MethodName)) ∈ lw_all := lw_g (lw_at lw_m0 69 rfl) rfl
theorem q81 : (Jvm.Cond.privateMethod ({ cls := "UtfDeskLaw", name := "number", desc := "(II)I" } : Jvm.MethodName)) ∈ lw_tbl := lw_at lw_m0 70 rfl
theorem q82 : (Jvm.Cond.instanceMethod ({ cls := "UtfDeskLaw", name := "number", desc := "(II)I" } : Jvm.MethodName)) ∈ lw_all := lw_g (lw_at lw_m0 71 rfl) rfl
theorem q83 : (Jvm.Cond.code ({ cls := "UtfDeskLaw", name := "number", desc := "(II)I" } : Jvm.MethodName) method_4_code (8 : Nat) (Option.some Jvm.ClassFile.FieldType.int)) ∈ lw_all := lw_g (lw_at lw_m0 72 rfl) rfl
theorem q84 : (Jvm.Cond.methodLink "UtfDeskLaw" (29 : Nat) ({ cls := "UtfDeskLaw", name := "bytes", desc := "(I)I" } : Jvm.MethodName)) ∈ lw_all := lw_g (lw_at lw_m0 73 rfl) rfl
theorem q85 : (Jvm.Cond.static ({ cls := "UtfDeskLaw", name := "bytes", desc := "(I)I" } : Jvm.MethodName)) ∈ lw_all := lw_g (lw_at lw_m0 74 rfl) rfl
theorem q86 : (Jvm.Cond.code ({ cls := "UtfDeskLaw", name := "bytes", desc := "(I)I" } : Jvm.MethodName) method_5_code (1 : Nat) (Option.some Jvm.ClassFile.FieldType.int)) ∈ lw_all := lw_g (lw_at lw_m0 75 rfl) rfl
theorem q87 : (Jvm.Cond.methodLink "UtfDeskLaw" (33 : Nat) ({ cls := "UtfDeskLaw", name := "needed", desc := "(I)I" } : Jvm.MethodName)) ∈ lw_all := lw_g (lw_at lw_m0 76 rfl) rfl
theorem q88 : (Jvm.Cond.static ({ cls := "UtfDeskLaw", name := "needed", desc := "(I)I" } : Jvm.MethodName)) ∈ lw_all := lw_g (lw_at lw_m0 77 rfl) rfl
theorem q89 : (Jvm.Cond.code ({ cls := "UtfDeskLaw", name := "needed", desc := "(I)I" } : Jvm.MethodName) method_6_code (1 : Nat) (Option.some Jvm.ClassFile.FieldType.int)) ∈ lw_all := lw_g (lw_at lw_m0 78 rfl) rfl
theorem q90 : (Jvm.Cond.constant "UtfDeskLaw" (39 : Nat) (65536 : Int32)) ∈ lw_all := lw_g (lw_at lw_m0 79 rfl) rfl
theorem q91 : (Jvm.Cond.constant "UtfDeskLaw" (36 : Nat) (1114111 : Int32)) ∈ lw_all := lw_g (lw_at lw_m0 80 rfl) rfl
theorem q92 : (Jvm.Cond.constant "UtfDeskLaw" (37 : Nat) (55296 : Int32)) ∈ lw_all := lw_g (lw_at lw_m0 81 rfl) rfl
theorem q93 : (Jvm.Cond.constant "UtfDeskLaw" (38 : Nat) (57343 : Int32)) ∈ lw_all := lw_g (lw_at lw_m0 82 rfl) rfl
theorem q94 : (Jvm.Cond.constant "UtfDeskLaw" (44 : Nat) (65535 : Int32)) ∈ lw_all := lw_g (lw_at lw_m0 83 rfl) rfl
theorem q95 : (Jvm.Cond.constant "UtfDeskLaw" (45 : Nat) (56320 : Int32)) ∈ lw_all := lw_g (lw_at lw_m0 84 rfl) rfl
theorem q96 : (Jvm.Cond.methodLink "UtfDeskLaw" (56 : Nat) ({ cls := "UtfDesk", name := "turn", desc := "(III)I" } : Jvm.MethodName)) ∈ lw_all := lw_g (lw_at lw_m0 85 rfl) rfl
theorem q125 : (Jvm.Cond.methodLink "UtfDeskLaw" (62 : Nat) ({ cls := "UtfDeskLaw", name := "isUnit", desc := "(I)Z" } : Jvm.MethodName)) ∈ lw_all := lw_g (lw_at lw_m0 114 rfl) rfl
theorem q126 : (Jvm.Cond.privateMethod ({ cls := "UtfDeskLaw", name := "isUnit", desc := "(I)Z" } : Jvm.MethodName)) ∈ lw_tbl := lw_at lw_m0 115 rfl
theorem q127 : (Jvm.Cond.instanceMethod ({ cls := "UtfDeskLaw", name := "isUnit", desc := "(I)Z" } : Jvm.MethodName)) ∈ lw_all := lw_g (lw_at lw_m0 116 rfl) rfl
theorem q128 : (Jvm.Cond.code ({ cls := "UtfDeskLaw", name := "isUnit", desc := "(I)Z" } : Jvm.MethodName) method_9_code (2 : Nat) (Option.some Jvm.ClassFile.FieldType.boolean)) ∈ lw_all := lw_g (lw_at lw_m0 117 rfl) rfl
theorem q129 : (Jvm.Cond.methodLink "UtfDeskLaw" (96 : Nat) ({ cls := "UtfDeskLaw", name := "step", desc := "(IIIIII)Z" } : Jvm.MethodName)) ∈ lw_all := lw_g (lw_at lw_m0 118 rfl) rfl
theorem q130 : (Jvm.Cond.privateMethod ({ cls := "UtfDeskLaw", name := "step", desc := "(IIIIII)Z" } : Jvm.MethodName)) ∈ lw_tbl := lw_at lw_m0 119 rfl
theorem q131 : (Jvm.Cond.instanceMethod ({ cls := "UtfDeskLaw", name := "step", desc := "(IIIIII)Z" } : Jvm.MethodName)) ∈ lw_all := lw_g (lw_at lw_m0 120 rfl) rfl
theorem q132 : (Jvm.Cond.code ({ cls := "UtfDeskLaw", name := "step", desc := "(IIIIII)Z" } : Jvm.MethodName) method_13_code (7 : Nat) (Option.some Jvm.ClassFile.FieldType.boolean)) ∈ lw_all := lw_g (lw_at lw_m0 121 rfl) rfl
theorem q133 : (Jvm.Cond.methodLink "UtfDeskLaw" (81 : Nat) ({ cls := "UtfDeskLaw", name := "put", desc := "(IIII)Z" } : Jvm.MethodName)) ∈ lw_all := lw_g (lw_at lw_m0 122 rfl) rfl
theorem q134 : (Jvm.Cond.privateMethod ({ cls := "UtfDeskLaw", name := "put", desc := "(IIII)Z" } : Jvm.MethodName)) ∈ lw_tbl := lw_at lw_m0 123 rfl
theorem q135 : (Jvm.Cond.instanceMethod ({ cls := "UtfDeskLaw", name := "put", desc := "(IIII)Z" } : Jvm.MethodName)) ∈ lw_all := lw_g (lw_at lw_m0 124 rfl) rfl
theorem q136 : (Jvm.Cond.code ({ cls := "UtfDeskLaw", name := "put", desc := "(IIII)Z" } : Jvm.MethodName) method_10_code (7 : Nat) (Option.some Jvm.ClassFile.FieldType.boolean)) ∈ lw_all := lw_g (lw_at lw_m0 125 rfl) rfl
theorem q137 : (Jvm.Cond.methodLink "UtfDeskLaw" (66 : Nat) ({ cls := "UtfDesk", name := "put", desc := "(IIII)Z" } : Jvm.MethodName)) ∈ lw_all := lw_g (lw_at lw_m0 126 rfl) rfl
theorem q144 : (Jvm.Cond.constant "UtfDeskLaw" (82 : Nat) (2139062143 : Int32)) ∈ lw_all := lw_g (lw_at lw_m0 133 rfl) rfl
theorem q145 : (Jvm.Cond.methodLink "UtfDeskLaw" (83 : Nat) ({ cls := "UtfDeskLaw", name := "letter", desc := "(III)Z" } : Jvm.MethodName)) ∈ lw_all := lw_g (lw_at lw_m0 134 rfl) rfl
theorem q146 : (Jvm.Cond.privateMethod ({ cls := "UtfDeskLaw", name := "letter", desc := "(III)Z" } : Jvm.MethodName)) ∈ lw_tbl := lw_at lw_m0 135 rfl
theorem q147 : (Jvm.Cond.instanceMethod ({ cls := "UtfDeskLaw", name := "letter", desc := "(III)Z" } : Jvm.MethodName)) ∈ lw_all := lw_g (lw_at lw_m0 136 rfl) rfl
theorem q148 : (Jvm.Cond.code ({ cls := "UtfDeskLaw", name := "letter", desc := "(III)Z" } : Jvm.MethodName) method_12_code (9 : Nat) (Option.some Jvm.ClassFile.FieldType.boolean)) ∈ lw_all := lw_g (lw_at lw_m0 137 rfl) rfl
theorem q149 : (Jvm.Cond.constant "UtfDeskLaw" (74 : Nat) (1114112 : Int32)) ∈ lw_all := lw_g (lw_at lw_m0 138 rfl) rfl
theorem q150 : (Jvm.Cond.methodLink "UtfDeskLaw" (75 : Nat) ({ cls := "UtfDesk", name := "letter", desc := "(II)I" } : Jvm.MethodName)) ∈ lw_all := lw_g (lw_at lw_m0 139 rfl) rfl
theorem q156 : (Jvm.Cond.methodLink "UtfDeskLaw" (86 : Nat) ({ cls := "UtfDeskLaw", name := "set", desc := "(II)Z" } : Jvm.MethodName)) ∈ lw_all := lw_g (lw_at lw_m0 145 rfl) rfl
theorem q157 : (Jvm.Cond.privateMethod ({ cls := "UtfDeskLaw", name := "set", desc := "(II)Z" } : Jvm.MethodName)) ∈ lw_tbl := lw_at lw_m0 146 rfl
theorem q158 : (Jvm.Cond.instanceMethod ({ cls := "UtfDeskLaw", name := "set", desc := "(II)Z" } : Jvm.MethodName)) ∈ lw_all := lw_g (lw_at lw_m0 147 rfl) rfl
theorem q159 : (Jvm.Cond.code ({ cls := "UtfDeskLaw", name := "set", desc := "(II)Z" } : Jvm.MethodName) method_11_code (3 : Nat) (Option.some Jvm.ClassFile.FieldType.boolean)) ∈ lw_all := lw_g (lw_at lw_m0 148 rfl) rfl
theorem q160 : (Jvm.Cond.methodLink "UtfDeskLaw" (70 : Nat) ({ cls := "UtfDesk", name := "set", desc := "(II)Z" } : Jvm.MethodName)) ∈ lw_all := lw_g (lw_at lw_m0 149 rfl) rfl
theorem q164 : (Jvm.Cond.methodLink "UtfDeskLaw" (87 : Nat) ({ cls := "UtfDesk", name := "trim", desc := "(I)V" } : Jvm.MethodName)) ∈ lw_all := lw_g (lw_at lw_m0 153 rfl) rfl
theorem in_X0 : ∀ w ∈ wsX00, w ∈ lw_all := lw_in wsX00 [53, 55, 57, 59, 61] (by decide +kernel) (by decide +kernel)
/-! the law's own entry -/
set_option maxRecDepth 100000
abbrev cL_law : ByteArray := code
def dkwL_law_5 : List UInt8 := [132, 2, 1, 167, 255, 225, 4, 172]
abbrev dktL_law_5 : List UInt8 := dkwL_law_5 ++ []
def dkwL_law_4 : List UInt8 := [162, 0, 29, 43, 28, 43, 180, 0, 46, 28, 100, 17, 0, 160, 28, 182, 0, 78, 154, 0, 5, 3, 172]
abbrev dktL_law_4 : List UInt8 := dkwL_law_4 ++ dktL_law_5
def dkwL_law_3 : List UInt8 := [184, 0, 92, 182, 0, 96, 154, 0, 5, 3, 172, 132, 2, 6, 167, 255, 198, 3, 61, 28, 43, 180, 0, 46]
abbrev dktL_law_3 : List UInt8 := dkwL_law_3 ++ dktL_law_4
def dkwL_law_2 : List UInt8 := [28, 5, 96, 184, 0, 92, 42, 28, 6, 96, 184, 0, 92, 42, 28, 7, 96, 184, 0, 92, 42, 28, 8, 96]
abbrev dktL_law_2 : List UInt8 := dkwL_law_2 ++ dktL_law_3
def dkwL_law_1 : List UInt8 := [3, 172, 3, 61, 28, 16, 96, 162, 0, 58, 43, 42, 28, 184, 0, 92, 42, 28, 4, 96, 184, 0, 92, 42]
abbrev dktL_law_1 : List UInt8 := dkwL_law_1 ++ dktL_law_2
def dkwL_law_0 : List UInt8 := [187, 0, 11, 89, 183, 0, 91, 76, 43, 180, 0, 10, 42, 3, 184, 0, 92, 182, 0, 59, 2, 159, 0, 5]
abbrev dktL_law_0 : List UInt8 := dkwL_law_0 ++ dktL_law_1
theorem dksL_law_0 : cL_law.data.toList.drop 0 = dktL_law_0 := by decide +kernel
theorem dksL_law_1 : cL_law.data.toList.drop 24 = dktL_law_1 := dk_seg dksL_law_0 24 rfl rfl
theorem dksL_law_2 : cL_law.data.toList.drop 48 = dktL_law_2 := dk_seg dksL_law_1 24 rfl rfl
theorem dksL_law_3 : cL_law.data.toList.drop 72 = dktL_law_3 := dk_seg dksL_law_2 24 rfl rfl
theorem dksL_law_4 : cL_law.data.toList.drop 96 = dktL_law_4 := dk_seg dksL_law_3 24 rfl rfl
theorem dksL_law_5 : cL_law.data.toList.drop 119 = dktL_law_5 := dk_seg dksL_law_4 23 rfl rfl
theorem dL_law_0 : decode cL_law 0 = .ok (.new 11, 3) := dk_187 0 11 (dk_at dksL_law_0 0 rfl rfl)
theorem dL_law_3 : decode cL_law 3 = .ok (.dup, 1) := dk_89 (dk_at dksL_law_0 3 rfl rfl)
theorem dL_law_4 : decode cL_law 4 = .ok (.invokespecial 91, 3) := dk_183 0 91 (dk_at dksL_law_0 4 rfl rfl)
theorem dL_law_7 : decode cL_law 7 = .ok (.astore_n 1, 1) := dk_76 (dk_at dksL_law_0 7 rfl rfl)
theorem dL_law_8 : decode cL_law 8 = .ok (.aload_n 1, 1) := dk_43 (dk_at dksL_law_0 8 rfl rfl)
theorem dL_law_9 : decode cL_law 9 = .ok (.getfield 10, 3) := dk_180 0 10 (dk_at dksL_law_0 9 rfl rfl)
theorem dL_law_12 : decode cL_law 12 = .ok (.aload_n 0, 1) := dk_42 (dk_at dksL_law_0 12 rfl rfl)
theorem dL_law_13 : decode cL_law 13 = .ok (.iconst 0, 1) := dk_3 (dk_at dksL_law_0 13 rfl rfl)
theorem dL_law_14 : decode cL_law 14 = .ok (.invokestatic 92, 3) := dk_184 0 92 (dk_at dksL_law_0 14 rfl rfl)
theorem dL_law_17 : decode cL_law 17 = .ok (.invokevirtual 59, 3) := dk_182 0 59 (dk_at dksL_law_0 17 rfl rfl)
theorem dL_law_20 : decode cL_law 20 = .ok (.iconst (-1), 1) := dk_2 (dk_at dksL_law_0 20 rfl rfl)
theorem dL_law_21 : decode cL_law 21 = .ok (.if_icmp .eq 5, 3) := dk_159 0 5 (dk_at dksL_law_0 21 rfl rfl)
theorem dL_law_24 : decode cL_law 24 = .ok (.iconst 0, 1) := dk_3 (dk_at dksL_law_1 0 rfl rfl)
theorem dL_law_25 : decode cL_law 25 = .ok (.ireturn, 1) := dk_172 (dk_at dksL_law_1 1 rfl rfl)
theorem dL_law_26 : decode cL_law 26 = .ok (.iconst 0, 1) := dk_3 (dk_at dksL_law_1 2 rfl rfl)
theorem dL_law_27 : decode cL_law 27 = .ok (.istore_n 2, 1) := dk_61 (dk_at dksL_law_1 3 rfl rfl)
theorem dL_law_28 : decode cL_law 28 = .ok (.iload_n 2, 1) := dk_28 (dk_at dksL_law_1 4 rfl rfl)
theorem dL_law_29 : decode cL_law 29 = .ok (.bipush 96, 2) := dk_16 96 (dk_at dksL_law_1 5 rfl rfl)
theorem dL_law_31 : decode cL_law 31 = .ok (.if_icmp .ge 58, 3) := dk_162 0 58 (dk_at dksL_law_1 7 rfl rfl)
theorem dL_law_34 : decode cL_law 34 = .ok (.aload_n 1, 1) := dk_43 (dk_at dksL_law_1 10 rfl rfl)
theorem dL_law_35 : decode cL_law 35 = .ok (.aload_n 0, 1) := dk_42 (dk_at dksL_law_1 11 rfl rfl)
theorem dL_law_36 : decode cL_law 36 = .ok (.iload_n 2, 1) := dk_28 (dk_at dksL_law_1 12 rfl rfl)
theorem dL_law_37 : decode cL_law 37 = .ok (.invokestatic 92, 3) := dk_184 0 92 (dk_at dksL_law_1 13 rfl rfl)
theorem dL_law_40 : decode cL_law 40 = .ok (.aload_n 0, 1) := dk_42 (dk_at dksL_law_1 16 rfl rfl)
theorem dL_law_41 : decode cL_law 41 = .ok (.iload_n 2, 1) := dk_28 (dk_at dksL_law_1 17 rfl rfl)
theorem dL_law_42 : decode cL_law 42 = .ok (.iconst 1, 1) := dk_4 (dk_at dksL_law_1 18 rfl rfl)
theorem dL_law_43 : decode cL_law 43 = .ok (.iadd, 1) := dk_96 (dk_at dksL_law_1 19 rfl rfl)
theorem dL_law_44 : decode cL_law 44 = .ok (.invokestatic 92, 3) := dk_184 0 92 (dk_at dksL_law_1 20 rfl rfl)
theorem dL_law_47 : decode cL_law 47 = .ok (.aload_n 0, 1) := dk_42 (dk_at dksL_law_1 23 rfl rfl)
theorem dL_law_48 : decode cL_law 48 = .ok (.iload_n 2, 1) := dk_28 (dk_at dksL_law_2 0 rfl rfl)
theorem dL_law_49 : decode cL_law 49 = .ok (.iconst 2, 1) := dk_5 (dk_at dksL_law_2 1 rfl rfl)
theorem dL_law_50 : decode cL_law 50 = .ok (.iadd, 1) := dk_96 (dk_at dksL_law_2 2 rfl rfl)
theorem dL_law_51 : decode cL_law 51 = .ok (.invokestatic 92, 3) := dk_184 0 92 (dk_at dksL_law_2 3 rfl rfl)
theorem dL_law_54 : decode cL_law 54 = .ok (.aload_n 0, 1) := dk_42 (dk_at dksL_law_2 6 rfl rfl)
theorem dL_law_55 : decode cL_law 55 = .ok (.iload_n 2, 1) := dk_28 (dk_at dksL_law_2 7 rfl rfl)
theorem dL_law_56 : decode cL_law 56 = .ok (.iconst 3, 1) := dk_6 (dk_at dksL_law_2 8 rfl rfl)
theorem dL_law_57 : decode cL_law 57 = .ok (.iadd, 1) := dk_96 (dk_at dksL_law_2 9 rfl rfl)
theorem dL_law_58 : decode cL_law 58 = .ok (.invokestatic 92, 3) := dk_184 0 92 (dk_at dksL_law_2 10 rfl rfl)
theorem dL_law_61 : decode cL_law 61 = .ok (.aload_n 0, 1) := dk_42 (dk_at dksL_law_2 13 rfl rfl)
theorem dL_law_62 : decode cL_law 62 = .ok (.iload_n 2, 1) := dk_28 (dk_at dksL_law_2 14 rfl rfl)
theorem dL_law_63 : decode cL_law 63 = .ok (.iconst 4, 1) := dk_7 (dk_at dksL_law_2 15 rfl rfl)
theorem dL_law_64 : decode cL_law 64 = .ok (.iadd, 1) := dk_96 (dk_at dksL_law_2 16 rfl rfl)
theorem dL_law_65 : decode cL_law 65 = .ok (.invokestatic 92, 3) := dk_184 0 92 (dk_at dksL_law_2 17 rfl rfl)
theorem dL_law_68 : decode cL_law 68 = .ok (.aload_n 0, 1) := dk_42 (dk_at dksL_law_2 20 rfl rfl)
theorem dL_law_69 : decode cL_law 69 = .ok (.iload_n 2, 1) := dk_28 (dk_at dksL_law_2 21 rfl rfl)
theorem dL_law_70 : decode cL_law 70 = .ok (.iconst 5, 1) := dk_8 (dk_at dksL_law_2 22 rfl rfl)
theorem dL_law_71 : decode cL_law 71 = .ok (.iadd, 1) := dk_96 (dk_at dksL_law_2 23 rfl rfl)
theorem dL_law_72 : decode cL_law 72 = .ok (.invokestatic 92, 3) := dk_184 0 92 (dk_at dksL_law_3 0 rfl rfl)
theorem dL_law_75 : decode cL_law 75 = .ok (.invokevirtual 96, 3) := dk_182 0 96 (dk_at dksL_law_3 3 rfl rfl)
theorem dL_law_78 : decode cL_law 78 = .ok (.ifCond .ne 5, 3) := dk_154 0 5 (dk_at dksL_law_3 6 rfl rfl)
theorem dL_law_81 : decode cL_law 81 = .ok (.iconst 0, 1) := dk_3 (dk_at dksL_law_3 9 rfl rfl)
theorem dL_law_82 : decode cL_law 82 = .ok (.ireturn, 1) := dk_172 (dk_at dksL_law_3 10 rfl rfl)
theorem dL_law_83 : decode cL_law 83 = .ok (.iinc 2 6, 3) := dk_132 2 6 (dk_at dksL_law_3 11 rfl rfl)
theorem dL_law_86 : decode cL_law 86 = .ok (.goto (-58), 3) := dk_167 255 198 (dk_at dksL_law_3 14 rfl rfl)
theorem dL_law_89 : decode cL_law 89 = .ok (.iconst 0, 1) := dk_3 (dk_at dksL_law_3 17 rfl rfl)
theorem dL_law_90 : decode cL_law 90 = .ok (.istore_n 2, 1) := dk_61 (dk_at dksL_law_3 18 rfl rfl)
theorem dL_law_91 : decode cL_law 91 = .ok (.iload_n 2, 1) := dk_28 (dk_at dksL_law_3 19 rfl rfl)
theorem dL_law_92 : decode cL_law 92 = .ok (.aload_n 1, 1) := dk_43 (dk_at dksL_law_3 20 rfl rfl)
theorem dL_law_93 : decode cL_law 93 = .ok (.getfield 46, 3) := dk_180 0 46 (dk_at dksL_law_3 21 rfl rfl)
theorem dL_law_96 : decode cL_law 96 = .ok (.if_icmp .ge 29, 3) := dk_162 0 29 (dk_at dksL_law_4 0 rfl rfl)
theorem dL_law_99 : decode cL_law 99 = .ok (.aload_n 1, 1) := dk_43 (dk_at dksL_law_4 3 rfl rfl)
theorem dL_law_100 : decode cL_law 100 = .ok (.iload_n 2, 1) := dk_28 (dk_at dksL_law_4 4 rfl rfl)
theorem dL_law_101 : decode cL_law 101 = .ok (.aload_n 1, 1) := dk_43 (dk_at dksL_law_4 5 rfl rfl)
theorem dL_law_102 : decode cL_law 102 = .ok (.getfield 46, 3) := dk_180 0 46 (dk_at dksL_law_4 6 rfl rfl)
theorem dL_law_105 : decode cL_law 105 = .ok (.iload_n 2, 1) := dk_28 (dk_at dksL_law_4 9 rfl rfl)
theorem dL_law_106 : decode cL_law 106 = .ok (.isub, 1) := dk_100 (dk_at dksL_law_4 10 rfl rfl)
theorem dL_law_107 : decode cL_law 107 = .ok (.sipush 160, 3) := dk_17 0 160 (dk_at dksL_law_4 11 rfl rfl)
theorem dL_law_110 : decode cL_law 110 = .ok (.iload_n 2, 1) := dk_28 (dk_at dksL_law_4 14 rfl rfl)
theorem dL_law_111 : decode cL_law 111 = .ok (.invokevirtual 78, 3) := dk_182 0 78 (dk_at dksL_law_4 15 rfl rfl)
theorem dL_law_114 : decode cL_law 114 = .ok (.ifCond .ne 5, 3) := dk_154 0 5 (dk_at dksL_law_4 18 rfl rfl)
theorem dL_law_117 : decode cL_law 117 = .ok (.iconst 0, 1) := dk_3 (dk_at dksL_law_4 21 rfl rfl)
theorem dL_law_118 : decode cL_law 118 = .ok (.ireturn, 1) := dk_172 (dk_at dksL_law_4 22 rfl rfl)
theorem dL_law_119 : decode cL_law 119 = .ok (.iinc 2 1, 3) := dk_132 2 1 (dk_at dksL_law_5 0 rfl rfl)
theorem dL_law_122 : decode cL_law 122 = .ok (.goto (-31), 3) := dk_167 255 225 (dk_at dksL_law_5 3 rfl rfl)
theorem dL_law_125 : decode cL_law 125 = .ok (.iconst 1, 1) := dk_4 (dk_at dksL_law_5 6 rfl rfl)
theorem dL_law_126 : decode cL_law 126 = .ok (.ireturn, 1) := dk_172 (dk_at dksL_law_5 7 rfl rfl)
end
section
/-! THE PLAIN LAW: bytes, UTF-8 well-formedness, units; no program in sight -/
def ud_ftL : List Int32 := [-2, -2, -2, -2, -2, -2, -2, -2, -2, -2, -2, -2, -2, -2, -2, -2, -2, -2, -2, -2, -2, -2, -2, -2, -2, -2, -2, -2, -2, -2, -2, -2, -2, -2, -2, -2, -2, -2, -2, -2, -2, -2, -2, -2, -2, -2, -2, -2, -2, -2, -2, -2, -2, -2, -2, -2, -2, -2, -2, -2, -2, -2, -2, -2, -2, -2, 512, 768, 1024, 1280, 1536, 1792, 2048, 2304, 2560, 2816, 3072, 3328, 3584, 3840, 4096, 4352, 4608, 4864, 5120, 5376, 5632, 5888, 6144, 6400, 6656, 6912, 7168, 7424, 7680, 7936, 48, 272, 528, 784, 1040, 1296, 1552, 1808, 2064, 2320, 2576, 2832, 3088, 3392, 3600, 3856, 80, 288, 544, 800, 1120, -2, -2, -2, -2, -2, -2, -2, -2, -2, -2, -2]
def ud_ttL : List Int32 := [-2, -2, -2, -2, -2, -2, -2, -2, -1, -1, -1, -1, -2, -2, -2, -2, -2, -2, -2, -2, -2, -2, -2, -2, 0, 0, 0, 0, -2, -2, -2, -2, -2, -2, -2, -2, -2, -2, -2, -2, 16, 16, 16, 16, -2, -2, -2, -2, -2, -2, -2, -2, -2, -2, -2, -2, -2, -2, 0, 0, -2, -2, -2, -2, -2, -2, -2, -2, -2, -2, -2, -2, 0, 0, -2, -2, -2, -2, -2, -2, -2, -2, -2, -2, -2, -2, -2, -2, -2, 16, 16, 16, -2, -2, -2, -2, -2, -2, -2, -2, -2, -2, -2, -2, 16, -2, -2, -2, -2, -2, -2, -2]
/-- what the two static tables hold -/
def ud_ft (j : Nat) : Int32 := ud_ftL.getD j 0
def ud_tt (j : Nat) : Int32 := ud_ttL.getD j 0
/-- a byte as the machine holds it -/
def ud_sB (n : Nat) : Int32 := (nI n).toInt8.toInt32
def ud_g (f : Nat → Int32) (j : Nat) : Nat := (f j).toBitVec.toNat % 256
def ud_isB (f : Nat → Int32) : Prop := ∀ j, f j = ud_sB (ud_g f j)
theorem ud_g_lt (f : Nat → Int32) (j : Nat) : ud_g f j < 256 := Nat.mod_lt _ (by decide)
set_option maxRecDepth 100000 in
theorem ud_b1 : ∀ n, n < 256 → ud_sB n &&& 255 = nI n := by decide +kernel
set_option maxRecDepth 100000 in
theorem ud_b2 : ∀ n, n < 256 → (0 ≤ ud_sB n ↔ n < 128) := by decide +kernel
set_option maxRecDepth 100000 in
theorem ud_b2' : ∀ n, n < 128 → ud_sB n = nI n := by decide +kernel
set_option maxRecDepth 100000 in
theorem ud_b3 : ∀ n, n < 256 → 128 ≤ n → ud_sB n &&& 127 = nI (n - 128) := by decide +kernel
set_option maxRecDepth 100000 in
theorem ud_b4 : ∀ n, n < 256 → ud_sB n &&& 63 = nI (n % 64) := by decide +kernel
set_option maxRecDepth 100000 in
theorem ud_b5 : ∀ n, n < 256 → ((nI n).toUInt32 >>> ((4 : Int32).toUInt32 &&& Int32.toUInt32 31)).toInt32 = nI (n / 16) := by decide +kernel
set_option maxRecDepth 100000 in
theorem ud_b6 : ∀ n, n < 256 → (ud_sB n).toInt8.toInt32 = ud_sB n := by decide +kernel
set_option maxRecDepth 100000 in
theorem ud_b7 : ∀ n, n < 256 → (ud_sB n).toBitVec.toNat % 256 = n := by decide +kernel
set_option maxRecDepth 100000 in
theorem ud_b8 : ∀ n, n < 256 → (Int8.ofNat n).toInt32 = ud_sB ((Int8.ofNat n).toInt32.toBitVec.toNat % 256) := by decide +kernel
theorem ud_i8 (y : Int8) : ∃ n, n < 256 ∧ y = Int8.ofNat n := by
  refine ⟨y.toBitVec.toNat, y.toBitVec.isLt, ?_⟩
  apply Int8.toBitVec_inj.mp
  simp
theorem ud_i2b (x : Int32) : x.toInt8.toInt32 = ud_sB (x.toInt8.toInt32.toBitVec.toNat % 256) := by
  obtain ⟨n, hn, e⟩ := ud_i8 x.toInt8
  rw [e]
  exact ud_b8 n hn
theorem ud_isB_upd {f : Nat → Int32} (h : ud_isB f) (k : Nat) (x : Int32) : ud_isB (upd f k x.toInt8.toInt32) := by
  intro j
  by_cases e : j = k
  · simp only [ud_g, upd, if_pos e]
    exact ud_i2b x
  · have h2 := h j
    simp only [ud_g] at h2
    simp only [ud_g, upd, if_neg e]
    exact h2
theorem ud_b0 : (0 : Int32) = ud_sB ((0 : Int32).toBitVec.toNat % 256) := by decide +kernel
theorem ud_isB_0 : ud_isB (fun _ => 0) := fun _ => ud_b0
theorem ud_isB_pt {f : Nat → Int32} (h : ∀ j, (∃ x : Int32, f j = x.toInt8.toInt32)) : ud_isB f := by
  intro j
  obtain ⟨x, e⟩ := h j
  simp only [ud_g, e]
  exact ud_i2b x
theorem ud_isB_x {f : Nat → Int32} (h : ud_isB f) (j : Nat) : ∃ x : Int32, f j = x.toInt8.toInt32 := ⟨f j, by
  have h2 := h j
  rw [h2]
  exact (ud_b6 _ (ud_g_lt f j)).symm⟩
theorem ud_g_sB {f : Nat → Int32} {j n : Nat} (hn : n < 256) (e : f j = ud_sB n) : ud_g f j = n := by
  unfold ud_g
  rw [e]
  exact ud_b7 n hn
theorem ud_g_eq {f f' : Nat → Int32} {j j' : Nat} (e : f j = f' j') : ud_g f j = ud_g f' j' := by
  unfold ud_g
  rw [e]
/-- a number drawn: (x & MAX) % m -/
def ud_fM (x : Int32) (m : Nat) : Nat := x.toBitVec.toNat % 2147483648 % m
theorem ud_and (x : Int32) : x &&& 2147483647 = nI (x.toBitVec.toNat % 2147483648) := pk_and x 31 (by decide)
theorem ud_rem (x : Int32) {m : Nat} (h0 : 0 < m) (hm : m < 2147483648) : (x &&& 2147483647) - (x &&& 2147483647) / nI m * nI m = nI (ud_fM x m) := by
  rw [ud_and]
  exact pk_rem (Nat.mod_lt _ (by decide)) h0 hm
theorem ud_fM_lt (x : Int32) {m : Nat} (h0 : 0 < m) : ud_fM x m < m := Nat.mod_lt _ h0
theorem ud_fM_nI {a m : Nat} (h : a < m) (hm : m < 2147483648) : ud_fM (nI a) m = a := by
  unfold ud_fM
  rw [pk_tn (by omega), Nat.mod_eq_of_lt (show a < 2147483648 by omega), Nat.mod_eq_of_lt h]
/-- UTF-8: one number from the place k, the text ends at e; its length -/
def ud_dc (g : Nat → Nat) (k e : Nat) : Option (Nat × Nat) :=
  if g k < 128 then some (g k, 1)
  else if g k < 192 then none
  else if g k < 224 then
    if k + 2 ≤ e ∧ (128 ≤ g (k + 1) ∧ g (k + 1) ≤ 191) ∧ 128 ≤ (g k - 192) * 64 + (g (k + 1) - 128) then some ((g k - 192) * 64 + (g (k + 1) - 128), 2) else none
  else if g k < 240 then
    if k + 3 ≤ e ∧ (128 ≤ g (k + 1) ∧ g (k + 1) ≤ 191) ∧ (128 ≤ g (k + 2) ∧ g (k + 2) ≤ 191) ∧ 2048 ≤ ((g k - 224) * 64 + (g (k + 1) - 128)) * 64 + (g (k + 2) - 128) ∧ ¬ (55296 ≤ ((g k - 224) * 64 + (g (k + 1) - 128)) * 64 + (g (k + 2) - 128) ∧ ((g k - 224) * 64 + (g (k + 1) - 128)) * 64 + (g (k + 2) - 128) ≤ 57343) then some (((g k - 224) * 64 + (g (k + 1) - 128)) * 64 + (g (k + 2) - 128), 3) else none
  else if g k < 248 then
    if k + 4 ≤ e ∧ (128 ≤ g (k + 1) ∧ g (k + 1) ≤ 191) ∧ (128 ≤ g (k + 2) ∧ g (k + 2) ≤ 191) ∧ (128 ≤ g (k + 3) ∧ g (k + 3) ≤ 191) ∧ 65536 ≤ (((g k - 240) * 64 + (g (k + 1) - 128)) * 64 + (g (k + 2) - 128)) * 64 + (g (k + 3) - 128) ∧ (((g k - 240) * 64 + (g (k + 1) - 128)) * 64 + (g (k + 2) - 128)) * 64 + (g (k + 3) - 128) ≤ 1114111 then some ((((g k - 240) * 64 + (g (k + 1) - 128)) * 64 + (g (k + 2) - 128)) * 64 + (g (k + 3) - 128), 4) else none
  else none
def ud_nd (v : Nat) : Nat := if v < 128 then 1 else if v < 2048 then 2 else if v < 65536 then 3 else 4
def ud_by (n : Nat) : Nat := if n < 128 then 1 else if n < 192 then 0 else if n < 224 then 2 else if n < 240 then 3 else if n < 248 then 4 else 0
def ud_ndI (v : Int32) : Int32 := if 128 ≤ v then (if 2048 ≤ v then (if 65536 ≤ v then 4 else 3) else 2) else 1
theorem ud_nd_I {v : Nat} (h : v < 2147483648) : ud_ndI (nI v) = nI (ud_nd v) := by
  unfold ud_ndI ud_nd
  have e1 : ((128 : Int32) ≤ nI v) = (128 ≤ v) := propext (nI_leI (a := 128) (by decide) h)
  have e2 : ((2048 : Int32) ≤ nI v) = (2048 ≤ v) := propext (nI_leI (a := 2048) (by decide) h)
  have e3 : ((65536 : Int32) ≤ nI v) = (65536 ≤ v) := propext (nI_leI (a := 65536) (by decide) h)
  simp only [e1, e2, e3]
  by_cases h1 : v < 128
  · rw [if_neg (by omega), if_pos h1]
    rfl
  · rw [if_pos (by omega), if_neg h1]
    by_cases h2 : v < 2048
    · rw [if_neg (by omega), if_pos h2]
      rfl
    · rw [if_pos (by omega), if_neg h2]
      by_cases h3 : v < 65536
      · rw [if_neg (by omega), if_pos h3]
        rfl
      · rw [if_pos (by omega), if_neg h3]
        rfl
theorem ud_nd_pos (v : Nat) : 1 ≤ ud_nd v ∧ ud_nd v ≤ 4 := by
  unfold ud_nd
  split
  · omega
  · split
    · omega
    · split <;> omega
/-- the law's number(): the bits of the first byte, the further bytes, the end -/
def ud_v0 (b : Nat) : Int32 := if ud_by b = 1 then nI b else if ud_by b = 2 then nI b &&& 31 else if ud_by b = 3 then nI b &&& 15 else nI b &&& 7
def ud_nl (g : Nat → Nat) (a : Nat) : Nat → Nat → Int32 → Option Int32
  | 0, _, v => some v
  | r + 1, i, v => if 128 ≤ g (a + i) ∧ g (a + i) ≤ 191 then ud_nl g a r (i + 1) ((v <<< ((6 : Int32) &&& 31)) ||| (nI (g (a + i)) &&& 63)) else none
def ud_tl (many : Nat) (v : Int32) : Int32 := if nI many = ud_ndI v then (if 1114111 < v then -1 else if v < 55296 then v else if 57343 < v then v else -1) else -1
def ud_nr (many : Nat) (o : Option Int32) : Int32 := match o with
  | none => -1
  | some v => ud_tl many v
def ud_nu (g : Nat → Nat) (a e : Nat) : Int32 := if ud_by (g a) = 0 then -1 else if e < a + ud_by (g a) then -1 else ud_nr (ud_by (g a)) (ud_nl g a (ud_by (g a) - 1) 1 (ud_v0 (g a)))
def ud_dR (o : Option (Nat × Nat)) : Int32 := match o with
  | none => -1
  | some x => nI x.1
theorem ud_or (x r : Nat) (hr : r < 64) (hx : x < 16777216) : (nI x <<< ((6 : Int32) &&& 31)) ||| nI r = nI (x * 64 + r) := by
  rw [pk_shlN ((6 : Int32) &&& 31) 6 (by decide) (by omega)]
  apply Int32.toBitVec_inj.mp
  apply BitVec.eq_of_toNat_eq
  rw [Int32.toBitVec_or, BitVec.toNat_or, pk_tn (by omega), pk_tn (by omega), pk_tn (by omega)]
  have h := Nat.two_pow_add_eq_or_of_lt (i := 6) (b := r) hr x
  rw [Nat.mul_comm x]
  exact h.symm
theorem ud_m63 {c : Nat} (h1 : 128 ≤ c) (h2 : c ≤ 191) : nI c &&& 63 = nI (c - 128) := by
  rw [pk_andN (by omega) 6 (by decide)]
  exact congrArg nI (by omega)
theorem ud_cat {x c : Nat} (hx : x < 16777216) (h1 : 128 ≤ c) (h2 : c ≤ 191) : (nI x <<< ((6 : Int32) &&& 31)) ||| (nI c &&& 63) = nI (x * 64 + (c - 128)) := by
  rw [ud_m63 h1 h2]
  exact ud_or x (c - 128) (by omega) hx
theorem ud_tl_N {many v : Nat} (hm : many ≤ 4) (hv : v < 16777216) : ud_tl many (nI v) = if many = ud_nd v ∧ v ≤ 1114111 ∧ ¬ (55296 ≤ v ∧ v ≤ 57343) then nI v else -1 := by
  unfold ud_tl
  rw [ud_nd_I (by omega)]
  have e1 : (nI many = nI (ud_nd v)) = (many = ud_nd v) := propext (nI_eq (by omega) (by have := (ud_nd_pos v).2; omega))
  have e2 : ((1114111 : Int32) < nI v) = (1114111 < v) := propext (nI_ltI (a := 1114111) (by decide) (by omega))
  have e3 : (nI v < (55296 : Int32)) = (v < 55296) := propext (nI_ltI (b := 55296) (by omega) (by decide))
  have e4 : ((57343 : Int32) < nI v) = (57343 < v) := propext (nI_ltI (a := 57343) (by decide) (by omega))
  simp only [e1, e2, e3, e4]
  by_cases h1 : many = ud_nd v
  · rw [if_pos h1]
    by_cases h2 : 1114111 < v
    · rw [if_pos h2, if_neg (by omega)]
    · rw [if_neg h2]
      by_cases h3 : v < 55296
      · rw [if_pos h3, if_pos ⟨h1, by omega, by omega⟩]
      · rw [if_neg h3]
        by_cases h4 : 57343 < v
        · rw [if_pos h4, if_pos ⟨h1, by omega, by omega⟩]
        · rw [if_neg h4, if_neg (by omega)]
  · rw [if_neg h1, if_neg (fun q => h1 q.1)]
set_option maxRecDepth 100000 in
theorem ud_v0_2 : ∀ b, b < 224 → 192 ≤ b → nI b &&& 31 = nI (b - 192) := by decide +kernel
set_option maxRecDepth 100000 in
theorem ud_v0_3 : ∀ b, b < 240 → 224 ≤ b → nI b &&& 15 = nI (b - 224) := by decide +kernel
set_option maxRecDepth 100000 in
theorem ud_v0_4 : ∀ b, b < 248 → 240 ≤ b → nI b &&& 7 = nI (b - 240) := by decide +kernel
theorem ud_nu_dc {g : Nat → Nat} {a e : Nat} (hg : g a < 256) (hae : a < e) : ud_nu g a e = ud_dR (ud_dc g a e) := by
  unfold ud_nu ud_dc
  by_cases h1 : g a < 128
  · have e1 : ud_by (g a) = 1 := by unfold ud_by; rw [if_pos h1]
    have e2 : ud_v0 (g a) = nI (g a) := by unfold ud_v0; rw [if_pos e1]
    rw [e1, if_pos h1, if_neg (by decide), if_neg (by omega), e2]
    show ud_tl 1 (nI (g a)) = nI (g a)
    rw [ud_tl_N (by decide) (by omega), if_pos ⟨by unfold ud_nd; rw [if_pos h1], by omega, by omega⟩]
  · rw [if_neg h1]
    by_cases h2 : g a < 192
    · have e1 : ud_by (g a) = 0 := by unfold ud_by; rw [if_neg h1, if_pos h2]
      rw [e1, if_pos rfl, if_pos h2]
      rfl
    · rw [if_neg h2]
      by_cases h3 : g a < 224
      · have e1 : ud_by (g a) = 2 := by unfold ud_by; rw [if_neg h1, if_neg h2, if_pos h3]
        have e2 : ud_v0 (g a) = nI (g a - 192) := by unfold ud_v0; rw [e1, if_neg (by decide), if_pos rfl]; exact ud_v0_2 _ h3 (by omega)
        rw [e1, if_pos h3, if_neg (by decide), e2]
        by_cases h4 : e < a + 2
        · rw [if_pos h4, if_neg (by omega)]
          rfl
        · rw [if_neg h4]
          by_cases c1 : 128 ≤ g (a + 1) ∧ g (a + 1) ≤ 191
          · have e3 : ud_nl g a (2 - 1) 1 (nI (g a - 192)) = some (nI ((g a - 192) * 64 + (g (a + 1) - 128))) := by
              show (if 128 ≤ g (a + 1) ∧ g (a + 1) ≤ 191 then some _ else none) = _
              rw [if_pos c1, ud_cat (by omega) c1.1 c1.2]
            rw [e3]
            show ud_tl 2 _ = _
            rw [ud_tl_N (by decide) (by omega)]
            by_cases c2 : 128 ≤ (g a - 192) * 64 + (g (a + 1) - 128)
            · rw [if_pos ⟨by unfold ud_nd; rw [if_neg (by omega), if_pos (by omega)], by omega, by omega⟩, if_pos ⟨by omega, c1, c2⟩]
              rfl
            · rw [if_neg (fun q => by have := q.1; unfold ud_nd at this; rw [if_pos (by omega)] at this; omega), if_neg (fun q => c2 q.2.2)]
              rfl
          · have e3 : ud_nl g a (2 - 1) 1 (nI (g a - 192)) = none := by
              show (if 128 ≤ g (a + 1) ∧ g (a + 1) ≤ 191 then _ else none) = _
              rw [if_neg c1]
            rw [e3, if_neg (fun q => c1 q.2.1)]
            rfl
      · rw [if_neg h3]
        by_cases h5 : g a < 240
        · have e1 : ud_by (g a) = 3 := by unfold ud_by; rw [if_neg h1, if_neg h2, if_neg h3, if_pos h5]
          have e2 : ud_v0 (g a) = nI (g a - 224) := by unfold ud_v0; rw [e1, if_neg (by decide), if_neg (by decide), if_pos rfl]; exact ud_v0_3 _ h5 (by omega)
          rw [e1, if_pos h5, if_neg (by decide), e2]
          by_cases h4 : e < a + 3
          · rw [if_pos h4, if_neg (by omega)]
            rfl
          · rw [if_neg h4]
            by_cases c1 : 128 ≤ g (a + 1) ∧ g (a + 1) ≤ 191
            · by_cases c2 : 128 ≤ g (a + 2) ∧ g (a + 2) ≤ 191
              · have e3 : ud_nl g a (3 - 1) 1 (nI (g a - 224)) = some (nI (((g a - 224) * 64 + (g (a + 1) - 128)) * 64 + (g (a + 2) - 128))) := by
                  show (if 128 ≤ g (a + 1) ∧ g (a + 1) ≤ 191 then (if 128 ≤ g (a + 2) ∧ g (a + 2) ≤ 191 then some _ else none) else none) = _
                  rw [if_pos c1, if_pos c2, ud_cat (by omega) c1.1 c1.2, ud_cat (by omega) c2.1 c2.2]
                rw [e3]
                show ud_tl 3 _ = _
                rw [ud_tl_N (by decide) (by omega)]
                by_cases c3 : 2048 ≤ ((g a - 224) * 64 + (g (a + 1) - 128)) * 64 + (g (a + 2) - 128)
                · have e4 : ud_nd (((g a - 224) * 64 + (g (a + 1) - 128)) * 64 + (g (a + 2) - 128)) = 3 := by unfold ud_nd; rw [if_neg (by omega), if_neg (by omega), if_pos (by omega)]
                  by_cases c4 : 55296 ≤ ((g a - 224) * 64 + (g (a + 1) - 128)) * 64 + (g (a + 2) - 128) ∧ ((g a - 224) * 64 + (g (a + 1) - 128)) * 64 + (g (a + 2) - 128) ≤ 57343
                  · rw [if_neg (fun q => q.2.2 c4), if_neg (fun q => q.2.2.2.2 c4)]
                    rfl
                  · rw [if_pos ⟨e4.symm, by omega, c4⟩, if_pos ⟨by omega, c1, c2, c3, c4⟩]
                    rfl
                · rw [if_neg (fun q => by have := q.1; unfold ud_nd at this; by_cases z : ((g a - 224) * 64 + (g (a + 1) - 128)) * 64 + (g (a + 2) - 128) < 128; (rw [if_pos z] at this; omega); (rw [if_neg z, if_pos (by omega)] at this; omega)), if_neg (fun q => c3 q.2.2.2.1)]
                  rfl
              · have e3 : ud_nl g a (3 - 1) 1 (nI (g a - 224)) = none := by
                  show (if 128 ≤ g (a + 1) ∧ g (a + 1) ≤ 191 then (if 128 ≤ g (a + 2) ∧ g (a + 2) ≤ 191 then _ else none) else none) = _
                  rw [if_pos c1, if_neg c2]
                rw [e3, if_neg (fun q => c2 q.2.2.1)]
                rfl
            · have e3 : ud_nl g a (3 - 1) 1 (nI (g a - 224)) = none := by
                show (if 128 ≤ g (a + 1) ∧ g (a + 1) ≤ 191 then _ else none) = _
                rw [if_neg c1]
              rw [e3, if_neg (fun q => c1 q.2.1)]
              rfl
        · rw [if_neg h5]
          by_cases h6 : g a < 248
          · have e1 : ud_by (g a) = 4 := by unfold ud_by; rw [if_neg h1, if_neg h2, if_neg h3, if_neg h5, if_pos h6]
            have e2 : ud_v0 (g a) = nI (g a - 240) := by unfold ud_v0; rw [e1, if_neg (by decide), if_neg (by decide), if_neg (by decide)]; exact ud_v0_4 _ h6 (by omega)
            rw [e1, if_pos h6, if_neg (by decide), e2]
            by_cases h4 : e < a + 4
            · rw [if_pos h4, if_neg (by omega)]
              rfl
            · rw [if_neg h4]
              by_cases c1 : 128 ≤ g (a + 1) ∧ g (a + 1) ≤ 191
              · by_cases c2 : 128 ≤ g (a + 2) ∧ g (a + 2) ≤ 191
                · by_cases c3 : 128 ≤ g (a + 3) ∧ g (a + 3) ≤ 191
                  · have e3 : ud_nl g a (4 - 1) 1 (nI (g a - 240)) = some (nI ((((g a - 240) * 64 + (g (a + 1) - 128)) * 64 + (g (a + 2) - 128)) * 64 + (g (a + 3) - 128))) := by
                      show (if 128 ≤ g (a + 1) ∧ g (a + 1) ≤ 191 then (if 128 ≤ g (a + 2) ∧ g (a + 2) ≤ 191 then (if 128 ≤ g (a + 3) ∧ g (a + 3) ≤ 191 then some _ else none) else none) else none) = _
                      rw [if_pos c1, if_pos c2, if_pos c3, ud_cat (by omega) c1.1 c1.2, ud_cat (by omega) c2.1 c2.2, ud_cat (by omega) c3.1 c3.2]
                    rw [e3]
                    show ud_tl 4 _ = _
                    rw [ud_tl_N (by decide) (by omega)]
                    by_cases c4 : 65536 ≤ (((g a - 240) * 64 + (g (a + 1) - 128)) * 64 + (g (a + 2) - 128)) * 64 + (g (a + 3) - 128)
                    · have e4 : ud_nd ((((g a - 240) * 64 + (g (a + 1) - 128)) * 64 + (g (a + 2) - 128)) * 64 + (g (a + 3) - 128)) = 4 := by unfold ud_nd; rw [if_neg (by omega), if_neg (by omega), if_neg (by omega)]
                      by_cases c5 : (((g a - 240) * 64 + (g (a + 1) - 128)) * 64 + (g (a + 2) - 128)) * 64 + (g (a + 3) - 128) ≤ 1114111
                      · rw [if_pos ⟨e4.symm, c5, by omega⟩, if_pos ⟨by omega, c1, c2, c3, c4, c5⟩]
                        rfl
                      · rw [if_neg (fun q => c5 q.2.1), if_neg (fun q => c5 q.2.2.2.2.2)]
                        rfl
                    · rw [if_neg (fun q => by
                        have := q.1
                        unfold ud_nd at this
                        split at this
                        · omega
                        · split at this
                          · omega
                          · split at this
                            · omega
                            · omega), if_neg (fun q => c4 q.2.2.2.2.1)]
                      rfl
                  · have e3 : ud_nl g a (4 - 1) 1 (nI (g a - 240)) = none := by
                      show (if 128 ≤ g (a + 1) ∧ g (a + 1) ≤ 191 then (if 128 ≤ g (a + 2) ∧ g (a + 2) ≤ 191 then (if 128 ≤ g (a + 3) ∧ g (a + 3) ≤ 191 then _ else none) else none) else none) = _
                      rw [if_pos c1, if_pos c2, if_neg c3]
                    rw [e3, if_neg (fun q => c3 q.2.2.2.1)]
                    rfl
                · have e3 : ud_nl g a (4 - 1) 1 (nI (g a - 240)) = none := by
                    show (if 128 ≤ g (a + 1) ∧ g (a + 1) ≤ 191 then (if 128 ≤ g (a + 2) ∧ g (a + 2) ≤ 191 then _ else none) else none) = _
                    rw [if_pos c1, if_neg c2]
                  rw [e3, if_neg (fun q => c2 q.2.2.1)]
                  rfl
              · have e3 : ud_nl g a (4 - 1) 1 (nI (g a - 240)) = none := by
                  show (if 128 ≤ g (a + 1) ∧ g (a + 1) ≤ 191 then _ else none) = _
                  rw [if_neg c1]
                rw [e3, if_neg (fun q => c1 q.2.1)]
                rfl
          · have e1 : ud_by (g a) = 0 := by unfold ud_by; rw [if_neg h1, if_neg h2, if_neg h3, if_neg h5, if_neg h6]
            rw [e1, if_pos rfl, if_neg h6]
            rfl
/-- what a number drawn from the text is -/
theorem ud_dc_spec {g : Nat → Nat} {k e v m : Nat} (h : ud_dc g k e = some (v, m)) (hk : k < e) : v ≤ 1114111 ∧ ¬ (55296 ≤ v ∧ v ≤ 57343) ∧ m = ud_nd v ∧ k + m ≤ e := by
  unfold ud_dc at h
  split at h
  · obtain ⟨rfl, rfl⟩ := Prod.mk.inj (Option.some.inj h)
    unfold ud_nd
    rw [if_pos (by assumption)]
    omega
  · split at h
    · cases h
    · split at h
      · split at h
        · obtain ⟨rfl, rfl⟩ := Prod.mk.inj (Option.some.inj h)
          unfold ud_nd
          rw [if_neg (by omega), if_pos (by omega)]
          omega
        · cases h
      · split at h
        · split at h
          · obtain ⟨rfl, rfl⟩ := Prod.mk.inj (Option.some.inj h)
            unfold ud_nd
            rw [if_neg (by omega), if_neg (by omega), if_pos (by omega)]
            omega
          · cases h
        · split at h
          · split at h
            · obtain ⟨rfl, rfl⟩ := Prod.mk.inj (Option.some.inj h)
              unfold ud_nd
              rw [if_neg (by omega), if_neg (by omega), if_neg (by omega)]
              omega
            · cases h
          · cases h
end
section
/-! THE PLAIN LAW, II: the table machine draws the same numbers; units; writing a number; four words -/
def ud_rn (g : Nat → Nat) : Nat → Nat → Int32 → Int32 → Option (Int32 × Nat)
  | 0, i, cp, st => if st < 0 then (if st = -2 then none else some (cp, i)) else none
  | q + 1, i, cp, st => if st < 0 then (if st = -2 then none else some (cp, i)) else ud_rn g q (i + 1) ((cp <<< ((6 : Int32) &&& 31)) ||| nI (g i % 64)) (ud_tt (st.toNatClampNeg + g i / 16))
def ud_cp0 (n : Nat) : Int32 := ((ud_ft n).toUInt32 >>> ((8 : Int32).toUInt32 &&& Int32.toUInt32 31)).toInt32
def ud_st0 (n : Nat) : Int32 := (ud_ft n).toInt8.toInt32
def ud_okS (st : Int32) : Prop := st < 0 ∨ ∃ k, k < 7 ∧ st = nI (16 * k)
theorem ud_okS_of {st : Int32} (h : (decide (st < 0) || (st == nI 0) || (st == nI 16) || (st == nI 32) || (st == nI 48) || (st == nI 64) || (st == nI 80) || (st == nI 96)) = true) : ud_okS st := by
  simp only [Bool.or_eq_true, decide_eq_true_eq, beq_iff_eq] at h
  rcases h with ((((((h | h) | h) | h) | h) | h) | h) | h
  · exact Or.inl h
  · exact Or.inr ⟨0, by decide, h⟩
  · exact Or.inr ⟨1, by decide, h⟩
  · exact Or.inr ⟨2, by decide, h⟩
  · exact Or.inr ⟨3, by decide, h⟩
  · exact Or.inr ⟨4, by decide, h⟩
  · exact Or.inr ⟨5, by decide, h⟩
  · exact Or.inr ⟨6, by decide, h⟩
set_option maxRecDepth 100000 in
theorem ud_ok_tt : ∀ j, j < 112 → (decide (ud_tt j < 0) || (ud_tt j == nI 0) || (ud_tt j == nI 16) || (ud_tt j == nI 32) || (ud_tt j == nI 48) || (ud_tt j == nI 64) || (ud_tt j == nI 80) || (ud_tt j == nI 96)) = true := by decide +kernel
set_option maxRecDepth 100000 in
theorem ud_ok_st : ∀ j, j < 128 → (decide (ud_st0 j < 0) || (ud_st0 j == nI 0) || (ud_st0 j == nI 16) || (ud_st0 j == nI 32) || (ud_st0 j == nI 48) || (ud_st0 j == nI 64) || (ud_st0 j == nI 80) || (ud_st0 j == nI 96)) = true := by decide +kernel
theorem ud_rn_neg (g : Nat → Nat) (q i : Nat) (cp st : Int32) (h : st < 0) : ud_rn g q i cp st = if st = -2 then none else some (cp, i) := by
  cases q with
  | zero => show (if st < 0 then _ else _) = _; rw [if_pos h]
  | succ q => show (if st < 0 then _ else _) = _; rw [if_pos h]
theorem ud_rn_err (g : Nat → Nat) (q i : Nat) (cp : Int32) : ud_rn g q i cp (-2) = none := by
  rw [ud_rn_neg g q i cp (-2) (by decide), if_pos rfl]
theorem ud_rn_end (g : Nat → Nat) (q i : Nat) (cp : Int32) : ud_rn g q i cp (-1) = some (cp, i) := by
  rw [ud_rn_neg g q i cp (-1) (by decide), if_neg (by decide)]
theorem ud_rn_0 (g : Nat → Nat) (i : Nat) (cp : Int32) (s : Nat) (hs : s < 2147483648) : ud_rn g 0 i cp (nI s) = none := by
  show (if nI s < 0 then _ else _) = _
  rw [if_neg (nI_pos hs)]
theorem ud_rn_s (g : Nat → Nat) (q i x : Nat) (s : Nat) (hs : s < 2147483648) (hx : x < 16777216) : ud_rn g (q + 1) i (nI x) (nI s) = ud_rn g q (i + 1) (nI (x * 64 + g i % 64)) (ud_tt (s + g i / 16)) := by
  show (if nI s < 0 then _ else _) = _
  rw [if_neg (nI_pos hs), ud_or x _ (Nat.mod_lt _ (by decide)) hx, nI_clamp hs]
theorem ud_t0 : ∀ h, h < 16 → ud_tt (0 + h) = if 8 ≤ h ∧ h ≤ 11 then -1 else -2 := by decide +kernel
theorem ud_t1 : ∀ h, h < 16 → ud_tt (16 + h) = if 8 ≤ h ∧ h ≤ 11 then nI 0 else -2 := by decide +kernel
theorem ud_t2 : ∀ h, h < 16 → ud_tt (32 + h) = if 8 ≤ h ∧ h ≤ 11 then nI 16 else -2 := by decide +kernel
theorem ud_t3 : ∀ h, h < 16 → ud_tt (48 + h) = if 10 ≤ h ∧ h ≤ 11 then nI 0 else -2 := by decide +kernel
theorem ud_t4 : ∀ h, h < 16 → ud_tt (64 + h) = if 8 ≤ h ∧ h ≤ 9 then nI 0 else -2 := by decide +kernel
theorem ud_t5 : ∀ h, h < 16 → ud_tt (80 + h) = if 9 ≤ h ∧ h ≤ 11 then nI 16 else -2 := by decide +kernel
theorem ud_t6 : ∀ h, h < 16 → ud_tt (96 + h) = if 8 ≤ h ∧ h ≤ 8 then nI 16 else -2 := by decide +kernel
/-- one step from the state s (the last bytes' states), by what its row of the table says -/
theorem ud_rn_a {g : Nat → Nat} (hg : ∀ j, g j < 256) {s lo hi : Nat} {d : Int32} (ht : ∀ h, h < 16 → ud_tt (s + h) = if lo ≤ h ∧ h ≤ hi then d else -2) (hlo : 8 ≤ lo) (hhi : hi ≤ 11) (hs : s < 2147483648) (q i x : Nat) (hx : x < 16777216) :
    ud_rn g (q + 1) i (nI x) (nI s) = if lo * 16 ≤ g i ∧ g i < hi * 16 + 16 then ud_rn g q (i + 1) (nI (x * 64 + (g i - 128))) d else none := by
  rw [ud_rn_s g q i x s hs hx, ht _ (by have := hg i; omega)]
  by_cases c : lo ≤ g i / 16 ∧ g i / 16 ≤ hi
  · rw [if_pos c, if_pos (by omega), show g i % 64 = g i - 128 by omega]
  · rw [if_neg c, if_neg (by omega)]
    exact ud_rn_err g q (i + 1) _
/-- the last byte -/
theorem ud_rn_L {g : Nat → Nat} (hg : ∀ j, g j < 256) (q i x : Nat) (hx : x < 16777216) :
    ud_rn g q i (nI x) (nI 0) = if 0 < q ∧ 128 ≤ g i ∧ g i ≤ 191 then some (nI (x * 64 + (g i - 128)), i + 1) else none := by
  cases q with
  | zero => rw [ud_rn_0 g i _ 0 (by decide), if_neg (by omega)]
  | succ q =>
    rw [ud_rn_a hg ud_t0 (by decide) (by decide) (by decide) q i x hx]
    by_cases c : 128 ≤ g i ∧ g i ≤ 191
    · rw [if_pos (by omega), if_pos (by omega), ud_rn_end]
    · rw [if_neg (by omega), if_neg (by omega)]
/-- the last byte but one -/
theorem ud_rn_M {g : Nat → Nat} (hg : ∀ j, g j < 256) {s lo hi : Nat} (ht : ∀ h, h < 16 → ud_tt (s + h) = if lo ≤ h ∧ h ≤ hi then nI 0 else -2) (hlo : 8 ≤ lo) (hhi : hi ≤ 11) (hs : s < 2147483648) (q i x : Nat) (hx : x < 65536) :
    ud_rn g q i (nI x) (nI s) = if 1 < q ∧ (lo * 16 ≤ g i ∧ g i < hi * 16 + 16) ∧ 128 ≤ g (i + 1) ∧ g (i + 1) ≤ 191 then some (nI ((x * 64 + (g i - 128)) * 64 + (g (i + 1) - 128)), i + 2) else none := by
  cases q with
  | zero => rw [ud_rn_0 g i _ s hs, if_neg (by omega)]
  | succ q =>
    rw [ud_rn_a hg ht hlo hhi hs q i x (by omega)]
    by_cases c : lo * 16 ≤ g i ∧ g i < hi * 16 + 16
    · rw [if_pos c, ud_rn_L hg q (i + 1) _ (by have := hg i; omega)]
      by_cases c2 : 0 < q ∧ 128 ≤ g (i + 1) ∧ g (i + 1) ≤ 191
      · rw [if_pos c2, if_pos ⟨by omega, c, c2.2⟩]
      · rw [if_neg c2, if_neg (fun z => c2 ⟨by omega, z.2.2⟩)]
    · rw [if_neg c, if_neg (fun z => c z.2.1)]
theorem ud_rn_N {g : Nat → Nat} (hg : ∀ j, g j < 256) {s lo hi : Nat} (ht : ∀ h, h < 16 → ud_tt (s + h) = if lo ≤ h ∧ h ≤ hi then nI 16 else -2) (hlo : 8 ≤ lo) (hhi : hi ≤ 11) (hs : s < 2147483648) (q i x : Nat) (hx : x < 256) :
    ud_rn g q i (nI x) (nI s) = if 2 < q ∧ (lo * 16 ≤ g i ∧ g i < hi * 16 + 16) ∧ (128 ≤ g (i + 1) ∧ g (i + 1) ≤ 191) ∧ 128 ≤ g (i + 2) ∧ g (i + 2) ≤ 191 then some (nI (((x * 64 + (g i - 128)) * 64 + (g (i + 1) - 128)) * 64 + (g (i + 2) - 128)), i + 3) else none := by
  cases q with
  | zero => rw [ud_rn_0 g i _ s hs, if_neg (by omega)]
  | succ q =>
    rw [ud_rn_a hg ht hlo hhi hs q i x (by omega)]
    by_cases c : lo * 16 ≤ g i ∧ g i < hi * 16 + 16
    · rw [if_pos c, ud_rn_M hg ud_t1 (by decide) (by decide) (by decide) q (i + 1) _ (by have := hg i; omega)]
      by_cases c2 : 1 < q ∧ (8 * 16 ≤ g (i + 1) ∧ g (i + 1) < 11 * 16 + 16) ∧ 128 ≤ g (i + 1 + 1) ∧ g (i + 1 + 1) ≤ 191
      · rw [if_pos c2, if_pos ⟨by omega, c, by omega, c2.2.2⟩]
      · rw [if_neg c2, if_neg (fun z => c2 ⟨by omega, by omega, z.2.2.2⟩)]
    · rw [if_neg c, if_neg (fun z => c z.2.1)]
set_option maxRecDepth 100000 in
theorem ud_f_ill : ∀ n, n < 128 → (n < 66 ∨ 117 ≤ n) → ud_st0 n = -2 := by decide +kernel
set_option maxRecDepth 100000 in
theorem ud_f_2 : ∀ n, n < 96 → 66 ≤ n → ud_st0 n = nI 0 ∧ ud_cp0 n = nI (n - 64) := by decide +kernel
set_option maxRecDepth 100000 in
theorem ud_f_3 : ∀ n, n < 112 → 97 ≤ n → n ≠ 109 → ud_st0 n = nI 16 ∧ ud_cp0 n = nI (n - 96) := by decide +kernel
theorem ud_f_3a : ud_st0 96 = nI 48 ∧ ud_cp0 96 = nI 0 := by decide +kernel
theorem ud_f_3b : ud_st0 109 = nI 64 ∧ ud_cp0 109 = nI 13 := by decide +kernel
theorem ud_f_4 : ∀ n, n < 116 → 113 ≤ n → ud_st0 n = nI 32 ∧ ud_cp0 n = nI (n - 112) := by decide +kernel
theorem ud_f_4a : ud_st0 112 = nI 80 ∧ ud_cp0 112 = nI 0 := by decide +kernel
theorem ud_f_4b : ud_st0 116 = nI 96 ∧ ud_cp0 116 = nI 4 := by decide +kernel
/-- THE TABLE MACHINE draws what is drawn by the book -/
theorem ud_dfa {g : Nat → Nat} (hg : ∀ j, g j < 256) {k e : Nat} (hk : k < e) (h1 : 128 ≤ g k) :
    ud_rn g (e - (k + 1)) (k + 1) (ud_cp0 (g k - 128)) (ud_st0 (g k - 128)) = (ud_dc g k e).map (fun x => (nI x.1, k + x.2)) := by
  have hb := hg k
  unfold ud_dc
  rw [if_neg (by omega)]
  by_cases h2 : g k < 192
  · rw [if_pos h2, ud_f_ill _ (by omega) (by omega), ud_rn_err]
    rfl
  · rw [if_neg h2]
    by_cases h3 : g k < 224
    · rw [if_pos h3]
      by_cases h4 : g k < 194
      · rw [ud_f_ill _ (by omega) (by omega), ud_rn_err, if_neg (by omega)]
        rfl
      · obtain ⟨e1, e2⟩ := ud_f_2 (g k - 128) (by omega) (by omega)
        rw [e1, e2, ud_rn_L hg _ _ _ (by omega), show g k - 128 - 64 = g k - 192 by omega]
        by_cases c : k + 2 ≤ e ∧ (128 ≤ g (k + 1) ∧ g (k + 1) ≤ 191)
        · rw [if_pos ⟨by omega, c.2⟩, if_pos ⟨c.1, c.2, by omega⟩]
          rfl
        · rw [if_neg (fun z => c ⟨by omega, z.2⟩), if_neg (fun z => c ⟨z.1, z.2.1⟩)]
          rfl
    · rw [if_neg h3]
      by_cases h5 : g k < 240
      · rw [if_pos h5]
        by_cases h6 : g k = 224
        · rw [show g k - 128 = 96 by omega, ud_f_3a.1, ud_f_3a.2, ud_rn_M hg ud_t3 (by decide) (by decide) (by decide) _ _ _ (by decide), show g k - 224 = 0 by omega]
          by_cases c : k + 3 ≤ e ∧ (160 ≤ g (k + 1) ∧ g (k + 1) ≤ 191) ∧ (128 ≤ g (k + 2) ∧ g (k + 2) ≤ 191)
          · rw [if_pos ⟨by omega, by omega, c.2.2⟩, if_pos ⟨c.1, by omega, c.2.2, by omega, by omega⟩]
            rfl
          · rw [if_neg (fun z => c ⟨by omega, by omega, z.2.2⟩), if_neg (fun z => c ⟨z.1, by omega, z.2.2.1⟩)]
            rfl
        · by_cases h7 : g k = 237
          · rw [show g k - 128 = 109 by omega, ud_f_3b.1, ud_f_3b.2, ud_rn_M hg ud_t4 (by decide) (by decide) (by decide) _ _ _ (by decide), show g k - 224 = 13 by omega]
            by_cases c : k + 3 ≤ e ∧ (128 ≤ g (k + 1) ∧ g (k + 1) < 160) ∧ (128 ≤ g (k + 2) ∧ g (k + 2) ≤ 191)
            · rw [if_pos ⟨by omega, by omega, c.2.2⟩, if_pos ⟨c.1, by omega, c.2.2, by omega, by omega⟩]
              rfl
            · rw [if_neg (fun z => c ⟨by omega, by omega, z.2.2⟩), if_neg (fun z => c ⟨z.1, by omega, z.2.2.1⟩)]
              rfl
          · obtain ⟨e1, e2⟩ := ud_f_3 (g k - 128) (by omega) (by omega) (by omega)
            rw [e1, e2, ud_rn_M hg ud_t1 (by decide) (by decide) (by decide) _ _ _ (by omega), show g k - 128 - 96 = g k - 224 by omega]
            by_cases c : k + 3 ≤ e ∧ (128 ≤ g (k + 1) ∧ g (k + 1) ≤ 191) ∧ (128 ≤ g (k + 2) ∧ g (k + 2) ≤ 191)
            · rw [if_pos ⟨by omega, by omega, c.2.2⟩, if_pos ⟨c.1, by omega, c.2.2, by omega, by omega⟩]
              rfl
            · rw [if_neg (fun z => c ⟨by omega, by omega, z.2.2⟩), if_neg (fun z => c ⟨z.1, by omega, z.2.2.1⟩)]
              rfl
      · rw [if_neg h5]
        by_cases h8 : 245 ≤ g k
        · rw [ud_f_ill _ (by omega) (by omega), ud_rn_err]
          by_cases h9 : g k < 248
          · rw [if_pos h9, if_neg (by omega)]
            rfl
          · rw [if_neg h9]
            rfl
        · rw [if_pos (by omega)]
          by_cases h6 : g k = 240
          · rw [show g k - 128 = 112 by omega, ud_f_4a.1, ud_f_4a.2, ud_rn_N hg ud_t5 (by decide) (by decide) (by decide) _ _ _ (by decide), show g k - 240 = 0 by omega]
            by_cases c : k + 4 ≤ e ∧ (144 ≤ g (k + 1) ∧ g (k + 1) ≤ 191) ∧ (128 ≤ g (k + 2) ∧ g (k + 2) ≤ 191) ∧ (128 ≤ g (k + 3) ∧ g (k + 3) ≤ 191)
            · rw [if_pos ⟨by omega, by omega, c.2.2.1, c.2.2.2⟩, if_pos ⟨c.1, by omega, c.2.2.1, c.2.2.2, by omega, by omega⟩]
              rfl
            · rw [if_neg (fun z => c ⟨by omega, by omega, z.2.2.1, z.2.2.2⟩), if_neg (fun z => c ⟨z.1, by omega, z.2.2.1, z.2.2.2.1⟩)]
              rfl
          · by_cases h7 : g k = 244
            · rw [show g k - 128 = 116 by omega, ud_f_4b.1, ud_f_4b.2, ud_rn_N hg ud_t6 (by decide) (by decide) (by decide) _ _ _ (by decide), show g k - 240 = 4 by omega]
              by_cases c : k + 4 ≤ e ∧ (128 ≤ g (k + 1) ∧ g (k + 1) < 144) ∧ (128 ≤ g (k + 2) ∧ g (k + 2) ≤ 191) ∧ (128 ≤ g (k + 3) ∧ g (k + 3) ≤ 191)
              · rw [if_pos ⟨by omega, by omega, c.2.2.1, c.2.2.2⟩, if_pos ⟨c.1, by omega, c.2.2.1, c.2.2.2, by omega, by omega⟩]
                rfl
              · rw [if_neg (fun z => c ⟨by omega, by omega, z.2.2.1, z.2.2.2⟩), if_neg (fun z => c ⟨z.1, by omega, z.2.2.1, z.2.2.2.1⟩)]
                rfl
            · obtain ⟨e1, e2⟩ := ud_f_4 (g k - 128) (by omega) (by omega)
              rw [e1, e2, ud_rn_N hg ud_t2 (by decide) (by decide) (by decide) _ _ _ (by omega), show g k - 128 - 112 = g k - 240 by omega]
              by_cases c : k + 4 ≤ e ∧ (128 ≤ g (k + 1) ∧ g (k + 1) ≤ 191) ∧ (128 ≤ g (k + 2) ∧ g (k + 2) ≤ 191) ∧ (128 ≤ g (k + 3) ∧ g (k + 3) ≤ 191)
              · rw [if_pos ⟨by omega, by omega, c.2.2.1, c.2.2.2⟩, if_pos ⟨c.1, by omega, c.2.2.1, c.2.2.2, by omega, by omega⟩]
                rfl
              · rw [if_neg (fun z => c ⟨by omega, by omega, z.2.2.1, z.2.2.2⟩), if_neg (fun z => c ⟨z.1, by omega, z.2.2.1, z.2.2.2.1⟩)]
                rfl
theorem ud_gdl (P Q : List Nat) {j : Nat} (h : j < P.length) : (P ++ Q).getD j 0 = P.getD j 0 := by
  rw [List.getD_eq_getElem?_getD, List.getD_eq_getElem?_getD, List.getElem?_append_left h]
theorem ud_gdr (P Q : List Nat) {j : Nat} (h : P.length ≤ j) : (P ++ Q).getD j 0 = Q.getD (j - P.length) 0 := by
  rw [List.getD_eq_getElem?_getD, List.getD_eq_getElem?_getD, List.getElem?_append_right h]
/-- the units of a number; of a stretch of text (none: not well-formed) -/
def ud_un (v : Nat) : List Nat := if 65535 < v then [55296 + (v - 65536) / 1024, 56320 + (v - 65536) % 1024] else [v]
def ud_dU (g : Nat → Nat) (e : Nat) : Nat → Nat → Option (List Nat)
  | 0, _ => some []
  | F + 1, k => if e ≤ k then some [] else match ud_dc g k e with
    | none => none
    | some x => (ud_dU g e F (k + x.2)).map (fun L => ud_un x.1 ++ L)
/-- an answer: -1, or how many units, the first so many laid -/
def ud_An (T : Option (List Nat)) (room : Nat) (r : Int32) (u : Nat → Int32) : Prop := (r = -1 ∧ ∀ L, T = some L → room < L.length) ∨ ∃ L : List Nat, T = some L ∧ L.length ≤ room ∧ r = nI L.length ∧ ∀ j, j < L.length → L.getD j 0 < 65536 ∧ u j = nI (L.getD j 0)
/-- half way: n units laid, the text read up to k -/
def ud_Iv (g : Nat → Nat) (e : Nat) (T : Option (List Nat)) (room F k n : Nat) (u : Nat → Int32) : Prop := ∃ P : List Nat, P.length = n ∧ T = (ud_dU g e F k).map (fun L => P ++ L) ∧ (∀ j, j < n → P.getD j 0 < 65536 ∧ u j = nI (P.getD j 0)) ∧ n ≤ room
theorem ud_dU_e {g : Nat → Nat} {e F k : Nat} (h : e ≤ k) : ud_dU g e F k = some [] := by
  cases F with
  | zero => rfl
  | succ F =>
    show (if e ≤ k then _ else _) = _
    rw [if_pos h]
theorem ud_dU_s {g : Nat → Nat} {e F k : Nat} (h : k < e) {x : Nat × Nat} (hd : ud_dc g k e = some x) : ud_dU g e (F + 1) k = (ud_dU g e F (k + x.2)).map (fun L => ud_un x.1 ++ L) := by
  show (if e ≤ k then _ else _) = _
  rw [if_neg (by omega), hd]
theorem ud_dU_n {g : Nat → Nat} {e F k : Nat} (h : k < e) (hd : ud_dc g k e = none) : ud_dU g e (F + 1) k = none := by
  show (if e ≤ k then _ else _) = _
  rw [if_neg (by omega), hd]
theorem ud_Iv_0 (g : Nat → Nat) (e F k room : Nat) (u : Nat → Int32) : ud_Iv g e (ud_dU g e F k) room F k 0 u := by
  refine ⟨[], rfl, ?_, fun j h => absurd h (by omega), by omega⟩
  cases ud_dU g e F k <;> rfl
theorem ud_Iv_exit {g : Nat → Nat} {e room F k n : Nat} {T : Option (List Nat)} {u : Nat → Int32} (h : ud_Iv g e T room F k n u) (hk : e ≤ k) : ud_An T room (nI n) u := by
  obtain ⟨P, h1, h2, h3, h4⟩ := h
  rw [ud_dU_e hk] at h2
  refine Or.inr ⟨P, by rw [h2]; simp, by omega, by rw [h1], fun j hj => h3 j (by omega)⟩
theorem ud_Iv_bad {g : Nat → Nat} {e room F k n : Nat} {T : Option (List Nat)} {u : Nat → Int32} (h : ud_Iv g e T room (F + 1) k n u) (hk : k < e) (hd : ud_dc g k e = none) (u' : Nat → Int32) : ud_An T room (-1) u' := by
  obtain ⟨P, h1, h2, h3, h4⟩ := h
  rw [ud_dU_n hk hd] at h2
  refine Or.inl ⟨rfl, fun L hL => ?_⟩
  rw [h2] at hL
  cases hL
theorem ud_Iv_full {g : Nat → Nat} {e room F k n : Nat} {T : Option (List Nat)} {u : Nat → Int32} (h : ud_Iv g e T room (F + 1) k n u) (hk : k < e) {x : Nat × Nat} (hd : ud_dc g k e = some x) (hr : room < n + (ud_un x.1).length) (u' : Nat → Int32) : ud_An T room (-1) u' := by
  obtain ⟨P, h1, h2, h3, h4⟩ := h
  rw [ud_dU_s hk hd] at h2
  refine Or.inl ⟨rfl, fun L hL => ?_⟩
  rw [h2] at hL
  cases hq : ud_dU g e F (k + x.2) with
  | none => rw [hq] at hL; cases hL
  | some q =>
    rw [hq] at hL
    have hL := Option.some.inj hL
    rw [← hL]
    simp only [List.length_append]
    omega
theorem ud_Iv_one {g : Nat → Nat} {e room F k n v m : Nat} {T : Option (List Nat)} {u : Nat → Int32} (h : ud_Iv g e T room (F + 1) k n u) (hk : k < e) (hd : ud_dc g k e = some (v, m)) (hv : v ≤ 65535) (hr : n + 1 ≤ room) : ud_Iv g e T room F (k + m) (n + 1) (upd u n (nI v)) := by
  obtain ⟨P, h1, h2, h3, h4⟩ := h
  rw [ud_dU_s hk hd] at h2
  have e1 : ud_un v = [v] := by unfold ud_un; rw [if_neg (by omega)]
  refine ⟨P ++ [v], by simp [h1], ?_, fun j hj => ?_, hr⟩
  · rw [h2]
    cases ud_dU g e F (k + m) with
    | none => rfl
    | some q => simp [e1]
  · by_cases hj2 : j = n
    · subst hj2
      rw [pk_us, ud_gdr _ _ (by omega), h1, Nat.sub_self]
      exact ⟨by show v < 65536; omega, rfl⟩
    · rw [pk_un hj2, ud_gdl _ _ (by omega)]
      exact h3 j (by omega)
theorem ud_Iv_two' {g : Nat → Nat} {e room F k n v m a b : Nat} {T : Option (List Nat)} {u : Nat → Int32} (h : ud_Iv g e T room (F + 1) k n u) (hk : k < e) (hd : ud_dc g k e = some (v, m)) (e1 : ud_un v = [a, b]) (ha : a < 65536) (hb : b < 65536) (hr : n + 2 ≤ room) : ud_Iv g e T room F (k + m) (n + 2) (upd (upd u n (nI a)) (n + 1) (nI b)) := by
  obtain ⟨P, h1, h2, h3, h4⟩ := h
  rw [ud_dU_s hk hd] at h2
  refine ⟨P ++ [a, b], by simp [h1], ?_, fun j hj => ?_, hr⟩
  · rw [h2]
    cases ud_dU g e F (k + m) with
    | none => rfl
    | some q => simp [e1]
  · by_cases hj2 : j = n + 1
    · subst hj2
      rw [pk_us, ud_gdr _ _ (by omega), h1, show n + 1 - n = 1 by omega]
      exact ⟨hb, rfl⟩
    · rw [pk_un hj2]
      by_cases hj3 : j = n
      · subst hj3
        rw [pk_us, ud_gdr _ _ (by omega), h1, Nat.sub_self]
        exact ⟨ha, rfl⟩
      · rw [pk_un hj3, ud_gdl _ _ (by omega)]
        exact h3 j (by omega)
theorem ud_un_2 {v : Nat} (hv : 65535 < v) : ud_un v = [55296 + (v - 65536) / 1024, 56320 + (v - 65536) % 1024] := by
  unfold ud_un
  rw [if_pos hv]
theorem ud_Iv_two {g : Nat → Nat} {e room F k n v m : Nat} {T : Option (List Nat)} {u : Nat → Int32} (h : ud_Iv g e T room (F + 1) k n u) (hk : k < e) (hd : ud_dc g k e = some (v, m)) (hv : 65535 < v) (hv2 : v ≤ 1114111) (hr : n + 2 ≤ room) : ud_Iv g e T room F (k + m) (n + 2) (upd (upd u n (nI (55296 + (v - 65536) / 1024))) (n + 1) (nI (56320 + (v - 65536) % 1024))) :=
  ud_Iv_two' h hk hd (ud_un_2 hv) (by omega) (by omega) hr
/-- the same text at another place -/
theorem ud_dc_shift (g : Nat → Nat) (a k e : Nat) : ud_dc (fun j => g (a + j)) k e = ud_dc g (a + k) (a + e) := by
  unfold ud_dc
  simp only [Nat.add_assoc, Nat.add_le_add_iff_left]
theorem ud_dU_shift (g : Nat → Nat) (a e : Nat) : ∀ F k, ud_dU (fun j => g (a + j)) e F k = ud_dU g (a + e) F (a + k) := by
  intro F
  induction F with
  | zero => intro k; rfl
  | succ F ih =>
    intro k
    by_cases h : e ≤ k
    · rw [ud_dU_e h, ud_dU_e (by omega)]
    · cases hd : ud_dc g (a + k) (a + e) with
      | none => rw [ud_dU_n (by omega) hd, ud_dU_n (by omega) (by rw [ud_dc_shift]; exact hd)]
      | some x => rw [ud_dU_s (by omega) hd, ud_dU_s (by omega) (x := x) (by rw [ud_dc_shift]; exact hd), ih, Nat.add_assoc]
/-- what a desk and the law hold of the latest turning -/
def ud_Mk (md : Int32) (u du : Nat → Int32) : Prop := md = -1 ∨ ∃ n, n ≤ 160 ∧ md = nI n ∧ ∀ j, j < n → u j = du j
theorem ud_An_det {T : Option (List Nat)} {room : Nat} {r1 r2 : Int32} {u1 u2 : Nat → Int32} (hr : room ≤ 160) (h1 : ud_An T room r1 u1) (h2 : ud_An T room r2 u2) : r1 = r2 ∧ ud_Mk r1 u1 u2 := by
  rcases h1 with ⟨a1, b1⟩ | ⟨L1, a1, b1, c1, d1⟩
  · rcases h2 with ⟨a2, b2⟩ | ⟨L2, a2, b2, c2, d2⟩
    · exact ⟨by rw [a1, a2], Or.inl a1⟩
    · have := b1 L2 a2
      omega
  · rcases h2 with ⟨a2, b2⟩ | ⟨L2, a2, b2, c2, d2⟩
    · have := b2 L1 a1
      omega
    · have e : L1 = L2 := Option.some.inj (a1.symm.trans a2)
      subst e
      exact ⟨by rw [c1, c2], Or.inr ⟨L1.length, by omega, c1, fun j hj => by rw [(d1 j hj).2, (d2 j hj).2]⟩⟩
theorem ud_An_md {T : Option (List Nat)} {room : Nat} {r : Int32} {u : Nat → Int32} (hr : room ≤ 160) (h : ud_An T room r u) : r = -1 ∨ ∃ n, n ≤ room ∧ r = nI n ∧ ∀ j, j < n → ∃ v, v < 65536 ∧ u j = nI v := by
  rcases h with ⟨a1, b1⟩ | ⟨L1, a1, b1, c1, d1⟩
  · exact Or.inl a1
  · exact Or.inr ⟨L1.length, b1, c1, fun j hj => ⟨_, (d1 j hj).1, (d1 j hj).2⟩⟩
theorem ud_An_cp {T : Option (List Nat)} {room : Nat} {r : Int32} {u u' : Nat → Int32} (h : ud_An T room r u) (hu : ∀ n, r = nI n → n ≤ room → ∀ j, j < n → u' j = u j) : ud_An T room r u' := by
  rcases h with ⟨a1, b1⟩ | ⟨L1, a1, b1, c1, d1⟩
  · exact Or.inl ⟨a1, b1⟩
  · exact Or.inr ⟨L1, a1, b1, c1, fun j hj => ⟨(d1 j hj).1, by rw [hu _ c1 b1 j hj]; exact (d1 j hj).2⟩⟩
/-- the bytes of a number -/
def ud_eb (p many i : Nat) : Nat := if 0 < i then 128 + p / 64 ^ (many - 1 - i) % 64 else if many = 1 then p else if many = 2 then 192 + p / 64 else if many = 3 then 224 + p / 4096 else 240 + p / 262144
def ud_eP (f : Nat → Int32) (a p i : Nat) : Nat → Int32 := fun j => if a ≤ j ∧ j < a + i then ud_sB (ud_eb p (ud_nd p) (j - a)) else f j
def ud_eD (f : Nat → Int32) (a p i : Nat) : Nat → Int32 := fun j => if a + i < j ∧ j < a + ud_nd p then ud_sB (ud_eb p (ud_nd p) (j - a)) else f j
theorem ud_eP_0 (f : Nat → Int32) (a p : Nat) : ud_eP f a p 0 = f := by
  funext j
  unfold ud_eP
  rw [if_neg (by omega)]
theorem ud_eP_s (f : Nat → Int32) (a p i : Nat) : upd (ud_eP f a p i) (a + i) (ud_sB (ud_eb p (ud_nd p) i)) = ud_eP f a p (i + 1) := by
  funext j
  simp only [ud_eP, upd]
  by_cases h : j = a + i
  · rw [if_pos h, if_pos (by omega), show j - a = i by omega]
  · rw [if_neg h]
    by_cases h2 : a ≤ j ∧ j < a + i
    · rw [if_pos h2, if_pos (by omega)]
    · rw [if_neg h2, if_neg (by omega)]
theorem ud_eD_0 (f : Nat → Int32) (a p : Nat) : ud_eD f a p (ud_nd p - 1) = f := by
  funext j
  unfold ud_eD
  have := (ud_nd_pos p).1
  rw [if_neg (by omega)]
theorem ud_eD_s (f : Nat → Int32) (a p i : Nat) (hi : i + 1 < ud_nd p) : upd (ud_eD f a p (i + 1)) (a + (i + 1)) (ud_sB (ud_eb p (ud_nd p) (i + 1))) = ud_eD f a p i := by
  funext j
  simp only [ud_eD, upd]
  by_cases h : j = a + (i + 1)
  · rw [if_pos h, if_pos (by omega), show j - a = i + 1 by omega]
  · rw [if_neg h]
    by_cases h2 : a + (i + 1) < j ∧ j < a + ud_nd p
    · rw [if_pos h2, if_pos (by omega)]
    · rw [if_neg h2, if_neg (by omega)]
theorem ud_eD_e (f : Nat → Int32) (a p : Nat) : upd (ud_eD f a p 0) a (ud_sB (ud_eb p (ud_nd p) 0)) = ud_eP f a p (ud_nd p) := by
  funext j
  simp only [ud_eD, ud_eP, upd]
  have := (ud_nd_pos p).1
  by_cases h : j = a
  · rw [if_pos h, if_pos (by omega), show j - a = 0 by omega]
  · rw [if_neg h]
    by_cases h2 : a + 0 < j ∧ j < a + ud_nd p
    · rw [if_pos h2, if_pos (by omega)]
    · rw [if_neg h2, if_neg (by omega)]
theorem ud_eP_B {f : Nat → Int32} (h : ud_isB f) (a p i : Nat) : ud_isB (ud_eP f a p i) := by
  refine ud_isB_pt fun j => ?_
  unfold ud_eP
  split
  · exact ⟨_, rfl⟩
  · exact ud_isB_x h j
theorem ud_enc {f : Nat → Int32} {a p : Nat} (hp : p < 1114112) : ud_dc (ud_g (ud_eP f a p (ud_nd p))) a (a + ud_nd p) = if 55296 ≤ p ∧ p ≤ 57343 then none else some (p, ud_nd p) := by
  have key : ∀ i, i < ud_nd p → ud_eb p (ud_nd p) i < 256 → ud_g (ud_eP f a p (ud_nd p)) (a + i) = ud_eb p (ud_nd p) i := by
    intro i hi h
    refine ud_g_sB h ?_
    unfold ud_eP
    rw [if_pos (by omega), show a + i - a = i by omega]
  generalize ud_g (ud_eP f a p (ud_nd p)) = g at key ⊢
  unfold ud_dc
  by_cases h1 : p < 128
  · have hn : ud_nd p = 1 := by unfold ud_nd; rw [if_pos h1]
    rw [hn] at key ⊢
    have k0 : g a = p := key 0 (by decide) (by show p < 256; omega)
    rw [k0, if_pos h1, if_neg (by omega)]
  · by_cases h2 : p < 2048
    · have hn : ud_nd p = 2 := by unfold ud_nd; rw [if_neg h1, if_pos h2]
      rw [hn] at key ⊢
      have k0 : g a = 192 + p / 64 := key 0 (by decide) (by show 192 + p / 64 < 256; omega)
      have k1 : g (a + 1) = 128 + p / 64 ^ 0 % 64 := key 1 (by decide) (by show 128 + p / 64 ^ 0 % 64 < 256; omega)
      rw [Nat.pow_zero, Nat.div_one] at k1
      rw [k0, k1, if_neg (by omega), if_neg (by omega), if_pos (by omega), if_pos (by omega), if_neg (by omega)]
      exact congrArg (fun z => some (z, 2)) (by omega)
    · by_cases h3 : p < 65536
      · have hn : ud_nd p = 3 := by unfold ud_nd; rw [if_neg h1, if_neg h2, if_pos h3]
        rw [hn] at key ⊢
        have k0 : g a = 224 + p / 4096 := key 0 (by decide) (by show 224 + p / 4096 < 256; omega)
        have k1 : g (a + 1) = 128 + p / 64 ^ 1 % 64 := key 1 (by decide) (by show 128 + p / 64 ^ 1 % 64 < 256; omega)
        have k2 : g (a + 2) = 128 + p / 64 ^ 0 % 64 := key 2 (by decide) (by show 128 + p / 64 ^ 0 % 64 < 256; omega)
        rw [Nat.pow_zero, Nat.div_one] at k2
        rw [Nat.pow_one] at k1
        have e : ((224 + p / 4096 - 224) * 64 + (128 + p / 64 % 64 - 128)) * 64 + (128 + p % 64 - 128) = p := by omega
        rw [k0, k1, k2, if_neg (by omega), if_neg (by omega), if_neg (by omega), if_pos (by omega), e]
        by_cases hs : 55296 ≤ p ∧ p ≤ 57343
        · rw [if_neg (fun z => z.2.2.2.2 hs), if_pos hs]
        · rw [if_pos ⟨by omega, by omega, by omega, by omega, hs⟩, if_neg hs]
      · have hn : ud_nd p = 4 := by unfold ud_nd; rw [if_neg h1, if_neg h2, if_neg h3]
        rw [hn] at key ⊢
        have k0 : g a = 240 + p / 262144 := key 0 (by decide) (by show 240 + p / 262144 < 256; omega)
        have k1 : g (a + 1) = 128 + p / 64 ^ 2 % 64 := key 1 (by decide) (by show 128 + p / 64 ^ 2 % 64 < 256; omega)
        have k2 : g (a + 2) = 128 + p / 64 ^ 1 % 64 := key 2 (by decide) (by show 128 + p / 64 ^ 1 % 64 < 256; omega)
        have k3 : g (a + 3) = 128 + p / 64 ^ 0 % 64 := key 3 (by decide) (by show 128 + p / 64 ^ 0 % 64 < 256; omega)
        rw [Nat.pow_zero, Nat.div_one] at k3
        rw [Nat.pow_one] at k2
        rw [show (64 : Nat) ^ 2 = 4096 by decide] at k1
        have e : (((240 + p / 262144 - 240) * 64 + (128 + p / 4096 % 64 - 128)) * 64 + (128 + p / 64 % 64 - 128)) * 64 + (128 + p % 64 - 128) = p := by omega
        rw [k0, k1, k2, k3, if_neg (by omega), if_neg (by omega), if_neg (by omega), if_neg (by omega), if_pos (by omega), e, if_pos ⟨by omega, by omega, by omega, by omega, by omega, by omega⟩, if_neg (by omega)]
/-- a letter just written, turned alone -/
theorem ud_letter {f : Nat → Int32} {a p room : Nat} {r : Int32} {u : Nat → Int32} (hp : p < 1114112) (hr : 2 ≤ room) (h : ud_An (ud_dU (ud_g (ud_eP f a p (ud_nd p))) (a + ud_nd p) (ud_nd p) a) room r u) : r = if 55296 ≤ p ∧ p ≤ 57343 then -1 else if 65535 < p then 2 else 1 := by
  have hn := (ud_nd_pos p).1
  obtain ⟨F, hF⟩ : ∃ F, ud_nd p = F + 1 := ⟨ud_nd p - 1, by omega⟩
  have he := ud_enc (f := f) (a := a) hp
  generalize ud_g (ud_eP f a p (ud_nd p)) = g at h he
  by_cases hs : 55296 ≤ p ∧ p ≤ 57343
  · rw [if_pos hs] at he ⊢
    have h0 : ud_dU g (a + ud_nd p) (ud_nd p) a = none := by
      have := ud_dU_n (F := F) (by omega) he
      rw [← hF] at this
      exact this
    rw [h0] at h
    rcases h with ⟨h, -⟩ | ⟨L, h, -⟩
    · exact h
    · cases h
  · rw [if_neg hs] at he ⊢
    have h0 : ud_dU g (a + ud_nd p) (ud_nd p) a = some (ud_un p ++ []) := by
      have h1 := ud_dU_s (F := F) (by omega) he
      rw [← hF, ud_dU_e (Nat.le_refl _)] at h1
      exact h1
    rw [h0, List.append_nil] at h
    unfold ud_un at h
    rcases h with ⟨-, h⟩ | ⟨L, h, -, h2, -⟩
    · by_cases hb : 65535 < p
      · rw [if_pos hb] at h
        have := h _ rfl
        simp at this
        omega
      · rw [if_neg hb] at h
        have := h _ rfl
        simp at this
        omega
    · by_cases hb : 65535 < p
      · rw [if_pos hb] at h ⊢
        obtain rfl := Option.some.inj h
        exact h2
      · rw [if_neg hb] at h ⊢
        obtain rfl := Option.some.inj h
        exact h2
/-- four words: the desk's bytes, the law's -/
def ud_wP (f : Nat → Int32) (at_ : Nat) (w : Int32) : Nat → Int32 := upd (upd (upd (upd f at_ (w >>> ((24 : Int32) &&& 31)).toInt8.toInt32) (at_ + 1) (w >>> ((16 : Int32) &&& 31)).toInt8.toInt32) (at_ + 2) (w >>> ((8 : Int32) &&& 31)).toInt8.toInt32) (at_ + 3) w.toInt8.toInt32
def ud_W4 (a b c d : Int32) : Nat → Int32 := upd (upd (upd (upd (fun _ => 0) 0 a) 1 b) 2 c) 3 d
def ud_pb (w : Nat → Int32) (i : Nat) : Int32 := (w (i / 4) >>> ((24 - 8 * nI (i % 4)) &&& 31)).toInt8.toInt32
def ud_pP (f : Nat → Int32) (z : Nat) (w : Nat → Int32) (i : Nat) : Nat → Int32 := fun j => if z ≤ j ∧ j < z + i then ud_pb w (j - z) else f j
theorem ud_pP_0 (f : Nat → Int32) (z : Nat) (w : Nat → Int32) : ud_pP f z w 0 = f := by
  funext j
  unfold ud_pP
  rw [if_neg (by omega)]
theorem ud_pP_s (f : Nat → Int32) (z : Nat) (w : Nat → Int32) (i : Nat) : upd (ud_pP f z w i) (z + i) (ud_pb w i) = ud_pP f z w (i + 1) := by
  funext j
  simp only [ud_pP, upd]
  by_cases h : j = z + i
  · rw [if_pos h, if_pos (by omega), show j - z = i by omega]
  · rw [if_neg h]
    by_cases h2 : z ≤ j ∧ j < z + i
    · rw [if_pos h2, if_pos (by omega)]
    · rw [if_neg h2, if_neg (by omega)]
theorem ud_pP_B {f : Nat → Int32} (h : ud_isB f) (z : Nat) (w : Nat → Int32) (i : Nat) : ud_isB (ud_pP f z w i) := by
  refine ud_isB_pt fun j => ?_
  unfold ud_pP
  split
  · exact ⟨_, rfl⟩
  · exact ud_isB_x h j
theorem ud_shr0 (w : Int32) : w >>> ((24 - 8 * nI 3) &&& 31) = w := by
  apply Int32.toInt_inj.mp
  rw [pk_shr w _ 0 (by decide)]
  simp
theorem ud_wP_eq (f : Nat → Int32) (z k : Nat) (w : Nat → Int32) : ud_wP (ud_pP f z w (4 * k)) (z + 4 * k) (w k) = ud_pP f z w (4 * k + 4) := by
  have h0 : ud_pb w (4 * k) = (w k >>> ((24 : Int32) &&& 31)).toInt8.toInt32 := by
    unfold ud_pb
    rw [show 4 * k / 4 = k by omega, show 4 * k % 4 = 0 by omega, show (24 - 8 * nI 0 : Int32) = 24 by decide]
  have h1 : ud_pb w (4 * k + 1) = (w k >>> ((16 : Int32) &&& 31)).toInt8.toInt32 := by
    unfold ud_pb
    rw [show (4 * k + 1) / 4 = k by omega, show (4 * k + 1) % 4 = 1 by omega, show (24 - 8 * nI 1 : Int32) = 16 by decide]
  have h2 : ud_pb w (4 * k + 2) = (w k >>> ((8 : Int32) &&& 31)).toInt8.toInt32 := by
    unfold ud_pb
    rw [show (4 * k + 2) / 4 = k by omega, show (4 * k + 2) % 4 = 2 by omega, show (24 - 8 * nI 2 : Int32) = 8 by decide]
  have h3 : ud_pb w (4 * k + 3) = (w k).toInt8.toInt32 := by
    unfold ud_pb
    rw [show (4 * k + 3) / 4 = k by omega, show (4 * k + 3) % 4 = 3 by omega, ud_shr0]
  unfold ud_wP
  rw [← h0, ← h1, ← h2, ← h3, ud_pP_s, Nat.add_assoc, Nat.add_assoc, Nat.add_assoc, ud_pP_s, ud_pP_s, ud_pP_s]
theorem ud_put (f : Nat → Int32) (z : Nat) (a b c d : Int32) : ud_wP (ud_wP (ud_wP (ud_wP f z a) (z + 4) b) (z + 8) c) (z + 12) d = ud_pP f z (ud_W4 a b c d) 16 := by
  have h0 := ud_wP_eq f z 0 (ud_W4 a b c d)
  have h1 := ud_wP_eq f z 1 (ud_W4 a b c d)
  have h2 := ud_wP_eq f z 2 (ud_W4 a b c d)
  have h3 := ud_wP_eq f z 3 (ud_W4 a b c d)
  rw [show ud_pP f z (ud_W4 a b c d) (4 * 0) = f from ud_pP_0 f z _] at h0
  have h0 : ud_wP f z a = ud_pP f z (ud_W4 a b c d) (4 * 1) := h0
  have h1 : ud_wP (ud_pP f z (ud_W4 a b c d) (4 * 1)) (z + 4) b = ud_pP f z (ud_W4 a b c d) (4 * 2) := h1
  have h2 : ud_wP (ud_pP f z (ud_W4 a b c d) (4 * 2)) (z + 8) c = ud_pP f z (ud_W4 a b c d) (4 * 3) := h2
  have h3 : ud_wP (ud_pP f z (ud_W4 a b c d) (4 * 3)) (z + 12) d = ud_pP f z (ud_W4 a b c d) 16 := h3
  rw [h0, h1, h2, h3]
end
section
/-! WORLDS of this claim, and rows for indices that are numbers (nI i) -/
abbrev ud_Cl : List vw_C := [(RX1, TX1, 4), (RX0, TX0, 5)]
def ud_W (D : va_G) (ws : va_W) (tys : List (ClassId × FieldType)) (sz : Nat) (U : State) : Prop := U.heap.size = sz ∧ va_P D ud_Cl ws U.heap ∧ va_K D ud_Cl tys U ∧ va_D (fun _ => True) ws
def ud_E (D : va_G) (A : Nat → Prop) (ws : va_W) (tys : List (ClassId × FieldType)) (t : State) : Prop := va_P D ud_Cl ws t.heap ∧ va_K D ud_Cl tys t ∧ va_D A ws
theorem ud_fb {av : List Value} {D : va_G} {ws : va_W} {tys : List (ClassId × FieldType)} {sz : Nat} : FrameBlind (va_Pc av (ud_W D ws tys sz)) := fun a U g mk q => by
  obtain ⟨q0, q1, qP, qK, qD⟩ := q
  exact ⟨q0, q1, qP, va_K.moved (u := U) (U := U.calling g mk a) (Vm.Alike.refl U.vm) qK, qD⟩
theorem ud_go {D : va_G} {ws : va_W} {tys : List (ClassId × FieldType)} {A : Nat → Prop} {s : State} {H : Heap} (hP : va_P D ud_Cl ws H) (hK : va_K D ud_Cl tys s) (hD : va_D A ws) : ∀ U : State, U.heap = H → s.WarmedH U.vm → ud_W D ws tys H.size U := fun U hU hW => ⟨by rw [hU], by rw [hU]; exact hP, va_K.moved hW.alike hK, hD.weaken (fun _ _ _ _ => trivial)⟩
theorem ud_end {D : va_G} {ws : va_W} {tys : List (ClassId × FieldType)} {A : Nat → Prop} {s t : State} {H : Heap} (ht : t.heap = H) (hW : s.WarmedH t.vm) (hP : va_P D ud_Cl ws H) (hK : va_K D ud_Cl tys s) (hD : va_D A ws) : ud_E D A ws tys t := ⟨by rw [ht]; exact hP, va_K.moved hW.alike hK, hD⟩
/-- the two static tables, apart from A -/
def ud_Tb (t1 t2 : Nat) (A : Nat → Prop) (U : State) (H : Heap) : Prop := va_Z "UTF8" "firstUnitTable" "[S" (.ref t1) A U H ∧ va_T .short t1 128 (fun j => .int (ud_ft j)) A U H ∧ va_Z "UTF8" "transitionTable" "[B" (.ref t2) A U H ∧ va_T .byte t2 112 (fun j => .int (ud_tt j)) A U H
theorem ud_Tb_go {t1 t2 : Nat} {A B : Nat → Prop} {s U : State} {H : Heap} {locs : List Loc} (h : ud_Tb t1 t2 A s s.heap) (hS : va_S A s.heap H locs) (hF : ∀ q, B q → A q) (hU : U.heap = H) (hW : s.WarmedH U.vm) : ud_Tb t1 t2 B U U.heap := by
  rw [hU]
  obtain ⟨h1, h2, h3, h4⟩ := h
  exact ⟨((va_Z.moved hW.alike h1).kept hS.2.1).narrow hF, ((va_T.moved hW.alike h2).kept hS.2.1).narrow hF, ((va_Z.moved hW.alike h3).kept hS.2.1).narrow hF, ((va_T.moved hW.alike h4).kept hS.2.1).narrow hF⟩
def ud_Wt (D : va_G) (ws : va_W) (tys : List (ClassId × FieldType)) (sz t1 t2 : Nat) (U : State) : Prop := ud_W D ws tys sz U ∧ ud_Tb t1 t2 (va_A ws sz) U U.heap
theorem ud_fbt {av : List Value} {D : va_G} {ws : va_W} {tys : List (ClassId × FieldType)} {sz t1 t2 : Nat} : FrameBlind (va_Pc av (ud_Wt D ws tys sz t1 t2)) := fun a U g mk q => by
  obtain ⟨q0, ⟨q1, qP, qK, qD⟩, h1, h2, h3, h4⟩ := q
  exact ⟨q0, ⟨q1, qP, va_K.moved (u := U) (U := U.calling g mk a) (Vm.Alike.refl U.vm) qK, qD⟩, va_Z.moved (u := U) (U := U.calling g mk a) (Vm.Alike.refl U.vm) h1, va_T.moved (u := U) (U := U.calling g mk a) (Vm.Alike.refl U.vm) h2, va_Z.moved (u := U) (U := U.calling g mk a) (Vm.Alike.refl U.vm) h3, va_T.moved (u := U) (U := U.calling g mk a) (Vm.Alike.refl U.vm) h4⟩
theorem ud_got {D : va_G} {ws : va_W} {tys : List (ClassId × FieldType)} {A A0 : Nat → Prop} {s : State} {H : Heap} {locs : List Loc} {t1 t2 : Nat} (hP : va_P D ud_Cl ws H) (hK : va_K D ud_Cl tys s) (hD : va_D A ws) (hT : ud_Tb t1 t2 A0 s s.heap) (hS : va_S A0 s.heap H locs) (hF : ∀ q, va_A ws H.size q → A0 q) : ∀ U : State, U.heap = H → s.WarmedH U.vm → ud_Wt D ws tys H.size t1 t2 U := fun U hU hW => ⟨ud_go hP hK hD U hU hW, ud_Tb_go hT hS hF hU hW⟩
section UDR
variable {p : Program} {l : Launch} {e : Env} {R : Room} {s : State} {m : MethodId} {args : Array Value} {below : List Frame} {meth : Method} {c : Code} {H : Heap} {locs : List Loc} {cells slots : Nat} {Q : State → Prop}
variable {cc : ByteArray} {pc : Nat} {ls : Array Slot} {rest : List Value} {D : va_G} {cl : List vw_C} {A : Nat → Prop} {a : Nat} {tys : List (ClassId × FieldType)} {ws : va_W} {H0 : Heap}
theorem ud_top {x v : Int32} (h : x = v) (k : W p l e R s m args below meth c H locs cells slots Q (F0 m pc ls (.int v :: rest))) : W p l e R s m args below meth c H locs cells slots Q (F0 m pc ls (.int x :: rest)) := by
  subst h
  exact k
theorem ud_cs {c1 s1 : Nat} {g : JFrame} (h1 : cells = c1) (h2 : slots = s1) (k : W p l e R s m args below meth c H locs c1 s1 Q g) : W p l e R s m args below meth c H locs cells slots Q g := by
  subst h1
  subst h2
  exact k
theorem ud_ge (hexec : p.tables.exec = Jvm.exec) (hb : c.code = cc) {x y : Nat} {off : Int} {tgt : Nat} (hdg : decode cc pc = .ok (.if_icmp .ge off, 3)) (ht : (pc : Int) + off = (tgt : Int)) (hx : x < 2147483648) (hy : y < 2147483648)
    (kt : y ≤ x → W p l e R s m args below meth c H locs cells slots Q (F0 m tgt ls rest)) (kf : x < y → W p l e R s m args below meth c H locs cells slots Q (F0 m (pc + 3) ls rest)) : W p l e R s m args below meth c H locs cells slots Q (F0 m pc ls (.int (nI y) :: .int (nI x) :: rest)) :=
  lv_icmp_ge hexec hb hdg ht (fun h => kt ((nI_leI hy hx).mp h)) (fun h => kf (Nat.not_le.mp fun z => h ((nI_leI hy hx).mpr z)))
theorem ud_gt (hexec : p.tables.exec = Jvm.exec) (hb : c.code = cc) {x y : Nat} {off : Int} {tgt : Nat} (hdg : decode cc pc = .ok (.if_icmp .gt off, 3)) (ht : (pc : Int) + off = (tgt : Int)) (hx : x < 2147483648) (hy : y < 2147483648)
    (kt : y < x → W p l e R s m args below meth c H locs cells slots Q (F0 m tgt ls rest)) (kf : x ≤ y → W p l e R s m args below meth c H locs cells slots Q (F0 m (pc + 3) ls rest)) : W p l e R s m args below meth c H locs cells slots Q (F0 m pc ls (.int (nI y) :: .int (nI x) :: rest)) :=
  lv_icmp_gt hexec hb hdg ht (fun h => kt ((nI_ltI hy hx).mp h)) (fun h => kf (Nat.not_lt.mp fun z => h ((nI_ltI hy hx).mpr z)))
theorem ud_le (hexec : p.tables.exec = Jvm.exec) (hb : c.code = cc) {x y : Nat} {off : Int} {tgt : Nat} (hdg : decode cc pc = .ok (.if_icmp .le off, 3)) (ht : (pc : Int) + off = (tgt : Int)) (hx : x < 2147483648) (hy : y < 2147483648)
    (kt : x ≤ y → W p l e R s m args below meth c H locs cells slots Q (F0 m tgt ls rest)) (kf : y < x → W p l e R s m args below meth c H locs cells slots Q (F0 m (pc + 3) ls rest)) : W p l e R s m args below meth c H locs cells slots Q (F0 m pc ls (.int (nI y) :: .int (nI x) :: rest)) :=
  lv_icmp_le hexec hb hdg ht (fun h => kt ((nI_leI hx hy).mp h)) (fun h => kf (Nat.not_le.mp fun z => h ((nI_leI hx hy).mpr z)))
theorem ud_lt (hexec : p.tables.exec = Jvm.exec) (hb : c.code = cc) {x y : Nat} {off : Int} {tgt : Nat} (hdg : decode cc pc = .ok (.if_icmp .lt off, 3)) (ht : (pc : Int) + off = (tgt : Int)) (hx : x < 2147483648) (hy : y < 2147483648)
    (kt : x < y → W p l e R s m args below meth c H locs cells slots Q (F0 m tgt ls rest)) (kf : y ≤ x → W p l e R s m args below meth c H locs cells slots Q (F0 m (pc + 3) ls rest)) : W p l e R s m args below meth c H locs cells slots Q (F0 m pc ls (.int (nI y) :: .int (nI x) :: rest)) :=
  lv_icmp_lt hexec hb hdg ht (fun h => kt ((nI_ltI hx hy).mp h)) (fun h => kf (Nat.not_lt.mp fun z => h ((nI_ltI hx hy).mpr z)))
theorem ud_eq (hexec : p.tables.exec = Jvm.exec) (hb : c.code = cc) {x y : Nat} {off : Int} {tgt : Nat} (hdg : decode cc pc = .ok (.if_icmp .eq off, 3)) (ht : (pc : Int) + off = (tgt : Int)) (hx : x < 2147483648) (hy : y < 2147483648)
    (kt : x = y → W p l e R s m args below meth c H locs cells slots Q (F0 m tgt ls rest)) (kf : ¬ x = y → W p l e R s m args below meth c H locs cells slots Q (F0 m (pc + 3) ls rest)) : W p l e R s m args below meth c H locs cells slots Q (F0 m pc ls (.int (nI y) :: .int (nI x) :: rest)) :=
  lv_icmp_eq hexec hb hdg ht (fun h => kt ((nI_eq hx hy).mp h)) (fun h => kf (fun z => h ((nI_eq hx hy).mpr z)))
theorem ud_ne (hexec : p.tables.exec = Jvm.exec) (hb : c.code = cc) {x y : Nat} {off : Int} {tgt : Nat} (hdg : decode cc pc = .ok (.if_icmp .ne off, 3)) (ht : (pc : Int) + off = (tgt : Int)) (hx : x < 2147483648) (hy : y < 2147483648)
    (kt : ¬ x = y → W p l e R s m args below meth c H locs cells slots Q (F0 m tgt ls rest)) (kf : x = y → W p l e R s m args below meth c H locs cells slots Q (F0 m (pc + 3) ls rest)) : W p l e R s m args below meth c H locs cells slots Q (F0 m pc ls (.int (nI y) :: .int (nI x) :: rest)) :=
  lv_icmp_ne hexec hb hdg ht (fun h => kt (fun z => h ((nI_eq hx hy).mpr z))) (fun h => kf ((nI_eq hx hy).mp h))
theorem ud_ifle (hexec : p.tables.exec = Jvm.exec) (hb : c.code = cc) {x : Nat} {off : Int} {tgt : Nat} (hdg : decode cc pc = .ok (.ifCond .le off, 3)) (ht : (pc : Int) + off = (tgt : Int)) (hx : x < 2147483648)
    (kt : x = 0 → W p l e R s m args below meth c H locs cells slots Q (F0 m tgt ls rest)) (kf : 0 < x → W p l e R s m args below meth c H locs cells slots Q (F0 m (pc + 3) ls rest)) : W p l e R s m args below meth c H locs cells slots Q (F0 m pc ls (.int (nI x) :: rest)) :=
  lv_if_le hexec hb hdg ht (fun h => kt (Nat.le_zero.mp ((nI_leI (b := 0) hx (by decide)).mp h))) (fun h => kf (Nat.pos_of_ne_zero fun z => h (by subst z; decide)))
theorem ud_ifeq (hexec : p.tables.exec = Jvm.exec) (hb : c.code = cc) {x : Nat} {off : Int} {tgt : Nat} (hdg : decode cc pc = .ok (.ifCond .eq off, 3)) (ht : (pc : Int) + off = (tgt : Int)) (hx : x < 2147483648)
    (kt : x = 0 → W p l e R s m args below meth c H locs cells slots Q (F0 m tgt ls rest)) (kf : 0 < x → W p l e R s m args below meth c H locs cells slots Q (F0 m (pc + 3) ls rest)) : W p l e R s m args below meth c H locs cells slots Q (F0 m pc ls (.int (nI x) :: rest)) :=
  lv_if_eq hexec hb hdg ht (fun h => kt ((nI_eq (b := 0) hx (by decide)).mp h)) (fun h => kf (Nat.pos_of_ne_zero fun z => h (by subst z; rfl)))
theorem ud_ifne (hexec : p.tables.exec = Jvm.exec) (hb : c.code = cc) {x : Nat} {off : Int} {tgt : Nat} (hdg : decode cc pc = .ok (.ifCond .ne off, 3)) (ht : (pc : Int) + off = (tgt : Int)) (hx : x < 2147483648)
    (kt : 0 < x → W p l e R s m args below meth c H locs cells slots Q (F0 m tgt ls rest)) (kf : x = 0 → W p l e R s m args below meth c H locs cells slots Q (F0 m (pc + 3) ls rest)) : W p l e R s m args below meth c H locs cells slots Q (F0 m pc ls (.int (nI x) :: rest)) :=
  lv_if_ne hexec hb hdg ht (fun h => kt (Nat.pos_of_ne_zero fun z => h (by subst z; rfl))) (fun h => kf ((nI_eq (b := 0) hx (by decide)).mp h))
theorem ud_bald (hexec : p.tables.exec = Jvm.exec) (hb : c.code = cc) (hK : va_K D cl tys s) (hP : va_P D cl ws H) (q0 t0 : Nat) {cA : ClassId} {n : Nat} {f : Nat → Int32} (ha : ws[q0]? = some (a, .inl (cA, n, .inl f))) (ht : tys[t0]? = some (cA, .byte)) {i : Nat} (hi : i < n) (hn : n < 2147483648) (hdg : decode cc pc = .ok (.baload, 1))
    (kk : W p l e R s m args below meth c H locs cells slots Q (F0 m (pc + 1) ls (.int (f i) :: rest))) : W p l e R s m args below meth c H locs cells slots Q (F0 m pc ls (.int (nI i) :: .ref a :: rest)) := by
  refine va_bald hexec hb hK hP q0 t0 ha ht (vp_in_nI hi hn) hdg ?_
  rw [nI_clamp (Nat.lt_trans hi hn)]
  exact kk
theorem ud_iald (hexec : p.tables.exec = Jvm.exec) (hb : c.code = cc) (hK : va_K D cl tys s) (hP : va_P D cl ws H) (q0 t0 : Nat) {cA : ClassId} {n : Nat} {f : Nat → Int32} (ha : ws[q0]? = some (a, .inl (cA, n, .inl f))) (ht : tys[t0]? = some (cA, .int)) {i : Nat} (hi : i < n) (hn : n < 2147483648) (hdg : decode cc pc = .ok (.iaload, 1))
    (kk : W p l e R s m args below meth c H locs cells slots Q (F0 m (pc + 1) ls (.int (f i) :: rest))) : W p l e R s m args below meth c H locs cells slots Q (F0 m pc ls (.int (nI i) :: .ref a :: rest)) := by
  refine va_iald hexec hb hK hP q0 t0 ha ht (vp_in_nI hi hn) hdg ?_
  rw [nI_clamp (Nat.lt_trans hi hn)]
  exact kk
theorem ud_cald (hexec : p.tables.exec = Jvm.exec) (hb : c.code = cc) (hK : va_K D cl tys s) (hP : va_P D cl ws H) (q0 t0 : Nat) {cA : ClassId} {n : Nat} {f : Nat → Int32} (ha : ws[q0]? = some (a, .inl (cA, n, .inl f))) (ht : tys[t0]? = some (cA, .char)) {i : Nat} (hi : i < n) (hn : n < 2147483648) (hdg : decode cc pc = .ok (.caload, 1))
    (kk : W p l e R s m args below meth c H locs cells slots Q (F0 m (pc + 1) ls (.int (f i) :: rest))) : W p l e R s m args below meth c H locs cells slots Q (F0 m pc ls (.int (nI i) :: .ref a :: rest)) := by
  refine va_cald hexec hb hK hP q0 t0 ha ht (vp_in_nI hi hn) hdg ?_
  rw [nI_clamp (Nat.lt_trans hi hn)]
  exact kk
theorem ud_bast (hexec : p.tables.exec = Jvm.exec) (hb : c.code = cc) (hK : va_K D cl tys s) (hP : va_P D cl ws H) (hD : va_D A ws) (hS : va_S A H0 H locs) (q0 t0 : Nat) {cA : ClassId} {n : Nat} {f : Nat → Int32} (ha : ws[q0]? = some (a, .inl (cA, n, .inl f))) (ht : tys[t0]? = some (cA, .byte)) {i : Nat} {x v : Int32} (f' : Nat → Int32) (hi : i < n) (hn : n < 2147483648) (hv : x.toInt8.toInt32 = v) (hf : upd f i v = f') (hdg : decode cc pc = .ok (.bastore, 1))
    (kk : ∀ (H1 : Heap) (locs1 : List Loc), va_P D cl (ws.set q0 (a, .inl (cA, n, .inl f'))) H1 → va_D A (ws.set q0 (a, .inl (cA, n, .inl f'))) → va_S A H0 H1 locs1 → W p l e R s m args below meth c H1 locs1 cells slots Q (F0 m (pc + 1) ls rest)) : W p l e R s m args below meth c H locs cells slots Q (F0 m pc ls (.int x :: .int (nI i) :: .ref a :: rest)) := by
  subst hv
  subst hf
  refine va_bast hexec hb hK hP hD hS q0 t0 ha ht (vp_in_nI hi hn) hdg (fun H1 locs1 h1 h2 h3 => ?_)
  rw [nI_clamp (Nat.lt_trans hi hn), vp_nar_byte] at h1 h2
  exact kk H1 locs1 h1 h2 h3
theorem ud_iast (hexec : p.tables.exec = Jvm.exec) (hb : c.code = cc) (hK : va_K D cl tys s) (hP : va_P D cl ws H) (hD : va_D A ws) (hS : va_S A H0 H locs) (q0 t0 : Nat) {cA : ClassId} {n : Nat} {f : Nat → Int32} (ha : ws[q0]? = some (a, .inl (cA, n, .inl f))) (ht : tys[t0]? = some (cA, .int)) {i : Nat} {x : Int32} (f' : Nat → Int32) (hi : i < n) (hn : n < 2147483648) (hf : upd f i x = f') (hdg : decode cc pc = .ok (.iastore, 1))
    (kk : ∀ (H1 : Heap) (locs1 : List Loc), va_P D cl (ws.set q0 (a, .inl (cA, n, .inl f'))) H1 → va_D A (ws.set q0 (a, .inl (cA, n, .inl f'))) → va_S A H0 H1 locs1 → W p l e R s m args below meth c H1 locs1 cells slots Q (F0 m (pc + 1) ls rest)) : W p l e R s m args below meth c H locs cells slots Q (F0 m pc ls (.int x :: .int (nI i) :: .ref a :: rest)) := by
  subst hf
  refine va_iast hexec hb hK hP hD hS q0 t0 ha ht (vp_in_nI hi hn) hdg (fun H1 locs1 h1 h2 h3 => ?_)
  rw [nI_clamp (Nat.lt_trans hi hn)] at h1 h2
  exact kk H1 locs1 h1 h2 h3
theorem ud_nc {v : Nat} (h : v < 65536) : vp_nar .char (nI v) = nI v := by
  unfold vp_nar
  rw [(pk_charN h).1]
theorem ud_cast (hexec : p.tables.exec = Jvm.exec) (hb : c.code = cc) (hK : va_K D cl tys s) (hP : va_P D cl ws H) (hD : va_D A ws) (hS : va_S A H0 H locs) (q0 t0 : Nat) {cA : ClassId} {n : Nat} {f : Nat → Int32} (ha : ws[q0]? = some (a, .inl (cA, n, .inl f))) (ht : tys[t0]? = some (cA, .char)) {i v : Nat} (f' : Nat → Int32) (hi : i < n) (hn : n < 2147483648) (hv : v < 65536) (hf : upd f i (nI v) = f') (hdg : decode cc pc = .ok (.castore, 1))
    (kk : ∀ (H1 : Heap) (locs1 : List Loc), va_P D cl (ws.set q0 (a, .inl (cA, n, .inl f'))) H1 → va_D A (ws.set q0 (a, .inl (cA, n, .inl f'))) → va_S A H0 H1 locs1 → W p l e R s m args below meth c H1 locs1 cells slots Q (F0 m (pc + 1) ls rest)) : W p l e R s m args below meth c H locs cells slots Q (F0 m pc ls (.int (nI v) :: .int (nI i) :: .ref a :: rest)) := by
  subst hf
  refine va_cast hexec hb hK hP hD hS q0 t0 ha ht (vp_in_nI hi hn) hdg (fun H1 locs1 h1 h2 h3 => ?_)
  rw [nI_clamp (Nat.lt_trans hi hn), ud_nc hv] at h1 h2
  exact kk H1 locs1 h1 h2 h3
theorem ud_char {v : Nat} (h : v < 65536) : ((nI v).toUInt32 % 65536).toInt32 = nI v := by
  rw [pk_char, pk_tn (by omega), Nat.mod_eq_of_lt h]
end UDR
end
section
/-! loops, meeting paths, contents of arrays; numbers of the letters -/
section UDL
variable {p : Program} {l : Launch} {e : Env} {R : Room} {s : State} {m : MethodId} {args : Array Value} {below : List Frame} {meth : Method} {c : Code} {H : Heap} {locs : List Loc} {cells slots : Nat} {Q : State → Prop} {ls : Array Slot}
theorem ud_ind {pc2 : Nat} {stk : List Value} (J : Nat → Array Slot → Heap → List Loc → Prop) (h0 : ∀ ls H locs, ¬ J 0 ls H locs) (n : Nat) (hJ : J n ls H locs) (hs : ∀ n, (∀ ls H locs, J n ls H locs → W p l e R s m args below meth c H locs cells slots Q (F0 m pc2 ls stk)) → ∀ ls H locs, J (n + 1) ls H locs → W p l e R s m args below meth c H locs cells slots Q (F0 m pc2 ls stk)) : W p l e R s m args below meth c H locs cells slots Q (F0 m pc2 ls stk) := by
  have key : ∀ n, ∀ ls H locs, J n ls H locs → W p l e R s m args below meth c H locs cells slots Q (F0 m pc2 ls stk) := by
    intro n
    induction n with
    | zero => intro ls H locs h; exact absurd h (h0 ls H locs)
    | succ n ih => exact hs n ih
  exact key n ls H locs hJ
theorem ud_ind2 {pc2 : Nat} {stk : List Value} (J : Nat → Array Slot → Heap → List Loc → Nat → Nat → Prop) (h0 : ∀ ls H locs kc ks, ¬ J 0 ls H locs kc ks) (n : Nat) (hJ : J n ls H locs cells slots) (hs : ∀ n, (∀ ls H locs kc ks, J n ls H locs kc ks → W p l e R s m args below meth c H locs kc ks Q (F0 m pc2 ls stk)) → ∀ ls H locs kc ks, J (n + 1) ls H locs kc ks → W p l e R s m args below meth c H locs kc ks Q (F0 m pc2 ls stk)) : W p l e R s m args below meth c H locs cells slots Q (F0 m pc2 ls stk) := by
  have key : ∀ n, ∀ ls H locs kc ks, J n ls H locs kc ks → W p l e R s m args below meth c H locs kc ks Q (F0 m pc2 ls stk) := by
    intro n
    induction n with
    | zero => intro ls H locs kc ks h; exact absurd h (h0 ls H locs kc ks)
    | succ n ih => exact hs n ih
  exact key n ls H locs cells slots hJ
theorem ud_cut {pc2 : Nat} {stk : List Value} {g : JFrame} (P : Array Slot → Prop) (h1 : ∀ ls, P ls → W p l e R s m args below meth c H locs cells slots Q (F0 m pc2 ls stk)) (h2 : (∀ ls, P ls → W p l e R s m args below meth c H locs cells slots Q (F0 m pc2 ls stk)) → W p l e R s m args below meth c H locs cells slots Q g) : W p l e R s m args below meth c H locs cells slots Q g := h2 h1
end UDL
theorem ud_inc (k : Nat) : nI k + Int32.ofInt 1 = nI (k + 1) := nI_1 k
theorem ud_dec (k : Nat) : nI (k + 1) + Int32.ofInt (-1) = nI k := by
  rw [show Int32.ofInt (-1) = -1 by decide]
  exact pk_m1 k
theorem ud_inc6 (k : Nat) : nI k + Int32.ofInt 6 = nI (k + 6) := nI_add k 6
theorem ud_bb (x : Int32) : x.toInt8.toInt32.toInt8.toInt32 = x.toInt8.toInt32 := (vp_nar_byte _).symm.trans (pk_vb x)
theorem ud_isB_b {f : Nat → Int32} (h : ud_isB f) (j : Nat) : (f j).toInt8.toInt32 = f j := by
  rw [h j]
  exact ud_b6 _ (ud_g_lt f j)
/-- an array's contents beyond its length count for nothing -/
theorem ud_arr_ext {cA : ClassId} {n : Nat} {f f' : Nat → Int32} (h : ∀ j, j < n → f j = f' j) : vp_cell cA (n, .inl f) = vp_cell cA (n, .inl f') := by
  have e : (fun j : Fin n => Value.int (f j.val)) = fun j : Fin n => Value.int (f' j.val) := funext fun j => by rw [h j.val j.isLt]
  rw [vp_cell_i, vp_cell_i]
  unfold arrV
  rw [e]
theorem ud_P_ext {D : va_G} {cl : List vw_C} {ws : va_W} {H : Heap} {k a n : Nat} {cA : ClassId} {f f' : Nat → Int32} (hP : va_P D cl ws H) (h0 : ws[k]? = some (a, .inl (cA, n, .inl f))) (h : ∀ j, j < n → f j = f' j) : va_P D cl (ws.set k (a, .inl (cA, n, .inl f'))) H := by
  intro i q hq
  by_cases hi : k = i
  · subst hi
    have hk : k < ws.length := (List.getElem?_eq_some_iff.mp h0).1
    rw [List.getElem?_set_self hk] at hq
    cases hq
    have h1 : H[a]? = some (vp_cell cA (n, .inl f)) := hP k _ h0
    rw [ud_arr_ext h] at h1
    exact h1
  · rw [List.getElem?_set_ne hi] at hq
    exact hP i q hq
theorem ud_map_n {o : Option (Nat × Nat)} {f : Nat × Nat → Int32 × Nat} (h : none = o.map f) : o = none := by
  cases o with
  | none => rfl
  | some x => cases h
theorem ud_map_s {o : Option (Nat × Nat)} {cp : Int32} {i k : Nat} (h : some (cp, i) = o.map (fun x => (nI x.1, k + x.2))) : ∃ v m, o = some (v, m) ∧ cp = nI v ∧ i = k + m := by
  cases o with
  | none => cases h
  | some x =>
    obtain ⟨v, m⟩ := x
    have h := Option.some.inj h
    exact ⟨v, m, rfl, (Prod.mk.inj h).1, (Prod.mk.inj h).2⟩
theorem ud_stI {st : Int32} (h : ud_okS st) (hn : ¬ st < 0) (x : Nat) : st + nI x = nI (st.toNatClampNeg + x) ∧ st.toNatClampNeg ≤ 96 := by
  rcases h with h | ⟨k, hk, rfl⟩
  · exact absurd h hn
  · rw [nI_clamp (by omega)]
    exact ⟨nI_add _ _, by omega⟩
theorem ud_ltm {n rm : Nat} (hn : n < 2147483648) (hr : rm < 2147483648) : nI n < nI rm - nI 1 ↔ n + 1 < rm := by
  by_cases h : 1 ≤ rm
  · rw [pk_sub h, nI_ltI hn (by omega)]
    omega
  · have e : rm = 0 := by omega
    subst e
    rw [show nI 0 - nI 1 = -1 by decide, Int32.lt_iff_toInt_lt, nI_toInt hn, show (-1 : Int32).toInt = -1 by decide]
    omega
theorem ud_or10 {x : Nat} (hx : x < 1024) : nI 56320 ||| nI x = nI (56320 + x) := by
  apply Int32.toBitVec_inj.mp
  apply BitVec.eq_of_toNat_eq
  rw [Int32.toBitVec_or, BitVec.toNat_or, pk_tn (by decide), pk_tn (by omega), pk_tn (by omega)]
  exact (Nat.two_pow_add_eq_or_of_lt (i := 10) (b := x) hx 55).symm
set_option maxRecDepth 100000 in
theorem ud_o2 : ∀ x, x < 32 → (192 : Int32) ||| nI x = nI (192 + x) := by decide +kernel
set_option maxRecDepth 100000 in
theorem ud_o3 : ∀ x, x < 16 → (224 : Int32) ||| nI x = nI (224 + x) := by decide +kernel
set_option maxRecDepth 100000 in
theorem ud_o4 : ∀ x, x < 8 → (240 : Int32) ||| nI x = nI (240 + x) := by decide +kernel
set_option maxRecDepth 100000 in
theorem ud_o1 : ∀ x, x < 64 → (128 : Int32) ||| nI x = nI (128 + x) := by decide +kernel
theorem ud_nd_1 {q : Nat} (h : ud_nd q = 1) : q < 128 := by
  unfold ud_nd at h
  split at h
  · assumption
  · split at h
    · omega
    · split at h <;> omega
theorem ud_nd_2 {q : Nat} (h : ud_nd q = 2) : q < 2048 := by
  unfold ud_nd at h
  split at h
  · omega
  · split at h
    · assumption
    · split at h <;> omega
theorem ud_nd_3 {q : Nat} (h : ud_nd q = 3) : q < 65536 := by
  unfold ud_nd at h
  split at h
  · omega
  · split at h
    · omega
    · split at h
      · assumption
      · omega
theorem ud_eb_1 {q : Nat} (h : ud_nd q = 1) : ud_eb q (ud_nd q) 0 = q := by
  rw [h]
  rfl
theorem ud_eb_2 {q : Nat} (h : ud_nd q = 2) : (192 : Int32) ||| nI (q / 64 ^ (ud_nd q - 1 - 0)) = nI (ud_eb q (ud_nd q) 0) := by
  have h2 := ud_nd_2 h
  rw [h]
  show (192 : Int32) ||| nI (q / 64 ^ 1) = nI (192 + q / 64)
  rw [Nat.pow_one]
  exact ud_o2 _ (by omega)
theorem ud_eb_3 {q : Nat} (h : ud_nd q = 3) : (224 : Int32) ||| nI (q / 64 ^ (ud_nd q - 1 - 0)) = nI (ud_eb q (ud_nd q) 0) := by
  have h2 := ud_nd_3 h
  rw [h]
  show (224 : Int32) ||| nI (q / 64 ^ 2) = nI (224 + q / 4096)
  rw [show (64 : Nat) ^ 2 = 4096 by decide]
  exact ud_o3 _ (by omega)
theorem ud_eb_4 {q : Nat} (hq : q < 1114112) (h : ud_nd q = 4) : (240 : Int32) ||| nI (q / 64 ^ (ud_nd q - 1 - 0)) = nI (ud_eb q (ud_nd q) 0) := by
  rw [h]
  show (240 : Int32) ||| nI (q / 64 ^ 3) = nI (240 + q / 262144)
  rw [show (64 : Nat) ^ 3 = 262144 by decide]
  exact ud_o4 _ (by omega)
theorem ud_eb_c {q i : Nat} (hq : q < 2147483648) (hi : 0 < i) : (128 : Int32) ||| (nI (q / 64 ^ (ud_nd q - 1 - i)) &&& 63) = nI (ud_eb q (ud_nd q) i) := by
  have e : ud_eb q (ud_nd q) i = 128 + q / 64 ^ (ud_nd q - 1 - i) % 64 := by
    unfold ud_eb
    rw [if_pos hi]
  have h2 : q / 64 ^ (ud_nd q - 1 - i) ≤ q := Nat.div_le_self _ _
  rw [e, pk_andN (by omega) 6 (by decide)]
  exact ud_o1 _ (Nat.mod_lt _ (by decide))
theorem ud_e1 (f : Nat → Int32) (a q : Nat) (h : ud_nd q = 1) : upd f a (ud_sB q) = ud_eP f a q (ud_nd q) := by
  have e := ud_eD_e f a q
  rw [ud_eb_1 h] at e
  rw [← e]
  congr 1
  have e2 := ud_eD_0 f a q
  rw [h] at e2
  exact e2.symm
theorem ud_shr6 {q t t' : Nat} (hq : q < 2147483648) (ht : t' = t + 1) : nI (q / 64 ^ t) >>> ((6 : Int32) &&& 31) = nI (q / 64 ^ t') := by
  subst ht
  have h2 : q / 64 ^ t ≤ q := Nat.div_le_self _ _
  rw [pk_shrN (by omega) ((6 : Int32) &&& 31) 6 (by decide), show (2 : Nat) ^ 6 = 64 by decide, Nat.div_div_eq_div_mul, ← Nat.pow_succ]
theorem ud_shrK {q t : Nat} (hq : q < 2147483648) (ht : t < 4) : nI q >>> (nI (6 * t) &&& 31) = nI (q / 64 ^ t) := by
  have h : t = 0 ∨ t = 1 ∨ t = 2 ∨ t = 3 := by omega
  rcases h with rfl | rfl | rfl | rfl
  · exact pk_shrN hq _ 0 (by decide)
  · exact pk_shrN hq _ 6 (by decide)
  · exact pk_shrN hq _ 12 (by decide)
  · exact pk_shrN hq _ 18 (by decide)
theorem ud_cp_s {f w : Nat → Int32} {a i : Nat} (h : ∀ j, j < i → w j = f (a + j)) : ∀ j, j < i + 1 → upd w i (f (a + i)) j = f (a + j) := by
  intro j hj
  by_cases e : j = i
  · subst e
    exact pk_us
  · rw [pk_un e]
    exact h j (by omega)
/-- what unit() answers -/
def ud_ut (md : Int32) (du : Nat → Int32) (x : Int32) : Int32 := if 0 < md then du (ud_fM x md.toNatClampNeg) else -1
end
section
/-! THE LEAVES (printed by gen/leaves.py) -/
set_option maxHeartbeats 4000000 in
set_option maxRecDepth 100000 in
theorem ud_X0_from (l : Launch) (D : va_G) (sz : Nat) (v : Int32) (mm : Nat) (h0 : 0 < mm) (hm : mm < 2147483648) : Met l yX0_from (ws_ yX0_from cX0_from 2 (some .int)) ({ frames := 0, cells := 0, slots := 0, locals := 0 }) (va_Pc [.int v, .int (nI mm)] (ud_W D [] [] sz)) (va_Qi (fun (r : Int32) (u : Unit) => r = nI (ud_fM v mm)) (fun u t => ud_E D (va_A [] sz) [] [] t) (va_A [] sz)) 0 0 (va_A [] sz) := by
  refine Met.ofW (cc := cX0_from) (maxL := 2) (ret := (some .int)) (by decide) rfl ?_
  intro p e s m args below meth c s₁ B hml hv
  obtain ⟨rfl, hsz, hP, hK, hD0⟩ := hv
  have hx := B.exec
  have hb := B.bytes
  have hr := B.returns
  have hts := atoms_spec (ws := ws_ yX0_from cX0_from 2 (some .int)) B.pre
  have hts : ∀ w ∈ lw_all, w.before _ s = true := fun w h => hts w (List.mem_cons_of_mem _ h)
  have hown : s.vm.findClass RX0 = some m.cls := findClass_of_methodNamed B.named
  have hlocks := B.notSynchronized
  subst hsz
  have hD := hD0.self (sz := s.heap.size)
  generalize hAe : va_A [] s.heap.size = A at hD ⊢
  have hA : ∀ q : Nat, s.heap.size ≤ q → A q := fun q h => by rw [← hAe]; exact Or.inr h
  have hS : va_S A s.heap s.heap [] := va_S.rf
  have hP : va_P D ud_Cl [] s.heap := hP
  have hl := lv_entry ([.int v, .int (nI mm)]) (n := 2) (Nat.le_of_ble_eq_true rfl)
  rw [lg_entry_eq]
  generalize (lg_sl ([.int v, .int (nI mm)]) ++ List.replicate (2 - (lg_sl ([.int v, .int (nI mm)])).length) Slot.unset).toArray = ls at hl ⊢
  have hl : lv_has ls 2 [(0, .int v), (1, .int (nI mm))] := hl
  refine lv_iload_n hx hb dX0_from_0 rfl (lv_at hl 0 rfl) ?_
  refine lv_ldc hx hb hown (hts _ q75) dX0_from_1 ?_
  refine lv_iand hx hb dX0_from_3 ?_
  refine lv_iload_n hx hb dX0_from_4 rfl (lv_at hl 1 rfl) ?_
  refine lv_irem hx hb dX0_from_5 (nI_ne0 h0 hm) ?_
  refine ud_top (v := nI (ud_fM v mm)) (ud_rem v h0 hm) ?_
  have hP9 := hP.sub (ws' := []) [] rfl
  have hD9 := hD.sub (ws' := []) [] (by decide) rfl
  have hK9 := hK.sub (tys' := []) [] rfl
  exact W.iret (v := (nI (ud_fM v mm))) hx hb hr (fun t ht hW => ⟨⟨(nI (ud_fM v mm)), (), rfl, rfl, ud_end ht hW hP9 hK9 hD9⟩, hS.F ht⟩) hS.2.2 dX0_from_6
set_option maxHeartbeats 4000000 in
set_option maxRecDepth 100000 in
theorem ud_X0_bytes (l : Launch) (D : va_G) (sz : Nat) (b : Nat) (hb8 : b < 256) : Met l yX0_bytes (ws_ yX0_bytes cX0_bytes 1 (some .int)) ({ frames := 0, cells := 0, slots := 0, locals := 0 }) (va_Pc [.int (nI b)] (ud_W D [] [] sz)) (va_Qi (fun (r : Int32) (u : Unit) => r = nI (ud_by b)) (fun u t => ud_E D (va_A [] sz) [] [] t) (va_A [] sz)) 0 0 (va_A [] sz) := by
  refine Met.ofW (cc := cX0_bytes) (maxL := 1) (ret := (some .int)) (by decide) rfl ?_
  intro p e s m args below meth c s₁ B hml hv
  obtain ⟨rfl, hsz, hP, hK, hD0⟩ := hv
  have hx := B.exec
  have hb := B.bytes
  have hr := B.returns
  have hts := atoms_spec (ws := ws_ yX0_bytes cX0_bytes 1 (some .int)) B.pre
  have hts : ∀ w ∈ lw_all, w.before _ s = true := fun w h => hts w (List.mem_cons_of_mem _ h)
  have hown : s.vm.findClass RX0 = some m.cls := findClass_of_methodNamed B.named
  have hlocks := B.notSynchronized
  subst hsz
  have hD := hD0.self (sz := s.heap.size)
  generalize hAe : va_A [] s.heap.size = A at hD ⊢
  have hA : ∀ q : Nat, s.heap.size ≤ q → A q := fun q h => by rw [← hAe]; exact Or.inr h
  have hS : va_S A s.heap s.heap [] := va_S.rf
  have hP : va_P D ud_Cl [] s.heap := hP
  have hl := lv_entry ([.int (nI b)]) (n := 1) (Nat.le_of_ble_eq_true rfl)
  rw [lg_entry_eq]
  generalize (lg_sl ([.int (nI b)]) ++ List.replicate (1 - (lg_sl ([.int (nI b)])).length) Slot.unset).toArray = ls at hl ⊢
  have hl : lv_has ls 1 [(0, .int (nI b))] := hl
  refine lv_iload_n hx hb dX0_bytes_0 rfl (lv_at hl 0 rfl) ?_
  refine lv_sipush (v := nI 128) hx hb dX0_bytes_1 (by decide) ?_
  refine ud_ge (tgt := 11) hx hb dX0_bytes_4 (by decide) (by omega) (by decide) (fun c4 => ?_) (fun c4 => ?_)
  · refine lv_iload_n hx hb dX0_bytes_11 rfl (lv_at hl 0 rfl) ?_
    refine lv_sipush (v := nI 192) hx hb dX0_bytes_12 (by decide) ?_
    refine ud_ge (tgt := 22) hx hb dX0_bytes_15 (by decide) (by omega) (by decide) (fun c15 => ?_) (fun c15 => ?_)
    · refine lv_iload_n hx hb dX0_bytes_22 rfl (lv_at hl 0 rfl) ?_
      refine lv_sipush (v := nI 224) hx hb dX0_bytes_23 (by decide) ?_
      refine ud_ge (tgt := 33) hx hb dX0_bytes_26 (by decide) (by omega) (by decide) (fun c26 => ?_) (fun c26 => ?_)
      · refine lv_iload_n hx hb dX0_bytes_33 rfl (lv_at hl 0 rfl) ?_
        refine lv_sipush (v := nI 240) hx hb dX0_bytes_34 (by decide) ?_
        refine ud_ge (tgt := 44) hx hb dX0_bytes_37 (by decide) (by omega) (by decide) (fun c37 => ?_) (fun c37 => ?_)
        · refine lv_iload_n hx hb dX0_bytes_44 rfl (lv_at hl 0 rfl) ?_
          refine lv_sipush (v := nI 248) hx hb dX0_bytes_45 (by decide) ?_
          refine ud_ge (tgt := 55) hx hb dX0_bytes_48 (by decide) (by omega) (by decide) (fun c48 => ?_) (fun c48 => ?_)
          · refine lv_iconst (v := nI 0) hx hb dX0_bytes_55 (by decide) ?_
            have hP9 := hP.sub (ws' := []) [] rfl
            have hD9 := hD.sub (ws' := []) [] (by decide) rfl
            have hK9 := hK.sub (tys' := []) [] rfl
            exact W.iret (v := (nI 0)) hx hb hr (fun t ht hW => ⟨⟨(nI 0), (), rfl, (by unfold ud_by; repeat (first | rw [if_pos (by omega)] | rw [if_neg (by omega)])), ud_end ht hW hP9 hK9 hD9⟩, hS.F ht⟩) hS.2.2 dX0_bytes_56
          · refine lv_iconst (v := nI 4) hx hb dX0_bytes_51 (by decide) ?_
            refine lv_goto (tgt := 56) hx hb dX0_bytes_52 (by decide) ?_
            have hP9 := hP.sub (ws' := []) [] rfl
            have hD9 := hD.sub (ws' := []) [] (by decide) rfl
            have hK9 := hK.sub (tys' := []) [] rfl
            exact W.iret (v := (nI 4)) hx hb hr (fun t ht hW => ⟨⟨(nI 4), (), rfl, (by unfold ud_by; repeat (first | rw [if_pos (by omega)] | rw [if_neg (by omega)])), ud_end ht hW hP9 hK9 hD9⟩, hS.F ht⟩) hS.2.2 dX0_bytes_56
        · refine lv_iconst (v := nI 3) hx hb dX0_bytes_40 (by decide) ?_
          refine lv_goto (tgt := 56) hx hb dX0_bytes_41 (by decide) ?_
          have hP9 := hP.sub (ws' := []) [] rfl
          have hD9 := hD.sub (ws' := []) [] (by decide) rfl
          have hK9 := hK.sub (tys' := []) [] rfl
          exact W.iret (v := (nI 3)) hx hb hr (fun t ht hW => ⟨⟨(nI 3), (), rfl, (by unfold ud_by; repeat (first | rw [if_pos (by omega)] | rw [if_neg (by omega)])), ud_end ht hW hP9 hK9 hD9⟩, hS.F ht⟩) hS.2.2 dX0_bytes_56
      · refine lv_iconst (v := nI 2) hx hb dX0_bytes_29 (by decide) ?_
        refine lv_goto (tgt := 56) hx hb dX0_bytes_30 (by decide) ?_
        have hP9 := hP.sub (ws' := []) [] rfl
        have hD9 := hD.sub (ws' := []) [] (by decide) rfl
        have hK9 := hK.sub (tys' := []) [] rfl
        exact W.iret (v := (nI 2)) hx hb hr (fun t ht hW => ⟨⟨(nI 2), (), rfl, (by unfold ud_by; repeat (first | rw [if_pos (by omega)] | rw [if_neg (by omega)])), ud_end ht hW hP9 hK9 hD9⟩, hS.F ht⟩) hS.2.2 dX0_bytes_56
    · refine lv_iconst (v := nI 0) hx hb dX0_bytes_18 (by decide) ?_
      refine lv_goto (tgt := 56) hx hb dX0_bytes_19 (by decide) ?_
      have hP9 := hP.sub (ws' := []) [] rfl
      have hD9 := hD.sub (ws' := []) [] (by decide) rfl
      have hK9 := hK.sub (tys' := []) [] rfl
      exact W.iret (v := (nI 0)) hx hb hr (fun t ht hW => ⟨⟨(nI 0), (), rfl, (by unfold ud_by; repeat (first | rw [if_pos (by omega)] | rw [if_neg (by omega)])), ud_end ht hW hP9 hK9 hD9⟩, hS.F ht⟩) hS.2.2 dX0_bytes_56
  · refine lv_iconst (v := nI 1) hx hb dX0_bytes_7 (by decide) ?_
    refine lv_goto (tgt := 56) hx hb dX0_bytes_8 (by decide) ?_
    have hP9 := hP.sub (ws' := []) [] rfl
    have hD9 := hD.sub (ws' := []) [] (by decide) rfl
    have hK9 := hK.sub (tys' := []) [] rfl
    exact W.iret (v := (nI 1)) hx hb hr (fun t ht hW => ⟨⟨(nI 1), (), rfl, (by unfold ud_by; repeat (first | rw [if_pos (by omega)] | rw [if_neg (by omega)])), ud_end ht hW hP9 hK9 hD9⟩, hS.F ht⟩) hS.2.2 dX0_bytes_56
set_option maxHeartbeats 4000000 in
set_option maxRecDepth 100000 in
theorem ud_X0_needed (l : Launch) (D : va_G) (sz : Nat) (v : Int32) : Met l yX0_needed (ws_ yX0_needed cX0_needed 1 (some .int)) ({ frames := 0, cells := 0, slots := 0, locals := 0 }) (va_Pc [.int v] (ud_W D [] [] sz)) (va_Qi (fun (r : Int32) (u : Unit) => r = ud_ndI v) (fun u t => ud_E D (va_A [] sz) [] [] t) (va_A [] sz)) 0 0 (va_A [] sz) := by
  refine Met.ofW (cc := cX0_needed) (maxL := 1) (ret := (some .int)) (by decide) rfl ?_
  intro p e s m args below meth c s₁ B hml hv
  obtain ⟨rfl, hsz, hP, hK, hD0⟩ := hv
  have hx := B.exec
  have hb := B.bytes
  have hr := B.returns
  have hts := atoms_spec (ws := ws_ yX0_needed cX0_needed 1 (some .int)) B.pre
  have hts : ∀ w ∈ lw_all, w.before _ s = true := fun w h => hts w (List.mem_cons_of_mem _ h)
  have hown : s.vm.findClass RX0 = some m.cls := findClass_of_methodNamed B.named
  have hlocks := B.notSynchronized
  subst hsz
  have hD := hD0.self (sz := s.heap.size)
  generalize hAe : va_A [] s.heap.size = A at hD ⊢
  have hA : ∀ q : Nat, s.heap.size ≤ q → A q := fun q h => by rw [← hAe]; exact Or.inr h
  have hS : va_S A s.heap s.heap [] := va_S.rf
  have hP : va_P D ud_Cl [] s.heap := hP
  have hl := lv_entry ([.int v]) (n := 1) (Nat.le_of_ble_eq_true rfl)
  rw [lg_entry_eq]
  generalize (lg_sl ([.int v]) ++ List.replicate (1 - (lg_sl ([.int v])).length) Slot.unset).toArray = ls at hl ⊢
  have hl : lv_has ls 1 [(0, .int v)] := hl
  refine lv_iload_n hx hb dX0_needed_0 rfl (lv_at hl 0 rfl) ?_
  refine lv_sipush (v := 128) hx hb dX0_needed_1 (by decide) ?_
  refine lv_icmp_ge (tgt := 11) hx hb dX0_needed_4 (by decide) (fun c4 => ?_) (fun c4 => ?_)
  · refine lv_iload_n hx hb dX0_needed_11 rfl (lv_at hl 0 rfl) ?_
    refine lv_sipush (v := 2048) hx hb dX0_needed_12 (by decide) ?_
    refine lv_icmp_ge (tgt := 22) hx hb dX0_needed_15 (by decide) (fun c15 => ?_) (fun c15 => ?_)
    · refine lv_iload_n hx hb dX0_needed_22 rfl (lv_at hl 0 rfl) ?_
      refine lv_ldc hx hb hown (hts _ q90) dX0_needed_23 ?_
      refine lv_icmp_ge (tgt := 32) hx hb dX0_needed_25 (by decide) (fun c25 => ?_) (fun c25 => ?_)
      · refine lv_iconst (v := 4) hx hb dX0_needed_32 (by decide) ?_
        have hP9 := hP.sub (ws' := []) [] rfl
        have hD9 := hD.sub (ws' := []) [] (by decide) rfl
        have hK9 := hK.sub (tys' := []) [] rfl
        exact W.iret (v := 4) hx hb hr (fun t ht hW => ⟨⟨4, (), rfl, (by unfold ud_ndI; repeat (first | rw [if_pos (by assumption)] | rw [if_neg (by assumption)])), ud_end ht hW hP9 hK9 hD9⟩, hS.F ht⟩) hS.2.2 dX0_needed_33
      · refine lv_iconst (v := 3) hx hb dX0_needed_28 (by decide) ?_
        refine lv_goto (tgt := 33) hx hb dX0_needed_29 (by decide) ?_
        have hP9 := hP.sub (ws' := []) [] rfl
        have hD9 := hD.sub (ws' := []) [] (by decide) rfl
        have hK9 := hK.sub (tys' := []) [] rfl
        exact W.iret (v := 3) hx hb hr (fun t ht hW => ⟨⟨3, (), rfl, (by unfold ud_ndI; repeat (first | rw [if_pos (by assumption)] | rw [if_neg (by assumption)])), ud_end ht hW hP9 hK9 hD9⟩, hS.F ht⟩) hS.2.2 dX0_needed_33
    · refine lv_iconst (v := 2) hx hb dX0_needed_18 (by decide) ?_
      refine lv_goto (tgt := 33) hx hb dX0_needed_19 (by decide) ?_
      have hP9 := hP.sub (ws' := []) [] rfl
      have hD9 := hD.sub (ws' := []) [] (by decide) rfl
      have hK9 := hK.sub (tys' := []) [] rfl
      exact W.iret (v := 2) hx hb hr (fun t ht hW => ⟨⟨2, (), rfl, (by unfold ud_ndI; repeat (first | rw [if_pos (by assumption)] | rw [if_neg (by assumption)])), ud_end ht hW hP9 hK9 hD9⟩, hS.F ht⟩) hS.2.2 dX0_needed_33
  · refine lv_iconst (v := 1) hx hb dX0_needed_7 (by decide) ?_
    refine lv_goto (tgt := 33) hx hb dX0_needed_8 (by decide) ?_
    have hP9 := hP.sub (ws' := []) [] rfl
    have hD9 := hD.sub (ws' := []) [] (by decide) rfl
    have hK9 := hK.sub (tys' := []) [] rfl
    exact W.iret (v := 1) hx hb hr (fun t ht hW => ⟨⟨1, (), rfl, (by unfold ud_ndI; repeat (first | rw [if_pos (by assumption)] | rw [if_neg (by assumption)])), ud_end ht hW hP9 hK9 hD9⟩, hS.F ht⟩) hS.2.2 dX0_needed_33
set_option maxHeartbeats 4000000 in
set_option maxRecDepth 100000 in
theorem ud_X1_from (l : Launch) (D : va_G) (sz : Nat) (qd qt qu z : Nat) (md : Int32) (hz : z ≤ 128) (x : Int32) : Met l yX1_from (ws_ yX1_from cX1_from 2 (some .int)) ({ frames := 0, cells := 0, slots := 0, locals := 0 }) (va_Pc [.ref qd, .int x] (ud_W D [(qd, .inr (0, [.ref qt, .int (nI z), .ref qu, .int md]))] [] sz)) (va_Qi (fun (r : Int32) (u : Unit) => r = nI (ud_fM x (z + 1))) (fun u t => ud_E D (va_A [(qd, .inr (0, [.ref qt, .int (nI z), .ref qu, .int md]))] sz) [(qd, .inr (0, [.ref qt, .int (nI z), .ref qu, .int md]))] [] t) (va_A [(qd, .inr (0, [.ref qt, .int (nI z), .ref qu, .int md]))] sz)) 0 0 (va_A [(qd, .inr (0, [.ref qt, .int (nI z), .ref qu, .int md]))] sz) := by
  refine Met.ofW (cc := cX1_from) (maxL := 2) (ret := (some .int)) (by decide) rfl ?_
  intro p e s m args below meth c s₁ B hml hv
  obtain ⟨rfl, hsz, hP, hK, hD0⟩ := hv
  have hx := B.exec
  have hb := B.bytes
  have hr := B.returns
  have hts := atoms_spec (ws := ws_ yX1_from cX1_from 2 (some .int)) B.pre
  have hts : ∀ w ∈ lw_all, w.before _ s = true := fun w h => hts w (List.mem_cons_of_mem _ h)
  have hown : s.vm.findClass RX1 = some m.cls := findClass_of_methodNamed B.named
  have hlocks := B.notSynchronized
  subst hsz
  have hD := hD0.self (sz := s.heap.size)
  generalize hAe : va_A [(qd, .inr (0, [.ref qt, .int (nI z), .ref qu, .int md]))] s.heap.size = A at hD ⊢
  have hA : ∀ q : Nat, s.heap.size ≤ q → A q := fun q h => by rw [← hAe]; exact Or.inr h
  have hS : va_S A s.heap s.heap [] := va_S.rf
  have hP : va_P D ud_Cl [(qd, .inr (0, [.ref qt, .int (nI z), .ref qu, .int md]))] s.heap := hP
  have hl := lv_entry ([.ref qd, .int x]) (n := 2) (Nat.le_of_ble_eq_true rfl)
  rw [lg_entry_eq]
  generalize (lg_sl ([.ref qd, .int x]) ++ List.replicate (2 - (lg_sl ([.ref qd, .int x])).length) Slot.unset).toArray = ls at hl ⊢
  have hl : lv_has ls 2 [(0, .ref qd), (1, .int x)] := hl
  refine lv_iload_n hx hb dX1_from_0 rfl (lv_at hl 1 rfl) ?_
  refine lv_ldc hx hb hown (hts _ q18) dX1_from_1 ?_
  refine lv_iand hx hb dX1_from_3 ?_
  refine lv_aload_n hx hb dX1_from_4 rfl (lv_at hl 0 rfl) ?_
  refine va_get (D := D) (ci := 0) (v := .int (nI z)) (C := RX1) (T := TX1) (N := 4) hx hb hts in_X1 hown hK hP 0 rfl rfl 1 (by decide) (hts _ q34) (fun _ h9 => h9) rfl dX1_from_5 ?_
  refine lv_iconst (v := nI 1) hx hb dX1_from_8 (by decide) ?_
  refine lv_iadd hx hb dX1_from_9 ?_
  refine ud_top (v := nI (z + 1)) (nI_add _ _) ?_
  refine lv_irem hx hb dX1_from_10 (nI_ne0 (by omega) (by omega)) ?_
  refine ud_top (v := nI (ud_fM x (z + 1))) (ud_rem x (by omega) (by omega)) ?_
  have hP9 := hP.sub (ws' := [(qd, .inr (0, [.ref qt, .int (nI z), .ref qu, .int md]))]) [0] rfl
  have hD9 := hD.sub (ws' := [(qd, .inr (0, [.ref qt, .int (nI z), .ref qu, .int md]))]) [0] (by decide) rfl
  have hK9 := hK.sub (tys' := []) [] rfl
  exact W.iret (v := (nI (ud_fM x (z + 1)))) hx hb hr (fun t ht hW => ⟨⟨(nI (ud_fM x (z + 1))), (), rfl, rfl, ud_end ht hW hP9 hK9 hD9⟩, hS.F ht⟩) hS.2.2 dX1_from_11
set_option maxHeartbeats 4000000 in
set_option maxRecDepth 100000 in
theorem ud_X1_count (l : Launch) (D : va_G) (sz : Nat) (qd qt qu z a : Nat) (md : Int32) (hz : z ≤ 128) (ha : a ≤ z) (x : Int32) : Met l yX1_count (ws_ yX1_count cX1_count 3 (some .int)) ({ frames := 0, cells := 0, slots := 0, locals := 0 }) (va_Pc [.ref qd, .int (nI a), .int x] (ud_W D [(qd, .inr (0, [.ref qt, .int (nI z), .ref qu, .int md]))] [] sz)) (va_Qi (fun (r : Int32) (u : Unit) => r = nI (ud_fM x (z - a + 1))) (fun u t => ud_E D (va_A [(qd, .inr (0, [.ref qt, .int (nI z), .ref qu, .int md]))] sz) [(qd, .inr (0, [.ref qt, .int (nI z), .ref qu, .int md]))] [] t) (va_A [(qd, .inr (0, [.ref qt, .int (nI z), .ref qu, .int md]))] sz)) 0 0 (va_A [(qd, .inr (0, [.ref qt, .int (nI z), .ref qu, .int md]))] sz) := by
  refine Met.ofW (cc := cX1_count) (maxL := 3) (ret := (some .int)) (by decide) rfl ?_
  intro p e s m args below meth c s₁ B hml hv
  obtain ⟨rfl, hsz, hP, hK, hD0⟩ := hv
  have hx := B.exec
  have hb := B.bytes
  have hr := B.returns
  have hts := atoms_spec (ws := ws_ yX1_count cX1_count 3 (some .int)) B.pre
  have hts : ∀ w ∈ lw_all, w.before _ s = true := fun w h => hts w (List.mem_cons_of_mem _ h)
  have hown : s.vm.findClass RX1 = some m.cls := findClass_of_methodNamed B.named
  have hlocks := B.notSynchronized
  subst hsz
  have hD := hD0.self (sz := s.heap.size)
  generalize hAe : va_A [(qd, .inr (0, [.ref qt, .int (nI z), .ref qu, .int md]))] s.heap.size = A at hD ⊢
  have hA : ∀ q : Nat, s.heap.size ≤ q → A q := fun q h => by rw [← hAe]; exact Or.inr h
  have hS : va_S A s.heap s.heap [] := va_S.rf
  have hP : va_P D ud_Cl [(qd, .inr (0, [.ref qt, .int (nI z), .ref qu, .int md]))] s.heap := hP
  have hl := lv_entry ([.ref qd, .int (nI a), .int x]) (n := 3) (Nat.le_of_ble_eq_true rfl)
  rw [lg_entry_eq]
  generalize (lg_sl ([.ref qd, .int (nI a), .int x]) ++ List.replicate (3 - (lg_sl ([.ref qd, .int (nI a), .int x])).length) Slot.unset).toArray = ls at hl ⊢
  have hl : lv_has ls 3 [(0, .ref qd), (1, .int (nI a)), (2, .int x)] := hl
  refine lv_iload_n hx hb dX1_count_0 rfl (lv_at hl 2 rfl) ?_
  refine lv_ldc hx hb hown (hts _ q18) dX1_count_1 ?_
  refine lv_iand hx hb dX1_count_3 ?_
  refine lv_aload_n hx hb dX1_count_4 rfl (lv_at hl 0 rfl) ?_
  refine va_get (D := D) (ci := 0) (v := .int (nI z)) (C := RX1) (T := TX1) (N := 4) hx hb hts in_X1 hown hK hP 0 rfl rfl 1 (by decide) (hts _ q34) (fun _ h9 => h9) rfl dX1_count_5 ?_
  refine lv_iload_n hx hb dX1_count_8 rfl (lv_at hl 1 rfl) ?_
  refine lv_isub hx hb dX1_count_9 ?_
  refine ud_top (v := nI (z - a)) (pk_sub ha) ?_
  refine lv_iconst (v := nI 1) hx hb dX1_count_10 (by decide) ?_
  refine lv_iadd hx hb dX1_count_11 ?_
  refine ud_top (v := nI (z - a + 1)) (nI_add _ _) ?_
  refine lv_irem hx hb dX1_count_12 (nI_ne0 (by omega) (by omega)) ?_
  refine ud_top (v := nI (ud_fM x (z - a + 1))) (ud_rem x (by omega) (by omega)) ?_
  have hP9 := hP.sub (ws' := [(qd, .inr (0, [.ref qt, .int (nI z), .ref qu, .int md]))]) [0] rfl
  have hD9 := hD.sub (ws' := [(qd, .inr (0, [.ref qt, .int (nI z), .ref qu, .int md]))]) [0] (by decide) rfl
  have hK9 := hK.sub (tys' := []) [] rfl
  exact W.iret (v := (nI (ud_fM x (z - a + 1)))) hx hb hr (fun t ht hW => ⟨⟨(nI (ud_fM x (z - a + 1))), (), rfl, rfl, ud_end ht hW hP9 hK9 hD9⟩, hS.F ht⟩) hS.2.2 dX1_count_13
set_option maxHeartbeats 4000000 in
set_option maxRecDepth 100000 in
theorem ud_X1_unit (l : Launch) (D : va_G) (sz : Nat) (qd qt qu : Nat) (cC : ClassId) (zz md : Int32) (du : Nat → Int32) (hmd : md = -1 ∨ ∃ n, n ≤ 160 ∧ md = nI n) (x : Int32) : Met l yX1_unit (ws_ yX1_unit cX1_unit 2 (some .int)) ({ frames := 0, cells := 0, slots := 0, locals := 0 }) (va_Pc [.ref qd, .int x] (ud_W D [(qd, .inr (0, [.ref qt, .int zz, .ref qu, .int md])), (qu, .inl (cC, 160, .inl du))] [(cC, .char)] sz)) (va_Qi (fun (r : Int32) (u : Unit) => r = ud_ut md du x) (fun u t => ud_E D (va_A [(qd, .inr (0, [.ref qt, .int zz, .ref qu, .int md])), (qu, .inl (cC, 160, .inl du))] sz) [(qd, .inr (0, [.ref qt, .int zz, .ref qu, .int md])), (qu, .inl (cC, 160, .inl du))] [(cC, .char)] t) (va_A [(qd, .inr (0, [.ref qt, .int zz, .ref qu, .int md])), (qu, .inl (cC, 160, .inl du))] sz)) 0 0 (va_A [(qd, .inr (0, [.ref qt, .int zz, .ref qu, .int md])), (qu, .inl (cC, 160, .inl du))] sz) := by
  refine Met.ofW (cc := cX1_unit) (maxL := 2) (ret := (some .int)) (by decide) rfl ?_
  intro p e s m args below meth c s₁ B hml hv
  obtain ⟨rfl, hsz, hP, hK, hD0⟩ := hv
  have hx := B.exec
  have hb := B.bytes
  have hr := B.returns
  have hts := atoms_spec (ws := ws_ yX1_unit cX1_unit 2 (some .int)) B.pre
  have hts : ∀ w ∈ lw_all, w.before _ s = true := fun w h => hts w (List.mem_cons_of_mem _ h)
  have hown : s.vm.findClass RX1 = some m.cls := findClass_of_methodNamed B.named
  have hlocks := B.notSynchronized
  subst hsz
  have hD := hD0.self (sz := s.heap.size)
  generalize hAe : va_A [(qd, .inr (0, [.ref qt, .int zz, .ref qu, .int md])), (qu, .inl (cC, 160, .inl du))] s.heap.size = A at hD ⊢
  have hA : ∀ q : Nat, s.heap.size ≤ q → A q := fun q h => by rw [← hAe]; exact Or.inr h
  have hS : va_S A s.heap s.heap [] := va_S.rf
  have hP : va_P D ud_Cl [(qd, .inr (0, [.ref qt, .int zz, .ref qu, .int md])), (qu, .inl (cC, 160, .inl du))] s.heap := hP
  have hl := lv_entry ([.ref qd, .int x]) (n := 2) (Nat.le_of_ble_eq_true rfl)
  rw [lg_entry_eq]
  generalize (lg_sl ([.ref qd, .int x]) ++ List.replicate (2 - (lg_sl ([.ref qd, .int x])).length) Slot.unset).toArray = ls at hl ⊢
  have hl : lv_has ls 2 [(0, .ref qd), (1, .int x)] := hl
  refine lv_aload_n hx hb dX1_unit_0 rfl (lv_at hl 0 rfl) ?_
  refine va_get (D := D) (ci := 0) (v := .int md) (C := RX1) (T := TX1) (N := 4) hx hb hts in_X1 hown hK hP 0 rfl rfl 3 (by decide) (hts _ q36) (fun _ h9 => h9) rfl dX1_unit_1 ?_
  refine lv_if_gt (tgt := 11) hx hb dX1_unit_4 (by decide) (fun c4 => ?_) (fun c4 => ?_)
  · obtain ⟨n, hn, hmn⟩ : ∃ n, n ≤ 160 ∧ md = nI n := by
      rcases hmd with q | q
      · rw [q] at c4; exact absurd c4 (by decide)
      · exact q
    have hn0 : 0 < n := Nat.pos_of_ne_zero (fun q => by rw [hmn, q] at c4; exact absurd c4 (by decide))
    refine lv_aload_n hx hb dX1_unit_11 rfl (lv_at hl 0 rfl) ?_
    refine va_get (D := D) (ci := 0) (v := .ref qu) (C := RX1) (T := TX1) (N := 4) hx hb hts in_X1 hown hK hP 0 rfl rfl 2 (by decide) (hts _ q35) (fun _ h9 => h9) rfl dX1_unit_12 ?_
    refine lv_iload_n hx hb dX1_unit_15 rfl (lv_at hl 1 rfl) ?_
    refine lv_ldc hx hb hown (hts _ q18) dX1_unit_16 ?_
    refine lv_iand hx hb dX1_unit_18 ?_
    refine lv_aload_n hx hb dX1_unit_19 rfl (lv_at hl 0 rfl) ?_
    refine va_get (D := D) (ci := 0) (v := .int md) (C := RX1) (T := TX1) (N := 4) hx hb hts in_X1 hown hK hP 0 rfl rfl 3 (by decide) (hts _ q36) (fun _ h9 => h9) rfl dX1_unit_20 ?_
    refine ud_top (v := nI n) hmn ?_
    refine lv_irem hx hb dX1_unit_23 (nI_ne0 hn0 (by omega)) ?_
    refine ud_top (v := nI (ud_fM x n)) (ud_rem x hn0 (by omega)) ?_
    refine ud_cald hx hb hK hP 1 0 rfl rfl (by have := ud_fM_lt x hn0; omega) (by decide) dX1_unit_24 ?_
    have hP9 := hP.sub (ws' := [(qd, .inr (0, [.ref qt, .int zz, .ref qu, .int md])), (qu, .inl (cC, 160, .inl du))]) [0, 1] rfl
    have hD9 := hD.sub (ws' := [(qd, .inr (0, [.ref qt, .int zz, .ref qu, .int md])), (qu, .inl (cC, 160, .inl du))]) [0, 1] (by decide) rfl
    have hK9 := hK.sub (tys' := [(cC, .char)]) [0] rfl
    exact W.iret (v := (du (ud_fM x n))) hx hb hr (fun t ht hW => ⟨⟨(du (ud_fM x n)), (), rfl, by unfold ud_ut; rw [if_pos c4, hmn, nI_clamp (by omega)], ud_end ht hW hP9 hK9 hD9⟩, hS.F ht⟩) hS.2.2 dX1_unit_25
  · refine lv_iconst (v := (-1)) hx hb dX1_unit_7 (by decide) ?_
    refine lv_goto (tgt := 25) hx hb dX1_unit_8 (by decide) ?_
    have hP9 := hP.sub (ws' := [(qd, .inr (0, [.ref qt, .int zz, .ref qu, .int md])), (qu, .inl (cC, 160, .inl du))]) [0, 1] rfl
    have hD9 := hD.sub (ws' := [(qd, .inr (0, [.ref qt, .int zz, .ref qu, .int md])), (qu, .inl (cC, 160, .inl du))]) [0, 1] (by decide) rfl
    have hK9 := hK.sub (tys' := [(cC, .char)]) [0] rfl
    exact W.iret (v := (-1)) hx hb hr (fun t ht hW => ⟨⟨(-1), (), rfl, by unfold ud_ut; rw [if_neg c4], ud_end ht hW hP9 hK9 hD9⟩, hS.F ht⟩) hS.2.2 dX1_unit_25
set_option maxHeartbeats 4000000 in
set_option maxRecDepth 100000 in
theorem ud_X1_set (l : Launch) (D : va_G) (sz : Nat) (qd qt qu z : Nat) (cB : ClassId) (md : Int32) (f : Nat → Int32) (hz : z ≤ 128) (x v : Int32) : Met l yX1_set (ws_ yX1_set cX1_set 3 (some .boolean)) ({ frames := 0, cells := 0, slots := 0, locals := 0 }) (va_Pc [.ref qd, .int x, .int v] (ud_W D [(qd, .inr (0, [.ref qt, .int (nI z), .ref qu, .int md])), (qt, .inl (cB, 128, .inl f))] [(cB, .byte)] sz)) (va_Qi (fun (r : Int32) (u : Nat → Int32) => (z = 0 → r = 0 ∧ u = f) ∧ (0 < z → r = 1 ∧ u = upd f (ud_fM x z) v.toInt8.toInt32)) (fun u t => ud_E D (va_A [(qd, .inr (0, [.ref qt, .int (nI z), .ref qu, .int md])), (qt, .inl (cB, 128, .inl f))] sz) [(qd, .inr (0, [.ref qt, .int (nI z), .ref qu, .int md])), (qt, .inl (cB, 128, .inl u))] [(cB, .byte)] t) (va_A [(qd, .inr (0, [.ref qt, .int (nI z), .ref qu, .int md])), (qt, .inl (cB, 128, .inl f))] sz)) 0 0 (va_A [(qd, .inr (0, [.ref qt, .int (nI z), .ref qu, .int md])), (qt, .inl (cB, 128, .inl f))] sz) := by
  refine Met.ofW (cc := cX1_set) (maxL := 3) (ret := (some .boolean)) (by decide) rfl ?_
  intro p e s m args below meth c s₁ B hml hv
  obtain ⟨rfl, hsz, hP, hK, hD0⟩ := hv
  have hx := B.exec
  have hb := B.bytes
  have hr := B.returns
  have hts := atoms_spec (ws := ws_ yX1_set cX1_set 3 (some .boolean)) B.pre
  have hts : ∀ w ∈ lw_all, w.before _ s = true := fun w h => hts w (List.mem_cons_of_mem _ h)
  have hown : s.vm.findClass RX1 = some m.cls := findClass_of_methodNamed B.named
  have hlocks := B.notSynchronized
  subst hsz
  have hD := hD0.self (sz := s.heap.size)
  generalize hAe : va_A [(qd, .inr (0, [.ref qt, .int (nI z), .ref qu, .int md])), (qt, .inl (cB, 128, .inl f))] s.heap.size = A at hD ⊢
  have hA : ∀ q : Nat, s.heap.size ≤ q → A q := fun q h => by rw [← hAe]; exact Or.inr h
  have hS : va_S A s.heap s.heap [] := va_S.rf
  have hP : va_P D ud_Cl [(qd, .inr (0, [.ref qt, .int (nI z), .ref qu, .int md])), (qt, .inl (cB, 128, .inl f))] s.heap := hP
  have hl := lv_entry ([.ref qd, .int x, .int v]) (n := 3) (Nat.le_of_ble_eq_true rfl)
  rw [lg_entry_eq]
  generalize (lg_sl ([.ref qd, .int x, .int v]) ++ List.replicate (3 - (lg_sl ([.ref qd, .int x, .int v])).length) Slot.unset).toArray = ls at hl ⊢
  have hl : lv_has ls 3 [(0, .ref qd), (1, .int x), (2, .int v)] := hl
  refine lv_aload_n hx hb dX1_set_0 rfl (lv_at hl 0 rfl) ?_
  refine va_get (D := D) (ci := 0) (v := .int (nI z)) (C := RX1) (T := TX1) (N := 4) hx hb hts in_X1 hown hK hP 0 rfl rfl 1 (by decide) (hts _ q34) (fun _ h9 => h9) rfl dX1_set_1 ?_
  refine ud_ifne (tgt := 9) hx hb dX1_set_4 (by decide) (by omega) (fun c4 => ?_) (fun c4 => ?_)
  · refine lv_aload_n hx hb dX1_set_9 rfl (lv_at hl 0 rfl) ?_
    refine va_get (D := D) (ci := 0) (v := .ref qt) (C := RX1) (T := TX1) (N := 4) hx hb hts in_X1 hown hK hP 0 rfl rfl 0 (by decide) (hts _ q33) (fun _ h9 => h9) rfl dX1_set_10 ?_
    refine lv_iload_n hx hb dX1_set_13 rfl (lv_at hl 1 rfl) ?_
    refine lv_ldc hx hb hown (hts _ q18) dX1_set_14 ?_
    refine lv_iand hx hb dX1_set_16 ?_
    refine lv_aload_n hx hb dX1_set_17 rfl (lv_at hl 0 rfl) ?_
    refine va_get (D := D) (ci := 0) (v := .int (nI z)) (C := RX1) (T := TX1) (N := 4) hx hb hts in_X1 hown hK hP 0 rfl rfl 1 (by decide) (hts _ q34) (fun _ h9 => h9) rfl dX1_set_18 ?_
    refine lv_irem hx hb dX1_set_21 (nI_ne0 c4 (by omega)) ?_
    refine ud_top (v := nI (ud_fM x z)) (ud_rem x c4 (by omega)) ?_
    refine lv_iload_n hx hb dX1_set_22 rfl (lv_at hl 2 rfl) ?_
    refine lv_i2b (v := v.toInt8.toInt32) hx hb dX1_set_23 rfl ?_
    refine ud_bast hx hb hK hP hD hS 1 0 rfl rfl (upd f (ud_fM x z) v.toInt8.toInt32) (by have := ud_fM_lt x c4; omega) (by decide) (ud_bb v) rfl dX1_set_24 (fun H locs hP hD hS => ?_)
    have hP : va_P D ud_Cl [(qd, .inr (0, [.ref qt, .int (nI z), .ref qu, .int md])), (qt, .inl (cB, 128, .inl (upd f (ud_fM x z) v.toInt8.toInt32)))] H := hP
    have hD : va_D A [(qd, .inr (0, [.ref qt, .int (nI z), .ref qu, .int md])), (qt, .inl (cB, 128, .inl (upd f (ud_fM x z) v.toInt8.toInt32)))] := hD
    refine lv_iconst (v := 1) hx hb dX1_set_25 (by decide) ?_
    have hP9 := hP.sub (ws' := [(qd, .inr (0, [.ref qt, .int (nI z), .ref qu, .int md])), (qt, .inl (cB, 128, .inl (upd f (ud_fM x z) v.toInt8.toInt32)))]) [0, 1] rfl
    have hD9 := hD.sub (ws' := [(qd, .inr (0, [.ref qt, .int (nI z), .ref qu, .int md])), (qt, .inl (cB, 128, .inl (upd f (ud_fM x z) v.toInt8.toInt32)))]) [0, 1] (by decide) rfl
    have hK9 := hK.sub (tys' := [(cB, .byte)]) [0] rfl
    exact W.zret (v := 1) hx hb hr rfl (fun t ht hW => ⟨⟨1, (upd f (ud_fM x z) v.toInt8.toInt32), rfl, ⟨fun q => absurd q (by omega), fun _ => ⟨rfl, rfl⟩⟩, ud_end ht hW hP9 hK9 hD9⟩, hS.F ht⟩) hS.2.2 dX1_set_26
  · refine lv_iconst (v := 0) hx hb dX1_set_7 (by decide) ?_
    have hP9 := hP.sub (ws' := [(qd, .inr (0, [.ref qt, .int (nI z), .ref qu, .int md])), (qt, .inl (cB, 128, .inl f))]) [0, 1] rfl
    have hD9 := hD.sub (ws' := [(qd, .inr (0, [.ref qt, .int (nI z), .ref qu, .int md])), (qt, .inl (cB, 128, .inl f))]) [0, 1] (by decide) rfl
    have hK9 := hK.sub (tys' := [(cB, .byte)]) [0] rfl
    exact W.zret (v := 0) hx hb hr rfl (fun t ht hW => ⟨⟨0, f, rfl, ⟨fun _ => ⟨rfl, rfl⟩, fun q => absurd q (by omega)⟩, ud_end ht hW hP9 hK9 hD9⟩, hS.F ht⟩) hS.2.2 dX1_set_8
set_option maxHeartbeats 4000000 in
set_option maxRecDepth 100000 in
theorem ud_X1_trim (l : Launch) (D : va_G) (sz : Nat) (qd qt qu z : Nat) (md : Int32) (hz : z ≤ 128) (x : Int32) : Met l yX1_trim (ws_ yX1_trim cX1_trim 2 none) ({ frames := 1, cells := 0, slots := 0, locals := 21 }) (va_Pc [.ref qd, .int x] (ud_W D [(qd, .inr (0, [.ref qt, .int (nI z), .ref qu, .int md]))] [] sz)) (va_Qv (fun (u : Unit) => True) (fun u t => ud_E D (va_A [(qd, .inr (0, [.ref qt, .int (nI z), .ref qu, .int md]))] sz) [(qd, .inr (0, [.ref qt, .int (nI (ud_fM x (z + 1))), .ref qu, .int md]))] [] t) (va_A [(qd, .inr (0, [.ref qt, .int (nI z), .ref qu, .int md]))] sz)) 0 0 (va_A [(qd, .inr (0, [.ref qt, .int (nI z), .ref qu, .int md]))] sz) := by
  refine Met.ofW (cc := cX1_trim) (maxL := 2) (ret := none) (by decide) rfl ?_
  intro p e s m args below meth c s₁ B hml hv
  obtain ⟨rfl, hsz, hP, hK, hD0⟩ := hv
  have hx := B.exec
  have hb := B.bytes
  have hr := B.returns
  have hts := atoms_spec (ws := ws_ yX1_trim cX1_trim 2 none) B.pre
  have hts : ∀ w ∈ lw_all, w.before _ s = true := fun w h => hts w (List.mem_cons_of_mem _ h)
  have hown : s.vm.findClass RX1 = some m.cls := findClass_of_methodNamed B.named
  have hlocks := B.notSynchronized
  subst hsz
  have hD := hD0.self (sz := s.heap.size)
  generalize hAe : va_A [(qd, .inr (0, [.ref qt, .int (nI z), .ref qu, .int md]))] s.heap.size = A at hD ⊢
  have hA : ∀ q : Nat, s.heap.size ≤ q → A q := fun q h => by rw [← hAe]; exact Or.inr h
  have hS : va_S A s.heap s.heap [] := va_S.rf
  have hP : va_P D ud_Cl [(qd, .inr (0, [.ref qt, .int (nI z), .ref qu, .int md]))] s.heap := hP
  have hl := lv_entry ([.ref qd, .int x]) (n := 2) (Nat.le_of_ble_eq_true rfl)
  rw [lg_entry_eq]
  generalize (lg_sl ([.ref qd, .int x]) ++ List.replicate (2 - (lg_sl ([.ref qd, .int x])).length) Slot.unset).toArray = ls at hl ⊢
  have hl : lv_has ls 2 [(0, .ref qd), (1, .int x)] := hl
  refine lv_aload_n hx hb dX1_trim_0 rfl (lv_at hl 0 rfl) ?_
  refine lv_aload_n hx hb dX1_trim_1 rfl (lv_at hl 0 rfl) ?_
  refine lv_iload_n hx hb dX1_trim_2 rfl (lv_at hl 1 rfl) ?_
  have hPc := hP.sub (ws' := [(qd, .inr (0, [.ref qt, .int (nI z), .ref qu, .int md]))]) [0] rfl
  have hDc := hD.sub (ws' := [(qd, .inr (0, [.ref qt, .int (nI z), .ref qu, .int md]))]) [0] (by decide) rfl
  have hKc := hK.sub (tys' := []) [] rfl
  have hFc := va_free (wc := [(qd, .inr (0, [.ref qt, .int (nI z), .ref qu, .int md]))]) hD hS hA [0] rfl
  refine va_calli (va_runV (As := [.int x]) (rest := [.ref qd]) ⟨hx, hb, hml, hown, hts⟩ (ud_X1_from l D s.heap.size qd qt qu z md hz x) (cwV 1 hts (lw_V q104 q106 qs4 q12 q107) rfl rfl rfl (by decide +kernel) ⟨Nat.le_of_ble_eq_true rfl, Nat.le_of_ble_eq_true rfl⟩) ⟨ud_fb, va_recv hKc hPc (ci := 0) (q0 := 0) rfl rfl, fun U hU hW => ⟨rfl, ud_go hPc hKc hDc U hU hW⟩⟩ rfl rfl hl.1 rfl (lv_room (Nat.le_of_ble_eq_true rfl)) dX1_trim_3 ⟨Nat.le_of_ble_eq_true rfl, Nat.le_of_ble_eq_true rfl⟩) hS (fun q _ h => hFc q h) hFc (fun r u t H1 locs ht hvm hw hB hz1 hk1 hS => ?_)
  obtain ⟨hP1, hK1, hD1⟩ := hB
  rw [ht] at hP1
  obtain ⟨hP, hD⟩ := va_join (wr := []) (w1 := [(qd, .inr (0, [.ref qt, .int (nI z), .ref qu, .int md]))]) hP hD [0] [] rfl rfl (by decide) (by decide) hk1 hFc hP1 hD1
  generalize H1 = H at hP hS ⊢
  have hP : va_P D ud_Cl [(qd, .inr (0, [.ref qt, .int (nI z), .ref qu, .int md]))] H := hP
  have hD : va_D A [(qd, .inr (0, [.ref qt, .int (nI z), .ref qu, .int md]))] := hD
  subst hw
  refine va_put (D := D) (ci := 0) (v := .int (nI (ud_fM x (z + 1)))) (ty := .int) (C := RX1) (T := TX1) (N := 4) hx hb hts in_X1 tyX1 tyX1_ok nmX1 hown hK hP hD hS 0 rfl rfl 1 (by decide) (hts _ q34) (fun _ h9 => h9) rfl (by decide +kernel) rfl rfl (Nat.le_of_ble_eq_true rfl) dX1_trim_6 (fun H locs hP hD hS => ?_)
  have hP : va_P D ud_Cl [(qd, .inr (0, [.ref qt, .int (nI (ud_fM x (z + 1))), .ref qu, .int md]))] H := hP
  have hD : va_D A [(qd, .inr (0, [.ref qt, .int (nI (ud_fM x (z + 1))), .ref qu, .int md]))] := hD
  have hP9 := hP.sub (ws' := [(qd, .inr (0, [.ref qt, .int (nI (ud_fM x (z + 1))), .ref qu, .int md]))]) [0] rfl
  have hD9 := hD.sub (ws' := [(qd, .inr (0, [.ref qt, .int (nI (ud_fM x (z + 1))), .ref qu, .int md]))]) [0] (by decide) rfl
  have hK9 := hK.sub (tys' := []) [] rfl
  exact W.vret hx hb hr (fun t ht hW => ⟨⟨(), rfl, trivial, ud_end ht hW hP9 hK9 hD9⟩, hS.F ht⟩) hS.2.2 dX1_trim_9
set_option maxHeartbeats 4000000 in
set_option maxRecDepth 100000 in
theorem ud_X1_word (l : Launch) (D : va_G) (sz : Nat) (qt a : Nat) (cB : ClassId) (f : Nat → Int32) (ha : a + 4 ≤ 128) (w : Int32) : Met l yX1_word (ws_ yX1_word cX1_word 3 none) ({ frames := 0, cells := 0, slots := 0, locals := 0 }) (va_Pc [.ref qt, .int (nI a), .int w] (ud_W D [(qt, .inl (cB, 128, .inl f))] [(cB, .byte)] sz)) (va_Qv (fun (u : Unit) => True) (fun u t => ud_E D (va_A [(qt, .inl (cB, 128, .inl f))] sz) [(qt, .inl (cB, 128, .inl (ud_wP f a w)))] [(cB, .byte)] t) (va_A [(qt, .inl (cB, 128, .inl f))] sz)) 0 0 (va_A [(qt, .inl (cB, 128, .inl f))] sz) := by
  refine Met.ofW (cc := cX1_word) (maxL := 3) (ret := none) (by decide) rfl ?_
  intro p e s m args below meth c s₁ B hml hv
  obtain ⟨rfl, hsz, hP, hK, hD0⟩ := hv
  have hx := B.exec
  have hb := B.bytes
  have hr := B.returns
  have hts := atoms_spec (ws := ws_ yX1_word cX1_word 3 none) B.pre
  have hts : ∀ w ∈ lw_all, w.before _ s = true := fun w h => hts w (List.mem_cons_of_mem _ h)
  have hown : s.vm.findClass RX1 = some m.cls := findClass_of_methodNamed B.named
  have hlocks := B.notSynchronized
  subst hsz
  have hD := hD0.self (sz := s.heap.size)
  generalize hAe : va_A [(qt, .inl (cB, 128, .inl f))] s.heap.size = A at hD ⊢
  have hA : ∀ q : Nat, s.heap.size ≤ q → A q := fun q h => by rw [← hAe]; exact Or.inr h
  have hS : va_S A s.heap s.heap [] := va_S.rf
  have hP : va_P D ud_Cl [(qt, .inl (cB, 128, .inl f))] s.heap := hP
  have hl := lv_entry ([.ref qt, .int (nI a), .int w]) (n := 3) (Nat.le_of_ble_eq_true rfl)
  rw [lg_entry_eq]
  generalize (lg_sl ([.ref qt, .int (nI a), .int w]) ++ List.replicate (3 - (lg_sl ([.ref qt, .int (nI a), .int w])).length) Slot.unset).toArray = ls at hl ⊢
  have hl : lv_has ls 3 [(0, .ref qt), (1, .int (nI a)), (2, .int w)] := hl
  refine lv_aload_n hx hb dX1_word_0 rfl (lv_at hl 0 rfl) ?_
  refine lv_iload_n hx hb dX1_word_1 rfl (lv_at hl 1 rfl) ?_
  refine lv_iload_n hx hb dX1_word_2 rfl (lv_at hl 2 rfl) ?_
  refine lv_bipush (v := 24) hx hb dX1_word_3 (by decide) ?_
  refine lv_ishr hx hb dX1_word_5 ?_
  refine lv_i2b (v := (w >>> (24 &&& 31)).toInt8.toInt32) hx hb dX1_word_6 rfl ?_
  refine ud_bast hx hb hK hP hD hS 0 0 rfl rfl (upd f a ((w >>> (24 &&& 31)).toInt8.toInt32)) (by omega) (by decide) (ud_bb _) rfl dX1_word_7 (fun H locs hP hD hS => ?_)
  have hP : va_P D ud_Cl [(qt, .inl (cB, 128, .inl (upd f a ((w >>> (24 &&& 31)).toInt8.toInt32))))] H := hP
  have hD : va_D A [(qt, .inl (cB, 128, .inl (upd f a ((w >>> (24 &&& 31)).toInt8.toInt32))))] := hD
  refine lv_aload_n hx hb dX1_word_8 rfl (lv_at hl 0 rfl) ?_
  refine lv_iload_n hx hb dX1_word_9 rfl (lv_at hl 1 rfl) ?_
  refine lv_iconst (v := nI 1) hx hb dX1_word_10 (by decide) ?_
  refine lv_iadd hx hb dX1_word_11 ?_
  refine ud_top (v := nI (a + 1)) (nI_add _ _) ?_
  refine lv_iload_n hx hb dX1_word_12 rfl (lv_at hl 2 rfl) ?_
  refine lv_bipush (v := 16) hx hb dX1_word_13 (by decide) ?_
  refine lv_ishr hx hb dX1_word_15 ?_
  refine lv_i2b (v := (w >>> (16 &&& 31)).toInt8.toInt32) hx hb dX1_word_16 rfl ?_
  refine ud_bast hx hb hK hP hD hS 0 0 rfl rfl (upd (upd f a ((w >>> (24 &&& 31)).toInt8.toInt32)) (a + 1) ((w >>> (16 &&& 31)).toInt8.toInt32)) (by omega) (by decide) (ud_bb _) rfl dX1_word_17 (fun H locs hP hD hS => ?_)
  have hP : va_P D ud_Cl [(qt, .inl (cB, 128, .inl (upd (upd f a ((w >>> (24 &&& 31)).toInt8.toInt32)) (a + 1) ((w >>> (16 &&& 31)).toInt8.toInt32))))] H := hP
  have hD : va_D A [(qt, .inl (cB, 128, .inl (upd (upd f a ((w >>> (24 &&& 31)).toInt8.toInt32)) (a + 1) ((w >>> (16 &&& 31)).toInt8.toInt32))))] := hD
  refine lv_aload_n hx hb dX1_word_18 rfl (lv_at hl 0 rfl) ?_
  refine lv_iload_n hx hb dX1_word_19 rfl (lv_at hl 1 rfl) ?_
  refine lv_iconst (v := nI 2) hx hb dX1_word_20 (by decide) ?_
  refine lv_iadd hx hb dX1_word_21 ?_
  refine ud_top (v := nI (a + 2)) (nI_add _ _) ?_
  refine lv_iload_n hx hb dX1_word_22 rfl (lv_at hl 2 rfl) ?_
  refine lv_bipush (v := 8) hx hb dX1_word_23 (by decide) ?_
  refine lv_ishr hx hb dX1_word_25 ?_
  refine lv_i2b (v := (w >>> (8 &&& 31)).toInt8.toInt32) hx hb dX1_word_26 rfl ?_
  refine ud_bast hx hb hK hP hD hS 0 0 rfl rfl (upd (upd (upd f a ((w >>> (24 &&& 31)).toInt8.toInt32)) (a + 1) ((w >>> (16 &&& 31)).toInt8.toInt32)) (a + 2) ((w >>> (8 &&& 31)).toInt8.toInt32)) (by omega) (by decide) (ud_bb _) rfl dX1_word_27 (fun H locs hP hD hS => ?_)
  have hP : va_P D ud_Cl [(qt, .inl (cB, 128, .inl (upd (upd (upd f a ((w >>> (24 &&& 31)).toInt8.toInt32)) (a + 1) ((w >>> (16 &&& 31)).toInt8.toInt32)) (a + 2) ((w >>> (8 &&& 31)).toInt8.toInt32))))] H := hP
  have hD : va_D A [(qt, .inl (cB, 128, .inl (upd (upd (upd f a ((w >>> (24 &&& 31)).toInt8.toInt32)) (a + 1) ((w >>> (16 &&& 31)).toInt8.toInt32)) (a + 2) ((w >>> (8 &&& 31)).toInt8.toInt32))))] := hD
  refine lv_aload_n hx hb dX1_word_28 rfl (lv_at hl 0 rfl) ?_
  refine lv_iload_n hx hb dX1_word_29 rfl (lv_at hl 1 rfl) ?_
  refine lv_iconst (v := nI 3) hx hb dX1_word_30 (by decide) ?_
  refine lv_iadd hx hb dX1_word_31 ?_
  refine ud_top (v := nI (a + 3)) (nI_add _ _) ?_
  refine lv_iload_n hx hb dX1_word_32 rfl (lv_at hl 2 rfl) ?_
  refine lv_i2b (v := w.toInt8.toInt32) hx hb dX1_word_33 rfl ?_
  refine ud_bast hx hb hK hP hD hS 0 0 rfl rfl (ud_wP f a w) (by omega) (by decide) (ud_bb _) rfl dX1_word_34 (fun H locs hP hD hS => ?_)
  have hP : va_P D ud_Cl [(qt, .inl (cB, 128, .inl (ud_wP f a w)))] H := hP
  have hD : va_D A [(qt, .inl (cB, 128, .inl (ud_wP f a w)))] := hD
  have hP9 := hP.sub (ws' := [(qt, .inl (cB, 128, .inl (ud_wP f a w)))]) [0] rfl
  have hD9 := hD.sub (ws' := [(qt, .inl (cB, 128, .inl (ud_wP f a w)))]) [0] (by decide) rfl
  have hK9 := hK.sub (tys' := [(cB, .byte)]) [0] rfl
  exact W.vret hx hb hr (fun t ht hW => ⟨⟨(), rfl, trivial, ud_end ht hW hP9 hK9 hD9⟩, hS.F ht⟩) hS.2.2 dX1_word_35
set_option maxHeartbeats 4000000 in
set_option maxRecDepth 100000 in
theorem ud_X1_put (l : Launch) (D : va_G) (sz : Nat) (qd qt qu z : Nat) (cB : ClassId) (md : Int32) (f : Nat → Int32) (hz : z ≤ 128) (wa wb wc wd : Int32) : Met l yX1_put (ws_ yX1_put cX1_put 5 (some .boolean)) ({ frames := 1, cells := 0, slots := 0, locals := 22 }) (va_Pc [.ref qd, .int wa, .int wb, .int wc, .int wd] (ud_W D [(qd, .inr (0, [.ref qt, .int (nI z), .ref qu, .int md])), (qt, .inl (cB, 128, .inl f))] [(cB, .byte)] sz)) (va_Qi (fun (r : Int32) (u : Nat × (Nat → Int32)) => (z ≤ 112 → r = 1 ∧ u = (z + 16, ud_pP f z (ud_W4 wa wb wc wd) 16)) ∧ (112 < z → r = 0 ∧ u = (z, f))) (fun u t => ud_E D (va_A [(qd, .inr (0, [.ref qt, .int (nI z), .ref qu, .int md])), (qt, .inl (cB, 128, .inl f))] sz) [(qd, .inr (0, [.ref qt, .int (nI u.1), .ref qu, .int md])), (qt, .inl (cB, 128, .inl u.2))] [(cB, .byte)] t) (va_A [(qd, .inr (0, [.ref qt, .int (nI z), .ref qu, .int md])), (qt, .inl (cB, 128, .inl f))] sz)) 0 0 (va_A [(qd, .inr (0, [.ref qt, .int (nI z), .ref qu, .int md])), (qt, .inl (cB, 128, .inl f))] sz) := by
  refine Met.ofW (cc := cX1_put) (maxL := 5) (ret := (some .boolean)) (by decide) rfl ?_
  intro p e s m args below meth c s₁ B hml hv
  obtain ⟨rfl, hsz, hP, hK, hD0⟩ := hv
  have hx := B.exec
  have hb := B.bytes
  have hr := B.returns
  have hts := atoms_spec (ws := ws_ yX1_put cX1_put 5 (some .boolean)) B.pre
  have hts : ∀ w ∈ lw_all, w.before _ s = true := fun w h => hts w (List.mem_cons_of_mem _ h)
  have hown : s.vm.findClass RX1 = some m.cls := findClass_of_methodNamed B.named
  have hlocks := B.notSynchronized
  subst hsz
  have hD := hD0.self (sz := s.heap.size)
  generalize hAe : va_A [(qd, .inr (0, [.ref qt, .int (nI z), .ref qu, .int md])), (qt, .inl (cB, 128, .inl f))] s.heap.size = A at hD ⊢
  have hA : ∀ q : Nat, s.heap.size ≤ q → A q := fun q h => by rw [← hAe]; exact Or.inr h
  have hS : va_S A s.heap s.heap [] := va_S.rf
  have hP : va_P D ud_Cl [(qd, .inr (0, [.ref qt, .int (nI z), .ref qu, .int md])), (qt, .inl (cB, 128, .inl f))] s.heap := hP
  have hl := lv_entry ([.ref qd, .int wa, .int wb, .int wc, .int wd]) (n := 5) (Nat.le_of_ble_eq_true rfl)
  rw [lg_entry_eq]
  generalize (lg_sl ([.ref qd, .int wa, .int wb, .int wc, .int wd]) ++ List.replicate (5 - (lg_sl ([.ref qd, .int wa, .int wb, .int wc, .int wd])).length) Slot.unset).toArray = ls at hl ⊢
  have hl : lv_has ls 5 [(0, .ref qd), (1, .int wa), (2, .int wb), (3, .int wc), (4, .int wd)] := hl
  refine lv_aload_n hx hb dX1_put_0 rfl (lv_at hl 0 rfl) ?_
  refine va_get (D := D) (ci := 0) (v := .int (nI z)) (C := RX1) (T := TX1) (N := 4) hx hb hts in_X1 hown hK hP 0 rfl rfl 1 (by decide) (hts _ q34) (fun _ h9 => h9) rfl dX1_put_1 ?_
  refine lv_aload_n hx hb dX1_put_4 rfl (lv_at hl 0 rfl) ?_
  refine va_get (D := D) (ci := 0) (v := .ref qt) (C := RX1) (T := TX1) (N := 4) hx hb hts in_X1 hown hK hP 0 rfl rfl 0 (by decide) (hts _ q33) (fun _ h9 => h9) rfl dX1_put_5 ?_
  refine va_alen (v := nI 128) hx hb hK hP 1 0 rfl rfl rfl dX1_put_8 ?_
  refine lv_bipush (v := nI 16) hx hb dX1_put_9 (by decide) ?_
  refine lv_isub hx hb dX1_put_11 ?_
  refine ud_top (v := nI 112) (pk_sub (a := 128) (b := 16) (by decide)) ?_
  refine ud_le (tgt := 17) hx hb dX1_put_12 (by decide) (by omega) (by decide) (fun c12 => ?_) (fun c12 => ?_)
  · refine lv_aload_n hx hb dX1_put_17 rfl (lv_at hl 0 rfl) ?_
    refine va_get (D := D) (ci := 0) (v := .ref qt) (C := RX1) (T := TX1) (N := 4) hx hb hts in_X1 hown hK hP 0 rfl rfl 0 (by decide) (hts _ q33) (fun _ h9 => h9) rfl dX1_put_18 ?_
    refine lv_aload_n hx hb dX1_put_21 rfl (lv_at hl 0 rfl) ?_
    refine va_get (D := D) (ci := 0) (v := .int (nI z)) (C := RX1) (T := TX1) (N := 4) hx hb hts in_X1 hown hK hP 0 rfl rfl 1 (by decide) (hts _ q34) (fun _ h9 => h9) rfl dX1_put_22 ?_
    refine lv_iload_n hx hb dX1_put_25 rfl (lv_at hl 1 rfl) ?_
    have hPc := hP.sub (ws' := [(qt, .inl (cB, 128, .inl f))]) [1] rfl
    have hDc := hD.sub (ws' := [(qt, .inl (cB, 128, .inl f))]) [1] (by decide) rfl
    have hKc := hK.sub (tys' := [(cB, .byte)]) [0] rfl
    have hFc := va_free (wc := [(qt, .inl (cB, 128, .inl f))]) hD hS hA [1] rfl
    refine va_callv (va_runS (As := [.ref qt, .int (nI z), .int wa]) (rest := []) ⟨hx, hb, hml, hown, hts⟩ (ud_X1_word l D s.heap.size qt (z) cB (f) (by omega) wa) (va_cwS 3 hts (lw_S q141 q142 q12 q143) rfl rfl rfl (by decide +kernel) ⟨Nat.le_of_ble_eq_true rfl, Nat.le_of_ble_eq_true rfl⟩) ⟨ud_fb, fun U hU hW => ⟨rfl, ud_go hPc hKc hDc U hU hW⟩⟩ rfl rfl hl.1 rfl (lv_room (Nat.le_of_ble_eq_true rfl)) dX1_put_26 ⟨Nat.le_of_ble_eq_true rfl, Nat.le_of_ble_eq_true rfl⟩) hS (fun q _ h => hFc q h) hFc (fun u t H1 locs ht hvm hw hB hz1 hk1 hS => ?_)
    obtain ⟨hP1, hK1, hD1⟩ := hB
    rw [ht] at hP1
    obtain ⟨hP, hD⟩ := va_join (wr := [(qd, .inr (0, [.ref qt, .int (nI z), .ref qu, .int md]))]) (w1 := [(qt, .inl (cB, 128, .inl (ud_wP f z wa)))]) hP hD [1] [0] rfl rfl (by decide) (by decide) hk1 hFc hP1 hD1
    generalize H1 = H at hP hS ⊢
    have hP : va_P D ud_Cl [(qd, .inr (0, [.ref qt, .int (nI z), .ref qu, .int md])), (qt, .inl (cB, 128, .inl (ud_wP f z wa)))] H := hP
    have hD : va_D A [(qd, .inr (0, [.ref qt, .int (nI z), .ref qu, .int md])), (qt, .inl (cB, 128, .inl (ud_wP f z wa)))] := hD
    refine lv_aload_n hx hb dX1_put_29 rfl (lv_at hl 0 rfl) ?_
    refine va_get (D := D) (ci := 0) (v := .ref qt) (C := RX1) (T := TX1) (N := 4) hx hb hts in_X1 hown hK hP 0 rfl rfl 0 (by decide) (hts _ q33) (fun _ h9 => h9) rfl dX1_put_30 ?_
    refine lv_aload_n hx hb dX1_put_33 rfl (lv_at hl 0 rfl) ?_
    refine va_get (D := D) (ci := 0) (v := .int (nI z)) (C := RX1) (T := TX1) (N := 4) hx hb hts in_X1 hown hK hP 0 rfl rfl 1 (by decide) (hts _ q34) (fun _ h9 => h9) rfl dX1_put_34 ?_
    refine lv_iconst (v := nI 4) hx hb dX1_put_37 (by decide) ?_
    refine lv_iadd hx hb dX1_put_38 ?_
    refine ud_top (v := nI (z + 4)) (nI_add _ _) ?_
    refine lv_iload_n hx hb dX1_put_39 rfl (lv_at hl 2 rfl) ?_
    have hPc := hP.sub (ws' := [(qt, .inl (cB, 128, .inl (ud_wP f z wa)))]) [1] rfl
    have hDc := hD.sub (ws' := [(qt, .inl (cB, 128, .inl (ud_wP f z wa)))]) [1] (by decide) rfl
    have hKc := hK.sub (tys' := [(cB, .byte)]) [0] rfl
    have hFc := va_free (wc := [(qt, .inl (cB, 128, .inl (ud_wP f z wa)))]) hD hS hA [1] rfl
    refine va_callv (va_runS (As := [.ref qt, .int (nI (z + 4)), .int wb]) (rest := []) ⟨hx, hb, hml, hown, hts⟩ (ud_X1_word l D H.size qt (z + 4) cB (ud_wP f z wa) (by omega) wb) (va_cwS 3 hts (lw_S q141 q142 q12 q143) rfl rfl rfl (by decide +kernel) ⟨Nat.le_of_ble_eq_true rfl, Nat.le_of_ble_eq_true rfl⟩) ⟨ud_fb, fun U hU hW => ⟨rfl, ud_go hPc hKc hDc U hU hW⟩⟩ rfl rfl hl.1 rfl (lv_room (Nat.le_of_ble_eq_true rfl)) dX1_put_40 ⟨Nat.le_of_ble_eq_true rfl, Nat.le_of_ble_eq_true rfl⟩) hS (fun q _ h => hFc q h) hFc (fun u t H1 locs ht hvm hw hB hz1 hk1 hS => ?_)
    obtain ⟨hP1, hK1, hD1⟩ := hB
    rw [ht] at hP1
    obtain ⟨hP, hD⟩ := va_join (wr := [(qd, .inr (0, [.ref qt, .int (nI z), .ref qu, .int md]))]) (w1 := [(qt, .inl (cB, 128, .inl (ud_wP (ud_wP f z wa) (z + 4) wb)))]) hP hD [1] [0] rfl rfl (by decide) (by decide) hk1 hFc hP1 hD1
    generalize H1 = H at hP hS ⊢
    have hP : va_P D ud_Cl [(qd, .inr (0, [.ref qt, .int (nI z), .ref qu, .int md])), (qt, .inl (cB, 128, .inl (ud_wP (ud_wP f z wa) (z + 4) wb)))] H := hP
    have hD : va_D A [(qd, .inr (0, [.ref qt, .int (nI z), .ref qu, .int md])), (qt, .inl (cB, 128, .inl (ud_wP (ud_wP f z wa) (z + 4) wb)))] := hD
    refine lv_aload_n hx hb dX1_put_43 rfl (lv_at hl 0 rfl) ?_
    refine va_get (D := D) (ci := 0) (v := .ref qt) (C := RX1) (T := TX1) (N := 4) hx hb hts in_X1 hown hK hP 0 rfl rfl 0 (by decide) (hts _ q33) (fun _ h9 => h9) rfl dX1_put_44 ?_
    refine lv_aload_n hx hb dX1_put_47 rfl (lv_at hl 0 rfl) ?_
    refine va_get (D := D) (ci := 0) (v := .int (nI z)) (C := RX1) (T := TX1) (N := 4) hx hb hts in_X1 hown hK hP 0 rfl rfl 1 (by decide) (hts _ q34) (fun _ h9 => h9) rfl dX1_put_48 ?_
    refine lv_bipush (v := nI 8) hx hb dX1_put_51 (by decide) ?_
    refine lv_iadd hx hb dX1_put_53 ?_
    refine ud_top (v := nI (z + 8)) (nI_add _ _) ?_
    refine lv_iload_n hx hb dX1_put_54 rfl (lv_at hl 3 rfl) ?_
    have hPc := hP.sub (ws' := [(qt, .inl (cB, 128, .inl (ud_wP (ud_wP f z wa) (z + 4) wb)))]) [1] rfl
    have hDc := hD.sub (ws' := [(qt, .inl (cB, 128, .inl (ud_wP (ud_wP f z wa) (z + 4) wb)))]) [1] (by decide) rfl
    have hKc := hK.sub (tys' := [(cB, .byte)]) [0] rfl
    have hFc := va_free (wc := [(qt, .inl (cB, 128, .inl (ud_wP (ud_wP f z wa) (z + 4) wb)))]) hD hS hA [1] rfl
    refine va_callv (va_runS (As := [.ref qt, .int (nI (z + 8)), .int wc]) (rest := []) ⟨hx, hb, hml, hown, hts⟩ (ud_X1_word l D H.size qt (z + 8) cB (ud_wP (ud_wP f z wa) (z + 4) wb) (by omega) wc) (va_cwS 3 hts (lw_S q141 q142 q12 q143) rfl rfl rfl (by decide +kernel) ⟨Nat.le_of_ble_eq_true rfl, Nat.le_of_ble_eq_true rfl⟩) ⟨ud_fb, fun U hU hW => ⟨rfl, ud_go hPc hKc hDc U hU hW⟩⟩ rfl rfl hl.1 rfl (lv_room (Nat.le_of_ble_eq_true rfl)) dX1_put_55 ⟨Nat.le_of_ble_eq_true rfl, Nat.le_of_ble_eq_true rfl⟩) hS (fun q _ h => hFc q h) hFc (fun u t H1 locs ht hvm hw hB hz1 hk1 hS => ?_)
    obtain ⟨hP1, hK1, hD1⟩ := hB
    rw [ht] at hP1
    obtain ⟨hP, hD⟩ := va_join (wr := [(qd, .inr (0, [.ref qt, .int (nI z), .ref qu, .int md]))]) (w1 := [(qt, .inl (cB, 128, .inl (ud_wP (ud_wP (ud_wP f z wa) (z + 4) wb) (z + 8) wc)))]) hP hD [1] [0] rfl rfl (by decide) (by decide) hk1 hFc hP1 hD1
    generalize H1 = H at hP hS ⊢
    have hP : va_P D ud_Cl [(qd, .inr (0, [.ref qt, .int (nI z), .ref qu, .int md])), (qt, .inl (cB, 128, .inl (ud_wP (ud_wP (ud_wP f z wa) (z + 4) wb) (z + 8) wc)))] H := hP
    have hD : va_D A [(qd, .inr (0, [.ref qt, .int (nI z), .ref qu, .int md])), (qt, .inl (cB, 128, .inl (ud_wP (ud_wP (ud_wP f z wa) (z + 4) wb) (z + 8) wc)))] := hD
    refine lv_aload_n hx hb dX1_put_58 rfl (lv_at hl 0 rfl) ?_
    refine va_get (D := D) (ci := 0) (v := .ref qt) (C := RX1) (T := TX1) (N := 4) hx hb hts in_X1 hown hK hP 0 rfl rfl 0 (by decide) (hts _ q33) (fun _ h9 => h9) rfl dX1_put_59 ?_
    refine lv_aload_n hx hb dX1_put_62 rfl (lv_at hl 0 rfl) ?_
    refine va_get (D := D) (ci := 0) (v := .int (nI z)) (C := RX1) (T := TX1) (N := 4) hx hb hts in_X1 hown hK hP 0 rfl rfl 1 (by decide) (hts _ q34) (fun _ h9 => h9) rfl dX1_put_63 ?_
    refine lv_bipush (v := nI 12) hx hb dX1_put_66 (by decide) ?_
    refine lv_iadd hx hb dX1_put_68 ?_
    refine ud_top (v := nI (z + 12)) (nI_add _ _) ?_
    refine lv_iload hx hb dX1_put_69 (lv_at hl 4 rfl) ?_
    have hPc := hP.sub (ws' := [(qt, .inl (cB, 128, .inl (ud_wP (ud_wP (ud_wP f z wa) (z + 4) wb) (z + 8) wc)))]) [1] rfl
    have hDc := hD.sub (ws' := [(qt, .inl (cB, 128, .inl (ud_wP (ud_wP (ud_wP f z wa) (z + 4) wb) (z + 8) wc)))]) [1] (by decide) rfl
    have hKc := hK.sub (tys' := [(cB, .byte)]) [0] rfl
    have hFc := va_free (wc := [(qt, .inl (cB, 128, .inl (ud_wP (ud_wP (ud_wP f z wa) (z + 4) wb) (z + 8) wc)))]) hD hS hA [1] rfl
    refine va_callv (va_runS (As := [.ref qt, .int (nI (z + 12)), .int wd]) (rest := []) ⟨hx, hb, hml, hown, hts⟩ (ud_X1_word l D H.size qt (z + 12) cB (ud_wP (ud_wP (ud_wP f z wa) (z + 4) wb) (z + 8) wc) (by omega) wd) (va_cwS 3 hts (lw_S q141 q142 q12 q143) rfl rfl rfl (by decide +kernel) ⟨Nat.le_of_ble_eq_true rfl, Nat.le_of_ble_eq_true rfl⟩) ⟨ud_fb, fun U hU hW => ⟨rfl, ud_go hPc hKc hDc U hU hW⟩⟩ rfl rfl hl.1 rfl (lv_room (Nat.le_of_ble_eq_true rfl)) dX1_put_71 ⟨Nat.le_of_ble_eq_true rfl, Nat.le_of_ble_eq_true rfl⟩) hS (fun q _ h => hFc q h) hFc (fun u t H1 locs ht hvm hw hB hz1 hk1 hS => ?_)
    obtain ⟨hP1, hK1, hD1⟩ := hB
    rw [ht] at hP1
    obtain ⟨hP, hD⟩ := va_join (wr := [(qd, .inr (0, [.ref qt, .int (nI z), .ref qu, .int md]))]) (w1 := [(qt, .inl (cB, 128, .inl (ud_wP (ud_wP (ud_wP (ud_wP f z wa) (z + 4) wb) (z + 8) wc) (z + 12) wd)))]) hP hD [1] [0] rfl rfl (by decide) (by decide) hk1 hFc hP1 hD1
    generalize H1 = H at hP hS ⊢
    have hP : va_P D ud_Cl [(qd, .inr (0, [.ref qt, .int (nI z), .ref qu, .int md])), (qt, .inl (cB, 128, .inl (ud_wP (ud_wP (ud_wP (ud_wP f z wa) (z + 4) wb) (z + 8) wc) (z + 12) wd)))] H := hP
    have hD : va_D A [(qd, .inr (0, [.ref qt, .int (nI z), .ref qu, .int md])), (qt, .inl (cB, 128, .inl (ud_wP (ud_wP (ud_wP (ud_wP f z wa) (z + 4) wb) (z + 8) wc) (z + 12) wd)))] := hD
    refine lv_aload_n hx hb dX1_put_74 rfl (lv_at hl 0 rfl) ?_
    refine lv_dup hx hb dX1_put_75 rfl ?_
    refine va_get (D := D) (ci := 0) (v := .int (nI z)) (C := RX1) (T := TX1) (N := 4) hx hb hts in_X1 hown hK hP 0 rfl rfl 1 (by decide) (hts _ q34) (fun _ h9 => h9) rfl dX1_put_76 ?_
    refine lv_bipush (v := nI 16) hx hb dX1_put_79 (by decide) ?_
    refine lv_iadd hx hb dX1_put_81 ?_
    refine ud_top (v := nI (z + 16)) (nI_add _ _) ?_
    refine va_put (D := D) (ci := 0) (v := .int (nI (z + 16))) (ty := .int) (C := RX1) (T := TX1) (N := 4) hx hb hts in_X1 tyX1 tyX1_ok nmX1 hown hK hP hD hS 0 rfl rfl 1 (by decide) (hts _ q34) (fun _ h9 => h9) rfl (by decide +kernel) rfl rfl (Nat.le_of_ble_eq_true rfl) dX1_put_82 (fun H locs hP hD hS => ?_)
    have hP : va_P D ud_Cl [(qd, .inr (0, [.ref qt, .int (nI (z + 16)), .ref qu, .int md])), (qt, .inl (cB, 128, .inl (ud_wP (ud_wP (ud_wP (ud_wP f z wa) (z + 4) wb) (z + 8) wc) (z + 12) wd)))] H := hP
    have hD : va_D A [(qd, .inr (0, [.ref qt, .int (nI (z + 16)), .ref qu, .int md])), (qt, .inl (cB, 128, .inl (ud_wP (ud_wP (ud_wP (ud_wP f z wa) (z + 4) wb) (z + 8) wc) (z + 12) wd)))] := hD
    refine lv_iconst (v := 1) hx hb dX1_put_85 (by decide) ?_
    have hP9 := hP.sub (ws' := [(qd, .inr (0, [.ref qt, .int (nI (z + 16)), .ref qu, .int md])), (qt, .inl (cB, 128, .inl (ud_wP (ud_wP (ud_wP (ud_wP f z wa) (z + 4) wb) (z + 8) wc) (z + 12) wd)))]) [0, 1] rfl
    have hD9 := hD.sub (ws' := [(qd, .inr (0, [.ref qt, .int (nI (z + 16)), .ref qu, .int md])), (qt, .inl (cB, 128, .inl (ud_wP (ud_wP (ud_wP (ud_wP f z wa) (z + 4) wb) (z + 8) wc) (z + 12) wd)))]) [0, 1] (by decide) rfl
    have hK9 := hK.sub (tys' := [(cB, .byte)]) [0] rfl
    exact W.zret (v := 1) hx hb hr rfl (fun t ht hW => ⟨⟨1, (z + 16, ud_wP (ud_wP (ud_wP (ud_wP f z wa) (z + 4) wb) (z + 8) wc) (z + 12) wd), rfl, ⟨fun _ => ⟨rfl, by rw [ud_put]⟩, fun q => absurd q (by omega)⟩, ud_end ht hW hP9 hK9 hD9⟩, hS.F ht⟩) hS.2.2 dX1_put_86
  · refine lv_iconst (v := 0) hx hb dX1_put_15 (by decide) ?_
    have hP9 := hP.sub (ws' := [(qd, .inr (0, [.ref qt, .int (nI z), .ref qu, .int md])), (qt, .inl (cB, 128, .inl f))]) [0, 1] rfl
    have hD9 := hD.sub (ws' := [(qd, .inr (0, [.ref qt, .int (nI z), .ref qu, .int md])), (qt, .inl (cB, 128, .inl f))]) [0, 1] (by decide) rfl
    have hK9 := hK.sub (tys' := [(cB, .byte)]) [0] rfl
    exact W.zret (v := 0) hx hb hr rfl (fun t ht hW => ⟨⟨0, (z, f), rfl, ⟨fun q => absurd q (by omega), fun _ => ⟨rfl, rfl⟩⟩, ud_end ht hW hP9 hK9 hD9⟩, hS.F ht⟩) hS.2.2 dX1_put_16
end
section
/-! UTF8 (printed by gen/utf8.py) -/
theorem ud_Iv_le {g : Nat → Nat} {e room F k n : Nat} {T : Option (List Nat)} {u : Nat → Int32} (h : ud_Iv g e T room F k n u) : n ≤ room := by
  obtain ⟨P, h1, h2, h3, h4⟩ := h
  exact h4
theorem ud_un_1 {v : Nat} (hv : v ≤ 65535) : ud_un v = [v] := by
  unfold ud_un
  rw [if_neg (by omega)]
theorem ud_Iv_full1 {g : Nat → Nat} {e room F k n v m : Nat} {T : Option (List Nat)} {u : Nat → Int32} (h : ud_Iv g e T room (F + 1) k n u) (hk : k < e) (hd : ud_dc g k e = some (v, m)) (hv : v ≤ 65535) (hr : room < n + 1) (u' : Nat → Int32) : ud_An T room (-1) u' :=
  ud_Iv_full h hk hd (by
    show room < n + (ud_un v).length
    rw [ud_un_1 hv]
    exact hr) u'
theorem ud_Iv_full2 {g : Nat → Nat} {e room F k n v m : Nat} {T : Option (List Nat)} {u : Nat → Int32} (h : ud_Iv g e T room (F + 1) k n u) (hk : k < e) (hd : ud_dc g k e = some (v, m)) (hv : 65535 < v) (hr : room < n + 2) (u' : Nat → Int32) : ud_An T room (-1) u' :=
  ud_Iv_full h hk hd (by
    show room < n + (ud_un v).length
    rw [ud_un_2 hv]
    exact hr) u'
theorem ud_rn_0n {g : Nat → Nat} {i : Nat} {cp st : Int32} (h : ¬ st < 0) : ud_rn g 0 i cp st = none := by
  show (if st < 0 then _ else _) = _
  rw [if_neg h]
theorem ud_rn_step {g : Nat → Nat} {q i : Nat} {cp st : Int32} (h : ¬ st < 0) : ud_rn g (q + 1) i cp st = ud_rn g q (i + 1) ((cp <<< ((6 : Int32) &&& 31)) ||| nI (g i % 64)) (ud_tt (st.toNatClampNeg + g i / 16)) := by
  show (if st < 0 then _ else _) = _
  rw [if_neg h]
set_option maxHeartbeats 4000000 in
set_option maxRecDepth 100000 in
theorem ud_X2_transcodeToUTF16_2 (l : Launch) (D : va_G) (sz : Nat) (t1 t2 : Nat) (qz qv nc rm : Nat) (cB cC : ClassId) (fz fw : Nat → Int32) (hz : ud_isB fz) (hnc : nc ≤ 128) (hrm : rm ≤ 160) : Met l yX2_transcodeToUTF16_2 (ws_ yX2_transcodeToUTF16_2 cX2_transcodeToUTF16_2 11 (some .int)) ({ frames := 0, cells := 0, slots := 0, locals := 0 }) (va_Pc [.ref qz, .int (nI 0), .int (nI nc), .ref qv] (ud_Wt D [(qz, .inl (cB, nc, .inl fz)), (qv, .inl (cC, rm, .inl fw))] [(cB, .byte), (cC, .char)] sz t1 t2)) (va_Qi (fun (r : Int32) (u : Nat → Int32) => ud_An (ud_dU (ud_g fz) nc nc 0) rm r u) (fun u t => ud_E D (va_A [(qz, .inl (cB, nc, .inl fz)), (qv, .inl (cC, rm, .inl fw))] sz) [(qz, .inl (cB, nc, .inl fz)), (qv, .inl (cC, rm, .inl u))] [(cB, .byte), (cC, .char)] t) (va_A [(qz, .inl (cB, nc, .inl fz)), (qv, .inl (cC, rm, .inl fw))] sz)) 0 0 (va_A [(qz, .inl (cB, nc, .inl fz)), (qv, .inl (cC, rm, .inl fw))] sz) := by
  refine Met.ofW (cc := cX2_transcodeToUTF16_2) (maxL := 11) (ret := (some .int)) (by decide) rfl ?_
  intro p e s m args below meth c s₁ B hml hv
  obtain ⟨rfl, ⟨hsz, hP, hK, hD0⟩, hTb⟩ := hv
  have hx := B.exec
  have hb := B.bytes
  have hr := B.returns
  have hts := atoms_spec (ws := ws_ yX2_transcodeToUTF16_2 cX2_transcodeToUTF16_2 11 (some .int)) B.pre
  have hts : ∀ w ∈ lw_all, w.before _ s = true := fun w h => hts w (List.mem_cons_of_mem _ h)
  have hown : s.vm.findClass RX2 = some m.cls := findClass_of_methodNamed B.named
  have hlocks := B.notSynchronized
  subst hsz
  have hD := hD0.self (sz := s.heap.size)
  generalize hAe : va_A [(qz, .inl (cB, nc, .inl fz)), (qv, .inl (cC, rm, .inl fw))] s.heap.size = A at hD hTb ⊢
  have hA : ∀ q : Nat, s.heap.size ≤ q → A q := fun q h => by rw [← hAe]; exact Or.inr h
  have hS : va_S A s.heap s.heap [] := va_S.rf
  have hP : va_P D ud_Cl [(qz, .inl (cB, nc, .inl fz)), (qv, .inl (cC, rm, .inl fw))] s.heap := hP
  have hl := lv_entry ([.ref qz, .int (nI 0), .int (nI nc), .ref qv]) (n := 11) (Nat.le_of_ble_eq_true rfl)
  rw [lg_entry_eq]
  generalize (lg_sl ([.ref qz, .int (nI 0), .int (nI nc), .ref qv]) ++ List.replicate (11 - (lg_sl ([.ref qz, .int (nI 0), .int (nI nc), .ref qv])).length) Slot.unset).toArray = ls at hl ⊢
  have hl : lv_has ls 11 [(0, .ref qz), (1, .int (nI 0)), (2, .int (nI nc)), (3, .ref qv)] := hl
  obtain ⟨hT1, hT2, hT3, hT4⟩ := id hTb
  refine lv_iload_n hx hb dX2_transcodeToUTF16_2_0 rfl (lv_at hl 1 rfl) ?_
  refine lv_istore (lv' := [(4, .int (nI 0)), (0, .ref qz), (1, .int (nI 0)), (2, .int (nI nc)), (3, .ref qv)]) hx hb dX2_transcodeToUTF16_2_1 hl (by decide) rfl (fun ls hl => ?_)
  refine lv_iconst (v := nI 0) hx hb dX2_transcodeToUTF16_2_3 (by decide) ?_
  refine lv_istore (lv' := [(5, .int (nI 0)), (4, .int (nI 0)), (0, .ref qz), (1, .int (nI 0)), (2, .int (nI nc)), (3, .ref qv)]) hx hb dX2_transcodeToUTF16_2_4 hl (by decide) rfl (fun ls hl => ?_)
  refine lv_iload_n hx hb dX2_transcodeToUTF16_2_6 rfl (lv_at hl 3 rfl) ?_
  refine lv_iload_n hx hb dX2_transcodeToUTF16_2_7 rfl (lv_at hl 4 rfl) ?_
  refine lv_iadd hx hb dX2_transcodeToUTF16_2_8 ?_
  refine ud_top (v := nI nc) ((nI_add _ _).trans (congrArg nI (Nat.zero_add _))) ?_
  refine lv_istore (lv' := [(6, .int (nI nc)), (5, .int (nI 0)), (4, .int (nI 0)), (0, .ref qz), (1, .int (nI 0)), (2, .int (nI nc)), (3, .ref qv)]) hx hb dX2_transcodeToUTF16_2_9 hl (by decide) rfl (fun ls hl => ?_)
  refine ud_ind (pc2 := 11) (stk := []) (J := fun (nn : Nat) (ls : Array Slot) (H : Heap) (locs : List Loc) => ∃ (F : Nat) (k : Nat) (n : Nat) (w : Nat → Int32), (nn = F + 1) ∧ (nc ≤ k + F) ∧ (k ≤ nc) ∧ (ud_Iv (ud_g fz) nc (ud_dU (ud_g fz) nc nc 0) rm F k n w) ∧ va_P D ud_Cl [(qz, .inl (cB, nc, .inl fz)), (qv, .inl (cC, rm, .inl w))] H ∧ va_D A [(qz, .inl (cB, nc, .inl fz)), (qv, .inl (cC, rm, .inl w))] ∧ va_S A s.heap H locs ∧ lv_has ls 11 [(0, .ref qz), (1, .int (nI 0)), (2, .int (nI nc)), (3, .ref qv), (4, .int (nI k)), (5, .int (nI n)), (6, .int (nI nc))]) (fun ls H locs h => by obtain ⟨F, k, n, w, c11_f, c11_b, c11_k, c11_i, -⟩ := h; omega) (nc + 1) ⟨nc, 0, 0, fw, rfl, by omega, by omega, ud_Iv_0 _ _ _ _ _ _, hP, hD, hS, lv_sub hl [3, 4, 5, 6, 2, 1, 0] rfl⟩ ?_
  intro nn ih11 ls H locs hJ
  obtain ⟨F, k, n, w, c11_f, c11_b, c11_k, c11_i, hP, hD, hS, hl⟩ := hJ
  have hn : n ≤ rm := ud_Iv_le c11_i
  refine lv_iload hx hb dX2_transcodeToUTF16_2_11 (lv_at hl 4 rfl) ?_
  refine lv_iload hx hb dX2_transcodeToUTF16_2_13 (lv_at hl 6 rfl) ?_
  refine ud_ge (tgt := 218) hx hb dX2_transcodeToUTF16_2_15 (by decide) (by omega) (by omega) (fun c15 => ?_) (fun c15 => ?_)
  · refine lv_iload hx hb dX2_transcodeToUTF16_2_218 (lv_at hl 5 rfl) ?_
    have hP9 := hP.sub (ws' := [(qz, .inl (cB, nc, .inl fz)), (qv, .inl (cC, rm, .inl w))]) [0, 1] rfl
    have hD9 := hD.sub (ws' := [(qz, .inl (cB, nc, .inl fz)), (qv, .inl (cC, rm, .inl w))]) [0, 1] (by decide) rfl
    have hK9 := hK.sub (tys' := [(cB, .byte), (cC, .char)]) [0, 1] rfl
    exact W.iret (v := (nI n)) hx hb hr (fun t ht hW => ⟨⟨(nI n), w, rfl, ud_Iv_exit c11_i c15, ud_end ht hW hP9 hK9 hD9⟩, hS.F ht⟩) hS.2.2 dX2_transcodeToUTF16_2_220
  · obtain ⟨F', rfl⟩ : ∃ F', F = F' + 1 := ⟨F - 1, by omega⟩
    refine lv_aload_n hx hb dX2_transcodeToUTF16_2_18 rfl (lv_at hl 0 rfl) ?_
    refine lv_iload hx hb dX2_transcodeToUTF16_2_19 (lv_at hl 4 rfl) ?_
    refine lv_iinc (v := nI (k + 1)) (lv' := [(4, .int (nI (k + 1))), (0, .ref qz), (1, .int (nI 0)), (2, .int (nI nc)), (3, .ref qv), (5, .int (nI n)), (6, .int (nI nc))]) hx hb dX2_transcodeToUTF16_2_21 hl (k := 4) rfl (ud_inc k) (by decide) rfl (fun ls hl => ?_)
    refine ud_bald hx hb hK hP 0 0 rfl rfl c15 (by omega) dX2_transcodeToUTF16_2_24 ?_
    refine ud_top (v := ud_sB (ud_g fz k)) (hz k) ?_
    refine lv_istore (lv' := [(7, .int (ud_sB (ud_g fz k))), (4, .int (nI (k + 1))), (0, .ref qz), (1, .int (nI 0)), (2, .int (nI nc)), (3, .ref qv), (5, .int (nI n)), (6, .int (nI nc))]) hx hb dX2_transcodeToUTF16_2_25 hl (by decide) rfl (fun ls hl => ?_)
    refine lv_iload hx hb dX2_transcodeToUTF16_2_27 (lv_at hl 0 rfl) ?_
    refine lv_if_lt (tgt := 54) hx hb dX2_transcodeToUTF16_2_29 (by decide) (fun c29 => ?_) (fun c29 => ?_)
    · have h128 : 128 ≤ ud_g fz k := Nat.not_lt.mp (fun q => absurd ((ud_b2 _ (ud_g_lt fz k)).mpr q) (Int32.not_le.mpr c29))
      refine va_gets (C := "UTF8") (n := "firstUnitTable") (d := "[S") (v := .ref t1) hx hb hT1 hS hown (hts _ q118) (fun _ h9 => h9) dX2_transcodeToUTF16_2_54 ?_
      refine lv_iload hx hb dX2_transcodeToUTF16_2_57 (lv_at hl 0 rfl) ?_
      refine lv_bipush (v := 127) hx hb dX2_transcodeToUTF16_2_59 (by decide) ?_
      refine lv_iand hx hb dX2_transcodeToUTF16_2_61 ?_
      refine ud_top (v := nI (ud_g fz k - 128)) (ud_b3 _ (ud_g_lt fz k) h128) ?_
      refine va_ts (v := .int (ud_ft (ud_g fz k - 128))) hx hb hT2 hS (vp_in_nI (by have := ud_g_lt fz k; omega) (by decide)) (by show Value.int (ud_ft (nI (ud_g fz k - 128)).toNatClampNeg) = _; rw [nI_clamp (by have := ud_g_lt fz k; omega)]) dX2_transcodeToUTF16_2_62 ?_
      refine lv_istore (lv' := [(8, .int (ud_ft (ud_g fz k - 128))), (7, .int (ud_sB (ud_g fz k))), (4, .int (nI (k + 1))), (0, .ref qz), (1, .int (nI 0)), (2, .int (nI nc)), (3, .ref qv), (5, .int (nI n)), (6, .int (nI nc))]) hx hb dX2_transcodeToUTF16_2_63 hl (by decide) rfl (fun ls hl => ?_)
      refine lv_iload hx hb dX2_transcodeToUTF16_2_65 (lv_at hl 0 rfl) ?_
      refine lv_bipush (v := 8) hx hb dX2_transcodeToUTF16_2_67 (by decide) ?_
      refine lv_iushr (v := ud_cp0 (ud_g fz k - 128)) hx hb dX2_transcodeToUTF16_2_69 rfl ?_
      refine lv_istore (lv' := [(9, .int (ud_cp0 (ud_g fz k - 128))), (8, .int (ud_ft (ud_g fz k - 128))), (7, .int (ud_sB (ud_g fz k))), (4, .int (nI (k + 1))), (0, .ref qz), (1, .int (nI 0)), (2, .int (nI nc)), (3, .ref qv), (5, .int (nI n)), (6, .int (nI nc))]) hx hb dX2_transcodeToUTF16_2_70 hl (by decide) rfl (fun ls hl => ?_)
      refine lv_iload hx hb dX2_transcodeToUTF16_2_72 (lv_at hl 1 rfl) ?_
      refine lv_i2b (v := ud_st0 (ud_g fz k - 128)) hx hb dX2_transcodeToUTF16_2_74 rfl ?_
      refine lv_istore (lv' := [(10, .int (ud_st0 (ud_g fz k - 128))), (9, .int (ud_cp0 (ud_g fz k - 128))), (8, .int (ud_ft (ud_g fz k - 128))), (7, .int (ud_sB (ud_g fz k))), (4, .int (nI (k + 1))), (0, .ref qz), (1, .int (nI 0)), (2, .int (nI nc)), (3, .ref qv), (5, .int (nI n)), (6, .int (nI nc))]) hx hb dX2_transcodeToUTF16_2_75 hl (by decide) rfl (fun ls hl => ?_)
      refine ud_ind (pc2 := 77) (stk := []) (J := fun (nn : Nat) (ls : Array Slot) (H : Heap) (locs : List Loc) => ∃ (q : Nat) (i : Nat) (cp : Int32) (sv : Int32), (nn = q + 1) ∧ (i + q = nc) ∧ (k < i) ∧ (ud_okS sv) ∧ (ud_rn (ud_g fz) (nc - (k + 1)) (k + 1) (ud_cp0 (ud_g fz k - 128)) (ud_st0 (ud_g fz k - 128)) = ud_rn (ud_g fz) q i cp sv) ∧ va_P D ud_Cl [(qz, .inl (cB, nc, .inl fz)), (qv, .inl (cC, rm, .inl w))] H ∧ va_D A [(qz, .inl (cB, nc, .inl fz)), (qv, .inl (cC, rm, .inl w))] ∧ va_S A s.heap H locs ∧ lv_has ls 11 [(0, .ref qz), (1, .int (nI 0)), (2, .int (nI nc)), (3, .ref qv), (4, .int (nI i)), (5, .int (nI n)), (6, .int (nI nc)), (9, .int cp), (10, .int sv)]) (fun ls H locs h => by obtain ⟨q, i, cp, sv, c77_f, c77_s, c77_k, c77_o, c77_r, -⟩ := h; omega) (nc - (k + 1) + 1) ⟨nc - (k + 1), k + 1, ud_cp0 (ud_g fz k - 128), ud_st0 (ud_g fz k - 128), rfl, by omega, by omega, ud_okS_of (ud_ok_st _ (by have := ud_g_lt fz k; omega)), rfl, hP, hD, hS, lv_sub hl [5, 6, 7, 8, 4, 9, 10, 1, 0] rfl⟩ ?_
      intro nn ih77 ls H locs hJ
      obtain ⟨q, i, cp, sv, c77_f, c77_s, c77_k, c77_o, c77_r, hP, hD, hS, hl⟩ := hJ
      refine lv_iload hx hb dX2_transcodeToUTF16_2_77 (lv_at hl 8 rfl) ?_
      refine lv_if_lt (tgt := 133) hx hb dX2_transcodeToUTF16_2_79 (by decide) (fun c79 => ?_) (fun c79 => ?_)
      · refine lv_iload hx hb dX2_transcodeToUTF16_2_133 (lv_at hl 8 rfl) ?_
        refine lv_bipush (v := (-2)) hx hb dX2_transcodeToUTF16_2_135 (by decide) ?_
        refine lv_icmp_ne (tgt := 142) hx hb dX2_transcodeToUTF16_2_137 (by decide) (fun c137 => ?_) (fun c137 => ?_)
        · obtain ⟨v, mm, hd, hcp, hii⟩ := ud_map_s (((ud_rn_neg _ _ _ _ _ c79).trans (if_neg c137)).symm.trans (c77_r.symm.trans (ud_dfa (ud_g_lt fz) c15 h128)))
          subst hcp
          subst hii
          obtain ⟨hv1, hv2, hm, hke⟩ := ud_dc_spec hd c15
          have hm1 := (ud_nd_pos v).1
          rw [← hm] at hm1
          refine lv_iload hx hb dX2_transcodeToUTF16_2_142 (lv_at hl 7 rfl) ?_
          refine lv_ldc (v := nI 65535) hx hb hown (hts _ q122) dX2_transcodeToUTF16_2_144 ?_
          refine ud_gt (tgt := 171) hx hb dX2_transcodeToUTF16_2_146 (by decide) (by omega) (by decide) (fun c146 => ?_) (fun c146 => ?_)
          · refine lv_iload hx hb dX2_transcodeToUTF16_2_171 (lv_at hl 5 rfl) ?_
            refine lv_aload_n hx hb dX2_transcodeToUTF16_2_173 rfl (lv_at hl 3 rfl) ?_
            refine va_alen (v := nI rm) hx hb hK hP 1 1 rfl rfl rfl dX2_transcodeToUTF16_2_174 ?_
            refine lv_iconst (v := nI 1) hx hb dX2_transcodeToUTF16_2_175 (by decide) ?_
            refine lv_isub hx hb dX2_transcodeToUTF16_2_176 ?_
            refine lv_icmp_lt (tgt := 182) hx hb dX2_transcodeToUTF16_2_177 (by decide) (fun c177 => ?_) (fun c177 => ?_)
            · have hn2 := (ud_ltm (by omega) (by omega)).mp c177
              refine lv_aload_n hx hb dX2_transcodeToUTF16_2_182 rfl (lv_at hl 3 rfl) ?_
              refine lv_iload hx hb dX2_transcodeToUTF16_2_183 (lv_at hl 5 rfl) ?_
              refine lv_iinc (v := nI (n + 1)) (lv' := [(5, .int (nI (n + 1))), (0, .ref qz), (1, .int (nI 0)), (2, .int (nI nc)), (3, .ref qv), (4, .int (nI (k + mm))), (6, .int (nI nc)), (9, .int (nI v)), (10, .int sv)]) hx hb dX2_transcodeToUTF16_2_185 hl (k := 5) rfl (ud_inc n) (by decide) rfl (fun ls hl => ?_)
              refine lv_ldc (v := nI 55232) hx hb hown (hts _ q123) dX2_transcodeToUTF16_2_188 ?_
              refine lv_iload hx hb dX2_transcodeToUTF16_2_190 (lv_at hl 7 rfl) ?_
              refine lv_bipush (v := 10) hx hb dX2_transcodeToUTF16_2_192 (by decide) ?_
              refine lv_iushr (v := nI (v / 1024)) hx hb dX2_transcodeToUTF16_2_194 (pk_ushrN (by omega) 10 10 (by decide)) ?_
              refine lv_iadd hx hb dX2_transcodeToUTF16_2_195 ?_
              refine ud_top (v := nI (55296 + (v - 65536) / 1024)) ((nI_add _ _).trans (congrArg nI (by omega))) ?_
              refine lv_i2c (v := nI (55296 + (v - 65536) / 1024)) hx hb dX2_transcodeToUTF16_2_196 (ud_char (by omega)) ?_
              refine ud_cast hx hb hK hP hD hS 1 1 rfl rfl (upd w n (nI (55296 + (v - 65536) / 1024))) (by omega) (by omega) (by omega) rfl dX2_transcodeToUTF16_2_197 (fun H locs hP hD hS => ?_)
              have hP : va_P D ud_Cl [(qz, .inl (cB, nc, .inl fz)), (qv, .inl (cC, rm, .inl (upd w n (nI (55296 + (v - 65536) / 1024)))))] H := hP
              have hD : va_D A [(qz, .inl (cB, nc, .inl fz)), (qv, .inl (cC, rm, .inl (upd w n (nI (55296 + (v - 65536) / 1024)))))] := hD
              refine lv_aload_n hx hb dX2_transcodeToUTF16_2_198 rfl (lv_at hl 4 rfl) ?_
              refine lv_iload hx hb dX2_transcodeToUTF16_2_199 (lv_at hl 0 rfl) ?_
              refine lv_iinc (v := nI (n + 1 + 1)) (lv' := [(5, .int (nI (n + 1 + 1))), (0, .ref qz), (1, .int (nI 0)), (2, .int (nI nc)), (3, .ref qv), (4, .int (nI (k + mm))), (6, .int (nI nc)), (9, .int (nI v)), (10, .int sv)]) hx hb dX2_transcodeToUTF16_2_201 hl (k := 0) rfl (ud_inc (n + 1)) (by decide) rfl (fun ls hl => ?_)
              refine lv_ldc (v := nI 56320) hx hb hown (hts _ q124) dX2_transcodeToUTF16_2_204 ?_
              refine lv_iload hx hb dX2_transcodeToUTF16_2_206 (lv_at hl 7 rfl) ?_
              refine lv_sipush (v := 1023) hx hb dX2_transcodeToUTF16_2_208 (by decide) ?_
              refine lv_iand hx hb dX2_transcodeToUTF16_2_211 ?_
              refine ud_top (v := nI (v % 1024)) (pk_andN (by omega) 10 (by decide)) ?_
              refine lv_ior hx hb dX2_transcodeToUTF16_2_212 ?_
              refine ud_top (v := nI (56320 + (v - 65536) % 1024)) ((ud_or10 (Nat.mod_lt _ (by decide))).trans (congrArg nI (by omega))) ?_
              refine lv_i2c (v := nI (56320 + (v - 65536) % 1024)) hx hb dX2_transcodeToUTF16_2_213 (ud_char (by omega)) ?_
              refine ud_cast hx hb hK hP hD hS 1 1 rfl rfl (upd (upd w n (nI (55296 + (v - 65536) / 1024))) (n + 1) (nI (56320 + (v - 65536) % 1024))) (by omega) (by omega) (by omega) rfl dX2_transcodeToUTF16_2_214 (fun H locs hP hD hS => ?_)
              have hP : va_P D ud_Cl [(qz, .inl (cB, nc, .inl fz)), (qv, .inl (cC, rm, .inl (upd (upd w n (nI (55296 + (v - 65536) / 1024))) (n + 1) (nI (56320 + (v - 65536) % 1024)))))] H := hP
              have hD : va_D A [(qz, .inl (cB, nc, .inl fz)), (qv, .inl (cC, rm, .inl (upd (upd w n (nI (55296 + (v - 65536) / 1024))) (n + 1) (nI (56320 + (v - 65536) % 1024)))))] := hD
              refine lv_goto (tgt := 11) hx hb dX2_transcodeToUTF16_2_215 (by decide) ?_
              exact ih11 ls H locs ⟨F', k + mm, n + 2, upd (upd w n (nI (55296 + (v - 65536) / 1024))) (n + 1) (nI (56320 + (v - 65536) % 1024)), by omega, by omega, by omega, ud_Iv_two c11_i c15 hd c146 hv1 (by omega), hP, hD, hS, lv_sub hl [1, 2, 3, 4, 5, 0, 6] rfl⟩
            · have hn2 : ¬ n + 1 < rm := fun z => c177 ((ud_ltm (by omega) (by omega)).mpr z)
              refine lv_iconst (v := (-1)) hx hb dX2_transcodeToUTF16_2_180 (by decide) ?_
              have hP9 := hP.sub (ws' := [(qz, .inl (cB, nc, .inl fz)), (qv, .inl (cC, rm, .inl w))]) [0, 1] rfl
              have hD9 := hD.sub (ws' := [(qz, .inl (cB, nc, .inl fz)), (qv, .inl (cC, rm, .inl w))]) [0, 1] (by decide) rfl
              have hK9 := hK.sub (tys' := [(cB, .byte), (cC, .char)]) [0, 1] rfl
              exact W.iret (v := (-1)) hx hb hr (fun t ht hW => ⟨⟨(-1), w, rfl, ud_Iv_full2 c11_i c15 hd c146 (by omega) _, ud_end ht hW hP9 hK9 hD9⟩, hS.F ht⟩) hS.2.2 dX2_transcodeToUTF16_2_181
          · refine lv_iload hx hb dX2_transcodeToUTF16_2_149 (lv_at hl 5 rfl) ?_
            refine lv_aload_n hx hb dX2_transcodeToUTF16_2_151 rfl (lv_at hl 3 rfl) ?_
            refine va_alen (v := nI rm) hx hb hK hP 1 1 rfl rfl rfl dX2_transcodeToUTF16_2_152 ?_
            refine ud_lt (tgt := 158) hx hb dX2_transcodeToUTF16_2_153 (by decide) (by omega) (by omega) (fun c153 => ?_) (fun c153 => ?_)
            · refine lv_aload_n hx hb dX2_transcodeToUTF16_2_158 rfl (lv_at hl 3 rfl) ?_
              refine lv_iload hx hb dX2_transcodeToUTF16_2_159 (lv_at hl 5 rfl) ?_
              refine lv_iinc (v := nI (n + 1)) (lv' := [(5, .int (nI (n + 1))), (0, .ref qz), (1, .int (nI 0)), (2, .int (nI nc)), (3, .ref qv), (4, .int (nI (k + mm))), (6, .int (nI nc)), (9, .int (nI v)), (10, .int sv)]) hx hb dX2_transcodeToUTF16_2_161 hl (k := 5) rfl (ud_inc n) (by decide) rfl (fun ls hl => ?_)
              refine lv_iload hx hb dX2_transcodeToUTF16_2_164 (lv_at hl 7 rfl) ?_
              refine lv_i2c (v := nI v) hx hb dX2_transcodeToUTF16_2_166 (ud_char (by omega)) ?_
              refine ud_cast hx hb hK hP hD hS 1 1 rfl rfl (upd w n (nI v)) c153 (by omega) (by omega) rfl dX2_transcodeToUTF16_2_167 (fun H locs hP hD hS => ?_)
              have hP : va_P D ud_Cl [(qz, .inl (cB, nc, .inl fz)), (qv, .inl (cC, rm, .inl (upd w n (nI v))))] H := hP
              have hD : va_D A [(qz, .inl (cB, nc, .inl fz)), (qv, .inl (cC, rm, .inl (upd w n (nI v))))] := hD
              refine lv_goto (tgt := 215) hx hb dX2_transcodeToUTF16_2_168 (by decide) ?_
              refine lv_goto (tgt := 11) hx hb dX2_transcodeToUTF16_2_215 (by decide) ?_
              exact ih11 ls H locs ⟨F', k + mm, n + 1, upd w n (nI v), by omega, by omega, by omega, ud_Iv_one c11_i c15 hd c146 (by omega), hP, hD, hS, lv_sub hl [1, 2, 3, 4, 5, 0, 6] rfl⟩
            · refine lv_iconst (v := (-1)) hx hb dX2_transcodeToUTF16_2_156 (by decide) ?_
              have hP9 := hP.sub (ws' := [(qz, .inl (cB, nc, .inl fz)), (qv, .inl (cC, rm, .inl w))]) [0, 1] rfl
              have hD9 := hD.sub (ws' := [(qz, .inl (cB, nc, .inl fz)), (qv, .inl (cC, rm, .inl w))]) [0, 1] (by decide) rfl
              have hK9 := hK.sub (tys' := [(cB, .byte), (cC, .char)]) [0, 1] rfl
              exact W.iret (v := (-1)) hx hb hr (fun t ht hW => ⟨⟨(-1), w, rfl, ud_Iv_full1 c11_i c15 hd c146 (by omega) _, ud_end ht hW hP9 hK9 hD9⟩, hS.F ht⟩) hS.2.2 dX2_transcodeToUTF16_2_157
        · have hd : ud_dc (ud_g fz) k nc = none := ud_map_n (((ud_rn_neg _ _ _ _ _ c79).trans (if_pos c137)).symm.trans (c77_r.symm.trans (ud_dfa (ud_g_lt fz) c15 h128)))
          refine lv_iconst (v := (-1)) hx hb dX2_transcodeToUTF16_2_140 (by decide) ?_
          have hP9 := hP.sub (ws' := [(qz, .inl (cB, nc, .inl fz)), (qv, .inl (cC, rm, .inl w))]) [0, 1] rfl
          have hD9 := hD.sub (ws' := [(qz, .inl (cB, nc, .inl fz)), (qv, .inl (cC, rm, .inl w))]) [0, 1] (by decide) rfl
          have hK9 := hK.sub (tys' := [(cB, .byte), (cC, .char)]) [0, 1] rfl
          exact W.iret (v := (-1)) hx hb hr (fun t ht hW => ⟨⟨(-1), w, rfl, ud_Iv_bad c11_i c15 hd _, ud_end ht hW hP9 hK9 hD9⟩, hS.F ht⟩) hS.2.2 dX2_transcodeToUTF16_2_141
      · refine lv_iload hx hb dX2_transcodeToUTF16_2_82 (lv_at hl 4 rfl) ?_
        refine lv_iload hx hb dX2_transcodeToUTF16_2_84 (lv_at hl 6 rfl) ?_
        refine ud_lt (tgt := 91) hx hb dX2_transcodeToUTF16_2_86 (by decide) (by omega) (by omega) (fun c86 => ?_) (fun c86 => ?_)
        · obtain ⟨q', rfl⟩ : ∃ q', q = q' + 1 := ⟨q - 1, by omega⟩
          have hidx : sv.toNatClampNeg + ud_g fz i / 16 < 112 := by have h1 := (ud_stI c77_o c79 0).2; have h2 := ud_g_lt fz i; omega
          refine lv_aload_n hx hb dX2_transcodeToUTF16_2_91 rfl (lv_at hl 0 rfl) ?_
          refine lv_iload hx hb dX2_transcodeToUTF16_2_92 (lv_at hl 4 rfl) ?_
          refine lv_iinc (v := nI (i + 1)) (lv' := [(4, .int (nI (i + 1))), (0, .ref qz), (1, .int (nI 0)), (2, .int (nI nc)), (3, .ref qv), (5, .int (nI n)), (6, .int (nI nc)), (9, .int cp), (10, .int sv)]) hx hb dX2_transcodeToUTF16_2_94 hl (k := 4) rfl (ud_inc i) (by decide) rfl (fun ls hl => ?_)
          refine ud_bald hx hb hK hP 0 0 rfl rfl c86 (by omega) dX2_transcodeToUTF16_2_97 ?_
          refine ud_top (v := ud_sB (ud_g fz i)) (hz i) ?_
          refine lv_istore (lv' := [(7, .int (ud_sB (ud_g fz i))), (4, .int (nI (i + 1))), (0, .ref qz), (1, .int (nI 0)), (2, .int (nI nc)), (3, .ref qv), (5, .int (nI n)), (6, .int (nI nc)), (9, .int cp), (10, .int sv)]) hx hb dX2_transcodeToUTF16_2_98 hl (by decide) rfl (fun ls hl => ?_)
          refine lv_iload hx hb dX2_transcodeToUTF16_2_100 (lv_at hl 8 rfl) ?_
          refine lv_bipush (v := 6) hx hb dX2_transcodeToUTF16_2_102 (by decide) ?_
          refine lv_ishl hx hb dX2_transcodeToUTF16_2_104 ?_
          refine lv_iload hx hb dX2_transcodeToUTF16_2_105 (lv_at hl 0 rfl) ?_
          refine lv_bipush (v := 63) hx hb dX2_transcodeToUTF16_2_107 (by decide) ?_
          refine lv_iand hx hb dX2_transcodeToUTF16_2_109 ?_
          refine ud_top (v := nI (ud_g fz i % 64)) (ud_b4 _ (ud_g_lt fz i)) ?_
          refine lv_ior hx hb dX2_transcodeToUTF16_2_110 ?_
          refine lv_istore (lv' := [(9, .int ((cp <<< (6 &&& 31)) ||| (nI (ud_g fz i % 64)))), (7, .int (ud_sB (ud_g fz i))), (4, .int (nI (i + 1))), (0, .ref qz), (1, .int (nI 0)), (2, .int (nI nc)), (3, .ref qv), (5, .int (nI n)), (6, .int (nI nc)), (10, .int sv)]) hx hb dX2_transcodeToUTF16_2_111 hl (by decide) rfl (fun ls hl => ?_)
          refine va_gets (C := "UTF8") (n := "transitionTable") (d := "[B") (v := .ref t2) hx hb hT3 hS hown (hts _ q120) (fun _ h9 => h9) dX2_transcodeToUTF16_2_113 ?_
          refine lv_iload hx hb dX2_transcodeToUTF16_2_116 (lv_at hl 9 rfl) ?_
          refine lv_iload hx hb dX2_transcodeToUTF16_2_118 (lv_at hl 1 rfl) ?_
          refine lv_sipush (v := 255) hx hb dX2_transcodeToUTF16_2_120 (by decide) ?_
          refine lv_iand hx hb dX2_transcodeToUTF16_2_123 ?_
          refine ud_top (v := nI (ud_g fz i)) (ud_b1 _ (ud_g_lt fz i)) ?_
          refine lv_iconst (v := 4) hx hb dX2_transcodeToUTF16_2_124 (by decide) ?_
          refine lv_iushr (v := nI (ud_g fz i / 16)) hx hb dX2_transcodeToUTF16_2_125 (ud_b5 _ (ud_g_lt fz i)) ?_
          refine lv_iadd hx hb dX2_transcodeToUTF16_2_126 ?_
          refine ud_top (v := nI (sv.toNatClampNeg + ud_g fz i / 16)) (ud_stI c77_o c79 _).1 ?_
          refine va_tb (v := .int (ud_tt (sv.toNatClampNeg + ud_g fz i / 16))) hx hb hT4 hS (vp_in_nI hidx (by decide)) (by show Value.int (ud_tt (nI (sv.toNatClampNeg + ud_g fz i / 16)).toNatClampNeg) = _; rw [nI_clamp (by omega)]) dX2_transcodeToUTF16_2_127 ?_
          refine lv_istore (lv' := [(10, .int (ud_tt (sv.toNatClampNeg + ud_g fz i / 16))), (9, .int ((cp <<< (6 &&& 31)) ||| (nI (ud_g fz i % 64)))), (7, .int (ud_sB (ud_g fz i))), (4, .int (nI (i + 1))), (0, .ref qz), (1, .int (nI 0)), (2, .int (nI nc)), (3, .ref qv), (5, .int (nI n)), (6, .int (nI nc))]) hx hb dX2_transcodeToUTF16_2_128 hl (by decide) rfl (fun ls hl => ?_)
          refine lv_goto (tgt := 77) hx hb dX2_transcodeToUTF16_2_130 (by decide) ?_
          exact ih77 ls H locs ⟨q', i + 1, (cp <<< ((6 : Int32) &&& 31)) ||| nI (ud_g fz i % 64), ud_tt (sv.toNatClampNeg + ud_g fz i / 16), by omega, by omega, by omega, ud_okS_of (ud_ok_tt _ hidx), c77_r.trans (ud_rn_step c79), hP, hD, hS, lv_sub hl [4, 5, 6, 7, 3, 8, 9, 1, 0] rfl⟩
        · have hq0 : q = 0 := by omega
          subst hq0
          have hd : ud_dc (ud_g fz) k nc = none := ud_map_n ((ud_rn_0n c79).symm.trans (c77_r.symm.trans (ud_dfa (ud_g_lt fz) c15 h128)))
          refine lv_iconst (v := (-1)) hx hb dX2_transcodeToUTF16_2_89 (by decide) ?_
          have hP9 := hP.sub (ws' := [(qz, .inl (cB, nc, .inl fz)), (qv, .inl (cC, rm, .inl w))]) [0, 1] rfl
          have hD9 := hD.sub (ws' := [(qz, .inl (cB, nc, .inl fz)), (qv, .inl (cC, rm, .inl w))]) [0, 1] (by decide) rfl
          have hK9 := hK.sub (tys' := [(cB, .byte), (cC, .char)]) [0, 1] rfl
          exact W.iret (v := (-1)) hx hb hr (fun t ht hW => ⟨⟨(-1), w, rfl, ud_Iv_bad c11_i c15 hd _, ud_end ht hW hP9 hK9 hD9⟩, hS.F ht⟩) hS.2.2 dX2_transcodeToUTF16_2_90
    · have hlt : ud_g fz k < 128 := (ud_b2 _ (ud_g_lt fz k)).mp (Int32.not_lt.mp c29)
      have hd : ud_dc (ud_g fz) k nc = some (ud_g fz k, 1) := by unfold ud_dc; rw [if_pos hlt]
      refine lv_iload hx hb dX2_transcodeToUTF16_2_32 (lv_at hl 6 rfl) ?_
      refine lv_aload_n hx hb dX2_transcodeToUTF16_2_34 rfl (lv_at hl 5 rfl) ?_
      refine va_alen (v := nI rm) hx hb hK hP 1 1 rfl rfl rfl dX2_transcodeToUTF16_2_35 ?_
      refine ud_lt (tgt := 41) hx hb dX2_transcodeToUTF16_2_36 (by decide) (by omega) (by omega) (fun c36 => ?_) (fun c36 => ?_)
      · refine lv_aload_n hx hb dX2_transcodeToUTF16_2_41 rfl (lv_at hl 5 rfl) ?_
        refine lv_iload hx hb dX2_transcodeToUTF16_2_42 (lv_at hl 6 rfl) ?_
        refine lv_iinc (v := nI (n + 1)) (lv' := [(5, .int (nI (n + 1))), (7, .int (ud_sB (ud_g fz k))), (4, .int (nI (k + 1))), (0, .ref qz), (1, .int (nI 0)), (2, .int (nI nc)), (3, .ref qv), (6, .int (nI nc))]) hx hb dX2_transcodeToUTF16_2_44 hl (k := 6) rfl (ud_inc n) (by decide) rfl (fun ls hl => ?_)
        refine lv_iload hx hb dX2_transcodeToUTF16_2_47 (lv_at hl 1 rfl) ?_
        refine ud_top (v := nI (ud_g fz k)) (ud_b2' _ hlt) ?_
        refine lv_i2c (v := nI (ud_g fz k)) hx hb dX2_transcodeToUTF16_2_49 (ud_char (by omega)) ?_
        refine ud_cast hx hb hK hP hD hS 1 1 rfl rfl (upd w n (nI (ud_g fz k))) c36 (by omega) (by omega) rfl dX2_transcodeToUTF16_2_50 (fun H locs hP hD hS => ?_)
        have hP : va_P D ud_Cl [(qz, .inl (cB, nc, .inl fz)), (qv, .inl (cC, rm, .inl (upd w n (nI (ud_g fz k)))))] H := hP
        have hD : va_D A [(qz, .inl (cB, nc, .inl fz)), (qv, .inl (cC, rm, .inl (upd w n (nI (ud_g fz k)))))] := hD
        refine lv_goto (tgt := 11) hx hb dX2_transcodeToUTF16_2_51 (by decide) ?_
        exact ih11 ls H locs ⟨F', k + 1, n + 1, upd w n (nI (ud_g fz k)), by omega, by omega, by omega, ud_Iv_one c11_i c15 hd (by omega) (by omega), hP, hD, hS, lv_sub hl [3, 4, 5, 6, 2, 0, 7] rfl⟩
      · refine lv_iconst (v := (-1)) hx hb dX2_transcodeToUTF16_2_39 (by decide) ?_
        have hP9 := hP.sub (ws' := [(qz, .inl (cB, nc, .inl fz)), (qv, .inl (cC, rm, .inl w))]) [0, 1] rfl
        have hD9 := hD.sub (ws' := [(qz, .inl (cB, nc, .inl fz)), (qv, .inl (cC, rm, .inl w))]) [0, 1] (by decide) rfl
        have hK9 := hK.sub (tys' := [(cB, .byte), (cC, .char)]) [0, 1] rfl
        exact W.iret (v := (-1)) hx hb hr (fun t ht hW => ⟨⟨(-1), w, rfl, ud_Iv_full1 c11_i c15 hd (by omega) (by omega) _, ud_end ht hW hP9 hK9 hD9⟩, hS.F ht⟩) hS.2.2 dX2_transcodeToUTF16_2_40
set_option maxHeartbeats 4000000 in
set_option maxRecDepth 100000 in
theorem ud_X2_transcodeToUTF16 (l : Launch) (D : va_G) (sz : Nat) (t1 t2 : Nat) (qz qv nc rm : Nat) (cB cC : ClassId) (fz fw : Nat → Int32) (hz : ud_isB fz) (hnc : nc ≤ 128) (hrm : rm ≤ 160) : Met l yX2_transcodeToUTF16 (ws_ yX2_transcodeToUTF16 cX2_transcodeToUTF16 2 (some .int)) ({ frames := 1, cells := 0, slots := 0, locals := 30 }) (va_Pc [.ref qz, .ref qv] (ud_Wt D [(qz, .inl (cB, nc, .inl fz)), (qv, .inl (cC, rm, .inl fw))] [(cB, .byte), (cC, .char)] sz t1 t2)) (va_Qi (fun (r : Int32) (u : Nat → Int32) => ud_An (ud_dU (ud_g fz) nc nc 0) rm r u) (fun u t => ud_E D (va_A [(qz, .inl (cB, nc, .inl fz)), (qv, .inl (cC, rm, .inl fw))] sz) [(qz, .inl (cB, nc, .inl fz)), (qv, .inl (cC, rm, .inl u))] [(cB, .byte), (cC, .char)] t) (va_A [(qz, .inl (cB, nc, .inl fz)), (qv, .inl (cC, rm, .inl fw))] sz)) 0 0 (va_A [(qz, .inl (cB, nc, .inl fz)), (qv, .inl (cC, rm, .inl fw))] sz) := by
  refine Met.ofW (cc := cX2_transcodeToUTF16) (maxL := 2) (ret := (some .int)) (by decide) rfl ?_
  intro p e s m args below meth c s₁ B hml hv
  obtain ⟨rfl, ⟨hsz, hP, hK, hD0⟩, hTb⟩ := hv
  have hx := B.exec
  have hb := B.bytes
  have hr := B.returns
  have hts := atoms_spec (ws := ws_ yX2_transcodeToUTF16 cX2_transcodeToUTF16 2 (some .int)) B.pre
  have hts : ∀ w ∈ lw_all, w.before _ s = true := fun w h => hts w (List.mem_cons_of_mem _ h)
  have hown : s.vm.findClass RX2 = some m.cls := findClass_of_methodNamed B.named
  have hlocks := B.notSynchronized
  subst hsz
  have hD := hD0.self (sz := s.heap.size)
  generalize hAe : va_A [(qz, .inl (cB, nc, .inl fz)), (qv, .inl (cC, rm, .inl fw))] s.heap.size = A at hD hTb ⊢
  have hA : ∀ q : Nat, s.heap.size ≤ q → A q := fun q h => by rw [← hAe]; exact Or.inr h
  have hS : va_S A s.heap s.heap [] := va_S.rf
  have hP : va_P D ud_Cl [(qz, .inl (cB, nc, .inl fz)), (qv, .inl (cC, rm, .inl fw))] s.heap := hP
  have hl := lv_entry ([.ref qz, .ref qv]) (n := 2) (Nat.le_of_ble_eq_true rfl)
  rw [lg_entry_eq]
  generalize (lg_sl ([.ref qz, .ref qv]) ++ List.replicate (2 - (lg_sl ([.ref qz, .ref qv])).length) Slot.unset).toArray = ls at hl ⊢
  have hl : lv_has ls 2 [(0, .ref qz), (1, .ref qv)] := hl
  refine lv_aload_n hx hb dX2_transcodeToUTF16_0 rfl (lv_at hl 0 rfl) ?_
  refine lv_iconst (v := nI 0) hx hb dX2_transcodeToUTF16_1 (by decide) ?_
  refine lv_aload_n hx hb dX2_transcodeToUTF16_2 rfl (lv_at hl 0 rfl) ?_
  refine va_alen (v := nI nc) hx hb hK hP 0 0 rfl rfl rfl dX2_transcodeToUTF16_3 ?_
  refine lv_aload_n hx hb dX2_transcodeToUTF16_4 rfl (lv_at hl 1 rfl) ?_
  have hPc := hP.sub (ws' := [(qz, .inl (cB, nc, .inl fz)), (qv, .inl (cC, rm, .inl fw))]) [0, 1] rfl
  have hDc := hD.sub (ws' := [(qz, .inl (cB, nc, .inl fz)), (qv, .inl (cC, rm, .inl fw))]) [0, 1] (by decide) rfl
  have hKc := hK.sub (tys' := [(cB, .byte), (cC, .char)]) [0, 1] rfl
  have hFc := va_free (wc := [(qz, .inl (cB, nc, .inl fz)), (qv, .inl (cC, rm, .inl fw))]) hD hS hA [0, 1] rfl
  refine va_calli (va_runS (As := [.ref qz, .int (nI 0), .int (nI nc), .ref qv]) (rest := []) ⟨hx, hb, hml, hown, hts⟩ (ud_X2_transcodeToUTF16_2 l D s.heap.size t1 t2 qz qv nc rm cB cC fz fw hz hnc hrm) (va_cwS 4 hts (lw_S q115 q116 q13 q117) rfl rfl rfl (by decide +kernel) ⟨Nat.le_of_ble_eq_true rfl, Nat.le_of_ble_eq_true rfl⟩) ⟨ud_fbt, fun U hU hW => ⟨rfl, ud_got hPc hKc hDc hTb hS hFc U hU hW⟩⟩ rfl rfl hl.1 rfl (lv_room (Nat.le_of_ble_eq_true rfl)) dX2_transcodeToUTF16_5 ⟨Nat.le_of_ble_eq_true rfl, Nat.le_of_ble_eq_true rfl⟩) hS (fun q _ h => hFc q h) hFc (fun r u t H1 locs ht hvm hw hB hz1 hk1 hS => ?_)
  obtain ⟨hP1, hK1, hD1⟩ := hB
  rw [ht] at hP1
  obtain ⟨hP, hD⟩ := va_join (wr := []) (w1 := [(qz, .inl (cB, nc, .inl fz)), (qv, .inl (cC, rm, .inl u))]) hP hD [0, 1] [] rfl rfl (by decide) (by decide) hk1 hFc hP1 hD1
  generalize H1 = H at hP hS ⊢
  have hP : va_P D ud_Cl [(qz, .inl (cB, nc, .inl fz)), (qv, .inl (cC, rm, .inl u))] H := hP
  have hD : va_D A [(qz, .inl (cB, nc, .inl fz)), (qv, .inl (cC, rm, .inl u))] := hD
  have hP9 := hP.sub (ws' := [(qz, .inl (cB, nc, .inl fz)), (qv, .inl (cC, rm, .inl u))]) [0, 1] rfl
  have hD9 := hD.sub (ws' := [(qz, .inl (cB, nc, .inl fz)), (qv, .inl (cC, rm, .inl u))]) [0, 1] (by decide) rfl
  have hK9 := hK.sub (tys' := [(cB, .byte), (cC, .char)]) [0, 1] rfl
  exact W.iret (v := r) hx hb hr (fun t ht hW => ⟨⟨r, u, rfl, hw, ud_end ht hW hP9 hK9 hD9⟩, hS.F ht⟩) hS.2.2 dX2_transcodeToUTF16_8
end
section
/-! UtfDesk (printed by gen/desk.py) -/
theorem ud_An_m1 {T : Option (List Nat)} {room : Nat} {u : Nat → Int32} (hr : room ≤ 160) (h : ud_An T room (-1) u) (u' : Nat → Int32) : ud_An T room (-1) u' := by
  rcases h with ⟨a1, b1⟩ | ⟨L1, a1, b1, c1, d1⟩
  · exact Or.inl ⟨a1, b1⟩
  · have h2 := congrArg Int32.toInt c1
    rw [nI_toInt (by omega), show (-1 : Int32).toInt = -1 by decide] at h2
    omega
theorem ud_cp_0 {w dw : Nat → Int32} {i : Nat} (h : ∀ j, j < i → dw j = w j) : ∀ j, j < i + 1 → upd dw i (w i) j = w j := by
  intro j hj
  by_cases e : j = i
  · subst e
    exact pk_us
  · rw [pk_un e]
    exact h j (by omega)
set_option maxHeartbeats 4000000 in
set_option maxRecDepth 100000 in
theorem ud_X1_init (l : Launch) (D : va_G) (sz : Nat) (qd : Nat) : Met l yX1_init (ws_ yX1_init cX1_init 1 none) ({ frames := 1, cells := 2, slots := 288, locals := 12 }) (va_Pc [.ref qd] (ud_W D [(qd, .inr (0, [.null, .int 0, .null, .int 0]))] [] sz)) (va_Qv (fun (u : Nat × Nat × ClassId × ClassId) => True) (fun u t => ud_E D (va_A [(qd, .inr (0, [.null, .int 0, .null, .int 0]))] sz) [(qd, .inr (0, [.ref u.1, .int 0, .ref u.2.1, .int (-1)])), (u.1, .inl (u.2.2.1, 128, .inl (fun _ => 0))), (u.2.1, .inl (u.2.2.2, 160, .inl (fun _ => 0)))] [(u.2.2.1, .byte), (u.2.2.2, .char)] t) (va_A [(qd, .inr (0, [.null, .int 0, .null, .int 0]))] sz)) 2 288 (va_A [(qd, .inr (0, [.null, .int 0, .null, .int 0]))] sz) := by
  refine Met.ofW (cc := cX1_init) (maxL := 1) (ret := none) (by decide) rfl ?_
  intro p e s m args below meth c s₁ B hml hv
  obtain ⟨rfl, hsz, hP, hK, hD0⟩ := hv
  have hx := B.exec
  have hb := B.bytes
  have hr := B.returns
  have hts := atoms_spec (ws := ws_ yX1_init cX1_init 1 none) B.pre
  have hts : ∀ w ∈ lw_all, w.before _ s = true := fun w h => hts w (List.mem_cons_of_mem _ h)
  have hown : s.vm.findClass RX1 = some m.cls := findClass_of_methodNamed B.named
  have hlocks := B.notSynchronized
  have hin : meth.name = "<init>" := (name_of_methodNamed B.named B.method).1
  subst hsz
  have hD := hD0.self (sz := s.heap.size)
  generalize hAe : va_A [(qd, .inr (0, [.null, .int 0, .null, .int 0]))] s.heap.size = A at hD ⊢
  have hA : ∀ q : Nat, s.heap.size ≤ q → A q := fun q h => by rw [← hAe]; exact Or.inr h
  have hS : va_S A s.heap s.heap [] := va_S.rf
  have hP : va_P D ud_Cl [(qd, .inr (0, [.null, .int 0, .null, .int 0]))] s.heap := hP
  have hl := lv_entry ([.ref qd]) (n := 1) (Nat.le_of_ble_eq_true rfl)
  rw [lg_entry_eq]
  generalize (lg_sl ([.ref qd]) ++ List.replicate (1 - (lg_sl ([.ref qd])).length) Slot.unset).toArray = ls at hl ⊢
  have hl : lv_has ls 1 [(0, .ref qd)] := hl
  refine lv_aload_n hx hb dX1_init_0 rfl (lv_at hl 0 rfl) ?_
  refine W.objInit hx hb hown (hts _ q32) (hts _ q25) (hts _ q26) rfl (by rw [hml]; exact hl.1) rfl dX1_init_1 (Nat.le_of_ble_eq_true rfl) (Nat.le_of_ble_eq_true rfl) ?_
  refine W.eq (g2 := F0 m 4 ls []) rfl ?_
  refine lv_aload_n hx hb dX1_init_4 rfl (lv_at hl 0 rfl) ?_
  refine lv_sipush (v := 128) hx hb dX1_init_5 (by decide) ?_
  refine va_newa (atype := .byte) (ty := .byte) (a0 := (128, .inl (fun _ => 0))) hx hb (hts _ q46) rfl hK hP hD hS hA (fun _ => rfl) (by decide) (by decide) (Nat.le_of_ble_eq_true rfl) (Nat.le_of_ble_eq_true rfl) (Nat.le_of_ble_eq_true rfl) dX1_init_8 (fun qt cB H hK hP hD hS => ?_)
  have hP : va_P D ud_Cl [(qd, .inr (0, [.null, .int 0, .null, .int 0])), (qt, .inl (cB, 128, .inl (fun _ => 0)))] H := hP
  have hD : va_D A [(qd, .inr (0, [.null, .int 0, .null, .int 0])), (qt, .inl (cB, 128, .inl (fun _ => 0)))] := hD
  have hK : va_K D ud_Cl [(cB, .byte)] s := hK
  refine W.widen (k := 1) (n := 128) (by omega) (by omega) ?_
  refine va_putF (D := D) (ci := 0) (v := .ref qt) (ty := .array .byte) (C := RX1) (T := TX1) (N := 4) hx hb hts in_X1 tyX1 tyX1_ok nmX1 hown hK hP hD hS 0 rfl rfl 0 (by decide) (hts _ q33) (fun _ h9 => h9) rfl hin rfl (by decide +kernel) rfl rfl (Nat.le_of_ble_eq_true rfl) dX1_init_10 (fun H locs hP hD hS => ?_)
  have hP : va_P D ud_Cl [(qd, .inr (0, [.ref qt, .int 0, .null, .int 0])), (qt, .inl (cB, 128, .inl (fun _ => 0)))] H := hP
  have hD : va_D A [(qd, .inr (0, [.ref qt, .int 0, .null, .int 0])), (qt, .inl (cB, 128, .inl (fun _ => 0)))] := hD
  refine lv_aload_n hx hb dX1_init_13 rfl (lv_at hl 0 rfl) ?_
  refine lv_sipush (v := 160) hx hb dX1_init_14 (by decide) ?_
  refine va_newa (atype := .char) (ty := .char) (a0 := (160, .inl (fun _ => 0))) hx hb (hts _ q47) rfl hK hP hD hS hA (fun _ => rfl) (by decide) (by decide) (Nat.le_of_ble_eq_true rfl) (Nat.le_of_ble_eq_true rfl) (Nat.le_of_ble_eq_true rfl) dX1_init_17 (fun qu cC H hK hP hD hS => ?_)
  have hP : va_P D ud_Cl [(qd, .inr (0, [.ref qt, .int 0, .null, .int 0])), (qt, .inl (cB, 128, .inl (fun _ => 0))), (qu, .inl (cC, 160, .inl (fun _ => 0)))] H := hP
  have hD : va_D A [(qd, .inr (0, [.ref qt, .int 0, .null, .int 0])), (qt, .inl (cB, 128, .inl (fun _ => 0))), (qu, .inl (cC, 160, .inl (fun _ => 0)))] := hD
  have hK : va_K D ud_Cl [(cB, .byte), (cC, .char)] s := hK
  refine W.widen (k := 2) (n := 288) (by omega) (by omega) ?_
  refine va_putF (D := D) (ci := 0) (v := .ref qu) (ty := .array .char) (C := RX1) (T := TX1) (N := 4) hx hb hts in_X1 tyX1 tyX1_ok nmX1 hown hK hP hD hS 0 rfl rfl 2 (by decide) (hts _ q35) (fun _ h9 => h9) rfl hin rfl (by decide +kernel) rfl rfl (Nat.le_of_ble_eq_true rfl) dX1_init_19 (fun H locs hP hD hS => ?_)
  have hP : va_P D ud_Cl [(qd, .inr (0, [.ref qt, .int 0, .ref qu, .int 0])), (qt, .inl (cB, 128, .inl (fun _ => 0))), (qu, .inl (cC, 160, .inl (fun _ => 0)))] H := hP
  have hD : va_D A [(qd, .inr (0, [.ref qt, .int 0, .ref qu, .int 0])), (qt, .inl (cB, 128, .inl (fun _ => 0))), (qu, .inl (cC, 160, .inl (fun _ => 0)))] := hD
  refine lv_aload_n hx hb dX1_init_22 rfl (lv_at hl 0 rfl) ?_
  refine lv_iconst (v := (-1)) hx hb dX1_init_23 (by decide) ?_
  refine va_put (D := D) (ci := 0) (v := .int (-1)) (ty := .int) (C := RX1) (T := TX1) (N := 4) hx hb hts in_X1 tyX1 tyX1_ok nmX1 hown hK hP hD hS 0 rfl rfl 3 (by decide) (hts _ q36) (fun _ h9 => h9) rfl (by decide +kernel) rfl rfl (Nat.le_of_ble_eq_true rfl) dX1_init_24 (fun H locs hP hD hS => ?_)
  have hP : va_P D ud_Cl [(qd, .inr (0, [.ref qt, .int 0, .ref qu, .int (-1)])), (qt, .inl (cB, 128, .inl (fun _ => 0))), (qu, .inl (cC, 160, .inl (fun _ => 0)))] H := hP
  have hD : va_D A [(qd, .inr (0, [.ref qt, .int 0, .ref qu, .int (-1)])), (qt, .inl (cB, 128, .inl (fun _ => 0))), (qu, .inl (cC, 160, .inl (fun _ => 0)))] := hD
  have hP9 := hP.sub (ws' := [(qd, .inr (0, [.ref qt, .int 0, .ref qu, .int (-1)])), (qt, .inl (cB, 128, .inl (fun _ => 0))), (qu, .inl (cC, 160, .inl (fun _ => 0)))]) [0, 1, 2] rfl
  have hD9 := hD.sub (ws' := [(qd, .inr (0, [.ref qt, .int 0, .ref qu, .int (-1)])), (qt, .inl (cB, 128, .inl (fun _ => 0))), (qu, .inl (cC, 160, .inl (fun _ => 0)))]) [0, 1, 2] (by decide) rfl
  have hK9 := hK.sub (tys' := [(cB, .byte), (cC, .char)]) [0, 1] rfl
  exact W.vret hx hb hr (fun t ht hW => ⟨⟨(qt, qu, cB, cC), rfl, trivial, ud_end ht hW hP9 hK9 hD9⟩, hS.F ht⟩) hS.2.2 dX1_init_27
set_option maxHeartbeats 4000000 in
set_option maxRecDepth 100000 in
theorem ud_X1_part (l : Launch) (D : va_G) (sz : Nat) (qd qt qu z : Nat) (cB : ClassId) (md : Int32) (f : Nat → Int32) (hz : z ≤ 128) (hf : ud_isB f) (x y : Int32) : Met l yX1_part (ws_ yX1_part cX1_part 7 (some (.array .byte))) ({ frames := 1, cells := 1, slots := 128, locals := 22 }) (va_Pc [.ref qd, .int x, .int y] (ud_W D [(qd, .inr (0, [.ref qt, .int (nI z), .ref qu, .int md])), (qt, .inl (cB, 128, .inl f))] [(cB, .byte)] sz)) (va_Qr (fun (u : ClassId) => True) (fun u r t => ud_E D (va_A [(qd, .inr (0, [.ref qt, .int (nI z), .ref qu, .int md])), (qt, .inl (cB, 128, .inl f))] sz) [(qd, .inr (0, [.ref qt, .int (nI z), .ref qu, .int md])), (qt, .inl (cB, 128, .inl f)), (r, .inl (u, ud_fM y (z - ud_fM x (z + 1) + 1), .inl (fun j => f (ud_fM x (z + 1) + j))))] [(cB, .byte), (u, .byte)] t) (va_A [(qd, .inr (0, [.ref qt, .int (nI z), .ref qu, .int md])), (qt, .inl (cB, 128, .inl f))] sz)) 1 128 (va_A [(qd, .inr (0, [.ref qt, .int (nI z), .ref qu, .int md])), (qt, .inl (cB, 128, .inl f))] sz) := by
  refine Met.ofW (cc := cX1_part) (maxL := 7) (ret := (some (.array .byte))) (by decide) rfl ?_
  intro p e s m args below meth c s₁ B hml hv
  obtain ⟨rfl, hsz, hP, hK, hD0⟩ := hv
  have hx := B.exec
  have hb := B.bytes
  have hr := B.returns
  have hts := atoms_spec (ws := ws_ yX1_part cX1_part 7 (some (.array .byte))) B.pre
  have hts : ∀ w ∈ lw_all, w.before _ s = true := fun w h => hts w (List.mem_cons_of_mem _ h)
  have hown : s.vm.findClass RX1 = some m.cls := findClass_of_methodNamed B.named
  have hlocks := B.notSynchronized
  subst hsz
  have hD := hD0.self (sz := s.heap.size)
  generalize hAe : va_A [(qd, .inr (0, [.ref qt, .int (nI z), .ref qu, .int md])), (qt, .inl (cB, 128, .inl f))] s.heap.size = A at hD ⊢
  have hA : ∀ q : Nat, s.heap.size ≤ q → A q := fun q h => by rw [← hAe]; exact Or.inr h
  have hS : va_S A s.heap s.heap [] := va_S.rf
  have hP : va_P D ud_Cl [(qd, .inr (0, [.ref qt, .int (nI z), .ref qu, .int md])), (qt, .inl (cB, 128, .inl f))] s.heap := hP
  have hl := lv_entry ([.ref qd, .int x, .int y]) (n := 7) (Nat.le_of_ble_eq_true rfl)
  rw [lg_entry_eq]
  generalize (lg_sl ([.ref qd, .int x, .int y]) ++ List.replicate (7 - (lg_sl ([.ref qd, .int x, .int y])).length) Slot.unset).toArray = ls at hl ⊢
  have hl : lv_has ls 7 [(0, .ref qd), (1, .int x), (2, .int y)] := hl
  have ha := ud_fM_lt x (m := z + 1) (by omega)
  have hc := ud_fM_lt y (m := z - ud_fM x (z + 1) + 1) (by omega)
  generalize hae : ud_fM x (z + 1) = a at ha hc ⊢
  generalize hce : ud_fM y (z - a + 1) = nc at hc ⊢
  refine lv_aload_n hx hb dX1_part_0 rfl (lv_at hl 0 rfl) ?_
  refine lv_iload_n hx hb dX1_part_1 rfl (lv_at hl 1 rfl) ?_
  have hPc := hP.sub (ws' := [(qd, .inr (0, [.ref qt, .int (nI z), .ref qu, .int md]))]) [0] rfl
  have hDc := hD.sub (ws' := [(qd, .inr (0, [.ref qt, .int (nI z), .ref qu, .int md]))]) [0] (by decide) rfl
  have hKc := hK.sub (tys' := []) [] rfl
  have hFc := va_free (wc := [(qd, .inr (0, [.ref qt, .int (nI z), .ref qu, .int md]))]) hD hS hA [0] rfl
  refine va_calli (va_runV (As := [.int x]) (rest := []) ⟨hx, hb, hml, hown, hts⟩ (ud_X1_from l D s.heap.size qd qt qu z md hz x) (cwV 1 hts (lw_V q104 q106 qs4 q12 q107) rfl rfl rfl (by decide +kernel) ⟨Nat.le_of_ble_eq_true rfl, Nat.le_of_ble_eq_true rfl⟩) ⟨ud_fb, va_recv hKc hPc (ci := 0) (q0 := 0) rfl rfl, fun U hU hW => ⟨rfl, ud_go hPc hKc hDc U hU hW⟩⟩ rfl rfl hl.1 rfl (lv_room (Nat.le_of_ble_eq_true rfl)) dX1_part_2 ⟨Nat.le_of_ble_eq_true rfl, Nat.le_of_ble_eq_true rfl⟩) hS (fun q _ h => hFc q h) hFc (fun r u t H1 locs ht hvm hw hB hz1 hk1 hS => ?_)
  obtain ⟨hP1, hK1, hD1⟩ := hB
  rw [ht] at hP1
  obtain ⟨hP, hD⟩ := va_join (wr := [(qt, .inl (cB, 128, .inl f))]) (w1 := [(qd, .inr (0, [.ref qt, .int (nI z), .ref qu, .int md]))]) hP hD [0] [1] rfl rfl (by decide) (by decide) hk1 hFc hP1 hD1
  generalize H1 = H at hP hS ⊢
  have hP : va_P D ud_Cl [(qt, .inl (cB, 128, .inl f)), (qd, .inr (0, [.ref qt, .int (nI z), .ref qu, .int md]))] H := hP
  have hD : va_D A [(qt, .inl (cB, 128, .inl f)), (qd, .inr (0, [.ref qt, .int (nI z), .ref qu, .int md]))] := hD
  have hP := hP.sub (ws' := [(qd, .inr (0, [.ref qt, .int (nI z), .ref qu, .int md])), (qt, .inl (cB, 128, .inl f))]) [1, 0] rfl
  have hD := hD.sub (ws' := [(qd, .inr (0, [.ref qt, .int (nI z), .ref qu, .int md])), (qt, .inl (cB, 128, .inl f))]) [1, 0] (by decide) rfl
  rw [hae] at hw
  subst hw
  refine lv_istore_n (lv' := [(3, .int (nI a)), (0, .ref qd), (1, .int x), (2, .int y)]) hx hb dX1_part_5 rfl hl (by decide) rfl (fun ls hl => ?_)
  refine lv_aload_n hx hb dX1_part_6 rfl (lv_at hl 1 rfl) ?_
  refine lv_iload_n hx hb dX1_part_7 rfl (lv_at hl 0 rfl) ?_
  refine lv_iload_n hx hb dX1_part_8 rfl (lv_at hl 3 rfl) ?_
  have hPc := hP.sub (ws' := [(qd, .inr (0, [.ref qt, .int (nI z), .ref qu, .int md]))]) [0] rfl
  have hDc := hD.sub (ws' := [(qd, .inr (0, [.ref qt, .int (nI z), .ref qu, .int md]))]) [0] (by decide) rfl
  have hKc := hK.sub (tys' := []) [] rfl
  have hFc := va_free (wc := [(qd, .inr (0, [.ref qt, .int (nI z), .ref qu, .int md]))]) hD hS hA [0] rfl
  refine va_calli (va_runV (As := [.int (nI a), .int y]) (rest := []) ⟨hx, hb, hml, hown, hts⟩ (ud_X1_count l D H.size qd qt qu z a md hz (by omega) y) (cwV 2 hts (lw_V q108 q110 qs5 q12 q111) rfl rfl rfl (by decide +kernel) ⟨Nat.le_of_ble_eq_true rfl, Nat.le_of_ble_eq_true rfl⟩) ⟨ud_fb, va_recv hKc hPc (ci := 0) (q0 := 0) rfl rfl, fun U hU hW => ⟨rfl, ud_go hPc hKc hDc U hU hW⟩⟩ rfl rfl hl.1 rfl (lv_room (Nat.le_of_ble_eq_true rfl)) dX1_part_9 ⟨Nat.le_of_ble_eq_true rfl, Nat.le_of_ble_eq_true rfl⟩) hS (fun q _ h => hFc q h) hFc (fun r u t H1 locs ht hvm hw hB hz1 hk1 hS => ?_)
  obtain ⟨hP1, hK1, hD1⟩ := hB
  rw [ht] at hP1
  obtain ⟨hP, hD⟩ := va_join (wr := [(qt, .inl (cB, 128, .inl f))]) (w1 := [(qd, .inr (0, [.ref qt, .int (nI z), .ref qu, .int md]))]) hP hD [0] [1] rfl rfl (by decide) (by decide) hk1 hFc hP1 hD1
  generalize H1 = H at hP hS ⊢
  have hP : va_P D ud_Cl [(qt, .inl (cB, 128, .inl f)), (qd, .inr (0, [.ref qt, .int (nI z), .ref qu, .int md]))] H := hP
  have hD : va_D A [(qt, .inl (cB, 128, .inl f)), (qd, .inr (0, [.ref qt, .int (nI z), .ref qu, .int md]))] := hD
  have hP := hP.sub (ws' := [(qd, .inr (0, [.ref qt, .int (nI z), .ref qu, .int md])), (qt, .inl (cB, 128, .inl f))]) [1, 0] rfl
  have hD := hD.sub (ws' := [(qd, .inr (0, [.ref qt, .int (nI z), .ref qu, .int md])), (qt, .inl (cB, 128, .inl f))]) [1, 0] (by decide) rfl
  rw [hce] at hw
  subst hw
  refine lv_istore (lv' := [(4, .int (nI nc)), (3, .int (nI a)), (0, .ref qd), (1, .int x), (2, .int y)]) hx hb dX1_part_12 hl (by decide) rfl (fun ls hl => ?_)
  refine lv_iload hx hb dX1_part_14 (lv_at hl 0 rfl) ?_
  refine va_newa (atype := .byte) (ty := .byte) (a0 := (nc, .inl (fun _ => 0))) hx hb (hts _ q46) rfl hK hP hD hS hA (fun _ => rfl) (nI_pos (by omega)) (nI_clamp (by omega)) (by show nc * 1 ≤ 536870912; omega) (Nat.le_of_ble_eq_true rfl) (by show 0 + nc ≤ 128; omega) dX1_part_16 (fun qn cN H hK hP hD hS => ?_)
  have hP : va_P D ud_Cl [(qd, .inr (0, [.ref qt, .int (nI z), .ref qu, .int md])), (qt, .inl (cB, 128, .inl f)), (qn, .inl (cN, nc, .inl (fun _ => 0)))] H := hP
  have hD : va_D A [(qd, .inr (0, [.ref qt, .int (nI z), .ref qu, .int md])), (qt, .inl (cB, 128, .inl f)), (qn, .inl (cN, nc, .inl (fun _ => 0)))] := hD
  have hK : va_K D ud_Cl [(cB, .byte), (cN, .byte)] s := hK
  refine W.widen (k := 1) (n := 128) (by omega) (by omega) ?_
  refine lv_astore (lv' := [(5, .ref qn), (4, .int (nI nc)), (3, .int (nI a)), (0, .ref qd), (1, .int x), (2, .int y)]) hx hb dX1_part_18 hl (by decide) rfl (fun ls hl => ?_)
  refine lv_iconst (v := nI 0) hx hb dX1_part_20 (by decide) ?_
  refine lv_istore (lv' := [(6, .int (nI 0)), (5, .ref qn), (4, .int (nI nc)), (3, .int (nI a)), (0, .ref qd), (1, .int x), (2, .int y)]) hx hb dX1_part_21 hl (by decide) rfl (fun ls hl => ?_)
  refine ud_ind (pc2 := 23) (stk := []) (J := fun (nn : Nat) (ls : Array Slot) (H : Heap) (locs : List Loc) => ∃ (i : Nat) (w : Nat → Int32), (nc + 1 ≤ i + nn) ∧ (i ≤ nc) ∧ (∀ j, j < i → w j = f (a + j)) ∧ va_P D ud_Cl [(qd, .inr (0, [.ref qt, .int (nI z), .ref qu, .int md])), (qt, .inl (cB, 128, .inl f)), (qn, .inl (cN, nc, .inl w))] H ∧ va_D A [(qd, .inr (0, [.ref qt, .int (nI z), .ref qu, .int md])), (qt, .inl (cB, 128, .inl f)), (qn, .inl (cN, nc, .inl w))] ∧ va_S A s.heap H locs ∧ lv_has ls 7 [(0, .ref qd), (1, .int x), (2, .int y), (3, .int (nI a)), (4, .int (nI nc)), (5, .ref qn), (6, .int (nI i))]) (fun ls H locs h => by obtain ⟨i, w, c23_m, c23_i, c23_w, -⟩ := h; omega) (nc + 1) ⟨0, fun _ => 0, by omega, by omega, fun j h => absurd h (by omega), hP, hD, hS, lv_sub hl [4, 5, 6, 3, 2, 1, 0] rfl⟩ ?_
  intro nn ih23 ls H locs hJ
  obtain ⟨i, w, c23_m, c23_i, c23_w, hP, hD, hS, hl⟩ := hJ
  refine lv_iload hx hb dX1_part_23 (lv_at hl 6 rfl) ?_
  refine lv_iload hx hb dX1_part_25 (lv_at hl 4 rfl) ?_
  refine ud_ge (tgt := 50) hx hb dX1_part_27 (by decide) (by omega) (by omega) (fun c27 => ?_) (fun c27 => ?_)
  · refine lv_aload hx hb dX1_part_50 (lv_at hl 5 rfl) ?_
    have hP := ud_P_ext (f' := fun j => f (a + j)) hP (k := 2) rfl (fun j hj => c23_w j (by omega))
    have hD := hD.set (p := 2) (e := .inl (cN, nc, .inl (fun j => f (a + j)))) rfl
    have hP : va_P D ud_Cl [(qd, .inr (0, [.ref qt, .int (nI z), .ref qu, .int md])), (qt, .inl (cB, 128, .inl f)), (qn, .inl (cN, nc, .inl (fun j => f (a + j))))] H := hP
    have hD : va_D A [(qd, .inr (0, [.ref qt, .int (nI z), .ref qu, .int md])), (qt, .inl (cB, 128, .inl f)), (qn, .inl (cN, nc, .inl (fun j => f (a + j))))] := hD
    have hP9 := hP.sub (ws' := [(qd, .inr (0, [.ref qt, .int (nI z), .ref qu, .int md])), (qt, .inl (cB, 128, .inl f)), (qn, .inl (cN, nc, .inl (fun j => f (a + j))))]) [0, 1, 2] rfl
    have hD9 := hD.sub (ws' := [(qd, .inr (0, [.ref qt, .int (nI z), .ref qu, .int md])), (qt, .inl (cB, 128, .inl f)), (qn, .inl (cN, nc, .inl (fun j => f (a + j))))]) [0, 1, 2] (by decide) rfl
    have hK9 := hK.sub (tys' := [(cB, .byte), (cN, .byte)]) [0, 1] rfl
    exact W.aret (v := .ref qn) hx hb hr (Or.inr ⟨_, rfl⟩) (Or.inr ⟨_, rfl⟩) (fun t ht hW => ⟨⟨cN, qn, rfl, trivial, ud_end ht hW hP9 hK9 hD9⟩, hS.F ht⟩) hS.2.2 dX1_part_52
  · refine lv_aload hx hb dX1_part_30 (lv_at hl 5 rfl) ?_
    refine lv_iload hx hb dX1_part_32 (lv_at hl 6 rfl) ?_
    refine lv_aload_n hx hb dX1_part_34 rfl (lv_at hl 0 rfl) ?_
    refine va_get (D := D) (ci := 0) (v := .ref qt) (C := RX1) (T := TX1) (N := 4) hx hb hts in_X1 hown hK hP 0 rfl rfl 0 (by decide) (hts _ q33) (fun _ h9 => h9) rfl dX1_part_35 ?_
    refine lv_iload_n hx hb dX1_part_38 rfl (lv_at hl 3 rfl) ?_
    refine lv_iload hx hb dX1_part_39 (lv_at hl 6 rfl) ?_
    refine lv_iadd hx hb dX1_part_41 ?_
    refine ud_top (v := nI (a + i)) (nI_add _ _) ?_
    refine ud_bald hx hb hK hP 1 0 rfl rfl (by omega) (by decide) dX1_part_42 ?_
    refine ud_bast hx hb hK hP hD hS 2 1 rfl rfl (upd w i (f (a + i))) (by omega) (by omega) (ud_isB_b hf _) rfl dX1_part_43 (fun H locs hP hD hS => ?_)
    have hP : va_P D ud_Cl [(qd, .inr (0, [.ref qt, .int (nI z), .ref qu, .int md])), (qt, .inl (cB, 128, .inl f)), (qn, .inl (cN, nc, .inl (upd w i (f (a + i)))))] H := hP
    have hD : va_D A [(qd, .inr (0, [.ref qt, .int (nI z), .ref qu, .int md])), (qt, .inl (cB, 128, .inl f)), (qn, .inl (cN, nc, .inl (upd w i (f (a + i)))))] := hD
    refine lv_iinc (v := nI (i + 1)) (lv' := [(6, .int (nI (i + 1))), (0, .ref qd), (1, .int x), (2, .int y), (3, .int (nI a)), (4, .int (nI nc)), (5, .ref qn)]) hx hb dX1_part_44 hl (k := 6) rfl (ud_inc i) (by decide) rfl (fun ls hl => ?_)
    refine lv_goto (tgt := 23) hx hb dX1_part_47 (by decide) ?_
    exact ih23 ls H locs ⟨i + 1, upd w i (f (a + i)), by omega, by omega, ud_cp_s c23_w, hP, hD, hS, lv_sub hl [1, 2, 3, 4, 5, 6, 0] rfl⟩
set_option maxHeartbeats 4000000 in
set_option maxRecDepth 100000 in
theorem ud_X1_turn (l : Launch) (D : va_G) (sz : Nat) (t1 t2 : Nat) (qd qt qu z : Nat) (cB cC : ClassId) (md : Int32) (f du : Nat → Int32) (hz : z ≤ 128) (hf : ud_isB f) (x y ro : Int32) : Met l yX1_turn (ws_ yX1_turn cX1_turn 7 (some .int)) ({ frames := 2, cells := 2, slots := 288, locals := 51 }) (va_Pc [.ref qd, .int x, .int y, .int ro] (ud_Wt D [(qd, .inr (0, [.ref qt, .int (nI z), .ref qu, .int md])), (qt, .inl (cB, 128, .inl f)), (qu, .inl (cC, 160, .inl du))] [(cB, .byte), (cC, .char)] sz t1 t2)) (va_Qi (fun (r : Int32) (u : Int32 × (Nat → Int32)) => r = u.1 ∧ ud_An (ud_dU (ud_g f) (ud_fM x (z + 1) + ud_fM y (z - ud_fM x (z + 1) + 1)) (ud_fM y (z - ud_fM x (z + 1) + 1)) (ud_fM x (z + 1))) (ud_fM ro 161) u.1 u.2) (fun u t => ud_E D (va_A [(qd, .inr (0, [.ref qt, .int (nI z), .ref qu, .int md])), (qt, .inl (cB, 128, .inl f)), (qu, .inl (cC, 160, .inl du))] sz) [(qd, .inr (0, [.ref qt, .int (nI z), .ref qu, .int u.1])), (qt, .inl (cB, 128, .inl f)), (qu, .inl (cC, 160, .inl u.2))] [(cB, .byte), (cC, .char)] t) (va_A [(qd, .inr (0, [.ref qt, .int (nI z), .ref qu, .int md])), (qt, .inl (cB, 128, .inl f)), (qu, .inl (cC, 160, .inl du))] sz)) 2 288 (va_A [(qd, .inr (0, [.ref qt, .int (nI z), .ref qu, .int md])), (qt, .inl (cB, 128, .inl f)), (qu, .inl (cC, 160, .inl du))] sz) := by
  refine Met.ofW (cc := cX1_turn) (maxL := 7) (ret := (some .int)) (by decide) rfl ?_
  intro p e s m args below meth c s₁ B hml hv
  obtain ⟨rfl, ⟨hsz, hP, hK, hD0⟩, hTb⟩ := hv
  have hx := B.exec
  have hb := B.bytes
  have hr := B.returns
  have hts := atoms_spec (ws := ws_ yX1_turn cX1_turn 7 (some .int)) B.pre
  have hts : ∀ w ∈ lw_all, w.before _ s = true := fun w h => hts w (List.mem_cons_of_mem _ h)
  have hown : s.vm.findClass RX1 = some m.cls := findClass_of_methodNamed B.named
  have hlocks := B.notSynchronized
  subst hsz
  have hD := hD0.self (sz := s.heap.size)
  generalize hAe : va_A [(qd, .inr (0, [.ref qt, .int (nI z), .ref qu, .int md])), (qt, .inl (cB, 128, .inl f)), (qu, .inl (cC, 160, .inl du))] s.heap.size = A at hD hTb ⊢
  have hA : ∀ q : Nat, s.heap.size ≤ q → A q := fun q h => by rw [← hAe]; exact Or.inr h
  have hS : va_S A s.heap s.heap [] := va_S.rf
  have hP : va_P D ud_Cl [(qd, .inr (0, [.ref qt, .int (nI z), .ref qu, .int md])), (qt, .inl (cB, 128, .inl f)), (qu, .inl (cC, 160, .inl du))] s.heap := hP
  have hl := lv_entry ([.ref qd, .int x, .int y, .int ro]) (n := 7) (Nat.le_of_ble_eq_true rfl)
  rw [lg_entry_eq]
  generalize (lg_sl ([.ref qd, .int x, .int y, .int ro]) ++ List.replicate (7 - (lg_sl ([.ref qd, .int x, .int y, .int ro])).length) Slot.unset).toArray = ls at hl ⊢
  have hl : lv_has ls 7 [(0, .ref qd), (1, .int x), (2, .int y), (3, .int ro)] := hl
  have ha := ud_fM_lt x (m := z + 1) (by omega)
  have hc := ud_fM_lt y (m := z - ud_fM x (z + 1) + 1) (by omega)
  generalize hae : ud_fM x (z + 1) = a at ha hc ⊢
  generalize hce : ud_fM y (z - a + 1) = nc at hc ⊢
  have hrm := ud_fM_lt ro (m := 161) (by decide)
  generalize hke : ud_fM ro 161 = rm at hrm ⊢
  refine lv_aload_n hx hb dX1_turn_0 rfl (lv_at hl 0 rfl) ?_
  refine lv_iload_n hx hb dX1_turn_1 rfl (lv_at hl 1 rfl) ?_
  refine lv_iload_n hx hb dX1_turn_2 rfl (lv_at hl 2 rfl) ?_
  have hPc := hP.sub (ws' := [(qd, .inr (0, [.ref qt, .int (nI z), .ref qu, .int md])), (qt, .inl (cB, 128, .inl f))]) [0, 1] rfl
  have hDc := hD.sub (ws' := [(qd, .inr (0, [.ref qt, .int (nI z), .ref qu, .int md])), (qt, .inl (cB, 128, .inl f))]) [0, 1] (by decide) rfl
  have hKc := hK.sub (tys' := [(cB, .byte)]) [0] rfl
  have hFc := va_free (wc := [(qd, .inr (0, [.ref qt, .int (nI z), .ref qu, .int md])), (qt, .inl (cB, 128, .inl f))]) hD hS hA [0, 1] rfl
  refine va_callr (va_runV (As := [.int x, .int y]) (rest := []) ⟨hx, hb, hml, hown, hts⟩ (ud_X1_part l D s.heap.size qd qt qu z cB md f hz hf x y) (cwV 2 hts (lw_V q100 q102 qs3 q12 q103) rfl rfl rfl (by decide +kernel) ⟨Nat.le_of_ble_eq_true rfl, Nat.le_of_ble_eq_true rfl⟩) ⟨ud_fb, va_recv hKc hPc (ci := 0) (q0 := 0) rfl rfl, fun U hU hW => ⟨rfl, ud_go hPc hKc hDc U hU hW⟩⟩ rfl rfl hl.1 rfl (lv_room (Nat.le_of_ble_eq_true rfl)) dX1_turn_3 ⟨Nat.le_of_ble_eq_true rfl, Nat.le_of_ble_eq_true rfl⟩) hS (fun q _ h => hFc q h) hFc (fun cN qz t H1 locs ht hvm hw hB hz1 hk1 hS => ?_)
  rw [hae, hce] at hB
  obtain ⟨hP1, hK1, hD1⟩ := hB
  rw [ht] at hP1
  obtain ⟨hP, hD⟩ := va_join (wr := [(qu, .inl (cC, 160, .inl du))]) (w1 := [(qd, .inr (0, [.ref qt, .int (nI z), .ref qu, .int md])), (qt, .inl (cB, 128, .inl f)), (qz, .inl (cN, nc, .inl (fun j => f (a + j))))]) hP hD [0, 1] [2] rfl rfl (by decide) (by decide) hk1 hFc hP1 hD1
  have hK1 := va_K.moved hvm.symm hK1
  have hK := hK.app (hK1.sub (tys' := [(cN, .byte)]) [1] rfl)
  have hK : va_K D ud_Cl [(cB, .byte), (cC, .char), (cN, .byte)] s := hK
  generalize H1 = H at hP hS ⊢
  have hP : va_P D ud_Cl [(qu, .inl (cC, 160, .inl du)), (qd, .inr (0, [.ref qt, .int (nI z), .ref qu, .int md])), (qt, .inl (cB, 128, .inl f)), (qz, .inl (cN, nc, .inl (fun j => f (a + j))))] H := hP
  have hD : va_D A [(qu, .inl (cC, 160, .inl du)), (qd, .inr (0, [.ref qt, .int (nI z), .ref qu, .int md])), (qt, .inl (cB, 128, .inl f)), (qz, .inl (cN, nc, .inl (fun j => f (a + j))))] := hD
  have hP := hP.sub (ws' := [(qd, .inr (0, [.ref qt, .int (nI z), .ref qu, .int md])), (qt, .inl (cB, 128, .inl f)), (qu, .inl (cC, 160, .inl du)), (qz, .inl (cN, nc, .inl (fun j => f (a + j))))]) [1, 2, 0, 3] rfl
  have hD := hD.sub (ws' := [(qd, .inr (0, [.ref qt, .int (nI z), .ref qu, .int md])), (qt, .inl (cB, 128, .inl f)), (qu, .inl (cC, 160, .inl du)), (qz, .inl (cN, nc, .inl (fun j => f (a + j))))]) [1, 2, 0, 3] (by decide) rfl
  refine W.widen (k := 1) (n := 128) (by omega) (by omega) ?_
  refine lv_astore (lv' := [(4, .ref qz), (0, .ref qd), (1, .int x), (2, .int y), (3, .int ro)]) hx hb dX1_turn_6 hl (by decide) rfl (fun ls hl => ?_)
  refine lv_iload_n hx hb dX1_turn_8 rfl (lv_at hl 4 rfl) ?_
  refine lv_ldc hx hb hown (hts _ q18) dX1_turn_9 ?_
  refine lv_iand hx hb dX1_turn_11 ?_
  refine lv_sipush (v := nI 161) hx hb dX1_turn_12 (by decide) ?_
  refine lv_irem hx hb dX1_turn_15 (by decide) ?_
  refine ud_top (v := nI rm) ((ud_rem ro (by decide) (by decide)).trans (congrArg nI hke)) ?_
  refine va_newa (atype := .char) (ty := .char) (a0 := (rm, .inl (fun _ => 0))) hx hb (hts _ q47) rfl hK hP hD hS hA (fun _ => rfl) (nI_pos (by omega)) (nI_clamp (by omega)) (by show rm * 2 ≤ 536870912; omega) (Nat.le_of_ble_eq_true rfl) (by show 128 + rm ≤ 288; omega) dX1_turn_16 (fun qv cV H hK hP hD hS => ?_)
  have hP : va_P D ud_Cl [(qd, .inr (0, [.ref qt, .int (nI z), .ref qu, .int md])), (qt, .inl (cB, 128, .inl f)), (qu, .inl (cC, 160, .inl du)), (qz, .inl (cN, nc, .inl (fun j => f (a + j)))), (qv, .inl (cV, rm, .inl (fun _ => 0)))] H := hP
  have hD : va_D A [(qd, .inr (0, [.ref qt, .int (nI z), .ref qu, .int md])), (qt, .inl (cB, 128, .inl f)), (qu, .inl (cC, 160, .inl du)), (qz, .inl (cN, nc, .inl (fun j => f (a + j)))), (qv, .inl (cV, rm, .inl (fun _ => 0)))] := hD
  have hK : va_K D ud_Cl [(cB, .byte), (cC, .char), (cN, .byte), (cV, .char)] s := hK
  refine W.widen (k := 2) (n := 288) (by omega) (by omega) ?_
  refine lv_astore (lv' := [(5, .ref qv), (4, .ref qz), (0, .ref qd), (1, .int x), (2, .int y), (3, .int ro)]) hx hb dX1_turn_18 hl (by decide) rfl (fun ls hl => ?_)
  refine lv_aload_n hx hb dX1_turn_20 rfl (lv_at hl 2 rfl) ?_
  refine lv_aload hx hb dX1_turn_21 (lv_at hl 1 rfl) ?_
  refine lv_aload hx hb dX1_turn_23 (lv_at hl 0 rfl) ?_
  have hPc := hP.sub (ws' := [(qz, .inl (cN, nc, .inl (fun j => f (a + j)))), (qv, .inl (cV, rm, .inl (fun _ => 0)))]) [3, 4] rfl
  have hDc := hD.sub (ws' := [(qz, .inl (cN, nc, .inl (fun j => f (a + j)))), (qv, .inl (cV, rm, .inl (fun _ => 0)))]) [3, 4] (by decide) rfl
  have hKc := hK.sub (tys' := [(cN, .byte), (cV, .char)]) [2, 3] rfl
  have hFc := va_free (wc := [(qz, .inl (cN, nc, .inl (fun j => f (a + j)))), (qv, .inl (cV, rm, .inl (fun _ => 0)))]) hD hS hA [3, 4] rfl
  refine va_calli (va_runS (As := [.ref qz, .ref qv]) (rest := [.ref qd]) ⟨hx, hb, hml, hown, hts⟩ (ud_X2_transcodeToUTF16 l D H.size t1 t2 qz qv nc rm cN cV (fun j => f (a + j)) (fun _ => 0) (fun j => hf (a + j)) (by omega) (by omega)) (va_cwS 2 hts (lw_S q112 q113 q13 q114) rfl rfl rfl (by decide +kernel) ⟨Nat.le_of_ble_eq_true rfl, Nat.le_of_ble_eq_true rfl⟩) ⟨ud_fbt, fun U hU hW => ⟨rfl, ud_got hPc hKc hDc hTb hS hFc U hU hW⟩⟩ rfl rfl hl.1 rfl (lv_room (Nat.le_of_ble_eq_true rfl)) dX1_turn_25 ⟨Nat.le_of_ble_eq_true rfl, Nat.le_of_ble_eq_true rfl⟩) hS (fun q _ h => hFc q h) hFc (fun mr w t H1 locs ht hvm hw hB hz1 hk1 hS => ?_)
  obtain ⟨hP1, hK1, hD1⟩ := hB
  rw [ht] at hP1
  obtain ⟨hP, hD⟩ := va_join (wr := [(qd, .inr (0, [.ref qt, .int (nI z), .ref qu, .int md])), (qt, .inl (cB, 128, .inl f)), (qu, .inl (cC, 160, .inl du))]) (w1 := [(qz, .inl (cN, nc, .inl (fun j => f (a + j)))), (qv, .inl (cV, rm, .inl w))]) hP hD [3, 4] [0, 1, 2] rfl rfl (by decide) (by decide) hk1 hFc hP1 hD1
  generalize H1 = H at hP hS ⊢
  have hP : va_P D ud_Cl [(qd, .inr (0, [.ref qt, .int (nI z), .ref qu, .int md])), (qt, .inl (cB, 128, .inl f)), (qu, .inl (cC, 160, .inl du)), (qz, .inl (cN, nc, .inl (fun j => f (a + j)))), (qv, .inl (cV, rm, .inl w))] H := hP
  have hD : va_D A [(qd, .inr (0, [.ref qt, .int (nI z), .ref qu, .int md])), (qt, .inl (cB, 128, .inl f)), (qu, .inl (cC, 160, .inl du)), (qz, .inl (cN, nc, .inl (fun j => f (a + j)))), (qv, .inl (cV, rm, .inl w))] := hD
  have hw : ud_An (ud_dU (ud_g f) (a + nc) nc a) rm mr w := by
    have e := ud_dU_shift (ud_g f) a nc nc 0
    rw [Nat.add_zero] at e
    rw [← e]
    exact hw
  refine va_put (D := D) (ci := 0) (v := .int mr) (ty := .int) (C := RX1) (T := TX1) (N := 4) hx hb hts in_X1 tyX1 tyX1_ok nmX1 hown hK hP hD hS 0 rfl rfl 3 (by decide) (hts _ q36) (fun _ h9 => h9) rfl (by decide +kernel) rfl rfl (Nat.le_of_ble_eq_true rfl) dX1_turn_28 (fun H locs hP hD hS => ?_)
  have hP : va_P D ud_Cl [(qd, .inr (0, [.ref qt, .int (nI z), .ref qu, .int mr])), (qt, .inl (cB, 128, .inl f)), (qu, .inl (cC, 160, .inl du)), (qz, .inl (cN, nc, .inl (fun j => f (a + j)))), (qv, .inl (cV, rm, .inl w))] H := hP
  have hD : va_D A [(qd, .inr (0, [.ref qt, .int (nI z), .ref qu, .int mr])), (qt, .inl (cB, 128, .inl f)), (qu, .inl (cC, 160, .inl du)), (qz, .inl (cN, nc, .inl (fun j => f (a + j)))), (qv, .inl (cV, rm, .inl w))] := hD
  rcases ud_An_md (by omega) hw with hm | ⟨n, hn, hm, hv⟩
  · subst hm
    refine lv_iconst (v := nI 0) hx hb dX1_turn_31 (by decide) ?_
    refine lv_istore (lv' := [(6, .int (nI 0)), (5, .ref qv), (4, .ref qz), (0, .ref qd), (1, .int x), (2, .int y), (3, .int ro)]) hx hb dX1_turn_32 hl (by decide) rfl (fun ls hl => ?_)
    refine lv_iload hx hb dX1_turn_34 (lv_at hl 0 rfl) ?_
    refine lv_aload_n hx hb dX1_turn_36 rfl (lv_at hl 3 rfl) ?_
    refine va_get (D := D) (ci := 0) (v := .int (-1)) (C := RX1) (T := TX1) (N := 4) hx hb hts in_X1 hown hK hP 0 rfl rfl 3 (by decide) (hts _ q36) (fun _ h9 => h9) rfl dX1_turn_37 ?_
    refine lv_icmp_ge (tgt := 61) hx hb dX1_turn_40 (by decide) (fun c40 => ?_) (fun c40 => ?_)
    · refine lv_aload_n hx hb dX1_turn_61 rfl (lv_at hl 3 rfl) ?_
      refine va_get (D := D) (ci := 0) (v := .int (-1)) (C := RX1) (T := TX1) (N := 4) hx hb hts in_X1 hown hK hP 0 rfl rfl 3 (by decide) (hts _ q36) (fun _ h9 => h9) rfl dX1_turn_62 ?_
      have hP9 := hP.sub (ws' := [(qd, .inr (0, [.ref qt, .int (nI z), .ref qu, .int (-1)])), (qt, .inl (cB, 128, .inl f)), (qu, .inl (cC, 160, .inl du))]) [0, 1, 2] rfl
      have hD9 := hD.sub (ws' := [(qd, .inr (0, [.ref qt, .int (nI z), .ref qu, .int (-1)])), (qt, .inl (cB, 128, .inl f)), (qu, .inl (cC, 160, .inl du))]) [0, 1, 2] (by decide) rfl
      have hK9 := hK.sub (tys' := [(cB, .byte), (cC, .char)]) [0, 1] rfl
      exact W.iret (v := (-1)) hx hb hr (fun t ht hW => ⟨⟨(-1), (-1, du), rfl, ⟨rfl, ud_An_m1 (by omega) hw _⟩, ud_end ht hW hP9 hK9 hD9⟩, hS.F ht⟩) hS.2.2 dX1_turn_65
    · exact absurd (show (-1 : Int32) ≤ nI 0 by decide) c40
  · subst hm
    refine lv_iconst (v := nI 0) hx hb dX1_turn_31 (by decide) ?_
    refine lv_istore (lv' := [(6, .int (nI 0)), (5, .ref qv), (4, .ref qz), (0, .ref qd), (1, .int x), (2, .int y), (3, .int ro)]) hx hb dX1_turn_32 hl (by decide) rfl (fun ls hl => ?_)
    refine ud_ind (pc2 := 34) (stk := []) (J := fun (nn : Nat) (ls : Array Slot) (H : Heap) (locs : List Loc) => ∃ (i : Nat) (dw : Nat → Int32), (n + 1 ≤ i + nn) ∧ (i ≤ n) ∧ (∀ j, j < i → dw j = w j) ∧ va_P D ud_Cl [(qd, .inr (0, [.ref qt, .int (nI z), .ref qu, .int (nI n)])), (qt, .inl (cB, 128, .inl f)), (qu, .inl (cC, 160, .inl dw)), (qz, .inl (cN, nc, .inl (fun j => f (a + j)))), (qv, .inl (cV, rm, .inl w))] H ∧ va_D A [(qd, .inr (0, [.ref qt, .int (nI z), .ref qu, .int (nI n)])), (qt, .inl (cB, 128, .inl f)), (qu, .inl (cC, 160, .inl dw)), (qz, .inl (cN, nc, .inl (fun j => f (a + j)))), (qv, .inl (cV, rm, .inl w))] ∧ va_S A s.heap H locs ∧ lv_has ls 7 [(0, .ref qd), (1, .int x), (2, .int y), (3, .int ro), (4, .ref qz), (5, .ref qv), (6, .int (nI i))]) (fun ls H locs h => by obtain ⟨i, dw, c34_m, c34_i, c34_w, -⟩ := h; omega) (n + 1) ⟨0, du, by omega, by omega, fun j h => absurd h (by omega), hP, hD, hS, lv_sub hl [3, 4, 5, 6, 2, 1, 0] rfl⟩ ?_
    intro nn ih34 ls H locs hJ
    obtain ⟨i, dw, c34_m, c34_i, c34_w, hP, hD, hS, hl⟩ := hJ
    refine lv_iload hx hb dX1_turn_34 (lv_at hl 6 rfl) ?_
    refine lv_aload_n hx hb dX1_turn_36 rfl (lv_at hl 0 rfl) ?_
    refine va_get (D := D) (ci := 0) (v := .int (nI n)) (C := RX1) (T := TX1) (N := 4) hx hb hts in_X1 hown hK hP 0 rfl rfl 3 (by decide) (hts _ q36) (fun _ h9 => h9) rfl dX1_turn_37 ?_
    refine ud_ge (tgt := 61) hx hb dX1_turn_40 (by decide) (by omega) (by omega) (fun c40 => ?_) (fun c40 => ?_)
    · refine lv_aload_n hx hb dX1_turn_61 rfl (lv_at hl 0 rfl) ?_
      refine va_get (D := D) (ci := 0) (v := .int (nI n)) (C := RX1) (T := TX1) (N := 4) hx hb hts in_X1 hown hK hP 0 rfl rfl 3 (by decide) (hts _ q36) (fun _ h9 => h9) rfl dX1_turn_62 ?_
      have hP9 := hP.sub (ws' := [(qd, .inr (0, [.ref qt, .int (nI z), .ref qu, .int (nI n)])), (qt, .inl (cB, 128, .inl f)), (qu, .inl (cC, 160, .inl dw))]) [0, 1, 2] rfl
      have hD9 := hD.sub (ws' := [(qd, .inr (0, [.ref qt, .int (nI z), .ref qu, .int (nI n)])), (qt, .inl (cB, 128, .inl f)), (qu, .inl (cC, 160, .inl dw))]) [0, 1, 2] (by decide) rfl
      have hK9 := hK.sub (tys' := [(cB, .byte), (cC, .char)]) [0, 1] rfl
      exact W.iret (v := (nI n)) hx hb hr (fun t ht hW => ⟨⟨(nI n), (nI n, dw), rfl, ⟨rfl, ud_An_cp hw (fun n2 h2 h3 j hj => c34_w j (by have := (nI_eq (by omega) (by omega)).mp h2; omega))⟩, ud_end ht hW hP9 hK9 hD9⟩, hS.F ht⟩) hS.2.2 dX1_turn_65
    · obtain ⟨v, hv1, hv2⟩ := hv i (by omega)
      refine lv_aload_n hx hb dX1_turn_43 rfl (lv_at hl 0 rfl) ?_
      refine va_get (D := D) (ci := 0) (v := .ref qu) (C := RX1) (T := TX1) (N := 4) hx hb hts in_X1 hown hK hP 0 rfl rfl 2 (by decide) (hts _ q35) (fun _ h9 => h9) rfl dX1_turn_44 ?_
      refine lv_iload hx hb dX1_turn_47 (lv_at hl 6 rfl) ?_
      refine lv_aload hx hb dX1_turn_49 (lv_at hl 5 rfl) ?_
      refine lv_iload hx hb dX1_turn_51 (lv_at hl 6 rfl) ?_
      refine ud_cald hx hb hK hP 4 3 rfl rfl (by omega) (by omega) dX1_turn_53 ?_
      refine ud_top (v := nI v) hv2 ?_
      refine ud_cast hx hb hK hP hD hS 2 1 rfl rfl (upd dw i (w i)) (by omega) (by decide) hv1 (by rw [hv2]) dX1_turn_54 (fun H locs hP hD hS => ?_)
      have hP : va_P D ud_Cl [(qd, .inr (0, [.ref qt, .int (nI z), .ref qu, .int (nI n)])), (qt, .inl (cB, 128, .inl f)), (qu, .inl (cC, 160, .inl (upd dw i (w i)))), (qz, .inl (cN, nc, .inl (fun j => f (a + j)))), (qv, .inl (cV, rm, .inl w))] H := hP
      have hD : va_D A [(qd, .inr (0, [.ref qt, .int (nI z), .ref qu, .int (nI n)])), (qt, .inl (cB, 128, .inl f)), (qu, .inl (cC, 160, .inl (upd dw i (w i)))), (qz, .inl (cN, nc, .inl (fun j => f (a + j)))), (qv, .inl (cV, rm, .inl w))] := hD
      refine lv_iinc (v := nI (i + 1)) (lv' := [(6, .int (nI (i + 1))), (0, .ref qd), (1, .int x), (2, .int y), (3, .int ro), (4, .ref qz), (5, .ref qv)]) hx hb dX1_turn_55 hl (k := 6) rfl (ud_inc i) (by decide) rfl (fun ls hl => ?_)
      refine lv_goto (tgt := 34) hx hb dX1_turn_58 (by decide) ?_
      exact ih34 ls H locs ⟨i + 1, upd dw i (w i), by omega, by omega, ud_cp_0 c34_w, hP, hD, hS, lv_sub hl [1, 2, 3, 4, 5, 6, 0] rfl⟩
set_option maxHeartbeats 4000000 in
set_option maxRecDepth 100000 in
theorem ud_X1_letter (l : Launch) (D : va_G) (sz : Nat) (qd qt qu z : Nat) (cB : ClassId) (md : Int32) (f : Nat → Int32) (hz : z ≤ 128) (x v : Int32) : Met l yX1_letter (ws_ yX1_letter cX1_letter 7 (some .int)) ({ frames := 1, cells := 0, slots := 0, locals := 21 }) (va_Pc [.ref qd, .int x, .int v] (ud_W D [(qd, .inr (0, [.ref qt, .int (nI z), .ref qu, .int md])), (qt, .inl (cB, 128, .inl f))] [(cB, .byte)] sz)) (va_Qi (fun (r : Int32) (u : Nat → Int32) => (z < ud_fM x (z + 1) + ud_nd (ud_fM v 1114112) → r = -1 ∧ u = f) ∧ (ud_fM x (z + 1) + ud_nd (ud_fM v 1114112) ≤ z → r = nI (ud_nd (ud_fM v 1114112)) ∧ u = ud_eP f (ud_fM x (z + 1)) (ud_fM v 1114112) (ud_nd (ud_fM v 1114112)))) (fun u t => ud_E D (va_A [(qd, .inr (0, [.ref qt, .int (nI z), .ref qu, .int md])), (qt, .inl (cB, 128, .inl f))] sz) [(qd, .inr (0, [.ref qt, .int (nI z), .ref qu, .int md])), (qt, .inl (cB, 128, .inl u))] [(cB, .byte)] t) (va_A [(qd, .inr (0, [.ref qt, .int (nI z), .ref qu, .int md])), (qt, .inl (cB, 128, .inl f))] sz)) 0 0 (va_A [(qd, .inr (0, [.ref qt, .int (nI z), .ref qu, .int md])), (qt, .inl (cB, 128, .inl f))] sz) := by
  refine Met.ofW (cc := cX1_letter) (maxL := 7) (ret := (some .int)) (by decide) rfl ?_
  intro p e s m args below meth c s₁ B hml hv
  obtain ⟨rfl, hsz, hP, hK, hD0⟩ := hv
  have hx := B.exec
  have hb := B.bytes
  have hr := B.returns
  have hts := atoms_spec (ws := ws_ yX1_letter cX1_letter 7 (some .int)) B.pre
  have hts : ∀ w ∈ lw_all, w.before _ s = true := fun w h => hts w (List.mem_cons_of_mem _ h)
  have hown : s.vm.findClass RX1 = some m.cls := findClass_of_methodNamed B.named
  have hlocks := B.notSynchronized
  subst hsz
  have hD := hD0.self (sz := s.heap.size)
  generalize hAe : va_A [(qd, .inr (0, [.ref qt, .int (nI z), .ref qu, .int md])), (qt, .inl (cB, 128, .inl f))] s.heap.size = A at hD ⊢
  have hA : ∀ q : Nat, s.heap.size ≤ q → A q := fun q h => by rw [← hAe]; exact Or.inr h
  have hS : va_S A s.heap s.heap [] := va_S.rf
  have hP : va_P D ud_Cl [(qd, .inr (0, [.ref qt, .int (nI z), .ref qu, .int md])), (qt, .inl (cB, 128, .inl f))] s.heap := hP
  have hl := lv_entry ([.ref qd, .int x, .int v]) (n := 7) (Nat.le_of_ble_eq_true rfl)
  rw [lg_entry_eq]
  generalize (lg_sl ([.ref qd, .int x, .int v]) ++ List.replicate (7 - (lg_sl ([.ref qd, .int x, .int v])).length) Slot.unset).toArray = ls at hl ⊢
  have hl : lv_has ls 7 [(0, .ref qd), (1, .int x), (2, .int v)] := hl
  have ha := ud_fM_lt x (m := z + 1) (by omega)
  have hq := ud_fM_lt v (m := 1114112) (by decide)
  generalize hae : ud_fM x (z + 1) = a at ha ⊢
  generalize hqe : ud_fM v 1114112 = q at hq ⊢
  have hn1 := ud_nd_pos q
  refine lv_iload_n hx hb dX1_letter_0 rfl (lv_at hl 2 rfl) ?_
  refine lv_ldc hx hb hown (hts _ q18) dX1_letter_1 ?_
  refine lv_iand hx hb dX1_letter_3 ?_
  refine lv_ldc (v := nI 1114112) hx hb hown (hts _ q154) dX1_letter_4 ?_
  refine lv_irem hx hb dX1_letter_6 (by decide) ?_
  refine ud_top (v := nI q) ((ud_rem v (by decide) (by decide)).trans (congrArg nI hqe)) ?_
  refine lv_istore_n (lv' := [(3, .int (nI q)), (0, .ref qd), (1, .int x), (2, .int v)]) hx hb dX1_letter_7 rfl hl (by decide) rfl (fun ls hl => ?_)
  refine ud_cut (pc2 := 41) (stk := [.int (nI (ud_nd q))]) (fun ls => lv_has ls 7 [(0, .ref qd), (1, .int x), (2, .int v), (3, .int (nI q))]) (fun ls hl => ?_) (fun K41 => ?_)
  · refine lv_istore (lv' := [(4, .int (nI (ud_nd q))), (0, .ref qd), (1, .int x), (2, .int v), (3, .int (nI q))]) hx hb dX1_letter_41 hl (by decide) rfl (fun ls hl => ?_)
    refine lv_aload_n hx hb dX1_letter_43 rfl (lv_at hl 1 rfl) ?_
    refine lv_iload_n hx hb dX1_letter_44 rfl (lv_at hl 2 rfl) ?_
    have hPc := hP.sub (ws' := [(qd, .inr (0, [.ref qt, .int (nI z), .ref qu, .int md]))]) [0] rfl
    have hDc := hD.sub (ws' := [(qd, .inr (0, [.ref qt, .int (nI z), .ref qu, .int md]))]) [0] (by decide) rfl
    have hKc := hK.sub (tys' := []) [] rfl
    have hFc := va_free (wc := [(qd, .inr (0, [.ref qt, .int (nI z), .ref qu, .int md]))]) hD hS hA [0] rfl
    refine va_calli (va_runV (As := [.int x]) (rest := []) ⟨hx, hb, hml, hown, hts⟩ (ud_X1_from l D s.heap.size qd qt qu z md hz x) (cwV 1 hts (lw_V q104 q106 qs4 q12 q107) rfl rfl rfl (by decide +kernel) ⟨Nat.le_of_ble_eq_true rfl, Nat.le_of_ble_eq_true rfl⟩) ⟨ud_fb, va_recv hKc hPc (ci := 0) (q0 := 0) rfl rfl, fun U hU hW => ⟨rfl, ud_go hPc hKc hDc U hU hW⟩⟩ rfl rfl hl.1 rfl (lv_room (Nat.le_of_ble_eq_true rfl)) dX1_letter_45 ⟨Nat.le_of_ble_eq_true rfl, Nat.le_of_ble_eq_true rfl⟩) hS (fun q _ h => hFc q h) hFc (fun r u t H1 locs ht hvm hw hB hz1 hk1 hS => ?_)
    obtain ⟨hP1, hK1, hD1⟩ := hB
    rw [ht] at hP1
    obtain ⟨hP, hD⟩ := va_join (wr := [(qt, .inl (cB, 128, .inl f))]) (w1 := [(qd, .inr (0, [.ref qt, .int (nI z), .ref qu, .int md]))]) hP hD [0] [1] rfl rfl (by decide) (by decide) hk1 hFc hP1 hD1
    generalize H1 = H at hP hS ⊢
    have hP : va_P D ud_Cl [(qt, .inl (cB, 128, .inl f)), (qd, .inr (0, [.ref qt, .int (nI z), .ref qu, .int md]))] H := hP
    have hD : va_D A [(qt, .inl (cB, 128, .inl f)), (qd, .inr (0, [.ref qt, .int (nI z), .ref qu, .int md]))] := hD
    have hP := hP.sub (ws' := [(qd, .inr (0, [.ref qt, .int (nI z), .ref qu, .int md])), (qt, .inl (cB, 128, .inl f))]) [1, 0] rfl
    have hD := hD.sub (ws' := [(qd, .inr (0, [.ref qt, .int (nI z), .ref qu, .int md])), (qt, .inl (cB, 128, .inl f))]) [1, 0] (by decide) rfl
    rw [hae] at hw
    subst hw
    refine lv_istore (lv' := [(5, .int (nI a)), (4, .int (nI (ud_nd q))), (0, .ref qd), (1, .int x), (2, .int v), (3, .int (nI q))]) hx hb dX1_letter_48 hl (by decide) rfl (fun ls hl => ?_)
    refine lv_iload hx hb dX1_letter_50 (lv_at hl 0 rfl) ?_
    refine lv_iload hx hb dX1_letter_52 (lv_at hl 1 rfl) ?_
    refine lv_iadd hx hb dX1_letter_54 ?_
    refine ud_top (v := nI (a + ud_nd q)) (nI_add _ _) ?_
    refine lv_aload_n hx hb dX1_letter_55 rfl (lv_at hl 2 rfl) ?_
    refine va_get (D := D) (ci := 0) (v := .int (nI z)) (C := RX1) (T := TX1) (N := 4) hx hb hts in_X1 hown hK hP 0 rfl rfl 1 (by decide) (hts _ q34) (fun _ h9 => h9) rfl dX1_letter_56 ?_
    refine ud_le (tgt := 64) hx hb dX1_letter_59 (by decide) (by omega) (by omega) (fun c59 => ?_) (fun c59 => ?_)
    · refine lv_iload hx hb dX1_letter_64 (lv_at hl 1 rfl) ?_
      refine lv_iconst (v := nI 1) hx hb dX1_letter_66 (by decide) ?_
      refine ud_ne (tgt := 82) hx hb dX1_letter_67 (by decide) (by omega) (by decide) (fun c67 => ?_) (fun c67 => ?_)
      · refine lv_iload hx hb dX1_letter_82 (lv_at hl 1 rfl) ?_
        refine lv_iconst (v := nI 1) hx hb dX1_letter_84 (by decide) ?_
        refine lv_isub hx hb dX1_letter_85 ?_
        refine ud_top (v := nI (ud_nd q - 1)) (pk_sub (by omega)) ?_
        refine lv_istore (lv' := [(6, .int (nI (ud_nd q - 1))), (5, .int (nI a)), (4, .int (nI (ud_nd q))), (0, .ref qd), (1, .int x), (2, .int v), (3, .int (nI q))]) hx hb dX1_letter_86 hl (by decide) rfl (fun ls hl => ?_)
        refine ud_ind (pc2 := 88) (stk := []) (J := fun (nn : Nat) (ls : Array Slot) (H : Heap) (locs : List Loc) => ∃ (i : Nat) (pn : Nat) (w : Nat → Int32), (i + 1 ≤ nn) ∧ (i + 1 ≤ ud_nd q) ∧ (pn = q / 64 ^ (ud_nd q - 1 - i)) ∧ (w = ud_eD f a q i) ∧ va_P D ud_Cl [(qd, .inr (0, [.ref qt, .int (nI z), .ref qu, .int md])), (qt, .inl (cB, 128, .inl w))] H ∧ va_D A [(qd, .inr (0, [.ref qt, .int (nI z), .ref qu, .int md])), (qt, .inl (cB, 128, .inl w))] ∧ va_S A s.heap H locs ∧ lv_has ls 7 [(0, .ref qd), (1, .int x), (2, .int v), (3, .int (nI pn)), (4, .int (nI (ud_nd q))), (5, .int (nI a)), (6, .int (nI i))]) (fun ls H locs h => by obtain ⟨i, pn, w, c88_m, c88_i, c88_p, c88_w, -⟩ := h; omega) (ud_nd q) ⟨ud_nd q - 1, q, f, by omega, by omega, by rw [Nat.sub_self, Nat.pow_zero, Nat.div_one], (ud_eD_0 f a q).symm, hP, hD, hS, lv_sub hl [3, 4, 5, 6, 2, 1, 0] rfl⟩ ?_
        intro nn ih88 ls H locs hJ
        obtain ⟨i, pn, w, c88_m, c88_i, c88_p, c88_w, hP, hD, hS, hl⟩ := hJ
        subst c88_p
        subst c88_w
        refine lv_iload hx hb dX1_letter_88 (lv_at hl 6 rfl) ?_
        refine ud_ifle (tgt := 123) hx hb dX1_letter_90 (by decide) (by omega) (fun c90 => ?_) (fun c90 => ?_)
        · subst c90
          refine lv_aload_n hx hb dX1_letter_123 rfl (lv_at hl 0 rfl) ?_
          refine va_get (D := D) (ci := 0) (v := .ref qt) (C := RX1) (T := TX1) (N := 4) hx hb hts in_X1 hown hK hP 0 rfl rfl 0 (by decide) (hts _ q33) (fun _ h9 => h9) rfl dX1_letter_124 ?_
          refine lv_iload hx hb dX1_letter_127 (lv_at hl 5 rfl) ?_
          refine lv_iload hx hb dX1_letter_129 (lv_at hl 4 rfl) ?_
          refine lv_iconst (v := nI 2) hx hb dX1_letter_131 (by decide) ?_
          refine ud_ne (tgt := 143) hx hb dX1_letter_132 (by decide) (by omega) (by decide) (fun c132 => ?_) (fun c132 => ?_)
          · refine lv_iload hx hb dX1_letter_143 (lv_at hl 4 rfl) ?_
            refine lv_iconst (v := nI 3) hx hb dX1_letter_145 (by decide) ?_
            refine ud_ne (tgt := 157) hx hb dX1_letter_146 (by decide) (by omega) (by decide) (fun c146 => ?_) (fun c146 => ?_)
            · refine lv_sipush (v := 240) hx hb dX1_letter_157 (by decide) ?_
              refine lv_iload_n hx hb dX1_letter_160 rfl (lv_at hl 3 rfl) ?_
              refine lv_ior hx hb dX1_letter_161 ?_
              refine ud_top (v := nI (ud_eb q (ud_nd q) 0)) (ud_eb_4 hq (by omega)) ?_
              refine lv_i2b (v := ud_sB (ud_eb q (ud_nd q) 0)) hx hb dX1_letter_162 rfl ?_
              refine ud_bast hx hb hK hP hD hS 1 0 rfl rfl (ud_eP f a q (ud_nd q)) (by omega) (by decide) (ud_bb (nI _)) (ud_eD_e f a q) dX1_letter_163 (fun H locs hP hD hS => ?_)
              have hP : va_P D ud_Cl [(qd, .inr (0, [.ref qt, .int (nI z), .ref qu, .int md])), (qt, .inl (cB, 128, .inl (ud_eP f a q (ud_nd q))))] H := hP
              have hD : va_D A [(qd, .inr (0, [.ref qt, .int (nI z), .ref qu, .int md])), (qt, .inl (cB, 128, .inl (ud_eP f a q (ud_nd q))))] := hD
              refine lv_iload hx hb dX1_letter_164 (lv_at hl 4 rfl) ?_
              have hP9 := hP.sub (ws' := [(qd, .inr (0, [.ref qt, .int (nI z), .ref qu, .int md])), (qt, .inl (cB, 128, .inl (ud_eP f a q (ud_nd q))))]) [0, 1] rfl
              have hD9 := hD.sub (ws' := [(qd, .inr (0, [.ref qt, .int (nI z), .ref qu, .int md])), (qt, .inl (cB, 128, .inl (ud_eP f a q (ud_nd q))))]) [0, 1] (by decide) rfl
              have hK9 := hK.sub (tys' := [(cB, .byte)]) [0] rfl
              exact W.iret (v := (nI (ud_nd q))) hx hb hr (fun t ht hW => ⟨⟨(nI (ud_nd q)), (ud_eP f a q (ud_nd q)), rfl, ⟨fun h => absurd h (by omega), fun _ => ⟨rfl, rfl⟩⟩, ud_end ht hW hP9 hK9 hD9⟩, hS.F ht⟩) hS.2.2 dX1_letter_166
            · refine lv_sipush (v := 224) hx hb dX1_letter_149 (by decide) ?_
              refine lv_iload_n hx hb dX1_letter_152 rfl (lv_at hl 3 rfl) ?_
              refine lv_ior hx hb dX1_letter_153 ?_
              refine ud_top (v := nI (ud_eb q (ud_nd q) 0)) (ud_eb_3 c146) ?_
              refine lv_goto (tgt := 162) hx hb dX1_letter_154 (by decide) ?_
              refine lv_i2b (v := ud_sB (ud_eb q (ud_nd q) 0)) hx hb dX1_letter_162 rfl ?_
              refine ud_bast hx hb hK hP hD hS 1 0 rfl rfl (ud_eP f a q (ud_nd q)) (by omega) (by decide) (ud_bb (nI _)) (ud_eD_e f a q) dX1_letter_163 (fun H locs hP hD hS => ?_)
              have hP : va_P D ud_Cl [(qd, .inr (0, [.ref qt, .int (nI z), .ref qu, .int md])), (qt, .inl (cB, 128, .inl (ud_eP f a q (ud_nd q))))] H := hP
              have hD : va_D A [(qd, .inr (0, [.ref qt, .int (nI z), .ref qu, .int md])), (qt, .inl (cB, 128, .inl (ud_eP f a q (ud_nd q))))] := hD
              refine lv_iload hx hb dX1_letter_164 (lv_at hl 4 rfl) ?_
              have hP9 := hP.sub (ws' := [(qd, .inr (0, [.ref qt, .int (nI z), .ref qu, .int md])), (qt, .inl (cB, 128, .inl (ud_eP f a q (ud_nd q))))]) [0, 1] rfl
              have hD9 := hD.sub (ws' := [(qd, .inr (0, [.ref qt, .int (nI z), .ref qu, .int md])), (qt, .inl (cB, 128, .inl (ud_eP f a q (ud_nd q))))]) [0, 1] (by decide) rfl
              have hK9 := hK.sub (tys' := [(cB, .byte)]) [0] rfl
              exact W.iret (v := (nI (ud_nd q))) hx hb hr (fun t ht hW => ⟨⟨(nI (ud_nd q)), (ud_eP f a q (ud_nd q)), rfl, ⟨fun h => absurd h (by omega), fun _ => ⟨rfl, rfl⟩⟩, ud_end ht hW hP9 hK9 hD9⟩, hS.F ht⟩) hS.2.2 dX1_letter_166
          · refine lv_sipush (v := 192) hx hb dX1_letter_135 (by decide) ?_
            refine lv_iload_n hx hb dX1_letter_138 rfl (lv_at hl 3 rfl) ?_
            refine lv_ior hx hb dX1_letter_139 ?_
            refine ud_top (v := nI (ud_eb q (ud_nd q) 0)) (ud_eb_2 c132) ?_
            refine lv_goto (tgt := 162) hx hb dX1_letter_140 (by decide) ?_
            refine lv_i2b (v := ud_sB (ud_eb q (ud_nd q) 0)) hx hb dX1_letter_162 rfl ?_
            refine ud_bast hx hb hK hP hD hS 1 0 rfl rfl (ud_eP f a q (ud_nd q)) (by omega) (by decide) (ud_bb (nI _)) (ud_eD_e f a q) dX1_letter_163 (fun H locs hP hD hS => ?_)
            have hP : va_P D ud_Cl [(qd, .inr (0, [.ref qt, .int (nI z), .ref qu, .int md])), (qt, .inl (cB, 128, .inl (ud_eP f a q (ud_nd q))))] H := hP
            have hD : va_D A [(qd, .inr (0, [.ref qt, .int (nI z), .ref qu, .int md])), (qt, .inl (cB, 128, .inl (ud_eP f a q (ud_nd q))))] := hD
            refine lv_iload hx hb dX1_letter_164 (lv_at hl 4 rfl) ?_
            have hP9 := hP.sub (ws' := [(qd, .inr (0, [.ref qt, .int (nI z), .ref qu, .int md])), (qt, .inl (cB, 128, .inl (ud_eP f a q (ud_nd q))))]) [0, 1] rfl
            have hD9 := hD.sub (ws' := [(qd, .inr (0, [.ref qt, .int (nI z), .ref qu, .int md])), (qt, .inl (cB, 128, .inl (ud_eP f a q (ud_nd q))))]) [0, 1] (by decide) rfl
            have hK9 := hK.sub (tys' := [(cB, .byte)]) [0] rfl
            exact W.iret (v := (nI (ud_nd q))) hx hb hr (fun t ht hW => ⟨⟨(nI (ud_nd q)), (ud_eP f a q (ud_nd q)), rfl, ⟨fun h => absurd h (by omega), fun _ => ⟨rfl, rfl⟩⟩, ud_end ht hW hP9 hK9 hD9⟩, hS.F ht⟩) hS.2.2 dX1_letter_166
        · obtain ⟨i2, rfl⟩ : ∃ i2, i = i2 + 1 := ⟨i - 1, by omega⟩
          refine lv_aload_n hx hb dX1_letter_93 rfl (lv_at hl 0 rfl) ?_
          refine va_get (D := D) (ci := 0) (v := .ref qt) (C := RX1) (T := TX1) (N := 4) hx hb hts in_X1 hown hK hP 0 rfl rfl 0 (by decide) (hts _ q33) (fun _ h9 => h9) rfl dX1_letter_94 ?_
          refine lv_iload hx hb dX1_letter_97 (lv_at hl 5 rfl) ?_
          refine lv_iload hx hb dX1_letter_99 (lv_at hl 6 rfl) ?_
          refine lv_iadd hx hb dX1_letter_101 ?_
          refine ud_top (v := nI (a + (i2 + 1))) (nI_add _ _) ?_
          refine lv_sipush (v := 128) hx hb dX1_letter_102 (by decide) ?_
          refine lv_iload_n hx hb dX1_letter_105 rfl (lv_at hl 3 rfl) ?_
          refine lv_bipush (v := 63) hx hb dX1_letter_106 (by decide) ?_
          refine lv_iand hx hb dX1_letter_108 ?_
          refine lv_ior hx hb dX1_letter_109 ?_
          refine ud_top (v := nI (ud_eb q (ud_nd q) (i2 + 1))) (ud_eb_c (by omega) (by omega)) ?_
          refine lv_i2b (v := ud_sB (ud_eb q (ud_nd q) (i2 + 1))) hx hb dX1_letter_110 rfl ?_
          refine ud_bast hx hb hK hP hD hS 1 0 rfl rfl (ud_eD f a q i2) (by omega) (by decide) (ud_bb (nI _)) (ud_eD_s f a q i2 (by omega)) dX1_letter_111 (fun H locs hP hD hS => ?_)
          have hP : va_P D ud_Cl [(qd, .inr (0, [.ref qt, .int (nI z), .ref qu, .int md])), (qt, .inl (cB, 128, .inl (ud_eD f a q i2)))] H := hP
          have hD : va_D A [(qd, .inr (0, [.ref qt, .int (nI z), .ref qu, .int md])), (qt, .inl (cB, 128, .inl (ud_eD f a q i2)))] := hD
          refine lv_iload_n hx hb dX1_letter_112 rfl (lv_at hl 3 rfl) ?_
          refine lv_bipush (v := 6) hx hb dX1_letter_113 (by decide) ?_
          refine lv_ishr hx hb dX1_letter_115 ?_
          refine ud_top (v := nI (q / 64 ^ (ud_nd q - 1 - i2))) (ud_shr6 (by omega) (by omega)) ?_
          refine lv_istore_n (lv' := [(3, .int (nI (q / 64 ^ (ud_nd q - 1 - i2)))), (0, .ref qd), (1, .int x), (2, .int v), (4, .int (nI (ud_nd q))), (5, .int (nI a)), (6, .int (nI (i2 + 1)))]) hx hb dX1_letter_116 rfl hl (by decide) rfl (fun ls hl => ?_)
          refine lv_iinc (v := nI i2) (lv' := [(6, .int (nI i2)), (3, .int (nI (q / 64 ^ (ud_nd q - 1 - i2)))), (0, .ref qd), (1, .int x), (2, .int v), (4, .int (nI (ud_nd q))), (5, .int (nI a))]) hx hb dX1_letter_117 hl (k := 6) rfl (ud_dec i2) (by decide) rfl (fun ls hl => ?_)
          refine lv_goto (tgt := 88) hx hb dX1_letter_120 (by decide) ?_
          exact ih88 ls H locs ⟨i2, q / 64 ^ (ud_nd q - 1 - i2), ud_eD f a q i2, by omega, by omega, rfl, rfl, hP, hD, hS, lv_sub hl [2, 3, 4, 1, 5, 6, 0] rfl⟩
      · refine lv_aload_n hx hb dX1_letter_70 rfl (lv_at hl 2 rfl) ?_
        refine va_get (D := D) (ci := 0) (v := .ref qt) (C := RX1) (T := TX1) (N := 4) hx hb hts in_X1 hown hK hP 0 rfl rfl 0 (by decide) (hts _ q33) (fun _ h9 => h9) rfl dX1_letter_71 ?_
        refine lv_iload hx hb dX1_letter_74 (lv_at hl 0 rfl) ?_
        refine lv_iload_n hx hb dX1_letter_76 rfl (lv_at hl 5 rfl) ?_
        refine lv_i2b (v := ud_sB q) hx hb dX1_letter_77 rfl ?_
        refine ud_bast hx hb hK hP hD hS 1 0 rfl rfl (ud_eP f a q (ud_nd q)) (by omega) (by decide) (ud_bb (nI q)) (ud_e1 f a q c67) dX1_letter_78 (fun H locs hP hD hS => ?_)
        have hP : va_P D ud_Cl [(qd, .inr (0, [.ref qt, .int (nI z), .ref qu, .int md])), (qt, .inl (cB, 128, .inl (ud_eP f a q (ud_nd q))))] H := hP
        have hD : va_D A [(qd, .inr (0, [.ref qt, .int (nI z), .ref qu, .int md])), (qt, .inl (cB, 128, .inl (ud_eP f a q (ud_nd q))))] := hD
        refine lv_goto (tgt := 164) hx hb dX1_letter_79 (by decide) ?_
        refine lv_iload hx hb dX1_letter_164 (lv_at hl 1 rfl) ?_
        have hP9 := hP.sub (ws' := [(qd, .inr (0, [.ref qt, .int (nI z), .ref qu, .int md])), (qt, .inl (cB, 128, .inl (ud_eP f a q (ud_nd q))))]) [0, 1] rfl
        have hD9 := hD.sub (ws' := [(qd, .inr (0, [.ref qt, .int (nI z), .ref qu, .int md])), (qt, .inl (cB, 128, .inl (ud_eP f a q (ud_nd q))))]) [0, 1] (by decide) rfl
        have hK9 := hK.sub (tys' := [(cB, .byte)]) [0] rfl
        exact W.iret (v := (nI (ud_nd q))) hx hb hr (fun t ht hW => ⟨⟨(nI (ud_nd q)), (ud_eP f a q (ud_nd q)), rfl, ⟨fun h => absurd h (by omega), fun _ => ⟨rfl, rfl⟩⟩, ud_end ht hW hP9 hK9 hD9⟩, hS.F ht⟩) hS.2.2 dX1_letter_166
    · refine lv_iconst (v := (-1)) hx hb dX1_letter_62 (by decide) ?_
      have hP9 := hP.sub (ws' := [(qd, .inr (0, [.ref qt, .int (nI z), .ref qu, .int md])), (qt, .inl (cB, 128, .inl f))]) [0, 1] rfl
      have hD9 := hD.sub (ws' := [(qd, .inr (0, [.ref qt, .int (nI z), .ref qu, .int md])), (qt, .inl (cB, 128, .inl f))]) [0, 1] (by decide) rfl
      have hK9 := hK.sub (tys' := [(cB, .byte)]) [0] rfl
      exact W.iret (v := (-1)) hx hb hr (fun t ht hW => ⟨⟨(-1), f, rfl, ⟨fun _ => ⟨rfl, rfl⟩, fun h => absurd h (by omega)⟩, ud_end ht hW hP9 hK9 hD9⟩, hS.F ht⟩) hS.2.2 dX1_letter_63
  · refine lv_iload_n hx hb dX1_letter_8 rfl (lv_at hl 0 rfl) ?_
    refine lv_sipush (v := nI 128) hx hb dX1_letter_9 (by decide) ?_
    refine ud_ge (tgt := 19) hx hb dX1_letter_12 (by decide) (by omega) (by decide) (fun c12 => ?_) (fun c12 => ?_)
    · refine lv_iload_n hx hb dX1_letter_19 rfl (lv_at hl 0 rfl) ?_
      refine lv_sipush (v := nI 2048) hx hb dX1_letter_20 (by decide) ?_
      refine ud_ge (tgt := 30) hx hb dX1_letter_23 (by decide) (by omega) (by decide) (fun c23 => ?_) (fun c23 => ?_)
      · refine lv_iload_n hx hb dX1_letter_30 rfl (lv_at hl 0 rfl) ?_
        refine lv_ldc (v := nI 65536) hx hb hown (hts _ q155) dX1_letter_31 ?_
        refine ud_ge (tgt := 40) hx hb dX1_letter_33 (by decide) (by omega) (by decide) (fun c33 => ?_) (fun c33 => ?_)
        · refine lv_iconst (v := nI 4) hx hb dX1_letter_40 (by decide) ?_
          refine ud_top (v := nI (ud_nd q)) (congrArg nI (by unfold ud_nd; repeat (first | rw [if_pos (by omega)] | rw [if_neg (by omega)]))) ?_
          exact K41 ls (lv_sub hl [1, 2, 3, 0] rfl)
        · refine lv_iconst (v := nI 3) hx hb dX1_letter_36 (by decide) ?_
          refine ud_top (v := nI (ud_nd q)) (congrArg nI (by unfold ud_nd; repeat (first | rw [if_pos (by omega)] | rw [if_neg (by omega)]))) ?_
          refine lv_goto (tgt := 41) hx hb dX1_letter_37 (by decide) ?_
          exact K41 ls (lv_sub hl [1, 2, 3, 0] rfl)
      · refine lv_iconst (v := nI 2) hx hb dX1_letter_26 (by decide) ?_
        refine ud_top (v := nI (ud_nd q)) (congrArg nI (by unfold ud_nd; repeat (first | rw [if_pos (by omega)] | rw [if_neg (by omega)]))) ?_
        refine lv_goto (tgt := 41) hx hb dX1_letter_27 (by decide) ?_
        exact K41 ls (lv_sub hl [1, 2, 3, 0] rfl)
    · refine lv_iconst (v := nI 1) hx hb dX1_letter_15 (by decide) ?_
      refine ud_top (v := nI (ud_nd q)) (congrArg nI (by unfold ud_nd; repeat (first | rw [if_pos (by omega)] | rw [if_neg (by omega)]))) ?_
      refine lv_goto (tgt := 41) hx hb dX1_letter_16 (by decide) ?_
      exact K41 ls (lv_sub hl [1, 2, 3, 0] rfl)
end
section
/-! UtfDeskLaw, its leaves (printed by gen/lawa.py) -/
def ud_Wx (D : va_G) (sz b L : Nat) (xs : Nat → Int32) (U : State) : Prop := ud_W D [] [] sz U ∧ va_X b L xs U U.heap
theorem ud_fbx {av : List Value} {D : va_G} {sz b L : Nat} {xs : Nat → Int32} : FrameBlind (va_Pc av (ud_Wx D sz b L xs)) := fun a U g mk q => by
  obtain ⟨q0, ⟨q1, qP, qK, qD⟩, h1⟩ := q
  exact ⟨q0, ⟨q1, qP, va_K.moved (u := U) (U := U.calling g mk a) (Vm.Alike.refl U.vm) qK, qD⟩, va_X.moved (u := U) (U := U.calling g mk a) (Vm.Alike.refl U.vm) h1⟩
theorem ud_gox {D : va_G} {A A0 : Nat → Prop} {s : State} {H : Heap} {locs : List Loc} {b L : Nat} {xs : Nat → Int32} (hP : va_P D ud_Cl [] H) (hK : va_K D ud_Cl [] s) (hD : va_D A []) (hX : va_X b L xs s s.heap) (hbl : b < s.heap.size) (hbA : ¬ A0 b) (hS : va_S A0 s.heap H locs) : ∀ U : State, U.heap = H → s.WarmedH U.vm → ud_Wx D H.size b L xs U := fun U hU hW => ⟨ud_go hP hK hD U hU hW, by rw [hU]; exact (va_X.moved hW.alike hX).kept (hS.2.1 b hbl hbA)⟩
theorem ud_by_le (n : Nat) : ud_by n ≤ 4 := by
  unfold ud_by
  repeat (first | omega | split)
theorem ud_nl_n {g : Nat → Nat} {a r i : Nat} {v : Int32} (h : ¬ (128 ≤ g (a + i) ∧ g (a + i) ≤ 191)) : ud_nl g a (r + 1) i v = none := by
  show (if 128 ≤ g (a + i) ∧ g (a + i) ≤ 191 then _ else _) = _
  rw [if_neg h]
theorem ud_nl_s {g : Nat → Nat} {a r i : Nat} {v : Int32} (h : 128 ≤ g (a + i) ∧ g (a + i) ≤ 191) : ud_nl g a (r + 1) i v = ud_nl g a r (i + 1) ((v <<< ((6 : Int32) &&& 31)) ||| (nI (g (a + i)) &&& 63)) := by
  show (if 128 ≤ g (a + i) ∧ g (a + i) ≤ 191 then _ else _) = _
  rw [if_pos h]
theorem ud_dc_or (o : Option (Nat × Nat)) : o = none ∨ ∃ v m, o = some (v, m) := by
  cases o with
  | none => exact Or.inl rfl
  | some x => exact Or.inr ⟨x.1, x.2, rfl⟩
theorem ud_ut_nI {n i : Nat} {du : Nat → Int32} (h : i < n) (hn : n < 2147483648) : ud_ut (nI n) du (nI i) = du i := by
  unfold ud_ut
  rw [if_pos (show (0 : Int32) < nI n from nI_lt (a := 0) (by omega) (by omega)), nI_clamp hn, ud_fM_nI h hn]
theorem ud_eb_10 {q : Nat} (h : ud_nd q = 1) : nI (q / 64 ^ (ud_nd q - 1 - 0)) = nI (ud_eb q (ud_nd q) 0) := by
  rw [ud_eb_1 h, h]
  show nI (q / 64 ^ 0) = nI q
  rw [Nat.pow_zero, Nat.div_one]
set_option maxHeartbeats 4000000 in
set_option maxRecDepth 100000 in
theorem ud_X0_init (l : Launch) (D : va_G) (sz : Nat) (pq : Nat) : Met l yX0_init (ws_ yX0_init cX0_init 1 none) ({ frames := 2, cells := 5, slots := 580, locals := 32 }) (va_Pc [.ref pq] (ud_W D [(pq, .inr (1, [.null, .null, .int 0, .null, .int 0]))] [] sz)) (va_Qv (fun (u : Nat × Nat × Nat × Nat × Nat × ClassId × ClassId × ClassId × ClassId) => True) (fun u t => ud_E D (va_A [(pq, .inr (1, [.null, .null, .int 0, .null, .int 0]))] sz) [(pq, .inr (1, [.ref u.1, .ref u.2.2.2.1, .int 0, .ref u.2.2.2.2.1, .int (-1)])), (u.2.2.2.1, .inl (u.2.2.2.2.2.2.2.1, 128, .inl (fun _ => 0))), (u.2.2.2.2.1, .inl (u.2.2.2.2.2.2.2.2, 160, .inl (fun _ => 0))), (u.1, .inr (0, [.ref u.2.1, .int 0, .ref u.2.2.1, .int (-1)])), (u.2.1, .inl (u.2.2.2.2.2.1, 128, .inl (fun _ => 0))), (u.2.2.1, .inl (u.2.2.2.2.2.2.1, 160, .inl (fun _ => 0)))] [(u.2.2.2.2.2.2.2.1, .byte), (u.2.2.2.2.2.2.2.2, .int), (u.2.2.2.2.2.1, .byte), (u.2.2.2.2.2.2.1, .char)] t) (va_A [(pq, .inr (1, [.null, .null, .int 0, .null, .int 0]))] sz)) 5 580 (va_A [(pq, .inr (1, [.null, .null, .int 0, .null, .int 0]))] sz) := by
  refine Met.ofW (cc := cX0_init) (maxL := 1) (ret := none) (by decide) rfl ?_
  intro p e s m args below meth c s₁ B hml hv
  obtain ⟨rfl, hsz, hP, hK, hD0⟩ := hv
  have hx := B.exec
  have hb := B.bytes
  have hr := B.returns
  have hts := atoms_spec (ws := ws_ yX0_init cX0_init 1 none) B.pre
  have hts : ∀ w ∈ lw_all, w.before _ s = true := fun w h => hts w (List.mem_cons_of_mem _ h)
  have hown : s.vm.findClass RX0 = some m.cls := findClass_of_methodNamed B.named
  have hlocks := B.notSynchronized
  have hin : meth.name = "<init>" := (name_of_methodNamed B.named B.method).1
  subst hsz
  have hD := hD0.self (sz := s.heap.size)
  generalize hAe : va_A [(pq, .inr (1, [.null, .null, .int 0, .null, .int 0]))] s.heap.size = A at hD ⊢
  have hA : ∀ q : Nat, s.heap.size ≤ q → A q := fun q h => by rw [← hAe]; exact Or.inr h
  have hS : va_S A s.heap s.heap [] := va_S.rf
  have hP : va_P D ud_Cl [(pq, .inr (1, [.null, .null, .int 0, .null, .int 0]))] s.heap := hP
  have hl := lv_entry ([.ref pq]) (n := 1) (Nat.le_of_ble_eq_true rfl)
  rw [lg_entry_eq]
  generalize (lg_sl ([.ref pq]) ++ List.replicate (1 - (lg_sl ([.ref pq])).length) Slot.unset).toArray = ls at hl ⊢
  have hl : lv_has ls 1 [(0, .ref pq)] := hl
  refine lv_aload_n hx hb dX0_init_0 rfl (lv_at hl 0 rfl) ?_
  refine W.objInit hx hb hown (hts _ q24) (hts _ q25) (hts _ q26) rfl (by rw [hml]; exact hl.1) rfl dX0_init_1 (Nat.le_of_ble_eq_true rfl) (Nat.le_of_ble_eq_true rfl) ?_
  refine W.eq (g2 := F0 m 4 ls []) rfl ?_
  refine lv_aload_n hx hb dX0_init_4 rfl (lv_at hl 0 rfl) ?_
  refine va_new (ci := 0) (fs := [.null, .int 0, .null, .int 0]) (C := RX1) (T := TX1) (N := 4) hx hb hts in_X1 tyX1 tyX1_ok hown (hts _ q27) (hts _ q28) (hts _ q12) hK hP hD hS hA rfl (fun j hj => by rcases (show j = 0 ∨ j = 1 ∨ j = 2 ∨ j = 3 by omega) with rfl | rfl | rfl | rfl <;> rfl) (Nat.le_of_ble_eq_true rfl) (Nat.le_of_ble_eq_true rfl) dX0_init_5 (fun qd H hP hD hS => ?_)
  have hP : va_P D ud_Cl [(pq, .inr (1, [.null, .null, .int 0, .null, .int 0])), (qd, .inr (0, [.null, .int 0, .null, .int 0]))] H := hP
  have hD : va_D A [(pq, .inr (1, [.null, .null, .int 0, .null, .int 0])), (qd, .inr (0, [.null, .int 0, .null, .int 0]))] := hD
  refine W.widen (k := 1) (n := 4) (by omega) (by omega) ?_
  refine lv_dup hx hb dX0_init_8 rfl ?_
  have hPc := hP.sub (ws' := [(qd, .inr (0, [.null, .int 0, .null, .int 0]))]) [1] rfl
  have hDc := hD.sub (ws' := [(qd, .inr (0, [.null, .int 0, .null, .int 0]))]) [1] (by decide) rfl
  have hKc := hK.sub (tys' := []) [] rfl
  have hFc := va_free (wc := [(qd, .inr (0, [.null, .int 0, .null, .int 0]))]) hD hS hA [1] rfl
  refine va_callv (va_runI (As := []) (rest := [.ref qd, .ref pq]) ⟨hx, hb, hml, hown, hts⟩ (ud_X1_init l D H.size qd) (cwI 0 hts (lw_meth q31) rfl rfl rfl (hts _ q12) (hts _ q29) (hts _ q30) rfl (by decide +kernel) ⟨Nat.le_of_ble_eq_true rfl, Nat.le_of_ble_eq_true rfl⟩) ⟨ud_fb, fun U hU hW => ⟨rfl, ud_go hPc hKc hDc U hU hW⟩⟩ rfl rfl hl.1 rfl (lv_room (Nat.le_of_ble_eq_true rfl)) dX0_init_9 ⟨Nat.le_of_ble_eq_true rfl, Nat.le_of_ble_eq_true rfl⟩) hS (fun q _ h => hFc q h) hFc (fun u t H1 locs ht hvm hw hB hz1 hk1 hS => ?_)
  obtain ⟨qt, qu, cE, cC⟩ := u
  obtain ⟨hP1, hK1, hD1⟩ := hB
  rw [ht] at hP1
  obtain ⟨hP, hD⟩ := va_join (wr := [(pq, .inr (1, [.null, .null, .int 0, .null, .int 0]))]) (w1 := [(qd, .inr (0, [.ref qt, .int 0, .ref qu, .int (-1)])), (qt, .inl (cE, 128, .inl (fun _ => 0))), (qu, .inl (cC, 160, .inl (fun _ => 0)))]) hP hD [1] [0] rfl rfl (by decide) (by decide) hk1 hFc hP1 hD1
  have hK1 := va_K.moved hvm.symm hK1
  have hK := hK.app (hK1.sub (tys' := [(cE, .byte), (cC, .char)]) [0, 1] rfl)
  have hK : va_K D ud_Cl [(cE, .byte), (cC, .char)] s := hK
  generalize H1 = H at hP hS ⊢
  have hP : va_P D ud_Cl [(pq, .inr (1, [.null, .null, .int 0, .null, .int 0])), (qd, .inr (0, [.ref qt, .int 0, .ref qu, .int (-1)])), (qt, .inl (cE, 128, .inl (fun _ => 0))), (qu, .inl (cC, 160, .inl (fun _ => 0)))] H := hP
  have hD : va_D A [(pq, .inr (1, [.null, .null, .int 0, .null, .int 0])), (qd, .inr (0, [.ref qt, .int 0, .ref qu, .int (-1)])), (qt, .inl (cE, 128, .inl (fun _ => 0))), (qu, .inl (cC, 160, .inl (fun _ => 0)))] := hD
  refine W.widen (k := 3) (n := 292) (by omega) (by omega) ?_
  refine va_putF (D := D) (ci := 1) (v := .ref qd) (ty := .object "UtfDesk") (C := RX0) (T := TX0) (N := 5) hx hb hts in_X0 tyX0 tyX0_ok nmX0 hown hK hP hD hS 0 rfl rfl 0 (by decide) (hts _ q48) (fun _ h9 => h9) rfl hin rfl (by decide +kernel) rfl rfl (Nat.le_of_ble_eq_true rfl) dX0_init_12 (fun H locs hP hD hS => ?_)
  have hP : va_P D ud_Cl [(pq, .inr (1, [.ref qd, .null, .int 0, .null, .int 0])), (qd, .inr (0, [.ref qt, .int 0, .ref qu, .int (-1)])), (qt, .inl (cE, 128, .inl (fun _ => 0))), (qu, .inl (cC, 160, .inl (fun _ => 0)))] H := hP
  have hD : va_D A [(pq, .inr (1, [.ref qd, .null, .int 0, .null, .int 0])), (qd, .inr (0, [.ref qt, .int 0, .ref qu, .int (-1)])), (qt, .inl (cE, 128, .inl (fun _ => 0))), (qu, .inl (cC, 160, .inl (fun _ => 0)))] := hD
  refine lv_aload_n hx hb dX0_init_15 rfl (lv_at hl 0 rfl) ?_
  refine lv_sipush (v := 128) hx hb dX0_init_16 (by decide) ?_
  refine va_newa (atype := .byte) (ty := .byte) (a0 := (128, .inl (fun _ => 0))) hx hb (hts _ q46) rfl hK hP hD hS hA (fun _ => rfl) (by decide) (by decide) (Nat.le_of_ble_eq_true rfl) (Nat.le_of_ble_eq_true rfl) (Nat.le_of_ble_eq_true rfl) dX0_init_19 (fun pt cB H hK hP hD hS => ?_)
  have hP : va_P D ud_Cl [(pq, .inr (1, [.ref qd, .null, .int 0, .null, .int 0])), (qd, .inr (0, [.ref qt, .int 0, .ref qu, .int (-1)])), (qt, .inl (cE, 128, .inl (fun _ => 0))), (qu, .inl (cC, 160, .inl (fun _ => 0))), (pt, .inl (cB, 128, .inl (fun _ => 0)))] H := hP
  have hD : va_D A [(pq, .inr (1, [.ref qd, .null, .int 0, .null, .int 0])), (qd, .inr (0, [.ref qt, .int 0, .ref qu, .int (-1)])), (qt, .inl (cE, 128, .inl (fun _ => 0))), (qu, .inl (cC, 160, .inl (fun _ => 0))), (pt, .inl (cB, 128, .inl (fun _ => 0)))] := hD
  have hK : va_K D ud_Cl [(cE, .byte), (cC, .char), (cB, .byte)] s := hK
  refine W.widen (k := 4) (n := 420) (by omega) (by omega) ?_
  refine va_putF (D := D) (ci := 1) (v := .ref pt) (ty := .array .byte) (C := RX0) (T := TX0) (N := 5) hx hb hts in_X0 tyX0 tyX0_ok nmX0 hown hK hP hD hS 0 rfl rfl 1 (by decide) (hts _ q49) (fun _ h9 => h9) rfl hin rfl (by decide +kernel) rfl rfl (Nat.le_of_ble_eq_true rfl) dX0_init_21 (fun H locs hP hD hS => ?_)
  have hP : va_P D ud_Cl [(pq, .inr (1, [.ref qd, .ref pt, .int 0, .null, .int 0])), (qd, .inr (0, [.ref qt, .int 0, .ref qu, .int (-1)])), (qt, .inl (cE, 128, .inl (fun _ => 0))), (qu, .inl (cC, 160, .inl (fun _ => 0))), (pt, .inl (cB, 128, .inl (fun _ => 0)))] H := hP
  have hD : va_D A [(pq, .inr (1, [.ref qd, .ref pt, .int 0, .null, .int 0])), (qd, .inr (0, [.ref qt, .int 0, .ref qu, .int (-1)])), (qt, .inl (cE, 128, .inl (fun _ => 0))), (qu, .inl (cC, 160, .inl (fun _ => 0))), (pt, .inl (cB, 128, .inl (fun _ => 0)))] := hD
  refine lv_aload_n hx hb dX0_init_24 rfl (lv_at hl 0 rfl) ?_
  refine lv_sipush (v := 160) hx hb dX0_init_25 (by decide) ?_
  refine va_newa (atype := .int) (ty := .int) (a0 := (160, .inl (fun _ => 0))) hx hb (hts _ q64) rfl hK hP hD hS hA (fun _ => rfl) (by decide) (by decide) (Nat.le_of_ble_eq_true rfl) (Nat.le_of_ble_eq_true rfl) (Nat.le_of_ble_eq_true rfl) dX0_init_28 (fun pu cI H hK hP hD hS => ?_)
  have hP : va_P D ud_Cl [(pq, .inr (1, [.ref qd, .ref pt, .int 0, .null, .int 0])), (qd, .inr (0, [.ref qt, .int 0, .ref qu, .int (-1)])), (qt, .inl (cE, 128, .inl (fun _ => 0))), (qu, .inl (cC, 160, .inl (fun _ => 0))), (pt, .inl (cB, 128, .inl (fun _ => 0))), (pu, .inl (cI, 160, .inl (fun _ => 0)))] H := hP
  have hD : va_D A [(pq, .inr (1, [.ref qd, .ref pt, .int 0, .null, .int 0])), (qd, .inr (0, [.ref qt, .int 0, .ref qu, .int (-1)])), (qt, .inl (cE, 128, .inl (fun _ => 0))), (qu, .inl (cC, 160, .inl (fun _ => 0))), (pt, .inl (cB, 128, .inl (fun _ => 0))), (pu, .inl (cI, 160, .inl (fun _ => 0)))] := hD
  have hK : va_K D ud_Cl [(cE, .byte), (cC, .char), (cB, .byte), (cI, .int)] s := hK
  refine W.widen (k := 5) (n := 580) (by omega) (by omega) ?_
  refine va_putF (D := D) (ci := 1) (v := .ref pu) (ty := .array .int) (C := RX0) (T := TX0) (N := 5) hx hb hts in_X0 tyX0 tyX0_ok nmX0 hown hK hP hD hS 0 rfl rfl 3 (by decide) (hts _ q51) (fun _ h9 => h9) rfl hin rfl (by decide +kernel) rfl rfl (Nat.le_of_ble_eq_true rfl) dX0_init_30 (fun H locs hP hD hS => ?_)
  have hP : va_P D ud_Cl [(pq, .inr (1, [.ref qd, .ref pt, .int 0, .ref pu, .int 0])), (qd, .inr (0, [.ref qt, .int 0, .ref qu, .int (-1)])), (qt, .inl (cE, 128, .inl (fun _ => 0))), (qu, .inl (cC, 160, .inl (fun _ => 0))), (pt, .inl (cB, 128, .inl (fun _ => 0))), (pu, .inl (cI, 160, .inl (fun _ => 0)))] H := hP
  have hD : va_D A [(pq, .inr (1, [.ref qd, .ref pt, .int 0, .ref pu, .int 0])), (qd, .inr (0, [.ref qt, .int 0, .ref qu, .int (-1)])), (qt, .inl (cE, 128, .inl (fun _ => 0))), (qu, .inl (cC, 160, .inl (fun _ => 0))), (pt, .inl (cB, 128, .inl (fun _ => 0))), (pu, .inl (cI, 160, .inl (fun _ => 0)))] := hD
  refine lv_aload_n hx hb dX0_init_33 rfl (lv_at hl 0 rfl) ?_
  refine lv_iconst (v := (-1)) hx hb dX0_init_34 (by decide) ?_
  refine va_put (D := D) (ci := 1) (v := .int (-1)) (ty := .int) (C := RX0) (T := TX0) (N := 5) hx hb hts in_X0 tyX0 tyX0_ok nmX0 hown hK hP hD hS 0 rfl rfl 4 (by decide) (hts _ q52) (fun _ h9 => h9) rfl (by decide +kernel) rfl rfl (Nat.le_of_ble_eq_true rfl) dX0_init_35 (fun H locs hP hD hS => ?_)
  have hP : va_P D ud_Cl [(pq, .inr (1, [.ref qd, .ref pt, .int 0, .ref pu, .int (-1)])), (qd, .inr (0, [.ref qt, .int 0, .ref qu, .int (-1)])), (qt, .inl (cE, 128, .inl (fun _ => 0))), (qu, .inl (cC, 160, .inl (fun _ => 0))), (pt, .inl (cB, 128, .inl (fun _ => 0))), (pu, .inl (cI, 160, .inl (fun _ => 0)))] H := hP
  have hD : va_D A [(pq, .inr (1, [.ref qd, .ref pt, .int 0, .ref pu, .int (-1)])), (qd, .inr (0, [.ref qt, .int 0, .ref qu, .int (-1)])), (qt, .inl (cE, 128, .inl (fun _ => 0))), (qu, .inl (cC, 160, .inl (fun _ => 0))), (pt, .inl (cB, 128, .inl (fun _ => 0))), (pu, .inl (cI, 160, .inl (fun _ => 0)))] := hD
  have hP9 := hP.sub (ws' := [(pq, .inr (1, [.ref qd, .ref pt, .int 0, .ref pu, .int (-1)])), (pt, .inl (cB, 128, .inl (fun _ => 0))), (pu, .inl (cI, 160, .inl (fun _ => 0))), (qd, .inr (0, [.ref qt, .int 0, .ref qu, .int (-1)])), (qt, .inl (cE, 128, .inl (fun _ => 0))), (qu, .inl (cC, 160, .inl (fun _ => 0)))]) [0, 4, 5, 1, 2, 3] rfl
  have hD9 := hD.sub (ws' := [(pq, .inr (1, [.ref qd, .ref pt, .int 0, .ref pu, .int (-1)])), (pt, .inl (cB, 128, .inl (fun _ => 0))), (pu, .inl (cI, 160, .inl (fun _ => 0))), (qd, .inr (0, [.ref qt, .int 0, .ref qu, .int (-1)])), (qt, .inl (cE, 128, .inl (fun _ => 0))), (qu, .inl (cC, 160, .inl (fun _ => 0)))]) [0, 4, 5, 1, 2, 3] (by decide) rfl
  have hK9 := hK.sub (tys' := [(cB, .byte), (cI, .int), (cE, .byte), (cC, .char)]) [2, 3, 0, 1] rfl
  exact W.vret hx hb hr (fun t ht hW => ⟨⟨(qd, qt, qu, pt, pu, cE, cC, cB, cI), rfl, trivial, ud_end ht hW hP9 hK9 hD9⟩, hS.F ht⟩) hS.2.2 dX0_init_38
set_option maxHeartbeats 4000000 in
set_option maxRecDepth 100000 in
theorem ud_X0_cell (l : Launch) (D : va_G) (sz : Nat) (qs L : Nat) (xs : Nat → Int32) (hL : L ≤ 96) (k : Nat) (hk : k < 2147483648) : Met l yX0_cell (ws_ yX0_cell cX0_cell 2 (some .int)) ({ frames := 0, cells := 0, slots := 0, locals := 0 }) (va_Pc [.ref qs, .int (nI k)] (ud_Wx D sz qs L xs)) (va_Qi (fun (r : Int32) (u : Unit) => r = if k < L then xs k else 0) (fun u t => ud_E D (va_A [] sz) [] [] t) (va_A [] sz)) 0 0 (va_A [] sz) := by
  refine Met.ofW (cc := cX0_cell) (maxL := 2) (ret := (some .int)) (by decide) rfl ?_
  intro p e s m args below meth c s₁ B hml hv
  obtain ⟨rfl, ⟨hsz, hP, hK, hD0⟩, hX⟩ := hv
  have hx := B.exec
  have hb := B.bytes
  have hr := B.returns
  have hts := atoms_spec (ws := ws_ yX0_cell cX0_cell 2 (some .int)) B.pre
  have hts : ∀ w ∈ lw_all, w.before _ s = true := fun w h => hts w (List.mem_cons_of_mem _ h)
  have hown : s.vm.findClass RX0 = some m.cls := findClass_of_methodNamed B.named
  have hlocks := B.notSynchronized
  subst hsz
  have hD := hD0.self (sz := s.heap.size)
  generalize hAe : va_A [] s.heap.size = A at hD ⊢
  have hA : ∀ q : Nat, s.heap.size ≤ q → A q := fun q h => by rw [← hAe]; exact Or.inr h
  have hS : va_S A s.heap s.heap [] := va_S.rf
  have hP : va_P D ud_Cl [] s.heap := hP
  have hl := lv_entry ([.ref qs, .int (nI k)]) (n := 2) (Nat.le_of_ble_eq_true rfl)
  rw [lg_entry_eq]
  generalize (lg_sl ([.ref qs, .int (nI k)]) ++ List.replicate (2 - (lg_sl ([.ref qs, .int (nI k)])).length) Slot.unset).toArray = ls at hl ⊢
  have hl : lv_has ls 2 [(0, .ref qs), (1, .int (nI k))] := hl
  have hbl : qs < s.heap.size := by
    obtain ⟨scr, hs1, -⟩ := id hX
    exact (Array.getElem?_eq_some_iff.mp hs1).1
  have hbA : ¬ A qs := by
    rw [← hAe]
    intro h
    rcases h with ⟨k, e, h⟩ | h
    · simp at h
    · omega
  refine lv_iload_n hx hb dX0_cell_0 rfl (lv_at hl 1 rfl) ?_
  refine lv_aload_n hx hb dX0_cell_1 rfl (lv_at hl 0 rfl) ?_
  refine va_slen hx hb hX hbl hbA hS dX0_cell_2 ?_
  refine ud_ge (tgt := 12) hx hb dX0_cell_3 (by decide) (by omega) (by omega) (fun c3 => ?_) (fun c3 => ?_)
  · refine lv_iconst (v := 0) hx hb dX0_cell_12 (by decide) ?_
    have hP9 := hP.sub (ws' := []) [] rfl
    have hD9 := hD.sub (ws' := []) [] (by decide) rfl
    have hK9 := hK.sub (tys' := []) [] rfl
    exact W.iret (v := 0) hx hb hr (fun t ht hW => ⟨⟨0, (), rfl, (if_neg (by omega)).symm, ud_end ht hW hP9 hK9 hD9⟩, hS.F ht⟩) hS.2.2 dX0_cell_13
  · refine lv_aload_n hx hb dX0_cell_6 rfl (lv_at hl 0 rfl) ?_
    refine lv_iload_n hx hb dX0_cell_7 rfl (lv_at hl 1 rfl) ?_
    refine va_sld hx hb hX hbl hbA hS (vp_in_nI c3 (by omega)) dX0_cell_8 ?_
    refine ud_top (v := xs k) (congrArg xs (nI_clamp (by omega))) ?_
    refine lv_goto (tgt := 13) hx hb dX0_cell_9 (by decide) ?_
    have hP9 := hP.sub (ws' := []) [] rfl
    have hD9 := hD.sub (ws' := []) [] (by decide) rfl
    have hK9 := hK.sub (tys' := []) [] rfl
    exact W.iret (v := (xs k)) hx hb hr (fun t ht hW => ⟨⟨(xs k), (), rfl, (if_pos c3).symm, ud_end ht hW hP9 hK9 hD9⟩, hS.F ht⟩) hS.2.2 dX0_cell_13
set_option maxHeartbeats 4000000 in
set_option maxRecDepth 100000 in
theorem ud_X0_number (l : Launch) (D : va_G) (sz : Nat) (pq pt pu qd z k ne : Nat) (cB : ClassId) (md : Int32) (f : Nat → Int32) (hf : ud_isB f) (hk : k < ne) (hne : ne ≤ 128) : Met l yX0_number (ws_ yX0_number cX0_number 8 (some .int)) ({ frames := 1, cells := 0, slots := 0, locals := 20 }) (va_Pc [.ref pq, .int (nI k), .int (nI ne)] (ud_W D [(pq, .inr (1, [.ref qd, .ref pt, .int (nI z), .ref pu, .int md])), (pt, .inl (cB, 128, .inl f))] [(cB, .byte)] sz)) (va_Qi (fun (r : Int32) (u : Unit) => r = ud_nu (ud_g f) k ne) (fun u t => ud_E D (va_A [(pq, .inr (1, [.ref qd, .ref pt, .int (nI z), .ref pu, .int md])), (pt, .inl (cB, 128, .inl f))] sz) [(pq, .inr (1, [.ref qd, .ref pt, .int (nI z), .ref pu, .int md])), (pt, .inl (cB, 128, .inl f))] [(cB, .byte)] t) (va_A [(pq, .inr (1, [.ref qd, .ref pt, .int (nI z), .ref pu, .int md])), (pt, .inl (cB, 128, .inl f))] sz)) 0 0 (va_A [(pq, .inr (1, [.ref qd, .ref pt, .int (nI z), .ref pu, .int md])), (pt, .inl (cB, 128, .inl f))] sz) := by
  refine Met.ofW (cc := cX0_number) (maxL := 8) (ret := (some .int)) (by decide) rfl ?_
  intro p e s m args below meth c s₁ B hml hv
  obtain ⟨rfl, hsz, hP, hK, hD0⟩ := hv
  have hx := B.exec
  have hb := B.bytes
  have hr := B.returns
  have hts := atoms_spec (ws := ws_ yX0_number cX0_number 8 (some .int)) B.pre
  have hts : ∀ w ∈ lw_all, w.before _ s = true := fun w h => hts w (List.mem_cons_of_mem _ h)
  have hown : s.vm.findClass RX0 = some m.cls := findClass_of_methodNamed B.named
  have hlocks := B.notSynchronized
  subst hsz
  have hD := hD0.self (sz := s.heap.size)
  generalize hAe : va_A [(pq, .inr (1, [.ref qd, .ref pt, .int (nI z), .ref pu, .int md])), (pt, .inl (cB, 128, .inl f))] s.heap.size = A at hD ⊢
  have hA : ∀ q : Nat, s.heap.size ≤ q → A q := fun q h => by rw [← hAe]; exact Or.inr h
  have hS : va_S A s.heap s.heap [] := va_S.rf
  have hP : va_P D ud_Cl [(pq, .inr (1, [.ref qd, .ref pt, .int (nI z), .ref pu, .int md])), (pt, .inl (cB, 128, .inl f))] s.heap := hP
  have hl := lv_entry ([.ref pq, .int (nI k), .int (nI ne)]) (n := 8) (Nat.le_of_ble_eq_true rfl)
  rw [lg_entry_eq]
  generalize (lg_sl ([.ref pq, .int (nI k), .int (nI ne)]) ++ List.replicate (8 - (lg_sl ([.ref pq, .int (nI k), .int (nI ne)])).length) Slot.unset).toArray = ls at hl ⊢
  have hl : lv_has ls 8 [(0, .ref pq), (1, .int (nI k)), (2, .int (nI ne))] := hl
  have hby := ud_by_le (ud_g f k)
  have hg8 := ud_g_lt f k
  refine lv_aload_n hx hb dX0_number_0 rfl (lv_at hl 0 rfl) ?_
  refine va_get (D := D) (ci := 1) (v := .ref pt) (C := RX0) (T := TX0) (N := 5) hx hb hts in_X0 hown hK hP 0 rfl rfl 1 (by decide) (hts _ q49) (fun _ h9 => h9) rfl dX0_number_1 ?_
  refine lv_iload_n hx hb dX0_number_4 rfl (lv_at hl 1 rfl) ?_
  refine ud_bald hx hb hK hP 1 0 rfl rfl (by omega) (by decide) dX0_number_5 ?_
  refine ud_top (v := ud_sB (ud_g f k)) (hf k) ?_
  refine lv_sipush (v := 255) hx hb dX0_number_6 (by decide) ?_
  refine lv_iand hx hb dX0_number_9 ?_
  refine ud_top (v := nI (ud_g f k)) (ud_b1 _ (ud_g_lt f k)) ?_
  refine lv_istore_n (lv' := [(3, .int (nI (ud_g f k))), (0, .ref pq), (1, .int (nI k)), (2, .int (nI ne))]) hx hb dX0_number_10 rfl hl (by decide) rfl (fun ls hl => ?_)
  refine lv_iload_n hx hb dX0_number_11 rfl (lv_at hl 0 rfl) ?_
  have hPc := hP.sub (ws' := []) [] rfl
  have hDc := hD.sub (ws' := []) [] (by decide) rfl
  have hKc := hK.sub (tys' := []) [] rfl
  have hFc := va_free (wc := []) hD hS hA [] rfl
  refine va_calli (va_runS (As := [.int (nI (ud_g f k))]) (rest := []) ⟨hx, hb, hml, hown, hts⟩ (ud_X0_bytes l D s.heap.size (ud_g f k) (ud_g_lt f k)) (va_cwS 1 hts (lw_S q84 q85 q11 q86) rfl rfl rfl (by decide +kernel) ⟨Nat.le_of_ble_eq_true rfl, Nat.le_of_ble_eq_true rfl⟩) ⟨ud_fb, fun U hU hW => ⟨rfl, ud_go hPc hKc hDc U hU hW⟩⟩ rfl rfl hl.1 rfl (lv_room (Nat.le_of_ble_eq_true rfl)) dX0_number_12 ⟨Nat.le_of_ble_eq_true rfl, Nat.le_of_ble_eq_true rfl⟩) hS (fun q _ h => hFc q h) hFc (fun r u t H1 locs ht hvm hw hB hz1 hk1 hS => ?_)
  obtain ⟨hP1, hK1, hD1⟩ := hB
  rw [ht] at hP1
  obtain ⟨hP, hD⟩ := va_join (wr := [(pq, .inr (1, [.ref qd, .ref pt, .int (nI z), .ref pu, .int md])), (pt, .inl (cB, 128, .inl f))]) (w1 := []) hP hD [] [0, 1] rfl rfl (by decide) (by decide) hk1 hFc hP1 hD1
  generalize H1 = H at hP hS ⊢
  have hP : va_P D ud_Cl [(pq, .inr (1, [.ref qd, .ref pt, .int (nI z), .ref pu, .int md])), (pt, .inl (cB, 128, .inl f))] H := hP
  have hD : va_D A [(pq, .inr (1, [.ref qd, .ref pt, .int (nI z), .ref pu, .int md])), (pt, .inl (cB, 128, .inl f))] := hD
  subst hw
  refine lv_istore (lv' := [(4, .int (nI (ud_by (ud_g f k)))), (3, .int (nI (ud_g f k))), (0, .ref pq), (1, .int (nI k)), (2, .int (nI ne))]) hx hb dX0_number_15 hl (by decide) rfl (fun ls hl => ?_)
  refine ud_cut (pc2 := 57) (stk := [.int (ud_v0 (ud_g f k))]) (fun ls => lv_has ls 8 [(0, .ref pq), (1, .int (nI k)), (2, .int (nI ne)), (3, .int (nI (ud_g f k))), (4, .int (nI (ud_by (ud_g f k))))]) (fun ls hl => ?_) (fun K57 => ?_)
  · refine lv_istore (lv' := [(5, .int (ud_v0 (ud_g f k))), (0, .ref pq), (1, .int (nI k)), (2, .int (nI ne)), (3, .int (nI (ud_g f k))), (4, .int (nI (ud_by (ud_g f k))))]) hx hb dX0_number_57 hl (by decide) rfl (fun ls hl => ?_)
    refine lv_iload hx hb dX0_number_59 (lv_at hl 5 rfl) ?_
    refine ud_ifeq (tgt := 72) hx hb dX0_number_61 (by decide) (by omega) (fun c61 => ?_) (fun c61 => ?_)
    · refine lv_iconst (v := (-1)) hx hb dX0_number_72 (by decide) ?_
      have hP9 := hP.sub (ws' := [(pq, .inr (1, [.ref qd, .ref pt, .int (nI z), .ref pu, .int md])), (pt, .inl (cB, 128, .inl f))]) [0, 1] rfl
      have hD9 := hD.sub (ws' := [(pq, .inr (1, [.ref qd, .ref pt, .int (nI z), .ref pu, .int md])), (pt, .inl (cB, 128, .inl f))]) [0, 1] (by decide) rfl
      have hK9 := hK.sub (tys' := [(cB, .byte)]) [0] rfl
      exact W.iret (v := (-1)) hx hb hr (fun t ht hW => ⟨⟨(-1), (), rfl, (by unfold ud_nu; rw [if_pos c61]), ud_end ht hW hP9 hK9 hD9⟩, hS.F ht⟩) hS.2.2 dX0_number_73
    · refine lv_iload_n hx hb dX0_number_64 rfl (lv_at hl 2 rfl) ?_
      refine lv_iload hx hb dX0_number_65 (lv_at hl 5 rfl) ?_
      refine lv_iadd hx hb dX0_number_67 ?_
      refine ud_top (v := nI (k + ud_by (ud_g f k))) (nI_add _ _) ?_
      refine lv_iload_n hx hb dX0_number_68 rfl (lv_at hl 3 rfl) ?_
      refine ud_le (tgt := 74) hx hb dX0_number_69 (by decide) (by omega) (by omega) (fun c69 => ?_) (fun c69 => ?_)
      · refine lv_iconst (v := nI 1) hx hb dX0_number_74 (by decide) ?_
        refine lv_istore (lv' := [(6, .int (nI 1)), (5, .int (ud_v0 (ud_g f k))), (0, .ref pq), (1, .int (nI k)), (2, .int (nI ne)), (3, .int (nI (ud_g f k))), (4, .int (nI (ud_by (ud_g f k))))]) hx hb dX0_number_75 hl (by decide) rfl (fun ls hl => ?_)
        refine ud_ind (pc2 := 77) (stk := []) (J := fun (nn : Nat) (ls : Array Slot) (H : Heap) (locs : List Loc) => ∃ (rr : Nat) (i : Nat) (v : Int32), (nn = rr + 1) ∧ (i + rr = ud_by (ud_g f k)) ∧ (1 ≤ i) ∧ (ud_nl (ud_g f) k (ud_by (ud_g f k) - 1) 1 (ud_v0 (ud_g f k)) = ud_nl (ud_g f) k rr i v) ∧ va_P D ud_Cl [(pq, .inr (1, [.ref qd, .ref pt, .int (nI z), .ref pu, .int md])), (pt, .inl (cB, 128, .inl f))] H ∧ va_D A [(pq, .inr (1, [.ref qd, .ref pt, .int (nI z), .ref pu, .int md])), (pt, .inl (cB, 128, .inl f))] ∧ va_S A s.heap H locs ∧ lv_has ls 8 [(0, .ref pq), (1, .int (nI k)), (2, .int (nI ne)), (3, .int (nI (ud_g f k))), (4, .int (nI (ud_by (ud_g f k)))), (5, .int v), (6, .int (nI i))]) (fun ls H locs h => by obtain ⟨rr, i, v, c77_f, c77_s, c77_p, c77_r, -⟩ := h; omega) (ud_by (ud_g f k) - 1 + 1) ⟨ud_by (ud_g f k) - 1, 1, ud_v0 (ud_g f k), rfl, by omega, by omega, rfl, hP, hD, hS, lv_sub hl [2, 3, 4, 5, 6, 1, 0] rfl⟩ ?_
        intro nn ih77 ls H locs hJ
        obtain ⟨rr, i, v, c77_f, c77_s, c77_p, c77_r, hP, hD, hS, hl⟩ := hJ
        refine lv_iload hx hb dX0_number_77 (lv_at hl 6 rfl) ?_
        refine lv_iload hx hb dX0_number_79 (lv_at hl 4 rfl) ?_
        refine ud_ge (tgt := 136) hx hb dX0_number_81 (by decide) (by omega) (by omega) (fun c81 => ?_) (fun c81 => ?_)
        · have h0 : rr = 0 := by omega
          subst h0
          have hv : ud_nl (ud_g f) k (ud_by (ud_g f k) - 1) 1 (ud_v0 (ud_g f k)) = some v := c77_r
          refine lv_iload hx hb dX0_number_136 (lv_at hl 4 rfl) ?_
          refine lv_iload hx hb dX0_number_138 (lv_at hl 5 rfl) ?_
          have hPc := hP.sub (ws' := []) [] rfl
          have hDc := hD.sub (ws' := []) [] (by decide) rfl
          have hKc := hK.sub (tys' := []) [] rfl
          have hFc := va_free (wc := []) hD hS hA [] rfl
          refine va_calli (va_runS (As := [.int v]) (rest := [.int (nI (ud_by (ud_g f k)))]) ⟨hx, hb, hml, hown, hts⟩ (ud_X0_needed l D H.size v) (va_cwS 1 hts (lw_S q87 q88 q11 q89) rfl rfl rfl (by decide +kernel) ⟨Nat.le_of_ble_eq_true rfl, Nat.le_of_ble_eq_true rfl⟩) ⟨ud_fb, fun U hU hW => ⟨rfl, ud_go hPc hKc hDc U hU hW⟩⟩ rfl rfl hl.1 rfl (lv_room (Nat.le_of_ble_eq_true rfl)) dX0_number_140 ⟨Nat.le_of_ble_eq_true rfl, Nat.le_of_ble_eq_true rfl⟩) hS (fun q _ h => hFc q h) hFc (fun r u t H1 locs ht hvm hw hB hz1 hk1 hS => ?_)
          obtain ⟨hP1, hK1, hD1⟩ := hB
          rw [ht] at hP1
          obtain ⟨hP, hD⟩ := va_join (wr := [(pq, .inr (1, [.ref qd, .ref pt, .int (nI z), .ref pu, .int md])), (pt, .inl (cB, 128, .inl f))]) (w1 := []) hP hD [] [0, 1] rfl rfl (by decide) (by decide) hk1 hFc hP1 hD1
          generalize H1 = H at hP hS ⊢
          have hP : va_P D ud_Cl [(pq, .inr (1, [.ref qd, .ref pt, .int (nI z), .ref pu, .int md])), (pt, .inl (cB, 128, .inl f))] H := hP
          have hD : va_D A [(pq, .inr (1, [.ref qd, .ref pt, .int (nI z), .ref pu, .int md])), (pt, .inl (cB, 128, .inl f))] := hD
          subst hw
          refine lv_icmp_ne (tgt := 167) hx hb dX0_number_143 (by decide) (fun c143 => ?_) (fun c143 => ?_)
          · refine lv_iconst (v := (-1)) hx hb dX0_number_167 (by decide) ?_
            refine lv_goto (tgt := 173) hx hb dX0_number_168 (by decide) ?_
            have hP9 := hP.sub (ws' := [(pq, .inr (1, [.ref qd, .ref pt, .int (nI z), .ref pu, .int md])), (pt, .inl (cB, 128, .inl f))]) [0, 1] rfl
            have hD9 := hD.sub (ws' := [(pq, .inr (1, [.ref qd, .ref pt, .int (nI z), .ref pu, .int md])), (pt, .inl (cB, 128, .inl f))]) [0, 1] (by decide) rfl
            have hK9 := hK.sub (tys' := [(cB, .byte)]) [0] rfl
            exact W.iret (v := (-1)) hx hb hr (fun t ht hW => ⟨⟨(-1), (), rfl, (by unfold ud_nu; rw [if_neg (by omega), if_neg (by omega), hv]; show _ = ud_tl _ v; unfold ud_tl; repeat (first | rw [if_pos (by assumption)] | rw [if_neg (by assumption)])), ud_end ht hW hP9 hK9 hD9⟩, hS.F ht⟩) hS.2.2 dX0_number_173
          · refine lv_iload hx hb dX0_number_146 (lv_at hl 5 rfl) ?_
            refine lv_ldc hx hb hown (hts _ q91) dX0_number_148 ?_
            refine lv_icmp_gt (tgt := 167) hx hb dX0_number_150 (by decide) (fun c150 => ?_) (fun c150 => ?_)
            · refine lv_iconst (v := (-1)) hx hb dX0_number_167 (by decide) ?_
              refine lv_goto (tgt := 173) hx hb dX0_number_168 (by decide) ?_
              have hP9 := hP.sub (ws' := [(pq, .inr (1, [.ref qd, .ref pt, .int (nI z), .ref pu, .int md])), (pt, .inl (cB, 128, .inl f))]) [0, 1] rfl
              have hD9 := hD.sub (ws' := [(pq, .inr (1, [.ref qd, .ref pt, .int (nI z), .ref pu, .int md])), (pt, .inl (cB, 128, .inl f))]) [0, 1] (by decide) rfl
              have hK9 := hK.sub (tys' := [(cB, .byte)]) [0] rfl
              exact W.iret (v := (-1)) hx hb hr (fun t ht hW => ⟨⟨(-1), (), rfl, (by unfold ud_nu; rw [if_neg (by omega), if_neg (by omega), hv]; show _ = ud_tl _ v; unfold ud_tl; repeat (first | rw [if_pos (by assumption)] | rw [if_neg (by assumption)])), ud_end ht hW hP9 hK9 hD9⟩, hS.F ht⟩) hS.2.2 dX0_number_173
            · refine lv_iload hx hb dX0_number_153 (lv_at hl 5 rfl) ?_
              refine lv_ldc hx hb hown (hts _ q92) dX0_number_155 ?_
              refine lv_icmp_lt (tgt := 171) hx hb dX0_number_157 (by decide) (fun c157 => ?_) (fun c157 => ?_)
              · refine lv_iload hx hb dX0_number_171 (lv_at hl 5 rfl) ?_
                have hP9 := hP.sub (ws' := [(pq, .inr (1, [.ref qd, .ref pt, .int (nI z), .ref pu, .int md])), (pt, .inl (cB, 128, .inl f))]) [0, 1] rfl
                have hD9 := hD.sub (ws' := [(pq, .inr (1, [.ref qd, .ref pt, .int (nI z), .ref pu, .int md])), (pt, .inl (cB, 128, .inl f))]) [0, 1] (by decide) rfl
                have hK9 := hK.sub (tys' := [(cB, .byte)]) [0] rfl
                exact W.iret (v := v) hx hb hr (fun t ht hW => ⟨⟨v, (), rfl, (by unfold ud_nu; rw [if_neg (by omega), if_neg (by omega), hv]; show _ = ud_tl _ v; unfold ud_tl; repeat (first | rw [if_pos (by assumption)] | rw [if_neg (by assumption)])), ud_end ht hW hP9 hK9 hD9⟩, hS.F ht⟩) hS.2.2 dX0_number_173
              · refine lv_iload hx hb dX0_number_160 (lv_at hl 5 rfl) ?_
                refine lv_ldc hx hb hown (hts _ q93) dX0_number_162 ?_
                refine lv_icmp_gt (tgt := 171) hx hb dX0_number_164 (by decide) (fun c164 => ?_) (fun c164 => ?_)
                · refine lv_iload hx hb dX0_number_171 (lv_at hl 5 rfl) ?_
                  have hP9 := hP.sub (ws' := [(pq, .inr (1, [.ref qd, .ref pt, .int (nI z), .ref pu, .int md])), (pt, .inl (cB, 128, .inl f))]) [0, 1] rfl
                  have hD9 := hD.sub (ws' := [(pq, .inr (1, [.ref qd, .ref pt, .int (nI z), .ref pu, .int md])), (pt, .inl (cB, 128, .inl f))]) [0, 1] (by decide) rfl
                  have hK9 := hK.sub (tys' := [(cB, .byte)]) [0] rfl
                  exact W.iret (v := v) hx hb hr (fun t ht hW => ⟨⟨v, (), rfl, (by unfold ud_nu; rw [if_neg (by omega), if_neg (by omega), hv]; show _ = ud_tl _ v; unfold ud_tl; repeat (first | rw [if_pos (by assumption)] | rw [if_neg (by assumption)])), ud_end ht hW hP9 hK9 hD9⟩, hS.F ht⟩) hS.2.2 dX0_number_173
                · refine lv_iconst (v := (-1)) hx hb dX0_number_167 (by decide) ?_
                  refine lv_goto (tgt := 173) hx hb dX0_number_168 (by decide) ?_
                  have hP9 := hP.sub (ws' := [(pq, .inr (1, [.ref qd, .ref pt, .int (nI z), .ref pu, .int md])), (pt, .inl (cB, 128, .inl f))]) [0, 1] rfl
                  have hD9 := hD.sub (ws' := [(pq, .inr (1, [.ref qd, .ref pt, .int (nI z), .ref pu, .int md])), (pt, .inl (cB, 128, .inl f))]) [0, 1] (by decide) rfl
                  have hK9 := hK.sub (tys' := [(cB, .byte)]) [0] rfl
                  exact W.iret (v := (-1)) hx hb hr (fun t ht hW => ⟨⟨(-1), (), rfl, (by unfold ud_nu; rw [if_neg (by omega), if_neg (by omega), hv]; show _ = ud_tl _ v; unfold ud_tl; repeat (first | rw [if_pos (by assumption)] | rw [if_neg (by assumption)])), ud_end ht hW hP9 hK9 hD9⟩, hS.F ht⟩) hS.2.2 dX0_number_173
        · obtain ⟨r', rfl⟩ : ∃ r', rr = r' + 1 := ⟨rr - 1, by omega⟩
          refine lv_aload_n hx hb dX0_number_84 rfl (lv_at hl 0 rfl) ?_
          refine va_get (D := D) (ci := 1) (v := .ref pt) (C := RX0) (T := TX0) (N := 5) hx hb hts in_X0 hown hK hP 0 rfl rfl 1 (by decide) (hts _ q49) (fun _ h9 => h9) rfl dX0_number_85 ?_
          refine lv_iload_n hx hb dX0_number_88 rfl (lv_at hl 1 rfl) ?_
          refine lv_iload hx hb dX0_number_89 (lv_at hl 6 rfl) ?_
          refine lv_iadd hx hb dX0_number_91 ?_
          refine ud_top (v := nI (k + i)) (nI_add _ _) ?_
          refine ud_bald hx hb hK hP 1 0 rfl rfl (by omega) (by decide) dX0_number_92 ?_
          refine ud_top (v := ud_sB (ud_g f (k + i))) (hf (k + i)) ?_
          refine lv_sipush (v := 255) hx hb dX0_number_93 (by decide) ?_
          refine lv_iand hx hb dX0_number_96 ?_
          refine ud_top (v := nI (ud_g f (k + i))) (ud_b1 _ (ud_g_lt f (k + i))) ?_
          refine lv_istore (lv' := [(7, .int (nI (ud_g f (k + i)))), (0, .ref pq), (1, .int (nI k)), (2, .int (nI ne)), (3, .int (nI (ud_g f k))), (4, .int (nI (ud_by (ud_g f k)))), (5, .int v), (6, .int (nI i))]) hx hb dX0_number_97 hl (by decide) rfl (fun ls hl => ?_)
          refine lv_iload hx hb dX0_number_99 (lv_at hl 0 rfl) ?_
          refine lv_sipush (v := nI 128) hx hb dX0_number_101 (by decide) ?_
          refine ud_lt (tgt := 115) hx hb dX0_number_104 (by decide) (by have := ud_g_lt f (k + i); omega) (by decide) (fun c104 => ?_) (fun c104 => ?_)
          · refine lv_iconst (v := (-1)) hx hb dX0_number_115 (by decide) ?_
            have hP9 := hP.sub (ws' := [(pq, .inr (1, [.ref qd, .ref pt, .int (nI z), .ref pu, .int md])), (pt, .inl (cB, 128, .inl f))]) [0, 1] rfl
            have hD9 := hD.sub (ws' := [(pq, .inr (1, [.ref qd, .ref pt, .int (nI z), .ref pu, .int md])), (pt, .inl (cB, 128, .inl f))]) [0, 1] (by decide) rfl
            have hK9 := hK.sub (tys' := [(cB, .byte)]) [0] rfl
            exact W.iret (v := (-1)) hx hb hr (fun t ht hW => ⟨⟨(-1), (), rfl, (by unfold ud_nu; rw [if_neg (by omega), if_neg (by omega), c77_r, ud_nl_n (by omega)] <;> rfl), ud_end ht hW hP9 hK9 hD9⟩, hS.F ht⟩) hS.2.2 dX0_number_116
          · refine lv_iload hx hb dX0_number_107 (lv_at hl 0 rfl) ?_
            refine lv_sipush (v := nI 191) hx hb dX0_number_109 (by decide) ?_
            refine ud_le (tgt := 117) hx hb dX0_number_112 (by decide) (by have := ud_g_lt f (k + i); omega) (by decide) (fun c112 => ?_) (fun c112 => ?_)
            · refine lv_iload hx hb dX0_number_117 (lv_at hl 6 rfl) ?_
              refine lv_bipush (v := 6) hx hb dX0_number_119 (by decide) ?_
              refine lv_ishl hx hb dX0_number_121 ?_
              refine lv_iload hx hb dX0_number_122 (lv_at hl 0 rfl) ?_
              refine lv_bipush (v := 63) hx hb dX0_number_124 (by decide) ?_
              refine lv_iand hx hb dX0_number_126 ?_
              refine lv_ior hx hb dX0_number_127 ?_
              refine lv_istore (lv' := [(5, .int ((v <<< (6 &&& 31)) ||| ((nI (ud_g f (k + i))) &&& 63))), (7, .int (nI (ud_g f (k + i)))), (0, .ref pq), (1, .int (nI k)), (2, .int (nI ne)), (3, .int (nI (ud_g f k))), (4, .int (nI (ud_by (ud_g f k)))), (6, .int (nI i))]) hx hb dX0_number_128 hl (by decide) rfl (fun ls hl => ?_)
              refine lv_iinc (v := nI (i + 1)) (lv' := [(6, .int (nI (i + 1))), (5, .int ((v <<< (6 &&& 31)) ||| ((nI (ud_g f (k + i))) &&& 63))), (7, .int (nI (ud_g f (k + i)))), (0, .ref pq), (1, .int (nI k)), (2, .int (nI ne)), (3, .int (nI (ud_g f k))), (4, .int (nI (ud_by (ud_g f k))))]) hx hb dX0_number_130 hl (k := 7) rfl (ud_inc i) (by decide) rfl (fun ls hl => ?_)
              refine lv_goto (tgt := 77) hx hb dX0_number_133 (by decide) ?_
              exact ih77 ls H locs ⟨r', i + 1, (v <<< ((6 : Int32) &&& 31)) ||| (nI (ud_g f (k + i)) &&& 63), by omega, by omega, by omega, c77_r.trans (ud_nl_s ⟨c104, c112⟩), hP, hD, hS, lv_sub hl [3, 4, 5, 6, 7, 1, 0] rfl⟩
            · refine lv_iconst (v := (-1)) hx hb dX0_number_115 (by decide) ?_
              have hP9 := hP.sub (ws' := [(pq, .inr (1, [.ref qd, .ref pt, .int (nI z), .ref pu, .int md])), (pt, .inl (cB, 128, .inl f))]) [0, 1] rfl
              have hD9 := hD.sub (ws' := [(pq, .inr (1, [.ref qd, .ref pt, .int (nI z), .ref pu, .int md])), (pt, .inl (cB, 128, .inl f))]) [0, 1] (by decide) rfl
              have hK9 := hK.sub (tys' := [(cB, .byte)]) [0] rfl
              exact W.iret (v := (-1)) hx hb hr (fun t ht hW => ⟨⟨(-1), (), rfl, (by unfold ud_nu; rw [if_neg (by omega), if_neg (by omega), c77_r, ud_nl_n (by omega)] <;> rfl), ud_end ht hW hP9 hK9 hD9⟩, hS.F ht⟩) hS.2.2 dX0_number_116
      · refine lv_iconst (v := (-1)) hx hb dX0_number_72 (by decide) ?_
        have hP9 := hP.sub (ws' := [(pq, .inr (1, [.ref qd, .ref pt, .int (nI z), .ref pu, .int md])), (pt, .inl (cB, 128, .inl f))]) [0, 1] rfl
        have hD9 := hD.sub (ws' := [(pq, .inr (1, [.ref qd, .ref pt, .int (nI z), .ref pu, .int md])), (pt, .inl (cB, 128, .inl f))]) [0, 1] (by decide) rfl
        have hK9 := hK.sub (tys' := [(cB, .byte)]) [0] rfl
        exact W.iret (v := (-1)) hx hb hr (fun t ht hW => ⟨⟨(-1), (), rfl, (by unfold ud_nu; rw [if_neg (by omega), if_pos c69]), ud_end ht hW hP9 hK9 hD9⟩, hS.F ht⟩) hS.2.2 dX0_number_73
  · refine lv_iload hx hb dX0_number_17 (lv_at hl 0 rfl) ?_
    refine lv_iconst (v := nI 1) hx hb dX0_number_19 (by decide) ?_
    refine ud_ne (tgt := 27) hx hb dX0_number_20 (by decide) (by omega) (by decide) (fun c20 => ?_) (fun c20 => ?_)
    · refine lv_iload hx hb dX0_number_27 (lv_at hl 0 rfl) ?_
      refine lv_iconst (v := nI 2) hx hb dX0_number_29 (by decide) ?_
      refine ud_ne (tgt := 40) hx hb dX0_number_30 (by decide) (by omega) (by decide) (fun c30 => ?_) (fun c30 => ?_)
      · refine lv_iload hx hb dX0_number_40 (lv_at hl 0 rfl) ?_
        refine lv_iconst (v := nI 3) hx hb dX0_number_42 (by decide) ?_
        refine ud_ne (tgt := 53) hx hb dX0_number_43 (by decide) (by omega) (by decide) (fun c43 => ?_) (fun c43 => ?_)
        · refine lv_iload_n hx hb dX0_number_53 rfl (lv_at hl 1 rfl) ?_
          refine lv_bipush (v := 7) hx hb dX0_number_54 (by decide) ?_
          refine lv_iand hx hb dX0_number_56 ?_
          refine ud_top (v := ud_v0 (ud_g f k)) (by unfold ud_v0; rw [if_neg c20, if_neg c30, if_neg c43]) ?_
          exact K57 ls (lv_sub hl [2, 3, 4, 1, 0] rfl)
        · refine lv_iload_n hx hb dX0_number_46 rfl (lv_at hl 1 rfl) ?_
          refine lv_bipush (v := 15) hx hb dX0_number_47 (by decide) ?_
          refine lv_iand hx hb dX0_number_49 ?_
          refine ud_top (v := ud_v0 (ud_g f k)) (by unfold ud_v0; rw [if_neg c20, if_neg c30, if_pos c43]) ?_
          refine lv_goto (tgt := 57) hx hb dX0_number_50 (by decide) ?_
          exact K57 ls (lv_sub hl [2, 3, 4, 1, 0] rfl)
      · refine lv_iload_n hx hb dX0_number_33 rfl (lv_at hl 1 rfl) ?_
        refine lv_bipush (v := 31) hx hb dX0_number_34 (by decide) ?_
        refine lv_iand hx hb dX0_number_36 ?_
        refine ud_top (v := ud_v0 (ud_g f k)) (by unfold ud_v0; rw [if_neg c20, if_pos c30]) ?_
        refine lv_goto (tgt := 57) hx hb dX0_number_37 (by decide) ?_
        exact K57 ls (lv_sub hl [2, 3, 4, 1, 0] rfl)
    · refine lv_iload_n hx hb dX0_number_23 rfl (lv_at hl 1 rfl) ?_
      refine ud_top (v := ud_v0 (ud_g f k)) (by unfold ud_v0; rw [if_pos c20]) ?_
      refine lv_goto (tgt := 57) hx hb dX0_number_24 (by decide) ?_
      exact K57 ls (lv_sub hl [2, 3, 4, 1, 0] rfl)
set_option maxHeartbeats 4000000 in
set_option maxRecDepth 100000 in
theorem ud_X0_turned (l : Launch) (D : va_G) (sz : Nat) (pq pt pu qd z a nc ro : Nat) (cB cI : ClassId) (md : Int32) (f lu : Nat → Int32) (hf : ud_isB f) (hac : a + nc ≤ 128) (hro : ro ≤ 160) : Met l yX0_turned (ws_ yX0_turned cX0_turned 7 (some .int)) ({ frames := 2, cells := 0, slots := 0, locals := 47 }) (va_Pc [.ref pq, .int (nI a), .int (nI (a + nc)), .int (nI ro)] (ud_W D [(pq, .inr (1, [.ref qd, .ref pt, .int (nI z), .ref pu, .int md])), (pt, .inl (cB, 128, .inl f)), (pu, .inl (cI, 160, .inl lu))] [(cB, .byte), (cI, .int)] sz)) (va_Qi (fun (r : Int32) (u : Nat → Int32) => ud_An (ud_dU (ud_g f) (a + nc) nc a) ro r u) (fun u t => ud_E D (va_A [(pq, .inr (1, [.ref qd, .ref pt, .int (nI z), .ref pu, .int md])), (pt, .inl (cB, 128, .inl f)), (pu, .inl (cI, 160, .inl lu))] sz) [(pq, .inr (1, [.ref qd, .ref pt, .int (nI z), .ref pu, .int md])), (pt, .inl (cB, 128, .inl f)), (pu, .inl (cI, 160, .inl u))] [(cB, .byte), (cI, .int)] t) (va_A [(pq, .inr (1, [.ref qd, .ref pt, .int (nI z), .ref pu, .int md])), (pt, .inl (cB, 128, .inl f)), (pu, .inl (cI, 160, .inl lu))] sz)) 0 0 (va_A [(pq, .inr (1, [.ref qd, .ref pt, .int (nI z), .ref pu, .int md])), (pt, .inl (cB, 128, .inl f)), (pu, .inl (cI, 160, .inl lu))] sz) := by
  refine Met.ofW (cc := cX0_turned) (maxL := 7) (ret := (some .int)) (by decide) rfl ?_
  intro p e s m args below meth c s₁ B hml hv
  obtain ⟨rfl, hsz, hP, hK, hD0⟩ := hv
  have hx := B.exec
  have hb := B.bytes
  have hr := B.returns
  have hts := atoms_spec (ws := ws_ yX0_turned cX0_turned 7 (some .int)) B.pre
  have hts : ∀ w ∈ lw_all, w.before _ s = true := fun w h => hts w (List.mem_cons_of_mem _ h)
  have hown : s.vm.findClass RX0 = some m.cls := findClass_of_methodNamed B.named
  have hlocks := B.notSynchronized
  subst hsz
  have hD := hD0.self (sz := s.heap.size)
  generalize hAe : va_A [(pq, .inr (1, [.ref qd, .ref pt, .int (nI z), .ref pu, .int md])), (pt, .inl (cB, 128, .inl f)), (pu, .inl (cI, 160, .inl lu))] s.heap.size = A at hD ⊢
  have hA : ∀ q : Nat, s.heap.size ≤ q → A q := fun q h => by rw [← hAe]; exact Or.inr h
  have hS : va_S A s.heap s.heap [] := va_S.rf
  have hP : va_P D ud_Cl [(pq, .inr (1, [.ref qd, .ref pt, .int (nI z), .ref pu, .int md])), (pt, .inl (cB, 128, .inl f)), (pu, .inl (cI, 160, .inl lu))] s.heap := hP
  have hl := lv_entry ([.ref pq, .int (nI a), .int (nI (a + nc)), .int (nI ro)]) (n := 7) (Nat.le_of_ble_eq_true rfl)
  rw [lg_entry_eq]
  generalize (lg_sl ([.ref pq, .int (nI a), .int (nI (a + nc)), .int (nI ro)]) ++ List.replicate (7 - (lg_sl ([.ref pq, .int (nI a), .int (nI (a + nc)), .int (nI ro)])).length) Slot.unset).toArray = ls at hl ⊢
  have hl : lv_has ls 7 [(0, .ref pq), (1, .int (nI a)), (2, .int (nI (a + nc))), (3, .int (nI ro))] := hl
  refine lv_iconst (v := nI 0) hx hb dX0_turned_0 (by decide) ?_
  refine lv_istore (lv' := [(4, .int (nI 0)), (0, .ref pq), (1, .int (nI a)), (2, .int (nI (a + nc))), (3, .int (nI ro))]) hx hb dX0_turned_1 hl (by decide) rfl (fun ls hl => ?_)
  refine lv_iload_n hx hb dX0_turned_3 rfl (lv_at hl 2 rfl) ?_
  refine lv_istore (lv' := [(5, .int (nI a)), (4, .int (nI 0)), (0, .ref pq), (1, .int (nI a)), (2, .int (nI (a + nc))), (3, .int (nI ro))]) hx hb dX0_turned_4 hl (by decide) rfl (fun ls hl => ?_)
  refine ud_ind (pc2 := 6) (stk := []) (J := fun (nn : Nat) (ls : Array Slot) (H : Heap) (locs : List Loc) => ∃ (F : Nat) (k : Nat) (n : Nat) (w : Nat → Int32), (nn = F + 1) ∧ (a + nc ≤ k + F) ∧ (k ≤ a + nc) ∧ (ud_Iv (ud_g f) (a + nc) (ud_dU (ud_g f) (a + nc) nc a) ro F k n w) ∧ va_P D ud_Cl [(pq, .inr (1, [.ref qd, .ref pt, .int (nI z), .ref pu, .int md])), (pt, .inl (cB, 128, .inl f)), (pu, .inl (cI, 160, .inl w))] H ∧ va_D A [(pq, .inr (1, [.ref qd, .ref pt, .int (nI z), .ref pu, .int md])), (pt, .inl (cB, 128, .inl f)), (pu, .inl (cI, 160, .inl w))] ∧ va_S A s.heap H locs ∧ lv_has ls 7 [(0, .ref pq), (1, .int (nI a)), (2, .int (nI (a + nc))), (3, .int (nI ro)), (4, .int (nI n)), (5, .int (nI k))]) (fun ls H locs h => by obtain ⟨F, k, n, w, c6_f, c6_b, c6_k, c6_i, -⟩ := h; omega) (nc + 1) ⟨nc, a, 0, lu, rfl, by omega, by omega, ud_Iv_0 _ _ _ _ _ _, hP, hD, hS, lv_sub hl [2, 3, 4, 5, 1, 0] rfl⟩ ?_
  intro nn ih6 ls H locs hJ
  obtain ⟨F, k, n, w, c6_f, c6_b, c6_k, c6_i, hP, hD, hS, hl⟩ := hJ
  have hn : n ≤ ro := ud_Iv_le c6_i
  refine lv_iload hx hb dX0_turned_6 (lv_at hl 5 rfl) ?_
  refine lv_iload_n hx hb dX0_turned_8 rfl (lv_at hl 2 rfl) ?_
  refine ud_ge (tgt := 125) hx hb dX0_turned_9 (by decide) (by omega) (by omega) (fun c9 => ?_) (fun c9 => ?_)
  · refine lv_iload hx hb dX0_turned_125 (lv_at hl 4 rfl) ?_
    have hP9 := hP.sub (ws' := [(pq, .inr (1, [.ref qd, .ref pt, .int (nI z), .ref pu, .int md])), (pt, .inl (cB, 128, .inl f)), (pu, .inl (cI, 160, .inl w))]) [0, 1, 2] rfl
    have hD9 := hD.sub (ws' := [(pq, .inr (1, [.ref qd, .ref pt, .int (nI z), .ref pu, .int md])), (pt, .inl (cB, 128, .inl f)), (pu, .inl (cI, 160, .inl w))]) [0, 1, 2] (by decide) rfl
    have hK9 := hK.sub (tys' := [(cB, .byte), (cI, .int)]) [0, 1] rfl
    exact W.iret (v := (nI n)) hx hb hr (fun t ht hW => ⟨⟨(nI n), w, rfl, ud_Iv_exit c6_i c9, ud_end ht hW hP9 hK9 hD9⟩, hS.F ht⟩) hS.2.2 dX0_turned_127
  · obtain ⟨F', rfl⟩ : ∃ F', F = F' + 1 := ⟨F - 1, by omega⟩
    refine lv_aload_n hx hb dX0_turned_12 rfl (lv_at hl 0 rfl) ?_
    refine lv_iload hx hb dX0_turned_13 (lv_at hl 5 rfl) ?_
    refine lv_iload_n hx hb dX0_turned_15 rfl (lv_at hl 2 rfl) ?_
    have hPc := hP.sub (ws' := [(pq, .inr (1, [.ref qd, .ref pt, .int (nI z), .ref pu, .int md])), (pt, .inl (cB, 128, .inl f))]) [0, 1] rfl
    have hDc := hD.sub (ws' := [(pq, .inr (1, [.ref qd, .ref pt, .int (nI z), .ref pu, .int md])), (pt, .inl (cB, 128, .inl f))]) [0, 1] (by decide) rfl
    have hKc := hK.sub (tys' := [(cB, .byte)]) [0] rfl
    have hFc := va_free (wc := [(pq, .inr (1, [.ref qd, .ref pt, .int (nI z), .ref pu, .int md])), (pt, .inl (cB, 128, .inl f))]) hD hS hA [0, 1] rfl
    refine va_calli (va_runV (As := [.int (nI k), .int (nI (a + nc))]) (rest := []) ⟨hx, hb, hml, hown, hts⟩ (ud_X0_number l D H.size pq pt pu qd z k (a + nc) cB md f hf (by omega) (by omega)) (cwV 2 hts (lw_V q80 q82 qs2 q11 q83) rfl rfl rfl (by decide +kernel) ⟨Nat.le_of_ble_eq_true rfl, Nat.le_of_ble_eq_true rfl⟩) ⟨ud_fb, va_recv hKc hPc (ci := 1) (q0 := 0) rfl rfl, fun U hU hW => ⟨rfl, ud_go hPc hKc hDc U hU hW⟩⟩ rfl rfl hl.1 rfl (lv_room (Nat.le_of_ble_eq_true rfl)) dX0_turned_16 ⟨Nat.le_of_ble_eq_true rfl, Nat.le_of_ble_eq_true rfl⟩) hS (fun q _ h => hFc q h) hFc (fun r u t H1 locs ht hvm hw hB hz1 hk1 hS => ?_)
    obtain ⟨hP1, hK1, hD1⟩ := hB
    rw [ht] at hP1
    obtain ⟨hP, hD⟩ := va_join (wr := [(pu, .inl (cI, 160, .inl w))]) (w1 := [(pq, .inr (1, [.ref qd, .ref pt, .int (nI z), .ref pu, .int md])), (pt, .inl (cB, 128, .inl f))]) hP hD [0, 1] [2] rfl rfl (by decide) (by decide) hk1 hFc hP1 hD1
    generalize H1 = H at hP hS ⊢
    have hP : va_P D ud_Cl [(pu, .inl (cI, 160, .inl w)), (pq, .inr (1, [.ref qd, .ref pt, .int (nI z), .ref pu, .int md])), (pt, .inl (cB, 128, .inl f))] H := hP
    have hD : va_D A [(pu, .inl (cI, 160, .inl w)), (pq, .inr (1, [.ref qd, .ref pt, .int (nI z), .ref pu, .int md])), (pt, .inl (cB, 128, .inl f))] := hD
    have hP := hP.sub (ws' := [(pq, .inr (1, [.ref qd, .ref pt, .int (nI z), .ref pu, .int md])), (pt, .inl (cB, 128, .inl f)), (pu, .inl (cI, 160, .inl w))]) [1, 2, 0] rfl
    have hD := hD.sub (ws' := [(pq, .inr (1, [.ref qd, .ref pt, .int (nI z), .ref pu, .int md])), (pt, .inl (cB, 128, .inl f)), (pu, .inl (cI, 160, .inl w))]) [1, 2, 0] (by decide) rfl
    rw [ud_nu_dc (ud_g_lt f k) c9] at hw
    subst hw
    rcases ud_dc_or (ud_dc (ud_g f) k (a + nc)) with hd | ⟨v, mm, hd⟩
    · refine ud_top (v := -1) (congrArg ud_dR hd) ?_
      refine lv_istore (lv' := [(6, .int (-1)), (0, .ref pq), (1, .int (nI a)), (2, .int (nI (a + nc))), (3, .int (nI ro)), (4, .int (nI n)), (5, .int (nI k))]) hx hb dX0_turned_19 hl (by decide) rfl (fun ls hl => ?_)
      refine lv_iload hx hb dX0_turned_21 (lv_at hl 0 rfl) ?_
      refine lv_if_lt (tgt := 45) hx hb dX0_turned_23 (by decide) (fun c23 => ?_) (fun c23 => ?_)
      · refine lv_iconst (v := (-1)) hx hb dX0_turned_45 (by decide) ?_
        have hP9 := hP.sub (ws' := [(pq, .inr (1, [.ref qd, .ref pt, .int (nI z), .ref pu, .int md])), (pt, .inl (cB, 128, .inl f)), (pu, .inl (cI, 160, .inl w))]) [0, 1, 2] rfl
        have hD9 := hD.sub (ws' := [(pq, .inr (1, [.ref qd, .ref pt, .int (nI z), .ref pu, .int md])), (pt, .inl (cB, 128, .inl f)), (pu, .inl (cI, 160, .inl w))]) [0, 1, 2] (by decide) rfl
        have hK9 := hK.sub (tys' := [(cB, .byte), (cI, .int)]) [0, 1] rfl
        exact W.iret (v := (-1)) hx hb hr (fun t ht hW => ⟨⟨(-1), w, rfl, ud_Iv_bad c6_i c9 hd _, ud_end ht hW hP9 hK9 hD9⟩, hS.F ht⟩) hS.2.2 dX0_turned_46
      · exact absurd (show (-1 : Int32) < 0 by decide) c23
    · refine ud_top (v := nI v) (congrArg ud_dR hd) ?_
      obtain ⟨hv1, hv2, hm, hke⟩ := ud_dc_spec hd c9
      have hm1 := (ud_nd_pos v).1
      rw [← hm] at hm1
      refine lv_istore (lv' := [(6, .int (nI v)), (0, .ref pq), (1, .int (nI a)), (2, .int (nI (a + nc))), (3, .int (nI ro)), (4, .int (nI n)), (5, .int (nI k))]) hx hb dX0_turned_19 hl (by decide) rfl (fun ls hl => ?_)
      refine lv_iload hx hb dX0_turned_21 (lv_at hl 0 rfl) ?_
      refine lv_if_lt (tgt := 45) hx hb dX0_turned_23 (by decide) (fun c23 => ?_) (fun c23 => ?_)
      · exact absurd c23 (nI_pos (by omega))
      · refine lv_iload hx hb dX0_turned_26 (lv_at hl 5 rfl) ?_
        refine lv_iload hx hb dX0_turned_28 (lv_at hl 0 rfl) ?_
        refine lv_ldc (v := nI 65535) hx hb hown (hts _ q94) dX0_turned_30 ?_
        refine ud_le (tgt := 39) hx hb dX0_turned_32 (by decide) (by omega) (by decide) (fun c32 => ?_) (fun c32 => ?_)
        · refine lv_iconst (v := nI 1) hx hb dX0_turned_39 (by decide) ?_
          refine lv_iadd hx hb dX0_turned_40 ?_
          refine ud_top (v := nI (n + 1)) (nI_add _ _) ?_
          refine lv_iload_n hx hb dX0_turned_41 rfl (lv_at hl 4 rfl) ?_
          refine ud_le (tgt := 47) hx hb dX0_turned_42 (by decide) (by omega) (by omega) (fun c42 => ?_) (fun c42 => ?_)
          · refine lv_iload hx hb dX0_turned_47 (lv_at hl 0 rfl) ?_
            refine lv_ldc (v := nI 65535) hx hb hown (hts _ q94) dX0_turned_49 ?_
            refine ud_le (tgt := 100) hx hb dX0_turned_51 (by decide) (by omega) (by decide) (fun c51 => ?_) (fun c51 => ?_)
            · refine lv_aload_n hx hb dX0_turned_100 rfl (lv_at hl 1 rfl) ?_
              refine va_get (D := D) (ci := 1) (v := .ref pu) (C := RX0) (T := TX0) (N := 5) hx hb hts in_X0 hown hK hP 0 rfl rfl 3 (by decide) (hts _ q51) (fun _ h9 => h9) rfl dX0_turned_101 ?_
              refine lv_iload hx hb dX0_turned_104 (lv_at hl 5 rfl) ?_
              refine lv_iinc (v := nI (n + 1)) (lv' := [(4, .int (nI (n + 1))), (6, .int (nI v)), (0, .ref pq), (1, .int (nI a)), (2, .int (nI (a + nc))), (3, .int (nI ro)), (5, .int (nI k))]) hx hb dX0_turned_106 hl (k := 5) rfl (ud_inc n) (by decide) rfl (fun ls hl => ?_)
              refine lv_iload hx hb dX0_turned_109 (lv_at hl 1 rfl) ?_
              refine ud_iast hx hb hK hP hD hS 2 1 rfl rfl (upd w n (nI v)) (by omega) (by decide) rfl dX0_turned_111 (fun H locs hP hD hS => ?_)
              have hP : va_P D ud_Cl [(pq, .inr (1, [.ref qd, .ref pt, .int (nI z), .ref pu, .int md])), (pt, .inl (cB, 128, .inl f)), (pu, .inl (cI, 160, .inl (upd w n (nI v))))] H := hP
              have hD : va_D A [(pq, .inr (1, [.ref qd, .ref pt, .int (nI z), .ref pu, .int md])), (pt, .inl (cB, 128, .inl f)), (pu, .inl (cI, 160, .inl (upd w n (nI v))))] := hD
              refine lv_iload hx hb dX0_turned_112 (lv_at hl 6 rfl) ?_
              refine lv_iload hx hb dX0_turned_114 (lv_at hl 1 rfl) ?_
              have hPc := hP.sub (ws' := []) [] rfl
              have hDc := hD.sub (ws' := []) [] (by decide) rfl
              have hKc := hK.sub (tys' := []) [] rfl
              have hFc := va_free (wc := []) hD hS hA [] rfl
              refine va_calli (va_runS (As := [.int (nI v)]) (rest := [.int (nI k)]) ⟨hx, hb, hml, hown, hts⟩ (ud_X0_needed l D H.size (nI v)) (va_cwS 1 hts (lw_S q87 q88 q11 q89) rfl rfl rfl (by decide +kernel) ⟨Nat.le_of_ble_eq_true rfl, Nat.le_of_ble_eq_true rfl⟩) ⟨ud_fb, fun U hU hW => ⟨rfl, ud_go hPc hKc hDc U hU hW⟩⟩ rfl rfl hl.1 rfl (lv_room (Nat.le_of_ble_eq_true rfl)) dX0_turned_116 ⟨Nat.le_of_ble_eq_true rfl, Nat.le_of_ble_eq_true rfl⟩) hS (fun q _ h => hFc q h) hFc (fun r u t H1 locs ht hvm hw hB hz1 hk1 hS => ?_)
              obtain ⟨hP1, hK1, hD1⟩ := hB
              rw [ht] at hP1
              obtain ⟨hP, hD⟩ := va_join (wr := [(pq, .inr (1, [.ref qd, .ref pt, .int (nI z), .ref pu, .int md])), (pt, .inl (cB, 128, .inl f)), (pu, .inl (cI, 160, .inl (upd w n (nI v))))]) (w1 := []) hP hD [] [0, 1, 2] rfl rfl (by decide) (by decide) hk1 hFc hP1 hD1
              generalize H1 = H at hP hS ⊢
              have hP : va_P D ud_Cl [(pq, .inr (1, [.ref qd, .ref pt, .int (nI z), .ref pu, .int md])), (pt, .inl (cB, 128, .inl f)), (pu, .inl (cI, 160, .inl (upd w n (nI v))))] H := hP
              have hD : va_D A [(pq, .inr (1, [.ref qd, .ref pt, .int (nI z), .ref pu, .int md])), (pt, .inl (cB, 128, .inl f)), (pu, .inl (cI, 160, .inl (upd w n (nI v))))] := hD
              rw [ud_nd_I (by omega), ← hm] at hw
              subst hw
              refine lv_iadd hx hb dX0_turned_119 ?_
              refine ud_top (v := nI (k + mm)) (nI_add _ _) ?_
              refine lv_istore (lv' := [(5, .int (nI (k + mm))), (4, .int (nI (n + 1))), (6, .int (nI v)), (0, .ref pq), (1, .int (nI a)), (2, .int (nI (a + nc))), (3, .int (nI ro))]) hx hb dX0_turned_120 hl (by decide) rfl (fun ls hl => ?_)
              refine lv_goto (tgt := 6) hx hb dX0_turned_122 (by decide) ?_
              exact ih6 ls H locs ⟨F', k + mm, n + 1, upd w n (nI v), by omega, by omega, by omega, ud_Iv_one c6_i c9 hd c32 c42, hP, hD, hS, lv_sub hl [3, 4, 5, 6, 1, 0] rfl⟩
            · exact absurd c51 (by omega)
          · refine lv_iconst (v := (-1)) hx hb dX0_turned_45 (by decide) ?_
            have hP9 := hP.sub (ws' := [(pq, .inr (1, [.ref qd, .ref pt, .int (nI z), .ref pu, .int md])), (pt, .inl (cB, 128, .inl f)), (pu, .inl (cI, 160, .inl w))]) [0, 1, 2] rfl
            have hD9 := hD.sub (ws' := [(pq, .inr (1, [.ref qd, .ref pt, .int (nI z), .ref pu, .int md])), (pt, .inl (cB, 128, .inl f)), (pu, .inl (cI, 160, .inl w))]) [0, 1, 2] (by decide) rfl
            have hK9 := hK.sub (tys' := [(cB, .byte), (cI, .int)]) [0, 1] rfl
            exact W.iret (v := (-1)) hx hb hr (fun t ht hW => ⟨⟨(-1), w, rfl, ud_Iv_full1 c6_i c9 hd c32 c42 _, ud_end ht hW hP9 hK9 hD9⟩, hS.F ht⟩) hS.2.2 dX0_turned_46
        · refine lv_iconst (v := nI 2) hx hb dX0_turned_35 (by decide) ?_
          refine lv_goto (tgt := 40) hx hb dX0_turned_36 (by decide) ?_
          refine lv_iadd hx hb dX0_turned_40 ?_
          refine ud_top (v := nI (n + 2)) (nI_add _ _) ?_
          refine lv_iload_n hx hb dX0_turned_41 rfl (lv_at hl 4 rfl) ?_
          refine ud_le (tgt := 47) hx hb dX0_turned_42 (by decide) (by omega) (by omega) (fun c42 => ?_) (fun c42 => ?_)
          · refine lv_iload hx hb dX0_turned_47 (lv_at hl 0 rfl) ?_
            refine lv_ldc (v := nI 65535) hx hb hown (hts _ q94) dX0_turned_49 ?_
            refine ud_le (tgt := 100) hx hb dX0_turned_51 (by decide) (by omega) (by decide) (fun c51 => ?_) (fun c51 => ?_)
            · exact absurd c51 (by omega)
            · refine lv_aload_n hx hb dX0_turned_54 rfl (lv_at hl 1 rfl) ?_
              refine va_get (D := D) (ci := 1) (v := .ref pu) (C := RX0) (T := TX0) (N := 5) hx hb hts in_X0 hown hK hP 0 rfl rfl 3 (by decide) (hts _ q51) (fun _ h9 => h9) rfl dX0_turned_55 ?_
              refine lv_iload hx hb dX0_turned_58 (lv_at hl 5 rfl) ?_
              refine lv_iinc (v := nI (n + 1)) (lv' := [(4, .int (nI (n + 1))), (6, .int (nI v)), (0, .ref pq), (1, .int (nI a)), (2, .int (nI (a + nc))), (3, .int (nI ro)), (5, .int (nI k))]) hx hb dX0_turned_60 hl (k := 5) rfl (ud_inc n) (by decide) rfl (fun ls hl => ?_)
              refine lv_ldc (v := nI 55296) hx hb hown (hts _ q92) dX0_turned_63 ?_
              refine lv_iload hx hb dX0_turned_65 (lv_at hl 1 rfl) ?_
              refine lv_ldc (v := nI 65536) hx hb hown (hts _ q90) dX0_turned_67 ?_
              refine lv_isub hx hb dX0_turned_69 ?_
              refine ud_top (v := nI (v - 65536)) (pk_sub (by omega)) ?_
              refine lv_bipush (v := 10) hx hb dX0_turned_70 (by decide) ?_
              refine lv_ishr hx hb dX0_turned_72 ?_
              refine ud_top (v := nI ((v - 65536) / 1024)) (pk_shrN (by omega) (10 &&& 31) 10 (by decide)) ?_
              refine lv_iadd hx hb dX0_turned_73 ?_
              refine ud_top (v := nI (55296 + (v - 65536) / 1024)) (nI_add _ _) ?_
              refine ud_iast hx hb hK hP hD hS 2 1 rfl rfl (upd w n (nI (55296 + (v - 65536) / 1024))) (by omega) (by decide) rfl dX0_turned_74 (fun H locs hP hD hS => ?_)
              have hP : va_P D ud_Cl [(pq, .inr (1, [.ref qd, .ref pt, .int (nI z), .ref pu, .int md])), (pt, .inl (cB, 128, .inl f)), (pu, .inl (cI, 160, .inl (upd w n (nI (55296 + (v - 65536) / 1024)))))] H := hP
              have hD : va_D A [(pq, .inr (1, [.ref qd, .ref pt, .int (nI z), .ref pu, .int md])), (pt, .inl (cB, 128, .inl f)), (pu, .inl (cI, 160, .inl (upd w n (nI (55296 + (v - 65536) / 1024)))))] := hD
              refine lv_aload_n hx hb dX0_turned_75 rfl (lv_at hl 2 rfl) ?_
              refine va_get (D := D) (ci := 1) (v := .ref pu) (C := RX0) (T := TX0) (N := 5) hx hb hts in_X0 hown hK hP 0 rfl rfl 3 (by decide) (hts _ q51) (fun _ h9 => h9) rfl dX0_turned_76 ?_
              refine lv_iload hx hb dX0_turned_79 (lv_at hl 0 rfl) ?_
              refine lv_iinc (v := nI (n + 1 + 1)) (lv' := [(4, .int (nI (n + 1 + 1))), (6, .int (nI v)), (0, .ref pq), (1, .int (nI a)), (2, .int (nI (a + nc))), (3, .int (nI ro)), (5, .int (nI k))]) hx hb dX0_turned_81 hl (k := 0) rfl (ud_inc (n + 1)) (by decide) rfl (fun ls hl => ?_)
              refine lv_ldc (v := nI 56320) hx hb hown (hts _ q95) dX0_turned_84 ?_
              refine lv_iload hx hb dX0_turned_86 (lv_at hl 1 rfl) ?_
              refine lv_ldc (v := nI 65536) hx hb hown (hts _ q90) dX0_turned_88 ?_
              refine lv_isub hx hb dX0_turned_90 ?_
              refine ud_top (v := nI (v - 65536)) (pk_sub (by omega)) ?_
              refine lv_sipush (v := 1023) hx hb dX0_turned_91 (by decide) ?_
              refine lv_iand hx hb dX0_turned_94 ?_
              refine ud_top (v := nI ((v - 65536) % 1024)) (pk_andN (by omega) 10 (by decide)) ?_
              refine lv_iadd hx hb dX0_turned_95 ?_
              refine ud_top (v := nI (56320 + (v - 65536) % 1024)) (nI_add _ _) ?_
              refine ud_iast hx hb hK hP hD hS 2 1 rfl rfl (upd (upd w n (nI (55296 + (v - 65536) / 1024))) (n + 1) (nI (56320 + (v - 65536) % 1024))) (by omega) (by decide) rfl dX0_turned_96 (fun H locs hP hD hS => ?_)
              have hP : va_P D ud_Cl [(pq, .inr (1, [.ref qd, .ref pt, .int (nI z), .ref pu, .int md])), (pt, .inl (cB, 128, .inl f)), (pu, .inl (cI, 160, .inl (upd (upd w n (nI (55296 + (v - 65536) / 1024))) (n + 1) (nI (56320 + (v - 65536) % 1024)))))] H := hP
              have hD : va_D A [(pq, .inr (1, [.ref qd, .ref pt, .int (nI z), .ref pu, .int md])), (pt, .inl (cB, 128, .inl f)), (pu, .inl (cI, 160, .inl (upd (upd w n (nI (55296 + (v - 65536) / 1024))) (n + 1) (nI (56320 + (v - 65536) % 1024)))))] := hD
              refine lv_goto (tgt := 112) hx hb dX0_turned_97 (by decide) ?_
              refine lv_iload hx hb dX0_turned_112 (lv_at hl 6 rfl) ?_
              refine lv_iload hx hb dX0_turned_114 (lv_at hl 1 rfl) ?_
              have hPc := hP.sub (ws' := []) [] rfl
              have hDc := hD.sub (ws' := []) [] (by decide) rfl
              have hKc := hK.sub (tys' := []) [] rfl
              have hFc := va_free (wc := []) hD hS hA [] rfl
              refine va_calli (va_runS (As := [.int (nI v)]) (rest := [.int (nI k)]) ⟨hx, hb, hml, hown, hts⟩ (ud_X0_needed l D H.size (nI v)) (va_cwS 1 hts (lw_S q87 q88 q11 q89) rfl rfl rfl (by decide +kernel) ⟨Nat.le_of_ble_eq_true rfl, Nat.le_of_ble_eq_true rfl⟩) ⟨ud_fb, fun U hU hW => ⟨rfl, ud_go hPc hKc hDc U hU hW⟩⟩ rfl rfl hl.1 rfl (lv_room (Nat.le_of_ble_eq_true rfl)) dX0_turned_116 ⟨Nat.le_of_ble_eq_true rfl, Nat.le_of_ble_eq_true rfl⟩) hS (fun q _ h => hFc q h) hFc (fun r u t H1 locs ht hvm hw hB hz1 hk1 hS => ?_)
              obtain ⟨hP1, hK1, hD1⟩ := hB
              rw [ht] at hP1
              obtain ⟨hP, hD⟩ := va_join (wr := [(pq, .inr (1, [.ref qd, .ref pt, .int (nI z), .ref pu, .int md])), (pt, .inl (cB, 128, .inl f)), (pu, .inl (cI, 160, .inl (upd (upd w n (nI (55296 + (v - 65536) / 1024))) (n + 1) (nI (56320 + (v - 65536) % 1024)))))]) (w1 := []) hP hD [] [0, 1, 2] rfl rfl (by decide) (by decide) hk1 hFc hP1 hD1
              generalize H1 = H at hP hS ⊢
              have hP : va_P D ud_Cl [(pq, .inr (1, [.ref qd, .ref pt, .int (nI z), .ref pu, .int md])), (pt, .inl (cB, 128, .inl f)), (pu, .inl (cI, 160, .inl (upd (upd w n (nI (55296 + (v - 65536) / 1024))) (n + 1) (nI (56320 + (v - 65536) % 1024)))))] H := hP
              have hD : va_D A [(pq, .inr (1, [.ref qd, .ref pt, .int (nI z), .ref pu, .int md])), (pt, .inl (cB, 128, .inl f)), (pu, .inl (cI, 160, .inl (upd (upd w n (nI (55296 + (v - 65536) / 1024))) (n + 1) (nI (56320 + (v - 65536) % 1024)))))] := hD
              rw [ud_nd_I (by omega), ← hm] at hw
              subst hw
              refine lv_iadd hx hb dX0_turned_119 ?_
              refine ud_top (v := nI (k + mm)) (nI_add _ _) ?_
              refine lv_istore (lv' := [(5, .int (nI (k + mm))), (4, .int (nI (n + 1 + 1))), (6, .int (nI v)), (0, .ref pq), (1, .int (nI a)), (2, .int (nI (a + nc))), (3, .int (nI ro))]) hx hb dX0_turned_120 hl (by decide) rfl (fun ls hl => ?_)
              refine lv_goto (tgt := 6) hx hb dX0_turned_122 (by decide) ?_
              exact ih6 ls H locs ⟨F', k + mm, n + 2, upd (upd w n (nI (55296 + (v - 65536) / 1024))) (n + 1) (nI (56320 + (v - 65536) % 1024)), by omega, by omega, by omega, ud_Iv_two c6_i c9 hd c32 hv1 c42, hP, hD, hS, lv_sub hl [3, 4, 5, 6, 1, 0] rfl⟩
          · refine lv_iconst (v := (-1)) hx hb dX0_turned_45 (by decide) ?_
            have hP9 := hP.sub (ws' := [(pq, .inr (1, [.ref qd, .ref pt, .int (nI z), .ref pu, .int md])), (pt, .inl (cB, 128, .inl f)), (pu, .inl (cI, 160, .inl w))]) [0, 1, 2] rfl
            have hD9 := hD.sub (ws' := [(pq, .inr (1, [.ref qd, .ref pt, .int (nI z), .ref pu, .int md])), (pt, .inl (cB, 128, .inl f)), (pu, .inl (cI, 160, .inl w))]) [0, 1, 2] (by decide) rfl
            have hK9 := hK.sub (tys' := [(cB, .byte), (cI, .int)]) [0, 1] rfl
            exact W.iret (v := (-1)) hx hb hr (fun t ht hW => ⟨⟨(-1), w, rfl, ud_Iv_full2 c6_i c9 hd c32 c42 _, ud_end ht hW hP9 hK9 hD9⟩, hS.F ht⟩) hS.2.2 dX0_turned_46
set_option maxHeartbeats 4000000 in
set_option maxRecDepth 100000 in
theorem ud_X0_isUnit (l : Launch) (D : va_G) (sz : Nat) (pq pt pu qd qt qu z : Nat) (cI cC : ClassId) (md : Int32) (lu du : Nat → Int32) (hmk : ud_Mk md lu du) (x : Int32) : Met l yX0_isUnit (ws_ yX0_isUnit cX0_isUnit 2 (some .boolean)) ({ frames := 1, cells := 0, slots := 0, locals := 21 }) (va_Pc [.ref pq, .int x] (ud_W D [(pq, .inr (1, [.ref qd, .ref pt, .int (nI z), .ref pu, .int md])), (pu, .inl (cI, 160, .inl lu)), (qd, .inr (0, [.ref qt, .int (nI z), .ref qu, .int md])), (qu, .inl (cC, 160, .inl du))] [(cI, .int), (cC, .char)] sz)) (va_Qi (fun (r : Int32) (u : Unit) => r = 1) (fun u t => ud_E D (va_A [(pq, .inr (1, [.ref qd, .ref pt, .int (nI z), .ref pu, .int md])), (pu, .inl (cI, 160, .inl lu)), (qd, .inr (0, [.ref qt, .int (nI z), .ref qu, .int md])), (qu, .inl (cC, 160, .inl du))] sz) [(pq, .inr (1, [.ref qd, .ref pt, .int (nI z), .ref pu, .int md])), (pu, .inl (cI, 160, .inl lu)), (qd, .inr (0, [.ref qt, .int (nI z), .ref qu, .int md])), (qu, .inl (cC, 160, .inl du))] [(cI, .int), (cC, .char)] t) (va_A [(pq, .inr (1, [.ref qd, .ref pt, .int (nI z), .ref pu, .int md])), (pu, .inl (cI, 160, .inl lu)), (qd, .inr (0, [.ref qt, .int (nI z), .ref qu, .int md])), (qu, .inl (cC, 160, .inl du))] sz)) 0 0 (va_A [(pq, .inr (1, [.ref qd, .ref pt, .int (nI z), .ref pu, .int md])), (pu, .inl (cI, 160, .inl lu)), (qd, .inr (0, [.ref qt, .int (nI z), .ref qu, .int md])), (qu, .inl (cC, 160, .inl du))] sz) := by
  refine Met.ofW (cc := cX0_isUnit) (maxL := 2) (ret := (some .boolean)) (by decide) rfl ?_
  intro p e s m args below meth c s₁ B hml hv
  obtain ⟨rfl, hsz, hP, hK, hD0⟩ := hv
  have hx := B.exec
  have hb := B.bytes
  have hr := B.returns
  have hts := atoms_spec (ws := ws_ yX0_isUnit cX0_isUnit 2 (some .boolean)) B.pre
  have hts : ∀ w ∈ lw_all, w.before _ s = true := fun w h => hts w (List.mem_cons_of_mem _ h)
  have hown : s.vm.findClass RX0 = some m.cls := findClass_of_methodNamed B.named
  have hlocks := B.notSynchronized
  subst hsz
  have hD := hD0.self (sz := s.heap.size)
  generalize hAe : va_A [(pq, .inr (1, [.ref qd, .ref pt, .int (nI z), .ref pu, .int md])), (pu, .inl (cI, 160, .inl lu)), (qd, .inr (0, [.ref qt, .int (nI z), .ref qu, .int md])), (qu, .inl (cC, 160, .inl du))] s.heap.size = A at hD ⊢
  have hA : ∀ q : Nat, s.heap.size ≤ q → A q := fun q h => by rw [← hAe]; exact Or.inr h
  have hS : va_S A s.heap s.heap [] := va_S.rf
  have hP : va_P D ud_Cl [(pq, .inr (1, [.ref qd, .ref pt, .int (nI z), .ref pu, .int md])), (pu, .inl (cI, 160, .inl lu)), (qd, .inr (0, [.ref qt, .int (nI z), .ref qu, .int md])), (qu, .inl (cC, 160, .inl du))] s.heap := hP
  have hl := lv_entry ([.ref pq, .int x]) (n := 2) (Nat.le_of_ble_eq_true rfl)
  rw [lg_entry_eq]
  generalize (lg_sl ([.ref pq, .int x]) ++ List.replicate (2 - (lg_sl ([.ref pq, .int x])).length) Slot.unset).toArray = ls at hl ⊢
  have hl : lv_has ls 2 [(0, .ref pq), (1, .int x)] := hl
  refine lv_aload_n hx hb dX0_isUnit_0 rfl (lv_at hl 0 rfl) ?_
  refine va_get (D := D) (ci := 1) (v := .ref qd) (C := RX0) (T := TX0) (N := 5) hx hb hts in_X0 hown hK hP 0 rfl rfl 0 (by decide) (hts _ q48) (fun _ h9 => h9) rfl dX0_isUnit_1 ?_
  refine lv_iload_n hx hb dX0_isUnit_4 rfl (lv_at hl 1 rfl) ?_
  have hPc := hP.sub (ws' := [(qd, .inr (0, [.ref qt, .int (nI z), .ref qu, .int md])), (qu, .inl (cC, 160, .inl du))]) [2, 3] rfl
  have hDc := hD.sub (ws' := [(qd, .inr (0, [.ref qt, .int (nI z), .ref qu, .int md])), (qu, .inl (cC, 160, .inl du))]) [2, 3] (by decide) rfl
  have hKc := hK.sub (tys' := [(cC, .char)]) [1] rfl
  have hFc := va_free (wc := [(qd, .inr (0, [.ref qt, .int (nI z), .ref qu, .int md])), (qu, .inl (cC, 160, .inl du))]) hD hS hA [2, 3] rfl
  refine va_calli (va_runV (As := [.int x]) (rest := []) ⟨hx, hb, hml, hown, hts⟩ (ud_X1_unit l D s.heap.size qd qt qu cC (nI z) md du (hmk.imp id (fun q => by obtain ⟨n, h1, h2, h3⟩ := q; exact ⟨n, h1, h2⟩)) x) (cwV 1 hts (lw_V q14 q15 q16 q12 q17) rfl rfl rfl (by decide +kernel) ⟨Nat.le_of_ble_eq_true rfl, Nat.le_of_ble_eq_true rfl⟩) ⟨ud_fb, va_recv hKc hPc (ci := 0) (q0 := 0) rfl rfl, fun U hU hW => ⟨rfl, ud_go hPc hKc hDc U hU hW⟩⟩ rfl rfl hl.1 rfl (lv_room (Nat.le_of_ble_eq_true rfl)) dX0_isUnit_5 ⟨Nat.le_of_ble_eq_true rfl, Nat.le_of_ble_eq_true rfl⟩) hS (fun q _ h => hFc q h) hFc (fun r u t H1 locs ht hvm hw hB hz1 hk1 hS => ?_)
  obtain ⟨hP1, hK1, hD1⟩ := hB
  rw [ht] at hP1
  obtain ⟨hP, hD⟩ := va_join (wr := [(pq, .inr (1, [.ref qd, .ref pt, .int (nI z), .ref pu, .int md])), (pu, .inl (cI, 160, .inl lu))]) (w1 := [(qd, .inr (0, [.ref qt, .int (nI z), .ref qu, .int md])), (qu, .inl (cC, 160, .inl du))]) hP hD [2, 3] [0, 1] rfl rfl (by decide) (by decide) hk1 hFc hP1 hD1
  generalize H1 = H at hP hS ⊢
  have hP : va_P D ud_Cl [(pq, .inr (1, [.ref qd, .ref pt, .int (nI z), .ref pu, .int md])), (pu, .inl (cI, 160, .inl lu)), (qd, .inr (0, [.ref qt, .int (nI z), .ref qu, .int md])), (qu, .inl (cC, 160, .inl du))] H := hP
  have hD : va_D A [(pq, .inr (1, [.ref qd, .ref pt, .int (nI z), .ref pu, .int md])), (pu, .inl (cI, 160, .inl lu)), (qd, .inr (0, [.ref qt, .int (nI z), .ref qu, .int md])), (qu, .inl (cC, 160, .inl du))] := hD
  subst hw
  refine lv_aload_n hx hb dX0_isUnit_8 rfl (lv_at hl 0 rfl) ?_
  refine va_get (D := D) (ci := 1) (v := .int md) (C := RX0) (T := TX0) (N := 5) hx hb hts in_X0 hown hK hP 0 rfl rfl 4 (by decide) (hts _ q52) (fun _ h9 => h9) rfl dX0_isUnit_9 ?_
  refine lv_if_gt (tgt := 19) hx hb dX0_isUnit_12 (by decide) (fun c12 => ?_) (fun c12 => ?_)
  · obtain ⟨n, hn, hmn, hag⟩ : ∃ n, n ≤ 160 ∧ md = nI n ∧ ∀ j, j < n → lu j = du j := by
      rcases hmk with q | q
      · rw [q] at c12; exact absurd c12 (by decide)
      · exact q
    have hn0 : 0 < n := Nat.pos_of_ne_zero (fun q => by rw [hmn, q] at c12; exact absurd c12 (by decide))
    refine lv_aload_n hx hb dX0_isUnit_19 rfl (lv_at hl 0 rfl) ?_
    refine va_get (D := D) (ci := 1) (v := .ref pu) (C := RX0) (T := TX0) (N := 5) hx hb hts in_X0 hown hK hP 0 rfl rfl 3 (by decide) (hts _ q51) (fun _ h9 => h9) rfl dX0_isUnit_20 ?_
    refine lv_iload_n hx hb dX0_isUnit_23 rfl (lv_at hl 1 rfl) ?_
    refine lv_aload_n hx hb dX0_isUnit_24 rfl (lv_at hl 0 rfl) ?_
    refine va_get (D := D) (ci := 1) (v := .int md) (C := RX0) (T := TX0) (N := 5) hx hb hts in_X0 hown hK hP 0 rfl rfl 4 (by decide) (hts _ q52) (fun _ h9 => h9) rfl dX0_isUnit_25 ?_
    refine ud_top (v := nI n) hmn ?_
    have hPc := hP.sub (ws' := []) [] rfl
    have hDc := hD.sub (ws' := []) [] (by decide) rfl
    have hKc := hK.sub (tys' := []) [] rfl
    have hFc := va_free (wc := []) hD hS hA [] rfl
    refine va_calli (va_runS (As := [.int x, .int (nI n)]) (rest := [.ref pu, .int (ud_ut md du x)]) ⟨hx, hb, hml, hown, hts⟩ (ud_X0_from l D H.size x n hn0 (by omega)) (va_cwS 2 hts (lw_S q72 q73 q11 q74) rfl rfl rfl (by decide +kernel) ⟨Nat.le_of_ble_eq_true rfl, Nat.le_of_ble_eq_true rfl⟩) ⟨ud_fb, fun U hU hW => ⟨rfl, ud_go hPc hKc hDc U hU hW⟩⟩ rfl rfl hl.1 rfl (lv_room (Nat.le_of_ble_eq_true rfl)) dX0_isUnit_28 ⟨Nat.le_of_ble_eq_true rfl, Nat.le_of_ble_eq_true rfl⟩) hS (fun q _ h => hFc q h) hFc (fun r u t H1 locs ht hvm hw hB hz1 hk1 hS => ?_)
    obtain ⟨hP1, hK1, hD1⟩ := hB
    rw [ht] at hP1
    obtain ⟨hP, hD⟩ := va_join (wr := [(pq, .inr (1, [.ref qd, .ref pt, .int (nI z), .ref pu, .int md])), (pu, .inl (cI, 160, .inl lu)), (qd, .inr (0, [.ref qt, .int (nI z), .ref qu, .int md])), (qu, .inl (cC, 160, .inl du))]) (w1 := []) hP hD [] [0, 1, 2, 3] rfl rfl (by decide) (by decide) hk1 hFc hP1 hD1
    generalize H1 = H at hP hS ⊢
    have hP : va_P D ud_Cl [(pq, .inr (1, [.ref qd, .ref pt, .int (nI z), .ref pu, .int md])), (pu, .inl (cI, 160, .inl lu)), (qd, .inr (0, [.ref qt, .int (nI z), .ref qu, .int md])), (qu, .inl (cC, 160, .inl du))] H := hP
    have hD : va_D A [(pq, .inr (1, [.ref qd, .ref pt, .int (nI z), .ref pu, .int md])), (pu, .inl (cI, 160, .inl lu)), (qd, .inr (0, [.ref qt, .int (nI z), .ref qu, .int md])), (qu, .inl (cC, 160, .inl du))] := hD
    subst hw
    refine ud_iald hx hb hK hP 1 0 rfl rfl (by have := ud_fM_lt x hn0; omega) (by decide) dX0_isUnit_31 ?_
    refine lv_icmp_ne (tgt := 39) hx hb dX0_isUnit_32 (by decide) (fun c32 => ?_) (fun c32 => ?_)
    · exact absurd (by unfold ud_ut; rw [if_pos c12, hmn, nI_clamp (by omega)]; exact (hag _ (ud_fM_lt x hn0)).symm) c32
    · refine lv_iconst (v := 1) hx hb dX0_isUnit_35 (by decide) ?_
      refine lv_goto (tgt := 40) hx hb dX0_isUnit_36 (by decide) ?_
      have hP9 := hP.sub (ws' := [(pq, .inr (1, [.ref qd, .ref pt, .int (nI z), .ref pu, .int md])), (pu, .inl (cI, 160, .inl lu)), (qd, .inr (0, [.ref qt, .int (nI z), .ref qu, .int md])), (qu, .inl (cC, 160, .inl du))]) [0, 1, 2, 3] rfl
      have hD9 := hD.sub (ws' := [(pq, .inr (1, [.ref qd, .ref pt, .int (nI z), .ref pu, .int md])), (pu, .inl (cI, 160, .inl lu)), (qd, .inr (0, [.ref qt, .int (nI z), .ref qu, .int md])), (qu, .inl (cC, 160, .inl du))]) [0, 1, 2, 3] (by decide) rfl
      have hK9 := hK.sub (tys' := [(cI, .int), (cC, .char)]) [0, 1] rfl
      exact W.zret (v := 1) hx hb hr rfl (fun t ht hW => ⟨⟨1, (), rfl, rfl, ud_end ht hW hP9 hK9 hD9⟩, hS.F ht⟩) hS.2.2 dX0_isUnit_40
  · refine lv_iconst (v := (-1)) hx hb dX0_isUnit_15 (by decide) ?_
    refine lv_goto (tgt := 32) hx hb dX0_isUnit_16 (by decide) ?_
    refine lv_icmp_ne (tgt := 39) hx hb dX0_isUnit_32 (by decide) (fun c32 => ?_) (fun c32 => ?_)
    · exact absurd (by unfold ud_ut; rw [if_neg c12]) c32
    · refine lv_iconst (v := 1) hx hb dX0_isUnit_35 (by decide) ?_
      refine lv_goto (tgt := 40) hx hb dX0_isUnit_36 (by decide) ?_
      have hP9 := hP.sub (ws' := [(pq, .inr (1, [.ref qd, .ref pt, .int (nI z), .ref pu, .int md])), (pu, .inl (cI, 160, .inl lu)), (qd, .inr (0, [.ref qt, .int (nI z), .ref qu, .int md])), (qu, .inl (cC, 160, .inl du))]) [0, 1, 2, 3] rfl
      have hD9 := hD.sub (ws' := [(pq, .inr (1, [.ref qd, .ref pt, .int (nI z), .ref pu, .int md])), (pu, .inl (cI, 160, .inl lu)), (qd, .inr (0, [.ref qt, .int (nI z), .ref qu, .int md])), (qu, .inl (cC, 160, .inl du))]) [0, 1, 2, 3] (by decide) rfl
      have hK9 := hK.sub (tys' := [(cI, .int), (cC, .char)]) [0, 1] rfl
      exact W.zret (v := 1) hx hb hr rfl (fun t ht hW => ⟨⟨1, (), rfl, rfl, ud_end ht hW hP9 hK9 hD9⟩, hS.F ht⟩) hS.2.2 dX0_isUnit_40
set_option maxHeartbeats 4000000 in
set_option maxRecDepth 100000 in
theorem ud_X0_set (l : Launch) (D : va_G) (sz : Nat) (pq pt pu qd qt qu z : Nat) (cB cE : ClassId) (md : Int32) (f : Nat → Int32) (hz : z ≤ 128) (hf : ud_isB f) (x v : Int32) : Met l yX0_set (ws_ yX0_set cX0_set 3 (some .boolean)) ({ frames := 1, cells := 0, slots := 0, locals := 22 }) (va_Pc [.ref pq, .int x, .int v] (ud_W D [(pq, .inr (1, [.ref qd, .ref pt, .int (nI z), .ref pu, .int md])), (pt, .inl (cB, 128, .inl f)), (qd, .inr (0, [.ref qt, .int (nI z), .ref qu, .int md])), (qt, .inl (cE, 128, .inl f))] [(cB, .byte), (cE, .byte)] sz)) (va_Qi (fun (r : Int32) (u : Nat → Int32) => r = 1 ∧ ud_isB u) (fun u t => ud_E D (va_A [(pq, .inr (1, [.ref qd, .ref pt, .int (nI z), .ref pu, .int md])), (pt, .inl (cB, 128, .inl f)), (qd, .inr (0, [.ref qt, .int (nI z), .ref qu, .int md])), (qt, .inl (cE, 128, .inl f))] sz) [(pq, .inr (1, [.ref qd, .ref pt, .int (nI z), .ref pu, .int md])), (pt, .inl (cB, 128, .inl u)), (qd, .inr (0, [.ref qt, .int (nI z), .ref qu, .int md])), (qt, .inl (cE, 128, .inl u))] [(cB, .byte), (cE, .byte)] t) (va_A [(pq, .inr (1, [.ref qd, .ref pt, .int (nI z), .ref pu, .int md])), (pt, .inl (cB, 128, .inl f)), (qd, .inr (0, [.ref qt, .int (nI z), .ref qu, .int md])), (qt, .inl (cE, 128, .inl f))] sz)) 0 0 (va_A [(pq, .inr (1, [.ref qd, .ref pt, .int (nI z), .ref pu, .int md])), (pt, .inl (cB, 128, .inl f)), (qd, .inr (0, [.ref qt, .int (nI z), .ref qu, .int md])), (qt, .inl (cE, 128, .inl f))] sz) := by
  refine Met.ofW (cc := cX0_set) (maxL := 3) (ret := (some .boolean)) (by decide) rfl ?_
  intro p e s m args below meth c s₁ B hml hv
  obtain ⟨rfl, hsz, hP, hK, hD0⟩ := hv
  have hx := B.exec
  have hb := B.bytes
  have hr := B.returns
  have hts := atoms_spec (ws := ws_ yX0_set cX0_set 3 (some .boolean)) B.pre
  have hts : ∀ w ∈ lw_all, w.before _ s = true := fun w h => hts w (List.mem_cons_of_mem _ h)
  have hown : s.vm.findClass RX0 = some m.cls := findClass_of_methodNamed B.named
  have hlocks := B.notSynchronized
  subst hsz
  have hD := hD0.self (sz := s.heap.size)
  generalize hAe : va_A [(pq, .inr (1, [.ref qd, .ref pt, .int (nI z), .ref pu, .int md])), (pt, .inl (cB, 128, .inl f)), (qd, .inr (0, [.ref qt, .int (nI z), .ref qu, .int md])), (qt, .inl (cE, 128, .inl f))] s.heap.size = A at hD ⊢
  have hA : ∀ q : Nat, s.heap.size ≤ q → A q := fun q h => by rw [← hAe]; exact Or.inr h
  have hS : va_S A s.heap s.heap [] := va_S.rf
  have hP : va_P D ud_Cl [(pq, .inr (1, [.ref qd, .ref pt, .int (nI z), .ref pu, .int md])), (pt, .inl (cB, 128, .inl f)), (qd, .inr (0, [.ref qt, .int (nI z), .ref qu, .int md])), (qt, .inl (cE, 128, .inl f))] s.heap := hP
  have hl := lv_entry ([.ref pq, .int x, .int v]) (n := 3) (Nat.le_of_ble_eq_true rfl)
  rw [lg_entry_eq]
  generalize (lg_sl ([.ref pq, .int x, .int v]) ++ List.replicate (3 - (lg_sl ([.ref pq, .int x, .int v])).length) Slot.unset).toArray = ls at hl ⊢
  have hl : lv_has ls 3 [(0, .ref pq), (1, .int x), (2, .int v)] := hl
  refine lv_aload_n hx hb dX0_set_0 rfl (lv_at hl 0 rfl) ?_
  refine va_get (D := D) (ci := 1) (v := .int (nI z)) (C := RX0) (T := TX0) (N := 5) hx hb hts in_X0 hown hK hP 0 rfl rfl 2 (by decide) (hts _ q50) (fun _ h9 => h9) rfl dX0_set_1 ?_
  refine ud_ifle (tgt := 22) hx hb dX0_set_4 (by decide) (by omega) (fun c4 => ?_) (fun c4 => ?_)
  · refine lv_aload_n hx hb dX0_set_22 rfl (lv_at hl 0 rfl) ?_
    refine va_get (D := D) (ci := 1) (v := .ref qd) (C := RX0) (T := TX0) (N := 5) hx hb hts in_X0 hown hK hP 0 rfl rfl 0 (by decide) (hts _ q48) (fun _ h9 => h9) rfl dX0_set_23 ?_
    refine lv_iload_n hx hb dX0_set_26 rfl (lv_at hl 1 rfl) ?_
    refine lv_iload_n hx hb dX0_set_27 rfl (lv_at hl 2 rfl) ?_
    have hPc := hP.sub (ws' := [(qd, .inr (0, [.ref qt, .int (nI z), .ref qu, .int md])), (qt, .inl (cE, 128, .inl f))]) [2, 3] rfl
    have hDc := hD.sub (ws' := [(qd, .inr (0, [.ref qt, .int (nI z), .ref qu, .int md])), (qt, .inl (cE, 128, .inl f))]) [2, 3] (by decide) rfl
    have hKc := hK.sub (tys' := [(cE, .byte)]) [1] rfl
    have hFc := va_free (wc := [(qd, .inr (0, [.ref qt, .int (nI z), .ref qu, .int md])), (qt, .inl (cE, 128, .inl f))]) hD hS hA [2, 3] rfl
    refine va_calli (va_runV (As := [.int x, .int v]) (rest := []) ⟨hx, hb, hml, hown, hts⟩ (ud_X1_set l D s.heap.size qd qt qu z cE md f hz x v) (cwV 2 hts (lw_V q160 q161 q162 q12 q163) rfl rfl rfl (by decide +kernel) ⟨Nat.le_of_ble_eq_true rfl, Nat.le_of_ble_eq_true rfl⟩) ⟨ud_fb, va_recv hKc hPc (ci := 0) (q0 := 0) rfl rfl, fun U hU hW => ⟨rfl, ud_go hPc hKc hDc U hU hW⟩⟩ rfl rfl hl.1 rfl (lv_room (Nat.le_of_ble_eq_true rfl)) dX0_set_28 ⟨Nat.le_of_ble_eq_true rfl, Nat.le_of_ble_eq_true rfl⟩) hS (fun q _ h => hFc q h) hFc (fun r w t H1 locs ht hvm hw hB hz1 hk1 hS => ?_)
    obtain ⟨hr1, hw1⟩ := hw.1 c4
    subst hr1
    rw [hw1] at hB
    obtain ⟨hP1, hK1, hD1⟩ := hB
    rw [ht] at hP1
    obtain ⟨hP, hD⟩ := va_join (wr := [(pq, .inr (1, [.ref qd, .ref pt, .int (nI z), .ref pu, .int md])), (pt, .inl (cB, 128, .inl f))]) (w1 := [(qd, .inr (0, [.ref qt, .int (nI z), .ref qu, .int md])), (qt, .inl (cE, 128, .inl f))]) hP hD [2, 3] [0, 1] rfl rfl (by decide) (by decide) hk1 hFc hP1 hD1
    generalize H1 = H at hP hS ⊢
    have hP : va_P D ud_Cl [(pq, .inr (1, [.ref qd, .ref pt, .int (nI z), .ref pu, .int md])), (pt, .inl (cB, 128, .inl f)), (qd, .inr (0, [.ref qt, .int (nI z), .ref qu, .int md])), (qt, .inl (cE, 128, .inl f))] H := hP
    have hD : va_D A [(pq, .inr (1, [.ref qd, .ref pt, .int (nI z), .ref pu, .int md])), (pt, .inl (cB, 128, .inl f)), (qd, .inr (0, [.ref qt, .int (nI z), .ref qu, .int md])), (qt, .inl (cE, 128, .inl f))] := hD
    refine lv_aload_n hx hb dX0_set_31 rfl (lv_at hl 0 rfl) ?_
    refine va_get (D := D) (ci := 1) (v := .int (nI z)) (C := RX0) (T := TX0) (N := 5) hx hb hts in_X0 hown hK hP 0 rfl rfl 2 (by decide) (hts _ q50) (fun _ h9 => h9) rfl dX0_set_32 ?_
    refine ud_ifle (tgt := 42) hx hb dX0_set_35 (by decide) (by omega) (fun c35 => ?_) (fun c35 => ?_)
    · refine lv_iconst (v := 0) hx hb dX0_set_42 (by decide) ?_
      refine lv_icmp_ne (tgt := 50) hx hb dX0_set_43 (by decide) (fun c43 => ?_) (fun c43 => ?_)
      · exact absurd rfl c43
      · refine lv_iconst (v := 1) hx hb dX0_set_46 (by decide) ?_
        refine lv_goto (tgt := 51) hx hb dX0_set_47 (by decide) ?_
        have hP9 := hP.sub (ws' := [(pq, .inr (1, [.ref qd, .ref pt, .int (nI z), .ref pu, .int md])), (pt, .inl (cB, 128, .inl f)), (qd, .inr (0, [.ref qt, .int (nI z), .ref qu, .int md])), (qt, .inl (cE, 128, .inl f))]) [0, 1, 2, 3] rfl
        have hD9 := hD.sub (ws' := [(pq, .inr (1, [.ref qd, .ref pt, .int (nI z), .ref pu, .int md])), (pt, .inl (cB, 128, .inl f)), (qd, .inr (0, [.ref qt, .int (nI z), .ref qu, .int md])), (qt, .inl (cE, 128, .inl f))]) [0, 1, 2, 3] (by decide) rfl
        have hK9 := hK.sub (tys' := [(cB, .byte), (cE, .byte)]) [0, 1] rfl
        exact W.zret (v := 1) hx hb hr rfl (fun t ht hW => ⟨⟨1, f, rfl, ⟨rfl, hf⟩, ud_end ht hW hP9 hK9 hD9⟩, hS.F ht⟩) hS.2.2 dX0_set_51
    · exact absurd c35 (by omega)
  · refine lv_aload_n hx hb dX0_set_7 rfl (lv_at hl 0 rfl) ?_
    refine va_get (D := D) (ci := 1) (v := .ref pt) (C := RX0) (T := TX0) (N := 5) hx hb hts in_X0 hown hK hP 0 rfl rfl 1 (by decide) (hts _ q49) (fun _ h9 => h9) rfl dX0_set_8 ?_
    refine lv_iload_n hx hb dX0_set_11 rfl (lv_at hl 1 rfl) ?_
    refine lv_aload_n hx hb dX0_set_12 rfl (lv_at hl 0 rfl) ?_
    refine va_get (D := D) (ci := 1) (v := .int (nI z)) (C := RX0) (T := TX0) (N := 5) hx hb hts in_X0 hown hK hP 0 rfl rfl 2 (by decide) (hts _ q50) (fun _ h9 => h9) rfl dX0_set_13 ?_
    have hPc := hP.sub (ws' := []) [] rfl
    have hDc := hD.sub (ws' := []) [] (by decide) rfl
    have hKc := hK.sub (tys' := []) [] rfl
    have hFc := va_free (wc := []) hD hS hA [] rfl
    refine va_calli (va_runS (As := [.int x, .int (nI z)]) (rest := [.ref pt]) ⟨hx, hb, hml, hown, hts⟩ (ud_X0_from l D s.heap.size x z c4 (by omega)) (va_cwS 2 hts (lw_S q72 q73 q11 q74) rfl rfl rfl (by decide +kernel) ⟨Nat.le_of_ble_eq_true rfl, Nat.le_of_ble_eq_true rfl⟩) ⟨ud_fb, fun U hU hW => ⟨rfl, ud_go hPc hKc hDc U hU hW⟩⟩ rfl rfl hl.1 rfl (lv_room (Nat.le_of_ble_eq_true rfl)) dX0_set_16 ⟨Nat.le_of_ble_eq_true rfl, Nat.le_of_ble_eq_true rfl⟩) hS (fun q _ h => hFc q h) hFc (fun r u t H1 locs ht hvm hw hB hz1 hk1 hS => ?_)
    obtain ⟨hP1, hK1, hD1⟩ := hB
    rw [ht] at hP1
    obtain ⟨hP, hD⟩ := va_join (wr := [(pq, .inr (1, [.ref qd, .ref pt, .int (nI z), .ref pu, .int md])), (pt, .inl (cB, 128, .inl f)), (qd, .inr (0, [.ref qt, .int (nI z), .ref qu, .int md])), (qt, .inl (cE, 128, .inl f))]) (w1 := []) hP hD [] [0, 1, 2, 3] rfl rfl (by decide) (by decide) hk1 hFc hP1 hD1
    generalize H1 = H at hP hS ⊢
    have hP : va_P D ud_Cl [(pq, .inr (1, [.ref qd, .ref pt, .int (nI z), .ref pu, .int md])), (pt, .inl (cB, 128, .inl f)), (qd, .inr (0, [.ref qt, .int (nI z), .ref qu, .int md])), (qt, .inl (cE, 128, .inl f))] H := hP
    have hD : va_D A [(pq, .inr (1, [.ref qd, .ref pt, .int (nI z), .ref pu, .int md])), (pt, .inl (cB, 128, .inl f)), (qd, .inr (0, [.ref qt, .int (nI z), .ref qu, .int md])), (qt, .inl (cE, 128, .inl f))] := hD
    subst hw
    refine lv_iload_n hx hb dX0_set_19 rfl (lv_at hl 2 rfl) ?_
    refine lv_i2b (v := v.toInt8.toInt32) hx hb dX0_set_20 rfl ?_
    refine ud_bast hx hb hK hP hD hS 1 0 rfl rfl (upd f (ud_fM x z) v.toInt8.toInt32) (by have := ud_fM_lt x c4; omega) (by decide) (ud_bb v) rfl dX0_set_21 (fun H locs hP hD hS => ?_)
    have hP : va_P D ud_Cl [(pq, .inr (1, [.ref qd, .ref pt, .int (nI z), .ref pu, .int md])), (pt, .inl (cB, 128, .inl (upd f (ud_fM x z) v.toInt8.toInt32))), (qd, .inr (0, [.ref qt, .int (nI z), .ref qu, .int md])), (qt, .inl (cE, 128, .inl f))] H := hP
    have hD : va_D A [(pq, .inr (1, [.ref qd, .ref pt, .int (nI z), .ref pu, .int md])), (pt, .inl (cB, 128, .inl (upd f (ud_fM x z) v.toInt8.toInt32))), (qd, .inr (0, [.ref qt, .int (nI z), .ref qu, .int md])), (qt, .inl (cE, 128, .inl f))] := hD
    refine lv_aload_n hx hb dX0_set_22 rfl (lv_at hl 0 rfl) ?_
    refine va_get (D := D) (ci := 1) (v := .ref qd) (C := RX0) (T := TX0) (N := 5) hx hb hts in_X0 hown hK hP 0 rfl rfl 0 (by decide) (hts _ q48) (fun _ h9 => h9) rfl dX0_set_23 ?_
    refine lv_iload_n hx hb dX0_set_26 rfl (lv_at hl 1 rfl) ?_
    refine lv_iload_n hx hb dX0_set_27 rfl (lv_at hl 2 rfl) ?_
    have hPc := hP.sub (ws' := [(qd, .inr (0, [.ref qt, .int (nI z), .ref qu, .int md])), (qt, .inl (cE, 128, .inl f))]) [2, 3] rfl
    have hDc := hD.sub (ws' := [(qd, .inr (0, [.ref qt, .int (nI z), .ref qu, .int md])), (qt, .inl (cE, 128, .inl f))]) [2, 3] (by decide) rfl
    have hKc := hK.sub (tys' := [(cE, .byte)]) [1] rfl
    have hFc := va_free (wc := [(qd, .inr (0, [.ref qt, .int (nI z), .ref qu, .int md])), (qt, .inl (cE, 128, .inl f))]) hD hS hA [2, 3] rfl
    refine va_calli (va_runV (As := [.int x, .int v]) (rest := []) ⟨hx, hb, hml, hown, hts⟩ (ud_X1_set l D H.size qd qt qu z cE md f hz x v) (cwV 2 hts (lw_V q160 q161 q162 q12 q163) rfl rfl rfl (by decide +kernel) ⟨Nat.le_of_ble_eq_true rfl, Nat.le_of_ble_eq_true rfl⟩) ⟨ud_fb, va_recv hKc hPc (ci := 0) (q0 := 0) rfl rfl, fun U hU hW => ⟨rfl, ud_go hPc hKc hDc U hU hW⟩⟩ rfl rfl hl.1 rfl (lv_room (Nat.le_of_ble_eq_true rfl)) dX0_set_28 ⟨Nat.le_of_ble_eq_true rfl, Nat.le_of_ble_eq_true rfl⟩) hS (fun q _ h => hFc q h) hFc (fun r w t H1 locs ht hvm hw hB hz1 hk1 hS => ?_)
    obtain ⟨hr1, hw1⟩ := hw.2 c4
    subst hr1
    rw [hw1] at hB
    obtain ⟨hP1, hK1, hD1⟩ := hB
    rw [ht] at hP1
    obtain ⟨hP, hD⟩ := va_join (wr := [(pq, .inr (1, [.ref qd, .ref pt, .int (nI z), .ref pu, .int md])), (pt, .inl (cB, 128, .inl (upd f (ud_fM x z) v.toInt8.toInt32)))]) (w1 := [(qd, .inr (0, [.ref qt, .int (nI z), .ref qu, .int md])), (qt, .inl (cE, 128, .inl (upd f (ud_fM x z) v.toInt8.toInt32)))]) hP hD [2, 3] [0, 1] rfl rfl (by decide) (by decide) hk1 hFc hP1 hD1
    generalize H1 = H at hP hS ⊢
    have hP : va_P D ud_Cl [(pq, .inr (1, [.ref qd, .ref pt, .int (nI z), .ref pu, .int md])), (pt, .inl (cB, 128, .inl (upd f (ud_fM x z) v.toInt8.toInt32))), (qd, .inr (0, [.ref qt, .int (nI z), .ref qu, .int md])), (qt, .inl (cE, 128, .inl (upd f (ud_fM x z) v.toInt8.toInt32)))] H := hP
    have hD : va_D A [(pq, .inr (1, [.ref qd, .ref pt, .int (nI z), .ref pu, .int md])), (pt, .inl (cB, 128, .inl (upd f (ud_fM x z) v.toInt8.toInt32))), (qd, .inr (0, [.ref qt, .int (nI z), .ref qu, .int md])), (qt, .inl (cE, 128, .inl (upd f (ud_fM x z) v.toInt8.toInt32)))] := hD
    refine lv_aload_n hx hb dX0_set_31 rfl (lv_at hl 0 rfl) ?_
    refine va_get (D := D) (ci := 1) (v := .int (nI z)) (C := RX0) (T := TX0) (N := 5) hx hb hts in_X0 hown hK hP 0 rfl rfl 2 (by decide) (hts _ q50) (fun _ h9 => h9) rfl dX0_set_32 ?_
    refine ud_ifle (tgt := 42) hx hb dX0_set_35 (by decide) (by omega) (fun c35 => ?_) (fun c35 => ?_)
    · exact absurd c35 (by omega)
    · refine lv_iconst (v := 1) hx hb dX0_set_38 (by decide) ?_
      refine lv_goto (tgt := 43) hx hb dX0_set_39 (by decide) ?_
      refine lv_icmp_ne (tgt := 50) hx hb dX0_set_43 (by decide) (fun c43 => ?_) (fun c43 => ?_)
      · exact absurd rfl c43
      · refine lv_iconst (v := 1) hx hb dX0_set_46 (by decide) ?_
        refine lv_goto (tgt := 51) hx hb dX0_set_47 (by decide) ?_
        have hP9 := hP.sub (ws' := [(pq, .inr (1, [.ref qd, .ref pt, .int (nI z), .ref pu, .int md])), (pt, .inl (cB, 128, .inl (upd f (ud_fM x z) v.toInt8.toInt32))), (qd, .inr (0, [.ref qt, .int (nI z), .ref qu, .int md])), (qt, .inl (cE, 128, .inl (upd f (ud_fM x z) v.toInt8.toInt32)))]) [0, 1, 2, 3] rfl
        have hD9 := hD.sub (ws' := [(pq, .inr (1, [.ref qd, .ref pt, .int (nI z), .ref pu, .int md])), (pt, .inl (cB, 128, .inl (upd f (ud_fM x z) v.toInt8.toInt32))), (qd, .inr (0, [.ref qt, .int (nI z), .ref qu, .int md])), (qt, .inl (cE, 128, .inl (upd f (ud_fM x z) v.toInt8.toInt32)))]) [0, 1, 2, 3] (by decide) rfl
        have hK9 := hK.sub (tys' := [(cB, .byte), (cE, .byte)]) [0, 1] rfl
        exact W.zret (v := 1) hx hb hr rfl (fun t ht hW => ⟨⟨1, (upd f (ud_fM x z) v.toInt8.toInt32), rfl, ⟨rfl, ud_isB_upd hf _ _⟩, ud_end ht hW hP9 hK9 hD9⟩, hS.F ht⟩) hS.2.2 dX0_set_51
set_option maxHeartbeats 4000000 in
set_option maxRecDepth 100000 in
theorem ud_X0_put (l : Launch) (D : va_G) (sz : Nat) (pq pt pu qd qt qu z : Nat) (cB cE : ClassId) (md : Int32) (f : Nat → Int32) (hz : z ≤ 128) (hf : ud_isB f) (wa wb wc wd : Int32) : Met l yX0_put (ws_ yX0_put cX0_put 7 (some .boolean)) ({ frames := 2, cells := 1, slots := 4, locals := 46 }) (va_Pc [.ref pq, .int wa, .int wb, .int wc, .int wd] (ud_W D [(pq, .inr (1, [.ref qd, .ref pt, .int (nI z), .ref pu, .int md])), (pt, .inl (cB, 128, .inl f)), (qd, .inr (0, [.ref qt, .int (nI z), .ref qu, .int md])), (qt, .inl (cE, 128, .inl f))] [(cB, .byte), (cE, .byte)] sz)) (va_Qi (fun (r : Int32) (u : Nat × (Nat → Int32)) => r = 1 ∧ u.1 ≤ 128 ∧ ud_isB u.2) (fun u t => ud_E D (va_A [(pq, .inr (1, [.ref qd, .ref pt, .int (nI z), .ref pu, .int md])), (pt, .inl (cB, 128, .inl f)), (qd, .inr (0, [.ref qt, .int (nI z), .ref qu, .int md])), (qt, .inl (cE, 128, .inl f))] sz) [(pq, .inr (1, [.ref qd, .ref pt, .int (nI u.1), .ref pu, .int md])), (pt, .inl (cB, 128, .inl u.2)), (qd, .inr (0, [.ref qt, .int (nI u.1), .ref qu, .int md])), (qt, .inl (cE, 128, .inl u.2))] [(cB, .byte), (cE, .byte)] t) (va_A [(pq, .inr (1, [.ref qd, .ref pt, .int (nI z), .ref pu, .int md])), (pt, .inl (cB, 128, .inl f)), (qd, .inr (0, [.ref qt, .int (nI z), .ref qu, .int md])), (qt, .inl (cE, 128, .inl f))] sz)) 1 4 (va_A [(pq, .inr (1, [.ref qd, .ref pt, .int (nI z), .ref pu, .int md])), (pt, .inl (cB, 128, .inl f)), (qd, .inr (0, [.ref qt, .int (nI z), .ref qu, .int md])), (qt, .inl (cE, 128, .inl f))] sz) := by
  refine Met.ofW (cc := cX0_put) (maxL := 7) (ret := (some .boolean)) (by decide) rfl ?_
  intro p e s m args below meth c s₁ B hml hv
  obtain ⟨rfl, hsz, hP, hK, hD0⟩ := hv
  have hx := B.exec
  have hb := B.bytes
  have hr := B.returns
  have hts := atoms_spec (ws := ws_ yX0_put cX0_put 7 (some .boolean)) B.pre
  have hts : ∀ w ∈ lw_all, w.before _ s = true := fun w h => hts w (List.mem_cons_of_mem _ h)
  have hown : s.vm.findClass RX0 = some m.cls := findClass_of_methodNamed B.named
  have hlocks := B.notSynchronized
  subst hsz
  have hD := hD0.self (sz := s.heap.size)
  generalize hAe : va_A [(pq, .inr (1, [.ref qd, .ref pt, .int (nI z), .ref pu, .int md])), (pt, .inl (cB, 128, .inl f)), (qd, .inr (0, [.ref qt, .int (nI z), .ref qu, .int md])), (qt, .inl (cE, 128, .inl f))] s.heap.size = A at hD ⊢
  have hA : ∀ q : Nat, s.heap.size ≤ q → A q := fun q h => by rw [← hAe]; exact Or.inr h
  have hS : va_S A s.heap s.heap [] := va_S.rf
  have hP : va_P D ud_Cl [(pq, .inr (1, [.ref qd, .ref pt, .int (nI z), .ref pu, .int md])), (pt, .inl (cB, 128, .inl f)), (qd, .inr (0, [.ref qt, .int (nI z), .ref qu, .int md])), (qt, .inl (cE, 128, .inl f))] s.heap := hP
  have hl := lv_entry ([.ref pq, .int wa, .int wb, .int wc, .int wd]) (n := 7) (Nat.le_of_ble_eq_true rfl)
  rw [lg_entry_eq]
  generalize (lg_sl ([.ref pq, .int wa, .int wb, .int wc, .int wd]) ++ List.replicate (7 - (lg_sl ([.ref pq, .int wa, .int wb, .int wc, .int wd])).length) Slot.unset).toArray = ls at hl ⊢
  have hl : lv_has ls 7 [(0, .ref pq), (1, .int wa), (2, .int wb), (3, .int wc), (4, .int wd)] := hl
  refine lv_aload_n hx hb dX0_put_0 rfl (lv_at hl 0 rfl) ?_
  refine va_get (D := D) (ci := 1) (v := .int (nI z)) (C := RX0) (T := TX0) (N := 5) hx hb hts in_X0 hown hK hP 0 rfl rfl 2 (by decide) (hts _ q50) (fun _ h9 => h9) rfl dX0_put_1 ?_
  refine lv_bipush (v := nI 112) hx hb dX0_put_4 (by decide) ?_
  refine ud_le (tgt := 30) hx hb dX0_put_6 (by decide) (by omega) (by decide) (fun c6 => ?_) (fun c6 => ?_)
  · refine lv_iconst (v := 4) hx hb dX0_put_30 (by decide) ?_
    refine va_newa (atype := .int) (ty := .int) (a0 := (4, .inl (fun _ => 0))) hx hb (hts _ q64) rfl hK hP hD hS hA (fun _ => rfl) (by decide) (by decide) (Nat.le_of_ble_eq_true rfl) (Nat.le_of_ble_eq_true rfl) (Nat.le_of_ble_eq_true rfl) dX0_put_31 (fun qw cW H hK hP hD hS => ?_)
    have hP : va_P D ud_Cl [(pq, .inr (1, [.ref qd, .ref pt, .int (nI z), .ref pu, .int md])), (pt, .inl (cB, 128, .inl f)), (qd, .inr (0, [.ref qt, .int (nI z), .ref qu, .int md])), (qt, .inl (cE, 128, .inl f)), (qw, .inl (cW, 4, .inl (fun _ => 0)))] H := hP
    have hD : va_D A [(pq, .inr (1, [.ref qd, .ref pt, .int (nI z), .ref pu, .int md])), (pt, .inl (cB, 128, .inl f)), (qd, .inr (0, [.ref qt, .int (nI z), .ref qu, .int md])), (qt, .inl (cE, 128, .inl f)), (qw, .inl (cW, 4, .inl (fun _ => 0)))] := hD
    have hK : va_K D ud_Cl [(cB, .byte), (cE, .byte), (cW, .int)] s := hK
    refine W.widen (k := 1) (n := 4) (by omega) (by omega) ?_
    refine lv_dup hx hb dX0_put_33 rfl ?_
    refine lv_iconst (v := nI 0) hx hb dX0_put_34 (by decide) ?_
    refine lv_iload_n hx hb dX0_put_35 rfl (lv_at hl 1 rfl) ?_
    refine ud_iast hx hb hK hP hD hS 4 2 rfl rfl (upd (fun _ => 0) 0 wa) (by decide) (by decide) rfl dX0_put_36 (fun H locs hP hD hS => ?_)
    have hP : va_P D ud_Cl [(pq, .inr (1, [.ref qd, .ref pt, .int (nI z), .ref pu, .int md])), (pt, .inl (cB, 128, .inl f)), (qd, .inr (0, [.ref qt, .int (nI z), .ref qu, .int md])), (qt, .inl (cE, 128, .inl f)), (qw, .inl (cW, 4, .inl (upd (fun _ => 0) 0 wa)))] H := hP
    have hD : va_D A [(pq, .inr (1, [.ref qd, .ref pt, .int (nI z), .ref pu, .int md])), (pt, .inl (cB, 128, .inl f)), (qd, .inr (0, [.ref qt, .int (nI z), .ref qu, .int md])), (qt, .inl (cE, 128, .inl f)), (qw, .inl (cW, 4, .inl (upd (fun _ => 0) 0 wa)))] := hD
    refine lv_dup hx hb dX0_put_37 rfl ?_
    refine lv_iconst (v := nI 1) hx hb dX0_put_38 (by decide) ?_
    refine lv_iload_n hx hb dX0_put_39 rfl (lv_at hl 2 rfl) ?_
    refine ud_iast hx hb hK hP hD hS 4 2 rfl rfl (upd (upd (fun _ => 0) 0 wa) 1 wb) (by decide) (by decide) rfl dX0_put_40 (fun H locs hP hD hS => ?_)
    have hP : va_P D ud_Cl [(pq, .inr (1, [.ref qd, .ref pt, .int (nI z), .ref pu, .int md])), (pt, .inl (cB, 128, .inl f)), (qd, .inr (0, [.ref qt, .int (nI z), .ref qu, .int md])), (qt, .inl (cE, 128, .inl f)), (qw, .inl (cW, 4, .inl (upd (upd (fun _ => 0) 0 wa) 1 wb)))] H := hP
    have hD : va_D A [(pq, .inr (1, [.ref qd, .ref pt, .int (nI z), .ref pu, .int md])), (pt, .inl (cB, 128, .inl f)), (qd, .inr (0, [.ref qt, .int (nI z), .ref qu, .int md])), (qt, .inl (cE, 128, .inl f)), (qw, .inl (cW, 4, .inl (upd (upd (fun _ => 0) 0 wa) 1 wb)))] := hD
    refine lv_dup hx hb dX0_put_41 rfl ?_
    refine lv_iconst (v := nI 2) hx hb dX0_put_42 (by decide) ?_
    refine lv_iload_n hx hb dX0_put_43 rfl (lv_at hl 3 rfl) ?_
    refine ud_iast hx hb hK hP hD hS 4 2 rfl rfl (upd (upd (upd (fun _ => 0) 0 wa) 1 wb) 2 wc) (by decide) (by decide) rfl dX0_put_44 (fun H locs hP hD hS => ?_)
    have hP : va_P D ud_Cl [(pq, .inr (1, [.ref qd, .ref pt, .int (nI z), .ref pu, .int md])), (pt, .inl (cB, 128, .inl f)), (qd, .inr (0, [.ref qt, .int (nI z), .ref qu, .int md])), (qt, .inl (cE, 128, .inl f)), (qw, .inl (cW, 4, .inl (upd (upd (upd (fun _ => 0) 0 wa) 1 wb) 2 wc)))] H := hP
    have hD : va_D A [(pq, .inr (1, [.ref qd, .ref pt, .int (nI z), .ref pu, .int md])), (pt, .inl (cB, 128, .inl f)), (qd, .inr (0, [.ref qt, .int (nI z), .ref qu, .int md])), (qt, .inl (cE, 128, .inl f)), (qw, .inl (cW, 4, .inl (upd (upd (upd (fun _ => 0) 0 wa) 1 wb) 2 wc)))] := hD
    refine lv_dup hx hb dX0_put_45 rfl ?_
    refine lv_iconst (v := nI 3) hx hb dX0_put_46 (by decide) ?_
    refine lv_iload hx hb dX0_put_47 (lv_at hl 4 rfl) ?_
    refine ud_iast hx hb hK hP hD hS 4 2 rfl rfl (ud_W4 wa wb wc wd) (by decide) (by decide) rfl dX0_put_49 (fun H locs hP hD hS => ?_)
    have hP : va_P D ud_Cl [(pq, .inr (1, [.ref qd, .ref pt, .int (nI z), .ref pu, .int md])), (pt, .inl (cB, 128, .inl f)), (qd, .inr (0, [.ref qt, .int (nI z), .ref qu, .int md])), (qt, .inl (cE, 128, .inl f)), (qw, .inl (cW, 4, .inl (ud_W4 wa wb wc wd)))] H := hP
    have hD : va_D A [(pq, .inr (1, [.ref qd, .ref pt, .int (nI z), .ref pu, .int md])), (pt, .inl (cB, 128, .inl f)), (qd, .inr (0, [.ref qt, .int (nI z), .ref qu, .int md])), (qt, .inl (cE, 128, .inl f)), (qw, .inl (cW, 4, .inl (ud_W4 wa wb wc wd)))] := hD
    refine lv_astore (lv' := [(5, .ref qw), (0, .ref pq), (1, .int wa), (2, .int wb), (3, .int wc), (4, .int wd)]) hx hb dX0_put_50 hl (by decide) rfl (fun ls hl => ?_)
    refine lv_iconst (v := nI 0) hx hb dX0_put_52 (by decide) ?_
    refine lv_istore (lv' := [(6, .int (nI 0)), (5, .ref qw), (0, .ref pq), (1, .int wa), (2, .int wb), (3, .int wc), (4, .int wd)]) hx hb dX0_put_53 hl (by decide) rfl (fun ls hl => ?_)
    refine ud_ind (pc2 := 55) (stk := []) (J := fun (nn : Nat) (ls : Array Slot) (H : Heap) (locs : List Loc) => ∃ (i : Nat) (w : Nat → Int32), (17 ≤ i + nn) ∧ (i ≤ 16) ∧ (w = ud_pP f z (ud_W4 wa wb wc wd) i) ∧ va_P D ud_Cl [(pq, .inr (1, [.ref qd, .ref pt, .int (nI z), .ref pu, .int md])), (pt, .inl (cB, 128, .inl w)), (qd, .inr (0, [.ref qt, .int (nI z), .ref qu, .int md])), (qt, .inl (cE, 128, .inl f)), (qw, .inl (cW, 4, .inl (ud_W4 wa wb wc wd)))] H ∧ va_D A [(pq, .inr (1, [.ref qd, .ref pt, .int (nI z), .ref pu, .int md])), (pt, .inl (cB, 128, .inl w)), (qd, .inr (0, [.ref qt, .int (nI z), .ref qu, .int md])), (qt, .inl (cE, 128, .inl f)), (qw, .inl (cW, 4, .inl (ud_W4 wa wb wc wd)))] ∧ va_S A s.heap H locs ∧ lv_has ls 7 [(0, .ref pq), (1, .int wa), (2, .int wb), (3, .int wc), (4, .int wd), (5, .ref qw), (6, .int (nI i))]) (fun ls H locs h => by obtain ⟨i, w, c55_m, c55_i, c55_w, -⟩ := h; omega) (17) ⟨0, f, by omega, by omega, (ud_pP_0 _ _ _).symm, hP, hD, hS, lv_sub hl [2, 3, 4, 5, 6, 1, 0] rfl⟩ ?_
    intro nn ih55 ls H locs hJ
    obtain ⟨i, w, c55_m, c55_i, c55_w, hP, hD, hS, hl⟩ := hJ
    subst c55_w
    refine lv_iload hx hb dX0_put_55 (lv_at hl 6 rfl) ?_
    refine lv_bipush (v := nI 16) hx hb dX0_put_57 (by decide) ?_
    refine ud_ge (tgt := 99) hx hb dX0_put_59 (by decide) (by omega) (by decide) (fun c59 => ?_) (fun c59 => ?_)
    · have hi16 : i = 16 := by omega
      subst hi16
      refine lv_aload_n hx hb dX0_put_99 rfl (lv_at hl 0 rfl) ?_
      refine lv_dup hx hb dX0_put_100 rfl ?_
      refine va_get (D := D) (ci := 1) (v := .int (nI z)) (C := RX0) (T := TX0) (N := 5) hx hb hts in_X0 hown hK hP 0 rfl rfl 2 (by decide) (hts _ q50) (fun _ h9 => h9) rfl dX0_put_101 ?_
      refine lv_bipush (v := nI 16) hx hb dX0_put_104 (by decide) ?_
      refine lv_iadd hx hb dX0_put_106 ?_
      refine ud_top (v := nI (z + 16)) (nI_add _ _) ?_
      refine va_put (D := D) (ci := 1) (v := .int (nI (z + 16))) (ty := .int) (C := RX0) (T := TX0) (N := 5) hx hb hts in_X0 tyX0 tyX0_ok nmX0 hown hK hP hD hS 0 rfl rfl 2 (by decide) (hts _ q50) (fun _ h9 => h9) rfl (by decide +kernel) rfl rfl (Nat.le_of_ble_eq_true rfl) dX0_put_107 (fun H locs hP hD hS => ?_)
      have hP : va_P D ud_Cl [(pq, .inr (1, [.ref qd, .ref pt, .int (nI (z + 16)), .ref pu, .int md])), (pt, .inl (cB, 128, .inl (ud_pP f z (ud_W4 wa wb wc wd) 16))), (qd, .inr (0, [.ref qt, .int (nI z), .ref qu, .int md])), (qt, .inl (cE, 128, .inl f)), (qw, .inl (cW, 4, .inl (ud_W4 wa wb wc wd)))] H := hP
      have hD : va_D A [(pq, .inr (1, [.ref qd, .ref pt, .int (nI (z + 16)), .ref pu, .int md])), (pt, .inl (cB, 128, .inl (ud_pP f z (ud_W4 wa wb wc wd) 16))), (qd, .inr (0, [.ref qt, .int (nI z), .ref qu, .int md])), (qt, .inl (cE, 128, .inl f)), (qw, .inl (cW, 4, .inl (ud_W4 wa wb wc wd)))] := hD
      refine lv_aload_n hx hb dX0_put_110 rfl (lv_at hl 0 rfl) ?_
      refine va_get (D := D) (ci := 1) (v := .ref qd) (C := RX0) (T := TX0) (N := 5) hx hb hts in_X0 hown hK hP 0 rfl rfl 0 (by decide) (hts _ q48) (fun _ h9 => h9) rfl dX0_put_111 ?_
      refine lv_iload_n hx hb dX0_put_114 rfl (lv_at hl 1 rfl) ?_
      refine lv_iload_n hx hb dX0_put_115 rfl (lv_at hl 2 rfl) ?_
      refine lv_iload_n hx hb dX0_put_116 rfl (lv_at hl 3 rfl) ?_
      refine lv_iload hx hb dX0_put_117 (lv_at hl 4 rfl) ?_
      have hPc := hP.sub (ws' := [(qd, .inr (0, [.ref qt, .int (nI z), .ref qu, .int md])), (qt, .inl (cE, 128, .inl f))]) [2, 3] rfl
      have hDc := hD.sub (ws' := [(qd, .inr (0, [.ref qt, .int (nI z), .ref qu, .int md])), (qt, .inl (cE, 128, .inl f))]) [2, 3] (by decide) rfl
      have hKc := hK.sub (tys' := [(cE, .byte)]) [1] rfl
      have hFc := va_free (wc := [(qd, .inr (0, [.ref qt, .int (nI z), .ref qu, .int md])), (qt, .inl (cE, 128, .inl f))]) hD hS hA [2, 3] rfl
      refine va_calli (va_runV (As := [.int wa, .int wb, .int wc, .int wd]) (rest := []) ⟨hx, hb, hml, hown, hts⟩ (ud_X1_put l D H.size qd qt qu z cE md f hz wa wb wc wd) (cwV 4 hts (lw_V q137 q138 q139 q12 q140) rfl rfl rfl (by decide +kernel) ⟨Nat.le_of_ble_eq_true rfl, Nat.le_of_ble_eq_true rfl⟩) ⟨ud_fb, va_recv hKc hPc (ci := 0) (q0 := 0) rfl rfl, fun U hU hW => ⟨rfl, ud_go hPc hKc hDc U hU hW⟩⟩ rfl rfl hl.1 rfl (lv_room (Nat.le_of_ble_eq_true rfl)) dX0_put_119 ⟨Nat.le_of_ble_eq_true rfl, Nat.le_of_ble_eq_true rfl⟩) hS (fun q _ h => hFc q h) hFc (fun r w2 t H1 locs ht hvm hw hB hz1 hk1 hS => ?_)
      obtain ⟨hr1, hw1⟩ := hw.1 c6
      subst hr1
      rw [hw1] at hB
      obtain ⟨hP1, hK1, hD1⟩ := hB
      rw [ht] at hP1
      obtain ⟨hP, hD⟩ := va_join (wr := [(pq, .inr (1, [.ref qd, .ref pt, .int (nI (z + 16)), .ref pu, .int md])), (pt, .inl (cB, 128, .inl (ud_pP f z (ud_W4 wa wb wc wd) 16))), (qw, .inl (cW, 4, .inl (ud_W4 wa wb wc wd)))]) (w1 := [(qd, .inr (0, [.ref qt, .int (nI (z + 16)), .ref qu, .int md])), (qt, .inl (cE, 128, .inl (ud_pP f z (ud_W4 wa wb wc wd) 16)))]) hP hD [2, 3] [0, 1, 4] rfl rfl (by decide) (by decide) hk1 hFc hP1 hD1
      generalize H1 = H at hP hS ⊢
      have hP : va_P D ud_Cl [(pq, .inr (1, [.ref qd, .ref pt, .int (nI (z + 16)), .ref pu, .int md])), (pt, .inl (cB, 128, .inl (ud_pP f z (ud_W4 wa wb wc wd) 16))), (qw, .inl (cW, 4, .inl (ud_W4 wa wb wc wd))), (qd, .inr (0, [.ref qt, .int (nI (z + 16)), .ref qu, .int md])), (qt, .inl (cE, 128, .inl (ud_pP f z (ud_W4 wa wb wc wd) 16)))] H := hP
      have hD : va_D A [(pq, .inr (1, [.ref qd, .ref pt, .int (nI (z + 16)), .ref pu, .int md])), (pt, .inl (cB, 128, .inl (ud_pP f z (ud_W4 wa wb wc wd) 16))), (qw, .inl (cW, 4, .inl (ud_W4 wa wb wc wd))), (qd, .inr (0, [.ref qt, .int (nI (z + 16)), .ref qu, .int md])), (qt, .inl (cE, 128, .inl (ud_pP f z (ud_W4 wa wb wc wd) 16)))] := hD
      have hP := hP.sub (ws' := [(pq, .inr (1, [.ref qd, .ref pt, .int (nI (z + 16)), .ref pu, .int md])), (pt, .inl (cB, 128, .inl (ud_pP f z (ud_W4 wa wb wc wd) 16))), (qd, .inr (0, [.ref qt, .int (nI (z + 16)), .ref qu, .int md])), (qt, .inl (cE, 128, .inl (ud_pP f z (ud_W4 wa wb wc wd) 16))), (qw, .inl (cW, 4, .inl (ud_W4 wa wb wc wd)))]) [0, 1, 3, 4, 2] rfl
      have hD := hD.sub (ws' := [(pq, .inr (1, [.ref qd, .ref pt, .int (nI (z + 16)), .ref pu, .int md])), (pt, .inl (cB, 128, .inl (ud_pP f z (ud_W4 wa wb wc wd) 16))), (qd, .inr (0, [.ref qt, .int (nI (z + 16)), .ref qu, .int md])), (qt, .inl (cE, 128, .inl (ud_pP f z (ud_W4 wa wb wc wd) 16))), (qw, .inl (cW, 4, .inl (ud_W4 wa wb wc wd)))]) [0, 1, 3, 4, 2] (by decide) rfl
      have hP9 := hP.sub (ws' := [(pq, .inr (1, [.ref qd, .ref pt, .int (nI (z + 16)), .ref pu, .int md])), (pt, .inl (cB, 128, .inl (ud_pP f z (ud_W4 wa wb wc wd) 16))), (qd, .inr (0, [.ref qt, .int (nI (z + 16)), .ref qu, .int md])), (qt, .inl (cE, 128, .inl (ud_pP f z (ud_W4 wa wb wc wd) 16)))]) [0, 1, 2, 3] rfl
      have hD9 := hD.sub (ws' := [(pq, .inr (1, [.ref qd, .ref pt, .int (nI (z + 16)), .ref pu, .int md])), (pt, .inl (cB, 128, .inl (ud_pP f z (ud_W4 wa wb wc wd) 16))), (qd, .inr (0, [.ref qt, .int (nI (z + 16)), .ref qu, .int md])), (qt, .inl (cE, 128, .inl (ud_pP f z (ud_W4 wa wb wc wd) 16)))]) [0, 1, 2, 3] (by decide) rfl
      have hK9 := hK.sub (tys' := [(cB, .byte), (cE, .byte)]) [0, 1] rfl
      refine W.widen (k := 1) (n := 4) (by omega) (by omega) ?_
      exact W.zret (v := 1) hx hb hr rfl (fun t ht hW => ⟨⟨1, (z + 16, ud_pP f z (ud_W4 wa wb wc wd) 16), rfl, ⟨rfl, (show z + 16 ≤ 128 by omega), ud_pP_B hf _ _ _⟩, ud_end ht hW hP9 hK9 hD9⟩, hS.F ht⟩) hS.2.2 dX0_put_122
    · refine lv_aload_n hx hb dX0_put_62 rfl (lv_at hl 0 rfl) ?_
      refine va_get (D := D) (ci := 1) (v := .ref pt) (C := RX0) (T := TX0) (N := 5) hx hb hts in_X0 hown hK hP 0 rfl rfl 1 (by decide) (hts _ q49) (fun _ h9 => h9) rfl dX0_put_63 ?_
      refine lv_aload_n hx hb dX0_put_66 rfl (lv_at hl 0 rfl) ?_
      refine va_get (D := D) (ci := 1) (v := .int (nI z)) (C := RX0) (T := TX0) (N := 5) hx hb hts in_X0 hown hK hP 0 rfl rfl 2 (by decide) (hts _ q50) (fun _ h9 => h9) rfl dX0_put_67 ?_
      refine lv_iload hx hb dX0_put_70 (lv_at hl 6 rfl) ?_
      refine lv_iadd hx hb dX0_put_72 ?_
      refine ud_top (v := nI (z + i)) (nI_add _ _) ?_
      refine lv_aload hx hb dX0_put_73 (lv_at hl 5 rfl) ?_
      refine lv_iload hx hb dX0_put_75 (lv_at hl 6 rfl) ?_
      refine lv_iconst (v := 2) hx hb dX0_put_77 (by decide) ?_
      refine lv_ishr hx hb dX0_put_78 ?_
      refine ud_top (v := nI (i / 4)) (pk_shrN (by omega) (2 &&& 31) 2 (by decide)) ?_
      refine ud_iald hx hb hK hP 4 2 rfl rfl (by omega) (by decide) dX0_put_79 ?_
      refine lv_bipush (v := 24) hx hb dX0_put_80 (by decide) ?_
      refine lv_bipush (v := 8) hx hb dX0_put_82 (by decide) ?_
      refine lv_iload hx hb dX0_put_84 (lv_at hl 6 rfl) ?_
      refine lv_iconst (v := 3) hx hb dX0_put_86 (by decide) ?_
      refine lv_iand hx hb dX0_put_87 ?_
      refine ud_top (v := nI (i % 4)) (pk_andN (by omega) 2 (by decide)) ?_
      refine lv_imul hx hb dX0_put_88 ?_
      refine lv_isub hx hb dX0_put_89 ?_
      refine lv_ishr hx hb dX0_put_90 ?_
      refine lv_i2b (v := ud_pb (ud_W4 wa wb wc wd) i) hx hb dX0_put_91 rfl ?_
      refine ud_bast hx hb hK hP hD hS 1 0 rfl rfl (ud_pP f z (ud_W4 wa wb wc wd) (i + 1)) (by omega) (by decide) (ud_bb ((ud_W4 wa wb wc wd) (i / 4) >>> ((24 - 8 * nI (i % 4)) &&& 31))) (ud_pP_s _ _ _ _) dX0_put_92 (fun H locs hP hD hS => ?_)
      have hP : va_P D ud_Cl [(pq, .inr (1, [.ref qd, .ref pt, .int (nI z), .ref pu, .int md])), (pt, .inl (cB, 128, .inl (ud_pP f z (ud_W4 wa wb wc wd) (i + 1)))), (qd, .inr (0, [.ref qt, .int (nI z), .ref qu, .int md])), (qt, .inl (cE, 128, .inl f)), (qw, .inl (cW, 4, .inl (ud_W4 wa wb wc wd)))] H := hP
      have hD : va_D A [(pq, .inr (1, [.ref qd, .ref pt, .int (nI z), .ref pu, .int md])), (pt, .inl (cB, 128, .inl (ud_pP f z (ud_W4 wa wb wc wd) (i + 1)))), (qd, .inr (0, [.ref qt, .int (nI z), .ref qu, .int md])), (qt, .inl (cE, 128, .inl f)), (qw, .inl (cW, 4, .inl (ud_W4 wa wb wc wd)))] := hD
      refine lv_iinc (v := nI (i + 1)) (lv' := [(6, .int (nI (i + 1))), (0, .ref pq), (1, .int wa), (2, .int wb), (3, .int wc), (4, .int wd), (5, .ref qw)]) hx hb dX0_put_93 hl (k := 6) rfl (ud_inc i) (by decide) rfl (fun ls hl => ?_)
      refine lv_goto (tgt := 55) hx hb dX0_put_96 (by decide) ?_
      exact ih55 ls H locs ⟨i + 1, ud_pP f z (ud_W4 wa wb wc wd) (i + 1), by omega, by omega, rfl, hP, hD, hS, lv_sub hl [1, 2, 3, 4, 5, 6, 0] rfl⟩
  · refine lv_aload_n hx hb dX0_put_9 rfl (lv_at hl 0 rfl) ?_
    refine va_get (D := D) (ci := 1) (v := .ref qd) (C := RX0) (T := TX0) (N := 5) hx hb hts in_X0 hown hK hP 0 rfl rfl 0 (by decide) (hts _ q48) (fun _ h9 => h9) rfl dX0_put_10 ?_
    refine lv_iload_n hx hb dX0_put_13 rfl (lv_at hl 1 rfl) ?_
    refine lv_iload_n hx hb dX0_put_14 rfl (lv_at hl 2 rfl) ?_
    refine lv_iload_n hx hb dX0_put_15 rfl (lv_at hl 3 rfl) ?_
    refine lv_iload hx hb dX0_put_16 (lv_at hl 4 rfl) ?_
    have hPc := hP.sub (ws' := [(qd, .inr (0, [.ref qt, .int (nI z), .ref qu, .int md])), (qt, .inl (cE, 128, .inl f))]) [2, 3] rfl
    have hDc := hD.sub (ws' := [(qd, .inr (0, [.ref qt, .int (nI z), .ref qu, .int md])), (qt, .inl (cE, 128, .inl f))]) [2, 3] (by decide) rfl
    have hKc := hK.sub (tys' := [(cE, .byte)]) [1] rfl
    have hFc := va_free (wc := [(qd, .inr (0, [.ref qt, .int (nI z), .ref qu, .int md])), (qt, .inl (cE, 128, .inl f))]) hD hS hA [2, 3] rfl
    refine va_calli (va_runV (As := [.int wa, .int wb, .int wc, .int wd]) (rest := []) ⟨hx, hb, hml, hown, hts⟩ (ud_X1_put l D s.heap.size qd qt qu z cE md f hz wa wb wc wd) (cwV 4 hts (lw_V q137 q138 q139 q12 q140) rfl rfl rfl (by decide +kernel) ⟨Nat.le_of_ble_eq_true rfl, Nat.le_of_ble_eq_true rfl⟩) ⟨ud_fb, va_recv hKc hPc (ci := 0) (q0 := 0) rfl rfl, fun U hU hW => ⟨rfl, ud_go hPc hKc hDc U hU hW⟩⟩ rfl rfl hl.1 rfl (lv_room (Nat.le_of_ble_eq_true rfl)) dX0_put_18 ⟨Nat.le_of_ble_eq_true rfl, Nat.le_of_ble_eq_true rfl⟩) hS (fun q _ h => hFc q h) hFc (fun r w2 t H1 locs ht hvm hw hB hz1 hk1 hS => ?_)
    obtain ⟨hr1, hw1⟩ := hw.2 c6
    subst hr1
    rw [hw1] at hB
    obtain ⟨hP1, hK1, hD1⟩ := hB
    rw [ht] at hP1
    obtain ⟨hP, hD⟩ := va_join (wr := [(pq, .inr (1, [.ref qd, .ref pt, .int (nI z), .ref pu, .int md])), (pt, .inl (cB, 128, .inl f))]) (w1 := [(qd, .inr (0, [.ref qt, .int (nI z), .ref qu, .int md])), (qt, .inl (cE, 128, .inl f))]) hP hD [2, 3] [0, 1] rfl rfl (by decide) (by decide) hk1 hFc hP1 hD1
    generalize H1 = H at hP hS ⊢
    have hP : va_P D ud_Cl [(pq, .inr (1, [.ref qd, .ref pt, .int (nI z), .ref pu, .int md])), (pt, .inl (cB, 128, .inl f)), (qd, .inr (0, [.ref qt, .int (nI z), .ref qu, .int md])), (qt, .inl (cE, 128, .inl f))] H := hP
    have hD : va_D A [(pq, .inr (1, [.ref qd, .ref pt, .int (nI z), .ref pu, .int md])), (pt, .inl (cB, 128, .inl f)), (qd, .inr (0, [.ref qt, .int (nI z), .ref qu, .int md])), (qt, .inl (cE, 128, .inl f))] := hD
    refine lv_if_ne (tgt := 28) hx hb dX0_put_21 (by decide) (fun c21 => ?_) (fun c21 => ?_)
    · exact absurd rfl c21
    · refine lv_iconst (v := 1) hx hb dX0_put_24 (by decide) ?_
      refine lv_goto (tgt := 29) hx hb dX0_put_25 (by decide) ?_
      have hP9 := hP.sub (ws' := [(pq, .inr (1, [.ref qd, .ref pt, .int (nI z), .ref pu, .int md])), (pt, .inl (cB, 128, .inl f)), (qd, .inr (0, [.ref qt, .int (nI z), .ref qu, .int md])), (qt, .inl (cE, 128, .inl f))]) [0, 1, 2, 3] rfl
      have hD9 := hD.sub (ws' := [(pq, .inr (1, [.ref qd, .ref pt, .int (nI z), .ref pu, .int md])), (pt, .inl (cB, 128, .inl f)), (qd, .inr (0, [.ref qt, .int (nI z), .ref qu, .int md])), (qt, .inl (cE, 128, .inl f))]) [0, 1, 2, 3] (by decide) rfl
      have hK9 := hK.sub (tys' := [(cB, .byte), (cE, .byte)]) [0, 1] rfl
      refine W.widen (k := 1) (n := 4) (by omega) (by omega) ?_
      exact W.zret (v := 1) hx hb hr rfl (fun t ht hW => ⟨⟨1, (z, f), rfl, ⟨rfl, hz, hf⟩, ud_end ht hW hP9 hK9 hD9⟩, hS.F ht⟩) hS.2.2 dX0_put_29
end
section
/-! UtfDeskLaw: turns, letter (printed by gen/lawb.py) -/
set_option maxHeartbeats 4000000 in
set_option maxRecDepth 100000 in
theorem ud_X0_turns (l : Launch) (D : va_G) (sz : Nat) (t1 t2 : Nat) (pq pt pu qd qt qu z : Nat) (cB cI cE cC : ClassId) (md : Int32) (f lu du : Nat → Int32) (hz : z ≤ 128) (hf : ud_isB f) (x y ro xi : Int32) : Met l yX0_turns (ws_ yX0_turns cX0_turns 8 (some .boolean)) ({ frames := 3, cells := 2, slots := 288, locals := 77 }) (va_Pc [.ref pq, .int x, .int y, .int ro, .int xi] (ud_Wt D [(pq, .inr (1, [.ref qd, .ref pt, .int (nI z), .ref pu, .int md])), (pt, .inl (cB, 128, .inl f)), (pu, .inl (cI, 160, .inl lu)), (qd, .inr (0, [.ref qt, .int (nI z), .ref qu, .int md])), (qt, .inl (cE, 128, .inl f)), (qu, .inl (cC, 160, .inl du))] [(cB, .byte), (cI, .int), (cE, .byte), (cC, .char)] sz t1 t2)) (va_Qi (fun (r : Int32) (u : Int32 × (Nat → Int32) × (Nat → Int32)) => r = 1 ∧ ud_Mk u.1 u.2.1 u.2.2 ∧ ud_An (ud_dU (ud_g f) (ud_fM x (z + 1) + ud_fM y (z - ud_fM x (z + 1) + 1)) (ud_fM y (z - ud_fM x (z + 1) + 1)) (ud_fM x (z + 1))) (ud_fM ro 161) u.1 u.2.1) (fun u t => ud_E D (va_A [(pq, .inr (1, [.ref qd, .ref pt, .int (nI z), .ref pu, .int md])), (pt, .inl (cB, 128, .inl f)), (pu, .inl (cI, 160, .inl lu)), (qd, .inr (0, [.ref qt, .int (nI z), .ref qu, .int md])), (qt, .inl (cE, 128, .inl f)), (qu, .inl (cC, 160, .inl du))] sz) [(pq, .inr (1, [.ref qd, .ref pt, .int (nI z), .ref pu, .int u.1])), (pt, .inl (cB, 128, .inl f)), (pu, .inl (cI, 160, .inl u.2.1)), (qd, .inr (0, [.ref qt, .int (nI z), .ref qu, .int u.1])), (qt, .inl (cE, 128, .inl f)), (qu, .inl (cC, 160, .inl u.2.2))] [(cB, .byte), (cI, .int), (cE, .byte), (cC, .char)] t) (va_A [(pq, .inr (1, [.ref qd, .ref pt, .int (nI z), .ref pu, .int md])), (pt, .inl (cB, 128, .inl f)), (pu, .inl (cI, 160, .inl lu)), (qd, .inr (0, [.ref qt, .int (nI z), .ref qu, .int md])), (qt, .inl (cE, 128, .inl f)), (qu, .inl (cC, 160, .inl du))] sz)) 2 288 (va_A [(pq, .inr (1, [.ref qd, .ref pt, .int (nI z), .ref pu, .int md])), (pt, .inl (cB, 128, .inl f)), (pu, .inl (cI, 160, .inl lu)), (qd, .inr (0, [.ref qt, .int (nI z), .ref qu, .int md])), (qt, .inl (cE, 128, .inl f)), (qu, .inl (cC, 160, .inl du))] sz) := by
  refine Met.ofW (cc := cX0_turns) (maxL := 8) (ret := (some .boolean)) (by decide) rfl ?_
  intro p e s m args below meth c s₁ B hml hv
  obtain ⟨rfl, ⟨hsz, hP, hK, hD0⟩, hTb⟩ := hv
  have hx := B.exec
  have hb := B.bytes
  have hr := B.returns
  have hts := atoms_spec (ws := ws_ yX0_turns cX0_turns 8 (some .boolean)) B.pre
  have hts : ∀ w ∈ lw_all, w.before _ s = true := fun w h => hts w (List.mem_cons_of_mem _ h)
  have hown : s.vm.findClass RX0 = some m.cls := findClass_of_methodNamed B.named
  have hlocks := B.notSynchronized
  subst hsz
  have hD := hD0.self (sz := s.heap.size)
  generalize hAe : va_A [(pq, .inr (1, [.ref qd, .ref pt, .int (nI z), .ref pu, .int md])), (pt, .inl (cB, 128, .inl f)), (pu, .inl (cI, 160, .inl lu)), (qd, .inr (0, [.ref qt, .int (nI z), .ref qu, .int md])), (qt, .inl (cE, 128, .inl f)), (qu, .inl (cC, 160, .inl du))] s.heap.size = A at hD hTb ⊢
  have hA : ∀ q : Nat, s.heap.size ≤ q → A q := fun q h => by rw [← hAe]; exact Or.inr h
  have hS : va_S A s.heap s.heap [] := va_S.rf
  have hP : va_P D ud_Cl [(pq, .inr (1, [.ref qd, .ref pt, .int (nI z), .ref pu, .int md])), (pt, .inl (cB, 128, .inl f)), (pu, .inl (cI, 160, .inl lu)), (qd, .inr (0, [.ref qt, .int (nI z), .ref qu, .int md])), (qt, .inl (cE, 128, .inl f)), (qu, .inl (cC, 160, .inl du))] s.heap := hP
  have hl := lv_entry ([.ref pq, .int x, .int y, .int ro, .int xi]) (n := 8) (Nat.le_of_ble_eq_true rfl)
  rw [lg_entry_eq]
  generalize (lg_sl ([.ref pq, .int x, .int y, .int ro, .int xi]) ++ List.replicate (8 - (lg_sl ([.ref pq, .int x, .int y, .int ro, .int xi])).length) Slot.unset).toArray = ls at hl ⊢
  have hl : lv_has ls 8 [(0, .ref pq), (1, .int x), (2, .int y), (3, .int ro), (4, .int xi)] := hl
  have ha := ud_fM_lt x (m := z + 1) (by omega)
  have hc := ud_fM_lt y (m := z - ud_fM x (z + 1) + 1) (by omega)
  generalize hae : ud_fM x (z + 1) = a at ha hc ⊢
  generalize hce : ud_fM y (z - a + 1) = nc at hc ⊢
  have hrm := ud_fM_lt ro (m := 161) (by decide)
  generalize hke : ud_fM ro 161 = rm at hrm ⊢
  refine lv_iload_n hx hb dX0_turns_0 rfl (lv_at hl 1 rfl) ?_
  refine lv_aload_n hx hb dX0_turns_1 rfl (lv_at hl 0 rfl) ?_
  refine va_get (D := D) (ci := 1) (v := .int (nI z)) (C := RX0) (T := TX0) (N := 5) hx hb hts in_X0 hown hK hP 0 rfl rfl 2 (by decide) (hts _ q50) (fun _ h9 => h9) rfl dX0_turns_2 ?_
  refine lv_iconst (v := nI 1) hx hb dX0_turns_5 (by decide) ?_
  refine lv_iadd hx hb dX0_turns_6 ?_
  refine ud_top (v := nI (z + 1)) (nI_add _ _) ?_
  have hPc := hP.sub (ws' := []) [] rfl
  have hDc := hD.sub (ws' := []) [] (by decide) rfl
  have hKc := hK.sub (tys' := []) [] rfl
  have hFc := va_free (wc := []) hD hS hA [] rfl
  refine va_calli (va_runS (As := [.int x, .int (nI (z + 1))]) (rest := []) ⟨hx, hb, hml, hown, hts⟩ (ud_X0_from l D s.heap.size x (z + 1) (by omega) (by omega)) (va_cwS 2 hts (lw_S q72 q73 q11 q74) rfl rfl rfl (by decide +kernel) ⟨Nat.le_of_ble_eq_true rfl, Nat.le_of_ble_eq_true rfl⟩) ⟨ud_fb, fun U hU hW => ⟨rfl, ud_go hPc hKc hDc U hU hW⟩⟩ rfl rfl hl.1 rfl (lv_room (Nat.le_of_ble_eq_true rfl)) dX0_turns_7 ⟨Nat.le_of_ble_eq_true rfl, Nat.le_of_ble_eq_true rfl⟩) hS (fun q _ h => hFc q h) hFc (fun r u t H1 locs ht hvm hw hB hz1 hk1 hS => ?_)
  obtain ⟨hP1, hK1, hD1⟩ := hB
  rw [ht] at hP1
  obtain ⟨hP, hD⟩ := va_join (wr := [(pq, .inr (1, [.ref qd, .ref pt, .int (nI z), .ref pu, .int md])), (pt, .inl (cB, 128, .inl f)), (pu, .inl (cI, 160, .inl lu)), (qd, .inr (0, [.ref qt, .int (nI z), .ref qu, .int md])), (qt, .inl (cE, 128, .inl f)), (qu, .inl (cC, 160, .inl du))]) (w1 := []) hP hD [] [0, 1, 2, 3, 4, 5] rfl rfl (by decide) (by decide) hk1 hFc hP1 hD1
  generalize H1 = H at hP hS ⊢
  have hP : va_P D ud_Cl [(pq, .inr (1, [.ref qd, .ref pt, .int (nI z), .ref pu, .int md])), (pt, .inl (cB, 128, .inl f)), (pu, .inl (cI, 160, .inl lu)), (qd, .inr (0, [.ref qt, .int (nI z), .ref qu, .int md])), (qt, .inl (cE, 128, .inl f)), (qu, .inl (cC, 160, .inl du))] H := hP
  have hD : va_D A [(pq, .inr (1, [.ref qd, .ref pt, .int (nI z), .ref pu, .int md])), (pt, .inl (cB, 128, .inl f)), (pu, .inl (cI, 160, .inl lu)), (qd, .inr (0, [.ref qt, .int (nI z), .ref qu, .int md])), (qt, .inl (cE, 128, .inl f)), (qu, .inl (cC, 160, .inl du))] := hD
  rw [hae] at hw
  subst hw
  refine lv_istore (lv' := [(5, .int (nI a)), (0, .ref pq), (1, .int x), (2, .int y), (3, .int ro), (4, .int xi)]) hx hb dX0_turns_10 hl (by decide) rfl (fun ls hl => ?_)
  refine lv_iload_n hx hb dX0_turns_12 rfl (lv_at hl 3 rfl) ?_
  refine lv_aload_n hx hb dX0_turns_13 rfl (lv_at hl 1 rfl) ?_
  refine va_get (D := D) (ci := 1) (v := .int (nI z)) (C := RX0) (T := TX0) (N := 5) hx hb hts in_X0 hown hK hP 0 rfl rfl 2 (by decide) (hts _ q50) (fun _ h9 => h9) rfl dX0_turns_14 ?_
  refine lv_iload hx hb dX0_turns_17 (lv_at hl 0 rfl) ?_
  refine lv_isub hx hb dX0_turns_19 ?_
  refine ud_top (v := nI (z - a)) (pk_sub (by omega)) ?_
  refine lv_iconst (v := nI 1) hx hb dX0_turns_20 (by decide) ?_
  refine lv_iadd hx hb dX0_turns_21 ?_
  refine ud_top (v := nI (z - a + 1)) (nI_add _ _) ?_
  have hPc := hP.sub (ws' := []) [] rfl
  have hDc := hD.sub (ws' := []) [] (by decide) rfl
  have hKc := hK.sub (tys' := []) [] rfl
  have hFc := va_free (wc := []) hD hS hA [] rfl
  refine va_calli (va_runS (As := [.int y, .int (nI (z - a + 1))]) (rest := []) ⟨hx, hb, hml, hown, hts⟩ (ud_X0_from l D H.size y (z - a + 1) (by omega) (by omega)) (va_cwS 2 hts (lw_S q72 q73 q11 q74) rfl rfl rfl (by decide +kernel) ⟨Nat.le_of_ble_eq_true rfl, Nat.le_of_ble_eq_true rfl⟩) ⟨ud_fb, fun U hU hW => ⟨rfl, ud_go hPc hKc hDc U hU hW⟩⟩ rfl rfl hl.1 rfl (lv_room (Nat.le_of_ble_eq_true rfl)) dX0_turns_22 ⟨Nat.le_of_ble_eq_true rfl, Nat.le_of_ble_eq_true rfl⟩) hS (fun q _ h => hFc q h) hFc (fun r u t H1 locs ht hvm hw hB hz1 hk1 hS => ?_)
  obtain ⟨hP1, hK1, hD1⟩ := hB
  rw [ht] at hP1
  obtain ⟨hP, hD⟩ := va_join (wr := [(pq, .inr (1, [.ref qd, .ref pt, .int (nI z), .ref pu, .int md])), (pt, .inl (cB, 128, .inl f)), (pu, .inl (cI, 160, .inl lu)), (qd, .inr (0, [.ref qt, .int (nI z), .ref qu, .int md])), (qt, .inl (cE, 128, .inl f)), (qu, .inl (cC, 160, .inl du))]) (w1 := []) hP hD [] [0, 1, 2, 3, 4, 5] rfl rfl (by decide) (by decide) hk1 hFc hP1 hD1
  generalize H1 = H at hP hS ⊢
  have hP : va_P D ud_Cl [(pq, .inr (1, [.ref qd, .ref pt, .int (nI z), .ref pu, .int md])), (pt, .inl (cB, 128, .inl f)), (pu, .inl (cI, 160, .inl lu)), (qd, .inr (0, [.ref qt, .int (nI z), .ref qu, .int md])), (qt, .inl (cE, 128, .inl f)), (qu, .inl (cC, 160, .inl du))] H := hP
  have hD : va_D A [(pq, .inr (1, [.ref qd, .ref pt, .int (nI z), .ref pu, .int md])), (pt, .inl (cB, 128, .inl f)), (pu, .inl (cI, 160, .inl lu)), (qd, .inr (0, [.ref qt, .int (nI z), .ref qu, .int md])), (qt, .inl (cE, 128, .inl f)), (qu, .inl (cC, 160, .inl du))] := hD
  rw [hce] at hw
  subst hw
  refine lv_istore (lv' := [(6, .int (nI nc)), (5, .int (nI a)), (0, .ref pq), (1, .int x), (2, .int y), (3, .int ro), (4, .int xi)]) hx hb dX0_turns_25 hl (by decide) rfl (fun ls hl => ?_)
  refine lv_aload_n hx hb dX0_turns_27 rfl (lv_at hl 2 rfl) ?_
  refine lv_aload_n hx hb dX0_turns_28 rfl (lv_at hl 2 rfl) ?_
  refine lv_iload hx hb dX0_turns_29 (lv_at hl 1 rfl) ?_
  refine lv_iload hx hb dX0_turns_31 (lv_at hl 1 rfl) ?_
  refine lv_iload hx hb dX0_turns_33 (lv_at hl 0 rfl) ?_
  refine lv_iadd hx hb dX0_turns_35 ?_
  refine ud_top (v := nI (a + nc)) (nI_add _ _) ?_
  refine lv_iload_n hx hb dX0_turns_36 rfl (lv_at hl 5 rfl) ?_
  refine lv_sipush (v := nI 161) hx hb dX0_turns_37 (by decide) ?_
  have hPc := hP.sub (ws' := []) [] rfl
  have hDc := hD.sub (ws' := []) [] (by decide) rfl
  have hKc := hK.sub (tys' := []) [] rfl
  have hFc := va_free (wc := []) hD hS hA [] rfl
  refine va_calli (va_runS (As := [.int ro, .int (nI 161)]) (rest := [.int (nI (a + nc)), .int (nI a), .ref pq, .ref pq]) ⟨hx, hb, hml, hown, hts⟩ (ud_X0_from l D H.size ro 161 (by decide) (by decide)) (va_cwS 2 hts (lw_S q72 q73 q11 q74) rfl rfl rfl (by decide +kernel) ⟨Nat.le_of_ble_eq_true rfl, Nat.le_of_ble_eq_true rfl⟩) ⟨ud_fb, fun U hU hW => ⟨rfl, ud_go hPc hKc hDc U hU hW⟩⟩ rfl rfl hl.1 rfl (lv_room (Nat.le_of_ble_eq_true rfl)) dX0_turns_40 ⟨Nat.le_of_ble_eq_true rfl, Nat.le_of_ble_eq_true rfl⟩) hS (fun q _ h => hFc q h) hFc (fun r u t H1 locs ht hvm hw hB hz1 hk1 hS => ?_)
  obtain ⟨hP1, hK1, hD1⟩ := hB
  rw [ht] at hP1
  obtain ⟨hP, hD⟩ := va_join (wr := [(pq, .inr (1, [.ref qd, .ref pt, .int (nI z), .ref pu, .int md])), (pt, .inl (cB, 128, .inl f)), (pu, .inl (cI, 160, .inl lu)), (qd, .inr (0, [.ref qt, .int (nI z), .ref qu, .int md])), (qt, .inl (cE, 128, .inl f)), (qu, .inl (cC, 160, .inl du))]) (w1 := []) hP hD [] [0, 1, 2, 3, 4, 5] rfl rfl (by decide) (by decide) hk1 hFc hP1 hD1
  generalize H1 = H at hP hS ⊢
  have hP : va_P D ud_Cl [(pq, .inr (1, [.ref qd, .ref pt, .int (nI z), .ref pu, .int md])), (pt, .inl (cB, 128, .inl f)), (pu, .inl (cI, 160, .inl lu)), (qd, .inr (0, [.ref qt, .int (nI z), .ref qu, .int md])), (qt, .inl (cE, 128, .inl f)), (qu, .inl (cC, 160, .inl du))] H := hP
  have hD : va_D A [(pq, .inr (1, [.ref qd, .ref pt, .int (nI z), .ref pu, .int md])), (pt, .inl (cB, 128, .inl f)), (pu, .inl (cI, 160, .inl lu)), (qd, .inr (0, [.ref qt, .int (nI z), .ref qu, .int md])), (qt, .inl (cE, 128, .inl f)), (qu, .inl (cC, 160, .inl du))] := hD
  rw [hke] at hw
  subst hw
  have hPc := hP.sub (ws' := [(pq, .inr (1, [.ref qd, .ref pt, .int (nI z), .ref pu, .int md])), (pt, .inl (cB, 128, .inl f)), (pu, .inl (cI, 160, .inl lu))]) [0, 1, 2] rfl
  have hDc := hD.sub (ws' := [(pq, .inr (1, [.ref qd, .ref pt, .int (nI z), .ref pu, .int md])), (pt, .inl (cB, 128, .inl f)), (pu, .inl (cI, 160, .inl lu))]) [0, 1, 2] (by decide) rfl
  have hKc := hK.sub (tys' := [(cB, .byte), (cI, .int)]) [0, 1] rfl
  have hFc := va_free (wc := [(pq, .inr (1, [.ref qd, .ref pt, .int (nI z), .ref pu, .int md])), (pt, .inl (cB, 128, .inl f)), (pu, .inl (cI, 160, .inl lu))]) hD hS hA [0, 1, 2] rfl
  refine va_calli (va_runV (As := [.int (nI a), .int (nI (a + nc)), .int (nI rm)]) (rest := [.ref pq]) ⟨hx, hb, hml, hown, hts⟩ (ud_X0_turned l D H.size pq pt pu qd z a nc rm cB cI md f lu hf (by omega) (by omega)) (cwV 3 hts (lw_V q76 q78 qs1 q11 q79) rfl rfl rfl (by decide +kernel) ⟨Nat.le_of_ble_eq_true rfl, Nat.le_of_ble_eq_true rfl⟩) ⟨ud_fb, va_recv hKc hPc (ci := 1) (q0 := 0) rfl rfl, fun U hU hW => ⟨rfl, ud_go hPc hKc hDc U hU hW⟩⟩ rfl rfl hl.1 rfl (lv_room (Nat.le_of_ble_eq_true rfl)) dX0_turns_43 ⟨Nat.le_of_ble_eq_true rfl, Nat.le_of_ble_eq_true rfl⟩) hS (fun q _ h => hFc q h) hFc (fun mr w t H1 locs ht hvm hw hB hz1 hk1 hS => ?_)
  obtain ⟨hP1, hK1, hD1⟩ := hB
  rw [ht] at hP1
  obtain ⟨hP, hD⟩ := va_join (wr := [(qd, .inr (0, [.ref qt, .int (nI z), .ref qu, .int md])), (qt, .inl (cE, 128, .inl f)), (qu, .inl (cC, 160, .inl du))]) (w1 := [(pq, .inr (1, [.ref qd, .ref pt, .int (nI z), .ref pu, .int md])), (pt, .inl (cB, 128, .inl f)), (pu, .inl (cI, 160, .inl w))]) hP hD [0, 1, 2] [3, 4, 5] rfl rfl (by decide) (by decide) hk1 hFc hP1 hD1
  generalize H1 = H at hP hS ⊢
  have hP : va_P D ud_Cl [(qd, .inr (0, [.ref qt, .int (nI z), .ref qu, .int md])), (qt, .inl (cE, 128, .inl f)), (qu, .inl (cC, 160, .inl du)), (pq, .inr (1, [.ref qd, .ref pt, .int (nI z), .ref pu, .int md])), (pt, .inl (cB, 128, .inl f)), (pu, .inl (cI, 160, .inl w))] H := hP
  have hD : va_D A [(qd, .inr (0, [.ref qt, .int (nI z), .ref qu, .int md])), (qt, .inl (cE, 128, .inl f)), (qu, .inl (cC, 160, .inl du)), (pq, .inr (1, [.ref qd, .ref pt, .int (nI z), .ref pu, .int md])), (pt, .inl (cB, 128, .inl f)), (pu, .inl (cI, 160, .inl w))] := hD
  have hP := hP.sub (ws' := [(pq, .inr (1, [.ref qd, .ref pt, .int (nI z), .ref pu, .int md])), (pt, .inl (cB, 128, .inl f)), (pu, .inl (cI, 160, .inl w)), (qd, .inr (0, [.ref qt, .int (nI z), .ref qu, .int md])), (qt, .inl (cE, 128, .inl f)), (qu, .inl (cC, 160, .inl du))]) [3, 4, 5, 0, 1, 2] rfl
  have hD := hD.sub (ws' := [(pq, .inr (1, [.ref qd, .ref pt, .int (nI z), .ref pu, .int md])), (pt, .inl (cB, 128, .inl f)), (pu, .inl (cI, 160, .inl w)), (qd, .inr (0, [.ref qt, .int (nI z), .ref qu, .int md])), (qt, .inl (cE, 128, .inl f)), (qu, .inl (cC, 160, .inl du))]) [3, 4, 5, 0, 1, 2] (by decide) rfl
  have hw1 := hw
  refine va_put (D := D) (ci := 1) (v := .int mr) (ty := .int) (C := RX0) (T := TX0) (N := 5) hx hb hts in_X0 tyX0 tyX0_ok nmX0 hown hK hP hD hS 0 rfl rfl 4 (by decide) (hts _ q52) (fun _ h9 => h9) rfl (by decide +kernel) rfl rfl (Nat.le_of_ble_eq_true rfl) dX0_turns_46 (fun H locs hP hD hS => ?_)
  have hP : va_P D ud_Cl [(pq, .inr (1, [.ref qd, .ref pt, .int (nI z), .ref pu, .int mr])), (pt, .inl (cB, 128, .inl f)), (pu, .inl (cI, 160, .inl w)), (qd, .inr (0, [.ref qt, .int (nI z), .ref qu, .int md])), (qt, .inl (cE, 128, .inl f)), (qu, .inl (cC, 160, .inl du))] H := hP
  have hD : va_D A [(pq, .inr (1, [.ref qd, .ref pt, .int (nI z), .ref pu, .int mr])), (pt, .inl (cB, 128, .inl f)), (pu, .inl (cI, 160, .inl w)), (qd, .inr (0, [.ref qt, .int (nI z), .ref qu, .int md])), (qt, .inl (cE, 128, .inl f)), (qu, .inl (cC, 160, .inl du))] := hD
  refine lv_aload_n hx hb dX0_turns_49 rfl (lv_at hl 2 rfl) ?_
  refine va_get (D := D) (ci := 1) (v := .ref qd) (C := RX0) (T := TX0) (N := 5) hx hb hts in_X0 hown hK hP 0 rfl rfl 0 (by decide) (hts _ q48) (fun _ h9 => h9) rfl dX0_turns_50 ?_
  refine lv_iload_n hx hb dX0_turns_53 rfl (lv_at hl 3 rfl) ?_
  refine lv_iload_n hx hb dX0_turns_54 rfl (lv_at hl 4 rfl) ?_
  refine lv_iload_n hx hb dX0_turns_55 rfl (lv_at hl 5 rfl) ?_
  have hPc := hP.sub (ws' := [(qd, .inr (0, [.ref qt, .int (nI z), .ref qu, .int md])), (qt, .inl (cE, 128, .inl f)), (qu, .inl (cC, 160, .inl du))]) [3, 4, 5] rfl
  have hDc := hD.sub (ws' := [(qd, .inr (0, [.ref qt, .int (nI z), .ref qu, .int md])), (qt, .inl (cE, 128, .inl f)), (qu, .inl (cC, 160, .inl du))]) [3, 4, 5] (by decide) rfl
  have hKc := hK.sub (tys' := [(cE, .byte), (cC, .char)]) [2, 3] rfl
  have hFc := va_free (wc := [(qd, .inr (0, [.ref qt, .int (nI z), .ref qu, .int md])), (qt, .inl (cE, 128, .inl f)), (qu, .inl (cC, 160, .inl du))]) hD hS hA [3, 4, 5] rfl
  refine va_calli (va_runV (As := [.int x, .int y, .int ro]) (rest := []) ⟨hx, hb, hml, hown, hts⟩ (ud_X1_turn l D H.size t1 t2 qd qt qu z cE cC md f du hz hf x y ro) (cwV 3 hts (lw_V q96 q97 q98 q12 q99) rfl rfl rfl (by decide +kernel) ⟨Nat.le_of_ble_eq_true rfl, Nat.le_of_ble_eq_true rfl⟩) ⟨ud_fbt, va_recv hKc hPc (ci := 0) (q0 := 0) rfl rfl, fun U hU hW => ⟨rfl, ud_got hPc hKc hDc hTb hS hFc U hU hW⟩⟩ rfl rfl hl.1 rfl (lv_room (Nat.le_of_ble_eq_true rfl)) dX0_turns_56 ⟨Nat.le_of_ble_eq_true rfl, Nat.le_of_ble_eq_true rfl⟩) hS (fun q _ h => hFc q h) hFc (fun m2 v t H1 locs ht hvm hw hB hz1 hk1 hS => ?_)
  obtain ⟨mv, dv⟩ := v
  rw [hae, hce, hke] at hw
  obtain ⟨hm2, hw2⟩ := hw
  obtain ⟨he, hmk⟩ := ud_An_det (by omega) hw1 hw2
  have he : mr = mv := he
  have hm2 : m2 = mv := hm2
  have hmk : ud_Mk mr w dv := hmk
  rw [← he] at hB
  obtain ⟨hP1, hK1, hD1⟩ := hB
  rw [ht] at hP1
  obtain ⟨hP, hD⟩ := va_join (wr := [(pq, .inr (1, [.ref qd, .ref pt, .int (nI z), .ref pu, .int mr])), (pt, .inl (cB, 128, .inl f)), (pu, .inl (cI, 160, .inl w))]) (w1 := [(qd, .inr (0, [.ref qt, .int (nI z), .ref qu, .int mr])), (qt, .inl (cE, 128, .inl f)), (qu, .inl (cC, 160, .inl dv))]) hP hD [3, 4, 5] [0, 1, 2] rfl rfl (by decide) (by decide) hk1 hFc hP1 hD1
  generalize H1 = H at hP hS ⊢
  have hP : va_P D ud_Cl [(pq, .inr (1, [.ref qd, .ref pt, .int (nI z), .ref pu, .int mr])), (pt, .inl (cB, 128, .inl f)), (pu, .inl (cI, 160, .inl w)), (qd, .inr (0, [.ref qt, .int (nI z), .ref qu, .int mr])), (qt, .inl (cE, 128, .inl f)), (qu, .inl (cC, 160, .inl dv))] H := hP
  have hD : va_D A [(pq, .inr (1, [.ref qd, .ref pt, .int (nI z), .ref pu, .int mr])), (pt, .inl (cB, 128, .inl f)), (pu, .inl (cI, 160, .inl w)), (qd, .inr (0, [.ref qt, .int (nI z), .ref qu, .int mr])), (qt, .inl (cE, 128, .inl f)), (qu, .inl (cC, 160, .inl dv))] := hD
  refine W.widen (k := 2) (n := 288) (by omega) (by omega) ?_
  refine ud_top (v := mr) (hm2.trans he.symm) ?_
  refine lv_aload_n hx hb dX0_turns_59 rfl (lv_at hl 2 rfl) ?_
  refine va_get (D := D) (ci := 1) (v := .int mr) (C := RX0) (T := TX0) (N := 5) hx hb hts in_X0 hown hK hP 0 rfl rfl 4 (by decide) (hts _ q52) (fun _ h9 => h9) rfl dX0_turns_60 ?_
  refine lv_icmp_eq (tgt := 68) hx hb dX0_turns_63 (by decide) (fun c63 => ?_) (fun c63 => ?_)
  · have hmk0 := hmk
    rcases hmk0 with hm | ⟨n, hn, hm, hag⟩
    · subst hm
      refine lv_iconst (v := nI 0) hx hb dX0_turns_68 (by decide) ?_
      refine lv_istore (lv' := [(7, .int (nI 0)), (6, .int (nI nc)), (5, .int (nI a)), (0, .ref pq), (1, .int x), (2, .int y), (3, .int ro), (4, .int xi)]) hx hb dX0_turns_69 hl (by decide) rfl (fun ls hl => ?_)
      refine lv_iload hx hb dX0_turns_71 (lv_at hl 0 rfl) ?_
      refine lv_aload_n hx hb dX0_turns_73 rfl (lv_at hl 3 rfl) ?_
      refine va_get (D := D) (ci := 1) (v := .int (-1)) (C := RX0) (T := TX0) (N := 5) hx hb hts in_X0 hown hK hP 0 rfl rfl 4 (by decide) (hts _ q52) (fun _ h9 => h9) rfl dX0_turns_74 ?_
      refine lv_icmp_ge (tgt := 107) hx hb dX0_turns_77 (by decide) (fun c77 => ?_) (fun c77 => ?_)
      · refine lv_aload_n hx hb dX0_turns_107 rfl (lv_at hl 3 rfl) ?_
        refine lv_iload hx hb dX0_turns_108 (lv_at hl 7 rfl) ?_
        have hPc := hP.sub (ws' := [(pq, .inr (1, [.ref qd, .ref pt, .int (nI z), .ref pu, .int (-1)])), (pu, .inl (cI, 160, .inl w)), (qd, .inr (0, [.ref qt, .int (nI z), .ref qu, .int (-1)])), (qu, .inl (cC, 160, .inl dv))]) [0, 2, 3, 5] rfl
        have hDc := hD.sub (ws' := [(pq, .inr (1, [.ref qd, .ref pt, .int (nI z), .ref pu, .int (-1)])), (pu, .inl (cI, 160, .inl w)), (qd, .inr (0, [.ref qt, .int (nI z), .ref qu, .int (-1)])), (qu, .inl (cC, 160, .inl dv))]) [0, 2, 3, 5] (by decide) rfl
        have hKc := hK.sub (tys' := [(cI, .int), (cC, .char)]) [1, 3] rfl
        have hFc := va_free (wc := [(pq, .inr (1, [.ref qd, .ref pt, .int (nI z), .ref pu, .int (-1)])), (pu, .inl (cI, 160, .inl w)), (qd, .inr (0, [.ref qt, .int (nI z), .ref qu, .int (-1)])), (qu, .inl (cC, 160, .inl dv))]) hD hS hA [0, 2, 3, 5] rfl
        refine va_calli (va_runV (As := [.int xi]) (rest := []) ⟨hx, hb, hml, hown, hts⟩ (ud_X0_isUnit l D H.size pq pt pu qd qt qu z cI cC (-1) w dv hmk xi) (cwV 1 hts (lw_V q125 q127 qs6 q11 q128) rfl rfl rfl (by decide +kernel) ⟨Nat.le_of_ble_eq_true rfl, Nat.le_of_ble_eq_true rfl⟩) ⟨ud_fb, va_recv hKc hPc (ci := 1) (q0 := 0) rfl rfl, fun U hU hW => ⟨rfl, ud_go hPc hKc hDc U hU hW⟩⟩ rfl rfl hl.1 rfl (lv_room (Nat.le_of_ble_eq_true rfl)) dX0_turns_110 ⟨Nat.le_of_ble_eq_true rfl, Nat.le_of_ble_eq_true rfl⟩) hS (fun q _ h => hFc q h) hFc (fun r u t H1 locs ht hvm hw hB hz1 hk1 hS => ?_)
        obtain ⟨hP1, hK1, hD1⟩ := hB
        rw [ht] at hP1
        obtain ⟨hP, hD⟩ := va_join (wr := [(pt, .inl (cB, 128, .inl f)), (qt, .inl (cE, 128, .inl f))]) (w1 := [(pq, .inr (1, [.ref qd, .ref pt, .int (nI z), .ref pu, .int (-1)])), (pu, .inl (cI, 160, .inl w)), (qd, .inr (0, [.ref qt, .int (nI z), .ref qu, .int (-1)])), (qu, .inl (cC, 160, .inl dv))]) hP hD [0, 2, 3, 5] [1, 4] rfl rfl (by decide) (by decide) hk1 hFc hP1 hD1
        generalize H1 = H at hP hS ⊢
        have hP : va_P D ud_Cl [(pt, .inl (cB, 128, .inl f)), (qt, .inl (cE, 128, .inl f)), (pq, .inr (1, [.ref qd, .ref pt, .int (nI z), .ref pu, .int (-1)])), (pu, .inl (cI, 160, .inl w)), (qd, .inr (0, [.ref qt, .int (nI z), .ref qu, .int (-1)])), (qu, .inl (cC, 160, .inl dv))] H := hP
        have hD : va_D A [(pt, .inl (cB, 128, .inl f)), (qt, .inl (cE, 128, .inl f)), (pq, .inr (1, [.ref qd, .ref pt, .int (nI z), .ref pu, .int (-1)])), (pu, .inl (cI, 160, .inl w)), (qd, .inr (0, [.ref qt, .int (nI z), .ref qu, .int (-1)])), (qu, .inl (cC, 160, .inl dv))] := hD
        have hP := hP.sub (ws' := [(pq, .inr (1, [.ref qd, .ref pt, .int (nI z), .ref pu, .int (-1)])), (pt, .inl (cB, 128, .inl f)), (pu, .inl (cI, 160, .inl w)), (qd, .inr (0, [.ref qt, .int (nI z), .ref qu, .int (-1)])), (qt, .inl (cE, 128, .inl f)), (qu, .inl (cC, 160, .inl dv))]) [2, 0, 3, 4, 1, 5] rfl
        have hD := hD.sub (ws' := [(pq, .inr (1, [.ref qd, .ref pt, .int (nI z), .ref pu, .int (-1)])), (pt, .inl (cB, 128, .inl f)), (pu, .inl (cI, 160, .inl w)), (qd, .inr (0, [.ref qt, .int (nI z), .ref qu, .int (-1)])), (qt, .inl (cE, 128, .inl f)), (qu, .inl (cC, 160, .inl dv))]) [2, 0, 3, 4, 1, 5] (by decide) rfl
        subst hw
        have hP9 := hP.sub (ws' := [(pq, .inr (1, [.ref qd, .ref pt, .int (nI z), .ref pu, .int (-1)])), (pt, .inl (cB, 128, .inl f)), (pu, .inl (cI, 160, .inl w)), (qd, .inr (0, [.ref qt, .int (nI z), .ref qu, .int (-1)])), (qt, .inl (cE, 128, .inl f)), (qu, .inl (cC, 160, .inl dv))]) [0, 1, 2, 3, 4, 5] rfl
        have hD9 := hD.sub (ws' := [(pq, .inr (1, [.ref qd, .ref pt, .int (nI z), .ref pu, .int (-1)])), (pt, .inl (cB, 128, .inl f)), (pu, .inl (cI, 160, .inl w)), (qd, .inr (0, [.ref qt, .int (nI z), .ref qu, .int (-1)])), (qt, .inl (cE, 128, .inl f)), (qu, .inl (cC, 160, .inl dv))]) [0, 1, 2, 3, 4, 5] (by decide) rfl
        have hK9 := hK.sub (tys' := [(cB, .byte), (cI, .int), (cE, .byte), (cC, .char)]) [0, 1, 2, 3] rfl
        exact W.zret (v := 1) hx hb hr rfl (fun t ht hW => ⟨⟨1, (-1, w, dv), rfl, ⟨rfl, hmk, hw1⟩, ud_end ht hW hP9 hK9 hD9⟩, hS.F ht⟩) hS.2.2 dX0_turns_113
      · exact absurd (show (-1 : Int32) ≤ nI 0 by decide) c77
    · subst hm
      refine lv_iconst (v := nI 0) hx hb dX0_turns_68 (by decide) ?_
      refine lv_istore (lv' := [(7, .int (nI 0)), (6, .int (nI nc)), (5, .int (nI a)), (0, .ref pq), (1, .int x), (2, .int y), (3, .int ro), (4, .int xi)]) hx hb dX0_turns_69 hl (by decide) rfl (fun ls hl => ?_)
      refine ud_ind (pc2 := 71) (stk := []) (J := fun (nn : Nat) (ls : Array Slot) (H : Heap) (locs : List Loc) => ∃ (i : Nat), (n + 1 ≤ i + nn) ∧ (i ≤ n) ∧ va_P D ud_Cl [(pq, .inr (1, [.ref qd, .ref pt, .int (nI z), .ref pu, .int (nI n)])), (pt, .inl (cB, 128, .inl f)), (pu, .inl (cI, 160, .inl w)), (qd, .inr (0, [.ref qt, .int (nI z), .ref qu, .int (nI n)])), (qt, .inl (cE, 128, .inl f)), (qu, .inl (cC, 160, .inl dv))] H ∧ va_D A [(pq, .inr (1, [.ref qd, .ref pt, .int (nI z), .ref pu, .int (nI n)])), (pt, .inl (cB, 128, .inl f)), (pu, .inl (cI, 160, .inl w)), (qd, .inr (0, [.ref qt, .int (nI z), .ref qu, .int (nI n)])), (qt, .inl (cE, 128, .inl f)), (qu, .inl (cC, 160, .inl dv))] ∧ va_S A s.heap H locs ∧ lv_has ls 8 [(0, .ref pq), (1, .int x), (2, .int y), (3, .int ro), (4, .int xi), (7, .int (nI i))]) (fun ls H locs h => by obtain ⟨i, c71_m, c71_i, -⟩ := h; omega) (n + 1) ⟨0, by omega, by omega, hP, hD, hS, lv_sub hl [3, 4, 5, 6, 7, 0] rfl⟩ ?_
      intro nn ih71 ls H locs hJ
      obtain ⟨i, c71_m, c71_i, hP, hD, hS, hl⟩ := hJ
      refine lv_iload hx hb dX0_turns_71 (lv_at hl 5 rfl) ?_
      refine lv_aload_n hx hb dX0_turns_73 rfl (lv_at hl 0 rfl) ?_
      refine va_get (D := D) (ci := 1) (v := .int (nI n)) (C := RX0) (T := TX0) (N := 5) hx hb hts in_X0 hown hK hP 0 rfl rfl 4 (by decide) (hts _ q52) (fun _ h9 => h9) rfl dX0_turns_74 ?_
      refine ud_ge (tgt := 107) hx hb dX0_turns_77 (by decide) (by omega) (by omega) (fun c77 => ?_) (fun c77 => ?_)
      · refine lv_aload_n hx hb dX0_turns_107 rfl (lv_at hl 0 rfl) ?_
        refine lv_iload hx hb dX0_turns_108 (lv_at hl 4 rfl) ?_
        have hPc := hP.sub (ws' := [(pq, .inr (1, [.ref qd, .ref pt, .int (nI z), .ref pu, .int (nI n)])), (pu, .inl (cI, 160, .inl w)), (qd, .inr (0, [.ref qt, .int (nI z), .ref qu, .int (nI n)])), (qu, .inl (cC, 160, .inl dv))]) [0, 2, 3, 5] rfl
        have hDc := hD.sub (ws' := [(pq, .inr (1, [.ref qd, .ref pt, .int (nI z), .ref pu, .int (nI n)])), (pu, .inl (cI, 160, .inl w)), (qd, .inr (0, [.ref qt, .int (nI z), .ref qu, .int (nI n)])), (qu, .inl (cC, 160, .inl dv))]) [0, 2, 3, 5] (by decide) rfl
        have hKc := hK.sub (tys' := [(cI, .int), (cC, .char)]) [1, 3] rfl
        have hFc := va_free (wc := [(pq, .inr (1, [.ref qd, .ref pt, .int (nI z), .ref pu, .int (nI n)])), (pu, .inl (cI, 160, .inl w)), (qd, .inr (0, [.ref qt, .int (nI z), .ref qu, .int (nI n)])), (qu, .inl (cC, 160, .inl dv))]) hD hS hA [0, 2, 3, 5] rfl
        refine va_calli (va_runV (As := [.int xi]) (rest := []) ⟨hx, hb, hml, hown, hts⟩ (ud_X0_isUnit l D H.size pq pt pu qd qt qu z cI cC (nI n) w dv hmk xi) (cwV 1 hts (lw_V q125 q127 qs6 q11 q128) rfl rfl rfl (by decide +kernel) ⟨Nat.le_of_ble_eq_true rfl, Nat.le_of_ble_eq_true rfl⟩) ⟨ud_fb, va_recv hKc hPc (ci := 1) (q0 := 0) rfl rfl, fun U hU hW => ⟨rfl, ud_go hPc hKc hDc U hU hW⟩⟩ rfl rfl hl.1 rfl (lv_room (Nat.le_of_ble_eq_true rfl)) dX0_turns_110 ⟨Nat.le_of_ble_eq_true rfl, Nat.le_of_ble_eq_true rfl⟩) hS (fun q _ h => hFc q h) hFc (fun r u t H1 locs ht hvm hw hB hz1 hk1 hS => ?_)
        obtain ⟨hP1, hK1, hD1⟩ := hB
        rw [ht] at hP1
        obtain ⟨hP, hD⟩ := va_join (wr := [(pt, .inl (cB, 128, .inl f)), (qt, .inl (cE, 128, .inl f))]) (w1 := [(pq, .inr (1, [.ref qd, .ref pt, .int (nI z), .ref pu, .int (nI n)])), (pu, .inl (cI, 160, .inl w)), (qd, .inr (0, [.ref qt, .int (nI z), .ref qu, .int (nI n)])), (qu, .inl (cC, 160, .inl dv))]) hP hD [0, 2, 3, 5] [1, 4] rfl rfl (by decide) (by decide) hk1 hFc hP1 hD1
        generalize H1 = H at hP hS ⊢
        have hP : va_P D ud_Cl [(pt, .inl (cB, 128, .inl f)), (qt, .inl (cE, 128, .inl f)), (pq, .inr (1, [.ref qd, .ref pt, .int (nI z), .ref pu, .int (nI n)])), (pu, .inl (cI, 160, .inl w)), (qd, .inr (0, [.ref qt, .int (nI z), .ref qu, .int (nI n)])), (qu, .inl (cC, 160, .inl dv))] H := hP
        have hD : va_D A [(pt, .inl (cB, 128, .inl f)), (qt, .inl (cE, 128, .inl f)), (pq, .inr (1, [.ref qd, .ref pt, .int (nI z), .ref pu, .int (nI n)])), (pu, .inl (cI, 160, .inl w)), (qd, .inr (0, [.ref qt, .int (nI z), .ref qu, .int (nI n)])), (qu, .inl (cC, 160, .inl dv))] := hD
        have hP := hP.sub (ws' := [(pq, .inr (1, [.ref qd, .ref pt, .int (nI z), .ref pu, .int (nI n)])), (pt, .inl (cB, 128, .inl f)), (pu, .inl (cI, 160, .inl w)), (qd, .inr (0, [.ref qt, .int (nI z), .ref qu, .int (nI n)])), (qt, .inl (cE, 128, .inl f)), (qu, .inl (cC, 160, .inl dv))]) [2, 0, 3, 4, 1, 5] rfl
        have hD := hD.sub (ws' := [(pq, .inr (1, [.ref qd, .ref pt, .int (nI z), .ref pu, .int (nI n)])), (pt, .inl (cB, 128, .inl f)), (pu, .inl (cI, 160, .inl w)), (qd, .inr (0, [.ref qt, .int (nI z), .ref qu, .int (nI n)])), (qt, .inl (cE, 128, .inl f)), (qu, .inl (cC, 160, .inl dv))]) [2, 0, 3, 4, 1, 5] (by decide) rfl
        subst hw
        have hP9 := hP.sub (ws' := [(pq, .inr (1, [.ref qd, .ref pt, .int (nI z), .ref pu, .int (nI n)])), (pt, .inl (cB, 128, .inl f)), (pu, .inl (cI, 160, .inl w)), (qd, .inr (0, [.ref qt, .int (nI z), .ref qu, .int (nI n)])), (qt, .inl (cE, 128, .inl f)), (qu, .inl (cC, 160, .inl dv))]) [0, 1, 2, 3, 4, 5] rfl
        have hD9 := hD.sub (ws' := [(pq, .inr (1, [.ref qd, .ref pt, .int (nI z), .ref pu, .int (nI n)])), (pt, .inl (cB, 128, .inl f)), (pu, .inl (cI, 160, .inl w)), (qd, .inr (0, [.ref qt, .int (nI z), .ref qu, .int (nI n)])), (qt, .inl (cE, 128, .inl f)), (qu, .inl (cC, 160, .inl dv))]) [0, 1, 2, 3, 4, 5] (by decide) rfl
        have hK9 := hK.sub (tys' := [(cB, .byte), (cI, .int), (cE, .byte), (cC, .char)]) [0, 1, 2, 3] rfl
        exact W.zret (v := 1) hx hb hr rfl (fun t ht hW => ⟨⟨1, (nI n, w, dv), rfl, ⟨rfl, hmk, hw1⟩, ud_end ht hW hP9 hK9 hD9⟩, hS.F ht⟩) hS.2.2 dX0_turns_113
      · refine lv_aload_n hx hb dX0_turns_80 rfl (lv_at hl 0 rfl) ?_
        refine va_get (D := D) (ci := 1) (v := .ref qd) (C := RX0) (T := TX0) (N := 5) hx hb hts in_X0 hown hK hP 0 rfl rfl 0 (by decide) (hts _ q48) (fun _ h9 => h9) rfl dX0_turns_81 ?_
        refine lv_iload hx hb dX0_turns_84 (lv_at hl 5 rfl) ?_
        have hPc := hP.sub (ws' := [(qd, .inr (0, [.ref qt, .int (nI z), .ref qu, .int (nI n)])), (qu, .inl (cC, 160, .inl dv))]) [3, 5] rfl
        have hDc := hD.sub (ws' := [(qd, .inr (0, [.ref qt, .int (nI z), .ref qu, .int (nI n)])), (qu, .inl (cC, 160, .inl dv))]) [3, 5] (by decide) rfl
        have hKc := hK.sub (tys' := [(cC, .char)]) [3] rfl
        have hFc := va_free (wc := [(qd, .inr (0, [.ref qt, .int (nI z), .ref qu, .int (nI n)])), (qu, .inl (cC, 160, .inl dv))]) hD hS hA [3, 5] rfl
        refine va_calli (va_runV (As := [.int (nI i)]) (rest := []) ⟨hx, hb, hml, hown, hts⟩ (ud_X1_unit l D H.size qd qt qu cC (nI z) (nI n) dv (Or.inr ⟨n, by omega, rfl⟩) (nI i)) (cwV 1 hts (lw_V q14 q15 q16 q12 q17) rfl rfl rfl (by decide +kernel) ⟨Nat.le_of_ble_eq_true rfl, Nat.le_of_ble_eq_true rfl⟩) ⟨ud_fb, va_recv hKc hPc (ci := 0) (q0 := 0) rfl rfl, fun U hU hW => ⟨rfl, ud_go hPc hKc hDc U hU hW⟩⟩ rfl rfl hl.1 rfl (lv_room (Nat.le_of_ble_eq_true rfl)) dX0_turns_86 ⟨Nat.le_of_ble_eq_true rfl, Nat.le_of_ble_eq_true rfl⟩) hS (fun q _ h => hFc q h) hFc (fun ru u t H1 locs ht hvm hw hB hz1 hk1 hS => ?_)
        obtain ⟨hP1, hK1, hD1⟩ := hB
        rw [ht] at hP1
        obtain ⟨hP, hD⟩ := va_join (wr := [(pq, .inr (1, [.ref qd, .ref pt, .int (nI z), .ref pu, .int (nI n)])), (pt, .inl (cB, 128, .inl f)), (pu, .inl (cI, 160, .inl w)), (qt, .inl (cE, 128, .inl f))]) (w1 := [(qd, .inr (0, [.ref qt, .int (nI z), .ref qu, .int (nI n)])), (qu, .inl (cC, 160, .inl dv))]) hP hD [3, 5] [0, 1, 2, 4] rfl rfl (by decide) (by decide) hk1 hFc hP1 hD1
        generalize H1 = H at hP hS ⊢
        have hP : va_P D ud_Cl [(pq, .inr (1, [.ref qd, .ref pt, .int (nI z), .ref pu, .int (nI n)])), (pt, .inl (cB, 128, .inl f)), (pu, .inl (cI, 160, .inl w)), (qt, .inl (cE, 128, .inl f)), (qd, .inr (0, [.ref qt, .int (nI z), .ref qu, .int (nI n)])), (qu, .inl (cC, 160, .inl dv))] H := hP
        have hD : va_D A [(pq, .inr (1, [.ref qd, .ref pt, .int (nI z), .ref pu, .int (nI n)])), (pt, .inl (cB, 128, .inl f)), (pu, .inl (cI, 160, .inl w)), (qt, .inl (cE, 128, .inl f)), (qd, .inr (0, [.ref qt, .int (nI z), .ref qu, .int (nI n)])), (qu, .inl (cC, 160, .inl dv))] := hD
        have hP := hP.sub (ws' := [(pq, .inr (1, [.ref qd, .ref pt, .int (nI z), .ref pu, .int (nI n)])), (pt, .inl (cB, 128, .inl f)), (pu, .inl (cI, 160, .inl w)), (qd, .inr (0, [.ref qt, .int (nI z), .ref qu, .int (nI n)])), (qt, .inl (cE, 128, .inl f)), (qu, .inl (cC, 160, .inl dv))]) [0, 1, 2, 4, 3, 5] rfl
        have hD := hD.sub (ws' := [(pq, .inr (1, [.ref qd, .ref pt, .int (nI z), .ref pu, .int (nI n)])), (pt, .inl (cB, 128, .inl f)), (pu, .inl (cI, 160, .inl w)), (qd, .inr (0, [.ref qt, .int (nI z), .ref qu, .int (nI n)])), (qt, .inl (cE, 128, .inl f)), (qu, .inl (cC, 160, .inl dv))]) [0, 1, 2, 4, 3, 5] (by decide) rfl
        refine lv_aload_n hx hb dX0_turns_89 rfl (lv_at hl 0 rfl) ?_
        refine va_get (D := D) (ci := 1) (v := .ref pu) (C := RX0) (T := TX0) (N := 5) hx hb hts in_X0 hown hK hP 0 rfl rfl 3 (by decide) (hts _ q51) (fun _ h9 => h9) rfl dX0_turns_90 ?_
        refine lv_iload hx hb dX0_turns_93 (lv_at hl 5 rfl) ?_
        refine ud_iald hx hb hK hP 2 1 rfl rfl (by omega) (by decide) dX0_turns_95 ?_
        refine lv_icmp_eq (tgt := 101) hx hb dX0_turns_96 (by decide) (fun c96 => ?_) (fun c96 => ?_)
        · refine lv_iinc (v := nI (i + 1)) (lv' := [(7, .int (nI (i + 1))), (0, .ref pq), (1, .int x), (2, .int y), (3, .int ro), (4, .int xi)]) hx hb dX0_turns_101 hl (k := 5) rfl (ud_inc i) (by decide) rfl (fun ls hl => ?_)
          refine lv_goto (tgt := 71) hx hb dX0_turns_104 (by decide) ?_
          exact ih71 ls H locs ⟨i + 1, by omega, by omega, hP, hD, hS, lv_sub hl [1, 2, 3, 4, 5, 0] rfl⟩
        · exact absurd (hw.trans ((ud_ut_nI c77 (by omega)).trans (hag i c77).symm)) c96
  · exact absurd rfl c63
set_option maxHeartbeats 4000000 in
set_option maxRecDepth 100000 in
theorem ud_X0_letter (l : Launch) (D : va_G) (sz : Nat) (t1 t2 : Nat) (pq pt pu qd qt qu z : Nat) (cB cI cE cC : ClassId) (md : Int32) (f lu du : Nat → Int32) (hz : z ≤ 128) (hf : ud_isB f) (hmk : ud_Mk md lu du) (x v ro : Int32) : Met l yX0_letter (ws_ yX0_letter cX0_letter 9 (some .boolean)) ({ frames := 4, cells := 2, slots := 288, locals := 104 }) (va_Pc [.ref pq, .int x, .int v, .int ro] (ud_Wt D [(pq, .inr (1, [.ref qd, .ref pt, .int (nI z), .ref pu, .int md])), (pt, .inl (cB, 128, .inl f)), (pu, .inl (cI, 160, .inl lu)), (qd, .inr (0, [.ref qt, .int (nI z), .ref qu, .int md])), (qt, .inl (cE, 128, .inl f)), (qu, .inl (cC, 160, .inl du))] [(cB, .byte), (cI, .int), (cE, .byte), (cC, .char)] sz t1 t2)) (va_Qi (fun (r : Int32) (u : (Nat → Int32) × Int32 × (Nat → Int32) × (Nat → Int32)) => r = 1 ∧ ud_isB u.1 ∧ ud_Mk u.2.1 u.2.2.1 u.2.2.2) (fun u t => ud_E D (va_A [(pq, .inr (1, [.ref qd, .ref pt, .int (nI z), .ref pu, .int md])), (pt, .inl (cB, 128, .inl f)), (pu, .inl (cI, 160, .inl lu)), (qd, .inr (0, [.ref qt, .int (nI z), .ref qu, .int md])), (qt, .inl (cE, 128, .inl f)), (qu, .inl (cC, 160, .inl du))] sz) [(pq, .inr (1, [.ref qd, .ref pt, .int (nI z), .ref pu, .int u.2.1])), (pt, .inl (cB, 128, .inl u.1)), (pu, .inl (cI, 160, .inl u.2.2.1)), (qd, .inr (0, [.ref qt, .int (nI z), .ref qu, .int u.2.1])), (qt, .inl (cE, 128, .inl u.1)), (qu, .inl (cC, 160, .inl u.2.2.2))] [(cB, .byte), (cI, .int), (cE, .byte), (cC, .char)] t) (va_A [(pq, .inr (1, [.ref qd, .ref pt, .int (nI z), .ref pu, .int md])), (pt, .inl (cB, 128, .inl f)), (pu, .inl (cI, 160, .inl lu)), (qd, .inr (0, [.ref qt, .int (nI z), .ref qu, .int md])), (qt, .inl (cE, 128, .inl f)), (qu, .inl (cC, 160, .inl du))] sz)) 2 288 (va_A [(pq, .inr (1, [.ref qd, .ref pt, .int (nI z), .ref pu, .int md])), (pt, .inl (cB, 128, .inl f)), (pu, .inl (cI, 160, .inl lu)), (qd, .inr (0, [.ref qt, .int (nI z), .ref qu, .int md])), (qt, .inl (cE, 128, .inl f)), (qu, .inl (cC, 160, .inl du))] sz) := by
  refine Met.ofW (cc := cX0_letter) (maxL := 9) (ret := (some .boolean)) (by decide) rfl ?_
  intro p e s m args below meth c s₁ B hml hv
  obtain ⟨rfl, ⟨hsz, hP, hK, hD0⟩, hTb⟩ := hv
  have hx := B.exec
  have hb := B.bytes
  have hr := B.returns
  have hts := atoms_spec (ws := ws_ yX0_letter cX0_letter 9 (some .boolean)) B.pre
  have hts : ∀ w ∈ lw_all, w.before _ s = true := fun w h => hts w (List.mem_cons_of_mem _ h)
  have hown : s.vm.findClass RX0 = some m.cls := findClass_of_methodNamed B.named
  have hlocks := B.notSynchronized
  subst hsz
  have hD := hD0.self (sz := s.heap.size)
  generalize hAe : va_A [(pq, .inr (1, [.ref qd, .ref pt, .int (nI z), .ref pu, .int md])), (pt, .inl (cB, 128, .inl f)), (pu, .inl (cI, 160, .inl lu)), (qd, .inr (0, [.ref qt, .int (nI z), .ref qu, .int md])), (qt, .inl (cE, 128, .inl f)), (qu, .inl (cC, 160, .inl du))] s.heap.size = A at hD hTb ⊢
  have hA : ∀ q : Nat, s.heap.size ≤ q → A q := fun q h => by rw [← hAe]; exact Or.inr h
  have hS : va_S A s.heap s.heap [] := va_S.rf
  have hP : va_P D ud_Cl [(pq, .inr (1, [.ref qd, .ref pt, .int (nI z), .ref pu, .int md])), (pt, .inl (cB, 128, .inl f)), (pu, .inl (cI, 160, .inl lu)), (qd, .inr (0, [.ref qt, .int (nI z), .ref qu, .int md])), (qt, .inl (cE, 128, .inl f)), (qu, .inl (cC, 160, .inl du))] s.heap := hP
  have hl := lv_entry ([.ref pq, .int x, .int v, .int ro]) (n := 9) (Nat.le_of_ble_eq_true rfl)
  rw [lg_entry_eq]
  generalize (lg_sl ([.ref pq, .int x, .int v, .int ro]) ++ List.replicate (9 - (lg_sl ([.ref pq, .int x, .int v, .int ro])).length) Slot.unset).toArray = ls at hl ⊢
  have hl : lv_has ls 9 [(0, .ref pq), (1, .int x), (2, .int v), (3, .int ro)] := hl
  have ha := ud_fM_lt x (m := z + 1) (by omega)
  have hq := ud_fM_lt v (m := 1114112) (by decide)
  have hro := ud_fM_lt ro (m := 100) (by decide)
  generalize hae : ud_fM x (z + 1) = a at ha
  generalize hqe : ud_fM v 1114112 = q at hq
  have hn1 := ud_nd_pos q
  refine lv_iload_n hx hb dX0_letter_0 rfl (lv_at hl 2 rfl) ?_
  refine lv_ldc (v := nI 1114112) hx hb hown (hts _ q149) dX0_letter_1 ?_
  have hPc := hP.sub (ws' := []) [] rfl
  have hDc := hD.sub (ws' := []) [] (by decide) rfl
  have hKc := hK.sub (tys' := []) [] rfl
  have hFc := va_free (wc := []) hD hS hA [] rfl
  refine va_calli (va_runS (As := [.int v, .int (nI 1114112)]) (rest := []) ⟨hx, hb, hml, hown, hts⟩ (ud_X0_from l D s.heap.size v 1114112 (by decide) (by decide)) (va_cwS 2 hts (lw_S q72 q73 q11 q74) rfl rfl rfl (by decide +kernel) ⟨Nat.le_of_ble_eq_true rfl, Nat.le_of_ble_eq_true rfl⟩) ⟨ud_fb, fun U hU hW => ⟨rfl, ud_go hPc hKc hDc U hU hW⟩⟩ rfl rfl hl.1 rfl (lv_room (Nat.le_of_ble_eq_true rfl)) dX0_letter_3 ⟨Nat.le_of_ble_eq_true rfl, Nat.le_of_ble_eq_true rfl⟩) hS (fun q _ h => hFc q h) hFc (fun r u t H1 locs ht hvm hw hB hz1 hk1 hS => ?_)
  obtain ⟨hP1, hK1, hD1⟩ := hB
  rw [ht] at hP1
  obtain ⟨hP, hD⟩ := va_join (wr := [(pq, .inr (1, [.ref qd, .ref pt, .int (nI z), .ref pu, .int md])), (pt, .inl (cB, 128, .inl f)), (pu, .inl (cI, 160, .inl lu)), (qd, .inr (0, [.ref qt, .int (nI z), .ref qu, .int md])), (qt, .inl (cE, 128, .inl f)), (qu, .inl (cC, 160, .inl du))]) (w1 := []) hP hD [] [0, 1, 2, 3, 4, 5] rfl rfl (by decide) (by decide) hk1 hFc hP1 hD1
  generalize H1 = H at hP hS ⊢
  have hP : va_P D ud_Cl [(pq, .inr (1, [.ref qd, .ref pt, .int (nI z), .ref pu, .int md])), (pt, .inl (cB, 128, .inl f)), (pu, .inl (cI, 160, .inl lu)), (qd, .inr (0, [.ref qt, .int (nI z), .ref qu, .int md])), (qt, .inl (cE, 128, .inl f)), (qu, .inl (cC, 160, .inl du))] H := hP
  have hD : va_D A [(pq, .inr (1, [.ref qd, .ref pt, .int (nI z), .ref pu, .int md])), (pt, .inl (cB, 128, .inl f)), (pu, .inl (cI, 160, .inl lu)), (qd, .inr (0, [.ref qt, .int (nI z), .ref qu, .int md])), (qt, .inl (cE, 128, .inl f)), (qu, .inl (cC, 160, .inl du))] := hD
  rw [hqe] at hw
  subst hw
  refine lv_istore (lv' := [(4, .int (nI q)), (0, .ref pq), (1, .int x), (2, .int v), (3, .int ro)]) hx hb dX0_letter_6 hl (by decide) rfl (fun ls hl => ?_)
  refine lv_iload hx hb dX0_letter_8 (lv_at hl 0 rfl) ?_
  have hPc := hP.sub (ws' := []) [] rfl
  have hDc := hD.sub (ws' := []) [] (by decide) rfl
  have hKc := hK.sub (tys' := []) [] rfl
  have hFc := va_free (wc := []) hD hS hA [] rfl
  refine va_calli (va_runS (As := [.int (nI q)]) (rest := []) ⟨hx, hb, hml, hown, hts⟩ (ud_X0_needed l D H.size (nI q)) (va_cwS 1 hts (lw_S q87 q88 q11 q89) rfl rfl rfl (by decide +kernel) ⟨Nat.le_of_ble_eq_true rfl, Nat.le_of_ble_eq_true rfl⟩) ⟨ud_fb, fun U hU hW => ⟨rfl, ud_go hPc hKc hDc U hU hW⟩⟩ rfl rfl hl.1 rfl (lv_room (Nat.le_of_ble_eq_true rfl)) dX0_letter_10 ⟨Nat.le_of_ble_eq_true rfl, Nat.le_of_ble_eq_true rfl⟩) hS (fun q _ h => hFc q h) hFc (fun r u t H1 locs ht hvm hw hB hz1 hk1 hS => ?_)
  obtain ⟨hP1, hK1, hD1⟩ := hB
  rw [ht] at hP1
  obtain ⟨hP, hD⟩ := va_join (wr := [(pq, .inr (1, [.ref qd, .ref pt, .int (nI z), .ref pu, .int md])), (pt, .inl (cB, 128, .inl f)), (pu, .inl (cI, 160, .inl lu)), (qd, .inr (0, [.ref qt, .int (nI z), .ref qu, .int md])), (qt, .inl (cE, 128, .inl f)), (qu, .inl (cC, 160, .inl du))]) (w1 := []) hP hD [] [0, 1, 2, 3, 4, 5] rfl rfl (by decide) (by decide) hk1 hFc hP1 hD1
  generalize H1 = H at hP hS ⊢
  have hP : va_P D ud_Cl [(pq, .inr (1, [.ref qd, .ref pt, .int (nI z), .ref pu, .int md])), (pt, .inl (cB, 128, .inl f)), (pu, .inl (cI, 160, .inl lu)), (qd, .inr (0, [.ref qt, .int (nI z), .ref qu, .int md])), (qt, .inl (cE, 128, .inl f)), (qu, .inl (cC, 160, .inl du))] H := hP
  have hD : va_D A [(pq, .inr (1, [.ref qd, .ref pt, .int (nI z), .ref pu, .int md])), (pt, .inl (cB, 128, .inl f)), (pu, .inl (cI, 160, .inl lu)), (qd, .inr (0, [.ref qt, .int (nI z), .ref qu, .int md])), (qt, .inl (cE, 128, .inl f)), (qu, .inl (cC, 160, .inl du))] := hD
  rw [ud_nd_I (by omega)] at hw
  subst hw
  refine lv_istore (lv' := [(5, .int (nI (ud_nd q))), (4, .int (nI q)), (0, .ref pq), (1, .int x), (2, .int v), (3, .int ro)]) hx hb dX0_letter_13 hl (by decide) rfl (fun ls hl => ?_)
  refine lv_iload_n hx hb dX0_letter_15 rfl (lv_at hl 3 rfl) ?_
  refine lv_aload_n hx hb dX0_letter_16 rfl (lv_at hl 2 rfl) ?_
  refine va_get (D := D) (ci := 1) (v := .int (nI z)) (C := RX0) (T := TX0) (N := 5) hx hb hts in_X0 hown hK hP 0 rfl rfl 2 (by decide) (hts _ q50) (fun _ h9 => h9) rfl dX0_letter_17 ?_
  refine lv_iconst (v := nI 1) hx hb dX0_letter_20 (by decide) ?_
  refine lv_iadd hx hb dX0_letter_21 ?_
  refine ud_top (v := nI (z + 1)) (nI_add _ _) ?_
  have hPc := hP.sub (ws' := []) [] rfl
  have hDc := hD.sub (ws' := []) [] (by decide) rfl
  have hKc := hK.sub (tys' := []) [] rfl
  have hFc := va_free (wc := []) hD hS hA [] rfl
  refine va_calli (va_runS (As := [.int x, .int (nI (z + 1))]) (rest := []) ⟨hx, hb, hml, hown, hts⟩ (ud_X0_from l D H.size x (z + 1) (by omega) (by omega)) (va_cwS 2 hts (lw_S q72 q73 q11 q74) rfl rfl rfl (by decide +kernel) ⟨Nat.le_of_ble_eq_true rfl, Nat.le_of_ble_eq_true rfl⟩) ⟨ud_fb, fun U hU hW => ⟨rfl, ud_go hPc hKc hDc U hU hW⟩⟩ rfl rfl hl.1 rfl (lv_room (Nat.le_of_ble_eq_true rfl)) dX0_letter_22 ⟨Nat.le_of_ble_eq_true rfl, Nat.le_of_ble_eq_true rfl⟩) hS (fun q _ h => hFc q h) hFc (fun r u t H1 locs ht hvm hw hB hz1 hk1 hS => ?_)
  obtain ⟨hP1, hK1, hD1⟩ := hB
  rw [ht] at hP1
  obtain ⟨hP, hD⟩ := va_join (wr := [(pq, .inr (1, [.ref qd, .ref pt, .int (nI z), .ref pu, .int md])), (pt, .inl (cB, 128, .inl f)), (pu, .inl (cI, 160, .inl lu)), (qd, .inr (0, [.ref qt, .int (nI z), .ref qu, .int md])), (qt, .inl (cE, 128, .inl f)), (qu, .inl (cC, 160, .inl du))]) (w1 := []) hP hD [] [0, 1, 2, 3, 4, 5] rfl rfl (by decide) (by decide) hk1 hFc hP1 hD1
  generalize H1 = H at hP hS ⊢
  have hP : va_P D ud_Cl [(pq, .inr (1, [.ref qd, .ref pt, .int (nI z), .ref pu, .int md])), (pt, .inl (cB, 128, .inl f)), (pu, .inl (cI, 160, .inl lu)), (qd, .inr (0, [.ref qt, .int (nI z), .ref qu, .int md])), (qt, .inl (cE, 128, .inl f)), (qu, .inl (cC, 160, .inl du))] H := hP
  have hD : va_D A [(pq, .inr (1, [.ref qd, .ref pt, .int (nI z), .ref pu, .int md])), (pt, .inl (cB, 128, .inl f)), (pu, .inl (cI, 160, .inl lu)), (qd, .inr (0, [.ref qt, .int (nI z), .ref qu, .int md])), (qt, .inl (cE, 128, .inl f)), (qu, .inl (cC, 160, .inl du))] := hD
  rw [hae] at hw
  subst hw
  refine lv_istore (lv' := [(6, .int (nI a)), (5, .int (nI (ud_nd q))), (4, .int (nI q)), (0, .ref pq), (1, .int x), (2, .int v), (3, .int ro)]) hx hb dX0_letter_25 hl (by decide) rfl (fun ls hl => ?_)
  refine lv_iload hx hb dX0_letter_27 (lv_at hl 0 rfl) ?_
  refine lv_iload hx hb dX0_letter_29 (lv_at hl 1 rfl) ?_
  refine lv_iadd hx hb dX0_letter_31 ?_
  refine ud_top (v := nI (a + ud_nd q)) (nI_add _ _) ?_
  refine lv_aload_n hx hb dX0_letter_32 rfl (lv_at hl 3 rfl) ?_
  refine va_get (D := D) (ci := 1) (v := .int (nI z)) (C := RX0) (T := TX0) (N := 5) hx hb hts in_X0 hown hK hP 0 rfl rfl 2 (by decide) (hts _ q50) (fun _ h9 => h9) rfl dX0_letter_33 ?_
  refine ud_le (tgt := 58) hx hb dX0_letter_36 (by decide) (by omega) (by omega) (fun c36 => ?_) (fun c36 => ?_)
  · refine lv_iconst (v := nI 0) hx hb dX0_letter_58 (by decide) ?_
    refine lv_istore (lv' := [(7, .int (nI 0)), (6, .int (nI a)), (5, .int (nI (ud_nd q))), (4, .int (nI q)), (0, .ref pq), (1, .int x), (2, .int v), (3, .int ro)]) hx hb dX0_letter_59 hl (by decide) rfl (fun ls hl => ?_)
    refine ud_ind (pc2 := 61) (stk := []) (J := fun (nn : Nat) (ls : Array Slot) (H : Heap) (locs : List Loc) => ∃ (i : Nat) (w : Nat → Int32), (ud_nd q + 1 ≤ i + nn) ∧ (i ≤ ud_nd q) ∧ (w = ud_eP f a q i) ∧ va_P D ud_Cl [(pq, .inr (1, [.ref qd, .ref pt, .int (nI z), .ref pu, .int md])), (pt, .inl (cB, 128, .inl w)), (pu, .inl (cI, 160, .inl lu)), (qd, .inr (0, [.ref qt, .int (nI z), .ref qu, .int md])), (qt, .inl (cE, 128, .inl f)), (qu, .inl (cC, 160, .inl du))] H ∧ va_D A [(pq, .inr (1, [.ref qd, .ref pt, .int (nI z), .ref pu, .int md])), (pt, .inl (cB, 128, .inl w)), (pu, .inl (cI, 160, .inl lu)), (qd, .inr (0, [.ref qt, .int (nI z), .ref qu, .int md])), (qt, .inl (cE, 128, .inl f)), (qu, .inl (cC, 160, .inl du))] ∧ va_S A s.heap H locs ∧ lv_has ls 9 [(0, .ref pq), (1, .int x), (2, .int v), (3, .int ro), (4, .int (nI q)), (5, .int (nI (ud_nd q))), (6, .int (nI a)), (7, .int (nI i))]) (fun ls H locs h => by obtain ⟨i, w, c61_m, c61_i, c61_w, -⟩ := h; omega) (ud_nd q + 1) ⟨0, f, by omega, by omega, (ud_eP_0 f a q).symm, hP, hD, hS, lv_sub hl [4, 5, 6, 7, 3, 2, 1, 0] rfl⟩ ?_
    intro nn ih61 ls H locs hJ
    obtain ⟨i, w, c61_m, c61_i, c61_w, hP, hD, hS, hl⟩ := hJ
    subst c61_w
    refine lv_iload hx hb dX0_letter_61 (lv_at hl 7 rfl) ?_
    refine lv_iload hx hb dX0_letter_63 (lv_at hl 5 rfl) ?_
    refine ud_ge (tgt := 164) hx hb dX0_letter_65 (by decide) (by omega) (by omega) (fun c65 => ?_) (fun c65 => ?_)
    · have hin : i = ud_nd q := by omega
      subst hin
      refine lv_iload hx hb dX0_letter_164 (lv_at hl 4 rfl) ?_
      refine lv_ldc (v := nI 55296) hx hb hown (hts _ q92) dX0_letter_166 ?_
      refine ud_lt (tgt := 182) hx hb dX0_letter_168 (by decide) (by omega) (by decide) (fun c168 => ?_) (fun c168 => ?_)
      · refine lv_iconst (v := 0) hx hb dX0_letter_182 (by decide) ?_
        refine lv_istore (lv' := [(7, .int 0), (0, .ref pq), (1, .int x), (2, .int v), (3, .int ro), (4, .int (nI q)), (5, .int (nI (ud_nd q))), (6, .int (nI a))]) hx hb dX0_letter_183 hl (by decide) rfl (fun ls hl => ?_)
        refine lv_aload_n hx hb dX0_letter_185 rfl (lv_at hl 1 rfl) ?_
        refine va_get (D := D) (ci := 1) (v := .ref qd) (C := RX0) (T := TX0) (N := 5) hx hb hts in_X0 hown hK hP 0 rfl rfl 0 (by decide) (hts _ q48) (fun _ h9 => h9) rfl dX0_letter_186 ?_
        refine lv_iload_n hx hb dX0_letter_189 rfl (lv_at hl 2 rfl) ?_
        refine lv_iload_n hx hb dX0_letter_190 rfl (lv_at hl 3 rfl) ?_
        have hPc := hP.sub (ws' := [(qd, .inr (0, [.ref qt, .int (nI z), .ref qu, .int md])), (qt, .inl (cE, 128, .inl f))]) [3, 4] rfl
        have hDc := hD.sub (ws' := [(qd, .inr (0, [.ref qt, .int (nI z), .ref qu, .int md])), (qt, .inl (cE, 128, .inl f))]) [3, 4] (by decide) rfl
        have hKc := hK.sub (tys' := [(cE, .byte)]) [2] rfl
        have hFc := va_free (wc := [(qd, .inr (0, [.ref qt, .int (nI z), .ref qu, .int md])), (qt, .inl (cE, 128, .inl f))]) hD hS hA [3, 4] rfl
        refine va_calli (va_runV (As := [.int x, .int v]) (rest := []) ⟨hx, hb, hml, hown, hts⟩ (ud_X1_letter l D H.size qd qt qu z cE md f hz x v) (cwV 2 hts (lw_V q150 q151 q152 q12 q153) rfl rfl rfl (by decide +kernel) ⟨Nat.le_of_ble_eq_true rfl, Nat.le_of_ble_eq_true rfl⟩) ⟨ud_fb, va_recv hKc hPc (ci := 0) (q0 := 0) rfl rfl, fun U hU hW => ⟨rfl, ud_go hPc hKc hDc U hU hW⟩⟩ rfl rfl hl.1 rfl (lv_room (Nat.le_of_ble_eq_true rfl)) dX0_letter_191 ⟨Nat.le_of_ble_eq_true rfl, Nat.le_of_ble_eq_true rfl⟩) hS (fun q _ h => hFc q h) hFc (fun r w2 t H1 locs ht hvm hw hB hz1 hk1 hS => ?_)
        rw [hae, hqe] at hw
        obtain ⟨hr1, hw1⟩ := hw.2 c36
        subst hr1
        rw [hw1] at hB
        obtain ⟨hP1, hK1, hD1⟩ := hB
        rw [ht] at hP1
        obtain ⟨hP, hD⟩ := va_join (wr := [(pq, .inr (1, [.ref qd, .ref pt, .int (nI z), .ref pu, .int md])), (pt, .inl (cB, 128, .inl (ud_eP f a q (ud_nd q)))), (pu, .inl (cI, 160, .inl lu)), (qu, .inl (cC, 160, .inl du))]) (w1 := [(qd, .inr (0, [.ref qt, .int (nI z), .ref qu, .int md])), (qt, .inl (cE, 128, .inl (ud_eP f a q (ud_nd q))))]) hP hD [3, 4] [0, 1, 2, 5] rfl rfl (by decide) (by decide) hk1 hFc hP1 hD1
        generalize H1 = H at hP hS ⊢
        have hP : va_P D ud_Cl [(pq, .inr (1, [.ref qd, .ref pt, .int (nI z), .ref pu, .int md])), (pt, .inl (cB, 128, .inl (ud_eP f a q (ud_nd q)))), (pu, .inl (cI, 160, .inl lu)), (qu, .inl (cC, 160, .inl du)), (qd, .inr (0, [.ref qt, .int (nI z), .ref qu, .int md])), (qt, .inl (cE, 128, .inl (ud_eP f a q (ud_nd q))))] H := hP
        have hD : va_D A [(pq, .inr (1, [.ref qd, .ref pt, .int (nI z), .ref pu, .int md])), (pt, .inl (cB, 128, .inl (ud_eP f a q (ud_nd q)))), (pu, .inl (cI, 160, .inl lu)), (qu, .inl (cC, 160, .inl du)), (qd, .inr (0, [.ref qt, .int (nI z), .ref qu, .int md])), (qt, .inl (cE, 128, .inl (ud_eP f a q (ud_nd q))))] := hD
        have hP := hP.sub (ws' := [(pq, .inr (1, [.ref qd, .ref pt, .int (nI z), .ref pu, .int md])), (pt, .inl (cB, 128, .inl (ud_eP f a q (ud_nd q)))), (pu, .inl (cI, 160, .inl lu)), (qd, .inr (0, [.ref qt, .int (nI z), .ref qu, .int md])), (qt, .inl (cE, 128, .inl (ud_eP f a q (ud_nd q)))), (qu, .inl (cC, 160, .inl du))]) [0, 1, 2, 4, 5, 3] rfl
        have hD := hD.sub (ws' := [(pq, .inr (1, [.ref qd, .ref pt, .int (nI z), .ref pu, .int md])), (pt, .inl (cB, 128, .inl (ud_eP f a q (ud_nd q)))), (pu, .inl (cI, 160, .inl lu)), (qd, .inr (0, [.ref qt, .int (nI z), .ref qu, .int md])), (qt, .inl (cE, 128, .inl (ud_eP f a q (ud_nd q)))), (qu, .inl (cC, 160, .inl du))]) [0, 1, 2, 4, 5, 3] (by decide) rfl
        refine lv_iload hx hb dX0_letter_194 (lv_at hl 6 rfl) ?_
        refine lv_icmp_ne (tgt := 251) hx hb dX0_letter_196 (by decide) (fun c196 => ?_) (fun c196 => ?_)
        · exact absurd rfl c196
        · refine lv_aload_n hx hb dX0_letter_199 rfl (lv_at hl 1 rfl) ?_
          refine lv_iload hx hb dX0_letter_200 (lv_at hl 7 rfl) ?_
          refine lv_iload hx hb dX0_letter_202 (lv_at hl 6 rfl) ?_
          refine lv_iconst (v := nI 2) hx hb dX0_letter_204 (by decide) ?_
          refine lv_iload_n hx hb dX0_letter_205 rfl (lv_at hl 4 rfl) ?_
          refine lv_bipush (v := nI 100) hx hb dX0_letter_206 (by decide) ?_
          have hPc := hP.sub (ws' := []) [] rfl
          have hDc := hD.sub (ws' := []) [] (by decide) rfl
          have hKc := hK.sub (tys' := []) [] rfl
          have hFc := va_free (wc := []) hD hS hA [] rfl
          refine va_calli (va_runS (As := [.int ro, .int (nI 100)]) (rest := [.int (nI 2), .int (nI (ud_nd q)), .int (nI a), .ref pq]) ⟨hx, hb, hml, hown, hts⟩ (ud_X0_from l D H.size ro 100 (by decide) (by decide)) (va_cwS 2 hts (lw_S q72 q73 q11 q74) rfl rfl rfl (by decide +kernel) ⟨Nat.le_of_ble_eq_true rfl, Nat.le_of_ble_eq_true rfl⟩) ⟨ud_fb, fun U hU hW => ⟨rfl, ud_go hPc hKc hDc U hU hW⟩⟩ rfl rfl hl.1 rfl (lv_room (Nat.le_of_ble_eq_true rfl)) dX0_letter_208 ⟨Nat.le_of_ble_eq_true rfl, Nat.le_of_ble_eq_true rfl⟩) hS (fun q _ h => hFc q h) hFc (fun r u t H1 locs ht hvm hw hB hz1 hk1 hS => ?_)
          obtain ⟨hP1, hK1, hD1⟩ := hB
          rw [ht] at hP1
          obtain ⟨hP, hD⟩ := va_join (wr := [(pq, .inr (1, [.ref qd, .ref pt, .int (nI z), .ref pu, .int md])), (pt, .inl (cB, 128, .inl (ud_eP f a q (ud_nd q)))), (pu, .inl (cI, 160, .inl lu)), (qd, .inr (0, [.ref qt, .int (nI z), .ref qu, .int md])), (qt, .inl (cE, 128, .inl (ud_eP f a q (ud_nd q)))), (qu, .inl (cC, 160, .inl du))]) (w1 := []) hP hD [] [0, 1, 2, 3, 4, 5] rfl rfl (by decide) (by decide) hk1 hFc hP1 hD1
          generalize H1 = H at hP hS ⊢
          have hP : va_P D ud_Cl [(pq, .inr (1, [.ref qd, .ref pt, .int (nI z), .ref pu, .int md])), (pt, .inl (cB, 128, .inl (ud_eP f a q (ud_nd q)))), (pu, .inl (cI, 160, .inl lu)), (qd, .inr (0, [.ref qt, .int (nI z), .ref qu, .int md])), (qt, .inl (cE, 128, .inl (ud_eP f a q (ud_nd q)))), (qu, .inl (cC, 160, .inl du))] H := hP
          have hD : va_D A [(pq, .inr (1, [.ref qd, .ref pt, .int (nI z), .ref pu, .int md])), (pt, .inl (cB, 128, .inl (ud_eP f a q (ud_nd q)))), (pu, .inl (cI, 160, .inl lu)), (qd, .inr (0, [.ref qt, .int (nI z), .ref qu, .int md])), (qt, .inl (cE, 128, .inl (ud_eP f a q (ud_nd q)))), (qu, .inl (cC, 160, .inl du))] := hD
          subst hw
          refine lv_iadd hx hb dX0_letter_211 ?_
          refine ud_top (v := nI (2 + ud_fM ro 100)) (nI_add _ _) ?_
          refine lv_iload_n hx hb dX0_letter_212 rfl (lv_at hl 4 rfl) ?_
          have hPc := hP.sub (ws' := [(pq, .inr (1, [.ref qd, .ref pt, .int (nI z), .ref pu, .int md])), (pt, .inl (cB, 128, .inl (ud_eP f a q (ud_nd q)))), (pu, .inl (cI, 160, .inl lu)), (qd, .inr (0, [.ref qt, .int (nI z), .ref qu, .int md])), (qt, .inl (cE, 128, .inl (ud_eP f a q (ud_nd q)))), (qu, .inl (cC, 160, .inl du))]) [0, 1, 2, 3, 4, 5] rfl
          have hDc := hD.sub (ws' := [(pq, .inr (1, [.ref qd, .ref pt, .int (nI z), .ref pu, .int md])), (pt, .inl (cB, 128, .inl (ud_eP f a q (ud_nd q)))), (pu, .inl (cI, 160, .inl lu)), (qd, .inr (0, [.ref qt, .int (nI z), .ref qu, .int md])), (qt, .inl (cE, 128, .inl (ud_eP f a q (ud_nd q)))), (qu, .inl (cC, 160, .inl du))]) [0, 1, 2, 3, 4, 5] (by decide) rfl
          have hKc := hK.sub (tys' := [(cB, .byte), (cI, .int), (cE, .byte), (cC, .char)]) [0, 1, 2, 3] rfl
          have hFc := va_free (wc := [(pq, .inr (1, [.ref qd, .ref pt, .int (nI z), .ref pu, .int md])), (pt, .inl (cB, 128, .inl (ud_eP f a q (ud_nd q)))), (pu, .inl (cI, 160, .inl lu)), (qd, .inr (0, [.ref qt, .int (nI z), .ref qu, .int md])), (qt, .inl (cE, 128, .inl (ud_eP f a q (ud_nd q)))), (qu, .inl (cC, 160, .inl du))]) hD hS hA [0, 1, 2, 3, 4, 5] rfl
          refine va_calli (va_runV (As := [.int (nI a), .int (nI (ud_nd q)), .int (nI (2 + ud_fM ro 100)), .int ro]) (rest := []) ⟨hx, hb, hml, hown, hts⟩ (ud_X0_turns l D H.size t1 t2 pq pt pu qd qt qu z cB cI cE cC md (ud_eP f a q (ud_nd q)) lu du hz (ud_eP_B hf a q (ud_nd q)) (nI a) (nI (ud_nd q)) (nI (2 + ud_fM ro 100)) ro) (cwV 4 hts (lw_V q68 q70 qs0 q11 q71) rfl rfl rfl (by decide +kernel) ⟨Nat.le_of_ble_eq_true rfl, Nat.le_of_ble_eq_true rfl⟩) ⟨ud_fbt, va_recv hKc hPc (ci := 1) (q0 := 0) rfl rfl, fun U hU hW => ⟨rfl, ud_got hPc hKc hDc hTb hS hFc U hU hW⟩⟩ rfl rfl hl.1 rfl (lv_room (Nat.le_of_ble_eq_true rfl)) dX0_letter_213 ⟨Nat.le_of_ble_eq_true rfl, Nat.le_of_ble_eq_true rfl⟩) hS (fun q _ h => hFc q h) hFc (fun rt w5 t H1 locs ht hvm hw hB hz1 hk1 hS => ?_)
          obtain ⟨md2, lu2, du2⟩ := w5
          rw [ud_fM_nI (show a < z + 1 by omega) (by omega), ud_fM_nI (show ud_nd q < z - a + 1 by omega) (by omega), ud_fM_nI (show 2 + ud_fM ro 100 < 161 by omega) (by decide)] at hw
          obtain ⟨hr1, hmk2, hw2⟩ := hw
          subst hr1
          have hlet : md2 = if 55296 ≤ q ∧ q ≤ 57343 then -1 else if 65535 < q then 2 else 1 := ud_letter hq (by omega) hw2
          obtain ⟨hP1, hK1, hD1⟩ := hB
          rw [ht] at hP1
          obtain ⟨hP, hD⟩ := va_join (wr := []) (w1 := [(pq, .inr (1, [.ref qd, .ref pt, .int (nI z), .ref pu, .int md2])), (pt, .inl (cB, 128, .inl (ud_eP f a q (ud_nd q)))), (pu, .inl (cI, 160, .inl lu2)), (qd, .inr (0, [.ref qt, .int (nI z), .ref qu, .int md2])), (qt, .inl (cE, 128, .inl (ud_eP f a q (ud_nd q)))), (qu, .inl (cC, 160, .inl du2))]) hP hD [0, 1, 2, 3, 4, 5] [] rfl rfl (by decide) (by decide) hk1 hFc hP1 hD1
          generalize H1 = H at hP hS ⊢
          have hP : va_P D ud_Cl [(pq, .inr (1, [.ref qd, .ref pt, .int (nI z), .ref pu, .int md2])), (pt, .inl (cB, 128, .inl (ud_eP f a q (ud_nd q)))), (pu, .inl (cI, 160, .inl lu2)), (qd, .inr (0, [.ref qt, .int (nI z), .ref qu, .int md2])), (qt, .inl (cE, 128, .inl (ud_eP f a q (ud_nd q)))), (qu, .inl (cC, 160, .inl du2))] H := hP
          have hD : va_D A [(pq, .inr (1, [.ref qd, .ref pt, .int (nI z), .ref pu, .int md2])), (pt, .inl (cB, 128, .inl (ud_eP f a q (ud_nd q)))), (pu, .inl (cI, 160, .inl lu2)), (qd, .inr (0, [.ref qt, .int (nI z), .ref qu, .int md2])), (qt, .inl (cE, 128, .inl (ud_eP f a q (ud_nd q)))), (qu, .inl (cC, 160, .inl du2))] := hD
          refine W.widen (k := 2) (n := 288) (by omega) (by omega) ?_
          refine lv_if_eq (tgt := 251) hx hb dX0_letter_216 (by decide) (fun c216 => ?_) (fun c216 => ?_)
          · exact absurd c216 (by decide)
          · refine lv_aload_n hx hb dX0_letter_219 rfl (lv_at hl 1 rfl) ?_
            refine va_get (D := D) (ci := 1) (v := .int md2) (C := RX0) (T := TX0) (N := 5) hx hb hts in_X0 hown hK hP 0 rfl rfl 4 (by decide) (hts _ q52) (fun _ h9 => h9) rfl dX0_letter_220 ?_
            refine lv_iload hx hb dX0_letter_223 (lv_at hl 0 rfl) ?_
            refine lv_if_eq (tgt := 232) hx hb dX0_letter_225 (by decide) (fun c225 => ?_) (fun c225 => ?_)
            · refine lv_iload hx hb dX0_letter_232 (lv_at hl 5 rfl) ?_
              refine lv_ldc (v := nI 65535) hx hb hown (hts _ q94) dX0_letter_234 ?_
              refine ud_le (tgt := 243) hx hb dX0_letter_236 (by decide) (by omega) (by decide) (fun c236 => ?_) (fun c236 => ?_)
              · refine lv_iconst (v := 1) hx hb dX0_letter_243 (by decide) ?_
                refine lv_icmp_ne (tgt := 251) hx hb dX0_letter_244 (by decide) (fun c244 => ?_) (fun c244 => ?_)
                · exact absurd (hlet.trans ((if_neg (by omega)).trans (if_neg (by omega)))) c244
                · refine lv_iconst (v := 1) hx hb dX0_letter_247 (by decide) ?_
                  refine lv_goto (tgt := 252) hx hb dX0_letter_248 (by decide) ?_
                  have hP9 := hP.sub (ws' := [(pq, .inr (1, [.ref qd, .ref pt, .int (nI z), .ref pu, .int md2])), (pt, .inl (cB, 128, .inl (ud_eP f a q (ud_nd q)))), (pu, .inl (cI, 160, .inl lu2)), (qd, .inr (0, [.ref qt, .int (nI z), .ref qu, .int md2])), (qt, .inl (cE, 128, .inl (ud_eP f a q (ud_nd q)))), (qu, .inl (cC, 160, .inl du2))]) [0, 1, 2, 3, 4, 5] rfl
                  have hD9 := hD.sub (ws' := [(pq, .inr (1, [.ref qd, .ref pt, .int (nI z), .ref pu, .int md2])), (pt, .inl (cB, 128, .inl (ud_eP f a q (ud_nd q)))), (pu, .inl (cI, 160, .inl lu2)), (qd, .inr (0, [.ref qt, .int (nI z), .ref qu, .int md2])), (qt, .inl (cE, 128, .inl (ud_eP f a q (ud_nd q)))), (qu, .inl (cC, 160, .inl du2))]) [0, 1, 2, 3, 4, 5] (by decide) rfl
                  have hK9 := hK.sub (tys' := [(cB, .byte), (cI, .int), (cE, .byte), (cC, .char)]) [0, 1, 2, 3] rfl
                  refine W.widen (k := 2) (n := 288) (by omega) (by omega) ?_
                  exact W.zret (v := 1) hx hb hr rfl (fun t ht hW => ⟨⟨1, (ud_eP f a q (ud_nd q), md2, lu2, du2), rfl, ⟨rfl, ud_eP_B hf _ _ _, hmk2⟩, ud_end ht hW hP9 hK9 hD9⟩, hS.F ht⟩) hS.2.2 dX0_letter_252
              · refine lv_iconst (v := 2) hx hb dX0_letter_239 (by decide) ?_
                refine lv_goto (tgt := 244) hx hb dX0_letter_240 (by decide) ?_
                refine lv_icmp_ne (tgt := 251) hx hb dX0_letter_244 (by decide) (fun c244 => ?_) (fun c244 => ?_)
                · exact absurd (hlet.trans ((if_neg (by omega)).trans (if_pos c236))) c244
                · refine lv_iconst (v := 1) hx hb dX0_letter_247 (by decide) ?_
                  refine lv_goto (tgt := 252) hx hb dX0_letter_248 (by decide) ?_
                  have hP9 := hP.sub (ws' := [(pq, .inr (1, [.ref qd, .ref pt, .int (nI z), .ref pu, .int md2])), (pt, .inl (cB, 128, .inl (ud_eP f a q (ud_nd q)))), (pu, .inl (cI, 160, .inl lu2)), (qd, .inr (0, [.ref qt, .int (nI z), .ref qu, .int md2])), (qt, .inl (cE, 128, .inl (ud_eP f a q (ud_nd q)))), (qu, .inl (cC, 160, .inl du2))]) [0, 1, 2, 3, 4, 5] rfl
                  have hD9 := hD.sub (ws' := [(pq, .inr (1, [.ref qd, .ref pt, .int (nI z), .ref pu, .int md2])), (pt, .inl (cB, 128, .inl (ud_eP f a q (ud_nd q)))), (pu, .inl (cI, 160, .inl lu2)), (qd, .inr (0, [.ref qt, .int (nI z), .ref qu, .int md2])), (qt, .inl (cE, 128, .inl (ud_eP f a q (ud_nd q)))), (qu, .inl (cC, 160, .inl du2))]) [0, 1, 2, 3, 4, 5] (by decide) rfl
                  have hK9 := hK.sub (tys' := [(cB, .byte), (cI, .int), (cE, .byte), (cC, .char)]) [0, 1, 2, 3] rfl
                  refine W.widen (k := 2) (n := 288) (by omega) (by omega) ?_
                  exact W.zret (v := 1) hx hb hr rfl (fun t ht hW => ⟨⟨1, (ud_eP f a q (ud_nd q), md2, lu2, du2), rfl, ⟨rfl, ud_eP_B hf _ _ _, hmk2⟩, ud_end ht hW hP9 hK9 hD9⟩, hS.F ht⟩) hS.2.2 dX0_letter_252
            · exact absurd rfl c225
      · refine lv_iload hx hb dX0_letter_171 (lv_at hl 4 rfl) ?_
        refine lv_ldc (v := nI 57343) hx hb hown (hts _ q93) dX0_letter_173 ?_
        refine ud_gt (tgt := 182) hx hb dX0_letter_175 (by decide) (by omega) (by decide) (fun c175 => ?_) (fun c175 => ?_)
        · refine lv_iconst (v := 0) hx hb dX0_letter_182 (by decide) ?_
          refine lv_istore (lv' := [(7, .int 0), (0, .ref pq), (1, .int x), (2, .int v), (3, .int ro), (4, .int (nI q)), (5, .int (nI (ud_nd q))), (6, .int (nI a))]) hx hb dX0_letter_183 hl (by decide) rfl (fun ls hl => ?_)
          refine lv_aload_n hx hb dX0_letter_185 rfl (lv_at hl 1 rfl) ?_
          refine va_get (D := D) (ci := 1) (v := .ref qd) (C := RX0) (T := TX0) (N := 5) hx hb hts in_X0 hown hK hP 0 rfl rfl 0 (by decide) (hts _ q48) (fun _ h9 => h9) rfl dX0_letter_186 ?_
          refine lv_iload_n hx hb dX0_letter_189 rfl (lv_at hl 2 rfl) ?_
          refine lv_iload_n hx hb dX0_letter_190 rfl (lv_at hl 3 rfl) ?_
          have hPc := hP.sub (ws' := [(qd, .inr (0, [.ref qt, .int (nI z), .ref qu, .int md])), (qt, .inl (cE, 128, .inl f))]) [3, 4] rfl
          have hDc := hD.sub (ws' := [(qd, .inr (0, [.ref qt, .int (nI z), .ref qu, .int md])), (qt, .inl (cE, 128, .inl f))]) [3, 4] (by decide) rfl
          have hKc := hK.sub (tys' := [(cE, .byte)]) [2] rfl
          have hFc := va_free (wc := [(qd, .inr (0, [.ref qt, .int (nI z), .ref qu, .int md])), (qt, .inl (cE, 128, .inl f))]) hD hS hA [3, 4] rfl
          refine va_calli (va_runV (As := [.int x, .int v]) (rest := []) ⟨hx, hb, hml, hown, hts⟩ (ud_X1_letter l D H.size qd qt qu z cE md f hz x v) (cwV 2 hts (lw_V q150 q151 q152 q12 q153) rfl rfl rfl (by decide +kernel) ⟨Nat.le_of_ble_eq_true rfl, Nat.le_of_ble_eq_true rfl⟩) ⟨ud_fb, va_recv hKc hPc (ci := 0) (q0 := 0) rfl rfl, fun U hU hW => ⟨rfl, ud_go hPc hKc hDc U hU hW⟩⟩ rfl rfl hl.1 rfl (lv_room (Nat.le_of_ble_eq_true rfl)) dX0_letter_191 ⟨Nat.le_of_ble_eq_true rfl, Nat.le_of_ble_eq_true rfl⟩) hS (fun q _ h => hFc q h) hFc (fun r w2 t H1 locs ht hvm hw hB hz1 hk1 hS => ?_)
          rw [hae, hqe] at hw
          obtain ⟨hr1, hw1⟩ := hw.2 c36
          subst hr1
          rw [hw1] at hB
          obtain ⟨hP1, hK1, hD1⟩ := hB
          rw [ht] at hP1
          obtain ⟨hP, hD⟩ := va_join (wr := [(pq, .inr (1, [.ref qd, .ref pt, .int (nI z), .ref pu, .int md])), (pt, .inl (cB, 128, .inl (ud_eP f a q (ud_nd q)))), (pu, .inl (cI, 160, .inl lu)), (qu, .inl (cC, 160, .inl du))]) (w1 := [(qd, .inr (0, [.ref qt, .int (nI z), .ref qu, .int md])), (qt, .inl (cE, 128, .inl (ud_eP f a q (ud_nd q))))]) hP hD [3, 4] [0, 1, 2, 5] rfl rfl (by decide) (by decide) hk1 hFc hP1 hD1
          generalize H1 = H at hP hS ⊢
          have hP : va_P D ud_Cl [(pq, .inr (1, [.ref qd, .ref pt, .int (nI z), .ref pu, .int md])), (pt, .inl (cB, 128, .inl (ud_eP f a q (ud_nd q)))), (pu, .inl (cI, 160, .inl lu)), (qu, .inl (cC, 160, .inl du)), (qd, .inr (0, [.ref qt, .int (nI z), .ref qu, .int md])), (qt, .inl (cE, 128, .inl (ud_eP f a q (ud_nd q))))] H := hP
          have hD : va_D A [(pq, .inr (1, [.ref qd, .ref pt, .int (nI z), .ref pu, .int md])), (pt, .inl (cB, 128, .inl (ud_eP f a q (ud_nd q)))), (pu, .inl (cI, 160, .inl lu)), (qu, .inl (cC, 160, .inl du)), (qd, .inr (0, [.ref qt, .int (nI z), .ref qu, .int md])), (qt, .inl (cE, 128, .inl (ud_eP f a q (ud_nd q))))] := hD
          have hP := hP.sub (ws' := [(pq, .inr (1, [.ref qd, .ref pt, .int (nI z), .ref pu, .int md])), (pt, .inl (cB, 128, .inl (ud_eP f a q (ud_nd q)))), (pu, .inl (cI, 160, .inl lu)), (qd, .inr (0, [.ref qt, .int (nI z), .ref qu, .int md])), (qt, .inl (cE, 128, .inl (ud_eP f a q (ud_nd q)))), (qu, .inl (cC, 160, .inl du))]) [0, 1, 2, 4, 5, 3] rfl
          have hD := hD.sub (ws' := [(pq, .inr (1, [.ref qd, .ref pt, .int (nI z), .ref pu, .int md])), (pt, .inl (cB, 128, .inl (ud_eP f a q (ud_nd q)))), (pu, .inl (cI, 160, .inl lu)), (qd, .inr (0, [.ref qt, .int (nI z), .ref qu, .int md])), (qt, .inl (cE, 128, .inl (ud_eP f a q (ud_nd q)))), (qu, .inl (cC, 160, .inl du))]) [0, 1, 2, 4, 5, 3] (by decide) rfl
          refine lv_iload hx hb dX0_letter_194 (lv_at hl 6 rfl) ?_
          refine lv_icmp_ne (tgt := 251) hx hb dX0_letter_196 (by decide) (fun c196 => ?_) (fun c196 => ?_)
          · exact absurd rfl c196
          · refine lv_aload_n hx hb dX0_letter_199 rfl (lv_at hl 1 rfl) ?_
            refine lv_iload hx hb dX0_letter_200 (lv_at hl 7 rfl) ?_
            refine lv_iload hx hb dX0_letter_202 (lv_at hl 6 rfl) ?_
            refine lv_iconst (v := nI 2) hx hb dX0_letter_204 (by decide) ?_
            refine lv_iload_n hx hb dX0_letter_205 rfl (lv_at hl 4 rfl) ?_
            refine lv_bipush (v := nI 100) hx hb dX0_letter_206 (by decide) ?_
            have hPc := hP.sub (ws' := []) [] rfl
            have hDc := hD.sub (ws' := []) [] (by decide) rfl
            have hKc := hK.sub (tys' := []) [] rfl
            have hFc := va_free (wc := []) hD hS hA [] rfl
            refine va_calli (va_runS (As := [.int ro, .int (nI 100)]) (rest := [.int (nI 2), .int (nI (ud_nd q)), .int (nI a), .ref pq]) ⟨hx, hb, hml, hown, hts⟩ (ud_X0_from l D H.size ro 100 (by decide) (by decide)) (va_cwS 2 hts (lw_S q72 q73 q11 q74) rfl rfl rfl (by decide +kernel) ⟨Nat.le_of_ble_eq_true rfl, Nat.le_of_ble_eq_true rfl⟩) ⟨ud_fb, fun U hU hW => ⟨rfl, ud_go hPc hKc hDc U hU hW⟩⟩ rfl rfl hl.1 rfl (lv_room (Nat.le_of_ble_eq_true rfl)) dX0_letter_208 ⟨Nat.le_of_ble_eq_true rfl, Nat.le_of_ble_eq_true rfl⟩) hS (fun q _ h => hFc q h) hFc (fun r u t H1 locs ht hvm hw hB hz1 hk1 hS => ?_)
            obtain ⟨hP1, hK1, hD1⟩ := hB
            rw [ht] at hP1
            obtain ⟨hP, hD⟩ := va_join (wr := [(pq, .inr (1, [.ref qd, .ref pt, .int (nI z), .ref pu, .int md])), (pt, .inl (cB, 128, .inl (ud_eP f a q (ud_nd q)))), (pu, .inl (cI, 160, .inl lu)), (qd, .inr (0, [.ref qt, .int (nI z), .ref qu, .int md])), (qt, .inl (cE, 128, .inl (ud_eP f a q (ud_nd q)))), (qu, .inl (cC, 160, .inl du))]) (w1 := []) hP hD [] [0, 1, 2, 3, 4, 5] rfl rfl (by decide) (by decide) hk1 hFc hP1 hD1
            generalize H1 = H at hP hS ⊢
            have hP : va_P D ud_Cl [(pq, .inr (1, [.ref qd, .ref pt, .int (nI z), .ref pu, .int md])), (pt, .inl (cB, 128, .inl (ud_eP f a q (ud_nd q)))), (pu, .inl (cI, 160, .inl lu)), (qd, .inr (0, [.ref qt, .int (nI z), .ref qu, .int md])), (qt, .inl (cE, 128, .inl (ud_eP f a q (ud_nd q)))), (qu, .inl (cC, 160, .inl du))] H := hP
            have hD : va_D A [(pq, .inr (1, [.ref qd, .ref pt, .int (nI z), .ref pu, .int md])), (pt, .inl (cB, 128, .inl (ud_eP f a q (ud_nd q)))), (pu, .inl (cI, 160, .inl lu)), (qd, .inr (0, [.ref qt, .int (nI z), .ref qu, .int md])), (qt, .inl (cE, 128, .inl (ud_eP f a q (ud_nd q)))), (qu, .inl (cC, 160, .inl du))] := hD
            subst hw
            refine lv_iadd hx hb dX0_letter_211 ?_
            refine ud_top (v := nI (2 + ud_fM ro 100)) (nI_add _ _) ?_
            refine lv_iload_n hx hb dX0_letter_212 rfl (lv_at hl 4 rfl) ?_
            have hPc := hP.sub (ws' := [(pq, .inr (1, [.ref qd, .ref pt, .int (nI z), .ref pu, .int md])), (pt, .inl (cB, 128, .inl (ud_eP f a q (ud_nd q)))), (pu, .inl (cI, 160, .inl lu)), (qd, .inr (0, [.ref qt, .int (nI z), .ref qu, .int md])), (qt, .inl (cE, 128, .inl (ud_eP f a q (ud_nd q)))), (qu, .inl (cC, 160, .inl du))]) [0, 1, 2, 3, 4, 5] rfl
            have hDc := hD.sub (ws' := [(pq, .inr (1, [.ref qd, .ref pt, .int (nI z), .ref pu, .int md])), (pt, .inl (cB, 128, .inl (ud_eP f a q (ud_nd q)))), (pu, .inl (cI, 160, .inl lu)), (qd, .inr (0, [.ref qt, .int (nI z), .ref qu, .int md])), (qt, .inl (cE, 128, .inl (ud_eP f a q (ud_nd q)))), (qu, .inl (cC, 160, .inl du))]) [0, 1, 2, 3, 4, 5] (by decide) rfl
            have hKc := hK.sub (tys' := [(cB, .byte), (cI, .int), (cE, .byte), (cC, .char)]) [0, 1, 2, 3] rfl
            have hFc := va_free (wc := [(pq, .inr (1, [.ref qd, .ref pt, .int (nI z), .ref pu, .int md])), (pt, .inl (cB, 128, .inl (ud_eP f a q (ud_nd q)))), (pu, .inl (cI, 160, .inl lu)), (qd, .inr (0, [.ref qt, .int (nI z), .ref qu, .int md])), (qt, .inl (cE, 128, .inl (ud_eP f a q (ud_nd q)))), (qu, .inl (cC, 160, .inl du))]) hD hS hA [0, 1, 2, 3, 4, 5] rfl
            refine va_calli (va_runV (As := [.int (nI a), .int (nI (ud_nd q)), .int (nI (2 + ud_fM ro 100)), .int ro]) (rest := []) ⟨hx, hb, hml, hown, hts⟩ (ud_X0_turns l D H.size t1 t2 pq pt pu qd qt qu z cB cI cE cC md (ud_eP f a q (ud_nd q)) lu du hz (ud_eP_B hf a q (ud_nd q)) (nI a) (nI (ud_nd q)) (nI (2 + ud_fM ro 100)) ro) (cwV 4 hts (lw_V q68 q70 qs0 q11 q71) rfl rfl rfl (by decide +kernel) ⟨Nat.le_of_ble_eq_true rfl, Nat.le_of_ble_eq_true rfl⟩) ⟨ud_fbt, va_recv hKc hPc (ci := 1) (q0 := 0) rfl rfl, fun U hU hW => ⟨rfl, ud_got hPc hKc hDc hTb hS hFc U hU hW⟩⟩ rfl rfl hl.1 rfl (lv_room (Nat.le_of_ble_eq_true rfl)) dX0_letter_213 ⟨Nat.le_of_ble_eq_true rfl, Nat.le_of_ble_eq_true rfl⟩) hS (fun q _ h => hFc q h) hFc (fun rt w5 t H1 locs ht hvm hw hB hz1 hk1 hS => ?_)
            obtain ⟨md2, lu2, du2⟩ := w5
            rw [ud_fM_nI (show a < z + 1 by omega) (by omega), ud_fM_nI (show ud_nd q < z - a + 1 by omega) (by omega), ud_fM_nI (show 2 + ud_fM ro 100 < 161 by omega) (by decide)] at hw
            obtain ⟨hr1, hmk2, hw2⟩ := hw
            subst hr1
            have hlet : md2 = if 55296 ≤ q ∧ q ≤ 57343 then -1 else if 65535 < q then 2 else 1 := ud_letter hq (by omega) hw2
            obtain ⟨hP1, hK1, hD1⟩ := hB
            rw [ht] at hP1
            obtain ⟨hP, hD⟩ := va_join (wr := []) (w1 := [(pq, .inr (1, [.ref qd, .ref pt, .int (nI z), .ref pu, .int md2])), (pt, .inl (cB, 128, .inl (ud_eP f a q (ud_nd q)))), (pu, .inl (cI, 160, .inl lu2)), (qd, .inr (0, [.ref qt, .int (nI z), .ref qu, .int md2])), (qt, .inl (cE, 128, .inl (ud_eP f a q (ud_nd q)))), (qu, .inl (cC, 160, .inl du2))]) hP hD [0, 1, 2, 3, 4, 5] [] rfl rfl (by decide) (by decide) hk1 hFc hP1 hD1
            generalize H1 = H at hP hS ⊢
            have hP : va_P D ud_Cl [(pq, .inr (1, [.ref qd, .ref pt, .int (nI z), .ref pu, .int md2])), (pt, .inl (cB, 128, .inl (ud_eP f a q (ud_nd q)))), (pu, .inl (cI, 160, .inl lu2)), (qd, .inr (0, [.ref qt, .int (nI z), .ref qu, .int md2])), (qt, .inl (cE, 128, .inl (ud_eP f a q (ud_nd q)))), (qu, .inl (cC, 160, .inl du2))] H := hP
            have hD : va_D A [(pq, .inr (1, [.ref qd, .ref pt, .int (nI z), .ref pu, .int md2])), (pt, .inl (cB, 128, .inl (ud_eP f a q (ud_nd q)))), (pu, .inl (cI, 160, .inl lu2)), (qd, .inr (0, [.ref qt, .int (nI z), .ref qu, .int md2])), (qt, .inl (cE, 128, .inl (ud_eP f a q (ud_nd q)))), (qu, .inl (cC, 160, .inl du2))] := hD
            refine W.widen (k := 2) (n := 288) (by omega) (by omega) ?_
            refine lv_if_eq (tgt := 251) hx hb dX0_letter_216 (by decide) (fun c216 => ?_) (fun c216 => ?_)
            · exact absurd c216 (by decide)
            · refine lv_aload_n hx hb dX0_letter_219 rfl (lv_at hl 1 rfl) ?_
              refine va_get (D := D) (ci := 1) (v := .int md2) (C := RX0) (T := TX0) (N := 5) hx hb hts in_X0 hown hK hP 0 rfl rfl 4 (by decide) (hts _ q52) (fun _ h9 => h9) rfl dX0_letter_220 ?_
              refine lv_iload hx hb dX0_letter_223 (lv_at hl 0 rfl) ?_
              refine lv_if_eq (tgt := 232) hx hb dX0_letter_225 (by decide) (fun c225 => ?_) (fun c225 => ?_)
              · refine lv_iload hx hb dX0_letter_232 (lv_at hl 5 rfl) ?_
                refine lv_ldc (v := nI 65535) hx hb hown (hts _ q94) dX0_letter_234 ?_
                refine ud_le (tgt := 243) hx hb dX0_letter_236 (by decide) (by omega) (by decide) (fun c236 => ?_) (fun c236 => ?_)
                · refine lv_iconst (v := 1) hx hb dX0_letter_243 (by decide) ?_
                  refine lv_icmp_ne (tgt := 251) hx hb dX0_letter_244 (by decide) (fun c244 => ?_) (fun c244 => ?_)
                  · exact absurd (hlet.trans ((if_neg (by omega)).trans (if_neg (by omega)))) c244
                  · refine lv_iconst (v := 1) hx hb dX0_letter_247 (by decide) ?_
                    refine lv_goto (tgt := 252) hx hb dX0_letter_248 (by decide) ?_
                    have hP9 := hP.sub (ws' := [(pq, .inr (1, [.ref qd, .ref pt, .int (nI z), .ref pu, .int md2])), (pt, .inl (cB, 128, .inl (ud_eP f a q (ud_nd q)))), (pu, .inl (cI, 160, .inl lu2)), (qd, .inr (0, [.ref qt, .int (nI z), .ref qu, .int md2])), (qt, .inl (cE, 128, .inl (ud_eP f a q (ud_nd q)))), (qu, .inl (cC, 160, .inl du2))]) [0, 1, 2, 3, 4, 5] rfl
                    have hD9 := hD.sub (ws' := [(pq, .inr (1, [.ref qd, .ref pt, .int (nI z), .ref pu, .int md2])), (pt, .inl (cB, 128, .inl (ud_eP f a q (ud_nd q)))), (pu, .inl (cI, 160, .inl lu2)), (qd, .inr (0, [.ref qt, .int (nI z), .ref qu, .int md2])), (qt, .inl (cE, 128, .inl (ud_eP f a q (ud_nd q)))), (qu, .inl (cC, 160, .inl du2))]) [0, 1, 2, 3, 4, 5] (by decide) rfl
                    have hK9 := hK.sub (tys' := [(cB, .byte), (cI, .int), (cE, .byte), (cC, .char)]) [0, 1, 2, 3] rfl
                    refine W.widen (k := 2) (n := 288) (by omega) (by omega) ?_
                    exact W.zret (v := 1) hx hb hr rfl (fun t ht hW => ⟨⟨1, (ud_eP f a q (ud_nd q), md2, lu2, du2), rfl, ⟨rfl, ud_eP_B hf _ _ _, hmk2⟩, ud_end ht hW hP9 hK9 hD9⟩, hS.F ht⟩) hS.2.2 dX0_letter_252
                · refine lv_iconst (v := 2) hx hb dX0_letter_239 (by decide) ?_
                  refine lv_goto (tgt := 244) hx hb dX0_letter_240 (by decide) ?_
                  refine lv_icmp_ne (tgt := 251) hx hb dX0_letter_244 (by decide) (fun c244 => ?_) (fun c244 => ?_)
                  · exact absurd (hlet.trans ((if_neg (by omega)).trans (if_pos c236))) c244
                  · refine lv_iconst (v := 1) hx hb dX0_letter_247 (by decide) ?_
                    refine lv_goto (tgt := 252) hx hb dX0_letter_248 (by decide) ?_
                    have hP9 := hP.sub (ws' := [(pq, .inr (1, [.ref qd, .ref pt, .int (nI z), .ref pu, .int md2])), (pt, .inl (cB, 128, .inl (ud_eP f a q (ud_nd q)))), (pu, .inl (cI, 160, .inl lu2)), (qd, .inr (0, [.ref qt, .int (nI z), .ref qu, .int md2])), (qt, .inl (cE, 128, .inl (ud_eP f a q (ud_nd q)))), (qu, .inl (cC, 160, .inl du2))]) [0, 1, 2, 3, 4, 5] rfl
                    have hD9 := hD.sub (ws' := [(pq, .inr (1, [.ref qd, .ref pt, .int (nI z), .ref pu, .int md2])), (pt, .inl (cB, 128, .inl (ud_eP f a q (ud_nd q)))), (pu, .inl (cI, 160, .inl lu2)), (qd, .inr (0, [.ref qt, .int (nI z), .ref qu, .int md2])), (qt, .inl (cE, 128, .inl (ud_eP f a q (ud_nd q)))), (qu, .inl (cC, 160, .inl du2))]) [0, 1, 2, 3, 4, 5] (by decide) rfl
                    have hK9 := hK.sub (tys' := [(cB, .byte), (cI, .int), (cE, .byte), (cC, .char)]) [0, 1, 2, 3] rfl
                    refine W.widen (k := 2) (n := 288) (by omega) (by omega) ?_
                    exact W.zret (v := 1) hx hb hr rfl (fun t ht hW => ⟨⟨1, (ud_eP f a q (ud_nd q), md2, lu2, du2), rfl, ⟨rfl, ud_eP_B hf _ _ _, hmk2⟩, ud_end ht hW hP9 hK9 hD9⟩, hS.F ht⟩) hS.2.2 dX0_letter_252
              · exact absurd rfl c225
        · refine lv_iconst (v := 1) hx hb dX0_letter_178 (by decide) ?_
          refine lv_goto (tgt := 183) hx hb dX0_letter_179 (by decide) ?_
          refine lv_istore (lv' := [(7, .int 1), (0, .ref pq), (1, .int x), (2, .int v), (3, .int ro), (4, .int (nI q)), (5, .int (nI (ud_nd q))), (6, .int (nI a))]) hx hb dX0_letter_183 hl (by decide) rfl (fun ls hl => ?_)
          refine lv_aload_n hx hb dX0_letter_185 rfl (lv_at hl 1 rfl) ?_
          refine va_get (D := D) (ci := 1) (v := .ref qd) (C := RX0) (T := TX0) (N := 5) hx hb hts in_X0 hown hK hP 0 rfl rfl 0 (by decide) (hts _ q48) (fun _ h9 => h9) rfl dX0_letter_186 ?_
          refine lv_iload_n hx hb dX0_letter_189 rfl (lv_at hl 2 rfl) ?_
          refine lv_iload_n hx hb dX0_letter_190 rfl (lv_at hl 3 rfl) ?_
          have hPc := hP.sub (ws' := [(qd, .inr (0, [.ref qt, .int (nI z), .ref qu, .int md])), (qt, .inl (cE, 128, .inl f))]) [3, 4] rfl
          have hDc := hD.sub (ws' := [(qd, .inr (0, [.ref qt, .int (nI z), .ref qu, .int md])), (qt, .inl (cE, 128, .inl f))]) [3, 4] (by decide) rfl
          have hKc := hK.sub (tys' := [(cE, .byte)]) [2] rfl
          have hFc := va_free (wc := [(qd, .inr (0, [.ref qt, .int (nI z), .ref qu, .int md])), (qt, .inl (cE, 128, .inl f))]) hD hS hA [3, 4] rfl
          refine va_calli (va_runV (As := [.int x, .int v]) (rest := []) ⟨hx, hb, hml, hown, hts⟩ (ud_X1_letter l D H.size qd qt qu z cE md f hz x v) (cwV 2 hts (lw_V q150 q151 q152 q12 q153) rfl rfl rfl (by decide +kernel) ⟨Nat.le_of_ble_eq_true rfl, Nat.le_of_ble_eq_true rfl⟩) ⟨ud_fb, va_recv hKc hPc (ci := 0) (q0 := 0) rfl rfl, fun U hU hW => ⟨rfl, ud_go hPc hKc hDc U hU hW⟩⟩ rfl rfl hl.1 rfl (lv_room (Nat.le_of_ble_eq_true rfl)) dX0_letter_191 ⟨Nat.le_of_ble_eq_true rfl, Nat.le_of_ble_eq_true rfl⟩) hS (fun q _ h => hFc q h) hFc (fun r w2 t H1 locs ht hvm hw hB hz1 hk1 hS => ?_)
          rw [hae, hqe] at hw
          obtain ⟨hr1, hw1⟩ := hw.2 c36
          subst hr1
          rw [hw1] at hB
          obtain ⟨hP1, hK1, hD1⟩ := hB
          rw [ht] at hP1
          obtain ⟨hP, hD⟩ := va_join (wr := [(pq, .inr (1, [.ref qd, .ref pt, .int (nI z), .ref pu, .int md])), (pt, .inl (cB, 128, .inl (ud_eP f a q (ud_nd q)))), (pu, .inl (cI, 160, .inl lu)), (qu, .inl (cC, 160, .inl du))]) (w1 := [(qd, .inr (0, [.ref qt, .int (nI z), .ref qu, .int md])), (qt, .inl (cE, 128, .inl (ud_eP f a q (ud_nd q))))]) hP hD [3, 4] [0, 1, 2, 5] rfl rfl (by decide) (by decide) hk1 hFc hP1 hD1
          generalize H1 = H at hP hS ⊢
          have hP : va_P D ud_Cl [(pq, .inr (1, [.ref qd, .ref pt, .int (nI z), .ref pu, .int md])), (pt, .inl (cB, 128, .inl (ud_eP f a q (ud_nd q)))), (pu, .inl (cI, 160, .inl lu)), (qu, .inl (cC, 160, .inl du)), (qd, .inr (0, [.ref qt, .int (nI z), .ref qu, .int md])), (qt, .inl (cE, 128, .inl (ud_eP f a q (ud_nd q))))] H := hP
          have hD : va_D A [(pq, .inr (1, [.ref qd, .ref pt, .int (nI z), .ref pu, .int md])), (pt, .inl (cB, 128, .inl (ud_eP f a q (ud_nd q)))), (pu, .inl (cI, 160, .inl lu)), (qu, .inl (cC, 160, .inl du)), (qd, .inr (0, [.ref qt, .int (nI z), .ref qu, .int md])), (qt, .inl (cE, 128, .inl (ud_eP f a q (ud_nd q))))] := hD
          have hP := hP.sub (ws' := [(pq, .inr (1, [.ref qd, .ref pt, .int (nI z), .ref pu, .int md])), (pt, .inl (cB, 128, .inl (ud_eP f a q (ud_nd q)))), (pu, .inl (cI, 160, .inl lu)), (qd, .inr (0, [.ref qt, .int (nI z), .ref qu, .int md])), (qt, .inl (cE, 128, .inl (ud_eP f a q (ud_nd q)))), (qu, .inl (cC, 160, .inl du))]) [0, 1, 2, 4, 5, 3] rfl
          have hD := hD.sub (ws' := [(pq, .inr (1, [.ref qd, .ref pt, .int (nI z), .ref pu, .int md])), (pt, .inl (cB, 128, .inl (ud_eP f a q (ud_nd q)))), (pu, .inl (cI, 160, .inl lu)), (qd, .inr (0, [.ref qt, .int (nI z), .ref qu, .int md])), (qt, .inl (cE, 128, .inl (ud_eP f a q (ud_nd q)))), (qu, .inl (cC, 160, .inl du))]) [0, 1, 2, 4, 5, 3] (by decide) rfl
          refine lv_iload hx hb dX0_letter_194 (lv_at hl 6 rfl) ?_
          refine lv_icmp_ne (tgt := 251) hx hb dX0_letter_196 (by decide) (fun c196 => ?_) (fun c196 => ?_)
          · exact absurd rfl c196
          · refine lv_aload_n hx hb dX0_letter_199 rfl (lv_at hl 1 rfl) ?_
            refine lv_iload hx hb dX0_letter_200 (lv_at hl 7 rfl) ?_
            refine lv_iload hx hb dX0_letter_202 (lv_at hl 6 rfl) ?_
            refine lv_iconst (v := nI 2) hx hb dX0_letter_204 (by decide) ?_
            refine lv_iload_n hx hb dX0_letter_205 rfl (lv_at hl 4 rfl) ?_
            refine lv_bipush (v := nI 100) hx hb dX0_letter_206 (by decide) ?_
            have hPc := hP.sub (ws' := []) [] rfl
            have hDc := hD.sub (ws' := []) [] (by decide) rfl
            have hKc := hK.sub (tys' := []) [] rfl
            have hFc := va_free (wc := []) hD hS hA [] rfl
            refine va_calli (va_runS (As := [.int ro, .int (nI 100)]) (rest := [.int (nI 2), .int (nI (ud_nd q)), .int (nI a), .ref pq]) ⟨hx, hb, hml, hown, hts⟩ (ud_X0_from l D H.size ro 100 (by decide) (by decide)) (va_cwS 2 hts (lw_S q72 q73 q11 q74) rfl rfl rfl (by decide +kernel) ⟨Nat.le_of_ble_eq_true rfl, Nat.le_of_ble_eq_true rfl⟩) ⟨ud_fb, fun U hU hW => ⟨rfl, ud_go hPc hKc hDc U hU hW⟩⟩ rfl rfl hl.1 rfl (lv_room (Nat.le_of_ble_eq_true rfl)) dX0_letter_208 ⟨Nat.le_of_ble_eq_true rfl, Nat.le_of_ble_eq_true rfl⟩) hS (fun q _ h => hFc q h) hFc (fun r u t H1 locs ht hvm hw hB hz1 hk1 hS => ?_)
            obtain ⟨hP1, hK1, hD1⟩ := hB
            rw [ht] at hP1
            obtain ⟨hP, hD⟩ := va_join (wr := [(pq, .inr (1, [.ref qd, .ref pt, .int (nI z), .ref pu, .int md])), (pt, .inl (cB, 128, .inl (ud_eP f a q (ud_nd q)))), (pu, .inl (cI, 160, .inl lu)), (qd, .inr (0, [.ref qt, .int (nI z), .ref qu, .int md])), (qt, .inl (cE, 128, .inl (ud_eP f a q (ud_nd q)))), (qu, .inl (cC, 160, .inl du))]) (w1 := []) hP hD [] [0, 1, 2, 3, 4, 5] rfl rfl (by decide) (by decide) hk1 hFc hP1 hD1
            generalize H1 = H at hP hS ⊢
            have hP : va_P D ud_Cl [(pq, .inr (1, [.ref qd, .ref pt, .int (nI z), .ref pu, .int md])), (pt, .inl (cB, 128, .inl (ud_eP f a q (ud_nd q)))), (pu, .inl (cI, 160, .inl lu)), (qd, .inr (0, [.ref qt, .int (nI z), .ref qu, .int md])), (qt, .inl (cE, 128, .inl (ud_eP f a q (ud_nd q)))), (qu, .inl (cC, 160, .inl du))] H := hP
            have hD : va_D A [(pq, .inr (1, [.ref qd, .ref pt, .int (nI z), .ref pu, .int md])), (pt, .inl (cB, 128, .inl (ud_eP f a q (ud_nd q)))), (pu, .inl (cI, 160, .inl lu)), (qd, .inr (0, [.ref qt, .int (nI z), .ref qu, .int md])), (qt, .inl (cE, 128, .inl (ud_eP f a q (ud_nd q)))), (qu, .inl (cC, 160, .inl du))] := hD
            subst hw
            refine lv_iadd hx hb dX0_letter_211 ?_
            refine ud_top (v := nI (2 + ud_fM ro 100)) (nI_add _ _) ?_
            refine lv_iload_n hx hb dX0_letter_212 rfl (lv_at hl 4 rfl) ?_
            have hPc := hP.sub (ws' := [(pq, .inr (1, [.ref qd, .ref pt, .int (nI z), .ref pu, .int md])), (pt, .inl (cB, 128, .inl (ud_eP f a q (ud_nd q)))), (pu, .inl (cI, 160, .inl lu)), (qd, .inr (0, [.ref qt, .int (nI z), .ref qu, .int md])), (qt, .inl (cE, 128, .inl (ud_eP f a q (ud_nd q)))), (qu, .inl (cC, 160, .inl du))]) [0, 1, 2, 3, 4, 5] rfl
            have hDc := hD.sub (ws' := [(pq, .inr (1, [.ref qd, .ref pt, .int (nI z), .ref pu, .int md])), (pt, .inl (cB, 128, .inl (ud_eP f a q (ud_nd q)))), (pu, .inl (cI, 160, .inl lu)), (qd, .inr (0, [.ref qt, .int (nI z), .ref qu, .int md])), (qt, .inl (cE, 128, .inl (ud_eP f a q (ud_nd q)))), (qu, .inl (cC, 160, .inl du))]) [0, 1, 2, 3, 4, 5] (by decide) rfl
            have hKc := hK.sub (tys' := [(cB, .byte), (cI, .int), (cE, .byte), (cC, .char)]) [0, 1, 2, 3] rfl
            have hFc := va_free (wc := [(pq, .inr (1, [.ref qd, .ref pt, .int (nI z), .ref pu, .int md])), (pt, .inl (cB, 128, .inl (ud_eP f a q (ud_nd q)))), (pu, .inl (cI, 160, .inl lu)), (qd, .inr (0, [.ref qt, .int (nI z), .ref qu, .int md])), (qt, .inl (cE, 128, .inl (ud_eP f a q (ud_nd q)))), (qu, .inl (cC, 160, .inl du))]) hD hS hA [0, 1, 2, 3, 4, 5] rfl
            refine va_calli (va_runV (As := [.int (nI a), .int (nI (ud_nd q)), .int (nI (2 + ud_fM ro 100)), .int ro]) (rest := []) ⟨hx, hb, hml, hown, hts⟩ (ud_X0_turns l D H.size t1 t2 pq pt pu qd qt qu z cB cI cE cC md (ud_eP f a q (ud_nd q)) lu du hz (ud_eP_B hf a q (ud_nd q)) (nI a) (nI (ud_nd q)) (nI (2 + ud_fM ro 100)) ro) (cwV 4 hts (lw_V q68 q70 qs0 q11 q71) rfl rfl rfl (by decide +kernel) ⟨Nat.le_of_ble_eq_true rfl, Nat.le_of_ble_eq_true rfl⟩) ⟨ud_fbt, va_recv hKc hPc (ci := 1) (q0 := 0) rfl rfl, fun U hU hW => ⟨rfl, ud_got hPc hKc hDc hTb hS hFc U hU hW⟩⟩ rfl rfl hl.1 rfl (lv_room (Nat.le_of_ble_eq_true rfl)) dX0_letter_213 ⟨Nat.le_of_ble_eq_true rfl, Nat.le_of_ble_eq_true rfl⟩) hS (fun q _ h => hFc q h) hFc (fun rt w5 t H1 locs ht hvm hw hB hz1 hk1 hS => ?_)
            obtain ⟨md2, lu2, du2⟩ := w5
            rw [ud_fM_nI (show a < z + 1 by omega) (by omega), ud_fM_nI (show ud_nd q < z - a + 1 by omega) (by omega), ud_fM_nI (show 2 + ud_fM ro 100 < 161 by omega) (by decide)] at hw
            obtain ⟨hr1, hmk2, hw2⟩ := hw
            subst hr1
            have hlet : md2 = if 55296 ≤ q ∧ q ≤ 57343 then -1 else if 65535 < q then 2 else 1 := ud_letter hq (by omega) hw2
            obtain ⟨hP1, hK1, hD1⟩ := hB
            rw [ht] at hP1
            obtain ⟨hP, hD⟩ := va_join (wr := []) (w1 := [(pq, .inr (1, [.ref qd, .ref pt, .int (nI z), .ref pu, .int md2])), (pt, .inl (cB, 128, .inl (ud_eP f a q (ud_nd q)))), (pu, .inl (cI, 160, .inl lu2)), (qd, .inr (0, [.ref qt, .int (nI z), .ref qu, .int md2])), (qt, .inl (cE, 128, .inl (ud_eP f a q (ud_nd q)))), (qu, .inl (cC, 160, .inl du2))]) hP hD [0, 1, 2, 3, 4, 5] [] rfl rfl (by decide) (by decide) hk1 hFc hP1 hD1
            generalize H1 = H at hP hS ⊢
            have hP : va_P D ud_Cl [(pq, .inr (1, [.ref qd, .ref pt, .int (nI z), .ref pu, .int md2])), (pt, .inl (cB, 128, .inl (ud_eP f a q (ud_nd q)))), (pu, .inl (cI, 160, .inl lu2)), (qd, .inr (0, [.ref qt, .int (nI z), .ref qu, .int md2])), (qt, .inl (cE, 128, .inl (ud_eP f a q (ud_nd q)))), (qu, .inl (cC, 160, .inl du2))] H := hP
            have hD : va_D A [(pq, .inr (1, [.ref qd, .ref pt, .int (nI z), .ref pu, .int md2])), (pt, .inl (cB, 128, .inl (ud_eP f a q (ud_nd q)))), (pu, .inl (cI, 160, .inl lu2)), (qd, .inr (0, [.ref qt, .int (nI z), .ref qu, .int md2])), (qt, .inl (cE, 128, .inl (ud_eP f a q (ud_nd q)))), (qu, .inl (cC, 160, .inl du2))] := hD
            refine W.widen (k := 2) (n := 288) (by omega) (by omega) ?_
            refine lv_if_eq (tgt := 251) hx hb dX0_letter_216 (by decide) (fun c216 => ?_) (fun c216 => ?_)
            · exact absurd c216 (by decide)
            · refine lv_aload_n hx hb dX0_letter_219 rfl (lv_at hl 1 rfl) ?_
              refine va_get (D := D) (ci := 1) (v := .int md2) (C := RX0) (T := TX0) (N := 5) hx hb hts in_X0 hown hK hP 0 rfl rfl 4 (by decide) (hts _ q52) (fun _ h9 => h9) rfl dX0_letter_220 ?_
              refine lv_iload hx hb dX0_letter_223 (lv_at hl 0 rfl) ?_
              refine lv_if_eq (tgt := 232) hx hb dX0_letter_225 (by decide) (fun c225 => ?_) (fun c225 => ?_)
              · exact absurd c225 (by decide)
              · refine lv_iconst (v := (-1)) hx hb dX0_letter_228 (by decide) ?_
                refine lv_goto (tgt := 244) hx hb dX0_letter_229 (by decide) ?_
                refine lv_icmp_ne (tgt := 251) hx hb dX0_letter_244 (by decide) (fun c244 => ?_) (fun c244 => ?_)
                · exact absurd (hlet.trans (if_pos ⟨c168, c175⟩)) c244
                · refine lv_iconst (v := 1) hx hb dX0_letter_247 (by decide) ?_
                  refine lv_goto (tgt := 252) hx hb dX0_letter_248 (by decide) ?_
                  have hP9 := hP.sub (ws' := [(pq, .inr (1, [.ref qd, .ref pt, .int (nI z), .ref pu, .int md2])), (pt, .inl (cB, 128, .inl (ud_eP f a q (ud_nd q)))), (pu, .inl (cI, 160, .inl lu2)), (qd, .inr (0, [.ref qt, .int (nI z), .ref qu, .int md2])), (qt, .inl (cE, 128, .inl (ud_eP f a q (ud_nd q)))), (qu, .inl (cC, 160, .inl du2))]) [0, 1, 2, 3, 4, 5] rfl
                  have hD9 := hD.sub (ws' := [(pq, .inr (1, [.ref qd, .ref pt, .int (nI z), .ref pu, .int md2])), (pt, .inl (cB, 128, .inl (ud_eP f a q (ud_nd q)))), (pu, .inl (cI, 160, .inl lu2)), (qd, .inr (0, [.ref qt, .int (nI z), .ref qu, .int md2])), (qt, .inl (cE, 128, .inl (ud_eP f a q (ud_nd q)))), (qu, .inl (cC, 160, .inl du2))]) [0, 1, 2, 3, 4, 5] (by decide) rfl
                  have hK9 := hK.sub (tys' := [(cB, .byte), (cI, .int), (cE, .byte), (cC, .char)]) [0, 1, 2, 3] rfl
                  refine W.widen (k := 2) (n := 288) (by omega) (by omega) ?_
                  exact W.zret (v := 1) hx hb hr rfl (fun t ht hW => ⟨⟨1, (ud_eP f a q (ud_nd q), md2, lu2, du2), rfl, ⟨rfl, ud_eP_B hf _ _ _, hmk2⟩, ud_end ht hW hP9 hK9 hD9⟩, hS.F ht⟩) hS.2.2 dX0_letter_252
    · refine lv_iload hx hb dX0_letter_68 (lv_at hl 4 rfl) ?_
      refine lv_bipush (v := nI 6) hx hb dX0_letter_70 (by decide) ?_
      refine lv_iload hx hb dX0_letter_72 (lv_at hl 5 rfl) ?_
      refine lv_iconst (v := nI 1) hx hb dX0_letter_74 (by decide) ?_
      refine lv_isub hx hb dX0_letter_75 ?_
      refine ud_top (v := nI (ud_nd q - 1)) (pk_sub (by omega)) ?_
      refine lv_iload hx hb dX0_letter_76 (lv_at hl 7 rfl) ?_
      refine lv_isub hx hb dX0_letter_78 ?_
      refine ud_top (v := nI (ud_nd q - 1 - i)) (pk_sub (by omega)) ?_
      refine lv_imul hx hb dX0_letter_79 ?_
      refine ud_top (v := nI (6 * (ud_nd q - 1 - i))) (pk_mul _ _) ?_
      refine lv_ishr hx hb dX0_letter_80 ?_
      refine ud_top (v := nI (q / 64 ^ (ud_nd q - 1 - i))) (ud_shrK (by omega) (by omega)) ?_
      refine lv_istore (lv' := [(8, .int (nI (q / 64 ^ (ud_nd q - 1 - i)))), (0, .ref pq), (1, .int x), (2, .int v), (3, .int ro), (4, .int (nI q)), (5, .int (nI (ud_nd q))), (6, .int (nI a)), (7, .int (nI i))]) hx hb dX0_letter_81 hl (by decide) rfl (fun ls hl => ?_)
      refine lv_aload_n hx hb dX0_letter_83 rfl (lv_at hl 1 rfl) ?_
      refine va_get (D := D) (ci := 1) (v := .ref pt) (C := RX0) (T := TX0) (N := 5) hx hb hts in_X0 hown hK hP 0 rfl rfl 1 (by decide) (hts _ q49) (fun _ h9 => h9) rfl dX0_letter_84 ?_
      refine lv_iload hx hb dX0_letter_87 (lv_at hl 7 rfl) ?_
      refine lv_iload hx hb dX0_letter_89 (lv_at hl 8 rfl) ?_
      refine lv_iadd hx hb dX0_letter_91 ?_
      refine ud_top (v := nI (a + i)) (nI_add _ _) ?_
      refine lv_iload hx hb dX0_letter_92 (lv_at hl 8 rfl) ?_
      refine ud_ifle (tgt := 109) hx hb dX0_letter_94 (by decide) (by omega) (fun c94 => ?_) (fun c94 => ?_)
      · subst c94
        refine lv_iload hx hb dX0_letter_109 (lv_at hl 6 rfl) ?_
        refine lv_iconst (v := nI 1) hx hb dX0_letter_111 (by decide) ?_
        refine ud_ne (tgt := 120) hx hb dX0_letter_112 (by decide) (by omega) (by decide) (fun c112 => ?_) (fun c112 => ?_)
        · refine lv_iload hx hb dX0_letter_120 (lv_at hl 6 rfl) ?_
          refine lv_iconst (v := nI 2) hx hb dX0_letter_122 (by decide) ?_
          refine ud_ne (tgt := 135) hx hb dX0_letter_123 (by decide) (by omega) (by decide) (fun c123 => ?_) (fun c123 => ?_)
          · refine lv_iload hx hb dX0_letter_135 (lv_at hl 6 rfl) ?_
            refine lv_iconst (v := nI 3) hx hb dX0_letter_137 (by decide) ?_
            refine ud_ne (tgt := 150) hx hb dX0_letter_138 (by decide) (by omega) (by decide) (fun c138 => ?_) (fun c138 => ?_)
            · refine lv_sipush (v := 240) hx hb dX0_letter_150 (by decide) ?_
              refine lv_iload hx hb dX0_letter_153 (lv_at hl 0 rfl) ?_
              refine lv_ior hx hb dX0_letter_155 ?_
              refine ud_top (v := nI (ud_eb q (ud_nd q) 0)) (ud_eb_4 hq (by omega)) ?_
              refine lv_i2b (v := ud_sB (ud_eb q (ud_nd q) 0)) hx hb dX0_letter_156 rfl ?_
              refine ud_bast hx hb hK hP hD hS 1 0 rfl rfl (ud_eP f a q (0 + 1)) (by omega) (by decide) (ud_bb (nI _)) (ud_eP_s f a q 0) dX0_letter_157 (fun H locs hP hD hS => ?_)
              have hP : va_P D ud_Cl [(pq, .inr (1, [.ref qd, .ref pt, .int (nI z), .ref pu, .int md])), (pt, .inl (cB, 128, .inl (ud_eP f a q (0 + 1)))), (pu, .inl (cI, 160, .inl lu)), (qd, .inr (0, [.ref qt, .int (nI z), .ref qu, .int md])), (qt, .inl (cE, 128, .inl f)), (qu, .inl (cC, 160, .inl du))] H := hP
              have hD : va_D A [(pq, .inr (1, [.ref qd, .ref pt, .int (nI z), .ref pu, .int md])), (pt, .inl (cB, 128, .inl (ud_eP f a q (0 + 1)))), (pu, .inl (cI, 160, .inl lu)), (qd, .inr (0, [.ref qt, .int (nI z), .ref qu, .int md])), (qt, .inl (cE, 128, .inl f)), (qu, .inl (cC, 160, .inl du))] := hD
              refine lv_iinc (v := nI (0 + 1)) (lv' := [(7, .int (nI (0 + 1))), (8, .int (nI (q / 64 ^ (ud_nd q - 1 - 0)))), (0, .ref pq), (1, .int x), (2, .int v), (3, .int ro), (4, .int (nI q)), (5, .int (nI (ud_nd q))), (6, .int (nI a))]) hx hb dX0_letter_158 hl (k := 8) rfl (ud_inc 0) (by decide) rfl (fun ls hl => ?_)
              refine lv_goto (tgt := 61) hx hb dX0_letter_161 (by decide) ?_
              exact ih61 ls H locs ⟨0 + 1, ud_eP f a q (0 + 1), by omega, by omega, rfl, hP, hD, hS, lv_sub hl [2, 3, 4, 5, 6, 7, 8, 0] rfl⟩
            · refine lv_sipush (v := 224) hx hb dX0_letter_141 (by decide) ?_
              refine lv_iload hx hb dX0_letter_144 (lv_at hl 0 rfl) ?_
              refine lv_ior hx hb dX0_letter_146 ?_
              refine ud_top (v := nI (ud_eb q (ud_nd q) 0)) (ud_eb_3 c138) ?_
              refine lv_goto (tgt := 156) hx hb dX0_letter_147 (by decide) ?_
              refine lv_i2b (v := ud_sB (ud_eb q (ud_nd q) 0)) hx hb dX0_letter_156 rfl ?_
              refine ud_bast hx hb hK hP hD hS 1 0 rfl rfl (ud_eP f a q (0 + 1)) (by omega) (by decide) (ud_bb (nI _)) (ud_eP_s f a q 0) dX0_letter_157 (fun H locs hP hD hS => ?_)
              have hP : va_P D ud_Cl [(pq, .inr (1, [.ref qd, .ref pt, .int (nI z), .ref pu, .int md])), (pt, .inl (cB, 128, .inl (ud_eP f a q (0 + 1)))), (pu, .inl (cI, 160, .inl lu)), (qd, .inr (0, [.ref qt, .int (nI z), .ref qu, .int md])), (qt, .inl (cE, 128, .inl f)), (qu, .inl (cC, 160, .inl du))] H := hP
              have hD : va_D A [(pq, .inr (1, [.ref qd, .ref pt, .int (nI z), .ref pu, .int md])), (pt, .inl (cB, 128, .inl (ud_eP f a q (0 + 1)))), (pu, .inl (cI, 160, .inl lu)), (qd, .inr (0, [.ref qt, .int (nI z), .ref qu, .int md])), (qt, .inl (cE, 128, .inl f)), (qu, .inl (cC, 160, .inl du))] := hD
              refine lv_iinc (v := nI (0 + 1)) (lv' := [(7, .int (nI (0 + 1))), (8, .int (nI (q / 64 ^ (ud_nd q - 1 - 0)))), (0, .ref pq), (1, .int x), (2, .int v), (3, .int ro), (4, .int (nI q)), (5, .int (nI (ud_nd q))), (6, .int (nI a))]) hx hb dX0_letter_158 hl (k := 8) rfl (ud_inc 0) (by decide) rfl (fun ls hl => ?_)
              refine lv_goto (tgt := 61) hx hb dX0_letter_161 (by decide) ?_
              exact ih61 ls H locs ⟨0 + 1, ud_eP f a q (0 + 1), by omega, by omega, rfl, hP, hD, hS, lv_sub hl [2, 3, 4, 5, 6, 7, 8, 0] rfl⟩
          · refine lv_sipush (v := 192) hx hb dX0_letter_126 (by decide) ?_
            refine lv_iload hx hb dX0_letter_129 (lv_at hl 0 rfl) ?_
            refine lv_ior hx hb dX0_letter_131 ?_
            refine ud_top (v := nI (ud_eb q (ud_nd q) 0)) (ud_eb_2 c123) ?_
            refine lv_goto (tgt := 156) hx hb dX0_letter_132 (by decide) ?_
            refine lv_i2b (v := ud_sB (ud_eb q (ud_nd q) 0)) hx hb dX0_letter_156 rfl ?_
            refine ud_bast hx hb hK hP hD hS 1 0 rfl rfl (ud_eP f a q (0 + 1)) (by omega) (by decide) (ud_bb (nI _)) (ud_eP_s f a q 0) dX0_letter_157 (fun H locs hP hD hS => ?_)
            have hP : va_P D ud_Cl [(pq, .inr (1, [.ref qd, .ref pt, .int (nI z), .ref pu, .int md])), (pt, .inl (cB, 128, .inl (ud_eP f a q (0 + 1)))), (pu, .inl (cI, 160, .inl lu)), (qd, .inr (0, [.ref qt, .int (nI z), .ref qu, .int md])), (qt, .inl (cE, 128, .inl f)), (qu, .inl (cC, 160, .inl du))] H := hP
            have hD : va_D A [(pq, .inr (1, [.ref qd, .ref pt, .int (nI z), .ref pu, .int md])), (pt, .inl (cB, 128, .inl (ud_eP f a q (0 + 1)))), (pu, .inl (cI, 160, .inl lu)), (qd, .inr (0, [.ref qt, .int (nI z), .ref qu, .int md])), (qt, .inl (cE, 128, .inl f)), (qu, .inl (cC, 160, .inl du))] := hD
            refine lv_iinc (v := nI (0 + 1)) (lv' := [(7, .int (nI (0 + 1))), (8, .int (nI (q / 64 ^ (ud_nd q - 1 - 0)))), (0, .ref pq), (1, .int x), (2, .int v), (3, .int ro), (4, .int (nI q)), (5, .int (nI (ud_nd q))), (6, .int (nI a))]) hx hb dX0_letter_158 hl (k := 8) rfl (ud_inc 0) (by decide) rfl (fun ls hl => ?_)
            refine lv_goto (tgt := 61) hx hb dX0_letter_161 (by decide) ?_
            exact ih61 ls H locs ⟨0 + 1, ud_eP f a q (0 + 1), by omega, by omega, rfl, hP, hD, hS, lv_sub hl [2, 3, 4, 5, 6, 7, 8, 0] rfl⟩
        · refine lv_iload hx hb dX0_letter_115 (lv_at hl 0 rfl) ?_
          refine ud_top (v := nI (ud_eb q (ud_nd q) 0)) (ud_eb_10 c112) ?_
          refine lv_goto (tgt := 156) hx hb dX0_letter_117 (by decide) ?_
          refine lv_i2b (v := ud_sB (ud_eb q (ud_nd q) 0)) hx hb dX0_letter_156 rfl ?_
          refine ud_bast hx hb hK hP hD hS 1 0 rfl rfl (ud_eP f a q (0 + 1)) (by omega) (by decide) (ud_bb (nI _)) (ud_eP_s f a q 0) dX0_letter_157 (fun H locs hP hD hS => ?_)
          have hP : va_P D ud_Cl [(pq, .inr (1, [.ref qd, .ref pt, .int (nI z), .ref pu, .int md])), (pt, .inl (cB, 128, .inl (ud_eP f a q (0 + 1)))), (pu, .inl (cI, 160, .inl lu)), (qd, .inr (0, [.ref qt, .int (nI z), .ref qu, .int md])), (qt, .inl (cE, 128, .inl f)), (qu, .inl (cC, 160, .inl du))] H := hP
          have hD : va_D A [(pq, .inr (1, [.ref qd, .ref pt, .int (nI z), .ref pu, .int md])), (pt, .inl (cB, 128, .inl (ud_eP f a q (0 + 1)))), (pu, .inl (cI, 160, .inl lu)), (qd, .inr (0, [.ref qt, .int (nI z), .ref qu, .int md])), (qt, .inl (cE, 128, .inl f)), (qu, .inl (cC, 160, .inl du))] := hD
          refine lv_iinc (v := nI (0 + 1)) (lv' := [(7, .int (nI (0 + 1))), (8, .int (nI (q / 64 ^ (ud_nd q - 1 - 0)))), (0, .ref pq), (1, .int x), (2, .int v), (3, .int ro), (4, .int (nI q)), (5, .int (nI (ud_nd q))), (6, .int (nI a))]) hx hb dX0_letter_158 hl (k := 8) rfl (ud_inc 0) (by decide) rfl (fun ls hl => ?_)
          refine lv_goto (tgt := 61) hx hb dX0_letter_161 (by decide) ?_
          exact ih61 ls H locs ⟨0 + 1, ud_eP f a q (0 + 1), by omega, by omega, rfl, hP, hD, hS, lv_sub hl [2, 3, 4, 5, 6, 7, 8, 0] rfl⟩
      · refine lv_sipush (v := 128) hx hb dX0_letter_97 (by decide) ?_
        refine lv_iload hx hb dX0_letter_100 (lv_at hl 0 rfl) ?_
        refine lv_bipush (v := 63) hx hb dX0_letter_102 (by decide) ?_
        refine lv_iand hx hb dX0_letter_104 ?_
        refine lv_ior hx hb dX0_letter_105 ?_
        refine ud_top (v := nI (ud_eb q (ud_nd q) i)) (ud_eb_c (by omega) c94) ?_
        refine lv_goto (tgt := 156) hx hb dX0_letter_106 (by decide) ?_
        refine lv_i2b (v := ud_sB (ud_eb q (ud_nd q) i)) hx hb dX0_letter_156 rfl ?_
        refine ud_bast hx hb hK hP hD hS 1 0 rfl rfl (ud_eP f a q (i + 1)) (by omega) (by decide) (ud_bb (nI _)) (ud_eP_s f a q i) dX0_letter_157 (fun H locs hP hD hS => ?_)
        have hP : va_P D ud_Cl [(pq, .inr (1, [.ref qd, .ref pt, .int (nI z), .ref pu, .int md])), (pt, .inl (cB, 128, .inl (ud_eP f a q (i + 1)))), (pu, .inl (cI, 160, .inl lu)), (qd, .inr (0, [.ref qt, .int (nI z), .ref qu, .int md])), (qt, .inl (cE, 128, .inl f)), (qu, .inl (cC, 160, .inl du))] H := hP
        have hD : va_D A [(pq, .inr (1, [.ref qd, .ref pt, .int (nI z), .ref pu, .int md])), (pt, .inl (cB, 128, .inl (ud_eP f a q (i + 1)))), (pu, .inl (cI, 160, .inl lu)), (qd, .inr (0, [.ref qt, .int (nI z), .ref qu, .int md])), (qt, .inl (cE, 128, .inl f)), (qu, .inl (cC, 160, .inl du))] := hD
        refine lv_iinc (v := nI (i + 1)) (lv' := [(7, .int (nI (i + 1))), (8, .int (nI (q / 64 ^ (ud_nd q - 1 - i)))), (0, .ref pq), (1, .int x), (2, .int v), (3, .int ro), (4, .int (nI q)), (5, .int (nI (ud_nd q))), (6, .int (nI a))]) hx hb dX0_letter_158 hl (k := 8) rfl (ud_inc i) (by decide) rfl (fun ls hl => ?_)
        refine lv_goto (tgt := 61) hx hb dX0_letter_161 (by decide) ?_
        exact ih61 ls H locs ⟨i + 1, ud_eP f a q (i + 1), by omega, by omega, rfl, hP, hD, hS, lv_sub hl [2, 3, 4, 5, 6, 7, 8, 0] rfl⟩
  · refine lv_aload_n hx hb dX0_letter_39 rfl (lv_at hl 3 rfl) ?_
    refine va_get (D := D) (ci := 1) (v := .ref qd) (C := RX0) (T := TX0) (N := 5) hx hb hts in_X0 hown hK hP 0 rfl rfl 0 (by decide) (hts _ q48) (fun _ h9 => h9) rfl dX0_letter_40 ?_
    refine lv_iload_n hx hb dX0_letter_43 rfl (lv_at hl 4 rfl) ?_
    refine lv_iload_n hx hb dX0_letter_44 rfl (lv_at hl 5 rfl) ?_
    have hPc := hP.sub (ws' := [(qd, .inr (0, [.ref qt, .int (nI z), .ref qu, .int md])), (qt, .inl (cE, 128, .inl f))]) [3, 4] rfl
    have hDc := hD.sub (ws' := [(qd, .inr (0, [.ref qt, .int (nI z), .ref qu, .int md])), (qt, .inl (cE, 128, .inl f))]) [3, 4] (by decide) rfl
    have hKc := hK.sub (tys' := [(cE, .byte)]) [2] rfl
    have hFc := va_free (wc := [(qd, .inr (0, [.ref qt, .int (nI z), .ref qu, .int md])), (qt, .inl (cE, 128, .inl f))]) hD hS hA [3, 4] rfl
    refine va_calli (va_runV (As := [.int x, .int v]) (rest := []) ⟨hx, hb, hml, hown, hts⟩ (ud_X1_letter l D H.size qd qt qu z cE md f hz x v) (cwV 2 hts (lw_V q150 q151 q152 q12 q153) rfl rfl rfl (by decide +kernel) ⟨Nat.le_of_ble_eq_true rfl, Nat.le_of_ble_eq_true rfl⟩) ⟨ud_fb, va_recv hKc hPc (ci := 0) (q0 := 0) rfl rfl, fun U hU hW => ⟨rfl, ud_go hPc hKc hDc U hU hW⟩⟩ rfl rfl hl.1 rfl (lv_room (Nat.le_of_ble_eq_true rfl)) dX0_letter_45 ⟨Nat.le_of_ble_eq_true rfl, Nat.le_of_ble_eq_true rfl⟩) hS (fun q _ h => hFc q h) hFc (fun r w2 t H1 locs ht hvm hw hB hz1 hk1 hS => ?_)
    rw [hae, hqe] at hw
    obtain ⟨hr1, hw1⟩ := hw.1 c36
    subst hr1
    rw [hw1] at hB
    obtain ⟨hP1, hK1, hD1⟩ := hB
    rw [ht] at hP1
    obtain ⟨hP, hD⟩ := va_join (wr := [(pq, .inr (1, [.ref qd, .ref pt, .int (nI z), .ref pu, .int md])), (pt, .inl (cB, 128, .inl f)), (pu, .inl (cI, 160, .inl lu)), (qu, .inl (cC, 160, .inl du))]) (w1 := [(qd, .inr (0, [.ref qt, .int (nI z), .ref qu, .int md])), (qt, .inl (cE, 128, .inl f))]) hP hD [3, 4] [0, 1, 2, 5] rfl rfl (by decide) (by decide) hk1 hFc hP1 hD1
    generalize H1 = H at hP hS ⊢
    have hP : va_P D ud_Cl [(pq, .inr (1, [.ref qd, .ref pt, .int (nI z), .ref pu, .int md])), (pt, .inl (cB, 128, .inl f)), (pu, .inl (cI, 160, .inl lu)), (qu, .inl (cC, 160, .inl du)), (qd, .inr (0, [.ref qt, .int (nI z), .ref qu, .int md])), (qt, .inl (cE, 128, .inl f))] H := hP
    have hD : va_D A [(pq, .inr (1, [.ref qd, .ref pt, .int (nI z), .ref pu, .int md])), (pt, .inl (cB, 128, .inl f)), (pu, .inl (cI, 160, .inl lu)), (qu, .inl (cC, 160, .inl du)), (qd, .inr (0, [.ref qt, .int (nI z), .ref qu, .int md])), (qt, .inl (cE, 128, .inl f))] := hD
    have hP := hP.sub (ws' := [(pq, .inr (1, [.ref qd, .ref pt, .int (nI z), .ref pu, .int md])), (pt, .inl (cB, 128, .inl f)), (pu, .inl (cI, 160, .inl lu)), (qd, .inr (0, [.ref qt, .int (nI z), .ref qu, .int md])), (qt, .inl (cE, 128, .inl f)), (qu, .inl (cC, 160, .inl du))]) [0, 1, 2, 4, 5, 3] rfl
    have hD := hD.sub (ws' := [(pq, .inr (1, [.ref qd, .ref pt, .int (nI z), .ref pu, .int md])), (pt, .inl (cB, 128, .inl f)), (pu, .inl (cI, 160, .inl lu)), (qd, .inr (0, [.ref qt, .int (nI z), .ref qu, .int md])), (qt, .inl (cE, 128, .inl f)), (qu, .inl (cC, 160, .inl du))]) [0, 1, 2, 4, 5, 3] (by decide) rfl
    refine lv_iconst (v := (-1)) hx hb dX0_letter_48 (by decide) ?_
    refine lv_icmp_ne (tgt := 56) hx hb dX0_letter_49 (by decide) (fun c49 => ?_) (fun c49 => ?_)
    · exact absurd rfl c49
    · refine lv_iconst (v := 1) hx hb dX0_letter_52 (by decide) ?_
      refine lv_goto (tgt := 57) hx hb dX0_letter_53 (by decide) ?_
      have hP9 := hP.sub (ws' := [(pq, .inr (1, [.ref qd, .ref pt, .int (nI z), .ref pu, .int md])), (pt, .inl (cB, 128, .inl f)), (pu, .inl (cI, 160, .inl lu)), (qd, .inr (0, [.ref qt, .int (nI z), .ref qu, .int md])), (qt, .inl (cE, 128, .inl f)), (qu, .inl (cC, 160, .inl du))]) [0, 1, 2, 3, 4, 5] rfl
      have hD9 := hD.sub (ws' := [(pq, .inr (1, [.ref qd, .ref pt, .int (nI z), .ref pu, .int md])), (pt, .inl (cB, 128, .inl f)), (pu, .inl (cI, 160, .inl lu)), (qd, .inr (0, [.ref qt, .int (nI z), .ref qu, .int md])), (qt, .inl (cE, 128, .inl f)), (qu, .inl (cC, 160, .inl du))]) [0, 1, 2, 3, 4, 5] (by decide) rfl
      have hK9 := hK.sub (tys' := [(cB, .byte), (cI, .int), (cE, .byte), (cC, .char)]) [0, 1, 2, 3] rfl
      refine W.widen (k := 2) (n := 288) (by omega) (by omega) ?_
      exact W.zret (v := 1) hx hb hr rfl (fun t ht hW => ⟨⟨1, (f, md, lu, du), rfl, ⟨rfl, hf, hmk⟩, ud_end ht hW hP9 hK9 hD9⟩, hS.F ht⟩) hS.2.2 dX0_letter_57
end
section
/-! UtfDeskLaw: step (printed by gen/step.py) -/
set_option maxHeartbeats 4000000 in
set_option maxRecDepth 100000 in
theorem ud_X0_step (l : Launch) (D : va_G) (sz : Nat) (t1 t2 : Nat) (pq pt pu qd qt qu z : Nat) (cB cI cE cC : ClassId) (md : Int32) (f lu du : Nat → Int32) (hz : z ≤ 128) (hf : ud_isB f) (hmk : ud_Mk md lu du) (wt wa wb wc wd we : Int32) : Met l yX0_step (ws_ yX0_step cX0_step 7 (some .boolean)) ({ frames := 5, cells := 4, slots := 576, locals := 132 }) (va_Pc [.ref pq, .int wt, .int wa, .int wb, .int wc, .int wd, .int we] (ud_Wt D [(pq, .inr (1, [.ref qd, .ref pt, .int (nI z), .ref pu, .int md])), (pt, .inl (cB, 128, .inl f)), (pu, .inl (cI, 160, .inl lu)), (qd, .inr (0, [.ref qt, .int (nI z), .ref qu, .int md])), (qt, .inl (cE, 128, .inl f)), (qu, .inl (cC, 160, .inl du))] [(cB, .byte), (cI, .int), (cE, .byte), (cC, .char)] sz t1 t2)) (va_Qi (fun (r : Int32) (u : Nat × (Nat → Int32) × Int32 × (Nat → Int32) × (Nat → Int32)) => r = 1 ∧ u.1 ≤ 128 ∧ ud_isB u.2.1 ∧ ud_Mk u.2.2.1 u.2.2.2.1 u.2.2.2.2) (fun u t => ud_E D (va_A [(pq, .inr (1, [.ref qd, .ref pt, .int (nI z), .ref pu, .int md])), (pt, .inl (cB, 128, .inl f)), (pu, .inl (cI, 160, .inl lu)), (qd, .inr (0, [.ref qt, .int (nI z), .ref qu, .int md])), (qt, .inl (cE, 128, .inl f)), (qu, .inl (cC, 160, .inl du))] sz) [(pq, .inr (1, [.ref qd, .ref pt, .int (nI u.1), .ref pu, .int u.2.2.1])), (pt, .inl (cB, 128, .inl u.2.1)), (pu, .inl (cI, 160, .inl u.2.2.2.1)), (qd, .inr (0, [.ref qt, .int (nI u.1), .ref qu, .int u.2.2.1])), (qt, .inl (cE, 128, .inl u.2.1)), (qu, .inl (cC, 160, .inl u.2.2.2.2))] [(cB, .byte), (cI, .int), (cE, .byte), (cC, .char)] t) (va_A [(pq, .inr (1, [.ref qd, .ref pt, .int (nI z), .ref pu, .int md])), (pt, .inl (cB, 128, .inl f)), (pu, .inl (cI, 160, .inl lu)), (qd, .inr (0, [.ref qt, .int (nI z), .ref qu, .int md])), (qt, .inl (cE, 128, .inl f)), (qu, .inl (cC, 160, .inl du))] sz)) 4 576 (va_A [(pq, .inr (1, [.ref qd, .ref pt, .int (nI z), .ref pu, .int md])), (pt, .inl (cB, 128, .inl f)), (pu, .inl (cI, 160, .inl lu)), (qd, .inr (0, [.ref qt, .int (nI z), .ref qu, .int md])), (qt, .inl (cE, 128, .inl f)), (qu, .inl (cC, 160, .inl du))] sz) := by
  refine Met.ofW (cc := cX0_step) (maxL := 7) (ret := (some .boolean)) (by decide) rfl ?_
  intro p e s m args below meth c s₁ B hml hv
  obtain ⟨rfl, ⟨hsz, hP, hK, hD0⟩, hTb⟩ := hv
  have hx := B.exec
  have hb := B.bytes
  have hr := B.returns
  have hts := atoms_spec (ws := ws_ yX0_step cX0_step 7 (some .boolean)) B.pre
  have hts : ∀ w ∈ lw_all, w.before _ s = true := fun w h => hts w (List.mem_cons_of_mem _ h)
  have hown : s.vm.findClass RX0 = some m.cls := findClass_of_methodNamed B.named
  have hlocks := B.notSynchronized
  subst hsz
  have hD := hD0.self (sz := s.heap.size)
  generalize hAe : va_A [(pq, .inr (1, [.ref qd, .ref pt, .int (nI z), .ref pu, .int md])), (pt, .inl (cB, 128, .inl f)), (pu, .inl (cI, 160, .inl lu)), (qd, .inr (0, [.ref qt, .int (nI z), .ref qu, .int md])), (qt, .inl (cE, 128, .inl f)), (qu, .inl (cC, 160, .inl du))] s.heap.size = A at hD hTb ⊢
  have hA : ∀ q : Nat, s.heap.size ≤ q → A q := fun q h => by rw [← hAe]; exact Or.inr h
  have hS : va_S A s.heap s.heap [] := va_S.rf
  have hP : va_P D ud_Cl [(pq, .inr (1, [.ref qd, .ref pt, .int (nI z), .ref pu, .int md])), (pt, .inl (cB, 128, .inl f)), (pu, .inl (cI, 160, .inl lu)), (qd, .inr (0, [.ref qt, .int (nI z), .ref qu, .int md])), (qt, .inl (cE, 128, .inl f)), (qu, .inl (cC, 160, .inl du))] s.heap := hP
  have hl := lv_entry ([.ref pq, .int wt, .int wa, .int wb, .int wc, .int wd, .int we]) (n := 7) (Nat.le_of_ble_eq_true rfl)
  rw [lg_entry_eq]
  generalize (lg_sl ([.ref pq, .int wt, .int wa, .int wb, .int wc, .int wd, .int we]) ++ List.replicate (7 - (lg_sl ([.ref pq, .int wt, .int wa, .int wb, .int wc, .int wd, .int we])).length) Slot.unset).toArray = ls at hl ⊢
  have hl : lv_has ls 7 [(0, .ref pq), (1, .int wt), (2, .int wa), (3, .int wb), (4, .int wc), (5, .int wd), (6, .int we)] := hl
  refine lv_iload_n hx hb dX0_step_0 rfl (lv_at hl 1 rfl) ?_
  refine lv_bipush (v := 7) hx hb dX0_step_1 (by decide) ?_
  refine lv_iand hx hb dX0_step_3 ?_
  obtain ⟨j, hj, ej⟩ := pk_andE wt (m := 7) 3 (by decide)
  refine ud_top (v := nI j) ej ?_
  have hj8 : j = 0 ∨ j = 1 ∨ j = 2 ∨ j = 3 ∨ j = 4 ∨ j = 5 ∨ j = 6 ∨ j = 7 := by omega
  rcases hj8 with rfl | rfl | rfl | rfl | rfl | rfl | rfl | rfl
  · refine lv_tableIn (off := 44) (tgt := 48) hx hb dX0_step_4 (by decide) (by decide) (by decide) (by decide) ?_
    refine lv_aload_n hx hb dX0_step_48 rfl (lv_at hl 0 rfl) ?_
    refine lv_iload_n hx hb dX0_step_49 rfl (lv_at hl 2 rfl) ?_
    refine lv_iload_n hx hb dX0_step_50 rfl (lv_at hl 3 rfl) ?_
    refine lv_iload hx hb dX0_step_51 (lv_at hl 4 rfl) ?_
    refine lv_iload hx hb dX0_step_53 (lv_at hl 5 rfl) ?_
    have hPc := hP.sub (ws' := [(pq, .inr (1, [.ref qd, .ref pt, .int (nI z), .ref pu, .int md])), (pt, .inl (cB, 128, .inl f)), (qd, .inr (0, [.ref qt, .int (nI z), .ref qu, .int md])), (qt, .inl (cE, 128, .inl f))]) [0, 1, 3, 4] rfl
    have hDc := hD.sub (ws' := [(pq, .inr (1, [.ref qd, .ref pt, .int (nI z), .ref pu, .int md])), (pt, .inl (cB, 128, .inl f)), (qd, .inr (0, [.ref qt, .int (nI z), .ref qu, .int md])), (qt, .inl (cE, 128, .inl f))]) [0, 1, 3, 4] (by decide) rfl
    have hKc := hK.sub (tys' := [(cB, .byte), (cE, .byte)]) [0, 2] rfl
    have hFc := va_free (wc := [(pq, .inr (1, [.ref qd, .ref pt, .int (nI z), .ref pu, .int md])), (pt, .inl (cB, 128, .inl f)), (qd, .inr (0, [.ref qt, .int (nI z), .ref qu, .int md])), (qt, .inl (cE, 128, .inl f))]) hD hS hA [0, 1, 3, 4] rfl
    refine va_calli (va_runV (As := [.int wa, .int wb, .int wc, .int wd]) (rest := []) ⟨hx, hb, hml, hown, hts⟩ (ud_X0_put l D s.heap.size pq pt pu qd qt qu z cB cE md f hz hf wa wb wc wd) (cwV 4 hts (lw_V q133 q135 qs8 q11 q136) rfl rfl rfl (by decide +kernel) ⟨Nat.le_of_ble_eq_true rfl, Nat.le_of_ble_eq_true rfl⟩) ⟨ud_fb, va_recv hKc hPc (ci := 1) (q0 := 0) rfl rfl, fun U hU hW => ⟨rfl, ud_go hPc hKc hDc U hU hW⟩⟩ rfl rfl hl.1 rfl (lv_room (Nat.le_of_ble_eq_true rfl)) dX0_step_55 ⟨Nat.le_of_ble_eq_true rfl, Nat.le_of_ble_eq_true rfl⟩) hS (fun q _ h => hFc q h) hFc (fun r u55 t H1 locs ht hvm hw hB hz1 hk1 hS => ?_)
    obtain ⟨z55, f55⟩ := u55
    obtain ⟨hr1, hz55, hf55⟩ := hw
    subst hr1
    obtain ⟨hP1, hK1, hD1⟩ := hB
    rw [ht] at hP1
    obtain ⟨hP, hD⟩ := va_join (wr := [(pu, .inl (cI, 160, .inl lu)), (qu, .inl (cC, 160, .inl du))]) (w1 := [(pq, .inr (1, [.ref qd, .ref pt, .int (nI z55), .ref pu, .int md])), (pt, .inl (cB, 128, .inl f55)), (qd, .inr (0, [.ref qt, .int (nI z55), .ref qu, .int md])), (qt, .inl (cE, 128, .inl f55))]) hP hD [0, 1, 3, 4] [2, 5] rfl rfl (by decide) (by decide) hk1 hFc hP1 hD1
    generalize H1 = H at hP hS ⊢
    have hP : va_P D ud_Cl [(pu, .inl (cI, 160, .inl lu)), (qu, .inl (cC, 160, .inl du)), (pq, .inr (1, [.ref qd, .ref pt, .int (nI z55), .ref pu, .int md])), (pt, .inl (cB, 128, .inl f55)), (qd, .inr (0, [.ref qt, .int (nI z55), .ref qu, .int md])), (qt, .inl (cE, 128, .inl f55))] H := hP
    have hD : va_D A [(pu, .inl (cI, 160, .inl lu)), (qu, .inl (cC, 160, .inl du)), (pq, .inr (1, [.ref qd, .ref pt, .int (nI z55), .ref pu, .int md])), (pt, .inl (cB, 128, .inl f55)), (qd, .inr (0, [.ref qt, .int (nI z55), .ref qu, .int md])), (qt, .inl (cE, 128, .inl f55))] := hD
    have hP := hP.sub (ws' := [(pq, .inr (1, [.ref qd, .ref pt, .int (nI z55), .ref pu, .int md])), (pt, .inl (cB, 128, .inl f55)), (pu, .inl (cI, 160, .inl lu)), (qd, .inr (0, [.ref qt, .int (nI z55), .ref qu, .int md])), (qt, .inl (cE, 128, .inl f55)), (qu, .inl (cC, 160, .inl du))]) [2, 3, 0, 4, 5, 1] rfl
    have hD := hD.sub (ws' := [(pq, .inr (1, [.ref qd, .ref pt, .int (nI z55), .ref pu, .int md])), (pt, .inl (cB, 128, .inl f55)), (pu, .inl (cI, 160, .inl lu)), (qd, .inr (0, [.ref qt, .int (nI z55), .ref qu, .int md])), (qt, .inl (cE, 128, .inl f55)), (qu, .inl (cC, 160, .inl du))]) [2, 3, 0, 4, 5, 1] (by decide) rfl
    refine W.widen (k := 1) (n := 4) (by omega) (by omega) ?_
    refine lv_if_eq (tgt := 74) hx hb dX0_step_58 (by decide) (fun c58 => ?_) (fun c58 => ?_)
    · exact absurd c58 (by decide)
    · refine lv_aload_n hx hb dX0_step_61 rfl (lv_at hl 0 rfl) ?_
      refine lv_iload hx hb dX0_step_62 (lv_at hl 6 rfl) ?_
      have hPc := hP.sub (ws' := [(pq, .inr (1, [.ref qd, .ref pt, .int (nI z55), .ref pu, .int md])), (pu, .inl (cI, 160, .inl lu)), (qd, .inr (0, [.ref qt, .int (nI z55), .ref qu, .int md])), (qu, .inl (cC, 160, .inl du))]) [0, 2, 3, 5] rfl
      have hDc := hD.sub (ws' := [(pq, .inr (1, [.ref qd, .ref pt, .int (nI z55), .ref pu, .int md])), (pu, .inl (cI, 160, .inl lu)), (qd, .inr (0, [.ref qt, .int (nI z55), .ref qu, .int md])), (qu, .inl (cC, 160, .inl du))]) [0, 2, 3, 5] (by decide) rfl
      have hKc := hK.sub (tys' := [(cI, .int), (cC, .char)]) [1, 3] rfl
      have hFc := va_free (wc := [(pq, .inr (1, [.ref qd, .ref pt, .int (nI z55), .ref pu, .int md])), (pu, .inl (cI, 160, .inl lu)), (qd, .inr (0, [.ref qt, .int (nI z55), .ref qu, .int md])), (qu, .inl (cC, 160, .inl du))]) hD hS hA [0, 2, 3, 5] rfl
      refine va_calli (va_runV (As := [.int we]) (rest := []) ⟨hx, hb, hml, hown, hts⟩ (ud_X0_isUnit l D H.size pq pt pu qd qt qu z55 cI cC md lu du hmk we) (cwV 1 hts (lw_V q125 q127 qs6 q11 q128) rfl rfl rfl (by decide +kernel) ⟨Nat.le_of_ble_eq_true rfl, Nat.le_of_ble_eq_true rfl⟩) ⟨ud_fb, va_recv hKc hPc (ci := 1) (q0 := 0) rfl rfl, fun U hU hW => ⟨rfl, ud_go hPc hKc hDc U hU hW⟩⟩ rfl rfl hl.1 rfl (lv_room (Nat.le_of_ble_eq_true rfl)) dX0_step_64 ⟨Nat.le_of_ble_eq_true rfl, Nat.le_of_ble_eq_true rfl⟩) hS (fun q _ h => hFc q h) hFc (fun r u t H1 locs ht hvm hw hB hz1 hk1 hS => ?_)
      obtain ⟨hP1, hK1, hD1⟩ := hB
      rw [ht] at hP1
      obtain ⟨hP, hD⟩ := va_join (wr := [(pt, .inl (cB, 128, .inl f55)), (qt, .inl (cE, 128, .inl f55))]) (w1 := [(pq, .inr (1, [.ref qd, .ref pt, .int (nI z55), .ref pu, .int md])), (pu, .inl (cI, 160, .inl lu)), (qd, .inr (0, [.ref qt, .int (nI z55), .ref qu, .int md])), (qu, .inl (cC, 160, .inl du))]) hP hD [0, 2, 3, 5] [1, 4] rfl rfl (by decide) (by decide) hk1 hFc hP1 hD1
      generalize H1 = H at hP hS ⊢
      have hP : va_P D ud_Cl [(pt, .inl (cB, 128, .inl f55)), (qt, .inl (cE, 128, .inl f55)), (pq, .inr (1, [.ref qd, .ref pt, .int (nI z55), .ref pu, .int md])), (pu, .inl (cI, 160, .inl lu)), (qd, .inr (0, [.ref qt, .int (nI z55), .ref qu, .int md])), (qu, .inl (cC, 160, .inl du))] H := hP
      have hD : va_D A [(pt, .inl (cB, 128, .inl f55)), (qt, .inl (cE, 128, .inl f55)), (pq, .inr (1, [.ref qd, .ref pt, .int (nI z55), .ref pu, .int md])), (pu, .inl (cI, 160, .inl lu)), (qd, .inr (0, [.ref qt, .int (nI z55), .ref qu, .int md])), (qu, .inl (cC, 160, .inl du))] := hD
      have hP := hP.sub (ws' := [(pq, .inr (1, [.ref qd, .ref pt, .int (nI z55), .ref pu, .int md])), (pt, .inl (cB, 128, .inl f55)), (pu, .inl (cI, 160, .inl lu)), (qd, .inr (0, [.ref qt, .int (nI z55), .ref qu, .int md])), (qt, .inl (cE, 128, .inl f55)), (qu, .inl (cC, 160, .inl du))]) [2, 0, 3, 4, 1, 5] rfl
      have hD := hD.sub (ws' := [(pq, .inr (1, [.ref qd, .ref pt, .int (nI z55), .ref pu, .int md])), (pt, .inl (cB, 128, .inl f55)), (pu, .inl (cI, 160, .inl lu)), (qd, .inr (0, [.ref qt, .int (nI z55), .ref qu, .int md])), (qt, .inl (cE, 128, .inl f55)), (qu, .inl (cC, 160, .inl du))]) [2, 0, 3, 4, 1, 5] (by decide) rfl
      subst hw
      refine lv_if_eq (tgt := 74) hx hb dX0_step_67 (by decide) (fun c67 => ?_) (fun c67 => ?_)
      · exact absurd c67 (by decide)
      · refine lv_iconst (v := 1) hx hb dX0_step_70 (by decide) ?_
        refine lv_goto (tgt := 75) hx hb dX0_step_71 (by decide) ?_
        have hP9 := hP.sub (ws' := [(pq, .inr (1, [.ref qd, .ref pt, .int (nI z55), .ref pu, .int md])), (pt, .inl (cB, 128, .inl f55)), (pu, .inl (cI, 160, .inl lu)), (qd, .inr (0, [.ref qt, .int (nI z55), .ref qu, .int md])), (qt, .inl (cE, 128, .inl f55)), (qu, .inl (cC, 160, .inl du))]) [0, 1, 2, 3, 4, 5] rfl
        have hD9 := hD.sub (ws' := [(pq, .inr (1, [.ref qd, .ref pt, .int (nI z55), .ref pu, .int md])), (pt, .inl (cB, 128, .inl f55)), (pu, .inl (cI, 160, .inl lu)), (qd, .inr (0, [.ref qt, .int (nI z55), .ref qu, .int md])), (qt, .inl (cE, 128, .inl f55)), (qu, .inl (cC, 160, .inl du))]) [0, 1, 2, 3, 4, 5] (by decide) rfl
        have hK9 := hK.sub (tys' := [(cB, .byte), (cI, .int), (cE, .byte), (cC, .char)]) [0, 1, 2, 3] rfl
        refine W.widen (k := 4) (n := 576) (by omega) (by omega) ?_
        exact W.zret (v := 1) hx hb hr rfl (fun t ht hW => ⟨⟨1, (z55, f55, md, lu, du), rfl, ⟨rfl, hz55, hf55, hmk⟩, ud_end ht hW hP9 hK9 hD9⟩, hS.F ht⟩) hS.2.2 dX0_step_75
  · refine lv_tableIn (off := 72) (tgt := 76) hx hb dX0_step_4 (by decide) (by decide) (by decide) (by decide) ?_
    refine lv_aload_n hx hb dX0_step_76 rfl (lv_at hl 0 rfl) ?_
    refine lv_iload_n hx hb dX0_step_77 rfl (lv_at hl 2 rfl) ?_
    refine lv_ldc hx hb hown (hts _ q144) dX0_step_78 ?_
    refine lv_iand hx hb dX0_step_80 ?_
    refine lv_iload_n hx hb dX0_step_81 rfl (lv_at hl 3 rfl) ?_
    refine lv_ldc hx hb hown (hts _ q144) dX0_step_82 ?_
    refine lv_iand hx hb dX0_step_84 ?_
    refine lv_iload hx hb dX0_step_85 (lv_at hl 4 rfl) ?_
    refine lv_ldc hx hb hown (hts _ q144) dX0_step_87 ?_
    refine lv_iand hx hb dX0_step_89 ?_
    refine lv_iload hx hb dX0_step_90 (lv_at hl 5 rfl) ?_
    refine lv_ldc hx hb hown (hts _ q144) dX0_step_92 ?_
    refine lv_iand hx hb dX0_step_94 ?_
    have hPc := hP.sub (ws' := [(pq, .inr (1, [.ref qd, .ref pt, .int (nI z), .ref pu, .int md])), (pt, .inl (cB, 128, .inl f)), (qd, .inr (0, [.ref qt, .int (nI z), .ref qu, .int md])), (qt, .inl (cE, 128, .inl f))]) [0, 1, 3, 4] rfl
    have hDc := hD.sub (ws' := [(pq, .inr (1, [.ref qd, .ref pt, .int (nI z), .ref pu, .int md])), (pt, .inl (cB, 128, .inl f)), (qd, .inr (0, [.ref qt, .int (nI z), .ref qu, .int md])), (qt, .inl (cE, 128, .inl f))]) [0, 1, 3, 4] (by decide) rfl
    have hKc := hK.sub (tys' := [(cB, .byte), (cE, .byte)]) [0, 2] rfl
    have hFc := va_free (wc := [(pq, .inr (1, [.ref qd, .ref pt, .int (nI z), .ref pu, .int md])), (pt, .inl (cB, 128, .inl f)), (qd, .inr (0, [.ref qt, .int (nI z), .ref qu, .int md])), (qt, .inl (cE, 128, .inl f))]) hD hS hA [0, 1, 3, 4] rfl
    refine va_calli (va_runV (As := [.int (wa &&& 2139062143), .int (wb &&& 2139062143), .int (wc &&& 2139062143), .int (wd &&& 2139062143)]) (rest := []) ⟨hx, hb, hml, hown, hts⟩ (ud_X0_put l D s.heap.size pq pt pu qd qt qu z cB cE md f hz hf (wa &&& 2139062143) (wb &&& 2139062143) (wc &&& 2139062143) (wd &&& 2139062143)) (cwV 4 hts (lw_V q133 q135 qs8 q11 q136) rfl rfl rfl (by decide +kernel) ⟨Nat.le_of_ble_eq_true rfl, Nat.le_of_ble_eq_true rfl⟩) ⟨ud_fb, va_recv hKc hPc (ci := 1) (q0 := 0) rfl rfl, fun U hU hW => ⟨rfl, ud_go hPc hKc hDc U hU hW⟩⟩ rfl rfl hl.1 rfl (lv_room (Nat.le_of_ble_eq_true rfl)) dX0_step_95 ⟨Nat.le_of_ble_eq_true rfl, Nat.le_of_ble_eq_true rfl⟩) hS (fun q _ h => hFc q h) hFc (fun r u95 t H1 locs ht hvm hw hB hz1 hk1 hS => ?_)
    obtain ⟨z95, f95⟩ := u95
    obtain ⟨hr1, hz95, hf95⟩ := hw
    subst hr1
    obtain ⟨hP1, hK1, hD1⟩ := hB
    rw [ht] at hP1
    obtain ⟨hP, hD⟩ := va_join (wr := [(pu, .inl (cI, 160, .inl lu)), (qu, .inl (cC, 160, .inl du))]) (w1 := [(pq, .inr (1, [.ref qd, .ref pt, .int (nI z95), .ref pu, .int md])), (pt, .inl (cB, 128, .inl f95)), (qd, .inr (0, [.ref qt, .int (nI z95), .ref qu, .int md])), (qt, .inl (cE, 128, .inl f95))]) hP hD [0, 1, 3, 4] [2, 5] rfl rfl (by decide) (by decide) hk1 hFc hP1 hD1
    generalize H1 = H at hP hS ⊢
    have hP : va_P D ud_Cl [(pu, .inl (cI, 160, .inl lu)), (qu, .inl (cC, 160, .inl du)), (pq, .inr (1, [.ref qd, .ref pt, .int (nI z95), .ref pu, .int md])), (pt, .inl (cB, 128, .inl f95)), (qd, .inr (0, [.ref qt, .int (nI z95), .ref qu, .int md])), (qt, .inl (cE, 128, .inl f95))] H := hP
    have hD : va_D A [(pu, .inl (cI, 160, .inl lu)), (qu, .inl (cC, 160, .inl du)), (pq, .inr (1, [.ref qd, .ref pt, .int (nI z95), .ref pu, .int md])), (pt, .inl (cB, 128, .inl f95)), (qd, .inr (0, [.ref qt, .int (nI z95), .ref qu, .int md])), (qt, .inl (cE, 128, .inl f95))] := hD
    have hP := hP.sub (ws' := [(pq, .inr (1, [.ref qd, .ref pt, .int (nI z95), .ref pu, .int md])), (pt, .inl (cB, 128, .inl f95)), (pu, .inl (cI, 160, .inl lu)), (qd, .inr (0, [.ref qt, .int (nI z95), .ref qu, .int md])), (qt, .inl (cE, 128, .inl f95)), (qu, .inl (cC, 160, .inl du))]) [2, 3, 0, 4, 5, 1] rfl
    have hD := hD.sub (ws' := [(pq, .inr (1, [.ref qd, .ref pt, .int (nI z95), .ref pu, .int md])), (pt, .inl (cB, 128, .inl f95)), (pu, .inl (cI, 160, .inl lu)), (qd, .inr (0, [.ref qt, .int (nI z95), .ref qu, .int md])), (qt, .inl (cE, 128, .inl f95)), (qu, .inl (cC, 160, .inl du))]) [2, 3, 0, 4, 5, 1] (by decide) rfl
    refine W.widen (k := 1) (n := 4) (by omega) (by omega) ?_
    refine lv_if_eq (tgt := 122) hx hb dX0_step_98 (by decide) (fun c98 => ?_) (fun c98 => ?_)
    · exact absurd c98 (by decide)
    · refine lv_aload_n hx hb dX0_step_101 rfl (lv_at hl 0 rfl) ?_
      refine lv_iconst (v := 0) hx hb dX0_step_102 (by decide) ?_
      refine lv_aload_n hx hb dX0_step_103 rfl (lv_at hl 0 rfl) ?_
      refine va_get (D := D) (ci := 1) (v := .int (nI z95)) (C := RX0) (T := TX0) (N := 5) hx hb hts in_X0 hown hK hP 0 rfl rfl 2 (by decide) (hts _ q50) (fun _ h9 => h9) rfl dX0_step_104 ?_
      refine lv_sipush (v := 160) hx hb dX0_step_107 (by decide) ?_
      refine lv_iload hx hb dX0_step_110 (lv_at hl 6 rfl) ?_
      have hPc := hP.sub (ws' := [(pq, .inr (1, [.ref qd, .ref pt, .int (nI z95), .ref pu, .int md])), (pt, .inl (cB, 128, .inl f95)), (pu, .inl (cI, 160, .inl lu)), (qd, .inr (0, [.ref qt, .int (nI z95), .ref qu, .int md])), (qt, .inl (cE, 128, .inl f95)), (qu, .inl (cC, 160, .inl du))]) [0, 1, 2, 3, 4, 5] rfl
      have hDc := hD.sub (ws' := [(pq, .inr (1, [.ref qd, .ref pt, .int (nI z95), .ref pu, .int md])), (pt, .inl (cB, 128, .inl f95)), (pu, .inl (cI, 160, .inl lu)), (qd, .inr (0, [.ref qt, .int (nI z95), .ref qu, .int md])), (qt, .inl (cE, 128, .inl f95)), (qu, .inl (cC, 160, .inl du))]) [0, 1, 2, 3, 4, 5] (by decide) rfl
      have hKc := hK.sub (tys' := [(cB, .byte), (cI, .int), (cE, .byte), (cC, .char)]) [0, 1, 2, 3] rfl
      have hFc := va_free (wc := [(pq, .inr (1, [.ref qd, .ref pt, .int (nI z95), .ref pu, .int md])), (pt, .inl (cB, 128, .inl f95)), (pu, .inl (cI, 160, .inl lu)), (qd, .inr (0, [.ref qt, .int (nI z95), .ref qu, .int md])), (qt, .inl (cE, 128, .inl f95)), (qu, .inl (cC, 160, .inl du))]) hD hS hA [0, 1, 2, 3, 4, 5] rfl
      refine va_calli (va_runV (As := [.int 0, .int (nI z95), .int 160, .int we]) (rest := []) ⟨hx, hb, hml, hown, hts⟩ (ud_X0_turns l D H.size t1 t2 pq pt pu qd qt qu z95 cB cI cE cC md f95 lu du hz95 hf95 0 (nI z95) 160 we) (cwV 4 hts (lw_V q68 q70 qs0 q11 q71) rfl rfl rfl (by decide +kernel) ⟨Nat.le_of_ble_eq_true rfl, Nat.le_of_ble_eq_true rfl⟩) ⟨ud_fbt, va_recv hKc hPc (ci := 1) (q0 := 0) rfl rfl, fun U hU hW => ⟨rfl, ud_got hPc hKc hDc hTb hS hFc U hU hW⟩⟩ rfl rfl hl.1 rfl (lv_room (Nat.le_of_ble_eq_true rfl)) dX0_step_112 ⟨Nat.le_of_ble_eq_true rfl, Nat.le_of_ble_eq_true rfl⟩) hS (fun q _ h => hFc q h) hFc (fun r u112 t H1 locs ht hvm hw hB hz1 hk1 hS => ?_)
      obtain ⟨md112, lu112, du112⟩ := u112
      obtain ⟨hr1, hmk112, -⟩ := hw
      subst hr1
      obtain ⟨hP1, hK1, hD1⟩ := hB
      rw [ht] at hP1
      obtain ⟨hP, hD⟩ := va_join (wr := []) (w1 := [(pq, .inr (1, [.ref qd, .ref pt, .int (nI z95), .ref pu, .int md112])), (pt, .inl (cB, 128, .inl f95)), (pu, .inl (cI, 160, .inl lu112)), (qd, .inr (0, [.ref qt, .int (nI z95), .ref qu, .int md112])), (qt, .inl (cE, 128, .inl f95)), (qu, .inl (cC, 160, .inl du112))]) hP hD [0, 1, 2, 3, 4, 5] [] rfl rfl (by decide) (by decide) hk1 hFc hP1 hD1
      generalize H1 = H at hP hS ⊢
      have hP : va_P D ud_Cl [(pq, .inr (1, [.ref qd, .ref pt, .int (nI z95), .ref pu, .int md112])), (pt, .inl (cB, 128, .inl f95)), (pu, .inl (cI, 160, .inl lu112)), (qd, .inr (0, [.ref qt, .int (nI z95), .ref qu, .int md112])), (qt, .inl (cE, 128, .inl f95)), (qu, .inl (cC, 160, .inl du112))] H := hP
      have hD : va_D A [(pq, .inr (1, [.ref qd, .ref pt, .int (nI z95), .ref pu, .int md112])), (pt, .inl (cB, 128, .inl f95)), (pu, .inl (cI, 160, .inl lu112)), (qd, .inr (0, [.ref qt, .int (nI z95), .ref qu, .int md112])), (qt, .inl (cE, 128, .inl f95)), (qu, .inl (cC, 160, .inl du112))] := hD
      refine W.widen (k := 3) (n := 292) (by omega) (by omega) ?_
      refine lv_if_eq (tgt := 122) hx hb dX0_step_115 (by decide) (fun c115 => ?_) (fun c115 => ?_)
      · exact absurd c115 (by decide)
      · refine lv_iconst (v := 1) hx hb dX0_step_118 (by decide) ?_
        refine lv_goto (tgt := 123) hx hb dX0_step_119 (by decide) ?_
        have hP9 := hP.sub (ws' := [(pq, .inr (1, [.ref qd, .ref pt, .int (nI z95), .ref pu, .int md112])), (pt, .inl (cB, 128, .inl f95)), (pu, .inl (cI, 160, .inl lu112)), (qd, .inr (0, [.ref qt, .int (nI z95), .ref qu, .int md112])), (qt, .inl (cE, 128, .inl f95)), (qu, .inl (cC, 160, .inl du112))]) [0, 1, 2, 3, 4, 5] rfl
        have hD9 := hD.sub (ws' := [(pq, .inr (1, [.ref qd, .ref pt, .int (nI z95), .ref pu, .int md112])), (pt, .inl (cB, 128, .inl f95)), (pu, .inl (cI, 160, .inl lu112)), (qd, .inr (0, [.ref qt, .int (nI z95), .ref qu, .int md112])), (qt, .inl (cE, 128, .inl f95)), (qu, .inl (cC, 160, .inl du112))]) [0, 1, 2, 3, 4, 5] (by decide) rfl
        have hK9 := hK.sub (tys' := [(cB, .byte), (cI, .int), (cE, .byte), (cC, .char)]) [0, 1, 2, 3] rfl
        refine W.widen (k := 4) (n := 576) (by omega) (by omega) ?_
        exact W.zret (v := 1) hx hb hr rfl (fun t ht hW => ⟨⟨1, (z95, f95, md112, lu112, du112), rfl, ⟨rfl, hz95, hf95, hmk112⟩, ud_end ht hW hP9 hK9 hD9⟩, hS.F ht⟩) hS.2.2 dX0_step_123
  · refine lv_tableIn (off := 120) (tgt := 124) hx hb dX0_step_4 (by decide) (by decide) (by decide) (by decide) ?_
    refine lv_aload_n hx hb dX0_step_124 rfl (lv_at hl 0 rfl) ?_
    refine lv_iload_n hx hb dX0_step_125 rfl (lv_at hl 2 rfl) ?_
    refine lv_iload_n hx hb dX0_step_126 rfl (lv_at hl 3 rfl) ?_
    refine lv_iload hx hb dX0_step_127 (lv_at hl 4 rfl) ?_
    have hPc := hP.sub (ws' := [(pq, .inr (1, [.ref qd, .ref pt, .int (nI z), .ref pu, .int md])), (pt, .inl (cB, 128, .inl f)), (pu, .inl (cI, 160, .inl lu)), (qd, .inr (0, [.ref qt, .int (nI z), .ref qu, .int md])), (qt, .inl (cE, 128, .inl f)), (qu, .inl (cC, 160, .inl du))]) [0, 1, 2, 3, 4, 5] rfl
    have hDc := hD.sub (ws' := [(pq, .inr (1, [.ref qd, .ref pt, .int (nI z), .ref pu, .int md])), (pt, .inl (cB, 128, .inl f)), (pu, .inl (cI, 160, .inl lu)), (qd, .inr (0, [.ref qt, .int (nI z), .ref qu, .int md])), (qt, .inl (cE, 128, .inl f)), (qu, .inl (cC, 160, .inl du))]) [0, 1, 2, 3, 4, 5] (by decide) rfl
    have hKc := hK.sub (tys' := [(cB, .byte), (cI, .int), (cE, .byte), (cC, .char)]) [0, 1, 2, 3] rfl
    have hFc := va_free (wc := [(pq, .inr (1, [.ref qd, .ref pt, .int (nI z), .ref pu, .int md])), (pt, .inl (cB, 128, .inl f)), (pu, .inl (cI, 160, .inl lu)), (qd, .inr (0, [.ref qt, .int (nI z), .ref qu, .int md])), (qt, .inl (cE, 128, .inl f)), (qu, .inl (cC, 160, .inl du))]) hD hS hA [0, 1, 2, 3, 4, 5] rfl
    refine va_calli (va_runV (As := [.int wa, .int wb, .int wc]) (rest := []) ⟨hx, hb, hml, hown, hts⟩ (ud_X0_letter l D s.heap.size t1 t2 pq pt pu qd qt qu z cB cI cE cC md f lu du hz hf hmk wa wb wc) (cwV 3 hts (lw_V q145 q147 qs9 q11 q148) rfl rfl rfl (by decide +kernel) ⟨Nat.le_of_ble_eq_true rfl, Nat.le_of_ble_eq_true rfl⟩) ⟨ud_fbt, va_recv hKc hPc (ci := 1) (q0 := 0) rfl rfl, fun U hU hW => ⟨rfl, ud_got hPc hKc hDc hTb hS hFc U hU hW⟩⟩ rfl rfl hl.1 rfl (lv_room (Nat.le_of_ble_eq_true rfl)) dX0_step_129 ⟨Nat.le_of_ble_eq_true rfl, Nat.le_of_ble_eq_true rfl⟩) hS (fun q _ h => hFc q h) hFc (fun r u129 t H1 locs ht hvm hw hB hz1 hk1 hS => ?_)
    obtain ⟨f129, md129, lu129, du129⟩ := u129
    obtain ⟨hr1, hf129, hmk129⟩ := hw
    subst hr1
    obtain ⟨hP1, hK1, hD1⟩ := hB
    rw [ht] at hP1
    obtain ⟨hP, hD⟩ := va_join (wr := []) (w1 := [(pq, .inr (1, [.ref qd, .ref pt, .int (nI z), .ref pu, .int md129])), (pt, .inl (cB, 128, .inl f129)), (pu, .inl (cI, 160, .inl lu129)), (qd, .inr (0, [.ref qt, .int (nI z), .ref qu, .int md129])), (qt, .inl (cE, 128, .inl f129)), (qu, .inl (cC, 160, .inl du129))]) hP hD [0, 1, 2, 3, 4, 5] [] rfl rfl (by decide) (by decide) hk1 hFc hP1 hD1
    generalize H1 = H at hP hS ⊢
    have hP : va_P D ud_Cl [(pq, .inr (1, [.ref qd, .ref pt, .int (nI z), .ref pu, .int md129])), (pt, .inl (cB, 128, .inl f129)), (pu, .inl (cI, 160, .inl lu129)), (qd, .inr (0, [.ref qt, .int (nI z), .ref qu, .int md129])), (qt, .inl (cE, 128, .inl f129)), (qu, .inl (cC, 160, .inl du129))] H := hP
    have hD : va_D A [(pq, .inr (1, [.ref qd, .ref pt, .int (nI z), .ref pu, .int md129])), (pt, .inl (cB, 128, .inl f129)), (pu, .inl (cI, 160, .inl lu129)), (qd, .inr (0, [.ref qt, .int (nI z), .ref qu, .int md129])), (qt, .inl (cE, 128, .inl f129)), (qu, .inl (cC, 160, .inl du129))] := hD
    refine W.widen (k := 2) (n := 288) (by omega) (by omega) ?_
    refine lv_if_eq (tgt := 155) hx hb dX0_step_132 (by decide) (fun c132 => ?_) (fun c132 => ?_)
    · exact absurd c132 (by decide)
    · refine lv_aload_n hx hb dX0_step_135 rfl (lv_at hl 0 rfl) ?_
      refine lv_iload hx hb dX0_step_136 (lv_at hl 5 rfl) ?_
      refine lv_iload hx hb dX0_step_138 (lv_at hl 6 rfl) ?_
      refine lv_ldc hx hb hown (hts _ q94) dX0_step_140 ?_
      refine lv_iand hx hb dX0_step_142 ?_
      refine lv_iload hx hb dX0_step_143 (lv_at hl 4 rfl) ?_
      have hPc := hP.sub (ws' := [(pq, .inr (1, [.ref qd, .ref pt, .int (nI z), .ref pu, .int md129])), (pt, .inl (cB, 128, .inl f129)), (pu, .inl (cI, 160, .inl lu129)), (qd, .inr (0, [.ref qt, .int (nI z), .ref qu, .int md129])), (qt, .inl (cE, 128, .inl f129)), (qu, .inl (cC, 160, .inl du129))]) [0, 1, 2, 3, 4, 5] rfl
      have hDc := hD.sub (ws' := [(pq, .inr (1, [.ref qd, .ref pt, .int (nI z), .ref pu, .int md129])), (pt, .inl (cB, 128, .inl f129)), (pu, .inl (cI, 160, .inl lu129)), (qd, .inr (0, [.ref qt, .int (nI z), .ref qu, .int md129])), (qt, .inl (cE, 128, .inl f129)), (qu, .inl (cC, 160, .inl du129))]) [0, 1, 2, 3, 4, 5] (by decide) rfl
      have hKc := hK.sub (tys' := [(cB, .byte), (cI, .int), (cE, .byte), (cC, .char)]) [0, 1, 2, 3] rfl
      have hFc := va_free (wc := [(pq, .inr (1, [.ref qd, .ref pt, .int (nI z), .ref pu, .int md129])), (pt, .inl (cB, 128, .inl f129)), (pu, .inl (cI, 160, .inl lu129)), (qd, .inr (0, [.ref qt, .int (nI z), .ref qu, .int md129])), (qt, .inl (cE, 128, .inl f129)), (qu, .inl (cC, 160, .inl du129))]) hD hS hA [0, 1, 2, 3, 4, 5] rfl
      refine va_calli (va_runV (As := [.int wd, .int (we &&& 65535), .int wc]) (rest := []) ⟨hx, hb, hml, hown, hts⟩ (ud_X0_letter l D H.size t1 t2 pq pt pu qd qt qu z cB cI cE cC md129 f129 lu129 du129 hz hf129 hmk129 wd (we &&& 65535) wc) (cwV 3 hts (lw_V q145 q147 qs9 q11 q148) rfl rfl rfl (by decide +kernel) ⟨Nat.le_of_ble_eq_true rfl, Nat.le_of_ble_eq_true rfl⟩) ⟨ud_fbt, va_recv hKc hPc (ci := 1) (q0 := 0) rfl rfl, fun U hU hW => ⟨rfl, ud_got hPc hKc hDc hTb hS hFc U hU hW⟩⟩ rfl rfl hl.1 rfl (lv_room (Nat.le_of_ble_eq_true rfl)) dX0_step_145 ⟨Nat.le_of_ble_eq_true rfl, Nat.le_of_ble_eq_true rfl⟩) hS (fun q _ h => hFc q h) hFc (fun r u145 t H1 locs ht hvm hw hB hz1 hk1 hS => ?_)
      obtain ⟨f145, md145, lu145, du145⟩ := u145
      obtain ⟨hr1, hf145, hmk145⟩ := hw
      subst hr1
      obtain ⟨hP1, hK1, hD1⟩ := hB
      rw [ht] at hP1
      obtain ⟨hP, hD⟩ := va_join (wr := []) (w1 := [(pq, .inr (1, [.ref qd, .ref pt, .int (nI z), .ref pu, .int md145])), (pt, .inl (cB, 128, .inl f145)), (pu, .inl (cI, 160, .inl lu145)), (qd, .inr (0, [.ref qt, .int (nI z), .ref qu, .int md145])), (qt, .inl (cE, 128, .inl f145)), (qu, .inl (cC, 160, .inl du145))]) hP hD [0, 1, 2, 3, 4, 5] [] rfl rfl (by decide) (by decide) hk1 hFc hP1 hD1
      generalize H1 = H at hP hS ⊢
      have hP : va_P D ud_Cl [(pq, .inr (1, [.ref qd, .ref pt, .int (nI z), .ref pu, .int md145])), (pt, .inl (cB, 128, .inl f145)), (pu, .inl (cI, 160, .inl lu145)), (qd, .inr (0, [.ref qt, .int (nI z), .ref qu, .int md145])), (qt, .inl (cE, 128, .inl f145)), (qu, .inl (cC, 160, .inl du145))] H := hP
      have hD : va_D A [(pq, .inr (1, [.ref qd, .ref pt, .int (nI z), .ref pu, .int md145])), (pt, .inl (cB, 128, .inl f145)), (pu, .inl (cI, 160, .inl lu145)), (qd, .inr (0, [.ref qt, .int (nI z), .ref qu, .int md145])), (qt, .inl (cE, 128, .inl f145)), (qu, .inl (cC, 160, .inl du145))] := hD
      refine W.widen (k := 4) (n := 576) (by omega) (by omega) ?_
      refine lv_if_eq (tgt := 155) hx hb dX0_step_148 (by decide) (fun c148 => ?_) (fun c148 => ?_)
      · exact absurd c148 (by decide)
      · refine lv_iconst (v := 1) hx hb dX0_step_151 (by decide) ?_
        refine lv_goto (tgt := 156) hx hb dX0_step_152 (by decide) ?_
        have hP9 := hP.sub (ws' := [(pq, .inr (1, [.ref qd, .ref pt, .int (nI z), .ref pu, .int md145])), (pt, .inl (cB, 128, .inl f145)), (pu, .inl (cI, 160, .inl lu145)), (qd, .inr (0, [.ref qt, .int (nI z), .ref qu, .int md145])), (qt, .inl (cE, 128, .inl f145)), (qu, .inl (cC, 160, .inl du145))]) [0, 1, 2, 3, 4, 5] rfl
        have hD9 := hD.sub (ws' := [(pq, .inr (1, [.ref qd, .ref pt, .int (nI z), .ref pu, .int md145])), (pt, .inl (cB, 128, .inl f145)), (pu, .inl (cI, 160, .inl lu145)), (qd, .inr (0, [.ref qt, .int (nI z), .ref qu, .int md145])), (qt, .inl (cE, 128, .inl f145)), (qu, .inl (cC, 160, .inl du145))]) [0, 1, 2, 3, 4, 5] (by decide) rfl
        have hK9 := hK.sub (tys' := [(cB, .byte), (cI, .int), (cE, .byte), (cC, .char)]) [0, 1, 2, 3] rfl
        refine W.widen (k := 4) (n := 576) (by omega) (by omega) ?_
        exact W.zret (v := 1) hx hb hr rfl (fun t ht hW => ⟨⟨1, (z, f145, md145, lu145, du145), rfl, ⟨rfl, hz, hf145, hmk145⟩, ud_end ht hW hP9 hK9 hD9⟩, hS.F ht⟩) hS.2.2 dX0_step_156
  · refine lv_tableIn (off := 153) (tgt := 157) hx hb dX0_step_4 (by decide) (by decide) (by decide) (by decide) ?_
    refine lv_aload_n hx hb dX0_step_157 rfl (lv_at hl 0 rfl) ?_
    refine lv_iload_n hx hb dX0_step_158 rfl (lv_at hl 2 rfl) ?_
    refine lv_iload_n hx hb dX0_step_159 rfl (lv_at hl 3 rfl) ?_
    refine lv_sipush (v := 2047) hx hb dX0_step_160 (by decide) ?_
    refine lv_iand hx hb dX0_step_163 ?_
    refine lv_iload hx hb dX0_step_164 (lv_at hl 4 rfl) ?_
    have hPc := hP.sub (ws' := [(pq, .inr (1, [.ref qd, .ref pt, .int (nI z), .ref pu, .int md])), (pt, .inl (cB, 128, .inl f)), (pu, .inl (cI, 160, .inl lu)), (qd, .inr (0, [.ref qt, .int (nI z), .ref qu, .int md])), (qt, .inl (cE, 128, .inl f)), (qu, .inl (cC, 160, .inl du))]) [0, 1, 2, 3, 4, 5] rfl
    have hDc := hD.sub (ws' := [(pq, .inr (1, [.ref qd, .ref pt, .int (nI z), .ref pu, .int md])), (pt, .inl (cB, 128, .inl f)), (pu, .inl (cI, 160, .inl lu)), (qd, .inr (0, [.ref qt, .int (nI z), .ref qu, .int md])), (qt, .inl (cE, 128, .inl f)), (qu, .inl (cC, 160, .inl du))]) [0, 1, 2, 3, 4, 5] (by decide) rfl
    have hKc := hK.sub (tys' := [(cB, .byte), (cI, .int), (cE, .byte), (cC, .char)]) [0, 1, 2, 3] rfl
    have hFc := va_free (wc := [(pq, .inr (1, [.ref qd, .ref pt, .int (nI z), .ref pu, .int md])), (pt, .inl (cB, 128, .inl f)), (pu, .inl (cI, 160, .inl lu)), (qd, .inr (0, [.ref qt, .int (nI z), .ref qu, .int md])), (qt, .inl (cE, 128, .inl f)), (qu, .inl (cC, 160, .inl du))]) hD hS hA [0, 1, 2, 3, 4, 5] rfl
    refine va_calli (va_runV (As := [.int wa, .int (wb &&& 2047), .int wc]) (rest := []) ⟨hx, hb, hml, hown, hts⟩ (ud_X0_letter l D s.heap.size t1 t2 pq pt pu qd qt qu z cB cI cE cC md f lu du hz hf hmk wa (wb &&& 2047) wc) (cwV 3 hts (lw_V q145 q147 qs9 q11 q148) rfl rfl rfl (by decide +kernel) ⟨Nat.le_of_ble_eq_true rfl, Nat.le_of_ble_eq_true rfl⟩) ⟨ud_fbt, va_recv hKc hPc (ci := 1) (q0 := 0) rfl rfl, fun U hU hW => ⟨rfl, ud_got hPc hKc hDc hTb hS hFc U hU hW⟩⟩ rfl rfl hl.1 rfl (lv_room (Nat.le_of_ble_eq_true rfl)) dX0_step_166 ⟨Nat.le_of_ble_eq_true rfl, Nat.le_of_ble_eq_true rfl⟩) hS (fun q _ h => hFc q h) hFc (fun r u166 t H1 locs ht hvm hw hB hz1 hk1 hS => ?_)
    obtain ⟨f166, md166, lu166, du166⟩ := u166
    obtain ⟨hr1, hf166, hmk166⟩ := hw
    subst hr1
    obtain ⟨hP1, hK1, hD1⟩ := hB
    rw [ht] at hP1
    obtain ⟨hP, hD⟩ := va_join (wr := []) (w1 := [(pq, .inr (1, [.ref qd, .ref pt, .int (nI z), .ref pu, .int md166])), (pt, .inl (cB, 128, .inl f166)), (pu, .inl (cI, 160, .inl lu166)), (qd, .inr (0, [.ref qt, .int (nI z), .ref qu, .int md166])), (qt, .inl (cE, 128, .inl f166)), (qu, .inl (cC, 160, .inl du166))]) hP hD [0, 1, 2, 3, 4, 5] [] rfl rfl (by decide) (by decide) hk1 hFc hP1 hD1
    generalize H1 = H at hP hS ⊢
    have hP : va_P D ud_Cl [(pq, .inr (1, [.ref qd, .ref pt, .int (nI z), .ref pu, .int md166])), (pt, .inl (cB, 128, .inl f166)), (pu, .inl (cI, 160, .inl lu166)), (qd, .inr (0, [.ref qt, .int (nI z), .ref qu, .int md166])), (qt, .inl (cE, 128, .inl f166)), (qu, .inl (cC, 160, .inl du166))] H := hP
    have hD : va_D A [(pq, .inr (1, [.ref qd, .ref pt, .int (nI z), .ref pu, .int md166])), (pt, .inl (cB, 128, .inl f166)), (pu, .inl (cI, 160, .inl lu166)), (qd, .inr (0, [.ref qt, .int (nI z), .ref qu, .int md166])), (qt, .inl (cE, 128, .inl f166)), (qu, .inl (cC, 160, .inl du166))] := hD
    refine W.widen (k := 2) (n := 288) (by omega) (by omega) ?_
    refine lv_if_eq (tgt := 196) hx hb dX0_step_169 (by decide) (fun c169 => ?_) (fun c169 => ?_)
    · exact absurd c169 (by decide)
    · refine lv_aload_n hx hb dX0_step_172 rfl (lv_at hl 0 rfl) ?_
      refine lv_iload hx hb dX0_step_173 (lv_at hl 5 rfl) ?_
      refine lv_ldc hx hb hown (hts _ q92) dX0_step_175 ?_
      refine lv_iload hx hb dX0_step_177 (lv_at hl 6 rfl) ?_
      refine lv_sipush (v := 8191) hx hb dX0_step_179 (by decide) ?_
      refine lv_iand hx hb dX0_step_182 ?_
      refine lv_iadd hx hb dX0_step_183 ?_
      refine lv_iload hx hb dX0_step_184 (lv_at hl 4 rfl) ?_
      have hPc := hP.sub (ws' := [(pq, .inr (1, [.ref qd, .ref pt, .int (nI z), .ref pu, .int md166])), (pt, .inl (cB, 128, .inl f166)), (pu, .inl (cI, 160, .inl lu166)), (qd, .inr (0, [.ref qt, .int (nI z), .ref qu, .int md166])), (qt, .inl (cE, 128, .inl f166)), (qu, .inl (cC, 160, .inl du166))]) [0, 1, 2, 3, 4, 5] rfl
      have hDc := hD.sub (ws' := [(pq, .inr (1, [.ref qd, .ref pt, .int (nI z), .ref pu, .int md166])), (pt, .inl (cB, 128, .inl f166)), (pu, .inl (cI, 160, .inl lu166)), (qd, .inr (0, [.ref qt, .int (nI z), .ref qu, .int md166])), (qt, .inl (cE, 128, .inl f166)), (qu, .inl (cC, 160, .inl du166))]) [0, 1, 2, 3, 4, 5] (by decide) rfl
      have hKc := hK.sub (tys' := [(cB, .byte), (cI, .int), (cE, .byte), (cC, .char)]) [0, 1, 2, 3] rfl
      have hFc := va_free (wc := [(pq, .inr (1, [.ref qd, .ref pt, .int (nI z), .ref pu, .int md166])), (pt, .inl (cB, 128, .inl f166)), (pu, .inl (cI, 160, .inl lu166)), (qd, .inr (0, [.ref qt, .int (nI z), .ref qu, .int md166])), (qt, .inl (cE, 128, .inl f166)), (qu, .inl (cC, 160, .inl du166))]) hD hS hA [0, 1, 2, 3, 4, 5] rfl
      refine va_calli (va_runV (As := [.int wd, .int (55296 + (we &&& 8191)), .int wc]) (rest := []) ⟨hx, hb, hml, hown, hts⟩ (ud_X0_letter l D H.size t1 t2 pq pt pu qd qt qu z cB cI cE cC md166 f166 lu166 du166 hz hf166 hmk166 wd (55296 + (we &&& 8191)) wc) (cwV 3 hts (lw_V q145 q147 qs9 q11 q148) rfl rfl rfl (by decide +kernel) ⟨Nat.le_of_ble_eq_true rfl, Nat.le_of_ble_eq_true rfl⟩) ⟨ud_fbt, va_recv hKc hPc (ci := 1) (q0 := 0) rfl rfl, fun U hU hW => ⟨rfl, ud_got hPc hKc hDc hTb hS hFc U hU hW⟩⟩ rfl rfl hl.1 rfl (lv_room (Nat.le_of_ble_eq_true rfl)) dX0_step_186 ⟨Nat.le_of_ble_eq_true rfl, Nat.le_of_ble_eq_true rfl⟩) hS (fun q _ h => hFc q h) hFc (fun r u186 t H1 locs ht hvm hw hB hz1 hk1 hS => ?_)
      obtain ⟨f186, md186, lu186, du186⟩ := u186
      obtain ⟨hr1, hf186, hmk186⟩ := hw
      subst hr1
      obtain ⟨hP1, hK1, hD1⟩ := hB
      rw [ht] at hP1
      obtain ⟨hP, hD⟩ := va_join (wr := []) (w1 := [(pq, .inr (1, [.ref qd, .ref pt, .int (nI z), .ref pu, .int md186])), (pt, .inl (cB, 128, .inl f186)), (pu, .inl (cI, 160, .inl lu186)), (qd, .inr (0, [.ref qt, .int (nI z), .ref qu, .int md186])), (qt, .inl (cE, 128, .inl f186)), (qu, .inl (cC, 160, .inl du186))]) hP hD [0, 1, 2, 3, 4, 5] [] rfl rfl (by decide) (by decide) hk1 hFc hP1 hD1
      generalize H1 = H at hP hS ⊢
      have hP : va_P D ud_Cl [(pq, .inr (1, [.ref qd, .ref pt, .int (nI z), .ref pu, .int md186])), (pt, .inl (cB, 128, .inl f186)), (pu, .inl (cI, 160, .inl lu186)), (qd, .inr (0, [.ref qt, .int (nI z), .ref qu, .int md186])), (qt, .inl (cE, 128, .inl f186)), (qu, .inl (cC, 160, .inl du186))] H := hP
      have hD : va_D A [(pq, .inr (1, [.ref qd, .ref pt, .int (nI z), .ref pu, .int md186])), (pt, .inl (cB, 128, .inl f186)), (pu, .inl (cI, 160, .inl lu186)), (qd, .inr (0, [.ref qt, .int (nI z), .ref qu, .int md186])), (qt, .inl (cE, 128, .inl f186)), (qu, .inl (cC, 160, .inl du186))] := hD
      refine W.widen (k := 4) (n := 576) (by omega) (by omega) ?_
      refine lv_if_eq (tgt := 196) hx hb dX0_step_189 (by decide) (fun c189 => ?_) (fun c189 => ?_)
      · exact absurd c189 (by decide)
      · refine lv_iconst (v := 1) hx hb dX0_step_192 (by decide) ?_
        refine lv_goto (tgt := 197) hx hb dX0_step_193 (by decide) ?_
        have hP9 := hP.sub (ws' := [(pq, .inr (1, [.ref qd, .ref pt, .int (nI z), .ref pu, .int md186])), (pt, .inl (cB, 128, .inl f186)), (pu, .inl (cI, 160, .inl lu186)), (qd, .inr (0, [.ref qt, .int (nI z), .ref qu, .int md186])), (qt, .inl (cE, 128, .inl f186)), (qu, .inl (cC, 160, .inl du186))]) [0, 1, 2, 3, 4, 5] rfl
        have hD9 := hD.sub (ws' := [(pq, .inr (1, [.ref qd, .ref pt, .int (nI z), .ref pu, .int md186])), (pt, .inl (cB, 128, .inl f186)), (pu, .inl (cI, 160, .inl lu186)), (qd, .inr (0, [.ref qt, .int (nI z), .ref qu, .int md186])), (qt, .inl (cE, 128, .inl f186)), (qu, .inl (cC, 160, .inl du186))]) [0, 1, 2, 3, 4, 5] (by decide) rfl
        have hK9 := hK.sub (tys' := [(cB, .byte), (cI, .int), (cE, .byte), (cC, .char)]) [0, 1, 2, 3] rfl
        refine W.widen (k := 4) (n := 576) (by omega) (by omega) ?_
        exact W.zret (v := 1) hx hb hr rfl (fun t ht hW => ⟨⟨1, (z, f186, md186, lu186, du186), rfl, ⟨rfl, hz, hf186, hmk186⟩, ud_end ht hW hP9 hK9 hD9⟩, hS.F ht⟩) hS.2.2 dX0_step_197
  · refine lv_tableIn (off := 194) (tgt := 198) hx hb dX0_step_4 (by decide) (by decide) (by decide) (by decide) ?_
    refine lv_aload_n hx hb dX0_step_198 rfl (lv_at hl 0 rfl) ?_
    refine lv_iload_n hx hb dX0_step_199 rfl (lv_at hl 2 rfl) ?_
    refine lv_iload_n hx hb dX0_step_200 rfl (lv_at hl 3 rfl) ?_
    have hPc := hP.sub (ws' := [(pq, .inr (1, [.ref qd, .ref pt, .int (nI z), .ref pu, .int md])), (pt, .inl (cB, 128, .inl f)), (qd, .inr (0, [.ref qt, .int (nI z), .ref qu, .int md])), (qt, .inl (cE, 128, .inl f))]) [0, 1, 3, 4] rfl
    have hDc := hD.sub (ws' := [(pq, .inr (1, [.ref qd, .ref pt, .int (nI z), .ref pu, .int md])), (pt, .inl (cB, 128, .inl f)), (qd, .inr (0, [.ref qt, .int (nI z), .ref qu, .int md])), (qt, .inl (cE, 128, .inl f))]) [0, 1, 3, 4] (by decide) rfl
    have hKc := hK.sub (tys' := [(cB, .byte), (cE, .byte)]) [0, 2] rfl
    have hFc := va_free (wc := [(pq, .inr (1, [.ref qd, .ref pt, .int (nI z), .ref pu, .int md])), (pt, .inl (cB, 128, .inl f)), (qd, .inr (0, [.ref qt, .int (nI z), .ref qu, .int md])), (qt, .inl (cE, 128, .inl f))]) hD hS hA [0, 1, 3, 4] rfl
    refine va_calli (va_runV (As := [.int wa, .int wb]) (rest := []) ⟨hx, hb, hml, hown, hts⟩ (ud_X0_set l D s.heap.size pq pt pu qd qt qu z cB cE md f hz hf wa wb) (cwV 2 hts (lw_V q156 q158 qs10 q11 q159) rfl rfl rfl (by decide +kernel) ⟨Nat.le_of_ble_eq_true rfl, Nat.le_of_ble_eq_true rfl⟩) ⟨ud_fb, va_recv hKc hPc (ci := 1) (q0 := 0) rfl rfl, fun U hU hW => ⟨rfl, ud_go hPc hKc hDc U hU hW⟩⟩ rfl rfl hl.1 rfl (lv_room (Nat.le_of_ble_eq_true rfl)) dX0_step_201 ⟨Nat.le_of_ble_eq_true rfl, Nat.le_of_ble_eq_true rfl⟩) hS (fun q _ h => hFc q h) hFc (fun r f201 t H1 locs ht hvm hw hB hz1 hk1 hS => ?_)
    obtain ⟨hr1, hf201⟩ := hw
    subst hr1
    obtain ⟨hP1, hK1, hD1⟩ := hB
    rw [ht] at hP1
    obtain ⟨hP, hD⟩ := va_join (wr := [(pu, .inl (cI, 160, .inl lu)), (qu, .inl (cC, 160, .inl du))]) (w1 := [(pq, .inr (1, [.ref qd, .ref pt, .int (nI z), .ref pu, .int md])), (pt, .inl (cB, 128, .inl f201)), (qd, .inr (0, [.ref qt, .int (nI z), .ref qu, .int md])), (qt, .inl (cE, 128, .inl f201))]) hP hD [0, 1, 3, 4] [2, 5] rfl rfl (by decide) (by decide) hk1 hFc hP1 hD1
    generalize H1 = H at hP hS ⊢
    have hP : va_P D ud_Cl [(pu, .inl (cI, 160, .inl lu)), (qu, .inl (cC, 160, .inl du)), (pq, .inr (1, [.ref qd, .ref pt, .int (nI z), .ref pu, .int md])), (pt, .inl (cB, 128, .inl f201)), (qd, .inr (0, [.ref qt, .int (nI z), .ref qu, .int md])), (qt, .inl (cE, 128, .inl f201))] H := hP
    have hD : va_D A [(pu, .inl (cI, 160, .inl lu)), (qu, .inl (cC, 160, .inl du)), (pq, .inr (1, [.ref qd, .ref pt, .int (nI z), .ref pu, .int md])), (pt, .inl (cB, 128, .inl f201)), (qd, .inr (0, [.ref qt, .int (nI z), .ref qu, .int md])), (qt, .inl (cE, 128, .inl f201))] := hD
    have hP := hP.sub (ws' := [(pq, .inr (1, [.ref qd, .ref pt, .int (nI z), .ref pu, .int md])), (pt, .inl (cB, 128, .inl f201)), (pu, .inl (cI, 160, .inl lu)), (qd, .inr (0, [.ref qt, .int (nI z), .ref qu, .int md])), (qt, .inl (cE, 128, .inl f201)), (qu, .inl (cC, 160, .inl du))]) [2, 3, 0, 4, 5, 1] rfl
    have hD := hD.sub (ws' := [(pq, .inr (1, [.ref qd, .ref pt, .int (nI z), .ref pu, .int md])), (pt, .inl (cB, 128, .inl f201)), (pu, .inl (cI, 160, .inl lu)), (qd, .inr (0, [.ref qt, .int (nI z), .ref qu, .int md])), (qt, .inl (cE, 128, .inl f201)), (qu, .inl (cC, 160, .inl du))]) [2, 3, 0, 4, 5, 1] (by decide) rfl
    refine lv_if_eq (tgt := 225) hx hb dX0_step_204 (by decide) (fun c204 => ?_) (fun c204 => ?_)
    · exact absurd c204 (by decide)
    · refine lv_aload_n hx hb dX0_step_207 rfl (lv_at hl 0 rfl) ?_
      refine lv_iload hx hb dX0_step_208 (lv_at hl 4 rfl) ?_
      refine lv_iload hx hb dX0_step_210 (lv_at hl 5 rfl) ?_
      refine lv_iload hx hb dX0_step_212 (lv_at hl 6 rfl) ?_
      refine lv_iload_n hx hb dX0_step_214 rfl (lv_at hl 2 rfl) ?_
      have hPc := hP.sub (ws' := [(pq, .inr (1, [.ref qd, .ref pt, .int (nI z), .ref pu, .int md])), (pt, .inl (cB, 128, .inl f201)), (pu, .inl (cI, 160, .inl lu)), (qd, .inr (0, [.ref qt, .int (nI z), .ref qu, .int md])), (qt, .inl (cE, 128, .inl f201)), (qu, .inl (cC, 160, .inl du))]) [0, 1, 2, 3, 4, 5] rfl
      have hDc := hD.sub (ws' := [(pq, .inr (1, [.ref qd, .ref pt, .int (nI z), .ref pu, .int md])), (pt, .inl (cB, 128, .inl f201)), (pu, .inl (cI, 160, .inl lu)), (qd, .inr (0, [.ref qt, .int (nI z), .ref qu, .int md])), (qt, .inl (cE, 128, .inl f201)), (qu, .inl (cC, 160, .inl du))]) [0, 1, 2, 3, 4, 5] (by decide) rfl
      have hKc := hK.sub (tys' := [(cB, .byte), (cI, .int), (cE, .byte), (cC, .char)]) [0, 1, 2, 3] rfl
      have hFc := va_free (wc := [(pq, .inr (1, [.ref qd, .ref pt, .int (nI z), .ref pu, .int md])), (pt, .inl (cB, 128, .inl f201)), (pu, .inl (cI, 160, .inl lu)), (qd, .inr (0, [.ref qt, .int (nI z), .ref qu, .int md])), (qt, .inl (cE, 128, .inl f201)), (qu, .inl (cC, 160, .inl du))]) hD hS hA [0, 1, 2, 3, 4, 5] rfl
      refine va_calli (va_runV (As := [.int wc, .int wd, .int we, .int wa]) (rest := []) ⟨hx, hb, hml, hown, hts⟩ (ud_X0_turns l D H.size t1 t2 pq pt pu qd qt qu z cB cI cE cC md f201 lu du hz hf201 wc wd we wa) (cwV 4 hts (lw_V q68 q70 qs0 q11 q71) rfl rfl rfl (by decide +kernel) ⟨Nat.le_of_ble_eq_true rfl, Nat.le_of_ble_eq_true rfl⟩) ⟨ud_fbt, va_recv hKc hPc (ci := 1) (q0 := 0) rfl rfl, fun U hU hW => ⟨rfl, ud_got hPc hKc hDc hTb hS hFc U hU hW⟩⟩ rfl rfl hl.1 rfl (lv_room (Nat.le_of_ble_eq_true rfl)) dX0_step_215 ⟨Nat.le_of_ble_eq_true rfl, Nat.le_of_ble_eq_true rfl⟩) hS (fun q _ h => hFc q h) hFc (fun r u215 t H1 locs ht hvm hw hB hz1 hk1 hS => ?_)
      obtain ⟨md215, lu215, du215⟩ := u215
      obtain ⟨hr1, hmk215, -⟩ := hw
      subst hr1
      obtain ⟨hP1, hK1, hD1⟩ := hB
      rw [ht] at hP1
      obtain ⟨hP, hD⟩ := va_join (wr := []) (w1 := [(pq, .inr (1, [.ref qd, .ref pt, .int (nI z), .ref pu, .int md215])), (pt, .inl (cB, 128, .inl f201)), (pu, .inl (cI, 160, .inl lu215)), (qd, .inr (0, [.ref qt, .int (nI z), .ref qu, .int md215])), (qt, .inl (cE, 128, .inl f201)), (qu, .inl (cC, 160, .inl du215))]) hP hD [0, 1, 2, 3, 4, 5] [] rfl rfl (by decide) (by decide) hk1 hFc hP1 hD1
      generalize H1 = H at hP hS ⊢
      have hP : va_P D ud_Cl [(pq, .inr (1, [.ref qd, .ref pt, .int (nI z), .ref pu, .int md215])), (pt, .inl (cB, 128, .inl f201)), (pu, .inl (cI, 160, .inl lu215)), (qd, .inr (0, [.ref qt, .int (nI z), .ref qu, .int md215])), (qt, .inl (cE, 128, .inl f201)), (qu, .inl (cC, 160, .inl du215))] H := hP
      have hD : va_D A [(pq, .inr (1, [.ref qd, .ref pt, .int (nI z), .ref pu, .int md215])), (pt, .inl (cB, 128, .inl f201)), (pu, .inl (cI, 160, .inl lu215)), (qd, .inr (0, [.ref qt, .int (nI z), .ref qu, .int md215])), (qt, .inl (cE, 128, .inl f201)), (qu, .inl (cC, 160, .inl du215))] := hD
      refine W.widen (k := 2) (n := 288) (by omega) (by omega) ?_
      refine lv_if_eq (tgt := 225) hx hb dX0_step_218 (by decide) (fun c218 => ?_) (fun c218 => ?_)
      · exact absurd c218 (by decide)
      · refine lv_iconst (v := 1) hx hb dX0_step_221 (by decide) ?_
        refine lv_goto (tgt := 226) hx hb dX0_step_222 (by decide) ?_
        have hP9 := hP.sub (ws' := [(pq, .inr (1, [.ref qd, .ref pt, .int (nI z), .ref pu, .int md215])), (pt, .inl (cB, 128, .inl f201)), (pu, .inl (cI, 160, .inl lu215)), (qd, .inr (0, [.ref qt, .int (nI z), .ref qu, .int md215])), (qt, .inl (cE, 128, .inl f201)), (qu, .inl (cC, 160, .inl du215))]) [0, 1, 2, 3, 4, 5] rfl
        have hD9 := hD.sub (ws' := [(pq, .inr (1, [.ref qd, .ref pt, .int (nI z), .ref pu, .int md215])), (pt, .inl (cB, 128, .inl f201)), (pu, .inl (cI, 160, .inl lu215)), (qd, .inr (0, [.ref qt, .int (nI z), .ref qu, .int md215])), (qt, .inl (cE, 128, .inl f201)), (qu, .inl (cC, 160, .inl du215))]) [0, 1, 2, 3, 4, 5] (by decide) rfl
        have hK9 := hK.sub (tys' := [(cB, .byte), (cI, .int), (cE, .byte), (cC, .char)]) [0, 1, 2, 3] rfl
        refine W.widen (k := 4) (n := 576) (by omega) (by omega) ?_
        exact W.zret (v := 1) hx hb hr rfl (fun t ht hW => ⟨⟨1, (z, f201, md215, lu215, du215), rfl, ⟨rfl, hz, hf201, hmk215⟩, ud_end ht hW hP9 hK9 hD9⟩, hS.F ht⟩) hS.2.2 dX0_step_226
  · refine lv_tableIn (off := 223) (tgt := 227) hx hb dX0_step_4 (by decide) (by decide) (by decide) (by decide) ?_
    refine lv_aload_n hx hb dX0_step_227 rfl (lv_at hl 0 rfl) ?_
    refine lv_iload_n hx hb dX0_step_228 rfl (lv_at hl 2 rfl) ?_
    refine lv_iload_n hx hb dX0_step_229 rfl (lv_at hl 3 rfl) ?_
    refine lv_iconst (v := 1) hx hb dX0_step_230 (by decide) ?_
    refine lv_iand hx hb dX0_step_231 ?_
    refine lv_if_ne (tgt := 247) hx hb dX0_step_232 (by decide) (fun c232 => ?_) (fun c232 => ?_)
    · refine lv_sipush (v := 192) hx hb dX0_step_247 (by decide) ?_
      refine lv_iload hx hb dX0_step_250 (lv_at hl 4 rfl) ?_
      refine lv_bipush (v := 63) hx hb dX0_step_252 (by decide) ?_
      refine lv_iand hx hb dX0_step_254 ?_
      refine lv_ior hx hb dX0_step_255 ?_
      have hPc := hP.sub (ws' := [(pq, .inr (1, [.ref qd, .ref pt, .int (nI z), .ref pu, .int md])), (pt, .inl (cB, 128, .inl f)), (qd, .inr (0, [.ref qt, .int (nI z), .ref qu, .int md])), (qt, .inl (cE, 128, .inl f))]) [0, 1, 3, 4] rfl
      have hDc := hD.sub (ws' := [(pq, .inr (1, [.ref qd, .ref pt, .int (nI z), .ref pu, .int md])), (pt, .inl (cB, 128, .inl f)), (qd, .inr (0, [.ref qt, .int (nI z), .ref qu, .int md])), (qt, .inl (cE, 128, .inl f))]) [0, 1, 3, 4] (by decide) rfl
      have hKc := hK.sub (tys' := [(cB, .byte), (cE, .byte)]) [0, 2] rfl
      have hFc := va_free (wc := [(pq, .inr (1, [.ref qd, .ref pt, .int (nI z), .ref pu, .int md])), (pt, .inl (cB, 128, .inl f)), (qd, .inr (0, [.ref qt, .int (nI z), .ref qu, .int md])), (qt, .inl (cE, 128, .inl f))]) hD hS hA [0, 1, 3, 4] rfl
      refine va_calli (va_runV (As := [.int wa, .int (192 ||| (wc &&& 63))]) (rest := []) ⟨hx, hb, hml, hown, hts⟩ (ud_X0_set l D s.heap.size pq pt pu qd qt qu z cB cE md f hz hf wa (192 ||| (wc &&& 63))) (cwV 2 hts (lw_V q156 q158 qs10 q11 q159) rfl rfl rfl (by decide +kernel) ⟨Nat.le_of_ble_eq_true rfl, Nat.le_of_ble_eq_true rfl⟩) ⟨ud_fb, va_recv hKc hPc (ci := 1) (q0 := 0) rfl rfl, fun U hU hW => ⟨rfl, ud_go hPc hKc hDc U hU hW⟩⟩ rfl rfl hl.1 rfl (lv_room (Nat.le_of_ble_eq_true rfl)) dX0_step_256 ⟨Nat.le_of_ble_eq_true rfl, Nat.le_of_ble_eq_true rfl⟩) hS (fun q _ h => hFc q h) hFc (fun r f256 t H1 locs ht hvm hw hB hz1 hk1 hS => ?_)
      obtain ⟨hr1, hf256⟩ := hw
      subst hr1
      obtain ⟨hP1, hK1, hD1⟩ := hB
      rw [ht] at hP1
      obtain ⟨hP, hD⟩ := va_join (wr := [(pu, .inl (cI, 160, .inl lu)), (qu, .inl (cC, 160, .inl du))]) (w1 := [(pq, .inr (1, [.ref qd, .ref pt, .int (nI z), .ref pu, .int md])), (pt, .inl (cB, 128, .inl f256)), (qd, .inr (0, [.ref qt, .int (nI z), .ref qu, .int md])), (qt, .inl (cE, 128, .inl f256))]) hP hD [0, 1, 3, 4] [2, 5] rfl rfl (by decide) (by decide) hk1 hFc hP1 hD1
      generalize H1 = H at hP hS ⊢
      have hP : va_P D ud_Cl [(pu, .inl (cI, 160, .inl lu)), (qu, .inl (cC, 160, .inl du)), (pq, .inr (1, [.ref qd, .ref pt, .int (nI z), .ref pu, .int md])), (pt, .inl (cB, 128, .inl f256)), (qd, .inr (0, [.ref qt, .int (nI z), .ref qu, .int md])), (qt, .inl (cE, 128, .inl f256))] H := hP
      have hD : va_D A [(pu, .inl (cI, 160, .inl lu)), (qu, .inl (cC, 160, .inl du)), (pq, .inr (1, [.ref qd, .ref pt, .int (nI z), .ref pu, .int md])), (pt, .inl (cB, 128, .inl f256)), (qd, .inr (0, [.ref qt, .int (nI z), .ref qu, .int md])), (qt, .inl (cE, 128, .inl f256))] := hD
      have hP := hP.sub (ws' := [(pq, .inr (1, [.ref qd, .ref pt, .int (nI z), .ref pu, .int md])), (pt, .inl (cB, 128, .inl f256)), (pu, .inl (cI, 160, .inl lu)), (qd, .inr (0, [.ref qt, .int (nI z), .ref qu, .int md])), (qt, .inl (cE, 128, .inl f256)), (qu, .inl (cC, 160, .inl du))]) [2, 3, 0, 4, 5, 1] rfl
      have hD := hD.sub (ws' := [(pq, .inr (1, [.ref qd, .ref pt, .int (nI z), .ref pu, .int md])), (pt, .inl (cB, 128, .inl f256)), (pu, .inl (cI, 160, .inl lu)), (qd, .inr (0, [.ref qt, .int (nI z), .ref qu, .int md])), (qt, .inl (cE, 128, .inl f256)), (qu, .inl (cC, 160, .inl du))]) [2, 3, 0, 4, 5, 1] (by decide) rfl
      refine lv_if_eq (tgt := 299) hx hb dX0_step_259 (by decide) (fun c259 => ?_) (fun c259 => ?_)
      · exact absurd c259 (by decide)
      · refine lv_aload_n hx hb dX0_step_262 rfl (lv_at hl 0 rfl) ?_
        refine lv_iconst (v := 0) hx hb dX0_step_263 (by decide) ?_
        refine lv_aload_n hx hb dX0_step_264 rfl (lv_at hl 0 rfl) ?_
        refine va_get (D := D) (ci := 1) (v := .int (nI z)) (C := RX0) (T := TX0) (N := 5) hx hb hts in_X0 hown hK hP 0 rfl rfl 2 (by decide) (hts _ q50) (fun _ h9 => h9) rfl dX0_step_265 ?_
        refine lv_sipush (v := 160) hx hb dX0_step_268 (by decide) ?_
        refine lv_iload hx hb dX0_step_271 (lv_at hl 5 rfl) ?_
        have hPc := hP.sub (ws' := [(pq, .inr (1, [.ref qd, .ref pt, .int (nI z), .ref pu, .int md])), (pt, .inl (cB, 128, .inl f256)), (pu, .inl (cI, 160, .inl lu)), (qd, .inr (0, [.ref qt, .int (nI z), .ref qu, .int md])), (qt, .inl (cE, 128, .inl f256)), (qu, .inl (cC, 160, .inl du))]) [0, 1, 2, 3, 4, 5] rfl
        have hDc := hD.sub (ws' := [(pq, .inr (1, [.ref qd, .ref pt, .int (nI z), .ref pu, .int md])), (pt, .inl (cB, 128, .inl f256)), (pu, .inl (cI, 160, .inl lu)), (qd, .inr (0, [.ref qt, .int (nI z), .ref qu, .int md])), (qt, .inl (cE, 128, .inl f256)), (qu, .inl (cC, 160, .inl du))]) [0, 1, 2, 3, 4, 5] (by decide) rfl
        have hKc := hK.sub (tys' := [(cB, .byte), (cI, .int), (cE, .byte), (cC, .char)]) [0, 1, 2, 3] rfl
        have hFc := va_free (wc := [(pq, .inr (1, [.ref qd, .ref pt, .int (nI z), .ref pu, .int md])), (pt, .inl (cB, 128, .inl f256)), (pu, .inl (cI, 160, .inl lu)), (qd, .inr (0, [.ref qt, .int (nI z), .ref qu, .int md])), (qt, .inl (cE, 128, .inl f256)), (qu, .inl (cC, 160, .inl du))]) hD hS hA [0, 1, 2, 3, 4, 5] rfl
        refine va_calli (va_runV (As := [.int 0, .int (nI z), .int 160, .int wd]) (rest := []) ⟨hx, hb, hml, hown, hts⟩ (ud_X0_turns l D H.size t1 t2 pq pt pu qd qt qu z cB cI cE cC md f256 lu du hz hf256 0 (nI z) 160 wd) (cwV 4 hts (lw_V q68 q70 qs0 q11 q71) rfl rfl rfl (by decide +kernel) ⟨Nat.le_of_ble_eq_true rfl, Nat.le_of_ble_eq_true rfl⟩) ⟨ud_fbt, va_recv hKc hPc (ci := 1) (q0 := 0) rfl rfl, fun U hU hW => ⟨rfl, ud_got hPc hKc hDc hTb hS hFc U hU hW⟩⟩ rfl rfl hl.1 rfl (lv_room (Nat.le_of_ble_eq_true rfl)) dX0_step_273 ⟨Nat.le_of_ble_eq_true rfl, Nat.le_of_ble_eq_true rfl⟩) hS (fun q _ h => hFc q h) hFc (fun r u273 t H1 locs ht hvm hw hB hz1 hk1 hS => ?_)
        obtain ⟨md273, lu273, du273⟩ := u273
        obtain ⟨hr1, hmk273, -⟩ := hw
        subst hr1
        obtain ⟨hP1, hK1, hD1⟩ := hB
        rw [ht] at hP1
        obtain ⟨hP, hD⟩ := va_join (wr := []) (w1 := [(pq, .inr (1, [.ref qd, .ref pt, .int (nI z), .ref pu, .int md273])), (pt, .inl (cB, 128, .inl f256)), (pu, .inl (cI, 160, .inl lu273)), (qd, .inr (0, [.ref qt, .int (nI z), .ref qu, .int md273])), (qt, .inl (cE, 128, .inl f256)), (qu, .inl (cC, 160, .inl du273))]) hP hD [0, 1, 2, 3, 4, 5] [] rfl rfl (by decide) (by decide) hk1 hFc hP1 hD1
        generalize H1 = H at hP hS ⊢
        have hP : va_P D ud_Cl [(pq, .inr (1, [.ref qd, .ref pt, .int (nI z), .ref pu, .int md273])), (pt, .inl (cB, 128, .inl f256)), (pu, .inl (cI, 160, .inl lu273)), (qd, .inr (0, [.ref qt, .int (nI z), .ref qu, .int md273])), (qt, .inl (cE, 128, .inl f256)), (qu, .inl (cC, 160, .inl du273))] H := hP
        have hD : va_D A [(pq, .inr (1, [.ref qd, .ref pt, .int (nI z), .ref pu, .int md273])), (pt, .inl (cB, 128, .inl f256)), (pu, .inl (cI, 160, .inl lu273)), (qd, .inr (0, [.ref qt, .int (nI z), .ref qu, .int md273])), (qt, .inl (cE, 128, .inl f256)), (qu, .inl (cC, 160, .inl du273))] := hD
        refine W.widen (k := 2) (n := 288) (by omega) (by omega) ?_
        refine lv_if_eq (tgt := 299) hx hb dX0_step_276 (by decide) (fun c276 => ?_) (fun c276 => ?_)
        · exact absurd c276 (by decide)
        · refine lv_aload_n hx hb dX0_step_279 rfl (lv_at hl 0 rfl) ?_
          refine lv_iconst (v := 0) hx hb dX0_step_280 (by decide) ?_
          refine lv_aload_n hx hb dX0_step_281 rfl (lv_at hl 0 rfl) ?_
          refine va_get (D := D) (ci := 1) (v := .int (nI z)) (C := RX0) (T := TX0) (N := 5) hx hb hts in_X0 hown hK hP 0 rfl rfl 2 (by decide) (hts _ q50) (fun _ h9 => h9) rfl dX0_step_282 ?_
          refine lv_iload hx hb dX0_step_285 (lv_at hl 6 rfl) ?_
          refine lv_iload hx hb dX0_step_287 (lv_at hl 4 rfl) ?_
          have hPc := hP.sub (ws' := [(pq, .inr (1, [.ref qd, .ref pt, .int (nI z), .ref pu, .int md273])), (pt, .inl (cB, 128, .inl f256)), (pu, .inl (cI, 160, .inl lu273)), (qd, .inr (0, [.ref qt, .int (nI z), .ref qu, .int md273])), (qt, .inl (cE, 128, .inl f256)), (qu, .inl (cC, 160, .inl du273))]) [0, 1, 2, 3, 4, 5] rfl
          have hDc := hD.sub (ws' := [(pq, .inr (1, [.ref qd, .ref pt, .int (nI z), .ref pu, .int md273])), (pt, .inl (cB, 128, .inl f256)), (pu, .inl (cI, 160, .inl lu273)), (qd, .inr (0, [.ref qt, .int (nI z), .ref qu, .int md273])), (qt, .inl (cE, 128, .inl f256)), (qu, .inl (cC, 160, .inl du273))]) [0, 1, 2, 3, 4, 5] (by decide) rfl
          have hKc := hK.sub (tys' := [(cB, .byte), (cI, .int), (cE, .byte), (cC, .char)]) [0, 1, 2, 3] rfl
          have hFc := va_free (wc := [(pq, .inr (1, [.ref qd, .ref pt, .int (nI z), .ref pu, .int md273])), (pt, .inl (cB, 128, .inl f256)), (pu, .inl (cI, 160, .inl lu273)), (qd, .inr (0, [.ref qt, .int (nI z), .ref qu, .int md273])), (qt, .inl (cE, 128, .inl f256)), (qu, .inl (cC, 160, .inl du273))]) hD hS hA [0, 1, 2, 3, 4, 5] rfl
          refine va_calli (va_runV (As := [.int 0, .int (nI z), .int we, .int wc]) (rest := []) ⟨hx, hb, hml, hown, hts⟩ (ud_X0_turns l D H.size t1 t2 pq pt pu qd qt qu z cB cI cE cC md273 f256 lu273 du273 hz hf256 0 (nI z) we wc) (cwV 4 hts (lw_V q68 q70 qs0 q11 q71) rfl rfl rfl (by decide +kernel) ⟨Nat.le_of_ble_eq_true rfl, Nat.le_of_ble_eq_true rfl⟩) ⟨ud_fbt, va_recv hKc hPc (ci := 1) (q0 := 0) rfl rfl, fun U hU hW => ⟨rfl, ud_got hPc hKc hDc hTb hS hFc U hU hW⟩⟩ rfl rfl hl.1 rfl (lv_room (Nat.le_of_ble_eq_true rfl)) dX0_step_289 ⟨Nat.le_of_ble_eq_true rfl, Nat.le_of_ble_eq_true rfl⟩) hS (fun q _ h => hFc q h) hFc (fun r u289 t H1 locs ht hvm hw hB hz1 hk1 hS => ?_)
          obtain ⟨md289, lu289, du289⟩ := u289
          obtain ⟨hr1, hmk289, -⟩ := hw
          subst hr1
          obtain ⟨hP1, hK1, hD1⟩ := hB
          rw [ht] at hP1
          obtain ⟨hP, hD⟩ := va_join (wr := []) (w1 := [(pq, .inr (1, [.ref qd, .ref pt, .int (nI z), .ref pu, .int md289])), (pt, .inl (cB, 128, .inl f256)), (pu, .inl (cI, 160, .inl lu289)), (qd, .inr (0, [.ref qt, .int (nI z), .ref qu, .int md289])), (qt, .inl (cE, 128, .inl f256)), (qu, .inl (cC, 160, .inl du289))]) hP hD [0, 1, 2, 3, 4, 5] [] rfl rfl (by decide) (by decide) hk1 hFc hP1 hD1
          generalize H1 = H at hP hS ⊢
          have hP : va_P D ud_Cl [(pq, .inr (1, [.ref qd, .ref pt, .int (nI z), .ref pu, .int md289])), (pt, .inl (cB, 128, .inl f256)), (pu, .inl (cI, 160, .inl lu289)), (qd, .inr (0, [.ref qt, .int (nI z), .ref qu, .int md289])), (qt, .inl (cE, 128, .inl f256)), (qu, .inl (cC, 160, .inl du289))] H := hP
          have hD : va_D A [(pq, .inr (1, [.ref qd, .ref pt, .int (nI z), .ref pu, .int md289])), (pt, .inl (cB, 128, .inl f256)), (pu, .inl (cI, 160, .inl lu289)), (qd, .inr (0, [.ref qt, .int (nI z), .ref qu, .int md289])), (qt, .inl (cE, 128, .inl f256)), (qu, .inl (cC, 160, .inl du289))] := hD
          refine W.widen (k := 4) (n := 576) (by omega) (by omega) ?_
          refine lv_if_eq (tgt := 299) hx hb dX0_step_292 (by decide) (fun c292 => ?_) (fun c292 => ?_)
          · exact absurd c292 (by decide)
          · refine lv_iconst (v := 1) hx hb dX0_step_295 (by decide) ?_
            refine lv_goto (tgt := 300) hx hb dX0_step_296 (by decide) ?_
            have hP9 := hP.sub (ws' := [(pq, .inr (1, [.ref qd, .ref pt, .int (nI z), .ref pu, .int md289])), (pt, .inl (cB, 128, .inl f256)), (pu, .inl (cI, 160, .inl lu289)), (qd, .inr (0, [.ref qt, .int (nI z), .ref qu, .int md289])), (qt, .inl (cE, 128, .inl f256)), (qu, .inl (cC, 160, .inl du289))]) [0, 1, 2, 3, 4, 5] rfl
            have hD9 := hD.sub (ws' := [(pq, .inr (1, [.ref qd, .ref pt, .int (nI z), .ref pu, .int md289])), (pt, .inl (cB, 128, .inl f256)), (pu, .inl (cI, 160, .inl lu289)), (qd, .inr (0, [.ref qt, .int (nI z), .ref qu, .int md289])), (qt, .inl (cE, 128, .inl f256)), (qu, .inl (cC, 160, .inl du289))]) [0, 1, 2, 3, 4, 5] (by decide) rfl
            have hK9 := hK.sub (tys' := [(cB, .byte), (cI, .int), (cE, .byte), (cC, .char)]) [0, 1, 2, 3] rfl
            refine W.widen (k := 4) (n := 576) (by omega) (by omega) ?_
            exact W.zret (v := 1) hx hb hr rfl (fun t ht hW => ⟨⟨1, (z, f256, md289, lu289, du289), rfl, ⟨rfl, hz, hf256, hmk289⟩, ud_end ht hW hP9 hK9 hD9⟩, hS.F ht⟩) hS.2.2 dX0_step_300
    · refine lv_sipush (v := 128) hx hb dX0_step_235 (by decide) ?_
      refine lv_iload hx hb dX0_step_238 (lv_at hl 4 rfl) ?_
      refine lv_bipush (v := 63) hx hb dX0_step_240 (by decide) ?_
      refine lv_iand hx hb dX0_step_242 ?_
      refine lv_ior hx hb dX0_step_243 ?_
      refine lv_goto (tgt := 256) hx hb dX0_step_244 (by decide) ?_
      have hPc := hP.sub (ws' := [(pq, .inr (1, [.ref qd, .ref pt, .int (nI z), .ref pu, .int md])), (pt, .inl (cB, 128, .inl f)), (qd, .inr (0, [.ref qt, .int (nI z), .ref qu, .int md])), (qt, .inl (cE, 128, .inl f))]) [0, 1, 3, 4] rfl
      have hDc := hD.sub (ws' := [(pq, .inr (1, [.ref qd, .ref pt, .int (nI z), .ref pu, .int md])), (pt, .inl (cB, 128, .inl f)), (qd, .inr (0, [.ref qt, .int (nI z), .ref qu, .int md])), (qt, .inl (cE, 128, .inl f))]) [0, 1, 3, 4] (by decide) rfl
      have hKc := hK.sub (tys' := [(cB, .byte), (cE, .byte)]) [0, 2] rfl
      have hFc := va_free (wc := [(pq, .inr (1, [.ref qd, .ref pt, .int (nI z), .ref pu, .int md])), (pt, .inl (cB, 128, .inl f)), (qd, .inr (0, [.ref qt, .int (nI z), .ref qu, .int md])), (qt, .inl (cE, 128, .inl f))]) hD hS hA [0, 1, 3, 4] rfl
      refine va_calli (va_runV (As := [.int wa, .int (128 ||| (wc &&& 63))]) (rest := []) ⟨hx, hb, hml, hown, hts⟩ (ud_X0_set l D s.heap.size pq pt pu qd qt qu z cB cE md f hz hf wa (128 ||| (wc &&& 63))) (cwV 2 hts (lw_V q156 q158 qs10 q11 q159) rfl rfl rfl (by decide +kernel) ⟨Nat.le_of_ble_eq_true rfl, Nat.le_of_ble_eq_true rfl⟩) ⟨ud_fb, va_recv hKc hPc (ci := 1) (q0 := 0) rfl rfl, fun U hU hW => ⟨rfl, ud_go hPc hKc hDc U hU hW⟩⟩ rfl rfl hl.1 rfl (lv_room (Nat.le_of_ble_eq_true rfl)) dX0_step_256 ⟨Nat.le_of_ble_eq_true rfl, Nat.le_of_ble_eq_true rfl⟩) hS (fun q _ h => hFc q h) hFc (fun r f256 t H1 locs ht hvm hw hB hz1 hk1 hS => ?_)
      obtain ⟨hr1, hf256⟩ := hw
      subst hr1
      obtain ⟨hP1, hK1, hD1⟩ := hB
      rw [ht] at hP1
      obtain ⟨hP, hD⟩ := va_join (wr := [(pu, .inl (cI, 160, .inl lu)), (qu, .inl (cC, 160, .inl du))]) (w1 := [(pq, .inr (1, [.ref qd, .ref pt, .int (nI z), .ref pu, .int md])), (pt, .inl (cB, 128, .inl f256)), (qd, .inr (0, [.ref qt, .int (nI z), .ref qu, .int md])), (qt, .inl (cE, 128, .inl f256))]) hP hD [0, 1, 3, 4] [2, 5] rfl rfl (by decide) (by decide) hk1 hFc hP1 hD1
      generalize H1 = H at hP hS ⊢
      have hP : va_P D ud_Cl [(pu, .inl (cI, 160, .inl lu)), (qu, .inl (cC, 160, .inl du)), (pq, .inr (1, [.ref qd, .ref pt, .int (nI z), .ref pu, .int md])), (pt, .inl (cB, 128, .inl f256)), (qd, .inr (0, [.ref qt, .int (nI z), .ref qu, .int md])), (qt, .inl (cE, 128, .inl f256))] H := hP
      have hD : va_D A [(pu, .inl (cI, 160, .inl lu)), (qu, .inl (cC, 160, .inl du)), (pq, .inr (1, [.ref qd, .ref pt, .int (nI z), .ref pu, .int md])), (pt, .inl (cB, 128, .inl f256)), (qd, .inr (0, [.ref qt, .int (nI z), .ref qu, .int md])), (qt, .inl (cE, 128, .inl f256))] := hD
      have hP := hP.sub (ws' := [(pq, .inr (1, [.ref qd, .ref pt, .int (nI z), .ref pu, .int md])), (pt, .inl (cB, 128, .inl f256)), (pu, .inl (cI, 160, .inl lu)), (qd, .inr (0, [.ref qt, .int (nI z), .ref qu, .int md])), (qt, .inl (cE, 128, .inl f256)), (qu, .inl (cC, 160, .inl du))]) [2, 3, 0, 4, 5, 1] rfl
      have hD := hD.sub (ws' := [(pq, .inr (1, [.ref qd, .ref pt, .int (nI z), .ref pu, .int md])), (pt, .inl (cB, 128, .inl f256)), (pu, .inl (cI, 160, .inl lu)), (qd, .inr (0, [.ref qt, .int (nI z), .ref qu, .int md])), (qt, .inl (cE, 128, .inl f256)), (qu, .inl (cC, 160, .inl du))]) [2, 3, 0, 4, 5, 1] (by decide) rfl
      refine lv_if_eq (tgt := 299) hx hb dX0_step_259 (by decide) (fun c259 => ?_) (fun c259 => ?_)
      · exact absurd c259 (by decide)
      · refine lv_aload_n hx hb dX0_step_262 rfl (lv_at hl 0 rfl) ?_
        refine lv_iconst (v := 0) hx hb dX0_step_263 (by decide) ?_
        refine lv_aload_n hx hb dX0_step_264 rfl (lv_at hl 0 rfl) ?_
        refine va_get (D := D) (ci := 1) (v := .int (nI z)) (C := RX0) (T := TX0) (N := 5) hx hb hts in_X0 hown hK hP 0 rfl rfl 2 (by decide) (hts _ q50) (fun _ h9 => h9) rfl dX0_step_265 ?_
        refine lv_sipush (v := 160) hx hb dX0_step_268 (by decide) ?_
        refine lv_iload hx hb dX0_step_271 (lv_at hl 5 rfl) ?_
        have hPc := hP.sub (ws' := [(pq, .inr (1, [.ref qd, .ref pt, .int (nI z), .ref pu, .int md])), (pt, .inl (cB, 128, .inl f256)), (pu, .inl (cI, 160, .inl lu)), (qd, .inr (0, [.ref qt, .int (nI z), .ref qu, .int md])), (qt, .inl (cE, 128, .inl f256)), (qu, .inl (cC, 160, .inl du))]) [0, 1, 2, 3, 4, 5] rfl
        have hDc := hD.sub (ws' := [(pq, .inr (1, [.ref qd, .ref pt, .int (nI z), .ref pu, .int md])), (pt, .inl (cB, 128, .inl f256)), (pu, .inl (cI, 160, .inl lu)), (qd, .inr (0, [.ref qt, .int (nI z), .ref qu, .int md])), (qt, .inl (cE, 128, .inl f256)), (qu, .inl (cC, 160, .inl du))]) [0, 1, 2, 3, 4, 5] (by decide) rfl
        have hKc := hK.sub (tys' := [(cB, .byte), (cI, .int), (cE, .byte), (cC, .char)]) [0, 1, 2, 3] rfl
        have hFc := va_free (wc := [(pq, .inr (1, [.ref qd, .ref pt, .int (nI z), .ref pu, .int md])), (pt, .inl (cB, 128, .inl f256)), (pu, .inl (cI, 160, .inl lu)), (qd, .inr (0, [.ref qt, .int (nI z), .ref qu, .int md])), (qt, .inl (cE, 128, .inl f256)), (qu, .inl (cC, 160, .inl du))]) hD hS hA [0, 1, 2, 3, 4, 5] rfl
        refine va_calli (va_runV (As := [.int 0, .int (nI z), .int 160, .int wd]) (rest := []) ⟨hx, hb, hml, hown, hts⟩ (ud_X0_turns l D H.size t1 t2 pq pt pu qd qt qu z cB cI cE cC md f256 lu du hz hf256 0 (nI z) 160 wd) (cwV 4 hts (lw_V q68 q70 qs0 q11 q71) rfl rfl rfl (by decide +kernel) ⟨Nat.le_of_ble_eq_true rfl, Nat.le_of_ble_eq_true rfl⟩) ⟨ud_fbt, va_recv hKc hPc (ci := 1) (q0 := 0) rfl rfl, fun U hU hW => ⟨rfl, ud_got hPc hKc hDc hTb hS hFc U hU hW⟩⟩ rfl rfl hl.1 rfl (lv_room (Nat.le_of_ble_eq_true rfl)) dX0_step_273 ⟨Nat.le_of_ble_eq_true rfl, Nat.le_of_ble_eq_true rfl⟩) hS (fun q _ h => hFc q h) hFc (fun r u273 t H1 locs ht hvm hw hB hz1 hk1 hS => ?_)
        obtain ⟨md273, lu273, du273⟩ := u273
        obtain ⟨hr1, hmk273, -⟩ := hw
        subst hr1
        obtain ⟨hP1, hK1, hD1⟩ := hB
        rw [ht] at hP1
        obtain ⟨hP, hD⟩ := va_join (wr := []) (w1 := [(pq, .inr (1, [.ref qd, .ref pt, .int (nI z), .ref pu, .int md273])), (pt, .inl (cB, 128, .inl f256)), (pu, .inl (cI, 160, .inl lu273)), (qd, .inr (0, [.ref qt, .int (nI z), .ref qu, .int md273])), (qt, .inl (cE, 128, .inl f256)), (qu, .inl (cC, 160, .inl du273))]) hP hD [0, 1, 2, 3, 4, 5] [] rfl rfl (by decide) (by decide) hk1 hFc hP1 hD1
        generalize H1 = H at hP hS ⊢
        have hP : va_P D ud_Cl [(pq, .inr (1, [.ref qd, .ref pt, .int (nI z), .ref pu, .int md273])), (pt, .inl (cB, 128, .inl f256)), (pu, .inl (cI, 160, .inl lu273)), (qd, .inr (0, [.ref qt, .int (nI z), .ref qu, .int md273])), (qt, .inl (cE, 128, .inl f256)), (qu, .inl (cC, 160, .inl du273))] H := hP
        have hD : va_D A [(pq, .inr (1, [.ref qd, .ref pt, .int (nI z), .ref pu, .int md273])), (pt, .inl (cB, 128, .inl f256)), (pu, .inl (cI, 160, .inl lu273)), (qd, .inr (0, [.ref qt, .int (nI z), .ref qu, .int md273])), (qt, .inl (cE, 128, .inl f256)), (qu, .inl (cC, 160, .inl du273))] := hD
        refine W.widen (k := 2) (n := 288) (by omega) (by omega) ?_
        refine lv_if_eq (tgt := 299) hx hb dX0_step_276 (by decide) (fun c276 => ?_) (fun c276 => ?_)
        · exact absurd c276 (by decide)
        · refine lv_aload_n hx hb dX0_step_279 rfl (lv_at hl 0 rfl) ?_
          refine lv_iconst (v := 0) hx hb dX0_step_280 (by decide) ?_
          refine lv_aload_n hx hb dX0_step_281 rfl (lv_at hl 0 rfl) ?_
          refine va_get (D := D) (ci := 1) (v := .int (nI z)) (C := RX0) (T := TX0) (N := 5) hx hb hts in_X0 hown hK hP 0 rfl rfl 2 (by decide) (hts _ q50) (fun _ h9 => h9) rfl dX0_step_282 ?_
          refine lv_iload hx hb dX0_step_285 (lv_at hl 6 rfl) ?_
          refine lv_iload hx hb dX0_step_287 (lv_at hl 4 rfl) ?_
          have hPc := hP.sub (ws' := [(pq, .inr (1, [.ref qd, .ref pt, .int (nI z), .ref pu, .int md273])), (pt, .inl (cB, 128, .inl f256)), (pu, .inl (cI, 160, .inl lu273)), (qd, .inr (0, [.ref qt, .int (nI z), .ref qu, .int md273])), (qt, .inl (cE, 128, .inl f256)), (qu, .inl (cC, 160, .inl du273))]) [0, 1, 2, 3, 4, 5] rfl
          have hDc := hD.sub (ws' := [(pq, .inr (1, [.ref qd, .ref pt, .int (nI z), .ref pu, .int md273])), (pt, .inl (cB, 128, .inl f256)), (pu, .inl (cI, 160, .inl lu273)), (qd, .inr (0, [.ref qt, .int (nI z), .ref qu, .int md273])), (qt, .inl (cE, 128, .inl f256)), (qu, .inl (cC, 160, .inl du273))]) [0, 1, 2, 3, 4, 5] (by decide) rfl
          have hKc := hK.sub (tys' := [(cB, .byte), (cI, .int), (cE, .byte), (cC, .char)]) [0, 1, 2, 3] rfl
          have hFc := va_free (wc := [(pq, .inr (1, [.ref qd, .ref pt, .int (nI z), .ref pu, .int md273])), (pt, .inl (cB, 128, .inl f256)), (pu, .inl (cI, 160, .inl lu273)), (qd, .inr (0, [.ref qt, .int (nI z), .ref qu, .int md273])), (qt, .inl (cE, 128, .inl f256)), (qu, .inl (cC, 160, .inl du273))]) hD hS hA [0, 1, 2, 3, 4, 5] rfl
          refine va_calli (va_runV (As := [.int 0, .int (nI z), .int we, .int wc]) (rest := []) ⟨hx, hb, hml, hown, hts⟩ (ud_X0_turns l D H.size t1 t2 pq pt pu qd qt qu z cB cI cE cC md273 f256 lu273 du273 hz hf256 0 (nI z) we wc) (cwV 4 hts (lw_V q68 q70 qs0 q11 q71) rfl rfl rfl (by decide +kernel) ⟨Nat.le_of_ble_eq_true rfl, Nat.le_of_ble_eq_true rfl⟩) ⟨ud_fbt, va_recv hKc hPc (ci := 1) (q0 := 0) rfl rfl, fun U hU hW => ⟨rfl, ud_got hPc hKc hDc hTb hS hFc U hU hW⟩⟩ rfl rfl hl.1 rfl (lv_room (Nat.le_of_ble_eq_true rfl)) dX0_step_289 ⟨Nat.le_of_ble_eq_true rfl, Nat.le_of_ble_eq_true rfl⟩) hS (fun q _ h => hFc q h) hFc (fun r u289 t H1 locs ht hvm hw hB hz1 hk1 hS => ?_)
          obtain ⟨md289, lu289, du289⟩ := u289
          obtain ⟨hr1, hmk289, -⟩ := hw
          subst hr1
          obtain ⟨hP1, hK1, hD1⟩ := hB
          rw [ht] at hP1
          obtain ⟨hP, hD⟩ := va_join (wr := []) (w1 := [(pq, .inr (1, [.ref qd, .ref pt, .int (nI z), .ref pu, .int md289])), (pt, .inl (cB, 128, .inl f256)), (pu, .inl (cI, 160, .inl lu289)), (qd, .inr (0, [.ref qt, .int (nI z), .ref qu, .int md289])), (qt, .inl (cE, 128, .inl f256)), (qu, .inl (cC, 160, .inl du289))]) hP hD [0, 1, 2, 3, 4, 5] [] rfl rfl (by decide) (by decide) hk1 hFc hP1 hD1
          generalize H1 = H at hP hS ⊢
          have hP : va_P D ud_Cl [(pq, .inr (1, [.ref qd, .ref pt, .int (nI z), .ref pu, .int md289])), (pt, .inl (cB, 128, .inl f256)), (pu, .inl (cI, 160, .inl lu289)), (qd, .inr (0, [.ref qt, .int (nI z), .ref qu, .int md289])), (qt, .inl (cE, 128, .inl f256)), (qu, .inl (cC, 160, .inl du289))] H := hP
          have hD : va_D A [(pq, .inr (1, [.ref qd, .ref pt, .int (nI z), .ref pu, .int md289])), (pt, .inl (cB, 128, .inl f256)), (pu, .inl (cI, 160, .inl lu289)), (qd, .inr (0, [.ref qt, .int (nI z), .ref qu, .int md289])), (qt, .inl (cE, 128, .inl f256)), (qu, .inl (cC, 160, .inl du289))] := hD
          refine W.widen (k := 4) (n := 576) (by omega) (by omega) ?_
          refine lv_if_eq (tgt := 299) hx hb dX0_step_292 (by decide) (fun c292 => ?_) (fun c292 => ?_)
          · exact absurd c292 (by decide)
          · refine lv_iconst (v := 1) hx hb dX0_step_295 (by decide) ?_
            refine lv_goto (tgt := 300) hx hb dX0_step_296 (by decide) ?_
            have hP9 := hP.sub (ws' := [(pq, .inr (1, [.ref qd, .ref pt, .int (nI z), .ref pu, .int md289])), (pt, .inl (cB, 128, .inl f256)), (pu, .inl (cI, 160, .inl lu289)), (qd, .inr (0, [.ref qt, .int (nI z), .ref qu, .int md289])), (qt, .inl (cE, 128, .inl f256)), (qu, .inl (cC, 160, .inl du289))]) [0, 1, 2, 3, 4, 5] rfl
            have hD9 := hD.sub (ws' := [(pq, .inr (1, [.ref qd, .ref pt, .int (nI z), .ref pu, .int md289])), (pt, .inl (cB, 128, .inl f256)), (pu, .inl (cI, 160, .inl lu289)), (qd, .inr (0, [.ref qt, .int (nI z), .ref qu, .int md289])), (qt, .inl (cE, 128, .inl f256)), (qu, .inl (cC, 160, .inl du289))]) [0, 1, 2, 3, 4, 5] (by decide) rfl
            have hK9 := hK.sub (tys' := [(cB, .byte), (cI, .int), (cE, .byte), (cC, .char)]) [0, 1, 2, 3] rfl
            refine W.widen (k := 4) (n := 576) (by omega) (by omega) ?_
            exact W.zret (v := 1) hx hb hr rfl (fun t ht hW => ⟨⟨1, (z, f256, md289, lu289, du289), rfl, ⟨rfl, hz, hf256, hmk289⟩, ud_end ht hW hP9 hK9 hD9⟩, hS.F ht⟩) hS.2.2 dX0_step_300
  · refine lv_tableIn (off := 297) (tgt := 301) hx hb dX0_step_4 (by decide) (by decide) (by decide) (by decide) ?_
    refine lv_aload_n hx hb dX0_step_301 rfl (lv_at hl 0 rfl) ?_
    refine lv_iload hx hb dX0_step_302 (lv_at hl 6 rfl) ?_
    refine lv_iconst (v := 3) hx hb dX0_step_304 (by decide) ?_
    refine lv_iand hx hb dX0_step_305 ?_
    refine lv_if_ne (tgt := 322) hx hb dX0_step_306 (by decide) (fun c306 => ?_) (fun c306 => ?_)
    · refine lv_aload_n hx hb dX0_step_322 rfl (lv_at hl 0 rfl) ?_
      refine va_get (D := D) (ci := 1) (v := .int (nI z)) (C := RX0) (T := TX0) (N := 5) hx hb hts in_X0 hown hK hP 0 rfl rfl 2 (by decide) (hts _ q50) (fun _ h9 => h9) rfl dX0_step_323 ?_
      refine va_put (D := D) (ci := 1) (v := .int (nI z)) (ty := .int) (C := RX0) (T := TX0) (N := 5) hx hb hts in_X0 tyX0 tyX0_ok nmX0 hown hK hP hD hS 0 rfl rfl 2 (by decide) (hts _ q50) (fun _ h9 => h9) rfl (by decide +kernel) rfl rfl (Nat.le_of_ble_eq_true rfl) dX0_step_326 (fun H locs hP hD hS => ?_)
      have hP : va_P D ud_Cl [(pq, .inr (1, [.ref qd, .ref pt, .int (nI z), .ref pu, .int md])), (pt, .inl (cB, 128, .inl f)), (pu, .inl (cI, 160, .inl lu)), (qd, .inr (0, [.ref qt, .int (nI z), .ref qu, .int md])), (qt, .inl (cE, 128, .inl f)), (qu, .inl (cC, 160, .inl du))] H := hP
      have hD : va_D A [(pq, .inr (1, [.ref qd, .ref pt, .int (nI z), .ref pu, .int md])), (pt, .inl (cB, 128, .inl f)), (pu, .inl (cI, 160, .inl lu)), (qd, .inr (0, [.ref qt, .int (nI z), .ref qu, .int md])), (qt, .inl (cE, 128, .inl f)), (qu, .inl (cC, 160, .inl du))] := hD
      refine lv_iload hx hb dX0_step_329 (lv_at hl 6 rfl) ?_
      refine lv_iconst (v := 3) hx hb dX0_step_331 (by decide) ?_
      refine lv_iand hx hb dX0_step_332 ?_
      refine lv_if_ne (tgt := 344) hx hb dX0_step_333 (by decide) (fun c333 => ?_) (fun c333 => ?_)
      · refine lv_aload_n hx hb dX0_step_344 rfl (lv_at hl 0 rfl) ?_
        refine lv_iload_n hx hb dX0_step_345 rfl (lv_at hl 2 rfl) ?_
        have hPc := hP.sub (ws' := [(pq, .inr (1, [.ref qd, .ref pt, .int (nI z), .ref pu, .int md])), (pu, .inl (cI, 160, .inl lu)), (qd, .inr (0, [.ref qt, .int (nI z), .ref qu, .int md])), (qu, .inl (cC, 160, .inl du))]) [0, 2, 3, 5] rfl
        have hDc := hD.sub (ws' := [(pq, .inr (1, [.ref qd, .ref pt, .int (nI z), .ref pu, .int md])), (pu, .inl (cI, 160, .inl lu)), (qd, .inr (0, [.ref qt, .int (nI z), .ref qu, .int md])), (qu, .inl (cC, 160, .inl du))]) [0, 2, 3, 5] (by decide) rfl
        have hKc := hK.sub (tys' := [(cI, .int), (cC, .char)]) [1, 3] rfl
        have hFc := va_free (wc := [(pq, .inr (1, [.ref qd, .ref pt, .int (nI z), .ref pu, .int md])), (pu, .inl (cI, 160, .inl lu)), (qd, .inr (0, [.ref qt, .int (nI z), .ref qu, .int md])), (qu, .inl (cC, 160, .inl du))]) hD hS hA [0, 2, 3, 5] rfl
        refine va_calli (va_runV (As := [.int wa]) (rest := []) ⟨hx, hb, hml, hown, hts⟩ (ud_X0_isUnit l D H.size pq pt pu qd qt qu z cI cC md lu du hmk wa) (cwV 1 hts (lw_V q125 q127 qs6 q11 q128) rfl rfl rfl (by decide +kernel) ⟨Nat.le_of_ble_eq_true rfl, Nat.le_of_ble_eq_true rfl⟩) ⟨ud_fb, va_recv hKc hPc (ci := 1) (q0 := 0) rfl rfl, fun U hU hW => ⟨rfl, ud_go hPc hKc hDc U hU hW⟩⟩ rfl rfl hl.1 rfl (lv_room (Nat.le_of_ble_eq_true rfl)) dX0_step_346 ⟨Nat.le_of_ble_eq_true rfl, Nat.le_of_ble_eq_true rfl⟩) hS (fun q _ h => hFc q h) hFc (fun r u t H1 locs ht hvm hw hB hz1 hk1 hS => ?_)
        obtain ⟨hP1, hK1, hD1⟩ := hB
        rw [ht] at hP1
        obtain ⟨hP, hD⟩ := va_join (wr := [(pt, .inl (cB, 128, .inl f)), (qt, .inl (cE, 128, .inl f))]) (w1 := [(pq, .inr (1, [.ref qd, .ref pt, .int (nI z), .ref pu, .int md])), (pu, .inl (cI, 160, .inl lu)), (qd, .inr (0, [.ref qt, .int (nI z), .ref qu, .int md])), (qu, .inl (cC, 160, .inl du))]) hP hD [0, 2, 3, 5] [1, 4] rfl rfl (by decide) (by decide) hk1 hFc hP1 hD1
        generalize H1 = H at hP hS ⊢
        have hP : va_P D ud_Cl [(pt, .inl (cB, 128, .inl f)), (qt, .inl (cE, 128, .inl f)), (pq, .inr (1, [.ref qd, .ref pt, .int (nI z), .ref pu, .int md])), (pu, .inl (cI, 160, .inl lu)), (qd, .inr (0, [.ref qt, .int (nI z), .ref qu, .int md])), (qu, .inl (cC, 160, .inl du))] H := hP
        have hD : va_D A [(pt, .inl (cB, 128, .inl f)), (qt, .inl (cE, 128, .inl f)), (pq, .inr (1, [.ref qd, .ref pt, .int (nI z), .ref pu, .int md])), (pu, .inl (cI, 160, .inl lu)), (qd, .inr (0, [.ref qt, .int (nI z), .ref qu, .int md])), (qu, .inl (cC, 160, .inl du))] := hD
        have hP := hP.sub (ws' := [(pq, .inr (1, [.ref qd, .ref pt, .int (nI z), .ref pu, .int md])), (pt, .inl (cB, 128, .inl f)), (pu, .inl (cI, 160, .inl lu)), (qd, .inr (0, [.ref qt, .int (nI z), .ref qu, .int md])), (qt, .inl (cE, 128, .inl f)), (qu, .inl (cC, 160, .inl du))]) [2, 0, 3, 4, 1, 5] rfl
        have hD := hD.sub (ws' := [(pq, .inr (1, [.ref qd, .ref pt, .int (nI z), .ref pu, .int md])), (pt, .inl (cB, 128, .inl f)), (pu, .inl (cI, 160, .inl lu)), (qd, .inr (0, [.ref qt, .int (nI z), .ref qu, .int md])), (qt, .inl (cE, 128, .inl f)), (qu, .inl (cC, 160, .inl du))]) [2, 0, 3, 4, 1, 5] (by decide) rfl
        subst hw
        refine lv_if_eq (tgt := 370) hx hb dX0_step_349 (by decide) (fun c349 => ?_) (fun c349 => ?_)
        · exact absurd c349 (by decide)
        · refine lv_aload_n hx hb dX0_step_352 rfl (lv_at hl 0 rfl) ?_
          refine lv_iload_n hx hb dX0_step_353 rfl (lv_at hl 3 rfl) ?_
          refine lv_iload hx hb dX0_step_354 (lv_at hl 4 rfl) ?_
          refine lv_iload hx hb dX0_step_356 (lv_at hl 5 rfl) ?_
          refine lv_iload hx hb dX0_step_358 (lv_at hl 6 rfl) ?_
          have hPc := hP.sub (ws' := [(pq, .inr (1, [.ref qd, .ref pt, .int (nI z), .ref pu, .int md])), (pt, .inl (cB, 128, .inl f)), (pu, .inl (cI, 160, .inl lu)), (qd, .inr (0, [.ref qt, .int (nI z), .ref qu, .int md])), (qt, .inl (cE, 128, .inl f)), (qu, .inl (cC, 160, .inl du))]) [0, 1, 2, 3, 4, 5] rfl
          have hDc := hD.sub (ws' := [(pq, .inr (1, [.ref qd, .ref pt, .int (nI z), .ref pu, .int md])), (pt, .inl (cB, 128, .inl f)), (pu, .inl (cI, 160, .inl lu)), (qd, .inr (0, [.ref qt, .int (nI z), .ref qu, .int md])), (qt, .inl (cE, 128, .inl f)), (qu, .inl (cC, 160, .inl du))]) [0, 1, 2, 3, 4, 5] (by decide) rfl
          have hKc := hK.sub (tys' := [(cB, .byte), (cI, .int), (cE, .byte), (cC, .char)]) [0, 1, 2, 3] rfl
          have hFc := va_free (wc := [(pq, .inr (1, [.ref qd, .ref pt, .int (nI z), .ref pu, .int md])), (pt, .inl (cB, 128, .inl f)), (pu, .inl (cI, 160, .inl lu)), (qd, .inr (0, [.ref qt, .int (nI z), .ref qu, .int md])), (qt, .inl (cE, 128, .inl f)), (qu, .inl (cC, 160, .inl du))]) hD hS hA [0, 1, 2, 3, 4, 5] rfl
          refine va_calli (va_runV (As := [.int wb, .int wc, .int wd, .int we]) (rest := []) ⟨hx, hb, hml, hown, hts⟩ (ud_X0_turns l D H.size t1 t2 pq pt pu qd qt qu z cB cI cE cC md f lu du hz hf wb wc wd we) (cwV 4 hts (lw_V q68 q70 qs0 q11 q71) rfl rfl rfl (by decide +kernel) ⟨Nat.le_of_ble_eq_true rfl, Nat.le_of_ble_eq_true rfl⟩) ⟨ud_fbt, va_recv hKc hPc (ci := 1) (q0 := 0) rfl rfl, fun U hU hW => ⟨rfl, ud_got hPc hKc hDc hTb hS hFc U hU hW⟩⟩ rfl rfl hl.1 rfl (lv_room (Nat.le_of_ble_eq_true rfl)) dX0_step_360 ⟨Nat.le_of_ble_eq_true rfl, Nat.le_of_ble_eq_true rfl⟩) hS (fun q _ h => hFc q h) hFc (fun r u360 t H1 locs ht hvm hw hB hz1 hk1 hS => ?_)
          obtain ⟨md360, lu360, du360⟩ := u360
          obtain ⟨hr1, hmk360, -⟩ := hw
          subst hr1
          obtain ⟨hP1, hK1, hD1⟩ := hB
          rw [ht] at hP1
          obtain ⟨hP, hD⟩ := va_join (wr := []) (w1 := [(pq, .inr (1, [.ref qd, .ref pt, .int (nI z), .ref pu, .int md360])), (pt, .inl (cB, 128, .inl f)), (pu, .inl (cI, 160, .inl lu360)), (qd, .inr (0, [.ref qt, .int (nI z), .ref qu, .int md360])), (qt, .inl (cE, 128, .inl f)), (qu, .inl (cC, 160, .inl du360))]) hP hD [0, 1, 2, 3, 4, 5] [] rfl rfl (by decide) (by decide) hk1 hFc hP1 hD1
          generalize H1 = H at hP hS ⊢
          have hP : va_P D ud_Cl [(pq, .inr (1, [.ref qd, .ref pt, .int (nI z), .ref pu, .int md360])), (pt, .inl (cB, 128, .inl f)), (pu, .inl (cI, 160, .inl lu360)), (qd, .inr (0, [.ref qt, .int (nI z), .ref qu, .int md360])), (qt, .inl (cE, 128, .inl f)), (qu, .inl (cC, 160, .inl du360))] H := hP
          have hD : va_D A [(pq, .inr (1, [.ref qd, .ref pt, .int (nI z), .ref pu, .int md360])), (pt, .inl (cB, 128, .inl f)), (pu, .inl (cI, 160, .inl lu360)), (qd, .inr (0, [.ref qt, .int (nI z), .ref qu, .int md360])), (qt, .inl (cE, 128, .inl f)), (qu, .inl (cC, 160, .inl du360))] := hD
          refine W.widen (k := 2) (n := 288) (by omega) (by omega) ?_
          refine lv_if_eq (tgt := 370) hx hb dX0_step_363 (by decide) (fun c363 => ?_) (fun c363 => ?_)
          · exact absurd c363 (by decide)
          · refine lv_iconst (v := 1) hx hb dX0_step_366 (by decide) ?_
            refine lv_goto (tgt := 371) hx hb dX0_step_367 (by decide) ?_
            have hP9 := hP.sub (ws' := [(pq, .inr (1, [.ref qd, .ref pt, .int (nI z), .ref pu, .int md360])), (pt, .inl (cB, 128, .inl f)), (pu, .inl (cI, 160, .inl lu360)), (qd, .inr (0, [.ref qt, .int (nI z), .ref qu, .int md360])), (qt, .inl (cE, 128, .inl f)), (qu, .inl (cC, 160, .inl du360))]) [0, 1, 2, 3, 4, 5] rfl
            have hD9 := hD.sub (ws' := [(pq, .inr (1, [.ref qd, .ref pt, .int (nI z), .ref pu, .int md360])), (pt, .inl (cB, 128, .inl f)), (pu, .inl (cI, 160, .inl lu360)), (qd, .inr (0, [.ref qt, .int (nI z), .ref qu, .int md360])), (qt, .inl (cE, 128, .inl f)), (qu, .inl (cC, 160, .inl du360))]) [0, 1, 2, 3, 4, 5] (by decide) rfl
            have hK9 := hK.sub (tys' := [(cB, .byte), (cI, .int), (cE, .byte), (cC, .char)]) [0, 1, 2, 3] rfl
            refine W.widen (k := 4) (n := 576) (by omega) (by omega) ?_
            exact W.zret (v := 1) hx hb hr rfl (fun t ht hW => ⟨⟨1, (z, f, md360, lu360, du360), rfl, ⟨rfl, hz, hf, hmk360⟩, ud_end ht hW hP9 hK9 hD9⟩, hS.F ht⟩) hS.2.2 dX0_step_371
      · exact absurd c333 c306
    · have hz6 : ud_fM wa (z + 1) ≤ 128 := by have := ud_fM_lt wa (m := z + 1) (by omega); omega
      refine lv_iload_n hx hb dX0_step_309 rfl (lv_at hl 2 rfl) ?_
      refine lv_aload_n hx hb dX0_step_310 rfl (lv_at hl 0 rfl) ?_
      refine va_get (D := D) (ci := 1) (v := .int (nI z)) (C := RX0) (T := TX0) (N := 5) hx hb hts in_X0 hown hK hP 0 rfl rfl 2 (by decide) (hts _ q50) (fun _ h9 => h9) rfl dX0_step_311 ?_
      refine lv_iconst (v := nI 1) hx hb dX0_step_314 (by decide) ?_
      refine lv_iadd hx hb dX0_step_315 ?_
      refine ud_top (v := nI (z + 1)) (nI_add _ _) ?_
      have hPc := hP.sub (ws' := []) [] rfl
      have hDc := hD.sub (ws' := []) [] (by decide) rfl
      have hKc := hK.sub (tys' := []) [] rfl
      have hFc := va_free (wc := []) hD hS hA [] rfl
      refine va_calli (va_runS (As := [.int wa, .int (nI (z + 1))]) (rest := [.ref pq]) ⟨hx, hb, hml, hown, hts⟩ (ud_X0_from l D s.heap.size wa (z + 1) (by omega) (by omega)) (va_cwS 2 hts (lw_S q72 q73 q11 q74) rfl rfl rfl (by decide +kernel) ⟨Nat.le_of_ble_eq_true rfl, Nat.le_of_ble_eq_true rfl⟩) ⟨ud_fb, fun U hU hW => ⟨rfl, ud_go hPc hKc hDc U hU hW⟩⟩ rfl rfl hl.1 rfl (lv_room (Nat.le_of_ble_eq_true rfl)) dX0_step_316 ⟨Nat.le_of_ble_eq_true rfl, Nat.le_of_ble_eq_true rfl⟩) hS (fun q _ h => hFc q h) hFc (fun r u t H1 locs ht hvm hw hB hz1 hk1 hS => ?_)
      obtain ⟨hP1, hK1, hD1⟩ := hB
      rw [ht] at hP1
      obtain ⟨hP, hD⟩ := va_join (wr := [(pq, .inr (1, [.ref qd, .ref pt, .int (nI z), .ref pu, .int md])), (pt, .inl (cB, 128, .inl f)), (pu, .inl (cI, 160, .inl lu)), (qd, .inr (0, [.ref qt, .int (nI z), .ref qu, .int md])), (qt, .inl (cE, 128, .inl f)), (qu, .inl (cC, 160, .inl du))]) (w1 := []) hP hD [] [0, 1, 2, 3, 4, 5] rfl rfl (by decide) (by decide) hk1 hFc hP1 hD1
      generalize H1 = H at hP hS ⊢
      have hP : va_P D ud_Cl [(pq, .inr (1, [.ref qd, .ref pt, .int (nI z), .ref pu, .int md])), (pt, .inl (cB, 128, .inl f)), (pu, .inl (cI, 160, .inl lu)), (qd, .inr (0, [.ref qt, .int (nI z), .ref qu, .int md])), (qt, .inl (cE, 128, .inl f)), (qu, .inl (cC, 160, .inl du))] H := hP
      have hD : va_D A [(pq, .inr (1, [.ref qd, .ref pt, .int (nI z), .ref pu, .int md])), (pt, .inl (cB, 128, .inl f)), (pu, .inl (cI, 160, .inl lu)), (qd, .inr (0, [.ref qt, .int (nI z), .ref qu, .int md])), (qt, .inl (cE, 128, .inl f)), (qu, .inl (cC, 160, .inl du))] := hD
      subst hw
      refine lv_goto (tgt := 326) hx hb dX0_step_319 (by decide) ?_
      refine va_put (D := D) (ci := 1) (v := .int (nI (ud_fM wa (z + 1)))) (ty := .int) (C := RX0) (T := TX0) (N := 5) hx hb hts in_X0 tyX0 tyX0_ok nmX0 hown hK hP hD hS 0 rfl rfl 2 (by decide) (hts _ q50) (fun _ h9 => h9) rfl (by decide +kernel) rfl rfl (Nat.le_of_ble_eq_true rfl) dX0_step_326 (fun H locs hP hD hS => ?_)
      have hP : va_P D ud_Cl [(pq, .inr (1, [.ref qd, .ref pt, .int (nI (ud_fM wa (z + 1))), .ref pu, .int md])), (pt, .inl (cB, 128, .inl f)), (pu, .inl (cI, 160, .inl lu)), (qd, .inr (0, [.ref qt, .int (nI z), .ref qu, .int md])), (qt, .inl (cE, 128, .inl f)), (qu, .inl (cC, 160, .inl du))] H := hP
      have hD : va_D A [(pq, .inr (1, [.ref qd, .ref pt, .int (nI (ud_fM wa (z + 1))), .ref pu, .int md])), (pt, .inl (cB, 128, .inl f)), (pu, .inl (cI, 160, .inl lu)), (qd, .inr (0, [.ref qt, .int (nI z), .ref qu, .int md])), (qt, .inl (cE, 128, .inl f)), (qu, .inl (cC, 160, .inl du))] := hD
      refine lv_iload hx hb dX0_step_329 (lv_at hl 6 rfl) ?_
      refine lv_iconst (v := 3) hx hb dX0_step_331 (by decide) ?_
      refine lv_iand hx hb dX0_step_332 ?_
      refine lv_if_ne (tgt := 344) hx hb dX0_step_333 (by decide) (fun c333 => ?_) (fun c333 => ?_)
      · exact absurd c306 c333
      · refine lv_aload_n hx hb dX0_step_336 rfl (lv_at hl 0 rfl) ?_
        refine va_get (D := D) (ci := 1) (v := .ref qd) (C := RX0) (T := TX0) (N := 5) hx hb hts in_X0 hown hK hP 0 rfl rfl 0 (by decide) (hts _ q48) (fun _ h9 => h9) rfl dX0_step_337 ?_
        refine lv_iload_n hx hb dX0_step_340 rfl (lv_at hl 2 rfl) ?_
        have hPc := hP.sub (ws' := [(qd, .inr (0, [.ref qt, .int (nI z), .ref qu, .int md]))]) [3] rfl
        have hDc := hD.sub (ws' := [(qd, .inr (0, [.ref qt, .int (nI z), .ref qu, .int md]))]) [3] (by decide) rfl
        have hKc := hK.sub (tys' := []) [] rfl
        have hFc := va_free (wc := [(qd, .inr (0, [.ref qt, .int (nI z), .ref qu, .int md]))]) hD hS hA [3] rfl
        refine va_callv (va_runV (As := [.int wa]) (rest := []) ⟨hx, hb, hml, hown, hts⟩ (ud_X1_trim l D H.size qd qt qu z md hz wa) (cwV 1 hts (lw_V q164 q165 q166 q12 q167) rfl rfl rfl (by decide +kernel) ⟨Nat.le_of_ble_eq_true rfl, Nat.le_of_ble_eq_true rfl⟩) ⟨ud_fb, va_recv hKc hPc (ci := 0) (q0 := 0) rfl rfl, fun U hU hW => ⟨rfl, ud_go hPc hKc hDc U hU hW⟩⟩ rfl rfl hl.1 rfl (lv_room (Nat.le_of_ble_eq_true rfl)) dX0_step_341 ⟨Nat.le_of_ble_eq_true rfl, Nat.le_of_ble_eq_true rfl⟩) hS (fun q _ h => hFc q h) hFc (fun u t H1 locs ht hvm hw hB hz1 hk1 hS => ?_)
        obtain ⟨hP1, hK1, hD1⟩ := hB
        rw [ht] at hP1
        obtain ⟨hP, hD⟩ := va_join (wr := [(pq, .inr (1, [.ref qd, .ref pt, .int (nI (ud_fM wa (z + 1))), .ref pu, .int md])), (pt, .inl (cB, 128, .inl f)), (pu, .inl (cI, 160, .inl lu)), (qt, .inl (cE, 128, .inl f)), (qu, .inl (cC, 160, .inl du))]) (w1 := [(qd, .inr (0, [.ref qt, .int (nI (ud_fM wa (z + 1))), .ref qu, .int md]))]) hP hD [3] [0, 1, 2, 4, 5] rfl rfl (by decide) (by decide) hk1 hFc hP1 hD1
        generalize H1 = H at hP hS ⊢
        have hP : va_P D ud_Cl [(pq, .inr (1, [.ref qd, .ref pt, .int (nI (ud_fM wa (z + 1))), .ref pu, .int md])), (pt, .inl (cB, 128, .inl f)), (pu, .inl (cI, 160, .inl lu)), (qt, .inl (cE, 128, .inl f)), (qu, .inl (cC, 160, .inl du)), (qd, .inr (0, [.ref qt, .int (nI (ud_fM wa (z + 1))), .ref qu, .int md]))] H := hP
        have hD : va_D A [(pq, .inr (1, [.ref qd, .ref pt, .int (nI (ud_fM wa (z + 1))), .ref pu, .int md])), (pt, .inl (cB, 128, .inl f)), (pu, .inl (cI, 160, .inl lu)), (qt, .inl (cE, 128, .inl f)), (qu, .inl (cC, 160, .inl du)), (qd, .inr (0, [.ref qt, .int (nI (ud_fM wa (z + 1))), .ref qu, .int md]))] := hD
        have hP := hP.sub (ws' := [(pq, .inr (1, [.ref qd, .ref pt, .int (nI (ud_fM wa (z + 1))), .ref pu, .int md])), (pt, .inl (cB, 128, .inl f)), (pu, .inl (cI, 160, .inl lu)), (qd, .inr (0, [.ref qt, .int (nI (ud_fM wa (z + 1))), .ref qu, .int md])), (qt, .inl (cE, 128, .inl f)), (qu, .inl (cC, 160, .inl du))]) [0, 1, 2, 5, 3, 4] rfl
        have hD := hD.sub (ws' := [(pq, .inr (1, [.ref qd, .ref pt, .int (nI (ud_fM wa (z + 1))), .ref pu, .int md])), (pt, .inl (cB, 128, .inl f)), (pu, .inl (cI, 160, .inl lu)), (qd, .inr (0, [.ref qt, .int (nI (ud_fM wa (z + 1))), .ref qu, .int md])), (qt, .inl (cE, 128, .inl f)), (qu, .inl (cC, 160, .inl du))]) [0, 1, 2, 5, 3, 4] (by decide) rfl
        refine lv_aload_n hx hb dX0_step_344 rfl (lv_at hl 0 rfl) ?_
        refine lv_iload_n hx hb dX0_step_345 rfl (lv_at hl 2 rfl) ?_
        have hPc := hP.sub (ws' := [(pq, .inr (1, [.ref qd, .ref pt, .int (nI (ud_fM wa (z + 1))), .ref pu, .int md])), (pu, .inl (cI, 160, .inl lu)), (qd, .inr (0, [.ref qt, .int (nI (ud_fM wa (z + 1))), .ref qu, .int md])), (qu, .inl (cC, 160, .inl du))]) [0, 2, 3, 5] rfl
        have hDc := hD.sub (ws' := [(pq, .inr (1, [.ref qd, .ref pt, .int (nI (ud_fM wa (z + 1))), .ref pu, .int md])), (pu, .inl (cI, 160, .inl lu)), (qd, .inr (0, [.ref qt, .int (nI (ud_fM wa (z + 1))), .ref qu, .int md])), (qu, .inl (cC, 160, .inl du))]) [0, 2, 3, 5] (by decide) rfl
        have hKc := hK.sub (tys' := [(cI, .int), (cC, .char)]) [1, 3] rfl
        have hFc := va_free (wc := [(pq, .inr (1, [.ref qd, .ref pt, .int (nI (ud_fM wa (z + 1))), .ref pu, .int md])), (pu, .inl (cI, 160, .inl lu)), (qd, .inr (0, [.ref qt, .int (nI (ud_fM wa (z + 1))), .ref qu, .int md])), (qu, .inl (cC, 160, .inl du))]) hD hS hA [0, 2, 3, 5] rfl
        refine va_calli (va_runV (As := [.int wa]) (rest := []) ⟨hx, hb, hml, hown, hts⟩ (ud_X0_isUnit l D H.size pq pt pu qd qt qu (ud_fM wa (z + 1)) cI cC md lu du hmk wa) (cwV 1 hts (lw_V q125 q127 qs6 q11 q128) rfl rfl rfl (by decide +kernel) ⟨Nat.le_of_ble_eq_true rfl, Nat.le_of_ble_eq_true rfl⟩) ⟨ud_fb, va_recv hKc hPc (ci := 1) (q0 := 0) rfl rfl, fun U hU hW => ⟨rfl, ud_go hPc hKc hDc U hU hW⟩⟩ rfl rfl hl.1 rfl (lv_room (Nat.le_of_ble_eq_true rfl)) dX0_step_346 ⟨Nat.le_of_ble_eq_true rfl, Nat.le_of_ble_eq_true rfl⟩) hS (fun q _ h => hFc q h) hFc (fun r u t H1 locs ht hvm hw hB hz1 hk1 hS => ?_)
        obtain ⟨hP1, hK1, hD1⟩ := hB
        rw [ht] at hP1
        obtain ⟨hP, hD⟩ := va_join (wr := [(pt, .inl (cB, 128, .inl f)), (qt, .inl (cE, 128, .inl f))]) (w1 := [(pq, .inr (1, [.ref qd, .ref pt, .int (nI (ud_fM wa (z + 1))), .ref pu, .int md])), (pu, .inl (cI, 160, .inl lu)), (qd, .inr (0, [.ref qt, .int (nI (ud_fM wa (z + 1))), .ref qu, .int md])), (qu, .inl (cC, 160, .inl du))]) hP hD [0, 2, 3, 5] [1, 4] rfl rfl (by decide) (by decide) hk1 hFc hP1 hD1
        generalize H1 = H at hP hS ⊢
        have hP : va_P D ud_Cl [(pt, .inl (cB, 128, .inl f)), (qt, .inl (cE, 128, .inl f)), (pq, .inr (1, [.ref qd, .ref pt, .int (nI (ud_fM wa (z + 1))), .ref pu, .int md])), (pu, .inl (cI, 160, .inl lu)), (qd, .inr (0, [.ref qt, .int (nI (ud_fM wa (z + 1))), .ref qu, .int md])), (qu, .inl (cC, 160, .inl du))] H := hP
        have hD : va_D A [(pt, .inl (cB, 128, .inl f)), (qt, .inl (cE, 128, .inl f)), (pq, .inr (1, [.ref qd, .ref pt, .int (nI (ud_fM wa (z + 1))), .ref pu, .int md])), (pu, .inl (cI, 160, .inl lu)), (qd, .inr (0, [.ref qt, .int (nI (ud_fM wa (z + 1))), .ref qu, .int md])), (qu, .inl (cC, 160, .inl du))] := hD
        have hP := hP.sub (ws' := [(pq, .inr (1, [.ref qd, .ref pt, .int (nI (ud_fM wa (z + 1))), .ref pu, .int md])), (pt, .inl (cB, 128, .inl f)), (pu, .inl (cI, 160, .inl lu)), (qd, .inr (0, [.ref qt, .int (nI (ud_fM wa (z + 1))), .ref qu, .int md])), (qt, .inl (cE, 128, .inl f)), (qu, .inl (cC, 160, .inl du))]) [2, 0, 3, 4, 1, 5] rfl
        have hD := hD.sub (ws' := [(pq, .inr (1, [.ref qd, .ref pt, .int (nI (ud_fM wa (z + 1))), .ref pu, .int md])), (pt, .inl (cB, 128, .inl f)), (pu, .inl (cI, 160, .inl lu)), (qd, .inr (0, [.ref qt, .int (nI (ud_fM wa (z + 1))), .ref qu, .int md])), (qt, .inl (cE, 128, .inl f)), (qu, .inl (cC, 160, .inl du))]) [2, 0, 3, 4, 1, 5] (by decide) rfl
        subst hw
        refine lv_if_eq (tgt := 370) hx hb dX0_step_349 (by decide) (fun c349 => ?_) (fun c349 => ?_)
        · exact absurd c349 (by decide)
        · refine lv_aload_n hx hb dX0_step_352 rfl (lv_at hl 0 rfl) ?_
          refine lv_iload_n hx hb dX0_step_353 rfl (lv_at hl 3 rfl) ?_
          refine lv_iload hx hb dX0_step_354 (lv_at hl 4 rfl) ?_
          refine lv_iload hx hb dX0_step_356 (lv_at hl 5 rfl) ?_
          refine lv_iload hx hb dX0_step_358 (lv_at hl 6 rfl) ?_
          have hPc := hP.sub (ws' := [(pq, .inr (1, [.ref qd, .ref pt, .int (nI (ud_fM wa (z + 1))), .ref pu, .int md])), (pt, .inl (cB, 128, .inl f)), (pu, .inl (cI, 160, .inl lu)), (qd, .inr (0, [.ref qt, .int (nI (ud_fM wa (z + 1))), .ref qu, .int md])), (qt, .inl (cE, 128, .inl f)), (qu, .inl (cC, 160, .inl du))]) [0, 1, 2, 3, 4, 5] rfl
          have hDc := hD.sub (ws' := [(pq, .inr (1, [.ref qd, .ref pt, .int (nI (ud_fM wa (z + 1))), .ref pu, .int md])), (pt, .inl (cB, 128, .inl f)), (pu, .inl (cI, 160, .inl lu)), (qd, .inr (0, [.ref qt, .int (nI (ud_fM wa (z + 1))), .ref qu, .int md])), (qt, .inl (cE, 128, .inl f)), (qu, .inl (cC, 160, .inl du))]) [0, 1, 2, 3, 4, 5] (by decide) rfl
          have hKc := hK.sub (tys' := [(cB, .byte), (cI, .int), (cE, .byte), (cC, .char)]) [0, 1, 2, 3] rfl
          have hFc := va_free (wc := [(pq, .inr (1, [.ref qd, .ref pt, .int (nI (ud_fM wa (z + 1))), .ref pu, .int md])), (pt, .inl (cB, 128, .inl f)), (pu, .inl (cI, 160, .inl lu)), (qd, .inr (0, [.ref qt, .int (nI (ud_fM wa (z + 1))), .ref qu, .int md])), (qt, .inl (cE, 128, .inl f)), (qu, .inl (cC, 160, .inl du))]) hD hS hA [0, 1, 2, 3, 4, 5] rfl
          refine va_calli (va_runV (As := [.int wb, .int wc, .int wd, .int we]) (rest := []) ⟨hx, hb, hml, hown, hts⟩ (ud_X0_turns l D H.size t1 t2 pq pt pu qd qt qu (ud_fM wa (z + 1)) cB cI cE cC md f lu du hz6 hf wb wc wd we) (cwV 4 hts (lw_V q68 q70 qs0 q11 q71) rfl rfl rfl (by decide +kernel) ⟨Nat.le_of_ble_eq_true rfl, Nat.le_of_ble_eq_true rfl⟩) ⟨ud_fbt, va_recv hKc hPc (ci := 1) (q0 := 0) rfl rfl, fun U hU hW => ⟨rfl, ud_got hPc hKc hDc hTb hS hFc U hU hW⟩⟩ rfl rfl hl.1 rfl (lv_room (Nat.le_of_ble_eq_true rfl)) dX0_step_360 ⟨Nat.le_of_ble_eq_true rfl, Nat.le_of_ble_eq_true rfl⟩) hS (fun q _ h => hFc q h) hFc (fun r u360 t H1 locs ht hvm hw hB hz1 hk1 hS => ?_)
          obtain ⟨md360, lu360, du360⟩ := u360
          obtain ⟨hr1, hmk360, -⟩ := hw
          subst hr1
          obtain ⟨hP1, hK1, hD1⟩ := hB
          rw [ht] at hP1
          obtain ⟨hP, hD⟩ := va_join (wr := []) (w1 := [(pq, .inr (1, [.ref qd, .ref pt, .int (nI (ud_fM wa (z + 1))), .ref pu, .int md360])), (pt, .inl (cB, 128, .inl f)), (pu, .inl (cI, 160, .inl lu360)), (qd, .inr (0, [.ref qt, .int (nI (ud_fM wa (z + 1))), .ref qu, .int md360])), (qt, .inl (cE, 128, .inl f)), (qu, .inl (cC, 160, .inl du360))]) hP hD [0, 1, 2, 3, 4, 5] [] rfl rfl (by decide) (by decide) hk1 hFc hP1 hD1
          generalize H1 = H at hP hS ⊢
          have hP : va_P D ud_Cl [(pq, .inr (1, [.ref qd, .ref pt, .int (nI (ud_fM wa (z + 1))), .ref pu, .int md360])), (pt, .inl (cB, 128, .inl f)), (pu, .inl (cI, 160, .inl lu360)), (qd, .inr (0, [.ref qt, .int (nI (ud_fM wa (z + 1))), .ref qu, .int md360])), (qt, .inl (cE, 128, .inl f)), (qu, .inl (cC, 160, .inl du360))] H := hP
          have hD : va_D A [(pq, .inr (1, [.ref qd, .ref pt, .int (nI (ud_fM wa (z + 1))), .ref pu, .int md360])), (pt, .inl (cB, 128, .inl f)), (pu, .inl (cI, 160, .inl lu360)), (qd, .inr (0, [.ref qt, .int (nI (ud_fM wa (z + 1))), .ref qu, .int md360])), (qt, .inl (cE, 128, .inl f)), (qu, .inl (cC, 160, .inl du360))] := hD
          refine W.widen (k := 2) (n := 288) (by omega) (by omega) ?_
          refine lv_if_eq (tgt := 370) hx hb dX0_step_363 (by decide) (fun c363 => ?_) (fun c363 => ?_)
          · exact absurd c363 (by decide)
          · refine lv_iconst (v := 1) hx hb dX0_step_366 (by decide) ?_
            refine lv_goto (tgt := 371) hx hb dX0_step_367 (by decide) ?_
            have hP9 := hP.sub (ws' := [(pq, .inr (1, [.ref qd, .ref pt, .int (nI (ud_fM wa (z + 1))), .ref pu, .int md360])), (pt, .inl (cB, 128, .inl f)), (pu, .inl (cI, 160, .inl lu360)), (qd, .inr (0, [.ref qt, .int (nI (ud_fM wa (z + 1))), .ref qu, .int md360])), (qt, .inl (cE, 128, .inl f)), (qu, .inl (cC, 160, .inl du360))]) [0, 1, 2, 3, 4, 5] rfl
            have hD9 := hD.sub (ws' := [(pq, .inr (1, [.ref qd, .ref pt, .int (nI (ud_fM wa (z + 1))), .ref pu, .int md360])), (pt, .inl (cB, 128, .inl f)), (pu, .inl (cI, 160, .inl lu360)), (qd, .inr (0, [.ref qt, .int (nI (ud_fM wa (z + 1))), .ref qu, .int md360])), (qt, .inl (cE, 128, .inl f)), (qu, .inl (cC, 160, .inl du360))]) [0, 1, 2, 3, 4, 5] (by decide) rfl
            have hK9 := hK.sub (tys' := [(cB, .byte), (cI, .int), (cE, .byte), (cC, .char)]) [0, 1, 2, 3] rfl
            refine W.widen (k := 4) (n := 576) (by omega) (by omega) ?_
            exact W.zret (v := 1) hx hb hr rfl (fun t ht hW => ⟨⟨1, ((ud_fM wa (z + 1)), f, md360, lu360, du360), rfl, ⟨rfl, hz6, hf, hmk360⟩, ud_end ht hW hP9 hK9 hD9⟩, hS.F ht⟩) hS.2.2 dX0_step_371
  · refine lv_tableOut (tgt := 372) hx hb dX0_step_4 (by decide) (by decide) ?_
    refine lv_aload_n hx hb dX0_step_372 rfl (lv_at hl 0 rfl) ?_
    refine lv_iload_n hx hb dX0_step_373 rfl (lv_at hl 2 rfl) ?_
    refine lv_iload_n hx hb dX0_step_374 rfl (lv_at hl 3 rfl) ?_
    refine lv_iload hx hb dX0_step_375 (lv_at hl 4 rfl) ?_
    refine lv_iload hx hb dX0_step_377 (lv_at hl 5 rfl) ?_
    have hPc := hP.sub (ws' := [(pq, .inr (1, [.ref qd, .ref pt, .int (nI z), .ref pu, .int md])), (pt, .inl (cB, 128, .inl f)), (pu, .inl (cI, 160, .inl lu)), (qd, .inr (0, [.ref qt, .int (nI z), .ref qu, .int md])), (qt, .inl (cE, 128, .inl f)), (qu, .inl (cC, 160, .inl du))]) [0, 1, 2, 3, 4, 5] rfl
    have hDc := hD.sub (ws' := [(pq, .inr (1, [.ref qd, .ref pt, .int (nI z), .ref pu, .int md])), (pt, .inl (cB, 128, .inl f)), (pu, .inl (cI, 160, .inl lu)), (qd, .inr (0, [.ref qt, .int (nI z), .ref qu, .int md])), (qt, .inl (cE, 128, .inl f)), (qu, .inl (cC, 160, .inl du))]) [0, 1, 2, 3, 4, 5] (by decide) rfl
    have hKc := hK.sub (tys' := [(cB, .byte), (cI, .int), (cE, .byte), (cC, .char)]) [0, 1, 2, 3] rfl
    have hFc := va_free (wc := [(pq, .inr (1, [.ref qd, .ref pt, .int (nI z), .ref pu, .int md])), (pt, .inl (cB, 128, .inl f)), (pu, .inl (cI, 160, .inl lu)), (qd, .inr (0, [.ref qt, .int (nI z), .ref qu, .int md])), (qt, .inl (cE, 128, .inl f)), (qu, .inl (cC, 160, .inl du))]) hD hS hA [0, 1, 2, 3, 4, 5] rfl
    refine va_calli (va_runV (As := [.int wa, .int wb, .int wc, .int wd]) (rest := []) ⟨hx, hb, hml, hown, hts⟩ (ud_X0_turns l D s.heap.size t1 t2 pq pt pu qd qt qu z cB cI cE cC md f lu du hz hf wa wb wc wd) (cwV 4 hts (lw_V q68 q70 qs0 q11 q71) rfl rfl rfl (by decide +kernel) ⟨Nat.le_of_ble_eq_true rfl, Nat.le_of_ble_eq_true rfl⟩) ⟨ud_fbt, va_recv hKc hPc (ci := 1) (q0 := 0) rfl rfl, fun U hU hW => ⟨rfl, ud_got hPc hKc hDc hTb hS hFc U hU hW⟩⟩ rfl rfl hl.1 rfl (lv_room (Nat.le_of_ble_eq_true rfl)) dX0_step_379 ⟨Nat.le_of_ble_eq_true rfl, Nat.le_of_ble_eq_true rfl⟩) hS (fun q _ h => hFc q h) hFc (fun r u379 t H1 locs ht hvm hw hB hz1 hk1 hS => ?_)
    obtain ⟨md379, lu379, du379⟩ := u379
    obtain ⟨hr1, hmk379, -⟩ := hw
    subst hr1
    obtain ⟨hP1, hK1, hD1⟩ := hB
    rw [ht] at hP1
    obtain ⟨hP, hD⟩ := va_join (wr := []) (w1 := [(pq, .inr (1, [.ref qd, .ref pt, .int (nI z), .ref pu, .int md379])), (pt, .inl (cB, 128, .inl f)), (pu, .inl (cI, 160, .inl lu379)), (qd, .inr (0, [.ref qt, .int (nI z), .ref qu, .int md379])), (qt, .inl (cE, 128, .inl f)), (qu, .inl (cC, 160, .inl du379))]) hP hD [0, 1, 2, 3, 4, 5] [] rfl rfl (by decide) (by decide) hk1 hFc hP1 hD1
    generalize H1 = H at hP hS ⊢
    have hP : va_P D ud_Cl [(pq, .inr (1, [.ref qd, .ref pt, .int (nI z), .ref pu, .int md379])), (pt, .inl (cB, 128, .inl f)), (pu, .inl (cI, 160, .inl lu379)), (qd, .inr (0, [.ref qt, .int (nI z), .ref qu, .int md379])), (qt, .inl (cE, 128, .inl f)), (qu, .inl (cC, 160, .inl du379))] H := hP
    have hD : va_D A [(pq, .inr (1, [.ref qd, .ref pt, .int (nI z), .ref pu, .int md379])), (pt, .inl (cB, 128, .inl f)), (pu, .inl (cI, 160, .inl lu379)), (qd, .inr (0, [.ref qt, .int (nI z), .ref qu, .int md379])), (qt, .inl (cE, 128, .inl f)), (qu, .inl (cC, 160, .inl du379))] := hD
    refine W.widen (k := 2) (n := 288) (by omega) (by omega) ?_
    refine lv_if_eq (tgt := 406) hx hb dX0_step_382 (by decide) (fun c382 => ?_) (fun c382 => ?_)
    · exact absurd c382 (by decide)
    · refine lv_aload_n hx hb dX0_step_385 rfl (lv_at hl 0 rfl) ?_
      refine lv_iconst (v := 0) hx hb dX0_step_386 (by decide) ?_
      refine lv_aload_n hx hb dX0_step_387 rfl (lv_at hl 0 rfl) ?_
      refine va_get (D := D) (ci := 1) (v := .int (nI z)) (C := RX0) (T := TX0) (N := 5) hx hb hts in_X0 hown hK hP 0 rfl rfl 2 (by decide) (hts _ q50) (fun _ h9 => h9) rfl dX0_step_388 ?_
      refine lv_sipush (v := 160) hx hb dX0_step_391 (by decide) ?_
      refine lv_iload hx hb dX0_step_394 (lv_at hl 6 rfl) ?_
      have hPc := hP.sub (ws' := [(pq, .inr (1, [.ref qd, .ref pt, .int (nI z), .ref pu, .int md379])), (pt, .inl (cB, 128, .inl f)), (pu, .inl (cI, 160, .inl lu379)), (qd, .inr (0, [.ref qt, .int (nI z), .ref qu, .int md379])), (qt, .inl (cE, 128, .inl f)), (qu, .inl (cC, 160, .inl du379))]) [0, 1, 2, 3, 4, 5] rfl
      have hDc := hD.sub (ws' := [(pq, .inr (1, [.ref qd, .ref pt, .int (nI z), .ref pu, .int md379])), (pt, .inl (cB, 128, .inl f)), (pu, .inl (cI, 160, .inl lu379)), (qd, .inr (0, [.ref qt, .int (nI z), .ref qu, .int md379])), (qt, .inl (cE, 128, .inl f)), (qu, .inl (cC, 160, .inl du379))]) [0, 1, 2, 3, 4, 5] (by decide) rfl
      have hKc := hK.sub (tys' := [(cB, .byte), (cI, .int), (cE, .byte), (cC, .char)]) [0, 1, 2, 3] rfl
      have hFc := va_free (wc := [(pq, .inr (1, [.ref qd, .ref pt, .int (nI z), .ref pu, .int md379])), (pt, .inl (cB, 128, .inl f)), (pu, .inl (cI, 160, .inl lu379)), (qd, .inr (0, [.ref qt, .int (nI z), .ref qu, .int md379])), (qt, .inl (cE, 128, .inl f)), (qu, .inl (cC, 160, .inl du379))]) hD hS hA [0, 1, 2, 3, 4, 5] rfl
      refine va_calli (va_runV (As := [.int 0, .int (nI z), .int 160, .int we]) (rest := []) ⟨hx, hb, hml, hown, hts⟩ (ud_X0_turns l D H.size t1 t2 pq pt pu qd qt qu z cB cI cE cC md379 f lu379 du379 hz hf 0 (nI z) 160 we) (cwV 4 hts (lw_V q68 q70 qs0 q11 q71) rfl rfl rfl (by decide +kernel) ⟨Nat.le_of_ble_eq_true rfl, Nat.le_of_ble_eq_true rfl⟩) ⟨ud_fbt, va_recv hKc hPc (ci := 1) (q0 := 0) rfl rfl, fun U hU hW => ⟨rfl, ud_got hPc hKc hDc hTb hS hFc U hU hW⟩⟩ rfl rfl hl.1 rfl (lv_room (Nat.le_of_ble_eq_true rfl)) dX0_step_396 ⟨Nat.le_of_ble_eq_true rfl, Nat.le_of_ble_eq_true rfl⟩) hS (fun q _ h => hFc q h) hFc (fun r u396 t H1 locs ht hvm hw hB hz1 hk1 hS => ?_)
      obtain ⟨md396, lu396, du396⟩ := u396
      obtain ⟨hr1, hmk396, -⟩ := hw
      subst hr1
      obtain ⟨hP1, hK1, hD1⟩ := hB
      rw [ht] at hP1
      obtain ⟨hP, hD⟩ := va_join (wr := []) (w1 := [(pq, .inr (1, [.ref qd, .ref pt, .int (nI z), .ref pu, .int md396])), (pt, .inl (cB, 128, .inl f)), (pu, .inl (cI, 160, .inl lu396)), (qd, .inr (0, [.ref qt, .int (nI z), .ref qu, .int md396])), (qt, .inl (cE, 128, .inl f)), (qu, .inl (cC, 160, .inl du396))]) hP hD [0, 1, 2, 3, 4, 5] [] rfl rfl (by decide) (by decide) hk1 hFc hP1 hD1
      generalize H1 = H at hP hS ⊢
      have hP : va_P D ud_Cl [(pq, .inr (1, [.ref qd, .ref pt, .int (nI z), .ref pu, .int md396])), (pt, .inl (cB, 128, .inl f)), (pu, .inl (cI, 160, .inl lu396)), (qd, .inr (0, [.ref qt, .int (nI z), .ref qu, .int md396])), (qt, .inl (cE, 128, .inl f)), (qu, .inl (cC, 160, .inl du396))] H := hP
      have hD : va_D A [(pq, .inr (1, [.ref qd, .ref pt, .int (nI z), .ref pu, .int md396])), (pt, .inl (cB, 128, .inl f)), (pu, .inl (cI, 160, .inl lu396)), (qd, .inr (0, [.ref qt, .int (nI z), .ref qu, .int md396])), (qt, .inl (cE, 128, .inl f)), (qu, .inl (cC, 160, .inl du396))] := hD
      refine W.widen (k := 4) (n := 576) (by omega) (by omega) ?_
      refine lv_if_eq (tgt := 406) hx hb dX0_step_399 (by decide) (fun c399 => ?_) (fun c399 => ?_)
      · exact absurd c399 (by decide)
      · refine lv_iconst (v := 1) hx hb dX0_step_402 (by decide) ?_
        refine lv_goto (tgt := 407) hx hb dX0_step_403 (by decide) ?_
        have hP9 := hP.sub (ws' := [(pq, .inr (1, [.ref qd, .ref pt, .int (nI z), .ref pu, .int md396])), (pt, .inl (cB, 128, .inl f)), (pu, .inl (cI, 160, .inl lu396)), (qd, .inr (0, [.ref qt, .int (nI z), .ref qu, .int md396])), (qt, .inl (cE, 128, .inl f)), (qu, .inl (cC, 160, .inl du396))]) [0, 1, 2, 3, 4, 5] rfl
        have hD9 := hD.sub (ws' := [(pq, .inr (1, [.ref qd, .ref pt, .int (nI z), .ref pu, .int md396])), (pt, .inl (cB, 128, .inl f)), (pu, .inl (cI, 160, .inl lu396)), (qd, .inr (0, [.ref qt, .int (nI z), .ref qu, .int md396])), (qt, .inl (cE, 128, .inl f)), (qu, .inl (cC, 160, .inl du396))]) [0, 1, 2, 3, 4, 5] (by decide) rfl
        have hK9 := hK.sub (tys' := [(cB, .byte), (cI, .int), (cE, .byte), (cC, .char)]) [0, 1, 2, 3] rfl
        refine W.widen (k := 4) (n := 576) (by omega) (by omega) ?_
        exact W.zret (v := 1) hx hb hr rfl (fun t ht hW => ⟨⟨1, (z, f, md396, lu396, du396), rfl, ⟨rfl, hz, hf, hmk396⟩, ud_end ht hW hP9 hK9 hD9⟩, hS.F ht⟩) hS.2.2 dX0_step_407
end
section
/-! THE CLAIM OUT OF ONE WALK OF THE LAW'S BODY. Your part is whole_start (and what it stands on); all else here is the same for every law, but numbers. -/
def R_law : String := "UtfDeskLaw"
def lw_P (b : Addr) (xs : List Int32) (args : Array Value) (s : State) : Prop := args = #[.ref b] ∧ s.IntsAt b xs ∧ xs.length ≤ 96 ∧ (Jvm.Cond.and given_1 narrow_1).before args s = true
def lw_Q (_ : Array Value) (s : State) (o : Outcome) (t : State) : Prop := o = .returned (some (.int 1)) ∧ Framed s o t [] 1200000 5502250
def lw_Z (below : List Frame) (a : Array Value) (s : State) : State → Prop := fun t => ∃ o, t.status = .running ∧ Ended t below o ∧ lw_Q a s o t
/-- the law's own end, with 1 on the stack, nothing written that was there before, its room as the claim has it -/
theorem lw_ret {p : Program} {l : Launch} {e : Env} {s : State} {m : MethodId} {below : List Frame} {meth : Method} {c : Code} {b : Nat} (hx : p.tables.exec = Jvm.exec) (hb : c.code = code) (hr : meth.sig.returnType = ret) (hlocks : meth.locks = false) {pc : Nat} {H : Heap} {ls : Array Slot} (hdg : decode code pc = .ok (.ireturn, 1)) : W p l e room_1 s m #[Value.ref b] below meth c H [] 1200000 5502250 (lw_Z below #[Value.ref b] s) (F0 m pc ls [.int 1]) := by
  intro T hT X
  obtain ⟨fs, hret, hrun, hended, hW, hframe⟩ := X.leave (v := some (.int 1)) (hlocks := hlocks) (fun h => by rw [hr] at h; cases h)
  have hmeth' : T.vm.method? m = some meth := X.method'
  refine ⟨T.setFrames fs, ?_, .returned (some (.int 1)), hrun, hended, rfl, ⟨_, rfl⟩, hW, hframe⟩
  jvm_step X.here [X.here.top, hx, hb, hdg, hmeth', hr, ret, narrow_b1]
  (try refine ⟨rfl, ?_⟩); (try refine ⟨rfl, ?_⟩)
  first | (intro acts; rw [hret _ acts rfl rfl rfl]) | rw [hret _ _ rfl rfl rfl]
  exact Steps.refl _
/-- what holds at the law's entry: the machine, the code, the tables' words (any of lw_tbl by 'hts w (by decide +kernel)'), the script of L ints xs at the cell b, what the Statement gives of the start (any of its parts by flat_of_before) -/
def lw_At (p : Program) (s : State) (m : MethodId) (meth : Method) (c : Code) (b L : Nat) (xs : Nat → Int32) : Prop :=
  p.tables.exec = Jvm.exec ∧ c.code = code ∧ meth.sig.returnType = ret ∧ c.maxLocals = 3 ∧ s.vm.findClass R_law = some m.cls ∧ (∀ w ∈ lw_tbl, w.before #[Value.ref b] s = true) ∧ va_X b L xs s s.heap ∧ b < s.heap.size ∧ meth.locks = false ∧ (Jvm.Cond.and given_1 narrow_1).before #[Value.ref b] s = true
set_option maxRecDepth 100000 in
theorem ud_m1 : ∀ j, j < 128 → (flatC (Jvm.Cond.and given_1 narrow_1))[7 + j]? = some (Jvm.Cond.eq (.elem (.static "UTF8" "firstUnitTable" "[S") (.int (Int32.ofNat j))) (.int (ud_ft j))) := by decide +kernel
set_option maxRecDepth 100000 in
theorem ud_m2 : ∀ j, j < 112 → (flatC (Jvm.Cond.and given_1 narrow_1))[138 + j]? = some (Jvm.Cond.eq (.elem (.static "UTF8" "transitionTable" "[B") (.int (Int32.ofNat j))) (.int (ud_tt j))) := by decide +kernel
theorem ud_tables {s : State} {b : Nat} (hts : ∀ w ∈ lw_tbl, w.before #[Value.ref b] s = true) (hgv : (Jvm.Cond.and given_1 narrow_1).before #[Value.ref b] s = true) : ∃ t1 t2, ud_Tb t1 t2 (fun q => s.heap.size ≤ q) s s.heap := by
  have hs := flat_of_before _ hgv
  have hA : ∀ a : Nat, a < s.heap.size → ¬ (fun q : Nat => s.heap.size ≤ q) a := fun a h => Nat.not_le.mpr h
  have a1 : (Jvm.Cond.arrayOf (.static "UTF8" "firstUnitTable" "[S") .short).before #[Value.ref b] s = true := hs _ (List.mem_of_getElem? (i := 5) (by decide +kernel))
  have a2 : (Jvm.Cond.arrayOf (.static "UTF8" "transitionTable" "[B") .byte).before #[Value.ref b] s = true := hs _ (List.mem_of_getElem? (i := 136) (by decide +kernel))
  have l1 : (Jvm.Cond.eq (.length (.static "UTF8" "firstUnitTable" "[S")) (.int 128)).before #[Value.ref b] s = true := hs _ (List.mem_of_getElem? (i := 6) (by decide +kernel))
  have l2 : (Jvm.Cond.eq (.length (.static "UTF8" "transitionTable" "[B")) (.int 112)).before #[Value.ref b] s = true := hs _ (List.mem_of_getElem? (i := 137) (by decide +kernel))
  obtain ⟨t1, h1, T1⟩ := va_Tof (N := 128) (f := fun j => .int (ud_ft j)) (A := fun q => s.heap.size ≤ q) (by decide) a1 (va_eqt l1) (fun j hj => va_eqt (hs _ (List.mem_of_getElem? (ud_m1 j hj)))) hA
  obtain ⟨t2, h2, T2⟩ := va_Tof (N := 112) (f := fun j => .int (ud_tt j)) (A := fun q => s.heap.size ≤ q) (by decide) a2 (va_eqt l2) (fun j hj => va_eqt (hs _ (List.mem_of_getElem? (ud_m2 j hj)))) hA
  exact ⟨t1, t2, va_Zref (hts _ q119) (hts _ (lw_all_tbl q13)) h1 hA, T1, va_Zref (hts _ q121) (hts _ (lw_all_tbl q13)) h2 hA, T2⟩
set_option maxHeartbeats 4000000 in
set_option maxRecDepth 100000 in
theorem whole_start {p : Program} {e : Env} {s : State} {m : MethodId} {below : List Frame} {meth : Method} {c : Code} (l : Launch) (hflags : l.flags = flags0) {b L : Nat} {xs : Nat → Int32} (hL : L ≤ 96) (C0 : lw_At p s m meth c b L xs) : W p l e room_1 s m #[Value.ref b] below meth c s.heap [] 0 0 (lw_Z below #[Value.ref b] s) (entryFrame m ([Value.ref b] : List Value).toArray 3) := by
  obtain ⟨hx, hb, hr, hml, hown, hts0, hX, hbl, hlocks, hgv⟩ := id C0
  have hts : ∀ w ∈ lw_all, w.before #[Value.ref b] s = true := fun w h => hts0 w (lw_all_tbl h)
  obtain ⟨t1, t2, hTb⟩ := ud_tables hts0 hgv
  obtain ⟨A, hAe⟩ : ∃ A : Nat → Prop, A = fun q => s.heap.size ≤ q := ⟨_, rfl⟩
  rw [← hAe] at hTb
  have hA : ∀ q : Nat, s.heap.size ≤ q → A q := fun q h => by rw [hAe]; exact h
  have hbA : ¬ A b := by rw [hAe]; exact Nat.not_le.mpr hbl
  obtain ⟨c0_, iS0, hKn0⟩ := u_known (C := RX1) (T := TX1) (N := 4) (n := 4) hts0 (fun w h => lw_all_tbl (in_X1 w h)) (hts0 _ (lw_all_tbl q28))
  obtain ⟨c1_, iS1, hKn1⟩ := u_known (C := RX0) (T := TX0) (N := 5) (n := 5) hts0 (fun w h => lw_all_tbl (in_X0 w h)) (hts0 _ (lw_all_tbl q20))
  obtain ⟨D, hKc⟩ : ∃ D : va_G, ∀ (k : Nat) (q : vw_C), ud_Cl[k]? = some q → u_Kn s q.1 q.2.1 q.2.2 (D.1 k) (D.2 k) := by
    refine ⟨(fun k => if k = 0 then c0_ else c1_, fun k => if k = 0 then iS0 else iS1), ?_⟩
    intro k q hq
    match k, hq with
    | 0, hq => cases hq; exact hKn0
    | 1, hq => cases hq; exact hKn1
    | k + 2, hq => simp [ud_Cl] at hq
  have hS : va_S A s.heap s.heap [] := va_S.rf
  have hK : va_K D ud_Cl [] s := ⟨hKc, fun k q h => by simp at h⟩
  have hP : va_P D ud_Cl [] s.heap := fun k q h => by simp at h
  have hD : va_D A [] := ⟨fun i j p q h => by simp at h, fun k q h => by simp at h⟩
  have hl := lv_entry ([.ref b]) (n := 3) (Nat.le_of_ble_eq_true rfl)
  rw [lg_entry_eq]
  generalize (lg_sl ([.ref b]) ++ List.replicate (3 - (lg_sl ([.ref b])).length) Slot.unset).toArray = ls at hl ⊢
  have hl : lv_has ls 3 [(0, .ref b)] := hl
  refine va_new (ci := 1) (fs := [.null, .null, .int 0, .null, .int 0]) (C := RX0) (T := TX0) (N := 5) hx hb hts in_X0 tyX0 tyX0_ok hown (hts _ q19) (hts _ q20) (hts _ q11) hK hP hD hS hA rfl (fun j hj => by rcases (show j = 0 ∨ j = 1 ∨ j = 2 ∨ j = 3 ∨ j = 4 by omega) with rfl | rfl | rfl | rfl | rfl <;> rfl) (Nat.le_of_ble_eq_true rfl) (Nat.le_of_ble_eq_true rfl) dL_law_0 (fun pq H hP hD hS => ?_)
  have hP : va_P D ud_Cl [(pq, .inr (1, [.null, .null, .int 0, .null, .int 0]))] H := hP
  have hD : va_D A [(pq, .inr (1, [.null, .null, .int 0, .null, .int 0]))] := hD
  refine W.widen (k := 1) (n := 5) (by omega) (by omega) ?_
  refine lv_dup hx hb dL_law_3 rfl ?_
  have hPc := hP.sub (ws' := [(pq, .inr (1, [.null, .null, .int 0, .null, .int 0]))]) [0] rfl
  have hDc := hD.sub (ws' := [(pq, .inr (1, [.null, .null, .int 0, .null, .int 0]))]) [0] (by decide) rfl
  have hKc := hK.sub (tys' := []) [] rfl
  have hFc := va_free (wc := [(pq, .inr (1, [.null, .null, .int 0, .null, .int 0]))]) hD hS hA [0] rfl
  refine va_callv (va_runI (As := []) (rest := [.ref pq]) ⟨hx, hb, hml, hown, hts⟩ (ud_X0_init l D H.size pq) (cwI 0 hts (lw_meth q23) rfl rfl rfl (hts _ q11) (hts _ q21) (hts _ q22) rfl (by decide +kernel) ⟨Nat.le_of_ble_eq_true rfl, Nat.le_of_ble_eq_true rfl⟩) ⟨ud_fb, fun U hU hW => ⟨rfl, ud_go hPc hKc hDc U hU hW⟩⟩ rfl rfl hl.1 rfl (lv_room (Nat.le_of_ble_eq_true rfl)) dL_law_4 ⟨Nat.le_of_ble_eq_true rfl, Nat.le_of_ble_eq_true rfl⟩) hS (fun q _ h => hFc q h) hFc (fun u t H1 locs ht hvm hw hB hz1 hk1 hS => ?_)
  obtain ⟨qd, qt, qu, pt, pu, cE, cC, cB, cI⟩ := u
  obtain ⟨hP1, hK1, hD1⟩ := hB
  rw [ht] at hP1
  obtain ⟨hP, hD⟩ := va_join (wr := []) (w1 := [(pq, .inr (1, [.ref qd, .ref pt, .int 0, .ref pu, .int (-1)])), (pt, .inl (cB, 128, .inl (fun _ => 0))), (pu, .inl (cI, 160, .inl (fun _ => 0))), (qd, .inr (0, [.ref qt, .int 0, .ref qu, .int (-1)])), (qt, .inl (cE, 128, .inl (fun _ => 0))), (qu, .inl (cC, 160, .inl (fun _ => 0)))]) hP hD [0] [] rfl rfl (by decide) (by decide) hk1 hFc hP1 hD1
  have hK1 := va_K.moved hvm.symm hK1
  have hK := hK.app (hK1.sub (tys' := [(cB, .byte), (cI, .int), (cE, .byte), (cC, .char)]) [0, 1, 2, 3] rfl)
  have hK : va_K D ud_Cl [(cB, .byte), (cI, .int), (cE, .byte), (cC, .char)] s := hK
  generalize H1 = H at hP hS ⊢
  have hP : va_P D ud_Cl [(pq, .inr (1, [.ref qd, .ref pt, .int 0, .ref pu, .int (-1)])), (pt, .inl (cB, 128, .inl (fun _ => 0))), (pu, .inl (cI, 160, .inl (fun _ => 0))), (qd, .inr (0, [.ref qt, .int 0, .ref qu, .int (-1)])), (qt, .inl (cE, 128, .inl (fun _ => 0))), (qu, .inl (cC, 160, .inl (fun _ => 0)))] H := hP
  have hD : va_D A [(pq, .inr (1, [.ref qd, .ref pt, .int 0, .ref pu, .int (-1)])), (pt, .inl (cB, 128, .inl (fun _ => 0))), (pu, .inl (cI, 160, .inl (fun _ => 0))), (qd, .inr (0, [.ref qt, .int 0, .ref qu, .int (-1)])), (qt, .inl (cE, 128, .inl (fun _ => 0))), (qu, .inl (cC, 160, .inl (fun _ => 0)))] := hD
  refine W.widen (k := 6) (n := 585) (by omega) (by omega) ?_
  refine lv_astore_n (lv' := [(1, .ref pq), (0, .ref b)]) hx hb dL_law_7 rfl hl (by decide) rfl (fun ls hl => ?_)
  refine lv_aload_n hx hb dL_law_8 rfl (lv_at hl 0 rfl) ?_
  refine va_get (D := D) (ci := 1) (v := .ref qd) (C := RX0) (T := TX0) (N := 5) hx hb hts in_X0 hown hK hP 0 rfl rfl 0 (by decide) (hts _ q48) (fun _ h9 => h9) rfl dL_law_9 ?_
  refine lv_aload_n hx hb dL_law_12 rfl (lv_at hl 1 rfl) ?_
  refine lv_iconst (v := nI 0) hx hb dL_law_13 (by decide) ?_
  have hPc := hP.sub (ws' := []) [] rfl
  have hDc := hD.sub (ws' := []) [] (by decide) rfl
  have hKc := hK.sub (tys' := []) [] rfl
  have hFc := va_free (wc := []) hD hS hA [] rfl
  refine va_calli (va_runS (As := [.ref b, .int (nI 0)]) (rest := [.ref qd]) ⟨hx, hb, hml, hown, hts⟩ (ud_X0_cell l D H.size b L xs hL 0 (by omega)) (va_cwS 2 hts (lw_S q65 q66 q11 q67) rfl rfl rfl (by decide +kernel) ⟨Nat.le_of_ble_eq_true rfl, Nat.le_of_ble_eq_true rfl⟩) ⟨ud_fbx, fun U hU hW => ⟨rfl, ud_gox hPc hKc hDc hX hbl hbA hS U hU hW⟩⟩ rfl rfl hl.1 rfl (lv_room (Nat.le_of_ble_eq_true rfl)) dL_law_14 ⟨Nat.le_of_ble_eq_true rfl, Nat.le_of_ble_eq_true rfl⟩) hS (fun q _ h => hFc q h) hFc (fun v0 u t H1 locs ht hvm hw hB hz1 hk1 hS => ?_)
  obtain ⟨hP1, hK1, hD1⟩ := hB
  rw [ht] at hP1
  obtain ⟨hP, hD⟩ := va_join (wr := [(pq, .inr (1, [.ref qd, .ref pt, .int 0, .ref pu, .int (-1)])), (pt, .inl (cB, 128, .inl (fun _ => 0))), (pu, .inl (cI, 160, .inl (fun _ => 0))), (qd, .inr (0, [.ref qt, .int 0, .ref qu, .int (-1)])), (qt, .inl (cE, 128, .inl (fun _ => 0))), (qu, .inl (cC, 160, .inl (fun _ => 0)))]) (w1 := []) hP hD [] [0, 1, 2, 3, 4, 5] rfl rfl (by decide) (by decide) hk1 hFc hP1 hD1
  generalize H1 = H at hP hS ⊢
  have hP : va_P D ud_Cl [(pq, .inr (1, [.ref qd, .ref pt, .int 0, .ref pu, .int (-1)])), (pt, .inl (cB, 128, .inl (fun _ => 0))), (pu, .inl (cI, 160, .inl (fun _ => 0))), (qd, .inr (0, [.ref qt, .int 0, .ref qu, .int (-1)])), (qt, .inl (cE, 128, .inl (fun _ => 0))), (qu, .inl (cC, 160, .inl (fun _ => 0)))] H := hP
  have hD : va_D A [(pq, .inr (1, [.ref qd, .ref pt, .int 0, .ref pu, .int (-1)])), (pt, .inl (cB, 128, .inl (fun _ => 0))), (pu, .inl (cI, 160, .inl (fun _ => 0))), (qd, .inr (0, [.ref qt, .int 0, .ref qu, .int (-1)])), (qt, .inl (cE, 128, .inl (fun _ => 0))), (qu, .inl (cC, 160, .inl (fun _ => 0)))] := hD
  have hPc := hP.sub (ws' := [(qd, .inr (0, [.ref qt, .int 0, .ref qu, .int (-1)])), (qu, .inl (cC, 160, .inl (fun _ => 0)))]) [3, 5] rfl
  have hDc := hD.sub (ws' := [(qd, .inr (0, [.ref qt, .int 0, .ref qu, .int (-1)])), (qu, .inl (cC, 160, .inl (fun _ => 0)))]) [3, 5] (by decide) rfl
  have hKc := hK.sub (tys' := [(cC, .char)]) [3] rfl
  have hFc := va_free (wc := [(qd, .inr (0, [.ref qt, .int 0, .ref qu, .int (-1)])), (qu, .inl (cC, 160, .inl (fun _ => 0)))]) hD hS hA [3, 5] rfl
  refine va_calli (va_runV (As := [.int v0]) (rest := []) ⟨hx, hb, hml, hown, hts⟩ (ud_X1_unit l D H.size qd qt qu cC 0 (-1) (fun _ => 0) (Or.inl rfl) v0) (cwV 1 hts (lw_V q14 q15 q16 q12 q17) rfl rfl rfl (by decide +kernel) ⟨Nat.le_of_ble_eq_true rfl, Nat.le_of_ble_eq_true rfl⟩) ⟨ud_fb, va_recv hKc hPc (ci := 0) (q0 := 0) rfl rfl, fun U hU hW => ⟨rfl, ud_go hPc hKc hDc U hU hW⟩⟩ rfl rfl hl.1 rfl (lv_room (Nat.le_of_ble_eq_true rfl)) dL_law_17 ⟨Nat.le_of_ble_eq_true rfl, Nat.le_of_ble_eq_true rfl⟩) hS (fun q _ h => hFc q h) hFc (fun ru u t H1 locs ht hvm hw hB hz1 hk1 hS => ?_)
  obtain ⟨hP1, hK1, hD1⟩ := hB
  rw [ht] at hP1
  obtain ⟨hP, hD⟩ := va_join (wr := [(pq, .inr (1, [.ref qd, .ref pt, .int 0, .ref pu, .int (-1)])), (pt, .inl (cB, 128, .inl (fun _ => 0))), (pu, .inl (cI, 160, .inl (fun _ => 0))), (qt, .inl (cE, 128, .inl (fun _ => 0)))]) (w1 := [(qd, .inr (0, [.ref qt, .int 0, .ref qu, .int (-1)])), (qu, .inl (cC, 160, .inl (fun _ => 0)))]) hP hD [3, 5] [0, 1, 2, 4] rfl rfl (by decide) (by decide) hk1 hFc hP1 hD1
  generalize H1 = H at hP hS ⊢
  have hP : va_P D ud_Cl [(pq, .inr (1, [.ref qd, .ref pt, .int 0, .ref pu, .int (-1)])), (pt, .inl (cB, 128, .inl (fun _ => 0))), (pu, .inl (cI, 160, .inl (fun _ => 0))), (qt, .inl (cE, 128, .inl (fun _ => 0))), (qd, .inr (0, [.ref qt, .int 0, .ref qu, .int (-1)])), (qu, .inl (cC, 160, .inl (fun _ => 0)))] H := hP
  have hD : va_D A [(pq, .inr (1, [.ref qd, .ref pt, .int 0, .ref pu, .int (-1)])), (pt, .inl (cB, 128, .inl (fun _ => 0))), (pu, .inl (cI, 160, .inl (fun _ => 0))), (qt, .inl (cE, 128, .inl (fun _ => 0))), (qd, .inr (0, [.ref qt, .int 0, .ref qu, .int (-1)])), (qu, .inl (cC, 160, .inl (fun _ => 0)))] := hD
  have hP := hP.sub (ws' := [(pq, .inr (1, [.ref qd, .ref pt, .int 0, .ref pu, .int (-1)])), (pt, .inl (cB, 128, .inl (fun _ => 0))), (pu, .inl (cI, 160, .inl (fun _ => 0))), (qd, .inr (0, [.ref qt, .int 0, .ref qu, .int (-1)])), (qt, .inl (cE, 128, .inl (fun _ => 0))), (qu, .inl (cC, 160, .inl (fun _ => 0)))]) [0, 1, 2, 4, 3, 5] rfl
  have hD := hD.sub (ws' := [(pq, .inr (1, [.ref qd, .ref pt, .int 0, .ref pu, .int (-1)])), (pt, .inl (cB, 128, .inl (fun _ => 0))), (pu, .inl (cI, 160, .inl (fun _ => 0))), (qd, .inr (0, [.ref qt, .int 0, .ref qu, .int (-1)])), (qt, .inl (cE, 128, .inl (fun _ => 0))), (qu, .inl (cC, 160, .inl (fun _ => 0)))]) [0, 1, 2, 4, 3, 5] (by decide) rfl
  have hw : ru = -1 := hw.trans (by unfold ud_ut; rw [if_neg (by decide)])
  subst hw
  refine lv_iconst (v := (-1)) hx hb dL_law_20 (by decide) ?_
  refine lv_icmp_eq (tgt := 26) hx hb dL_law_21 (by decide) (fun c21 => ?_) (fun c21 => ?_)
  · refine lv_iconst (v := nI 0) hx hb dL_law_26 (by decide) ?_
    refine lv_istore_n (lv' := [(2, .int (nI 0)), (1, .ref pq), (0, .ref b)]) hx hb dL_law_27 rfl hl (by decide) rfl (fun ls hl => ?_)
    refine ud_ind2 (pc2 := 28) (stk := []) (J := fun (nn : Nat) (ls : Array Slot) (H : Heap) (locs : List Loc) (kc ks : Nat) => ∃ (i : Nat) (z : Nat) (f : Nat → Int32) (md : Int32) (lu : Nat → Int32) (du : Nat → Int32), (17 ≤ i + nn) ∧ (i ≤ 16) ∧ (kc = 6 + 4 * i) ∧ (ks = 585 + 576 * i) ∧ (z ≤ 128) ∧ (ud_isB f) ∧ (ud_Mk md lu du) ∧ va_P D ud_Cl [(pq, .inr (1, [.ref qd, .ref pt, .int (nI z), .ref pu, .int md])), (pt, .inl (cB, 128, .inl f)), (pu, .inl (cI, 160, .inl lu)), (qd, .inr (0, [.ref qt, .int (nI z), .ref qu, .int md])), (qt, .inl (cE, 128, .inl f)), (qu, .inl (cC, 160, .inl du))] H ∧ va_D A [(pq, .inr (1, [.ref qd, .ref pt, .int (nI z), .ref pu, .int md])), (pt, .inl (cB, 128, .inl f)), (pu, .inl (cI, 160, .inl lu)), (qd, .inr (0, [.ref qt, .int (nI z), .ref qu, .int md])), (qt, .inl (cE, 128, .inl f)), (qu, .inl (cC, 160, .inl du))] ∧ va_S A s.heap H locs ∧ lv_has ls 3 [(0, .ref b), (1, .ref pq), (2, .int (nI (6 * i)))]) (fun ls H locs kc ks h => by obtain ⟨i, z, f, md, lu, du, c28_m, c28_i, c28_kc, c28_ks, c28_z, c28_f, c28_mk, -⟩ := h; omega) (17) ⟨0, 0, fun _ => 0, -1, fun _ => 0, fun _ => 0, by omega, by omega, rfl, rfl, by omega, ud_isB_0, Or.inl rfl, hP, hD, hS, lv_sub hl [2, 1, 0] rfl⟩ ?_
    intro nn ih28 ls H locs kc ks hJ
    obtain ⟨i, z, f, md, lu, du, c28_m, c28_i, c28_kc, c28_ks, c28_z, c28_f, c28_mk, hP, hD, hS, hl⟩ := hJ
    subst c28_kc
    subst c28_ks
    refine lv_iload_n hx hb dL_law_28 rfl (lv_at hl 2 rfl) ?_
    refine lv_bipush (v := nI 96) hx hb dL_law_29 (by decide) ?_
    refine ud_ge (tgt := 89) hx hb dL_law_31 (by decide) (by omega) (by decide) (fun c31 => ?_) (fun c31 => ?_)
    · have hi16 : i = 16 := by omega
      subst hi16
      refine ud_cs (c1 := 70) (s1 := 9801) (by decide) (by decide) ?_
      refine lv_iconst (v := nI 0) hx hb dL_law_89 (by decide) ?_
      refine lv_istore_n (lv' := [(2, .int (nI 0)), (0, .ref b), (1, .ref pq)]) hx hb dL_law_90 rfl hl (by decide) rfl (fun ls hl => ?_)
      refine ud_ind2 (pc2 := 91) (stk := []) (J := fun (nn : Nat) (ls : Array Slot) (H : Heap) (locs : List Loc) (kc ks : Nat) => ∃ (k : Nat) (m3 : Int32) (l3 : Nat → Int32) (d3 : Nat → Int32), (z + 1 ≤ k + nn) ∧ (k ≤ z) ∧ (kc = 70 + 2 * k) ∧ (ks = 9801 + 288 * k) ∧ va_P D ud_Cl [(pq, .inr (1, [.ref qd, .ref pt, .int (nI z), .ref pu, .int m3])), (pt, .inl (cB, 128, .inl f)), (pu, .inl (cI, 160, .inl l3)), (qd, .inr (0, [.ref qt, .int (nI z), .ref qu, .int m3])), (qt, .inl (cE, 128, .inl f)), (qu, .inl (cC, 160, .inl d3))] H ∧ va_D A [(pq, .inr (1, [.ref qd, .ref pt, .int (nI z), .ref pu, .int m3])), (pt, .inl (cB, 128, .inl f)), (pu, .inl (cI, 160, .inl l3)), (qd, .inr (0, [.ref qt, .int (nI z), .ref qu, .int m3])), (qt, .inl (cE, 128, .inl f)), (qu, .inl (cC, 160, .inl d3))] ∧ va_S A s.heap H locs ∧ lv_has ls 3 [(0, .ref b), (1, .ref pq), (2, .int (nI k))]) (fun ls H locs kc ks h => by obtain ⟨k, m3, l3, d3, c91_m, c91_k, c91_kc, c91_ks, -⟩ := h; omega) (z + 1) ⟨0, md, lu, du, by omega, by omega, rfl, rfl, hP, hD, hS, lv_sub hl [1, 2, 0] rfl⟩ ?_
      intro nn ih91 ls H locs kc ks hJ
      obtain ⟨k, m3, l3, d3, c91_m, c91_k, c91_kc, c91_ks, hP, hD, hS, hl⟩ := hJ
      subst c91_kc
      subst c91_ks
      refine lv_iload_n hx hb dL_law_91 rfl (lv_at hl 2 rfl) ?_
      refine lv_aload_n hx hb dL_law_92 rfl (lv_at hl 1 rfl) ?_
      refine va_get (D := D) (ci := 1) (v := .int (nI z)) (C := RX0) (T := TX0) (N := 5) hx hb hts in_X0 hown hK hP 0 rfl rfl 2 (by decide) (hts _ q50) (fun _ h9 => h9) rfl dL_law_93 ?_
      refine ud_ge (tgt := 125) hx hb dL_law_96 (by decide) (by omega) (by omega) (fun c96 => ?_) (fun c96 => ?_)
      · refine lv_iconst (v := 1) hx hb dL_law_125 (by decide) ?_
        refine va_forget (fun q hq => by have h := hS.2.2 q hq; rw [hAe] at h; exact h) ?_
        refine W.widen (k := 1200000) (n := 5502250) (by omega) (by omega) ?_
        exact lw_ret hx hb hr hlocks dL_law_126
      · refine lv_aload_n hx hb dL_law_99 rfl (lv_at hl 1 rfl) ?_
        refine lv_iload_n hx hb dL_law_100 rfl (lv_at hl 2 rfl) ?_
        refine lv_aload_n hx hb dL_law_101 rfl (lv_at hl 1 rfl) ?_
        refine va_get (D := D) (ci := 1) (v := .int (nI z)) (C := RX0) (T := TX0) (N := 5) hx hb hts in_X0 hown hK hP 0 rfl rfl 2 (by decide) (hts _ q50) (fun _ h9 => h9) rfl dL_law_102 ?_
        refine lv_iload_n hx hb dL_law_105 rfl (lv_at hl 2 rfl) ?_
        refine lv_isub hx hb dL_law_106 ?_
        refine ud_top (v := nI (z - k)) (pk_sub (by omega)) ?_
        refine lv_sipush (v := 160) hx hb dL_law_107 (by decide) ?_
        refine lv_iload_n hx hb dL_law_110 rfl (lv_at hl 2 rfl) ?_
        have hPc := hP.sub (ws' := [(pq, .inr (1, [.ref qd, .ref pt, .int (nI z), .ref pu, .int m3])), (pt, .inl (cB, 128, .inl f)), (pu, .inl (cI, 160, .inl l3)), (qd, .inr (0, [.ref qt, .int (nI z), .ref qu, .int m3])), (qt, .inl (cE, 128, .inl f)), (qu, .inl (cC, 160, .inl d3))]) [0, 1, 2, 3, 4, 5] rfl
        have hDc := hD.sub (ws' := [(pq, .inr (1, [.ref qd, .ref pt, .int (nI z), .ref pu, .int m3])), (pt, .inl (cB, 128, .inl f)), (pu, .inl (cI, 160, .inl l3)), (qd, .inr (0, [.ref qt, .int (nI z), .ref qu, .int m3])), (qt, .inl (cE, 128, .inl f)), (qu, .inl (cC, 160, .inl d3))]) [0, 1, 2, 3, 4, 5] (by decide) rfl
        have hKc := hK.sub (tys' := [(cB, .byte), (cI, .int), (cE, .byte), (cC, .char)]) [0, 1, 2, 3] rfl
        have hFc := va_free (wc := [(pq, .inr (1, [.ref qd, .ref pt, .int (nI z), .ref pu, .int m3])), (pt, .inl (cB, 128, .inl f)), (pu, .inl (cI, 160, .inl l3)), (qd, .inr (0, [.ref qt, .int (nI z), .ref qu, .int m3])), (qt, .inl (cE, 128, .inl f)), (qu, .inl (cC, 160, .inl d3))]) hD hS hA [0, 1, 2, 3, 4, 5] rfl
        refine va_calli (va_runV (As := [.int (nI k), .int (nI (z - k)), .int 160, .int (nI k)]) (rest := []) ⟨hx, hb, hml, hown, hts⟩ (ud_X0_turns l D H.size t1 t2 pq pt pu qd qt qu z cB cI cE cC m3 f l3 d3 c28_z c28_f (nI k) (nI (z - k)) 160 (nI k)) (cwV 4 hts (lw_V q68 q70 qs0 q11 q71) rfl rfl rfl (by decide +kernel) ⟨Nat.le_of_ble_eq_true rfl, Nat.le_of_ble_eq_true rfl⟩) ⟨ud_fbt, va_recv hKc hPc (ci := 1) (q0 := 0) rfl rfl, fun U hU hW => ⟨rfl, ud_got hPc hKc hDc hTb hS hFc U hU hW⟩⟩ rfl rfl hl.1 rfl (lv_room (Nat.le_of_ble_eq_true rfl)) dL_law_111 ⟨by show 70 + 2 * k + 2 ≤ 1200000; omega, by show 9801 + 288 * k + 288 ≤ 5502250; omega⟩) hS (fun q _ h => hFc q h) hFc (fun r u111 t H1 locs ht hvm hw hB hz1 hk1 hS => ?_)
        obtain ⟨m4, l4, d4⟩ := u111
        obtain ⟨hr1, hmk4, -⟩ := hw
        subst hr1
        obtain ⟨hP1, hK1, hD1⟩ := hB
        rw [ht] at hP1
        obtain ⟨hP, hD⟩ := va_join (wr := []) (w1 := [(pq, .inr (1, [.ref qd, .ref pt, .int (nI z), .ref pu, .int m4])), (pt, .inl (cB, 128, .inl f)), (pu, .inl (cI, 160, .inl l4)), (qd, .inr (0, [.ref qt, .int (nI z), .ref qu, .int m4])), (qt, .inl (cE, 128, .inl f)), (qu, .inl (cC, 160, .inl d4))]) hP hD [0, 1, 2, 3, 4, 5] [] rfl rfl (by decide) (by decide) hk1 hFc hP1 hD1
        generalize H1 = H at hP hS ⊢
        have hP : va_P D ud_Cl [(pq, .inr (1, [.ref qd, .ref pt, .int (nI z), .ref pu, .int m4])), (pt, .inl (cB, 128, .inl f)), (pu, .inl (cI, 160, .inl l4)), (qd, .inr (0, [.ref qt, .int (nI z), .ref qu, .int m4])), (qt, .inl (cE, 128, .inl f)), (qu, .inl (cC, 160, .inl d4))] H := hP
        have hD : va_D A [(pq, .inr (1, [.ref qd, .ref pt, .int (nI z), .ref pu, .int m4])), (pt, .inl (cB, 128, .inl f)), (pu, .inl (cI, 160, .inl l4)), (qd, .inr (0, [.ref qt, .int (nI z), .ref qu, .int m4])), (qt, .inl (cE, 128, .inl f)), (qu, .inl (cC, 160, .inl d4))] := hD
        refine ud_cs (c1 := 70 + 2 * (k + 1)) (s1 := 9801 + 288 * (k + 1)) (by omega) (by omega) ?_
        refine lv_if_ne (tgt := 119) hx hb dL_law_114 (by decide) (fun c114 => ?_) (fun c114 => ?_)
        · refine lv_iinc (v := nI (k + 1)) (lv' := [(2, .int (nI (k + 1))), (0, .ref b), (1, .ref pq)]) hx hb dL_law_119 hl (k := 2) rfl (ud_inc k) (by decide) rfl (fun ls hl => ?_)
          refine lv_goto (tgt := 91) hx hb dL_law_122 (by decide) ?_
          exact ih91 ls H locs _ _ ⟨k + 1, m4, l4, d4, by omega, by omega, rfl, rfl, hP, hD, hS, lv_sub hl [1, 2, 0] rfl⟩
        · exact absurd c114 (by decide)
    · refine lv_aload_n hx hb dL_law_34 rfl (lv_at hl 1 rfl) ?_
      refine lv_aload_n hx hb dL_law_35 rfl (lv_at hl 0 rfl) ?_
      refine lv_iload_n hx hb dL_law_36 rfl (lv_at hl 2 rfl) ?_
      have hPc := hP.sub (ws' := []) [] rfl
      have hDc := hD.sub (ws' := []) [] (by decide) rfl
      have hKc := hK.sub (tys' := []) [] rfl
      have hFc := va_free (wc := []) hD hS hA [] rfl
      refine va_calli (va_runS (As := [.ref b, .int (nI (6 * i))]) (rest := [.ref pq]) ⟨hx, hb, hml, hown, hts⟩ (ud_X0_cell l D H.size b L xs hL (6 * i) (by omega)) (va_cwS 2 hts (lw_S q65 q66 q11 q67) rfl rfl rfl (by decide +kernel) ⟨Nat.le_of_ble_eq_true rfl, Nat.le_of_ble_eq_true rfl⟩) ⟨ud_fbx, fun U hU hW => ⟨rfl, ud_gox hPc hKc hDc hX hbl hbA hS U hU hW⟩⟩ rfl rfl hl.1 rfl (lv_room (Nat.le_of_ble_eq_true rfl)) dL_law_37 ⟨by show 6 + 4 * i ≤ 1200000; omega, by show 585 + 576 * i ≤ 5502250; omega⟩) hS (fun q _ h => hFc q h) hFc (fun va0 u t H1 locs ht hvm hw hB hz1 hk1 hS => ?_)
      obtain ⟨hP1, hK1, hD1⟩ := hB
      rw [ht] at hP1
      obtain ⟨hP, hD⟩ := va_join (wr := [(pq, .inr (1, [.ref qd, .ref pt, .int (nI z), .ref pu, .int md])), (pt, .inl (cB, 128, .inl f)), (pu, .inl (cI, 160, .inl lu)), (qd, .inr (0, [.ref qt, .int (nI z), .ref qu, .int md])), (qt, .inl (cE, 128, .inl f)), (qu, .inl (cC, 160, .inl du))]) (w1 := []) hP hD [] [0, 1, 2, 3, 4, 5] rfl rfl (by decide) (by decide) hk1 hFc hP1 hD1
      generalize H1 = H at hP hS ⊢
      have hP : va_P D ud_Cl [(pq, .inr (1, [.ref qd, .ref pt, .int (nI z), .ref pu, .int md])), (pt, .inl (cB, 128, .inl f)), (pu, .inl (cI, 160, .inl lu)), (qd, .inr (0, [.ref qt, .int (nI z), .ref qu, .int md])), (qt, .inl (cE, 128, .inl f)), (qu, .inl (cC, 160, .inl du))] H := hP
      have hD : va_D A [(pq, .inr (1, [.ref qd, .ref pt, .int (nI z), .ref pu, .int md])), (pt, .inl (cB, 128, .inl f)), (pu, .inl (cI, 160, .inl lu)), (qd, .inr (0, [.ref qt, .int (nI z), .ref qu, .int md])), (qt, .inl (cE, 128, .inl f)), (qu, .inl (cC, 160, .inl du))] := hD
      refine lv_aload_n hx hb dL_law_40 rfl (lv_at hl 0 rfl) ?_
      refine lv_iload_n hx hb dL_law_41 rfl (lv_at hl 2 rfl) ?_
      refine lv_iconst (v := nI 1) hx hb dL_law_42 (by decide) ?_
      refine lv_iadd hx hb dL_law_43 ?_
      refine ud_top (v := nI (6 * i + 1)) (nI_add _ _) ?_
      have hPc := hP.sub (ws' := []) [] rfl
      have hDc := hD.sub (ws' := []) [] (by decide) rfl
      have hKc := hK.sub (tys' := []) [] rfl
      have hFc := va_free (wc := []) hD hS hA [] rfl
      refine va_calli (va_runS (As := [.ref b, .int (nI (6 * i + 1))]) (rest := [.int va0, .ref pq]) ⟨hx, hb, hml, hown, hts⟩ (ud_X0_cell l D H.size b L xs hL (6 * i + 1) (by omega)) (va_cwS 2 hts (lw_S q65 q66 q11 q67) rfl rfl rfl (by decide +kernel) ⟨Nat.le_of_ble_eq_true rfl, Nat.le_of_ble_eq_true rfl⟩) ⟨ud_fbx, fun U hU hW => ⟨rfl, ud_gox hPc hKc hDc hX hbl hbA hS U hU hW⟩⟩ rfl rfl hl.1 rfl (lv_room (Nat.le_of_ble_eq_true rfl)) dL_law_44 ⟨by show 6 + 4 * i ≤ 1200000; omega, by show 585 + 576 * i ≤ 5502250; omega⟩) hS (fun q _ h => hFc q h) hFc (fun va1 u t H1 locs ht hvm hw hB hz1 hk1 hS => ?_)
      obtain ⟨hP1, hK1, hD1⟩ := hB
      rw [ht] at hP1
      obtain ⟨hP, hD⟩ := va_join (wr := [(pq, .inr (1, [.ref qd, .ref pt, .int (nI z), .ref pu, .int md])), (pt, .inl (cB, 128, .inl f)), (pu, .inl (cI, 160, .inl lu)), (qd, .inr (0, [.ref qt, .int (nI z), .ref qu, .int md])), (qt, .inl (cE, 128, .inl f)), (qu, .inl (cC, 160, .inl du))]) (w1 := []) hP hD [] [0, 1, 2, 3, 4, 5] rfl rfl (by decide) (by decide) hk1 hFc hP1 hD1
      generalize H1 = H at hP hS ⊢
      have hP : va_P D ud_Cl [(pq, .inr (1, [.ref qd, .ref pt, .int (nI z), .ref pu, .int md])), (pt, .inl (cB, 128, .inl f)), (pu, .inl (cI, 160, .inl lu)), (qd, .inr (0, [.ref qt, .int (nI z), .ref qu, .int md])), (qt, .inl (cE, 128, .inl f)), (qu, .inl (cC, 160, .inl du))] H := hP
      have hD : va_D A [(pq, .inr (1, [.ref qd, .ref pt, .int (nI z), .ref pu, .int md])), (pt, .inl (cB, 128, .inl f)), (pu, .inl (cI, 160, .inl lu)), (qd, .inr (0, [.ref qt, .int (nI z), .ref qu, .int md])), (qt, .inl (cE, 128, .inl f)), (qu, .inl (cC, 160, .inl du))] := hD
      refine lv_aload_n hx hb dL_law_47 rfl (lv_at hl 0 rfl) ?_
      refine lv_iload_n hx hb dL_law_48 rfl (lv_at hl 2 rfl) ?_
      refine lv_iconst (v := nI 2) hx hb dL_law_49 (by decide) ?_
      refine lv_iadd hx hb dL_law_50 ?_
      refine ud_top (v := nI (6 * i + 2)) (nI_add _ _) ?_
      have hPc := hP.sub (ws' := []) [] rfl
      have hDc := hD.sub (ws' := []) [] (by decide) rfl
      have hKc := hK.sub (tys' := []) [] rfl
      have hFc := va_free (wc := []) hD hS hA [] rfl
      refine va_calli (va_runS (As := [.ref b, .int (nI (6 * i + 2))]) (rest := [.int va1, .int va0, .ref pq]) ⟨hx, hb, hml, hown, hts⟩ (ud_X0_cell l D H.size b L xs hL (6 * i + 2) (by omega)) (va_cwS 2 hts (lw_S q65 q66 q11 q67) rfl rfl rfl (by decide +kernel) ⟨Nat.le_of_ble_eq_true rfl, Nat.le_of_ble_eq_true rfl⟩) ⟨ud_fbx, fun U hU hW => ⟨rfl, ud_gox hPc hKc hDc hX hbl hbA hS U hU hW⟩⟩ rfl rfl hl.1 rfl (lv_room (Nat.le_of_ble_eq_true rfl)) dL_law_51 ⟨by show 6 + 4 * i ≤ 1200000; omega, by show 585 + 576 * i ≤ 5502250; omega⟩) hS (fun q _ h => hFc q h) hFc (fun va2 u t H1 locs ht hvm hw hB hz1 hk1 hS => ?_)
      obtain ⟨hP1, hK1, hD1⟩ := hB
      rw [ht] at hP1
      obtain ⟨hP, hD⟩ := va_join (wr := [(pq, .inr (1, [.ref qd, .ref pt, .int (nI z), .ref pu, .int md])), (pt, .inl (cB, 128, .inl f)), (pu, .inl (cI, 160, .inl lu)), (qd, .inr (0, [.ref qt, .int (nI z), .ref qu, .int md])), (qt, .inl (cE, 128, .inl f)), (qu, .inl (cC, 160, .inl du))]) (w1 := []) hP hD [] [0, 1, 2, 3, 4, 5] rfl rfl (by decide) (by decide) hk1 hFc hP1 hD1
      generalize H1 = H at hP hS ⊢
      have hP : va_P D ud_Cl [(pq, .inr (1, [.ref qd, .ref pt, .int (nI z), .ref pu, .int md])), (pt, .inl (cB, 128, .inl f)), (pu, .inl (cI, 160, .inl lu)), (qd, .inr (0, [.ref qt, .int (nI z), .ref qu, .int md])), (qt, .inl (cE, 128, .inl f)), (qu, .inl (cC, 160, .inl du))] H := hP
      have hD : va_D A [(pq, .inr (1, [.ref qd, .ref pt, .int (nI z), .ref pu, .int md])), (pt, .inl (cB, 128, .inl f)), (pu, .inl (cI, 160, .inl lu)), (qd, .inr (0, [.ref qt, .int (nI z), .ref qu, .int md])), (qt, .inl (cE, 128, .inl f)), (qu, .inl (cC, 160, .inl du))] := hD
      refine lv_aload_n hx hb dL_law_54 rfl (lv_at hl 0 rfl) ?_
      refine lv_iload_n hx hb dL_law_55 rfl (lv_at hl 2 rfl) ?_
      refine lv_iconst (v := nI 3) hx hb dL_law_56 (by decide) ?_
      refine lv_iadd hx hb dL_law_57 ?_
      refine ud_top (v := nI (6 * i + 3)) (nI_add _ _) ?_
      have hPc := hP.sub (ws' := []) [] rfl
      have hDc := hD.sub (ws' := []) [] (by decide) rfl
      have hKc := hK.sub (tys' := []) [] rfl
      have hFc := va_free (wc := []) hD hS hA [] rfl
      refine va_calli (va_runS (As := [.ref b, .int (nI (6 * i + 3))]) (rest := [.int va2, .int va1, .int va0, .ref pq]) ⟨hx, hb, hml, hown, hts⟩ (ud_X0_cell l D H.size b L xs hL (6 * i + 3) (by omega)) (va_cwS 2 hts (lw_S q65 q66 q11 q67) rfl rfl rfl (by decide +kernel) ⟨Nat.le_of_ble_eq_true rfl, Nat.le_of_ble_eq_true rfl⟩) ⟨ud_fbx, fun U hU hW => ⟨rfl, ud_gox hPc hKc hDc hX hbl hbA hS U hU hW⟩⟩ rfl rfl hl.1 rfl (lv_room (Nat.le_of_ble_eq_true rfl)) dL_law_58 ⟨by show 6 + 4 * i ≤ 1200000; omega, by show 585 + 576 * i ≤ 5502250; omega⟩) hS (fun q _ h => hFc q h) hFc (fun va3 u t H1 locs ht hvm hw hB hz1 hk1 hS => ?_)
      obtain ⟨hP1, hK1, hD1⟩ := hB
      rw [ht] at hP1
      obtain ⟨hP, hD⟩ := va_join (wr := [(pq, .inr (1, [.ref qd, .ref pt, .int (nI z), .ref pu, .int md])), (pt, .inl (cB, 128, .inl f)), (pu, .inl (cI, 160, .inl lu)), (qd, .inr (0, [.ref qt, .int (nI z), .ref qu, .int md])), (qt, .inl (cE, 128, .inl f)), (qu, .inl (cC, 160, .inl du))]) (w1 := []) hP hD [] [0, 1, 2, 3, 4, 5] rfl rfl (by decide) (by decide) hk1 hFc hP1 hD1
      generalize H1 = H at hP hS ⊢
      have hP : va_P D ud_Cl [(pq, .inr (1, [.ref qd, .ref pt, .int (nI z), .ref pu, .int md])), (pt, .inl (cB, 128, .inl f)), (pu, .inl (cI, 160, .inl lu)), (qd, .inr (0, [.ref qt, .int (nI z), .ref qu, .int md])), (qt, .inl (cE, 128, .inl f)), (qu, .inl (cC, 160, .inl du))] H := hP
      have hD : va_D A [(pq, .inr (1, [.ref qd, .ref pt, .int (nI z), .ref pu, .int md])), (pt, .inl (cB, 128, .inl f)), (pu, .inl (cI, 160, .inl lu)), (qd, .inr (0, [.ref qt, .int (nI z), .ref qu, .int md])), (qt, .inl (cE, 128, .inl f)), (qu, .inl (cC, 160, .inl du))] := hD
      refine lv_aload_n hx hb dL_law_61 rfl (lv_at hl 0 rfl) ?_
      refine lv_iload_n hx hb dL_law_62 rfl (lv_at hl 2 rfl) ?_
      refine lv_iconst (v := nI 4) hx hb dL_law_63 (by decide) ?_
      refine lv_iadd hx hb dL_law_64 ?_
      refine ud_top (v := nI (6 * i + 4)) (nI_add _ _) ?_
      have hPc := hP.sub (ws' := []) [] rfl
      have hDc := hD.sub (ws' := []) [] (by decide) rfl
      have hKc := hK.sub (tys' := []) [] rfl
      have hFc := va_free (wc := []) hD hS hA [] rfl
      refine va_calli (va_runS (As := [.ref b, .int (nI (6 * i + 4))]) (rest := [.int va3, .int va2, .int va1, .int va0, .ref pq]) ⟨hx, hb, hml, hown, hts⟩ (ud_X0_cell l D H.size b L xs hL (6 * i + 4) (by omega)) (va_cwS 2 hts (lw_S q65 q66 q11 q67) rfl rfl rfl (by decide +kernel) ⟨Nat.le_of_ble_eq_true rfl, Nat.le_of_ble_eq_true rfl⟩) ⟨ud_fbx, fun U hU hW => ⟨rfl, ud_gox hPc hKc hDc hX hbl hbA hS U hU hW⟩⟩ rfl rfl hl.1 rfl (lv_room (Nat.le_of_ble_eq_true rfl)) dL_law_65 ⟨by show 6 + 4 * i ≤ 1200000; omega, by show 585 + 576 * i ≤ 5502250; omega⟩) hS (fun q _ h => hFc q h) hFc (fun va4 u t H1 locs ht hvm hw hB hz1 hk1 hS => ?_)
      obtain ⟨hP1, hK1, hD1⟩ := hB
      rw [ht] at hP1
      obtain ⟨hP, hD⟩ := va_join (wr := [(pq, .inr (1, [.ref qd, .ref pt, .int (nI z), .ref pu, .int md])), (pt, .inl (cB, 128, .inl f)), (pu, .inl (cI, 160, .inl lu)), (qd, .inr (0, [.ref qt, .int (nI z), .ref qu, .int md])), (qt, .inl (cE, 128, .inl f)), (qu, .inl (cC, 160, .inl du))]) (w1 := []) hP hD [] [0, 1, 2, 3, 4, 5] rfl rfl (by decide) (by decide) hk1 hFc hP1 hD1
      generalize H1 = H at hP hS ⊢
      have hP : va_P D ud_Cl [(pq, .inr (1, [.ref qd, .ref pt, .int (nI z), .ref pu, .int md])), (pt, .inl (cB, 128, .inl f)), (pu, .inl (cI, 160, .inl lu)), (qd, .inr (0, [.ref qt, .int (nI z), .ref qu, .int md])), (qt, .inl (cE, 128, .inl f)), (qu, .inl (cC, 160, .inl du))] H := hP
      have hD : va_D A [(pq, .inr (1, [.ref qd, .ref pt, .int (nI z), .ref pu, .int md])), (pt, .inl (cB, 128, .inl f)), (pu, .inl (cI, 160, .inl lu)), (qd, .inr (0, [.ref qt, .int (nI z), .ref qu, .int md])), (qt, .inl (cE, 128, .inl f)), (qu, .inl (cC, 160, .inl du))] := hD
      refine lv_aload_n hx hb dL_law_68 rfl (lv_at hl 0 rfl) ?_
      refine lv_iload_n hx hb dL_law_69 rfl (lv_at hl 2 rfl) ?_
      refine lv_iconst (v := nI 5) hx hb dL_law_70 (by decide) ?_
      refine lv_iadd hx hb dL_law_71 ?_
      refine ud_top (v := nI (6 * i + 5)) (nI_add _ _) ?_
      have hPc := hP.sub (ws' := []) [] rfl
      have hDc := hD.sub (ws' := []) [] (by decide) rfl
      have hKc := hK.sub (tys' := []) [] rfl
      have hFc := va_free (wc := []) hD hS hA [] rfl
      refine va_calli (va_runS (As := [.ref b, .int (nI (6 * i + 5))]) (rest := [.int va4, .int va3, .int va2, .int va1, .int va0, .ref pq]) ⟨hx, hb, hml, hown, hts⟩ (ud_X0_cell l D H.size b L xs hL (6 * i + 5) (by omega)) (va_cwS 2 hts (lw_S q65 q66 q11 q67) rfl rfl rfl (by decide +kernel) ⟨Nat.le_of_ble_eq_true rfl, Nat.le_of_ble_eq_true rfl⟩) ⟨ud_fbx, fun U hU hW => ⟨rfl, ud_gox hPc hKc hDc hX hbl hbA hS U hU hW⟩⟩ rfl rfl hl.1 rfl (lv_room (Nat.le_of_ble_eq_true rfl)) dL_law_72 ⟨by show 6 + 4 * i ≤ 1200000; omega, by show 585 + 576 * i ≤ 5502250; omega⟩) hS (fun q _ h => hFc q h) hFc (fun va5 u t H1 locs ht hvm hw hB hz1 hk1 hS => ?_)
      obtain ⟨hP1, hK1, hD1⟩ := hB
      rw [ht] at hP1
      obtain ⟨hP, hD⟩ := va_join (wr := [(pq, .inr (1, [.ref qd, .ref pt, .int (nI z), .ref pu, .int md])), (pt, .inl (cB, 128, .inl f)), (pu, .inl (cI, 160, .inl lu)), (qd, .inr (0, [.ref qt, .int (nI z), .ref qu, .int md])), (qt, .inl (cE, 128, .inl f)), (qu, .inl (cC, 160, .inl du))]) (w1 := []) hP hD [] [0, 1, 2, 3, 4, 5] rfl rfl (by decide) (by decide) hk1 hFc hP1 hD1
      generalize H1 = H at hP hS ⊢
      have hP : va_P D ud_Cl [(pq, .inr (1, [.ref qd, .ref pt, .int (nI z), .ref pu, .int md])), (pt, .inl (cB, 128, .inl f)), (pu, .inl (cI, 160, .inl lu)), (qd, .inr (0, [.ref qt, .int (nI z), .ref qu, .int md])), (qt, .inl (cE, 128, .inl f)), (qu, .inl (cC, 160, .inl du))] H := hP
      have hD : va_D A [(pq, .inr (1, [.ref qd, .ref pt, .int (nI z), .ref pu, .int md])), (pt, .inl (cB, 128, .inl f)), (pu, .inl (cI, 160, .inl lu)), (qd, .inr (0, [.ref qt, .int (nI z), .ref qu, .int md])), (qt, .inl (cE, 128, .inl f)), (qu, .inl (cC, 160, .inl du))] := hD
      have hPc := hP.sub (ws' := [(pq, .inr (1, [.ref qd, .ref pt, .int (nI z), .ref pu, .int md])), (pt, .inl (cB, 128, .inl f)), (pu, .inl (cI, 160, .inl lu)), (qd, .inr (0, [.ref qt, .int (nI z), .ref qu, .int md])), (qt, .inl (cE, 128, .inl f)), (qu, .inl (cC, 160, .inl du))]) [0, 1, 2, 3, 4, 5] rfl
      have hDc := hD.sub (ws' := [(pq, .inr (1, [.ref qd, .ref pt, .int (nI z), .ref pu, .int md])), (pt, .inl (cB, 128, .inl f)), (pu, .inl (cI, 160, .inl lu)), (qd, .inr (0, [.ref qt, .int (nI z), .ref qu, .int md])), (qt, .inl (cE, 128, .inl f)), (qu, .inl (cC, 160, .inl du))]) [0, 1, 2, 3, 4, 5] (by decide) rfl
      have hKc := hK.sub (tys' := [(cB, .byte), (cI, .int), (cE, .byte), (cC, .char)]) [0, 1, 2, 3] rfl
      have hFc := va_free (wc := [(pq, .inr (1, [.ref qd, .ref pt, .int (nI z), .ref pu, .int md])), (pt, .inl (cB, 128, .inl f)), (pu, .inl (cI, 160, .inl lu)), (qd, .inr (0, [.ref qt, .int (nI z), .ref qu, .int md])), (qt, .inl (cE, 128, .inl f)), (qu, .inl (cC, 160, .inl du))]) hD hS hA [0, 1, 2, 3, 4, 5] rfl
      refine va_calli (va_runV (As := [.int va0, .int va1, .int va2, .int va3, .int va4, .int va5]) (rest := []) ⟨hx, hb, hml, hown, hts⟩ (ud_X0_step l D H.size t1 t2 pq pt pu qd qt qu z cB cI cE cC md f lu du c28_z c28_f c28_mk va0 va1 va2 va3 va4 va5) (cwV 6 hts (lw_V q129 q131 qs7 q11 q132) rfl rfl rfl (by decide +kernel) ⟨Nat.le_of_ble_eq_true rfl, Nat.le_of_ble_eq_true rfl⟩) ⟨ud_fbt, va_recv hKc hPc (ci := 1) (q0 := 0) rfl rfl, fun U hU hW => ⟨rfl, ud_got hPc hKc hDc hTb hS hFc U hU hW⟩⟩ rfl rfl hl.1 rfl (lv_room (Nat.le_of_ble_eq_true rfl)) dL_law_75 ⟨by show 6 + 4 * i + 4 ≤ 1200000; omega, by show 585 + 576 * i + 576 ≤ 5502250; omega⟩) hS (fun q _ h => hFc q h) hFc (fun r u75 t H1 locs ht hvm hw hB hz1 hk1 hS => ?_)
      obtain ⟨z2, f2, md2, lu2, du2⟩ := u75
      obtain ⟨hr1, hz2, hf2, hmk2⟩ := hw
      subst hr1
      obtain ⟨hP1, hK1, hD1⟩ := hB
      rw [ht] at hP1
      obtain ⟨hP, hD⟩ := va_join (wr := []) (w1 := [(pq, .inr (1, [.ref qd, .ref pt, .int (nI z2), .ref pu, .int md2])), (pt, .inl (cB, 128, .inl f2)), (pu, .inl (cI, 160, .inl lu2)), (qd, .inr (0, [.ref qt, .int (nI z2), .ref qu, .int md2])), (qt, .inl (cE, 128, .inl f2)), (qu, .inl (cC, 160, .inl du2))]) hP hD [0, 1, 2, 3, 4, 5] [] rfl rfl (by decide) (by decide) hk1 hFc hP1 hD1
      generalize H1 = H at hP hS ⊢
      have hP : va_P D ud_Cl [(pq, .inr (1, [.ref qd, .ref pt, .int (nI z2), .ref pu, .int md2])), (pt, .inl (cB, 128, .inl f2)), (pu, .inl (cI, 160, .inl lu2)), (qd, .inr (0, [.ref qt, .int (nI z2), .ref qu, .int md2])), (qt, .inl (cE, 128, .inl f2)), (qu, .inl (cC, 160, .inl du2))] H := hP
      have hD : va_D A [(pq, .inr (1, [.ref qd, .ref pt, .int (nI z2), .ref pu, .int md2])), (pt, .inl (cB, 128, .inl f2)), (pu, .inl (cI, 160, .inl lu2)), (qd, .inr (0, [.ref qt, .int (nI z2), .ref qu, .int md2])), (qt, .inl (cE, 128, .inl f2)), (qu, .inl (cC, 160, .inl du2))] := hD
      refine ud_cs (c1 := 6 + 4 * (i + 1)) (s1 := 585 + 576 * (i + 1)) (by omega) (by omega) ?_
      refine lv_if_ne (tgt := 83) hx hb dL_law_78 (by decide) (fun c78 => ?_) (fun c78 => ?_)
      · refine lv_iinc (v := nI (6 * (i + 1))) (lv' := [(2, .int (nI (6 * (i + 1)))), (0, .ref b), (1, .ref pq)]) hx hb dL_law_83 hl (k := 2) rfl ((ud_inc6 _).trans (congrArg nI (by omega))) (by decide) rfl (fun ls hl => ?_)
        refine lv_goto (tgt := 28) hx hb dL_law_86 (by decide) ?_
        exact ih28 ls H locs _ _ ⟨i + 1, z2, f2, md2, lu2, du2, by omega, by omega, rfl, rfl, hz2, hf2, hmk2, hP, hD, hS, lv_sub hl [1, 2, 0] rfl⟩
      · exact absurd c78 (by decide)
  · exact absurd rfl c21
end
section
set_option maxHeartbeats 4000000 in
theorem lw_walk (l : Launch) (hflags : l.flags = flags0) (b : Addr) (xs : List Int32) : MetFree l x (headSpec (Jvm.Cond.code x code maxLocals ret :: tables_1) room_1) (lw_P b xs) (fun _ _ _ _ _ => True) lw_Q := by
  refine MetFree.of_bodyS (code := code) (maxLocals := maxLocals) (ret := ret) (by decide) ?_ ?_
  · intro args s m h hn
    obtain ⟨meth, c, h1, h2, h3, h4, h5, h6, -, -⟩ := Cond.code_spec hn (atoms_spec (ws := Jvm.Cond.code x code maxLocals ret :: tables_1) h _ List.mem_cons_self)
    exact ⟨meth, c, h1, h2, h3, h4, h5, h6⟩
  · intro p e s m args below meth c s₁ B hml0 hP _
    obtain ⟨rfl, hx, hbd, hgv⟩ := hP
    obtain ⟨scr, harrAt, hlist, hof, hsmall⟩ := hx
    obtain ⟨hcb, hkn, -, -⟩ := State.arrayAt?_spec harrAt
    have hown : s.vm.findClass R_law = some m.cls := findClass_of_methodNamed B.named
    have hts0 : ∀ c ∈ (Jvm.Cond.code x code maxLocals ret :: tables_1), c.before #[Value.ref b] s = true := atoms_spec (ws := Jvm.Cond.code x code maxLocals ret :: tables_1) B.pre
    have hts : ∀ w ∈ lw_tbl, w.before #[Value.ref b] s = true := k2_hts_sels lw_privs (fun w hw => hts0 w (List.mem_cons_of_mem _ hw)) lw_privs_ok
    have hml : c.maxLocals = 3 := B.maxLocals_eq (hts0 _ List.mem_cons_self)
    have X₀ : Stand p l e room_1 s m #[Value.ref b] below meth c s₁ [] 0 0 := Stand.of_body B
    have hh0 : s₁.heap = s.heap := by rw [B.state]; rfl
    have hsz : scr.slots.size = xs.length := by rw [← Array.length_toList, hlist, List.length_map]
    have hval : ∀ j : Nat, j < xs.length → scr.slots[j]? = some (.int (xs.getD j 0)) := fun j hj => by
      rw [← Array.getElem?_toList, hlist]
      simp [hj]
    have hbl : b < s.heap.size := (Array.getElem?_eq_some_iff.mp hcb).1
    have hX : va_X b xs.length (fun j => xs.getD j 0) s s.heap := ⟨scr, hcb, hof, hkn, hsz, hval⟩
    have K : W p l e room_1 s m #[Value.ref b] below meth c s₁.heap [] 0 0 (lw_Z below #[Value.ref b] s) (entryFrame m ([Value.ref b] : List Value).toArray 3) := by
      rw [hh0]
      exact whole_start l hflags hbd ⟨B.exec, B.bytes, B.returns, hml, hown, hts, hX, hbl, B.notSynchronized, hgv⟩
    obtain ⟨t, a1, o, b1, b2, b3⟩ := K s₁ rfl X₀
    exact ⟨t, o, a1, b1, b2, b3⟩
theorem lw_pre_spec {args : Array Value} {s : State} (h : (Jvm.Cond.and given_1 narrow_1).before args s = true) (hr : rest_1_c.before args s = true) : ∃ (b : Addr) (xs : List Int32), lw_P b xs args s := by
  have hs := flat_of_before _ h
  have hq := flat_of_before _ hr
  have hc : (Cond.count 1).before args s = true := hs _ (by decide +kernel)
  have harr : (Cond.arrayOf (.arg 0) .int).before args s = true := hs _ (by decide +kernel)
  have hle : (Cond.le (.length (.arg 0)) (.int 96)).before args s = true := hs _ (by decide +kernel)
  have hlen : (Cond.isInt (.length (.arg 0))).before args s = true := hq _ (by decide +kernel)
  have hall : (Cond.all (.arg 0) (.isInt (.elem (.arg 0) (.index 0)))).before args s = true := hq _ (by decide +kernel)
  obtain ⟨b, xs, hb, hx⟩ := State.ints_of_pre rfl harr hlen hall
  have hsm : xs.length < 2 ^ 31 := hx.choose_spec.2.2.2
  have hev : (Term.length (.arg 0)).eval args s none [] s = some (.int xs.length.toInt32) := hx.length_eval hb
  have hv := Cond.le_ints hev (show (Term.int 96).eval args s none [] s = some (.int 96) from rfl)
  have hd : xs.length.toInt32 ≤ 96 := by
    simpa [Cond.before, Cond.holds, hv] using hle
  have hN : xs.length ≤ 96 := (Int32.ofNat_le_ofNat hsm (by decide)).mp (show Int32.ofNat xs.length ≤ Int32.ofNat 96 from hd)
  exact ⟨b, xs, Cond.one_arg hc (show args[0]? = some (.ref b) from hb), hx, hN, h⟩
theorem lw_comes (l : Launch) (hflags : l.flags = flags0) : Comes l x (Jvm.Cond.code x code maxLocals ret :: tables_1) room_1 (fun tb e args s => Calls_1 tb e args s ∧ rest_1 tb e args s ∧ Pre_1 tb e args s)
    (fun _ _ args s o t => lw_Q args s o t) := by
  intro p e ha hc hk s m args below hf hfit hheap happ hpre
  obtain ⟨b, xs, hP⟩ := lw_pre_spec hpre.2.2 hpre.2.1
  obtain ⟨k, o, h1, h2, h3, hQ⟩ := lw_walk l hflags b xs p e ha hc hk s m args below hf ((Spec.applies_iff_loose hf).mp happ).1 hP trivial
  exact ⟨k, o, h1, h2, h3, hQ⟩
theorem lw_frame {s t : State} {o : Outcome} {args : Array Value} (h : Framed s o t [] 1200000 5502250) :
    Framed s o t (fieldLocs frame_1_writes args s ++ arrayLocs frame_1_arrays args s ++ staticLocs frame_1_statics s) 1200000 5502250 := h
theorem lw_limb (L : Cond) (hL : ∀ (args : Array Value) (s t : State), L.after args s (.returned (some (.int 1))) t = true) :
    ArmFor flags0 classFile x code maxLocals ret World_1 tables_1 room_1 Calls_1 rest_1 Pre_1
      (fun tb e a s o t => postC L tb e a s o t ∧ Framed s o t (fieldLocs frame_1_writes a s ++ arrayLocs frame_1_arrays a s ++ staticLocs frame_1_statics s) 1200000 5502250) := by
  intro l hflags _ _ p e ha hc hk s m args below hf hfit hheap happ hpre
  obtain ⟨k, o, h1, h2, h3, rfl, hF⟩ := lw_comes l hflags p e ha hc hk s m args below hf hfit hheap happ hpre
  exact ⟨k, _, h1, h2, h3, hL args s _, lw_frame hF⟩
theorem i_vc : Claimed_1_1 ∧ Claimed_1_2 := ⟨lw_limb limb_1_1 (fun args s t => by simp [limb_1_1, Cond.after, Cond.holds, Cond.value]), lw_limb limb_1_2 (fun args s t => Cond.after_iff.mpr (by
  first | (rw [show limb_1_2 = Cond.eq .result (.int 1) from rfl, Cond.eq_ints (x := 1) (y := 1) rfl rfl]; simp; done) | (simp [limb_1_2, Cond.value, Term.eval]; done)))⟩
end
