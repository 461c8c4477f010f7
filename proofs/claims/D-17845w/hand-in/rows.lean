section
-- ===== PART A: goes FIRST, ahead of the names: the tables' words, and 'selects' of the private methods out of them =====
/-- a private method of a class that the tables say can be made, by its rows of tables_1 -/
def lw_okq (q : MethodName × Nat) : Prop := (q.1.cls ≠ "java/lang/invoke/MethodHandle" ∧ q.1.cls ≠ "java/lang/invoke/VarHandle") ∧ Cond.instantiable q.1.cls q.2 ∈ tables_1 ∧ Cond.privateMethod q.1 ∈ tables_1 ∧ Cond.instanceMethod q.1 ∈ tables_1
set_option maxRecDepth 100000
theorem lw_t1 {w : Cond} (h : w ∈ tables_1_1) : w ∈ tables_1 := List.mem_append_left _ h
theorem lw_t2 {w : Cond} (h : w ∈ tables_1_2) : w ∈ tables_1 := List.mem_append_right _ h
theorem lw_p0 : lw_okq (⟨"WireBufferDesk", "from", "(I)I"⟩, 4) := ⟨⟨by decide +kernel, by decide +kernel⟩, lw_t1 (List.mem_of_getElem? (i := 6) rfl), lw_t1 (List.mem_of_getElem? (i := 60) rfl), lw_t1 (List.mem_of_getElem? (i := 61) rfl)⟩
theorem lw_p1 : lw_okq (⟨"WireBufferDesk", "part", "(II)[B"⟩, 4) := ⟨⟨by decide +kernel, by decide +kernel⟩, lw_t1 (List.mem_of_getElem? (i := 6) rfl), lw_t1 (List.mem_of_getElem? (i := 97) rfl), lw_t1 (List.mem_of_getElem? (i := 98) rfl)⟩
theorem lw_p2 : lw_okq (⟨"WireBufferDesk", "count", "(II)I"⟩, 4) := ⟨⟨by decide +kernel, by decide +kernel⟩, lw_t1 (List.mem_of_getElem? (i := 6) rfl), lw_t1 (List.mem_of_getElem? (i := 101) rfl), lw_t1 (List.mem_of_getElem? (i := 102) rfl)⟩
theorem lw_p3 : lw_okq (⟨"WireBufferDesk", "next", "()I"⟩, 4) := ⟨⟨by decide +kernel, by decide +kernel⟩, lw_t1 (List.mem_of_getElem? (i := 6) rfl), lw_t1 (List.mem_of_getElem? (i := 190) rfl), lw_t1 (List.mem_of_getElem? (i := 191) rfl)⟩
theorem lw_p4 : lw_okq (⟨"WireBufferDeskModel", "begin", "(I)I"⟩, 6) := ⟨⟨by decide +kernel, by decide +kernel⟩, lw_t1 (List.mem_of_getElem? (i := 223) rfl), lw_t2 (List.mem_of_getElem? (i := 17) rfl), lw_t2 (List.mem_of_getElem? (i := 18) rfl)⟩
theorem lw_p5 : lw_okq (⟨"WireBufferDeskModel", "isFull", "()Z"⟩, 6) := ⟨⟨by decide +kernel, by decide +kernel⟩, lw_t1 (List.mem_of_getElem? (i := 223) rfl), lw_t2 (List.mem_of_getElem? (i := 26) rfl), lw_t2 (List.mem_of_getElem? (i := 27) rfl)⟩
theorem lw_p6 : lw_okq (⟨"WireBufferDeskModel", "lay", "(JI)V"⟩, 6) := ⟨⟨by decide +kernel, by decide +kernel⟩, lw_t1 (List.mem_of_getElem? (i := 223) rfl), lw_t2 (List.mem_of_getElem? (i := 30) rfl), lw_t2 (List.mem_of_getElem? (i := 31) rfl)⟩
theorem lw_p7 : lw_okq (⟨"WireBufferDeskModel", "part", "(II)[I"⟩, 6) := ⟨⟨by decide +kernel, by decide +kernel⟩, lw_t1 (List.mem_of_getElem? (i := 223) rfl), lw_t2 (List.mem_of_getElem? (i := 47) rfl), lw_t2 (List.mem_of_getElem? (i := 48) rfl)⟩
theorem lw_p8 : lw_okq (⟨"WireBufferDeskModel", "layAll", "([I)V"⟩, 6) := ⟨⟨by decide +kernel, by decide +kernel⟩, lw_t1 (List.mem_of_getElem? (i := 223) rfl), lw_t2 (List.mem_of_getElem? (i := 51) rfl), lw_t2 (List.mem_of_getElem? (i := 52) rfl)⟩
theorem lw_p9 : lw_okq (⟨"WireBufferDeskModel", "take", "(I)J"⟩, 6) := ⟨⟨by decide +kernel, by decide +kernel⟩, lw_t1 (List.mem_of_getElem? (i := 223) rfl), lw_t2 (List.mem_of_getElem? (i := 67) rfl), lw_t2 (List.mem_of_getElem? (i := 68) rfl)⟩
theorem lw_p10 : lw_okq (⟨"WireBufferDeskModel", "look", "(I)J"⟩, 6) := ⟨⟨by decide +kernel, by decide +kernel⟩, lw_t1 (List.mem_of_getElem? (i := 223) rfl), lw_t2 (List.mem_of_getElem? (i := 73) rfl), lw_t2 (List.mem_of_getElem? (i := 74) rfl)⟩
def lw_privs_1 : List (MethodName × Nat) := [(⟨"WireBufferDesk", "from", "(I)I"⟩, 4), (⟨"WireBufferDesk", "part", "(II)[B"⟩, 4), (⟨"WireBufferDesk", "count", "(II)I"⟩, 4), (⟨"WireBufferDesk", "next", "()I"⟩, 4), (⟨"WireBufferDeskModel", "begin", "(I)I"⟩, 6), (⟨"WireBufferDeskModel", "isFull", "()Z"⟩, 6), (⟨"WireBufferDeskModel", "lay", "(JI)V"⟩, 6), (⟨"WireBufferDeskModel", "part", "(II)[I"⟩, 6), (⟨"WireBufferDeskModel", "layAll", "([I)V"⟩, 6), (⟨"WireBufferDeskModel", "take", "(I)J"⟩, 6), (⟨"WireBufferDeskModel", "look", "(I)J"⟩, 6)]
theorem lw_r1 : ∀ q ∈ lw_privs_1, lw_okq q := List.forall_mem_cons.mpr ⟨lw_p0, List.forall_mem_cons.mpr ⟨lw_p1, List.forall_mem_cons.mpr ⟨lw_p2, List.forall_mem_cons.mpr ⟨lw_p3, List.forall_mem_cons.mpr ⟨lw_p4, List.forall_mem_cons.mpr ⟨lw_p5, List.forall_mem_cons.mpr ⟨lw_p6, List.forall_mem_cons.mpr ⟨lw_p7, List.forall_mem_cons.mpr ⟨lw_p8, List.forall_mem_cons.mpr ⟨lw_p9, List.forall_mem_cons.mpr ⟨lw_p10, fun _ h => absurd h List.not_mem_nil⟩⟩⟩⟩⟩⟩⟩⟩⟩⟩⟩
def lw_privs : List (MethodName × Nat) := lw_privs_1
def lw_tbl : List Cond := k2_sels lw_privs ++ tables_1
theorem lw_privs_ok : ∀ q ∈ lw_privs, lw_okq q := lw_r1
-- ===== ONE list of words for every method: the tables' words that hold all through a run =====
def lw_all : List Cond := lw_tbl.filter goodWord
/-- a word of the tables by its place: claim/WORDS.tsv -/
theorem lw_w {w : Cond} (i : Nat) (h : lw_tbl[i]? = some w) (g : goodWord w = true) : w ∈ lw_all := List.mem_filter.mpr ⟨List.mem_of_getElem? h, g⟩
theorem lw_all_tbl {w : Cond} (h : w ∈ lw_all) : w ∈ lw_tbl := (List.mem_filter.mp h).1
theorem lw_self : GoodIn lw_all lw_all := fun w h => ⟨h, good_of_word (List.mem_filter.mp h).2⟩
/-- a class's field words, by their places -/
theorem lw_in (ws : List Cond) (ps : List Nat) (hp : ws = ps.filterMap (fun i => lw_tbl[i]?)) (hg : ws.all goodWord = true) : ∀ w ∈ ws, w ∈ lw_all := by
  intro w h
  have h1 := List.all_eq_true.mp hg w h
  rw [hp] at h
  obtain ⟨i, -, hi⟩ := List.mem_filterMap.mp h
  exact lw_w i hi h1
/-- the words of a contract for the method y with code b, L locals, answer r -/
abbrev ws_ (y : MethodName) (b : ByteArray) (L : Nat) (r : Option FieldType) : List Cond := Cond.code y b L r :: lw_all
theorem lw_meth {y : MethodName} {b : ByteArray} {L : Nat} {r : Option FieldType} (h : Cond.code y b L r ∈ lw_all) : GoodIn lw_all (ws_ y b L r) := by
  intro w hw
  rcases List.mem_cons.mp hw with e | e
  · rw [e]
    exact lw_self _ h
  · exact lw_self _ e
theorem lw_app {a c : List Cond} (ha : ∀ w ∈ a, w ∈ lw_all) (hc : GoodIn lw_all c) : GoodIn lw_all (a ++ c) := by
  intro w hw
  rcases List.mem_append.mp hw with e | e
  · exact lw_self w (ha w e)
  · exact hc w e
/-- what a call through an object asks: cwV n hts (lw_V ..) -/
theorem lw_V {own : String} {idx : Nat} {C : String} {y : MethodName} {b : ByteArray} {L : Nat} {r : Option FieldType} (h1 : Cond.methodLink own idx y ∈ lw_all) (h2 : Cond.instanceMethod y ∈ lw_all) (h3 : Cond.selects C y y ∈ lw_all) (h4 : Cond.initialized C ∈ lw_all) (h5 : Cond.code y b L r ∈ lw_all) : GoodIn lw_all (wsV own idx C y (ws_ y b L r)) := by
  refine lw_app ?_ (lw_meth h5)
  intro w hw
  simp only [List.mem_cons, List.not_mem_nil, or_false] at hw
  rcases hw with e | e | e | e
  · rw [e]; exact h1
  · rw [e]; exact h2
  · rw [e]; exact h3
  · rw [e]; exact h4
/-- what a static call asks: va_cwS n hts (lw_S ..) -/
theorem lw_S {own : String} {idx : Nat} {y : MethodName} {b : ByteArray} {L : Nat} {r : Option FieldType} (h1 : Cond.methodLink own idx y ∈ lw_all) (h2 : Cond.static y ∈ lw_all) (h3 : Cond.initialized y.cls ∈ lw_all) (h4 : Cond.code y b L r ∈ lw_all) : GoodIn lw_all (va_wsS own idx y (ws_ y b L r)) := by
  refine lw_app ?_ (lw_meth h4)
  intro w hw
  simp only [List.mem_cons, List.not_mem_nil, or_false] at hw
  rcases hw with e | e | e
  · rw [e]; exact h1
  · rw [e]; exact h2
  · rw [e]; exact h3
/-- the words of a contract for a method WITH HANDLERS (hh: its table) -/
abbrev wsW_ (y : MethodName) (b : ByteArray) (L : Nat) (r : Option FieldType) (hh : List (Nat × Nat × Nat × Nat)) : List Cond := Cond.codeWith y b L r hh :: lw_all
theorem lw_methW {y : MethodName} {b : ByteArray} {L : Nat} {r : Option FieldType} {hh : List (Nat × Nat × Nat × Nat)} (h : Cond.codeWith y b L r hh ∈ lw_all) : GoodIn lw_all (wsW_ y b L r hh) := by
  intro w hw
  rcases List.mem_cons.mp hw with e | e
  · rw [e]
    exact lw_self _ h
  · exact lw_self _ e
/-- any list of words by their places (lw_in), good -/
theorem lw_good {ws : List Cond} (h : ∀ w ∈ ws, w ∈ lw_all) : GoodIn lw_all ws := fun w hw => lw_self w (h w hw)
/-- what a call of a method with handlers asks: vx_cwVW n hts (lw_VW ..), vx_cwSW n hts (lw_SW ..) -/
theorem lw_VW {own : String} {idx : Nat} {C : String} {y : MethodName} {b : ByteArray} {L : Nat} {r : Option FieldType} {hh : List (Nat × Nat × Nat × Nat)} (h1 : Cond.methodLink own idx y ∈ lw_all) (h2 : Cond.instanceMethod y ∈ lw_all) (h3 : Cond.selects C y y ∈ lw_all) (h4 : Cond.initialized C ∈ lw_all) (h5 : Cond.codeWith y b L r hh ∈ lw_all) : GoodIn lw_all (wsV own idx C y (wsW_ y b L r hh)) := by
  refine lw_app ?_ (lw_methW h5)
  intro w hw
  simp only [List.mem_cons, List.not_mem_nil, or_false] at hw
  rcases hw with e | e | e | e
  · rw [e]; exact h1
  · rw [e]; exact h2
  · rw [e]; exact h3
  · rw [e]; exact h4
theorem lw_SW {own : String} {idx : Nat} {y : MethodName} {b : ByteArray} {L : Nat} {r : Option FieldType} {hh : List (Nat × Nat × Nat × Nat)} (h1 : Cond.methodLink own idx y ∈ lw_all) (h2 : Cond.static y ∈ lw_all) (h3 : Cond.initialized y.cls ∈ lw_all) (h4 : Cond.codeWith y b L r hh ∈ lw_all) : GoodIn lw_all (va_wsS own idx y (wsW_ y b L r hh)) := by
  refine lw_app ?_ (lw_methW h4)
  intro w hw
  simp only [List.mem_cons, List.not_mem_nil, or_false] at hw
  rcases hw with e | e | e
  · rw [e]; exact h1
  · rw [e]; exact h2
  · rw [e]; exact h3
/-- a word by its place in its run of the tables -/
theorem lw_at {r : List Cond} (hr : ∀ w ∈ r, w ∈ lw_tbl) {w : Cond} (i : Nat) (h : r[i]? = some w) : w ∈ lw_tbl := hr w (List.mem_of_getElem? h)
theorem lw_g {w : Cond} (h : w ∈ lw_tbl) (g : goodWord w = true) : w ∈ lw_all := List.mem_filter.mpr ⟨h, g⟩
theorem lw_ms : ∀ w ∈ k2_sels lw_privs, w ∈ lw_tbl := fun w h => show w ∈ k2_sels lw_privs ++ tables_1 from List.mem_append_left _ h
theorem lw_m1 : ∀ w ∈ tables_1_1, w ∈ lw_tbl := fun w h => show w ∈ k2_sels lw_privs ++ tables_1 from List.mem_append_right (k2_sels lw_privs) (show w ∈ tables_1 from List.mem_append_left _ h)
theorem lw_m2 : ∀ w ∈ tables_1_2, w ∈ lw_tbl := fun w h => show w ∈ k2_sels lw_privs ++ tables_1 from List.mem_append_right (k2_sels lw_privs) (show w ∈ tables_1 from List.mem_append_right _ h)
theorem qs0 : (Cond.selects "WireBufferDesk" ⟨"WireBufferDesk", "from", "(I)I"⟩ ⟨"WireBufferDesk", "from", "(I)I"⟩) ∈ lw_all := lw_g (lw_at lw_ms 0 rfl) rfl
theorem qs1 : (Cond.selects "WireBufferDesk" ⟨"WireBufferDesk", "part", "(II)[B"⟩ ⟨"WireBufferDesk", "part", "(II)[B"⟩) ∈ lw_all := lw_g (lw_at lw_ms 1 rfl) rfl
theorem qs2 : (Cond.selects "WireBufferDesk" ⟨"WireBufferDesk", "count", "(II)I"⟩ ⟨"WireBufferDesk", "count", "(II)I"⟩) ∈ lw_all := lw_g (lw_at lw_ms 2 rfl) rfl
theorem qs3 : (Cond.selects "WireBufferDesk" ⟨"WireBufferDesk", "next", "()I"⟩ ⟨"WireBufferDesk", "next", "()I"⟩) ∈ lw_all := lw_g (lw_at lw_ms 3 rfl) rfl
theorem qs4 : (Cond.selects "WireBufferDeskModel" ⟨"WireBufferDeskModel", "begin", "(I)I"⟩ ⟨"WireBufferDeskModel", "begin", "(I)I"⟩) ∈ lw_all := lw_g (lw_at lw_ms 4 rfl) rfl
theorem qs5 : (Cond.selects "WireBufferDeskModel" ⟨"WireBufferDeskModel", "isFull", "()Z"⟩ ⟨"WireBufferDeskModel", "isFull", "()Z"⟩) ∈ lw_all := lw_g (lw_at lw_ms 5 rfl) rfl
theorem qs6 : (Cond.selects "WireBufferDeskModel" ⟨"WireBufferDeskModel", "lay", "(JI)V"⟩ ⟨"WireBufferDeskModel", "lay", "(JI)V"⟩) ∈ lw_all := lw_g (lw_at lw_ms 6 rfl) rfl
theorem qs7 : (Cond.selects "WireBufferDeskModel" ⟨"WireBufferDeskModel", "part", "(II)[I"⟩ ⟨"WireBufferDeskModel", "part", "(II)[I"⟩) ∈ lw_all := lw_g (lw_at lw_ms 7 rfl) rfl
theorem qs8 : (Cond.selects "WireBufferDeskModel" ⟨"WireBufferDeskModel", "layAll", "([I)V"⟩ ⟨"WireBufferDeskModel", "layAll", "([I)V"⟩) ∈ lw_all := lw_g (lw_at lw_ms 8 rfl) rfl
theorem qs9 : (Cond.selects "WireBufferDeskModel" ⟨"WireBufferDeskModel", "take", "(I)J"⟩ ⟨"WireBufferDeskModel", "take", "(I)J"⟩) ∈ lw_all := lw_g (lw_at lw_ms 9 rfl) rfl
theorem qs10 : (Cond.selects "WireBufferDeskModel" ⟨"WireBufferDeskModel", "look", "(I)J"⟩ ⟨"WireBufferDeskModel", "look", "(I)J"⟩) ∈ lw_all := lw_g (lw_at lw_ms 10 rfl) rfl
-- ===== end of PART A; then your names; then what follows =====
end
section
/-! DECODE ROWS BY BYTES: one lemma an opcode; a method's code is cut into short pieces once, and a row reads its own piece alone. -/
set_option maxRecDepth 100000
/-- the code has just these bytes from pc on -/
def DkAt (code : ByteArray) (pc : Nat) (bs : List UInt8) : Prop := ∀ (j : Nat) (b : UInt8), bs[j]? = some b → code.data.toList[pc + j]? = some b
/-- the piece W has the bytes bs from its place j on -/
def dkIn (W : List UInt8) (j : Nat) (bs : List UInt8) : Bool := decide ((W.drop j).take bs.length = bs)
theorem dk_seg {l W T : List UInt8} {o o2 : Nat} (h : l.drop o = W ++ T) (n : Nat) (hn : W.length = n) (ho : o + n = o2) : l.drop o2 = T := by
  subst ho
  rw [← List.drop_drop, h, List.drop_left' hn]
theorem dk_at {code : ByteArray} {W T bs : List UInt8} {o pc : Nat} (h : code.data.toList.drop o = W ++ T) (j : Nat) (hp : o + j = pc) (hw : dkIn W j bs = true) : DkAt code pc bs := by
  subst hp
  intro i b e
  have h1 := of_decide_eq_true hw
  have h2 : i < bs.length := (List.getElem?_eq_some_iff.mp e).1
  have h3 : W[j + i]? = some b := by
    rw [← h1, List.getElem?_take, if_pos h2, List.getElem?_drop] at e
    exact e
  have h4 : j + i < W.length := (List.getElem?_eq_some_iff.mp h3).1
  have h5 : (code.data.toList.drop o)[j + i]? = some b := by
    rw [h, List.getElem?_append_left h4]
    exact h3
  rw [List.getElem?_drop, ← Nat.add_assoc] at h5
  exact h5
theorem dk_u1 {A : ByteArray} {p : Nat} {b : UInt8} (h : A.data.toList[p]? = some b) : (Reader.u1 : Reader DecodeError Nat) A p = .ok (b.toNat, p + 1) := by
  obtain ⟨h1, h2⟩ := List.getElem?_eq_some_iff.mp h
  have h3 : p < A.size := by simpa using h1
  have h4 : A[p]'h3 = b := h2
  have e : (Reader.u1 : Reader DecodeError Nat) A p = (if h : p < A.size then .ok (A[p].toNat, p + 1) else .error (HasTruncated.truncated p)) := by
    show (do if h : p < A.size then do set (p + 1); Pure.pure A[p].toNat else MonadExcept.throw (HasTruncated.truncated p) : Reader DecodeError Nat) A p = _
    by_cases hi : p < A.size
    · rw [dif_pos hi, dif_pos hi]; rfl
    · rw [dif_neg hi, dif_neg hi]; rfl
  rw [e, dif_pos h3, h4]
theorem dk_bind {α β : Type} {r : Reader DecodeError α} {f : α → Reader DecodeError β} {A : ByteArray} {p s : Nat} {a : α} (h : r A p = .ok (a, s)) : (r >>= f) A p = f a A s := by
  show (do let (a, s) ← r A p; f a A s : Except DecodeError (β × Nat)) = _
  rw [h]
  rfl
theorem dk_map {α β : Type} {r : Reader DecodeError α} {g : α → β} {A : ByteArray} {p s : Nat} {a : α} (h : r A p = .ok (a, s)) : (g <$> r) A p = .ok (g a, s) := by
  show (do let (a, s) ← r A p; .ok (g a, s) : Except DecodeError (β × Nat)) = _
  rw [h]
  rfl
theorem dk_u2 {A : ByteArray} {p : Nat} {a b : UInt8} (h : A.data.toList[p]? = some a) (h2 : A.data.toList[p + 1]? = some b) : (Reader.u2 : Reader DecodeError Nat) A p = .ok (a.toNat * 256 + b.toNat, p + 2) := by
  show (Reader.u1 >>= fun hi => Reader.u1 >>= fun lo => Pure.pure (hi * 256 + lo) : Reader DecodeError Nat) A p = _
  rw [dk_bind (dk_u1 h), dk_bind (dk_u1 h2)]
  rfl
theorem dk_of {code : ByteArray} {pc n : Nat} {i : Instr} (h : Decoder.instr pc code pc = .ok (i, pc + n)) : decode code pc = .ok (i, n) := by
  have e : decode code pc = (match Decoder.instr pc code pc with | .error x => .error x | .ok (j, s) => .ok (j, s - pc)) := by
    show (do let (j, s) ← Decoder.instr pc code pc; Pure.pure (j, s - pc) : Except DecodeError (Instr × Nat)) = _
    cases Decoder.instr pc code pc <;> rfl
  rw [e, h]
  show Except.ok (i, pc + n - pc) = _
  rw [Nat.add_sub_cancel_left]
theorem dk_2 {code : ByteArray} {pc : Nat} (h : DkAt code pc [2]) : decode code pc = .ok (.iconst (-1), 1) := dk_of ((dk_bind (dk_u1 (h 0 _ rfl))).trans rfl)
theorem dk_3 {code : ByteArray} {pc : Nat} (h : DkAt code pc [3]) : decode code pc = .ok (.iconst 0, 1) := dk_of ((dk_bind (dk_u1 (h 0 _ rfl))).trans rfl)
theorem dk_4 {code : ByteArray} {pc : Nat} (h : DkAt code pc [4]) : decode code pc = .ok (.iconst 1, 1) := dk_of ((dk_bind (dk_u1 (h 0 _ rfl))).trans rfl)
theorem dk_5 {code : ByteArray} {pc : Nat} (h : DkAt code pc [5]) : decode code pc = .ok (.iconst 2, 1) := dk_of ((dk_bind (dk_u1 (h 0 _ rfl))).trans rfl)
theorem dk_6 {code : ByteArray} {pc : Nat} (h : DkAt code pc [6]) : decode code pc = .ok (.iconst 3, 1) := dk_of ((dk_bind (dk_u1 (h 0 _ rfl))).trans rfl)
theorem dk_7 {code : ByteArray} {pc : Nat} (h : DkAt code pc [7]) : decode code pc = .ok (.iconst 4, 1) := dk_of ((dk_bind (dk_u1 (h 0 _ rfl))).trans rfl)
theorem dk_9 {code : ByteArray} {pc : Nat} (h : DkAt code pc [9]) : decode code pc = .ok (.lconst 0, 1) := dk_of ((dk_bind (dk_u1 (h 0 _ rfl))).trans rfl)
theorem dk_16 {code : ByteArray} {pc : Nat} (a : UInt8) (h : DkAt code pc [16, a]) : decode code pc = .ok (.bipush (Reader.signed 8 a.toNat), 2) := dk_of ((dk_bind (dk_u1 (h 0 _ rfl))).trans ((dk_bind (dk_map (dk_u1 (h 1 _ rfl)))).trans rfl))
theorem dk_17 {code : ByteArray} {pc : Nat} (a b : UInt8) (h : DkAt code pc [17, a, b]) : decode code pc = .ok (.sipush (Reader.signed 16 (a.toNat * 256 + b.toNat)), 3) := dk_of ((dk_bind (dk_u1 (h 0 _ rfl))).trans ((dk_bind (dk_map (dk_u2 (h 1 _ rfl) (h 2 _ rfl)))).trans rfl))
theorem dk_18 {code : ByteArray} {pc : Nat} (a : UInt8) (h : DkAt code pc [18, a]) : decode code pc = .ok (.ldc a.toNat, 2) := dk_of ((dk_bind (dk_u1 (h 0 _ rfl))).trans ((dk_bind (dk_u1 (h 1 _ rfl))).trans rfl))
theorem dk_20 {code : ByteArray} {pc : Nat} (a b : UInt8) (h : DkAt code pc [20, a, b]) : decode code pc = .ok (.ldc2_w (a.toNat * 256 + b.toNat), 3) := dk_of ((dk_bind (dk_u1 (h 0 _ rfl))).trans ((dk_bind (dk_u2 (h 1 _ rfl) (h 2 _ rfl))).trans rfl))
theorem dk_21 {code : ByteArray} {pc : Nat} (a : UInt8) (h : DkAt code pc [21, a]) : decode code pc = .ok (.iload a.toNat, 2) := dk_of ((dk_bind (dk_u1 (h 0 _ rfl))).trans ((dk_bind (dk_u1 (h 1 _ rfl))).trans rfl))
theorem dk_25 {code : ByteArray} {pc : Nat} (a : UInt8) (h : DkAt code pc [25, a]) : decode code pc = .ok (.aload a.toNat, 2) := dk_of ((dk_bind (dk_u1 (h 0 _ rfl))).trans ((dk_bind (dk_u1 (h 1 _ rfl))).trans rfl))
theorem dk_27 {code : ByteArray} {pc : Nat} (h : DkAt code pc [27]) : decode code pc = .ok (.iload_n 1, 1) := dk_of ((dk_bind (dk_u1 (h 0 _ rfl))).trans rfl)
theorem dk_28 {code : ByteArray} {pc : Nat} (h : DkAt code pc [28]) : decode code pc = .ok (.iload_n 2, 1) := dk_of ((dk_bind (dk_u1 (h 0 _ rfl))).trans rfl)
theorem dk_29 {code : ByteArray} {pc : Nat} (h : DkAt code pc [29]) : decode code pc = .ok (.iload_n 3, 1) := dk_of ((dk_bind (dk_u1 (h 0 _ rfl))).trans rfl)
theorem dk_31 {code : ByteArray} {pc : Nat} (h : DkAt code pc [31]) : decode code pc = .ok (.lload_n 1, 1) := dk_of ((dk_bind (dk_u1 (h 0 _ rfl))).trans rfl)
theorem dk_32 {code : ByteArray} {pc : Nat} (h : DkAt code pc [32]) : decode code pc = .ok (.lload_n 2, 1) := dk_of ((dk_bind (dk_u1 (h 0 _ rfl))).trans rfl)
theorem dk_33 {code : ByteArray} {pc : Nat} (h : DkAt code pc [33]) : decode code pc = .ok (.lload_n 3, 1) := dk_of ((dk_bind (dk_u1 (h 0 _ rfl))).trans rfl)
theorem dk_42 {code : ByteArray} {pc : Nat} (h : DkAt code pc [42]) : decode code pc = .ok (.aload_n 0, 1) := dk_of ((dk_bind (dk_u1 (h 0 _ rfl))).trans rfl)
theorem dk_43 {code : ByteArray} {pc : Nat} (h : DkAt code pc [43]) : decode code pc = .ok (.aload_n 1, 1) := dk_of ((dk_bind (dk_u1 (h 0 _ rfl))).trans rfl)
theorem dk_44 {code : ByteArray} {pc : Nat} (h : DkAt code pc [44]) : decode code pc = .ok (.aload_n 2, 1) := dk_of ((dk_bind (dk_u1 (h 0 _ rfl))).trans rfl)
theorem dk_45 {code : ByteArray} {pc : Nat} (h : DkAt code pc [45]) : decode code pc = .ok (.aload_n 3, 1) := dk_of ((dk_bind (dk_u1 (h 0 _ rfl))).trans rfl)
theorem dk_46 {code : ByteArray} {pc : Nat} (h : DkAt code pc [46]) : decode code pc = .ok (.iaload, 1) := dk_of ((dk_bind (dk_u1 (h 0 _ rfl))).trans rfl)
theorem dk_51 {code : ByteArray} {pc : Nat} (h : DkAt code pc [51]) : decode code pc = .ok (.baload, 1) := dk_of ((dk_bind (dk_u1 (h 0 _ rfl))).trans rfl)
theorem dk_54 {code : ByteArray} {pc : Nat} (a : UInt8) (h : DkAt code pc [54, a]) : decode code pc = .ok (.istore a.toNat, 2) := dk_of ((dk_bind (dk_u1 (h 0 _ rfl))).trans ((dk_bind (dk_u1 (h 1 _ rfl))).trans rfl))
theorem dk_58 {code : ByteArray} {pc : Nat} (a : UInt8) (h : DkAt code pc [58, a]) : decode code pc = .ok (.astore a.toNat, 2) := dk_of ((dk_bind (dk_u1 (h 0 _ rfl))).trans ((dk_bind (dk_u1 (h 1 _ rfl))).trans rfl))
theorem dk_60 {code : ByteArray} {pc : Nat} (h : DkAt code pc [60]) : decode code pc = .ok (.istore_n 1, 1) := dk_of ((dk_bind (dk_u1 (h 0 _ rfl))).trans rfl)
theorem dk_61 {code : ByteArray} {pc : Nat} (h : DkAt code pc [61]) : decode code pc = .ok (.istore_n 2, 1) := dk_of ((dk_bind (dk_u1 (h 0 _ rfl))).trans rfl)
theorem dk_62 {code : ByteArray} {pc : Nat} (h : DkAt code pc [62]) : decode code pc = .ok (.istore_n 3, 1) := dk_of ((dk_bind (dk_u1 (h 0 _ rfl))).trans rfl)
theorem dk_64 {code : ByteArray} {pc : Nat} (h : DkAt code pc [64]) : decode code pc = .ok (.lstore_n 1, 1) := dk_of ((dk_bind (dk_u1 (h 0 _ rfl))).trans rfl)
theorem dk_65 {code : ByteArray} {pc : Nat} (h : DkAt code pc [65]) : decode code pc = .ok (.lstore_n 2, 1) := dk_of ((dk_bind (dk_u1 (h 0 _ rfl))).trans rfl)
theorem dk_66 {code : ByteArray} {pc : Nat} (h : DkAt code pc [66]) : decode code pc = .ok (.lstore_n 3, 1) := dk_of ((dk_bind (dk_u1 (h 0 _ rfl))).trans rfl)
theorem dk_76 {code : ByteArray} {pc : Nat} (h : DkAt code pc [76]) : decode code pc = .ok (.astore_n 1, 1) := dk_of ((dk_bind (dk_u1 (h 0 _ rfl))).trans rfl)
theorem dk_77 {code : ByteArray} {pc : Nat} (h : DkAt code pc [77]) : decode code pc = .ok (.astore_n 2, 1) := dk_of ((dk_bind (dk_u1 (h 0 _ rfl))).trans rfl)
theorem dk_78 {code : ByteArray} {pc : Nat} (h : DkAt code pc [78]) : decode code pc = .ok (.astore_n 3, 1) := dk_of ((dk_bind (dk_u1 (h 0 _ rfl))).trans rfl)
theorem dk_79 {code : ByteArray} {pc : Nat} (h : DkAt code pc [79]) : decode code pc = .ok (.iastore, 1) := dk_of ((dk_bind (dk_u1 (h 0 _ rfl))).trans rfl)
theorem dk_84 {code : ByteArray} {pc : Nat} (h : DkAt code pc [84]) : decode code pc = .ok (.bastore, 1) := dk_of ((dk_bind (dk_u1 (h 0 _ rfl))).trans rfl)
theorem dk_89 {code : ByteArray} {pc : Nat} (h : DkAt code pc [89]) : decode code pc = .ok (.dup, 1) := dk_of ((dk_bind (dk_u1 (h 0 _ rfl))).trans rfl)
theorem dk_90 {code : ByteArray} {pc : Nat} (h : DkAt code pc [90]) : decode code pc = .ok (.dup_x1, 1) := dk_of ((dk_bind (dk_u1 (h 0 _ rfl))).trans rfl)
theorem dk_96 {code : ByteArray} {pc : Nat} (h : DkAt code pc [96]) : decode code pc = .ok (.iadd, 1) := dk_of ((dk_bind (dk_u1 (h 0 _ rfl))).trans rfl)
theorem dk_100 {code : ByteArray} {pc : Nat} (h : DkAt code pc [100]) : decode code pc = .ok (.isub, 1) := dk_of ((dk_bind (dk_u1 (h 0 _ rfl))).trans rfl)
theorem dk_104 {code : ByteArray} {pc : Nat} (h : DkAt code pc [104]) : decode code pc = .ok (.imul, 1) := dk_of ((dk_bind (dk_u1 (h 0 _ rfl))).trans rfl)
theorem dk_112 {code : ByteArray} {pc : Nat} (h : DkAt code pc [112]) : decode code pc = .ok (.irem, 1) := dk_of ((dk_bind (dk_u1 (h 0 _ rfl))).trans rfl)
theorem dk_120 {code : ByteArray} {pc : Nat} (h : DkAt code pc [120]) : decode code pc = .ok (.ishl, 1) := dk_of ((dk_bind (dk_u1 (h 0 _ rfl))).trans rfl)
theorem dk_121 {code : ByteArray} {pc : Nat} (h : DkAt code pc [121]) : decode code pc = .ok (.lshl, 1) := dk_of ((dk_bind (dk_u1 (h 0 _ rfl))).trans rfl)
theorem dk_122 {code : ByteArray} {pc : Nat} (h : DkAt code pc [122]) : decode code pc = .ok (.ishr, 1) := dk_of ((dk_bind (dk_u1 (h 0 _ rfl))).trans rfl)
theorem dk_124 {code : ByteArray} {pc : Nat} (h : DkAt code pc [124]) : decode code pc = .ok (.iushr, 1) := dk_of ((dk_bind (dk_u1 (h 0 _ rfl))).trans rfl)
theorem dk_125 {code : ByteArray} {pc : Nat} (h : DkAt code pc [125]) : decode code pc = .ok (.lushr, 1) := dk_of ((dk_bind (dk_u1 (h 0 _ rfl))).trans rfl)
theorem dk_126 {code : ByteArray} {pc : Nat} (h : DkAt code pc [126]) : decode code pc = .ok (.iand, 1) := dk_of ((dk_bind (dk_u1 (h 0 _ rfl))).trans rfl)
theorem dk_127 {code : ByteArray} {pc : Nat} (h : DkAt code pc [127]) : decode code pc = .ok (.land, 1) := dk_of ((dk_bind (dk_u1 (h 0 _ rfl))).trans rfl)
theorem dk_128 {code : ByteArray} {pc : Nat} (h : DkAt code pc [128]) : decode code pc = .ok (.ior, 1) := dk_of ((dk_bind (dk_u1 (h 0 _ rfl))).trans rfl)
theorem dk_129 {code : ByteArray} {pc : Nat} (h : DkAt code pc [129]) : decode code pc = .ok (.lor, 1) := dk_of ((dk_bind (dk_u1 (h 0 _ rfl))).trans rfl)
theorem dk_132 {code : ByteArray} {pc : Nat} (a b : UInt8) (h : DkAt code pc [132, a, b]) : decode code pc = .ok (.iinc a.toNat (Reader.signed 8 b.toNat), 3) := dk_of ((dk_bind (dk_u1 (h 0 _ rfl))).trans ((dk_bind (dk_u1 (h 1 _ rfl))).trans ((dk_bind (dk_map (dk_u1 (h 2 _ rfl)))).trans rfl)))
theorem dk_133 {code : ByteArray} {pc : Nat} (h : DkAt code pc [133]) : decode code pc = .ok (.i2l, 1) := dk_of ((dk_bind (dk_u1 (h 0 _ rfl))).trans rfl)
theorem dk_136 {code : ByteArray} {pc : Nat} (h : DkAt code pc [136]) : decode code pc = .ok (.l2i, 1) := dk_of ((dk_bind (dk_u1 (h 0 _ rfl))).trans rfl)
theorem dk_145 {code : ByteArray} {pc : Nat} (h : DkAt code pc [145]) : decode code pc = .ok (.i2b, 1) := dk_of ((dk_bind (dk_u1 (h 0 _ rfl))).trans rfl)
theorem dk_148 {code : ByteArray} {pc : Nat} (h : DkAt code pc [148]) : decode code pc = .ok (.lcmp, 1) := dk_of ((dk_bind (dk_u1 (h 0 _ rfl))).trans rfl)
theorem dk_153 {code : ByteArray} {pc : Nat} (a b : UInt8) (h : DkAt code pc [153, a, b]) : decode code pc = .ok (.ifCond .eq (Reader.signed 16 (a.toNat * 256 + b.toNat)), 3) := dk_of ((dk_bind (dk_u1 (h 0 _ rfl))).trans ((dk_bind (dk_map (dk_u2 (h 1 _ rfl) (h 2 _ rfl)))).trans rfl))
theorem dk_154 {code : ByteArray} {pc : Nat} (a b : UInt8) (h : DkAt code pc [154, a, b]) : decode code pc = .ok (.ifCond .ne (Reader.signed 16 (a.toNat * 256 + b.toNat)), 3) := dk_of ((dk_bind (dk_u1 (h 0 _ rfl))).trans ((dk_bind (dk_map (dk_u2 (h 1 _ rfl) (h 2 _ rfl)))).trans rfl))
theorem dk_155 {code : ByteArray} {pc : Nat} (a b : UInt8) (h : DkAt code pc [155, a, b]) : decode code pc = .ok (.ifCond .lt (Reader.signed 16 (a.toNat * 256 + b.toNat)), 3) := dk_of ((dk_bind (dk_u1 (h 0 _ rfl))).trans ((dk_bind (dk_map (dk_u2 (h 1 _ rfl) (h 2 _ rfl)))).trans rfl))
theorem dk_156 {code : ByteArray} {pc : Nat} (a b : UInt8) (h : DkAt code pc [156, a, b]) : decode code pc = .ok (.ifCond .ge (Reader.signed 16 (a.toNat * 256 + b.toNat)), 3) := dk_of ((dk_bind (dk_u1 (h 0 _ rfl))).trans ((dk_bind (dk_map (dk_u2 (h 1 _ rfl) (h 2 _ rfl)))).trans rfl))
theorem dk_158 {code : ByteArray} {pc : Nat} (a b : UInt8) (h : DkAt code pc [158, a, b]) : decode code pc = .ok (.ifCond .le (Reader.signed 16 (a.toNat * 256 + b.toNat)), 3) := dk_of ((dk_bind (dk_u1 (h 0 _ rfl))).trans ((dk_bind (dk_map (dk_u2 (h 1 _ rfl) (h 2 _ rfl)))).trans rfl))
theorem dk_159 {code : ByteArray} {pc : Nat} (a b : UInt8) (h : DkAt code pc [159, a, b]) : decode code pc = .ok (.if_icmp .eq (Reader.signed 16 (a.toNat * 256 + b.toNat)), 3) := dk_of ((dk_bind (dk_u1 (h 0 _ rfl))).trans ((dk_bind (dk_map (dk_u2 (h 1 _ rfl) (h 2 _ rfl)))).trans rfl))
theorem dk_161 {code : ByteArray} {pc : Nat} (a b : UInt8) (h : DkAt code pc [161, a, b]) : decode code pc = .ok (.if_icmp .lt (Reader.signed 16 (a.toNat * 256 + b.toNat)), 3) := dk_of ((dk_bind (dk_u1 (h 0 _ rfl))).trans ((dk_bind (dk_map (dk_u2 (h 1 _ rfl) (h 2 _ rfl)))).trans rfl))
theorem dk_162 {code : ByteArray} {pc : Nat} (a b : UInt8) (h : DkAt code pc [162, a, b]) : decode code pc = .ok (.if_icmp .ge (Reader.signed 16 (a.toNat * 256 + b.toNat)), 3) := dk_of ((dk_bind (dk_u1 (h 0 _ rfl))).trans ((dk_bind (dk_map (dk_u2 (h 1 _ rfl) (h 2 _ rfl)))).trans rfl))
theorem dk_163 {code : ByteArray} {pc : Nat} (a b : UInt8) (h : DkAt code pc [163, a, b]) : decode code pc = .ok (.if_icmp .gt (Reader.signed 16 (a.toNat * 256 + b.toNat)), 3) := dk_of ((dk_bind (dk_u1 (h 0 _ rfl))).trans ((dk_bind (dk_map (dk_u2 (h 1 _ rfl) (h 2 _ rfl)))).trans rfl))
theorem dk_164 {code : ByteArray} {pc : Nat} (a b : UInt8) (h : DkAt code pc [164, a, b]) : decode code pc = .ok (.if_icmp .le (Reader.signed 16 (a.toNat * 256 + b.toNat)), 3) := dk_of ((dk_bind (dk_u1 (h 0 _ rfl))).trans ((dk_bind (dk_map (dk_u2 (h 1 _ rfl) (h 2 _ rfl)))).trans rfl))
theorem dk_167 {code : ByteArray} {pc : Nat} (a b : UInt8) (h : DkAt code pc [167, a, b]) : decode code pc = .ok (.goto (Reader.signed 16 (a.toNat * 256 + b.toNat)), 3) := dk_of ((dk_bind (dk_u1 (h 0 _ rfl))).trans ((dk_bind (dk_map (dk_u2 (h 1 _ rfl) (h 2 _ rfl)))).trans rfl))
theorem dk_172 {code : ByteArray} {pc : Nat} (h : DkAt code pc [172]) : decode code pc = .ok (.ireturn, 1) := dk_of ((dk_bind (dk_u1 (h 0 _ rfl))).trans rfl)
theorem dk_173 {code : ByteArray} {pc : Nat} (h : DkAt code pc [173]) : decode code pc = .ok (.lreturn, 1) := dk_of ((dk_bind (dk_u1 (h 0 _ rfl))).trans rfl)
theorem dk_176 {code : ByteArray} {pc : Nat} (h : DkAt code pc [176]) : decode code pc = .ok (.areturn, 1) := dk_of ((dk_bind (dk_u1 (h 0 _ rfl))).trans rfl)
theorem dk_177 {code : ByteArray} {pc : Nat} (h : DkAt code pc [177]) : decode code pc = .ok (.return_, 1) := dk_of ((dk_bind (dk_u1 (h 0 _ rfl))).trans rfl)
theorem dk_180 {code : ByteArray} {pc : Nat} (a b : UInt8) (h : DkAt code pc [180, a, b]) : decode code pc = .ok (.getfield (a.toNat * 256 + b.toNat), 3) := dk_of ((dk_bind (dk_u1 (h 0 _ rfl))).trans ((dk_bind (dk_u2 (h 1 _ rfl) (h 2 _ rfl))).trans rfl))
theorem dk_181 {code : ByteArray} {pc : Nat} (a b : UInt8) (h : DkAt code pc [181, a, b]) : decode code pc = .ok (.putfield (a.toNat * 256 + b.toNat), 3) := dk_of ((dk_bind (dk_u1 (h 0 _ rfl))).trans ((dk_bind (dk_u2 (h 1 _ rfl) (h 2 _ rfl))).trans rfl))
theorem dk_182 {code : ByteArray} {pc : Nat} (a b : UInt8) (h : DkAt code pc [182, a, b]) : decode code pc = .ok (.invokevirtual (a.toNat * 256 + b.toNat), 3) := dk_of ((dk_bind (dk_u1 (h 0 _ rfl))).trans ((dk_bind (dk_u2 (h 1 _ rfl) (h 2 _ rfl))).trans rfl))
theorem dk_183 {code : ByteArray} {pc : Nat} (a b : UInt8) (h : DkAt code pc [183, a, b]) : decode code pc = .ok (.invokespecial (a.toNat * 256 + b.toNat), 3) := dk_of ((dk_bind (dk_u1 (h 0 _ rfl))).trans ((dk_bind (dk_u2 (h 1 _ rfl) (h 2 _ rfl))).trans rfl))
theorem dk_184 {code : ByteArray} {pc : Nat} (a b : UInt8) (h : DkAt code pc [184, a, b]) : decode code pc = .ok (.invokestatic (a.toNat * 256 + b.toNat), 3) := dk_of ((dk_bind (dk_u1 (h 0 _ rfl))).trans ((dk_bind (dk_u2 (h 1 _ rfl) (h 2 _ rfl))).trans rfl))
theorem dk_187 {code : ByteArray} {pc : Nat} (a b : UInt8) (h : DkAt code pc [187, a, b]) : decode code pc = .ok (.new (a.toNat * 256 + b.toNat), 3) := dk_of ((dk_bind (dk_u1 (h 0 _ rfl))).trans ((dk_bind (dk_u2 (h 1 _ rfl) (h 2 _ rfl))).trans rfl))
theorem dk_188_8 {code : ByteArray} {pc : Nat} (h : DkAt code pc [188, 8]) : decode code pc = .ok (.newarray .byte, 2) := dk_of ((dk_bind (dk_u1 (h 0 _ rfl))).trans ((dk_bind (dk_u1 (h 1 _ rfl))).trans rfl))
theorem dk_188_10 {code : ByteArray} {pc : Nat} (h : DkAt code pc [188, 10]) : decode code pc = .ok (.newarray .int, 2) := dk_of ((dk_bind (dk_u1 (h 0 _ rfl))).trans ((dk_bind (dk_u1 (h 1 _ rfl))).trans rfl))
theorem dk_190 {code : ByteArray} {pc : Nat} (h : DkAt code pc [190]) : decode code pc = .ok (.arraylength, 1) := dk_of ((dk_bind (dk_u1 (h 0 _ rfl))).trans rfl)
end
section
/-! OwnBuffer -/
set_option maxRecDepth 100000
def RX1 : String := "OwnBuffer"
def TX1 : u_T := fun k => match k with
  | 0 => ("OwnBuffer", "tmp", "[B", true)
  | 1 => ("OwnBuffer", "buffer", "[B", false)
  | 2 => ("OwnBuffer", "index", "I", false)
  | _ => ("OwnBuffer", "s", "I", false)
def tyX1 : Nat → FieldType := fun k => match k with
  | 0 => .array .byte
  | 1 => .array .byte
  | 2 => .int
  | _ => .int
abbrev wsX10 : List Cond := u_ws RX1 TX1 4
theorem nmX1 : ∀ a, a < 4 → ∀ b, b < 4 → a ≠ b → (TX1 a).2.1 ≠ (TX1 b).2.1 := by decide +kernel
theorem tyX1_ok : ∀ k, k < 4 → parseFieldDescriptor (TX1 k).2.2.1 = some (tyX1 k) := by decide +kernel
abbrev cX1_init : ByteArray := prog_1_method_1_code
def yX1_init : MethodName := ⟨RX1, "<init>", "(I)V"⟩
def dkwX1_init_1 : List UInt8 := [3, 181, 0, 20, 177]
abbrev dktX1_init_1 : List UInt8 := dkwX1_init_1 ++ []
def dkwX1_init_0 : List UInt8 := [42, 183, 0, 1, 42, 7, 188, 8, 181, 0, 7, 42, 27, 188, 8, 181, 0, 13, 42, 3, 181, 0, 16, 42]
abbrev dktX1_init_0 : List UInt8 := dkwX1_init_0 ++ dktX1_init_1
theorem dksX1_init_0 : cX1_init.data.toList.drop 0 = dktX1_init_0 := by decide +kernel
theorem dksX1_init_1 : cX1_init.data.toList.drop 24 = dktX1_init_1 := dk_seg dksX1_init_0 24 rfl rfl
theorem dX1_init_0 : decode cX1_init 0 = .ok (.aload_n 0, 1) := dk_42 (dk_at dksX1_init_0 0 rfl rfl)
theorem dX1_init_1 : decode cX1_init 1 = .ok (.invokespecial 1, 3) := dk_183 0 1 (dk_at dksX1_init_0 1 rfl rfl)
theorem dX1_init_4 : decode cX1_init 4 = .ok (.aload_n 0, 1) := dk_42 (dk_at dksX1_init_0 4 rfl rfl)
theorem dX1_init_5 : decode cX1_init 5 = .ok (.iconst 4, 1) := dk_7 (dk_at dksX1_init_0 5 rfl rfl)
theorem dX1_init_6 : decode cX1_init 6 = .ok (.newarray .byte, 2) := dk_188_8 (dk_at dksX1_init_0 6 rfl rfl)
theorem dX1_init_8 : decode cX1_init 8 = .ok (.putfield 7, 3) := dk_181 0 7 (dk_at dksX1_init_0 8 rfl rfl)
theorem dX1_init_11 : decode cX1_init 11 = .ok (.aload_n 0, 1) := dk_42 (dk_at dksX1_init_0 11 rfl rfl)
theorem dX1_init_12 : decode cX1_init 12 = .ok (.iload_n 1, 1) := dk_27 (dk_at dksX1_init_0 12 rfl rfl)
theorem dX1_init_13 : decode cX1_init 13 = .ok (.newarray .byte, 2) := dk_188_8 (dk_at dksX1_init_0 13 rfl rfl)
theorem dX1_init_15 : decode cX1_init 15 = .ok (.putfield 13, 3) := dk_181 0 13 (dk_at dksX1_init_0 15 rfl rfl)
theorem dX1_init_18 : decode cX1_init 18 = .ok (.aload_n 0, 1) := dk_42 (dk_at dksX1_init_0 18 rfl rfl)
theorem dX1_init_19 : decode cX1_init 19 = .ok (.iconst 0, 1) := dk_3 (dk_at dksX1_init_0 19 rfl rfl)
theorem dX1_init_20 : decode cX1_init 20 = .ok (.putfield 16, 3) := dk_181 0 16 (dk_at dksX1_init_0 20 rfl rfl)
theorem dX1_init_23 : decode cX1_init 23 = .ok (.aload_n 0, 1) := dk_42 (dk_at dksX1_init_0 23 rfl rfl)
theorem dX1_init_24 : decode cX1_init 24 = .ok (.iconst 0, 1) := dk_3 (dk_at dksX1_init_1 0 rfl rfl)
theorem dX1_init_25 : decode cX1_init 25 = .ok (.putfield 20, 3) := dk_181 0 20 (dk_at dksX1_init_1 1 rfl rfl)
theorem dX1_init_28 : decode cX1_init 28 = .ok (.return_, 1) := dk_177 (dk_at dksX1_init_1 4 rfl rfl)
abbrev cX1_putByte : ByteArray := prog_1_method_2_code
def yX1_putByte : MethodName := ⟨RX1, "putByte", "(B)V"⟩
def dkwX1_putByte_0 : List UInt8 := [42, 180, 0, 13, 42, 89, 180, 0, 16, 90, 4, 96, 181, 0, 16, 27, 84, 177]
abbrev dktX1_putByte_0 : List UInt8 := dkwX1_putByte_0 ++ []
theorem dksX1_putByte_0 : cX1_putByte.data.toList.drop 0 = dktX1_putByte_0 := by decide +kernel
theorem dX1_putByte_0 : decode cX1_putByte 0 = .ok (.aload_n 0, 1) := dk_42 (dk_at dksX1_putByte_0 0 rfl rfl)
theorem dX1_putByte_1 : decode cX1_putByte 1 = .ok (.getfield 13, 3) := dk_180 0 13 (dk_at dksX1_putByte_0 1 rfl rfl)
theorem dX1_putByte_4 : decode cX1_putByte 4 = .ok (.aload_n 0, 1) := dk_42 (dk_at dksX1_putByte_0 4 rfl rfl)
theorem dX1_putByte_5 : decode cX1_putByte 5 = .ok (.dup, 1) := dk_89 (dk_at dksX1_putByte_0 5 rfl rfl)
theorem dX1_putByte_6 : decode cX1_putByte 6 = .ok (.getfield 16, 3) := dk_180 0 16 (dk_at dksX1_putByte_0 6 rfl rfl)
theorem dX1_putByte_9 : decode cX1_putByte 9 = .ok (.dup_x1, 1) := dk_90 (dk_at dksX1_putByte_0 9 rfl rfl)
theorem dX1_putByte_10 : decode cX1_putByte 10 = .ok (.iconst 1, 1) := dk_4 (dk_at dksX1_putByte_0 10 rfl rfl)
theorem dX1_putByte_11 : decode cX1_putByte 11 = .ok (.iadd, 1) := dk_96 (dk_at dksX1_putByte_0 11 rfl rfl)
theorem dX1_putByte_12 : decode cX1_putByte 12 = .ok (.putfield 16, 3) := dk_181 0 16 (dk_at dksX1_putByte_0 12 rfl rfl)
theorem dX1_putByte_15 : decode cX1_putByte 15 = .ok (.iload_n 1, 1) := dk_27 (dk_at dksX1_putByte_0 15 rfl rfl)
theorem dX1_putByte_16 : decode cX1_putByte 16 = .ok (.bastore, 1) := dk_84 (dk_at dksX1_putByte_0 16 rfl rfl)
theorem dX1_putByte_17 : decode cX1_putByte 17 = .ok (.return_, 1) := dk_177 (dk_at dksX1_putByte_0 17 rfl rfl)
abbrev cX1_putInt : ByteArray := prog_1_method_7_code
def yX1_putInt : MethodName := ⟨RX1, "putInt", "(I)V"⟩
def dkwX1_putInt_2 : List UInt8 := [180, 0, 13, 42, 180, 0, 16, 7, 184, 0, 27, 42, 89, 180, 0, 16, 7, 96, 181, 0, 16, 177]
abbrev dktX1_putInt_2 : List UInt8 := dkwX1_putInt_2 ++ []
def dkwX1_putInt_1 : List UInt8 := [180, 0, 7, 5, 27, 16, 8, 124, 145, 84, 42, 180, 0, 7, 6, 27, 145, 84, 42, 180, 0, 7, 3, 42]
abbrev dktX1_putInt_1 : List UInt8 := dkwX1_putInt_1 ++ dktX1_putInt_2
def dkwX1_putInt_0 : List UInt8 := [42, 180, 0, 7, 3, 27, 16, 24, 124, 145, 84, 42, 180, 0, 7, 4, 27, 16, 16, 124, 145, 84, 42]
abbrev dktX1_putInt_0 : List UInt8 := dkwX1_putInt_0 ++ dktX1_putInt_1
theorem dksX1_putInt_0 : cX1_putInt.data.toList.drop 0 = dktX1_putInt_0 := by decide +kernel
theorem dksX1_putInt_1 : cX1_putInt.data.toList.drop 23 = dktX1_putInt_1 := dk_seg dksX1_putInt_0 23 rfl rfl
theorem dksX1_putInt_2 : cX1_putInt.data.toList.drop 47 = dktX1_putInt_2 := dk_seg dksX1_putInt_1 24 rfl rfl
theorem dX1_putInt_0 : decode cX1_putInt 0 = .ok (.aload_n 0, 1) := dk_42 (dk_at dksX1_putInt_0 0 rfl rfl)
theorem dX1_putInt_1 : decode cX1_putInt 1 = .ok (.getfield 7, 3) := dk_180 0 7 (dk_at dksX1_putInt_0 1 rfl rfl)
theorem dX1_putInt_4 : decode cX1_putInt 4 = .ok (.iconst 0, 1) := dk_3 (dk_at dksX1_putInt_0 4 rfl rfl)
theorem dX1_putInt_5 : decode cX1_putInt 5 = .ok (.iload_n 1, 1) := dk_27 (dk_at dksX1_putInt_0 5 rfl rfl)
theorem dX1_putInt_6 : decode cX1_putInt 6 = .ok (.bipush 24, 2) := dk_16 24 (dk_at dksX1_putInt_0 6 rfl rfl)
theorem dX1_putInt_8 : decode cX1_putInt 8 = .ok (.iushr, 1) := dk_124 (dk_at dksX1_putInt_0 8 rfl rfl)
theorem dX1_putInt_9 : decode cX1_putInt 9 = .ok (.i2b, 1) := dk_145 (dk_at dksX1_putInt_0 9 rfl rfl)
theorem dX1_putInt_10 : decode cX1_putInt 10 = .ok (.bastore, 1) := dk_84 (dk_at dksX1_putInt_0 10 rfl rfl)
theorem dX1_putInt_11 : decode cX1_putInt 11 = .ok (.aload_n 0, 1) := dk_42 (dk_at dksX1_putInt_0 11 rfl rfl)
theorem dX1_putInt_12 : decode cX1_putInt 12 = .ok (.getfield 7, 3) := dk_180 0 7 (dk_at dksX1_putInt_0 12 rfl rfl)
theorem dX1_putInt_15 : decode cX1_putInt 15 = .ok (.iconst 1, 1) := dk_4 (dk_at dksX1_putInt_0 15 rfl rfl)
theorem dX1_putInt_16 : decode cX1_putInt 16 = .ok (.iload_n 1, 1) := dk_27 (dk_at dksX1_putInt_0 16 rfl rfl)
theorem dX1_putInt_17 : decode cX1_putInt 17 = .ok (.bipush 16, 2) := dk_16 16 (dk_at dksX1_putInt_0 17 rfl rfl)
theorem dX1_putInt_19 : decode cX1_putInt 19 = .ok (.iushr, 1) := dk_124 (dk_at dksX1_putInt_0 19 rfl rfl)
theorem dX1_putInt_20 : decode cX1_putInt 20 = .ok (.i2b, 1) := dk_145 (dk_at dksX1_putInt_0 20 rfl rfl)
theorem dX1_putInt_21 : decode cX1_putInt 21 = .ok (.bastore, 1) := dk_84 (dk_at dksX1_putInt_0 21 rfl rfl)
theorem dX1_putInt_22 : decode cX1_putInt 22 = .ok (.aload_n 0, 1) := dk_42 (dk_at dksX1_putInt_0 22 rfl rfl)
theorem dX1_putInt_23 : decode cX1_putInt 23 = .ok (.getfield 7, 3) := dk_180 0 7 (dk_at dksX1_putInt_1 0 rfl rfl)
theorem dX1_putInt_26 : decode cX1_putInt 26 = .ok (.iconst 2, 1) := dk_5 (dk_at dksX1_putInt_1 3 rfl rfl)
theorem dX1_putInt_27 : decode cX1_putInt 27 = .ok (.iload_n 1, 1) := dk_27 (dk_at dksX1_putInt_1 4 rfl rfl)
theorem dX1_putInt_28 : decode cX1_putInt 28 = .ok (.bipush 8, 2) := dk_16 8 (dk_at dksX1_putInt_1 5 rfl rfl)
theorem dX1_putInt_30 : decode cX1_putInt 30 = .ok (.iushr, 1) := dk_124 (dk_at dksX1_putInt_1 7 rfl rfl)
theorem dX1_putInt_31 : decode cX1_putInt 31 = .ok (.i2b, 1) := dk_145 (dk_at dksX1_putInt_1 8 rfl rfl)
theorem dX1_putInt_32 : decode cX1_putInt 32 = .ok (.bastore, 1) := dk_84 (dk_at dksX1_putInt_1 9 rfl rfl)
theorem dX1_putInt_33 : decode cX1_putInt 33 = .ok (.aload_n 0, 1) := dk_42 (dk_at dksX1_putInt_1 10 rfl rfl)
theorem dX1_putInt_34 : decode cX1_putInt 34 = .ok (.getfield 7, 3) := dk_180 0 7 (dk_at dksX1_putInt_1 11 rfl rfl)
theorem dX1_putInt_37 : decode cX1_putInt 37 = .ok (.iconst 3, 1) := dk_6 (dk_at dksX1_putInt_1 14 rfl rfl)
theorem dX1_putInt_38 : decode cX1_putInt 38 = .ok (.iload_n 1, 1) := dk_27 (dk_at dksX1_putInt_1 15 rfl rfl)
theorem dX1_putInt_39 : decode cX1_putInt 39 = .ok (.i2b, 1) := dk_145 (dk_at dksX1_putInt_1 16 rfl rfl)
theorem dX1_putInt_40 : decode cX1_putInt 40 = .ok (.bastore, 1) := dk_84 (dk_at dksX1_putInt_1 17 rfl rfl)
theorem dX1_putInt_41 : decode cX1_putInt 41 = .ok (.aload_n 0, 1) := dk_42 (dk_at dksX1_putInt_1 18 rfl rfl)
theorem dX1_putInt_42 : decode cX1_putInt 42 = .ok (.getfield 7, 3) := dk_180 0 7 (dk_at dksX1_putInt_1 19 rfl rfl)
theorem dX1_putInt_45 : decode cX1_putInt 45 = .ok (.iconst 0, 1) := dk_3 (dk_at dksX1_putInt_1 22 rfl rfl)
theorem dX1_putInt_46 : decode cX1_putInt 46 = .ok (.aload_n 0, 1) := dk_42 (dk_at dksX1_putInt_1 23 rfl rfl)
theorem dX1_putInt_47 : decode cX1_putInt 47 = .ok (.getfield 13, 3) := dk_180 0 13 (dk_at dksX1_putInt_2 0 rfl rfl)
theorem dX1_putInt_50 : decode cX1_putInt 50 = .ok (.aload_n 0, 1) := dk_42 (dk_at dksX1_putInt_2 3 rfl rfl)
theorem dX1_putInt_51 : decode cX1_putInt 51 = .ok (.getfield 16, 3) := dk_180 0 16 (dk_at dksX1_putInt_2 4 rfl rfl)
theorem dX1_putInt_54 : decode cX1_putInt 54 = .ok (.iconst 4, 1) := dk_7 (dk_at dksX1_putInt_2 7 rfl rfl)
theorem dX1_putInt_55 : decode cX1_putInt 55 = .ok (.invokestatic 27, 3) := dk_184 0 27 (dk_at dksX1_putInt_2 8 rfl rfl)
theorem dX1_putInt_58 : decode cX1_putInt 58 = .ok (.aload_n 0, 1) := dk_42 (dk_at dksX1_putInt_2 11 rfl rfl)
theorem dX1_putInt_59 : decode cX1_putInt 59 = .ok (.dup, 1) := dk_89 (dk_at dksX1_putInt_2 12 rfl rfl)
theorem dX1_putInt_60 : decode cX1_putInt 60 = .ok (.getfield 16, 3) := dk_180 0 16 (dk_at dksX1_putInt_2 13 rfl rfl)
theorem dX1_putInt_63 : decode cX1_putInt 63 = .ok (.iconst 4, 1) := dk_7 (dk_at dksX1_putInt_2 16 rfl rfl)
theorem dX1_putInt_64 : decode cX1_putInt 64 = .ok (.iadd, 1) := dk_96 (dk_at dksX1_putInt_2 17 rfl rfl)
theorem dX1_putInt_65 : decode cX1_putInt 65 = .ok (.putfield 16, 3) := dk_181 0 16 (dk_at dksX1_putInt_2 18 rfl rfl)
theorem dX1_putInt_68 : decode cX1_putInt 68 = .ok (.return_, 1) := dk_177 (dk_at dksX1_putInt_2 21 rfl rfl)
abbrev cX1_putLong : ByteArray := prog_1_method_8_code
def yX1_putLong : MethodName := ⟨RX1, "putLong", "(J)V"⟩
def dkwX1_putLong_5 : List UInt8 := [42, 180, 0, 16, 7, 96, 7, 184, 0, 27, 42, 89, 180, 0, 16, 16, 8, 96, 181, 0, 16, 177]
abbrev dktX1_putLong_5 : List UInt8 := dkwX1_putLong_5 ++ []
def dkwX1_putLong_4 : List UInt8 := [16, 8, 125, 136, 145, 84, 42, 180, 0, 7, 6, 31, 136, 145, 84, 42, 180, 0, 7, 3, 42, 180, 0, 13]
abbrev dktX1_putLong_4 : List UInt8 := dkwX1_putLong_4 ++ dktX1_putLong_5
def dkwX1_putLong_3 : List UInt8 := [16, 24, 125, 136, 145, 84, 42, 180, 0, 7, 4, 31, 16, 16, 125, 136, 145, 84, 42, 180, 0, 7, 5, 31]
abbrev dktX1_putLong_3 : List UInt8 := dkwX1_putLong_3 ++ dktX1_putLong_4
def dkwX1_putLong_2 : List UInt8 := [42, 180, 0, 7, 3, 42, 180, 0, 13, 42, 180, 0, 16, 7, 184, 0, 27, 42, 180, 0, 7, 3, 31]
abbrev dktX1_putLong_2 : List UInt8 := dkwX1_putLong_2 ++ dktX1_putLong_3
def dkwX1_putLong_1 : List UInt8 := [42, 180, 0, 7, 5, 31, 16, 40, 125, 136, 145, 84, 42, 180, 0, 7, 6, 31, 16, 32, 125, 136, 145, 84]
abbrev dktX1_putLong_1 : List UInt8 := dkwX1_putLong_1 ++ dktX1_putLong_2
def dkwX1_putLong_0 : List UInt8 := [42, 180, 0, 7, 3, 31, 16, 56, 125, 136, 145, 84, 42, 180, 0, 7, 4, 31, 16, 48, 125, 136, 145, 84]
abbrev dktX1_putLong_0 : List UInt8 := dkwX1_putLong_0 ++ dktX1_putLong_1
theorem dksX1_putLong_0 : cX1_putLong.data.toList.drop 0 = dktX1_putLong_0 := by decide +kernel
theorem dksX1_putLong_1 : cX1_putLong.data.toList.drop 24 = dktX1_putLong_1 := dk_seg dksX1_putLong_0 24 rfl rfl
theorem dksX1_putLong_2 : cX1_putLong.data.toList.drop 48 = dktX1_putLong_2 := dk_seg dksX1_putLong_1 24 rfl rfl
theorem dksX1_putLong_3 : cX1_putLong.data.toList.drop 71 = dktX1_putLong_3 := dk_seg dksX1_putLong_2 23 rfl rfl
theorem dksX1_putLong_4 : cX1_putLong.data.toList.drop 95 = dktX1_putLong_4 := dk_seg dksX1_putLong_3 24 rfl rfl
theorem dksX1_putLong_5 : cX1_putLong.data.toList.drop 119 = dktX1_putLong_5 := dk_seg dksX1_putLong_4 24 rfl rfl
theorem dX1_putLong_0 : decode cX1_putLong 0 = .ok (.aload_n 0, 1) := dk_42 (dk_at dksX1_putLong_0 0 rfl rfl)
theorem dX1_putLong_1 : decode cX1_putLong 1 = .ok (.getfield 7, 3) := dk_180 0 7 (dk_at dksX1_putLong_0 1 rfl rfl)
theorem dX1_putLong_4 : decode cX1_putLong 4 = .ok (.iconst 0, 1) := dk_3 (dk_at dksX1_putLong_0 4 rfl rfl)
theorem dX1_putLong_5 : decode cX1_putLong 5 = .ok (.lload_n 1, 1) := dk_31 (dk_at dksX1_putLong_0 5 rfl rfl)
theorem dX1_putLong_6 : decode cX1_putLong 6 = .ok (.bipush 56, 2) := dk_16 56 (dk_at dksX1_putLong_0 6 rfl rfl)
theorem dX1_putLong_8 : decode cX1_putLong 8 = .ok (.lushr, 1) := dk_125 (dk_at dksX1_putLong_0 8 rfl rfl)
theorem dX1_putLong_9 : decode cX1_putLong 9 = .ok (.l2i, 1) := dk_136 (dk_at dksX1_putLong_0 9 rfl rfl)
theorem dX1_putLong_10 : decode cX1_putLong 10 = .ok (.i2b, 1) := dk_145 (dk_at dksX1_putLong_0 10 rfl rfl)
theorem dX1_putLong_11 : decode cX1_putLong 11 = .ok (.bastore, 1) := dk_84 (dk_at dksX1_putLong_0 11 rfl rfl)
theorem dX1_putLong_12 : decode cX1_putLong 12 = .ok (.aload_n 0, 1) := dk_42 (dk_at dksX1_putLong_0 12 rfl rfl)
theorem dX1_putLong_13 : decode cX1_putLong 13 = .ok (.getfield 7, 3) := dk_180 0 7 (dk_at dksX1_putLong_0 13 rfl rfl)
theorem dX1_putLong_16 : decode cX1_putLong 16 = .ok (.iconst 1, 1) := dk_4 (dk_at dksX1_putLong_0 16 rfl rfl)
theorem dX1_putLong_17 : decode cX1_putLong 17 = .ok (.lload_n 1, 1) := dk_31 (dk_at dksX1_putLong_0 17 rfl rfl)
theorem dX1_putLong_18 : decode cX1_putLong 18 = .ok (.bipush 48, 2) := dk_16 48 (dk_at dksX1_putLong_0 18 rfl rfl)
theorem dX1_putLong_20 : decode cX1_putLong 20 = .ok (.lushr, 1) := dk_125 (dk_at dksX1_putLong_0 20 rfl rfl)
theorem dX1_putLong_21 : decode cX1_putLong 21 = .ok (.l2i, 1) := dk_136 (dk_at dksX1_putLong_0 21 rfl rfl)
theorem dX1_putLong_22 : decode cX1_putLong 22 = .ok (.i2b, 1) := dk_145 (dk_at dksX1_putLong_0 22 rfl rfl)
theorem dX1_putLong_23 : decode cX1_putLong 23 = .ok (.bastore, 1) := dk_84 (dk_at dksX1_putLong_0 23 rfl rfl)
theorem dX1_putLong_24 : decode cX1_putLong 24 = .ok (.aload_n 0, 1) := dk_42 (dk_at dksX1_putLong_1 0 rfl rfl)
theorem dX1_putLong_25 : decode cX1_putLong 25 = .ok (.getfield 7, 3) := dk_180 0 7 (dk_at dksX1_putLong_1 1 rfl rfl)
theorem dX1_putLong_28 : decode cX1_putLong 28 = .ok (.iconst 2, 1) := dk_5 (dk_at dksX1_putLong_1 4 rfl rfl)
theorem dX1_putLong_29 : decode cX1_putLong 29 = .ok (.lload_n 1, 1) := dk_31 (dk_at dksX1_putLong_1 5 rfl rfl)
theorem dX1_putLong_30 : decode cX1_putLong 30 = .ok (.bipush 40, 2) := dk_16 40 (dk_at dksX1_putLong_1 6 rfl rfl)
theorem dX1_putLong_32 : decode cX1_putLong 32 = .ok (.lushr, 1) := dk_125 (dk_at dksX1_putLong_1 8 rfl rfl)
theorem dX1_putLong_33 : decode cX1_putLong 33 = .ok (.l2i, 1) := dk_136 (dk_at dksX1_putLong_1 9 rfl rfl)
theorem dX1_putLong_34 : decode cX1_putLong 34 = .ok (.i2b, 1) := dk_145 (dk_at dksX1_putLong_1 10 rfl rfl)
theorem dX1_putLong_35 : decode cX1_putLong 35 = .ok (.bastore, 1) := dk_84 (dk_at dksX1_putLong_1 11 rfl rfl)
theorem dX1_putLong_36 : decode cX1_putLong 36 = .ok (.aload_n 0, 1) := dk_42 (dk_at dksX1_putLong_1 12 rfl rfl)
theorem dX1_putLong_37 : decode cX1_putLong 37 = .ok (.getfield 7, 3) := dk_180 0 7 (dk_at dksX1_putLong_1 13 rfl rfl)
theorem dX1_putLong_40 : decode cX1_putLong 40 = .ok (.iconst 3, 1) := dk_6 (dk_at dksX1_putLong_1 16 rfl rfl)
theorem dX1_putLong_41 : decode cX1_putLong 41 = .ok (.lload_n 1, 1) := dk_31 (dk_at dksX1_putLong_1 17 rfl rfl)
theorem dX1_putLong_42 : decode cX1_putLong 42 = .ok (.bipush 32, 2) := dk_16 32 (dk_at dksX1_putLong_1 18 rfl rfl)
theorem dX1_putLong_44 : decode cX1_putLong 44 = .ok (.lushr, 1) := dk_125 (dk_at dksX1_putLong_1 20 rfl rfl)
theorem dX1_putLong_45 : decode cX1_putLong 45 = .ok (.l2i, 1) := dk_136 (dk_at dksX1_putLong_1 21 rfl rfl)
theorem dX1_putLong_46 : decode cX1_putLong 46 = .ok (.i2b, 1) := dk_145 (dk_at dksX1_putLong_1 22 rfl rfl)
theorem dX1_putLong_47 : decode cX1_putLong 47 = .ok (.bastore, 1) := dk_84 (dk_at dksX1_putLong_1 23 rfl rfl)
theorem dX1_putLong_48 : decode cX1_putLong 48 = .ok (.aload_n 0, 1) := dk_42 (dk_at dksX1_putLong_2 0 rfl rfl)
theorem dX1_putLong_49 : decode cX1_putLong 49 = .ok (.getfield 7, 3) := dk_180 0 7 (dk_at dksX1_putLong_2 1 rfl rfl)
theorem dX1_putLong_52 : decode cX1_putLong 52 = .ok (.iconst 0, 1) := dk_3 (dk_at dksX1_putLong_2 4 rfl rfl)
theorem dX1_putLong_53 : decode cX1_putLong 53 = .ok (.aload_n 0, 1) := dk_42 (dk_at dksX1_putLong_2 5 rfl rfl)
theorem dX1_putLong_54 : decode cX1_putLong 54 = .ok (.getfield 13, 3) := dk_180 0 13 (dk_at dksX1_putLong_2 6 rfl rfl)
theorem dX1_putLong_57 : decode cX1_putLong 57 = .ok (.aload_n 0, 1) := dk_42 (dk_at dksX1_putLong_2 9 rfl rfl)
theorem dX1_putLong_58 : decode cX1_putLong 58 = .ok (.getfield 16, 3) := dk_180 0 16 (dk_at dksX1_putLong_2 10 rfl rfl)
theorem dX1_putLong_61 : decode cX1_putLong 61 = .ok (.iconst 4, 1) := dk_7 (dk_at dksX1_putLong_2 13 rfl rfl)
theorem dX1_putLong_62 : decode cX1_putLong 62 = .ok (.invokestatic 27, 3) := dk_184 0 27 (dk_at dksX1_putLong_2 14 rfl rfl)
theorem dX1_putLong_65 : decode cX1_putLong 65 = .ok (.aload_n 0, 1) := dk_42 (dk_at dksX1_putLong_2 17 rfl rfl)
theorem dX1_putLong_66 : decode cX1_putLong 66 = .ok (.getfield 7, 3) := dk_180 0 7 (dk_at dksX1_putLong_2 18 rfl rfl)
theorem dX1_putLong_69 : decode cX1_putLong 69 = .ok (.iconst 0, 1) := dk_3 (dk_at dksX1_putLong_2 21 rfl rfl)
theorem dX1_putLong_70 : decode cX1_putLong 70 = .ok (.lload_n 1, 1) := dk_31 (dk_at dksX1_putLong_2 22 rfl rfl)
theorem dX1_putLong_71 : decode cX1_putLong 71 = .ok (.bipush 24, 2) := dk_16 24 (dk_at dksX1_putLong_3 0 rfl rfl)
theorem dX1_putLong_73 : decode cX1_putLong 73 = .ok (.lushr, 1) := dk_125 (dk_at dksX1_putLong_3 2 rfl rfl)
theorem dX1_putLong_74 : decode cX1_putLong 74 = .ok (.l2i, 1) := dk_136 (dk_at dksX1_putLong_3 3 rfl rfl)
theorem dX1_putLong_75 : decode cX1_putLong 75 = .ok (.i2b, 1) := dk_145 (dk_at dksX1_putLong_3 4 rfl rfl)
theorem dX1_putLong_76 : decode cX1_putLong 76 = .ok (.bastore, 1) := dk_84 (dk_at dksX1_putLong_3 5 rfl rfl)
theorem dX1_putLong_77 : decode cX1_putLong 77 = .ok (.aload_n 0, 1) := dk_42 (dk_at dksX1_putLong_3 6 rfl rfl)
theorem dX1_putLong_78 : decode cX1_putLong 78 = .ok (.getfield 7, 3) := dk_180 0 7 (dk_at dksX1_putLong_3 7 rfl rfl)
theorem dX1_putLong_81 : decode cX1_putLong 81 = .ok (.iconst 1, 1) := dk_4 (dk_at dksX1_putLong_3 10 rfl rfl)
theorem dX1_putLong_82 : decode cX1_putLong 82 = .ok (.lload_n 1, 1) := dk_31 (dk_at dksX1_putLong_3 11 rfl rfl)
theorem dX1_putLong_83 : decode cX1_putLong 83 = .ok (.bipush 16, 2) := dk_16 16 (dk_at dksX1_putLong_3 12 rfl rfl)
theorem dX1_putLong_85 : decode cX1_putLong 85 = .ok (.lushr, 1) := dk_125 (dk_at dksX1_putLong_3 14 rfl rfl)
theorem dX1_putLong_86 : decode cX1_putLong 86 = .ok (.l2i, 1) := dk_136 (dk_at dksX1_putLong_3 15 rfl rfl)
theorem dX1_putLong_87 : decode cX1_putLong 87 = .ok (.i2b, 1) := dk_145 (dk_at dksX1_putLong_3 16 rfl rfl)
theorem dX1_putLong_88 : decode cX1_putLong 88 = .ok (.bastore, 1) := dk_84 (dk_at dksX1_putLong_3 17 rfl rfl)
theorem dX1_putLong_89 : decode cX1_putLong 89 = .ok (.aload_n 0, 1) := dk_42 (dk_at dksX1_putLong_3 18 rfl rfl)
theorem dX1_putLong_90 : decode cX1_putLong 90 = .ok (.getfield 7, 3) := dk_180 0 7 (dk_at dksX1_putLong_3 19 rfl rfl)
theorem dX1_putLong_93 : decode cX1_putLong 93 = .ok (.iconst 2, 1) := dk_5 (dk_at dksX1_putLong_3 22 rfl rfl)
theorem dX1_putLong_94 : decode cX1_putLong 94 = .ok (.lload_n 1, 1) := dk_31 (dk_at dksX1_putLong_3 23 rfl rfl)
theorem dX1_putLong_95 : decode cX1_putLong 95 = .ok (.bipush 8, 2) := dk_16 8 (dk_at dksX1_putLong_4 0 rfl rfl)
theorem dX1_putLong_97 : decode cX1_putLong 97 = .ok (.lushr, 1) := dk_125 (dk_at dksX1_putLong_4 2 rfl rfl)
theorem dX1_putLong_98 : decode cX1_putLong 98 = .ok (.l2i, 1) := dk_136 (dk_at dksX1_putLong_4 3 rfl rfl)
theorem dX1_putLong_99 : decode cX1_putLong 99 = .ok (.i2b, 1) := dk_145 (dk_at dksX1_putLong_4 4 rfl rfl)
theorem dX1_putLong_100 : decode cX1_putLong 100 = .ok (.bastore, 1) := dk_84 (dk_at dksX1_putLong_4 5 rfl rfl)
theorem dX1_putLong_101 : decode cX1_putLong 101 = .ok (.aload_n 0, 1) := dk_42 (dk_at dksX1_putLong_4 6 rfl rfl)
theorem dX1_putLong_102 : decode cX1_putLong 102 = .ok (.getfield 7, 3) := dk_180 0 7 (dk_at dksX1_putLong_4 7 rfl rfl)
theorem dX1_putLong_105 : decode cX1_putLong 105 = .ok (.iconst 3, 1) := dk_6 (dk_at dksX1_putLong_4 10 rfl rfl)
theorem dX1_putLong_106 : decode cX1_putLong 106 = .ok (.lload_n 1, 1) := dk_31 (dk_at dksX1_putLong_4 11 rfl rfl)
theorem dX1_putLong_107 : decode cX1_putLong 107 = .ok (.l2i, 1) := dk_136 (dk_at dksX1_putLong_4 12 rfl rfl)
theorem dX1_putLong_108 : decode cX1_putLong 108 = .ok (.i2b, 1) := dk_145 (dk_at dksX1_putLong_4 13 rfl rfl)
theorem dX1_putLong_109 : decode cX1_putLong 109 = .ok (.bastore, 1) := dk_84 (dk_at dksX1_putLong_4 14 rfl rfl)
theorem dX1_putLong_110 : decode cX1_putLong 110 = .ok (.aload_n 0, 1) := dk_42 (dk_at dksX1_putLong_4 15 rfl rfl)
theorem dX1_putLong_111 : decode cX1_putLong 111 = .ok (.getfield 7, 3) := dk_180 0 7 (dk_at dksX1_putLong_4 16 rfl rfl)
theorem dX1_putLong_114 : decode cX1_putLong 114 = .ok (.iconst 0, 1) := dk_3 (dk_at dksX1_putLong_4 19 rfl rfl)
theorem dX1_putLong_115 : decode cX1_putLong 115 = .ok (.aload_n 0, 1) := dk_42 (dk_at dksX1_putLong_4 20 rfl rfl)
theorem dX1_putLong_116 : decode cX1_putLong 116 = .ok (.getfield 13, 3) := dk_180 0 13 (dk_at dksX1_putLong_4 21 rfl rfl)
theorem dX1_putLong_119 : decode cX1_putLong 119 = .ok (.aload_n 0, 1) := dk_42 (dk_at dksX1_putLong_5 0 rfl rfl)
theorem dX1_putLong_120 : decode cX1_putLong 120 = .ok (.getfield 16, 3) := dk_180 0 16 (dk_at dksX1_putLong_5 1 rfl rfl)
theorem dX1_putLong_123 : decode cX1_putLong 123 = .ok (.iconst 4, 1) := dk_7 (dk_at dksX1_putLong_5 4 rfl rfl)
theorem dX1_putLong_124 : decode cX1_putLong 124 = .ok (.iadd, 1) := dk_96 (dk_at dksX1_putLong_5 5 rfl rfl)
theorem dX1_putLong_125 : decode cX1_putLong 125 = .ok (.iconst 4, 1) := dk_7 (dk_at dksX1_putLong_5 6 rfl rfl)
theorem dX1_putLong_126 : decode cX1_putLong 126 = .ok (.invokestatic 27, 3) := dk_184 0 27 (dk_at dksX1_putLong_5 7 rfl rfl)
theorem dX1_putLong_129 : decode cX1_putLong 129 = .ok (.aload_n 0, 1) := dk_42 (dk_at dksX1_putLong_5 10 rfl rfl)
theorem dX1_putLong_130 : decode cX1_putLong 130 = .ok (.dup, 1) := dk_89 (dk_at dksX1_putLong_5 11 rfl rfl)
theorem dX1_putLong_131 : decode cX1_putLong 131 = .ok (.getfield 16, 3) := dk_180 0 16 (dk_at dksX1_putLong_5 12 rfl rfl)
theorem dX1_putLong_134 : decode cX1_putLong 134 = .ok (.bipush 8, 2) := dk_16 8 (dk_at dksX1_putLong_5 15 rfl rfl)
theorem dX1_putLong_136 : decode cX1_putLong 136 = .ok (.iadd, 1) := dk_96 (dk_at dksX1_putLong_5 17 rfl rfl)
theorem dX1_putLong_137 : decode cX1_putLong 137 = .ok (.putfield 16, 3) := dk_181 0 16 (dk_at dksX1_putLong_5 18 rfl rfl)
theorem dX1_putLong_140 : decode cX1_putLong 140 = .ok (.return_, 1) := dk_177 (dk_at dksX1_putLong_5 21 rfl rfl)
abbrev cX1_putString : ByteArray := prog_1_method_5_code
def yX1_putString : MethodName := ⟨RX1, "putString", "([B)V"⟩
def dkwX1_putString_0 : List UInt8 := [42, 43, 3, 43, 190, 182, 0, 33, 177]
abbrev dktX1_putString_0 : List UInt8 := dkwX1_putString_0 ++ []
theorem dksX1_putString_0 : cX1_putString.data.toList.drop 0 = dktX1_putString_0 := by decide +kernel
theorem dX1_putString_0 : decode cX1_putString 0 = .ok (.aload_n 0, 1) := dk_42 (dk_at dksX1_putString_0 0 rfl rfl)
theorem dX1_putString_1 : decode cX1_putString 1 = .ok (.aload_n 1, 1) := dk_43 (dk_at dksX1_putString_0 1 rfl rfl)
theorem dX1_putString_2 : decode cX1_putString 2 = .ok (.iconst 0, 1) := dk_3 (dk_at dksX1_putString_0 2 rfl rfl)
theorem dX1_putString_3 : decode cX1_putString 3 = .ok (.aload_n 1, 1) := dk_43 (dk_at dksX1_putString_0 3 rfl rfl)
theorem dX1_putString_4 : decode cX1_putString 4 = .ok (.arraylength, 1) := dk_190 (dk_at dksX1_putString_0 4 rfl rfl)
theorem dX1_putString_5 : decode cX1_putString 5 = .ok (.invokevirtual 33, 3) := dk_182 0 33 (dk_at dksX1_putString_0 5 rfl rfl)
theorem dX1_putString_8 : decode cX1_putString 8 = .ok (.return_, 1) := dk_177 (dk_at dksX1_putString_0 8 rfl rfl)
abbrev cX1_putString_2 : ByteArray := prog_1_method_6_code
def yX1_putString_2 : MethodName := ⟨RX1, "putString", "([BII)V"⟩
def dkwX1_putString_2_0 : List UInt8 := [42, 29, 182, 0, 36, 42, 43, 28, 29, 182, 0, 23, 177]
abbrev dktX1_putString_2_0 : List UInt8 := dkwX1_putString_2_0 ++ []
theorem dksX1_putString_2_0 : cX1_putString_2.data.toList.drop 0 = dktX1_putString_2_0 := by decide +kernel
theorem dX1_putString_2_0 : decode cX1_putString_2 0 = .ok (.aload_n 0, 1) := dk_42 (dk_at dksX1_putString_2_0 0 rfl rfl)
theorem dX1_putString_2_1 : decode cX1_putString_2 1 = .ok (.iload_n 3, 1) := dk_29 (dk_at dksX1_putString_2_0 1 rfl rfl)
theorem dX1_putString_2_2 : decode cX1_putString_2 2 = .ok (.invokevirtual 36, 3) := dk_182 0 36 (dk_at dksX1_putString_2_0 2 rfl rfl)
theorem dX1_putString_2_5 : decode cX1_putString_2 5 = .ok (.aload_n 0, 1) := dk_42 (dk_at dksX1_putString_2_0 5 rfl rfl)
theorem dX1_putString_2_6 : decode cX1_putString_2 6 = .ok (.aload_n 1, 1) := dk_43 (dk_at dksX1_putString_2_0 6 rfl rfl)
theorem dX1_putString_2_7 : decode cX1_putString_2 7 = .ok (.iload_n 2, 1) := dk_28 (dk_at dksX1_putString_2_0 7 rfl rfl)
theorem dX1_putString_2_8 : decode cX1_putString_2 8 = .ok (.iload_n 3, 1) := dk_29 (dk_at dksX1_putString_2_0 8 rfl rfl)
theorem dX1_putString_2_9 : decode cX1_putString_2 9 = .ok (.invokevirtual 23, 3) := dk_182 0 23 (dk_at dksX1_putString_2_0 9 rfl rfl)
theorem dX1_putString_2_12 : decode cX1_putString_2 12 = .ok (.return_, 1) := dk_177 (dk_at dksX1_putString_2_0 12 rfl rfl)
abbrev cX1_putByte_2 : ByteArray := prog_1_method_4_code
def yX1_putByte_2 : MethodName := ⟨RX1, "putByte", "([BII)V"⟩
def dkwX1_putByte_2_1 : List UInt8 := [177]
abbrev dktX1_putByte_2_1 : List UInt8 := dkwX1_putByte_2_1 ++ []
def dkwX1_putByte_2_0 : List UInt8 := [43, 28, 42, 180, 0, 13, 42, 180, 0, 16, 29, 184, 0, 27, 42, 89, 180, 0, 16, 29, 96, 181, 0, 16]
abbrev dktX1_putByte_2_0 : List UInt8 := dkwX1_putByte_2_0 ++ dktX1_putByte_2_1
theorem dksX1_putByte_2_0 : cX1_putByte_2.data.toList.drop 0 = dktX1_putByte_2_0 := by decide +kernel
theorem dksX1_putByte_2_1 : cX1_putByte_2.data.toList.drop 24 = dktX1_putByte_2_1 := dk_seg dksX1_putByte_2_0 24 rfl rfl
theorem dX1_putByte_2_0 : decode cX1_putByte_2 0 = .ok (.aload_n 1, 1) := dk_43 (dk_at dksX1_putByte_2_0 0 rfl rfl)
theorem dX1_putByte_2_1 : decode cX1_putByte_2 1 = .ok (.iload_n 2, 1) := dk_28 (dk_at dksX1_putByte_2_0 1 rfl rfl)
theorem dX1_putByte_2_2 : decode cX1_putByte_2 2 = .ok (.aload_n 0, 1) := dk_42 (dk_at dksX1_putByte_2_0 2 rfl rfl)
theorem dX1_putByte_2_3 : decode cX1_putByte_2 3 = .ok (.getfield 13, 3) := dk_180 0 13 (dk_at dksX1_putByte_2_0 3 rfl rfl)
theorem dX1_putByte_2_6 : decode cX1_putByte_2 6 = .ok (.aload_n 0, 1) := dk_42 (dk_at dksX1_putByte_2_0 6 rfl rfl)
theorem dX1_putByte_2_7 : decode cX1_putByte_2 7 = .ok (.getfield 16, 3) := dk_180 0 16 (dk_at dksX1_putByte_2_0 7 rfl rfl)
theorem dX1_putByte_2_10 : decode cX1_putByte_2 10 = .ok (.iload_n 3, 1) := dk_29 (dk_at dksX1_putByte_2_0 10 rfl rfl)
theorem dX1_putByte_2_11 : decode cX1_putByte_2 11 = .ok (.invokestatic 27, 3) := dk_184 0 27 (dk_at dksX1_putByte_2_0 11 rfl rfl)
theorem dX1_putByte_2_14 : decode cX1_putByte_2 14 = .ok (.aload_n 0, 1) := dk_42 (dk_at dksX1_putByte_2_0 14 rfl rfl)
theorem dX1_putByte_2_15 : decode cX1_putByte_2 15 = .ok (.dup, 1) := dk_89 (dk_at dksX1_putByte_2_0 15 rfl rfl)
theorem dX1_putByte_2_16 : decode cX1_putByte_2 16 = .ok (.getfield 16, 3) := dk_180 0 16 (dk_at dksX1_putByte_2_0 16 rfl rfl)
theorem dX1_putByte_2_19 : decode cX1_putByte_2 19 = .ok (.iload_n 3, 1) := dk_29 (dk_at dksX1_putByte_2_0 19 rfl rfl)
theorem dX1_putByte_2_20 : decode cX1_putByte_2 20 = .ok (.iadd, 1) := dk_96 (dk_at dksX1_putByte_2_0 20 rfl rfl)
theorem dX1_putByte_2_21 : decode cX1_putByte_2 21 = .ok (.putfield 16, 3) := dk_181 0 16 (dk_at dksX1_putByte_2_0 21 rfl rfl)
theorem dX1_putByte_2_24 : decode cX1_putByte_2 24 = .ok (.return_, 1) := dk_177 (dk_at dksX1_putByte_2_1 0 rfl rfl)
abbrev cX1_putMPInt : ByteArray := prog_1_method_9_code
def yX1_putMPInt : MethodName := ⟨RX1, "putMPInt", "([B)V"⟩
def dkwX1_putMPInt_1 : List UInt8 := [182, 0, 40, 167, 0, 8, 42, 28, 182, 0, 36, 42, 43, 182, 0, 43, 177]
abbrev dktX1_putMPInt_1 : List UInt8 := dkwX1_putMPInt_1 ++ []
def dkwX1_putMPInt_0 : List UInt8 := [43, 190, 61, 43, 3, 51, 17, 0, 128, 126, 153, 0, 19, 132, 2, 1, 42, 28, 182, 0, 36, 42, 3]
abbrev dktX1_putMPInt_0 : List UInt8 := dkwX1_putMPInt_0 ++ dktX1_putMPInt_1
theorem dksX1_putMPInt_0 : cX1_putMPInt.data.toList.drop 0 = dktX1_putMPInt_0 := by decide +kernel
theorem dksX1_putMPInt_1 : cX1_putMPInt.data.toList.drop 23 = dktX1_putMPInt_1 := dk_seg dksX1_putMPInt_0 23 rfl rfl
theorem dX1_putMPInt_0 : decode cX1_putMPInt 0 = .ok (.aload_n 1, 1) := dk_43 (dk_at dksX1_putMPInt_0 0 rfl rfl)
theorem dX1_putMPInt_1 : decode cX1_putMPInt 1 = .ok (.arraylength, 1) := dk_190 (dk_at dksX1_putMPInt_0 1 rfl rfl)
theorem dX1_putMPInt_2 : decode cX1_putMPInt 2 = .ok (.istore_n 2, 1) := dk_61 (dk_at dksX1_putMPInt_0 2 rfl rfl)
theorem dX1_putMPInt_3 : decode cX1_putMPInt 3 = .ok (.aload_n 1, 1) := dk_43 (dk_at dksX1_putMPInt_0 3 rfl rfl)
theorem dX1_putMPInt_4 : decode cX1_putMPInt 4 = .ok (.iconst 0, 1) := dk_3 (dk_at dksX1_putMPInt_0 4 rfl rfl)
theorem dX1_putMPInt_5 : decode cX1_putMPInt 5 = .ok (.baload, 1) := dk_51 (dk_at dksX1_putMPInt_0 5 rfl rfl)
theorem dX1_putMPInt_6 : decode cX1_putMPInt 6 = .ok (.sipush 128, 3) := dk_17 0 128 (dk_at dksX1_putMPInt_0 6 rfl rfl)
theorem dX1_putMPInt_9 : decode cX1_putMPInt 9 = .ok (.iand, 1) := dk_126 (dk_at dksX1_putMPInt_0 9 rfl rfl)
theorem dX1_putMPInt_10 : decode cX1_putMPInt 10 = .ok (.ifCond .eq 19, 3) := dk_153 0 19 (dk_at dksX1_putMPInt_0 10 rfl rfl)
theorem dX1_putMPInt_13 : decode cX1_putMPInt 13 = .ok (.iinc 2 1, 3) := dk_132 2 1 (dk_at dksX1_putMPInt_0 13 rfl rfl)
theorem dX1_putMPInt_16 : decode cX1_putMPInt 16 = .ok (.aload_n 0, 1) := dk_42 (dk_at dksX1_putMPInt_0 16 rfl rfl)
theorem dX1_putMPInt_17 : decode cX1_putMPInt 17 = .ok (.iload_n 2, 1) := dk_28 (dk_at dksX1_putMPInt_0 17 rfl rfl)
theorem dX1_putMPInt_18 : decode cX1_putMPInt 18 = .ok (.invokevirtual 36, 3) := dk_182 0 36 (dk_at dksX1_putMPInt_0 18 rfl rfl)
theorem dX1_putMPInt_21 : decode cX1_putMPInt 21 = .ok (.aload_n 0, 1) := dk_42 (dk_at dksX1_putMPInt_0 21 rfl rfl)
theorem dX1_putMPInt_22 : decode cX1_putMPInt 22 = .ok (.iconst 0, 1) := dk_3 (dk_at dksX1_putMPInt_0 22 rfl rfl)
theorem dX1_putMPInt_23 : decode cX1_putMPInt 23 = .ok (.invokevirtual 40, 3) := dk_182 0 40 (dk_at dksX1_putMPInt_1 0 rfl rfl)
theorem dX1_putMPInt_26 : decode cX1_putMPInt 26 = .ok (.goto 8, 3) := dk_167 0 8 (dk_at dksX1_putMPInt_1 3 rfl rfl)
theorem dX1_putMPInt_29 : decode cX1_putMPInt 29 = .ok (.aload_n 0, 1) := dk_42 (dk_at dksX1_putMPInt_1 6 rfl rfl)
theorem dX1_putMPInt_30 : decode cX1_putMPInt 30 = .ok (.iload_n 2, 1) := dk_28 (dk_at dksX1_putMPInt_1 7 rfl rfl)
theorem dX1_putMPInt_31 : decode cX1_putMPInt 31 = .ok (.invokevirtual 36, 3) := dk_182 0 36 (dk_at dksX1_putMPInt_1 8 rfl rfl)
theorem dX1_putMPInt_34 : decode cX1_putMPInt 34 = .ok (.aload_n 0, 1) := dk_42 (dk_at dksX1_putMPInt_1 11 rfl rfl)
theorem dX1_putMPInt_35 : decode cX1_putMPInt 35 = .ok (.aload_n 1, 1) := dk_43 (dk_at dksX1_putMPInt_1 12 rfl rfl)
theorem dX1_putMPInt_36 : decode cX1_putMPInt 36 = .ok (.invokevirtual 43, 3) := dk_182 0 43 (dk_at dksX1_putMPInt_1 13 rfl rfl)
theorem dX1_putMPInt_39 : decode cX1_putMPInt 39 = .ok (.return_, 1) := dk_177 (dk_at dksX1_putMPInt_1 16 rfl rfl)
abbrev cX1_putByte_3 : ByteArray := prog_1_method_3_code
def yX1_putByte_3 : MethodName := ⟨RX1, "putByte", "([B)V"⟩
def dkwX1_putByte_3_0 : List UInt8 := [42, 43, 3, 43, 190, 182, 0, 23, 177]
abbrev dktX1_putByte_3_0 : List UInt8 := dkwX1_putByte_3_0 ++ []
theorem dksX1_putByte_3_0 : cX1_putByte_3.data.toList.drop 0 = dktX1_putByte_3_0 := by decide +kernel
theorem dX1_putByte_3_0 : decode cX1_putByte_3 0 = .ok (.aload_n 0, 1) := dk_42 (dk_at dksX1_putByte_3_0 0 rfl rfl)
theorem dX1_putByte_3_1 : decode cX1_putByte_3 1 = .ok (.aload_n 1, 1) := dk_43 (dk_at dksX1_putByte_3_0 1 rfl rfl)
theorem dX1_putByte_3_2 : decode cX1_putByte_3 2 = .ok (.iconst 0, 1) := dk_3 (dk_at dksX1_putByte_3_0 2 rfl rfl)
theorem dX1_putByte_3_3 : decode cX1_putByte_3 3 = .ok (.aload_n 1, 1) := dk_43 (dk_at dksX1_putByte_3_0 3 rfl rfl)
theorem dX1_putByte_3_4 : decode cX1_putByte_3 4 = .ok (.arraylength, 1) := dk_190 (dk_at dksX1_putByte_3_0 4 rfl rfl)
theorem dX1_putByte_3_5 : decode cX1_putByte_3 5 = .ok (.invokevirtual 23, 3) := dk_182 0 23 (dk_at dksX1_putByte_3_0 5 rfl rfl)
theorem dX1_putByte_3_8 : decode cX1_putByte_3 8 = .ok (.return_, 1) := dk_177 (dk_at dksX1_putByte_3_0 8 rfl rfl)
abbrev cX1_getLength : ByteArray := prog_1_method_10_code
def yX1_getLength : MethodName := ⟨RX1, "getLength", "()I"⟩
def dkwX1_getLength_0 : List UInt8 := [42, 180, 0, 16, 42, 180, 0, 20, 100, 172]
abbrev dktX1_getLength_0 : List UInt8 := dkwX1_getLength_0 ++ []
theorem dksX1_getLength_0 : cX1_getLength.data.toList.drop 0 = dktX1_getLength_0 := by decide +kernel
theorem dX1_getLength_0 : decode cX1_getLength 0 = .ok (.aload_n 0, 1) := dk_42 (dk_at dksX1_getLength_0 0 rfl rfl)
theorem dX1_getLength_1 : decode cX1_getLength 1 = .ok (.getfield 16, 3) := dk_180 0 16 (dk_at dksX1_getLength_0 1 rfl rfl)
theorem dX1_getLength_4 : decode cX1_getLength 4 = .ok (.aload_n 0, 1) := dk_42 (dk_at dksX1_getLength_0 4 rfl rfl)
theorem dX1_getLength_5 : decode cX1_getLength 5 = .ok (.getfield 20, 3) := dk_180 0 20 (dk_at dksX1_getLength_0 5 rfl rfl)
theorem dX1_getLength_8 : decode cX1_getLength 8 = .ok (.isub, 1) := dk_100 (dk_at dksX1_getLength_0 8 rfl rfl)
theorem dX1_getLength_9 : decode cX1_getLength 9 = .ok (.ireturn, 1) := dk_172 (dk_at dksX1_getLength_0 9 rfl rfl)
abbrev cX1_getByte : ByteArray := prog_1_method_16_code
def yX1_getByte : MethodName := ⟨RX1, "getByte", "()I"⟩
def dkwX1_getByte_0 : List UInt8 := [42, 180, 0, 13, 42, 89, 180, 0, 20, 90, 4, 96, 181, 0, 20, 51, 17, 0, 255, 126, 172]
abbrev dktX1_getByte_0 : List UInt8 := dkwX1_getByte_0 ++ []
theorem dksX1_getByte_0 : cX1_getByte.data.toList.drop 0 = dktX1_getByte_0 := by decide +kernel
theorem dX1_getByte_0 : decode cX1_getByte 0 = .ok (.aload_n 0, 1) := dk_42 (dk_at dksX1_getByte_0 0 rfl rfl)
theorem dX1_getByte_1 : decode cX1_getByte 1 = .ok (.getfield 13, 3) := dk_180 0 13 (dk_at dksX1_getByte_0 1 rfl rfl)
theorem dX1_getByte_4 : decode cX1_getByte 4 = .ok (.aload_n 0, 1) := dk_42 (dk_at dksX1_getByte_0 4 rfl rfl)
theorem dX1_getByte_5 : decode cX1_getByte 5 = .ok (.dup, 1) := dk_89 (dk_at dksX1_getByte_0 5 rfl rfl)
theorem dX1_getByte_6 : decode cX1_getByte 6 = .ok (.getfield 20, 3) := dk_180 0 20 (dk_at dksX1_getByte_0 6 rfl rfl)
theorem dX1_getByte_9 : decode cX1_getByte 9 = .ok (.dup_x1, 1) := dk_90 (dk_at dksX1_getByte_0 9 rfl rfl)
theorem dX1_getByte_10 : decode cX1_getByte 10 = .ok (.iconst 1, 1) := dk_4 (dk_at dksX1_getByte_0 10 rfl rfl)
theorem dX1_getByte_11 : decode cX1_getByte 11 = .ok (.iadd, 1) := dk_96 (dk_at dksX1_getByte_0 11 rfl rfl)
theorem dX1_getByte_12 : decode cX1_getByte 12 = .ok (.putfield 20, 3) := dk_181 0 20 (dk_at dksX1_getByte_0 12 rfl rfl)
theorem dX1_getByte_15 : decode cX1_getByte 15 = .ok (.baload, 1) := dk_51 (dk_at dksX1_getByte_0 15 rfl rfl)
theorem dX1_getByte_16 : decode cX1_getByte 16 = .ok (.sipush 255, 3) := dk_17 0 255 (dk_at dksX1_getByte_0 16 rfl rfl)
theorem dX1_getByte_19 : decode cX1_getByte 19 = .ok (.iand, 1) := dk_126 (dk_at dksX1_getByte_0 19 rfl rfl)
theorem dX1_getByte_20 : decode cX1_getByte 20 = .ok (.ireturn, 1) := dk_172 (dk_at dksX1_getByte_0 20 rfl rfl)
abbrev cX1_getShort : ByteArray := prog_1_method_15_code
def yX1_getShort : MethodName := ⟨RX1, "getShort", "()I"⟩
def dkwX1_getShort_0 : List UInt8 := [42, 182, 0, 57, 60, 27, 16, 8, 120, 18, 66, 126, 42, 182, 0, 57, 17, 0, 255, 126, 128, 60, 27, 172]
abbrev dktX1_getShort_0 : List UInt8 := dkwX1_getShort_0 ++ []
theorem dksX1_getShort_0 : cX1_getShort.data.toList.drop 0 = dktX1_getShort_0 := by decide +kernel
theorem dX1_getShort_0 : decode cX1_getShort 0 = .ok (.aload_n 0, 1) := dk_42 (dk_at dksX1_getShort_0 0 rfl rfl)
theorem dX1_getShort_1 : decode cX1_getShort 1 = .ok (.invokevirtual 57, 3) := dk_182 0 57 (dk_at dksX1_getShort_0 1 rfl rfl)
theorem dX1_getShort_4 : decode cX1_getShort 4 = .ok (.istore_n 1, 1) := dk_60 (dk_at dksX1_getShort_0 4 rfl rfl)
theorem dX1_getShort_5 : decode cX1_getShort 5 = .ok (.iload_n 1, 1) := dk_27 (dk_at dksX1_getShort_0 5 rfl rfl)
theorem dX1_getShort_6 : decode cX1_getShort 6 = .ok (.bipush 8, 2) := dk_16 8 (dk_at dksX1_getShort_0 6 rfl rfl)
theorem dX1_getShort_8 : decode cX1_getShort 8 = .ok (.ishl, 1) := dk_120 (dk_at dksX1_getShort_0 8 rfl rfl)
theorem dX1_getShort_9 : decode cX1_getShort 9 = .ok (.ldc 66, 2) := dk_18 66 (dk_at dksX1_getShort_0 9 rfl rfl)
theorem dX1_getShort_11 : decode cX1_getShort 11 = .ok (.iand, 1) := dk_126 (dk_at dksX1_getShort_0 11 rfl rfl)
theorem dX1_getShort_12 : decode cX1_getShort 12 = .ok (.aload_n 0, 1) := dk_42 (dk_at dksX1_getShort_0 12 rfl rfl)
theorem dX1_getShort_13 : decode cX1_getShort 13 = .ok (.invokevirtual 57, 3) := dk_182 0 57 (dk_at dksX1_getShort_0 13 rfl rfl)
theorem dX1_getShort_16 : decode cX1_getShort 16 = .ok (.sipush 255, 3) := dk_17 0 255 (dk_at dksX1_getShort_0 16 rfl rfl)
theorem dX1_getShort_19 : decode cX1_getShort 19 = .ok (.iand, 1) := dk_126 (dk_at dksX1_getShort_0 19 rfl rfl)
theorem dX1_getShort_20 : decode cX1_getShort 20 = .ok (.ior, 1) := dk_128 (dk_at dksX1_getShort_0 20 rfl rfl)
theorem dX1_getShort_21 : decode cX1_getShort 21 = .ok (.istore_n 1, 1) := dk_60 (dk_at dksX1_getShort_0 21 rfl rfl)
theorem dX1_getShort_22 : decode cX1_getShort 22 = .ok (.iload_n 1, 1) := dk_27 (dk_at dksX1_getShort_0 22 rfl rfl)
theorem dX1_getShort_23 : decode cX1_getShort 23 = .ok (.ireturn, 1) := dk_172 (dk_at dksX1_getShort_0 23 rfl rfl)
abbrev cX1_getUInt : ByteArray := prog_1_method_14_code
def yX1_getUInt : MethodName := ⟨RX1, "getUInt", "()J"⟩
def dkwX1_getUInt_3 : List UInt8 := [64, 31, 173]
abbrev dktX1_getUInt_3 : List UInt8 := dkwX1_getUInt_3 ++ []
def dkwX1_getUInt_2 : List UInt8 := [182, 0, 57, 17, 0, 255, 126, 133, 129, 66, 31, 16, 16, 121, 20, 0, 62, 127, 33, 20, 0, 64, 127, 129]
abbrev dktX1_getUInt_2 : List UInt8 := dkwX1_getUInt_2 ++ dktX1_getUInt_3
def dkwX1_getUInt_1 : List UInt8 := [17, 0, 255, 126, 133, 129, 64, 42, 182, 0, 57, 133, 66, 33, 16, 8, 121, 20, 0, 60, 127, 42]
abbrev dktX1_getUInt_1 : List UInt8 := dkwX1_getUInt_1 ++ dktX1_getUInt_2
def dkwX1_getUInt_0 : List UInt8 := [9, 64, 9, 66, 42, 182, 0, 57, 133, 64, 31, 16, 8, 121, 20, 0, 60, 127, 42, 182, 0, 57]
abbrev dktX1_getUInt_0 : List UInt8 := dkwX1_getUInt_0 ++ dktX1_getUInt_1
theorem dksX1_getUInt_0 : cX1_getUInt.data.toList.drop 0 = dktX1_getUInt_0 := by decide +kernel
theorem dksX1_getUInt_1 : cX1_getUInt.data.toList.drop 22 = dktX1_getUInt_1 := dk_seg dksX1_getUInt_0 22 rfl rfl
theorem dksX1_getUInt_2 : cX1_getUInt.data.toList.drop 44 = dktX1_getUInt_2 := dk_seg dksX1_getUInt_1 22 rfl rfl
theorem dksX1_getUInt_3 : cX1_getUInt.data.toList.drop 68 = dktX1_getUInt_3 := dk_seg dksX1_getUInt_2 24 rfl rfl
theorem dX1_getUInt_0 : decode cX1_getUInt 0 = .ok (.lconst 0, 1) := dk_9 (dk_at dksX1_getUInt_0 0 rfl rfl)
theorem dX1_getUInt_1 : decode cX1_getUInt 1 = .ok (.lstore_n 1, 1) := dk_64 (dk_at dksX1_getUInt_0 1 rfl rfl)
theorem dX1_getUInt_2 : decode cX1_getUInt 2 = .ok (.lconst 0, 1) := dk_9 (dk_at dksX1_getUInt_0 2 rfl rfl)
theorem dX1_getUInt_3 : decode cX1_getUInt 3 = .ok (.lstore_n 3, 1) := dk_66 (dk_at dksX1_getUInt_0 3 rfl rfl)
theorem dX1_getUInt_4 : decode cX1_getUInt 4 = .ok (.aload_n 0, 1) := dk_42 (dk_at dksX1_getUInt_0 4 rfl rfl)
theorem dX1_getUInt_5 : decode cX1_getUInt 5 = .ok (.invokevirtual 57, 3) := dk_182 0 57 (dk_at dksX1_getUInt_0 5 rfl rfl)
theorem dX1_getUInt_8 : decode cX1_getUInt 8 = .ok (.i2l, 1) := dk_133 (dk_at dksX1_getUInt_0 8 rfl rfl)
theorem dX1_getUInt_9 : decode cX1_getUInt 9 = .ok (.lstore_n 1, 1) := dk_64 (dk_at dksX1_getUInt_0 9 rfl rfl)
theorem dX1_getUInt_10 : decode cX1_getUInt 10 = .ok (.lload_n 1, 1) := dk_31 (dk_at dksX1_getUInt_0 10 rfl rfl)
theorem dX1_getUInt_11 : decode cX1_getUInt 11 = .ok (.bipush 8, 2) := dk_16 8 (dk_at dksX1_getUInt_0 11 rfl rfl)
theorem dX1_getUInt_13 : decode cX1_getUInt 13 = .ok (.lshl, 1) := dk_121 (dk_at dksX1_getUInt_0 13 rfl rfl)
theorem dX1_getUInt_14 : decode cX1_getUInt 14 = .ok (.ldc2_w 60, 3) := dk_20 0 60 (dk_at dksX1_getUInt_0 14 rfl rfl)
theorem dX1_getUInt_17 : decode cX1_getUInt 17 = .ok (.land, 1) := dk_127 (dk_at dksX1_getUInt_0 17 rfl rfl)
theorem dX1_getUInt_18 : decode cX1_getUInt 18 = .ok (.aload_n 0, 1) := dk_42 (dk_at dksX1_getUInt_0 18 rfl rfl)
theorem dX1_getUInt_19 : decode cX1_getUInt 19 = .ok (.invokevirtual 57, 3) := dk_182 0 57 (dk_at dksX1_getUInt_0 19 rfl rfl)
theorem dX1_getUInt_22 : decode cX1_getUInt 22 = .ok (.sipush 255, 3) := dk_17 0 255 (dk_at dksX1_getUInt_1 0 rfl rfl)
theorem dX1_getUInt_25 : decode cX1_getUInt 25 = .ok (.iand, 1) := dk_126 (dk_at dksX1_getUInt_1 3 rfl rfl)
theorem dX1_getUInt_26 : decode cX1_getUInt 26 = .ok (.i2l, 1) := dk_133 (dk_at dksX1_getUInt_1 4 rfl rfl)
theorem dX1_getUInt_27 : decode cX1_getUInt 27 = .ok (.lor, 1) := dk_129 (dk_at dksX1_getUInt_1 5 rfl rfl)
theorem dX1_getUInt_28 : decode cX1_getUInt 28 = .ok (.lstore_n 1, 1) := dk_64 (dk_at dksX1_getUInt_1 6 rfl rfl)
theorem dX1_getUInt_29 : decode cX1_getUInt 29 = .ok (.aload_n 0, 1) := dk_42 (dk_at dksX1_getUInt_1 7 rfl rfl)
theorem dX1_getUInt_30 : decode cX1_getUInt 30 = .ok (.invokevirtual 57, 3) := dk_182 0 57 (dk_at dksX1_getUInt_1 8 rfl rfl)
theorem dX1_getUInt_33 : decode cX1_getUInt 33 = .ok (.i2l, 1) := dk_133 (dk_at dksX1_getUInt_1 11 rfl rfl)
theorem dX1_getUInt_34 : decode cX1_getUInt 34 = .ok (.lstore_n 3, 1) := dk_66 (dk_at dksX1_getUInt_1 12 rfl rfl)
theorem dX1_getUInt_35 : decode cX1_getUInt 35 = .ok (.lload_n 3, 1) := dk_33 (dk_at dksX1_getUInt_1 13 rfl rfl)
theorem dX1_getUInt_36 : decode cX1_getUInt 36 = .ok (.bipush 8, 2) := dk_16 8 (dk_at dksX1_getUInt_1 14 rfl rfl)
theorem dX1_getUInt_38 : decode cX1_getUInt 38 = .ok (.lshl, 1) := dk_121 (dk_at dksX1_getUInt_1 16 rfl rfl)
theorem dX1_getUInt_39 : decode cX1_getUInt 39 = .ok (.ldc2_w 60, 3) := dk_20 0 60 (dk_at dksX1_getUInt_1 17 rfl rfl)
theorem dX1_getUInt_42 : decode cX1_getUInt 42 = .ok (.land, 1) := dk_127 (dk_at dksX1_getUInt_1 20 rfl rfl)
theorem dX1_getUInt_43 : decode cX1_getUInt 43 = .ok (.aload_n 0, 1) := dk_42 (dk_at dksX1_getUInt_1 21 rfl rfl)
theorem dX1_getUInt_44 : decode cX1_getUInt 44 = .ok (.invokevirtual 57, 3) := dk_182 0 57 (dk_at dksX1_getUInt_2 0 rfl rfl)
theorem dX1_getUInt_47 : decode cX1_getUInt 47 = .ok (.sipush 255, 3) := dk_17 0 255 (dk_at dksX1_getUInt_2 3 rfl rfl)
theorem dX1_getUInt_50 : decode cX1_getUInt 50 = .ok (.iand, 1) := dk_126 (dk_at dksX1_getUInt_2 6 rfl rfl)
theorem dX1_getUInt_51 : decode cX1_getUInt 51 = .ok (.i2l, 1) := dk_133 (dk_at dksX1_getUInt_2 7 rfl rfl)
theorem dX1_getUInt_52 : decode cX1_getUInt 52 = .ok (.lor, 1) := dk_129 (dk_at dksX1_getUInt_2 8 rfl rfl)
theorem dX1_getUInt_53 : decode cX1_getUInt 53 = .ok (.lstore_n 3, 1) := dk_66 (dk_at dksX1_getUInt_2 9 rfl rfl)
theorem dX1_getUInt_54 : decode cX1_getUInt 54 = .ok (.lload_n 1, 1) := dk_31 (dk_at dksX1_getUInt_2 10 rfl rfl)
theorem dX1_getUInt_55 : decode cX1_getUInt 55 = .ok (.bipush 16, 2) := dk_16 16 (dk_at dksX1_getUInt_2 11 rfl rfl)
theorem dX1_getUInt_57 : decode cX1_getUInt 57 = .ok (.lshl, 1) := dk_121 (dk_at dksX1_getUInt_2 13 rfl rfl)
theorem dX1_getUInt_58 : decode cX1_getUInt 58 = .ok (.ldc2_w 62, 3) := dk_20 0 62 (dk_at dksX1_getUInt_2 14 rfl rfl)
theorem dX1_getUInt_61 : decode cX1_getUInt 61 = .ok (.land, 1) := dk_127 (dk_at dksX1_getUInt_2 17 rfl rfl)
theorem dX1_getUInt_62 : decode cX1_getUInt 62 = .ok (.lload_n 3, 1) := dk_33 (dk_at dksX1_getUInt_2 18 rfl rfl)
theorem dX1_getUInt_63 : decode cX1_getUInt 63 = .ok (.ldc2_w 64, 3) := dk_20 0 64 (dk_at dksX1_getUInt_2 19 rfl rfl)
theorem dX1_getUInt_66 : decode cX1_getUInt 66 = .ok (.land, 1) := dk_127 (dk_at dksX1_getUInt_2 22 rfl rfl)
theorem dX1_getUInt_67 : decode cX1_getUInt 67 = .ok (.lor, 1) := dk_129 (dk_at dksX1_getUInt_2 23 rfl rfl)
theorem dX1_getUInt_68 : decode cX1_getUInt 68 = .ok (.lstore_n 1, 1) := dk_64 (dk_at dksX1_getUInt_3 0 rfl rfl)
theorem dX1_getUInt_69 : decode cX1_getUInt 69 = .ok (.lload_n 1, 1) := dk_31 (dk_at dksX1_getUInt_3 1 rfl rfl)
theorem dX1_getUInt_70 : decode cX1_getUInt 70 = .ok (.lreturn, 1) := dk_173 (dk_at dksX1_getUInt_3 2 rfl rfl)
abbrev cX1_getLong : ByteArray := prog_1_method_12_code
def yX1_getLong : MethodName := ⟨RX1, "getLong", "()J"⟩
def dkwX1_getLong_1 : List UInt8 := [64, 31, 173]
abbrev dktX1_getLong_1 : List UInt8 := dkwX1_getLong_1 ++ []
def dkwX1_getLong_0 : List UInt8 := [42, 182, 0, 46, 133, 20, 0, 50, 127, 64, 31, 16, 32, 121, 42, 182, 0, 46, 133, 20, 0, 50, 127, 129]
abbrev dktX1_getLong_0 : List UInt8 := dkwX1_getLong_0 ++ dktX1_getLong_1
theorem dksX1_getLong_0 : cX1_getLong.data.toList.drop 0 = dktX1_getLong_0 := by decide +kernel
theorem dksX1_getLong_1 : cX1_getLong.data.toList.drop 24 = dktX1_getLong_1 := dk_seg dksX1_getLong_0 24 rfl rfl
theorem dX1_getLong_0 : decode cX1_getLong 0 = .ok (.aload_n 0, 1) := dk_42 (dk_at dksX1_getLong_0 0 rfl rfl)
theorem dX1_getLong_1 : decode cX1_getLong 1 = .ok (.invokevirtual 46, 3) := dk_182 0 46 (dk_at dksX1_getLong_0 1 rfl rfl)
theorem dX1_getLong_4 : decode cX1_getLong 4 = .ok (.i2l, 1) := dk_133 (dk_at dksX1_getLong_0 4 rfl rfl)
theorem dX1_getLong_5 : decode cX1_getLong 5 = .ok (.ldc2_w 50, 3) := dk_20 0 50 (dk_at dksX1_getLong_0 5 rfl rfl)
theorem dX1_getLong_8 : decode cX1_getLong 8 = .ok (.land, 1) := dk_127 (dk_at dksX1_getLong_0 8 rfl rfl)
theorem dX1_getLong_9 : decode cX1_getLong 9 = .ok (.lstore_n 1, 1) := dk_64 (dk_at dksX1_getLong_0 9 rfl rfl)
theorem dX1_getLong_10 : decode cX1_getLong 10 = .ok (.lload_n 1, 1) := dk_31 (dk_at dksX1_getLong_0 10 rfl rfl)
theorem dX1_getLong_11 : decode cX1_getLong 11 = .ok (.bipush 32, 2) := dk_16 32 (dk_at dksX1_getLong_0 11 rfl rfl)
theorem dX1_getLong_13 : decode cX1_getLong 13 = .ok (.lshl, 1) := dk_121 (dk_at dksX1_getLong_0 13 rfl rfl)
theorem dX1_getLong_14 : decode cX1_getLong 14 = .ok (.aload_n 0, 1) := dk_42 (dk_at dksX1_getLong_0 14 rfl rfl)
theorem dX1_getLong_15 : decode cX1_getLong 15 = .ok (.invokevirtual 46, 3) := dk_182 0 46 (dk_at dksX1_getLong_0 15 rfl rfl)
theorem dX1_getLong_18 : decode cX1_getLong 18 = .ok (.i2l, 1) := dk_133 (dk_at dksX1_getLong_0 18 rfl rfl)
theorem dX1_getLong_19 : decode cX1_getLong 19 = .ok (.ldc2_w 50, 3) := dk_20 0 50 (dk_at dksX1_getLong_0 19 rfl rfl)
theorem dX1_getLong_22 : decode cX1_getLong 22 = .ok (.land, 1) := dk_127 (dk_at dksX1_getLong_0 22 rfl rfl)
theorem dX1_getLong_23 : decode cX1_getLong 23 = .ok (.lor, 1) := dk_129 (dk_at dksX1_getLong_0 23 rfl rfl)
theorem dX1_getLong_24 : decode cX1_getLong 24 = .ok (.lstore_n 1, 1) := dk_64 (dk_at dksX1_getLong_1 0 rfl rfl)
theorem dX1_getLong_25 : decode cX1_getLong 25 = .ok (.lload_n 1, 1) := dk_31 (dk_at dksX1_getLong_1 1 rfl rfl)
theorem dX1_getLong_26 : decode cX1_getLong 26 = .ok (.lreturn, 1) := dk_173 (dk_at dksX1_getLong_1 2 rfl rfl)
abbrev cX1_getInt : ByteArray := prog_1_method_13_code
def yX1_getInt : MethodName := ⟨RX1, "getInt", "()I"⟩
def dkwX1_getInt_0 : List UInt8 := [42, 182, 0, 52, 60, 27, 16, 16, 120, 18, 55, 126, 42, 182, 0, 52, 18, 56, 126, 128, 60, 27, 172]
abbrev dktX1_getInt_0 : List UInt8 := dkwX1_getInt_0 ++ []
theorem dksX1_getInt_0 : cX1_getInt.data.toList.drop 0 = dktX1_getInt_0 := by decide +kernel
theorem dX1_getInt_0 : decode cX1_getInt 0 = .ok (.aload_n 0, 1) := dk_42 (dk_at dksX1_getInt_0 0 rfl rfl)
theorem dX1_getInt_1 : decode cX1_getInt 1 = .ok (.invokevirtual 52, 3) := dk_182 0 52 (dk_at dksX1_getInt_0 1 rfl rfl)
theorem dX1_getInt_4 : decode cX1_getInt 4 = .ok (.istore_n 1, 1) := dk_60 (dk_at dksX1_getInt_0 4 rfl rfl)
theorem dX1_getInt_5 : decode cX1_getInt 5 = .ok (.iload_n 1, 1) := dk_27 (dk_at dksX1_getInt_0 5 rfl rfl)
theorem dX1_getInt_6 : decode cX1_getInt 6 = .ok (.bipush 16, 2) := dk_16 16 (dk_at dksX1_getInt_0 6 rfl rfl)
theorem dX1_getInt_8 : decode cX1_getInt 8 = .ok (.ishl, 1) := dk_120 (dk_at dksX1_getInt_0 8 rfl rfl)
theorem dX1_getInt_9 : decode cX1_getInt 9 = .ok (.ldc 55, 2) := dk_18 55 (dk_at dksX1_getInt_0 9 rfl rfl)
theorem dX1_getInt_11 : decode cX1_getInt 11 = .ok (.iand, 1) := dk_126 (dk_at dksX1_getInt_0 11 rfl rfl)
theorem dX1_getInt_12 : decode cX1_getInt 12 = .ok (.aload_n 0, 1) := dk_42 (dk_at dksX1_getInt_0 12 rfl rfl)
theorem dX1_getInt_13 : decode cX1_getInt 13 = .ok (.invokevirtual 52, 3) := dk_182 0 52 (dk_at dksX1_getInt_0 13 rfl rfl)
theorem dX1_getInt_16 : decode cX1_getInt 16 = .ok (.ldc 56, 2) := dk_18 56 (dk_at dksX1_getInt_0 16 rfl rfl)
theorem dX1_getInt_18 : decode cX1_getInt 18 = .ok (.iand, 1) := dk_126 (dk_at dksX1_getInt_0 18 rfl rfl)
theorem dX1_getInt_19 : decode cX1_getInt 19 = .ok (.ior, 1) := dk_128 (dk_at dksX1_getInt_0 19 rfl rfl)
theorem dX1_getInt_20 : decode cX1_getInt 20 = .ok (.istore_n 1, 1) := dk_60 (dk_at dksX1_getInt_0 20 rfl rfl)
theorem dX1_getInt_21 : decode cX1_getInt 21 = .ok (.iload_n 1, 1) := dk_27 (dk_at dksX1_getInt_0 21 rfl rfl)
theorem dX1_getInt_22 : decode cX1_getInt 22 = .ok (.ireturn, 1) := dk_172 (dk_at dksX1_getInt_0 22 rfl rfl)
abbrev cX1_getOffSet : ByteArray := prog_1_method_11_code
def yX1_getOffSet : MethodName := ⟨RX1, "getOffSet", "()I"⟩
theorem dX1_getOffSet_0 : decode cX1_getOffSet 0 = .ok (.aload_n 0, 1) := by decide +kernel
theorem dX1_getOffSet_1 : decode cX1_getOffSet 1 = .ok (.getfield 20, 3) := by decide +kernel
theorem dX1_getOffSet_4 : decode cX1_getOffSet 4 = .ok (.ireturn, 1) := by decide +kernel
abbrev cX1_getString : ByteArray := prog_1_method_18_code
def yX1_getString : MethodName := ⟨RX1, "getString", "()[B"⟩
def dkwX1_getString_1 : List UInt8 := [3, 27, 182, 0, 68, 44, 176]
abbrev dktX1_getString_1 : List UInt8 := dkwX1_getString_1 ++ []
def dkwX1_getString_0 : List UInt8 := [42, 182, 0, 46, 60, 27, 155, 0, 9, 27, 18, 67, 164, 0, 6, 18, 67, 60, 27, 188, 8, 77, 42, 44]
abbrev dktX1_getString_0 : List UInt8 := dkwX1_getString_0 ++ dktX1_getString_1
theorem dksX1_getString_0 : cX1_getString.data.toList.drop 0 = dktX1_getString_0 := by decide +kernel
theorem dksX1_getString_1 : cX1_getString.data.toList.drop 24 = dktX1_getString_1 := dk_seg dksX1_getString_0 24 rfl rfl
theorem dX1_getString_0 : decode cX1_getString 0 = .ok (.aload_n 0, 1) := dk_42 (dk_at dksX1_getString_0 0 rfl rfl)
theorem dX1_getString_1 : decode cX1_getString 1 = .ok (.invokevirtual 46, 3) := dk_182 0 46 (dk_at dksX1_getString_0 1 rfl rfl)
theorem dX1_getString_4 : decode cX1_getString 4 = .ok (.istore_n 1, 1) := dk_60 (dk_at dksX1_getString_0 4 rfl rfl)
theorem dX1_getString_5 : decode cX1_getString 5 = .ok (.iload_n 1, 1) := dk_27 (dk_at dksX1_getString_0 5 rfl rfl)
theorem dX1_getString_6 : decode cX1_getString 6 = .ok (.ifCond .lt 9, 3) := dk_155 0 9 (dk_at dksX1_getString_0 6 rfl rfl)
theorem dX1_getString_9 : decode cX1_getString 9 = .ok (.iload_n 1, 1) := dk_27 (dk_at dksX1_getString_0 9 rfl rfl)
theorem dX1_getString_10 : decode cX1_getString 10 = .ok (.ldc 67, 2) := dk_18 67 (dk_at dksX1_getString_0 10 rfl rfl)
theorem dX1_getString_12 : decode cX1_getString 12 = .ok (.if_icmp .le 6, 3) := dk_164 0 6 (dk_at dksX1_getString_0 12 rfl rfl)
theorem dX1_getString_15 : decode cX1_getString 15 = .ok (.ldc 67, 2) := dk_18 67 (dk_at dksX1_getString_0 15 rfl rfl)
theorem dX1_getString_17 : decode cX1_getString 17 = .ok (.istore_n 1, 1) := dk_60 (dk_at dksX1_getString_0 17 rfl rfl)
theorem dX1_getString_18 : decode cX1_getString 18 = .ok (.iload_n 1, 1) := dk_27 (dk_at dksX1_getString_0 18 rfl rfl)
theorem dX1_getString_19 : decode cX1_getString 19 = .ok (.newarray .byte, 2) := dk_188_8 (dk_at dksX1_getString_0 19 rfl rfl)
theorem dX1_getString_21 : decode cX1_getString 21 = .ok (.astore_n 2, 1) := dk_77 (dk_at dksX1_getString_0 21 rfl rfl)
theorem dX1_getString_22 : decode cX1_getString 22 = .ok (.aload_n 0, 1) := dk_42 (dk_at dksX1_getString_0 22 rfl rfl)
theorem dX1_getString_23 : decode cX1_getString 23 = .ok (.aload_n 2, 1) := dk_44 (dk_at dksX1_getString_0 23 rfl rfl)
theorem dX1_getString_24 : decode cX1_getString 24 = .ok (.iconst 0, 1) := dk_3 (dk_at dksX1_getString_1 0 rfl rfl)
theorem dX1_getString_25 : decode cX1_getString 25 = .ok (.iload_n 1, 1) := dk_27 (dk_at dksX1_getString_1 1 rfl rfl)
theorem dX1_getString_26 : decode cX1_getString 26 = .ok (.invokevirtual 68, 3) := dk_182 0 68 (dk_at dksX1_getString_1 2 rfl rfl)
theorem dX1_getString_29 : decode cX1_getString 29 = .ok (.aload_n 2, 1) := dk_44 (dk_at dksX1_getString_1 5 rfl rfl)
theorem dX1_getString_30 : decode cX1_getString 30 = .ok (.areturn, 1) := dk_176 (dk_at dksX1_getString_1 6 rfl rfl)
abbrev cX1_getByte_2 : ByteArray := prog_1_method_17_code
def yX1_getByte_2 : MethodName := ⟨RX1, "getByte", "([BII)V"⟩
def dkwX1_getByte_2_1 : List UInt8 := [177]
abbrev dktX1_getByte_2_1 : List UInt8 := dkwX1_getByte_2_1 ++ []
def dkwX1_getByte_2_0 : List UInt8 := [42, 180, 0, 13, 42, 180, 0, 20, 43, 28, 29, 184, 0, 27, 42, 89, 180, 0, 20, 29, 96, 181, 0, 20]
abbrev dktX1_getByte_2_0 : List UInt8 := dkwX1_getByte_2_0 ++ dktX1_getByte_2_1
theorem dksX1_getByte_2_0 : cX1_getByte_2.data.toList.drop 0 = dktX1_getByte_2_0 := by decide +kernel
theorem dksX1_getByte_2_1 : cX1_getByte_2.data.toList.drop 24 = dktX1_getByte_2_1 := dk_seg dksX1_getByte_2_0 24 rfl rfl
theorem dX1_getByte_2_0 : decode cX1_getByte_2 0 = .ok (.aload_n 0, 1) := dk_42 (dk_at dksX1_getByte_2_0 0 rfl rfl)
theorem dX1_getByte_2_1 : decode cX1_getByte_2 1 = .ok (.getfield 13, 3) := dk_180 0 13 (dk_at dksX1_getByte_2_0 1 rfl rfl)
theorem dX1_getByte_2_4 : decode cX1_getByte_2 4 = .ok (.aload_n 0, 1) := dk_42 (dk_at dksX1_getByte_2_0 4 rfl rfl)
theorem dX1_getByte_2_5 : decode cX1_getByte_2 5 = .ok (.getfield 20, 3) := dk_180 0 20 (dk_at dksX1_getByte_2_0 5 rfl rfl)
theorem dX1_getByte_2_8 : decode cX1_getByte_2 8 = .ok (.aload_n 1, 1) := dk_43 (dk_at dksX1_getByte_2_0 8 rfl rfl)
theorem dX1_getByte_2_9 : decode cX1_getByte_2 9 = .ok (.iload_n 2, 1) := dk_28 (dk_at dksX1_getByte_2_0 9 rfl rfl)
theorem dX1_getByte_2_10 : decode cX1_getByte_2 10 = .ok (.iload_n 3, 1) := dk_29 (dk_at dksX1_getByte_2_0 10 rfl rfl)
theorem dX1_getByte_2_11 : decode cX1_getByte_2 11 = .ok (.invokestatic 27, 3) := dk_184 0 27 (dk_at dksX1_getByte_2_0 11 rfl rfl)
theorem dX1_getByte_2_14 : decode cX1_getByte_2 14 = .ok (.aload_n 0, 1) := dk_42 (dk_at dksX1_getByte_2_0 14 rfl rfl)
theorem dX1_getByte_2_15 : decode cX1_getByte_2 15 = .ok (.dup, 1) := dk_89 (dk_at dksX1_getByte_2_0 15 rfl rfl)
theorem dX1_getByte_2_16 : decode cX1_getByte_2 16 = .ok (.getfield 20, 3) := dk_180 0 20 (dk_at dksX1_getByte_2_0 16 rfl rfl)
theorem dX1_getByte_2_19 : decode cX1_getByte_2 19 = .ok (.iload_n 3, 1) := dk_29 (dk_at dksX1_getByte_2_0 19 rfl rfl)
theorem dX1_getByte_2_20 : decode cX1_getByte_2 20 = .ok (.iadd, 1) := dk_96 (dk_at dksX1_getByte_2_0 20 rfl rfl)
theorem dX1_getByte_2_21 : decode cX1_getByte_2 21 = .ok (.putfield 20, 3) := dk_181 0 20 (dk_at dksX1_getByte_2_0 21 rfl rfl)
theorem dX1_getByte_2_24 : decode cX1_getByte_2 24 = .ok (.return_, 1) := dk_177 (dk_at dksX1_getByte_2_1 0 rfl rfl)
abbrev cX1_rewind : ByteArray := prog_1_method_19_code
def yX1_rewind : MethodName := ⟨RX1, "rewind", "()V"⟩
def dkwX1_rewind_0 : List UInt8 := [42, 3, 181, 0, 20, 177]
abbrev dktX1_rewind_0 : List UInt8 := dkwX1_rewind_0 ++ []
theorem dksX1_rewind_0 : cX1_rewind.data.toList.drop 0 = dktX1_rewind_0 := by decide +kernel
theorem dX1_rewind_0 : decode cX1_rewind 0 = .ok (.aload_n 0, 1) := dk_42 (dk_at dksX1_rewind_0 0 rfl rfl)
theorem dX1_rewind_1 : decode cX1_rewind 1 = .ok (.iconst 0, 1) := dk_3 (dk_at dksX1_rewind_0 1 rfl rfl)
theorem dX1_rewind_2 : decode cX1_rewind 2 = .ok (.putfield 20, 3) := dk_181 0 20 (dk_at dksX1_rewind_0 2 rfl rfl)
theorem dX1_rewind_5 : decode cX1_rewind 5 = .ok (.return_, 1) := dk_177 (dk_at dksX1_rewind_0 5 rfl rfl)
theorem q13 : (Jvm.Cond.initialized "OwnBuffer") ∈ lw_all := lw_g (lw_at lw_m1 2 rfl) rfl
theorem q25 : (Jvm.Cond.instantiable "OwnBuffer" (4 : Nat)) ∈ lw_all := lw_g (lw_at lw_m1 14 rfl) rfl
theorem q27 : (Jvm.Cond.instanceMethod ({ cls := "OwnBuffer", name := "<init>", desc := "(I)V" } : Jvm.MethodName)) ∈ lw_all := lw_g (lw_at lw_m1 16 rfl) rfl
theorem q28 : (Jvm.Cond.code ({ cls := "OwnBuffer", name := "<init>", desc := "(I)V" } : Jvm.MethodName) prog_1_method_1_code (2 : Nat) (Option.none : Option Jvm.ClassFile.FieldType)) ∈ lw_all := lw_g (lw_at lw_m1 17 rfl) rfl
theorem q29 : (Jvm.Cond.methodLink "OwnBuffer" (1 : Nat) ({ cls := "java/lang/Object", name := "<init>", desc := "()V" } : Jvm.MethodName)) ∈ lw_all := lw_g (lw_at lw_m1 18 rfl) rfl
theorem q30 : (Jvm.Cond.fieldLink "OwnBuffer" (7 : Nat) "OwnBuffer" "tmp" "[B") ∈ lw_all := lw_g (lw_at lw_m1 19 rfl) rfl
theorem q31 : (Jvm.Cond.fieldLink "OwnBuffer" (13 : Nat) "OwnBuffer" "buffer" "[B") ∈ lw_all := lw_g (lw_at lw_m1 20 rfl) rfl
theorem q33 : (Jvm.Cond.fieldLink "OwnBuffer" (16 : Nat) "OwnBuffer" "index" "I") ∈ lw_all := lw_g (lw_at lw_m1 22 rfl) rfl
theorem q35 : (Jvm.Cond.fieldLink "OwnBuffer" (20 : Nat) "OwnBuffer" "s" "I") ∈ lw_all := lw_g (lw_at lw_m1 24 rfl) rfl
theorem q36 : (Jvm.Cond.laysFinal "OwnBuffer" "OwnBuffer" "tmp" "[B") ∈ lw_all := lw_g (lw_at lw_m1 25 rfl) rfl
theorem q37 : (Jvm.Cond.soleField "OwnBuffer" "tmp") ∈ lw_all := lw_g (lw_at lw_m1 26 rfl) rfl
theorem q38 : (Jvm.Cond.lays "OwnBuffer" "OwnBuffer" "buffer" "[B") ∈ lw_all := lw_g (lw_at lw_m1 27 rfl) rfl
theorem q39 : (Jvm.Cond.soleField "OwnBuffer" "buffer") ∈ lw_all := lw_g (lw_at lw_m1 28 rfl) rfl
theorem q40 : (Jvm.Cond.lays "OwnBuffer" "OwnBuffer" "index" "I") ∈ lw_all := lw_g (lw_at lw_m1 29 rfl) rfl
theorem q41 : (Jvm.Cond.soleField "OwnBuffer" "index") ∈ lw_all := lw_g (lw_at lw_m1 30 rfl) rfl
theorem q42 : (Jvm.Cond.lays "OwnBuffer" "OwnBuffer" "s" "I") ∈ lw_all := lw_g (lw_at lw_m1 31 rfl) rfl
theorem q43 : (Jvm.Cond.soleField "OwnBuffer" "s") ∈ lw_all := lw_g (lw_at lw_m1 32 rfl) rfl
theorem q44 : (Jvm.Cond.superclass "OwnBuffer" "java/lang/Object") ∈ lw_all := lw_g (lw_at lw_m1 33 rfl) rfl
theorem q80 : (Jvm.Cond.instanceMethod ({ cls := "OwnBuffer", name := "putByte", desc := "(B)V" } : Jvm.MethodName)) ∈ lw_all := lw_g (lw_at lw_m1 69 rfl) rfl
theorem q81 : (Jvm.Cond.selects "OwnBuffer" ({ cls := "OwnBuffer", name := "putByte", desc := "(B)V" } : Jvm.MethodName) ({ cls := "OwnBuffer", name := "putByte", desc := "(B)V" } : Jvm.MethodName)) ∈ lw_all := lw_g (lw_at lw_m1 70 rfl) rfl
theorem q82 : (Jvm.Cond.code ({ cls := "OwnBuffer", name := "putByte", desc := "(B)V" } : Jvm.MethodName) prog_1_method_2_code (2 : Nat) (Option.none : Option Jvm.ClassFile.FieldType)) ∈ lw_all := lw_g (lw_at lw_m1 71 rfl) rfl
theorem q88 : (Jvm.Cond.instanceMethod ({ cls := "OwnBuffer", name := "putInt", desc := "(I)V" } : Jvm.MethodName)) ∈ lw_all := lw_g (lw_at lw_m1 77 rfl) rfl
theorem q89 : (Jvm.Cond.selects "OwnBuffer" ({ cls := "OwnBuffer", name := "putInt", desc := "(I)V" } : Jvm.MethodName) ({ cls := "OwnBuffer", name := "putInt", desc := "(I)V" } : Jvm.MethodName)) ∈ lw_all := lw_g (lw_at lw_m1 78 rfl) rfl
theorem q90 : (Jvm.Cond.code ({ cls := "OwnBuffer", name := "putInt", desc := "(I)V" } : Jvm.MethodName) prog_1_method_7_code (2 : Nat) (Option.none : Option Jvm.ClassFile.FieldType)) ∈ lw_all := lw_g (lw_at lw_m1 79 rfl) rfl
theorem q91 : (Jvm.Cond.methodLink "OwnBuffer" (27 : Nat) ({ cls := "java/lang/System", name := "arraycopy", desc := "(Ljava/lang/Object;ILjava/lang/Object;II)V" } : Jvm.MethodName)) ∈ lw_all := lw_g (lw_at lw_m1 80 rfl) rfl
theorem q100 : (Jvm.Cond.instanceMethod ({ cls := "OwnBuffer", name := "putLong", desc := "(J)V" } : Jvm.MethodName)) ∈ lw_all := lw_g (lw_at lw_m1 89 rfl) rfl
theorem q101 : (Jvm.Cond.selects "OwnBuffer" ({ cls := "OwnBuffer", name := "putLong", desc := "(J)V" } : Jvm.MethodName) ({ cls := "OwnBuffer", name := "putLong", desc := "(J)V" } : Jvm.MethodName)) ∈ lw_all := lw_g (lw_at lw_m1 90 rfl) rfl
theorem q102 : (Jvm.Cond.code ({ cls := "OwnBuffer", name := "putLong", desc := "(J)V" } : Jvm.MethodName) prog_1_method_8_code (3 : Nat) (Option.none : Option Jvm.ClassFile.FieldType)) ∈ lw_all := lw_g (lw_at lw_m1 91 rfl) rfl
theorem q116 : (Jvm.Cond.instanceMethod ({ cls := "OwnBuffer", name := "putString", desc := "([B)V" } : Jvm.MethodName)) ∈ lw_all := lw_g (lw_at lw_m1 105 rfl) rfl
theorem q117 : (Jvm.Cond.selects "OwnBuffer" ({ cls := "OwnBuffer", name := "putString", desc := "([B)V" } : Jvm.MethodName) ({ cls := "OwnBuffer", name := "putString", desc := "([B)V" } : Jvm.MethodName)) ∈ lw_all := lw_g (lw_at lw_m1 106 rfl) rfl
theorem q118 : (Jvm.Cond.code ({ cls := "OwnBuffer", name := "putString", desc := "([B)V" } : Jvm.MethodName) prog_1_method_5_code (2 : Nat) (Option.none : Option Jvm.ClassFile.FieldType)) ∈ lw_all := lw_g (lw_at lw_m1 107 rfl) rfl
theorem q119 : (Jvm.Cond.methodLink "OwnBuffer" (33 : Nat) ({ cls := "OwnBuffer", name := "putString", desc := "([BII)V" } : Jvm.MethodName)) ∈ lw_all := lw_g (lw_at lw_m1 108 rfl) rfl
theorem q120 : (Jvm.Cond.instanceMethod ({ cls := "OwnBuffer", name := "putString", desc := "([BII)V" } : Jvm.MethodName)) ∈ lw_all := lw_g (lw_at lw_m1 109 rfl) rfl
theorem q121 : (Jvm.Cond.selects "OwnBuffer" ({ cls := "OwnBuffer", name := "putString", desc := "([BII)V" } : Jvm.MethodName) ({ cls := "OwnBuffer", name := "putString", desc := "([BII)V" } : Jvm.MethodName)) ∈ lw_all := lw_g (lw_at lw_m1 110 rfl) rfl
theorem q122 : (Jvm.Cond.code ({ cls := "OwnBuffer", name := "putString", desc := "([BII)V" } : Jvm.MethodName) prog_1_method_6_code (4 : Nat) (Option.none : Option Jvm.ClassFile.FieldType)) ∈ lw_all := lw_g (lw_at lw_m1 111 rfl) rfl
theorem q123 : (Jvm.Cond.methodLink "OwnBuffer" (36 : Nat) ({ cls := "OwnBuffer", name := "putInt", desc := "(I)V" } : Jvm.MethodName)) ∈ lw_all := lw_g (lw_at lw_m1 112 rfl) rfl
theorem q124 : (Jvm.Cond.methodLink "OwnBuffer" (23 : Nat) ({ cls := "OwnBuffer", name := "putByte", desc := "([BII)V" } : Jvm.MethodName)) ∈ lw_all := lw_g (lw_at lw_m1 113 rfl) rfl
theorem q125 : (Jvm.Cond.instanceMethod ({ cls := "OwnBuffer", name := "putByte", desc := "([BII)V" } : Jvm.MethodName)) ∈ lw_all := lw_g (lw_at lw_m1 114 rfl) rfl
theorem q126 : (Jvm.Cond.selects "OwnBuffer" ({ cls := "OwnBuffer", name := "putByte", desc := "([BII)V" } : Jvm.MethodName) ({ cls := "OwnBuffer", name := "putByte", desc := "([BII)V" } : Jvm.MethodName)) ∈ lw_all := lw_g (lw_at lw_m1 115 rfl) rfl
theorem q127 : (Jvm.Cond.code ({ cls := "OwnBuffer", name := "putByte", desc := "([BII)V" } : Jvm.MethodName) prog_1_method_4_code (4 : Nat) (Option.none : Option Jvm.ClassFile.FieldType)) ∈ lw_all := lw_g (lw_at lw_m1 116 rfl) rfl
theorem q133 : (Jvm.Cond.instanceMethod ({ cls := "OwnBuffer", name := "putMPInt", desc := "([B)V" } : Jvm.MethodName)) ∈ lw_all := lw_g (lw_at lw_m1 122 rfl) rfl
theorem q134 : (Jvm.Cond.selects "OwnBuffer" ({ cls := "OwnBuffer", name := "putMPInt", desc := "([B)V" } : Jvm.MethodName) ({ cls := "OwnBuffer", name := "putMPInt", desc := "([B)V" } : Jvm.MethodName)) ∈ lw_all := lw_g (lw_at lw_m1 123 rfl) rfl
theorem q135 : (Jvm.Cond.code ({ cls := "OwnBuffer", name := "putMPInt", desc := "([B)V" } : Jvm.MethodName) prog_1_method_9_code (3 : Nat) (Option.none : Option Jvm.ClassFile.FieldType)) ∈ lw_all := lw_g (lw_at lw_m1 124 rfl) rfl
theorem q136 : (Jvm.Cond.methodLink "OwnBuffer" (40 : Nat) ({ cls := "OwnBuffer", name := "putByte", desc := "(B)V" } : Jvm.MethodName)) ∈ lw_all := lw_g (lw_at lw_m1 125 rfl) rfl
theorem q137 : (Jvm.Cond.methodLink "OwnBuffer" (43 : Nat) ({ cls := "OwnBuffer", name := "putByte", desc := "([B)V" } : Jvm.MethodName)) ∈ lw_all := lw_g (lw_at lw_m1 126 rfl) rfl
theorem q138 : (Jvm.Cond.instanceMethod ({ cls := "OwnBuffer", name := "putByte", desc := "([B)V" } : Jvm.MethodName)) ∈ lw_all := lw_g (lw_at lw_m1 127 rfl) rfl
theorem q139 : (Jvm.Cond.selects "OwnBuffer" ({ cls := "OwnBuffer", name := "putByte", desc := "([B)V" } : Jvm.MethodName) ({ cls := "OwnBuffer", name := "putByte", desc := "([B)V" } : Jvm.MethodName)) ∈ lw_all := lw_g (lw_at lw_m1 128 rfl) rfl
theorem q140 : (Jvm.Cond.code ({ cls := "OwnBuffer", name := "putByte", desc := "([B)V" } : Jvm.MethodName) prog_1_method_3_code (2 : Nat) (Option.none : Option Jvm.ClassFile.FieldType)) ∈ lw_all := lw_g (lw_at lw_m1 129 rfl) rfl
theorem q146 : (Jvm.Cond.instanceMethod ({ cls := "OwnBuffer", name := "getLength", desc := "()I" } : Jvm.MethodName)) ∈ lw_all := lw_g (lw_at lw_m1 135 rfl) rfl
theorem q147 : (Jvm.Cond.selects "OwnBuffer" ({ cls := "OwnBuffer", name := "getLength", desc := "()I" } : Jvm.MethodName) ({ cls := "OwnBuffer", name := "getLength", desc := "()I" } : Jvm.MethodName)) ∈ lw_all := lw_g (lw_at lw_m1 136 rfl) rfl
theorem q148 : (Jvm.Cond.code ({ cls := "OwnBuffer", name := "getLength", desc := "()I" } : Jvm.MethodName) prog_1_method_10_code (1 : Nat) (Option.some Jvm.ClassFile.FieldType.int)) ∈ lw_all := lw_g (lw_at lw_m1 137 rfl) rfl
theorem q154 : (Jvm.Cond.instanceMethod ({ cls := "OwnBuffer", name := "getByte", desc := "()I" } : Jvm.MethodName)) ∈ lw_all := lw_g (lw_at lw_m1 143 rfl) rfl
theorem q155 : (Jvm.Cond.selects "OwnBuffer" ({ cls := "OwnBuffer", name := "getByte", desc := "()I" } : Jvm.MethodName) ({ cls := "OwnBuffer", name := "getByte", desc := "()I" } : Jvm.MethodName)) ∈ lw_all := lw_g (lw_at lw_m1 144 rfl) rfl
theorem q156 : (Jvm.Cond.code ({ cls := "OwnBuffer", name := "getByte", desc := "()I" } : Jvm.MethodName) prog_1_method_16_code (1 : Nat) (Option.some Jvm.ClassFile.FieldType.int)) ∈ lw_all := lw_g (lw_at lw_m1 145 rfl) rfl
theorem q162 : (Jvm.Cond.instanceMethod ({ cls := "OwnBuffer", name := "getShort", desc := "()I" } : Jvm.MethodName)) ∈ lw_all := lw_g (lw_at lw_m1 151 rfl) rfl
theorem q163 : (Jvm.Cond.selects "OwnBuffer" ({ cls := "OwnBuffer", name := "getShort", desc := "()I" } : Jvm.MethodName) ({ cls := "OwnBuffer", name := "getShort", desc := "()I" } : Jvm.MethodName)) ∈ lw_all := lw_g (lw_at lw_m1 152 rfl) rfl
theorem q164 : (Jvm.Cond.code ({ cls := "OwnBuffer", name := "getShort", desc := "()I" } : Jvm.MethodName) prog_1_method_15_code (2 : Nat) (Option.some Jvm.ClassFile.FieldType.int)) ∈ lw_all := lw_g (lw_at lw_m1 153 rfl) rfl
theorem q165 : (Jvm.Cond.methodLink "OwnBuffer" (57 : Nat) ({ cls := "OwnBuffer", name := "getByte", desc := "()I" } : Jvm.MethodName)) ∈ lw_all := lw_g (lw_at lw_m1 154 rfl) rfl
theorem q166 : (Jvm.Cond.constant "OwnBuffer" (66 : Nat) (65280 : Int32)) ∈ lw_all := lw_g (lw_at lw_m1 155 rfl) rfl
theorem q174 : (Jvm.Cond.instanceMethod ({ cls := "OwnBuffer", name := "getUInt", desc := "()J" } : Jvm.MethodName)) ∈ lw_all := lw_g (lw_at lw_m1 163 rfl) rfl
theorem q175 : (Jvm.Cond.selects "OwnBuffer" ({ cls := "OwnBuffer", name := "getUInt", desc := "()J" } : Jvm.MethodName) ({ cls := "OwnBuffer", name := "getUInt", desc := "()J" } : Jvm.MethodName)) ∈ lw_all := lw_g (lw_at lw_m1 164 rfl) rfl
theorem q176 : (Jvm.Cond.code ({ cls := "OwnBuffer", name := "getUInt", desc := "()J" } : Jvm.MethodName) prog_1_method_14_code (5 : Nat) (Option.some Jvm.ClassFile.FieldType.long)) ∈ lw_all := lw_g (lw_at lw_m1 165 rfl) rfl
theorem q177 : (Jvm.Cond.constantLong "OwnBuffer" (60 : Nat) (65280 : Int64)) ∈ lw_all := lw_g (lw_at lw_m1 166 rfl) rfl
theorem q178 : (Jvm.Cond.constantLong "OwnBuffer" (62 : Nat) (-65536 : Int64)) ∈ lw_all := lw_g (lw_at lw_m1 167 rfl) rfl
theorem q179 : (Jvm.Cond.constantLong "OwnBuffer" (64 : Nat) (65535 : Int64)) ∈ lw_all := lw_g (lw_at lw_m1 168 rfl) rfl
theorem q185 : (Jvm.Cond.instanceMethod ({ cls := "OwnBuffer", name := "getLong", desc := "()J" } : Jvm.MethodName)) ∈ lw_all := lw_g (lw_at lw_m1 174 rfl) rfl
theorem q186 : (Jvm.Cond.selects "OwnBuffer" ({ cls := "OwnBuffer", name := "getLong", desc := "()J" } : Jvm.MethodName) ({ cls := "OwnBuffer", name := "getLong", desc := "()J" } : Jvm.MethodName)) ∈ lw_all := lw_g (lw_at lw_m1 175 rfl) rfl
theorem q187 : (Jvm.Cond.code ({ cls := "OwnBuffer", name := "getLong", desc := "()J" } : Jvm.MethodName) prog_1_method_12_code (3 : Nat) (Option.some Jvm.ClassFile.FieldType.long)) ∈ lw_all := lw_g (lw_at lw_m1 176 rfl) rfl
theorem q188 : (Jvm.Cond.methodLink "OwnBuffer" (46 : Nat) ({ cls := "OwnBuffer", name := "getInt", desc := "()I" } : Jvm.MethodName)) ∈ lw_all := lw_g (lw_at lw_m1 177 rfl) rfl
theorem q189 : (Jvm.Cond.instanceMethod ({ cls := "OwnBuffer", name := "getInt", desc := "()I" } : Jvm.MethodName)) ∈ lw_all := lw_g (lw_at lw_m1 178 rfl) rfl
theorem q190 : (Jvm.Cond.selects "OwnBuffer" ({ cls := "OwnBuffer", name := "getInt", desc := "()I" } : Jvm.MethodName) ({ cls := "OwnBuffer", name := "getInt", desc := "()I" } : Jvm.MethodName)) ∈ lw_all := lw_g (lw_at lw_m1 179 rfl) rfl
theorem q191 : (Jvm.Cond.code ({ cls := "OwnBuffer", name := "getInt", desc := "()I" } : Jvm.MethodName) prog_1_method_13_code (2 : Nat) (Option.some Jvm.ClassFile.FieldType.int)) ∈ lw_all := lw_g (lw_at lw_m1 180 rfl) rfl
theorem q192 : (Jvm.Cond.methodLink "OwnBuffer" (52 : Nat) ({ cls := "OwnBuffer", name := "getShort", desc := "()I" } : Jvm.MethodName)) ∈ lw_all := lw_g (lw_at lw_m1 181 rfl) rfl
theorem q193 : (Jvm.Cond.constant "OwnBuffer" (55 : Nat) (-65536 : Int32)) ∈ lw_all := lw_g (lw_at lw_m1 182 rfl) rfl
theorem q194 : (Jvm.Cond.constant "OwnBuffer" (56 : Nat) (65535 : Int32)) ∈ lw_all := lw_g (lw_at lw_m1 183 rfl) rfl
theorem q195 : (Jvm.Cond.constantLong "OwnBuffer" (50 : Nat) (4294967295 : Int64)) ∈ lw_all := lw_g (lw_at lw_m1 184 rfl) rfl
theorem q205 : (Jvm.Cond.instanceMethod ({ cls := "OwnBuffer", name := "getOffSet", desc := "()I" } : Jvm.MethodName)) ∈ lw_all := lw_g (lw_at lw_m1 194 rfl) rfl
theorem q206 : (Jvm.Cond.selects "OwnBuffer" ({ cls := "OwnBuffer", name := "getOffSet", desc := "()I" } : Jvm.MethodName) ({ cls := "OwnBuffer", name := "getOffSet", desc := "()I" } : Jvm.MethodName)) ∈ lw_all := lw_g (lw_at lw_m1 195 rfl) rfl
theorem q207 : (Jvm.Cond.code ({ cls := "OwnBuffer", name := "getOffSet", desc := "()I" } : Jvm.MethodName) prog_1_method_11_code (1 : Nat) (Option.some Jvm.ClassFile.FieldType.int)) ∈ lw_all := lw_g (lw_at lw_m1 196 rfl) rfl
theorem q209 : (Jvm.Cond.instanceMethod ({ cls := "OwnBuffer", name := "getString", desc := "()[B" } : Jvm.MethodName)) ∈ lw_all := lw_g (lw_at lw_m1 198 rfl) rfl
theorem q210 : (Jvm.Cond.selects "OwnBuffer" ({ cls := "OwnBuffer", name := "getString", desc := "()[B" } : Jvm.MethodName) ({ cls := "OwnBuffer", name := "getString", desc := "()[B" } : Jvm.MethodName)) ∈ lw_all := lw_g (lw_at lw_m1 199 rfl) rfl
theorem q211 : (Jvm.Cond.code ({ cls := "OwnBuffer", name := "getString", desc := "()[B" } : Jvm.MethodName) prog_1_method_18_code (3 : Nat) (Option.some (Jvm.ClassFile.FieldType.array Jvm.ClassFile.FieldType.byte))) ∈ lw_all := lw_g (lw_at lw_m1 200 rfl) rfl
theorem q212 : (Jvm.Cond.constant "OwnBuffer" (67 : Nat) (262144 : Int32)) ∈ lw_all := lw_g (lw_at lw_m1 201 rfl) rfl
theorem q213 : (Jvm.Cond.methodLink "OwnBuffer" (68 : Nat) ({ cls := "OwnBuffer", name := "getByte", desc := "([BII)V" } : Jvm.MethodName)) ∈ lw_all := lw_g (lw_at lw_m1 202 rfl) rfl
theorem q214 : (Jvm.Cond.instanceMethod ({ cls := "OwnBuffer", name := "getByte", desc := "([BII)V" } : Jvm.MethodName)) ∈ lw_all := lw_g (lw_at lw_m1 203 rfl) rfl
theorem q215 : (Jvm.Cond.selects "OwnBuffer" ({ cls := "OwnBuffer", name := "getByte", desc := "([BII)V" } : Jvm.MethodName) ({ cls := "OwnBuffer", name := "getByte", desc := "([BII)V" } : Jvm.MethodName)) ∈ lw_all := lw_g (lw_at lw_m1 204 rfl) rfl
theorem q216 : (Jvm.Cond.code ({ cls := "OwnBuffer", name := "getByte", desc := "([BII)V" } : Jvm.MethodName) prog_1_method_17_code (4 : Nat) (Option.none : Option Jvm.ClassFile.FieldType)) ∈ lw_all := lw_g (lw_at lw_m1 205 rfl) rfl
theorem q226 : (Jvm.Cond.instanceMethod ({ cls := "OwnBuffer", name := "rewind", desc := "()V" } : Jvm.MethodName)) ∈ lw_all := lw_g (lw_at lw_m1 215 rfl) rfl
theorem q227 : (Jvm.Cond.selects "OwnBuffer" ({ cls := "OwnBuffer", name := "rewind", desc := "()V" } : Jvm.MethodName) ({ cls := "OwnBuffer", name := "rewind", desc := "()V" } : Jvm.MethodName)) ∈ lw_all := lw_g (lw_at lw_m1 216 rfl) rfl
theorem q228 : (Jvm.Cond.code ({ cls := "OwnBuffer", name := "rewind", desc := "()V" } : Jvm.MethodName) prog_1_method_19_code (1 : Nat) (Option.none : Option Jvm.ClassFile.FieldType)) ∈ lw_all := lw_g (lw_at lw_m1 217 rfl) rfl
theorem in_X1 : ∀ w ∈ wsX10, w ∈ lw_all := lw_in wsX10 [36, 38, 40, 42] (by decide +kernel) (by decide +kernel)
end
section
/-! WireBufferDesk -/
set_option maxRecDepth 100000
def RX0 : String := "WireBufferDesk"
def TX0 : u_T := fun k => match k with
  | 0 => ("WireBufferDesk", "text", "[B", true)
  | 1 => ("WireBufferDesk", "size", "I", false)
  | 2 => ("WireBufferDesk", "buffer", "LOwnBuffer;", false)
  | _ => ("WireBufferDesk", "read", "[B", false)
def tyX0 : Nat → FieldType := fun k => match k with
  | 0 => .array .byte
  | 1 => .int
  | 2 => .object "OwnBuffer"
  | _ => .array .byte
abbrev wsX00 : List Cond := u_ws RX0 TX0 4
theorem nmX0 : ∀ a, a < 4 → ∀ b, b < 4 → a ≠ b → (TX0 a).2.1 ≠ (TX0 b).2.1 := by decide +kernel
theorem tyX0_ok : ∀ k, k < 4 → parseFieldDescriptor (TX0 k).2.2.1 = some (tyX0 k) := by decide +kernel
abbrev cX0_init : ByteArray := prog_2_method_1_code
def yX0_init : MethodName := ⟨RX0, "<init>", "()V"⟩
def dkwX0_init_1 : List UInt8 := [181, 0, 18, 42, 3, 188, 8, 181, 0, 22, 177]
abbrev dktX0_init_1 : List UInt8 := dkwX0_init_1 ++ []
def dkwX0_init_0 : List UInt8 := [42, 183, 0, 1, 42, 17, 1, 0, 188, 8, 181, 0, 7, 42, 187, 0, 13, 89, 17, 8, 0, 183, 0, 15]
abbrev dktX0_init_0 : List UInt8 := dkwX0_init_0 ++ dktX0_init_1
theorem dksX0_init_0 : cX0_init.data.toList.drop 0 = dktX0_init_0 := by decide +kernel
theorem dksX0_init_1 : cX0_init.data.toList.drop 24 = dktX0_init_1 := dk_seg dksX0_init_0 24 rfl rfl
theorem dX0_init_0 : decode cX0_init 0 = .ok (.aload_n 0, 1) := dk_42 (dk_at dksX0_init_0 0 rfl rfl)
theorem dX0_init_1 : decode cX0_init 1 = .ok (.invokespecial 1, 3) := dk_183 0 1 (dk_at dksX0_init_0 1 rfl rfl)
theorem dX0_init_4 : decode cX0_init 4 = .ok (.aload_n 0, 1) := dk_42 (dk_at dksX0_init_0 4 rfl rfl)
theorem dX0_init_5 : decode cX0_init 5 = .ok (.sipush 256, 3) := dk_17 1 0 (dk_at dksX0_init_0 5 rfl rfl)
theorem dX0_init_8 : decode cX0_init 8 = .ok (.newarray .byte, 2) := dk_188_8 (dk_at dksX0_init_0 8 rfl rfl)
theorem dX0_init_10 : decode cX0_init 10 = .ok (.putfield 7, 3) := dk_181 0 7 (dk_at dksX0_init_0 10 rfl rfl)
theorem dX0_init_13 : decode cX0_init 13 = .ok (.aload_n 0, 1) := dk_42 (dk_at dksX0_init_0 13 rfl rfl)
theorem dX0_init_14 : decode cX0_init 14 = .ok (.new 13, 3) := dk_187 0 13 (dk_at dksX0_init_0 14 rfl rfl)
theorem dX0_init_17 : decode cX0_init 17 = .ok (.dup, 1) := dk_89 (dk_at dksX0_init_0 17 rfl rfl)
theorem dX0_init_18 : decode cX0_init 18 = .ok (.sipush 2048, 3) := dk_17 8 0 (dk_at dksX0_init_0 18 rfl rfl)
theorem dX0_init_21 : decode cX0_init 21 = .ok (.invokespecial 15, 3) := dk_183 0 15 (dk_at dksX0_init_0 21 rfl rfl)
theorem dX0_init_24 : decode cX0_init 24 = .ok (.putfield 18, 3) := dk_181 0 18 (dk_at dksX0_init_1 0 rfl rfl)
theorem dX0_init_27 : decode cX0_init 27 = .ok (.aload_n 0, 1) := dk_42 (dk_at dksX0_init_1 3 rfl rfl)
theorem dX0_init_28 : decode cX0_init 28 = .ok (.iconst 0, 1) := dk_3 (dk_at dksX0_init_1 4 rfl rfl)
theorem dX0_init_29 : decode cX0_init 29 = .ok (.newarray .byte, 2) := dk_188_8 (dk_at dksX0_init_1 5 rfl rfl)
theorem dX0_init_31 : decode cX0_init 31 = .ok (.putfield 22, 3) := dk_181 0 22 (dk_at dksX0_init_1 7 rfl rfl)
theorem dX0_init_34 : decode cX0_init 34 = .ok (.return_, 1) := dk_177 (dk_at dksX0_init_1 10 rfl rfl)
abbrev cX0_put : ByteArray := prog_2_method_2_code
def yX0_put : MethodName := ⟨RX0, "put", "(IIII)Z"⟩
def dkwX0_put_3 : List UInt8 := [96, 21, 4, 184, 0, 29, 42, 89, 180, 0, 25, 16, 16, 96, 181, 0, 25, 4, 172]
abbrev dktX0_put_3 : List UInt8 := dkwX0_put_3 ++ []
def dkwX0_put_2 : List UInt8 := [180, 0, 7, 42, 180, 0, 25, 16, 8, 96, 29, 184, 0, 29, 42, 180, 0, 7, 42, 180, 0, 25, 16, 12]
abbrev dktX0_put_2 : List UInt8 := dkwX0_put_2 ++ dktX0_put_3
def dkwX0_put_1 : List UInt8 := [180, 0, 25, 27, 184, 0, 29, 42, 180, 0, 7, 42, 180, 0, 25, 7, 96, 28, 184, 0, 29, 42]
abbrev dktX0_put_1 : List UInt8 := dkwX0_put_1 ++ dktX0_put_2
def dkwX0_put_0 : List UInt8 := [42, 180, 0, 25, 42, 180, 0, 7, 190, 16, 16, 100, 164, 0, 5, 3, 172, 42, 180, 0, 7, 42]
abbrev dktX0_put_0 : List UInt8 := dkwX0_put_0 ++ dktX0_put_1
theorem dksX0_put_0 : cX0_put.data.toList.drop 0 = dktX0_put_0 := by decide +kernel
theorem dksX0_put_1 : cX0_put.data.toList.drop 22 = dktX0_put_1 := dk_seg dksX0_put_0 22 rfl rfl
theorem dksX0_put_2 : cX0_put.data.toList.drop 44 = dktX0_put_2 := dk_seg dksX0_put_1 22 rfl rfl
theorem dksX0_put_3 : cX0_put.data.toList.drop 68 = dktX0_put_3 := dk_seg dksX0_put_2 24 rfl rfl
theorem dX0_put_0 : decode cX0_put 0 = .ok (.aload_n 0, 1) := dk_42 (dk_at dksX0_put_0 0 rfl rfl)
theorem dX0_put_1 : decode cX0_put 1 = .ok (.getfield 25, 3) := dk_180 0 25 (dk_at dksX0_put_0 1 rfl rfl)
theorem dX0_put_4 : decode cX0_put 4 = .ok (.aload_n 0, 1) := dk_42 (dk_at dksX0_put_0 4 rfl rfl)
theorem dX0_put_5 : decode cX0_put 5 = .ok (.getfield 7, 3) := dk_180 0 7 (dk_at dksX0_put_0 5 rfl rfl)
theorem dX0_put_8 : decode cX0_put 8 = .ok (.arraylength, 1) := dk_190 (dk_at dksX0_put_0 8 rfl rfl)
theorem dX0_put_9 : decode cX0_put 9 = .ok (.bipush 16, 2) := dk_16 16 (dk_at dksX0_put_0 9 rfl rfl)
theorem dX0_put_11 : decode cX0_put 11 = .ok (.isub, 1) := dk_100 (dk_at dksX0_put_0 11 rfl rfl)
theorem dX0_put_12 : decode cX0_put 12 = .ok (.if_icmp .le 5, 3) := dk_164 0 5 (dk_at dksX0_put_0 12 rfl rfl)
theorem dX0_put_15 : decode cX0_put 15 = .ok (.iconst 0, 1) := dk_3 (dk_at dksX0_put_0 15 rfl rfl)
theorem dX0_put_16 : decode cX0_put 16 = .ok (.ireturn, 1) := dk_172 (dk_at dksX0_put_0 16 rfl rfl)
theorem dX0_put_17 : decode cX0_put 17 = .ok (.aload_n 0, 1) := dk_42 (dk_at dksX0_put_0 17 rfl rfl)
theorem dX0_put_18 : decode cX0_put 18 = .ok (.getfield 7, 3) := dk_180 0 7 (dk_at dksX0_put_0 18 rfl rfl)
theorem dX0_put_21 : decode cX0_put 21 = .ok (.aload_n 0, 1) := dk_42 (dk_at dksX0_put_0 21 rfl rfl)
theorem dX0_put_22 : decode cX0_put 22 = .ok (.getfield 25, 3) := dk_180 0 25 (dk_at dksX0_put_1 0 rfl rfl)
theorem dX0_put_25 : decode cX0_put 25 = .ok (.iload_n 1, 1) := dk_27 (dk_at dksX0_put_1 3 rfl rfl)
theorem dX0_put_26 : decode cX0_put 26 = .ok (.invokestatic 29, 3) := dk_184 0 29 (dk_at dksX0_put_1 4 rfl rfl)
theorem dX0_put_29 : decode cX0_put 29 = .ok (.aload_n 0, 1) := dk_42 (dk_at dksX0_put_1 7 rfl rfl)
theorem dX0_put_30 : decode cX0_put 30 = .ok (.getfield 7, 3) := dk_180 0 7 (dk_at dksX0_put_1 8 rfl rfl)
theorem dX0_put_33 : decode cX0_put 33 = .ok (.aload_n 0, 1) := dk_42 (dk_at dksX0_put_1 11 rfl rfl)
theorem dX0_put_34 : decode cX0_put 34 = .ok (.getfield 25, 3) := dk_180 0 25 (dk_at dksX0_put_1 12 rfl rfl)
theorem dX0_put_37 : decode cX0_put 37 = .ok (.iconst 4, 1) := dk_7 (dk_at dksX0_put_1 15 rfl rfl)
theorem dX0_put_38 : decode cX0_put 38 = .ok (.iadd, 1) := dk_96 (dk_at dksX0_put_1 16 rfl rfl)
theorem dX0_put_39 : decode cX0_put 39 = .ok (.iload_n 2, 1) := dk_28 (dk_at dksX0_put_1 17 rfl rfl)
theorem dX0_put_40 : decode cX0_put 40 = .ok (.invokestatic 29, 3) := dk_184 0 29 (dk_at dksX0_put_1 18 rfl rfl)
theorem dX0_put_43 : decode cX0_put 43 = .ok (.aload_n 0, 1) := dk_42 (dk_at dksX0_put_1 21 rfl rfl)
theorem dX0_put_44 : decode cX0_put 44 = .ok (.getfield 7, 3) := dk_180 0 7 (dk_at dksX0_put_2 0 rfl rfl)
theorem dX0_put_47 : decode cX0_put 47 = .ok (.aload_n 0, 1) := dk_42 (dk_at dksX0_put_2 3 rfl rfl)
theorem dX0_put_48 : decode cX0_put 48 = .ok (.getfield 25, 3) := dk_180 0 25 (dk_at dksX0_put_2 4 rfl rfl)
theorem dX0_put_51 : decode cX0_put 51 = .ok (.bipush 8, 2) := dk_16 8 (dk_at dksX0_put_2 7 rfl rfl)
theorem dX0_put_53 : decode cX0_put 53 = .ok (.iadd, 1) := dk_96 (dk_at dksX0_put_2 9 rfl rfl)
theorem dX0_put_54 : decode cX0_put 54 = .ok (.iload_n 3, 1) := dk_29 (dk_at dksX0_put_2 10 rfl rfl)
theorem dX0_put_55 : decode cX0_put 55 = .ok (.invokestatic 29, 3) := dk_184 0 29 (dk_at dksX0_put_2 11 rfl rfl)
theorem dX0_put_58 : decode cX0_put 58 = .ok (.aload_n 0, 1) := dk_42 (dk_at dksX0_put_2 14 rfl rfl)
theorem dX0_put_59 : decode cX0_put 59 = .ok (.getfield 7, 3) := dk_180 0 7 (dk_at dksX0_put_2 15 rfl rfl)
theorem dX0_put_62 : decode cX0_put 62 = .ok (.aload_n 0, 1) := dk_42 (dk_at dksX0_put_2 18 rfl rfl)
theorem dX0_put_63 : decode cX0_put 63 = .ok (.getfield 25, 3) := dk_180 0 25 (dk_at dksX0_put_2 19 rfl rfl)
theorem dX0_put_66 : decode cX0_put 66 = .ok (.bipush 12, 2) := dk_16 12 (dk_at dksX0_put_2 22 rfl rfl)
theorem dX0_put_68 : decode cX0_put 68 = .ok (.iadd, 1) := dk_96 (dk_at dksX0_put_3 0 rfl rfl)
theorem dX0_put_69 : decode cX0_put 69 = .ok (.iload 4, 2) := dk_21 4 (dk_at dksX0_put_3 1 rfl rfl)
theorem dX0_put_71 : decode cX0_put 71 = .ok (.invokestatic 29, 3) := dk_184 0 29 (dk_at dksX0_put_3 3 rfl rfl)
theorem dX0_put_74 : decode cX0_put 74 = .ok (.aload_n 0, 1) := dk_42 (dk_at dksX0_put_3 6 rfl rfl)
theorem dX0_put_75 : decode cX0_put 75 = .ok (.dup, 1) := dk_89 (dk_at dksX0_put_3 7 rfl rfl)
theorem dX0_put_76 : decode cX0_put 76 = .ok (.getfield 25, 3) := dk_180 0 25 (dk_at dksX0_put_3 8 rfl rfl)
theorem dX0_put_79 : decode cX0_put 79 = .ok (.bipush 16, 2) := dk_16 16 (dk_at dksX0_put_3 11 rfl rfl)
theorem dX0_put_81 : decode cX0_put 81 = .ok (.iadd, 1) := dk_96 (dk_at dksX0_put_3 13 rfl rfl)
theorem dX0_put_82 : decode cX0_put 82 = .ok (.putfield 25, 3) := dk_181 0 25 (dk_at dksX0_put_3 14 rfl rfl)
theorem dX0_put_85 : decode cX0_put 85 = .ok (.iconst 1, 1) := dk_4 (dk_at dksX0_put_3 17 rfl rfl)
theorem dX0_put_86 : decode cX0_put 86 = .ok (.ireturn, 1) := dk_172 (dk_at dksX0_put_3 18 rfl rfl)
abbrev cX0_word : ByteArray := prog_2_method_3_code
def yX0_word : MethodName := ⟨RX0, "word", "([BII)V"⟩
def dkwX0_word_1 : List UInt8 := [16, 8, 122, 145, 84, 42, 27, 6, 96, 28, 145, 84, 177]
abbrev dktX0_word_1 : List UInt8 := dkwX0_word_1 ++ []
def dkwX0_word_0 : List UInt8 := [42, 27, 28, 16, 24, 122, 145, 84, 42, 27, 4, 96, 28, 16, 16, 122, 145, 84, 42, 27, 5, 96, 28]
abbrev dktX0_word_0 : List UInt8 := dkwX0_word_0 ++ dktX0_word_1
theorem dksX0_word_0 : cX0_word.data.toList.drop 0 = dktX0_word_0 := by decide +kernel
theorem dksX0_word_1 : cX0_word.data.toList.drop 23 = dktX0_word_1 := dk_seg dksX0_word_0 23 rfl rfl
theorem dX0_word_0 : decode cX0_word 0 = .ok (.aload_n 0, 1) := dk_42 (dk_at dksX0_word_0 0 rfl rfl)
theorem dX0_word_1 : decode cX0_word 1 = .ok (.iload_n 1, 1) := dk_27 (dk_at dksX0_word_0 1 rfl rfl)
theorem dX0_word_2 : decode cX0_word 2 = .ok (.iload_n 2, 1) := dk_28 (dk_at dksX0_word_0 2 rfl rfl)
theorem dX0_word_3 : decode cX0_word 3 = .ok (.bipush 24, 2) := dk_16 24 (dk_at dksX0_word_0 3 rfl rfl)
theorem dX0_word_5 : decode cX0_word 5 = .ok (.ishr, 1) := dk_122 (dk_at dksX0_word_0 5 rfl rfl)
theorem dX0_word_6 : decode cX0_word 6 = .ok (.i2b, 1) := dk_145 (dk_at dksX0_word_0 6 rfl rfl)
theorem dX0_word_7 : decode cX0_word 7 = .ok (.bastore, 1) := dk_84 (dk_at dksX0_word_0 7 rfl rfl)
theorem dX0_word_8 : decode cX0_word 8 = .ok (.aload_n 0, 1) := dk_42 (dk_at dksX0_word_0 8 rfl rfl)
theorem dX0_word_9 : decode cX0_word 9 = .ok (.iload_n 1, 1) := dk_27 (dk_at dksX0_word_0 9 rfl rfl)
theorem dX0_word_10 : decode cX0_word 10 = .ok (.iconst 1, 1) := dk_4 (dk_at dksX0_word_0 10 rfl rfl)
theorem dX0_word_11 : decode cX0_word 11 = .ok (.iadd, 1) := dk_96 (dk_at dksX0_word_0 11 rfl rfl)
theorem dX0_word_12 : decode cX0_word 12 = .ok (.iload_n 2, 1) := dk_28 (dk_at dksX0_word_0 12 rfl rfl)
theorem dX0_word_13 : decode cX0_word 13 = .ok (.bipush 16, 2) := dk_16 16 (dk_at dksX0_word_0 13 rfl rfl)
theorem dX0_word_15 : decode cX0_word 15 = .ok (.ishr, 1) := dk_122 (dk_at dksX0_word_0 15 rfl rfl)
theorem dX0_word_16 : decode cX0_word 16 = .ok (.i2b, 1) := dk_145 (dk_at dksX0_word_0 16 rfl rfl)
theorem dX0_word_17 : decode cX0_word 17 = .ok (.bastore, 1) := dk_84 (dk_at dksX0_word_0 17 rfl rfl)
theorem dX0_word_18 : decode cX0_word 18 = .ok (.aload_n 0, 1) := dk_42 (dk_at dksX0_word_0 18 rfl rfl)
theorem dX0_word_19 : decode cX0_word 19 = .ok (.iload_n 1, 1) := dk_27 (dk_at dksX0_word_0 19 rfl rfl)
theorem dX0_word_20 : decode cX0_word 20 = .ok (.iconst 2, 1) := dk_5 (dk_at dksX0_word_0 20 rfl rfl)
theorem dX0_word_21 : decode cX0_word 21 = .ok (.iadd, 1) := dk_96 (dk_at dksX0_word_0 21 rfl rfl)
theorem dX0_word_22 : decode cX0_word 22 = .ok (.iload_n 2, 1) := dk_28 (dk_at dksX0_word_0 22 rfl rfl)
theorem dX0_word_23 : decode cX0_word 23 = .ok (.bipush 8, 2) := dk_16 8 (dk_at dksX0_word_1 0 rfl rfl)
theorem dX0_word_25 : decode cX0_word 25 = .ok (.ishr, 1) := dk_122 (dk_at dksX0_word_1 2 rfl rfl)
theorem dX0_word_26 : decode cX0_word 26 = .ok (.i2b, 1) := dk_145 (dk_at dksX0_word_1 3 rfl rfl)
theorem dX0_word_27 : decode cX0_word 27 = .ok (.bastore, 1) := dk_84 (dk_at dksX0_word_1 4 rfl rfl)
theorem dX0_word_28 : decode cX0_word 28 = .ok (.aload_n 0, 1) := dk_42 (dk_at dksX0_word_1 5 rfl rfl)
theorem dX0_word_29 : decode cX0_word 29 = .ok (.iload_n 1, 1) := dk_27 (dk_at dksX0_word_1 6 rfl rfl)
theorem dX0_word_30 : decode cX0_word 30 = .ok (.iconst 3, 1) := dk_6 (dk_at dksX0_word_1 7 rfl rfl)
theorem dX0_word_31 : decode cX0_word 31 = .ok (.iadd, 1) := dk_96 (dk_at dksX0_word_1 8 rfl rfl)
theorem dX0_word_32 : decode cX0_word 32 = .ok (.iload_n 2, 1) := dk_28 (dk_at dksX0_word_1 9 rfl rfl)
theorem dX0_word_33 : decode cX0_word 33 = .ok (.i2b, 1) := dk_145 (dk_at dksX0_word_1 10 rfl rfl)
theorem dX0_word_34 : decode cX0_word 34 = .ok (.bastore, 1) := dk_84 (dk_at dksX0_word_1 11 rfl rfl)
theorem dX0_word_35 : decode cX0_word 35 = .ok (.return_, 1) := dk_177 (dk_at dksX0_word_1 12 rfl rfl)
abbrev cX0_trim : ByteArray := prog_2_method_4_code
def yX0_trim : MethodName := ⟨RX0, "trim", "(I)V"⟩
def dkwX0_trim_0 : List UInt8 := [42, 42, 27, 182, 0, 33, 181, 0, 25, 177]
abbrev dktX0_trim_0 : List UInt8 := dkwX0_trim_0 ++ []
theorem dksX0_trim_0 : cX0_trim.data.toList.drop 0 = dktX0_trim_0 := by decide +kernel
theorem dX0_trim_0 : decode cX0_trim 0 = .ok (.aload_n 0, 1) := dk_42 (dk_at dksX0_trim_0 0 rfl rfl)
theorem dX0_trim_1 : decode cX0_trim 1 = .ok (.aload_n 0, 1) := dk_42 (dk_at dksX0_trim_0 1 rfl rfl)
theorem dX0_trim_2 : decode cX0_trim 2 = .ok (.iload_n 1, 1) := dk_27 (dk_at dksX0_trim_0 2 rfl rfl)
theorem dX0_trim_3 : decode cX0_trim 3 = .ok (.invokevirtual 33, 3) := dk_182 0 33 (dk_at dksX0_trim_0 3 rfl rfl)
theorem dX0_trim_6 : decode cX0_trim 6 = .ok (.putfield 25, 3) := dk_181 0 25 (dk_at dksX0_trim_0 6 rfl rfl)
theorem dX0_trim_9 : decode cX0_trim 9 = .ok (.return_, 1) := dk_177 (dk_at dksX0_trim_0 9 rfl rfl)
abbrev cX0_from : ByteArray := prog_2_method_5_code
def yX0_from : MethodName := ⟨RX0, "from", "(I)I"⟩
def dkwX0_from_0 : List UInt8 := [27, 18, 37, 126, 42, 180, 0, 25, 4, 96, 112, 172]
abbrev dktX0_from_0 : List UInt8 := dkwX0_from_0 ++ []
theorem dksX0_from_0 : cX0_from.data.toList.drop 0 = dktX0_from_0 := by decide +kernel
theorem dX0_from_0 : decode cX0_from 0 = .ok (.iload_n 1, 1) := dk_27 (dk_at dksX0_from_0 0 rfl rfl)
theorem dX0_from_1 : decode cX0_from 1 = .ok (.ldc 37, 2) := dk_18 37 (dk_at dksX0_from_0 1 rfl rfl)
theorem dX0_from_3 : decode cX0_from 3 = .ok (.iand, 1) := dk_126 (dk_at dksX0_from_0 3 rfl rfl)
theorem dX0_from_4 : decode cX0_from 4 = .ok (.aload_n 0, 1) := dk_42 (dk_at dksX0_from_0 4 rfl rfl)
theorem dX0_from_5 : decode cX0_from 5 = .ok (.getfield 25, 3) := dk_180 0 25 (dk_at dksX0_from_0 5 rfl rfl)
theorem dX0_from_8 : decode cX0_from 8 = .ok (.iconst 1, 1) := dk_4 (dk_at dksX0_from_0 8 rfl rfl)
theorem dX0_from_9 : decode cX0_from 9 = .ok (.iadd, 1) := dk_96 (dk_at dksX0_from_0 9 rfl rfl)
theorem dX0_from_10 : decode cX0_from 10 = .ok (.irem, 1) := dk_112 (dk_at dksX0_from_0 10 rfl rfl)
theorem dX0_from_11 : decode cX0_from 11 = .ok (.ireturn, 1) := dk_172 (dk_at dksX0_from_0 11 rfl rfl)
abbrev cX0_byteIn : ByteArray := prog_2_method_8_code
def yX0_byteIn : MethodName := ⟨RX0, "byteIn", "(I)Z"⟩
def dkwX0_byteIn_1 : List UInt8 := [4, 172]
abbrev dktX0_byteIn_1 : List UInt8 := dkwX0_byteIn_1 ++ []
def dkwX0_byteIn_0 : List UInt8 := [42, 180, 0, 18, 180, 0, 42, 17, 6, 64, 161, 0, 5, 3, 172, 42, 180, 0, 18, 27, 145, 182, 0, 45]
abbrev dktX0_byteIn_0 : List UInt8 := dkwX0_byteIn_0 ++ dktX0_byteIn_1
theorem dksX0_byteIn_0 : cX0_byteIn.data.toList.drop 0 = dktX0_byteIn_0 := by decide +kernel
theorem dksX0_byteIn_1 : cX0_byteIn.data.toList.drop 24 = dktX0_byteIn_1 := dk_seg dksX0_byteIn_0 24 rfl rfl
theorem dX0_byteIn_0 : decode cX0_byteIn 0 = .ok (.aload_n 0, 1) := dk_42 (dk_at dksX0_byteIn_0 0 rfl rfl)
theorem dX0_byteIn_1 : decode cX0_byteIn 1 = .ok (.getfield 18, 3) := dk_180 0 18 (dk_at dksX0_byteIn_0 1 rfl rfl)
theorem dX0_byteIn_4 : decode cX0_byteIn 4 = .ok (.getfield 42, 3) := dk_180 0 42 (dk_at dksX0_byteIn_0 4 rfl rfl)
theorem dX0_byteIn_7 : decode cX0_byteIn 7 = .ok (.sipush 1600, 3) := dk_17 6 64 (dk_at dksX0_byteIn_0 7 rfl rfl)
theorem dX0_byteIn_10 : decode cX0_byteIn 10 = .ok (.if_icmp .lt 5, 3) := dk_161 0 5 (dk_at dksX0_byteIn_0 10 rfl rfl)
theorem dX0_byteIn_13 : decode cX0_byteIn 13 = .ok (.iconst 0, 1) := dk_3 (dk_at dksX0_byteIn_0 13 rfl rfl)
theorem dX0_byteIn_14 : decode cX0_byteIn 14 = .ok (.ireturn, 1) := dk_172 (dk_at dksX0_byteIn_0 14 rfl rfl)
theorem dX0_byteIn_15 : decode cX0_byteIn 15 = .ok (.aload_n 0, 1) := dk_42 (dk_at dksX0_byteIn_0 15 rfl rfl)
theorem dX0_byteIn_16 : decode cX0_byteIn 16 = .ok (.getfield 18, 3) := dk_180 0 18 (dk_at dksX0_byteIn_0 16 rfl rfl)
theorem dX0_byteIn_19 : decode cX0_byteIn 19 = .ok (.iload_n 1, 1) := dk_27 (dk_at dksX0_byteIn_0 19 rfl rfl)
theorem dX0_byteIn_20 : decode cX0_byteIn 20 = .ok (.i2b, 1) := dk_145 (dk_at dksX0_byteIn_0 20 rfl rfl)
theorem dX0_byteIn_21 : decode cX0_byteIn 21 = .ok (.invokevirtual 45, 3) := dk_182 0 45 (dk_at dksX0_byteIn_0 21 rfl rfl)
theorem dX0_byteIn_24 : decode cX0_byteIn 24 = .ok (.iconst 1, 1) := dk_4 (dk_at dksX0_byteIn_1 0 rfl rfl)
theorem dX0_byteIn_25 : decode cX0_byteIn 25 = .ok (.ireturn, 1) := dk_172 (dk_at dksX0_byteIn_1 1 rfl rfl)
abbrev cX0_intIn : ByteArray := prog_2_method_9_code
def yX0_intIn : MethodName := ⟨RX0, "intIn", "(I)Z"⟩
def dkwX0_intIn_1 : List UInt8 := [172]
abbrev dktX0_intIn_1 : List UInt8 := dkwX0_intIn_1 ++ []
def dkwX0_intIn_0 : List UInt8 := [42, 180, 0, 18, 180, 0, 42, 17, 6, 64, 161, 0, 5, 3, 172, 42, 180, 0, 18, 27, 182, 0, 49, 4]
abbrev dktX0_intIn_0 : List UInt8 := dkwX0_intIn_0 ++ dktX0_intIn_1
theorem dksX0_intIn_0 : cX0_intIn.data.toList.drop 0 = dktX0_intIn_0 := by decide +kernel
theorem dksX0_intIn_1 : cX0_intIn.data.toList.drop 24 = dktX0_intIn_1 := dk_seg dksX0_intIn_0 24 rfl rfl
theorem dX0_intIn_0 : decode cX0_intIn 0 = .ok (.aload_n 0, 1) := dk_42 (dk_at dksX0_intIn_0 0 rfl rfl)
theorem dX0_intIn_1 : decode cX0_intIn 1 = .ok (.getfield 18, 3) := dk_180 0 18 (dk_at dksX0_intIn_0 1 rfl rfl)
theorem dX0_intIn_4 : decode cX0_intIn 4 = .ok (.getfield 42, 3) := dk_180 0 42 (dk_at dksX0_intIn_0 4 rfl rfl)
theorem dX0_intIn_7 : decode cX0_intIn 7 = .ok (.sipush 1600, 3) := dk_17 6 64 (dk_at dksX0_intIn_0 7 rfl rfl)
theorem dX0_intIn_10 : decode cX0_intIn 10 = .ok (.if_icmp .lt 5, 3) := dk_161 0 5 (dk_at dksX0_intIn_0 10 rfl rfl)
theorem dX0_intIn_13 : decode cX0_intIn 13 = .ok (.iconst 0, 1) := dk_3 (dk_at dksX0_intIn_0 13 rfl rfl)
theorem dX0_intIn_14 : decode cX0_intIn 14 = .ok (.ireturn, 1) := dk_172 (dk_at dksX0_intIn_0 14 rfl rfl)
theorem dX0_intIn_15 : decode cX0_intIn 15 = .ok (.aload_n 0, 1) := dk_42 (dk_at dksX0_intIn_0 15 rfl rfl)
theorem dX0_intIn_16 : decode cX0_intIn 16 = .ok (.getfield 18, 3) := dk_180 0 18 (dk_at dksX0_intIn_0 16 rfl rfl)
theorem dX0_intIn_19 : decode cX0_intIn 19 = .ok (.iload_n 1, 1) := dk_27 (dk_at dksX0_intIn_0 19 rfl rfl)
theorem dX0_intIn_20 : decode cX0_intIn 20 = .ok (.invokevirtual 49, 3) := dk_182 0 49 (dk_at dksX0_intIn_0 20 rfl rfl)
theorem dX0_intIn_23 : decode cX0_intIn 23 = .ok (.iconst 1, 1) := dk_4 (dk_at dksX0_intIn_0 23 rfl rfl)
theorem dX0_intIn_24 : decode cX0_intIn 24 = .ok (.ireturn, 1) := dk_172 (dk_at dksX0_intIn_1 0 rfl rfl)
abbrev cX0_longIn : ByteArray := prog_2_method_10_code
def yX0_longIn : MethodName := ⟨RX0, "longIn", "(II)Z"⟩
def dkwX0_longIn_1 : List UInt8 := [28, 133, 20, 0, 52, 127, 129, 182, 0, 54, 4, 172]
abbrev dktX0_longIn_1 : List UInt8 := dkwX0_longIn_1 ++ []
def dkwX0_longIn_0 : List UInt8 := [42, 180, 0, 18, 180, 0, 42, 17, 6, 64, 161, 0, 5, 3, 172, 42, 180, 0, 18, 27, 133, 16, 32, 121]
abbrev dktX0_longIn_0 : List UInt8 := dkwX0_longIn_0 ++ dktX0_longIn_1
theorem dksX0_longIn_0 : cX0_longIn.data.toList.drop 0 = dktX0_longIn_0 := by decide +kernel
theorem dksX0_longIn_1 : cX0_longIn.data.toList.drop 24 = dktX0_longIn_1 := dk_seg dksX0_longIn_0 24 rfl rfl
theorem dX0_longIn_0 : decode cX0_longIn 0 = .ok (.aload_n 0, 1) := dk_42 (dk_at dksX0_longIn_0 0 rfl rfl)
theorem dX0_longIn_1 : decode cX0_longIn 1 = .ok (.getfield 18, 3) := dk_180 0 18 (dk_at dksX0_longIn_0 1 rfl rfl)
theorem dX0_longIn_4 : decode cX0_longIn 4 = .ok (.getfield 42, 3) := dk_180 0 42 (dk_at dksX0_longIn_0 4 rfl rfl)
theorem dX0_longIn_7 : decode cX0_longIn 7 = .ok (.sipush 1600, 3) := dk_17 6 64 (dk_at dksX0_longIn_0 7 rfl rfl)
theorem dX0_longIn_10 : decode cX0_longIn 10 = .ok (.if_icmp .lt 5, 3) := dk_161 0 5 (dk_at dksX0_longIn_0 10 rfl rfl)
theorem dX0_longIn_13 : decode cX0_longIn 13 = .ok (.iconst 0, 1) := dk_3 (dk_at dksX0_longIn_0 13 rfl rfl)
theorem dX0_longIn_14 : decode cX0_longIn 14 = .ok (.ireturn, 1) := dk_172 (dk_at dksX0_longIn_0 14 rfl rfl)
theorem dX0_longIn_15 : decode cX0_longIn 15 = .ok (.aload_n 0, 1) := dk_42 (dk_at dksX0_longIn_0 15 rfl rfl)
theorem dX0_longIn_16 : decode cX0_longIn 16 = .ok (.getfield 18, 3) := dk_180 0 18 (dk_at dksX0_longIn_0 16 rfl rfl)
theorem dX0_longIn_19 : decode cX0_longIn 19 = .ok (.iload_n 1, 1) := dk_27 (dk_at dksX0_longIn_0 19 rfl rfl)
theorem dX0_longIn_20 : decode cX0_longIn 20 = .ok (.i2l, 1) := dk_133 (dk_at dksX0_longIn_0 20 rfl rfl)
theorem dX0_longIn_21 : decode cX0_longIn 21 = .ok (.bipush 32, 2) := dk_16 32 (dk_at dksX0_longIn_0 21 rfl rfl)
theorem dX0_longIn_23 : decode cX0_longIn 23 = .ok (.lshl, 1) := dk_121 (dk_at dksX0_longIn_0 23 rfl rfl)
theorem dX0_longIn_24 : decode cX0_longIn 24 = .ok (.iload_n 2, 1) := dk_28 (dk_at dksX0_longIn_1 0 rfl rfl)
theorem dX0_longIn_25 : decode cX0_longIn 25 = .ok (.i2l, 1) := dk_133 (dk_at dksX0_longIn_1 1 rfl rfl)
theorem dX0_longIn_26 : decode cX0_longIn 26 = .ok (.ldc2_w 52, 3) := dk_20 0 52 (dk_at dksX0_longIn_1 2 rfl rfl)
theorem dX0_longIn_29 : decode cX0_longIn 29 = .ok (.land, 1) := dk_127 (dk_at dksX0_longIn_1 5 rfl rfl)
theorem dX0_longIn_30 : decode cX0_longIn 30 = .ok (.lor, 1) := dk_129 (dk_at dksX0_longIn_1 6 rfl rfl)
theorem dX0_longIn_31 : decode cX0_longIn 31 = .ok (.invokevirtual 54, 3) := dk_182 0 54 (dk_at dksX0_longIn_1 7 rfl rfl)
theorem dX0_longIn_34 : decode cX0_longIn 34 = .ok (.iconst 1, 1) := dk_4 (dk_at dksX0_longIn_1 10 rfl rfl)
theorem dX0_longIn_35 : decode cX0_longIn 35 = .ok (.ireturn, 1) := dk_172 (dk_at dksX0_longIn_1 11 rfl rfl)
abbrev cX0_stringIn : ByteArray := prog_2_method_11_code
def yX0_stringIn : MethodName := ⟨RX0, "stringIn", "(II)Z"⟩
def dkwX0_stringIn_1 : List UInt8 := [182, 0, 58, 182, 0, 62, 4, 172]
abbrev dktX0_stringIn_1 : List UInt8 := dkwX0_stringIn_1 ++ []
def dkwX0_stringIn_0 : List UInt8 := [42, 180, 0, 18, 180, 0, 42, 17, 6, 64, 161, 0, 5, 3, 172, 42, 180, 0, 18, 42, 27, 28]
abbrev dktX0_stringIn_0 : List UInt8 := dkwX0_stringIn_0 ++ dktX0_stringIn_1
theorem dksX0_stringIn_0 : cX0_stringIn.data.toList.drop 0 = dktX0_stringIn_0 := by decide +kernel
theorem dksX0_stringIn_1 : cX0_stringIn.data.toList.drop 22 = dktX0_stringIn_1 := dk_seg dksX0_stringIn_0 22 rfl rfl
theorem dX0_stringIn_0 : decode cX0_stringIn 0 = .ok (.aload_n 0, 1) := dk_42 (dk_at dksX0_stringIn_0 0 rfl rfl)
theorem dX0_stringIn_1 : decode cX0_stringIn 1 = .ok (.getfield 18, 3) := dk_180 0 18 (dk_at dksX0_stringIn_0 1 rfl rfl)
theorem dX0_stringIn_4 : decode cX0_stringIn 4 = .ok (.getfield 42, 3) := dk_180 0 42 (dk_at dksX0_stringIn_0 4 rfl rfl)
theorem dX0_stringIn_7 : decode cX0_stringIn 7 = .ok (.sipush 1600, 3) := dk_17 6 64 (dk_at dksX0_stringIn_0 7 rfl rfl)
theorem dX0_stringIn_10 : decode cX0_stringIn 10 = .ok (.if_icmp .lt 5, 3) := dk_161 0 5 (dk_at dksX0_stringIn_0 10 rfl rfl)
theorem dX0_stringIn_13 : decode cX0_stringIn 13 = .ok (.iconst 0, 1) := dk_3 (dk_at dksX0_stringIn_0 13 rfl rfl)
theorem dX0_stringIn_14 : decode cX0_stringIn 14 = .ok (.ireturn, 1) := dk_172 (dk_at dksX0_stringIn_0 14 rfl rfl)
theorem dX0_stringIn_15 : decode cX0_stringIn 15 = .ok (.aload_n 0, 1) := dk_42 (dk_at dksX0_stringIn_0 15 rfl rfl)
theorem dX0_stringIn_16 : decode cX0_stringIn 16 = .ok (.getfield 18, 3) := dk_180 0 18 (dk_at dksX0_stringIn_0 16 rfl rfl)
theorem dX0_stringIn_19 : decode cX0_stringIn 19 = .ok (.aload_n 0, 1) := dk_42 (dk_at dksX0_stringIn_0 19 rfl rfl)
theorem dX0_stringIn_20 : decode cX0_stringIn 20 = .ok (.iload_n 1, 1) := dk_27 (dk_at dksX0_stringIn_0 20 rfl rfl)
theorem dX0_stringIn_21 : decode cX0_stringIn 21 = .ok (.iload_n 2, 1) := dk_28 (dk_at dksX0_stringIn_0 21 rfl rfl)
theorem dX0_stringIn_22 : decode cX0_stringIn 22 = .ok (.invokevirtual 58, 3) := dk_182 0 58 (dk_at dksX0_stringIn_1 0 rfl rfl)
theorem dX0_stringIn_25 : decode cX0_stringIn 25 = .ok (.invokevirtual 62, 3) := dk_182 0 62 (dk_at dksX0_stringIn_1 3 rfl rfl)
theorem dX0_stringIn_28 : decode cX0_stringIn 28 = .ok (.iconst 1, 1) := dk_4 (dk_at dksX0_stringIn_1 6 rfl rfl)
theorem dX0_stringIn_29 : decode cX0_stringIn 29 = .ok (.ireturn, 1) := dk_172 (dk_at dksX0_stringIn_1 7 rfl rfl)
abbrev cX0_part : ByteArray := prog_2_method_7_code
def yX0_part : MethodName := ⟨RX0, "part", "(II)[B"⟩
def dkwX0_part_2 : List UInt8 := [167, 255, 232, 25, 5, 176]
abbrev dktX0_part_2 : List UInt8 := dkwX0_part_2 ++ []
def dkwX0_part_1 : List UInt8 := [21, 6, 21, 4, 162, 0, 23, 25, 5, 21, 6, 42, 180, 0, 7, 29, 21, 6, 96, 51, 84, 132, 6, 1]
abbrev dktX0_part_1 : List UInt8 := dkwX0_part_1 ++ dktX0_part_2
def dkwX0_part_0 : List UInt8 := [42, 27, 182, 0, 33, 62, 42, 29, 28, 182, 0, 38, 54, 4, 21, 4, 188, 8, 58, 5, 3, 54, 6]
abbrev dktX0_part_0 : List UInt8 := dkwX0_part_0 ++ dktX0_part_1
theorem dksX0_part_0 : cX0_part.data.toList.drop 0 = dktX0_part_0 := by decide +kernel
theorem dksX0_part_1 : cX0_part.data.toList.drop 23 = dktX0_part_1 := dk_seg dksX0_part_0 23 rfl rfl
theorem dksX0_part_2 : cX0_part.data.toList.drop 47 = dktX0_part_2 := dk_seg dksX0_part_1 24 rfl rfl
theorem dX0_part_0 : decode cX0_part 0 = .ok (.aload_n 0, 1) := dk_42 (dk_at dksX0_part_0 0 rfl rfl)
theorem dX0_part_1 : decode cX0_part 1 = .ok (.iload_n 1, 1) := dk_27 (dk_at dksX0_part_0 1 rfl rfl)
theorem dX0_part_2 : decode cX0_part 2 = .ok (.invokevirtual 33, 3) := dk_182 0 33 (dk_at dksX0_part_0 2 rfl rfl)
theorem dX0_part_5 : decode cX0_part 5 = .ok (.istore_n 3, 1) := dk_62 (dk_at dksX0_part_0 5 rfl rfl)
theorem dX0_part_6 : decode cX0_part 6 = .ok (.aload_n 0, 1) := dk_42 (dk_at dksX0_part_0 6 rfl rfl)
theorem dX0_part_7 : decode cX0_part 7 = .ok (.iload_n 3, 1) := dk_29 (dk_at dksX0_part_0 7 rfl rfl)
theorem dX0_part_8 : decode cX0_part 8 = .ok (.iload_n 2, 1) := dk_28 (dk_at dksX0_part_0 8 rfl rfl)
theorem dX0_part_9 : decode cX0_part 9 = .ok (.invokevirtual 38, 3) := dk_182 0 38 (dk_at dksX0_part_0 9 rfl rfl)
theorem dX0_part_12 : decode cX0_part 12 = .ok (.istore 4, 2) := dk_54 4 (dk_at dksX0_part_0 12 rfl rfl)
theorem dX0_part_14 : decode cX0_part 14 = .ok (.iload 4, 2) := dk_21 4 (dk_at dksX0_part_0 14 rfl rfl)
theorem dX0_part_16 : decode cX0_part 16 = .ok (.newarray .byte, 2) := dk_188_8 (dk_at dksX0_part_0 16 rfl rfl)
theorem dX0_part_18 : decode cX0_part 18 = .ok (.astore 5, 2) := dk_58 5 (dk_at dksX0_part_0 18 rfl rfl)
theorem dX0_part_20 : decode cX0_part 20 = .ok (.iconst 0, 1) := dk_3 (dk_at dksX0_part_0 20 rfl rfl)
theorem dX0_part_21 : decode cX0_part 21 = .ok (.istore 6, 2) := dk_54 6 (dk_at dksX0_part_0 21 rfl rfl)
theorem dX0_part_23 : decode cX0_part 23 = .ok (.iload 6, 2) := dk_21 6 (dk_at dksX0_part_1 0 rfl rfl)
theorem dX0_part_25 : decode cX0_part 25 = .ok (.iload 4, 2) := dk_21 4 (dk_at dksX0_part_1 2 rfl rfl)
theorem dX0_part_27 : decode cX0_part 27 = .ok (.if_icmp .ge 23, 3) := dk_162 0 23 (dk_at dksX0_part_1 4 rfl rfl)
theorem dX0_part_30 : decode cX0_part 30 = .ok (.aload 5, 2) := dk_25 5 (dk_at dksX0_part_1 7 rfl rfl)
theorem dX0_part_32 : decode cX0_part 32 = .ok (.iload 6, 2) := dk_21 6 (dk_at dksX0_part_1 9 rfl rfl)
theorem dX0_part_34 : decode cX0_part 34 = .ok (.aload_n 0, 1) := dk_42 (dk_at dksX0_part_1 11 rfl rfl)
theorem dX0_part_35 : decode cX0_part 35 = .ok (.getfield 7, 3) := dk_180 0 7 (dk_at dksX0_part_1 12 rfl rfl)
theorem dX0_part_38 : decode cX0_part 38 = .ok (.iload_n 3, 1) := dk_29 (dk_at dksX0_part_1 15 rfl rfl)
theorem dX0_part_39 : decode cX0_part 39 = .ok (.iload 6, 2) := dk_21 6 (dk_at dksX0_part_1 16 rfl rfl)
theorem dX0_part_41 : decode cX0_part 41 = .ok (.iadd, 1) := dk_96 (dk_at dksX0_part_1 18 rfl rfl)
theorem dX0_part_42 : decode cX0_part 42 = .ok (.baload, 1) := dk_51 (dk_at dksX0_part_1 19 rfl rfl)
theorem dX0_part_43 : decode cX0_part 43 = .ok (.bastore, 1) := dk_84 (dk_at dksX0_part_1 20 rfl rfl)
theorem dX0_part_44 : decode cX0_part 44 = .ok (.iinc 6 1, 3) := dk_132 6 1 (dk_at dksX0_part_1 21 rfl rfl)
theorem dX0_part_47 : decode cX0_part 47 = .ok (.goto (-24), 3) := dk_167 255 232 (dk_at dksX0_part_2 0 rfl rfl)
theorem dX0_part_50 : decode cX0_part 50 = .ok (.aload 5, 2) := dk_25 5 (dk_at dksX0_part_2 3 rfl rfl)
theorem dX0_part_52 : decode cX0_part 52 = .ok (.areturn, 1) := dk_176 (dk_at dksX0_part_2 5 rfl rfl)
abbrev cX0_count : ByteArray := prog_2_method_6_code
def yX0_count : MethodName := ⟨RX0, "count", "(II)I"⟩
def dkwX0_count_0 : List UInt8 := [28, 18, 37, 126, 42, 180, 0, 25, 27, 100, 4, 96, 112, 172]
abbrev dktX0_count_0 : List UInt8 := dkwX0_count_0 ++ []
theorem dksX0_count_0 : cX0_count.data.toList.drop 0 = dktX0_count_0 := by decide +kernel
theorem dX0_count_0 : decode cX0_count 0 = .ok (.iload_n 2, 1) := dk_28 (dk_at dksX0_count_0 0 rfl rfl)
theorem dX0_count_1 : decode cX0_count 1 = .ok (.ldc 37, 2) := dk_18 37 (dk_at dksX0_count_0 1 rfl rfl)
theorem dX0_count_3 : decode cX0_count 3 = .ok (.iand, 1) := dk_126 (dk_at dksX0_count_0 3 rfl rfl)
theorem dX0_count_4 : decode cX0_count 4 = .ok (.aload_n 0, 1) := dk_42 (dk_at dksX0_count_0 4 rfl rfl)
theorem dX0_count_5 : decode cX0_count 5 = .ok (.getfield 25, 3) := dk_180 0 25 (dk_at dksX0_count_0 5 rfl rfl)
theorem dX0_count_8 : decode cX0_count 8 = .ok (.iload_n 1, 1) := dk_27 (dk_at dksX0_count_0 8 rfl rfl)
theorem dX0_count_9 : decode cX0_count 9 = .ok (.isub, 1) := dk_100 (dk_at dksX0_count_0 9 rfl rfl)
theorem dX0_count_10 : decode cX0_count 10 = .ok (.iconst 1, 1) := dk_4 (dk_at dksX0_count_0 10 rfl rfl)
theorem dX0_count_11 : decode cX0_count 11 = .ok (.iadd, 1) := dk_96 (dk_at dksX0_count_0 11 rfl rfl)
theorem dX0_count_12 : decode cX0_count 12 = .ok (.irem, 1) := dk_112 (dk_at dksX0_count_0 12 rfl rfl)
theorem dX0_count_13 : decode cX0_count 13 = .ok (.ireturn, 1) := dk_172 (dk_at dksX0_count_0 13 rfl rfl)
abbrev cX0_numberIn : ByteArray := prog_2_method_12_code
def yX0_numberIn : MethodName := ⟨RX0, "numberIn", "(II)Z"⟩
def dkwX0_numberIn_1 : List UInt8 := [154, 0, 5, 3, 172, 42, 180, 0, 18, 45, 182, 0, 66, 4, 172]
abbrev dktX0_numberIn_1 : List UInt8 := dkwX0_numberIn_1 ++ []
def dkwX0_numberIn_0 : List UInt8 := [42, 27, 28, 182, 0, 58, 78, 42, 180, 0, 18, 180, 0, 42, 17, 6, 64, 162, 0, 8, 45, 190]
abbrev dktX0_numberIn_0 : List UInt8 := dkwX0_numberIn_0 ++ dktX0_numberIn_1
theorem dksX0_numberIn_0 : cX0_numberIn.data.toList.drop 0 = dktX0_numberIn_0 := by decide +kernel
theorem dksX0_numberIn_1 : cX0_numberIn.data.toList.drop 22 = dktX0_numberIn_1 := dk_seg dksX0_numberIn_0 22 rfl rfl
theorem dX0_numberIn_0 : decode cX0_numberIn 0 = .ok (.aload_n 0, 1) := dk_42 (dk_at dksX0_numberIn_0 0 rfl rfl)
theorem dX0_numberIn_1 : decode cX0_numberIn 1 = .ok (.iload_n 1, 1) := dk_27 (dk_at dksX0_numberIn_0 1 rfl rfl)
theorem dX0_numberIn_2 : decode cX0_numberIn 2 = .ok (.iload_n 2, 1) := dk_28 (dk_at dksX0_numberIn_0 2 rfl rfl)
theorem dX0_numberIn_3 : decode cX0_numberIn 3 = .ok (.invokevirtual 58, 3) := dk_182 0 58 (dk_at dksX0_numberIn_0 3 rfl rfl)
theorem dX0_numberIn_6 : decode cX0_numberIn 6 = .ok (.astore_n 3, 1) := dk_78 (dk_at dksX0_numberIn_0 6 rfl rfl)
theorem dX0_numberIn_7 : decode cX0_numberIn 7 = .ok (.aload_n 0, 1) := dk_42 (dk_at dksX0_numberIn_0 7 rfl rfl)
theorem dX0_numberIn_8 : decode cX0_numberIn 8 = .ok (.getfield 18, 3) := dk_180 0 18 (dk_at dksX0_numberIn_0 8 rfl rfl)
theorem dX0_numberIn_11 : decode cX0_numberIn 11 = .ok (.getfield 42, 3) := dk_180 0 42 (dk_at dksX0_numberIn_0 11 rfl rfl)
theorem dX0_numberIn_14 : decode cX0_numberIn 14 = .ok (.sipush 1600, 3) := dk_17 6 64 (dk_at dksX0_numberIn_0 14 rfl rfl)
theorem dX0_numberIn_17 : decode cX0_numberIn 17 = .ok (.if_icmp .ge 8, 3) := dk_162 0 8 (dk_at dksX0_numberIn_0 17 rfl rfl)
theorem dX0_numberIn_20 : decode cX0_numberIn 20 = .ok (.aload_n 3, 1) := dk_45 (dk_at dksX0_numberIn_0 20 rfl rfl)
theorem dX0_numberIn_21 : decode cX0_numberIn 21 = .ok (.arraylength, 1) := dk_190 (dk_at dksX0_numberIn_0 21 rfl rfl)
theorem dX0_numberIn_22 : decode cX0_numberIn 22 = .ok (.ifCond .ne 5, 3) := dk_154 0 5 (dk_at dksX0_numberIn_1 0 rfl rfl)
theorem dX0_numberIn_25 : decode cX0_numberIn 25 = .ok (.iconst 0, 1) := dk_3 (dk_at dksX0_numberIn_1 3 rfl rfl)
theorem dX0_numberIn_26 : decode cX0_numberIn 26 = .ok (.ireturn, 1) := dk_172 (dk_at dksX0_numberIn_1 4 rfl rfl)
theorem dX0_numberIn_27 : decode cX0_numberIn 27 = .ok (.aload_n 0, 1) := dk_42 (dk_at dksX0_numberIn_1 5 rfl rfl)
theorem dX0_numberIn_28 : decode cX0_numberIn 28 = .ok (.getfield 18, 3) := dk_180 0 18 (dk_at dksX0_numberIn_1 6 rfl rfl)
theorem dX0_numberIn_31 : decode cX0_numberIn 31 = .ok (.aload_n 3, 1) := dk_45 (dk_at dksX0_numberIn_1 9 rfl rfl)
theorem dX0_numberIn_32 : decode cX0_numberIn 32 = .ok (.invokevirtual 66, 3) := dk_182 0 66 (dk_at dksX0_numberIn_1 10 rfl rfl)
theorem dX0_numberIn_35 : decode cX0_numberIn 35 = .ok (.iconst 1, 1) := dk_4 (dk_at dksX0_numberIn_1 13 rfl rfl)
theorem dX0_numberIn_36 : decode cX0_numberIn 36 = .ok (.ireturn, 1) := dk_172 (dk_at dksX0_numberIn_1 14 rfl rfl)
abbrev cX0_left : ByteArray := prog_2_method_13_code
def yX0_left : MethodName := ⟨RX0, "left", "()I"⟩
def dkwX0_left_0 : List UInt8 := [42, 180, 0, 18, 182, 0, 69, 172]
abbrev dktX0_left_0 : List UInt8 := dkwX0_left_0 ++ []
theorem dksX0_left_0 : cX0_left.data.toList.drop 0 = dktX0_left_0 := by decide +kernel
theorem dX0_left_0 : decode cX0_left 0 = .ok (.aload_n 0, 1) := dk_42 (dk_at dksX0_left_0 0 rfl rfl)
theorem dX0_left_1 : decode cX0_left 1 = .ok (.getfield 18, 3) := dk_180 0 18 (dk_at dksX0_left_0 1 rfl rfl)
theorem dX0_left_4 : decode cX0_left 4 = .ok (.invokevirtual 69, 3) := dk_182 0 69 (dk_at dksX0_left_0 4 rfl rfl)
theorem dX0_left_7 : decode cX0_left 7 = .ok (.ireturn, 1) := dk_172 (dk_at dksX0_left_0 7 rfl rfl)
abbrev cX0_byteOut : ByteArray := prog_2_method_14_code
def yX0_byteOut : MethodName := ⟨RX0, "byteOut", "()I"⟩
def dkwX0_byteOut_1 : List UInt8 := [17, 0, 255, 126, 172]
abbrev dktX0_byteOut_1 : List UInt8 := dkwX0_byteOut_1 ++ []
def dkwX0_byteOut_0 : List UInt8 := [42, 180, 0, 18, 182, 0, 69, 4, 162, 0, 7, 2, 167, 0, 14, 42, 180, 0, 18, 182, 0, 73]
abbrev dktX0_byteOut_0 : List UInt8 := dkwX0_byteOut_0 ++ dktX0_byteOut_1
theorem dksX0_byteOut_0 : cX0_byteOut.data.toList.drop 0 = dktX0_byteOut_0 := by decide +kernel
theorem dksX0_byteOut_1 : cX0_byteOut.data.toList.drop 22 = dktX0_byteOut_1 := dk_seg dksX0_byteOut_0 22 rfl rfl
theorem dX0_byteOut_0 : decode cX0_byteOut 0 = .ok (.aload_n 0, 1) := dk_42 (dk_at dksX0_byteOut_0 0 rfl rfl)
theorem dX0_byteOut_1 : decode cX0_byteOut 1 = .ok (.getfield 18, 3) := dk_180 0 18 (dk_at dksX0_byteOut_0 1 rfl rfl)
theorem dX0_byteOut_4 : decode cX0_byteOut 4 = .ok (.invokevirtual 69, 3) := dk_182 0 69 (dk_at dksX0_byteOut_0 4 rfl rfl)
theorem dX0_byteOut_7 : decode cX0_byteOut 7 = .ok (.iconst 1, 1) := dk_4 (dk_at dksX0_byteOut_0 7 rfl rfl)
theorem dX0_byteOut_8 : decode cX0_byteOut 8 = .ok (.if_icmp .ge 7, 3) := dk_162 0 7 (dk_at dksX0_byteOut_0 8 rfl rfl)
theorem dX0_byteOut_11 : decode cX0_byteOut 11 = .ok (.iconst (-1), 1) := dk_2 (dk_at dksX0_byteOut_0 11 rfl rfl)
theorem dX0_byteOut_12 : decode cX0_byteOut 12 = .ok (.goto 14, 3) := dk_167 0 14 (dk_at dksX0_byteOut_0 12 rfl rfl)
theorem dX0_byteOut_15 : decode cX0_byteOut 15 = .ok (.aload_n 0, 1) := dk_42 (dk_at dksX0_byteOut_0 15 rfl rfl)
theorem dX0_byteOut_16 : decode cX0_byteOut 16 = .ok (.getfield 18, 3) := dk_180 0 18 (dk_at dksX0_byteOut_0 16 rfl rfl)
theorem dX0_byteOut_19 : decode cX0_byteOut 19 = .ok (.invokevirtual 73, 3) := dk_182 0 73 (dk_at dksX0_byteOut_0 19 rfl rfl)
theorem dX0_byteOut_22 : decode cX0_byteOut 22 = .ok (.sipush 255, 3) := dk_17 0 255 (dk_at dksX0_byteOut_1 0 rfl rfl)
theorem dX0_byteOut_25 : decode cX0_byteOut 25 = .ok (.iand, 1) := dk_126 (dk_at dksX0_byteOut_1 3 rfl rfl)
theorem dX0_byteOut_26 : decode cX0_byteOut 26 = .ok (.ireturn, 1) := dk_172 (dk_at dksX0_byteOut_1 4 rfl rfl)
abbrev cX0_shortOut : ByteArray := prog_2_method_15_code
def yX0_shortOut : MethodName := ⟨RX0, "shortOut", "()I"⟩
def dkwX0_shortOut_1 : List UInt8 := [126, 172]
abbrev dktX0_shortOut_1 : List UInt8 := dkwX0_shortOut_1 ++ []
def dkwX0_shortOut_0 : List UInt8 := [42, 180, 0, 18, 182, 0, 69, 5, 162, 0, 7, 2, 167, 0, 13, 42, 180, 0, 18, 182, 0, 76, 18, 79]
abbrev dktX0_shortOut_0 : List UInt8 := dkwX0_shortOut_0 ++ dktX0_shortOut_1
theorem dksX0_shortOut_0 : cX0_shortOut.data.toList.drop 0 = dktX0_shortOut_0 := by decide +kernel
theorem dksX0_shortOut_1 : cX0_shortOut.data.toList.drop 24 = dktX0_shortOut_1 := dk_seg dksX0_shortOut_0 24 rfl rfl
theorem dX0_shortOut_0 : decode cX0_shortOut 0 = .ok (.aload_n 0, 1) := dk_42 (dk_at dksX0_shortOut_0 0 rfl rfl)
theorem dX0_shortOut_1 : decode cX0_shortOut 1 = .ok (.getfield 18, 3) := dk_180 0 18 (dk_at dksX0_shortOut_0 1 rfl rfl)
theorem dX0_shortOut_4 : decode cX0_shortOut 4 = .ok (.invokevirtual 69, 3) := dk_182 0 69 (dk_at dksX0_shortOut_0 4 rfl rfl)
theorem dX0_shortOut_7 : decode cX0_shortOut 7 = .ok (.iconst 2, 1) := dk_5 (dk_at dksX0_shortOut_0 7 rfl rfl)
theorem dX0_shortOut_8 : decode cX0_shortOut 8 = .ok (.if_icmp .ge 7, 3) := dk_162 0 7 (dk_at dksX0_shortOut_0 8 rfl rfl)
theorem dX0_shortOut_11 : decode cX0_shortOut 11 = .ok (.iconst (-1), 1) := dk_2 (dk_at dksX0_shortOut_0 11 rfl rfl)
theorem dX0_shortOut_12 : decode cX0_shortOut 12 = .ok (.goto 13, 3) := dk_167 0 13 (dk_at dksX0_shortOut_0 12 rfl rfl)
theorem dX0_shortOut_15 : decode cX0_shortOut 15 = .ok (.aload_n 0, 1) := dk_42 (dk_at dksX0_shortOut_0 15 rfl rfl)
theorem dX0_shortOut_16 : decode cX0_shortOut 16 = .ok (.getfield 18, 3) := dk_180 0 18 (dk_at dksX0_shortOut_0 16 rfl rfl)
theorem dX0_shortOut_19 : decode cX0_shortOut 19 = .ok (.invokevirtual 76, 3) := dk_182 0 76 (dk_at dksX0_shortOut_0 19 rfl rfl)
theorem dX0_shortOut_22 : decode cX0_shortOut 22 = .ok (.ldc 79, 2) := dk_18 79 (dk_at dksX0_shortOut_0 22 rfl rfl)
theorem dX0_shortOut_24 : decode cX0_shortOut 24 = .ok (.iand, 1) := dk_126 (dk_at dksX0_shortOut_1 0 rfl rfl)
theorem dX0_shortOut_25 : decode cX0_shortOut 25 = .ok (.ireturn, 1) := dk_172 (dk_at dksX0_shortOut_1 1 rfl rfl)
abbrev cX0_intOut : ByteArray := prog_2_method_16_code
def yX0_intOut : MethodName := ⟨RX0, "intOut", "()J"⟩
def dkwX0_intOut_1 : List UInt8 := [173]
abbrev dktX0_intOut_1 : List UInt8 := dkwX0_intOut_1 ++ []
def dkwX0_intOut_0 : List UInt8 := [42, 180, 0, 18, 182, 0, 69, 7, 162, 0, 9, 20, 0, 80, 167, 0, 10, 42, 180, 0, 18, 182, 0, 82]
abbrev dktX0_intOut_0 : List UInt8 := dkwX0_intOut_0 ++ dktX0_intOut_1
theorem dksX0_intOut_0 : cX0_intOut.data.toList.drop 0 = dktX0_intOut_0 := by decide +kernel
theorem dksX0_intOut_1 : cX0_intOut.data.toList.drop 24 = dktX0_intOut_1 := dk_seg dksX0_intOut_0 24 rfl rfl
theorem dX0_intOut_0 : decode cX0_intOut 0 = .ok (.aload_n 0, 1) := dk_42 (dk_at dksX0_intOut_0 0 rfl rfl)
theorem dX0_intOut_1 : decode cX0_intOut 1 = .ok (.getfield 18, 3) := dk_180 0 18 (dk_at dksX0_intOut_0 1 rfl rfl)
theorem dX0_intOut_4 : decode cX0_intOut 4 = .ok (.invokevirtual 69, 3) := dk_182 0 69 (dk_at dksX0_intOut_0 4 rfl rfl)
theorem dX0_intOut_7 : decode cX0_intOut 7 = .ok (.iconst 4, 1) := dk_7 (dk_at dksX0_intOut_0 7 rfl rfl)
theorem dX0_intOut_8 : decode cX0_intOut 8 = .ok (.if_icmp .ge 9, 3) := dk_162 0 9 (dk_at dksX0_intOut_0 8 rfl rfl)
theorem dX0_intOut_11 : decode cX0_intOut 11 = .ok (.ldc2_w 80, 3) := dk_20 0 80 (dk_at dksX0_intOut_0 11 rfl rfl)
theorem dX0_intOut_14 : decode cX0_intOut 14 = .ok (.goto 10, 3) := dk_167 0 10 (dk_at dksX0_intOut_0 14 rfl rfl)
theorem dX0_intOut_17 : decode cX0_intOut 17 = .ok (.aload_n 0, 1) := dk_42 (dk_at dksX0_intOut_0 17 rfl rfl)
theorem dX0_intOut_18 : decode cX0_intOut 18 = .ok (.getfield 18, 3) := dk_180 0 18 (dk_at dksX0_intOut_0 18 rfl rfl)
theorem dX0_intOut_21 : decode cX0_intOut 21 = .ok (.invokevirtual 82, 3) := dk_182 0 82 (dk_at dksX0_intOut_0 21 rfl rfl)
theorem dX0_intOut_24 : decode cX0_intOut 24 = .ok (.lreturn, 1) := dk_173 (dk_at dksX0_intOut_1 0 rfl rfl)
abbrev cX0_longOut : ByteArray := prog_2_method_17_code
def yX0_longOut : MethodName := ⟨RX0, "longOut", "()J"⟩
def dkwX0_longOut_1 : List UInt8 := [182, 0, 86, 173]
abbrev dktX0_longOut_1 : List UInt8 := dkwX0_longOut_1 ++ []
def dkwX0_longOut_0 : List UInt8 := [42, 180, 0, 18, 182, 0, 69, 16, 8, 162, 0, 9, 20, 0, 80, 167, 0, 10, 42, 180, 0, 18]
abbrev dktX0_longOut_0 : List UInt8 := dkwX0_longOut_0 ++ dktX0_longOut_1
theorem dksX0_longOut_0 : cX0_longOut.data.toList.drop 0 = dktX0_longOut_0 := by decide +kernel
theorem dksX0_longOut_1 : cX0_longOut.data.toList.drop 22 = dktX0_longOut_1 := dk_seg dksX0_longOut_0 22 rfl rfl
theorem dX0_longOut_0 : decode cX0_longOut 0 = .ok (.aload_n 0, 1) := dk_42 (dk_at dksX0_longOut_0 0 rfl rfl)
theorem dX0_longOut_1 : decode cX0_longOut 1 = .ok (.getfield 18, 3) := dk_180 0 18 (dk_at dksX0_longOut_0 1 rfl rfl)
theorem dX0_longOut_4 : decode cX0_longOut 4 = .ok (.invokevirtual 69, 3) := dk_182 0 69 (dk_at dksX0_longOut_0 4 rfl rfl)
theorem dX0_longOut_7 : decode cX0_longOut 7 = .ok (.bipush 8, 2) := dk_16 8 (dk_at dksX0_longOut_0 7 rfl rfl)
theorem dX0_longOut_9 : decode cX0_longOut 9 = .ok (.if_icmp .ge 9, 3) := dk_162 0 9 (dk_at dksX0_longOut_0 9 rfl rfl)
theorem dX0_longOut_12 : decode cX0_longOut 12 = .ok (.ldc2_w 80, 3) := dk_20 0 80 (dk_at dksX0_longOut_0 12 rfl rfl)
theorem dX0_longOut_15 : decode cX0_longOut 15 = .ok (.goto 10, 3) := dk_167 0 10 (dk_at dksX0_longOut_0 15 rfl rfl)
theorem dX0_longOut_18 : decode cX0_longOut 18 = .ok (.aload_n 0, 1) := dk_42 (dk_at dksX0_longOut_0 18 rfl rfl)
theorem dX0_longOut_19 : decode cX0_longOut 19 = .ok (.getfield 18, 3) := dk_180 0 18 (dk_at dksX0_longOut_0 19 rfl rfl)
theorem dX0_longOut_22 : decode cX0_longOut 22 = .ok (.invokevirtual 86, 3) := dk_182 0 86 (dk_at dksX0_longOut_1 0 rfl rfl)
theorem dX0_longOut_25 : decode cX0_longOut 25 = .ok (.lreturn, 1) := dk_173 (dk_at dksX0_longOut_1 3 rfl rfl)
abbrev cX0_stringOut : ByteArray := prog_2_method_19_code
def yX0_stringOut : MethodName := ⟨RX0, "stringOut", "()I"⟩
def dkwX0_stringOut_1 : List UInt8 := [190, 172]
abbrev dktX0_stringOut_1 : List UInt8 := dkwX0_stringOut_1 ++ []
def dkwX0_stringOut_0 : List UInt8 := [42, 182, 0, 94, 156, 0, 5, 2, 172, 42, 42, 180, 0, 18, 182, 0, 97, 181, 0, 22, 42, 180, 0, 22]
abbrev dktX0_stringOut_0 : List UInt8 := dkwX0_stringOut_0 ++ dktX0_stringOut_1
theorem dksX0_stringOut_0 : cX0_stringOut.data.toList.drop 0 = dktX0_stringOut_0 := by decide +kernel
theorem dksX0_stringOut_1 : cX0_stringOut.data.toList.drop 24 = dktX0_stringOut_1 := dk_seg dksX0_stringOut_0 24 rfl rfl
theorem dX0_stringOut_0 : decode cX0_stringOut 0 = .ok (.aload_n 0, 1) := dk_42 (dk_at dksX0_stringOut_0 0 rfl rfl)
theorem dX0_stringOut_1 : decode cX0_stringOut 1 = .ok (.invokevirtual 94, 3) := dk_182 0 94 (dk_at dksX0_stringOut_0 1 rfl rfl)
theorem dX0_stringOut_4 : decode cX0_stringOut 4 = .ok (.ifCond .ge 5, 3) := dk_156 0 5 (dk_at dksX0_stringOut_0 4 rfl rfl)
theorem dX0_stringOut_7 : decode cX0_stringOut 7 = .ok (.iconst (-1), 1) := dk_2 (dk_at dksX0_stringOut_0 7 rfl rfl)
theorem dX0_stringOut_8 : decode cX0_stringOut 8 = .ok (.ireturn, 1) := dk_172 (dk_at dksX0_stringOut_0 8 rfl rfl)
theorem dX0_stringOut_9 : decode cX0_stringOut 9 = .ok (.aload_n 0, 1) := dk_42 (dk_at dksX0_stringOut_0 9 rfl rfl)
theorem dX0_stringOut_10 : decode cX0_stringOut 10 = .ok (.aload_n 0, 1) := dk_42 (dk_at dksX0_stringOut_0 10 rfl rfl)
theorem dX0_stringOut_11 : decode cX0_stringOut 11 = .ok (.getfield 18, 3) := dk_180 0 18 (dk_at dksX0_stringOut_0 11 rfl rfl)
theorem dX0_stringOut_14 : decode cX0_stringOut 14 = .ok (.invokevirtual 97, 3) := dk_182 0 97 (dk_at dksX0_stringOut_0 14 rfl rfl)
theorem dX0_stringOut_17 : decode cX0_stringOut 17 = .ok (.putfield 22, 3) := dk_181 0 22 (dk_at dksX0_stringOut_0 17 rfl rfl)
theorem dX0_stringOut_20 : decode cX0_stringOut 20 = .ok (.aload_n 0, 1) := dk_42 (dk_at dksX0_stringOut_0 20 rfl rfl)
theorem dX0_stringOut_21 : decode cX0_stringOut 21 = .ok (.getfield 22, 3) := dk_180 0 22 (dk_at dksX0_stringOut_0 21 rfl rfl)
theorem dX0_stringOut_24 : decode cX0_stringOut 24 = .ok (.arraylength, 1) := dk_190 (dk_at dksX0_stringOut_1 0 rfl rfl)
theorem dX0_stringOut_25 : decode cX0_stringOut 25 = .ok (.ireturn, 1) := dk_172 (dk_at dksX0_stringOut_1 1 rfl rfl)
abbrev cX0_next : ByteArray := prog_2_method_18_code
def yX0_next : MethodName := ⟨RX0, "next", "()I"⟩
def dkwX0_next_4 : List UInt8 := [164, 0, 7, 2, 167, 0, 4, 29, 172]
abbrev dktX0_next_4 : List UInt8 := dkwX0_next_4 ++ []
def dkwX0_next_3 : List UInt8 := [96, 51, 17, 0, 255, 126, 128, 62, 29, 155, 0, 16, 29, 42, 180, 0, 18, 182, 0, 69, 7, 100]
abbrev dktX0_next_3 : List UInt8 := dkwX0_next_3 ++ dktX0_next_4
def dkwX0_next_2 : List UInt8 := [17, 0, 255, 126, 16, 16, 120, 128, 44, 27, 5, 96, 51, 17, 0, 255, 126, 16, 8, 120, 128, 44, 27, 6]
abbrev dktX0_next_2 : List UInt8 := dkwX0_next_2 ++ dktX0_next_3
def dkwX0_next_1 : List UInt8 := [180, 0, 18, 180, 0, 92, 77, 44, 27, 51, 17, 0, 255, 126, 16, 24, 120, 44, 27, 4, 96, 51]
abbrev dktX0_next_1 : List UInt8 := dkwX0_next_1 ++ dktX0_next_2
def dkwX0_next_0 : List UInt8 := [42, 180, 0, 18, 182, 0, 69, 7, 162, 0, 5, 2, 172, 42, 180, 0, 18, 182, 0, 89, 60, 42]
abbrev dktX0_next_0 : List UInt8 := dkwX0_next_0 ++ dktX0_next_1
theorem dksX0_next_0 : cX0_next.data.toList.drop 0 = dktX0_next_0 := by decide +kernel
theorem dksX0_next_1 : cX0_next.data.toList.drop 22 = dktX0_next_1 := dk_seg dksX0_next_0 22 rfl rfl
theorem dksX0_next_2 : cX0_next.data.toList.drop 44 = dktX0_next_2 := dk_seg dksX0_next_1 22 rfl rfl
theorem dksX0_next_3 : cX0_next.data.toList.drop 68 = dktX0_next_3 := dk_seg dksX0_next_2 24 rfl rfl
theorem dksX0_next_4 : cX0_next.data.toList.drop 90 = dktX0_next_4 := dk_seg dksX0_next_3 22 rfl rfl
theorem dX0_next_0 : decode cX0_next 0 = .ok (.aload_n 0, 1) := dk_42 (dk_at dksX0_next_0 0 rfl rfl)
theorem dX0_next_1 : decode cX0_next 1 = .ok (.getfield 18, 3) := dk_180 0 18 (dk_at dksX0_next_0 1 rfl rfl)
theorem dX0_next_4 : decode cX0_next 4 = .ok (.invokevirtual 69, 3) := dk_182 0 69 (dk_at dksX0_next_0 4 rfl rfl)
theorem dX0_next_7 : decode cX0_next 7 = .ok (.iconst 4, 1) := dk_7 (dk_at dksX0_next_0 7 rfl rfl)
theorem dX0_next_8 : decode cX0_next 8 = .ok (.if_icmp .ge 5, 3) := dk_162 0 5 (dk_at dksX0_next_0 8 rfl rfl)
theorem dX0_next_11 : decode cX0_next 11 = .ok (.iconst (-1), 1) := dk_2 (dk_at dksX0_next_0 11 rfl rfl)
theorem dX0_next_12 : decode cX0_next 12 = .ok (.ireturn, 1) := dk_172 (dk_at dksX0_next_0 12 rfl rfl)
theorem dX0_next_13 : decode cX0_next 13 = .ok (.aload_n 0, 1) := dk_42 (dk_at dksX0_next_0 13 rfl rfl)
theorem dX0_next_14 : decode cX0_next 14 = .ok (.getfield 18, 3) := dk_180 0 18 (dk_at dksX0_next_0 14 rfl rfl)
theorem dX0_next_17 : decode cX0_next 17 = .ok (.invokevirtual 89, 3) := dk_182 0 89 (dk_at dksX0_next_0 17 rfl rfl)
theorem dX0_next_20 : decode cX0_next 20 = .ok (.istore_n 1, 1) := dk_60 (dk_at dksX0_next_0 20 rfl rfl)
theorem dX0_next_21 : decode cX0_next 21 = .ok (.aload_n 0, 1) := dk_42 (dk_at dksX0_next_0 21 rfl rfl)
theorem dX0_next_22 : decode cX0_next 22 = .ok (.getfield 18, 3) := dk_180 0 18 (dk_at dksX0_next_1 0 rfl rfl)
theorem dX0_next_25 : decode cX0_next 25 = .ok (.getfield 92, 3) := dk_180 0 92 (dk_at dksX0_next_1 3 rfl rfl)
theorem dX0_next_28 : decode cX0_next 28 = .ok (.astore_n 2, 1) := dk_77 (dk_at dksX0_next_1 6 rfl rfl)
theorem dX0_next_29 : decode cX0_next 29 = .ok (.aload_n 2, 1) := dk_44 (dk_at dksX0_next_1 7 rfl rfl)
theorem dX0_next_30 : decode cX0_next 30 = .ok (.iload_n 1, 1) := dk_27 (dk_at dksX0_next_1 8 rfl rfl)
theorem dX0_next_31 : decode cX0_next 31 = .ok (.baload, 1) := dk_51 (dk_at dksX0_next_1 9 rfl rfl)
theorem dX0_next_32 : decode cX0_next 32 = .ok (.sipush 255, 3) := dk_17 0 255 (dk_at dksX0_next_1 10 rfl rfl)
theorem dX0_next_35 : decode cX0_next 35 = .ok (.iand, 1) := dk_126 (dk_at dksX0_next_1 13 rfl rfl)
theorem dX0_next_36 : decode cX0_next 36 = .ok (.bipush 24, 2) := dk_16 24 (dk_at dksX0_next_1 14 rfl rfl)
theorem dX0_next_38 : decode cX0_next 38 = .ok (.ishl, 1) := dk_120 (dk_at dksX0_next_1 16 rfl rfl)
theorem dX0_next_39 : decode cX0_next 39 = .ok (.aload_n 2, 1) := dk_44 (dk_at dksX0_next_1 17 rfl rfl)
theorem dX0_next_40 : decode cX0_next 40 = .ok (.iload_n 1, 1) := dk_27 (dk_at dksX0_next_1 18 rfl rfl)
theorem dX0_next_41 : decode cX0_next 41 = .ok (.iconst 1, 1) := dk_4 (dk_at dksX0_next_1 19 rfl rfl)
theorem dX0_next_42 : decode cX0_next 42 = .ok (.iadd, 1) := dk_96 (dk_at dksX0_next_1 20 rfl rfl)
theorem dX0_next_43 : decode cX0_next 43 = .ok (.baload, 1) := dk_51 (dk_at dksX0_next_1 21 rfl rfl)
theorem dX0_next_44 : decode cX0_next 44 = .ok (.sipush 255, 3) := dk_17 0 255 (dk_at dksX0_next_2 0 rfl rfl)
theorem dX0_next_47 : decode cX0_next 47 = .ok (.iand, 1) := dk_126 (dk_at dksX0_next_2 3 rfl rfl)
theorem dX0_next_48 : decode cX0_next 48 = .ok (.bipush 16, 2) := dk_16 16 (dk_at dksX0_next_2 4 rfl rfl)
theorem dX0_next_50 : decode cX0_next 50 = .ok (.ishl, 1) := dk_120 (dk_at dksX0_next_2 6 rfl rfl)
theorem dX0_next_51 : decode cX0_next 51 = .ok (.ior, 1) := dk_128 (dk_at dksX0_next_2 7 rfl rfl)
theorem dX0_next_52 : decode cX0_next 52 = .ok (.aload_n 2, 1) := dk_44 (dk_at dksX0_next_2 8 rfl rfl)
theorem dX0_next_53 : decode cX0_next 53 = .ok (.iload_n 1, 1) := dk_27 (dk_at dksX0_next_2 9 rfl rfl)
theorem dX0_next_54 : decode cX0_next 54 = .ok (.iconst 2, 1) := dk_5 (dk_at dksX0_next_2 10 rfl rfl)
theorem dX0_next_55 : decode cX0_next 55 = .ok (.iadd, 1) := dk_96 (dk_at dksX0_next_2 11 rfl rfl)
theorem dX0_next_56 : decode cX0_next 56 = .ok (.baload, 1) := dk_51 (dk_at dksX0_next_2 12 rfl rfl)
theorem dX0_next_57 : decode cX0_next 57 = .ok (.sipush 255, 3) := dk_17 0 255 (dk_at dksX0_next_2 13 rfl rfl)
theorem dX0_next_60 : decode cX0_next 60 = .ok (.iand, 1) := dk_126 (dk_at dksX0_next_2 16 rfl rfl)
theorem dX0_next_61 : decode cX0_next 61 = .ok (.bipush 8, 2) := dk_16 8 (dk_at dksX0_next_2 17 rfl rfl)
theorem dX0_next_63 : decode cX0_next 63 = .ok (.ishl, 1) := dk_120 (dk_at dksX0_next_2 19 rfl rfl)
theorem dX0_next_64 : decode cX0_next 64 = .ok (.ior, 1) := dk_128 (dk_at dksX0_next_2 20 rfl rfl)
theorem dX0_next_65 : decode cX0_next 65 = .ok (.aload_n 2, 1) := dk_44 (dk_at dksX0_next_2 21 rfl rfl)
theorem dX0_next_66 : decode cX0_next 66 = .ok (.iload_n 1, 1) := dk_27 (dk_at dksX0_next_2 22 rfl rfl)
theorem dX0_next_67 : decode cX0_next 67 = .ok (.iconst 3, 1) := dk_6 (dk_at dksX0_next_2 23 rfl rfl)
theorem dX0_next_68 : decode cX0_next 68 = .ok (.iadd, 1) := dk_96 (dk_at dksX0_next_3 0 rfl rfl)
theorem dX0_next_69 : decode cX0_next 69 = .ok (.baload, 1) := dk_51 (dk_at dksX0_next_3 1 rfl rfl)
theorem dX0_next_70 : decode cX0_next 70 = .ok (.sipush 255, 3) := dk_17 0 255 (dk_at dksX0_next_3 2 rfl rfl)
theorem dX0_next_73 : decode cX0_next 73 = .ok (.iand, 1) := dk_126 (dk_at dksX0_next_3 5 rfl rfl)
theorem dX0_next_74 : decode cX0_next 74 = .ok (.ior, 1) := dk_128 (dk_at dksX0_next_3 6 rfl rfl)
theorem dX0_next_75 : decode cX0_next 75 = .ok (.istore_n 3, 1) := dk_62 (dk_at dksX0_next_3 7 rfl rfl)
theorem dX0_next_76 : decode cX0_next 76 = .ok (.iload_n 3, 1) := dk_29 (dk_at dksX0_next_3 8 rfl rfl)
theorem dX0_next_77 : decode cX0_next 77 = .ok (.ifCond .lt 16, 3) := dk_155 0 16 (dk_at dksX0_next_3 9 rfl rfl)
theorem dX0_next_80 : decode cX0_next 80 = .ok (.iload_n 3, 1) := dk_29 (dk_at dksX0_next_3 12 rfl rfl)
theorem dX0_next_81 : decode cX0_next 81 = .ok (.aload_n 0, 1) := dk_42 (dk_at dksX0_next_3 13 rfl rfl)
theorem dX0_next_82 : decode cX0_next 82 = .ok (.getfield 18, 3) := dk_180 0 18 (dk_at dksX0_next_3 14 rfl rfl)
theorem dX0_next_85 : decode cX0_next 85 = .ok (.invokevirtual 69, 3) := dk_182 0 69 (dk_at dksX0_next_3 17 rfl rfl)
theorem dX0_next_88 : decode cX0_next 88 = .ok (.iconst 4, 1) := dk_7 (dk_at dksX0_next_3 20 rfl rfl)
theorem dX0_next_89 : decode cX0_next 89 = .ok (.isub, 1) := dk_100 (dk_at dksX0_next_3 21 rfl rfl)
theorem dX0_next_90 : decode cX0_next 90 = .ok (.if_icmp .le 7, 3) := dk_164 0 7 (dk_at dksX0_next_4 0 rfl rfl)
theorem dX0_next_93 : decode cX0_next 93 = .ok (.iconst (-1), 1) := dk_2 (dk_at dksX0_next_4 3 rfl rfl)
theorem dX0_next_94 : decode cX0_next 94 = .ok (.goto 4, 3) := dk_167 0 4 (dk_at dksX0_next_4 4 rfl rfl)
theorem dX0_next_97 : decode cX0_next 97 = .ok (.iload_n 3, 1) := dk_29 (dk_at dksX0_next_4 7 rfl rfl)
theorem dX0_next_98 : decode cX0_next 98 = .ok (.ireturn, 1) := dk_172 (dk_at dksX0_next_4 8 rfl rfl)
abbrev cX0_read : ByteArray := prog_2_method_20_code
def yX0_read : MethodName := ⟨RX0, "read", "(I)I"⟩
def dkwX0_read_1 : List UInt8 := [190, 112, 51, 17, 0, 255, 126, 172]
abbrev dktX0_read_1 : List UInt8 := dkwX0_read_1 ++ []
def dkwX0_read_0 : List UInt8 := [42, 180, 0, 22, 190, 154, 0, 7, 2, 167, 0, 22, 42, 180, 0, 22, 27, 18, 37, 126, 42, 180, 0, 22]
abbrev dktX0_read_0 : List UInt8 := dkwX0_read_0 ++ dktX0_read_1
theorem dksX0_read_0 : cX0_read.data.toList.drop 0 = dktX0_read_0 := by decide +kernel
theorem dksX0_read_1 : cX0_read.data.toList.drop 24 = dktX0_read_1 := dk_seg dksX0_read_0 24 rfl rfl
theorem dX0_read_0 : decode cX0_read 0 = .ok (.aload_n 0, 1) := dk_42 (dk_at dksX0_read_0 0 rfl rfl)
theorem dX0_read_1 : decode cX0_read 1 = .ok (.getfield 22, 3) := dk_180 0 22 (dk_at dksX0_read_0 1 rfl rfl)
theorem dX0_read_4 : decode cX0_read 4 = .ok (.arraylength, 1) := dk_190 (dk_at dksX0_read_0 4 rfl rfl)
theorem dX0_read_5 : decode cX0_read 5 = .ok (.ifCond .ne 7, 3) := dk_154 0 7 (dk_at dksX0_read_0 5 rfl rfl)
theorem dX0_read_8 : decode cX0_read 8 = .ok (.iconst (-1), 1) := dk_2 (dk_at dksX0_read_0 8 rfl rfl)
theorem dX0_read_9 : decode cX0_read 9 = .ok (.goto 22, 3) := dk_167 0 22 (dk_at dksX0_read_0 9 rfl rfl)
theorem dX0_read_12 : decode cX0_read 12 = .ok (.aload_n 0, 1) := dk_42 (dk_at dksX0_read_0 12 rfl rfl)
theorem dX0_read_13 : decode cX0_read 13 = .ok (.getfield 22, 3) := dk_180 0 22 (dk_at dksX0_read_0 13 rfl rfl)
theorem dX0_read_16 : decode cX0_read 16 = .ok (.iload_n 1, 1) := dk_27 (dk_at dksX0_read_0 16 rfl rfl)
theorem dX0_read_17 : decode cX0_read 17 = .ok (.ldc 37, 2) := dk_18 37 (dk_at dksX0_read_0 17 rfl rfl)
theorem dX0_read_19 : decode cX0_read 19 = .ok (.iand, 1) := dk_126 (dk_at dksX0_read_0 19 rfl rfl)
theorem dX0_read_20 : decode cX0_read 20 = .ok (.aload_n 0, 1) := dk_42 (dk_at dksX0_read_0 20 rfl rfl)
theorem dX0_read_21 : decode cX0_read 21 = .ok (.getfield 22, 3) := dk_180 0 22 (dk_at dksX0_read_0 21 rfl rfl)
theorem dX0_read_24 : decode cX0_read 24 = .ok (.arraylength, 1) := dk_190 (dk_at dksX0_read_1 0 rfl rfl)
theorem dX0_read_25 : decode cX0_read 25 = .ok (.irem, 1) := dk_112 (dk_at dksX0_read_1 1 rfl rfl)
theorem dX0_read_26 : decode cX0_read 26 = .ok (.baload, 1) := dk_51 (dk_at dksX0_read_1 2 rfl rfl)
theorem dX0_read_27 : decode cX0_read 27 = .ok (.sipush 255, 3) := dk_17 0 255 (dk_at dksX0_read_1 3 rfl rfl)
theorem dX0_read_30 : decode cX0_read 30 = .ok (.iand, 1) := dk_126 (dk_at dksX0_read_1 6 rfl rfl)
theorem dX0_read_31 : decode cX0_read 31 = .ok (.ireturn, 1) := dk_172 (dk_at dksX0_read_1 7 rfl rfl)
abbrev cX0_back : ByteArray := prog_2_method_21_code
def yX0_back : MethodName := ⟨RX0, "back", "()V"⟩
def dkwX0_back_0 : List UInt8 := [42, 180, 0, 18, 182, 0, 101, 177]
abbrev dktX0_back_0 : List UInt8 := dkwX0_back_0 ++ []
theorem dksX0_back_0 : cX0_back.data.toList.drop 0 = dktX0_back_0 := by decide +kernel
theorem dX0_back_0 : decode cX0_back 0 = .ok (.aload_n 0, 1) := dk_42 (dk_at dksX0_back_0 0 rfl rfl)
theorem dX0_back_1 : decode cX0_back 1 = .ok (.getfield 18, 3) := dk_180 0 18 (dk_at dksX0_back_0 1 rfl rfl)
theorem dX0_back_4 : decode cX0_back 4 = .ok (.invokevirtual 101, 3) := dk_182 0 101 (dk_at dksX0_back_0 4 rfl rfl)
theorem dX0_back_7 : decode cX0_back 7 = .ok (.return_, 1) := dk_177 (dk_at dksX0_back_0 7 rfl rfl)
abbrev cX0_anew : ByteArray := prog_2_method_22_code
def yX0_anew : MethodName := ⟨RX0, "anew", "()V"⟩
def dkwX0_anew_0 : List UInt8 := [42, 187, 0, 13, 89, 17, 8, 0, 183, 0, 15, 181, 0, 18, 177]
abbrev dktX0_anew_0 : List UInt8 := dkwX0_anew_0 ++ []
theorem dksX0_anew_0 : cX0_anew.data.toList.drop 0 = dktX0_anew_0 := by decide +kernel
theorem dX0_anew_0 : decode cX0_anew 0 = .ok (.aload_n 0, 1) := dk_42 (dk_at dksX0_anew_0 0 rfl rfl)
theorem dX0_anew_1 : decode cX0_anew 1 = .ok (.new 13, 3) := dk_187 0 13 (dk_at dksX0_anew_0 1 rfl rfl)
theorem dX0_anew_4 : decode cX0_anew 4 = .ok (.dup, 1) := dk_89 (dk_at dksX0_anew_0 4 rfl rfl)
theorem dX0_anew_5 : decode cX0_anew 5 = .ok (.sipush 2048, 3) := dk_17 8 0 (dk_at dksX0_anew_0 5 rfl rfl)
theorem dX0_anew_8 : decode cX0_anew 8 = .ok (.invokespecial 15, 3) := dk_183 0 15 (dk_at dksX0_anew_0 8 rfl rfl)
theorem dX0_anew_11 : decode cX0_anew 11 = .ok (.putfield 18, 3) := dk_181 0 18 (dk_at dksX0_anew_0 11 rfl rfl)
theorem dX0_anew_14 : decode cX0_anew 14 = .ok (.return_, 1) := dk_177 (dk_at dksX0_anew_0 14 rfl rfl)
theorem q12 : (Jvm.Cond.initialized "WireBufferDesk") ∈ lw_all := lw_g (lw_at lw_m1 1 rfl) rfl
theorem q17 : (Jvm.Cond.instantiable "WireBufferDesk" (4 : Nat)) ∈ lw_all := lw_g (lw_at lw_m1 6 rfl) rfl
theorem q19 : (Jvm.Cond.instanceMethod ({ cls := "WireBufferDesk", name := "<init>", desc := "()V" } : Jvm.MethodName)) ∈ lw_all := lw_g (lw_at lw_m1 8 rfl) rfl
theorem q20 : (Jvm.Cond.code ({ cls := "WireBufferDesk", name := "<init>", desc := "()V" } : Jvm.MethodName) prog_2_method_1_code (1 : Nat) (Option.none : Option Jvm.ClassFile.FieldType)) ∈ lw_all := lw_g (lw_at lw_m1 9 rfl) rfl
theorem q21 : (Jvm.Cond.methodLink "WireBufferDesk" (1 : Nat) ({ cls := "java/lang/Object", name := "<init>", desc := "()V" } : Jvm.MethodName)) ∈ lw_all := lw_g (lw_at lw_m1 10 rfl) rfl
theorem q24 : (Jvm.Cond.classLink "WireBufferDesk" (13 : Nat) "OwnBuffer") ∈ lw_all := lw_g (lw_at lw_m1 13 rfl) rfl
theorem q26 : (Jvm.Cond.methodLink "WireBufferDesk" (15 : Nat) ({ cls := "OwnBuffer", name := "<init>", desc := "(I)V" } : Jvm.MethodName)) ∈ lw_all := lw_g (lw_at lw_m1 15 rfl) rfl
theorem q32 : (Jvm.Cond.fieldLink "WireBufferDesk" (92 : Nat) "OwnBuffer" "buffer" "[B") ∈ lw_all := lw_g (lw_at lw_m1 21 rfl) rfl
theorem q34 : (Jvm.Cond.fieldLink "WireBufferDesk" (42 : Nat) "OwnBuffer" "index" "I") ∈ lw_all := lw_g (lw_at lw_m1 23 rfl) rfl
theorem q46 : (Jvm.Cond.fieldLink "WireBufferDesk" (7 : Nat) "WireBufferDesk" "text" "[B") ∈ lw_all := lw_g (lw_at lw_m1 35 rfl) rfl
theorem q47 : (Jvm.Cond.fieldLink "WireBufferDesk" (25 : Nat) "WireBufferDesk" "size" "I") ∈ lw_all := lw_g (lw_at lw_m1 36 rfl) rfl
theorem q48 : (Jvm.Cond.fieldLink "WireBufferDesk" (18 : Nat) "WireBufferDesk" "buffer" "LOwnBuffer;") ∈ lw_all := lw_g (lw_at lw_m1 37 rfl) rfl
theorem q49 : (Jvm.Cond.fieldLink "WireBufferDesk" (22 : Nat) "WireBufferDesk" "read" "[B") ∈ lw_all := lw_g (lw_at lw_m1 38 rfl) rfl
theorem q50 : (Jvm.Cond.laysFinal "WireBufferDesk" "WireBufferDesk" "text" "[B") ∈ lw_all := lw_g (lw_at lw_m1 39 rfl) rfl
theorem q51 : (Jvm.Cond.soleField "WireBufferDesk" "text") ∈ lw_all := lw_g (lw_at lw_m1 40 rfl) rfl
theorem q52 : (Jvm.Cond.lays "WireBufferDesk" "WireBufferDesk" "size" "I") ∈ lw_all := lw_g (lw_at lw_m1 41 rfl) rfl
theorem q53 : (Jvm.Cond.soleField "WireBufferDesk" "size") ∈ lw_all := lw_g (lw_at lw_m1 42 rfl) rfl
theorem q54 : (Jvm.Cond.lays "WireBufferDesk" "WireBufferDesk" "buffer" "LOwnBuffer;") ∈ lw_all := lw_g (lw_at lw_m1 43 rfl) rfl
theorem q55 : (Jvm.Cond.soleField "WireBufferDesk" "buffer") ∈ lw_all := lw_g (lw_at lw_m1 44 rfl) rfl
theorem q56 : (Jvm.Cond.lays "WireBufferDesk" "WireBufferDesk" "read" "[B") ∈ lw_all := lw_g (lw_at lw_m1 45 rfl) rfl
theorem q57 : (Jvm.Cond.soleField "WireBufferDesk" "read") ∈ lw_all := lw_g (lw_at lw_m1 46 rfl) rfl
theorem q58 : (Jvm.Cond.superclass "WireBufferDesk" "java/lang/Object") ∈ lw_all := lw_g (lw_at lw_m1 47 rfl) rfl
theorem q60 : (Jvm.Cond.instanceMethod ({ cls := "WireBufferDesk", name := "put", desc := "(IIII)Z" } : Jvm.MethodName)) ∈ lw_all := lw_g (lw_at lw_m1 49 rfl) rfl
theorem q61 : (Jvm.Cond.selects "WireBufferDesk" ({ cls := "WireBufferDesk", name := "put", desc := "(IIII)Z" } : Jvm.MethodName) ({ cls := "WireBufferDesk", name := "put", desc := "(IIII)Z" } : Jvm.MethodName)) ∈ lw_all := lw_g (lw_at lw_m1 50 rfl) rfl
theorem q62 : (Jvm.Cond.code ({ cls := "WireBufferDesk", name := "put", desc := "(IIII)Z" } : Jvm.MethodName) prog_2_method_2_code (5 : Nat) (Option.some Jvm.ClassFile.FieldType.boolean)) ∈ lw_all := lw_g (lw_at lw_m1 51 rfl) rfl
theorem q63 : (Jvm.Cond.methodLink "WireBufferDesk" (29 : Nat) ({ cls := "WireBufferDesk", name := "word", desc := "([BII)V" } : Jvm.MethodName)) ∈ lw_all := lw_g (lw_at lw_m1 52 rfl) rfl
theorem q64 : (Jvm.Cond.static ({ cls := "WireBufferDesk", name := "word", desc := "([BII)V" } : Jvm.MethodName)) ∈ lw_all := lw_g (lw_at lw_m1 53 rfl) rfl
theorem q65 : (Jvm.Cond.code ({ cls := "WireBufferDesk", name := "word", desc := "([BII)V" } : Jvm.MethodName) prog_2_method_3_code (3 : Nat) (Option.none : Option Jvm.ClassFile.FieldType)) ∈ lw_all := lw_g (lw_at lw_m1 54 rfl) rfl
theorem q67 : (Jvm.Cond.instanceMethod ({ cls := "WireBufferDesk", name := "trim", desc := "(I)V" } : Jvm.MethodName)) ∈ lw_all := lw_g (lw_at lw_m1 56 rfl) rfl
theorem q68 : (Jvm.Cond.selects "WireBufferDesk" ({ cls := "WireBufferDesk", name := "trim", desc := "(I)V" } : Jvm.MethodName) ({ cls := "WireBufferDesk", name := "trim", desc := "(I)V" } : Jvm.MethodName)) ∈ lw_all := lw_g (lw_at lw_m1 57 rfl) rfl
theorem q69 : (Jvm.Cond.code ({ cls := "WireBufferDesk", name := "trim", desc := "(I)V" } : Jvm.MethodName) prog_2_method_4_code (2 : Nat) (Option.none : Option Jvm.ClassFile.FieldType)) ∈ lw_all := lw_g (lw_at lw_m1 58 rfl) rfl
theorem q70 : (Jvm.Cond.methodLink "WireBufferDesk" (33 : Nat) ({ cls := "WireBufferDesk", name := "from", desc := "(I)I" } : Jvm.MethodName)) ∈ lw_all := lw_g (lw_at lw_m1 59 rfl) rfl
theorem q71 : (Jvm.Cond.privateMethod ({ cls := "WireBufferDesk", name := "from", desc := "(I)I" } : Jvm.MethodName)) ∈ lw_tbl := lw_at lw_m1 60 rfl
theorem q72 : (Jvm.Cond.instanceMethod ({ cls := "WireBufferDesk", name := "from", desc := "(I)I" } : Jvm.MethodName)) ∈ lw_all := lw_g (lw_at lw_m1 61 rfl) rfl
theorem q73 : (Jvm.Cond.code ({ cls := "WireBufferDesk", name := "from", desc := "(I)I" } : Jvm.MethodName) prog_2_method_5_code (2 : Nat) (Option.some Jvm.ClassFile.FieldType.int)) ∈ lw_all := lw_g (lw_at lw_m1 62 rfl) rfl
theorem q74 : (Jvm.Cond.constant "WireBufferDesk" (37 : Nat) (2147483647 : Int32)) ∈ lw_all := lw_g (lw_at lw_m1 63 rfl) rfl
theorem q76 : (Jvm.Cond.instanceMethod ({ cls := "WireBufferDesk", name := "byteIn", desc := "(I)Z" } : Jvm.MethodName)) ∈ lw_all := lw_g (lw_at lw_m1 65 rfl) rfl
theorem q77 : (Jvm.Cond.selects "WireBufferDesk" ({ cls := "WireBufferDesk", name := "byteIn", desc := "(I)Z" } : Jvm.MethodName) ({ cls := "WireBufferDesk", name := "byteIn", desc := "(I)Z" } : Jvm.MethodName)) ∈ lw_all := lw_g (lw_at lw_m1 66 rfl) rfl
theorem q78 : (Jvm.Cond.code ({ cls := "WireBufferDesk", name := "byteIn", desc := "(I)Z" } : Jvm.MethodName) prog_2_method_8_code (2 : Nat) (Option.some Jvm.ClassFile.FieldType.boolean)) ∈ lw_all := lw_g (lw_at lw_m1 67 rfl) rfl
theorem q79 : (Jvm.Cond.methodLink "WireBufferDesk" (45 : Nat) ({ cls := "OwnBuffer", name := "putByte", desc := "(B)V" } : Jvm.MethodName)) ∈ lw_all := lw_g (lw_at lw_m1 68 rfl) rfl
theorem q84 : (Jvm.Cond.instanceMethod ({ cls := "WireBufferDesk", name := "intIn", desc := "(I)Z" } : Jvm.MethodName)) ∈ lw_all := lw_g (lw_at lw_m1 73 rfl) rfl
theorem q85 : (Jvm.Cond.selects "WireBufferDesk" ({ cls := "WireBufferDesk", name := "intIn", desc := "(I)Z" } : Jvm.MethodName) ({ cls := "WireBufferDesk", name := "intIn", desc := "(I)Z" } : Jvm.MethodName)) ∈ lw_all := lw_g (lw_at lw_m1 74 rfl) rfl
theorem q86 : (Jvm.Cond.code ({ cls := "WireBufferDesk", name := "intIn", desc := "(I)Z" } : Jvm.MethodName) prog_2_method_9_code (2 : Nat) (Option.some Jvm.ClassFile.FieldType.boolean)) ∈ lw_all := lw_g (lw_at lw_m1 75 rfl) rfl
theorem q87 : (Jvm.Cond.methodLink "WireBufferDesk" (49 : Nat) ({ cls := "OwnBuffer", name := "putInt", desc := "(I)V" } : Jvm.MethodName)) ∈ lw_all := lw_g (lw_at lw_m1 76 rfl) rfl
theorem q95 : (Jvm.Cond.instanceMethod ({ cls := "WireBufferDesk", name := "longIn", desc := "(II)Z" } : Jvm.MethodName)) ∈ lw_all := lw_g (lw_at lw_m1 84 rfl) rfl
theorem q96 : (Jvm.Cond.selects "WireBufferDesk" ({ cls := "WireBufferDesk", name := "longIn", desc := "(II)Z" } : Jvm.MethodName) ({ cls := "WireBufferDesk", name := "longIn", desc := "(II)Z" } : Jvm.MethodName)) ∈ lw_all := lw_g (lw_at lw_m1 85 rfl) rfl
theorem q97 : (Jvm.Cond.code ({ cls := "WireBufferDesk", name := "longIn", desc := "(II)Z" } : Jvm.MethodName) prog_2_method_10_code (3 : Nat) (Option.some Jvm.ClassFile.FieldType.boolean)) ∈ lw_all := lw_g (lw_at lw_m1 86 rfl) rfl
theorem q98 : (Jvm.Cond.constantLong "WireBufferDesk" (52 : Nat) (4294967295 : Int64)) ∈ lw_all := lw_g (lw_at lw_m1 87 rfl) rfl
theorem q99 : (Jvm.Cond.methodLink "WireBufferDesk" (54 : Nat) ({ cls := "OwnBuffer", name := "putLong", desc := "(J)V" } : Jvm.MethodName)) ∈ lw_all := lw_g (lw_at lw_m1 88 rfl) rfl
theorem q104 : (Jvm.Cond.instanceMethod ({ cls := "WireBufferDesk", name := "stringIn", desc := "(II)Z" } : Jvm.MethodName)) ∈ lw_all := lw_g (lw_at lw_m1 93 rfl) rfl
theorem q105 : (Jvm.Cond.selects "WireBufferDesk" ({ cls := "WireBufferDesk", name := "stringIn", desc := "(II)Z" } : Jvm.MethodName) ({ cls := "WireBufferDesk", name := "stringIn", desc := "(II)Z" } : Jvm.MethodName)) ∈ lw_all := lw_g (lw_at lw_m1 94 rfl) rfl
theorem q106 : (Jvm.Cond.code ({ cls := "WireBufferDesk", name := "stringIn", desc := "(II)Z" } : Jvm.MethodName) prog_2_method_11_code (3 : Nat) (Option.some Jvm.ClassFile.FieldType.boolean)) ∈ lw_all := lw_g (lw_at lw_m1 95 rfl) rfl
theorem q107 : (Jvm.Cond.methodLink "WireBufferDesk" (58 : Nat) ({ cls := "WireBufferDesk", name := "part", desc := "(II)[B" } : Jvm.MethodName)) ∈ lw_all := lw_g (lw_at lw_m1 96 rfl) rfl
theorem q108 : (Jvm.Cond.privateMethod ({ cls := "WireBufferDesk", name := "part", desc := "(II)[B" } : Jvm.MethodName)) ∈ lw_tbl := lw_at lw_m1 97 rfl
theorem q109 : (Jvm.Cond.instanceMethod ({ cls := "WireBufferDesk", name := "part", desc := "(II)[B" } : Jvm.MethodName)) ∈ lw_all := lw_g (lw_at lw_m1 98 rfl) rfl
theorem q110 : (Jvm.Cond.code ({ cls := "WireBufferDesk", name := "part", desc := "(II)[B" } : Jvm.MethodName) prog_2_method_7_code (7 : Nat) (Option.some (Jvm.ClassFile.FieldType.array Jvm.ClassFile.FieldType.byte))) ∈ lw_all := lw_g (lw_at lw_m1 99 rfl) rfl
theorem q111 : (Jvm.Cond.methodLink "WireBufferDesk" (38 : Nat) ({ cls := "WireBufferDesk", name := "count", desc := "(II)I" } : Jvm.MethodName)) ∈ lw_all := lw_g (lw_at lw_m1 100 rfl) rfl
theorem q112 : (Jvm.Cond.privateMethod ({ cls := "WireBufferDesk", name := "count", desc := "(II)I" } : Jvm.MethodName)) ∈ lw_tbl := lw_at lw_m1 101 rfl
theorem q113 : (Jvm.Cond.instanceMethod ({ cls := "WireBufferDesk", name := "count", desc := "(II)I" } : Jvm.MethodName)) ∈ lw_all := lw_g (lw_at lw_m1 102 rfl) rfl
theorem q114 : (Jvm.Cond.code ({ cls := "WireBufferDesk", name := "count", desc := "(II)I" } : Jvm.MethodName) prog_2_method_6_code (3 : Nat) (Option.some Jvm.ClassFile.FieldType.int)) ∈ lw_all := lw_g (lw_at lw_m1 103 rfl) rfl
theorem q115 : (Jvm.Cond.methodLink "WireBufferDesk" (62 : Nat) ({ cls := "OwnBuffer", name := "putString", desc := "([B)V" } : Jvm.MethodName)) ∈ lw_all := lw_g (lw_at lw_m1 104 rfl) rfl
theorem q129 : (Jvm.Cond.instanceMethod ({ cls := "WireBufferDesk", name := "numberIn", desc := "(II)Z" } : Jvm.MethodName)) ∈ lw_all := lw_g (lw_at lw_m1 118 rfl) rfl
theorem q130 : (Jvm.Cond.selects "WireBufferDesk" ({ cls := "WireBufferDesk", name := "numberIn", desc := "(II)Z" } : Jvm.MethodName) ({ cls := "WireBufferDesk", name := "numberIn", desc := "(II)Z" } : Jvm.MethodName)) ∈ lw_all := lw_g (lw_at lw_m1 119 rfl) rfl
theorem q131 : (Jvm.Cond.code ({ cls := "WireBufferDesk", name := "numberIn", desc := "(II)Z" } : Jvm.MethodName) prog_2_method_12_code (4 : Nat) (Option.some Jvm.ClassFile.FieldType.boolean)) ∈ lw_all := lw_g (lw_at lw_m1 120 rfl) rfl
theorem q132 : (Jvm.Cond.methodLink "WireBufferDesk" (66 : Nat) ({ cls := "OwnBuffer", name := "putMPInt", desc := "([B)V" } : Jvm.MethodName)) ∈ lw_all := lw_g (lw_at lw_m1 121 rfl) rfl
theorem q142 : (Jvm.Cond.instanceMethod ({ cls := "WireBufferDesk", name := "left", desc := "()I" } : Jvm.MethodName)) ∈ lw_all := lw_g (lw_at lw_m1 131 rfl) rfl
theorem q143 : (Jvm.Cond.selects "WireBufferDesk" ({ cls := "WireBufferDesk", name := "left", desc := "()I" } : Jvm.MethodName) ({ cls := "WireBufferDesk", name := "left", desc := "()I" } : Jvm.MethodName)) ∈ lw_all := lw_g (lw_at lw_m1 132 rfl) rfl
theorem q144 : (Jvm.Cond.code ({ cls := "WireBufferDesk", name := "left", desc := "()I" } : Jvm.MethodName) prog_2_method_13_code (1 : Nat) (Option.some Jvm.ClassFile.FieldType.int)) ∈ lw_all := lw_g (lw_at lw_m1 133 rfl) rfl
theorem q145 : (Jvm.Cond.methodLink "WireBufferDesk" (69 : Nat) ({ cls := "OwnBuffer", name := "getLength", desc := "()I" } : Jvm.MethodName)) ∈ lw_all := lw_g (lw_at lw_m1 134 rfl) rfl
theorem q150 : (Jvm.Cond.instanceMethod ({ cls := "WireBufferDesk", name := "byteOut", desc := "()I" } : Jvm.MethodName)) ∈ lw_all := lw_g (lw_at lw_m1 139 rfl) rfl
theorem q151 : (Jvm.Cond.selects "WireBufferDesk" ({ cls := "WireBufferDesk", name := "byteOut", desc := "()I" } : Jvm.MethodName) ({ cls := "WireBufferDesk", name := "byteOut", desc := "()I" } : Jvm.MethodName)) ∈ lw_all := lw_g (lw_at lw_m1 140 rfl) rfl
theorem q152 : (Jvm.Cond.code ({ cls := "WireBufferDesk", name := "byteOut", desc := "()I" } : Jvm.MethodName) prog_2_method_14_code (1 : Nat) (Option.some Jvm.ClassFile.FieldType.int)) ∈ lw_all := lw_g (lw_at lw_m1 141 rfl) rfl
theorem q153 : (Jvm.Cond.methodLink "WireBufferDesk" (73 : Nat) ({ cls := "OwnBuffer", name := "getByte", desc := "()I" } : Jvm.MethodName)) ∈ lw_all := lw_g (lw_at lw_m1 142 rfl) rfl
theorem q158 : (Jvm.Cond.instanceMethod ({ cls := "WireBufferDesk", name := "shortOut", desc := "()I" } : Jvm.MethodName)) ∈ lw_all := lw_g (lw_at lw_m1 147 rfl) rfl
theorem q159 : (Jvm.Cond.selects "WireBufferDesk" ({ cls := "WireBufferDesk", name := "shortOut", desc := "()I" } : Jvm.MethodName) ({ cls := "WireBufferDesk", name := "shortOut", desc := "()I" } : Jvm.MethodName)) ∈ lw_all := lw_g (lw_at lw_m1 148 rfl) rfl
theorem q160 : (Jvm.Cond.code ({ cls := "WireBufferDesk", name := "shortOut", desc := "()I" } : Jvm.MethodName) prog_2_method_15_code (1 : Nat) (Option.some Jvm.ClassFile.FieldType.int)) ∈ lw_all := lw_g (lw_at lw_m1 149 rfl) rfl
theorem q161 : (Jvm.Cond.methodLink "WireBufferDesk" (76 : Nat) ({ cls := "OwnBuffer", name := "getShort", desc := "()I" } : Jvm.MethodName)) ∈ lw_all := lw_g (lw_at lw_m1 150 rfl) rfl
theorem q167 : (Jvm.Cond.constant "WireBufferDesk" (79 : Nat) (65535 : Int32)) ∈ lw_all := lw_g (lw_at lw_m1 156 rfl) rfl
theorem q169 : (Jvm.Cond.instanceMethod ({ cls := "WireBufferDesk", name := "intOut", desc := "()J" } : Jvm.MethodName)) ∈ lw_all := lw_g (lw_at lw_m1 158 rfl) rfl
theorem q170 : (Jvm.Cond.selects "WireBufferDesk" ({ cls := "WireBufferDesk", name := "intOut", desc := "()J" } : Jvm.MethodName) ({ cls := "WireBufferDesk", name := "intOut", desc := "()J" } : Jvm.MethodName)) ∈ lw_all := lw_g (lw_at lw_m1 159 rfl) rfl
theorem q171 : (Jvm.Cond.code ({ cls := "WireBufferDesk", name := "intOut", desc := "()J" } : Jvm.MethodName) prog_2_method_16_code (1 : Nat) (Option.some Jvm.ClassFile.FieldType.long)) ∈ lw_all := lw_g (lw_at lw_m1 160 rfl) rfl
theorem q172 : (Jvm.Cond.constantLong "WireBufferDesk" (80 : Nat) (-1 : Int64)) ∈ lw_all := lw_g (lw_at lw_m1 161 rfl) rfl
theorem q173 : (Jvm.Cond.methodLink "WireBufferDesk" (82 : Nat) ({ cls := "OwnBuffer", name := "getUInt", desc := "()J" } : Jvm.MethodName)) ∈ lw_all := lw_g (lw_at lw_m1 162 rfl) rfl
theorem q181 : (Jvm.Cond.instanceMethod ({ cls := "WireBufferDesk", name := "longOut", desc := "()J" } : Jvm.MethodName)) ∈ lw_all := lw_g (lw_at lw_m1 170 rfl) rfl
theorem q182 : (Jvm.Cond.selects "WireBufferDesk" ({ cls := "WireBufferDesk", name := "longOut", desc := "()J" } : Jvm.MethodName) ({ cls := "WireBufferDesk", name := "longOut", desc := "()J" } : Jvm.MethodName)) ∈ lw_all := lw_g (lw_at lw_m1 171 rfl) rfl
theorem q183 : (Jvm.Cond.code ({ cls := "WireBufferDesk", name := "longOut", desc := "()J" } : Jvm.MethodName) prog_2_method_17_code (1 : Nat) (Option.some Jvm.ClassFile.FieldType.long)) ∈ lw_all := lw_g (lw_at lw_m1 172 rfl) rfl
theorem q184 : (Jvm.Cond.methodLink "WireBufferDesk" (86 : Nat) ({ cls := "OwnBuffer", name := "getLong", desc := "()J" } : Jvm.MethodName)) ∈ lw_all := lw_g (lw_at lw_m1 173 rfl) rfl
theorem q197 : (Jvm.Cond.instanceMethod ({ cls := "WireBufferDesk", name := "stringOut", desc := "()I" } : Jvm.MethodName)) ∈ lw_all := lw_g (lw_at lw_m1 186 rfl) rfl
theorem q198 : (Jvm.Cond.selects "WireBufferDesk" ({ cls := "WireBufferDesk", name := "stringOut", desc := "()I" } : Jvm.MethodName) ({ cls := "WireBufferDesk", name := "stringOut", desc := "()I" } : Jvm.MethodName)) ∈ lw_all := lw_g (lw_at lw_m1 187 rfl) rfl
theorem q199 : (Jvm.Cond.code ({ cls := "WireBufferDesk", name := "stringOut", desc := "()I" } : Jvm.MethodName) prog_2_method_19_code (1 : Nat) (Option.some Jvm.ClassFile.FieldType.int)) ∈ lw_all := lw_g (lw_at lw_m1 188 rfl) rfl
theorem q200 : (Jvm.Cond.methodLink "WireBufferDesk" (94 : Nat) ({ cls := "WireBufferDesk", name := "next", desc := "()I" } : Jvm.MethodName)) ∈ lw_all := lw_g (lw_at lw_m1 189 rfl) rfl
theorem q201 : (Jvm.Cond.privateMethod ({ cls := "WireBufferDesk", name := "next", desc := "()I" } : Jvm.MethodName)) ∈ lw_tbl := lw_at lw_m1 190 rfl
theorem q202 : (Jvm.Cond.instanceMethod ({ cls := "WireBufferDesk", name := "next", desc := "()I" } : Jvm.MethodName)) ∈ lw_all := lw_g (lw_at lw_m1 191 rfl) rfl
theorem q203 : (Jvm.Cond.code ({ cls := "WireBufferDesk", name := "next", desc := "()I" } : Jvm.MethodName) prog_2_method_18_code (4 : Nat) (Option.some Jvm.ClassFile.FieldType.int)) ∈ lw_all := lw_g (lw_at lw_m1 192 rfl) rfl
theorem q204 : (Jvm.Cond.methodLink "WireBufferDesk" (89 : Nat) ({ cls := "OwnBuffer", name := "getOffSet", desc := "()I" } : Jvm.MethodName)) ∈ lw_all := lw_g (lw_at lw_m1 193 rfl) rfl
theorem q208 : (Jvm.Cond.methodLink "WireBufferDesk" (97 : Nat) ({ cls := "OwnBuffer", name := "getString", desc := "()[B" } : Jvm.MethodName)) ∈ lw_all := lw_g (lw_at lw_m1 197 rfl) rfl
theorem q218 : (Jvm.Cond.instanceMethod ({ cls := "WireBufferDesk", name := "read", desc := "(I)I" } : Jvm.MethodName)) ∈ lw_all := lw_g (lw_at lw_m1 207 rfl) rfl
theorem q219 : (Jvm.Cond.selects "WireBufferDesk" ({ cls := "WireBufferDesk", name := "read", desc := "(I)I" } : Jvm.MethodName) ({ cls := "WireBufferDesk", name := "read", desc := "(I)I" } : Jvm.MethodName)) ∈ lw_all := lw_g (lw_at lw_m1 208 rfl) rfl
theorem q220 : (Jvm.Cond.code ({ cls := "WireBufferDesk", name := "read", desc := "(I)I" } : Jvm.MethodName) prog_2_method_20_code (2 : Nat) (Option.some Jvm.ClassFile.FieldType.int)) ∈ lw_all := lw_g (lw_at lw_m1 209 rfl) rfl
theorem q222 : (Jvm.Cond.instanceMethod ({ cls := "WireBufferDesk", name := "back", desc := "()V" } : Jvm.MethodName)) ∈ lw_all := lw_g (lw_at lw_m1 211 rfl) rfl
theorem q223 : (Jvm.Cond.selects "WireBufferDesk" ({ cls := "WireBufferDesk", name := "back", desc := "()V" } : Jvm.MethodName) ({ cls := "WireBufferDesk", name := "back", desc := "()V" } : Jvm.MethodName)) ∈ lw_all := lw_g (lw_at lw_m1 212 rfl) rfl
theorem q224 : (Jvm.Cond.code ({ cls := "WireBufferDesk", name := "back", desc := "()V" } : Jvm.MethodName) prog_2_method_21_code (1 : Nat) (Option.none : Option Jvm.ClassFile.FieldType)) ∈ lw_all := lw_g (lw_at lw_m1 213 rfl) rfl
theorem q225 : (Jvm.Cond.methodLink "WireBufferDesk" (101 : Nat) ({ cls := "OwnBuffer", name := "rewind", desc := "()V" } : Jvm.MethodName)) ∈ lw_all := lw_g (lw_at lw_m1 214 rfl) rfl
theorem q230 : (Jvm.Cond.instanceMethod ({ cls := "WireBufferDesk", name := "anew", desc := "()V" } : Jvm.MethodName)) ∈ lw_all := lw_g (lw_at lw_m1 219 rfl) rfl
theorem q231 : (Jvm.Cond.selects "WireBufferDesk" ({ cls := "WireBufferDesk", name := "anew", desc := "()V" } : Jvm.MethodName) ({ cls := "WireBufferDesk", name := "anew", desc := "()V" } : Jvm.MethodName)) ∈ lw_all := lw_g (lw_at lw_m1 220 rfl) rfl
theorem q232 : (Jvm.Cond.code ({ cls := "WireBufferDesk", name := "anew", desc := "()V" } : Jvm.MethodName) prog_2_method_22_code (1 : Nat) (Option.none : Option Jvm.ClassFile.FieldType)) ∈ lw_all := lw_g (lw_at lw_m1 221 rfl) rfl
theorem in_X0 : ∀ w ∈ wsX00, w ∈ lw_all := lw_in wsX00 [50, 52, 54, 56] (by decide +kernel) (by decide +kernel)
end
section
/-! WireBufferDeskModel -/
set_option maxRecDepth 100000
def RX2 : String := "WireBufferDeskModel"
def TX2 : u_T := fun k => match k with
  | 0 => ("WireBufferDeskModel", "text", "[I", true)
  | 1 => ("WireBufferDeskModel", "size", "I", false)
  | 2 => ("WireBufferDeskModel", "wire", "[I", false)
  | 3 => ("WireBufferDeskModel", "laid", "I", false)
  | 4 => ("WireBufferDeskModel", "at", "I", false)
  | _ => ("WireBufferDeskModel", "last", "[I", false)
def tyX2 : Nat → FieldType := fun k => match k with
  | 0 => .array .int
  | 1 => .int
  | 2 => .array .int
  | 3 => .int
  | 4 => .int
  | _ => .array .int
abbrev wsX20 : List Cond := u_ws RX2 TX2 6
theorem nmX2 : ∀ a, a < 6 → ∀ b, b < 6 → a ≠ b → (TX2 a).2.1 ≠ (TX2 b).2.1 := by decide +kernel
theorem tyX2_ok : ∀ k, k < 6 → parseFieldDescriptor (TX2 k).2.2.1 = some (tyX2 k) := by decide +kernel
abbrev cX2_init : ByteArray := prog_4_method_1_code
def yX2_init : MethodName := ⟨RX2, "<init>", "()V"⟩
def dkwX2_init_1 : List UInt8 := [188, 10, 181, 0, 16, 177]
abbrev dktX2_init_1 : List UInt8 := dkwX2_init_1 ++ []
def dkwX2_init_0 : List UInt8 := [42, 183, 0, 1, 42, 17, 1, 0, 188, 10, 181, 0, 9, 42, 17, 8, 0, 188, 10, 181, 0, 13, 42, 3]
abbrev dktX2_init_0 : List UInt8 := dkwX2_init_0 ++ dktX2_init_1
theorem dksX2_init_0 : cX2_init.data.toList.drop 0 = dktX2_init_0 := by decide +kernel
theorem dksX2_init_1 : cX2_init.data.toList.drop 24 = dktX2_init_1 := dk_seg dksX2_init_0 24 rfl rfl
theorem dX2_init_0 : decode cX2_init 0 = .ok (.aload_n 0, 1) := dk_42 (dk_at dksX2_init_0 0 rfl rfl)
theorem dX2_init_1 : decode cX2_init 1 = .ok (.invokespecial 1, 3) := dk_183 0 1 (dk_at dksX2_init_0 1 rfl rfl)
theorem dX2_init_4 : decode cX2_init 4 = .ok (.aload_n 0, 1) := dk_42 (dk_at dksX2_init_0 4 rfl rfl)
theorem dX2_init_5 : decode cX2_init 5 = .ok (.sipush 256, 3) := dk_17 1 0 (dk_at dksX2_init_0 5 rfl rfl)
theorem dX2_init_8 : decode cX2_init 8 = .ok (.newarray .int, 2) := dk_188_10 (dk_at dksX2_init_0 8 rfl rfl)
theorem dX2_init_10 : decode cX2_init 10 = .ok (.putfield 9, 3) := dk_181 0 9 (dk_at dksX2_init_0 10 rfl rfl)
theorem dX2_init_13 : decode cX2_init 13 = .ok (.aload_n 0, 1) := dk_42 (dk_at dksX2_init_0 13 rfl rfl)
theorem dX2_init_14 : decode cX2_init 14 = .ok (.sipush 2048, 3) := dk_17 8 0 (dk_at dksX2_init_0 14 rfl rfl)
theorem dX2_init_17 : decode cX2_init 17 = .ok (.newarray .int, 2) := dk_188_10 (dk_at dksX2_init_0 17 rfl rfl)
theorem dX2_init_19 : decode cX2_init 19 = .ok (.putfield 13, 3) := dk_181 0 13 (dk_at dksX2_init_0 19 rfl rfl)
theorem dX2_init_22 : decode cX2_init 22 = .ok (.aload_n 0, 1) := dk_42 (dk_at dksX2_init_0 22 rfl rfl)
theorem dX2_init_23 : decode cX2_init 23 = .ok (.iconst 0, 1) := dk_3 (dk_at dksX2_init_0 23 rfl rfl)
theorem dX2_init_24 : decode cX2_init 24 = .ok (.newarray .int, 2) := dk_188_10 (dk_at dksX2_init_1 0 rfl rfl)
theorem dX2_init_26 : decode cX2_init 26 = .ok (.putfield 16, 3) := dk_181 0 16 (dk_at dksX2_init_1 2 rfl rfl)
theorem dX2_init_29 : decode cX2_init 29 = .ok (.return_, 1) := dk_177 (dk_at dksX2_init_1 5 rfl rfl)
abbrev cX2_put : ByteArray := prog_4_method_2_code
def yX2_put : MethodName := ⟨RX2, "put", "(IIII)Z"⟩
def dkwX2_put_4 : List UInt8 := [180, 0, 19, 4, 96, 181, 0, 19, 132, 10, 255, 167, 255, 217, 132, 8, 1, 167, 255, 194, 4, 172]
abbrev dktX2_put_4 : List UInt8 := dkwX2_put_4 ++ []
def dkwX2_put_3 : List UInt8 := [42, 180, 0, 9, 42, 180, 0, 19, 21, 9, 16, 8, 21, 10, 104, 124, 17, 0, 255, 126, 79, 42, 89]
abbrev dktX2_put_3 : List UInt8 := dkwX2_put_3 ++ dktX2_put_4
def dkwX2_put_2 : List UInt8 := [54, 8, 21, 8, 21, 7, 162, 0, 61, 25, 6, 21, 8, 46, 54, 9, 6, 54, 10, 21, 10, 155, 0, 40]
abbrev dktX2_put_2 : List UInt8 := dkwX2_put_2 ++ dktX2_put_3
def dkwX2_put_1 : List UInt8 := [28, 79, 89, 5, 29, 79, 89, 6, 21, 4, 79, 58, 5, 25, 5, 58, 6, 25, 6, 190, 54, 7, 3]
abbrev dktX2_put_1 : List UInt8 := dkwX2_put_1 ++ dktX2_put_2
def dkwX2_put_0 : List UInt8 := [42, 180, 0, 19, 16, 16, 96, 17, 1, 0, 164, 0, 5, 3, 172, 7, 188, 10, 89, 3, 27, 79, 89, 4]
abbrev dktX2_put_0 : List UInt8 := dkwX2_put_0 ++ dktX2_put_1
theorem dksX2_put_0 : cX2_put.data.toList.drop 0 = dktX2_put_0 := by decide +kernel
theorem dksX2_put_1 : cX2_put.data.toList.drop 24 = dktX2_put_1 := dk_seg dksX2_put_0 24 rfl rfl
theorem dksX2_put_2 : cX2_put.data.toList.drop 47 = dktX2_put_2 := dk_seg dksX2_put_1 23 rfl rfl
theorem dksX2_put_3 : cX2_put.data.toList.drop 71 = dktX2_put_3 := dk_seg dksX2_put_2 24 rfl rfl
theorem dksX2_put_4 : cX2_put.data.toList.drop 94 = dktX2_put_4 := dk_seg dksX2_put_3 23 rfl rfl
theorem dX2_put_0 : decode cX2_put 0 = .ok (.aload_n 0, 1) := dk_42 (dk_at dksX2_put_0 0 rfl rfl)
theorem dX2_put_1 : decode cX2_put 1 = .ok (.getfield 19, 3) := dk_180 0 19 (dk_at dksX2_put_0 1 rfl rfl)
theorem dX2_put_4 : decode cX2_put 4 = .ok (.bipush 16, 2) := dk_16 16 (dk_at dksX2_put_0 4 rfl rfl)
theorem dX2_put_6 : decode cX2_put 6 = .ok (.iadd, 1) := dk_96 (dk_at dksX2_put_0 6 rfl rfl)
theorem dX2_put_7 : decode cX2_put 7 = .ok (.sipush 256, 3) := dk_17 1 0 (dk_at dksX2_put_0 7 rfl rfl)
theorem dX2_put_10 : decode cX2_put 10 = .ok (.if_icmp .le 5, 3) := dk_164 0 5 (dk_at dksX2_put_0 10 rfl rfl)
theorem dX2_put_13 : decode cX2_put 13 = .ok (.iconst 0, 1) := dk_3 (dk_at dksX2_put_0 13 rfl rfl)
theorem dX2_put_14 : decode cX2_put 14 = .ok (.ireturn, 1) := dk_172 (dk_at dksX2_put_0 14 rfl rfl)
theorem dX2_put_15 : decode cX2_put 15 = .ok (.iconst 4, 1) := dk_7 (dk_at dksX2_put_0 15 rfl rfl)
theorem dX2_put_16 : decode cX2_put 16 = .ok (.newarray .int, 2) := dk_188_10 (dk_at dksX2_put_0 16 rfl rfl)
theorem dX2_put_18 : decode cX2_put 18 = .ok (.dup, 1) := dk_89 (dk_at dksX2_put_0 18 rfl rfl)
theorem dX2_put_19 : decode cX2_put 19 = .ok (.iconst 0, 1) := dk_3 (dk_at dksX2_put_0 19 rfl rfl)
theorem dX2_put_20 : decode cX2_put 20 = .ok (.iload_n 1, 1) := dk_27 (dk_at dksX2_put_0 20 rfl rfl)
theorem dX2_put_21 : decode cX2_put 21 = .ok (.iastore, 1) := dk_79 (dk_at dksX2_put_0 21 rfl rfl)
theorem dX2_put_22 : decode cX2_put 22 = .ok (.dup, 1) := dk_89 (dk_at dksX2_put_0 22 rfl rfl)
theorem dX2_put_23 : decode cX2_put 23 = .ok (.iconst 1, 1) := dk_4 (dk_at dksX2_put_0 23 rfl rfl)
theorem dX2_put_24 : decode cX2_put 24 = .ok (.iload_n 2, 1) := dk_28 (dk_at dksX2_put_1 0 rfl rfl)
theorem dX2_put_25 : decode cX2_put 25 = .ok (.iastore, 1) := dk_79 (dk_at dksX2_put_1 1 rfl rfl)
theorem dX2_put_26 : decode cX2_put 26 = .ok (.dup, 1) := dk_89 (dk_at dksX2_put_1 2 rfl rfl)
theorem dX2_put_27 : decode cX2_put 27 = .ok (.iconst 2, 1) := dk_5 (dk_at dksX2_put_1 3 rfl rfl)
theorem dX2_put_28 : decode cX2_put 28 = .ok (.iload_n 3, 1) := dk_29 (dk_at dksX2_put_1 4 rfl rfl)
theorem dX2_put_29 : decode cX2_put 29 = .ok (.iastore, 1) := dk_79 (dk_at dksX2_put_1 5 rfl rfl)
theorem dX2_put_30 : decode cX2_put 30 = .ok (.dup, 1) := dk_89 (dk_at dksX2_put_1 6 rfl rfl)
theorem dX2_put_31 : decode cX2_put 31 = .ok (.iconst 3, 1) := dk_6 (dk_at dksX2_put_1 7 rfl rfl)
theorem dX2_put_32 : decode cX2_put 32 = .ok (.iload 4, 2) := dk_21 4 (dk_at dksX2_put_1 8 rfl rfl)
theorem dX2_put_34 : decode cX2_put 34 = .ok (.iastore, 1) := dk_79 (dk_at dksX2_put_1 10 rfl rfl)
theorem dX2_put_35 : decode cX2_put 35 = .ok (.astore 5, 2) := dk_58 5 (dk_at dksX2_put_1 11 rfl rfl)
theorem dX2_put_37 : decode cX2_put 37 = .ok (.aload 5, 2) := dk_25 5 (dk_at dksX2_put_1 13 rfl rfl)
theorem dX2_put_39 : decode cX2_put 39 = .ok (.astore 6, 2) := dk_58 6 (dk_at dksX2_put_1 15 rfl rfl)
theorem dX2_put_41 : decode cX2_put 41 = .ok (.aload 6, 2) := dk_25 6 (dk_at dksX2_put_1 17 rfl rfl)
theorem dX2_put_43 : decode cX2_put 43 = .ok (.arraylength, 1) := dk_190 (dk_at dksX2_put_1 19 rfl rfl)
theorem dX2_put_44 : decode cX2_put 44 = .ok (.istore 7, 2) := dk_54 7 (dk_at dksX2_put_1 20 rfl rfl)
theorem dX2_put_46 : decode cX2_put 46 = .ok (.iconst 0, 1) := dk_3 (dk_at dksX2_put_1 22 rfl rfl)
theorem dX2_put_47 : decode cX2_put 47 = .ok (.istore 8, 2) := dk_54 8 (dk_at dksX2_put_2 0 rfl rfl)
theorem dX2_put_49 : decode cX2_put 49 = .ok (.iload 8, 2) := dk_21 8 (dk_at dksX2_put_2 2 rfl rfl)
theorem dX2_put_51 : decode cX2_put 51 = .ok (.iload 7, 2) := dk_21 7 (dk_at dksX2_put_2 4 rfl rfl)
theorem dX2_put_53 : decode cX2_put 53 = .ok (.if_icmp .ge 61, 3) := dk_162 0 61 (dk_at dksX2_put_2 6 rfl rfl)
theorem dX2_put_56 : decode cX2_put 56 = .ok (.aload 6, 2) := dk_25 6 (dk_at dksX2_put_2 9 rfl rfl)
theorem dX2_put_58 : decode cX2_put 58 = .ok (.iload 8, 2) := dk_21 8 (dk_at dksX2_put_2 11 rfl rfl)
theorem dX2_put_60 : decode cX2_put 60 = .ok (.iaload, 1) := dk_46 (dk_at dksX2_put_2 13 rfl rfl)
theorem dX2_put_61 : decode cX2_put 61 = .ok (.istore 9, 2) := dk_54 9 (dk_at dksX2_put_2 14 rfl rfl)
theorem dX2_put_63 : decode cX2_put 63 = .ok (.iconst 3, 1) := dk_6 (dk_at dksX2_put_2 16 rfl rfl)
theorem dX2_put_64 : decode cX2_put 64 = .ok (.istore 10, 2) := dk_54 10 (dk_at dksX2_put_2 17 rfl rfl)
theorem dX2_put_66 : decode cX2_put 66 = .ok (.iload 10, 2) := dk_21 10 (dk_at dksX2_put_2 19 rfl rfl)
theorem dX2_put_68 : decode cX2_put 68 = .ok (.ifCond .lt 40, 3) := dk_155 0 40 (dk_at dksX2_put_2 21 rfl rfl)
theorem dX2_put_71 : decode cX2_put 71 = .ok (.aload_n 0, 1) := dk_42 (dk_at dksX2_put_3 0 rfl rfl)
theorem dX2_put_72 : decode cX2_put 72 = .ok (.getfield 9, 3) := dk_180 0 9 (dk_at dksX2_put_3 1 rfl rfl)
theorem dX2_put_75 : decode cX2_put 75 = .ok (.aload_n 0, 1) := dk_42 (dk_at dksX2_put_3 4 rfl rfl)
theorem dX2_put_76 : decode cX2_put 76 = .ok (.getfield 19, 3) := dk_180 0 19 (dk_at dksX2_put_3 5 rfl rfl)
theorem dX2_put_79 : decode cX2_put 79 = .ok (.iload 9, 2) := dk_21 9 (dk_at dksX2_put_3 8 rfl rfl)
theorem dX2_put_81 : decode cX2_put 81 = .ok (.bipush 8, 2) := dk_16 8 (dk_at dksX2_put_3 10 rfl rfl)
theorem dX2_put_83 : decode cX2_put 83 = .ok (.iload 10, 2) := dk_21 10 (dk_at dksX2_put_3 12 rfl rfl)
theorem dX2_put_85 : decode cX2_put 85 = .ok (.imul, 1) := dk_104 (dk_at dksX2_put_3 14 rfl rfl)
theorem dX2_put_86 : decode cX2_put 86 = .ok (.iushr, 1) := dk_124 (dk_at dksX2_put_3 15 rfl rfl)
theorem dX2_put_87 : decode cX2_put 87 = .ok (.sipush 255, 3) := dk_17 0 255 (dk_at dksX2_put_3 16 rfl rfl)
theorem dX2_put_90 : decode cX2_put 90 = .ok (.iand, 1) := dk_126 (dk_at dksX2_put_3 19 rfl rfl)
theorem dX2_put_91 : decode cX2_put 91 = .ok (.iastore, 1) := dk_79 (dk_at dksX2_put_3 20 rfl rfl)
theorem dX2_put_92 : decode cX2_put 92 = .ok (.aload_n 0, 1) := dk_42 (dk_at dksX2_put_3 21 rfl rfl)
theorem dX2_put_93 : decode cX2_put 93 = .ok (.dup, 1) := dk_89 (dk_at dksX2_put_3 22 rfl rfl)
theorem dX2_put_94 : decode cX2_put 94 = .ok (.getfield 19, 3) := dk_180 0 19 (dk_at dksX2_put_4 0 rfl rfl)
theorem dX2_put_97 : decode cX2_put 97 = .ok (.iconst 1, 1) := dk_4 (dk_at dksX2_put_4 3 rfl rfl)
theorem dX2_put_98 : decode cX2_put 98 = .ok (.iadd, 1) := dk_96 (dk_at dksX2_put_4 4 rfl rfl)
theorem dX2_put_99 : decode cX2_put 99 = .ok (.putfield 19, 3) := dk_181 0 19 (dk_at dksX2_put_4 5 rfl rfl)
theorem dX2_put_102 : decode cX2_put 102 = .ok (.iinc 10 (-1), 3) := dk_132 10 255 (dk_at dksX2_put_4 8 rfl rfl)
theorem dX2_put_105 : decode cX2_put 105 = .ok (.goto (-39), 3) := dk_167 255 217 (dk_at dksX2_put_4 11 rfl rfl)
theorem dX2_put_108 : decode cX2_put 108 = .ok (.iinc 8 1, 3) := dk_132 8 1 (dk_at dksX2_put_4 14 rfl rfl)
theorem dX2_put_111 : decode cX2_put 111 = .ok (.goto (-62), 3) := dk_167 255 194 (dk_at dksX2_put_4 17 rfl rfl)
theorem dX2_put_114 : decode cX2_put 114 = .ok (.iconst 1, 1) := dk_4 (dk_at dksX2_put_4 20 rfl rfl)
theorem dX2_put_115 : decode cX2_put 115 = .ok (.ireturn, 1) := dk_172 (dk_at dksX2_put_4 21 rfl rfl)
abbrev cX2_trim : ByteArray := prog_4_method_4_code
def yX2_trim : MethodName := ⟨RX2, "trim", "(I)V"⟩
def dkwX2_trim_0 : List UInt8 := [42, 42, 27, 182, 0, 24, 181, 0, 19, 177]
abbrev dktX2_trim_0 : List UInt8 := dkwX2_trim_0 ++ []
theorem dksX2_trim_0 : cX2_trim.data.toList.drop 0 = dktX2_trim_0 := by decide +kernel
theorem dX2_trim_0 : decode cX2_trim 0 = .ok (.aload_n 0, 1) := dk_42 (dk_at dksX2_trim_0 0 rfl rfl)
theorem dX2_trim_1 : decode cX2_trim 1 = .ok (.aload_n 0, 1) := dk_42 (dk_at dksX2_trim_0 1 rfl rfl)
theorem dX2_trim_2 : decode cX2_trim 2 = .ok (.iload_n 1, 1) := dk_27 (dk_at dksX2_trim_0 2 rfl rfl)
theorem dX2_trim_3 : decode cX2_trim 3 = .ok (.invokevirtual 24, 3) := dk_182 0 24 (dk_at dksX2_trim_0 3 rfl rfl)
theorem dX2_trim_6 : decode cX2_trim 6 = .ok (.putfield 19, 3) := dk_181 0 19 (dk_at dksX2_trim_0 6 rfl rfl)
theorem dX2_trim_9 : decode cX2_trim 9 = .ok (.return_, 1) := dk_177 (dk_at dksX2_trim_0 9 rfl rfl)
abbrev cX2_begin : ByteArray := prog_4_method_3_code
def yX2_begin : MethodName := ⟨RX2, "begin", "(I)I"⟩
def dkwX2_begin_0 : List UInt8 := [27, 18, 23, 126, 42, 180, 0, 19, 4, 96, 112, 172]
abbrev dktX2_begin_0 : List UInt8 := dkwX2_begin_0 ++ []
theorem dksX2_begin_0 : cX2_begin.data.toList.drop 0 = dktX2_begin_0 := by decide +kernel
theorem dX2_begin_0 : decode cX2_begin 0 = .ok (.iload_n 1, 1) := dk_27 (dk_at dksX2_begin_0 0 rfl rfl)
theorem dX2_begin_1 : decode cX2_begin 1 = .ok (.ldc 23, 2) := dk_18 23 (dk_at dksX2_begin_0 1 rfl rfl)
theorem dX2_begin_3 : decode cX2_begin 3 = .ok (.iand, 1) := dk_126 (dk_at dksX2_begin_0 3 rfl rfl)
theorem dX2_begin_4 : decode cX2_begin 4 = .ok (.aload_n 0, 1) := dk_42 (dk_at dksX2_begin_0 4 rfl rfl)
theorem dX2_begin_5 : decode cX2_begin 5 = .ok (.getfield 19, 3) := dk_180 0 19 (dk_at dksX2_begin_0 5 rfl rfl)
theorem dX2_begin_8 : decode cX2_begin 8 = .ok (.iconst 1, 1) := dk_4 (dk_at dksX2_begin_0 8 rfl rfl)
theorem dX2_begin_9 : decode cX2_begin 9 = .ok (.iadd, 1) := dk_96 (dk_at dksX2_begin_0 9 rfl rfl)
theorem dX2_begin_10 : decode cX2_begin 10 = .ok (.irem, 1) := dk_112 (dk_at dksX2_begin_0 10 rfl rfl)
theorem dX2_begin_11 : decode cX2_begin 11 = .ok (.ireturn, 1) := dk_172 (dk_at dksX2_begin_0 11 rfl rfl)
abbrev cX2_byteIn : ByteArray := prog_4_method_9_code
def yX2_byteIn : MethodName := ⟨RX2, "byteIn", "(I)Z"⟩
def dkwX2_byteIn_0 : List UInt8 := [42, 182, 0, 37, 153, 0, 5, 3, 172, 42, 27, 133, 4, 182, 0, 33, 4, 172]
abbrev dktX2_byteIn_0 : List UInt8 := dkwX2_byteIn_0 ++ []
theorem dksX2_byteIn_0 : cX2_byteIn.data.toList.drop 0 = dktX2_byteIn_0 := by decide +kernel
theorem dX2_byteIn_0 : decode cX2_byteIn 0 = .ok (.aload_n 0, 1) := dk_42 (dk_at dksX2_byteIn_0 0 rfl rfl)
theorem dX2_byteIn_1 : decode cX2_byteIn 1 = .ok (.invokevirtual 37, 3) := dk_182 0 37 (dk_at dksX2_byteIn_0 1 rfl rfl)
theorem dX2_byteIn_4 : decode cX2_byteIn 4 = .ok (.ifCond .eq 5, 3) := dk_153 0 5 (dk_at dksX2_byteIn_0 4 rfl rfl)
theorem dX2_byteIn_7 : decode cX2_byteIn 7 = .ok (.iconst 0, 1) := dk_3 (dk_at dksX2_byteIn_0 7 rfl rfl)
theorem dX2_byteIn_8 : decode cX2_byteIn 8 = .ok (.ireturn, 1) := dk_172 (dk_at dksX2_byteIn_0 8 rfl rfl)
theorem dX2_byteIn_9 : decode cX2_byteIn 9 = .ok (.aload_n 0, 1) := dk_42 (dk_at dksX2_byteIn_0 9 rfl rfl)
theorem dX2_byteIn_10 : decode cX2_byteIn 10 = .ok (.iload_n 1, 1) := dk_27 (dk_at dksX2_byteIn_0 10 rfl rfl)
theorem dX2_byteIn_11 : decode cX2_byteIn 11 = .ok (.i2l, 1) := dk_133 (dk_at dksX2_byteIn_0 11 rfl rfl)
theorem dX2_byteIn_12 : decode cX2_byteIn 12 = .ok (.iconst 1, 1) := dk_4 (dk_at dksX2_byteIn_0 12 rfl rfl)
theorem dX2_byteIn_13 : decode cX2_byteIn 13 = .ok (.invokevirtual 33, 3) := dk_182 0 33 (dk_at dksX2_byteIn_0 13 rfl rfl)
theorem dX2_byteIn_16 : decode cX2_byteIn 16 = .ok (.iconst 1, 1) := dk_4 (dk_at dksX2_byteIn_0 16 rfl rfl)
theorem dX2_byteIn_17 : decode cX2_byteIn 17 = .ok (.ireturn, 1) := dk_172 (dk_at dksX2_byteIn_0 17 rfl rfl)
abbrev cX2_isFull : ByteArray := prog_4_method_6_code
def yX2_isFull : MethodName := ⟨RX2, "isFull", "()Z"⟩
def dkwX2_isFull_0 : List UInt8 := [42, 180, 0, 28, 17, 6, 64, 161, 0, 7, 4, 167, 0, 4, 3, 172]
abbrev dktX2_isFull_0 : List UInt8 := dkwX2_isFull_0 ++ []
theorem dksX2_isFull_0 : cX2_isFull.data.toList.drop 0 = dktX2_isFull_0 := by decide +kernel
theorem dX2_isFull_0 : decode cX2_isFull 0 = .ok (.aload_n 0, 1) := dk_42 (dk_at dksX2_isFull_0 0 rfl rfl)
theorem dX2_isFull_1 : decode cX2_isFull 1 = .ok (.getfield 28, 3) := dk_180 0 28 (dk_at dksX2_isFull_0 1 rfl rfl)
theorem dX2_isFull_4 : decode cX2_isFull 4 = .ok (.sipush 1600, 3) := dk_17 6 64 (dk_at dksX2_isFull_0 4 rfl rfl)
theorem dX2_isFull_7 : decode cX2_isFull 7 = .ok (.if_icmp .lt 7, 3) := dk_161 0 7 (dk_at dksX2_isFull_0 7 rfl rfl)
theorem dX2_isFull_10 : decode cX2_isFull 10 = .ok (.iconst 1, 1) := dk_4 (dk_at dksX2_isFull_0 10 rfl rfl)
theorem dX2_isFull_11 : decode cX2_isFull 11 = .ok (.goto 4, 3) := dk_167 0 4 (dk_at dksX2_isFull_0 11 rfl rfl)
theorem dX2_isFull_14 : decode cX2_isFull 14 = .ok (.iconst 0, 1) := dk_3 (dk_at dksX2_isFull_0 14 rfl rfl)
theorem dX2_isFull_15 : decode cX2_isFull 15 = .ok (.ireturn, 1) := dk_172 (dk_at dksX2_isFull_0 15 rfl rfl)
abbrev cX2_lay : ByteArray := prog_4_method_7_code
def yX2_lay : MethodName := ⟨RX2, "lay", "(JI)V"⟩
def dkwX2_lay_1 : List UInt8 := [125, 20, 0, 31, 127, 136, 79, 42, 89, 180, 0, 28, 4, 96, 181, 0, 28, 132, 4, 255, 167, 255, 217, 177]
abbrev dktX2_lay_1 : List UInt8 := dkwX2_lay_1 ++ []
def dkwX2_lay_0 : List UInt8 := [29, 4, 100, 54, 4, 21, 4, 155, 0, 40, 42, 180, 0, 13, 42, 180, 0, 28, 31, 16, 8, 21, 4, 104]
abbrev dktX2_lay_0 : List UInt8 := dkwX2_lay_0 ++ dktX2_lay_1
theorem dksX2_lay_0 : cX2_lay.data.toList.drop 0 = dktX2_lay_0 := by decide +kernel
theorem dksX2_lay_1 : cX2_lay.data.toList.drop 24 = dktX2_lay_1 := dk_seg dksX2_lay_0 24 rfl rfl
theorem dX2_lay_0 : decode cX2_lay 0 = .ok (.iload_n 3, 1) := dk_29 (dk_at dksX2_lay_0 0 rfl rfl)
theorem dX2_lay_1 : decode cX2_lay 1 = .ok (.iconst 1, 1) := dk_4 (dk_at dksX2_lay_0 1 rfl rfl)
theorem dX2_lay_2 : decode cX2_lay 2 = .ok (.isub, 1) := dk_100 (dk_at dksX2_lay_0 2 rfl rfl)
theorem dX2_lay_3 : decode cX2_lay 3 = .ok (.istore 4, 2) := dk_54 4 (dk_at dksX2_lay_0 3 rfl rfl)
theorem dX2_lay_5 : decode cX2_lay 5 = .ok (.iload 4, 2) := dk_21 4 (dk_at dksX2_lay_0 5 rfl rfl)
theorem dX2_lay_7 : decode cX2_lay 7 = .ok (.ifCond .lt 40, 3) := dk_155 0 40 (dk_at dksX2_lay_0 7 rfl rfl)
theorem dX2_lay_10 : decode cX2_lay 10 = .ok (.aload_n 0, 1) := dk_42 (dk_at dksX2_lay_0 10 rfl rfl)
theorem dX2_lay_11 : decode cX2_lay 11 = .ok (.getfield 13, 3) := dk_180 0 13 (dk_at dksX2_lay_0 11 rfl rfl)
theorem dX2_lay_14 : decode cX2_lay 14 = .ok (.aload_n 0, 1) := dk_42 (dk_at dksX2_lay_0 14 rfl rfl)
theorem dX2_lay_15 : decode cX2_lay 15 = .ok (.getfield 28, 3) := dk_180 0 28 (dk_at dksX2_lay_0 15 rfl rfl)
theorem dX2_lay_18 : decode cX2_lay 18 = .ok (.lload_n 1, 1) := dk_31 (dk_at dksX2_lay_0 18 rfl rfl)
theorem dX2_lay_19 : decode cX2_lay 19 = .ok (.bipush 8, 2) := dk_16 8 (dk_at dksX2_lay_0 19 rfl rfl)
theorem dX2_lay_21 : decode cX2_lay 21 = .ok (.iload 4, 2) := dk_21 4 (dk_at dksX2_lay_0 21 rfl rfl)
theorem dX2_lay_23 : decode cX2_lay 23 = .ok (.imul, 1) := dk_104 (dk_at dksX2_lay_0 23 rfl rfl)
theorem dX2_lay_24 : decode cX2_lay 24 = .ok (.lushr, 1) := dk_125 (dk_at dksX2_lay_1 0 rfl rfl)
theorem dX2_lay_25 : decode cX2_lay 25 = .ok (.ldc2_w 31, 3) := dk_20 0 31 (dk_at dksX2_lay_1 1 rfl rfl)
theorem dX2_lay_28 : decode cX2_lay 28 = .ok (.land, 1) := dk_127 (dk_at dksX2_lay_1 4 rfl rfl)
theorem dX2_lay_29 : decode cX2_lay 29 = .ok (.l2i, 1) := dk_136 (dk_at dksX2_lay_1 5 rfl rfl)
theorem dX2_lay_30 : decode cX2_lay 30 = .ok (.iastore, 1) := dk_79 (dk_at dksX2_lay_1 6 rfl rfl)
theorem dX2_lay_31 : decode cX2_lay 31 = .ok (.aload_n 0, 1) := dk_42 (dk_at dksX2_lay_1 7 rfl rfl)
theorem dX2_lay_32 : decode cX2_lay 32 = .ok (.dup, 1) := dk_89 (dk_at dksX2_lay_1 8 rfl rfl)
theorem dX2_lay_33 : decode cX2_lay 33 = .ok (.getfield 28, 3) := dk_180 0 28 (dk_at dksX2_lay_1 9 rfl rfl)
theorem dX2_lay_36 : decode cX2_lay 36 = .ok (.iconst 1, 1) := dk_4 (dk_at dksX2_lay_1 12 rfl rfl)
theorem dX2_lay_37 : decode cX2_lay 37 = .ok (.iadd, 1) := dk_96 (dk_at dksX2_lay_1 13 rfl rfl)
theorem dX2_lay_38 : decode cX2_lay 38 = .ok (.putfield 28, 3) := dk_181 0 28 (dk_at dksX2_lay_1 14 rfl rfl)
theorem dX2_lay_41 : decode cX2_lay 41 = .ok (.iinc 4 (-1), 3) := dk_132 4 255 (dk_at dksX2_lay_1 17 rfl rfl)
theorem dX2_lay_44 : decode cX2_lay 44 = .ok (.goto (-39), 3) := dk_167 255 217 (dk_at dksX2_lay_1 20 rfl rfl)
theorem dX2_lay_47 : decode cX2_lay 47 = .ok (.return_, 1) := dk_177 (dk_at dksX2_lay_1 23 rfl rfl)
abbrev cX2_intIn : ByteArray := prog_4_method_10_code
def yX2_intIn : MethodName := ⟨RX2, "intIn", "(I)Z"⟩
def dkwX2_intIn_0 : List UInt8 := [42, 182, 0, 37, 153, 0, 5, 3, 172, 42, 27, 133, 7, 182, 0, 33, 4, 172]
abbrev dktX2_intIn_0 : List UInt8 := dkwX2_intIn_0 ++ []
theorem dksX2_intIn_0 : cX2_intIn.data.toList.drop 0 = dktX2_intIn_0 := by decide +kernel
theorem dX2_intIn_0 : decode cX2_intIn 0 = .ok (.aload_n 0, 1) := dk_42 (dk_at dksX2_intIn_0 0 rfl rfl)
theorem dX2_intIn_1 : decode cX2_intIn 1 = .ok (.invokevirtual 37, 3) := dk_182 0 37 (dk_at dksX2_intIn_0 1 rfl rfl)
theorem dX2_intIn_4 : decode cX2_intIn 4 = .ok (.ifCond .eq 5, 3) := dk_153 0 5 (dk_at dksX2_intIn_0 4 rfl rfl)
theorem dX2_intIn_7 : decode cX2_intIn 7 = .ok (.iconst 0, 1) := dk_3 (dk_at dksX2_intIn_0 7 rfl rfl)
theorem dX2_intIn_8 : decode cX2_intIn 8 = .ok (.ireturn, 1) := dk_172 (dk_at dksX2_intIn_0 8 rfl rfl)
theorem dX2_intIn_9 : decode cX2_intIn 9 = .ok (.aload_n 0, 1) := dk_42 (dk_at dksX2_intIn_0 9 rfl rfl)
theorem dX2_intIn_10 : decode cX2_intIn 10 = .ok (.iload_n 1, 1) := dk_27 (dk_at dksX2_intIn_0 10 rfl rfl)
theorem dX2_intIn_11 : decode cX2_intIn 11 = .ok (.i2l, 1) := dk_133 (dk_at dksX2_intIn_0 11 rfl rfl)
theorem dX2_intIn_12 : decode cX2_intIn 12 = .ok (.iconst 4, 1) := dk_7 (dk_at dksX2_intIn_0 12 rfl rfl)
theorem dX2_intIn_13 : decode cX2_intIn 13 = .ok (.invokevirtual 33, 3) := dk_182 0 33 (dk_at dksX2_intIn_0 13 rfl rfl)
theorem dX2_intIn_16 : decode cX2_intIn 16 = .ok (.iconst 1, 1) := dk_4 (dk_at dksX2_intIn_0 16 rfl rfl)
theorem dX2_intIn_17 : decode cX2_intIn 17 = .ok (.ireturn, 1) := dk_172 (dk_at dksX2_intIn_0 17 rfl rfl)
abbrev cX2_longIn : ByteArray := prog_4_method_11_code
def yX2_longIn : MethodName := ⟨RX2, "longIn", "(II)Z"⟩
def dkwX2_longIn_1 : List UInt8 := [172]
abbrev dktX2_longIn_1 : List UInt8 := dkwX2_longIn_1 ++ []
def dkwX2_longIn_0 : List UInt8 := [42, 182, 0, 37, 153, 0, 5, 3, 172, 42, 27, 133, 7, 182, 0, 33, 42, 28, 133, 7, 182, 0, 33, 4]
abbrev dktX2_longIn_0 : List UInt8 := dkwX2_longIn_0 ++ dktX2_longIn_1
theorem dksX2_longIn_0 : cX2_longIn.data.toList.drop 0 = dktX2_longIn_0 := by decide +kernel
theorem dksX2_longIn_1 : cX2_longIn.data.toList.drop 24 = dktX2_longIn_1 := dk_seg dksX2_longIn_0 24 rfl rfl
theorem dX2_longIn_0 : decode cX2_longIn 0 = .ok (.aload_n 0, 1) := dk_42 (dk_at dksX2_longIn_0 0 rfl rfl)
theorem dX2_longIn_1 : decode cX2_longIn 1 = .ok (.invokevirtual 37, 3) := dk_182 0 37 (dk_at dksX2_longIn_0 1 rfl rfl)
theorem dX2_longIn_4 : decode cX2_longIn 4 = .ok (.ifCond .eq 5, 3) := dk_153 0 5 (dk_at dksX2_longIn_0 4 rfl rfl)
theorem dX2_longIn_7 : decode cX2_longIn 7 = .ok (.iconst 0, 1) := dk_3 (dk_at dksX2_longIn_0 7 rfl rfl)
theorem dX2_longIn_8 : decode cX2_longIn 8 = .ok (.ireturn, 1) := dk_172 (dk_at dksX2_longIn_0 8 rfl rfl)
theorem dX2_longIn_9 : decode cX2_longIn 9 = .ok (.aload_n 0, 1) := dk_42 (dk_at dksX2_longIn_0 9 rfl rfl)
theorem dX2_longIn_10 : decode cX2_longIn 10 = .ok (.iload_n 1, 1) := dk_27 (dk_at dksX2_longIn_0 10 rfl rfl)
theorem dX2_longIn_11 : decode cX2_longIn 11 = .ok (.i2l, 1) := dk_133 (dk_at dksX2_longIn_0 11 rfl rfl)
theorem dX2_longIn_12 : decode cX2_longIn 12 = .ok (.iconst 4, 1) := dk_7 (dk_at dksX2_longIn_0 12 rfl rfl)
theorem dX2_longIn_13 : decode cX2_longIn 13 = .ok (.invokevirtual 33, 3) := dk_182 0 33 (dk_at dksX2_longIn_0 13 rfl rfl)
theorem dX2_longIn_16 : decode cX2_longIn 16 = .ok (.aload_n 0, 1) := dk_42 (dk_at dksX2_longIn_0 16 rfl rfl)
theorem dX2_longIn_17 : decode cX2_longIn 17 = .ok (.iload_n 2, 1) := dk_28 (dk_at dksX2_longIn_0 17 rfl rfl)
theorem dX2_longIn_18 : decode cX2_longIn 18 = .ok (.i2l, 1) := dk_133 (dk_at dksX2_longIn_0 18 rfl rfl)
theorem dX2_longIn_19 : decode cX2_longIn 19 = .ok (.iconst 4, 1) := dk_7 (dk_at dksX2_longIn_0 19 rfl rfl)
theorem dX2_longIn_20 : decode cX2_longIn 20 = .ok (.invokevirtual 33, 3) := dk_182 0 33 (dk_at dksX2_longIn_0 20 rfl rfl)
theorem dX2_longIn_23 : decode cX2_longIn 23 = .ok (.iconst 1, 1) := dk_4 (dk_at dksX2_longIn_0 23 rfl rfl)
theorem dX2_longIn_24 : decode cX2_longIn 24 = .ok (.ireturn, 1) := dk_172 (dk_at dksX2_longIn_1 0 rfl rfl)
abbrev cX2_stringIn : ByteArray := prog_4_method_12_code
def yX2_stringIn : MethodName := ⟨RX2, "stringIn", "(II)Z"⟩
def dkwX2_stringIn_1 : List UInt8 := [42, 45, 182, 0, 45, 4, 172]
abbrev dktX2_stringIn_1 : List UInt8 := dkwX2_stringIn_1 ++ []
def dkwX2_stringIn_0 : List UInt8 := [42, 182, 0, 37, 153, 0, 5, 3, 172, 42, 27, 28, 182, 0, 41, 78, 42, 45, 190, 133, 7, 182, 0, 33]
abbrev dktX2_stringIn_0 : List UInt8 := dkwX2_stringIn_0 ++ dktX2_stringIn_1
theorem dksX2_stringIn_0 : cX2_stringIn.data.toList.drop 0 = dktX2_stringIn_0 := by decide +kernel
theorem dksX2_stringIn_1 : cX2_stringIn.data.toList.drop 24 = dktX2_stringIn_1 := dk_seg dksX2_stringIn_0 24 rfl rfl
theorem dX2_stringIn_0 : decode cX2_stringIn 0 = .ok (.aload_n 0, 1) := dk_42 (dk_at dksX2_stringIn_0 0 rfl rfl)
theorem dX2_stringIn_1 : decode cX2_stringIn 1 = .ok (.invokevirtual 37, 3) := dk_182 0 37 (dk_at dksX2_stringIn_0 1 rfl rfl)
theorem dX2_stringIn_4 : decode cX2_stringIn 4 = .ok (.ifCond .eq 5, 3) := dk_153 0 5 (dk_at dksX2_stringIn_0 4 rfl rfl)
theorem dX2_stringIn_7 : decode cX2_stringIn 7 = .ok (.iconst 0, 1) := dk_3 (dk_at dksX2_stringIn_0 7 rfl rfl)
theorem dX2_stringIn_8 : decode cX2_stringIn 8 = .ok (.ireturn, 1) := dk_172 (dk_at dksX2_stringIn_0 8 rfl rfl)
theorem dX2_stringIn_9 : decode cX2_stringIn 9 = .ok (.aload_n 0, 1) := dk_42 (dk_at dksX2_stringIn_0 9 rfl rfl)
theorem dX2_stringIn_10 : decode cX2_stringIn 10 = .ok (.iload_n 1, 1) := dk_27 (dk_at dksX2_stringIn_0 10 rfl rfl)
theorem dX2_stringIn_11 : decode cX2_stringIn 11 = .ok (.iload_n 2, 1) := dk_28 (dk_at dksX2_stringIn_0 11 rfl rfl)
theorem dX2_stringIn_12 : decode cX2_stringIn 12 = .ok (.invokevirtual 41, 3) := dk_182 0 41 (dk_at dksX2_stringIn_0 12 rfl rfl)
theorem dX2_stringIn_15 : decode cX2_stringIn 15 = .ok (.astore_n 3, 1) := dk_78 (dk_at dksX2_stringIn_0 15 rfl rfl)
theorem dX2_stringIn_16 : decode cX2_stringIn 16 = .ok (.aload_n 0, 1) := dk_42 (dk_at dksX2_stringIn_0 16 rfl rfl)
theorem dX2_stringIn_17 : decode cX2_stringIn 17 = .ok (.aload_n 3, 1) := dk_45 (dk_at dksX2_stringIn_0 17 rfl rfl)
theorem dX2_stringIn_18 : decode cX2_stringIn 18 = .ok (.arraylength, 1) := dk_190 (dk_at dksX2_stringIn_0 18 rfl rfl)
theorem dX2_stringIn_19 : decode cX2_stringIn 19 = .ok (.i2l, 1) := dk_133 (dk_at dksX2_stringIn_0 19 rfl rfl)
theorem dX2_stringIn_20 : decode cX2_stringIn 20 = .ok (.iconst 4, 1) := dk_7 (dk_at dksX2_stringIn_0 20 rfl rfl)
theorem dX2_stringIn_21 : decode cX2_stringIn 21 = .ok (.invokevirtual 33, 3) := dk_182 0 33 (dk_at dksX2_stringIn_0 21 rfl rfl)
theorem dX2_stringIn_24 : decode cX2_stringIn 24 = .ok (.aload_n 0, 1) := dk_42 (dk_at dksX2_stringIn_1 0 rfl rfl)
theorem dX2_stringIn_25 : decode cX2_stringIn 25 = .ok (.aload_n 3, 1) := dk_45 (dk_at dksX2_stringIn_1 1 rfl rfl)
theorem dX2_stringIn_26 : decode cX2_stringIn 26 = .ok (.invokevirtual 45, 3) := dk_182 0 45 (dk_at dksX2_stringIn_1 2 rfl rfl)
theorem dX2_stringIn_29 : decode cX2_stringIn 29 = .ok (.iconst 1, 1) := dk_4 (dk_at dksX2_stringIn_1 5 rfl rfl)
theorem dX2_stringIn_30 : decode cX2_stringIn 30 = .ok (.ireturn, 1) := dk_172 (dk_at dksX2_stringIn_1 6 rfl rfl)
abbrev cX2_part : ByteArray := prog_4_method_5_code
def yX2_part : MethodName := ⟨RX2, "part", "(II)[I"⟩
def dkwX2_part_2 : List UInt8 := [132, 5, 1, 167, 255, 231, 25, 4, 176]
abbrev dktX2_part_2 : List UInt8 := dkwX2_part_2 ++ []
def dkwX2_part_1 : List UInt8 := [54, 5, 21, 5, 25, 4, 190, 162, 0, 23, 25, 4, 21, 5, 42, 180, 0, 9, 29, 21, 5, 96, 46, 79]
abbrev dktX2_part_1 : List UInt8 := dkwX2_part_1 ++ dktX2_part_2
def dkwX2_part_0 : List UInt8 := [42, 27, 182, 0, 24, 62, 28, 18, 23, 126, 42, 180, 0, 19, 29, 100, 4, 96, 112, 188, 10, 58, 4, 3]
abbrev dktX2_part_0 : List UInt8 := dkwX2_part_0 ++ dktX2_part_1
theorem dksX2_part_0 : cX2_part.data.toList.drop 0 = dktX2_part_0 := by decide +kernel
theorem dksX2_part_1 : cX2_part.data.toList.drop 24 = dktX2_part_1 := dk_seg dksX2_part_0 24 rfl rfl
theorem dksX2_part_2 : cX2_part.data.toList.drop 48 = dktX2_part_2 := dk_seg dksX2_part_1 24 rfl rfl
theorem dX2_part_0 : decode cX2_part 0 = .ok (.aload_n 0, 1) := dk_42 (dk_at dksX2_part_0 0 rfl rfl)
theorem dX2_part_1 : decode cX2_part 1 = .ok (.iload_n 1, 1) := dk_27 (dk_at dksX2_part_0 1 rfl rfl)
theorem dX2_part_2 : decode cX2_part 2 = .ok (.invokevirtual 24, 3) := dk_182 0 24 (dk_at dksX2_part_0 2 rfl rfl)
theorem dX2_part_5 : decode cX2_part 5 = .ok (.istore_n 3, 1) := dk_62 (dk_at dksX2_part_0 5 rfl rfl)
theorem dX2_part_6 : decode cX2_part 6 = .ok (.iload_n 2, 1) := dk_28 (dk_at dksX2_part_0 6 rfl rfl)
theorem dX2_part_7 : decode cX2_part 7 = .ok (.ldc 23, 2) := dk_18 23 (dk_at dksX2_part_0 7 rfl rfl)
theorem dX2_part_9 : decode cX2_part 9 = .ok (.iand, 1) := dk_126 (dk_at dksX2_part_0 9 rfl rfl)
theorem dX2_part_10 : decode cX2_part 10 = .ok (.aload_n 0, 1) := dk_42 (dk_at dksX2_part_0 10 rfl rfl)
theorem dX2_part_11 : decode cX2_part 11 = .ok (.getfield 19, 3) := dk_180 0 19 (dk_at dksX2_part_0 11 rfl rfl)
theorem dX2_part_14 : decode cX2_part 14 = .ok (.iload_n 3, 1) := dk_29 (dk_at dksX2_part_0 14 rfl rfl)
theorem dX2_part_15 : decode cX2_part 15 = .ok (.isub, 1) := dk_100 (dk_at dksX2_part_0 15 rfl rfl)
theorem dX2_part_16 : decode cX2_part 16 = .ok (.iconst 1, 1) := dk_4 (dk_at dksX2_part_0 16 rfl rfl)
theorem dX2_part_17 : decode cX2_part 17 = .ok (.iadd, 1) := dk_96 (dk_at dksX2_part_0 17 rfl rfl)
theorem dX2_part_18 : decode cX2_part 18 = .ok (.irem, 1) := dk_112 (dk_at dksX2_part_0 18 rfl rfl)
theorem dX2_part_19 : decode cX2_part 19 = .ok (.newarray .int, 2) := dk_188_10 (dk_at dksX2_part_0 19 rfl rfl)
theorem dX2_part_21 : decode cX2_part 21 = .ok (.astore 4, 2) := dk_58 4 (dk_at dksX2_part_0 21 rfl rfl)
theorem dX2_part_23 : decode cX2_part 23 = .ok (.iconst 0, 1) := dk_3 (dk_at dksX2_part_0 23 rfl rfl)
theorem dX2_part_24 : decode cX2_part 24 = .ok (.istore 5, 2) := dk_54 5 (dk_at dksX2_part_1 0 rfl rfl)
theorem dX2_part_26 : decode cX2_part 26 = .ok (.iload 5, 2) := dk_21 5 (dk_at dksX2_part_1 2 rfl rfl)
theorem dX2_part_28 : decode cX2_part 28 = .ok (.aload 4, 2) := dk_25 4 (dk_at dksX2_part_1 4 rfl rfl)
theorem dX2_part_30 : decode cX2_part 30 = .ok (.arraylength, 1) := dk_190 (dk_at dksX2_part_1 6 rfl rfl)
theorem dX2_part_31 : decode cX2_part 31 = .ok (.if_icmp .ge 23, 3) := dk_162 0 23 (dk_at dksX2_part_1 7 rfl rfl)
theorem dX2_part_34 : decode cX2_part 34 = .ok (.aload 4, 2) := dk_25 4 (dk_at dksX2_part_1 10 rfl rfl)
theorem dX2_part_36 : decode cX2_part 36 = .ok (.iload 5, 2) := dk_21 5 (dk_at dksX2_part_1 12 rfl rfl)
theorem dX2_part_38 : decode cX2_part 38 = .ok (.aload_n 0, 1) := dk_42 (dk_at dksX2_part_1 14 rfl rfl)
theorem dX2_part_39 : decode cX2_part 39 = .ok (.getfield 9, 3) := dk_180 0 9 (dk_at dksX2_part_1 15 rfl rfl)
theorem dX2_part_42 : decode cX2_part 42 = .ok (.iload_n 3, 1) := dk_29 (dk_at dksX2_part_1 18 rfl rfl)
theorem dX2_part_43 : decode cX2_part 43 = .ok (.iload 5, 2) := dk_21 5 (dk_at dksX2_part_1 19 rfl rfl)
theorem dX2_part_45 : decode cX2_part 45 = .ok (.iadd, 1) := dk_96 (dk_at dksX2_part_1 21 rfl rfl)
theorem dX2_part_46 : decode cX2_part 46 = .ok (.iaload, 1) := dk_46 (dk_at dksX2_part_1 22 rfl rfl)
theorem dX2_part_47 : decode cX2_part 47 = .ok (.iastore, 1) := dk_79 (dk_at dksX2_part_1 23 rfl rfl)
theorem dX2_part_48 : decode cX2_part 48 = .ok (.iinc 5 1, 3) := dk_132 5 1 (dk_at dksX2_part_2 0 rfl rfl)
theorem dX2_part_51 : decode cX2_part 51 = .ok (.goto (-25), 3) := dk_167 255 231 (dk_at dksX2_part_2 3 rfl rfl)
theorem dX2_part_54 : decode cX2_part 54 = .ok (.aload 4, 2) := dk_25 4 (dk_at dksX2_part_2 6 rfl rfl)
theorem dX2_part_56 : decode cX2_part 56 = .ok (.areturn, 1) := dk_176 (dk_at dksX2_part_2 8 rfl rfl)
abbrev cX2_layAll : ByteArray := prog_4_method_8_code
def yX2_layAll : MethodName := ⟨RX2, "layAll", "([I)V"⟩
def dkwX2_layAll_1 : List UInt8 := [4, 182, 0, 33, 132, 4, 1, 167, 255, 233, 177]
abbrev dktX2_layAll_1 : List UInt8 := dkwX2_layAll_1 ++ []
def dkwX2_layAll_0 : List UInt8 := [43, 77, 44, 190, 62, 3, 54, 4, 21, 4, 29, 162, 0, 23, 44, 21, 4, 46, 54, 5, 42, 21, 5, 133]
abbrev dktX2_layAll_0 : List UInt8 := dkwX2_layAll_0 ++ dktX2_layAll_1
theorem dksX2_layAll_0 : cX2_layAll.data.toList.drop 0 = dktX2_layAll_0 := by decide +kernel
theorem dksX2_layAll_1 : cX2_layAll.data.toList.drop 24 = dktX2_layAll_1 := dk_seg dksX2_layAll_0 24 rfl rfl
theorem dX2_layAll_0 : decode cX2_layAll 0 = .ok (.aload_n 1, 1) := dk_43 (dk_at dksX2_layAll_0 0 rfl rfl)
theorem dX2_layAll_1 : decode cX2_layAll 1 = .ok (.astore_n 2, 1) := dk_77 (dk_at dksX2_layAll_0 1 rfl rfl)
theorem dX2_layAll_2 : decode cX2_layAll 2 = .ok (.aload_n 2, 1) := dk_44 (dk_at dksX2_layAll_0 2 rfl rfl)
theorem dX2_layAll_3 : decode cX2_layAll 3 = .ok (.arraylength, 1) := dk_190 (dk_at dksX2_layAll_0 3 rfl rfl)
theorem dX2_layAll_4 : decode cX2_layAll 4 = .ok (.istore_n 3, 1) := dk_62 (dk_at dksX2_layAll_0 4 rfl rfl)
theorem dX2_layAll_5 : decode cX2_layAll 5 = .ok (.iconst 0, 1) := dk_3 (dk_at dksX2_layAll_0 5 rfl rfl)
theorem dX2_layAll_6 : decode cX2_layAll 6 = .ok (.istore 4, 2) := dk_54 4 (dk_at dksX2_layAll_0 6 rfl rfl)
theorem dX2_layAll_8 : decode cX2_layAll 8 = .ok (.iload 4, 2) := dk_21 4 (dk_at dksX2_layAll_0 8 rfl rfl)
theorem dX2_layAll_10 : decode cX2_layAll 10 = .ok (.iload_n 3, 1) := dk_29 (dk_at dksX2_layAll_0 10 rfl rfl)
theorem dX2_layAll_11 : decode cX2_layAll 11 = .ok (.if_icmp .ge 23, 3) := dk_162 0 23 (dk_at dksX2_layAll_0 11 rfl rfl)
theorem dX2_layAll_14 : decode cX2_layAll 14 = .ok (.aload_n 2, 1) := dk_44 (dk_at dksX2_layAll_0 14 rfl rfl)
theorem dX2_layAll_15 : decode cX2_layAll 15 = .ok (.iload 4, 2) := dk_21 4 (dk_at dksX2_layAll_0 15 rfl rfl)
theorem dX2_layAll_17 : decode cX2_layAll 17 = .ok (.iaload, 1) := dk_46 (dk_at dksX2_layAll_0 17 rfl rfl)
theorem dX2_layAll_18 : decode cX2_layAll 18 = .ok (.istore 5, 2) := dk_54 5 (dk_at dksX2_layAll_0 18 rfl rfl)
theorem dX2_layAll_20 : decode cX2_layAll 20 = .ok (.aload_n 0, 1) := dk_42 (dk_at dksX2_layAll_0 20 rfl rfl)
theorem dX2_layAll_21 : decode cX2_layAll 21 = .ok (.iload 5, 2) := dk_21 5 (dk_at dksX2_layAll_0 21 rfl rfl)
theorem dX2_layAll_23 : decode cX2_layAll 23 = .ok (.i2l, 1) := dk_133 (dk_at dksX2_layAll_0 23 rfl rfl)
theorem dX2_layAll_24 : decode cX2_layAll 24 = .ok (.iconst 1, 1) := dk_4 (dk_at dksX2_layAll_1 0 rfl rfl)
theorem dX2_layAll_25 : decode cX2_layAll 25 = .ok (.invokevirtual 33, 3) := dk_182 0 33 (dk_at dksX2_layAll_1 1 rfl rfl)
theorem dX2_layAll_28 : decode cX2_layAll 28 = .ok (.iinc 4 1, 3) := dk_132 4 1 (dk_at dksX2_layAll_1 4 rfl rfl)
theorem dX2_layAll_31 : decode cX2_layAll 31 = .ok (.goto (-23), 3) := dk_167 255 233 (dk_at dksX2_layAll_1 7 rfl rfl)
theorem dX2_layAll_34 : decode cX2_layAll 34 = .ok (.return_, 1) := dk_177 (dk_at dksX2_layAll_1 10 rfl rfl)
abbrev cX2_numberIn : ByteArray := prog_4_method_13_code
def yX2_numberIn : MethodName := ⟨RX2, "numberIn", "(II)Z"⟩
def dkwX2_numberIn_3 : List UInt8 := [172]
abbrev dktX2_numberIn_3 : List UInt8 := dkwX2_numberIn_3 ++ []
def dkwX2_numberIn_2 : List UInt8 := [3, 96, 133, 7, 182, 0, 33, 21, 4, 153, 0, 9, 42, 9, 4, 182, 0, 33, 42, 45, 182, 0, 45, 4]
abbrev dktX2_numberIn_2 : List UInt8 := dkwX2_numberIn_2 ++ dktX2_numberIn_3
def dkwX2_numberIn_1 : List UInt8 := [16, 127, 164, 0, 7, 4, 167, 0, 4, 3, 54, 4, 42, 45, 190, 21, 4, 153, 0, 7, 4, 167, 0, 4]
abbrev dktX2_numberIn_1 : List UInt8 := dkwX2_numberIn_1 ++ dktX2_numberIn_2
def dkwX2_numberIn_0 : List UInt8 := [42, 27, 28, 182, 0, 41, 78, 42, 182, 0, 37, 154, 0, 8, 45, 190, 154, 0, 5, 3, 172, 45, 3, 46]
abbrev dktX2_numberIn_0 : List UInt8 := dkwX2_numberIn_0 ++ dktX2_numberIn_1
theorem dksX2_numberIn_0 : cX2_numberIn.data.toList.drop 0 = dktX2_numberIn_0 := by decide +kernel
theorem dksX2_numberIn_1 : cX2_numberIn.data.toList.drop 24 = dktX2_numberIn_1 := dk_seg dksX2_numberIn_0 24 rfl rfl
theorem dksX2_numberIn_2 : cX2_numberIn.data.toList.drop 48 = dktX2_numberIn_2 := dk_seg dksX2_numberIn_1 24 rfl rfl
theorem dksX2_numberIn_3 : cX2_numberIn.data.toList.drop 72 = dktX2_numberIn_3 := dk_seg dksX2_numberIn_2 24 rfl rfl
theorem dX2_numberIn_0 : decode cX2_numberIn 0 = .ok (.aload_n 0, 1) := dk_42 (dk_at dksX2_numberIn_0 0 rfl rfl)
theorem dX2_numberIn_1 : decode cX2_numberIn 1 = .ok (.iload_n 1, 1) := dk_27 (dk_at dksX2_numberIn_0 1 rfl rfl)
theorem dX2_numberIn_2 : decode cX2_numberIn 2 = .ok (.iload_n 2, 1) := dk_28 (dk_at dksX2_numberIn_0 2 rfl rfl)
theorem dX2_numberIn_3 : decode cX2_numberIn 3 = .ok (.invokevirtual 41, 3) := dk_182 0 41 (dk_at dksX2_numberIn_0 3 rfl rfl)
theorem dX2_numberIn_6 : decode cX2_numberIn 6 = .ok (.astore_n 3, 1) := dk_78 (dk_at dksX2_numberIn_0 6 rfl rfl)
theorem dX2_numberIn_7 : decode cX2_numberIn 7 = .ok (.aload_n 0, 1) := dk_42 (dk_at dksX2_numberIn_0 7 rfl rfl)
theorem dX2_numberIn_8 : decode cX2_numberIn 8 = .ok (.invokevirtual 37, 3) := dk_182 0 37 (dk_at dksX2_numberIn_0 8 rfl rfl)
theorem dX2_numberIn_11 : decode cX2_numberIn 11 = .ok (.ifCond .ne 8, 3) := dk_154 0 8 (dk_at dksX2_numberIn_0 11 rfl rfl)
theorem dX2_numberIn_14 : decode cX2_numberIn 14 = .ok (.aload_n 3, 1) := dk_45 (dk_at dksX2_numberIn_0 14 rfl rfl)
theorem dX2_numberIn_15 : decode cX2_numberIn 15 = .ok (.arraylength, 1) := dk_190 (dk_at dksX2_numberIn_0 15 rfl rfl)
theorem dX2_numberIn_16 : decode cX2_numberIn 16 = .ok (.ifCond .ne 5, 3) := dk_154 0 5 (dk_at dksX2_numberIn_0 16 rfl rfl)
theorem dX2_numberIn_19 : decode cX2_numberIn 19 = .ok (.iconst 0, 1) := dk_3 (dk_at dksX2_numberIn_0 19 rfl rfl)
theorem dX2_numberIn_20 : decode cX2_numberIn 20 = .ok (.ireturn, 1) := dk_172 (dk_at dksX2_numberIn_0 20 rfl rfl)
theorem dX2_numberIn_21 : decode cX2_numberIn 21 = .ok (.aload_n 3, 1) := dk_45 (dk_at dksX2_numberIn_0 21 rfl rfl)
theorem dX2_numberIn_22 : decode cX2_numberIn 22 = .ok (.iconst 0, 1) := dk_3 (dk_at dksX2_numberIn_0 22 rfl rfl)
theorem dX2_numberIn_23 : decode cX2_numberIn 23 = .ok (.iaload, 1) := dk_46 (dk_at dksX2_numberIn_0 23 rfl rfl)
theorem dX2_numberIn_24 : decode cX2_numberIn 24 = .ok (.bipush 127, 2) := dk_16 127 (dk_at dksX2_numberIn_1 0 rfl rfl)
theorem dX2_numberIn_26 : decode cX2_numberIn 26 = .ok (.if_icmp .le 7, 3) := dk_164 0 7 (dk_at dksX2_numberIn_1 2 rfl rfl)
theorem dX2_numberIn_29 : decode cX2_numberIn 29 = .ok (.iconst 1, 1) := dk_4 (dk_at dksX2_numberIn_1 5 rfl rfl)
theorem dX2_numberIn_30 : decode cX2_numberIn 30 = .ok (.goto 4, 3) := dk_167 0 4 (dk_at dksX2_numberIn_1 6 rfl rfl)
theorem dX2_numberIn_33 : decode cX2_numberIn 33 = .ok (.iconst 0, 1) := dk_3 (dk_at dksX2_numberIn_1 9 rfl rfl)
theorem dX2_numberIn_34 : decode cX2_numberIn 34 = .ok (.istore 4, 2) := dk_54 4 (dk_at dksX2_numberIn_1 10 rfl rfl)
theorem dX2_numberIn_36 : decode cX2_numberIn 36 = .ok (.aload_n 0, 1) := dk_42 (dk_at dksX2_numberIn_1 12 rfl rfl)
theorem dX2_numberIn_37 : decode cX2_numberIn 37 = .ok (.aload_n 3, 1) := dk_45 (dk_at dksX2_numberIn_1 13 rfl rfl)
theorem dX2_numberIn_38 : decode cX2_numberIn 38 = .ok (.arraylength, 1) := dk_190 (dk_at dksX2_numberIn_1 14 rfl rfl)
theorem dX2_numberIn_39 : decode cX2_numberIn 39 = .ok (.iload 4, 2) := dk_21 4 (dk_at dksX2_numberIn_1 15 rfl rfl)
theorem dX2_numberIn_41 : decode cX2_numberIn 41 = .ok (.ifCond .eq 7, 3) := dk_153 0 7 (dk_at dksX2_numberIn_1 17 rfl rfl)
theorem dX2_numberIn_44 : decode cX2_numberIn 44 = .ok (.iconst 1, 1) := dk_4 (dk_at dksX2_numberIn_1 20 rfl rfl)
theorem dX2_numberIn_45 : decode cX2_numberIn 45 = .ok (.goto 4, 3) := dk_167 0 4 (dk_at dksX2_numberIn_1 21 rfl rfl)
theorem dX2_numberIn_48 : decode cX2_numberIn 48 = .ok (.iconst 0, 1) := dk_3 (dk_at dksX2_numberIn_2 0 rfl rfl)
theorem dX2_numberIn_49 : decode cX2_numberIn 49 = .ok (.iadd, 1) := dk_96 (dk_at dksX2_numberIn_2 1 rfl rfl)
theorem dX2_numberIn_50 : decode cX2_numberIn 50 = .ok (.i2l, 1) := dk_133 (dk_at dksX2_numberIn_2 2 rfl rfl)
theorem dX2_numberIn_51 : decode cX2_numberIn 51 = .ok (.iconst 4, 1) := dk_7 (dk_at dksX2_numberIn_2 3 rfl rfl)
theorem dX2_numberIn_52 : decode cX2_numberIn 52 = .ok (.invokevirtual 33, 3) := dk_182 0 33 (dk_at dksX2_numberIn_2 4 rfl rfl)
theorem dX2_numberIn_55 : decode cX2_numberIn 55 = .ok (.iload 4, 2) := dk_21 4 (dk_at dksX2_numberIn_2 7 rfl rfl)
theorem dX2_numberIn_57 : decode cX2_numberIn 57 = .ok (.ifCond .eq 9, 3) := dk_153 0 9 (dk_at dksX2_numberIn_2 9 rfl rfl)
theorem dX2_numberIn_60 : decode cX2_numberIn 60 = .ok (.aload_n 0, 1) := dk_42 (dk_at dksX2_numberIn_2 12 rfl rfl)
theorem dX2_numberIn_61 : decode cX2_numberIn 61 = .ok (.lconst 0, 1) := dk_9 (dk_at dksX2_numberIn_2 13 rfl rfl)
theorem dX2_numberIn_62 : decode cX2_numberIn 62 = .ok (.iconst 1, 1) := dk_4 (dk_at dksX2_numberIn_2 14 rfl rfl)
theorem dX2_numberIn_63 : decode cX2_numberIn 63 = .ok (.invokevirtual 33, 3) := dk_182 0 33 (dk_at dksX2_numberIn_2 15 rfl rfl)
theorem dX2_numberIn_66 : decode cX2_numberIn 66 = .ok (.aload_n 0, 1) := dk_42 (dk_at dksX2_numberIn_2 18 rfl rfl)
theorem dX2_numberIn_67 : decode cX2_numberIn 67 = .ok (.aload_n 3, 1) := dk_45 (dk_at dksX2_numberIn_2 19 rfl rfl)
theorem dX2_numberIn_68 : decode cX2_numberIn 68 = .ok (.invokevirtual 45, 3) := dk_182 0 45 (dk_at dksX2_numberIn_2 20 rfl rfl)
theorem dX2_numberIn_71 : decode cX2_numberIn 71 = .ok (.iconst 1, 1) := dk_4 (dk_at dksX2_numberIn_2 23 rfl rfl)
theorem dX2_numberIn_72 : decode cX2_numberIn 72 = .ok (.ireturn, 1) := dk_172 (dk_at dksX2_numberIn_3 0 rfl rfl)
abbrev cX2_left : ByteArray := prog_4_method_14_code
def yX2_left : MethodName := ⟨RX2, "left", "()I"⟩
def dkwX2_left_0 : List UInt8 := [42, 180, 0, 28, 42, 180, 0, 49, 100, 172]
abbrev dktX2_left_0 : List UInt8 := dkwX2_left_0 ++ []
theorem dksX2_left_0 : cX2_left.data.toList.drop 0 = dktX2_left_0 := by decide +kernel
theorem dX2_left_0 : decode cX2_left 0 = .ok (.aload_n 0, 1) := dk_42 (dk_at dksX2_left_0 0 rfl rfl)
theorem dX2_left_1 : decode cX2_left 1 = .ok (.getfield 28, 3) := dk_180 0 28 (dk_at dksX2_left_0 1 rfl rfl)
theorem dX2_left_4 : decode cX2_left 4 = .ok (.aload_n 0, 1) := dk_42 (dk_at dksX2_left_0 4 rfl rfl)
theorem dX2_left_5 : decode cX2_left 5 = .ok (.getfield 49, 3) := dk_180 0 49 (dk_at dksX2_left_0 5 rfl rfl)
theorem dX2_left_8 : decode cX2_left 8 = .ok (.isub, 1) := dk_100 (dk_at dksX2_left_0 8 rfl rfl)
theorem dX2_left_9 : decode cX2_left 9 = .ok (.ireturn, 1) := dk_172 (dk_at dksX2_left_0 9 rfl rfl)
abbrev cX2_byteOut : ByteArray := prog_4_method_17_code
def yX2_byteOut : MethodName := ⟨RX2, "byteOut", "()I"⟩
def dkwX2_byteOut_0 : List UInt8 := [42, 4, 182, 0, 62, 136, 172]
abbrev dktX2_byteOut_0 : List UInt8 := dkwX2_byteOut_0 ++ []
theorem dksX2_byteOut_0 : cX2_byteOut.data.toList.drop 0 = dktX2_byteOut_0 := by decide +kernel
theorem dX2_byteOut_0 : decode cX2_byteOut 0 = .ok (.aload_n 0, 1) := dk_42 (dk_at dksX2_byteOut_0 0 rfl rfl)
theorem dX2_byteOut_1 : decode cX2_byteOut 1 = .ok (.iconst 1, 1) := dk_4 (dk_at dksX2_byteOut_0 1 rfl rfl)
theorem dX2_byteOut_2 : decode cX2_byteOut 2 = .ok (.invokevirtual 62, 3) := dk_182 0 62 (dk_at dksX2_byteOut_0 2 rfl rfl)
theorem dX2_byteOut_5 : decode cX2_byteOut 5 = .ok (.l2i, 1) := dk_136 (dk_at dksX2_byteOut_0 5 rfl rfl)
theorem dX2_byteOut_6 : decode cX2_byteOut 6 = .ok (.ireturn, 1) := dk_172 (dk_at dksX2_byteOut_0 6 rfl rfl)
abbrev cX2_take : ByteArray := prog_4_method_16_code
def yX2_take : MethodName := ⟨RX2, "take", "(I)J"⟩
def dkwX2_take_1 : List UInt8 := [96, 181, 0, 49, 32, 173]
abbrev dktX2_take_1 : List UInt8 := dkwX2_take_1 ++ []
def dkwX2_take_0 : List UInt8 := [42, 182, 0, 52, 27, 162, 0, 7, 20, 0, 56, 173, 42, 27, 182, 0, 58, 65, 42, 89, 180, 0, 49, 27]
abbrev dktX2_take_0 : List UInt8 := dkwX2_take_0 ++ dktX2_take_1
theorem dksX2_take_0 : cX2_take.data.toList.drop 0 = dktX2_take_0 := by decide +kernel
theorem dksX2_take_1 : cX2_take.data.toList.drop 24 = dktX2_take_1 := dk_seg dksX2_take_0 24 rfl rfl
theorem dX2_take_0 : decode cX2_take 0 = .ok (.aload_n 0, 1) := dk_42 (dk_at dksX2_take_0 0 rfl rfl)
theorem dX2_take_1 : decode cX2_take 1 = .ok (.invokevirtual 52, 3) := dk_182 0 52 (dk_at dksX2_take_0 1 rfl rfl)
theorem dX2_take_4 : decode cX2_take 4 = .ok (.iload_n 1, 1) := dk_27 (dk_at dksX2_take_0 4 rfl rfl)
theorem dX2_take_5 : decode cX2_take 5 = .ok (.if_icmp .ge 7, 3) := dk_162 0 7 (dk_at dksX2_take_0 5 rfl rfl)
theorem dX2_take_8 : decode cX2_take 8 = .ok (.ldc2_w 56, 3) := dk_20 0 56 (dk_at dksX2_take_0 8 rfl rfl)
theorem dX2_take_11 : decode cX2_take 11 = .ok (.lreturn, 1) := dk_173 (dk_at dksX2_take_0 11 rfl rfl)
theorem dX2_take_12 : decode cX2_take 12 = .ok (.aload_n 0, 1) := dk_42 (dk_at dksX2_take_0 12 rfl rfl)
theorem dX2_take_13 : decode cX2_take 13 = .ok (.iload_n 1, 1) := dk_27 (dk_at dksX2_take_0 13 rfl rfl)
theorem dX2_take_14 : decode cX2_take 14 = .ok (.invokevirtual 58, 3) := dk_182 0 58 (dk_at dksX2_take_0 14 rfl rfl)
theorem dX2_take_17 : decode cX2_take 17 = .ok (.lstore_n 2, 1) := dk_65 (dk_at dksX2_take_0 17 rfl rfl)
theorem dX2_take_18 : decode cX2_take 18 = .ok (.aload_n 0, 1) := dk_42 (dk_at dksX2_take_0 18 rfl rfl)
theorem dX2_take_19 : decode cX2_take 19 = .ok (.dup, 1) := dk_89 (dk_at dksX2_take_0 19 rfl rfl)
theorem dX2_take_20 : decode cX2_take 20 = .ok (.getfield 49, 3) := dk_180 0 49 (dk_at dksX2_take_0 20 rfl rfl)
theorem dX2_take_23 : decode cX2_take 23 = .ok (.iload_n 1, 1) := dk_27 (dk_at dksX2_take_0 23 rfl rfl)
theorem dX2_take_24 : decode cX2_take 24 = .ok (.iadd, 1) := dk_96 (dk_at dksX2_take_1 0 rfl rfl)
theorem dX2_take_25 : decode cX2_take 25 = .ok (.putfield 49, 3) := dk_181 0 49 (dk_at dksX2_take_1 1 rfl rfl)
theorem dX2_take_28 : decode cX2_take 28 = .ok (.lload_n 2, 1) := dk_32 (dk_at dksX2_take_1 4 rfl rfl)
theorem dX2_take_29 : decode cX2_take 29 = .ok (.lreturn, 1) := dk_173 (dk_at dksX2_take_1 5 rfl rfl)
abbrev cX2_look : ByteArray := prog_4_method_15_code
def yX2_look : MethodName := ⟨RX2, "look", "(I)J"⟩
def dkwX2_look_1 : List UInt8 := [21, 4, 96, 46, 133, 129, 65, 132, 4, 1, 167, 255, 228, 32, 173]
abbrev dktX2_look_1 : List UInt8 := dkwX2_look_1 ++ []
def dkwX2_look_0 : List UInt8 := [9, 65, 3, 54, 4, 21, 4, 27, 162, 0, 28, 32, 16, 8, 121, 42, 180, 0, 13, 42, 180, 0, 49]
abbrev dktX2_look_0 : List UInt8 := dkwX2_look_0 ++ dktX2_look_1
theorem dksX2_look_0 : cX2_look.data.toList.drop 0 = dktX2_look_0 := by decide +kernel
theorem dksX2_look_1 : cX2_look.data.toList.drop 23 = dktX2_look_1 := dk_seg dksX2_look_0 23 rfl rfl
theorem dX2_look_0 : decode cX2_look 0 = .ok (.lconst 0, 1) := dk_9 (dk_at dksX2_look_0 0 rfl rfl)
theorem dX2_look_1 : decode cX2_look 1 = .ok (.lstore_n 2, 1) := dk_65 (dk_at dksX2_look_0 1 rfl rfl)
theorem dX2_look_2 : decode cX2_look 2 = .ok (.iconst 0, 1) := dk_3 (dk_at dksX2_look_0 2 rfl rfl)
theorem dX2_look_3 : decode cX2_look 3 = .ok (.istore 4, 2) := dk_54 4 (dk_at dksX2_look_0 3 rfl rfl)
theorem dX2_look_5 : decode cX2_look 5 = .ok (.iload 4, 2) := dk_21 4 (dk_at dksX2_look_0 5 rfl rfl)
theorem dX2_look_7 : decode cX2_look 7 = .ok (.iload_n 1, 1) := dk_27 (dk_at dksX2_look_0 7 rfl rfl)
theorem dX2_look_8 : decode cX2_look 8 = .ok (.if_icmp .ge 28, 3) := dk_162 0 28 (dk_at dksX2_look_0 8 rfl rfl)
theorem dX2_look_11 : decode cX2_look 11 = .ok (.lload_n 2, 1) := dk_32 (dk_at dksX2_look_0 11 rfl rfl)
theorem dX2_look_12 : decode cX2_look 12 = .ok (.bipush 8, 2) := dk_16 8 (dk_at dksX2_look_0 12 rfl rfl)
theorem dX2_look_14 : decode cX2_look 14 = .ok (.lshl, 1) := dk_121 (dk_at dksX2_look_0 14 rfl rfl)
theorem dX2_look_15 : decode cX2_look 15 = .ok (.aload_n 0, 1) := dk_42 (dk_at dksX2_look_0 15 rfl rfl)
theorem dX2_look_16 : decode cX2_look 16 = .ok (.getfield 13, 3) := dk_180 0 13 (dk_at dksX2_look_0 16 rfl rfl)
theorem dX2_look_19 : decode cX2_look 19 = .ok (.aload_n 0, 1) := dk_42 (dk_at dksX2_look_0 19 rfl rfl)
theorem dX2_look_20 : decode cX2_look 20 = .ok (.getfield 49, 3) := dk_180 0 49 (dk_at dksX2_look_0 20 rfl rfl)
theorem dX2_look_23 : decode cX2_look 23 = .ok (.iload 4, 2) := dk_21 4 (dk_at dksX2_look_1 0 rfl rfl)
theorem dX2_look_25 : decode cX2_look 25 = .ok (.iadd, 1) := dk_96 (dk_at dksX2_look_1 2 rfl rfl)
theorem dX2_look_26 : decode cX2_look 26 = .ok (.iaload, 1) := dk_46 (dk_at dksX2_look_1 3 rfl rfl)
theorem dX2_look_27 : decode cX2_look 27 = .ok (.i2l, 1) := dk_133 (dk_at dksX2_look_1 4 rfl rfl)
theorem dX2_look_28 : decode cX2_look 28 = .ok (.lor, 1) := dk_129 (dk_at dksX2_look_1 5 rfl rfl)
theorem dX2_look_29 : decode cX2_look 29 = .ok (.lstore_n 2, 1) := dk_65 (dk_at dksX2_look_1 6 rfl rfl)
theorem dX2_look_30 : decode cX2_look 30 = .ok (.iinc 4 1, 3) := dk_132 4 1 (dk_at dksX2_look_1 7 rfl rfl)
theorem dX2_look_33 : decode cX2_look 33 = .ok (.goto (-28), 3) := dk_167 255 228 (dk_at dksX2_look_1 10 rfl rfl)
theorem dX2_look_36 : decode cX2_look 36 = .ok (.lload_n 2, 1) := dk_32 (dk_at dksX2_look_1 13 rfl rfl)
theorem dX2_look_37 : decode cX2_look 37 = .ok (.lreturn, 1) := dk_173 (dk_at dksX2_look_1 14 rfl rfl)
abbrev cX2_shortOut : ByteArray := prog_4_method_18_code
def yX2_shortOut : MethodName := ⟨RX2, "shortOut", "()I"⟩
def dkwX2_shortOut_0 : List UInt8 := [42, 5, 182, 0, 62, 136, 172]
abbrev dktX2_shortOut_0 : List UInt8 := dkwX2_shortOut_0 ++ []
theorem dksX2_shortOut_0 : cX2_shortOut.data.toList.drop 0 = dktX2_shortOut_0 := by decide +kernel
theorem dX2_shortOut_0 : decode cX2_shortOut 0 = .ok (.aload_n 0, 1) := dk_42 (dk_at dksX2_shortOut_0 0 rfl rfl)
theorem dX2_shortOut_1 : decode cX2_shortOut 1 = .ok (.iconst 2, 1) := dk_5 (dk_at dksX2_shortOut_0 1 rfl rfl)
theorem dX2_shortOut_2 : decode cX2_shortOut 2 = .ok (.invokevirtual 62, 3) := dk_182 0 62 (dk_at dksX2_shortOut_0 2 rfl rfl)
theorem dX2_shortOut_5 : decode cX2_shortOut 5 = .ok (.l2i, 1) := dk_136 (dk_at dksX2_shortOut_0 5 rfl rfl)
theorem dX2_shortOut_6 : decode cX2_shortOut 6 = .ok (.ireturn, 1) := dk_172 (dk_at dksX2_shortOut_0 6 rfl rfl)
abbrev cX2_intOut : ByteArray := prog_4_method_19_code
def yX2_intOut : MethodName := ⟨RX2, "intOut", "()J"⟩
def dkwX2_intOut_0 : List UInt8 := [42, 7, 182, 0, 62, 173]
abbrev dktX2_intOut_0 : List UInt8 := dkwX2_intOut_0 ++ []
theorem dksX2_intOut_0 : cX2_intOut.data.toList.drop 0 = dktX2_intOut_0 := by decide +kernel
theorem dX2_intOut_0 : decode cX2_intOut 0 = .ok (.aload_n 0, 1) := dk_42 (dk_at dksX2_intOut_0 0 rfl rfl)
theorem dX2_intOut_1 : decode cX2_intOut 1 = .ok (.iconst 4, 1) := dk_7 (dk_at dksX2_intOut_0 1 rfl rfl)
theorem dX2_intOut_2 : decode cX2_intOut 2 = .ok (.invokevirtual 62, 3) := dk_182 0 62 (dk_at dksX2_intOut_0 2 rfl rfl)
theorem dX2_intOut_5 : decode cX2_intOut 5 = .ok (.lreturn, 1) := dk_173 (dk_at dksX2_intOut_0 5 rfl rfl)
abbrev cX2_longOut : ByteArray := prog_4_method_20_code
def yX2_longOut : MethodName := ⟨RX2, "longOut", "()J"⟩
def dkwX2_longOut_0 : List UInt8 := [42, 16, 8, 182, 0, 62, 173]
abbrev dktX2_longOut_0 : List UInt8 := dkwX2_longOut_0 ++ []
theorem dksX2_longOut_0 : cX2_longOut.data.toList.drop 0 = dktX2_longOut_0 := by decide +kernel
theorem dX2_longOut_0 : decode cX2_longOut 0 = .ok (.aload_n 0, 1) := dk_42 (dk_at dksX2_longOut_0 0 rfl rfl)
theorem dX2_longOut_1 : decode cX2_longOut 1 = .ok (.bipush 8, 2) := dk_16 8 (dk_at dksX2_longOut_0 1 rfl rfl)
theorem dX2_longOut_3 : decode cX2_longOut 3 = .ok (.invokevirtual 62, 3) := dk_182 0 62 (dk_at dksX2_longOut_0 3 rfl rfl)
theorem dX2_longOut_6 : decode cX2_longOut 6 = .ok (.lreturn, 1) := dk_173 (dk_at dksX2_longOut_0 6 rfl rfl)
abbrev cX2_stringOut : ByteArray := prog_4_method_21_code
def yX2_stringOut : MethodName := ⟨RX2, "stringOut", "()I"⟩
def dkwX2_stringOut_3 : List UInt8 := [132, 3, 1, 167, 255, 232, 42, 180, 0, 16, 190, 172]
abbrev dktX2_stringOut_3 : List UInt8 := dkwX2_stringOut_3 ++ []
def dkwX2_stringOut_2 : List UInt8 := [3, 62, 29, 42, 180, 0, 16, 190, 162, 0, 21, 42, 180, 0, 16, 29, 42, 4, 182, 0, 62, 136, 79]
abbrev dktX2_stringOut_2 : List UInt8 := dkwX2_stringOut_2 ++ dktX2_stringOut_3
def dkwX2_stringOut_1 : List UInt8 := [148, 158, 0, 5, 2, 172, 42, 89, 180, 0, 49, 7, 96, 181, 0, 49, 42, 31, 136, 188, 10, 181, 0, 16]
abbrev dktX2_stringOut_1 : List UInt8 := dkwX2_stringOut_1 ++ dktX2_stringOut_2
def dkwX2_stringOut_0 : List UInt8 := [42, 182, 0, 52, 7, 162, 0, 5, 2, 172, 42, 7, 182, 0, 58, 64, 31, 42, 182, 0, 52, 7, 100, 133]
abbrev dktX2_stringOut_0 : List UInt8 := dkwX2_stringOut_0 ++ dktX2_stringOut_1
theorem dksX2_stringOut_0 : cX2_stringOut.data.toList.drop 0 = dktX2_stringOut_0 := by decide +kernel
theorem dksX2_stringOut_1 : cX2_stringOut.data.toList.drop 24 = dktX2_stringOut_1 := dk_seg dksX2_stringOut_0 24 rfl rfl
theorem dksX2_stringOut_2 : cX2_stringOut.data.toList.drop 48 = dktX2_stringOut_2 := dk_seg dksX2_stringOut_1 24 rfl rfl
theorem dksX2_stringOut_3 : cX2_stringOut.data.toList.drop 71 = dktX2_stringOut_3 := dk_seg dksX2_stringOut_2 23 rfl rfl
theorem dX2_stringOut_0 : decode cX2_stringOut 0 = .ok (.aload_n 0, 1) := dk_42 (dk_at dksX2_stringOut_0 0 rfl rfl)
theorem dX2_stringOut_1 : decode cX2_stringOut 1 = .ok (.invokevirtual 52, 3) := dk_182 0 52 (dk_at dksX2_stringOut_0 1 rfl rfl)
theorem dX2_stringOut_4 : decode cX2_stringOut 4 = .ok (.iconst 4, 1) := dk_7 (dk_at dksX2_stringOut_0 4 rfl rfl)
theorem dX2_stringOut_5 : decode cX2_stringOut 5 = .ok (.if_icmp .ge 5, 3) := dk_162 0 5 (dk_at dksX2_stringOut_0 5 rfl rfl)
theorem dX2_stringOut_8 : decode cX2_stringOut 8 = .ok (.iconst (-1), 1) := dk_2 (dk_at dksX2_stringOut_0 8 rfl rfl)
theorem dX2_stringOut_9 : decode cX2_stringOut 9 = .ok (.ireturn, 1) := dk_172 (dk_at dksX2_stringOut_0 9 rfl rfl)
theorem dX2_stringOut_10 : decode cX2_stringOut 10 = .ok (.aload_n 0, 1) := dk_42 (dk_at dksX2_stringOut_0 10 rfl rfl)
theorem dX2_stringOut_11 : decode cX2_stringOut 11 = .ok (.iconst 4, 1) := dk_7 (dk_at dksX2_stringOut_0 11 rfl rfl)
theorem dX2_stringOut_12 : decode cX2_stringOut 12 = .ok (.invokevirtual 58, 3) := dk_182 0 58 (dk_at dksX2_stringOut_0 12 rfl rfl)
theorem dX2_stringOut_15 : decode cX2_stringOut 15 = .ok (.lstore_n 1, 1) := dk_64 (dk_at dksX2_stringOut_0 15 rfl rfl)
theorem dX2_stringOut_16 : decode cX2_stringOut 16 = .ok (.lload_n 1, 1) := dk_31 (dk_at dksX2_stringOut_0 16 rfl rfl)
theorem dX2_stringOut_17 : decode cX2_stringOut 17 = .ok (.aload_n 0, 1) := dk_42 (dk_at dksX2_stringOut_0 17 rfl rfl)
theorem dX2_stringOut_18 : decode cX2_stringOut 18 = .ok (.invokevirtual 52, 3) := dk_182 0 52 (dk_at dksX2_stringOut_0 18 rfl rfl)
theorem dX2_stringOut_21 : decode cX2_stringOut 21 = .ok (.iconst 4, 1) := dk_7 (dk_at dksX2_stringOut_0 21 rfl rfl)
theorem dX2_stringOut_22 : decode cX2_stringOut 22 = .ok (.isub, 1) := dk_100 (dk_at dksX2_stringOut_0 22 rfl rfl)
theorem dX2_stringOut_23 : decode cX2_stringOut 23 = .ok (.i2l, 1) := dk_133 (dk_at dksX2_stringOut_0 23 rfl rfl)
theorem dX2_stringOut_24 : decode cX2_stringOut 24 = .ok (.lcmp, 1) := dk_148 (dk_at dksX2_stringOut_1 0 rfl rfl)
theorem dX2_stringOut_25 : decode cX2_stringOut 25 = .ok (.ifCond .le 5, 3) := dk_158 0 5 (dk_at dksX2_stringOut_1 1 rfl rfl)
theorem dX2_stringOut_28 : decode cX2_stringOut 28 = .ok (.iconst (-1), 1) := dk_2 (dk_at dksX2_stringOut_1 4 rfl rfl)
theorem dX2_stringOut_29 : decode cX2_stringOut 29 = .ok (.ireturn, 1) := dk_172 (dk_at dksX2_stringOut_1 5 rfl rfl)
theorem dX2_stringOut_30 : decode cX2_stringOut 30 = .ok (.aload_n 0, 1) := dk_42 (dk_at dksX2_stringOut_1 6 rfl rfl)
theorem dX2_stringOut_31 : decode cX2_stringOut 31 = .ok (.dup, 1) := dk_89 (dk_at dksX2_stringOut_1 7 rfl rfl)
theorem dX2_stringOut_32 : decode cX2_stringOut 32 = .ok (.getfield 49, 3) := dk_180 0 49 (dk_at dksX2_stringOut_1 8 rfl rfl)
theorem dX2_stringOut_35 : decode cX2_stringOut 35 = .ok (.iconst 4, 1) := dk_7 (dk_at dksX2_stringOut_1 11 rfl rfl)
theorem dX2_stringOut_36 : decode cX2_stringOut 36 = .ok (.iadd, 1) := dk_96 (dk_at dksX2_stringOut_1 12 rfl rfl)
theorem dX2_stringOut_37 : decode cX2_stringOut 37 = .ok (.putfield 49, 3) := dk_181 0 49 (dk_at dksX2_stringOut_1 13 rfl rfl)
theorem dX2_stringOut_40 : decode cX2_stringOut 40 = .ok (.aload_n 0, 1) := dk_42 (dk_at dksX2_stringOut_1 16 rfl rfl)
theorem dX2_stringOut_41 : decode cX2_stringOut 41 = .ok (.lload_n 1, 1) := dk_31 (dk_at dksX2_stringOut_1 17 rfl rfl)
theorem dX2_stringOut_42 : decode cX2_stringOut 42 = .ok (.l2i, 1) := dk_136 (dk_at dksX2_stringOut_1 18 rfl rfl)
theorem dX2_stringOut_43 : decode cX2_stringOut 43 = .ok (.newarray .int, 2) := dk_188_10 (dk_at dksX2_stringOut_1 19 rfl rfl)
theorem dX2_stringOut_45 : decode cX2_stringOut 45 = .ok (.putfield 16, 3) := dk_181 0 16 (dk_at dksX2_stringOut_1 21 rfl rfl)
theorem dX2_stringOut_48 : decode cX2_stringOut 48 = .ok (.iconst 0, 1) := dk_3 (dk_at dksX2_stringOut_2 0 rfl rfl)
theorem dX2_stringOut_49 : decode cX2_stringOut 49 = .ok (.istore_n 3, 1) := dk_62 (dk_at dksX2_stringOut_2 1 rfl rfl)
theorem dX2_stringOut_50 : decode cX2_stringOut 50 = .ok (.iload_n 3, 1) := dk_29 (dk_at dksX2_stringOut_2 2 rfl rfl)
theorem dX2_stringOut_51 : decode cX2_stringOut 51 = .ok (.aload_n 0, 1) := dk_42 (dk_at dksX2_stringOut_2 3 rfl rfl)
theorem dX2_stringOut_52 : decode cX2_stringOut 52 = .ok (.getfield 16, 3) := dk_180 0 16 (dk_at dksX2_stringOut_2 4 rfl rfl)
theorem dX2_stringOut_55 : decode cX2_stringOut 55 = .ok (.arraylength, 1) := dk_190 (dk_at dksX2_stringOut_2 7 rfl rfl)
theorem dX2_stringOut_56 : decode cX2_stringOut 56 = .ok (.if_icmp .ge 21, 3) := dk_162 0 21 (dk_at dksX2_stringOut_2 8 rfl rfl)
theorem dX2_stringOut_59 : decode cX2_stringOut 59 = .ok (.aload_n 0, 1) := dk_42 (dk_at dksX2_stringOut_2 11 rfl rfl)
theorem dX2_stringOut_60 : decode cX2_stringOut 60 = .ok (.getfield 16, 3) := dk_180 0 16 (dk_at dksX2_stringOut_2 12 rfl rfl)
theorem dX2_stringOut_63 : decode cX2_stringOut 63 = .ok (.iload_n 3, 1) := dk_29 (dk_at dksX2_stringOut_2 15 rfl rfl)
theorem dX2_stringOut_64 : decode cX2_stringOut 64 = .ok (.aload_n 0, 1) := dk_42 (dk_at dksX2_stringOut_2 16 rfl rfl)
theorem dX2_stringOut_65 : decode cX2_stringOut 65 = .ok (.iconst 1, 1) := dk_4 (dk_at dksX2_stringOut_2 17 rfl rfl)
theorem dX2_stringOut_66 : decode cX2_stringOut 66 = .ok (.invokevirtual 62, 3) := dk_182 0 62 (dk_at dksX2_stringOut_2 18 rfl rfl)
theorem dX2_stringOut_69 : decode cX2_stringOut 69 = .ok (.l2i, 1) := dk_136 (dk_at dksX2_stringOut_2 21 rfl rfl)
theorem dX2_stringOut_70 : decode cX2_stringOut 70 = .ok (.iastore, 1) := dk_79 (dk_at dksX2_stringOut_2 22 rfl rfl)
theorem dX2_stringOut_71 : decode cX2_stringOut 71 = .ok (.iinc 3 1, 3) := dk_132 3 1 (dk_at dksX2_stringOut_3 0 rfl rfl)
theorem dX2_stringOut_74 : decode cX2_stringOut 74 = .ok (.goto (-24), 3) := dk_167 255 232 (dk_at dksX2_stringOut_3 3 rfl rfl)
theorem dX2_stringOut_77 : decode cX2_stringOut 77 = .ok (.aload_n 0, 1) := dk_42 (dk_at dksX2_stringOut_3 6 rfl rfl)
theorem dX2_stringOut_78 : decode cX2_stringOut 78 = .ok (.getfield 16, 3) := dk_180 0 16 (dk_at dksX2_stringOut_3 7 rfl rfl)
theorem dX2_stringOut_81 : decode cX2_stringOut 81 = .ok (.arraylength, 1) := dk_190 (dk_at dksX2_stringOut_3 10 rfl rfl)
theorem dX2_stringOut_82 : decode cX2_stringOut 82 = .ok (.ireturn, 1) := dk_172 (dk_at dksX2_stringOut_3 11 rfl rfl)
abbrev cX2_read : ByteArray := prog_4_method_22_code
def yX2_read : MethodName := ⟨RX2, "read", "(I)I"⟩
def dkwX2_read_1 : List UInt8 := [190, 112, 46, 172]
abbrev dktX2_read_1 : List UInt8 := dkwX2_read_1 ++ []
def dkwX2_read_0 : List UInt8 := [42, 180, 0, 16, 190, 154, 0, 7, 2, 167, 0, 18, 42, 180, 0, 16, 27, 18, 23, 126, 42, 180, 0, 16]
abbrev dktX2_read_0 : List UInt8 := dkwX2_read_0 ++ dktX2_read_1
theorem dksX2_read_0 : cX2_read.data.toList.drop 0 = dktX2_read_0 := by decide +kernel
theorem dksX2_read_1 : cX2_read.data.toList.drop 24 = dktX2_read_1 := dk_seg dksX2_read_0 24 rfl rfl
theorem dX2_read_0 : decode cX2_read 0 = .ok (.aload_n 0, 1) := dk_42 (dk_at dksX2_read_0 0 rfl rfl)
theorem dX2_read_1 : decode cX2_read 1 = .ok (.getfield 16, 3) := dk_180 0 16 (dk_at dksX2_read_0 1 rfl rfl)
theorem dX2_read_4 : decode cX2_read 4 = .ok (.arraylength, 1) := dk_190 (dk_at dksX2_read_0 4 rfl rfl)
theorem dX2_read_5 : decode cX2_read 5 = .ok (.ifCond .ne 7, 3) := dk_154 0 7 (dk_at dksX2_read_0 5 rfl rfl)
theorem dX2_read_8 : decode cX2_read 8 = .ok (.iconst (-1), 1) := dk_2 (dk_at dksX2_read_0 8 rfl rfl)
theorem dX2_read_9 : decode cX2_read 9 = .ok (.goto 18, 3) := dk_167 0 18 (dk_at dksX2_read_0 9 rfl rfl)
theorem dX2_read_12 : decode cX2_read 12 = .ok (.aload_n 0, 1) := dk_42 (dk_at dksX2_read_0 12 rfl rfl)
theorem dX2_read_13 : decode cX2_read 13 = .ok (.getfield 16, 3) := dk_180 0 16 (dk_at dksX2_read_0 13 rfl rfl)
theorem dX2_read_16 : decode cX2_read 16 = .ok (.iload_n 1, 1) := dk_27 (dk_at dksX2_read_0 16 rfl rfl)
theorem dX2_read_17 : decode cX2_read 17 = .ok (.ldc 23, 2) := dk_18 23 (dk_at dksX2_read_0 17 rfl rfl)
theorem dX2_read_19 : decode cX2_read 19 = .ok (.iand, 1) := dk_126 (dk_at dksX2_read_0 19 rfl rfl)
theorem dX2_read_20 : decode cX2_read 20 = .ok (.aload_n 0, 1) := dk_42 (dk_at dksX2_read_0 20 rfl rfl)
theorem dX2_read_21 : decode cX2_read 21 = .ok (.getfield 16, 3) := dk_180 0 16 (dk_at dksX2_read_0 21 rfl rfl)
theorem dX2_read_24 : decode cX2_read 24 = .ok (.arraylength, 1) := dk_190 (dk_at dksX2_read_1 0 rfl rfl)
theorem dX2_read_25 : decode cX2_read 25 = .ok (.irem, 1) := dk_112 (dk_at dksX2_read_1 1 rfl rfl)
theorem dX2_read_26 : decode cX2_read 26 = .ok (.iaload, 1) := dk_46 (dk_at dksX2_read_1 2 rfl rfl)
theorem dX2_read_27 : decode cX2_read 27 = .ok (.ireturn, 1) := dk_172 (dk_at dksX2_read_1 3 rfl rfl)
abbrev cX2_back : ByteArray := prog_4_method_23_code
def yX2_back : MethodName := ⟨RX2, "back", "()V"⟩
def dkwX2_back_0 : List UInt8 := [42, 3, 181, 0, 49, 177]
abbrev dktX2_back_0 : List UInt8 := dkwX2_back_0 ++ []
theorem dksX2_back_0 : cX2_back.data.toList.drop 0 = dktX2_back_0 := by decide +kernel
theorem dX2_back_0 : decode cX2_back 0 = .ok (.aload_n 0, 1) := dk_42 (dk_at dksX2_back_0 0 rfl rfl)
theorem dX2_back_1 : decode cX2_back 1 = .ok (.iconst 0, 1) := dk_3 (dk_at dksX2_back_0 1 rfl rfl)
theorem dX2_back_2 : decode cX2_back 2 = .ok (.putfield 49, 3) := dk_181 0 49 (dk_at dksX2_back_0 2 rfl rfl)
theorem dX2_back_5 : decode cX2_back 5 = .ok (.return_, 1) := dk_177 (dk_at dksX2_back_0 5 rfl rfl)
abbrev cX2_anew : ByteArray := prog_4_method_24_code
def yX2_anew : MethodName := ⟨RX2, "anew", "()V"⟩
def dkwX2_anew_0 : List UInt8 := [42, 17, 8, 0, 188, 10, 181, 0, 13, 42, 3, 181, 0, 28, 42, 3, 181, 0, 49, 177]
abbrev dktX2_anew_0 : List UInt8 := dkwX2_anew_0 ++ []
theorem dksX2_anew_0 : cX2_anew.data.toList.drop 0 = dktX2_anew_0 := by decide +kernel
theorem dX2_anew_0 : decode cX2_anew 0 = .ok (.aload_n 0, 1) := dk_42 (dk_at dksX2_anew_0 0 rfl rfl)
theorem dX2_anew_1 : decode cX2_anew 1 = .ok (.sipush 2048, 3) := dk_17 8 0 (dk_at dksX2_anew_0 1 rfl rfl)
theorem dX2_anew_4 : decode cX2_anew 4 = .ok (.newarray .int, 2) := dk_188_10 (dk_at dksX2_anew_0 4 rfl rfl)
theorem dX2_anew_6 : decode cX2_anew 6 = .ok (.putfield 13, 3) := dk_181 0 13 (dk_at dksX2_anew_0 6 rfl rfl)
theorem dX2_anew_9 : decode cX2_anew 9 = .ok (.aload_n 0, 1) := dk_42 (dk_at dksX2_anew_0 9 rfl rfl)
theorem dX2_anew_10 : decode cX2_anew 10 = .ok (.iconst 0, 1) := dk_3 (dk_at dksX2_anew_0 10 rfl rfl)
theorem dX2_anew_11 : decode cX2_anew 11 = .ok (.putfield 28, 3) := dk_181 0 28 (dk_at dksX2_anew_0 11 rfl rfl)
theorem dX2_anew_14 : decode cX2_anew 14 = .ok (.aload_n 0, 1) := dk_42 (dk_at dksX2_anew_0 14 rfl rfl)
theorem dX2_anew_15 : decode cX2_anew 15 = .ok (.iconst 0, 1) := dk_3 (dk_at dksX2_anew_0 15 rfl rfl)
theorem dX2_anew_16 : decode cX2_anew 16 = .ok (.putfield 49, 3) := dk_181 0 49 (dk_at dksX2_anew_0 16 rfl rfl)
theorem dX2_anew_19 : decode cX2_anew 19 = .ok (.return_, 1) := dk_177 (dk_at dksX2_anew_0 19 rfl rfl)
theorem q14 : (Jvm.Cond.initialized "WireBufferDeskModel") ∈ lw_all := lw_g (lw_at lw_m1 3 rfl) rfl
theorem q234 : (Jvm.Cond.instantiable "WireBufferDeskModel" (6 : Nat)) ∈ lw_all := lw_g (lw_at lw_m1 223 rfl) rfl
theorem q236 : (Jvm.Cond.instanceMethod ({ cls := "WireBufferDeskModel", name := "<init>", desc := "()V" } : Jvm.MethodName)) ∈ lw_all := lw_g (lw_at lw_m1 225 rfl) rfl
theorem q237 : (Jvm.Cond.code ({ cls := "WireBufferDeskModel", name := "<init>", desc := "()V" } : Jvm.MethodName) prog_4_method_1_code (1 : Nat) (Option.none : Option Jvm.ClassFile.FieldType)) ∈ lw_all := lw_g (lw_at lw_m1 226 rfl) rfl
theorem q238 : (Jvm.Cond.methodLink "WireBufferDeskModel" (1 : Nat) ({ cls := "java/lang/Object", name := "<init>", desc := "()V" } : Jvm.MethodName)) ∈ lw_all := lw_g (lw_at lw_m1 227 rfl) rfl
theorem q239 : (Jvm.Cond.fieldLink "WireBufferDeskModel" (9 : Nat) "WireBufferDeskModel" "text" "[I") ∈ lw_all := lw_g (lw_at lw_m1 228 rfl) rfl
theorem q240 : (Jvm.Cond.fieldLink "WireBufferDeskModel" (19 : Nat) "WireBufferDeskModel" "size" "I") ∈ lw_all := lw_g (lw_at lw_m1 229 rfl) rfl
theorem q241 : (Jvm.Cond.fieldLink "WireBufferDeskModel" (13 : Nat) "WireBufferDeskModel" "wire" "[I") ∈ lw_all := lw_g (lw_at lw_m1 230 rfl) rfl
theorem q242 : (Jvm.Cond.fieldLink "WireBufferDeskModel" (28 : Nat) "WireBufferDeskModel" "laid" "I") ∈ lw_all := lw_g (lw_at lw_m1 231 rfl) rfl
theorem q243 : (Jvm.Cond.fieldLink "WireBufferDeskModel" (49 : Nat) "WireBufferDeskModel" "at" "I") ∈ lw_all := lw_g (lw_at lw_m1 232 rfl) rfl
theorem q244 : (Jvm.Cond.fieldLink "WireBufferDeskModel" (16 : Nat) "WireBufferDeskModel" "last" "[I") ∈ lw_all := lw_g (lw_at lw_m1 233 rfl) rfl
theorem q245 : (Jvm.Cond.laysFinal "WireBufferDeskModel" "WireBufferDeskModel" "text" "[I") ∈ lw_all := lw_g (lw_at lw_m1 234 rfl) rfl
theorem q246 : (Jvm.Cond.soleField "WireBufferDeskModel" "text") ∈ lw_all := lw_g (lw_at lw_m1 235 rfl) rfl
theorem q247 : (Jvm.Cond.lays "WireBufferDeskModel" "WireBufferDeskModel" "size" "I") ∈ lw_all := lw_g (lw_at lw_m1 236 rfl) rfl
theorem q248 : (Jvm.Cond.soleField "WireBufferDeskModel" "size") ∈ lw_all := lw_g (lw_at lw_m1 237 rfl) rfl
theorem q249 : (Jvm.Cond.lays "WireBufferDeskModel" "WireBufferDeskModel" "wire" "[I") ∈ lw_all := lw_g (lw_at lw_m1 238 rfl) rfl
theorem q250 : (Jvm.Cond.soleField "WireBufferDeskModel" "wire") ∈ lw_all := lw_g (lw_at lw_m1 239 rfl) rfl
theorem q251 : (Jvm.Cond.lays "WireBufferDeskModel" "WireBufferDeskModel" "laid" "I") ∈ lw_all := lw_g (lw_at lw_m2 0 rfl) rfl
theorem q252 : (Jvm.Cond.soleField "WireBufferDeskModel" "laid") ∈ lw_all := lw_g (lw_at lw_m2 1 rfl) rfl
theorem q253 : (Jvm.Cond.lays "WireBufferDeskModel" "WireBufferDeskModel" "at" "I") ∈ lw_all := lw_g (lw_at lw_m2 2 rfl) rfl
theorem q254 : (Jvm.Cond.soleField "WireBufferDeskModel" "at") ∈ lw_all := lw_g (lw_at lw_m2 3 rfl) rfl
theorem q255 : (Jvm.Cond.lays "WireBufferDeskModel" "WireBufferDeskModel" "last" "[I") ∈ lw_all := lw_g (lw_at lw_m2 4 rfl) rfl
theorem q256 : (Jvm.Cond.soleField "WireBufferDeskModel" "last") ∈ lw_all := lw_g (lw_at lw_m2 5 rfl) rfl
theorem q257 : (Jvm.Cond.superclass "WireBufferDeskModel" "java/lang/Object") ∈ lw_all := lw_g (lw_at lw_m2 6 rfl) rfl
theorem q260 : (Jvm.Cond.instanceMethod ({ cls := "WireBufferDeskModel", name := "put", desc := "(IIII)Z" } : Jvm.MethodName)) ∈ lw_all := lw_g (lw_at lw_m2 9 rfl) rfl
theorem q261 : (Jvm.Cond.selects "WireBufferDeskModel" ({ cls := "WireBufferDeskModel", name := "put", desc := "(IIII)Z" } : Jvm.MethodName) ({ cls := "WireBufferDeskModel", name := "put", desc := "(IIII)Z" } : Jvm.MethodName)) ∈ lw_all := lw_g (lw_at lw_m2 10 rfl) rfl
theorem q262 : (Jvm.Cond.code ({ cls := "WireBufferDeskModel", name := "put", desc := "(IIII)Z" } : Jvm.MethodName) prog_4_method_2_code (11 : Nat) (Option.some Jvm.ClassFile.FieldType.boolean)) ∈ lw_all := lw_g (lw_at lw_m2 11 rfl) rfl
theorem q264 : (Jvm.Cond.instanceMethod ({ cls := "WireBufferDeskModel", name := "trim", desc := "(I)V" } : Jvm.MethodName)) ∈ lw_all := lw_g (lw_at lw_m2 13 rfl) rfl
theorem q265 : (Jvm.Cond.selects "WireBufferDeskModel" ({ cls := "WireBufferDeskModel", name := "trim", desc := "(I)V" } : Jvm.MethodName) ({ cls := "WireBufferDeskModel", name := "trim", desc := "(I)V" } : Jvm.MethodName)) ∈ lw_all := lw_g (lw_at lw_m2 14 rfl) rfl
theorem q266 : (Jvm.Cond.code ({ cls := "WireBufferDeskModel", name := "trim", desc := "(I)V" } : Jvm.MethodName) prog_4_method_4_code (2 : Nat) (Option.none : Option Jvm.ClassFile.FieldType)) ∈ lw_all := lw_g (lw_at lw_m2 15 rfl) rfl
theorem q267 : (Jvm.Cond.methodLink "WireBufferDeskModel" (24 : Nat) ({ cls := "WireBufferDeskModel", name := "begin", desc := "(I)I" } : Jvm.MethodName)) ∈ lw_all := lw_g (lw_at lw_m2 16 rfl) rfl
theorem q268 : (Jvm.Cond.privateMethod ({ cls := "WireBufferDeskModel", name := "begin", desc := "(I)I" } : Jvm.MethodName)) ∈ lw_tbl := lw_at lw_m2 17 rfl
theorem q269 : (Jvm.Cond.instanceMethod ({ cls := "WireBufferDeskModel", name := "begin", desc := "(I)I" } : Jvm.MethodName)) ∈ lw_all := lw_g (lw_at lw_m2 18 rfl) rfl
theorem q270 : (Jvm.Cond.code ({ cls := "WireBufferDeskModel", name := "begin", desc := "(I)I" } : Jvm.MethodName) prog_4_method_3_code (2 : Nat) (Option.some Jvm.ClassFile.FieldType.int)) ∈ lw_all := lw_g (lw_at lw_m2 19 rfl) rfl
theorem q271 : (Jvm.Cond.constant "WireBufferDeskModel" (23 : Nat) (2147483647 : Int32)) ∈ lw_all := lw_g (lw_at lw_m2 20 rfl) rfl
theorem q273 : (Jvm.Cond.instanceMethod ({ cls := "WireBufferDeskModel", name := "byteIn", desc := "(I)Z" } : Jvm.MethodName)) ∈ lw_all := lw_g (lw_at lw_m2 22 rfl) rfl
theorem q274 : (Jvm.Cond.selects "WireBufferDeskModel" ({ cls := "WireBufferDeskModel", name := "byteIn", desc := "(I)Z" } : Jvm.MethodName) ({ cls := "WireBufferDeskModel", name := "byteIn", desc := "(I)Z" } : Jvm.MethodName)) ∈ lw_all := lw_g (lw_at lw_m2 23 rfl) rfl
theorem q275 : (Jvm.Cond.code ({ cls := "WireBufferDeskModel", name := "byteIn", desc := "(I)Z" } : Jvm.MethodName) prog_4_method_9_code (2 : Nat) (Option.some Jvm.ClassFile.FieldType.boolean)) ∈ lw_all := lw_g (lw_at lw_m2 24 rfl) rfl
theorem q276 : (Jvm.Cond.methodLink "WireBufferDeskModel" (37 : Nat) ({ cls := "WireBufferDeskModel", name := "isFull", desc := "()Z" } : Jvm.MethodName)) ∈ lw_all := lw_g (lw_at lw_m2 25 rfl) rfl
theorem q277 : (Jvm.Cond.privateMethod ({ cls := "WireBufferDeskModel", name := "isFull", desc := "()Z" } : Jvm.MethodName)) ∈ lw_tbl := lw_at lw_m2 26 rfl
theorem q278 : (Jvm.Cond.instanceMethod ({ cls := "WireBufferDeskModel", name := "isFull", desc := "()Z" } : Jvm.MethodName)) ∈ lw_all := lw_g (lw_at lw_m2 27 rfl) rfl
theorem q279 : (Jvm.Cond.code ({ cls := "WireBufferDeskModel", name := "isFull", desc := "()Z" } : Jvm.MethodName) prog_4_method_6_code (1 : Nat) (Option.some Jvm.ClassFile.FieldType.boolean)) ∈ lw_all := lw_g (lw_at lw_m2 28 rfl) rfl
theorem q280 : (Jvm.Cond.methodLink "WireBufferDeskModel" (33 : Nat) ({ cls := "WireBufferDeskModel", name := "lay", desc := "(JI)V" } : Jvm.MethodName)) ∈ lw_all := lw_g (lw_at lw_m2 29 rfl) rfl
theorem q281 : (Jvm.Cond.privateMethod ({ cls := "WireBufferDeskModel", name := "lay", desc := "(JI)V" } : Jvm.MethodName)) ∈ lw_tbl := lw_at lw_m2 30 rfl
theorem q282 : (Jvm.Cond.instanceMethod ({ cls := "WireBufferDeskModel", name := "lay", desc := "(JI)V" } : Jvm.MethodName)) ∈ lw_all := lw_g (lw_at lw_m2 31 rfl) rfl
theorem q283 : (Jvm.Cond.code ({ cls := "WireBufferDeskModel", name := "lay", desc := "(JI)V" } : Jvm.MethodName) prog_4_method_7_code (5 : Nat) (Option.none : Option Jvm.ClassFile.FieldType)) ∈ lw_all := lw_g (lw_at lw_m2 32 rfl) rfl
theorem q284 : (Jvm.Cond.constantLong "WireBufferDeskModel" (31 : Nat) (255 : Int64)) ∈ lw_all := lw_g (lw_at lw_m2 33 rfl) rfl
theorem q286 : (Jvm.Cond.instanceMethod ({ cls := "WireBufferDeskModel", name := "intIn", desc := "(I)Z" } : Jvm.MethodName)) ∈ lw_all := lw_g (lw_at lw_m2 35 rfl) rfl
theorem q287 : (Jvm.Cond.selects "WireBufferDeskModel" ({ cls := "WireBufferDeskModel", name := "intIn", desc := "(I)Z" } : Jvm.MethodName) ({ cls := "WireBufferDeskModel", name := "intIn", desc := "(I)Z" } : Jvm.MethodName)) ∈ lw_all := lw_g (lw_at lw_m2 36 rfl) rfl
theorem q288 : (Jvm.Cond.code ({ cls := "WireBufferDeskModel", name := "intIn", desc := "(I)Z" } : Jvm.MethodName) prog_4_method_10_code (2 : Nat) (Option.some Jvm.ClassFile.FieldType.boolean)) ∈ lw_all := lw_g (lw_at lw_m2 37 rfl) rfl
theorem q290 : (Jvm.Cond.instanceMethod ({ cls := "WireBufferDeskModel", name := "longIn", desc := "(II)Z" } : Jvm.MethodName)) ∈ lw_all := lw_g (lw_at lw_m2 39 rfl) rfl
theorem q291 : (Jvm.Cond.selects "WireBufferDeskModel" ({ cls := "WireBufferDeskModel", name := "longIn", desc := "(II)Z" } : Jvm.MethodName) ({ cls := "WireBufferDeskModel", name := "longIn", desc := "(II)Z" } : Jvm.MethodName)) ∈ lw_all := lw_g (lw_at lw_m2 40 rfl) rfl
theorem q292 : (Jvm.Cond.code ({ cls := "WireBufferDeskModel", name := "longIn", desc := "(II)Z" } : Jvm.MethodName) prog_4_method_11_code (3 : Nat) (Option.some Jvm.ClassFile.FieldType.boolean)) ∈ lw_all := lw_g (lw_at lw_m2 41 rfl) rfl
theorem q294 : (Jvm.Cond.instanceMethod ({ cls := "WireBufferDeskModel", name := "stringIn", desc := "(II)Z" } : Jvm.MethodName)) ∈ lw_all := lw_g (lw_at lw_m2 43 rfl) rfl
theorem q295 : (Jvm.Cond.selects "WireBufferDeskModel" ({ cls := "WireBufferDeskModel", name := "stringIn", desc := "(II)Z" } : Jvm.MethodName) ({ cls := "WireBufferDeskModel", name := "stringIn", desc := "(II)Z" } : Jvm.MethodName)) ∈ lw_all := lw_g (lw_at lw_m2 44 rfl) rfl
theorem q296 : (Jvm.Cond.code ({ cls := "WireBufferDeskModel", name := "stringIn", desc := "(II)Z" } : Jvm.MethodName) prog_4_method_12_code (4 : Nat) (Option.some Jvm.ClassFile.FieldType.boolean)) ∈ lw_all := lw_g (lw_at lw_m2 45 rfl) rfl
theorem q297 : (Jvm.Cond.methodLink "WireBufferDeskModel" (41 : Nat) ({ cls := "WireBufferDeskModel", name := "part", desc := "(II)[I" } : Jvm.MethodName)) ∈ lw_all := lw_g (lw_at lw_m2 46 rfl) rfl
theorem q298 : (Jvm.Cond.privateMethod ({ cls := "WireBufferDeskModel", name := "part", desc := "(II)[I" } : Jvm.MethodName)) ∈ lw_tbl := lw_at lw_m2 47 rfl
theorem q299 : (Jvm.Cond.instanceMethod ({ cls := "WireBufferDeskModel", name := "part", desc := "(II)[I" } : Jvm.MethodName)) ∈ lw_all := lw_g (lw_at lw_m2 48 rfl) rfl
theorem q300 : (Jvm.Cond.code ({ cls := "WireBufferDeskModel", name := "part", desc := "(II)[I" } : Jvm.MethodName) prog_4_method_5_code (6 : Nat) (Option.some (Jvm.ClassFile.FieldType.array Jvm.ClassFile.FieldType.int))) ∈ lw_all := lw_g (lw_at lw_m2 49 rfl) rfl
theorem q301 : (Jvm.Cond.methodLink "WireBufferDeskModel" (45 : Nat) ({ cls := "WireBufferDeskModel", name := "layAll", desc := "([I)V" } : Jvm.MethodName)) ∈ lw_all := lw_g (lw_at lw_m2 50 rfl) rfl
theorem q302 : (Jvm.Cond.privateMethod ({ cls := "WireBufferDeskModel", name := "layAll", desc := "([I)V" } : Jvm.MethodName)) ∈ lw_tbl := lw_at lw_m2 51 rfl
theorem q303 : (Jvm.Cond.instanceMethod ({ cls := "WireBufferDeskModel", name := "layAll", desc := "([I)V" } : Jvm.MethodName)) ∈ lw_all := lw_g (lw_at lw_m2 52 rfl) rfl
theorem q304 : (Jvm.Cond.code ({ cls := "WireBufferDeskModel", name := "layAll", desc := "([I)V" } : Jvm.MethodName) prog_4_method_8_code (6 : Nat) (Option.none : Option Jvm.ClassFile.FieldType)) ∈ lw_all := lw_g (lw_at lw_m2 53 rfl) rfl
theorem q306 : (Jvm.Cond.instanceMethod ({ cls := "WireBufferDeskModel", name := "numberIn", desc := "(II)Z" } : Jvm.MethodName)) ∈ lw_all := lw_g (lw_at lw_m2 55 rfl) rfl
theorem q307 : (Jvm.Cond.selects "WireBufferDeskModel" ({ cls := "WireBufferDeskModel", name := "numberIn", desc := "(II)Z" } : Jvm.MethodName) ({ cls := "WireBufferDeskModel", name := "numberIn", desc := "(II)Z" } : Jvm.MethodName)) ∈ lw_all := lw_g (lw_at lw_m2 56 rfl) rfl
theorem q308 : (Jvm.Cond.code ({ cls := "WireBufferDeskModel", name := "numberIn", desc := "(II)Z" } : Jvm.MethodName) prog_4_method_13_code (5 : Nat) (Option.some Jvm.ClassFile.FieldType.boolean)) ∈ lw_all := lw_g (lw_at lw_m2 57 rfl) rfl
theorem q310 : (Jvm.Cond.instanceMethod ({ cls := "WireBufferDeskModel", name := "left", desc := "()I" } : Jvm.MethodName)) ∈ lw_all := lw_g (lw_at lw_m2 59 rfl) rfl
theorem q311 : (Jvm.Cond.selects "WireBufferDeskModel" ({ cls := "WireBufferDeskModel", name := "left", desc := "()I" } : Jvm.MethodName) ({ cls := "WireBufferDeskModel", name := "left", desc := "()I" } : Jvm.MethodName)) ∈ lw_all := lw_g (lw_at lw_m2 60 rfl) rfl
theorem q312 : (Jvm.Cond.code ({ cls := "WireBufferDeskModel", name := "left", desc := "()I" } : Jvm.MethodName) prog_4_method_14_code (1 : Nat) (Option.some Jvm.ClassFile.FieldType.int)) ∈ lw_all := lw_g (lw_at lw_m2 61 rfl) rfl
theorem q314 : (Jvm.Cond.instanceMethod ({ cls := "WireBufferDeskModel", name := "byteOut", desc := "()I" } : Jvm.MethodName)) ∈ lw_all := lw_g (lw_at lw_m2 63 rfl) rfl
theorem q315 : (Jvm.Cond.selects "WireBufferDeskModel" ({ cls := "WireBufferDeskModel", name := "byteOut", desc := "()I" } : Jvm.MethodName) ({ cls := "WireBufferDeskModel", name := "byteOut", desc := "()I" } : Jvm.MethodName)) ∈ lw_all := lw_g (lw_at lw_m2 64 rfl) rfl
theorem q316 : (Jvm.Cond.code ({ cls := "WireBufferDeskModel", name := "byteOut", desc := "()I" } : Jvm.MethodName) prog_4_method_17_code (1 : Nat) (Option.some Jvm.ClassFile.FieldType.int)) ∈ lw_all := lw_g (lw_at lw_m2 65 rfl) rfl
theorem q317 : (Jvm.Cond.methodLink "WireBufferDeskModel" (62 : Nat) ({ cls := "WireBufferDeskModel", name := "take", desc := "(I)J" } : Jvm.MethodName)) ∈ lw_all := lw_g (lw_at lw_m2 66 rfl) rfl
theorem q318 : (Jvm.Cond.privateMethod ({ cls := "WireBufferDeskModel", name := "take", desc := "(I)J" } : Jvm.MethodName)) ∈ lw_tbl := lw_at lw_m2 67 rfl
theorem q319 : (Jvm.Cond.instanceMethod ({ cls := "WireBufferDeskModel", name := "take", desc := "(I)J" } : Jvm.MethodName)) ∈ lw_all := lw_g (lw_at lw_m2 68 rfl) rfl
theorem q320 : (Jvm.Cond.code ({ cls := "WireBufferDeskModel", name := "take", desc := "(I)J" } : Jvm.MethodName) prog_4_method_16_code (4 : Nat) (Option.some Jvm.ClassFile.FieldType.long)) ∈ lw_all := lw_g (lw_at lw_m2 69 rfl) rfl
theorem q321 : (Jvm.Cond.methodLink "WireBufferDeskModel" (52 : Nat) ({ cls := "WireBufferDeskModel", name := "left", desc := "()I" } : Jvm.MethodName)) ∈ lw_all := lw_g (lw_at lw_m2 70 rfl) rfl
theorem q322 : (Jvm.Cond.constantLong "WireBufferDeskModel" (56 : Nat) (-1 : Int64)) ∈ lw_all := lw_g (lw_at lw_m2 71 rfl) rfl
theorem q323 : (Jvm.Cond.methodLink "WireBufferDeskModel" (58 : Nat) ({ cls := "WireBufferDeskModel", name := "look", desc := "(I)J" } : Jvm.MethodName)) ∈ lw_all := lw_g (lw_at lw_m2 72 rfl) rfl
theorem q324 : (Jvm.Cond.privateMethod ({ cls := "WireBufferDeskModel", name := "look", desc := "(I)J" } : Jvm.MethodName)) ∈ lw_tbl := lw_at lw_m2 73 rfl
theorem q325 : (Jvm.Cond.instanceMethod ({ cls := "WireBufferDeskModel", name := "look", desc := "(I)J" } : Jvm.MethodName)) ∈ lw_all := lw_g (lw_at lw_m2 74 rfl) rfl
theorem q326 : (Jvm.Cond.code ({ cls := "WireBufferDeskModel", name := "look", desc := "(I)J" } : Jvm.MethodName) prog_4_method_15_code (5 : Nat) (Option.some Jvm.ClassFile.FieldType.long)) ∈ lw_all := lw_g (lw_at lw_m2 75 rfl) rfl
theorem q328 : (Jvm.Cond.instanceMethod ({ cls := "WireBufferDeskModel", name := "shortOut", desc := "()I" } : Jvm.MethodName)) ∈ lw_all := lw_g (lw_at lw_m2 77 rfl) rfl
theorem q329 : (Jvm.Cond.selects "WireBufferDeskModel" ({ cls := "WireBufferDeskModel", name := "shortOut", desc := "()I" } : Jvm.MethodName) ({ cls := "WireBufferDeskModel", name := "shortOut", desc := "()I" } : Jvm.MethodName)) ∈ lw_all := lw_g (lw_at lw_m2 78 rfl) rfl
theorem q330 : (Jvm.Cond.code ({ cls := "WireBufferDeskModel", name := "shortOut", desc := "()I" } : Jvm.MethodName) prog_4_method_18_code (1 : Nat) (Option.some Jvm.ClassFile.FieldType.int)) ∈ lw_all := lw_g (lw_at lw_m2 79 rfl) rfl
theorem q332 : (Jvm.Cond.instanceMethod ({ cls := "WireBufferDeskModel", name := "intOut", desc := "()J" } : Jvm.MethodName)) ∈ lw_all := lw_g (lw_at lw_m2 81 rfl) rfl
theorem q333 : (Jvm.Cond.selects "WireBufferDeskModel" ({ cls := "WireBufferDeskModel", name := "intOut", desc := "()J" } : Jvm.MethodName) ({ cls := "WireBufferDeskModel", name := "intOut", desc := "()J" } : Jvm.MethodName)) ∈ lw_all := lw_g (lw_at lw_m2 82 rfl) rfl
theorem q334 : (Jvm.Cond.code ({ cls := "WireBufferDeskModel", name := "intOut", desc := "()J" } : Jvm.MethodName) prog_4_method_19_code (1 : Nat) (Option.some Jvm.ClassFile.FieldType.long)) ∈ lw_all := lw_g (lw_at lw_m2 83 rfl) rfl
theorem q336 : (Jvm.Cond.instanceMethod ({ cls := "WireBufferDeskModel", name := "longOut", desc := "()J" } : Jvm.MethodName)) ∈ lw_all := lw_g (lw_at lw_m2 85 rfl) rfl
theorem q337 : (Jvm.Cond.selects "WireBufferDeskModel" ({ cls := "WireBufferDeskModel", name := "longOut", desc := "()J" } : Jvm.MethodName) ({ cls := "WireBufferDeskModel", name := "longOut", desc := "()J" } : Jvm.MethodName)) ∈ lw_all := lw_g (lw_at lw_m2 86 rfl) rfl
theorem q338 : (Jvm.Cond.code ({ cls := "WireBufferDeskModel", name := "longOut", desc := "()J" } : Jvm.MethodName) prog_4_method_20_code (1 : Nat) (Option.some Jvm.ClassFile.FieldType.long)) ∈ lw_all := lw_g (lw_at lw_m2 87 rfl) rfl
theorem q340 : (Jvm.Cond.instanceMethod ({ cls := "WireBufferDeskModel", name := "stringOut", desc := "()I" } : Jvm.MethodName)) ∈ lw_all := lw_g (lw_at lw_m2 89 rfl) rfl
theorem q341 : (Jvm.Cond.selects "WireBufferDeskModel" ({ cls := "WireBufferDeskModel", name := "stringOut", desc := "()I" } : Jvm.MethodName) ({ cls := "WireBufferDeskModel", name := "stringOut", desc := "()I" } : Jvm.MethodName)) ∈ lw_all := lw_g (lw_at lw_m2 90 rfl) rfl
theorem q342 : (Jvm.Cond.code ({ cls := "WireBufferDeskModel", name := "stringOut", desc := "()I" } : Jvm.MethodName) prog_4_method_21_code (4 : Nat) (Option.some Jvm.ClassFile.FieldType.int)) ∈ lw_all := lw_g (lw_at lw_m2 91 rfl) rfl
theorem q344 : (Jvm.Cond.instanceMethod ({ cls := "WireBufferDeskModel", name := "read", desc := "(I)I" } : Jvm.MethodName)) ∈ lw_all := lw_g (lw_at lw_m2 93 rfl) rfl
theorem q345 : (Jvm.Cond.selects "WireBufferDeskModel" ({ cls := "WireBufferDeskModel", name := "read", desc := "(I)I" } : Jvm.MethodName) ({ cls := "WireBufferDeskModel", name := "read", desc := "(I)I" } : Jvm.MethodName)) ∈ lw_all := lw_g (lw_at lw_m2 94 rfl) rfl
theorem q346 : (Jvm.Cond.code ({ cls := "WireBufferDeskModel", name := "read", desc := "(I)I" } : Jvm.MethodName) prog_4_method_22_code (2 : Nat) (Option.some Jvm.ClassFile.FieldType.int)) ∈ lw_all := lw_g (lw_at lw_m2 95 rfl) rfl
theorem q348 : (Jvm.Cond.instanceMethod ({ cls := "WireBufferDeskModel", name := "back", desc := "()V" } : Jvm.MethodName)) ∈ lw_all := lw_g (lw_at lw_m2 97 rfl) rfl
theorem q349 : (Jvm.Cond.selects "WireBufferDeskModel" ({ cls := "WireBufferDeskModel", name := "back", desc := "()V" } : Jvm.MethodName) ({ cls := "WireBufferDeskModel", name := "back", desc := "()V" } : Jvm.MethodName)) ∈ lw_all := lw_g (lw_at lw_m2 98 rfl) rfl
theorem q350 : (Jvm.Cond.code ({ cls := "WireBufferDeskModel", name := "back", desc := "()V" } : Jvm.MethodName) prog_4_method_23_code (1 : Nat) (Option.none : Option Jvm.ClassFile.FieldType)) ∈ lw_all := lw_g (lw_at lw_m2 99 rfl) rfl
theorem q352 : (Jvm.Cond.instanceMethod ({ cls := "WireBufferDeskModel", name := "anew", desc := "()V" } : Jvm.MethodName)) ∈ lw_all := lw_g (lw_at lw_m2 101 rfl) rfl
theorem q353 : (Jvm.Cond.selects "WireBufferDeskModel" ({ cls := "WireBufferDeskModel", name := "anew", desc := "()V" } : Jvm.MethodName) ({ cls := "WireBufferDeskModel", name := "anew", desc := "()V" } : Jvm.MethodName)) ∈ lw_all := lw_g (lw_at lw_m2 102 rfl) rfl
theorem q354 : (Jvm.Cond.code ({ cls := "WireBufferDeskModel", name := "anew", desc := "()V" } : Jvm.MethodName) prog_4_method_24_code (1 : Nat) (Option.none : Option Jvm.ClassFile.FieldType)) ∈ lw_all := lw_g (lw_at lw_m2 103 rfl) rfl
theorem in_X2 : ∀ w ∈ wsX20, w ∈ lw_all := lw_in wsX20 [245, 247, 249, 251, 253, 255] (by decide +kernel) (by decide +kernel)
end
section
/-! java/lang/Object -/
set_option maxRecDepth 100000
def RJ0 : String := "java/lang/Object"
abbrev cJ0_init : ByteArray := object_method_1_code
def yJ0_init : MethodName := ⟨RJ0, "<init>", "()V"⟩
theorem dJ0_init_0 : decode cJ0_init 0 = .ok (.return_, 1) := by decide +kernel
theorem q22 : (Jvm.Cond.instanceMethod ({ cls := "java/lang/Object", name := "<init>", desc := "()V" } : Jvm.MethodName)) ∈ lw_all := lw_g (lw_at lw_m1 11 rfl) rfl
theorem q23 : (Jvm.Cond.code ({ cls := "java/lang/Object", name := "<init>", desc := "()V" } : Jvm.MethodName) object_method_1_code (1 : Nat) (Option.none : Option Jvm.ClassFile.FieldType)) ∈ lw_all := lw_g (lw_at lw_m1 12 rfl) rfl
/-! the law's own entry -/
set_option maxRecDepth 100000
abbrev cL_law : ByteArray := code
def dkwL_law_18 : List UInt8 := [172]
abbrev dktL_law_18 : List UInt8 := dkwL_law_18 ++ []
def dkwL_law_17 : List UInt8 := [182, 0, 79, 167, 0, 14, 43, 182, 0, 80, 44, 182, 0, 83, 167, 0, 3, 132, 3, 6, 167, 254, 71, 4]
abbrev dktL_law_17 : List UInt8 := dkwL_law_17 ++ dktL_law_18
def dkwL_law_16 : List UInt8 := [182, 0, 71, 44, 42, 29, 4, 96, 46, 182, 0, 75, 159, 0, 27, 3, 172, 43, 182, 0, 76, 44]
abbrev dktL_law_16 : List UInt8 := dkwL_law_16 ++ dktL_law_17
def dkwL_law_15 : List UInt8 := [153, 0, 63, 3, 172, 43, 182, 0, 67, 44, 182, 0, 70, 159, 0, 50, 3, 172, 43, 42, 29, 4, 96, 46]
abbrev dktL_law_15 : List UInt8 := dkwL_law_15 ++ dktL_law_16
def dkwL_law_14 : List UInt8 := [182, 0, 58, 44, 182, 0, 62, 148, 153, 0, 77, 3, 172, 43, 182, 0, 63, 44, 182, 0, 66, 148]
abbrev dktL_law_14 : List UInt8 := dkwL_law_14 ++ dktL_law_15
def dkwL_law_13 : List UInt8 := [182, 0, 53, 159, 0, 104, 3, 172, 43, 182, 0, 54, 44, 182, 0, 57, 159, 0, 91, 3, 172, 43]
abbrev dktL_law_13 : List UInt8 := dkwL_law_13 ++ dktL_law_14
def dkwL_law_12 : List UInt8 := [159, 0, 130, 3, 172, 43, 182, 0, 45, 44, 182, 0, 49, 159, 0, 117, 3, 172, 43, 182, 0, 50, 44]
abbrev dktL_law_12 : List UInt8 := dkwL_law_12 ++ dktL_law_13
def dkwL_law_11 : List UInt8 := [46, 42, 29, 5, 96, 46, 182, 0, 41, 44, 42, 29, 4, 96, 46, 42, 29, 5, 96, 46, 182, 0, 44]
abbrev dktL_law_11 : List UInt8 := dkwL_law_11 ++ dktL_law_12
def dkwL_law_10 : List UInt8 := [44, 42, 29, 4, 96, 46, 42, 29, 5, 96, 46, 182, 0, 40, 159, 0, 163, 3, 172, 43, 42, 29, 4, 96]
abbrev dktL_law_10 : List UInt8 := dkwL_law_10 ++ dktL_law_11
def dkwL_law_9 : List UInt8 := [96, 46, 182, 0, 36, 159, 0, 196, 3, 172, 43, 42, 29, 4, 96, 46, 42, 29, 5, 96, 46, 182, 0, 37]
abbrev dktL_law_9 : List UInt8 := dkwL_law_9 ++ dktL_law_10
def dkwL_law_8 : List UInt8 := [172, 43, 42, 29, 4, 96, 46, 42, 29, 5, 96, 46, 182, 0, 32, 44, 42, 29, 4, 96, 46, 42, 29, 5]
abbrev dktL_law_8 : List UInt8 := dkwL_law_8 ++ dktL_law_9
def dkwL_law_7 : List UInt8 := [3, 172, 43, 42, 29, 4, 96, 46, 182, 0, 28, 44, 42, 29, 4, 96, 46, 182, 0, 31, 159, 0, 229, 3]
abbrev dktL_law_7 : List UInt8 := dkwL_law_7 ++ dktL_law_8
def dkwL_law_6 : List UInt8 := [167, 1, 17, 43, 42, 29, 4, 96, 46, 182, 0, 23, 44, 42, 29, 4, 96, 46, 182, 0, 27, 159, 0, 252]
abbrev dktL_law_6 : List UInt8 := dkwL_law_6 ++ dktL_law_7
def dkwL_law_5 : List UInt8 := [159, 1, 40, 3, 172, 43, 42, 29, 4, 96, 46, 182, 0, 18, 44, 42, 29, 4, 96, 46, 182, 0, 22]
abbrev dktL_law_5 : List UInt8 := dkwL_law_5 ++ dktL_law_6
def dkwL_law_4 : List UInt8 := [44, 42, 29, 4, 96, 46, 42, 29, 5, 96, 46, 42, 29, 6, 96, 46, 42, 29, 7, 96, 46, 182, 0, 17]
abbrev dktL_law_4 : List UInt8 := dkwL_law_4 ++ dktL_law_5
def dkwL_law_3 : List UInt8 := [43, 42, 29, 4, 96, 46, 42, 29, 5, 96, 46, 42, 29, 6, 96, 46, 42, 29, 7, 96, 46, 182, 0, 13]
abbrev dktL_law_3 : List UInt8 := dkwL_law_3 ++ dktL_law_4
def dkwL_law_2 : List UInt8 := [170, 0, 0, 0, 0, 1, 167, 0, 0, 0, 0, 0, 0, 0, 15, 0, 0, 0, 79, 0, 0, 0, 132, 0, 0, 0, 153, 0, 0, 0, 176, 0, 0, 0, 199, 0, 0, 0, 232, 0, 0, 1, 9, 0, 0, 1, 42, 0, 0, 1, 55, 0, 0, 1, 68, 0, 0, 1, 81, 0, 0, 1, 95, 0, 0, 1, 109, 0, 0, 1, 122, 0, 0, 1, 145, 0, 0, 1, 156]
abbrev dktL_law_2 : List UInt8 := dkwL_law_2 ++ dktL_law_3
def dkwL_law_1 : List UInt8 := [163, 1, 182, 42, 29, 46, 16, 15, 126]
abbrev dktL_law_1 : List UInt8 := dkwL_law_1 ++ dktL_law_2
def dkwL_law_0 : List UInt8 := [187, 0, 7, 89, 183, 0, 9, 76, 187, 0, 10, 89, 183, 0, 12, 77, 3, 62, 29, 42, 190, 16, 6, 100]
abbrev dktL_law_0 : List UInt8 := dkwL_law_0 ++ dktL_law_1
theorem dksL_law_0 : cL_law.data.toList.drop 0 = dktL_law_0 := by decide +kernel
theorem dksL_law_1 : cL_law.data.toList.drop 24 = dktL_law_1 := dk_seg dksL_law_0 24 rfl rfl
theorem dksL_law_2 : cL_law.data.toList.drop 33 = dktL_law_2 := dk_seg dksL_law_1 9 rfl rfl
theorem dksL_law_3 : cL_law.data.toList.drop 112 = dktL_law_3 := dk_seg dksL_law_2 79 rfl rfl
theorem dksL_law_4 : cL_law.data.toList.drop 136 = dktL_law_4 := dk_seg dksL_law_3 24 rfl rfl
theorem dksL_law_5 : cL_law.data.toList.drop 160 = dktL_law_5 := dk_seg dksL_law_4 24 rfl rfl
theorem dksL_law_6 : cL_law.data.toList.drop 183 = dktL_law_6 := dk_seg dksL_law_5 23 rfl rfl
theorem dksL_law_7 : cL_law.data.toList.drop 207 = dktL_law_7 := dk_seg dksL_law_6 24 rfl rfl
theorem dksL_law_8 : cL_law.data.toList.drop 231 = dktL_law_8 := dk_seg dksL_law_7 24 rfl rfl
theorem dksL_law_9 : cL_law.data.toList.drop 255 = dktL_law_9 := dk_seg dksL_law_8 24 rfl rfl
theorem dksL_law_10 : cL_law.data.toList.drop 279 = dktL_law_10 := dk_seg dksL_law_9 24 rfl rfl
theorem dksL_law_11 : cL_law.data.toList.drop 303 = dktL_law_11 := dk_seg dksL_law_10 24 rfl rfl
theorem dksL_law_12 : cL_law.data.toList.drop 326 = dktL_law_12 := dk_seg dksL_law_11 23 rfl rfl
theorem dksL_law_13 : cL_law.data.toList.drop 349 = dktL_law_13 := dk_seg dksL_law_12 23 rfl rfl
theorem dksL_law_14 : cL_law.data.toList.drop 371 = dktL_law_14 := dk_seg dksL_law_13 22 rfl rfl
theorem dksL_law_15 : cL_law.data.toList.drop 393 = dktL_law_15 := dk_seg dksL_law_14 22 rfl rfl
theorem dksL_law_16 : cL_law.data.toList.drop 417 = dktL_law_16 := dk_seg dksL_law_15 24 rfl rfl
theorem dksL_law_17 : cL_law.data.toList.drop 439 = dktL_law_17 := dk_seg dksL_law_16 22 rfl rfl
theorem dksL_law_18 : cL_law.data.toList.drop 463 = dktL_law_18 := dk_seg dksL_law_17 24 rfl rfl
theorem dL_law_0 : decode cL_law 0 = .ok (.new 7, 3) := dk_187 0 7 (dk_at dksL_law_0 0 rfl rfl)
theorem dL_law_3 : decode cL_law 3 = .ok (.dup, 1) := dk_89 (dk_at dksL_law_0 3 rfl rfl)
theorem dL_law_4 : decode cL_law 4 = .ok (.invokespecial 9, 3) := dk_183 0 9 (dk_at dksL_law_0 4 rfl rfl)
theorem dL_law_7 : decode cL_law 7 = .ok (.astore_n 1, 1) := dk_76 (dk_at dksL_law_0 7 rfl rfl)
theorem dL_law_8 : decode cL_law 8 = .ok (.new 10, 3) := dk_187 0 10 (dk_at dksL_law_0 8 rfl rfl)
theorem dL_law_11 : decode cL_law 11 = .ok (.dup, 1) := dk_89 (dk_at dksL_law_0 11 rfl rfl)
theorem dL_law_12 : decode cL_law 12 = .ok (.invokespecial 12, 3) := dk_183 0 12 (dk_at dksL_law_0 12 rfl rfl)
theorem dL_law_15 : decode cL_law 15 = .ok (.astore_n 2, 1) := dk_77 (dk_at dksL_law_0 15 rfl rfl)
theorem dL_law_16 : decode cL_law 16 = .ok (.iconst 0, 1) := dk_3 (dk_at dksL_law_0 16 rfl rfl)
theorem dL_law_17 : decode cL_law 17 = .ok (.istore_n 3, 1) := dk_62 (dk_at dksL_law_0 17 rfl rfl)
theorem dL_law_18 : decode cL_law 18 = .ok (.iload_n 3, 1) := dk_29 (dk_at dksL_law_0 18 rfl rfl)
theorem dL_law_19 : decode cL_law 19 = .ok (.aload_n 0, 1) := dk_42 (dk_at dksL_law_0 19 rfl rfl)
theorem dL_law_20 : decode cL_law 20 = .ok (.arraylength, 1) := dk_190 (dk_at dksL_law_0 20 rfl rfl)
theorem dL_law_21 : decode cL_law 21 = .ok (.bipush 6, 2) := dk_16 6 (dk_at dksL_law_0 21 rfl rfl)
theorem dL_law_23 : decode cL_law 23 = .ok (.isub, 1) := dk_100 (dk_at dksL_law_0 23 rfl rfl)
theorem dL_law_24 : decode cL_law 24 = .ok (.if_icmp .gt 438, 3) := dk_163 1 182 (dk_at dksL_law_1 0 rfl rfl)
theorem dL_law_27 : decode cL_law 27 = .ok (.aload_n 0, 1) := dk_42 (dk_at dksL_law_1 3 rfl rfl)
theorem dL_law_28 : decode cL_law 28 = .ok (.iload_n 3, 1) := dk_29 (dk_at dksL_law_1 4 rfl rfl)
theorem dL_law_29 : decode cL_law 29 = .ok (.iaload, 1) := dk_46 (dk_at dksL_law_1 5 rfl rfl)
theorem dL_law_30 : decode cL_law 30 = .ok (.bipush 15, 2) := dk_16 15 (dk_at dksL_law_1 6 rfl rfl)
theorem dL_law_32 : decode cL_law 32 = .ok (.iand, 1) := dk_126 (dk_at dksL_law_1 8 rfl rfl)
theorem dL_law_33 : decode cL_law 33 = .ok (.tableswitch 423 0 15 #[79, 132, 153, 176, 199, 232, 265, 298, 311, 324, 337, 351, 365, 378, 401, 412], 79) := by decide +kernel
theorem dL_law_112 : decode cL_law 112 = .ok (.aload_n 1, 1) := dk_43 (dk_at dksL_law_3 0 rfl rfl)
theorem dL_law_113 : decode cL_law 113 = .ok (.aload_n 0, 1) := dk_42 (dk_at dksL_law_3 1 rfl rfl)
theorem dL_law_114 : decode cL_law 114 = .ok (.iload_n 3, 1) := dk_29 (dk_at dksL_law_3 2 rfl rfl)
theorem dL_law_115 : decode cL_law 115 = .ok (.iconst 1, 1) := dk_4 (dk_at dksL_law_3 3 rfl rfl)
theorem dL_law_116 : decode cL_law 116 = .ok (.iadd, 1) := dk_96 (dk_at dksL_law_3 4 rfl rfl)
theorem dL_law_117 : decode cL_law 117 = .ok (.iaload, 1) := dk_46 (dk_at dksL_law_3 5 rfl rfl)
theorem dL_law_118 : decode cL_law 118 = .ok (.aload_n 0, 1) := dk_42 (dk_at dksL_law_3 6 rfl rfl)
theorem dL_law_119 : decode cL_law 119 = .ok (.iload_n 3, 1) := dk_29 (dk_at dksL_law_3 7 rfl rfl)
theorem dL_law_120 : decode cL_law 120 = .ok (.iconst 2, 1) := dk_5 (dk_at dksL_law_3 8 rfl rfl)
theorem dL_law_121 : decode cL_law 121 = .ok (.iadd, 1) := dk_96 (dk_at dksL_law_3 9 rfl rfl)
theorem dL_law_122 : decode cL_law 122 = .ok (.iaload, 1) := dk_46 (dk_at dksL_law_3 10 rfl rfl)
theorem dL_law_123 : decode cL_law 123 = .ok (.aload_n 0, 1) := dk_42 (dk_at dksL_law_3 11 rfl rfl)
theorem dL_law_124 : decode cL_law 124 = .ok (.iload_n 3, 1) := dk_29 (dk_at dksL_law_3 12 rfl rfl)
theorem dL_law_125 : decode cL_law 125 = .ok (.iconst 3, 1) := dk_6 (dk_at dksL_law_3 13 rfl rfl)
theorem dL_law_126 : decode cL_law 126 = .ok (.iadd, 1) := dk_96 (dk_at dksL_law_3 14 rfl rfl)
theorem dL_law_127 : decode cL_law 127 = .ok (.iaload, 1) := dk_46 (dk_at dksL_law_3 15 rfl rfl)
theorem dL_law_128 : decode cL_law 128 = .ok (.aload_n 0, 1) := dk_42 (dk_at dksL_law_3 16 rfl rfl)
theorem dL_law_129 : decode cL_law 129 = .ok (.iload_n 3, 1) := dk_29 (dk_at dksL_law_3 17 rfl rfl)
theorem dL_law_130 : decode cL_law 130 = .ok (.iconst 4, 1) := dk_7 (dk_at dksL_law_3 18 rfl rfl)
theorem dL_law_131 : decode cL_law 131 = .ok (.iadd, 1) := dk_96 (dk_at dksL_law_3 19 rfl rfl)
theorem dL_law_132 : decode cL_law 132 = .ok (.iaload, 1) := dk_46 (dk_at dksL_law_3 20 rfl rfl)
theorem dL_law_133 : decode cL_law 133 = .ok (.invokevirtual 13, 3) := dk_182 0 13 (dk_at dksL_law_3 21 rfl rfl)
theorem dL_law_136 : decode cL_law 136 = .ok (.aload_n 2, 1) := dk_44 (dk_at dksL_law_4 0 rfl rfl)
theorem dL_law_137 : decode cL_law 137 = .ok (.aload_n 0, 1) := dk_42 (dk_at dksL_law_4 1 rfl rfl)
theorem dL_law_138 : decode cL_law 138 = .ok (.iload_n 3, 1) := dk_29 (dk_at dksL_law_4 2 rfl rfl)
theorem dL_law_139 : decode cL_law 139 = .ok (.iconst 1, 1) := dk_4 (dk_at dksL_law_4 3 rfl rfl)
theorem dL_law_140 : decode cL_law 140 = .ok (.iadd, 1) := dk_96 (dk_at dksL_law_4 4 rfl rfl)
theorem dL_law_141 : decode cL_law 141 = .ok (.iaload, 1) := dk_46 (dk_at dksL_law_4 5 rfl rfl)
theorem dL_law_142 : decode cL_law 142 = .ok (.aload_n 0, 1) := dk_42 (dk_at dksL_law_4 6 rfl rfl)
theorem dL_law_143 : decode cL_law 143 = .ok (.iload_n 3, 1) := dk_29 (dk_at dksL_law_4 7 rfl rfl)
theorem dL_law_144 : decode cL_law 144 = .ok (.iconst 2, 1) := dk_5 (dk_at dksL_law_4 8 rfl rfl)
theorem dL_law_145 : decode cL_law 145 = .ok (.iadd, 1) := dk_96 (dk_at dksL_law_4 9 rfl rfl)
theorem dL_law_146 : decode cL_law 146 = .ok (.iaload, 1) := dk_46 (dk_at dksL_law_4 10 rfl rfl)
theorem dL_law_147 : decode cL_law 147 = .ok (.aload_n 0, 1) := dk_42 (dk_at dksL_law_4 11 rfl rfl)
theorem dL_law_148 : decode cL_law 148 = .ok (.iload_n 3, 1) := dk_29 (dk_at dksL_law_4 12 rfl rfl)
theorem dL_law_149 : decode cL_law 149 = .ok (.iconst 3, 1) := dk_6 (dk_at dksL_law_4 13 rfl rfl)
theorem dL_law_150 : decode cL_law 150 = .ok (.iadd, 1) := dk_96 (dk_at dksL_law_4 14 rfl rfl)
theorem dL_law_151 : decode cL_law 151 = .ok (.iaload, 1) := dk_46 (dk_at dksL_law_4 15 rfl rfl)
theorem dL_law_152 : decode cL_law 152 = .ok (.aload_n 0, 1) := dk_42 (dk_at dksL_law_4 16 rfl rfl)
theorem dL_law_153 : decode cL_law 153 = .ok (.iload_n 3, 1) := dk_29 (dk_at dksL_law_4 17 rfl rfl)
theorem dL_law_154 : decode cL_law 154 = .ok (.iconst 4, 1) := dk_7 (dk_at dksL_law_4 18 rfl rfl)
theorem dL_law_155 : decode cL_law 155 = .ok (.iadd, 1) := dk_96 (dk_at dksL_law_4 19 rfl rfl)
theorem dL_law_156 : decode cL_law 156 = .ok (.iaload, 1) := dk_46 (dk_at dksL_law_4 20 rfl rfl)
theorem dL_law_157 : decode cL_law 157 = .ok (.invokevirtual 17, 3) := dk_182 0 17 (dk_at dksL_law_4 21 rfl rfl)
theorem dL_law_160 : decode cL_law 160 = .ok (.if_icmp .eq 296, 3) := dk_159 1 40 (dk_at dksL_law_5 0 rfl rfl)
theorem dL_law_163 : decode cL_law 163 = .ok (.iconst 0, 1) := dk_3 (dk_at dksL_law_5 3 rfl rfl)
theorem dL_law_164 : decode cL_law 164 = .ok (.ireturn, 1) := dk_172 (dk_at dksL_law_5 4 rfl rfl)
theorem dL_law_165 : decode cL_law 165 = .ok (.aload_n 1, 1) := dk_43 (dk_at dksL_law_5 5 rfl rfl)
theorem dL_law_166 : decode cL_law 166 = .ok (.aload_n 0, 1) := dk_42 (dk_at dksL_law_5 6 rfl rfl)
theorem dL_law_167 : decode cL_law 167 = .ok (.iload_n 3, 1) := dk_29 (dk_at dksL_law_5 7 rfl rfl)
theorem dL_law_168 : decode cL_law 168 = .ok (.iconst 1, 1) := dk_4 (dk_at dksL_law_5 8 rfl rfl)
theorem dL_law_169 : decode cL_law 169 = .ok (.iadd, 1) := dk_96 (dk_at dksL_law_5 9 rfl rfl)
theorem dL_law_170 : decode cL_law 170 = .ok (.iaload, 1) := dk_46 (dk_at dksL_law_5 10 rfl rfl)
theorem dL_law_171 : decode cL_law 171 = .ok (.invokevirtual 18, 3) := dk_182 0 18 (dk_at dksL_law_5 11 rfl rfl)
theorem dL_law_174 : decode cL_law 174 = .ok (.aload_n 2, 1) := dk_44 (dk_at dksL_law_5 14 rfl rfl)
theorem dL_law_175 : decode cL_law 175 = .ok (.aload_n 0, 1) := dk_42 (dk_at dksL_law_5 15 rfl rfl)
theorem dL_law_176 : decode cL_law 176 = .ok (.iload_n 3, 1) := dk_29 (dk_at dksL_law_5 16 rfl rfl)
theorem dL_law_177 : decode cL_law 177 = .ok (.iconst 1, 1) := dk_4 (dk_at dksL_law_5 17 rfl rfl)
theorem dL_law_178 : decode cL_law 178 = .ok (.iadd, 1) := dk_96 (dk_at dksL_law_5 18 rfl rfl)
theorem dL_law_179 : decode cL_law 179 = .ok (.iaload, 1) := dk_46 (dk_at dksL_law_5 19 rfl rfl)
theorem dL_law_180 : decode cL_law 180 = .ok (.invokevirtual 22, 3) := dk_182 0 22 (dk_at dksL_law_5 20 rfl rfl)
theorem dL_law_183 : decode cL_law 183 = .ok (.goto 273, 3) := dk_167 1 17 (dk_at dksL_law_6 0 rfl rfl)
theorem dL_law_186 : decode cL_law 186 = .ok (.aload_n 1, 1) := dk_43 (dk_at dksL_law_6 3 rfl rfl)
theorem dL_law_187 : decode cL_law 187 = .ok (.aload_n 0, 1) := dk_42 (dk_at dksL_law_6 4 rfl rfl)
theorem dL_law_188 : decode cL_law 188 = .ok (.iload_n 3, 1) := dk_29 (dk_at dksL_law_6 5 rfl rfl)
theorem dL_law_189 : decode cL_law 189 = .ok (.iconst 1, 1) := dk_4 (dk_at dksL_law_6 6 rfl rfl)
theorem dL_law_190 : decode cL_law 190 = .ok (.iadd, 1) := dk_96 (dk_at dksL_law_6 7 rfl rfl)
theorem dL_law_191 : decode cL_law 191 = .ok (.iaload, 1) := dk_46 (dk_at dksL_law_6 8 rfl rfl)
theorem dL_law_192 : decode cL_law 192 = .ok (.invokevirtual 23, 3) := dk_182 0 23 (dk_at dksL_law_6 9 rfl rfl)
theorem dL_law_195 : decode cL_law 195 = .ok (.aload_n 2, 1) := dk_44 (dk_at dksL_law_6 12 rfl rfl)
theorem dL_law_196 : decode cL_law 196 = .ok (.aload_n 0, 1) := dk_42 (dk_at dksL_law_6 13 rfl rfl)
theorem dL_law_197 : decode cL_law 197 = .ok (.iload_n 3, 1) := dk_29 (dk_at dksL_law_6 14 rfl rfl)
theorem dL_law_198 : decode cL_law 198 = .ok (.iconst 1, 1) := dk_4 (dk_at dksL_law_6 15 rfl rfl)
theorem dL_law_199 : decode cL_law 199 = .ok (.iadd, 1) := dk_96 (dk_at dksL_law_6 16 rfl rfl)
theorem dL_law_200 : decode cL_law 200 = .ok (.iaload, 1) := dk_46 (dk_at dksL_law_6 17 rfl rfl)
theorem dL_law_201 : decode cL_law 201 = .ok (.invokevirtual 27, 3) := dk_182 0 27 (dk_at dksL_law_6 18 rfl rfl)
theorem dL_law_204 : decode cL_law 204 = .ok (.if_icmp .eq 252, 3) := dk_159 0 252 (dk_at dksL_law_6 21 rfl rfl)
theorem dL_law_207 : decode cL_law 207 = .ok (.iconst 0, 1) := dk_3 (dk_at dksL_law_7 0 rfl rfl)
theorem dL_law_208 : decode cL_law 208 = .ok (.ireturn, 1) := dk_172 (dk_at dksL_law_7 1 rfl rfl)
theorem dL_law_209 : decode cL_law 209 = .ok (.aload_n 1, 1) := dk_43 (dk_at dksL_law_7 2 rfl rfl)
theorem dL_law_210 : decode cL_law 210 = .ok (.aload_n 0, 1) := dk_42 (dk_at dksL_law_7 3 rfl rfl)
theorem dL_law_211 : decode cL_law 211 = .ok (.iload_n 3, 1) := dk_29 (dk_at dksL_law_7 4 rfl rfl)
theorem dL_law_212 : decode cL_law 212 = .ok (.iconst 1, 1) := dk_4 (dk_at dksL_law_7 5 rfl rfl)
theorem dL_law_213 : decode cL_law 213 = .ok (.iadd, 1) := dk_96 (dk_at dksL_law_7 6 rfl rfl)
theorem dL_law_214 : decode cL_law 214 = .ok (.iaload, 1) := dk_46 (dk_at dksL_law_7 7 rfl rfl)
theorem dL_law_215 : decode cL_law 215 = .ok (.invokevirtual 28, 3) := dk_182 0 28 (dk_at dksL_law_7 8 rfl rfl)
theorem dL_law_218 : decode cL_law 218 = .ok (.aload_n 2, 1) := dk_44 (dk_at dksL_law_7 11 rfl rfl)
theorem dL_law_219 : decode cL_law 219 = .ok (.aload_n 0, 1) := dk_42 (dk_at dksL_law_7 12 rfl rfl)
theorem dL_law_220 : decode cL_law 220 = .ok (.iload_n 3, 1) := dk_29 (dk_at dksL_law_7 13 rfl rfl)
theorem dL_law_221 : decode cL_law 221 = .ok (.iconst 1, 1) := dk_4 (dk_at dksL_law_7 14 rfl rfl)
theorem dL_law_222 : decode cL_law 222 = .ok (.iadd, 1) := dk_96 (dk_at dksL_law_7 15 rfl rfl)
theorem dL_law_223 : decode cL_law 223 = .ok (.iaload, 1) := dk_46 (dk_at dksL_law_7 16 rfl rfl)
theorem dL_law_224 : decode cL_law 224 = .ok (.invokevirtual 31, 3) := dk_182 0 31 (dk_at dksL_law_7 17 rfl rfl)
theorem dL_law_227 : decode cL_law 227 = .ok (.if_icmp .eq 229, 3) := dk_159 0 229 (dk_at dksL_law_7 20 rfl rfl)
theorem dL_law_230 : decode cL_law 230 = .ok (.iconst 0, 1) := dk_3 (dk_at dksL_law_7 23 rfl rfl)
theorem dL_law_231 : decode cL_law 231 = .ok (.ireturn, 1) := dk_172 (dk_at dksL_law_8 0 rfl rfl)
theorem dL_law_232 : decode cL_law 232 = .ok (.aload_n 1, 1) := dk_43 (dk_at dksL_law_8 1 rfl rfl)
theorem dL_law_233 : decode cL_law 233 = .ok (.aload_n 0, 1) := dk_42 (dk_at dksL_law_8 2 rfl rfl)
theorem dL_law_234 : decode cL_law 234 = .ok (.iload_n 3, 1) := dk_29 (dk_at dksL_law_8 3 rfl rfl)
theorem dL_law_235 : decode cL_law 235 = .ok (.iconst 1, 1) := dk_4 (dk_at dksL_law_8 4 rfl rfl)
theorem dL_law_236 : decode cL_law 236 = .ok (.iadd, 1) := dk_96 (dk_at dksL_law_8 5 rfl rfl)
theorem dL_law_237 : decode cL_law 237 = .ok (.iaload, 1) := dk_46 (dk_at dksL_law_8 6 rfl rfl)
theorem dL_law_238 : decode cL_law 238 = .ok (.aload_n 0, 1) := dk_42 (dk_at dksL_law_8 7 rfl rfl)
theorem dL_law_239 : decode cL_law 239 = .ok (.iload_n 3, 1) := dk_29 (dk_at dksL_law_8 8 rfl rfl)
theorem dL_law_240 : decode cL_law 240 = .ok (.iconst 2, 1) := dk_5 (dk_at dksL_law_8 9 rfl rfl)
theorem dL_law_241 : decode cL_law 241 = .ok (.iadd, 1) := dk_96 (dk_at dksL_law_8 10 rfl rfl)
theorem dL_law_242 : decode cL_law 242 = .ok (.iaload, 1) := dk_46 (dk_at dksL_law_8 11 rfl rfl)
theorem dL_law_243 : decode cL_law 243 = .ok (.invokevirtual 32, 3) := dk_182 0 32 (dk_at dksL_law_8 12 rfl rfl)
theorem dL_law_246 : decode cL_law 246 = .ok (.aload_n 2, 1) := dk_44 (dk_at dksL_law_8 15 rfl rfl)
theorem dL_law_247 : decode cL_law 247 = .ok (.aload_n 0, 1) := dk_42 (dk_at dksL_law_8 16 rfl rfl)
theorem dL_law_248 : decode cL_law 248 = .ok (.iload_n 3, 1) := dk_29 (dk_at dksL_law_8 17 rfl rfl)
theorem dL_law_249 : decode cL_law 249 = .ok (.iconst 1, 1) := dk_4 (dk_at dksL_law_8 18 rfl rfl)
theorem dL_law_250 : decode cL_law 250 = .ok (.iadd, 1) := dk_96 (dk_at dksL_law_8 19 rfl rfl)
theorem dL_law_251 : decode cL_law 251 = .ok (.iaload, 1) := dk_46 (dk_at dksL_law_8 20 rfl rfl)
theorem dL_law_252 : decode cL_law 252 = .ok (.aload_n 0, 1) := dk_42 (dk_at dksL_law_8 21 rfl rfl)
theorem dL_law_253 : decode cL_law 253 = .ok (.iload_n 3, 1) := dk_29 (dk_at dksL_law_8 22 rfl rfl)
theorem dL_law_254 : decode cL_law 254 = .ok (.iconst 2, 1) := dk_5 (dk_at dksL_law_8 23 rfl rfl)
theorem dL_law_255 : decode cL_law 255 = .ok (.iadd, 1) := dk_96 (dk_at dksL_law_9 0 rfl rfl)
theorem dL_law_256 : decode cL_law 256 = .ok (.iaload, 1) := dk_46 (dk_at dksL_law_9 1 rfl rfl)
theorem dL_law_257 : decode cL_law 257 = .ok (.invokevirtual 36, 3) := dk_182 0 36 (dk_at dksL_law_9 2 rfl rfl)
theorem dL_law_260 : decode cL_law 260 = .ok (.if_icmp .eq 196, 3) := dk_159 0 196 (dk_at dksL_law_9 5 rfl rfl)
theorem dL_law_263 : decode cL_law 263 = .ok (.iconst 0, 1) := dk_3 (dk_at dksL_law_9 8 rfl rfl)
theorem dL_law_264 : decode cL_law 264 = .ok (.ireturn, 1) := dk_172 (dk_at dksL_law_9 9 rfl rfl)
theorem dL_law_265 : decode cL_law 265 = .ok (.aload_n 1, 1) := dk_43 (dk_at dksL_law_9 10 rfl rfl)
theorem dL_law_266 : decode cL_law 266 = .ok (.aload_n 0, 1) := dk_42 (dk_at dksL_law_9 11 rfl rfl)
theorem dL_law_267 : decode cL_law 267 = .ok (.iload_n 3, 1) := dk_29 (dk_at dksL_law_9 12 rfl rfl)
theorem dL_law_268 : decode cL_law 268 = .ok (.iconst 1, 1) := dk_4 (dk_at dksL_law_9 13 rfl rfl)
theorem dL_law_269 : decode cL_law 269 = .ok (.iadd, 1) := dk_96 (dk_at dksL_law_9 14 rfl rfl)
theorem dL_law_270 : decode cL_law 270 = .ok (.iaload, 1) := dk_46 (dk_at dksL_law_9 15 rfl rfl)
theorem dL_law_271 : decode cL_law 271 = .ok (.aload_n 0, 1) := dk_42 (dk_at dksL_law_9 16 rfl rfl)
theorem dL_law_272 : decode cL_law 272 = .ok (.iload_n 3, 1) := dk_29 (dk_at dksL_law_9 17 rfl rfl)
theorem dL_law_273 : decode cL_law 273 = .ok (.iconst 2, 1) := dk_5 (dk_at dksL_law_9 18 rfl rfl)
theorem dL_law_274 : decode cL_law 274 = .ok (.iadd, 1) := dk_96 (dk_at dksL_law_9 19 rfl rfl)
theorem dL_law_275 : decode cL_law 275 = .ok (.iaload, 1) := dk_46 (dk_at dksL_law_9 20 rfl rfl)
theorem dL_law_276 : decode cL_law 276 = .ok (.invokevirtual 37, 3) := dk_182 0 37 (dk_at dksL_law_9 21 rfl rfl)
theorem dL_law_279 : decode cL_law 279 = .ok (.aload_n 2, 1) := dk_44 (dk_at dksL_law_10 0 rfl rfl)
theorem dL_law_280 : decode cL_law 280 = .ok (.aload_n 0, 1) := dk_42 (dk_at dksL_law_10 1 rfl rfl)
theorem dL_law_281 : decode cL_law 281 = .ok (.iload_n 3, 1) := dk_29 (dk_at dksL_law_10 2 rfl rfl)
theorem dL_law_282 : decode cL_law 282 = .ok (.iconst 1, 1) := dk_4 (dk_at dksL_law_10 3 rfl rfl)
theorem dL_law_283 : decode cL_law 283 = .ok (.iadd, 1) := dk_96 (dk_at dksL_law_10 4 rfl rfl)
theorem dL_law_284 : decode cL_law 284 = .ok (.iaload, 1) := dk_46 (dk_at dksL_law_10 5 rfl rfl)
theorem dL_law_285 : decode cL_law 285 = .ok (.aload_n 0, 1) := dk_42 (dk_at dksL_law_10 6 rfl rfl)
theorem dL_law_286 : decode cL_law 286 = .ok (.iload_n 3, 1) := dk_29 (dk_at dksL_law_10 7 rfl rfl)
theorem dL_law_287 : decode cL_law 287 = .ok (.iconst 2, 1) := dk_5 (dk_at dksL_law_10 8 rfl rfl)
theorem dL_law_288 : decode cL_law 288 = .ok (.iadd, 1) := dk_96 (dk_at dksL_law_10 9 rfl rfl)
theorem dL_law_289 : decode cL_law 289 = .ok (.iaload, 1) := dk_46 (dk_at dksL_law_10 10 rfl rfl)
theorem dL_law_290 : decode cL_law 290 = .ok (.invokevirtual 40, 3) := dk_182 0 40 (dk_at dksL_law_10 11 rfl rfl)
theorem dL_law_293 : decode cL_law 293 = .ok (.if_icmp .eq 163, 3) := dk_159 0 163 (dk_at dksL_law_10 14 rfl rfl)
theorem dL_law_296 : decode cL_law 296 = .ok (.iconst 0, 1) := dk_3 (dk_at dksL_law_10 17 rfl rfl)
theorem dL_law_297 : decode cL_law 297 = .ok (.ireturn, 1) := dk_172 (dk_at dksL_law_10 18 rfl rfl)
theorem dL_law_298 : decode cL_law 298 = .ok (.aload_n 1, 1) := dk_43 (dk_at dksL_law_10 19 rfl rfl)
theorem dL_law_299 : decode cL_law 299 = .ok (.aload_n 0, 1) := dk_42 (dk_at dksL_law_10 20 rfl rfl)
theorem dL_law_300 : decode cL_law 300 = .ok (.iload_n 3, 1) := dk_29 (dk_at dksL_law_10 21 rfl rfl)
theorem dL_law_301 : decode cL_law 301 = .ok (.iconst 1, 1) := dk_4 (dk_at dksL_law_10 22 rfl rfl)
theorem dL_law_302 : decode cL_law 302 = .ok (.iadd, 1) := dk_96 (dk_at dksL_law_10 23 rfl rfl)
theorem dL_law_303 : decode cL_law 303 = .ok (.iaload, 1) := dk_46 (dk_at dksL_law_11 0 rfl rfl)
theorem dL_law_304 : decode cL_law 304 = .ok (.aload_n 0, 1) := dk_42 (dk_at dksL_law_11 1 rfl rfl)
theorem dL_law_305 : decode cL_law 305 = .ok (.iload_n 3, 1) := dk_29 (dk_at dksL_law_11 2 rfl rfl)
theorem dL_law_306 : decode cL_law 306 = .ok (.iconst 2, 1) := dk_5 (dk_at dksL_law_11 3 rfl rfl)
theorem dL_law_307 : decode cL_law 307 = .ok (.iadd, 1) := dk_96 (dk_at dksL_law_11 4 rfl rfl)
theorem dL_law_308 : decode cL_law 308 = .ok (.iaload, 1) := dk_46 (dk_at dksL_law_11 5 rfl rfl)
theorem dL_law_309 : decode cL_law 309 = .ok (.invokevirtual 41, 3) := dk_182 0 41 (dk_at dksL_law_11 6 rfl rfl)
theorem dL_law_312 : decode cL_law 312 = .ok (.aload_n 2, 1) := dk_44 (dk_at dksL_law_11 9 rfl rfl)
theorem dL_law_313 : decode cL_law 313 = .ok (.aload_n 0, 1) := dk_42 (dk_at dksL_law_11 10 rfl rfl)
theorem dL_law_314 : decode cL_law 314 = .ok (.iload_n 3, 1) := dk_29 (dk_at dksL_law_11 11 rfl rfl)
theorem dL_law_315 : decode cL_law 315 = .ok (.iconst 1, 1) := dk_4 (dk_at dksL_law_11 12 rfl rfl)
theorem dL_law_316 : decode cL_law 316 = .ok (.iadd, 1) := dk_96 (dk_at dksL_law_11 13 rfl rfl)
theorem dL_law_317 : decode cL_law 317 = .ok (.iaload, 1) := dk_46 (dk_at dksL_law_11 14 rfl rfl)
theorem dL_law_318 : decode cL_law 318 = .ok (.aload_n 0, 1) := dk_42 (dk_at dksL_law_11 15 rfl rfl)
theorem dL_law_319 : decode cL_law 319 = .ok (.iload_n 3, 1) := dk_29 (dk_at dksL_law_11 16 rfl rfl)
theorem dL_law_320 : decode cL_law 320 = .ok (.iconst 2, 1) := dk_5 (dk_at dksL_law_11 17 rfl rfl)
theorem dL_law_321 : decode cL_law 321 = .ok (.iadd, 1) := dk_96 (dk_at dksL_law_11 18 rfl rfl)
theorem dL_law_322 : decode cL_law 322 = .ok (.iaload, 1) := dk_46 (dk_at dksL_law_11 19 rfl rfl)
theorem dL_law_323 : decode cL_law 323 = .ok (.invokevirtual 44, 3) := dk_182 0 44 (dk_at dksL_law_11 20 rfl rfl)
theorem dL_law_326 : decode cL_law 326 = .ok (.if_icmp .eq 130, 3) := dk_159 0 130 (dk_at dksL_law_12 0 rfl rfl)
theorem dL_law_329 : decode cL_law 329 = .ok (.iconst 0, 1) := dk_3 (dk_at dksL_law_12 3 rfl rfl)
theorem dL_law_330 : decode cL_law 330 = .ok (.ireturn, 1) := dk_172 (dk_at dksL_law_12 4 rfl rfl)
theorem dL_law_331 : decode cL_law 331 = .ok (.aload_n 1, 1) := dk_43 (dk_at dksL_law_12 5 rfl rfl)
theorem dL_law_332 : decode cL_law 332 = .ok (.invokevirtual 45, 3) := dk_182 0 45 (dk_at dksL_law_12 6 rfl rfl)
theorem dL_law_335 : decode cL_law 335 = .ok (.aload_n 2, 1) := dk_44 (dk_at dksL_law_12 9 rfl rfl)
theorem dL_law_336 : decode cL_law 336 = .ok (.invokevirtual 49, 3) := dk_182 0 49 (dk_at dksL_law_12 10 rfl rfl)
theorem dL_law_339 : decode cL_law 339 = .ok (.if_icmp .eq 117, 3) := dk_159 0 117 (dk_at dksL_law_12 13 rfl rfl)
theorem dL_law_342 : decode cL_law 342 = .ok (.iconst 0, 1) := dk_3 (dk_at dksL_law_12 16 rfl rfl)
theorem dL_law_343 : decode cL_law 343 = .ok (.ireturn, 1) := dk_172 (dk_at dksL_law_12 17 rfl rfl)
theorem dL_law_344 : decode cL_law 344 = .ok (.aload_n 1, 1) := dk_43 (dk_at dksL_law_12 18 rfl rfl)
theorem dL_law_345 : decode cL_law 345 = .ok (.invokevirtual 50, 3) := dk_182 0 50 (dk_at dksL_law_12 19 rfl rfl)
theorem dL_law_348 : decode cL_law 348 = .ok (.aload_n 2, 1) := dk_44 (dk_at dksL_law_12 22 rfl rfl)
theorem dL_law_349 : decode cL_law 349 = .ok (.invokevirtual 53, 3) := dk_182 0 53 (dk_at dksL_law_13 0 rfl rfl)
theorem dL_law_352 : decode cL_law 352 = .ok (.if_icmp .eq 104, 3) := dk_159 0 104 (dk_at dksL_law_13 3 rfl rfl)
theorem dL_law_355 : decode cL_law 355 = .ok (.iconst 0, 1) := dk_3 (dk_at dksL_law_13 6 rfl rfl)
theorem dL_law_356 : decode cL_law 356 = .ok (.ireturn, 1) := dk_172 (dk_at dksL_law_13 7 rfl rfl)
theorem dL_law_357 : decode cL_law 357 = .ok (.aload_n 1, 1) := dk_43 (dk_at dksL_law_13 8 rfl rfl)
theorem dL_law_358 : decode cL_law 358 = .ok (.invokevirtual 54, 3) := dk_182 0 54 (dk_at dksL_law_13 9 rfl rfl)
theorem dL_law_361 : decode cL_law 361 = .ok (.aload_n 2, 1) := dk_44 (dk_at dksL_law_13 12 rfl rfl)
theorem dL_law_362 : decode cL_law 362 = .ok (.invokevirtual 57, 3) := dk_182 0 57 (dk_at dksL_law_13 13 rfl rfl)
theorem dL_law_365 : decode cL_law 365 = .ok (.if_icmp .eq 91, 3) := dk_159 0 91 (dk_at dksL_law_13 16 rfl rfl)
theorem dL_law_368 : decode cL_law 368 = .ok (.iconst 0, 1) := dk_3 (dk_at dksL_law_13 19 rfl rfl)
theorem dL_law_369 : decode cL_law 369 = .ok (.ireturn, 1) := dk_172 (dk_at dksL_law_13 20 rfl rfl)
theorem dL_law_370 : decode cL_law 370 = .ok (.aload_n 1, 1) := dk_43 (dk_at dksL_law_13 21 rfl rfl)
theorem dL_law_371 : decode cL_law 371 = .ok (.invokevirtual 58, 3) := dk_182 0 58 (dk_at dksL_law_14 0 rfl rfl)
theorem dL_law_374 : decode cL_law 374 = .ok (.aload_n 2, 1) := dk_44 (dk_at dksL_law_14 3 rfl rfl)
theorem dL_law_375 : decode cL_law 375 = .ok (.invokevirtual 62, 3) := dk_182 0 62 (dk_at dksL_law_14 4 rfl rfl)
theorem dL_law_378 : decode cL_law 378 = .ok (.lcmp, 1) := dk_148 (dk_at dksL_law_14 7 rfl rfl)
theorem dL_law_379 : decode cL_law 379 = .ok (.ifCond .eq 77, 3) := dk_153 0 77 (dk_at dksL_law_14 8 rfl rfl)
theorem dL_law_382 : decode cL_law 382 = .ok (.iconst 0, 1) := dk_3 (dk_at dksL_law_14 11 rfl rfl)
theorem dL_law_383 : decode cL_law 383 = .ok (.ireturn, 1) := dk_172 (dk_at dksL_law_14 12 rfl rfl)
theorem dL_law_384 : decode cL_law 384 = .ok (.aload_n 1, 1) := dk_43 (dk_at dksL_law_14 13 rfl rfl)
theorem dL_law_385 : decode cL_law 385 = .ok (.invokevirtual 63, 3) := dk_182 0 63 (dk_at dksL_law_14 14 rfl rfl)
theorem dL_law_388 : decode cL_law 388 = .ok (.aload_n 2, 1) := dk_44 (dk_at dksL_law_14 17 rfl rfl)
theorem dL_law_389 : decode cL_law 389 = .ok (.invokevirtual 66, 3) := dk_182 0 66 (dk_at dksL_law_14 18 rfl rfl)
theorem dL_law_392 : decode cL_law 392 = .ok (.lcmp, 1) := dk_148 (dk_at dksL_law_14 21 rfl rfl)
theorem dL_law_393 : decode cL_law 393 = .ok (.ifCond .eq 63, 3) := dk_153 0 63 (dk_at dksL_law_15 0 rfl rfl)
theorem dL_law_396 : decode cL_law 396 = .ok (.iconst 0, 1) := dk_3 (dk_at dksL_law_15 3 rfl rfl)
theorem dL_law_397 : decode cL_law 397 = .ok (.ireturn, 1) := dk_172 (dk_at dksL_law_15 4 rfl rfl)
theorem dL_law_398 : decode cL_law 398 = .ok (.aload_n 1, 1) := dk_43 (dk_at dksL_law_15 5 rfl rfl)
theorem dL_law_399 : decode cL_law 399 = .ok (.invokevirtual 67, 3) := dk_182 0 67 (dk_at dksL_law_15 6 rfl rfl)
theorem dL_law_402 : decode cL_law 402 = .ok (.aload_n 2, 1) := dk_44 (dk_at dksL_law_15 9 rfl rfl)
theorem dL_law_403 : decode cL_law 403 = .ok (.invokevirtual 70, 3) := dk_182 0 70 (dk_at dksL_law_15 10 rfl rfl)
theorem dL_law_406 : decode cL_law 406 = .ok (.if_icmp .eq 50, 3) := dk_159 0 50 (dk_at dksL_law_15 13 rfl rfl)
theorem dL_law_409 : decode cL_law 409 = .ok (.iconst 0, 1) := dk_3 (dk_at dksL_law_15 16 rfl rfl)
theorem dL_law_410 : decode cL_law 410 = .ok (.ireturn, 1) := dk_172 (dk_at dksL_law_15 17 rfl rfl)
theorem dL_law_411 : decode cL_law 411 = .ok (.aload_n 1, 1) := dk_43 (dk_at dksL_law_15 18 rfl rfl)
theorem dL_law_412 : decode cL_law 412 = .ok (.aload_n 0, 1) := dk_42 (dk_at dksL_law_15 19 rfl rfl)
theorem dL_law_413 : decode cL_law 413 = .ok (.iload_n 3, 1) := dk_29 (dk_at dksL_law_15 20 rfl rfl)
theorem dL_law_414 : decode cL_law 414 = .ok (.iconst 1, 1) := dk_4 (dk_at dksL_law_15 21 rfl rfl)
theorem dL_law_415 : decode cL_law 415 = .ok (.iadd, 1) := dk_96 (dk_at dksL_law_15 22 rfl rfl)
theorem dL_law_416 : decode cL_law 416 = .ok (.iaload, 1) := dk_46 (dk_at dksL_law_15 23 rfl rfl)
theorem dL_law_417 : decode cL_law 417 = .ok (.invokevirtual 71, 3) := dk_182 0 71 (dk_at dksL_law_16 0 rfl rfl)
theorem dL_law_420 : decode cL_law 420 = .ok (.aload_n 2, 1) := dk_44 (dk_at dksL_law_16 3 rfl rfl)
theorem dL_law_421 : decode cL_law 421 = .ok (.aload_n 0, 1) := dk_42 (dk_at dksL_law_16 4 rfl rfl)
theorem dL_law_422 : decode cL_law 422 = .ok (.iload_n 3, 1) := dk_29 (dk_at dksL_law_16 5 rfl rfl)
theorem dL_law_423 : decode cL_law 423 = .ok (.iconst 1, 1) := dk_4 (dk_at dksL_law_16 6 rfl rfl)
theorem dL_law_424 : decode cL_law 424 = .ok (.iadd, 1) := dk_96 (dk_at dksL_law_16 7 rfl rfl)
theorem dL_law_425 : decode cL_law 425 = .ok (.iaload, 1) := dk_46 (dk_at dksL_law_16 8 rfl rfl)
theorem dL_law_426 : decode cL_law 426 = .ok (.invokevirtual 75, 3) := dk_182 0 75 (dk_at dksL_law_16 9 rfl rfl)
theorem dL_law_429 : decode cL_law 429 = .ok (.if_icmp .eq 27, 3) := dk_159 0 27 (dk_at dksL_law_16 12 rfl rfl)
theorem dL_law_432 : decode cL_law 432 = .ok (.iconst 0, 1) := dk_3 (dk_at dksL_law_16 15 rfl rfl)
theorem dL_law_433 : decode cL_law 433 = .ok (.ireturn, 1) := dk_172 (dk_at dksL_law_16 16 rfl rfl)
theorem dL_law_434 : decode cL_law 434 = .ok (.aload_n 1, 1) := dk_43 (dk_at dksL_law_16 17 rfl rfl)
theorem dL_law_435 : decode cL_law 435 = .ok (.invokevirtual 76, 3) := dk_182 0 76 (dk_at dksL_law_16 18 rfl rfl)
theorem dL_law_438 : decode cL_law 438 = .ok (.aload_n 2, 1) := dk_44 (dk_at dksL_law_16 21 rfl rfl)
theorem dL_law_439 : decode cL_law 439 = .ok (.invokevirtual 79, 3) := dk_182 0 79 (dk_at dksL_law_17 0 rfl rfl)
theorem dL_law_442 : decode cL_law 442 = .ok (.goto 14, 3) := dk_167 0 14 (dk_at dksL_law_17 3 rfl rfl)
theorem dL_law_445 : decode cL_law 445 = .ok (.aload_n 1, 1) := dk_43 (dk_at dksL_law_17 6 rfl rfl)
theorem dL_law_446 : decode cL_law 446 = .ok (.invokevirtual 80, 3) := dk_182 0 80 (dk_at dksL_law_17 7 rfl rfl)
theorem dL_law_449 : decode cL_law 449 = .ok (.aload_n 2, 1) := dk_44 (dk_at dksL_law_17 10 rfl rfl)
theorem dL_law_450 : decode cL_law 450 = .ok (.invokevirtual 83, 3) := dk_182 0 83 (dk_at dksL_law_17 11 rfl rfl)
theorem dL_law_453 : decode cL_law 453 = .ok (.goto 3, 3) := dk_167 0 3 (dk_at dksL_law_17 14 rfl rfl)
theorem dL_law_456 : decode cL_law 456 = .ok (.iinc 3 6, 3) := dk_132 3 6 (dk_at dksL_law_17 17 rfl rfl)
theorem dL_law_459 : decode cL_law 459 = .ok (.goto (-441), 3) := dk_167 254 71 (dk_at dksL_law_17 20 rfl rfl)
theorem dL_law_462 : decode cL_law 462 = .ok (.iconst 1, 1) := dk_4 (dk_at dksL_law_17 23 rfl rfl)
theorem dL_law_463 : decode cL_law 463 = .ok (.ireturn, 1) := dk_172 (dk_at dksL_law_18 0 rfl rfl)
theorem q11 : (Jvm.Cond.initialized "WireBufferDeskLaw") ∈ lw_all := lw_g (lw_at lw_m1 0 rfl) rfl
set_option maxRecDepth 100000
theorem q16 : (Jvm.Cond.classLink "WireBufferDeskLaw" (7 : Nat) "WireBufferDesk") ∈ lw_all := lw_g (lw_at lw_m1 5 rfl) rfl
theorem q18 : (Jvm.Cond.methodLink "WireBufferDeskLaw" (9 : Nat) ({ cls := "WireBufferDesk", name := "<init>", desc := "()V" } : Jvm.MethodName)) ∈ lw_all := lw_g (lw_at lw_m1 7 rfl) rfl
theorem q59 : (Jvm.Cond.methodLink "WireBufferDeskLaw" (13 : Nat) ({ cls := "WireBufferDesk", name := "put", desc := "(IIII)Z" } : Jvm.MethodName)) ∈ lw_all := lw_g (lw_at lw_m1 48 rfl) rfl
theorem q66 : (Jvm.Cond.methodLink "WireBufferDeskLaw" (18 : Nat) ({ cls := "WireBufferDesk", name := "trim", desc := "(I)V" } : Jvm.MethodName)) ∈ lw_all := lw_g (lw_at lw_m1 55 rfl) rfl
theorem q75 : (Jvm.Cond.methodLink "WireBufferDeskLaw" (23 : Nat) ({ cls := "WireBufferDesk", name := "byteIn", desc := "(I)Z" } : Jvm.MethodName)) ∈ lw_all := lw_g (lw_at lw_m1 64 rfl) rfl
theorem q83 : (Jvm.Cond.methodLink "WireBufferDeskLaw" (28 : Nat) ({ cls := "WireBufferDesk", name := "intIn", desc := "(I)Z" } : Jvm.MethodName)) ∈ lw_all := lw_g (lw_at lw_m1 72 rfl) rfl
theorem q94 : (Jvm.Cond.methodLink "WireBufferDeskLaw" (32 : Nat) ({ cls := "WireBufferDesk", name := "longIn", desc := "(II)Z" } : Jvm.MethodName)) ∈ lw_all := lw_g (lw_at lw_m1 83 rfl) rfl
theorem q103 : (Jvm.Cond.methodLink "WireBufferDeskLaw" (37 : Nat) ({ cls := "WireBufferDesk", name := "stringIn", desc := "(II)Z" } : Jvm.MethodName)) ∈ lw_all := lw_g (lw_at lw_m1 92 rfl) rfl
theorem q128 : (Jvm.Cond.methodLink "WireBufferDeskLaw" (41 : Nat) ({ cls := "WireBufferDesk", name := "numberIn", desc := "(II)Z" } : Jvm.MethodName)) ∈ lw_all := lw_g (lw_at lw_m1 117 rfl) rfl
theorem q141 : (Jvm.Cond.methodLink "WireBufferDeskLaw" (45 : Nat) ({ cls := "WireBufferDesk", name := "left", desc := "()I" } : Jvm.MethodName)) ∈ lw_all := lw_g (lw_at lw_m1 130 rfl) rfl
theorem q149 : (Jvm.Cond.methodLink "WireBufferDeskLaw" (50 : Nat) ({ cls := "WireBufferDesk", name := "byteOut", desc := "()I" } : Jvm.MethodName)) ∈ lw_all := lw_g (lw_at lw_m1 138 rfl) rfl
theorem q157 : (Jvm.Cond.methodLink "WireBufferDeskLaw" (54 : Nat) ({ cls := "WireBufferDesk", name := "shortOut", desc := "()I" } : Jvm.MethodName)) ∈ lw_all := lw_g (lw_at lw_m1 146 rfl) rfl
theorem q168 : (Jvm.Cond.methodLink "WireBufferDeskLaw" (58 : Nat) ({ cls := "WireBufferDesk", name := "intOut", desc := "()J" } : Jvm.MethodName)) ∈ lw_all := lw_g (lw_at lw_m1 157 rfl) rfl
theorem q180 : (Jvm.Cond.methodLink "WireBufferDeskLaw" (63 : Nat) ({ cls := "WireBufferDesk", name := "longOut", desc := "()J" } : Jvm.MethodName)) ∈ lw_all := lw_g (lw_at lw_m1 169 rfl) rfl
theorem q196 : (Jvm.Cond.methodLink "WireBufferDeskLaw" (67 : Nat) ({ cls := "WireBufferDesk", name := "stringOut", desc := "()I" } : Jvm.MethodName)) ∈ lw_all := lw_g (lw_at lw_m1 185 rfl) rfl
theorem q217 : (Jvm.Cond.methodLink "WireBufferDeskLaw" (71 : Nat) ({ cls := "WireBufferDesk", name := "read", desc := "(I)I" } : Jvm.MethodName)) ∈ lw_all := lw_g (lw_at lw_m1 206 rfl) rfl
theorem q221 : (Jvm.Cond.methodLink "WireBufferDeskLaw" (76 : Nat) ({ cls := "WireBufferDesk", name := "back", desc := "()V" } : Jvm.MethodName)) ∈ lw_all := lw_g (lw_at lw_m1 210 rfl) rfl
theorem q229 : (Jvm.Cond.methodLink "WireBufferDeskLaw" (80 : Nat) ({ cls := "WireBufferDesk", name := "anew", desc := "()V" } : Jvm.MethodName)) ∈ lw_all := lw_g (lw_at lw_m1 218 rfl) rfl
theorem q233 : (Jvm.Cond.classLink "WireBufferDeskLaw" (10 : Nat) "WireBufferDeskModel") ∈ lw_all := lw_g (lw_at lw_m1 222 rfl) rfl
theorem q235 : (Jvm.Cond.methodLink "WireBufferDeskLaw" (12 : Nat) ({ cls := "WireBufferDeskModel", name := "<init>", desc := "()V" } : Jvm.MethodName)) ∈ lw_all := lw_g (lw_at lw_m1 224 rfl) rfl
theorem q259 : (Jvm.Cond.methodLink "WireBufferDeskLaw" (17 : Nat) ({ cls := "WireBufferDeskModel", name := "put", desc := "(IIII)Z" } : Jvm.MethodName)) ∈ lw_all := lw_g (lw_at lw_m2 8 rfl) rfl
theorem q263 : (Jvm.Cond.methodLink "WireBufferDeskLaw" (22 : Nat) ({ cls := "WireBufferDeskModel", name := "trim", desc := "(I)V" } : Jvm.MethodName)) ∈ lw_all := lw_g (lw_at lw_m2 12 rfl) rfl
theorem q272 : (Jvm.Cond.methodLink "WireBufferDeskLaw" (27 : Nat) ({ cls := "WireBufferDeskModel", name := "byteIn", desc := "(I)Z" } : Jvm.MethodName)) ∈ lw_all := lw_g (lw_at lw_m2 21 rfl) rfl
theorem q285 : (Jvm.Cond.methodLink "WireBufferDeskLaw" (31 : Nat) ({ cls := "WireBufferDeskModel", name := "intIn", desc := "(I)Z" } : Jvm.MethodName)) ∈ lw_all := lw_g (lw_at lw_m2 34 rfl) rfl
theorem q289 : (Jvm.Cond.methodLink "WireBufferDeskLaw" (36 : Nat) ({ cls := "WireBufferDeskModel", name := "longIn", desc := "(II)Z" } : Jvm.MethodName)) ∈ lw_all := lw_g (lw_at lw_m2 38 rfl) rfl
theorem q293 : (Jvm.Cond.methodLink "WireBufferDeskLaw" (40 : Nat) ({ cls := "WireBufferDeskModel", name := "stringIn", desc := "(II)Z" } : Jvm.MethodName)) ∈ lw_all := lw_g (lw_at lw_m2 42 rfl) rfl
theorem q305 : (Jvm.Cond.methodLink "WireBufferDeskLaw" (44 : Nat) ({ cls := "WireBufferDeskModel", name := "numberIn", desc := "(II)Z" } : Jvm.MethodName)) ∈ lw_all := lw_g (lw_at lw_m2 54 rfl) rfl
theorem q309 : (Jvm.Cond.methodLink "WireBufferDeskLaw" (49 : Nat) ({ cls := "WireBufferDeskModel", name := "left", desc := "()I" } : Jvm.MethodName)) ∈ lw_all := lw_g (lw_at lw_m2 58 rfl) rfl
theorem q313 : (Jvm.Cond.methodLink "WireBufferDeskLaw" (53 : Nat) ({ cls := "WireBufferDeskModel", name := "byteOut", desc := "()I" } : Jvm.MethodName)) ∈ lw_all := lw_g (lw_at lw_m2 62 rfl) rfl
theorem q327 : (Jvm.Cond.methodLink "WireBufferDeskLaw" (57 : Nat) ({ cls := "WireBufferDeskModel", name := "shortOut", desc := "()I" } : Jvm.MethodName)) ∈ lw_all := lw_g (lw_at lw_m2 76 rfl) rfl
theorem q331 : (Jvm.Cond.methodLink "WireBufferDeskLaw" (62 : Nat) ({ cls := "WireBufferDeskModel", name := "intOut", desc := "()J" } : Jvm.MethodName)) ∈ lw_all := lw_g (lw_at lw_m2 80 rfl) rfl
theorem q335 : (Jvm.Cond.methodLink "WireBufferDeskLaw" (66 : Nat) ({ cls := "WireBufferDeskModel", name := "longOut", desc := "()J" } : Jvm.MethodName)) ∈ lw_all := lw_g (lw_at lw_m2 84 rfl) rfl
theorem q339 : (Jvm.Cond.methodLink "WireBufferDeskLaw" (70 : Nat) ({ cls := "WireBufferDeskModel", name := "stringOut", desc := "()I" } : Jvm.MethodName)) ∈ lw_all := lw_g (lw_at lw_m2 88 rfl) rfl
theorem q343 : (Jvm.Cond.methodLink "WireBufferDeskLaw" (75 : Nat) ({ cls := "WireBufferDeskModel", name := "read", desc := "(I)I" } : Jvm.MethodName)) ∈ lw_all := lw_g (lw_at lw_m2 92 rfl) rfl
theorem q347 : (Jvm.Cond.methodLink "WireBufferDeskLaw" (79 : Nat) ({ cls := "WireBufferDeskModel", name := "back", desc := "()V" } : Jvm.MethodName)) ∈ lw_all := lw_g (lw_at lw_m2 96 rfl) rfl
theorem q351 : (Jvm.Cond.methodLink "WireBufferDeskLaw" (83 : Nat) ({ cls := "WireBufferDeskModel", name := "anew", desc := "()V" } : Jvm.MethodName)) ∈ lw_all := lw_g (lw_at lw_m2 100 rfl) rfl
theorem q15 : (Jvm.Cond.initialized "java/lang/System") ∈ lw_all := lw_g (lw_at lw_m1 4 rfl) rfl
set_option maxRecDepth 100000
theorem q92 : (Jvm.Cond.static ({ cls := "java/lang/System", name := "arraycopy", desc := "(Ljava/lang/Object;ILjava/lang/Object;II)V" } : Jvm.MethodName)) ∈ lw_all := lw_g (lw_at lw_m1 81 rfl) rfl
theorem q93 : (Jvm.Cond.native ({ cls := "java/lang/System", name := "arraycopy", desc := "(Ljava/lang/Object;ILjava/lang/Object;II)V" } : Jvm.MethodName)) ∈ lw_all := lw_g (lw_at lw_m1 82 rfl) rfl
theorem q45 : (Jvm.Cond.arrayClass Jvm.ClassFile.FieldType.byte) ∈ lw_all := lw_g (lw_at lw_m1 34 rfl) rfl
set_option maxRecDepth 100000
theorem q258 : (Jvm.Cond.arrayClass Jvm.ClassFile.FieldType.int) ∈ lw_all := lw_g (lw_at lw_m2 7 rfl) rfl
end
section
/-! ===== lN n to 2^64: shifts, and, or, masks, one bit ===== -/
theorem wb_tb (n : Nat) : (lN n).toBitVec = BitVec.ofNat 64 n := rfl
theorem wb_inj {a b : Int64} (h : a.toBitVec = b.toBitVec) : a = b := Int64.toBitVec_inj.mp h
theorem wb_tn {n : Nat} (h : n < 2 ^ 64) : (lN n).toBitVec.toNat = n := by rw [wb_tb, BitVec.toNat_ofNat, Nat.mod_eq_of_lt h]
theorem wb_of (x : Int64) : ∃ n, n < 2 ^ 64 ∧ x = lN n := ⟨x.toBitVec.toNat, x.toBitVec.isLt, wb_inj (by rw [wb_tb]; simp)⟩
theorem wb_of32 (x : Int32) : ∃ n, n < 2 ^ 32 ∧ x = nI n := ⟨x.toBitVec.toNat, x.toBitVec.isLt, Int32.toBitVec_inj.mp (by show _ = BitVec.ofNat 32 _; simp)⟩
theorem wb_c : ∀ k, k < 64 → ((nI k).toInt64 &&& 63) = lN k := by decide +kernel
theorem wb_cu : ∀ k, k < 64 → ((nI k).toInt64.toUInt64 &&& Int64.toUInt64 63) = UInt64.ofNat k := by decide +kernel
theorem wb_sm : ∀ k, k < 64 → (BitVec.ofNat 64 k).smod 64 = BitVec.ofNat 64 k := by decide +kernel
theorem wb_pw {a b : Nat} (h : a ≤ b) : 2 ^ b = 2 ^ a * 2 ^ (b - a) := by rw [← Nat.pow_add]; congr 1; omega
theorem wb_lt2 {a b : Nat} (h : a < b) : 2 ^ a < 2 ^ b := Nat.pow_lt_pow_right (by decide) h
theorem wb_mod (n : Nat) : lN n = lN (n % 2 ^ 64) := wb_inj (by rw [wb_tb, wb_tb]; apply BitVec.eq_of_toNat_eq; rw [BitVec.toNat_ofNat, BitVec.toNat_ofNat, Nat.mod_mod])
theorem wb_shr {n k : Nat} (hn : n < 2 ^ 64) (hk : k < 64) : ((lN n).toUInt64 >>> ((nI k).toInt64.toUInt64 &&& Int64.toUInt64 63)).toInt64 = lN (n / 2 ^ k) := by
  rw [wb_cu k hk]
  apply wb_inj
  apply BitVec.eq_of_toNat_eq
  show ((lN n).toUInt64 >>> UInt64.ofNat k).toNat = (BitVec.ofNat 64 _).toNat
  have h1 : (UInt64.ofNat k).toNat = k := by
    show (BitVec.ofNat 64 k).toNat = k
    rw [BitVec.toNat_ofNat, Nat.mod_eq_of_lt (by omega)]
  have h2 : (lN n).toUInt64.toNat = n := wb_tn hn
  rw [UInt64.toNat_shiftRight, h1, h2, Nat.mod_eq_of_lt hk, Nat.shiftRight_eq_div_pow, BitVec.toNat_ofNat, Nat.mod_eq_of_lt (Nat.lt_of_le_of_lt (Nat.div_le_self _ _) hn)]
theorem wb_shl (n : Nat) {k : Nat} (hk : k < 64) : lN n <<< ((nI k).toInt64 &&& 63) = lN (n * 2 ^ k) := by
  rw [wb_c k hk]
  apply wb_inj
  rw [Int64.toBitVec_shiftLeft, wb_tb, wb_tb, wb_tb, wb_sm k hk]
  apply BitVec.eq_of_toNat_eq
  rw [BitVec.shiftLeft_eq', BitVec.toNat_shiftLeft, BitVec.toNat_ofNat, BitVec.toNat_ofNat, BitVec.toNat_ofNat, Nat.mod_eq_of_lt (show k < 2 ^ 64 by omega), Nat.shiftLeft_eq, Nat.mul_mod, Nat.mod_mod, ← Nat.mul_mod]
theorem wb_and {a b : Nat} (ha : a < 2 ^ 64) (hb : b < 2 ^ 64) : lN a &&& lN b = lN (a &&& b) := by
  apply wb_inj
  rw [Int64.toBitVec_and, wb_tb, wb_tb, wb_tb]
  apply BitVec.eq_of_toNat_eq
  rw [BitVec.toNat_and, BitVec.toNat_ofNat, BitVec.toNat_ofNat, BitVec.toNat_ofNat, Nat.mod_eq_of_lt ha, Nat.mod_eq_of_lt hb, Nat.mod_eq_of_lt (Nat.and_lt_two_pow _ hb)]
theorem wb_or {a b : Nat} (ha : a < 2 ^ 64) (hb : b < 2 ^ 64) : lN a ||| lN b = lN (a ||| b) := by
  apply wb_inj
  rw [Int64.toBitVec_or, wb_tb, wb_tb, wb_tb]
  apply BitVec.eq_of_toNat_eq
  rw [BitVec.toNat_or, BitVec.toNat_ofNat, BitVec.toNat_ofNat, BitVec.toNat_ofNat, Nat.mod_eq_of_lt ha, Nat.mod_eq_of_lt hb, Nat.mod_eq_of_lt (Nat.or_lt_two_pow ha hb)]
theorem wb_mask {n k : Nat} (hn : n < 2 ^ 64) (hk : k < 64) : lN n &&& lN (2 ^ k - 1) = lN (n % 2 ^ k) := by
  rw [wb_and hn (by have := wb_lt2 hk; omega), Nat.and_two_pow_sub_one_eq_mod]
theorem wb_a1 {n : Nat} (hn : n < 2 ^ 64) : lN n &&& 1 = lN (n % 2) := wb_mask (k := 1) hn (by decide)
theorem wb_bit {n k : Nat} (hn : n < 2 ^ 64) (hk : k < 64) : ((lN n).toUInt64 >>> ((nI k).toInt64.toUInt64 &&& Int64.toUInt64 63)).toInt64 &&& 1 = lN (n / 2 ^ k % 2) := by
  rw [wb_shr hn hk, wb_a1 (Nat.lt_of_le_of_lt (Nat.div_le_self _ _) hn)]
theorem wb_xor {q k : Nat} (hk : k < 63) (h : 2 ^ k ≤ q) (h2 : q < 2 ^ (k + 1)) : lN q ^^^ lN (2 ^ k) = lN (q - 2 ^ k) := by
  obtain ⟨r, rfl⟩ : ∃ r, q = 2 ^ k + r := ⟨q - 2 ^ k, by omega⟩
  have hr : r < 2 ^ k := by rw [Nat.pow_succ] at h2; omega
  have hx : (2 ^ k + r) ^^^ 2 ^ k = r := by
    apply Nat.eq_of_testBit_eq
    intro i
    rw [Nat.testBit_xor, Nat.testBit_two_pow]
    rcases Nat.lt_trichotomy i k with h | h | h
    · rw [Nat.testBit_two_pow_add_gt h]
      simp [show ¬ k = i by omega]
    · subst h
      rw [Nat.testBit_two_pow_add_eq]
      simp
    · have a1 : 2 ^ (k + 1) ≤ 2 ^ i := Nat.pow_le_pow_right (by decide) h
      rw [Nat.testBit_lt_two_pow (show 2 ^ k + r < 2 ^ i by omega), Nat.testBit_lt_two_pow (show r < 2 ^ i by omega)]
      simp [show ¬ k = i by omega]
  have b1 := wb_lt2 (show k + 1 < 64 by omega)
  have b2 := wb_lt2 (show k < 64 by omega)
  apply wb_inj
  rw [Int64.toBitVec_xor, wb_tb, wb_tb, wb_tb]
  apply BitVec.eq_of_toNat_eq
  rw [BitVec.toNat_xor, BitVec.toNat_ofNat, BitVec.toNat_ofNat, BitVec.toNat_ofNat, Nat.mod_eq_of_lt (by omega : 2 ^ k + r < 2 ^ 64), Nat.mod_eq_of_lt b2, hx, Nat.add_sub_cancel_left, Nat.mod_eq_of_lt (by omega)]
/-! ===== lN: masks, 'or' of parts that don't overlap is a sum ===== -/
theorem u_tn {n : Nat} (h : n < 2 ^ 64) : (UInt64.ofNat n).toNat = n := Nat.mod_eq_of_lt h
theorem g_and {a b c : Nat} (ha : a < 2 ^ 64) (hb : b < 2 ^ 64) (hc : a &&& b = c) : lN a &&& lN b = lN c := by
  subst hc
  have h : UInt64.ofNat a &&& UInt64.ofNat b = UInt64.ofNat (a &&& b) := UInt64.toNat_inj.mp (by rw [UInt64.toNat_and, u_tn ha, u_tn hb, u_tn (Nat.and_lt_two_pow a hb)])
  have h2 := congrArg UInt64.toInt64 h
  exact h2
theorem g_and1 {a : Nat} (ha : a < 2 ^ 64) : lN a &&& 1 = lN (a % 2) := g_and (b := 1) ha (by decide) (Nat.and_two_pow_sub_one_eq_mod a 1)
theorem g_mask {a s p : Nat} (hp : 2 ^ s = p) (hs : s < 64) (ha : a < 2 ^ 64) : lN a &&& lN (p - 1) = lN (a % p) := by
  subst hp
  have := Nat.pow_lt_pow_right (show 1 < 2 by decide) hs
  exact g_and ha (by omega) (Nat.and_two_pow_sub_one_eq_mod a s)
theorem g_or {k p a b : Nat} (hp : 2 ^ k = p) (ha : a < p) (h : b * p + a < 2 ^ 64) : lN (b * p) ||| lN a = lN (b * p + a) := by
  subst hp
  have h1 : b * 2 ^ k ||| a = b * 2 ^ k + a := by rw [← Nat.shiftLeft_eq, Nat.shiftLeft_add_eq_or_of_lt ha]
  have h3 : UInt64.ofNat (b * 2 ^ k) ||| UInt64.ofNat a = UInt64.ofNat (b * 2 ^ k + a) := UInt64.toNat_inj.mp (by rw [UInt64.toNat_or, u_tn (by omega), u_tn (by omega), u_tn h, h1])
  have h2 := congrArg UInt64.toInt64 h3
  exact h2
theorem g_or' {k p a b : Nat} (hp : 2 ^ k = p) (ha : a < p) (h : a + b * p < 2 ^ 64) : lN a ||| lN (b * p) = lN (a + b * p) := by
  rw [Int64.or_comm, g_or hp ha (by omega), Nat.add_comm]
theorem g_ushr {a k p : Nat} {y : UInt64} (hy : y = UInt64.ofNat k) (hk : k < 64) (hp : 2 ^ k = p) (ha : a < 2 ^ 64) : ((lN a).toUInt64 >>> y).toInt64 = lN (a / p) := by
  subst hy hp
  have h : UInt64.ofNat a >>> UInt64.ofNat k = UInt64.ofNat (a / 2 ^ k) := UInt64.toNat_inj.mp (by rw [UInt64.toNat_shiftRight, u_tn ha, u_tn (by omega), u_tn (Nat.lt_of_le_of_lt (Nat.div_le_self _ _) ha), Nat.mod_eq_of_lt hk, Nat.shiftRight_eq_div_pow])
  have h2 := congrArg UInt64.toInt64 h
  exact h2
theorem g_shl {a k p : Nat} {y : Int64} (hy : y.toBitVec.smod 64 = BitVec.ofNat 64 k) (hk : k < 64) (hp : 2 ^ k = p) (ha : a < 2 ^ 64) : lN a <<< y = lN (a * p) := by
  subst hp
  apply Int64.toBitVec_inj.mp
  rw [Int64.toBitVec_shiftLeft, hy]
  apply BitVec.eq_of_toNat_eq
  have hb : (lN a).toBitVec.toNat = a := Nat.mod_eq_of_lt ha
  have hk' : (BitVec.ofNat 64 k).toNat = k := Nat.mod_eq_of_lt (by omega)
  have h : ((lN a).toBitVec <<< BitVec.ofNat 64 k).toNat = (a * 2 ^ k) % 2 ^ 64 := by simp only [BitVec.shiftLeft_eq', BitVec.toNat_shiftLeft, hb, hk', Nat.shiftLeft_eq]
  exact h
theorem s_l : ∀ n, n < 32 → ((nI n &&& 31).toBitVec.smod 32).toNat = n := by decide +kernel
theorem s_u : ∀ n, n < 32 → (((nI n).toUInt32 &&& Int32.toUInt32 31).toBitVec % 32).toNat = n := by decide +kernel
theorem nx_and (a b : Nat) : nI a &&& nI b = nI (a &&& b) := by
  apply Int32.toBitVec_inj.1
  show BitVec.ofNat 32 a &&& BitVec.ofNat 32 b = BitVec.ofNat 32 (a &&& b)
  apply BitVec.eq_of_getLsbD_eq
  intro i hi
  simp [hi]
end
section
/-! PURE: bytes, and numbers out of bytes (no program in sight) -/
set_option maxRecDepth 100000
abbrev oz_By : Type := BitVec 8
abbrev oz_bN (n : Nat) : oz_By := BitVec.ofNat 8 n
abbrev oz_z8 : Nat → oz_By := fun _ => 0#8
/-- the int that a byte is read as -/
def oz_dB (u : oz_By) : Int32 := sb_b u.toNat
def oz_un (f : Nat → oz_By) (k : Nat) (v : oz_By) : Nat → oz_By := fun j => if j = k then v else f j
/-- of the n bytes of V, the highest first, d are laid from i on -/
def oz_pp (W : Nat → oz_By) (i n V d : Nat) : Nat → oz_By := fun j => if i ≤ j ∧ j < i + d then oz_bN (V / 2 ^ (8 * (n - 1 - (j - i)))) else W j
def oz_pb (W : Nat → oz_By) (i n V : Nat) : Nat → oz_By := oz_pp W i n V n
/-- c bytes of T from f on -/
def oz_sl (T : Nat → oz_By) (f c : Nat) : Nat → oz_By := fun j => if j < c then T (f + j) else 0#8
/-- n bytes from k on as a number -/
def oz_be (W : Nat → oz_By) (k : Nat) : Nat → Nat
  | 0 => 0
  | n + 1 => oz_be W k n * 256 + (W (k + n)).toNat
def oz_fr (V n : Nat) : Nat := V % 2147483648 % (n + 1)
def oz_ct (V n f : Nat) : Nat := V % 2147483648 % (n - f + 1)
theorem oz_fr_le (V n : Nat) : oz_fr V n ≤ n := Nat.le_of_lt_succ (Nat.mod_lt _ (Nat.succ_pos n))
theorem oz_ct_le {V n f : Nat} (h : f ≤ n) : f + oz_ct V n f ≤ n := by
  have := Nat.mod_lt (V % 2147483648) (show 0 < n - f + 1 from Nat.succ_pos _)
  unfold oz_ct
  omega
theorem oz_by_lt (u : oz_By) : u.toNat < 256 := u.isLt
theorem oz_bN_eq {a b : Nat} (h : a % 256 = b % 256) : oz_bN a = oz_bN b := BitVec.eq_of_toNat_eq (by rw [BitVec.toNat_ofNat, BitVec.toNat_ofNat]; exact h)
theorem oz_bN_t (n : Nat) : (oz_bN n).toNat = n % 256 := BitVec.toNat_ofNat n 8
theorem oz_bN_u (u : oz_By) : oz_bN u.toNat = u := BitVec.eq_of_toNat_eq (by rw [oz_bN_t]; exact Nat.mod_eq_of_lt u.isLt)
theorem oz_i8N (n : Nat) : (nI n).toInt8 = Int8.ofNat n := Int32.toInt8_ofNat'
theorem oz_i8m (n : Nat) : Int8.ofNat (n % 256) = Int8.ofNat n := by
  apply Int8.toBitVec_inj.mp
  show BitVec.ofNat 8 (n % 256) = BitVec.ofNat 8 n
  exact oz_bN_eq (Nat.mod_mod n 256)
theorem oz_sb_mod (n : Nat) : sb_b (n % 256) = sb_b n := by
  unfold sb_b
  rw [oz_i8N, oz_i8N, oz_i8m]
theorem oz_dB_N (n : Nat) : sb_b n = oz_dB (oz_bN n) := by
  unfold oz_dB
  rw [oz_bN_t, oz_sb_mod]
theorem oz_dB_i (n : Nat) : (nI n).toInt8.toInt32 = oz_dB (oz_bN n) := oz_dB_N n
theorem oz_dB_and (u : oz_By) : oz_dB u &&& nI 255 = nI u.toNat := (sb_byte u.toNat u.isLt).1
theorem oz_dB_8 (u : oz_By) : (oz_dB u).toInt8.toInt32 = oz_dB u := (vp_nar_byte _).symm.trans (pk_vb _)
theorem oz_dB_fit (u : oz_By) : fits .byte (.int (oz_dB u)) = true := sb_fitB _
theorem oz_dB_0 : oz_dB 0#8 = 0 := by decide
theorem oz_nI_b (n : Nat) : nI (n % 256) = nI (oz_bN n).toNat := by rw [oz_bN_t]
theorem oz_sh8 (k : Nat) (hk : k ≤ 24) (V : Nat) : (nI V >>> (nI k &&& 31)).toInt8.toInt32 = oz_dB (oz_bN (V / 2 ^ k)) := by
  have e : (nI V >>> (nI k &&& 31)).toInt8 = (nI (V / 2 ^ k)).toInt8 := by
    apply Int8.toBitVec_inj.mp
    rw [Int32.toBitVec_toInt8, Int32.toBitVec_toInt8, Int32.toBitVec_shiftRight]
    show ((BitVec.ofNat 32 V).sshiftRight ((nI k &&& 31).toBitVec.smod 32).toNat).signExtend 8 = (BitVec.ofNat 32 (V / 2 ^ k)).signExtend 8
    rw [s_l k (by omega)]
    apply BitVec.eq_of_getLsbD_eq
    intro i hi
    rw [BitVec.getLsbD_signExtend, BitVec.getLsbD_signExtend, if_pos (show i < 32 by omega), if_pos (show i < 32 by omega), BitVec.getLsbD_sshiftRight, if_pos (show k + i < 32 by omega), BitVec.getLsbD_ofNat, BitVec.getLsbD_ofNat, Nat.testBit_div_two_pow, decide_eq_true (show k + i < 32 by omega), decide_eq_true (show i < 32 by omega), decide_eq_false (show ¬ 32 ≤ i by omega)]
    first | rfl | (simp only [Bool.not_false, Bool.true_and, Nat.add_comm])
  exact (congrArg Int8.toInt32 e).trans (oz_dB_i _)
/-! functions on bytes -/
theorem oz_sl_0 (T : Nat → oz_By) (f : Nat) : oz_sl T f 0 = oz_z8 := funext fun j => if_neg (Nat.not_lt_zero j)
theorem oz_sl_s (T : Nat → oz_By) (f j : Nat) : oz_un (oz_sl T f j) j (T (f + j)) = oz_sl T f (j + 1) := by
  funext k
  unfold oz_un oz_sl
  by_cases h : k = j
  · subst h
    rw [if_pos rfl, if_pos (Nat.lt_succ_self k)]
  · rw [if_neg h]
    by_cases h2 : k < j
    · rw [if_pos h2, if_pos (by omega)]
    · rw [if_neg h2, if_neg (by omega)]
theorem oz_cp_0 (P W : Nat → oz_By) (i : Nat) : va_cpy P W 0 i 0 = W := funext fun j => pk_cpy_out (by omega)
theorem oz_cp_s (P W : Nat → oz_By) (i j : Nat) : oz_un (va_cpy P W 0 i j) (i + j) (P j) = va_cpy P W 0 i (j + 1) := by
  funext k
  unfold oz_un
  by_cases h : k = i + j
  · subst h
    rw [if_pos rfl, pk_cpy_in (by omega) (by omega), show 0 + (i + j - i) = j by omega]
  · rw [if_neg h]
    by_cases h2 : i ≤ k ∧ k < i + j
    · rw [pk_cpy_in h2.1 h2.2, pk_cpy_in h2.1 (by omega)]
    · rw [pk_cpy_out (by omega), pk_cpy_out (by omega)]
theorem oz_cp_sl (W : Nat → oz_By) (k n : Nat) : va_cpy W oz_z8 k 0 n = oz_sl W k n := by
  funext j
  unfold oz_sl
  by_cases h : j < n
  · rw [pk_cpy_in (Nat.zero_le j) (by omega), if_pos h, Nat.sub_zero]
  · rw [pk_cpy_out (by omega), if_neg h]
theorem oz_pp_0 (W : Nat → oz_By) (i n V : Nat) : oz_pp W i n V 0 = W := funext fun j => if_neg (by omega)
theorem oz_pp_s (W : Nat → oz_By) (i n V d : Nat) : oz_un (oz_pp W i n V d) (i + d) (oz_bN (V / 2 ^ (8 * (n - 1 - d)))) = oz_pp W i n V (d + 1) := by
  funext k
  unfold oz_un oz_pp
  by_cases h : k = i + d
  · subst h
    rw [if_pos rfl, if_pos (by omega), show i + d - i = d by omega]
  · rw [if_neg h]
    by_cases h2 : i ≤ k ∧ k < i + d
    · rw [if_pos h2, if_pos (by omega)]
    · rw [if_neg h2, if_neg (by omega)]
theorem oz_pb_1 (W : Nat → oz_By) (i V : Nat) : oz_pb W i 1 V = oz_un W i (oz_bN V) := by
  funext k
  unfold oz_pb oz_pp oz_un
  by_cases h : k = i
  · subst h
    rw [if_pos (by omega), if_pos rfl, show 8 * (1 - 1 - (k - k)) = 0 by omega, Nat.pow_zero, Nat.div_one]
  · rw [if_neg (by omega), if_neg h]
/-- four bytes, one behind another -/
theorem oz_pb_4 (W : Nat → oz_By) (i V : Nat) : oz_un (oz_un (oz_un (oz_un W i (oz_bN (V / 2 ^ 24))) (i + 1) (oz_bN (V / 2 ^ 16))) (i + 2) (oz_bN (V / 2 ^ 8))) (i + 3) (oz_bN V) = oz_pb W i 4 V := by
  have h0 := oz_pp_s W i 4 V 0
  have h1 := oz_pp_s W i 4 V 1
  have h2 := oz_pp_s W i 4 V 2
  have h3 := oz_pp_s W i 4 V 3
  rw [oz_pp_0] at h0
  have e3 : V / 2 ^ (8 * (4 - 1 - 3)) = V := Nat.div_one V
  rw [e3] at h3
  show _ = oz_pp W i 4 V (3 + 1)
  rw [← h3, ← h2, ← h1, ← h0]
  rfl
/-- four bytes out of a block of four -/
theorem oz_pc_4 (M W : Nat → oz_By) (i : Nat) (a b c d : oz_By) : va_cpy (oz_un (oz_un (oz_un (oz_un M 0 a) 1 b) 2 c) 3 d) W 0 i 4 = oz_un (oz_un (oz_un (oz_un W i a) (i + 1) b) (i + 2) c) (i + 3) d := by
  funext k
  by_cases h : i ≤ k ∧ k < i + 4
  · rw [pk_cpy_in h.1 h.2]
    obtain ⟨j, rfl⟩ : ∃ j, k = i + j := ⟨k - i, by omega⟩
    rw [show 0 + (i + j - i) = j by omega]
    have hj : j = 0 ∨ j = 1 ∨ j = 2 ∨ j = 3 := by omega
    unfold oz_un
    rcases hj with rfl | rfl | rfl | rfl <;> simp
  · rw [pk_cpy_out (by omega)]
    unfold oz_un
    rw [if_neg (by omega), if_neg (by omega), if_neg (by omega), if_neg (by omega)]
theorem oz_pb_mod (W : Nat → oz_By) (i : Nat) {V U : Nat} (h : V % 4294967296 = U % 4294967296) : oz_pb W i 4 V = oz_pb W i 4 U := by
  rw [← oz_pb_4, ← oz_pb_4]
  rw [oz_bN_eq (show V / 2 ^ 24 % 256 = U / 2 ^ 24 % 256 by omega), oz_bN_eq (show V / 2 ^ 16 % 256 = U / 2 ^ 16 % 256 by omega), oz_bN_eq (show V / 2 ^ 8 % 256 = U / 2 ^ 8 % 256 by omega), oz_bN_eq (show V % 256 = U % 256 by omega)]
/-! numbers out of bytes -/
theorem oz_be_lt (W : Nat → oz_By) (k : Nat) : ∀ n, oz_be W k n < 256 ^ n
  | 0 => Nat.one_pos
  | n + 1 => by
    have h := oz_be_lt W k n
    have h2 := oz_by_lt (W (k + n))
    rw [Nat.pow_succ]
    show oz_be W k n * 256 + (W (k + n)).toNat < _
    omega
theorem oz_be_1 (W : Nat → oz_By) (k : Nat) : oz_be W k 1 = (W k).toNat := by simp [oz_be]
theorem oz_be_2 (W : Nat → oz_By) (k : Nat) : oz_be W k 2 = (W k).toNat * 256 + (W (k + 1)).toNat := by simp [oz_be]
theorem oz_be_4 (W : Nat → oz_By) (k : Nat) : oz_be W k 4 = oz_be W k 2 * 65536 + oz_be W (k + 2) 2 := by
  simp only [oz_be, Nat.add_zero, Nat.add_assoc, Nat.zero_mul, Nat.zero_add, Nat.reduceAdd]
  omega
theorem oz_be_8 (W : Nat → oz_By) (k : Nat) : oz_be W k 8 = oz_be W k 4 * 4294967296 + oz_be W (k + 4) 4 := by
  simp only [oz_be, Nat.add_zero, Nat.add_assoc, Nat.zero_mul, Nat.zero_add, Nat.reduceAdd]
  omega
theorem oz_be_4x (W : Nat → oz_By) (k : Nat) : (W k).toNat * 16777216 + (W (k + 1)).toNat * 65536 + (W (k + 2)).toNat * 256 + (W (k + 3)).toNat = oz_be W k 4 := by
  simp only [oz_be, Nat.add_zero, Nat.zero_mul, Nat.zero_add]
  omega
theorem oz_be2_lt (W : Nat → oz_By) (k : Nat) : oz_be W k 2 < 65536 := oz_be_lt W k 2
theorem oz_be4_lt (W : Nat → oz_By) (k : Nat) : oz_be W k 4 < 4294967296 := oz_be_lt W k 4
theorem oz_be8_lt (W : Nat → oz_By) (k : Nat) : oz_be W k 8 < 2 ^ 64 := oz_be_lt W k 8
/-! ints and longs under the instructions -/
theorem oz_nx_or (a b : Nat) : nI a ||| nI b = nI (a ||| b) := by
  apply Int32.toBitVec_inj.1
  show BitVec.ofNat 32 a ||| BitVec.ofNat 32 b = BitVec.ofNat 32 (a ||| b)
  exact BitVec.ofNat_or.symm
theorem oz_or_nat {k x y : Nat} (hx : x % 2 ^ k = 0) (hy : y < 2 ^ k) : x ||| y = x + y := by
  have e : x = (x / 2 ^ k) <<< k := by
    rw [Nat.shiftLeft_eq]
    have := Nat.div_add_mod' x (2 ^ k)
    omega
  rw [e, Nat.shiftLeft_add_eq_or_of_lt hy]
theorem oz_or_N (k : Nat) {x y : Nat} (hx : x % 2 ^ k = 0) (hy : y < 2 ^ k) : nI x ||| nI y = nI (x + y) := by rw [oz_nx_or, oz_or_nat hx hy]
theorem oz_or_L (k : Nat) {x y : Nat} (hx : x % 2 ^ k = 0) (hy : y < 2 ^ k) (h : x + y < 2 ^ 64) : lN x ||| lN y = lN (x + y) := by rw [wb_or (by omega) (by omega), oz_or_nat hx hy]
theorem oz_shl_N {n : Nat} (k : Nat) (hk : k < 32) (h : n * 2 ^ k < 2 ^ 32) : nI n <<< (nI k &&& 31) = nI (n * 2 ^ k) := pk_shlN _ k (s_l k hk) h
theorem oz_ushr_N {n : Nat} (k : Nat) (hk : k < 32) (h : n < 2 ^ 32) : ((nI n).toUInt32 >>> ((nI k).toUInt32 &&& Int32.toUInt32 31)).toInt32 = nI (n / 2 ^ k) := pk_ushrN h _ k (s_u k hk)
theorem oz_and_N {n : Nat} (h : n < 2 ^ 32) : nI n &&& nI 255 = nI (n % 256) := pk_andN h (m := nI 255) 8 (by decide)
theorem oz_and_16 {n : Nat} (h : n < 65536) : nI n &&& 65535 = nI n := by
  rw [pk_andN (by omega) (m := 65535) 16 (by decide), Nat.mod_eq_of_lt h]
theorem oz_and_31 {n : Nat} (h : n < 2 ^ 32) : nI n &&& 2147483647 = nI (n % 2147483648) := pk_andN h (m := 2147483647) 31 (by decide)
theorem oz_and_b {n : Nat} (h : n < 256) : nI n &&& nI 255 = nI n := by rw [oz_and_N (by omega), Nat.mod_eq_of_lt h]
theorem oz_and_ff00 : ∀ a, a < 256 → nI (a * 256) &&& 65280 = nI (a * 256) := by decide +kernel
theorem oz_and_ff00L : ∀ a, a < 256 → lN (a * 256) &&& 65280 = lN (a * 256) := by decide +kernel
theorem oz_and_hi {a : Nat} (h : a < 65536) : nI (a * 65536) &&& (-65536) = nI (a * 65536) := by
  apply Int32.toBitVec_inj.1
  show BitVec.ofNat 32 (a * 65536) &&& (-65536 : Int32).toBitVec = BitVec.ofNat 32 (a * 65536)
  apply BitVec.eq_of_getLsbD_eq
  intro i hi
  have hm : ∀ i, i < 32 → 16 ≤ i → (-65536 : Int32).toBitVec.getLsbD i = true := by decide
  rw [BitVec.getLsbD_and]
  rcases Nat.lt_or_ge i 16 with z | z
  · have e : (BitVec.ofNat 32 (a * 65536)).getLsbD i = false := by
      rw [BitVec.getLsbD_ofNat, show a * 65536 = 2 ^ 16 * a by omega, Nat.testBit_two_pow_mul]
      simp [Nat.not_le.mpr z]
    rw [e, Bool.false_and]
  · rw [hm i hi z, Bool.and_true]
theorem oz_and_hiL {a : Nat} (h : a < 65536) : lN (a * 65536) &&& (-65536) = lN (a * 65536) := by
  apply wb_inj
  show BitVec.ofNat 64 (a * 65536) &&& (-65536 : Int64).toBitVec = BitVec.ofNat 64 (a * 65536)
  apply BitVec.eq_of_getLsbD_eq
  intro i hi
  have hm : ∀ i, i < 64 → 16 ≤ i → (-65536 : Int64).toBitVec.getLsbD i = true := by decide
  rw [BitVec.getLsbD_and]
  rcases Nat.lt_or_ge i 16 with z | z
  · have e : (BitVec.ofNat 64 (a * 65536)).getLsbD i = false := by
      rw [BitVec.getLsbD_ofNat, show a * 65536 = 2 ^ 16 * a by omega, Nat.testBit_two_pow_mul]
      simp [Nat.not_le.mpr z]
    rw [e, Bool.false_and]
  · rw [hm i hi z, Bool.and_true]
theorem oz_and_16L {n : Nat} (h : n < 65536) : lN n &&& 65535 = lN n := by
  have := wb_mask (n := n) (k := 16) (by omega) (by decide)
  rw [Nat.mod_eq_of_lt h] at this
  exact this
theorem oz_and_8L {n : Nat} (h : n < 2 ^ 64) : lN n &&& 255 = lN (n % 256) := wb_mask (n := n) (k := 8) h (by decide)
theorem oz_and_32L {n : Nat} (h : n < 2 ^ 64) : lN n &&& 4294967295 = lN (n % 4294967296) := wb_mask (n := n) (k := 32) h (by decide)
/-- a sign-extended int as a number of 64 bits -/
theorem oz_sx {A : Nat} (h : A < 4294967296) : ∃ X, X < 2 ^ 64 ∧ X % 4294967296 = A ∧ (nI A).toInt64 = lN X := by
  obtain ⟨X, hX, e⟩ := wb_of (nI A).toInt64
  refine ⟨X, hX, ?_, e⟩
  have e2 := congrArg Int64.toInt32 e
  rw [lN_i, Int32.toInt32_toInt64] at e2
  have e3 : (BitVec.ofNat 32 A).toNat = (BitVec.ofNat 32 X).toNat := congrArg (fun z : Int32 => z.toBitVec.toNat) e2
  rw [BitVec.toNat_ofNat, BitVec.toNat_ofNat] at e3
  omega
theorem oz_i2l_and {A : Nat} (h : A < 4294967296) : (nI A).toInt64 &&& 4294967295 = lN A := by
  obtain ⟨X, hX, e1, e2⟩ := oz_sx h
  rw [e2, oz_and_32L hX, e1]
theorem oz_i2l_shl {A : Nat} (h : A < 4294967296) : (nI A).toInt64 <<< ((nI 32).toInt64 &&& 63) = lN (A * 4294967296) := by
  obtain ⟨X, hX, e1, e2⟩ := oz_sx h
  rw [e2, wb_shl X (by decide), wb_mod (X * 2 ^ 32)]
  exact congrArg lN (by omega)
theorem oz_i2l_s {n : Nat} (h : n < 2 ^ 31) : (nI n).toInt64 = lN n := nI_l h
theorem oz_shl_L {n : Nat} (k : Nat) (hk : k < 64) : lN n <<< ((nI k).toInt64 &&& 63) = lN (n * 2 ^ k) := wb_shl n hk
theorem oz_ushr_L {n : Nat} (k : Nat) (hk : k < 64) (h : n < 2 ^ 64) : ((lN n).toUInt64 >>> ((nI k).toInt64.toUInt64 &&& Int64.toUInt64 63)).toInt64 = lN (n / 2 ^ k) := wb_shr h hk
theorem oz_cmp_le {a b : Nat} (ha : a < 2 ^ 63) (hb : b < 2 ^ 63) : lg_cmp (lN a) (lN b) ≤ 0 ↔ a ≤ b := by
  simp only [lg_cmp, gt_iff_lt]
  by_cases h1 : b < a
  · rw [if_pos ((pk_lLT hb ha).mpr h1)]
    exact ⟨fun z => absurd z (by decide), fun z => by omega⟩
  · rw [if_neg (fun z => h1 ((pk_lLT hb ha).mp z))]
    by_cases h2 : a = b
    · rw [if_pos ((pk_lEQ ha hb).mpr h2)]
      exact ⟨fun _ => by omega, fun _ => by decide⟩
    · rw [if_neg (fun z => h2 ((pk_lEQ ha hb).mp z))]
      exact ⟨fun _ => by omega, fun _ => by decide⟩
theorem oz_cmp_eq (x : Int64) : lg_cmp x x = 0 := by simp [lg_cmp]
theorem oz_dec_1 (n : Nat) : nI n + Int32.ofInt (-1) = nI n - 1 := (Int32.sub_eq_add_neg (nI n) 1).symm
theorem oz_m1_lt : nI 0 - 1 < (0 : Int32) := by decide
theorem oz_and_80 (u : oz_By) : oz_dB u &&& nI 128 = nI (u.toNat / 128 * 128) := (by decide +kernel : ∀ n, n < 256 → sb_b n &&& nI 128 = nI (n / 128 * 128)) u.toNat u.isLt
theorem oz_i8_8 {x : Int32} {u : oz_By} (h : x.toInt8.toInt32 = oz_dB u) : x.toInt8.toInt32.toInt8.toInt32 = oz_dB u := by rw [h, oz_dB_8]
theorem oz_be_lt8 (W : Nat → oz_By) (k : Nat) {n : Nat} (h : n ≤ 8) : oz_be W k n < 2 ^ 64 := Nat.lt_of_lt_of_le (oz_be_lt W k n) (Nat.pow_le_pow_right (n := 256) (by decide) h)
theorem oz_l2i_if (x y a : Nat) : (if x ≤ y then lN a else (-1 : Int64)).toInt32 = (if x ≤ y then nI a else (-1 : Int32)) := by
  by_cases h : x ≤ y
  · rw [if_pos h, if_pos h]
    exact lN_i a
  · rw [if_neg h, if_neg h]
    rfl
def oz_sel (v1 v2 v3 v4 j : Nat) : Nat := if j = 0 then v1 else if j = 1 then v2 else if j = 2 then v3 else v4
def oz_wd4 (v1 v2 v3 v4 : Nat) : Nat → Int32 := upd (upd (upd (upd (fun _ => nI (0#8).toNat) 0 (nI v1)) 1 (nI v2)) 2 (nI v3)) 3 (nI v4)
theorem oz_wd4_at (v1 v2 v3 v4 : Nat) {j : Nat} (h : j < 4) : oz_wd4 v1 v2 v3 v4 j = nI (oz_sel v1 v2 v3 v4 j) := by
  have hj : j = 0 ∨ j = 1 ∨ j = 2 ∨ j = 3 := by omega
  rcases hj with rfl | rfl | rfl | rfl <;> rfl
theorem oz_sel_lt {v1 v2 v3 v4 : Nat} (h1 : v1 < 2 ^ 32) (h2 : v2 < 2 ^ 32) (h3 : v3 < 2 ^ 32) (h4 : v4 < 2 ^ 32) (j : Nat) : oz_sel v1 v2 v3 v4 j < 2 ^ 32 := by
  unfold oz_sel
  split
  · exact h1
  · split
    · exact h2
    · split
      · exact h3
      · exact h4
/-- the text behind j of four words -/
def oz_pw4 (T : Nat → oz_By) (n v1 v2 v3 v4 : Nat) : Nat → (Nat → oz_By)
  | 0 => T
  | j + 1 => oz_pb (oz_pw4 T n v1 v2 v3 v4 j) (n + 4 * j) 4 (oz_sel v1 v2 v3 v4 j)
theorem oz_pw4_4 (T : Nat → oz_By) (n v1 v2 v3 v4 : Nat) : oz_pw4 T n v1 v2 v3 v4 4 = oz_pb (oz_pb (oz_pb (oz_pb T n 4 v1) (n + 4) 4 v2) (n + 8) 4 v3) (n + 12) 4 v4 := rfl
end
section
/-! BASE: the words for worlds, and rows over them (a call is one row) -/
set_option maxRecDepth 100000
abbrev vwCl : List vw_C := [(RX0, TX0, 4), (RX1, TX1, 4), (RX2, TX2, 6)]
abbrev oz_kts (cB cI : ClassId) : List (ClassId × FieldType) := [(cB, .byte), (cI, .int)]
/-- a byte array, an int array that holds bytes unsigned; a desk, a buffer, a model -/
abbrev oz_oB (cB : ClassId) (a n : Nat) (f : Nat → oz_By) : Nat × va_E := (a, .inl (cB, n, .inl (fun j => oz_dB (f j))))
abbrev oz_oI (cI : ClassId) (a n : Nat) (f : Nat → oz_By) : Nat × va_E := (a, .inl (cI, n, .inl (fun j => nI (f j).toNat)))
abbrev oz_oW (cI : ClassId) (a n : Nat) (f : Nat → Int32) : Nat × va_E := (a, .inl (cI, n, .inl f))
abbrev oz_oD (h tx n q rd : Nat) : Nat × va_E := (h, .inr (0, [.ref tx, .int (nI n), .ref q, .ref rd]))
abbrev oz_oO (q t b i k : Nat) : Nat × va_E := (q, .inr (1, [.ref t, .ref b, .int (nI i), .int (nI k)]))
abbrev oz_oM (h tx n wi i k la : Nat) : Nat × va_E := (h, .inr (2, [.ref tx, .int (nI n), .ref wi, .int (nI i), .int (nI k), .ref la]))
/-- what a contract asks of the heap, and what it leaves -/
abbrev oz_pw (G : va_G) (cB cI : ClassId) (sz : Nat) (w : va_W) : State → Prop := fun U => U.heap.size = sz ∧ va_P G vwCl w U.heap ∧ va_K G vwCl (oz_kts cB cI) U ∧ va_D (fun _ => True) w
abbrev oz_qw (G : va_G) (cB cI : ClassId) (A : Nat → Prop) (w : va_W) : State → Prop := fun t => va_P G vwCl w t.heap ∧ va_K G vwCl (oz_kts cB cI) t ∧ va_D A w
theorem oz_k_filter {ws wc : va_W} {is : List Nat} (h : is.map (fun i => ws[i]?) = wc.map some) : is.filterMap (fun i => ws[i]?) = wc := by
  induction is generalizing wc with
  | nil =>
    cases wc with
    | nil => rfl
    | cons a l => simp at h
  | cons i is ih =>
    cases wc with
    | nil => simp at h
    | cons a l =>
      simp only [List.map_cons, List.cons.injEq] at h
      rw [List.filterMap_cons, h.1]
      simp [ih h.2]
theorem oz_k_blind {G : va_G} {cB cI : ClassId} {sz : Nat} {w : va_W} {av : List Value} : FrameBlind (va_Pc av (oz_pw G cB cI sz w)) := fun a U g mk q => by
  obtain ⟨q0, q1, qP, qK, qD⟩ := q
  exact ⟨q0, q1, qP, va_K.moved (u := U) (U := U.calling g mk a) (Vm.Alike.refl U.vm) qK, qD⟩
/-- two array classes of one element type are one -/
theorem oz_k_same {U : State} {ty : FieldType} {a b : ClassId} (hty : ty = .byte ∨ ty = .int) (h1 : va_RA U a ty) (h2 : va_RA U b ty) : a = b := by
  rcases hty with rfl | rfl
  · exact Option.some.inj ((show U.vm.findClass _ = some a from h1).symm.trans (show U.vm.findClass _ = some b from h2))
  · exact Option.some.inj ((show U.vm.findClass _ = some a from h1).symm.trans (show U.vm.findClass _ = some b from h2))
section OWROWS
variable {p : Program} {l : Launch} {e : Env} {R : Room} {s : State} {m : MethodId} {args : Array Value} {below : List Frame} {meth : Method} {c : Code} {H : Heap} {locs : List Loc} {cells slots : Nat} {Q : State → Prop}
variable {cc : ByteArray} {nL pc : Nat} {ls : Array Slot} {rest : List Value} {G : va_G} {cB cI : ClassId} {A : Nat → Prop} {ws wc wr w2 : va_W} {H0 : Heap}
/-- the value on top in another form -/
theorem oz_ktop {x y : Int32} (h : x = y) (k : W p l e R s m args below meth c H locs cells slots Q (F0 m pc ls (.int y :: rest))) : W p l e R s m args below meth c H locs cells slots Q (F0 m pc ls (.int x :: rest)) := by
  rw [h]; exact k
theorem oz_ktopl {x y : Int64} (h : x = y) (k : W p l e R s m args below meth c H locs cells slots Q (F0 m pc ls (.long y :: rest))) : W p l e R s m args below meth c H locs cells slots Q (F0 m pc ls (.long x :: rest)) := by
  rw [h]; exact k
theorem oz_kadd (hx : p.tables.exec = Jvm.exec) (hb : c.code = cc) {a b : Nat} (hdg : decode cc pc = .ok (.iadd, 1)) (k : W p l e R s m args below meth c H locs cells slots Q (F0 m (pc + 1) ls (.int (nI (a + b)) :: rest))) : W p l e R s m args below meth c H locs cells slots Q (F0 m pc ls (.int (nI b) :: .int (nI a) :: rest)) :=
  lv_iadd hx hb hdg (oz_ktop (nI_add a b) k)
theorem oz_ksub (hx : p.tables.exec = Jvm.exec) (hb : c.code = cc) {a b : Nat} (h : b ≤ a) (hdg : decode cc pc = .ok (.isub, 1)) (k : W p l e R s m args below meth c H locs cells slots Q (F0 m (pc + 1) ls (.int (nI (a - b)) :: rest))) : W p l e R s m args below meth c H locs cells slots Q (F0 m pc ls (.int (nI b) :: .int (nI a) :: rest)) :=
  lv_isub hx hb hdg (oz_ktop (pk_sub h) k)
theorem oz_krem (hx : p.tables.exec = Jvm.exec) (hb : c.code = cc) {a d : Nat} (ha : a < 2 ^ 31) (h0 : 0 < d) (hd : d < 2 ^ 31) (hdg : decode cc pc = .ok (.irem, 1)) (k : W p l e R s m args below meth c H locs cells slots Q (F0 m (pc + 1) ls (.int (nI (a % d)) :: rest))) : W p l e R s m args below meth c H locs cells slots Q (F0 m pc ls (.int (nI d) :: .int (nI a) :: rest)) :=
  lv_irem hx hb hdg (nI_ne0 h0 hd) (oz_ktop (pk_rem ha h0 hd) k)
/-! branches by the numbers behind -/
theorem oz_kj_ge (hx : p.tables.exec = Jvm.exec) (hb : c.code = cc) {a b : Nat} (ha : a < 2 ^ 31) (hbb : b < 2 ^ 31) {off : Int} {tgt : Nat} (hdg : decode cc pc = .ok (.if_icmp .ge off, 3)) (ht : (pc : Int) + off = (tgt : Int)) (kt : b ≤ a → W p l e R s m args below meth c H locs cells slots Q (F0 m tgt ls rest)) (kf : a < b → W p l e R s m args below meth c H locs cells slots Q (F0 m (pc + 3) ls rest)) : W p l e R s m args below meth c H locs cells slots Q (F0 m pc ls (.int (nI b) :: .int (nI a) :: rest)) :=
  lv_icmp_ge hx hb hdg ht (fun h => kt ((nI_leI hbb ha).mp h)) (fun h => kf (Nat.lt_of_not_le fun z => h ((nI_leI hbb ha).mpr z)))
theorem oz_kj_lt (hx : p.tables.exec = Jvm.exec) (hb : c.code = cc) {a b : Nat} (ha : a < 2 ^ 31) (hbb : b < 2 ^ 31) {off : Int} {tgt : Nat} (hdg : decode cc pc = .ok (.if_icmp .lt off, 3)) (ht : (pc : Int) + off = (tgt : Int)) (kt : a < b → W p l e R s m args below meth c H locs cells slots Q (F0 m tgt ls rest)) (kf : b ≤ a → W p l e R s m args below meth c H locs cells slots Q (F0 m (pc + 3) ls rest)) : W p l e R s m args below meth c H locs cells slots Q (F0 m pc ls (.int (nI b) :: .int (nI a) :: rest)) :=
  lv_icmp_lt hx hb hdg ht (fun h => kt ((nI_ltI ha hbb).mp h)) (fun h => kf (Nat.le_of_not_lt fun z => h ((nI_ltI ha hbb).mpr z)))
theorem oz_kj_le (hx : p.tables.exec = Jvm.exec) (hb : c.code = cc) {a b : Nat} (ha : a < 2 ^ 31) (hbb : b < 2 ^ 31) {off : Int} {tgt : Nat} (hdg : decode cc pc = .ok (.if_icmp .le off, 3)) (ht : (pc : Int) + off = (tgt : Int)) (kt : a ≤ b → W p l e R s m args below meth c H locs cells slots Q (F0 m tgt ls rest)) (kf : b < a → W p l e R s m args below meth c H locs cells slots Q (F0 m (pc + 3) ls rest)) : W p l e R s m args below meth c H locs cells slots Q (F0 m pc ls (.int (nI b) :: .int (nI a) :: rest)) :=
  lv_icmp_le hx hb hdg ht (fun h => kt ((nI_leI ha hbb).mp h)) (fun h => kf (Nat.lt_of_not_le fun z => h ((nI_leI ha hbb).mpr z)))
theorem oz_kj_ne0 (hx : p.tables.exec = Jvm.exec) (hb : c.code = cc) {a : Nat} (ha : a < 2 ^ 31) {off : Int} {tgt : Nat} (hdg : decode cc pc = .ok (.ifCond .ne off, 3)) (ht : (pc : Int) + off = (tgt : Int)) (kt : 0 < a → W p l e R s m args below meth c H locs cells slots Q (F0 m tgt ls rest)) (kf : a = 0 → W p l e R s m args below meth c H locs cells slots Q (F0 m (pc + 3) ls rest)) : W p l e R s m args below meth c H locs cells slots Q (F0 m pc ls (.int (nI a) :: rest)) :=
  lv_if_ne hx hb hdg ht (fun h => kt (Nat.pos_of_ne_zero fun z => h (by rw [z]; rfl))) (fun h => kf ((nI_eq ha (by decide)).mp (show nI a = nI 0 from h)))
theorem oz_kj_eq0 (hx : p.tables.exec = Jvm.exec) (hb : c.code = cc) {a : Nat} (ha : a < 2 ^ 31) {off : Int} {tgt : Nat} (hdg : decode cc pc = .ok (.ifCond .eq off, 3)) (ht : (pc : Int) + off = (tgt : Int)) (kt : a = 0 → W p l e R s m args below meth c H locs cells slots Q (F0 m tgt ls rest)) (kf : 0 < a → W p l e R s m args below meth c H locs cells slots Q (F0 m (pc + 3) ls rest)) : W p l e R s m args below meth c H locs cells slots Q (F0 m pc ls (.int (nI a) :: rest)) :=
  lv_if_eq hx hb hdg ht (fun h => kt ((nI_eq ha (by decide)).mp (show nI a = nI 0 from h))) (fun h => kf (Nat.pos_of_ne_zero fun z => h (by rw [z]; rfl)))
theorem oz_neg_N {a : Nat} (h : a < 2 ^ 32) : nI a < 0 ↔ 2 ^ 31 ≤ a := by
  rw [Int32.lt_iff_toInt_lt, show (0 : Int32).toInt = 0 from by decide]
  have e : (nI a).toInt = (a : Int).bmod (2 ^ 32) := Int32.toInt_ofNat' ..
  rw [e]
  rcases Nat.lt_or_ge a (2 ^ 31) with z | z
  · rw [Int.bmod_eq_of_le (by omega) (by omega)]
    omega
  · rw [Int.bmod_def]
    split <;> omega
theorem oz_kj_lt0 (hx : p.tables.exec = Jvm.exec) (hb : c.code = cc) {a : Nat} (ha : a < 2 ^ 32) {off : Int} {tgt : Nat} (hdg : decode cc pc = .ok (.ifCond .lt off, 3)) (ht : (pc : Int) + off = (tgt : Int)) (kt : 2 ^ 31 ≤ a → W p l e R s m args below meth c H locs cells slots Q (F0 m tgt ls rest)) (kf : a < 2 ^ 31 → W p l e R s m args below meth c H locs cells slots Q (F0 m (pc + 3) ls rest)) : W p l e R s m args below meth c H locs cells slots Q (F0 m pc ls (.int (nI a) :: rest)) :=
  lv_if_lt hx hb hdg ht (fun h => kt ((oz_neg_N ha).mp h)) (fun h => kf (Nat.lt_of_not_le fun z => h ((oz_neg_N ha).mpr z)))
theorem oz_kj_ge0 (hx : p.tables.exec = Jvm.exec) (hb : c.code = cc) {a : Nat} (ha : a < 2 ^ 31) {off : Int} {tgt : Nat} (hdg : decode cc pc = .ok (.ifCond .ge off, 3)) (ht : (pc : Int) + off = (tgt : Int)) (kt : W p l e R s m args below meth c H locs cells slots Q (F0 m tgt ls rest)) : W p l e R s m args below meth c H locs cells slots Q (F0 m pc ls (.int (nI a) :: rest)) :=
  lv_if_ge hx hb hdg ht (fun _ => kt) (fun h => absurd (nI_pos' ha) h)
/-! arrays of bytes -/
theorem oz_kb_ld (hx : p.tables.exec = Jvm.exec) (hb : c.code = cc) (hK : va_K G vwCl (oz_kts cB cI) s) (hP : va_P G vwCl ws H) (q0 : Nat) {a n k : Nat} {f : Nat → oz_By} (ha : ws[q0]? = some (oz_oB cB a n f)) (hk : k < n) (hn : n < 2 ^ 31) (hdg : decode cc pc = .ok (.baload, 1))
    (kk : W p l e R s m args below meth c H locs cells slots Q (F0 m (pc + 1) ls (.int (oz_dB (f k)) :: rest))) : W p l e R s m args below meth c H locs cells slots Q (F0 m pc ls (.int (nI k) :: .ref a :: rest)) := by
  refine va_bald hx hb hK hP q0 0 ha rfl (vp_in_nI hk hn) hdg ?_
  rw [nI_clamp (Nat.lt_trans hk hn)]
  exact kk
theorem oz_ki_ld (hx : p.tables.exec = Jvm.exec) (hb : c.code = cc) (hK : va_K G vwCl (oz_kts cB cI) s) (hP : va_P G vwCl ws H) (q0 : Nat) {a n k : Nat} {f : Nat → oz_By} (ha : ws[q0]? = some (oz_oI cI a n f)) (hk : k < n) (hn : n < 2 ^ 31) (hdg : decode cc pc = .ok (.iaload, 1))
    (kk : W p l e R s m args below meth c H locs cells slots Q (F0 m (pc + 1) ls (.int (nI (f k).toNat) :: rest))) : W p l e R s m args below meth c H locs cells slots Q (F0 m pc ls (.int (nI k) :: .ref a :: rest)) := by
  refine va_iald hx hb hK hP q0 1 ha rfl (vp_in_nI hk hn) hdg ?_
  rw [nI_clamp (Nat.lt_trans hk hn)]
  exact kk
theorem oz_kb_st (hx : p.tables.exec = Jvm.exec) (hb : c.code = cc) (hK : va_K G vwCl (oz_kts cB cI) s) (hP : va_P G vwCl ws H) (hD : va_D A ws) (hS : va_S A H0 H locs) (q0 : Nat) {a n k : Nat} {f : Nat → oz_By} (v : oz_By) {x : Int32} (ha : ws[q0]? = some (oz_oB cB a n f)) (hk : k < n) (hn : n < 2 ^ 31) (hv : x.toInt8.toInt32 = oz_dB v) (hdg : decode cc pc = .ok (.bastore, 1)) (hw2 : ws.set q0 (oz_oB cB a n (oz_un f k v)) = w2)
    (kk : ∀ (H1 : Heap) (locs1 : List Loc), va_P G vwCl w2 H1 → va_D A w2 → va_S A H0 H1 locs1 → W p l e R s m args below meth c H1 locs1 cells slots Q (F0 m (pc + 1) ls rest)) : W p l e R s m args below meth c H locs cells slots Q (F0 m pc ls (.int x :: .int (nI k) :: .ref a :: rest)) := by
  refine va_bast hx hb hK hP hD hS q0 0 ha rfl (vp_in_nI hk hn) hdg fun H1 locs1 hP1 hD1 hS1 => ?_
  have e : upd (fun j => oz_dB (f j)) (nI k).toNatClampNeg (vp_nar .byte x) = fun j => oz_dB (oz_un f k v j) := by
    funext j
    rw [nI_clamp (Nat.lt_trans hk hn), vp_nar_byte, hv]
    unfold upd oz_un
    split <;> rfl
  rw [e] at hP1 hD1
  subst hw2
  exact kk H1 locs1 hP1 hD1 hS1
theorem oz_ki_st (hx : p.tables.exec = Jvm.exec) (hb : c.code = cc) (hK : va_K G vwCl (oz_kts cB cI) s) (hP : va_P G vwCl ws H) (hD : va_D A ws) (hS : va_S A H0 H locs) (q0 : Nat) {a n k : Nat} {f : Nat → oz_By} (v : oz_By) {x : Int32} (ha : ws[q0]? = some (oz_oI cI a n f)) (hk : k < n) (hn : n < 2 ^ 31) (hv : x = nI v.toNat) (hdg : decode cc pc = .ok (.iastore, 1)) (hw2 : ws.set q0 (oz_oI cI a n (oz_un f k v)) = w2)
    (kk : ∀ (H1 : Heap) (locs1 : List Loc), va_P G vwCl w2 H1 → va_D A w2 → va_S A H0 H1 locs1 → W p l e R s m args below meth c H1 locs1 cells slots Q (F0 m (pc + 1) ls rest)) : W p l e R s m args below meth c H locs cells slots Q (F0 m pc ls (.int x :: .int (nI k) :: .ref a :: rest)) := by
  refine va_iast hx hb hK hP hD hS q0 1 ha rfl (vp_in_nI hk hn) hdg fun H1 locs1 hP1 hD1 hS1 => ?_
  have e : upd (fun j => nI (f j).toNat) (nI k).toNatClampNeg x = fun j => nI (oz_un f k v j).toNat := by
    funext j
    rw [nI_clamp (Nat.lt_trans hk hn), hv]
    unfold upd oz_un
    split <;> rfl
  rw [e] at hP1 hD1
  subst hw2
  exact kk H1 locs1 hP1 hD1 hS1
theorem oz_kw_ld (hx : p.tables.exec = Jvm.exec) (hb : c.code = cc) (hK : va_K G vwCl (oz_kts cB cI) s) (hP : va_P G vwCl ws H) (q0 : Nat) {a n k : Nat} {f : Nat → Int32} (ha : ws[q0]? = some (oz_oW cI a n f)) (hk : k < n) (hn : n < 2 ^ 31) (hdg : decode cc pc = .ok (.iaload, 1))
    (kk : W p l e R s m args below meth c H locs cells slots Q (F0 m (pc + 1) ls (.int (f k) :: rest))) : W p l e R s m args below meth c H locs cells slots Q (F0 m pc ls (.int (nI k) :: .ref a :: rest)) := by
  refine va_iald hx hb hK hP q0 1 ha rfl (vp_in_nI hk hn) hdg ?_
  rw [nI_clamp (Nat.lt_trans hk hn)]
  exact kk
theorem oz_kw_st (hx : p.tables.exec = Jvm.exec) (hb : c.code = cc) (hK : va_K G vwCl (oz_kts cB cI) s) (hP : va_P G vwCl ws H) (hD : va_D A ws) (hS : va_S A H0 H locs) (q0 : Nat) {a n k : Nat} {f : Nat → Int32} {x : Int32} (ha : ws[q0]? = some (oz_oW cI a n f)) (hk : k < n) (hn : n < 2 ^ 31) (hdg : decode cc pc = .ok (.iastore, 1)) (hw2 : ws.set q0 (oz_oW cI a n (upd f k x)) = w2)
    (kk : ∀ (H1 : Heap) (locs1 : List Loc), va_P G vwCl w2 H1 → va_D A w2 → va_S A H0 H1 locs1 → W p l e R s m args below meth c H1 locs1 cells slots Q (F0 m (pc + 1) ls rest)) : W p l e R s m args below meth c H locs cells slots Q (F0 m pc ls (.int x :: .int (nI k) :: .ref a :: rest)) := by
  refine va_iast hx hb hK hP hD hS q0 1 ha rfl (vp_in_nI hk hn) hdg fun H1 locs1 hP1 hD1 hS1 => ?_
  rw [nI_clamp (Nat.lt_trans hk hn)] at hP1 hD1
  subst hw2
  exact kk H1 locs1 hP1 hD1 hS1
theorem oz_kb_new (hx : p.tables.exec = Jvm.exec) (hb : c.code = cc) (harr : (Cond.arrayClass .byte).before args s = true) (hK : va_K G vwCl (oz_kts cB cI) s) (hP : va_P G vwCl ws H) (hD : va_D A ws) (hS : va_S A H0 H locs) (hA : ∀ q, H0.size ≤ q → A q)
    {N : Nat} (hN : N ≤ 65536) (hcells : cells + 1 ≤ R.cells) (hslots : slots + N ≤ R.slots) (hdg : decode cc pc = .ok (.newarray .byte, 2))
    (kk : ∀ (q : Nat) (H1 : Heap), va_P G vwCl (ws ++ [oz_oB cB q N oz_z8]) H1 → va_D A (ws ++ [oz_oB cB q N oz_z8]) → va_S A H0 H1 locs → W p l e R s m args below meth c H1 locs (cells + 1) (slots + N) Q (F0 m (pc + 2) ls (.ref q :: rest))) : W p l e R s m args below meth c H locs cells slots Q (F0 m pc ls (.int (nI N) :: rest)) := by
  have hz : ∀ cA : ClassId, vp_cell cA (N, .inl (fun _ => oz_dB 0#8)) = arrV cA N (fun _ => defaultValue .byte) := fun cA => by
    rw [vp_cell_i, oz_dB_0]
    rfl
  refine va_newa (atype := .byte) (ty := .byte) (N' := N) (a0 := (N, .inl (fun _ => oz_dB 0#8))) hx hb harr rfl hK hP hD hS hA hz (nI_pos (by omega)) (nI_clamp (by omega)) (show N * 1 ≤ _ by omega) hcells hslots hdg fun q cA H1 hK1 hP1 hD1 hS1 => ?_
  have e : cA = cB := oz_k_same (Or.inl rfl) (hK1.2 2 (cA, .byte) rfl).2 (hK1.2 0 (cB, .byte) rfl).2
  subst e
  exact kk q H1 hP1 hD1 hS1
theorem oz_ki_new (hx : p.tables.exec = Jvm.exec) (hb : c.code = cc) (harr : (Cond.arrayClass .int).before args s = true) (hK : va_K G vwCl (oz_kts cB cI) s) (hP : va_P G vwCl ws H) (hD : va_D A ws) (hS : va_S A H0 H locs) (hA : ∀ q, H0.size ≤ q → A q)
    {N : Nat} (hN : N ≤ 65536) (hcells : cells + 1 ≤ R.cells) (hslots : slots + N ≤ R.slots) (hdg : decode cc pc = .ok (.newarray .int, 2))
    (kk : ∀ (q : Nat) (H1 : Heap), va_P G vwCl (ws ++ [oz_oI cI q N oz_z8]) H1 → va_D A (ws ++ [oz_oI cI q N oz_z8]) → va_S A H0 H1 locs → W p l e R s m args below meth c H1 locs (cells + 1) (slots + N) Q (F0 m (pc + 2) ls (.ref q :: rest))) : W p l e R s m args below meth c H locs cells slots Q (F0 m pc ls (.int (nI N) :: rest)) := by
  have hz : ∀ cA : ClassId, vp_cell cA (N, .inl (fun _ => nI (0#8).toNat)) = arrV cA N (fun _ => defaultValue .int) := fun cA => by
    rw [vp_cell_i]
    rfl
  refine va_newa (atype := .int) (ty := .int) (N' := N) (a0 := (N, .inl (fun _ => nI (0#8).toNat))) hx hb harr rfl hK hP hD hS hA hz (nI_pos (by omega)) (nI_clamp (by omega)) (show N * 4 ≤ _ by omega) hcells hslots hdg fun q cA H1 hK1 hP1 hD1 hS1 => ?_
  have e : cA = cI := oz_k_same (Or.inr rfl) (hK1.2 2 (cA, .int) rfl).2 (hK1.2 1 (cI, .int) rfl).2
  subst e
  exact kk q H1 hP1 hD1 hS1
theorem oz_kb_cp (hx : p.tables.exec = Jvm.exec) (hb : c.code = cc) (hml : c.maxLocals = ls.size) {own : String} {index : Nat} (hown : s.vm.findClass own = some m.cls) (hlink : (Cond.methodLink own index arraycopyName).before args s = true) (hnat : (Cond.native arraycopyName).before args s = true) (hstat : (Cond.static arraycopyName).before args s = true) (hini : (Cond.initialized "java/lang/System").before args s = true)
    (hK : va_K G vwCl (oz_kts cB cI) s) (hP : va_P G vwCl ws H) (hD : va_D A ws) (hS : va_S A H0 H locs) (q0 q1 : Nat) {a0 n0 a1 n1 sp dp n : Nat} {f g : Nat → oz_By} (ha0 : ws[q0]? = some (oz_oB cB a0 n0 f)) (ha1 : ws[q1]? = some (oz_oB cB a1 n1 g)) (h0 : sp + n ≤ n0) (h1 : dp + n ≤ n1) (hn0 : n0 < 2 ^ 31) (hn1 : n1 < 2 ^ 31)
    (hframes : 1 ≤ R.frames) (hlocals : (rest.map fun v => v.category).sum + 18 ≤ R.locals) (hdg : decode cc pc = .ok (.invokestatic index, 3)) (hw2 : ws.set q1 (oz_oB cB a1 n1 (va_cpy f g sp dp n)) = w2)
    (kk : ∀ (H1 : Heap) (locs1 : List Loc), va_P G vwCl w2 H1 → va_D A w2 → va_S A H0 H1 locs1 → W p l e R s m args below meth c H1 locs1 cells slots Q (F0 m (pc + 3) ls rest)) : W p l e R s m args below meth c H locs cells slots Q (F0 m pc ls (.int (nI n) :: .int (nI dp) :: .ref a1 :: .int (nI sp) :: .ref a0 :: rest)) := by
  have e1 : (nI sp).toNatClampNeg = sp := nI_clamp (by omega)
  have e2 : (nI dp).toNatClampNeg = dp := nI_clamp (by omega)
  have e3 : (nI n).toNatClampNeg = n := nI_clamp (by omega)
  refine va_copyi hx hb hml hown hlink hnat hstat hini hK hP hD hS q0 q1 0 0 ha0 ha1 rfl rfl rfl (nI_pos (by omega)) (nI_pos (by omega)) (nI_pos (by omega)) (by rw [e1, e3]; exact h0) (by rw [e2, e3]; exact h1) (fun i _ => oz_dB_fit _) hframes hlocals hdg fun H1 locs1 hP1 hD1 hS1 => ?_
  rw [e1, e2, e3] at hP1 hD1
  have e : va_cpy (fun j => oz_dB (f j)) (fun j => oz_dB (g j)) sp dp n = fun j => oz_dB (va_cpy f g sp dp n j) := by
    funext j
    unfold va_cpy
    split <;> rfl
  rw [e] at hP1 hD1
  subst hw2
  exact kk H1 locs1 hP1 hD1 hS1
/-! calls -/
variable {y : MethodName} {bytes : ByteArray} {maxL mc ms index : Nat} {ret : Option FieldType} {rm : Room} {own C : String} {b ci N : Nat} {T : u_T} {fs As : List Value} {S : Type} {w1 w3 : S → va_W} {w1r w3r : S → Nat → va_W} {st : List Value} {A0 : Nat → Prop} {nA : Nat}
theorem oz_kc_i (hx : p.tables.exec = Jvm.exec) (hb : c.code = cc) (hml : c.maxLocals = nL) (hown : s.vm.findClass own = some m.cls) (hts : ∀ w ∈ lw_all, w.before args s = true) (hK : va_K G vwCl (oz_kts cB cI) s) (hP : va_P G vwCl ws H) (hD : va_D A ws) (hS : va_S A H0 H locs) (hA : ∀ q, H0.size ≤ q → A q) {r : Int32}
    (hM : Met l y (ws_ y bytes maxL ret) rm (va_Pc (.ref b :: As) (oz_pw G cB cI H.size wc)) (va_Qi (fun (x : Int32) (_ : S) => x = r) (fun u => oz_qw G cB cI (va_A wc H.size) (w1 u)) (va_A wc H.size)) mc ms (va_A wc H.size))
    (hw : GoodIn lw_all (wsV own index C y (ws_ y bytes maxL ret))) (hrc : rm.cells = mc) (hrs : rm.slots = ms) (hd : y.cls = C ∧ y.cls ≠ "java/lang/invoke/MethodHandle" ∧ y.cls ≠ "java/lang/invoke/VarHandle" ∧ (parseMethodDescriptor y.desc).map (fun d => d.parameters.length) = some nA) (hnA : As.length = nA) (hR : rm.frames + 1 ≤ R.frames ∧ 8 + (maxL + 11) + rm.locals ≤ R.locals)
    (isC isR : List Nat) (hC : isC.map (fun i => ws[i]?) = wc.map some) (hRr : isR.map (fun i => ws[i]?) = wr.map some) (hn : va_nd isC = true) (hn2 : va_nd isR = true) (hdis : ∀ i ∈ isR, i ∉ isC) (q0 : Nat) (hrec : wc[q0]? = some (b, .inr (ci, fs))) (hcl : vwCl[ci]? = some (C, T, N))
    (hst : st = As.reverse ++ .ref b :: rest) (hsize : ls.size = nL) (hcat : (rest.map fun v => v.category).sum ≤ 8) (hdg : decode cc pc = .ok (.invokevirtual index, 3)) (hf : cells + mc ≤ R.cells ∧ slots + ms ≤ R.slots) (hw3 : ∀ u, wr ++ w1 u = w3 u)
    (kk : ∀ (u : S) (H1 : Heap) (locs1 : List Loc), va_P G vwCl (w3 u) H1 → va_D A (w3 u) → va_S A H0 H1 locs1 → W p l e R s m args below meth c H1 locs1 (cells + mc) (slots + ms) Q (F0 m (pc + 3) ls (.int r :: rest))) : W p l e R s m args below meth c H locs cells slots Q (F0 m pc ls st) := by
  subst hst
  have hPc := hP.sub isC (oz_k_filter hC)
  have hDc := hD.sub isC hn hC
  have hFc := va_free hD hS hA isC hC
  refine va_calli (va_runV (As := As) (rest := rest) ⟨hx, hb, hml, hown, hts⟩ hM (cwV nA hts hw rfl hrc hrs hd hR) ⟨oz_k_blind, va_recv hK hPc hcl hrec, fun U hU hW => ⟨rfl, by rw [hU], by rw [hU]; exact hPc, va_K.moved hW.alike hK, hDc.weaken (fun _ _ _ _ => trivial)⟩⟩ rfl hnA hsize rfl (lv_room hcat) hdg hf) hS (fun q _ h => hFc q h) hFc (fun r' u t H1 locs1 ht hvm hw1 hB hz1 hk1 hS1 => ?_)
  have hw1 : r' = r := hw1
  subst hw1
  obtain ⟨hP1, hK1, hD1⟩ := hB
  rw [ht] at hP1
  obtain ⟨hP2, hD2⟩ := va_join hP hD isC isR hC hRr hn2 hdis hk1 hFc hP1 hD1
  rw [hw3 u] at hP2 hD2
  exact kk u H1 locs1 hP2 hD2 hS1
theorem oz_kc_l (hx : p.tables.exec = Jvm.exec) (hb : c.code = cc) (hml : c.maxLocals = nL) (hown : s.vm.findClass own = some m.cls) (hts : ∀ w ∈ lw_all, w.before args s = true) (hK : va_K G vwCl (oz_kts cB cI) s) (hP : va_P G vwCl ws H) (hD : va_D A ws) (hS : va_S A H0 H locs) (hA : ∀ q, H0.size ≤ q → A q) {r : Int64}
    (hM : Met l y (ws_ y bytes maxL ret) rm (va_Pc (.ref b :: As) (oz_pw G cB cI H.size wc)) (va_Ql (fun (x : Int64) (_ : S) => x = r) (fun u => oz_qw G cB cI (va_A wc H.size) (w1 u)) (va_A wc H.size)) mc ms (va_A wc H.size))
    (hw : GoodIn lw_all (wsV own index C y (ws_ y bytes maxL ret))) (hrc : rm.cells = mc) (hrs : rm.slots = ms) (hd : y.cls = C ∧ y.cls ≠ "java/lang/invoke/MethodHandle" ∧ y.cls ≠ "java/lang/invoke/VarHandle" ∧ (parseMethodDescriptor y.desc).map (fun d => d.parameters.length) = some nA) (hnA : As.length = nA) (hR : rm.frames + 1 ≤ R.frames ∧ 8 + (maxL + 11) + rm.locals ≤ R.locals)
    (isC isR : List Nat) (hC : isC.map (fun i => ws[i]?) = wc.map some) (hRr : isR.map (fun i => ws[i]?) = wr.map some) (hn : va_nd isC = true) (hn2 : va_nd isR = true) (hdis : ∀ i ∈ isR, i ∉ isC) (q0 : Nat) (hrec : wc[q0]? = some (b, .inr (ci, fs))) (hcl : vwCl[ci]? = some (C, T, N))
    (hst : st = As.reverse ++ .ref b :: rest) (hsize : ls.size = nL) (hcat : (rest.map fun v => v.category).sum ≤ 8) (hdg : decode cc pc = .ok (.invokevirtual index, 3)) (hf : cells + mc ≤ R.cells ∧ slots + ms ≤ R.slots) (hw3 : ∀ u, wr ++ w1 u = w3 u)
    (kk : ∀ (u : S) (H1 : Heap) (locs1 : List Loc), va_P G vwCl (w3 u) H1 → va_D A (w3 u) → va_S A H0 H1 locs1 → W p l e R s m args below meth c H1 locs1 (cells + mc) (slots + ms) Q (F0 m (pc + 3) ls (.long r :: rest))) : W p l e R s m args below meth c H locs cells slots Q (F0 m pc ls st) := by
  subst hst
  have hPc := hP.sub isC (oz_k_filter hC)
  have hDc := hD.sub isC hn hC
  have hFc := va_free hD hS hA isC hC
  refine va_calll (va_runV (As := As) (rest := rest) ⟨hx, hb, hml, hown, hts⟩ hM (cwV nA hts hw rfl hrc hrs hd hR) ⟨oz_k_blind, va_recv hK hPc hcl hrec, fun U hU hW => ⟨rfl, by rw [hU], by rw [hU]; exact hPc, va_K.moved hW.alike hK, hDc.weaken (fun _ _ _ _ => trivial)⟩⟩ rfl hnA hsize rfl (lv_room hcat) hdg hf) hS (fun q _ h => hFc q h) hFc (fun r' u t H1 locs1 ht hvm hw1 hB hz1 hk1 hS1 => ?_)
  have hw1 : r' = r := hw1
  subst hw1
  obtain ⟨hP1, hK1, hD1⟩ := hB
  rw [ht] at hP1
  obtain ⟨hP2, hD2⟩ := va_join hP hD isC isR hC hRr hn2 hdis hk1 hFc hP1 hD1
  rw [hw3 u] at hP2 hD2
  exact kk u H1 locs1 hP2 hD2 hS1
theorem oz_kc_v (hx : p.tables.exec = Jvm.exec) (hb : c.code = cc) (hml : c.maxLocals = nL) (hown : s.vm.findClass own = some m.cls) (hts : ∀ w ∈ lw_all, w.before args s = true) (hK : va_K G vwCl (oz_kts cB cI) s) (hP : va_P G vwCl ws H) (hD : va_D A ws) (hS : va_S A H0 H locs) (hA : ∀ q, H0.size ≤ q → A q)
    (hM : Met l y (ws_ y bytes maxL ret) rm (va_Pc (.ref b :: As) (oz_pw G cB cI H.size wc)) (va_Qv (fun _ : S => True) (fun u => oz_qw G cB cI (va_A wc H.size) (w1 u)) (va_A wc H.size)) mc ms (va_A wc H.size))
    (hw : GoodIn lw_all (wsV own index C y (ws_ y bytes maxL ret))) (hrc : rm.cells = mc) (hrs : rm.slots = ms) (hd : y.cls = C ∧ y.cls ≠ "java/lang/invoke/MethodHandle" ∧ y.cls ≠ "java/lang/invoke/VarHandle" ∧ (parseMethodDescriptor y.desc).map (fun d => d.parameters.length) = some nA) (hnA : As.length = nA) (hR : rm.frames + 1 ≤ R.frames ∧ 8 + (maxL + 11) + rm.locals ≤ R.locals)
    (isC isR : List Nat) (hC : isC.map (fun i => ws[i]?) = wc.map some) (hRr : isR.map (fun i => ws[i]?) = wr.map some) (hn : va_nd isC = true) (hn2 : va_nd isR = true) (hdis : ∀ i ∈ isR, i ∉ isC) (q0 : Nat) (hrec : wc[q0]? = some (b, .inr (ci, fs))) (hcl : vwCl[ci]? = some (C, T, N))
    (hst : st = As.reverse ++ .ref b :: rest) (hsize : ls.size = nL) (hcat : (rest.map fun v => v.category).sum ≤ 8) (hdg : decode cc pc = .ok (.invokevirtual index, 3)) (hf : cells + mc ≤ R.cells ∧ slots + ms ≤ R.slots) (hw3 : ∀ u, wr ++ w1 u = w3 u)
    (kk : ∀ (u : S) (H1 : Heap) (locs1 : List Loc), va_P G vwCl (w3 u) H1 → va_D A (w3 u) → va_S A H0 H1 locs1 → W p l e R s m args below meth c H1 locs1 (cells + mc) (slots + ms) Q (F0 m (pc + 3) ls rest)) : W p l e R s m args below meth c H locs cells slots Q (F0 m pc ls st) := by
  subst hst
  have hPc := hP.sub isC (oz_k_filter hC)
  have hDc := hD.sub isC hn hC
  have hFc := va_free hD hS hA isC hC
  refine va_callv (va_runV (As := As) (rest := rest) ⟨hx, hb, hml, hown, hts⟩ hM (cwV nA hts hw rfl hrc hrs hd hR) ⟨oz_k_blind, va_recv hK hPc hcl hrec, fun U hU hW => ⟨rfl, by rw [hU], by rw [hU]; exact hPc, va_K.moved hW.alike hK, hDc.weaken (fun _ _ _ _ => trivial)⟩⟩ rfl hnA hsize rfl (lv_room hcat) hdg hf) hS (fun q _ h => hFc q h) hFc (fun u t H1 locs1 ht hvm hw1 hB hz1 hk1 hS1 => ?_)
  obtain ⟨hP1, hK1, hD1⟩ := hB
  rw [ht] at hP1
  obtain ⟨hP2, hD2⟩ := va_join hP hD isC isR hC hRr hn2 hdis hk1 hFc hP1 hD1
  rw [hw3 u] at hP2 hD2
  exact kk u H1 locs1 hP2 hD2 hS1
theorem oz_kc_r (hx : p.tables.exec = Jvm.exec) (hb : c.code = cc) (hml : c.maxLocals = nL) (hown : s.vm.findClass own = some m.cls) (hts : ∀ w ∈ lw_all, w.before args s = true) (hK : va_K G vwCl (oz_kts cB cI) s) (hP : va_P G vwCl ws H) (hD : va_D A ws) (hS : va_S A H0 H locs) (hA : ∀ q, H0.size ≤ q → A q)
    (hM : Met l y (ws_ y bytes maxL ret) rm (va_Pc (.ref b :: As) (oz_pw G cB cI H.size wc)) (va_Qr (fun _ : S => True) (fun u z => oz_qw G cB cI (va_A wc H.size) (w1r u z)) (va_A wc H.size)) mc ms (va_A wc H.size))
    (hw : GoodIn lw_all (wsV own index C y (ws_ y bytes maxL ret))) (hrc : rm.cells = mc) (hrs : rm.slots = ms) (hd : y.cls = C ∧ y.cls ≠ "java/lang/invoke/MethodHandle" ∧ y.cls ≠ "java/lang/invoke/VarHandle" ∧ (parseMethodDescriptor y.desc).map (fun d => d.parameters.length) = some nA) (hnA : As.length = nA) (hR : rm.frames + 1 ≤ R.frames ∧ 8 + (maxL + 11) + rm.locals ≤ R.locals)
    (isC isR : List Nat) (hC : isC.map (fun i => ws[i]?) = wc.map some) (hRr : isR.map (fun i => ws[i]?) = wr.map some) (hn : va_nd isC = true) (hn2 : va_nd isR = true) (hdis : ∀ i ∈ isR, i ∉ isC) (q0 : Nat) (hrec : wc[q0]? = some (b, .inr (ci, fs))) (hcl : vwCl[ci]? = some (C, T, N))
    (hst : st = As.reverse ++ .ref b :: rest) (hsize : ls.size = nL) (hcat : (rest.map fun v => v.category).sum ≤ 8) (hdg : decode cc pc = .ok (.invokevirtual index, 3)) (hf : cells + mc ≤ R.cells ∧ slots + ms ≤ R.slots) (hw3 : ∀ u z, wr ++ w1r u z = w3r u z)
    (kk : ∀ (u : S) (z : Nat) (H1 : Heap) (locs1 : List Loc), va_P G vwCl (w3r u z) H1 → va_D A (w3r u z) → va_S A H0 H1 locs1 → W p l e R s m args below meth c H1 locs1 (cells + mc) (slots + ms) Q (F0 m (pc + 3) ls (.ref z :: rest))) : W p l e R s m args below meth c H locs cells slots Q (F0 m pc ls st) := by
  subst hst
  have hPc := hP.sub isC (oz_k_filter hC)
  have hDc := hD.sub isC hn hC
  have hFc := va_free hD hS hA isC hC
  refine va_callr (va_runV (As := As) (rest := rest) ⟨hx, hb, hml, hown, hts⟩ hM (cwV nA hts hw rfl hrc hrs hd hR) ⟨oz_k_blind, va_recv hK hPc hcl hrec, fun U hU hW => ⟨rfl, by rw [hU], by rw [hU]; exact hPc, va_K.moved hW.alike hK, hDc.weaken (fun _ _ _ _ => trivial)⟩⟩ rfl hnA hsize rfl (lv_room hcat) hdg hf) hS (fun q _ h => hFc q h) hFc (fun u z t H1 locs1 ht hvm hw1 hB hz1 hk1 hS1 => ?_)
  obtain ⟨hP1, hK1, hD1⟩ := hB
  rw [ht] at hP1
  obtain ⟨hP2, hD2⟩ := va_join hP hD isC isR hC hRr hn2 hdis hk1 hFc hP1 hD1
  rw [hw3 u z] at hP2 hD2
  exact kk u z H1 locs1 hP2 hD2 hS1
theorem oz_kc_s (hx : p.tables.exec = Jvm.exec) (hb : c.code = cc) (hml : c.maxLocals = nL) (hown : s.vm.findClass own = some m.cls) (hts : ∀ w ∈ lw_all, w.before args s = true) (hK : va_K G vwCl (oz_kts cB cI) s) (hP : va_P G vwCl ws H) (hD : va_D A ws) (hS : va_S A H0 H locs) (hA : ∀ q, H0.size ≤ q → A q)
    (hM : Met l y (ws_ y bytes maxL ret) rm (va_Pc As (oz_pw G cB cI H.size wc)) (va_Qv (fun _ : S => True) (fun u => oz_qw G cB cI (va_A wc H.size) (w1 u)) (va_A wc H.size)) mc ms (va_A wc H.size))
    (hw : GoodIn lw_all (va_wsS own index y (ws_ y bytes maxL ret))) (hrc : rm.cells = mc) (hrs : rm.slots = ms) (hd : y.cls ≠ "java/lang/invoke/MethodHandle" ∧ y.cls ≠ "java/lang/invoke/VarHandle" ∧ (parseMethodDescriptor y.desc).map (fun d => d.parameters.length) = some nA) (hnA : As.length = nA) (hR : rm.frames + 1 ≤ R.frames ∧ 8 + (maxL + 11) + rm.locals ≤ R.locals)
    (isC isR : List Nat) (hC : isC.map (fun i => ws[i]?) = wc.map some) (hRr : isR.map (fun i => ws[i]?) = wr.map some) (hn : va_nd isC = true) (hn2 : va_nd isR = true) (hdis : ∀ i ∈ isR, i ∉ isC)
    (hst : st = As.reverse ++ rest) (hsize : ls.size = nL) (hcat : (rest.map fun v => v.category).sum ≤ 8) (hdg : decode cc pc = .ok (.invokestatic index, 3)) (hf : cells + mc ≤ R.cells ∧ slots + ms ≤ R.slots) (hw3 : ∀ u, wr ++ w1 u = w3 u)
    (kk : ∀ (u : S) (H1 : Heap) (locs1 : List Loc), va_P G vwCl (w3 u) H1 → va_D A (w3 u) → va_S A H0 H1 locs1 → W p l e R s m args below meth c H1 locs1 (cells + mc) (slots + ms) Q (F0 m (pc + 3) ls rest)) : W p l e R s m args below meth c H locs cells slots Q (F0 m pc ls st) := by
  subst hst
  have hPc := hP.sub isC (oz_k_filter hC)
  have hDc := hD.sub isC hn hC
  have hFc := va_free hD hS hA isC hC
  refine va_callv (va_runS (As := As) (rest := rest) ⟨hx, hb, hml, hown, hts⟩ hM (va_cwS nA hts hw rfl hrc hrs hd hR) ⟨oz_k_blind, fun U hU hW => ⟨rfl, by rw [hU], by rw [hU]; exact hPc, va_K.moved hW.alike hK, hDc.weaken (fun _ _ _ _ => trivial)⟩⟩ rfl hnA hsize rfl (lv_room hcat) hdg hf) hS (fun q _ h => hFc q h) hFc (fun u t H1 locs1 ht hvm hw1 hB hz1 hk1 hS1 => ?_)
  obtain ⟨hP1, hK1, hD1⟩ := hB
  rw [ht] at hP1
  obtain ⟨hP2, hD2⟩ := va_join hP hD isC isR hC hRr hn2 hdis hk1 hFc hP1 hD1
  rw [hw3 u] at hP2 hD2
  exact kk u H1 locs1 hP2 hD2 hS1
theorem oz_kc_n (hx : p.tables.exec = Jvm.exec) (hb : c.code = cc) (hml : c.maxLocals = nL) (hown : s.vm.findClass own = some m.cls) (hts : ∀ w ∈ lw_all, w.before args s = true) (hK : va_K G vwCl (oz_kts cB cI) s) (hP : va_P G vwCl ws H) (hD : va_D A ws) (hS : va_S A H0 H locs) (hA : ∀ q, H0.size ≤ q → A q)
    (hM : Met l y (ws_ y bytes maxL none) rm (va_Pc (.ref b :: As) (oz_pw G cB cI H.size wc)) (va_Qv (fun _ : S => True) (fun u => oz_qw G cB cI (va_A wc H.size) (w1 u)) (va_A wc H.size)) mc ms (va_A wc H.size))
    (hcode : Cond.code y bytes maxL none ∈ lw_all) (hrc : rm.cells = mc) (hrs : rm.slots = ms) (hini : (Cond.initialized y.cls).before args s = true) (hl : (Cond.methodLink own index y).before args s = true) (hin : (Cond.instanceMethod y).before args s = true) (hy1 : y.name = "<init>") (hd : y.cls ≠ "java/lang/invoke/MethodHandle" ∧ y.cls ≠ "java/lang/invoke/VarHandle" ∧ (parseMethodDescriptor y.desc).map (fun d => d.parameters.length) = some nA) (hnA : As.length = nA) (hR : rm.frames + 1 ≤ R.frames ∧ 8 + (maxL + 11) + rm.locals ≤ R.locals)
    (isC isR : List Nat) (hC : isC.map (fun i => ws[i]?) = wc.map some) (hRr : isR.map (fun i => ws[i]?) = wr.map some) (hn : va_nd isC = true) (hn2 : va_nd isR = true) (hdis : ∀ i ∈ isR, i ∉ isC)
    (hst : st = As.reverse ++ .ref b :: rest) (hsize : ls.size = nL) (hcat : (rest.map fun v => v.category).sum ≤ 8) (hdg : decode cc pc = .ok (.invokespecial index, 3)) (hf : cells + mc ≤ R.cells ∧ slots + ms ≤ R.slots) (hw3 : ∀ u, wr ++ w1 u = w3 u)
    (kk : ∀ (u : S) (H1 : Heap) (locs1 : List Loc), va_P G vwCl (w3 u) H1 → va_D A (w3 u) → va_S A H0 H1 locs1 → W p l e R s m args below meth c H1 locs1 (cells + mc) (slots + ms) Q (F0 m (pc + 3) ls rest)) : W p l e R s m args below meth c H locs cells slots Q (F0 m pc ls st) := by
  subst hst
  have hPc := hP.sub isC (oz_k_filter hC)
  have hDc := hD.sub isC hn hC
  have hFc := va_free hD hS hA isC hC
  refine va_callv (va_runI (As := As) (rest := rest) ⟨hx, hb, hml, hown, hts⟩ hM (cwI nA hts (lw_meth hcode) rfl hrc hrs hini hl hin hy1 hd hR) ⟨oz_k_blind, fun U hU hW => ⟨rfl, by rw [hU], by rw [hU]; exact hPc, va_K.moved hW.alike hK, hDc.weaken (fun _ _ _ _ => trivial)⟩⟩ rfl hnA hsize rfl (lv_room hcat) hdg hf) hS (fun q _ h => hFc q h) hFc (fun u t H1 locs1 ht hvm hw1 hB hz1 hk1 hS1 => ?_)
  obtain ⟨hP1, hK1, hD1⟩ := hB
  rw [ht] at hP1
  obtain ⟨hP2, hD2⟩ := va_join hP hD isC isR hC hRr hn2 hdis hk1 hFc hP1 hD1
  rw [hw3 u] at hP2 hD2
  exact kk u H1 locs1 hP2 hD2 hS1
end OWROWS
end
section
/-! OwnBuffer: contracts -/
set_option maxRecDepth 100000
/-- getOffSet: how much was read -/
abbrev rm_X1_getOffSet : Room := ({ frames := 0, cells := 0, slots := 0, locals := 0 } : Room)
set_option maxHeartbeats 4000000 in
set_option maxRecDepth 100000 in
theorem mt_X1_getOffSet (l : Launch) (G : va_G) (cB cI : ClassId) (sz : Nat) (q t b i k : Nat) (fM fW : Nat → oz_By)  : Met l yX1_getOffSet (ws_ yX1_getOffSet cX1_getOffSet 1 (some .int)) rm_X1_getOffSet (va_Pc [.ref q] (oz_pw G cB cI sz [oz_oO q t b i k, oz_oB cB t 4 fM, oz_oB cB b 2048 fW])) (va_Qi (fun (x9 : Int32) (_ : Unit) => x9 = nI k) (fun (u : Unit) => oz_qw G cB cI (va_A [oz_oO q t b i k, oz_oB cB t 4 fM, oz_oB cB b 2048 fW] sz) [oz_oO q t b i k, oz_oB cB t 4 fM, oz_oB cB b 2048 fW]) (va_A [oz_oO q t b i k, oz_oB cB t 4 fM, oz_oB cB b 2048 fW] sz)) 0 0 (va_A [oz_oO q t b i k, oz_oB cB t 4 fM, oz_oB cB b 2048 fW] sz) := by
  refine Met.ofW (cc := cX1_getOffSet) (maxL := 1) (ret := (some .int)) (by decide) rfl ?_
  intro p e s m args below meth c s₁ B hml hv
  obtain ⟨rfl, hsz, hP, hK, hD0⟩ := hv
  have hx := B.exec
  have hb := B.bytes
  have hr := B.returns
  have hts := atoms_spec (ws := (ws_ yX1_getOffSet cX1_getOffSet 1 (some .int))) B.pre
  have hts : ∀ w ∈ lw_all, w.before _ s = true := fun w h => hts w (List.mem_cons_of_mem _ h)
  have hown : s.vm.findClass RX1 = some m.cls := findClass_of_methodNamed B.named
  have hlocks := B.notSynchronized
  subst hsz
  have hD := hD0.self (sz := s.heap.size)
  generalize hAe : va_A [oz_oO q t b i k, oz_oB cB t 4 fM, oz_oB cB b 2048 fW] s.heap.size = A at hD ⊢
  have hA : ∀ q9 : Nat, s.heap.size ≤ q9 → A q9 := fun q9 h => by rw [← hAe]; exact Or.inr h
  have hS : va_S A s.heap s.heap [] := va_S.rf
  have hP : va_P G vwCl [oz_oO q t b i k, oz_oB cB t 4 fM, oz_oB cB b 2048 fW] s.heap := hP
  have hl := lv_entry ([.ref q]) (n := 1) (Nat.le_of_ble_eq_true rfl)
  rw [lg_entry_eq]
  generalize (lg_sl ([.ref q]) ++ List.replicate (1 - (lg_sl ([.ref q])).length) Slot.unset).toArray = ls at hl ⊢
  have hl : lv_has ls 1 [(0, .ref q)] := hl
  refine lv_aload_n hx hb dX1_getOffSet_0 rfl (lv_at hl 0 rfl) ?_
  refine va_get (D := G) (ci := 1) (v := .int (nI k)) (C := RX1) (T := TX1) (N := 4) hx hb hts in_X1 hown hK hP 0 rfl rfl 3 (by decide) (hts _ q35) (fun _ h9 => h9) rfl dX1_getOffSet_1 ?_
  exact W.iret (v := nI k) hx hb hr (fun t9 ht hW => ⟨⟨_, (), rfl, rfl, by rw [ht]; exact hP, va_K.moved hW.alike hK, hD⟩, hS.F ht⟩) hS.2.2 dX1_getOffSet_4

/-- getLength: what is left -/
abbrev rm_X1_getLength : Room := ({ frames := 0, cells := 0, slots := 0, locals := 0 } : Room)
set_option maxHeartbeats 4000000 in
set_option maxRecDepth 100000 in
theorem mt_X1_getLength (l : Launch) (G : va_G) (cB cI : ClassId) (sz : Nat) (q t b i k : Nat) (fM fW : Nat → oz_By) (hik : k ≤ i) : Met l yX1_getLength (ws_ yX1_getLength cX1_getLength 1 (some .int)) rm_X1_getLength (va_Pc [.ref q] (oz_pw G cB cI sz [oz_oO q t b i k, oz_oB cB t 4 fM, oz_oB cB b 2048 fW])) (va_Qi (fun (x9 : Int32) (_ : Unit) => x9 = nI (i - k)) (fun (u : Unit) => oz_qw G cB cI (va_A [oz_oO q t b i k, oz_oB cB t 4 fM, oz_oB cB b 2048 fW] sz) [oz_oO q t b i k, oz_oB cB t 4 fM, oz_oB cB b 2048 fW]) (va_A [oz_oO q t b i k, oz_oB cB t 4 fM, oz_oB cB b 2048 fW] sz)) 0 0 (va_A [oz_oO q t b i k, oz_oB cB t 4 fM, oz_oB cB b 2048 fW] sz) := by
  refine Met.ofW (cc := cX1_getLength) (maxL := 1) (ret := (some .int)) (by decide) rfl ?_
  intro p e s m args below meth c s₁ B hml hv
  obtain ⟨rfl, hsz, hP, hK, hD0⟩ := hv
  have hx := B.exec
  have hb := B.bytes
  have hr := B.returns
  have hts := atoms_spec (ws := (ws_ yX1_getLength cX1_getLength 1 (some .int))) B.pre
  have hts : ∀ w ∈ lw_all, w.before _ s = true := fun w h => hts w (List.mem_cons_of_mem _ h)
  have hown : s.vm.findClass RX1 = some m.cls := findClass_of_methodNamed B.named
  have hlocks := B.notSynchronized
  subst hsz
  have hD := hD0.self (sz := s.heap.size)
  generalize hAe : va_A [oz_oO q t b i k, oz_oB cB t 4 fM, oz_oB cB b 2048 fW] s.heap.size = A at hD ⊢
  have hA : ∀ q9 : Nat, s.heap.size ≤ q9 → A q9 := fun q9 h => by rw [← hAe]; exact Or.inr h
  have hS : va_S A s.heap s.heap [] := va_S.rf
  have hP : va_P G vwCl [oz_oO q t b i k, oz_oB cB t 4 fM, oz_oB cB b 2048 fW] s.heap := hP
  have hl := lv_entry ([.ref q]) (n := 1) (Nat.le_of_ble_eq_true rfl)
  rw [lg_entry_eq]
  generalize (lg_sl ([.ref q]) ++ List.replicate (1 - (lg_sl ([.ref q])).length) Slot.unset).toArray = ls at hl ⊢
  have hl : lv_has ls 1 [(0, .ref q)] := hl
  refine lv_aload_n hx hb dX1_getLength_0 rfl (lv_at hl 0 rfl) ?_
  refine va_get (D := G) (ci := 1) (v := .int (nI i)) (C := RX1) (T := TX1) (N := 4) hx hb hts in_X1 hown hK hP 0 rfl rfl 2 (by decide) (hts _ q33) (fun _ h9 => h9) rfl dX1_getLength_1 ?_
  refine lv_aload_n hx hb dX1_getLength_4 rfl (lv_at hl 0 rfl) ?_
  refine va_get (D := G) (ci := 1) (v := .int (nI k)) (C := RX1) (T := TX1) (N := 4) hx hb hts in_X1 hown hK hP 0 rfl rfl 3 (by decide) (hts _ q35) (fun _ h9 => h9) rfl dX1_getLength_5 ?_
  refine oz_ksub hx hb (hik) dX1_getLength_8 ?_
  exact W.iret (v := nI (i - k)) hx hb hr (fun t9 ht hW => ⟨⟨_, (), rfl, rfl, by rw [ht]; exact hP, va_K.moved hW.alike hK, hD⟩, hS.F ht⟩) hS.2.2 dX1_getLength_9

/-- rewind -/
abbrev rm_X1_rewind : Room := ({ frames := 0, cells := 0, slots := 0, locals := 0 } : Room)
set_option maxHeartbeats 4000000 in
set_option maxRecDepth 100000 in
theorem mt_X1_rewind (l : Launch) (G : va_G) (cB cI : ClassId) (sz : Nat) (q t b i k : Nat) (fM fW : Nat → oz_By)  : Met l yX1_rewind (ws_ yX1_rewind cX1_rewind 1 none) rm_X1_rewind (va_Pc [.ref q] (oz_pw G cB cI sz [oz_oO q t b i k, oz_oB cB t 4 fM, oz_oB cB b 2048 fW])) (va_Qv (fun _ : Unit => True) (fun (u : Unit) => oz_qw G cB cI (va_A [oz_oO q t b i k, oz_oB cB t 4 fM, oz_oB cB b 2048 fW] sz) [oz_oO q t b i 0, oz_oB cB t 4 fM, oz_oB cB b 2048 fW]) (va_A [oz_oO q t b i k, oz_oB cB t 4 fM, oz_oB cB b 2048 fW] sz)) 0 0 (va_A [oz_oO q t b i k, oz_oB cB t 4 fM, oz_oB cB b 2048 fW] sz) := by
  refine Met.ofW (cc := cX1_rewind) (maxL := 1) (ret := none) (by decide) rfl ?_
  intro p e s m args below meth c s₁ B hml hv
  obtain ⟨rfl, hsz, hP, hK, hD0⟩ := hv
  have hx := B.exec
  have hb := B.bytes
  have hr := B.returns
  have hts := atoms_spec (ws := (ws_ yX1_rewind cX1_rewind 1 none)) B.pre
  have hts : ∀ w ∈ lw_all, w.before _ s = true := fun w h => hts w (List.mem_cons_of_mem _ h)
  have hown : s.vm.findClass RX1 = some m.cls := findClass_of_methodNamed B.named
  have hlocks := B.notSynchronized
  subst hsz
  have hD := hD0.self (sz := s.heap.size)
  generalize hAe : va_A [oz_oO q t b i k, oz_oB cB t 4 fM, oz_oB cB b 2048 fW] s.heap.size = A at hD ⊢
  have hA : ∀ q9 : Nat, s.heap.size ≤ q9 → A q9 := fun q9 h => by rw [← hAe]; exact Or.inr h
  have hS : va_S A s.heap s.heap [] := va_S.rf
  have hP : va_P G vwCl [oz_oO q t b i k, oz_oB cB t 4 fM, oz_oB cB b 2048 fW] s.heap := hP
  have hl := lv_entry ([.ref q]) (n := 1) (Nat.le_of_ble_eq_true rfl)
  rw [lg_entry_eq]
  generalize (lg_sl ([.ref q]) ++ List.replicate (1 - (lg_sl ([.ref q])).length) Slot.unset).toArray = ls at hl ⊢
  have hl : lv_has ls 1 [(0, .ref q)] := hl
  refine lv_aload_n hx hb dX1_rewind_0 rfl (lv_at hl 0 rfl) ?_
  refine lv_iconst (v := nI 0) hx hb dX1_rewind_1 (by decide) ?_
  refine va_put (D := G) (ci := 1) (v := .int (nI 0)) (ty := .int) (C := RX1) (T := TX1) (N := 4) hx hb hts in_X1 tyX1 tyX1_ok nmX1 hown hK hP hD hS 0 rfl rfl 3 (by decide) (hts _ q35) (fun _ h9 => h9) rfl (by decide +kernel) rfl rfl (Nat.le_of_ble_eq_true rfl) dX1_rewind_2 (fun H locs hP hD hS => ?_)
  have hP : va_P G vwCl [oz_oO q t b i 0, oz_oB cB t 4 fM, oz_oB cB b 2048 fW] H := hP
  have hD : va_D A [oz_oO q t b i 0, oz_oB cB t 4 fM, oz_oB cB b 2048 fW] := hD
  exact W.vret hx hb hr (fun t9 ht hW => ⟨⟨(), rfl, trivial, by rw [ht]; exact hP, va_K.moved hW.alike hK, hD⟩, hS.F ht⟩) hS.2.2 dX1_rewind_5

/-- OwnBuffer(2048) -/
abbrev rm_X1_init : Room := ({ frames := 1, cells := 2, slots := 2052, locals := 12 } : Room)
set_option maxHeartbeats 4000000 in
set_option maxRecDepth 100000 in
theorem mt_X1_init (l : Launch) (G : va_G) (cB cI : ClassId) (sz : Nat) (q : Nat)  : Met l yX1_init (ws_ yX1_init cX1_init 2 none) rm_X1_init (va_Pc [.ref q, .int (nI 2048)] (oz_pw G cB cI sz [(q, .inr (1, [.null, .null, .int 0, .int 0]))])) (va_Qv (fun _ : (Nat × Nat) => True) (fun (u : (Nat × Nat)) => oz_qw G cB cI (va_A [(q, .inr (1, [.null, .null, .int 0, .int 0]))] sz) [oz_oO q u.1 u.2 0 0, oz_oB cB u.1 4 oz_z8, oz_oB cB u.2 2048 oz_z8]) (va_A [(q, .inr (1, [.null, .null, .int 0, .int 0]))] sz)) 2 2052 (va_A [(q, .inr (1, [.null, .null, .int 0, .int 0]))] sz) := by
  refine Met.ofW (cc := cX1_init) (maxL := 2) (ret := none) (by decide) rfl ?_
  intro p e s m args below meth c s₁ B hml hv
  obtain ⟨rfl, hsz, hP, hK, hD0⟩ := hv
  have hx := B.exec
  have hb := B.bytes
  have hr := B.returns
  have hts := atoms_spec (ws := (ws_ yX1_init cX1_init 2 none)) B.pre
  have hts : ∀ w ∈ lw_all, w.before _ s = true := fun w h => hts w (List.mem_cons_of_mem _ h)
  have hown : s.vm.findClass RX1 = some m.cls := findClass_of_methodNamed B.named
  have hlocks := B.notSynchronized
  have hin : meth.name = "<init>" := (name_of_methodNamed B.named B.method).1
  subst hsz
  have hD := hD0.self (sz := s.heap.size)
  generalize hAe : va_A [(q, .inr (1, [.null, .null, .int 0, .int 0]))] s.heap.size = A at hD ⊢
  have hA : ∀ q9 : Nat, s.heap.size ≤ q9 → A q9 := fun q9 h => by rw [← hAe]; exact Or.inr h
  have hS : va_S A s.heap s.heap [] := va_S.rf
  have hP : va_P G vwCl [(q, .inr (1, [.null, .null, .int 0, .int 0]))] s.heap := hP
  have hl := lv_entry ([.ref q, .int (nI 2048)]) (n := 2) (Nat.le_of_ble_eq_true rfl)
  rw [lg_entry_eq]
  generalize (lg_sl ([.ref q, .int (nI 2048)]) ++ List.replicate (2 - (lg_sl ([.ref q, .int (nI 2048)])).length) Slot.unset).toArray = ls at hl ⊢
  have hl : lv_has ls 2 [(0, .ref q), (1, .int (nI 2048))] := hl
  refine lv_aload_n hx hb dX1_init_0 rfl (lv_at hl 0 rfl) ?_
  refine W.objInit hx hb hown (hts _ q29) (hts _ q22) (hts _ q23) rfl (by rw [hml]; exact hl.1) rfl dX1_init_1 (Nat.le_of_ble_eq_true rfl) (Nat.le_of_ble_eq_true rfl) ?_
  refine W.eq (g2 := F0 m 4 ls []) rfl ?_
  refine lv_aload_n hx hb dX1_init_4 rfl (lv_at hl 0 rfl) ?_
  refine lv_iconst (v := nI 4) hx hb dX1_init_5 (by decide) ?_
  refine oz_kb_new hx hb (hts _ q45) hK hP hD hS hA (N := 4) (by decide) (Nat.le_of_ble_eq_true rfl) (Nat.le_of_ble_eq_true rfl) dX1_init_6 (fun t H hP hD hS => ?_)
  have hP : va_P G vwCl [(q, .inr (1, [.null, .null, .int 0, .int 0])), oz_oB cB t 4 oz_z8] H := hP
  have hD : va_D A [(q, .inr (1, [.null, .null, .int 0, .int 0])), oz_oB cB t 4 oz_z8] := hD
  refine va_putF (D := G) (ci := 1) (v := .ref t) (ty := .array .byte) (C := RX1) (T := TX1) (N := 4) hx hb hts in_X1 tyX1 tyX1_ok nmX1 hown hK hP hD hS 0 rfl rfl 0 (by decide) (hts _ q30) (fun _ h9 => h9) rfl hin rfl (by decide +kernel) rfl rfl (Nat.le_of_ble_eq_true rfl) dX1_init_8 (fun H locs hP hD hS => ?_)
  have hP : va_P G vwCl [(q, .inr (1, [.ref t, .null, .int 0, .int 0])), oz_oB cB t 4 oz_z8] H := hP
  have hD : va_D A [(q, .inr (1, [.ref t, .null, .int 0, .int 0])), oz_oB cB t 4 oz_z8] := hD
  refine lv_aload_n hx hb dX1_init_11 rfl (lv_at hl 0 rfl) ?_
  refine lv_iload_n hx hb dX1_init_12 rfl (lv_at hl 1 rfl) ?_
  refine oz_kb_new hx hb (hts _ q45) hK hP hD hS hA (N := 2048) (by decide) (Nat.le_of_ble_eq_true rfl) (Nat.le_of_ble_eq_true rfl) dX1_init_13 (fun b H hP hD hS => ?_)
  have hP : va_P G vwCl [(q, .inr (1, [.ref t, .null, .int 0, .int 0])), oz_oB cB t 4 oz_z8, oz_oB cB b 2048 oz_z8] H := hP
  have hD : va_D A [(q, .inr (1, [.ref t, .null, .int 0, .int 0])), oz_oB cB t 4 oz_z8, oz_oB cB b 2048 oz_z8] := hD
  refine va_put (D := G) (ci := 1) (v := .ref b) (ty := .array .byte) (C := RX1) (T := TX1) (N := 4) hx hb hts in_X1 tyX1 tyX1_ok nmX1 hown hK hP hD hS 0 rfl rfl 1 (by decide) (hts _ q31) (fun _ h9 => h9) rfl (by decide +kernel) rfl rfl (Nat.le_of_ble_eq_true rfl) dX1_init_15 (fun H locs hP hD hS => ?_)
  have hP : va_P G vwCl [(q, .inr (1, [.ref t, .ref b, .int 0, .int 0])), oz_oB cB t 4 oz_z8, oz_oB cB b 2048 oz_z8] H := hP
  have hD : va_D A [(q, .inr (1, [.ref t, .ref b, .int 0, .int 0])), oz_oB cB t 4 oz_z8, oz_oB cB b 2048 oz_z8] := hD
  refine lv_aload_n hx hb dX1_init_18 rfl (lv_at hl 0 rfl) ?_
  refine lv_iconst (v := nI 0) hx hb dX1_init_19 (by decide) ?_
  refine va_put (D := G) (ci := 1) (v := .int (nI 0)) (ty := .int) (C := RX1) (T := TX1) (N := 4) hx hb hts in_X1 tyX1 tyX1_ok nmX1 hown hK hP hD hS 0 rfl rfl 2 (by decide) (hts _ q33) (fun _ h9 => h9) rfl (by decide +kernel) rfl rfl (Nat.le_of_ble_eq_true rfl) dX1_init_20 (fun H locs hP hD hS => ?_)
  have hP : va_P G vwCl [(q, .inr (1, [.ref t, .ref b, .int (nI 0), .int 0])), oz_oB cB t 4 oz_z8, oz_oB cB b 2048 oz_z8] H := hP
  have hD : va_D A [(q, .inr (1, [.ref t, .ref b, .int (nI 0), .int 0])), oz_oB cB t 4 oz_z8, oz_oB cB b 2048 oz_z8] := hD
  refine lv_aload_n hx hb dX1_init_23 rfl (lv_at hl 0 rfl) ?_
  refine lv_iconst (v := nI 0) hx hb dX1_init_24 (by decide) ?_
  refine va_put (D := G) (ci := 1) (v := .int (nI 0)) (ty := .int) (C := RX1) (T := TX1) (N := 4) hx hb hts in_X1 tyX1 tyX1_ok nmX1 hown hK hP hD hS 0 rfl rfl 3 (by decide) (hts _ q35) (fun _ h9 => h9) rfl (by decide +kernel) rfl rfl (Nat.le_of_ble_eq_true rfl) dX1_init_25 (fun H locs hP hD hS => ?_)
  have hP : va_P G vwCl [oz_oO q t b 0 0, oz_oB cB t 4 oz_z8, oz_oB cB b 2048 oz_z8] H := hP
  have hD : va_D A [oz_oO q t b 0 0, oz_oB cB t 4 oz_z8, oz_oB cB b 2048 oz_z8] := hD
  exact W.vret hx hb hr (fun t9 ht hW => ⟨⟨(t, b), rfl, trivial, by rw [ht]; exact hP, va_K.moved hW.alike hK, hD⟩, hS.F ht⟩) hS.2.2 dX1_init_28

/-- putByte: one byte more -/
abbrev rm_X1_putByte : Room := ({ frames := 0, cells := 0, slots := 0, locals := 0 } : Room)
set_option maxHeartbeats 4000000 in
set_option maxRecDepth 100000 in
theorem mt_X1_putByte (l : Launch) (G : va_G) (cB cI : ClassId) (sz : Nat) (q t b i k : Nat) (fM fW : Nat → oz_By) (v : oz_By) (hi : i < 2048) : Met l yX1_putByte (ws_ yX1_putByte cX1_putByte 2 none) rm_X1_putByte (va_Pc [.ref q, .int ((oz_dB v))] (oz_pw G cB cI sz [oz_oO q t b i k, oz_oB cB t 4 fM, oz_oB cB b 2048 fW])) (va_Qv (fun _ : Unit => True) (fun (u : Unit) => oz_qw G cB cI (va_A [oz_oO q t b i k, oz_oB cB t 4 fM, oz_oB cB b 2048 fW] sz) [oz_oO q t b (i + 1) k, oz_oB cB t 4 fM, oz_oB cB b 2048 (oz_un fW i v)]) (va_A [oz_oO q t b i k, oz_oB cB t 4 fM, oz_oB cB b 2048 fW] sz)) 0 0 (va_A [oz_oO q t b i k, oz_oB cB t 4 fM, oz_oB cB b 2048 fW] sz) := by
  refine Met.ofW (cc := cX1_putByte) (maxL := 2) (ret := none) (by decide) rfl ?_
  intro p e s m args below meth c s₁ B hml hv
  obtain ⟨rfl, hsz, hP, hK, hD0⟩ := hv
  have hx := B.exec
  have hb := B.bytes
  have hr := B.returns
  have hts := atoms_spec (ws := (ws_ yX1_putByte cX1_putByte 2 none)) B.pre
  have hts : ∀ w ∈ lw_all, w.before _ s = true := fun w h => hts w (List.mem_cons_of_mem _ h)
  have hown : s.vm.findClass RX1 = some m.cls := findClass_of_methodNamed B.named
  have hlocks := B.notSynchronized
  subst hsz
  have hD := hD0.self (sz := s.heap.size)
  generalize hAe : va_A [oz_oO q t b i k, oz_oB cB t 4 fM, oz_oB cB b 2048 fW] s.heap.size = A at hD ⊢
  have hA : ∀ q9 : Nat, s.heap.size ≤ q9 → A q9 := fun q9 h => by rw [← hAe]; exact Or.inr h
  have hS : va_S A s.heap s.heap [] := va_S.rf
  have hP : va_P G vwCl [oz_oO q t b i k, oz_oB cB t 4 fM, oz_oB cB b 2048 fW] s.heap := hP
  have hl := lv_entry ([.ref q, .int ((oz_dB v))]) (n := 2) (Nat.le_of_ble_eq_true rfl)
  rw [lg_entry_eq]
  generalize (lg_sl ([.ref q, .int ((oz_dB v))]) ++ List.replicate (2 - (lg_sl ([.ref q, .int ((oz_dB v))])).length) Slot.unset).toArray = ls at hl ⊢
  have hl : lv_has ls 2 [(0, .ref q), (1, .int ((oz_dB v)))] := hl
  refine lv_aload_n hx hb dX1_putByte_0 rfl (lv_at hl 0 rfl) ?_
  refine va_get (D := G) (ci := 1) (v := .ref b) (C := RX1) (T := TX1) (N := 4) hx hb hts in_X1 hown hK hP 0 rfl rfl 1 (by decide) (hts _ q31) (fun _ h9 => h9) rfl dX1_putByte_1 ?_
  refine lv_aload_n hx hb dX1_putByte_4 rfl (lv_at hl 0 rfl) ?_
  refine lv_dup hx hb dX1_putByte_5 rfl ?_
  refine va_get (D := G) (ci := 1) (v := .int (nI i)) (C := RX1) (T := TX1) (N := 4) hx hb hts in_X1 hown hK hP 0 rfl rfl 2 (by decide) (hts _ q33) (fun _ h9 => h9) rfl dX1_putByte_6 ?_
  refine lv_dup_x1 hx hb dX1_putByte_9 rfl rfl ?_
  refine lv_iconst (v := nI 1) hx hb dX1_putByte_10 (by decide) ?_
  refine oz_kadd hx hb dX1_putByte_11 ?_
  refine va_put (D := G) (ci := 1) (v := .int (nI (i + 1))) (ty := .int) (C := RX1) (T := TX1) (N := 4) hx hb hts in_X1 tyX1 tyX1_ok nmX1 hown hK hP hD hS 0 rfl rfl 2 (by decide) (hts _ q33) (fun _ h9 => h9) rfl (by decide +kernel) rfl rfl (Nat.le_of_ble_eq_true rfl) dX1_putByte_12 (fun H locs hP hD hS => ?_)
  have hP : va_P G vwCl [oz_oO q t b (i + 1) k, oz_oB cB t 4 fM, oz_oB cB b 2048 fW] H := hP
  have hD : va_D A [oz_oO q t b (i + 1) k, oz_oB cB t 4 fM, oz_oB cB b 2048 fW] := hD
  refine lv_iload_n hx hb dX1_putByte_15 rfl (lv_at hl 1 rfl) ?_
  refine oz_kb_st (w2 := [oz_oO q t b (i + 1) k, oz_oB cB t 4 fM, oz_oB cB b 2048 (oz_un fW i v)]) hx hb hK hP hD hS 2 v rfl (hi) (by decide) (oz_dB_8 v) dX1_putByte_16 (rfl) (fun H locs hP hD hS => ?_)
  exact W.vret hx hb hr (fun t9 ht hW => ⟨⟨(), rfl, trivial, by rw [ht]; exact hP, va_K.moved hW.alike hK, hD⟩, hS.F ht⟩) hS.2.2 dX1_putByte_17

/-- putByte(foo, begin, length) -/
abbrev rm_X1_putByte_2 : Room := ({ frames := 1, cells := 0, slots := 0, locals := 18 } : Room)
set_option maxHeartbeats 4000000 in
set_option maxRecDepth 100000 in
theorem mt_X1_putByte_2 (l : Launch) (G : va_G) (cB cI : ClassId) (sz : Nat) (q t b i k : Nat) (fM fW : Nat → oz_By) (z zn : Nat) (fZ : Nat → oz_By) (g n : Nat) (hz : g + n ≤ zn) (hzn : zn < 2 ^ 31) (hi : i + n ≤ 2048) : Met l yX1_putByte_2 (ws_ yX1_putByte_2 cX1_putByte_2 4 none) rm_X1_putByte_2 (va_Pc [.ref q, .ref z, .int (nI g), .int (nI n)] (oz_pw G cB cI sz [oz_oO q t b i k, oz_oB cB t 4 fM, oz_oB cB b 2048 fW, oz_oB cB z zn fZ])) (va_Qv (fun _ : Unit => True) (fun (u : Unit) => oz_qw G cB cI (va_A [oz_oO q t b i k, oz_oB cB t 4 fM, oz_oB cB b 2048 fW, oz_oB cB z zn fZ] sz) [oz_oO q t b (i + n) k, oz_oB cB t 4 fM, oz_oB cB b 2048 (va_cpy fZ fW g i n), oz_oB cB z zn fZ]) (va_A [oz_oO q t b i k, oz_oB cB t 4 fM, oz_oB cB b 2048 fW, oz_oB cB z zn fZ] sz)) 0 0 (va_A [oz_oO q t b i k, oz_oB cB t 4 fM, oz_oB cB b 2048 fW, oz_oB cB z zn fZ] sz) := by
  refine Met.ofW (cc := cX1_putByte_2) (maxL := 4) (ret := none) (by decide) rfl ?_
  intro p e s m args below meth c s₁ B hml hv
  obtain ⟨rfl, hsz, hP, hK, hD0⟩ := hv
  have hx := B.exec
  have hb := B.bytes
  have hr := B.returns
  have hts := atoms_spec (ws := (ws_ yX1_putByte_2 cX1_putByte_2 4 none)) B.pre
  have hts : ∀ w ∈ lw_all, w.before _ s = true := fun w h => hts w (List.mem_cons_of_mem _ h)
  have hown : s.vm.findClass RX1 = some m.cls := findClass_of_methodNamed B.named
  have hlocks := B.notSynchronized
  subst hsz
  have hD := hD0.self (sz := s.heap.size)
  generalize hAe : va_A [oz_oO q t b i k, oz_oB cB t 4 fM, oz_oB cB b 2048 fW, oz_oB cB z zn fZ] s.heap.size = A at hD ⊢
  have hA : ∀ q9 : Nat, s.heap.size ≤ q9 → A q9 := fun q9 h => by rw [← hAe]; exact Or.inr h
  have hS : va_S A s.heap s.heap [] := va_S.rf
  have hP : va_P G vwCl [oz_oO q t b i k, oz_oB cB t 4 fM, oz_oB cB b 2048 fW, oz_oB cB z zn fZ] s.heap := hP
  have hl := lv_entry ([.ref q, .ref z, .int (nI g), .int (nI n)]) (n := 4) (Nat.le_of_ble_eq_true rfl)
  rw [lg_entry_eq]
  generalize (lg_sl ([.ref q, .ref z, .int (nI g), .int (nI n)]) ++ List.replicate (4 - (lg_sl ([.ref q, .ref z, .int (nI g), .int (nI n)])).length) Slot.unset).toArray = ls at hl ⊢
  have hl : lv_has ls 4 [(0, .ref q), (1, .ref z), (2, .int (nI g)), (3, .int (nI n))] := hl
  refine lv_aload_n hx hb dX1_putByte_2_0 rfl (lv_at hl 1 rfl) ?_
  refine lv_iload_n hx hb dX1_putByte_2_1 rfl (lv_at hl 2 rfl) ?_
  refine lv_aload_n hx hb dX1_putByte_2_2 rfl (lv_at hl 0 rfl) ?_
  refine va_get (D := G) (ci := 1) (v := .ref b) (C := RX1) (T := TX1) (N := 4) hx hb hts in_X1 hown hK hP 0 rfl rfl 1 (by decide) (hts _ q31) (fun _ h9 => h9) rfl dX1_putByte_2_3 ?_
  refine lv_aload_n hx hb dX1_putByte_2_6 rfl (lv_at hl 0 rfl) ?_
  refine va_get (D := G) (ci := 1) (v := .int (nI i)) (C := RX1) (T := TX1) (N := 4) hx hb hts in_X1 hown hK hP 0 rfl rfl 2 (by decide) (hts _ q33) (fun _ h9 => h9) rfl dX1_putByte_2_7 ?_
  refine lv_iload_n hx hb dX1_putByte_2_10 rfl (lv_at hl 3 rfl) ?_
  refine oz_kb_cp (w2 := [oz_oO q t b i k, oz_oB cB t 4 fM, oz_oB cB b 2048 (va_cpy fZ fW g i n), oz_oB cB z zn fZ]) hx hb (by rw [hml]; exact hl.1.symm) hown (hts _ q91) (hts _ q93) (hts _ q92) (hts _ q15) hK hP hD hS 3 2 rfl rfl (hz) (hi) (hzn) (by omega) (Nat.le_of_ble_eq_true rfl) (Nat.le_of_ble_eq_true rfl) dX1_putByte_2_11 (rfl) (fun H locs hP hD hS => ?_)
  refine lv_aload_n hx hb dX1_putByte_2_14 rfl (lv_at hl 0 rfl) ?_
  refine lv_dup hx hb dX1_putByte_2_15 rfl ?_
  refine va_get (D := G) (ci := 1) (v := .int (nI i)) (C := RX1) (T := TX1) (N := 4) hx hb hts in_X1 hown hK hP 0 rfl rfl 2 (by decide) (hts _ q33) (fun _ h9 => h9) rfl dX1_putByte_2_16 ?_
  refine lv_iload_n hx hb dX1_putByte_2_19 rfl (lv_at hl 3 rfl) ?_
  refine oz_kadd hx hb dX1_putByte_2_20 ?_
  refine va_put (D := G) (ci := 1) (v := .int (nI (i + n))) (ty := .int) (C := RX1) (T := TX1) (N := 4) hx hb hts in_X1 tyX1 tyX1_ok nmX1 hown hK hP hD hS 0 rfl rfl 2 (by decide) (hts _ q33) (fun _ h9 => h9) rfl (by decide +kernel) rfl rfl (Nat.le_of_ble_eq_true rfl) dX1_putByte_2_21 (fun H locs hP hD hS => ?_)
  have hP : va_P G vwCl [oz_oO q t b (i + n) k, oz_oB cB t 4 fM, oz_oB cB b 2048 (va_cpy fZ fW g i n), oz_oB cB z zn fZ] H := hP
  have hD : va_D A [oz_oO q t b (i + n) k, oz_oB cB t 4 fM, oz_oB cB b 2048 (va_cpy fZ fW g i n), oz_oB cB z zn fZ] := hD
  exact W.vret hx hb hr (fun t9 ht hW => ⟨⟨(), rfl, trivial, by rw [ht]; exact hP, va_K.moved hW.alike hK, hD⟩, hS.F ht⟩) hS.2.2 dX1_putByte_2_24

/-- putByte(foo) -/
abbrev rm_X1_putByte_3 : Room := ({ frames := 2, cells := 0, slots := 0, locals := 41 } : Room)
set_option maxHeartbeats 4000000 in
set_option maxRecDepth 100000 in
theorem mt_X1_putByte_3 (l : Launch) (G : va_G) (cB cI : ClassId) (sz : Nat) (q t b i k : Nat) (fM fW : Nat → oz_By) (z zn : Nat) (fZ : Nat → oz_By) (hzn : zn < 2 ^ 31) (hi : i + zn ≤ 2048) : Met l yX1_putByte_3 (ws_ yX1_putByte_3 cX1_putByte_3 2 none) rm_X1_putByte_3 (va_Pc [.ref q, .ref z] (oz_pw G cB cI sz [oz_oO q t b i k, oz_oB cB t 4 fM, oz_oB cB b 2048 fW, oz_oB cB z zn fZ])) (va_Qv (fun _ : Unit => True) (fun (u : Unit) => oz_qw G cB cI (va_A [oz_oO q t b i k, oz_oB cB t 4 fM, oz_oB cB b 2048 fW, oz_oB cB z zn fZ] sz) [oz_oO q t b (i + zn) k, oz_oB cB t 4 fM, oz_oB cB b 2048 (va_cpy fZ fW 0 i zn), oz_oB cB z zn fZ]) (va_A [oz_oO q t b i k, oz_oB cB t 4 fM, oz_oB cB b 2048 fW, oz_oB cB z zn fZ] sz)) 0 0 (va_A [oz_oO q t b i k, oz_oB cB t 4 fM, oz_oB cB b 2048 fW, oz_oB cB z zn fZ] sz) := by
  refine Met.ofW (cc := cX1_putByte_3) (maxL := 2) (ret := none) (by decide) rfl ?_
  intro p e s m args below meth c s₁ B hml hv
  obtain ⟨rfl, hsz, hP, hK, hD0⟩ := hv
  have hx := B.exec
  have hb := B.bytes
  have hr := B.returns
  have hts := atoms_spec (ws := (ws_ yX1_putByte_3 cX1_putByte_3 2 none)) B.pre
  have hts : ∀ w ∈ lw_all, w.before _ s = true := fun w h => hts w (List.mem_cons_of_mem _ h)
  have hown : s.vm.findClass RX1 = some m.cls := findClass_of_methodNamed B.named
  have hlocks := B.notSynchronized
  subst hsz
  have hD := hD0.self (sz := s.heap.size)
  generalize hAe : va_A [oz_oO q t b i k, oz_oB cB t 4 fM, oz_oB cB b 2048 fW, oz_oB cB z zn fZ] s.heap.size = A at hD ⊢
  have hA : ∀ q9 : Nat, s.heap.size ≤ q9 → A q9 := fun q9 h => by rw [← hAe]; exact Or.inr h
  have hS : va_S A s.heap s.heap [] := va_S.rf
  have hP : va_P G vwCl [oz_oO q t b i k, oz_oB cB t 4 fM, oz_oB cB b 2048 fW, oz_oB cB z zn fZ] s.heap := hP
  have hl := lv_entry ([.ref q, .ref z]) (n := 2) (Nat.le_of_ble_eq_true rfl)
  rw [lg_entry_eq]
  generalize (lg_sl ([.ref q, .ref z]) ++ List.replicate (2 - (lg_sl ([.ref q, .ref z])).length) Slot.unset).toArray = ls at hl ⊢
  have hl : lv_has ls 2 [(0, .ref q), (1, .ref z)] := hl
  refine lv_aload_n hx hb dX1_putByte_3_0 rfl (lv_at hl 0 rfl) ?_
  refine lv_aload_n hx hb dX1_putByte_3_1 rfl (lv_at hl 1 rfl) ?_
  refine lv_iconst (v := nI 0) hx hb dX1_putByte_3_2 (by decide) ?_
  refine lv_aload_n hx hb dX1_putByte_3_3 rfl (lv_at hl 1 rfl) ?_
  refine va_alen (v := nI zn) hx hb hK hP 3 0 rfl rfl rfl dX1_putByte_3_4 ?_
  refine oz_kc_v (nA := 3) (As := [.ref z, .int (nI 0), .int (nI zn)]) (rest := []) (wr := []) (w3 := fun (u : Unit) => [oz_oO q t b (i + zn) k, oz_oB cB t 4 fM, oz_oB cB b 2048 (va_cpy fZ fW 0 i zn), oz_oB cB z zn fZ]) (C := RX1) hx hb hml hown hts hK hP hD hS hA (mt_X1_putByte_2 l G cB cI s.heap.size q t b i k fM fW z zn fZ 0 zn (by omega) hzn hi) (lw_V q124 q125 q126 q13 q127) rfl rfl (by decide +kernel) rfl ⟨Nat.le_of_ble_eq_true rfl, Nat.le_of_ble_eq_true rfl⟩ [0, 1, 2, 3] [] rfl rfl rfl rfl (by decide) 0 rfl rfl rfl hl.1 (Nat.le_of_ble_eq_true rfl) dX1_putByte_3_5 ⟨Nat.le_of_ble_eq_true rfl, Nat.le_of_ble_eq_true rfl⟩ (fun _ => rfl) (fun _ H locs hP hD hS => ?_)
  have hP : va_P G vwCl [oz_oO q t b (i + zn) k, oz_oB cB t 4 fM, oz_oB cB b 2048 (va_cpy fZ fW 0 i zn), oz_oB cB z zn fZ] H := hP
  have hD : va_D A [oz_oO q t b (i + zn) k, oz_oB cB t 4 fM, oz_oB cB b 2048 (va_cpy fZ fW 0 i zn), oz_oB cB z zn fZ] := hD
  exact W.vret hx hb hr (fun t9 ht hW => ⟨⟨(), rfl, trivial, by rw [ht]; exact hP, va_K.moved hW.alike hK, hD⟩, hS.F ht⟩) hS.2.2 dX1_putByte_3_8

/-- putInt: four bytes, the highest first -/
abbrev rm_X1_putInt : Room := ({ frames := 1, cells := 0, slots := 0, locals := 18 } : Room)
set_option maxHeartbeats 4000000 in
set_option maxRecDepth 100000 in
theorem mt_X1_putInt (l : Launch) (G : va_G) (cB cI : ClassId) (sz : Nat) (q t b i k : Nat) (fM fW : Nat → oz_By) (v : Nat) (hv : v < 2 ^ 32) (hi : i + 4 ≤ 2048) : Met l yX1_putInt (ws_ yX1_putInt cX1_putInt 2 none) rm_X1_putInt (va_Pc [.ref q, .int (nI v)] (oz_pw G cB cI sz [oz_oO q t b i k, oz_oB cB t 4 fM, oz_oB cB b 2048 fW])) (va_Qv (fun _ : (Nat → oz_By) => True) (fun (u : (Nat → oz_By)) => oz_qw G cB cI (va_A [oz_oO q t b i k, oz_oB cB t 4 fM, oz_oB cB b 2048 fW] sz) [oz_oO q t b (i + 4) k, oz_oB cB t 4 u, oz_oB cB b 2048 (oz_pb fW i 4 v)]) (va_A [oz_oO q t b i k, oz_oB cB t 4 fM, oz_oB cB b 2048 fW] sz)) 0 0 (va_A [oz_oO q t b i k, oz_oB cB t 4 fM, oz_oB cB b 2048 fW] sz) := by
  refine Met.ofW (cc := cX1_putInt) (maxL := 2) (ret := none) (by decide) rfl ?_
  intro p e s m args below meth c s₁ B hml hv
  obtain ⟨rfl, hsz, hP, hK, hD0⟩ := hv
  have hx := B.exec
  have hb := B.bytes
  have hr := B.returns
  have hts := atoms_spec (ws := (ws_ yX1_putInt cX1_putInt 2 none)) B.pre
  have hts : ∀ w ∈ lw_all, w.before _ s = true := fun w h => hts w (List.mem_cons_of_mem _ h)
  have hown : s.vm.findClass RX1 = some m.cls := findClass_of_methodNamed B.named
  have hlocks := B.notSynchronized
  subst hsz
  have hD := hD0.self (sz := s.heap.size)
  generalize hAe : va_A [oz_oO q t b i k, oz_oB cB t 4 fM, oz_oB cB b 2048 fW] s.heap.size = A at hD ⊢
  have hA : ∀ q9 : Nat, s.heap.size ≤ q9 → A q9 := fun q9 h => by rw [← hAe]; exact Or.inr h
  have hS : va_S A s.heap s.heap [] := va_S.rf
  have hP : va_P G vwCl [oz_oO q t b i k, oz_oB cB t 4 fM, oz_oB cB b 2048 fW] s.heap := hP
  have hl := lv_entry ([.ref q, .int (nI v)]) (n := 2) (Nat.le_of_ble_eq_true rfl)
  rw [lg_entry_eq]
  generalize (lg_sl ([.ref q, .int (nI v)]) ++ List.replicate (2 - (lg_sl ([.ref q, .int (nI v)])).length) Slot.unset).toArray = ls at hl ⊢
  have hl : lv_has ls 2 [(0, .ref q), (1, .int (nI v))] := hl
  refine lv_aload_n hx hb dX1_putInt_0 rfl (lv_at hl 0 rfl) ?_
  refine va_get (D := G) (ci := 1) (v := .ref t) (C := RX1) (T := TX1) (N := 4) hx hb hts in_X1 hown hK hP 0 rfl rfl 0 (by decide) (hts _ q30) (fun _ h9 => h9) rfl dX1_putInt_1 ?_
  refine lv_iconst (v := nI 0) hx hb dX1_putInt_4 (by decide) ?_
  refine lv_iload_n hx hb dX1_putInt_5 rfl (lv_at hl 1 rfl) ?_
  refine lv_bipush (v := nI 24) hx hb dX1_putInt_6 (by decide) ?_
  refine lv_iushr (v := nI (v / 2 ^ 24)) hx hb dX1_putInt_8 (oz_ushr_N 24 (by decide) hv) ?_
  refine lv_i2b (v := oz_dB (oz_bN (v / 2 ^ 24))) hx hb dX1_putInt_9 (oz_dB_i (v / 2 ^ 24)) ?_
  refine oz_kb_st (w2 := [oz_oO q t b i k, oz_oB cB t 4 (oz_un fM 0 (oz_bN (v / 2 ^ 24))), oz_oB cB b 2048 fW]) hx hb hK hP hD hS 1 (oz_bN (v / 2 ^ 24)) rfl (by decide) (by decide) (oz_dB_8 _) dX1_putInt_10 (rfl) (fun H locs hP hD hS => ?_)
  refine lv_aload_n hx hb dX1_putInt_11 rfl (lv_at hl 0 rfl) ?_
  refine va_get (D := G) (ci := 1) (v := .ref t) (C := RX1) (T := TX1) (N := 4) hx hb hts in_X1 hown hK hP 0 rfl rfl 0 (by decide) (hts _ q30) (fun _ h9 => h9) rfl dX1_putInt_12 ?_
  refine lv_iconst (v := nI 1) hx hb dX1_putInt_15 (by decide) ?_
  refine lv_iload_n hx hb dX1_putInt_16 rfl (lv_at hl 1 rfl) ?_
  refine lv_bipush (v := nI 16) hx hb dX1_putInt_17 (by decide) ?_
  refine lv_iushr (v := nI (v / 2 ^ 16)) hx hb dX1_putInt_19 (oz_ushr_N 16 (by decide) hv) ?_
  refine lv_i2b (v := oz_dB (oz_bN (v / 2 ^ 16))) hx hb dX1_putInt_20 (oz_dB_i (v / 2 ^ 16)) ?_
  refine oz_kb_st (w2 := [oz_oO q t b i k, oz_oB cB t 4 (oz_un (oz_un fM 0 (oz_bN (v / 2 ^ 24))) 1 (oz_bN (v / 2 ^ 16))), oz_oB cB b 2048 fW]) hx hb hK hP hD hS 1 (oz_bN (v / 2 ^ 16)) rfl (by decide) (by decide) (oz_dB_8 _) dX1_putInt_21 (rfl) (fun H locs hP hD hS => ?_)
  refine lv_aload_n hx hb dX1_putInt_22 rfl (lv_at hl 0 rfl) ?_
  refine va_get (D := G) (ci := 1) (v := .ref t) (C := RX1) (T := TX1) (N := 4) hx hb hts in_X1 hown hK hP 0 rfl rfl 0 (by decide) (hts _ q30) (fun _ h9 => h9) rfl dX1_putInt_23 ?_
  refine lv_iconst (v := nI 2) hx hb dX1_putInt_26 (by decide) ?_
  refine lv_iload_n hx hb dX1_putInt_27 rfl (lv_at hl 1 rfl) ?_
  refine lv_bipush (v := nI 8) hx hb dX1_putInt_28 (by decide) ?_
  refine lv_iushr (v := nI (v / 2 ^ 8)) hx hb dX1_putInt_30 (oz_ushr_N 8 (by decide) hv) ?_
  refine lv_i2b (v := oz_dB (oz_bN (v / 2 ^ 8))) hx hb dX1_putInt_31 (oz_dB_i (v / 2 ^ 8)) ?_
  refine oz_kb_st (w2 := [oz_oO q t b i k, oz_oB cB t 4 (oz_un (oz_un (oz_un fM 0 (oz_bN (v / 2 ^ 24))) 1 (oz_bN (v / 2 ^ 16))) 2 (oz_bN (v / 2 ^ 8))), oz_oB cB b 2048 fW]) hx hb hK hP hD hS 1 (oz_bN (v / 2 ^ 8)) rfl (by decide) (by decide) (oz_dB_8 _) dX1_putInt_32 (rfl) (fun H locs hP hD hS => ?_)
  refine lv_aload_n hx hb dX1_putInt_33 rfl (lv_at hl 0 rfl) ?_
  refine va_get (D := G) (ci := 1) (v := .ref t) (C := RX1) (T := TX1) (N := 4) hx hb hts in_X1 hown hK hP 0 rfl rfl 0 (by decide) (hts _ q30) (fun _ h9 => h9) rfl dX1_putInt_34 ?_
  refine lv_iconst (v := nI 3) hx hb dX1_putInt_37 (by decide) ?_
  refine lv_iload_n hx hb dX1_putInt_38 rfl (lv_at hl 1 rfl) ?_
  refine lv_i2b (v := oz_dB (oz_bN v)) hx hb dX1_putInt_39 (oz_dB_i v) ?_
  refine oz_kb_st (w2 := [oz_oO q t b i k, oz_oB cB t 4 (oz_un (oz_un (oz_un (oz_un fM 0 (oz_bN (v / 2 ^ 24))) 1 (oz_bN (v / 2 ^ 16))) 2 (oz_bN (v / 2 ^ 8))) 3 (oz_bN v)), oz_oB cB b 2048 fW]) hx hb hK hP hD hS 1 (oz_bN v) rfl (by decide) (by decide) (oz_dB_8 _) dX1_putInt_40 (rfl) (fun H locs hP hD hS => ?_)
  refine lv_aload_n hx hb dX1_putInt_41 rfl (lv_at hl 0 rfl) ?_
  refine va_get (D := G) (ci := 1) (v := .ref t) (C := RX1) (T := TX1) (N := 4) hx hb hts in_X1 hown hK hP 0 rfl rfl 0 (by decide) (hts _ q30) (fun _ h9 => h9) rfl dX1_putInt_42 ?_
  refine lv_iconst (v := nI 0) hx hb dX1_putInt_45 (by decide) ?_
  refine lv_aload_n hx hb dX1_putInt_46 rfl (lv_at hl 0 rfl) ?_
  refine va_get (D := G) (ci := 1) (v := .ref b) (C := RX1) (T := TX1) (N := 4) hx hb hts in_X1 hown hK hP 0 rfl rfl 1 (by decide) (hts _ q31) (fun _ h9 => h9) rfl dX1_putInt_47 ?_
  refine lv_aload_n hx hb dX1_putInt_50 rfl (lv_at hl 0 rfl) ?_
  refine va_get (D := G) (ci := 1) (v := .int (nI i)) (C := RX1) (T := TX1) (N := 4) hx hb hts in_X1 hown hK hP 0 rfl rfl 2 (by decide) (hts _ q33) (fun _ h9 => h9) rfl dX1_putInt_51 ?_
  refine lv_iconst (v := nI 4) hx hb dX1_putInt_54 (by decide) ?_
  refine oz_kb_cp (w2 := [oz_oO q t b i k, oz_oB cB t 4 (oz_un (oz_un (oz_un (oz_un fM 0 (oz_bN (v / 2 ^ 24))) 1 (oz_bN (v / 2 ^ 16))) 2 (oz_bN (v / 2 ^ 8))) 3 (oz_bN v)), oz_oB cB b 2048 (va_cpy (oz_un (oz_un (oz_un (oz_un fM 0 (oz_bN (v / 2 ^ 24))) 1 (oz_bN (v / 2 ^ 16))) 2 (oz_bN (v / 2 ^ 8))) 3 (oz_bN v)) fW 0 i 4)]) hx hb (by rw [hml]; exact hl.1.symm) hown (hts _ q91) (hts _ q93) (hts _ q92) (hts _ q15) hK hP hD hS 1 2 rfl rfl (by decide) (hi) (by decide) (by omega) (Nat.le_of_ble_eq_true rfl) (Nat.le_of_ble_eq_true rfl) dX1_putInt_55 (rfl) (fun H locs hP hD hS => ?_)
  rw [oz_pc_4, oz_pb_4 fW i v] at hP hD
  refine lv_aload_n hx hb dX1_putInt_58 rfl (lv_at hl 0 rfl) ?_
  refine lv_dup hx hb dX1_putInt_59 rfl ?_
  refine va_get (D := G) (ci := 1) (v := .int (nI i)) (C := RX1) (T := TX1) (N := 4) hx hb hts in_X1 hown hK hP 0 rfl rfl 2 (by decide) (hts _ q33) (fun _ h9 => h9) rfl dX1_putInt_60 ?_
  refine lv_iconst (v := nI 4) hx hb dX1_putInt_63 (by decide) ?_
  refine oz_kadd hx hb dX1_putInt_64 ?_
  refine va_put (D := G) (ci := 1) (v := .int (nI (i + 4))) (ty := .int) (C := RX1) (T := TX1) (N := 4) hx hb hts in_X1 tyX1 tyX1_ok nmX1 hown hK hP hD hS 0 rfl rfl 2 (by decide) (hts _ q33) (fun _ h9 => h9) rfl (by decide +kernel) rfl rfl (Nat.le_of_ble_eq_true rfl) dX1_putInt_65 (fun H locs hP hD hS => ?_)
  have hP : va_P G vwCl [oz_oO q t b (i + 4) k, oz_oB cB t 4 (oz_un (oz_un (oz_un (oz_un fM 0 (oz_bN (v / 2 ^ 24))) 1 (oz_bN (v / 2 ^ 16))) 2 (oz_bN (v / 2 ^ 8))) 3 (oz_bN v)), oz_oB cB b 2048 (oz_pb fW i 4 v)] H := hP
  have hD : va_D A [oz_oO q t b (i + 4) k, oz_oB cB t 4 (oz_un (oz_un (oz_un (oz_un fM 0 (oz_bN (v / 2 ^ 24))) 1 (oz_bN (v / 2 ^ 16))) 2 (oz_bN (v / 2 ^ 8))) 3 (oz_bN v)), oz_oB cB b 2048 (oz_pb fW i 4 v)] := hD
  exact W.vret hx hb hr (fun t9 ht hW => ⟨⟨_, rfl, trivial, by rw [ht]; exact hP, va_K.moved hW.alike hK, hD⟩, hS.F ht⟩) hS.2.2 dX1_putInt_68

/-- putLong: eight bytes, the highest first -/
abbrev rm_X1_putLong : Room := ({ frames := 1, cells := 0, slots := 0, locals := 18 } : Room)
set_option maxHeartbeats 4000000 in
set_option maxRecDepth 100000 in
theorem mt_X1_putLong (l : Launch) (G : va_G) (cB cI : ClassId) (sz : Nat) (q t b i k : Nat) (fM fW : Nat → oz_By) (v : Nat) (hv : v < 2 ^ 64) (hi : i + 8 ≤ 2048) : Met l yX1_putLong (ws_ yX1_putLong cX1_putLong 3 none) rm_X1_putLong (va_Pc [.ref q, .long (lN v)] (oz_pw G cB cI sz [oz_oO q t b i k, oz_oB cB t 4 fM, oz_oB cB b 2048 fW])) (va_Qv (fun _ : (Nat → oz_By) => True) (fun (u : (Nat → oz_By)) => oz_qw G cB cI (va_A [oz_oO q t b i k, oz_oB cB t 4 fM, oz_oB cB b 2048 fW] sz) [oz_oO q t b (i + 8) k, oz_oB cB t 4 u, oz_oB cB b 2048 (oz_pb (oz_pb fW i 4 (v / 2 ^ 32)) (i + 4) 4 v)]) (va_A [oz_oO q t b i k, oz_oB cB t 4 fM, oz_oB cB b 2048 fW] sz)) 0 0 (va_A [oz_oO q t b i k, oz_oB cB t 4 fM, oz_oB cB b 2048 fW] sz) := by
  refine Met.ofW (cc := cX1_putLong) (maxL := 3) (ret := none) (by decide) rfl ?_
  intro p e s m args below meth c s₁ B hml hv
  obtain ⟨rfl, hsz, hP, hK, hD0⟩ := hv
  have hx := B.exec
  have hb := B.bytes
  have hr := B.returns
  have hts := atoms_spec (ws := (ws_ yX1_putLong cX1_putLong 3 none)) B.pre
  have hts : ∀ w ∈ lw_all, w.before _ s = true := fun w h => hts w (List.mem_cons_of_mem _ h)
  have hown : s.vm.findClass RX1 = some m.cls := findClass_of_methodNamed B.named
  have hlocks := B.notSynchronized
  subst hsz
  have hD := hD0.self (sz := s.heap.size)
  generalize hAe : va_A [oz_oO q t b i k, oz_oB cB t 4 fM, oz_oB cB b 2048 fW] s.heap.size = A at hD ⊢
  have hA : ∀ q9 : Nat, s.heap.size ≤ q9 → A q9 := fun q9 h => by rw [← hAe]; exact Or.inr h
  have hS : va_S A s.heap s.heap [] := va_S.rf
  have hP : va_P G vwCl [oz_oO q t b i k, oz_oB cB t 4 fM, oz_oB cB b 2048 fW] s.heap := hP
  have hl := lv_entry ([.ref q, .long (lN v)]) (n := 3) (Nat.le_of_ble_eq_true rfl)
  rw [lg_entry_eq]
  generalize (lg_sl ([.ref q, .long (lN v)]) ++ List.replicate (3 - (lg_sl ([.ref q, .long (lN v)])).length) Slot.unset).toArray = ls at hl ⊢
  have hl : lv_has ls 3 [(0, .ref q), (1, .long (lN v))] := hl
  refine lv_aload_n hx hb dX1_putLong_0 rfl (lv_at hl 0 rfl) ?_
  refine va_get (D := G) (ci := 1) (v := .ref t) (C := RX1) (T := TX1) (N := 4) hx hb hts in_X1 hown hK hP 0 rfl rfl 0 (by decide) (hts _ q30) (fun _ h9 => h9) rfl dX1_putLong_1 ?_
  refine lv_iconst (v := nI 0) hx hb dX1_putLong_4 (by decide) ?_
  refine lv_lload_n hx hb dX1_putLong_5 rfl (lv_at hl 1 rfl) ?_
  refine lv_bipush (v := nI 56) hx hb dX1_putLong_6 (by decide) ?_
  refine lv_lushr (v := lN (v / 2 ^ 56)) hx hb dX1_putLong_8 (oz_ushr_L 56 (by decide) hv) ?_
  refine lv_l2i (v := nI (v / 2 ^ 56)) hx hb dX1_putLong_9 (lN_i (v / 2 ^ 56)) ?_
  refine lv_i2b (v := oz_dB (oz_bN (v / 2 ^ 56))) hx hb dX1_putLong_10 (oz_dB_i (v / 2 ^ 56)) ?_
  refine oz_kb_st (w2 := [oz_oO q t b i k, oz_oB cB t 4 (oz_un fM 0 (oz_bN (v / 2 ^ 56))), oz_oB cB b 2048 fW]) hx hb hK hP hD hS 1 (oz_bN (v / 2 ^ 56)) rfl (by decide) (by decide) (oz_dB_8 _) dX1_putLong_11 (rfl) (fun H locs hP hD hS => ?_)
  refine lv_aload_n hx hb dX1_putLong_12 rfl (lv_at hl 0 rfl) ?_
  refine va_get (D := G) (ci := 1) (v := .ref t) (C := RX1) (T := TX1) (N := 4) hx hb hts in_X1 hown hK hP 0 rfl rfl 0 (by decide) (hts _ q30) (fun _ h9 => h9) rfl dX1_putLong_13 ?_
  refine lv_iconst (v := nI 1) hx hb dX1_putLong_16 (by decide) ?_
  refine lv_lload_n hx hb dX1_putLong_17 rfl (lv_at hl 1 rfl) ?_
  refine lv_bipush (v := nI 48) hx hb dX1_putLong_18 (by decide) ?_
  refine lv_lushr (v := lN (v / 2 ^ 48)) hx hb dX1_putLong_20 (oz_ushr_L 48 (by decide) hv) ?_
  refine lv_l2i (v := nI (v / 2 ^ 48)) hx hb dX1_putLong_21 (lN_i (v / 2 ^ 48)) ?_
  refine lv_i2b (v := oz_dB (oz_bN (v / 2 ^ 48))) hx hb dX1_putLong_22 (oz_dB_i (v / 2 ^ 48)) ?_
  refine oz_kb_st (w2 := [oz_oO q t b i k, oz_oB cB t 4 (oz_un (oz_un fM 0 (oz_bN (v / 2 ^ 56))) 1 (oz_bN (v / 2 ^ 48))), oz_oB cB b 2048 fW]) hx hb hK hP hD hS 1 (oz_bN (v / 2 ^ 48)) rfl (by decide) (by decide) (oz_dB_8 _) dX1_putLong_23 (rfl) (fun H locs hP hD hS => ?_)
  refine lv_aload_n hx hb dX1_putLong_24 rfl (lv_at hl 0 rfl) ?_
  refine va_get (D := G) (ci := 1) (v := .ref t) (C := RX1) (T := TX1) (N := 4) hx hb hts in_X1 hown hK hP 0 rfl rfl 0 (by decide) (hts _ q30) (fun _ h9 => h9) rfl dX1_putLong_25 ?_
  refine lv_iconst (v := nI 2) hx hb dX1_putLong_28 (by decide) ?_
  refine lv_lload_n hx hb dX1_putLong_29 rfl (lv_at hl 1 rfl) ?_
  refine lv_bipush (v := nI 40) hx hb dX1_putLong_30 (by decide) ?_
  refine lv_lushr (v := lN (v / 2 ^ 40)) hx hb dX1_putLong_32 (oz_ushr_L 40 (by decide) hv) ?_
  refine lv_l2i (v := nI (v / 2 ^ 40)) hx hb dX1_putLong_33 (lN_i (v / 2 ^ 40)) ?_
  refine lv_i2b (v := oz_dB (oz_bN (v / 2 ^ 40))) hx hb dX1_putLong_34 (oz_dB_i (v / 2 ^ 40)) ?_
  refine oz_kb_st (w2 := [oz_oO q t b i k, oz_oB cB t 4 (oz_un (oz_un (oz_un fM 0 (oz_bN (v / 2 ^ 56))) 1 (oz_bN (v / 2 ^ 48))) 2 (oz_bN (v / 2 ^ 40))), oz_oB cB b 2048 fW]) hx hb hK hP hD hS 1 (oz_bN (v / 2 ^ 40)) rfl (by decide) (by decide) (oz_dB_8 _) dX1_putLong_35 (rfl) (fun H locs hP hD hS => ?_)
  refine lv_aload_n hx hb dX1_putLong_36 rfl (lv_at hl 0 rfl) ?_
  refine va_get (D := G) (ci := 1) (v := .ref t) (C := RX1) (T := TX1) (N := 4) hx hb hts in_X1 hown hK hP 0 rfl rfl 0 (by decide) (hts _ q30) (fun _ h9 => h9) rfl dX1_putLong_37 ?_
  refine lv_iconst (v := nI 3) hx hb dX1_putLong_40 (by decide) ?_
  refine lv_lload_n hx hb dX1_putLong_41 rfl (lv_at hl 1 rfl) ?_
  refine lv_bipush (v := nI 32) hx hb dX1_putLong_42 (by decide) ?_
  refine lv_lushr (v := lN (v / 2 ^ 32)) hx hb dX1_putLong_44 (oz_ushr_L 32 (by decide) hv) ?_
  refine lv_l2i (v := nI (v / 2 ^ 32)) hx hb dX1_putLong_45 (lN_i (v / 2 ^ 32)) ?_
  refine lv_i2b (v := oz_dB (oz_bN (v / 2 ^ 32))) hx hb dX1_putLong_46 (oz_dB_i (v / 2 ^ 32)) ?_
  refine oz_kb_st (w2 := [oz_oO q t b i k, oz_oB cB t 4 (oz_un (oz_un (oz_un (oz_un fM 0 (oz_bN (v / 2 ^ 56))) 1 (oz_bN (v / 2 ^ 48))) 2 (oz_bN (v / 2 ^ 40))) 3 (oz_bN (v / 2 ^ 32))), oz_oB cB b 2048 fW]) hx hb hK hP hD hS 1 (oz_bN (v / 2 ^ 32)) rfl (by decide) (by decide) (oz_dB_8 _) dX1_putLong_47 (rfl) (fun H locs hP hD hS => ?_)
  refine lv_aload_n hx hb dX1_putLong_48 rfl (lv_at hl 0 rfl) ?_
  refine va_get (D := G) (ci := 1) (v := .ref t) (C := RX1) (T := TX1) (N := 4) hx hb hts in_X1 hown hK hP 0 rfl rfl 0 (by decide) (hts _ q30) (fun _ h9 => h9) rfl dX1_putLong_49 ?_
  refine lv_iconst (v := nI 0) hx hb dX1_putLong_52 (by decide) ?_
  refine lv_aload_n hx hb dX1_putLong_53 rfl (lv_at hl 0 rfl) ?_
  refine va_get (D := G) (ci := 1) (v := .ref b) (C := RX1) (T := TX1) (N := 4) hx hb hts in_X1 hown hK hP 0 rfl rfl 1 (by decide) (hts _ q31) (fun _ h9 => h9) rfl dX1_putLong_54 ?_
  refine lv_aload_n hx hb dX1_putLong_57 rfl (lv_at hl 0 rfl) ?_
  refine va_get (D := G) (ci := 1) (v := .int (nI i)) (C := RX1) (T := TX1) (N := 4) hx hb hts in_X1 hown hK hP 0 rfl rfl 2 (by decide) (hts _ q33) (fun _ h9 => h9) rfl dX1_putLong_58 ?_
  refine lv_iconst (v := nI 4) hx hb dX1_putLong_61 (by decide) ?_
  refine oz_kb_cp (w2 := [oz_oO q t b i k, oz_oB cB t 4 (oz_un (oz_un (oz_un (oz_un fM 0 (oz_bN (v / 2 ^ 56))) 1 (oz_bN (v / 2 ^ 48))) 2 (oz_bN (v / 2 ^ 40))) 3 (oz_bN (v / 2 ^ 32))), oz_oB cB b 2048 (va_cpy (oz_un (oz_un (oz_un (oz_un fM 0 (oz_bN (v / 2 ^ 56))) 1 (oz_bN (v / 2 ^ 48))) 2 (oz_bN (v / 2 ^ 40))) 3 (oz_bN (v / 2 ^ 32))) fW 0 i 4)]) hx hb (by rw [hml]; exact hl.1.symm) hown (hts _ q91) (hts _ q93) (hts _ q92) (hts _ q15) hK hP hD hS 1 2 rfl rfl (by decide) (by omega) (by decide) (by omega) (Nat.le_of_ble_eq_true rfl) (Nat.le_of_ble_eq_true rfl) dX1_putLong_62 (rfl) (fun H locs hP hD hS => ?_)
  have e8 : oz_un (oz_un (oz_un (oz_un fW i (oz_bN (v / 2 ^ 56))) (i + 1) (oz_bN (v / 2 ^ 48))) (i + 2) (oz_bN (v / 2 ^ 40))) (i + 3) (oz_bN (v / 2 ^ 32)) = oz_pb fW i 4 (v / 2 ^ 32) := by
    rw [← oz_pb_4, Nat.div_div_eq_div_mul, Nat.div_div_eq_div_mul, Nat.div_div_eq_div_mul]
  rw [oz_pc_4, e8] at hP hD
  refine lv_aload_n hx hb dX1_putLong_65 rfl (lv_at hl 0 rfl) ?_
  refine va_get (D := G) (ci := 1) (v := .ref t) (C := RX1) (T := TX1) (N := 4) hx hb hts in_X1 hown hK hP 0 rfl rfl 0 (by decide) (hts _ q30) (fun _ h9 => h9) rfl dX1_putLong_66 ?_
  refine lv_iconst (v := nI 0) hx hb dX1_putLong_69 (by decide) ?_
  refine lv_lload_n hx hb dX1_putLong_70 rfl (lv_at hl 1 rfl) ?_
  refine lv_bipush (v := nI 24) hx hb dX1_putLong_71 (by decide) ?_
  refine lv_lushr (v := lN (v / 2 ^ 24)) hx hb dX1_putLong_73 (oz_ushr_L 24 (by decide) hv) ?_
  refine lv_l2i (v := nI (v / 2 ^ 24)) hx hb dX1_putLong_74 (lN_i (v / 2 ^ 24)) ?_
  refine lv_i2b (v := oz_dB (oz_bN (v / 2 ^ 24))) hx hb dX1_putLong_75 (oz_dB_i (v / 2 ^ 24)) ?_
  refine oz_kb_st (w2 := [oz_oO q t b i k, oz_oB cB t 4 (oz_un (oz_un (oz_un (oz_un (oz_un fM 0 (oz_bN (v / 2 ^ 56))) 1 (oz_bN (v / 2 ^ 48))) 2 (oz_bN (v / 2 ^ 40))) 3 (oz_bN (v / 2 ^ 32))) 0 (oz_bN (v / 2 ^ 24))), oz_oB cB b 2048 (oz_pb fW i 4 (v / 2 ^ 32))]) hx hb hK hP hD hS 1 (oz_bN (v / 2 ^ 24)) rfl (by decide) (by decide) (oz_dB_8 _) dX1_putLong_76 (rfl) (fun H locs hP hD hS => ?_)
  refine lv_aload_n hx hb dX1_putLong_77 rfl (lv_at hl 0 rfl) ?_
  refine va_get (D := G) (ci := 1) (v := .ref t) (C := RX1) (T := TX1) (N := 4) hx hb hts in_X1 hown hK hP 0 rfl rfl 0 (by decide) (hts _ q30) (fun _ h9 => h9) rfl dX1_putLong_78 ?_
  refine lv_iconst (v := nI 1) hx hb dX1_putLong_81 (by decide) ?_
  refine lv_lload_n hx hb dX1_putLong_82 rfl (lv_at hl 1 rfl) ?_
  refine lv_bipush (v := nI 16) hx hb dX1_putLong_83 (by decide) ?_
  refine lv_lushr (v := lN (v / 2 ^ 16)) hx hb dX1_putLong_85 (oz_ushr_L 16 (by decide) hv) ?_
  refine lv_l2i (v := nI (v / 2 ^ 16)) hx hb dX1_putLong_86 (lN_i (v / 2 ^ 16)) ?_
  refine lv_i2b (v := oz_dB (oz_bN (v / 2 ^ 16))) hx hb dX1_putLong_87 (oz_dB_i (v / 2 ^ 16)) ?_
  refine oz_kb_st (w2 := [oz_oO q t b i k, oz_oB cB t 4 (oz_un (oz_un (oz_un (oz_un (oz_un (oz_un fM 0 (oz_bN (v / 2 ^ 56))) 1 (oz_bN (v / 2 ^ 48))) 2 (oz_bN (v / 2 ^ 40))) 3 (oz_bN (v / 2 ^ 32))) 0 (oz_bN (v / 2 ^ 24))) 1 (oz_bN (v / 2 ^ 16))), oz_oB cB b 2048 (oz_pb fW i 4 (v / 2 ^ 32))]) hx hb hK hP hD hS 1 (oz_bN (v / 2 ^ 16)) rfl (by decide) (by decide) (oz_dB_8 _) dX1_putLong_88 (rfl) (fun H locs hP hD hS => ?_)
  refine lv_aload_n hx hb dX1_putLong_89 rfl (lv_at hl 0 rfl) ?_
  refine va_get (D := G) (ci := 1) (v := .ref t) (C := RX1) (T := TX1) (N := 4) hx hb hts in_X1 hown hK hP 0 rfl rfl 0 (by decide) (hts _ q30) (fun _ h9 => h9) rfl dX1_putLong_90 ?_
  refine lv_iconst (v := nI 2) hx hb dX1_putLong_93 (by decide) ?_
  refine lv_lload_n hx hb dX1_putLong_94 rfl (lv_at hl 1 rfl) ?_
  refine lv_bipush (v := nI 8) hx hb dX1_putLong_95 (by decide) ?_
  refine lv_lushr (v := lN (v / 2 ^ 8)) hx hb dX1_putLong_97 (oz_ushr_L 8 (by decide) hv) ?_
  refine lv_l2i (v := nI (v / 2 ^ 8)) hx hb dX1_putLong_98 (lN_i (v / 2 ^ 8)) ?_
  refine lv_i2b (v := oz_dB (oz_bN (v / 2 ^ 8))) hx hb dX1_putLong_99 (oz_dB_i (v / 2 ^ 8)) ?_
  refine oz_kb_st (w2 := [oz_oO q t b i k, oz_oB cB t 4 (oz_un (oz_un (oz_un (oz_un (oz_un (oz_un (oz_un fM 0 (oz_bN (v / 2 ^ 56))) 1 (oz_bN (v / 2 ^ 48))) 2 (oz_bN (v / 2 ^ 40))) 3 (oz_bN (v / 2 ^ 32))) 0 (oz_bN (v / 2 ^ 24))) 1 (oz_bN (v / 2 ^ 16))) 2 (oz_bN (v / 2 ^ 8))), oz_oB cB b 2048 (oz_pb fW i 4 (v / 2 ^ 32))]) hx hb hK hP hD hS 1 (oz_bN (v / 2 ^ 8)) rfl (by decide) (by decide) (oz_dB_8 _) dX1_putLong_100 (rfl) (fun H locs hP hD hS => ?_)
  refine lv_aload_n hx hb dX1_putLong_101 rfl (lv_at hl 0 rfl) ?_
  refine va_get (D := G) (ci := 1) (v := .ref t) (C := RX1) (T := TX1) (N := 4) hx hb hts in_X1 hown hK hP 0 rfl rfl 0 (by decide) (hts _ q30) (fun _ h9 => h9) rfl dX1_putLong_102 ?_
  refine lv_iconst (v := nI 3) hx hb dX1_putLong_105 (by decide) ?_
  refine lv_lload_n hx hb dX1_putLong_106 rfl (lv_at hl 1 rfl) ?_
  refine lv_l2i (v := nI v) hx hb dX1_putLong_107 (lN_i v) ?_
  refine lv_i2b (v := oz_dB (oz_bN v)) hx hb dX1_putLong_108 (oz_dB_i v) ?_
  refine oz_kb_st (w2 := [oz_oO q t b i k, oz_oB cB t 4 (oz_un (oz_un (oz_un (oz_un (oz_un (oz_un (oz_un (oz_un fM 0 (oz_bN (v / 2 ^ 56))) 1 (oz_bN (v / 2 ^ 48))) 2 (oz_bN (v / 2 ^ 40))) 3 (oz_bN (v / 2 ^ 32))) 0 (oz_bN (v / 2 ^ 24))) 1 (oz_bN (v / 2 ^ 16))) 2 (oz_bN (v / 2 ^ 8))) 3 (oz_bN v)), oz_oB cB b 2048 (oz_pb fW i 4 (v / 2 ^ 32))]) hx hb hK hP hD hS 1 (oz_bN v) rfl (by decide) (by decide) (oz_dB_8 _) dX1_putLong_109 (rfl) (fun H locs hP hD hS => ?_)
  refine lv_aload_n hx hb dX1_putLong_110 rfl (lv_at hl 0 rfl) ?_
  refine va_get (D := G) (ci := 1) (v := .ref t) (C := RX1) (T := TX1) (N := 4) hx hb hts in_X1 hown hK hP 0 rfl rfl 0 (by decide) (hts _ q30) (fun _ h9 => h9) rfl dX1_putLong_111 ?_
  refine lv_iconst (v := nI 0) hx hb dX1_putLong_114 (by decide) ?_
  refine lv_aload_n hx hb dX1_putLong_115 rfl (lv_at hl 0 rfl) ?_
  refine va_get (D := G) (ci := 1) (v := .ref b) (C := RX1) (T := TX1) (N := 4) hx hb hts in_X1 hown hK hP 0 rfl rfl 1 (by decide) (hts _ q31) (fun _ h9 => h9) rfl dX1_putLong_116 ?_
  refine lv_aload_n hx hb dX1_putLong_119 rfl (lv_at hl 0 rfl) ?_
  refine va_get (D := G) (ci := 1) (v := .int (nI i)) (C := RX1) (T := TX1) (N := 4) hx hb hts in_X1 hown hK hP 0 rfl rfl 2 (by decide) (hts _ q33) (fun _ h9 => h9) rfl dX1_putLong_120 ?_
  refine lv_iconst (v := nI 4) hx hb dX1_putLong_123 (by decide) ?_
  refine oz_kadd hx hb dX1_putLong_124 ?_
  refine lv_iconst (v := nI 4) hx hb dX1_putLong_125 (by decide) ?_
  refine oz_kb_cp (w2 := [oz_oO q t b i k, oz_oB cB t 4 (oz_un (oz_un (oz_un (oz_un (oz_un (oz_un (oz_un (oz_un fM 0 (oz_bN (v / 2 ^ 56))) 1 (oz_bN (v / 2 ^ 48))) 2 (oz_bN (v / 2 ^ 40))) 3 (oz_bN (v / 2 ^ 32))) 0 (oz_bN (v / 2 ^ 24))) 1 (oz_bN (v / 2 ^ 16))) 2 (oz_bN (v / 2 ^ 8))) 3 (oz_bN v)), oz_oB cB b 2048 (va_cpy (oz_un (oz_un (oz_un (oz_un (oz_un (oz_un (oz_un (oz_un fM 0 (oz_bN (v / 2 ^ 56))) 1 (oz_bN (v / 2 ^ 48))) 2 (oz_bN (v / 2 ^ 40))) 3 (oz_bN (v / 2 ^ 32))) 0 (oz_bN (v / 2 ^ 24))) 1 (oz_bN (v / 2 ^ 16))) 2 (oz_bN (v / 2 ^ 8))) 3 (oz_bN v)) (oz_pb fW i 4 (v / 2 ^ 32)) 0 (i + 4) 4)]) hx hb (by rw [hml]; exact hl.1.symm) hown (hts _ q91) (hts _ q93) (hts _ q92) (hts _ q15) hK hP hD hS 1 2 rfl rfl (by decide) (by omega) (by decide) (by omega) (Nat.le_of_ble_eq_true rfl) (Nat.le_of_ble_eq_true rfl) dX1_putLong_126 (rfl) (fun H locs hP hD hS => ?_)
  rw [oz_pc_4, oz_pb_4 (oz_pb fW i 4 (v / 2 ^ 32)) (i + 4) v] at hP hD
  refine lv_aload_n hx hb dX1_putLong_129 rfl (lv_at hl 0 rfl) ?_
  refine lv_dup hx hb dX1_putLong_130 rfl ?_
  refine va_get (D := G) (ci := 1) (v := .int (nI i)) (C := RX1) (T := TX1) (N := 4) hx hb hts in_X1 hown hK hP 0 rfl rfl 2 (by decide) (hts _ q33) (fun _ h9 => h9) rfl dX1_putLong_131 ?_
  refine lv_bipush (v := nI 8) hx hb dX1_putLong_134 (by decide) ?_
  refine oz_kadd hx hb dX1_putLong_136 ?_
  refine va_put (D := G) (ci := 1) (v := .int (nI (i + 8))) (ty := .int) (C := RX1) (T := TX1) (N := 4) hx hb hts in_X1 tyX1 tyX1_ok nmX1 hown hK hP hD hS 0 rfl rfl 2 (by decide) (hts _ q33) (fun _ h9 => h9) rfl (by decide +kernel) rfl rfl (Nat.le_of_ble_eq_true rfl) dX1_putLong_137 (fun H locs hP hD hS => ?_)
  have hP : va_P G vwCl [oz_oO q t b (i + 8) k, oz_oB cB t 4 (oz_un (oz_un (oz_un (oz_un (oz_un (oz_un (oz_un (oz_un fM 0 (oz_bN (v / 2 ^ 56))) 1 (oz_bN (v / 2 ^ 48))) 2 (oz_bN (v / 2 ^ 40))) 3 (oz_bN (v / 2 ^ 32))) 0 (oz_bN (v / 2 ^ 24))) 1 (oz_bN (v / 2 ^ 16))) 2 (oz_bN (v / 2 ^ 8))) 3 (oz_bN v)), oz_oB cB b 2048 (oz_pb (oz_pb fW i 4 (v / 2 ^ 32)) (i + 4) 4 v)] H := hP
  have hD : va_D A [oz_oO q t b (i + 8) k, oz_oB cB t 4 (oz_un (oz_un (oz_un (oz_un (oz_un (oz_un (oz_un (oz_un fM 0 (oz_bN (v / 2 ^ 56))) 1 (oz_bN (v / 2 ^ 48))) 2 (oz_bN (v / 2 ^ 40))) 3 (oz_bN (v / 2 ^ 32))) 0 (oz_bN (v / 2 ^ 24))) 1 (oz_bN (v / 2 ^ 16))) 2 (oz_bN (v / 2 ^ 8))) 3 (oz_bN v)), oz_oB cB b 2048 (oz_pb (oz_pb fW i 4 (v / 2 ^ 32)) (i + 4) 4 v)] := hD
  exact W.vret hx hb hr (fun t9 ht hW => ⟨⟨_, rfl, trivial, by rw [ht]; exact hP, va_K.moved hW.alike hK, hD⟩, hS.F ht⟩) hS.2.2 dX1_putLong_140

/-- putString(foo, begin, length) -/
abbrev rm_X1_putString_2 : Room := ({ frames := 2, cells := 0, slots := 0, locals := 41 } : Room)
set_option maxHeartbeats 4000000 in
set_option maxRecDepth 100000 in
theorem mt_X1_putString_2 (l : Launch) (G : va_G) (cB cI : ClassId) (sz : Nat) (q t b i k : Nat) (fM fW : Nat → oz_By) (z zn : Nat) (fZ : Nat → oz_By) (g n : Nat) (hz : g + n ≤ zn) (hzn : zn < 2 ^ 31) (hi : i + 4 + n ≤ 2048) : Met l yX1_putString_2 (ws_ yX1_putString_2 cX1_putString_2 4 none) rm_X1_putString_2 (va_Pc [.ref q, .ref z, .int (nI g), .int (nI n)] (oz_pw G cB cI sz [oz_oO q t b i k, oz_oB cB t 4 fM, oz_oB cB b 2048 fW, oz_oB cB z zn fZ])) (va_Qv (fun _ : (Nat → oz_By) => True) (fun (u : (Nat → oz_By)) => oz_qw G cB cI (va_A [oz_oO q t b i k, oz_oB cB t 4 fM, oz_oB cB b 2048 fW, oz_oB cB z zn fZ] sz) [oz_oO q t b (i + 4 + n) k, oz_oB cB t 4 u, oz_oB cB b 2048 (va_cpy fZ (oz_pb fW i 4 n) g (i + 4) n), oz_oB cB z zn fZ]) (va_A [oz_oO q t b i k, oz_oB cB t 4 fM, oz_oB cB b 2048 fW, oz_oB cB z zn fZ] sz)) 0 0 (va_A [oz_oO q t b i k, oz_oB cB t 4 fM, oz_oB cB b 2048 fW, oz_oB cB z zn fZ] sz) := by
  refine Met.ofW (cc := cX1_putString_2) (maxL := 4) (ret := none) (by decide) rfl ?_
  intro p e s m args below meth c s₁ B hml hv
  obtain ⟨rfl, hsz, hP, hK, hD0⟩ := hv
  have hx := B.exec
  have hb := B.bytes
  have hr := B.returns
  have hts := atoms_spec (ws := (ws_ yX1_putString_2 cX1_putString_2 4 none)) B.pre
  have hts : ∀ w ∈ lw_all, w.before _ s = true := fun w h => hts w (List.mem_cons_of_mem _ h)
  have hown : s.vm.findClass RX1 = some m.cls := findClass_of_methodNamed B.named
  have hlocks := B.notSynchronized
  subst hsz
  have hD := hD0.self (sz := s.heap.size)
  generalize hAe : va_A [oz_oO q t b i k, oz_oB cB t 4 fM, oz_oB cB b 2048 fW, oz_oB cB z zn fZ] s.heap.size = A at hD ⊢
  have hA : ∀ q9 : Nat, s.heap.size ≤ q9 → A q9 := fun q9 h => by rw [← hAe]; exact Or.inr h
  have hS : va_S A s.heap s.heap [] := va_S.rf
  have hP : va_P G vwCl [oz_oO q t b i k, oz_oB cB t 4 fM, oz_oB cB b 2048 fW, oz_oB cB z zn fZ] s.heap := hP
  have hl := lv_entry ([.ref q, .ref z, .int (nI g), .int (nI n)]) (n := 4) (Nat.le_of_ble_eq_true rfl)
  rw [lg_entry_eq]
  generalize (lg_sl ([.ref q, .ref z, .int (nI g), .int (nI n)]) ++ List.replicate (4 - (lg_sl ([.ref q, .ref z, .int (nI g), .int (nI n)])).length) Slot.unset).toArray = ls at hl ⊢
  have hl : lv_has ls 4 [(0, .ref q), (1, .ref z), (2, .int (nI g)), (3, .int (nI n))] := hl
  refine lv_aload_n hx hb dX1_putString_2_0 rfl (lv_at hl 0 rfl) ?_
  refine lv_iload_n hx hb dX1_putString_2_1 rfl (lv_at hl 3 rfl) ?_
  refine oz_kc_v (nA := 1) (As := [.int (nI n)]) (rest := []) (wr := [oz_oB cB z zn fZ]) (w3 := fun (u : (Nat → oz_By)) => [oz_oB cB z zn fZ, oz_oO q t b (i + 4) k, oz_oB cB t 4 u, oz_oB cB b 2048 (oz_pb fW i 4 n)]) (C := RX1) hx hb hml hown hts hK hP hD hS hA (mt_X1_putInt l G cB cI s.heap.size q t b i k fM fW n (by omega) (by omega)) (lw_V q123 q88 q89 q13 q90) rfl rfl (by decide +kernel) rfl ⟨Nat.le_of_ble_eq_true rfl, Nat.le_of_ble_eq_true rfl⟩ [0, 1, 2] [3] rfl rfl rfl rfl (by decide) 0 rfl rfl rfl hl.1 (Nat.le_of_ble_eq_true rfl) dX1_putString_2_2 ⟨Nat.le_of_ble_eq_true rfl, Nat.le_of_ble_eq_true rfl⟩ (fun _ => rfl) (fun fM2 H locs hP hD hS => ?_)
  have hP : va_P G vwCl [oz_oB cB z zn fZ, oz_oO q t b (i + 4) k, oz_oB cB t 4 fM2, oz_oB cB b 2048 (oz_pb fW i 4 n)] H := hP
  have hD : va_D A [oz_oB cB z zn fZ, oz_oO q t b (i + 4) k, oz_oB cB t 4 fM2, oz_oB cB b 2048 (oz_pb fW i 4 n)] := hD
  have hP := hP.sub (ws' := [oz_oO q t b (i + 4) k, oz_oB cB t 4 fM2, oz_oB cB b 2048 (oz_pb fW i 4 n), oz_oB cB z zn fZ]) [1, 2, 3, 0] rfl
  have hD := hD.sub (ws' := [oz_oO q t b (i + 4) k, oz_oB cB t 4 fM2, oz_oB cB b 2048 (oz_pb fW i 4 n), oz_oB cB z zn fZ]) [1, 2, 3, 0] (by decide) rfl
  refine lv_aload_n hx hb dX1_putString_2_5 rfl (lv_at hl 0 rfl) ?_
  refine lv_aload_n hx hb dX1_putString_2_6 rfl (lv_at hl 1 rfl) ?_
  refine lv_iload_n hx hb dX1_putString_2_7 rfl (lv_at hl 2 rfl) ?_
  refine lv_iload_n hx hb dX1_putString_2_8 rfl (lv_at hl 3 rfl) ?_
  refine oz_kc_v (nA := 3) (As := [.ref z, .int (nI g), .int (nI n)]) (rest := []) (wr := []) (w3 := fun (u : Unit) => [oz_oO q t b ((i + 4) + n) k, oz_oB cB t 4 fM2, oz_oB cB b 2048 (va_cpy fZ (oz_pb fW i 4 n) g (i + 4) n), oz_oB cB z zn fZ]) (C := RX1) hx hb hml hown hts hK hP hD hS hA (mt_X1_putByte_2 l G cB cI H.size q t b (i + 4) k fM2 (oz_pb fW i 4 n) z zn fZ g n hz hzn hi) (lw_V q124 q125 q126 q13 q127) rfl rfl (by decide +kernel) rfl ⟨Nat.le_of_ble_eq_true rfl, Nat.le_of_ble_eq_true rfl⟩ [0, 1, 2, 3] [] rfl rfl rfl rfl (by decide) 0 rfl rfl rfl hl.1 (Nat.le_of_ble_eq_true rfl) dX1_putString_2_9 ⟨Nat.le_of_ble_eq_true rfl, Nat.le_of_ble_eq_true rfl⟩ (fun _ => rfl) (fun _ H locs hP hD hS => ?_)
  have hP : va_P G vwCl [oz_oO q t b ((i + 4) + n) k, oz_oB cB t 4 fM2, oz_oB cB b 2048 (va_cpy fZ (oz_pb fW i 4 n) g (i + 4) n), oz_oB cB z zn fZ] H := hP
  have hD : va_D A [oz_oO q t b ((i + 4) + n) k, oz_oB cB t 4 fM2, oz_oB cB b 2048 (va_cpy fZ (oz_pb fW i 4 n) g (i + 4) n), oz_oB cB z zn fZ] := hD
  exact W.vret hx hb hr (fun t9 ht hW => ⟨⟨fM2, rfl, trivial, by rw [ht]; exact hP, va_K.moved hW.alike hK, hD⟩, hS.F ht⟩) hS.2.2 dX1_putString_2_12

/-- putString(foo) -/
abbrev rm_X1_putString : Room := ({ frames := 3, cells := 0, slots := 0, locals := 64 } : Room)
set_option maxHeartbeats 4000000 in
set_option maxRecDepth 100000 in
theorem mt_X1_putString (l : Launch) (G : va_G) (cB cI : ClassId) (sz : Nat) (q t b i k : Nat) (fM fW : Nat → oz_By) (z zn : Nat) (fZ : Nat → oz_By) (hzn : zn < 2 ^ 31) (hi : i + 4 + zn ≤ 2048) : Met l yX1_putString (ws_ yX1_putString cX1_putString 2 none) rm_X1_putString (va_Pc [.ref q, .ref z] (oz_pw G cB cI sz [oz_oO q t b i k, oz_oB cB t 4 fM, oz_oB cB b 2048 fW, oz_oB cB z zn fZ])) (va_Qv (fun _ : (Nat → oz_By) => True) (fun (u : (Nat → oz_By)) => oz_qw G cB cI (va_A [oz_oO q t b i k, oz_oB cB t 4 fM, oz_oB cB b 2048 fW, oz_oB cB z zn fZ] sz) [oz_oO q t b (i + 4 + zn) k, oz_oB cB t 4 u, oz_oB cB b 2048 (va_cpy fZ (oz_pb fW i 4 zn) 0 (i + 4) zn), oz_oB cB z zn fZ]) (va_A [oz_oO q t b i k, oz_oB cB t 4 fM, oz_oB cB b 2048 fW, oz_oB cB z zn fZ] sz)) 0 0 (va_A [oz_oO q t b i k, oz_oB cB t 4 fM, oz_oB cB b 2048 fW, oz_oB cB z zn fZ] sz) := by
  refine Met.ofW (cc := cX1_putString) (maxL := 2) (ret := none) (by decide) rfl ?_
  intro p e s m args below meth c s₁ B hml hv
  obtain ⟨rfl, hsz, hP, hK, hD0⟩ := hv
  have hx := B.exec
  have hb := B.bytes
  have hr := B.returns
  have hts := atoms_spec (ws := (ws_ yX1_putString cX1_putString 2 none)) B.pre
  have hts : ∀ w ∈ lw_all, w.before _ s = true := fun w h => hts w (List.mem_cons_of_mem _ h)
  have hown : s.vm.findClass RX1 = some m.cls := findClass_of_methodNamed B.named
  have hlocks := B.notSynchronized
  subst hsz
  have hD := hD0.self (sz := s.heap.size)
  generalize hAe : va_A [oz_oO q t b i k, oz_oB cB t 4 fM, oz_oB cB b 2048 fW, oz_oB cB z zn fZ] s.heap.size = A at hD ⊢
  have hA : ∀ q9 : Nat, s.heap.size ≤ q9 → A q9 := fun q9 h => by rw [← hAe]; exact Or.inr h
  have hS : va_S A s.heap s.heap [] := va_S.rf
  have hP : va_P G vwCl [oz_oO q t b i k, oz_oB cB t 4 fM, oz_oB cB b 2048 fW, oz_oB cB z zn fZ] s.heap := hP
  have hl := lv_entry ([.ref q, .ref z]) (n := 2) (Nat.le_of_ble_eq_true rfl)
  rw [lg_entry_eq]
  generalize (lg_sl ([.ref q, .ref z]) ++ List.replicate (2 - (lg_sl ([.ref q, .ref z])).length) Slot.unset).toArray = ls at hl ⊢
  have hl : lv_has ls 2 [(0, .ref q), (1, .ref z)] := hl
  refine lv_aload_n hx hb dX1_putString_0 rfl (lv_at hl 0 rfl) ?_
  refine lv_aload_n hx hb dX1_putString_1 rfl (lv_at hl 1 rfl) ?_
  refine lv_iconst (v := nI 0) hx hb dX1_putString_2 (by decide) ?_
  refine lv_aload_n hx hb dX1_putString_3 rfl (lv_at hl 1 rfl) ?_
  refine va_alen (v := nI zn) hx hb hK hP 3 0 rfl rfl rfl dX1_putString_4 ?_
  refine oz_kc_v (nA := 3) (As := [.ref z, .int (nI 0), .int (nI zn)]) (rest := []) (wr := []) (w3 := fun (u : (Nat → oz_By)) => [oz_oO q t b (i + 4 + zn) k, oz_oB cB t 4 u, oz_oB cB b 2048 (va_cpy fZ (oz_pb fW i 4 zn) 0 (i + 4) zn), oz_oB cB z zn fZ]) (C := RX1) hx hb hml hown hts hK hP hD hS hA (mt_X1_putString_2 l G cB cI s.heap.size q t b i k fM fW z zn fZ 0 zn (by omega) hzn hi) (lw_V q119 q120 q121 q13 q122) rfl rfl (by decide +kernel) rfl ⟨Nat.le_of_ble_eq_true rfl, Nat.le_of_ble_eq_true rfl⟩ [0, 1, 2, 3] [] rfl rfl rfl rfl (by decide) 0 rfl rfl rfl hl.1 (Nat.le_of_ble_eq_true rfl) dX1_putString_5 ⟨Nat.le_of_ble_eq_true rfl, Nat.le_of_ble_eq_true rfl⟩ (fun _ => rfl) (fun fM2 H locs hP hD hS => ?_)
  have hP : va_P G vwCl [oz_oO q t b (i + 4 + zn) k, oz_oB cB t 4 fM2, oz_oB cB b 2048 (va_cpy fZ (oz_pb fW i 4 zn) 0 (i + 4) zn), oz_oB cB z zn fZ] H := hP
  have hD : va_D A [oz_oO q t b (i + 4 + zn) k, oz_oB cB t 4 fM2, oz_oB cB b 2048 (va_cpy fZ (oz_pb fW i 4 zn) 0 (i + 4) zn), oz_oB cB z zn fZ] := hD
  exact W.vret hx hb hr (fun t9 ht hW => ⟨⟨fM2, rfl, trivial, by rw [ht]; exact hP, va_K.moved hW.alike hK, hD⟩, hS.F ht⟩) hS.2.2 dX1_putString_8

/-- putMPInt: a length, a 0 ahead of a first byte that is over 127, the bytes -/
abbrev rm_X1_putMPInt : Room := ({ frames := 3, cells := 0, slots := 0, locals := 62 } : Room)
set_option maxHeartbeats 4000000 in
set_option maxRecDepth 100000 in
theorem mt_X1_putMPInt (l : Launch) (G : va_G) (cB cI : ClassId) (sz : Nat) (q t b i k : Nat) (fM fW : Nat → oz_By) (z zn : Nat) (fZ : Nat → oz_By) (hzn : zn < 2 ^ 31) (hz0 : 0 < zn) (hi : i + 5 + zn ≤ 2048) : Met l yX1_putMPInt (ws_ yX1_putMPInt cX1_putMPInt 3 none) rm_X1_putMPInt (va_Pc [.ref q, .ref z] (oz_pw G cB cI sz [oz_oO q t b i k, oz_oB cB t 4 fM, oz_oB cB b 2048 fW, oz_oB cB z zn fZ])) (va_Qv (fun _ : (Nat → oz_By) => True) (fun (u : (Nat → oz_By)) => oz_qw G cB cI (va_A [oz_oO q t b i k, oz_oB cB t 4 fM, oz_oB cB b 2048 fW, oz_oB cB z zn fZ] sz) [oz_oO q t b (if 128 ≤ (fZ 0).toNat then i + 5 + zn else i + 4 + zn) k, oz_oB cB t 4 u, oz_oB cB b 2048 (if 128 ≤ (fZ 0).toNat then va_cpy fZ (oz_un (oz_pb fW i 4 (zn + 1)) (i + 4) 0#8) 0 (i + 5) zn else va_cpy fZ (oz_pb fW i 4 zn) 0 (i + 4) zn), oz_oB cB z zn fZ]) (va_A [oz_oO q t b i k, oz_oB cB t 4 fM, oz_oB cB b 2048 fW, oz_oB cB z zn fZ] sz)) 0 0 (va_A [oz_oO q t b i k, oz_oB cB t 4 fM, oz_oB cB b 2048 fW, oz_oB cB z zn fZ] sz) := by
  refine Met.ofW (cc := cX1_putMPInt) (maxL := 3) (ret := none) (by decide) rfl ?_
  intro p e s m args below meth c s₁ B hml hv
  obtain ⟨rfl, hsz, hP, hK, hD0⟩ := hv
  have hx := B.exec
  have hb := B.bytes
  have hr := B.returns
  have hts := atoms_spec (ws := (ws_ yX1_putMPInt cX1_putMPInt 3 none)) B.pre
  have hts : ∀ w ∈ lw_all, w.before _ s = true := fun w h => hts w (List.mem_cons_of_mem _ h)
  have hown : s.vm.findClass RX1 = some m.cls := findClass_of_methodNamed B.named
  have hlocks := B.notSynchronized
  subst hsz
  have hD := hD0.self (sz := s.heap.size)
  generalize hAe : va_A [oz_oO q t b i k, oz_oB cB t 4 fM, oz_oB cB b 2048 fW, oz_oB cB z zn fZ] s.heap.size = A at hD ⊢
  have hA : ∀ q9 : Nat, s.heap.size ≤ q9 → A q9 := fun q9 h => by rw [← hAe]; exact Or.inr h
  have hS : va_S A s.heap s.heap [] := va_S.rf
  have hP : va_P G vwCl [oz_oO q t b i k, oz_oB cB t 4 fM, oz_oB cB b 2048 fW, oz_oB cB z zn fZ] s.heap := hP
  have hl := lv_entry ([.ref q, .ref z]) (n := 3) (Nat.le_of_ble_eq_true rfl)
  rw [lg_entry_eq]
  generalize (lg_sl ([.ref q, .ref z]) ++ List.replicate (3 - (lg_sl ([.ref q, .ref z])).length) Slot.unset).toArray = ls at hl ⊢
  have hl : lv_has ls 3 [(0, .ref q), (1, .ref z)] := hl
  refine lv_aload_n hx hb dX1_putMPInt_0 rfl (lv_at hl 1 rfl) ?_
  refine va_alen (v := nI zn) hx hb hK hP 3 0 rfl rfl rfl dX1_putMPInt_1 ?_
  refine lv_istore_n (lv' := [(2, .int (nI zn)), (0, .ref q), (1, .ref z)]) hx hb dX1_putMPInt_2 rfl hl (by decide) rfl (fun ls hl => ?_)
  refine lv_aload_n hx hb dX1_putMPInt_3 rfl (lv_at hl 2 rfl) ?_
  refine lv_iconst (v := nI 0) hx hb dX1_putMPInt_4 (by decide) ?_
  refine oz_kb_ld hx hb hK hP 3 rfl (hz0) (hzn) dX1_putMPInt_5 ?_
  refine lv_sipush (v := nI 128) hx hb dX1_putMPInt_6 (by decide) ?_
  refine lv_iand hx hb dX1_putMPInt_9 ?_
  refine oz_ktop (y := nI ((fZ 0).toNat / 128 * 128)) (oz_and_80 _) ?_
  have h8 := oz_by_lt (fZ 0)
  refine oz_kj_eq0 hx hb (by omega) (tgt := 29) dX1_putMPInt_10 (by decide) (fun h1 => ?_) (fun h1 => ?_)
  · refine lv_aload_n hx hb dX1_putMPInt_29 rfl (lv_at hl 1 rfl) ?_
    refine lv_iload_n hx hb dX1_putMPInt_30 rfl (lv_at hl 0 rfl) ?_
    refine oz_kc_v (nA := 1) (As := [.int (nI zn)]) (rest := []) (wr := [oz_oB cB z zn fZ]) (w3 := fun (u : (Nat → oz_By)) => [oz_oB cB z zn fZ, oz_oO q t b (i + 4) k, oz_oB cB t 4 u, oz_oB cB b 2048 (oz_pb fW i 4 zn)]) (C := RX1) hx hb hml hown hts hK hP hD hS hA (mt_X1_putInt l G cB cI s.heap.size q t b i k fM fW zn (by omega) (by omega)) (lw_V q123 q88 q89 q13 q90) rfl rfl (by decide +kernel) rfl ⟨Nat.le_of_ble_eq_true rfl, Nat.le_of_ble_eq_true rfl⟩ [0, 1, 2] [3] rfl rfl rfl rfl (by decide) 0 rfl rfl rfl hl.1 (Nat.le_of_ble_eq_true rfl) dX1_putMPInt_31 ⟨Nat.le_of_ble_eq_true rfl, Nat.le_of_ble_eq_true rfl⟩ (fun _ => rfl) (fun fM2 H locs hP hD hS => ?_)
    have hP : va_P G vwCl [oz_oB cB z zn fZ, oz_oO q t b (i + 4) k, oz_oB cB t 4 fM2, oz_oB cB b 2048 (oz_pb fW i 4 zn)] H := hP
    have hD : va_D A [oz_oB cB z zn fZ, oz_oO q t b (i + 4) k, oz_oB cB t 4 fM2, oz_oB cB b 2048 (oz_pb fW i 4 zn)] := hD
    have hP := hP.sub (ws' := [oz_oO q t b (i + 4) k, oz_oB cB t 4 fM2, oz_oB cB b 2048 (oz_pb fW i 4 zn), oz_oB cB z zn fZ]) [1, 2, 3, 0] rfl
    have hD := hD.sub (ws' := [oz_oO q t b (i + 4) k, oz_oB cB t 4 fM2, oz_oB cB b 2048 (oz_pb fW i 4 zn), oz_oB cB z zn fZ]) [1, 2, 3, 0] (by decide) rfl
    refine lv_aload_n hx hb dX1_putMPInt_34 rfl (lv_at hl 1 rfl) ?_
    refine lv_aload_n hx hb dX1_putMPInt_35 rfl (lv_at hl 2 rfl) ?_
    refine oz_kc_v (nA := 1) (As := [.ref z]) (rest := []) (wr := []) (w3 := fun (u : Unit) => [oz_oO q t b ((i + 4) + zn) k, oz_oB cB t 4 fM2, oz_oB cB b 2048 (va_cpy fZ (oz_pb fW i 4 zn) 0 (i + 4) zn), oz_oB cB z zn fZ]) (C := RX1) hx hb hml hown hts hK hP hD hS hA (mt_X1_putByte_3 l G cB cI H.size q t b (i + 4) k fM2 (oz_pb fW i 4 zn) z zn fZ hzn (by omega)) (lw_V q137 q138 q139 q13 q140) rfl rfl (by decide +kernel) rfl ⟨Nat.le_of_ble_eq_true rfl, Nat.le_of_ble_eq_true rfl⟩ [0, 1, 2, 3] [] rfl rfl rfl rfl (by decide) 0 rfl rfl rfl hl.1 (Nat.le_of_ble_eq_true rfl) dX1_putMPInt_36 ⟨Nat.le_of_ble_eq_true rfl, Nat.le_of_ble_eq_true rfl⟩ (fun _ => rfl) (fun _ H locs hP hD hS => ?_)
    have hP : va_P G vwCl [oz_oO q t b ((i + 4) + zn) k, oz_oB cB t 4 fM2, oz_oB cB b 2048 (va_cpy fZ (oz_pb fW i 4 zn) 0 (i + 4) zn), oz_oB cB z zn fZ] H := hP
    have hD : va_D A [oz_oO q t b ((i + 4) + zn) k, oz_oB cB t 4 fM2, oz_oB cB b 2048 (va_cpy fZ (oz_pb fW i 4 zn) 0 (i + 4) zn), oz_oB cB z zn fZ] := hD
    have hc : ¬ 128 ≤ (fZ 0).toNat := by omega
    have ew : ([oz_oO q t b ((i + 4) + zn) k, oz_oB cB t 4 fM2, oz_oB cB b 2048 (va_cpy fZ (oz_pb fW i 4 zn) 0 (i + 4) zn), oz_oB cB z zn fZ] : va_W) = [oz_oO q t b (if 128 ≤ (fZ 0).toNat then i + 5 + zn else i + 4 + zn) k, oz_oB cB t 4 fM2, oz_oB cB b 2048 (if 128 ≤ (fZ 0).toNat then va_cpy fZ (oz_un (oz_pb fW i 4 (zn + 1)) (i + 4) 0#8) 0 (i + 5) zn else va_cpy fZ (oz_pb fW i 4 zn) 0 (i + 4) zn), oz_oB cB z zn fZ] := by simp only [if_neg hc]
    rw [ew] at hP hD
    exact W.vret hx hb hr (fun t9 ht hW => ⟨⟨fM2, rfl, trivial, by rw [ht]; exact hP, va_K.moved hW.alike hK, hD⟩, hS.F ht⟩) hS.2.2 dX1_putMPInt_39
  · refine lv_iinc (v := nI (zn + 1)) (lv' := [(2, .int (nI (zn + 1))), (0, .ref q), (1, .ref z)]) hx hb dX1_putMPInt_13 hl (k := 0) rfl (nI_add zn 1) (by decide) rfl (fun ls hl => ?_)
    refine lv_aload_n hx hb dX1_putMPInt_16 rfl (lv_at hl 1 rfl) ?_
    refine lv_iload_n hx hb dX1_putMPInt_17 rfl (lv_at hl 0 rfl) ?_
    refine oz_kc_v (nA := 1) (As := [.int (nI (zn + 1))]) (rest := []) (wr := [oz_oB cB z zn fZ]) (w3 := fun (u : (Nat → oz_By)) => [oz_oB cB z zn fZ, oz_oO q t b (i + 4) k, oz_oB cB t 4 u, oz_oB cB b 2048 (oz_pb fW i 4 (zn + 1))]) (C := RX1) hx hb hml hown hts hK hP hD hS hA (mt_X1_putInt l G cB cI s.heap.size q t b i k fM fW (zn + 1) (by omega) (by omega)) (lw_V q123 q88 q89 q13 q90) rfl rfl (by decide +kernel) rfl ⟨Nat.le_of_ble_eq_true rfl, Nat.le_of_ble_eq_true rfl⟩ [0, 1, 2] [3] rfl rfl rfl rfl (by decide) 0 rfl rfl rfl hl.1 (Nat.le_of_ble_eq_true rfl) dX1_putMPInt_18 ⟨Nat.le_of_ble_eq_true rfl, Nat.le_of_ble_eq_true rfl⟩ (fun _ => rfl) (fun fM2 H locs hP hD hS => ?_)
    have hP : va_P G vwCl [oz_oB cB z zn fZ, oz_oO q t b (i + 4) k, oz_oB cB t 4 fM2, oz_oB cB b 2048 (oz_pb fW i 4 (zn + 1))] H := hP
    have hD : va_D A [oz_oB cB z zn fZ, oz_oO q t b (i + 4) k, oz_oB cB t 4 fM2, oz_oB cB b 2048 (oz_pb fW i 4 (zn + 1))] := hD
    have hP := hP.sub (ws' := [oz_oO q t b (i + 4) k, oz_oB cB t 4 fM2, oz_oB cB b 2048 (oz_pb fW i 4 (zn + 1)), oz_oB cB z zn fZ]) [1, 2, 3, 0] rfl
    have hD := hD.sub (ws' := [oz_oO q t b (i + 4) k, oz_oB cB t 4 fM2, oz_oB cB b 2048 (oz_pb fW i 4 (zn + 1)), oz_oB cB z zn fZ]) [1, 2, 3, 0] (by decide) rfl
    refine lv_aload_n hx hb dX1_putMPInt_21 rfl (lv_at hl 1 rfl) ?_
    refine lv_iconst (v := nI 0) hx hb dX1_putMPInt_22 (by decide) ?_
    refine oz_ktop (y := (oz_dB 0#8)) (oz_dB_0.symm) ?_
    refine oz_kc_v (nA := 1) (As := [.int ((oz_dB 0#8))]) (rest := []) (wr := [oz_oB cB z zn fZ]) (w3 := fun (u : Unit) => [oz_oB cB z zn fZ, oz_oO q t b ((i + 4) + 1) k, oz_oB cB t 4 fM2, oz_oB cB b 2048 (oz_un (oz_pb fW i 4 (zn + 1)) (i + 4) (0#8))]) (C := RX1) hx hb hml hown hts hK hP hD hS hA (mt_X1_putByte l G cB cI H.size q t b (i + 4) k fM2 (oz_pb fW i 4 (zn + 1)) 0#8 (by omega)) (lw_V q136 q80 q81 q13 q82) rfl rfl (by decide +kernel) rfl ⟨Nat.le_of_ble_eq_true rfl, Nat.le_of_ble_eq_true rfl⟩ [0, 1, 2] [3] rfl rfl rfl rfl (by decide) 0 rfl rfl rfl hl.1 (Nat.le_of_ble_eq_true rfl) dX1_putMPInt_23 ⟨Nat.le_of_ble_eq_true rfl, Nat.le_of_ble_eq_true rfl⟩ (fun _ => rfl) (fun _ H locs hP hD hS => ?_)
    have hP : va_P G vwCl [oz_oB cB z zn fZ, oz_oO q t b ((i + 4) + 1) k, oz_oB cB t 4 fM2, oz_oB cB b 2048 (oz_un (oz_pb fW i 4 (zn + 1)) (i + 4) (0#8))] H := hP
    have hD : va_D A [oz_oB cB z zn fZ, oz_oO q t b ((i + 4) + 1) k, oz_oB cB t 4 fM2, oz_oB cB b 2048 (oz_un (oz_pb fW i 4 (zn + 1)) (i + 4) (0#8))] := hD
    have hP := hP.sub (ws' := [oz_oO q t b ((i + 4) + 1) k, oz_oB cB t 4 fM2, oz_oB cB b 2048 (oz_un (oz_pb fW i 4 (zn + 1)) (i + 4) (0#8)), oz_oB cB z zn fZ]) [1, 2, 3, 0] rfl
    have hD := hD.sub (ws' := [oz_oO q t b ((i + 4) + 1) k, oz_oB cB t 4 fM2, oz_oB cB b 2048 (oz_un (oz_pb fW i 4 (zn + 1)) (i + 4) (0#8)), oz_oB cB z zn fZ]) [1, 2, 3, 0] (by decide) rfl
    refine lv_goto (tgt := 34) hx hb dX1_putMPInt_26 (by decide) ?_
    refine lv_aload_n hx hb dX1_putMPInt_34 rfl (lv_at hl 1 rfl) ?_
    refine lv_aload_n hx hb dX1_putMPInt_35 rfl (lv_at hl 2 rfl) ?_
    refine oz_kc_v (nA := 1) (As := [.ref z]) (rest := []) (wr := []) (w3 := fun (u : Unit) => [oz_oO q t b ((i + 4 + 1) + zn) k, oz_oB cB t 4 fM2, oz_oB cB b 2048 (va_cpy fZ (oz_un (oz_pb fW i 4 (zn + 1)) (i + 4) 0#8) 0 (i + 4 + 1) zn), oz_oB cB z zn fZ]) (C := RX1) hx hb hml hown hts hK hP hD hS hA (mt_X1_putByte_3 l G cB cI H.size q t b (i + 4 + 1) k fM2 (oz_un (oz_pb fW i 4 (zn + 1)) (i + 4) 0#8) z zn fZ hzn (by omega)) (lw_V q137 q138 q139 q13 q140) rfl rfl (by decide +kernel) rfl ⟨Nat.le_of_ble_eq_true rfl, Nat.le_of_ble_eq_true rfl⟩ [0, 1, 2, 3] [] rfl rfl rfl rfl (by decide) 0 rfl rfl rfl hl.1 (Nat.le_of_ble_eq_true rfl) dX1_putMPInt_36 ⟨Nat.le_of_ble_eq_true rfl, Nat.le_of_ble_eq_true rfl⟩ (fun _ => rfl) (fun _ H locs hP hD hS => ?_)
    have hP : va_P G vwCl [oz_oO q t b ((i + 4 + 1) + zn) k, oz_oB cB t 4 fM2, oz_oB cB b 2048 (va_cpy fZ (oz_un (oz_pb fW i 4 (zn + 1)) (i + 4) 0#8) 0 (i + 4 + 1) zn), oz_oB cB z zn fZ] H := hP
    have hD : va_D A [oz_oO q t b ((i + 4 + 1) + zn) k, oz_oB cB t 4 fM2, oz_oB cB b 2048 (va_cpy fZ (oz_un (oz_pb fW i 4 (zn + 1)) (i + 4) 0#8) 0 (i + 4 + 1) zn), oz_oB cB z zn fZ] := hD
    have hc : 128 ≤ (fZ 0).toNat := by omega
    have ew : ([oz_oO q t b ((i + 4 + 1) + zn) k, oz_oB cB t 4 fM2, oz_oB cB b 2048 (va_cpy fZ (oz_un (oz_pb fW i 4 (zn + 1)) (i + 4) 0#8) 0 (i + 4 + 1) zn), oz_oB cB z zn fZ] : va_W) = [oz_oO q t b (if 128 ≤ (fZ 0).toNat then i + 5 + zn else i + 4 + zn) k, oz_oB cB t 4 fM2, oz_oB cB b 2048 (if 128 ≤ (fZ 0).toNat then va_cpy fZ (oz_un (oz_pb fW i 4 (zn + 1)) (i + 4) 0#8) 0 (i + 5) zn else va_cpy fZ (oz_pb fW i 4 zn) 0 (i + 4) zn), oz_oB cB z zn fZ] := by simp only [if_pos hc]
    rw [ew] at hP hD
    exact W.vret hx hb hr (fun t9 ht hW => ⟨⟨fM2, rfl, trivial, by rw [ht]; exact hP, va_K.moved hW.alike hK, hD⟩, hS.F ht⟩) hS.2.2 dX1_putMPInt_39

/-- getByte: the next byte -/
abbrev rm_X1_getByte : Room := ({ frames := 0, cells := 0, slots := 0, locals := 0 } : Room)
set_option maxHeartbeats 4000000 in
set_option maxRecDepth 100000 in
theorem mt_X1_getByte (l : Launch) (G : va_G) (cB cI : ClassId) (sz : Nat) (q t b i k : Nat) (fM fW : Nat → oz_By) (hk : k < 2048) : Met l yX1_getByte (ws_ yX1_getByte cX1_getByte 1 (some .int)) rm_X1_getByte (va_Pc [.ref q] (oz_pw G cB cI sz [oz_oO q t b i k, oz_oB cB t 4 fM, oz_oB cB b 2048 fW])) (va_Qi (fun (x9 : Int32) (_ : Unit) => x9 = nI ((fW k).toNat)) (fun (u : Unit) => oz_qw G cB cI (va_A [oz_oO q t b i k, oz_oB cB t 4 fM, oz_oB cB b 2048 fW] sz) [oz_oO q t b i (k + 1), oz_oB cB t 4 fM, oz_oB cB b 2048 fW]) (va_A [oz_oO q t b i k, oz_oB cB t 4 fM, oz_oB cB b 2048 fW] sz)) 0 0 (va_A [oz_oO q t b i k, oz_oB cB t 4 fM, oz_oB cB b 2048 fW] sz) := by
  refine Met.ofW (cc := cX1_getByte) (maxL := 1) (ret := (some .int)) (by decide) rfl ?_
  intro p e s m args below meth c s₁ B hml hv
  obtain ⟨rfl, hsz, hP, hK, hD0⟩ := hv
  have hx := B.exec
  have hb := B.bytes
  have hr := B.returns
  have hts := atoms_spec (ws := (ws_ yX1_getByte cX1_getByte 1 (some .int))) B.pre
  have hts : ∀ w ∈ lw_all, w.before _ s = true := fun w h => hts w (List.mem_cons_of_mem _ h)
  have hown : s.vm.findClass RX1 = some m.cls := findClass_of_methodNamed B.named
  have hlocks := B.notSynchronized
  subst hsz
  have hD := hD0.self (sz := s.heap.size)
  generalize hAe : va_A [oz_oO q t b i k, oz_oB cB t 4 fM, oz_oB cB b 2048 fW] s.heap.size = A at hD ⊢
  have hA : ∀ q9 : Nat, s.heap.size ≤ q9 → A q9 := fun q9 h => by rw [← hAe]; exact Or.inr h
  have hS : va_S A s.heap s.heap [] := va_S.rf
  have hP : va_P G vwCl [oz_oO q t b i k, oz_oB cB t 4 fM, oz_oB cB b 2048 fW] s.heap := hP
  have hl := lv_entry ([.ref q]) (n := 1) (Nat.le_of_ble_eq_true rfl)
  rw [lg_entry_eq]
  generalize (lg_sl ([.ref q]) ++ List.replicate (1 - (lg_sl ([.ref q])).length) Slot.unset).toArray = ls at hl ⊢
  have hl : lv_has ls 1 [(0, .ref q)] := hl
  refine lv_aload_n hx hb dX1_getByte_0 rfl (lv_at hl 0 rfl) ?_
  refine va_get (D := G) (ci := 1) (v := .ref b) (C := RX1) (T := TX1) (N := 4) hx hb hts in_X1 hown hK hP 0 rfl rfl 1 (by decide) (hts _ q31) (fun _ h9 => h9) rfl dX1_getByte_1 ?_
  refine lv_aload_n hx hb dX1_getByte_4 rfl (lv_at hl 0 rfl) ?_
  refine lv_dup hx hb dX1_getByte_5 rfl ?_
  refine va_get (D := G) (ci := 1) (v := .int (nI k)) (C := RX1) (T := TX1) (N := 4) hx hb hts in_X1 hown hK hP 0 rfl rfl 3 (by decide) (hts _ q35) (fun _ h9 => h9) rfl dX1_getByte_6 ?_
  refine lv_dup_x1 hx hb dX1_getByte_9 rfl rfl ?_
  refine lv_iconst (v := nI 1) hx hb dX1_getByte_10 (by decide) ?_
  refine oz_kadd hx hb dX1_getByte_11 ?_
  refine va_put (D := G) (ci := 1) (v := .int (nI (k + 1))) (ty := .int) (C := RX1) (T := TX1) (N := 4) hx hb hts in_X1 tyX1 tyX1_ok nmX1 hown hK hP hD hS 0 rfl rfl 3 (by decide) (hts _ q35) (fun _ h9 => h9) rfl (by decide +kernel) rfl rfl (Nat.le_of_ble_eq_true rfl) dX1_getByte_12 (fun H locs hP hD hS => ?_)
  have hP : va_P G vwCl [oz_oO q t b i (k + 1), oz_oB cB t 4 fM, oz_oB cB b 2048 fW] H := hP
  have hD : va_D A [oz_oO q t b i (k + 1), oz_oB cB t 4 fM, oz_oB cB b 2048 fW] := hD
  refine oz_kb_ld hx hb hK hP 2 rfl (hk) (by decide) dX1_getByte_15 ?_
  refine lv_sipush (v := nI 255) hx hb dX1_getByte_16 (by decide) ?_
  refine lv_iand hx hb dX1_getByte_19 ?_
  refine oz_ktop (y := nI ((fW k).toNat)) (oz_dB_and _) ?_
  exact W.iret (v := nI ((fW k).toNat)) hx hb hr (fun t9 ht hW => ⟨⟨_, (), rfl, rfl, by rw [ht]; exact hP, va_K.moved hW.alike hK, hD⟩, hS.F ht⟩) hS.2.2 dX1_getByte_20

/-- getShort: two bytes as a number -/
abbrev rm_X1_getShort : Room := ({ frames := 1, cells := 0, slots := 0, locals := 20 } : Room)
set_option maxHeartbeats 4000000 in
set_option maxRecDepth 100000 in
theorem mt_X1_getShort (l : Launch) (G : va_G) (cB cI : ClassId) (sz : Nat) (q t b i k : Nat) (fM fW : Nat → oz_By) (hk : k + 2 ≤ 2048) : Met l yX1_getShort (ws_ yX1_getShort cX1_getShort 2 (some .int)) rm_X1_getShort (va_Pc [.ref q] (oz_pw G cB cI sz [oz_oO q t b i k, oz_oB cB t 4 fM, oz_oB cB b 2048 fW])) (va_Qi (fun (x9 : Int32) (_ : Unit) => x9 = nI (oz_be fW k 2)) (fun (u : Unit) => oz_qw G cB cI (va_A [oz_oO q t b i k, oz_oB cB t 4 fM, oz_oB cB b 2048 fW] sz) [oz_oO q t b i (k + 2), oz_oB cB t 4 fM, oz_oB cB b 2048 fW]) (va_A [oz_oO q t b i k, oz_oB cB t 4 fM, oz_oB cB b 2048 fW] sz)) 0 0 (va_A [oz_oO q t b i k, oz_oB cB t 4 fM, oz_oB cB b 2048 fW] sz) := by
  refine Met.ofW (cc := cX1_getShort) (maxL := 2) (ret := (some .int)) (by decide) rfl ?_
  intro p e s m args below meth c s₁ B hml hv
  obtain ⟨rfl, hsz, hP, hK, hD0⟩ := hv
  have hx := B.exec
  have hb := B.bytes
  have hr := B.returns
  have hts := atoms_spec (ws := (ws_ yX1_getShort cX1_getShort 2 (some .int))) B.pre
  have hts : ∀ w ∈ lw_all, w.before _ s = true := fun w h => hts w (List.mem_cons_of_mem _ h)
  have hown : s.vm.findClass RX1 = some m.cls := findClass_of_methodNamed B.named
  have hlocks := B.notSynchronized
  subst hsz
  have hD := hD0.self (sz := s.heap.size)
  generalize hAe : va_A [oz_oO q t b i k, oz_oB cB t 4 fM, oz_oB cB b 2048 fW] s.heap.size = A at hD ⊢
  have hA : ∀ q9 : Nat, s.heap.size ≤ q9 → A q9 := fun q9 h => by rw [← hAe]; exact Or.inr h
  have hS : va_S A s.heap s.heap [] := va_S.rf
  have hP : va_P G vwCl [oz_oO q t b i k, oz_oB cB t 4 fM, oz_oB cB b 2048 fW] s.heap := hP
  have hl := lv_entry ([.ref q]) (n := 2) (Nat.le_of_ble_eq_true rfl)
  rw [lg_entry_eq]
  generalize (lg_sl ([.ref q]) ++ List.replicate (2 - (lg_sl ([.ref q])).length) Slot.unset).toArray = ls at hl ⊢
  have hl : lv_has ls 2 [(0, .ref q)] := hl
  have h8 := oz_by_lt (fW k)
  have h9 := oz_by_lt (fW (k + 1))
  refine lv_aload_n hx hb dX1_getShort_0 rfl (lv_at hl 0 rfl) ?_
  refine oz_kc_i (nA := 0) (As := []) (rest := []) (wr := []) (w3 := fun (u : Unit) => [oz_oO q t b i (k + 1), oz_oB cB t 4 fM, oz_oB cB b 2048 fW]) (C := RX1) hx hb hml hown hts hK hP hD hS hA (mt_X1_getByte l G cB cI s.heap.size q t b i k fM fW (by omega)) (lw_V q165 q154 q155 q13 q156) rfl rfl (by decide +kernel) rfl ⟨Nat.le_of_ble_eq_true rfl, Nat.le_of_ble_eq_true rfl⟩ [0, 1, 2] [] rfl rfl rfl rfl (by decide) 0 rfl rfl rfl hl.1 (Nat.le_of_ble_eq_true rfl) dX1_getShort_1 ⟨Nat.le_of_ble_eq_true rfl, Nat.le_of_ble_eq_true rfl⟩ (fun _ => rfl) (fun _ H locs hP hD hS => ?_)
  have hP : va_P G vwCl [oz_oO q t b i (k + 1), oz_oB cB t 4 fM, oz_oB cB b 2048 fW] H := hP
  have hD : va_D A [oz_oO q t b i (k + 1), oz_oB cB t 4 fM, oz_oB cB b 2048 fW] := hD
  refine lv_istore_n (lv' := [(1, .int (nI ((fW k).toNat))), (0, .ref q)]) hx hb dX1_getShort_4 rfl hl (by decide) rfl (fun ls hl => ?_)
  refine lv_iload_n hx hb dX1_getShort_5 rfl (lv_at hl 0 rfl) ?_
  refine lv_bipush (v := nI 8) hx hb dX1_getShort_6 (by decide) ?_
  refine lv_ishl hx hb dX1_getShort_8 ?_
  refine oz_ktop (y := nI ((fW k).toNat * 256)) (oz_shl_N 8 (by decide) (by omega)) ?_
  refine lv_ldc hx hb hown (hts _ q166) dX1_getShort_9 ?_
  refine lv_iand hx hb dX1_getShort_11 ?_
  refine oz_ktop (y := nI ((fW k).toNat * 256)) (oz_and_ff00 _ h8) ?_
  refine lv_aload_n hx hb dX1_getShort_12 rfl (lv_at hl 1 rfl) ?_
  refine oz_kc_i (nA := 0) (As := []) (rest := [.int (nI ((fW k).toNat * 256))]) (wr := []) (w3 := fun (u : Unit) => [oz_oO q t b i ((k + 1) + 1), oz_oB cB t 4 fM, oz_oB cB b 2048 fW]) (C := RX1) hx hb hml hown hts hK hP hD hS hA (mt_X1_getByte l G cB cI H.size q t b i (k + 1) fM fW (by omega)) (lw_V q165 q154 q155 q13 q156) rfl rfl (by decide +kernel) rfl ⟨Nat.le_of_ble_eq_true rfl, Nat.le_of_ble_eq_true rfl⟩ [0, 1, 2] [] rfl rfl rfl rfl (by decide) 0 rfl rfl rfl hl.1 (Nat.le_of_ble_eq_true rfl) dX1_getShort_13 ⟨Nat.le_of_ble_eq_true rfl, Nat.le_of_ble_eq_true rfl⟩ (fun _ => rfl) (fun _ H locs hP hD hS => ?_)
  have hP : va_P G vwCl [oz_oO q t b i ((k + 1) + 1), oz_oB cB t 4 fM, oz_oB cB b 2048 fW] H := hP
  have hD : va_D A [oz_oO q t b i ((k + 1) + 1), oz_oB cB t 4 fM, oz_oB cB b 2048 fW] := hD
  refine lv_sipush (v := nI 255) hx hb dX1_getShort_16 (by decide) ?_
  refine lv_iand hx hb dX1_getShort_19 ?_
  refine oz_ktop (y := nI ((fW (k + 1)).toNat)) (oz_and_b h9) ?_
  refine lv_ior hx hb dX1_getShort_20 ?_
  refine oz_ktop (y := nI (oz_be fW k 2)) ((oz_or_N 8 (by omega) (by omega)).trans (by rw [oz_be_2])) ?_
  refine lv_istore_n (lv' := [(1, .int (nI (oz_be fW k 2))), (0, .ref q)]) hx hb dX1_getShort_21 rfl hl (by decide) rfl (fun ls hl => ?_)
  refine lv_iload_n hx hb dX1_getShort_22 rfl (lv_at hl 0 rfl) ?_
  exact W.iret (v := nI (oz_be fW k 2)) hx hb hr (fun t9 ht hW => ⟨⟨_, (), rfl, rfl, by rw [ht]; exact hP, va_K.moved hW.alike hK, hD⟩, hS.F ht⟩) hS.2.2 dX1_getShort_23

/-- getInt: four bytes as a number -/
abbrev rm_X1_getInt : Room := ({ frames := 2, cells := 0, slots := 0, locals := 41 } : Room)
set_option maxHeartbeats 4000000 in
set_option maxRecDepth 100000 in
theorem mt_X1_getInt (l : Launch) (G : va_G) (cB cI : ClassId) (sz : Nat) (q t b i k : Nat) (fM fW : Nat → oz_By) (hk : k + 4 ≤ 2048) : Met l yX1_getInt (ws_ yX1_getInt cX1_getInt 2 (some .int)) rm_X1_getInt (va_Pc [.ref q] (oz_pw G cB cI sz [oz_oO q t b i k, oz_oB cB t 4 fM, oz_oB cB b 2048 fW])) (va_Qi (fun (x9 : Int32) (_ : Unit) => x9 = nI (oz_be fW k 4)) (fun (u : Unit) => oz_qw G cB cI (va_A [oz_oO q t b i k, oz_oB cB t 4 fM, oz_oB cB b 2048 fW] sz) [oz_oO q t b i (k + 4), oz_oB cB t 4 fM, oz_oB cB b 2048 fW]) (va_A [oz_oO q t b i k, oz_oB cB t 4 fM, oz_oB cB b 2048 fW] sz)) 0 0 (va_A [oz_oO q t b i k, oz_oB cB t 4 fM, oz_oB cB b 2048 fW] sz) := by
  refine Met.ofW (cc := cX1_getInt) (maxL := 2) (ret := (some .int)) (by decide) rfl ?_
  intro p e s m args below meth c s₁ B hml hv
  obtain ⟨rfl, hsz, hP, hK, hD0⟩ := hv
  have hx := B.exec
  have hb := B.bytes
  have hr := B.returns
  have hts := atoms_spec (ws := (ws_ yX1_getInt cX1_getInt 2 (some .int))) B.pre
  have hts : ∀ w ∈ lw_all, w.before _ s = true := fun w h => hts w (List.mem_cons_of_mem _ h)
  have hown : s.vm.findClass RX1 = some m.cls := findClass_of_methodNamed B.named
  have hlocks := B.notSynchronized
  subst hsz
  have hD := hD0.self (sz := s.heap.size)
  generalize hAe : va_A [oz_oO q t b i k, oz_oB cB t 4 fM, oz_oB cB b 2048 fW] s.heap.size = A at hD ⊢
  have hA : ∀ q9 : Nat, s.heap.size ≤ q9 → A q9 := fun q9 h => by rw [← hAe]; exact Or.inr h
  have hS : va_S A s.heap s.heap [] := va_S.rf
  have hP : va_P G vwCl [oz_oO q t b i k, oz_oB cB t 4 fM, oz_oB cB b 2048 fW] s.heap := hP
  have hl := lv_entry ([.ref q]) (n := 2) (Nat.le_of_ble_eq_true rfl)
  rw [lg_entry_eq]
  generalize (lg_sl ([.ref q]) ++ List.replicate (2 - (lg_sl ([.ref q])).length) Slot.unset).toArray = ls at hl ⊢
  have hl : lv_has ls 2 [(0, .ref q)] := hl
  have h8 := oz_be2_lt fW k
  have h9 := oz_be2_lt fW (k + 2)
  refine lv_aload_n hx hb dX1_getInt_0 rfl (lv_at hl 0 rfl) ?_
  refine oz_kc_i (nA := 0) (As := []) (rest := []) (wr := []) (w3 := fun (u : Unit) => [oz_oO q t b i (k + 2), oz_oB cB t 4 fM, oz_oB cB b 2048 fW]) (C := RX1) hx hb hml hown hts hK hP hD hS hA (mt_X1_getShort l G cB cI s.heap.size q t b i k fM fW (by omega)) (lw_V q192 q162 q163 q13 q164) rfl rfl (by decide +kernel) rfl ⟨Nat.le_of_ble_eq_true rfl, Nat.le_of_ble_eq_true rfl⟩ [0, 1, 2] [] rfl rfl rfl rfl (by decide) 0 rfl rfl rfl hl.1 (Nat.le_of_ble_eq_true rfl) dX1_getInt_1 ⟨Nat.le_of_ble_eq_true rfl, Nat.le_of_ble_eq_true rfl⟩ (fun _ => rfl) (fun _ H locs hP hD hS => ?_)
  have hP : va_P G vwCl [oz_oO q t b i (k + 2), oz_oB cB t 4 fM, oz_oB cB b 2048 fW] H := hP
  have hD : va_D A [oz_oO q t b i (k + 2), oz_oB cB t 4 fM, oz_oB cB b 2048 fW] := hD
  refine lv_istore_n (lv' := [(1, .int (nI (oz_be fW k 2))), (0, .ref q)]) hx hb dX1_getInt_4 rfl hl (by decide) rfl (fun ls hl => ?_)
  refine lv_iload_n hx hb dX1_getInt_5 rfl (lv_at hl 0 rfl) ?_
  refine lv_bipush (v := nI 16) hx hb dX1_getInt_6 (by decide) ?_
  refine lv_ishl hx hb dX1_getInt_8 ?_
  refine oz_ktop (y := nI (oz_be fW k 2 * 65536)) (oz_shl_N 16 (by decide) (by omega)) ?_
  refine lv_ldc hx hb hown (hts _ q193) dX1_getInt_9 ?_
  refine lv_iand hx hb dX1_getInt_11 ?_
  refine oz_ktop (y := nI (oz_be fW k 2 * 65536)) (oz_and_hi h8) ?_
  refine lv_aload_n hx hb dX1_getInt_12 rfl (lv_at hl 1 rfl) ?_
  refine oz_kc_i (nA := 0) (As := []) (rest := [.int (nI (oz_be fW k 2 * 65536))]) (wr := []) (w3 := fun (u : Unit) => [oz_oO q t b i ((k + 2) + 2), oz_oB cB t 4 fM, oz_oB cB b 2048 fW]) (C := RX1) hx hb hml hown hts hK hP hD hS hA (mt_X1_getShort l G cB cI H.size q t b i (k + 2) fM fW (by omega)) (lw_V q192 q162 q163 q13 q164) rfl rfl (by decide +kernel) rfl ⟨Nat.le_of_ble_eq_true rfl, Nat.le_of_ble_eq_true rfl⟩ [0, 1, 2] [] rfl rfl rfl rfl (by decide) 0 rfl rfl rfl hl.1 (Nat.le_of_ble_eq_true rfl) dX1_getInt_13 ⟨Nat.le_of_ble_eq_true rfl, Nat.le_of_ble_eq_true rfl⟩ (fun _ => rfl) (fun _ H locs hP hD hS => ?_)
  have hP : va_P G vwCl [oz_oO q t b i ((k + 2) + 2), oz_oB cB t 4 fM, oz_oB cB b 2048 fW] H := hP
  have hD : va_D A [oz_oO q t b i ((k + 2) + 2), oz_oB cB t 4 fM, oz_oB cB b 2048 fW] := hD
  refine lv_ldc hx hb hown (hts _ q194) dX1_getInt_16 ?_
  refine lv_iand hx hb dX1_getInt_18 ?_
  refine oz_ktop (y := nI (oz_be fW (k + 2) 2)) (oz_and_16 h9) ?_
  refine lv_ior hx hb dX1_getInt_19 ?_
  refine oz_ktop (y := nI (oz_be fW k 4)) ((oz_or_N 16 (by omega) (by omega)).trans (by rw [oz_be_4])) ?_
  refine lv_istore_n (lv' := [(1, .int (nI (oz_be fW k 4))), (0, .ref q)]) hx hb dX1_getInt_20 rfl hl (by decide) rfl (fun ls hl => ?_)
  refine lv_iload_n hx hb dX1_getInt_21 rfl (lv_at hl 0 rfl) ?_
  exact W.iret (v := nI (oz_be fW k 4)) hx hb hr (fun t9 ht hW => ⟨⟨_, (), rfl, rfl, by rw [ht]; exact hP, va_K.moved hW.alike hK, hD⟩, hS.F ht⟩) hS.2.2 dX1_getInt_22

/-- getUInt: four bytes as a number, a long -/
abbrev rm_X1_getUInt : Room := ({ frames := 1, cells := 0, slots := 0, locals := 20 } : Room)
set_option maxHeartbeats 4000000 in
set_option maxRecDepth 100000 in
theorem mt_X1_getUInt (l : Launch) (G : va_G) (cB cI : ClassId) (sz : Nat) (q t b i k : Nat) (fM fW : Nat → oz_By) (hk : k + 4 ≤ 2048) : Met l yX1_getUInt (ws_ yX1_getUInt cX1_getUInt 5 (some .long)) rm_X1_getUInt (va_Pc [.ref q] (oz_pw G cB cI sz [oz_oO q t b i k, oz_oB cB t 4 fM, oz_oB cB b 2048 fW])) (va_Ql (fun (x9 : Int64) (_ : Unit) => x9 = lN (oz_be fW k 4)) (fun (u : Unit) => oz_qw G cB cI (va_A [oz_oO q t b i k, oz_oB cB t 4 fM, oz_oB cB b 2048 fW] sz) [oz_oO q t b i (k + 4), oz_oB cB t 4 fM, oz_oB cB b 2048 fW]) (va_A [oz_oO q t b i k, oz_oB cB t 4 fM, oz_oB cB b 2048 fW] sz)) 0 0 (va_A [oz_oO q t b i k, oz_oB cB t 4 fM, oz_oB cB b 2048 fW] sz) := by
  refine Met.ofW (cc := cX1_getUInt) (maxL := 5) (ret := (some .long)) (by decide) rfl ?_
  intro p e s m args below meth c s₁ B hml hv
  obtain ⟨rfl, hsz, hP, hK, hD0⟩ := hv
  have hx := B.exec
  have hb := B.bytes
  have hr := B.returns
  have hts := atoms_spec (ws := (ws_ yX1_getUInt cX1_getUInt 5 (some .long))) B.pre
  have hts : ∀ w ∈ lw_all, w.before _ s = true := fun w h => hts w (List.mem_cons_of_mem _ h)
  have hown : s.vm.findClass RX1 = some m.cls := findClass_of_methodNamed B.named
  have hlocks := B.notSynchronized
  subst hsz
  have hD := hD0.self (sz := s.heap.size)
  generalize hAe : va_A [oz_oO q t b i k, oz_oB cB t 4 fM, oz_oB cB b 2048 fW] s.heap.size = A at hD ⊢
  have hA : ∀ q9 : Nat, s.heap.size ≤ q9 → A q9 := fun q9 h => by rw [← hAe]; exact Or.inr h
  have hS : va_S A s.heap s.heap [] := va_S.rf
  have hP : va_P G vwCl [oz_oO q t b i k, oz_oB cB t 4 fM, oz_oB cB b 2048 fW] s.heap := hP
  have hl := lv_entry ([.ref q]) (n := 5) (Nat.le_of_ble_eq_true rfl)
  rw [lg_entry_eq]
  generalize (lg_sl ([.ref q]) ++ List.replicate (5 - (lg_sl ([.ref q])).length) Slot.unset).toArray = ls at hl ⊢
  have hl : lv_has ls 5 [(0, .ref q)] := hl
  have h4 := oz_by_lt (fW k)
  have h5 := oz_by_lt (fW (k + 1))
  have h6 := oz_by_lt (fW (k + 2))
  have h7 := oz_by_lt (fW (k + 3))
  have h8 := oz_be2_lt fW k
  have h9 := oz_be2_lt fW (k + 2)
  refine lv_lconst (v := lN 0) hx hb dX1_getUInt_0 (by decide) ?_
  refine lv_lstore_n (lv' := [(1, .long (lN 0)), (0, .ref q)]) hx hb dX1_getUInt_1 rfl hl (by decide) rfl (fun ls hl => ?_)
  refine lv_lconst (v := lN 0) hx hb dX1_getUInt_2 (by decide) ?_
  refine lv_lstore_n (lv' := [(3, .long (lN 0)), (1, .long (lN 0)), (0, .ref q)]) hx hb dX1_getUInt_3 rfl hl (by decide) rfl (fun ls hl => ?_)
  refine lv_aload_n hx hb dX1_getUInt_4 rfl (lv_at hl 2 rfl) ?_
  refine oz_kc_i (nA := 0) (As := []) (rest := []) (wr := []) (w3 := fun (u : Unit) => [oz_oO q t b i (k + 1), oz_oB cB t 4 fM, oz_oB cB b 2048 fW]) (C := RX1) hx hb hml hown hts hK hP hD hS hA (mt_X1_getByte l G cB cI s.heap.size q t b i k fM fW (by omega)) (lw_V q165 q154 q155 q13 q156) rfl rfl (by decide +kernel) rfl ⟨Nat.le_of_ble_eq_true rfl, Nat.le_of_ble_eq_true rfl⟩ [0, 1, 2] [] rfl rfl rfl rfl (by decide) 0 rfl rfl rfl hl.1 (Nat.le_of_ble_eq_true rfl) dX1_getUInt_5 ⟨Nat.le_of_ble_eq_true rfl, Nat.le_of_ble_eq_true rfl⟩ (fun _ => rfl) (fun _ H locs hP hD hS => ?_)
  have hP : va_P G vwCl [oz_oO q t b i (k + 1), oz_oB cB t 4 fM, oz_oB cB b 2048 fW] H := hP
  have hD : va_D A [oz_oO q t b i (k + 1), oz_oB cB t 4 fM, oz_oB cB b 2048 fW] := hD
  refine lv_i2l (v := lN ((fW k).toNat)) hx hb dX1_getUInt_8 (oz_i2l_s (by omega)) ?_
  refine lv_lstore_n (lv' := [(1, .long (lN ((fW k).toNat))), (3, .long (lN 0)), (0, .ref q)]) hx hb dX1_getUInt_9 rfl hl (by decide) rfl (fun ls hl => ?_)
  refine lv_lload_n hx hb dX1_getUInt_10 rfl (lv_at hl 0 rfl) ?_
  refine lv_bipush (v := nI 8) hx hb dX1_getUInt_11 (by decide) ?_
  refine lv_lshl (v := lN ((fW k).toNat * 256)) hx hb dX1_getUInt_13 (oz_shl_L 8 (by decide)) ?_
  refine lv_ldc2 hx hb hown (hts _ q177) dX1_getUInt_14 ?_
  refine lv_land hx hb dX1_getUInt_17 ?_
  refine oz_ktopl (y := lN ((fW k).toNat * 256)) (oz_and_ff00L _ h4) ?_
  refine lv_aload_n hx hb dX1_getUInt_18 rfl (lv_at hl 2 rfl) ?_
  refine oz_kc_i (nA := 0) (As := []) (rest := [.long (lN ((fW k).toNat * 256))]) (wr := []) (w3 := fun (u : Unit) => [oz_oO q t b i ((k + 1) + 1), oz_oB cB t 4 fM, oz_oB cB b 2048 fW]) (C := RX1) hx hb hml hown hts hK hP hD hS hA (mt_X1_getByte l G cB cI H.size q t b i (k + 1) fM fW (by omega)) (lw_V q165 q154 q155 q13 q156) rfl rfl (by decide +kernel) rfl ⟨Nat.le_of_ble_eq_true rfl, Nat.le_of_ble_eq_true rfl⟩ [0, 1, 2] [] rfl rfl rfl rfl (by decide) 0 rfl rfl rfl hl.1 (Nat.le_of_ble_eq_true rfl) dX1_getUInt_19 ⟨Nat.le_of_ble_eq_true rfl, Nat.le_of_ble_eq_true rfl⟩ (fun _ => rfl) (fun _ H locs hP hD hS => ?_)
  have hP : va_P G vwCl [oz_oO q t b i ((k + 1) + 1), oz_oB cB t 4 fM, oz_oB cB b 2048 fW] H := hP
  have hD : va_D A [oz_oO q t b i ((k + 1) + 1), oz_oB cB t 4 fM, oz_oB cB b 2048 fW] := hD
  refine lv_sipush (v := nI 255) hx hb dX1_getUInt_22 (by decide) ?_
  refine lv_iand hx hb dX1_getUInt_25 ?_
  refine oz_ktop (y := nI ((fW (k + 1)).toNat)) (oz_and_b h5) ?_
  refine lv_i2l (v := lN ((fW (k + 1)).toNat)) hx hb dX1_getUInt_26 (oz_i2l_s (by omega)) ?_
  refine lv_lor hx hb dX1_getUInt_27 ?_
  refine oz_ktopl (y := lN (oz_be fW k 2)) ((oz_or_L 8 (by omega) (by omega) (by omega)).trans (by rw [oz_be_2])) ?_
  refine lv_lstore_n (lv' := [(1, .long (lN (oz_be fW k 2))), (3, .long (lN 0)), (0, .ref q)]) hx hb dX1_getUInt_28 rfl hl (by decide) rfl (fun ls hl => ?_)
  refine lv_aload_n hx hb dX1_getUInt_29 rfl (lv_at hl 2 rfl) ?_
  refine oz_kc_i (nA := 0) (As := []) (rest := []) (wr := []) (w3 := fun (u : Unit) => [oz_oO q t b i ((k + 2) + 1), oz_oB cB t 4 fM, oz_oB cB b 2048 fW]) (C := RX1) hx hb hml hown hts hK hP hD hS hA (mt_X1_getByte l G cB cI H.size q t b i (k + 2) fM fW (by omega)) (lw_V q165 q154 q155 q13 q156) rfl rfl (by decide +kernel) rfl ⟨Nat.le_of_ble_eq_true rfl, Nat.le_of_ble_eq_true rfl⟩ [0, 1, 2] [] rfl rfl rfl rfl (by decide) 0 rfl rfl rfl hl.1 (Nat.le_of_ble_eq_true rfl) dX1_getUInt_30 ⟨Nat.le_of_ble_eq_true rfl, Nat.le_of_ble_eq_true rfl⟩ (fun _ => rfl) (fun _ H locs hP hD hS => ?_)
  have hP : va_P G vwCl [oz_oO q t b i ((k + 2) + 1), oz_oB cB t 4 fM, oz_oB cB b 2048 fW] H := hP
  have hD : va_D A [oz_oO q t b i ((k + 2) + 1), oz_oB cB t 4 fM, oz_oB cB b 2048 fW] := hD
  refine lv_i2l (v := lN ((fW (k + 2)).toNat)) hx hb dX1_getUInt_33 (oz_i2l_s (by omega)) ?_
  refine lv_lstore_n (lv' := [(3, .long (lN ((fW (k + 2)).toNat))), (1, .long (lN (oz_be fW k 2))), (0, .ref q)]) hx hb dX1_getUInt_34 rfl hl (by decide) rfl (fun ls hl => ?_)
  refine lv_lload_n hx hb dX1_getUInt_35 rfl (lv_at hl 0 rfl) ?_
  refine lv_bipush (v := nI 8) hx hb dX1_getUInt_36 (by decide) ?_
  refine lv_lshl (v := lN ((fW (k + 2)).toNat * 256)) hx hb dX1_getUInt_38 (oz_shl_L 8 (by decide)) ?_
  refine lv_ldc2 hx hb hown (hts _ q177) dX1_getUInt_39 ?_
  refine lv_land hx hb dX1_getUInt_42 ?_
  refine oz_ktopl (y := lN ((fW (k + 2)).toNat * 256)) (oz_and_ff00L _ h6) ?_
  refine lv_aload_n hx hb dX1_getUInt_43 rfl (lv_at hl 2 rfl) ?_
  refine oz_kc_i (nA := 0) (As := []) (rest := [.long (lN ((fW (k + 2)).toNat * 256))]) (wr := []) (w3 := fun (u : Unit) => [oz_oO q t b i ((k + 3) + 1), oz_oB cB t 4 fM, oz_oB cB b 2048 fW]) (C := RX1) hx hb hml hown hts hK hP hD hS hA (mt_X1_getByte l G cB cI H.size q t b i (k + 3) fM fW (by omega)) (lw_V q165 q154 q155 q13 q156) rfl rfl (by decide +kernel) rfl ⟨Nat.le_of_ble_eq_true rfl, Nat.le_of_ble_eq_true rfl⟩ [0, 1, 2] [] rfl rfl rfl rfl (by decide) 0 rfl rfl rfl hl.1 (Nat.le_of_ble_eq_true rfl) dX1_getUInt_44 ⟨Nat.le_of_ble_eq_true rfl, Nat.le_of_ble_eq_true rfl⟩ (fun _ => rfl) (fun _ H locs hP hD hS => ?_)
  have hP : va_P G vwCl [oz_oO q t b i ((k + 3) + 1), oz_oB cB t 4 fM, oz_oB cB b 2048 fW] H := hP
  have hD : va_D A [oz_oO q t b i ((k + 3) + 1), oz_oB cB t 4 fM, oz_oB cB b 2048 fW] := hD
  refine lv_sipush (v := nI 255) hx hb dX1_getUInt_47 (by decide) ?_
  refine lv_iand hx hb dX1_getUInt_50 ?_
  refine oz_ktop (y := nI ((fW (k + 3)).toNat)) (oz_and_b h7) ?_
  refine lv_i2l (v := lN ((fW (k + 3)).toNat)) hx hb dX1_getUInt_51 (oz_i2l_s (by omega)) ?_
  refine lv_lor hx hb dX1_getUInt_52 ?_
  refine oz_ktopl (y := lN (oz_be fW (k + 2) 2)) ((oz_or_L 8 (by omega) (by omega) (by omega)).trans (by rw [oz_be_2])) ?_
  refine lv_lstore_n (lv' := [(3, .long (lN (oz_be fW (k + 2) 2))), (1, .long (lN (oz_be fW k 2))), (0, .ref q)]) hx hb dX1_getUInt_53 rfl hl (by decide) rfl (fun ls hl => ?_)
  refine lv_lload_n hx hb dX1_getUInt_54 rfl (lv_at hl 1 rfl) ?_
  refine lv_bipush (v := nI 16) hx hb dX1_getUInt_55 (by decide) ?_
  refine lv_lshl (v := lN (oz_be fW k 2 * 65536)) hx hb dX1_getUInt_57 (oz_shl_L 16 (by decide)) ?_
  refine lv_ldc2 hx hb hown (hts _ q178) dX1_getUInt_58 ?_
  refine lv_land hx hb dX1_getUInt_61 ?_
  refine oz_ktopl (y := lN (oz_be fW k 2 * 65536)) (oz_and_hiL h8) ?_
  refine lv_lload_n hx hb dX1_getUInt_62 rfl (lv_at hl 0 rfl) ?_
  refine lv_ldc2 hx hb hown (hts _ q179) dX1_getUInt_63 ?_
  refine lv_land hx hb dX1_getUInt_66 ?_
  refine oz_ktopl (y := lN (oz_be fW (k + 2) 2)) (oz_and_16L h9) ?_
  refine lv_lor hx hb dX1_getUInt_67 ?_
  refine oz_ktopl (y := lN (oz_be fW k 4)) ((oz_or_L 16 (by omega) (by omega) (by omega)).trans (by rw [oz_be_4])) ?_
  refine lv_lstore_n (lv' := [(1, .long (lN (oz_be fW k 4))), (3, .long (lN (oz_be fW (k + 2) 2))), (0, .ref q)]) hx hb dX1_getUInt_68 rfl hl (by decide) rfl (fun ls hl => ?_)
  refine lv_lload_n hx hb dX1_getUInt_69 rfl (lv_at hl 0 rfl) ?_
  exact W.lret (v := lN (oz_be fW k 4)) hx hb hr (fun t9 ht hW => ⟨⟨_, (), rfl, rfl, by rw [ht]; exact hP, va_K.moved hW.alike hK, hD⟩, hS.F ht⟩) hS.2.2 dX1_getUInt_70

/-- getLong: eight bytes as a number -/
abbrev rm_X1_getLong : Room := ({ frames := 3, cells := 0, slots := 0, locals := 62 } : Room)
set_option maxHeartbeats 4000000 in
set_option maxRecDepth 100000 in
theorem mt_X1_getLong (l : Launch) (G : va_G) (cB cI : ClassId) (sz : Nat) (q t b i k : Nat) (fM fW : Nat → oz_By) (hk : k + 8 ≤ 2048) : Met l yX1_getLong (ws_ yX1_getLong cX1_getLong 3 (some .long)) rm_X1_getLong (va_Pc [.ref q] (oz_pw G cB cI sz [oz_oO q t b i k, oz_oB cB t 4 fM, oz_oB cB b 2048 fW])) (va_Ql (fun (x9 : Int64) (_ : Unit) => x9 = lN (oz_be fW k 8)) (fun (u : Unit) => oz_qw G cB cI (va_A [oz_oO q t b i k, oz_oB cB t 4 fM, oz_oB cB b 2048 fW] sz) [oz_oO q t b i (k + 8), oz_oB cB t 4 fM, oz_oB cB b 2048 fW]) (va_A [oz_oO q t b i k, oz_oB cB t 4 fM, oz_oB cB b 2048 fW] sz)) 0 0 (va_A [oz_oO q t b i k, oz_oB cB t 4 fM, oz_oB cB b 2048 fW] sz) := by
  refine Met.ofW (cc := cX1_getLong) (maxL := 3) (ret := (some .long)) (by decide) rfl ?_
  intro p e s m args below meth c s₁ B hml hv
  obtain ⟨rfl, hsz, hP, hK, hD0⟩ := hv
  have hx := B.exec
  have hb := B.bytes
  have hr := B.returns
  have hts := atoms_spec (ws := (ws_ yX1_getLong cX1_getLong 3 (some .long))) B.pre
  have hts : ∀ w ∈ lw_all, w.before _ s = true := fun w h => hts w (List.mem_cons_of_mem _ h)
  have hown : s.vm.findClass RX1 = some m.cls := findClass_of_methodNamed B.named
  have hlocks := B.notSynchronized
  subst hsz
  have hD := hD0.self (sz := s.heap.size)
  generalize hAe : va_A [oz_oO q t b i k, oz_oB cB t 4 fM, oz_oB cB b 2048 fW] s.heap.size = A at hD ⊢
  have hA : ∀ q9 : Nat, s.heap.size ≤ q9 → A q9 := fun q9 h => by rw [← hAe]; exact Or.inr h
  have hS : va_S A s.heap s.heap [] := va_S.rf
  have hP : va_P G vwCl [oz_oO q t b i k, oz_oB cB t 4 fM, oz_oB cB b 2048 fW] s.heap := hP
  have hl := lv_entry ([.ref q]) (n := 3) (Nat.le_of_ble_eq_true rfl)
  rw [lg_entry_eq]
  generalize (lg_sl ([.ref q]) ++ List.replicate (3 - (lg_sl ([.ref q])).length) Slot.unset).toArray = ls at hl ⊢
  have hl : lv_has ls 3 [(0, .ref q)] := hl
  have h8 := oz_be4_lt fW k
  have h9 := oz_be4_lt fW (k + 4)
  refine lv_aload_n hx hb dX1_getLong_0 rfl (lv_at hl 0 rfl) ?_
  refine oz_kc_i (nA := 0) (As := []) (rest := []) (wr := []) (w3 := fun (u : Unit) => [oz_oO q t b i (k + 4), oz_oB cB t 4 fM, oz_oB cB b 2048 fW]) (C := RX1) hx hb hml hown hts hK hP hD hS hA (mt_X1_getInt l G cB cI s.heap.size q t b i k fM fW (by omega)) (lw_V q188 q189 q190 q13 q191) rfl rfl (by decide +kernel) rfl ⟨Nat.le_of_ble_eq_true rfl, Nat.le_of_ble_eq_true rfl⟩ [0, 1, 2] [] rfl rfl rfl rfl (by decide) 0 rfl rfl rfl hl.1 (Nat.le_of_ble_eq_true rfl) dX1_getLong_1 ⟨Nat.le_of_ble_eq_true rfl, Nat.le_of_ble_eq_true rfl⟩ (fun _ => rfl) (fun _ H locs hP hD hS => ?_)
  have hP : va_P G vwCl [oz_oO q t b i (k + 4), oz_oB cB t 4 fM, oz_oB cB b 2048 fW] H := hP
  have hD : va_D A [oz_oO q t b i (k + 4), oz_oB cB t 4 fM, oz_oB cB b 2048 fW] := hD
  refine lv_i2l (v := ((nI (oz_be fW k 4)).toInt64)) hx hb dX1_getLong_4 (rfl) ?_
  refine lv_ldc2 hx hb hown (hts _ q195) dX1_getLong_5 ?_
  refine lv_land hx hb dX1_getLong_8 ?_
  refine oz_ktopl (y := lN (oz_be fW k 4)) (oz_i2l_and h8) ?_
  refine lv_lstore_n (lv' := [(1, .long (lN (oz_be fW k 4))), (0, .ref q)]) hx hb dX1_getLong_9 rfl hl (by decide) rfl (fun ls hl => ?_)
  refine lv_lload_n hx hb dX1_getLong_10 rfl (lv_at hl 0 rfl) ?_
  refine lv_bipush (v := nI 32) hx hb dX1_getLong_11 (by decide) ?_
  refine lv_lshl (v := lN (oz_be fW k 4 * 4294967296)) hx hb dX1_getLong_13 (oz_shl_L 32 (by decide)) ?_
  refine lv_aload_n hx hb dX1_getLong_14 rfl (lv_at hl 1 rfl) ?_
  refine oz_kc_i (nA := 0) (As := []) (rest := [.long (lN (oz_be fW k 4 * 4294967296))]) (wr := []) (w3 := fun (u : Unit) => [oz_oO q t b i ((k + 4) + 4), oz_oB cB t 4 fM, oz_oB cB b 2048 fW]) (C := RX1) hx hb hml hown hts hK hP hD hS hA (mt_X1_getInt l G cB cI H.size q t b i (k + 4) fM fW (by omega)) (lw_V q188 q189 q190 q13 q191) rfl rfl (by decide +kernel) rfl ⟨Nat.le_of_ble_eq_true rfl, Nat.le_of_ble_eq_true rfl⟩ [0, 1, 2] [] rfl rfl rfl rfl (by decide) 0 rfl rfl rfl hl.1 (Nat.le_of_ble_eq_true rfl) dX1_getLong_15 ⟨Nat.le_of_ble_eq_true rfl, Nat.le_of_ble_eq_true rfl⟩ (fun _ => rfl) (fun _ H locs hP hD hS => ?_)
  have hP : va_P G vwCl [oz_oO q t b i ((k + 4) + 4), oz_oB cB t 4 fM, oz_oB cB b 2048 fW] H := hP
  have hD : va_D A [oz_oO q t b i ((k + 4) + 4), oz_oB cB t 4 fM, oz_oB cB b 2048 fW] := hD
  refine lv_i2l (v := ((nI (oz_be fW (k + 4) 4)).toInt64)) hx hb dX1_getLong_18 (rfl) ?_
  refine lv_ldc2 hx hb hown (hts _ q195) dX1_getLong_19 ?_
  refine lv_land hx hb dX1_getLong_22 ?_
  refine oz_ktopl (y := lN (oz_be fW (k + 4) 4)) (oz_i2l_and h9) ?_
  refine lv_lor hx hb dX1_getLong_23 ?_
  refine oz_ktopl (y := lN (oz_be fW k 8)) ((oz_or_L 32 (by omega) (by omega) (by omega)).trans (by rw [oz_be_8])) ?_
  refine lv_lstore_n (lv' := [(1, .long (lN (oz_be fW k 8))), (0, .ref q)]) hx hb dX1_getLong_24 rfl hl (by decide) rfl (fun ls hl => ?_)
  refine lv_lload_n hx hb dX1_getLong_25 rfl (lv_at hl 0 rfl) ?_
  exact W.lret (v := lN (oz_be fW k 8)) hx hb hr (fun t9 ht hW => ⟨⟨_, (), rfl, rfl, by rw [ht]; exact hP, va_K.moved hW.alike hK, hD⟩, hS.F ht⟩) hS.2.2 dX1_getLong_26

/-- getByte(foo, start, len) -/
abbrev rm_X1_getByte_2 : Room := ({ frames := 1, cells := 0, slots := 0, locals := 18 } : Room)
set_option maxHeartbeats 4000000 in
set_option maxRecDepth 100000 in
theorem mt_X1_getByte_2 (l : Launch) (G : va_G) (cB cI : ClassId) (sz : Nat) (q t b i k : Nat) (fM fW : Nat → oz_By) (z zn : Nat) (fZ : Nat → oz_By) (g n : Nat) (hz : g + n ≤ zn) (hzn : zn < 2 ^ 31) (hk : k + n ≤ 2048) : Met l yX1_getByte_2 (ws_ yX1_getByte_2 cX1_getByte_2 4 none) rm_X1_getByte_2 (va_Pc [.ref q, .ref z, .int (nI g), .int (nI n)] (oz_pw G cB cI sz [oz_oO q t b i k, oz_oB cB t 4 fM, oz_oB cB b 2048 fW, oz_oB cB z zn fZ])) (va_Qv (fun _ : Unit => True) (fun (u : Unit) => oz_qw G cB cI (va_A [oz_oO q t b i k, oz_oB cB t 4 fM, oz_oB cB b 2048 fW, oz_oB cB z zn fZ] sz) [oz_oO q t b i (k + n), oz_oB cB t 4 fM, oz_oB cB b 2048 fW, oz_oB cB z zn (va_cpy fW fZ k g n)]) (va_A [oz_oO q t b i k, oz_oB cB t 4 fM, oz_oB cB b 2048 fW, oz_oB cB z zn fZ] sz)) 0 0 (va_A [oz_oO q t b i k, oz_oB cB t 4 fM, oz_oB cB b 2048 fW, oz_oB cB z zn fZ] sz) := by
  refine Met.ofW (cc := cX1_getByte_2) (maxL := 4) (ret := none) (by decide) rfl ?_
  intro p e s m args below meth c s₁ B hml hv
  obtain ⟨rfl, hsz, hP, hK, hD0⟩ := hv
  have hx := B.exec
  have hb := B.bytes
  have hr := B.returns
  have hts := atoms_spec (ws := (ws_ yX1_getByte_2 cX1_getByte_2 4 none)) B.pre
  have hts : ∀ w ∈ lw_all, w.before _ s = true := fun w h => hts w (List.mem_cons_of_mem _ h)
  have hown : s.vm.findClass RX1 = some m.cls := findClass_of_methodNamed B.named
  have hlocks := B.notSynchronized
  subst hsz
  have hD := hD0.self (sz := s.heap.size)
  generalize hAe : va_A [oz_oO q t b i k, oz_oB cB t 4 fM, oz_oB cB b 2048 fW, oz_oB cB z zn fZ] s.heap.size = A at hD ⊢
  have hA : ∀ q9 : Nat, s.heap.size ≤ q9 → A q9 := fun q9 h => by rw [← hAe]; exact Or.inr h
  have hS : va_S A s.heap s.heap [] := va_S.rf
  have hP : va_P G vwCl [oz_oO q t b i k, oz_oB cB t 4 fM, oz_oB cB b 2048 fW, oz_oB cB z zn fZ] s.heap := hP
  have hl := lv_entry ([.ref q, .ref z, .int (nI g), .int (nI n)]) (n := 4) (Nat.le_of_ble_eq_true rfl)
  rw [lg_entry_eq]
  generalize (lg_sl ([.ref q, .ref z, .int (nI g), .int (nI n)]) ++ List.replicate (4 - (lg_sl ([.ref q, .ref z, .int (nI g), .int (nI n)])).length) Slot.unset).toArray = ls at hl ⊢
  have hl : lv_has ls 4 [(0, .ref q), (1, .ref z), (2, .int (nI g)), (3, .int (nI n))] := hl
  refine lv_aload_n hx hb dX1_getByte_2_0 rfl (lv_at hl 0 rfl) ?_
  refine va_get (D := G) (ci := 1) (v := .ref b) (C := RX1) (T := TX1) (N := 4) hx hb hts in_X1 hown hK hP 0 rfl rfl 1 (by decide) (hts _ q31) (fun _ h9 => h9) rfl dX1_getByte_2_1 ?_
  refine lv_aload_n hx hb dX1_getByte_2_4 rfl (lv_at hl 0 rfl) ?_
  refine va_get (D := G) (ci := 1) (v := .int (nI k)) (C := RX1) (T := TX1) (N := 4) hx hb hts in_X1 hown hK hP 0 rfl rfl 3 (by decide) (hts _ q35) (fun _ h9 => h9) rfl dX1_getByte_2_5 ?_
  refine lv_aload_n hx hb dX1_getByte_2_8 rfl (lv_at hl 1 rfl) ?_
  refine lv_iload_n hx hb dX1_getByte_2_9 rfl (lv_at hl 2 rfl) ?_
  refine lv_iload_n hx hb dX1_getByte_2_10 rfl (lv_at hl 3 rfl) ?_
  refine oz_kb_cp (w2 := [oz_oO q t b i k, oz_oB cB t 4 fM, oz_oB cB b 2048 fW, oz_oB cB z zn (va_cpy fW fZ k g n)]) hx hb (by rw [hml]; exact hl.1.symm) hown (hts _ q91) (hts _ q93) (hts _ q92) (hts _ q15) hK hP hD hS 2 3 rfl rfl (hk) (hz) (by omega) (hzn) (Nat.le_of_ble_eq_true rfl) (Nat.le_of_ble_eq_true rfl) dX1_getByte_2_11 (rfl) (fun H locs hP hD hS => ?_)
  refine lv_aload_n hx hb dX1_getByte_2_14 rfl (lv_at hl 0 rfl) ?_
  refine lv_dup hx hb dX1_getByte_2_15 rfl ?_
  refine va_get (D := G) (ci := 1) (v := .int (nI k)) (C := RX1) (T := TX1) (N := 4) hx hb hts in_X1 hown hK hP 0 rfl rfl 3 (by decide) (hts _ q35) (fun _ h9 => h9) rfl dX1_getByte_2_16 ?_
  refine lv_iload_n hx hb dX1_getByte_2_19 rfl (lv_at hl 3 rfl) ?_
  refine oz_kadd hx hb dX1_getByte_2_20 ?_
  refine va_put (D := G) (ci := 1) (v := .int (nI (k + n))) (ty := .int) (C := RX1) (T := TX1) (N := 4) hx hb hts in_X1 tyX1 tyX1_ok nmX1 hown hK hP hD hS 0 rfl rfl 3 (by decide) (hts _ q35) (fun _ h9 => h9) rfl (by decide +kernel) rfl rfl (Nat.le_of_ble_eq_true rfl) dX1_getByte_2_21 (fun H locs hP hD hS => ?_)
  have hP : va_P G vwCl [oz_oO q t b i (k + n), oz_oB cB t 4 fM, oz_oB cB b 2048 fW, oz_oB cB z zn (va_cpy fW fZ k g n)] H := hP
  have hD : va_D A [oz_oO q t b i (k + n), oz_oB cB t 4 fM, oz_oB cB b 2048 fW, oz_oB cB z zn (va_cpy fW fZ k g n)] := hD
  exact W.vret hx hb hr (fun t9 ht hW => ⟨⟨(), rfl, trivial, by rw [ht]; exact hP, va_K.moved hW.alike hK, hD⟩, hS.F ht⟩) hS.2.2 dX1_getByte_2_24

/-- getString: a length, and so many bytes -/
abbrev rm_X1_getString : Room := ({ frames := 3, cells := 1, slots := 2048, locals := 62 } : Room)
set_option maxHeartbeats 4000000 in
set_option maxRecDepth 100000 in
theorem mt_X1_getString (l : Launch) (G : va_G) (cB cI : ClassId) (sz : Nat) (q t b i k : Nat) (fM fW : Nat → oz_By) (hk : k + 4 + oz_be fW k 4 ≤ 2048) : Met l yX1_getString (ws_ yX1_getString cX1_getString 3 (some (.array .byte))) rm_X1_getString (va_Pc [.ref q] (oz_pw G cB cI sz [oz_oO q t b i k, oz_oB cB t 4 fM, oz_oB cB b 2048 fW])) (va_Qr (fun _ : Unit => True) (fun (u : Unit) (z : Nat) => oz_qw G cB cI (va_A [oz_oO q t b i k, oz_oB cB t 4 fM, oz_oB cB b 2048 fW] sz) [oz_oO q t b i (k + 4 + oz_be fW k 4), oz_oB cB t 4 fM, oz_oB cB b 2048 fW, oz_oB cB z (oz_be fW k 4) (oz_sl fW (k + 4) (oz_be fW k 4))]) (va_A [oz_oO q t b i k, oz_oB cB t 4 fM, oz_oB cB b 2048 fW] sz)) 1 2048 (va_A [oz_oO q t b i k, oz_oB cB t 4 fM, oz_oB cB b 2048 fW] sz) := by
  refine Met.ofW (cc := cX1_getString) (maxL := 3) (ret := (some (.array .byte))) (by decide) rfl ?_
  intro p e s m args below meth c s₁ B hml hv
  obtain ⟨rfl, hsz, hP, hK, hD0⟩ := hv
  have hx := B.exec
  have hb := B.bytes
  have hr := B.returns
  have hts := atoms_spec (ws := (ws_ yX1_getString cX1_getString 3 (some (.array .byte)))) B.pre
  have hts : ∀ w ∈ lw_all, w.before _ s = true := fun w h => hts w (List.mem_cons_of_mem _ h)
  have hown : s.vm.findClass RX1 = some m.cls := findClass_of_methodNamed B.named
  have hlocks := B.notSynchronized
  subst hsz
  have hD := hD0.self (sz := s.heap.size)
  generalize hAe : va_A [oz_oO q t b i k, oz_oB cB t 4 fM, oz_oB cB b 2048 fW] s.heap.size = A at hD ⊢
  have hA : ∀ q9 : Nat, s.heap.size ≤ q9 → A q9 := fun q9 h => by rw [← hAe]; exact Or.inr h
  have hS : va_S A s.heap s.heap [] := va_S.rf
  have hP : va_P G vwCl [oz_oO q t b i k, oz_oB cB t 4 fM, oz_oB cB b 2048 fW] s.heap := hP
  have hl := lv_entry ([.ref q]) (n := 3) (Nat.le_of_ble_eq_true rfl)
  rw [lg_entry_eq]
  generalize (lg_sl ([.ref q]) ++ List.replicate (3 - (lg_sl ([.ref q])).length) Slot.unset).toArray = ls at hl ⊢
  have hl : lv_has ls 3 [(0, .ref q)] := hl
  refine lv_aload_n hx hb dX1_getString_0 rfl (lv_at hl 0 rfl) ?_
  refine oz_kc_i (nA := 0) (As := []) (rest := []) (wr := []) (w3 := fun (u : Unit) => [oz_oO q t b i (k + 4), oz_oB cB t 4 fM, oz_oB cB b 2048 fW]) (C := RX1) hx hb hml hown hts hK hP hD hS hA (mt_X1_getInt l G cB cI s.heap.size q t b i k fM fW (by omega)) (lw_V q188 q189 q190 q13 q191) rfl rfl (by decide +kernel) rfl ⟨Nat.le_of_ble_eq_true rfl, Nat.le_of_ble_eq_true rfl⟩ [0, 1, 2] [] rfl rfl rfl rfl (by decide) 0 rfl rfl rfl hl.1 (Nat.le_of_ble_eq_true rfl) dX1_getString_1 ⟨Nat.le_of_ble_eq_true rfl, Nat.le_of_ble_eq_true rfl⟩ (fun _ => rfl) (fun _ H locs hP hD hS => ?_)
  have hP : va_P G vwCl [oz_oO q t b i (k + 4), oz_oB cB t 4 fM, oz_oB cB b 2048 fW] H := hP
  have hD : va_D A [oz_oO q t b i (k + 4), oz_oB cB t 4 fM, oz_oB cB b 2048 fW] := hD
  refine lv_istore_n (lv' := [(1, .int (nI (oz_be fW k 4))), (0, .ref q)]) hx hb dX1_getString_4 rfl hl (by decide) rfl (fun ls hl => ?_)
  refine lv_iload_n hx hb dX1_getString_5 rfl (lv_at hl 0 rfl) ?_
  refine oz_kj_lt0 hx hb (by omega) (tgt := 15) dX1_getString_6 (by decide) (fun h1 => ?_) (fun h1 => ?_)
  · omega
  · refine lv_iload_n hx hb dX1_getString_9 rfl (lv_at hl 0 rfl) ?_
    refine lv_ldc hx hb hown (hts _ q212) dX1_getString_10 ?_
    refine oz_ktop (y := nI 262144) (rfl) ?_
    refine oz_kj_le hx hb (by omega) (by omega) (tgt := 18) dX1_getString_12 (by decide) (fun h2 => ?_) (fun h2 => ?_)
    · refine lv_iload_n hx hb dX1_getString_18 rfl (lv_at hl 0 rfl) ?_
      refine oz_kb_new hx hb (hts _ q45) hK hP hD hS hA (N := (oz_be fW k 4)) (by omega) (Nat.le_of_ble_eq_true rfl) (show 0 + _ ≤ 2048 by omega) dX1_getString_19 (fun z H hP hD hS => ?_)
      have hP : va_P G vwCl [oz_oO q t b i (k + 4), oz_oB cB t 4 fM, oz_oB cB b 2048 fW, oz_oB cB z (oz_be fW k 4) oz_z8] H := hP
      have hD : va_D A [oz_oO q t b i (k + 4), oz_oB cB t 4 fM, oz_oB cB b 2048 fW, oz_oB cB z (oz_be fW k 4) oz_z8] := hD
      refine W.widen (k := 1) (n := 2048) (Nat.le_of_ble_eq_true rfl) (by omega) ?_
      refine lv_astore_n (lv' := [(2, .ref z), (1, .int (nI (oz_be fW k 4))), (0, .ref q)]) hx hb dX1_getString_21 rfl hl (by decide) rfl (fun ls hl => ?_)
      refine lv_aload_n hx hb dX1_getString_22 rfl (lv_at hl 2 rfl) ?_
      refine lv_aload_n hx hb dX1_getString_23 rfl (lv_at hl 0 rfl) ?_
      refine lv_iconst (v := nI 0) hx hb dX1_getString_24 (by decide) ?_
      refine lv_iload_n hx hb dX1_getString_25 rfl (lv_at hl 1 rfl) ?_
      refine oz_kc_v (nA := 3) (As := [.ref z, .int (nI 0), .int (nI (oz_be fW k 4))]) (rest := []) (wr := []) (w3 := fun (u : Unit) => [oz_oO q t b i ((k + 4) + (oz_be fW k 4)), oz_oB cB t 4 fM, oz_oB cB b 2048 fW, oz_oB cB z ((oz_be fW k 4)) (va_cpy fW oz_z8 (k + 4) 0 (oz_be fW k 4))]) (C := RX1) hx hb hml hown hts hK hP hD hS hA (mt_X1_getByte_2 l G cB cI H.size q t b i (k + 4) fM fW z (oz_be fW k 4) oz_z8 0 (oz_be fW k 4) (by omega) (by omega) (by omega)) (lw_V q213 q214 q215 q13 q216) rfl rfl (by decide +kernel) rfl ⟨Nat.le_of_ble_eq_true rfl, Nat.le_of_ble_eq_true rfl⟩ [0, 1, 2, 3] [] rfl rfl rfl rfl (by decide) 0 rfl rfl rfl hl.1 (Nat.le_of_ble_eq_true rfl) dX1_getString_26 ⟨Nat.le_of_ble_eq_true rfl, Nat.le_of_ble_eq_true rfl⟩ (fun _ => rfl) (fun _ H locs hP hD hS => ?_)
      have hP : va_P G vwCl [oz_oO q t b i ((k + 4) + (oz_be fW k 4)), oz_oB cB t 4 fM, oz_oB cB b 2048 fW, oz_oB cB z ((oz_be fW k 4)) (va_cpy fW oz_z8 (k + 4) 0 (oz_be fW k 4))] H := hP
      have hD : va_D A [oz_oO q t b i ((k + 4) + (oz_be fW k 4)), oz_oB cB t 4 fM, oz_oB cB b 2048 fW, oz_oB cB z ((oz_be fW k 4)) (va_cpy fW oz_z8 (k + 4) 0 (oz_be fW k 4))] := hD
      rw [oz_cp_sl] at hP hD
      refine lv_aload_n hx hb dX1_getString_29 rfl (lv_at hl 0 rfl) ?_
      exact W.aret (v := .ref z) hx hb hr (Or.inr ⟨_, rfl⟩) (Or.inr ⟨_, rfl⟩) (fun t9 ht hW => ⟨⟨(), z, rfl, trivial, by rw [ht]; exact hP, va_K.moved hW.alike hK, hD⟩, hS.F ht⟩) hS.2.2 dX1_getString_30
    · omega
end
section
/-! WireBufferDesk: contracts -/
set_option maxRecDepth 100000
/-- word: four bytes, the highest first -/
abbrev rm_X0_word : Room := ({ frames := 0, cells := 0, slots := 0, locals := 0 } : Room)
set_option maxHeartbeats 4000000 in
set_option maxRecDepth 100000 in
theorem mt_X0_word (l : Launch) (G : va_G) (cB cI : ClassId) (sz : Nat) (tx a : Nat) (fT : Nat → oz_By) (v : Nat) (ha : a + 4 ≤ 256) : Met l yX0_word (ws_ yX0_word cX0_word 3 none) rm_X0_word (va_Pc [.ref tx, .int (nI a), .int (nI v)] (oz_pw G cB cI sz [oz_oB cB tx 256 fT])) (va_Qv (fun _ : Unit => True) (fun (u : Unit) => oz_qw G cB cI (va_A [oz_oB cB tx 256 fT] sz) [oz_oB cB tx 256 (oz_pb fT a 4 v)]) (va_A [oz_oB cB tx 256 fT] sz)) 0 0 (va_A [oz_oB cB tx 256 fT] sz) := by
  refine Met.ofW (cc := cX0_word) (maxL := 3) (ret := none) (by decide) rfl ?_
  intro p e s m args below meth c s₁ B hml hv
  obtain ⟨rfl, hsz, hP, hK, hD0⟩ := hv
  have hx := B.exec
  have hb := B.bytes
  have hr := B.returns
  have hts := atoms_spec (ws := (ws_ yX0_word cX0_word 3 none)) B.pre
  have hts : ∀ w ∈ lw_all, w.before _ s = true := fun w h => hts w (List.mem_cons_of_mem _ h)
  have hown : s.vm.findClass RX0 = some m.cls := findClass_of_methodNamed B.named
  have hlocks := B.notSynchronized
  subst hsz
  have hD := hD0.self (sz := s.heap.size)
  generalize hAe : va_A [oz_oB cB tx 256 fT] s.heap.size = A at hD ⊢
  have hA : ∀ q9 : Nat, s.heap.size ≤ q9 → A q9 := fun q9 h => by rw [← hAe]; exact Or.inr h
  have hS : va_S A s.heap s.heap [] := va_S.rf
  have hP : va_P G vwCl [oz_oB cB tx 256 fT] s.heap := hP
  have hl := lv_entry ([.ref tx, .int (nI a), .int (nI v)]) (n := 3) (Nat.le_of_ble_eq_true rfl)
  rw [lg_entry_eq]
  generalize (lg_sl ([.ref tx, .int (nI a), .int (nI v)]) ++ List.replicate (3 - (lg_sl ([.ref tx, .int (nI a), .int (nI v)])).length) Slot.unset).toArray = ls at hl ⊢
  have hl : lv_has ls 3 [(0, .ref tx), (1, .int (nI a)), (2, .int (nI v))] := hl
  refine lv_aload_n hx hb dX0_word_0 rfl (lv_at hl 0 rfl) ?_
  refine lv_iload_n hx hb dX0_word_1 rfl (lv_at hl 1 rfl) ?_
  refine lv_iload_n hx hb dX0_word_2 rfl (lv_at hl 2 rfl) ?_
  refine lv_bipush (v := nI 24) hx hb dX0_word_3 (by decide) ?_
  refine lv_ishr hx hb dX0_word_5 ?_
  refine lv_i2b (v := (nI v >>> (nI 24 &&& 31)).toInt8.toInt32) hx hb dX0_word_6 (rfl) ?_
  refine oz_kb_st (w2 := [oz_oB cB tx 256 (oz_un fT a (oz_bN (v / 2 ^ 24)))]) hx hb hK hP hD hS 0 (oz_bN (v / 2 ^ 24)) rfl (by omega) (by decide) (oz_i8_8 (oz_sh8 24 (by decide) v)) dX0_word_7 (rfl) (fun H locs hP hD hS => ?_)
  refine lv_aload_n hx hb dX0_word_8 rfl (lv_at hl 0 rfl) ?_
  refine lv_iload_n hx hb dX0_word_9 rfl (lv_at hl 1 rfl) ?_
  refine lv_iconst (v := nI 1) hx hb dX0_word_10 (by decide) ?_
  refine oz_kadd hx hb dX0_word_11 ?_
  refine lv_iload_n hx hb dX0_word_12 rfl (lv_at hl 2 rfl) ?_
  refine lv_bipush (v := nI 16) hx hb dX0_word_13 (by decide) ?_
  refine lv_ishr hx hb dX0_word_15 ?_
  refine lv_i2b (v := (nI v >>> (nI 16 &&& 31)).toInt8.toInt32) hx hb dX0_word_16 (rfl) ?_
  refine oz_kb_st (w2 := [oz_oB cB tx 256 (oz_un (oz_un fT a (oz_bN (v / 2 ^ 24))) (a + 1) (oz_bN (v / 2 ^ 16)))]) hx hb hK hP hD hS 0 (oz_bN (v / 2 ^ 16)) rfl (by omega) (by decide) (oz_i8_8 (oz_sh8 16 (by decide) v)) dX0_word_17 (rfl) (fun H locs hP hD hS => ?_)
  refine lv_aload_n hx hb dX0_word_18 rfl (lv_at hl 0 rfl) ?_
  refine lv_iload_n hx hb dX0_word_19 rfl (lv_at hl 1 rfl) ?_
  refine lv_iconst (v := nI 2) hx hb dX0_word_20 (by decide) ?_
  refine oz_kadd hx hb dX0_word_21 ?_
  refine lv_iload_n hx hb dX0_word_22 rfl (lv_at hl 2 rfl) ?_
  refine lv_bipush (v := nI 8) hx hb dX0_word_23 (by decide) ?_
  refine lv_ishr hx hb dX0_word_25 ?_
  refine lv_i2b (v := (nI v >>> (nI 8 &&& 31)).toInt8.toInt32) hx hb dX0_word_26 (rfl) ?_
  refine oz_kb_st (w2 := [oz_oB cB tx 256 (oz_un (oz_un (oz_un fT a (oz_bN (v / 2 ^ 24))) (a + 1) (oz_bN (v / 2 ^ 16))) (a + 2) (oz_bN (v / 2 ^ 8)))]) hx hb hK hP hD hS 0 (oz_bN (v / 2 ^ 8)) rfl (by omega) (by decide) (oz_i8_8 (oz_sh8 8 (by decide) v)) dX0_word_27 (rfl) (fun H locs hP hD hS => ?_)
  refine lv_aload_n hx hb dX0_word_28 rfl (lv_at hl 0 rfl) ?_
  refine lv_iload_n hx hb dX0_word_29 rfl (lv_at hl 1 rfl) ?_
  refine lv_iconst (v := nI 3) hx hb dX0_word_30 (by decide) ?_
  refine oz_kadd hx hb dX0_word_31 ?_
  refine lv_iload_n hx hb dX0_word_32 rfl (lv_at hl 2 rfl) ?_
  refine lv_i2b (v := oz_dB (oz_bN v)) hx hb dX0_word_33 (oz_dB_i v) ?_
  refine oz_kb_st (w2 := [oz_oB cB tx 256 (oz_un (oz_un (oz_un (oz_un fT a (oz_bN (v / 2 ^ 24))) (a + 1) (oz_bN (v / 2 ^ 16))) (a + 2) (oz_bN (v / 2 ^ 8))) (a + 3) (oz_bN v))]) hx hb hK hP hD hS 0 (oz_bN v) rfl (by omega) (by decide) (oz_dB_8 _) dX0_word_34 (rfl) (fun H locs hP hD hS => ?_)
  rw [oz_pb_4] at hP hD
  exact W.vret hx hb hr (fun t9 ht hW => ⟨⟨(), rfl, trivial, by rw [ht]; exact hP, va_K.moved hW.alike hK, hD⟩, hS.F ht⟩) hS.2.2 dX0_word_35

/-- from: a place in the text -/
abbrev rm_X0_from : Room := ({ frames := 0, cells := 0, slots := 0, locals := 0 } : Room)
set_option maxHeartbeats 4000000 in
set_option maxRecDepth 100000 in
theorem mt_X0_from (l : Launch) (G : va_G) (cB cI : ClassId) (sz : Nat) (h tx rd q t b n r i k : Nat) (fM fT fW fR : Nat → oz_By) (v : Nat) (hn : n ≤ 256) (hr0 : r ≤ 2048) (hi : i ≤ 2048) (hk : k ≤ i) (hv : v < 2 ^ 32) : Met l yX0_from (ws_ yX0_from cX0_from 2 (some .int)) rm_X0_from (va_Pc [.ref h, .int (nI v)] (oz_pw G cB cI sz [oz_oD h tx n q rd, oz_oB cB tx 256 fT, oz_oB cB rd r fR, oz_oO q t b i k, oz_oB cB t 4 fM, oz_oB cB b 2048 fW])) (va_Qi (fun (x9 : Int32) (_ : Unit) => x9 = nI (oz_fr v n)) (fun (u : Unit) => oz_qw G cB cI (va_A [oz_oD h tx n q rd, oz_oB cB tx 256 fT, oz_oB cB rd r fR, oz_oO q t b i k, oz_oB cB t 4 fM, oz_oB cB b 2048 fW] sz) [oz_oD h tx n q rd, oz_oB cB tx 256 fT, oz_oB cB rd r fR, oz_oO q t b i k, oz_oB cB t 4 fM, oz_oB cB b 2048 fW]) (va_A [oz_oD h tx n q rd, oz_oB cB tx 256 fT, oz_oB cB rd r fR, oz_oO q t b i k, oz_oB cB t 4 fM, oz_oB cB b 2048 fW] sz)) 0 0 (va_A [oz_oD h tx n q rd, oz_oB cB tx 256 fT, oz_oB cB rd r fR, oz_oO q t b i k, oz_oB cB t 4 fM, oz_oB cB b 2048 fW] sz) := by
  refine Met.ofW (cc := cX0_from) (maxL := 2) (ret := (some .int)) (by decide) rfl ?_
  intro p e s m args below meth c s₁ B hml hv
  obtain ⟨rfl, hsz, hP, hK, hD0⟩ := hv
  have hx := B.exec
  have hb := B.bytes
  have hr := B.returns
  have hts := atoms_spec (ws := (ws_ yX0_from cX0_from 2 (some .int))) B.pre
  have hts : ∀ w ∈ lw_all, w.before _ s = true := fun w h => hts w (List.mem_cons_of_mem _ h)
  have hown : s.vm.findClass RX0 = some m.cls := findClass_of_methodNamed B.named
  have hlocks := B.notSynchronized
  subst hsz
  have hD := hD0.self (sz := s.heap.size)
  generalize hAe : va_A [oz_oD h tx n q rd, oz_oB cB tx 256 fT, oz_oB cB rd r fR, oz_oO q t b i k, oz_oB cB t 4 fM, oz_oB cB b 2048 fW] s.heap.size = A at hD ⊢
  have hA : ∀ q9 : Nat, s.heap.size ≤ q9 → A q9 := fun q9 h => by rw [← hAe]; exact Or.inr h
  have hS : va_S A s.heap s.heap [] := va_S.rf
  have hP : va_P G vwCl [oz_oD h tx n q rd, oz_oB cB tx 256 fT, oz_oB cB rd r fR, oz_oO q t b i k, oz_oB cB t 4 fM, oz_oB cB b 2048 fW] s.heap := hP
  have hl := lv_entry ([.ref h, .int (nI v)]) (n := 2) (Nat.le_of_ble_eq_true rfl)
  rw [lg_entry_eq]
  generalize (lg_sl ([.ref h, .int (nI v)]) ++ List.replicate (2 - (lg_sl ([.ref h, .int (nI v)])).length) Slot.unset).toArray = ls at hl ⊢
  have hl : lv_has ls 2 [(0, .ref h), (1, .int (nI v))] := hl
  refine lv_iload_n hx hb dX0_from_0 rfl (lv_at hl 1 rfl) ?_
  refine lv_ldc hx hb hown (hts _ q74) dX0_from_1 ?_
  refine lv_iand hx hb dX0_from_3 ?_
  refine oz_ktop (y := nI (v % 2147483648)) (oz_and_31 hv) ?_
  refine lv_aload_n hx hb dX0_from_4 rfl (lv_at hl 0 rfl) ?_
  refine va_get (D := G) (ci := 0) (v := .int (nI n)) (C := RX0) (T := TX0) (N := 4) hx hb hts in_X0 hown hK hP 0 rfl rfl 1 (by decide) (hts _ q47) (fun _ h9 => h9) rfl dX0_from_5 ?_
  refine lv_iconst (v := nI 1) hx hb dX0_from_8 (by decide) ?_
  refine oz_kadd hx hb dX0_from_9 ?_
  refine oz_krem hx hb (by omega) (by omega) (by omega) dX0_from_10 ?_
  exact W.iret (v := nI ((v % 2147483648) % (n + 1))) hx hb hr (fun t9 ht hW => ⟨⟨_, (), rfl, rfl, by rw [ht]; exact hP, va_K.moved hW.alike hK, hD⟩, hS.F ht⟩) hS.2.2 dX0_from_11

/-- count: how many bytes from there on -/
abbrev rm_X0_count : Room := ({ frames := 0, cells := 0, slots := 0, locals := 0 } : Room)
set_option maxHeartbeats 4000000 in
set_option maxRecDepth 100000 in
theorem mt_X0_count (l : Launch) (G : va_G) (cB cI : ClassId) (sz : Nat) (h tx rd q t b n r i k : Nat) (fM fT fW fR : Nat → oz_By) (f v : Nat) (hn : n ≤ 256) (hr0 : r ≤ 2048) (hi : i ≤ 2048) (hk : k ≤ i) (hf : f ≤ n) (hv : v < 2 ^ 32) : Met l yX0_count (ws_ yX0_count cX0_count 3 (some .int)) rm_X0_count (va_Pc [.ref h, .int (nI f), .int (nI v)] (oz_pw G cB cI sz [oz_oD h tx n q rd, oz_oB cB tx 256 fT, oz_oB cB rd r fR, oz_oO q t b i k, oz_oB cB t 4 fM, oz_oB cB b 2048 fW])) (va_Qi (fun (x9 : Int32) (_ : Unit) => x9 = nI (oz_ct v n f)) (fun (u : Unit) => oz_qw G cB cI (va_A [oz_oD h tx n q rd, oz_oB cB tx 256 fT, oz_oB cB rd r fR, oz_oO q t b i k, oz_oB cB t 4 fM, oz_oB cB b 2048 fW] sz) [oz_oD h tx n q rd, oz_oB cB tx 256 fT, oz_oB cB rd r fR, oz_oO q t b i k, oz_oB cB t 4 fM, oz_oB cB b 2048 fW]) (va_A [oz_oD h tx n q rd, oz_oB cB tx 256 fT, oz_oB cB rd r fR, oz_oO q t b i k, oz_oB cB t 4 fM, oz_oB cB b 2048 fW] sz)) 0 0 (va_A [oz_oD h tx n q rd, oz_oB cB tx 256 fT, oz_oB cB rd r fR, oz_oO q t b i k, oz_oB cB t 4 fM, oz_oB cB b 2048 fW] sz) := by
  refine Met.ofW (cc := cX0_count) (maxL := 3) (ret := (some .int)) (by decide) rfl ?_
  intro p e s m args below meth c s₁ B hml hv
  obtain ⟨rfl, hsz, hP, hK, hD0⟩ := hv
  have hx := B.exec
  have hb := B.bytes
  have hr := B.returns
  have hts := atoms_spec (ws := (ws_ yX0_count cX0_count 3 (some .int))) B.pre
  have hts : ∀ w ∈ lw_all, w.before _ s = true := fun w h => hts w (List.mem_cons_of_mem _ h)
  have hown : s.vm.findClass RX0 = some m.cls := findClass_of_methodNamed B.named
  have hlocks := B.notSynchronized
  subst hsz
  have hD := hD0.self (sz := s.heap.size)
  generalize hAe : va_A [oz_oD h tx n q rd, oz_oB cB tx 256 fT, oz_oB cB rd r fR, oz_oO q t b i k, oz_oB cB t 4 fM, oz_oB cB b 2048 fW] s.heap.size = A at hD ⊢
  have hA : ∀ q9 : Nat, s.heap.size ≤ q9 → A q9 := fun q9 h => by rw [← hAe]; exact Or.inr h
  have hS : va_S A s.heap s.heap [] := va_S.rf
  have hP : va_P G vwCl [oz_oD h tx n q rd, oz_oB cB tx 256 fT, oz_oB cB rd r fR, oz_oO q t b i k, oz_oB cB t 4 fM, oz_oB cB b 2048 fW] s.heap := hP
  have hl := lv_entry ([.ref h, .int (nI f), .int (nI v)]) (n := 3) (Nat.le_of_ble_eq_true rfl)
  rw [lg_entry_eq]
  generalize (lg_sl ([.ref h, .int (nI f), .int (nI v)]) ++ List.replicate (3 - (lg_sl ([.ref h, .int (nI f), .int (nI v)])).length) Slot.unset).toArray = ls at hl ⊢
  have hl : lv_has ls 3 [(0, .ref h), (1, .int (nI f)), (2, .int (nI v))] := hl
  refine lv_iload_n hx hb dX0_count_0 rfl (lv_at hl 2 rfl) ?_
  refine lv_ldc hx hb hown (hts _ q74) dX0_count_1 ?_
  refine lv_iand hx hb dX0_count_3 ?_
  refine oz_ktop (y := nI (v % 2147483648)) (oz_and_31 hv) ?_
  refine lv_aload_n hx hb dX0_count_4 rfl (lv_at hl 0 rfl) ?_
  refine va_get (D := G) (ci := 0) (v := .int (nI n)) (C := RX0) (T := TX0) (N := 4) hx hb hts in_X0 hown hK hP 0 rfl rfl 1 (by decide) (hts _ q47) (fun _ h9 => h9) rfl dX0_count_5 ?_
  refine lv_iload_n hx hb dX0_count_8 rfl (lv_at hl 1 rfl) ?_
  refine oz_ksub hx hb (hf) dX0_count_9 ?_
  refine lv_iconst (v := nI 1) hx hb dX0_count_10 (by decide) ?_
  refine oz_kadd hx hb dX0_count_11 ?_
  refine oz_krem hx hb (by omega) (by omega) (by omega) dX0_count_12 ?_
  exact W.iret (v := nI ((v % 2147483648) % (n - f + 1))) hx hb hr (fun t9 ht hW => ⟨⟨_, (), rfl, rfl, by rw [ht]; exact hP, va_K.moved hW.alike hK, hD⟩, hS.F ht⟩) hS.2.2 dX0_count_13

/-- trim -/
abbrev rm_X0_trim : Room := ({ frames := 1, cells := 0, slots := 0, locals := 21 } : Room)
set_option maxHeartbeats 4000000 in
set_option maxRecDepth 100000 in
theorem mt_X0_trim (l : Launch) (G : va_G) (cB cI : ClassId) (sz : Nat) (h tx rd q t b n r i k : Nat) (fM fT fW fR : Nat → oz_By) (v : Nat) (hn : n ≤ 256) (hr0 : r ≤ 2048) (hi : i ≤ 2048) (hk : k ≤ i) (hv : v < 2 ^ 32) : Met l yX0_trim (ws_ yX0_trim cX0_trim 2 none) rm_X0_trim (va_Pc [.ref h, .int (nI v)] (oz_pw G cB cI sz [oz_oD h tx n q rd, oz_oB cB tx 256 fT, oz_oB cB rd r fR, oz_oO q t b i k, oz_oB cB t 4 fM, oz_oB cB b 2048 fW])) (va_Qv (fun _ : Unit => True) (fun (u : Unit) => oz_qw G cB cI (va_A [oz_oD h tx n q rd, oz_oB cB tx 256 fT, oz_oB cB rd r fR, oz_oO q t b i k, oz_oB cB t 4 fM, oz_oB cB b 2048 fW] sz) [oz_oD h tx (oz_fr v n) q rd, oz_oB cB tx 256 fT, oz_oB cB rd r fR, oz_oO q t b i k, oz_oB cB t 4 fM, oz_oB cB b 2048 fW]) (va_A [oz_oD h tx n q rd, oz_oB cB tx 256 fT, oz_oB cB rd r fR, oz_oO q t b i k, oz_oB cB t 4 fM, oz_oB cB b 2048 fW] sz)) 0 0 (va_A [oz_oD h tx n q rd, oz_oB cB tx 256 fT, oz_oB cB rd r fR, oz_oO q t b i k, oz_oB cB t 4 fM, oz_oB cB b 2048 fW] sz) := by
  refine Met.ofW (cc := cX0_trim) (maxL := 2) (ret := none) (by decide) rfl ?_
  intro p e s m args below meth c s₁ B hml hv
  obtain ⟨rfl, hsz, hP, hK, hD0⟩ := hv
  have hx := B.exec
  have hb := B.bytes
  have hr := B.returns
  have hts := atoms_spec (ws := (ws_ yX0_trim cX0_trim 2 none)) B.pre
  have hts : ∀ w ∈ lw_all, w.before _ s = true := fun w h => hts w (List.mem_cons_of_mem _ h)
  have hown : s.vm.findClass RX0 = some m.cls := findClass_of_methodNamed B.named
  have hlocks := B.notSynchronized
  subst hsz
  have hD := hD0.self (sz := s.heap.size)
  generalize hAe : va_A [oz_oD h tx n q rd, oz_oB cB tx 256 fT, oz_oB cB rd r fR, oz_oO q t b i k, oz_oB cB t 4 fM, oz_oB cB b 2048 fW] s.heap.size = A at hD ⊢
  have hA : ∀ q9 : Nat, s.heap.size ≤ q9 → A q9 := fun q9 h => by rw [← hAe]; exact Or.inr h
  have hS : va_S A s.heap s.heap [] := va_S.rf
  have hP : va_P G vwCl [oz_oD h tx n q rd, oz_oB cB tx 256 fT, oz_oB cB rd r fR, oz_oO q t b i k, oz_oB cB t 4 fM, oz_oB cB b 2048 fW] s.heap := hP
  have hl := lv_entry ([.ref h, .int (nI v)]) (n := 2) (Nat.le_of_ble_eq_true rfl)
  rw [lg_entry_eq]
  generalize (lg_sl ([.ref h, .int (nI v)]) ++ List.replicate (2 - (lg_sl ([.ref h, .int (nI v)])).length) Slot.unset).toArray = ls at hl ⊢
  have hl : lv_has ls 2 [(0, .ref h), (1, .int (nI v))] := hl
  refine lv_aload_n hx hb dX0_trim_0 rfl (lv_at hl 0 rfl) ?_
  refine lv_aload_n hx hb dX0_trim_1 rfl (lv_at hl 0 rfl) ?_
  refine lv_iload_n hx hb dX0_trim_2 rfl (lv_at hl 1 rfl) ?_
  refine oz_kc_i (nA := 1) (As := [.int (nI v)]) (rest := [.ref h]) (wr := []) (w3 := fun (u : Unit) => [oz_oD h tx n q rd, oz_oB cB tx 256 fT, oz_oB cB rd r fR, oz_oO q t b i k, oz_oB cB t 4 fM, oz_oB cB b 2048 fW]) (C := RX0) hx hb hml hown hts hK hP hD hS hA (mt_X0_from l G cB cI s.heap.size h tx rd q t b n r i k fM fT fW fR v hn hr0 hi hk hv) (lw_V q70 q72 qs0 q12 q73) rfl rfl (by decide +kernel) rfl ⟨Nat.le_of_ble_eq_true rfl, Nat.le_of_ble_eq_true rfl⟩ [0, 1, 2, 3, 4, 5] [] rfl rfl rfl rfl (by decide) 0 rfl rfl rfl hl.1 (Nat.le_of_ble_eq_true rfl) dX0_trim_3 ⟨Nat.le_of_ble_eq_true rfl, Nat.le_of_ble_eq_true rfl⟩ (fun _ => rfl) (fun _ H locs hP hD hS => ?_)
  have hP : va_P G vwCl [oz_oD h tx n q rd, oz_oB cB tx 256 fT, oz_oB cB rd r fR, oz_oO q t b i k, oz_oB cB t 4 fM, oz_oB cB b 2048 fW] H := hP
  have hD : va_D A [oz_oD h tx n q rd, oz_oB cB tx 256 fT, oz_oB cB rd r fR, oz_oO q t b i k, oz_oB cB t 4 fM, oz_oB cB b 2048 fW] := hD
  refine va_put (D := G) (ci := 0) (v := .int (nI (oz_fr v n))) (ty := .int) (C := RX0) (T := TX0) (N := 4) hx hb hts in_X0 tyX0 tyX0_ok nmX0 hown hK hP hD hS 0 rfl rfl 1 (by decide) (hts _ q47) (fun _ h9 => h9) rfl (by decide +kernel) rfl rfl (Nat.le_of_ble_eq_true rfl) dX0_trim_6 (fun H locs hP hD hS => ?_)
  have hP : va_P G vwCl [oz_oD h tx (oz_fr v n) q rd, oz_oB cB tx 256 fT, oz_oB cB rd r fR, oz_oO q t b i k, oz_oB cB t 4 fM, oz_oB cB b 2048 fW] H := hP
  have hD : va_D A [oz_oD h tx (oz_fr v n) q rd, oz_oB cB tx 256 fT, oz_oB cB rd r fR, oz_oO q t b i k, oz_oB cB t 4 fM, oz_oB cB b 2048 fW] := hD
  exact W.vret hx hb hr (fun t9 ht hW => ⟨⟨(), rfl, trivial, by rw [ht]; exact hP, va_K.moved hW.alike hK, hD⟩, hS.F ht⟩) hS.2.2 dX0_trim_9

/-- put: four words behind the text -/
abbrev rm_X0_put : Room := ({ frames := 1, cells := 0, slots := 0, locals := 22 } : Room)
set_option maxHeartbeats 4000000 in
set_option maxRecDepth 100000 in
theorem mt_X0_put (l : Launch) (G : va_G) (cB cI : ClassId) (sz : Nat) (h tx rd q t b n r i k : Nat) (fM fT fW fR : Nat → oz_By) (v1 v2 v3 v4 : Nat) (hn : n ≤ 256) (hr0 : r ≤ 2048) (hi : i ≤ 2048) (hk : k ≤ i) : Met l yX0_put (ws_ yX0_put cX0_put 5 (some .boolean)) rm_X0_put (va_Pc [.ref h, .int (nI v1), .int (nI v2), .int (nI v3), .int (nI v4)] (oz_pw G cB cI sz [oz_oD h tx n q rd, oz_oB cB tx 256 fT, oz_oB cB rd r fR, oz_oO q t b i k, oz_oB cB t 4 fM, oz_oB cB b 2048 fW])) (va_Qi (fun (x9 : Int32) (_ : Unit) => x9 = (if n + 16 ≤ 256 then (1 : Int32) else 0)) (fun (u : Unit) => oz_qw G cB cI (va_A [oz_oD h tx n q rd, oz_oB cB tx 256 fT, oz_oB cB rd r fR, oz_oO q t b i k, oz_oB cB t 4 fM, oz_oB cB b 2048 fW] sz) [oz_oD h tx (if n + 16 ≤ 256 then n + 16 else n) q rd, oz_oB cB tx 256 (if n + 16 ≤ 256 then oz_pb (oz_pb (oz_pb (oz_pb fT n 4 v1) (n + 4) 4 v2) (n + 8) 4 v3) (n + 12) 4 v4 else fT), oz_oB cB rd r fR, oz_oO q t b i k, oz_oB cB t 4 fM, oz_oB cB b 2048 fW]) (va_A [oz_oD h tx n q rd, oz_oB cB tx 256 fT, oz_oB cB rd r fR, oz_oO q t b i k, oz_oB cB t 4 fM, oz_oB cB b 2048 fW] sz)) 0 0 (va_A [oz_oD h tx n q rd, oz_oB cB tx 256 fT, oz_oB cB rd r fR, oz_oO q t b i k, oz_oB cB t 4 fM, oz_oB cB b 2048 fW] sz) := by
  refine Met.ofW (cc := cX0_put) (maxL := 5) (ret := (some .boolean)) (by decide) rfl ?_
  intro p e s m args below meth c s₁ B hml hv
  obtain ⟨rfl, hsz, hP, hK, hD0⟩ := hv
  have hx := B.exec
  have hb := B.bytes
  have hr := B.returns
  have hts := atoms_spec (ws := (ws_ yX0_put cX0_put 5 (some .boolean))) B.pre
  have hts : ∀ w ∈ lw_all, w.before _ s = true := fun w h => hts w (List.mem_cons_of_mem _ h)
  have hown : s.vm.findClass RX0 = some m.cls := findClass_of_methodNamed B.named
  have hlocks := B.notSynchronized
  subst hsz
  have hD := hD0.self (sz := s.heap.size)
  generalize hAe : va_A [oz_oD h tx n q rd, oz_oB cB tx 256 fT, oz_oB cB rd r fR, oz_oO q t b i k, oz_oB cB t 4 fM, oz_oB cB b 2048 fW] s.heap.size = A at hD ⊢
  have hA : ∀ q9 : Nat, s.heap.size ≤ q9 → A q9 := fun q9 h => by rw [← hAe]; exact Or.inr h
  have hS : va_S A s.heap s.heap [] := va_S.rf
  have hP : va_P G vwCl [oz_oD h tx n q rd, oz_oB cB tx 256 fT, oz_oB cB rd r fR, oz_oO q t b i k, oz_oB cB t 4 fM, oz_oB cB b 2048 fW] s.heap := hP
  have hl := lv_entry ([.ref h, .int (nI v1), .int (nI v2), .int (nI v3), .int (nI v4)]) (n := 5) (Nat.le_of_ble_eq_true rfl)
  rw [lg_entry_eq]
  generalize (lg_sl ([.ref h, .int (nI v1), .int (nI v2), .int (nI v3), .int (nI v4)]) ++ List.replicate (5 - (lg_sl ([.ref h, .int (nI v1), .int (nI v2), .int (nI v3), .int (nI v4)])).length) Slot.unset).toArray = ls at hl ⊢
  have hl : lv_has ls 5 [(0, .ref h), (1, .int (nI v1)), (2, .int (nI v2)), (3, .int (nI v3)), (4, .int (nI v4))] := hl
  refine lv_aload_n hx hb dX0_put_0 rfl (lv_at hl 0 rfl) ?_
  refine va_get (D := G) (ci := 0) (v := .int (nI n)) (C := RX0) (T := TX0) (N := 4) hx hb hts in_X0 hown hK hP 0 rfl rfl 1 (by decide) (hts _ q47) (fun _ h9 => h9) rfl dX0_put_1 ?_
  refine lv_aload_n hx hb dX0_put_4 rfl (lv_at hl 0 rfl) ?_
  refine va_get (D := G) (ci := 0) (v := .ref tx) (C := RX0) (T := TX0) (N := 4) hx hb hts in_X0 hown hK hP 0 rfl rfl 0 (by decide) (hts _ q46) (fun _ h9 => h9) rfl dX0_put_5 ?_
  refine va_alen (v := nI 256) hx hb hK hP 1 0 rfl rfl rfl dX0_put_8 ?_
  refine lv_bipush (v := nI 16) hx hb dX0_put_9 (by decide) ?_
  refine oz_ksub hx hb (by decide) dX0_put_11 ?_
  refine oz_kj_le hx hb (by omega) (by decide) (tgt := 17) dX0_put_12 (by decide) (fun h1 => ?_) (fun h1 => ?_)
  · refine lv_aload_n hx hb dX0_put_17 rfl (lv_at hl 0 rfl) ?_
    refine va_get (D := G) (ci := 0) (v := .ref tx) (C := RX0) (T := TX0) (N := 4) hx hb hts in_X0 hown hK hP 0 rfl rfl 0 (by decide) (hts _ q46) (fun _ h9 => h9) rfl dX0_put_18 ?_
    refine lv_aload_n hx hb dX0_put_21 rfl (lv_at hl 0 rfl) ?_
    refine va_get (D := G) (ci := 0) (v := .int (nI n)) (C := RX0) (T := TX0) (N := 4) hx hb hts in_X0 hown hK hP 0 rfl rfl 1 (by decide) (hts _ q47) (fun _ h9 => h9) rfl dX0_put_22 ?_
    refine lv_iload_n hx hb dX0_put_25 rfl (lv_at hl 1 rfl) ?_
    refine oz_kc_s (nA := 3) (As := [.ref tx, .int (nI n), .int (nI v1)]) (rest := []) (wr := [oz_oD h tx n q rd, oz_oB cB rd r fR, oz_oO q t b i k, oz_oB cB t 4 fM, oz_oB cB b 2048 fW]) (w3 := fun (u : Unit) => [oz_oD h tx n q rd, oz_oB cB rd r fR, oz_oO q t b i k, oz_oB cB t 4 fM, oz_oB cB b 2048 fW, oz_oB cB tx 256 (oz_pb fT n 4 v1)]) hx hb hml hown hts hK hP hD hS hA (mt_X0_word l G cB cI s.heap.size tx n fT v1 (by omega)) (lw_S q63 q64 q12 q65) rfl rfl (by decide +kernel) rfl ⟨Nat.le_of_ble_eq_true rfl, Nat.le_of_ble_eq_true rfl⟩ [1] [0, 2, 3, 4, 5] rfl rfl rfl rfl (by decide) rfl hl.1 (Nat.le_of_ble_eq_true rfl) dX0_put_26 ⟨Nat.le_of_ble_eq_true rfl, Nat.le_of_ble_eq_true rfl⟩ (fun _ => rfl) (fun _ H locs hP hD hS => ?_)
    have hP : va_P G vwCl [oz_oD h tx n q rd, oz_oB cB rd r fR, oz_oO q t b i k, oz_oB cB t 4 fM, oz_oB cB b 2048 fW, oz_oB cB tx 256 (oz_pb fT n 4 v1)] H := hP
    have hD : va_D A [oz_oD h tx n q rd, oz_oB cB rd r fR, oz_oO q t b i k, oz_oB cB t 4 fM, oz_oB cB b 2048 fW, oz_oB cB tx 256 (oz_pb fT n 4 v1)] := hD
    have hP := hP.sub (ws' := [oz_oD h tx n q rd, oz_oB cB tx 256 (oz_pb fT n 4 v1), oz_oB cB rd r fR, oz_oO q t b i k, oz_oB cB t 4 fM, oz_oB cB b 2048 fW]) [0, 5, 1, 2, 3, 4] rfl
    have hD := hD.sub (ws' := [oz_oD h tx n q rd, oz_oB cB tx 256 (oz_pb fT n 4 v1), oz_oB cB rd r fR, oz_oO q t b i k, oz_oB cB t 4 fM, oz_oB cB b 2048 fW]) [0, 5, 1, 2, 3, 4] (by decide) rfl
    refine lv_aload_n hx hb dX0_put_29 rfl (lv_at hl 0 rfl) ?_
    refine va_get (D := G) (ci := 0) (v := .ref tx) (C := RX0) (T := TX0) (N := 4) hx hb hts in_X0 hown hK hP 0 rfl rfl 0 (by decide) (hts _ q46) (fun _ h9 => h9) rfl dX0_put_30 ?_
    refine lv_aload_n hx hb dX0_put_33 rfl (lv_at hl 0 rfl) ?_
    refine va_get (D := G) (ci := 0) (v := .int (nI n)) (C := RX0) (T := TX0) (N := 4) hx hb hts in_X0 hown hK hP 0 rfl rfl 1 (by decide) (hts _ q47) (fun _ h9 => h9) rfl dX0_put_34 ?_
    refine lv_iconst (v := nI 4) hx hb dX0_put_37 (by decide) ?_
    refine oz_kadd hx hb dX0_put_38 ?_
    refine lv_iload_n hx hb dX0_put_39 rfl (lv_at hl 2 rfl) ?_
    refine oz_kc_s (nA := 3) (As := [.ref tx, .int (nI (n + 4)), .int (nI v2)]) (rest := []) (wr := [oz_oD h tx n q rd, oz_oB cB rd r fR, oz_oO q t b i k, oz_oB cB t 4 fM, oz_oB cB b 2048 fW]) (w3 := fun (u : Unit) => [oz_oD h tx n q rd, oz_oB cB rd r fR, oz_oO q t b i k, oz_oB cB t 4 fM, oz_oB cB b 2048 fW, oz_oB cB tx 256 (oz_pb (oz_pb fT n 4 v1) (n + 4) 4 v2)]) hx hb hml hown hts hK hP hD hS hA (mt_X0_word l G cB cI H.size tx (n + 4) (oz_pb fT n 4 v1) v2 (by omega)) (lw_S q63 q64 q12 q65) rfl rfl (by decide +kernel) rfl ⟨Nat.le_of_ble_eq_true rfl, Nat.le_of_ble_eq_true rfl⟩ [1] [0, 2, 3, 4, 5] rfl rfl rfl rfl (by decide) rfl hl.1 (Nat.le_of_ble_eq_true rfl) dX0_put_40 ⟨Nat.le_of_ble_eq_true rfl, Nat.le_of_ble_eq_true rfl⟩ (fun _ => rfl) (fun _ H locs hP hD hS => ?_)
    have hP : va_P G vwCl [oz_oD h tx n q rd, oz_oB cB rd r fR, oz_oO q t b i k, oz_oB cB t 4 fM, oz_oB cB b 2048 fW, oz_oB cB tx 256 (oz_pb (oz_pb fT n 4 v1) (n + 4) 4 v2)] H := hP
    have hD : va_D A [oz_oD h tx n q rd, oz_oB cB rd r fR, oz_oO q t b i k, oz_oB cB t 4 fM, oz_oB cB b 2048 fW, oz_oB cB tx 256 (oz_pb (oz_pb fT n 4 v1) (n + 4) 4 v2)] := hD
    have hP := hP.sub (ws' := [oz_oD h tx n q rd, oz_oB cB tx 256 (oz_pb (oz_pb fT n 4 v1) (n + 4) 4 v2), oz_oB cB rd r fR, oz_oO q t b i k, oz_oB cB t 4 fM, oz_oB cB b 2048 fW]) [0, 5, 1, 2, 3, 4] rfl
    have hD := hD.sub (ws' := [oz_oD h tx n q rd, oz_oB cB tx 256 (oz_pb (oz_pb fT n 4 v1) (n + 4) 4 v2), oz_oB cB rd r fR, oz_oO q t b i k, oz_oB cB t 4 fM, oz_oB cB b 2048 fW]) [0, 5, 1, 2, 3, 4] (by decide) rfl
    refine lv_aload_n hx hb dX0_put_43 rfl (lv_at hl 0 rfl) ?_
    refine va_get (D := G) (ci := 0) (v := .ref tx) (C := RX0) (T := TX0) (N := 4) hx hb hts in_X0 hown hK hP 0 rfl rfl 0 (by decide) (hts _ q46) (fun _ h9 => h9) rfl dX0_put_44 ?_
    refine lv_aload_n hx hb dX0_put_47 rfl (lv_at hl 0 rfl) ?_
    refine va_get (D := G) (ci := 0) (v := .int (nI n)) (C := RX0) (T := TX0) (N := 4) hx hb hts in_X0 hown hK hP 0 rfl rfl 1 (by decide) (hts _ q47) (fun _ h9 => h9) rfl dX0_put_48 ?_
    refine lv_bipush (v := nI 8) hx hb dX0_put_51 (by decide) ?_
    refine oz_kadd hx hb dX0_put_53 ?_
    refine lv_iload_n hx hb dX0_put_54 rfl (lv_at hl 3 rfl) ?_
    refine oz_kc_s (nA := 3) (As := [.ref tx, .int (nI (n + 8)), .int (nI v3)]) (rest := []) (wr := [oz_oD h tx n q rd, oz_oB cB rd r fR, oz_oO q t b i k, oz_oB cB t 4 fM, oz_oB cB b 2048 fW]) (w3 := fun (u : Unit) => [oz_oD h tx n q rd, oz_oB cB rd r fR, oz_oO q t b i k, oz_oB cB t 4 fM, oz_oB cB b 2048 fW, oz_oB cB tx 256 (oz_pb (oz_pb (oz_pb fT n 4 v1) (n + 4) 4 v2) (n + 8) 4 v3)]) hx hb hml hown hts hK hP hD hS hA (mt_X0_word l G cB cI H.size tx (n + 8) (oz_pb (oz_pb fT n 4 v1) (n + 4) 4 v2) v3 (by omega)) (lw_S q63 q64 q12 q65) rfl rfl (by decide +kernel) rfl ⟨Nat.le_of_ble_eq_true rfl, Nat.le_of_ble_eq_true rfl⟩ [1] [0, 2, 3, 4, 5] rfl rfl rfl rfl (by decide) rfl hl.1 (Nat.le_of_ble_eq_true rfl) dX0_put_55 ⟨Nat.le_of_ble_eq_true rfl, Nat.le_of_ble_eq_true rfl⟩ (fun _ => rfl) (fun _ H locs hP hD hS => ?_)
    have hP : va_P G vwCl [oz_oD h tx n q rd, oz_oB cB rd r fR, oz_oO q t b i k, oz_oB cB t 4 fM, oz_oB cB b 2048 fW, oz_oB cB tx 256 (oz_pb (oz_pb (oz_pb fT n 4 v1) (n + 4) 4 v2) (n + 8) 4 v3)] H := hP
    have hD : va_D A [oz_oD h tx n q rd, oz_oB cB rd r fR, oz_oO q t b i k, oz_oB cB t 4 fM, oz_oB cB b 2048 fW, oz_oB cB tx 256 (oz_pb (oz_pb (oz_pb fT n 4 v1) (n + 4) 4 v2) (n + 8) 4 v3)] := hD
    have hP := hP.sub (ws' := [oz_oD h tx n q rd, oz_oB cB tx 256 (oz_pb (oz_pb (oz_pb fT n 4 v1) (n + 4) 4 v2) (n + 8) 4 v3), oz_oB cB rd r fR, oz_oO q t b i k, oz_oB cB t 4 fM, oz_oB cB b 2048 fW]) [0, 5, 1, 2, 3, 4] rfl
    have hD := hD.sub (ws' := [oz_oD h tx n q rd, oz_oB cB tx 256 (oz_pb (oz_pb (oz_pb fT n 4 v1) (n + 4) 4 v2) (n + 8) 4 v3), oz_oB cB rd r fR, oz_oO q t b i k, oz_oB cB t 4 fM, oz_oB cB b 2048 fW]) [0, 5, 1, 2, 3, 4] (by decide) rfl
    refine lv_aload_n hx hb dX0_put_58 rfl (lv_at hl 0 rfl) ?_
    refine va_get (D := G) (ci := 0) (v := .ref tx) (C := RX0) (T := TX0) (N := 4) hx hb hts in_X0 hown hK hP 0 rfl rfl 0 (by decide) (hts _ q46) (fun _ h9 => h9) rfl dX0_put_59 ?_
    refine lv_aload_n hx hb dX0_put_62 rfl (lv_at hl 0 rfl) ?_
    refine va_get (D := G) (ci := 0) (v := .int (nI n)) (C := RX0) (T := TX0) (N := 4) hx hb hts in_X0 hown hK hP 0 rfl rfl 1 (by decide) (hts _ q47) (fun _ h9 => h9) rfl dX0_put_63 ?_
    refine lv_bipush (v := nI 12) hx hb dX0_put_66 (by decide) ?_
    refine oz_kadd hx hb dX0_put_68 ?_
    refine lv_iload hx hb dX0_put_69 (lv_at hl 4 rfl) ?_
    refine oz_kc_s (nA := 3) (As := [.ref tx, .int (nI (n + 12)), .int (nI v4)]) (rest := []) (wr := [oz_oD h tx n q rd, oz_oB cB rd r fR, oz_oO q t b i k, oz_oB cB t 4 fM, oz_oB cB b 2048 fW]) (w3 := fun (u : Unit) => [oz_oD h tx n q rd, oz_oB cB rd r fR, oz_oO q t b i k, oz_oB cB t 4 fM, oz_oB cB b 2048 fW, oz_oB cB tx 256 (oz_pb (oz_pb (oz_pb (oz_pb fT n 4 v1) (n + 4) 4 v2) (n + 8) 4 v3) (n + 12) 4 v4)]) hx hb hml hown hts hK hP hD hS hA (mt_X0_word l G cB cI H.size tx (n + 12) (oz_pb (oz_pb (oz_pb fT n 4 v1) (n + 4) 4 v2) (n + 8) 4 v3) v4 (by omega)) (lw_S q63 q64 q12 q65) rfl rfl (by decide +kernel) rfl ⟨Nat.le_of_ble_eq_true rfl, Nat.le_of_ble_eq_true rfl⟩ [1] [0, 2, 3, 4, 5] rfl rfl rfl rfl (by decide) rfl hl.1 (Nat.le_of_ble_eq_true rfl) dX0_put_71 ⟨Nat.le_of_ble_eq_true rfl, Nat.le_of_ble_eq_true rfl⟩ (fun _ => rfl) (fun _ H locs hP hD hS => ?_)
    have hP : va_P G vwCl [oz_oD h tx n q rd, oz_oB cB rd r fR, oz_oO q t b i k, oz_oB cB t 4 fM, oz_oB cB b 2048 fW, oz_oB cB tx 256 (oz_pb (oz_pb (oz_pb (oz_pb fT n 4 v1) (n + 4) 4 v2) (n + 8) 4 v3) (n + 12) 4 v4)] H := hP
    have hD : va_D A [oz_oD h tx n q rd, oz_oB cB rd r fR, oz_oO q t b i k, oz_oB cB t 4 fM, oz_oB cB b 2048 fW, oz_oB cB tx 256 (oz_pb (oz_pb (oz_pb (oz_pb fT n 4 v1) (n + 4) 4 v2) (n + 8) 4 v3) (n + 12) 4 v4)] := hD
    have hP := hP.sub (ws' := [oz_oD h tx n q rd, oz_oB cB tx 256 (oz_pb (oz_pb (oz_pb (oz_pb fT n 4 v1) (n + 4) 4 v2) (n + 8) 4 v3) (n + 12) 4 v4), oz_oB cB rd r fR, oz_oO q t b i k, oz_oB cB t 4 fM, oz_oB cB b 2048 fW]) [0, 5, 1, 2, 3, 4] rfl
    have hD := hD.sub (ws' := [oz_oD h tx n q rd, oz_oB cB tx 256 (oz_pb (oz_pb (oz_pb (oz_pb fT n 4 v1) (n + 4) 4 v2) (n + 8) 4 v3) (n + 12) 4 v4), oz_oB cB rd r fR, oz_oO q t b i k, oz_oB cB t 4 fM, oz_oB cB b 2048 fW]) [0, 5, 1, 2, 3, 4] (by decide) rfl
    refine lv_aload_n hx hb dX0_put_74 rfl (lv_at hl 0 rfl) ?_
    refine lv_dup hx hb dX0_put_75 rfl ?_
    refine va_get (D := G) (ci := 0) (v := .int (nI n)) (C := RX0) (T := TX0) (N := 4) hx hb hts in_X0 hown hK hP 0 rfl rfl 1 (by decide) (hts _ q47) (fun _ h9 => h9) rfl dX0_put_76 ?_
    refine lv_bipush (v := nI 16) hx hb dX0_put_79 (by decide) ?_
    refine oz_kadd hx hb dX0_put_81 ?_
    refine va_put (D := G) (ci := 0) (v := .int (nI (n + 16))) (ty := .int) (C := RX0) (T := TX0) (N := 4) hx hb hts in_X0 tyX0 tyX0_ok nmX0 hown hK hP hD hS 0 rfl rfl 1 (by decide) (hts _ q47) (fun _ h9 => h9) rfl (by decide +kernel) rfl rfl (Nat.le_of_ble_eq_true rfl) dX0_put_82 (fun H locs hP hD hS => ?_)
    have hP : va_P G vwCl [oz_oD h tx (n + 16) q rd, oz_oB cB tx 256 (oz_pb (oz_pb (oz_pb (oz_pb fT n 4 v1) (n + 4) 4 v2) (n + 8) 4 v3) (n + 12) 4 v4), oz_oB cB rd r fR, oz_oO q t b i k, oz_oB cB t 4 fM, oz_oB cB b 2048 fW] H := hP
    have hD : va_D A [oz_oD h tx (n + 16) q rd, oz_oB cB tx 256 (oz_pb (oz_pb (oz_pb (oz_pb fT n 4 v1) (n + 4) 4 v2) (n + 8) 4 v3) (n + 12) 4 v4), oz_oB cB rd r fR, oz_oO q t b i k, oz_oB cB t 4 fM, oz_oB cB b 2048 fW] := hD
    refine lv_iconst (v := nI 1) hx hb dX0_put_85 (by decide) ?_
    have hc : n + 16 ≤ 256 := by omega
    have ew : ([oz_oD h tx (n + 16) q rd, oz_oB cB tx 256 (oz_pb (oz_pb (oz_pb (oz_pb fT n 4 v1) (n + 4) 4 v2) (n + 8) 4 v3) (n + 12) 4 v4), oz_oB cB rd r fR, oz_oO q t b i k, oz_oB cB t 4 fM, oz_oB cB b 2048 fW] : va_W) = [oz_oD h tx (if n + 16 ≤ 256 then n + 16 else n) q rd, oz_oB cB tx 256 (if n + 16 ≤ 256 then oz_pb (oz_pb (oz_pb (oz_pb fT n 4 v1) (n + 4) 4 v2) (n + 8) 4 v3) (n + 12) 4 v4 else fT), oz_oB cB rd r fR, oz_oO q t b i k, oz_oB cB t 4 fM, oz_oB cB b 2048 fW] := by simp only [if_pos hc]
    rw [ew] at hP hD
    exact W.zret (v := nI 1) hx hb hr rfl (fun t9 ht hW => ⟨⟨_, (), rfl, (if_pos hc).symm, by rw [ht]; exact hP, va_K.moved hW.alike hK, hD⟩, hS.F ht⟩) hS.2.2 dX0_put_86
  · refine lv_iconst (v := nI 0) hx hb dX0_put_15 (by decide) ?_
    have hc : ¬ n + 16 ≤ 256 := by omega
    have ew : ([oz_oD h tx n q rd, oz_oB cB tx 256 fT, oz_oB cB rd r fR, oz_oO q t b i k, oz_oB cB t 4 fM, oz_oB cB b 2048 fW] : va_W) = [oz_oD h tx (if n + 16 ≤ 256 then n + 16 else n) q rd, oz_oB cB tx 256 (if n + 16 ≤ 256 then oz_pb (oz_pb (oz_pb (oz_pb fT n 4 v1) (n + 4) 4 v2) (n + 8) 4 v3) (n + 12) 4 v4 else fT), oz_oB cB rd r fR, oz_oO q t b i k, oz_oB cB t 4 fM, oz_oB cB b 2048 fW] := by simp only [if_neg hc]
    rw [ew] at hP hD
    exact W.zret (v := nI 0) hx hb hr rfl (fun t9 ht hW => ⟨⟨_, (), rfl, (if_neg hc).symm, by rw [ht]; exact hP, va_K.moved hW.alike hK, hD⟩, hS.F ht⟩) hS.2.2 dX0_put_16

/-- part: bytes of the text -/
abbrev rm_X0_part : Room := ({ frames := 1, cells := 1, slots := 256, locals := 22 } : Room)
set_option maxHeartbeats 4000000 in
set_option maxRecDepth 100000 in
theorem mt_X0_part (l : Launch) (G : va_G) (cB cI : ClassId) (sz : Nat) (h tx rd q t b n r i k : Nat) (fM fT fW fR : Nat → oz_By) (v1 v2 : Nat) (hn : n ≤ 256) (hr0 : r ≤ 2048) (hi : i ≤ 2048) (hk : k ≤ i) (hv1 : v1 < 2 ^ 32) (hv2 : v2 < 2 ^ 32) : Met l yX0_part (ws_ yX0_part cX0_part 7 (some (.array .byte))) rm_X0_part (va_Pc [.ref h, .int (nI v1), .int (nI v2)] (oz_pw G cB cI sz [oz_oD h tx n q rd, oz_oB cB tx 256 fT, oz_oB cB rd r fR, oz_oO q t b i k, oz_oB cB t 4 fM, oz_oB cB b 2048 fW])) (va_Qr (fun _ : Unit => True) (fun (u : Unit) (z : Nat) => oz_qw G cB cI (va_A [oz_oD h tx n q rd, oz_oB cB tx 256 fT, oz_oB cB rd r fR, oz_oO q t b i k, oz_oB cB t 4 fM, oz_oB cB b 2048 fW] sz) [oz_oD h tx n q rd, oz_oB cB tx 256 fT, oz_oB cB rd r fR, oz_oO q t b i k, oz_oB cB t 4 fM, oz_oB cB b 2048 fW, oz_oB cB z (oz_ct v2 n (oz_fr v1 n)) (oz_sl fT (oz_fr v1 n) (oz_ct v2 n (oz_fr v1 n)))]) (va_A [oz_oD h tx n q rd, oz_oB cB tx 256 fT, oz_oB cB rd r fR, oz_oO q t b i k, oz_oB cB t 4 fM, oz_oB cB b 2048 fW] sz)) 1 256 (va_A [oz_oD h tx n q rd, oz_oB cB tx 256 fT, oz_oB cB rd r fR, oz_oO q t b i k, oz_oB cB t 4 fM, oz_oB cB b 2048 fW] sz) := by
  refine Met.ofW (cc := cX0_part) (maxL := 7) (ret := (some (.array .byte))) (by decide) rfl ?_
  intro p e s m args below meth c s₁ B hml hv
  obtain ⟨rfl, hsz, hP, hK, hD0⟩ := hv
  have hx := B.exec
  have hb := B.bytes
  have hr := B.returns
  have hts := atoms_spec (ws := (ws_ yX0_part cX0_part 7 (some (.array .byte)))) B.pre
  have hts : ∀ w ∈ lw_all, w.before _ s = true := fun w h => hts w (List.mem_cons_of_mem _ h)
  have hown : s.vm.findClass RX0 = some m.cls := findClass_of_methodNamed B.named
  have hlocks := B.notSynchronized
  subst hsz
  have hD := hD0.self (sz := s.heap.size)
  generalize hAe : va_A [oz_oD h tx n q rd, oz_oB cB tx 256 fT, oz_oB cB rd r fR, oz_oO q t b i k, oz_oB cB t 4 fM, oz_oB cB b 2048 fW] s.heap.size = A at hD ⊢
  have hA : ∀ q9 : Nat, s.heap.size ≤ q9 → A q9 := fun q9 h => by rw [← hAe]; exact Or.inr h
  have hS : va_S A s.heap s.heap [] := va_S.rf
  have hP : va_P G vwCl [oz_oD h tx n q rd, oz_oB cB tx 256 fT, oz_oB cB rd r fR, oz_oO q t b i k, oz_oB cB t 4 fM, oz_oB cB b 2048 fW] s.heap := hP
  have hl := lv_entry ([.ref h, .int (nI v1), .int (nI v2)]) (n := 7) (Nat.le_of_ble_eq_true rfl)
  rw [lg_entry_eq]
  generalize (lg_sl ([.ref h, .int (nI v1), .int (nI v2)]) ++ List.replicate (7 - (lg_sl ([.ref h, .int (nI v1), .int (nI v2)])).length) Slot.unset).toArray = ls at hl ⊢
  have hl : lv_has ls 7 [(0, .ref h), (1, .int (nI v1)), (2, .int (nI v2))] := hl
  have hf := oz_fr_le v1 n
  have hc := oz_ct_le (V := v2) hf
  refine lv_aload_n hx hb dX0_part_0 rfl (lv_at hl 0 rfl) ?_
  refine lv_iload_n hx hb dX0_part_1 rfl (lv_at hl 1 rfl) ?_
  refine oz_kc_i (nA := 1) (As := [.int (nI v1)]) (rest := []) (wr := []) (w3 := fun (u : Unit) => [oz_oD h tx n q rd, oz_oB cB tx 256 fT, oz_oB cB rd r fR, oz_oO q t b i k, oz_oB cB t 4 fM, oz_oB cB b 2048 fW]) (C := RX0) hx hb hml hown hts hK hP hD hS hA (mt_X0_from l G cB cI s.heap.size h tx rd q t b n r i k fM fT fW fR v1 hn hr0 hi hk hv1) (lw_V q70 q72 qs0 q12 q73) rfl rfl (by decide +kernel) rfl ⟨Nat.le_of_ble_eq_true rfl, Nat.le_of_ble_eq_true rfl⟩ [0, 1, 2, 3, 4, 5] [] rfl rfl rfl rfl (by decide) 0 rfl rfl rfl hl.1 (Nat.le_of_ble_eq_true rfl) dX0_part_2 ⟨Nat.le_of_ble_eq_true rfl, Nat.le_of_ble_eq_true rfl⟩ (fun _ => rfl) (fun _ H locs hP hD hS => ?_)
  have hP : va_P G vwCl [oz_oD h tx n q rd, oz_oB cB tx 256 fT, oz_oB cB rd r fR, oz_oO q t b i k, oz_oB cB t 4 fM, oz_oB cB b 2048 fW] H := hP
  have hD : va_D A [oz_oD h tx n q rd, oz_oB cB tx 256 fT, oz_oB cB rd r fR, oz_oO q t b i k, oz_oB cB t 4 fM, oz_oB cB b 2048 fW] := hD
  refine lv_istore_n (lv' := [(3, .int (nI (oz_fr v1 n))), (0, .ref h), (1, .int (nI v1)), (2, .int (nI v2))]) hx hb dX0_part_5 rfl hl (by decide) rfl (fun ls hl => ?_)
  refine lv_aload_n hx hb dX0_part_6 rfl (lv_at hl 1 rfl) ?_
  refine lv_iload_n hx hb dX0_part_7 rfl (lv_at hl 0 rfl) ?_
  refine lv_iload_n hx hb dX0_part_8 rfl (lv_at hl 3 rfl) ?_
  refine oz_kc_i (nA := 2) (As := [.int (nI (oz_fr v1 n)), .int (nI v2)]) (rest := []) (wr := []) (w3 := fun (u : Unit) => [oz_oD h tx n q rd, oz_oB cB tx 256 fT, oz_oB cB rd r fR, oz_oO q t b i k, oz_oB cB t 4 fM, oz_oB cB b 2048 fW]) (C := RX0) hx hb hml hown hts hK hP hD hS hA (mt_X0_count l G cB cI H.size h tx rd q t b n r i k fM fT fW fR (oz_fr v1 n) v2 hn hr0 hi hk hf hv2) (lw_V q111 q113 qs2 q12 q114) rfl rfl (by decide +kernel) rfl ⟨Nat.le_of_ble_eq_true rfl, Nat.le_of_ble_eq_true rfl⟩ [0, 1, 2, 3, 4, 5] [] rfl rfl rfl rfl (by decide) 0 rfl rfl rfl hl.1 (Nat.le_of_ble_eq_true rfl) dX0_part_9 ⟨Nat.le_of_ble_eq_true rfl, Nat.le_of_ble_eq_true rfl⟩ (fun _ => rfl) (fun _ H locs hP hD hS => ?_)
  have hP : va_P G vwCl [oz_oD h tx n q rd, oz_oB cB tx 256 fT, oz_oB cB rd r fR, oz_oO q t b i k, oz_oB cB t 4 fM, oz_oB cB b 2048 fW] H := hP
  have hD : va_D A [oz_oD h tx n q rd, oz_oB cB tx 256 fT, oz_oB cB rd r fR, oz_oO q t b i k, oz_oB cB t 4 fM, oz_oB cB b 2048 fW] := hD
  refine lv_istore (lv' := [(4, .int (nI (oz_ct v2 n (oz_fr v1 n)))), (3, .int (nI (oz_fr v1 n))), (0, .ref h), (1, .int (nI v1)), (2, .int (nI v2))]) hx hb dX0_part_12 hl (by decide) rfl (fun ls hl => ?_)
  refine lv_iload hx hb dX0_part_14 (lv_at hl 0 rfl) ?_
  refine oz_kb_new hx hb (hts _ q45) hK hP hD hS hA (N := (oz_ct v2 n (oz_fr v1 n))) (by omega) (Nat.le_of_ble_eq_true rfl) (show 0 + _ ≤ 256 by omega) dX0_part_16 (fun z H hP hD hS => ?_)
  have hP : va_P G vwCl [oz_oD h tx n q rd, oz_oB cB tx 256 fT, oz_oB cB rd r fR, oz_oO q t b i k, oz_oB cB t 4 fM, oz_oB cB b 2048 fW, oz_oB cB z (oz_ct v2 n (oz_fr v1 n)) oz_z8] H := hP
  have hD : va_D A [oz_oD h tx n q rd, oz_oB cB tx 256 fT, oz_oB cB rd r fR, oz_oO q t b i k, oz_oB cB t 4 fM, oz_oB cB b 2048 fW, oz_oB cB z (oz_ct v2 n (oz_fr v1 n)) oz_z8] := hD
  refine W.widen (k := 1) (n := 256) (Nat.le_of_ble_eq_true rfl) (show 0 + _ ≤ 256 by omega) ?_
  refine lv_astore (lv' := [(5, .ref z), (4, .int (nI (oz_ct v2 n (oz_fr v1 n)))), (3, .int (nI (oz_fr v1 n))), (0, .ref h), (1, .int (nI v1)), (2, .int (nI v2))]) hx hb dX0_part_18 hl (by decide) rfl (fun ls hl => ?_)
  refine lv_iconst (v := nI 0) hx hb dX0_part_20 (by decide) ?_
  refine lv_istore (lv' := [(6, .int (nI 0)), (5, .ref z), (4, .int (nI (oz_ct v2 n (oz_fr v1 n)))), (3, .int (nI (oz_fr v1 n))), (0, .ref h), (1, .int (nI v1)), (2, .int (nI v2))]) hx hb dX0_part_21 hl (by decide) rfl (fun ls hl => ?_)
  rw [← oz_sl_0 fT (oz_fr v1 n)] at hP hD
  have loop : ∀ (d : Nat) (j : Nat), j + d = oz_ct v2 n (oz_fr v1 n) → ∀ (H : Heap) (locs : List Loc), va_P G vwCl [oz_oD h tx n q rd, oz_oB cB tx 256 fT, oz_oB cB rd r fR, oz_oO q t b i k, oz_oB cB t 4 fM, oz_oB cB b 2048 fW, oz_oB cB z (oz_ct v2 n (oz_fr v1 n)) (oz_sl fT (oz_fr v1 n) j)] H → va_D A [oz_oD h tx n q rd, oz_oB cB tx 256 fT, oz_oB cB rd r fR, oz_oO q t b i k, oz_oB cB t 4 fM, oz_oB cB b 2048 fW, oz_oB cB z (oz_ct v2 n (oz_fr v1 n)) (oz_sl fT (oz_fr v1 n) j)] → va_S A s.heap H locs → ∀ (ls : Array Slot), lv_has ls 7 [(6, .int (nI j)), (5, .ref z), (4, .int (nI (oz_ct v2 n (oz_fr v1 n)))), (3, .int (nI (oz_fr v1 n))), (0, .ref h), (1, .int (nI v1)), (2, .int (nI v2))] → W p l e (headSpec (ws_ yX0_part cX0_part 7 (some (.array .byte))) rm_X0_part).room s m ([.ref h, .int (nI v1), .int (nI v2)] : List Value).toArray below meth c H locs 1 256 (MQ below (va_Qr (fun _ : Unit => True) (fun (u : Unit) (z : Nat) => oz_qw G cB cI A [oz_oD h tx n q rd, oz_oB cB tx 256 fT, oz_oB cB rd r fR, oz_oO q t b i k, oz_oB cB t 4 fM, oz_oB cB b 2048 fW, oz_oB cB z (oz_ct v2 n (oz_fr v1 n)) (oz_sl fT (oz_fr v1 n) (oz_ct v2 n (oz_fr v1 n)))]) A) ([.ref h, .int (nI v1), .int (nI v2)] : List Value).toArray s 1 256 A) (F0 m 23 ls []) := by
    intro d
    induction d with
    | zero =>
      intro j hj H locs hP hD hS ls hl
      refine lv_iload hx hb dX0_part_23 (lv_at hl 0 rfl) ?_
      refine lv_iload hx hb dX0_part_25 (lv_at hl 2 rfl) ?_
      refine oz_kj_ge hx hb (by omega) (by omega) (tgt := 50) dX0_part_27 (by decide) (fun h1 => ?_) (fun h1 => ?_)
      · obtain rfl : j = oz_ct v2 n (oz_fr v1 n) := by omega
        refine lv_aload hx hb dX0_part_50 (lv_at hl 1 rfl) ?_
        exact W.aret (v := .ref z) hx hb hr (Or.inr ⟨_, rfl⟩) (Or.inr ⟨_, rfl⟩) (fun t9 ht hW => ⟨⟨(), z, rfl, trivial, by rw [ht]; exact hP, va_K.moved hW.alike hK, hD⟩, hS.F ht⟩) hS.2.2 dX0_part_52
      · omega
    | succ d ih =>
      intro j hj H locs hP hD hS ls hl
      refine lv_iload hx hb dX0_part_23 (lv_at hl 0 rfl) ?_
      refine lv_iload hx hb dX0_part_25 (lv_at hl 2 rfl) ?_
      refine oz_kj_ge hx hb (by omega) (by omega) (tgt := 50) dX0_part_27 (by decide) (fun h1 => ?_) (fun h1 => ?_)
      · omega
      · refine lv_aload hx hb dX0_part_30 (lv_at hl 1 rfl) ?_
        refine lv_iload hx hb dX0_part_32 (lv_at hl 0 rfl) ?_
        refine lv_aload_n hx hb dX0_part_34 rfl (lv_at hl 4 rfl) ?_
        refine va_get (D := G) (ci := 0) (v := .ref tx) (C := RX0) (T := TX0) (N := 4) hx hb hts in_X0 hown hK hP 0 rfl rfl 0 (by decide) (hts _ q46) (fun _ h9 => h9) rfl dX0_part_35 ?_
        refine lv_iload_n hx hb dX0_part_38 rfl (lv_at hl 3 rfl) ?_
        refine lv_iload hx hb dX0_part_39 (lv_at hl 0 rfl) ?_
        refine oz_kadd hx hb dX0_part_41 ?_
        refine oz_kb_ld hx hb hK hP 1 rfl (by omega) (by decide) dX0_part_42 ?_
        refine oz_kb_st (w2 := [oz_oD h tx n q rd, oz_oB cB tx 256 fT, oz_oB cB rd r fR, oz_oO q t b i k, oz_oB cB t 4 fM, oz_oB cB b 2048 fW, oz_oB cB z (oz_ct v2 n (oz_fr v1 n)) (oz_sl fT (oz_fr v1 n) (j + 1))]) hx hb hK hP hD hS 6 (fT (oz_fr v1 n + j)) rfl (h1) (by omega) (oz_dB_8 _) dX0_part_43 (by rw [oz_sl_s]; rfl) (fun H locs hP hD hS => ?_)
        refine lv_iinc (v := nI (j + 1)) (lv' := [(6, .int (nI (j + 1))), (5, .ref z), (4, .int (nI (oz_ct v2 n (oz_fr v1 n)))), (3, .int (nI (oz_fr v1 n))), (0, .ref h), (1, .int (nI v1)), (2, .int (nI v2))]) hx hb dX0_part_44 hl (k := 0) rfl (nI_add j 1) (by decide) rfl (fun ls hl => ?_)
        refine lv_goto (tgt := 23) hx hb dX0_part_47 (by decide) ?_
        exact ih (j + 1) (by omega) H locs hP hD hS ls (lv_sub hl [0, 1, 2, 3, 4, 5, 6] rfl)
  exact loop (oz_ct v2 n (oz_fr v1 n)) 0 (Nat.zero_add _) _ _ hP hD hS ls (lv_sub hl [0, 1, 2, 3, 4, 5, 6] rfl)

/-- byteIn -/
abbrev rm_X0_byteIn : Room := ({ frames := 1, cells := 0, slots := 0, locals := 21 } : Room)
set_option maxHeartbeats 4000000 in
set_option maxRecDepth 100000 in
theorem mt_X0_byteIn (l : Launch) (G : va_G) (cB cI : ClassId) (sz : Nat) (h tx rd q t b n r i k : Nat) (fM fT fW fR : Nat → oz_By) (v : Nat) (hn : n ≤ 256) (hr0 : r ≤ 2048) (hi : i ≤ 2048) (hk : k ≤ i)  : Met l yX0_byteIn (ws_ yX0_byteIn cX0_byteIn 2 (some .boolean)) rm_X0_byteIn (va_Pc [.ref h, .int (nI v)] (oz_pw G cB cI sz [oz_oD h tx n q rd, oz_oB cB tx 256 fT, oz_oB cB rd r fR, oz_oO q t b i k, oz_oB cB t 4 fM, oz_oB cB b 2048 fW])) (va_Qi (fun (x9 : Int32) (_ : Unit) => x9 = (if i < 1600 then (1 : Int32) else 0)) (fun (u : Unit) => oz_qw G cB cI (va_A [oz_oD h tx n q rd, oz_oB cB tx 256 fT, oz_oB cB rd r fR, oz_oO q t b i k, oz_oB cB t 4 fM, oz_oB cB b 2048 fW] sz) [oz_oD h tx n q rd, oz_oB cB tx 256 fT, oz_oB cB rd r fR, oz_oO q t b (if i < 1600 then i + 1 else i) k, oz_oB cB t 4 fM, oz_oB cB b 2048 (if i < 1600 then oz_un fW i (oz_bN v) else fW)]) (va_A [oz_oD h tx n q rd, oz_oB cB tx 256 fT, oz_oB cB rd r fR, oz_oO q t b i k, oz_oB cB t 4 fM, oz_oB cB b 2048 fW] sz)) 0 0 (va_A [oz_oD h tx n q rd, oz_oB cB tx 256 fT, oz_oB cB rd r fR, oz_oO q t b i k, oz_oB cB t 4 fM, oz_oB cB b 2048 fW] sz) := by
  refine Met.ofW (cc := cX0_byteIn) (maxL := 2) (ret := (some .boolean)) (by decide) rfl ?_
  intro p e s m args below meth c s₁ B hml hv
  obtain ⟨rfl, hsz, hP, hK, hD0⟩ := hv
  have hx := B.exec
  have hb := B.bytes
  have hr := B.returns
  have hts := atoms_spec (ws := (ws_ yX0_byteIn cX0_byteIn 2 (some .boolean))) B.pre
  have hts : ∀ w ∈ lw_all, w.before _ s = true := fun w h => hts w (List.mem_cons_of_mem _ h)
  have hown : s.vm.findClass RX0 = some m.cls := findClass_of_methodNamed B.named
  have hlocks := B.notSynchronized
  subst hsz
  have hD := hD0.self (sz := s.heap.size)
  generalize hAe : va_A [oz_oD h tx n q rd, oz_oB cB tx 256 fT, oz_oB cB rd r fR, oz_oO q t b i k, oz_oB cB t 4 fM, oz_oB cB b 2048 fW] s.heap.size = A at hD ⊢
  have hA : ∀ q9 : Nat, s.heap.size ≤ q9 → A q9 := fun q9 h => by rw [← hAe]; exact Or.inr h
  have hS : va_S A s.heap s.heap [] := va_S.rf
  have hP : va_P G vwCl [oz_oD h tx n q rd, oz_oB cB tx 256 fT, oz_oB cB rd r fR, oz_oO q t b i k, oz_oB cB t 4 fM, oz_oB cB b 2048 fW] s.heap := hP
  have hl := lv_entry ([.ref h, .int (nI v)]) (n := 2) (Nat.le_of_ble_eq_true rfl)
  rw [lg_entry_eq]
  generalize (lg_sl ([.ref h, .int (nI v)]) ++ List.replicate (2 - (lg_sl ([.ref h, .int (nI v)])).length) Slot.unset).toArray = ls at hl ⊢
  have hl : lv_has ls 2 [(0, .ref h), (1, .int (nI v))] := hl
  refine lv_aload_n hx hb dX0_byteIn_0 rfl (lv_at hl 0 rfl) ?_
  refine va_get (D := G) (ci := 0) (v := .ref q) (C := RX0) (T := TX0) (N := 4) hx hb hts in_X0 hown hK hP 0 rfl rfl 2 (by decide) (hts _ q48) (fun _ h9 => h9) rfl dX0_byteIn_1 ?_
  refine va_get (D := G) (ci := 1) (v := .int (nI i)) (C := RX1) (T := TX1) (N := 4) hx hb hts in_X1 hown hK hP 3 rfl rfl 2 (by decide) (hts _ q34) (fun _ h9 => h9) rfl dX0_byteIn_4 ?_
  refine lv_sipush (v := nI 1600) hx hb dX0_byteIn_7 (by decide) ?_
  refine oz_kj_lt hx hb (by omega) (by decide) (tgt := 15) dX0_byteIn_10 (by decide) (fun h1 => ?_) (fun h1 => ?_)
  · refine lv_aload_n hx hb dX0_byteIn_15 rfl (lv_at hl 0 rfl) ?_
    refine va_get (D := G) (ci := 0) (v := .ref q) (C := RX0) (T := TX0) (N := 4) hx hb hts in_X0 hown hK hP 0 rfl rfl 2 (by decide) (hts _ q48) (fun _ h9 => h9) rfl dX0_byteIn_16 ?_
    refine lv_iload_n hx hb dX0_byteIn_19 rfl (lv_at hl 1 rfl) ?_
    refine lv_i2b (v := oz_dB (oz_bN v)) hx hb dX0_byteIn_20 (oz_dB_i v) ?_
    refine oz_kc_v (nA := 1) (As := [.int (oz_dB (oz_bN v))]) (rest := []) (wr := [oz_oD h tx n q rd, oz_oB cB tx 256 fT, oz_oB cB rd r fR]) (w3 := fun (u : Unit) => [oz_oD h tx n q rd, oz_oB cB tx 256 fT, oz_oB cB rd r fR, oz_oO q t b (i + 1) k, oz_oB cB t 4 fM, oz_oB cB b 2048 (oz_un fW i (oz_bN v))]) (C := RX1) hx hb hml hown hts hK hP hD hS hA (mt_X1_putByte l G cB cI s.heap.size q t b i k fM fW (oz_bN v) (by omega)) (lw_V q79 q80 q81 q13 q82) rfl rfl (by decide +kernel) rfl ⟨Nat.le_of_ble_eq_true rfl, Nat.le_of_ble_eq_true rfl⟩ [3, 4, 5] [0, 1, 2] rfl rfl rfl rfl (by decide) 0 rfl rfl rfl hl.1 (Nat.le_of_ble_eq_true rfl) dX0_byteIn_21 ⟨Nat.le_of_ble_eq_true rfl, Nat.le_of_ble_eq_true rfl⟩ (fun _ => rfl) (fun _ H locs hP hD hS => ?_)
    have hP : va_P G vwCl [oz_oD h tx n q rd, oz_oB cB tx 256 fT, oz_oB cB rd r fR, oz_oO q t b (i + 1) k, oz_oB cB t 4 fM, oz_oB cB b 2048 (oz_un fW i (oz_bN v))] H := hP
    have hD : va_D A [oz_oD h tx n q rd, oz_oB cB tx 256 fT, oz_oB cB rd r fR, oz_oO q t b (i + 1) k, oz_oB cB t 4 fM, oz_oB cB b 2048 (oz_un fW i (oz_bN v))] := hD
    refine lv_iconst (v := nI 1) hx hb dX0_byteIn_24 (by decide) ?_
    have hc : i < 1600 := by omega
    have ew : ([oz_oD h tx n q rd, oz_oB cB tx 256 fT, oz_oB cB rd r fR, oz_oO q t b (i + 1) k, oz_oB cB t 4 fM, oz_oB cB b 2048 (oz_un fW i (oz_bN v))] : va_W) = [oz_oD h tx n q rd, oz_oB cB tx 256 fT, oz_oB cB rd r fR, oz_oO q t b (if i < 1600 then i + 1 else i) k, oz_oB cB t 4 fM, oz_oB cB b 2048 (if i < 1600 then oz_un fW i (oz_bN v) else fW)] := by simp only [if_pos hc]
    rw [ew] at hP hD
    exact W.zret (v := nI 1) hx hb hr rfl (fun t9 ht hW => ⟨⟨_, (), rfl, (if_pos hc).symm, by rw [ht]; exact hP, va_K.moved hW.alike hK, hD⟩, hS.F ht⟩) hS.2.2 dX0_byteIn_25
  · refine lv_iconst (v := nI 0) hx hb dX0_byteIn_13 (by decide) ?_
    have hc : ¬ (i < 1600) := by omega
    have ew : ([oz_oD h tx n q rd, oz_oB cB tx 256 fT, oz_oB cB rd r fR, oz_oO q t b i k, oz_oB cB t 4 fM, oz_oB cB b 2048 fW] : va_W) = [oz_oD h tx n q rd, oz_oB cB tx 256 fT, oz_oB cB rd r fR, oz_oO q t b (if i < 1600 then i + 1 else i) k, oz_oB cB t 4 fM, oz_oB cB b 2048 (if i < 1600 then oz_un fW i (oz_bN v) else fW)] := by simp only [if_neg hc]
    rw [ew] at hP hD
    exact W.zret (v := nI 0) hx hb hr rfl (fun t9 ht hW => ⟨⟨_, (), rfl, (if_neg hc).symm, by rw [ht]; exact hP, va_K.moved hW.alike hK, hD⟩, hS.F ht⟩) hS.2.2 dX0_byteIn_14

/-- intIn -/
abbrev rm_X0_intIn : Room := ({ frames := 2, cells := 0, slots := 0, locals := 39 } : Room)
set_option maxHeartbeats 4000000 in
set_option maxRecDepth 100000 in
theorem mt_X0_intIn (l : Launch) (G : va_G) (cB cI : ClassId) (sz : Nat) (h tx rd q t b n r i k : Nat) (fM fT fW fR : Nat → oz_By) (v : Nat) (hn : n ≤ 256) (hr0 : r ≤ 2048) (hi : i ≤ 2048) (hk : k ≤ i) (hv : v < 2 ^ 32) : Met l yX0_intIn (ws_ yX0_intIn cX0_intIn 2 (some .boolean)) rm_X0_intIn (va_Pc [.ref h, .int (nI v)] (oz_pw G cB cI sz [oz_oD h tx n q rd, oz_oB cB tx 256 fT, oz_oB cB rd r fR, oz_oO q t b i k, oz_oB cB t 4 fM, oz_oB cB b 2048 fW])) (va_Qi (fun (x9 : Int32) (_ : (Nat → oz_By)) => x9 = (if i < 1600 then (1 : Int32) else 0)) (fun (u : (Nat → oz_By)) => oz_qw G cB cI (va_A [oz_oD h tx n q rd, oz_oB cB tx 256 fT, oz_oB cB rd r fR, oz_oO q t b i k, oz_oB cB t 4 fM, oz_oB cB b 2048 fW] sz) [oz_oD h tx n q rd, oz_oB cB tx 256 fT, oz_oB cB rd r fR, oz_oO q t b (if i < 1600 then i + 4 else i) k, oz_oB cB t 4 u, oz_oB cB b 2048 (if i < 1600 then oz_pb fW i 4 v else fW)]) (va_A [oz_oD h tx n q rd, oz_oB cB tx 256 fT, oz_oB cB rd r fR, oz_oO q t b i k, oz_oB cB t 4 fM, oz_oB cB b 2048 fW] sz)) 0 0 (va_A [oz_oD h tx n q rd, oz_oB cB tx 256 fT, oz_oB cB rd r fR, oz_oO q t b i k, oz_oB cB t 4 fM, oz_oB cB b 2048 fW] sz) := by
  refine Met.ofW (cc := cX0_intIn) (maxL := 2) (ret := (some .boolean)) (by decide) rfl ?_
  intro p e s m args below meth c s₁ B hml hv
  obtain ⟨rfl, hsz, hP, hK, hD0⟩ := hv
  have hx := B.exec
  have hb := B.bytes
  have hr := B.returns
  have hts := atoms_spec (ws := (ws_ yX0_intIn cX0_intIn 2 (some .boolean))) B.pre
  have hts : ∀ w ∈ lw_all, w.before _ s = true := fun w h => hts w (List.mem_cons_of_mem _ h)
  have hown : s.vm.findClass RX0 = some m.cls := findClass_of_methodNamed B.named
  have hlocks := B.notSynchronized
  subst hsz
  have hD := hD0.self (sz := s.heap.size)
  generalize hAe : va_A [oz_oD h tx n q rd, oz_oB cB tx 256 fT, oz_oB cB rd r fR, oz_oO q t b i k, oz_oB cB t 4 fM, oz_oB cB b 2048 fW] s.heap.size = A at hD ⊢
  have hA : ∀ q9 : Nat, s.heap.size ≤ q9 → A q9 := fun q9 h => by rw [← hAe]; exact Or.inr h
  have hS : va_S A s.heap s.heap [] := va_S.rf
  have hP : va_P G vwCl [oz_oD h tx n q rd, oz_oB cB tx 256 fT, oz_oB cB rd r fR, oz_oO q t b i k, oz_oB cB t 4 fM, oz_oB cB b 2048 fW] s.heap := hP
  have hl := lv_entry ([.ref h, .int (nI v)]) (n := 2) (Nat.le_of_ble_eq_true rfl)
  rw [lg_entry_eq]
  generalize (lg_sl ([.ref h, .int (nI v)]) ++ List.replicate (2 - (lg_sl ([.ref h, .int (nI v)])).length) Slot.unset).toArray = ls at hl ⊢
  have hl : lv_has ls 2 [(0, .ref h), (1, .int (nI v))] := hl
  refine lv_aload_n hx hb dX0_intIn_0 rfl (lv_at hl 0 rfl) ?_
  refine va_get (D := G) (ci := 0) (v := .ref q) (C := RX0) (T := TX0) (N := 4) hx hb hts in_X0 hown hK hP 0 rfl rfl 2 (by decide) (hts _ q48) (fun _ h9 => h9) rfl dX0_intIn_1 ?_
  refine va_get (D := G) (ci := 1) (v := .int (nI i)) (C := RX1) (T := TX1) (N := 4) hx hb hts in_X1 hown hK hP 3 rfl rfl 2 (by decide) (hts _ q34) (fun _ h9 => h9) rfl dX0_intIn_4 ?_
  refine lv_sipush (v := nI 1600) hx hb dX0_intIn_7 (by decide) ?_
  refine oz_kj_lt hx hb (by omega) (by decide) (tgt := 15) dX0_intIn_10 (by decide) (fun h1 => ?_) (fun h1 => ?_)
  · refine lv_aload_n hx hb dX0_intIn_15 rfl (lv_at hl 0 rfl) ?_
    refine va_get (D := G) (ci := 0) (v := .ref q) (C := RX0) (T := TX0) (N := 4) hx hb hts in_X0 hown hK hP 0 rfl rfl 2 (by decide) (hts _ q48) (fun _ h9 => h9) rfl dX0_intIn_16 ?_
    refine lv_iload_n hx hb dX0_intIn_19 rfl (lv_at hl 1 rfl) ?_
    refine oz_kc_v (nA := 1) (As := [.int (nI v)]) (rest := []) (wr := [oz_oD h tx n q rd, oz_oB cB tx 256 fT, oz_oB cB rd r fR]) (w3 := fun (u : (Nat → oz_By)) => [oz_oD h tx n q rd, oz_oB cB tx 256 fT, oz_oB cB rd r fR, oz_oO q t b (i + 4) k, oz_oB cB t 4 u, oz_oB cB b 2048 (oz_pb fW i 4 v)]) (C := RX1) hx hb hml hown hts hK hP hD hS hA (mt_X1_putInt l G cB cI s.heap.size q t b i k fM fW v hv (by omega)) (lw_V q87 q88 q89 q13 q90) rfl rfl (by decide +kernel) rfl ⟨Nat.le_of_ble_eq_true rfl, Nat.le_of_ble_eq_true rfl⟩ [3, 4, 5] [0, 1, 2] rfl rfl rfl rfl (by decide) 0 rfl rfl rfl hl.1 (Nat.le_of_ble_eq_true rfl) dX0_intIn_20 ⟨Nat.le_of_ble_eq_true rfl, Nat.le_of_ble_eq_true rfl⟩ (fun _ => rfl) (fun fM2 H locs hP hD hS => ?_)
    have hP : va_P G vwCl [oz_oD h tx n q rd, oz_oB cB tx 256 fT, oz_oB cB rd r fR, oz_oO q t b (i + 4) k, oz_oB cB t 4 fM2, oz_oB cB b 2048 (oz_pb fW i 4 v)] H := hP
    have hD : va_D A [oz_oD h tx n q rd, oz_oB cB tx 256 fT, oz_oB cB rd r fR, oz_oO q t b (i + 4) k, oz_oB cB t 4 fM2, oz_oB cB b 2048 (oz_pb fW i 4 v)] := hD
    refine lv_iconst (v := nI 1) hx hb dX0_intIn_23 (by decide) ?_
    have hc : i < 1600 := by omega
    have ew : ([oz_oD h tx n q rd, oz_oB cB tx 256 fT, oz_oB cB rd r fR, oz_oO q t b (i + 4) k, oz_oB cB t 4 fM2, oz_oB cB b 2048 (oz_pb fW i 4 v)] : va_W) = [oz_oD h tx n q rd, oz_oB cB tx 256 fT, oz_oB cB rd r fR, oz_oO q t b (if i < 1600 then i + 4 else i) k, oz_oB cB t 4 fM2, oz_oB cB b 2048 (if i < 1600 then oz_pb fW i 4 v else fW)] := by simp only [if_pos hc]
    rw [ew] at hP hD
    exact W.zret (v := nI 1) hx hb hr rfl (fun t9 ht hW => ⟨⟨_, fM2, rfl, (if_pos hc).symm, by rw [ht]; exact hP, va_K.moved hW.alike hK, hD⟩, hS.F ht⟩) hS.2.2 dX0_intIn_24
  · refine lv_iconst (v := nI 0) hx hb dX0_intIn_13 (by decide) ?_
    have hc : ¬ (i < 1600) := by omega
    have ew : ([oz_oD h tx n q rd, oz_oB cB tx 256 fT, oz_oB cB rd r fR, oz_oO q t b i k, oz_oB cB t 4 fM, oz_oB cB b 2048 fW] : va_W) = [oz_oD h tx n q rd, oz_oB cB tx 256 fT, oz_oB cB rd r fR, oz_oO q t b (if i < 1600 then i + 4 else i) k, oz_oB cB t 4 fM, oz_oB cB b 2048 (if i < 1600 then oz_pb fW i 4 v else fW)] := by simp only [if_neg hc]
    rw [ew] at hP hD
    exact W.zret (v := nI 0) hx hb hr rfl (fun t9 ht hW => ⟨⟨_, fM, rfl, (if_neg hc).symm, by rw [ht]; exact hP, va_K.moved hW.alike hK, hD⟩, hS.F ht⟩) hS.2.2 dX0_intIn_14

/-- longIn -/
abbrev rm_X0_longIn : Room := ({ frames := 2, cells := 0, slots := 0, locals := 40 } : Room)
set_option maxHeartbeats 4000000 in
set_option maxRecDepth 100000 in
theorem mt_X0_longIn (l : Launch) (G : va_G) (cB cI : ClassId) (sz : Nat) (h tx rd q t b n r i k : Nat) (fM fT fW fR : Nat → oz_By) (v1 v2 : Nat) (hn : n ≤ 256) (hr0 : r ≤ 2048) (hi : i ≤ 2048) (hk : k ≤ i) (hv1 : v1 < 2 ^ 32) (hv2 : v2 < 2 ^ 32) : Met l yX0_longIn (ws_ yX0_longIn cX0_longIn 3 (some .boolean)) rm_X0_longIn (va_Pc [.ref h, .int (nI v1), .int (nI v2)] (oz_pw G cB cI sz [oz_oD h tx n q rd, oz_oB cB tx 256 fT, oz_oB cB rd r fR, oz_oO q t b i k, oz_oB cB t 4 fM, oz_oB cB b 2048 fW])) (va_Qi (fun (x9 : Int32) (_ : (Nat → oz_By)) => x9 = (if i < 1600 then (1 : Int32) else 0)) (fun (u : (Nat → oz_By)) => oz_qw G cB cI (va_A [oz_oD h tx n q rd, oz_oB cB tx 256 fT, oz_oB cB rd r fR, oz_oO q t b i k, oz_oB cB t 4 fM, oz_oB cB b 2048 fW] sz) [oz_oD h tx n q rd, oz_oB cB tx 256 fT, oz_oB cB rd r fR, oz_oO q t b (if i < 1600 then i + 8 else i) k, oz_oB cB t 4 u, oz_oB cB b 2048 (if i < 1600 then oz_pb (oz_pb fW i 4 v1) (i + 4) 4 v2 else fW)]) (va_A [oz_oD h tx n q rd, oz_oB cB tx 256 fT, oz_oB cB rd r fR, oz_oO q t b i k, oz_oB cB t 4 fM, oz_oB cB b 2048 fW] sz)) 0 0 (va_A [oz_oD h tx n q rd, oz_oB cB tx 256 fT, oz_oB cB rd r fR, oz_oO q t b i k, oz_oB cB t 4 fM, oz_oB cB b 2048 fW] sz) := by
  refine Met.ofW (cc := cX0_longIn) (maxL := 3) (ret := (some .boolean)) (by decide) rfl ?_
  intro p e s m args below meth c s₁ B hml hv
  obtain ⟨rfl, hsz, hP, hK, hD0⟩ := hv
  have hx := B.exec
  have hb := B.bytes
  have hr := B.returns
  have hts := atoms_spec (ws := (ws_ yX0_longIn cX0_longIn 3 (some .boolean))) B.pre
  have hts : ∀ w ∈ lw_all, w.before _ s = true := fun w h => hts w (List.mem_cons_of_mem _ h)
  have hown : s.vm.findClass RX0 = some m.cls := findClass_of_methodNamed B.named
  have hlocks := B.notSynchronized
  subst hsz
  have hD := hD0.self (sz := s.heap.size)
  generalize hAe : va_A [oz_oD h tx n q rd, oz_oB cB tx 256 fT, oz_oB cB rd r fR, oz_oO q t b i k, oz_oB cB t 4 fM, oz_oB cB b 2048 fW] s.heap.size = A at hD ⊢
  have hA : ∀ q9 : Nat, s.heap.size ≤ q9 → A q9 := fun q9 h => by rw [← hAe]; exact Or.inr h
  have hS : va_S A s.heap s.heap [] := va_S.rf
  have hP : va_P G vwCl [oz_oD h tx n q rd, oz_oB cB tx 256 fT, oz_oB cB rd r fR, oz_oO q t b i k, oz_oB cB t 4 fM, oz_oB cB b 2048 fW] s.heap := hP
  have hl := lv_entry ([.ref h, .int (nI v1), .int (nI v2)]) (n := 3) (Nat.le_of_ble_eq_true rfl)
  rw [lg_entry_eq]
  generalize (lg_sl ([.ref h, .int (nI v1), .int (nI v2)]) ++ List.replicate (3 - (lg_sl ([.ref h, .int (nI v1), .int (nI v2)])).length) Slot.unset).toArray = ls at hl ⊢
  have hl : lv_has ls 3 [(0, .ref h), (1, .int (nI v1)), (2, .int (nI v2))] := hl
  refine lv_aload_n hx hb dX0_longIn_0 rfl (lv_at hl 0 rfl) ?_
  refine va_get (D := G) (ci := 0) (v := .ref q) (C := RX0) (T := TX0) (N := 4) hx hb hts in_X0 hown hK hP 0 rfl rfl 2 (by decide) (hts _ q48) (fun _ h9 => h9) rfl dX0_longIn_1 ?_
  refine va_get (D := G) (ci := 1) (v := .int (nI i)) (C := RX1) (T := TX1) (N := 4) hx hb hts in_X1 hown hK hP 3 rfl rfl 2 (by decide) (hts _ q34) (fun _ h9 => h9) rfl dX0_longIn_4 ?_
  refine lv_sipush (v := nI 1600) hx hb dX0_longIn_7 (by decide) ?_
  refine oz_kj_lt hx hb (by omega) (by decide) (tgt := 15) dX0_longIn_10 (by decide) (fun h1 => ?_) (fun h1 => ?_)
  · refine lv_aload_n hx hb dX0_longIn_15 rfl (lv_at hl 0 rfl) ?_
    refine va_get (D := G) (ci := 0) (v := .ref q) (C := RX0) (T := TX0) (N := 4) hx hb hts in_X0 hown hK hP 0 rfl rfl 2 (by decide) (hts _ q48) (fun _ h9 => h9) rfl dX0_longIn_16 ?_
    refine lv_iload_n hx hb dX0_longIn_19 rfl (lv_at hl 1 rfl) ?_
    refine lv_i2l (v := (nI v1).toInt64) hx hb dX0_longIn_20 (rfl) ?_
    refine lv_bipush (v := nI 32) hx hb dX0_longIn_21 (by decide) ?_
    refine lv_lshl (v := lN (v1 * 4294967296)) hx hb dX0_longIn_23 (oz_i2l_shl hv1) ?_
    refine lv_iload_n hx hb dX0_longIn_24 rfl (lv_at hl 2 rfl) ?_
    refine lv_i2l (v := (nI v2).toInt64) hx hb dX0_longIn_25 (rfl) ?_
    refine lv_ldc2 hx hb hown (hts _ q98) dX0_longIn_26 ?_
    refine lv_land hx hb dX0_longIn_29 ?_
    refine oz_ktopl (y := lN v2) (oz_i2l_and hv2) ?_
    refine lv_lor hx hb dX0_longIn_30 ?_
    refine oz_ktopl (y := lN (v1 * 4294967296 + v2)) (oz_or_L 32 (by omega) (by omega) (by omega)) ?_
    refine oz_kc_v (nA := 1) (As := [.long (lN (v1 * 4294967296 + v2))]) (rest := []) (wr := [oz_oD h tx n q rd, oz_oB cB tx 256 fT, oz_oB cB rd r fR]) (w3 := fun (u : (Nat → oz_By)) => [oz_oD h tx n q rd, oz_oB cB tx 256 fT, oz_oB cB rd r fR, oz_oO q t b (i + 8) k, oz_oB cB t 4 u, oz_oB cB b 2048 (oz_pb (oz_pb fW i 4 ((v1 * 4294967296 + v2) / 2 ^ 32)) (i + 4) 4 (v1 * 4294967296 + v2))]) (C := RX1) hx hb hml hown hts hK hP hD hS hA (mt_X1_putLong l G cB cI s.heap.size q t b i k fM fW (v1 * 4294967296 + v2) (by omega) (by omega)) (lw_V q99 q100 q101 q13 q102) rfl rfl (by decide +kernel) rfl ⟨Nat.le_of_ble_eq_true rfl, Nat.le_of_ble_eq_true rfl⟩ [3, 4, 5] [0, 1, 2] rfl rfl rfl rfl (by decide) 0 rfl rfl rfl hl.1 (Nat.le_of_ble_eq_true rfl) dX0_longIn_31 ⟨Nat.le_of_ble_eq_true rfl, Nat.le_of_ble_eq_true rfl⟩ (fun _ => rfl) (fun fM2 H locs hP hD hS => ?_)
    have hP : va_P G vwCl [oz_oD h tx n q rd, oz_oB cB tx 256 fT, oz_oB cB rd r fR, oz_oO q t b (i + 8) k, oz_oB cB t 4 fM2, oz_oB cB b 2048 (oz_pb (oz_pb fW i 4 ((v1 * 4294967296 + v2) / 2 ^ 32)) (i + 4) 4 (v1 * 4294967296 + v2))] H := hP
    have hD : va_D A [oz_oD h tx n q rd, oz_oB cB tx 256 fT, oz_oB cB rd r fR, oz_oO q t b (i + 8) k, oz_oB cB t 4 fM2, oz_oB cB b 2048 (oz_pb (oz_pb fW i 4 ((v1 * 4294967296 + v2) / 2 ^ 32)) (i + 4) 4 (v1 * 4294967296 + v2))] := hD
    have e1 : (v1 * 4294967296 + v2) / 2 ^ 32 = v1 := by omega
    rw [e1, oz_pb_mod (oz_pb fW i 4 v1) (i + 4) (U := v2) (show (v1 * 4294967296 + v2) % 4294967296 = v2 % 4294967296 by omega)] at hP hD
    refine lv_iconst (v := nI 1) hx hb dX0_longIn_34 (by decide) ?_
    have hc : i < 1600 := by omega
    have ew : ([oz_oD h tx n q rd, oz_oB cB tx 256 fT, oz_oB cB rd r fR, oz_oO q t b (i + 8) k, oz_oB cB t 4 fM2, oz_oB cB b 2048 (oz_pb (oz_pb fW i 4 v1) (i + 4) 4 v2)] : va_W) = [oz_oD h tx n q rd, oz_oB cB tx 256 fT, oz_oB cB rd r fR, oz_oO q t b (if i < 1600 then i + 8 else i) k, oz_oB cB t 4 fM2, oz_oB cB b 2048 (if i < 1600 then oz_pb (oz_pb fW i 4 v1) (i + 4) 4 v2 else fW)] := by simp only [if_pos hc]
    rw [ew] at hP hD
    exact W.zret (v := nI 1) hx hb hr rfl (fun t9 ht hW => ⟨⟨_, fM2, rfl, (if_pos hc).symm, by rw [ht]; exact hP, va_K.moved hW.alike hK, hD⟩, hS.F ht⟩) hS.2.2 dX0_longIn_35
  · refine lv_iconst (v := nI 0) hx hb dX0_longIn_13 (by decide) ?_
    have hc : ¬ (i < 1600) := by omega
    have ew : ([oz_oD h tx n q rd, oz_oB cB tx 256 fT, oz_oB cB rd r fR, oz_oO q t b i k, oz_oB cB t 4 fM, oz_oB cB b 2048 fW] : va_W) = [oz_oD h tx n q rd, oz_oB cB tx 256 fT, oz_oB cB rd r fR, oz_oO q t b (if i < 1600 then i + 8 else i) k, oz_oB cB t 4 fM, oz_oB cB b 2048 (if i < 1600 then oz_pb (oz_pb fW i 4 v1) (i + 4) 4 v2 else fW)] := by simp only [if_neg hc]
    rw [ew] at hP hD
    exact W.zret (v := nI 0) hx hb hr rfl (fun t9 ht hW => ⟨⟨_, fM, rfl, (if_neg hc).symm, by rw [ht]; exact hP, va_K.moved hW.alike hK, hD⟩, hS.F ht⟩) hS.2.2 dX0_longIn_14

/-- stringIn -/
abbrev rm_X0_stringIn : Room := ({ frames := 4, cells := 1, slots := 256, locals := 85 } : Room)
set_option maxHeartbeats 4000000 in
set_option maxRecDepth 100000 in
theorem mt_X0_stringIn (l : Launch) (G : va_G) (cB cI : ClassId) (sz : Nat) (h tx rd q t b n r i k : Nat) (fM fT fW fR : Nat → oz_By) (v1 v2 : Nat) (hn : n ≤ 256) (hr0 : r ≤ 2048) (hi : i ≤ 2048) (hk : k ≤ i) (hv1 : v1 < 2 ^ 32) (hv2 : v2 < 2 ^ 32) : Met l yX0_stringIn (ws_ yX0_stringIn cX0_stringIn 3 (some .boolean)) rm_X0_stringIn (va_Pc [.ref h, .int (nI v1), .int (nI v2)] (oz_pw G cB cI sz [oz_oD h tx n q rd, oz_oB cB tx 256 fT, oz_oB cB rd r fR, oz_oO q t b i k, oz_oB cB t 4 fM, oz_oB cB b 2048 fW])) (va_Qi (fun (x9 : Int32) (_ : (Nat → oz_By)) => x9 = (if i < 1600 then (1 : Int32) else 0)) (fun (u : (Nat → oz_By)) => oz_qw G cB cI (va_A [oz_oD h tx n q rd, oz_oB cB tx 256 fT, oz_oB cB rd r fR, oz_oO q t b i k, oz_oB cB t 4 fM, oz_oB cB b 2048 fW] sz) [oz_oD h tx n q rd, oz_oB cB tx 256 fT, oz_oB cB rd r fR, oz_oO q t b (if i < 1600 then i + 4 + oz_ct v2 n (oz_fr v1 n) else i) k, oz_oB cB t 4 u, oz_oB cB b 2048 (if i < 1600 then va_cpy (oz_sl fT (oz_fr v1 n) (oz_ct v2 n (oz_fr v1 n))) (oz_pb fW i 4 (oz_ct v2 n (oz_fr v1 n))) 0 (i + 4) (oz_ct v2 n (oz_fr v1 n)) else fW)]) (va_A [oz_oD h tx n q rd, oz_oB cB tx 256 fT, oz_oB cB rd r fR, oz_oO q t b i k, oz_oB cB t 4 fM, oz_oB cB b 2048 fW] sz)) 1 256 (va_A [oz_oD h tx n q rd, oz_oB cB tx 256 fT, oz_oB cB rd r fR, oz_oO q t b i k, oz_oB cB t 4 fM, oz_oB cB b 2048 fW] sz) := by
  refine Met.ofW (cc := cX0_stringIn) (maxL := 3) (ret := (some .boolean)) (by decide) rfl ?_
  intro p e s m args below meth c s₁ B hml hv
  obtain ⟨rfl, hsz, hP, hK, hD0⟩ := hv
  have hx := B.exec
  have hb := B.bytes
  have hr := B.returns
  have hts := atoms_spec (ws := (ws_ yX0_stringIn cX0_stringIn 3 (some .boolean))) B.pre
  have hts : ∀ w ∈ lw_all, w.before _ s = true := fun w h => hts w (List.mem_cons_of_mem _ h)
  have hown : s.vm.findClass RX0 = some m.cls := findClass_of_methodNamed B.named
  have hlocks := B.notSynchronized
  subst hsz
  have hD := hD0.self (sz := s.heap.size)
  generalize hAe : va_A [oz_oD h tx n q rd, oz_oB cB tx 256 fT, oz_oB cB rd r fR, oz_oO q t b i k, oz_oB cB t 4 fM, oz_oB cB b 2048 fW] s.heap.size = A at hD ⊢
  have hA : ∀ q9 : Nat, s.heap.size ≤ q9 → A q9 := fun q9 h => by rw [← hAe]; exact Or.inr h
  have hS : va_S A s.heap s.heap [] := va_S.rf
  have hP : va_P G vwCl [oz_oD h tx n q rd, oz_oB cB tx 256 fT, oz_oB cB rd r fR, oz_oO q t b i k, oz_oB cB t 4 fM, oz_oB cB b 2048 fW] s.heap := hP
  have hl := lv_entry ([.ref h, .int (nI v1), .int (nI v2)]) (n := 3) (Nat.le_of_ble_eq_true rfl)
  rw [lg_entry_eq]
  generalize (lg_sl ([.ref h, .int (nI v1), .int (nI v2)]) ++ List.replicate (3 - (lg_sl ([.ref h, .int (nI v1), .int (nI v2)])).length) Slot.unset).toArray = ls at hl ⊢
  have hl : lv_has ls 3 [(0, .ref h), (1, .int (nI v1)), (2, .int (nI v2))] := hl
  refine lv_aload_n hx hb dX0_stringIn_0 rfl (lv_at hl 0 rfl) ?_
  refine va_get (D := G) (ci := 0) (v := .ref q) (C := RX0) (T := TX0) (N := 4) hx hb hts in_X0 hown hK hP 0 rfl rfl 2 (by decide) (hts _ q48) (fun _ h9 => h9) rfl dX0_stringIn_1 ?_
  refine va_get (D := G) (ci := 1) (v := .int (nI i)) (C := RX1) (T := TX1) (N := 4) hx hb hts in_X1 hown hK hP 3 rfl rfl 2 (by decide) (hts _ q34) (fun _ h9 => h9) rfl dX0_stringIn_4 ?_
  refine lv_sipush (v := nI 1600) hx hb dX0_stringIn_7 (by decide) ?_
  refine oz_kj_lt hx hb (by omega) (by decide) (tgt := 15) dX0_stringIn_10 (by decide) (fun h1 => ?_) (fun h1 => ?_)
  · have hf := oz_fr_le v1 n
    have hc0 := oz_ct_le (V := v2) hf
    refine lv_aload_n hx hb dX0_stringIn_15 rfl (lv_at hl 0 rfl) ?_
    refine va_get (D := G) (ci := 0) (v := .ref q) (C := RX0) (T := TX0) (N := 4) hx hb hts in_X0 hown hK hP 0 rfl rfl 2 (by decide) (hts _ q48) (fun _ h9 => h9) rfl dX0_stringIn_16 ?_
    refine lv_aload_n hx hb dX0_stringIn_19 rfl (lv_at hl 0 rfl) ?_
    refine lv_iload_n hx hb dX0_stringIn_20 rfl (lv_at hl 1 rfl) ?_
    refine lv_iload_n hx hb dX0_stringIn_21 rfl (lv_at hl 2 rfl) ?_
    refine oz_kc_r (nA := 2) (As := [.int (nI v1), .int (nI v2)]) (rest := [.ref q]) (wr := []) (w3r := fun (u : Unit) (z : Nat) => [oz_oD h tx n q rd, oz_oB cB tx 256 fT, oz_oB cB rd r fR, oz_oO q t b i k, oz_oB cB t 4 fM, oz_oB cB b 2048 fW, oz_oB cB z (oz_ct v2 n (oz_fr v1 n)) (oz_sl fT (oz_fr v1 n) (oz_ct v2 n (oz_fr v1 n)))]) (C := RX0) hx hb hml hown hts hK hP hD hS hA (mt_X0_part l G cB cI s.heap.size h tx rd q t b n r i k fM fT fW fR v1 v2 hn hr0 hi hk hv1 hv2) (lw_V q107 q109 qs1 q12 q110) rfl rfl (by decide +kernel) rfl ⟨Nat.le_of_ble_eq_true rfl, Nat.le_of_ble_eq_true rfl⟩ [0, 1, 2, 3, 4, 5] [] rfl rfl rfl rfl (by decide) 0 rfl rfl rfl hl.1 (Nat.le_of_ble_eq_true rfl) dX0_stringIn_22 ⟨Nat.le_of_ble_eq_true rfl, Nat.le_of_ble_eq_true rfl⟩ (fun _ _ => rfl) (fun _ z H locs hP hD hS => ?_)
    have hP : va_P G vwCl [oz_oD h tx n q rd, oz_oB cB tx 256 fT, oz_oB cB rd r fR, oz_oO q t b i k, oz_oB cB t 4 fM, oz_oB cB b 2048 fW, oz_oB cB z (oz_ct v2 n (oz_fr v1 n)) (oz_sl fT (oz_fr v1 n) (oz_ct v2 n (oz_fr v1 n)))] H := hP
    have hD : va_D A [oz_oD h tx n q rd, oz_oB cB tx 256 fT, oz_oB cB rd r fR, oz_oO q t b i k, oz_oB cB t 4 fM, oz_oB cB b 2048 fW, oz_oB cB z (oz_ct v2 n (oz_fr v1 n)) (oz_sl fT (oz_fr v1 n) (oz_ct v2 n (oz_fr v1 n)))] := hD
    refine oz_kc_v (nA := 1) (As := [.ref z]) (rest := []) (wr := [oz_oD h tx n q rd, oz_oB cB tx 256 fT, oz_oB cB rd r fR]) (w3 := fun (u : (Nat → oz_By)) => [oz_oD h tx n q rd, oz_oB cB tx 256 fT, oz_oB cB rd r fR, oz_oO q t b (i + 4 + (oz_ct v2 n (oz_fr v1 n))) k, oz_oB cB t 4 u, oz_oB cB b 2048 (va_cpy (oz_sl fT (oz_fr v1 n) (oz_ct v2 n (oz_fr v1 n))) (oz_pb fW i 4 (oz_ct v2 n (oz_fr v1 n))) 0 (i + 4) (oz_ct v2 n (oz_fr v1 n))), oz_oB cB z ((oz_ct v2 n (oz_fr v1 n))) ((oz_sl fT (oz_fr v1 n) (oz_ct v2 n (oz_fr v1 n))))]) (C := RX1) hx hb hml hown hts hK hP hD hS hA (mt_X1_putString l G cB cI H.size q t b i k fM fW z (oz_ct v2 n (oz_fr v1 n)) (oz_sl fT (oz_fr v1 n) (oz_ct v2 n (oz_fr v1 n))) (by omega) (by omega)) (lw_V q115 q116 q117 q13 q118) rfl rfl (by decide +kernel) rfl ⟨Nat.le_of_ble_eq_true rfl, Nat.le_of_ble_eq_true rfl⟩ [3, 4, 5, 6] [0, 1, 2] rfl rfl rfl rfl (by decide) 0 rfl rfl rfl hl.1 (Nat.le_of_ble_eq_true rfl) dX0_stringIn_25 ⟨Nat.le_of_ble_eq_true rfl, Nat.le_of_ble_eq_true rfl⟩ (fun _ => rfl) (fun fM2 H locs hP hD hS => ?_)
    have hP : va_P G vwCl [oz_oD h tx n q rd, oz_oB cB tx 256 fT, oz_oB cB rd r fR, oz_oO q t b (i + 4 + (oz_ct v2 n (oz_fr v1 n))) k, oz_oB cB t 4 fM2, oz_oB cB b 2048 (va_cpy (oz_sl fT (oz_fr v1 n) (oz_ct v2 n (oz_fr v1 n))) (oz_pb fW i 4 (oz_ct v2 n (oz_fr v1 n))) 0 (i + 4) (oz_ct v2 n (oz_fr v1 n))), oz_oB cB z ((oz_ct v2 n (oz_fr v1 n))) ((oz_sl fT (oz_fr v1 n) (oz_ct v2 n (oz_fr v1 n))))] H := hP
    have hD : va_D A [oz_oD h tx n q rd, oz_oB cB tx 256 fT, oz_oB cB rd r fR, oz_oO q t b (i + 4 + (oz_ct v2 n (oz_fr v1 n))) k, oz_oB cB t 4 fM2, oz_oB cB b 2048 (va_cpy (oz_sl fT (oz_fr v1 n) (oz_ct v2 n (oz_fr v1 n))) (oz_pb fW i 4 (oz_ct v2 n (oz_fr v1 n))) 0 (i + 4) (oz_ct v2 n (oz_fr v1 n))), oz_oB cB z ((oz_ct v2 n (oz_fr v1 n))) ((oz_sl fT (oz_fr v1 n) (oz_ct v2 n (oz_fr v1 n))))] := hD
    refine lv_iconst (v := nI 1) hx hb dX0_stringIn_28 (by decide) ?_
    have hc : i < 1600 := by omega
    have hP := hP.sub (ws' := [oz_oD h tx n q rd, oz_oB cB tx 256 fT, oz_oB cB rd r fR, oz_oO q t b (i + 4 + (oz_ct v2 n (oz_fr v1 n))) k, oz_oB cB t 4 fM2, oz_oB cB b 2048 (va_cpy (oz_sl fT (oz_fr v1 n) (oz_ct v2 n (oz_fr v1 n))) (oz_pb fW i 4 (oz_ct v2 n (oz_fr v1 n))) 0 (i + 4) (oz_ct v2 n (oz_fr v1 n)))]) [0, 1, 2, 3, 4, 5] rfl
    have hD := hD.sub (ws' := [oz_oD h tx n q rd, oz_oB cB tx 256 fT, oz_oB cB rd r fR, oz_oO q t b (i + 4 + (oz_ct v2 n (oz_fr v1 n))) k, oz_oB cB t 4 fM2, oz_oB cB b 2048 (va_cpy (oz_sl fT (oz_fr v1 n) (oz_ct v2 n (oz_fr v1 n))) (oz_pb fW i 4 (oz_ct v2 n (oz_fr v1 n))) 0 (i + 4) (oz_ct v2 n (oz_fr v1 n)))]) [0, 1, 2, 3, 4, 5] (by decide) rfl
    have ew : ([oz_oD h tx n q rd, oz_oB cB tx 256 fT, oz_oB cB rd r fR, oz_oO q t b (i + 4 + (oz_ct v2 n (oz_fr v1 n))) k, oz_oB cB t 4 fM2, oz_oB cB b 2048 (va_cpy (oz_sl fT (oz_fr v1 n) (oz_ct v2 n (oz_fr v1 n))) (oz_pb fW i 4 (oz_ct v2 n (oz_fr v1 n))) 0 (i + 4) (oz_ct v2 n (oz_fr v1 n)))] : va_W) = [oz_oD h tx n q rd, oz_oB cB tx 256 fT, oz_oB cB rd r fR, oz_oO q t b (if i < 1600 then i + 4 + oz_ct v2 n (oz_fr v1 n) else i) k, oz_oB cB t 4 fM2, oz_oB cB b 2048 (if i < 1600 then va_cpy (oz_sl fT (oz_fr v1 n) (oz_ct v2 n (oz_fr v1 n))) (oz_pb fW i 4 (oz_ct v2 n (oz_fr v1 n))) 0 (i + 4) (oz_ct v2 n (oz_fr v1 n)) else fW)] := by simp only [if_pos hc]
    rw [ew] at hP hD
    exact W.zret (v := nI 1) hx hb hr rfl (fun t9 ht hW => ⟨⟨_, fM2, rfl, (if_pos hc).symm, by rw [ht]; exact hP, va_K.moved hW.alike hK, hD⟩, hS.F ht⟩) hS.2.2 dX0_stringIn_29
  · refine lv_iconst (v := nI 0) hx hb dX0_stringIn_13 (by decide) ?_
    refine W.widen (k := 1) (n := 256) (Nat.le_of_ble_eq_true rfl) (Nat.le_of_ble_eq_true rfl) ?_
    have hc : ¬ (i < 1600) := by omega
    have ew : ([oz_oD h tx n q rd, oz_oB cB tx 256 fT, oz_oB cB rd r fR, oz_oO q t b i k, oz_oB cB t 4 fM, oz_oB cB b 2048 fW] : va_W) = [oz_oD h tx n q rd, oz_oB cB tx 256 fT, oz_oB cB rd r fR, oz_oO q t b (if i < 1600 then i + 4 + oz_ct v2 n (oz_fr v1 n) else i) k, oz_oB cB t 4 fM, oz_oB cB b 2048 (if i < 1600 then va_cpy (oz_sl fT (oz_fr v1 n) (oz_ct v2 n (oz_fr v1 n))) (oz_pb fW i 4 (oz_ct v2 n (oz_fr v1 n))) 0 (i + 4) (oz_ct v2 n (oz_fr v1 n)) else fW)] := by simp only [if_neg hc]
    rw [ew] at hP hD
    exact W.zret (v := nI 0) hx hb hr rfl (fun t9 ht hW => ⟨⟨_, fM, rfl, (if_neg hc).symm, by rw [ht]; exact hP, va_K.moved hW.alike hK, hD⟩, hS.F ht⟩) hS.2.2 dX0_stringIn_14

/-- numberIn -/
abbrev rm_X0_numberIn : Room := ({ frames := 4, cells := 1, slots := 256, locals := 84 } : Room)
set_option maxHeartbeats 4000000 in
set_option maxRecDepth 100000 in
theorem mt_X0_numberIn (l : Launch) (G : va_G) (cB cI : ClassId) (sz : Nat) (h tx rd q t b n r i k : Nat) (fM fT fW fR : Nat → oz_By) (v1 v2 : Nat) (hn : n ≤ 256) (hr0 : r ≤ 2048) (hi : i ≤ 2048) (hk : k ≤ i) (hv1 : v1 < 2 ^ 32) (hv2 : v2 < 2 ^ 32) : Met l yX0_numberIn (ws_ yX0_numberIn cX0_numberIn 4 (some .boolean)) rm_X0_numberIn (va_Pc [.ref h, .int (nI v1), .int (nI v2)] (oz_pw G cB cI sz [oz_oD h tx n q rd, oz_oB cB tx 256 fT, oz_oB cB rd r fR, oz_oO q t b i k, oz_oB cB t 4 fM, oz_oB cB b 2048 fW])) (va_Qi (fun (x9 : Int32) (_ : (Nat → oz_By)) => x9 = (if i < 1600 ∧ 0 < oz_ct v2 n (oz_fr v1 n) then (1 : Int32) else 0)) (fun (u : (Nat → oz_By)) => oz_qw G cB cI (va_A [oz_oD h tx n q rd, oz_oB cB tx 256 fT, oz_oB cB rd r fR, oz_oO q t b i k, oz_oB cB t 4 fM, oz_oB cB b 2048 fW] sz) [oz_oD h tx n q rd, oz_oB cB tx 256 fT, oz_oB cB rd r fR, oz_oO q t b (if i < 1600 ∧ 0 < oz_ct v2 n (oz_fr v1 n) then (if 128 ≤ ((oz_sl fT (oz_fr v1 n) (oz_ct v2 n (oz_fr v1 n))) 0).toNat then i + 5 + oz_ct v2 n (oz_fr v1 n) else i + 4 + oz_ct v2 n (oz_fr v1 n)) else i) k, oz_oB cB t 4 u, oz_oB cB b 2048 (if i < 1600 ∧ 0 < oz_ct v2 n (oz_fr v1 n) then (if 128 ≤ ((oz_sl fT (oz_fr v1 n) (oz_ct v2 n (oz_fr v1 n))) 0).toNat then va_cpy (oz_sl fT (oz_fr v1 n) (oz_ct v2 n (oz_fr v1 n))) (oz_un (oz_pb fW i 4 (oz_ct v2 n (oz_fr v1 n) + 1)) (i + 4) 0#8) 0 (i + 5) (oz_ct v2 n (oz_fr v1 n)) else va_cpy (oz_sl fT (oz_fr v1 n) (oz_ct v2 n (oz_fr v1 n))) (oz_pb fW i 4 (oz_ct v2 n (oz_fr v1 n))) 0 (i + 4) (oz_ct v2 n (oz_fr v1 n))) else fW)]) (va_A [oz_oD h tx n q rd, oz_oB cB tx 256 fT, oz_oB cB rd r fR, oz_oO q t b i k, oz_oB cB t 4 fM, oz_oB cB b 2048 fW] sz)) 1 256 (va_A [oz_oD h tx n q rd, oz_oB cB tx 256 fT, oz_oB cB rd r fR, oz_oO q t b i k, oz_oB cB t 4 fM, oz_oB cB b 2048 fW] sz) := by
  refine Met.ofW (cc := cX0_numberIn) (maxL := 4) (ret := (some .boolean)) (by decide) rfl ?_
  intro p e s m args below meth c s₁ B hml hv
  obtain ⟨rfl, hsz, hP, hK, hD0⟩ := hv
  have hx := B.exec
  have hb := B.bytes
  have hr := B.returns
  have hts := atoms_spec (ws := (ws_ yX0_numberIn cX0_numberIn 4 (some .boolean))) B.pre
  have hts : ∀ w ∈ lw_all, w.before _ s = true := fun w h => hts w (List.mem_cons_of_mem _ h)
  have hown : s.vm.findClass RX0 = some m.cls := findClass_of_methodNamed B.named
  have hlocks := B.notSynchronized
  subst hsz
  have hD := hD0.self (sz := s.heap.size)
  generalize hAe : va_A [oz_oD h tx n q rd, oz_oB cB tx 256 fT, oz_oB cB rd r fR, oz_oO q t b i k, oz_oB cB t 4 fM, oz_oB cB b 2048 fW] s.heap.size = A at hD ⊢
  have hA : ∀ q9 : Nat, s.heap.size ≤ q9 → A q9 := fun q9 h => by rw [← hAe]; exact Or.inr h
  have hS : va_S A s.heap s.heap [] := va_S.rf
  have hP : va_P G vwCl [oz_oD h tx n q rd, oz_oB cB tx 256 fT, oz_oB cB rd r fR, oz_oO q t b i k, oz_oB cB t 4 fM, oz_oB cB b 2048 fW] s.heap := hP
  have hl := lv_entry ([.ref h, .int (nI v1), .int (nI v2)]) (n := 4) (Nat.le_of_ble_eq_true rfl)
  rw [lg_entry_eq]
  generalize (lg_sl ([.ref h, .int (nI v1), .int (nI v2)]) ++ List.replicate (4 - (lg_sl ([.ref h, .int (nI v1), .int (nI v2)])).length) Slot.unset).toArray = ls at hl ⊢
  have hl : lv_has ls 4 [(0, .ref h), (1, .int (nI v1)), (2, .int (nI v2))] := hl
  have hf := oz_fr_le v1 n
  have hc0 := oz_ct_le (V := v2) hf
  refine lv_aload_n hx hb dX0_numberIn_0 rfl (lv_at hl 0 rfl) ?_
  refine lv_iload_n hx hb dX0_numberIn_1 rfl (lv_at hl 1 rfl) ?_
  refine lv_iload_n hx hb dX0_numberIn_2 rfl (lv_at hl 2 rfl) ?_
  refine oz_kc_r (nA := 2) (As := [.int (nI v1), .int (nI v2)]) (rest := []) (wr := []) (w3r := fun (u : Unit) (z : Nat) => [oz_oD h tx n q rd, oz_oB cB tx 256 fT, oz_oB cB rd r fR, oz_oO q t b i k, oz_oB cB t 4 fM, oz_oB cB b 2048 fW, oz_oB cB z (oz_ct v2 n (oz_fr v1 n)) (oz_sl fT (oz_fr v1 n) (oz_ct v2 n (oz_fr v1 n)))]) (C := RX0) hx hb hml hown hts hK hP hD hS hA (mt_X0_part l G cB cI s.heap.size h tx rd q t b n r i k fM fT fW fR v1 v2 hn hr0 hi hk hv1 hv2) (lw_V q107 q109 qs1 q12 q110) rfl rfl (by decide +kernel) rfl ⟨Nat.le_of_ble_eq_true rfl, Nat.le_of_ble_eq_true rfl⟩ [0, 1, 2, 3, 4, 5] [] rfl rfl rfl rfl (by decide) 0 rfl rfl rfl hl.1 (Nat.le_of_ble_eq_true rfl) dX0_numberIn_3 ⟨Nat.le_of_ble_eq_true rfl, Nat.le_of_ble_eq_true rfl⟩ (fun _ _ => rfl) (fun _ z H locs hP hD hS => ?_)
  have hP : va_P G vwCl [oz_oD h tx n q rd, oz_oB cB tx 256 fT, oz_oB cB rd r fR, oz_oO q t b i k, oz_oB cB t 4 fM, oz_oB cB b 2048 fW, oz_oB cB z (oz_ct v2 n (oz_fr v1 n)) (oz_sl fT (oz_fr v1 n) (oz_ct v2 n (oz_fr v1 n)))] H := hP
  have hD : va_D A [oz_oD h tx n q rd, oz_oB cB tx 256 fT, oz_oB cB rd r fR, oz_oO q t b i k, oz_oB cB t 4 fM, oz_oB cB b 2048 fW, oz_oB cB z (oz_ct v2 n (oz_fr v1 n)) (oz_sl fT (oz_fr v1 n) (oz_ct v2 n (oz_fr v1 n)))] := hD
  refine lv_astore_n (lv' := [(3, .ref z), (0, .ref h), (1, .int (nI v1)), (2, .int (nI v2))]) hx hb dX0_numberIn_6 rfl hl (by decide) rfl (fun ls hl => ?_)
  refine lv_aload_n hx hb dX0_numberIn_7 rfl (lv_at hl 1 rfl) ?_
  refine va_get (D := G) (ci := 0) (v := .ref q) (C := RX0) (T := TX0) (N := 4) hx hb hts in_X0 hown hK hP 0 rfl rfl 2 (by decide) (hts _ q48) (fun _ h9 => h9) rfl dX0_numberIn_8 ?_
  refine va_get (D := G) (ci := 1) (v := .int (nI i)) (C := RX1) (T := TX1) (N := 4) hx hb hts in_X1 hown hK hP 3 rfl rfl 2 (by decide) (hts _ q34) (fun _ h9 => h9) rfl dX0_numberIn_11 ?_
  refine lv_sipush (v := nI 1600) hx hb dX0_numberIn_14 (by decide) ?_
  refine oz_kj_ge hx hb (by omega) (by decide) (tgt := 25) dX0_numberIn_17 (by decide) (fun h1 => ?_) (fun h1 => ?_)
  · refine lv_iconst (v := nI 0) hx hb dX0_numberIn_25 (by decide) ?_
    have hc : ¬ (i < 1600 ∧ 0 < oz_ct v2 n (oz_fr v1 n)) := by omega
    have hP := hP.sub (ws' := [oz_oD h tx n q rd, oz_oB cB tx 256 fT, oz_oB cB rd r fR, oz_oO q t b i k, oz_oB cB t 4 fM, oz_oB cB b 2048 fW]) [0, 1, 2, 3, 4, 5] rfl
    have hD := hD.sub (ws' := [oz_oD h tx n q rd, oz_oB cB tx 256 fT, oz_oB cB rd r fR, oz_oO q t b i k, oz_oB cB t 4 fM, oz_oB cB b 2048 fW]) [0, 1, 2, 3, 4, 5] (by decide) rfl
    have ew : ([oz_oD h tx n q rd, oz_oB cB tx 256 fT, oz_oB cB rd r fR, oz_oO q t b i k, oz_oB cB t 4 fM, oz_oB cB b 2048 fW] : va_W) = [oz_oD h tx n q rd, oz_oB cB tx 256 fT, oz_oB cB rd r fR, oz_oO q t b (if i < 1600 ∧ 0 < oz_ct v2 n (oz_fr v1 n) then (if 128 ≤ ((oz_sl fT (oz_fr v1 n) (oz_ct v2 n (oz_fr v1 n))) 0).toNat then i + 5 + oz_ct v2 n (oz_fr v1 n) else i + 4 + oz_ct v2 n (oz_fr v1 n)) else i) k, oz_oB cB t 4 fM, oz_oB cB b 2048 (if i < 1600 ∧ 0 < oz_ct v2 n (oz_fr v1 n) then (if 128 ≤ ((oz_sl fT (oz_fr v1 n) (oz_ct v2 n (oz_fr v1 n))) 0).toNat then va_cpy (oz_sl fT (oz_fr v1 n) (oz_ct v2 n (oz_fr v1 n))) (oz_un (oz_pb fW i 4 (oz_ct v2 n (oz_fr v1 n) + 1)) (i + 4) 0#8) 0 (i + 5) (oz_ct v2 n (oz_fr v1 n)) else va_cpy (oz_sl fT (oz_fr v1 n) (oz_ct v2 n (oz_fr v1 n))) (oz_pb fW i 4 (oz_ct v2 n (oz_fr v1 n))) 0 (i + 4) (oz_ct v2 n (oz_fr v1 n))) else fW)] := by simp only [if_neg hc]
    rw [ew] at hP hD
    exact W.zret (v := nI 0) hx hb hr rfl (fun t9 ht hW => ⟨⟨_, fM, rfl, (if_neg hc).symm, by rw [ht]; exact hP, va_K.moved hW.alike hK, hD⟩, hS.F ht⟩) hS.2.2 dX0_numberIn_26
  · refine lv_aload_n hx hb dX0_numberIn_20 rfl (lv_at hl 0 rfl) ?_
    refine va_alen (v := nI (oz_ct v2 n (oz_fr v1 n))) hx hb hK hP 6 0 rfl rfl rfl dX0_numberIn_21 ?_
    refine oz_kj_ne0 hx hb (by omega) (tgt := 27) dX0_numberIn_22 (by decide) (fun h2 => ?_) (fun h2 => ?_)
    · refine lv_aload_n hx hb dX0_numberIn_27 rfl (lv_at hl 1 rfl) ?_
      refine va_get (D := G) (ci := 0) (v := .ref q) (C := RX0) (T := TX0) (N := 4) hx hb hts in_X0 hown hK hP 0 rfl rfl 2 (by decide) (hts _ q48) (fun _ h9 => h9) rfl dX0_numberIn_28 ?_
      refine lv_aload_n hx hb dX0_numberIn_31 rfl (lv_at hl 0 rfl) ?_
      refine oz_kc_v (nA := 1) (As := [.ref z]) (rest := []) (wr := [oz_oD h tx n q rd, oz_oB cB tx 256 fT, oz_oB cB rd r fR]) (w3 := fun (u : (Nat → oz_By)) => [oz_oD h tx n q rd, oz_oB cB tx 256 fT, oz_oB cB rd r fR, oz_oO q t b (if 128 ≤ ((oz_sl fT (oz_fr v1 n) (oz_ct v2 n (oz_fr v1 n))) 0).toNat then i + 5 + (oz_ct v2 n (oz_fr v1 n)) else i + 4 + (oz_ct v2 n (oz_fr v1 n))) k, oz_oB cB t 4 u, oz_oB cB b 2048 (if 128 ≤ ((oz_sl fT (oz_fr v1 n) (oz_ct v2 n (oz_fr v1 n))) 0).toNat then va_cpy (oz_sl fT (oz_fr v1 n) (oz_ct v2 n (oz_fr v1 n))) (oz_un (oz_pb fW i 4 ((oz_ct v2 n (oz_fr v1 n)) + 1)) (i + 4) 0#8) 0 (i + 5) (oz_ct v2 n (oz_fr v1 n)) else va_cpy (oz_sl fT (oz_fr v1 n) (oz_ct v2 n (oz_fr v1 n))) (oz_pb fW i 4 (oz_ct v2 n (oz_fr v1 n))) 0 (i + 4) (oz_ct v2 n (oz_fr v1 n))), oz_oB cB z ((oz_ct v2 n (oz_fr v1 n))) ((oz_sl fT (oz_fr v1 n) (oz_ct v2 n (oz_fr v1 n))))]) (C := RX1) hx hb hml hown hts hK hP hD hS hA (mt_X1_putMPInt l G cB cI H.size q t b i k fM fW z (oz_ct v2 n (oz_fr v1 n)) (oz_sl fT (oz_fr v1 n) (oz_ct v2 n (oz_fr v1 n))) (by omega) h2 (by omega)) (lw_V q132 q133 q134 q13 q135) rfl rfl (by decide +kernel) rfl ⟨Nat.le_of_ble_eq_true rfl, Nat.le_of_ble_eq_true rfl⟩ [3, 4, 5, 6] [0, 1, 2] rfl rfl rfl rfl (by decide) 0 rfl rfl rfl hl.1 (Nat.le_of_ble_eq_true rfl) dX0_numberIn_32 ⟨Nat.le_of_ble_eq_true rfl, Nat.le_of_ble_eq_true rfl⟩ (fun _ => rfl) (fun fM2 H locs hP hD hS => ?_)
      have hP : va_P G vwCl [oz_oD h tx n q rd, oz_oB cB tx 256 fT, oz_oB cB rd r fR, oz_oO q t b (if 128 ≤ ((oz_sl fT (oz_fr v1 n) (oz_ct v2 n (oz_fr v1 n))) 0).toNat then i + 5 + (oz_ct v2 n (oz_fr v1 n)) else i + 4 + (oz_ct v2 n (oz_fr v1 n))) k, oz_oB cB t 4 fM2, oz_oB cB b 2048 (if 128 ≤ ((oz_sl fT (oz_fr v1 n) (oz_ct v2 n (oz_fr v1 n))) 0).toNat then va_cpy (oz_sl fT (oz_fr v1 n) (oz_ct v2 n (oz_fr v1 n))) (oz_un (oz_pb fW i 4 ((oz_ct v2 n (oz_fr v1 n)) + 1)) (i + 4) 0#8) 0 (i + 5) (oz_ct v2 n (oz_fr v1 n)) else va_cpy (oz_sl fT (oz_fr v1 n) (oz_ct v2 n (oz_fr v1 n))) (oz_pb fW i 4 (oz_ct v2 n (oz_fr v1 n))) 0 (i + 4) (oz_ct v2 n (oz_fr v1 n))), oz_oB cB z ((oz_ct v2 n (oz_fr v1 n))) ((oz_sl fT (oz_fr v1 n) (oz_ct v2 n (oz_fr v1 n))))] H := hP
      have hD : va_D A [oz_oD h tx n q rd, oz_oB cB tx 256 fT, oz_oB cB rd r fR, oz_oO q t b (if 128 ≤ ((oz_sl fT (oz_fr v1 n) (oz_ct v2 n (oz_fr v1 n))) 0).toNat then i + 5 + (oz_ct v2 n (oz_fr v1 n)) else i + 4 + (oz_ct v2 n (oz_fr v1 n))) k, oz_oB cB t 4 fM2, oz_oB cB b 2048 (if 128 ≤ ((oz_sl fT (oz_fr v1 n) (oz_ct v2 n (oz_fr v1 n))) 0).toNat then va_cpy (oz_sl fT (oz_fr v1 n) (oz_ct v2 n (oz_fr v1 n))) (oz_un (oz_pb fW i 4 ((oz_ct v2 n (oz_fr v1 n)) + 1)) (i + 4) 0#8) 0 (i + 5) (oz_ct v2 n (oz_fr v1 n)) else va_cpy (oz_sl fT (oz_fr v1 n) (oz_ct v2 n (oz_fr v1 n))) (oz_pb fW i 4 (oz_ct v2 n (oz_fr v1 n))) 0 (i + 4) (oz_ct v2 n (oz_fr v1 n))), oz_oB cB z ((oz_ct v2 n (oz_fr v1 n))) ((oz_sl fT (oz_fr v1 n) (oz_ct v2 n (oz_fr v1 n))))] := hD
      refine lv_iconst (v := nI 1) hx hb dX0_numberIn_35 (by decide) ?_
      have hc : i < 1600 ∧ 0 < oz_ct v2 n (oz_fr v1 n) := by omega
      have hP := hP.sub (ws' := [oz_oD h tx n q rd, oz_oB cB tx 256 fT, oz_oB cB rd r fR, oz_oO q t b (if 128 ≤ ((oz_sl fT (oz_fr v1 n) (oz_ct v2 n (oz_fr v1 n))) 0).toNat then i + 5 + (oz_ct v2 n (oz_fr v1 n)) else i + 4 + (oz_ct v2 n (oz_fr v1 n))) k, oz_oB cB t 4 fM2, oz_oB cB b 2048 (if 128 ≤ ((oz_sl fT (oz_fr v1 n) (oz_ct v2 n (oz_fr v1 n))) 0).toNat then va_cpy (oz_sl fT (oz_fr v1 n) (oz_ct v2 n (oz_fr v1 n))) (oz_un (oz_pb fW i 4 ((oz_ct v2 n (oz_fr v1 n)) + 1)) (i + 4) 0#8) 0 (i + 5) (oz_ct v2 n (oz_fr v1 n)) else va_cpy (oz_sl fT (oz_fr v1 n) (oz_ct v2 n (oz_fr v1 n))) (oz_pb fW i 4 (oz_ct v2 n (oz_fr v1 n))) 0 (i + 4) (oz_ct v2 n (oz_fr v1 n)))]) [0, 1, 2, 3, 4, 5] rfl
      have hD := hD.sub (ws' := [oz_oD h tx n q rd, oz_oB cB tx 256 fT, oz_oB cB rd r fR, oz_oO q t b (if 128 ≤ ((oz_sl fT (oz_fr v1 n) (oz_ct v2 n (oz_fr v1 n))) 0).toNat then i + 5 + (oz_ct v2 n (oz_fr v1 n)) else i + 4 + (oz_ct v2 n (oz_fr v1 n))) k, oz_oB cB t 4 fM2, oz_oB cB b 2048 (if 128 ≤ ((oz_sl fT (oz_fr v1 n) (oz_ct v2 n (oz_fr v1 n))) 0).toNat then va_cpy (oz_sl fT (oz_fr v1 n) (oz_ct v2 n (oz_fr v1 n))) (oz_un (oz_pb fW i 4 ((oz_ct v2 n (oz_fr v1 n)) + 1)) (i + 4) 0#8) 0 (i + 5) (oz_ct v2 n (oz_fr v1 n)) else va_cpy (oz_sl fT (oz_fr v1 n) (oz_ct v2 n (oz_fr v1 n))) (oz_pb fW i 4 (oz_ct v2 n (oz_fr v1 n))) 0 (i + 4) (oz_ct v2 n (oz_fr v1 n)))]) [0, 1, 2, 3, 4, 5] (by decide) rfl
      have ew : ([oz_oD h tx n q rd, oz_oB cB tx 256 fT, oz_oB cB rd r fR, oz_oO q t b (if 128 ≤ ((oz_sl fT (oz_fr v1 n) (oz_ct v2 n (oz_fr v1 n))) 0).toNat then i + 5 + (oz_ct v2 n (oz_fr v1 n)) else i + 4 + (oz_ct v2 n (oz_fr v1 n))) k, oz_oB cB t 4 fM2, oz_oB cB b 2048 (if 128 ≤ ((oz_sl fT (oz_fr v1 n) (oz_ct v2 n (oz_fr v1 n))) 0).toNat then va_cpy (oz_sl fT (oz_fr v1 n) (oz_ct v2 n (oz_fr v1 n))) (oz_un (oz_pb fW i 4 ((oz_ct v2 n (oz_fr v1 n)) + 1)) (i + 4) 0#8) 0 (i + 5) (oz_ct v2 n (oz_fr v1 n)) else va_cpy (oz_sl fT (oz_fr v1 n) (oz_ct v2 n (oz_fr v1 n))) (oz_pb fW i 4 (oz_ct v2 n (oz_fr v1 n))) 0 (i + 4) (oz_ct v2 n (oz_fr v1 n)))] : va_W) = [oz_oD h tx n q rd, oz_oB cB tx 256 fT, oz_oB cB rd r fR, oz_oO q t b (if i < 1600 ∧ 0 < oz_ct v2 n (oz_fr v1 n) then (if 128 ≤ ((oz_sl fT (oz_fr v1 n) (oz_ct v2 n (oz_fr v1 n))) 0).toNat then i + 5 + oz_ct v2 n (oz_fr v1 n) else i + 4 + oz_ct v2 n (oz_fr v1 n)) else i) k, oz_oB cB t 4 fM2, oz_oB cB b 2048 (if i < 1600 ∧ 0 < oz_ct v2 n (oz_fr v1 n) then (if 128 ≤ ((oz_sl fT (oz_fr v1 n) (oz_ct v2 n (oz_fr v1 n))) 0).toNat then va_cpy (oz_sl fT (oz_fr v1 n) (oz_ct v2 n (oz_fr v1 n))) (oz_un (oz_pb fW i 4 (oz_ct v2 n (oz_fr v1 n) + 1)) (i + 4) 0#8) 0 (i + 5) (oz_ct v2 n (oz_fr v1 n)) else va_cpy (oz_sl fT (oz_fr v1 n) (oz_ct v2 n (oz_fr v1 n))) (oz_pb fW i 4 (oz_ct v2 n (oz_fr v1 n))) 0 (i + 4) (oz_ct v2 n (oz_fr v1 n))) else fW)] := by simp only [if_pos hc]
      rw [ew] at hP hD
      exact W.zret (v := nI 1) hx hb hr rfl (fun t9 ht hW => ⟨⟨_, fM2, rfl, (if_pos hc).symm, by rw [ht]; exact hP, va_K.moved hW.alike hK, hD⟩, hS.F ht⟩) hS.2.2 dX0_numberIn_36
    · refine lv_iconst (v := nI 0) hx hb dX0_numberIn_25 (by decide) ?_
      have hc : ¬ (i < 1600 ∧ 0 < oz_ct v2 n (oz_fr v1 n)) := by omega
      have hP := hP.sub (ws' := [oz_oD h tx n q rd, oz_oB cB tx 256 fT, oz_oB cB rd r fR, oz_oO q t b i k, oz_oB cB t 4 fM, oz_oB cB b 2048 fW]) [0, 1, 2, 3, 4, 5] rfl
      have hD := hD.sub (ws' := [oz_oD h tx n q rd, oz_oB cB tx 256 fT, oz_oB cB rd r fR, oz_oO q t b i k, oz_oB cB t 4 fM, oz_oB cB b 2048 fW]) [0, 1, 2, 3, 4, 5] (by decide) rfl
      have ew : ([oz_oD h tx n q rd, oz_oB cB tx 256 fT, oz_oB cB rd r fR, oz_oO q t b i k, oz_oB cB t 4 fM, oz_oB cB b 2048 fW] : va_W) = [oz_oD h tx n q rd, oz_oB cB tx 256 fT, oz_oB cB rd r fR, oz_oO q t b (if i < 1600 ∧ 0 < oz_ct v2 n (oz_fr v1 n) then (if 128 ≤ ((oz_sl fT (oz_fr v1 n) (oz_ct v2 n (oz_fr v1 n))) 0).toNat then i + 5 + oz_ct v2 n (oz_fr v1 n) else i + 4 + oz_ct v2 n (oz_fr v1 n)) else i) k, oz_oB cB t 4 fM, oz_oB cB b 2048 (if i < 1600 ∧ 0 < oz_ct v2 n (oz_fr v1 n) then (if 128 ≤ ((oz_sl fT (oz_fr v1 n) (oz_ct v2 n (oz_fr v1 n))) 0).toNat then va_cpy (oz_sl fT (oz_fr v1 n) (oz_ct v2 n (oz_fr v1 n))) (oz_un (oz_pb fW i 4 (oz_ct v2 n (oz_fr v1 n) + 1)) (i + 4) 0#8) 0 (i + 5) (oz_ct v2 n (oz_fr v1 n)) else va_cpy (oz_sl fT (oz_fr v1 n) (oz_ct v2 n (oz_fr v1 n))) (oz_pb fW i 4 (oz_ct v2 n (oz_fr v1 n))) 0 (i + 4) (oz_ct v2 n (oz_fr v1 n))) else fW)] := by simp only [if_neg hc]
      rw [ew] at hP hD
      exact W.zret (v := nI 0) hx hb hr rfl (fun t9 ht hW => ⟨⟨_, fM, rfl, (if_neg hc).symm, by rw [ht]; exact hP, va_K.moved hW.alike hK, hD⟩, hS.F ht⟩) hS.2.2 dX0_numberIn_26

/-- left -/
abbrev rm_X0_left : Room := ({ frames := 1, cells := 0, slots := 0, locals := 20 } : Room)
set_option maxHeartbeats 4000000 in
set_option maxRecDepth 100000 in
theorem mt_X0_left (l : Launch) (G : va_G) (cB cI : ClassId) (sz : Nat) (h tx rd q t b n r i k : Nat) (fM fT fW fR : Nat → oz_By) (hn : n ≤ 256) (hr0 : r ≤ 2048) (hi : i ≤ 2048) (hk : k ≤ i) : Met l yX0_left (ws_ yX0_left cX0_left 1 (some .int)) rm_X0_left (va_Pc [.ref h] (oz_pw G cB cI sz [oz_oD h tx n q rd, oz_oB cB tx 256 fT, oz_oB cB rd r fR, oz_oO q t b i k, oz_oB cB t 4 fM, oz_oB cB b 2048 fW])) (va_Qi (fun (x9 : Int32) (_ : Unit) => x9 = nI (i - k)) (fun (u : Unit) => oz_qw G cB cI (va_A [oz_oD h tx n q rd, oz_oB cB tx 256 fT, oz_oB cB rd r fR, oz_oO q t b i k, oz_oB cB t 4 fM, oz_oB cB b 2048 fW] sz) [oz_oD h tx n q rd, oz_oB cB tx 256 fT, oz_oB cB rd r fR, oz_oO q t b i k, oz_oB cB t 4 fM, oz_oB cB b 2048 fW]) (va_A [oz_oD h tx n q rd, oz_oB cB tx 256 fT, oz_oB cB rd r fR, oz_oO q t b i k, oz_oB cB t 4 fM, oz_oB cB b 2048 fW] sz)) 0 0 (va_A [oz_oD h tx n q rd, oz_oB cB tx 256 fT, oz_oB cB rd r fR, oz_oO q t b i k, oz_oB cB t 4 fM, oz_oB cB b 2048 fW] sz) := by
  refine Met.ofW (cc := cX0_left) (maxL := 1) (ret := (some .int)) (by decide) rfl ?_
  intro p e s m args below meth c s₁ B hml hv
  obtain ⟨rfl, hsz, hP, hK, hD0⟩ := hv
  have hx := B.exec
  have hb := B.bytes
  have hr := B.returns
  have hts := atoms_spec (ws := (ws_ yX0_left cX0_left 1 (some .int))) B.pre
  have hts : ∀ w ∈ lw_all, w.before _ s = true := fun w h => hts w (List.mem_cons_of_mem _ h)
  have hown : s.vm.findClass RX0 = some m.cls := findClass_of_methodNamed B.named
  have hlocks := B.notSynchronized
  subst hsz
  have hD := hD0.self (sz := s.heap.size)
  generalize hAe : va_A [oz_oD h tx n q rd, oz_oB cB tx 256 fT, oz_oB cB rd r fR, oz_oO q t b i k, oz_oB cB t 4 fM, oz_oB cB b 2048 fW] s.heap.size = A at hD ⊢
  have hA : ∀ q9 : Nat, s.heap.size ≤ q9 → A q9 := fun q9 h => by rw [← hAe]; exact Or.inr h
  have hS : va_S A s.heap s.heap [] := va_S.rf
  have hP : va_P G vwCl [oz_oD h tx n q rd, oz_oB cB tx 256 fT, oz_oB cB rd r fR, oz_oO q t b i k, oz_oB cB t 4 fM, oz_oB cB b 2048 fW] s.heap := hP
  have hl := lv_entry ([.ref h]) (n := 1) (Nat.le_of_ble_eq_true rfl)
  rw [lg_entry_eq]
  generalize (lg_sl ([.ref h]) ++ List.replicate (1 - (lg_sl ([.ref h])).length) Slot.unset).toArray = ls at hl ⊢
  have hl : lv_has ls 1 [(0, .ref h)] := hl
  refine lv_aload_n hx hb dX0_left_0 rfl (lv_at hl 0 rfl) ?_
  refine va_get (D := G) (ci := 0) (v := .ref q) (C := RX0) (T := TX0) (N := 4) hx hb hts in_X0 hown hK hP 0 rfl rfl 2 (by decide) (hts _ q48) (fun _ h9 => h9) rfl dX0_left_1 ?_
  refine oz_kc_i (nA := 0) (As := []) (rest := []) (wr := [oz_oD h tx n q rd, oz_oB cB tx 256 fT, oz_oB cB rd r fR]) (w3 := fun (u : Unit) => [oz_oD h tx n q rd, oz_oB cB tx 256 fT, oz_oB cB rd r fR, oz_oO q t b i k, oz_oB cB t 4 fM, oz_oB cB b 2048 fW]) (C := RX1) hx hb hml hown hts hK hP hD hS hA (mt_X1_getLength l G cB cI s.heap.size q t b i k fM fW hk) (lw_V q145 q146 q147 q13 q148) rfl rfl (by decide +kernel) rfl ⟨Nat.le_of_ble_eq_true rfl, Nat.le_of_ble_eq_true rfl⟩ [3, 4, 5] [0, 1, 2] rfl rfl rfl rfl (by decide) 0 rfl rfl rfl hl.1 (Nat.le_of_ble_eq_true rfl) dX0_left_4 ⟨Nat.le_of_ble_eq_true rfl, Nat.le_of_ble_eq_true rfl⟩ (fun _ => rfl) (fun _ H locs hP hD hS => ?_)
  have hP : va_P G vwCl [oz_oD h tx n q rd, oz_oB cB tx 256 fT, oz_oB cB rd r fR, oz_oO q t b i k, oz_oB cB t 4 fM, oz_oB cB b 2048 fW] H := hP
  have hD : va_D A [oz_oD h tx n q rd, oz_oB cB tx 256 fT, oz_oB cB rd r fR, oz_oO q t b i k, oz_oB cB t 4 fM, oz_oB cB b 2048 fW] := hD
  exact W.iret (v := nI (i - k)) hx hb hr (fun t9 ht hW => ⟨⟨_, (), rfl, rfl, by rw [ht]; exact hP, va_K.moved hW.alike hK, hD⟩, hS.F ht⟩) hS.2.2 dX0_left_7

/-- byteOut -/
abbrev rm_X0_byteOut : Room := ({ frames := 1, cells := 0, slots := 0, locals := 20 } : Room)
set_option maxHeartbeats 4000000 in
set_option maxRecDepth 100000 in
theorem mt_X0_byteOut (l : Launch) (G : va_G) (cB cI : ClassId) (sz : Nat) (h tx rd q t b n r i k : Nat) (fM fT fW fR : Nat → oz_By) (hn : n ≤ 256) (hr0 : r ≤ 2048) (hi : i ≤ 2048) (hk : k ≤ i) : Met l yX0_byteOut (ws_ yX0_byteOut cX0_byteOut 1 (some .int)) rm_X0_byteOut (va_Pc [.ref h] (oz_pw G cB cI sz [oz_oD h tx n q rd, oz_oB cB tx 256 fT, oz_oB cB rd r fR, oz_oO q t b i k, oz_oB cB t 4 fM, oz_oB cB b 2048 fW])) (va_Qi (fun (x9 : Int32) (_ : Unit) => x9 = (if k + 1 ≤ i then nI (oz_be fW k 1) else (-1 : Int32))) (fun (u : Unit) => oz_qw G cB cI (va_A [oz_oD h tx n q rd, oz_oB cB tx 256 fT, oz_oB cB rd r fR, oz_oO q t b i k, oz_oB cB t 4 fM, oz_oB cB b 2048 fW] sz) [oz_oD h tx n q rd, oz_oB cB tx 256 fT, oz_oB cB rd r fR, oz_oO q t b i (if k + 1 ≤ i then k + 1 else k), oz_oB cB t 4 fM, oz_oB cB b 2048 fW]) (va_A [oz_oD h tx n q rd, oz_oB cB tx 256 fT, oz_oB cB rd r fR, oz_oO q t b i k, oz_oB cB t 4 fM, oz_oB cB b 2048 fW] sz)) 0 0 (va_A [oz_oD h tx n q rd, oz_oB cB tx 256 fT, oz_oB cB rd r fR, oz_oO q t b i k, oz_oB cB t 4 fM, oz_oB cB b 2048 fW] sz) := by
  refine Met.ofW (cc := cX0_byteOut) (maxL := 1) (ret := (some .int)) (by decide) rfl ?_
  intro p e s m args below meth c s₁ B hml hv
  obtain ⟨rfl, hsz, hP, hK, hD0⟩ := hv
  have hx := B.exec
  have hb := B.bytes
  have hr := B.returns
  have hts := atoms_spec (ws := (ws_ yX0_byteOut cX0_byteOut 1 (some .int))) B.pre
  have hts : ∀ w ∈ lw_all, w.before _ s = true := fun w h => hts w (List.mem_cons_of_mem _ h)
  have hown : s.vm.findClass RX0 = some m.cls := findClass_of_methodNamed B.named
  have hlocks := B.notSynchronized
  subst hsz
  have hD := hD0.self (sz := s.heap.size)
  generalize hAe : va_A [oz_oD h tx n q rd, oz_oB cB tx 256 fT, oz_oB cB rd r fR, oz_oO q t b i k, oz_oB cB t 4 fM, oz_oB cB b 2048 fW] s.heap.size = A at hD ⊢
  have hA : ∀ q9 : Nat, s.heap.size ≤ q9 → A q9 := fun q9 h => by rw [← hAe]; exact Or.inr h
  have hS : va_S A s.heap s.heap [] := va_S.rf
  have hP : va_P G vwCl [oz_oD h tx n q rd, oz_oB cB tx 256 fT, oz_oB cB rd r fR, oz_oO q t b i k, oz_oB cB t 4 fM, oz_oB cB b 2048 fW] s.heap := hP
  have hl := lv_entry ([.ref h]) (n := 1) (Nat.le_of_ble_eq_true rfl)
  rw [lg_entry_eq]
  generalize (lg_sl ([.ref h]) ++ List.replicate (1 - (lg_sl ([.ref h])).length) Slot.unset).toArray = ls at hl ⊢
  have hl : lv_has ls 1 [(0, .ref h)] := hl
  refine lv_aload_n hx hb dX0_byteOut_0 rfl (lv_at hl 0 rfl) ?_
  refine va_get (D := G) (ci := 0) (v := .ref q) (C := RX0) (T := TX0) (N := 4) hx hb hts in_X0 hown hK hP 0 rfl rfl 2 (by decide) (hts _ q48) (fun _ h9 => h9) rfl dX0_byteOut_1 ?_
  refine oz_kc_i (nA := 0) (As := []) (rest := []) (wr := [oz_oD h tx n q rd, oz_oB cB tx 256 fT, oz_oB cB rd r fR]) (w3 := fun (u : Unit) => [oz_oD h tx n q rd, oz_oB cB tx 256 fT, oz_oB cB rd r fR, oz_oO q t b i k, oz_oB cB t 4 fM, oz_oB cB b 2048 fW]) (C := RX1) hx hb hml hown hts hK hP hD hS hA (mt_X1_getLength l G cB cI s.heap.size q t b i k fM fW hk) (lw_V q145 q146 q147 q13 q148) rfl rfl (by decide +kernel) rfl ⟨Nat.le_of_ble_eq_true rfl, Nat.le_of_ble_eq_true rfl⟩ [3, 4, 5] [0, 1, 2] rfl rfl rfl rfl (by decide) 0 rfl rfl rfl hl.1 (Nat.le_of_ble_eq_true rfl) dX0_byteOut_4 ⟨Nat.le_of_ble_eq_true rfl, Nat.le_of_ble_eq_true rfl⟩ (fun _ => rfl) (fun _ H locs hP hD hS => ?_)
  have hP : va_P G vwCl [oz_oD h tx n q rd, oz_oB cB tx 256 fT, oz_oB cB rd r fR, oz_oO q t b i k, oz_oB cB t 4 fM, oz_oB cB b 2048 fW] H := hP
  have hD : va_D A [oz_oD h tx n q rd, oz_oB cB tx 256 fT, oz_oB cB rd r fR, oz_oO q t b i k, oz_oB cB t 4 fM, oz_oB cB b 2048 fW] := hD
  refine lv_iconst (v := nI 1) hx hb dX0_byteOut_7 (by decide) ?_
  refine oz_kj_ge hx hb (by omega) (by decide) (tgt := 15) dX0_byteOut_8 (by decide) (fun h1 => ?_) (fun h1 => ?_)
  · refine lv_aload_n hx hb dX0_byteOut_15 rfl (lv_at hl 0 rfl) ?_
    refine va_get (D := G) (ci := 0) (v := .ref q) (C := RX0) (T := TX0) (N := 4) hx hb hts in_X0 hown hK hP 0 rfl rfl 2 (by decide) (hts _ q48) (fun _ h9 => h9) rfl dX0_byteOut_16 ?_
    refine oz_kc_i (nA := 0) (As := []) (rest := []) (wr := [oz_oD h tx n q rd, oz_oB cB tx 256 fT, oz_oB cB rd r fR]) (w3 := fun (u : Unit) => [oz_oD h tx n q rd, oz_oB cB tx 256 fT, oz_oB cB rd r fR, oz_oO q t b i (k + 1), oz_oB cB t 4 fM, oz_oB cB b 2048 fW]) (C := RX1) hx hb hml hown hts hK hP hD hS hA (mt_X1_getByte l G cB cI H.size q t b i k fM fW (by omega)) (lw_V q153 q154 q155 q13 q156) rfl rfl (by decide +kernel) rfl ⟨Nat.le_of_ble_eq_true rfl, Nat.le_of_ble_eq_true rfl⟩ [3, 4, 5] [0, 1, 2] rfl rfl rfl rfl (by decide) 0 rfl rfl rfl hl.1 (Nat.le_of_ble_eq_true rfl) dX0_byteOut_19 ⟨Nat.le_of_ble_eq_true rfl, Nat.le_of_ble_eq_true rfl⟩ (fun _ => rfl) (fun _ H locs hP hD hS => ?_)
    have hP : va_P G vwCl [oz_oD h tx n q rd, oz_oB cB tx 256 fT, oz_oB cB rd r fR, oz_oO q t b i (k + 1), oz_oB cB t 4 fM, oz_oB cB b 2048 fW] H := hP
    have hD : va_D A [oz_oD h tx n q rd, oz_oB cB tx 256 fT, oz_oB cB rd r fR, oz_oO q t b i (k + 1), oz_oB cB t 4 fM, oz_oB cB b 2048 fW] := hD
    refine lv_sipush (v := nI 255) hx hb dX0_byteOut_22 (by decide) ?_
    refine lv_iand hx hb dX0_byteOut_25 ?_
    refine oz_ktop (y := nI (oz_be fW k 1)) ((oz_and_b (oz_by_lt _)).trans (by rw [oz_be_1])) ?_
    have hc : k + 1 ≤ i := by omega
    have ew : ([oz_oD h tx n q rd, oz_oB cB tx 256 fT, oz_oB cB rd r fR, oz_oO q t b i (k + 1), oz_oB cB t 4 fM, oz_oB cB b 2048 fW] : va_W) = [oz_oD h tx n q rd, oz_oB cB tx 256 fT, oz_oB cB rd r fR, oz_oO q t b i (if k + 1 ≤ i then k + 1 else k), oz_oB cB t 4 fM, oz_oB cB b 2048 fW] := by simp only [if_pos hc]
    rw [ew] at hP hD
    exact W.iret (v := nI (oz_be fW k 1)) hx hb hr (fun t9 ht hW => ⟨⟨_, (), rfl, (if_pos hc).symm, by rw [ht]; exact hP, va_K.moved hW.alike hK, hD⟩, hS.F ht⟩) hS.2.2 dX0_byteOut_26
  · refine lv_iconst (v := (-1)) hx hb dX0_byteOut_11 (by decide) ?_
    refine lv_goto (tgt := 26) hx hb dX0_byteOut_12 (by decide) ?_
    have hc : ¬ (k + 1 ≤ i) := by omega
    have ew : ([oz_oD h tx n q rd, oz_oB cB tx 256 fT, oz_oB cB rd r fR, oz_oO q t b i k, oz_oB cB t 4 fM, oz_oB cB b 2048 fW] : va_W) = [oz_oD h tx n q rd, oz_oB cB tx 256 fT, oz_oB cB rd r fR, oz_oO q t b i (if k + 1 ≤ i then k + 1 else k), oz_oB cB t 4 fM, oz_oB cB b 2048 fW] := by simp only [if_neg hc]
    rw [ew] at hP hD
    exact W.iret (v := (-1)) hx hb hr (fun t9 ht hW => ⟨⟨_, (), rfl, (if_neg hc).symm, by rw [ht]; exact hP, va_K.moved hW.alike hK, hD⟩, hS.F ht⟩) hS.2.2 dX0_byteOut_26

/-- shortOut -/
abbrev rm_X0_shortOut : Room := ({ frames := 2, cells := 0, slots := 0, locals := 41 } : Room)
set_option maxHeartbeats 4000000 in
set_option maxRecDepth 100000 in
theorem mt_X0_shortOut (l : Launch) (G : va_G) (cB cI : ClassId) (sz : Nat) (h tx rd q t b n r i k : Nat) (fM fT fW fR : Nat → oz_By) (hn : n ≤ 256) (hr0 : r ≤ 2048) (hi : i ≤ 2048) (hk : k ≤ i) : Met l yX0_shortOut (ws_ yX0_shortOut cX0_shortOut 1 (some .int)) rm_X0_shortOut (va_Pc [.ref h] (oz_pw G cB cI sz [oz_oD h tx n q rd, oz_oB cB tx 256 fT, oz_oB cB rd r fR, oz_oO q t b i k, oz_oB cB t 4 fM, oz_oB cB b 2048 fW])) (va_Qi (fun (x9 : Int32) (_ : Unit) => x9 = (if k + 2 ≤ i then nI (oz_be fW k 2) else (-1 : Int32))) (fun (u : Unit) => oz_qw G cB cI (va_A [oz_oD h tx n q rd, oz_oB cB tx 256 fT, oz_oB cB rd r fR, oz_oO q t b i k, oz_oB cB t 4 fM, oz_oB cB b 2048 fW] sz) [oz_oD h tx n q rd, oz_oB cB tx 256 fT, oz_oB cB rd r fR, oz_oO q t b i (if k + 2 ≤ i then k + 2 else k), oz_oB cB t 4 fM, oz_oB cB b 2048 fW]) (va_A [oz_oD h tx n q rd, oz_oB cB tx 256 fT, oz_oB cB rd r fR, oz_oO q t b i k, oz_oB cB t 4 fM, oz_oB cB b 2048 fW] sz)) 0 0 (va_A [oz_oD h tx n q rd, oz_oB cB tx 256 fT, oz_oB cB rd r fR, oz_oO q t b i k, oz_oB cB t 4 fM, oz_oB cB b 2048 fW] sz) := by
  refine Met.ofW (cc := cX0_shortOut) (maxL := 1) (ret := (some .int)) (by decide) rfl ?_
  intro p e s m args below meth c s₁ B hml hv
  obtain ⟨rfl, hsz, hP, hK, hD0⟩ := hv
  have hx := B.exec
  have hb := B.bytes
  have hr := B.returns
  have hts := atoms_spec (ws := (ws_ yX0_shortOut cX0_shortOut 1 (some .int))) B.pre
  have hts : ∀ w ∈ lw_all, w.before _ s = true := fun w h => hts w (List.mem_cons_of_mem _ h)
  have hown : s.vm.findClass RX0 = some m.cls := findClass_of_methodNamed B.named
  have hlocks := B.notSynchronized
  subst hsz
  have hD := hD0.self (sz := s.heap.size)
  generalize hAe : va_A [oz_oD h tx n q rd, oz_oB cB tx 256 fT, oz_oB cB rd r fR, oz_oO q t b i k, oz_oB cB t 4 fM, oz_oB cB b 2048 fW] s.heap.size = A at hD ⊢
  have hA : ∀ q9 : Nat, s.heap.size ≤ q9 → A q9 := fun q9 h => by rw [← hAe]; exact Or.inr h
  have hS : va_S A s.heap s.heap [] := va_S.rf
  have hP : va_P G vwCl [oz_oD h tx n q rd, oz_oB cB tx 256 fT, oz_oB cB rd r fR, oz_oO q t b i k, oz_oB cB t 4 fM, oz_oB cB b 2048 fW] s.heap := hP
  have hl := lv_entry ([.ref h]) (n := 1) (Nat.le_of_ble_eq_true rfl)
  rw [lg_entry_eq]
  generalize (lg_sl ([.ref h]) ++ List.replicate (1 - (lg_sl ([.ref h])).length) Slot.unset).toArray = ls at hl ⊢
  have hl : lv_has ls 1 [(0, .ref h)] := hl
  refine lv_aload_n hx hb dX0_shortOut_0 rfl (lv_at hl 0 rfl) ?_
  refine va_get (D := G) (ci := 0) (v := .ref q) (C := RX0) (T := TX0) (N := 4) hx hb hts in_X0 hown hK hP 0 rfl rfl 2 (by decide) (hts _ q48) (fun _ h9 => h9) rfl dX0_shortOut_1 ?_
  refine oz_kc_i (nA := 0) (As := []) (rest := []) (wr := [oz_oD h tx n q rd, oz_oB cB tx 256 fT, oz_oB cB rd r fR]) (w3 := fun (u : Unit) => [oz_oD h tx n q rd, oz_oB cB tx 256 fT, oz_oB cB rd r fR, oz_oO q t b i k, oz_oB cB t 4 fM, oz_oB cB b 2048 fW]) (C := RX1) hx hb hml hown hts hK hP hD hS hA (mt_X1_getLength l G cB cI s.heap.size q t b i k fM fW hk) (lw_V q145 q146 q147 q13 q148) rfl rfl (by decide +kernel) rfl ⟨Nat.le_of_ble_eq_true rfl, Nat.le_of_ble_eq_true rfl⟩ [3, 4, 5] [0, 1, 2] rfl rfl rfl rfl (by decide) 0 rfl rfl rfl hl.1 (Nat.le_of_ble_eq_true rfl) dX0_shortOut_4 ⟨Nat.le_of_ble_eq_true rfl, Nat.le_of_ble_eq_true rfl⟩ (fun _ => rfl) (fun _ H locs hP hD hS => ?_)
  have hP : va_P G vwCl [oz_oD h tx n q rd, oz_oB cB tx 256 fT, oz_oB cB rd r fR, oz_oO q t b i k, oz_oB cB t 4 fM, oz_oB cB b 2048 fW] H := hP
  have hD : va_D A [oz_oD h tx n q rd, oz_oB cB tx 256 fT, oz_oB cB rd r fR, oz_oO q t b i k, oz_oB cB t 4 fM, oz_oB cB b 2048 fW] := hD
  refine lv_iconst (v := nI 2) hx hb dX0_shortOut_7 (by decide) ?_
  refine oz_kj_ge hx hb (by omega) (by decide) (tgt := 15) dX0_shortOut_8 (by decide) (fun h1 => ?_) (fun h1 => ?_)
  · refine lv_aload_n hx hb dX0_shortOut_15 rfl (lv_at hl 0 rfl) ?_
    refine va_get (D := G) (ci := 0) (v := .ref q) (C := RX0) (T := TX0) (N := 4) hx hb hts in_X0 hown hK hP 0 rfl rfl 2 (by decide) (hts _ q48) (fun _ h9 => h9) rfl dX0_shortOut_16 ?_
    refine oz_kc_i (nA := 0) (As := []) (rest := []) (wr := [oz_oD h tx n q rd, oz_oB cB tx 256 fT, oz_oB cB rd r fR]) (w3 := fun (u : Unit) => [oz_oD h tx n q rd, oz_oB cB tx 256 fT, oz_oB cB rd r fR, oz_oO q t b i (k + 2), oz_oB cB t 4 fM, oz_oB cB b 2048 fW]) (C := RX1) hx hb hml hown hts hK hP hD hS hA (mt_X1_getShort l G cB cI H.size q t b i k fM fW (by omega)) (lw_V q161 q162 q163 q13 q164) rfl rfl (by decide +kernel) rfl ⟨Nat.le_of_ble_eq_true rfl, Nat.le_of_ble_eq_true rfl⟩ [3, 4, 5] [0, 1, 2] rfl rfl rfl rfl (by decide) 0 rfl rfl rfl hl.1 (Nat.le_of_ble_eq_true rfl) dX0_shortOut_19 ⟨Nat.le_of_ble_eq_true rfl, Nat.le_of_ble_eq_true rfl⟩ (fun _ => rfl) (fun _ H locs hP hD hS => ?_)
    have hP : va_P G vwCl [oz_oD h tx n q rd, oz_oB cB tx 256 fT, oz_oB cB rd r fR, oz_oO q t b i (k + 2), oz_oB cB t 4 fM, oz_oB cB b 2048 fW] H := hP
    have hD : va_D A [oz_oD h tx n q rd, oz_oB cB tx 256 fT, oz_oB cB rd r fR, oz_oO q t b i (k + 2), oz_oB cB t 4 fM, oz_oB cB b 2048 fW] := hD
    refine lv_ldc hx hb hown (hts _ q167) dX0_shortOut_22 ?_
    refine lv_iand hx hb dX0_shortOut_24 ?_
    refine oz_ktop (y := nI (oz_be fW k 2)) (oz_and_16 (oz_be2_lt fW k)) ?_
    have hc : k + 2 ≤ i := by omega
    have ew : ([oz_oD h tx n q rd, oz_oB cB tx 256 fT, oz_oB cB rd r fR, oz_oO q t b i (k + 2), oz_oB cB t 4 fM, oz_oB cB b 2048 fW] : va_W) = [oz_oD h tx n q rd, oz_oB cB tx 256 fT, oz_oB cB rd r fR, oz_oO q t b i (if k + 2 ≤ i then k + 2 else k), oz_oB cB t 4 fM, oz_oB cB b 2048 fW] := by simp only [if_pos hc]
    rw [ew] at hP hD
    exact W.iret (v := nI (oz_be fW k 2)) hx hb hr (fun t9 ht hW => ⟨⟨_, (), rfl, (if_pos hc).symm, by rw [ht]; exact hP, va_K.moved hW.alike hK, hD⟩, hS.F ht⟩) hS.2.2 dX0_shortOut_25
  · refine lv_iconst (v := (-1)) hx hb dX0_shortOut_11 (by decide) ?_
    refine lv_goto (tgt := 25) hx hb dX0_shortOut_12 (by decide) ?_
    have hc : ¬ (k + 2 ≤ i) := by omega
    have ew : ([oz_oD h tx n q rd, oz_oB cB tx 256 fT, oz_oB cB rd r fR, oz_oO q t b i k, oz_oB cB t 4 fM, oz_oB cB b 2048 fW] : va_W) = [oz_oD h tx n q rd, oz_oB cB tx 256 fT, oz_oB cB rd r fR, oz_oO q t b i (if k + 2 ≤ i then k + 2 else k), oz_oB cB t 4 fM, oz_oB cB b 2048 fW] := by simp only [if_neg hc]
    rw [ew] at hP hD
    exact W.iret (v := (-1)) hx hb hr (fun t9 ht hW => ⟨⟨_, (), rfl, (if_neg hc).symm, by rw [ht]; exact hP, va_K.moved hW.alike hK, hD⟩, hS.F ht⟩) hS.2.2 dX0_shortOut_25

/-- intOut -/
abbrev rm_X0_intOut : Room := ({ frames := 2, cells := 0, slots := 0, locals := 44 } : Room)
set_option maxHeartbeats 4000000 in
set_option maxRecDepth 100000 in
theorem mt_X0_intOut (l : Launch) (G : va_G) (cB cI : ClassId) (sz : Nat) (h tx rd q t b n r i k : Nat) (fM fT fW fR : Nat → oz_By) (hn : n ≤ 256) (hr0 : r ≤ 2048) (hi : i ≤ 2048) (hk : k ≤ i) : Met l yX0_intOut (ws_ yX0_intOut cX0_intOut 1 (some .long)) rm_X0_intOut (va_Pc [.ref h] (oz_pw G cB cI sz [oz_oD h tx n q rd, oz_oB cB tx 256 fT, oz_oB cB rd r fR, oz_oO q t b i k, oz_oB cB t 4 fM, oz_oB cB b 2048 fW])) (va_Ql (fun (x9 : Int64) (_ : Unit) => x9 = (if k + 4 ≤ i then lN (oz_be fW k 4) else (-1 : Int64))) (fun (u : Unit) => oz_qw G cB cI (va_A [oz_oD h tx n q rd, oz_oB cB tx 256 fT, oz_oB cB rd r fR, oz_oO q t b i k, oz_oB cB t 4 fM, oz_oB cB b 2048 fW] sz) [oz_oD h tx n q rd, oz_oB cB tx 256 fT, oz_oB cB rd r fR, oz_oO q t b i (if k + 4 ≤ i then k + 4 else k), oz_oB cB t 4 fM, oz_oB cB b 2048 fW]) (va_A [oz_oD h tx n q rd, oz_oB cB tx 256 fT, oz_oB cB rd r fR, oz_oO q t b i k, oz_oB cB t 4 fM, oz_oB cB b 2048 fW] sz)) 0 0 (va_A [oz_oD h tx n q rd, oz_oB cB tx 256 fT, oz_oB cB rd r fR, oz_oO q t b i k, oz_oB cB t 4 fM, oz_oB cB b 2048 fW] sz) := by
  refine Met.ofW (cc := cX0_intOut) (maxL := 1) (ret := (some .long)) (by decide) rfl ?_
  intro p e s m args below meth c s₁ B hml hv
  obtain ⟨rfl, hsz, hP, hK, hD0⟩ := hv
  have hx := B.exec
  have hb := B.bytes
  have hr := B.returns
  have hts := atoms_spec (ws := (ws_ yX0_intOut cX0_intOut 1 (some .long))) B.pre
  have hts : ∀ w ∈ lw_all, w.before _ s = true := fun w h => hts w (List.mem_cons_of_mem _ h)
  have hown : s.vm.findClass RX0 = some m.cls := findClass_of_methodNamed B.named
  have hlocks := B.notSynchronized
  subst hsz
  have hD := hD0.self (sz := s.heap.size)
  generalize hAe : va_A [oz_oD h tx n q rd, oz_oB cB tx 256 fT, oz_oB cB rd r fR, oz_oO q t b i k, oz_oB cB t 4 fM, oz_oB cB b 2048 fW] s.heap.size = A at hD ⊢
  have hA : ∀ q9 : Nat, s.heap.size ≤ q9 → A q9 := fun q9 h => by rw [← hAe]; exact Or.inr h
  have hS : va_S A s.heap s.heap [] := va_S.rf
  have hP : va_P G vwCl [oz_oD h tx n q rd, oz_oB cB tx 256 fT, oz_oB cB rd r fR, oz_oO q t b i k, oz_oB cB t 4 fM, oz_oB cB b 2048 fW] s.heap := hP
  have hl := lv_entry ([.ref h]) (n := 1) (Nat.le_of_ble_eq_true rfl)
  rw [lg_entry_eq]
  generalize (lg_sl ([.ref h]) ++ List.replicate (1 - (lg_sl ([.ref h])).length) Slot.unset).toArray = ls at hl ⊢
  have hl : lv_has ls 1 [(0, .ref h)] := hl
  refine lv_aload_n hx hb dX0_intOut_0 rfl (lv_at hl 0 rfl) ?_
  refine va_get (D := G) (ci := 0) (v := .ref q) (C := RX0) (T := TX0) (N := 4) hx hb hts in_X0 hown hK hP 0 rfl rfl 2 (by decide) (hts _ q48) (fun _ h9 => h9) rfl dX0_intOut_1 ?_
  refine oz_kc_i (nA := 0) (As := []) (rest := []) (wr := [oz_oD h tx n q rd, oz_oB cB tx 256 fT, oz_oB cB rd r fR]) (w3 := fun (u : Unit) => [oz_oD h tx n q rd, oz_oB cB tx 256 fT, oz_oB cB rd r fR, oz_oO q t b i k, oz_oB cB t 4 fM, oz_oB cB b 2048 fW]) (C := RX1) hx hb hml hown hts hK hP hD hS hA (mt_X1_getLength l G cB cI s.heap.size q t b i k fM fW hk) (lw_V q145 q146 q147 q13 q148) rfl rfl (by decide +kernel) rfl ⟨Nat.le_of_ble_eq_true rfl, Nat.le_of_ble_eq_true rfl⟩ [3, 4, 5] [0, 1, 2] rfl rfl rfl rfl (by decide) 0 rfl rfl rfl hl.1 (Nat.le_of_ble_eq_true rfl) dX0_intOut_4 ⟨Nat.le_of_ble_eq_true rfl, Nat.le_of_ble_eq_true rfl⟩ (fun _ => rfl) (fun _ H locs hP hD hS => ?_)
  have hP : va_P G vwCl [oz_oD h tx n q rd, oz_oB cB tx 256 fT, oz_oB cB rd r fR, oz_oO q t b i k, oz_oB cB t 4 fM, oz_oB cB b 2048 fW] H := hP
  have hD : va_D A [oz_oD h tx n q rd, oz_oB cB tx 256 fT, oz_oB cB rd r fR, oz_oO q t b i k, oz_oB cB t 4 fM, oz_oB cB b 2048 fW] := hD
  refine lv_iconst (v := nI 4) hx hb dX0_intOut_7 (by decide) ?_
  refine oz_kj_ge hx hb (by omega) (by decide) (tgt := 17) dX0_intOut_8 (by decide) (fun h1 => ?_) (fun h1 => ?_)
  · refine lv_aload_n hx hb dX0_intOut_17 rfl (lv_at hl 0 rfl) ?_
    refine va_get (D := G) (ci := 0) (v := .ref q) (C := RX0) (T := TX0) (N := 4) hx hb hts in_X0 hown hK hP 0 rfl rfl 2 (by decide) (hts _ q48) (fun _ h9 => h9) rfl dX0_intOut_18 ?_
    refine oz_kc_l (nA := 0) (As := []) (rest := []) (wr := [oz_oD h tx n q rd, oz_oB cB tx 256 fT, oz_oB cB rd r fR]) (w3 := fun (u : Unit) => [oz_oD h tx n q rd, oz_oB cB tx 256 fT, oz_oB cB rd r fR, oz_oO q t b i (k + 4), oz_oB cB t 4 fM, oz_oB cB b 2048 fW]) (C := RX1) hx hb hml hown hts hK hP hD hS hA (mt_X1_getUInt l G cB cI H.size q t b i k fM fW (by omega)) (lw_V q173 q174 q175 q13 q176) rfl rfl (by decide +kernel) rfl ⟨Nat.le_of_ble_eq_true rfl, Nat.le_of_ble_eq_true rfl⟩ [3, 4, 5] [0, 1, 2] rfl rfl rfl rfl (by decide) 0 rfl rfl rfl hl.1 (Nat.le_of_ble_eq_true rfl) dX0_intOut_21 ⟨Nat.le_of_ble_eq_true rfl, Nat.le_of_ble_eq_true rfl⟩ (fun _ => rfl) (fun _ H locs hP hD hS => ?_)
    have hP : va_P G vwCl [oz_oD h tx n q rd, oz_oB cB tx 256 fT, oz_oB cB rd r fR, oz_oO q t b i (k + 4), oz_oB cB t 4 fM, oz_oB cB b 2048 fW] H := hP
    have hD : va_D A [oz_oD h tx n q rd, oz_oB cB tx 256 fT, oz_oB cB rd r fR, oz_oO q t b i (k + 4), oz_oB cB t 4 fM, oz_oB cB b 2048 fW] := hD
    have hc : k + 4 ≤ i := by omega
    have ew : ([oz_oD h tx n q rd, oz_oB cB tx 256 fT, oz_oB cB rd r fR, oz_oO q t b i (k + 4), oz_oB cB t 4 fM, oz_oB cB b 2048 fW] : va_W) = [oz_oD h tx n q rd, oz_oB cB tx 256 fT, oz_oB cB rd r fR, oz_oO q t b i (if k + 4 ≤ i then k + 4 else k), oz_oB cB t 4 fM, oz_oB cB b 2048 fW] := by simp only [if_pos hc]
    rw [ew] at hP hD
    exact W.lret (v := lN (oz_be fW k 4)) hx hb hr (fun t9 ht hW => ⟨⟨_, (), rfl, (if_pos hc).symm, by rw [ht]; exact hP, va_K.moved hW.alike hK, hD⟩, hS.F ht⟩) hS.2.2 dX0_intOut_24
  · refine lv_ldc2 hx hb hown (hts _ q172) dX0_intOut_11 ?_
    refine lv_goto (tgt := 24) hx hb dX0_intOut_14 (by decide) ?_
    have hc : ¬ (k + 4 ≤ i) := by omega
    have ew : ([oz_oD h tx n q rd, oz_oB cB tx 256 fT, oz_oB cB rd r fR, oz_oO q t b i k, oz_oB cB t 4 fM, oz_oB cB b 2048 fW] : va_W) = [oz_oD h tx n q rd, oz_oB cB tx 256 fT, oz_oB cB rd r fR, oz_oO q t b i (if k + 4 ≤ i then k + 4 else k), oz_oB cB t 4 fM, oz_oB cB b 2048 fW] := by simp only [if_neg hc]
    rw [ew] at hP hD
    exact W.lret (v := (-1)) hx hb hr (fun t9 ht hW => ⟨⟨_, (), rfl, (if_neg hc).symm, by rw [ht]; exact hP, va_K.moved hW.alike hK, hD⟩, hS.F ht⟩) hS.2.2 dX0_intOut_24

/-- longOut -/
abbrev rm_X0_longOut : Room := ({ frames := 4, cells := 0, slots := 0, locals := 84 } : Room)
set_option maxHeartbeats 4000000 in
set_option maxRecDepth 100000 in
theorem mt_X0_longOut (l : Launch) (G : va_G) (cB cI : ClassId) (sz : Nat) (h tx rd q t b n r i k : Nat) (fM fT fW fR : Nat → oz_By) (hn : n ≤ 256) (hr0 : r ≤ 2048) (hi : i ≤ 2048) (hk : k ≤ i) : Met l yX0_longOut (ws_ yX0_longOut cX0_longOut 1 (some .long)) rm_X0_longOut (va_Pc [.ref h] (oz_pw G cB cI sz [oz_oD h tx n q rd, oz_oB cB tx 256 fT, oz_oB cB rd r fR, oz_oO q t b i k, oz_oB cB t 4 fM, oz_oB cB b 2048 fW])) (va_Ql (fun (x9 : Int64) (_ : Unit) => x9 = (if k + 8 ≤ i then lN (oz_be fW k 8) else (-1 : Int64))) (fun (u : Unit) => oz_qw G cB cI (va_A [oz_oD h tx n q rd, oz_oB cB tx 256 fT, oz_oB cB rd r fR, oz_oO q t b i k, oz_oB cB t 4 fM, oz_oB cB b 2048 fW] sz) [oz_oD h tx n q rd, oz_oB cB tx 256 fT, oz_oB cB rd r fR, oz_oO q t b i (if k + 8 ≤ i then k + 8 else k), oz_oB cB t 4 fM, oz_oB cB b 2048 fW]) (va_A [oz_oD h tx n q rd, oz_oB cB tx 256 fT, oz_oB cB rd r fR, oz_oO q t b i k, oz_oB cB t 4 fM, oz_oB cB b 2048 fW] sz)) 0 0 (va_A [oz_oD h tx n q rd, oz_oB cB tx 256 fT, oz_oB cB rd r fR, oz_oO q t b i k, oz_oB cB t 4 fM, oz_oB cB b 2048 fW] sz) := by
  refine Met.ofW (cc := cX0_longOut) (maxL := 1) (ret := (some .long)) (by decide) rfl ?_
  intro p e s m args below meth c s₁ B hml hv
  obtain ⟨rfl, hsz, hP, hK, hD0⟩ := hv
  have hx := B.exec
  have hb := B.bytes
  have hr := B.returns
  have hts := atoms_spec (ws := (ws_ yX0_longOut cX0_longOut 1 (some .long))) B.pre
  have hts : ∀ w ∈ lw_all, w.before _ s = true := fun w h => hts w (List.mem_cons_of_mem _ h)
  have hown : s.vm.findClass RX0 = some m.cls := findClass_of_methodNamed B.named
  have hlocks := B.notSynchronized
  subst hsz
  have hD := hD0.self (sz := s.heap.size)
  generalize hAe : va_A [oz_oD h tx n q rd, oz_oB cB tx 256 fT, oz_oB cB rd r fR, oz_oO q t b i k, oz_oB cB t 4 fM, oz_oB cB b 2048 fW] s.heap.size = A at hD ⊢
  have hA : ∀ q9 : Nat, s.heap.size ≤ q9 → A q9 := fun q9 h => by rw [← hAe]; exact Or.inr h
  have hS : va_S A s.heap s.heap [] := va_S.rf
  have hP : va_P G vwCl [oz_oD h tx n q rd, oz_oB cB tx 256 fT, oz_oB cB rd r fR, oz_oO q t b i k, oz_oB cB t 4 fM, oz_oB cB b 2048 fW] s.heap := hP
  have hl := lv_entry ([.ref h]) (n := 1) (Nat.le_of_ble_eq_true rfl)
  rw [lg_entry_eq]
  generalize (lg_sl ([.ref h]) ++ List.replicate (1 - (lg_sl ([.ref h])).length) Slot.unset).toArray = ls at hl ⊢
  have hl : lv_has ls 1 [(0, .ref h)] := hl
  refine lv_aload_n hx hb dX0_longOut_0 rfl (lv_at hl 0 rfl) ?_
  refine va_get (D := G) (ci := 0) (v := .ref q) (C := RX0) (T := TX0) (N := 4) hx hb hts in_X0 hown hK hP 0 rfl rfl 2 (by decide) (hts _ q48) (fun _ h9 => h9) rfl dX0_longOut_1 ?_
  refine oz_kc_i (nA := 0) (As := []) (rest := []) (wr := [oz_oD h tx n q rd, oz_oB cB tx 256 fT, oz_oB cB rd r fR]) (w3 := fun (u : Unit) => [oz_oD h tx n q rd, oz_oB cB tx 256 fT, oz_oB cB rd r fR, oz_oO q t b i k, oz_oB cB t 4 fM, oz_oB cB b 2048 fW]) (C := RX1) hx hb hml hown hts hK hP hD hS hA (mt_X1_getLength l G cB cI s.heap.size q t b i k fM fW hk) (lw_V q145 q146 q147 q13 q148) rfl rfl (by decide +kernel) rfl ⟨Nat.le_of_ble_eq_true rfl, Nat.le_of_ble_eq_true rfl⟩ [3, 4, 5] [0, 1, 2] rfl rfl rfl rfl (by decide) 0 rfl rfl rfl hl.1 (Nat.le_of_ble_eq_true rfl) dX0_longOut_4 ⟨Nat.le_of_ble_eq_true rfl, Nat.le_of_ble_eq_true rfl⟩ (fun _ => rfl) (fun _ H locs hP hD hS => ?_)
  have hP : va_P G vwCl [oz_oD h tx n q rd, oz_oB cB tx 256 fT, oz_oB cB rd r fR, oz_oO q t b i k, oz_oB cB t 4 fM, oz_oB cB b 2048 fW] H := hP
  have hD : va_D A [oz_oD h tx n q rd, oz_oB cB tx 256 fT, oz_oB cB rd r fR, oz_oO q t b i k, oz_oB cB t 4 fM, oz_oB cB b 2048 fW] := hD
  refine lv_bipush (v := nI 8) hx hb dX0_longOut_7 (by decide) ?_
  refine oz_kj_ge hx hb (by omega) (by decide) (tgt := 18) dX0_longOut_9 (by decide) (fun h1 => ?_) (fun h1 => ?_)
  · refine lv_aload_n hx hb dX0_longOut_18 rfl (lv_at hl 0 rfl) ?_
    refine va_get (D := G) (ci := 0) (v := .ref q) (C := RX0) (T := TX0) (N := 4) hx hb hts in_X0 hown hK hP 0 rfl rfl 2 (by decide) (hts _ q48) (fun _ h9 => h9) rfl dX0_longOut_19 ?_
    refine oz_kc_l (nA := 0) (As := []) (rest := []) (wr := [oz_oD h tx n q rd, oz_oB cB tx 256 fT, oz_oB cB rd r fR]) (w3 := fun (u : Unit) => [oz_oD h tx n q rd, oz_oB cB tx 256 fT, oz_oB cB rd r fR, oz_oO q t b i (k + 8), oz_oB cB t 4 fM, oz_oB cB b 2048 fW]) (C := RX1) hx hb hml hown hts hK hP hD hS hA (mt_X1_getLong l G cB cI H.size q t b i k fM fW (by omega)) (lw_V q184 q185 q186 q13 q187) rfl rfl (by decide +kernel) rfl ⟨Nat.le_of_ble_eq_true rfl, Nat.le_of_ble_eq_true rfl⟩ [3, 4, 5] [0, 1, 2] rfl rfl rfl rfl (by decide) 0 rfl rfl rfl hl.1 (Nat.le_of_ble_eq_true rfl) dX0_longOut_22 ⟨Nat.le_of_ble_eq_true rfl, Nat.le_of_ble_eq_true rfl⟩ (fun _ => rfl) (fun _ H locs hP hD hS => ?_)
    have hP : va_P G vwCl [oz_oD h tx n q rd, oz_oB cB tx 256 fT, oz_oB cB rd r fR, oz_oO q t b i (k + 8), oz_oB cB t 4 fM, oz_oB cB b 2048 fW] H := hP
    have hD : va_D A [oz_oD h tx n q rd, oz_oB cB tx 256 fT, oz_oB cB rd r fR, oz_oO q t b i (k + 8), oz_oB cB t 4 fM, oz_oB cB b 2048 fW] := hD
    have hc : k + 8 ≤ i := by omega
    have ew : ([oz_oD h tx n q rd, oz_oB cB tx 256 fT, oz_oB cB rd r fR, oz_oO q t b i (k + 8), oz_oB cB t 4 fM, oz_oB cB b 2048 fW] : va_W) = [oz_oD h tx n q rd, oz_oB cB tx 256 fT, oz_oB cB rd r fR, oz_oO q t b i (if k + 8 ≤ i then k + 8 else k), oz_oB cB t 4 fM, oz_oB cB b 2048 fW] := by simp only [if_pos hc]
    rw [ew] at hP hD
    exact W.lret (v := lN (oz_be fW k 8)) hx hb hr (fun t9 ht hW => ⟨⟨_, (), rfl, (if_pos hc).symm, by rw [ht]; exact hP, va_K.moved hW.alike hK, hD⟩, hS.F ht⟩) hS.2.2 dX0_longOut_25
  · refine lv_ldc2 hx hb hown (hts _ q172) dX0_longOut_12 ?_
    refine lv_goto (tgt := 25) hx hb dX0_longOut_15 (by decide) ?_
    have hc : ¬ (k + 8 ≤ i) := by omega
    have ew : ([oz_oD h tx n q rd, oz_oB cB tx 256 fT, oz_oB cB rd r fR, oz_oO q t b i k, oz_oB cB t 4 fM, oz_oB cB b 2048 fW] : va_W) = [oz_oD h tx n q rd, oz_oB cB tx 256 fT, oz_oB cB rd r fR, oz_oO q t b i (if k + 8 ≤ i then k + 8 else k), oz_oB cB t 4 fM, oz_oB cB b 2048 fW] := by simp only [if_neg hc]
    rw [ew] at hP hD
    exact W.lret (v := (-1)) hx hb hr (fun t9 ht hW => ⟨⟨_, (), rfl, (if_neg hc).symm, by rw [ht]; exact hP, va_K.moved hW.alike hK, hD⟩, hS.F ht⟩) hS.2.2 dX0_longOut_25

/-- next: how long the string is that stands next, -1 if none -/
abbrev rm_X0_next : Room := ({ frames := 1, cells := 0, slots := 0, locals := 20 } : Room)
set_option maxHeartbeats 4000000 in
set_option maxRecDepth 100000 in
theorem mt_X0_next (l : Launch) (G : va_G) (cB cI : ClassId) (sz : Nat) (h tx rd q t b n r i k : Nat) (fM fT fW fR : Nat → oz_By) (hn : n ≤ 256) (hr0 : r ≤ 2048) (hi : i ≤ 2048) (hk : k ≤ i) : Met l yX0_next (ws_ yX0_next cX0_next 4 (some .int)) rm_X0_next (va_Pc [.ref h] (oz_pw G cB cI sz [oz_oD h tx n q rd, oz_oB cB tx 256 fT, oz_oB cB rd r fR, oz_oO q t b i k, oz_oB cB t 4 fM, oz_oB cB b 2048 fW])) (va_Qi (fun (x9 : Int32) (_ : Unit) => x9 = (if k + 4 ≤ i ∧ oz_be fW k 4 ≤ i - k - 4 then nI (oz_be fW k 4) else (-1 : Int32))) (fun (u : Unit) => oz_qw G cB cI (va_A [oz_oD h tx n q rd, oz_oB cB tx 256 fT, oz_oB cB rd r fR, oz_oO q t b i k, oz_oB cB t 4 fM, oz_oB cB b 2048 fW] sz) [oz_oD h tx n q rd, oz_oB cB tx 256 fT, oz_oB cB rd r fR, oz_oO q t b i k, oz_oB cB t 4 fM, oz_oB cB b 2048 fW]) (va_A [oz_oD h tx n q rd, oz_oB cB tx 256 fT, oz_oB cB rd r fR, oz_oO q t b i k, oz_oB cB t 4 fM, oz_oB cB b 2048 fW] sz)) 0 0 (va_A [oz_oD h tx n q rd, oz_oB cB tx 256 fT, oz_oB cB rd r fR, oz_oO q t b i k, oz_oB cB t 4 fM, oz_oB cB b 2048 fW] sz) := by
  refine Met.ofW (cc := cX0_next) (maxL := 4) (ret := (some .int)) (by decide) rfl ?_
  intro p e s m args below meth c s₁ B hml hv
  obtain ⟨rfl, hsz, hP, hK, hD0⟩ := hv
  have hx := B.exec
  have hb := B.bytes
  have hr := B.returns
  have hts := atoms_spec (ws := (ws_ yX0_next cX0_next 4 (some .int))) B.pre
  have hts : ∀ w ∈ lw_all, w.before _ s = true := fun w h => hts w (List.mem_cons_of_mem _ h)
  have hown : s.vm.findClass RX0 = some m.cls := findClass_of_methodNamed B.named
  have hlocks := B.notSynchronized
  subst hsz
  have hD := hD0.self (sz := s.heap.size)
  generalize hAe : va_A [oz_oD h tx n q rd, oz_oB cB tx 256 fT, oz_oB cB rd r fR, oz_oO q t b i k, oz_oB cB t 4 fM, oz_oB cB b 2048 fW] s.heap.size = A at hD ⊢
  have hA : ∀ q9 : Nat, s.heap.size ≤ q9 → A q9 := fun q9 h => by rw [← hAe]; exact Or.inr h
  have hS : va_S A s.heap s.heap [] := va_S.rf
  have hP : va_P G vwCl [oz_oD h tx n q rd, oz_oB cB tx 256 fT, oz_oB cB rd r fR, oz_oO q t b i k, oz_oB cB t 4 fM, oz_oB cB b 2048 fW] s.heap := hP
  have hl := lv_entry ([.ref h]) (n := 4) (Nat.le_of_ble_eq_true rfl)
  rw [lg_entry_eq]
  generalize (lg_sl ([.ref h]) ++ List.replicate (4 - (lg_sl ([.ref h])).length) Slot.unset).toArray = ls at hl ⊢
  have hl : lv_has ls 4 [(0, .ref h)] := hl
  refine lv_aload_n hx hb dX0_next_0 rfl (lv_at hl 0 rfl) ?_
  refine va_get (D := G) (ci := 0) (v := .ref q) (C := RX0) (T := TX0) (N := 4) hx hb hts in_X0 hown hK hP 0 rfl rfl 2 (by decide) (hts _ q48) (fun _ h9 => h9) rfl dX0_next_1 ?_
  refine oz_kc_i (nA := 0) (As := []) (rest := []) (wr := [oz_oD h tx n q rd, oz_oB cB tx 256 fT, oz_oB cB rd r fR]) (w3 := fun (u : Unit) => [oz_oD h tx n q rd, oz_oB cB tx 256 fT, oz_oB cB rd r fR, oz_oO q t b i k, oz_oB cB t 4 fM, oz_oB cB b 2048 fW]) (C := RX1) hx hb hml hown hts hK hP hD hS hA (mt_X1_getLength l G cB cI s.heap.size q t b i k fM fW hk) (lw_V q145 q146 q147 q13 q148) rfl rfl (by decide +kernel) rfl ⟨Nat.le_of_ble_eq_true rfl, Nat.le_of_ble_eq_true rfl⟩ [3, 4, 5] [0, 1, 2] rfl rfl rfl rfl (by decide) 0 rfl rfl rfl hl.1 (Nat.le_of_ble_eq_true rfl) dX0_next_4 ⟨Nat.le_of_ble_eq_true rfl, Nat.le_of_ble_eq_true rfl⟩ (fun _ => rfl) (fun _ H locs hP hD hS => ?_)
  have hP : va_P G vwCl [oz_oD h tx n q rd, oz_oB cB tx 256 fT, oz_oB cB rd r fR, oz_oO q t b i k, oz_oB cB t 4 fM, oz_oB cB b 2048 fW] H := hP
  have hD : va_D A [oz_oD h tx n q rd, oz_oB cB tx 256 fT, oz_oB cB rd r fR, oz_oO q t b i k, oz_oB cB t 4 fM, oz_oB cB b 2048 fW] := hD
  refine lv_iconst (v := nI 4) hx hb dX0_next_7 (by decide) ?_
  refine oz_kj_ge hx hb (by omega) (by decide) (tgt := 13) dX0_next_8 (by decide) (fun h1 => ?_) (fun h1 => ?_)
  · have g0 := oz_by_lt (fW k)
    have g1 := oz_by_lt (fW (k + 1))
    have g2 := oz_by_lt (fW (k + 2))
    have g3 := oz_by_lt (fW (k + 3))
    have h9 := oz_be_4x fW k
    refine lv_aload_n hx hb dX0_next_13 rfl (lv_at hl 0 rfl) ?_
    refine va_get (D := G) (ci := 0) (v := .ref q) (C := RX0) (T := TX0) (N := 4) hx hb hts in_X0 hown hK hP 0 rfl rfl 2 (by decide) (hts _ q48) (fun _ h9 => h9) rfl dX0_next_14 ?_
    refine oz_kc_i (nA := 0) (As := []) (rest := []) (wr := [oz_oD h tx n q rd, oz_oB cB tx 256 fT, oz_oB cB rd r fR]) (w3 := fun (u : Unit) => [oz_oD h tx n q rd, oz_oB cB tx 256 fT, oz_oB cB rd r fR, oz_oO q t b i k, oz_oB cB t 4 fM, oz_oB cB b 2048 fW]) (C := RX1) hx hb hml hown hts hK hP hD hS hA (mt_X1_getOffSet l G cB cI H.size q t b i k fM fW) (lw_V q204 q205 q206 q13 q207) rfl rfl (by decide +kernel) rfl ⟨Nat.le_of_ble_eq_true rfl, Nat.le_of_ble_eq_true rfl⟩ [3, 4, 5] [0, 1, 2] rfl rfl rfl rfl (by decide) 0 rfl rfl rfl hl.1 (Nat.le_of_ble_eq_true rfl) dX0_next_17 ⟨Nat.le_of_ble_eq_true rfl, Nat.le_of_ble_eq_true rfl⟩ (fun _ => rfl) (fun _ H locs hP hD hS => ?_)
    have hP : va_P G vwCl [oz_oD h tx n q rd, oz_oB cB tx 256 fT, oz_oB cB rd r fR, oz_oO q t b i k, oz_oB cB t 4 fM, oz_oB cB b 2048 fW] H := hP
    have hD : va_D A [oz_oD h tx n q rd, oz_oB cB tx 256 fT, oz_oB cB rd r fR, oz_oO q t b i k, oz_oB cB t 4 fM, oz_oB cB b 2048 fW] := hD
    refine lv_istore_n (lv' := [(1, .int (nI k)), (0, .ref h)]) hx hb dX0_next_20 rfl hl (by decide) rfl (fun ls hl => ?_)
    refine lv_aload_n hx hb dX0_next_21 rfl (lv_at hl 1 rfl) ?_
    refine va_get (D := G) (ci := 0) (v := .ref q) (C := RX0) (T := TX0) (N := 4) hx hb hts in_X0 hown hK hP 0 rfl rfl 2 (by decide) (hts _ q48) (fun _ h9 => h9) rfl dX0_next_22 ?_
    refine va_get (D := G) (ci := 1) (v := .ref b) (C := RX1) (T := TX1) (N := 4) hx hb hts in_X1 hown hK hP 3 rfl rfl 1 (by decide) (hts _ q32) (fun _ h9 => h9) rfl dX0_next_25 ?_
    refine lv_astore_n (lv' := [(2, .ref b), (1, .int (nI k)), (0, .ref h)]) hx hb dX0_next_28 rfl hl (by decide) rfl (fun ls hl => ?_)
    refine lv_aload_n hx hb dX0_next_29 rfl (lv_at hl 0 rfl) ?_
    refine lv_iload_n hx hb dX0_next_30 rfl (lv_at hl 1 rfl) ?_
    refine oz_kb_ld hx hb hK hP 5 rfl (by omega) (by decide) dX0_next_31 ?_
    refine lv_sipush (v := nI 255) hx hb dX0_next_32 (by decide) ?_
    refine lv_iand hx hb dX0_next_35 ?_
    refine oz_ktop (y := nI ((fW k).toNat)) (oz_dB_and _) ?_
    refine lv_bipush (v := nI 24) hx hb dX0_next_36 (by decide) ?_
    refine lv_ishl hx hb dX0_next_38 ?_
    refine oz_ktop (y := nI ((fW k).toNat * 16777216)) (oz_shl_N 24 (by decide) (by omega)) ?_
    refine lv_aload_n hx hb dX0_next_39 rfl (lv_at hl 0 rfl) ?_
    refine lv_iload_n hx hb dX0_next_40 rfl (lv_at hl 1 rfl) ?_
    refine lv_iconst (v := nI 1) hx hb dX0_next_41 (by decide) ?_
    refine oz_kadd hx hb dX0_next_42 ?_
    refine oz_kb_ld hx hb hK hP 5 rfl (by omega) (by decide) dX0_next_43 ?_
    refine lv_sipush (v := nI 255) hx hb dX0_next_44 (by decide) ?_
    refine lv_iand hx hb dX0_next_47 ?_
    refine oz_ktop (y := nI ((fW (k + 1)).toNat)) (oz_dB_and _) ?_
    refine lv_bipush (v := nI 16) hx hb dX0_next_48 (by decide) ?_
    refine lv_ishl hx hb dX0_next_50 ?_
    refine oz_ktop (y := nI ((fW (k + 1)).toNat * 65536)) (oz_shl_N 16 (by decide) (by omega)) ?_
    refine lv_ior hx hb dX0_next_51 ?_
    refine oz_ktop (y := nI ((fW k).toNat * 16777216 + (fW (k + 1)).toNat * 65536)) (oz_or_N 24 (by omega) (by omega)) ?_
    refine lv_aload_n hx hb dX0_next_52 rfl (lv_at hl 0 rfl) ?_
    refine lv_iload_n hx hb dX0_next_53 rfl (lv_at hl 1 rfl) ?_
    refine lv_iconst (v := nI 2) hx hb dX0_next_54 (by decide) ?_
    refine oz_kadd hx hb dX0_next_55 ?_
    refine oz_kb_ld hx hb hK hP 5 rfl (by omega) (by decide) dX0_next_56 ?_
    refine lv_sipush (v := nI 255) hx hb dX0_next_57 (by decide) ?_
    refine lv_iand hx hb dX0_next_60 ?_
    refine oz_ktop (y := nI ((fW (k + 2)).toNat)) (oz_dB_and _) ?_
    refine lv_bipush (v := nI 8) hx hb dX0_next_61 (by decide) ?_
    refine lv_ishl hx hb dX0_next_63 ?_
    refine oz_ktop (y := nI ((fW (k + 2)).toNat * 256)) (oz_shl_N 8 (by decide) (by omega)) ?_
    refine lv_ior hx hb dX0_next_64 ?_
    refine oz_ktop (y := nI ((fW k).toNat * 16777216 + (fW (k + 1)).toNat * 65536 + (fW (k + 2)).toNat * 256)) (oz_or_N 16 (by omega) (by omega)) ?_
    refine lv_aload_n hx hb dX0_next_65 rfl (lv_at hl 0 rfl) ?_
    refine lv_iload_n hx hb dX0_next_66 rfl (lv_at hl 1 rfl) ?_
    refine lv_iconst (v := nI 3) hx hb dX0_next_67 (by decide) ?_
    refine oz_kadd hx hb dX0_next_68 ?_
    refine oz_kb_ld hx hb hK hP 5 rfl (by omega) (by decide) dX0_next_69 ?_
    refine lv_sipush (v := nI 255) hx hb dX0_next_70 (by decide) ?_
    refine lv_iand hx hb dX0_next_73 ?_
    refine oz_ktop (y := nI ((fW (k + 3)).toNat)) (oz_dB_and _) ?_
    refine lv_ior hx hb dX0_next_74 ?_
    refine oz_ktop (y := nI (oz_be fW k 4)) ((oz_or_N 8 (by omega) (by omega)).trans (by rw [h9])) ?_
    refine lv_istore_n (lv' := [(3, .int (nI (oz_be fW k 4))), (2, .ref b), (1, .int (nI k)), (0, .ref h)]) hx hb dX0_next_75 rfl hl (by decide) rfl (fun ls hl => ?_)
    refine lv_iload_n hx hb dX0_next_76 rfl (lv_at hl 0 rfl) ?_
    have h8 := oz_be4_lt fW k
    refine oz_kj_lt0 hx hb (h8) (tgt := 93) dX0_next_77 (by decide) (fun h2 => ?_) (fun h2 => ?_)
    · refine lv_iconst (v := (-1)) hx hb dX0_next_93 (by decide) ?_
      refine lv_goto (tgt := 98) hx hb dX0_next_94 (by decide) ?_
      have hc : ¬ (k + 4 ≤ i ∧ oz_be fW k 4 ≤ i - k - 4) := by omega
      exact W.iret (v := (-1)) hx hb hr (fun t9 ht hW => ⟨⟨_, (), rfl, (if_neg hc).symm, by rw [ht]; exact hP, va_K.moved hW.alike hK, hD⟩, hS.F ht⟩) hS.2.2 dX0_next_98
    · refine lv_iload_n hx hb dX0_next_80 rfl (lv_at hl 0 rfl) ?_
      refine lv_aload_n hx hb dX0_next_81 rfl (lv_at hl 3 rfl) ?_
      refine va_get (D := G) (ci := 0) (v := .ref q) (C := RX0) (T := TX0) (N := 4) hx hb hts in_X0 hown hK hP 0 rfl rfl 2 (by decide) (hts _ q48) (fun _ h9 => h9) rfl dX0_next_82 ?_
      refine oz_kc_i (nA := 0) (As := []) (rest := [.int (nI (oz_be fW k 4))]) (wr := [oz_oD h tx n q rd, oz_oB cB tx 256 fT, oz_oB cB rd r fR]) (w3 := fun (u : Unit) => [oz_oD h tx n q rd, oz_oB cB tx 256 fT, oz_oB cB rd r fR, oz_oO q t b i k, oz_oB cB t 4 fM, oz_oB cB b 2048 fW]) (C := RX1) hx hb hml hown hts hK hP hD hS hA (mt_X1_getLength l G cB cI H.size q t b i k fM fW hk) (lw_V q145 q146 q147 q13 q148) rfl rfl (by decide +kernel) rfl ⟨Nat.le_of_ble_eq_true rfl, Nat.le_of_ble_eq_true rfl⟩ [3, 4, 5] [0, 1, 2] rfl rfl rfl rfl (by decide) 0 rfl rfl rfl hl.1 (Nat.le_of_ble_eq_true rfl) dX0_next_85 ⟨Nat.le_of_ble_eq_true rfl, Nat.le_of_ble_eq_true rfl⟩ (fun _ => rfl) (fun _ H locs hP hD hS => ?_)
      have hP : va_P G vwCl [oz_oD h tx n q rd, oz_oB cB tx 256 fT, oz_oB cB rd r fR, oz_oO q t b i k, oz_oB cB t 4 fM, oz_oB cB b 2048 fW] H := hP
      have hD : va_D A [oz_oD h tx n q rd, oz_oB cB tx 256 fT, oz_oB cB rd r fR, oz_oO q t b i k, oz_oB cB t 4 fM, oz_oB cB b 2048 fW] := hD
      refine lv_iconst (v := nI 4) hx hb dX0_next_88 (by decide) ?_
      refine oz_ksub hx hb (by omega) dX0_next_89 ?_
      refine oz_kj_le hx hb (by omega) (by omega) (tgt := 97) dX0_next_90 (by decide) (fun h3 => ?_) (fun h3 => ?_)
      · refine lv_iload_n hx hb dX0_next_97 rfl (lv_at hl 0 rfl) ?_
        have hc : k + 4 ≤ i ∧ oz_be fW k 4 ≤ i - k - 4 := by omega
        exact W.iret (v := nI (oz_be fW k 4)) hx hb hr (fun t9 ht hW => ⟨⟨_, (), rfl, (if_pos hc).symm, by rw [ht]; exact hP, va_K.moved hW.alike hK, hD⟩, hS.F ht⟩) hS.2.2 dX0_next_98
      · refine lv_iconst (v := (-1)) hx hb dX0_next_93 (by decide) ?_
        refine lv_goto (tgt := 98) hx hb dX0_next_94 (by decide) ?_
        have hc : ¬ (k + 4 ≤ i ∧ oz_be fW k 4 ≤ i - k - 4) := by omega
        exact W.iret (v := (-1)) hx hb hr (fun t9 ht hW => ⟨⟨_, (), rfl, (if_neg hc).symm, by rw [ht]; exact hP, va_K.moved hW.alike hK, hD⟩, hS.F ht⟩) hS.2.2 dX0_next_98
  · refine lv_iconst (v := (-1)) hx hb dX0_next_11 (by decide) ?_
    have hc : ¬ (k + 4 ≤ i ∧ oz_be fW k 4 ≤ i - k - 4) := by omega
    exact W.iret (v := (-1)) hx hb hr (fun t9 ht hW => ⟨⟨_, (), rfl, (if_neg hc).symm, by rw [ht]; exact hP, va_K.moved hW.alike hK, hD⟩, hS.F ht⟩) hS.2.2 dX0_next_12

/-- stringOut -/
abbrev rm_X0_stringOut : Room := ({ frames := 4, cells := 1, slots := 2048, locals := 84 } : Room)
set_option maxHeartbeats 4000000 in
set_option maxRecDepth 100000 in
theorem mt_X0_stringOut (l : Launch) (G : va_G) (cB cI : ClassId) (sz : Nat) (h tx rd q t b n r i k : Nat) (fM fT fW fR : Nat → oz_By) (hn : n ≤ 256) (hr0 : r ≤ 2048) (hi : i ≤ 2048) (hk : k ≤ i) : Met l yX0_stringOut (ws_ yX0_stringOut cX0_stringOut 1 (some .int)) rm_X0_stringOut (va_Pc [.ref h] (oz_pw G cB cI sz [oz_oD h tx n q rd, oz_oB cB tx 256 fT, oz_oB cB rd r fR, oz_oO q t b i k, oz_oB cB t 4 fM, oz_oB cB b 2048 fW])) (va_Qi (fun (x9 : Int32) (_ : Nat) => x9 = (if k + 4 ≤ i ∧ oz_be fW k 4 ≤ i - k - 4 then nI (oz_be fW k 4) else (-1 : Int32))) (fun (u : Nat) => oz_qw G cB cI (va_A [oz_oD h tx n q rd, oz_oB cB tx 256 fT, oz_oB cB rd r fR, oz_oO q t b i k, oz_oB cB t 4 fM, oz_oB cB b 2048 fW] sz) [oz_oD h tx n q u, oz_oB cB tx 256 fT, oz_oB cB u (if k + 4 ≤ i ∧ oz_be fW k 4 ≤ i - k - 4 then oz_be fW k 4 else r) (if k + 4 ≤ i ∧ oz_be fW k 4 ≤ i - k - 4 then oz_sl fW (k + 4) (oz_be fW k 4) else fR), oz_oO q t b i (if k + 4 ≤ i ∧ oz_be fW k 4 ≤ i - k - 4 then k + 4 + oz_be fW k 4 else k), oz_oB cB t 4 fM, oz_oB cB b 2048 fW]) (va_A [oz_oD h tx n q rd, oz_oB cB tx 256 fT, oz_oB cB rd r fR, oz_oO q t b i k, oz_oB cB t 4 fM, oz_oB cB b 2048 fW] sz)) 1 2048 (va_A [oz_oD h tx n q rd, oz_oB cB tx 256 fT, oz_oB cB rd r fR, oz_oO q t b i k, oz_oB cB t 4 fM, oz_oB cB b 2048 fW] sz) := by
  refine Met.ofW (cc := cX0_stringOut) (maxL := 1) (ret := (some .int)) (by decide) rfl ?_
  intro p e s m args below meth c s₁ B hml hv
  obtain ⟨rfl, hsz, hP, hK, hD0⟩ := hv
  have hx := B.exec
  have hb := B.bytes
  have hr := B.returns
  have hts := atoms_spec (ws := (ws_ yX0_stringOut cX0_stringOut 1 (some .int))) B.pre
  have hts : ∀ w ∈ lw_all, w.before _ s = true := fun w h => hts w (List.mem_cons_of_mem _ h)
  have hown : s.vm.findClass RX0 = some m.cls := findClass_of_methodNamed B.named
  have hlocks := B.notSynchronized
  subst hsz
  have hD := hD0.self (sz := s.heap.size)
  generalize hAe : va_A [oz_oD h tx n q rd, oz_oB cB tx 256 fT, oz_oB cB rd r fR, oz_oO q t b i k, oz_oB cB t 4 fM, oz_oB cB b 2048 fW] s.heap.size = A at hD ⊢
  have hA : ∀ q9 : Nat, s.heap.size ≤ q9 → A q9 := fun q9 h => by rw [← hAe]; exact Or.inr h
  have hS : va_S A s.heap s.heap [] := va_S.rf
  have hP : va_P G vwCl [oz_oD h tx n q rd, oz_oB cB tx 256 fT, oz_oB cB rd r fR, oz_oO q t b i k, oz_oB cB t 4 fM, oz_oB cB b 2048 fW] s.heap := hP
  have hl := lv_entry ([.ref h]) (n := 1) (Nat.le_of_ble_eq_true rfl)
  rw [lg_entry_eq]
  generalize (lg_sl ([.ref h]) ++ List.replicate (1 - (lg_sl ([.ref h])).length) Slot.unset).toArray = ls at hl ⊢
  have hl : lv_has ls 1 [(0, .ref h)] := hl
  refine lv_aload_n hx hb dX0_stringOut_0 rfl (lv_at hl 0 rfl) ?_
  refine oz_kc_i (nA := 0) (As := []) (rest := []) (wr := []) (w3 := fun (u : Unit) => [oz_oD h tx n q rd, oz_oB cB tx 256 fT, oz_oB cB rd r fR, oz_oO q t b i k, oz_oB cB t 4 fM, oz_oB cB b 2048 fW]) (C := RX0) hx hb hml hown hts hK hP hD hS hA (mt_X0_next l G cB cI s.heap.size h tx rd q t b n r i k fM fT fW fR hn hr0 hi hk) (lw_V q200 q202 qs3 q12 q203) rfl rfl (by decide +kernel) rfl ⟨Nat.le_of_ble_eq_true rfl, Nat.le_of_ble_eq_true rfl⟩ [0, 1, 2, 3, 4, 5] [] rfl rfl rfl rfl (by decide) 0 rfl rfl rfl hl.1 (Nat.le_of_ble_eq_true rfl) dX0_stringOut_1 ⟨Nat.le_of_ble_eq_true rfl, Nat.le_of_ble_eq_true rfl⟩ (fun _ => rfl) (fun _ H locs hP hD hS => ?_)
  have hP : va_P G vwCl [oz_oD h tx n q rd, oz_oB cB tx 256 fT, oz_oB cB rd r fR, oz_oO q t b i k, oz_oB cB t 4 fM, oz_oB cB b 2048 fW] H := hP
  have hD : va_D A [oz_oD h tx n q rd, oz_oB cB tx 256 fT, oz_oB cB rd r fR, oz_oO q t b i k, oz_oB cB t 4 fM, oz_oB cB b 2048 fW] := hD
  by_cases hc : k + 4 ≤ i ∧ oz_be fW k 4 ≤ i - k - 4
  · refine oz_ktop (y := nI (oz_be fW k 4)) (if_pos hc) ?_
    refine oz_kj_ge0 hx hb (by omega) (tgt := 9) dX0_stringOut_4 (by decide) ?_
    refine lv_aload_n hx hb dX0_stringOut_9 rfl (lv_at hl 0 rfl) ?_
    refine lv_aload_n hx hb dX0_stringOut_10 rfl (lv_at hl 0 rfl) ?_
    refine va_get (D := G) (ci := 0) (v := .ref q) (C := RX0) (T := TX0) (N := 4) hx hb hts in_X0 hown hK hP 0 rfl rfl 2 (by decide) (hts _ q48) (fun _ h9 => h9) rfl dX0_stringOut_11 ?_
    refine oz_kc_r (nA := 0) (As := []) (rest := [.ref h]) (wr := [oz_oD h tx n q rd, oz_oB cB tx 256 fT, oz_oB cB rd r fR]) (w3r := fun (u : Unit) (z : Nat) => [oz_oD h tx n q rd, oz_oB cB tx 256 fT, oz_oB cB rd r fR, oz_oO q t b i (k + 4 + oz_be fW k 4), oz_oB cB t 4 fM, oz_oB cB b 2048 fW, oz_oB cB z (oz_be fW k 4) (oz_sl fW (k + 4) (oz_be fW k 4))]) (C := RX1) hx hb hml hown hts hK hP hD hS hA (mt_X1_getString l G cB cI H.size q t b i k fM fW (by omega)) (lw_V q208 q209 q210 q13 q211) rfl rfl (by decide +kernel) rfl ⟨Nat.le_of_ble_eq_true rfl, Nat.le_of_ble_eq_true rfl⟩ [3, 4, 5] [0, 1, 2] rfl rfl rfl rfl (by decide) 0 rfl rfl rfl hl.1 (Nat.le_of_ble_eq_true rfl) dX0_stringOut_14 ⟨Nat.le_of_ble_eq_true rfl, Nat.le_of_ble_eq_true rfl⟩ (fun _ _ => rfl) (fun _ z H locs hP hD hS => ?_)
    have hP : va_P G vwCl [oz_oD h tx n q rd, oz_oB cB tx 256 fT, oz_oB cB rd r fR, oz_oO q t b i (k + 4 + oz_be fW k 4), oz_oB cB t 4 fM, oz_oB cB b 2048 fW, oz_oB cB z (oz_be fW k 4) (oz_sl fW (k + 4) (oz_be fW k 4))] H := hP
    have hD : va_D A [oz_oD h tx n q rd, oz_oB cB tx 256 fT, oz_oB cB rd r fR, oz_oO q t b i (k + 4 + oz_be fW k 4), oz_oB cB t 4 fM, oz_oB cB b 2048 fW, oz_oB cB z (oz_be fW k 4) (oz_sl fW (k + 4) (oz_be fW k 4))] := hD
    refine va_put (D := G) (ci := 0) (v := .ref z) (ty := .array .byte) (C := RX0) (T := TX0) (N := 4) hx hb hts in_X0 tyX0 tyX0_ok nmX0 hown hK hP hD hS 0 rfl rfl 3 (by decide) (hts _ q49) (fun _ h9 => h9) rfl (by decide +kernel) rfl rfl (Nat.le_of_ble_eq_true rfl) dX0_stringOut_17 (fun H locs hP hD hS => ?_)
    have hP : va_P G vwCl [oz_oD h tx n q z, oz_oB cB tx 256 fT, oz_oB cB rd r fR, oz_oO q t b i (k + 4 + oz_be fW k 4), oz_oB cB t 4 fM, oz_oB cB b 2048 fW, oz_oB cB z (oz_be fW k 4) (oz_sl fW (k + 4) (oz_be fW k 4))] H := hP
    have hD : va_D A [oz_oD h tx n q z, oz_oB cB tx 256 fT, oz_oB cB rd r fR, oz_oO q t b i (k + 4 + oz_be fW k 4), oz_oB cB t 4 fM, oz_oB cB b 2048 fW, oz_oB cB z (oz_be fW k 4) (oz_sl fW (k + 4) (oz_be fW k 4))] := hD
    refine lv_aload_n hx hb dX0_stringOut_20 rfl (lv_at hl 0 rfl) ?_
    refine va_get (D := G) (ci := 0) (v := .ref z) (C := RX0) (T := TX0) (N := 4) hx hb hts in_X0 hown hK hP 0 rfl rfl 3 (by decide) (hts _ q49) (fun _ h9 => h9) rfl dX0_stringOut_21 ?_
    refine va_alen (v := nI (oz_be fW k 4)) hx hb hK hP 6 0 rfl rfl rfl dX0_stringOut_24 ?_
    have hP := hP.sub (ws' := [oz_oD h tx n q z, oz_oB cB tx 256 fT, oz_oB cB z (oz_be fW k 4) (oz_sl fW (k + 4) (oz_be fW k 4)), oz_oO q t b i (k + 4 + oz_be fW k 4), oz_oB cB t 4 fM, oz_oB cB b 2048 fW]) [0, 1, 6, 3, 4, 5] rfl
    have hD := hD.sub (ws' := [oz_oD h tx n q z, oz_oB cB tx 256 fT, oz_oB cB z (oz_be fW k 4) (oz_sl fW (k + 4) (oz_be fW k 4)), oz_oO q t b i (k + 4 + oz_be fW k 4), oz_oB cB t 4 fM, oz_oB cB b 2048 fW]) [0, 1, 6, 3, 4, 5] (by decide) rfl
    have ew : ([oz_oD h tx n q z, oz_oB cB tx 256 fT, oz_oB cB z (oz_be fW k 4) (oz_sl fW (k + 4) (oz_be fW k 4)), oz_oO q t b i (k + 4 + oz_be fW k 4), oz_oB cB t 4 fM, oz_oB cB b 2048 fW] : va_W) = [oz_oD h tx n q z, oz_oB cB tx 256 fT, oz_oB cB z (if k + 4 ≤ i ∧ oz_be fW k 4 ≤ i - k - 4 then oz_be fW k 4 else r) (if k + 4 ≤ i ∧ oz_be fW k 4 ≤ i - k - 4 then oz_sl fW (k + 4) (oz_be fW k 4) else fR), oz_oO q t b i (if k + 4 ≤ i ∧ oz_be fW k 4 ≤ i - k - 4 then k + 4 + oz_be fW k 4 else k), oz_oB cB t 4 fM, oz_oB cB b 2048 fW] := by simp only [if_pos hc]
    rw [ew] at hP hD
    exact W.iret (v := nI (oz_be fW k 4)) hx hb hr (fun t9 ht hW => ⟨⟨_, z, rfl, (if_pos hc).symm, by rw [ht]; exact hP, va_K.moved hW.alike hK, hD⟩, hS.F ht⟩) hS.2.2 dX0_stringOut_25
  · refine oz_ktop (y := (-1)) (if_neg hc) ?_
    refine lv_if_ge (tgt := 9) hx hb dX0_stringOut_4 (by decide) (fun h1 => absurd h1 (by decide)) (fun _ => ?_)
    refine lv_iconst (v := (-1)) hx hb dX0_stringOut_7 (by decide) ?_
    refine W.widen (k := 1) (n := 2048) (Nat.le_of_ble_eq_true rfl) (Nat.le_of_ble_eq_true rfl) ?_
    have ew : ([oz_oD h tx n q rd, oz_oB cB tx 256 fT, oz_oB cB rd r fR, oz_oO q t b i k, oz_oB cB t 4 fM, oz_oB cB b 2048 fW] : va_W) = [oz_oD h tx n q rd, oz_oB cB tx 256 fT, oz_oB cB rd (if k + 4 ≤ i ∧ oz_be fW k 4 ≤ i - k - 4 then oz_be fW k 4 else r) (if k + 4 ≤ i ∧ oz_be fW k 4 ≤ i - k - 4 then oz_sl fW (k + 4) (oz_be fW k 4) else fR), oz_oO q t b i (if k + 4 ≤ i ∧ oz_be fW k 4 ≤ i - k - 4 then k + 4 + oz_be fW k 4 else k), oz_oB cB t 4 fM, oz_oB cB b 2048 fW] := by simp only [if_neg hc]
    rw [ew] at hP hD
    exact W.iret (v := (-1)) hx hb hr (fun t9 ht hW => ⟨⟨_, rd, rfl, (if_neg hc).symm, by rw [ht]; exact hP, va_K.moved hW.alike hK, hD⟩, hS.F ht⟩) hS.2.2 dX0_stringOut_8

/-- read: a byte of the last string -/
abbrev rm_X0_read : Room := ({ frames := 0, cells := 0, slots := 0, locals := 0 } : Room)
set_option maxHeartbeats 4000000 in
set_option maxRecDepth 100000 in
theorem mt_X0_read (l : Launch) (G : va_G) (cB cI : ClassId) (sz : Nat) (h tx rd q t b n r i k : Nat) (fM fT fW fR : Nat → oz_By) (v : Nat) (hn : n ≤ 256) (hr0 : r ≤ 2048) (hi : i ≤ 2048) (hk : k ≤ i) (hv : v < 2 ^ 32) : Met l yX0_read (ws_ yX0_read cX0_read 2 (some .int)) rm_X0_read (va_Pc [.ref h, .int (nI v)] (oz_pw G cB cI sz [oz_oD h tx n q rd, oz_oB cB tx 256 fT, oz_oB cB rd r fR, oz_oO q t b i k, oz_oB cB t 4 fM, oz_oB cB b 2048 fW])) (va_Qi (fun (x9 : Int32) (_ : Unit) => x9 = (if r = 0 then (-1 : Int32) else nI (fR (v % 2147483648 % r)).toNat)) (fun (u : Unit) => oz_qw G cB cI (va_A [oz_oD h tx n q rd, oz_oB cB tx 256 fT, oz_oB cB rd r fR, oz_oO q t b i k, oz_oB cB t 4 fM, oz_oB cB b 2048 fW] sz) [oz_oD h tx n q rd, oz_oB cB tx 256 fT, oz_oB cB rd r fR, oz_oO q t b i k, oz_oB cB t 4 fM, oz_oB cB b 2048 fW]) (va_A [oz_oD h tx n q rd, oz_oB cB tx 256 fT, oz_oB cB rd r fR, oz_oO q t b i k, oz_oB cB t 4 fM, oz_oB cB b 2048 fW] sz)) 0 0 (va_A [oz_oD h tx n q rd, oz_oB cB tx 256 fT, oz_oB cB rd r fR, oz_oO q t b i k, oz_oB cB t 4 fM, oz_oB cB b 2048 fW] sz) := by
  refine Met.ofW (cc := cX0_read) (maxL := 2) (ret := (some .int)) (by decide) rfl ?_
  intro p e s m args below meth c s₁ B hml hv
  obtain ⟨rfl, hsz, hP, hK, hD0⟩ := hv
  have hx := B.exec
  have hb := B.bytes
  have hr := B.returns
  have hts := atoms_spec (ws := (ws_ yX0_read cX0_read 2 (some .int))) B.pre
  have hts : ∀ w ∈ lw_all, w.before _ s = true := fun w h => hts w (List.mem_cons_of_mem _ h)
  have hown : s.vm.findClass RX0 = some m.cls := findClass_of_methodNamed B.named
  have hlocks := B.notSynchronized
  subst hsz
  have hD := hD0.self (sz := s.heap.size)
  generalize hAe : va_A [oz_oD h tx n q rd, oz_oB cB tx 256 fT, oz_oB cB rd r fR, oz_oO q t b i k, oz_oB cB t 4 fM, oz_oB cB b 2048 fW] s.heap.size = A at hD ⊢
  have hA : ∀ q9 : Nat, s.heap.size ≤ q9 → A q9 := fun q9 h => by rw [← hAe]; exact Or.inr h
  have hS : va_S A s.heap s.heap [] := va_S.rf
  have hP : va_P G vwCl [oz_oD h tx n q rd, oz_oB cB tx 256 fT, oz_oB cB rd r fR, oz_oO q t b i k, oz_oB cB t 4 fM, oz_oB cB b 2048 fW] s.heap := hP
  have hl := lv_entry ([.ref h, .int (nI v)]) (n := 2) (Nat.le_of_ble_eq_true rfl)
  rw [lg_entry_eq]
  generalize (lg_sl ([.ref h, .int (nI v)]) ++ List.replicate (2 - (lg_sl ([.ref h, .int (nI v)])).length) Slot.unset).toArray = ls at hl ⊢
  have hl : lv_has ls 2 [(0, .ref h), (1, .int (nI v))] := hl
  refine lv_aload_n hx hb dX0_read_0 rfl (lv_at hl 0 rfl) ?_
  refine va_get (D := G) (ci := 0) (v := .ref rd) (C := RX0) (T := TX0) (N := 4) hx hb hts in_X0 hown hK hP 0 rfl rfl 3 (by decide) (hts _ q49) (fun _ h9 => h9) rfl dX0_read_1 ?_
  refine va_alen (v := nI r) hx hb hK hP 2 0 rfl rfl rfl dX0_read_4 ?_
  refine oz_kj_ne0 hx hb (by omega) (tgt := 12) dX0_read_5 (by decide) (fun h1 => ?_) (fun h1 => ?_)
  · have h2 := Nat.mod_lt (v % 2147483648) h1
    refine lv_aload_n hx hb dX0_read_12 rfl (lv_at hl 0 rfl) ?_
    refine va_get (D := G) (ci := 0) (v := .ref rd) (C := RX0) (T := TX0) (N := 4) hx hb hts in_X0 hown hK hP 0 rfl rfl 3 (by decide) (hts _ q49) (fun _ h9 => h9) rfl dX0_read_13 ?_
    refine lv_iload_n hx hb dX0_read_16 rfl (lv_at hl 1 rfl) ?_
    refine lv_ldc hx hb hown (hts _ q74) dX0_read_17 ?_
    refine lv_iand hx hb dX0_read_19 ?_
    refine oz_ktop (y := nI (v % 2147483648)) (oz_and_31 hv) ?_
    refine lv_aload_n hx hb dX0_read_20 rfl (lv_at hl 0 rfl) ?_
    refine va_get (D := G) (ci := 0) (v := .ref rd) (C := RX0) (T := TX0) (N := 4) hx hb hts in_X0 hown hK hP 0 rfl rfl 3 (by decide) (hts _ q49) (fun _ h9 => h9) rfl dX0_read_21 ?_
    refine va_alen (v := nI r) hx hb hK hP 2 0 rfl rfl rfl dX0_read_24 ?_
    refine oz_krem hx hb (by omega) (h1) (by omega) dX0_read_25 ?_
    refine oz_kb_ld hx hb hK hP 2 rfl (h2) (by omega) dX0_read_26 ?_
    refine lv_sipush (v := nI 255) hx hb dX0_read_27 (by decide) ?_
    refine lv_iand hx hb dX0_read_30 ?_
    refine oz_ktop (y := nI ((fR (v % 2147483648 % r)).toNat)) (oz_dB_and _) ?_
    have hc : ¬ (r = 0) := by omega
    exact W.iret (v := nI ((fR (v % 2147483648 % r)).toNat)) hx hb hr (fun t9 ht hW => ⟨⟨_, (), rfl, (if_neg hc).symm, by rw [ht]; exact hP, va_K.moved hW.alike hK, hD⟩, hS.F ht⟩) hS.2.2 dX0_read_31
  · refine lv_iconst (v := (-1)) hx hb dX0_read_8 (by decide) ?_
    refine lv_goto (tgt := 31) hx hb dX0_read_9 (by decide) ?_
    exact W.iret (v := (-1)) hx hb hr (fun t9 ht hW => ⟨⟨_, (), rfl, (if_pos h1).symm, by rw [ht]; exact hP, va_K.moved hW.alike hK, hD⟩, hS.F ht⟩) hS.2.2 dX0_read_31

/-- back -/
abbrev rm_X0_back : Room := ({ frames := 1, cells := 0, slots := 0, locals := 20 } : Room)
set_option maxHeartbeats 4000000 in
set_option maxRecDepth 100000 in
theorem mt_X0_back (l : Launch) (G : va_G) (cB cI : ClassId) (sz : Nat) (h tx rd q t b n r i k : Nat) (fM fT fW fR : Nat → oz_By) (hn : n ≤ 256) (hr0 : r ≤ 2048) (hi : i ≤ 2048) (hk : k ≤ i) : Met l yX0_back (ws_ yX0_back cX0_back 1 none) rm_X0_back (va_Pc [.ref h] (oz_pw G cB cI sz [oz_oD h tx n q rd, oz_oB cB tx 256 fT, oz_oB cB rd r fR, oz_oO q t b i k, oz_oB cB t 4 fM, oz_oB cB b 2048 fW])) (va_Qv (fun _ : Unit => True) (fun (u : Unit) => oz_qw G cB cI (va_A [oz_oD h tx n q rd, oz_oB cB tx 256 fT, oz_oB cB rd r fR, oz_oO q t b i k, oz_oB cB t 4 fM, oz_oB cB b 2048 fW] sz) [oz_oD h tx n q rd, oz_oB cB tx 256 fT, oz_oB cB rd r fR, oz_oO q t b i 0, oz_oB cB t 4 fM, oz_oB cB b 2048 fW]) (va_A [oz_oD h tx n q rd, oz_oB cB tx 256 fT, oz_oB cB rd r fR, oz_oO q t b i k, oz_oB cB t 4 fM, oz_oB cB b 2048 fW] sz)) 0 0 (va_A [oz_oD h tx n q rd, oz_oB cB tx 256 fT, oz_oB cB rd r fR, oz_oO q t b i k, oz_oB cB t 4 fM, oz_oB cB b 2048 fW] sz) := by
  refine Met.ofW (cc := cX0_back) (maxL := 1) (ret := none) (by decide) rfl ?_
  intro p e s m args below meth c s₁ B hml hv
  obtain ⟨rfl, hsz, hP, hK, hD0⟩ := hv
  have hx := B.exec
  have hb := B.bytes
  have hr := B.returns
  have hts := atoms_spec (ws := (ws_ yX0_back cX0_back 1 none)) B.pre
  have hts : ∀ w ∈ lw_all, w.before _ s = true := fun w h => hts w (List.mem_cons_of_mem _ h)
  have hown : s.vm.findClass RX0 = some m.cls := findClass_of_methodNamed B.named
  have hlocks := B.notSynchronized
  subst hsz
  have hD := hD0.self (sz := s.heap.size)
  generalize hAe : va_A [oz_oD h tx n q rd, oz_oB cB tx 256 fT, oz_oB cB rd r fR, oz_oO q t b i k, oz_oB cB t 4 fM, oz_oB cB b 2048 fW] s.heap.size = A at hD ⊢
  have hA : ∀ q9 : Nat, s.heap.size ≤ q9 → A q9 := fun q9 h => by rw [← hAe]; exact Or.inr h
  have hS : va_S A s.heap s.heap [] := va_S.rf
  have hP : va_P G vwCl [oz_oD h tx n q rd, oz_oB cB tx 256 fT, oz_oB cB rd r fR, oz_oO q t b i k, oz_oB cB t 4 fM, oz_oB cB b 2048 fW] s.heap := hP
  have hl := lv_entry ([.ref h]) (n := 1) (Nat.le_of_ble_eq_true rfl)
  rw [lg_entry_eq]
  generalize (lg_sl ([.ref h]) ++ List.replicate (1 - (lg_sl ([.ref h])).length) Slot.unset).toArray = ls at hl ⊢
  have hl : lv_has ls 1 [(0, .ref h)] := hl
  refine lv_aload_n hx hb dX0_back_0 rfl (lv_at hl 0 rfl) ?_
  refine va_get (D := G) (ci := 0) (v := .ref q) (C := RX0) (T := TX0) (N := 4) hx hb hts in_X0 hown hK hP 0 rfl rfl 2 (by decide) (hts _ q48) (fun _ h9 => h9) rfl dX0_back_1 ?_
  refine oz_kc_v (nA := 0) (As := []) (rest := []) (wr := [oz_oD h tx n q rd, oz_oB cB tx 256 fT, oz_oB cB rd r fR]) (w3 := fun (u : Unit) => [oz_oD h tx n q rd, oz_oB cB tx 256 fT, oz_oB cB rd r fR, oz_oO q t b i 0, oz_oB cB t 4 fM, oz_oB cB b 2048 fW]) (C := RX1) hx hb hml hown hts hK hP hD hS hA (mt_X1_rewind l G cB cI s.heap.size q t b i k fM fW) (lw_V q225 q226 q227 q13 q228) rfl rfl (by decide +kernel) rfl ⟨Nat.le_of_ble_eq_true rfl, Nat.le_of_ble_eq_true rfl⟩ [3, 4, 5] [0, 1, 2] rfl rfl rfl rfl (by decide) 0 rfl rfl rfl hl.1 (Nat.le_of_ble_eq_true rfl) dX0_back_4 ⟨Nat.le_of_ble_eq_true rfl, Nat.le_of_ble_eq_true rfl⟩ (fun _ => rfl) (fun _ H locs hP hD hS => ?_)
  have hP : va_P G vwCl [oz_oD h tx n q rd, oz_oB cB tx 256 fT, oz_oB cB rd r fR, oz_oO q t b i 0, oz_oB cB t 4 fM, oz_oB cB b 2048 fW] H := hP
  have hD : va_D A [oz_oD h tx n q rd, oz_oB cB tx 256 fT, oz_oB cB rd r fR, oz_oO q t b i 0, oz_oB cB t 4 fM, oz_oB cB b 2048 fW] := hD
  exact W.vret hx hb hr (fun t9 ht hW => ⟨⟨(), rfl, trivial, by rw [ht]; exact hP, va_K.moved hW.alike hK, hD⟩, hS.F ht⟩) hS.2.2 dX0_back_7

/-- anew -/
abbrev rm_X0_anew : Room := ({ frames := 2, cells := 3, slots := 2056, locals := 33 } : Room)
set_option maxHeartbeats 4000000 in
set_option maxRecDepth 100000 in
theorem mt_X0_anew (l : Launch) (G : va_G) (cB cI : ClassId) (sz : Nat) (h tx rd q t b n r i k : Nat) (fM fT fW fR : Nat → oz_By) (hn : n ≤ 256) (hr0 : r ≤ 2048) (hi : i ≤ 2048) (hk : k ≤ i) : Met l yX0_anew (ws_ yX0_anew cX0_anew 1 none) rm_X0_anew (va_Pc [.ref h] (oz_pw G cB cI sz [oz_oD h tx n q rd, oz_oB cB tx 256 fT, oz_oB cB rd r fR, oz_oO q t b i k, oz_oB cB t 4 fM, oz_oB cB b 2048 fW])) (va_Qv (fun _ : (Nat × Nat × Nat) => True) (fun (u : (Nat × Nat × Nat)) => oz_qw G cB cI (va_A [oz_oD h tx n q rd, oz_oB cB tx 256 fT, oz_oB cB rd r fR, oz_oO q t b i k, oz_oB cB t 4 fM, oz_oB cB b 2048 fW] sz) [oz_oD h tx n u.1 rd, oz_oB cB tx 256 fT, oz_oB cB rd r fR, oz_oO u.1 u.2.1 u.2.2 0 0, oz_oB cB u.2.1 4 oz_z8, oz_oB cB u.2.2 2048 oz_z8]) (va_A [oz_oD h tx n q rd, oz_oB cB tx 256 fT, oz_oB cB rd r fR, oz_oO q t b i k, oz_oB cB t 4 fM, oz_oB cB b 2048 fW] sz)) 3 2056 (va_A [oz_oD h tx n q rd, oz_oB cB tx 256 fT, oz_oB cB rd r fR, oz_oO q t b i k, oz_oB cB t 4 fM, oz_oB cB b 2048 fW] sz) := by
  refine Met.ofW (cc := cX0_anew) (maxL := 1) (ret := none) (by decide) rfl ?_
  intro p e s m args below meth c s₁ B hml hv
  obtain ⟨rfl, hsz, hP, hK, hD0⟩ := hv
  have hx := B.exec
  have hb := B.bytes
  have hr := B.returns
  have hts := atoms_spec (ws := (ws_ yX0_anew cX0_anew 1 none)) B.pre
  have hts : ∀ w ∈ lw_all, w.before _ s = true := fun w h => hts w (List.mem_cons_of_mem _ h)
  have hown : s.vm.findClass RX0 = some m.cls := findClass_of_methodNamed B.named
  have hlocks := B.notSynchronized
  subst hsz
  have hD := hD0.self (sz := s.heap.size)
  generalize hAe : va_A [oz_oD h tx n q rd, oz_oB cB tx 256 fT, oz_oB cB rd r fR, oz_oO q t b i k, oz_oB cB t 4 fM, oz_oB cB b 2048 fW] s.heap.size = A at hD ⊢
  have hA : ∀ q9 : Nat, s.heap.size ≤ q9 → A q9 := fun q9 h => by rw [← hAe]; exact Or.inr h
  have hS : va_S A s.heap s.heap [] := va_S.rf
  have hP : va_P G vwCl [oz_oD h tx n q rd, oz_oB cB tx 256 fT, oz_oB cB rd r fR, oz_oO q t b i k, oz_oB cB t 4 fM, oz_oB cB b 2048 fW] s.heap := hP
  have hl := lv_entry ([.ref h]) (n := 1) (Nat.le_of_ble_eq_true rfl)
  rw [lg_entry_eq]
  generalize (lg_sl ([.ref h]) ++ List.replicate (1 - (lg_sl ([.ref h])).length) Slot.unset).toArray = ls at hl ⊢
  have hl : lv_has ls 1 [(0, .ref h)] := hl
  refine lv_aload_n hx hb dX0_anew_0 rfl (lv_at hl 0 rfl) ?_
  refine va_new (ci := 1) (fs := [.null, .null, .int 0, .int 0]) (C := RX1) (T := TX1) (N := 4) hx hb hts in_X1 tyX1 tyX1_ok hown (hts _ q24) (hts _ q25) (hts _ q13) hK hP hD hS hA rfl (fun j hj => by rcases (show j = 0 ∨ j = 1 ∨ j = 2 ∨ j = 3 by omega) with rfl | rfl | rfl | rfl <;> rfl) (Nat.le_of_ble_eq_true rfl) (Nat.le_of_ble_eq_true rfl) dX0_anew_1 (fun q2 H hP hD hS => ?_)
  have hP : va_P G vwCl [oz_oD h tx n q rd, oz_oB cB tx 256 fT, oz_oB cB rd r fR, oz_oO q t b i k, oz_oB cB t 4 fM, oz_oB cB b 2048 fW, (q2, .inr (1, [.null, .null, .int 0, .int 0]))] H := hP
  have hD : va_D A [oz_oD h tx n q rd, oz_oB cB tx 256 fT, oz_oB cB rd r fR, oz_oO q t b i k, oz_oB cB t 4 fM, oz_oB cB b 2048 fW, (q2, .inr (1, [.null, .null, .int 0, .int 0]))] := hD
  refine lv_dup hx hb dX0_anew_4 rfl ?_
  refine lv_sipush (v := nI 2048) hx hb dX0_anew_5 (by decide) ?_
  refine oz_kc_n (nA := 1) (As := [.int (nI 2048)]) (rest := [.ref q2, .ref h]) (wr := [oz_oD h tx n q rd, oz_oB cB tx 256 fT, oz_oB cB rd r fR, oz_oO q t b i k, oz_oB cB t 4 fM, oz_oB cB b 2048 fW]) (w3 := fun (u : (Nat × Nat)) => [oz_oD h tx n q rd, oz_oB cB tx 256 fT, oz_oB cB rd r fR, oz_oO q t b i k, oz_oB cB t 4 fM, oz_oB cB b 2048 fW, oz_oO q2 u.1 u.2 0 0, oz_oB cB u.1 4 oz_z8, oz_oB cB u.2 2048 oz_z8]) hx hb hml hown hts hK hP hD hS hA (mt_X1_init l G cB cI H.size q2) q28 rfl rfl (hts _ q13) (hts _ q26) (hts _ q27) rfl (by decide +kernel) rfl ⟨Nat.le_of_ble_eq_true rfl, Nat.le_of_ble_eq_true rfl⟩ [6] [0, 1, 2, 3, 4, 5] rfl rfl rfl rfl (by decide) rfl hl.1 (Nat.le_of_ble_eq_true rfl) dX0_anew_8 ⟨Nat.le_of_ble_eq_true rfl, Nat.le_of_ble_eq_true rfl⟩ (fun _ => rfl) (fun u H locs hP hD hS => ?_)
  obtain ⟨t2, b2⟩ := u
  have hP : va_P G vwCl [oz_oD h tx n q rd, oz_oB cB tx 256 fT, oz_oB cB rd r fR, oz_oO q t b i k, oz_oB cB t 4 fM, oz_oB cB b 2048 fW, oz_oO q2 t2 b2 0 0, oz_oB cB t2 4 oz_z8, oz_oB cB b2 2048 oz_z8] H := hP
  have hD : va_D A [oz_oD h tx n q rd, oz_oB cB tx 256 fT, oz_oB cB rd r fR, oz_oO q t b i k, oz_oB cB t 4 fM, oz_oB cB b 2048 fW, oz_oO q2 t2 b2 0 0, oz_oB cB t2 4 oz_z8, oz_oB cB b2 2048 oz_z8] := hD
  refine va_put (D := G) (ci := 0) (v := .ref q2) (ty := .object "OwnBuffer") (C := RX0) (T := TX0) (N := 4) hx hb hts in_X0 tyX0 tyX0_ok nmX0 hown hK hP hD hS 0 rfl rfl 2 (by decide) (hts _ q48) (fun _ h9 => h9) rfl (by decide +kernel) rfl rfl (Nat.le_of_ble_eq_true rfl) dX0_anew_11 (fun H locs hP hD hS => ?_)
  have hP : va_P G vwCl [oz_oD h tx n q2 rd, oz_oB cB tx 256 fT, oz_oB cB rd r fR, oz_oO q t b i k, oz_oB cB t 4 fM, oz_oB cB b 2048 fW, oz_oO q2 t2 b2 0 0, oz_oB cB t2 4 oz_z8, oz_oB cB b2 2048 oz_z8] H := hP
  have hD : va_D A [oz_oD h tx n q2 rd, oz_oB cB tx 256 fT, oz_oB cB rd r fR, oz_oO q t b i k, oz_oB cB t 4 fM, oz_oB cB b 2048 fW, oz_oO q2 t2 b2 0 0, oz_oB cB t2 4 oz_z8, oz_oB cB b2 2048 oz_z8] := hD
  have hP := hP.sub (ws' := [oz_oD h tx n q2 rd, oz_oB cB tx 256 fT, oz_oB cB rd r fR, oz_oO q2 t2 b2 0 0, oz_oB cB t2 4 oz_z8, oz_oB cB b2 2048 oz_z8]) [0, 1, 2, 6, 7, 8] rfl
  have hD := hD.sub (ws' := [oz_oD h tx n q2 rd, oz_oB cB tx 256 fT, oz_oB cB rd r fR, oz_oO q2 t2 b2 0 0, oz_oB cB t2 4 oz_z8, oz_oB cB b2 2048 oz_z8]) [0, 1, 2, 6, 7, 8] (by decide) rfl
  exact W.vret hx hb hr (fun t9 ht hW => ⟨⟨(q2, t2, b2), rfl, trivial, by rw [ht]; exact hP, va_K.moved hW.alike hK, hD⟩, hS.F ht⟩) hS.2.2 dX0_anew_14

/-- WireBufferDesk() -/
abbrev rm_X0_init : Room := ({ frames := 2, cells := 5, slots := 2312, locals := 33 } : Room)
set_option maxHeartbeats 4000000 in
set_option maxRecDepth 100000 in
theorem mt_X0_init (l : Launch) (G : va_G) (cB cI : ClassId) (sz : Nat) (h : Nat)  : Met l yX0_init (ws_ yX0_init cX0_init 1 none) rm_X0_init (va_Pc [.ref h] (oz_pw G cB cI sz [(h, .inr (0, [.null, .int 0, .null, .null]))])) (va_Qv (fun _ : (Nat × Nat × Nat × Nat × Nat) => True) (fun (u : (Nat × Nat × Nat × Nat × Nat)) => oz_qw G cB cI (va_A [(h, .inr (0, [.null, .int 0, .null, .null]))] sz) [oz_oD h u.1 0 u.2.2.1 u.2.1, oz_oB cB u.1 256 oz_z8, oz_oB cB u.2.1 0 oz_z8, oz_oO u.2.2.1 u.2.2.2.1 u.2.2.2.2 0 0, oz_oB cB u.2.2.2.1 4 oz_z8, oz_oB cB u.2.2.2.2 2048 oz_z8]) (va_A [(h, .inr (0, [.null, .int 0, .null, .null]))] sz)) 5 2312 (va_A [(h, .inr (0, [.null, .int 0, .null, .null]))] sz) := by
  refine Met.ofW (cc := cX0_init) (maxL := 1) (ret := none) (by decide) rfl ?_
  intro p e s m args below meth c s₁ B hml hv
  obtain ⟨rfl, hsz, hP, hK, hD0⟩ := hv
  have hx := B.exec
  have hb := B.bytes
  have hr := B.returns
  have hts := atoms_spec (ws := (ws_ yX0_init cX0_init 1 none)) B.pre
  have hts : ∀ w ∈ lw_all, w.before _ s = true := fun w h => hts w (List.mem_cons_of_mem _ h)
  have hown : s.vm.findClass RX0 = some m.cls := findClass_of_methodNamed B.named
  have hlocks := B.notSynchronized
  have hin : meth.name = "<init>" := (name_of_methodNamed B.named B.method).1
  subst hsz
  have hD := hD0.self (sz := s.heap.size)
  generalize hAe : va_A [(h, .inr (0, [.null, .int 0, .null, .null]))] s.heap.size = A at hD ⊢
  have hA : ∀ q9 : Nat, s.heap.size ≤ q9 → A q9 := fun q9 h => by rw [← hAe]; exact Or.inr h
  have hS : va_S A s.heap s.heap [] := va_S.rf
  have hP : va_P G vwCl [(h, .inr (0, [.null, .int 0, .null, .null]))] s.heap := hP
  have hl := lv_entry ([.ref h]) (n := 1) (Nat.le_of_ble_eq_true rfl)
  rw [lg_entry_eq]
  generalize (lg_sl ([.ref h]) ++ List.replicate (1 - (lg_sl ([.ref h])).length) Slot.unset).toArray = ls at hl ⊢
  have hl : lv_has ls 1 [(0, .ref h)] := hl
  refine lv_aload_n hx hb dX0_init_0 rfl (lv_at hl 0 rfl) ?_
  refine W.objInit hx hb hown (hts _ q21) (hts _ q22) (hts _ q23) rfl (by rw [hml]; exact hl.1) rfl dX0_init_1 (Nat.le_of_ble_eq_true rfl) (Nat.le_of_ble_eq_true rfl) ?_
  refine W.eq (g2 := F0 m 4 ls []) rfl ?_
  refine lv_aload_n hx hb dX0_init_4 rfl (lv_at hl 0 rfl) ?_
  refine lv_sipush (v := nI 256) hx hb dX0_init_5 (by decide) ?_
  refine oz_kb_new hx hb (hts _ q45) hK hP hD hS hA (N := 256) (by decide) (Nat.le_of_ble_eq_true rfl) (Nat.le_of_ble_eq_true rfl) dX0_init_8 (fun tx H hP hD hS => ?_)
  have hP : va_P G vwCl [(h, .inr (0, [.null, .int 0, .null, .null])), oz_oB cB tx 256 oz_z8] H := hP
  have hD : va_D A [(h, .inr (0, [.null, .int 0, .null, .null])), oz_oB cB tx 256 oz_z8] := hD
  refine va_putF (D := G) (ci := 0) (v := .ref tx) (ty := .array .byte) (C := RX0) (T := TX0) (N := 4) hx hb hts in_X0 tyX0 tyX0_ok nmX0 hown hK hP hD hS 0 rfl rfl 0 (by decide) (hts _ q46) (fun _ h9 => h9) rfl hin rfl (by decide +kernel) rfl rfl (Nat.le_of_ble_eq_true rfl) dX0_init_10 (fun H locs hP hD hS => ?_)
  have hP : va_P G vwCl [(h, .inr (0, [.ref tx, .int 0, .null, .null])), oz_oB cB tx 256 oz_z8] H := hP
  have hD : va_D A [(h, .inr (0, [.ref tx, .int 0, .null, .null])), oz_oB cB tx 256 oz_z8] := hD
  refine lv_aload_n hx hb dX0_init_13 rfl (lv_at hl 0 rfl) ?_
  refine va_new (ci := 1) (fs := [.null, .null, .int 0, .int 0]) (C := RX1) (T := TX1) (N := 4) hx hb hts in_X1 tyX1 tyX1_ok hown (hts _ q24) (hts _ q25) (hts _ q13) hK hP hD hS hA rfl (fun j hj => by rcases (show j = 0 ∨ j = 1 ∨ j = 2 ∨ j = 3 by omega) with rfl | rfl | rfl | rfl <;> rfl) (Nat.le_of_ble_eq_true rfl) (Nat.le_of_ble_eq_true rfl) dX0_init_14 (fun q2 H hP hD hS => ?_)
  have hP : va_P G vwCl [(h, .inr (0, [.ref tx, .int 0, .null, .null])), oz_oB cB tx 256 oz_z8, (q2, .inr (1, [.null, .null, .int 0, .int 0]))] H := hP
  have hD : va_D A [(h, .inr (0, [.ref tx, .int 0, .null, .null])), oz_oB cB tx 256 oz_z8, (q2, .inr (1, [.null, .null, .int 0, .int 0]))] := hD
  refine lv_dup hx hb dX0_init_17 rfl ?_
  refine lv_sipush (v := nI 2048) hx hb dX0_init_18 (by decide) ?_
  refine oz_kc_n (nA := 1) (As := [.int (nI 2048)]) (rest := [.ref q2, .ref h]) (wr := [(h, .inr (0, [.ref tx, .int 0, .null, .null])), oz_oB cB tx 256 oz_z8]) (w3 := fun (u : (Nat × Nat)) => [(h, .inr (0, [.ref tx, .int 0, .null, .null])), oz_oB cB tx 256 oz_z8, oz_oO q2 u.1 u.2 0 0, oz_oB cB u.1 4 oz_z8, oz_oB cB u.2 2048 oz_z8]) hx hb hml hown hts hK hP hD hS hA (mt_X1_init l G cB cI H.size q2) q28 rfl rfl (hts _ q13) (hts _ q26) (hts _ q27) rfl (by decide +kernel) rfl ⟨Nat.le_of_ble_eq_true rfl, Nat.le_of_ble_eq_true rfl⟩ [2] [0, 1] rfl rfl rfl rfl (by decide) rfl hl.1 (Nat.le_of_ble_eq_true rfl) dX0_init_21 ⟨Nat.le_of_ble_eq_true rfl, Nat.le_of_ble_eq_true rfl⟩ (fun _ => rfl) (fun u H locs hP hD hS => ?_)
  obtain ⟨t2, b2⟩ := u
  have hP : va_P G vwCl [(h, .inr (0, [.ref tx, .int 0, .null, .null])), oz_oB cB tx 256 oz_z8, oz_oO q2 t2 b2 0 0, oz_oB cB t2 4 oz_z8, oz_oB cB b2 2048 oz_z8] H := hP
  have hD : va_D A [(h, .inr (0, [.ref tx, .int 0, .null, .null])), oz_oB cB tx 256 oz_z8, oz_oO q2 t2 b2 0 0, oz_oB cB t2 4 oz_z8, oz_oB cB b2 2048 oz_z8] := hD
  refine va_put (D := G) (ci := 0) (v := .ref q2) (ty := .object "OwnBuffer") (C := RX0) (T := TX0) (N := 4) hx hb hts in_X0 tyX0 tyX0_ok nmX0 hown hK hP hD hS 0 rfl rfl 2 (by decide) (hts _ q48) (fun _ h9 => h9) rfl (by decide +kernel) rfl rfl (Nat.le_of_ble_eq_true rfl) dX0_init_24 (fun H locs hP hD hS => ?_)
  have hP : va_P G vwCl [(h, .inr (0, [.ref tx, .int 0, .ref q2, .null])), oz_oB cB tx 256 oz_z8, oz_oO q2 t2 b2 0 0, oz_oB cB t2 4 oz_z8, oz_oB cB b2 2048 oz_z8] H := hP
  have hD : va_D A [(h, .inr (0, [.ref tx, .int 0, .ref q2, .null])), oz_oB cB tx 256 oz_z8, oz_oO q2 t2 b2 0 0, oz_oB cB t2 4 oz_z8, oz_oB cB b2 2048 oz_z8] := hD
  refine lv_aload_n hx hb dX0_init_27 rfl (lv_at hl 0 rfl) ?_
  refine lv_iconst (v := nI 0) hx hb dX0_init_28 (by decide) ?_
  refine oz_kb_new hx hb (hts _ q45) hK hP hD hS hA (N := 0) (by decide) (Nat.le_of_ble_eq_true rfl) (Nat.le_of_ble_eq_true rfl) dX0_init_29 (fun rd H hP hD hS => ?_)
  have hP : va_P G vwCl [(h, .inr (0, [.ref tx, .int 0, .ref q2, .null])), oz_oB cB tx 256 oz_z8, oz_oO q2 t2 b2 0 0, oz_oB cB t2 4 oz_z8, oz_oB cB b2 2048 oz_z8, oz_oB cB rd 0 oz_z8] H := hP
  have hD : va_D A [(h, .inr (0, [.ref tx, .int 0, .ref q2, .null])), oz_oB cB tx 256 oz_z8, oz_oO q2 t2 b2 0 0, oz_oB cB t2 4 oz_z8, oz_oB cB b2 2048 oz_z8, oz_oB cB rd 0 oz_z8] := hD
  refine va_put (D := G) (ci := 0) (v := .ref rd) (ty := .array .byte) (C := RX0) (T := TX0) (N := 4) hx hb hts in_X0 tyX0 tyX0_ok nmX0 hown hK hP hD hS 0 rfl rfl 3 (by decide) (hts _ q49) (fun _ h9 => h9) rfl (by decide +kernel) rfl rfl (Nat.le_of_ble_eq_true rfl) dX0_init_31 (fun H locs hP hD hS => ?_)
  have hP : va_P G vwCl [(h, .inr (0, [.ref tx, .int 0, .ref q2, .ref rd])), oz_oB cB tx 256 oz_z8, oz_oO q2 t2 b2 0 0, oz_oB cB t2 4 oz_z8, oz_oB cB b2 2048 oz_z8, oz_oB cB rd 0 oz_z8] H := hP
  have hD : va_D A [(h, .inr (0, [.ref tx, .int 0, .ref q2, .ref rd])), oz_oB cB tx 256 oz_z8, oz_oO q2 t2 b2 0 0, oz_oB cB t2 4 oz_z8, oz_oB cB b2 2048 oz_z8, oz_oB cB rd 0 oz_z8] := hD
  have hP := hP.sub (ws' := [(h, .inr (0, [.ref tx, .int 0, .ref q2, .ref rd])), oz_oB cB tx 256 oz_z8, oz_oB cB rd 0 oz_z8, oz_oO q2 t2 b2 0 0, oz_oB cB t2 4 oz_z8, oz_oB cB b2 2048 oz_z8]) [0, 1, 5, 2, 3, 4] rfl
  have hD := hD.sub (ws' := [(h, .inr (0, [.ref tx, .int 0, .ref q2, .ref rd])), oz_oB cB tx 256 oz_z8, oz_oB cB rd 0 oz_z8, oz_oO q2 t2 b2 0 0, oz_oB cB t2 4 oz_z8, oz_oB cB b2 2048 oz_z8]) [0, 1, 5, 2, 3, 4] (by decide) rfl
  exact W.vret hx hb hr (fun t9 ht hW => ⟨⟨(tx, rd, q2, t2, b2), rfl, trivial, by rw [ht]; exact hP, va_K.moved hW.alike hK, hD⟩, hS.F ht⟩) hS.2.2 dX0_init_34
end
section
/-! WireBufferDeskModel: contracts -/
set_option maxRecDepth 100000
/-- begin -/
abbrev rm_X2_begin : Room := ({ frames := 0, cells := 0, slots := 0, locals := 0 } : Room)
set_option maxHeartbeats 4000000 in
set_option maxRecDepth 100000 in
theorem mt_X2_begin (l : Launch) (G : va_G) (cB cI : ClassId) (sz : Nat) (h tx wi la n r i k : Nat) (fT fW fR : Nat → oz_By) (v : Nat) (hn : n ≤ 256) (hr0 : r ≤ 2048) (hi : i ≤ 2048) (hk : k ≤ i) (hv : v < 2 ^ 32) : Met l yX2_begin (ws_ yX2_begin cX2_begin 2 (some .int)) rm_X2_begin (va_Pc [.ref h, .int (nI v)] (oz_pw G cB cI sz [oz_oM h tx n wi i k la, oz_oI cI tx 256 fT, oz_oI cI wi 2048 fW, oz_oI cI la r fR])) (va_Qi (fun (x9 : Int32) (_ : Unit) => x9 = nI (oz_fr v n)) (fun (u : Unit) => oz_qw G cB cI (va_A [oz_oM h tx n wi i k la, oz_oI cI tx 256 fT, oz_oI cI wi 2048 fW, oz_oI cI la r fR] sz) [oz_oM h tx n wi i k la, oz_oI cI tx 256 fT, oz_oI cI wi 2048 fW, oz_oI cI la r fR]) (va_A [oz_oM h tx n wi i k la, oz_oI cI tx 256 fT, oz_oI cI wi 2048 fW, oz_oI cI la r fR] sz)) 0 0 (va_A [oz_oM h tx n wi i k la, oz_oI cI tx 256 fT, oz_oI cI wi 2048 fW, oz_oI cI la r fR] sz) := by
  refine Met.ofW (cc := cX2_begin) (maxL := 2) (ret := (some .int)) (by decide) rfl ?_
  intro p e s m args below meth c s₁ B hml hv
  obtain ⟨rfl, hsz, hP, hK, hD0⟩ := hv
  have hx := B.exec
  have hb := B.bytes
  have hr := B.returns
  have hts := atoms_spec (ws := (ws_ yX2_begin cX2_begin 2 (some .int))) B.pre
  have hts : ∀ w ∈ lw_all, w.before _ s = true := fun w h => hts w (List.mem_cons_of_mem _ h)
  have hown : s.vm.findClass RX2 = some m.cls := findClass_of_methodNamed B.named
  have hlocks := B.notSynchronized
  subst hsz
  have hD := hD0.self (sz := s.heap.size)
  generalize hAe : va_A [oz_oM h tx n wi i k la, oz_oI cI tx 256 fT, oz_oI cI wi 2048 fW, oz_oI cI la r fR] s.heap.size = A at hD ⊢
  have hA : ∀ q9 : Nat, s.heap.size ≤ q9 → A q9 := fun q9 h => by rw [← hAe]; exact Or.inr h
  have hS : va_S A s.heap s.heap [] := va_S.rf
  have hP : va_P G vwCl [oz_oM h tx n wi i k la, oz_oI cI tx 256 fT, oz_oI cI wi 2048 fW, oz_oI cI la r fR] s.heap := hP
  have hl := lv_entry ([.ref h, .int (nI v)]) (n := 2) (Nat.le_of_ble_eq_true rfl)
  rw [lg_entry_eq]
  generalize (lg_sl ([.ref h, .int (nI v)]) ++ List.replicate (2 - (lg_sl ([.ref h, .int (nI v)])).length) Slot.unset).toArray = ls at hl ⊢
  have hl : lv_has ls 2 [(0, .ref h), (1, .int (nI v))] := hl
  refine lv_iload_n hx hb dX2_begin_0 rfl (lv_at hl 1 rfl) ?_
  refine lv_ldc hx hb hown (hts _ q271) dX2_begin_1 ?_
  refine lv_iand hx hb dX2_begin_3 ?_
  refine oz_ktop (y := nI (v % 2147483648)) (oz_and_31 hv) ?_
  refine lv_aload_n hx hb dX2_begin_4 rfl (lv_at hl 0 rfl) ?_
  refine va_get (D := G) (ci := 2) (v := .int (nI n)) (C := RX2) (T := TX2) (N := 6) hx hb hts in_X2 hown hK hP 0 rfl rfl 1 (by decide) (hts _ q240) (fun _ h9 => h9) rfl dX2_begin_5 ?_
  refine lv_iconst (v := nI 1) hx hb dX2_begin_8 (by decide) ?_
  refine oz_kadd hx hb dX2_begin_9 ?_
  refine oz_krem hx hb (by omega) (by omega) (by omega) dX2_begin_10 ?_
  exact W.iret (v := nI ((v % 2147483648) % (n + 1))) hx hb hr (fun t9 ht hW => ⟨⟨_, (), rfl, rfl, by rw [ht]; exact hP, va_K.moved hW.alike hK, hD⟩, hS.F ht⟩) hS.2.2 dX2_begin_11

/-- trim -/
abbrev rm_X2_trim : Room := ({ frames := 1, cells := 0, slots := 0, locals := 21 } : Room)
set_option maxHeartbeats 4000000 in
set_option maxRecDepth 100000 in
theorem mt_X2_trim (l : Launch) (G : va_G) (cB cI : ClassId) (sz : Nat) (h tx wi la n r i k : Nat) (fT fW fR : Nat → oz_By) (v : Nat) (hn : n ≤ 256) (hr0 : r ≤ 2048) (hi : i ≤ 2048) (hk : k ≤ i) (hv : v < 2 ^ 32) : Met l yX2_trim (ws_ yX2_trim cX2_trim 2 none) rm_X2_trim (va_Pc [.ref h, .int (nI v)] (oz_pw G cB cI sz [oz_oM h tx n wi i k la, oz_oI cI tx 256 fT, oz_oI cI wi 2048 fW, oz_oI cI la r fR])) (va_Qv (fun _ : Unit => True) (fun (u : Unit) => oz_qw G cB cI (va_A [oz_oM h tx n wi i k la, oz_oI cI tx 256 fT, oz_oI cI wi 2048 fW, oz_oI cI la r fR] sz) [oz_oM h tx (oz_fr v n) wi i k la, oz_oI cI tx 256 fT, oz_oI cI wi 2048 fW, oz_oI cI la r fR]) (va_A [oz_oM h tx n wi i k la, oz_oI cI tx 256 fT, oz_oI cI wi 2048 fW, oz_oI cI la r fR] sz)) 0 0 (va_A [oz_oM h tx n wi i k la, oz_oI cI tx 256 fT, oz_oI cI wi 2048 fW, oz_oI cI la r fR] sz) := by
  refine Met.ofW (cc := cX2_trim) (maxL := 2) (ret := none) (by decide) rfl ?_
  intro p e s m args below meth c s₁ B hml hv
  obtain ⟨rfl, hsz, hP, hK, hD0⟩ := hv
  have hx := B.exec
  have hb := B.bytes
  have hr := B.returns
  have hts := atoms_spec (ws := (ws_ yX2_trim cX2_trim 2 none)) B.pre
  have hts : ∀ w ∈ lw_all, w.before _ s = true := fun w h => hts w (List.mem_cons_of_mem _ h)
  have hown : s.vm.findClass RX2 = some m.cls := findClass_of_methodNamed B.named
  have hlocks := B.notSynchronized
  subst hsz
  have hD := hD0.self (sz := s.heap.size)
  generalize hAe : va_A [oz_oM h tx n wi i k la, oz_oI cI tx 256 fT, oz_oI cI wi 2048 fW, oz_oI cI la r fR] s.heap.size = A at hD ⊢
  have hA : ∀ q9 : Nat, s.heap.size ≤ q9 → A q9 := fun q9 h => by rw [← hAe]; exact Or.inr h
  have hS : va_S A s.heap s.heap [] := va_S.rf
  have hP : va_P G vwCl [oz_oM h tx n wi i k la, oz_oI cI tx 256 fT, oz_oI cI wi 2048 fW, oz_oI cI la r fR] s.heap := hP
  have hl := lv_entry ([.ref h, .int (nI v)]) (n := 2) (Nat.le_of_ble_eq_true rfl)
  rw [lg_entry_eq]
  generalize (lg_sl ([.ref h, .int (nI v)]) ++ List.replicate (2 - (lg_sl ([.ref h, .int (nI v)])).length) Slot.unset).toArray = ls at hl ⊢
  have hl : lv_has ls 2 [(0, .ref h), (1, .int (nI v))] := hl
  refine lv_aload_n hx hb dX2_trim_0 rfl (lv_at hl 0 rfl) ?_
  refine lv_aload_n hx hb dX2_trim_1 rfl (lv_at hl 0 rfl) ?_
  refine lv_iload_n hx hb dX2_trim_2 rfl (lv_at hl 1 rfl) ?_
  refine oz_kc_i (nA := 1) (As := [.int (nI v)]) (rest := [.ref h]) (wr := []) (w3 := fun (u : Unit) => [oz_oM h tx n wi i k la, oz_oI cI tx 256 fT, oz_oI cI wi 2048 fW, oz_oI cI la r fR]) (C := RX2) hx hb hml hown hts hK hP hD hS hA (mt_X2_begin l G cB cI s.heap.size h tx wi la n r i k fT fW fR v hn hr0 hi hk hv) (lw_V q267 q269 qs4 q14 q270) rfl rfl (by decide +kernel) rfl ⟨Nat.le_of_ble_eq_true rfl, Nat.le_of_ble_eq_true rfl⟩ [0, 1, 2, 3] [] rfl rfl rfl rfl (by decide) 0 rfl rfl rfl hl.1 (Nat.le_of_ble_eq_true rfl) dX2_trim_3 ⟨Nat.le_of_ble_eq_true rfl, Nat.le_of_ble_eq_true rfl⟩ (fun _ => rfl) (fun _ H locs hP hD hS => ?_)
  have hP : va_P G vwCl [oz_oM h tx n wi i k la, oz_oI cI tx 256 fT, oz_oI cI wi 2048 fW, oz_oI cI la r fR] H := hP
  have hD : va_D A [oz_oM h tx n wi i k la, oz_oI cI tx 256 fT, oz_oI cI wi 2048 fW, oz_oI cI la r fR] := hD
  refine va_put (D := G) (ci := 2) (v := .int (nI (oz_fr v n))) (ty := .int) (C := RX2) (T := TX2) (N := 6) hx hb hts in_X2 tyX2 tyX2_ok nmX2 hown hK hP hD hS 0 rfl rfl 1 (by decide) (hts _ q240) (fun _ h9 => h9) rfl (by decide +kernel) rfl rfl (Nat.le_of_ble_eq_true rfl) dX2_trim_6 (fun H locs hP hD hS => ?_)
  have hP : va_P G vwCl [oz_oM h tx (oz_fr v n) wi i k la, oz_oI cI tx 256 fT, oz_oI cI wi 2048 fW, oz_oI cI la r fR] H := hP
  have hD : va_D A [oz_oM h tx (oz_fr v n) wi i k la, oz_oI cI tx 256 fT, oz_oI cI wi 2048 fW, oz_oI cI la r fR] := hD
  exact W.vret hx hb hr (fun t9 ht hW => ⟨⟨(), rfl, trivial, by rw [ht]; exact hP, va_K.moved hW.alike hK, hD⟩, hS.F ht⟩) hS.2.2 dX2_trim_9

/-- isFull -/
abbrev rm_X2_isFull : Room := ({ frames := 0, cells := 0, slots := 0, locals := 0 } : Room)
set_option maxHeartbeats 4000000 in
set_option maxRecDepth 100000 in
theorem mt_X2_isFull (l : Launch) (G : va_G) (cB cI : ClassId) (sz : Nat) (h tx wi la n r i k : Nat) (fT fW fR : Nat → oz_By) (hn : n ≤ 256) (hr0 : r ≤ 2048) (hi : i ≤ 2048) (hk : k ≤ i) : Met l yX2_isFull (ws_ yX2_isFull cX2_isFull 1 (some .boolean)) rm_X2_isFull (va_Pc [.ref h] (oz_pw G cB cI sz [oz_oM h tx n wi i k la, oz_oI cI tx 256 fT, oz_oI cI wi 2048 fW, oz_oI cI la r fR])) (va_Qi (fun (x9 : Int32) (_ : Unit) => x9 = (if 1600 ≤ i then (1 : Int32) else 0)) (fun (u : Unit) => oz_qw G cB cI (va_A [oz_oM h tx n wi i k la, oz_oI cI tx 256 fT, oz_oI cI wi 2048 fW, oz_oI cI la r fR] sz) [oz_oM h tx n wi i k la, oz_oI cI tx 256 fT, oz_oI cI wi 2048 fW, oz_oI cI la r fR]) (va_A [oz_oM h tx n wi i k la, oz_oI cI tx 256 fT, oz_oI cI wi 2048 fW, oz_oI cI la r fR] sz)) 0 0 (va_A [oz_oM h tx n wi i k la, oz_oI cI tx 256 fT, oz_oI cI wi 2048 fW, oz_oI cI la r fR] sz) := by
  refine Met.ofW (cc := cX2_isFull) (maxL := 1) (ret := (some .boolean)) (by decide) rfl ?_
  intro p e s m args below meth c s₁ B hml hv
  obtain ⟨rfl, hsz, hP, hK, hD0⟩ := hv
  have hx := B.exec
  have hb := B.bytes
  have hr := B.returns
  have hts := atoms_spec (ws := (ws_ yX2_isFull cX2_isFull 1 (some .boolean))) B.pre
  have hts : ∀ w ∈ lw_all, w.before _ s = true := fun w h => hts w (List.mem_cons_of_mem _ h)
  have hown : s.vm.findClass RX2 = some m.cls := findClass_of_methodNamed B.named
  have hlocks := B.notSynchronized
  subst hsz
  have hD := hD0.self (sz := s.heap.size)
  generalize hAe : va_A [oz_oM h tx n wi i k la, oz_oI cI tx 256 fT, oz_oI cI wi 2048 fW, oz_oI cI la r fR] s.heap.size = A at hD ⊢
  have hA : ∀ q9 : Nat, s.heap.size ≤ q9 → A q9 := fun q9 h => by rw [← hAe]; exact Or.inr h
  have hS : va_S A s.heap s.heap [] := va_S.rf
  have hP : va_P G vwCl [oz_oM h tx n wi i k la, oz_oI cI tx 256 fT, oz_oI cI wi 2048 fW, oz_oI cI la r fR] s.heap := hP
  have hl := lv_entry ([.ref h]) (n := 1) (Nat.le_of_ble_eq_true rfl)
  rw [lg_entry_eq]
  generalize (lg_sl ([.ref h]) ++ List.replicate (1 - (lg_sl ([.ref h])).length) Slot.unset).toArray = ls at hl ⊢
  have hl : lv_has ls 1 [(0, .ref h)] := hl
  refine lv_aload_n hx hb dX2_isFull_0 rfl (lv_at hl 0 rfl) ?_
  refine va_get (D := G) (ci := 2) (v := .int (nI i)) (C := RX2) (T := TX2) (N := 6) hx hb hts in_X2 hown hK hP 0 rfl rfl 3 (by decide) (hts _ q242) (fun _ h9 => h9) rfl dX2_isFull_1 ?_
  refine lv_sipush (v := nI 1600) hx hb dX2_isFull_4 (by decide) ?_
  refine oz_kj_lt hx hb (by omega) (by decide) (tgt := 14) dX2_isFull_7 (by decide) (fun h1 => ?_) (fun h1 => ?_)
  · refine lv_iconst (v := nI 0) hx hb dX2_isFull_14 (by decide) ?_
    have hc : ¬ (1600 ≤ i) := by omega
    exact W.zret (v := nI 0) hx hb hr rfl (fun t9 ht hW => ⟨⟨_, (), rfl, (if_neg hc).symm, by rw [ht]; exact hP, va_K.moved hW.alike hK, hD⟩, hS.F ht⟩) hS.2.2 dX2_isFull_15
  · refine lv_iconst (v := nI 1) hx hb dX2_isFull_10 (by decide) ?_
    refine lv_goto (tgt := 15) hx hb dX2_isFull_11 (by decide) ?_
    exact W.zret (v := nI 1) hx hb hr rfl (fun t9 ht hW => ⟨⟨_, (), rfl, (if_pos h1).symm, by rw [ht]; exact hP, va_K.moved hW.alike hK, hD⟩, hS.F ht⟩) hS.2.2 dX2_isFull_15

/-- left -/
abbrev rm_X2_left : Room := ({ frames := 0, cells := 0, slots := 0, locals := 0 } : Room)
set_option maxHeartbeats 4000000 in
set_option maxRecDepth 100000 in
theorem mt_X2_left (l : Launch) (G : va_G) (cB cI : ClassId) (sz : Nat) (h tx wi la n r i k : Nat) (fT fW fR : Nat → oz_By) (hn : n ≤ 256) (hr0 : r ≤ 2048) (hi : i ≤ 2048) (hk : k ≤ i) : Met l yX2_left (ws_ yX2_left cX2_left 1 (some .int)) rm_X2_left (va_Pc [.ref h] (oz_pw G cB cI sz [oz_oM h tx n wi i k la, oz_oI cI tx 256 fT, oz_oI cI wi 2048 fW, oz_oI cI la r fR])) (va_Qi (fun (x9 : Int32) (_ : Unit) => x9 = nI (i - k)) (fun (u : Unit) => oz_qw G cB cI (va_A [oz_oM h tx n wi i k la, oz_oI cI tx 256 fT, oz_oI cI wi 2048 fW, oz_oI cI la r fR] sz) [oz_oM h tx n wi i k la, oz_oI cI tx 256 fT, oz_oI cI wi 2048 fW, oz_oI cI la r fR]) (va_A [oz_oM h tx n wi i k la, oz_oI cI tx 256 fT, oz_oI cI wi 2048 fW, oz_oI cI la r fR] sz)) 0 0 (va_A [oz_oM h tx n wi i k la, oz_oI cI tx 256 fT, oz_oI cI wi 2048 fW, oz_oI cI la r fR] sz) := by
  refine Met.ofW (cc := cX2_left) (maxL := 1) (ret := (some .int)) (by decide) rfl ?_
  intro p e s m args below meth c s₁ B hml hv
  obtain ⟨rfl, hsz, hP, hK, hD0⟩ := hv
  have hx := B.exec
  have hb := B.bytes
  have hr := B.returns
  have hts := atoms_spec (ws := (ws_ yX2_left cX2_left 1 (some .int))) B.pre
  have hts : ∀ w ∈ lw_all, w.before _ s = true := fun w h => hts w (List.mem_cons_of_mem _ h)
  have hown : s.vm.findClass RX2 = some m.cls := findClass_of_methodNamed B.named
  have hlocks := B.notSynchronized
  subst hsz
  have hD := hD0.self (sz := s.heap.size)
  generalize hAe : va_A [oz_oM h tx n wi i k la, oz_oI cI tx 256 fT, oz_oI cI wi 2048 fW, oz_oI cI la r fR] s.heap.size = A at hD ⊢
  have hA : ∀ q9 : Nat, s.heap.size ≤ q9 → A q9 := fun q9 h => by rw [← hAe]; exact Or.inr h
  have hS : va_S A s.heap s.heap [] := va_S.rf
  have hP : va_P G vwCl [oz_oM h tx n wi i k la, oz_oI cI tx 256 fT, oz_oI cI wi 2048 fW, oz_oI cI la r fR] s.heap := hP
  have hl := lv_entry ([.ref h]) (n := 1) (Nat.le_of_ble_eq_true rfl)
  rw [lg_entry_eq]
  generalize (lg_sl ([.ref h]) ++ List.replicate (1 - (lg_sl ([.ref h])).length) Slot.unset).toArray = ls at hl ⊢
  have hl : lv_has ls 1 [(0, .ref h)] := hl
  refine lv_aload_n hx hb dX2_left_0 rfl (lv_at hl 0 rfl) ?_
  refine va_get (D := G) (ci := 2) (v := .int (nI i)) (C := RX2) (T := TX2) (N := 6) hx hb hts in_X2 hown hK hP 0 rfl rfl 3 (by decide) (hts _ q242) (fun _ h9 => h9) rfl dX2_left_1 ?_
  refine lv_aload_n hx hb dX2_left_4 rfl (lv_at hl 0 rfl) ?_
  refine va_get (D := G) (ci := 2) (v := .int (nI k)) (C := RX2) (T := TX2) (N := 6) hx hb hts in_X2 hown hK hP 0 rfl rfl 4 (by decide) (hts _ q243) (fun _ h9 => h9) rfl dX2_left_5 ?_
  refine oz_ksub hx hb (hk) dX2_left_8 ?_
  exact W.iret (v := nI (i - k)) hx hb hr (fun t9 ht hW => ⟨⟨_, (), rfl, rfl, by rw [ht]; exact hP, va_K.moved hW.alike hK, hD⟩, hS.F ht⟩) hS.2.2 dX2_left_9

/-- back -/
abbrev rm_X2_back : Room := ({ frames := 0, cells := 0, slots := 0, locals := 0 } : Room)
set_option maxHeartbeats 4000000 in
set_option maxRecDepth 100000 in
theorem mt_X2_back (l : Launch) (G : va_G) (cB cI : ClassId) (sz : Nat) (h tx wi la n r i k : Nat) (fT fW fR : Nat → oz_By) (hn : n ≤ 256) (hr0 : r ≤ 2048) (hi : i ≤ 2048) (hk : k ≤ i) : Met l yX2_back (ws_ yX2_back cX2_back 1 none) rm_X2_back (va_Pc [.ref h] (oz_pw G cB cI sz [oz_oM h tx n wi i k la, oz_oI cI tx 256 fT, oz_oI cI wi 2048 fW, oz_oI cI la r fR])) (va_Qv (fun _ : Unit => True) (fun (u : Unit) => oz_qw G cB cI (va_A [oz_oM h tx n wi i k la, oz_oI cI tx 256 fT, oz_oI cI wi 2048 fW, oz_oI cI la r fR] sz) [oz_oM h tx n wi i 0 la, oz_oI cI tx 256 fT, oz_oI cI wi 2048 fW, oz_oI cI la r fR]) (va_A [oz_oM h tx n wi i k la, oz_oI cI tx 256 fT, oz_oI cI wi 2048 fW, oz_oI cI la r fR] sz)) 0 0 (va_A [oz_oM h tx n wi i k la, oz_oI cI tx 256 fT, oz_oI cI wi 2048 fW, oz_oI cI la r fR] sz) := by
  refine Met.ofW (cc := cX2_back) (maxL := 1) (ret := none) (by decide) rfl ?_
  intro p e s m args below meth c s₁ B hml hv
  obtain ⟨rfl, hsz, hP, hK, hD0⟩ := hv
  have hx := B.exec
  have hb := B.bytes
  have hr := B.returns
  have hts := atoms_spec (ws := (ws_ yX2_back cX2_back 1 none)) B.pre
  have hts : ∀ w ∈ lw_all, w.before _ s = true := fun w h => hts w (List.mem_cons_of_mem _ h)
  have hown : s.vm.findClass RX2 = some m.cls := findClass_of_methodNamed B.named
  have hlocks := B.notSynchronized
  subst hsz
  have hD := hD0.self (sz := s.heap.size)
  generalize hAe : va_A [oz_oM h tx n wi i k la, oz_oI cI tx 256 fT, oz_oI cI wi 2048 fW, oz_oI cI la r fR] s.heap.size = A at hD ⊢
  have hA : ∀ q9 : Nat, s.heap.size ≤ q9 → A q9 := fun q9 h => by rw [← hAe]; exact Or.inr h
  have hS : va_S A s.heap s.heap [] := va_S.rf
  have hP : va_P G vwCl [oz_oM h tx n wi i k la, oz_oI cI tx 256 fT, oz_oI cI wi 2048 fW, oz_oI cI la r fR] s.heap := hP
  have hl := lv_entry ([.ref h]) (n := 1) (Nat.le_of_ble_eq_true rfl)
  rw [lg_entry_eq]
  generalize (lg_sl ([.ref h]) ++ List.replicate (1 - (lg_sl ([.ref h])).length) Slot.unset).toArray = ls at hl ⊢
  have hl : lv_has ls 1 [(0, .ref h)] := hl
  refine lv_aload_n hx hb dX2_back_0 rfl (lv_at hl 0 rfl) ?_
  refine lv_iconst (v := nI 0) hx hb dX2_back_1 (by decide) ?_
  refine va_put (D := G) (ci := 2) (v := .int (nI 0)) (ty := .int) (C := RX2) (T := TX2) (N := 6) hx hb hts in_X2 tyX2 tyX2_ok nmX2 hown hK hP hD hS 0 rfl rfl 4 (by decide) (hts _ q243) (fun _ h9 => h9) rfl (by decide +kernel) rfl rfl (Nat.le_of_ble_eq_true rfl) dX2_back_2 (fun H locs hP hD hS => ?_)
  have hP : va_P G vwCl [oz_oM h tx n wi i 0 la, oz_oI cI tx 256 fT, oz_oI cI wi 2048 fW, oz_oI cI la r fR] H := hP
  have hD : va_D A [oz_oM h tx n wi i 0 la, oz_oI cI tx 256 fT, oz_oI cI wi 2048 fW, oz_oI cI la r fR] := hD
  exact W.vret hx hb hr (fun t9 ht hW => ⟨⟨(), rfl, trivial, by rw [ht]; exact hP, va_K.moved hW.alike hK, hD⟩, hS.F ht⟩) hS.2.2 dX2_back_5

/-- anew -/
abbrev rm_X2_anew : Room := ({ frames := 0, cells := 1, slots := 2048, locals := 0 } : Room)
set_option maxHeartbeats 4000000 in
set_option maxRecDepth 100000 in
theorem mt_X2_anew (l : Launch) (G : va_G) (cB cI : ClassId) (sz : Nat) (h tx wi la n r i k : Nat) (fT fW fR : Nat → oz_By) (hn : n ≤ 256) (hr0 : r ≤ 2048) (hi : i ≤ 2048) (hk : k ≤ i) : Met l yX2_anew (ws_ yX2_anew cX2_anew 1 none) rm_X2_anew (va_Pc [.ref h] (oz_pw G cB cI sz [oz_oM h tx n wi i k la, oz_oI cI tx 256 fT, oz_oI cI wi 2048 fW, oz_oI cI la r fR])) (va_Qv (fun _ : Nat => True) (fun (u : Nat) => oz_qw G cB cI (va_A [oz_oM h tx n wi i k la, oz_oI cI tx 256 fT, oz_oI cI wi 2048 fW, oz_oI cI la r fR] sz) [oz_oM h tx n u 0 0 la, oz_oI cI tx 256 fT, oz_oI cI u 2048 oz_z8, oz_oI cI la r fR]) (va_A [oz_oM h tx n wi i k la, oz_oI cI tx 256 fT, oz_oI cI wi 2048 fW, oz_oI cI la r fR] sz)) 1 2048 (va_A [oz_oM h tx n wi i k la, oz_oI cI tx 256 fT, oz_oI cI wi 2048 fW, oz_oI cI la r fR] sz) := by
  refine Met.ofW (cc := cX2_anew) (maxL := 1) (ret := none) (by decide) rfl ?_
  intro p e s m args below meth c s₁ B hml hv
  obtain ⟨rfl, hsz, hP, hK, hD0⟩ := hv
  have hx := B.exec
  have hb := B.bytes
  have hr := B.returns
  have hts := atoms_spec (ws := (ws_ yX2_anew cX2_anew 1 none)) B.pre
  have hts : ∀ w ∈ lw_all, w.before _ s = true := fun w h => hts w (List.mem_cons_of_mem _ h)
  have hown : s.vm.findClass RX2 = some m.cls := findClass_of_methodNamed B.named
  have hlocks := B.notSynchronized
  subst hsz
  have hD := hD0.self (sz := s.heap.size)
  generalize hAe : va_A [oz_oM h tx n wi i k la, oz_oI cI tx 256 fT, oz_oI cI wi 2048 fW, oz_oI cI la r fR] s.heap.size = A at hD ⊢
  have hA : ∀ q9 : Nat, s.heap.size ≤ q9 → A q9 := fun q9 h => by rw [← hAe]; exact Or.inr h
  have hS : va_S A s.heap s.heap [] := va_S.rf
  have hP : va_P G vwCl [oz_oM h tx n wi i k la, oz_oI cI tx 256 fT, oz_oI cI wi 2048 fW, oz_oI cI la r fR] s.heap := hP
  have hl := lv_entry ([.ref h]) (n := 1) (Nat.le_of_ble_eq_true rfl)
  rw [lg_entry_eq]
  generalize (lg_sl ([.ref h]) ++ List.replicate (1 - (lg_sl ([.ref h])).length) Slot.unset).toArray = ls at hl ⊢
  have hl : lv_has ls 1 [(0, .ref h)] := hl
  refine lv_aload_n hx hb dX2_anew_0 rfl (lv_at hl 0 rfl) ?_
  refine lv_sipush (v := nI 2048) hx hb dX2_anew_1 (by decide) ?_
  refine oz_ki_new hx hb (hts _ q258) hK hP hD hS hA (N := 2048) (by decide) (Nat.le_of_ble_eq_true rfl) (Nat.le_of_ble_eq_true rfl) dX2_anew_4 (fun wi2 H hP hD hS => ?_)
  have hP : va_P G vwCl [oz_oM h tx n wi i k la, oz_oI cI tx 256 fT, oz_oI cI wi 2048 fW, oz_oI cI la r fR, oz_oI cI wi2 2048 oz_z8] H := hP
  have hD : va_D A [oz_oM h tx n wi i k la, oz_oI cI tx 256 fT, oz_oI cI wi 2048 fW, oz_oI cI la r fR, oz_oI cI wi2 2048 oz_z8] := hD
  refine va_put (D := G) (ci := 2) (v := .ref wi2) (ty := .array .int) (C := RX2) (T := TX2) (N := 6) hx hb hts in_X2 tyX2 tyX2_ok nmX2 hown hK hP hD hS 0 rfl rfl 2 (by decide) (hts _ q241) (fun _ h9 => h9) rfl (by decide +kernel) rfl rfl (Nat.le_of_ble_eq_true rfl) dX2_anew_6 (fun H locs hP hD hS => ?_)
  have hP : va_P G vwCl [oz_oM h tx n wi2 i k la, oz_oI cI tx 256 fT, oz_oI cI wi 2048 fW, oz_oI cI la r fR, oz_oI cI wi2 2048 oz_z8] H := hP
  have hD : va_D A [oz_oM h tx n wi2 i k la, oz_oI cI tx 256 fT, oz_oI cI wi 2048 fW, oz_oI cI la r fR, oz_oI cI wi2 2048 oz_z8] := hD
  refine lv_aload_n hx hb dX2_anew_9 rfl (lv_at hl 0 rfl) ?_
  refine lv_iconst (v := nI 0) hx hb dX2_anew_10 (by decide) ?_
  refine va_put (D := G) (ci := 2) (v := .int (nI 0)) (ty := .int) (C := RX2) (T := TX2) (N := 6) hx hb hts in_X2 tyX2 tyX2_ok nmX2 hown hK hP hD hS 0 rfl rfl 3 (by decide) (hts _ q242) (fun _ h9 => h9) rfl (by decide +kernel) rfl rfl (Nat.le_of_ble_eq_true rfl) dX2_anew_11 (fun H locs hP hD hS => ?_)
  have hP : va_P G vwCl [oz_oM h tx n wi2 0 k la, oz_oI cI tx 256 fT, oz_oI cI wi 2048 fW, oz_oI cI la r fR, oz_oI cI wi2 2048 oz_z8] H := hP
  have hD : va_D A [oz_oM h tx n wi2 0 k la, oz_oI cI tx 256 fT, oz_oI cI wi 2048 fW, oz_oI cI la r fR, oz_oI cI wi2 2048 oz_z8] := hD
  refine lv_aload_n hx hb dX2_anew_14 rfl (lv_at hl 0 rfl) ?_
  refine lv_iconst (v := nI 0) hx hb dX2_anew_15 (by decide) ?_
  refine va_put (D := G) (ci := 2) (v := .int (nI 0)) (ty := .int) (C := RX2) (T := TX2) (N := 6) hx hb hts in_X2 tyX2 tyX2_ok nmX2 hown hK hP hD hS 0 rfl rfl 4 (by decide) (hts _ q243) (fun _ h9 => h9) rfl (by decide +kernel) rfl rfl (Nat.le_of_ble_eq_true rfl) dX2_anew_16 (fun H locs hP hD hS => ?_)
  have hP : va_P G vwCl [oz_oM h tx n wi2 0 0 la, oz_oI cI tx 256 fT, oz_oI cI wi 2048 fW, oz_oI cI la r fR, oz_oI cI wi2 2048 oz_z8] H := hP
  have hD : va_D A [oz_oM h tx n wi2 0 0 la, oz_oI cI tx 256 fT, oz_oI cI wi 2048 fW, oz_oI cI la r fR, oz_oI cI wi2 2048 oz_z8] := hD
  have hP := hP.sub (ws' := [oz_oM h tx n wi2 0 0 la, oz_oI cI tx 256 fT, oz_oI cI wi2 2048 oz_z8, oz_oI cI la r fR]) [0, 1, 4, 3] rfl
  have hD := hD.sub (ws' := [oz_oM h tx n wi2 0 0 la, oz_oI cI tx 256 fT, oz_oI cI wi2 2048 oz_z8, oz_oI cI la r fR]) [0, 1, 4, 3] (by decide) rfl
  exact W.vret hx hb hr (fun t9 ht hW => ⟨⟨wi2, rfl, trivial, by rw [ht]; exact hP, va_K.moved hW.alike hK, hD⟩, hS.F ht⟩) hS.2.2 dX2_anew_19

/-- WireBufferDeskModel() -/
abbrev rm_X2_init : Room := ({ frames := 1, cells := 3, slots := 2304, locals := 12 } : Room)
set_option maxHeartbeats 4000000 in
set_option maxRecDepth 100000 in
theorem mt_X2_init (l : Launch) (G : va_G) (cB cI : ClassId) (sz : Nat) (h : Nat)  : Met l yX2_init (ws_ yX2_init cX2_init 1 none) rm_X2_init (va_Pc [.ref h] (oz_pw G cB cI sz [(h, .inr (2, [.null, .int 0, .null, .int 0, .int 0, .null]))])) (va_Qv (fun _ : (Nat × Nat × Nat) => True) (fun (u : (Nat × Nat × Nat)) => oz_qw G cB cI (va_A [(h, .inr (2, [.null, .int 0, .null, .int 0, .int 0, .null]))] sz) [oz_oM h u.1 0 u.2.1 0 0 u.2.2, oz_oI cI u.1 256 oz_z8, oz_oI cI u.2.1 2048 oz_z8, oz_oI cI u.2.2 0 oz_z8]) (va_A [(h, .inr (2, [.null, .int 0, .null, .int 0, .int 0, .null]))] sz)) 3 2304 (va_A [(h, .inr (2, [.null, .int 0, .null, .int 0, .int 0, .null]))] sz) := by
  refine Met.ofW (cc := cX2_init) (maxL := 1) (ret := none) (by decide) rfl ?_
  intro p e s m args below meth c s₁ B hml hv
  obtain ⟨rfl, hsz, hP, hK, hD0⟩ := hv
  have hx := B.exec
  have hb := B.bytes
  have hr := B.returns
  have hts := atoms_spec (ws := (ws_ yX2_init cX2_init 1 none)) B.pre
  have hts : ∀ w ∈ lw_all, w.before _ s = true := fun w h => hts w (List.mem_cons_of_mem _ h)
  have hown : s.vm.findClass RX2 = some m.cls := findClass_of_methodNamed B.named
  have hlocks := B.notSynchronized
  have hin : meth.name = "<init>" := (name_of_methodNamed B.named B.method).1
  subst hsz
  have hD := hD0.self (sz := s.heap.size)
  generalize hAe : va_A [(h, .inr (2, [.null, .int 0, .null, .int 0, .int 0, .null]))] s.heap.size = A at hD ⊢
  have hA : ∀ q9 : Nat, s.heap.size ≤ q9 → A q9 := fun q9 h => by rw [← hAe]; exact Or.inr h
  have hS : va_S A s.heap s.heap [] := va_S.rf
  have hP : va_P G vwCl [(h, .inr (2, [.null, .int 0, .null, .int 0, .int 0, .null]))] s.heap := hP
  have hl := lv_entry ([.ref h]) (n := 1) (Nat.le_of_ble_eq_true rfl)
  rw [lg_entry_eq]
  generalize (lg_sl ([.ref h]) ++ List.replicate (1 - (lg_sl ([.ref h])).length) Slot.unset).toArray = ls at hl ⊢
  have hl : lv_has ls 1 [(0, .ref h)] := hl
  refine lv_aload_n hx hb dX2_init_0 rfl (lv_at hl 0 rfl) ?_
  refine W.objInit hx hb hown (hts _ q238) (hts _ q22) (hts _ q23) rfl (by rw [hml]; exact hl.1) rfl dX2_init_1 (Nat.le_of_ble_eq_true rfl) (Nat.le_of_ble_eq_true rfl) ?_
  refine W.eq (g2 := F0 m 4 ls []) rfl ?_
  refine lv_aload_n hx hb dX2_init_4 rfl (lv_at hl 0 rfl) ?_
  refine lv_sipush (v := nI 256) hx hb dX2_init_5 (by decide) ?_
  refine oz_ki_new hx hb (hts _ q258) hK hP hD hS hA (N := 256) (by decide) (Nat.le_of_ble_eq_true rfl) (Nat.le_of_ble_eq_true rfl) dX2_init_8 (fun tx H hP hD hS => ?_)
  have hP : va_P G vwCl [(h, .inr (2, [.null, .int 0, .null, .int 0, .int 0, .null])), oz_oI cI tx 256 oz_z8] H := hP
  have hD : va_D A [(h, .inr (2, [.null, .int 0, .null, .int 0, .int 0, .null])), oz_oI cI tx 256 oz_z8] := hD
  refine va_putF (D := G) (ci := 2) (v := .ref tx) (ty := .array .int) (C := RX2) (T := TX2) (N := 6) hx hb hts in_X2 tyX2 tyX2_ok nmX2 hown hK hP hD hS 0 rfl rfl 0 (by decide) (hts _ q239) (fun _ h9 => h9) rfl hin rfl (by decide +kernel) rfl rfl (Nat.le_of_ble_eq_true rfl) dX2_init_10 (fun H locs hP hD hS => ?_)
  have hP : va_P G vwCl [(h, .inr (2, [.ref tx, .int 0, .null, .int 0, .int 0, .null])), oz_oI cI tx 256 oz_z8] H := hP
  have hD : va_D A [(h, .inr (2, [.ref tx, .int 0, .null, .int 0, .int 0, .null])), oz_oI cI tx 256 oz_z8] := hD
  refine lv_aload_n hx hb dX2_init_13 rfl (lv_at hl 0 rfl) ?_
  refine lv_sipush (v := nI 2048) hx hb dX2_init_14 (by decide) ?_
  refine oz_ki_new hx hb (hts _ q258) hK hP hD hS hA (N := 2048) (by decide) (Nat.le_of_ble_eq_true rfl) (Nat.le_of_ble_eq_true rfl) dX2_init_17 (fun wi H hP hD hS => ?_)
  have hP : va_P G vwCl [(h, .inr (2, [.ref tx, .int 0, .null, .int 0, .int 0, .null])), oz_oI cI tx 256 oz_z8, oz_oI cI wi 2048 oz_z8] H := hP
  have hD : va_D A [(h, .inr (2, [.ref tx, .int 0, .null, .int 0, .int 0, .null])), oz_oI cI tx 256 oz_z8, oz_oI cI wi 2048 oz_z8] := hD
  refine va_put (D := G) (ci := 2) (v := .ref wi) (ty := .array .int) (C := RX2) (T := TX2) (N := 6) hx hb hts in_X2 tyX2 tyX2_ok nmX2 hown hK hP hD hS 0 rfl rfl 2 (by decide) (hts _ q241) (fun _ h9 => h9) rfl (by decide +kernel) rfl rfl (Nat.le_of_ble_eq_true rfl) dX2_init_19 (fun H locs hP hD hS => ?_)
  have hP : va_P G vwCl [(h, .inr (2, [.ref tx, .int 0, .ref wi, .int 0, .int 0, .null])), oz_oI cI tx 256 oz_z8, oz_oI cI wi 2048 oz_z8] H := hP
  have hD : va_D A [(h, .inr (2, [.ref tx, .int 0, .ref wi, .int 0, .int 0, .null])), oz_oI cI tx 256 oz_z8, oz_oI cI wi 2048 oz_z8] := hD
  refine lv_aload_n hx hb dX2_init_22 rfl (lv_at hl 0 rfl) ?_
  refine lv_iconst (v := nI 0) hx hb dX2_init_23 (by decide) ?_
  refine oz_ki_new hx hb (hts _ q258) hK hP hD hS hA (N := 0) (by decide) (Nat.le_of_ble_eq_true rfl) (Nat.le_of_ble_eq_true rfl) dX2_init_24 (fun la H hP hD hS => ?_)
  have hP : va_P G vwCl [(h, .inr (2, [.ref tx, .int 0, .ref wi, .int 0, .int 0, .null])), oz_oI cI tx 256 oz_z8, oz_oI cI wi 2048 oz_z8, oz_oI cI la 0 oz_z8] H := hP
  have hD : va_D A [(h, .inr (2, [.ref tx, .int 0, .ref wi, .int 0, .int 0, .null])), oz_oI cI tx 256 oz_z8, oz_oI cI wi 2048 oz_z8, oz_oI cI la 0 oz_z8] := hD
  refine va_put (D := G) (ci := 2) (v := .ref la) (ty := .array .int) (C := RX2) (T := TX2) (N := 6) hx hb hts in_X2 tyX2 tyX2_ok nmX2 hown hK hP hD hS 0 rfl rfl 5 (by decide) (hts _ q244) (fun _ h9 => h9) rfl (by decide +kernel) rfl rfl (Nat.le_of_ble_eq_true rfl) dX2_init_26 (fun H locs hP hD hS => ?_)
  have hP : va_P G vwCl [(h, .inr (2, [.ref tx, .int 0, .ref wi, .int 0, .int 0, .ref la])), oz_oI cI tx 256 oz_z8, oz_oI cI wi 2048 oz_z8, oz_oI cI la 0 oz_z8] H := hP
  have hD : va_D A [(h, .inr (2, [.ref tx, .int 0, .ref wi, .int 0, .int 0, .ref la])), oz_oI cI tx 256 oz_z8, oz_oI cI wi 2048 oz_z8, oz_oI cI la 0 oz_z8] := hD
  exact W.vret hx hb hr (fun t9 ht hW => ⟨⟨(tx, wi, la), rfl, trivial, by rw [ht]; exact hP, va_K.moved hW.alike hK, hD⟩, hS.F ht⟩) hS.2.2 dX2_init_29

/-- lay: the last m1 bytes of v, the highest first -/
abbrev rm_X2_lay : Room := ({ frames := 0, cells := 0, slots := 0, locals := 0 } : Room)
set_option maxHeartbeats 4000000 in
set_option maxRecDepth 100000 in
theorem mt_X2_lay (l : Launch) (G : va_G) (cB cI : ClassId) (sz : Nat) (h tx wi la n r i k : Nat) (fT fW fR : Nat → oz_By) (v m1 : Nat) (hn : n ≤ 256) (hr0 : r ≤ 2048) (hi : i ≤ 2048) (hk : k ≤ i) (hv : v < 2 ^ 64) (hm : m1 ≤ 8) (him : i + m1 ≤ 2048) : Met l yX2_lay (ws_ yX2_lay cX2_lay 5 none) rm_X2_lay (va_Pc [.ref h, .long (lN v), .int (nI m1)] (oz_pw G cB cI sz [oz_oM h tx n wi i k la, oz_oI cI tx 256 fT, oz_oI cI wi 2048 fW, oz_oI cI la r fR])) (va_Qv (fun _ : Unit => True) (fun (u : Unit) => oz_qw G cB cI (va_A [oz_oM h tx n wi i k la, oz_oI cI tx 256 fT, oz_oI cI wi 2048 fW, oz_oI cI la r fR] sz) [oz_oM h tx n wi (i + m1) k la, oz_oI cI tx 256 fT, oz_oI cI wi 2048 (oz_pb fW i m1 v), oz_oI cI la r fR]) (va_A [oz_oM h tx n wi i k la, oz_oI cI tx 256 fT, oz_oI cI wi 2048 fW, oz_oI cI la r fR] sz)) 0 0 (va_A [oz_oM h tx n wi i k la, oz_oI cI tx 256 fT, oz_oI cI wi 2048 fW, oz_oI cI la r fR] sz) := by
  refine Met.ofW (cc := cX2_lay) (maxL := 5) (ret := none) (by decide) rfl ?_
  intro p e s m args below meth c s₁ B hml hv
  obtain ⟨rfl, hsz, hP, hK, hD0⟩ := hv
  have hx := B.exec
  have hb := B.bytes
  have hr := B.returns
  have hts := atoms_spec (ws := (ws_ yX2_lay cX2_lay 5 none)) B.pre
  have hts : ∀ w ∈ lw_all, w.before _ s = true := fun w h => hts w (List.mem_cons_of_mem _ h)
  have hown : s.vm.findClass RX2 = some m.cls := findClass_of_methodNamed B.named
  have hlocks := B.notSynchronized
  subst hsz
  have hD := hD0.self (sz := s.heap.size)
  generalize hAe : va_A [oz_oM h tx n wi i k la, oz_oI cI tx 256 fT, oz_oI cI wi 2048 fW, oz_oI cI la r fR] s.heap.size = A at hD ⊢
  have hA : ∀ q9 : Nat, s.heap.size ≤ q9 → A q9 := fun q9 h => by rw [← hAe]; exact Or.inr h
  have hS : va_S A s.heap s.heap [] := va_S.rf
  have hP : va_P G vwCl [oz_oM h tx n wi i k la, oz_oI cI tx 256 fT, oz_oI cI wi 2048 fW, oz_oI cI la r fR] s.heap := hP
  have hl := lv_entry ([.ref h, .long (lN v), .int (nI m1)]) (n := 5) (Nat.le_of_ble_eq_true rfl)
  rw [lg_entry_eq]
  generalize (lg_sl ([.ref h, .long (lN v), .int (nI m1)]) ++ List.replicate (5 - (lg_sl ([.ref h, .long (lN v), .int (nI m1)])).length) Slot.unset).toArray = ls at hl ⊢
  have hl : lv_has ls 5 [(0, .ref h), (1, .long (lN v)), (3, .int (nI m1))] := hl
  refine lv_iload_n hx hb dX2_lay_0 rfl (lv_at hl 2 rfl) ?_
  refine lv_iconst (v := nI 1) hx hb dX2_lay_1 (by decide) ?_
  refine lv_isub hx hb dX2_lay_2 ?_
  refine oz_ktop (y := nI m1 - 1) (rfl) ?_
  refine lv_istore (lv' := [(4, .int (nI m1 - 1)), (0, .ref h), (1, .long (lN v)), (3, .int (nI m1))]) hx hb dX2_lay_3 hl (by decide) rfl (fun ls hl => ?_)
  rw [← oz_pp_0 fW i m1 v] at hP hD
  have loop : ∀ (d : Nat) (j : Nat), j + d = m1 → ∀ (H : Heap) (locs : List Loc), va_P G vwCl [oz_oM h tx n wi (i + j) k la, oz_oI cI tx 256 fT, oz_oI cI wi 2048 (oz_pp fW i m1 v j), oz_oI cI la r fR] H → va_D A [oz_oM h tx n wi (i + j) k la, oz_oI cI tx 256 fT, oz_oI cI wi 2048 (oz_pp fW i m1 v j), oz_oI cI la r fR] → va_S A s.heap H locs → ∀ (ls : Array Slot), lv_has ls 5 [(4, .int (nI d - 1)), (0, .ref h), (1, .long (lN v)), (3, .int (nI m1))] → W p l e (headSpec (ws_ yX2_lay cX2_lay 5 none) rm_X2_lay).room s m ([.ref h, .long (lN v), .int (nI m1)] : List Value).toArray below meth c H locs 0 0 (MQ below (va_Qv (fun _ : Unit => True) (fun (u : Unit) => oz_qw G cB cI A [oz_oM h tx n wi (i + m1) k la, oz_oI cI tx 256 fT, oz_oI cI wi 2048 (oz_pb fW i m1 v), oz_oI cI la r fR]) A) ([.ref h, .long (lN v), .int (nI m1)] : List Value).toArray s 0 0 A) (F0 m 5 ls []) := by
    intro d
    induction d with
    | zero =>
      intro j hj H locs hP hD hS ls hl
      refine lv_iload hx hb dX2_lay_5 (lv_at hl 0 rfl) ?_
      refine lv_if_lt (tgt := 47) hx hb dX2_lay_7 (by decide) (fun _ => ?_) (fun h1 => absurd oz_m1_lt h1)
      have hj2 : j = m1 := by omega
      rw [hj2] at hP hD
      exact W.vret hx hb hr (fun t9 ht hW => ⟨⟨(), rfl, trivial, by rw [ht]; exact hP, va_K.moved hW.alike hK, hD⟩, hS.F ht⟩) hS.2.2 dX2_lay_47
    | succ d ih =>
      intro j hj H locs hP hD hS ls hl
      rw [nI_pred] at hl
      refine lv_iload hx hb dX2_lay_5 (lv_at hl 0 rfl) ?_
      refine oz_kj_lt0 hx hb (by omega) (tgt := 47) dX2_lay_7 (by decide) (fun h1 => ?_) (fun h1 => ?_)
      · omega
      · have e5 : oz_un (oz_pp fW i m1 v j) (i + j) (oz_bN (v / 2 ^ (8 * d))) = oz_pp fW i m1 v (j + 1) := by
          have e6 : d = m1 - 1 - j := by omega
          rw [e6, oz_pp_s]
        refine lv_aload_n hx hb dX2_lay_10 rfl (lv_at hl 1 rfl) ?_
        refine va_get (D := G) (ci := 2) (v := .ref wi) (C := RX2) (T := TX2) (N := 6) hx hb hts in_X2 hown hK hP 0 rfl rfl 2 (by decide) (hts _ q241) (fun _ h9 => h9) rfl dX2_lay_11 ?_
        refine lv_aload_n hx hb dX2_lay_14 rfl (lv_at hl 1 rfl) ?_
        refine va_get (D := G) (ci := 2) (v := .int (nI (i + j))) (C := RX2) (T := TX2) (N := 6) hx hb hts in_X2 hown hK hP 0 rfl rfl 3 (by decide) (hts _ q242) (fun _ h9 => h9) rfl dX2_lay_15 ?_
        refine lv_lload_n hx hb dX2_lay_18 rfl (lv_at hl 2 rfl) ?_
        refine lv_bipush (v := nI 8) hx hb dX2_lay_19 (by decide) ?_
        refine lv_iload hx hb dX2_lay_21 (lv_at hl 0 rfl) ?_
        refine lv_imul hx hb dX2_lay_23 ?_
        refine oz_ktop (y := nI (8 * d)) (pk_mul 8 d) ?_
        refine lv_lushr (v := lN (v / 2 ^ (8 * d))) hx hb dX2_lay_24 (oz_ushr_L (8 * d) (by omega) hv) ?_
        refine lv_ldc2 hx hb hown (hts _ q284) dX2_lay_25 ?_
        refine lv_land hx hb dX2_lay_28 ?_
        refine oz_ktopl (y := lN (v / 2 ^ (8 * d) % 256)) (oz_and_8L (Nat.lt_of_le_of_lt (Nat.div_le_self _ _) hv)) ?_
        refine lv_l2i (v := nI (v / 2 ^ (8 * d) % 256)) hx hb dX2_lay_29 (lN_i (v / 2 ^ (8 * d) % 256)) ?_
        refine oz_ki_st (w2 := [oz_oM h tx n wi (i + j) k la, oz_oI cI tx 256 fT, oz_oI cI wi 2048 (oz_pp fW i m1 v (j + 1)), oz_oI cI la r fR]) hx hb hK hP hD hS 2 (oz_bN (v / 2 ^ (8 * d))) rfl (by omega) (by decide) (oz_nI_b _) dX2_lay_30 (by rw [e5]; rfl) (fun H locs hP hD hS => ?_)
        refine lv_aload_n hx hb dX2_lay_31 rfl (lv_at hl 1 rfl) ?_
        refine lv_dup hx hb dX2_lay_32 rfl ?_
        refine va_get (D := G) (ci := 2) (v := .int (nI (i + j))) (C := RX2) (T := TX2) (N := 6) hx hb hts in_X2 hown hK hP 0 rfl rfl 3 (by decide) (hts _ q242) (fun _ h9 => h9) rfl dX2_lay_33 ?_
        refine lv_iconst (v := nI 1) hx hb dX2_lay_36 (by decide) ?_
        refine oz_kadd hx hb dX2_lay_37 ?_
        refine va_put (D := G) (ci := 2) (v := .int (nI (i + j + 1))) (ty := .int) (C := RX2) (T := TX2) (N := 6) hx hb hts in_X2 tyX2 tyX2_ok nmX2 hown hK hP hD hS 0 rfl rfl 3 (by decide) (hts _ q242) (fun _ h9 => h9) rfl (by decide +kernel) rfl rfl (Nat.le_of_ble_eq_true rfl) dX2_lay_38 (fun H locs hP hD hS => ?_)
        have hP : va_P G vwCl [oz_oM h tx n wi (i + j + 1) k la, oz_oI cI tx 256 fT, oz_oI cI wi 2048 (oz_pp fW i m1 v (j + 1)), oz_oI cI la r fR] H := hP
        have hD : va_D A [oz_oM h tx n wi (i + j + 1) k la, oz_oI cI tx 256 fT, oz_oI cI wi 2048 (oz_pp fW i m1 v (j + 1)), oz_oI cI la r fR] := hD
        refine lv_iinc (v := nI d - 1) (lv' := [(4, .int (nI d - 1)), (0, .ref h), (1, .long (lN v)), (3, .int (nI m1))]) hx hb dX2_lay_41 hl (k := 0) rfl (oz_dec_1 d) (by decide) rfl (fun ls hl => ?_)
        refine lv_goto (tgt := 5) hx hb dX2_lay_44 (by decide) ?_
        have hP : va_P G vwCl [oz_oM h tx n wi (i + (j + 1)) k la, oz_oI cI tx 256 fT, oz_oI cI wi 2048 (oz_pp fW i m1 v (j + 1)), oz_oI cI la r fR] H := hP
        have hD : va_D A [oz_oM h tx n wi (i + (j + 1)) k la, oz_oI cI tx 256 fT, oz_oI cI wi 2048 (oz_pp fW i m1 v (j + 1)), oz_oI cI la r fR] := hD
        exact ih (j + 1) (by omega) H locs hP hD hS ls (lv_sub hl [0, 1, 2, 3] rfl)
  exact loop m1 0 (Nat.zero_add _) _ _ hP hD hS ls (lv_sub hl [0, 1, 2, 3] rfl)

/-- layAll: a row of bytes -/
abbrev rm_X2_layAll : Room := ({ frames := 1, cells := 0, slots := 0, locals := 24 } : Room)
set_option maxHeartbeats 4000000 in
set_option maxRecDepth 100000 in
theorem mt_X2_layAll (l : Launch) (G : va_G) (cB cI : ClassId) (sz : Nat) (h tx wi la n r i k : Nat) (fT fW fR : Nat → oz_By) (z zn : Nat) (fZ : Nat → oz_By) (hn : n ≤ 256) (hr0 : r ≤ 2048) (hi : i ≤ 2048) (hk : k ≤ i) (hzn : zn < 2 ^ 31) (hiz : i + zn ≤ 2048) : Met l yX2_layAll (ws_ yX2_layAll cX2_layAll 6 none) rm_X2_layAll (va_Pc [.ref h, .ref z] (oz_pw G cB cI sz [oz_oM h tx n wi i k la, oz_oI cI tx 256 fT, oz_oI cI wi 2048 fW, oz_oI cI la r fR, oz_oI cI z zn fZ])) (va_Qv (fun _ : Unit => True) (fun (u : Unit) => oz_qw G cB cI (va_A [oz_oM h tx n wi i k la, oz_oI cI tx 256 fT, oz_oI cI wi 2048 fW, oz_oI cI la r fR, oz_oI cI z zn fZ] sz) [oz_oM h tx n wi (i + zn) k la, oz_oI cI tx 256 fT, oz_oI cI wi 2048 (va_cpy fZ fW 0 i zn), oz_oI cI la r fR, oz_oI cI z zn fZ]) (va_A [oz_oM h tx n wi i k la, oz_oI cI tx 256 fT, oz_oI cI wi 2048 fW, oz_oI cI la r fR, oz_oI cI z zn fZ] sz)) 0 0 (va_A [oz_oM h tx n wi i k la, oz_oI cI tx 256 fT, oz_oI cI wi 2048 fW, oz_oI cI la r fR, oz_oI cI z zn fZ] sz) := by
  refine Met.ofW (cc := cX2_layAll) (maxL := 6) (ret := none) (by decide) rfl ?_
  intro p e s m args below meth c s₁ B hml hv
  obtain ⟨rfl, hsz, hP, hK, hD0⟩ := hv
  have hx := B.exec
  have hb := B.bytes
  have hr := B.returns
  have hts := atoms_spec (ws := (ws_ yX2_layAll cX2_layAll 6 none)) B.pre
  have hts : ∀ w ∈ lw_all, w.before _ s = true := fun w h => hts w (List.mem_cons_of_mem _ h)
  have hown : s.vm.findClass RX2 = some m.cls := findClass_of_methodNamed B.named
  have hlocks := B.notSynchronized
  subst hsz
  have hD := hD0.self (sz := s.heap.size)
  generalize hAe : va_A [oz_oM h tx n wi i k la, oz_oI cI tx 256 fT, oz_oI cI wi 2048 fW, oz_oI cI la r fR, oz_oI cI z zn fZ] s.heap.size = A at hD ⊢
  have hA : ∀ q9 : Nat, s.heap.size ≤ q9 → A q9 := fun q9 h => by rw [← hAe]; exact Or.inr h
  have hS : va_S A s.heap s.heap [] := va_S.rf
  have hP : va_P G vwCl [oz_oM h tx n wi i k la, oz_oI cI tx 256 fT, oz_oI cI wi 2048 fW, oz_oI cI la r fR, oz_oI cI z zn fZ] s.heap := hP
  have hl := lv_entry ([.ref h, .ref z]) (n := 6) (Nat.le_of_ble_eq_true rfl)
  rw [lg_entry_eq]
  generalize (lg_sl ([.ref h, .ref z]) ++ List.replicate (6 - (lg_sl ([.ref h, .ref z])).length) Slot.unset).toArray = ls at hl ⊢
  have hl : lv_has ls 6 [(0, .ref h), (1, .ref z)] := hl
  refine lv_aload_n hx hb dX2_layAll_0 rfl (lv_at hl 1 rfl) ?_
  refine lv_astore_n (lv' := [(2, .ref z), (0, .ref h), (1, .ref z)]) hx hb dX2_layAll_1 rfl hl (by decide) rfl (fun ls hl => ?_)
  refine lv_aload_n hx hb dX2_layAll_2 rfl (lv_at hl 0 rfl) ?_
  refine va_alen (v := nI zn) hx hb hK hP 4 1 rfl rfl rfl dX2_layAll_3 ?_
  refine lv_istore_n (lv' := [(3, .int (nI zn)), (2, .ref z), (0, .ref h), (1, .ref z)]) hx hb dX2_layAll_4 rfl hl (by decide) rfl (fun ls hl => ?_)
  refine lv_iconst (v := nI 0) hx hb dX2_layAll_5 (by decide) ?_
  refine lv_istore (lv' := [(4, .int (nI 0)), (3, .int (nI zn)), (2, .ref z), (0, .ref h), (1, .ref z)]) hx hb dX2_layAll_6 hl (by decide) rfl (fun ls hl => ?_)
  rw [← oz_cp_0 fZ fW i] at hP hD
  have loop : ∀ (d : Nat) (j : Nat), j + d = zn → ∀ (H : Heap) (locs : List Loc), va_P G vwCl [oz_oM h tx n wi (i + j) k la, oz_oI cI tx 256 fT, oz_oI cI wi 2048 (va_cpy fZ fW 0 i j), oz_oI cI la r fR, oz_oI cI z zn fZ] H → va_D A [oz_oM h tx n wi (i + j) k la, oz_oI cI tx 256 fT, oz_oI cI wi 2048 (va_cpy fZ fW 0 i j), oz_oI cI la r fR, oz_oI cI z zn fZ] → va_S A s.heap H locs → ∀ (ls : Array Slot), lv_has ls 6 [(4, .int (nI j)), (3, .int (nI zn)), (2, .ref z), (0, .ref h), (1, .ref z)] → W p l e (headSpec (ws_ yX2_layAll cX2_layAll 6 none) rm_X2_layAll).room s m ([.ref h, .ref z] : List Value).toArray below meth c H locs 0 0 (MQ below (va_Qv (fun _ : Unit => True) (fun (u : Unit) => oz_qw G cB cI A [oz_oM h tx n wi (i + zn) k la, oz_oI cI tx 256 fT, oz_oI cI wi 2048 (va_cpy fZ fW 0 i zn), oz_oI cI la r fR, oz_oI cI z zn fZ]) A) ([.ref h, .ref z] : List Value).toArray s 0 0 A) (F0 m 8 ls []) := by
    intro d
    induction d with
    | zero =>
      intro j hj H locs hP hD hS ls hl
      refine lv_iload hx hb dX2_layAll_8 (lv_at hl 0 rfl) ?_
      refine lv_iload_n hx hb dX2_layAll_10 rfl (lv_at hl 1 rfl) ?_
      refine oz_kj_ge hx hb (by omega) (by omega) (tgt := 34) dX2_layAll_11 (by decide) (fun h1 => ?_) (fun h1 => ?_)
      · have hj2 : j = zn := by omega
        rw [hj2] at hP hD
        exact W.vret hx hb hr (fun t9 ht hW => ⟨⟨(), rfl, trivial, by rw [ht]; exact hP, va_K.moved hW.alike hK, hD⟩, hS.F ht⟩) hS.2.2 dX2_layAll_34
      · omega
    | succ d ih =>
      intro j hj H locs hP hD hS ls hl
      refine lv_iload hx hb dX2_layAll_8 (lv_at hl 0 rfl) ?_
      refine lv_iload_n hx hb dX2_layAll_10 rfl (lv_at hl 1 rfl) ?_
      refine oz_kj_ge hx hb (by omega) (by omega) (tgt := 34) dX2_layAll_11 (by decide) (fun h1 => ?_) (fun h1 => ?_)
      · omega
      · have g := oz_by_lt (fZ j)
        refine lv_aload_n hx hb dX2_layAll_14 rfl (lv_at hl 2 rfl) ?_
        refine lv_iload hx hb dX2_layAll_15 (lv_at hl 0 rfl) ?_
        refine oz_ki_ld hx hb hK hP 4 rfl (h1) (hzn) dX2_layAll_17 ?_
        refine lv_istore (lv' := [(5, .int (nI ((fZ j).toNat))), (4, .int (nI j)), (3, .int (nI zn)), (2, .ref z), (0, .ref h), (1, .ref z)]) hx hb dX2_layAll_18 hl (by decide) rfl (fun ls hl => ?_)
        refine lv_aload_n hx hb dX2_layAll_20 rfl (lv_at hl 4 rfl) ?_
        refine lv_iload hx hb dX2_layAll_21 (lv_at hl 0 rfl) ?_
        refine lv_i2l (v := lN ((fZ j).toNat)) hx hb dX2_layAll_23 (oz_i2l_s (by omega)) ?_
        refine lv_iconst (v := nI 1) hx hb dX2_layAll_24 (by decide) ?_
        refine oz_kc_v (nA := 2) (As := [.long (lN ((fZ j).toNat)), .int (nI 1)]) (rest := []) (wr := [oz_oI cI z zn fZ]) (w3 := fun (u : Unit) => [oz_oI cI z zn fZ, oz_oM h tx n wi ((i + j) + 1) k la, oz_oI cI tx 256 fT, oz_oI cI wi 2048 (oz_pb (va_cpy fZ fW 0 i j) (i + j) 1 ((fZ j).toNat)), oz_oI cI la r fR]) (C := RX2) hx hb hml hown hts hK hP hD hS hA (mt_X2_lay l G cB cI H.size h tx wi la n r (i + j) k fT (va_cpy fZ fW 0 i j) fR ((fZ j).toNat) 1 hn hr0 (by omega) (by omega) (by omega) (by decide) (by omega)) (lw_V q280 q282 qs6 q14 q283) rfl rfl (by decide +kernel) rfl ⟨Nat.le_of_ble_eq_true rfl, Nat.le_of_ble_eq_true rfl⟩ [0, 1, 2, 3] [4] rfl rfl rfl rfl (by decide) 0 rfl rfl rfl hl.1 (Nat.le_of_ble_eq_true rfl) dX2_layAll_25 ⟨Nat.le_of_ble_eq_true rfl, Nat.le_of_ble_eq_true rfl⟩ (fun _ => rfl) (fun _ H locs hP hD hS => ?_)
        have hP : va_P G vwCl [oz_oI cI z zn fZ, oz_oM h tx n wi ((i + j) + 1) k la, oz_oI cI tx 256 fT, oz_oI cI wi 2048 (oz_pb (va_cpy fZ fW 0 i j) (i + j) 1 ((fZ j).toNat)), oz_oI cI la r fR] H := hP
        have hD : va_D A [oz_oI cI z zn fZ, oz_oM h tx n wi ((i + j) + 1) k la, oz_oI cI tx 256 fT, oz_oI cI wi 2048 (oz_pb (va_cpy fZ fW 0 i j) (i + j) 1 ((fZ j).toNat)), oz_oI cI la r fR] := hD
        have hP := hP.sub (ws' := [oz_oM h tx n wi ((i + j) + 1) k la, oz_oI cI tx 256 fT, oz_oI cI wi 2048 (oz_pb (va_cpy fZ fW 0 i j) (i + j) 1 ((fZ j).toNat)), oz_oI cI la r fR, oz_oI cI z zn fZ]) [1, 2, 3, 4, 0] rfl
        have hD := hD.sub (ws' := [oz_oM h tx n wi ((i + j) + 1) k la, oz_oI cI tx 256 fT, oz_oI cI wi 2048 (oz_pb (va_cpy fZ fW 0 i j) (i + j) 1 ((fZ j).toNat)), oz_oI cI la r fR, oz_oI cI z zn fZ]) [1, 2, 3, 4, 0] (by decide) rfl
        rw [oz_pb_1, oz_bN_u, oz_cp_s] at hP hD
        have hP : va_P G vwCl [oz_oM h tx n wi (i + (j + 1)) k la, oz_oI cI tx 256 fT, oz_oI cI wi 2048 (va_cpy fZ fW 0 i (j + 1)), oz_oI cI la r fR, oz_oI cI z zn fZ] H := hP
        have hD : va_D A [oz_oM h tx n wi (i + (j + 1)) k la, oz_oI cI tx 256 fT, oz_oI cI wi 2048 (va_cpy fZ fW 0 i (j + 1)), oz_oI cI la r fR, oz_oI cI z zn fZ] := hD
        refine lv_iinc (v := nI (j + 1)) (lv' := [(4, .int (nI (j + 1))), (5, .int (nI ((fZ j).toNat))), (3, .int (nI zn)), (2, .ref z), (0, .ref h), (1, .ref z)]) hx hb dX2_layAll_28 hl (k := 1) rfl (nI_add j 1) (by decide) rfl (fun ls hl => ?_)
        refine lv_goto (tgt := 8) hx hb dX2_layAll_31 (by decide) ?_
        exact ih (j + 1) (by omega) H locs hP hD hS ls (lv_sub hl [0, 2, 3, 4, 5] rfl)
  exact loop zn 0 (Nat.zero_add _) _ _ hP hD hS ls (lv_sub hl [0, 1, 2, 3, 4] rfl)

/-- part: bytes of the text -/
abbrev rm_X2_part : Room := ({ frames := 1, cells := 1, slots := 256, locals := 21 } : Room)
set_option maxHeartbeats 4000000 in
set_option maxRecDepth 100000 in
theorem mt_X2_part (l : Launch) (G : va_G) (cB cI : ClassId) (sz : Nat) (h tx wi la n r i k : Nat) (fT fW fR : Nat → oz_By) (v1 v2 : Nat) (hn : n ≤ 256) (hr0 : r ≤ 2048) (hi : i ≤ 2048) (hk : k ≤ i) (hv1 : v1 < 2 ^ 32) (hv2 : v2 < 2 ^ 32) : Met l yX2_part (ws_ yX2_part cX2_part 6 (some (.array .int))) rm_X2_part (va_Pc [.ref h, .int (nI v1), .int (nI v2)] (oz_pw G cB cI sz [oz_oM h tx n wi i k la, oz_oI cI tx 256 fT, oz_oI cI wi 2048 fW, oz_oI cI la r fR])) (va_Qr (fun _ : Unit => True) (fun (u : Unit) (z : Nat) => oz_qw G cB cI (va_A [oz_oM h tx n wi i k la, oz_oI cI tx 256 fT, oz_oI cI wi 2048 fW, oz_oI cI la r fR] sz) [oz_oM h tx n wi i k la, oz_oI cI tx 256 fT, oz_oI cI wi 2048 fW, oz_oI cI la r fR, oz_oI cI z (oz_ct v2 n (oz_fr v1 n)) (oz_sl fT (oz_fr v1 n) (oz_ct v2 n (oz_fr v1 n)))]) (va_A [oz_oM h tx n wi i k la, oz_oI cI tx 256 fT, oz_oI cI wi 2048 fW, oz_oI cI la r fR] sz)) 1 256 (va_A [oz_oM h tx n wi i k la, oz_oI cI tx 256 fT, oz_oI cI wi 2048 fW, oz_oI cI la r fR] sz) := by
  refine Met.ofW (cc := cX2_part) (maxL := 6) (ret := (some (.array .int))) (by decide) rfl ?_
  intro p e s m args below meth c s₁ B hml hv
  obtain ⟨rfl, hsz, hP, hK, hD0⟩ := hv
  have hx := B.exec
  have hb := B.bytes
  have hr := B.returns
  have hts := atoms_spec (ws := (ws_ yX2_part cX2_part 6 (some (.array .int)))) B.pre
  have hts : ∀ w ∈ lw_all, w.before _ s = true := fun w h => hts w (List.mem_cons_of_mem _ h)
  have hown : s.vm.findClass RX2 = some m.cls := findClass_of_methodNamed B.named
  have hlocks := B.notSynchronized
  subst hsz
  have hD := hD0.self (sz := s.heap.size)
  generalize hAe : va_A [oz_oM h tx n wi i k la, oz_oI cI tx 256 fT, oz_oI cI wi 2048 fW, oz_oI cI la r fR] s.heap.size = A at hD ⊢
  have hA : ∀ q9 : Nat, s.heap.size ≤ q9 → A q9 := fun q9 h => by rw [← hAe]; exact Or.inr h
  have hS : va_S A s.heap s.heap [] := va_S.rf
  have hP : va_P G vwCl [oz_oM h tx n wi i k la, oz_oI cI tx 256 fT, oz_oI cI wi 2048 fW, oz_oI cI la r fR] s.heap := hP
  have hl := lv_entry ([.ref h, .int (nI v1), .int (nI v2)]) (n := 6) (Nat.le_of_ble_eq_true rfl)
  rw [lg_entry_eq]
  generalize (lg_sl ([.ref h, .int (nI v1), .int (nI v2)]) ++ List.replicate (6 - (lg_sl ([.ref h, .int (nI v1), .int (nI v2)])).length) Slot.unset).toArray = ls at hl ⊢
  have hl : lv_has ls 6 [(0, .ref h), (1, .int (nI v1)), (2, .int (nI v2))] := hl
  have hf := oz_fr_le v1 n
  have hc := oz_ct_le (V := v2) hf
  refine lv_aload_n hx hb dX2_part_0 rfl (lv_at hl 0 rfl) ?_
  refine lv_iload_n hx hb dX2_part_1 rfl (lv_at hl 1 rfl) ?_
  refine oz_kc_i (nA := 1) (As := [.int (nI v1)]) (rest := []) (wr := []) (w3 := fun (u : Unit) => [oz_oM h tx n wi i k la, oz_oI cI tx 256 fT, oz_oI cI wi 2048 fW, oz_oI cI la r fR]) (C := RX2) hx hb hml hown hts hK hP hD hS hA (mt_X2_begin l G cB cI s.heap.size h tx wi la n r i k fT fW fR v1 hn hr0 hi hk hv1) (lw_V q267 q269 qs4 q14 q270) rfl rfl (by decide +kernel) rfl ⟨Nat.le_of_ble_eq_true rfl, Nat.le_of_ble_eq_true rfl⟩ [0, 1, 2, 3] [] rfl rfl rfl rfl (by decide) 0 rfl rfl rfl hl.1 (Nat.le_of_ble_eq_true rfl) dX2_part_2 ⟨Nat.le_of_ble_eq_true rfl, Nat.le_of_ble_eq_true rfl⟩ (fun _ => rfl) (fun _ H locs hP hD hS => ?_)
  have hP : va_P G vwCl [oz_oM h tx n wi i k la, oz_oI cI tx 256 fT, oz_oI cI wi 2048 fW, oz_oI cI la r fR] H := hP
  have hD : va_D A [oz_oM h tx n wi i k la, oz_oI cI tx 256 fT, oz_oI cI wi 2048 fW, oz_oI cI la r fR] := hD
  refine lv_istore_n (lv' := [(3, .int (nI (oz_fr v1 n))), (0, .ref h), (1, .int (nI v1)), (2, .int (nI v2))]) hx hb dX2_part_5 rfl hl (by decide) rfl (fun ls hl => ?_)
  refine lv_iload_n hx hb dX2_part_6 rfl (lv_at hl 3 rfl) ?_
  refine lv_ldc hx hb hown (hts _ q271) dX2_part_7 ?_
  refine lv_iand hx hb dX2_part_9 ?_
  refine oz_ktop (y := nI (v2 % 2147483648)) (oz_and_31 hv2) ?_
  refine lv_aload_n hx hb dX2_part_10 rfl (lv_at hl 1 rfl) ?_
  refine va_get (D := G) (ci := 2) (v := .int (nI n)) (C := RX2) (T := TX2) (N := 6) hx hb hts in_X2 hown hK hP 0 rfl rfl 1 (by decide) (hts _ q240) (fun _ h9 => h9) rfl dX2_part_11 ?_
  refine lv_iload_n hx hb dX2_part_14 rfl (lv_at hl 0 rfl) ?_
  refine oz_ksub hx hb (hf) dX2_part_15 ?_
  refine lv_iconst (v := nI 1) hx hb dX2_part_16 (by decide) ?_
  refine oz_kadd hx hb dX2_part_17 ?_
  refine oz_krem hx hb (by omega) (by omega) (by omega) dX2_part_18 ?_
  refine oz_ktop (y := nI (oz_ct v2 n (oz_fr v1 n))) (rfl) ?_
  refine oz_ki_new hx hb (hts _ q258) hK hP hD hS hA (N := (oz_ct v2 n (oz_fr v1 n))) (by omega) (Nat.le_of_ble_eq_true rfl) (show 0 + _ ≤ 256 by omega) dX2_part_19 (fun z H hP hD hS => ?_)
  have hP : va_P G vwCl [oz_oM h tx n wi i k la, oz_oI cI tx 256 fT, oz_oI cI wi 2048 fW, oz_oI cI la r fR, oz_oI cI z (oz_ct v2 n (oz_fr v1 n)) oz_z8] H := hP
  have hD : va_D A [oz_oM h tx n wi i k la, oz_oI cI tx 256 fT, oz_oI cI wi 2048 fW, oz_oI cI la r fR, oz_oI cI z (oz_ct v2 n (oz_fr v1 n)) oz_z8] := hD
  refine W.widen (k := 1) (n := 256) (Nat.le_of_ble_eq_true rfl) (show 0 + _ ≤ 256 by omega) ?_
  refine lv_astore (lv' := [(4, .ref z), (3, .int (nI (oz_fr v1 n))), (0, .ref h), (1, .int (nI v1)), (2, .int (nI v2))]) hx hb dX2_part_21 hl (by decide) rfl (fun ls hl => ?_)
  refine lv_iconst (v := nI 0) hx hb dX2_part_23 (by decide) ?_
  refine lv_istore (lv' := [(5, .int (nI 0)), (4, .ref z), (3, .int (nI (oz_fr v1 n))), (0, .ref h), (1, .int (nI v1)), (2, .int (nI v2))]) hx hb dX2_part_24 hl (by decide) rfl (fun ls hl => ?_)
  rw [← oz_sl_0 fT (oz_fr v1 n)] at hP hD
  have loop : ∀ (d : Nat) (j : Nat), j + d = oz_ct v2 n (oz_fr v1 n) → ∀ (H : Heap) (locs : List Loc), va_P G vwCl [oz_oM h tx n wi i k la, oz_oI cI tx 256 fT, oz_oI cI wi 2048 fW, oz_oI cI la r fR, oz_oI cI z (oz_ct v2 n (oz_fr v1 n)) (oz_sl fT (oz_fr v1 n) j)] H → va_D A [oz_oM h tx n wi i k la, oz_oI cI tx 256 fT, oz_oI cI wi 2048 fW, oz_oI cI la r fR, oz_oI cI z (oz_ct v2 n (oz_fr v1 n)) (oz_sl fT (oz_fr v1 n) j)] → va_S A s.heap H locs → ∀ (ls : Array Slot), lv_has ls 6 [(5, .int (nI j)), (4, .ref z), (3, .int (nI (oz_fr v1 n))), (0, .ref h), (1, .int (nI v1)), (2, .int (nI v2))] → W p l e (headSpec (ws_ yX2_part cX2_part 6 (some (.array .int))) rm_X2_part).room s m ([.ref h, .int (nI v1), .int (nI v2)] : List Value).toArray below meth c H locs 1 256 (MQ below (va_Qr (fun _ : Unit => True) (fun (u : Unit) (z : Nat) => oz_qw G cB cI A [oz_oM h tx n wi i k la, oz_oI cI tx 256 fT, oz_oI cI wi 2048 fW, oz_oI cI la r fR, oz_oI cI z (oz_ct v2 n (oz_fr v1 n)) (oz_sl fT (oz_fr v1 n) (oz_ct v2 n (oz_fr v1 n)))]) A) ([.ref h, .int (nI v1), .int (nI v2)] : List Value).toArray s 1 256 A) (F0 m 26 ls []) := by
    intro d
    induction d with
    | zero =>
      intro j hj H locs hP hD hS ls hl
      refine lv_iload hx hb dX2_part_26 (lv_at hl 0 rfl) ?_
      refine lv_aload hx hb dX2_part_28 (lv_at hl 1 rfl) ?_
      refine va_alen (v := nI (oz_ct v2 n (oz_fr v1 n))) hx hb hK hP 4 1 rfl rfl rfl dX2_part_30 ?_
      refine oz_kj_ge hx hb (by omega) (by omega) (tgt := 54) dX2_part_31 (by decide) (fun h1 => ?_) (fun h1 => ?_)
      · obtain rfl : j = oz_ct v2 n (oz_fr v1 n) := by omega
        refine lv_aload hx hb dX2_part_54 (lv_at hl 1 rfl) ?_
        exact W.aret (v := .ref z) hx hb hr (Or.inr ⟨_, rfl⟩) (Or.inr ⟨_, rfl⟩) (fun t9 ht hW => ⟨⟨(), z, rfl, trivial, by rw [ht]; exact hP, va_K.moved hW.alike hK, hD⟩, hS.F ht⟩) hS.2.2 dX2_part_56
      · omega
    | succ d ih =>
      intro j hj H locs hP hD hS ls hl
      refine lv_iload hx hb dX2_part_26 (lv_at hl 0 rfl) ?_
      refine lv_aload hx hb dX2_part_28 (lv_at hl 1 rfl) ?_
      refine va_alen (v := nI (oz_ct v2 n (oz_fr v1 n))) hx hb hK hP 4 1 rfl rfl rfl dX2_part_30 ?_
      refine oz_kj_ge hx hb (by omega) (by omega) (tgt := 54) dX2_part_31 (by decide) (fun h1 => ?_) (fun h1 => ?_)
      · omega
      · refine lv_aload hx hb dX2_part_34 (lv_at hl 1 rfl) ?_
        refine lv_iload hx hb dX2_part_36 (lv_at hl 0 rfl) ?_
        refine lv_aload_n hx hb dX2_part_38 rfl (lv_at hl 3 rfl) ?_
        refine va_get (D := G) (ci := 2) (v := .ref tx) (C := RX2) (T := TX2) (N := 6) hx hb hts in_X2 hown hK hP 0 rfl rfl 0 (by decide) (hts _ q239) (fun _ h9 => h9) rfl dX2_part_39 ?_
        refine lv_iload_n hx hb dX2_part_42 rfl (lv_at hl 2 rfl) ?_
        refine lv_iload hx hb dX2_part_43 (lv_at hl 0 rfl) ?_
        refine oz_kadd hx hb dX2_part_45 ?_
        refine oz_ki_ld hx hb hK hP 1 rfl (by omega) (by decide) dX2_part_46 ?_
        refine oz_ki_st (w2 := [oz_oM h tx n wi i k la, oz_oI cI tx 256 fT, oz_oI cI wi 2048 fW, oz_oI cI la r fR, oz_oI cI z (oz_ct v2 n (oz_fr v1 n)) (oz_sl fT (oz_fr v1 n) (j + 1))]) hx hb hK hP hD hS 4 (fT (oz_fr v1 n + j)) rfl (h1) (by omega) (rfl) dX2_part_47 (by rw [oz_sl_s]; rfl) (fun H locs hP hD hS => ?_)
        refine lv_iinc (v := nI (j + 1)) (lv' := [(5, .int (nI (j + 1))), (4, .ref z), (3, .int (nI (oz_fr v1 n))), (0, .ref h), (1, .int (nI v1)), (2, .int (nI v2))]) hx hb dX2_part_48 hl (k := 0) rfl (nI_add j 1) (by decide) rfl (fun ls hl => ?_)
        refine lv_goto (tgt := 26) hx hb dX2_part_51 (by decide) ?_
        exact ih (j + 1) (by omega) H locs hP hD hS ls (lv_sub hl [0, 1, 2, 3, 4, 5] rfl)
  exact loop (oz_ct v2 n (oz_fr v1 n)) 0 (Nat.zero_add _) _ _ hP hD hS ls (lv_sub hl [0, 1, 2, 3, 4, 5] rfl)

/-- put: four words behind the text -/
abbrev rm_X2_put : Room := ({ frames := 0, cells := 1, slots := 4, locals := 0 } : Room)
set_option maxHeartbeats 4000000 in
set_option maxRecDepth 100000 in
theorem mt_X2_put (l : Launch) (G : va_G) (cB cI : ClassId) (sz : Nat) (h tx wi la n r i k : Nat) (fT fW fR : Nat → oz_By) (v1 v2 v3 v4 : Nat) (hn : n ≤ 256) (hr0 : r ≤ 2048) (hi : i ≤ 2048) (hk : k ≤ i) (hv1 : v1 < 2 ^ 32) (hv2 : v2 < 2 ^ 32) (hv3 : v3 < 2 ^ 32) (hv4 : v4 < 2 ^ 32) : Met l yX2_put (ws_ yX2_put cX2_put 11 (some .boolean)) rm_X2_put (va_Pc [.ref h, .int (nI v1), .int (nI v2), .int (nI v3), .int (nI v4)] (oz_pw G cB cI sz [oz_oM h tx n wi i k la, oz_oI cI tx 256 fT, oz_oI cI wi 2048 fW, oz_oI cI la r fR])) (va_Qi (fun (x9 : Int32) (_ : Unit) => x9 = (if n + 16 ≤ 256 then (1 : Int32) else 0)) (fun (u : Unit) => oz_qw G cB cI (va_A [oz_oM h tx n wi i k la, oz_oI cI tx 256 fT, oz_oI cI wi 2048 fW, oz_oI cI la r fR] sz) [oz_oM h tx (if n + 16 ≤ 256 then n + 16 else n) wi i k la, oz_oI cI tx 256 (if n + 16 ≤ 256 then oz_pb (oz_pb (oz_pb (oz_pb fT n 4 v1) (n + 4) 4 v2) (n + 8) 4 v3) (n + 12) 4 v4 else fT), oz_oI cI wi 2048 fW, oz_oI cI la r fR]) (va_A [oz_oM h tx n wi i k la, oz_oI cI tx 256 fT, oz_oI cI wi 2048 fW, oz_oI cI la r fR] sz)) 1 4 (va_A [oz_oM h tx n wi i k la, oz_oI cI tx 256 fT, oz_oI cI wi 2048 fW, oz_oI cI la r fR] sz) := by
  refine Met.ofW (cc := cX2_put) (maxL := 11) (ret := (some .boolean)) (by decide) rfl ?_
  intro p e s m args below meth c s₁ B hml hv
  obtain ⟨rfl, hsz, hP, hK, hD0⟩ := hv
  have hx := B.exec
  have hb := B.bytes
  have hr := B.returns
  have hts := atoms_spec (ws := (ws_ yX2_put cX2_put 11 (some .boolean))) B.pre
  have hts : ∀ w ∈ lw_all, w.before _ s = true := fun w h => hts w (List.mem_cons_of_mem _ h)
  have hown : s.vm.findClass RX2 = some m.cls := findClass_of_methodNamed B.named
  have hlocks := B.notSynchronized
  subst hsz
  have hD := hD0.self (sz := s.heap.size)
  generalize hAe : va_A [oz_oM h tx n wi i k la, oz_oI cI tx 256 fT, oz_oI cI wi 2048 fW, oz_oI cI la r fR] s.heap.size = A at hD ⊢
  have hA : ∀ q9 : Nat, s.heap.size ≤ q9 → A q9 := fun q9 h => by rw [← hAe]; exact Or.inr h
  have hS : va_S A s.heap s.heap [] := va_S.rf
  have hP : va_P G vwCl [oz_oM h tx n wi i k la, oz_oI cI tx 256 fT, oz_oI cI wi 2048 fW, oz_oI cI la r fR] s.heap := hP
  have hl := lv_entry ([.ref h, .int (nI v1), .int (nI v2), .int (nI v3), .int (nI v4)]) (n := 11) (Nat.le_of_ble_eq_true rfl)
  rw [lg_entry_eq]
  generalize (lg_sl ([.ref h, .int (nI v1), .int (nI v2), .int (nI v3), .int (nI v4)]) ++ List.replicate (11 - (lg_sl ([.ref h, .int (nI v1), .int (nI v2), .int (nI v3), .int (nI v4)])).length) Slot.unset).toArray = ls at hl ⊢
  have hl : lv_has ls 11 [(0, .ref h), (1, .int (nI v1)), (2, .int (nI v2)), (3, .int (nI v3)), (4, .int (nI v4))] := hl
  refine lv_aload_n hx hb dX2_put_0 rfl (lv_at hl 0 rfl) ?_
  refine va_get (D := G) (ci := 2) (v := .int (nI n)) (C := RX2) (T := TX2) (N := 6) hx hb hts in_X2 hown hK hP 0 rfl rfl 1 (by decide) (hts _ q240) (fun _ h9 => h9) rfl dX2_put_1 ?_
  refine lv_bipush (v := nI 16) hx hb dX2_put_4 (by decide) ?_
  refine oz_kadd hx hb dX2_put_6 ?_
  refine lv_sipush (v := nI 256) hx hb dX2_put_7 (by decide) ?_
  refine oz_kj_le hx hb (by omega) (by decide) (tgt := 15) dX2_put_10 (by decide) (fun h1 => ?_) (fun h1 => ?_)
  · refine lv_iconst (v := nI 4) hx hb dX2_put_15 (by decide) ?_
    refine oz_ki_new hx hb (hts _ q258) hK hP hD hS hA (N := 4) (by decide) (Nat.le_of_ble_eq_true rfl) (Nat.le_of_ble_eq_true rfl) dX2_put_16 (fun z H hP hD hS => ?_)
    have hP : va_P G vwCl [oz_oM h tx n wi i k la, oz_oI cI tx 256 fT, oz_oI cI wi 2048 fW, oz_oI cI la r fR, oz_oI cI z 4 oz_z8] H := hP
    have hD : va_D A [oz_oM h tx n wi i k la, oz_oI cI tx 256 fT, oz_oI cI wi 2048 fW, oz_oI cI la r fR, oz_oI cI z 4 oz_z8] := hD
    have hP : va_P G vwCl [oz_oM h tx n wi i k la, oz_oI cI tx 256 fT, oz_oI cI wi 2048 fW, oz_oI cI la r fR, oz_oW cI z 4 (fun _ => nI (0#8).toNat)] H := hP
    have hD : va_D A [oz_oM h tx n wi i k la, oz_oI cI tx 256 fT, oz_oI cI wi 2048 fW, oz_oI cI la r fR, oz_oW cI z 4 (fun _ => nI (0#8).toNat)] := hD
    refine lv_dup hx hb dX2_put_18 rfl ?_
    refine lv_iconst (v := nI 0) hx hb dX2_put_19 (by decide) ?_
    refine lv_iload_n hx hb dX2_put_20 rfl (lv_at hl 1 rfl) ?_
    refine oz_kw_st (w2 := [oz_oM h tx n wi i k la, oz_oI cI tx 256 fT, oz_oI cI wi 2048 fW, oz_oI cI la r fR, oz_oW cI z 4 (upd (fun _ => nI (0#8).toNat) 0 (nI v1))]) hx hb hK hP hD hS 4 rfl (by decide) (by decide) dX2_put_21 rfl (fun H locs hP hD hS => ?_)
    refine lv_dup hx hb dX2_put_22 rfl ?_
    refine lv_iconst (v := nI 1) hx hb dX2_put_23 (by decide) ?_
    refine lv_iload_n hx hb dX2_put_24 rfl (lv_at hl 2 rfl) ?_
    refine oz_kw_st (w2 := [oz_oM h tx n wi i k la, oz_oI cI tx 256 fT, oz_oI cI wi 2048 fW, oz_oI cI la r fR, oz_oW cI z 4 (upd (upd (fun _ => nI (0#8).toNat) 0 (nI v1)) 1 (nI v2))]) hx hb hK hP hD hS 4 rfl (by decide) (by decide) dX2_put_25 rfl (fun H locs hP hD hS => ?_)
    refine lv_dup hx hb dX2_put_26 rfl ?_
    refine lv_iconst (v := nI 2) hx hb dX2_put_27 (by decide) ?_
    refine lv_iload_n hx hb dX2_put_28 rfl (lv_at hl 3 rfl) ?_
    refine oz_kw_st (w2 := [oz_oM h tx n wi i k la, oz_oI cI tx 256 fT, oz_oI cI wi 2048 fW, oz_oI cI la r fR, oz_oW cI z 4 (upd (upd (upd (fun _ => nI (0#8).toNat) 0 (nI v1)) 1 (nI v2)) 2 (nI v3))]) hx hb hK hP hD hS 4 rfl (by decide) (by decide) dX2_put_29 rfl (fun H locs hP hD hS => ?_)
    refine lv_dup hx hb dX2_put_30 rfl ?_
    refine lv_iconst (v := nI 3) hx hb dX2_put_31 (by decide) ?_
    refine lv_iload hx hb dX2_put_32 (lv_at hl 4 rfl) ?_
    refine oz_kw_st (w2 := [oz_oM h tx n wi i k la, oz_oI cI tx 256 fT, oz_oI cI wi 2048 fW, oz_oI cI la r fR, oz_oW cI z 4 (upd (upd (upd (upd (fun _ => nI (0#8).toNat) 0 (nI v1)) 1 (nI v2)) 2 (nI v3)) 3 (nI v4))]) hx hb hK hP hD hS 4 rfl (by decide) (by decide) dX2_put_34 rfl (fun H locs hP hD hS => ?_)
    refine lv_astore (lv' := [(5, .ref z), (0, .ref h), (1, .int (nI v1)), (2, .int (nI v2)), (3, .int (nI v3)), (4, .int (nI v4))]) hx hb dX2_put_35 hl (by decide) rfl (fun ls hl => ?_)
    refine lv_aload hx hb dX2_put_37 (lv_at hl 0 rfl) ?_
    refine lv_astore (lv' := [(6, .ref z), (5, .ref z), (0, .ref h), (1, .int (nI v1)), (2, .int (nI v2)), (3, .int (nI v3)), (4, .int (nI v4))]) hx hb dX2_put_39 hl (by decide) rfl (fun ls hl => ?_)
    refine lv_aload hx hb dX2_put_41 (lv_at hl 0 rfl) ?_
    refine va_alen (v := nI 4) hx hb hK hP 4 1 rfl rfl rfl dX2_put_43 ?_
    refine lv_istore (lv' := [(7, .int (nI 4)), (6, .ref z), (5, .ref z), (0, .ref h), (1, .int (nI v1)), (2, .int (nI v2)), (3, .int (nI v3)), (4, .int (nI v4))]) hx hb dX2_put_44 hl (by decide) rfl (fun ls hl => ?_)
    refine lv_iconst (v := nI 0) hx hb dX2_put_46 (by decide) ?_
    refine lv_istore (lv' := [(8, .int (nI 0)), (7, .int (nI 4)), (6, .ref z), (5, .ref z), (0, .ref h), (1, .int (nI v1)), (2, .int (nI v2)), (3, .int (nI v3)), (4, .int (nI v4))]) hx hb dX2_put_47 hl (by decide) rfl (fun ls hl => ?_)
    have hP : va_P G vwCl [oz_oM h tx (n + 4 * 0) wi i k la, oz_oI cI tx 256 (oz_pw4 fT n v1 v2 v3 v4 0), oz_oI cI wi 2048 fW, oz_oI cI la r fR, oz_oW cI z 4 (oz_wd4 v1 v2 v3 v4)] H := hP
    have hD : va_D A [oz_oM h tx (n + 4 * 0) wi i k la, oz_oI cI tx 256 (oz_pw4 fT n v1 v2 v3 v4 0), oz_oI cI wi 2048 fW, oz_oI cI la r fR, oz_oW cI z 4 (oz_wd4 v1 v2 v3 v4)] := hD
    have loop : ∀ (d : Nat) (j : Nat), j + d = 4 → ∀ (H : Heap) (locs : List Loc), va_P G vwCl [oz_oM h tx (n + 4 * j) wi i k la, oz_oI cI tx 256 (oz_pw4 fT n v1 v2 v3 v4 j), oz_oI cI wi 2048 fW, oz_oI cI la r fR, oz_oW cI z 4 (oz_wd4 v1 v2 v3 v4)] H → va_D A [oz_oM h tx (n + 4 * j) wi i k la, oz_oI cI tx 256 (oz_pw4 fT n v1 v2 v3 v4 j), oz_oI cI wi 2048 fW, oz_oI cI la r fR, oz_oW cI z 4 (oz_wd4 v1 v2 v3 v4)] → va_S A s.heap H locs → ∀ (ls : Array Slot), lv_has ls 11 [(8, .int (nI j)), (7, .int (nI 4)), (6, .ref z), (0, .ref h)] → W p l e (headSpec (ws_ yX2_put cX2_put 11 (some .boolean)) rm_X2_put).room s m ([.ref h, .int (nI v1), .int (nI v2), .int (nI v3), .int (nI v4)] : List Value).toArray below meth c H locs 1 4 (MQ below (va_Qi (fun (x9 : Int32) (_ : Unit) => x9 = (if n + 16 ≤ 256 then (1 : Int32) else 0)) (fun (u : Unit) => oz_qw G cB cI A [oz_oM h tx (if n + 16 ≤ 256 then n + 16 else n) wi i k la, oz_oI cI tx 256 (if n + 16 ≤ 256 then oz_pb (oz_pb (oz_pb (oz_pb fT n 4 v1) (n + 4) 4 v2) (n + 8) 4 v3) (n + 12) 4 v4 else fT), oz_oI cI wi 2048 fW, oz_oI cI la r fR]) A) ([.ref h, .int (nI v1), .int (nI v2), .int (nI v3), .int (nI v4)] : List Value).toArray s 1 4 A) (F0 m 49 ls []) := by
      intro d
      induction d with
      | zero =>
        intro j hj H locs hP hD hS ls hl
        refine lv_iload hx hb dX2_put_49 (lv_at hl 0 rfl) ?_
        refine lv_iload hx hb dX2_put_51 (lv_at hl 1 rfl) ?_
        refine oz_kj_ge hx hb (by omega) (by decide) (tgt := 114) dX2_put_53 (by decide) (fun h2 => ?_) (fun h2 => ?_)
        · have hj2 : j = 4 := by omega
          rw [hj2, oz_pw4_4] at hP hD
          have hP : va_P G vwCl [oz_oM h tx (n + 16) wi i k la, oz_oI cI tx 256 (oz_pb (oz_pb (oz_pb (oz_pb fT n 4 v1) (n + 4) 4 v2) (n + 8) 4 v3) (n + 12) 4 v4), oz_oI cI wi 2048 fW, oz_oI cI la r fR, oz_oW cI z 4 (oz_wd4 v1 v2 v3 v4)] H := hP
          have hD : va_D A [oz_oM h tx (n + 16) wi i k la, oz_oI cI tx 256 (oz_pb (oz_pb (oz_pb (oz_pb fT n 4 v1) (n + 4) 4 v2) (n + 8) 4 v3) (n + 12) 4 v4), oz_oI cI wi 2048 fW, oz_oI cI la r fR, oz_oW cI z 4 (oz_wd4 v1 v2 v3 v4)] := hD
          refine lv_iconst (v := nI 1) hx hb dX2_put_114 (by decide) ?_
          have hc : n + 16 ≤ 256 := by omega
          have hP := hP.sub (ws' := [oz_oM h tx (n + 16) wi i k la, oz_oI cI tx 256 (oz_pb (oz_pb (oz_pb (oz_pb fT n 4 v1) (n + 4) 4 v2) (n + 8) 4 v3) (n + 12) 4 v4), oz_oI cI wi 2048 fW, oz_oI cI la r fR]) [0, 1, 2, 3] rfl
          have hD := hD.sub (ws' := [oz_oM h tx (n + 16) wi i k la, oz_oI cI tx 256 (oz_pb (oz_pb (oz_pb (oz_pb fT n 4 v1) (n + 4) 4 v2) (n + 8) 4 v3) (n + 12) 4 v4), oz_oI cI wi 2048 fW, oz_oI cI la r fR]) [0, 1, 2, 3] (by decide) rfl
          have ew : ([oz_oM h tx (n + 16) wi i k la, oz_oI cI tx 256 (oz_pb (oz_pb (oz_pb (oz_pb fT n 4 v1) (n + 4) 4 v2) (n + 8) 4 v3) (n + 12) 4 v4), oz_oI cI wi 2048 fW, oz_oI cI la r fR] : va_W) = [oz_oM h tx (if n + 16 ≤ 256 then n + 16 else n) wi i k la, oz_oI cI tx 256 (if n + 16 ≤ 256 then oz_pb (oz_pb (oz_pb (oz_pb fT n 4 v1) (n + 4) 4 v2) (n + 8) 4 v3) (n + 12) 4 v4 else fT), oz_oI cI wi 2048 fW, oz_oI cI la r fR] := by simp only [if_pos hc]
          rw [ew] at hP hD
          exact W.zret (v := nI 1) hx hb hr rfl (fun t9 ht hW => ⟨⟨_, (), rfl, (if_pos hc).symm, by rw [ht]; exact hP, va_K.moved hW.alike hK, hD⟩, hS.F ht⟩) hS.2.2 dX2_put_115
        · omega
      | succ d ih =>
        intro j hj H locs hP hD hS ls hl
        refine lv_iload hx hb dX2_put_49 (lv_at hl 0 rfl) ?_
        refine lv_iload hx hb dX2_put_51 (lv_at hl 1 rfl) ?_
        refine oz_kj_ge hx hb (by omega) (by decide) (tgt := 114) dX2_put_53 (by decide) (fun h2 => ?_) (fun h2 => ?_)
        · omega
        · have hsl := oz_sel_lt hv1 hv2 hv3 hv4 j
          refine lv_aload hx hb dX2_put_56 (lv_at hl 2 rfl) ?_
          refine lv_iload hx hb dX2_put_58 (lv_at hl 0 rfl) ?_
          refine oz_kw_ld hx hb hK hP 4 rfl (h2) (by decide) dX2_put_60 ?_
          refine oz_ktop (y := nI (oz_sel v1 v2 v3 v4 j)) (oz_wd4_at v1 v2 v3 v4 h2) ?_
          refine lv_istore (lv' := [(9, .int (nI (oz_sel v1 v2 v3 v4 j))), (8, .int (nI j)), (7, .int (nI 4)), (6, .ref z), (0, .ref h)]) hx hb dX2_put_61 hl (by decide) rfl (fun ls hl => ?_)
          refine lv_iconst (v := nI 3) hx hb dX2_put_63 (by decide) ?_
          refine oz_ktop (y := nI 4 - 1) (by decide) ?_
          refine lv_istore (lv' := [(10, .int (nI 4 - 1)), (9, .int (nI (oz_sel v1 v2 v3 v4 j))), (8, .int (nI j)), (7, .int (nI 4)), (6, .ref z), (0, .ref h)]) hx hb dX2_put_64 hl (by decide) rfl (fun ls hl => ?_)
          rw [← oz_pp_0 (oz_pw4 fT n v1 v2 v3 v4 j) (n + 4 * j) 4 (oz_sel v1 v2 v3 v4 j)] at hP hD
          have inner : ∀ (d2 : Nat) (c9 : Nat), c9 + d2 = 4 → ∀ (H : Heap) (locs : List Loc), va_P G vwCl [oz_oM h tx (n + 4 * j + c9) wi i k la, oz_oI cI tx 256 (oz_pp (oz_pw4 fT n v1 v2 v3 v4 j) (n + 4 * j) 4 (oz_sel v1 v2 v3 v4 j) c9), oz_oI cI wi 2048 fW, oz_oI cI la r fR, oz_oW cI z 4 (oz_wd4 v1 v2 v3 v4)] H → va_D A [oz_oM h tx (n + 4 * j + c9) wi i k la, oz_oI cI tx 256 (oz_pp (oz_pw4 fT n v1 v2 v3 v4 j) (n + 4 * j) 4 (oz_sel v1 v2 v3 v4 j) c9), oz_oI cI wi 2048 fW, oz_oI cI la r fR, oz_oW cI z 4 (oz_wd4 v1 v2 v3 v4)] → va_S A s.heap H locs → ∀ (ls : Array Slot), lv_has ls 11 [(10, .int (nI d2 - 1)), (9, .int (nI (oz_sel v1 v2 v3 v4 j))), (8, .int (nI j)), (7, .int (nI 4)), (6, .ref z), (0, .ref h)] → W p l e (headSpec (ws_ yX2_put cX2_put 11 (some .boolean)) rm_X2_put).room s m ([.ref h, .int (nI v1), .int (nI v2), .int (nI v3), .int (nI v4)] : List Value).toArray below meth c H locs 1 4 (MQ below (va_Qi (fun (x9 : Int32) (_ : Unit) => x9 = (if n + 16 ≤ 256 then (1 : Int32) else 0)) (fun (u : Unit) => oz_qw G cB cI A [oz_oM h tx (if n + 16 ≤ 256 then n + 16 else n) wi i k la, oz_oI cI tx 256 (if n + 16 ≤ 256 then oz_pb (oz_pb (oz_pb (oz_pb fT n 4 v1) (n + 4) 4 v2) (n + 8) 4 v3) (n + 12) 4 v4 else fT), oz_oI cI wi 2048 fW, oz_oI cI la r fR]) A) ([.ref h, .int (nI v1), .int (nI v2), .int (nI v3), .int (nI v4)] : List Value).toArray s 1 4 A) (F0 m 66 ls []) := by
            intro d2
            induction d2 with
            | zero =>
              intro c9 hj9 H locs hP hD hS ls hl
              refine lv_iload hx hb dX2_put_66 (lv_at hl 0 rfl) ?_
              refine lv_if_lt (tgt := 108) hx hb dX2_put_68 (by decide) (fun _ => ?_) (fun h3 => absurd oz_m1_lt h3)
              have hj3 : c9 = 4 := by omega
              rw [hj3] at hP hD
              have hP : va_P G vwCl [oz_oM h tx (n + 4 * (j + 1)) wi i k la, oz_oI cI tx 256 (oz_pw4 fT n v1 v2 v3 v4 (j + 1)), oz_oI cI wi 2048 fW, oz_oI cI la r fR, oz_oW cI z 4 (oz_wd4 v1 v2 v3 v4)] H := hP
              have hD : va_D A [oz_oM h tx (n + 4 * (j + 1)) wi i k la, oz_oI cI tx 256 (oz_pw4 fT n v1 v2 v3 v4 (j + 1)), oz_oI cI wi 2048 fW, oz_oI cI la r fR, oz_oW cI z 4 (oz_wd4 v1 v2 v3 v4)] := hD
              refine lv_iinc (v := nI (j + 1)) (lv' := [(8, .int (nI (j + 1))), (10, .int (nI 0 - 1)), (9, .int (nI (oz_sel v1 v2 v3 v4 j))), (7, .int (nI 4)), (6, .ref z), (0, .ref h)]) hx hb dX2_put_108 hl (k := 2) rfl (nI_add j 1) (by decide) rfl (fun ls hl => ?_)
              refine lv_goto (tgt := 49) hx hb dX2_put_111 (by decide) ?_
              exact ih (j + 1) (by omega) H locs hP hD hS ls (lv_sub hl [0, 3, 4, 5] rfl)
            | succ d2 ih2 =>
              intro c9 hj9 H locs hP hD hS ls hl
              rw [nI_pred] at hl
              refine lv_iload hx hb dX2_put_66 (lv_at hl 0 rfl) ?_
              refine oz_kj_lt0 hx hb (by omega) (tgt := 108) dX2_put_68 (by decide) (fun h3 => ?_) (fun h3 => ?_)
              · omega
              · have e5 : oz_un (oz_pp (oz_pw4 fT n v1 v2 v3 v4 j) (n + 4 * j) 4 (oz_sel v1 v2 v3 v4 j) c9) (n + 4 * j + c9) (oz_bN ((oz_sel v1 v2 v3 v4 j) / 2 ^ (8 * d2))) = oz_pp (oz_pw4 fT n v1 v2 v3 v4 j) (n + 4 * j) 4 (oz_sel v1 v2 v3 v4 j) (c9 + 1) := by
                  have e6 : d2 = 4 - 1 - c9 := by omega
                  rw [e6, oz_pp_s]
                refine lv_aload_n hx hb dX2_put_71 rfl (lv_at hl 5 rfl) ?_
                refine va_get (D := G) (ci := 2) (v := .ref tx) (C := RX2) (T := TX2) (N := 6) hx hb hts in_X2 hown hK hP 0 rfl rfl 0 (by decide) (hts _ q239) (fun _ h9 => h9) rfl dX2_put_72 ?_
                refine lv_aload_n hx hb dX2_put_75 rfl (lv_at hl 5 rfl) ?_
                refine va_get (D := G) (ci := 2) (v := .int (nI (n + 4 * j + c9))) (C := RX2) (T := TX2) (N := 6) hx hb hts in_X2 hown hK hP 0 rfl rfl 1 (by decide) (hts _ q240) (fun _ h9 => h9) rfl dX2_put_76 ?_
                refine lv_iload hx hb dX2_put_79 (lv_at hl 1 rfl) ?_
                refine lv_bipush (v := nI 8) hx hb dX2_put_81 (by decide) ?_
                refine lv_iload hx hb dX2_put_83 (lv_at hl 0 rfl) ?_
                refine lv_imul hx hb dX2_put_85 ?_
                refine oz_ktop (y := nI (8 * d2)) (pk_mul 8 d2) ?_
                refine lv_iushr (v := nI ((oz_sel v1 v2 v3 v4 j) / 2 ^ (8 * d2))) hx hb dX2_put_86 (oz_ushr_N (8 * d2) (by omega) hsl) ?_
                refine lv_sipush (v := nI 255) hx hb dX2_put_87 (by decide) ?_
                refine lv_iand hx hb dX2_put_90 ?_
                refine oz_ktop (y := nI ((oz_sel v1 v2 v3 v4 j) / 2 ^ (8 * d2) % 256)) (oz_and_N (Nat.lt_of_le_of_lt (Nat.div_le_self _ _) hsl)) ?_
                refine oz_ki_st (w2 := [oz_oM h tx (n + 4 * j + c9) wi i k la, oz_oI cI tx 256 (oz_pp (oz_pw4 fT n v1 v2 v3 v4 j) (n + 4 * j) 4 (oz_sel v1 v2 v3 v4 j) (c9 + 1)), oz_oI cI wi 2048 fW, oz_oI cI la r fR, oz_oW cI z 4 (oz_wd4 v1 v2 v3 v4)]) hx hb hK hP hD hS 1 (oz_bN ((oz_sel v1 v2 v3 v4 j) / 2 ^ (8 * d2))) rfl (by omega) (by decide) (oz_nI_b _) dX2_put_91 (by rw [e5]; rfl) (fun H locs hP hD hS => ?_)
                refine lv_aload_n hx hb dX2_put_92 rfl (lv_at hl 5 rfl) ?_
                refine lv_dup hx hb dX2_put_93 rfl ?_
                refine va_get (D := G) (ci := 2) (v := .int (nI (n + 4 * j + c9))) (C := RX2) (T := TX2) (N := 6) hx hb hts in_X2 hown hK hP 0 rfl rfl 1 (by decide) (hts _ q240) (fun _ h9 => h9) rfl dX2_put_94 ?_
                refine lv_iconst (v := nI 1) hx hb dX2_put_97 (by decide) ?_
                refine oz_kadd hx hb dX2_put_98 ?_
                refine va_put (D := G) (ci := 2) (v := .int (nI (n + 4 * j + c9 + 1))) (ty := .int) (C := RX2) (T := TX2) (N := 6) hx hb hts in_X2 tyX2 tyX2_ok nmX2 hown hK hP hD hS 0 rfl rfl 1 (by decide) (hts _ q240) (fun _ h9 => h9) rfl (by decide +kernel) rfl rfl (Nat.le_of_ble_eq_true rfl) dX2_put_99 (fun H locs hP hD hS => ?_)
                have hP : va_P G vwCl [oz_oM h tx (n + 4 * j + c9 + 1) wi i k la, oz_oI cI tx 256 (oz_pp (oz_pw4 fT n v1 v2 v3 v4 j) (n + 4 * j) 4 (oz_sel v1 v2 v3 v4 j) (c9 + 1)), oz_oI cI wi 2048 fW, oz_oI cI la r fR, oz_oW cI z 4 (oz_wd4 v1 v2 v3 v4)] H := hP
                have hD : va_D A [oz_oM h tx (n + 4 * j + c9 + 1) wi i k la, oz_oI cI tx 256 (oz_pp (oz_pw4 fT n v1 v2 v3 v4 j) (n + 4 * j) 4 (oz_sel v1 v2 v3 v4 j) (c9 + 1)), oz_oI cI wi 2048 fW, oz_oI cI la r fR, oz_oW cI z 4 (oz_wd4 v1 v2 v3 v4)] := hD
                refine lv_iinc (v := nI d2 - 1) (lv' := [(10, .int (nI d2 - 1)), (9, .int (nI (oz_sel v1 v2 v3 v4 j))), (8, .int (nI j)), (7, .int (nI 4)), (6, .ref z), (0, .ref h)]) hx hb dX2_put_102 hl (k := 0) rfl (oz_dec_1 d2) (by decide) rfl (fun ls hl => ?_)
                refine lv_goto (tgt := 66) hx hb dX2_put_105 (by decide) ?_
                have hP : va_P G vwCl [oz_oM h tx (n + 4 * j + (c9 + 1)) wi i k la, oz_oI cI tx 256 (oz_pp (oz_pw4 fT n v1 v2 v3 v4 j) (n + 4 * j) 4 (oz_sel v1 v2 v3 v4 j) (c9 + 1)), oz_oI cI wi 2048 fW, oz_oI cI la r fR, oz_oW cI z 4 (oz_wd4 v1 v2 v3 v4)] H := hP
                have hD : va_D A [oz_oM h tx (n + 4 * j + (c9 + 1)) wi i k la, oz_oI cI tx 256 (oz_pp (oz_pw4 fT n v1 v2 v3 v4 j) (n + 4 * j) 4 (oz_sel v1 v2 v3 v4 j) (c9 + 1)), oz_oI cI wi 2048 fW, oz_oI cI la r fR, oz_oW cI z 4 (oz_wd4 v1 v2 v3 v4)] := hD
                exact ih2 (c9 + 1) (by omega) H locs hP hD hS ls (lv_sub hl [0, 1, 2, 3, 4, 5] rfl)
          exact inner 4 0 (Nat.zero_add _) _ _ hP hD hS ls (lv_sub hl [0, 1, 2, 3, 4, 5] rfl)
    exact loop 4 0 (Nat.zero_add _) _ _ hP hD hS ls (lv_sub hl [0, 1, 2, 4] rfl)
  · refine lv_iconst (v := nI 0) hx hb dX2_put_13 (by decide) ?_
    have hc : ¬ (n + 16 ≤ 256) := by omega
    refine W.widen (k := 1) (n := 4) (Nat.le_of_ble_eq_true rfl) (Nat.le_of_ble_eq_true rfl) ?_
    have ew : ([oz_oM h tx n wi i k la, oz_oI cI tx 256 fT, oz_oI cI wi 2048 fW, oz_oI cI la r fR] : va_W) = [oz_oM h tx (if n + 16 ≤ 256 then n + 16 else n) wi i k la, oz_oI cI tx 256 (if n + 16 ≤ 256 then oz_pb (oz_pb (oz_pb (oz_pb fT n 4 v1) (n + 4) 4 v2) (n + 8) 4 v3) (n + 12) 4 v4 else fT), oz_oI cI wi 2048 fW, oz_oI cI la r fR] := by simp only [if_neg hc]
    rw [ew] at hP hD
    exact W.zret (v := nI 0) hx hb hr rfl (fun t9 ht hW => ⟨⟨_, (), rfl, (if_neg hc).symm, by rw [ht]; exact hP, va_K.moved hW.alike hK, hD⟩, hS.F ht⟩) hS.2.2 dX2_put_14

/-- byteIn -/
abbrev rm_X2_byteIn : Room := ({ frames := 1, cells := 0, slots := 0, locals := 24 } : Room)
set_option maxHeartbeats 4000000 in
set_option maxRecDepth 100000 in
theorem mt_X2_byteIn (l : Launch) (G : va_G) (cB cI : ClassId) (sz : Nat) (h tx wi la n r i k : Nat) (fT fW fR : Nat → oz_By) (v : Nat) (hn : n ≤ 256) (hr0 : r ≤ 2048) (hi : i ≤ 2048) (hk : k ≤ i) (hv : v < 2 ^ 32) : Met l yX2_byteIn (ws_ yX2_byteIn cX2_byteIn 2 (some .boolean)) rm_X2_byteIn (va_Pc [.ref h, .int (nI v)] (oz_pw G cB cI sz [oz_oM h tx n wi i k la, oz_oI cI tx 256 fT, oz_oI cI wi 2048 fW, oz_oI cI la r fR])) (va_Qi (fun (x9 : Int32) (_ : Unit) => x9 = (if i < 1600 then (1 : Int32) else 0)) (fun (u : Unit) => oz_qw G cB cI (va_A [oz_oM h tx n wi i k la, oz_oI cI tx 256 fT, oz_oI cI wi 2048 fW, oz_oI cI la r fR] sz) [oz_oM h tx n wi (if i < 1600 then i + 1 else i) k la, oz_oI cI tx 256 fT, oz_oI cI wi 2048 (if i < 1600 then oz_un fW i (oz_bN v) else fW), oz_oI cI la r fR]) (va_A [oz_oM h tx n wi i k la, oz_oI cI tx 256 fT, oz_oI cI wi 2048 fW, oz_oI cI la r fR] sz)) 0 0 (va_A [oz_oM h tx n wi i k la, oz_oI cI tx 256 fT, oz_oI cI wi 2048 fW, oz_oI cI la r fR] sz) := by
  refine Met.ofW (cc := cX2_byteIn) (maxL := 2) (ret := (some .boolean)) (by decide) rfl ?_
  intro p e s m args below meth c s₁ B hml hv
  obtain ⟨rfl, hsz, hP, hK, hD0⟩ := hv
  have hx := B.exec
  have hb := B.bytes
  have hr := B.returns
  have hts := atoms_spec (ws := (ws_ yX2_byteIn cX2_byteIn 2 (some .boolean))) B.pre
  have hts : ∀ w ∈ lw_all, w.before _ s = true := fun w h => hts w (List.mem_cons_of_mem _ h)
  have hown : s.vm.findClass RX2 = some m.cls := findClass_of_methodNamed B.named
  have hlocks := B.notSynchronized
  subst hsz
  have hD := hD0.self (sz := s.heap.size)
  generalize hAe : va_A [oz_oM h tx n wi i k la, oz_oI cI tx 256 fT, oz_oI cI wi 2048 fW, oz_oI cI la r fR] s.heap.size = A at hD ⊢
  have hA : ∀ q9 : Nat, s.heap.size ≤ q9 → A q9 := fun q9 h => by rw [← hAe]; exact Or.inr h
  have hS : va_S A s.heap s.heap [] := va_S.rf
  have hP : va_P G vwCl [oz_oM h tx n wi i k la, oz_oI cI tx 256 fT, oz_oI cI wi 2048 fW, oz_oI cI la r fR] s.heap := hP
  have hl := lv_entry ([.ref h, .int (nI v)]) (n := 2) (Nat.le_of_ble_eq_true rfl)
  rw [lg_entry_eq]
  generalize (lg_sl ([.ref h, .int (nI v)]) ++ List.replicate (2 - (lg_sl ([.ref h, .int (nI v)])).length) Slot.unset).toArray = ls at hl ⊢
  have hl : lv_has ls 2 [(0, .ref h), (1, .int (nI v))] := hl
  refine lv_aload_n hx hb dX2_byteIn_0 rfl (lv_at hl 0 rfl) ?_
  refine oz_kc_i (nA := 0) (As := []) (rest := []) (wr := []) (w3 := fun (u : Unit) => [oz_oM h tx n wi i k la, oz_oI cI tx 256 fT, oz_oI cI wi 2048 fW, oz_oI cI la r fR]) (C := RX2) hx hb hml hown hts hK hP hD hS hA (mt_X2_isFull l G cB cI s.heap.size h tx wi la n r i k fT fW fR hn hr0 hi hk) (lw_V q276 q278 qs5 q14 q279) rfl rfl (by decide +kernel) rfl ⟨Nat.le_of_ble_eq_true rfl, Nat.le_of_ble_eq_true rfl⟩ [0, 1, 2, 3] [] rfl rfl rfl rfl (by decide) 0 rfl rfl rfl hl.1 (Nat.le_of_ble_eq_true rfl) dX2_byteIn_1 ⟨Nat.le_of_ble_eq_true rfl, Nat.le_of_ble_eq_true rfl⟩ (fun _ => rfl) (fun _ H locs hP hD hS => ?_)
  have hP : va_P G vwCl [oz_oM h tx n wi i k la, oz_oI cI tx 256 fT, oz_oI cI wi 2048 fW, oz_oI cI la r fR] H := hP
  have hD : va_D A [oz_oM h tx n wi i k la, oz_oI cI tx 256 fT, oz_oI cI wi 2048 fW, oz_oI cI la r fR] := hD
  by_cases hc : i < 1600
  · refine oz_ktop (y := nI 0) (if_neg (by omega)) ?_
    refine oz_kj_eq0 hx hb (by decide) (tgt := 9) dX2_byteIn_4 (by decide) (fun h1 => ?_) (fun h1 => ?_)
    · obtain ⟨X, hX, mX, eX⟩ := oz_sx hv
      refine lv_aload_n hx hb dX2_byteIn_9 rfl (lv_at hl 0 rfl) ?_
      refine lv_iload_n hx hb dX2_byteIn_10 rfl (lv_at hl 1 rfl) ?_
      refine lv_i2l (v := lN X) hx hb dX2_byteIn_11 (eX) ?_
      refine lv_iconst (v := nI 1) hx hb dX2_byteIn_12 (by decide) ?_
      refine oz_kc_v (nA := 2) (As := [.long (lN X), .int (nI 1)]) (rest := []) (wr := []) (w3 := fun (u : Unit) => [oz_oM h tx n wi (i + 1) k la, oz_oI cI tx 256 fT, oz_oI cI wi 2048 (oz_pb fW i 1 X), oz_oI cI la r fR]) (C := RX2) hx hb hml hown hts hK hP hD hS hA (mt_X2_lay l G cB cI H.size h tx wi la n r i k fT fW fR X 1 hn hr0 (by omega) (by omega) (hX) (by decide) (by omega)) (lw_V q280 q282 qs6 q14 q283) rfl rfl (by decide +kernel) rfl ⟨Nat.le_of_ble_eq_true rfl, Nat.le_of_ble_eq_true rfl⟩ [0, 1, 2, 3] [] rfl rfl rfl rfl (by decide) 0 rfl rfl rfl hl.1 (Nat.le_of_ble_eq_true rfl) dX2_byteIn_13 ⟨Nat.le_of_ble_eq_true rfl, Nat.le_of_ble_eq_true rfl⟩ (fun _ => rfl) (fun _ H locs hP hD hS => ?_)
      have hP : va_P G vwCl [oz_oM h tx n wi (i + 1) k la, oz_oI cI tx 256 fT, oz_oI cI wi 2048 (oz_pb fW i 1 X), oz_oI cI la r fR] H := hP
      have hD : va_D A [oz_oM h tx n wi (i + 1) k la, oz_oI cI tx 256 fT, oz_oI cI wi 2048 (oz_pb fW i 1 X), oz_oI cI la r fR] := hD
      rw [oz_pb_1, oz_bN_eq (show X % 256 = v % 256 by omega)] at hP hD
      refine lv_iconst (v := nI 1) hx hb dX2_byteIn_16 (by decide) ?_
      have ew : ([oz_oM h tx n wi (i + 1) k la, oz_oI cI tx 256 fT, oz_oI cI wi 2048 (oz_un fW i (oz_bN v)), oz_oI cI la r fR] : va_W) = [oz_oM h tx n wi (if i < 1600 then i + 1 else i) k la, oz_oI cI tx 256 fT, oz_oI cI wi 2048 (if i < 1600 then oz_un fW i (oz_bN v) else fW), oz_oI cI la r fR] := by simp only [if_pos hc]
      rw [ew] at hP hD
      exact W.zret (v := nI 1) hx hb hr rfl (fun t9 ht hW => ⟨⟨_, (), rfl, (if_pos hc).symm, by rw [ht]; exact hP, va_K.moved hW.alike hK, hD⟩, hS.F ht⟩) hS.2.2 dX2_byteIn_17
    · omega
  · refine oz_ktop (y := nI 1) (if_pos (by omega)) ?_
    refine oz_kj_eq0 hx hb (by decide) (tgt := 9) dX2_byteIn_4 (by decide) (fun h1 => ?_) (fun h1 => ?_)
    · omega
    · refine lv_iconst (v := nI 0) hx hb dX2_byteIn_7 (by decide) ?_
      have ew : ([oz_oM h tx n wi i k la, oz_oI cI tx 256 fT, oz_oI cI wi 2048 fW, oz_oI cI la r fR] : va_W) = [oz_oM h tx n wi (if i < 1600 then i + 1 else i) k la, oz_oI cI tx 256 fT, oz_oI cI wi 2048 (if i < 1600 then oz_un fW i (oz_bN v) else fW), oz_oI cI la r fR] := by simp only [if_neg hc]
      rw [ew] at hP hD
      exact W.zret (v := nI 0) hx hb hr rfl (fun t9 ht hW => ⟨⟨_, (), rfl, (if_neg hc).symm, by rw [ht]; exact hP, va_K.moved hW.alike hK, hD⟩, hS.F ht⟩) hS.2.2 dX2_byteIn_8

/-- intIn -/
abbrev rm_X2_intIn : Room := ({ frames := 1, cells := 0, slots := 0, locals := 24 } : Room)
set_option maxHeartbeats 4000000 in
set_option maxRecDepth 100000 in
theorem mt_X2_intIn (l : Launch) (G : va_G) (cB cI : ClassId) (sz : Nat) (h tx wi la n r i k : Nat) (fT fW fR : Nat → oz_By) (v : Nat) (hn : n ≤ 256) (hr0 : r ≤ 2048) (hi : i ≤ 2048) (hk : k ≤ i) (hv : v < 2 ^ 32) : Met l yX2_intIn (ws_ yX2_intIn cX2_intIn 2 (some .boolean)) rm_X2_intIn (va_Pc [.ref h, .int (nI v)] (oz_pw G cB cI sz [oz_oM h tx n wi i k la, oz_oI cI tx 256 fT, oz_oI cI wi 2048 fW, oz_oI cI la r fR])) (va_Qi (fun (x9 : Int32) (_ : Unit) => x9 = (if i < 1600 then (1 : Int32) else 0)) (fun (u : Unit) => oz_qw G cB cI (va_A [oz_oM h tx n wi i k la, oz_oI cI tx 256 fT, oz_oI cI wi 2048 fW, oz_oI cI la r fR] sz) [oz_oM h tx n wi (if i < 1600 then i + 4 else i) k la, oz_oI cI tx 256 fT, oz_oI cI wi 2048 (if i < 1600 then oz_pb fW i 4 v else fW), oz_oI cI la r fR]) (va_A [oz_oM h tx n wi i k la, oz_oI cI tx 256 fT, oz_oI cI wi 2048 fW, oz_oI cI la r fR] sz)) 0 0 (va_A [oz_oM h tx n wi i k la, oz_oI cI tx 256 fT, oz_oI cI wi 2048 fW, oz_oI cI la r fR] sz) := by
  refine Met.ofW (cc := cX2_intIn) (maxL := 2) (ret := (some .boolean)) (by decide) rfl ?_
  intro p e s m args below meth c s₁ B hml hv
  obtain ⟨rfl, hsz, hP, hK, hD0⟩ := hv
  have hx := B.exec
  have hb := B.bytes
  have hr := B.returns
  have hts := atoms_spec (ws := (ws_ yX2_intIn cX2_intIn 2 (some .boolean))) B.pre
  have hts : ∀ w ∈ lw_all, w.before _ s = true := fun w h => hts w (List.mem_cons_of_mem _ h)
  have hown : s.vm.findClass RX2 = some m.cls := findClass_of_methodNamed B.named
  have hlocks := B.notSynchronized
  subst hsz
  have hD := hD0.self (sz := s.heap.size)
  generalize hAe : va_A [oz_oM h tx n wi i k la, oz_oI cI tx 256 fT, oz_oI cI wi 2048 fW, oz_oI cI la r fR] s.heap.size = A at hD ⊢
  have hA : ∀ q9 : Nat, s.heap.size ≤ q9 → A q9 := fun q9 h => by rw [← hAe]; exact Or.inr h
  have hS : va_S A s.heap s.heap [] := va_S.rf
  have hP : va_P G vwCl [oz_oM h tx n wi i k la, oz_oI cI tx 256 fT, oz_oI cI wi 2048 fW, oz_oI cI la r fR] s.heap := hP
  have hl := lv_entry ([.ref h, .int (nI v)]) (n := 2) (Nat.le_of_ble_eq_true rfl)
  rw [lg_entry_eq]
  generalize (lg_sl ([.ref h, .int (nI v)]) ++ List.replicate (2 - (lg_sl ([.ref h, .int (nI v)])).length) Slot.unset).toArray = ls at hl ⊢
  have hl : lv_has ls 2 [(0, .ref h), (1, .int (nI v))] := hl
  refine lv_aload_n hx hb dX2_intIn_0 rfl (lv_at hl 0 rfl) ?_
  refine oz_kc_i (nA := 0) (As := []) (rest := []) (wr := []) (w3 := fun (u : Unit) => [oz_oM h tx n wi i k la, oz_oI cI tx 256 fT, oz_oI cI wi 2048 fW, oz_oI cI la r fR]) (C := RX2) hx hb hml hown hts hK hP hD hS hA (mt_X2_isFull l G cB cI s.heap.size h tx wi la n r i k fT fW fR hn hr0 hi hk) (lw_V q276 q278 qs5 q14 q279) rfl rfl (by decide +kernel) rfl ⟨Nat.le_of_ble_eq_true rfl, Nat.le_of_ble_eq_true rfl⟩ [0, 1, 2, 3] [] rfl rfl rfl rfl (by decide) 0 rfl rfl rfl hl.1 (Nat.le_of_ble_eq_true rfl) dX2_intIn_1 ⟨Nat.le_of_ble_eq_true rfl, Nat.le_of_ble_eq_true rfl⟩ (fun _ => rfl) (fun _ H locs hP hD hS => ?_)
  have hP : va_P G vwCl [oz_oM h tx n wi i k la, oz_oI cI tx 256 fT, oz_oI cI wi 2048 fW, oz_oI cI la r fR] H := hP
  have hD : va_D A [oz_oM h tx n wi i k la, oz_oI cI tx 256 fT, oz_oI cI wi 2048 fW, oz_oI cI la r fR] := hD
  by_cases hc : i < 1600
  · refine oz_ktop (y := nI 0) (if_neg (by omega)) ?_
    refine oz_kj_eq0 hx hb (by decide) (tgt := 9) dX2_intIn_4 (by decide) (fun h1 => ?_) (fun h1 => ?_)
    · obtain ⟨X, hX, mX, eX⟩ := oz_sx hv
      refine lv_aload_n hx hb dX2_intIn_9 rfl (lv_at hl 0 rfl) ?_
      refine lv_iload_n hx hb dX2_intIn_10 rfl (lv_at hl 1 rfl) ?_
      refine lv_i2l (v := lN X) hx hb dX2_intIn_11 (eX) ?_
      refine lv_iconst (v := nI 4) hx hb dX2_intIn_12 (by decide) ?_
      refine oz_kc_v (nA := 2) (As := [.long (lN X), .int (nI 4)]) (rest := []) (wr := []) (w3 := fun (u : Unit) => [oz_oM h tx n wi (i + 4) k la, oz_oI cI tx 256 fT, oz_oI cI wi 2048 (oz_pb fW i 4 X), oz_oI cI la r fR]) (C := RX2) hx hb hml hown hts hK hP hD hS hA (mt_X2_lay l G cB cI H.size h tx wi la n r i k fT fW fR X 4 hn hr0 (by omega) (by omega) (hX) (by decide) (by omega)) (lw_V q280 q282 qs6 q14 q283) rfl rfl (by decide +kernel) rfl ⟨Nat.le_of_ble_eq_true rfl, Nat.le_of_ble_eq_true rfl⟩ [0, 1, 2, 3] [] rfl rfl rfl rfl (by decide) 0 rfl rfl rfl hl.1 (Nat.le_of_ble_eq_true rfl) dX2_intIn_13 ⟨Nat.le_of_ble_eq_true rfl, Nat.le_of_ble_eq_true rfl⟩ (fun _ => rfl) (fun _ H locs hP hD hS => ?_)
      have hP : va_P G vwCl [oz_oM h tx n wi (i + 4) k la, oz_oI cI tx 256 fT, oz_oI cI wi 2048 (oz_pb fW i 4 X), oz_oI cI la r fR] H := hP
      have hD : va_D A [oz_oM h tx n wi (i + 4) k la, oz_oI cI tx 256 fT, oz_oI cI wi 2048 (oz_pb fW i 4 X), oz_oI cI la r fR] := hD
      rw [oz_pb_mod fW i (U := v) (show X % 4294967296 = v % 4294967296 by omega)] at hP hD
      refine lv_iconst (v := nI 1) hx hb dX2_intIn_16 (by decide) ?_
      have ew : ([oz_oM h tx n wi (i + 4) k la, oz_oI cI tx 256 fT, oz_oI cI wi 2048 (oz_pb fW i 4 v), oz_oI cI la r fR] : va_W) = [oz_oM h tx n wi (if i < 1600 then i + 4 else i) k la, oz_oI cI tx 256 fT, oz_oI cI wi 2048 (if i < 1600 then oz_pb fW i 4 v else fW), oz_oI cI la r fR] := by simp only [if_pos hc]
      rw [ew] at hP hD
      exact W.zret (v := nI 1) hx hb hr rfl (fun t9 ht hW => ⟨⟨_, (), rfl, (if_pos hc).symm, by rw [ht]; exact hP, va_K.moved hW.alike hK, hD⟩, hS.F ht⟩) hS.2.2 dX2_intIn_17
    · omega
  · refine oz_ktop (y := nI 1) (if_pos (by omega)) ?_
    refine oz_kj_eq0 hx hb (by decide) (tgt := 9) dX2_intIn_4 (by decide) (fun h1 => ?_) (fun h1 => ?_)
    · omega
    · refine lv_iconst (v := nI 0) hx hb dX2_intIn_7 (by decide) ?_
      have ew : ([oz_oM h tx n wi i k la, oz_oI cI tx 256 fT, oz_oI cI wi 2048 fW, oz_oI cI la r fR] : va_W) = [oz_oM h tx n wi (if i < 1600 then i + 4 else i) k la, oz_oI cI tx 256 fT, oz_oI cI wi 2048 (if i < 1600 then oz_pb fW i 4 v else fW), oz_oI cI la r fR] := by simp only [if_neg hc]
      rw [ew] at hP hD
      exact W.zret (v := nI 0) hx hb hr rfl (fun t9 ht hW => ⟨⟨_, (), rfl, (if_neg hc).symm, by rw [ht]; exact hP, va_K.moved hW.alike hK, hD⟩, hS.F ht⟩) hS.2.2 dX2_intIn_8

/-- longIn -/
abbrev rm_X2_longIn : Room := ({ frames := 1, cells := 0, slots := 0, locals := 24 } : Room)
set_option maxHeartbeats 4000000 in
set_option maxRecDepth 100000 in
theorem mt_X2_longIn (l : Launch) (G : va_G) (cB cI : ClassId) (sz : Nat) (h tx wi la n r i k : Nat) (fT fW fR : Nat → oz_By) (v1 v2 : Nat) (hn : n ≤ 256) (hr0 : r ≤ 2048) (hi : i ≤ 2048) (hk : k ≤ i) (hv1 : v1 < 2 ^ 32) (hv2 : v2 < 2 ^ 32) : Met l yX2_longIn (ws_ yX2_longIn cX2_longIn 3 (some .boolean)) rm_X2_longIn (va_Pc [.ref h, .int (nI v1), .int (nI v2)] (oz_pw G cB cI sz [oz_oM h tx n wi i k la, oz_oI cI tx 256 fT, oz_oI cI wi 2048 fW, oz_oI cI la r fR])) (va_Qi (fun (x9 : Int32) (_ : Unit) => x9 = (if i < 1600 then (1 : Int32) else 0)) (fun (u : Unit) => oz_qw G cB cI (va_A [oz_oM h tx n wi i k la, oz_oI cI tx 256 fT, oz_oI cI wi 2048 fW, oz_oI cI la r fR] sz) [oz_oM h tx n wi (if i < 1600 then i + 8 else i) k la, oz_oI cI tx 256 fT, oz_oI cI wi 2048 (if i < 1600 then oz_pb (oz_pb fW i 4 v1) (i + 4) 4 v2 else fW), oz_oI cI la r fR]) (va_A [oz_oM h tx n wi i k la, oz_oI cI tx 256 fT, oz_oI cI wi 2048 fW, oz_oI cI la r fR] sz)) 0 0 (va_A [oz_oM h tx n wi i k la, oz_oI cI tx 256 fT, oz_oI cI wi 2048 fW, oz_oI cI la r fR] sz) := by
  refine Met.ofW (cc := cX2_longIn) (maxL := 3) (ret := (some .boolean)) (by decide) rfl ?_
  intro p e s m args below meth c s₁ B hml hv
  obtain ⟨rfl, hsz, hP, hK, hD0⟩ := hv
  have hx := B.exec
  have hb := B.bytes
  have hr := B.returns
  have hts := atoms_spec (ws := (ws_ yX2_longIn cX2_longIn 3 (some .boolean))) B.pre
  have hts : ∀ w ∈ lw_all, w.before _ s = true := fun w h => hts w (List.mem_cons_of_mem _ h)
  have hown : s.vm.findClass RX2 = some m.cls := findClass_of_methodNamed B.named
  have hlocks := B.notSynchronized
  subst hsz
  have hD := hD0.self (sz := s.heap.size)
  generalize hAe : va_A [oz_oM h tx n wi i k la, oz_oI cI tx 256 fT, oz_oI cI wi 2048 fW, oz_oI cI la r fR] s.heap.size = A at hD ⊢
  have hA : ∀ q9 : Nat, s.heap.size ≤ q9 → A q9 := fun q9 h => by rw [← hAe]; exact Or.inr h
  have hS : va_S A s.heap s.heap [] := va_S.rf
  have hP : va_P G vwCl [oz_oM h tx n wi i k la, oz_oI cI tx 256 fT, oz_oI cI wi 2048 fW, oz_oI cI la r fR] s.heap := hP
  have hl := lv_entry ([.ref h, .int (nI v1), .int (nI v2)]) (n := 3) (Nat.le_of_ble_eq_true rfl)
  rw [lg_entry_eq]
  generalize (lg_sl ([.ref h, .int (nI v1), .int (nI v2)]) ++ List.replicate (3 - (lg_sl ([.ref h, .int (nI v1), .int (nI v2)])).length) Slot.unset).toArray = ls at hl ⊢
  have hl : lv_has ls 3 [(0, .ref h), (1, .int (nI v1)), (2, .int (nI v2))] := hl
  refine lv_aload_n hx hb dX2_longIn_0 rfl (lv_at hl 0 rfl) ?_
  refine oz_kc_i (nA := 0) (As := []) (rest := []) (wr := []) (w3 := fun (u : Unit) => [oz_oM h tx n wi i k la, oz_oI cI tx 256 fT, oz_oI cI wi 2048 fW, oz_oI cI la r fR]) (C := RX2) hx hb hml hown hts hK hP hD hS hA (mt_X2_isFull l G cB cI s.heap.size h tx wi la n r i k fT fW fR hn hr0 hi hk) (lw_V q276 q278 qs5 q14 q279) rfl rfl (by decide +kernel) rfl ⟨Nat.le_of_ble_eq_true rfl, Nat.le_of_ble_eq_true rfl⟩ [0, 1, 2, 3] [] rfl rfl rfl rfl (by decide) 0 rfl rfl rfl hl.1 (Nat.le_of_ble_eq_true rfl) dX2_longIn_1 ⟨Nat.le_of_ble_eq_true rfl, Nat.le_of_ble_eq_true rfl⟩ (fun _ => rfl) (fun _ H locs hP hD hS => ?_)
  have hP : va_P G vwCl [oz_oM h tx n wi i k la, oz_oI cI tx 256 fT, oz_oI cI wi 2048 fW, oz_oI cI la r fR] H := hP
  have hD : va_D A [oz_oM h tx n wi i k la, oz_oI cI tx 256 fT, oz_oI cI wi 2048 fW, oz_oI cI la r fR] := hD
  by_cases hc : i < 1600
  · refine oz_ktop (y := nI 0) (if_neg (by omega)) ?_
    refine oz_kj_eq0 hx hb (by decide) (tgt := 9) dX2_longIn_4 (by decide) (fun h1 => ?_) (fun h1 => ?_)
    · obtain ⟨X, hX, mX, eX⟩ := oz_sx hv1
      obtain ⟨Y, hY, mY, eY⟩ := oz_sx hv2
      refine lv_aload_n hx hb dX2_longIn_9 rfl (lv_at hl 0 rfl) ?_
      refine lv_iload_n hx hb dX2_longIn_10 rfl (lv_at hl 1 rfl) ?_
      refine lv_i2l (v := lN X) hx hb dX2_longIn_11 (eX) ?_
      refine lv_iconst (v := nI 4) hx hb dX2_longIn_12 (by decide) ?_
      refine oz_kc_v (nA := 2) (As := [.long (lN X), .int (nI 4)]) (rest := []) (wr := []) (w3 := fun (u : Unit) => [oz_oM h tx n wi (i + 4) k la, oz_oI cI tx 256 fT, oz_oI cI wi 2048 (oz_pb fW i 4 X), oz_oI cI la r fR]) (C := RX2) hx hb hml hown hts hK hP hD hS hA (mt_X2_lay l G cB cI H.size h tx wi la n r i k fT fW fR X 4 hn hr0 (by omega) (by omega) (hX) (by decide) (by omega)) (lw_V q280 q282 qs6 q14 q283) rfl rfl (by decide +kernel) rfl ⟨Nat.le_of_ble_eq_true rfl, Nat.le_of_ble_eq_true rfl⟩ [0, 1, 2, 3] [] rfl rfl rfl rfl (by decide) 0 rfl rfl rfl hl.1 (Nat.le_of_ble_eq_true rfl) dX2_longIn_13 ⟨Nat.le_of_ble_eq_true rfl, Nat.le_of_ble_eq_true rfl⟩ (fun _ => rfl) (fun _ H locs hP hD hS => ?_)
      have hP : va_P G vwCl [oz_oM h tx n wi (i + 4) k la, oz_oI cI tx 256 fT, oz_oI cI wi 2048 (oz_pb fW i 4 X), oz_oI cI la r fR] H := hP
      have hD : va_D A [oz_oM h tx n wi (i + 4) k la, oz_oI cI tx 256 fT, oz_oI cI wi 2048 (oz_pb fW i 4 X), oz_oI cI la r fR] := hD
      rw [oz_pb_mod fW i (U := v1) (show X % 4294967296 = v1 % 4294967296 by omega)] at hP hD
      refine lv_aload_n hx hb dX2_longIn_16 rfl (lv_at hl 0 rfl) ?_
      refine lv_iload_n hx hb dX2_longIn_17 rfl (lv_at hl 2 rfl) ?_
      refine lv_i2l (v := lN Y) hx hb dX2_longIn_18 (eY) ?_
      refine lv_iconst (v := nI 4) hx hb dX2_longIn_19 (by decide) ?_
      refine oz_kc_v (nA := 2) (As := [.long (lN Y), .int (nI 4)]) (rest := []) (wr := []) (w3 := fun (u : Unit) => [oz_oM h tx n wi ((i + 4) + 4) k la, oz_oI cI tx 256 fT, oz_oI cI wi 2048 (oz_pb (oz_pb fW i 4 v1) (i + 4) 4 Y), oz_oI cI la r fR]) (C := RX2) hx hb hml hown hts hK hP hD hS hA (mt_X2_lay l G cB cI H.size h tx wi la n r (i + 4) k fT (oz_pb fW i 4 v1) fR Y 4 hn hr0 (by omega) (by omega) (hY) (by decide) (by omega)) (lw_V q280 q282 qs6 q14 q283) rfl rfl (by decide +kernel) rfl ⟨Nat.le_of_ble_eq_true rfl, Nat.le_of_ble_eq_true rfl⟩ [0, 1, 2, 3] [] rfl rfl rfl rfl (by decide) 0 rfl rfl rfl hl.1 (Nat.le_of_ble_eq_true rfl) dX2_longIn_20 ⟨Nat.le_of_ble_eq_true rfl, Nat.le_of_ble_eq_true rfl⟩ (fun _ => rfl) (fun _ H locs hP hD hS => ?_)
      have hP : va_P G vwCl [oz_oM h tx n wi ((i + 4) + 4) k la, oz_oI cI tx 256 fT, oz_oI cI wi 2048 (oz_pb (oz_pb fW i 4 v1) (i + 4) 4 Y), oz_oI cI la r fR] H := hP
      have hD : va_D A [oz_oM h tx n wi ((i + 4) + 4) k la, oz_oI cI tx 256 fT, oz_oI cI wi 2048 (oz_pb (oz_pb fW i 4 v1) (i + 4) 4 Y), oz_oI cI la r fR] := hD
      rw [oz_pb_mod (oz_pb fW i 4 v1) (i + 4) (U := v2) (show Y % 4294967296 = v2 % 4294967296 by omega)] at hP hD
      refine lv_iconst (v := nI 1) hx hb dX2_longIn_23 (by decide) ?_
      have ew : ([oz_oM h tx n wi (i + 8) k la, oz_oI cI tx 256 fT, oz_oI cI wi 2048 (oz_pb (oz_pb fW i 4 v1) (i + 4) 4 v2), oz_oI cI la r fR] : va_W) = [oz_oM h tx n wi (if i < 1600 then i + 8 else i) k la, oz_oI cI tx 256 fT, oz_oI cI wi 2048 (if i < 1600 then oz_pb (oz_pb fW i 4 v1) (i + 4) 4 v2 else fW), oz_oI cI la r fR] := by simp only [if_pos hc]
      rw [ew] at hP hD
      exact W.zret (v := nI 1) hx hb hr rfl (fun t9 ht hW => ⟨⟨_, (), rfl, (if_pos hc).symm, by rw [ht]; exact hP, va_K.moved hW.alike hK, hD⟩, hS.F ht⟩) hS.2.2 dX2_longIn_24
    · omega
  · refine oz_ktop (y := nI 1) (if_pos (by omega)) ?_
    refine oz_kj_eq0 hx hb (by decide) (tgt := 9) dX2_longIn_4 (by decide) (fun h1 => ?_) (fun h1 => ?_)
    · omega
    · refine lv_iconst (v := nI 0) hx hb dX2_longIn_7 (by decide) ?_
      have ew : ([oz_oM h tx n wi i k la, oz_oI cI tx 256 fT, oz_oI cI wi 2048 fW, oz_oI cI la r fR] : va_W) = [oz_oM h tx n wi (if i < 1600 then i + 8 else i) k la, oz_oI cI tx 256 fT, oz_oI cI wi 2048 (if i < 1600 then oz_pb (oz_pb fW i 4 v1) (i + 4) 4 v2 else fW), oz_oI cI la r fR] := by simp only [if_neg hc]
      rw [ew] at hP hD
      exact W.zret (v := nI 0) hx hb hr rfl (fun t9 ht hW => ⟨⟨_, (), rfl, (if_neg hc).symm, by rw [ht]; exact hP, va_K.moved hW.alike hK, hD⟩, hS.F ht⟩) hS.2.2 dX2_longIn_8

/-- stringIn -/
abbrev rm_X2_stringIn : Room := ({ frames := 2, cells := 1, slots := 256, locals := 49 } : Room)
set_option maxHeartbeats 4000000 in
set_option maxRecDepth 100000 in
theorem mt_X2_stringIn (l : Launch) (G : va_G) (cB cI : ClassId) (sz : Nat) (h tx wi la n r i k : Nat) (fT fW fR : Nat → oz_By) (v1 v2 : Nat) (hn : n ≤ 256) (hr0 : r ≤ 2048) (hi : i ≤ 2048) (hk : k ≤ i) (hv1 : v1 < 2 ^ 32) (hv2 : v2 < 2 ^ 32) : Met l yX2_stringIn (ws_ yX2_stringIn cX2_stringIn 4 (some .boolean)) rm_X2_stringIn (va_Pc [.ref h, .int (nI v1), .int (nI v2)] (oz_pw G cB cI sz [oz_oM h tx n wi i k la, oz_oI cI tx 256 fT, oz_oI cI wi 2048 fW, oz_oI cI la r fR])) (va_Qi (fun (x9 : Int32) (_ : Unit) => x9 = (if i < 1600 then (1 : Int32) else 0)) (fun (u : Unit) => oz_qw G cB cI (va_A [oz_oM h tx n wi i k la, oz_oI cI tx 256 fT, oz_oI cI wi 2048 fW, oz_oI cI la r fR] sz) [oz_oM h tx n wi (if i < 1600 then i + 4 + oz_ct v2 n (oz_fr v1 n) else i) k la, oz_oI cI tx 256 fT, oz_oI cI wi 2048 (if i < 1600 then va_cpy (oz_sl fT (oz_fr v1 n) (oz_ct v2 n (oz_fr v1 n))) (oz_pb fW i 4 (oz_ct v2 n (oz_fr v1 n))) 0 (i + 4) (oz_ct v2 n (oz_fr v1 n)) else fW), oz_oI cI la r fR]) (va_A [oz_oM h tx n wi i k la, oz_oI cI tx 256 fT, oz_oI cI wi 2048 fW, oz_oI cI la r fR] sz)) 1 256 (va_A [oz_oM h tx n wi i k la, oz_oI cI tx 256 fT, oz_oI cI wi 2048 fW, oz_oI cI la r fR] sz) := by
  refine Met.ofW (cc := cX2_stringIn) (maxL := 4) (ret := (some .boolean)) (by decide) rfl ?_
  intro p e s m args below meth c s₁ B hml hv
  obtain ⟨rfl, hsz, hP, hK, hD0⟩ := hv
  have hx := B.exec
  have hb := B.bytes
  have hr := B.returns
  have hts := atoms_spec (ws := (ws_ yX2_stringIn cX2_stringIn 4 (some .boolean))) B.pre
  have hts : ∀ w ∈ lw_all, w.before _ s = true := fun w h => hts w (List.mem_cons_of_mem _ h)
  have hown : s.vm.findClass RX2 = some m.cls := findClass_of_methodNamed B.named
  have hlocks := B.notSynchronized
  subst hsz
  have hD := hD0.self (sz := s.heap.size)
  generalize hAe : va_A [oz_oM h tx n wi i k la, oz_oI cI tx 256 fT, oz_oI cI wi 2048 fW, oz_oI cI la r fR] s.heap.size = A at hD ⊢
  have hA : ∀ q9 : Nat, s.heap.size ≤ q9 → A q9 := fun q9 h => by rw [← hAe]; exact Or.inr h
  have hS : va_S A s.heap s.heap [] := va_S.rf
  have hP : va_P G vwCl [oz_oM h tx n wi i k la, oz_oI cI tx 256 fT, oz_oI cI wi 2048 fW, oz_oI cI la r fR] s.heap := hP
  have hl := lv_entry ([.ref h, .int (nI v1), .int (nI v2)]) (n := 4) (Nat.le_of_ble_eq_true rfl)
  rw [lg_entry_eq]
  generalize (lg_sl ([.ref h, .int (nI v1), .int (nI v2)]) ++ List.replicate (4 - (lg_sl ([.ref h, .int (nI v1), .int (nI v2)])).length) Slot.unset).toArray = ls at hl ⊢
  have hl : lv_has ls 4 [(0, .ref h), (1, .int (nI v1)), (2, .int (nI v2))] := hl
  refine lv_aload_n hx hb dX2_stringIn_0 rfl (lv_at hl 0 rfl) ?_
  refine oz_kc_i (nA := 0) (As := []) (rest := []) (wr := []) (w3 := fun (u : Unit) => [oz_oM h tx n wi i k la, oz_oI cI tx 256 fT, oz_oI cI wi 2048 fW, oz_oI cI la r fR]) (C := RX2) hx hb hml hown hts hK hP hD hS hA (mt_X2_isFull l G cB cI s.heap.size h tx wi la n r i k fT fW fR hn hr0 hi hk) (lw_V q276 q278 qs5 q14 q279) rfl rfl (by decide +kernel) rfl ⟨Nat.le_of_ble_eq_true rfl, Nat.le_of_ble_eq_true rfl⟩ [0, 1, 2, 3] [] rfl rfl rfl rfl (by decide) 0 rfl rfl rfl hl.1 (Nat.le_of_ble_eq_true rfl) dX2_stringIn_1 ⟨Nat.le_of_ble_eq_true rfl, Nat.le_of_ble_eq_true rfl⟩ (fun _ => rfl) (fun _ H locs hP hD hS => ?_)
  have hP : va_P G vwCl [oz_oM h tx n wi i k la, oz_oI cI tx 256 fT, oz_oI cI wi 2048 fW, oz_oI cI la r fR] H := hP
  have hD : va_D A [oz_oM h tx n wi i k la, oz_oI cI tx 256 fT, oz_oI cI wi 2048 fW, oz_oI cI la r fR] := hD
  by_cases hc : i < 1600
  · refine oz_ktop (y := nI 0) (if_neg (by omega)) ?_
    refine oz_kj_eq0 hx hb (by decide) (tgt := 9) dX2_stringIn_4 (by decide) (fun h1 => ?_) (fun h1 => ?_)
    · have hf := oz_fr_le v1 n
      have hc0 := oz_ct_le (V := v2) hf
      refine lv_aload_n hx hb dX2_stringIn_9 rfl (lv_at hl 0 rfl) ?_
      refine lv_iload_n hx hb dX2_stringIn_10 rfl (lv_at hl 1 rfl) ?_
      refine lv_iload_n hx hb dX2_stringIn_11 rfl (lv_at hl 2 rfl) ?_
      refine oz_kc_r (nA := 2) (As := [.int (nI v1), .int (nI v2)]) (rest := []) (wr := []) (w3r := fun (u : Unit) (z : Nat) => [oz_oM h tx n wi i k la, oz_oI cI tx 256 fT, oz_oI cI wi 2048 fW, oz_oI cI la r fR, oz_oI cI z (oz_ct v2 n (oz_fr v1 n)) (oz_sl fT (oz_fr v1 n) (oz_ct v2 n (oz_fr v1 n)))]) (C := RX2) hx hb hml hown hts hK hP hD hS hA (mt_X2_part l G cB cI H.size h tx wi la n r i k fT fW fR v1 v2 hn hr0 hi hk hv1 hv2) (lw_V q297 q299 qs7 q14 q300) rfl rfl (by decide +kernel) rfl ⟨Nat.le_of_ble_eq_true rfl, Nat.le_of_ble_eq_true rfl⟩ [0, 1, 2, 3] [] rfl rfl rfl rfl (by decide) 0 rfl rfl rfl hl.1 (Nat.le_of_ble_eq_true rfl) dX2_stringIn_12 ⟨Nat.le_of_ble_eq_true rfl, Nat.le_of_ble_eq_true rfl⟩ (fun _ _ => rfl) (fun _ z H locs hP hD hS => ?_)
      have hP : va_P G vwCl [oz_oM h tx n wi i k la, oz_oI cI tx 256 fT, oz_oI cI wi 2048 fW, oz_oI cI la r fR, oz_oI cI z (oz_ct v2 n (oz_fr v1 n)) (oz_sl fT (oz_fr v1 n) (oz_ct v2 n (oz_fr v1 n)))] H := hP
      have hD : va_D A [oz_oM h tx n wi i k la, oz_oI cI tx 256 fT, oz_oI cI wi 2048 fW, oz_oI cI la r fR, oz_oI cI z (oz_ct v2 n (oz_fr v1 n)) (oz_sl fT (oz_fr v1 n) (oz_ct v2 n (oz_fr v1 n)))] := hD
      refine lv_astore_n (lv' := [(3, .ref z), (0, .ref h), (1, .int (nI v1)), (2, .int (nI v2))]) hx hb dX2_stringIn_15 rfl hl (by decide) rfl (fun ls hl => ?_)
      refine lv_aload_n hx hb dX2_stringIn_16 rfl (lv_at hl 1 rfl) ?_
      refine lv_aload_n hx hb dX2_stringIn_17 rfl (lv_at hl 0 rfl) ?_
      refine va_alen (v := nI (oz_ct v2 n (oz_fr v1 n))) hx hb hK hP 4 1 rfl rfl rfl dX2_stringIn_18 ?_
      refine lv_i2l (v := lN (oz_ct v2 n (oz_fr v1 n))) hx hb dX2_stringIn_19 (oz_i2l_s (by omega)) ?_
      refine lv_iconst (v := nI 4) hx hb dX2_stringIn_20 (by decide) ?_
      refine oz_kc_v (nA := 2) (As := [.long (lN (oz_ct v2 n (oz_fr v1 n))), .int (nI 4)]) (rest := []) (wr := [oz_oI cI z (oz_ct v2 n (oz_fr v1 n)) (oz_sl fT (oz_fr v1 n) (oz_ct v2 n (oz_fr v1 n)))]) (w3 := fun (u : Unit) => [oz_oI cI z (oz_ct v2 n (oz_fr v1 n)) (oz_sl fT (oz_fr v1 n) (oz_ct v2 n (oz_fr v1 n))), oz_oM h tx n wi (i + 4) k la, oz_oI cI tx 256 fT, oz_oI cI wi 2048 (oz_pb fW i 4 (oz_ct v2 n (oz_fr v1 n))), oz_oI cI la r fR]) (C := RX2) hx hb hml hown hts hK hP hD hS hA (mt_X2_lay l G cB cI H.size h tx wi la n r i k fT fW fR (oz_ct v2 n (oz_fr v1 n)) 4 hn hr0 (by omega) (by omega) (by omega) (by decide) (by omega)) (lw_V q280 q282 qs6 q14 q283) rfl rfl (by decide +kernel) rfl ⟨Nat.le_of_ble_eq_true rfl, Nat.le_of_ble_eq_true rfl⟩ [0, 1, 2, 3] [4] rfl rfl rfl rfl (by decide) 0 rfl rfl rfl hl.1 (Nat.le_of_ble_eq_true rfl) dX2_stringIn_21 ⟨Nat.le_of_ble_eq_true rfl, Nat.le_of_ble_eq_true rfl⟩ (fun _ => rfl) (fun _ H locs hP hD hS => ?_)
      have hP : va_P G vwCl [oz_oI cI z (oz_ct v2 n (oz_fr v1 n)) (oz_sl fT (oz_fr v1 n) (oz_ct v2 n (oz_fr v1 n))), oz_oM h tx n wi (i + 4) k la, oz_oI cI tx 256 fT, oz_oI cI wi 2048 (oz_pb fW i 4 (oz_ct v2 n (oz_fr v1 n))), oz_oI cI la r fR] H := hP
      have hD : va_D A [oz_oI cI z (oz_ct v2 n (oz_fr v1 n)) (oz_sl fT (oz_fr v1 n) (oz_ct v2 n (oz_fr v1 n))), oz_oM h tx n wi (i + 4) k la, oz_oI cI tx 256 fT, oz_oI cI wi 2048 (oz_pb fW i 4 (oz_ct v2 n (oz_fr v1 n))), oz_oI cI la r fR] := hD
      have hP := hP.sub (ws' := [oz_oM h tx n wi (i + 4) k la, oz_oI cI tx 256 fT, oz_oI cI wi 2048 (oz_pb fW i 4 (oz_ct v2 n (oz_fr v1 n))), oz_oI cI la r fR, oz_oI cI z (oz_ct v2 n (oz_fr v1 n)) (oz_sl fT (oz_fr v1 n) (oz_ct v2 n (oz_fr v1 n)))]) [1, 2, 3, 4, 0] rfl
      have hD := hD.sub (ws' := [oz_oM h tx n wi (i + 4) k la, oz_oI cI tx 256 fT, oz_oI cI wi 2048 (oz_pb fW i 4 (oz_ct v2 n (oz_fr v1 n))), oz_oI cI la r fR, oz_oI cI z (oz_ct v2 n (oz_fr v1 n)) (oz_sl fT (oz_fr v1 n) (oz_ct v2 n (oz_fr v1 n)))]) [1, 2, 3, 4, 0] (by decide) rfl
      refine lv_aload_n hx hb dX2_stringIn_24 rfl (lv_at hl 1 rfl) ?_
      refine lv_aload_n hx hb dX2_stringIn_25 rfl (lv_at hl 0 rfl) ?_
      refine oz_kc_v (nA := 1) (As := [.ref z]) (rest := []) (wr := []) (w3 := fun (u : Unit) => [oz_oM h tx n wi ((i + 4) + (oz_ct v2 n (oz_fr v1 n))) k la, oz_oI cI tx 256 fT, oz_oI cI wi 2048 (va_cpy (oz_sl fT (oz_fr v1 n) (oz_ct v2 n (oz_fr v1 n))) (oz_pb fW i 4 (oz_ct v2 n (oz_fr v1 n))) 0 (i + 4) (oz_ct v2 n (oz_fr v1 n))), oz_oI cI la r fR, oz_oI cI z ((oz_ct v2 n (oz_fr v1 n))) ((oz_sl fT (oz_fr v1 n) (oz_ct v2 n (oz_fr v1 n))))]) (C := RX2) hx hb hml hown hts hK hP hD hS hA (mt_X2_layAll l G cB cI H.size h tx wi la n r (i + 4) k fT (oz_pb fW i 4 (oz_ct v2 n (oz_fr v1 n))) fR z (oz_ct v2 n (oz_fr v1 n)) (oz_sl fT (oz_fr v1 n) (oz_ct v2 n (oz_fr v1 n))) hn hr0 (by omega) (by omega) (by omega) (by omega)) (lw_V q301 q303 qs8 q14 q304) rfl rfl (by decide +kernel) rfl ⟨Nat.le_of_ble_eq_true rfl, Nat.le_of_ble_eq_true rfl⟩ [0, 1, 2, 3, 4] [] rfl rfl rfl rfl (by decide) 0 rfl rfl rfl hl.1 (Nat.le_of_ble_eq_true rfl) dX2_stringIn_26 ⟨Nat.le_of_ble_eq_true rfl, Nat.le_of_ble_eq_true rfl⟩ (fun _ => rfl) (fun _ H locs hP hD hS => ?_)
      have hP : va_P G vwCl [oz_oM h tx n wi ((i + 4) + (oz_ct v2 n (oz_fr v1 n))) k la, oz_oI cI tx 256 fT, oz_oI cI wi 2048 (va_cpy (oz_sl fT (oz_fr v1 n) (oz_ct v2 n (oz_fr v1 n))) (oz_pb fW i 4 (oz_ct v2 n (oz_fr v1 n))) 0 (i + 4) (oz_ct v2 n (oz_fr v1 n))), oz_oI cI la r fR, oz_oI cI z ((oz_ct v2 n (oz_fr v1 n))) ((oz_sl fT (oz_fr v1 n) (oz_ct v2 n (oz_fr v1 n))))] H := hP
      have hD : va_D A [oz_oM h tx n wi ((i + 4) + (oz_ct v2 n (oz_fr v1 n))) k la, oz_oI cI tx 256 fT, oz_oI cI wi 2048 (va_cpy (oz_sl fT (oz_fr v1 n) (oz_ct v2 n (oz_fr v1 n))) (oz_pb fW i 4 (oz_ct v2 n (oz_fr v1 n))) 0 (i + 4) (oz_ct v2 n (oz_fr v1 n))), oz_oI cI la r fR, oz_oI cI z ((oz_ct v2 n (oz_fr v1 n))) ((oz_sl fT (oz_fr v1 n) (oz_ct v2 n (oz_fr v1 n))))] := hD
      refine lv_iconst (v := nI 1) hx hb dX2_stringIn_29 (by decide) ?_
      have hP := hP.sub (ws' := [oz_oM h tx n wi ((i + 4) + (oz_ct v2 n (oz_fr v1 n))) k la, oz_oI cI tx 256 fT, oz_oI cI wi 2048 (va_cpy (oz_sl fT (oz_fr v1 n) (oz_ct v2 n (oz_fr v1 n))) (oz_pb fW i 4 (oz_ct v2 n (oz_fr v1 n))) 0 (i + 4) (oz_ct v2 n (oz_fr v1 n))), oz_oI cI la r fR]) [0, 1, 2, 3] rfl
      have hD := hD.sub (ws' := [oz_oM h tx n wi ((i + 4) + (oz_ct v2 n (oz_fr v1 n))) k la, oz_oI cI tx 256 fT, oz_oI cI wi 2048 (va_cpy (oz_sl fT (oz_fr v1 n) (oz_ct v2 n (oz_fr v1 n))) (oz_pb fW i 4 (oz_ct v2 n (oz_fr v1 n))) 0 (i + 4) (oz_ct v2 n (oz_fr v1 n))), oz_oI cI la r fR]) [0, 1, 2, 3] (by decide) rfl
      have ew : ([oz_oM h tx n wi ((i + 4) + (oz_ct v2 n (oz_fr v1 n))) k la, oz_oI cI tx 256 fT, oz_oI cI wi 2048 (va_cpy (oz_sl fT (oz_fr v1 n) (oz_ct v2 n (oz_fr v1 n))) (oz_pb fW i 4 (oz_ct v2 n (oz_fr v1 n))) 0 (i + 4) (oz_ct v2 n (oz_fr v1 n))), oz_oI cI la r fR] : va_W) = [oz_oM h tx n wi (if i < 1600 then i + 4 + oz_ct v2 n (oz_fr v1 n) else i) k la, oz_oI cI tx 256 fT, oz_oI cI wi 2048 (if i < 1600 then va_cpy (oz_sl fT (oz_fr v1 n) (oz_ct v2 n (oz_fr v1 n))) (oz_pb fW i 4 (oz_ct v2 n (oz_fr v1 n))) 0 (i + 4) (oz_ct v2 n (oz_fr v1 n)) else fW), oz_oI cI la r fR] := by simp only [if_pos hc]
      rw [ew] at hP hD
      exact W.zret (v := nI 1) hx hb hr rfl (fun t9 ht hW => ⟨⟨_, (), rfl, (if_pos hc).symm, by rw [ht]; exact hP, va_K.moved hW.alike hK, hD⟩, hS.F ht⟩) hS.2.2 dX2_stringIn_30
    · omega
  · refine oz_ktop (y := nI 1) (if_pos (by omega)) ?_
    refine oz_kj_eq0 hx hb (by decide) (tgt := 9) dX2_stringIn_4 (by decide) (fun h1 => ?_) (fun h1 => ?_)
    · omega
    · refine lv_iconst (v := nI 0) hx hb dX2_stringIn_7 (by decide) ?_
      refine W.widen (k := 1) (n := 256) (Nat.le_of_ble_eq_true rfl) (Nat.le_of_ble_eq_true rfl) ?_
      have ew : ([oz_oM h tx n wi i k la, oz_oI cI tx 256 fT, oz_oI cI wi 2048 fW, oz_oI cI la r fR] : va_W) = [oz_oM h tx n wi (if i < 1600 then i + 4 + oz_ct v2 n (oz_fr v1 n) else i) k la, oz_oI cI tx 256 fT, oz_oI cI wi 2048 (if i < 1600 then va_cpy (oz_sl fT (oz_fr v1 n) (oz_ct v2 n (oz_fr v1 n))) (oz_pb fW i 4 (oz_ct v2 n (oz_fr v1 n))) 0 (i + 4) (oz_ct v2 n (oz_fr v1 n)) else fW), oz_oI cI la r fR] := by simp only [if_neg hc]
      rw [ew] at hP hD
      exact W.zret (v := nI 0) hx hb hr rfl (fun t9 ht hW => ⟨⟨_, (), rfl, (if_neg hc).symm, by rw [ht]; exact hP, va_K.moved hW.alike hK, hD⟩, hS.F ht⟩) hS.2.2 dX2_stringIn_8

/-- numberIn -/
abbrev rm_X2_numberIn : Room := ({ frames := 2, cells := 1, slots := 256, locals := 49 } : Room)
set_option maxHeartbeats 4000000 in
set_option maxRecDepth 100000 in
theorem mt_X2_numberIn (l : Launch) (G : va_G) (cB cI : ClassId) (sz : Nat) (h tx wi la n r i k : Nat) (fT fW fR : Nat → oz_By) (v1 v2 : Nat) (hn : n ≤ 256) (hr0 : r ≤ 2048) (hi : i ≤ 2048) (hk : k ≤ i) (hv1 : v1 < 2 ^ 32) (hv2 : v2 < 2 ^ 32) : Met l yX2_numberIn (ws_ yX2_numberIn cX2_numberIn 5 (some .boolean)) rm_X2_numberIn (va_Pc [.ref h, .int (nI v1), .int (nI v2)] (oz_pw G cB cI sz [oz_oM h tx n wi i k la, oz_oI cI tx 256 fT, oz_oI cI wi 2048 fW, oz_oI cI la r fR])) (va_Qi (fun (x9 : Int32) (_ : Unit) => x9 = (if i < 1600 ∧ 0 < oz_ct v2 n (oz_fr v1 n) then (1 : Int32) else 0)) (fun (u : Unit) => oz_qw G cB cI (va_A [oz_oM h tx n wi i k la, oz_oI cI tx 256 fT, oz_oI cI wi 2048 fW, oz_oI cI la r fR] sz) [oz_oM h tx n wi (if i < 1600 ∧ 0 < oz_ct v2 n (oz_fr v1 n) then (if 128 ≤ ((oz_sl fT (oz_fr v1 n) (oz_ct v2 n (oz_fr v1 n))) 0).toNat then i + 5 + oz_ct v2 n (oz_fr v1 n) else i + 4 + oz_ct v2 n (oz_fr v1 n)) else i) k la, oz_oI cI tx 256 fT, oz_oI cI wi 2048 (if i < 1600 ∧ 0 < oz_ct v2 n (oz_fr v1 n) then (if 128 ≤ ((oz_sl fT (oz_fr v1 n) (oz_ct v2 n (oz_fr v1 n))) 0).toNat then va_cpy (oz_sl fT (oz_fr v1 n) (oz_ct v2 n (oz_fr v1 n))) (oz_un (oz_pb fW i 4 (oz_ct v2 n (oz_fr v1 n) + 1)) (i + 4) 0#8) 0 (i + 5) (oz_ct v2 n (oz_fr v1 n)) else va_cpy (oz_sl fT (oz_fr v1 n) (oz_ct v2 n (oz_fr v1 n))) (oz_pb fW i 4 (oz_ct v2 n (oz_fr v1 n))) 0 (i + 4) (oz_ct v2 n (oz_fr v1 n))) else fW), oz_oI cI la r fR]) (va_A [oz_oM h tx n wi i k la, oz_oI cI tx 256 fT, oz_oI cI wi 2048 fW, oz_oI cI la r fR] sz)) 1 256 (va_A [oz_oM h tx n wi i k la, oz_oI cI tx 256 fT, oz_oI cI wi 2048 fW, oz_oI cI la r fR] sz) := by
  refine Met.ofW (cc := cX2_numberIn) (maxL := 5) (ret := (some .boolean)) (by decide) rfl ?_
  intro p e s m args below meth c s₁ B hml hv
  obtain ⟨rfl, hsz, hP, hK, hD0⟩ := hv
  have hx := B.exec
  have hb := B.bytes
  have hr := B.returns
  have hts := atoms_spec (ws := (ws_ yX2_numberIn cX2_numberIn 5 (some .boolean))) B.pre
  have hts : ∀ w ∈ lw_all, w.before _ s = true := fun w h => hts w (List.mem_cons_of_mem _ h)
  have hown : s.vm.findClass RX2 = some m.cls := findClass_of_methodNamed B.named
  have hlocks := B.notSynchronized
  subst hsz
  have hD := hD0.self (sz := s.heap.size)
  generalize hAe : va_A [oz_oM h tx n wi i k la, oz_oI cI tx 256 fT, oz_oI cI wi 2048 fW, oz_oI cI la r fR] s.heap.size = A at hD ⊢
  have hA : ∀ q9 : Nat, s.heap.size ≤ q9 → A q9 := fun q9 h => by rw [← hAe]; exact Or.inr h
  have hS : va_S A s.heap s.heap [] := va_S.rf
  have hP : va_P G vwCl [oz_oM h tx n wi i k la, oz_oI cI tx 256 fT, oz_oI cI wi 2048 fW, oz_oI cI la r fR] s.heap := hP
  have hl := lv_entry ([.ref h, .int (nI v1), .int (nI v2)]) (n := 5) (Nat.le_of_ble_eq_true rfl)
  rw [lg_entry_eq]
  generalize (lg_sl ([.ref h, .int (nI v1), .int (nI v2)]) ++ List.replicate (5 - (lg_sl ([.ref h, .int (nI v1), .int (nI v2)])).length) Slot.unset).toArray = ls at hl ⊢
  have hl : lv_has ls 5 [(0, .ref h), (1, .int (nI v1)), (2, .int (nI v2))] := hl
  have hf := oz_fr_le v1 n
  have hc0 := oz_ct_le (V := v2) hf
  refine lv_aload_n hx hb dX2_numberIn_0 rfl (lv_at hl 0 rfl) ?_
  refine lv_iload_n hx hb dX2_numberIn_1 rfl (lv_at hl 1 rfl) ?_
  refine lv_iload_n hx hb dX2_numberIn_2 rfl (lv_at hl 2 rfl) ?_
  refine oz_kc_r (nA := 2) (As := [.int (nI v1), .int (nI v2)]) (rest := []) (wr := []) (w3r := fun (u : Unit) (z : Nat) => [oz_oM h tx n wi i k la, oz_oI cI tx 256 fT, oz_oI cI wi 2048 fW, oz_oI cI la r fR, oz_oI cI z (oz_ct v2 n (oz_fr v1 n)) (oz_sl fT (oz_fr v1 n) (oz_ct v2 n (oz_fr v1 n)))]) (C := RX2) hx hb hml hown hts hK hP hD hS hA (mt_X2_part l G cB cI s.heap.size h tx wi la n r i k fT fW fR v1 v2 hn hr0 hi hk hv1 hv2) (lw_V q297 q299 qs7 q14 q300) rfl rfl (by decide +kernel) rfl ⟨Nat.le_of_ble_eq_true rfl, Nat.le_of_ble_eq_true rfl⟩ [0, 1, 2, 3] [] rfl rfl rfl rfl (by decide) 0 rfl rfl rfl hl.1 (Nat.le_of_ble_eq_true rfl) dX2_numberIn_3 ⟨Nat.le_of_ble_eq_true rfl, Nat.le_of_ble_eq_true rfl⟩ (fun _ _ => rfl) (fun _ z H locs hP hD hS => ?_)
  have hP : va_P G vwCl [oz_oM h tx n wi i k la, oz_oI cI tx 256 fT, oz_oI cI wi 2048 fW, oz_oI cI la r fR, oz_oI cI z (oz_ct v2 n (oz_fr v1 n)) (oz_sl fT (oz_fr v1 n) (oz_ct v2 n (oz_fr v1 n)))] H := hP
  have hD : va_D A [oz_oM h tx n wi i k la, oz_oI cI tx 256 fT, oz_oI cI wi 2048 fW, oz_oI cI la r fR, oz_oI cI z (oz_ct v2 n (oz_fr v1 n)) (oz_sl fT (oz_fr v1 n) (oz_ct v2 n (oz_fr v1 n)))] := hD
  refine lv_astore_n (lv' := [(3, .ref z), (0, .ref h), (1, .int (nI v1)), (2, .int (nI v2))]) hx hb dX2_numberIn_6 rfl hl (by decide) rfl (fun ls hl => ?_)
  refine lv_aload_n hx hb dX2_numberIn_7 rfl (lv_at hl 1 rfl) ?_
  refine oz_kc_i (nA := 0) (As := []) (rest := []) (wr := [oz_oI cI z (oz_ct v2 n (oz_fr v1 n)) (oz_sl fT (oz_fr v1 n) (oz_ct v2 n (oz_fr v1 n)))]) (w3 := fun (u : Unit) => [oz_oI cI z (oz_ct v2 n (oz_fr v1 n)) (oz_sl fT (oz_fr v1 n) (oz_ct v2 n (oz_fr v1 n))), oz_oM h tx n wi i k la, oz_oI cI tx 256 fT, oz_oI cI wi 2048 fW, oz_oI cI la r fR]) (C := RX2) hx hb hml hown hts hK hP hD hS hA (mt_X2_isFull l G cB cI H.size h tx wi la n r i k fT fW fR hn hr0 hi hk) (lw_V q276 q278 qs5 q14 q279) rfl rfl (by decide +kernel) rfl ⟨Nat.le_of_ble_eq_true rfl, Nat.le_of_ble_eq_true rfl⟩ [0, 1, 2, 3] [4] rfl rfl rfl rfl (by decide) 0 rfl rfl rfl hl.1 (Nat.le_of_ble_eq_true rfl) dX2_numberIn_8 ⟨Nat.le_of_ble_eq_true rfl, Nat.le_of_ble_eq_true rfl⟩ (fun _ => rfl) (fun _ H locs hP hD hS => ?_)
  have hP : va_P G vwCl [oz_oI cI z (oz_ct v2 n (oz_fr v1 n)) (oz_sl fT (oz_fr v1 n) (oz_ct v2 n (oz_fr v1 n))), oz_oM h tx n wi i k la, oz_oI cI tx 256 fT, oz_oI cI wi 2048 fW, oz_oI cI la r fR] H := hP
  have hD : va_D A [oz_oI cI z (oz_ct v2 n (oz_fr v1 n)) (oz_sl fT (oz_fr v1 n) (oz_ct v2 n (oz_fr v1 n))), oz_oM h tx n wi i k la, oz_oI cI tx 256 fT, oz_oI cI wi 2048 fW, oz_oI cI la r fR] := hD
  have hP := hP.sub (ws' := [oz_oM h tx n wi i k la, oz_oI cI tx 256 fT, oz_oI cI wi 2048 fW, oz_oI cI la r fR, oz_oI cI z (oz_ct v2 n (oz_fr v1 n)) (oz_sl fT (oz_fr v1 n) (oz_ct v2 n (oz_fr v1 n)))]) [1, 2, 3, 4, 0] rfl
  have hD := hD.sub (ws' := [oz_oM h tx n wi i k la, oz_oI cI tx 256 fT, oz_oI cI wi 2048 fW, oz_oI cI la r fR, oz_oI cI z (oz_ct v2 n (oz_fr v1 n)) (oz_sl fT (oz_fr v1 n) (oz_ct v2 n (oz_fr v1 n)))]) [1, 2, 3, 4, 0] (by decide) rfl
  have g8 := oz_by_lt ((oz_sl fT (oz_fr v1 n) (oz_ct v2 n (oz_fr v1 n))) 0)
  by_cases hc1 : i < 1600
  · refine oz_ktop (y := nI 0) (if_neg (by omega)) ?_
    refine oz_kj_ne0 hx hb (by decide) (tgt := 19) dX2_numberIn_11 (by decide) (fun h1 => ?_) (fun h1 => ?_)
    · omega
    · refine lv_aload_n hx hb dX2_numberIn_14 rfl (lv_at hl 0 rfl) ?_
      refine va_alen (v := nI (oz_ct v2 n (oz_fr v1 n))) hx hb hK hP 4 1 rfl rfl rfl dX2_numberIn_15 ?_
      refine oz_kj_ne0 hx hb (by omega) (tgt := 21) dX2_numberIn_16 (by decide) (fun h2 => ?_) (fun h2 => ?_)
      · refine lv_aload_n hx hb dX2_numberIn_21 rfl (lv_at hl 0 rfl) ?_
        refine lv_iconst (v := nI 0) hx hb dX2_numberIn_22 (by decide) ?_
        refine oz_ki_ld hx hb hK hP 4 rfl (h2) (by omega) dX2_numberIn_23 ?_
        refine lv_bipush (v := nI 127) hx hb dX2_numberIn_24 (by decide) ?_
        refine oz_kj_le hx hb (by omega) (by decide) (tgt := 33) dX2_numberIn_26 (by decide) (fun h3 => ?_) (fun h3 => ?_)
        · refine lv_iconst (v := nI 0) hx hb dX2_numberIn_33 (by decide) ?_
          refine lv_istore (lv' := [(4, .int (nI 0)), (3, .ref z), (0, .ref h), (1, .int (nI v1)), (2, .int (nI v2))]) hx hb dX2_numberIn_34 hl (by decide) rfl (fun ls hl => ?_)
          refine lv_aload_n hx hb dX2_numberIn_36 rfl (lv_at hl 2 rfl) ?_
          refine lv_aload_n hx hb dX2_numberIn_37 rfl (lv_at hl 1 rfl) ?_
          refine va_alen (v := nI (oz_ct v2 n (oz_fr v1 n))) hx hb hK hP 4 1 rfl rfl rfl dX2_numberIn_38 ?_
          refine lv_iload hx hb dX2_numberIn_39 (lv_at hl 0 rfl) ?_
          refine oz_kj_eq0 hx hb (by decide) (tgt := 48) dX2_numberIn_41 (by decide) (fun h4 => ?_) (fun h4 => ?_)
          · refine lv_iconst (v := nI 0) hx hb dX2_numberIn_48 (by decide) ?_
            refine oz_kadd hx hb dX2_numberIn_49 ?_
            refine lv_i2l (v := lN (oz_ct v2 n (oz_fr v1 n) + 0)) hx hb dX2_numberIn_50 (oz_i2l_s (by omega)) ?_
            refine lv_iconst (v := nI 4) hx hb dX2_numberIn_51 (by decide) ?_
            refine oz_kc_v (nA := 2) (As := [.long (lN (oz_ct v2 n (oz_fr v1 n) + 0)), .int (nI 4)]) (rest := []) (wr := [oz_oI cI z (oz_ct v2 n (oz_fr v1 n)) (oz_sl fT (oz_fr v1 n) (oz_ct v2 n (oz_fr v1 n)))]) (w3 := fun (u : Unit) => [oz_oI cI z (oz_ct v2 n (oz_fr v1 n)) (oz_sl fT (oz_fr v1 n) (oz_ct v2 n (oz_fr v1 n))), oz_oM h tx n wi (i + 4) k la, oz_oI cI tx 256 fT, oz_oI cI wi 2048 (oz_pb fW i 4 (oz_ct v2 n (oz_fr v1 n) + 0)), oz_oI cI la r fR]) (C := RX2) hx hb hml hown hts hK hP hD hS hA (mt_X2_lay l G cB cI H.size h tx wi la n r i k fT fW fR (oz_ct v2 n (oz_fr v1 n) + 0) 4 hn hr0 (by omega) (by omega) (by omega) (by decide) (by omega)) (lw_V q280 q282 qs6 q14 q283) rfl rfl (by decide +kernel) rfl ⟨Nat.le_of_ble_eq_true rfl, Nat.le_of_ble_eq_true rfl⟩ [0, 1, 2, 3] [4] rfl rfl rfl rfl (by decide) 0 rfl rfl rfl hl.1 (Nat.le_of_ble_eq_true rfl) dX2_numberIn_52 ⟨Nat.le_of_ble_eq_true rfl, Nat.le_of_ble_eq_true rfl⟩ (fun _ => rfl) (fun _ H locs hP hD hS => ?_)
            have hP : va_P G vwCl [oz_oI cI z (oz_ct v2 n (oz_fr v1 n)) (oz_sl fT (oz_fr v1 n) (oz_ct v2 n (oz_fr v1 n))), oz_oM h tx n wi (i + 4) k la, oz_oI cI tx 256 fT, oz_oI cI wi 2048 (oz_pb fW i 4 (oz_ct v2 n (oz_fr v1 n) + 0)), oz_oI cI la r fR] H := hP
            have hD : va_D A [oz_oI cI z (oz_ct v2 n (oz_fr v1 n)) (oz_sl fT (oz_fr v1 n) (oz_ct v2 n (oz_fr v1 n))), oz_oM h tx n wi (i + 4) k la, oz_oI cI tx 256 fT, oz_oI cI wi 2048 (oz_pb fW i 4 (oz_ct v2 n (oz_fr v1 n) + 0)), oz_oI cI la r fR] := hD
            have hP := hP.sub (ws' := [oz_oM h tx n wi (i + 4) k la, oz_oI cI tx 256 fT, oz_oI cI wi 2048 (oz_pb fW i 4 (oz_ct v2 n (oz_fr v1 n) + 0)), oz_oI cI la r fR, oz_oI cI z (oz_ct v2 n (oz_fr v1 n)) (oz_sl fT (oz_fr v1 n) (oz_ct v2 n (oz_fr v1 n)))]) [1, 2, 3, 4, 0] rfl
            have hD := hD.sub (ws' := [oz_oM h tx n wi (i + 4) k la, oz_oI cI tx 256 fT, oz_oI cI wi 2048 (oz_pb fW i 4 (oz_ct v2 n (oz_fr v1 n) + 0)), oz_oI cI la r fR, oz_oI cI z (oz_ct v2 n (oz_fr v1 n)) (oz_sl fT (oz_fr v1 n) (oz_ct v2 n (oz_fr v1 n)))]) [1, 2, 3, 4, 0] (by decide) rfl
            refine lv_iload hx hb dX2_numberIn_55 (lv_at hl 0 rfl) ?_
            refine oz_kj_eq0 hx hb (by decide) (tgt := 66) dX2_numberIn_57 (by decide) (fun h5 => ?_) (fun h5 => ?_)
            · have hP : va_P G vwCl [oz_oM h tx n wi (i + 4) k la, oz_oI cI tx 256 fT, oz_oI cI wi 2048 (oz_pb fW i 4 (oz_ct v2 n (oz_fr v1 n))), oz_oI cI la r fR, oz_oI cI z (oz_ct v2 n (oz_fr v1 n)) (oz_sl fT (oz_fr v1 n) (oz_ct v2 n (oz_fr v1 n)))] H := hP
              have hD : va_D A [oz_oM h tx n wi (i + 4) k la, oz_oI cI tx 256 fT, oz_oI cI wi 2048 (oz_pb fW i 4 (oz_ct v2 n (oz_fr v1 n))), oz_oI cI la r fR, oz_oI cI z (oz_ct v2 n (oz_fr v1 n)) (oz_sl fT (oz_fr v1 n) (oz_ct v2 n (oz_fr v1 n)))] := hD
              refine lv_aload_n hx hb dX2_numberIn_66 rfl (lv_at hl 2 rfl) ?_
              refine lv_aload_n hx hb dX2_numberIn_67 rfl (lv_at hl 1 rfl) ?_
              refine oz_kc_v (nA := 1) (As := [.ref z]) (rest := []) (wr := []) (w3 := fun (u : Unit) => [oz_oM h tx n wi ((i + 4) + (oz_ct v2 n (oz_fr v1 n))) k la, oz_oI cI tx 256 fT, oz_oI cI wi 2048 (va_cpy (oz_sl fT (oz_fr v1 n) (oz_ct v2 n (oz_fr v1 n))) (oz_pb fW i 4 (oz_ct v2 n (oz_fr v1 n))) 0 (i + 4) (oz_ct v2 n (oz_fr v1 n))), oz_oI cI la r fR, oz_oI cI z ((oz_ct v2 n (oz_fr v1 n))) ((oz_sl fT (oz_fr v1 n) (oz_ct v2 n (oz_fr v1 n))))]) (C := RX2) hx hb hml hown hts hK hP hD hS hA (mt_X2_layAll l G cB cI H.size h tx wi la n r (i + 4) k fT (oz_pb fW i 4 (oz_ct v2 n (oz_fr v1 n))) fR z (oz_ct v2 n (oz_fr v1 n)) (oz_sl fT (oz_fr v1 n) (oz_ct v2 n (oz_fr v1 n))) hn hr0 (by omega) (by omega) (by omega) (by omega)) (lw_V q301 q303 qs8 q14 q304) rfl rfl (by decide +kernel) rfl ⟨Nat.le_of_ble_eq_true rfl, Nat.le_of_ble_eq_true rfl⟩ [0, 1, 2, 3, 4] [] rfl rfl rfl rfl (by decide) 0 rfl rfl rfl hl.1 (Nat.le_of_ble_eq_true rfl) dX2_numberIn_68 ⟨Nat.le_of_ble_eq_true rfl, Nat.le_of_ble_eq_true rfl⟩ (fun _ => rfl) (fun _ H locs hP hD hS => ?_)
              have hP : va_P G vwCl [oz_oM h tx n wi ((i + 4) + (oz_ct v2 n (oz_fr v1 n))) k la, oz_oI cI tx 256 fT, oz_oI cI wi 2048 (va_cpy (oz_sl fT (oz_fr v1 n) (oz_ct v2 n (oz_fr v1 n))) (oz_pb fW i 4 (oz_ct v2 n (oz_fr v1 n))) 0 (i + 4) (oz_ct v2 n (oz_fr v1 n))), oz_oI cI la r fR, oz_oI cI z ((oz_ct v2 n (oz_fr v1 n))) ((oz_sl fT (oz_fr v1 n) (oz_ct v2 n (oz_fr v1 n))))] H := hP
              have hD : va_D A [oz_oM h tx n wi ((i + 4) + (oz_ct v2 n (oz_fr v1 n))) k la, oz_oI cI tx 256 fT, oz_oI cI wi 2048 (va_cpy (oz_sl fT (oz_fr v1 n) (oz_ct v2 n (oz_fr v1 n))) (oz_pb fW i 4 (oz_ct v2 n (oz_fr v1 n))) 0 (i + 4) (oz_ct v2 n (oz_fr v1 n))), oz_oI cI la r fR, oz_oI cI z ((oz_ct v2 n (oz_fr v1 n))) ((oz_sl fT (oz_fr v1 n) (oz_ct v2 n (oz_fr v1 n))))] := hD
              refine lv_iconst (v := nI 1) hx hb dX2_numberIn_71 (by decide) ?_
              have hc : i < 1600 ∧ 0 < oz_ct v2 n (oz_fr v1 n) := by omega
              have hb8 : ¬ (128 ≤ ((oz_sl fT (oz_fr v1 n) (oz_ct v2 n (oz_fr v1 n))) 0).toNat) := by omega
              have hP := hP.sub (ws' := [oz_oM h tx n wi ((i + 4) + (oz_ct v2 n (oz_fr v1 n))) k la, oz_oI cI tx 256 fT, oz_oI cI wi 2048 (va_cpy (oz_sl fT (oz_fr v1 n) (oz_ct v2 n (oz_fr v1 n))) (oz_pb fW i 4 (oz_ct v2 n (oz_fr v1 n))) 0 (i + 4) (oz_ct v2 n (oz_fr v1 n))), oz_oI cI la r fR]) [0, 1, 2, 3] rfl
              have hD := hD.sub (ws' := [oz_oM h tx n wi ((i + 4) + (oz_ct v2 n (oz_fr v1 n))) k la, oz_oI cI tx 256 fT, oz_oI cI wi 2048 (va_cpy (oz_sl fT (oz_fr v1 n) (oz_ct v2 n (oz_fr v1 n))) (oz_pb fW i 4 (oz_ct v2 n (oz_fr v1 n))) 0 (i + 4) (oz_ct v2 n (oz_fr v1 n))), oz_oI cI la r fR]) [0, 1, 2, 3] (by decide) rfl
              have ew : ([oz_oM h tx n wi ((i + 4) + (oz_ct v2 n (oz_fr v1 n))) k la, oz_oI cI tx 256 fT, oz_oI cI wi 2048 (va_cpy (oz_sl fT (oz_fr v1 n) (oz_ct v2 n (oz_fr v1 n))) (oz_pb fW i 4 (oz_ct v2 n (oz_fr v1 n))) 0 (i + 4) (oz_ct v2 n (oz_fr v1 n))), oz_oI cI la r fR] : va_W) = [oz_oM h tx n wi (if i < 1600 ∧ 0 < oz_ct v2 n (oz_fr v1 n) then (if 128 ≤ ((oz_sl fT (oz_fr v1 n) (oz_ct v2 n (oz_fr v1 n))) 0).toNat then i + 5 + oz_ct v2 n (oz_fr v1 n) else i + 4 + oz_ct v2 n (oz_fr v1 n)) else i) k la, oz_oI cI tx 256 fT, oz_oI cI wi 2048 (if i < 1600 ∧ 0 < oz_ct v2 n (oz_fr v1 n) then (if 128 ≤ ((oz_sl fT (oz_fr v1 n) (oz_ct v2 n (oz_fr v1 n))) 0).toNat then va_cpy (oz_sl fT (oz_fr v1 n) (oz_ct v2 n (oz_fr v1 n))) (oz_un (oz_pb fW i 4 (oz_ct v2 n (oz_fr v1 n) + 1)) (i + 4) 0#8) 0 (i + 5) (oz_ct v2 n (oz_fr v1 n)) else va_cpy (oz_sl fT (oz_fr v1 n) (oz_ct v2 n (oz_fr v1 n))) (oz_pb fW i 4 (oz_ct v2 n (oz_fr v1 n))) 0 (i + 4) (oz_ct v2 n (oz_fr v1 n))) else fW), oz_oI cI la r fR] := by simp only [if_pos hc, if_neg hb8]
              rw [ew] at hP hD
              exact W.zret (v := nI 1) hx hb hr rfl (fun t9 ht hW => ⟨⟨_, (), rfl, (if_pos hc).symm, by rw [ht]; exact hP, va_K.moved hW.alike hK, hD⟩, hS.F ht⟩) hS.2.2 dX2_numberIn_72
            · omega
          · omega
        · refine lv_iconst (v := nI 1) hx hb dX2_numberIn_29 (by decide) ?_
          refine lv_goto (tgt := 34) hx hb dX2_numberIn_30 (by decide) ?_
          refine lv_istore (lv' := [(4, .int (nI 1)), (3, .ref z), (0, .ref h), (1, .int (nI v1)), (2, .int (nI v2))]) hx hb dX2_numberIn_34 hl (by decide) rfl (fun ls hl => ?_)
          refine lv_aload_n hx hb dX2_numberIn_36 rfl (lv_at hl 2 rfl) ?_
          refine lv_aload_n hx hb dX2_numberIn_37 rfl (lv_at hl 1 rfl) ?_
          refine va_alen (v := nI (oz_ct v2 n (oz_fr v1 n))) hx hb hK hP 4 1 rfl rfl rfl dX2_numberIn_38 ?_
          refine lv_iload hx hb dX2_numberIn_39 (lv_at hl 0 rfl) ?_
          refine oz_kj_eq0 hx hb (by decide) (tgt := 48) dX2_numberIn_41 (by decide) (fun h4 => ?_) (fun h4 => ?_)
          · omega
          · refine lv_iconst (v := nI 1) hx hb dX2_numberIn_44 (by decide) ?_
            refine lv_goto (tgt := 49) hx hb dX2_numberIn_45 (by decide) ?_
            refine oz_kadd hx hb dX2_numberIn_49 ?_
            refine lv_i2l (v := lN (oz_ct v2 n (oz_fr v1 n) + 1)) hx hb dX2_numberIn_50 (oz_i2l_s (by omega)) ?_
            refine lv_iconst (v := nI 4) hx hb dX2_numberIn_51 (by decide) ?_
            refine oz_kc_v (nA := 2) (As := [.long (lN (oz_ct v2 n (oz_fr v1 n) + 1)), .int (nI 4)]) (rest := []) (wr := [oz_oI cI z (oz_ct v2 n (oz_fr v1 n)) (oz_sl fT (oz_fr v1 n) (oz_ct v2 n (oz_fr v1 n)))]) (w3 := fun (u : Unit) => [oz_oI cI z (oz_ct v2 n (oz_fr v1 n)) (oz_sl fT (oz_fr v1 n) (oz_ct v2 n (oz_fr v1 n))), oz_oM h tx n wi (i + 4) k la, oz_oI cI tx 256 fT, oz_oI cI wi 2048 (oz_pb fW i 4 (oz_ct v2 n (oz_fr v1 n) + 1)), oz_oI cI la r fR]) (C := RX2) hx hb hml hown hts hK hP hD hS hA (mt_X2_lay l G cB cI H.size h tx wi la n r i k fT fW fR (oz_ct v2 n (oz_fr v1 n) + 1) 4 hn hr0 (by omega) (by omega) (by omega) (by decide) (by omega)) (lw_V q280 q282 qs6 q14 q283) rfl rfl (by decide +kernel) rfl ⟨Nat.le_of_ble_eq_true rfl, Nat.le_of_ble_eq_true rfl⟩ [0, 1, 2, 3] [4] rfl rfl rfl rfl (by decide) 0 rfl rfl rfl hl.1 (Nat.le_of_ble_eq_true rfl) dX2_numberIn_52 ⟨Nat.le_of_ble_eq_true rfl, Nat.le_of_ble_eq_true rfl⟩ (fun _ => rfl) (fun _ H locs hP hD hS => ?_)
            have hP : va_P G vwCl [oz_oI cI z (oz_ct v2 n (oz_fr v1 n)) (oz_sl fT (oz_fr v1 n) (oz_ct v2 n (oz_fr v1 n))), oz_oM h tx n wi (i + 4) k la, oz_oI cI tx 256 fT, oz_oI cI wi 2048 (oz_pb fW i 4 (oz_ct v2 n (oz_fr v1 n) + 1)), oz_oI cI la r fR] H := hP
            have hD : va_D A [oz_oI cI z (oz_ct v2 n (oz_fr v1 n)) (oz_sl fT (oz_fr v1 n) (oz_ct v2 n (oz_fr v1 n))), oz_oM h tx n wi (i + 4) k la, oz_oI cI tx 256 fT, oz_oI cI wi 2048 (oz_pb fW i 4 (oz_ct v2 n (oz_fr v1 n) + 1)), oz_oI cI la r fR] := hD
            have hP := hP.sub (ws' := [oz_oM h tx n wi (i + 4) k la, oz_oI cI tx 256 fT, oz_oI cI wi 2048 (oz_pb fW i 4 (oz_ct v2 n (oz_fr v1 n) + 1)), oz_oI cI la r fR, oz_oI cI z (oz_ct v2 n (oz_fr v1 n)) (oz_sl fT (oz_fr v1 n) (oz_ct v2 n (oz_fr v1 n)))]) [1, 2, 3, 4, 0] rfl
            have hD := hD.sub (ws' := [oz_oM h tx n wi (i + 4) k la, oz_oI cI tx 256 fT, oz_oI cI wi 2048 (oz_pb fW i 4 (oz_ct v2 n (oz_fr v1 n) + 1)), oz_oI cI la r fR, oz_oI cI z (oz_ct v2 n (oz_fr v1 n)) (oz_sl fT (oz_fr v1 n) (oz_ct v2 n (oz_fr v1 n)))]) [1, 2, 3, 4, 0] (by decide) rfl
            refine lv_iload hx hb dX2_numberIn_55 (lv_at hl 0 rfl) ?_
            refine oz_kj_eq0 hx hb (by decide) (tgt := 66) dX2_numberIn_57 (by decide) (fun h5 => ?_) (fun h5 => ?_)
            · omega
            · refine lv_aload_n hx hb dX2_numberIn_60 rfl (lv_at hl 2 rfl) ?_
              refine lv_lconst (v := lN 0) hx hb dX2_numberIn_61 (by decide) ?_
              refine lv_iconst (v := nI 1) hx hb dX2_numberIn_62 (by decide) ?_
              refine oz_kc_v (nA := 2) (As := [.long (lN 0), .int (nI 1)]) (rest := []) (wr := [oz_oI cI z (oz_ct v2 n (oz_fr v1 n)) (oz_sl fT (oz_fr v1 n) (oz_ct v2 n (oz_fr v1 n)))]) (w3 := fun (u : Unit) => [oz_oI cI z (oz_ct v2 n (oz_fr v1 n)) (oz_sl fT (oz_fr v1 n) (oz_ct v2 n (oz_fr v1 n))), oz_oM h tx n wi ((i + 4) + 1) k la, oz_oI cI tx 256 fT, oz_oI cI wi 2048 (oz_pb (oz_pb fW i 4 (oz_ct v2 n (oz_fr v1 n) + 1)) (i + 4) 1 0), oz_oI cI la r fR]) (C := RX2) hx hb hml hown hts hK hP hD hS hA (mt_X2_lay l G cB cI H.size h tx wi la n r (i + 4) k fT (oz_pb fW i 4 (oz_ct v2 n (oz_fr v1 n) + 1)) fR 0 1 hn hr0 (by omega) (by omega) (by decide) (by decide) (by omega)) (lw_V q280 q282 qs6 q14 q283) rfl rfl (by decide +kernel) rfl ⟨Nat.le_of_ble_eq_true rfl, Nat.le_of_ble_eq_true rfl⟩ [0, 1, 2, 3] [4] rfl rfl rfl rfl (by decide) 0 rfl rfl rfl hl.1 (Nat.le_of_ble_eq_true rfl) dX2_numberIn_63 ⟨Nat.le_of_ble_eq_true rfl, Nat.le_of_ble_eq_true rfl⟩ (fun _ => rfl) (fun _ H locs hP hD hS => ?_)
              have hP : va_P G vwCl [oz_oI cI z (oz_ct v2 n (oz_fr v1 n)) (oz_sl fT (oz_fr v1 n) (oz_ct v2 n (oz_fr v1 n))), oz_oM h tx n wi ((i + 4) + 1) k la, oz_oI cI tx 256 fT, oz_oI cI wi 2048 (oz_pb (oz_pb fW i 4 (oz_ct v2 n (oz_fr v1 n) + 1)) (i + 4) 1 0), oz_oI cI la r fR] H := hP
              have hD : va_D A [oz_oI cI z (oz_ct v2 n (oz_fr v1 n)) (oz_sl fT (oz_fr v1 n) (oz_ct v2 n (oz_fr v1 n))), oz_oM h tx n wi ((i + 4) + 1) k la, oz_oI cI tx 256 fT, oz_oI cI wi 2048 (oz_pb (oz_pb fW i 4 (oz_ct v2 n (oz_fr v1 n) + 1)) (i + 4) 1 0), oz_oI cI la r fR] := hD
              have hP := hP.sub (ws' := [oz_oM h tx n wi ((i + 4) + 1) k la, oz_oI cI tx 256 fT, oz_oI cI wi 2048 (oz_pb (oz_pb fW i 4 (oz_ct v2 n (oz_fr v1 n) + 1)) (i + 4) 1 0), oz_oI cI la r fR, oz_oI cI z (oz_ct v2 n (oz_fr v1 n)) (oz_sl fT (oz_fr v1 n) (oz_ct v2 n (oz_fr v1 n)))]) [1, 2, 3, 4, 0] rfl
              have hD := hD.sub (ws' := [oz_oM h tx n wi ((i + 4) + 1) k la, oz_oI cI tx 256 fT, oz_oI cI wi 2048 (oz_pb (oz_pb fW i 4 (oz_ct v2 n (oz_fr v1 n) + 1)) (i + 4) 1 0), oz_oI cI la r fR, oz_oI cI z (oz_ct v2 n (oz_fr v1 n)) (oz_sl fT (oz_fr v1 n) (oz_ct v2 n (oz_fr v1 n)))]) [1, 2, 3, 4, 0] (by decide) rfl
              rw [oz_pb_1] at hP hD
              have hP : va_P G vwCl [oz_oM h tx n wi (i + 5) k la, oz_oI cI tx 256 fT, oz_oI cI wi 2048 (oz_un (oz_pb fW i 4 (oz_ct v2 n (oz_fr v1 n) + 1)) (i + 4) 0#8), oz_oI cI la r fR, oz_oI cI z (oz_ct v2 n (oz_fr v1 n)) (oz_sl fT (oz_fr v1 n) (oz_ct v2 n (oz_fr v1 n)))] H := hP
              have hD : va_D A [oz_oM h tx n wi (i + 5) k la, oz_oI cI tx 256 fT, oz_oI cI wi 2048 (oz_un (oz_pb fW i 4 (oz_ct v2 n (oz_fr v1 n) + 1)) (i + 4) 0#8), oz_oI cI la r fR, oz_oI cI z (oz_ct v2 n (oz_fr v1 n)) (oz_sl fT (oz_fr v1 n) (oz_ct v2 n (oz_fr v1 n)))] := hD
              refine lv_aload_n hx hb dX2_numberIn_66 rfl (lv_at hl 2 rfl) ?_
              refine lv_aload_n hx hb dX2_numberIn_67 rfl (lv_at hl 1 rfl) ?_
              refine oz_kc_v (nA := 1) (As := [.ref z]) (rest := []) (wr := []) (w3 := fun (u : Unit) => [oz_oM h tx n wi ((i + 5) + (oz_ct v2 n (oz_fr v1 n))) k la, oz_oI cI tx 256 fT, oz_oI cI wi 2048 (va_cpy (oz_sl fT (oz_fr v1 n) (oz_ct v2 n (oz_fr v1 n))) (oz_un (oz_pb fW i 4 (oz_ct v2 n (oz_fr v1 n) + 1)) (i + 4) 0#8) 0 (i + 5) (oz_ct v2 n (oz_fr v1 n))), oz_oI cI la r fR, oz_oI cI z ((oz_ct v2 n (oz_fr v1 n))) ((oz_sl fT (oz_fr v1 n) (oz_ct v2 n (oz_fr v1 n))))]) (C := RX2) hx hb hml hown hts hK hP hD hS hA (mt_X2_layAll l G cB cI H.size h tx wi la n r (i + 5) k fT (oz_un (oz_pb fW i 4 (oz_ct v2 n (oz_fr v1 n) + 1)) (i + 4) 0#8) fR z (oz_ct v2 n (oz_fr v1 n)) (oz_sl fT (oz_fr v1 n) (oz_ct v2 n (oz_fr v1 n))) hn hr0 (by omega) (by omega) (by omega) (by omega)) (lw_V q301 q303 qs8 q14 q304) rfl rfl (by decide +kernel) rfl ⟨Nat.le_of_ble_eq_true rfl, Nat.le_of_ble_eq_true rfl⟩ [0, 1, 2, 3, 4] [] rfl rfl rfl rfl (by decide) 0 rfl rfl rfl hl.1 (Nat.le_of_ble_eq_true rfl) dX2_numberIn_68 ⟨Nat.le_of_ble_eq_true rfl, Nat.le_of_ble_eq_true rfl⟩ (fun _ => rfl) (fun _ H locs hP hD hS => ?_)
              have hP : va_P G vwCl [oz_oM h tx n wi ((i + 5) + (oz_ct v2 n (oz_fr v1 n))) k la, oz_oI cI tx 256 fT, oz_oI cI wi 2048 (va_cpy (oz_sl fT (oz_fr v1 n) (oz_ct v2 n (oz_fr v1 n))) (oz_un (oz_pb fW i 4 (oz_ct v2 n (oz_fr v1 n) + 1)) (i + 4) 0#8) 0 (i + 5) (oz_ct v2 n (oz_fr v1 n))), oz_oI cI la r fR, oz_oI cI z ((oz_ct v2 n (oz_fr v1 n))) ((oz_sl fT (oz_fr v1 n) (oz_ct v2 n (oz_fr v1 n))))] H := hP
              have hD : va_D A [oz_oM h tx n wi ((i + 5) + (oz_ct v2 n (oz_fr v1 n))) k la, oz_oI cI tx 256 fT, oz_oI cI wi 2048 (va_cpy (oz_sl fT (oz_fr v1 n) (oz_ct v2 n (oz_fr v1 n))) (oz_un (oz_pb fW i 4 (oz_ct v2 n (oz_fr v1 n) + 1)) (i + 4) 0#8) 0 (i + 5) (oz_ct v2 n (oz_fr v1 n))), oz_oI cI la r fR, oz_oI cI z ((oz_ct v2 n (oz_fr v1 n))) ((oz_sl fT (oz_fr v1 n) (oz_ct v2 n (oz_fr v1 n))))] := hD
              refine lv_iconst (v := nI 1) hx hb dX2_numberIn_71 (by decide) ?_
              have hc : i < 1600 ∧ 0 < oz_ct v2 n (oz_fr v1 n) := by omega
              have hb8 : 128 ≤ ((oz_sl fT (oz_fr v1 n) (oz_ct v2 n (oz_fr v1 n))) 0).toNat := by omega
              have hP := hP.sub (ws' := [oz_oM h tx n wi ((i + 5) + (oz_ct v2 n (oz_fr v1 n))) k la, oz_oI cI tx 256 fT, oz_oI cI wi 2048 (va_cpy (oz_sl fT (oz_fr v1 n) (oz_ct v2 n (oz_fr v1 n))) (oz_un (oz_pb fW i 4 (oz_ct v2 n (oz_fr v1 n) + 1)) (i + 4) 0#8) 0 (i + 5) (oz_ct v2 n (oz_fr v1 n))), oz_oI cI la r fR]) [0, 1, 2, 3] rfl
              have hD := hD.sub (ws' := [oz_oM h tx n wi ((i + 5) + (oz_ct v2 n (oz_fr v1 n))) k la, oz_oI cI tx 256 fT, oz_oI cI wi 2048 (va_cpy (oz_sl fT (oz_fr v1 n) (oz_ct v2 n (oz_fr v1 n))) (oz_un (oz_pb fW i 4 (oz_ct v2 n (oz_fr v1 n) + 1)) (i + 4) 0#8) 0 (i + 5) (oz_ct v2 n (oz_fr v1 n))), oz_oI cI la r fR]) [0, 1, 2, 3] (by decide) rfl
              have ew : ([oz_oM h tx n wi ((i + 5) + (oz_ct v2 n (oz_fr v1 n))) k la, oz_oI cI tx 256 fT, oz_oI cI wi 2048 (va_cpy (oz_sl fT (oz_fr v1 n) (oz_ct v2 n (oz_fr v1 n))) (oz_un (oz_pb fW i 4 (oz_ct v2 n (oz_fr v1 n) + 1)) (i + 4) 0#8) 0 (i + 5) (oz_ct v2 n (oz_fr v1 n))), oz_oI cI la r fR] : va_W) = [oz_oM h tx n wi (if i < 1600 ∧ 0 < oz_ct v2 n (oz_fr v1 n) then (if 128 ≤ ((oz_sl fT (oz_fr v1 n) (oz_ct v2 n (oz_fr v1 n))) 0).toNat then i + 5 + oz_ct v2 n (oz_fr v1 n) else i + 4 + oz_ct v2 n (oz_fr v1 n)) else i) k la, oz_oI cI tx 256 fT, oz_oI cI wi 2048 (if i < 1600 ∧ 0 < oz_ct v2 n (oz_fr v1 n) then (if 128 ≤ ((oz_sl fT (oz_fr v1 n) (oz_ct v2 n (oz_fr v1 n))) 0).toNat then va_cpy (oz_sl fT (oz_fr v1 n) (oz_ct v2 n (oz_fr v1 n))) (oz_un (oz_pb fW i 4 (oz_ct v2 n (oz_fr v1 n) + 1)) (i + 4) 0#8) 0 (i + 5) (oz_ct v2 n (oz_fr v1 n)) else va_cpy (oz_sl fT (oz_fr v1 n) (oz_ct v2 n (oz_fr v1 n))) (oz_pb fW i 4 (oz_ct v2 n (oz_fr v1 n))) 0 (i + 4) (oz_ct v2 n (oz_fr v1 n))) else fW), oz_oI cI la r fR] := by simp only [if_pos hc, if_pos hb8]
              rw [ew] at hP hD
              exact W.zret (v := nI 1) hx hb hr rfl (fun t9 ht hW => ⟨⟨_, (), rfl, (if_pos hc).symm, by rw [ht]; exact hP, va_K.moved hW.alike hK, hD⟩, hS.F ht⟩) hS.2.2 dX2_numberIn_72
      · refine lv_iconst (v := nI 0) hx hb dX2_numberIn_19 (by decide) ?_
        have hc : ¬ (i < 1600 ∧ 0 < oz_ct v2 n (oz_fr v1 n)) := by omega
        have hP := hP.sub (ws' := [oz_oM h tx n wi i k la, oz_oI cI tx 256 fT, oz_oI cI wi 2048 fW, oz_oI cI la r fR]) [0, 1, 2, 3] rfl
        have hD := hD.sub (ws' := [oz_oM h tx n wi i k la, oz_oI cI tx 256 fT, oz_oI cI wi 2048 fW, oz_oI cI la r fR]) [0, 1, 2, 3] (by decide) rfl
        have ew : ([oz_oM h tx n wi i k la, oz_oI cI tx 256 fT, oz_oI cI wi 2048 fW, oz_oI cI la r fR] : va_W) = [oz_oM h tx n wi (if i < 1600 ∧ 0 < oz_ct v2 n (oz_fr v1 n) then (if 128 ≤ ((oz_sl fT (oz_fr v1 n) (oz_ct v2 n (oz_fr v1 n))) 0).toNat then i + 5 + oz_ct v2 n (oz_fr v1 n) else i + 4 + oz_ct v2 n (oz_fr v1 n)) else i) k la, oz_oI cI tx 256 fT, oz_oI cI wi 2048 (if i < 1600 ∧ 0 < oz_ct v2 n (oz_fr v1 n) then (if 128 ≤ ((oz_sl fT (oz_fr v1 n) (oz_ct v2 n (oz_fr v1 n))) 0).toNat then va_cpy (oz_sl fT (oz_fr v1 n) (oz_ct v2 n (oz_fr v1 n))) (oz_un (oz_pb fW i 4 (oz_ct v2 n (oz_fr v1 n) + 1)) (i + 4) 0#8) 0 (i + 5) (oz_ct v2 n (oz_fr v1 n)) else va_cpy (oz_sl fT (oz_fr v1 n) (oz_ct v2 n (oz_fr v1 n))) (oz_pb fW i 4 (oz_ct v2 n (oz_fr v1 n))) 0 (i + 4) (oz_ct v2 n (oz_fr v1 n))) else fW), oz_oI cI la r fR] := by simp only [if_neg hc]
        rw [ew] at hP hD
        exact W.zret (v := nI 0) hx hb hr rfl (fun t9 ht hW => ⟨⟨_, (), rfl, (if_neg hc).symm, by rw [ht]; exact hP, va_K.moved hW.alike hK, hD⟩, hS.F ht⟩) hS.2.2 dX2_numberIn_20
  · refine oz_ktop (y := nI 1) (if_pos (by omega)) ?_
    refine oz_kj_ne0 hx hb (by decide) (tgt := 19) dX2_numberIn_11 (by decide) (fun h1 => ?_) (fun h1 => ?_)
    · refine lv_iconst (v := nI 0) hx hb dX2_numberIn_19 (by decide) ?_
      have hc : ¬ (i < 1600 ∧ 0 < oz_ct v2 n (oz_fr v1 n)) := by omega
      have hP := hP.sub (ws' := [oz_oM h tx n wi i k la, oz_oI cI tx 256 fT, oz_oI cI wi 2048 fW, oz_oI cI la r fR]) [0, 1, 2, 3] rfl
      have hD := hD.sub (ws' := [oz_oM h tx n wi i k la, oz_oI cI tx 256 fT, oz_oI cI wi 2048 fW, oz_oI cI la r fR]) [0, 1, 2, 3] (by decide) rfl
      have ew : ([oz_oM h tx n wi i k la, oz_oI cI tx 256 fT, oz_oI cI wi 2048 fW, oz_oI cI la r fR] : va_W) = [oz_oM h tx n wi (if i < 1600 ∧ 0 < oz_ct v2 n (oz_fr v1 n) then (if 128 ≤ ((oz_sl fT (oz_fr v1 n) (oz_ct v2 n (oz_fr v1 n))) 0).toNat then i + 5 + oz_ct v2 n (oz_fr v1 n) else i + 4 + oz_ct v2 n (oz_fr v1 n)) else i) k la, oz_oI cI tx 256 fT, oz_oI cI wi 2048 (if i < 1600 ∧ 0 < oz_ct v2 n (oz_fr v1 n) then (if 128 ≤ ((oz_sl fT (oz_fr v1 n) (oz_ct v2 n (oz_fr v1 n))) 0).toNat then va_cpy (oz_sl fT (oz_fr v1 n) (oz_ct v2 n (oz_fr v1 n))) (oz_un (oz_pb fW i 4 (oz_ct v2 n (oz_fr v1 n) + 1)) (i + 4) 0#8) 0 (i + 5) (oz_ct v2 n (oz_fr v1 n)) else va_cpy (oz_sl fT (oz_fr v1 n) (oz_ct v2 n (oz_fr v1 n))) (oz_pb fW i 4 (oz_ct v2 n (oz_fr v1 n))) 0 (i + 4) (oz_ct v2 n (oz_fr v1 n))) else fW), oz_oI cI la r fR] := by simp only [if_neg hc]
      rw [ew] at hP hD
      exact W.zret (v := nI 0) hx hb hr rfl (fun t9 ht hW => ⟨⟨_, (), rfl, (if_neg hc).symm, by rw [ht]; exact hP, va_K.moved hW.alike hK, hD⟩, hS.F ht⟩) hS.2.2 dX2_numberIn_20
    · omega

/-- look: m1 bytes as a number -/
abbrev rm_X2_look : Room := ({ frames := 0, cells := 0, slots := 0, locals := 0 } : Room)
set_option maxHeartbeats 4000000 in
set_option maxRecDepth 100000 in
theorem mt_X2_look (l : Launch) (G : va_G) (cB cI : ClassId) (sz : Nat) (h tx wi la n r i k : Nat) (fT fW fR : Nat → oz_By) (m1 : Nat) (hn : n ≤ 256) (hr0 : r ≤ 2048) (hi : i ≤ 2048) (hk : k ≤ i) (hm : m1 ≤ 8) (hkm : k + m1 ≤ 2048) : Met l yX2_look (ws_ yX2_look cX2_look 5 (some .long)) rm_X2_look (va_Pc [.ref h, .int (nI m1)] (oz_pw G cB cI sz [oz_oM h tx n wi i k la, oz_oI cI tx 256 fT, oz_oI cI wi 2048 fW, oz_oI cI la r fR])) (va_Ql (fun (x9 : Int64) (_ : Unit) => x9 = lN (oz_be fW k m1)) (fun (u : Unit) => oz_qw G cB cI (va_A [oz_oM h tx n wi i k la, oz_oI cI tx 256 fT, oz_oI cI wi 2048 fW, oz_oI cI la r fR] sz) [oz_oM h tx n wi i k la, oz_oI cI tx 256 fT, oz_oI cI wi 2048 fW, oz_oI cI la r fR]) (va_A [oz_oM h tx n wi i k la, oz_oI cI tx 256 fT, oz_oI cI wi 2048 fW, oz_oI cI la r fR] sz)) 0 0 (va_A [oz_oM h tx n wi i k la, oz_oI cI tx 256 fT, oz_oI cI wi 2048 fW, oz_oI cI la r fR] sz) := by
  refine Met.ofW (cc := cX2_look) (maxL := 5) (ret := (some .long)) (by decide) rfl ?_
  intro p e s m args below meth c s₁ B hml hv
  obtain ⟨rfl, hsz, hP, hK, hD0⟩ := hv
  have hx := B.exec
  have hb := B.bytes
  have hr := B.returns
  have hts := atoms_spec (ws := (ws_ yX2_look cX2_look 5 (some .long))) B.pre
  have hts : ∀ w ∈ lw_all, w.before _ s = true := fun w h => hts w (List.mem_cons_of_mem _ h)
  have hown : s.vm.findClass RX2 = some m.cls := findClass_of_methodNamed B.named
  have hlocks := B.notSynchronized
  subst hsz
  have hD := hD0.self (sz := s.heap.size)
  generalize hAe : va_A [oz_oM h tx n wi i k la, oz_oI cI tx 256 fT, oz_oI cI wi 2048 fW, oz_oI cI la r fR] s.heap.size = A at hD ⊢
  have hA : ∀ q9 : Nat, s.heap.size ≤ q9 → A q9 := fun q9 h => by rw [← hAe]; exact Or.inr h
  have hS : va_S A s.heap s.heap [] := va_S.rf
  have hP : va_P G vwCl [oz_oM h tx n wi i k la, oz_oI cI tx 256 fT, oz_oI cI wi 2048 fW, oz_oI cI la r fR] s.heap := hP
  have hl := lv_entry ([.ref h, .int (nI m1)]) (n := 5) (Nat.le_of_ble_eq_true rfl)
  rw [lg_entry_eq]
  generalize (lg_sl ([.ref h, .int (nI m1)]) ++ List.replicate (5 - (lg_sl ([.ref h, .int (nI m1)])).length) Slot.unset).toArray = ls at hl ⊢
  have hl : lv_has ls 5 [(0, .ref h), (1, .int (nI m1))] := hl
  refine lv_lconst (v := lN 0) hx hb dX2_look_0 (by decide) ?_
  refine lv_lstore_n (lv' := [(2, .long (lN 0)), (0, .ref h), (1, .int (nI m1))]) hx hb dX2_look_1 rfl hl (by decide) rfl (fun ls hl => ?_)
  refine lv_iconst (v := nI 0) hx hb dX2_look_2 (by decide) ?_
  refine lv_istore (lv' := [(4, .int (nI 0)), (2, .long (lN 0)), (0, .ref h), (1, .int (nI m1))]) hx hb dX2_look_3 hl (by decide) rfl (fun ls hl => ?_)
  have loop : ∀ (d : Nat) (j : Nat), j + d = m1 → ∀ (H : Heap) (locs : List Loc), va_P G vwCl [oz_oM h tx n wi i k la, oz_oI cI tx 256 fT, oz_oI cI wi 2048 fW, oz_oI cI la r fR] H → va_D A [oz_oM h tx n wi i k la, oz_oI cI tx 256 fT, oz_oI cI wi 2048 fW, oz_oI cI la r fR] → va_S A s.heap H locs → ∀ (ls : Array Slot), lv_has ls 5 [(4, .int (nI j)), (2, .long (lN (oz_be fW k j))), (0, .ref h), (1, .int (nI m1))] → W p l e (headSpec (ws_ yX2_look cX2_look 5 (some .long)) rm_X2_look).room s m ([.ref h, .int (nI m1)] : List Value).toArray below meth c H locs 0 0 (MQ below (va_Ql (fun (x9 : Int64) (_ : Unit) => x9 = lN (oz_be fW k m1)) (fun (u : Unit) => oz_qw G cB cI A [oz_oM h tx n wi i k la, oz_oI cI tx 256 fT, oz_oI cI wi 2048 fW, oz_oI cI la r fR]) A) ([.ref h, .int (nI m1)] : List Value).toArray s 0 0 A) (F0 m 5 ls []) := by
    intro d
    induction d with
    | zero =>
      intro j hj H locs hP hD hS ls hl
      refine lv_iload hx hb dX2_look_5 (lv_at hl 0 rfl) ?_
      refine lv_iload_n hx hb dX2_look_7 rfl (lv_at hl 3 rfl) ?_
      refine oz_kj_ge hx hb (by omega) (by omega) (tgt := 36) dX2_look_8 (by decide) (fun h1 => ?_) (fun h1 => ?_)
      · have hj2 : j = m1 := by omega
        rw [hj2] at hl
        refine lv_lload_n hx hb dX2_look_36 rfl (lv_at hl 1 rfl) ?_
        exact W.lret (v := lN (oz_be fW k m1)) hx hb hr (fun t9 ht hW => ⟨⟨_, (), rfl, rfl, by rw [ht]; exact hP, va_K.moved hW.alike hK, hD⟩, hS.F ht⟩) hS.2.2 dX2_look_37
      · omega
    | succ d ih =>
      intro j hj H locs hP hD hS ls hl
      refine lv_iload hx hb dX2_look_5 (lv_at hl 0 rfl) ?_
      refine lv_iload_n hx hb dX2_look_7 rfl (lv_at hl 3 rfl) ?_
      refine oz_kj_ge hx hb (by omega) (by omega) (tgt := 36) dX2_look_8 (by decide) (fun h1 => ?_) (fun h1 => ?_)
      · omega
      · have g := oz_by_lt (fW (k + j))
        have g2 : oz_be fW k j * 256 + (fW (k + j)).toNat < 2 ^ 64 := oz_be_lt8 fW k (n := j + 1) (by omega)
        refine lv_lload_n hx hb dX2_look_11 rfl (lv_at hl 1 rfl) ?_
        refine lv_bipush (v := nI 8) hx hb dX2_look_12 (by decide) ?_
        refine lv_lshl (v := lN (oz_be fW k j * 256)) hx hb dX2_look_14 (oz_shl_L 8 (by decide)) ?_
        refine lv_aload_n hx hb dX2_look_15 rfl (lv_at hl 2 rfl) ?_
        refine va_get (D := G) (ci := 2) (v := .ref wi) (C := RX2) (T := TX2) (N := 6) hx hb hts in_X2 hown hK hP 0 rfl rfl 2 (by decide) (hts _ q241) (fun _ h9 => h9) rfl dX2_look_16 ?_
        refine lv_aload_n hx hb dX2_look_19 rfl (lv_at hl 2 rfl) ?_
        refine va_get (D := G) (ci := 2) (v := .int (nI k)) (C := RX2) (T := TX2) (N := 6) hx hb hts in_X2 hown hK hP 0 rfl rfl 4 (by decide) (hts _ q243) (fun _ h9 => h9) rfl dX2_look_20 ?_
        refine lv_iload hx hb dX2_look_23 (lv_at hl 0 rfl) ?_
        refine oz_kadd hx hb dX2_look_25 ?_
        refine oz_ki_ld hx hb hK hP 2 rfl (by omega) (by decide) dX2_look_26 ?_
        refine lv_i2l (v := lN ((fW (k + j)).toNat)) hx hb dX2_look_27 (oz_i2l_s (by omega)) ?_
        refine lv_lor hx hb dX2_look_28 ?_
        refine oz_ktopl (y := lN (oz_be fW k (j + 1))) (oz_or_L 8 (by omega) (by omega) g2) ?_
        refine lv_lstore_n (lv' := [(2, .long (lN (oz_be fW k (j + 1)))), (4, .int (nI j)), (0, .ref h), (1, .int (nI m1))]) hx hb dX2_look_29 rfl hl (by decide) rfl (fun ls hl => ?_)
        refine lv_iinc (v := nI (j + 1)) (lv' := [(4, .int (nI (j + 1))), (2, .long (lN (oz_be fW k (j + 1)))), (0, .ref h), (1, .int (nI m1))]) hx hb dX2_look_30 hl (k := 1) rfl (nI_add j 1) (by decide) rfl (fun ls hl => ?_)
        refine lv_goto (tgt := 5) hx hb dX2_look_33 (by decide) ?_
        exact ih (j + 1) (by omega) H locs hP hD hS ls (lv_sub hl [0, 1, 2, 3] rfl)
  exact loop m1 0 (Nat.zero_add _) _ _ hP hD hS ls (lv_sub hl [0, 1, 2, 3] rfl)

/-- take: m1 bytes as a number, -1 if there are not so many -/
abbrev rm_X2_take : Room := ({ frames := 1, cells := 0, slots := 0, locals := 24 } : Room)
set_option maxHeartbeats 4000000 in
set_option maxRecDepth 100000 in
theorem mt_X2_take (l : Launch) (G : va_G) (cB cI : ClassId) (sz : Nat) (h tx wi la n r i k : Nat) (fT fW fR : Nat → oz_By) (m1 : Nat) (hn : n ≤ 256) (hr0 : r ≤ 2048) (hi : i ≤ 2048) (hk : k ≤ i) (hm : m1 ≤ 8) : Met l yX2_take (ws_ yX2_take cX2_take 4 (some .long)) rm_X2_take (va_Pc [.ref h, .int (nI m1)] (oz_pw G cB cI sz [oz_oM h tx n wi i k la, oz_oI cI tx 256 fT, oz_oI cI wi 2048 fW, oz_oI cI la r fR])) (va_Ql (fun (x9 : Int64) (_ : Unit) => x9 = (if k + m1 ≤ i then lN (oz_be fW k m1) else (-1 : Int64))) (fun (u : Unit) => oz_qw G cB cI (va_A [oz_oM h tx n wi i k la, oz_oI cI tx 256 fT, oz_oI cI wi 2048 fW, oz_oI cI la r fR] sz) [oz_oM h tx n wi i (if k + m1 ≤ i then k + m1 else k) la, oz_oI cI tx 256 fT, oz_oI cI wi 2048 fW, oz_oI cI la r fR]) (va_A [oz_oM h tx n wi i k la, oz_oI cI tx 256 fT, oz_oI cI wi 2048 fW, oz_oI cI la r fR] sz)) 0 0 (va_A [oz_oM h tx n wi i k la, oz_oI cI tx 256 fT, oz_oI cI wi 2048 fW, oz_oI cI la r fR] sz) := by
  refine Met.ofW (cc := cX2_take) (maxL := 4) (ret := (some .long)) (by decide) rfl ?_
  intro p e s m args below meth c s₁ B hml hv
  obtain ⟨rfl, hsz, hP, hK, hD0⟩ := hv
  have hx := B.exec
  have hb := B.bytes
  have hr := B.returns
  have hts := atoms_spec (ws := (ws_ yX2_take cX2_take 4 (some .long))) B.pre
  have hts : ∀ w ∈ lw_all, w.before _ s = true := fun w h => hts w (List.mem_cons_of_mem _ h)
  have hown : s.vm.findClass RX2 = some m.cls := findClass_of_methodNamed B.named
  have hlocks := B.notSynchronized
  subst hsz
  have hD := hD0.self (sz := s.heap.size)
  generalize hAe : va_A [oz_oM h tx n wi i k la, oz_oI cI tx 256 fT, oz_oI cI wi 2048 fW, oz_oI cI la r fR] s.heap.size = A at hD ⊢
  have hA : ∀ q9 : Nat, s.heap.size ≤ q9 → A q9 := fun q9 h => by rw [← hAe]; exact Or.inr h
  have hS : va_S A s.heap s.heap [] := va_S.rf
  have hP : va_P G vwCl [oz_oM h tx n wi i k la, oz_oI cI tx 256 fT, oz_oI cI wi 2048 fW, oz_oI cI la r fR] s.heap := hP
  have hl := lv_entry ([.ref h, .int (nI m1)]) (n := 4) (Nat.le_of_ble_eq_true rfl)
  rw [lg_entry_eq]
  generalize (lg_sl ([.ref h, .int (nI m1)]) ++ List.replicate (4 - (lg_sl ([.ref h, .int (nI m1)])).length) Slot.unset).toArray = ls at hl ⊢
  have hl : lv_has ls 4 [(0, .ref h), (1, .int (nI m1))] := hl
  refine lv_aload_n hx hb dX2_take_0 rfl (lv_at hl 0 rfl) ?_
  refine oz_kc_i (nA := 0) (As := []) (rest := []) (wr := []) (w3 := fun (u : Unit) => [oz_oM h tx n wi i k la, oz_oI cI tx 256 fT, oz_oI cI wi 2048 fW, oz_oI cI la r fR]) (C := RX2) hx hb hml hown hts hK hP hD hS hA (mt_X2_left l G cB cI s.heap.size h tx wi la n r i k fT fW fR hn hr0 hi hk) (lw_V q321 q310 q311 q14 q312) rfl rfl (by decide +kernel) rfl ⟨Nat.le_of_ble_eq_true rfl, Nat.le_of_ble_eq_true rfl⟩ [0, 1, 2, 3] [] rfl rfl rfl rfl (by decide) 0 rfl rfl rfl hl.1 (Nat.le_of_ble_eq_true rfl) dX2_take_1 ⟨Nat.le_of_ble_eq_true rfl, Nat.le_of_ble_eq_true rfl⟩ (fun _ => rfl) (fun _ H locs hP hD hS => ?_)
  have hP : va_P G vwCl [oz_oM h tx n wi i k la, oz_oI cI tx 256 fT, oz_oI cI wi 2048 fW, oz_oI cI la r fR] H := hP
  have hD : va_D A [oz_oM h tx n wi i k la, oz_oI cI tx 256 fT, oz_oI cI wi 2048 fW, oz_oI cI la r fR] := hD
  refine lv_iload_n hx hb dX2_take_4 rfl (lv_at hl 1 rfl) ?_
  refine oz_kj_ge hx hb (by omega) (by omega) (tgt := 12) dX2_take_5 (by decide) (fun h1 => ?_) (fun h1 => ?_)
  · refine lv_aload_n hx hb dX2_take_12 rfl (lv_at hl 0 rfl) ?_
    refine lv_iload_n hx hb dX2_take_13 rfl (lv_at hl 1 rfl) ?_
    refine oz_kc_l (nA := 1) (As := [.int (nI m1)]) (rest := []) (wr := []) (w3 := fun (u : Unit) => [oz_oM h tx n wi i k la, oz_oI cI tx 256 fT, oz_oI cI wi 2048 fW, oz_oI cI la r fR]) (C := RX2) hx hb hml hown hts hK hP hD hS hA (mt_X2_look l G cB cI H.size h tx wi la n r i k fT fW fR m1 hn hr0 hi hk hm (by omega)) (lw_V q323 q325 qs10 q14 q326) rfl rfl (by decide +kernel) rfl ⟨Nat.le_of_ble_eq_true rfl, Nat.le_of_ble_eq_true rfl⟩ [0, 1, 2, 3] [] rfl rfl rfl rfl (by decide) 0 rfl rfl rfl hl.1 (Nat.le_of_ble_eq_true rfl) dX2_take_14 ⟨Nat.le_of_ble_eq_true rfl, Nat.le_of_ble_eq_true rfl⟩ (fun _ => rfl) (fun _ H locs hP hD hS => ?_)
    have hP : va_P G vwCl [oz_oM h tx n wi i k la, oz_oI cI tx 256 fT, oz_oI cI wi 2048 fW, oz_oI cI la r fR] H := hP
    have hD : va_D A [oz_oM h tx n wi i k la, oz_oI cI tx 256 fT, oz_oI cI wi 2048 fW, oz_oI cI la r fR] := hD
    refine lv_lstore_n (lv' := [(2, .long (lN (oz_be fW k m1))), (0, .ref h), (1, .int (nI m1))]) hx hb dX2_take_17 rfl hl (by decide) rfl (fun ls hl => ?_)
    refine lv_aload_n hx hb dX2_take_18 rfl (lv_at hl 1 rfl) ?_
    refine lv_dup hx hb dX2_take_19 rfl ?_
    refine va_get (D := G) (ci := 2) (v := .int (nI k)) (C := RX2) (T := TX2) (N := 6) hx hb hts in_X2 hown hK hP 0 rfl rfl 4 (by decide) (hts _ q243) (fun _ h9 => h9) rfl dX2_take_20 ?_
    refine lv_iload_n hx hb dX2_take_23 rfl (lv_at hl 2 rfl) ?_
    refine oz_kadd hx hb dX2_take_24 ?_
    refine va_put (D := G) (ci := 2) (v := .int (nI (k + m1))) (ty := .int) (C := RX2) (T := TX2) (N := 6) hx hb hts in_X2 tyX2 tyX2_ok nmX2 hown hK hP hD hS 0 rfl rfl 4 (by decide) (hts _ q243) (fun _ h9 => h9) rfl (by decide +kernel) rfl rfl (Nat.le_of_ble_eq_true rfl) dX2_take_25 (fun H locs hP hD hS => ?_)
    have hP : va_P G vwCl [oz_oM h tx n wi i (k + m1) la, oz_oI cI tx 256 fT, oz_oI cI wi 2048 fW, oz_oI cI la r fR] H := hP
    have hD : va_D A [oz_oM h tx n wi i (k + m1) la, oz_oI cI tx 256 fT, oz_oI cI wi 2048 fW, oz_oI cI la r fR] := hD
    refine lv_lload_n hx hb dX2_take_28 rfl (lv_at hl 0 rfl) ?_
    have hc : k + m1 ≤ i := by omega
    have ew : ([oz_oM h tx n wi i (k + m1) la, oz_oI cI tx 256 fT, oz_oI cI wi 2048 fW, oz_oI cI la r fR] : va_W) = [oz_oM h tx n wi i (if k + m1 ≤ i then k + m1 else k) la, oz_oI cI tx 256 fT, oz_oI cI wi 2048 fW, oz_oI cI la r fR] := by simp only [if_pos hc]
    rw [ew] at hP hD
    exact W.lret (v := lN (oz_be fW k m1)) hx hb hr (fun t9 ht hW => ⟨⟨_, (), rfl, (if_pos hc).symm, by rw [ht]; exact hP, va_K.moved hW.alike hK, hD⟩, hS.F ht⟩) hS.2.2 dX2_take_29
  · refine lv_ldc2 hx hb hown (hts _ q322) dX2_take_8 ?_
    have hc : ¬ (k + m1 ≤ i) := by omega
    have ew : ([oz_oM h tx n wi i k la, oz_oI cI tx 256 fT, oz_oI cI wi 2048 fW, oz_oI cI la r fR] : va_W) = [oz_oM h tx n wi i (if k + m1 ≤ i then k + m1 else k) la, oz_oI cI tx 256 fT, oz_oI cI wi 2048 fW, oz_oI cI la r fR] := by simp only [if_neg hc]
    rw [ew] at hP hD
    exact W.lret (v := (-1)) hx hb hr (fun t9 ht hW => ⟨⟨_, (), rfl, (if_neg hc).symm, by rw [ht]; exact hP, va_K.moved hW.alike hK, hD⟩, hS.F ht⟩) hS.2.2 dX2_take_11

/-- byteOut -/
abbrev rm_X2_byteOut : Room := ({ frames := 2, cells := 0, slots := 0, locals := 47 } : Room)
set_option maxHeartbeats 4000000 in
set_option maxRecDepth 100000 in
theorem mt_X2_byteOut (l : Launch) (G : va_G) (cB cI : ClassId) (sz : Nat) (h tx wi la n r i k : Nat) (fT fW fR : Nat → oz_By) (hn : n ≤ 256) (hr0 : r ≤ 2048) (hi : i ≤ 2048) (hk : k ≤ i) : Met l yX2_byteOut (ws_ yX2_byteOut cX2_byteOut 1 (some .int)) rm_X2_byteOut (va_Pc [.ref h] (oz_pw G cB cI sz [oz_oM h tx n wi i k la, oz_oI cI tx 256 fT, oz_oI cI wi 2048 fW, oz_oI cI la r fR])) (va_Qi (fun (x9 : Int32) (_ : Unit) => x9 = (if k + 1 ≤ i then nI (oz_be fW k 1) else (-1 : Int32))) (fun (u : Unit) => oz_qw G cB cI (va_A [oz_oM h tx n wi i k la, oz_oI cI tx 256 fT, oz_oI cI wi 2048 fW, oz_oI cI la r fR] sz) [oz_oM h tx n wi i (if k + 1 ≤ i then k + 1 else k) la, oz_oI cI tx 256 fT, oz_oI cI wi 2048 fW, oz_oI cI la r fR]) (va_A [oz_oM h tx n wi i k la, oz_oI cI tx 256 fT, oz_oI cI wi 2048 fW, oz_oI cI la r fR] sz)) 0 0 (va_A [oz_oM h tx n wi i k la, oz_oI cI tx 256 fT, oz_oI cI wi 2048 fW, oz_oI cI la r fR] sz) := by
  refine Met.ofW (cc := cX2_byteOut) (maxL := 1) (ret := (some .int)) (by decide) rfl ?_
  intro p e s m args below meth c s₁ B hml hv
  obtain ⟨rfl, hsz, hP, hK, hD0⟩ := hv
  have hx := B.exec
  have hb := B.bytes
  have hr := B.returns
  have hts := atoms_spec (ws := (ws_ yX2_byteOut cX2_byteOut 1 (some .int))) B.pre
  have hts : ∀ w ∈ lw_all, w.before _ s = true := fun w h => hts w (List.mem_cons_of_mem _ h)
  have hown : s.vm.findClass RX2 = some m.cls := findClass_of_methodNamed B.named
  have hlocks := B.notSynchronized
  subst hsz
  have hD := hD0.self (sz := s.heap.size)
  generalize hAe : va_A [oz_oM h tx n wi i k la, oz_oI cI tx 256 fT, oz_oI cI wi 2048 fW, oz_oI cI la r fR] s.heap.size = A at hD ⊢
  have hA : ∀ q9 : Nat, s.heap.size ≤ q9 → A q9 := fun q9 h => by rw [← hAe]; exact Or.inr h
  have hS : va_S A s.heap s.heap [] := va_S.rf
  have hP : va_P G vwCl [oz_oM h tx n wi i k la, oz_oI cI tx 256 fT, oz_oI cI wi 2048 fW, oz_oI cI la r fR] s.heap := hP
  have hl := lv_entry ([.ref h]) (n := 1) (Nat.le_of_ble_eq_true rfl)
  rw [lg_entry_eq]
  generalize (lg_sl ([.ref h]) ++ List.replicate (1 - (lg_sl ([.ref h])).length) Slot.unset).toArray = ls at hl ⊢
  have hl : lv_has ls 1 [(0, .ref h)] := hl
  refine lv_aload_n hx hb dX2_byteOut_0 rfl (lv_at hl 0 rfl) ?_
  refine lv_iconst (v := nI 1) hx hb dX2_byteOut_1 (by decide) ?_
  refine oz_kc_l (nA := 1) (As := [.int (nI 1)]) (rest := []) (wr := []) (w3 := fun (u : Unit) => [oz_oM h tx n wi i (if k + 1 ≤ i then k + 1 else k) la, oz_oI cI tx 256 fT, oz_oI cI wi 2048 fW, oz_oI cI la r fR]) (C := RX2) hx hb hml hown hts hK hP hD hS hA (mt_X2_take l G cB cI s.heap.size h tx wi la n r i k fT fW fR 1 hn hr0 hi hk (by decide)) (lw_V q317 q319 qs9 q14 q320) rfl rfl (by decide +kernel) rfl ⟨Nat.le_of_ble_eq_true rfl, Nat.le_of_ble_eq_true rfl⟩ [0, 1, 2, 3] [] rfl rfl rfl rfl (by decide) 0 rfl rfl rfl hl.1 (Nat.le_of_ble_eq_true rfl) dX2_byteOut_2 ⟨Nat.le_of_ble_eq_true rfl, Nat.le_of_ble_eq_true rfl⟩ (fun _ => rfl) (fun _ H locs hP hD hS => ?_)
  have hP : va_P G vwCl [oz_oM h tx n wi i (if k + 1 ≤ i then k + 1 else k) la, oz_oI cI tx 256 fT, oz_oI cI wi 2048 fW, oz_oI cI la r fR] H := hP
  have hD : va_D A [oz_oM h tx n wi i (if k + 1 ≤ i then k + 1 else k) la, oz_oI cI tx 256 fT, oz_oI cI wi 2048 fW, oz_oI cI la r fR] := hD
  refine lv_l2i (v := (if k + 1 ≤ i then nI (oz_be fW k 1) else (-1 : Int32))) hx hb dX2_byteOut_5 (oz_l2i_if _ _ _) ?_
  exact W.iret (v := (if k + 1 ≤ i then nI (oz_be fW k 1) else (-1 : Int32))) hx hb hr (fun t9 ht hW => ⟨⟨_, (), rfl, rfl, by rw [ht]; exact hP, va_K.moved hW.alike hK, hD⟩, hS.F ht⟩) hS.2.2 dX2_byteOut_6

/-- shortOut -/
abbrev rm_X2_shortOut : Room := ({ frames := 2, cells := 0, slots := 0, locals := 47 } : Room)
set_option maxHeartbeats 4000000 in
set_option maxRecDepth 100000 in
theorem mt_X2_shortOut (l : Launch) (G : va_G) (cB cI : ClassId) (sz : Nat) (h tx wi la n r i k : Nat) (fT fW fR : Nat → oz_By) (hn : n ≤ 256) (hr0 : r ≤ 2048) (hi : i ≤ 2048) (hk : k ≤ i) : Met l yX2_shortOut (ws_ yX2_shortOut cX2_shortOut 1 (some .int)) rm_X2_shortOut (va_Pc [.ref h] (oz_pw G cB cI sz [oz_oM h tx n wi i k la, oz_oI cI tx 256 fT, oz_oI cI wi 2048 fW, oz_oI cI la r fR])) (va_Qi (fun (x9 : Int32) (_ : Unit) => x9 = (if k + 2 ≤ i then nI (oz_be fW k 2) else (-1 : Int32))) (fun (u : Unit) => oz_qw G cB cI (va_A [oz_oM h tx n wi i k la, oz_oI cI tx 256 fT, oz_oI cI wi 2048 fW, oz_oI cI la r fR] sz) [oz_oM h tx n wi i (if k + 2 ≤ i then k + 2 else k) la, oz_oI cI tx 256 fT, oz_oI cI wi 2048 fW, oz_oI cI la r fR]) (va_A [oz_oM h tx n wi i k la, oz_oI cI tx 256 fT, oz_oI cI wi 2048 fW, oz_oI cI la r fR] sz)) 0 0 (va_A [oz_oM h tx n wi i k la, oz_oI cI tx 256 fT, oz_oI cI wi 2048 fW, oz_oI cI la r fR] sz) := by
  refine Met.ofW (cc := cX2_shortOut) (maxL := 1) (ret := (some .int)) (by decide) rfl ?_
  intro p e s m args below meth c s₁ B hml hv
  obtain ⟨rfl, hsz, hP, hK, hD0⟩ := hv
  have hx := B.exec
  have hb := B.bytes
  have hr := B.returns
  have hts := atoms_spec (ws := (ws_ yX2_shortOut cX2_shortOut 1 (some .int))) B.pre
  have hts : ∀ w ∈ lw_all, w.before _ s = true := fun w h => hts w (List.mem_cons_of_mem _ h)
  have hown : s.vm.findClass RX2 = some m.cls := findClass_of_methodNamed B.named
  have hlocks := B.notSynchronized
  subst hsz
  have hD := hD0.self (sz := s.heap.size)
  generalize hAe : va_A [oz_oM h tx n wi i k la, oz_oI cI tx 256 fT, oz_oI cI wi 2048 fW, oz_oI cI la r fR] s.heap.size = A at hD ⊢
  have hA : ∀ q9 : Nat, s.heap.size ≤ q9 → A q9 := fun q9 h => by rw [← hAe]; exact Or.inr h
  have hS : va_S A s.heap s.heap [] := va_S.rf
  have hP : va_P G vwCl [oz_oM h tx n wi i k la, oz_oI cI tx 256 fT, oz_oI cI wi 2048 fW, oz_oI cI la r fR] s.heap := hP
  have hl := lv_entry ([.ref h]) (n := 1) (Nat.le_of_ble_eq_true rfl)
  rw [lg_entry_eq]
  generalize (lg_sl ([.ref h]) ++ List.replicate (1 - (lg_sl ([.ref h])).length) Slot.unset).toArray = ls at hl ⊢
  have hl : lv_has ls 1 [(0, .ref h)] := hl
  refine lv_aload_n hx hb dX2_shortOut_0 rfl (lv_at hl 0 rfl) ?_
  refine lv_iconst (v := nI 2) hx hb dX2_shortOut_1 (by decide) ?_
  refine oz_kc_l (nA := 1) (As := [.int (nI 2)]) (rest := []) (wr := []) (w3 := fun (u : Unit) => [oz_oM h tx n wi i (if k + 2 ≤ i then k + 2 else k) la, oz_oI cI tx 256 fT, oz_oI cI wi 2048 fW, oz_oI cI la r fR]) (C := RX2) hx hb hml hown hts hK hP hD hS hA (mt_X2_take l G cB cI s.heap.size h tx wi la n r i k fT fW fR 2 hn hr0 hi hk (by decide)) (lw_V q317 q319 qs9 q14 q320) rfl rfl (by decide +kernel) rfl ⟨Nat.le_of_ble_eq_true rfl, Nat.le_of_ble_eq_true rfl⟩ [0, 1, 2, 3] [] rfl rfl rfl rfl (by decide) 0 rfl rfl rfl hl.1 (Nat.le_of_ble_eq_true rfl) dX2_shortOut_2 ⟨Nat.le_of_ble_eq_true rfl, Nat.le_of_ble_eq_true rfl⟩ (fun _ => rfl) (fun _ H locs hP hD hS => ?_)
  have hP : va_P G vwCl [oz_oM h tx n wi i (if k + 2 ≤ i then k + 2 else k) la, oz_oI cI tx 256 fT, oz_oI cI wi 2048 fW, oz_oI cI la r fR] H := hP
  have hD : va_D A [oz_oM h tx n wi i (if k + 2 ≤ i then k + 2 else k) la, oz_oI cI tx 256 fT, oz_oI cI wi 2048 fW, oz_oI cI la r fR] := hD
  refine lv_l2i (v := (if k + 2 ≤ i then nI (oz_be fW k 2) else (-1 : Int32))) hx hb dX2_shortOut_5 (oz_l2i_if _ _ _) ?_
  exact W.iret (v := (if k + 2 ≤ i then nI (oz_be fW k 2) else (-1 : Int32))) hx hb hr (fun t9 ht hW => ⟨⟨_, (), rfl, rfl, by rw [ht]; exact hP, va_K.moved hW.alike hK, hD⟩, hS.F ht⟩) hS.2.2 dX2_shortOut_6

/-- intOut -/
abbrev rm_X2_intOut : Room := ({ frames := 2, cells := 0, slots := 0, locals := 47 } : Room)
set_option maxHeartbeats 4000000 in
set_option maxRecDepth 100000 in
theorem mt_X2_intOut (l : Launch) (G : va_G) (cB cI : ClassId) (sz : Nat) (h tx wi la n r i k : Nat) (fT fW fR : Nat → oz_By) (hn : n ≤ 256) (hr0 : r ≤ 2048) (hi : i ≤ 2048) (hk : k ≤ i) : Met l yX2_intOut (ws_ yX2_intOut cX2_intOut 1 (some .long)) rm_X2_intOut (va_Pc [.ref h] (oz_pw G cB cI sz [oz_oM h tx n wi i k la, oz_oI cI tx 256 fT, oz_oI cI wi 2048 fW, oz_oI cI la r fR])) (va_Ql (fun (x9 : Int64) (_ : Unit) => x9 = (if k + 4 ≤ i then lN (oz_be fW k 4) else (-1 : Int64))) (fun (u : Unit) => oz_qw G cB cI (va_A [oz_oM h tx n wi i k la, oz_oI cI tx 256 fT, oz_oI cI wi 2048 fW, oz_oI cI la r fR] sz) [oz_oM h tx n wi i (if k + 4 ≤ i then k + 4 else k) la, oz_oI cI tx 256 fT, oz_oI cI wi 2048 fW, oz_oI cI la r fR]) (va_A [oz_oM h tx n wi i k la, oz_oI cI tx 256 fT, oz_oI cI wi 2048 fW, oz_oI cI la r fR] sz)) 0 0 (va_A [oz_oM h tx n wi i k la, oz_oI cI tx 256 fT, oz_oI cI wi 2048 fW, oz_oI cI la r fR] sz) := by
  refine Met.ofW (cc := cX2_intOut) (maxL := 1) (ret := (some .long)) (by decide) rfl ?_
  intro p e s m args below meth c s₁ B hml hv
  obtain ⟨rfl, hsz, hP, hK, hD0⟩ := hv
  have hx := B.exec
  have hb := B.bytes
  have hr := B.returns
  have hts := atoms_spec (ws := (ws_ yX2_intOut cX2_intOut 1 (some .long))) B.pre
  have hts : ∀ w ∈ lw_all, w.before _ s = true := fun w h => hts w (List.mem_cons_of_mem _ h)
  have hown : s.vm.findClass RX2 = some m.cls := findClass_of_methodNamed B.named
  have hlocks := B.notSynchronized
  subst hsz
  have hD := hD0.self (sz := s.heap.size)
  generalize hAe : va_A [oz_oM h tx n wi i k la, oz_oI cI tx 256 fT, oz_oI cI wi 2048 fW, oz_oI cI la r fR] s.heap.size = A at hD ⊢
  have hA : ∀ q9 : Nat, s.heap.size ≤ q9 → A q9 := fun q9 h => by rw [← hAe]; exact Or.inr h
  have hS : va_S A s.heap s.heap [] := va_S.rf
  have hP : va_P G vwCl [oz_oM h tx n wi i k la, oz_oI cI tx 256 fT, oz_oI cI wi 2048 fW, oz_oI cI la r fR] s.heap := hP
  have hl := lv_entry ([.ref h]) (n := 1) (Nat.le_of_ble_eq_true rfl)
  rw [lg_entry_eq]
  generalize (lg_sl ([.ref h]) ++ List.replicate (1 - (lg_sl ([.ref h])).length) Slot.unset).toArray = ls at hl ⊢
  have hl : lv_has ls 1 [(0, .ref h)] := hl
  refine lv_aload_n hx hb dX2_intOut_0 rfl (lv_at hl 0 rfl) ?_
  refine lv_iconst (v := nI 4) hx hb dX2_intOut_1 (by decide) ?_
  refine oz_kc_l (nA := 1) (As := [.int (nI 4)]) (rest := []) (wr := []) (w3 := fun (u : Unit) => [oz_oM h tx n wi i (if k + 4 ≤ i then k + 4 else k) la, oz_oI cI tx 256 fT, oz_oI cI wi 2048 fW, oz_oI cI la r fR]) (C := RX2) hx hb hml hown hts hK hP hD hS hA (mt_X2_take l G cB cI s.heap.size h tx wi la n r i k fT fW fR 4 hn hr0 hi hk (by decide)) (lw_V q317 q319 qs9 q14 q320) rfl rfl (by decide +kernel) rfl ⟨Nat.le_of_ble_eq_true rfl, Nat.le_of_ble_eq_true rfl⟩ [0, 1, 2, 3] [] rfl rfl rfl rfl (by decide) 0 rfl rfl rfl hl.1 (Nat.le_of_ble_eq_true rfl) dX2_intOut_2 ⟨Nat.le_of_ble_eq_true rfl, Nat.le_of_ble_eq_true rfl⟩ (fun _ => rfl) (fun _ H locs hP hD hS => ?_)
  have hP : va_P G vwCl [oz_oM h tx n wi i (if k + 4 ≤ i then k + 4 else k) la, oz_oI cI tx 256 fT, oz_oI cI wi 2048 fW, oz_oI cI la r fR] H := hP
  have hD : va_D A [oz_oM h tx n wi i (if k + 4 ≤ i then k + 4 else k) la, oz_oI cI tx 256 fT, oz_oI cI wi 2048 fW, oz_oI cI la r fR] := hD
  exact W.lret (v := (if k + 4 ≤ i then lN (oz_be fW k 4) else (-1 : Int64))) hx hb hr (fun t9 ht hW => ⟨⟨_, (), rfl, rfl, by rw [ht]; exact hP, va_K.moved hW.alike hK, hD⟩, hS.F ht⟩) hS.2.2 dX2_intOut_5

/-- longOut -/
abbrev rm_X2_longOut : Room := ({ frames := 2, cells := 0, slots := 0, locals := 47 } : Room)
set_option maxHeartbeats 4000000 in
set_option maxRecDepth 100000 in
theorem mt_X2_longOut (l : Launch) (G : va_G) (cB cI : ClassId) (sz : Nat) (h tx wi la n r i k : Nat) (fT fW fR : Nat → oz_By) (hn : n ≤ 256) (hr0 : r ≤ 2048) (hi : i ≤ 2048) (hk : k ≤ i) : Met l yX2_longOut (ws_ yX2_longOut cX2_longOut 1 (some .long)) rm_X2_longOut (va_Pc [.ref h] (oz_pw G cB cI sz [oz_oM h tx n wi i k la, oz_oI cI tx 256 fT, oz_oI cI wi 2048 fW, oz_oI cI la r fR])) (va_Ql (fun (x9 : Int64) (_ : Unit) => x9 = (if k + 8 ≤ i then lN (oz_be fW k 8) else (-1 : Int64))) (fun (u : Unit) => oz_qw G cB cI (va_A [oz_oM h tx n wi i k la, oz_oI cI tx 256 fT, oz_oI cI wi 2048 fW, oz_oI cI la r fR] sz) [oz_oM h tx n wi i (if k + 8 ≤ i then k + 8 else k) la, oz_oI cI tx 256 fT, oz_oI cI wi 2048 fW, oz_oI cI la r fR]) (va_A [oz_oM h tx n wi i k la, oz_oI cI tx 256 fT, oz_oI cI wi 2048 fW, oz_oI cI la r fR] sz)) 0 0 (va_A [oz_oM h tx n wi i k la, oz_oI cI tx 256 fT, oz_oI cI wi 2048 fW, oz_oI cI la r fR] sz) := by
  refine Met.ofW (cc := cX2_longOut) (maxL := 1) (ret := (some .long)) (by decide) rfl ?_
  intro p e s m args below meth c s₁ B hml hv
  obtain ⟨rfl, hsz, hP, hK, hD0⟩ := hv
  have hx := B.exec
  have hb := B.bytes
  have hr := B.returns
  have hts := atoms_spec (ws := (ws_ yX2_longOut cX2_longOut 1 (some .long))) B.pre
  have hts : ∀ w ∈ lw_all, w.before _ s = true := fun w h => hts w (List.mem_cons_of_mem _ h)
  have hown : s.vm.findClass RX2 = some m.cls := findClass_of_methodNamed B.named
  have hlocks := B.notSynchronized
  subst hsz
  have hD := hD0.self (sz := s.heap.size)
  generalize hAe : va_A [oz_oM h tx n wi i k la, oz_oI cI tx 256 fT, oz_oI cI wi 2048 fW, oz_oI cI la r fR] s.heap.size = A at hD ⊢
  have hA : ∀ q9 : Nat, s.heap.size ≤ q9 → A q9 := fun q9 h => by rw [← hAe]; exact Or.inr h
  have hS : va_S A s.heap s.heap [] := va_S.rf
  have hP : va_P G vwCl [oz_oM h tx n wi i k la, oz_oI cI tx 256 fT, oz_oI cI wi 2048 fW, oz_oI cI la r fR] s.heap := hP
  have hl := lv_entry ([.ref h]) (n := 1) (Nat.le_of_ble_eq_true rfl)
  rw [lg_entry_eq]
  generalize (lg_sl ([.ref h]) ++ List.replicate (1 - (lg_sl ([.ref h])).length) Slot.unset).toArray = ls at hl ⊢
  have hl : lv_has ls 1 [(0, .ref h)] := hl
  refine lv_aload_n hx hb dX2_longOut_0 rfl (lv_at hl 0 rfl) ?_
  refine lv_bipush (v := nI 8) hx hb dX2_longOut_1 (by decide) ?_
  refine oz_kc_l (nA := 1) (As := [.int (nI 8)]) (rest := []) (wr := []) (w3 := fun (u : Unit) => [oz_oM h tx n wi i (if k + 8 ≤ i then k + 8 else k) la, oz_oI cI tx 256 fT, oz_oI cI wi 2048 fW, oz_oI cI la r fR]) (C := RX2) hx hb hml hown hts hK hP hD hS hA (mt_X2_take l G cB cI s.heap.size h tx wi la n r i k fT fW fR 8 hn hr0 hi hk (by decide)) (lw_V q317 q319 qs9 q14 q320) rfl rfl (by decide +kernel) rfl ⟨Nat.le_of_ble_eq_true rfl, Nat.le_of_ble_eq_true rfl⟩ [0, 1, 2, 3] [] rfl rfl rfl rfl (by decide) 0 rfl rfl rfl hl.1 (Nat.le_of_ble_eq_true rfl) dX2_longOut_3 ⟨Nat.le_of_ble_eq_true rfl, Nat.le_of_ble_eq_true rfl⟩ (fun _ => rfl) (fun _ H locs hP hD hS => ?_)
  have hP : va_P G vwCl [oz_oM h tx n wi i (if k + 8 ≤ i then k + 8 else k) la, oz_oI cI tx 256 fT, oz_oI cI wi 2048 fW, oz_oI cI la r fR] H := hP
  have hD : va_D A [oz_oM h tx n wi i (if k + 8 ≤ i then k + 8 else k) la, oz_oI cI tx 256 fT, oz_oI cI wi 2048 fW, oz_oI cI la r fR] := hD
  exact W.lret (v := (if k + 8 ≤ i then lN (oz_be fW k 8) else (-1 : Int64))) hx hb hr (fun t9 ht hW => ⟨⟨_, (), rfl, rfl, by rw [ht]; exact hP, va_K.moved hW.alike hK, hD⟩, hS.F ht⟩) hS.2.2 dX2_longOut_6

/-- stringOut -/
abbrev rm_X2_stringOut : Room := ({ frames := 2, cells := 1, slots := 2048, locals := 47 } : Room)
set_option maxHeartbeats 4000000 in
set_option maxRecDepth 100000 in
theorem mt_X2_stringOut (l : Launch) (G : va_G) (cB cI : ClassId) (sz : Nat) (h tx wi la n r i k : Nat) (fT fW fR : Nat → oz_By) (hn : n ≤ 256) (hr0 : r ≤ 2048) (hi : i ≤ 2048) (hk : k ≤ i) : Met l yX2_stringOut (ws_ yX2_stringOut cX2_stringOut 4 (some .int)) rm_X2_stringOut (va_Pc [.ref h] (oz_pw G cB cI sz [oz_oM h tx n wi i k la, oz_oI cI tx 256 fT, oz_oI cI wi 2048 fW, oz_oI cI la r fR])) (va_Qi (fun (x9 : Int32) (_ : Nat) => x9 = (if k + 4 ≤ i ∧ oz_be fW k 4 ≤ i - k - 4 then nI (oz_be fW k 4) else (-1 : Int32))) (fun (u : Nat) => oz_qw G cB cI (va_A [oz_oM h tx n wi i k la, oz_oI cI tx 256 fT, oz_oI cI wi 2048 fW, oz_oI cI la r fR] sz) [oz_oM h tx n wi i (if k + 4 ≤ i ∧ oz_be fW k 4 ≤ i - k - 4 then k + 4 + oz_be fW k 4 else k) u, oz_oI cI tx 256 fT, oz_oI cI wi 2048 fW, oz_oI cI u (if k + 4 ≤ i ∧ oz_be fW k 4 ≤ i - k - 4 then oz_be fW k 4 else r) (if k + 4 ≤ i ∧ oz_be fW k 4 ≤ i - k - 4 then oz_sl fW (k + 4) (oz_be fW k 4) else fR)]) (va_A [oz_oM h tx n wi i k la, oz_oI cI tx 256 fT, oz_oI cI wi 2048 fW, oz_oI cI la r fR] sz)) 1 2048 (va_A [oz_oM h tx n wi i k la, oz_oI cI tx 256 fT, oz_oI cI wi 2048 fW, oz_oI cI la r fR] sz) := by
  refine Met.ofW (cc := cX2_stringOut) (maxL := 4) (ret := (some .int)) (by decide) rfl ?_
  intro p e s m args below meth c s₁ B hml hv
  obtain ⟨rfl, hsz, hP, hK, hD0⟩ := hv
  have hx := B.exec
  have hb := B.bytes
  have hr := B.returns
  have hts := atoms_spec (ws := (ws_ yX2_stringOut cX2_stringOut 4 (some .int))) B.pre
  have hts : ∀ w ∈ lw_all, w.before _ s = true := fun w h => hts w (List.mem_cons_of_mem _ h)
  have hown : s.vm.findClass RX2 = some m.cls := findClass_of_methodNamed B.named
  have hlocks := B.notSynchronized
  subst hsz
  have hD := hD0.self (sz := s.heap.size)
  generalize hAe : va_A [oz_oM h tx n wi i k la, oz_oI cI tx 256 fT, oz_oI cI wi 2048 fW, oz_oI cI la r fR] s.heap.size = A at hD ⊢
  have hA : ∀ q9 : Nat, s.heap.size ≤ q9 → A q9 := fun q9 h => by rw [← hAe]; exact Or.inr h
  have hS : va_S A s.heap s.heap [] := va_S.rf
  have hP : va_P G vwCl [oz_oM h tx n wi i k la, oz_oI cI tx 256 fT, oz_oI cI wi 2048 fW, oz_oI cI la r fR] s.heap := hP
  have hl := lv_entry ([.ref h]) (n := 4) (Nat.le_of_ble_eq_true rfl)
  rw [lg_entry_eq]
  generalize (lg_sl ([.ref h]) ++ List.replicate (4 - (lg_sl ([.ref h])).length) Slot.unset).toArray = ls at hl ⊢
  have hl : lv_has ls 4 [(0, .ref h)] := hl
  refine lv_aload_n hx hb dX2_stringOut_0 rfl (lv_at hl 0 rfl) ?_
  refine oz_kc_i (nA := 0) (As := []) (rest := []) (wr := []) (w3 := fun (u : Unit) => [oz_oM h tx n wi i k la, oz_oI cI tx 256 fT, oz_oI cI wi 2048 fW, oz_oI cI la r fR]) (C := RX2) hx hb hml hown hts hK hP hD hS hA (mt_X2_left l G cB cI s.heap.size h tx wi la n r i k fT fW fR hn hr0 hi hk) (lw_V q321 q310 q311 q14 q312) rfl rfl (by decide +kernel) rfl ⟨Nat.le_of_ble_eq_true rfl, Nat.le_of_ble_eq_true rfl⟩ [0, 1, 2, 3] [] rfl rfl rfl rfl (by decide) 0 rfl rfl rfl hl.1 (Nat.le_of_ble_eq_true rfl) dX2_stringOut_1 ⟨Nat.le_of_ble_eq_true rfl, Nat.le_of_ble_eq_true rfl⟩ (fun _ => rfl) (fun _ H locs hP hD hS => ?_)
  have hP : va_P G vwCl [oz_oM h tx n wi i k la, oz_oI cI tx 256 fT, oz_oI cI wi 2048 fW, oz_oI cI la r fR] H := hP
  have hD : va_D A [oz_oM h tx n wi i k la, oz_oI cI tx 256 fT, oz_oI cI wi 2048 fW, oz_oI cI la r fR] := hD
  refine lv_iconst (v := nI 4) hx hb dX2_stringOut_4 (by decide) ?_
  refine oz_kj_ge hx hb (by omega) (by decide) (tgt := 10) dX2_stringOut_5 (by decide) (fun h1 => ?_) (fun h1 => ?_)
  · have g4 := oz_be4_lt fW k
    refine lv_aload_n hx hb dX2_stringOut_10 rfl (lv_at hl 0 rfl) ?_
    refine lv_iconst (v := nI 4) hx hb dX2_stringOut_11 (by decide) ?_
    refine oz_kc_l (nA := 1) (As := [.int (nI 4)]) (rest := []) (wr := []) (w3 := fun (u : Unit) => [oz_oM h tx n wi i k la, oz_oI cI tx 256 fT, oz_oI cI wi 2048 fW, oz_oI cI la r fR]) (C := RX2) hx hb hml hown hts hK hP hD hS hA (mt_X2_look l G cB cI H.size h tx wi la n r i k fT fW fR 4 hn hr0 hi hk (by decide) (by omega)) (lw_V q323 q325 qs10 q14 q326) rfl rfl (by decide +kernel) rfl ⟨Nat.le_of_ble_eq_true rfl, Nat.le_of_ble_eq_true rfl⟩ [0, 1, 2, 3] [] rfl rfl rfl rfl (by decide) 0 rfl rfl rfl hl.1 (Nat.le_of_ble_eq_true rfl) dX2_stringOut_12 ⟨Nat.le_of_ble_eq_true rfl, Nat.le_of_ble_eq_true rfl⟩ (fun _ => rfl) (fun _ H locs hP hD hS => ?_)
    have hP : va_P G vwCl [oz_oM h tx n wi i k la, oz_oI cI tx 256 fT, oz_oI cI wi 2048 fW, oz_oI cI la r fR] H := hP
    have hD : va_D A [oz_oM h tx n wi i k la, oz_oI cI tx 256 fT, oz_oI cI wi 2048 fW, oz_oI cI la r fR] := hD
    refine lv_lstore_n (lv' := [(1, .long (lN (oz_be fW k 4))), (0, .ref h)]) hx hb dX2_stringOut_15 rfl hl (by decide) rfl (fun ls hl => ?_)
    refine lv_lload_n hx hb dX2_stringOut_16 rfl (lv_at hl 0 rfl) ?_
    refine lv_aload_n hx hb dX2_stringOut_17 rfl (lv_at hl 1 rfl) ?_
    refine oz_kc_i (nA := 0) (As := []) (rest := [.long (lN (oz_be fW k 4))]) (wr := []) (w3 := fun (u : Unit) => [oz_oM h tx n wi i k la, oz_oI cI tx 256 fT, oz_oI cI wi 2048 fW, oz_oI cI la r fR]) (C := RX2) hx hb hml hown hts hK hP hD hS hA (mt_X2_left l G cB cI H.size h tx wi la n r i k fT fW fR hn hr0 hi hk) (lw_V q321 q310 q311 q14 q312) rfl rfl (by decide +kernel) rfl ⟨Nat.le_of_ble_eq_true rfl, Nat.le_of_ble_eq_true rfl⟩ [0, 1, 2, 3] [] rfl rfl rfl rfl (by decide) 0 rfl rfl rfl hl.1 (Nat.le_of_ble_eq_true rfl) dX2_stringOut_18 ⟨Nat.le_of_ble_eq_true rfl, Nat.le_of_ble_eq_true rfl⟩ (fun _ => rfl) (fun _ H locs hP hD hS => ?_)
    have hP : va_P G vwCl [oz_oM h tx n wi i k la, oz_oI cI tx 256 fT, oz_oI cI wi 2048 fW, oz_oI cI la r fR] H := hP
    have hD : va_D A [oz_oM h tx n wi i k la, oz_oI cI tx 256 fT, oz_oI cI wi 2048 fW, oz_oI cI la r fR] := hD
    refine lv_iconst (v := nI 4) hx hb dX2_stringOut_21 (by decide) ?_
    refine oz_ksub hx hb (by omega) dX2_stringOut_22 ?_
    refine lv_i2l (v := lN (i - k - 4)) hx hb dX2_stringOut_23 (oz_i2l_s (by omega)) ?_
    refine W.lcmp hx hb dX2_stringOut_24 ?_
    refine lv_if_le (tgt := 30) hx hb dX2_stringOut_25 (by decide) (fun h2 => ?_) (fun h2 => ?_)
    · have h3 : oz_be fW k 4 ≤ i - k - 4 := (oz_cmp_le (by omega) (by omega)).mp h2
      refine lv_aload_n hx hb dX2_stringOut_30 rfl (lv_at hl 1 rfl) ?_
      refine lv_dup hx hb dX2_stringOut_31 rfl ?_
      refine va_get (D := G) (ci := 2) (v := .int (nI k)) (C := RX2) (T := TX2) (N := 6) hx hb hts in_X2 hown hK hP 0 rfl rfl 4 (by decide) (hts _ q243) (fun _ h9 => h9) rfl dX2_stringOut_32 ?_
      refine lv_iconst (v := nI 4) hx hb dX2_stringOut_35 (by decide) ?_
      refine oz_kadd hx hb dX2_stringOut_36 ?_
      refine va_put (D := G) (ci := 2) (v := .int (nI (k + 4))) (ty := .int) (C := RX2) (T := TX2) (N := 6) hx hb hts in_X2 tyX2 tyX2_ok nmX2 hown hK hP hD hS 0 rfl rfl 4 (by decide) (hts _ q243) (fun _ h9 => h9) rfl (by decide +kernel) rfl rfl (Nat.le_of_ble_eq_true rfl) dX2_stringOut_37 (fun H locs hP hD hS => ?_)
      have hP : va_P G vwCl [oz_oM h tx n wi i (k + 4) la, oz_oI cI tx 256 fT, oz_oI cI wi 2048 fW, oz_oI cI la r fR] H := hP
      have hD : va_D A [oz_oM h tx n wi i (k + 4) la, oz_oI cI tx 256 fT, oz_oI cI wi 2048 fW, oz_oI cI la r fR] := hD
      refine lv_aload_n hx hb dX2_stringOut_40 rfl (lv_at hl 1 rfl) ?_
      refine lv_lload_n hx hb dX2_stringOut_41 rfl (lv_at hl 0 rfl) ?_
      refine lv_l2i (v := nI (oz_be fW k 4)) hx hb dX2_stringOut_42 (lN_i (oz_be fW k 4)) ?_
      refine oz_ki_new hx hb (hts _ q258) hK hP hD hS hA (N := (oz_be fW k 4)) (by omega) (Nat.le_of_ble_eq_true rfl) (show 0 + _ ≤ 2048 by omega) dX2_stringOut_43 (fun z H hP hD hS => ?_)
      have hP : va_P G vwCl [oz_oM h tx n wi i (k + 4) la, oz_oI cI tx 256 fT, oz_oI cI wi 2048 fW, oz_oI cI la r fR, oz_oI cI z (oz_be fW k 4) oz_z8] H := hP
      have hD : va_D A [oz_oM h tx n wi i (k + 4) la, oz_oI cI tx 256 fT, oz_oI cI wi 2048 fW, oz_oI cI la r fR, oz_oI cI z (oz_be fW k 4) oz_z8] := hD
      refine W.widen (k := 1) (n := 2048) (Nat.le_of_ble_eq_true rfl) (show 0 + _ ≤ 2048 by omega) ?_
      refine va_put (D := G) (ci := 2) (v := .ref z) (ty := .array .int) (C := RX2) (T := TX2) (N := 6) hx hb hts in_X2 tyX2 tyX2_ok nmX2 hown hK hP hD hS 0 rfl rfl 5 (by decide) (hts _ q244) (fun _ h9 => h9) rfl (by decide +kernel) rfl rfl (Nat.le_of_ble_eq_true rfl) dX2_stringOut_45 (fun H locs hP hD hS => ?_)
      have hP : va_P G vwCl [oz_oM h tx n wi i (k + 4) z, oz_oI cI tx 256 fT, oz_oI cI wi 2048 fW, oz_oI cI la r fR, oz_oI cI z (oz_be fW k 4) oz_z8] H := hP
      have hD : va_D A [oz_oM h tx n wi i (k + 4) z, oz_oI cI tx 256 fT, oz_oI cI wi 2048 fW, oz_oI cI la r fR, oz_oI cI z (oz_be fW k 4) oz_z8] := hD
      have hP := hP.sub (ws' := [oz_oM h tx n wi i (k + 4) z, oz_oI cI tx 256 fT, oz_oI cI wi 2048 fW, oz_oI cI z (oz_be fW k 4) oz_z8]) [0, 1, 2, 4] rfl
      have hD := hD.sub (ws' := [oz_oM h tx n wi i (k + 4) z, oz_oI cI tx 256 fT, oz_oI cI wi 2048 fW, oz_oI cI z (oz_be fW k 4) oz_z8]) [0, 1, 2, 4] (by decide) rfl
      refine lv_iconst (v := nI 0) hx hb dX2_stringOut_48 (by decide) ?_
      refine lv_istore_n (lv' := [(3, .int (nI 0)), (1, .long (lN (oz_be fW k 4))), (0, .ref h)]) hx hb dX2_stringOut_49 rfl hl (by decide) rfl (fun ls hl => ?_)
      rw [← oz_sl_0 fW (k + 4)] at hP hD
      have loop : ∀ (d : Nat) (j : Nat), j + d = oz_be fW k 4 → ∀ (H : Heap) (locs : List Loc), va_P G vwCl [oz_oM h tx n wi i (k + 4 + j) z, oz_oI cI tx 256 fT, oz_oI cI wi 2048 fW, oz_oI cI z (oz_be fW k 4) (oz_sl fW (k + 4) j)] H → va_D A [oz_oM h tx n wi i (k + 4 + j) z, oz_oI cI tx 256 fT, oz_oI cI wi 2048 fW, oz_oI cI z (oz_be fW k 4) (oz_sl fW (k + 4) j)] → va_S A s.heap H locs → ∀ (ls : Array Slot), lv_has ls 4 [(3, .int (nI j)), (0, .ref h)] → W p l e (headSpec (ws_ yX2_stringOut cX2_stringOut 4 (some .int)) rm_X2_stringOut).room s m ([.ref h] : List Value).toArray below meth c H locs 1 2048 (MQ below (va_Qi (fun (x9 : Int32) (_ : Nat) => x9 = (if k + 4 ≤ i ∧ oz_be fW k 4 ≤ i - k - 4 then nI (oz_be fW k 4) else (-1 : Int32))) (fun (u : Nat) => oz_qw G cB cI A [oz_oM h tx n wi i (if k + 4 ≤ i ∧ oz_be fW k 4 ≤ i - k - 4 then k + 4 + oz_be fW k 4 else k) u, oz_oI cI tx 256 fT, oz_oI cI wi 2048 fW, oz_oI cI u (if k + 4 ≤ i ∧ oz_be fW k 4 ≤ i - k - 4 then oz_be fW k 4 else r) (if k + 4 ≤ i ∧ oz_be fW k 4 ≤ i - k - 4 then oz_sl fW (k + 4) (oz_be fW k 4) else fR)]) A) ([.ref h] : List Value).toArray s 1 2048 A) (F0 m 50 ls []) := by
        intro d
        induction d with
        | zero =>
          intro j hj H locs hP hD hS ls hl
          refine lv_iload_n hx hb dX2_stringOut_50 rfl (lv_at hl 0 rfl) ?_
          refine lv_aload_n hx hb dX2_stringOut_51 rfl (lv_at hl 1 rfl) ?_
          refine va_get (D := G) (ci := 2) (v := .ref z) (C := RX2) (T := TX2) (N := 6) hx hb hts in_X2 hown hK hP 0 rfl rfl 5 (by decide) (hts _ q244) (fun _ h9 => h9) rfl dX2_stringOut_52 ?_
          refine va_alen (v := nI (oz_be fW k 4)) hx hb hK hP 3 1 rfl rfl rfl dX2_stringOut_55 ?_
          refine oz_kj_ge hx hb (by omega) (by omega) (tgt := 77) dX2_stringOut_56 (by decide) (fun h4 => ?_) (fun h4 => ?_)
          · obtain rfl : j = oz_be fW k 4 := by omega
            refine lv_aload_n hx hb dX2_stringOut_77 rfl (lv_at hl 1 rfl) ?_
            refine va_get (D := G) (ci := 2) (v := .ref z) (C := RX2) (T := TX2) (N := 6) hx hb hts in_X2 hown hK hP 0 rfl rfl 5 (by decide) (hts _ q244) (fun _ h9 => h9) rfl dX2_stringOut_78 ?_
            refine va_alen (v := nI (oz_be fW k 4)) hx hb hK hP 3 1 rfl rfl rfl dX2_stringOut_81 ?_
            have hc : k + 4 ≤ i ∧ oz_be fW k 4 ≤ i - k - 4 := by omega
            have ew : ([oz_oM h tx n wi i (k + 4 + (oz_be fW k 4)) z, oz_oI cI tx 256 fT, oz_oI cI wi 2048 fW, oz_oI cI z (oz_be fW k 4) (oz_sl fW (k + 4) (oz_be fW k 4))] : va_W) = [oz_oM h tx n wi i (if k + 4 ≤ i ∧ oz_be fW k 4 ≤ i - k - 4 then k + 4 + oz_be fW k 4 else k) z, oz_oI cI tx 256 fT, oz_oI cI wi 2048 fW, oz_oI cI z (if k + 4 ≤ i ∧ oz_be fW k 4 ≤ i - k - 4 then oz_be fW k 4 else r) (if k + 4 ≤ i ∧ oz_be fW k 4 ≤ i - k - 4 then oz_sl fW (k + 4) (oz_be fW k 4) else fR)] := by simp only [if_pos hc]
            rw [ew] at hP hD
            exact W.iret (v := nI (oz_be fW k 4)) hx hb hr (fun t9 ht hW => ⟨⟨_, z, rfl, (if_pos hc).symm, by rw [ht]; exact hP, va_K.moved hW.alike hK, hD⟩, hS.F ht⟩) hS.2.2 dX2_stringOut_82
          · omega
        | succ d ih =>
          intro j hj H locs hP hD hS ls hl
          refine lv_iload_n hx hb dX2_stringOut_50 rfl (lv_at hl 0 rfl) ?_
          refine lv_aload_n hx hb dX2_stringOut_51 rfl (lv_at hl 1 rfl) ?_
          refine va_get (D := G) (ci := 2) (v := .ref z) (C := RX2) (T := TX2) (N := 6) hx hb hts in_X2 hown hK hP 0 rfl rfl 5 (by decide) (hts _ q244) (fun _ h9 => h9) rfl dX2_stringOut_52 ?_
          refine va_alen (v := nI (oz_be fW k 4)) hx hb hK hP 3 1 rfl rfl rfl dX2_stringOut_55 ?_
          refine oz_kj_ge hx hb (by omega) (by omega) (tgt := 77) dX2_stringOut_56 (by decide) (fun h4 => ?_) (fun h4 => ?_)
          · omega
          · have hc9 : k + 4 + j + 1 ≤ i := by omega
            refine lv_aload_n hx hb dX2_stringOut_59 rfl (lv_at hl 1 rfl) ?_
            refine va_get (D := G) (ci := 2) (v := .ref z) (C := RX2) (T := TX2) (N := 6) hx hb hts in_X2 hown hK hP 0 rfl rfl 5 (by decide) (hts _ q244) (fun _ h9 => h9) rfl dX2_stringOut_60 ?_
            refine lv_iload_n hx hb dX2_stringOut_63 rfl (lv_at hl 0 rfl) ?_
            refine lv_aload_n hx hb dX2_stringOut_64 rfl (lv_at hl 1 rfl) ?_
            refine lv_iconst (v := nI 1) hx hb dX2_stringOut_65 (by decide) ?_
            refine oz_kc_l (nA := 1) (As := [.int (nI 1)]) (rest := [.int (nI j), .ref z]) (wr := []) (w3 := fun (u : Unit) => [oz_oM h tx n wi i (if (k + 4 + j) + 1 ≤ i then (k + 4 + j) + 1 else (k + 4 + j)) z, oz_oI cI tx 256 fT, oz_oI cI wi 2048 fW, oz_oI cI z ((oz_be fW k 4)) ((oz_sl fW (k + 4) j))]) (C := RX2) hx hb hml hown hts hK hP hD hS hA (mt_X2_take l G cB cI H.size h tx wi z n (oz_be fW k 4) i (k + 4 + j) fT fW (oz_sl fW (k + 4) j) 1 hn (by omega) hi (by omega) (by decide)) (lw_V q317 q319 qs9 q14 q320) rfl rfl (by decide +kernel) rfl ⟨Nat.le_of_ble_eq_true rfl, Nat.le_of_ble_eq_true rfl⟩ [0, 1, 2, 3] [] rfl rfl rfl rfl (by decide) 0 rfl rfl rfl hl.1 (Nat.le_of_ble_eq_true rfl) dX2_stringOut_66 ⟨Nat.le_of_ble_eq_true rfl, Nat.le_of_ble_eq_true rfl⟩ (fun _ => rfl) (fun _ H locs hP hD hS => ?_)
            have hP : va_P G vwCl [oz_oM h tx n wi i (if (k + 4 + j) + 1 ≤ i then (k + 4 + j) + 1 else (k + 4 + j)) z, oz_oI cI tx 256 fT, oz_oI cI wi 2048 fW, oz_oI cI z ((oz_be fW k 4)) ((oz_sl fW (k + 4) j))] H := hP
            have hD : va_D A [oz_oM h tx n wi i (if (k + 4 + j) + 1 ≤ i then (k + 4 + j) + 1 else (k + 4 + j)) z, oz_oI cI tx 256 fT, oz_oI cI wi 2048 fW, oz_oI cI z ((oz_be fW k 4)) ((oz_sl fW (k + 4) j))] := hD
            rw [if_pos hc9] at hP hD
            refine oz_ktopl (y := lN (oz_be fW (k + 4 + j) 1)) (if_pos hc9) ?_
            refine lv_l2i (v := nI (oz_be fW (k + 4 + j) 1)) hx hb dX2_stringOut_69 (lN_i (oz_be fW (k + 4 + j) 1)) ?_
            refine oz_ki_st (w2 := [oz_oM h tx n wi i (k + 4 + j + 1) z, oz_oI cI tx 256 fT, oz_oI cI wi 2048 fW, oz_oI cI z (oz_be fW k 4) (oz_sl fW (k + 4) (j + 1))]) hx hb hK hP hD hS 3 (fW (k + 4 + j)) rfl (h4) (by omega) (by rw [oz_be_1]) dX2_stringOut_70 (by rw [oz_sl_s]; rfl) (fun H locs hP hD hS => ?_)
            refine lv_iinc (v := nI (j + 1)) (lv' := [(3, .int (nI (j + 1))), (0, .ref h)]) hx hb dX2_stringOut_71 hl (k := 0) rfl (nI_add j 1) (by decide) rfl (fun ls hl => ?_)
            refine lv_goto (tgt := 50) hx hb dX2_stringOut_74 (by decide) ?_
            have hP : va_P G vwCl [oz_oM h tx n wi i (k + 4 + (j + 1)) z, oz_oI cI tx 256 fT, oz_oI cI wi 2048 fW, oz_oI cI z (oz_be fW k 4) (oz_sl fW (k + 4) (j + 1))] H := hP
            have hD : va_D A [oz_oM h tx n wi i (k + 4 + (j + 1)) z, oz_oI cI tx 256 fT, oz_oI cI wi 2048 fW, oz_oI cI z (oz_be fW k 4) (oz_sl fW (k + 4) (j + 1))] := hD
            exact ih (j + 1) (by omega) H locs hP hD hS ls (lv_sub hl [0, 1] rfl)
      exact loop (oz_be fW k 4) 0 (Nat.zero_add _) _ _ hP hD hS ls (lv_sub hl [0, 2] rfl)
    · have h3 : ¬ oz_be fW k 4 ≤ i - k - 4 := fun z9 => h2 ((oz_cmp_le (by omega) (by omega)).mpr z9)
      refine lv_iconst (v := (-1)) hx hb dX2_stringOut_28 (by decide) ?_
      have hc : ¬ (k + 4 ≤ i ∧ oz_be fW k 4 ≤ i - k - 4) := by omega
      refine W.widen (k := 1) (n := 2048) (Nat.le_of_ble_eq_true rfl) (Nat.le_of_ble_eq_true rfl) ?_
      have ew : ([oz_oM h tx n wi i k la, oz_oI cI tx 256 fT, oz_oI cI wi 2048 fW, oz_oI cI la r fR] : va_W) = [oz_oM h tx n wi i (if k + 4 ≤ i ∧ oz_be fW k 4 ≤ i - k - 4 then k + 4 + oz_be fW k 4 else k) la, oz_oI cI tx 256 fT, oz_oI cI wi 2048 fW, oz_oI cI la (if k + 4 ≤ i ∧ oz_be fW k 4 ≤ i - k - 4 then oz_be fW k 4 else r) (if k + 4 ≤ i ∧ oz_be fW k 4 ≤ i - k - 4 then oz_sl fW (k + 4) (oz_be fW k 4) else fR)] := by simp only [if_neg hc]
      rw [ew] at hP hD
      exact W.iret (v := (-1)) hx hb hr (fun t9 ht hW => ⟨⟨_, la, rfl, (if_neg hc).symm, by rw [ht]; exact hP, va_K.moved hW.alike hK, hD⟩, hS.F ht⟩) hS.2.2 dX2_stringOut_29
  · refine lv_iconst (v := (-1)) hx hb dX2_stringOut_8 (by decide) ?_
    have hc : ¬ (k + 4 ≤ i ∧ oz_be fW k 4 ≤ i - k - 4) := by omega
    refine W.widen (k := 1) (n := 2048) (Nat.le_of_ble_eq_true rfl) (Nat.le_of_ble_eq_true rfl) ?_
    have ew : ([oz_oM h tx n wi i k la, oz_oI cI tx 256 fT, oz_oI cI wi 2048 fW, oz_oI cI la r fR] : va_W) = [oz_oM h tx n wi i (if k + 4 ≤ i ∧ oz_be fW k 4 ≤ i - k - 4 then k + 4 + oz_be fW k 4 else k) la, oz_oI cI tx 256 fT, oz_oI cI wi 2048 fW, oz_oI cI la (if k + 4 ≤ i ∧ oz_be fW k 4 ≤ i - k - 4 then oz_be fW k 4 else r) (if k + 4 ≤ i ∧ oz_be fW k 4 ≤ i - k - 4 then oz_sl fW (k + 4) (oz_be fW k 4) else fR)] := by simp only [if_neg hc]
    rw [ew] at hP hD
    exact W.iret (v := (-1)) hx hb hr (fun t9 ht hW => ⟨⟨_, la, rfl, (if_neg hc).symm, by rw [ht]; exact hP, va_K.moved hW.alike hK, hD⟩, hS.F ht⟩) hS.2.2 dX2_stringOut_9

/-- read: a byte of the last string -/
abbrev rm_X2_read : Room := ({ frames := 0, cells := 0, slots := 0, locals := 0 } : Room)
set_option maxHeartbeats 4000000 in
set_option maxRecDepth 100000 in
theorem mt_X2_read (l : Launch) (G : va_G) (cB cI : ClassId) (sz : Nat) (h tx wi la n r i k : Nat) (fT fW fR : Nat → oz_By) (v : Nat) (hn : n ≤ 256) (hr0 : r ≤ 2048) (hi : i ≤ 2048) (hk : k ≤ i) (hv : v < 2 ^ 32) : Met l yX2_read (ws_ yX2_read cX2_read 2 (some .int)) rm_X2_read (va_Pc [.ref h, .int (nI v)] (oz_pw G cB cI sz [oz_oM h tx n wi i k la, oz_oI cI tx 256 fT, oz_oI cI wi 2048 fW, oz_oI cI la r fR])) (va_Qi (fun (x9 : Int32) (_ : Unit) => x9 = (if r = 0 then (-1 : Int32) else nI (fR (v % 2147483648 % r)).toNat)) (fun (u : Unit) => oz_qw G cB cI (va_A [oz_oM h tx n wi i k la, oz_oI cI tx 256 fT, oz_oI cI wi 2048 fW, oz_oI cI la r fR] sz) [oz_oM h tx n wi i k la, oz_oI cI tx 256 fT, oz_oI cI wi 2048 fW, oz_oI cI la r fR]) (va_A [oz_oM h tx n wi i k la, oz_oI cI tx 256 fT, oz_oI cI wi 2048 fW, oz_oI cI la r fR] sz)) 0 0 (va_A [oz_oM h tx n wi i k la, oz_oI cI tx 256 fT, oz_oI cI wi 2048 fW, oz_oI cI la r fR] sz) := by
  refine Met.ofW (cc := cX2_read) (maxL := 2) (ret := (some .int)) (by decide) rfl ?_
  intro p e s m args below meth c s₁ B hml hv
  obtain ⟨rfl, hsz, hP, hK, hD0⟩ := hv
  have hx := B.exec
  have hb := B.bytes
  have hr := B.returns
  have hts := atoms_spec (ws := (ws_ yX2_read cX2_read 2 (some .int))) B.pre
  have hts : ∀ w ∈ lw_all, w.before _ s = true := fun w h => hts w (List.mem_cons_of_mem _ h)
  have hown : s.vm.findClass RX2 = some m.cls := findClass_of_methodNamed B.named
  have hlocks := B.notSynchronized
  subst hsz
  have hD := hD0.self (sz := s.heap.size)
  generalize hAe : va_A [oz_oM h tx n wi i k la, oz_oI cI tx 256 fT, oz_oI cI wi 2048 fW, oz_oI cI la r fR] s.heap.size = A at hD ⊢
  have hA : ∀ q9 : Nat, s.heap.size ≤ q9 → A q9 := fun q9 h => by rw [← hAe]; exact Or.inr h
  have hS : va_S A s.heap s.heap [] := va_S.rf
  have hP : va_P G vwCl [oz_oM h tx n wi i k la, oz_oI cI tx 256 fT, oz_oI cI wi 2048 fW, oz_oI cI la r fR] s.heap := hP
  have hl := lv_entry ([.ref h, .int (nI v)]) (n := 2) (Nat.le_of_ble_eq_true rfl)
  rw [lg_entry_eq]
  generalize (lg_sl ([.ref h, .int (nI v)]) ++ List.replicate (2 - (lg_sl ([.ref h, .int (nI v)])).length) Slot.unset).toArray = ls at hl ⊢
  have hl : lv_has ls 2 [(0, .ref h), (1, .int (nI v))] := hl
  refine lv_aload_n hx hb dX2_read_0 rfl (lv_at hl 0 rfl) ?_
  refine va_get (D := G) (ci := 2) (v := .ref la) (C := RX2) (T := TX2) (N := 6) hx hb hts in_X2 hown hK hP 0 rfl rfl 5 (by decide) (hts _ q244) (fun _ h9 => h9) rfl dX2_read_1 ?_
  refine va_alen (v := nI r) hx hb hK hP 3 1 rfl rfl rfl dX2_read_4 ?_
  refine oz_kj_ne0 hx hb (by omega) (tgt := 12) dX2_read_5 (by decide) (fun h1 => ?_) (fun h1 => ?_)
  · have h2 := Nat.mod_lt (v % 2147483648) h1
    refine lv_aload_n hx hb dX2_read_12 rfl (lv_at hl 0 rfl) ?_
    refine va_get (D := G) (ci := 2) (v := .ref la) (C := RX2) (T := TX2) (N := 6) hx hb hts in_X2 hown hK hP 0 rfl rfl 5 (by decide) (hts _ q244) (fun _ h9 => h9) rfl dX2_read_13 ?_
    refine lv_iload_n hx hb dX2_read_16 rfl (lv_at hl 1 rfl) ?_
    refine lv_ldc hx hb hown (hts _ q271) dX2_read_17 ?_
    refine lv_iand hx hb dX2_read_19 ?_
    refine oz_ktop (y := nI (v % 2147483648)) (oz_and_31 hv) ?_
    refine lv_aload_n hx hb dX2_read_20 rfl (lv_at hl 0 rfl) ?_
    refine va_get (D := G) (ci := 2) (v := .ref la) (C := RX2) (T := TX2) (N := 6) hx hb hts in_X2 hown hK hP 0 rfl rfl 5 (by decide) (hts _ q244) (fun _ h9 => h9) rfl dX2_read_21 ?_
    refine va_alen (v := nI r) hx hb hK hP 3 1 rfl rfl rfl dX2_read_24 ?_
    refine oz_krem hx hb (by omega) (h1) (by omega) dX2_read_25 ?_
    refine oz_ki_ld hx hb hK hP 3 rfl (h2) (by omega) dX2_read_26 ?_
    have hc : ¬ (r = 0) := by omega
    exact W.iret (v := nI ((fR ((v % 2147483648) % r)).toNat)) hx hb hr (fun t9 ht hW => ⟨⟨_, (), rfl, (if_neg hc).symm, by rw [ht]; exact hP, va_K.moved hW.alike hK, hD⟩, hS.F ht⟩) hS.2.2 dX2_read_27
  · refine lv_iconst (v := (-1)) hx hb dX2_read_8 (by decide) ?_
    refine lv_goto (tgt := 27) hx hb dX2_read_9 (by decide) ?_
    exact W.iret (v := (-1)) hx hb hr (fun t9 ht hW => ⟨⟨_, (), rfl, (if_pos h1).symm, by rw [ht]; exact hP, va_K.moved hW.alike hK, hD⟩, hS.F ht⟩) hS.2.2 dX2_read_27
end
section
/-! THE CLAIM OUT OF ONE WALK OF THE LAW'S BODY. Your part is whole_start (and what it stands on); all else here is the same for every law, but numbers. -/
def R_law : String := "WireBufferDeskLaw"
def lw_P (b : Addr) (xs : List Int32) (args : Array Value) (s : State) : Prop := args = #[.ref b] ∧ s.IntsAt b xs ∧ xs.length ≤ 288 ∧ (Jvm.Cond.and given_1 narrow_1).before args s = true
def lw_Q (_ : Array Value) (s : State) (o : Outcome) (t : State) : Prop := o = .returned (some (.int 1)) ∧ Framed s o t [] 1200000 5502250
def lw_Z (below : List Frame) (a : Array Value) (s : State) : State → Prop := fun t => ∃ o, t.status = .running ∧ Ended t below o ∧ lw_Q a s o t
/-- the law's own end, with 1 on the stack, nothing written that was there before, its room as the claim has it -/
theorem lw_ret {p : Program} {l : Launch} {e : Env} {s : State} {m : MethodId} {below : List Frame} {meth : Method} {c : Code} {b : Nat} (hx : p.tables.exec = Jvm.exec) (hb : c.code = code) (hr : meth.sig.returnType = ret) (hlocks : meth.locks = false) {pc : Nat} {H : Heap} {ls : Array Slot} (hdg : decode code pc = .ok (.ireturn, 1)) : W p l e room_1 s m #[Value.ref b] below meth c H [] 1200000 5502250 (lw_Z below #[Value.ref b] s) (F0 m pc ls [.int 1]) := by
  intro T hT X
  obtain ⟨fs, hret, hrun, hended, hW, hframe⟩ := X.leave (v := some (.int 1)) (hlocks := hlocks) (fun h => by rw [hr] at h; cases h)
  have hmeth' : T.vm.method? m = some meth := X.method'
  refine ⟨T.setFrames fs, ?_, .returned (some (.int 1)), hrun, hended, rfl, ⟨_, rfl⟩, hW, hframe⟩
  jvm_step X.here [X.here.top, hx, hb, hdg, hmeth', hr, ret, narrow_b1]
  (try refine ⟨rfl, ?_⟩); (try refine ⟨rfl, ?_⟩)
  first | (intro acts; rw [hret _ acts rfl rfl rfl]) | rw [hret _ _ rfl rfl rfl]
  exact Steps.refl _
/-- what holds at the law's entry: the machine, the code, the tables' words (any of lw_tbl by 'hts w (by decide +kernel)'), the script of L ints xs at the cell b, what the Statement gives of the start (any of its parts by flat_of_before) -/
def lw_At (p : Program) (s : State) (m : MethodId) (meth : Method) (c : Code) (b L : Nat) (xs : Nat → Int32) : Prop :=
  p.tables.exec = Jvm.exec ∧ c.code = code ∧ meth.sig.returnType = ret ∧ c.maxLocals = 4 ∧ s.vm.findClass R_law = some m.cls ∧ (∀ w ∈ lw_tbl, w.before #[Value.ref b] s = true) ∧ va_X b L xs s s.heap ∧ b < s.heap.size ∧ meth.locks = false ∧ (Jvm.Cond.and given_1 narrow_1).before #[Value.ref b] s = true
set_option maxRecDepth 100000

/-- the law stands at pc with j ints read, a desk and a model of one state -/
def oz_lawAt (p : Program) (l : Launch) (e : Env) (s : State) (m : MethodId) (below : List Frame) (meth : Method) (c : Code) (b hd hm : Nat) (G : va_G) (cB cI : ClassId) (Q : State → Prop) (pc cells slots j : Nat) : Prop :=
  ∀ (tx rd q t bf mx wi la n r i k : Nat) (fM fT fW fR : Nat → oz_By), n ≤ 256 → r ≤ 2048 → i ≤ 2048 → k ≤ i → ∀ (H : Heap) (locs : List Loc), va_P G vwCl [oz_oD hd tx n q rd, oz_oB cB tx 256 fT, oz_oB cB rd r fR, oz_oO q t bf i k, oz_oB cB t 4 fM, oz_oB cB bf 2048 fW, oz_oM hm mx n wi i k la, oz_oI cI mx 256 fT, oz_oI cI wi 2048 fW, oz_oI cI la r fR] H → va_D (fun q9 : Nat => s.heap.size ≤ q9) [oz_oD hd tx n q rd, oz_oB cB tx 256 fT, oz_oB cB rd r fR, oz_oO q t bf i k, oz_oB cB t 4 fM, oz_oB cB bf 2048 fW, oz_oM hm mx n wi i k la, oz_oI cI mx 256 fT, oz_oI cI wi 2048 fW, oz_oI cI la r fR] → va_S (fun q9 : Nat => s.heap.size ≤ q9) s.heap H locs → ∀ (ls : Array Slot), lv_has ls 4 [(3, .int (nI j)), (0, .ref b), (1, .ref hd), (2, .ref hm)] → W p l e room_1 s m #[Value.ref b] below meth c H locs cells slots Q (F0 m pc ls [])
theorem oz_k_arr {args : Array Value} {s : State} {ty : FieldType} (hty : ty = .byte ∨ ty = .int) (h : (Cond.arrayClass ty).before args s = true) : ∃ cA : ClassId, ArrOfT s cA ty ∧ va_RA s cA ty := by
  obtain ⟨cA, kA, comp, hf, hk, hkind⟩ := Cond.arrayClass_spec h
  refine ⟨cA, fun n z => ⟨fun k h => (by cases h), kA, hk, comp, hkind⟩, ?_⟩
  rcases hty with rfl | rfl <;> exact hf
theorem oz_ks_ld {p : Program} {l : Launch} {e : Env} {R : Room} {s : State} {m : MethodId} {args : Array Value} {below : List Frame} {meth : Method} {c : Code} {H : Heap} {locs : List Loc} {cells slots : Nat} {Q : State → Prop} {cc : ByteArray} {pc : Nat} {ls : Array Slot} {rest : List Value} {A : Nat → Prop} {H0 : Heap} (hx : p.tables.exec = Jvm.exec) (hb : c.code = cc) {b L k : Nat} {xs : Nat → Int32} {v : Int32} (hX : va_X b L xs s H0) (hbl : b < H0.size) (hbA : ¬ A b) (hS : va_S A H0 H locs) (hk : k < L) (hL : L < 2 ^ 31) (hv : xs k = v) (hdg : decode cc pc = .ok (.iaload, 1))
    (kk : W p l e R s m args below meth c H locs cells slots Q (F0 m (pc + 1) ls (.int v :: rest))) : W p l e R s m args below meth c H locs cells slots Q (F0 m pc ls (.int (nI k) :: .ref b :: rest)) := by
  refine va_sld hx hb hX hbl hbA hS (vp_in_nI hk hL) hdg ?_
  rw [nI_clamp (Nat.lt_trans hk hL), hv]
  exact kk

set_option maxHeartbeats 4000000 in
set_option maxRecDepth 100000 in
theorem oz_lc_put {p : Program} {e : Env} {s : State} {m : MethodId} {below : List Frame} {meth : Method} {c : Code} {l : Launch} {b L : Nat} {xs : Nat → Int32} {G : va_G} {cB cI : ClassId} {hd hm : Nat} {Q : State → Prop} (hx : p.tables.exec = Jvm.exec) (hb : c.code = cL_law) (hml : c.maxLocals = 4) (hown : s.vm.findClass R_law = some m.cls) (hts : ∀ w ∈ lw_all, w.before #[Value.ref b] s = true) (hX : va_X b L xs s s.heap) (hbl : b < s.heap.size) (hK : va_K G vwCl (oz_kts cB cI) s) {cells slots j : Nat} (hL : L ≤ 288) (hj : j + 6 ≤ L) (hcs : cells + 4 ≤ 1200000) (hss : slots + 4104 ≤ 5502250) (kk : oz_lawAt p l e s m below meth c b hd hm G cB cI Q 456 (cells + 4) (slots + 4104) j) : oz_lawAt p l e s m below meth c b hd hm G cB cI Q 112 cells slots j := by
  intro tx rd q t bf mx wi la n r i k fM fT fW fR hn hr0 hi hk H locs hP hD hS ls hl
  have hA : ∀ q9 : Nat, s.heap.size ≤ q9 → (fun q9 : Nat => s.heap.size ≤ q9) q9 := fun _ h => h
  have hbA : ¬ (fun q9 : Nat => s.heap.size ≤ q9) b := Nat.not_le.mpr hbl
  obtain ⟨v1, hv1, e1⟩ := wb_of32 (xs (j + 1))
  obtain ⟨v2, hv2, e2⟩ := wb_of32 (xs (j + 2))
  obtain ⟨v3, hv3, e3⟩ := wb_of32 (xs (j + 3))
  obtain ⟨v4, hv4, e4⟩ := wb_of32 (xs (j + 4))
  refine lv_aload_n hx hb dL_law_112 rfl (lv_at hl 2 rfl) ?_
  refine lv_aload_n hx hb dL_law_113 rfl (lv_at hl 1 rfl) ?_
  refine lv_iload_n hx hb dL_law_114 rfl (lv_at hl 0 rfl) ?_
  refine lv_iconst (v := nI 1) hx hb dL_law_115 (by decide) ?_
  refine oz_kadd hx hb dL_law_116 ?_
  refine oz_ks_ld hx hb hX hbl hbA hS (by omega) (by omega) e1 dL_law_117 ?_
  refine lv_aload_n hx hb dL_law_118 rfl (lv_at hl 1 rfl) ?_
  refine lv_iload_n hx hb dL_law_119 rfl (lv_at hl 0 rfl) ?_
  refine lv_iconst (v := nI 2) hx hb dL_law_120 (by decide) ?_
  refine oz_kadd hx hb dL_law_121 ?_
  refine oz_ks_ld hx hb hX hbl hbA hS (by omega) (by omega) e2 dL_law_122 ?_
  refine lv_aload_n hx hb dL_law_123 rfl (lv_at hl 1 rfl) ?_
  refine lv_iload_n hx hb dL_law_124 rfl (lv_at hl 0 rfl) ?_
  refine lv_iconst (v := nI 3) hx hb dL_law_125 (by decide) ?_
  refine oz_kadd hx hb dL_law_126 ?_
  refine oz_ks_ld hx hb hX hbl hbA hS (by omega) (by omega) e3 dL_law_127 ?_
  refine lv_aload_n hx hb dL_law_128 rfl (lv_at hl 1 rfl) ?_
  refine lv_iload_n hx hb dL_law_129 rfl (lv_at hl 0 rfl) ?_
  refine lv_iconst (v := nI 4) hx hb dL_law_130 (by decide) ?_
  refine oz_kadd hx hb dL_law_131 ?_
  refine oz_ks_ld hx hb hX hbl hbA hS (by omega) (by omega) e4 dL_law_132 ?_
  refine oz_kc_i (nA := 4) (As := [.int (nI v1), .int (nI v2), .int (nI v3), .int (nI v4)]) (rest := []) (wr := [oz_oM hm mx n wi i k la, oz_oI cI mx 256 fT, oz_oI cI wi 2048 fW, oz_oI cI la r fR]) (w3 := fun (u : Unit) => [oz_oM hm mx n wi i k la, oz_oI cI mx 256 fT, oz_oI cI wi 2048 fW, oz_oI cI la r fR, oz_oD hd tx (if n + 16 ≤ 256 then n + 16 else n) q rd, oz_oB cB tx 256 (if n + 16 ≤ 256 then oz_pb (oz_pb (oz_pb (oz_pb fT n 4 v1) (n + 4) 4 v2) (n + 8) 4 v3) (n + 12) 4 v4 else fT), oz_oB cB rd r fR, oz_oO q t bf i k, oz_oB cB t 4 fM, oz_oB cB bf 2048 fW]) (C := RX0) hx hb hml hown hts hK hP hD hS hA (mt_X0_put l G cB cI H.size hd tx rd q t bf n r i k fM fT fW fR v1 v2 v3 v4 hn hr0 hi hk) (lw_V q59 q60 q61 q12 q62) rfl rfl (by decide +kernel) rfl ⟨Nat.le_of_ble_eq_true rfl, Nat.le_of_ble_eq_true rfl⟩ [0, 1, 2, 3, 4, 5] [6, 7, 8, 9] rfl rfl rfl rfl (by decide) 0 rfl rfl rfl hl.1 (Nat.le_of_ble_eq_true rfl) dL_law_133 ⟨show _ ≤ 1200000 by omega, show _ ≤ 5502250 by omega⟩ (fun _ => rfl) (fun _ H locs hP hD hS => ?_)
  have hP : va_P G vwCl [oz_oM hm mx n wi i k la, oz_oI cI mx 256 fT, oz_oI cI wi 2048 fW, oz_oI cI la r fR, oz_oD hd tx (if n + 16 ≤ 256 then n + 16 else n) q rd, oz_oB cB tx 256 (if n + 16 ≤ 256 then oz_pb (oz_pb (oz_pb (oz_pb fT n 4 v1) (n + 4) 4 v2) (n + 8) 4 v3) (n + 12) 4 v4 else fT), oz_oB cB rd r fR, oz_oO q t bf i k, oz_oB cB t 4 fM, oz_oB cB bf 2048 fW] H := hP
  have hD : va_D (fun q9 : Nat => s.heap.size ≤ q9) [oz_oM hm mx n wi i k la, oz_oI cI mx 256 fT, oz_oI cI wi 2048 fW, oz_oI cI la r fR, oz_oD hd tx (if n + 16 ≤ 256 then n + 16 else n) q rd, oz_oB cB tx 256 (if n + 16 ≤ 256 then oz_pb (oz_pb (oz_pb (oz_pb fT n 4 v1) (n + 4) 4 v2) (n + 8) 4 v3) (n + 12) 4 v4 else fT), oz_oB cB rd r fR, oz_oO q t bf i k, oz_oB cB t 4 fM, oz_oB cB bf 2048 fW] := hD
  refine lv_aload_n hx hb dL_law_136 rfl (lv_at hl 3 rfl) ?_
  refine lv_aload_n hx hb dL_law_137 rfl (lv_at hl 1 rfl) ?_
  refine lv_iload_n hx hb dL_law_138 rfl (lv_at hl 0 rfl) ?_
  refine lv_iconst (v := nI 1) hx hb dL_law_139 (by decide) ?_
  refine oz_kadd hx hb dL_law_140 ?_
  refine oz_ks_ld hx hb hX hbl hbA hS (by omega) (by omega) e1 dL_law_141 ?_
  refine lv_aload_n hx hb dL_law_142 rfl (lv_at hl 1 rfl) ?_
  refine lv_iload_n hx hb dL_law_143 rfl (lv_at hl 0 rfl) ?_
  refine lv_iconst (v := nI 2) hx hb dL_law_144 (by decide) ?_
  refine oz_kadd hx hb dL_law_145 ?_
  refine oz_ks_ld hx hb hX hbl hbA hS (by omega) (by omega) e2 dL_law_146 ?_
  refine lv_aload_n hx hb dL_law_147 rfl (lv_at hl 1 rfl) ?_
  refine lv_iload_n hx hb dL_law_148 rfl (lv_at hl 0 rfl) ?_
  refine lv_iconst (v := nI 3) hx hb dL_law_149 (by decide) ?_
  refine oz_kadd hx hb dL_law_150 ?_
  refine oz_ks_ld hx hb hX hbl hbA hS (by omega) (by omega) e3 dL_law_151 ?_
  refine lv_aload_n hx hb dL_law_152 rfl (lv_at hl 1 rfl) ?_
  refine lv_iload_n hx hb dL_law_153 rfl (lv_at hl 0 rfl) ?_
  refine lv_iconst (v := nI 4) hx hb dL_law_154 (by decide) ?_
  refine oz_kadd hx hb dL_law_155 ?_
  refine oz_ks_ld hx hb hX hbl hbA hS (by omega) (by omega) e4 dL_law_156 ?_
  refine oz_kc_i (nA := 4) (As := [.int (nI v1), .int (nI v2), .int (nI v3), .int (nI v4)]) (rest := [.int ((if n + 16 ≤ 256 then (1 : Int32) else 0))]) (wr := [oz_oD hd tx (if n + 16 ≤ 256 then n + 16 else n) q rd, oz_oB cB tx 256 (if n + 16 ≤ 256 then oz_pb (oz_pb (oz_pb (oz_pb fT n 4 v1) (n + 4) 4 v2) (n + 8) 4 v3) (n + 12) 4 v4 else fT), oz_oB cB rd r fR, oz_oO q t bf i k, oz_oB cB t 4 fM, oz_oB cB bf 2048 fW]) (w3 := fun (u : Unit) => [oz_oD hd tx (if n + 16 ≤ 256 then n + 16 else n) q rd, oz_oB cB tx 256 (if n + 16 ≤ 256 then oz_pb (oz_pb (oz_pb (oz_pb fT n 4 v1) (n + 4) 4 v2) (n + 8) 4 v3) (n + 12) 4 v4 else fT), oz_oB cB rd r fR, oz_oO q t bf i k, oz_oB cB t 4 fM, oz_oB cB bf 2048 fW, oz_oM hm mx (if n + 16 ≤ 256 then n + 16 else n) wi i k la, oz_oI cI mx 256 (if n + 16 ≤ 256 then oz_pb (oz_pb (oz_pb (oz_pb fT n 4 v1) (n + 4) 4 v2) (n + 8) 4 v3) (n + 12) 4 v4 else fT), oz_oI cI wi 2048 fW, oz_oI cI la r fR]) (C := RX2) hx hb hml hown hts hK hP hD hS hA (mt_X2_put l G cB cI H.size hm mx wi la n r i k fT fW fR v1 v2 v3 v4 hn hr0 hi hk hv1 hv2 hv3 hv4) (lw_V q259 q260 q261 q14 q262) rfl rfl (by decide +kernel) rfl ⟨Nat.le_of_ble_eq_true rfl, Nat.le_of_ble_eq_true rfl⟩ [0, 1, 2, 3] [4, 5, 6, 7, 8, 9] rfl rfl rfl rfl (by decide) 0 rfl rfl rfl hl.1 (Nat.le_of_ble_eq_true rfl) dL_law_157 ⟨show _ ≤ 1200000 by omega, show _ ≤ 5502250 by omega⟩ (fun _ => rfl) (fun _ H locs hP hD hS => ?_)
  have hP : va_P G vwCl [oz_oD hd tx (if n + 16 ≤ 256 then n + 16 else n) q rd, oz_oB cB tx 256 (if n + 16 ≤ 256 then oz_pb (oz_pb (oz_pb (oz_pb fT n 4 v1) (n + 4) 4 v2) (n + 8) 4 v3) (n + 12) 4 v4 else fT), oz_oB cB rd r fR, oz_oO q t bf i k, oz_oB cB t 4 fM, oz_oB cB bf 2048 fW, oz_oM hm mx (if n + 16 ≤ 256 then n + 16 else n) wi i k la, oz_oI cI mx 256 (if n + 16 ≤ 256 then oz_pb (oz_pb (oz_pb (oz_pb fT n 4 v1) (n + 4) 4 v2) (n + 8) 4 v3) (n + 12) 4 v4 else fT), oz_oI cI wi 2048 fW, oz_oI cI la r fR] H := hP
  have hD : va_D (fun q9 : Nat => s.heap.size ≤ q9) [oz_oD hd tx (if n + 16 ≤ 256 then n + 16 else n) q rd, oz_oB cB tx 256 (if n + 16 ≤ 256 then oz_pb (oz_pb (oz_pb (oz_pb fT n 4 v1) (n + 4) 4 v2) (n + 8) 4 v3) (n + 12) 4 v4 else fT), oz_oB cB rd r fR, oz_oO q t bf i k, oz_oB cB t 4 fM, oz_oB cB bf 2048 fW, oz_oM hm mx (if n + 16 ≤ 256 then n + 16 else n) wi i k la, oz_oI cI mx 256 (if n + 16 ≤ 256 then oz_pb (oz_pb (oz_pb (oz_pb fT n 4 v1) (n + 4) 4 v2) (n + 8) 4 v3) (n + 12) 4 v4 else fT), oz_oI cI wi 2048 fW, oz_oI cI la r fR] := hD
  refine lv_icmp_eq (tgt := 456) hx hb dL_law_160 (by decide) (fun _ => ?_) (fun z9 => absurd rfl z9)
  refine W.widen (k := cells + 4) (n := slots + 4104) (by omega) (by omega) ?_
  exact kk tx rd q t bf mx wi la (if n + 16 ≤ 256 then n + 16 else n) r i k fM (if n + 16 ≤ 256 then oz_pb (oz_pb (oz_pb (oz_pb fT n 4 v1) (n + 4) 4 v2) (n + 8) 4 v3) (n + 12) 4 v4 else fT) fW fR (by (repeat' split) <;> omega) (hr0) (hi) (hk) _ _ hP hD hS ls hl

set_option maxHeartbeats 4000000 in
set_option maxRecDepth 100000 in
theorem oz_lc_trim {p : Program} {e : Env} {s : State} {m : MethodId} {below : List Frame} {meth : Method} {c : Code} {l : Launch} {b L : Nat} {xs : Nat → Int32} {G : va_G} {cB cI : ClassId} {hd hm : Nat} {Q : State → Prop} (hx : p.tables.exec = Jvm.exec) (hb : c.code = cL_law) (hml : c.maxLocals = 4) (hown : s.vm.findClass R_law = some m.cls) (hts : ∀ w ∈ lw_all, w.before #[Value.ref b] s = true) (hX : va_X b L xs s s.heap) (hbl : b < s.heap.size) (hK : va_K G vwCl (oz_kts cB cI) s) {cells slots j : Nat} (hL : L ≤ 288) (hj : j + 6 ≤ L) (hcs : cells + 4 ≤ 1200000) (hss : slots + 4104 ≤ 5502250) (kk : oz_lawAt p l e s m below meth c b hd hm G cB cI Q 456 (cells + 4) (slots + 4104) j) : oz_lawAt p l e s m below meth c b hd hm G cB cI Q 165 cells slots j := by
  intro tx rd q t bf mx wi la n r i k fM fT fW fR hn hr0 hi hk H locs hP hD hS ls hl
  have hA : ∀ q9 : Nat, s.heap.size ≤ q9 → (fun q9 : Nat => s.heap.size ≤ q9) q9 := fun _ h => h
  have hbA : ¬ (fun q9 : Nat => s.heap.size ≤ q9) b := Nat.not_le.mpr hbl
  obtain ⟨v1, hv1, e1⟩ := wb_of32 (xs (j + 1))
  refine lv_aload_n hx hb dL_law_165 rfl (lv_at hl 2 rfl) ?_
  refine lv_aload_n hx hb dL_law_166 rfl (lv_at hl 1 rfl) ?_
  refine lv_iload_n hx hb dL_law_167 rfl (lv_at hl 0 rfl) ?_
  refine lv_iconst (v := nI 1) hx hb dL_law_168 (by decide) ?_
  refine oz_kadd hx hb dL_law_169 ?_
  refine oz_ks_ld hx hb hX hbl hbA hS (by omega) (by omega) e1 dL_law_170 ?_
  refine oz_kc_v (nA := 1) (As := [.int (nI v1)]) (rest := []) (wr := [oz_oM hm mx n wi i k la, oz_oI cI mx 256 fT, oz_oI cI wi 2048 fW, oz_oI cI la r fR]) (w3 := fun (u : Unit) => [oz_oM hm mx n wi i k la, oz_oI cI mx 256 fT, oz_oI cI wi 2048 fW, oz_oI cI la r fR, oz_oD hd tx (oz_fr v1 n) q rd, oz_oB cB tx 256 fT, oz_oB cB rd r fR, oz_oO q t bf i k, oz_oB cB t 4 fM, oz_oB cB bf 2048 fW]) (C := RX0) hx hb hml hown hts hK hP hD hS hA (mt_X0_trim l G cB cI H.size hd tx rd q t bf n r i k fM fT fW fR v1 hn hr0 hi hk hv1) (lw_V q66 q67 q68 q12 q69) rfl rfl (by decide +kernel) rfl ⟨Nat.le_of_ble_eq_true rfl, Nat.le_of_ble_eq_true rfl⟩ [0, 1, 2, 3, 4, 5] [6, 7, 8, 9] rfl rfl rfl rfl (by decide) 0 rfl rfl rfl hl.1 (Nat.le_of_ble_eq_true rfl) dL_law_171 ⟨show _ ≤ 1200000 by omega, show _ ≤ 5502250 by omega⟩ (fun _ => rfl) (fun _ H locs hP hD hS => ?_)
  have hP : va_P G vwCl [oz_oM hm mx n wi i k la, oz_oI cI mx 256 fT, oz_oI cI wi 2048 fW, oz_oI cI la r fR, oz_oD hd tx (oz_fr v1 n) q rd, oz_oB cB tx 256 fT, oz_oB cB rd r fR, oz_oO q t bf i k, oz_oB cB t 4 fM, oz_oB cB bf 2048 fW] H := hP
  have hD : va_D (fun q9 : Nat => s.heap.size ≤ q9) [oz_oM hm mx n wi i k la, oz_oI cI mx 256 fT, oz_oI cI wi 2048 fW, oz_oI cI la r fR, oz_oD hd tx (oz_fr v1 n) q rd, oz_oB cB tx 256 fT, oz_oB cB rd r fR, oz_oO q t bf i k, oz_oB cB t 4 fM, oz_oB cB bf 2048 fW] := hD
  refine lv_aload_n hx hb dL_law_174 rfl (lv_at hl 3 rfl) ?_
  refine lv_aload_n hx hb dL_law_175 rfl (lv_at hl 1 rfl) ?_
  refine lv_iload_n hx hb dL_law_176 rfl (lv_at hl 0 rfl) ?_
  refine lv_iconst (v := nI 1) hx hb dL_law_177 (by decide) ?_
  refine oz_kadd hx hb dL_law_178 ?_
  refine oz_ks_ld hx hb hX hbl hbA hS (by omega) (by omega) e1 dL_law_179 ?_
  refine oz_kc_v (nA := 1) (As := [.int (nI v1)]) (rest := []) (wr := [oz_oD hd tx (oz_fr v1 n) q rd, oz_oB cB tx 256 fT, oz_oB cB rd r fR, oz_oO q t bf i k, oz_oB cB t 4 fM, oz_oB cB bf 2048 fW]) (w3 := fun (u : Unit) => [oz_oD hd tx (oz_fr v1 n) q rd, oz_oB cB tx 256 fT, oz_oB cB rd r fR, oz_oO q t bf i k, oz_oB cB t 4 fM, oz_oB cB bf 2048 fW, oz_oM hm mx (oz_fr v1 n) wi i k la, oz_oI cI mx 256 fT, oz_oI cI wi 2048 fW, oz_oI cI la r fR]) (C := RX2) hx hb hml hown hts hK hP hD hS hA (mt_X2_trim l G cB cI H.size hm mx wi la n r i k fT fW fR v1 hn hr0 hi hk hv1) (lw_V q263 q264 q265 q14 q266) rfl rfl (by decide +kernel) rfl ⟨Nat.le_of_ble_eq_true rfl, Nat.le_of_ble_eq_true rfl⟩ [0, 1, 2, 3] [4, 5, 6, 7, 8, 9] rfl rfl rfl rfl (by decide) 0 rfl rfl rfl hl.1 (Nat.le_of_ble_eq_true rfl) dL_law_180 ⟨show _ ≤ 1200000 by omega, show _ ≤ 5502250 by omega⟩ (fun _ => rfl) (fun _ H locs hP hD hS => ?_)
  have hP : va_P G vwCl [oz_oD hd tx (oz_fr v1 n) q rd, oz_oB cB tx 256 fT, oz_oB cB rd r fR, oz_oO q t bf i k, oz_oB cB t 4 fM, oz_oB cB bf 2048 fW, oz_oM hm mx (oz_fr v1 n) wi i k la, oz_oI cI mx 256 fT, oz_oI cI wi 2048 fW, oz_oI cI la r fR] H := hP
  have hD : va_D (fun q9 : Nat => s.heap.size ≤ q9) [oz_oD hd tx (oz_fr v1 n) q rd, oz_oB cB tx 256 fT, oz_oB cB rd r fR, oz_oO q t bf i k, oz_oB cB t 4 fM, oz_oB cB bf 2048 fW, oz_oM hm mx (oz_fr v1 n) wi i k la, oz_oI cI mx 256 fT, oz_oI cI wi 2048 fW, oz_oI cI la r fR] := hD
  refine lv_goto (tgt := 456) hx hb dL_law_183 (by decide) ?_
  refine W.widen (k := cells + 4) (n := slots + 4104) (by omega) (by omega) ?_
  exact kk tx rd q t bf mx wi la (oz_fr v1 n) r i k fM fT fW fR (Nat.le_trans (oz_fr_le v1 n) hn) (hr0) (hi) (hk) _ _ hP hD hS ls hl

set_option maxHeartbeats 4000000 in
set_option maxRecDepth 100000 in
theorem oz_lc_byteIn {p : Program} {e : Env} {s : State} {m : MethodId} {below : List Frame} {meth : Method} {c : Code} {l : Launch} {b L : Nat} {xs : Nat → Int32} {G : va_G} {cB cI : ClassId} {hd hm : Nat} {Q : State → Prop} (hx : p.tables.exec = Jvm.exec) (hb : c.code = cL_law) (hml : c.maxLocals = 4) (hown : s.vm.findClass R_law = some m.cls) (hts : ∀ w ∈ lw_all, w.before #[Value.ref b] s = true) (hX : va_X b L xs s s.heap) (hbl : b < s.heap.size) (hK : va_K G vwCl (oz_kts cB cI) s) {cells slots j : Nat} (hL : L ≤ 288) (hj : j + 6 ≤ L) (hcs : cells + 4 ≤ 1200000) (hss : slots + 4104 ≤ 5502250) (kk : oz_lawAt p l e s m below meth c b hd hm G cB cI Q 456 (cells + 4) (slots + 4104) j) : oz_lawAt p l e s m below meth c b hd hm G cB cI Q 186 cells slots j := by
  intro tx rd q t bf mx wi la n r i k fM fT fW fR hn hr0 hi hk H locs hP hD hS ls hl
  have hA : ∀ q9 : Nat, s.heap.size ≤ q9 → (fun q9 : Nat => s.heap.size ≤ q9) q9 := fun _ h => h
  have hbA : ¬ (fun q9 : Nat => s.heap.size ≤ q9) b := Nat.not_le.mpr hbl
  obtain ⟨v1, hv1, e1⟩ := wb_of32 (xs (j + 1))
  refine lv_aload_n hx hb dL_law_186 rfl (lv_at hl 2 rfl) ?_
  refine lv_aload_n hx hb dL_law_187 rfl (lv_at hl 1 rfl) ?_
  refine lv_iload_n hx hb dL_law_188 rfl (lv_at hl 0 rfl) ?_
  refine lv_iconst (v := nI 1) hx hb dL_law_189 (by decide) ?_
  refine oz_kadd hx hb dL_law_190 ?_
  refine oz_ks_ld hx hb hX hbl hbA hS (by omega) (by omega) e1 dL_law_191 ?_
  refine oz_kc_i (nA := 1) (As := [.int (nI v1)]) (rest := []) (wr := [oz_oM hm mx n wi i k la, oz_oI cI mx 256 fT, oz_oI cI wi 2048 fW, oz_oI cI la r fR]) (w3 := fun (u : Unit) => [oz_oM hm mx n wi i k la, oz_oI cI mx 256 fT, oz_oI cI wi 2048 fW, oz_oI cI la r fR, oz_oD hd tx n q rd, oz_oB cB tx 256 fT, oz_oB cB rd r fR, oz_oO q t bf (if i < 1600 then i + 1 else i) k, oz_oB cB t 4 fM, oz_oB cB bf 2048 (if i < 1600 then oz_un fW i (oz_bN v1) else fW)]) (C := RX0) hx hb hml hown hts hK hP hD hS hA (mt_X0_byteIn l G cB cI H.size hd tx rd q t bf n r i k fM fT fW fR v1 hn hr0 hi hk) (lw_V q75 q76 q77 q12 q78) rfl rfl (by decide +kernel) rfl ⟨Nat.le_of_ble_eq_true rfl, Nat.le_of_ble_eq_true rfl⟩ [0, 1, 2, 3, 4, 5] [6, 7, 8, 9] rfl rfl rfl rfl (by decide) 0 rfl rfl rfl hl.1 (Nat.le_of_ble_eq_true rfl) dL_law_192 ⟨show _ ≤ 1200000 by omega, show _ ≤ 5502250 by omega⟩ (fun _ => rfl) (fun _ H locs hP hD hS => ?_)
  have hP : va_P G vwCl [oz_oM hm mx n wi i k la, oz_oI cI mx 256 fT, oz_oI cI wi 2048 fW, oz_oI cI la r fR, oz_oD hd tx n q rd, oz_oB cB tx 256 fT, oz_oB cB rd r fR, oz_oO q t bf (if i < 1600 then i + 1 else i) k, oz_oB cB t 4 fM, oz_oB cB bf 2048 (if i < 1600 then oz_un fW i (oz_bN v1) else fW)] H := hP
  have hD : va_D (fun q9 : Nat => s.heap.size ≤ q9) [oz_oM hm mx n wi i k la, oz_oI cI mx 256 fT, oz_oI cI wi 2048 fW, oz_oI cI la r fR, oz_oD hd tx n q rd, oz_oB cB tx 256 fT, oz_oB cB rd r fR, oz_oO q t bf (if i < 1600 then i + 1 else i) k, oz_oB cB t 4 fM, oz_oB cB bf 2048 (if i < 1600 then oz_un fW i (oz_bN v1) else fW)] := hD
  refine lv_aload_n hx hb dL_law_195 rfl (lv_at hl 3 rfl) ?_
  refine lv_aload_n hx hb dL_law_196 rfl (lv_at hl 1 rfl) ?_
  refine lv_iload_n hx hb dL_law_197 rfl (lv_at hl 0 rfl) ?_
  refine lv_iconst (v := nI 1) hx hb dL_law_198 (by decide) ?_
  refine oz_kadd hx hb dL_law_199 ?_
  refine oz_ks_ld hx hb hX hbl hbA hS (by omega) (by omega) e1 dL_law_200 ?_
  refine oz_kc_i (nA := 1) (As := [.int (nI v1)]) (rest := [.int ((if i < 1600 then (1 : Int32) else 0))]) (wr := [oz_oD hd tx n q rd, oz_oB cB tx 256 fT, oz_oB cB rd r fR, oz_oO q t bf (if i < 1600 then i + 1 else i) k, oz_oB cB t 4 fM, oz_oB cB bf 2048 (if i < 1600 then oz_un fW i (oz_bN v1) else fW)]) (w3 := fun (u : Unit) => [oz_oD hd tx n q rd, oz_oB cB tx 256 fT, oz_oB cB rd r fR, oz_oO q t bf (if i < 1600 then i + 1 else i) k, oz_oB cB t 4 fM, oz_oB cB bf 2048 (if i < 1600 then oz_un fW i (oz_bN v1) else fW), oz_oM hm mx n wi (if i < 1600 then i + 1 else i) k la, oz_oI cI mx 256 fT, oz_oI cI wi 2048 (if i < 1600 then oz_un fW i (oz_bN v1) else fW), oz_oI cI la r fR]) (C := RX2) hx hb hml hown hts hK hP hD hS hA (mt_X2_byteIn l G cB cI H.size hm mx wi la n r i k fT fW fR v1 hn hr0 hi hk hv1) (lw_V q272 q273 q274 q14 q275) rfl rfl (by decide +kernel) rfl ⟨Nat.le_of_ble_eq_true rfl, Nat.le_of_ble_eq_true rfl⟩ [0, 1, 2, 3] [4, 5, 6, 7, 8, 9] rfl rfl rfl rfl (by decide) 0 rfl rfl rfl hl.1 (Nat.le_of_ble_eq_true rfl) dL_law_201 ⟨show _ ≤ 1200000 by omega, show _ ≤ 5502250 by omega⟩ (fun _ => rfl) (fun _ H locs hP hD hS => ?_)
  have hP : va_P G vwCl [oz_oD hd tx n q rd, oz_oB cB tx 256 fT, oz_oB cB rd r fR, oz_oO q t bf (if i < 1600 then i + 1 else i) k, oz_oB cB t 4 fM, oz_oB cB bf 2048 (if i < 1600 then oz_un fW i (oz_bN v1) else fW), oz_oM hm mx n wi (if i < 1600 then i + 1 else i) k la, oz_oI cI mx 256 fT, oz_oI cI wi 2048 (if i < 1600 then oz_un fW i (oz_bN v1) else fW), oz_oI cI la r fR] H := hP
  have hD : va_D (fun q9 : Nat => s.heap.size ≤ q9) [oz_oD hd tx n q rd, oz_oB cB tx 256 fT, oz_oB cB rd r fR, oz_oO q t bf (if i < 1600 then i + 1 else i) k, oz_oB cB t 4 fM, oz_oB cB bf 2048 (if i < 1600 then oz_un fW i (oz_bN v1) else fW), oz_oM hm mx n wi (if i < 1600 then i + 1 else i) k la, oz_oI cI mx 256 fT, oz_oI cI wi 2048 (if i < 1600 then oz_un fW i (oz_bN v1) else fW), oz_oI cI la r fR] := hD
  refine lv_icmp_eq (tgt := 456) hx hb dL_law_204 (by decide) (fun _ => ?_) (fun z9 => absurd rfl z9)
  refine W.widen (k := cells + 4) (n := slots + 4104) (by omega) (by omega) ?_
  exact kk tx rd q t bf mx wi la n r (if i < 1600 then i + 1 else i) k fM fT (if i < 1600 then oz_un fW i (oz_bN v1) else fW) fR (hn) (hr0) (by (repeat' split) <;> omega) (by (repeat' split) <;> omega) _ _ hP hD hS ls hl

set_option maxHeartbeats 4000000 in
set_option maxRecDepth 100000 in
theorem oz_lc_intIn {p : Program} {e : Env} {s : State} {m : MethodId} {below : List Frame} {meth : Method} {c : Code} {l : Launch} {b L : Nat} {xs : Nat → Int32} {G : va_G} {cB cI : ClassId} {hd hm : Nat} {Q : State → Prop} (hx : p.tables.exec = Jvm.exec) (hb : c.code = cL_law) (hml : c.maxLocals = 4) (hown : s.vm.findClass R_law = some m.cls) (hts : ∀ w ∈ lw_all, w.before #[Value.ref b] s = true) (hX : va_X b L xs s s.heap) (hbl : b < s.heap.size) (hK : va_K G vwCl (oz_kts cB cI) s) {cells slots j : Nat} (hL : L ≤ 288) (hj : j + 6 ≤ L) (hcs : cells + 4 ≤ 1200000) (hss : slots + 4104 ≤ 5502250) (kk : oz_lawAt p l e s m below meth c b hd hm G cB cI Q 456 (cells + 4) (slots + 4104) j) : oz_lawAt p l e s m below meth c b hd hm G cB cI Q 209 cells slots j := by
  intro tx rd q t bf mx wi la n r i k fM fT fW fR hn hr0 hi hk H locs hP hD hS ls hl
  have hA : ∀ q9 : Nat, s.heap.size ≤ q9 → (fun q9 : Nat => s.heap.size ≤ q9) q9 := fun _ h => h
  have hbA : ¬ (fun q9 : Nat => s.heap.size ≤ q9) b := Nat.not_le.mpr hbl
  obtain ⟨v1, hv1, e1⟩ := wb_of32 (xs (j + 1))
  refine lv_aload_n hx hb dL_law_209 rfl (lv_at hl 2 rfl) ?_
  refine lv_aload_n hx hb dL_law_210 rfl (lv_at hl 1 rfl) ?_
  refine lv_iload_n hx hb dL_law_211 rfl (lv_at hl 0 rfl) ?_
  refine lv_iconst (v := nI 1) hx hb dL_law_212 (by decide) ?_
  refine oz_kadd hx hb dL_law_213 ?_
  refine oz_ks_ld hx hb hX hbl hbA hS (by omega) (by omega) e1 dL_law_214 ?_
  refine oz_kc_i (nA := 1) (As := [.int (nI v1)]) (rest := []) (wr := [oz_oM hm mx n wi i k la, oz_oI cI mx 256 fT, oz_oI cI wi 2048 fW, oz_oI cI la r fR]) (w3 := fun (u : (Nat → oz_By)) => [oz_oM hm mx n wi i k la, oz_oI cI mx 256 fT, oz_oI cI wi 2048 fW, oz_oI cI la r fR, oz_oD hd tx n q rd, oz_oB cB tx 256 fT, oz_oB cB rd r fR, oz_oO q t bf (if i < 1600 then i + 4 else i) k, oz_oB cB t 4 u, oz_oB cB bf 2048 (if i < 1600 then oz_pb fW i 4 v1 else fW)]) (C := RX0) hx hb hml hown hts hK hP hD hS hA (mt_X0_intIn l G cB cI H.size hd tx rd q t bf n r i k fM fT fW fR v1 hn hr0 hi hk hv1) (lw_V q83 q84 q85 q12 q86) rfl rfl (by decide +kernel) rfl ⟨Nat.le_of_ble_eq_true rfl, Nat.le_of_ble_eq_true rfl⟩ [0, 1, 2, 3, 4, 5] [6, 7, 8, 9] rfl rfl rfl rfl (by decide) 0 rfl rfl rfl hl.1 (Nat.le_of_ble_eq_true rfl) dL_law_215 ⟨show _ ≤ 1200000 by omega, show _ ≤ 5502250 by omega⟩ (fun _ => rfl) (fun fM2 H locs hP hD hS => ?_)
  have hP : va_P G vwCl [oz_oM hm mx n wi i k la, oz_oI cI mx 256 fT, oz_oI cI wi 2048 fW, oz_oI cI la r fR, oz_oD hd tx n q rd, oz_oB cB tx 256 fT, oz_oB cB rd r fR, oz_oO q t bf (if i < 1600 then i + 4 else i) k, oz_oB cB t 4 fM2, oz_oB cB bf 2048 (if i < 1600 then oz_pb fW i 4 v1 else fW)] H := hP
  have hD : va_D (fun q9 : Nat => s.heap.size ≤ q9) [oz_oM hm mx n wi i k la, oz_oI cI mx 256 fT, oz_oI cI wi 2048 fW, oz_oI cI la r fR, oz_oD hd tx n q rd, oz_oB cB tx 256 fT, oz_oB cB rd r fR, oz_oO q t bf (if i < 1600 then i + 4 else i) k, oz_oB cB t 4 fM2, oz_oB cB bf 2048 (if i < 1600 then oz_pb fW i 4 v1 else fW)] := hD
  refine lv_aload_n hx hb dL_law_218 rfl (lv_at hl 3 rfl) ?_
  refine lv_aload_n hx hb dL_law_219 rfl (lv_at hl 1 rfl) ?_
  refine lv_iload_n hx hb dL_law_220 rfl (lv_at hl 0 rfl) ?_
  refine lv_iconst (v := nI 1) hx hb dL_law_221 (by decide) ?_
  refine oz_kadd hx hb dL_law_222 ?_
  refine oz_ks_ld hx hb hX hbl hbA hS (by omega) (by omega) e1 dL_law_223 ?_
  refine oz_kc_i (nA := 1) (As := [.int (nI v1)]) (rest := [.int ((if i < 1600 then (1 : Int32) else 0))]) (wr := [oz_oD hd tx n q rd, oz_oB cB tx 256 fT, oz_oB cB rd r fR, oz_oO q t bf (if i < 1600 then i + 4 else i) k, oz_oB cB t 4 fM2, oz_oB cB bf 2048 (if i < 1600 then oz_pb fW i 4 v1 else fW)]) (w3 := fun (u : Unit) => [oz_oD hd tx n q rd, oz_oB cB tx 256 fT, oz_oB cB rd r fR, oz_oO q t bf (if i < 1600 then i + 4 else i) k, oz_oB cB t 4 fM2, oz_oB cB bf 2048 (if i < 1600 then oz_pb fW i 4 v1 else fW), oz_oM hm mx n wi (if i < 1600 then i + 4 else i) k la, oz_oI cI mx 256 fT, oz_oI cI wi 2048 (if i < 1600 then oz_pb fW i 4 v1 else fW), oz_oI cI la r fR]) (C := RX2) hx hb hml hown hts hK hP hD hS hA (mt_X2_intIn l G cB cI H.size hm mx wi la n r i k fT fW fR v1 hn hr0 hi hk hv1) (lw_V q285 q286 q287 q14 q288) rfl rfl (by decide +kernel) rfl ⟨Nat.le_of_ble_eq_true rfl, Nat.le_of_ble_eq_true rfl⟩ [0, 1, 2, 3] [4, 5, 6, 7, 8, 9] rfl rfl rfl rfl (by decide) 0 rfl rfl rfl hl.1 (Nat.le_of_ble_eq_true rfl) dL_law_224 ⟨show _ ≤ 1200000 by omega, show _ ≤ 5502250 by omega⟩ (fun _ => rfl) (fun _ H locs hP hD hS => ?_)
  have hP : va_P G vwCl [oz_oD hd tx n q rd, oz_oB cB tx 256 fT, oz_oB cB rd r fR, oz_oO q t bf (if i < 1600 then i + 4 else i) k, oz_oB cB t 4 fM2, oz_oB cB bf 2048 (if i < 1600 then oz_pb fW i 4 v1 else fW), oz_oM hm mx n wi (if i < 1600 then i + 4 else i) k la, oz_oI cI mx 256 fT, oz_oI cI wi 2048 (if i < 1600 then oz_pb fW i 4 v1 else fW), oz_oI cI la r fR] H := hP
  have hD : va_D (fun q9 : Nat => s.heap.size ≤ q9) [oz_oD hd tx n q rd, oz_oB cB tx 256 fT, oz_oB cB rd r fR, oz_oO q t bf (if i < 1600 then i + 4 else i) k, oz_oB cB t 4 fM2, oz_oB cB bf 2048 (if i < 1600 then oz_pb fW i 4 v1 else fW), oz_oM hm mx n wi (if i < 1600 then i + 4 else i) k la, oz_oI cI mx 256 fT, oz_oI cI wi 2048 (if i < 1600 then oz_pb fW i 4 v1 else fW), oz_oI cI la r fR] := hD
  refine lv_icmp_eq (tgt := 456) hx hb dL_law_227 (by decide) (fun _ => ?_) (fun z9 => absurd rfl z9)
  refine W.widen (k := cells + 4) (n := slots + 4104) (by omega) (by omega) ?_
  exact kk tx rd q t bf mx wi la n r (if i < 1600 then i + 4 else i) k fM2 fT (if i < 1600 then oz_pb fW i 4 v1 else fW) fR (hn) (hr0) (by (repeat' split) <;> omega) (by (repeat' split) <;> omega) _ _ hP hD hS ls hl

set_option maxHeartbeats 4000000 in
set_option maxRecDepth 100000 in
theorem oz_lc_longIn {p : Program} {e : Env} {s : State} {m : MethodId} {below : List Frame} {meth : Method} {c : Code} {l : Launch} {b L : Nat} {xs : Nat → Int32} {G : va_G} {cB cI : ClassId} {hd hm : Nat} {Q : State → Prop} (hx : p.tables.exec = Jvm.exec) (hb : c.code = cL_law) (hml : c.maxLocals = 4) (hown : s.vm.findClass R_law = some m.cls) (hts : ∀ w ∈ lw_all, w.before #[Value.ref b] s = true) (hX : va_X b L xs s s.heap) (hbl : b < s.heap.size) (hK : va_K G vwCl (oz_kts cB cI) s) {cells slots j : Nat} (hL : L ≤ 288) (hj : j + 6 ≤ L) (hcs : cells + 4 ≤ 1200000) (hss : slots + 4104 ≤ 5502250) (kk : oz_lawAt p l e s m below meth c b hd hm G cB cI Q 456 (cells + 4) (slots + 4104) j) : oz_lawAt p l e s m below meth c b hd hm G cB cI Q 232 cells slots j := by
  intro tx rd q t bf mx wi la n r i k fM fT fW fR hn hr0 hi hk H locs hP hD hS ls hl
  have hA : ∀ q9 : Nat, s.heap.size ≤ q9 → (fun q9 : Nat => s.heap.size ≤ q9) q9 := fun _ h => h
  have hbA : ¬ (fun q9 : Nat => s.heap.size ≤ q9) b := Nat.not_le.mpr hbl
  obtain ⟨v1, hv1, e1⟩ := wb_of32 (xs (j + 1))
  obtain ⟨v2, hv2, e2⟩ := wb_of32 (xs (j + 2))
  refine lv_aload_n hx hb dL_law_232 rfl (lv_at hl 2 rfl) ?_
  refine lv_aload_n hx hb dL_law_233 rfl (lv_at hl 1 rfl) ?_
  refine lv_iload_n hx hb dL_law_234 rfl (lv_at hl 0 rfl) ?_
  refine lv_iconst (v := nI 1) hx hb dL_law_235 (by decide) ?_
  refine oz_kadd hx hb dL_law_236 ?_
  refine oz_ks_ld hx hb hX hbl hbA hS (by omega) (by omega) e1 dL_law_237 ?_
  refine lv_aload_n hx hb dL_law_238 rfl (lv_at hl 1 rfl) ?_
  refine lv_iload_n hx hb dL_law_239 rfl (lv_at hl 0 rfl) ?_
  refine lv_iconst (v := nI 2) hx hb dL_law_240 (by decide) ?_
  refine oz_kadd hx hb dL_law_241 ?_
  refine oz_ks_ld hx hb hX hbl hbA hS (by omega) (by omega) e2 dL_law_242 ?_
  refine oz_kc_i (nA := 2) (As := [.int (nI v1), .int (nI v2)]) (rest := []) (wr := [oz_oM hm mx n wi i k la, oz_oI cI mx 256 fT, oz_oI cI wi 2048 fW, oz_oI cI la r fR]) (w3 := fun (u : (Nat → oz_By)) => [oz_oM hm mx n wi i k la, oz_oI cI mx 256 fT, oz_oI cI wi 2048 fW, oz_oI cI la r fR, oz_oD hd tx n q rd, oz_oB cB tx 256 fT, oz_oB cB rd r fR, oz_oO q t bf (if i < 1600 then i + 8 else i) k, oz_oB cB t 4 u, oz_oB cB bf 2048 (if i < 1600 then oz_pb (oz_pb fW i 4 v1) (i + 4) 4 v2 else fW)]) (C := RX0) hx hb hml hown hts hK hP hD hS hA (mt_X0_longIn l G cB cI H.size hd tx rd q t bf n r i k fM fT fW fR v1 v2 hn hr0 hi hk hv1 hv2) (lw_V q94 q95 q96 q12 q97) rfl rfl (by decide +kernel) rfl ⟨Nat.le_of_ble_eq_true rfl, Nat.le_of_ble_eq_true rfl⟩ [0, 1, 2, 3, 4, 5] [6, 7, 8, 9] rfl rfl rfl rfl (by decide) 0 rfl rfl rfl hl.1 (Nat.le_of_ble_eq_true rfl) dL_law_243 ⟨show _ ≤ 1200000 by omega, show _ ≤ 5502250 by omega⟩ (fun _ => rfl) (fun fM2 H locs hP hD hS => ?_)
  have hP : va_P G vwCl [oz_oM hm mx n wi i k la, oz_oI cI mx 256 fT, oz_oI cI wi 2048 fW, oz_oI cI la r fR, oz_oD hd tx n q rd, oz_oB cB tx 256 fT, oz_oB cB rd r fR, oz_oO q t bf (if i < 1600 then i + 8 else i) k, oz_oB cB t 4 fM2, oz_oB cB bf 2048 (if i < 1600 then oz_pb (oz_pb fW i 4 v1) (i + 4) 4 v2 else fW)] H := hP
  have hD : va_D (fun q9 : Nat => s.heap.size ≤ q9) [oz_oM hm mx n wi i k la, oz_oI cI mx 256 fT, oz_oI cI wi 2048 fW, oz_oI cI la r fR, oz_oD hd tx n q rd, oz_oB cB tx 256 fT, oz_oB cB rd r fR, oz_oO q t bf (if i < 1600 then i + 8 else i) k, oz_oB cB t 4 fM2, oz_oB cB bf 2048 (if i < 1600 then oz_pb (oz_pb fW i 4 v1) (i + 4) 4 v2 else fW)] := hD
  refine lv_aload_n hx hb dL_law_246 rfl (lv_at hl 3 rfl) ?_
  refine lv_aload_n hx hb dL_law_247 rfl (lv_at hl 1 rfl) ?_
  refine lv_iload_n hx hb dL_law_248 rfl (lv_at hl 0 rfl) ?_
  refine lv_iconst (v := nI 1) hx hb dL_law_249 (by decide) ?_
  refine oz_kadd hx hb dL_law_250 ?_
  refine oz_ks_ld hx hb hX hbl hbA hS (by omega) (by omega) e1 dL_law_251 ?_
  refine lv_aload_n hx hb dL_law_252 rfl (lv_at hl 1 rfl) ?_
  refine lv_iload_n hx hb dL_law_253 rfl (lv_at hl 0 rfl) ?_
  refine lv_iconst (v := nI 2) hx hb dL_law_254 (by decide) ?_
  refine oz_kadd hx hb dL_law_255 ?_
  refine oz_ks_ld hx hb hX hbl hbA hS (by omega) (by omega) e2 dL_law_256 ?_
  refine oz_kc_i (nA := 2) (As := [.int (nI v1), .int (nI v2)]) (rest := [.int ((if i < 1600 then (1 : Int32) else 0))]) (wr := [oz_oD hd tx n q rd, oz_oB cB tx 256 fT, oz_oB cB rd r fR, oz_oO q t bf (if i < 1600 then i + 8 else i) k, oz_oB cB t 4 fM2, oz_oB cB bf 2048 (if i < 1600 then oz_pb (oz_pb fW i 4 v1) (i + 4) 4 v2 else fW)]) (w3 := fun (u : Unit) => [oz_oD hd tx n q rd, oz_oB cB tx 256 fT, oz_oB cB rd r fR, oz_oO q t bf (if i < 1600 then i + 8 else i) k, oz_oB cB t 4 fM2, oz_oB cB bf 2048 (if i < 1600 then oz_pb (oz_pb fW i 4 v1) (i + 4) 4 v2 else fW), oz_oM hm mx n wi (if i < 1600 then i + 8 else i) k la, oz_oI cI mx 256 fT, oz_oI cI wi 2048 (if i < 1600 then oz_pb (oz_pb fW i 4 v1) (i + 4) 4 v2 else fW), oz_oI cI la r fR]) (C := RX2) hx hb hml hown hts hK hP hD hS hA (mt_X2_longIn l G cB cI H.size hm mx wi la n r i k fT fW fR v1 v2 hn hr0 hi hk hv1 hv2) (lw_V q289 q290 q291 q14 q292) rfl rfl (by decide +kernel) rfl ⟨Nat.le_of_ble_eq_true rfl, Nat.le_of_ble_eq_true rfl⟩ [0, 1, 2, 3] [4, 5, 6, 7, 8, 9] rfl rfl rfl rfl (by decide) 0 rfl rfl rfl hl.1 (Nat.le_of_ble_eq_true rfl) dL_law_257 ⟨show _ ≤ 1200000 by omega, show _ ≤ 5502250 by omega⟩ (fun _ => rfl) (fun _ H locs hP hD hS => ?_)
  have hP : va_P G vwCl [oz_oD hd tx n q rd, oz_oB cB tx 256 fT, oz_oB cB rd r fR, oz_oO q t bf (if i < 1600 then i + 8 else i) k, oz_oB cB t 4 fM2, oz_oB cB bf 2048 (if i < 1600 then oz_pb (oz_pb fW i 4 v1) (i + 4) 4 v2 else fW), oz_oM hm mx n wi (if i < 1600 then i + 8 else i) k la, oz_oI cI mx 256 fT, oz_oI cI wi 2048 (if i < 1600 then oz_pb (oz_pb fW i 4 v1) (i + 4) 4 v2 else fW), oz_oI cI la r fR] H := hP
  have hD : va_D (fun q9 : Nat => s.heap.size ≤ q9) [oz_oD hd tx n q rd, oz_oB cB tx 256 fT, oz_oB cB rd r fR, oz_oO q t bf (if i < 1600 then i + 8 else i) k, oz_oB cB t 4 fM2, oz_oB cB bf 2048 (if i < 1600 then oz_pb (oz_pb fW i 4 v1) (i + 4) 4 v2 else fW), oz_oM hm mx n wi (if i < 1600 then i + 8 else i) k la, oz_oI cI mx 256 fT, oz_oI cI wi 2048 (if i < 1600 then oz_pb (oz_pb fW i 4 v1) (i + 4) 4 v2 else fW), oz_oI cI la r fR] := hD
  refine lv_icmp_eq (tgt := 456) hx hb dL_law_260 (by decide) (fun _ => ?_) (fun z9 => absurd rfl z9)
  refine W.widen (k := cells + 4) (n := slots + 4104) (by omega) (by omega) ?_
  exact kk tx rd q t bf mx wi la n r (if i < 1600 then i + 8 else i) k fM2 fT (if i < 1600 then oz_pb (oz_pb fW i 4 v1) (i + 4) 4 v2 else fW) fR (hn) (hr0) (by (repeat' split) <;> omega) (by (repeat' split) <;> omega) _ _ hP hD hS ls hl

set_option maxHeartbeats 4000000 in
set_option maxRecDepth 100000 in
theorem oz_lc_stringIn {p : Program} {e : Env} {s : State} {m : MethodId} {below : List Frame} {meth : Method} {c : Code} {l : Launch} {b L : Nat} {xs : Nat → Int32} {G : va_G} {cB cI : ClassId} {hd hm : Nat} {Q : State → Prop} (hx : p.tables.exec = Jvm.exec) (hb : c.code = cL_law) (hml : c.maxLocals = 4) (hown : s.vm.findClass R_law = some m.cls) (hts : ∀ w ∈ lw_all, w.before #[Value.ref b] s = true) (hX : va_X b L xs s s.heap) (hbl : b < s.heap.size) (hK : va_K G vwCl (oz_kts cB cI) s) {cells slots j : Nat} (hL : L ≤ 288) (hj : j + 6 ≤ L) (hcs : cells + 4 ≤ 1200000) (hss : slots + 4104 ≤ 5502250) (kk : oz_lawAt p l e s m below meth c b hd hm G cB cI Q 456 (cells + 4) (slots + 4104) j) : oz_lawAt p l e s m below meth c b hd hm G cB cI Q 265 cells slots j := by
  intro tx rd q t bf mx wi la n r i k fM fT fW fR hn hr0 hi hk H locs hP hD hS ls hl
  have hA : ∀ q9 : Nat, s.heap.size ≤ q9 → (fun q9 : Nat => s.heap.size ≤ q9) q9 := fun _ h => h
  have hbA : ¬ (fun q9 : Nat => s.heap.size ≤ q9) b := Nat.not_le.mpr hbl
  obtain ⟨v1, hv1, e1⟩ := wb_of32 (xs (j + 1))
  obtain ⟨v2, hv2, e2⟩ := wb_of32 (xs (j + 2))
  refine lv_aload_n hx hb dL_law_265 rfl (lv_at hl 2 rfl) ?_
  refine lv_aload_n hx hb dL_law_266 rfl (lv_at hl 1 rfl) ?_
  refine lv_iload_n hx hb dL_law_267 rfl (lv_at hl 0 rfl) ?_
  refine lv_iconst (v := nI 1) hx hb dL_law_268 (by decide) ?_
  refine oz_kadd hx hb dL_law_269 ?_
  refine oz_ks_ld hx hb hX hbl hbA hS (by omega) (by omega) e1 dL_law_270 ?_
  refine lv_aload_n hx hb dL_law_271 rfl (lv_at hl 1 rfl) ?_
  refine lv_iload_n hx hb dL_law_272 rfl (lv_at hl 0 rfl) ?_
  refine lv_iconst (v := nI 2) hx hb dL_law_273 (by decide) ?_
  refine oz_kadd hx hb dL_law_274 ?_
  refine oz_ks_ld hx hb hX hbl hbA hS (by omega) (by omega) e2 dL_law_275 ?_
  refine oz_kc_i (nA := 2) (As := [.int (nI v1), .int (nI v2)]) (rest := []) (wr := [oz_oM hm mx n wi i k la, oz_oI cI mx 256 fT, oz_oI cI wi 2048 fW, oz_oI cI la r fR]) (w3 := fun (u : (Nat → oz_By)) => [oz_oM hm mx n wi i k la, oz_oI cI mx 256 fT, oz_oI cI wi 2048 fW, oz_oI cI la r fR, oz_oD hd tx n q rd, oz_oB cB tx 256 fT, oz_oB cB rd r fR, oz_oO q t bf (if i < 1600 then i + 4 + oz_ct v2 n (oz_fr v1 n) else i) k, oz_oB cB t 4 u, oz_oB cB bf 2048 (if i < 1600 then va_cpy (oz_sl fT (oz_fr v1 n) (oz_ct v2 n (oz_fr v1 n))) (oz_pb fW i 4 (oz_ct v2 n (oz_fr v1 n))) 0 (i + 4) (oz_ct v2 n (oz_fr v1 n)) else fW)]) (C := RX0) hx hb hml hown hts hK hP hD hS hA (mt_X0_stringIn l G cB cI H.size hd tx rd q t bf n r i k fM fT fW fR v1 v2 hn hr0 hi hk hv1 hv2) (lw_V q103 q104 q105 q12 q106) rfl rfl (by decide +kernel) rfl ⟨Nat.le_of_ble_eq_true rfl, Nat.le_of_ble_eq_true rfl⟩ [0, 1, 2, 3, 4, 5] [6, 7, 8, 9] rfl rfl rfl rfl (by decide) 0 rfl rfl rfl hl.1 (Nat.le_of_ble_eq_true rfl) dL_law_276 ⟨show _ ≤ 1200000 by omega, show _ ≤ 5502250 by omega⟩ (fun _ => rfl) (fun fM2 H locs hP hD hS => ?_)
  have hP : va_P G vwCl [oz_oM hm mx n wi i k la, oz_oI cI mx 256 fT, oz_oI cI wi 2048 fW, oz_oI cI la r fR, oz_oD hd tx n q rd, oz_oB cB tx 256 fT, oz_oB cB rd r fR, oz_oO q t bf (if i < 1600 then i + 4 + oz_ct v2 n (oz_fr v1 n) else i) k, oz_oB cB t 4 fM2, oz_oB cB bf 2048 (if i < 1600 then va_cpy (oz_sl fT (oz_fr v1 n) (oz_ct v2 n (oz_fr v1 n))) (oz_pb fW i 4 (oz_ct v2 n (oz_fr v1 n))) 0 (i + 4) (oz_ct v2 n (oz_fr v1 n)) else fW)] H := hP
  have hD : va_D (fun q9 : Nat => s.heap.size ≤ q9) [oz_oM hm mx n wi i k la, oz_oI cI mx 256 fT, oz_oI cI wi 2048 fW, oz_oI cI la r fR, oz_oD hd tx n q rd, oz_oB cB tx 256 fT, oz_oB cB rd r fR, oz_oO q t bf (if i < 1600 then i + 4 + oz_ct v2 n (oz_fr v1 n) else i) k, oz_oB cB t 4 fM2, oz_oB cB bf 2048 (if i < 1600 then va_cpy (oz_sl fT (oz_fr v1 n) (oz_ct v2 n (oz_fr v1 n))) (oz_pb fW i 4 (oz_ct v2 n (oz_fr v1 n))) 0 (i + 4) (oz_ct v2 n (oz_fr v1 n)) else fW)] := hD
  refine lv_aload_n hx hb dL_law_279 rfl (lv_at hl 3 rfl) ?_
  refine lv_aload_n hx hb dL_law_280 rfl (lv_at hl 1 rfl) ?_
  refine lv_iload_n hx hb dL_law_281 rfl (lv_at hl 0 rfl) ?_
  refine lv_iconst (v := nI 1) hx hb dL_law_282 (by decide) ?_
  refine oz_kadd hx hb dL_law_283 ?_
  refine oz_ks_ld hx hb hX hbl hbA hS (by omega) (by omega) e1 dL_law_284 ?_
  refine lv_aload_n hx hb dL_law_285 rfl (lv_at hl 1 rfl) ?_
  refine lv_iload_n hx hb dL_law_286 rfl (lv_at hl 0 rfl) ?_
  refine lv_iconst (v := nI 2) hx hb dL_law_287 (by decide) ?_
  refine oz_kadd hx hb dL_law_288 ?_
  refine oz_ks_ld hx hb hX hbl hbA hS (by omega) (by omega) e2 dL_law_289 ?_
  refine oz_kc_i (nA := 2) (As := [.int (nI v1), .int (nI v2)]) (rest := [.int ((if i < 1600 then (1 : Int32) else 0))]) (wr := [oz_oD hd tx n q rd, oz_oB cB tx 256 fT, oz_oB cB rd r fR, oz_oO q t bf (if i < 1600 then i + 4 + oz_ct v2 n (oz_fr v1 n) else i) k, oz_oB cB t 4 fM2, oz_oB cB bf 2048 (if i < 1600 then va_cpy (oz_sl fT (oz_fr v1 n) (oz_ct v2 n (oz_fr v1 n))) (oz_pb fW i 4 (oz_ct v2 n (oz_fr v1 n))) 0 (i + 4) (oz_ct v2 n (oz_fr v1 n)) else fW)]) (w3 := fun (u : Unit) => [oz_oD hd tx n q rd, oz_oB cB tx 256 fT, oz_oB cB rd r fR, oz_oO q t bf (if i < 1600 then i + 4 + oz_ct v2 n (oz_fr v1 n) else i) k, oz_oB cB t 4 fM2, oz_oB cB bf 2048 (if i < 1600 then va_cpy (oz_sl fT (oz_fr v1 n) (oz_ct v2 n (oz_fr v1 n))) (oz_pb fW i 4 (oz_ct v2 n (oz_fr v1 n))) 0 (i + 4) (oz_ct v2 n (oz_fr v1 n)) else fW), oz_oM hm mx n wi (if i < 1600 then i + 4 + oz_ct v2 n (oz_fr v1 n) else i) k la, oz_oI cI mx 256 fT, oz_oI cI wi 2048 (if i < 1600 then va_cpy (oz_sl fT (oz_fr v1 n) (oz_ct v2 n (oz_fr v1 n))) (oz_pb fW i 4 (oz_ct v2 n (oz_fr v1 n))) 0 (i + 4) (oz_ct v2 n (oz_fr v1 n)) else fW), oz_oI cI la r fR]) (C := RX2) hx hb hml hown hts hK hP hD hS hA (mt_X2_stringIn l G cB cI H.size hm mx wi la n r i k fT fW fR v1 v2 hn hr0 hi hk hv1 hv2) (lw_V q293 q294 q295 q14 q296) rfl rfl (by decide +kernel) rfl ⟨Nat.le_of_ble_eq_true rfl, Nat.le_of_ble_eq_true rfl⟩ [0, 1, 2, 3] [4, 5, 6, 7, 8, 9] rfl rfl rfl rfl (by decide) 0 rfl rfl rfl hl.1 (Nat.le_of_ble_eq_true rfl) dL_law_290 ⟨show _ ≤ 1200000 by omega, show _ ≤ 5502250 by omega⟩ (fun _ => rfl) (fun _ H locs hP hD hS => ?_)
  have hP : va_P G vwCl [oz_oD hd tx n q rd, oz_oB cB tx 256 fT, oz_oB cB rd r fR, oz_oO q t bf (if i < 1600 then i + 4 + oz_ct v2 n (oz_fr v1 n) else i) k, oz_oB cB t 4 fM2, oz_oB cB bf 2048 (if i < 1600 then va_cpy (oz_sl fT (oz_fr v1 n) (oz_ct v2 n (oz_fr v1 n))) (oz_pb fW i 4 (oz_ct v2 n (oz_fr v1 n))) 0 (i + 4) (oz_ct v2 n (oz_fr v1 n)) else fW), oz_oM hm mx n wi (if i < 1600 then i + 4 + oz_ct v2 n (oz_fr v1 n) else i) k la, oz_oI cI mx 256 fT, oz_oI cI wi 2048 (if i < 1600 then va_cpy (oz_sl fT (oz_fr v1 n) (oz_ct v2 n (oz_fr v1 n))) (oz_pb fW i 4 (oz_ct v2 n (oz_fr v1 n))) 0 (i + 4) (oz_ct v2 n (oz_fr v1 n)) else fW), oz_oI cI la r fR] H := hP
  have hD : va_D (fun q9 : Nat => s.heap.size ≤ q9) [oz_oD hd tx n q rd, oz_oB cB tx 256 fT, oz_oB cB rd r fR, oz_oO q t bf (if i < 1600 then i + 4 + oz_ct v2 n (oz_fr v1 n) else i) k, oz_oB cB t 4 fM2, oz_oB cB bf 2048 (if i < 1600 then va_cpy (oz_sl fT (oz_fr v1 n) (oz_ct v2 n (oz_fr v1 n))) (oz_pb fW i 4 (oz_ct v2 n (oz_fr v1 n))) 0 (i + 4) (oz_ct v2 n (oz_fr v1 n)) else fW), oz_oM hm mx n wi (if i < 1600 then i + 4 + oz_ct v2 n (oz_fr v1 n) else i) k la, oz_oI cI mx 256 fT, oz_oI cI wi 2048 (if i < 1600 then va_cpy (oz_sl fT (oz_fr v1 n) (oz_ct v2 n (oz_fr v1 n))) (oz_pb fW i 4 (oz_ct v2 n (oz_fr v1 n))) 0 (i + 4) (oz_ct v2 n (oz_fr v1 n)) else fW), oz_oI cI la r fR] := hD
  refine lv_icmp_eq (tgt := 456) hx hb dL_law_293 (by decide) (fun _ => ?_) (fun z9 => absurd rfl z9)
  refine W.widen (k := cells + 4) (n := slots + 4104) (by omega) (by omega) ?_
  have hf9 := oz_fr_le v1 n
  have hc9 := oz_ct_le (V := v2) hf9
  exact kk tx rd q t bf mx wi la n r (if i < 1600 then i + 4 + oz_ct v2 n (oz_fr v1 n) else i) k fM2 fT (if i < 1600 then va_cpy (oz_sl fT (oz_fr v1 n) (oz_ct v2 n (oz_fr v1 n))) (oz_pb fW i 4 (oz_ct v2 n (oz_fr v1 n))) 0 (i + 4) (oz_ct v2 n (oz_fr v1 n)) else fW) fR (hn) (hr0) (by (repeat' split) <;> omega) (by (repeat' split) <;> omega) _ _ hP hD hS ls hl

set_option maxHeartbeats 4000000 in
set_option maxRecDepth 100000 in
theorem oz_lc_numberIn {p : Program} {e : Env} {s : State} {m : MethodId} {below : List Frame} {meth : Method} {c : Code} {l : Launch} {b L : Nat} {xs : Nat → Int32} {G : va_G} {cB cI : ClassId} {hd hm : Nat} {Q : State → Prop} (hx : p.tables.exec = Jvm.exec) (hb : c.code = cL_law) (hml : c.maxLocals = 4) (hown : s.vm.findClass R_law = some m.cls) (hts : ∀ w ∈ lw_all, w.before #[Value.ref b] s = true) (hX : va_X b L xs s s.heap) (hbl : b < s.heap.size) (hK : va_K G vwCl (oz_kts cB cI) s) {cells slots j : Nat} (hL : L ≤ 288) (hj : j + 6 ≤ L) (hcs : cells + 4 ≤ 1200000) (hss : slots + 4104 ≤ 5502250) (kk : oz_lawAt p l e s m below meth c b hd hm G cB cI Q 456 (cells + 4) (slots + 4104) j) : oz_lawAt p l e s m below meth c b hd hm G cB cI Q 298 cells slots j := by
  intro tx rd q t bf mx wi la n r i k fM fT fW fR hn hr0 hi hk H locs hP hD hS ls hl
  have hA : ∀ q9 : Nat, s.heap.size ≤ q9 → (fun q9 : Nat => s.heap.size ≤ q9) q9 := fun _ h => h
  have hbA : ¬ (fun q9 : Nat => s.heap.size ≤ q9) b := Nat.not_le.mpr hbl
  obtain ⟨v1, hv1, e1⟩ := wb_of32 (xs (j + 1))
  obtain ⟨v2, hv2, e2⟩ := wb_of32 (xs (j + 2))
  refine lv_aload_n hx hb dL_law_298 rfl (lv_at hl 2 rfl) ?_
  refine lv_aload_n hx hb dL_law_299 rfl (lv_at hl 1 rfl) ?_
  refine lv_iload_n hx hb dL_law_300 rfl (lv_at hl 0 rfl) ?_
  refine lv_iconst (v := nI 1) hx hb dL_law_301 (by decide) ?_
  refine oz_kadd hx hb dL_law_302 ?_
  refine oz_ks_ld hx hb hX hbl hbA hS (by omega) (by omega) e1 dL_law_303 ?_
  refine lv_aload_n hx hb dL_law_304 rfl (lv_at hl 1 rfl) ?_
  refine lv_iload_n hx hb dL_law_305 rfl (lv_at hl 0 rfl) ?_
  refine lv_iconst (v := nI 2) hx hb dL_law_306 (by decide) ?_
  refine oz_kadd hx hb dL_law_307 ?_
  refine oz_ks_ld hx hb hX hbl hbA hS (by omega) (by omega) e2 dL_law_308 ?_
  refine oz_kc_i (nA := 2) (As := [.int (nI v1), .int (nI v2)]) (rest := []) (wr := [oz_oM hm mx n wi i k la, oz_oI cI mx 256 fT, oz_oI cI wi 2048 fW, oz_oI cI la r fR]) (w3 := fun (u : (Nat → oz_By)) => [oz_oM hm mx n wi i k la, oz_oI cI mx 256 fT, oz_oI cI wi 2048 fW, oz_oI cI la r fR, oz_oD hd tx n q rd, oz_oB cB tx 256 fT, oz_oB cB rd r fR, oz_oO q t bf (if i < 1600 ∧ 0 < oz_ct v2 n (oz_fr v1 n) then (if 128 ≤ ((oz_sl fT (oz_fr v1 n) (oz_ct v2 n (oz_fr v1 n))) 0).toNat then i + 5 + oz_ct v2 n (oz_fr v1 n) else i + 4 + oz_ct v2 n (oz_fr v1 n)) else i) k, oz_oB cB t 4 u, oz_oB cB bf 2048 (if i < 1600 ∧ 0 < oz_ct v2 n (oz_fr v1 n) then (if 128 ≤ ((oz_sl fT (oz_fr v1 n) (oz_ct v2 n (oz_fr v1 n))) 0).toNat then va_cpy (oz_sl fT (oz_fr v1 n) (oz_ct v2 n (oz_fr v1 n))) (oz_un (oz_pb fW i 4 (oz_ct v2 n (oz_fr v1 n) + 1)) (i + 4) 0#8) 0 (i + 5) (oz_ct v2 n (oz_fr v1 n)) else va_cpy (oz_sl fT (oz_fr v1 n) (oz_ct v2 n (oz_fr v1 n))) (oz_pb fW i 4 (oz_ct v2 n (oz_fr v1 n))) 0 (i + 4) (oz_ct v2 n (oz_fr v1 n))) else fW)]) (C := RX0) hx hb hml hown hts hK hP hD hS hA (mt_X0_numberIn l G cB cI H.size hd tx rd q t bf n r i k fM fT fW fR v1 v2 hn hr0 hi hk hv1 hv2) (lw_V q128 q129 q130 q12 q131) rfl rfl (by decide +kernel) rfl ⟨Nat.le_of_ble_eq_true rfl, Nat.le_of_ble_eq_true rfl⟩ [0, 1, 2, 3, 4, 5] [6, 7, 8, 9] rfl rfl rfl rfl (by decide) 0 rfl rfl rfl hl.1 (Nat.le_of_ble_eq_true rfl) dL_law_309 ⟨show _ ≤ 1200000 by omega, show _ ≤ 5502250 by omega⟩ (fun _ => rfl) (fun fM2 H locs hP hD hS => ?_)
  have hP : va_P G vwCl [oz_oM hm mx n wi i k la, oz_oI cI mx 256 fT, oz_oI cI wi 2048 fW, oz_oI cI la r fR, oz_oD hd tx n q rd, oz_oB cB tx 256 fT, oz_oB cB rd r fR, oz_oO q t bf (if i < 1600 ∧ 0 < oz_ct v2 n (oz_fr v1 n) then (if 128 ≤ ((oz_sl fT (oz_fr v1 n) (oz_ct v2 n (oz_fr v1 n))) 0).toNat then i + 5 + oz_ct v2 n (oz_fr v1 n) else i + 4 + oz_ct v2 n (oz_fr v1 n)) else i) k, oz_oB cB t 4 fM2, oz_oB cB bf 2048 (if i < 1600 ∧ 0 < oz_ct v2 n (oz_fr v1 n) then (if 128 ≤ ((oz_sl fT (oz_fr v1 n) (oz_ct v2 n (oz_fr v1 n))) 0).toNat then va_cpy (oz_sl fT (oz_fr v1 n) (oz_ct v2 n (oz_fr v1 n))) (oz_un (oz_pb fW i 4 (oz_ct v2 n (oz_fr v1 n) + 1)) (i + 4) 0#8) 0 (i + 5) (oz_ct v2 n (oz_fr v1 n)) else va_cpy (oz_sl fT (oz_fr v1 n) (oz_ct v2 n (oz_fr v1 n))) (oz_pb fW i 4 (oz_ct v2 n (oz_fr v1 n))) 0 (i + 4) (oz_ct v2 n (oz_fr v1 n))) else fW)] H := hP
  have hD : va_D (fun q9 : Nat => s.heap.size ≤ q9) [oz_oM hm mx n wi i k la, oz_oI cI mx 256 fT, oz_oI cI wi 2048 fW, oz_oI cI la r fR, oz_oD hd tx n q rd, oz_oB cB tx 256 fT, oz_oB cB rd r fR, oz_oO q t bf (if i < 1600 ∧ 0 < oz_ct v2 n (oz_fr v1 n) then (if 128 ≤ ((oz_sl fT (oz_fr v1 n) (oz_ct v2 n (oz_fr v1 n))) 0).toNat then i + 5 + oz_ct v2 n (oz_fr v1 n) else i + 4 + oz_ct v2 n (oz_fr v1 n)) else i) k, oz_oB cB t 4 fM2, oz_oB cB bf 2048 (if i < 1600 ∧ 0 < oz_ct v2 n (oz_fr v1 n) then (if 128 ≤ ((oz_sl fT (oz_fr v1 n) (oz_ct v2 n (oz_fr v1 n))) 0).toNat then va_cpy (oz_sl fT (oz_fr v1 n) (oz_ct v2 n (oz_fr v1 n))) (oz_un (oz_pb fW i 4 (oz_ct v2 n (oz_fr v1 n) + 1)) (i + 4) 0#8) 0 (i + 5) (oz_ct v2 n (oz_fr v1 n)) else va_cpy (oz_sl fT (oz_fr v1 n) (oz_ct v2 n (oz_fr v1 n))) (oz_pb fW i 4 (oz_ct v2 n (oz_fr v1 n))) 0 (i + 4) (oz_ct v2 n (oz_fr v1 n))) else fW)] := hD
  refine lv_aload_n hx hb dL_law_312 rfl (lv_at hl 3 rfl) ?_
  refine lv_aload_n hx hb dL_law_313 rfl (lv_at hl 1 rfl) ?_
  refine lv_iload_n hx hb dL_law_314 rfl (lv_at hl 0 rfl) ?_
  refine lv_iconst (v := nI 1) hx hb dL_law_315 (by decide) ?_
  refine oz_kadd hx hb dL_law_316 ?_
  refine oz_ks_ld hx hb hX hbl hbA hS (by omega) (by omega) e1 dL_law_317 ?_
  refine lv_aload_n hx hb dL_law_318 rfl (lv_at hl 1 rfl) ?_
  refine lv_iload_n hx hb dL_law_319 rfl (lv_at hl 0 rfl) ?_
  refine lv_iconst (v := nI 2) hx hb dL_law_320 (by decide) ?_
  refine oz_kadd hx hb dL_law_321 ?_
  refine oz_ks_ld hx hb hX hbl hbA hS (by omega) (by omega) e2 dL_law_322 ?_
  refine oz_kc_i (nA := 2) (As := [.int (nI v1), .int (nI v2)]) (rest := [.int ((if i < 1600 ∧ 0 < oz_ct v2 n (oz_fr v1 n) then (1 : Int32) else 0))]) (wr := [oz_oD hd tx n q rd, oz_oB cB tx 256 fT, oz_oB cB rd r fR, oz_oO q t bf (if i < 1600 ∧ 0 < oz_ct v2 n (oz_fr v1 n) then (if 128 ≤ ((oz_sl fT (oz_fr v1 n) (oz_ct v2 n (oz_fr v1 n))) 0).toNat then i + 5 + oz_ct v2 n (oz_fr v1 n) else i + 4 + oz_ct v2 n (oz_fr v1 n)) else i) k, oz_oB cB t 4 fM2, oz_oB cB bf 2048 (if i < 1600 ∧ 0 < oz_ct v2 n (oz_fr v1 n) then (if 128 ≤ ((oz_sl fT (oz_fr v1 n) (oz_ct v2 n (oz_fr v1 n))) 0).toNat then va_cpy (oz_sl fT (oz_fr v1 n) (oz_ct v2 n (oz_fr v1 n))) (oz_un (oz_pb fW i 4 (oz_ct v2 n (oz_fr v1 n) + 1)) (i + 4) 0#8) 0 (i + 5) (oz_ct v2 n (oz_fr v1 n)) else va_cpy (oz_sl fT (oz_fr v1 n) (oz_ct v2 n (oz_fr v1 n))) (oz_pb fW i 4 (oz_ct v2 n (oz_fr v1 n))) 0 (i + 4) (oz_ct v2 n (oz_fr v1 n))) else fW)]) (w3 := fun (u : Unit) => [oz_oD hd tx n q rd, oz_oB cB tx 256 fT, oz_oB cB rd r fR, oz_oO q t bf (if i < 1600 ∧ 0 < oz_ct v2 n (oz_fr v1 n) then (if 128 ≤ ((oz_sl fT (oz_fr v1 n) (oz_ct v2 n (oz_fr v1 n))) 0).toNat then i + 5 + oz_ct v2 n (oz_fr v1 n) else i + 4 + oz_ct v2 n (oz_fr v1 n)) else i) k, oz_oB cB t 4 fM2, oz_oB cB bf 2048 (if i < 1600 ∧ 0 < oz_ct v2 n (oz_fr v1 n) then (if 128 ≤ ((oz_sl fT (oz_fr v1 n) (oz_ct v2 n (oz_fr v1 n))) 0).toNat then va_cpy (oz_sl fT (oz_fr v1 n) (oz_ct v2 n (oz_fr v1 n))) (oz_un (oz_pb fW i 4 (oz_ct v2 n (oz_fr v1 n) + 1)) (i + 4) 0#8) 0 (i + 5) (oz_ct v2 n (oz_fr v1 n)) else va_cpy (oz_sl fT (oz_fr v1 n) (oz_ct v2 n (oz_fr v1 n))) (oz_pb fW i 4 (oz_ct v2 n (oz_fr v1 n))) 0 (i + 4) (oz_ct v2 n (oz_fr v1 n))) else fW), oz_oM hm mx n wi (if i < 1600 ∧ 0 < oz_ct v2 n (oz_fr v1 n) then (if 128 ≤ ((oz_sl fT (oz_fr v1 n) (oz_ct v2 n (oz_fr v1 n))) 0).toNat then i + 5 + oz_ct v2 n (oz_fr v1 n) else i + 4 + oz_ct v2 n (oz_fr v1 n)) else i) k la, oz_oI cI mx 256 fT, oz_oI cI wi 2048 (if i < 1600 ∧ 0 < oz_ct v2 n (oz_fr v1 n) then (if 128 ≤ ((oz_sl fT (oz_fr v1 n) (oz_ct v2 n (oz_fr v1 n))) 0).toNat then va_cpy (oz_sl fT (oz_fr v1 n) (oz_ct v2 n (oz_fr v1 n))) (oz_un (oz_pb fW i 4 (oz_ct v2 n (oz_fr v1 n) + 1)) (i + 4) 0#8) 0 (i + 5) (oz_ct v2 n (oz_fr v1 n)) else va_cpy (oz_sl fT (oz_fr v1 n) (oz_ct v2 n (oz_fr v1 n))) (oz_pb fW i 4 (oz_ct v2 n (oz_fr v1 n))) 0 (i + 4) (oz_ct v2 n (oz_fr v1 n))) else fW), oz_oI cI la r fR]) (C := RX2) hx hb hml hown hts hK hP hD hS hA (mt_X2_numberIn l G cB cI H.size hm mx wi la n r i k fT fW fR v1 v2 hn hr0 hi hk hv1 hv2) (lw_V q305 q306 q307 q14 q308) rfl rfl (by decide +kernel) rfl ⟨Nat.le_of_ble_eq_true rfl, Nat.le_of_ble_eq_true rfl⟩ [0, 1, 2, 3] [4, 5, 6, 7, 8, 9] rfl rfl rfl rfl (by decide) 0 rfl rfl rfl hl.1 (Nat.le_of_ble_eq_true rfl) dL_law_323 ⟨show _ ≤ 1200000 by omega, show _ ≤ 5502250 by omega⟩ (fun _ => rfl) (fun _ H locs hP hD hS => ?_)
  have hP : va_P G vwCl [oz_oD hd tx n q rd, oz_oB cB tx 256 fT, oz_oB cB rd r fR, oz_oO q t bf (if i < 1600 ∧ 0 < oz_ct v2 n (oz_fr v1 n) then (if 128 ≤ ((oz_sl fT (oz_fr v1 n) (oz_ct v2 n (oz_fr v1 n))) 0).toNat then i + 5 + oz_ct v2 n (oz_fr v1 n) else i + 4 + oz_ct v2 n (oz_fr v1 n)) else i) k, oz_oB cB t 4 fM2, oz_oB cB bf 2048 (if i < 1600 ∧ 0 < oz_ct v2 n (oz_fr v1 n) then (if 128 ≤ ((oz_sl fT (oz_fr v1 n) (oz_ct v2 n (oz_fr v1 n))) 0).toNat then va_cpy (oz_sl fT (oz_fr v1 n) (oz_ct v2 n (oz_fr v1 n))) (oz_un (oz_pb fW i 4 (oz_ct v2 n (oz_fr v1 n) + 1)) (i + 4) 0#8) 0 (i + 5) (oz_ct v2 n (oz_fr v1 n)) else va_cpy (oz_sl fT (oz_fr v1 n) (oz_ct v2 n (oz_fr v1 n))) (oz_pb fW i 4 (oz_ct v2 n (oz_fr v1 n))) 0 (i + 4) (oz_ct v2 n (oz_fr v1 n))) else fW), oz_oM hm mx n wi (if i < 1600 ∧ 0 < oz_ct v2 n (oz_fr v1 n) then (if 128 ≤ ((oz_sl fT (oz_fr v1 n) (oz_ct v2 n (oz_fr v1 n))) 0).toNat then i + 5 + oz_ct v2 n (oz_fr v1 n) else i + 4 + oz_ct v2 n (oz_fr v1 n)) else i) k la, oz_oI cI mx 256 fT, oz_oI cI wi 2048 (if i < 1600 ∧ 0 < oz_ct v2 n (oz_fr v1 n) then (if 128 ≤ ((oz_sl fT (oz_fr v1 n) (oz_ct v2 n (oz_fr v1 n))) 0).toNat then va_cpy (oz_sl fT (oz_fr v1 n) (oz_ct v2 n (oz_fr v1 n))) (oz_un (oz_pb fW i 4 (oz_ct v2 n (oz_fr v1 n) + 1)) (i + 4) 0#8) 0 (i + 5) (oz_ct v2 n (oz_fr v1 n)) else va_cpy (oz_sl fT (oz_fr v1 n) (oz_ct v2 n (oz_fr v1 n))) (oz_pb fW i 4 (oz_ct v2 n (oz_fr v1 n))) 0 (i + 4) (oz_ct v2 n (oz_fr v1 n))) else fW), oz_oI cI la r fR] H := hP
  have hD : va_D (fun q9 : Nat => s.heap.size ≤ q9) [oz_oD hd tx n q rd, oz_oB cB tx 256 fT, oz_oB cB rd r fR, oz_oO q t bf (if i < 1600 ∧ 0 < oz_ct v2 n (oz_fr v1 n) then (if 128 ≤ ((oz_sl fT (oz_fr v1 n) (oz_ct v2 n (oz_fr v1 n))) 0).toNat then i + 5 + oz_ct v2 n (oz_fr v1 n) else i + 4 + oz_ct v2 n (oz_fr v1 n)) else i) k, oz_oB cB t 4 fM2, oz_oB cB bf 2048 (if i < 1600 ∧ 0 < oz_ct v2 n (oz_fr v1 n) then (if 128 ≤ ((oz_sl fT (oz_fr v1 n) (oz_ct v2 n (oz_fr v1 n))) 0).toNat then va_cpy (oz_sl fT (oz_fr v1 n) (oz_ct v2 n (oz_fr v1 n))) (oz_un (oz_pb fW i 4 (oz_ct v2 n (oz_fr v1 n) + 1)) (i + 4) 0#8) 0 (i + 5) (oz_ct v2 n (oz_fr v1 n)) else va_cpy (oz_sl fT (oz_fr v1 n) (oz_ct v2 n (oz_fr v1 n))) (oz_pb fW i 4 (oz_ct v2 n (oz_fr v1 n))) 0 (i + 4) (oz_ct v2 n (oz_fr v1 n))) else fW), oz_oM hm mx n wi (if i < 1600 ∧ 0 < oz_ct v2 n (oz_fr v1 n) then (if 128 ≤ ((oz_sl fT (oz_fr v1 n) (oz_ct v2 n (oz_fr v1 n))) 0).toNat then i + 5 + oz_ct v2 n (oz_fr v1 n) else i + 4 + oz_ct v2 n (oz_fr v1 n)) else i) k la, oz_oI cI mx 256 fT, oz_oI cI wi 2048 (if i < 1600 ∧ 0 < oz_ct v2 n (oz_fr v1 n) then (if 128 ≤ ((oz_sl fT (oz_fr v1 n) (oz_ct v2 n (oz_fr v1 n))) 0).toNat then va_cpy (oz_sl fT (oz_fr v1 n) (oz_ct v2 n (oz_fr v1 n))) (oz_un (oz_pb fW i 4 (oz_ct v2 n (oz_fr v1 n) + 1)) (i + 4) 0#8) 0 (i + 5) (oz_ct v2 n (oz_fr v1 n)) else va_cpy (oz_sl fT (oz_fr v1 n) (oz_ct v2 n (oz_fr v1 n))) (oz_pb fW i 4 (oz_ct v2 n (oz_fr v1 n))) 0 (i + 4) (oz_ct v2 n (oz_fr v1 n))) else fW), oz_oI cI la r fR] := hD
  refine lv_icmp_eq (tgt := 456) hx hb dL_law_326 (by decide) (fun _ => ?_) (fun z9 => absurd rfl z9)
  refine W.widen (k := cells + 4) (n := slots + 4104) (by omega) (by omega) ?_
  have hf9 := oz_fr_le v1 n
  have hc9 := oz_ct_le (V := v2) hf9
  exact kk tx rd q t bf mx wi la n r (if i < 1600 ∧ 0 < oz_ct v2 n (oz_fr v1 n) then (if 128 ≤ ((oz_sl fT (oz_fr v1 n) (oz_ct v2 n (oz_fr v1 n))) 0).toNat then i + 5 + oz_ct v2 n (oz_fr v1 n) else i + 4 + oz_ct v2 n (oz_fr v1 n)) else i) k fM2 fT (if i < 1600 ∧ 0 < oz_ct v2 n (oz_fr v1 n) then (if 128 ≤ ((oz_sl fT (oz_fr v1 n) (oz_ct v2 n (oz_fr v1 n))) 0).toNat then va_cpy (oz_sl fT (oz_fr v1 n) (oz_ct v2 n (oz_fr v1 n))) (oz_un (oz_pb fW i 4 (oz_ct v2 n (oz_fr v1 n) + 1)) (i + 4) 0#8) 0 (i + 5) (oz_ct v2 n (oz_fr v1 n)) else va_cpy (oz_sl fT (oz_fr v1 n) (oz_ct v2 n (oz_fr v1 n))) (oz_pb fW i 4 (oz_ct v2 n (oz_fr v1 n))) 0 (i + 4) (oz_ct v2 n (oz_fr v1 n))) else fW) fR (hn) (hr0) (by (repeat' split) <;> omega) (by (repeat' split) <;> omega) _ _ hP hD hS ls hl

set_option maxHeartbeats 4000000 in
set_option maxRecDepth 100000 in
theorem oz_lc_left {p : Program} {e : Env} {s : State} {m : MethodId} {below : List Frame} {meth : Method} {c : Code} {l : Launch} {b L : Nat} {xs : Nat → Int32} {G : va_G} {cB cI : ClassId} {hd hm : Nat} {Q : State → Prop} (hx : p.tables.exec = Jvm.exec) (hb : c.code = cL_law) (hml : c.maxLocals = 4) (hown : s.vm.findClass R_law = some m.cls) (hts : ∀ w ∈ lw_all, w.before #[Value.ref b] s = true) (hX : va_X b L xs s s.heap) (hbl : b < s.heap.size) (hK : va_K G vwCl (oz_kts cB cI) s) {cells slots j : Nat} (hL : L ≤ 288) (hj : j + 6 ≤ L) (hcs : cells + 4 ≤ 1200000) (hss : slots + 4104 ≤ 5502250) (kk : oz_lawAt p l e s m below meth c b hd hm G cB cI Q 456 (cells + 4) (slots + 4104) j) : oz_lawAt p l e s m below meth c b hd hm G cB cI Q 331 cells slots j := by
  intro tx rd q t bf mx wi la n r i k fM fT fW fR hn hr0 hi hk H locs hP hD hS ls hl
  have hA : ∀ q9 : Nat, s.heap.size ≤ q9 → (fun q9 : Nat => s.heap.size ≤ q9) q9 := fun _ h => h
  have hbA : ¬ (fun q9 : Nat => s.heap.size ≤ q9) b := Nat.not_le.mpr hbl
  refine lv_aload_n hx hb dL_law_331 rfl (lv_at hl 2 rfl) ?_
  refine oz_kc_i (nA := 0) (As := []) (rest := []) (wr := [oz_oM hm mx n wi i k la, oz_oI cI mx 256 fT, oz_oI cI wi 2048 fW, oz_oI cI la r fR]) (w3 := fun (u : Unit) => [oz_oM hm mx n wi i k la, oz_oI cI mx 256 fT, oz_oI cI wi 2048 fW, oz_oI cI la r fR, oz_oD hd tx n q rd, oz_oB cB tx 256 fT, oz_oB cB rd r fR, oz_oO q t bf i k, oz_oB cB t 4 fM, oz_oB cB bf 2048 fW]) (C := RX0) hx hb hml hown hts hK hP hD hS hA (mt_X0_left l G cB cI H.size hd tx rd q t bf n r i k fM fT fW fR hn hr0 hi hk) (lw_V q141 q142 q143 q12 q144) rfl rfl (by decide +kernel) rfl ⟨Nat.le_of_ble_eq_true rfl, Nat.le_of_ble_eq_true rfl⟩ [0, 1, 2, 3, 4, 5] [6, 7, 8, 9] rfl rfl rfl rfl (by decide) 0 rfl rfl rfl hl.1 (Nat.le_of_ble_eq_true rfl) dL_law_332 ⟨show _ ≤ 1200000 by omega, show _ ≤ 5502250 by omega⟩ (fun _ => rfl) (fun _ H locs hP hD hS => ?_)
  have hP : va_P G vwCl [oz_oM hm mx n wi i k la, oz_oI cI mx 256 fT, oz_oI cI wi 2048 fW, oz_oI cI la r fR, oz_oD hd tx n q rd, oz_oB cB tx 256 fT, oz_oB cB rd r fR, oz_oO q t bf i k, oz_oB cB t 4 fM, oz_oB cB bf 2048 fW] H := hP
  have hD : va_D (fun q9 : Nat => s.heap.size ≤ q9) [oz_oM hm mx n wi i k la, oz_oI cI mx 256 fT, oz_oI cI wi 2048 fW, oz_oI cI la r fR, oz_oD hd tx n q rd, oz_oB cB tx 256 fT, oz_oB cB rd r fR, oz_oO q t bf i k, oz_oB cB t 4 fM, oz_oB cB bf 2048 fW] := hD
  refine lv_aload_n hx hb dL_law_335 rfl (lv_at hl 3 rfl) ?_
  refine oz_kc_i (nA := 0) (As := []) (rest := [.int (nI (i - k))]) (wr := [oz_oD hd tx n q rd, oz_oB cB tx 256 fT, oz_oB cB rd r fR, oz_oO q t bf i k, oz_oB cB t 4 fM, oz_oB cB bf 2048 fW]) (w3 := fun (u : Unit) => [oz_oD hd tx n q rd, oz_oB cB tx 256 fT, oz_oB cB rd r fR, oz_oO q t bf i k, oz_oB cB t 4 fM, oz_oB cB bf 2048 fW, oz_oM hm mx n wi i k la, oz_oI cI mx 256 fT, oz_oI cI wi 2048 fW, oz_oI cI la r fR]) (C := RX2) hx hb hml hown hts hK hP hD hS hA (mt_X2_left l G cB cI H.size hm mx wi la n r i k fT fW fR hn hr0 hi hk) (lw_V q309 q310 q311 q14 q312) rfl rfl (by decide +kernel) rfl ⟨Nat.le_of_ble_eq_true rfl, Nat.le_of_ble_eq_true rfl⟩ [0, 1, 2, 3] [4, 5, 6, 7, 8, 9] rfl rfl rfl rfl (by decide) 0 rfl rfl rfl hl.1 (Nat.le_of_ble_eq_true rfl) dL_law_336 ⟨show _ ≤ 1200000 by omega, show _ ≤ 5502250 by omega⟩ (fun _ => rfl) (fun _ H locs hP hD hS => ?_)
  have hP : va_P G vwCl [oz_oD hd tx n q rd, oz_oB cB tx 256 fT, oz_oB cB rd r fR, oz_oO q t bf i k, oz_oB cB t 4 fM, oz_oB cB bf 2048 fW, oz_oM hm mx n wi i k la, oz_oI cI mx 256 fT, oz_oI cI wi 2048 fW, oz_oI cI la r fR] H := hP
  have hD : va_D (fun q9 : Nat => s.heap.size ≤ q9) [oz_oD hd tx n q rd, oz_oB cB tx 256 fT, oz_oB cB rd r fR, oz_oO q t bf i k, oz_oB cB t 4 fM, oz_oB cB bf 2048 fW, oz_oM hm mx n wi i k la, oz_oI cI mx 256 fT, oz_oI cI wi 2048 fW, oz_oI cI la r fR] := hD
  refine lv_icmp_eq (tgt := 456) hx hb dL_law_339 (by decide) (fun _ => ?_) (fun z9 => absurd rfl z9)
  refine W.widen (k := cells + 4) (n := slots + 4104) (by omega) (by omega) ?_
  exact kk tx rd q t bf mx wi la n r i k fM fT fW fR (hn) (hr0) (hi) (hk) _ _ hP hD hS ls hl

set_option maxHeartbeats 4000000 in
set_option maxRecDepth 100000 in
theorem oz_lc_byteOut {p : Program} {e : Env} {s : State} {m : MethodId} {below : List Frame} {meth : Method} {c : Code} {l : Launch} {b L : Nat} {xs : Nat → Int32} {G : va_G} {cB cI : ClassId} {hd hm : Nat} {Q : State → Prop} (hx : p.tables.exec = Jvm.exec) (hb : c.code = cL_law) (hml : c.maxLocals = 4) (hown : s.vm.findClass R_law = some m.cls) (hts : ∀ w ∈ lw_all, w.before #[Value.ref b] s = true) (hX : va_X b L xs s s.heap) (hbl : b < s.heap.size) (hK : va_K G vwCl (oz_kts cB cI) s) {cells slots j : Nat} (hL : L ≤ 288) (hj : j + 6 ≤ L) (hcs : cells + 4 ≤ 1200000) (hss : slots + 4104 ≤ 5502250) (kk : oz_lawAt p l e s m below meth c b hd hm G cB cI Q 456 (cells + 4) (slots + 4104) j) : oz_lawAt p l e s m below meth c b hd hm G cB cI Q 344 cells slots j := by
  intro tx rd q t bf mx wi la n r i k fM fT fW fR hn hr0 hi hk H locs hP hD hS ls hl
  have hA : ∀ q9 : Nat, s.heap.size ≤ q9 → (fun q9 : Nat => s.heap.size ≤ q9) q9 := fun _ h => h
  have hbA : ¬ (fun q9 : Nat => s.heap.size ≤ q9) b := Nat.not_le.mpr hbl
  refine lv_aload_n hx hb dL_law_344 rfl (lv_at hl 2 rfl) ?_
  refine oz_kc_i (nA := 0) (As := []) (rest := []) (wr := [oz_oM hm mx n wi i k la, oz_oI cI mx 256 fT, oz_oI cI wi 2048 fW, oz_oI cI la r fR]) (w3 := fun (u : Unit) => [oz_oM hm mx n wi i k la, oz_oI cI mx 256 fT, oz_oI cI wi 2048 fW, oz_oI cI la r fR, oz_oD hd tx n q rd, oz_oB cB tx 256 fT, oz_oB cB rd r fR, oz_oO q t bf i (if k + 1 ≤ i then k + 1 else k), oz_oB cB t 4 fM, oz_oB cB bf 2048 fW]) (C := RX0) hx hb hml hown hts hK hP hD hS hA (mt_X0_byteOut l G cB cI H.size hd tx rd q t bf n r i k fM fT fW fR hn hr0 hi hk) (lw_V q149 q150 q151 q12 q152) rfl rfl (by decide +kernel) rfl ⟨Nat.le_of_ble_eq_true rfl, Nat.le_of_ble_eq_true rfl⟩ [0, 1, 2, 3, 4, 5] [6, 7, 8, 9] rfl rfl rfl rfl (by decide) 0 rfl rfl rfl hl.1 (Nat.le_of_ble_eq_true rfl) dL_law_345 ⟨show _ ≤ 1200000 by omega, show _ ≤ 5502250 by omega⟩ (fun _ => rfl) (fun _ H locs hP hD hS => ?_)
  have hP : va_P G vwCl [oz_oM hm mx n wi i k la, oz_oI cI mx 256 fT, oz_oI cI wi 2048 fW, oz_oI cI la r fR, oz_oD hd tx n q rd, oz_oB cB tx 256 fT, oz_oB cB rd r fR, oz_oO q t bf i (if k + 1 ≤ i then k + 1 else k), oz_oB cB t 4 fM, oz_oB cB bf 2048 fW] H := hP
  have hD : va_D (fun q9 : Nat => s.heap.size ≤ q9) [oz_oM hm mx n wi i k la, oz_oI cI mx 256 fT, oz_oI cI wi 2048 fW, oz_oI cI la r fR, oz_oD hd tx n q rd, oz_oB cB tx 256 fT, oz_oB cB rd r fR, oz_oO q t bf i (if k + 1 ≤ i then k + 1 else k), oz_oB cB t 4 fM, oz_oB cB bf 2048 fW] := hD
  refine lv_aload_n hx hb dL_law_348 rfl (lv_at hl 3 rfl) ?_
  refine oz_kc_i (nA := 0) (As := []) (rest := [.int ((if k + 1 ≤ i then nI (oz_be fW k 1) else (-1 : Int32)))]) (wr := [oz_oD hd tx n q rd, oz_oB cB tx 256 fT, oz_oB cB rd r fR, oz_oO q t bf i (if k + 1 ≤ i then k + 1 else k), oz_oB cB t 4 fM, oz_oB cB bf 2048 fW]) (w3 := fun (u : Unit) => [oz_oD hd tx n q rd, oz_oB cB tx 256 fT, oz_oB cB rd r fR, oz_oO q t bf i (if k + 1 ≤ i then k + 1 else k), oz_oB cB t 4 fM, oz_oB cB bf 2048 fW, oz_oM hm mx n wi i (if k + 1 ≤ i then k + 1 else k) la, oz_oI cI mx 256 fT, oz_oI cI wi 2048 fW, oz_oI cI la r fR]) (C := RX2) hx hb hml hown hts hK hP hD hS hA (mt_X2_byteOut l G cB cI H.size hm mx wi la n r i k fT fW fR hn hr0 hi hk) (lw_V q313 q314 q315 q14 q316) rfl rfl (by decide +kernel) rfl ⟨Nat.le_of_ble_eq_true rfl, Nat.le_of_ble_eq_true rfl⟩ [0, 1, 2, 3] [4, 5, 6, 7, 8, 9] rfl rfl rfl rfl (by decide) 0 rfl rfl rfl hl.1 (Nat.le_of_ble_eq_true rfl) dL_law_349 ⟨show _ ≤ 1200000 by omega, show _ ≤ 5502250 by omega⟩ (fun _ => rfl) (fun _ H locs hP hD hS => ?_)
  have hP : va_P G vwCl [oz_oD hd tx n q rd, oz_oB cB tx 256 fT, oz_oB cB rd r fR, oz_oO q t bf i (if k + 1 ≤ i then k + 1 else k), oz_oB cB t 4 fM, oz_oB cB bf 2048 fW, oz_oM hm mx n wi i (if k + 1 ≤ i then k + 1 else k) la, oz_oI cI mx 256 fT, oz_oI cI wi 2048 fW, oz_oI cI la r fR] H := hP
  have hD : va_D (fun q9 : Nat => s.heap.size ≤ q9) [oz_oD hd tx n q rd, oz_oB cB tx 256 fT, oz_oB cB rd r fR, oz_oO q t bf i (if k + 1 ≤ i then k + 1 else k), oz_oB cB t 4 fM, oz_oB cB bf 2048 fW, oz_oM hm mx n wi i (if k + 1 ≤ i then k + 1 else k) la, oz_oI cI mx 256 fT, oz_oI cI wi 2048 fW, oz_oI cI la r fR] := hD
  refine lv_icmp_eq (tgt := 456) hx hb dL_law_352 (by decide) (fun _ => ?_) (fun z9 => absurd rfl z9)
  refine W.widen (k := cells + 4) (n := slots + 4104) (by omega) (by omega) ?_
  exact kk tx rd q t bf mx wi la n r i (if k + 1 ≤ i then k + 1 else k) fM fT fW fR (hn) (hr0) (hi) (by (repeat' split) <;> omega) _ _ hP hD hS ls hl

set_option maxHeartbeats 4000000 in
set_option maxRecDepth 100000 in
theorem oz_lc_shortOut {p : Program} {e : Env} {s : State} {m : MethodId} {below : List Frame} {meth : Method} {c : Code} {l : Launch} {b L : Nat} {xs : Nat → Int32} {G : va_G} {cB cI : ClassId} {hd hm : Nat} {Q : State → Prop} (hx : p.tables.exec = Jvm.exec) (hb : c.code = cL_law) (hml : c.maxLocals = 4) (hown : s.vm.findClass R_law = some m.cls) (hts : ∀ w ∈ lw_all, w.before #[Value.ref b] s = true) (hX : va_X b L xs s s.heap) (hbl : b < s.heap.size) (hK : va_K G vwCl (oz_kts cB cI) s) {cells slots j : Nat} (hL : L ≤ 288) (hj : j + 6 ≤ L) (hcs : cells + 4 ≤ 1200000) (hss : slots + 4104 ≤ 5502250) (kk : oz_lawAt p l e s m below meth c b hd hm G cB cI Q 456 (cells + 4) (slots + 4104) j) : oz_lawAt p l e s m below meth c b hd hm G cB cI Q 357 cells slots j := by
  intro tx rd q t bf mx wi la n r i k fM fT fW fR hn hr0 hi hk H locs hP hD hS ls hl
  have hA : ∀ q9 : Nat, s.heap.size ≤ q9 → (fun q9 : Nat => s.heap.size ≤ q9) q9 := fun _ h => h
  have hbA : ¬ (fun q9 : Nat => s.heap.size ≤ q9) b := Nat.not_le.mpr hbl
  refine lv_aload_n hx hb dL_law_357 rfl (lv_at hl 2 rfl) ?_
  refine oz_kc_i (nA := 0) (As := []) (rest := []) (wr := [oz_oM hm mx n wi i k la, oz_oI cI mx 256 fT, oz_oI cI wi 2048 fW, oz_oI cI la r fR]) (w3 := fun (u : Unit) => [oz_oM hm mx n wi i k la, oz_oI cI mx 256 fT, oz_oI cI wi 2048 fW, oz_oI cI la r fR, oz_oD hd tx n q rd, oz_oB cB tx 256 fT, oz_oB cB rd r fR, oz_oO q t bf i (if k + 2 ≤ i then k + 2 else k), oz_oB cB t 4 fM, oz_oB cB bf 2048 fW]) (C := RX0) hx hb hml hown hts hK hP hD hS hA (mt_X0_shortOut l G cB cI H.size hd tx rd q t bf n r i k fM fT fW fR hn hr0 hi hk) (lw_V q157 q158 q159 q12 q160) rfl rfl (by decide +kernel) rfl ⟨Nat.le_of_ble_eq_true rfl, Nat.le_of_ble_eq_true rfl⟩ [0, 1, 2, 3, 4, 5] [6, 7, 8, 9] rfl rfl rfl rfl (by decide) 0 rfl rfl rfl hl.1 (Nat.le_of_ble_eq_true rfl) dL_law_358 ⟨show _ ≤ 1200000 by omega, show _ ≤ 5502250 by omega⟩ (fun _ => rfl) (fun _ H locs hP hD hS => ?_)
  have hP : va_P G vwCl [oz_oM hm mx n wi i k la, oz_oI cI mx 256 fT, oz_oI cI wi 2048 fW, oz_oI cI la r fR, oz_oD hd tx n q rd, oz_oB cB tx 256 fT, oz_oB cB rd r fR, oz_oO q t bf i (if k + 2 ≤ i then k + 2 else k), oz_oB cB t 4 fM, oz_oB cB bf 2048 fW] H := hP
  have hD : va_D (fun q9 : Nat => s.heap.size ≤ q9) [oz_oM hm mx n wi i k la, oz_oI cI mx 256 fT, oz_oI cI wi 2048 fW, oz_oI cI la r fR, oz_oD hd tx n q rd, oz_oB cB tx 256 fT, oz_oB cB rd r fR, oz_oO q t bf i (if k + 2 ≤ i then k + 2 else k), oz_oB cB t 4 fM, oz_oB cB bf 2048 fW] := hD
  refine lv_aload_n hx hb dL_law_361 rfl (lv_at hl 3 rfl) ?_
  refine oz_kc_i (nA := 0) (As := []) (rest := [.int ((if k + 2 ≤ i then nI (oz_be fW k 2) else (-1 : Int32)))]) (wr := [oz_oD hd tx n q rd, oz_oB cB tx 256 fT, oz_oB cB rd r fR, oz_oO q t bf i (if k + 2 ≤ i then k + 2 else k), oz_oB cB t 4 fM, oz_oB cB bf 2048 fW]) (w3 := fun (u : Unit) => [oz_oD hd tx n q rd, oz_oB cB tx 256 fT, oz_oB cB rd r fR, oz_oO q t bf i (if k + 2 ≤ i then k + 2 else k), oz_oB cB t 4 fM, oz_oB cB bf 2048 fW, oz_oM hm mx n wi i (if k + 2 ≤ i then k + 2 else k) la, oz_oI cI mx 256 fT, oz_oI cI wi 2048 fW, oz_oI cI la r fR]) (C := RX2) hx hb hml hown hts hK hP hD hS hA (mt_X2_shortOut l G cB cI H.size hm mx wi la n r i k fT fW fR hn hr0 hi hk) (lw_V q327 q328 q329 q14 q330) rfl rfl (by decide +kernel) rfl ⟨Nat.le_of_ble_eq_true rfl, Nat.le_of_ble_eq_true rfl⟩ [0, 1, 2, 3] [4, 5, 6, 7, 8, 9] rfl rfl rfl rfl (by decide) 0 rfl rfl rfl hl.1 (Nat.le_of_ble_eq_true rfl) dL_law_362 ⟨show _ ≤ 1200000 by omega, show _ ≤ 5502250 by omega⟩ (fun _ => rfl) (fun _ H locs hP hD hS => ?_)
  have hP : va_P G vwCl [oz_oD hd tx n q rd, oz_oB cB tx 256 fT, oz_oB cB rd r fR, oz_oO q t bf i (if k + 2 ≤ i then k + 2 else k), oz_oB cB t 4 fM, oz_oB cB bf 2048 fW, oz_oM hm mx n wi i (if k + 2 ≤ i then k + 2 else k) la, oz_oI cI mx 256 fT, oz_oI cI wi 2048 fW, oz_oI cI la r fR] H := hP
  have hD : va_D (fun q9 : Nat => s.heap.size ≤ q9) [oz_oD hd tx n q rd, oz_oB cB tx 256 fT, oz_oB cB rd r fR, oz_oO q t bf i (if k + 2 ≤ i then k + 2 else k), oz_oB cB t 4 fM, oz_oB cB bf 2048 fW, oz_oM hm mx n wi i (if k + 2 ≤ i then k + 2 else k) la, oz_oI cI mx 256 fT, oz_oI cI wi 2048 fW, oz_oI cI la r fR] := hD
  refine lv_icmp_eq (tgt := 456) hx hb dL_law_365 (by decide) (fun _ => ?_) (fun z9 => absurd rfl z9)
  refine W.widen (k := cells + 4) (n := slots + 4104) (by omega) (by omega) ?_
  exact kk tx rd q t bf mx wi la n r i (if k + 2 ≤ i then k + 2 else k) fM fT fW fR (hn) (hr0) (hi) (by (repeat' split) <;> omega) _ _ hP hD hS ls hl

set_option maxHeartbeats 4000000 in
set_option maxRecDepth 100000 in
theorem oz_lc_intOut {p : Program} {e : Env} {s : State} {m : MethodId} {below : List Frame} {meth : Method} {c : Code} {l : Launch} {b L : Nat} {xs : Nat → Int32} {G : va_G} {cB cI : ClassId} {hd hm : Nat} {Q : State → Prop} (hx : p.tables.exec = Jvm.exec) (hb : c.code = cL_law) (hml : c.maxLocals = 4) (hown : s.vm.findClass R_law = some m.cls) (hts : ∀ w ∈ lw_all, w.before #[Value.ref b] s = true) (hX : va_X b L xs s s.heap) (hbl : b < s.heap.size) (hK : va_K G vwCl (oz_kts cB cI) s) {cells slots j : Nat} (hL : L ≤ 288) (hj : j + 6 ≤ L) (hcs : cells + 4 ≤ 1200000) (hss : slots + 4104 ≤ 5502250) (kk : oz_lawAt p l e s m below meth c b hd hm G cB cI Q 456 (cells + 4) (slots + 4104) j) : oz_lawAt p l e s m below meth c b hd hm G cB cI Q 370 cells slots j := by
  intro tx rd q t bf mx wi la n r i k fM fT fW fR hn hr0 hi hk H locs hP hD hS ls hl
  have hA : ∀ q9 : Nat, s.heap.size ≤ q9 → (fun q9 : Nat => s.heap.size ≤ q9) q9 := fun _ h => h
  have hbA : ¬ (fun q9 : Nat => s.heap.size ≤ q9) b := Nat.not_le.mpr hbl
  refine lv_aload_n hx hb dL_law_370 rfl (lv_at hl 2 rfl) ?_
  refine oz_kc_l (nA := 0) (As := []) (rest := []) (wr := [oz_oM hm mx n wi i k la, oz_oI cI mx 256 fT, oz_oI cI wi 2048 fW, oz_oI cI la r fR]) (w3 := fun (u : Unit) => [oz_oM hm mx n wi i k la, oz_oI cI mx 256 fT, oz_oI cI wi 2048 fW, oz_oI cI la r fR, oz_oD hd tx n q rd, oz_oB cB tx 256 fT, oz_oB cB rd r fR, oz_oO q t bf i (if k + 4 ≤ i then k + 4 else k), oz_oB cB t 4 fM, oz_oB cB bf 2048 fW]) (C := RX0) hx hb hml hown hts hK hP hD hS hA (mt_X0_intOut l G cB cI H.size hd tx rd q t bf n r i k fM fT fW fR hn hr0 hi hk) (lw_V q168 q169 q170 q12 q171) rfl rfl (by decide +kernel) rfl ⟨Nat.le_of_ble_eq_true rfl, Nat.le_of_ble_eq_true rfl⟩ [0, 1, 2, 3, 4, 5] [6, 7, 8, 9] rfl rfl rfl rfl (by decide) 0 rfl rfl rfl hl.1 (Nat.le_of_ble_eq_true rfl) dL_law_371 ⟨show _ ≤ 1200000 by omega, show _ ≤ 5502250 by omega⟩ (fun _ => rfl) (fun _ H locs hP hD hS => ?_)
  have hP : va_P G vwCl [oz_oM hm mx n wi i k la, oz_oI cI mx 256 fT, oz_oI cI wi 2048 fW, oz_oI cI la r fR, oz_oD hd tx n q rd, oz_oB cB tx 256 fT, oz_oB cB rd r fR, oz_oO q t bf i (if k + 4 ≤ i then k + 4 else k), oz_oB cB t 4 fM, oz_oB cB bf 2048 fW] H := hP
  have hD : va_D (fun q9 : Nat => s.heap.size ≤ q9) [oz_oM hm mx n wi i k la, oz_oI cI mx 256 fT, oz_oI cI wi 2048 fW, oz_oI cI la r fR, oz_oD hd tx n q rd, oz_oB cB tx 256 fT, oz_oB cB rd r fR, oz_oO q t bf i (if k + 4 ≤ i then k + 4 else k), oz_oB cB t 4 fM, oz_oB cB bf 2048 fW] := hD
  refine lv_aload_n hx hb dL_law_374 rfl (lv_at hl 3 rfl) ?_
  refine oz_kc_l (nA := 0) (As := []) (rest := [.long ((if k + 4 ≤ i then lN (oz_be fW k 4) else (-1 : Int64)))]) (wr := [oz_oD hd tx n q rd, oz_oB cB tx 256 fT, oz_oB cB rd r fR, oz_oO q t bf i (if k + 4 ≤ i then k + 4 else k), oz_oB cB t 4 fM, oz_oB cB bf 2048 fW]) (w3 := fun (u : Unit) => [oz_oD hd tx n q rd, oz_oB cB tx 256 fT, oz_oB cB rd r fR, oz_oO q t bf i (if k + 4 ≤ i then k + 4 else k), oz_oB cB t 4 fM, oz_oB cB bf 2048 fW, oz_oM hm mx n wi i (if k + 4 ≤ i then k + 4 else k) la, oz_oI cI mx 256 fT, oz_oI cI wi 2048 fW, oz_oI cI la r fR]) (C := RX2) hx hb hml hown hts hK hP hD hS hA (mt_X2_intOut l G cB cI H.size hm mx wi la n r i k fT fW fR hn hr0 hi hk) (lw_V q331 q332 q333 q14 q334) rfl rfl (by decide +kernel) rfl ⟨Nat.le_of_ble_eq_true rfl, Nat.le_of_ble_eq_true rfl⟩ [0, 1, 2, 3] [4, 5, 6, 7, 8, 9] rfl rfl rfl rfl (by decide) 0 rfl rfl rfl hl.1 (Nat.le_of_ble_eq_true rfl) dL_law_375 ⟨show _ ≤ 1200000 by omega, show _ ≤ 5502250 by omega⟩ (fun _ => rfl) (fun _ H locs hP hD hS => ?_)
  have hP : va_P G vwCl [oz_oD hd tx n q rd, oz_oB cB tx 256 fT, oz_oB cB rd r fR, oz_oO q t bf i (if k + 4 ≤ i then k + 4 else k), oz_oB cB t 4 fM, oz_oB cB bf 2048 fW, oz_oM hm mx n wi i (if k + 4 ≤ i then k + 4 else k) la, oz_oI cI mx 256 fT, oz_oI cI wi 2048 fW, oz_oI cI la r fR] H := hP
  have hD : va_D (fun q9 : Nat => s.heap.size ≤ q9) [oz_oD hd tx n q rd, oz_oB cB tx 256 fT, oz_oB cB rd r fR, oz_oO q t bf i (if k + 4 ≤ i then k + 4 else k), oz_oB cB t 4 fM, oz_oB cB bf 2048 fW, oz_oM hm mx n wi i (if k + 4 ≤ i then k + 4 else k) la, oz_oI cI mx 256 fT, oz_oI cI wi 2048 fW, oz_oI cI la r fR] := hD
  refine W.lcmp hx hb dL_law_378 ?_
  refine oz_ktop (oz_cmp_eq _) ?_
  refine lv_if_eq (tgt := 456) hx hb dL_law_379 (by decide) (fun _ => ?_) (fun z9 => absurd rfl z9)
  refine W.widen (k := cells + 4) (n := slots + 4104) (by omega) (by omega) ?_
  exact kk tx rd q t bf mx wi la n r i (if k + 4 ≤ i then k + 4 else k) fM fT fW fR (hn) (hr0) (hi) (by (repeat' split) <;> omega) _ _ hP hD hS ls hl

set_option maxHeartbeats 4000000 in
set_option maxRecDepth 100000 in
theorem oz_lc_longOut {p : Program} {e : Env} {s : State} {m : MethodId} {below : List Frame} {meth : Method} {c : Code} {l : Launch} {b L : Nat} {xs : Nat → Int32} {G : va_G} {cB cI : ClassId} {hd hm : Nat} {Q : State → Prop} (hx : p.tables.exec = Jvm.exec) (hb : c.code = cL_law) (hml : c.maxLocals = 4) (hown : s.vm.findClass R_law = some m.cls) (hts : ∀ w ∈ lw_all, w.before #[Value.ref b] s = true) (hX : va_X b L xs s s.heap) (hbl : b < s.heap.size) (hK : va_K G vwCl (oz_kts cB cI) s) {cells slots j : Nat} (hL : L ≤ 288) (hj : j + 6 ≤ L) (hcs : cells + 4 ≤ 1200000) (hss : slots + 4104 ≤ 5502250) (kk : oz_lawAt p l e s m below meth c b hd hm G cB cI Q 456 (cells + 4) (slots + 4104) j) : oz_lawAt p l e s m below meth c b hd hm G cB cI Q 384 cells slots j := by
  intro tx rd q t bf mx wi la n r i k fM fT fW fR hn hr0 hi hk H locs hP hD hS ls hl
  have hA : ∀ q9 : Nat, s.heap.size ≤ q9 → (fun q9 : Nat => s.heap.size ≤ q9) q9 := fun _ h => h
  have hbA : ¬ (fun q9 : Nat => s.heap.size ≤ q9) b := Nat.not_le.mpr hbl
  refine lv_aload_n hx hb dL_law_384 rfl (lv_at hl 2 rfl) ?_
  refine oz_kc_l (nA := 0) (As := []) (rest := []) (wr := [oz_oM hm mx n wi i k la, oz_oI cI mx 256 fT, oz_oI cI wi 2048 fW, oz_oI cI la r fR]) (w3 := fun (u : Unit) => [oz_oM hm mx n wi i k la, oz_oI cI mx 256 fT, oz_oI cI wi 2048 fW, oz_oI cI la r fR, oz_oD hd tx n q rd, oz_oB cB tx 256 fT, oz_oB cB rd r fR, oz_oO q t bf i (if k + 8 ≤ i then k + 8 else k), oz_oB cB t 4 fM, oz_oB cB bf 2048 fW]) (C := RX0) hx hb hml hown hts hK hP hD hS hA (mt_X0_longOut l G cB cI H.size hd tx rd q t bf n r i k fM fT fW fR hn hr0 hi hk) (lw_V q180 q181 q182 q12 q183) rfl rfl (by decide +kernel) rfl ⟨Nat.le_of_ble_eq_true rfl, Nat.le_of_ble_eq_true rfl⟩ [0, 1, 2, 3, 4, 5] [6, 7, 8, 9] rfl rfl rfl rfl (by decide) 0 rfl rfl rfl hl.1 (Nat.le_of_ble_eq_true rfl) dL_law_385 ⟨show _ ≤ 1200000 by omega, show _ ≤ 5502250 by omega⟩ (fun _ => rfl) (fun _ H locs hP hD hS => ?_)
  have hP : va_P G vwCl [oz_oM hm mx n wi i k la, oz_oI cI mx 256 fT, oz_oI cI wi 2048 fW, oz_oI cI la r fR, oz_oD hd tx n q rd, oz_oB cB tx 256 fT, oz_oB cB rd r fR, oz_oO q t bf i (if k + 8 ≤ i then k + 8 else k), oz_oB cB t 4 fM, oz_oB cB bf 2048 fW] H := hP
  have hD : va_D (fun q9 : Nat => s.heap.size ≤ q9) [oz_oM hm mx n wi i k la, oz_oI cI mx 256 fT, oz_oI cI wi 2048 fW, oz_oI cI la r fR, oz_oD hd tx n q rd, oz_oB cB tx 256 fT, oz_oB cB rd r fR, oz_oO q t bf i (if k + 8 ≤ i then k + 8 else k), oz_oB cB t 4 fM, oz_oB cB bf 2048 fW] := hD
  refine lv_aload_n hx hb dL_law_388 rfl (lv_at hl 3 rfl) ?_
  refine oz_kc_l (nA := 0) (As := []) (rest := [.long ((if k + 8 ≤ i then lN (oz_be fW k 8) else (-1 : Int64)))]) (wr := [oz_oD hd tx n q rd, oz_oB cB tx 256 fT, oz_oB cB rd r fR, oz_oO q t bf i (if k + 8 ≤ i then k + 8 else k), oz_oB cB t 4 fM, oz_oB cB bf 2048 fW]) (w3 := fun (u : Unit) => [oz_oD hd tx n q rd, oz_oB cB tx 256 fT, oz_oB cB rd r fR, oz_oO q t bf i (if k + 8 ≤ i then k + 8 else k), oz_oB cB t 4 fM, oz_oB cB bf 2048 fW, oz_oM hm mx n wi i (if k + 8 ≤ i then k + 8 else k) la, oz_oI cI mx 256 fT, oz_oI cI wi 2048 fW, oz_oI cI la r fR]) (C := RX2) hx hb hml hown hts hK hP hD hS hA (mt_X2_longOut l G cB cI H.size hm mx wi la n r i k fT fW fR hn hr0 hi hk) (lw_V q335 q336 q337 q14 q338) rfl rfl (by decide +kernel) rfl ⟨Nat.le_of_ble_eq_true rfl, Nat.le_of_ble_eq_true rfl⟩ [0, 1, 2, 3] [4, 5, 6, 7, 8, 9] rfl rfl rfl rfl (by decide) 0 rfl rfl rfl hl.1 (Nat.le_of_ble_eq_true rfl) dL_law_389 ⟨show _ ≤ 1200000 by omega, show _ ≤ 5502250 by omega⟩ (fun _ => rfl) (fun _ H locs hP hD hS => ?_)
  have hP : va_P G vwCl [oz_oD hd tx n q rd, oz_oB cB tx 256 fT, oz_oB cB rd r fR, oz_oO q t bf i (if k + 8 ≤ i then k + 8 else k), oz_oB cB t 4 fM, oz_oB cB bf 2048 fW, oz_oM hm mx n wi i (if k + 8 ≤ i then k + 8 else k) la, oz_oI cI mx 256 fT, oz_oI cI wi 2048 fW, oz_oI cI la r fR] H := hP
  have hD : va_D (fun q9 : Nat => s.heap.size ≤ q9) [oz_oD hd tx n q rd, oz_oB cB tx 256 fT, oz_oB cB rd r fR, oz_oO q t bf i (if k + 8 ≤ i then k + 8 else k), oz_oB cB t 4 fM, oz_oB cB bf 2048 fW, oz_oM hm mx n wi i (if k + 8 ≤ i then k + 8 else k) la, oz_oI cI mx 256 fT, oz_oI cI wi 2048 fW, oz_oI cI la r fR] := hD
  refine W.lcmp hx hb dL_law_392 ?_
  refine oz_ktop (oz_cmp_eq _) ?_
  refine lv_if_eq (tgt := 456) hx hb dL_law_393 (by decide) (fun _ => ?_) (fun z9 => absurd rfl z9)
  refine W.widen (k := cells + 4) (n := slots + 4104) (by omega) (by omega) ?_
  exact kk tx rd q t bf mx wi la n r i (if k + 8 ≤ i then k + 8 else k) fM fT fW fR (hn) (hr0) (hi) (by (repeat' split) <;> omega) _ _ hP hD hS ls hl

set_option maxHeartbeats 4000000 in
set_option maxRecDepth 100000 in
theorem oz_lc_stringOut {p : Program} {e : Env} {s : State} {m : MethodId} {below : List Frame} {meth : Method} {c : Code} {l : Launch} {b L : Nat} {xs : Nat → Int32} {G : va_G} {cB cI : ClassId} {hd hm : Nat} {Q : State → Prop} (hx : p.tables.exec = Jvm.exec) (hb : c.code = cL_law) (hml : c.maxLocals = 4) (hown : s.vm.findClass R_law = some m.cls) (hts : ∀ w ∈ lw_all, w.before #[Value.ref b] s = true) (hX : va_X b L xs s s.heap) (hbl : b < s.heap.size) (hK : va_K G vwCl (oz_kts cB cI) s) {cells slots j : Nat} (hL : L ≤ 288) (hj : j + 6 ≤ L) (hcs : cells + 4 ≤ 1200000) (hss : slots + 4104 ≤ 5502250) (kk : oz_lawAt p l e s m below meth c b hd hm G cB cI Q 456 (cells + 4) (slots + 4104) j) : oz_lawAt p l e s m below meth c b hd hm G cB cI Q 398 cells slots j := by
  intro tx rd q t bf mx wi la n r i k fM fT fW fR hn hr0 hi hk H locs hP hD hS ls hl
  have hA : ∀ q9 : Nat, s.heap.size ≤ q9 → (fun q9 : Nat => s.heap.size ≤ q9) q9 := fun _ h => h
  have hbA : ¬ (fun q9 : Nat => s.heap.size ≤ q9) b := Nat.not_le.mpr hbl
  refine lv_aload_n hx hb dL_law_398 rfl (lv_at hl 2 rfl) ?_
  refine oz_kc_i (nA := 0) (As := []) (rest := []) (wr := [oz_oM hm mx n wi i k la, oz_oI cI mx 256 fT, oz_oI cI wi 2048 fW, oz_oI cI la r fR]) (w3 := fun (u : Nat) => [oz_oM hm mx n wi i k la, oz_oI cI mx 256 fT, oz_oI cI wi 2048 fW, oz_oI cI la r fR, oz_oD hd tx n q u, oz_oB cB tx 256 fT, oz_oB cB u (if k + 4 ≤ i ∧ oz_be fW k 4 ≤ i - k - 4 then oz_be fW k 4 else r) (if k + 4 ≤ i ∧ oz_be fW k 4 ≤ i - k - 4 then oz_sl fW (k + 4) (oz_be fW k 4) else fR), oz_oO q t bf i (if k + 4 ≤ i ∧ oz_be fW k 4 ≤ i - k - 4 then k + 4 + oz_be fW k 4 else k), oz_oB cB t 4 fM, oz_oB cB bf 2048 fW]) (C := RX0) hx hb hml hown hts hK hP hD hS hA (mt_X0_stringOut l G cB cI H.size hd tx rd q t bf n r i k fM fT fW fR hn hr0 hi hk) (lw_V q196 q197 q198 q12 q199) rfl rfl (by decide +kernel) rfl ⟨Nat.le_of_ble_eq_true rfl, Nat.le_of_ble_eq_true rfl⟩ [0, 1, 2, 3, 4, 5] [6, 7, 8, 9] rfl rfl rfl rfl (by decide) 0 rfl rfl rfl hl.1 (Nat.le_of_ble_eq_true rfl) dL_law_399 ⟨show _ ≤ 1200000 by omega, show _ ≤ 5502250 by omega⟩ (fun _ => rfl) (fun rd2 H locs hP hD hS => ?_)
  have hP : va_P G vwCl [oz_oM hm mx n wi i k la, oz_oI cI mx 256 fT, oz_oI cI wi 2048 fW, oz_oI cI la r fR, oz_oD hd tx n q rd2, oz_oB cB tx 256 fT, oz_oB cB rd2 (if k + 4 ≤ i ∧ oz_be fW k 4 ≤ i - k - 4 then oz_be fW k 4 else r) (if k + 4 ≤ i ∧ oz_be fW k 4 ≤ i - k - 4 then oz_sl fW (k + 4) (oz_be fW k 4) else fR), oz_oO q t bf i (if k + 4 ≤ i ∧ oz_be fW k 4 ≤ i - k - 4 then k + 4 + oz_be fW k 4 else k), oz_oB cB t 4 fM, oz_oB cB bf 2048 fW] H := hP
  have hD : va_D (fun q9 : Nat => s.heap.size ≤ q9) [oz_oM hm mx n wi i k la, oz_oI cI mx 256 fT, oz_oI cI wi 2048 fW, oz_oI cI la r fR, oz_oD hd tx n q rd2, oz_oB cB tx 256 fT, oz_oB cB rd2 (if k + 4 ≤ i ∧ oz_be fW k 4 ≤ i - k - 4 then oz_be fW k 4 else r) (if k + 4 ≤ i ∧ oz_be fW k 4 ≤ i - k - 4 then oz_sl fW (k + 4) (oz_be fW k 4) else fR), oz_oO q t bf i (if k + 4 ≤ i ∧ oz_be fW k 4 ≤ i - k - 4 then k + 4 + oz_be fW k 4 else k), oz_oB cB t 4 fM, oz_oB cB bf 2048 fW] := hD
  refine lv_aload_n hx hb dL_law_402 rfl (lv_at hl 3 rfl) ?_
  refine oz_kc_i (nA := 0) (As := []) (rest := [.int ((if k + 4 ≤ i ∧ oz_be fW k 4 ≤ i - k - 4 then nI (oz_be fW k 4) else (-1 : Int32)))]) (wr := [oz_oD hd tx n q rd2, oz_oB cB tx 256 fT, oz_oB cB rd2 (if k + 4 ≤ i ∧ oz_be fW k 4 ≤ i - k - 4 then oz_be fW k 4 else r) (if k + 4 ≤ i ∧ oz_be fW k 4 ≤ i - k - 4 then oz_sl fW (k + 4) (oz_be fW k 4) else fR), oz_oO q t bf i (if k + 4 ≤ i ∧ oz_be fW k 4 ≤ i - k - 4 then k + 4 + oz_be fW k 4 else k), oz_oB cB t 4 fM, oz_oB cB bf 2048 fW]) (w3 := fun (u : Nat) => [oz_oD hd tx n q rd2, oz_oB cB tx 256 fT, oz_oB cB rd2 (if k + 4 ≤ i ∧ oz_be fW k 4 ≤ i - k - 4 then oz_be fW k 4 else r) (if k + 4 ≤ i ∧ oz_be fW k 4 ≤ i - k - 4 then oz_sl fW (k + 4) (oz_be fW k 4) else fR), oz_oO q t bf i (if k + 4 ≤ i ∧ oz_be fW k 4 ≤ i - k - 4 then k + 4 + oz_be fW k 4 else k), oz_oB cB t 4 fM, oz_oB cB bf 2048 fW, oz_oM hm mx n wi i (if k + 4 ≤ i ∧ oz_be fW k 4 ≤ i - k - 4 then k + 4 + oz_be fW k 4 else k) u, oz_oI cI mx 256 fT, oz_oI cI wi 2048 fW, oz_oI cI u (if k + 4 ≤ i ∧ oz_be fW k 4 ≤ i - k - 4 then oz_be fW k 4 else r) (if k + 4 ≤ i ∧ oz_be fW k 4 ≤ i - k - 4 then oz_sl fW (k + 4) (oz_be fW k 4) else fR)]) (C := RX2) hx hb hml hown hts hK hP hD hS hA (mt_X2_stringOut l G cB cI H.size hm mx wi la n r i k fT fW fR hn hr0 hi hk) (lw_V q339 q340 q341 q14 q342) rfl rfl (by decide +kernel) rfl ⟨Nat.le_of_ble_eq_true rfl, Nat.le_of_ble_eq_true rfl⟩ [0, 1, 2, 3] [4, 5, 6, 7, 8, 9] rfl rfl rfl rfl (by decide) 0 rfl rfl rfl hl.1 (Nat.le_of_ble_eq_true rfl) dL_law_403 ⟨show _ ≤ 1200000 by omega, show _ ≤ 5502250 by omega⟩ (fun _ => rfl) (fun la2 H locs hP hD hS => ?_)
  have hP : va_P G vwCl [oz_oD hd tx n q rd2, oz_oB cB tx 256 fT, oz_oB cB rd2 (if k + 4 ≤ i ∧ oz_be fW k 4 ≤ i - k - 4 then oz_be fW k 4 else r) (if k + 4 ≤ i ∧ oz_be fW k 4 ≤ i - k - 4 then oz_sl fW (k + 4) (oz_be fW k 4) else fR), oz_oO q t bf i (if k + 4 ≤ i ∧ oz_be fW k 4 ≤ i - k - 4 then k + 4 + oz_be fW k 4 else k), oz_oB cB t 4 fM, oz_oB cB bf 2048 fW, oz_oM hm mx n wi i (if k + 4 ≤ i ∧ oz_be fW k 4 ≤ i - k - 4 then k + 4 + oz_be fW k 4 else k) la2, oz_oI cI mx 256 fT, oz_oI cI wi 2048 fW, oz_oI cI la2 (if k + 4 ≤ i ∧ oz_be fW k 4 ≤ i - k - 4 then oz_be fW k 4 else r) (if k + 4 ≤ i ∧ oz_be fW k 4 ≤ i - k - 4 then oz_sl fW (k + 4) (oz_be fW k 4) else fR)] H := hP
  have hD : va_D (fun q9 : Nat => s.heap.size ≤ q9) [oz_oD hd tx n q rd2, oz_oB cB tx 256 fT, oz_oB cB rd2 (if k + 4 ≤ i ∧ oz_be fW k 4 ≤ i - k - 4 then oz_be fW k 4 else r) (if k + 4 ≤ i ∧ oz_be fW k 4 ≤ i - k - 4 then oz_sl fW (k + 4) (oz_be fW k 4) else fR), oz_oO q t bf i (if k + 4 ≤ i ∧ oz_be fW k 4 ≤ i - k - 4 then k + 4 + oz_be fW k 4 else k), oz_oB cB t 4 fM, oz_oB cB bf 2048 fW, oz_oM hm mx n wi i (if k + 4 ≤ i ∧ oz_be fW k 4 ≤ i - k - 4 then k + 4 + oz_be fW k 4 else k) la2, oz_oI cI mx 256 fT, oz_oI cI wi 2048 fW, oz_oI cI la2 (if k + 4 ≤ i ∧ oz_be fW k 4 ≤ i - k - 4 then oz_be fW k 4 else r) (if k + 4 ≤ i ∧ oz_be fW k 4 ≤ i - k - 4 then oz_sl fW (k + 4) (oz_be fW k 4) else fR)] := hD
  refine lv_icmp_eq (tgt := 456) hx hb dL_law_406 (by decide) (fun _ => ?_) (fun z9 => absurd rfl z9)
  refine W.widen (k := cells + 4) (n := slots + 4104) (by omega) (by omega) ?_
  exact kk tx rd2 q t bf mx wi la2 n (if k + 4 ≤ i ∧ oz_be fW k 4 ≤ i - k - 4 then oz_be fW k 4 else r) i (if k + 4 ≤ i ∧ oz_be fW k 4 ≤ i - k - 4 then k + 4 + oz_be fW k 4 else k) fM fT fW (if k + 4 ≤ i ∧ oz_be fW k 4 ≤ i - k - 4 then oz_sl fW (k + 4) (oz_be fW k 4) else fR) (hn) (by (repeat' split) <;> omega) (hi) (by (repeat' split) <;> omega) _ _ hP hD hS ls hl

set_option maxHeartbeats 4000000 in
set_option maxRecDepth 100000 in
theorem oz_lc_read {p : Program} {e : Env} {s : State} {m : MethodId} {below : List Frame} {meth : Method} {c : Code} {l : Launch} {b L : Nat} {xs : Nat → Int32} {G : va_G} {cB cI : ClassId} {hd hm : Nat} {Q : State → Prop} (hx : p.tables.exec = Jvm.exec) (hb : c.code = cL_law) (hml : c.maxLocals = 4) (hown : s.vm.findClass R_law = some m.cls) (hts : ∀ w ∈ lw_all, w.before #[Value.ref b] s = true) (hX : va_X b L xs s s.heap) (hbl : b < s.heap.size) (hK : va_K G vwCl (oz_kts cB cI) s) {cells slots j : Nat} (hL : L ≤ 288) (hj : j + 6 ≤ L) (hcs : cells + 4 ≤ 1200000) (hss : slots + 4104 ≤ 5502250) (kk : oz_lawAt p l e s m below meth c b hd hm G cB cI Q 456 (cells + 4) (slots + 4104) j) : oz_lawAt p l e s m below meth c b hd hm G cB cI Q 411 cells slots j := by
  intro tx rd q t bf mx wi la n r i k fM fT fW fR hn hr0 hi hk H locs hP hD hS ls hl
  have hA : ∀ q9 : Nat, s.heap.size ≤ q9 → (fun q9 : Nat => s.heap.size ≤ q9) q9 := fun _ h => h
  have hbA : ¬ (fun q9 : Nat => s.heap.size ≤ q9) b := Nat.not_le.mpr hbl
  obtain ⟨v1, hv1, e1⟩ := wb_of32 (xs (j + 1))
  refine lv_aload_n hx hb dL_law_411 rfl (lv_at hl 2 rfl) ?_
  refine lv_aload_n hx hb dL_law_412 rfl (lv_at hl 1 rfl) ?_
  refine lv_iload_n hx hb dL_law_413 rfl (lv_at hl 0 rfl) ?_
  refine lv_iconst (v := nI 1) hx hb dL_law_414 (by decide) ?_
  refine oz_kadd hx hb dL_law_415 ?_
  refine oz_ks_ld hx hb hX hbl hbA hS (by omega) (by omega) e1 dL_law_416 ?_
  refine oz_kc_i (nA := 1) (As := [.int (nI v1)]) (rest := []) (wr := [oz_oM hm mx n wi i k la, oz_oI cI mx 256 fT, oz_oI cI wi 2048 fW, oz_oI cI la r fR]) (w3 := fun (u : Unit) => [oz_oM hm mx n wi i k la, oz_oI cI mx 256 fT, oz_oI cI wi 2048 fW, oz_oI cI la r fR, oz_oD hd tx n q rd, oz_oB cB tx 256 fT, oz_oB cB rd r fR, oz_oO q t bf i k, oz_oB cB t 4 fM, oz_oB cB bf 2048 fW]) (C := RX0) hx hb hml hown hts hK hP hD hS hA (mt_X0_read l G cB cI H.size hd tx rd q t bf n r i k fM fT fW fR v1 hn hr0 hi hk hv1) (lw_V q217 q218 q219 q12 q220) rfl rfl (by decide +kernel) rfl ⟨Nat.le_of_ble_eq_true rfl, Nat.le_of_ble_eq_true rfl⟩ [0, 1, 2, 3, 4, 5] [6, 7, 8, 9] rfl rfl rfl rfl (by decide) 0 rfl rfl rfl hl.1 (Nat.le_of_ble_eq_true rfl) dL_law_417 ⟨show _ ≤ 1200000 by omega, show _ ≤ 5502250 by omega⟩ (fun _ => rfl) (fun _ H locs hP hD hS => ?_)
  have hP : va_P G vwCl [oz_oM hm mx n wi i k la, oz_oI cI mx 256 fT, oz_oI cI wi 2048 fW, oz_oI cI la r fR, oz_oD hd tx n q rd, oz_oB cB tx 256 fT, oz_oB cB rd r fR, oz_oO q t bf i k, oz_oB cB t 4 fM, oz_oB cB bf 2048 fW] H := hP
  have hD : va_D (fun q9 : Nat => s.heap.size ≤ q9) [oz_oM hm mx n wi i k la, oz_oI cI mx 256 fT, oz_oI cI wi 2048 fW, oz_oI cI la r fR, oz_oD hd tx n q rd, oz_oB cB tx 256 fT, oz_oB cB rd r fR, oz_oO q t bf i k, oz_oB cB t 4 fM, oz_oB cB bf 2048 fW] := hD
  refine lv_aload_n hx hb dL_law_420 rfl (lv_at hl 3 rfl) ?_
  refine lv_aload_n hx hb dL_law_421 rfl (lv_at hl 1 rfl) ?_
  refine lv_iload_n hx hb dL_law_422 rfl (lv_at hl 0 rfl) ?_
  refine lv_iconst (v := nI 1) hx hb dL_law_423 (by decide) ?_
  refine oz_kadd hx hb dL_law_424 ?_
  refine oz_ks_ld hx hb hX hbl hbA hS (by omega) (by omega) e1 dL_law_425 ?_
  refine oz_kc_i (nA := 1) (As := [.int (nI v1)]) (rest := [.int ((if r = 0 then (-1 : Int32) else nI (fR (v1 % 2147483648 % r)).toNat))]) (wr := [oz_oD hd tx n q rd, oz_oB cB tx 256 fT, oz_oB cB rd r fR, oz_oO q t bf i k, oz_oB cB t 4 fM, oz_oB cB bf 2048 fW]) (w3 := fun (u : Unit) => [oz_oD hd tx n q rd, oz_oB cB tx 256 fT, oz_oB cB rd r fR, oz_oO q t bf i k, oz_oB cB t 4 fM, oz_oB cB bf 2048 fW, oz_oM hm mx n wi i k la, oz_oI cI mx 256 fT, oz_oI cI wi 2048 fW, oz_oI cI la r fR]) (C := RX2) hx hb hml hown hts hK hP hD hS hA (mt_X2_read l G cB cI H.size hm mx wi la n r i k fT fW fR v1 hn hr0 hi hk hv1) (lw_V q343 q344 q345 q14 q346) rfl rfl (by decide +kernel) rfl ⟨Nat.le_of_ble_eq_true rfl, Nat.le_of_ble_eq_true rfl⟩ [0, 1, 2, 3] [4, 5, 6, 7, 8, 9] rfl rfl rfl rfl (by decide) 0 rfl rfl rfl hl.1 (Nat.le_of_ble_eq_true rfl) dL_law_426 ⟨show _ ≤ 1200000 by omega, show _ ≤ 5502250 by omega⟩ (fun _ => rfl) (fun _ H locs hP hD hS => ?_)
  have hP : va_P G vwCl [oz_oD hd tx n q rd, oz_oB cB tx 256 fT, oz_oB cB rd r fR, oz_oO q t bf i k, oz_oB cB t 4 fM, oz_oB cB bf 2048 fW, oz_oM hm mx n wi i k la, oz_oI cI mx 256 fT, oz_oI cI wi 2048 fW, oz_oI cI la r fR] H := hP
  have hD : va_D (fun q9 : Nat => s.heap.size ≤ q9) [oz_oD hd tx n q rd, oz_oB cB tx 256 fT, oz_oB cB rd r fR, oz_oO q t bf i k, oz_oB cB t 4 fM, oz_oB cB bf 2048 fW, oz_oM hm mx n wi i k la, oz_oI cI mx 256 fT, oz_oI cI wi 2048 fW, oz_oI cI la r fR] := hD
  refine lv_icmp_eq (tgt := 456) hx hb dL_law_429 (by decide) (fun _ => ?_) (fun z9 => absurd rfl z9)
  refine W.widen (k := cells + 4) (n := slots + 4104) (by omega) (by omega) ?_
  exact kk tx rd q t bf mx wi la n r i k fM fT fW fR (hn) (hr0) (hi) (hk) _ _ hP hD hS ls hl

set_option maxHeartbeats 4000000 in
set_option maxRecDepth 100000 in
theorem oz_lc_back {p : Program} {e : Env} {s : State} {m : MethodId} {below : List Frame} {meth : Method} {c : Code} {l : Launch} {b L : Nat} {xs : Nat → Int32} {G : va_G} {cB cI : ClassId} {hd hm : Nat} {Q : State → Prop} (hx : p.tables.exec = Jvm.exec) (hb : c.code = cL_law) (hml : c.maxLocals = 4) (hown : s.vm.findClass R_law = some m.cls) (hts : ∀ w ∈ lw_all, w.before #[Value.ref b] s = true) (hX : va_X b L xs s s.heap) (hbl : b < s.heap.size) (hK : va_K G vwCl (oz_kts cB cI) s) {cells slots j : Nat} (hL : L ≤ 288) (hj : j + 6 ≤ L) (hcs : cells + 4 ≤ 1200000) (hss : slots + 4104 ≤ 5502250) (kk : oz_lawAt p l e s m below meth c b hd hm G cB cI Q 456 (cells + 4) (slots + 4104) j) : oz_lawAt p l e s m below meth c b hd hm G cB cI Q 434 cells slots j := by
  intro tx rd q t bf mx wi la n r i k fM fT fW fR hn hr0 hi hk H locs hP hD hS ls hl
  have hA : ∀ q9 : Nat, s.heap.size ≤ q9 → (fun q9 : Nat => s.heap.size ≤ q9) q9 := fun _ h => h
  have hbA : ¬ (fun q9 : Nat => s.heap.size ≤ q9) b := Nat.not_le.mpr hbl
  refine lv_aload_n hx hb dL_law_434 rfl (lv_at hl 2 rfl) ?_
  refine oz_kc_v (nA := 0) (As := []) (rest := []) (wr := [oz_oM hm mx n wi i k la, oz_oI cI mx 256 fT, oz_oI cI wi 2048 fW, oz_oI cI la r fR]) (w3 := fun (u : Unit) => [oz_oM hm mx n wi i k la, oz_oI cI mx 256 fT, oz_oI cI wi 2048 fW, oz_oI cI la r fR, oz_oD hd tx n q rd, oz_oB cB tx 256 fT, oz_oB cB rd r fR, oz_oO q t bf i 0, oz_oB cB t 4 fM, oz_oB cB bf 2048 fW]) (C := RX0) hx hb hml hown hts hK hP hD hS hA (mt_X0_back l G cB cI H.size hd tx rd q t bf n r i k fM fT fW fR hn hr0 hi hk) (lw_V q221 q222 q223 q12 q224) rfl rfl (by decide +kernel) rfl ⟨Nat.le_of_ble_eq_true rfl, Nat.le_of_ble_eq_true rfl⟩ [0, 1, 2, 3, 4, 5] [6, 7, 8, 9] rfl rfl rfl rfl (by decide) 0 rfl rfl rfl hl.1 (Nat.le_of_ble_eq_true rfl) dL_law_435 ⟨show _ ≤ 1200000 by omega, show _ ≤ 5502250 by omega⟩ (fun _ => rfl) (fun _ H locs hP hD hS => ?_)
  have hP : va_P G vwCl [oz_oM hm mx n wi i k la, oz_oI cI mx 256 fT, oz_oI cI wi 2048 fW, oz_oI cI la r fR, oz_oD hd tx n q rd, oz_oB cB tx 256 fT, oz_oB cB rd r fR, oz_oO q t bf i 0, oz_oB cB t 4 fM, oz_oB cB bf 2048 fW] H := hP
  have hD : va_D (fun q9 : Nat => s.heap.size ≤ q9) [oz_oM hm mx n wi i k la, oz_oI cI mx 256 fT, oz_oI cI wi 2048 fW, oz_oI cI la r fR, oz_oD hd tx n q rd, oz_oB cB tx 256 fT, oz_oB cB rd r fR, oz_oO q t bf i 0, oz_oB cB t 4 fM, oz_oB cB bf 2048 fW] := hD
  refine lv_aload_n hx hb dL_law_438 rfl (lv_at hl 3 rfl) ?_
  refine oz_kc_v (nA := 0) (As := []) (rest := []) (wr := [oz_oD hd tx n q rd, oz_oB cB tx 256 fT, oz_oB cB rd r fR, oz_oO q t bf i 0, oz_oB cB t 4 fM, oz_oB cB bf 2048 fW]) (w3 := fun (u : Unit) => [oz_oD hd tx n q rd, oz_oB cB tx 256 fT, oz_oB cB rd r fR, oz_oO q t bf i 0, oz_oB cB t 4 fM, oz_oB cB bf 2048 fW, oz_oM hm mx n wi i 0 la, oz_oI cI mx 256 fT, oz_oI cI wi 2048 fW, oz_oI cI la r fR]) (C := RX2) hx hb hml hown hts hK hP hD hS hA (mt_X2_back l G cB cI H.size hm mx wi la n r i k fT fW fR hn hr0 hi hk) (lw_V q347 q348 q349 q14 q350) rfl rfl (by decide +kernel) rfl ⟨Nat.le_of_ble_eq_true rfl, Nat.le_of_ble_eq_true rfl⟩ [0, 1, 2, 3] [4, 5, 6, 7, 8, 9] rfl rfl rfl rfl (by decide) 0 rfl rfl rfl hl.1 (Nat.le_of_ble_eq_true rfl) dL_law_439 ⟨show _ ≤ 1200000 by omega, show _ ≤ 5502250 by omega⟩ (fun _ => rfl) (fun _ H locs hP hD hS => ?_)
  have hP : va_P G vwCl [oz_oD hd tx n q rd, oz_oB cB tx 256 fT, oz_oB cB rd r fR, oz_oO q t bf i 0, oz_oB cB t 4 fM, oz_oB cB bf 2048 fW, oz_oM hm mx n wi i 0 la, oz_oI cI mx 256 fT, oz_oI cI wi 2048 fW, oz_oI cI la r fR] H := hP
  have hD : va_D (fun q9 : Nat => s.heap.size ≤ q9) [oz_oD hd tx n q rd, oz_oB cB tx 256 fT, oz_oB cB rd r fR, oz_oO q t bf i 0, oz_oB cB t 4 fM, oz_oB cB bf 2048 fW, oz_oM hm mx n wi i 0 la, oz_oI cI mx 256 fT, oz_oI cI wi 2048 fW, oz_oI cI la r fR] := hD
  refine lv_goto (tgt := 456) hx hb dL_law_442 (by decide) ?_
  refine W.widen (k := cells + 4) (n := slots + 4104) (by omega) (by omega) ?_
  exact kk tx rd q t bf mx wi la n r i 0 fM fT fW fR (hn) (hr0) (hi) (Nat.zero_le i) _ _ hP hD hS ls hl

set_option maxHeartbeats 4000000 in
set_option maxRecDepth 100000 in
theorem oz_lc_anew {p : Program} {e : Env} {s : State} {m : MethodId} {below : List Frame} {meth : Method} {c : Code} {l : Launch} {b L : Nat} {xs : Nat → Int32} {G : va_G} {cB cI : ClassId} {hd hm : Nat} {Q : State → Prop} (hx : p.tables.exec = Jvm.exec) (hb : c.code = cL_law) (hml : c.maxLocals = 4) (hown : s.vm.findClass R_law = some m.cls) (hts : ∀ w ∈ lw_all, w.before #[Value.ref b] s = true) (hX : va_X b L xs s s.heap) (hbl : b < s.heap.size) (hK : va_K G vwCl (oz_kts cB cI) s) {cells slots j : Nat} (hL : L ≤ 288) (hj : j + 6 ≤ L) (hcs : cells + 4 ≤ 1200000) (hss : slots + 4104 ≤ 5502250) (kk : oz_lawAt p l e s m below meth c b hd hm G cB cI Q 456 (cells + 4) (slots + 4104) j) : oz_lawAt p l e s m below meth c b hd hm G cB cI Q 445 cells slots j := by
  intro tx rd q t bf mx wi la n r i k fM fT fW fR hn hr0 hi hk H locs hP hD hS ls hl
  have hA : ∀ q9 : Nat, s.heap.size ≤ q9 → (fun q9 : Nat => s.heap.size ≤ q9) q9 := fun _ h => h
  have hbA : ¬ (fun q9 : Nat => s.heap.size ≤ q9) b := Nat.not_le.mpr hbl
  refine lv_aload_n hx hb dL_law_445 rfl (lv_at hl 2 rfl) ?_
  refine oz_kc_v (nA := 0) (As := []) (rest := []) (wr := [oz_oM hm mx n wi i k la, oz_oI cI mx 256 fT, oz_oI cI wi 2048 fW, oz_oI cI la r fR]) (w3 := fun (u : (Nat × Nat × Nat)) => [oz_oM hm mx n wi i k la, oz_oI cI mx 256 fT, oz_oI cI wi 2048 fW, oz_oI cI la r fR, oz_oD hd tx n u.1 rd, oz_oB cB tx 256 fT, oz_oB cB rd r fR, oz_oO u.1 u.2.1 u.2.2 0 0, oz_oB cB u.2.1 4 oz_z8, oz_oB cB u.2.2 2048 oz_z8]) (C := RX0) hx hb hml hown hts hK hP hD hS hA (mt_X0_anew l G cB cI H.size hd tx rd q t bf n r i k fM fT fW fR hn hr0 hi hk) (lw_V q229 q230 q231 q12 q232) rfl rfl (by decide +kernel) rfl ⟨Nat.le_of_ble_eq_true rfl, Nat.le_of_ble_eq_true rfl⟩ [0, 1, 2, 3, 4, 5] [6, 7, 8, 9] rfl rfl rfl rfl (by decide) 0 rfl rfl rfl hl.1 (Nat.le_of_ble_eq_true rfl) dL_law_446 ⟨show _ ≤ 1200000 by omega, show _ ≤ 5502250 by omega⟩ (fun _ => rfl) (fun u H locs hP hD hS => ?_)
  obtain ⟨q2, t2, b2⟩ := u
  have hP : va_P G vwCl [oz_oM hm mx n wi i k la, oz_oI cI mx 256 fT, oz_oI cI wi 2048 fW, oz_oI cI la r fR, oz_oD hd tx n q2 rd, oz_oB cB tx 256 fT, oz_oB cB rd r fR, oz_oO q2 t2 b2 0 0, oz_oB cB t2 4 oz_z8, oz_oB cB b2 2048 oz_z8] H := hP
  have hD : va_D (fun q9 : Nat => s.heap.size ≤ q9) [oz_oM hm mx n wi i k la, oz_oI cI mx 256 fT, oz_oI cI wi 2048 fW, oz_oI cI la r fR, oz_oD hd tx n q2 rd, oz_oB cB tx 256 fT, oz_oB cB rd r fR, oz_oO q2 t2 b2 0 0, oz_oB cB t2 4 oz_z8, oz_oB cB b2 2048 oz_z8] := hD
  refine lv_aload_n hx hb dL_law_449 rfl (lv_at hl 3 rfl) ?_
  refine oz_kc_v (nA := 0) (As := []) (rest := []) (wr := [oz_oD hd tx n q2 rd, oz_oB cB tx 256 fT, oz_oB cB rd r fR, oz_oO q2 t2 b2 0 0, oz_oB cB t2 4 oz_z8, oz_oB cB b2 2048 oz_z8]) (w3 := fun (u : Nat) => [oz_oD hd tx n q2 rd, oz_oB cB tx 256 fT, oz_oB cB rd r fR, oz_oO q2 t2 b2 0 0, oz_oB cB t2 4 oz_z8, oz_oB cB b2 2048 oz_z8, oz_oM hm mx n u 0 0 la, oz_oI cI mx 256 fT, oz_oI cI u 2048 oz_z8, oz_oI cI la r fR]) (C := RX2) hx hb hml hown hts hK hP hD hS hA (mt_X2_anew l G cB cI H.size hm mx wi la n r i k fT fW fR hn hr0 hi hk) (lw_V q351 q352 q353 q14 q354) rfl rfl (by decide +kernel) rfl ⟨Nat.le_of_ble_eq_true rfl, Nat.le_of_ble_eq_true rfl⟩ [0, 1, 2, 3] [4, 5, 6, 7, 8, 9] rfl rfl rfl rfl (by decide) 0 rfl rfl rfl hl.1 (Nat.le_of_ble_eq_true rfl) dL_law_450 ⟨show _ ≤ 1200000 by omega, show _ ≤ 5502250 by omega⟩ (fun _ => rfl) (fun wi2 H locs hP hD hS => ?_)
  have hP : va_P G vwCl [oz_oD hd tx n q2 rd, oz_oB cB tx 256 fT, oz_oB cB rd r fR, oz_oO q2 t2 b2 0 0, oz_oB cB t2 4 oz_z8, oz_oB cB b2 2048 oz_z8, oz_oM hm mx n wi2 0 0 la, oz_oI cI mx 256 fT, oz_oI cI wi2 2048 oz_z8, oz_oI cI la r fR] H := hP
  have hD : va_D (fun q9 : Nat => s.heap.size ≤ q9) [oz_oD hd tx n q2 rd, oz_oB cB tx 256 fT, oz_oB cB rd r fR, oz_oO q2 t2 b2 0 0, oz_oB cB t2 4 oz_z8, oz_oB cB b2 2048 oz_z8, oz_oM hm mx n wi2 0 0 la, oz_oI cI mx 256 fT, oz_oI cI wi2 2048 oz_z8, oz_oI cI la r fR] := hD
  refine lv_goto (tgt := 456) hx hb dL_law_453 (by decide) ?_
  refine W.widen (k := cells + 4) (n := slots + 4104) (by omega) (by omega) ?_
  exact kk tx rd q2 t2 b2 mx wi2 la n r 0 0 oz_z8 fT oz_z8 fR (hn) (hr0) (Nat.zero_le _) (Nat.le_refl 0) _ _ hP hD hS ls hl
end
section
set_option maxRecDepth 100000

/-- 'i <= script.length - 6': the law goes on where six ints more are there -/
theorem oz_law_test {p : Program} {l : Launch} {e : Env} {R : Room} {s : State} {m : MethodId} {args : Array Value} {below : List Frame} {meth : Method} {c : Code} {H : Heap} {locs : List Loc} {cells slots : Nat} {Q : State → Prop} {cc : ByteArray} {pc : Nat} {ls : Array Slot} {rest : List Value} (hx : p.tables.exec = Jvm.exec) (hb : c.code = cc) {j L : Nat} (hL : L ≤ 288) (hj : j ≤ 288) {off : Int} {tgt : Nat} (hd1 : decode cc pc = .ok (.isub, 1)) (hd2 : decode cc (pc + 1) = .ok (.if_icmp .gt off, 3)) (ht : ((pc + 1 : Nat) : Int) + off = (tgt : Int)) (kt : L < j + 6 → W p l e R s m args below meth c H locs cells slots Q (F0 m tgt ls rest)) (kf : j + 6 ≤ L → W p l e R s m args below meth c H locs cells slots Q (F0 m (pc + 1 + 3) ls rest)) : W p l e R s m args below meth c H locs cells slots Q (F0 m pc ls (.int (nI 6) :: .int (nI L) :: .int (nI j) :: rest)) := by
  refine lv_isub hx hb hd1 ?_
  have e1 : (nI L - nI 6).toInt = (L : Int) - 6 := pk_sub_toInt (by omega) (by omega)
  have e2 : (nI j).toInt = (j : Int) := nI_toInt (by omega)
  refine lv_icmp_gt hx hb hd2 ht (fun h => kt ?_) (fun h => kf ?_)
  · rw [Int32.lt_iff_toInt_lt, e1, e2] at h
    omega
  · rw [Int32.lt_iff_toInt_lt, e1, e2] at h
    omega
set_option maxHeartbeats 4000000 in
set_option maxRecDepth 100000 in
/-- the law at its head: j ints read, so many calls still to come; behind the loop: kk -/
theorem oz_law_loop {p : Program} {e : Env} {s : State} {m : MethodId} {below : List Frame} {meth : Method} {c : Code} {l : Launch} {b L : Nat} {xs : Nat → Int32} {G : va_G} {cB cI : ClassId} {hd hm : Nat} {Q : State → Prop} (hx : p.tables.exec = Jvm.exec) (hb : c.code = cL_law) (hml : c.maxLocals = 4) (hown : s.vm.findClass R_law = some m.cls) (hts : ∀ w ∈ lw_all, w.before #[Value.ref b] s = true) (hX : va_X b L xs s s.heap) (hbl : b < s.heap.size) (hK : va_K G vwCl (oz_kts cB cI) s) (hL : L ≤ 288)
    (kk : ∀ cells slots j : Nat, cells ≤ 1200000 → slots ≤ 5502250 → oz_lawAt p l e s m below meth c b hd hm G cB cI Q 462 cells slots j) :
    ∀ (d j cells slots : Nat), L < j + 6 * d + 6 → j ≤ L → cells + 4 * d ≤ 1200000 → slots + 4104 * d ≤ 5502250 → oz_lawAt p l e s m below meth c b hd hm G cB cI Q 18 cells slots j := by
  intro d
  induction d with
  | zero =>
    intro j cells slots h1 hjL h2 h3
    intro tx rd q t bf mx wi la n r i k fM fT fW fR hn hr0 hi hk H locs hP hD hS ls hl
    have hA : ∀ q9 : Nat, s.heap.size ≤ q9 → (fun q9 : Nat => s.heap.size ≤ q9) q9 := fun _ h => h
    have hbA : ¬ (fun q9 : Nat => s.heap.size ≤ q9) b := Nat.not_le.mpr hbl
    refine lv_iload_n hx hb dL_law_18 rfl (lv_at hl 0 rfl) ?_
    refine lv_aload_n hx hb dL_law_19 rfl (lv_at hl 1 rfl) ?_
    refine va_slen hx hb hX hbl hbA hS dL_law_20 ?_
    refine lv_bipush (v := nI 6) hx hb dL_law_21 (by decide) ?_
    refine oz_law_test (tgt := 462) hx hb hL (by omega) dL_law_23 dL_law_24 (by decide) (fun _ => ?_) (fun h9 => absurd h9 (by omega))
    exact kk cells slots j (by omega) (by omega) tx rd q t bf mx wi la n r i k fM fT fW fR hn hr0 hi hk _ _ hP hD hS ls hl
  | succ d ih =>
    intro j cells slots h1 hjL h2 h3
    intro tx rd q t bf mx wi la n r i k fM fT fW fR hn hr0 hi hk H locs hP hD hS ls hl
    have hA : ∀ q9 : Nat, s.heap.size ≤ q9 → (fun q9 : Nat => s.heap.size ≤ q9) q9 := fun _ h => h
    have hbA : ¬ (fun q9 : Nat => s.heap.size ≤ q9) b := Nat.not_le.mpr hbl
    refine lv_iload_n hx hb dL_law_18 rfl (lv_at hl 0 rfl) ?_
    refine lv_aload_n hx hb dL_law_19 rfl (lv_at hl 1 rfl) ?_
    refine va_slen hx hb hX hbl hbA hS dL_law_20 ?_
    refine lv_bipush (v := nI 6) hx hb dL_law_21 (by decide) ?_
    refine oz_law_test (tgt := 462) hx hb hL (by omega) dL_law_23 dL_law_24 (by decide) (fun _ => ?_) (fun hj => ?_)
    · exact kk cells slots j (by omega) (by omega) tx rd q t bf mx wi la n r i k fM fT fW fR hn hr0 hi hk _ _ hP hD hS ls hl
    · have nx : oz_lawAt p l e s m below meth c b hd hm G cB cI Q 456 (cells + 4) (slots + 4104) j := by
        intro tx rd q t bf mx wi la n r i k fM fT fW fR hn hr0 hi hk H locs hP hD hS ls hl
        refine lv_iinc (v := nI (j + 6)) (lv' := [(3, .int (nI (j + 6))), (0, .ref b), (1, .ref hd), (2, .ref hm)]) hx hb dL_law_456 hl (k := 0) rfl (nI_add j 6) (by decide) rfl (fun ls hl => ?_)
        refine lv_goto (tgt := 18) hx hb dL_law_459 (by decide) ?_
        exact ih (j + 6) (cells + 4) (slots + 4104) (by omega) (by omega) (by omega) (by omega) tx rd q t bf mx wi la n r i k fM fT fW fR hn hr0 hi hk _ _ hP hD hS ls hl
      obtain ⟨v0, hv0, e0⟩ := wb_of32 (xs j)
      refine lv_aload_n hx hb dL_law_27 rfl (lv_at hl 1 rfl) ?_
      refine lv_iload_n hx hb dL_law_28 rfl (lv_at hl 0 rfl) ?_
      refine oz_ks_ld hx hb hX hbl hbA hS (by omega) (by omega) e0 dL_law_29 ?_
      refine lv_bipush (v := nI 15) hx hb dL_law_30 (by decide) ?_
      refine lv_iand hx hb dL_law_32 ?_
      refine oz_ktop (y := nI (v0 % 16)) (pk_andN hv0 (m := nI 15) 4 (by decide)) ?_
      generalize hw9 : v0 % 16 = w9
      have hlt : w9 < 16 := by omega
      have h16 : w9 = 0 ∨ w9 = 1 ∨ w9 = 2 ∨ w9 = 3 ∨ w9 = 4 ∨ w9 = 5 ∨ w9 = 6 ∨ w9 = 7 ∨ w9 = 8 ∨ w9 = 9 ∨ w9 = 10 ∨ w9 = 11 ∨ w9 = 12 ∨ w9 = 13 ∨ w9 = 14 ∨ w9 = 15 := by omega
      rcases h16 with rfl | rfl | rfl | rfl | rfl | rfl | rfl | rfl | rfl | rfl | rfl | rfl | rfl | rfl | rfl | rfl
      · refine lv_tableIn (off := 79) (tgt := 112) hx hb dL_law_33 (by decide) (by decide) (by decide) (by decide) ?_
        exact oz_lc_put hx hb hml hown hts hX hbl hK hL hj (by omega) (by omega) nx tx rd q t bf mx wi la n r i k fM fT fW fR hn hr0 hi hk _ _ hP hD hS ls hl
      · refine lv_tableIn (off := 132) (tgt := 165) hx hb dL_law_33 (by decide) (by decide) (by decide) (by decide) ?_
        exact oz_lc_trim hx hb hml hown hts hX hbl hK hL hj (by omega) (by omega) nx tx rd q t bf mx wi la n r i k fM fT fW fR hn hr0 hi hk _ _ hP hD hS ls hl
      · refine lv_tableIn (off := 153) (tgt := 186) hx hb dL_law_33 (by decide) (by decide) (by decide) (by decide) ?_
        exact oz_lc_byteIn hx hb hml hown hts hX hbl hK hL hj (by omega) (by omega) nx tx rd q t bf mx wi la n r i k fM fT fW fR hn hr0 hi hk _ _ hP hD hS ls hl
      · refine lv_tableIn (off := 176) (tgt := 209) hx hb dL_law_33 (by decide) (by decide) (by decide) (by decide) ?_
        exact oz_lc_intIn hx hb hml hown hts hX hbl hK hL hj (by omega) (by omega) nx tx rd q t bf mx wi la n r i k fM fT fW fR hn hr0 hi hk _ _ hP hD hS ls hl
      · refine lv_tableIn (off := 199) (tgt := 232) hx hb dL_law_33 (by decide) (by decide) (by decide) (by decide) ?_
        exact oz_lc_longIn hx hb hml hown hts hX hbl hK hL hj (by omega) (by omega) nx tx rd q t bf mx wi la n r i k fM fT fW fR hn hr0 hi hk _ _ hP hD hS ls hl
      · refine lv_tableIn (off := 232) (tgt := 265) hx hb dL_law_33 (by decide) (by decide) (by decide) (by decide) ?_
        exact oz_lc_stringIn hx hb hml hown hts hX hbl hK hL hj (by omega) (by omega) nx tx rd q t bf mx wi la n r i k fM fT fW fR hn hr0 hi hk _ _ hP hD hS ls hl
      · refine lv_tableIn (off := 265) (tgt := 298) hx hb dL_law_33 (by decide) (by decide) (by decide) (by decide) ?_
        exact oz_lc_numberIn hx hb hml hown hts hX hbl hK hL hj (by omega) (by omega) nx tx rd q t bf mx wi la n r i k fM fT fW fR hn hr0 hi hk _ _ hP hD hS ls hl
      · refine lv_tableIn (off := 298) (tgt := 331) hx hb dL_law_33 (by decide) (by decide) (by decide) (by decide) ?_
        exact oz_lc_left hx hb hml hown hts hX hbl hK hL hj (by omega) (by omega) nx tx rd q t bf mx wi la n r i k fM fT fW fR hn hr0 hi hk _ _ hP hD hS ls hl
      · refine lv_tableIn (off := 311) (tgt := 344) hx hb dL_law_33 (by decide) (by decide) (by decide) (by decide) ?_
        exact oz_lc_byteOut hx hb hml hown hts hX hbl hK hL hj (by omega) (by omega) nx tx rd q t bf mx wi la n r i k fM fT fW fR hn hr0 hi hk _ _ hP hD hS ls hl
      · refine lv_tableIn (off := 324) (tgt := 357) hx hb dL_law_33 (by decide) (by decide) (by decide) (by decide) ?_
        exact oz_lc_shortOut hx hb hml hown hts hX hbl hK hL hj (by omega) (by omega) nx tx rd q t bf mx wi la n r i k fM fT fW fR hn hr0 hi hk _ _ hP hD hS ls hl
      · refine lv_tableIn (off := 337) (tgt := 370) hx hb dL_law_33 (by decide) (by decide) (by decide) (by decide) ?_
        exact oz_lc_intOut hx hb hml hown hts hX hbl hK hL hj (by omega) (by omega) nx tx rd q t bf mx wi la n r i k fM fT fW fR hn hr0 hi hk _ _ hP hD hS ls hl
      · refine lv_tableIn (off := 351) (tgt := 384) hx hb dL_law_33 (by decide) (by decide) (by decide) (by decide) ?_
        exact oz_lc_longOut hx hb hml hown hts hX hbl hK hL hj (by omega) (by omega) nx tx rd q t bf mx wi la n r i k fM fT fW fR hn hr0 hi hk _ _ hP hD hS ls hl
      · refine lv_tableIn (off := 365) (tgt := 398) hx hb dL_law_33 (by decide) (by decide) (by decide) (by decide) ?_
        exact oz_lc_stringOut hx hb hml hown hts hX hbl hK hL hj (by omega) (by omega) nx tx rd q t bf mx wi la n r i k fM fT fW fR hn hr0 hi hk _ _ hP hD hS ls hl
      · refine lv_tableIn (off := 378) (tgt := 411) hx hb dL_law_33 (by decide) (by decide) (by decide) (by decide) ?_
        exact oz_lc_read hx hb hml hown hts hX hbl hK hL hj (by omega) (by omega) nx tx rd q t bf mx wi la n r i k fM fT fW fR hn hr0 hi hk _ _ hP hD hS ls hl
      · refine lv_tableIn (off := 401) (tgt := 434) hx hb dL_law_33 (by decide) (by decide) (by decide) (by decide) ?_
        exact oz_lc_back hx hb hml hown hts hX hbl hK hL hj (by omega) (by omega) nx tx rd q t bf mx wi la n r i k fM fT fW fR hn hr0 hi hk _ _ hP hD hS ls hl
      · refine lv_tableIn (off := 412) (tgt := 445) hx hb dL_law_33 (by decide) (by decide) (by decide) (by decide) ?_
        exact oz_lc_anew hx hb hml hown hts hX hbl hK hL hj (by omega) (by omega) nx tx rd q t bf mx wi la n r i k fM fT fW fR hn hr0 hi hk _ _ hP hD hS ls hl
end
section
set_option maxRecDepth 100000
set_option maxHeartbeats 4000000 in
set_option maxRecDepth 100000 in
/-- THE LAW, from its entry -/
theorem whole_start {p : Program} {e : Env} {s : State} {m : MethodId} {below : List Frame} {meth : Method} {c : Code} (l : Launch) (hflags : l.flags = flags0) {b L : Nat} {xs : Nat → Int32} (hL : L ≤ 288) (C0 : lw_At p s m meth c b L xs) : W p l e room_1 s m #[Value.ref b] below meth c s.heap [] 0 0 (lw_Z below #[Value.ref b] s) (entryFrame m ([Value.ref b] : List Value).toArray 4) := by
  obtain ⟨hx, hb, hr, hml, hown, hts0, hX, hbl, hlocks, hgv⟩ := id C0
  have hts : ∀ w ∈ lw_all, w.before #[Value.ref b] s = true := fun w h => hts0 w (lw_all_tbl h)
  have hA : ∀ q9 : Nat, s.heap.size ≤ q9 → (fun q9 : Nat => s.heap.size ≤ q9) q9 := fun _ h => h
  have hbA : ¬ (fun q9 : Nat => s.heap.size ≤ q9) b := Nat.not_le.mpr hbl
  obtain ⟨c0, iS0, hKn0⟩ := u_known (C := RX0) (T := TX0) (N := 4) (n := 4) hts in_X0 (hts _ q17)
  obtain ⟨c1, iS1, hKn1⟩ := u_known (C := RX1) (T := TX1) (N := 4) (n := 4) hts in_X1 (hts _ q25)
  obtain ⟨c2, iS2, hKn2⟩ := u_known (C := RX2) (T := TX2) (N := 6) (n := 6) hts in_X2 (hts _ q234)
  obtain ⟨cB, hcB⟩ := oz_k_arr (Or.inl rfl) (hts _ q45)
  obtain ⟨cI, hcI⟩ := oz_k_arr (Or.inr rfl) (hts _ q258)
  obtain ⟨G, hKc⟩ : ∃ G : va_G, ∀ (k : Nat) (q : vw_C), vwCl[k]? = some q → u_Kn s q.1 q.2.1 q.2.2 (G.1 k) (G.2 k) := by
    refine ⟨(fun k => if k = 0 then c0 else if k = 1 then c1 else c2, fun k => if k = 0 then iS0 else if k = 1 then iS1 else iS2), ?_⟩
    intro k q hq
    match k, hq with
    | 0, hq => cases hq; exact hKn0
    | 1, hq => cases hq; exact hKn1
    | 2, hq => cases hq; exact hKn2
    | k + 3, hq => simp [vwCl] at hq
  have hK : va_K G vwCl (oz_kts cB cI) s := by
    refine ⟨hKc, ?_⟩
    intro k q hq
    match k, hq with
    | 0, hq => cases hq; exact hcB
    | 1, hq => cases hq; exact hcI
    | k + 2, hq => simp [oz_kts] at hq
  have hS : va_S (fun q9 : Nat => s.heap.size ≤ q9) s.heap s.heap [] := va_S.rf
  have hP : va_P G vwCl [] s.heap := fun k q h => by simp at h
  have hD : va_D (fun q9 : Nat => s.heap.size ≤ q9) [] := ⟨fun i j p q h => by simp at h, fun k q h => by simp at h⟩
  have hl := lv_entry ([.ref b]) (n := 4) (Nat.le_of_ble_eq_true rfl)
  rw [lg_entry_eq]
  generalize (lg_sl ([.ref b]) ++ List.replicate (4 - (lg_sl ([.ref b])).length) Slot.unset).toArray = ls at hl ⊢
  have hl : lv_has ls 4 [(0, .ref b)] := hl
  refine va_new (ci := 0) (fs := [.null, .int 0, .null, .null]) (C := RX0) (T := TX0) (N := 4) hx hb hts in_X0 tyX0 tyX0_ok hown (hts _ q16) (hts _ q17) (hts _ q12) hK hP hD hS hA rfl (fun j hj => by rcases (show j = 0 ∨ j = 1 ∨ j = 2 ∨ j = 3 by omega) with rfl | rfl | rfl | rfl <;> rfl) (show _ ≤ 1200000 by decide) (show _ ≤ 5502250 by decide) dL_law_0 (fun hd H hP hD hS => ?_)
  have hP : va_P G vwCl [(hd, .inr (0, [.null, .int 0, .null, .null]))] H := hP
  have hD : va_D (fun q9 : Nat => s.heap.size ≤ q9) [(hd, .inr (0, [.null, .int 0, .null, .null]))] := hD
  refine lv_dup hx hb dL_law_3 rfl ?_
  refine oz_kc_n (nA := 0) (As := []) (rest := [.ref hd]) (wr := []) (w3 := fun (u : (Nat × Nat × Nat × Nat × Nat)) => [oz_oD hd u.1 0 u.2.2.1 u.2.1, oz_oB cB u.1 256 oz_z8, oz_oB cB u.2.1 0 oz_z8, oz_oO u.2.2.1 u.2.2.2.1 u.2.2.2.2 0 0, oz_oB cB u.2.2.2.1 4 oz_z8, oz_oB cB u.2.2.2.2 2048 oz_z8]) hx hb hml hown hts hK hP hD hS hA (mt_X0_init l G cB cI H.size hd) q20 rfl rfl (hts _ q12) (hts _ q18) (hts _ q19) rfl (by decide +kernel) rfl ⟨Nat.le_of_ble_eq_true rfl, Nat.le_of_ble_eq_true rfl⟩ [0] [] rfl rfl rfl rfl (by decide) rfl hl.1 (Nat.le_of_ble_eq_true rfl) dL_law_4 ⟨show _ ≤ 1200000 by decide, show _ ≤ 5502250 by decide⟩ (fun _ => rfl) (fun u H locs hP hD hS => ?_)
  obtain ⟨tx, rd, q, t, bf⟩ := u
  have hP : va_P G vwCl [oz_oD hd tx 0 q rd, oz_oB cB tx 256 oz_z8, oz_oB cB rd 0 oz_z8, oz_oO q t bf 0 0, oz_oB cB t 4 oz_z8, oz_oB cB bf 2048 oz_z8] H := hP
  have hD : va_D (fun q9 : Nat => s.heap.size ≤ q9) [oz_oD hd tx 0 q rd, oz_oB cB tx 256 oz_z8, oz_oB cB rd 0 oz_z8, oz_oO q t bf 0 0, oz_oB cB t 4 oz_z8, oz_oB cB bf 2048 oz_z8] := hD
  refine lv_astore_n (lv' := [(1, .ref hd), (0, .ref b)]) hx hb dL_law_7 rfl hl (by decide) rfl (fun ls hl => ?_)
  refine va_new (ci := 2) (fs := [.null, .int 0, .null, .int 0, .int 0, .null]) (C := RX2) (T := TX2) (N := 6) hx hb hts in_X2 tyX2 tyX2_ok hown (hts _ q233) (hts _ q234) (hts _ q14) hK hP hD hS hA rfl (fun j hj => by rcases (show j = 0 ∨ j = 1 ∨ j = 2 ∨ j = 3 ∨ j = 4 ∨ j = 5 by omega) with rfl | rfl | rfl | rfl | rfl | rfl <;> rfl) (show _ ≤ 1200000 by decide) (show _ ≤ 5502250 by decide) dL_law_8 (fun hm H hP hD hS => ?_)
  have hP : va_P G vwCl [oz_oD hd tx 0 q rd, oz_oB cB tx 256 oz_z8, oz_oB cB rd 0 oz_z8, oz_oO q t bf 0 0, oz_oB cB t 4 oz_z8, oz_oB cB bf 2048 oz_z8, (hm, .inr (2, [.null, .int 0, .null, .int 0, .int 0, .null]))] H := hP
  have hD : va_D (fun q9 : Nat => s.heap.size ≤ q9) [oz_oD hd tx 0 q rd, oz_oB cB tx 256 oz_z8, oz_oB cB rd 0 oz_z8, oz_oO q t bf 0 0, oz_oB cB t 4 oz_z8, oz_oB cB bf 2048 oz_z8, (hm, .inr (2, [.null, .int 0, .null, .int 0, .int 0, .null]))] := hD
  refine lv_dup hx hb dL_law_11 rfl ?_
  refine oz_kc_n (nA := 0) (As := []) (rest := [.ref hm]) (wr := [oz_oD hd tx 0 q rd, oz_oB cB tx 256 oz_z8, oz_oB cB rd 0 oz_z8, oz_oO q t bf 0 0, oz_oB cB t 4 oz_z8, oz_oB cB bf 2048 oz_z8]) (w3 := fun (u : (Nat × Nat × Nat)) => [oz_oD hd tx 0 q rd, oz_oB cB tx 256 oz_z8, oz_oB cB rd 0 oz_z8, oz_oO q t bf 0 0, oz_oB cB t 4 oz_z8, oz_oB cB bf 2048 oz_z8, oz_oM hm u.1 0 u.2.1 0 0 u.2.2, oz_oI cI u.1 256 oz_z8, oz_oI cI u.2.1 2048 oz_z8, oz_oI cI u.2.2 0 oz_z8]) hx hb hml hown hts hK hP hD hS hA (mt_X2_init l G cB cI H.size hm) q237 rfl rfl (hts _ q14) (hts _ q235) (hts _ q236) rfl (by decide +kernel) rfl ⟨Nat.le_of_ble_eq_true rfl, Nat.le_of_ble_eq_true rfl⟩ [6] [0, 1, 2, 3, 4, 5] rfl rfl rfl rfl (by decide) rfl hl.1 (Nat.le_of_ble_eq_true rfl) dL_law_12 ⟨show _ ≤ 1200000 by decide, show _ ≤ 5502250 by decide⟩ (fun _ => rfl) (fun u H locs hP hD hS => ?_)
  obtain ⟨mx, wi, la⟩ := u
  have hP : va_P G vwCl [oz_oD hd tx 0 q rd, oz_oB cB tx 256 oz_z8, oz_oB cB rd 0 oz_z8, oz_oO q t bf 0 0, oz_oB cB t 4 oz_z8, oz_oB cB bf 2048 oz_z8, oz_oM hm mx 0 wi 0 0 la, oz_oI cI mx 256 oz_z8, oz_oI cI wi 2048 oz_z8, oz_oI cI la 0 oz_z8] H := hP
  have hD : va_D (fun q9 : Nat => s.heap.size ≤ q9) [oz_oD hd tx 0 q rd, oz_oB cB tx 256 oz_z8, oz_oB cB rd 0 oz_z8, oz_oO q t bf 0 0, oz_oB cB t 4 oz_z8, oz_oB cB bf 2048 oz_z8, oz_oM hm mx 0 wi 0 0 la, oz_oI cI mx 256 oz_z8, oz_oI cI wi 2048 oz_z8, oz_oI cI la 0 oz_z8] := hD
  refine lv_astore_n (lv' := [(2, .ref hm), (1, .ref hd), (0, .ref b)]) hx hb dL_law_15 rfl hl (by decide) rfl (fun ls hl => ?_)
  refine lv_iconst (v := nI 0) hx hb dL_law_16 (by decide) ?_
  refine lv_istore_n (lv' := [(3, .int (nI 0)), (2, .ref hm), (1, .ref hd), (0, .ref b)]) hx hb dL_law_17 rfl hl (by decide) rfl (fun ls hl => ?_)
  have hP : va_P G vwCl [oz_oD hd tx 0 q rd, oz_oB cB tx 256 oz_z8, oz_oB cB rd 0 oz_z8, oz_oO q t bf 0 0, oz_oB cB t 4 oz_z8, oz_oB cB bf 2048 oz_z8, oz_oM hm mx 0 wi 0 0 la, oz_oI cI mx 256 oz_z8, oz_oI cI wi 2048 oz_z8, oz_oI cI la 0 oz_z8] H := hP
  have hD : va_D (fun q9 : Nat => s.heap.size ≤ q9) [oz_oD hd tx 0 q rd, oz_oB cB tx 256 oz_z8, oz_oB cB rd 0 oz_z8, oz_oO q t bf 0 0, oz_oB cB t 4 oz_z8, oz_oB cB bf 2048 oz_z8, oz_oM hm mx 0 wi 0 0 la, oz_oI cI mx 256 oz_z8, oz_oI cI wi 2048 oz_z8, oz_oI cI la 0 oz_z8] := hD
  refine oz_law_loop hx hb hml hown hts hX hbl hK hL (fun cells slots j hc9 hs9 => ?_) 48 0 _ _ (by omega) (by omega) (by decide) (by decide) tx rd q t bf mx wi la 0 0 0 0 oz_z8 oz_z8 oz_z8 oz_z8 (by decide) (by decide) (by decide) (by decide) _ _ hP hD hS ls (lv_sub hl [0, 3, 2, 1] rfl)
  intro tx rd q t bf mx wi la n r i k fM fT fW fR hn hr0 hi hk H locs hP hD hS ls hl
  refine lv_iconst (v := 1) hx hb dL_law_462 (by decide) ?_
  refine va_forget (fun q9 h => hS.2.2 q9 h) ?_
  refine W.widen (k := 1200000) (n := 5502250) hc9 hs9 ?_
  exact lw_ret hx hb hr hlocks dL_law_463
-- ===== YOUR PART ENDS =====
set_option maxHeartbeats 4000000 in
theorem lw_walk (l : Launch) (hflags : l.flags = flags0) (b : Addr) (xs : List Int32) : MetFree l x (headSpec (Jvm.Cond.code x code maxLocals ret :: tables_1) room_1) (lw_P b xs) (fun _ _ _ _ _ => True) lw_Q := by
  refine MetFree.of_bodyS (code := code) (maxLocals := maxLocals) (ret := ret) (by decide) ?_ ?_
  · intro args s m h hn
    obtain ⟨meth, c, h1, h2, h3, h4, h5, h6, -, -⟩ := Cond.code_spec hn (atoms_spec (ws := Jvm.Cond.code x code maxLocals ret :: tables_1) h _ List.mem_cons_self)
    exact ⟨meth, c, h1, h2, h3, h4, h5, h6⟩
  · intro p e s m args below meth c s₁ B hml0 hP _
    obtain ⟨rfl, hx, hbd, hgv⟩ := hP
    obtain ⟨scr, harrAt, hlist, hof, hsmall⟩ := hx
    obtain ⟨hcb, hkn, -, -⟩ := State.arrayAt?_spec harrAt
    have hown : s.vm.findClass R_law = some m.cls := findClass_of_methodNamed B.named
    have hts0 : ∀ c ∈ (Jvm.Cond.code x code maxLocals ret :: tables_1), c.before #[Value.ref b] s = true := atoms_spec (ws := Jvm.Cond.code x code maxLocals ret :: tables_1) B.pre
    have hts : ∀ w ∈ lw_tbl, w.before #[Value.ref b] s = true := k2_hts_sels lw_privs (fun w hw => hts0 w (List.mem_cons_of_mem _ hw)) lw_privs_ok
    have hml : c.maxLocals = 4 := B.maxLocals_eq (hts0 _ List.mem_cons_self)
    have X₀ : Stand p l e room_1 s m #[Value.ref b] below meth c s₁ [] 0 0 := Stand.of_body B
    have hh0 : s₁.heap = s.heap := by rw [B.state]; rfl
    have hsz : scr.slots.size = xs.length := by rw [← Array.length_toList, hlist, List.length_map]
    have hval : ∀ j : Nat, j < xs.length → scr.slots[j]? = some (.int (xs.getD j 0)) := fun j hj => by
      rw [← Array.getElem?_toList, hlist]
      simp [hj]
    have hbl : b < s.heap.size := (Array.getElem?_eq_some_iff.mp hcb).1
    have hX : va_X b xs.length (fun j => xs.getD j 0) s s.heap := ⟨scr, hcb, hof, hkn, hsz, hval⟩
    have K : W p l e room_1 s m #[Value.ref b] below meth c s₁.heap [] 0 0 (lw_Z below #[Value.ref b] s) (entryFrame m ([Value.ref b] : List Value).toArray 4) := by
      rw [hh0]
      exact whole_start l hflags hbd ⟨B.exec, B.bytes, B.returns, hml, hown, hts, hX, hbl, B.notSynchronized, hgv⟩
    obtain ⟨t, a1, o, b1, b2, b3⟩ := K s₁ rfl X₀
    exact ⟨t, o, a1, b1, b2, b3⟩
theorem lw_pre_spec {args : Array Value} {s : State} (h : (Jvm.Cond.and given_1 narrow_1).before args s = true) (hr : rest_1_c.before args s = true) : ∃ (b : Addr) (xs : List Int32), lw_P b xs args s := by
  have hs := flat_of_before _ h
  have hq := flat_of_before _ hr
  have hc : (Cond.count 1).before args s = true := hs _ (by decide +kernel)
  have harr : (Cond.arrayOf (.arg 0) .int).before args s = true := hs _ (by decide +kernel)
  have hle : (Cond.le (.length (.arg 0)) (.int 288)).before args s = true := hs _ (by decide +kernel)
  have hlen : (Cond.isInt (.length (.arg 0))).before args s = true := hq _ (by decide +kernel)
  have hall : (Cond.all (.arg 0) (.isInt (.elem (.arg 0) (.index 0)))).before args s = true := hq _ (by decide +kernel)
  obtain ⟨b, xs, hb, hx⟩ := State.ints_of_pre rfl harr hlen hall
  have hsm : xs.length < 2 ^ 31 := hx.choose_spec.2.2.2
  have hev : (Term.length (.arg 0)).eval args s none [] s = some (.int xs.length.toInt32) := hx.length_eval hb
  have hv := Cond.le_ints hev (show (Term.int 288).eval args s none [] s = some (.int 288) from rfl)
  have hd : xs.length.toInt32 ≤ 288 := by
    simpa [Cond.before, Cond.holds, hv] using hle
  have hN : xs.length ≤ 288 := (Int32.ofNat_le_ofNat hsm (by decide)).mp (show Int32.ofNat xs.length ≤ Int32.ofNat 288 from hd)
  exact ⟨b, xs, Cond.one_arg hc (show args[0]? = some (.ref b) from hb), hx, hN, h⟩
theorem lw_comes (l : Launch) (hflags : l.flags = flags0) : Comes l x (Jvm.Cond.code x code maxLocals ret :: tables_1) room_1 (fun tb e args s => Calls_1 tb e args s ∧ rest_1 tb e args s ∧ Pre_1 tb e args s)
    (fun _ _ args s o t => lw_Q args s o t) := by
  intro p e ha hc hk s m args below hf hfit hheap happ hpre
  obtain ⟨b, xs, hP⟩ := lw_pre_spec hpre.2.2 hpre.2.1
  obtain ⟨k, o, h1, h2, h3, hQ⟩ := lw_walk l hflags b xs p e ha hc hk s m args below hf ((Spec.applies_iff_loose hf).mp happ).1 hP trivial
  exact ⟨k, o, h1, h2, h3, hQ⟩
theorem lw_frame {s t : State} {o : Outcome} {args : Array Value} (h : Framed s o t [] 1200000 5502250) :
    Framed s o t (fieldLocs frame_1_writes args s ++ arrayLocs frame_1_arrays args s ++ staticLocs frame_1_statics s) 1200000 5502250 := h
theorem lw_limb (L : Cond) (hL : ∀ (args : Array Value) (s t : State), L.after args s (.returned (some (.int 1))) t = true) :
    ArmFor flags0 classFile x code maxLocals ret World_1 tables_1 room_1 Calls_1 rest_1 Pre_1
      (fun tb e a s o t => postC L tb e a s o t ∧ Framed s o t (fieldLocs frame_1_writes a s ++ arrayLocs frame_1_arrays a s ++ staticLocs frame_1_statics s) 1200000 5502250) := by
  intro l hflags _ _ p e ha hc hk s m args below hf hfit hheap happ hpre
  obtain ⟨k, o, h1, h2, h3, rfl, hF⟩ := lw_comes l hflags p e ha hc hk s m args below hf hfit hheap happ hpre
  exact ⟨k, _, h1, h2, h3, hL args s _, lw_frame hF⟩
theorem i_vc : Claimed_1_1 ∧ Claimed_1_2 := ⟨lw_limb limb_1_1 (fun args s t => by simp [limb_1_1, Cond.after, Cond.holds, Cond.value]), lw_limb limb_1_2 (fun args s t => Cond.after_iff.mpr (by
  first | (rw [show limb_1_2 = Cond.eq .result (.int 1) from rfl, Cond.eq_ints (x := 1) (y := 1) rfl rfl]; simp; done) | (simp [limb_1_2, Cond.value, Term.eval]; done)))⟩
end
