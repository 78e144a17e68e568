section
-- ===== PART A: goes FIRST, ahead of the names: the tables' words, and 'selects' of the private methods out of them =====
/-- a private method of a class that the tables say can be made, by its rows of tables_1 -/
def lw_okq (q : MethodName × Nat) : Prop := (q.1.cls ≠ "java/lang/invoke/MethodHandle" ∧ q.1.cls ≠ "java/lang/invoke/VarHandle") ∧ Cond.instantiable q.1.cls q.2 ∈ tables_1 ∧ Cond.privateMethod q.1 ∈ tables_1 ∧ Cond.instanceMethod q.1 ∈ tables_1
set_option maxRecDepth 100000
theorem lw_p0 : lw_okq (⟨"LongSortDesk", "from", "(I)I"⟩, 2) := ⟨⟨by decide +kernel, by decide +kernel⟩, List.mem_of_getElem? (i := 9) rfl, List.mem_of_getElem? (i := 43) rfl, List.mem_of_getElem? (i := 44) rfl⟩
theorem lw_p1 : lw_okq (⟨"LongSortDesk", "count", "(II)I"⟩, 2) := ⟨⟨by decide +kernel, by decide +kernel⟩, List.mem_of_getElem? (i := 9) rfl, List.mem_of_getElem? (i := 47) rfl, List.mem_of_getElem? (i := 48) rfl⟩
theorem lw_p2 : lw_okq (⟨"LongSortDeskModel", "sorted", "(II)I"⟩, 2) := ⟨⟨by decide +kernel, by decide +kernel⟩, List.mem_of_getElem? (i := 126) rfl, List.mem_of_getElem? (i := 157) rfl, List.mem_of_getElem? (i := 158) rfl⟩
theorem lw_p3 : lw_okq (⟨"LongSortDeskModel", "from", "(I)I"⟩, 2) := ⟨⟨by decide +kernel, by decide +kernel⟩, List.mem_of_getElem? (i := 126) rfl, List.mem_of_getElem? (i := 161) rfl, List.mem_of_getElem? (i := 162) rfl⟩
theorem lw_p4 : lw_okq (⟨"LongSortDeskModel", "count", "(II)I"⟩, 2) := ⟨⟨by decide +kernel, by decide +kernel⟩, List.mem_of_getElem? (i := 126) rfl, List.mem_of_getElem? (i := 165) rfl, List.mem_of_getElem? (i := 166) rfl⟩
theorem lw_p5 : lw_okq (⟨"LongSortDeskModel", "order", "(II)V"⟩, 2) := ⟨⟨by decide +kernel, by decide +kernel⟩, List.mem_of_getElem? (i := 126) rfl, List.mem_of_getElem? (i := 169) rfl, List.mem_of_getElem? (i := 170) rfl⟩
def lw_privs_1 : List (MethodName × Nat) := [(⟨"LongSortDesk", "from", "(I)I"⟩, 2), (⟨"LongSortDesk", "count", "(II)I"⟩, 2), (⟨"LongSortDeskModel", "sorted", "(II)I"⟩, 2), (⟨"LongSortDeskModel", "from", "(I)I"⟩, 2), (⟨"LongSortDeskModel", "count", "(II)I"⟩, 2), (⟨"LongSortDeskModel", "order", "(II)V"⟩, 2)]
theorem lw_r1 : ∀ q ∈ lw_privs_1, lw_okq q := List.forall_mem_cons.mpr ⟨lw_p0, List.forall_mem_cons.mpr ⟨lw_p1, List.forall_mem_cons.mpr ⟨lw_p2, List.forall_mem_cons.mpr ⟨lw_p3, List.forall_mem_cons.mpr ⟨lw_p4, List.forall_mem_cons.mpr ⟨lw_p5, fun _ h => absurd h List.not_mem_nil⟩⟩⟩⟩⟩⟩
def lw_privs : List (MethodName × Nat) := lw_privs_1
def lw_tbl : List Cond := k2_sels lw_privs ++ tables_1
theorem lw_privs_ok : ∀ q ∈ lw_privs, lw_okq q := lw_r1
-- ===== ONE list of words for every method: the tables' words that hold all through a run =====
def lw_all : List Cond := lw_tbl.filter goodWord
/-- a word of the tables by its place: claim/WORDS.tsv -/
theorem lw_w {w : Cond} (i : Nat) (h : lw_tbl[i]? = some w) (g : goodWord w = true) : w ∈ lw_all := List.mem_filter.mpr ⟨List.mem_of_getElem? h, g⟩
theorem lw_all_tbl {w : Cond} (h : w ∈ lw_all) : w ∈ lw_tbl := (List.mem_filter.mp h).1
theorem lw_self : GoodIn lw_all lw_all := fun w h => ⟨h, good_of_word (List.mem_filter.mp h).2⟩
/-- a class's field words, by their places -/
theorem lw_in (ws : List Cond) (ps : List Nat) (hp : ws = ps.filterMap (fun i => lw_tbl[i]?)) (hg : ws.all goodWord = true) : ∀ w ∈ ws, w ∈ lw_all := by
  intro w h
  have h1 := List.all_eq_true.mp hg w h
  rw [hp] at h
  obtain ⟨i, -, hi⟩ := List.mem_filterMap.mp h
  exact lw_w i hi h1
/-- the words of a contract for the method y with code b, L locals, answer r -/
abbrev ws_ (y : MethodName) (b : ByteArray) (L : Nat) (r : Option FieldType) : List Cond := Cond.code y b L r :: lw_all
theorem lw_meth {y : MethodName} {b : ByteArray} {L : Nat} {r : Option FieldType} (h : Cond.code y b L r ∈ lw_all) : GoodIn lw_all (ws_ y b L r) := by
  intro w hw
  rcases List.mem_cons.mp hw with e | e
  · rw [e]
    exact lw_self _ h
  · exact lw_self _ e
theorem lw_app {a c : List Cond} (ha : ∀ w ∈ a, w ∈ lw_all) (hc : GoodIn lw_all c) : GoodIn lw_all (a ++ c) := by
  intro w hw
  rcases List.mem_append.mp hw with e | e
  · exact lw_self w (ha w e)
  · exact hc w e
/-- what a call through an object asks: cwV n hts (lw_V ..) -/
theorem lw_V {own : String} {idx : Nat} {C : String} {y : MethodName} {b : ByteArray} {L : Nat} {r : Option FieldType} (h1 : Cond.methodLink own idx y ∈ lw_all) (h2 : Cond.instanceMethod y ∈ lw_all) (h3 : Cond.selects C y y ∈ lw_all) (h4 : Cond.initialized C ∈ lw_all) (h5 : Cond.code y b L r ∈ lw_all) : GoodIn lw_all (wsV own idx C y (ws_ y b L r)) := by
  refine lw_app ?_ (lw_meth h5)
  intro w hw
  simp only [List.mem_cons, List.not_mem_nil, or_false] at hw
  rcases hw with e | e | e | e
  · rw [e]; exact h1
  · rw [e]; exact h2
  · rw [e]; exact h3
  · rw [e]; exact h4
/-- what a static call asks: va_cwS n hts (lw_S ..) -/
theorem lw_S {own : String} {idx : Nat} {y : MethodName} {b : ByteArray} {L : Nat} {r : Option FieldType} (h1 : Cond.methodLink own idx y ∈ lw_all) (h2 : Cond.static y ∈ lw_all) (h3 : Cond.initialized y.cls ∈ lw_all) (h4 : Cond.code y b L r ∈ lw_all) : GoodIn lw_all (va_wsS own idx y (ws_ y b L r)) := by
  refine lw_app ?_ (lw_meth h4)
  intro w hw
  simp only [List.mem_cons, List.not_mem_nil, or_false] at hw
  rcases hw with e | e | e
  · rw [e]; exact h1
  · rw [e]; exact h2
  · rw [e]; exact h3
/-- the words of a contract for a method WITH HANDLERS (hh: its table) -/
abbrev wsW_ (y : MethodName) (b : ByteArray) (L : Nat) (r : Option FieldType) (hh : List (Nat × Nat × Nat × Nat)) : List Cond := Cond.codeWith y b L r hh :: lw_all
theorem lw_methW {y : MethodName} {b : ByteArray} {L : Nat} {r : Option FieldType} {hh : List (Nat × Nat × Nat × Nat)} (h : Cond.codeWith y b L r hh ∈ lw_all) : GoodIn lw_all (wsW_ y b L r hh) := by
  intro w hw
  rcases List.mem_cons.mp hw with e | e
  · rw [e]
    exact lw_self _ h
  · exact lw_self _ e
/-- any list of words by their places (lw_in), good -/
theorem lw_good {ws : List Cond} (h : ∀ w ∈ ws, w ∈ lw_all) : GoodIn lw_all ws := fun w hw => lw_self w (h w hw)
/-- what a call of a method with handlers asks: vx_cwVW n hts (lw_VW ..), vx_cwSW n hts (lw_SW ..) -/
theorem lw_VW {own : String} {idx : Nat} {C : String} {y : MethodName} {b : ByteArray} {L : Nat} {r : Option FieldType} {hh : List (Nat × Nat × Nat × Nat)} (h1 : Cond.methodLink own idx y ∈ lw_all) (h2 : Cond.instanceMethod y ∈ lw_all) (h3 : Cond.selects C y y ∈ lw_all) (h4 : Cond.initialized C ∈ lw_all) (h5 : Cond.codeWith y b L r hh ∈ lw_all) : GoodIn lw_all (wsV own idx C y (wsW_ y b L r hh)) := by
  refine lw_app ?_ (lw_methW h5)
  intro w hw
  simp only [List.mem_cons, List.not_mem_nil, or_false] at hw
  rcases hw with e | e | e | e
  · rw [e]; exact h1
  · rw [e]; exact h2
  · rw [e]; exact h3
  · rw [e]; exact h4
theorem lw_SW {own : String} {idx : Nat} {y : MethodName} {b : ByteArray} {L : Nat} {r : Option FieldType} {hh : List (Nat × Nat × Nat × Nat)} (h1 : Cond.methodLink own idx y ∈ lw_all) (h2 : Cond.static y ∈ lw_all) (h3 : Cond.initialized y.cls ∈ lw_all) (h4 : Cond.codeWith y b L r hh ∈ lw_all) : GoodIn lw_all (va_wsS own idx y (wsW_ y b L r hh)) := by
  refine lw_app ?_ (lw_methW h4)
  intro w hw
  simp only [List.mem_cons, List.not_mem_nil, or_false] at hw
  rcases hw with e | e | e
  · rw [e]; exact h1
  · rw [e]; exact h2
  · rw [e]; exact h3
/-- a word by its place in its run of the tables -/
theorem lw_at {r : List Cond} (hr : ∀ w ∈ r, w ∈ lw_tbl) {w : Cond} (i : Nat) (h : r[i]? = some w) : w ∈ lw_tbl := hr w (List.mem_of_getElem? h)
theorem lw_g {w : Cond} (h : w ∈ lw_tbl) (g : goodWord w = true) : w ∈ lw_all := List.mem_filter.mpr ⟨h, g⟩
theorem lw_ms : ∀ w ∈ k2_sels lw_privs, w ∈ lw_tbl := fun w h => show w ∈ k2_sels lw_privs ++ tables_1 from List.mem_append_left _ h
theorem lw_m0 : ∀ w ∈ tables_1, w ∈ lw_tbl := fun w h => show w ∈ k2_sels lw_privs ++ tables_1 from List.mem_append_right (k2_sels lw_privs) h
theorem qs0 : (Cond.selects "LongSortDesk" ⟨"LongSortDesk", "from", "(I)I"⟩ ⟨"LongSortDesk", "from", "(I)I"⟩) ∈ lw_all := lw_g (lw_at lw_ms 0 rfl) rfl
theorem qs1 : (Cond.selects "LongSortDesk" ⟨"LongSortDesk", "count", "(II)I"⟩ ⟨"LongSortDesk", "count", "(II)I"⟩) ∈ lw_all := lw_g (lw_at lw_ms 1 rfl) rfl
theorem qs2 : (Cond.selects "LongSortDeskModel" ⟨"LongSortDeskModel", "sorted", "(II)I"⟩ ⟨"LongSortDeskModel", "sorted", "(II)I"⟩) ∈ lw_all := lw_g (lw_at lw_ms 2 rfl) rfl
theorem qs3 : (Cond.selects "LongSortDeskModel" ⟨"LongSortDeskModel", "from", "(I)I"⟩ ⟨"LongSortDeskModel", "from", "(I)I"⟩) ∈ lw_all := lw_g (lw_at lw_ms 3 rfl) rfl
theorem qs4 : (Cond.selects "LongSortDeskModel" ⟨"LongSortDeskModel", "count", "(II)I"⟩ ⟨"LongSortDeskModel", "count", "(II)I"⟩) ∈ lw_all := lw_g (lw_at lw_ms 4 rfl) rfl
theorem qs5 : (Cond.selects "LongSortDeskModel" ⟨"LongSortDeskModel", "order", "(II)V"⟩ ⟨"LongSortDeskModel", "order", "(II)V"⟩) ∈ lw_all := lw_g (lw_at lw_ms 5 rfl) rfl
end
section
/-! DECODE ROWS BY BYTES: one lemma an opcode; a method's code is cut into short pieces once, and a row reads its own piece alone. -/
set_option maxRecDepth 100000
/-- the code has just these bytes from pc on -/
def DkAt (code : ByteArray) (pc : Nat) (bs : List UInt8) : Prop := ∀ (j : Nat) (b : UInt8), bs[j]? = some b → code.data.toList[pc + j]? = some b
/-- the piece W has the bytes bs from its place j on -/
def dkIn (W : List UInt8) (j : Nat) (bs : List UInt8) : Bool := decide ((W.drop j).take bs.length = bs)
theorem dk_seg {l W T : List UInt8} {o o2 : Nat} (h : l.drop o = W ++ T) (n : Nat) (hn : W.length = n) (ho : o + n = o2) : l.drop o2 = T := by
  subst ho
  rw [← List.drop_drop, h, List.drop_left' hn]
theorem dk_at {code : ByteArray} {W T bs : List UInt8} {o pc : Nat} (h : code.data.toList.drop o = W ++ T) (j : Nat) (hp : o + j = pc) (hw : dkIn W j bs = true) : DkAt code pc bs := by
  subst hp
  intro i b e
  have h1 := of_decide_eq_true hw
  have h2 : i < bs.length := (List.getElem?_eq_some_iff.mp e).1
  have h3 : W[j + i]? = some b := by
    rw [← h1, List.getElem?_take, if_pos h2, List.getElem?_drop] at e
    exact e
  have h4 : j + i < W.length := (List.getElem?_eq_some_iff.mp h3).1
  have h5 : (code.data.toList.drop o)[j + i]? = some b := by
    rw [h, List.getElem?_append_left h4]
    exact h3
  rw [List.getElem?_drop, ← Nat.add_assoc] at h5
  exact h5
theorem dk_u1 {A : ByteArray} {p : Nat} {b : UInt8} (h : A.data.toList[p]? = some b) : (Reader.u1 : Reader DecodeError Nat) A p = .ok (b.toNat, p + 1) := by
  obtain ⟨h1, h2⟩ := List.getElem?_eq_some_iff.mp h
  have h3 : p < A.size := by simpa using h1
  have h4 : A[p]'h3 = b := h2
  have e : (Reader.u1 : Reader DecodeError Nat) A p = (if h : p < A.size then .ok (A[p].toNat, p + 1) else .error (HasTruncated.truncated p)) := by
    show (do if h : p < A.size then do set (p + 1); Pure.pure A[p].toNat else MonadExcept.throw (HasTruncated.truncated p) : Reader DecodeError Nat) A p = _
    by_cases hi : p < A.size
    · rw [dif_pos hi, dif_pos hi]; rfl
    · rw [dif_neg hi, dif_neg hi]; rfl
  rw [e, dif_pos h3, h4]
theorem dk_bind {α β : Type} {r : Reader DecodeError α} {f : α → Reader DecodeError β} {A : ByteArray} {p s : Nat} {a : α} (h : r A p = .ok (a, s)) : (r >>= f) A p = f a A s := by
  show (do let (a, s) ← r A p; f a A s : Except DecodeError (β × Nat)) = _
  rw [h]
  rfl
theorem dk_map {α β : Type} {r : Reader DecodeError α} {g : α → β} {A : ByteArray} {p s : Nat} {a : α} (h : r A p = .ok (a, s)) : (g <$> r) A p = .ok (g a, s) := by
  show (do let (a, s) ← r A p; .ok (g a, s) : Except DecodeError (β × Nat)) = _
  rw [h]
  rfl
theorem dk_u2 {A : ByteArray} {p : Nat} {a b : UInt8} (h : A.data.toList[p]? = some a) (h2 : A.data.toList[p + 1]? = some b) : (Reader.u2 : Reader DecodeError Nat) A p = .ok (a.toNat * 256 + b.toNat, p + 2) := by
  show (Reader.u1 >>= fun hi => Reader.u1 >>= fun lo => Pure.pure (hi * 256 + lo) : Reader DecodeError Nat) A p = _
  rw [dk_bind (dk_u1 h), dk_bind (dk_u1 h2)]
  rfl
theorem dk_of {code : ByteArray} {pc n : Nat} {i : Instr} (h : Decoder.instr pc code pc = .ok (i, pc + n)) : decode code pc = .ok (i, n) := by
  have e : decode code pc = (match Decoder.instr pc code pc with | .error x => .error x | .ok (j, s) => .ok (j, s - pc)) := by
    show (do let (j, s) ← Decoder.instr pc code pc; Pure.pure (j, s - pc) : Except DecodeError (Instr × Nat)) = _
    cases Decoder.instr pc code pc <;> rfl
  rw [e, h]
  show Except.ok (i, pc + n - pc) = _
  rw [Nat.add_sub_cancel_left]
theorem dk_1 {code : ByteArray} {pc : Nat} (h : DkAt code pc [1]) : decode code pc = .ok (.aconst_null, 1) := dk_of ((dk_bind (dk_u1 (h 0 _ rfl))).trans rfl)
theorem dk_2 {code : ByteArray} {pc : Nat} (h : DkAt code pc [2]) : decode code pc = .ok (.iconst (-1), 1) := dk_of ((dk_bind (dk_u1 (h 0 _ rfl))).trans rfl)
theorem dk_3 {code : ByteArray} {pc : Nat} (h : DkAt code pc [3]) : decode code pc = .ok (.iconst 0, 1) := dk_of ((dk_bind (dk_u1 (h 0 _ rfl))).trans rfl)
theorem dk_4 {code : ByteArray} {pc : Nat} (h : DkAt code pc [4]) : decode code pc = .ok (.iconst 1, 1) := dk_of ((dk_bind (dk_u1 (h 0 _ rfl))).trans rfl)
theorem dk_5 {code : ByteArray} {pc : Nat} (h : DkAt code pc [5]) : decode code pc = .ok (.iconst 2, 1) := dk_of ((dk_bind (dk_u1 (h 0 _ rfl))).trans rfl)
theorem dk_6 {code : ByteArray} {pc : Nat} (h : DkAt code pc [6]) : decode code pc = .ok (.iconst 3, 1) := dk_of ((dk_bind (dk_u1 (h 0 _ rfl))).trans rfl)
theorem dk_7 {code : ByteArray} {pc : Nat} (h : DkAt code pc [7]) : decode code pc = .ok (.iconst 4, 1) := dk_of ((dk_bind (dk_u1 (h 0 _ rfl))).trans rfl)
theorem dk_9 {code : ByteArray} {pc : Nat} (h : DkAt code pc [9]) : decode code pc = .ok (.lconst 0, 1) := dk_of ((dk_bind (dk_u1 (h 0 _ rfl))).trans rfl)
theorem dk_16 {code : ByteArray} {pc : Nat} (a : UInt8) (h : DkAt code pc [16, a]) : decode code pc = .ok (.bipush (Reader.signed 8 a.toNat), 2) := dk_of ((dk_bind (dk_u1 (h 0 _ rfl))).trans ((dk_bind (dk_map (dk_u1 (h 1 _ rfl)))).trans rfl))
theorem dk_17 {code : ByteArray} {pc : Nat} (a b : UInt8) (h : DkAt code pc [17, a, b]) : decode code pc = .ok (.sipush (Reader.signed 16 (a.toNat * 256 + b.toNat)), 3) := dk_of ((dk_bind (dk_u1 (h 0 _ rfl))).trans ((dk_bind (dk_map (dk_u2 (h 1 _ rfl) (h 2 _ rfl)))).trans rfl))
theorem dk_18 {code : ByteArray} {pc : Nat} (a : UInt8) (h : DkAt code pc [18, a]) : decode code pc = .ok (.ldc a.toNat, 2) := dk_of ((dk_bind (dk_u1 (h 0 _ rfl))).trans ((dk_bind (dk_u1 (h 1 _ rfl))).trans rfl))
theorem dk_20 {code : ByteArray} {pc : Nat} (a b : UInt8) (h : DkAt code pc [20, a, b]) : decode code pc = .ok (.ldc2_w (a.toNat * 256 + b.toNat), 3) := dk_of ((dk_bind (dk_u1 (h 0 _ rfl))).trans ((dk_bind (dk_u2 (h 1 _ rfl) (h 2 _ rfl))).trans rfl))
theorem dk_21 {code : ByteArray} {pc : Nat} (a : UInt8) (h : DkAt code pc [21, a]) : decode code pc = .ok (.iload a.toNat, 2) := dk_of ((dk_bind (dk_u1 (h 0 _ rfl))).trans ((dk_bind (dk_u1 (h 1 _ rfl))).trans rfl))
theorem dk_22 {code : ByteArray} {pc : Nat} (a : UInt8) (h : DkAt code pc [22, a]) : decode code pc = .ok (.lload a.toNat, 2) := dk_of ((dk_bind (dk_u1 (h 0 _ rfl))).trans ((dk_bind (dk_u1 (h 1 _ rfl))).trans rfl))
theorem dk_25 {code : ByteArray} {pc : Nat} (a : UInt8) (h : DkAt code pc [25, a]) : decode code pc = .ok (.aload a.toNat, 2) := dk_of ((dk_bind (dk_u1 (h 0 _ rfl))).trans ((dk_bind (dk_u1 (h 1 _ rfl))).trans rfl))
theorem dk_26 {code : ByteArray} {pc : Nat} (h : DkAt code pc [26]) : decode code pc = .ok (.iload_n 0, 1) := dk_of ((dk_bind (dk_u1 (h 0 _ rfl))).trans rfl)
theorem dk_27 {code : ByteArray} {pc : Nat} (h : DkAt code pc [27]) : decode code pc = .ok (.iload_n 1, 1) := dk_of ((dk_bind (dk_u1 (h 0 _ rfl))).trans rfl)
theorem dk_28 {code : ByteArray} {pc : Nat} (h : DkAt code pc [28]) : decode code pc = .ok (.iload_n 2, 1) := dk_of ((dk_bind (dk_u1 (h 0 _ rfl))).trans rfl)
theorem dk_29 {code : ByteArray} {pc : Nat} (h : DkAt code pc [29]) : decode code pc = .ok (.iload_n 3, 1) := dk_of ((dk_bind (dk_u1 (h 0 _ rfl))).trans rfl)
theorem dk_30 {code : ByteArray} {pc : Nat} (h : DkAt code pc [30]) : decode code pc = .ok (.lload_n 0, 1) := dk_of ((dk_bind (dk_u1 (h 0 _ rfl))).trans rfl)
theorem dk_32 {code : ByteArray} {pc : Nat} (h : DkAt code pc [32]) : decode code pc = .ok (.lload_n 2, 1) := dk_of ((dk_bind (dk_u1 (h 0 _ rfl))).trans rfl)
theorem dk_33 {code : ByteArray} {pc : Nat} (h : DkAt code pc [33]) : decode code pc = .ok (.lload_n 3, 1) := dk_of ((dk_bind (dk_u1 (h 0 _ rfl))).trans rfl)
theorem dk_42 {code : ByteArray} {pc : Nat} (h : DkAt code pc [42]) : decode code pc = .ok (.aload_n 0, 1) := dk_of ((dk_bind (dk_u1 (h 0 _ rfl))).trans rfl)
theorem dk_43 {code : ByteArray} {pc : Nat} (h : DkAt code pc [43]) : decode code pc = .ok (.aload_n 1, 1) := dk_of ((dk_bind (dk_u1 (h 0 _ rfl))).trans rfl)
theorem dk_44 {code : ByteArray} {pc : Nat} (h : DkAt code pc [44]) : decode code pc = .ok (.aload_n 2, 1) := dk_of ((dk_bind (dk_u1 (h 0 _ rfl))).trans rfl)
theorem dk_45 {code : ByteArray} {pc : Nat} (h : DkAt code pc [45]) : decode code pc = .ok (.aload_n 3, 1) := dk_of ((dk_bind (dk_u1 (h 0 _ rfl))).trans rfl)
theorem dk_46 {code : ByteArray} {pc : Nat} (h : DkAt code pc [46]) : decode code pc = .ok (.iaload, 1) := dk_of ((dk_bind (dk_u1 (h 0 _ rfl))).trans rfl)
theorem dk_47 {code : ByteArray} {pc : Nat} (h : DkAt code pc [47]) : decode code pc = .ok (.laload, 1) := dk_of ((dk_bind (dk_u1 (h 0 _ rfl))).trans rfl)
theorem dk_54 {code : ByteArray} {pc : Nat} (a : UInt8) (h : DkAt code pc [54, a]) : decode code pc = .ok (.istore a.toNat, 2) := dk_of ((dk_bind (dk_u1 (h 0 _ rfl))).trans ((dk_bind (dk_u1 (h 1 _ rfl))).trans rfl))
theorem dk_55 {code : ByteArray} {pc : Nat} (a : UInt8) (h : DkAt code pc [55, a]) : decode code pc = .ok (.lstore a.toNat, 2) := dk_of ((dk_bind (dk_u1 (h 0 _ rfl))).trans ((dk_bind (dk_u1 (h 1 _ rfl))).trans rfl))
theorem dk_58 {code : ByteArray} {pc : Nat} (a : UInt8) (h : DkAt code pc [58, a]) : decode code pc = .ok (.astore a.toNat, 2) := dk_of ((dk_bind (dk_u1 (h 0 _ rfl))).trans ((dk_bind (dk_u1 (h 1 _ rfl))).trans rfl))
theorem dk_60 {code : ByteArray} {pc : Nat} (h : DkAt code pc [60]) : decode code pc = .ok (.istore_n 1, 1) := dk_of ((dk_bind (dk_u1 (h 0 _ rfl))).trans rfl)
theorem dk_61 {code : ByteArray} {pc : Nat} (h : DkAt code pc [61]) : decode code pc = .ok (.istore_n 2, 1) := dk_of ((dk_bind (dk_u1 (h 0 _ rfl))).trans rfl)
theorem dk_62 {code : ByteArray} {pc : Nat} (h : DkAt code pc [62]) : decode code pc = .ok (.istore_n 3, 1) := dk_of ((dk_bind (dk_u1 (h 0 _ rfl))).trans rfl)
theorem dk_66 {code : ByteArray} {pc : Nat} (h : DkAt code pc [66]) : decode code pc = .ok (.lstore_n 3, 1) := dk_of ((dk_bind (dk_u1 (h 0 _ rfl))).trans rfl)
theorem dk_76 {code : ByteArray} {pc : Nat} (h : DkAt code pc [76]) : decode code pc = .ok (.astore_n 1, 1) := dk_of ((dk_bind (dk_u1 (h 0 _ rfl))).trans rfl)
theorem dk_77 {code : ByteArray} {pc : Nat} (h : DkAt code pc [77]) : decode code pc = .ok (.astore_n 2, 1) := dk_of ((dk_bind (dk_u1 (h 0 _ rfl))).trans rfl)
theorem dk_78 {code : ByteArray} {pc : Nat} (h : DkAt code pc [78]) : decode code pc = .ok (.astore_n 3, 1) := dk_of ((dk_bind (dk_u1 (h 0 _ rfl))).trans rfl)
theorem dk_79 {code : ByteArray} {pc : Nat} (h : DkAt code pc [79]) : decode code pc = .ok (.iastore, 1) := dk_of ((dk_bind (dk_u1 (h 0 _ rfl))).trans rfl)
theorem dk_80 {code : ByteArray} {pc : Nat} (h : DkAt code pc [80]) : decode code pc = .ok (.lastore, 1) := dk_of ((dk_bind (dk_u1 (h 0 _ rfl))).trans rfl)
theorem dk_89 {code : ByteArray} {pc : Nat} (h : DkAt code pc [89]) : decode code pc = .ok (.dup, 1) := dk_of ((dk_bind (dk_u1 (h 0 _ rfl))).trans rfl)
theorem dk_90 {code : ByteArray} {pc : Nat} (h : DkAt code pc [90]) : decode code pc = .ok (.dup_x1, 1) := dk_of ((dk_bind (dk_u1 (h 0 _ rfl))).trans rfl)
theorem dk_91 {code : ByteArray} {pc : Nat} (h : DkAt code pc [91]) : decode code pc = .ok (.dup_x2, 1) := dk_of ((dk_bind (dk_u1 (h 0 _ rfl))).trans rfl)
theorem dk_92 {code : ByteArray} {pc : Nat} (h : DkAt code pc [92]) : decode code pc = .ok (.dup2, 1) := dk_of ((dk_bind (dk_u1 (h 0 _ rfl))).trans rfl)
theorem dk_96 {code : ByteArray} {pc : Nat} (h : DkAt code pc [96]) : decode code pc = .ok (.iadd, 1) := dk_of ((dk_bind (dk_u1 (h 0 _ rfl))).trans rfl)
theorem dk_97 {code : ByteArray} {pc : Nat} (h : DkAt code pc [97]) : decode code pc = .ok (.ladd, 1) := dk_of ((dk_bind (dk_u1 (h 0 _ rfl))).trans rfl)
theorem dk_100 {code : ByteArray} {pc : Nat} (h : DkAt code pc [100]) : decode code pc = .ok (.isub, 1) := dk_of ((dk_bind (dk_u1 (h 0 _ rfl))).trans rfl)
theorem dk_104 {code : ByteArray} {pc : Nat} (h : DkAt code pc [104]) : decode code pc = .ok (.imul, 1) := dk_of ((dk_bind (dk_u1 (h 0 _ rfl))).trans rfl)
theorem dk_105 {code : ByteArray} {pc : Nat} (h : DkAt code pc [105]) : decode code pc = .ok (.lmul, 1) := dk_of ((dk_bind (dk_u1 (h 0 _ rfl))).trans rfl)
theorem dk_108 {code : ByteArray} {pc : Nat} (h : DkAt code pc [108]) : decode code pc = .ok (.idiv, 1) := dk_of ((dk_bind (dk_u1 (h 0 _ rfl))).trans rfl)
theorem dk_112 {code : ByteArray} {pc : Nat} (h : DkAt code pc [112]) : decode code pc = .ok (.irem, 1) := dk_of ((dk_bind (dk_u1 (h 0 _ rfl))).trans rfl)
theorem dk_116 {code : ByteArray} {pc : Nat} (h : DkAt code pc [116]) : decode code pc = .ok (.ineg, 1) := dk_of ((dk_bind (dk_u1 (h 0 _ rfl))).trans rfl)
theorem dk_121 {code : ByteArray} {pc : Nat} (h : DkAt code pc [121]) : decode code pc = .ok (.lshl, 1) := dk_of ((dk_bind (dk_u1 (h 0 _ rfl))).trans rfl)
theorem dk_124 {code : ByteArray} {pc : Nat} (h : DkAt code pc [124]) : decode code pc = .ok (.iushr, 1) := dk_of ((dk_bind (dk_u1 (h 0 _ rfl))).trans rfl)
theorem dk_125 {code : ByteArray} {pc : Nat} (h : DkAt code pc [125]) : decode code pc = .ok (.lushr, 1) := dk_of ((dk_bind (dk_u1 (h 0 _ rfl))).trans rfl)
theorem dk_126 {code : ByteArray} {pc : Nat} (h : DkAt code pc [126]) : decode code pc = .ok (.iand, 1) := dk_of ((dk_bind (dk_u1 (h 0 _ rfl))).trans rfl)
theorem dk_127 {code : ByteArray} {pc : Nat} (h : DkAt code pc [127]) : decode code pc = .ok (.land, 1) := dk_of ((dk_bind (dk_u1 (h 0 _ rfl))).trans rfl)
theorem dk_129 {code : ByteArray} {pc : Nat} (h : DkAt code pc [129]) : decode code pc = .ok (.lor, 1) := dk_of ((dk_bind (dk_u1 (h 0 _ rfl))).trans rfl)
theorem dk_131 {code : ByteArray} {pc : Nat} (h : DkAt code pc [131]) : decode code pc = .ok (.lxor, 1) := dk_of ((dk_bind (dk_u1 (h 0 _ rfl))).trans rfl)
theorem dk_132 {code : ByteArray} {pc : Nat} (a b : UInt8) (h : DkAt code pc [132, a, b]) : decode code pc = .ok (.iinc a.toNat (Reader.signed 8 b.toNat), 3) := dk_of ((dk_bind (dk_u1 (h 0 _ rfl))).trans ((dk_bind (dk_u1 (h 1 _ rfl))).trans ((dk_bind (dk_map (dk_u1 (h 2 _ rfl)))).trans rfl)))
theorem dk_133 {code : ByteArray} {pc : Nat} (h : DkAt code pc [133]) : decode code pc = .ok (.i2l, 1) := dk_of ((dk_bind (dk_u1 (h 0 _ rfl))).trans rfl)
theorem dk_136 {code : ByteArray} {pc : Nat} (h : DkAt code pc [136]) : decode code pc = .ok (.l2i, 1) := dk_of ((dk_bind (dk_u1 (h 0 _ rfl))).trans rfl)
theorem dk_148 {code : ByteArray} {pc : Nat} (h : DkAt code pc [148]) : decode code pc = .ok (.lcmp, 1) := dk_of ((dk_bind (dk_u1 (h 0 _ rfl))).trans rfl)
theorem dk_153 {code : ByteArray} {pc : Nat} (a b : UInt8) (h : DkAt code pc [153, a, b]) : decode code pc = .ok (.ifCond .eq (Reader.signed 16 (a.toNat * 256 + b.toNat)), 3) := dk_of ((dk_bind (dk_u1 (h 0 _ rfl))).trans ((dk_bind (dk_map (dk_u2 (h 1 _ rfl) (h 2 _ rfl)))).trans rfl))
theorem dk_154 {code : ByteArray} {pc : Nat} (a b : UInt8) (h : DkAt code pc [154, a, b]) : decode code pc = .ok (.ifCond .ne (Reader.signed 16 (a.toNat * 256 + b.toNat)), 3) := dk_of ((dk_bind (dk_u1 (h 0 _ rfl))).trans ((dk_bind (dk_map (dk_u2 (h 1 _ rfl) (h 2 _ rfl)))).trans rfl))
theorem dk_155 {code : ByteArray} {pc : Nat} (a b : UInt8) (h : DkAt code pc [155, a, b]) : decode code pc = .ok (.ifCond .lt (Reader.signed 16 (a.toNat * 256 + b.toNat)), 3) := dk_of ((dk_bind (dk_u1 (h 0 _ rfl))).trans ((dk_bind (dk_map (dk_u2 (h 1 _ rfl) (h 2 _ rfl)))).trans rfl))
theorem dk_156 {code : ByteArray} {pc : Nat} (a b : UInt8) (h : DkAt code pc [156, a, b]) : decode code pc = .ok (.ifCond .ge (Reader.signed 16 (a.toNat * 256 + b.toNat)), 3) := dk_of ((dk_bind (dk_u1 (h 0 _ rfl))).trans ((dk_bind (dk_map (dk_u2 (h 1 _ rfl) (h 2 _ rfl)))).trans rfl))
theorem dk_157 {code : ByteArray} {pc : Nat} (a b : UInt8) (h : DkAt code pc [157, a, b]) : decode code pc = .ok (.ifCond .gt (Reader.signed 16 (a.toNat * 256 + b.toNat)), 3) := dk_of ((dk_bind (dk_u1 (h 0 _ rfl))).trans ((dk_bind (dk_map (dk_u2 (h 1 _ rfl) (h 2 _ rfl)))).trans rfl))
theorem dk_158 {code : ByteArray} {pc : Nat} (a b : UInt8) (h : DkAt code pc [158, a, b]) : decode code pc = .ok (.ifCond .le (Reader.signed 16 (a.toNat * 256 + b.toNat)), 3) := dk_of ((dk_bind (dk_u1 (h 0 _ rfl))).trans ((dk_bind (dk_map (dk_u2 (h 1 _ rfl) (h 2 _ rfl)))).trans rfl))
theorem dk_159 {code : ByteArray} {pc : Nat} (a b : UInt8) (h : DkAt code pc [159, a, b]) : decode code pc = .ok (.if_icmp .eq (Reader.signed 16 (a.toNat * 256 + b.toNat)), 3) := dk_of ((dk_bind (dk_u1 (h 0 _ rfl))).trans ((dk_bind (dk_map (dk_u2 (h 1 _ rfl) (h 2 _ rfl)))).trans rfl))
theorem dk_160 {code : ByteArray} {pc : Nat} (a b : UInt8) (h : DkAt code pc [160, a, b]) : decode code pc = .ok (.if_icmp .ne (Reader.signed 16 (a.toNat * 256 + b.toNat)), 3) := dk_of ((dk_bind (dk_u1 (h 0 _ rfl))).trans ((dk_bind (dk_map (dk_u2 (h 1 _ rfl) (h 2 _ rfl)))).trans rfl))
theorem dk_161 {code : ByteArray} {pc : Nat} (a b : UInt8) (h : DkAt code pc [161, a, b]) : decode code pc = .ok (.if_icmp .lt (Reader.signed 16 (a.toNat * 256 + b.toNat)), 3) := dk_of ((dk_bind (dk_u1 (h 0 _ rfl))).trans ((dk_bind (dk_map (dk_u2 (h 1 _ rfl) (h 2 _ rfl)))).trans rfl))
theorem dk_162 {code : ByteArray} {pc : Nat} (a b : UInt8) (h : DkAt code pc [162, a, b]) : decode code pc = .ok (.if_icmp .ge (Reader.signed 16 (a.toNat * 256 + b.toNat)), 3) := dk_of ((dk_bind (dk_u1 (h 0 _ rfl))).trans ((dk_bind (dk_map (dk_u2 (h 1 _ rfl) (h 2 _ rfl)))).trans rfl))
theorem dk_163 {code : ByteArray} {pc : Nat} (a b : UInt8) (h : DkAt code pc [163, a, b]) : decode code pc = .ok (.if_icmp .gt (Reader.signed 16 (a.toNat * 256 + b.toNat)), 3) := dk_of ((dk_bind (dk_u1 (h 0 _ rfl))).trans ((dk_bind (dk_map (dk_u2 (h 1 _ rfl) (h 2 _ rfl)))).trans rfl))
theorem dk_164 {code : ByteArray} {pc : Nat} (a b : UInt8) (h : DkAt code pc [164, a, b]) : decode code pc = .ok (.if_icmp .le (Reader.signed 16 (a.toNat * 256 + b.toNat)), 3) := dk_of ((dk_bind (dk_u1 (h 0 _ rfl))).trans ((dk_bind (dk_map (dk_u2 (h 1 _ rfl) (h 2 _ rfl)))).trans rfl))
theorem dk_167 {code : ByteArray} {pc : Nat} (a b : UInt8) (h : DkAt code pc [167, a, b]) : decode code pc = .ok (.goto (Reader.signed 16 (a.toNat * 256 + b.toNat)), 3) := dk_of ((dk_bind (dk_u1 (h 0 _ rfl))).trans ((dk_bind (dk_map (dk_u2 (h 1 _ rfl) (h 2 _ rfl)))).trans rfl))
theorem dk_172 {code : ByteArray} {pc : Nat} (h : DkAt code pc [172]) : decode code pc = .ok (.ireturn, 1) := dk_of ((dk_bind (dk_u1 (h 0 _ rfl))).trans rfl)
theorem dk_173 {code : ByteArray} {pc : Nat} (h : DkAt code pc [173]) : decode code pc = .ok (.lreturn, 1) := dk_of ((dk_bind (dk_u1 (h 0 _ rfl))).trans rfl)
theorem dk_176 {code : ByteArray} {pc : Nat} (h : DkAt code pc [176]) : decode code pc = .ok (.areturn, 1) := dk_of ((dk_bind (dk_u1 (h 0 _ rfl))).trans rfl)
theorem dk_177 {code : ByteArray} {pc : Nat} (h : DkAt code pc [177]) : decode code pc = .ok (.return_, 1) := dk_of ((dk_bind (dk_u1 (h 0 _ rfl))).trans rfl)
theorem dk_180 {code : ByteArray} {pc : Nat} (a b : UInt8) (h : DkAt code pc [180, a, b]) : decode code pc = .ok (.getfield (a.toNat * 256 + b.toNat), 3) := dk_of ((dk_bind (dk_u1 (h 0 _ rfl))).trans ((dk_bind (dk_u2 (h 1 _ rfl) (h 2 _ rfl))).trans rfl))
theorem dk_181 {code : ByteArray} {pc : Nat} (a b : UInt8) (h : DkAt code pc [181, a, b]) : decode code pc = .ok (.putfield (a.toNat * 256 + b.toNat), 3) := dk_of ((dk_bind (dk_u1 (h 0 _ rfl))).trans ((dk_bind (dk_u2 (h 1 _ rfl) (h 2 _ rfl))).trans rfl))
theorem dk_182 {code : ByteArray} {pc : Nat} (a b : UInt8) (h : DkAt code pc [182, a, b]) : decode code pc = .ok (.invokevirtual (a.toNat * 256 + b.toNat), 3) := dk_of ((dk_bind (dk_u1 (h 0 _ rfl))).trans ((dk_bind (dk_u2 (h 1 _ rfl) (h 2 _ rfl))).trans rfl))
theorem dk_183 {code : ByteArray} {pc : Nat} (a b : UInt8) (h : DkAt code pc [183, a, b]) : decode code pc = .ok (.invokespecial (a.toNat * 256 + b.toNat), 3) := dk_of ((dk_bind (dk_u1 (h 0 _ rfl))).trans ((dk_bind (dk_u2 (h 1 _ rfl) (h 2 _ rfl))).trans rfl))
theorem dk_184 {code : ByteArray} {pc : Nat} (a b : UInt8) (h : DkAt code pc [184, a, b]) : decode code pc = .ok (.invokestatic (a.toNat * 256 + b.toNat), 3) := dk_of ((dk_bind (dk_u1 (h 0 _ rfl))).trans ((dk_bind (dk_u2 (h 1 _ rfl) (h 2 _ rfl))).trans rfl))
theorem dk_187 {code : ByteArray} {pc : Nat} (a b : UInt8) (h : DkAt code pc [187, a, b]) : decode code pc = .ok (.new (a.toNat * 256 + b.toNat), 3) := dk_of ((dk_bind (dk_u1 (h 0 _ rfl))).trans ((dk_bind (dk_u2 (h 1 _ rfl) (h 2 _ rfl))).trans rfl))
theorem dk_188_10 {code : ByteArray} {pc : Nat} (h : DkAt code pc [188, 10]) : decode code pc = .ok (.newarray .int, 2) := dk_of ((dk_bind (dk_u1 (h 0 _ rfl))).trans ((dk_bind (dk_u1 (h 1 _ rfl))).trans rfl))
theorem dk_188_11 {code : ByteArray} {pc : Nat} (h : DkAt code pc [188, 11]) : decode code pc = .ok (.newarray .long, 2) := dk_of ((dk_bind (dk_u1 (h 0 _ rfl))).trans ((dk_bind (dk_u1 (h 1 _ rfl))).trans rfl))
theorem dk_190 {code : ByteArray} {pc : Nat} (h : DkAt code pc [190]) : decode code pc = .ok (.arraylength, 1) := dk_of ((dk_bind (dk_u1 (h 0 _ rfl))).trans rfl)
theorem dk_192 {code : ByteArray} {pc : Nat} (a b : UInt8) (h : DkAt code pc [192, a, b]) : decode code pc = .ok (.checkcast (a.toNat * 256 + b.toNat), 3) := dk_of ((dk_bind (dk_u1 (h 0 _ rfl))).trans ((dk_bind (dk_u2 (h 1 _ rfl) (h 2 _ rfl))).trans rfl))
theorem dk_199 {code : ByteArray} {pc : Nat} (a b : UInt8) (h : DkAt code pc [199, a, b]) : decode code pc = .ok (.ifnonnull (Reader.signed 16 (a.toNat * 256 + b.toNat)), 3) := dk_of ((dk_bind (dk_u1 (h 0 _ rfl))).trans ((dk_bind (dk_map (dk_u2 (h 1 _ rfl) (h 2 _ rfl)))).trans rfl))
end
section
/-! LongArrays -/
set_option maxRecDepth 100000
def RX2 : String := "LongArrays"
abbrev cX2_quickSort : ByteArray := prog_1_method_6_code
def yX2_quickSort : MethodName := ⟨RX2, "quickSort", "([JII)V"⟩
def dkwX2_quickSort_14 : List UInt8 := [89, 54, 13, 4, 164, 0, 12, 42, 28, 21, 13, 100, 28, 184, 0, 29, 177]
abbrev dktX2_quickSort_14 : List UInt8 := dkwX2_quickSort_14 ++ []
def dkwX2_quickSort_13 : List UInt8 := [21, 9, 100, 89, 54, 13, 4, 164, 0, 12, 42, 27, 27, 21, 13, 96, 184, 0, 29, 21, 12, 21, 11, 100]
abbrev dktX2_quickSort_13 : List UInt8 := dkwX2_quickSort_13 ++ dktX2_quickSort_14
def dkwX2_quickSort_12 : List UInt8 := [21, 12, 100, 4, 100, 184, 0, 20, 54, 13, 42, 21, 10, 28, 21, 13, 100, 21, 13, 184, 0, 26, 21, 10]
abbrev dktX2_quickSort_12 : List UInt8 := dkwX2_quickSort_12 ++ dktX2_quickSort_13
def dkwX2_quickSort_11 : List UInt8 := [100, 184, 0, 20, 54, 13, 42, 27, 21, 10, 21, 13, 100, 21, 13, 184, 0, 26, 21, 12, 21, 11, 100, 28]
abbrev dktX2_quickSort_11 : List UInt8 := dkwX2_quickSort_11 ++ dktX2_quickSort_12
def dkwX2_quickSort_10 : List UInt8 := [21, 10, 132, 10, 1, 21, 11, 132, 11, 255, 184, 0, 5, 167, 255, 144, 21, 9, 27, 100, 21, 10, 21, 9]
abbrev dktX2_quickSort_10 : List UInt8 := dkwX2_quickSort_10 ++ dktX2_quickSort_11
def dkwX2_quickSort_9 : List UInt8 := [132, 12, 255, 184, 0, 5, 132, 11, 255, 167, 255, 215, 21, 10, 21, 11, 164, 0, 6, 167, 0, 20, 42]
abbrev dktX2_quickSort_9 : List UInt8 := dkwX2_quickSort_9 ++ dktX2_quickSort_10
def dkwX2_quickSort_8 : List UInt8 := [21, 11, 47, 22, 7, 184, 0, 9, 89, 54, 13, 155, 0, 25, 21, 13, 154, 0, 14, 42, 21, 11, 21, 12]
abbrev dktX2_quickSort_8 : List UInt8 := dkwX2_quickSort_8 ++ dktX2_quickSort_9
def dkwX2_quickSort_7 : List UInt8 := [21, 9, 132, 9, 1, 21, 10, 184, 0, 5, 132, 10, 1, 167, 255, 215, 21, 11, 21, 10, 161, 0, 40, 42]
abbrev dktX2_quickSort_7 : List UInt8 := dkwX2_quickSort_7 ++ dktX2_quickSort_8
def dkwX2_quickSort_6 : List UInt8 := [163, 0, 40, 42, 21, 10, 47, 22, 7, 184, 0, 9, 89, 54, 13, 157, 0, 25, 21, 13, 154, 0, 14, 42]
abbrev dktX2_quickSort_6 : List UInt8 := dkwX2_quickSort_6 ++ dktX2_quickSort_7
def dkwX2_quickSort_5 : List UInt8 := [55, 7, 27, 54, 9, 21, 9, 54, 10, 28, 4, 100, 54, 11, 21, 11, 54, 12, 21, 10, 21, 11]
abbrev dktX2_quickSort_5 : List UInt8 := dkwX2_quickSort_5 ++ dktX2_quickSort_6
def dkwX2_quickSort_4 : List UInt8 := [100, 21, 6, 184, 0, 16, 54, 6, 42, 21, 5, 21, 4, 21, 6, 184, 0, 16, 54, 4, 42, 21, 4, 47]
abbrev dktX2_quickSort_4 : List UInt8 := dkwX2_quickSort_4 ++ dktX2_quickSort_5
def dkwX2_quickSort_3 : List UInt8 := [21, 4, 21, 4, 21, 7, 96, 184, 0, 16, 54, 4, 42, 21, 6, 5, 21, 7, 104, 100, 21, 6, 21, 7]
abbrev dktX2_quickSort_3 : List UInt8 := dkwX2_quickSort_3 ++ dktX2_quickSort_4
def dkwX2_quickSort_2 : List UInt8 := [21, 5, 21, 7, 96, 21, 5, 5, 21, 7, 104, 96, 184, 0, 16, 54, 5, 42, 21, 4, 21, 7, 100]
abbrev dktX2_quickSort_2 : List UInt8 := dkwX2_quickSort_2 ++ dktX2_quickSort_3
def dkwX2_quickSort_1 : List UInt8 := [27, 54, 5, 28, 4, 100, 54, 6, 29, 17, 0, 128, 164, 0, 67, 29, 16, 8, 108, 54, 7, 42, 21, 5]
abbrev dktX2_quickSort_1 : List UInt8 := dkwX2_quickSort_1 ++ dktX2_quickSort_2
def dkwX2_quickSort_0 : List UInt8 := [28, 27, 100, 62, 29, 16, 16, 162, 0, 10, 42, 27, 28, 184, 0, 13, 177, 27, 29, 5, 108, 96, 54, 4]
abbrev dktX2_quickSort_0 : List UInt8 := dkwX2_quickSort_0 ++ dktX2_quickSort_1
theorem dksX2_quickSort_0 : cX2_quickSort.data.toList.drop 0 = dktX2_quickSort_0 := by decide +kernel
theorem dksX2_quickSort_1 : cX2_quickSort.data.toList.drop 24 = dktX2_quickSort_1 := dk_seg dksX2_quickSort_0 24 rfl rfl
theorem dksX2_quickSort_2 : cX2_quickSort.data.toList.drop 48 = dktX2_quickSort_2 := dk_seg dksX2_quickSort_1 24 rfl rfl
theorem dksX2_quickSort_3 : cX2_quickSort.data.toList.drop 71 = dktX2_quickSort_3 := dk_seg dksX2_quickSort_2 23 rfl rfl
theorem dksX2_quickSort_4 : cX2_quickSort.data.toList.drop 95 = dktX2_quickSort_4 := dk_seg dksX2_quickSort_3 24 rfl rfl
theorem dksX2_quickSort_5 : cX2_quickSort.data.toList.drop 119 = dktX2_quickSort_5 := dk_seg dksX2_quickSort_4 24 rfl rfl
theorem dksX2_quickSort_6 : cX2_quickSort.data.toList.drop 141 = dktX2_quickSort_6 := dk_seg dksX2_quickSort_5 22 rfl rfl
theorem dksX2_quickSort_7 : cX2_quickSort.data.toList.drop 165 = dktX2_quickSort_7 := dk_seg dksX2_quickSort_6 24 rfl rfl
theorem dksX2_quickSort_8 : cX2_quickSort.data.toList.drop 189 = dktX2_quickSort_8 := dk_seg dksX2_quickSort_7 24 rfl rfl
theorem dksX2_quickSort_9 : cX2_quickSort.data.toList.drop 213 = dktX2_quickSort_9 := dk_seg dksX2_quickSort_8 24 rfl rfl
theorem dksX2_quickSort_10 : cX2_quickSort.data.toList.drop 236 = dktX2_quickSort_10 := dk_seg dksX2_quickSort_9 23 rfl rfl
theorem dksX2_quickSort_11 : cX2_quickSort.data.toList.drop 260 = dktX2_quickSort_11 := dk_seg dksX2_quickSort_10 24 rfl rfl
theorem dksX2_quickSort_12 : cX2_quickSort.data.toList.drop 284 = dktX2_quickSort_12 := dk_seg dksX2_quickSort_11 24 rfl rfl
theorem dksX2_quickSort_13 : cX2_quickSort.data.toList.drop 308 = dktX2_quickSort_13 := dk_seg dksX2_quickSort_12 24 rfl rfl
theorem dksX2_quickSort_14 : cX2_quickSort.data.toList.drop 332 = dktX2_quickSort_14 := dk_seg dksX2_quickSort_13 24 rfl rfl
theorem dX2_quickSort_0 : decode cX2_quickSort 0 = .ok (.iload_n 2, 1) := dk_28 (dk_at dksX2_quickSort_0 0 rfl rfl)
theorem dX2_quickSort_1 : decode cX2_quickSort 1 = .ok (.iload_n 1, 1) := dk_27 (dk_at dksX2_quickSort_0 1 rfl rfl)
theorem dX2_quickSort_2 : decode cX2_quickSort 2 = .ok (.isub, 1) := dk_100 (dk_at dksX2_quickSort_0 2 rfl rfl)
theorem dX2_quickSort_3 : decode cX2_quickSort 3 = .ok (.istore_n 3, 1) := dk_62 (dk_at dksX2_quickSort_0 3 rfl rfl)
theorem dX2_quickSort_4 : decode cX2_quickSort 4 = .ok (.iload_n 3, 1) := dk_29 (dk_at dksX2_quickSort_0 4 rfl rfl)
theorem dX2_quickSort_5 : decode cX2_quickSort 5 = .ok (.bipush 16, 2) := dk_16 16 (dk_at dksX2_quickSort_0 5 rfl rfl)
theorem dX2_quickSort_7 : decode cX2_quickSort 7 = .ok (.if_icmp .ge 10, 3) := dk_162 0 10 (dk_at dksX2_quickSort_0 7 rfl rfl)
theorem dX2_quickSort_10 : decode cX2_quickSort 10 = .ok (.aload_n 0, 1) := dk_42 (dk_at dksX2_quickSort_0 10 rfl rfl)
theorem dX2_quickSort_11 : decode cX2_quickSort 11 = .ok (.iload_n 1, 1) := dk_27 (dk_at dksX2_quickSort_0 11 rfl rfl)
theorem dX2_quickSort_12 : decode cX2_quickSort 12 = .ok (.iload_n 2, 1) := dk_28 (dk_at dksX2_quickSort_0 12 rfl rfl)
theorem dX2_quickSort_13 : decode cX2_quickSort 13 = .ok (.invokestatic 13, 3) := dk_184 0 13 (dk_at dksX2_quickSort_0 13 rfl rfl)
theorem dX2_quickSort_16 : decode cX2_quickSort 16 = .ok (.return_, 1) := dk_177 (dk_at dksX2_quickSort_0 16 rfl rfl)
theorem dX2_quickSort_17 : decode cX2_quickSort 17 = .ok (.iload_n 1, 1) := dk_27 (dk_at dksX2_quickSort_0 17 rfl rfl)
theorem dX2_quickSort_18 : decode cX2_quickSort 18 = .ok (.iload_n 3, 1) := dk_29 (dk_at dksX2_quickSort_0 18 rfl rfl)
theorem dX2_quickSort_19 : decode cX2_quickSort 19 = .ok (.iconst 2, 1) := dk_5 (dk_at dksX2_quickSort_0 19 rfl rfl)
theorem dX2_quickSort_20 : decode cX2_quickSort 20 = .ok (.idiv, 1) := dk_108 (dk_at dksX2_quickSort_0 20 rfl rfl)
theorem dX2_quickSort_21 : decode cX2_quickSort 21 = .ok (.iadd, 1) := dk_96 (dk_at dksX2_quickSort_0 21 rfl rfl)
theorem dX2_quickSort_22 : decode cX2_quickSort 22 = .ok (.istore 4, 2) := dk_54 4 (dk_at dksX2_quickSort_0 22 rfl rfl)
theorem dX2_quickSort_24 : decode cX2_quickSort 24 = .ok (.iload_n 1, 1) := dk_27 (dk_at dksX2_quickSort_1 0 rfl rfl)
theorem dX2_quickSort_25 : decode cX2_quickSort 25 = .ok (.istore 5, 2) := dk_54 5 (dk_at dksX2_quickSort_1 1 rfl rfl)
theorem dX2_quickSort_27 : decode cX2_quickSort 27 = .ok (.iload_n 2, 1) := dk_28 (dk_at dksX2_quickSort_1 3 rfl rfl)
theorem dX2_quickSort_28 : decode cX2_quickSort 28 = .ok (.iconst 1, 1) := dk_4 (dk_at dksX2_quickSort_1 4 rfl rfl)
theorem dX2_quickSort_29 : decode cX2_quickSort 29 = .ok (.isub, 1) := dk_100 (dk_at dksX2_quickSort_1 5 rfl rfl)
theorem dX2_quickSort_30 : decode cX2_quickSort 30 = .ok (.istore 6, 2) := dk_54 6 (dk_at dksX2_quickSort_1 6 rfl rfl)
theorem dX2_quickSort_32 : decode cX2_quickSort 32 = .ok (.iload_n 3, 1) := dk_29 (dk_at dksX2_quickSort_1 8 rfl rfl)
theorem dX2_quickSort_33 : decode cX2_quickSort 33 = .ok (.sipush 128, 3) := dk_17 0 128 (dk_at dksX2_quickSort_1 9 rfl rfl)
theorem dX2_quickSort_36 : decode cX2_quickSort 36 = .ok (.if_icmp .le 67, 3) := dk_164 0 67 (dk_at dksX2_quickSort_1 12 rfl rfl)
theorem dX2_quickSort_39 : decode cX2_quickSort 39 = .ok (.iload_n 3, 1) := dk_29 (dk_at dksX2_quickSort_1 15 rfl rfl)
theorem dX2_quickSort_40 : decode cX2_quickSort 40 = .ok (.bipush 8, 2) := dk_16 8 (dk_at dksX2_quickSort_1 16 rfl rfl)
theorem dX2_quickSort_42 : decode cX2_quickSort 42 = .ok (.idiv, 1) := dk_108 (dk_at dksX2_quickSort_1 18 rfl rfl)
theorem dX2_quickSort_43 : decode cX2_quickSort 43 = .ok (.istore 7, 2) := dk_54 7 (dk_at dksX2_quickSort_1 19 rfl rfl)
theorem dX2_quickSort_45 : decode cX2_quickSort 45 = .ok (.aload_n 0, 1) := dk_42 (dk_at dksX2_quickSort_1 21 rfl rfl)
theorem dX2_quickSort_46 : decode cX2_quickSort 46 = .ok (.iload 5, 2) := dk_21 5 (dk_at dksX2_quickSort_1 22 rfl rfl)
theorem dX2_quickSort_48 : decode cX2_quickSort 48 = .ok (.iload 5, 2) := dk_21 5 (dk_at dksX2_quickSort_2 0 rfl rfl)
theorem dX2_quickSort_50 : decode cX2_quickSort 50 = .ok (.iload 7, 2) := dk_21 7 (dk_at dksX2_quickSort_2 2 rfl rfl)
theorem dX2_quickSort_52 : decode cX2_quickSort 52 = .ok (.iadd, 1) := dk_96 (dk_at dksX2_quickSort_2 4 rfl rfl)
theorem dX2_quickSort_53 : decode cX2_quickSort 53 = .ok (.iload 5, 2) := dk_21 5 (dk_at dksX2_quickSort_2 5 rfl rfl)
theorem dX2_quickSort_55 : decode cX2_quickSort 55 = .ok (.iconst 2, 1) := dk_5 (dk_at dksX2_quickSort_2 7 rfl rfl)
theorem dX2_quickSort_56 : decode cX2_quickSort 56 = .ok (.iload 7, 2) := dk_21 7 (dk_at dksX2_quickSort_2 8 rfl rfl)
theorem dX2_quickSort_58 : decode cX2_quickSort 58 = .ok (.imul, 1) := dk_104 (dk_at dksX2_quickSort_2 10 rfl rfl)
theorem dX2_quickSort_59 : decode cX2_quickSort 59 = .ok (.iadd, 1) := dk_96 (dk_at dksX2_quickSort_2 11 rfl rfl)
theorem dX2_quickSort_60 : decode cX2_quickSort 60 = .ok (.invokestatic 16, 3) := dk_184 0 16 (dk_at dksX2_quickSort_2 12 rfl rfl)
theorem dX2_quickSort_63 : decode cX2_quickSort 63 = .ok (.istore 5, 2) := dk_54 5 (dk_at dksX2_quickSort_2 15 rfl rfl)
theorem dX2_quickSort_65 : decode cX2_quickSort 65 = .ok (.aload_n 0, 1) := dk_42 (dk_at dksX2_quickSort_2 17 rfl rfl)
theorem dX2_quickSort_66 : decode cX2_quickSort 66 = .ok (.iload 4, 2) := dk_21 4 (dk_at dksX2_quickSort_2 18 rfl rfl)
theorem dX2_quickSort_68 : decode cX2_quickSort 68 = .ok (.iload 7, 2) := dk_21 7 (dk_at dksX2_quickSort_2 20 rfl rfl)
theorem dX2_quickSort_70 : decode cX2_quickSort 70 = .ok (.isub, 1) := dk_100 (dk_at dksX2_quickSort_2 22 rfl rfl)
theorem dX2_quickSort_71 : decode cX2_quickSort 71 = .ok (.iload 4, 2) := dk_21 4 (dk_at dksX2_quickSort_3 0 rfl rfl)
theorem dX2_quickSort_73 : decode cX2_quickSort 73 = .ok (.iload 4, 2) := dk_21 4 (dk_at dksX2_quickSort_3 2 rfl rfl)
theorem dX2_quickSort_75 : decode cX2_quickSort 75 = .ok (.iload 7, 2) := dk_21 7 (dk_at dksX2_quickSort_3 4 rfl rfl)
theorem dX2_quickSort_77 : decode cX2_quickSort 77 = .ok (.iadd, 1) := dk_96 (dk_at dksX2_quickSort_3 6 rfl rfl)
theorem dX2_quickSort_78 : decode cX2_quickSort 78 = .ok (.invokestatic 16, 3) := dk_184 0 16 (dk_at dksX2_quickSort_3 7 rfl rfl)
theorem dX2_quickSort_81 : decode cX2_quickSort 81 = .ok (.istore 4, 2) := dk_54 4 (dk_at dksX2_quickSort_3 10 rfl rfl)
theorem dX2_quickSort_83 : decode cX2_quickSort 83 = .ok (.aload_n 0, 1) := dk_42 (dk_at dksX2_quickSort_3 12 rfl rfl)
theorem dX2_quickSort_84 : decode cX2_quickSort 84 = .ok (.iload 6, 2) := dk_21 6 (dk_at dksX2_quickSort_3 13 rfl rfl)
theorem dX2_quickSort_86 : decode cX2_quickSort 86 = .ok (.iconst 2, 1) := dk_5 (dk_at dksX2_quickSort_3 15 rfl rfl)
theorem dX2_quickSort_87 : decode cX2_quickSort 87 = .ok (.iload 7, 2) := dk_21 7 (dk_at dksX2_quickSort_3 16 rfl rfl)
theorem dX2_quickSort_89 : decode cX2_quickSort 89 = .ok (.imul, 1) := dk_104 (dk_at dksX2_quickSort_3 18 rfl rfl)
theorem dX2_quickSort_90 : decode cX2_quickSort 90 = .ok (.isub, 1) := dk_100 (dk_at dksX2_quickSort_3 19 rfl rfl)
theorem dX2_quickSort_91 : decode cX2_quickSort 91 = .ok (.iload 6, 2) := dk_21 6 (dk_at dksX2_quickSort_3 20 rfl rfl)
theorem dX2_quickSort_93 : decode cX2_quickSort 93 = .ok (.iload 7, 2) := dk_21 7 (dk_at dksX2_quickSort_3 22 rfl rfl)
theorem dX2_quickSort_95 : decode cX2_quickSort 95 = .ok (.isub, 1) := dk_100 (dk_at dksX2_quickSort_4 0 rfl rfl)
theorem dX2_quickSort_96 : decode cX2_quickSort 96 = .ok (.iload 6, 2) := dk_21 6 (dk_at dksX2_quickSort_4 1 rfl rfl)
theorem dX2_quickSort_98 : decode cX2_quickSort 98 = .ok (.invokestatic 16, 3) := dk_184 0 16 (dk_at dksX2_quickSort_4 3 rfl rfl)
theorem dX2_quickSort_101 : decode cX2_quickSort 101 = .ok (.istore 6, 2) := dk_54 6 (dk_at dksX2_quickSort_4 6 rfl rfl)
theorem dX2_quickSort_103 : decode cX2_quickSort 103 = .ok (.aload_n 0, 1) := dk_42 (dk_at dksX2_quickSort_4 8 rfl rfl)
theorem dX2_quickSort_104 : decode cX2_quickSort 104 = .ok (.iload 5, 2) := dk_21 5 (dk_at dksX2_quickSort_4 9 rfl rfl)
theorem dX2_quickSort_106 : decode cX2_quickSort 106 = .ok (.iload 4, 2) := dk_21 4 (dk_at dksX2_quickSort_4 11 rfl rfl)
theorem dX2_quickSort_108 : decode cX2_quickSort 108 = .ok (.iload 6, 2) := dk_21 6 (dk_at dksX2_quickSort_4 13 rfl rfl)
theorem dX2_quickSort_110 : decode cX2_quickSort 110 = .ok (.invokestatic 16, 3) := dk_184 0 16 (dk_at dksX2_quickSort_4 15 rfl rfl)
theorem dX2_quickSort_113 : decode cX2_quickSort 113 = .ok (.istore 4, 2) := dk_54 4 (dk_at dksX2_quickSort_4 18 rfl rfl)
theorem dX2_quickSort_115 : decode cX2_quickSort 115 = .ok (.aload_n 0, 1) := dk_42 (dk_at dksX2_quickSort_4 20 rfl rfl)
theorem dX2_quickSort_116 : decode cX2_quickSort 116 = .ok (.iload 4, 2) := dk_21 4 (dk_at dksX2_quickSort_4 21 rfl rfl)
theorem dX2_quickSort_118 : decode cX2_quickSort 118 = .ok (.laload, 1) := dk_47 (dk_at dksX2_quickSort_4 23 rfl rfl)
theorem dX2_quickSort_119 : decode cX2_quickSort 119 = .ok (.lstore 7, 2) := dk_55 7 (dk_at dksX2_quickSort_5 0 rfl rfl)
theorem dX2_quickSort_121 : decode cX2_quickSort 121 = .ok (.iload_n 1, 1) := dk_27 (dk_at dksX2_quickSort_5 2 rfl rfl)
theorem dX2_quickSort_122 : decode cX2_quickSort 122 = .ok (.istore 9, 2) := dk_54 9 (dk_at dksX2_quickSort_5 3 rfl rfl)
theorem dX2_quickSort_124 : decode cX2_quickSort 124 = .ok (.iload 9, 2) := dk_21 9 (dk_at dksX2_quickSort_5 5 rfl rfl)
theorem dX2_quickSort_126 : decode cX2_quickSort 126 = .ok (.istore 10, 2) := dk_54 10 (dk_at dksX2_quickSort_5 7 rfl rfl)
theorem dX2_quickSort_128 : decode cX2_quickSort 128 = .ok (.iload_n 2, 1) := dk_28 (dk_at dksX2_quickSort_5 9 rfl rfl)
theorem dX2_quickSort_129 : decode cX2_quickSort 129 = .ok (.iconst 1, 1) := dk_4 (dk_at dksX2_quickSort_5 10 rfl rfl)
theorem dX2_quickSort_130 : decode cX2_quickSort 130 = .ok (.isub, 1) := dk_100 (dk_at dksX2_quickSort_5 11 rfl rfl)
theorem dX2_quickSort_131 : decode cX2_quickSort 131 = .ok (.istore 11, 2) := dk_54 11 (dk_at dksX2_quickSort_5 12 rfl rfl)
theorem dX2_quickSort_133 : decode cX2_quickSort 133 = .ok (.iload 11, 2) := dk_21 11 (dk_at dksX2_quickSort_5 14 rfl rfl)
theorem dX2_quickSort_135 : decode cX2_quickSort 135 = .ok (.istore 12, 2) := dk_54 12 (dk_at dksX2_quickSort_5 16 rfl rfl)
theorem dX2_quickSort_137 : decode cX2_quickSort 137 = .ok (.iload 10, 2) := dk_21 10 (dk_at dksX2_quickSort_5 18 rfl rfl)
theorem dX2_quickSort_139 : decode cX2_quickSort 139 = .ok (.iload 11, 2) := dk_21 11 (dk_at dksX2_quickSort_5 20 rfl rfl)
theorem dX2_quickSort_141 : decode cX2_quickSort 141 = .ok (.if_icmp .gt 40, 3) := dk_163 0 40 (dk_at dksX2_quickSort_6 0 rfl rfl)
theorem dX2_quickSort_144 : decode cX2_quickSort 144 = .ok (.aload_n 0, 1) := dk_42 (dk_at dksX2_quickSort_6 3 rfl rfl)
theorem dX2_quickSort_145 : decode cX2_quickSort 145 = .ok (.iload 10, 2) := dk_21 10 (dk_at dksX2_quickSort_6 4 rfl rfl)
theorem dX2_quickSort_147 : decode cX2_quickSort 147 = .ok (.laload, 1) := dk_47 (dk_at dksX2_quickSort_6 6 rfl rfl)
theorem dX2_quickSort_148 : decode cX2_quickSort 148 = .ok (.lload 7, 2) := dk_22 7 (dk_at dksX2_quickSort_6 7 rfl rfl)
theorem dX2_quickSort_150 : decode cX2_quickSort 150 = .ok (.invokestatic 9, 3) := dk_184 0 9 (dk_at dksX2_quickSort_6 9 rfl rfl)
theorem dX2_quickSort_153 : decode cX2_quickSort 153 = .ok (.dup, 1) := dk_89 (dk_at dksX2_quickSort_6 12 rfl rfl)
theorem dX2_quickSort_154 : decode cX2_quickSort 154 = .ok (.istore 13, 2) := dk_54 13 (dk_at dksX2_quickSort_6 13 rfl rfl)
theorem dX2_quickSort_156 : decode cX2_quickSort 156 = .ok (.ifCond .gt 25, 3) := dk_157 0 25 (dk_at dksX2_quickSort_6 15 rfl rfl)
theorem dX2_quickSort_159 : decode cX2_quickSort 159 = .ok (.iload 13, 2) := dk_21 13 (dk_at dksX2_quickSort_6 18 rfl rfl)
theorem dX2_quickSort_161 : decode cX2_quickSort 161 = .ok (.ifCond .ne 14, 3) := dk_154 0 14 (dk_at dksX2_quickSort_6 20 rfl rfl)
theorem dX2_quickSort_164 : decode cX2_quickSort 164 = .ok (.aload_n 0, 1) := dk_42 (dk_at dksX2_quickSort_6 23 rfl rfl)
theorem dX2_quickSort_165 : decode cX2_quickSort 165 = .ok (.iload 9, 2) := dk_21 9 (dk_at dksX2_quickSort_7 0 rfl rfl)
theorem dX2_quickSort_167 : decode cX2_quickSort 167 = .ok (.iinc 9 1, 3) := dk_132 9 1 (dk_at dksX2_quickSort_7 2 rfl rfl)
theorem dX2_quickSort_170 : decode cX2_quickSort 170 = .ok (.iload 10, 2) := dk_21 10 (dk_at dksX2_quickSort_7 5 rfl rfl)
theorem dX2_quickSort_172 : decode cX2_quickSort 172 = .ok (.invokestatic 5, 3) := dk_184 0 5 (dk_at dksX2_quickSort_7 7 rfl rfl)
theorem dX2_quickSort_175 : decode cX2_quickSort 175 = .ok (.iinc 10 1, 3) := dk_132 10 1 (dk_at dksX2_quickSort_7 10 rfl rfl)
theorem dX2_quickSort_178 : decode cX2_quickSort 178 = .ok (.goto (-41), 3) := dk_167 255 215 (dk_at dksX2_quickSort_7 13 rfl rfl)
theorem dX2_quickSort_181 : decode cX2_quickSort 181 = .ok (.iload 11, 2) := dk_21 11 (dk_at dksX2_quickSort_7 16 rfl rfl)
theorem dX2_quickSort_183 : decode cX2_quickSort 183 = .ok (.iload 10, 2) := dk_21 10 (dk_at dksX2_quickSort_7 18 rfl rfl)
theorem dX2_quickSort_185 : decode cX2_quickSort 185 = .ok (.if_icmp .lt 40, 3) := dk_161 0 40 (dk_at dksX2_quickSort_7 20 rfl rfl)
theorem dX2_quickSort_188 : decode cX2_quickSort 188 = .ok (.aload_n 0, 1) := dk_42 (dk_at dksX2_quickSort_7 23 rfl rfl)
theorem dX2_quickSort_189 : decode cX2_quickSort 189 = .ok (.iload 11, 2) := dk_21 11 (dk_at dksX2_quickSort_8 0 rfl rfl)
theorem dX2_quickSort_191 : decode cX2_quickSort 191 = .ok (.laload, 1) := dk_47 (dk_at dksX2_quickSort_8 2 rfl rfl)
theorem dX2_quickSort_192 : decode cX2_quickSort 192 = .ok (.lload 7, 2) := dk_22 7 (dk_at dksX2_quickSort_8 3 rfl rfl)
theorem dX2_quickSort_194 : decode cX2_quickSort 194 = .ok (.invokestatic 9, 3) := dk_184 0 9 (dk_at dksX2_quickSort_8 5 rfl rfl)
theorem dX2_quickSort_197 : decode cX2_quickSort 197 = .ok (.dup, 1) := dk_89 (dk_at dksX2_quickSort_8 8 rfl rfl)
theorem dX2_quickSort_198 : decode cX2_quickSort 198 = .ok (.istore 13, 2) := dk_54 13 (dk_at dksX2_quickSort_8 9 rfl rfl)
theorem dX2_quickSort_200 : decode cX2_quickSort 200 = .ok (.ifCond .lt 25, 3) := dk_155 0 25 (dk_at dksX2_quickSort_8 11 rfl rfl)
theorem dX2_quickSort_203 : decode cX2_quickSort 203 = .ok (.iload 13, 2) := dk_21 13 (dk_at dksX2_quickSort_8 14 rfl rfl)
theorem dX2_quickSort_205 : decode cX2_quickSort 205 = .ok (.ifCond .ne 14, 3) := dk_154 0 14 (dk_at dksX2_quickSort_8 16 rfl rfl)
theorem dX2_quickSort_208 : decode cX2_quickSort 208 = .ok (.aload_n 0, 1) := dk_42 (dk_at dksX2_quickSort_8 19 rfl rfl)
theorem dX2_quickSort_209 : decode cX2_quickSort 209 = .ok (.iload 11, 2) := dk_21 11 (dk_at dksX2_quickSort_8 20 rfl rfl)
theorem dX2_quickSort_211 : decode cX2_quickSort 211 = .ok (.iload 12, 2) := dk_21 12 (dk_at dksX2_quickSort_8 22 rfl rfl)
theorem dX2_quickSort_213 : decode cX2_quickSort 213 = .ok (.iinc 12 (-1), 3) := dk_132 12 255 (dk_at dksX2_quickSort_9 0 rfl rfl)
theorem dX2_quickSort_216 : decode cX2_quickSort 216 = .ok (.invokestatic 5, 3) := dk_184 0 5 (dk_at dksX2_quickSort_9 3 rfl rfl)
theorem dX2_quickSort_219 : decode cX2_quickSort 219 = .ok (.iinc 11 (-1), 3) := dk_132 11 255 (dk_at dksX2_quickSort_9 6 rfl rfl)
theorem dX2_quickSort_222 : decode cX2_quickSort 222 = .ok (.goto (-41), 3) := dk_167 255 215 (dk_at dksX2_quickSort_9 9 rfl rfl)
theorem dX2_quickSort_225 : decode cX2_quickSort 225 = .ok (.iload 10, 2) := dk_21 10 (dk_at dksX2_quickSort_9 12 rfl rfl)
theorem dX2_quickSort_227 : decode cX2_quickSort 227 = .ok (.iload 11, 2) := dk_21 11 (dk_at dksX2_quickSort_9 14 rfl rfl)
theorem dX2_quickSort_229 : decode cX2_quickSort 229 = .ok (.if_icmp .le 6, 3) := dk_164 0 6 (dk_at dksX2_quickSort_9 16 rfl rfl)
theorem dX2_quickSort_232 : decode cX2_quickSort 232 = .ok (.goto 20, 3) := dk_167 0 20 (dk_at dksX2_quickSort_9 19 rfl rfl)
theorem dX2_quickSort_235 : decode cX2_quickSort 235 = .ok (.aload_n 0, 1) := dk_42 (dk_at dksX2_quickSort_9 22 rfl rfl)
theorem dX2_quickSort_236 : decode cX2_quickSort 236 = .ok (.iload 10, 2) := dk_21 10 (dk_at dksX2_quickSort_10 0 rfl rfl)
theorem dX2_quickSort_238 : decode cX2_quickSort 238 = .ok (.iinc 10 1, 3) := dk_132 10 1 (dk_at dksX2_quickSort_10 2 rfl rfl)
theorem dX2_quickSort_241 : decode cX2_quickSort 241 = .ok (.iload 11, 2) := dk_21 11 (dk_at dksX2_quickSort_10 5 rfl rfl)
theorem dX2_quickSort_243 : decode cX2_quickSort 243 = .ok (.iinc 11 (-1), 3) := dk_132 11 255 (dk_at dksX2_quickSort_10 7 rfl rfl)
theorem dX2_quickSort_246 : decode cX2_quickSort 246 = .ok (.invokestatic 5, 3) := dk_184 0 5 (dk_at dksX2_quickSort_10 10 rfl rfl)
theorem dX2_quickSort_249 : decode cX2_quickSort 249 = .ok (.goto (-112), 3) := dk_167 255 144 (dk_at dksX2_quickSort_10 13 rfl rfl)
theorem dX2_quickSort_252 : decode cX2_quickSort 252 = .ok (.iload 9, 2) := dk_21 9 (dk_at dksX2_quickSort_10 16 rfl rfl)
theorem dX2_quickSort_254 : decode cX2_quickSort 254 = .ok (.iload_n 1, 1) := dk_27 (dk_at dksX2_quickSort_10 18 rfl rfl)
theorem dX2_quickSort_255 : decode cX2_quickSort 255 = .ok (.isub, 1) := dk_100 (dk_at dksX2_quickSort_10 19 rfl rfl)
theorem dX2_quickSort_256 : decode cX2_quickSort 256 = .ok (.iload 10, 2) := dk_21 10 (dk_at dksX2_quickSort_10 20 rfl rfl)
theorem dX2_quickSort_258 : decode cX2_quickSort 258 = .ok (.iload 9, 2) := dk_21 9 (dk_at dksX2_quickSort_10 22 rfl rfl)
theorem dX2_quickSort_260 : decode cX2_quickSort 260 = .ok (.isub, 1) := dk_100 (dk_at dksX2_quickSort_11 0 rfl rfl)
theorem dX2_quickSort_261 : decode cX2_quickSort 261 = .ok (.invokestatic 20, 3) := dk_184 0 20 (dk_at dksX2_quickSort_11 1 rfl rfl)
theorem dX2_quickSort_264 : decode cX2_quickSort 264 = .ok (.istore 13, 2) := dk_54 13 (dk_at dksX2_quickSort_11 4 rfl rfl)
theorem dX2_quickSort_266 : decode cX2_quickSort 266 = .ok (.aload_n 0, 1) := dk_42 (dk_at dksX2_quickSort_11 6 rfl rfl)
theorem dX2_quickSort_267 : decode cX2_quickSort 267 = .ok (.iload_n 1, 1) := dk_27 (dk_at dksX2_quickSort_11 7 rfl rfl)
theorem dX2_quickSort_268 : decode cX2_quickSort 268 = .ok (.iload 10, 2) := dk_21 10 (dk_at dksX2_quickSort_11 8 rfl rfl)
theorem dX2_quickSort_270 : decode cX2_quickSort 270 = .ok (.iload 13, 2) := dk_21 13 (dk_at dksX2_quickSort_11 10 rfl rfl)
theorem dX2_quickSort_272 : decode cX2_quickSort 272 = .ok (.isub, 1) := dk_100 (dk_at dksX2_quickSort_11 12 rfl rfl)
theorem dX2_quickSort_273 : decode cX2_quickSort 273 = .ok (.iload 13, 2) := dk_21 13 (dk_at dksX2_quickSort_11 13 rfl rfl)
theorem dX2_quickSort_275 : decode cX2_quickSort 275 = .ok (.invokestatic 26, 3) := dk_184 0 26 (dk_at dksX2_quickSort_11 15 rfl rfl)
theorem dX2_quickSort_278 : decode cX2_quickSort 278 = .ok (.iload 12, 2) := dk_21 12 (dk_at dksX2_quickSort_11 18 rfl rfl)
theorem dX2_quickSort_280 : decode cX2_quickSort 280 = .ok (.iload 11, 2) := dk_21 11 (dk_at dksX2_quickSort_11 20 rfl rfl)
theorem dX2_quickSort_282 : decode cX2_quickSort 282 = .ok (.isub, 1) := dk_100 (dk_at dksX2_quickSort_11 22 rfl rfl)
theorem dX2_quickSort_283 : decode cX2_quickSort 283 = .ok (.iload_n 2, 1) := dk_28 (dk_at dksX2_quickSort_11 23 rfl rfl)
theorem dX2_quickSort_284 : decode cX2_quickSort 284 = .ok (.iload 12, 2) := dk_21 12 (dk_at dksX2_quickSort_12 0 rfl rfl)
theorem dX2_quickSort_286 : decode cX2_quickSort 286 = .ok (.isub, 1) := dk_100 (dk_at dksX2_quickSort_12 2 rfl rfl)
theorem dX2_quickSort_287 : decode cX2_quickSort 287 = .ok (.iconst 1, 1) := dk_4 (dk_at dksX2_quickSort_12 3 rfl rfl)
theorem dX2_quickSort_288 : decode cX2_quickSort 288 = .ok (.isub, 1) := dk_100 (dk_at dksX2_quickSort_12 4 rfl rfl)
theorem dX2_quickSort_289 : decode cX2_quickSort 289 = .ok (.invokestatic 20, 3) := dk_184 0 20 (dk_at dksX2_quickSort_12 5 rfl rfl)
theorem dX2_quickSort_292 : decode cX2_quickSort 292 = .ok (.istore 13, 2) := dk_54 13 (dk_at dksX2_quickSort_12 8 rfl rfl)
theorem dX2_quickSort_294 : decode cX2_quickSort 294 = .ok (.aload_n 0, 1) := dk_42 (dk_at dksX2_quickSort_12 10 rfl rfl)
theorem dX2_quickSort_295 : decode cX2_quickSort 295 = .ok (.iload 10, 2) := dk_21 10 (dk_at dksX2_quickSort_12 11 rfl rfl)
theorem dX2_quickSort_297 : decode cX2_quickSort 297 = .ok (.iload_n 2, 1) := dk_28 (dk_at dksX2_quickSort_12 13 rfl rfl)
theorem dX2_quickSort_298 : decode cX2_quickSort 298 = .ok (.iload 13, 2) := dk_21 13 (dk_at dksX2_quickSort_12 14 rfl rfl)
theorem dX2_quickSort_300 : decode cX2_quickSort 300 = .ok (.isub, 1) := dk_100 (dk_at dksX2_quickSort_12 16 rfl rfl)
theorem dX2_quickSort_301 : decode cX2_quickSort 301 = .ok (.iload 13, 2) := dk_21 13 (dk_at dksX2_quickSort_12 17 rfl rfl)
theorem dX2_quickSort_303 : decode cX2_quickSort 303 = .ok (.invokestatic 26, 3) := dk_184 0 26 (dk_at dksX2_quickSort_12 19 rfl rfl)
theorem dX2_quickSort_306 : decode cX2_quickSort 306 = .ok (.iload 10, 2) := dk_21 10 (dk_at dksX2_quickSort_12 22 rfl rfl)
theorem dX2_quickSort_308 : decode cX2_quickSort 308 = .ok (.iload 9, 2) := dk_21 9 (dk_at dksX2_quickSort_13 0 rfl rfl)
theorem dX2_quickSort_310 : decode cX2_quickSort 310 = .ok (.isub, 1) := dk_100 (dk_at dksX2_quickSort_13 2 rfl rfl)
theorem dX2_quickSort_311 : decode cX2_quickSort 311 = .ok (.dup, 1) := dk_89 (dk_at dksX2_quickSort_13 3 rfl rfl)
theorem dX2_quickSort_312 : decode cX2_quickSort 312 = .ok (.istore 13, 2) := dk_54 13 (dk_at dksX2_quickSort_13 4 rfl rfl)
theorem dX2_quickSort_314 : decode cX2_quickSort 314 = .ok (.iconst 1, 1) := dk_4 (dk_at dksX2_quickSort_13 6 rfl rfl)
theorem dX2_quickSort_315 : decode cX2_quickSort 315 = .ok (.if_icmp .le 12, 3) := dk_164 0 12 (dk_at dksX2_quickSort_13 7 rfl rfl)
theorem dX2_quickSort_318 : decode cX2_quickSort 318 = .ok (.aload_n 0, 1) := dk_42 (dk_at dksX2_quickSort_13 10 rfl rfl)
theorem dX2_quickSort_319 : decode cX2_quickSort 319 = .ok (.iload_n 1, 1) := dk_27 (dk_at dksX2_quickSort_13 11 rfl rfl)
theorem dX2_quickSort_320 : decode cX2_quickSort 320 = .ok (.iload_n 1, 1) := dk_27 (dk_at dksX2_quickSort_13 12 rfl rfl)
theorem dX2_quickSort_321 : decode cX2_quickSort 321 = .ok (.iload 13, 2) := dk_21 13 (dk_at dksX2_quickSort_13 13 rfl rfl)
theorem dX2_quickSort_323 : decode cX2_quickSort 323 = .ok (.iadd, 1) := dk_96 (dk_at dksX2_quickSort_13 15 rfl rfl)
theorem dX2_quickSort_324 : decode cX2_quickSort 324 = .ok (.invokestatic 29, 3) := dk_184 0 29 (dk_at dksX2_quickSort_13 16 rfl rfl)
theorem dX2_quickSort_327 : decode cX2_quickSort 327 = .ok (.iload 12, 2) := dk_21 12 (dk_at dksX2_quickSort_13 19 rfl rfl)
theorem dX2_quickSort_329 : decode cX2_quickSort 329 = .ok (.iload 11, 2) := dk_21 11 (dk_at dksX2_quickSort_13 21 rfl rfl)
theorem dX2_quickSort_331 : decode cX2_quickSort 331 = .ok (.isub, 1) := dk_100 (dk_at dksX2_quickSort_13 23 rfl rfl)
theorem dX2_quickSort_332 : decode cX2_quickSort 332 = .ok (.dup, 1) := dk_89 (dk_at dksX2_quickSort_14 0 rfl rfl)
theorem dX2_quickSort_333 : decode cX2_quickSort 333 = .ok (.istore 13, 2) := dk_54 13 (dk_at dksX2_quickSort_14 1 rfl rfl)
theorem dX2_quickSort_335 : decode cX2_quickSort 335 = .ok (.iconst 1, 1) := dk_4 (dk_at dksX2_quickSort_14 3 rfl rfl)
theorem dX2_quickSort_336 : decode cX2_quickSort 336 = .ok (.if_icmp .le 12, 3) := dk_164 0 12 (dk_at dksX2_quickSort_14 4 rfl rfl)
theorem dX2_quickSort_339 : decode cX2_quickSort 339 = .ok (.aload_n 0, 1) := dk_42 (dk_at dksX2_quickSort_14 7 rfl rfl)
theorem dX2_quickSort_340 : decode cX2_quickSort 340 = .ok (.iload_n 2, 1) := dk_28 (dk_at dksX2_quickSort_14 8 rfl rfl)
theorem dX2_quickSort_341 : decode cX2_quickSort 341 = .ok (.iload 13, 2) := dk_21 13 (dk_at dksX2_quickSort_14 9 rfl rfl)
theorem dX2_quickSort_343 : decode cX2_quickSort 343 = .ok (.isub, 1) := dk_100 (dk_at dksX2_quickSort_14 11 rfl rfl)
theorem dX2_quickSort_344 : decode cX2_quickSort 344 = .ok (.iload_n 2, 1) := dk_28 (dk_at dksX2_quickSort_14 12 rfl rfl)
theorem dX2_quickSort_345 : decode cX2_quickSort 345 = .ok (.invokestatic 29, 3) := dk_184 0 29 (dk_at dksX2_quickSort_14 13 rfl rfl)
theorem dX2_quickSort_348 : decode cX2_quickSort 348 = .ok (.return_, 1) := dk_177 (dk_at dksX2_quickSort_14 16 rfl rfl)
abbrev cX2_selectionSort : ByteArray := prog_1_method_4_code
def yX2_selectionSort : MethodName := ⟨RX2, "selectionSort", "([JII)V"⟩
def dkwX2_selectionSort_3 : List UInt8 := [167, 255, 186, 177]
abbrev dktX2_selectionSort_3 : List UInt8 := dkwX2_selectionSort_3 ++ []
def dkwX2_selectionSort_2 : List UInt8 := [159, 0, 21, 42, 29, 47, 55, 5, 42, 29, 42, 21, 4, 47, 80, 42, 21, 4, 22, 5, 80, 132, 3, 1]
abbrev dktX2_selectionSort_2 : List UInt8 := dkwX2_selectionSort_2 ++ dktX2_selectionSort_3
def dkwX2_selectionSort_1 : List UInt8 := [21, 5, 47, 42, 21, 4, 47, 148, 156, 0, 7, 21, 5, 54, 4, 132, 5, 1, 167, 255, 231, 21, 4, 29]
abbrev dktX2_selectionSort_1 : List UInt8 := dkwX2_selectionSort_1 ++ dktX2_selectionSort_2
def dkwX2_selectionSort_0 : List UInt8 := [27, 62, 29, 28, 4, 100, 162, 0, 69, 29, 54, 4, 29, 4, 96, 54, 5, 21, 5, 28, 162, 0, 25, 42]
abbrev dktX2_selectionSort_0 : List UInt8 := dkwX2_selectionSort_0 ++ dktX2_selectionSort_1
theorem dksX2_selectionSort_0 : cX2_selectionSort.data.toList.drop 0 = dktX2_selectionSort_0 := by decide +kernel
theorem dksX2_selectionSort_1 : cX2_selectionSort.data.toList.drop 24 = dktX2_selectionSort_1 := dk_seg dksX2_selectionSort_0 24 rfl rfl
theorem dksX2_selectionSort_2 : cX2_selectionSort.data.toList.drop 48 = dktX2_selectionSort_2 := dk_seg dksX2_selectionSort_1 24 rfl rfl
theorem dksX2_selectionSort_3 : cX2_selectionSort.data.toList.drop 72 = dktX2_selectionSort_3 := dk_seg dksX2_selectionSort_2 24 rfl rfl
theorem dX2_selectionSort_0 : decode cX2_selectionSort 0 = .ok (.iload_n 1, 1) := dk_27 (dk_at dksX2_selectionSort_0 0 rfl rfl)
theorem dX2_selectionSort_1 : decode cX2_selectionSort 1 = .ok (.istore_n 3, 1) := dk_62 (dk_at dksX2_selectionSort_0 1 rfl rfl)
theorem dX2_selectionSort_2 : decode cX2_selectionSort 2 = .ok (.iload_n 3, 1) := dk_29 (dk_at dksX2_selectionSort_0 2 rfl rfl)
theorem dX2_selectionSort_3 : decode cX2_selectionSort 3 = .ok (.iload_n 2, 1) := dk_28 (dk_at dksX2_selectionSort_0 3 rfl rfl)
theorem dX2_selectionSort_4 : decode cX2_selectionSort 4 = .ok (.iconst 1, 1) := dk_4 (dk_at dksX2_selectionSort_0 4 rfl rfl)
theorem dX2_selectionSort_5 : decode cX2_selectionSort 5 = .ok (.isub, 1) := dk_100 (dk_at dksX2_selectionSort_0 5 rfl rfl)
theorem dX2_selectionSort_6 : decode cX2_selectionSort 6 = .ok (.if_icmp .ge 69, 3) := dk_162 0 69 (dk_at dksX2_selectionSort_0 6 rfl rfl)
theorem dX2_selectionSort_9 : decode cX2_selectionSort 9 = .ok (.iload_n 3, 1) := dk_29 (dk_at dksX2_selectionSort_0 9 rfl rfl)
theorem dX2_selectionSort_10 : decode cX2_selectionSort 10 = .ok (.istore 4, 2) := dk_54 4 (dk_at dksX2_selectionSort_0 10 rfl rfl)
theorem dX2_selectionSort_12 : decode cX2_selectionSort 12 = .ok (.iload_n 3, 1) := dk_29 (dk_at dksX2_selectionSort_0 12 rfl rfl)
theorem dX2_selectionSort_13 : decode cX2_selectionSort 13 = .ok (.iconst 1, 1) := dk_4 (dk_at dksX2_selectionSort_0 13 rfl rfl)
theorem dX2_selectionSort_14 : decode cX2_selectionSort 14 = .ok (.iadd, 1) := dk_96 (dk_at dksX2_selectionSort_0 14 rfl rfl)
theorem dX2_selectionSort_15 : decode cX2_selectionSort 15 = .ok (.istore 5, 2) := dk_54 5 (dk_at dksX2_selectionSort_0 15 rfl rfl)
theorem dX2_selectionSort_17 : decode cX2_selectionSort 17 = .ok (.iload 5, 2) := dk_21 5 (dk_at dksX2_selectionSort_0 17 rfl rfl)
theorem dX2_selectionSort_19 : decode cX2_selectionSort 19 = .ok (.iload_n 2, 1) := dk_28 (dk_at dksX2_selectionSort_0 19 rfl rfl)
theorem dX2_selectionSort_20 : decode cX2_selectionSort 20 = .ok (.if_icmp .ge 25, 3) := dk_162 0 25 (dk_at dksX2_selectionSort_0 20 rfl rfl)
theorem dX2_selectionSort_23 : decode cX2_selectionSort 23 = .ok (.aload_n 0, 1) := dk_42 (dk_at dksX2_selectionSort_0 23 rfl rfl)
theorem dX2_selectionSort_24 : decode cX2_selectionSort 24 = .ok (.iload 5, 2) := dk_21 5 (dk_at dksX2_selectionSort_1 0 rfl rfl)
theorem dX2_selectionSort_26 : decode cX2_selectionSort 26 = .ok (.laload, 1) := dk_47 (dk_at dksX2_selectionSort_1 2 rfl rfl)
theorem dX2_selectionSort_27 : decode cX2_selectionSort 27 = .ok (.aload_n 0, 1) := dk_42 (dk_at dksX2_selectionSort_1 3 rfl rfl)
theorem dX2_selectionSort_28 : decode cX2_selectionSort 28 = .ok (.iload 4, 2) := dk_21 4 (dk_at dksX2_selectionSort_1 4 rfl rfl)
theorem dX2_selectionSort_30 : decode cX2_selectionSort 30 = .ok (.laload, 1) := dk_47 (dk_at dksX2_selectionSort_1 6 rfl rfl)
theorem dX2_selectionSort_31 : decode cX2_selectionSort 31 = .ok (.lcmp, 1) := dk_148 (dk_at dksX2_selectionSort_1 7 rfl rfl)
theorem dX2_selectionSort_32 : decode cX2_selectionSort 32 = .ok (.ifCond .ge 7, 3) := dk_156 0 7 (dk_at dksX2_selectionSort_1 8 rfl rfl)
theorem dX2_selectionSort_35 : decode cX2_selectionSort 35 = .ok (.iload 5, 2) := dk_21 5 (dk_at dksX2_selectionSort_1 11 rfl rfl)
theorem dX2_selectionSort_37 : decode cX2_selectionSort 37 = .ok (.istore 4, 2) := dk_54 4 (dk_at dksX2_selectionSort_1 13 rfl rfl)
theorem dX2_selectionSort_39 : decode cX2_selectionSort 39 = .ok (.iinc 5 1, 3) := dk_132 5 1 (dk_at dksX2_selectionSort_1 15 rfl rfl)
theorem dX2_selectionSort_42 : decode cX2_selectionSort 42 = .ok (.goto (-25), 3) := dk_167 255 231 (dk_at dksX2_selectionSort_1 18 rfl rfl)
theorem dX2_selectionSort_45 : decode cX2_selectionSort 45 = .ok (.iload 4, 2) := dk_21 4 (dk_at dksX2_selectionSort_1 21 rfl rfl)
theorem dX2_selectionSort_47 : decode cX2_selectionSort 47 = .ok (.iload_n 3, 1) := dk_29 (dk_at dksX2_selectionSort_1 23 rfl rfl)
theorem dX2_selectionSort_48 : decode cX2_selectionSort 48 = .ok (.if_icmp .eq 21, 3) := dk_159 0 21 (dk_at dksX2_selectionSort_2 0 rfl rfl)
theorem dX2_selectionSort_51 : decode cX2_selectionSort 51 = .ok (.aload_n 0, 1) := dk_42 (dk_at dksX2_selectionSort_2 3 rfl rfl)
theorem dX2_selectionSort_52 : decode cX2_selectionSort 52 = .ok (.iload_n 3, 1) := dk_29 (dk_at dksX2_selectionSort_2 4 rfl rfl)
theorem dX2_selectionSort_53 : decode cX2_selectionSort 53 = .ok (.laload, 1) := dk_47 (dk_at dksX2_selectionSort_2 5 rfl rfl)
theorem dX2_selectionSort_54 : decode cX2_selectionSort 54 = .ok (.lstore 5, 2) := dk_55 5 (dk_at dksX2_selectionSort_2 6 rfl rfl)
theorem dX2_selectionSort_56 : decode cX2_selectionSort 56 = .ok (.aload_n 0, 1) := dk_42 (dk_at dksX2_selectionSort_2 8 rfl rfl)
theorem dX2_selectionSort_57 : decode cX2_selectionSort 57 = .ok (.iload_n 3, 1) := dk_29 (dk_at dksX2_selectionSort_2 9 rfl rfl)
theorem dX2_selectionSort_58 : decode cX2_selectionSort 58 = .ok (.aload_n 0, 1) := dk_42 (dk_at dksX2_selectionSort_2 10 rfl rfl)
theorem dX2_selectionSort_59 : decode cX2_selectionSort 59 = .ok (.iload 4, 2) := dk_21 4 (dk_at dksX2_selectionSort_2 11 rfl rfl)
theorem dX2_selectionSort_61 : decode cX2_selectionSort 61 = .ok (.laload, 1) := dk_47 (dk_at dksX2_selectionSort_2 13 rfl rfl)
theorem dX2_selectionSort_62 : decode cX2_selectionSort 62 = .ok (.lastore, 1) := dk_80 (dk_at dksX2_selectionSort_2 14 rfl rfl)
theorem dX2_selectionSort_63 : decode cX2_selectionSort 63 = .ok (.aload_n 0, 1) := dk_42 (dk_at dksX2_selectionSort_2 15 rfl rfl)
theorem dX2_selectionSort_64 : decode cX2_selectionSort 64 = .ok (.iload 4, 2) := dk_21 4 (dk_at dksX2_selectionSort_2 16 rfl rfl)
theorem dX2_selectionSort_66 : decode cX2_selectionSort 66 = .ok (.lload 5, 2) := dk_22 5 (dk_at dksX2_selectionSort_2 18 rfl rfl)
theorem dX2_selectionSort_68 : decode cX2_selectionSort 68 = .ok (.lastore, 1) := dk_80 (dk_at dksX2_selectionSort_2 20 rfl rfl)
theorem dX2_selectionSort_69 : decode cX2_selectionSort 69 = .ok (.iinc 3 1, 3) := dk_132 3 1 (dk_at dksX2_selectionSort_2 21 rfl rfl)
theorem dX2_selectionSort_72 : decode cX2_selectionSort 72 = .ok (.goto (-70), 3) := dk_167 255 186 (dk_at dksX2_selectionSort_3 0 rfl rfl)
theorem dX2_selectionSort_75 : decode cX2_selectionSort 75 = .ok (.return_, 1) := dk_177 (dk_at dksX2_selectionSort_3 3 rfl rfl)
abbrev cX2_med3 : ByteArray := prog_1_method_3_code
def yX2_med3 : MethodName := ⟨RX2, "med3", "([JIII)I"⟩
def dkwX2_med3_3 : List UInt8 := [158, 0, 7, 29, 167, 0, 4, 27, 172]
abbrev dktX2_med3_3 : List UInt8 := dkwX2_med3_3 ++ []
def dkwX2_med3_2 : List UInt8 := [21, 5, 156, 0, 7, 29, 167, 0, 26, 27, 167, 0, 22, 21, 6, 158, 0, 7, 28, 167, 0, 13, 21, 5]
abbrev dktX2_med3_2 : List UInt8 := dkwX2_med3_2 ++ dktX2_med3_3
def dkwX2_med3_1 : List UInt8 := [47, 42, 29, 47, 184, 0, 9, 54, 6, 21, 4, 156, 0, 25, 21, 6, 156, 0, 7, 28, 167, 0, 35]
abbrev dktX2_med3_1 : List UInt8 := dkwX2_med3_1 ++ dktX2_med3_2
def dkwX2_med3_0 : List UInt8 := [42, 27, 47, 42, 28, 47, 184, 0, 9, 54, 4, 42, 27, 47, 42, 29, 47, 184, 0, 9, 54, 5, 42, 28]
abbrev dktX2_med3_0 : List UInt8 := dkwX2_med3_0 ++ dktX2_med3_1
theorem dksX2_med3_0 : cX2_med3.data.toList.drop 0 = dktX2_med3_0 := by decide +kernel
theorem dksX2_med3_1 : cX2_med3.data.toList.drop 24 = dktX2_med3_1 := dk_seg dksX2_med3_0 24 rfl rfl
theorem dksX2_med3_2 : cX2_med3.data.toList.drop 47 = dktX2_med3_2 := dk_seg dksX2_med3_1 23 rfl rfl
theorem dksX2_med3_3 : cX2_med3.data.toList.drop 71 = dktX2_med3_3 := dk_seg dksX2_med3_2 24 rfl rfl
theorem dX2_med3_0 : decode cX2_med3 0 = .ok (.aload_n 0, 1) := dk_42 (dk_at dksX2_med3_0 0 rfl rfl)
theorem dX2_med3_1 : decode cX2_med3 1 = .ok (.iload_n 1, 1) := dk_27 (dk_at dksX2_med3_0 1 rfl rfl)
theorem dX2_med3_2 : decode cX2_med3 2 = .ok (.laload, 1) := dk_47 (dk_at dksX2_med3_0 2 rfl rfl)
theorem dX2_med3_3 : decode cX2_med3 3 = .ok (.aload_n 0, 1) := dk_42 (dk_at dksX2_med3_0 3 rfl rfl)
theorem dX2_med3_4 : decode cX2_med3 4 = .ok (.iload_n 2, 1) := dk_28 (dk_at dksX2_med3_0 4 rfl rfl)
theorem dX2_med3_5 : decode cX2_med3 5 = .ok (.laload, 1) := dk_47 (dk_at dksX2_med3_0 5 rfl rfl)
theorem dX2_med3_6 : decode cX2_med3 6 = .ok (.invokestatic 9, 3) := dk_184 0 9 (dk_at dksX2_med3_0 6 rfl rfl)
theorem dX2_med3_9 : decode cX2_med3 9 = .ok (.istore 4, 2) := dk_54 4 (dk_at dksX2_med3_0 9 rfl rfl)
theorem dX2_med3_11 : decode cX2_med3 11 = .ok (.aload_n 0, 1) := dk_42 (dk_at dksX2_med3_0 11 rfl rfl)
theorem dX2_med3_12 : decode cX2_med3 12 = .ok (.iload_n 1, 1) := dk_27 (dk_at dksX2_med3_0 12 rfl rfl)
theorem dX2_med3_13 : decode cX2_med3 13 = .ok (.laload, 1) := dk_47 (dk_at dksX2_med3_0 13 rfl rfl)
theorem dX2_med3_14 : decode cX2_med3 14 = .ok (.aload_n 0, 1) := dk_42 (dk_at dksX2_med3_0 14 rfl rfl)
theorem dX2_med3_15 : decode cX2_med3 15 = .ok (.iload_n 3, 1) := dk_29 (dk_at dksX2_med3_0 15 rfl rfl)
theorem dX2_med3_16 : decode cX2_med3 16 = .ok (.laload, 1) := dk_47 (dk_at dksX2_med3_0 16 rfl rfl)
theorem dX2_med3_17 : decode cX2_med3 17 = .ok (.invokestatic 9, 3) := dk_184 0 9 (dk_at dksX2_med3_0 17 rfl rfl)
theorem dX2_med3_20 : decode cX2_med3 20 = .ok (.istore 5, 2) := dk_54 5 (dk_at dksX2_med3_0 20 rfl rfl)
theorem dX2_med3_22 : decode cX2_med3 22 = .ok (.aload_n 0, 1) := dk_42 (dk_at dksX2_med3_0 22 rfl rfl)
theorem dX2_med3_23 : decode cX2_med3 23 = .ok (.iload_n 2, 1) := dk_28 (dk_at dksX2_med3_0 23 rfl rfl)
theorem dX2_med3_24 : decode cX2_med3 24 = .ok (.laload, 1) := dk_47 (dk_at dksX2_med3_1 0 rfl rfl)
theorem dX2_med3_25 : decode cX2_med3 25 = .ok (.aload_n 0, 1) := dk_42 (dk_at dksX2_med3_1 1 rfl rfl)
theorem dX2_med3_26 : decode cX2_med3 26 = .ok (.iload_n 3, 1) := dk_29 (dk_at dksX2_med3_1 2 rfl rfl)
theorem dX2_med3_27 : decode cX2_med3 27 = .ok (.laload, 1) := dk_47 (dk_at dksX2_med3_1 3 rfl rfl)
theorem dX2_med3_28 : decode cX2_med3 28 = .ok (.invokestatic 9, 3) := dk_184 0 9 (dk_at dksX2_med3_1 4 rfl rfl)
theorem dX2_med3_31 : decode cX2_med3 31 = .ok (.istore 6, 2) := dk_54 6 (dk_at dksX2_med3_1 7 rfl rfl)
theorem dX2_med3_33 : decode cX2_med3 33 = .ok (.iload 4, 2) := dk_21 4 (dk_at dksX2_med3_1 9 rfl rfl)
theorem dX2_med3_35 : decode cX2_med3 35 = .ok (.ifCond .ge 25, 3) := dk_156 0 25 (dk_at dksX2_med3_1 11 rfl rfl)
theorem dX2_med3_38 : decode cX2_med3 38 = .ok (.iload 6, 2) := dk_21 6 (dk_at dksX2_med3_1 14 rfl rfl)
theorem dX2_med3_40 : decode cX2_med3 40 = .ok (.ifCond .ge 7, 3) := dk_156 0 7 (dk_at dksX2_med3_1 16 rfl rfl)
theorem dX2_med3_43 : decode cX2_med3 43 = .ok (.iload_n 2, 1) := dk_28 (dk_at dksX2_med3_1 19 rfl rfl)
theorem dX2_med3_44 : decode cX2_med3 44 = .ok (.goto 35, 3) := dk_167 0 35 (dk_at dksX2_med3_1 20 rfl rfl)
theorem dX2_med3_47 : decode cX2_med3 47 = .ok (.iload 5, 2) := dk_21 5 (dk_at dksX2_med3_2 0 rfl rfl)
theorem dX2_med3_49 : decode cX2_med3 49 = .ok (.ifCond .ge 7, 3) := dk_156 0 7 (dk_at dksX2_med3_2 2 rfl rfl)
theorem dX2_med3_52 : decode cX2_med3 52 = .ok (.iload_n 3, 1) := dk_29 (dk_at dksX2_med3_2 5 rfl rfl)
theorem dX2_med3_53 : decode cX2_med3 53 = .ok (.goto 26, 3) := dk_167 0 26 (dk_at dksX2_med3_2 6 rfl rfl)
theorem dX2_med3_56 : decode cX2_med3 56 = .ok (.iload_n 1, 1) := dk_27 (dk_at dksX2_med3_2 9 rfl rfl)
theorem dX2_med3_57 : decode cX2_med3 57 = .ok (.goto 22, 3) := dk_167 0 22 (dk_at dksX2_med3_2 10 rfl rfl)
theorem dX2_med3_60 : decode cX2_med3 60 = .ok (.iload 6, 2) := dk_21 6 (dk_at dksX2_med3_2 13 rfl rfl)
theorem dX2_med3_62 : decode cX2_med3 62 = .ok (.ifCond .le 7, 3) := dk_158 0 7 (dk_at dksX2_med3_2 15 rfl rfl)
theorem dX2_med3_65 : decode cX2_med3 65 = .ok (.iload_n 2, 1) := dk_28 (dk_at dksX2_med3_2 18 rfl rfl)
theorem dX2_med3_66 : decode cX2_med3 66 = .ok (.goto 13, 3) := dk_167 0 13 (dk_at dksX2_med3_2 19 rfl rfl)
theorem dX2_med3_69 : decode cX2_med3 69 = .ok (.iload 5, 2) := dk_21 5 (dk_at dksX2_med3_2 22 rfl rfl)
theorem dX2_med3_71 : decode cX2_med3 71 = .ok (.ifCond .le 7, 3) := dk_158 0 7 (dk_at dksX2_med3_3 0 rfl rfl)
theorem dX2_med3_74 : decode cX2_med3 74 = .ok (.iload_n 3, 1) := dk_29 (dk_at dksX2_med3_3 3 rfl rfl)
theorem dX2_med3_75 : decode cX2_med3 75 = .ok (.goto 4, 3) := dk_167 0 4 (dk_at dksX2_med3_3 4 rfl rfl)
theorem dX2_med3_78 : decode cX2_med3 78 = .ok (.iload_n 1, 1) := dk_27 (dk_at dksX2_med3_3 7 rfl rfl)
theorem dX2_med3_79 : decode cX2_med3 79 = .ok (.ireturn, 1) := dk_172 (dk_at dksX2_med3_3 8 rfl rfl)
abbrev cX2_swap : ByteArray := prog_1_method_1_code
def yX2_swap : MethodName := ⟨RX2, "swap", "([JII)V"⟩
def dkwX2_swap_0 : List UInt8 := [42, 27, 47, 66, 42, 27, 42, 28, 47, 80, 42, 28, 33, 80, 177]
abbrev dktX2_swap_0 : List UInt8 := dkwX2_swap_0 ++ []
theorem dksX2_swap_0 : cX2_swap.data.toList.drop 0 = dktX2_swap_0 := by decide +kernel
theorem dX2_swap_0 : decode cX2_swap 0 = .ok (.aload_n 0, 1) := dk_42 (dk_at dksX2_swap_0 0 rfl rfl)
theorem dX2_swap_1 : decode cX2_swap 1 = .ok (.iload_n 1, 1) := dk_27 (dk_at dksX2_swap_0 1 rfl rfl)
theorem dX2_swap_2 : decode cX2_swap 2 = .ok (.laload, 1) := dk_47 (dk_at dksX2_swap_0 2 rfl rfl)
theorem dX2_swap_3 : decode cX2_swap 3 = .ok (.lstore_n 3, 1) := dk_66 (dk_at dksX2_swap_0 3 rfl rfl)
theorem dX2_swap_4 : decode cX2_swap 4 = .ok (.aload_n 0, 1) := dk_42 (dk_at dksX2_swap_0 4 rfl rfl)
theorem dX2_swap_5 : decode cX2_swap 5 = .ok (.iload_n 1, 1) := dk_27 (dk_at dksX2_swap_0 5 rfl rfl)
theorem dX2_swap_6 : decode cX2_swap 6 = .ok (.aload_n 0, 1) := dk_42 (dk_at dksX2_swap_0 6 rfl rfl)
theorem dX2_swap_7 : decode cX2_swap 7 = .ok (.iload_n 2, 1) := dk_28 (dk_at dksX2_swap_0 7 rfl rfl)
theorem dX2_swap_8 : decode cX2_swap 8 = .ok (.laload, 1) := dk_47 (dk_at dksX2_swap_0 8 rfl rfl)
theorem dX2_swap_9 : decode cX2_swap 9 = .ok (.lastore, 1) := dk_80 (dk_at dksX2_swap_0 9 rfl rfl)
theorem dX2_swap_10 : decode cX2_swap 10 = .ok (.aload_n 0, 1) := dk_42 (dk_at dksX2_swap_0 10 rfl rfl)
theorem dX2_swap_11 : decode cX2_swap 11 = .ok (.iload_n 2, 1) := dk_28 (dk_at dksX2_swap_0 11 rfl rfl)
theorem dX2_swap_12 : decode cX2_swap 12 = .ok (.lload_n 3, 1) := dk_33 (dk_at dksX2_swap_0 12 rfl rfl)
theorem dX2_swap_13 : decode cX2_swap 13 = .ok (.lastore, 1) := dk_80 (dk_at dksX2_swap_0 13 rfl rfl)
theorem dX2_swap_14 : decode cX2_swap 14 = .ok (.return_, 1) := dk_177 (dk_at dksX2_swap_0 14 rfl rfl)
abbrev cX2_swap_2 : ByteArray := prog_1_method_2_code
def yX2_swap_2 : MethodName := ⟨RX2, "swap", "([JIII)V"⟩
def dkwX2_swap_2_1 : List UInt8 := [167, 255, 235, 177]
abbrev dktX2_swap_2_1 : List UInt8 := dkwX2_swap_2_1 ++ []
def dkwX2_swap_2_0 : List UInt8 := [3, 54, 4, 21, 4, 29, 162, 0, 21, 42, 27, 28, 184, 0, 5, 132, 4, 1, 132, 1, 1, 132, 2, 1]
abbrev dktX2_swap_2_0 : List UInt8 := dkwX2_swap_2_0 ++ dktX2_swap_2_1
theorem dksX2_swap_2_0 : cX2_swap_2.data.toList.drop 0 = dktX2_swap_2_0 := by decide +kernel
theorem dksX2_swap_2_1 : cX2_swap_2.data.toList.drop 24 = dktX2_swap_2_1 := dk_seg dksX2_swap_2_0 24 rfl rfl
theorem dX2_swap_2_0 : decode cX2_swap_2 0 = .ok (.iconst 0, 1) := dk_3 (dk_at dksX2_swap_2_0 0 rfl rfl)
theorem dX2_swap_2_1 : decode cX2_swap_2 1 = .ok (.istore 4, 2) := dk_54 4 (dk_at dksX2_swap_2_0 1 rfl rfl)
theorem dX2_swap_2_3 : decode cX2_swap_2 3 = .ok (.iload 4, 2) := dk_21 4 (dk_at dksX2_swap_2_0 3 rfl rfl)
theorem dX2_swap_2_5 : decode cX2_swap_2 5 = .ok (.iload_n 3, 1) := dk_29 (dk_at dksX2_swap_2_0 5 rfl rfl)
theorem dX2_swap_2_6 : decode cX2_swap_2 6 = .ok (.if_icmp .ge 21, 3) := dk_162 0 21 (dk_at dksX2_swap_2_0 6 rfl rfl)
theorem dX2_swap_2_9 : decode cX2_swap_2 9 = .ok (.aload_n 0, 1) := dk_42 (dk_at dksX2_swap_2_0 9 rfl rfl)
theorem dX2_swap_2_10 : decode cX2_swap_2 10 = .ok (.iload_n 1, 1) := dk_27 (dk_at dksX2_swap_2_0 10 rfl rfl)
theorem dX2_swap_2_11 : decode cX2_swap_2 11 = .ok (.iload_n 2, 1) := dk_28 (dk_at dksX2_swap_2_0 11 rfl rfl)
theorem dX2_swap_2_12 : decode cX2_swap_2 12 = .ok (.invokestatic 5, 3) := dk_184 0 5 (dk_at dksX2_swap_2_0 12 rfl rfl)
theorem dX2_swap_2_15 : decode cX2_swap_2 15 = .ok (.iinc 4 1, 3) := dk_132 4 1 (dk_at dksX2_swap_2_0 15 rfl rfl)
theorem dX2_swap_2_18 : decode cX2_swap_2 18 = .ok (.iinc 1 1, 3) := dk_132 1 1 (dk_at dksX2_swap_2_0 18 rfl rfl)
theorem dX2_swap_2_21 : decode cX2_swap_2 21 = .ok (.iinc 2 1, 3) := dk_132 2 1 (dk_at dksX2_swap_2_0 21 rfl rfl)
theorem dX2_swap_2_24 : decode cX2_swap_2 24 = .ok (.goto (-21), 3) := dk_167 255 235 (dk_at dksX2_swap_2_1 0 rfl rfl)
theorem dX2_swap_2_27 : decode cX2_swap_2 27 = .ok (.return_, 1) := dk_177 (dk_at dksX2_swap_2_1 3 rfl rfl)
abbrev cX2_mergeSort : ByteArray := prog_1_method_8_code
def yX2_mergeSort : MethodName := ⟨RX2, "mergeSort", "([JII)V"⟩
def dkwX2_mergeSort_0 : List UInt8 := [42, 27, 28, 1, 192, 0, 51, 184, 0, 41, 177]
abbrev dktX2_mergeSort_0 : List UInt8 := dkwX2_mergeSort_0 ++ []
theorem dksX2_mergeSort_0 : cX2_mergeSort.data.toList.drop 0 = dktX2_mergeSort_0 := by decide +kernel
theorem dX2_mergeSort_0 : decode cX2_mergeSort 0 = .ok (.aload_n 0, 1) := dk_42 (dk_at dksX2_mergeSort_0 0 rfl rfl)
theorem dX2_mergeSort_1 : decode cX2_mergeSort 1 = .ok (.iload_n 1, 1) := dk_27 (dk_at dksX2_mergeSort_0 1 rfl rfl)
theorem dX2_mergeSort_2 : decode cX2_mergeSort 2 = .ok (.iload_n 2, 1) := dk_28 (dk_at dksX2_mergeSort_0 2 rfl rfl)
theorem dX2_mergeSort_3 : decode cX2_mergeSort 3 = .ok (.aconst_null, 1) := dk_1 (dk_at dksX2_mergeSort_0 3 rfl rfl)
theorem dX2_mergeSort_4 : decode cX2_mergeSort 4 = .ok (.checkcast 51, 3) := dk_192 0 51 (dk_at dksX2_mergeSort_0 4 rfl rfl)
theorem dX2_mergeSort_7 : decode cX2_mergeSort 7 = .ok (.invokestatic 41, 3) := dk_184 0 41 (dk_at dksX2_mergeSort_0 7 rfl rfl)
theorem dX2_mergeSort_10 : decode cX2_mergeSort 10 = .ok (.return_, 1) := dk_177 (dk_at dksX2_mergeSort_0 10 rfl rfl)
abbrev cX2_mergeSort_2 : ByteArray := prog_1_method_7_code
def yX2_mergeSort_2 : MethodName := ⟨RX2, "mergeSort", "([JII[J)V"⟩
def dkwX2_mergeSort_2_6 : List UInt8 := [132, 6, 1, 167, 255, 197, 177]
abbrev dktX2_mergeSort_2_6 : List UInt8 := dkwX2_mergeSort_2_6 ++ []
def dkwX2_mergeSort_2_5 : List UInt8 := [21, 6, 45, 21, 7, 132, 7, 1, 47, 80, 167, 0, 14, 42, 21, 6, 45, 21, 8, 132, 8, 1, 47, 80]
abbrev dktX2_mergeSort_2_5 : List UInt8 := dkwX2_mergeSort_2_5 ++ dktX2_mergeSort_2_6
def dkwX2_mergeSort_2_4 : List UInt8 := [162, 0, 22, 21, 7, 21, 5, 162, 0, 29, 45, 21, 7, 47, 45, 21, 8, 47, 148, 157, 0, 17, 42]
abbrev dktX2_mergeSort_2_4 : List UInt8 := dkwX2_mergeSort_2_4 ++ dktX2_mergeSort_2_5
def dkwX2_mergeSort_2_3 : List UInt8 := [184, 0, 45, 177, 27, 54, 6, 27, 54, 7, 21, 5, 54, 8, 21, 6, 28, 162, 0, 59, 21, 8, 28]
abbrev dktX2_mergeSort_2_3 : List UInt8 := dkwX2_mergeSort_2_3 ++ dktX2_mergeSort_2_4
def dkwX2_mergeSort_2_2 : List UInt8 := [42, 184, 0, 41, 45, 21, 5, 4, 100, 47, 45, 21, 5, 47, 148, 157, 0, 13, 45, 27, 42, 27, 21, 4]
abbrev dktX2_mergeSort_2_2 : List UInt8 := dkwX2_mergeSort_2_2 ++ dktX2_mergeSort_2_3
def dkwX2_mergeSort_2_1 : List UInt8 := [28, 184, 0, 35, 78, 27, 28, 96, 4, 124, 54, 5, 45, 27, 21, 5, 42, 184, 0, 41, 45, 21, 5, 28]
abbrev dktX2_mergeSort_2_1 : List UInt8 := dkwX2_mergeSort_2_1 ++ dktX2_mergeSort_2_2
def dkwX2_mergeSort_2_0 : List UInt8 := [28, 27, 100, 54, 4, 21, 4, 16, 16, 162, 0, 10, 42, 27, 28, 184, 0, 32, 177, 45, 199, 0, 9, 42]
abbrev dktX2_mergeSort_2_0 : List UInt8 := dkwX2_mergeSort_2_0 ++ dktX2_mergeSort_2_1
theorem dksX2_mergeSort_2_0 : cX2_mergeSort_2.data.toList.drop 0 = dktX2_mergeSort_2_0 := by decide +kernel
theorem dksX2_mergeSort_2_1 : cX2_mergeSort_2.data.toList.drop 24 = dktX2_mergeSort_2_1 := dk_seg dksX2_mergeSort_2_0 24 rfl rfl
theorem dksX2_mergeSort_2_2 : cX2_mergeSort_2.data.toList.drop 48 = dktX2_mergeSort_2_2 := dk_seg dksX2_mergeSort_2_1 24 rfl rfl
theorem dksX2_mergeSort_2_3 : cX2_mergeSort_2.data.toList.drop 72 = dktX2_mergeSort_2_3 := dk_seg dksX2_mergeSort_2_2 24 rfl rfl
theorem dksX2_mergeSort_2_4 : cX2_mergeSort_2.data.toList.drop 95 = dktX2_mergeSort_2_4 := dk_seg dksX2_mergeSort_2_3 23 rfl rfl
theorem dksX2_mergeSort_2_5 : cX2_mergeSort_2.data.toList.drop 118 = dktX2_mergeSort_2_5 := dk_seg dksX2_mergeSort_2_4 23 rfl rfl
theorem dksX2_mergeSort_2_6 : cX2_mergeSort_2.data.toList.drop 142 = dktX2_mergeSort_2_6 := dk_seg dksX2_mergeSort_2_5 24 rfl rfl
theorem dX2_mergeSort_2_0 : decode cX2_mergeSort_2 0 = .ok (.iload_n 2, 1) := dk_28 (dk_at dksX2_mergeSort_2_0 0 rfl rfl)
theorem dX2_mergeSort_2_1 : decode cX2_mergeSort_2 1 = .ok (.iload_n 1, 1) := dk_27 (dk_at dksX2_mergeSort_2_0 1 rfl rfl)
theorem dX2_mergeSort_2_2 : decode cX2_mergeSort_2 2 = .ok (.isub, 1) := dk_100 (dk_at dksX2_mergeSort_2_0 2 rfl rfl)
theorem dX2_mergeSort_2_3 : decode cX2_mergeSort_2 3 = .ok (.istore 4, 2) := dk_54 4 (dk_at dksX2_mergeSort_2_0 3 rfl rfl)
theorem dX2_mergeSort_2_5 : decode cX2_mergeSort_2 5 = .ok (.iload 4, 2) := dk_21 4 (dk_at dksX2_mergeSort_2_0 5 rfl rfl)
theorem dX2_mergeSort_2_7 : decode cX2_mergeSort_2 7 = .ok (.bipush 16, 2) := dk_16 16 (dk_at dksX2_mergeSort_2_0 7 rfl rfl)
theorem dX2_mergeSort_2_9 : decode cX2_mergeSort_2 9 = .ok (.if_icmp .ge 10, 3) := dk_162 0 10 (dk_at dksX2_mergeSort_2_0 9 rfl rfl)
theorem dX2_mergeSort_2_12 : decode cX2_mergeSort_2 12 = .ok (.aload_n 0, 1) := dk_42 (dk_at dksX2_mergeSort_2_0 12 rfl rfl)
theorem dX2_mergeSort_2_13 : decode cX2_mergeSort_2 13 = .ok (.iload_n 1, 1) := dk_27 (dk_at dksX2_mergeSort_2_0 13 rfl rfl)
theorem dX2_mergeSort_2_14 : decode cX2_mergeSort_2 14 = .ok (.iload_n 2, 1) := dk_28 (dk_at dksX2_mergeSort_2_0 14 rfl rfl)
theorem dX2_mergeSort_2_15 : decode cX2_mergeSort_2 15 = .ok (.invokestatic 32, 3) := dk_184 0 32 (dk_at dksX2_mergeSort_2_0 15 rfl rfl)
theorem dX2_mergeSort_2_18 : decode cX2_mergeSort_2 18 = .ok (.return_, 1) := dk_177 (dk_at dksX2_mergeSort_2_0 18 rfl rfl)
theorem dX2_mergeSort_2_19 : decode cX2_mergeSort_2 19 = .ok (.aload_n 3, 1) := dk_45 (dk_at dksX2_mergeSort_2_0 19 rfl rfl)
theorem dX2_mergeSort_2_20 : decode cX2_mergeSort_2 20 = .ok (.ifnonnull 9, 3) := dk_199 0 9 (dk_at dksX2_mergeSort_2_0 20 rfl rfl)
theorem dX2_mergeSort_2_23 : decode cX2_mergeSort_2 23 = .ok (.aload_n 0, 1) := dk_42 (dk_at dksX2_mergeSort_2_0 23 rfl rfl)
theorem dX2_mergeSort_2_24 : decode cX2_mergeSort_2 24 = .ok (.iload_n 2, 1) := dk_28 (dk_at dksX2_mergeSort_2_1 0 rfl rfl)
theorem dX2_mergeSort_2_25 : decode cX2_mergeSort_2 25 = .ok (.invokestatic 35, 3) := dk_184 0 35 (dk_at dksX2_mergeSort_2_1 1 rfl rfl)
theorem dX2_mergeSort_2_28 : decode cX2_mergeSort_2 28 = .ok (.astore_n 3, 1) := dk_78 (dk_at dksX2_mergeSort_2_1 4 rfl rfl)
theorem dX2_mergeSort_2_29 : decode cX2_mergeSort_2 29 = .ok (.iload_n 1, 1) := dk_27 (dk_at dksX2_mergeSort_2_1 5 rfl rfl)
theorem dX2_mergeSort_2_30 : decode cX2_mergeSort_2 30 = .ok (.iload_n 2, 1) := dk_28 (dk_at dksX2_mergeSort_2_1 6 rfl rfl)
theorem dX2_mergeSort_2_31 : decode cX2_mergeSort_2 31 = .ok (.iadd, 1) := dk_96 (dk_at dksX2_mergeSort_2_1 7 rfl rfl)
theorem dX2_mergeSort_2_32 : decode cX2_mergeSort_2 32 = .ok (.iconst 1, 1) := dk_4 (dk_at dksX2_mergeSort_2_1 8 rfl rfl)
theorem dX2_mergeSort_2_33 : decode cX2_mergeSort_2 33 = .ok (.iushr, 1) := dk_124 (dk_at dksX2_mergeSort_2_1 9 rfl rfl)
theorem dX2_mergeSort_2_34 : decode cX2_mergeSort_2 34 = .ok (.istore 5, 2) := dk_54 5 (dk_at dksX2_mergeSort_2_1 10 rfl rfl)
theorem dX2_mergeSort_2_36 : decode cX2_mergeSort_2 36 = .ok (.aload_n 3, 1) := dk_45 (dk_at dksX2_mergeSort_2_1 12 rfl rfl)
theorem dX2_mergeSort_2_37 : decode cX2_mergeSort_2 37 = .ok (.iload_n 1, 1) := dk_27 (dk_at dksX2_mergeSort_2_1 13 rfl rfl)
theorem dX2_mergeSort_2_38 : decode cX2_mergeSort_2 38 = .ok (.iload 5, 2) := dk_21 5 (dk_at dksX2_mergeSort_2_1 14 rfl rfl)
theorem dX2_mergeSort_2_40 : decode cX2_mergeSort_2 40 = .ok (.aload_n 0, 1) := dk_42 (dk_at dksX2_mergeSort_2_1 16 rfl rfl)
theorem dX2_mergeSort_2_41 : decode cX2_mergeSort_2 41 = .ok (.invokestatic 41, 3) := dk_184 0 41 (dk_at dksX2_mergeSort_2_1 17 rfl rfl)
theorem dX2_mergeSort_2_44 : decode cX2_mergeSort_2 44 = .ok (.aload_n 3, 1) := dk_45 (dk_at dksX2_mergeSort_2_1 20 rfl rfl)
theorem dX2_mergeSort_2_45 : decode cX2_mergeSort_2 45 = .ok (.iload 5, 2) := dk_21 5 (dk_at dksX2_mergeSort_2_1 21 rfl rfl)
theorem dX2_mergeSort_2_47 : decode cX2_mergeSort_2 47 = .ok (.iload_n 2, 1) := dk_28 (dk_at dksX2_mergeSort_2_1 23 rfl rfl)
theorem dX2_mergeSort_2_48 : decode cX2_mergeSort_2 48 = .ok (.aload_n 0, 1) := dk_42 (dk_at dksX2_mergeSort_2_2 0 rfl rfl)
theorem dX2_mergeSort_2_49 : decode cX2_mergeSort_2 49 = .ok (.invokestatic 41, 3) := dk_184 0 41 (dk_at dksX2_mergeSort_2_2 1 rfl rfl)
theorem dX2_mergeSort_2_52 : decode cX2_mergeSort_2 52 = .ok (.aload_n 3, 1) := dk_45 (dk_at dksX2_mergeSort_2_2 4 rfl rfl)
theorem dX2_mergeSort_2_53 : decode cX2_mergeSort_2 53 = .ok (.iload 5, 2) := dk_21 5 (dk_at dksX2_mergeSort_2_2 5 rfl rfl)
theorem dX2_mergeSort_2_55 : decode cX2_mergeSort_2 55 = .ok (.iconst 1, 1) := dk_4 (dk_at dksX2_mergeSort_2_2 7 rfl rfl)
theorem dX2_mergeSort_2_56 : decode cX2_mergeSort_2 56 = .ok (.isub, 1) := dk_100 (dk_at dksX2_mergeSort_2_2 8 rfl rfl)
theorem dX2_mergeSort_2_57 : decode cX2_mergeSort_2 57 = .ok (.laload, 1) := dk_47 (dk_at dksX2_mergeSort_2_2 9 rfl rfl)
theorem dX2_mergeSort_2_58 : decode cX2_mergeSort_2 58 = .ok (.aload_n 3, 1) := dk_45 (dk_at dksX2_mergeSort_2_2 10 rfl rfl)
theorem dX2_mergeSort_2_59 : decode cX2_mergeSort_2 59 = .ok (.iload 5, 2) := dk_21 5 (dk_at dksX2_mergeSort_2_2 11 rfl rfl)
theorem dX2_mergeSort_2_61 : decode cX2_mergeSort_2 61 = .ok (.laload, 1) := dk_47 (dk_at dksX2_mergeSort_2_2 13 rfl rfl)
theorem dX2_mergeSort_2_62 : decode cX2_mergeSort_2 62 = .ok (.lcmp, 1) := dk_148 (dk_at dksX2_mergeSort_2_2 14 rfl rfl)
theorem dX2_mergeSort_2_63 : decode cX2_mergeSort_2 63 = .ok (.ifCond .gt 13, 3) := dk_157 0 13 (dk_at dksX2_mergeSort_2_2 15 rfl rfl)
theorem dX2_mergeSort_2_66 : decode cX2_mergeSort_2 66 = .ok (.aload_n 3, 1) := dk_45 (dk_at dksX2_mergeSort_2_2 18 rfl rfl)
theorem dX2_mergeSort_2_67 : decode cX2_mergeSort_2 67 = .ok (.iload_n 1, 1) := dk_27 (dk_at dksX2_mergeSort_2_2 19 rfl rfl)
theorem dX2_mergeSort_2_68 : decode cX2_mergeSort_2 68 = .ok (.aload_n 0, 1) := dk_42 (dk_at dksX2_mergeSort_2_2 20 rfl rfl)
theorem dX2_mergeSort_2_69 : decode cX2_mergeSort_2 69 = .ok (.iload_n 1, 1) := dk_27 (dk_at dksX2_mergeSort_2_2 21 rfl rfl)
theorem dX2_mergeSort_2_70 : decode cX2_mergeSort_2 70 = .ok (.iload 4, 2) := dk_21 4 (dk_at dksX2_mergeSort_2_2 22 rfl rfl)
theorem dX2_mergeSort_2_72 : decode cX2_mergeSort_2 72 = .ok (.invokestatic 45, 3) := dk_184 0 45 (dk_at dksX2_mergeSort_2_3 0 rfl rfl)
theorem dX2_mergeSort_2_75 : decode cX2_mergeSort_2 75 = .ok (.return_, 1) := dk_177 (dk_at dksX2_mergeSort_2_3 3 rfl rfl)
theorem dX2_mergeSort_2_76 : decode cX2_mergeSort_2 76 = .ok (.iload_n 1, 1) := dk_27 (dk_at dksX2_mergeSort_2_3 4 rfl rfl)
theorem dX2_mergeSort_2_77 : decode cX2_mergeSort_2 77 = .ok (.istore 6, 2) := dk_54 6 (dk_at dksX2_mergeSort_2_3 5 rfl rfl)
theorem dX2_mergeSort_2_79 : decode cX2_mergeSort_2 79 = .ok (.iload_n 1, 1) := dk_27 (dk_at dksX2_mergeSort_2_3 7 rfl rfl)
theorem dX2_mergeSort_2_80 : decode cX2_mergeSort_2 80 = .ok (.istore 7, 2) := dk_54 7 (dk_at dksX2_mergeSort_2_3 8 rfl rfl)
theorem dX2_mergeSort_2_82 : decode cX2_mergeSort_2 82 = .ok (.iload 5, 2) := dk_21 5 (dk_at dksX2_mergeSort_2_3 10 rfl rfl)
theorem dX2_mergeSort_2_84 : decode cX2_mergeSort_2 84 = .ok (.istore 8, 2) := dk_54 8 (dk_at dksX2_mergeSort_2_3 12 rfl rfl)
theorem dX2_mergeSort_2_86 : decode cX2_mergeSort_2 86 = .ok (.iload 6, 2) := dk_21 6 (dk_at dksX2_mergeSort_2_3 14 rfl rfl)
theorem dX2_mergeSort_2_88 : decode cX2_mergeSort_2 88 = .ok (.iload_n 2, 1) := dk_28 (dk_at dksX2_mergeSort_2_3 16 rfl rfl)
theorem dX2_mergeSort_2_89 : decode cX2_mergeSort_2 89 = .ok (.if_icmp .ge 59, 3) := dk_162 0 59 (dk_at dksX2_mergeSort_2_3 17 rfl rfl)
theorem dX2_mergeSort_2_92 : decode cX2_mergeSort_2 92 = .ok (.iload 8, 2) := dk_21 8 (dk_at dksX2_mergeSort_2_3 20 rfl rfl)
theorem dX2_mergeSort_2_94 : decode cX2_mergeSort_2 94 = .ok (.iload_n 2, 1) := dk_28 (dk_at dksX2_mergeSort_2_3 22 rfl rfl)
theorem dX2_mergeSort_2_95 : decode cX2_mergeSort_2 95 = .ok (.if_icmp .ge 22, 3) := dk_162 0 22 (dk_at dksX2_mergeSort_2_4 0 rfl rfl)
theorem dX2_mergeSort_2_98 : decode cX2_mergeSort_2 98 = .ok (.iload 7, 2) := dk_21 7 (dk_at dksX2_mergeSort_2_4 3 rfl rfl)
theorem dX2_mergeSort_2_100 : decode cX2_mergeSort_2 100 = .ok (.iload 5, 2) := dk_21 5 (dk_at dksX2_mergeSort_2_4 5 rfl rfl)
theorem dX2_mergeSort_2_102 : decode cX2_mergeSort_2 102 = .ok (.if_icmp .ge 29, 3) := dk_162 0 29 (dk_at dksX2_mergeSort_2_4 7 rfl rfl)
theorem dX2_mergeSort_2_105 : decode cX2_mergeSort_2 105 = .ok (.aload_n 3, 1) := dk_45 (dk_at dksX2_mergeSort_2_4 10 rfl rfl)
theorem dX2_mergeSort_2_106 : decode cX2_mergeSort_2 106 = .ok (.iload 7, 2) := dk_21 7 (dk_at dksX2_mergeSort_2_4 11 rfl rfl)
theorem dX2_mergeSort_2_108 : decode cX2_mergeSort_2 108 = .ok (.laload, 1) := dk_47 (dk_at dksX2_mergeSort_2_4 13 rfl rfl)
theorem dX2_mergeSort_2_109 : decode cX2_mergeSort_2 109 = .ok (.aload_n 3, 1) := dk_45 (dk_at dksX2_mergeSort_2_4 14 rfl rfl)
theorem dX2_mergeSort_2_110 : decode cX2_mergeSort_2 110 = .ok (.iload 8, 2) := dk_21 8 (dk_at dksX2_mergeSort_2_4 15 rfl rfl)
theorem dX2_mergeSort_2_112 : decode cX2_mergeSort_2 112 = .ok (.laload, 1) := dk_47 (dk_at dksX2_mergeSort_2_4 17 rfl rfl)
theorem dX2_mergeSort_2_113 : decode cX2_mergeSort_2 113 = .ok (.lcmp, 1) := dk_148 (dk_at dksX2_mergeSort_2_4 18 rfl rfl)
theorem dX2_mergeSort_2_114 : decode cX2_mergeSort_2 114 = .ok (.ifCond .gt 17, 3) := dk_157 0 17 (dk_at dksX2_mergeSort_2_4 19 rfl rfl)
theorem dX2_mergeSort_2_117 : decode cX2_mergeSort_2 117 = .ok (.aload_n 0, 1) := dk_42 (dk_at dksX2_mergeSort_2_4 22 rfl rfl)
theorem dX2_mergeSort_2_118 : decode cX2_mergeSort_2 118 = .ok (.iload 6, 2) := dk_21 6 (dk_at dksX2_mergeSort_2_5 0 rfl rfl)
theorem dX2_mergeSort_2_120 : decode cX2_mergeSort_2 120 = .ok (.aload_n 3, 1) := dk_45 (dk_at dksX2_mergeSort_2_5 2 rfl rfl)
theorem dX2_mergeSort_2_121 : decode cX2_mergeSort_2 121 = .ok (.iload 7, 2) := dk_21 7 (dk_at dksX2_mergeSort_2_5 3 rfl rfl)
theorem dX2_mergeSort_2_123 : decode cX2_mergeSort_2 123 = .ok (.iinc 7 1, 3) := dk_132 7 1 (dk_at dksX2_mergeSort_2_5 5 rfl rfl)
theorem dX2_mergeSort_2_126 : decode cX2_mergeSort_2 126 = .ok (.laload, 1) := dk_47 (dk_at dksX2_mergeSort_2_5 8 rfl rfl)
theorem dX2_mergeSort_2_127 : decode cX2_mergeSort_2 127 = .ok (.lastore, 1) := dk_80 (dk_at dksX2_mergeSort_2_5 9 rfl rfl)
theorem dX2_mergeSort_2_128 : decode cX2_mergeSort_2 128 = .ok (.goto 14, 3) := dk_167 0 14 (dk_at dksX2_mergeSort_2_5 10 rfl rfl)
theorem dX2_mergeSort_2_131 : decode cX2_mergeSort_2 131 = .ok (.aload_n 0, 1) := dk_42 (dk_at dksX2_mergeSort_2_5 13 rfl rfl)
theorem dX2_mergeSort_2_132 : decode cX2_mergeSort_2 132 = .ok (.iload 6, 2) := dk_21 6 (dk_at dksX2_mergeSort_2_5 14 rfl rfl)
theorem dX2_mergeSort_2_134 : decode cX2_mergeSort_2 134 = .ok (.aload_n 3, 1) := dk_45 (dk_at dksX2_mergeSort_2_5 16 rfl rfl)
theorem dX2_mergeSort_2_135 : decode cX2_mergeSort_2 135 = .ok (.iload 8, 2) := dk_21 8 (dk_at dksX2_mergeSort_2_5 17 rfl rfl)
theorem dX2_mergeSort_2_137 : decode cX2_mergeSort_2 137 = .ok (.iinc 8 1, 3) := dk_132 8 1 (dk_at dksX2_mergeSort_2_5 19 rfl rfl)
theorem dX2_mergeSort_2_140 : decode cX2_mergeSort_2 140 = .ok (.laload, 1) := dk_47 (dk_at dksX2_mergeSort_2_5 22 rfl rfl)
theorem dX2_mergeSort_2_141 : decode cX2_mergeSort_2 141 = .ok (.lastore, 1) := dk_80 (dk_at dksX2_mergeSort_2_5 23 rfl rfl)
theorem dX2_mergeSort_2_142 : decode cX2_mergeSort_2 142 = .ok (.iinc 6 1, 3) := dk_132 6 1 (dk_at dksX2_mergeSort_2_6 0 rfl rfl)
theorem dX2_mergeSort_2_145 : decode cX2_mergeSort_2 145 = .ok (.goto (-59), 3) := dk_167 255 197 (dk_at dksX2_mergeSort_2_6 3 rfl rfl)
theorem dX2_mergeSort_2_148 : decode cX2_mergeSort_2 148 = .ok (.return_, 1) := dk_177 (dk_at dksX2_mergeSort_2_6 6 rfl rfl)
abbrev cX2_insertionSort : ByteArray := prog_1_method_5_code
def yX2_insertionSort : MethodName := ⟨RX2, "insertionSort", "([JII)V"⟩
def dkwX2_insertionSort_3 : List UInt8 := [22, 4, 80, 167, 255, 184, 177]
abbrev dktX2_insertionSort_3 : List UInt8 := dkwX2_insertionSort_3 ++ []
def dkwX2_insertionSort_2 : List UInt8 := [132, 6, 255, 167, 0, 17, 42, 132, 6, 255, 21, 6, 4, 100, 47, 55, 7, 167, 255, 217, 42, 21, 6]
abbrev dktX2_insertionSort_2 : List UInt8 := dkwX2_insertionSort_2 ++ dktX2_insertionSort_3
def dkwX2_insertionSort_1 : List UInt8 := [55, 7, 22, 4, 22, 7, 148, 156, 0, 37, 42, 21, 6, 22, 7, 80, 27, 21, 6, 4, 100, 160, 0, 9]
abbrev dktX2_insertionSort_1 : List UInt8 := dkwX2_insertionSort_1 ++ dktX2_insertionSort_2
def dkwX2_insertionSort_0 : List UInt8 := [27, 62, 132, 3, 1, 29, 28, 162, 0, 70, 42, 29, 47, 55, 4, 29, 54, 6, 42, 21, 6, 4, 100, 47]
abbrev dktX2_insertionSort_0 : List UInt8 := dkwX2_insertionSort_0 ++ dktX2_insertionSort_1
theorem dksX2_insertionSort_0 : cX2_insertionSort.data.toList.drop 0 = dktX2_insertionSort_0 := by decide +kernel
theorem dksX2_insertionSort_1 : cX2_insertionSort.data.toList.drop 24 = dktX2_insertionSort_1 := dk_seg dksX2_insertionSort_0 24 rfl rfl
theorem dksX2_insertionSort_2 : cX2_insertionSort.data.toList.drop 48 = dktX2_insertionSort_2 := dk_seg dksX2_insertionSort_1 24 rfl rfl
theorem dksX2_insertionSort_3 : cX2_insertionSort.data.toList.drop 71 = dktX2_insertionSort_3 := dk_seg dksX2_insertionSort_2 23 rfl rfl
theorem dX2_insertionSort_0 : decode cX2_insertionSort 0 = .ok (.iload_n 1, 1) := dk_27 (dk_at dksX2_insertionSort_0 0 rfl rfl)
theorem dX2_insertionSort_1 : decode cX2_insertionSort 1 = .ok (.istore_n 3, 1) := dk_62 (dk_at dksX2_insertionSort_0 1 rfl rfl)
theorem dX2_insertionSort_2 : decode cX2_insertionSort 2 = .ok (.iinc 3 1, 3) := dk_132 3 1 (dk_at dksX2_insertionSort_0 2 rfl rfl)
theorem dX2_insertionSort_5 : decode cX2_insertionSort 5 = .ok (.iload_n 3, 1) := dk_29 (dk_at dksX2_insertionSort_0 5 rfl rfl)
theorem dX2_insertionSort_6 : decode cX2_insertionSort 6 = .ok (.iload_n 2, 1) := dk_28 (dk_at dksX2_insertionSort_0 6 rfl rfl)
theorem dX2_insertionSort_7 : decode cX2_insertionSort 7 = .ok (.if_icmp .ge 70, 3) := dk_162 0 70 (dk_at dksX2_insertionSort_0 7 rfl rfl)
theorem dX2_insertionSort_10 : decode cX2_insertionSort 10 = .ok (.aload_n 0, 1) := dk_42 (dk_at dksX2_insertionSort_0 10 rfl rfl)
theorem dX2_insertionSort_11 : decode cX2_insertionSort 11 = .ok (.iload_n 3, 1) := dk_29 (dk_at dksX2_insertionSort_0 11 rfl rfl)
theorem dX2_insertionSort_12 : decode cX2_insertionSort 12 = .ok (.laload, 1) := dk_47 (dk_at dksX2_insertionSort_0 12 rfl rfl)
theorem dX2_insertionSort_13 : decode cX2_insertionSort 13 = .ok (.lstore 4, 2) := dk_55 4 (dk_at dksX2_insertionSort_0 13 rfl rfl)
theorem dX2_insertionSort_15 : decode cX2_insertionSort 15 = .ok (.iload_n 3, 1) := dk_29 (dk_at dksX2_insertionSort_0 15 rfl rfl)
theorem dX2_insertionSort_16 : decode cX2_insertionSort 16 = .ok (.istore 6, 2) := dk_54 6 (dk_at dksX2_insertionSort_0 16 rfl rfl)
theorem dX2_insertionSort_18 : decode cX2_insertionSort 18 = .ok (.aload_n 0, 1) := dk_42 (dk_at dksX2_insertionSort_0 18 rfl rfl)
theorem dX2_insertionSort_19 : decode cX2_insertionSort 19 = .ok (.iload 6, 2) := dk_21 6 (dk_at dksX2_insertionSort_0 19 rfl rfl)
theorem dX2_insertionSort_21 : decode cX2_insertionSort 21 = .ok (.iconst 1, 1) := dk_4 (dk_at dksX2_insertionSort_0 21 rfl rfl)
theorem dX2_insertionSort_22 : decode cX2_insertionSort 22 = .ok (.isub, 1) := dk_100 (dk_at dksX2_insertionSort_0 22 rfl rfl)
theorem dX2_insertionSort_23 : decode cX2_insertionSort 23 = .ok (.laload, 1) := dk_47 (dk_at dksX2_insertionSort_0 23 rfl rfl)
theorem dX2_insertionSort_24 : decode cX2_insertionSort 24 = .ok (.lstore 7, 2) := dk_55 7 (dk_at dksX2_insertionSort_1 0 rfl rfl)
theorem dX2_insertionSort_26 : decode cX2_insertionSort 26 = .ok (.lload 4, 2) := dk_22 4 (dk_at dksX2_insertionSort_1 2 rfl rfl)
theorem dX2_insertionSort_28 : decode cX2_insertionSort 28 = .ok (.lload 7, 2) := dk_22 7 (dk_at dksX2_insertionSort_1 4 rfl rfl)
theorem dX2_insertionSort_30 : decode cX2_insertionSort 30 = .ok (.lcmp, 1) := dk_148 (dk_at dksX2_insertionSort_1 6 rfl rfl)
theorem dX2_insertionSort_31 : decode cX2_insertionSort 31 = .ok (.ifCond .ge 37, 3) := dk_156 0 37 (dk_at dksX2_insertionSort_1 7 rfl rfl)
theorem dX2_insertionSort_34 : decode cX2_insertionSort 34 = .ok (.aload_n 0, 1) := dk_42 (dk_at dksX2_insertionSort_1 10 rfl rfl)
theorem dX2_insertionSort_35 : decode cX2_insertionSort 35 = .ok (.iload 6, 2) := dk_21 6 (dk_at dksX2_insertionSort_1 11 rfl rfl)
theorem dX2_insertionSort_37 : decode cX2_insertionSort 37 = .ok (.lload 7, 2) := dk_22 7 (dk_at dksX2_insertionSort_1 13 rfl rfl)
theorem dX2_insertionSort_39 : decode cX2_insertionSort 39 = .ok (.lastore, 1) := dk_80 (dk_at dksX2_insertionSort_1 15 rfl rfl)
theorem dX2_insertionSort_40 : decode cX2_insertionSort 40 = .ok (.iload_n 1, 1) := dk_27 (dk_at dksX2_insertionSort_1 16 rfl rfl)
theorem dX2_insertionSort_41 : decode cX2_insertionSort 41 = .ok (.iload 6, 2) := dk_21 6 (dk_at dksX2_insertionSort_1 17 rfl rfl)
theorem dX2_insertionSort_43 : decode cX2_insertionSort 43 = .ok (.iconst 1, 1) := dk_4 (dk_at dksX2_insertionSort_1 19 rfl rfl)
theorem dX2_insertionSort_44 : decode cX2_insertionSort 44 = .ok (.isub, 1) := dk_100 (dk_at dksX2_insertionSort_1 20 rfl rfl)
theorem dX2_insertionSort_45 : decode cX2_insertionSort 45 = .ok (.if_icmp .ne 9, 3) := dk_160 0 9 (dk_at dksX2_insertionSort_1 21 rfl rfl)
theorem dX2_insertionSort_48 : decode cX2_insertionSort 48 = .ok (.iinc 6 (-1), 3) := dk_132 6 255 (dk_at dksX2_insertionSort_2 0 rfl rfl)
theorem dX2_insertionSort_51 : decode cX2_insertionSort 51 = .ok (.goto 17, 3) := dk_167 0 17 (dk_at dksX2_insertionSort_2 3 rfl rfl)
theorem dX2_insertionSort_54 : decode cX2_insertionSort 54 = .ok (.aload_n 0, 1) := dk_42 (dk_at dksX2_insertionSort_2 6 rfl rfl)
theorem dX2_insertionSort_55 : decode cX2_insertionSort 55 = .ok (.iinc 6 (-1), 3) := dk_132 6 255 (dk_at dksX2_insertionSort_2 7 rfl rfl)
theorem dX2_insertionSort_58 : decode cX2_insertionSort 58 = .ok (.iload 6, 2) := dk_21 6 (dk_at dksX2_insertionSort_2 10 rfl rfl)
theorem dX2_insertionSort_60 : decode cX2_insertionSort 60 = .ok (.iconst 1, 1) := dk_4 (dk_at dksX2_insertionSort_2 12 rfl rfl)
theorem dX2_insertionSort_61 : decode cX2_insertionSort 61 = .ok (.isub, 1) := dk_100 (dk_at dksX2_insertionSort_2 13 rfl rfl)
theorem dX2_insertionSort_62 : decode cX2_insertionSort 62 = .ok (.laload, 1) := dk_47 (dk_at dksX2_insertionSort_2 14 rfl rfl)
theorem dX2_insertionSort_63 : decode cX2_insertionSort 63 = .ok (.lstore 7, 2) := dk_55 7 (dk_at dksX2_insertionSort_2 15 rfl rfl)
theorem dX2_insertionSort_65 : decode cX2_insertionSort 65 = .ok (.goto (-39), 3) := dk_167 255 217 (dk_at dksX2_insertionSort_2 17 rfl rfl)
theorem dX2_insertionSort_68 : decode cX2_insertionSort 68 = .ok (.aload_n 0, 1) := dk_42 (dk_at dksX2_insertionSort_2 20 rfl rfl)
theorem dX2_insertionSort_69 : decode cX2_insertionSort 69 = .ok (.iload 6, 2) := dk_21 6 (dk_at dksX2_insertionSort_2 21 rfl rfl)
theorem dX2_insertionSort_71 : decode cX2_insertionSort 71 = .ok (.lload 4, 2) := dk_22 4 (dk_at dksX2_insertionSort_3 0 rfl rfl)
theorem dX2_insertionSort_73 : decode cX2_insertionSort 73 = .ok (.lastore, 1) := dk_80 (dk_at dksX2_insertionSort_3 2 rfl rfl)
theorem dX2_insertionSort_74 : decode cX2_insertionSort 74 = .ok (.goto (-72), 3) := dk_167 255 184 (dk_at dksX2_insertionSort_3 3 rfl rfl)
theorem dX2_insertionSort_77 : decode cX2_insertionSort 77 = .ok (.return_, 1) := dk_177 (dk_at dksX2_insertionSort_3 6 rfl rfl)
abbrev cX2_radixSort : ByteArray := prog_1_method_10_code
def yX2_radixSort : MethodName := ⟨RX2, "radixSort", "([JII)V"⟩
def dkwX2_radixSort_18 : List UInt8 := [167, 254, 158, 177]
abbrev dktX2_radixSort_18 : List UInt8 := dkwX2_radixSort_18 ++ []
def dkwX2_radixSort_17 : List UInt8 := [21, 11, 4, 96, 79, 21, 16, 25, 7, 21, 17, 46, 96, 54, 16, 25, 7, 21, 17, 3, 79, 167, 255, 75]
abbrev dktX2_radixSort_17 : List UInt8 := dkwX2_radixSort_17 ++ dktX2_radixSort_18
def dkwX2_radixSort_16 : List UInt8 := [167, 0, 29, 25, 4, 29, 21, 16, 79, 25, 5, 29, 25, 7, 21, 17, 46, 79, 25, 6, 29, 132, 3, 1]
abbrev dktX2_radixSort_16 : List UInt8 := dkwX2_radixSort_16 ++ dktX2_radixSort_17
def dkwX2_radixSort_15 : List UInt8 := [21, 17, 46, 17, 4, 0, 162, 0, 20, 42, 21, 16, 21, 16, 25, 7, 21, 17, 46, 96, 184, 0, 29]
abbrev dktX2_radixSort_15 : List UInt8 := dkwX2_radixSort_15 ++ dktX2_radixSort_16
def dkwX2_radixSort_14 : List UInt8 := [42, 21, 16, 22, 19, 80, 21, 11, 16, 7, 162, 0, 66, 25, 7, 21, 17, 46, 4, 164, 0, 57, 25, 7]
abbrev dktX2_radixSort_14 : List UInt8 := dkwX2_radixSort_14 ++ dktX2_radixSort_15
def dkwX2_radixSort_13 : List UInt8 := [21, 18, 22, 21, 80, 22, 19, 21, 13, 125, 20, 0, 53, 127, 21, 12, 133, 131, 136, 54, 17, 167, 255, 206]
abbrev dktX2_radixSort_13 : List UInt8 := dkwX2_radixSort_13 ++ dktX2_radixSort_14
def dkwX2_radixSort_12 : List UInt8 := [46, 4, 100, 91, 79, 89, 54, 18, 21, 16, 164, 0, 38, 22, 19, 55, 21, 42, 21, 18, 47, 55, 19, 42]
abbrev dktX2_radixSort_12 : List UInt8 := dkwX2_radixSort_12 ++ dktX2_radixSort_13
def dkwX2_radixSort_11 : List UInt8 := [125, 20, 0, 53, 127, 21, 12, 133, 131, 136, 54, 17, 21, 16, 21, 15, 162, 0, 62, 25, 8, 21, 17, 92]
abbrev dktX2_radixSort_11 : List UInt8 := dkwX2_radixSort_11 ++ dktX2_radixSort_12
def dkwX2_radixSort_10 : List UInt8 := [21, 9, 54, 16, 2, 54, 17, 21, 16, 21, 15, 163, 0, 180, 42, 21, 16, 47, 55, 19, 22, 19, 21, 13]
abbrev dktX2_radixSort_10 : List UInt8 := dkwX2_radixSort_10 ++ dktX2_radixSort_11
def dkwX2_radixSort_9 : List UInt8 := [89, 54, 16, 79, 132, 15, 1, 167, 255, 217, 21, 9, 21, 10, 96, 25, 7, 21, 14, 46, 100, 54, 15]
abbrev dktX2_radixSort_9 : List UInt8 := dkwX2_radixSort_9 ++ dktX2_radixSort_10
def dkwX2_radixSort_8 : List UInt8 := [25, 7, 21, 15, 46, 153, 0, 7, 21, 15, 54, 14, 25, 8, 21, 15, 21, 16, 25, 7, 21, 15, 46, 96]
abbrev dktX2_radixSort_8 : List UInt8 := dkwX2_radixSort_8 ++ dktX2_radixSort_9
def dkwX2_radixSort_7 : List UInt8 := [96, 79, 167, 255, 223, 2, 54, 14, 3, 54, 15, 21, 9, 54, 16, 21, 15, 17, 1, 0, 162, 0, 37]
abbrev dktX2_radixSort_7 : List UInt8 := dkwX2_radixSort_7 ++ dktX2_radixSort_8
def dkwX2_radixSort_6 : List UInt8 := [159, 0, 29, 25, 7, 42, 21, 14, 47, 21, 13, 125, 20, 0, 53, 127, 21, 12, 133, 131, 136, 92, 46, 4]
abbrev dktX2_radixSort_6 : List UInt8 := dkwX2_radixSort_6 ++ dktX2_radixSort_7
def dkwX2_radixSort_5 : List UInt8 := [16, 8, 112, 100, 16, 8, 104, 54, 13, 21, 9, 21, 10, 96, 54, 14, 21, 14, 132, 14, 255, 21, 9]
abbrev dktX2_radixSort_5 : List UInt8 := dkwX2_radixSort_5 ++ dktX2_radixSort_6
def dkwX2_radixSort_4 : List UInt8 := [46, 54, 11, 21, 11, 16, 8, 112, 154, 0, 9, 17, 0, 128, 167, 0, 4, 3, 54, 12, 16, 7, 21, 11]
abbrev dktX2_radixSort_4 : List UInt8 := dkwX2_radixSort_4 ++ dktX2_radixSort_5
def dkwX2_radixSort_3 : List UInt8 := [58, 8, 29, 158, 1, 100, 25, 4, 132, 3, 255, 29, 46, 54, 9, 25, 5, 29, 46, 54, 10, 25, 6, 29]
abbrev dktX2_radixSort_3 : List UInt8 := dkwX2_radixSort_3 ++ dktX2_radixSort_4
def dkwX2_radixSort_2 : List UInt8 := [28, 27, 100, 79, 25, 6, 29, 132, 3, 1, 3, 79, 17, 1, 0, 188, 10, 58, 7, 17, 1, 0, 188, 10]
abbrev dktX2_radixSort_2 : List UInt8 := dkwX2_radixSort_2 ++ dktX2_radixSort_3
def dkwX2_radixSort_1 : List UInt8 := [58, 4, 17, 6, 250, 188, 10, 58, 5, 17, 6, 250, 188, 10, 58, 6, 25, 4, 29, 27, 79, 25, 5, 29]
abbrev dktX2_radixSort_1 : List UInt8 := dkwX2_radixSort_1 ++ dktX2_radixSort_2
def dkwX2_radixSort_0 : List UInt8 := [28, 27, 100, 17, 4, 0, 162, 0, 10, 42, 27, 28, 184, 0, 29, 177, 3, 62, 17, 6, 250, 188, 10]
abbrev dktX2_radixSort_0 : List UInt8 := dkwX2_radixSort_0 ++ dktX2_radixSort_1
theorem dksX2_radixSort_0 : cX2_radixSort.data.toList.drop 0 = dktX2_radixSort_0 := by decide +kernel
theorem dksX2_radixSort_1 : cX2_radixSort.data.toList.drop 23 = dktX2_radixSort_1 := dk_seg dksX2_radixSort_0 23 rfl rfl
theorem dksX2_radixSort_2 : cX2_radixSort.data.toList.drop 47 = dktX2_radixSort_2 := dk_seg dksX2_radixSort_1 24 rfl rfl
theorem dksX2_radixSort_3 : cX2_radixSort.data.toList.drop 71 = dktX2_radixSort_3 := dk_seg dksX2_radixSort_2 24 rfl rfl
theorem dksX2_radixSort_4 : cX2_radixSort.data.toList.drop 95 = dktX2_radixSort_4 := dk_seg dksX2_radixSort_3 24 rfl rfl
theorem dksX2_radixSort_5 : cX2_radixSort.data.toList.drop 119 = dktX2_radixSort_5 := dk_seg dksX2_radixSort_4 24 rfl rfl
theorem dksX2_radixSort_6 : cX2_radixSort.data.toList.drop 142 = dktX2_radixSort_6 := dk_seg dksX2_radixSort_5 23 rfl rfl
theorem dksX2_radixSort_7 : cX2_radixSort.data.toList.drop 166 = dktX2_radixSort_7 := dk_seg dksX2_radixSort_6 24 rfl rfl
theorem dksX2_radixSort_8 : cX2_radixSort.data.toList.drop 189 = dktX2_radixSort_8 := dk_seg dksX2_radixSort_7 23 rfl rfl
theorem dksX2_radixSort_9 : cX2_radixSort.data.toList.drop 213 = dktX2_radixSort_9 := dk_seg dksX2_radixSort_8 24 rfl rfl
theorem dksX2_radixSort_10 : cX2_radixSort.data.toList.drop 236 = dktX2_radixSort_10 := dk_seg dksX2_radixSort_9 23 rfl rfl
theorem dksX2_radixSort_11 : cX2_radixSort.data.toList.drop 260 = dktX2_radixSort_11 := dk_seg dksX2_radixSort_10 24 rfl rfl
theorem dksX2_radixSort_12 : cX2_radixSort.data.toList.drop 284 = dktX2_radixSort_12 := dk_seg dksX2_radixSort_11 24 rfl rfl
theorem dksX2_radixSort_13 : cX2_radixSort.data.toList.drop 308 = dktX2_radixSort_13 := dk_seg dksX2_radixSort_12 24 rfl rfl
theorem dksX2_radixSort_14 : cX2_radixSort.data.toList.drop 332 = dktX2_radixSort_14 := dk_seg dksX2_radixSort_13 24 rfl rfl
theorem dksX2_radixSort_15 : cX2_radixSort.data.toList.drop 356 = dktX2_radixSort_15 := dk_seg dksX2_radixSort_14 24 rfl rfl
theorem dksX2_radixSort_16 : cX2_radixSort.data.toList.drop 379 = dktX2_radixSort_16 := dk_seg dksX2_radixSort_15 23 rfl rfl
theorem dksX2_radixSort_17 : cX2_radixSort.data.toList.drop 403 = dktX2_radixSort_17 := dk_seg dksX2_radixSort_16 24 rfl rfl
theorem dksX2_radixSort_18 : cX2_radixSort.data.toList.drop 427 = dktX2_radixSort_18 := dk_seg dksX2_radixSort_17 24 rfl rfl
theorem dX2_radixSort_0 : decode cX2_radixSort 0 = .ok (.iload_n 2, 1) := dk_28 (dk_at dksX2_radixSort_0 0 rfl rfl)
theorem dX2_radixSort_1 : decode cX2_radixSort 1 = .ok (.iload_n 1, 1) := dk_27 (dk_at dksX2_radixSort_0 1 rfl rfl)
theorem dX2_radixSort_2 : decode cX2_radixSort 2 = .ok (.isub, 1) := dk_100 (dk_at dksX2_radixSort_0 2 rfl rfl)
theorem dX2_radixSort_3 : decode cX2_radixSort 3 = .ok (.sipush 1024, 3) := dk_17 4 0 (dk_at dksX2_radixSort_0 3 rfl rfl)
theorem dX2_radixSort_6 : decode cX2_radixSort 6 = .ok (.if_icmp .ge 10, 3) := dk_162 0 10 (dk_at dksX2_radixSort_0 6 rfl rfl)
theorem dX2_radixSort_9 : decode cX2_radixSort 9 = .ok (.aload_n 0, 1) := dk_42 (dk_at dksX2_radixSort_0 9 rfl rfl)
theorem dX2_radixSort_10 : decode cX2_radixSort 10 = .ok (.iload_n 1, 1) := dk_27 (dk_at dksX2_radixSort_0 10 rfl rfl)
theorem dX2_radixSort_11 : decode cX2_radixSort 11 = .ok (.iload_n 2, 1) := dk_28 (dk_at dksX2_radixSort_0 11 rfl rfl)
theorem dX2_radixSort_12 : decode cX2_radixSort 12 = .ok (.invokestatic 29, 3) := dk_184 0 29 (dk_at dksX2_radixSort_0 12 rfl rfl)
theorem dX2_radixSort_15 : decode cX2_radixSort 15 = .ok (.return_, 1) := dk_177 (dk_at dksX2_radixSort_0 15 rfl rfl)
theorem dX2_radixSort_16 : decode cX2_radixSort 16 = .ok (.iconst 0, 1) := dk_3 (dk_at dksX2_radixSort_0 16 rfl rfl)
theorem dX2_radixSort_17 : decode cX2_radixSort 17 = .ok (.istore_n 3, 1) := dk_62 (dk_at dksX2_radixSort_0 17 rfl rfl)
theorem dX2_radixSort_18 : decode cX2_radixSort 18 = .ok (.sipush 1786, 3) := dk_17 6 250 (dk_at dksX2_radixSort_0 18 rfl rfl)
theorem dX2_radixSort_21 : decode cX2_radixSort 21 = .ok (.newarray .int, 2) := dk_188_10 (dk_at dksX2_radixSort_0 21 rfl rfl)
theorem dX2_radixSort_23 : decode cX2_radixSort 23 = .ok (.astore 4, 2) := dk_58 4 (dk_at dksX2_radixSort_1 0 rfl rfl)
theorem dX2_radixSort_25 : decode cX2_radixSort 25 = .ok (.sipush 1786, 3) := dk_17 6 250 (dk_at dksX2_radixSort_1 2 rfl rfl)
theorem dX2_radixSort_28 : decode cX2_radixSort 28 = .ok (.newarray .int, 2) := dk_188_10 (dk_at dksX2_radixSort_1 5 rfl rfl)
theorem dX2_radixSort_30 : decode cX2_radixSort 30 = .ok (.astore 5, 2) := dk_58 5 (dk_at dksX2_radixSort_1 7 rfl rfl)
theorem dX2_radixSort_32 : decode cX2_radixSort 32 = .ok (.sipush 1786, 3) := dk_17 6 250 (dk_at dksX2_radixSort_1 9 rfl rfl)
theorem dX2_radixSort_35 : decode cX2_radixSort 35 = .ok (.newarray .int, 2) := dk_188_10 (dk_at dksX2_radixSort_1 12 rfl rfl)
theorem dX2_radixSort_37 : decode cX2_radixSort 37 = .ok (.astore 6, 2) := dk_58 6 (dk_at dksX2_radixSort_1 14 rfl rfl)
theorem dX2_radixSort_39 : decode cX2_radixSort 39 = .ok (.aload 4, 2) := dk_25 4 (dk_at dksX2_radixSort_1 16 rfl rfl)
theorem dX2_radixSort_41 : decode cX2_radixSort 41 = .ok (.iload_n 3, 1) := dk_29 (dk_at dksX2_radixSort_1 18 rfl rfl)
theorem dX2_radixSort_42 : decode cX2_radixSort 42 = .ok (.iload_n 1, 1) := dk_27 (dk_at dksX2_radixSort_1 19 rfl rfl)
theorem dX2_radixSort_43 : decode cX2_radixSort 43 = .ok (.iastore, 1) := dk_79 (dk_at dksX2_radixSort_1 20 rfl rfl)
theorem dX2_radixSort_44 : decode cX2_radixSort 44 = .ok (.aload 5, 2) := dk_25 5 (dk_at dksX2_radixSort_1 21 rfl rfl)
theorem dX2_radixSort_46 : decode cX2_radixSort 46 = .ok (.iload_n 3, 1) := dk_29 (dk_at dksX2_radixSort_1 23 rfl rfl)
theorem dX2_radixSort_47 : decode cX2_radixSort 47 = .ok (.iload_n 2, 1) := dk_28 (dk_at dksX2_radixSort_2 0 rfl rfl)
theorem dX2_radixSort_48 : decode cX2_radixSort 48 = .ok (.iload_n 1, 1) := dk_27 (dk_at dksX2_radixSort_2 1 rfl rfl)
theorem dX2_radixSort_49 : decode cX2_radixSort 49 = .ok (.isub, 1) := dk_100 (dk_at dksX2_radixSort_2 2 rfl rfl)
theorem dX2_radixSort_50 : decode cX2_radixSort 50 = .ok (.iastore, 1) := dk_79 (dk_at dksX2_radixSort_2 3 rfl rfl)
theorem dX2_radixSort_51 : decode cX2_radixSort 51 = .ok (.aload 6, 2) := dk_25 6 (dk_at dksX2_radixSort_2 4 rfl rfl)
theorem dX2_radixSort_53 : decode cX2_radixSort 53 = .ok (.iload_n 3, 1) := dk_29 (dk_at dksX2_radixSort_2 6 rfl rfl)
theorem dX2_radixSort_54 : decode cX2_radixSort 54 = .ok (.iinc 3 1, 3) := dk_132 3 1 (dk_at dksX2_radixSort_2 7 rfl rfl)
theorem dX2_radixSort_57 : decode cX2_radixSort 57 = .ok (.iconst 0, 1) := dk_3 (dk_at dksX2_radixSort_2 10 rfl rfl)
theorem dX2_radixSort_58 : decode cX2_radixSort 58 = .ok (.iastore, 1) := dk_79 (dk_at dksX2_radixSort_2 11 rfl rfl)
theorem dX2_radixSort_59 : decode cX2_radixSort 59 = .ok (.sipush 256, 3) := dk_17 1 0 (dk_at dksX2_radixSort_2 12 rfl rfl)
theorem dX2_radixSort_62 : decode cX2_radixSort 62 = .ok (.newarray .int, 2) := dk_188_10 (dk_at dksX2_radixSort_2 15 rfl rfl)
theorem dX2_radixSort_64 : decode cX2_radixSort 64 = .ok (.astore 7, 2) := dk_58 7 (dk_at dksX2_radixSort_2 17 rfl rfl)
theorem dX2_radixSort_66 : decode cX2_radixSort 66 = .ok (.sipush 256, 3) := dk_17 1 0 (dk_at dksX2_radixSort_2 19 rfl rfl)
theorem dX2_radixSort_69 : decode cX2_radixSort 69 = .ok (.newarray .int, 2) := dk_188_10 (dk_at dksX2_radixSort_2 22 rfl rfl)
theorem dX2_radixSort_71 : decode cX2_radixSort 71 = .ok (.astore 8, 2) := dk_58 8 (dk_at dksX2_radixSort_3 0 rfl rfl)
theorem dX2_radixSort_73 : decode cX2_radixSort 73 = .ok (.iload_n 3, 1) := dk_29 (dk_at dksX2_radixSort_3 2 rfl rfl)
theorem dX2_radixSort_74 : decode cX2_radixSort 74 = .ok (.ifCond .le 356, 3) := dk_158 1 100 (dk_at dksX2_radixSort_3 3 rfl rfl)
theorem dX2_radixSort_77 : decode cX2_radixSort 77 = .ok (.aload 4, 2) := dk_25 4 (dk_at dksX2_radixSort_3 6 rfl rfl)
theorem dX2_radixSort_79 : decode cX2_radixSort 79 = .ok (.iinc 3 (-1), 3) := dk_132 3 255 (dk_at dksX2_radixSort_3 8 rfl rfl)
theorem dX2_radixSort_82 : decode cX2_radixSort 82 = .ok (.iload_n 3, 1) := dk_29 (dk_at dksX2_radixSort_3 11 rfl rfl)
theorem dX2_radixSort_83 : decode cX2_radixSort 83 = .ok (.iaload, 1) := dk_46 (dk_at dksX2_radixSort_3 12 rfl rfl)
theorem dX2_radixSort_84 : decode cX2_radixSort 84 = .ok (.istore 9, 2) := dk_54 9 (dk_at dksX2_radixSort_3 13 rfl rfl)
theorem dX2_radixSort_86 : decode cX2_radixSort 86 = .ok (.aload 5, 2) := dk_25 5 (dk_at dksX2_radixSort_3 15 rfl rfl)
theorem dX2_radixSort_88 : decode cX2_radixSort 88 = .ok (.iload_n 3, 1) := dk_29 (dk_at dksX2_radixSort_3 17 rfl rfl)
theorem dX2_radixSort_89 : decode cX2_radixSort 89 = .ok (.iaload, 1) := dk_46 (dk_at dksX2_radixSort_3 18 rfl rfl)
theorem dX2_radixSort_90 : decode cX2_radixSort 90 = .ok (.istore 10, 2) := dk_54 10 (dk_at dksX2_radixSort_3 19 rfl rfl)
theorem dX2_radixSort_92 : decode cX2_radixSort 92 = .ok (.aload 6, 2) := dk_25 6 (dk_at dksX2_radixSort_3 21 rfl rfl)
theorem dX2_radixSort_94 : decode cX2_radixSort 94 = .ok (.iload_n 3, 1) := dk_29 (dk_at dksX2_radixSort_3 23 rfl rfl)
theorem dX2_radixSort_95 : decode cX2_radixSort 95 = .ok (.iaload, 1) := dk_46 (dk_at dksX2_radixSort_4 0 rfl rfl)
theorem dX2_radixSort_96 : decode cX2_radixSort 96 = .ok (.istore 11, 2) := dk_54 11 (dk_at dksX2_radixSort_4 1 rfl rfl)
theorem dX2_radixSort_98 : decode cX2_radixSort 98 = .ok (.iload 11, 2) := dk_21 11 (dk_at dksX2_radixSort_4 3 rfl rfl)
theorem dX2_radixSort_100 : decode cX2_radixSort 100 = .ok (.bipush 8, 2) := dk_16 8 (dk_at dksX2_radixSort_4 5 rfl rfl)
theorem dX2_radixSort_102 : decode cX2_radixSort 102 = .ok (.irem, 1) := dk_112 (dk_at dksX2_radixSort_4 7 rfl rfl)
theorem dX2_radixSort_103 : decode cX2_radixSort 103 = .ok (.ifCond .ne 9, 3) := dk_154 0 9 (dk_at dksX2_radixSort_4 8 rfl rfl)
theorem dX2_radixSort_106 : decode cX2_radixSort 106 = .ok (.sipush 128, 3) := dk_17 0 128 (dk_at dksX2_radixSort_4 11 rfl rfl)
theorem dX2_radixSort_109 : decode cX2_radixSort 109 = .ok (.goto 4, 3) := dk_167 0 4 (dk_at dksX2_radixSort_4 14 rfl rfl)
theorem dX2_radixSort_112 : decode cX2_radixSort 112 = .ok (.iconst 0, 1) := dk_3 (dk_at dksX2_radixSort_4 17 rfl rfl)
theorem dX2_radixSort_113 : decode cX2_radixSort 113 = .ok (.istore 12, 2) := dk_54 12 (dk_at dksX2_radixSort_4 18 rfl rfl)
theorem dX2_radixSort_115 : decode cX2_radixSort 115 = .ok (.bipush 7, 2) := dk_16 7 (dk_at dksX2_radixSort_4 20 rfl rfl)
theorem dX2_radixSort_117 : decode cX2_radixSort 117 = .ok (.iload 11, 2) := dk_21 11 (dk_at dksX2_radixSort_4 22 rfl rfl)
theorem dX2_radixSort_119 : decode cX2_radixSort 119 = .ok (.bipush 8, 2) := dk_16 8 (dk_at dksX2_radixSort_5 0 rfl rfl)
theorem dX2_radixSort_121 : decode cX2_radixSort 121 = .ok (.irem, 1) := dk_112 (dk_at dksX2_radixSort_5 2 rfl rfl)
theorem dX2_radixSort_122 : decode cX2_radixSort 122 = .ok (.isub, 1) := dk_100 (dk_at dksX2_radixSort_5 3 rfl rfl)
theorem dX2_radixSort_123 : decode cX2_radixSort 123 = .ok (.bipush 8, 2) := dk_16 8 (dk_at dksX2_radixSort_5 4 rfl rfl)
theorem dX2_radixSort_125 : decode cX2_radixSort 125 = .ok (.imul, 1) := dk_104 (dk_at dksX2_radixSort_5 6 rfl rfl)
theorem dX2_radixSort_126 : decode cX2_radixSort 126 = .ok (.istore 13, 2) := dk_54 13 (dk_at dksX2_radixSort_5 7 rfl rfl)
theorem dX2_radixSort_128 : decode cX2_radixSort 128 = .ok (.iload 9, 2) := dk_21 9 (dk_at dksX2_radixSort_5 9 rfl rfl)
theorem dX2_radixSort_130 : decode cX2_radixSort 130 = .ok (.iload 10, 2) := dk_21 10 (dk_at dksX2_radixSort_5 11 rfl rfl)
theorem dX2_radixSort_132 : decode cX2_radixSort 132 = .ok (.iadd, 1) := dk_96 (dk_at dksX2_radixSort_5 13 rfl rfl)
theorem dX2_radixSort_133 : decode cX2_radixSort 133 = .ok (.istore 14, 2) := dk_54 14 (dk_at dksX2_radixSort_5 14 rfl rfl)
theorem dX2_radixSort_135 : decode cX2_radixSort 135 = .ok (.iload 14, 2) := dk_21 14 (dk_at dksX2_radixSort_5 16 rfl rfl)
theorem dX2_radixSort_137 : decode cX2_radixSort 137 = .ok (.iinc 14 (-1), 3) := dk_132 14 255 (dk_at dksX2_radixSort_5 18 rfl rfl)
theorem dX2_radixSort_140 : decode cX2_radixSort 140 = .ok (.iload 9, 2) := dk_21 9 (dk_at dksX2_radixSort_5 21 rfl rfl)
theorem dX2_radixSort_142 : decode cX2_radixSort 142 = .ok (.if_icmp .eq 29, 3) := dk_159 0 29 (dk_at dksX2_radixSort_6 0 rfl rfl)
theorem dX2_radixSort_145 : decode cX2_radixSort 145 = .ok (.aload 7, 2) := dk_25 7 (dk_at dksX2_radixSort_6 3 rfl rfl)
theorem dX2_radixSort_147 : decode cX2_radixSort 147 = .ok (.aload_n 0, 1) := dk_42 (dk_at dksX2_radixSort_6 5 rfl rfl)
theorem dX2_radixSort_148 : decode cX2_radixSort 148 = .ok (.iload 14, 2) := dk_21 14 (dk_at dksX2_radixSort_6 6 rfl rfl)
theorem dX2_radixSort_150 : decode cX2_radixSort 150 = .ok (.laload, 1) := dk_47 (dk_at dksX2_radixSort_6 8 rfl rfl)
theorem dX2_radixSort_151 : decode cX2_radixSort 151 = .ok (.iload 13, 2) := dk_21 13 (dk_at dksX2_radixSort_6 9 rfl rfl)
theorem dX2_radixSort_153 : decode cX2_radixSort 153 = .ok (.lushr, 1) := dk_125 (dk_at dksX2_radixSort_6 11 rfl rfl)
theorem dX2_radixSort_154 : decode cX2_radixSort 154 = .ok (.ldc2_w 53, 3) := dk_20 0 53 (dk_at dksX2_radixSort_6 12 rfl rfl)
theorem dX2_radixSort_157 : decode cX2_radixSort 157 = .ok (.land, 1) := dk_127 (dk_at dksX2_radixSort_6 15 rfl rfl)
theorem dX2_radixSort_158 : decode cX2_radixSort 158 = .ok (.iload 12, 2) := dk_21 12 (dk_at dksX2_radixSort_6 16 rfl rfl)
theorem dX2_radixSort_160 : decode cX2_radixSort 160 = .ok (.i2l, 1) := dk_133 (dk_at dksX2_radixSort_6 18 rfl rfl)
theorem dX2_radixSort_161 : decode cX2_radixSort 161 = .ok (.lxor, 1) := dk_131 (dk_at dksX2_radixSort_6 19 rfl rfl)
theorem dX2_radixSort_162 : decode cX2_radixSort 162 = .ok (.l2i, 1) := dk_136 (dk_at dksX2_radixSort_6 20 rfl rfl)
theorem dX2_radixSort_163 : decode cX2_radixSort 163 = .ok (.dup2, 1) := dk_92 (dk_at dksX2_radixSort_6 21 rfl rfl)
theorem dX2_radixSort_164 : decode cX2_radixSort 164 = .ok (.iaload, 1) := dk_46 (dk_at dksX2_radixSort_6 22 rfl rfl)
theorem dX2_radixSort_165 : decode cX2_radixSort 165 = .ok (.iconst 1, 1) := dk_4 (dk_at dksX2_radixSort_6 23 rfl rfl)
theorem dX2_radixSort_166 : decode cX2_radixSort 166 = .ok (.iadd, 1) := dk_96 (dk_at dksX2_radixSort_7 0 rfl rfl)
theorem dX2_radixSort_167 : decode cX2_radixSort 167 = .ok (.iastore, 1) := dk_79 (dk_at dksX2_radixSort_7 1 rfl rfl)
theorem dX2_radixSort_168 : decode cX2_radixSort 168 = .ok (.goto (-33), 3) := dk_167 255 223 (dk_at dksX2_radixSort_7 2 rfl rfl)
theorem dX2_radixSort_171 : decode cX2_radixSort 171 = .ok (.iconst (-1), 1) := dk_2 (dk_at dksX2_radixSort_7 5 rfl rfl)
theorem dX2_radixSort_172 : decode cX2_radixSort 172 = .ok (.istore 14, 2) := dk_54 14 (dk_at dksX2_radixSort_7 6 rfl rfl)
theorem dX2_radixSort_174 : decode cX2_radixSort 174 = .ok (.iconst 0, 1) := dk_3 (dk_at dksX2_radixSort_7 8 rfl rfl)
theorem dX2_radixSort_175 : decode cX2_radixSort 175 = .ok (.istore 15, 2) := dk_54 15 (dk_at dksX2_radixSort_7 9 rfl rfl)
theorem dX2_radixSort_177 : decode cX2_radixSort 177 = .ok (.iload 9, 2) := dk_21 9 (dk_at dksX2_radixSort_7 11 rfl rfl)
theorem dX2_radixSort_179 : decode cX2_radixSort 179 = .ok (.istore 16, 2) := dk_54 16 (dk_at dksX2_radixSort_7 13 rfl rfl)
theorem dX2_radixSort_181 : decode cX2_radixSort 181 = .ok (.iload 15, 2) := dk_21 15 (dk_at dksX2_radixSort_7 15 rfl rfl)
theorem dX2_radixSort_183 : decode cX2_radixSort 183 = .ok (.sipush 256, 3) := dk_17 1 0 (dk_at dksX2_radixSort_7 17 rfl rfl)
theorem dX2_radixSort_186 : decode cX2_radixSort 186 = .ok (.if_icmp .ge 37, 3) := dk_162 0 37 (dk_at dksX2_radixSort_7 20 rfl rfl)
theorem dX2_radixSort_189 : decode cX2_radixSort 189 = .ok (.aload 7, 2) := dk_25 7 (dk_at dksX2_radixSort_8 0 rfl rfl)
theorem dX2_radixSort_191 : decode cX2_radixSort 191 = .ok (.iload 15, 2) := dk_21 15 (dk_at dksX2_radixSort_8 2 rfl rfl)
theorem dX2_radixSort_193 : decode cX2_radixSort 193 = .ok (.iaload, 1) := dk_46 (dk_at dksX2_radixSort_8 4 rfl rfl)
theorem dX2_radixSort_194 : decode cX2_radixSort 194 = .ok (.ifCond .eq 7, 3) := dk_153 0 7 (dk_at dksX2_radixSort_8 5 rfl rfl)
theorem dX2_radixSort_197 : decode cX2_radixSort 197 = .ok (.iload 15, 2) := dk_21 15 (dk_at dksX2_radixSort_8 8 rfl rfl)
theorem dX2_radixSort_199 : decode cX2_radixSort 199 = .ok (.istore 14, 2) := dk_54 14 (dk_at dksX2_radixSort_8 10 rfl rfl)
theorem dX2_radixSort_201 : decode cX2_radixSort 201 = .ok (.aload 8, 2) := dk_25 8 (dk_at dksX2_radixSort_8 12 rfl rfl)
theorem dX2_radixSort_203 : decode cX2_radixSort 203 = .ok (.iload 15, 2) := dk_21 15 (dk_at dksX2_radixSort_8 14 rfl rfl)
theorem dX2_radixSort_205 : decode cX2_radixSort 205 = .ok (.iload 16, 2) := dk_21 16 (dk_at dksX2_radixSort_8 16 rfl rfl)
theorem dX2_radixSort_207 : decode cX2_radixSort 207 = .ok (.aload 7, 2) := dk_25 7 (dk_at dksX2_radixSort_8 18 rfl rfl)
theorem dX2_radixSort_209 : decode cX2_radixSort 209 = .ok (.iload 15, 2) := dk_21 15 (dk_at dksX2_radixSort_8 20 rfl rfl)
theorem dX2_radixSort_211 : decode cX2_radixSort 211 = .ok (.iaload, 1) := dk_46 (dk_at dksX2_radixSort_8 22 rfl rfl)
theorem dX2_radixSort_212 : decode cX2_radixSort 212 = .ok (.iadd, 1) := dk_96 (dk_at dksX2_radixSort_8 23 rfl rfl)
theorem dX2_radixSort_213 : decode cX2_radixSort 213 = .ok (.dup, 1) := dk_89 (dk_at dksX2_radixSort_9 0 rfl rfl)
theorem dX2_radixSort_214 : decode cX2_radixSort 214 = .ok (.istore 16, 2) := dk_54 16 (dk_at dksX2_radixSort_9 1 rfl rfl)
theorem dX2_radixSort_216 : decode cX2_radixSort 216 = .ok (.iastore, 1) := dk_79 (dk_at dksX2_radixSort_9 3 rfl rfl)
theorem dX2_radixSort_217 : decode cX2_radixSort 217 = .ok (.iinc 15 1, 3) := dk_132 15 1 (dk_at dksX2_radixSort_9 4 rfl rfl)
theorem dX2_radixSort_220 : decode cX2_radixSort 220 = .ok (.goto (-39), 3) := dk_167 255 217 (dk_at dksX2_radixSort_9 7 rfl rfl)
theorem dX2_radixSort_223 : decode cX2_radixSort 223 = .ok (.iload 9, 2) := dk_21 9 (dk_at dksX2_radixSort_9 10 rfl rfl)
theorem dX2_radixSort_225 : decode cX2_radixSort 225 = .ok (.iload 10, 2) := dk_21 10 (dk_at dksX2_radixSort_9 12 rfl rfl)
theorem dX2_radixSort_227 : decode cX2_radixSort 227 = .ok (.iadd, 1) := dk_96 (dk_at dksX2_radixSort_9 14 rfl rfl)
theorem dX2_radixSort_228 : decode cX2_radixSort 228 = .ok (.aload 7, 2) := dk_25 7 (dk_at dksX2_radixSort_9 15 rfl rfl)
theorem dX2_radixSort_230 : decode cX2_radixSort 230 = .ok (.iload 14, 2) := dk_21 14 (dk_at dksX2_radixSort_9 17 rfl rfl)
theorem dX2_radixSort_232 : decode cX2_radixSort 232 = .ok (.iaload, 1) := dk_46 (dk_at dksX2_radixSort_9 19 rfl rfl)
theorem dX2_radixSort_233 : decode cX2_radixSort 233 = .ok (.isub, 1) := dk_100 (dk_at dksX2_radixSort_9 20 rfl rfl)
theorem dX2_radixSort_234 : decode cX2_radixSort 234 = .ok (.istore 15, 2) := dk_54 15 (dk_at dksX2_radixSort_9 21 rfl rfl)
theorem dX2_radixSort_236 : decode cX2_radixSort 236 = .ok (.iload 9, 2) := dk_21 9 (dk_at dksX2_radixSort_10 0 rfl rfl)
theorem dX2_radixSort_238 : decode cX2_radixSort 238 = .ok (.istore 16, 2) := dk_54 16 (dk_at dksX2_radixSort_10 2 rfl rfl)
theorem dX2_radixSort_240 : decode cX2_radixSort 240 = .ok (.iconst (-1), 1) := dk_2 (dk_at dksX2_radixSort_10 4 rfl rfl)
theorem dX2_radixSort_241 : decode cX2_radixSort 241 = .ok (.istore 17, 2) := dk_54 17 (dk_at dksX2_radixSort_10 5 rfl rfl)
theorem dX2_radixSort_243 : decode cX2_radixSort 243 = .ok (.iload 16, 2) := dk_21 16 (dk_at dksX2_radixSort_10 7 rfl rfl)
theorem dX2_radixSort_245 : decode cX2_radixSort 245 = .ok (.iload 15, 2) := dk_21 15 (dk_at dksX2_radixSort_10 9 rfl rfl)
theorem dX2_radixSort_247 : decode cX2_radixSort 247 = .ok (.if_icmp .gt 180, 3) := dk_163 0 180 (dk_at dksX2_radixSort_10 11 rfl rfl)
theorem dX2_radixSort_250 : decode cX2_radixSort 250 = .ok (.aload_n 0, 1) := dk_42 (dk_at dksX2_radixSort_10 14 rfl rfl)
theorem dX2_radixSort_251 : decode cX2_radixSort 251 = .ok (.iload 16, 2) := dk_21 16 (dk_at dksX2_radixSort_10 15 rfl rfl)
theorem dX2_radixSort_253 : decode cX2_radixSort 253 = .ok (.laload, 1) := dk_47 (dk_at dksX2_radixSort_10 17 rfl rfl)
theorem dX2_radixSort_254 : decode cX2_radixSort 254 = .ok (.lstore 19, 2) := dk_55 19 (dk_at dksX2_radixSort_10 18 rfl rfl)
theorem dX2_radixSort_256 : decode cX2_radixSort 256 = .ok (.lload 19, 2) := dk_22 19 (dk_at dksX2_radixSort_10 20 rfl rfl)
theorem dX2_radixSort_258 : decode cX2_radixSort 258 = .ok (.iload 13, 2) := dk_21 13 (dk_at dksX2_radixSort_10 22 rfl rfl)
theorem dX2_radixSort_260 : decode cX2_radixSort 260 = .ok (.lushr, 1) := dk_125 (dk_at dksX2_radixSort_11 0 rfl rfl)
theorem dX2_radixSort_261 : decode cX2_radixSort 261 = .ok (.ldc2_w 53, 3) := dk_20 0 53 (dk_at dksX2_radixSort_11 1 rfl rfl)
theorem dX2_radixSort_264 : decode cX2_radixSort 264 = .ok (.land, 1) := dk_127 (dk_at dksX2_radixSort_11 4 rfl rfl)
theorem dX2_radixSort_265 : decode cX2_radixSort 265 = .ok (.iload 12, 2) := dk_21 12 (dk_at dksX2_radixSort_11 5 rfl rfl)
theorem dX2_radixSort_267 : decode cX2_radixSort 267 = .ok (.i2l, 1) := dk_133 (dk_at dksX2_radixSort_11 7 rfl rfl)
theorem dX2_radixSort_268 : decode cX2_radixSort 268 = .ok (.lxor, 1) := dk_131 (dk_at dksX2_radixSort_11 8 rfl rfl)
theorem dX2_radixSort_269 : decode cX2_radixSort 269 = .ok (.l2i, 1) := dk_136 (dk_at dksX2_radixSort_11 9 rfl rfl)
theorem dX2_radixSort_270 : decode cX2_radixSort 270 = .ok (.istore 17, 2) := dk_54 17 (dk_at dksX2_radixSort_11 10 rfl rfl)
theorem dX2_radixSort_272 : decode cX2_radixSort 272 = .ok (.iload 16, 2) := dk_21 16 (dk_at dksX2_radixSort_11 12 rfl rfl)
theorem dX2_radixSort_274 : decode cX2_radixSort 274 = .ok (.iload 15, 2) := dk_21 15 (dk_at dksX2_radixSort_11 14 rfl rfl)
theorem dX2_radixSort_276 : decode cX2_radixSort 276 = .ok (.if_icmp .ge 62, 3) := dk_162 0 62 (dk_at dksX2_radixSort_11 16 rfl rfl)
theorem dX2_radixSort_279 : decode cX2_radixSort 279 = .ok (.aload 8, 2) := dk_25 8 (dk_at dksX2_radixSort_11 19 rfl rfl)
theorem dX2_radixSort_281 : decode cX2_radixSort 281 = .ok (.iload 17, 2) := dk_21 17 (dk_at dksX2_radixSort_11 21 rfl rfl)
theorem dX2_radixSort_283 : decode cX2_radixSort 283 = .ok (.dup2, 1) := dk_92 (dk_at dksX2_radixSort_11 23 rfl rfl)
theorem dX2_radixSort_284 : decode cX2_radixSort 284 = .ok (.iaload, 1) := dk_46 (dk_at dksX2_radixSort_12 0 rfl rfl)
theorem dX2_radixSort_285 : decode cX2_radixSort 285 = .ok (.iconst 1, 1) := dk_4 (dk_at dksX2_radixSort_12 1 rfl rfl)
theorem dX2_radixSort_286 : decode cX2_radixSort 286 = .ok (.isub, 1) := dk_100 (dk_at dksX2_radixSort_12 2 rfl rfl)
theorem dX2_radixSort_287 : decode cX2_radixSort 287 = .ok (.dup_x2, 1) := dk_91 (dk_at dksX2_radixSort_12 3 rfl rfl)
theorem dX2_radixSort_288 : decode cX2_radixSort 288 = .ok (.iastore, 1) := dk_79 (dk_at dksX2_radixSort_12 4 rfl rfl)
theorem dX2_radixSort_289 : decode cX2_radixSort 289 = .ok (.dup, 1) := dk_89 (dk_at dksX2_radixSort_12 5 rfl rfl)
theorem dX2_radixSort_290 : decode cX2_radixSort 290 = .ok (.istore 18, 2) := dk_54 18 (dk_at dksX2_radixSort_12 6 rfl rfl)
theorem dX2_radixSort_292 : decode cX2_radixSort 292 = .ok (.iload 16, 2) := dk_21 16 (dk_at dksX2_radixSort_12 8 rfl rfl)
theorem dX2_radixSort_294 : decode cX2_radixSort 294 = .ok (.if_icmp .le 38, 3) := dk_164 0 38 (dk_at dksX2_radixSort_12 10 rfl rfl)
theorem dX2_radixSort_297 : decode cX2_radixSort 297 = .ok (.lload 19, 2) := dk_22 19 (dk_at dksX2_radixSort_12 13 rfl rfl)
theorem dX2_radixSort_299 : decode cX2_radixSort 299 = .ok (.lstore 21, 2) := dk_55 21 (dk_at dksX2_radixSort_12 15 rfl rfl)
theorem dX2_radixSort_301 : decode cX2_radixSort 301 = .ok (.aload_n 0, 1) := dk_42 (dk_at dksX2_radixSort_12 17 rfl rfl)
theorem dX2_radixSort_302 : decode cX2_radixSort 302 = .ok (.iload 18, 2) := dk_21 18 (dk_at dksX2_radixSort_12 18 rfl rfl)
theorem dX2_radixSort_304 : decode cX2_radixSort 304 = .ok (.laload, 1) := dk_47 (dk_at dksX2_radixSort_12 20 rfl rfl)
theorem dX2_radixSort_305 : decode cX2_radixSort 305 = .ok (.lstore 19, 2) := dk_55 19 (dk_at dksX2_radixSort_12 21 rfl rfl)
theorem dX2_radixSort_307 : decode cX2_radixSort 307 = .ok (.aload_n 0, 1) := dk_42 (dk_at dksX2_radixSort_12 23 rfl rfl)
theorem dX2_radixSort_308 : decode cX2_radixSort 308 = .ok (.iload 18, 2) := dk_21 18 (dk_at dksX2_radixSort_13 0 rfl rfl)
theorem dX2_radixSort_310 : decode cX2_radixSort 310 = .ok (.lload 21, 2) := dk_22 21 (dk_at dksX2_radixSort_13 2 rfl rfl)
theorem dX2_radixSort_312 : decode cX2_radixSort 312 = .ok (.lastore, 1) := dk_80 (dk_at dksX2_radixSort_13 4 rfl rfl)
theorem dX2_radixSort_313 : decode cX2_radixSort 313 = .ok (.lload 19, 2) := dk_22 19 (dk_at dksX2_radixSort_13 5 rfl rfl)
theorem dX2_radixSort_315 : decode cX2_radixSort 315 = .ok (.iload 13, 2) := dk_21 13 (dk_at dksX2_radixSort_13 7 rfl rfl)
theorem dX2_radixSort_317 : decode cX2_radixSort 317 = .ok (.lushr, 1) := dk_125 (dk_at dksX2_radixSort_13 9 rfl rfl)
theorem dX2_radixSort_318 : decode cX2_radixSort 318 = .ok (.ldc2_w 53, 3) := dk_20 0 53 (dk_at dksX2_radixSort_13 10 rfl rfl)
theorem dX2_radixSort_321 : decode cX2_radixSort 321 = .ok (.land, 1) := dk_127 (dk_at dksX2_radixSort_13 13 rfl rfl)
theorem dX2_radixSort_322 : decode cX2_radixSort 322 = .ok (.iload 12, 2) := dk_21 12 (dk_at dksX2_radixSort_13 14 rfl rfl)
theorem dX2_radixSort_324 : decode cX2_radixSort 324 = .ok (.i2l, 1) := dk_133 (dk_at dksX2_radixSort_13 16 rfl rfl)
theorem dX2_radixSort_325 : decode cX2_radixSort 325 = .ok (.lxor, 1) := dk_131 (dk_at dksX2_radixSort_13 17 rfl rfl)
theorem dX2_radixSort_326 : decode cX2_radixSort 326 = .ok (.l2i, 1) := dk_136 (dk_at dksX2_radixSort_13 18 rfl rfl)
theorem dX2_radixSort_327 : decode cX2_radixSort 327 = .ok (.istore 17, 2) := dk_54 17 (dk_at dksX2_radixSort_13 19 rfl rfl)
theorem dX2_radixSort_329 : decode cX2_radixSort 329 = .ok (.goto (-50), 3) := dk_167 255 206 (dk_at dksX2_radixSort_13 21 rfl rfl)
theorem dX2_radixSort_332 : decode cX2_radixSort 332 = .ok (.aload_n 0, 1) := dk_42 (dk_at dksX2_radixSort_14 0 rfl rfl)
theorem dX2_radixSort_333 : decode cX2_radixSort 333 = .ok (.iload 16, 2) := dk_21 16 (dk_at dksX2_radixSort_14 1 rfl rfl)
theorem dX2_radixSort_335 : decode cX2_radixSort 335 = .ok (.lload 19, 2) := dk_22 19 (dk_at dksX2_radixSort_14 3 rfl rfl)
theorem dX2_radixSort_337 : decode cX2_radixSort 337 = .ok (.lastore, 1) := dk_80 (dk_at dksX2_radixSort_14 5 rfl rfl)
theorem dX2_radixSort_338 : decode cX2_radixSort 338 = .ok (.iload 11, 2) := dk_21 11 (dk_at dksX2_radixSort_14 6 rfl rfl)
theorem dX2_radixSort_340 : decode cX2_radixSort 340 = .ok (.bipush 7, 2) := dk_16 7 (dk_at dksX2_radixSort_14 8 rfl rfl)
theorem dX2_radixSort_342 : decode cX2_radixSort 342 = .ok (.if_icmp .ge 66, 3) := dk_162 0 66 (dk_at dksX2_radixSort_14 10 rfl rfl)
theorem dX2_radixSort_345 : decode cX2_radixSort 345 = .ok (.aload 7, 2) := dk_25 7 (dk_at dksX2_radixSort_14 13 rfl rfl)
theorem dX2_radixSort_347 : decode cX2_radixSort 347 = .ok (.iload 17, 2) := dk_21 17 (dk_at dksX2_radixSort_14 15 rfl rfl)
theorem dX2_radixSort_349 : decode cX2_radixSort 349 = .ok (.iaload, 1) := dk_46 (dk_at dksX2_radixSort_14 17 rfl rfl)
theorem dX2_radixSort_350 : decode cX2_radixSort 350 = .ok (.iconst 1, 1) := dk_4 (dk_at dksX2_radixSort_14 18 rfl rfl)
theorem dX2_radixSort_351 : decode cX2_radixSort 351 = .ok (.if_icmp .le 57, 3) := dk_164 0 57 (dk_at dksX2_radixSort_14 19 rfl rfl)
theorem dX2_radixSort_354 : decode cX2_radixSort 354 = .ok (.aload 7, 2) := dk_25 7 (dk_at dksX2_radixSort_14 22 rfl rfl)
theorem dX2_radixSort_356 : decode cX2_radixSort 356 = .ok (.iload 17, 2) := dk_21 17 (dk_at dksX2_radixSort_15 0 rfl rfl)
theorem dX2_radixSort_358 : decode cX2_radixSort 358 = .ok (.iaload, 1) := dk_46 (dk_at dksX2_radixSort_15 2 rfl rfl)
theorem dX2_radixSort_359 : decode cX2_radixSort 359 = .ok (.sipush 1024, 3) := dk_17 4 0 (dk_at dksX2_radixSort_15 3 rfl rfl)
theorem dX2_radixSort_362 : decode cX2_radixSort 362 = .ok (.if_icmp .ge 20, 3) := dk_162 0 20 (dk_at dksX2_radixSort_15 6 rfl rfl)
theorem dX2_radixSort_365 : decode cX2_radixSort 365 = .ok (.aload_n 0, 1) := dk_42 (dk_at dksX2_radixSort_15 9 rfl rfl)
theorem dX2_radixSort_366 : decode cX2_radixSort 366 = .ok (.iload 16, 2) := dk_21 16 (dk_at dksX2_radixSort_15 10 rfl rfl)
theorem dX2_radixSort_368 : decode cX2_radixSort 368 = .ok (.iload 16, 2) := dk_21 16 (dk_at dksX2_radixSort_15 12 rfl rfl)
theorem dX2_radixSort_370 : decode cX2_radixSort 370 = .ok (.aload 7, 2) := dk_25 7 (dk_at dksX2_radixSort_15 14 rfl rfl)
theorem dX2_radixSort_372 : decode cX2_radixSort 372 = .ok (.iload 17, 2) := dk_21 17 (dk_at dksX2_radixSort_15 16 rfl rfl)
theorem dX2_radixSort_374 : decode cX2_radixSort 374 = .ok (.iaload, 1) := dk_46 (dk_at dksX2_radixSort_15 18 rfl rfl)
theorem dX2_radixSort_375 : decode cX2_radixSort 375 = .ok (.iadd, 1) := dk_96 (dk_at dksX2_radixSort_15 19 rfl rfl)
theorem dX2_radixSort_376 : decode cX2_radixSort 376 = .ok (.invokestatic 29, 3) := dk_184 0 29 (dk_at dksX2_radixSort_15 20 rfl rfl)
theorem dX2_radixSort_379 : decode cX2_radixSort 379 = .ok (.goto 29, 3) := dk_167 0 29 (dk_at dksX2_radixSort_16 0 rfl rfl)
theorem dX2_radixSort_382 : decode cX2_radixSort 382 = .ok (.aload 4, 2) := dk_25 4 (dk_at dksX2_radixSort_16 3 rfl rfl)
theorem dX2_radixSort_384 : decode cX2_radixSort 384 = .ok (.iload_n 3, 1) := dk_29 (dk_at dksX2_radixSort_16 5 rfl rfl)
theorem dX2_radixSort_385 : decode cX2_radixSort 385 = .ok (.iload 16, 2) := dk_21 16 (dk_at dksX2_radixSort_16 6 rfl rfl)
theorem dX2_radixSort_387 : decode cX2_radixSort 387 = .ok (.iastore, 1) := dk_79 (dk_at dksX2_radixSort_16 8 rfl rfl)
theorem dX2_radixSort_388 : decode cX2_radixSort 388 = .ok (.aload 5, 2) := dk_25 5 (dk_at dksX2_radixSort_16 9 rfl rfl)
theorem dX2_radixSort_390 : decode cX2_radixSort 390 = .ok (.iload_n 3, 1) := dk_29 (dk_at dksX2_radixSort_16 11 rfl rfl)
theorem dX2_radixSort_391 : decode cX2_radixSort 391 = .ok (.aload 7, 2) := dk_25 7 (dk_at dksX2_radixSort_16 12 rfl rfl)
theorem dX2_radixSort_393 : decode cX2_radixSort 393 = .ok (.iload 17, 2) := dk_21 17 (dk_at dksX2_radixSort_16 14 rfl rfl)
theorem dX2_radixSort_395 : decode cX2_radixSort 395 = .ok (.iaload, 1) := dk_46 (dk_at dksX2_radixSort_16 16 rfl rfl)
theorem dX2_radixSort_396 : decode cX2_radixSort 396 = .ok (.iastore, 1) := dk_79 (dk_at dksX2_radixSort_16 17 rfl rfl)
theorem dX2_radixSort_397 : decode cX2_radixSort 397 = .ok (.aload 6, 2) := dk_25 6 (dk_at dksX2_radixSort_16 18 rfl rfl)
theorem dX2_radixSort_399 : decode cX2_radixSort 399 = .ok (.iload_n 3, 1) := dk_29 (dk_at dksX2_radixSort_16 20 rfl rfl)
theorem dX2_radixSort_400 : decode cX2_radixSort 400 = .ok (.iinc 3 1, 3) := dk_132 3 1 (dk_at dksX2_radixSort_16 21 rfl rfl)
theorem dX2_radixSort_403 : decode cX2_radixSort 403 = .ok (.iload 11, 2) := dk_21 11 (dk_at dksX2_radixSort_17 0 rfl rfl)
theorem dX2_radixSort_405 : decode cX2_radixSort 405 = .ok (.iconst 1, 1) := dk_4 (dk_at dksX2_radixSort_17 2 rfl rfl)
theorem dX2_radixSort_406 : decode cX2_radixSort 406 = .ok (.iadd, 1) := dk_96 (dk_at dksX2_radixSort_17 3 rfl rfl)
theorem dX2_radixSort_407 : decode cX2_radixSort 407 = .ok (.iastore, 1) := dk_79 (dk_at dksX2_radixSort_17 4 rfl rfl)
theorem dX2_radixSort_408 : decode cX2_radixSort 408 = .ok (.iload 16, 2) := dk_21 16 (dk_at dksX2_radixSort_17 5 rfl rfl)
theorem dX2_radixSort_410 : decode cX2_radixSort 410 = .ok (.aload 7, 2) := dk_25 7 (dk_at dksX2_radixSort_17 7 rfl rfl)
theorem dX2_radixSort_412 : decode cX2_radixSort 412 = .ok (.iload 17, 2) := dk_21 17 (dk_at dksX2_radixSort_17 9 rfl rfl)
theorem dX2_radixSort_414 : decode cX2_radixSort 414 = .ok (.iaload, 1) := dk_46 (dk_at dksX2_radixSort_17 11 rfl rfl)
theorem dX2_radixSort_415 : decode cX2_radixSort 415 = .ok (.iadd, 1) := dk_96 (dk_at dksX2_radixSort_17 12 rfl rfl)
theorem dX2_radixSort_416 : decode cX2_radixSort 416 = .ok (.istore 16, 2) := dk_54 16 (dk_at dksX2_radixSort_17 13 rfl rfl)
theorem dX2_radixSort_418 : decode cX2_radixSort 418 = .ok (.aload 7, 2) := dk_25 7 (dk_at dksX2_radixSort_17 15 rfl rfl)
theorem dX2_radixSort_420 : decode cX2_radixSort 420 = .ok (.iload 17, 2) := dk_21 17 (dk_at dksX2_radixSort_17 17 rfl rfl)
theorem dX2_radixSort_422 : decode cX2_radixSort 422 = .ok (.iconst 0, 1) := dk_3 (dk_at dksX2_radixSort_17 19 rfl rfl)
theorem dX2_radixSort_423 : decode cX2_radixSort 423 = .ok (.iastore, 1) := dk_79 (dk_at dksX2_radixSort_17 20 rfl rfl)
theorem dX2_radixSort_424 : decode cX2_radixSort 424 = .ok (.goto (-181), 3) := dk_167 255 75 (dk_at dksX2_radixSort_17 21 rfl rfl)
theorem dX2_radixSort_427 : decode cX2_radixSort 427 = .ok (.goto (-354), 3) := dk_167 254 158 (dk_at dksX2_radixSort_18 0 rfl rfl)
theorem dX2_radixSort_430 : decode cX2_radixSort 430 = .ok (.return_, 1) := dk_177 (dk_at dksX2_radixSort_18 3 rfl rfl)
abbrev cX2_binarySearch : ByteArray := prog_1_method_9_code
def yX2_binarySearch : MethodName := ⟨RX2, "binarySearch", "([JIIJ)I"⟩
def dkwX2_binarySearch_2 : List UInt8 := [167, 0, 6, 21, 7, 172, 167, 255, 205, 27, 4, 96, 116, 172]
abbrev dktX2_binarySearch_2 : List UInt8 := dkwX2_binarySearch_2 ++ []
def dkwX2_binarySearch_1 : List UInt8 := [148, 156, 0, 11, 21, 7, 4, 96, 60, 167, 0, 21, 22, 5, 33, 148, 158, 0, 11, 21, 7, 4, 100, 61]
abbrev dktX2_binarySearch_1 : List UInt8 := dkwX2_binarySearch_1 ++ dktX2_binarySearch_2
def dkwX2_binarySearch_0 : List UInt8 := [132, 2, 255, 27, 28, 163, 0, 52, 27, 28, 96, 4, 124, 54, 7, 42, 21, 7, 47, 55, 5, 22, 5, 33]
abbrev dktX2_binarySearch_0 : List UInt8 := dkwX2_binarySearch_0 ++ dktX2_binarySearch_1
theorem dksX2_binarySearch_0 : cX2_binarySearch.data.toList.drop 0 = dktX2_binarySearch_0 := by decide +kernel
theorem dksX2_binarySearch_1 : cX2_binarySearch.data.toList.drop 24 = dktX2_binarySearch_1 := dk_seg dksX2_binarySearch_0 24 rfl rfl
theorem dksX2_binarySearch_2 : cX2_binarySearch.data.toList.drop 48 = dktX2_binarySearch_2 := dk_seg dksX2_binarySearch_1 24 rfl rfl
theorem dX2_binarySearch_0 : decode cX2_binarySearch 0 = .ok (.iinc 2 (-1), 3) := dk_132 2 255 (dk_at dksX2_binarySearch_0 0 rfl rfl)
theorem dX2_binarySearch_3 : decode cX2_binarySearch 3 = .ok (.iload_n 1, 1) := dk_27 (dk_at dksX2_binarySearch_0 3 rfl rfl)
theorem dX2_binarySearch_4 : decode cX2_binarySearch 4 = .ok (.iload_n 2, 1) := dk_28 (dk_at dksX2_binarySearch_0 4 rfl rfl)
theorem dX2_binarySearch_5 : decode cX2_binarySearch 5 = .ok (.if_icmp .gt 52, 3) := dk_163 0 52 (dk_at dksX2_binarySearch_0 5 rfl rfl)
theorem dX2_binarySearch_8 : decode cX2_binarySearch 8 = .ok (.iload_n 1, 1) := dk_27 (dk_at dksX2_binarySearch_0 8 rfl rfl)
theorem dX2_binarySearch_9 : decode cX2_binarySearch 9 = .ok (.iload_n 2, 1) := dk_28 (dk_at dksX2_binarySearch_0 9 rfl rfl)
theorem dX2_binarySearch_10 : decode cX2_binarySearch 10 = .ok (.iadd, 1) := dk_96 (dk_at dksX2_binarySearch_0 10 rfl rfl)
theorem dX2_binarySearch_11 : decode cX2_binarySearch 11 = .ok (.iconst 1, 1) := dk_4 (dk_at dksX2_binarySearch_0 11 rfl rfl)
theorem dX2_binarySearch_12 : decode cX2_binarySearch 12 = .ok (.iushr, 1) := dk_124 (dk_at dksX2_binarySearch_0 12 rfl rfl)
theorem dX2_binarySearch_13 : decode cX2_binarySearch 13 = .ok (.istore 7, 2) := dk_54 7 (dk_at dksX2_binarySearch_0 13 rfl rfl)
theorem dX2_binarySearch_15 : decode cX2_binarySearch 15 = .ok (.aload_n 0, 1) := dk_42 (dk_at dksX2_binarySearch_0 15 rfl rfl)
theorem dX2_binarySearch_16 : decode cX2_binarySearch 16 = .ok (.iload 7, 2) := dk_21 7 (dk_at dksX2_binarySearch_0 16 rfl rfl)
theorem dX2_binarySearch_18 : decode cX2_binarySearch 18 = .ok (.laload, 1) := dk_47 (dk_at dksX2_binarySearch_0 18 rfl rfl)
theorem dX2_binarySearch_19 : decode cX2_binarySearch 19 = .ok (.lstore 5, 2) := dk_55 5 (dk_at dksX2_binarySearch_0 19 rfl rfl)
theorem dX2_binarySearch_21 : decode cX2_binarySearch 21 = .ok (.lload 5, 2) := dk_22 5 (dk_at dksX2_binarySearch_0 21 rfl rfl)
theorem dX2_binarySearch_23 : decode cX2_binarySearch 23 = .ok (.lload_n 3, 1) := dk_33 (dk_at dksX2_binarySearch_0 23 rfl rfl)
theorem dX2_binarySearch_24 : decode cX2_binarySearch 24 = .ok (.lcmp, 1) := dk_148 (dk_at dksX2_binarySearch_1 0 rfl rfl)
theorem dX2_binarySearch_25 : decode cX2_binarySearch 25 = .ok (.ifCond .ge 11, 3) := dk_156 0 11 (dk_at dksX2_binarySearch_1 1 rfl rfl)
theorem dX2_binarySearch_28 : decode cX2_binarySearch 28 = .ok (.iload 7, 2) := dk_21 7 (dk_at dksX2_binarySearch_1 4 rfl rfl)
theorem dX2_binarySearch_30 : decode cX2_binarySearch 30 = .ok (.iconst 1, 1) := dk_4 (dk_at dksX2_binarySearch_1 6 rfl rfl)
theorem dX2_binarySearch_31 : decode cX2_binarySearch 31 = .ok (.iadd, 1) := dk_96 (dk_at dksX2_binarySearch_1 7 rfl rfl)
theorem dX2_binarySearch_32 : decode cX2_binarySearch 32 = .ok (.istore_n 1, 1) := dk_60 (dk_at dksX2_binarySearch_1 8 rfl rfl)
theorem dX2_binarySearch_33 : decode cX2_binarySearch 33 = .ok (.goto 21, 3) := dk_167 0 21 (dk_at dksX2_binarySearch_1 9 rfl rfl)
theorem dX2_binarySearch_36 : decode cX2_binarySearch 36 = .ok (.lload 5, 2) := dk_22 5 (dk_at dksX2_binarySearch_1 12 rfl rfl)
theorem dX2_binarySearch_38 : decode cX2_binarySearch 38 = .ok (.lload_n 3, 1) := dk_33 (dk_at dksX2_binarySearch_1 14 rfl rfl)
theorem dX2_binarySearch_39 : decode cX2_binarySearch 39 = .ok (.lcmp, 1) := dk_148 (dk_at dksX2_binarySearch_1 15 rfl rfl)
theorem dX2_binarySearch_40 : decode cX2_binarySearch 40 = .ok (.ifCond .le 11, 3) := dk_158 0 11 (dk_at dksX2_binarySearch_1 16 rfl rfl)
theorem dX2_binarySearch_43 : decode cX2_binarySearch 43 = .ok (.iload 7, 2) := dk_21 7 (dk_at dksX2_binarySearch_1 19 rfl rfl)
theorem dX2_binarySearch_45 : decode cX2_binarySearch 45 = .ok (.iconst 1, 1) := dk_4 (dk_at dksX2_binarySearch_1 21 rfl rfl)
theorem dX2_binarySearch_46 : decode cX2_binarySearch 46 = .ok (.isub, 1) := dk_100 (dk_at dksX2_binarySearch_1 22 rfl rfl)
theorem dX2_binarySearch_47 : decode cX2_binarySearch 47 = .ok (.istore_n 2, 1) := dk_61 (dk_at dksX2_binarySearch_1 23 rfl rfl)
theorem dX2_binarySearch_48 : decode cX2_binarySearch 48 = .ok (.goto 6, 3) := dk_167 0 6 (dk_at dksX2_binarySearch_2 0 rfl rfl)
theorem dX2_binarySearch_51 : decode cX2_binarySearch 51 = .ok (.iload 7, 2) := dk_21 7 (dk_at dksX2_binarySearch_2 3 rfl rfl)
theorem dX2_binarySearch_53 : decode cX2_binarySearch 53 = .ok (.ireturn, 1) := dk_172 (dk_at dksX2_binarySearch_2 5 rfl rfl)
theorem dX2_binarySearch_54 : decode cX2_binarySearch 54 = .ok (.goto (-51), 3) := dk_167 255 205 (dk_at dksX2_binarySearch_2 6 rfl rfl)
theorem dX2_binarySearch_57 : decode cX2_binarySearch 57 = .ok (.iload_n 1, 1) := dk_27 (dk_at dksX2_binarySearch_2 9 rfl rfl)
theorem dX2_binarySearch_58 : decode cX2_binarySearch 58 = .ok (.iconst 1, 1) := dk_4 (dk_at dksX2_binarySearch_2 10 rfl rfl)
theorem dX2_binarySearch_59 : decode cX2_binarySearch 59 = .ok (.iadd, 1) := dk_96 (dk_at dksX2_binarySearch_2 11 rfl rfl)
theorem dX2_binarySearch_60 : decode cX2_binarySearch 60 = .ok (.ineg, 1) := dk_116 (dk_at dksX2_binarySearch_2 12 rfl rfl)
theorem dX2_binarySearch_61 : decode cX2_binarySearch 61 = .ok (.ireturn, 1) := dk_172 (dk_at dksX2_binarySearch_2 13 rfl rfl)
theorem q9 : (Jvm.Cond.initialized "LongArrays") ∈ lw_all := lw_g (lw_at lw_m0 3 rfl) rfl
theorem q57 : (Jvm.Cond.static ({ cls := "LongArrays", name := "quickSort", desc := "([JII)V" } : Jvm.MethodName)) ∈ lw_all := lw_g (lw_at lw_m0 51 rfl) rfl
theorem q58 : (Jvm.Cond.code ({ cls := "LongArrays", name := "quickSort", desc := "([JII)V" } : Jvm.MethodName) prog_1_method_6_code (14 : Nat) (Option.none : Option Jvm.ClassFile.FieldType)) ∈ lw_all := lw_g (lw_at lw_m0 52 rfl) rfl
theorem q59 : (Jvm.Cond.methodLink "LongArrays" (13 : Nat) ({ cls := "LongArrays", name := "selectionSort", desc := "([JII)V" } : Jvm.MethodName)) ∈ lw_all := lw_g (lw_at lw_m0 53 rfl) rfl
theorem q60 : (Jvm.Cond.static ({ cls := "LongArrays", name := "selectionSort", desc := "([JII)V" } : Jvm.MethodName)) ∈ lw_all := lw_g (lw_at lw_m0 54 rfl) rfl
theorem q61 : (Jvm.Cond.code ({ cls := "LongArrays", name := "selectionSort", desc := "([JII)V" } : Jvm.MethodName) prog_1_method_4_code (7 : Nat) (Option.none : Option Jvm.ClassFile.FieldType)) ∈ lw_all := lw_g (lw_at lw_m0 55 rfl) rfl
theorem q62 : (Jvm.Cond.methodLink "LongArrays" (16 : Nat) ({ cls := "LongArrays", name := "med3", desc := "([JIII)I" } : Jvm.MethodName)) ∈ lw_all := lw_g (lw_at lw_m0 56 rfl) rfl
theorem q63 : (Jvm.Cond.static ({ cls := "LongArrays", name := "med3", desc := "([JIII)I" } : Jvm.MethodName)) ∈ lw_all := lw_g (lw_at lw_m0 57 rfl) rfl
theorem q64 : (Jvm.Cond.code ({ cls := "LongArrays", name := "med3", desc := "([JIII)I" } : Jvm.MethodName) prog_1_method_3_code (7 : Nat) (Option.some Jvm.ClassFile.FieldType.int)) ∈ lw_all := lw_g (lw_at lw_m0 58 rfl) rfl
theorem q65 : (Jvm.Cond.methodLink "LongArrays" (9 : Nat) ({ cls := "java/lang/Long", name := "compare", desc := "(JJ)I" } : Jvm.MethodName)) ∈ lw_all := lw_g (lw_at lw_m0 59 rfl) rfl
theorem q68 : (Jvm.Cond.methodLink "LongArrays" (5 : Nat) ({ cls := "LongArrays", name := "swap", desc := "([JII)V" } : Jvm.MethodName)) ∈ lw_all := lw_g (lw_at lw_m0 62 rfl) rfl
theorem q69 : (Jvm.Cond.static ({ cls := "LongArrays", name := "swap", desc := "([JII)V" } : Jvm.MethodName)) ∈ lw_all := lw_g (lw_at lw_m0 63 rfl) rfl
theorem q70 : (Jvm.Cond.code ({ cls := "LongArrays", name := "swap", desc := "([JII)V" } : Jvm.MethodName) prog_1_method_1_code (5 : Nat) (Option.none : Option Jvm.ClassFile.FieldType)) ∈ lw_all := lw_g (lw_at lw_m0 64 rfl) rfl
theorem q71 : (Jvm.Cond.methodLink "LongArrays" (20 : Nat) ({ cls := "java/lang/Math", name := "min", desc := "(II)I" } : Jvm.MethodName)) ∈ lw_all := lw_g (lw_at lw_m0 65 rfl) rfl
theorem q74 : (Jvm.Cond.methodLink "LongArrays" (26 : Nat) ({ cls := "LongArrays", name := "swap", desc := "([JIII)V" } : Jvm.MethodName)) ∈ lw_all := lw_g (lw_at lw_m0 68 rfl) rfl
theorem q75 : (Jvm.Cond.static ({ cls := "LongArrays", name := "swap", desc := "([JIII)V" } : Jvm.MethodName)) ∈ lw_all := lw_g (lw_at lw_m0 69 rfl) rfl
theorem q76 : (Jvm.Cond.code ({ cls := "LongArrays", name := "swap", desc := "([JIII)V" } : Jvm.MethodName) prog_1_method_2_code (5 : Nat) (Option.none : Option Jvm.ClassFile.FieldType)) ∈ lw_all := lw_g (lw_at lw_m0 70 rfl) rfl
theorem q77 : (Jvm.Cond.methodLink "LongArrays" (29 : Nat) ({ cls := "LongArrays", name := "quickSort", desc := "([JII)V" } : Jvm.MethodName)) ∈ lw_all := lw_g (lw_at lw_m0 71 rfl) rfl
theorem q83 : (Jvm.Cond.static ({ cls := "LongArrays", name := "mergeSort", desc := "([JII)V" } : Jvm.MethodName)) ∈ lw_all := lw_g (lw_at lw_m0 77 rfl) rfl
theorem q84 : (Jvm.Cond.code ({ cls := "LongArrays", name := "mergeSort", desc := "([JII)V" } : Jvm.MethodName) prog_1_method_8_code (3 : Nat) (Option.none : Option Jvm.ClassFile.FieldType)) ∈ lw_all := lw_g (lw_at lw_m0 78 rfl) rfl
theorem q85 : (Jvm.Cond.classLink "LongArrays" (51 : Nat) "[J") ∈ lw_all := lw_g (lw_at lw_m0 79 rfl) rfl
theorem q86 : (Jvm.Cond.methodLink "LongArrays" (41 : Nat) ({ cls := "LongArrays", name := "mergeSort", desc := "([JII[J)V" } : Jvm.MethodName)) ∈ lw_all := lw_g (lw_at lw_m0 80 rfl) rfl
theorem q87 : (Jvm.Cond.static ({ cls := "LongArrays", name := "mergeSort", desc := "([JII[J)V" } : Jvm.MethodName)) ∈ lw_all := lw_g (lw_at lw_m0 81 rfl) rfl
theorem q88 : (Jvm.Cond.code ({ cls := "LongArrays", name := "mergeSort", desc := "([JII[J)V" } : Jvm.MethodName) prog_1_method_7_code (9 : Nat) (Option.none : Option Jvm.ClassFile.FieldType)) ∈ lw_all := lw_g (lw_at lw_m0 82 rfl) rfl
theorem q89 : (Jvm.Cond.methodLink "LongArrays" (32 : Nat) ({ cls := "LongArrays", name := "insertionSort", desc := "([JII)V" } : Jvm.MethodName)) ∈ lw_all := lw_g (lw_at lw_m0 83 rfl) rfl
theorem q90 : (Jvm.Cond.static ({ cls := "LongArrays", name := "insertionSort", desc := "([JII)V" } : Jvm.MethodName)) ∈ lw_all := lw_g (lw_at lw_m0 84 rfl) rfl
theorem q91 : (Jvm.Cond.code ({ cls := "LongArrays", name := "insertionSort", desc := "([JII)V" } : Jvm.MethodName) prog_1_method_5_code (9 : Nat) (Option.none : Option Jvm.ClassFile.FieldType)) ∈ lw_all := lw_g (lw_at lw_m0 85 rfl) rfl
theorem q92 : (Jvm.Cond.methodLink "LongArrays" (35 : Nat) ({ cls := "java/util/Arrays", name := "copyOf", desc := "([JI)[J" } : Jvm.MethodName)) ∈ lw_all := lw_g (lw_at lw_m0 86 rfl) rfl
theorem q106 : (Jvm.Cond.methodLink "LongArrays" (45 : Nat) ({ cls := "java/lang/System", name := "arraycopy", desc := "(Ljava/lang/Object;ILjava/lang/Object;II)V" } : Jvm.MethodName)) ∈ lw_all := lw_g (lw_at lw_m0 100 rfl) rfl
theorem q112 : (Jvm.Cond.static ({ cls := "LongArrays", name := "radixSort", desc := "([JII)V" } : Jvm.MethodName)) ∈ lw_all := lw_g (lw_at lw_m0 106 rfl) rfl
theorem q113 : (Jvm.Cond.code ({ cls := "LongArrays", name := "radixSort", desc := "([JII)V" } : Jvm.MethodName) prog_1_method_10_code (23 : Nat) (Option.none : Option Jvm.ClassFile.FieldType)) ∈ lw_all := lw_g (lw_at lw_m0 107 rfl) rfl
theorem q114 : (Jvm.Cond.constantLong "LongArrays" (53 : Nat) (255 : Int64)) ∈ lw_all := lw_g (lw_at lw_m0 108 rfl) rfl
theorem q125 : (Jvm.Cond.static ({ cls := "LongArrays", name := "binarySearch", desc := "([JIIJ)I" } : Jvm.MethodName)) ∈ lw_all := lw_g (lw_at lw_m0 119 rfl) rfl
theorem q126 : (Jvm.Cond.code ({ cls := "LongArrays", name := "binarySearch", desc := "([JIIJ)I" } : Jvm.MethodName) prog_1_method_9_code (8 : Nat) (Option.some Jvm.ClassFile.FieldType.int)) ∈ lw_all := lw_g (lw_at lw_m0 120 rfl) rfl
end
section
/-! LongSortDesk -/
set_option maxRecDepth 100000
def RX0 : String := "LongSortDesk"
def TX0 : u_T := fun k => match k with
  | 0 => ("LongSortDesk", "rows", "[J", true)
  | _ => ("LongSortDesk", "size", "I", false)
def tyX0 : Nat → FieldType := fun k => match k with
  | 0 => .array .long
  | _ => .int
abbrev wsX00 : List Cond := u_ws RX0 TX0 2
theorem nmX0 : ∀ a, a < 2 → ∀ b, b < 2 → a ≠ b → (TX0 a).2.1 ≠ (TX0 b).2.1 := by decide +kernel
theorem tyX0_ok : ∀ k, k < 2 → parseFieldDescriptor (TX0 k).2.2.1 = some (tyX0 k) := by decide +kernel
abbrev cX0_init : ByteArray := prog_2_method_1_code
def yX0_init : MethodName := ⟨RX0, "<init>", "()V"⟩
def dkwX0_init_0 : List UInt8 := [42, 183, 0, 1, 42, 17, 16, 0, 188, 11, 181, 0, 7, 177]
abbrev dktX0_init_0 : List UInt8 := dkwX0_init_0 ++ []
theorem dksX0_init_0 : cX0_init.data.toList.drop 0 = dktX0_init_0 := by decide +kernel
theorem dX0_init_0 : decode cX0_init 0 = .ok (.aload_n 0, 1) := dk_42 (dk_at dksX0_init_0 0 rfl rfl)
theorem dX0_init_1 : decode cX0_init 1 = .ok (.invokespecial 1, 3) := dk_183 0 1 (dk_at dksX0_init_0 1 rfl rfl)
theorem dX0_init_4 : decode cX0_init 4 = .ok (.aload_n 0, 1) := dk_42 (dk_at dksX0_init_0 4 rfl rfl)
theorem dX0_init_5 : decode cX0_init 5 = .ok (.sipush 4096, 3) := dk_17 16 0 (dk_at dksX0_init_0 5 rfl rfl)
theorem dX0_init_8 : decode cX0_init 8 = .ok (.newarray .long, 2) := dk_188_11 (dk_at dksX0_init_0 8 rfl rfl)
theorem dX0_init_10 : decode cX0_init 10 = .ok (.putfield 7, 3) := dk_181 0 7 (dk_at dksX0_init_0 10 rfl rfl)
theorem dX0_init_13 : decode cX0_init 13 = .ok (.return_, 1) := dk_177 (dk_at dksX0_init_0 13 rfl rfl)
abbrev cX0_put : ByteArray := prog_2_method_3_code
def yX0_put : MethodName := ⟨RX0, "put", "(II)Z"⟩
def dkwX0_put_1 : List UInt8 := [181, 0, 15, 27, 28, 184, 0, 19, 80, 4, 172]
abbrev dktX0_put_1 : List UInt8 := dkwX0_put_1 ++ []
def dkwX0_put_0 : List UInt8 := [42, 180, 0, 15, 17, 16, 0, 161, 0, 5, 3, 172, 42, 180, 0, 7, 42, 89, 180, 0, 15, 90, 4, 96]
abbrev dktX0_put_0 : List UInt8 := dkwX0_put_0 ++ dktX0_put_1
theorem dksX0_put_0 : cX0_put.data.toList.drop 0 = dktX0_put_0 := by decide +kernel
theorem dksX0_put_1 : cX0_put.data.toList.drop 24 = dktX0_put_1 := dk_seg dksX0_put_0 24 rfl rfl
theorem dX0_put_0 : decode cX0_put 0 = .ok (.aload_n 0, 1) := dk_42 (dk_at dksX0_put_0 0 rfl rfl)
theorem dX0_put_1 : decode cX0_put 1 = .ok (.getfield 15, 3) := dk_180 0 15 (dk_at dksX0_put_0 1 rfl rfl)
theorem dX0_put_4 : decode cX0_put 4 = .ok (.sipush 4096, 3) := dk_17 16 0 (dk_at dksX0_put_0 4 rfl rfl)
theorem dX0_put_7 : decode cX0_put 7 = .ok (.if_icmp .lt 5, 3) := dk_161 0 5 (dk_at dksX0_put_0 7 rfl rfl)
theorem dX0_put_10 : decode cX0_put 10 = .ok (.iconst 0, 1) := dk_3 (dk_at dksX0_put_0 10 rfl rfl)
theorem dX0_put_11 : decode cX0_put 11 = .ok (.ireturn, 1) := dk_172 (dk_at dksX0_put_0 11 rfl rfl)
theorem dX0_put_12 : decode cX0_put 12 = .ok (.aload_n 0, 1) := dk_42 (dk_at dksX0_put_0 12 rfl rfl)
theorem dX0_put_13 : decode cX0_put 13 = .ok (.getfield 7, 3) := dk_180 0 7 (dk_at dksX0_put_0 13 rfl rfl)
theorem dX0_put_16 : decode cX0_put 16 = .ok (.aload_n 0, 1) := dk_42 (dk_at dksX0_put_0 16 rfl rfl)
theorem dX0_put_17 : decode cX0_put 17 = .ok (.dup, 1) := dk_89 (dk_at dksX0_put_0 17 rfl rfl)
theorem dX0_put_18 : decode cX0_put 18 = .ok (.getfield 15, 3) := dk_180 0 15 (dk_at dksX0_put_0 18 rfl rfl)
theorem dX0_put_21 : decode cX0_put 21 = .ok (.dup_x1, 1) := dk_90 (dk_at dksX0_put_0 21 rfl rfl)
theorem dX0_put_22 : decode cX0_put 22 = .ok (.iconst 1, 1) := dk_4 (dk_at dksX0_put_0 22 rfl rfl)
theorem dX0_put_23 : decode cX0_put 23 = .ok (.iadd, 1) := dk_96 (dk_at dksX0_put_0 23 rfl rfl)
theorem dX0_put_24 : decode cX0_put 24 = .ok (.putfield 15, 3) := dk_181 0 15 (dk_at dksX0_put_1 0 rfl rfl)
theorem dX0_put_27 : decode cX0_put 27 = .ok (.iload_n 1, 1) := dk_27 (dk_at dksX0_put_1 3 rfl rfl)
theorem dX0_put_28 : decode cX0_put 28 = .ok (.iload_n 2, 1) := dk_28 (dk_at dksX0_put_1 4 rfl rfl)
theorem dX0_put_29 : decode cX0_put 29 = .ok (.invokestatic 19, 3) := dk_184 0 19 (dk_at dksX0_put_1 5 rfl rfl)
theorem dX0_put_32 : decode cX0_put 32 = .ok (.lastore, 1) := dk_80 (dk_at dksX0_put_1 8 rfl rfl)
theorem dX0_put_33 : decode cX0_put 33 = .ok (.iconst 1, 1) := dk_4 (dk_at dksX0_put_1 9 rfl rfl)
theorem dX0_put_34 : decode cX0_put 34 = .ok (.ireturn, 1) := dk_172 (dk_at dksX0_put_1 10 rfl rfl)
abbrev cX0_wide : ByteArray := prog_2_method_2_code
def yX0_wide : MethodName := ⟨RX0, "wide", "(II)J"⟩
def dkwX0_wide_0 : List UInt8 := [26, 133, 16, 32, 121, 27, 133, 20, 0, 13, 127, 129, 173]
abbrev dktX0_wide_0 : List UInt8 := dkwX0_wide_0 ++ []
theorem dksX0_wide_0 : cX0_wide.data.toList.drop 0 = dktX0_wide_0 := by decide +kernel
theorem dX0_wide_0 : decode cX0_wide 0 = .ok (.iload_n 0, 1) := dk_26 (dk_at dksX0_wide_0 0 rfl rfl)
theorem dX0_wide_1 : decode cX0_wide 1 = .ok (.i2l, 1) := dk_133 (dk_at dksX0_wide_0 1 rfl rfl)
theorem dX0_wide_2 : decode cX0_wide 2 = .ok (.bipush 32, 2) := dk_16 32 (dk_at dksX0_wide_0 2 rfl rfl)
theorem dX0_wide_4 : decode cX0_wide 4 = .ok (.lshl, 1) := dk_121 (dk_at dksX0_wide_0 4 rfl rfl)
theorem dX0_wide_5 : decode cX0_wide 5 = .ok (.iload_n 1, 1) := dk_27 (dk_at dksX0_wide_0 5 rfl rfl)
theorem dX0_wide_6 : decode cX0_wide 6 = .ok (.i2l, 1) := dk_133 (dk_at dksX0_wide_0 6 rfl rfl)
theorem dX0_wide_7 : decode cX0_wide 7 = .ok (.ldc2_w 13, 3) := dk_20 0 13 (dk_at dksX0_wide_0 7 rfl rfl)
theorem dX0_wide_10 : decode cX0_wide 10 = .ok (.land, 1) := dk_127 (dk_at dksX0_wide_0 10 rfl rfl)
theorem dX0_wide_11 : decode cX0_wide 11 = .ok (.lor, 1) := dk_129 (dk_at dksX0_wide_0 11 rfl rfl)
theorem dX0_wide_12 : decode cX0_wide 12 = .ok (.lreturn, 1) := dk_173 (dk_at dksX0_wide_0 12 rfl rfl)
abbrev cX0_ramp : ByteArray := prog_2_method_4_code
def yX0_ramp : MethodName := ⟨RX0, "ramp", "(IIII)I"⟩
def dkwX0_ramp_3 : List UInt8 := [20, 0, 24, 105, 97, 80, 132, 6, 1, 167, 255, 213, 21, 5, 172]
abbrev dktX0_ramp_3 : List UInt8 := dkwX0_ramp_3 ++ []
def dkwX0_ramp_2 : List UInt8 := [42, 89, 180, 0, 15, 90, 4, 96, 181, 0, 15, 28, 29, 184, 0, 19, 21, 6, 133, 21, 4, 133, 105]
abbrev dktX0_ramp_2 : List UInt8 := dkwX0_ramp_2 ++ dktX0_ramp_3
def dkwX0_ramp_1 : List UInt8 := [17, 16, 0, 42, 180, 0, 15, 100, 54, 5, 3, 54, 6, 21, 6, 21, 5, 162, 0, 42, 42, 180, 0, 7]
abbrev dktX0_ramp_1 : List UInt8 := dkwX0_ramp_1 ++ dktX0_ramp_2
def dkwX0_ramp_0 : List UInt8 := [27, 18, 23, 126, 17, 1, 1, 112, 54, 5, 21, 5, 17, 16, 0, 42, 180, 0, 15, 100, 164, 0, 13]
abbrev dktX0_ramp_0 : List UInt8 := dkwX0_ramp_0 ++ dktX0_ramp_1
theorem dksX0_ramp_0 : cX0_ramp.data.toList.drop 0 = dktX0_ramp_0 := by decide +kernel
theorem dksX0_ramp_1 : cX0_ramp.data.toList.drop 23 = dktX0_ramp_1 := dk_seg dksX0_ramp_0 23 rfl rfl
theorem dksX0_ramp_2 : cX0_ramp.data.toList.drop 47 = dktX0_ramp_2 := dk_seg dksX0_ramp_1 24 rfl rfl
theorem dksX0_ramp_3 : cX0_ramp.data.toList.drop 70 = dktX0_ramp_3 := dk_seg dksX0_ramp_2 23 rfl rfl
theorem dX0_ramp_0 : decode cX0_ramp 0 = .ok (.iload_n 1, 1) := dk_27 (dk_at dksX0_ramp_0 0 rfl rfl)
theorem dX0_ramp_1 : decode cX0_ramp 1 = .ok (.ldc 23, 2) := dk_18 23 (dk_at dksX0_ramp_0 1 rfl rfl)
theorem dX0_ramp_3 : decode cX0_ramp 3 = .ok (.iand, 1) := dk_126 (dk_at dksX0_ramp_0 3 rfl rfl)
theorem dX0_ramp_4 : decode cX0_ramp 4 = .ok (.sipush 257, 3) := dk_17 1 1 (dk_at dksX0_ramp_0 4 rfl rfl)
theorem dX0_ramp_7 : decode cX0_ramp 7 = .ok (.irem, 1) := dk_112 (dk_at dksX0_ramp_0 7 rfl rfl)
theorem dX0_ramp_8 : decode cX0_ramp 8 = .ok (.istore 5, 2) := dk_54 5 (dk_at dksX0_ramp_0 8 rfl rfl)
theorem dX0_ramp_10 : decode cX0_ramp 10 = .ok (.iload 5, 2) := dk_21 5 (dk_at dksX0_ramp_0 10 rfl rfl)
theorem dX0_ramp_12 : decode cX0_ramp 12 = .ok (.sipush 4096, 3) := dk_17 16 0 (dk_at dksX0_ramp_0 12 rfl rfl)
theorem dX0_ramp_15 : decode cX0_ramp 15 = .ok (.aload_n 0, 1) := dk_42 (dk_at dksX0_ramp_0 15 rfl rfl)
theorem dX0_ramp_16 : decode cX0_ramp 16 = .ok (.getfield 15, 3) := dk_180 0 15 (dk_at dksX0_ramp_0 16 rfl rfl)
theorem dX0_ramp_19 : decode cX0_ramp 19 = .ok (.isub, 1) := dk_100 (dk_at dksX0_ramp_0 19 rfl rfl)
theorem dX0_ramp_20 : decode cX0_ramp 20 = .ok (.if_icmp .le 13, 3) := dk_164 0 13 (dk_at dksX0_ramp_0 20 rfl rfl)
theorem dX0_ramp_23 : decode cX0_ramp 23 = .ok (.sipush 4096, 3) := dk_17 16 0 (dk_at dksX0_ramp_1 0 rfl rfl)
theorem dX0_ramp_26 : decode cX0_ramp 26 = .ok (.aload_n 0, 1) := dk_42 (dk_at dksX0_ramp_1 3 rfl rfl)
theorem dX0_ramp_27 : decode cX0_ramp 27 = .ok (.getfield 15, 3) := dk_180 0 15 (dk_at dksX0_ramp_1 4 rfl rfl)
theorem dX0_ramp_30 : decode cX0_ramp 30 = .ok (.isub, 1) := dk_100 (dk_at dksX0_ramp_1 7 rfl rfl)
theorem dX0_ramp_31 : decode cX0_ramp 31 = .ok (.istore 5, 2) := dk_54 5 (dk_at dksX0_ramp_1 8 rfl rfl)
theorem dX0_ramp_33 : decode cX0_ramp 33 = .ok (.iconst 0, 1) := dk_3 (dk_at dksX0_ramp_1 10 rfl rfl)
theorem dX0_ramp_34 : decode cX0_ramp 34 = .ok (.istore 6, 2) := dk_54 6 (dk_at dksX0_ramp_1 11 rfl rfl)
theorem dX0_ramp_36 : decode cX0_ramp 36 = .ok (.iload 6, 2) := dk_21 6 (dk_at dksX0_ramp_1 13 rfl rfl)
theorem dX0_ramp_38 : decode cX0_ramp 38 = .ok (.iload 5, 2) := dk_21 5 (dk_at dksX0_ramp_1 15 rfl rfl)
theorem dX0_ramp_40 : decode cX0_ramp 40 = .ok (.if_icmp .ge 42, 3) := dk_162 0 42 (dk_at dksX0_ramp_1 17 rfl rfl)
theorem dX0_ramp_43 : decode cX0_ramp 43 = .ok (.aload_n 0, 1) := dk_42 (dk_at dksX0_ramp_1 20 rfl rfl)
theorem dX0_ramp_44 : decode cX0_ramp 44 = .ok (.getfield 7, 3) := dk_180 0 7 (dk_at dksX0_ramp_1 21 rfl rfl)
theorem dX0_ramp_47 : decode cX0_ramp 47 = .ok (.aload_n 0, 1) := dk_42 (dk_at dksX0_ramp_2 0 rfl rfl)
theorem dX0_ramp_48 : decode cX0_ramp 48 = .ok (.dup, 1) := dk_89 (dk_at dksX0_ramp_2 1 rfl rfl)
theorem dX0_ramp_49 : decode cX0_ramp 49 = .ok (.getfield 15, 3) := dk_180 0 15 (dk_at dksX0_ramp_2 2 rfl rfl)
theorem dX0_ramp_52 : decode cX0_ramp 52 = .ok (.dup_x1, 1) := dk_90 (dk_at dksX0_ramp_2 5 rfl rfl)
theorem dX0_ramp_53 : decode cX0_ramp 53 = .ok (.iconst 1, 1) := dk_4 (dk_at dksX0_ramp_2 6 rfl rfl)
theorem dX0_ramp_54 : decode cX0_ramp 54 = .ok (.iadd, 1) := dk_96 (dk_at dksX0_ramp_2 7 rfl rfl)
theorem dX0_ramp_55 : decode cX0_ramp 55 = .ok (.putfield 15, 3) := dk_181 0 15 (dk_at dksX0_ramp_2 8 rfl rfl)
theorem dX0_ramp_58 : decode cX0_ramp 58 = .ok (.iload_n 2, 1) := dk_28 (dk_at dksX0_ramp_2 11 rfl rfl)
theorem dX0_ramp_59 : decode cX0_ramp 59 = .ok (.iload_n 3, 1) := dk_29 (dk_at dksX0_ramp_2 12 rfl rfl)
theorem dX0_ramp_60 : decode cX0_ramp 60 = .ok (.invokestatic 19, 3) := dk_184 0 19 (dk_at dksX0_ramp_2 13 rfl rfl)
theorem dX0_ramp_63 : decode cX0_ramp 63 = .ok (.iload 6, 2) := dk_21 6 (dk_at dksX0_ramp_2 16 rfl rfl)
theorem dX0_ramp_65 : decode cX0_ramp 65 = .ok (.i2l, 1) := dk_133 (dk_at dksX0_ramp_2 18 rfl rfl)
theorem dX0_ramp_66 : decode cX0_ramp 66 = .ok (.iload 4, 2) := dk_21 4 (dk_at dksX0_ramp_2 19 rfl rfl)
theorem dX0_ramp_68 : decode cX0_ramp 68 = .ok (.i2l, 1) := dk_133 (dk_at dksX0_ramp_2 21 rfl rfl)
theorem dX0_ramp_69 : decode cX0_ramp 69 = .ok (.lmul, 1) := dk_105 (dk_at dksX0_ramp_2 22 rfl rfl)
theorem dX0_ramp_70 : decode cX0_ramp 70 = .ok (.ldc2_w 24, 3) := dk_20 0 24 (dk_at dksX0_ramp_3 0 rfl rfl)
theorem dX0_ramp_73 : decode cX0_ramp 73 = .ok (.lmul, 1) := dk_105 (dk_at dksX0_ramp_3 3 rfl rfl)
theorem dX0_ramp_74 : decode cX0_ramp 74 = .ok (.ladd, 1) := dk_97 (dk_at dksX0_ramp_3 4 rfl rfl)
theorem dX0_ramp_75 : decode cX0_ramp 75 = .ok (.lastore, 1) := dk_80 (dk_at dksX0_ramp_3 5 rfl rfl)
theorem dX0_ramp_76 : decode cX0_ramp 76 = .ok (.iinc 6 1, 3) := dk_132 6 1 (dk_at dksX0_ramp_3 6 rfl rfl)
theorem dX0_ramp_79 : decode cX0_ramp 79 = .ok (.goto (-43), 3) := dk_167 255 213 (dk_at dksX0_ramp_3 9 rfl rfl)
theorem dX0_ramp_82 : decode cX0_ramp 82 = .ok (.iload 5, 2) := dk_21 5 (dk_at dksX0_ramp_3 12 rfl rfl)
theorem dX0_ramp_84 : decode cX0_ramp 84 = .ok (.ireturn, 1) := dk_172 (dk_at dksX0_ramp_3 14 rfl rfl)
abbrev cX0_quick : ByteArray := prog_2_method_7_code
def yX0_quick : MethodName := ⟨RX0, "quick", "(II)I"⟩
def dkwX0_quick_1 : List UInt8 := [184, 0, 34, 21, 4, 172]
abbrev dktX0_quick_1 : List UInt8 := dkwX0_quick_1 ++ []
def dkwX0_quick_0 : List UInt8 := [42, 27, 182, 0, 26, 62, 42, 29, 28, 182, 0, 30, 54, 4, 42, 180, 0, 7, 29, 29, 21, 4, 96]
abbrev dktX0_quick_0 : List UInt8 := dkwX0_quick_0 ++ dktX0_quick_1
theorem dksX0_quick_0 : cX0_quick.data.toList.drop 0 = dktX0_quick_0 := by decide +kernel
theorem dksX0_quick_1 : cX0_quick.data.toList.drop 23 = dktX0_quick_1 := dk_seg dksX0_quick_0 23 rfl rfl
theorem dX0_quick_0 : decode cX0_quick 0 = .ok (.aload_n 0, 1) := dk_42 (dk_at dksX0_quick_0 0 rfl rfl)
theorem dX0_quick_1 : decode cX0_quick 1 = .ok (.iload_n 1, 1) := dk_27 (dk_at dksX0_quick_0 1 rfl rfl)
theorem dX0_quick_2 : decode cX0_quick 2 = .ok (.invokevirtual 26, 3) := dk_182 0 26 (dk_at dksX0_quick_0 2 rfl rfl)
theorem dX0_quick_5 : decode cX0_quick 5 = .ok (.istore_n 3, 1) := dk_62 (dk_at dksX0_quick_0 5 rfl rfl)
theorem dX0_quick_6 : decode cX0_quick 6 = .ok (.aload_n 0, 1) := dk_42 (dk_at dksX0_quick_0 6 rfl rfl)
theorem dX0_quick_7 : decode cX0_quick 7 = .ok (.iload_n 3, 1) := dk_29 (dk_at dksX0_quick_0 7 rfl rfl)
theorem dX0_quick_8 : decode cX0_quick 8 = .ok (.iload_n 2, 1) := dk_28 (dk_at dksX0_quick_0 8 rfl rfl)
theorem dX0_quick_9 : decode cX0_quick 9 = .ok (.invokevirtual 30, 3) := dk_182 0 30 (dk_at dksX0_quick_0 9 rfl rfl)
theorem dX0_quick_12 : decode cX0_quick 12 = .ok (.istore 4, 2) := dk_54 4 (dk_at dksX0_quick_0 12 rfl rfl)
theorem dX0_quick_14 : decode cX0_quick 14 = .ok (.aload_n 0, 1) := dk_42 (dk_at dksX0_quick_0 14 rfl rfl)
theorem dX0_quick_15 : decode cX0_quick 15 = .ok (.getfield 7, 3) := dk_180 0 7 (dk_at dksX0_quick_0 15 rfl rfl)
theorem dX0_quick_18 : decode cX0_quick 18 = .ok (.iload_n 3, 1) := dk_29 (dk_at dksX0_quick_0 18 rfl rfl)
theorem dX0_quick_19 : decode cX0_quick 19 = .ok (.iload_n 3, 1) := dk_29 (dk_at dksX0_quick_0 19 rfl rfl)
theorem dX0_quick_20 : decode cX0_quick 20 = .ok (.iload 4, 2) := dk_21 4 (dk_at dksX0_quick_0 20 rfl rfl)
theorem dX0_quick_22 : decode cX0_quick 22 = .ok (.iadd, 1) := dk_96 (dk_at dksX0_quick_0 22 rfl rfl)
theorem dX0_quick_23 : decode cX0_quick 23 = .ok (.invokestatic 34, 3) := dk_184 0 34 (dk_at dksX0_quick_1 0 rfl rfl)
theorem dX0_quick_26 : decode cX0_quick 26 = .ok (.iload 4, 2) := dk_21 4 (dk_at dksX0_quick_1 3 rfl rfl)
theorem dX0_quick_28 : decode cX0_quick 28 = .ok (.ireturn, 1) := dk_172 (dk_at dksX0_quick_1 5 rfl rfl)
abbrev cX0_from : ByteArray := prog_2_method_5_code
def yX0_from : MethodName := ⟨RX0, "from", "(I)I"⟩
def dkwX0_from_0 : List UInt8 := [27, 18, 23, 126, 42, 180, 0, 15, 4, 96, 112, 172]
abbrev dktX0_from_0 : List UInt8 := dkwX0_from_0 ++ []
theorem dksX0_from_0 : cX0_from.data.toList.drop 0 = dktX0_from_0 := by decide +kernel
theorem dX0_from_0 : decode cX0_from 0 = .ok (.iload_n 1, 1) := dk_27 (dk_at dksX0_from_0 0 rfl rfl)
theorem dX0_from_1 : decode cX0_from 1 = .ok (.ldc 23, 2) := dk_18 23 (dk_at dksX0_from_0 1 rfl rfl)
theorem dX0_from_3 : decode cX0_from 3 = .ok (.iand, 1) := dk_126 (dk_at dksX0_from_0 3 rfl rfl)
theorem dX0_from_4 : decode cX0_from 4 = .ok (.aload_n 0, 1) := dk_42 (dk_at dksX0_from_0 4 rfl rfl)
theorem dX0_from_5 : decode cX0_from 5 = .ok (.getfield 15, 3) := dk_180 0 15 (dk_at dksX0_from_0 5 rfl rfl)
theorem dX0_from_8 : decode cX0_from 8 = .ok (.iconst 1, 1) := dk_4 (dk_at dksX0_from_0 8 rfl rfl)
theorem dX0_from_9 : decode cX0_from 9 = .ok (.iadd, 1) := dk_96 (dk_at dksX0_from_0 9 rfl rfl)
theorem dX0_from_10 : decode cX0_from 10 = .ok (.irem, 1) := dk_112 (dk_at dksX0_from_0 10 rfl rfl)
theorem dX0_from_11 : decode cX0_from 11 = .ok (.ireturn, 1) := dk_172 (dk_at dksX0_from_0 11 rfl rfl)
abbrev cX0_count : ByteArray := prog_2_method_6_code
def yX0_count : MethodName := ⟨RX0, "count", "(II)I"⟩
def dkwX0_count_0 : List UInt8 := [28, 18, 23, 126, 42, 180, 0, 15, 27, 100, 4, 96, 112, 172]
abbrev dktX0_count_0 : List UInt8 := dkwX0_count_0 ++ []
theorem dksX0_count_0 : cX0_count.data.toList.drop 0 = dktX0_count_0 := by decide +kernel
theorem dX0_count_0 : decode cX0_count 0 = .ok (.iload_n 2, 1) := dk_28 (dk_at dksX0_count_0 0 rfl rfl)
theorem dX0_count_1 : decode cX0_count 1 = .ok (.ldc 23, 2) := dk_18 23 (dk_at dksX0_count_0 1 rfl rfl)
theorem dX0_count_3 : decode cX0_count 3 = .ok (.iand, 1) := dk_126 (dk_at dksX0_count_0 3 rfl rfl)
theorem dX0_count_4 : decode cX0_count 4 = .ok (.aload_n 0, 1) := dk_42 (dk_at dksX0_count_0 4 rfl rfl)
theorem dX0_count_5 : decode cX0_count 5 = .ok (.getfield 15, 3) := dk_180 0 15 (dk_at dksX0_count_0 5 rfl rfl)
theorem dX0_count_8 : decode cX0_count 8 = .ok (.iload_n 1, 1) := dk_27 (dk_at dksX0_count_0 8 rfl rfl)
theorem dX0_count_9 : decode cX0_count 9 = .ok (.isub, 1) := dk_100 (dk_at dksX0_count_0 9 rfl rfl)
theorem dX0_count_10 : decode cX0_count 10 = .ok (.iconst 1, 1) := dk_4 (dk_at dksX0_count_0 10 rfl rfl)
theorem dX0_count_11 : decode cX0_count 11 = .ok (.iadd, 1) := dk_96 (dk_at dksX0_count_0 11 rfl rfl)
theorem dX0_count_12 : decode cX0_count 12 = .ok (.irem, 1) := dk_112 (dk_at dksX0_count_0 12 rfl rfl)
theorem dX0_count_13 : decode cX0_count 13 = .ok (.ireturn, 1) := dk_172 (dk_at dksX0_count_0 13 rfl rfl)
abbrev cX0_merge : ByteArray := prog_2_method_8_code
def yX0_merge : MethodName := ⟨RX0, "merge", "(II)I"⟩
def dkwX0_merge_1 : List UInt8 := [184, 0, 40, 21, 4, 172]
abbrev dktX0_merge_1 : List UInt8 := dkwX0_merge_1 ++ []
def dkwX0_merge_0 : List UInt8 := [42, 27, 182, 0, 26, 62, 42, 29, 28, 182, 0, 30, 54, 4, 42, 180, 0, 7, 29, 29, 21, 4, 96]
abbrev dktX0_merge_0 : List UInt8 := dkwX0_merge_0 ++ dktX0_merge_1
theorem dksX0_merge_0 : cX0_merge.data.toList.drop 0 = dktX0_merge_0 := by decide +kernel
theorem dksX0_merge_1 : cX0_merge.data.toList.drop 23 = dktX0_merge_1 := dk_seg dksX0_merge_0 23 rfl rfl
theorem dX0_merge_0 : decode cX0_merge 0 = .ok (.aload_n 0, 1) := dk_42 (dk_at dksX0_merge_0 0 rfl rfl)
theorem dX0_merge_1 : decode cX0_merge 1 = .ok (.iload_n 1, 1) := dk_27 (dk_at dksX0_merge_0 1 rfl rfl)
theorem dX0_merge_2 : decode cX0_merge 2 = .ok (.invokevirtual 26, 3) := dk_182 0 26 (dk_at dksX0_merge_0 2 rfl rfl)
theorem dX0_merge_5 : decode cX0_merge 5 = .ok (.istore_n 3, 1) := dk_62 (dk_at dksX0_merge_0 5 rfl rfl)
theorem dX0_merge_6 : decode cX0_merge 6 = .ok (.aload_n 0, 1) := dk_42 (dk_at dksX0_merge_0 6 rfl rfl)
theorem dX0_merge_7 : decode cX0_merge 7 = .ok (.iload_n 3, 1) := dk_29 (dk_at dksX0_merge_0 7 rfl rfl)
theorem dX0_merge_8 : decode cX0_merge 8 = .ok (.iload_n 2, 1) := dk_28 (dk_at dksX0_merge_0 8 rfl rfl)
theorem dX0_merge_9 : decode cX0_merge 9 = .ok (.invokevirtual 30, 3) := dk_182 0 30 (dk_at dksX0_merge_0 9 rfl rfl)
theorem dX0_merge_12 : decode cX0_merge 12 = .ok (.istore 4, 2) := dk_54 4 (dk_at dksX0_merge_0 12 rfl rfl)
theorem dX0_merge_14 : decode cX0_merge 14 = .ok (.aload_n 0, 1) := dk_42 (dk_at dksX0_merge_0 14 rfl rfl)
theorem dX0_merge_15 : decode cX0_merge 15 = .ok (.getfield 7, 3) := dk_180 0 7 (dk_at dksX0_merge_0 15 rfl rfl)
theorem dX0_merge_18 : decode cX0_merge 18 = .ok (.iload_n 3, 1) := dk_29 (dk_at dksX0_merge_0 18 rfl rfl)
theorem dX0_merge_19 : decode cX0_merge 19 = .ok (.iload_n 3, 1) := dk_29 (dk_at dksX0_merge_0 19 rfl rfl)
theorem dX0_merge_20 : decode cX0_merge 20 = .ok (.iload 4, 2) := dk_21 4 (dk_at dksX0_merge_0 20 rfl rfl)
theorem dX0_merge_22 : decode cX0_merge 22 = .ok (.iadd, 1) := dk_96 (dk_at dksX0_merge_0 22 rfl rfl)
theorem dX0_merge_23 : decode cX0_merge 23 = .ok (.invokestatic 40, 3) := dk_184 0 40 (dk_at dksX0_merge_1 0 rfl rfl)
theorem dX0_merge_26 : decode cX0_merge 26 = .ok (.iload 4, 2) := dk_21 4 (dk_at dksX0_merge_1 3 rfl rfl)
theorem dX0_merge_28 : decode cX0_merge 28 = .ok (.ireturn, 1) := dk_172 (dk_at dksX0_merge_1 5 rfl rfl)
abbrev cX0_radix : ByteArray := prog_2_method_9_code
def yX0_radix : MethodName := ⟨RX0, "radix", "(II)I"⟩
def dkwX0_radix_1 : List UInt8 := [184, 0, 43, 21, 4, 172]
abbrev dktX0_radix_1 : List UInt8 := dkwX0_radix_1 ++ []
def dkwX0_radix_0 : List UInt8 := [42, 27, 182, 0, 26, 62, 42, 29, 28, 182, 0, 30, 54, 4, 42, 180, 0, 7, 29, 29, 21, 4, 96]
abbrev dktX0_radix_0 : List UInt8 := dkwX0_radix_0 ++ dktX0_radix_1
theorem dksX0_radix_0 : cX0_radix.data.toList.drop 0 = dktX0_radix_0 := by decide +kernel
theorem dksX0_radix_1 : cX0_radix.data.toList.drop 23 = dktX0_radix_1 := dk_seg dksX0_radix_0 23 rfl rfl
theorem dX0_radix_0 : decode cX0_radix 0 = .ok (.aload_n 0, 1) := dk_42 (dk_at dksX0_radix_0 0 rfl rfl)
theorem dX0_radix_1 : decode cX0_radix 1 = .ok (.iload_n 1, 1) := dk_27 (dk_at dksX0_radix_0 1 rfl rfl)
theorem dX0_radix_2 : decode cX0_radix 2 = .ok (.invokevirtual 26, 3) := dk_182 0 26 (dk_at dksX0_radix_0 2 rfl rfl)
theorem dX0_radix_5 : decode cX0_radix 5 = .ok (.istore_n 3, 1) := dk_62 (dk_at dksX0_radix_0 5 rfl rfl)
theorem dX0_radix_6 : decode cX0_radix 6 = .ok (.aload_n 0, 1) := dk_42 (dk_at dksX0_radix_0 6 rfl rfl)
theorem dX0_radix_7 : decode cX0_radix 7 = .ok (.iload_n 3, 1) := dk_29 (dk_at dksX0_radix_0 7 rfl rfl)
theorem dX0_radix_8 : decode cX0_radix 8 = .ok (.iload_n 2, 1) := dk_28 (dk_at dksX0_radix_0 8 rfl rfl)
theorem dX0_radix_9 : decode cX0_radix 9 = .ok (.invokevirtual 30, 3) := dk_182 0 30 (dk_at dksX0_radix_0 9 rfl rfl)
theorem dX0_radix_12 : decode cX0_radix 12 = .ok (.istore 4, 2) := dk_54 4 (dk_at dksX0_radix_0 12 rfl rfl)
theorem dX0_radix_14 : decode cX0_radix 14 = .ok (.aload_n 0, 1) := dk_42 (dk_at dksX0_radix_0 14 rfl rfl)
theorem dX0_radix_15 : decode cX0_radix 15 = .ok (.getfield 7, 3) := dk_180 0 7 (dk_at dksX0_radix_0 15 rfl rfl)
theorem dX0_radix_18 : decode cX0_radix 18 = .ok (.iload_n 3, 1) := dk_29 (dk_at dksX0_radix_0 18 rfl rfl)
theorem dX0_radix_19 : decode cX0_radix 19 = .ok (.iload_n 3, 1) := dk_29 (dk_at dksX0_radix_0 19 rfl rfl)
theorem dX0_radix_20 : decode cX0_radix 20 = .ok (.iload 4, 2) := dk_21 4 (dk_at dksX0_radix_0 20 rfl rfl)
theorem dX0_radix_22 : decode cX0_radix 22 = .ok (.iadd, 1) := dk_96 (dk_at dksX0_radix_0 22 rfl rfl)
theorem dX0_radix_23 : decode cX0_radix 23 = .ok (.invokestatic 43, 3) := dk_184 0 43 (dk_at dksX0_radix_1 0 rfl rfl)
theorem dX0_radix_26 : decode cX0_radix 26 = .ok (.iload 4, 2) := dk_21 4 (dk_at dksX0_radix_1 3 rfl rfl)
theorem dX0_radix_28 : decode cX0_radix 28 = .ok (.ireturn, 1) := dk_172 (dk_at dksX0_radix_1 5 rfl rfl)
abbrev cX0_row : ByteArray := prog_2_method_10_code
def yX0_row : MethodName := ⟨RX0, "row", "(I)J"⟩
def dkwX0_row_1 : List UInt8 := [47, 173]
abbrev dktX0_row_1 : List UInt8 := dkwX0_row_1 ++ []
def dkwX0_row_0 : List UInt8 := [42, 180, 0, 15, 154, 0, 7, 9, 167, 0, 17, 42, 180, 0, 7, 27, 18, 23, 126, 42, 180, 0, 15, 112]
abbrev dktX0_row_0 : List UInt8 := dkwX0_row_0 ++ dktX0_row_1
theorem dksX0_row_0 : cX0_row.data.toList.drop 0 = dktX0_row_0 := by decide +kernel
theorem dksX0_row_1 : cX0_row.data.toList.drop 24 = dktX0_row_1 := dk_seg dksX0_row_0 24 rfl rfl
theorem dX0_row_0 : decode cX0_row 0 = .ok (.aload_n 0, 1) := dk_42 (dk_at dksX0_row_0 0 rfl rfl)
theorem dX0_row_1 : decode cX0_row 1 = .ok (.getfield 15, 3) := dk_180 0 15 (dk_at dksX0_row_0 1 rfl rfl)
theorem dX0_row_4 : decode cX0_row 4 = .ok (.ifCond .ne 7, 3) := dk_154 0 7 (dk_at dksX0_row_0 4 rfl rfl)
theorem dX0_row_7 : decode cX0_row 7 = .ok (.lconst 0, 1) := dk_9 (dk_at dksX0_row_0 7 rfl rfl)
theorem dX0_row_8 : decode cX0_row 8 = .ok (.goto 17, 3) := dk_167 0 17 (dk_at dksX0_row_0 8 rfl rfl)
theorem dX0_row_11 : decode cX0_row 11 = .ok (.aload_n 0, 1) := dk_42 (dk_at dksX0_row_0 11 rfl rfl)
theorem dX0_row_12 : decode cX0_row 12 = .ok (.getfield 7, 3) := dk_180 0 7 (dk_at dksX0_row_0 12 rfl rfl)
theorem dX0_row_15 : decode cX0_row 15 = .ok (.iload_n 1, 1) := dk_27 (dk_at dksX0_row_0 15 rfl rfl)
theorem dX0_row_16 : decode cX0_row 16 = .ok (.ldc 23, 2) := dk_18 23 (dk_at dksX0_row_0 16 rfl rfl)
theorem dX0_row_18 : decode cX0_row 18 = .ok (.iand, 1) := dk_126 (dk_at dksX0_row_0 18 rfl rfl)
theorem dX0_row_19 : decode cX0_row 19 = .ok (.aload_n 0, 1) := dk_42 (dk_at dksX0_row_0 19 rfl rfl)
theorem dX0_row_20 : decode cX0_row 20 = .ok (.getfield 15, 3) := dk_180 0 15 (dk_at dksX0_row_0 20 rfl rfl)
theorem dX0_row_23 : decode cX0_row 23 = .ok (.irem, 1) := dk_112 (dk_at dksX0_row_0 23 rfl rfl)
theorem dX0_row_24 : decode cX0_row 24 = .ok (.laload, 1) := dk_47 (dk_at dksX0_row_1 0 rfl rfl)
theorem dX0_row_25 : decode cX0_row 25 = .ok (.lreturn, 1) := dk_173 (dk_at dksX0_row_1 1 rfl rfl)
abbrev cX0_find : ByteArray := prog_2_method_11_code
def yX0_find : MethodName := ⟨RX0, "find", "(II)I"⟩
def dkwX0_find_2 : List UInt8 := [184, 0, 19, 148, 154, 0, 9, 17, 16, 0, 167, 0, 6, 17, 16, 1, 172]
abbrev dktX0_find_2 : List UInt8 := dkwX0_find_2 ++ []
def dkwX0_find_1 : List UInt8 := [184, 0, 19, 184, 0, 46, 62, 29, 156, 0, 7, 29, 167, 0, 27, 42, 180, 0, 7, 29, 47, 27, 28]
abbrev dktX0_find_1 : List UInt8 := dkwX0_find_1 ++ dktX0_find_2
def dkwX0_find_0 : List UInt8 := [42, 180, 0, 7, 3, 42, 180, 0, 15, 184, 0, 40, 42, 180, 0, 7, 3, 42, 180, 0, 15, 27, 28]
abbrev dktX0_find_0 : List UInt8 := dkwX0_find_0 ++ dktX0_find_1
theorem dksX0_find_0 : cX0_find.data.toList.drop 0 = dktX0_find_0 := by decide +kernel
theorem dksX0_find_1 : cX0_find.data.toList.drop 23 = dktX0_find_1 := dk_seg dksX0_find_0 23 rfl rfl
theorem dksX0_find_2 : cX0_find.data.toList.drop 46 = dktX0_find_2 := dk_seg dksX0_find_1 23 rfl rfl
theorem dX0_find_0 : decode cX0_find 0 = .ok (.aload_n 0, 1) := dk_42 (dk_at dksX0_find_0 0 rfl rfl)
theorem dX0_find_1 : decode cX0_find 1 = .ok (.getfield 7, 3) := dk_180 0 7 (dk_at dksX0_find_0 1 rfl rfl)
theorem dX0_find_4 : decode cX0_find 4 = .ok (.iconst 0, 1) := dk_3 (dk_at dksX0_find_0 4 rfl rfl)
theorem dX0_find_5 : decode cX0_find 5 = .ok (.aload_n 0, 1) := dk_42 (dk_at dksX0_find_0 5 rfl rfl)
theorem dX0_find_6 : decode cX0_find 6 = .ok (.getfield 15, 3) := dk_180 0 15 (dk_at dksX0_find_0 6 rfl rfl)
theorem dX0_find_9 : decode cX0_find 9 = .ok (.invokestatic 40, 3) := dk_184 0 40 (dk_at dksX0_find_0 9 rfl rfl)
theorem dX0_find_12 : decode cX0_find 12 = .ok (.aload_n 0, 1) := dk_42 (dk_at dksX0_find_0 12 rfl rfl)
theorem dX0_find_13 : decode cX0_find 13 = .ok (.getfield 7, 3) := dk_180 0 7 (dk_at dksX0_find_0 13 rfl rfl)
theorem dX0_find_16 : decode cX0_find 16 = .ok (.iconst 0, 1) := dk_3 (dk_at dksX0_find_0 16 rfl rfl)
theorem dX0_find_17 : decode cX0_find 17 = .ok (.aload_n 0, 1) := dk_42 (dk_at dksX0_find_0 17 rfl rfl)
theorem dX0_find_18 : decode cX0_find 18 = .ok (.getfield 15, 3) := dk_180 0 15 (dk_at dksX0_find_0 18 rfl rfl)
theorem dX0_find_21 : decode cX0_find 21 = .ok (.iload_n 1, 1) := dk_27 (dk_at dksX0_find_0 21 rfl rfl)
theorem dX0_find_22 : decode cX0_find 22 = .ok (.iload_n 2, 1) := dk_28 (dk_at dksX0_find_0 22 rfl rfl)
theorem dX0_find_23 : decode cX0_find 23 = .ok (.invokestatic 19, 3) := dk_184 0 19 (dk_at dksX0_find_1 0 rfl rfl)
theorem dX0_find_26 : decode cX0_find 26 = .ok (.invokestatic 46, 3) := dk_184 0 46 (dk_at dksX0_find_1 3 rfl rfl)
theorem dX0_find_29 : decode cX0_find 29 = .ok (.istore_n 3, 1) := dk_62 (dk_at dksX0_find_1 6 rfl rfl)
theorem dX0_find_30 : decode cX0_find 30 = .ok (.iload_n 3, 1) := dk_29 (dk_at dksX0_find_1 7 rfl rfl)
theorem dX0_find_31 : decode cX0_find 31 = .ok (.ifCond .ge 7, 3) := dk_156 0 7 (dk_at dksX0_find_1 8 rfl rfl)
theorem dX0_find_34 : decode cX0_find 34 = .ok (.iload_n 3, 1) := dk_29 (dk_at dksX0_find_1 11 rfl rfl)
theorem dX0_find_35 : decode cX0_find 35 = .ok (.goto 27, 3) := dk_167 0 27 (dk_at dksX0_find_1 12 rfl rfl)
theorem dX0_find_38 : decode cX0_find 38 = .ok (.aload_n 0, 1) := dk_42 (dk_at dksX0_find_1 15 rfl rfl)
theorem dX0_find_39 : decode cX0_find 39 = .ok (.getfield 7, 3) := dk_180 0 7 (dk_at dksX0_find_1 16 rfl rfl)
theorem dX0_find_42 : decode cX0_find 42 = .ok (.iload_n 3, 1) := dk_29 (dk_at dksX0_find_1 19 rfl rfl)
theorem dX0_find_43 : decode cX0_find 43 = .ok (.laload, 1) := dk_47 (dk_at dksX0_find_1 20 rfl rfl)
theorem dX0_find_44 : decode cX0_find 44 = .ok (.iload_n 1, 1) := dk_27 (dk_at dksX0_find_1 21 rfl rfl)
theorem dX0_find_45 : decode cX0_find 45 = .ok (.iload_n 2, 1) := dk_28 (dk_at dksX0_find_1 22 rfl rfl)
theorem dX0_find_46 : decode cX0_find 46 = .ok (.invokestatic 19, 3) := dk_184 0 19 (dk_at dksX0_find_2 0 rfl rfl)
theorem dX0_find_49 : decode cX0_find 49 = .ok (.lcmp, 1) := dk_148 (dk_at dksX0_find_2 3 rfl rfl)
theorem dX0_find_50 : decode cX0_find 50 = .ok (.ifCond .ne 9, 3) := dk_154 0 9 (dk_at dksX0_find_2 4 rfl rfl)
theorem dX0_find_53 : decode cX0_find 53 = .ok (.sipush 4096, 3) := dk_17 16 0 (dk_at dksX0_find_2 7 rfl rfl)
theorem dX0_find_56 : decode cX0_find 56 = .ok (.goto 6, 3) := dk_167 0 6 (dk_at dksX0_find_2 10 rfl rfl)
theorem dX0_find_59 : decode cX0_find 59 = .ok (.sipush 4097, 3) := dk_17 16 1 (dk_at dksX0_find_2 13 rfl rfl)
theorem dX0_find_62 : decode cX0_find 62 = .ok (.ireturn, 1) := dk_172 (dk_at dksX0_find_2 16 rfl rfl)
abbrev cX0_empty : ByteArray := prog_2_method_12_code
def yX0_empty : MethodName := ⟨RX0, "empty", "()V"⟩
def dkwX0_empty_0 : List UInt8 := [42, 3, 181, 0, 15, 177]
abbrev dktX0_empty_0 : List UInt8 := dkwX0_empty_0 ++ []
theorem dksX0_empty_0 : cX0_empty.data.toList.drop 0 = dktX0_empty_0 := by decide +kernel
theorem dX0_empty_0 : decode cX0_empty 0 = .ok (.aload_n 0, 1) := dk_42 (dk_at dksX0_empty_0 0 rfl rfl)
theorem dX0_empty_1 : decode cX0_empty 1 = .ok (.iconst 0, 1) := dk_3 (dk_at dksX0_empty_0 1 rfl rfl)
theorem dX0_empty_2 : decode cX0_empty 2 = .ok (.putfield 15, 3) := dk_181 0 15 (dk_at dksX0_empty_0 2 rfl rfl)
theorem dX0_empty_5 : decode cX0_empty 5 = .ok (.return_, 1) := dk_177 (dk_at dksX0_empty_0 5 rfl rfl)
theorem q7 : (Jvm.Cond.initialized "LongSortDesk") ∈ lw_all := lw_g (lw_at lw_m0 1 rfl) rfl
theorem q15 : (Jvm.Cond.instantiable "LongSortDesk" (2 : Nat)) ∈ lw_all := lw_g (lw_at lw_m0 9 rfl) rfl
theorem q17 : (Jvm.Cond.instanceMethod ({ cls := "LongSortDesk", name := "<init>", desc := "()V" } : Jvm.MethodName)) ∈ lw_all := lw_g (lw_at lw_m0 11 rfl) rfl
theorem q18 : (Jvm.Cond.code ({ cls := "LongSortDesk", name := "<init>", desc := "()V" } : Jvm.MethodName) prog_2_method_1_code (1 : Nat) (Option.none : Option Jvm.ClassFile.FieldType)) ∈ lw_all := lw_g (lw_at lw_m0 12 rfl) rfl
theorem q19 : (Jvm.Cond.methodLink "LongSortDesk" (1 : Nat) ({ cls := "java/lang/Object", name := "<init>", desc := "()V" } : Jvm.MethodName)) ∈ lw_all := lw_g (lw_at lw_m0 13 rfl) rfl
theorem q22 : (Jvm.Cond.fieldLink "LongSortDesk" (7 : Nat) "LongSortDesk" "rows" "[J") ∈ lw_all := lw_g (lw_at lw_m0 16 rfl) rfl
theorem q23 : (Jvm.Cond.fieldLink "LongSortDesk" (15 : Nat) "LongSortDesk" "size" "I") ∈ lw_all := lw_g (lw_at lw_m0 17 rfl) rfl
theorem q24 : (Jvm.Cond.laysFinal "LongSortDesk" "LongSortDesk" "rows" "[J") ∈ lw_all := lw_g (lw_at lw_m0 18 rfl) rfl
theorem q25 : (Jvm.Cond.soleField "LongSortDesk" "rows") ∈ lw_all := lw_g (lw_at lw_m0 19 rfl) rfl
theorem q26 : (Jvm.Cond.lays "LongSortDesk" "LongSortDesk" "size" "I") ∈ lw_all := lw_g (lw_at lw_m0 20 rfl) rfl
theorem q27 : (Jvm.Cond.soleField "LongSortDesk" "size") ∈ lw_all := lw_g (lw_at lw_m0 21 rfl) rfl
theorem q28 : (Jvm.Cond.superclass "LongSortDesk" "java/lang/Object") ∈ lw_all := lw_g (lw_at lw_m0 22 rfl) rfl
theorem q31 : (Jvm.Cond.instanceMethod ({ cls := "LongSortDesk", name := "put", desc := "(II)Z" } : Jvm.MethodName)) ∈ lw_all := lw_g (lw_at lw_m0 25 rfl) rfl
theorem q32 : (Jvm.Cond.selects "LongSortDesk" ({ cls := "LongSortDesk", name := "put", desc := "(II)Z" } : Jvm.MethodName) ({ cls := "LongSortDesk", name := "put", desc := "(II)Z" } : Jvm.MethodName)) ∈ lw_all := lw_g (lw_at lw_m0 26 rfl) rfl
theorem q33 : (Jvm.Cond.code ({ cls := "LongSortDesk", name := "put", desc := "(II)Z" } : Jvm.MethodName) prog_2_method_3_code (3 : Nat) (Option.some Jvm.ClassFile.FieldType.boolean)) ∈ lw_all := lw_g (lw_at lw_m0 27 rfl) rfl
theorem q34 : (Jvm.Cond.methodLink "LongSortDesk" (19 : Nat) ({ cls := "LongSortDesk", name := "wide", desc := "(II)J" } : Jvm.MethodName)) ∈ lw_all := lw_g (lw_at lw_m0 28 rfl) rfl
theorem q35 : (Jvm.Cond.static ({ cls := "LongSortDesk", name := "wide", desc := "(II)J" } : Jvm.MethodName)) ∈ lw_all := lw_g (lw_at lw_m0 29 rfl) rfl
theorem q36 : (Jvm.Cond.code ({ cls := "LongSortDesk", name := "wide", desc := "(II)J" } : Jvm.MethodName) prog_2_method_2_code (2 : Nat) (Option.some Jvm.ClassFile.FieldType.long)) ∈ lw_all := lw_g (lw_at lw_m0 30 rfl) rfl
theorem q37 : (Jvm.Cond.constantLong "LongSortDesk" (13 : Nat) (4294967295 : Int64)) ∈ lw_all := lw_g (lw_at lw_m0 31 rfl) rfl
theorem q39 : (Jvm.Cond.instanceMethod ({ cls := "LongSortDesk", name := "ramp", desc := "(IIII)I" } : Jvm.MethodName)) ∈ lw_all := lw_g (lw_at lw_m0 33 rfl) rfl
theorem q40 : (Jvm.Cond.selects "LongSortDesk" ({ cls := "LongSortDesk", name := "ramp", desc := "(IIII)I" } : Jvm.MethodName) ({ cls := "LongSortDesk", name := "ramp", desc := "(IIII)I" } : Jvm.MethodName)) ∈ lw_all := lw_g (lw_at lw_m0 34 rfl) rfl
theorem q41 : (Jvm.Cond.code ({ cls := "LongSortDesk", name := "ramp", desc := "(IIII)I" } : Jvm.MethodName) prog_2_method_4_code (7 : Nat) (Option.some Jvm.ClassFile.FieldType.int)) ∈ lw_all := lw_g (lw_at lw_m0 35 rfl) rfl
theorem q42 : (Jvm.Cond.constant "LongSortDesk" (23 : Nat) (2147483647 : Int32)) ∈ lw_all := lw_g (lw_at lw_m0 36 rfl) rfl
theorem q43 : (Jvm.Cond.constantLong "LongSortDesk" (24 : Nat) (1000003 : Int64)) ∈ lw_all := lw_g (lw_at lw_m0 37 rfl) rfl
theorem q45 : (Jvm.Cond.instanceMethod ({ cls := "LongSortDesk", name := "quick", desc := "(II)I" } : Jvm.MethodName)) ∈ lw_all := lw_g (lw_at lw_m0 39 rfl) rfl
theorem q46 : (Jvm.Cond.selects "LongSortDesk" ({ cls := "LongSortDesk", name := "quick", desc := "(II)I" } : Jvm.MethodName) ({ cls := "LongSortDesk", name := "quick", desc := "(II)I" } : Jvm.MethodName)) ∈ lw_all := lw_g (lw_at lw_m0 40 rfl) rfl
theorem q47 : (Jvm.Cond.code ({ cls := "LongSortDesk", name := "quick", desc := "(II)I" } : Jvm.MethodName) prog_2_method_7_code (5 : Nat) (Option.some Jvm.ClassFile.FieldType.int)) ∈ lw_all := lw_g (lw_at lw_m0 41 rfl) rfl
theorem q48 : (Jvm.Cond.methodLink "LongSortDesk" (26 : Nat) ({ cls := "LongSortDesk", name := "from", desc := "(I)I" } : Jvm.MethodName)) ∈ lw_all := lw_g (lw_at lw_m0 42 rfl) rfl
theorem q49 : (Jvm.Cond.privateMethod ({ cls := "LongSortDesk", name := "from", desc := "(I)I" } : Jvm.MethodName)) ∈ lw_tbl := lw_at lw_m0 43 rfl
theorem q50 : (Jvm.Cond.instanceMethod ({ cls := "LongSortDesk", name := "from", desc := "(I)I" } : Jvm.MethodName)) ∈ lw_all := lw_g (lw_at lw_m0 44 rfl) rfl
theorem q51 : (Jvm.Cond.code ({ cls := "LongSortDesk", name := "from", desc := "(I)I" } : Jvm.MethodName) prog_2_method_5_code (2 : Nat) (Option.some Jvm.ClassFile.FieldType.int)) ∈ lw_all := lw_g (lw_at lw_m0 45 rfl) rfl
theorem q52 : (Jvm.Cond.methodLink "LongSortDesk" (30 : Nat) ({ cls := "LongSortDesk", name := "count", desc := "(II)I" } : Jvm.MethodName)) ∈ lw_all := lw_g (lw_at lw_m0 46 rfl) rfl
theorem q53 : (Jvm.Cond.privateMethod ({ cls := "LongSortDesk", name := "count", desc := "(II)I" } : Jvm.MethodName)) ∈ lw_tbl := lw_at lw_m0 47 rfl
theorem q54 : (Jvm.Cond.instanceMethod ({ cls := "LongSortDesk", name := "count", desc := "(II)I" } : Jvm.MethodName)) ∈ lw_all := lw_g (lw_at lw_m0 48 rfl) rfl
theorem q55 : (Jvm.Cond.code ({ cls := "LongSortDesk", name := "count", desc := "(II)I" } : Jvm.MethodName) prog_2_method_6_code (3 : Nat) (Option.some Jvm.ClassFile.FieldType.int)) ∈ lw_all := lw_g (lw_at lw_m0 49 rfl) rfl
theorem q56 : (Jvm.Cond.methodLink "LongSortDesk" (34 : Nat) ({ cls := "LongArrays", name := "quickSort", desc := "([JII)V" } : Jvm.MethodName)) ∈ lw_all := lw_g (lw_at lw_m0 50 rfl) rfl
theorem q79 : (Jvm.Cond.instanceMethod ({ cls := "LongSortDesk", name := "merge", desc := "(II)I" } : Jvm.MethodName)) ∈ lw_all := lw_g (lw_at lw_m0 73 rfl) rfl
theorem q80 : (Jvm.Cond.selects "LongSortDesk" ({ cls := "LongSortDesk", name := "merge", desc := "(II)I" } : Jvm.MethodName) ({ cls := "LongSortDesk", name := "merge", desc := "(II)I" } : Jvm.MethodName)) ∈ lw_all := lw_g (lw_at lw_m0 74 rfl) rfl
theorem q81 : (Jvm.Cond.code ({ cls := "LongSortDesk", name := "merge", desc := "(II)I" } : Jvm.MethodName) prog_2_method_8_code (5 : Nat) (Option.some Jvm.ClassFile.FieldType.int)) ∈ lw_all := lw_g (lw_at lw_m0 75 rfl) rfl
theorem q82 : (Jvm.Cond.methodLink "LongSortDesk" (40 : Nat) ({ cls := "LongArrays", name := "mergeSort", desc := "([JII)V" } : Jvm.MethodName)) ∈ lw_all := lw_g (lw_at lw_m0 76 rfl) rfl
theorem q108 : (Jvm.Cond.instanceMethod ({ cls := "LongSortDesk", name := "radix", desc := "(II)I" } : Jvm.MethodName)) ∈ lw_all := lw_g (lw_at lw_m0 102 rfl) rfl
theorem q109 : (Jvm.Cond.selects "LongSortDesk" ({ cls := "LongSortDesk", name := "radix", desc := "(II)I" } : Jvm.MethodName) ({ cls := "LongSortDesk", name := "radix", desc := "(II)I" } : Jvm.MethodName)) ∈ lw_all := lw_g (lw_at lw_m0 103 rfl) rfl
theorem q110 : (Jvm.Cond.code ({ cls := "LongSortDesk", name := "radix", desc := "(II)I" } : Jvm.MethodName) prog_2_method_9_code (5 : Nat) (Option.some Jvm.ClassFile.FieldType.int)) ∈ lw_all := lw_g (lw_at lw_m0 104 rfl) rfl
theorem q111 : (Jvm.Cond.methodLink "LongSortDesk" (43 : Nat) ({ cls := "LongArrays", name := "radixSort", desc := "([JII)V" } : Jvm.MethodName)) ∈ lw_all := lw_g (lw_at lw_m0 105 rfl) rfl
theorem q117 : (Jvm.Cond.instanceMethod ({ cls := "LongSortDesk", name := "row", desc := "(I)J" } : Jvm.MethodName)) ∈ lw_all := lw_g (lw_at lw_m0 111 rfl) rfl
theorem q118 : (Jvm.Cond.selects "LongSortDesk" ({ cls := "LongSortDesk", name := "row", desc := "(I)J" } : Jvm.MethodName) ({ cls := "LongSortDesk", name := "row", desc := "(I)J" } : Jvm.MethodName)) ∈ lw_all := lw_g (lw_at lw_m0 112 rfl) rfl
theorem q119 : (Jvm.Cond.code ({ cls := "LongSortDesk", name := "row", desc := "(I)J" } : Jvm.MethodName) prog_2_method_10_code (2 : Nat) (Option.some Jvm.ClassFile.FieldType.long)) ∈ lw_all := lw_g (lw_at lw_m0 113 rfl) rfl
theorem q121 : (Jvm.Cond.instanceMethod ({ cls := "LongSortDesk", name := "find", desc := "(II)I" } : Jvm.MethodName)) ∈ lw_all := lw_g (lw_at lw_m0 115 rfl) rfl
theorem q122 : (Jvm.Cond.selects "LongSortDesk" ({ cls := "LongSortDesk", name := "find", desc := "(II)I" } : Jvm.MethodName) ({ cls := "LongSortDesk", name := "find", desc := "(II)I" } : Jvm.MethodName)) ∈ lw_all := lw_g (lw_at lw_m0 116 rfl) rfl
theorem q123 : (Jvm.Cond.code ({ cls := "LongSortDesk", name := "find", desc := "(II)I" } : Jvm.MethodName) prog_2_method_11_code (4 : Nat) (Option.some Jvm.ClassFile.FieldType.int)) ∈ lw_all := lw_g (lw_at lw_m0 117 rfl) rfl
theorem q124 : (Jvm.Cond.methodLink "LongSortDesk" (46 : Nat) ({ cls := "LongArrays", name := "binarySearch", desc := "([JIIJ)I" } : Jvm.MethodName)) ∈ lw_all := lw_g (lw_at lw_m0 118 rfl) rfl
theorem q128 : (Jvm.Cond.instanceMethod ({ cls := "LongSortDesk", name := "empty", desc := "()V" } : Jvm.MethodName)) ∈ lw_all := lw_g (lw_at lw_m0 122 rfl) rfl
theorem q129 : (Jvm.Cond.selects "LongSortDesk" ({ cls := "LongSortDesk", name := "empty", desc := "()V" } : Jvm.MethodName) ({ cls := "LongSortDesk", name := "empty", desc := "()V" } : Jvm.MethodName)) ∈ lw_all := lw_g (lw_at lw_m0 123 rfl) rfl
theorem q130 : (Jvm.Cond.code ({ cls := "LongSortDesk", name := "empty", desc := "()V" } : Jvm.MethodName) prog_2_method_12_code (1 : Nat) (Option.none : Option Jvm.ClassFile.FieldType)) ∈ lw_all := lw_g (lw_at lw_m0 124 rfl) rfl
theorem in_X0 : ∀ w ∈ wsX00, w ∈ lw_all := lw_in wsX00 [24, 26] (by decide +kernel) (by decide +kernel)
end
section
/-! LongSortDeskModel -/
set_option maxRecDepth 100000
def RX1 : String := "LongSortDeskModel"
def TX1 : u_T := fun k => match k with
  | 0 => ("LongSortDeskModel", "rows", "[J", true)
  | _ => ("LongSortDeskModel", "size", "I", false)
def tyX1 : Nat → FieldType := fun k => match k with
  | 0 => .array .long
  | _ => .int
abbrev wsX10 : List Cond := u_ws RX1 TX1 2
theorem nmX1 : ∀ a, a < 2 → ∀ b, b < 2 → a ≠ b → (TX1 a).2.1 ≠ (TX1 b).2.1 := by decide +kernel
theorem tyX1_ok : ∀ k, k < 2 → parseFieldDescriptor (TX1 k).2.2.1 = some (tyX1 k) := by decide +kernel
abbrev cX1_init : ByteArray := prog_4_method_1_code
def yX1_init : MethodName := ⟨RX1, "<init>", "()V"⟩
def dkwX1_init_0 : List UInt8 := [42, 183, 0, 1, 42, 17, 16, 0, 188, 11, 181, 0, 7, 177]
abbrev dktX1_init_0 : List UInt8 := dkwX1_init_0 ++ []
theorem dksX1_init_0 : cX1_init.data.toList.drop 0 = dktX1_init_0 := by decide +kernel
theorem dX1_init_0 : decode cX1_init 0 = .ok (.aload_n 0, 1) := dk_42 (dk_at dksX1_init_0 0 rfl rfl)
theorem dX1_init_1 : decode cX1_init 1 = .ok (.invokespecial 1, 3) := dk_183 0 1 (dk_at dksX1_init_0 1 rfl rfl)
theorem dX1_init_4 : decode cX1_init 4 = .ok (.aload_n 0, 1) := dk_42 (dk_at dksX1_init_0 4 rfl rfl)
theorem dX1_init_5 : decode cX1_init 5 = .ok (.sipush 4096, 3) := dk_17 16 0 (dk_at dksX1_init_0 5 rfl rfl)
theorem dX1_init_8 : decode cX1_init 8 = .ok (.newarray .long, 2) := dk_188_11 (dk_at dksX1_init_0 8 rfl rfl)
theorem dX1_init_10 : decode cX1_init 10 = .ok (.putfield 7, 3) := dk_181 0 7 (dk_at dksX1_init_0 10 rfl rfl)
theorem dX1_init_13 : decode cX1_init 13 = .ok (.return_, 1) := dk_177 (dk_at dksX1_init_0 13 rfl rfl)
abbrev cX1_put : ByteArray := prog_4_method_3_code
def yX1_put : MethodName := ⟨RX1, "put", "(II)Z"⟩
def dkwX1_put_1 : List UInt8 := [184, 0, 19, 80, 42, 89, 180, 0, 15, 4, 96, 181, 0, 15, 4, 172]
abbrev dktX1_put_1 : List UInt8 := dkwX1_put_1 ++ []
def dkwX1_put_0 : List UInt8 := [42, 180, 0, 15, 17, 16, 0, 161, 0, 5, 3, 172, 42, 180, 0, 7, 42, 180, 0, 15, 27, 28]
abbrev dktX1_put_0 : List UInt8 := dkwX1_put_0 ++ dktX1_put_1
theorem dksX1_put_0 : cX1_put.data.toList.drop 0 = dktX1_put_0 := by decide +kernel
theorem dksX1_put_1 : cX1_put.data.toList.drop 22 = dktX1_put_1 := dk_seg dksX1_put_0 22 rfl rfl
theorem dX1_put_0 : decode cX1_put 0 = .ok (.aload_n 0, 1) := dk_42 (dk_at dksX1_put_0 0 rfl rfl)
theorem dX1_put_1 : decode cX1_put 1 = .ok (.getfield 15, 3) := dk_180 0 15 (dk_at dksX1_put_0 1 rfl rfl)
theorem dX1_put_4 : decode cX1_put 4 = .ok (.sipush 4096, 3) := dk_17 16 0 (dk_at dksX1_put_0 4 rfl rfl)
theorem dX1_put_7 : decode cX1_put 7 = .ok (.if_icmp .lt 5, 3) := dk_161 0 5 (dk_at dksX1_put_0 7 rfl rfl)
theorem dX1_put_10 : decode cX1_put 10 = .ok (.iconst 0, 1) := dk_3 (dk_at dksX1_put_0 10 rfl rfl)
theorem dX1_put_11 : decode cX1_put 11 = .ok (.ireturn, 1) := dk_172 (dk_at dksX1_put_0 11 rfl rfl)
theorem dX1_put_12 : decode cX1_put 12 = .ok (.aload_n 0, 1) := dk_42 (dk_at dksX1_put_0 12 rfl rfl)
theorem dX1_put_13 : decode cX1_put 13 = .ok (.getfield 7, 3) := dk_180 0 7 (dk_at dksX1_put_0 13 rfl rfl)
theorem dX1_put_16 : decode cX1_put 16 = .ok (.aload_n 0, 1) := dk_42 (dk_at dksX1_put_0 16 rfl rfl)
theorem dX1_put_17 : decode cX1_put 17 = .ok (.getfield 15, 3) := dk_180 0 15 (dk_at dksX1_put_0 17 rfl rfl)
theorem dX1_put_20 : decode cX1_put 20 = .ok (.iload_n 1, 1) := dk_27 (dk_at dksX1_put_0 20 rfl rfl)
theorem dX1_put_21 : decode cX1_put 21 = .ok (.iload_n 2, 1) := dk_28 (dk_at dksX1_put_0 21 rfl rfl)
theorem dX1_put_22 : decode cX1_put 22 = .ok (.invokestatic 19, 3) := dk_184 0 19 (dk_at dksX1_put_1 0 rfl rfl)
theorem dX1_put_25 : decode cX1_put 25 = .ok (.lastore, 1) := dk_80 (dk_at dksX1_put_1 3 rfl rfl)
theorem dX1_put_26 : decode cX1_put 26 = .ok (.aload_n 0, 1) := dk_42 (dk_at dksX1_put_1 4 rfl rfl)
theorem dX1_put_27 : decode cX1_put 27 = .ok (.dup, 1) := dk_89 (dk_at dksX1_put_1 5 rfl rfl)
theorem dX1_put_28 : decode cX1_put 28 = .ok (.getfield 15, 3) := dk_180 0 15 (dk_at dksX1_put_1 6 rfl rfl)
theorem dX1_put_31 : decode cX1_put 31 = .ok (.iconst 1, 1) := dk_4 (dk_at dksX1_put_1 9 rfl rfl)
theorem dX1_put_32 : decode cX1_put 32 = .ok (.iadd, 1) := dk_96 (dk_at dksX1_put_1 10 rfl rfl)
theorem dX1_put_33 : decode cX1_put 33 = .ok (.putfield 15, 3) := dk_181 0 15 (dk_at dksX1_put_1 11 rfl rfl)
theorem dX1_put_36 : decode cX1_put 36 = .ok (.iconst 1, 1) := dk_4 (dk_at dksX1_put_1 14 rfl rfl)
theorem dX1_put_37 : decode cX1_put 37 = .ok (.ireturn, 1) := dk_172 (dk_at dksX1_put_1 15 rfl rfl)
abbrev cX1_wide : ByteArray := prog_4_method_2_code
def yX1_wide : MethodName := ⟨RX1, "wide", "(II)J"⟩
def dkwX1_wide_0 : List UInt8 := [26, 133, 16, 32, 121, 27, 133, 20, 0, 13, 127, 97, 173]
abbrev dktX1_wide_0 : List UInt8 := dkwX1_wide_0 ++ []
theorem dksX1_wide_0 : cX1_wide.data.toList.drop 0 = dktX1_wide_0 := by decide +kernel
theorem dX1_wide_0 : decode cX1_wide 0 = .ok (.iload_n 0, 1) := dk_26 (dk_at dksX1_wide_0 0 rfl rfl)
theorem dX1_wide_1 : decode cX1_wide 1 = .ok (.i2l, 1) := dk_133 (dk_at dksX1_wide_0 1 rfl rfl)
theorem dX1_wide_2 : decode cX1_wide 2 = .ok (.bipush 32, 2) := dk_16 32 (dk_at dksX1_wide_0 2 rfl rfl)
theorem dX1_wide_4 : decode cX1_wide 4 = .ok (.lshl, 1) := dk_121 (dk_at dksX1_wide_0 4 rfl rfl)
theorem dX1_wide_5 : decode cX1_wide 5 = .ok (.iload_n 1, 1) := dk_27 (dk_at dksX1_wide_0 5 rfl rfl)
theorem dX1_wide_6 : decode cX1_wide 6 = .ok (.i2l, 1) := dk_133 (dk_at dksX1_wide_0 6 rfl rfl)
theorem dX1_wide_7 : decode cX1_wide 7 = .ok (.ldc2_w 13, 3) := dk_20 0 13 (dk_at dksX1_wide_0 7 rfl rfl)
theorem dX1_wide_10 : decode cX1_wide 10 = .ok (.land, 1) := dk_127 (dk_at dksX1_wide_0 10 rfl rfl)
theorem dX1_wide_11 : decode cX1_wide 11 = .ok (.ladd, 1) := dk_97 (dk_at dksX1_wide_0 11 rfl rfl)
theorem dX1_wide_12 : decode cX1_wide 12 = .ok (.lreturn, 1) := dk_173 (dk_at dksX1_wide_0 12 rfl rfl)
abbrev cX1_ramp : ByteArray := prog_4_method_4_code
def yX1_ramp : MethodName := ⟨RX1, "ramp", "(IIII)I"⟩
def dkwX1_ramp_3 : List UInt8 := [21, 6, 172]
abbrev dktX1_ramp_3 : List UInt8 := dkwX1_ramp_3 ++ []
def dkwX1_ramp_2 : List UInt8 := [133, 105, 21, 6, 133, 105, 97, 80, 42, 89, 180, 0, 15, 4, 96, 181, 0, 15, 132, 6, 1, 167, 255, 200]
abbrev dktX1_ramp_2 : List UInt8 := dkwX1_ramp_2 ++ dktX1_ramp_3
def dkwX1_ramp_1 : List UInt8 := [17, 16, 0, 162, 0, 45, 42, 180, 0, 7, 42, 180, 0, 15, 28, 29, 184, 0, 19, 20, 0, 24, 21, 4]
abbrev dktX1_ramp_1 : List UInt8 := dkwX1_ramp_1 ++ dktX1_ramp_2
def dkwX1_ramp_0 : List UInt8 := [27, 18, 23, 126, 17, 1, 1, 112, 54, 5, 3, 54, 6, 21, 6, 21, 5, 162, 0, 55, 42, 180, 0, 15]
abbrev dktX1_ramp_0 : List UInt8 := dkwX1_ramp_0 ++ dktX1_ramp_1
theorem dksX1_ramp_0 : cX1_ramp.data.toList.drop 0 = dktX1_ramp_0 := by decide +kernel
theorem dksX1_ramp_1 : cX1_ramp.data.toList.drop 24 = dktX1_ramp_1 := dk_seg dksX1_ramp_0 24 rfl rfl
theorem dksX1_ramp_2 : cX1_ramp.data.toList.drop 48 = dktX1_ramp_2 := dk_seg dksX1_ramp_1 24 rfl rfl
theorem dksX1_ramp_3 : cX1_ramp.data.toList.drop 72 = dktX1_ramp_3 := dk_seg dksX1_ramp_2 24 rfl rfl
theorem dX1_ramp_0 : decode cX1_ramp 0 = .ok (.iload_n 1, 1) := dk_27 (dk_at dksX1_ramp_0 0 rfl rfl)
theorem dX1_ramp_1 : decode cX1_ramp 1 = .ok (.ldc 23, 2) := dk_18 23 (dk_at dksX1_ramp_0 1 rfl rfl)
theorem dX1_ramp_3 : decode cX1_ramp 3 = .ok (.iand, 1) := dk_126 (dk_at dksX1_ramp_0 3 rfl rfl)
theorem dX1_ramp_4 : decode cX1_ramp 4 = .ok (.sipush 257, 3) := dk_17 1 1 (dk_at dksX1_ramp_0 4 rfl rfl)
theorem dX1_ramp_7 : decode cX1_ramp 7 = .ok (.irem, 1) := dk_112 (dk_at dksX1_ramp_0 7 rfl rfl)
theorem dX1_ramp_8 : decode cX1_ramp 8 = .ok (.istore 5, 2) := dk_54 5 (dk_at dksX1_ramp_0 8 rfl rfl)
theorem dX1_ramp_10 : decode cX1_ramp 10 = .ok (.iconst 0, 1) := dk_3 (dk_at dksX1_ramp_0 10 rfl rfl)
theorem dX1_ramp_11 : decode cX1_ramp 11 = .ok (.istore 6, 2) := dk_54 6 (dk_at dksX1_ramp_0 11 rfl rfl)
theorem dX1_ramp_13 : decode cX1_ramp 13 = .ok (.iload 6, 2) := dk_21 6 (dk_at dksX1_ramp_0 13 rfl rfl)
theorem dX1_ramp_15 : decode cX1_ramp 15 = .ok (.iload 5, 2) := dk_21 5 (dk_at dksX1_ramp_0 15 rfl rfl)
theorem dX1_ramp_17 : decode cX1_ramp 17 = .ok (.if_icmp .ge 55, 3) := dk_162 0 55 (dk_at dksX1_ramp_0 17 rfl rfl)
theorem dX1_ramp_20 : decode cX1_ramp 20 = .ok (.aload_n 0, 1) := dk_42 (dk_at dksX1_ramp_0 20 rfl rfl)
theorem dX1_ramp_21 : decode cX1_ramp 21 = .ok (.getfield 15, 3) := dk_180 0 15 (dk_at dksX1_ramp_0 21 rfl rfl)
theorem dX1_ramp_24 : decode cX1_ramp 24 = .ok (.sipush 4096, 3) := dk_17 16 0 (dk_at dksX1_ramp_1 0 rfl rfl)
theorem dX1_ramp_27 : decode cX1_ramp 27 = .ok (.if_icmp .ge 45, 3) := dk_162 0 45 (dk_at dksX1_ramp_1 3 rfl rfl)
theorem dX1_ramp_30 : decode cX1_ramp 30 = .ok (.aload_n 0, 1) := dk_42 (dk_at dksX1_ramp_1 6 rfl rfl)
theorem dX1_ramp_31 : decode cX1_ramp 31 = .ok (.getfield 7, 3) := dk_180 0 7 (dk_at dksX1_ramp_1 7 rfl rfl)
theorem dX1_ramp_34 : decode cX1_ramp 34 = .ok (.aload_n 0, 1) := dk_42 (dk_at dksX1_ramp_1 10 rfl rfl)
theorem dX1_ramp_35 : decode cX1_ramp 35 = .ok (.getfield 15, 3) := dk_180 0 15 (dk_at dksX1_ramp_1 11 rfl rfl)
theorem dX1_ramp_38 : decode cX1_ramp 38 = .ok (.iload_n 2, 1) := dk_28 (dk_at dksX1_ramp_1 14 rfl rfl)
theorem dX1_ramp_39 : decode cX1_ramp 39 = .ok (.iload_n 3, 1) := dk_29 (dk_at dksX1_ramp_1 15 rfl rfl)
theorem dX1_ramp_40 : decode cX1_ramp 40 = .ok (.invokestatic 19, 3) := dk_184 0 19 (dk_at dksX1_ramp_1 16 rfl rfl)
theorem dX1_ramp_43 : decode cX1_ramp 43 = .ok (.ldc2_w 24, 3) := dk_20 0 24 (dk_at dksX1_ramp_1 19 rfl rfl)
theorem dX1_ramp_46 : decode cX1_ramp 46 = .ok (.iload 4, 2) := dk_21 4 (dk_at dksX1_ramp_1 22 rfl rfl)
theorem dX1_ramp_48 : decode cX1_ramp 48 = .ok (.i2l, 1) := dk_133 (dk_at dksX1_ramp_2 0 rfl rfl)
theorem dX1_ramp_49 : decode cX1_ramp 49 = .ok (.lmul, 1) := dk_105 (dk_at dksX1_ramp_2 1 rfl rfl)
theorem dX1_ramp_50 : decode cX1_ramp 50 = .ok (.iload 6, 2) := dk_21 6 (dk_at dksX1_ramp_2 2 rfl rfl)
theorem dX1_ramp_52 : decode cX1_ramp 52 = .ok (.i2l, 1) := dk_133 (dk_at dksX1_ramp_2 4 rfl rfl)
theorem dX1_ramp_53 : decode cX1_ramp 53 = .ok (.lmul, 1) := dk_105 (dk_at dksX1_ramp_2 5 rfl rfl)
theorem dX1_ramp_54 : decode cX1_ramp 54 = .ok (.ladd, 1) := dk_97 (dk_at dksX1_ramp_2 6 rfl rfl)
theorem dX1_ramp_55 : decode cX1_ramp 55 = .ok (.lastore, 1) := dk_80 (dk_at dksX1_ramp_2 7 rfl rfl)
theorem dX1_ramp_56 : decode cX1_ramp 56 = .ok (.aload_n 0, 1) := dk_42 (dk_at dksX1_ramp_2 8 rfl rfl)
theorem dX1_ramp_57 : decode cX1_ramp 57 = .ok (.dup, 1) := dk_89 (dk_at dksX1_ramp_2 9 rfl rfl)
theorem dX1_ramp_58 : decode cX1_ramp 58 = .ok (.getfield 15, 3) := dk_180 0 15 (dk_at dksX1_ramp_2 10 rfl rfl)
theorem dX1_ramp_61 : decode cX1_ramp 61 = .ok (.iconst 1, 1) := dk_4 (dk_at dksX1_ramp_2 13 rfl rfl)
theorem dX1_ramp_62 : decode cX1_ramp 62 = .ok (.iadd, 1) := dk_96 (dk_at dksX1_ramp_2 14 rfl rfl)
theorem dX1_ramp_63 : decode cX1_ramp 63 = .ok (.putfield 15, 3) := dk_181 0 15 (dk_at dksX1_ramp_2 15 rfl rfl)
theorem dX1_ramp_66 : decode cX1_ramp 66 = .ok (.iinc 6 1, 3) := dk_132 6 1 (dk_at dksX1_ramp_2 18 rfl rfl)
theorem dX1_ramp_69 : decode cX1_ramp 69 = .ok (.goto (-56), 3) := dk_167 255 200 (dk_at dksX1_ramp_2 21 rfl rfl)
theorem dX1_ramp_72 : decode cX1_ramp 72 = .ok (.iload 6, 2) := dk_21 6 (dk_at dksX1_ramp_3 0 rfl rfl)
theorem dX1_ramp_74 : decode cX1_ramp 74 = .ok (.ireturn, 1) := dk_172 (dk_at dksX1_ramp_3 2 rfl rfl)
abbrev cX1_quick : ByteArray := prog_4_method_9_code
def yX1_quick : MethodName := ⟨RX1, "quick", "(II)I"⟩
def dkwX1_quick_0 : List UInt8 := [42, 27, 28, 182, 0, 38, 172]
abbrev dktX1_quick_0 : List UInt8 := dkwX1_quick_0 ++ []
theorem dksX1_quick_0 : cX1_quick.data.toList.drop 0 = dktX1_quick_0 := by decide +kernel
theorem dX1_quick_0 : decode cX1_quick 0 = .ok (.aload_n 0, 1) := dk_42 (dk_at dksX1_quick_0 0 rfl rfl)
theorem dX1_quick_1 : decode cX1_quick 1 = .ok (.iload_n 1, 1) := dk_27 (dk_at dksX1_quick_0 1 rfl rfl)
theorem dX1_quick_2 : decode cX1_quick 2 = .ok (.iload_n 2, 1) := dk_28 (dk_at dksX1_quick_0 2 rfl rfl)
theorem dX1_quick_3 : decode cX1_quick 3 = .ok (.invokevirtual 38, 3) := dk_182 0 38 (dk_at dksX1_quick_0 3 rfl rfl)
theorem dX1_quick_6 : decode cX1_quick 6 = .ok (.ireturn, 1) := dk_172 (dk_at dksX1_quick_0 6 rfl rfl)
abbrev cX1_sorted : ByteArray := prog_4_method_8_code
def yX1_sorted : MethodName := ⟨RX1, "sorted", "(II)I"⟩
def dkwX1_sorted_0 : List UInt8 := [42, 27, 182, 0, 26, 62, 42, 29, 28, 182, 0, 30, 54, 4, 42, 29, 21, 4, 182, 0, 34, 21, 4, 172]
abbrev dktX1_sorted_0 : List UInt8 := dkwX1_sorted_0 ++ []
theorem dksX1_sorted_0 : cX1_sorted.data.toList.drop 0 = dktX1_sorted_0 := by decide +kernel
theorem dX1_sorted_0 : decode cX1_sorted 0 = .ok (.aload_n 0, 1) := dk_42 (dk_at dksX1_sorted_0 0 rfl rfl)
theorem dX1_sorted_1 : decode cX1_sorted 1 = .ok (.iload_n 1, 1) := dk_27 (dk_at dksX1_sorted_0 1 rfl rfl)
theorem dX1_sorted_2 : decode cX1_sorted 2 = .ok (.invokevirtual 26, 3) := dk_182 0 26 (dk_at dksX1_sorted_0 2 rfl rfl)
theorem dX1_sorted_5 : decode cX1_sorted 5 = .ok (.istore_n 3, 1) := dk_62 (dk_at dksX1_sorted_0 5 rfl rfl)
theorem dX1_sorted_6 : decode cX1_sorted 6 = .ok (.aload_n 0, 1) := dk_42 (dk_at dksX1_sorted_0 6 rfl rfl)
theorem dX1_sorted_7 : decode cX1_sorted 7 = .ok (.iload_n 3, 1) := dk_29 (dk_at dksX1_sorted_0 7 rfl rfl)
theorem dX1_sorted_8 : decode cX1_sorted 8 = .ok (.iload_n 2, 1) := dk_28 (dk_at dksX1_sorted_0 8 rfl rfl)
theorem dX1_sorted_9 : decode cX1_sorted 9 = .ok (.invokevirtual 30, 3) := dk_182 0 30 (dk_at dksX1_sorted_0 9 rfl rfl)
theorem dX1_sorted_12 : decode cX1_sorted 12 = .ok (.istore 4, 2) := dk_54 4 (dk_at dksX1_sorted_0 12 rfl rfl)
theorem dX1_sorted_14 : decode cX1_sorted 14 = .ok (.aload_n 0, 1) := dk_42 (dk_at dksX1_sorted_0 14 rfl rfl)
theorem dX1_sorted_15 : decode cX1_sorted 15 = .ok (.iload_n 3, 1) := dk_29 (dk_at dksX1_sorted_0 15 rfl rfl)
theorem dX1_sorted_16 : decode cX1_sorted 16 = .ok (.iload 4, 2) := dk_21 4 (dk_at dksX1_sorted_0 16 rfl rfl)
theorem dX1_sorted_18 : decode cX1_sorted 18 = .ok (.invokevirtual 34, 3) := dk_182 0 34 (dk_at dksX1_sorted_0 18 rfl rfl)
theorem dX1_sorted_21 : decode cX1_sorted 21 = .ok (.iload 4, 2) := dk_21 4 (dk_at dksX1_sorted_0 21 rfl rfl)
theorem dX1_sorted_23 : decode cX1_sorted 23 = .ok (.ireturn, 1) := dk_172 (dk_at dksX1_sorted_0 23 rfl rfl)
abbrev cX1_from : ByteArray := prog_4_method_5_code
def yX1_from : MethodName := ⟨RX1, "from", "(I)I"⟩
def dkwX1_from_0 : List UInt8 := [27, 18, 23, 126, 42, 180, 0, 15, 4, 96, 112, 172]
abbrev dktX1_from_0 : List UInt8 := dkwX1_from_0 ++ []
theorem dksX1_from_0 : cX1_from.data.toList.drop 0 = dktX1_from_0 := by decide +kernel
theorem dX1_from_0 : decode cX1_from 0 = .ok (.iload_n 1, 1) := dk_27 (dk_at dksX1_from_0 0 rfl rfl)
theorem dX1_from_1 : decode cX1_from 1 = .ok (.ldc 23, 2) := dk_18 23 (dk_at dksX1_from_0 1 rfl rfl)
theorem dX1_from_3 : decode cX1_from 3 = .ok (.iand, 1) := dk_126 (dk_at dksX1_from_0 3 rfl rfl)
theorem dX1_from_4 : decode cX1_from 4 = .ok (.aload_n 0, 1) := dk_42 (dk_at dksX1_from_0 4 rfl rfl)
theorem dX1_from_5 : decode cX1_from 5 = .ok (.getfield 15, 3) := dk_180 0 15 (dk_at dksX1_from_0 5 rfl rfl)
theorem dX1_from_8 : decode cX1_from 8 = .ok (.iconst 1, 1) := dk_4 (dk_at dksX1_from_0 8 rfl rfl)
theorem dX1_from_9 : decode cX1_from 9 = .ok (.iadd, 1) := dk_96 (dk_at dksX1_from_0 9 rfl rfl)
theorem dX1_from_10 : decode cX1_from 10 = .ok (.irem, 1) := dk_112 (dk_at dksX1_from_0 10 rfl rfl)
theorem dX1_from_11 : decode cX1_from 11 = .ok (.ireturn, 1) := dk_172 (dk_at dksX1_from_0 11 rfl rfl)
abbrev cX1_count : ByteArray := prog_4_method_6_code
def yX1_count : MethodName := ⟨RX1, "count", "(II)I"⟩
def dkwX1_count_0 : List UInt8 := [28, 18, 23, 126, 42, 180, 0, 15, 27, 100, 4, 96, 112, 172]
abbrev dktX1_count_0 : List UInt8 := dkwX1_count_0 ++ []
theorem dksX1_count_0 : cX1_count.data.toList.drop 0 = dktX1_count_0 := by decide +kernel
theorem dX1_count_0 : decode cX1_count 0 = .ok (.iload_n 2, 1) := dk_28 (dk_at dksX1_count_0 0 rfl rfl)
theorem dX1_count_1 : decode cX1_count 1 = .ok (.ldc 23, 2) := dk_18 23 (dk_at dksX1_count_0 1 rfl rfl)
theorem dX1_count_3 : decode cX1_count 3 = .ok (.iand, 1) := dk_126 (dk_at dksX1_count_0 3 rfl rfl)
theorem dX1_count_4 : decode cX1_count 4 = .ok (.aload_n 0, 1) := dk_42 (dk_at dksX1_count_0 4 rfl rfl)
theorem dX1_count_5 : decode cX1_count 5 = .ok (.getfield 15, 3) := dk_180 0 15 (dk_at dksX1_count_0 5 rfl rfl)
theorem dX1_count_8 : decode cX1_count 8 = .ok (.iload_n 1, 1) := dk_27 (dk_at dksX1_count_0 8 rfl rfl)
theorem dX1_count_9 : decode cX1_count 9 = .ok (.isub, 1) := dk_100 (dk_at dksX1_count_0 9 rfl rfl)
theorem dX1_count_10 : decode cX1_count 10 = .ok (.iconst 1, 1) := dk_4 (dk_at dksX1_count_0 10 rfl rfl)
theorem dX1_count_11 : decode cX1_count 11 = .ok (.iadd, 1) := dk_96 (dk_at dksX1_count_0 11 rfl rfl)
theorem dX1_count_12 : decode cX1_count 12 = .ok (.irem, 1) := dk_112 (dk_at dksX1_count_0 12 rfl rfl)
theorem dX1_count_13 : decode cX1_count 13 = .ok (.ireturn, 1) := dk_172 (dk_at dksX1_count_0 13 rfl rfl)
abbrev cX1_order : ByteArray := prog_4_method_7_code
def yX1_order : MethodName := ⟨RX1, "order", "(II)V"⟩
def dkwX1_order_3 : List UInt8 := [22, 4, 80, 132, 3, 1, 167, 255, 183, 177]
abbrev dktX1_order_3 : List UInt8 := dkwX1_order_3 ++ []
def dkwX1_order_2 : List UInt8 := [21, 6, 42, 180, 0, 7, 21, 6, 4, 100, 47, 80, 132, 6, 255, 167, 255, 216, 42, 180, 0, 7, 21, 6]
abbrev dktX1_order_2 : List UInt8 := dkwX1_order_2 ++ dktX1_order_3
def dkwX1_order_1 : List UInt8 := [27, 164, 0, 40, 42, 180, 0, 7, 21, 6, 4, 100, 47, 22, 4, 148, 158, 0, 25, 42, 180, 0, 7]
abbrev dktX1_order_1 : List UInt8 := dkwX1_order_1 ++ dktX1_order_2
def dkwX1_order_0 : List UInt8 := [27, 4, 96, 62, 29, 27, 28, 96, 162, 0, 72, 42, 180, 0, 7, 29, 47, 55, 4, 29, 54, 6, 21, 6]
abbrev dktX1_order_0 : List UInt8 := dkwX1_order_0 ++ dktX1_order_1
theorem dksX1_order_0 : cX1_order.data.toList.drop 0 = dktX1_order_0 := by decide +kernel
theorem dksX1_order_1 : cX1_order.data.toList.drop 24 = dktX1_order_1 := dk_seg dksX1_order_0 24 rfl rfl
theorem dksX1_order_2 : cX1_order.data.toList.drop 47 = dktX1_order_2 := dk_seg dksX1_order_1 23 rfl rfl
theorem dksX1_order_3 : cX1_order.data.toList.drop 71 = dktX1_order_3 := dk_seg dksX1_order_2 24 rfl rfl
theorem dX1_order_0 : decode cX1_order 0 = .ok (.iload_n 1, 1) := dk_27 (dk_at dksX1_order_0 0 rfl rfl)
theorem dX1_order_1 : decode cX1_order 1 = .ok (.iconst 1, 1) := dk_4 (dk_at dksX1_order_0 1 rfl rfl)
theorem dX1_order_2 : decode cX1_order 2 = .ok (.iadd, 1) := dk_96 (dk_at dksX1_order_0 2 rfl rfl)
theorem dX1_order_3 : decode cX1_order 3 = .ok (.istore_n 3, 1) := dk_62 (dk_at dksX1_order_0 3 rfl rfl)
theorem dX1_order_4 : decode cX1_order 4 = .ok (.iload_n 3, 1) := dk_29 (dk_at dksX1_order_0 4 rfl rfl)
theorem dX1_order_5 : decode cX1_order 5 = .ok (.iload_n 1, 1) := dk_27 (dk_at dksX1_order_0 5 rfl rfl)
theorem dX1_order_6 : decode cX1_order 6 = .ok (.iload_n 2, 1) := dk_28 (dk_at dksX1_order_0 6 rfl rfl)
theorem dX1_order_7 : decode cX1_order 7 = .ok (.iadd, 1) := dk_96 (dk_at dksX1_order_0 7 rfl rfl)
theorem dX1_order_8 : decode cX1_order 8 = .ok (.if_icmp .ge 72, 3) := dk_162 0 72 (dk_at dksX1_order_0 8 rfl rfl)
theorem dX1_order_11 : decode cX1_order 11 = .ok (.aload_n 0, 1) := dk_42 (dk_at dksX1_order_0 11 rfl rfl)
theorem dX1_order_12 : decode cX1_order 12 = .ok (.getfield 7, 3) := dk_180 0 7 (dk_at dksX1_order_0 12 rfl rfl)
theorem dX1_order_15 : decode cX1_order 15 = .ok (.iload_n 3, 1) := dk_29 (dk_at dksX1_order_0 15 rfl rfl)
theorem dX1_order_16 : decode cX1_order 16 = .ok (.laload, 1) := dk_47 (dk_at dksX1_order_0 16 rfl rfl)
theorem dX1_order_17 : decode cX1_order 17 = .ok (.lstore 4, 2) := dk_55 4 (dk_at dksX1_order_0 17 rfl rfl)
theorem dX1_order_19 : decode cX1_order 19 = .ok (.iload_n 3, 1) := dk_29 (dk_at dksX1_order_0 19 rfl rfl)
theorem dX1_order_20 : decode cX1_order 20 = .ok (.istore 6, 2) := dk_54 6 (dk_at dksX1_order_0 20 rfl rfl)
theorem dX1_order_22 : decode cX1_order 22 = .ok (.iload 6, 2) := dk_21 6 (dk_at dksX1_order_0 22 rfl rfl)
theorem dX1_order_24 : decode cX1_order 24 = .ok (.iload_n 1, 1) := dk_27 (dk_at dksX1_order_1 0 rfl rfl)
theorem dX1_order_25 : decode cX1_order 25 = .ok (.if_icmp .le 40, 3) := dk_164 0 40 (dk_at dksX1_order_1 1 rfl rfl)
theorem dX1_order_28 : decode cX1_order 28 = .ok (.aload_n 0, 1) := dk_42 (dk_at dksX1_order_1 4 rfl rfl)
theorem dX1_order_29 : decode cX1_order 29 = .ok (.getfield 7, 3) := dk_180 0 7 (dk_at dksX1_order_1 5 rfl rfl)
theorem dX1_order_32 : decode cX1_order 32 = .ok (.iload 6, 2) := dk_21 6 (dk_at dksX1_order_1 8 rfl rfl)
theorem dX1_order_34 : decode cX1_order 34 = .ok (.iconst 1, 1) := dk_4 (dk_at dksX1_order_1 10 rfl rfl)
theorem dX1_order_35 : decode cX1_order 35 = .ok (.isub, 1) := dk_100 (dk_at dksX1_order_1 11 rfl rfl)
theorem dX1_order_36 : decode cX1_order 36 = .ok (.laload, 1) := dk_47 (dk_at dksX1_order_1 12 rfl rfl)
theorem dX1_order_37 : decode cX1_order 37 = .ok (.lload 4, 2) := dk_22 4 (dk_at dksX1_order_1 13 rfl rfl)
theorem dX1_order_39 : decode cX1_order 39 = .ok (.lcmp, 1) := dk_148 (dk_at dksX1_order_1 15 rfl rfl)
theorem dX1_order_40 : decode cX1_order 40 = .ok (.ifCond .le 25, 3) := dk_158 0 25 (dk_at dksX1_order_1 16 rfl rfl)
theorem dX1_order_43 : decode cX1_order 43 = .ok (.aload_n 0, 1) := dk_42 (dk_at dksX1_order_1 19 rfl rfl)
theorem dX1_order_44 : decode cX1_order 44 = .ok (.getfield 7, 3) := dk_180 0 7 (dk_at dksX1_order_1 20 rfl rfl)
theorem dX1_order_47 : decode cX1_order 47 = .ok (.iload 6, 2) := dk_21 6 (dk_at dksX1_order_2 0 rfl rfl)
theorem dX1_order_49 : decode cX1_order 49 = .ok (.aload_n 0, 1) := dk_42 (dk_at dksX1_order_2 2 rfl rfl)
theorem dX1_order_50 : decode cX1_order 50 = .ok (.getfield 7, 3) := dk_180 0 7 (dk_at dksX1_order_2 3 rfl rfl)
theorem dX1_order_53 : decode cX1_order 53 = .ok (.iload 6, 2) := dk_21 6 (dk_at dksX1_order_2 6 rfl rfl)
theorem dX1_order_55 : decode cX1_order 55 = .ok (.iconst 1, 1) := dk_4 (dk_at dksX1_order_2 8 rfl rfl)
theorem dX1_order_56 : decode cX1_order 56 = .ok (.isub, 1) := dk_100 (dk_at dksX1_order_2 9 rfl rfl)
theorem dX1_order_57 : decode cX1_order 57 = .ok (.laload, 1) := dk_47 (dk_at dksX1_order_2 10 rfl rfl)
theorem dX1_order_58 : decode cX1_order 58 = .ok (.lastore, 1) := dk_80 (dk_at dksX1_order_2 11 rfl rfl)
theorem dX1_order_59 : decode cX1_order 59 = .ok (.iinc 6 (-1), 3) := dk_132 6 255 (dk_at dksX1_order_2 12 rfl rfl)
theorem dX1_order_62 : decode cX1_order 62 = .ok (.goto (-40), 3) := dk_167 255 216 (dk_at dksX1_order_2 15 rfl rfl)
theorem dX1_order_65 : decode cX1_order 65 = .ok (.aload_n 0, 1) := dk_42 (dk_at dksX1_order_2 18 rfl rfl)
theorem dX1_order_66 : decode cX1_order 66 = .ok (.getfield 7, 3) := dk_180 0 7 (dk_at dksX1_order_2 19 rfl rfl)
theorem dX1_order_69 : decode cX1_order 69 = .ok (.iload 6, 2) := dk_21 6 (dk_at dksX1_order_2 22 rfl rfl)
theorem dX1_order_71 : decode cX1_order 71 = .ok (.lload 4, 2) := dk_22 4 (dk_at dksX1_order_3 0 rfl rfl)
theorem dX1_order_73 : decode cX1_order 73 = .ok (.lastore, 1) := dk_80 (dk_at dksX1_order_3 2 rfl rfl)
theorem dX1_order_74 : decode cX1_order 74 = .ok (.iinc 3 1, 3) := dk_132 3 1 (dk_at dksX1_order_3 3 rfl rfl)
theorem dX1_order_77 : decode cX1_order 77 = .ok (.goto (-73), 3) := dk_167 255 183 (dk_at dksX1_order_3 6 rfl rfl)
theorem dX1_order_80 : decode cX1_order 80 = .ok (.return_, 1) := dk_177 (dk_at dksX1_order_3 9 rfl rfl)
abbrev cX1_merge : ByteArray := prog_4_method_10_code
def yX1_merge : MethodName := ⟨RX1, "merge", "(II)I"⟩
def dkwX1_merge_0 : List UInt8 := [42, 27, 28, 182, 0, 38, 172]
abbrev dktX1_merge_0 : List UInt8 := dkwX1_merge_0 ++ []
theorem dksX1_merge_0 : cX1_merge.data.toList.drop 0 = dktX1_merge_0 := by decide +kernel
theorem dX1_merge_0 : decode cX1_merge 0 = .ok (.aload_n 0, 1) := dk_42 (dk_at dksX1_merge_0 0 rfl rfl)
theorem dX1_merge_1 : decode cX1_merge 1 = .ok (.iload_n 1, 1) := dk_27 (dk_at dksX1_merge_0 1 rfl rfl)
theorem dX1_merge_2 : decode cX1_merge 2 = .ok (.iload_n 2, 1) := dk_28 (dk_at dksX1_merge_0 2 rfl rfl)
theorem dX1_merge_3 : decode cX1_merge 3 = .ok (.invokevirtual 38, 3) := dk_182 0 38 (dk_at dksX1_merge_0 3 rfl rfl)
theorem dX1_merge_6 : decode cX1_merge 6 = .ok (.ireturn, 1) := dk_172 (dk_at dksX1_merge_0 6 rfl rfl)
abbrev cX1_radix : ByteArray := prog_4_method_11_code
def yX1_radix : MethodName := ⟨RX1, "radix", "(II)I"⟩
def dkwX1_radix_0 : List UInt8 := [42, 27, 28, 182, 0, 38, 172]
abbrev dktX1_radix_0 : List UInt8 := dkwX1_radix_0 ++ []
theorem dksX1_radix_0 : cX1_radix.data.toList.drop 0 = dktX1_radix_0 := by decide +kernel
theorem dX1_radix_0 : decode cX1_radix 0 = .ok (.aload_n 0, 1) := dk_42 (dk_at dksX1_radix_0 0 rfl rfl)
theorem dX1_radix_1 : decode cX1_radix 1 = .ok (.iload_n 1, 1) := dk_27 (dk_at dksX1_radix_0 1 rfl rfl)
theorem dX1_radix_2 : decode cX1_radix 2 = .ok (.iload_n 2, 1) := dk_28 (dk_at dksX1_radix_0 2 rfl rfl)
theorem dX1_radix_3 : decode cX1_radix 3 = .ok (.invokevirtual 38, 3) := dk_182 0 38 (dk_at dksX1_radix_0 3 rfl rfl)
theorem dX1_radix_6 : decode cX1_radix 6 = .ok (.ireturn, 1) := dk_172 (dk_at dksX1_radix_0 6 rfl rfl)
abbrev cX1_row : ByteArray := prog_4_method_12_code
def yX1_row : MethodName := ⟨RX1, "row", "(I)J"⟩
def dkwX1_row_1 : List UInt8 := [47, 173]
abbrev dktX1_row_1 : List UInt8 := dkwX1_row_1 ++ []
def dkwX1_row_0 : List UInt8 := [42, 180, 0, 15, 154, 0, 7, 9, 167, 0, 17, 42, 180, 0, 7, 27, 18, 23, 126, 42, 180, 0, 15, 112]
abbrev dktX1_row_0 : List UInt8 := dkwX1_row_0 ++ dktX1_row_1
theorem dksX1_row_0 : cX1_row.data.toList.drop 0 = dktX1_row_0 := by decide +kernel
theorem dksX1_row_1 : cX1_row.data.toList.drop 24 = dktX1_row_1 := dk_seg dksX1_row_0 24 rfl rfl
theorem dX1_row_0 : decode cX1_row 0 = .ok (.aload_n 0, 1) := dk_42 (dk_at dksX1_row_0 0 rfl rfl)
theorem dX1_row_1 : decode cX1_row 1 = .ok (.getfield 15, 3) := dk_180 0 15 (dk_at dksX1_row_0 1 rfl rfl)
theorem dX1_row_4 : decode cX1_row 4 = .ok (.ifCond .ne 7, 3) := dk_154 0 7 (dk_at dksX1_row_0 4 rfl rfl)
theorem dX1_row_7 : decode cX1_row 7 = .ok (.lconst 0, 1) := dk_9 (dk_at dksX1_row_0 7 rfl rfl)
theorem dX1_row_8 : decode cX1_row 8 = .ok (.goto 17, 3) := dk_167 0 17 (dk_at dksX1_row_0 8 rfl rfl)
theorem dX1_row_11 : decode cX1_row 11 = .ok (.aload_n 0, 1) := dk_42 (dk_at dksX1_row_0 11 rfl rfl)
theorem dX1_row_12 : decode cX1_row 12 = .ok (.getfield 7, 3) := dk_180 0 7 (dk_at dksX1_row_0 12 rfl rfl)
theorem dX1_row_15 : decode cX1_row 15 = .ok (.iload_n 1, 1) := dk_27 (dk_at dksX1_row_0 15 rfl rfl)
theorem dX1_row_16 : decode cX1_row 16 = .ok (.ldc 23, 2) := dk_18 23 (dk_at dksX1_row_0 16 rfl rfl)
theorem dX1_row_18 : decode cX1_row 18 = .ok (.iand, 1) := dk_126 (dk_at dksX1_row_0 18 rfl rfl)
theorem dX1_row_19 : decode cX1_row 19 = .ok (.aload_n 0, 1) := dk_42 (dk_at dksX1_row_0 19 rfl rfl)
theorem dX1_row_20 : decode cX1_row 20 = .ok (.getfield 15, 3) := dk_180 0 15 (dk_at dksX1_row_0 20 rfl rfl)
theorem dX1_row_23 : decode cX1_row 23 = .ok (.irem, 1) := dk_112 (dk_at dksX1_row_0 23 rfl rfl)
theorem dX1_row_24 : decode cX1_row 24 = .ok (.laload, 1) := dk_47 (dk_at dksX1_row_1 0 rfl rfl)
theorem dX1_row_25 : decode cX1_row 25 = .ok (.lreturn, 1) := dk_173 (dk_at dksX1_row_1 1 rfl rfl)
abbrev cX1_find : ByteArray := prog_4_method_13_code
def yX1_find : MethodName := ⟨RX1, "find", "(II)I"⟩
def dkwX1_find_3 : List UInt8 := [100, 172]
abbrev dktX1_find_3 : List UInt8 := dkwX1_find_3 ++ []
def dkwX1_find_2 : List UInt8 := [42, 180, 0, 7, 29, 47, 27, 28, 184, 0, 19, 148, 154, 0, 9, 17, 16, 0, 167, 0, 7, 29, 116, 4]
abbrev dktX1_find_2 : List UInt8 := dkwX1_find_2 ++ dktX1_find_3
def dkwX1_find_1 : List UInt8 := [47, 27, 28, 184, 0, 19, 148, 156, 0, 9, 132, 3, 1, 167, 255, 230, 29, 42, 180, 0, 15, 162, 0, 24]
abbrev dktX1_find_1 : List UInt8 := dkwX1_find_1 ++ dktX1_find_2
def dkwX1_find_0 : List UInt8 := [42, 3, 42, 180, 0, 15, 182, 0, 34, 3, 62, 29, 42, 180, 0, 15, 162, 0, 24, 42, 180, 0, 7, 29]
abbrev dktX1_find_0 : List UInt8 := dkwX1_find_0 ++ dktX1_find_1
theorem dksX1_find_0 : cX1_find.data.toList.drop 0 = dktX1_find_0 := by decide +kernel
theorem dksX1_find_1 : cX1_find.data.toList.drop 24 = dktX1_find_1 := dk_seg dksX1_find_0 24 rfl rfl
theorem dksX1_find_2 : cX1_find.data.toList.drop 48 = dktX1_find_2 := dk_seg dksX1_find_1 24 rfl rfl
theorem dksX1_find_3 : cX1_find.data.toList.drop 72 = dktX1_find_3 := dk_seg dksX1_find_2 24 rfl rfl
theorem dX1_find_0 : decode cX1_find 0 = .ok (.aload_n 0, 1) := dk_42 (dk_at dksX1_find_0 0 rfl rfl)
theorem dX1_find_1 : decode cX1_find 1 = .ok (.iconst 0, 1) := dk_3 (dk_at dksX1_find_0 1 rfl rfl)
theorem dX1_find_2 : decode cX1_find 2 = .ok (.aload_n 0, 1) := dk_42 (dk_at dksX1_find_0 2 rfl rfl)
theorem dX1_find_3 : decode cX1_find 3 = .ok (.getfield 15, 3) := dk_180 0 15 (dk_at dksX1_find_0 3 rfl rfl)
theorem dX1_find_6 : decode cX1_find 6 = .ok (.invokevirtual 34, 3) := dk_182 0 34 (dk_at dksX1_find_0 6 rfl rfl)
theorem dX1_find_9 : decode cX1_find 9 = .ok (.iconst 0, 1) := dk_3 (dk_at dksX1_find_0 9 rfl rfl)
theorem dX1_find_10 : decode cX1_find 10 = .ok (.istore_n 3, 1) := dk_62 (dk_at dksX1_find_0 10 rfl rfl)
theorem dX1_find_11 : decode cX1_find 11 = .ok (.iload_n 3, 1) := dk_29 (dk_at dksX1_find_0 11 rfl rfl)
theorem dX1_find_12 : decode cX1_find 12 = .ok (.aload_n 0, 1) := dk_42 (dk_at dksX1_find_0 12 rfl rfl)
theorem dX1_find_13 : decode cX1_find 13 = .ok (.getfield 15, 3) := dk_180 0 15 (dk_at dksX1_find_0 13 rfl rfl)
theorem dX1_find_16 : decode cX1_find 16 = .ok (.if_icmp .ge 24, 3) := dk_162 0 24 (dk_at dksX1_find_0 16 rfl rfl)
theorem dX1_find_19 : decode cX1_find 19 = .ok (.aload_n 0, 1) := dk_42 (dk_at dksX1_find_0 19 rfl rfl)
theorem dX1_find_20 : decode cX1_find 20 = .ok (.getfield 7, 3) := dk_180 0 7 (dk_at dksX1_find_0 20 rfl rfl)
theorem dX1_find_23 : decode cX1_find 23 = .ok (.iload_n 3, 1) := dk_29 (dk_at dksX1_find_0 23 rfl rfl)
theorem dX1_find_24 : decode cX1_find 24 = .ok (.laload, 1) := dk_47 (dk_at dksX1_find_1 0 rfl rfl)
theorem dX1_find_25 : decode cX1_find 25 = .ok (.iload_n 1, 1) := dk_27 (dk_at dksX1_find_1 1 rfl rfl)
theorem dX1_find_26 : decode cX1_find 26 = .ok (.iload_n 2, 1) := dk_28 (dk_at dksX1_find_1 2 rfl rfl)
theorem dX1_find_27 : decode cX1_find 27 = .ok (.invokestatic 19, 3) := dk_184 0 19 (dk_at dksX1_find_1 3 rfl rfl)
theorem dX1_find_30 : decode cX1_find 30 = .ok (.lcmp, 1) := dk_148 (dk_at dksX1_find_1 6 rfl rfl)
theorem dX1_find_31 : decode cX1_find 31 = .ok (.ifCond .ge 9, 3) := dk_156 0 9 (dk_at dksX1_find_1 7 rfl rfl)
theorem dX1_find_34 : decode cX1_find 34 = .ok (.iinc 3 1, 3) := dk_132 3 1 (dk_at dksX1_find_1 10 rfl rfl)
theorem dX1_find_37 : decode cX1_find 37 = .ok (.goto (-26), 3) := dk_167 255 230 (dk_at dksX1_find_1 13 rfl rfl)
theorem dX1_find_40 : decode cX1_find 40 = .ok (.iload_n 3, 1) := dk_29 (dk_at dksX1_find_1 16 rfl rfl)
theorem dX1_find_41 : decode cX1_find 41 = .ok (.aload_n 0, 1) := dk_42 (dk_at dksX1_find_1 17 rfl rfl)
theorem dX1_find_42 : decode cX1_find 42 = .ok (.getfield 15, 3) := dk_180 0 15 (dk_at dksX1_find_1 18 rfl rfl)
theorem dX1_find_45 : decode cX1_find 45 = .ok (.if_icmp .ge 24, 3) := dk_162 0 24 (dk_at dksX1_find_1 21 rfl rfl)
theorem dX1_find_48 : decode cX1_find 48 = .ok (.aload_n 0, 1) := dk_42 (dk_at dksX1_find_2 0 rfl rfl)
theorem dX1_find_49 : decode cX1_find 49 = .ok (.getfield 7, 3) := dk_180 0 7 (dk_at dksX1_find_2 1 rfl rfl)
theorem dX1_find_52 : decode cX1_find 52 = .ok (.iload_n 3, 1) := dk_29 (dk_at dksX1_find_2 4 rfl rfl)
theorem dX1_find_53 : decode cX1_find 53 = .ok (.laload, 1) := dk_47 (dk_at dksX1_find_2 5 rfl rfl)
theorem dX1_find_54 : decode cX1_find 54 = .ok (.iload_n 1, 1) := dk_27 (dk_at dksX1_find_2 6 rfl rfl)
theorem dX1_find_55 : decode cX1_find 55 = .ok (.iload_n 2, 1) := dk_28 (dk_at dksX1_find_2 7 rfl rfl)
theorem dX1_find_56 : decode cX1_find 56 = .ok (.invokestatic 19, 3) := dk_184 0 19 (dk_at dksX1_find_2 8 rfl rfl)
theorem dX1_find_59 : decode cX1_find 59 = .ok (.lcmp, 1) := dk_148 (dk_at dksX1_find_2 11 rfl rfl)
theorem dX1_find_60 : decode cX1_find 60 = .ok (.ifCond .ne 9, 3) := dk_154 0 9 (dk_at dksX1_find_2 12 rfl rfl)
theorem dX1_find_63 : decode cX1_find 63 = .ok (.sipush 4096, 3) := dk_17 16 0 (dk_at dksX1_find_2 15 rfl rfl)
theorem dX1_find_66 : decode cX1_find 66 = .ok (.goto 7, 3) := dk_167 0 7 (dk_at dksX1_find_2 18 rfl rfl)
theorem dX1_find_69 : decode cX1_find 69 = .ok (.iload_n 3, 1) := dk_29 (dk_at dksX1_find_2 21 rfl rfl)
theorem dX1_find_70 : decode cX1_find 70 = .ok (.ineg, 1) := dk_116 (dk_at dksX1_find_2 22 rfl rfl)
theorem dX1_find_71 : decode cX1_find 71 = .ok (.iconst 1, 1) := dk_4 (dk_at dksX1_find_2 23 rfl rfl)
theorem dX1_find_72 : decode cX1_find 72 = .ok (.isub, 1) := dk_100 (dk_at dksX1_find_3 0 rfl rfl)
theorem dX1_find_73 : decode cX1_find 73 = .ok (.ireturn, 1) := dk_172 (dk_at dksX1_find_3 1 rfl rfl)
abbrev cX1_empty : ByteArray := prog_4_method_14_code
def yX1_empty : MethodName := ⟨RX1, "empty", "()V"⟩
def dkwX1_empty_0 : List UInt8 := [42, 3, 181, 0, 15, 177]
abbrev dktX1_empty_0 : List UInt8 := dkwX1_empty_0 ++ []
theorem dksX1_empty_0 : cX1_empty.data.toList.drop 0 = dktX1_empty_0 := by decide +kernel
theorem dX1_empty_0 : decode cX1_empty 0 = .ok (.aload_n 0, 1) := dk_42 (dk_at dksX1_empty_0 0 rfl rfl)
theorem dX1_empty_1 : decode cX1_empty 1 = .ok (.iconst 0, 1) := dk_3 (dk_at dksX1_empty_0 1 rfl rfl)
theorem dX1_empty_2 : decode cX1_empty 2 = .ok (.putfield 15, 3) := dk_181 0 15 (dk_at dksX1_empty_0 2 rfl rfl)
theorem dX1_empty_5 : decode cX1_empty 5 = .ok (.return_, 1) := dk_177 (dk_at dksX1_empty_0 5 rfl rfl)
theorem q8 : (Jvm.Cond.initialized "LongSortDeskModel") ∈ lw_all := lw_g (lw_at lw_m0 2 rfl) rfl
theorem q132 : (Jvm.Cond.instantiable "LongSortDeskModel" (2 : Nat)) ∈ lw_all := lw_g (lw_at lw_m0 126 rfl) rfl
theorem q134 : (Jvm.Cond.instanceMethod ({ cls := "LongSortDeskModel", name := "<init>", desc := "()V" } : Jvm.MethodName)) ∈ lw_all := lw_g (lw_at lw_m0 128 rfl) rfl
theorem q135 : (Jvm.Cond.code ({ cls := "LongSortDeskModel", name := "<init>", desc := "()V" } : Jvm.MethodName) prog_4_method_1_code (1 : Nat) (Option.none : Option Jvm.ClassFile.FieldType)) ∈ lw_all := lw_g (lw_at lw_m0 129 rfl) rfl
theorem q136 : (Jvm.Cond.methodLink "LongSortDeskModel" (1 : Nat) ({ cls := "java/lang/Object", name := "<init>", desc := "()V" } : Jvm.MethodName)) ∈ lw_all := lw_g (lw_at lw_m0 130 rfl) rfl
theorem q137 : (Jvm.Cond.fieldLink "LongSortDeskModel" (7 : Nat) "LongSortDeskModel" "rows" "[J") ∈ lw_all := lw_g (lw_at lw_m0 131 rfl) rfl
theorem q138 : (Jvm.Cond.fieldLink "LongSortDeskModel" (15 : Nat) "LongSortDeskModel" "size" "I") ∈ lw_all := lw_g (lw_at lw_m0 132 rfl) rfl
theorem q139 : (Jvm.Cond.laysFinal "LongSortDeskModel" "LongSortDeskModel" "rows" "[J") ∈ lw_all := lw_g (lw_at lw_m0 133 rfl) rfl
theorem q140 : (Jvm.Cond.soleField "LongSortDeskModel" "rows") ∈ lw_all := lw_g (lw_at lw_m0 134 rfl) rfl
theorem q141 : (Jvm.Cond.lays "LongSortDeskModel" "LongSortDeskModel" "size" "I") ∈ lw_all := lw_g (lw_at lw_m0 135 rfl) rfl
theorem q142 : (Jvm.Cond.soleField "LongSortDeskModel" "size") ∈ lw_all := lw_g (lw_at lw_m0 136 rfl) rfl
theorem q143 : (Jvm.Cond.superclass "LongSortDeskModel" "java/lang/Object") ∈ lw_all := lw_g (lw_at lw_m0 137 rfl) rfl
theorem q145 : (Jvm.Cond.instanceMethod ({ cls := "LongSortDeskModel", name := "put", desc := "(II)Z" } : Jvm.MethodName)) ∈ lw_all := lw_g (lw_at lw_m0 139 rfl) rfl
theorem q146 : (Jvm.Cond.selects "LongSortDeskModel" ({ cls := "LongSortDeskModel", name := "put", desc := "(II)Z" } : Jvm.MethodName) ({ cls := "LongSortDeskModel", name := "put", desc := "(II)Z" } : Jvm.MethodName)) ∈ lw_all := lw_g (lw_at lw_m0 140 rfl) rfl
theorem q147 : (Jvm.Cond.code ({ cls := "LongSortDeskModel", name := "put", desc := "(II)Z" } : Jvm.MethodName) prog_4_method_3_code (3 : Nat) (Option.some Jvm.ClassFile.FieldType.boolean)) ∈ lw_all := lw_g (lw_at lw_m0 141 rfl) rfl
theorem q148 : (Jvm.Cond.methodLink "LongSortDeskModel" (19 : Nat) ({ cls := "LongSortDeskModel", name := "wide", desc := "(II)J" } : Jvm.MethodName)) ∈ lw_all := lw_g (lw_at lw_m0 142 rfl) rfl
theorem q149 : (Jvm.Cond.static ({ cls := "LongSortDeskModel", name := "wide", desc := "(II)J" } : Jvm.MethodName)) ∈ lw_all := lw_g (lw_at lw_m0 143 rfl) rfl
theorem q150 : (Jvm.Cond.code ({ cls := "LongSortDeskModel", name := "wide", desc := "(II)J" } : Jvm.MethodName) prog_4_method_2_code (2 : Nat) (Option.some Jvm.ClassFile.FieldType.long)) ∈ lw_all := lw_g (lw_at lw_m0 144 rfl) rfl
theorem q151 : (Jvm.Cond.constantLong "LongSortDeskModel" (13 : Nat) (4294967295 : Int64)) ∈ lw_all := lw_g (lw_at lw_m0 145 rfl) rfl
theorem q153 : (Jvm.Cond.instanceMethod ({ cls := "LongSortDeskModel", name := "ramp", desc := "(IIII)I" } : Jvm.MethodName)) ∈ lw_all := lw_g (lw_at lw_m0 147 rfl) rfl
theorem q154 : (Jvm.Cond.selects "LongSortDeskModel" ({ cls := "LongSortDeskModel", name := "ramp", desc := "(IIII)I" } : Jvm.MethodName) ({ cls := "LongSortDeskModel", name := "ramp", desc := "(IIII)I" } : Jvm.MethodName)) ∈ lw_all := lw_g (lw_at lw_m0 148 rfl) rfl
theorem q155 : (Jvm.Cond.code ({ cls := "LongSortDeskModel", name := "ramp", desc := "(IIII)I" } : Jvm.MethodName) prog_4_method_4_code (7 : Nat) (Option.some Jvm.ClassFile.FieldType.int)) ∈ lw_all := lw_g (lw_at lw_m0 149 rfl) rfl
theorem q156 : (Jvm.Cond.constant "LongSortDeskModel" (23 : Nat) (2147483647 : Int32)) ∈ lw_all := lw_g (lw_at lw_m0 150 rfl) rfl
theorem q157 : (Jvm.Cond.constantLong "LongSortDeskModel" (24 : Nat) (1000003 : Int64)) ∈ lw_all := lw_g (lw_at lw_m0 151 rfl) rfl
theorem q159 : (Jvm.Cond.instanceMethod ({ cls := "LongSortDeskModel", name := "quick", desc := "(II)I" } : Jvm.MethodName)) ∈ lw_all := lw_g (lw_at lw_m0 153 rfl) rfl
theorem q160 : (Jvm.Cond.selects "LongSortDeskModel" ({ cls := "LongSortDeskModel", name := "quick", desc := "(II)I" } : Jvm.MethodName) ({ cls := "LongSortDeskModel", name := "quick", desc := "(II)I" } : Jvm.MethodName)) ∈ lw_all := lw_g (lw_at lw_m0 154 rfl) rfl
theorem q161 : (Jvm.Cond.code ({ cls := "LongSortDeskModel", name := "quick", desc := "(II)I" } : Jvm.MethodName) prog_4_method_9_code (3 : Nat) (Option.some Jvm.ClassFile.FieldType.int)) ∈ lw_all := lw_g (lw_at lw_m0 155 rfl) rfl
theorem q162 : (Jvm.Cond.methodLink "LongSortDeskModel" (38 : Nat) ({ cls := "LongSortDeskModel", name := "sorted", desc := "(II)I" } : Jvm.MethodName)) ∈ lw_all := lw_g (lw_at lw_m0 156 rfl) rfl
theorem q163 : (Jvm.Cond.privateMethod ({ cls := "LongSortDeskModel", name := "sorted", desc := "(II)I" } : Jvm.MethodName)) ∈ lw_tbl := lw_at lw_m0 157 rfl
theorem q164 : (Jvm.Cond.instanceMethod ({ cls := "LongSortDeskModel", name := "sorted", desc := "(II)I" } : Jvm.MethodName)) ∈ lw_all := lw_g (lw_at lw_m0 158 rfl) rfl
theorem q165 : (Jvm.Cond.code ({ cls := "LongSortDeskModel", name := "sorted", desc := "(II)I" } : Jvm.MethodName) prog_4_method_8_code (5 : Nat) (Option.some Jvm.ClassFile.FieldType.int)) ∈ lw_all := lw_g (lw_at lw_m0 159 rfl) rfl
theorem q166 : (Jvm.Cond.methodLink "LongSortDeskModel" (26 : Nat) ({ cls := "LongSortDeskModel", name := "from", desc := "(I)I" } : Jvm.MethodName)) ∈ lw_all := lw_g (lw_at lw_m0 160 rfl) rfl
theorem q167 : (Jvm.Cond.privateMethod ({ cls := "LongSortDeskModel", name := "from", desc := "(I)I" } : Jvm.MethodName)) ∈ lw_tbl := lw_at lw_m0 161 rfl
theorem q168 : (Jvm.Cond.instanceMethod ({ cls := "LongSortDeskModel", name := "from", desc := "(I)I" } : Jvm.MethodName)) ∈ lw_all := lw_g (lw_at lw_m0 162 rfl) rfl
theorem q169 : (Jvm.Cond.code ({ cls := "LongSortDeskModel", name := "from", desc := "(I)I" } : Jvm.MethodName) prog_4_method_5_code (2 : Nat) (Option.some Jvm.ClassFile.FieldType.int)) ∈ lw_all := lw_g (lw_at lw_m0 163 rfl) rfl
theorem q170 : (Jvm.Cond.methodLink "LongSortDeskModel" (30 : Nat) ({ cls := "LongSortDeskModel", name := "count", desc := "(II)I" } : Jvm.MethodName)) ∈ lw_all := lw_g (lw_at lw_m0 164 rfl) rfl
theorem q171 : (Jvm.Cond.privateMethod ({ cls := "LongSortDeskModel", name := "count", desc := "(II)I" } : Jvm.MethodName)) ∈ lw_tbl := lw_at lw_m0 165 rfl
theorem q172 : (Jvm.Cond.instanceMethod ({ cls := "LongSortDeskModel", name := "count", desc := "(II)I" } : Jvm.MethodName)) ∈ lw_all := lw_g (lw_at lw_m0 166 rfl) rfl
theorem q173 : (Jvm.Cond.code ({ cls := "LongSortDeskModel", name := "count", desc := "(II)I" } : Jvm.MethodName) prog_4_method_6_code (3 : Nat) (Option.some Jvm.ClassFile.FieldType.int)) ∈ lw_all := lw_g (lw_at lw_m0 167 rfl) rfl
theorem q174 : (Jvm.Cond.methodLink "LongSortDeskModel" (34 : Nat) ({ cls := "LongSortDeskModel", name := "order", desc := "(II)V" } : Jvm.MethodName)) ∈ lw_all := lw_g (lw_at lw_m0 168 rfl) rfl
theorem q175 : (Jvm.Cond.privateMethod ({ cls := "LongSortDeskModel", name := "order", desc := "(II)V" } : Jvm.MethodName)) ∈ lw_tbl := lw_at lw_m0 169 rfl
theorem q176 : (Jvm.Cond.instanceMethod ({ cls := "LongSortDeskModel", name := "order", desc := "(II)V" } : Jvm.MethodName)) ∈ lw_all := lw_g (lw_at lw_m0 170 rfl) rfl
theorem q177 : (Jvm.Cond.code ({ cls := "LongSortDeskModel", name := "order", desc := "(II)V" } : Jvm.MethodName) prog_4_method_7_code (7 : Nat) (Option.none : Option Jvm.ClassFile.FieldType)) ∈ lw_all := lw_g (lw_at lw_m0 171 rfl) rfl
theorem q179 : (Jvm.Cond.instanceMethod ({ cls := "LongSortDeskModel", name := "merge", desc := "(II)I" } : Jvm.MethodName)) ∈ lw_all := lw_g (lw_at lw_m0 173 rfl) rfl
theorem q180 : (Jvm.Cond.selects "LongSortDeskModel" ({ cls := "LongSortDeskModel", name := "merge", desc := "(II)I" } : Jvm.MethodName) ({ cls := "LongSortDeskModel", name := "merge", desc := "(II)I" } : Jvm.MethodName)) ∈ lw_all := lw_g (lw_at lw_m0 174 rfl) rfl
theorem q181 : (Jvm.Cond.code ({ cls := "LongSortDeskModel", name := "merge", desc := "(II)I" } : Jvm.MethodName) prog_4_method_10_code (3 : Nat) (Option.some Jvm.ClassFile.FieldType.int)) ∈ lw_all := lw_g (lw_at lw_m0 175 rfl) rfl
theorem q183 : (Jvm.Cond.instanceMethod ({ cls := "LongSortDeskModel", name := "radix", desc := "(II)I" } : Jvm.MethodName)) ∈ lw_all := lw_g (lw_at lw_m0 177 rfl) rfl
theorem q184 : (Jvm.Cond.selects "LongSortDeskModel" ({ cls := "LongSortDeskModel", name := "radix", desc := "(II)I" } : Jvm.MethodName) ({ cls := "LongSortDeskModel", name := "radix", desc := "(II)I" } : Jvm.MethodName)) ∈ lw_all := lw_g (lw_at lw_m0 178 rfl) rfl
theorem q185 : (Jvm.Cond.code ({ cls := "LongSortDeskModel", name := "radix", desc := "(II)I" } : Jvm.MethodName) prog_4_method_11_code (3 : Nat) (Option.some Jvm.ClassFile.FieldType.int)) ∈ lw_all := lw_g (lw_at lw_m0 179 rfl) rfl
theorem q187 : (Jvm.Cond.instanceMethod ({ cls := "LongSortDeskModel", name := "row", desc := "(I)J" } : Jvm.MethodName)) ∈ lw_all := lw_g (lw_at lw_m0 181 rfl) rfl
theorem q188 : (Jvm.Cond.selects "LongSortDeskModel" ({ cls := "LongSortDeskModel", name := "row", desc := "(I)J" } : Jvm.MethodName) ({ cls := "LongSortDeskModel", name := "row", desc := "(I)J" } : Jvm.MethodName)) ∈ lw_all := lw_g (lw_at lw_m0 182 rfl) rfl
theorem q189 : (Jvm.Cond.code ({ cls := "LongSortDeskModel", name := "row", desc := "(I)J" } : Jvm.MethodName) prog_4_method_12_code (2 : Nat) (Option.some Jvm.ClassFile.FieldType.long)) ∈ lw_all := lw_g (lw_at lw_m0 183 rfl) rfl
theorem q191 : (Jvm.Cond.instanceMethod ({ cls := "LongSortDeskModel", name := "find", desc := "(II)I" } : Jvm.MethodName)) ∈ lw_all := lw_g (lw_at lw_m0 185 rfl) rfl
theorem q192 : (Jvm.Cond.selects "LongSortDeskModel" ({ cls := "LongSortDeskModel", name := "find", desc := "(II)I" } : Jvm.MethodName) ({ cls := "LongSortDeskModel", name := "find", desc := "(II)I" } : Jvm.MethodName)) ∈ lw_all := lw_g (lw_at lw_m0 186 rfl) rfl
theorem q193 : (Jvm.Cond.code ({ cls := "LongSortDeskModel", name := "find", desc := "(II)I" } : Jvm.MethodName) prog_4_method_13_code (4 : Nat) (Option.some Jvm.ClassFile.FieldType.int)) ∈ lw_all := lw_g (lw_at lw_m0 187 rfl) rfl
theorem q195 : (Jvm.Cond.instanceMethod ({ cls := "LongSortDeskModel", name := "empty", desc := "()V" } : Jvm.MethodName)) ∈ lw_all := lw_g (lw_at lw_m0 189 rfl) rfl
theorem q196 : (Jvm.Cond.selects "LongSortDeskModel" ({ cls := "LongSortDeskModel", name := "empty", desc := "()V" } : Jvm.MethodName) ({ cls := "LongSortDeskModel", name := "empty", desc := "()V" } : Jvm.MethodName)) ∈ lw_all := lw_g (lw_at lw_m0 190 rfl) rfl
theorem q197 : (Jvm.Cond.code ({ cls := "LongSortDeskModel", name := "empty", desc := "()V" } : Jvm.MethodName) prog_4_method_14_code (1 : Nat) (Option.none : Option Jvm.ClassFile.FieldType)) ∈ lw_all := lw_g (lw_at lw_m0 191 rfl) rfl
theorem in_X1 : ∀ w ∈ wsX10, w ∈ lw_all := lw_in wsX10 [139, 141] (by decide +kernel) (by decide +kernel)
end
section
/-! java/lang/Long -/
set_option maxRecDepth 100000
def RJ0 : String := "java/lang/Long"
abbrev cJ0_compare : ByteArray := prog_6_method_42_code
def yJ0_compare : MethodName := ⟨RJ0, "compare", "(JJ)I"⟩
def dkwJ0_compare_0 : List UInt8 := [30, 32, 148, 156, 0, 7, 2, 167, 0, 14, 30, 32, 148, 154, 0, 7, 3, 167, 0, 4, 4, 172]
abbrev dktJ0_compare_0 : List UInt8 := dkwJ0_compare_0 ++ []
theorem dksJ0_compare_0 : cJ0_compare.data.toList.drop 0 = dktJ0_compare_0 := by decide +kernel
theorem dJ0_compare_0 : decode cJ0_compare 0 = .ok (.lload_n 0, 1) := dk_30 (dk_at dksJ0_compare_0 0 rfl rfl)
theorem dJ0_compare_1 : decode cJ0_compare 1 = .ok (.lload_n 2, 1) := dk_32 (dk_at dksJ0_compare_0 1 rfl rfl)
theorem dJ0_compare_2 : decode cJ0_compare 2 = .ok (.lcmp, 1) := dk_148 (dk_at dksJ0_compare_0 2 rfl rfl)
theorem dJ0_compare_3 : decode cJ0_compare 3 = .ok (.ifCond .ge 7, 3) := dk_156 0 7 (dk_at dksJ0_compare_0 3 rfl rfl)
theorem dJ0_compare_6 : decode cJ0_compare 6 = .ok (.iconst (-1), 1) := dk_2 (dk_at dksJ0_compare_0 6 rfl rfl)
theorem dJ0_compare_7 : decode cJ0_compare 7 = .ok (.goto 14, 3) := dk_167 0 14 (dk_at dksJ0_compare_0 7 rfl rfl)
theorem dJ0_compare_10 : decode cJ0_compare 10 = .ok (.lload_n 0, 1) := dk_30 (dk_at dksJ0_compare_0 10 rfl rfl)
theorem dJ0_compare_11 : decode cJ0_compare 11 = .ok (.lload_n 2, 1) := dk_32 (dk_at dksJ0_compare_0 11 rfl rfl)
theorem dJ0_compare_12 : decode cJ0_compare 12 = .ok (.lcmp, 1) := dk_148 (dk_at dksJ0_compare_0 12 rfl rfl)
theorem dJ0_compare_13 : decode cJ0_compare 13 = .ok (.ifCond .ne 7, 3) := dk_154 0 7 (dk_at dksJ0_compare_0 13 rfl rfl)
theorem dJ0_compare_16 : decode cJ0_compare 16 = .ok (.iconst 0, 1) := dk_3 (dk_at dksJ0_compare_0 16 rfl rfl)
theorem dJ0_compare_17 : decode cJ0_compare 17 = .ok (.goto 4, 3) := dk_167 0 4 (dk_at dksJ0_compare_0 17 rfl rfl)
theorem dJ0_compare_20 : decode cJ0_compare 20 = .ok (.iconst 1, 1) := dk_4 (dk_at dksJ0_compare_0 20 rfl rfl)
theorem dJ0_compare_21 : decode cJ0_compare 21 = .ok (.ireturn, 1) := dk_172 (dk_at dksJ0_compare_0 21 rfl rfl)
theorem q10 : (Jvm.Cond.initialized "java/lang/Long") ∈ lw_all := lw_g (lw_at lw_m0 4 rfl) rfl
theorem q66 : (Jvm.Cond.static ({ cls := "java/lang/Long", name := "compare", desc := "(JJ)I" } : Jvm.MethodName)) ∈ lw_all := lw_g (lw_at lw_m0 60 rfl) rfl
theorem q67 : (Jvm.Cond.code ({ cls := "java/lang/Long", name := "compare", desc := "(JJ)I" } : Jvm.MethodName) prog_6_method_42_code (4 : Nat) (Option.some Jvm.ClassFile.FieldType.int)) ∈ lw_all := lw_g (lw_at lw_m0 61 rfl) rfl
/-! java/lang/Math -/
set_option maxRecDepth 100000
def RJ1 : String := "java/lang/Math"
abbrev cJ1_min : ByteArray := prog_7_method_69_code
def yJ1_min : MethodName := ⟨RJ1, "min", "(II)I"⟩
def dkwJ1_min_0 : List UInt8 := [26, 27, 163, 0, 7, 26, 167, 0, 4, 27, 172]
abbrev dktJ1_min_0 : List UInt8 := dkwJ1_min_0 ++ []
theorem dksJ1_min_0 : cJ1_min.data.toList.drop 0 = dktJ1_min_0 := by decide +kernel
theorem dJ1_min_0 : decode cJ1_min 0 = .ok (.iload_n 0, 1) := dk_26 (dk_at dksJ1_min_0 0 rfl rfl)
theorem dJ1_min_1 : decode cJ1_min 1 = .ok (.iload_n 1, 1) := dk_27 (dk_at dksJ1_min_0 1 rfl rfl)
theorem dJ1_min_2 : decode cJ1_min 2 = .ok (.if_icmp .gt 7, 3) := dk_163 0 7 (dk_at dksJ1_min_0 2 rfl rfl)
theorem dJ1_min_5 : decode cJ1_min 5 = .ok (.iload_n 0, 1) := dk_26 (dk_at dksJ1_min_0 5 rfl rfl)
theorem dJ1_min_6 : decode cJ1_min 6 = .ok (.goto 4, 3) := dk_167 0 4 (dk_at dksJ1_min_0 6 rfl rfl)
theorem dJ1_min_9 : decode cJ1_min 9 = .ok (.iload_n 1, 1) := dk_27 (dk_at dksJ1_min_0 9 rfl rfl)
theorem dJ1_min_10 : decode cJ1_min 10 = .ok (.ireturn, 1) := dk_172 (dk_at dksJ1_min_0 10 rfl rfl)
theorem q11 : (Jvm.Cond.initialized "java/lang/Math") ∈ lw_all := lw_g (lw_at lw_m0 5 rfl) rfl
theorem q72 : (Jvm.Cond.static ({ cls := "java/lang/Math", name := "min", desc := "(II)I" } : Jvm.MethodName)) ∈ lw_all := lw_g (lw_at lw_m0 66 rfl) rfl
theorem q73 : (Jvm.Cond.code ({ cls := "java/lang/Math", name := "min", desc := "(II)I" } : Jvm.MethodName) prog_7_method_69_code (2 : Nat) (Option.some Jvm.ClassFile.FieldType.int)) ∈ lw_all := lw_g (lw_at lw_m0 67 rfl) rfl
/-! java/util/Arrays -/
set_option maxRecDepth 100000
def RJ2 : String := "java/util/Arrays"
abbrev cJ2_copyOf : ByteArray := prog_9_method_124_code
def yJ2_copyOf : MethodName := ⟨RJ2, "copyOf", "([JI)[J"⟩
def dkwJ2_copyOf_1 : List UInt8 := [27, 184, 1, 48, 184, 0, 150, 44, 176]
abbrev dktJ2_copyOf_1 : List UInt8 := dkwJ2_copyOf_1 ++ []
def dkwJ2_copyOf_0 : List UInt8 := [27, 42, 190, 160, 0, 11, 42, 182, 1, 63, 192, 1, 64, 176, 27, 188, 11, 77, 42, 3, 44, 3, 42, 190]
abbrev dktJ2_copyOf_0 : List UInt8 := dkwJ2_copyOf_0 ++ dktJ2_copyOf_1
theorem dksJ2_copyOf_0 : cJ2_copyOf.data.toList.drop 0 = dktJ2_copyOf_0 := by decide +kernel
theorem dksJ2_copyOf_1 : cJ2_copyOf.data.toList.drop 24 = dktJ2_copyOf_1 := dk_seg dksJ2_copyOf_0 24 rfl rfl
theorem dJ2_copyOf_0 : decode cJ2_copyOf 0 = .ok (.iload_n 1, 1) := dk_27 (dk_at dksJ2_copyOf_0 0 rfl rfl)
theorem dJ2_copyOf_1 : decode cJ2_copyOf 1 = .ok (.aload_n 0, 1) := dk_42 (dk_at dksJ2_copyOf_0 1 rfl rfl)
theorem dJ2_copyOf_2 : decode cJ2_copyOf 2 = .ok (.arraylength, 1) := dk_190 (dk_at dksJ2_copyOf_0 2 rfl rfl)
theorem dJ2_copyOf_3 : decode cJ2_copyOf 3 = .ok (.if_icmp .ne 11, 3) := dk_160 0 11 (dk_at dksJ2_copyOf_0 3 rfl rfl)
theorem dJ2_copyOf_6 : decode cJ2_copyOf 6 = .ok (.aload_n 0, 1) := dk_42 (dk_at dksJ2_copyOf_0 6 rfl rfl)
theorem dJ2_copyOf_7 : decode cJ2_copyOf 7 = .ok (.invokevirtual 319, 3) := dk_182 1 63 (dk_at dksJ2_copyOf_0 7 rfl rfl)
theorem dJ2_copyOf_10 : decode cJ2_copyOf 10 = .ok (.checkcast 320, 3) := dk_192 1 64 (dk_at dksJ2_copyOf_0 10 rfl rfl)
theorem dJ2_copyOf_13 : decode cJ2_copyOf 13 = .ok (.areturn, 1) := dk_176 (dk_at dksJ2_copyOf_0 13 rfl rfl)
theorem dJ2_copyOf_14 : decode cJ2_copyOf 14 = .ok (.iload_n 1, 1) := dk_27 (dk_at dksJ2_copyOf_0 14 rfl rfl)
theorem dJ2_copyOf_15 : decode cJ2_copyOf 15 = .ok (.newarray .long, 2) := dk_188_11 (dk_at dksJ2_copyOf_0 15 rfl rfl)
theorem dJ2_copyOf_17 : decode cJ2_copyOf 17 = .ok (.astore_n 2, 1) := dk_77 (dk_at dksJ2_copyOf_0 17 rfl rfl)
theorem dJ2_copyOf_18 : decode cJ2_copyOf 18 = .ok (.aload_n 0, 1) := dk_42 (dk_at dksJ2_copyOf_0 18 rfl rfl)
theorem dJ2_copyOf_19 : decode cJ2_copyOf 19 = .ok (.iconst 0, 1) := dk_3 (dk_at dksJ2_copyOf_0 19 rfl rfl)
theorem dJ2_copyOf_20 : decode cJ2_copyOf 20 = .ok (.aload_n 2, 1) := dk_44 (dk_at dksJ2_copyOf_0 20 rfl rfl)
theorem dJ2_copyOf_21 : decode cJ2_copyOf 21 = .ok (.iconst 0, 1) := dk_3 (dk_at dksJ2_copyOf_0 21 rfl rfl)
theorem dJ2_copyOf_22 : decode cJ2_copyOf 22 = .ok (.aload_n 0, 1) := dk_42 (dk_at dksJ2_copyOf_0 22 rfl rfl)
theorem dJ2_copyOf_23 : decode cJ2_copyOf 23 = .ok (.arraylength, 1) := dk_190 (dk_at dksJ2_copyOf_0 23 rfl rfl)
theorem dJ2_copyOf_24 : decode cJ2_copyOf 24 = .ok (.iload_n 1, 1) := dk_27 (dk_at dksJ2_copyOf_1 0 rfl rfl)
theorem dJ2_copyOf_25 : decode cJ2_copyOf 25 = .ok (.invokestatic 304, 3) := dk_184 1 48 (dk_at dksJ2_copyOf_1 1 rfl rfl)
theorem dJ2_copyOf_28 : decode cJ2_copyOf 28 = .ok (.invokestatic 150, 3) := dk_184 0 150 (dk_at dksJ2_copyOf_1 4 rfl rfl)
theorem dJ2_copyOf_31 : decode cJ2_copyOf 31 = .ok (.aload_n 2, 1) := dk_44 (dk_at dksJ2_copyOf_1 7 rfl rfl)
theorem dJ2_copyOf_32 : decode cJ2_copyOf 32 = .ok (.areturn, 1) := dk_176 (dk_at dksJ2_copyOf_1 8 rfl rfl)
theorem q12 : (Jvm.Cond.initialized "java/util/Arrays") ∈ lw_all := lw_g (lw_at lw_m0 6 rfl) rfl
theorem q93 : (Jvm.Cond.static ({ cls := "java/util/Arrays", name := "copyOf", desc := "([JI)[J" } : Jvm.MethodName)) ∈ lw_all := lw_g (lw_at lw_m0 87 rfl) rfl
theorem q94 : (Jvm.Cond.code ({ cls := "java/util/Arrays", name := "copyOf", desc := "([JI)[J" } : Jvm.MethodName) prog_9_method_124_code (3 : Nat) (Option.some (Jvm.ClassFile.FieldType.array Jvm.ClassFile.FieldType.long))) ∈ lw_all := lw_g (lw_at lw_m0 88 rfl) rfl
theorem q95 : (Jvm.Cond.methodLink "java/util/Arrays" (319 : Nat) ({ cls := "[J", name := "clone", desc := "()Ljava/lang/Object;" } : Jvm.MethodName)) ∈ lw_all := lw_g (lw_at lw_m0 89 rfl) rfl
theorem q101 : (Jvm.Cond.classLink "java/util/Arrays" (320 : Nat) "[J") ∈ lw_all := lw_g (lw_at lw_m0 95 rfl) rfl
theorem q102 : (Jvm.Cond.methodLink "java/util/Arrays" (304 : Nat) ({ cls := "java/lang/Math", name := "min", desc := "(II)I" } : Jvm.MethodName)) ∈ lw_all := lw_g (lw_at lw_m0 96 rfl) rfl
theorem q103 : (Jvm.Cond.methodLink "java/util/Arrays" (150 : Nat) ({ cls := "java/lang/System", name := "arraycopy", desc := "(Ljava/lang/Object;ILjava/lang/Object;II)V" } : Jvm.MethodName)) ∈ lw_all := lw_g (lw_at lw_m0 97 rfl) rfl
/-! java/lang/Object -/
set_option maxRecDepth 100000
def RJ3 : String := "java/lang/Object"
abbrev cJ3_init : ByteArray := object_method_1_code
def yJ3_init : MethodName := ⟨RJ3, "<init>", "()V"⟩
theorem dJ3_init_0 : decode cJ3_init 0 = .ok (.return_, 1) := by decide +kernel
theorem q20 : (Jvm.Cond.instanceMethod ({ cls := "java/lang/Object", name := "<init>", desc := "()V" } : Jvm.MethodName)) ∈ lw_all := lw_g (lw_at lw_m0 14 rfl) rfl
theorem q21 : (Jvm.Cond.code ({ cls := "java/lang/Object", name := "<init>", desc := "()V" } : Jvm.MethodName) object_method_1_code (1 : Nat) (Option.none : Option Jvm.ClassFile.FieldType)) ∈ lw_all := lw_g (lw_at lw_m0 15 rfl) rfl
theorem q97 : (Jvm.Cond.native ({ cls := "java/lang/Object", name := "clone", desc := "()Ljava/lang/Object;" } : Jvm.MethodName)) ∈ lw_all := lw_g (lw_at lw_m0 91 rfl) rfl
theorem q98 : (Jvm.Cond.instanceMethod ({ cls := "java/lang/Object", name := "clone", desc := "()Ljava/lang/Object;" } : Jvm.MethodName)) ∈ lw_all := lw_g (lw_at lw_m0 92 rfl) rfl
theorem q198 : (Jvm.Cond.initialized "java/lang/Object") ∈ lw_all := lw_g (lw_at lw_m0 192 rfl) rfl
/-! the law's own entry -/
set_option maxRecDepth 100000
abbrev cL_law : ByteArray := code
def dkwL_law_13 : List UInt8 := [159, 0, 16, 3, 172, 43, 182, 0, 45, 44, 182, 0, 48, 167, 0, 3, 132, 3, 6, 167, 254, 194, 4, 172]
abbrev dktL_law_13 : List UInt8 := dkwL_law_13 ++ []
def dkwL_law_12 : List UInt8 := [42, 29, 5, 96, 46, 182, 0, 41, 44, 42, 29, 4, 96, 46, 42, 29, 5, 96, 46, 182, 0, 44]
abbrev dktL_law_12 : List UInt8 := dkwL_law_12 ++ dktL_law_13
def dkwL_law_11 : List UInt8 := [182, 0, 36, 44, 42, 29, 4, 96, 46, 182, 0, 40, 148, 153, 0, 49, 3, 172, 43, 42, 29, 4, 96, 46]
abbrev dktL_law_11 : List UInt8 := dkwL_law_11 ++ dktL_law_12
def dkwL_law_10 : List UInt8 := [29, 4, 96, 46, 42, 29, 5, 96, 46, 182, 0, 35, 159, 0, 73, 3, 172, 43, 42, 29, 4, 96, 46]
abbrev dktL_law_10 : List UInt8 := dkwL_law_10 ++ dktL_law_11
def dkwL_law_9 : List UInt8 := [182, 0, 31, 159, 0, 106, 3, 172, 43, 42, 29, 4, 96, 46, 42, 29, 5, 96, 46, 182, 0, 32, 44, 42]
abbrev dktL_law_9 : List UInt8 := dkwL_law_9 ++ dktL_law_10
def dkwL_law_8 : List UInt8 := [42, 29, 4, 96, 46, 42, 29, 5, 96, 46, 182, 0, 28, 44, 42, 29, 4, 96, 46, 42, 29, 5, 96, 46]
abbrev dktL_law_8 : List UInt8 := dkwL_law_8 ++ dktL_law_9
def dkwL_law_7 : List UInt8 := [46, 182, 0, 23, 44, 42, 29, 4, 96, 46, 42, 29, 5, 96, 46, 182, 0, 27, 159, 0, 139, 3, 172, 43]
abbrev dktL_law_7 : List UInt8 := dkwL_law_7 ++ dktL_law_8
def dkwL_law_6 : List UInt8 := [46, 42, 29, 7, 96, 46, 182, 0, 22, 159, 0, 172, 3, 172, 43, 42, 29, 4, 96, 46, 42, 29, 5, 96]
abbrev dktL_law_6 : List UInt8 := dkwL_law_6 ++ dktL_law_7
def dkwL_law_5 : List UInt8 := [46, 42, 29, 7, 96, 46, 182, 0, 18, 44, 42, 29, 4, 96, 46, 42, 29, 5, 96, 46, 42, 29, 6, 96]
abbrev dktL_law_5 : List UInt8 := dkwL_law_5 ++ dktL_law_6
def dkwL_law_4 : List UInt8 := [46, 182, 0, 17, 159, 0, 225, 3, 172, 43, 42, 29, 4, 96, 46, 42, 29, 5, 96, 46, 42, 29, 6, 96]
abbrev dktL_law_4 : List UInt8 := dkwL_law_4 ++ dktL_law_5
def dkwL_law_3 : List UInt8 := [43, 42, 29, 4, 96, 46, 42, 29, 5, 96, 46, 182, 0, 13, 44, 42, 29, 4, 96, 46, 42, 29, 5, 96]
abbrev dktL_law_3 : List UInt8 := dkwL_law_3 ++ dktL_law_4
def dkwL_law_2 : List UInt8 := [170, 0, 0, 0, 0, 1, 44, 0, 0, 0, 0, 0, 0, 0, 7, 0, 0, 0, 47, 0, 0, 0, 80, 0, 0, 0, 133, 0, 0, 0, 166, 0, 0, 0, 199, 0, 0, 0, 232, 0, 0, 1, 0, 0, 0, 1, 33]
abbrev dktL_law_2 : List UInt8 := dkwL_law_2 ++ dktL_law_3
def dkwL_law_1 : List UInt8 := [163, 1, 59, 42, 29, 46, 16, 7, 126]
abbrev dktL_law_1 : List UInt8 := dkwL_law_1 ++ dktL_law_2
def dkwL_law_0 : List UInt8 := [187, 0, 7, 89, 183, 0, 9, 76, 187, 0, 10, 89, 183, 0, 12, 77, 3, 62, 29, 42, 190, 16, 6, 100]
abbrev dktL_law_0 : List UInt8 := dkwL_law_0 ++ dktL_law_1
theorem dksL_law_0 : cL_law.data.toList.drop 0 = dktL_law_0 := by decide +kernel
theorem dksL_law_1 : cL_law.data.toList.drop 24 = dktL_law_1 := dk_seg dksL_law_0 24 rfl rfl
theorem dksL_law_2 : cL_law.data.toList.drop 33 = dktL_law_2 := dk_seg dksL_law_1 9 rfl rfl
theorem dksL_law_3 : cL_law.data.toList.drop 80 = dktL_law_3 := dk_seg dksL_law_2 47 rfl rfl
theorem dksL_law_4 : cL_law.data.toList.drop 104 = dktL_law_4 := dk_seg dksL_law_3 24 rfl rfl
theorem dksL_law_5 : cL_law.data.toList.drop 128 = dktL_law_5 := dk_seg dksL_law_4 24 rfl rfl
theorem dksL_law_6 : cL_law.data.toList.drop 152 = dktL_law_6 := dk_seg dksL_law_5 24 rfl rfl
theorem dksL_law_7 : cL_law.data.toList.drop 176 = dktL_law_7 := dk_seg dksL_law_6 24 rfl rfl
theorem dksL_law_8 : cL_law.data.toList.drop 200 = dktL_law_8 := dk_seg dksL_law_7 24 rfl rfl
theorem dksL_law_9 : cL_law.data.toList.drop 224 = dktL_law_9 := dk_seg dksL_law_8 24 rfl rfl
theorem dksL_law_10 : cL_law.data.toList.drop 248 = dktL_law_10 := dk_seg dksL_law_9 24 rfl rfl
theorem dksL_law_11 : cL_law.data.toList.drop 271 = dktL_law_11 := dk_seg dksL_law_10 23 rfl rfl
theorem dksL_law_12 : cL_law.data.toList.drop 295 = dktL_law_12 := dk_seg dksL_law_11 24 rfl rfl
theorem dksL_law_13 : cL_law.data.toList.drop 317 = dktL_law_13 := dk_seg dksL_law_12 22 rfl rfl
theorem dL_law_0 : decode cL_law 0 = .ok (.new 7, 3) := dk_187 0 7 (dk_at dksL_law_0 0 rfl rfl)
theorem dL_law_3 : decode cL_law 3 = .ok (.dup, 1) := dk_89 (dk_at dksL_law_0 3 rfl rfl)
theorem dL_law_4 : decode cL_law 4 = .ok (.invokespecial 9, 3) := dk_183 0 9 (dk_at dksL_law_0 4 rfl rfl)
theorem dL_law_7 : decode cL_law 7 = .ok (.astore_n 1, 1) := dk_76 (dk_at dksL_law_0 7 rfl rfl)
theorem dL_law_8 : decode cL_law 8 = .ok (.new 10, 3) := dk_187 0 10 (dk_at dksL_law_0 8 rfl rfl)
theorem dL_law_11 : decode cL_law 11 = .ok (.dup, 1) := dk_89 (dk_at dksL_law_0 11 rfl rfl)
theorem dL_law_12 : decode cL_law 12 = .ok (.invokespecial 12, 3) := dk_183 0 12 (dk_at dksL_law_0 12 rfl rfl)
theorem dL_law_15 : decode cL_law 15 = .ok (.astore_n 2, 1) := dk_77 (dk_at dksL_law_0 15 rfl rfl)
theorem dL_law_16 : decode cL_law 16 = .ok (.iconst 0, 1) := dk_3 (dk_at dksL_law_0 16 rfl rfl)
theorem dL_law_17 : decode cL_law 17 = .ok (.istore_n 3, 1) := dk_62 (dk_at dksL_law_0 17 rfl rfl)
theorem dL_law_18 : decode cL_law 18 = .ok (.iload_n 3, 1) := dk_29 (dk_at dksL_law_0 18 rfl rfl)
theorem dL_law_19 : decode cL_law 19 = .ok (.aload_n 0, 1) := dk_42 (dk_at dksL_law_0 19 rfl rfl)
theorem dL_law_20 : decode cL_law 20 = .ok (.arraylength, 1) := dk_190 (dk_at dksL_law_0 20 rfl rfl)
theorem dL_law_21 : decode cL_law 21 = .ok (.bipush 6, 2) := dk_16 6 (dk_at dksL_law_0 21 rfl rfl)
theorem dL_law_23 : decode cL_law 23 = .ok (.isub, 1) := dk_100 (dk_at dksL_law_0 23 rfl rfl)
theorem dL_law_24 : decode cL_law 24 = .ok (.if_icmp .gt 315, 3) := dk_163 1 59 (dk_at dksL_law_1 0 rfl rfl)
theorem dL_law_27 : decode cL_law 27 = .ok (.aload_n 0, 1) := dk_42 (dk_at dksL_law_1 3 rfl rfl)
theorem dL_law_28 : decode cL_law 28 = .ok (.iload_n 3, 1) := dk_29 (dk_at dksL_law_1 4 rfl rfl)
theorem dL_law_29 : decode cL_law 29 = .ok (.iaload, 1) := dk_46 (dk_at dksL_law_1 5 rfl rfl)
theorem dL_law_30 : decode cL_law 30 = .ok (.bipush 7, 2) := dk_16 7 (dk_at dksL_law_1 6 rfl rfl)
theorem dL_law_32 : decode cL_law 32 = .ok (.iand, 1) := dk_126 (dk_at dksL_law_1 8 rfl rfl)
theorem dL_law_33 : decode cL_law 33 = .ok (.tableswitch 300 0 7 #[47, 80, 133, 166, 199, 232, 256, 289], 47) := by decide +kernel
theorem dL_law_80 : decode cL_law 80 = .ok (.aload_n 1, 1) := dk_43 (dk_at dksL_law_3 0 rfl rfl)
theorem dL_law_81 : decode cL_law 81 = .ok (.aload_n 0, 1) := dk_42 (dk_at dksL_law_3 1 rfl rfl)
theorem dL_law_82 : decode cL_law 82 = .ok (.iload_n 3, 1) := dk_29 (dk_at dksL_law_3 2 rfl rfl)
theorem dL_law_83 : decode cL_law 83 = .ok (.iconst 1, 1) := dk_4 (dk_at dksL_law_3 3 rfl rfl)
theorem dL_law_84 : decode cL_law 84 = .ok (.iadd, 1) := dk_96 (dk_at dksL_law_3 4 rfl rfl)
theorem dL_law_85 : decode cL_law 85 = .ok (.iaload, 1) := dk_46 (dk_at dksL_law_3 5 rfl rfl)
theorem dL_law_86 : decode cL_law 86 = .ok (.aload_n 0, 1) := dk_42 (dk_at dksL_law_3 6 rfl rfl)
theorem dL_law_87 : decode cL_law 87 = .ok (.iload_n 3, 1) := dk_29 (dk_at dksL_law_3 7 rfl rfl)
theorem dL_law_88 : decode cL_law 88 = .ok (.iconst 2, 1) := dk_5 (dk_at dksL_law_3 8 rfl rfl)
theorem dL_law_89 : decode cL_law 89 = .ok (.iadd, 1) := dk_96 (dk_at dksL_law_3 9 rfl rfl)
theorem dL_law_90 : decode cL_law 90 = .ok (.iaload, 1) := dk_46 (dk_at dksL_law_3 10 rfl rfl)
theorem dL_law_91 : decode cL_law 91 = .ok (.invokevirtual 13, 3) := dk_182 0 13 (dk_at dksL_law_3 11 rfl rfl)
theorem dL_law_94 : decode cL_law 94 = .ok (.aload_n 2, 1) := dk_44 (dk_at dksL_law_3 14 rfl rfl)
theorem dL_law_95 : decode cL_law 95 = .ok (.aload_n 0, 1) := dk_42 (dk_at dksL_law_3 15 rfl rfl)
theorem dL_law_96 : decode cL_law 96 = .ok (.iload_n 3, 1) := dk_29 (dk_at dksL_law_3 16 rfl rfl)
theorem dL_law_97 : decode cL_law 97 = .ok (.iconst 1, 1) := dk_4 (dk_at dksL_law_3 17 rfl rfl)
theorem dL_law_98 : decode cL_law 98 = .ok (.iadd, 1) := dk_96 (dk_at dksL_law_3 18 rfl rfl)
theorem dL_law_99 : decode cL_law 99 = .ok (.iaload, 1) := dk_46 (dk_at dksL_law_3 19 rfl rfl)
theorem dL_law_100 : decode cL_law 100 = .ok (.aload_n 0, 1) := dk_42 (dk_at dksL_law_3 20 rfl rfl)
theorem dL_law_101 : decode cL_law 101 = .ok (.iload_n 3, 1) := dk_29 (dk_at dksL_law_3 21 rfl rfl)
theorem dL_law_102 : decode cL_law 102 = .ok (.iconst 2, 1) := dk_5 (dk_at dksL_law_3 22 rfl rfl)
theorem dL_law_103 : decode cL_law 103 = .ok (.iadd, 1) := dk_96 (dk_at dksL_law_3 23 rfl rfl)
theorem dL_law_104 : decode cL_law 104 = .ok (.iaload, 1) := dk_46 (dk_at dksL_law_4 0 rfl rfl)
theorem dL_law_105 : decode cL_law 105 = .ok (.invokevirtual 17, 3) := dk_182 0 17 (dk_at dksL_law_4 1 rfl rfl)
theorem dL_law_108 : decode cL_law 108 = .ok (.if_icmp .eq 225, 3) := dk_159 0 225 (dk_at dksL_law_4 4 rfl rfl)
theorem dL_law_111 : decode cL_law 111 = .ok (.iconst 0, 1) := dk_3 (dk_at dksL_law_4 7 rfl rfl)
theorem dL_law_112 : decode cL_law 112 = .ok (.ireturn, 1) := dk_172 (dk_at dksL_law_4 8 rfl rfl)
theorem dL_law_113 : decode cL_law 113 = .ok (.aload_n 1, 1) := dk_43 (dk_at dksL_law_4 9 rfl rfl)
theorem dL_law_114 : decode cL_law 114 = .ok (.aload_n 0, 1) := dk_42 (dk_at dksL_law_4 10 rfl rfl)
theorem dL_law_115 : decode cL_law 115 = .ok (.iload_n 3, 1) := dk_29 (dk_at dksL_law_4 11 rfl rfl)
theorem dL_law_116 : decode cL_law 116 = .ok (.iconst 1, 1) := dk_4 (dk_at dksL_law_4 12 rfl rfl)
theorem dL_law_117 : decode cL_law 117 = .ok (.iadd, 1) := dk_96 (dk_at dksL_law_4 13 rfl rfl)
theorem dL_law_118 : decode cL_law 118 = .ok (.iaload, 1) := dk_46 (dk_at dksL_law_4 14 rfl rfl)
theorem dL_law_119 : decode cL_law 119 = .ok (.aload_n 0, 1) := dk_42 (dk_at dksL_law_4 15 rfl rfl)
theorem dL_law_120 : decode cL_law 120 = .ok (.iload_n 3, 1) := dk_29 (dk_at dksL_law_4 16 rfl rfl)
theorem dL_law_121 : decode cL_law 121 = .ok (.iconst 2, 1) := dk_5 (dk_at dksL_law_4 17 rfl rfl)
theorem dL_law_122 : decode cL_law 122 = .ok (.iadd, 1) := dk_96 (dk_at dksL_law_4 18 rfl rfl)
theorem dL_law_123 : decode cL_law 123 = .ok (.iaload, 1) := dk_46 (dk_at dksL_law_4 19 rfl rfl)
theorem dL_law_124 : decode cL_law 124 = .ok (.aload_n 0, 1) := dk_42 (dk_at dksL_law_4 20 rfl rfl)
theorem dL_law_125 : decode cL_law 125 = .ok (.iload_n 3, 1) := dk_29 (dk_at dksL_law_4 21 rfl rfl)
theorem dL_law_126 : decode cL_law 126 = .ok (.iconst 3, 1) := dk_6 (dk_at dksL_law_4 22 rfl rfl)
theorem dL_law_127 : decode cL_law 127 = .ok (.iadd, 1) := dk_96 (dk_at dksL_law_4 23 rfl rfl)
theorem dL_law_128 : decode cL_law 128 = .ok (.iaload, 1) := dk_46 (dk_at dksL_law_5 0 rfl rfl)
theorem dL_law_129 : decode cL_law 129 = .ok (.aload_n 0, 1) := dk_42 (dk_at dksL_law_5 1 rfl rfl)
theorem dL_law_130 : decode cL_law 130 = .ok (.iload_n 3, 1) := dk_29 (dk_at dksL_law_5 2 rfl rfl)
theorem dL_law_131 : decode cL_law 131 = .ok (.iconst 4, 1) := dk_7 (dk_at dksL_law_5 3 rfl rfl)
theorem dL_law_132 : decode cL_law 132 = .ok (.iadd, 1) := dk_96 (dk_at dksL_law_5 4 rfl rfl)
theorem dL_law_133 : decode cL_law 133 = .ok (.iaload, 1) := dk_46 (dk_at dksL_law_5 5 rfl rfl)
theorem dL_law_134 : decode cL_law 134 = .ok (.invokevirtual 18, 3) := dk_182 0 18 (dk_at dksL_law_5 6 rfl rfl)
theorem dL_law_137 : decode cL_law 137 = .ok (.aload_n 2, 1) := dk_44 (dk_at dksL_law_5 9 rfl rfl)
theorem dL_law_138 : decode cL_law 138 = .ok (.aload_n 0, 1) := dk_42 (dk_at dksL_law_5 10 rfl rfl)
theorem dL_law_139 : decode cL_law 139 = .ok (.iload_n 3, 1) := dk_29 (dk_at dksL_law_5 11 rfl rfl)
theorem dL_law_140 : decode cL_law 140 = .ok (.iconst 1, 1) := dk_4 (dk_at dksL_law_5 12 rfl rfl)
theorem dL_law_141 : decode cL_law 141 = .ok (.iadd, 1) := dk_96 (dk_at dksL_law_5 13 rfl rfl)
theorem dL_law_142 : decode cL_law 142 = .ok (.iaload, 1) := dk_46 (dk_at dksL_law_5 14 rfl rfl)
theorem dL_law_143 : decode cL_law 143 = .ok (.aload_n 0, 1) := dk_42 (dk_at dksL_law_5 15 rfl rfl)
theorem dL_law_144 : decode cL_law 144 = .ok (.iload_n 3, 1) := dk_29 (dk_at dksL_law_5 16 rfl rfl)
theorem dL_law_145 : decode cL_law 145 = .ok (.iconst 2, 1) := dk_5 (dk_at dksL_law_5 17 rfl rfl)
theorem dL_law_146 : decode cL_law 146 = .ok (.iadd, 1) := dk_96 (dk_at dksL_law_5 18 rfl rfl)
theorem dL_law_147 : decode cL_law 147 = .ok (.iaload, 1) := dk_46 (dk_at dksL_law_5 19 rfl rfl)
theorem dL_law_148 : decode cL_law 148 = .ok (.aload_n 0, 1) := dk_42 (dk_at dksL_law_5 20 rfl rfl)
theorem dL_law_149 : decode cL_law 149 = .ok (.iload_n 3, 1) := dk_29 (dk_at dksL_law_5 21 rfl rfl)
theorem dL_law_150 : decode cL_law 150 = .ok (.iconst 3, 1) := dk_6 (dk_at dksL_law_5 22 rfl rfl)
theorem dL_law_151 : decode cL_law 151 = .ok (.iadd, 1) := dk_96 (dk_at dksL_law_5 23 rfl rfl)
theorem dL_law_152 : decode cL_law 152 = .ok (.iaload, 1) := dk_46 (dk_at dksL_law_6 0 rfl rfl)
theorem dL_law_153 : decode cL_law 153 = .ok (.aload_n 0, 1) := dk_42 (dk_at dksL_law_6 1 rfl rfl)
theorem dL_law_154 : decode cL_law 154 = .ok (.iload_n 3, 1) := dk_29 (dk_at dksL_law_6 2 rfl rfl)
theorem dL_law_155 : decode cL_law 155 = .ok (.iconst 4, 1) := dk_7 (dk_at dksL_law_6 3 rfl rfl)
theorem dL_law_156 : decode cL_law 156 = .ok (.iadd, 1) := dk_96 (dk_at dksL_law_6 4 rfl rfl)
theorem dL_law_157 : decode cL_law 157 = .ok (.iaload, 1) := dk_46 (dk_at dksL_law_6 5 rfl rfl)
theorem dL_law_158 : decode cL_law 158 = .ok (.invokevirtual 22, 3) := dk_182 0 22 (dk_at dksL_law_6 6 rfl rfl)
theorem dL_law_161 : decode cL_law 161 = .ok (.if_icmp .eq 172, 3) := dk_159 0 172 (dk_at dksL_law_6 9 rfl rfl)
theorem dL_law_164 : decode cL_law 164 = .ok (.iconst 0, 1) := dk_3 (dk_at dksL_law_6 12 rfl rfl)
theorem dL_law_165 : decode cL_law 165 = .ok (.ireturn, 1) := dk_172 (dk_at dksL_law_6 13 rfl rfl)
theorem dL_law_166 : decode cL_law 166 = .ok (.aload_n 1, 1) := dk_43 (dk_at dksL_law_6 14 rfl rfl)
theorem dL_law_167 : decode cL_law 167 = .ok (.aload_n 0, 1) := dk_42 (dk_at dksL_law_6 15 rfl rfl)
theorem dL_law_168 : decode cL_law 168 = .ok (.iload_n 3, 1) := dk_29 (dk_at dksL_law_6 16 rfl rfl)
theorem dL_law_169 : decode cL_law 169 = .ok (.iconst 1, 1) := dk_4 (dk_at dksL_law_6 17 rfl rfl)
theorem dL_law_170 : decode cL_law 170 = .ok (.iadd, 1) := dk_96 (dk_at dksL_law_6 18 rfl rfl)
theorem dL_law_171 : decode cL_law 171 = .ok (.iaload, 1) := dk_46 (dk_at dksL_law_6 19 rfl rfl)
theorem dL_law_172 : decode cL_law 172 = .ok (.aload_n 0, 1) := dk_42 (dk_at dksL_law_6 20 rfl rfl)
theorem dL_law_173 : decode cL_law 173 = .ok (.iload_n 3, 1) := dk_29 (dk_at dksL_law_6 21 rfl rfl)
theorem dL_law_174 : decode cL_law 174 = .ok (.iconst 2, 1) := dk_5 (dk_at dksL_law_6 22 rfl rfl)
theorem dL_law_175 : decode cL_law 175 = .ok (.iadd, 1) := dk_96 (dk_at dksL_law_6 23 rfl rfl)
theorem dL_law_176 : decode cL_law 176 = .ok (.iaload, 1) := dk_46 (dk_at dksL_law_7 0 rfl rfl)
theorem dL_law_177 : decode cL_law 177 = .ok (.invokevirtual 23, 3) := dk_182 0 23 (dk_at dksL_law_7 1 rfl rfl)
theorem dL_law_180 : decode cL_law 180 = .ok (.aload_n 2, 1) := dk_44 (dk_at dksL_law_7 4 rfl rfl)
theorem dL_law_181 : decode cL_law 181 = .ok (.aload_n 0, 1) := dk_42 (dk_at dksL_law_7 5 rfl rfl)
theorem dL_law_182 : decode cL_law 182 = .ok (.iload_n 3, 1) := dk_29 (dk_at dksL_law_7 6 rfl rfl)
theorem dL_law_183 : decode cL_law 183 = .ok (.iconst 1, 1) := dk_4 (dk_at dksL_law_7 7 rfl rfl)
theorem dL_law_184 : decode cL_law 184 = .ok (.iadd, 1) := dk_96 (dk_at dksL_law_7 8 rfl rfl)
theorem dL_law_185 : decode cL_law 185 = .ok (.iaload, 1) := dk_46 (dk_at dksL_law_7 9 rfl rfl)
theorem dL_law_186 : decode cL_law 186 = .ok (.aload_n 0, 1) := dk_42 (dk_at dksL_law_7 10 rfl rfl)
theorem dL_law_187 : decode cL_law 187 = .ok (.iload_n 3, 1) := dk_29 (dk_at dksL_law_7 11 rfl rfl)
theorem dL_law_188 : decode cL_law 188 = .ok (.iconst 2, 1) := dk_5 (dk_at dksL_law_7 12 rfl rfl)
theorem dL_law_189 : decode cL_law 189 = .ok (.iadd, 1) := dk_96 (dk_at dksL_law_7 13 rfl rfl)
theorem dL_law_190 : decode cL_law 190 = .ok (.iaload, 1) := dk_46 (dk_at dksL_law_7 14 rfl rfl)
theorem dL_law_191 : decode cL_law 191 = .ok (.invokevirtual 27, 3) := dk_182 0 27 (dk_at dksL_law_7 15 rfl rfl)
theorem dL_law_194 : decode cL_law 194 = .ok (.if_icmp .eq 139, 3) := dk_159 0 139 (dk_at dksL_law_7 18 rfl rfl)
theorem dL_law_197 : decode cL_law 197 = .ok (.iconst 0, 1) := dk_3 (dk_at dksL_law_7 21 rfl rfl)
theorem dL_law_198 : decode cL_law 198 = .ok (.ireturn, 1) := dk_172 (dk_at dksL_law_7 22 rfl rfl)
theorem dL_law_199 : decode cL_law 199 = .ok (.aload_n 1, 1) := dk_43 (dk_at dksL_law_7 23 rfl rfl)
theorem dL_law_200 : decode cL_law 200 = .ok (.aload_n 0, 1) := dk_42 (dk_at dksL_law_8 0 rfl rfl)
theorem dL_law_201 : decode cL_law 201 = .ok (.iload_n 3, 1) := dk_29 (dk_at dksL_law_8 1 rfl rfl)
theorem dL_law_202 : decode cL_law 202 = .ok (.iconst 1, 1) := dk_4 (dk_at dksL_law_8 2 rfl rfl)
theorem dL_law_203 : decode cL_law 203 = .ok (.iadd, 1) := dk_96 (dk_at dksL_law_8 3 rfl rfl)
theorem dL_law_204 : decode cL_law 204 = .ok (.iaload, 1) := dk_46 (dk_at dksL_law_8 4 rfl rfl)
theorem dL_law_205 : decode cL_law 205 = .ok (.aload_n 0, 1) := dk_42 (dk_at dksL_law_8 5 rfl rfl)
theorem dL_law_206 : decode cL_law 206 = .ok (.iload_n 3, 1) := dk_29 (dk_at dksL_law_8 6 rfl rfl)
theorem dL_law_207 : decode cL_law 207 = .ok (.iconst 2, 1) := dk_5 (dk_at dksL_law_8 7 rfl rfl)
theorem dL_law_208 : decode cL_law 208 = .ok (.iadd, 1) := dk_96 (dk_at dksL_law_8 8 rfl rfl)
theorem dL_law_209 : decode cL_law 209 = .ok (.iaload, 1) := dk_46 (dk_at dksL_law_8 9 rfl rfl)
theorem dL_law_210 : decode cL_law 210 = .ok (.invokevirtual 28, 3) := dk_182 0 28 (dk_at dksL_law_8 10 rfl rfl)
theorem dL_law_213 : decode cL_law 213 = .ok (.aload_n 2, 1) := dk_44 (dk_at dksL_law_8 13 rfl rfl)
theorem dL_law_214 : decode cL_law 214 = .ok (.aload_n 0, 1) := dk_42 (dk_at dksL_law_8 14 rfl rfl)
theorem dL_law_215 : decode cL_law 215 = .ok (.iload_n 3, 1) := dk_29 (dk_at dksL_law_8 15 rfl rfl)
theorem dL_law_216 : decode cL_law 216 = .ok (.iconst 1, 1) := dk_4 (dk_at dksL_law_8 16 rfl rfl)
theorem dL_law_217 : decode cL_law 217 = .ok (.iadd, 1) := dk_96 (dk_at dksL_law_8 17 rfl rfl)
theorem dL_law_218 : decode cL_law 218 = .ok (.iaload, 1) := dk_46 (dk_at dksL_law_8 18 rfl rfl)
theorem dL_law_219 : decode cL_law 219 = .ok (.aload_n 0, 1) := dk_42 (dk_at dksL_law_8 19 rfl rfl)
theorem dL_law_220 : decode cL_law 220 = .ok (.iload_n 3, 1) := dk_29 (dk_at dksL_law_8 20 rfl rfl)
theorem dL_law_221 : decode cL_law 221 = .ok (.iconst 2, 1) := dk_5 (dk_at dksL_law_8 21 rfl rfl)
theorem dL_law_222 : decode cL_law 222 = .ok (.iadd, 1) := dk_96 (dk_at dksL_law_8 22 rfl rfl)
theorem dL_law_223 : decode cL_law 223 = .ok (.iaload, 1) := dk_46 (dk_at dksL_law_8 23 rfl rfl)
theorem dL_law_224 : decode cL_law 224 = .ok (.invokevirtual 31, 3) := dk_182 0 31 (dk_at dksL_law_9 0 rfl rfl)
theorem dL_law_227 : decode cL_law 227 = .ok (.if_icmp .eq 106, 3) := dk_159 0 106 (dk_at dksL_law_9 3 rfl rfl)
theorem dL_law_230 : decode cL_law 230 = .ok (.iconst 0, 1) := dk_3 (dk_at dksL_law_9 6 rfl rfl)
theorem dL_law_231 : decode cL_law 231 = .ok (.ireturn, 1) := dk_172 (dk_at dksL_law_9 7 rfl rfl)
theorem dL_law_232 : decode cL_law 232 = .ok (.aload_n 1, 1) := dk_43 (dk_at dksL_law_9 8 rfl rfl)
theorem dL_law_233 : decode cL_law 233 = .ok (.aload_n 0, 1) := dk_42 (dk_at dksL_law_9 9 rfl rfl)
theorem dL_law_234 : decode cL_law 234 = .ok (.iload_n 3, 1) := dk_29 (dk_at dksL_law_9 10 rfl rfl)
theorem dL_law_235 : decode cL_law 235 = .ok (.iconst 1, 1) := dk_4 (dk_at dksL_law_9 11 rfl rfl)
theorem dL_law_236 : decode cL_law 236 = .ok (.iadd, 1) := dk_96 (dk_at dksL_law_9 12 rfl rfl)
theorem dL_law_237 : decode cL_law 237 = .ok (.iaload, 1) := dk_46 (dk_at dksL_law_9 13 rfl rfl)
theorem dL_law_238 : decode cL_law 238 = .ok (.aload_n 0, 1) := dk_42 (dk_at dksL_law_9 14 rfl rfl)
theorem dL_law_239 : decode cL_law 239 = .ok (.iload_n 3, 1) := dk_29 (dk_at dksL_law_9 15 rfl rfl)
theorem dL_law_240 : decode cL_law 240 = .ok (.iconst 2, 1) := dk_5 (dk_at dksL_law_9 16 rfl rfl)
theorem dL_law_241 : decode cL_law 241 = .ok (.iadd, 1) := dk_96 (dk_at dksL_law_9 17 rfl rfl)
theorem dL_law_242 : decode cL_law 242 = .ok (.iaload, 1) := dk_46 (dk_at dksL_law_9 18 rfl rfl)
theorem dL_law_243 : decode cL_law 243 = .ok (.invokevirtual 32, 3) := dk_182 0 32 (dk_at dksL_law_9 19 rfl rfl)
theorem dL_law_246 : decode cL_law 246 = .ok (.aload_n 2, 1) := dk_44 (dk_at dksL_law_9 22 rfl rfl)
theorem dL_law_247 : decode cL_law 247 = .ok (.aload_n 0, 1) := dk_42 (dk_at dksL_law_9 23 rfl rfl)
theorem dL_law_248 : decode cL_law 248 = .ok (.iload_n 3, 1) := dk_29 (dk_at dksL_law_10 0 rfl rfl)
theorem dL_law_249 : decode cL_law 249 = .ok (.iconst 1, 1) := dk_4 (dk_at dksL_law_10 1 rfl rfl)
theorem dL_law_250 : decode cL_law 250 = .ok (.iadd, 1) := dk_96 (dk_at dksL_law_10 2 rfl rfl)
theorem dL_law_251 : decode cL_law 251 = .ok (.iaload, 1) := dk_46 (dk_at dksL_law_10 3 rfl rfl)
theorem dL_law_252 : decode cL_law 252 = .ok (.aload_n 0, 1) := dk_42 (dk_at dksL_law_10 4 rfl rfl)
theorem dL_law_253 : decode cL_law 253 = .ok (.iload_n 3, 1) := dk_29 (dk_at dksL_law_10 5 rfl rfl)
theorem dL_law_254 : decode cL_law 254 = .ok (.iconst 2, 1) := dk_5 (dk_at dksL_law_10 6 rfl rfl)
theorem dL_law_255 : decode cL_law 255 = .ok (.iadd, 1) := dk_96 (dk_at dksL_law_10 7 rfl rfl)
theorem dL_law_256 : decode cL_law 256 = .ok (.iaload, 1) := dk_46 (dk_at dksL_law_10 8 rfl rfl)
theorem dL_law_257 : decode cL_law 257 = .ok (.invokevirtual 35, 3) := dk_182 0 35 (dk_at dksL_law_10 9 rfl rfl)
theorem dL_law_260 : decode cL_law 260 = .ok (.if_icmp .eq 73, 3) := dk_159 0 73 (dk_at dksL_law_10 12 rfl rfl)
theorem dL_law_263 : decode cL_law 263 = .ok (.iconst 0, 1) := dk_3 (dk_at dksL_law_10 15 rfl rfl)
theorem dL_law_264 : decode cL_law 264 = .ok (.ireturn, 1) := dk_172 (dk_at dksL_law_10 16 rfl rfl)
theorem dL_law_265 : decode cL_law 265 = .ok (.aload_n 1, 1) := dk_43 (dk_at dksL_law_10 17 rfl rfl)
theorem dL_law_266 : decode cL_law 266 = .ok (.aload_n 0, 1) := dk_42 (dk_at dksL_law_10 18 rfl rfl)
theorem dL_law_267 : decode cL_law 267 = .ok (.iload_n 3, 1) := dk_29 (dk_at dksL_law_10 19 rfl rfl)
theorem dL_law_268 : decode cL_law 268 = .ok (.iconst 1, 1) := dk_4 (dk_at dksL_law_10 20 rfl rfl)
theorem dL_law_269 : decode cL_law 269 = .ok (.iadd, 1) := dk_96 (dk_at dksL_law_10 21 rfl rfl)
theorem dL_law_270 : decode cL_law 270 = .ok (.iaload, 1) := dk_46 (dk_at dksL_law_10 22 rfl rfl)
theorem dL_law_271 : decode cL_law 271 = .ok (.invokevirtual 36, 3) := dk_182 0 36 (dk_at dksL_law_11 0 rfl rfl)
theorem dL_law_274 : decode cL_law 274 = .ok (.aload_n 2, 1) := dk_44 (dk_at dksL_law_11 3 rfl rfl)
theorem dL_law_275 : decode cL_law 275 = .ok (.aload_n 0, 1) := dk_42 (dk_at dksL_law_11 4 rfl rfl)
theorem dL_law_276 : decode cL_law 276 = .ok (.iload_n 3, 1) := dk_29 (dk_at dksL_law_11 5 rfl rfl)
theorem dL_law_277 : decode cL_law 277 = .ok (.iconst 1, 1) := dk_4 (dk_at dksL_law_11 6 rfl rfl)
theorem dL_law_278 : decode cL_law 278 = .ok (.iadd, 1) := dk_96 (dk_at dksL_law_11 7 rfl rfl)
theorem dL_law_279 : decode cL_law 279 = .ok (.iaload, 1) := dk_46 (dk_at dksL_law_11 8 rfl rfl)
theorem dL_law_280 : decode cL_law 280 = .ok (.invokevirtual 40, 3) := dk_182 0 40 (dk_at dksL_law_11 9 rfl rfl)
theorem dL_law_283 : decode cL_law 283 = .ok (.lcmp, 1) := dk_148 (dk_at dksL_law_11 12 rfl rfl)
theorem dL_law_284 : decode cL_law 284 = .ok (.ifCond .eq 49, 3) := dk_153 0 49 (dk_at dksL_law_11 13 rfl rfl)
theorem dL_law_287 : decode cL_law 287 = .ok (.iconst 0, 1) := dk_3 (dk_at dksL_law_11 16 rfl rfl)
theorem dL_law_288 : decode cL_law 288 = .ok (.ireturn, 1) := dk_172 (dk_at dksL_law_11 17 rfl rfl)
theorem dL_law_289 : decode cL_law 289 = .ok (.aload_n 1, 1) := dk_43 (dk_at dksL_law_11 18 rfl rfl)
theorem dL_law_290 : decode cL_law 290 = .ok (.aload_n 0, 1) := dk_42 (dk_at dksL_law_11 19 rfl rfl)
theorem dL_law_291 : decode cL_law 291 = .ok (.iload_n 3, 1) := dk_29 (dk_at dksL_law_11 20 rfl rfl)
theorem dL_law_292 : decode cL_law 292 = .ok (.iconst 1, 1) := dk_4 (dk_at dksL_law_11 21 rfl rfl)
theorem dL_law_293 : decode cL_law 293 = .ok (.iadd, 1) := dk_96 (dk_at dksL_law_11 22 rfl rfl)
theorem dL_law_294 : decode cL_law 294 = .ok (.iaload, 1) := dk_46 (dk_at dksL_law_11 23 rfl rfl)
theorem dL_law_295 : decode cL_law 295 = .ok (.aload_n 0, 1) := dk_42 (dk_at dksL_law_12 0 rfl rfl)
theorem dL_law_296 : decode cL_law 296 = .ok (.iload_n 3, 1) := dk_29 (dk_at dksL_law_12 1 rfl rfl)
theorem dL_law_297 : decode cL_law 297 = .ok (.iconst 2, 1) := dk_5 (dk_at dksL_law_12 2 rfl rfl)
theorem dL_law_298 : decode cL_law 298 = .ok (.iadd, 1) := dk_96 (dk_at dksL_law_12 3 rfl rfl)
theorem dL_law_299 : decode cL_law 299 = .ok (.iaload, 1) := dk_46 (dk_at dksL_law_12 4 rfl rfl)
theorem dL_law_300 : decode cL_law 300 = .ok (.invokevirtual 41, 3) := dk_182 0 41 (dk_at dksL_law_12 5 rfl rfl)
theorem dL_law_303 : decode cL_law 303 = .ok (.aload_n 2, 1) := dk_44 (dk_at dksL_law_12 8 rfl rfl)
theorem dL_law_304 : decode cL_law 304 = .ok (.aload_n 0, 1) := dk_42 (dk_at dksL_law_12 9 rfl rfl)
theorem dL_law_305 : decode cL_law 305 = .ok (.iload_n 3, 1) := dk_29 (dk_at dksL_law_12 10 rfl rfl)
theorem dL_law_306 : decode cL_law 306 = .ok (.iconst 1, 1) := dk_4 (dk_at dksL_law_12 11 rfl rfl)
theorem dL_law_307 : decode cL_law 307 = .ok (.iadd, 1) := dk_96 (dk_at dksL_law_12 12 rfl rfl)
theorem dL_law_308 : decode cL_law 308 = .ok (.iaload, 1) := dk_46 (dk_at dksL_law_12 13 rfl rfl)
theorem dL_law_309 : decode cL_law 309 = .ok (.aload_n 0, 1) := dk_42 (dk_at dksL_law_12 14 rfl rfl)
theorem dL_law_310 : decode cL_law 310 = .ok (.iload_n 3, 1) := dk_29 (dk_at dksL_law_12 15 rfl rfl)
theorem dL_law_311 : decode cL_law 311 = .ok (.iconst 2, 1) := dk_5 (dk_at dksL_law_12 16 rfl rfl)
theorem dL_law_312 : decode cL_law 312 = .ok (.iadd, 1) := dk_96 (dk_at dksL_law_12 17 rfl rfl)
theorem dL_law_313 : decode cL_law 313 = .ok (.iaload, 1) := dk_46 (dk_at dksL_law_12 18 rfl rfl)
theorem dL_law_314 : decode cL_law 314 = .ok (.invokevirtual 44, 3) := dk_182 0 44 (dk_at dksL_law_12 19 rfl rfl)
theorem dL_law_317 : decode cL_law 317 = .ok (.if_icmp .eq 16, 3) := dk_159 0 16 (dk_at dksL_law_13 0 rfl rfl)
theorem dL_law_320 : decode cL_law 320 = .ok (.iconst 0, 1) := dk_3 (dk_at dksL_law_13 3 rfl rfl)
theorem dL_law_321 : decode cL_law 321 = .ok (.ireturn, 1) := dk_172 (dk_at dksL_law_13 4 rfl rfl)
theorem dL_law_322 : decode cL_law 322 = .ok (.aload_n 1, 1) := dk_43 (dk_at dksL_law_13 5 rfl rfl)
theorem dL_law_323 : decode cL_law 323 = .ok (.invokevirtual 45, 3) := dk_182 0 45 (dk_at dksL_law_13 6 rfl rfl)
theorem dL_law_326 : decode cL_law 326 = .ok (.aload_n 2, 1) := dk_44 (dk_at dksL_law_13 9 rfl rfl)
theorem dL_law_327 : decode cL_law 327 = .ok (.invokevirtual 48, 3) := dk_182 0 48 (dk_at dksL_law_13 10 rfl rfl)
theorem dL_law_330 : decode cL_law 330 = .ok (.goto 3, 3) := dk_167 0 3 (dk_at dksL_law_13 13 rfl rfl)
theorem dL_law_333 : decode cL_law 333 = .ok (.iinc 3 6, 3) := dk_132 3 6 (dk_at dksL_law_13 16 rfl rfl)
theorem dL_law_336 : decode cL_law 336 = .ok (.goto (-318), 3) := dk_167 254 194 (dk_at dksL_law_13 19 rfl rfl)
theorem dL_law_339 : decode cL_law 339 = .ok (.iconst 1, 1) := dk_4 (dk_at dksL_law_13 22 rfl rfl)
theorem dL_law_340 : decode cL_law 340 = .ok (.ireturn, 1) := dk_172 (dk_at dksL_law_13 23 rfl rfl)
theorem q6 : (Jvm.Cond.initialized "LongSortDeskLaw") ∈ lw_all := lw_g (lw_at lw_m0 0 rfl) rfl
set_option maxRecDepth 100000
theorem q14 : (Jvm.Cond.classLink "LongSortDeskLaw" (7 : Nat) "LongSortDesk") ∈ lw_all := lw_g (lw_at lw_m0 8 rfl) rfl
theorem q16 : (Jvm.Cond.methodLink "LongSortDeskLaw" (9 : Nat) ({ cls := "LongSortDesk", name := "<init>", desc := "()V" } : Jvm.MethodName)) ∈ lw_all := lw_g (lw_at lw_m0 10 rfl) rfl
theorem q30 : (Jvm.Cond.methodLink "LongSortDeskLaw" (13 : Nat) ({ cls := "LongSortDesk", name := "put", desc := "(II)Z" } : Jvm.MethodName)) ∈ lw_all := lw_g (lw_at lw_m0 24 rfl) rfl
theorem q38 : (Jvm.Cond.methodLink "LongSortDeskLaw" (18 : Nat) ({ cls := "LongSortDesk", name := "ramp", desc := "(IIII)I" } : Jvm.MethodName)) ∈ lw_all := lw_g (lw_at lw_m0 32 rfl) rfl
theorem q44 : (Jvm.Cond.methodLink "LongSortDeskLaw" (23 : Nat) ({ cls := "LongSortDesk", name := "quick", desc := "(II)I" } : Jvm.MethodName)) ∈ lw_all := lw_g (lw_at lw_m0 38 rfl) rfl
theorem q78 : (Jvm.Cond.methodLink "LongSortDeskLaw" (28 : Nat) ({ cls := "LongSortDesk", name := "merge", desc := "(II)I" } : Jvm.MethodName)) ∈ lw_all := lw_g (lw_at lw_m0 72 rfl) rfl
theorem q107 : (Jvm.Cond.methodLink "LongSortDeskLaw" (32 : Nat) ({ cls := "LongSortDesk", name := "radix", desc := "(II)I" } : Jvm.MethodName)) ∈ lw_all := lw_g (lw_at lw_m0 101 rfl) rfl
theorem q116 : (Jvm.Cond.methodLink "LongSortDeskLaw" (36 : Nat) ({ cls := "LongSortDesk", name := "row", desc := "(I)J" } : Jvm.MethodName)) ∈ lw_all := lw_g (lw_at lw_m0 110 rfl) rfl
theorem q120 : (Jvm.Cond.methodLink "LongSortDeskLaw" (41 : Nat) ({ cls := "LongSortDesk", name := "find", desc := "(II)I" } : Jvm.MethodName)) ∈ lw_all := lw_g (lw_at lw_m0 114 rfl) rfl
theorem q127 : (Jvm.Cond.methodLink "LongSortDeskLaw" (45 : Nat) ({ cls := "LongSortDesk", name := "empty", desc := "()V" } : Jvm.MethodName)) ∈ lw_all := lw_g (lw_at lw_m0 121 rfl) rfl
theorem q131 : (Jvm.Cond.classLink "LongSortDeskLaw" (10 : Nat) "LongSortDeskModel") ∈ lw_all := lw_g (lw_at lw_m0 125 rfl) rfl
theorem q133 : (Jvm.Cond.methodLink "LongSortDeskLaw" (12 : Nat) ({ cls := "LongSortDeskModel", name := "<init>", desc := "()V" } : Jvm.MethodName)) ∈ lw_all := lw_g (lw_at lw_m0 127 rfl) rfl
theorem q144 : (Jvm.Cond.methodLink "LongSortDeskLaw" (17 : Nat) ({ cls := "LongSortDeskModel", name := "put", desc := "(II)Z" } : Jvm.MethodName)) ∈ lw_all := lw_g (lw_at lw_m0 138 rfl) rfl
theorem q152 : (Jvm.Cond.methodLink "LongSortDeskLaw" (22 : Nat) ({ cls := "LongSortDeskModel", name := "ramp", desc := "(IIII)I" } : Jvm.MethodName)) ∈ lw_all := lw_g (lw_at lw_m0 146 rfl) rfl
theorem q158 : (Jvm.Cond.methodLink "LongSortDeskLaw" (27 : Nat) ({ cls := "LongSortDeskModel", name := "quick", desc := "(II)I" } : Jvm.MethodName)) ∈ lw_all := lw_g (lw_at lw_m0 152 rfl) rfl
theorem q178 : (Jvm.Cond.methodLink "LongSortDeskLaw" (31 : Nat) ({ cls := "LongSortDeskModel", name := "merge", desc := "(II)I" } : Jvm.MethodName)) ∈ lw_all := lw_g (lw_at lw_m0 172 rfl) rfl
theorem q182 : (Jvm.Cond.methodLink "LongSortDeskLaw" (35 : Nat) ({ cls := "LongSortDeskModel", name := "radix", desc := "(II)I" } : Jvm.MethodName)) ∈ lw_all := lw_g (lw_at lw_m0 176 rfl) rfl
theorem q186 : (Jvm.Cond.methodLink "LongSortDeskLaw" (40 : Nat) ({ cls := "LongSortDeskModel", name := "row", desc := "(I)J" } : Jvm.MethodName)) ∈ lw_all := lw_g (lw_at lw_m0 180 rfl) rfl
theorem q190 : (Jvm.Cond.methodLink "LongSortDeskLaw" (44 : Nat) ({ cls := "LongSortDeskModel", name := "find", desc := "(II)I" } : Jvm.MethodName)) ∈ lw_all := lw_g (lw_at lw_m0 184 rfl) rfl
theorem q194 : (Jvm.Cond.methodLink "LongSortDeskLaw" (48 : Nat) ({ cls := "LongSortDeskModel", name := "empty", desc := "()V" } : Jvm.MethodName)) ∈ lw_all := lw_g (lw_at lw_m0 188 rfl) rfl
theorem q96 : (Jvm.Cond.sameMethod "[J" "java/lang/Object" "clone" "()Ljava/lang/Object;") ∈ lw_all := lw_g (lw_at lw_m0 90 rfl) rfl
set_option maxRecDepth 100000
theorem q99 : (Jvm.Cond.selects "[J" ({ cls := "[J", name := "clone", desc := "()Ljava/lang/Object;" } : Jvm.MethodName) ({ cls := "java/lang/Object", name := "clone", desc := "()Ljava/lang/Object;" } : Jvm.MethodName)) ∈ lw_all := lw_g (lw_at lw_m0 93 rfl) rfl
theorem q100 : (Jvm.Cond.castable "[J" "java/lang/Cloneable") ∈ lw_tbl := lw_at lw_m0 94 rfl
theorem q13 : (Jvm.Cond.initialized "java/lang/System") ∈ lw_all := lw_g (lw_at lw_m0 7 rfl) rfl
set_option maxRecDepth 100000
theorem q104 : (Jvm.Cond.static ({ cls := "java/lang/System", name := "arraycopy", desc := "(Ljava/lang/Object;ILjava/lang/Object;II)V" } : Jvm.MethodName)) ∈ lw_all := lw_g (lw_at lw_m0 98 rfl) rfl
theorem q105 : (Jvm.Cond.native ({ cls := "java/lang/System", name := "arraycopy", desc := "(Ljava/lang/Object;ILjava/lang/Object;II)V" } : Jvm.MethodName)) ∈ lw_all := lw_g (lw_at lw_m0 99 rfl) rfl
theorem q29 : (Jvm.Cond.arrayClass Jvm.ClassFile.FieldType.long) ∈ lw_all := lw_g (lw_at lw_m0 23 rfl) rfl
set_option maxRecDepth 100000
theorem q115 : (Jvm.Cond.arrayClass Jvm.ClassFile.FieldType.int) ∈ lw_all := lw_g (lw_at lw_m0 109 rfl) rfl
end
section
/-! ints as iI z; rows over them; worlds with arrays of longs; calls -/
set_option maxRecDepth 100000
def iI (z : Int) : Int32 := Int32.ofInt z
def iR (z : Int) : Prop := -2147483648 ≤ z ∧ z < 2147483648
theorem iI_nI (n : Nat) : nI n = iI (n : Int) := by
  apply Int32.toBitVec_inj.mp
  simp [nI, iI]
theorem iI_add (a b : Int) : iI a + iI b = iI (a + b) := (Int32.ofInt_add a b).symm
theorem iI_sub (a b : Int) : iI a - iI b = iI (a - b) := (Int32.ofInt_sub a b).symm
theorem iI_mul (a b : Int) : iI a * iI b = iI (a * b) := (Int32.ofInt_mul a b).symm
theorem iI_neg (a : Int) : -iI a = iI (-a) := (Int32.ofInt_neg a).symm
theorem iI_toInt {z : Int} (h : iR z) : (iI z).toInt = z := Int32.toInt_ofInt_of_le h.1 h.2
theorem iI_le {x y : Int} (hx : iR x) (hy : iR y) : iI x ≤ iI y ↔ x ≤ y := by
  rw [Int32.le_iff_toInt_le, iI_toInt hx, iI_toInt hy]
theorem iI_lt {x y : Int} (hx : iR x) (hy : iR y) : iI x < iI y ↔ x < y := by
  rw [Int32.lt_iff_toInt_lt, iI_toInt hx, iI_toInt hy]
theorem iI_eq {x y : Int} (hx : iR x) (hy : iR y) : iI x = iI y ↔ x = y := by
  rw [← Int32.toInt_inj, iI_toInt hx, iI_toInt hy]
theorem iR_0 : iR 0 := by unfold iR; omega
theorem iI_clamp (k : Nat) (h : k < 2147483648) : (iI (k : Int)).toNatClampNeg = k := by
  rw [← iI_nI]; exact nI_clamp (by omega)
theorem iI_in {k N : Nat} (h : k < N) (hN : N < 2147483648) : vp_in (iI (k : Int)) N := by
  rw [← iI_nI]; exact vp_in_nI h (by omega)
theorem iI_div {a b : Int} (ha : 0 ≤ a ∧ a < 2147483648) (hb : 0 < b ∧ b < 2147483648) : iI a / iI b = iI (a / b) := by
  obtain ⟨n, rfl⟩ := Int.eq_ofNat_of_zero_le ha.1
  obtain ⟨d, rfl⟩ := Int.eq_ofNat_of_zero_le (Int.le_of_lt hb.1)
  rw [← iI_nI, ← iI_nI, pk_div (by omega) (by omega) (by omega), iI_nI]
  congr 1
theorem iI_rem {a b : Int} (ha : 0 ≤ a ∧ a < 2147483648) (hb : 0 < b ∧ b < 2147483648) : iI a - iI a / iI b * iI b = iI (a % b) := by
  obtain ⟨n, rfl⟩ := Int.eq_ofNat_of_zero_le ha.1
  obtain ⟨d, rfl⟩ := Int.eq_ofNat_of_zero_le (Int.le_of_lt hb.1)
  rw [← iI_nI, ← iI_nI, pk_rem (by omega) (by omega) (by omega), iI_nI]
  congr 1
theorem iI_ushr1 {a : Int} (ha : 0 ≤ a ∧ a < 2147483648) : ((iI a).toUInt32 >>> ((iI 1).toUInt32 &&& Int32.toUInt32 31)).toInt32 = iI (a / 2) := by
  obtain ⟨n, rfl⟩ := Int.eq_ofNat_of_zero_le ha.1
  rw [← iI_nI, pk_ushrN (by omega) (iI 1) 1 (by decide), iI_nI]
  congr 1
theorem iI_min (x y : Int) (hx : iR x) (hy : iR y) : (if iI y < iI x then iI y else iI x) = iI (min x y) := by
  by_cases h : y < x
  · rw [if_pos ((iI_lt hy hx).mpr h)]; congr 1; omega
  · rw [if_neg (fun q => h ((iI_lt hy hx).mp q))]; congr 1; omega
section XI
variable {p : Program} {l : Launch} {e : Env} {R : Room} {s : State} {m : MethodId} {args : Array Value} {below : List Frame} {meth : Method} {c : Code} {H : Heap} {locs : List Loc} {cells slots : Nat} {Q : State → Prop}
variable {cc : ByteArray} {pc : Nat} {ls : Array Slot} {rest : List Value}
theorem xi_top {z z' : Int} (h : z = z') (k : W p l e R s m args below meth c H locs cells slots Q (F0 m pc ls (.int (iI z') :: rest))) : W p l e R s m args below meth c H locs cells slots Q (F0 m pc ls (.int (iI z) :: rest)) := h ▸ k
theorem xi_topr {z : Int32} (z' : Int) (h : z = iI z') (k : W p l e R s m args below meth c H locs cells slots Q (F0 m pc ls (.int (iI z') :: rest))) : W p l e R s m args below meth c H locs cells slots Q (F0 m pc ls (.int z :: rest)) := h ▸ k
theorem xl_top {z : Int64} (z' : Int64) (h : z = z') (k : W p l e R s m args below meth c H locs cells slots Q (F0 m pc ls (.long z' :: rest))) : W p l e R s m args below meth c H locs cells slots Q (F0 m pc ls (.long z :: rest)) := h ▸ k
theorem xi_iconst (hexec : p.tables.exec = Jvm.exec) (hb : c.code = cc) {n : Int} (hdg : decode cc pc = .ok (.iconst n, 1)) (k : W p l e R s m args below meth c H locs cells slots Q (F0 m (pc + 1) ls (.int (iI n) :: rest))) : W p l e R s m args below meth c H locs cells slots Q (F0 m pc ls rest) := lv_iconst hexec hb hdg rfl k
theorem xi_bipush (hexec : p.tables.exec = Jvm.exec) (hb : c.code = cc) {n : Int} (hdg : decode cc pc = .ok (.bipush n, 2)) (hv : (Int8.ofInt n).toInt32 = iI n) (k : W p l e R s m args below meth c H locs cells slots Q (F0 m (pc + 2) ls (.int (iI n) :: rest))) : W p l e R s m args below meth c H locs cells slots Q (F0 m pc ls rest) := lv_bipush hexec hb hdg hv k
theorem xi_sipush (hexec : p.tables.exec = Jvm.exec) (hb : c.code = cc) {n : Int} (hdg : decode cc pc = .ok (.sipush n, 3)) (hv : (Int16.ofInt n).toInt32 = iI n) (k : W p l e R s m args below meth c H locs cells slots Q (F0 m (pc + 3) ls (.int (iI n) :: rest))) : W p l e R s m args below meth c H locs cells slots Q (F0 m pc ls rest) := lv_sipush hexec hb hdg hv k
theorem xi_iadd (hexec : p.tables.exec = Jvm.exec) (hb : c.code = cc) {x y : Int} (hdg : decode cc pc = .ok (.iadd, 1)) (k : W p l e R s m args below meth c H locs cells slots Q (F0 m (pc + 1) ls (.int (iI (x + y)) :: rest))) : W p l e R s m args below meth c H locs cells slots Q (F0 m pc ls (.int (iI y) :: .int (iI x) :: rest)) := lv_iadd hexec hb hdg (by rw [iI_add]; exact k)
theorem xi_isub (hexec : p.tables.exec = Jvm.exec) (hb : c.code = cc) {x y : Int} (hdg : decode cc pc = .ok (.isub, 1)) (k : W p l e R s m args below meth c H locs cells slots Q (F0 m (pc + 1) ls (.int (iI (x - y)) :: rest))) : W p l e R s m args below meth c H locs cells slots Q (F0 m pc ls (.int (iI y) :: .int (iI x) :: rest)) := lv_isub hexec hb hdg (by rw [iI_sub]; exact k)
theorem xi_imul (hexec : p.tables.exec = Jvm.exec) (hb : c.code = cc) {x y : Int} (hdg : decode cc pc = .ok (.imul, 1)) (k : W p l e R s m args below meth c H locs cells slots Q (F0 m (pc + 1) ls (.int (iI (x * y)) :: rest))) : W p l e R s m args below meth c H locs cells slots Q (F0 m pc ls (.int (iI y) :: .int (iI x) :: rest)) := lv_imul hexec hb hdg (by rw [iI_mul]; exact k)
theorem xi_ineg (hexec : p.tables.exec = Jvm.exec) (hb : c.code = cc) {x : Int} (hdg : decode cc pc = .ok (.ineg, 1)) (k : W p l e R s m args below meth c H locs cells slots Q (F0 m (pc + 1) ls (.int (iI (-x)) :: rest))) : W p l e R s m args below meth c H locs cells slots Q (F0 m pc ls (.int (iI x) :: rest)) := lv_ineg hexec hb hdg (by rw [iI_neg]; exact k)
theorem xi_idiv (hexec : p.tables.exec = Jvm.exec) (hb : c.code = cc) {x y : Int} (ha : 0 ≤ x ∧ x < 2147483648) (hd : 0 < y ∧ y < 2147483648) (hdg : decode cc pc = .ok (.idiv, 1)) (k : W p l e R s m args below meth c H locs cells slots Q (F0 m (pc + 1) ls (.int (iI (x / y)) :: rest))) : W p l e R s m args below meth c H locs cells slots Q (F0 m pc ls (.int (iI y) :: .int (iI x) :: rest)) :=
  lv_idiv hexec hb hdg (fun h => absurd ((iI_eq (y := 0) (by unfold iR; omega) iR_0).mp h) (by omega)) (by rw [iI_div ha hd]; exact k)
theorem xi_irem (hexec : p.tables.exec = Jvm.exec) (hb : c.code = cc) {x y : Int} (ha : 0 ≤ x ∧ x < 2147483648) (hd : 0 < y ∧ y < 2147483648) (hdg : decode cc pc = .ok (.irem, 1)) (k : W p l e R s m args below meth c H locs cells slots Q (F0 m (pc + 1) ls (.int (iI (x % y)) :: rest))) : W p l e R s m args below meth c H locs cells slots Q (F0 m pc ls (.int (iI y) :: .int (iI x) :: rest)) :=
  lv_irem hexec hb hdg (fun h => absurd ((iI_eq (y := 0) (by unfold iR; omega) iR_0).mp h) (by omega)) (by rw [iI_rem ha hd]; exact k)
theorem xi_iushr1 (hexec : p.tables.exec = Jvm.exec) (hb : c.code = cc) {x : Int} (ha : 0 ≤ x ∧ x < 2147483648) (hdg : decode cc pc = .ok (.iushr, 1)) (k : W p l e R s m args below meth c H locs cells slots Q (F0 m (pc + 1) ls (.int (iI (x / 2)) :: rest))) : W p l e R s m args below meth c H locs cells slots Q (F0 m pc ls (.int (iI 1) :: .int (iI x) :: rest)) :=
  lv_iushr hexec hb hdg (iI_ushr1 ha) k
theorem xi_icmp_eq (hexec : p.tables.exec = Jvm.exec) (hb : c.code = cc) {x y : Int} {off : Int} {tgt : Nat} (hdg : decode cc pc = .ok (.if_icmp .eq off, 3)) (ht : (pc : Int) + off = (tgt : Int)) (hx : iR x) (hy : iR y) (kt : x = y → W p l e R s m args below meth c H locs cells slots Q (F0 m tgt ls rest)) (kf : x ≠ y → W p l e R s m args below meth c H locs cells slots Q (F0 m (pc + 3) ls rest)) : W p l e R s m args below meth c H locs cells slots Q (F0 m pc ls (.int (iI y) :: .int (iI x) :: rest)) := lv_icmp_eq hexec hb hdg ht (fun h => kt ((iI_eq hx hy).mp h)) (fun h => kf (fun q => h ((iI_eq hx hy).mpr q)))
theorem xi_if_eq (hexec : p.tables.exec = Jvm.exec) (hb : c.code = cc) {x : Int} {off : Int} {tgt : Nat} (hdg : decode cc pc = .ok (.ifCond .eq off, 3)) (ht : (pc : Int) + off = (tgt : Int)) (hx : iR x) (kt : x = 0 → W p l e R s m args below meth c H locs cells slots Q (F0 m tgt ls rest)) (kf : x ≠ 0 → W p l e R s m args below meth c H locs cells slots Q (F0 m (pc + 3) ls rest)) : W p l e R s m args below meth c H locs cells slots Q (F0 m pc ls (.int (iI x) :: rest)) := lv_if_eq hexec hb hdg ht (fun h => kt ((iI_eq hx iR_0).mp h)) (fun h => kf (fun q => h ((iI_eq hx iR_0).mpr q)))
theorem xi_icmp_ne (hexec : p.tables.exec = Jvm.exec) (hb : c.code = cc) {x y : Int} {off : Int} {tgt : Nat} (hdg : decode cc pc = .ok (.if_icmp .ne off, 3)) (ht : (pc : Int) + off = (tgt : Int)) (hx : iR x) (hy : iR y) (kt : x ≠ y → W p l e R s m args below meth c H locs cells slots Q (F0 m tgt ls rest)) (kf : x = y → W p l e R s m args below meth c H locs cells slots Q (F0 m (pc + 3) ls rest)) : W p l e R s m args below meth c H locs cells slots Q (F0 m pc ls (.int (iI y) :: .int (iI x) :: rest)) := lv_icmp_ne hexec hb hdg ht (fun h => kt (fun q => h ((iI_eq hx hy).mpr q))) (fun h => kf ((iI_eq hx hy).mp h))
theorem xi_if_ne (hexec : p.tables.exec = Jvm.exec) (hb : c.code = cc) {x : Int} {off : Int} {tgt : Nat} (hdg : decode cc pc = .ok (.ifCond .ne off, 3)) (ht : (pc : Int) + off = (tgt : Int)) (hx : iR x) (kt : x ≠ 0 → W p l e R s m args below meth c H locs cells slots Q (F0 m tgt ls rest)) (kf : x = 0 → W p l e R s m args below meth c H locs cells slots Q (F0 m (pc + 3) ls rest)) : W p l e R s m args below meth c H locs cells slots Q (F0 m pc ls (.int (iI x) :: rest)) := lv_if_ne hexec hb hdg ht (fun h => kt (fun q => h ((iI_eq hx iR_0).mpr q))) (fun h => kf ((iI_eq hx iR_0).mp h))
theorem xi_icmp_lt (hexec : p.tables.exec = Jvm.exec) (hb : c.code = cc) {x y : Int} {off : Int} {tgt : Nat} (hdg : decode cc pc = .ok (.if_icmp .lt off, 3)) (ht : (pc : Int) + off = (tgt : Int)) (hx : iR x) (hy : iR y) (kt : x < y → W p l e R s m args below meth c H locs cells slots Q (F0 m tgt ls rest)) (kf : y ≤ x → W p l e R s m args below meth c H locs cells slots Q (F0 m (pc + 3) ls rest)) : W p l e R s m args below meth c H locs cells slots Q (F0 m pc ls (.int (iI y) :: .int (iI x) :: rest)) := lv_icmp_lt hexec hb hdg ht (fun h => kt ((iI_lt hx hy).mp h)) (fun h => kf (Int.not_lt.mp (fun q => h ((iI_lt hx hy).mpr q))))
theorem xi_if_lt (hexec : p.tables.exec = Jvm.exec) (hb : c.code = cc) {x : Int} {off : Int} {tgt : Nat} (hdg : decode cc pc = .ok (.ifCond .lt off, 3)) (ht : (pc : Int) + off = (tgt : Int)) (hx : iR x) (kt : x < 0 → W p l e R s m args below meth c H locs cells slots Q (F0 m tgt ls rest)) (kf : 0 ≤ x → W p l e R s m args below meth c H locs cells slots Q (F0 m (pc + 3) ls rest)) : W p l e R s m args below meth c H locs cells slots Q (F0 m pc ls (.int (iI x) :: rest)) := lv_if_lt hexec hb hdg ht (fun h => kt ((iI_lt hx iR_0).mp h)) (fun h => kf (Int.not_lt.mp (fun q => h ((iI_lt hx iR_0).mpr q))))
theorem xi_icmp_ge (hexec : p.tables.exec = Jvm.exec) (hb : c.code = cc) {x y : Int} {off : Int} {tgt : Nat} (hdg : decode cc pc = .ok (.if_icmp .ge off, 3)) (ht : (pc : Int) + off = (tgt : Int)) (hx : iR x) (hy : iR y) (kt : y ≤ x → W p l e R s m args below meth c H locs cells slots Q (F0 m tgt ls rest)) (kf : x < y → W p l e R s m args below meth c H locs cells slots Q (F0 m (pc + 3) ls rest)) : W p l e R s m args below meth c H locs cells slots Q (F0 m pc ls (.int (iI y) :: .int (iI x) :: rest)) := lv_icmp_ge hexec hb hdg ht (fun h => kt ((iI_le hy hx).mp h)) (fun h => kf (Int.not_le.mp (fun q => h ((iI_le hy hx).mpr q))))
theorem xi_if_ge (hexec : p.tables.exec = Jvm.exec) (hb : c.code = cc) {x : Int} {off : Int} {tgt : Nat} (hdg : decode cc pc = .ok (.ifCond .ge off, 3)) (ht : (pc : Int) + off = (tgt : Int)) (hx : iR x) (kt : 0 ≤ x → W p l e R s m args below meth c H locs cells slots Q (F0 m tgt ls rest)) (kf : x < 0 → W p l e R s m args below meth c H locs cells slots Q (F0 m (pc + 3) ls rest)) : W p l e R s m args below meth c H locs cells slots Q (F0 m pc ls (.int (iI x) :: rest)) := lv_if_ge hexec hb hdg ht (fun h => kt ((iI_le iR_0 hx).mp h)) (fun h => kf (Int.not_le.mp (fun q => h ((iI_le iR_0 hx).mpr q))))
theorem xi_icmp_gt (hexec : p.tables.exec = Jvm.exec) (hb : c.code = cc) {x y : Int} {off : Int} {tgt : Nat} (hdg : decode cc pc = .ok (.if_icmp .gt off, 3)) (ht : (pc : Int) + off = (tgt : Int)) (hx : iR x) (hy : iR y) (kt : y < x → W p l e R s m args below meth c H locs cells slots Q (F0 m tgt ls rest)) (kf : x ≤ y → W p l e R s m args below meth c H locs cells slots Q (F0 m (pc + 3) ls rest)) : W p l e R s m args below meth c H locs cells slots Q (F0 m pc ls (.int (iI y) :: .int (iI x) :: rest)) := lv_icmp_gt hexec hb hdg ht (fun h => kt ((iI_lt hy hx).mp h)) (fun h => kf (Int.not_lt.mp (fun q => h ((iI_lt hy hx).mpr q))))
theorem xi_if_gt (hexec : p.tables.exec = Jvm.exec) (hb : c.code = cc) {x : Int} {off : Int} {tgt : Nat} (hdg : decode cc pc = .ok (.ifCond .gt off, 3)) (ht : (pc : Int) + off = (tgt : Int)) (hx : iR x) (kt : 0 < x → W p l e R s m args below meth c H locs cells slots Q (F0 m tgt ls rest)) (kf : x ≤ 0 → W p l e R s m args below meth c H locs cells slots Q (F0 m (pc + 3) ls rest)) : W p l e R s m args below meth c H locs cells slots Q (F0 m pc ls (.int (iI x) :: rest)) := lv_if_gt hexec hb hdg ht (fun h => kt ((iI_lt iR_0 hx).mp h)) (fun h => kf (Int.not_lt.mp (fun q => h ((iI_lt iR_0 hx).mpr q))))
theorem xi_icmp_le (hexec : p.tables.exec = Jvm.exec) (hb : c.code = cc) {x y : Int} {off : Int} {tgt : Nat} (hdg : decode cc pc = .ok (.if_icmp .le off, 3)) (ht : (pc : Int) + off = (tgt : Int)) (hx : iR x) (hy : iR y) (kt : x ≤ y → W p l e R s m args below meth c H locs cells slots Q (F0 m tgt ls rest)) (kf : y < x → W p l e R s m args below meth c H locs cells slots Q (F0 m (pc + 3) ls rest)) : W p l e R s m args below meth c H locs cells slots Q (F0 m pc ls (.int (iI y) :: .int (iI x) :: rest)) := lv_icmp_le hexec hb hdg ht (fun h => kt ((iI_le hx hy).mp h)) (fun h => kf (Int.not_le.mp (fun q => h ((iI_le hx hy).mpr q))))
theorem xi_if_le (hexec : p.tables.exec = Jvm.exec) (hb : c.code = cc) {x : Int} {off : Int} {tgt : Nat} (hdg : decode cc pc = .ok (.ifCond .le off, 3)) (ht : (pc : Int) + off = (tgt : Int)) (hx : iR x) (kt : x ≤ 0 → W p l e R s m args below meth c H locs cells slots Q (F0 m tgt ls rest)) (kf : 0 < x → W p l e R s m args below meth c H locs cells slots Q (F0 m (pc + 3) ls rest)) : W p l e R s m args below meth c H locs cells slots Q (F0 m pc ls (.int (iI x) :: rest)) := lv_if_le hexec hb hdg ht (fun h => kt ((iI_le hx iR_0).mp h)) (fun h => kf (Int.not_le.mp (fun q => h ((iI_le hx iR_0).mpr q))))
theorem xl_cmp_eq (hexec : p.tables.exec = Jvm.exec) (hb : c.code = cc) {x y : Int64} {off : Int} {tgt : Nat} (hd0 : decode cc pc = .ok (.lcmp, 1)) (hdg : decode cc (pc + 1) = .ok (.ifCond .eq off, 3)) (ht : ((pc + 1 : Nat) : Int) + off = (tgt : Int)) (kt : x = y → W p l e R s m args below meth c H locs cells slots Q (F0 m tgt ls rest)) (kf : x ≠ y → W p l e R s m args below meth c H locs cells slots Q (F0 m (pc + 4) ls rest)) : W p l e R s m args below meth c H locs cells slots Q (F0 m pc ls (.long y :: .long x :: rest)) := W.lcmp hexec hb hd0 (lv_if_eq hexec hb hdg ht (fun h => kt ((lg_cmp_eq x y).mp h)) (fun h => kf (fun q => h ((lg_cmp_eq x y).mpr q))))
theorem xl_cmp_ne (hexec : p.tables.exec = Jvm.exec) (hb : c.code = cc) {x y : Int64} {off : Int} {tgt : Nat} (hd0 : decode cc pc = .ok (.lcmp, 1)) (hdg : decode cc (pc + 1) = .ok (.ifCond .ne off, 3)) (ht : ((pc + 1 : Nat) : Int) + off = (tgt : Int)) (kt : x ≠ y → W p l e R s m args below meth c H locs cells slots Q (F0 m tgt ls rest)) (kf : x = y → W p l e R s m args below meth c H locs cells slots Q (F0 m (pc + 4) ls rest)) : W p l e R s m args below meth c H locs cells slots Q (F0 m pc ls (.long y :: .long x :: rest)) := W.lcmp hexec hb hd0 (lv_if_ne hexec hb hdg ht (fun h => kt (fun q => h ((lg_cmp_eq x y).mpr q))) (fun h => kf ((lg_cmp_eq x y).mp h)))
theorem xl_cmp_lt (hexec : p.tables.exec = Jvm.exec) (hb : c.code = cc) {x y : Int64} {off : Int} {tgt : Nat} (hd0 : decode cc pc = .ok (.lcmp, 1)) (hdg : decode cc (pc + 1) = .ok (.ifCond .lt off, 3)) (ht : ((pc + 1 : Nat) : Int) + off = (tgt : Int)) (kt : x < y → W p l e R s m args below meth c H locs cells slots Q (F0 m tgt ls rest)) (kf : y ≤ x → W p l e R s m args below meth c H locs cells slots Q (F0 m (pc + 4) ls rest)) : W p l e R s m args below meth c H locs cells slots Q (F0 m pc ls (.long y :: .long x :: rest)) := W.lcmp hexec hb hd0 (lv_if_lt hexec hb hdg ht (fun h => kt ((lg_cmp_lt x y).mp h)) (fun h => kf (Int64.not_lt.mp (fun q => h ((lg_cmp_lt x y).mpr q)))))
theorem xl_cmp_ge (hexec : p.tables.exec = Jvm.exec) (hb : c.code = cc) {x y : Int64} {off : Int} {tgt : Nat} (hd0 : decode cc pc = .ok (.lcmp, 1)) (hdg : decode cc (pc + 1) = .ok (.ifCond .ge off, 3)) (ht : ((pc + 1 : Nat) : Int) + off = (tgt : Int)) (kt : y ≤ x → W p l e R s m args below meth c H locs cells slots Q (F0 m tgt ls rest)) (kf : x < y → W p l e R s m args below meth c H locs cells slots Q (F0 m (pc + 4) ls rest)) : W p l e R s m args below meth c H locs cells slots Q (F0 m pc ls (.long y :: .long x :: rest)) := W.lcmp hexec hb hd0 (lv_if_ge hexec hb hdg ht (fun h => kt ((lg_cmp_ge x y).mp h)) (fun h => kf (Int64.not_le.mp (fun q => h ((lg_cmp_ge x y).mpr q)))))
theorem xl_cmp_gt (hexec : p.tables.exec = Jvm.exec) (hb : c.code = cc) {x y : Int64} {off : Int} {tgt : Nat} (hd0 : decode cc pc = .ok (.lcmp, 1)) (hdg : decode cc (pc + 1) = .ok (.ifCond .gt off, 3)) (ht : ((pc + 1 : Nat) : Int) + off = (tgt : Int)) (kt : y < x → W p l e R s m args below meth c H locs cells slots Q (F0 m tgt ls rest)) (kf : x ≤ y → W p l e R s m args below meth c H locs cells slots Q (F0 m (pc + 4) ls rest)) : W p l e R s m args below meth c H locs cells slots Q (F0 m pc ls (.long y :: .long x :: rest)) := W.lcmp hexec hb hd0 (lv_if_gt hexec hb hdg ht (fun h => kt ((lg_cmp_gt x y).mp h)) (fun h => kf (Int64.not_lt.mp (fun q => h ((lg_cmp_gt x y).mpr q)))))
theorem xl_cmp_le (hexec : p.tables.exec = Jvm.exec) (hb : c.code = cc) {x y : Int64} {off : Int} {tgt : Nat} (hd0 : decode cc pc = .ok (.lcmp, 1)) (hdg : decode cc (pc + 1) = .ok (.ifCond .le off, 3)) (ht : ((pc + 1 : Nat) : Int) + off = (tgt : Int)) (kt : x ≤ y → W p l e R s m args below meth c H locs cells slots Q (F0 m tgt ls rest)) (kf : y < x → W p l e R s m args below meth c H locs cells slots Q (F0 m (pc + 4) ls rest)) : W p l e R s m args below meth c H locs cells slots Q (F0 m pc ls (.long y :: .long x :: rest)) := W.lcmp hexec hb hd0 (lv_if_le hexec hb hdg ht (fun h => kt ((lg_cmp_le x y).mp h)) (fun h => kf (Int64.not_le.mp (fun q => h ((lg_cmp_le x y).mpr q)))))
end XI
/-- an array of longs: its class d, its length N, its contents x -/
abbrev La (d : ClassId) (N : Nat) (x : Nat → Int64) : va_E := .inl (d, N, .inr (.inl x))
abbrev Li (d : ClassId) (N : Nat) (x : Nat → Int32) : va_E := .inl (d, N, .inl x)
abbrev vwCl : List vw_C := [(RX0, TX0, 2), (RX1, TX1, 2)]
/-- the word that clone asks for -/
abbrev xNw (U : State) : Prop := va_Nw (.castable "[J" "java/lang/Cloneable") U
/-- since s: the world ws, its array classes tys, nothing outside A has changed, the heap is H -/
def xW (D : va_G) (tys : List (ClassId × FieldType)) (A : Nat → Prop) (s : State) (ws : va_W) (H : Heap) (locs : List Loc) : Prop := va_K D vwCl tys s ∧ va_P D vwCl ws H ∧ va_D A ws ∧ va_S A s.heap H locs ∧ (∀ q, s.heap.size ≤ q → A q) ∧ xNw s
section XW
variable {p : Program} {l : Launch} {e : Env} {R : Room} {s : State} {m : MethodId} {args : Array Value} {below : List Frame} {meth : Method} {c : Code} {H : Heap} {locs : List Loc} {cells slots : Nat} {Q : State → Prop}
variable {cc : ByteArray} {pc : Nat} {ls : Array Slot} {rest : List Value}
variable {D : va_G} {tys : List (ClassId × FieldType)} {A : Nat → Prop} {ws : va_W} {a : Nat}
theorem xa_lald (hexec : p.tables.exec = Jvm.exec) (hb : c.code = cc) (w : xW D tys A s ws H locs) (q0 t0 : Nat) {d : ClassId} {N : Nat} {x : Nat → Int64} (ha : ws[q0]? = some (a, La d N x)) (ht : tys[t0]? = some (d, .long)) {z : Int} (k : Nat) (hz : z = (k : Int)) (hk : k < N) (hN : N < 2147483648) (hdg : decode cc pc = .ok (.laload, 1))
    (kk : W p l e R s m args below meth c H locs cells slots Q (F0 m (pc + 1) ls (.long (x k) :: rest))) : W p l e R s m args below meth c H locs cells slots Q (F0 m pc ls (.int (iI z) :: .ref a :: rest)) := by
  subst hz
  refine va_lald hexec hb w.1 w.2.1 q0 t0 ha ht (iI_in hk hN) hdg ?_
  rw [iI_clamp k (by omega)]
  exact kk
theorem xa_iald (hexec : p.tables.exec = Jvm.exec) (hb : c.code = cc) (w : xW D tys A s ws H locs) (q0 t0 : Nat) {d : ClassId} {N : Nat} {x : Nat → Int32} (ha : ws[q0]? = some (a, Li d N x)) (ht : tys[t0]? = some (d, .int)) {z : Int} (k : Nat) (hz : z = (k : Int)) (hk : k < N) (hN : N < 2147483648) (hdg : decode cc pc = .ok (.iaload, 1))
    (kk : W p l e R s m args below meth c H locs cells slots Q (F0 m (pc + 1) ls (.int (x k) :: rest))) : W p l e R s m args below meth c H locs cells slots Q (F0 m pc ls (.int (iI z) :: .ref a :: rest)) := by
  subst hz
  refine va_iald hexec hb w.1 w.2.1 q0 t0 ha ht (iI_in hk hN) hdg ?_
  rw [iI_clamp k (by omega)]
  exact kk
theorem xa_last (hexec : p.tables.exec = Jvm.exec) (hb : c.code = cc) (w : xW D tys A s ws H locs) (q0 t0 : Nat) {d : ClassId} {N : Nat} {x : Nat → Int64} (ha : ws[q0]? = some (a, La d N x)) (ht : tys[t0]? = some (d, .long)) {z : Int} {v : Int64} (k : Nat) (hz : z = (k : Int)) (hk : k < N) (hN : N < 2147483648) (hdg : decode cc pc = .ok (.lastore, 1))
    (kk : ∀ (H1 : Heap) (locs1 : List Loc), xW D tys A s (ws.set q0 (a, La d N (vp_updL x k v))) H1 locs1 → W p l e R s m args below meth c H1 locs1 cells slots Q (F0 m (pc + 1) ls rest)) : W p l e R s m args below meth c H locs cells slots Q (F0 m pc ls (.long v :: .int (iI z) :: .ref a :: rest)) := by
  subst hz
  refine va_last hexec hb w.1 w.2.1 w.2.2.1 w.2.2.2.1 q0 t0 ha ht (iI_in hk hN) hdg ?_
  rw [iI_clamp k (by omega)]
  exact fun H1 locs1 h1 h2 h3 => kk H1 locs1 ⟨w.1, h1, h2, h3, w.2.2.2.2⟩
theorem xa_iast (hexec : p.tables.exec = Jvm.exec) (hb : c.code = cc) (w : xW D tys A s ws H locs) (q0 t0 : Nat) {d : ClassId} {N : Nat} {x : Nat → Int32} (ha : ws[q0]? = some (a, Li d N x)) (ht : tys[t0]? = some (d, .int)) {z : Int} {v : Int32} (k : Nat) (hz : z = (k : Int)) (hk : k < N) (hN : N < 2147483648) (hdg : decode cc pc = .ok (.iastore, 1))
    (kk : ∀ (H1 : Heap) (locs1 : List Loc), xW D tys A s (ws.set q0 (a, Li d N (upd x k v))) H1 locs1 → W p l e R s m args below meth c H1 locs1 cells slots Q (F0 m (pc + 1) ls rest)) : W p l e R s m args below meth c H locs cells slots Q (F0 m pc ls (.int v :: .int (iI z) :: .ref a :: rest)) := by
  subst hz
  refine va_iast hexec hb w.1 w.2.1 w.2.2.1 w.2.2.2.1 q0 t0 ha ht (iI_in hk hN) hdg ?_
  rw [iI_clamp k (by omega)]
  exact fun H1 locs1 h1 h2 h3 => kk H1 locs1 ⟨w.1, h1, h2, h3, w.2.2.2.2⟩
/-- behind a call that changed one cell of the world, and made others -/
theorem xW.call {e0 e1 : va_E} {H1 : Heap} {locs1 : List Loc} {q0 : Nat} (w : xW D tys A s ws H locs) (ha : ws[q0]? = some (a, e0)) (h1 : va_P D vwCl [(a, e1)] H1) (hk : ∀ q : Nat, q < H.size → ¬ va_A [(a, e0)] H.size q → H1[q]? = H[q]?) (hS : va_S A s.heap H1 locs1) : xW D tys A s (ws.set q0 (a, e1)) H1 locs1 := by
  refine ⟨w.1, ?_, w.2.2.1.set ha, hS, w.2.2.2.2⟩
  have hl := (List.getElem?_eq_some_iff.mp ha).1
  intro k q hq
  by_cases hkp : k = q0
  · subst hkp
    rw [List.getElem?_set_self hl] at hq
    cases hq
    exact h1 0 _ rfl
  · rw [List.getElem?_set_ne (Ne.symm hkp)] at hq
    refine (w.2.1 k q hq).kept (hk q.1 (w.2.1 k q hq).lt (fun z => ?_))
    rcases z with ⟨j, e9, hj⟩ | hj
    · have : q.1 = a := by
        cases j with
        | zero => cases hj; rfl
        | succ j => simp at hj
      exact hkp (w.2.2.1.1 k q0 q (a, e0) hq ha this)
    · exact absurd (w.2.1 k q hq).lt (by omega)
theorem xW.freeA {e0 : va_E} {q0 : Nat} (w : xW D tys A s ws H locs) (ha : ws[q0]? = some (a, e0)) : ∀ q, va_A [(a, e0)] H.size q → A q := va_free w.2.2.1 w.2.2.2.1 w.2.2.2.2.1 [q0] (by simp [ha])
/-- a contract's start for a method that gets one array of longs: h, its class d, its length N, its contents x -/
abbrev LPc (D : va_G) (h : Nat) (d : ClassId) (sz N : Nat) (x : Nat → Int64) (As : List Value) : Array Value → State → Prop := va_Pc As (fun U => U.heap.size = sz ∧ va_P D vwCl [(h, La d N x)] U.heap ∧ va_K D vwCl [(d, .long)] U ∧ va_D (fun _ => True) [(h, La d N x)] ∧ xNw U)
abbrev LB (D : va_G) (h : Nat) (d : ClassId) (N : Nat) (y : Nat → Int64) (t : State) : Prop := va_P D vwCl [(h, La d N y)] t.heap
abbrev LA (h : Nat) (d : ClassId) (sz N : Nat) (x : Nat → Int64) : Nat → Prop := va_A [(h, La d N x)] sz
theorem LPc.blind {D : va_G} {h : Nat} {d : ClassId} {sz N : Nat} {x : Nat → Int64} {As : List Value} : FrameBlind (LPc D h d sz N x As) := fun a U g mk q => by
  obtain ⟨q0, q1, qP, qK, qD, qN⟩ := q
  exact ⟨q0, q1, qP, va_K.moved (u := U) (U := U.calling g mk a) (Vm.Alike.refl U.vm) qK, qD, va_Nw.same rfl rfl qN⟩
theorem xNw.warm {s U : State} (hW : s.WarmedH U.vm) (h : xNw s) : xNw U := va_Nw.warmC hW h
theorem LPc.pre {h : Nat} {d : ClassId} {N : Nat} {x : Nat → Int64} {As : List Value} (w : xW D tys A s ws H locs) (q0 t0 : Nat) (ha : ws[q0]? = some (h, La d N x)) (ht : tys[t0]? = some (d, .long)) : PreS s H (LPc D h d H.size N x As) As := by
  refine ⟨LPc.blind, fun U hU hW => ⟨rfl, by rw [hU], ?_, va_K.moved hW.alike (w.1.sub [t0] (by simp [ht])), ⟨fun i j p q hp hq _ => ?_, fun _ _ _ => trivial⟩, xNw.warm hW w.2.2.2.2.2⟩⟩
  · rw [hU]
    intro k q hq
    cases k with
    | zero => cases hq; exact w.2.1 q0 _ ha
    | succ k => simp at hq
  · cases i with
    | zero => cases j with
      | zero => rfl
      | succ j => simp at hq
    | succ i => simp at hp
variable {y : MethodName} {bytes : ByteArray} {maxL nL mc ms n index : Nat} {ret : Option FieldType} {wy : List Cond} {rm : Room} {own : String} {As st0 : List Value} {h : Nat} {d : ClassId} {N : Nat} {x : Nat → Int64}
/-- a static call on one array of the world -/
theorem xa_callv {post : (Nat → Int64) → Prop} (hM : Met l y wy rm (LPc D h d H.size N x As) (va_Qv post (LB D h d N) (LA h d H.size N x)) mc ms (LA h d H.size N x)) (S : CallFix p m c cc nL s args lw_all own) (cw : CallB R s args own index y bytes maxL ret wy rm mc ms n ∧ (Cond.static y).before args s = true)
    (w : xW D tys A s ws H locs) (q0 t0 : Nat) (ha : ws[q0]? = some (h, La d N x)) (ht : tys[t0]? = some (d, .long)) (hn : As.length = n) (hsize : ls.size = nL) (hst : st0 = As.reverse ++ rest) (hW : (rest.map fun v => v.category).sum ≤ 8) (hdg : decode cc pc = .ok (.invokestatic index, 3)) (hf : cells + mc ≤ R.cells ∧ slots + ms ≤ R.slots)
    (kk : ∀ (u : Nat → Int64) (H1 : Heap) (locs1 : List Loc), post u → xW D tys A s (ws.set q0 (h, La d N u)) H1 locs1 → W p l e R s m args below meth c H1 locs1 (cells + mc) (slots + ms) Q (F0 m (pc + 3) ls rest)) : W p l e R s m args below meth c H locs cells slots Q (F0 m pc ls st0) := by
  subst hst
  refine va_callv (va_runS S hM cw (LPc.pre w q0 t0 ha ht) rfl hn hsize rfl (lv_room hW) hdg hf) w.2.2.2.1 (fun q _ h => w.freeA ha q h) (w.freeA ha) (fun u t H1 locs1 ht1 hvm hp hB hz hk hS => ?_)
  exact kk u H1 locs1 hp (w.call ha (by rw [← ht1]; exact hB) hk hS)
theorem xa_calli {post : Int32 → (Nat → Int64) → Prop} (hM : Met l y wy rm (LPc D h d H.size N x As) (va_Qi post (LB D h d N) (LA h d H.size N x)) mc ms (LA h d H.size N x)) (S : CallFix p m c cc nL s args lw_all own) (cw : CallB R s args own index y bytes maxL ret wy rm mc ms n ∧ (Cond.static y).before args s = true)
    (w : xW D tys A s ws H locs) (q0 t0 : Nat) (ha : ws[q0]? = some (h, La d N x)) (ht : tys[t0]? = some (d, .long)) (hn : As.length = n) (hsize : ls.size = nL) (hst : st0 = As.reverse ++ rest) (hW : (rest.map fun v => v.category).sum ≤ 8) (hdg : decode cc pc = .ok (.invokestatic index, 3)) (hf : cells + mc ≤ R.cells ∧ slots + ms ≤ R.slots)
    (kk : ∀ (r : Int32) (u : Nat → Int64) (H1 : Heap) (locs1 : List Loc), post r u → xW D tys A s (ws.set q0 (h, La d N u)) H1 locs1 → W p l e R s m args below meth c H1 locs1 (cells + mc) (slots + ms) Q (F0 m (pc + 3) ls (.int r :: rest))) : W p l e R s m args below meth c H locs cells slots Q (F0 m pc ls st0) := by
  subst hst
  refine va_calli (va_runS S hM cw (LPc.pre w q0 t0 ha ht) rfl hn hsize rfl (lv_room hW) hdg hf) w.2.2.2.1 (fun q _ h => w.freeA ha q h) (w.freeA ha) (fun r u t H1 locs1 ht1 hvm hp hB hz hk hS => ?_)
  exact kk r u H1 locs1 hp (w.call ha (by rw [← ht1]; exact hB) hk hS)
/-- a static call that touches no heap -/
theorem xs_calli {post : Int32 → Prop} {Pn : Array Value → State → Prop} (hM : Met l y wy rm Pn (vp_Si post) 0 0 (fun _ => False)) (S : CallFix p m c cc nL s args lw_all own) (cw : CallB R s args own index y bytes maxL ret wy rm 0 0 n ∧ (Cond.static y).before args s = true)
    (hp : Pn = va_Pc As (fun _ => True)) (hn : As.length = n) (hsize : ls.size = nL) (hst : st0 = As.reverse ++ rest) (hW : (rest.map fun v => v.category).sum ≤ 8) (hdg : decode cc pc = .ok (.invokestatic index, 3)) (hf : cells ≤ R.cells ∧ slots ≤ R.slots)
    (kk : ∀ r : Int32, post r → W p l e R s m args below meth c H locs cells slots Q (F0 m (pc + 3) ls (.int r :: rest))) : W p l e R s m args below meth c H locs cells slots Q (F0 m pc ls st0) := by
  subst hst
  subst hp
  exact vp_callSi (va_Run.run (va_runS S hM cw ⟨fun a U g mk q => q, fun U hU hW => ⟨rfl, trivial⟩⟩ rfl hn hsize rfl (lv_room hW) hdg hf)) kk
theorem xs_calll {post : Int64 → Prop} {Pn : Array Value → State → Prop} (hM : Met l y wy rm Pn (vp_Sl post) 0 0 (fun _ => False)) (S : CallFix p m c cc nL s args lw_all own) (cw : CallB R s args own index y bytes maxL ret wy rm 0 0 n ∧ (Cond.static y).before args s = true)
    (hp : Pn = va_Pc As (fun _ => True)) (hn : As.length = n) (hsize : ls.size = nL) (hst : st0 = As.reverse ++ rest) (hW : (rest.map fun v => v.category).sum ≤ 8) (hdg : decode cc pc = .ok (.invokestatic index, 3)) (hf : cells ≤ R.cells ∧ slots ≤ R.slots)
    (kk : ∀ r : Int64, post r → W p l e R s m args below meth c H locs cells slots Q (F0 m (pc + 3) ls (.long r :: rest))) : W p l e R s m args below meth c H locs cells slots Q (F0 m pc ls st0) := by
  subst hst
  subst hp
  exact vp_callSl (va_Run.run (va_runS S hM cw ⟨fun a U g mk q => q, fun U hU hW => ⟨rfl, trivial⟩⟩ rfl hn hsize rfl (lv_room hW) hdg hf)) kk
end XW
end
section
/-! contracts out of walks -/
set_option maxRecDepth 100000
theorem xi_inc {x n z : Int} (h : x + n = z) : iI x + Int32.ofInt n = iI z := by rw [← h]; exact iI_add x n
theorem iR_of {z : Int} (h : -2147483648 ≤ z ∧ z < 2147483648) : iR z := h
theorem xa_metv {l : Launch} {y : MethodName} {cc : ByteArray} {maxL : Nat} {rm : Room} {D : va_G} {h : Nat} {d : ClassId} {sz N : Nat} {x : Nat → Int64} {As : List Value} {mc ms : Nat} {post : (Nat → Int64) → Prop} (hy : plainName y.cls = true) (hL : (lg_sl As).length ≤ maxL)
    (body : ∀ (p : Program) (e : Env) (s : State) (m : MethodId) (args : Array Value) (below : List Frame) (meth : Method) (c : Code) (Q : State → Prop) (ls : Array Slot), s.heap.size = sz → CallFix p m c cc maxL s args lw_all y.cls → xW D [(d, .long)] (LA h d s.heap.size N x) s [(h, La d N x)] s.heap [] → lv_has ls maxL (lv_args 0 As) →
      (∀ (rpc : Nat) (u : Nat → Int64) (H : Heap) (locs : List Loc) (ls' : Array Slot) (tys : List (ClassId × FieldType)) (ws : va_W) (q0 : Nat), decode cc rpc = .ok (.return_, 1) → post u → xW D tys (LA h d s.heap.size N x) s ws H locs → ws[q0]? = some (h, La d N u) → W p l e rm s m args below meth c H locs mc ms Q (F0 m rpc ls' [])) →
      W p l e rm s m args below meth c s.heap [] 0 0 Q (F0 m 0 ls [])) :
    Met l y (ws_ y cc maxL none) rm (LPc D h d sz N x As) (va_Qv post (LB D h d N) (LA h d sz N x)) mc ms (LA h d sz N x) := by
  refine Met.ofW (cc := cc) (maxL := maxL) (ret := none) hy rfl ?_
  intro p e s m args below meth c s₁ B hml hv
  obtain ⟨rfl, hsz, hP, hK, hD0, hNw⟩ := hv
  have hts := atoms_spec (ws := ws_ y cc maxL none) B.pre
  have hts : ∀ w ∈ lw_all, w.before _ s = true := fun w h => hts w (List.mem_cons_of_mem _ h)
  have hown : s.vm.findClass y.cls = some m.cls := findClass_of_methodNamed B.named
  have hlocks := B.notSynchronized
  subst hsz
  have w : xW D [(d, .long)] (LA h d s.heap.size N x) s [(h, La d N x)] s.heap [] := ⟨hK, hP, hD0.self, va_S.rf, fun q hq => Or.inr hq, hNw⟩
  have hl := lv_entry As (n := maxL) hL
  rw [lg_entry_eq]
  refine body p e s m _ below meth c _ _ rfl ⟨B.exec, B.bytes, hml, hown, hts⟩ w hl ?_
  intro rpc u H locs ls' tys ws q0 hd hp w1 ha
  have hP1 : va_P D vwCl [(h, La d N u)] H := by
    intro k q hq
    cases k with
    | zero => cases hq; exact w1.2.1 q0 _ ha
    | succ k => simp at hq
  exact W.vret B.exec B.bytes B.returns (fun t ht hW => ⟨⟨u, rfl, hp, by show va_P D vwCl [(h, La d N u)] t.heap; rw [ht]; exact hP1⟩, w1.2.2.2.1.F ht⟩) w1.2.2.2.1.2.2 hd
theorem xa_meti {l : Launch} {y : MethodName} {cc : ByteArray} {maxL : Nat} {rm : Room} {D : va_G} {h : Nat} {d : ClassId} {sz N : Nat} {x : Nat → Int64} {As : List Value} {mc ms : Nat} {post : Int32 → (Nat → Int64) → Prop} (hy : plainName y.cls = true) (hL : (lg_sl As).length ≤ maxL)
    (body : ∀ (p : Program) (e : Env) (s : State) (m : MethodId) (args : Array Value) (below : List Frame) (meth : Method) (c : Code) (Q : State → Prop) (ls : Array Slot), s.heap.size = sz → CallFix p m c cc maxL s args lw_all y.cls → xW D [(d, .long)] (LA h d s.heap.size N x) s [(h, La d N x)] s.heap [] → lv_has ls maxL (lv_args 0 As) →
      (∀ (rpc : Nat) (r : Int32) (u : Nat → Int64) (H : Heap) (locs : List Loc) (ls' : Array Slot) (tys : List (ClassId × FieldType)) (ws : va_W) (q0 : Nat), decode cc rpc = .ok (.ireturn, 1) → post r u → xW D tys (LA h d s.heap.size N x) s ws H locs → ws[q0]? = some (h, La d N u) → W p l e rm s m args below meth c H locs mc ms Q (F0 m rpc ls' [.int r])) →
      W p l e rm s m args below meth c s.heap [] 0 0 Q (F0 m 0 ls [])) :
    Met l y (ws_ y cc maxL (some .int)) rm (LPc D h d sz N x As) (va_Qi post (LB D h d N) (LA h d sz N x)) mc ms (LA h d sz N x) := by
  refine Met.ofW (cc := cc) (maxL := maxL) (ret := (some .int)) hy rfl ?_
  intro p e s m args below meth c s₁ B hml hv
  obtain ⟨rfl, hsz, hP, hK, hD0, hNw⟩ := hv
  have hts := atoms_spec (ws := ws_ y cc maxL (some .int)) B.pre
  have hts : ∀ w ∈ lw_all, w.before _ s = true := fun w h => hts w (List.mem_cons_of_mem _ h)
  have hown : s.vm.findClass y.cls = some m.cls := findClass_of_methodNamed B.named
  have hlocks := B.notSynchronized
  subst hsz
  have w : xW D [(d, .long)] (LA h d s.heap.size N x) s [(h, La d N x)] s.heap [] := ⟨hK, hP, hD0.self, va_S.rf, fun q hq => Or.inr hq, hNw⟩
  have hl := lv_entry As (n := maxL) hL
  rw [lg_entry_eq]
  refine body p e s m _ below meth c _ _ rfl ⟨B.exec, B.bytes, hml, hown, hts⟩ w hl ?_
  intro rpc r u H locs ls' tys ws q0 hd hp w1 ha
  have hP1 : va_P D vwCl [(h, La d N u)] H := by
    intro k q hq
    cases k with
    | zero => cases hq; exact w1.2.1 q0 _ ha
    | succ k => simp at hq
  exact W.iret B.exec B.bytes B.returns (fun t ht hW => ⟨⟨r, u, rfl, hp, by show va_P D vwCl [(h, La d N u)] t.heap; rw [ht]; exact hP1⟩, w1.2.2.2.1.F ht⟩) w1.2.2.2.1.2.2 hd
theorem xs_meti {l : Launch} {y : MethodName} {cc : ByteArray} {maxL : Nat} {rm : Room} {As : List Value} {post : Int32 → Prop} (hy : plainName y.cls = true) (hL : (lg_sl As).length ≤ maxL)
    (body : ∀ (p : Program) (e : Env) (s : State) (m : MethodId) (args : Array Value) (below : List Frame) (meth : Method) (c : Code) (Q : State → Prop) (ls : Array Slot), CallFix p m c cc maxL s args lw_all y.cls → lv_has ls maxL (lv_args 0 As) →
      (∀ (rpc : Nat) (r : Int32) (ls' : Array Slot), decode cc rpc = .ok (.ireturn, 1) → post r → W p l e rm s m args below meth c s.heap [] 0 0 Q (F0 m rpc ls' [.int r])) →
      W p l e rm s m args below meth c s.heap [] 0 0 Q (F0 m 0 ls [])) :
    Met l y (ws_ y cc maxL (some .int)) rm (va_Pc As (fun _ => True)) (vp_Si post) 0 0 (fun _ => False) := by
  refine Met.ofW (cc := cc) (maxL := maxL) (ret := (some .int)) hy rfl ?_
  intro p e s m args below meth c s₁ B hml hv
  obtain ⟨rfl, -⟩ := hv
  have hts := atoms_spec (ws := ws_ y cc maxL (some .int)) B.pre
  have hts : ∀ w ∈ lw_all, w.before _ s = true := fun w h => hts w (List.mem_cons_of_mem _ h)
  have hown : s.vm.findClass y.cls = some m.cls := findClass_of_methodNamed B.named
  have hlocks := B.notSynchronized
  have hl := lv_entry As (n := maxL) hL
  rw [lg_entry_eq]
  refine body p e s m _ below meth c _ _ ⟨B.exec, B.bytes, hml, hown, hts⟩ hl ?_
  intro rpc r ls' hd hp
  exact W.iret B.exec B.bytes B.returns (fun t ht hW => ⟨r, rfl, hp, ht⟩) (fun q hq => by cases hq) hd
theorem xs_metl {l : Launch} {y : MethodName} {cc : ByteArray} {maxL : Nat} {rm : Room} {As : List Value} {post : Int64 → Prop} (hy : plainName y.cls = true) (hL : (lg_sl As).length ≤ maxL)
    (body : ∀ (p : Program) (e : Env) (s : State) (m : MethodId) (args : Array Value) (below : List Frame) (meth : Method) (c : Code) (Q : State → Prop) (ls : Array Slot), CallFix p m c cc maxL s args lw_all y.cls → lv_has ls maxL (lv_args 0 As) →
      (∀ (rpc : Nat) (r : Int64) (ls' : Array Slot), decode cc rpc = .ok (.lreturn, 1) → post r → W p l e rm s m args below meth c s.heap [] 0 0 Q (F0 m rpc ls' [.long r])) →
      W p l e rm s m args below meth c s.heap [] 0 0 Q (F0 m 0 ls [])) :
    Met l y (ws_ y cc maxL (some .long)) rm (va_Pc As (fun _ => True)) (vp_Sl post) 0 0 (fun _ => False) := by
  refine Met.ofW (cc := cc) (maxL := maxL) (ret := (some .long)) hy rfl ?_
  intro p e s m args below meth c s₁ B hml hv
  obtain ⟨rfl, -⟩ := hv
  have hts := atoms_spec (ws := ws_ y cc maxL (some .long)) B.pre
  have hts : ∀ w ∈ lw_all, w.before _ s = true := fun w h => hts w (List.mem_cons_of_mem _ h)
  have hown : s.vm.findClass y.cls = some m.cls := findClass_of_methodNamed B.named
  have hlocks := B.notSynchronized
  have hl := lv_entry As (n := maxL) hL
  rw [lg_entry_eq]
  refine body p e s m _ below meth c _ _ ⟨B.exec, B.bytes, hml, hown, hts⟩ hl ?_
  intro rpc r ls' hd hp
  exact W.lret B.exec B.bytes B.returns (fun t ht hW => ⟨r, rfl, hp, ht⟩) (fun q hq => by cases hq) hd
end
section
/-! the plain law of sorting: counts, permutations of a range, sorted, uniqueness -/
def b2 (b : Bool) : Nat := if b then 1 else 0
theorem b2_le (b : Bool) : b2 b ≤ 1 := by cases b <;> simp [b2]
theorem b2_t {b : Bool} (h : b = true) : b2 b = 1 := by rw [h]; rfl
theorem b2_f {b : Bool} (h : b = false) : b2 b = 0 := by rw [h]; rfl
def cnt (p : Int64 → Bool) (x : Nat → Int64) : Nat → Nat
  | 0 => 0
  | n + 1 => cnt p x n + b2 (p (x n))
theorem cnt_s (p : Int64 → Bool) (x : Nat → Int64) (n : Nat) : cnt p x (n + 1) = cnt p x n + b2 (p (x n)) := rfl
theorem cnt_agree {p : Int64 → Bool} {x y : Nat → Int64} {a b : Nat} (hab : a ≤ b) (h : ∀ i, a ≤ i → i < b → y i = x i) : cnt p x b + cnt p y a = cnt p y b + cnt p x a := by
  induction b with
  | zero => obtain rfl : a = 0 := by omega
            omega
  | succ b ih =>
    by_cases hb : a = b + 1
    · subst hb; omega
    · have := ih (by omega) (fun i h1 h2 => h i h1 (by omega))
      rw [cnt_s, cnt_s, h b (by omega) (by omega)]; omega
theorem cnt_mono (p : Int64 → Bool) (x : Nat → Int64) {a b : Nat} (hab : a ≤ b) : cnt p x a ≤ cnt p x b := by
  induction b with
  | zero => obtain rfl : a = 0 := by omega
            omega
  | succ b ih =>
    by_cases hb : a = b + 1
    · subst hb; omega
    · have := ih (by omega); rw [cnt_s]; omega
theorem cnt_le (p : Int64 → Bool) (x : Nat → Int64) {a b : Nat} (hab : a ≤ b) : cnt p x b ≤ cnt p x a + (b - a) := by
  induction b with
  | zero => obtain rfl : a = 0 := by omega
            omega
  | succ b ih =>
    by_cases hb : a = b + 1
    · subst hb; omega
    · have := ih (by omega); have := b2_le (p (x b)); rw [cnt_s]; omega
theorem cnt_all {p : Int64 → Bool} {x : Nat → Int64} {a b : Nat} (hab : a ≤ b) (h : ∀ i, a ≤ i → i < b → p (x i) = true) : cnt p x b = cnt p x a + (b - a) := by
  induction b with
  | zero => obtain rfl : a = 0 := by omega
            omega
  | succ b ih =>
    by_cases hb : a = b + 1
    · subst hb; omega
    · have := ih (by omega) (fun i h1 h2 => h i h1 (by omega)); rw [cnt_s, b2_t (h b (by omega) (by omega))]; omega
theorem cnt_none {p : Int64 → Bool} {x : Nat → Int64} {a b : Nat} (hab : a ≤ b) (h : ∀ i, a ≤ i → i < b → p (x i) = false) : cnt p x b = cnt p x a := by
  induction b with
  | zero => obtain rfl : a = 0 := by omega
            omega
  | succ b ih =>
    by_cases hb : a = b + 1
    · subst hb; omega
    · have := ih (by omega) (fun i h1 h2 => h i h1 (by omega)); rw [cnt_s, b2_f (h b (by omega) (by omega))]; omega
theorem cnt_pos {p : Int64 → Bool} {x : Nat → Int64} {a b i : Nat} (h1 : a ≤ i) (h2 : i < b) (h : p (x i) = true) : cnt p x a < cnt p x b := by
  have e1 := cnt_mono p x h1
  have e2 := cnt_mono p x (show i + 1 ≤ b by omega)
  rw [cnt_s, b2_t h] at e2; omega
theorem cnt_upd (p : Int64 → Bool) (x : Nat → Int64) (k : Nat) (v : Int64) (n : Nat) : cnt p (vp_updL x k v) n + (if k < n then b2 (p (x k)) else 0) = cnt p x n + (if k < n then b2 (p v) else 0) := by
  induction n with
  | zero => simp [cnt]
  | succ n ih =>
    rw [cnt_s, cnt_s]
    by_cases hk : n = k
    · subst hk
      rw [if_neg (by omega), if_neg (by omega)] at ih
      rw [if_pos (by omega), if_pos (by omega), pk_uLs]; omega
    · rw [pk_uLn hk]
      by_cases h2 : k < n
      · rw [if_pos h2, if_pos h2] at ih; rw [if_pos (by omega), if_pos (by omega)]; omega
      · rw [if_neg h2, if_neg h2] at ih; rw [if_neg (by omega), if_neg (by omega)]; omega
/-- the same values in [f, t) -/
def Rg (f t : Nat) (x y : Nat → Int64) : Prop := ∀ p, cnt p x t + cnt p y f = cnt p y t + cnt p x f
/-- y is x with its places in [f, t) reordered -/
def Pm (f t : Nat) (x y : Nat → Int64) : Prop := Rg f t x y ∧ ∀ i, (i < f ∨ t ≤ i) → y i = x i
def So (f t : Nat) (y : Nat → Int64) : Prop := ∀ i j, f ≤ i → i ≤ j → j < t → y i ≤ y j
/-- y is x with its places in [f, t) sorted -/
def Srt (f t : Nat) (x y : Nat → Int64) : Prop := Pm f t x y ∧ So f t y
theorem Rg.refl (f t : Nat) (x : Nat → Int64) : Rg f t x x := fun _ => rfl
theorem Rg.trans {f t : Nat} {x y z : Nat → Int64} (h : Rg f t x y) (h2 : Rg f t y z) : Rg f t x z := fun p => by have := h p; have := h2 p; omega
theorem Rg.symm {f t : Nat} {x y : Nat → Int64} (h : Rg f t x y) : Rg f t y x := fun p => (h p).symm
theorem Rg.of_agree {f t : Nat} {x y : Nat → Int64} (hft : f ≤ t) (h : ∀ i, f ≤ i → i < t → y i = x i) : Rg f t x y := fun _ => cnt_agree hft h
theorem Rg.join {f m t : Nat} {x y : Nat → Int64} (h : Rg f m x y) (h2 : Rg m t x y) : Rg f t x y := fun p => by have := h p; have := h2 p; omega
theorem Pm.refl (f t : Nat) (x : Nat → Int64) : Pm f t x x := ⟨Rg.refl f t x, fun _ _ => rfl⟩
theorem Pm.trans {f t : Nat} {x y z : Nat → Int64} (h : Pm f t x y) (h2 : Pm f t y z) : Pm f t x z := ⟨h.1.trans h2.1, fun i hi => (h2.2 i hi).trans (h.2 i hi)⟩
theorem Pm.symm {f t : Nat} {x y : Nat → Int64} (h : Pm f t x y) : Pm f t y x := ⟨h.1.symm, fun i hi => (h.2 i hi).symm⟩
theorem Pm.wide {f t a b : Nat} {x y : Nat → Int64} (h : Pm a b x y) (h1 : f ≤ a) (h2 : a ≤ b) (h3 : b ≤ t) : Pm f t x y :=
  ⟨((Rg.of_agree h1 (fun i _ hi => h.2 i (Or.inl hi))).join h.1).join (Rg.of_agree h3 (fun i hi _ => h.2 i (Or.inr hi))), fun i hi => h.2 i (by omega)⟩
/-- what holds of every value of the range still holds -/
theorem Rg.all {f t : Nat} {x y : Nat → Int64} (h : Rg f t x y) {C : Int64 → Prop} (hx : ∀ i, f ≤ i → i < t → C (x i)) : ∀ i, f ≤ i → i < t → C (y i) := by
  intro i h1 h2
  refine Classical.byContradiction fun hn => ?_
  have hd : ∀ v, (@decide (¬ C v) (Classical.propDecidable _)) = true ↔ ¬ C v := fun v => @decide_eq_true_iff _ (Classical.propDecidable _)
  have e := h (fun v => @decide (¬ C v) (Classical.propDecidable _))
  have e1 := cnt_none (p := fun v => @decide (¬ C v) (Classical.propDecidable _)) (x := x) (show f ≤ t by omega) (fun j q1 q2 => by
    have := hd (x j)
    cases hc : (@decide (¬ C (x j)) (Classical.propDecidable _)) with
    | false => rfl
    | true => exact absurd (hx j q1 q2) (this.mp hc))
  have e2 := cnt_pos (p := fun v => @decide (¬ C v) (Classical.propDecidable _)) (x := y) h1 h2 ((hd (y i)).mpr hn)
  omega
theorem Pm.all {f t : Nat} {x y : Nat → Int64} (h : Pm f t x y) {C : Int64 → Prop} (hx : ∀ i, f ≤ i → i < t → C (x i)) : ∀ i, f ≤ i → i < t → C (y i) := h.1.all hx
/-- the same for a wider range -/
theorem Pm.alls {f t a b : Nat} {x y : Nat → Int64} (h : Pm f t x y) {C : Int64 → Prop} (h1 : a ≤ f) (h2 : t ≤ b) (hft : f ≤ t) (hx : ∀ i, a ≤ i → i < b → C (x i)) : ∀ i, a ≤ i → i < b → C (y i) := (h.wide h1 hft h2).all hx
theorem I64.le_of_not_lt {a b : Int64} (h : ¬ a < b) : b ≤ a := Int64.not_lt.mp h
theorem So.eq_lt {f t : Nat} {y z : Nat → Int64} (h : Rg f t y z) (hy : So f t y) (hz : So f t z) {i : Nat} (h1 : f ≤ i) (h2 : i < t) : ¬ y i < z i := by
  intro hlt
  have e := h (fun v => decide (v ≤ y i))
  have a1 := cnt_all (p := fun v => decide (v ≤ y i)) (x := y) (show f ≤ i + 1 by omega) (fun j q1 q2 => by simpa using hy j i q1 (by omega) h2)
  have a2 := cnt_mono (fun v => decide (v ≤ y i)) y (show i + 1 ≤ t by omega)
  have a3 := cnt_none (p := fun v => decide (v ≤ y i)) (x := z) (show i ≤ t by omega) (fun j q1 q2 => by
    have := hz i j h1 q1 q2
    simp only [decide_eq_false_iff_not]
    intro q
    exact absurd (Int64.le_trans this q) (Int64.not_le.mpr hlt))
  have a4 := cnt_le (fun v => decide (v ≤ y i)) z h1
  omega
theorem So.uniq {f t : Nat} {y z : Nat → Int64} (h : Rg f t y z) (hy : So f t y) (hz : So f t z) {i : Nat} (h1 : f ≤ i) (h2 : i < t) : y i = z i :=
  Int64.le_antisymm (I64.le_of_not_lt (So.eq_lt h.symm hz hy h1 h2)) (I64.le_of_not_lt (So.eq_lt h hy hz h1 h2))
theorem Srt.uniq {f t : Nat} {x y z : Nat → Int64} (h : Srt f t x y) (h2 : Srt f t x z) : y = z := by
  funext i
  by_cases hi : i < f ∨ t ≤ i
  · rw [h.1.2 i hi, h2.1.2 i hi]
  · exact So.uniq (h.1.symm.trans h2.1).1 h.2 h2.2 (by omega) (by omega)
/-- two places swapped -/
def swp (x : Nat → Int64) (i j : Nat) : Nat → Int64 := vp_updL (vp_updL x i (x j)) j (x i)
theorem swp_at (x : Nat → Int64) (i j k : Nat) : swp x i j k = if k = j then x i else if k = i then x j else x k := rfl
theorem swp_l (x : Nat → Int64) (i j : Nat) : swp x i j i = x j := by
  rw [swp_at]; by_cases h : i = j
  · rw [if_pos h, h]
  · rw [if_neg h, if_pos rfl]
theorem swp_r (x : Nat → Int64) (i j : Nat) : swp x i j j = x i := by rw [swp_at, if_pos rfl]
theorem swp_o (x : Nat → Int64) {i j k : Nat} (h1 : k ≠ i) (h2 : k ≠ j) : swp x i j k = x k := by rw [swp_at, if_neg h2, if_neg h1]
theorem cnt_swp (p : Int64 → Bool) (x : Nat → Int64) {i j n : Nat} (h : i < n ↔ j < n) : cnt p (swp x i j) n = cnt p x n := by
  have e1 := cnt_upd p (vp_updL x i (x j)) j (x i) n
  have e2 := cnt_upd p x i (x j) n
  have e3 : vp_updL x i (x j) j = x j := by
    by_cases hij : j = i
    · subst hij; exact pk_uLs
    · exact pk_uLn hij
  unfold swp
  rw [e3] at e1
  by_cases hi : i < n
  · rw [if_pos (h.mp hi), if_pos (h.mp hi)] at e1; rw [if_pos hi, if_pos hi] at e2; omega
  · rw [if_neg (fun q => hi (h.mpr q)), if_neg (fun q => hi (h.mpr q))] at e1; rw [if_neg hi, if_neg hi] at e2; omega
theorem Pm.swp (x : Nat → Int64) {f t i j : Nat} (h1 : f ≤ i) (h2 : i < t) (h3 : f ≤ j) (h4 : j < t) : Pm f t x (swp x i j) :=
  ⟨fun p => by rw [cnt_swp p x (show i < t ↔ j < t by omega), cnt_swp p x (show i < f ↔ j < f by omega)], fun k hk => swp_o x (by omega) (by omega)⟩
theorem So.empty {f t : Nat} {y : Nat → Int64} (h : t ≤ f + 1) : So f t y := fun i j h1 h2 h3 => by
  obtain rfl : i = j := by omega
  exact Int64.le_refl _
end
section
/-! leaves: compare, swap, swap of blocks, med3 -/
set_option maxRecDepth 100000
/-- what compare answers -/
def cmpZ (a b : Int64) (z : Int) : Prop := (a < b ∧ z = -1) ∨ (a = b ∧ z = 0) ∨ (b < a ∧ z = 1)
abbrev cmpP (a b : Int64) (r : Int32) : Prop := ∃ z : Int, r = iI z ∧ cmpZ a b z
theorem M_compare {l : Launch} {rm : Room} {a b : Int64} : Met l yJ0_compare (ws_ yJ0_compare cJ0_compare 4 (some .int)) rm (va_Pc [.long a, .long b] (fun _ => True)) (vp_Si (cmpP a b)) 0 0 (fun _ => False) := by
  refine xs_meti (by decide) (Nat.le_of_ble_eq_true rfl) ?_
  intro p e s m args below meth c Q ls S hl K
  obtain ⟨hx, hb, hml, hown, hts⟩ := id S
  have hl : lv_has ls 4 [(0, .long a), (2, .long b)] := hl
  refine lv_lload_n hx hb dJ0_compare_0 rfl (lv_at hl 0 rfl) ?_
  refine lv_lload_n hx hb dJ0_compare_1 rfl (lv_at hl 1 rfl) ?_
  refine xl_cmp_ge hx hb dJ0_compare_2 dJ0_compare_3 (tgt := 10) (by decide) (fun h2 => ?_) (fun h2 => ?_)
  · skip
    refine lv_lload_n hx hb dJ0_compare_10 rfl (lv_at hl 0 rfl) ?_
    refine lv_lload_n hx hb dJ0_compare_11 rfl (lv_at hl 1 rfl) ?_
    refine xl_cmp_ne hx hb dJ0_compare_12 dJ0_compare_13 (tgt := 20) (by decide) (fun h12 => ?_) (fun h12 => ?_)
    · skip
      refine xi_iconst hx hb dJ0_compare_20 ?_
      exact K _ _ ls dJ0_compare_21 ⟨1, rfl, Or.inr (Or.inr ⟨Int64.lt_of_le_of_ne h2 (fun q => h12 q.symm), rfl⟩)⟩
    · skip
      refine xi_iconst hx hb dJ0_compare_16 ?_
      refine lv_goto (tgt := 21) hx hb dJ0_compare_17 (by decide) ?_
      exact K _ _ ls dJ0_compare_21 ⟨0, rfl, Or.inr (Or.inl ⟨h12, rfl⟩)⟩
  · skip
    refine xi_iconst hx hb dJ0_compare_6 ?_
    refine lv_goto (tgt := 21) hx hb dJ0_compare_7 (by decide) ?_
    exact K _ _ ls dJ0_compare_21 ⟨-1, rfl, Or.inl ⟨h2, rfl⟩⟩
theorem M_swap {l : Launch} {rm : Room} {D : va_G} {h : Nat} {d : ClassId} {sz N : Nat} {x : Nat → Int64} {zi zj : Int} {i j : Nat} (hzi : zi = i) (hzj : zj = j) (hi : i < N) (hj : j < N) (hN : N < 2147483648) : Met l yX2_swap (ws_ yX2_swap cX2_swap 5 none) rm (LPc D h d sz N x [.ref h, .int (iI zi), .int (iI zj)]) (va_Qv (fun u => u = swp x i j) (LB D h d N) (LA h d sz N x)) 0 0 (LA h d sz N x) := by
  refine xa_metv (by decide) (Nat.le_of_ble_eq_true rfl) ?_
  intro p e s m args below meth c Q ls hsz S w hl K
  obtain ⟨hx, hb, hml, hown, hts⟩ := id S
  have hl : lv_has ls 5 [(0, .ref h), (1, .int (iI (zi))), (2, .int (iI (zj)))] := hl
  refine lv_aload_n hx hb dX2_swap_0 rfl (lv_at hl 0 rfl) ?_
  refine lv_iload_n hx hb dX2_swap_1 rfl (lv_at hl 1 rfl) ?_
  refine xa_lald hx hb w 0 0 rfl rfl i (by omega) (by omega) hN dX2_swap_2 ?_
  refine lv_lstore_n (lv' := [(3, .long (x i)), (0, .ref h), (1, .int (iI (zi))), (2, .int (iI (zj)))]) hx hb dX2_swap_3 rfl hl (by decide) rfl (fun ls hl => ?_)
  refine lv_aload_n hx hb dX2_swap_4 rfl (lv_at hl 1 rfl) ?_
  refine lv_iload_n hx hb dX2_swap_5 rfl (lv_at hl 2 rfl) ?_
  refine lv_aload_n hx hb dX2_swap_6 rfl (lv_at hl 1 rfl) ?_
  refine lv_iload_n hx hb dX2_swap_7 rfl (lv_at hl 3 rfl) ?_
  refine xa_lald hx hb w 0 0 rfl rfl j (by omega) (by omega) hN dX2_swap_8 ?_
  refine xa_last hx hb w 0 0 rfl rfl i (by omega) (by omega) hN dX2_swap_9 (fun H locs w => ?_)
  obtain ⟨x1, ex1⟩ : ∃ y, y = vp_updL x i (x j) := ⟨_, rfl⟩
  have w : xW D [(d, .long)] (LA h d s.heap.size N x) s [(h, La d N x1)] H locs := by rw [ex1]; exact w
  refine lv_aload_n hx hb dX2_swap_10 rfl (lv_at hl 1 rfl) ?_
  refine lv_iload_n hx hb dX2_swap_11 rfl (lv_at hl 3 rfl) ?_
  refine lv_lload_n hx hb dX2_swap_12 rfl (lv_at hl 0 rfl) ?_
  refine xa_last hx hb w 0 0 rfl rfl j (by omega) (by omega) hN dX2_swap_13 (fun H locs w => ?_)
  obtain ⟨x2, ex2⟩ : ∃ y, y = vp_updL x1 j (x i) := ⟨_, rfl⟩
  have w : xW D [(d, .long)] (LA h d s.heap.size N x) s [(h, La d N x2)] H locs := by rw [ex2]; exact w
  exact K _ _ _ _ ls _ _ 0 dX2_swap_14 (by rw [ex2, ex1]; rfl) w rfl
/-- blocks of n at a and b exchanged -/
def blk (x : Nat → Int64) (a b n : Nat) (u : Nat → Int64) : Prop := (∀ i, i < n → u (a + i) = x (b + i) ∧ u (b + i) = x (a + i)) ∧ (∀ k, ¬ (a ≤ k ∧ k < a + n) → ¬ (b ≤ k ∧ k < b + n) → u k = x k) ∧ ∀ f t, f ≤ a → b + n ≤ t → Pm f t x u
theorem blk_0 (x : Nat → Int64) (a b : Nat) : blk x a b 0 x := ⟨fun i h => absurd h (by omega), fun _ _ _ => rfl, fun f t _ _ => Pm.refl f t x⟩
theorem blk_s {x u : Nat → Int64} {a b n k : Nat} (h : blk x a b k u) (hk : k < n) (hd : a + n ≤ b) : blk x a b (k + 1) (swp u (a + k) (b + k)) := by
  obtain ⟨h1, h2, h3⟩ := h
  refine ⟨fun i hi => ?_, fun j g1 g2 => ?_, fun f t g1 g2 => (h3 f t g1 (by omega)).trans (Pm.swp u (by omega) (by omega) (by omega) (by omega))⟩
  · by_cases hik : i = k
    · subst hik
      rw [swp_l, swp_r, h2 (b + i) (by omega) (by omega), h2 (a + i) (by omega) (by omega)]
      exact ⟨rfl, rfl⟩
    · rw [swp_o u (by omega) (by omega), swp_o u (by omega) (by omega)]
      exact h1 i (by omega)
  · rw [swp_o u (by omega) (by omega)]
    exact h2 j (by omega) (by omega)
theorem M_swap2 {l : Launch} {D : va_G} {h : Nat} {d : ClassId} {sz N : Nat} {x : Nat → Int64} {za zb zn : Int} {a b n : Nat} (hza : za = a) (hzb : zb = b) (hzn : zn = n) (hab : a + n ≤ b) (hbN : b + n ≤ N) (hN : N < 2147483648) : Met l yX2_swap_2 (ws_ yX2_swap_2 cX2_swap_2 5 none) ({ frames := 1, locals := 24 } : Room) (LPc D h d sz N x [.ref h, .int (iI za), .int (iI zb), .int (iI zn)]) (va_Qv (blk x a b n) (LB D h d N) (LA h d sz N x)) 0 0 (LA h d sz N x) := by
  refine xa_metv (by decide) (Nat.le_of_ble_eq_true rfl) ?_
  intro p e s m args below meth c Q ls hsz S w hl K
  obtain ⟨hx, hb, hml, hown, hts⟩ := id S
  have hl : lv_has ls 5 [(0, .ref h), (1, .int (iI za)), (2, .int (iI zb)), (3, .int (iI zn))] := hl
  have loop : ∀ (r k : Nat) (y : Nat → Int64) (zk zi zj : Int) (H : Heap) (locs : List Loc) (ls : Array Slot), k + r = n → zk = k → zi = (a + k : Nat) → zj = (b + k : Nat) → blk x a b k y → xW D [(d, .long)] (LA h d s.heap.size N x) s [(h, La d N y)] H locs → lv_has ls 5 [(0, .ref h), (1, .int (iI zi)), (2, .int (iI zj)), (3, .int (iI zn)), (4, .int (iI zk))] → W p l e ({ frames := 1, locals := 24 } : Room) s m args below meth c H locs 0 0 Q (F0 m 3 ls []) := by
    intro r
    induction r with
    | zero =>
      intro k y zk zi zj H locs ls hr hzk hzi hzj hB w hl
      refine lv_iload hx hb dX2_swap_2_3 (lv_at hl 4 rfl) ?_
      refine lv_iload_n hx hb dX2_swap_2_5 rfl (lv_at hl 3 rfl) ?_
      refine xi_icmp_ge hx hb dX2_swap_2_6 (tgt := 27) (by decide) (by unfold iR; omega) (by unfold iR; omega) (fun h6 => ?_) (fun h6 => ?_)
      · skip
        obtain rfl : k = n := by omega
        exact K _ _ _ _ ls _ _ 0 dX2_swap_2_27 hB w rfl
      · skip
        exfalso; omega
    | succ r ih =>
      intro k y zk zi zj H locs ls hr hzk hzi hzj hB w hl
      refine lv_iload hx hb dX2_swap_2_3 (lv_at hl 4 rfl) ?_
      refine lv_iload_n hx hb dX2_swap_2_5 rfl (lv_at hl 3 rfl) ?_
      refine xi_icmp_ge hx hb dX2_swap_2_6 (tgt := 27) (by decide) (by unfold iR; omega) (by unfold iR; omega) (fun h6 => ?_) (fun h6 => ?_)
      · skip
        exfalso; omega
      · skip
        refine lv_aload_n hx hb dX2_swap_2_9 rfl (lv_at hl 0 rfl) ?_
        refine lv_iload_n hx hb dX2_swap_2_10 rfl (lv_at hl 1 rfl) ?_
        refine lv_iload_n hx hb dX2_swap_2_11 rfl (lv_at hl 2 rfl) ?_
        refine xa_callv (M_swap (rm := {}) (i := a + k) (j := b + k) (by omega) (by omega) (by omega) (by omega) hN) S (va_cwS 3 hts (lw_S q68 q69 q9 q70) rfl rfl rfl ⟨by decide, by decide, by decide⟩ ⟨by decide, by decide⟩) w 0 0 rfl rfl rfl hl.1 rfl (by decide) dX2_swap_2_12 ⟨by omega, by omega⟩ (fun u H locs hu w => ?_)
        have w : xW D [(d, .long)] (LA h d s.heap.size N x) s [(h, La d N u)] H locs := w
        refine lv_iinc (v := iI (zk + 1)) (lv' := [(4, .int (iI (zk + 1))), (0, .ref h), (1, .int (iI (zi))), (2, .int (iI (zj))), (3, .int (iI (zn)))]) hx hb dX2_swap_2_15 hl (k := 4) rfl (xi_inc (by omega)) (by decide) rfl (fun ls hl => ?_)
        refine lv_iinc (v := iI (zi + 1)) (lv' := [(1, .int (iI (zi + 1))), (4, .int (iI (zk + 1))), (0, .ref h), (2, .int (iI (zj))), (3, .int (iI (zn)))]) hx hb dX2_swap_2_18 hl (k := 2) rfl (xi_inc (by omega)) (by decide) rfl (fun ls hl => ?_)
        refine lv_iinc (v := iI (zj + 1)) (lv' := [(2, .int (iI (zj + 1))), (1, .int (iI (zi + 1))), (4, .int (iI (zk + 1))), (0, .ref h), (3, .int (iI (zn)))]) hx hb dX2_swap_2_21 hl (k := 3) rfl (xi_inc (by omega)) (by decide) rfl (fun ls hl => ?_)
        refine lv_goto (tgt := 3) hx hb dX2_swap_2_24 (by decide) ?_
        exact ih (k + 1) u _ _ _ H locs ls (by omega) (by omega) (by omega) (by omega) (by rw [hu]; exact blk_s hB (by omega) hab) w (lv_sub hl [3, 1, 0, 4, 2] rfl)
  refine xi_iconst hx hb dX2_swap_2_0 ?_
  refine lv_istore (lv' := [(4, .int (iI (0))), (0, .ref h), (1, .int (iI (za))), (2, .int (iI (zb))), (3, .int (iI (zn)))]) hx hb dX2_swap_2_1 hl (by decide) rfl (fun ls hl => ?_)
  exact loop n 0 x _ _ _ _ _ ls (by omega) (by omega) (by omega) (by omega) (blk_0 x a b) w (lv_sub hl [1, 2, 3, 4, 0] rfl)
end
section
/-! med3, selectionSort, insertionSort, binarySearch -/
set_option maxRecDepth 100000
theorem cmpZ.lt {a b : Int64} {z : Int} (h : cmpZ a b z) (q : z < 0) : a < b := by rcases h with ⟨h, e⟩ | ⟨h, e⟩ | ⟨h, e⟩ <;> first | exact h | exact absurd q (by omega)
theorem cmpZ.gt {a b : Int64} {z : Int} (h : cmpZ a b z) (q : 0 < z) : b < a := by rcases h with ⟨h, e⟩ | ⟨h, e⟩ | ⟨h, e⟩ <;> first | exact h | exact absurd q (by omega)
theorem cmpZ.eq {a b : Int64} {z : Int} (h : cmpZ a b z) (q : z = 0) : a = b := by rcases h with ⟨h, e⟩ | ⟨h, e⟩ | ⟨h, e⟩ <;> first | exact h | exact absurd q (by omega)
theorem cmpZ.ge {a b : Int64} {z : Int} (h : cmpZ a b z) (q : 0 ≤ z) : b ≤ a := by
  rcases h with ⟨h, e⟩ | ⟨h, e⟩ | ⟨h, e⟩
  · exact absurd q (by omega)
  · exact h ▸ Int64.le_refl _
  · exact Int64.le_of_lt h
theorem cmpZ.le {a b : Int64} {z : Int} (h : cmpZ a b z) (q : z ≤ 0) : a ≤ b := by
  rcases h with ⟨h, e⟩ | ⟨h, e⟩ | ⟨h, e⟩
  · exact Int64.le_of_lt h
  · exact h ▸ Int64.le_refl _
  · exact absurd q (by omega)
def medP (x : Nat → Int64) (a b c k : Nat) : Prop := (k = a ∧ (x b ≤ x a ∧ x a ≤ x c ∨ x c ≤ x a ∧ x a ≤ x b)) ∨ (k = b ∧ (x a ≤ x b ∧ x b ≤ x c ∨ x c ≤ x b ∧ x b ≤ x a)) ∨ (k = c ∧ (x a ≤ x c ∧ x c ≤ x b ∨ x b ≤ x c ∧ x c ≤ x a))
theorem M_med3 {l : Launch} {D : va_G} {h : Nat} {d : ClassId} {sz N : Nat} {x : Nat → Int64} {za zb zc : Int} {a b c : Nat} (hza : za = a) (hzb : zb = b) (hzc : zc = c) (ha : a < N) (hb : b < N) (hc : c < N) (hN : N < 2147483648) : Met l yX2_med3 (ws_ yX2_med3 cX2_med3 7 (some .int)) ({ frames := 1, locals := 23 } : Room) (LPc D h d sz N x [.ref h, .int (iI za), .int (iI zb), .int (iI zc)]) (va_Qi (fun r u => u = x ∧ ∃ k : Nat, r = iI k ∧ medP x a b c k) (LB D h d N) (LA h d sz N x)) 0 0 (LA h d sz N x) := by
  have haN := ha
  have hbN := hb
  have hcN := hc
  clear ha hb hc
  refine xa_meti (by decide) (Nat.le_of_ble_eq_true rfl) ?_
  intro p e s m args below meth cd Q ls hsz S w hl K
  obtain ⟨hx, hb, hml, hown, hts⟩ := id S
  have hl : lv_has ls 7 [(0, .ref h), (1, .int (iI za)), (2, .int (iI zb)), (3, .int (iI zc))] := hl
  refine lv_aload_n hx hb dX2_med3_0 rfl (lv_at hl 0 rfl) ?_
  refine lv_iload_n hx hb dX2_med3_1 rfl (lv_at hl 1 rfl) ?_
  refine xa_lald hx hb w 0 0 rfl rfl a (by omega) (by omega) hN dX2_med3_2 ?_
  refine lv_aload_n hx hb dX2_med3_3 rfl (lv_at hl 0 rfl) ?_
  refine lv_iload_n hx hb dX2_med3_4 rfl (lv_at hl 2 rfl) ?_
  refine xa_lald hx hb w 0 0 rfl rfl b (by omega) (by omega) hN dX2_med3_5 ?_
  refine xs_calli (M_compare (rm := {})) S (va_cwS 2 hts (lw_S q65 q66 q10 q67) rfl rfl rfl ⟨by decide, by decide, by decide⟩ ⟨by decide, by decide⟩) rfl rfl hl.1 rfl (by decide) dX2_med3_6 ⟨by omega, by omega⟩ (fun rzp hrzp => ?_)
  obtain ⟨zp, rfl, hab⟩ := hrzp
  have habR : -1 ≤ zp ∧ zp ≤ 1 := by rcases hab with ⟨_, h⟩ | ⟨_, h⟩ | ⟨_, h⟩ <;> omega
  refine lv_istore (lv' := [(4, .int (iI (zp))), (0, .ref h), (1, .int (iI (za))), (2, .int (iI (zb))), (3, .int (iI (zc)))]) hx hb dX2_med3_9 hl (by decide) rfl (fun ls hl => ?_)
  refine lv_aload_n hx hb dX2_med3_11 rfl (lv_at hl 1 rfl) ?_
  refine lv_iload_n hx hb dX2_med3_12 rfl (lv_at hl 2 rfl) ?_
  refine xa_lald hx hb w 0 0 rfl rfl a (by omega) (by omega) hN dX2_med3_13 ?_
  refine lv_aload_n hx hb dX2_med3_14 rfl (lv_at hl 1 rfl) ?_
  refine lv_iload_n hx hb dX2_med3_15 rfl (lv_at hl 4 rfl) ?_
  refine xa_lald hx hb w 0 0 rfl rfl c (by omega) (by omega) hN dX2_med3_16 ?_
  refine xs_calli (M_compare (rm := {})) S (va_cwS 2 hts (lw_S q65 q66 q10 q67) rfl rfl rfl ⟨by decide, by decide, by decide⟩ ⟨by decide, by decide⟩) rfl rfl hl.1 rfl (by decide) dX2_med3_17 ⟨by omega, by omega⟩ (fun rzq hrzq => ?_)
  obtain ⟨zq, rfl, hac⟩ := hrzq
  have hacR : -1 ≤ zq ∧ zq ≤ 1 := by rcases hac with ⟨_, h⟩ | ⟨_, h⟩ | ⟨_, h⟩ <;> omega
  refine lv_istore (lv' := [(5, .int (iI (zq))), (4, .int (iI (zp))), (0, .ref h), (1, .int (iI (za))), (2, .int (iI (zb))), (3, .int (iI (zc)))]) hx hb dX2_med3_20 hl (by decide) rfl (fun ls hl => ?_)
  refine lv_aload_n hx hb dX2_med3_22 rfl (lv_at hl 2 rfl) ?_
  refine lv_iload_n hx hb dX2_med3_23 rfl (lv_at hl 4 rfl) ?_
  refine xa_lald hx hb w 0 0 rfl rfl b (by omega) (by omega) hN dX2_med3_24 ?_
  refine lv_aload_n hx hb dX2_med3_25 rfl (lv_at hl 2 rfl) ?_
  refine lv_iload_n hx hb dX2_med3_26 rfl (lv_at hl 5 rfl) ?_
  refine xa_lald hx hb w 0 0 rfl rfl c (by omega) (by omega) hN dX2_med3_27 ?_
  refine xs_calli (M_compare (rm := {})) S (va_cwS 2 hts (lw_S q65 q66 q10 q67) rfl rfl rfl ⟨by decide, by decide, by decide⟩ ⟨by decide, by decide⟩) rfl rfl hl.1 rfl (by decide) dX2_med3_28 ⟨by omega, by omega⟩ (fun rzr hrzr => ?_)
  obtain ⟨zr, rfl, hbc⟩ := hrzr
  have hbcR : -1 ≤ zr ∧ zr ≤ 1 := by rcases hbc with ⟨_, h⟩ | ⟨_, h⟩ | ⟨_, h⟩ <;> omega
  refine lv_istore (lv' := [(6, .int (iI (zr))), (5, .int (iI (zq))), (4, .int (iI (zp))), (0, .ref h), (1, .int (iI (za))), (2, .int (iI (zb))), (3, .int (iI (zc)))]) hx hb dX2_med3_31 hl (by decide) rfl (fun ls hl => ?_)
  refine lv_iload hx hb dX2_med3_33 (lv_at hl 2 rfl) ?_
  refine xi_if_ge hx hb dX2_med3_35 (tgt := 60) (by decide) (by unfold iR; omega) (fun h35 => ?_) (fun h35 => ?_)
  · skip
    refine lv_iload hx hb dX2_med3_60 (lv_at hl 0 rfl) ?_
    refine xi_if_le hx hb dX2_med3_62 (tgt := 69) (by decide) (by unfold iR; omega) (fun h62 => ?_) (fun h62 => ?_)
    · skip
      refine lv_iload hx hb dX2_med3_69 (lv_at hl 1 rfl) ?_
      refine xi_if_le hx hb dX2_med3_71 (tgt := 78) (by decide) (by unfold iR; omega) (fun h71 => ?_) (fun h71 => ?_)
      · skip
        refine lv_iload_n hx hb dX2_med3_78 rfl (lv_at hl 4 rfl) ?_
        exact K _ _ _ _ _ ls _ _ 0 dX2_med3_79 ⟨rfl, a, by rw [hza], Or.inl ⟨rfl, Or.inl ⟨hab.ge (by omega), hac.le (by omega)⟩⟩⟩ w rfl
      · skip
        refine lv_iload_n hx hb dX2_med3_74 rfl (lv_at hl 6 rfl) ?_
        refine lv_goto (tgt := 79) hx hb dX2_med3_75 (by decide) ?_
        exact K _ _ _ _ _ ls _ _ 0 dX2_med3_79 ⟨rfl, c, by rw [hzc], Or.inr (Or.inr ⟨rfl, Or.inr ⟨hbc.le (by omega), hac.ge (by omega)⟩⟩)⟩ w rfl
    · skip
      refine lv_iload_n hx hb dX2_med3_65 rfl (lv_at hl 5 rfl) ?_
      refine lv_goto (tgt := 79) hx hb dX2_med3_66 (by decide) ?_
      exact K _ _ _ _ _ ls _ _ 0 dX2_med3_79 ⟨rfl, b, by rw [hzb], Or.inr (Or.inl ⟨rfl, Or.inr ⟨hbc.ge (by omega), hab.ge (by omega)⟩⟩)⟩ w rfl
  · skip
    refine lv_iload hx hb dX2_med3_38 (lv_at hl 0 rfl) ?_
    refine xi_if_ge hx hb dX2_med3_40 (tgt := 47) (by decide) (by unfold iR; omega) (fun h40 => ?_) (fun h40 => ?_)
    · skip
      refine lv_iload hx hb dX2_med3_47 (lv_at hl 1 rfl) ?_
      refine xi_if_ge hx hb dX2_med3_49 (tgt := 56) (by decide) (by unfold iR; omega) (fun h49 => ?_) (fun h49 => ?_)
      · skip
        refine lv_iload_n hx hb dX2_med3_56 rfl (lv_at hl 4 rfl) ?_
        refine lv_goto (tgt := 79) hx hb dX2_med3_57 (by decide) ?_
        exact K _ _ _ _ _ ls _ _ 0 dX2_med3_79 ⟨rfl, a, by rw [hza], Or.inl ⟨rfl, Or.inr ⟨hac.ge (by omega), hab.le (by omega)⟩⟩⟩ w rfl
      · skip
        refine lv_iload_n hx hb dX2_med3_52 rfl (lv_at hl 6 rfl) ?_
        refine lv_goto (tgt := 79) hx hb dX2_med3_53 (by decide) ?_
        exact K _ _ _ _ _ ls _ _ 0 dX2_med3_79 ⟨rfl, c, by rw [hzc], Or.inr (Or.inr ⟨rfl, Or.inl ⟨hac.le (by omega), hbc.ge (by omega)⟩⟩)⟩ w rfl
    · skip
      refine lv_iload_n hx hb dX2_med3_43 rfl (lv_at hl 5 rfl) ?_
      refine lv_goto (tgt := 79) hx hb dX2_med3_44 (by decide) ?_
      exact K _ _ _ _ _ ls _ _ 0 dX2_med3_79 ⟨rfl, b, by rw [hzb], Or.inr (Or.inl ⟨rfl, Or.inl ⟨hab.le (by omega), hbc.le (by omega)⟩⟩)⟩ w rfl
def SelI (f t i : Nat) (x y : Nat → Int64) : Prop := Pm f t x y ∧ ∀ a b, f ≤ a → a < i → a ≤ b → b < t → y a ≤ y b
theorem SelI.fin {f t i : Nat} {x y : Nat → Int64} (h : SelI f t i x y) (hi : t ≤ i + 1) : Srt f t x y := ⟨h.1, fun a b h1 h2 h3 => by
  by_cases ha : a < i
  · exact h.2 a b h1 ha h2 h3
  · obtain rfl : a = b := by omega
    exact Int64.le_refl _⟩
theorem SelI.keep {f t i : Nat} {x y : Nat → Int64} (h : SelI f t i x y) (hm : ∀ b, i ≤ b → b < t → y i ≤ y b) : SelI f t (i + 1) x y := ⟨h.1, fun a b h1 h2 h3 h4 => by
  by_cases ha : a < i
  · exact h.2 a b h1 ha h3 h4
  · obtain rfl : a = i := by omega
    exact hm b h3 h4⟩
theorem SelI.sw {f t i m : Nat} {x y : Nat → Int64} (h : SelI f t i x y) (hf : f ≤ i) (h1 : i ≤ m) (h2 : m < t) (hm : ∀ b, i ≤ b → b < t → y m ≤ y b) : SelI f t (i + 1) x (swp y i m) := by
  have hs : Pm i t y (swp y i m) := Pm.swp y (by omega) (by omega) (by omega) h2
  refine SelI.keep ⟨h.1.trans (hs.wide hf (by omega) (by omega)), fun a b g1 g2 g3 g4 => ?_⟩ (fun b g1 g2 => ?_)
  · rw [hs.2 a (Or.inl g2)]
    by_cases hb : b < i
    · rw [hs.2 b (Or.inl hb)]; exact h.2 a b g1 g2 g3 g4
    · exact hs.all (C := fun v => y a ≤ v) (fun j q1 q2 => h.2 a j g1 g2 (by omega) q2) b (by omega) g4
  · rw [swp_l]; exact hs.all (C := fun v => y m ≤ v) hm b g1 g2
theorem M_selection {l : Launch} {rm : Room} {D : va_G} {h : Nat} {d : ClassId} {sz N : Nat} {x : Nat → Int64} {zf zt : Int} {f t : Nat} (hzf : zf = f) (hzt : zt = t) (hft : f ≤ t) (htN : t ≤ N) (hN : N < 2147483648) : Met l yX2_selectionSort (ws_ yX2_selectionSort cX2_selectionSort 7 none) rm (LPc D h d sz N x [.ref h, .int (iI zf), .int (iI zt)]) (va_Qv (Srt f t x) (LB D h d N) (LA h d sz N x)) 0 0 (LA h d sz N x) := by
  refine xa_metv (by decide) (Nat.le_of_ble_eq_true rfl) ?_
  intro p e s m args below meth c Q ls hsz S w hl K
  obtain ⟨hx, hb, hml, hown, hts⟩ := id S
  have hl : lv_has ls 7 [(0, .ref h), (1, .int (iI zf)), (2, .int (iI zt))] := hl
  have outer : ∀ (r i : Nat) (y : Nat → Int64) (zi : Int) (H : Heap) (locs : List Loc) (ls : Array Slot), i + r = t → zi = i → f ≤ i → SelI f t i x y → xW D [(d, .long)] (LA h d s.heap.size N x) s [(h, La d N y)] H locs → lv_has ls 7 [(0, .ref h), (1, .int (iI zf)), (2, .int (iI zt)), (3, .int (iI zi))] → W p l e rm s m args below meth c H locs 0 0 Q (F0 m 2 ls []) := by
    intro r
    induction r with
    | zero =>
      intro i y zi H locs ls hr hzi hfi hI w hl
      refine lv_iload_n hx hb dX2_selectionSort_2 rfl (lv_at hl 3 rfl) ?_
      refine lv_iload_n hx hb dX2_selectionSort_3 rfl (lv_at hl 2 rfl) ?_
      refine xi_iconst hx hb dX2_selectionSort_4 ?_
      refine xi_isub hx hb dX2_selectionSort_5 ?_
      refine xi_icmp_ge hx hb dX2_selectionSort_6 (tgt := 75) (by decide) (by unfold iR; omega) (by unfold iR; omega) (fun h6 => ?_) (fun h6 => ?_)
      · skip
        exact K _ _ _ _ ls _ _ 0 dX2_selectionSort_75 (hI.fin (by omega)) w rfl
      · skip
        exfalso; omega
    | succ r ih =>
      intro i y zi H locs ls hr hzi hfi hI w hl
      have inner : ∀ (r2 j k : Nat) (zj zk : Int) (ls : Array Slot), j + r2 = t → zj = j → zk = k → i < j → i ≤ k → k < j → (∀ b, i ≤ b → b < j → y k ≤ y b) → lv_has ls 7 [(0, .ref h), (1, .int (iI zf)), (2, .int (iI zt)), (3, .int (iI zi)), (4, .int (iI zk)), (5, .int (iI zj))] → W p l e rm s m args below meth c H locs 0 0 Q (F0 m 17 ls []) := by
        intro r2
        induction r2 with
        | zero =>
          intro j k zj zk ls hr2 hzj hzk hij hik hkj hm hl
          obtain rfl : j = t := by omega
          refine lv_iload hx hb dX2_selectionSort_17 (lv_at hl 5 rfl) ?_
          refine lv_iload_n hx hb dX2_selectionSort_19 rfl (lv_at hl 2 rfl) ?_
          refine xi_icmp_ge hx hb dX2_selectionSort_20 (tgt := 45) (by decide) (by unfold iR; omega) (by unfold iR; omega) (fun h20 => ?_) (fun h20 => ?_)
          · skip
            refine lv_iload hx hb dX2_selectionSort_45 (lv_at hl 4 rfl) ?_
            refine lv_iload_n hx hb dX2_selectionSort_47 rfl (lv_at hl 3 rfl) ?_
            refine xi_icmp_eq hx hb dX2_selectionSort_48 (tgt := 69) (by decide) (by unfold iR; omega) (by unfold iR; omega) (fun h48 => ?_) (fun h48 => ?_)
            · skip
              refine lv_iinc (v := iI (zi + 1)) (lv' := [(3, .int (iI (zi + 1))), (0, .ref h), (1, .int (iI (zf))), (2, .int (iI (zt))), (4, .int (iI (zk))), (5, .int (iI (zj)))]) hx hb dX2_selectionSort_69 hl (k := 3) rfl (xi_inc (by omega)) (by decide) rfl (fun ls hl => ?_)
              refine lv_goto (tgt := 2) hx hb dX2_selectionSort_72 (by decide) ?_
              exact ih (i + 1) y _ H locs ls (by omega) (by omega) (by omega) (by have q : k = i := (by omega); subst q; exact hI.keep hm) w (lv_sub hl [1, 2, 3, 0] rfl)
            · skip
              refine lv_aload_n hx hb dX2_selectionSort_51 rfl (lv_at hl 0 rfl) ?_
              refine lv_iload_n hx hb dX2_selectionSort_52 rfl (lv_at hl 3 rfl) ?_
              refine xa_lald hx hb w 0 0 rfl rfl i (by omega) (by omega) hN dX2_selectionSort_53 ?_
              refine lv_lstore (lv' := [(5, .long (y i)), (0, .ref h), (1, .int (iI (zf))), (2, .int (iI (zt))), (3, .int (iI (zi))), (4, .int (iI (zk)))]) hx hb dX2_selectionSort_54 hl (by decide) rfl (fun ls hl => ?_)
              refine lv_aload_n hx hb dX2_selectionSort_56 rfl (lv_at hl 1 rfl) ?_
              refine lv_iload_n hx hb dX2_selectionSort_57 rfl (lv_at hl 4 rfl) ?_
              refine lv_aload_n hx hb dX2_selectionSort_58 rfl (lv_at hl 1 rfl) ?_
              refine lv_iload hx hb dX2_selectionSort_59 (lv_at hl 5 rfl) ?_
              refine xa_lald hx hb w 0 0 rfl rfl k (by omega) (by omega) hN dX2_selectionSort_61 ?_
              refine xa_last hx hb w 0 0 rfl rfl i (by omega) (by omega) hN dX2_selectionSort_62 (fun H locs w => ?_)
              obtain ⟨y1, ey1⟩ : ∃ y9, y9 = vp_updL y i (y k) := ⟨_, rfl⟩
              have w : xW D [(d, .long)] (LA h d s.heap.size N x) s [(h, La d N y1)] H locs := by rw [ey1]; exact w
              refine lv_aload_n hx hb dX2_selectionSort_63 rfl (lv_at hl 1 rfl) ?_
              refine lv_iload hx hb dX2_selectionSort_64 (lv_at hl 5 rfl) ?_
              refine lv_lload hx hb dX2_selectionSort_66 (lv_at hl 0 rfl) ?_
              refine xa_last hx hb w 0 0 rfl rfl k (by omega) (by omega) hN dX2_selectionSort_68 (fun H locs w => ?_)
              obtain ⟨y2, ey2⟩ : ∃ y9, y9 = vp_updL y1 k (y i) := ⟨_, rfl⟩
              have w : xW D [(d, .long)] (LA h d s.heap.size N x) s [(h, La d N y2)] H locs := by rw [ey2]; exact w
              refine lv_iinc (v := iI (zi + 1)) (lv' := [(3, .int (iI (zi + 1))), (5, .long (y i)), (0, .ref h), (1, .int (iI (zf))), (2, .int (iI (zt))), (4, .int (iI (zk)))]) hx hb dX2_selectionSort_69 hl (k := 4) rfl (xi_inc (by omega)) (by decide) rfl (fun ls hl => ?_)
              refine lv_goto (tgt := 2) hx hb dX2_selectionSort_72 (by decide) ?_
              exact ih (i + 1) y2 _ H locs ls (by omega) (by omega) (by omega) (by have := hI.sw hfi hik hkj hm; rw [ey2, ey1]; exact this) w (lv_sub hl [2, 3, 4, 0] rfl)
          · skip
            exfalso; omega
        | succ r2 ih2 =>
          intro j k zj zk ls hr2 hzj hzk hij hik hkj hm hl
          refine lv_iload hx hb dX2_selectionSort_17 (lv_at hl 5 rfl) ?_
          refine lv_iload_n hx hb dX2_selectionSort_19 rfl (lv_at hl 2 rfl) ?_
          refine xi_icmp_ge hx hb dX2_selectionSort_20 (tgt := 45) (by decide) (by unfold iR; omega) (by unfold iR; omega) (fun h20 => ?_) (fun h20 => ?_)
          · skip
            exfalso; omega
          · skip
            refine lv_aload_n hx hb dX2_selectionSort_23 rfl (lv_at hl 0 rfl) ?_
            refine lv_iload hx hb dX2_selectionSort_24 (lv_at hl 5 rfl) ?_
            refine xa_lald hx hb w 0 0 rfl rfl j (by omega) (by omega) hN dX2_selectionSort_26 ?_
            refine lv_aload_n hx hb dX2_selectionSort_27 rfl (lv_at hl 0 rfl) ?_
            refine lv_iload hx hb dX2_selectionSort_28 (lv_at hl 4 rfl) ?_
            refine xa_lald hx hb w 0 0 rfl rfl k (by omega) (by omega) hN dX2_selectionSort_30 ?_
            refine xl_cmp_ge hx hb dX2_selectionSort_31 dX2_selectionSort_32 (tgt := 39) (by decide) (fun h31 => ?_) (fun h31 => ?_)
            · skip
              refine lv_iinc (v := iI (zj + 1)) (lv' := [(5, .int (iI (zj + 1))), (0, .ref h), (1, .int (iI (zf))), (2, .int (iI (zt))), (3, .int (iI (zi))), (4, .int (iI (zk)))]) hx hb dX2_selectionSort_39 hl (k := 5) rfl (xi_inc (by omega)) (by decide) rfl (fun ls hl => ?_)
              refine lv_goto (tgt := 17) hx hb dX2_selectionSort_42 (by decide) ?_
              exact ih2 (j + 1) k _ _ ls (by omega) (by omega) (by omega) (by omega) (by omega) (by omega) (fun b q1 q2 => (Nat.lt_or_ge b j).elim (hm b q1) (fun hb => (show b = j by omega) ▸ h31)) (lv_sub hl [1, 2, 3, 4, 5, 0] rfl)
            · skip
              refine lv_iload hx hb dX2_selectionSort_35 (lv_at hl 5 rfl) ?_
              refine lv_istore (lv' := [(4, .int (iI (zj))), (0, .ref h), (1, .int (iI (zf))), (2, .int (iI (zt))), (3, .int (iI (zi))), (5, .int (iI (zj)))]) hx hb dX2_selectionSort_37 hl (by decide) rfl (fun ls hl => ?_)
              refine lv_iinc (v := iI (zj + 1)) (lv' := [(5, .int (iI (zj + 1))), (4, .int (iI (zj))), (0, .ref h), (1, .int (iI (zf))), (2, .int (iI (zt))), (3, .int (iI (zi)))]) hx hb dX2_selectionSort_39 hl (k := 5) rfl (xi_inc (by omega)) (by decide) rfl (fun ls hl => ?_)
              refine lv_goto (tgt := 17) hx hb dX2_selectionSort_42 (by decide) ?_
              exact ih2 (j + 1) j _ _ ls (by omega) (by omega) (by omega) (by omega) (by omega) (by omega) (fun b q1 q2 => (Nat.lt_or_ge b j).elim (fun hb => Int64.le_trans (Int64.le_of_lt h31) (hm b q1 hb)) (fun hb => (show j = b by omega) ▸ Int64.le_refl _)) (lv_sub hl [2, 3, 4, 5, 1, 0] rfl)
      refine lv_iload_n hx hb dX2_selectionSort_2 rfl (lv_at hl 3 rfl) ?_
      refine lv_iload_n hx hb dX2_selectionSort_3 rfl (lv_at hl 2 rfl) ?_
      refine xi_iconst hx hb dX2_selectionSort_4 ?_
      refine xi_isub hx hb dX2_selectionSort_5 ?_
      refine xi_icmp_ge hx hb dX2_selectionSort_6 (tgt := 75) (by decide) (by unfold iR; omega) (by unfold iR; omega) (fun h6 => ?_) (fun h6 => ?_)
      · skip
        exact K _ _ _ _ ls _ _ 0 dX2_selectionSort_75 (hI.fin (by omega)) w rfl
      · skip
        refine lv_iload_n hx hb dX2_selectionSort_9 rfl (lv_at hl 3 rfl) ?_
        refine lv_istore (lv' := [(4, .int (iI (zi))), (0, .ref h), (1, .int (iI (zf))), (2, .int (iI (zt))), (3, .int (iI (zi)))]) hx hb dX2_selectionSort_10 hl (by decide) rfl (fun ls hl => ?_)
        refine lv_iload_n hx hb dX2_selectionSort_12 rfl (lv_at hl 4 rfl) ?_
        refine xi_iconst hx hb dX2_selectionSort_13 ?_
        refine xi_iadd hx hb dX2_selectionSort_14 ?_
        refine lv_istore (lv' := [(5, .int (iI (zi + 1))), (4, .int (iI (zi))), (0, .ref h), (1, .int (iI (zf))), (2, .int (iI (zt))), (3, .int (iI (zi)))]) hx hb dX2_selectionSort_15 hl (by decide) rfl (fun ls hl => ?_)
        exact inner r (i + 1) i _ _ ls (by omega) (by omega) (by omega) (by omega) (by omega) (by omega) (fun b q1 q2 => (show i = b by omega) ▸ Int64.le_refl _) (lv_sub hl [2, 3, 4, 5, 1, 0] rfl)
  refine lv_iload_n hx hb dX2_selectionSort_0 rfl (lv_at hl 1 rfl) ?_
  refine lv_istore_n (lv' := [(3, .int (iI (zf))), (0, .ref h), (1, .int (iI (zf))), (2, .int (iI (zt)))]) hx hb dX2_selectionSort_1 rfl hl (by decide) rfl (fun ls hl => ?_)
  exact outer (t - f) f x _ _ _ ls (by omega) (by omega) (by omega) ⟨Pm.refl f t x, fun a b h1 h2 h3 h4 => absurd h2 (by omega)⟩ w (lv_sub hl [1, 2, 3, 0] rfl)
def InsI (f i j : Nat) (v : Int64) (y : Nat → Int64) : Prop := (∀ a b, f ≤ a → a ≤ b → b ≤ i → a ≠ j → b ≠ j → y a ≤ y b) ∧ ∀ k, j < k → k ≤ i → v ≤ y k
theorem InsI.init {f i : Nat} {y : Nat → Int64} (h : So f i y) : InsI f i i (y i) y := ⟨fun a b h1 h2 h3 h4 h5 => h a b h1 h2 (by omega), fun k h1 h2 => absurd h1 (by omega)⟩
theorem updL_self (y : Nat → Int64) (i : Nat) : vp_updL y i (y i) = y := by
  funext k
  by_cases h : k = i
  · rw [h, pk_uLs]
  · rw [pk_uLn h]
theorem InsI.step {f i j : Nat} {v : Int64} {y : Nat → Int64} (h : InsI f i j v y) (hj : f < j) (hi : j ≤ i) (hv : v < y (j - 1)) : InsI f i (j - 1) v (vp_updL y j (y (j - 1))) := by
  refine ⟨fun a b h1 h2 h3 h4 h5 => ?_, fun k h1 h2 => ?_⟩
  · by_cases ha : a = j
    · subst ha
      rw [pk_uLs]
      by_cases hb : b = a
      · subst hb; rw [pk_uLs]; exact Int64.le_refl _
      · rw [pk_uLn hb]; exact h.1 (a - 1) b (by omega) (by omega) h3 (by omega) hb
    · rw [pk_uLn ha]
      by_cases hb : b = j
      · subst hb; rw [pk_uLs]; exact h.1 a (b - 1) h1 (by omega) (by omega) ha (by omega)
      · rw [pk_uLn hb]; exact h.1 a b h1 h2 h3 ha hb
  · by_cases hk : k = j
    · subst hk; rw [pk_uLs]; exact Int64.le_of_lt hv
    · rw [pk_uLn hk]; exact h.2 k (by omega) h2
theorem InsI.perm {f t j : Nat} {v : Int64} {x y : Nat → Int64} (h : Pm f t x (vp_updL y j v)) (hj : f < j) (ht : j < t) : Pm f t x (vp_updL (vp_updL y j (y (j - 1))) (j - 1) v) := by
  have e : vp_updL (vp_updL y j (y (j - 1))) (j - 1) v = swp (vp_updL y j v) (j - 1) j := by
    funext k
    rw [swp_at, pk_uLs]
    by_cases h1 : k = j
    · subst h1; rw [if_pos rfl, pk_uLn (by omega), pk_uLs, pk_uLn (by omega)]
    · rw [if_neg h1]
      by_cases h2 : k = j - 1
      · rw [if_pos h2, h2, pk_uLs]
      · rw [if_neg h2, pk_uLn h2, pk_uLn h1, pk_uLn h1]
  rw [e]
  exact h.trans (Pm.swp _ (by omega) (by omega) (by omega) ht)
theorem InsI.fin {f i j : Nat} {v : Int64} {y : Nat → Int64} (h : InsI f i j v y) (hj : f ≤ j) (hi : j ≤ i) (hv : j = f ∨ y (j - 1) ≤ v) : So f (i + 1) (vp_updL y j v) := by
  intro a b h1 h2 h3
  by_cases ha : a = j
  · subst ha
    rw [pk_uLs]
    by_cases hb : b = a
    · subst hb; rw [pk_uLs]; exact Int64.le_refl _
    · rw [pk_uLn hb]; exact h.2 b (by omega) (by omega)
  · rw [pk_uLn ha]
    by_cases hb : b = j
    · subst hb; rw [pk_uLs]
      rcases hv with hv | hv
      · exact absurd h1 (by omega)
      · exact Int64.le_trans (h.1 a (b - 1) h1 (by omega) (by omega) ha (by omega)) hv
    · rw [pk_uLn hb]; exact h.1 a b h1 h2 (by omega) ha hb
theorem M_insertion {l : Launch} {rm : Room} {D : va_G} {h : Nat} {d : ClassId} {sz N : Nat} {x : Nat → Int64} {zf zt : Int} {f t : Nat} (hzf : zf = f) (hzt : zt = t) (hft : f ≤ t) (htN : t ≤ N) (hN2 : N < 1073741824) : Met l yX2_insertionSort (ws_ yX2_insertionSort cX2_insertionSort 9 none) rm (LPc D h d sz N x [.ref h, .int (iI zf), .int (iI zt)]) (va_Qv (Srt f t x) (LB D h d N) (LA h d sz N x)) 0 0 (LA h d sz N x) := by
  refine xa_metv (by decide) (Nat.le_of_ble_eq_true rfl) ?_
  intro p e s m args below meth c Q ls hsz S w hl K
  obtain ⟨hx, hb, hml, hown, hts⟩ := id S
  have hl : lv_has ls 9 [(0, .ref h), (1, .int (iI zf)), (2, .int (iI zt))] := hl
  have hN : N < 2147483648 := by omega
  have outer : ∀ (r i : Nat) (y : Nat → Int64) (zi : Int) (H : Heap) (locs : List Loc) (ls : Array Slot), i + r = t → zi = i → f ≤ i → Pm f t x y → So f (i + 1) y → xW D [(d, .long)] (LA h d s.heap.size N x) s [(h, La d N y)] H locs → lv_has ls 9 [(0, .ref h), (1, .int (iI zf)), (2, .int (iI zt)), (3, .int (iI zi))] → W p l e rm s m args below meth c H locs 0 0 Q (F0 m 2 ls []) := by
    intro r
    induction r with
    | zero =>
      intro i y zi H locs ls hr hzi hfi hP hS w hl
      refine lv_iinc (v := iI (zi + 1)) (lv' := [(3, .int (iI (zi + 1))), (0, .ref h), (1, .int (iI (zf))), (2, .int (iI (zt)))]) hx hb dX2_insertionSort_2 hl (k := 3) rfl (xi_inc (by omega)) (by decide) rfl (fun ls hl => ?_)
      refine lv_iload_n hx hb dX2_insertionSort_5 rfl (lv_at hl 0 rfl) ?_
      refine lv_iload_n hx hb dX2_insertionSort_6 rfl (lv_at hl 3 rfl) ?_
      refine xi_icmp_ge hx hb dX2_insertionSort_7 (tgt := 77) (by decide) (by unfold iR; omega) (by unfold iR; omega) (fun h7 => ?_) (fun h7 => ?_)
      · skip
        exact K _ _ _ _ ls _ _ 0 dX2_insertionSort_77 ⟨hP, fun a b h1 h2 h3 => hS a b h1 h2 (by omega)⟩ w rfl
      · skip
        exfalso; omega
    | succ r ih =>
      intro i y0 zi H locs ls hr hzi hfi hP hS w hl
      have inner : ∀ (r2 j : Nat) (y : Nat → Int64) (zj zi2 : Int) (v : Int64) (H : Heap) (locs : List Loc) (ls : Array Slot), f + r2 = j → zj = j → zi2 = i + 1 → i + 1 < t → f < j → j ≤ i + 1 → Pm f t x (vp_updL y j v) → InsI f (i + 1) j v y → xW D [(d, .long)] (LA h d s.heap.size N x) s [(h, La d N y)] H locs → lv_has ls 9 [(0, .ref h), (1, .int (iI zf)), (2, .int (iI zt)), (3, .int (iI zi2)), (4, .long v), (6, .int (iI zj)), (7, .long (y (j - 1)))] → W p l e rm s m args below meth c H locs 0 0 Q (F0 m 26 ls []) := by
        intro r2
        induction r2 with
        | zero =>
          intro j y zj zi2 v H locs ls hr2 hzj hzi2 hit hfj hji hP hI w hl
          exfalso; omega
        | succ r2 ih2 =>
          intro j y zj zi2 v H locs ls hr2 hzj hzi2 hit hfj hji hP hI w hl
          refine lv_lload hx hb dX2_insertionSort_26 (lv_at hl 4 rfl) ?_
          refine lv_lload hx hb dX2_insertionSort_28 (lv_at hl 6 rfl) ?_
          refine xl_cmp_ge hx hb dX2_insertionSort_30 dX2_insertionSort_31 (tgt := 68) (by decide) (fun h30 => ?_) (fun h30 => ?_)
          · skip
            refine lv_aload_n hx hb dX2_insertionSort_68 rfl (lv_at hl 0 rfl) ?_
            refine lv_iload hx hb dX2_insertionSort_69 (lv_at hl 5 rfl) ?_
            refine lv_lload hx hb dX2_insertionSort_71 (lv_at hl 4 rfl) ?_
            refine xa_last hx hb w 0 0 rfl rfl j (by omega) (by omega) hN dX2_insertionSort_73 (fun H locs w => ?_)
            obtain ⟨y2, ey2⟩ : ∃ y9, y9 = vp_updL y j (v) := ⟨_, rfl⟩
            have w : xW D [(d, .long)] (LA h d s.heap.size N x) s [(h, La d N y2)] H locs := by rw [ey2]; exact w
            refine lv_goto (tgt := 2) hx hb dX2_insertionSort_74 (by decide) ?_
            exact ih (i + 1) y2 _ H locs ls (by omega) (by omega) (by omega) (by rw [ey2]; exact hP) (by rw [ey2]; exact hI.fin (by omega) (by omega) (Or.inr h30)) w (lv_sub hl [0, 1, 2, 3] rfl)
          · skip
            refine lv_aload_n hx hb dX2_insertionSort_34 rfl (lv_at hl 0 rfl) ?_
            refine lv_iload hx hb dX2_insertionSort_35 (lv_at hl 5 rfl) ?_
            refine lv_lload hx hb dX2_insertionSort_37 (lv_at hl 6 rfl) ?_
            refine xa_last hx hb w 0 0 rfl rfl j (by omega) (by omega) hN dX2_insertionSort_39 (fun H locs w => ?_)
            obtain ⟨y1, ey1⟩ : ∃ y9, y9 = vp_updL y j (y (j - 1)) := ⟨_, rfl⟩
            have w : xW D [(d, .long)] (LA h d s.heap.size N x) s [(h, La d N y1)] H locs := by rw [ey1]; exact w
            refine lv_iload_n hx hb dX2_insertionSort_40 rfl (lv_at hl 1 rfl) ?_
            refine lv_iload hx hb dX2_insertionSort_41 (lv_at hl 5 rfl) ?_
            refine xi_iconst hx hb dX2_insertionSort_43 ?_
            refine xi_isub hx hb dX2_insertionSort_44 ?_
            refine xi_icmp_ne hx hb dX2_insertionSort_45 (tgt := 54) (by decide) (by unfold iR; omega) (by unfold iR; omega) (fun h45 => ?_) (fun h45 => ?_)
            · skip
              refine lv_aload_n hx hb dX2_insertionSort_54 rfl (lv_at hl 0 rfl) ?_
              refine lv_iinc (v := iI (zj - 1)) (lv' := [(6, .int (iI (zj - 1))), (0, .ref h), (1, .int (iI (zf))), (2, .int (iI (zt))), (3, .int (iI (zi2))), (4, .long (v)), (7, .long (y (j - 1)))]) hx hb dX2_insertionSort_55 hl (k := 5) rfl (xi_inc (by omega)) (by decide) rfl (fun ls hl => ?_)
              refine lv_iload hx hb dX2_insertionSort_58 (lv_at hl 0 rfl) ?_
              refine xi_iconst hx hb dX2_insertionSort_60 ?_
              refine xi_isub hx hb dX2_insertionSort_61 ?_
              refine xa_lald hx hb w 0 0 rfl rfl ((j - 1 - 1)) (by omega) (by omega) hN dX2_insertionSort_62 ?_
              refine lv_lstore (lv' := [(7, .long (y1 ((j - 1 - 1)))), (6, .int (iI (zj - 1))), (0, .ref h), (1, .int (iI (zf))), (2, .int (iI (zt))), (3, .int (iI (zi2))), (4, .long (v))]) hx hb dX2_insertionSort_63 hl (by decide) rfl (fun ls hl => ?_)
              refine lv_goto (tgt := 26) hx hb dX2_insertionSort_65 (by decide) ?_
              exact ih2 (j - 1) y1 _ _ v H locs ls (by omega) (by omega) (by omega) hit (by omega) (by omega) (by rw [ey1]; exact InsI.perm hP hfj (by omega)) (by rw [ey1]; exact hI.step hfj hji h30) w (lv_sub hl [2, 3, 4, 5, 6, 1, 0] rfl)
            · skip
              refine lv_iinc (v := iI (zj - 1)) (lv' := [(6, .int (iI (zj - 1))), (0, .ref h), (1, .int (iI (zf))), (2, .int (iI (zt))), (3, .int (iI (zi2))), (4, .long (v)), (7, .long (y (j - 1)))]) hx hb dX2_insertionSort_48 hl (k := 5) rfl (xi_inc (by omega)) (by decide) rfl (fun ls hl => ?_)
              refine lv_goto (tgt := 68) hx hb dX2_insertionSort_51 (by decide) ?_
              refine lv_aload_n hx hb dX2_insertionSort_68 rfl (lv_at hl 1 rfl) ?_
              refine lv_iload hx hb dX2_insertionSort_69 (lv_at hl 0 rfl) ?_
              refine lv_lload hx hb dX2_insertionSort_71 (lv_at hl 5 rfl) ?_
              refine xa_last hx hb w 0 0 rfl rfl ((j - 1)) (by omega) (by omega) hN dX2_insertionSort_73 (fun H locs w => ?_)
              obtain ⟨y2, ey2⟩ : ∃ y9, y9 = vp_updL y1 ((j - 1)) (v) := ⟨_, rfl⟩
              have w : xW D [(d, .long)] (LA h d s.heap.size N x) s [(h, La d N y2)] H locs := by rw [ey2]; exact w
              refine lv_goto (tgt := 2) hx hb dX2_insertionSort_74 (by decide) ?_
              exact ih (i + 1) y2 _ H locs ls (by omega) (by omega) (by omega) (by rw [ey2, ey1]; exact InsI.perm hP hfj (by omega)) (by rw [ey2, ey1]; exact (hI.step hfj hji h30).fin (by omega) (by omega) (Or.inl (by omega))) w (lv_sub hl [1, 2, 3, 4] rfl)
      refine lv_iinc (v := iI (zi + 1)) (lv' := [(3, .int (iI (zi + 1))), (0, .ref h), (1, .int (iI (zf))), (2, .int (iI (zt)))]) hx hb dX2_insertionSort_2 hl (k := 3) rfl (xi_inc (by omega)) (by decide) rfl (fun ls hl => ?_)
      refine lv_iload_n hx hb dX2_insertionSort_5 rfl (lv_at hl 0 rfl) ?_
      refine lv_iload_n hx hb dX2_insertionSort_6 rfl (lv_at hl 3 rfl) ?_
      refine xi_icmp_ge hx hb dX2_insertionSort_7 (tgt := 77) (by decide) (by unfold iR; omega) (by unfold iR; omega) (fun h7 => ?_) (fun h7 => ?_)
      · skip
        exact K _ _ _ _ ls _ _ 0 dX2_insertionSort_77 ⟨hP, fun a b h1 h2 h3 => hS a b h1 h2 (by omega)⟩ w rfl
      · skip
        refine lv_aload_n hx hb dX2_insertionSort_10 rfl (lv_at hl 1 rfl) ?_
        refine lv_iload_n hx hb dX2_insertionSort_11 rfl (lv_at hl 0 rfl) ?_
        refine xa_lald hx hb w 0 0 rfl rfl ((i + 1)) (by omega) (by omega) hN dX2_insertionSort_12 ?_
        refine lv_lstore (lv' := [(4, .long (y0 ((i + 1)))), (3, .int (iI (zi + 1))), (0, .ref h), (1, .int (iI (zf))), (2, .int (iI (zt)))]) hx hb dX2_insertionSort_13 hl (by decide) rfl (fun ls hl => ?_)
        refine lv_iload_n hx hb dX2_insertionSort_15 rfl (lv_at hl 1 rfl) ?_
        refine lv_istore (lv' := [(6, .int (iI (zi + 1))), (4, .long (y0 ((i + 1)))), (3, .int (iI (zi + 1))), (0, .ref h), (1, .int (iI (zf))), (2, .int (iI (zt)))]) hx hb dX2_insertionSort_16 hl (by decide) rfl (fun ls hl => ?_)
        refine lv_aload_n hx hb dX2_insertionSort_18 rfl (lv_at hl 3 rfl) ?_
        refine lv_iload hx hb dX2_insertionSort_19 (lv_at hl 0 rfl) ?_
        refine xi_iconst hx hb dX2_insertionSort_21 ?_
        refine xi_isub hx hb dX2_insertionSort_22 ?_
        refine xa_lald hx hb w 0 0 rfl rfl ((i + 1 - 1)) (by omega) (by omega) hN dX2_insertionSort_23 ?_
        refine lv_lstore (lv' := [(7, .long (y0 ((i + 1 - 1)))), (6, .int (iI (zi + 1))), (4, .long (y0 ((i + 1)))), (3, .int (iI (zi + 1))), (0, .ref h), (1, .int (iI (zf))), (2, .int (iI (zt)))]) hx hb dX2_insertionSort_24 hl (by decide) rfl (fun ls hl => ?_)
        exact inner (i + 1 - f) (i + 1) y0 _ _ _ H locs ls (by omega) (by omega) (by omega) (by omega) (by omega) (by omega) (by rw [updL_self]; exact hP) (InsI.init hS) w (lv_sub hl [4, 5, 6, 3, 2, 1, 0] rfl)
  refine lv_iload_n hx hb dX2_insertionSort_0 rfl (lv_at hl 1 rfl) ?_
  refine lv_istore_n (lv' := [(3, .int (iI (zf))), (0, .ref h), (1, .int (iI (zf))), (2, .int (iI (zt)))]) hx hb dX2_insertionSort_1 rfl hl (by decide) rfl (fun ls hl => ?_)
  exact outer (t - f) f x _ _ _ ls (by omega) (by omega) (by omega) (Pm.refl f t x) (So.empty (by omega)) w (lv_sub hl [1, 2, 3, 0] rfl)
def bsP (x : Nat → Int64) (f t : Nat) (v : Int64) (r : Int32) : Prop := (∃ k : Nat, f ≤ k ∧ k < t ∧ r = iI k ∧ x k = v) ∨ ∃ k : Nat, f ≤ k ∧ k ≤ t ∧ r = iI (-((k : Int) + 1)) ∧ (∀ i, f ≤ i → i < k → x i < v) ∧ ∀ i, k ≤ i → i < t → v < x i
theorem M_search {l : Launch} {rm : Room} {D : va_G} {h : Nat} {d : ClassId} {sz N : Nat} {x : Nat → Int64} {zf zt : Int} {f t : Nat} {v : Int64} (hzf : zf = f) (hzt : zt = t) (hft : f ≤ t) (htN : t ≤ N) (hN2 : N < 1073741824) (hS : So f t x) : Met l yX2_binarySearch (ws_ yX2_binarySearch cX2_binarySearch 8 (some .int)) rm (LPc D h d sz N x [.ref h, .int (iI zf), .int (iI zt), .long v]) (va_Qi (fun r u => u = x ∧ bsP x f t v r) (LB D h d N) (LA h d sz N x)) 0 0 (LA h d sz N x) := by
  refine xa_meti (by decide) (Nat.le_of_ble_eq_true rfl) ?_
  intro p e s m args below meth c Q ls hsz S w hl K
  obtain ⟨hx, hb, hml, hown, hts⟩ := id S
  have hl : lv_has ls 8 [(0, .ref h), (1, .int (iI zf)), (2, .int (iI zt)), (3, .long v)] := hl
  have hN : N < 2147483648 := by omega
  have loop : ∀ (r a b : Nat) (za zb : Int) (ls : Array Slot), b - a ≤ r → za = a → zb = (b : Int) - 1 → f ≤ a → a ≤ b → b ≤ t → (∀ i, f ≤ i → i < a → x i < v) → (∀ i, b ≤ i → i < t → v < x i) → lv_has ls 8 [(0, .ref h), (1, .int (iI za)), (2, .int (iI zb)), (3, .long v)] → W p l e rm s m args below meth c s.heap [] 0 0 Q (F0 m 3 ls []) := by
    intro r
    induction r with
    | zero =>
      intro a b za zb ls hr hza hzb hfa hab hbt hL hR hl
      refine lv_iload_n hx hb dX2_binarySearch_3 rfl (lv_at hl 1 rfl) ?_
      refine lv_iload_n hx hb dX2_binarySearch_4 rfl (lv_at hl 2 rfl) ?_
      refine xi_icmp_gt hx hb dX2_binarySearch_5 (tgt := 57) (by decide) (by unfold iR; omega) (by unfold iR; omega) (fun h5 => ?_) (fun h5 => ?_)
      · skip
        refine lv_iload_n hx hb dX2_binarySearch_57 rfl (lv_at hl 1 rfl) ?_
        refine xi_iconst hx hb dX2_binarySearch_58 ?_
        refine xi_iadd hx hb dX2_binarySearch_59 ?_
        refine xi_ineg hx hb dX2_binarySearch_60 ?_
        exact K _ _ _ _ _ ls _ _ 0 dX2_binarySearch_61 ⟨rfl, Or.inr ⟨a, by omega, by omega, by rw [hza], hL, fun i q1 q2 => hR i (by omega) q2⟩⟩ w rfl
      · skip
        exfalso; omega
    | succ r ih =>
      intro a b za zb ls hr hza hzb hfa hab hbt hL hR hl
      refine lv_iload_n hx hb dX2_binarySearch_3 rfl (lv_at hl 1 rfl) ?_
      refine lv_iload_n hx hb dX2_binarySearch_4 rfl (lv_at hl 2 rfl) ?_
      refine xi_icmp_gt hx hb dX2_binarySearch_5 (tgt := 57) (by decide) (by unfold iR; omega) (by unfold iR; omega) (fun h5 => ?_) (fun h5 => ?_)
      · skip
        refine lv_iload_n hx hb dX2_binarySearch_57 rfl (lv_at hl 1 rfl) ?_
        refine xi_iconst hx hb dX2_binarySearch_58 ?_
        refine xi_iadd hx hb dX2_binarySearch_59 ?_
        refine xi_ineg hx hb dX2_binarySearch_60 ?_
        exact K _ _ _ _ _ ls _ _ 0 dX2_binarySearch_61 ⟨rfl, Or.inr ⟨a, by omega, by omega, by rw [hza], hL, fun i q1 q2 => hR i (by omega) q2⟩⟩ w rfl
      · skip
        refine lv_iload_n hx hb dX2_binarySearch_8 rfl (lv_at hl 1 rfl) ?_
        refine lv_iload_n hx hb dX2_binarySearch_9 rfl (lv_at hl 2 rfl) ?_
        refine xi_iadd hx hb dX2_binarySearch_10 ?_
        refine xi_iconst hx hb dX2_binarySearch_11 ?_
        refine xi_iushr1 hx hb (by omega) dX2_binarySearch_12 ?_
        obtain ⟨k, hk⟩ : ∃ k : Nat, (za + zb) / 2 = (k : Int) := ⟨((za + zb) / 2).toNat, by omega⟩
        have hk2 : a ≤ k ∧ k < b := by omega
        refine lv_istore (lv' := [(7, .int (iI ((za + zb) / 2))), (0, .ref h), (1, .int (iI (za))), (2, .int (iI (zb))), (3, .long (v))]) hx hb dX2_binarySearch_13 hl (by decide) rfl (fun ls hl => ?_)
        refine lv_aload_n hx hb dX2_binarySearch_15 rfl (lv_at hl 1 rfl) ?_
        refine lv_iload hx hb dX2_binarySearch_16 (lv_at hl 0 rfl) ?_
        refine xa_lald hx hb w 0 0 rfl rfl k (by omega) (by omega) hN dX2_binarySearch_18 ?_
        refine lv_lstore (lv' := [(5, .long (x k)), (7, .int (iI ((za + zb) / 2))), (0, .ref h), (1, .int (iI (za))), (2, .int (iI (zb))), (3, .long (v))]) hx hb dX2_binarySearch_19 hl (by decide) rfl (fun ls hl => ?_)
        refine lv_lload hx hb dX2_binarySearch_21 (lv_at hl 0 rfl) ?_
        refine lv_lload_n hx hb dX2_binarySearch_23 rfl (lv_at hl 5 rfl) ?_
        refine xl_cmp_ge hx hb dX2_binarySearch_24 dX2_binarySearch_25 (tgt := 36) (by decide) (fun h24 => ?_) (fun h24 => ?_)
        · skip
          refine lv_lload hx hb dX2_binarySearch_36 (lv_at hl 0 rfl) ?_
          refine lv_lload_n hx hb dX2_binarySearch_38 rfl (lv_at hl 5 rfl) ?_
          refine xl_cmp_le hx hb dX2_binarySearch_39 dX2_binarySearch_40 (tgt := 51) (by decide) (fun h39 => ?_) (fun h39 => ?_)
          · skip
            refine lv_iload hx hb dX2_binarySearch_51 (lv_at hl 1 rfl) ?_
            exact K _ _ _ _ _ ls _ _ 0 dX2_binarySearch_53 ⟨rfl, Or.inl ⟨k, by omega, by omega, by rw [hk], Int64.le_antisymm h39 h24⟩⟩ w rfl
          · skip
            refine lv_iload hx hb dX2_binarySearch_43 (lv_at hl 1 rfl) ?_
            refine xi_iconst hx hb dX2_binarySearch_45 ?_
            refine xi_isub hx hb dX2_binarySearch_46 ?_
            refine lv_istore_n (lv' := [(2, .int (iI (((za + zb) / 2) - 1))), (5, .long (x k)), (7, .int (iI ((za + zb) / 2))), (0, .ref h), (1, .int (iI (za))), (3, .long (v))]) hx hb dX2_binarySearch_47 rfl hl (by decide) rfl (fun ls hl => ?_)
            refine lv_goto (tgt := 54) hx hb dX2_binarySearch_48 (by decide) ?_
            refine lv_goto (tgt := 3) hx hb dX2_binarySearch_54 (by decide) ?_
            exact ih a k _ _ ls (by omega) (by omega) (by omega) (by omega) (by omega) (by omega) hL (fun i q1 q2 => Int64.lt_of_lt_of_le h39 (hS k i (by omega) q1 q2)) (lv_sub hl [3, 4, 0, 5] rfl)
        · skip
          refine lv_iload hx hb dX2_binarySearch_28 (lv_at hl 1 rfl) ?_
          refine xi_iconst hx hb dX2_binarySearch_30 ?_
          refine xi_iadd hx hb dX2_binarySearch_31 ?_
          refine lv_istore_n (lv' := [(1, .int (iI (((za + zb) / 2) + 1))), (5, .long (x k)), (7, .int (iI ((za + zb) / 2))), (0, .ref h), (2, .int (iI (zb))), (3, .long (v))]) hx hb dX2_binarySearch_32 rfl hl (by decide) rfl (fun ls hl => ?_)
          refine lv_goto (tgt := 54) hx hb dX2_binarySearch_33 (by decide) ?_
          refine lv_goto (tgt := 3) hx hb dX2_binarySearch_54 (by decide) ?_
          exact ih (k + 1) b _ _ ls (by omega) (by omega) (by omega) (by omega) (by omega) hbt (fun i q1 q2 => Int64.lt_of_le_of_lt (hS i k q1 (by omega) (by omega)) h24) hR (lv_sub hl [3, 0, 4, 5] rfl)
  refine lv_iinc (v := iI (zt - 1)) (lv' := [(2, .int (iI (zt - 1))), (0, .ref h), (1, .int (iI (zf))), (3, .long (v))]) hx hb dX2_binarySearch_0 hl (k := 2) rfl (xi_inc (by omega)) (by decide) rfl (fun ls hl => ?_)
  exact loop (t - f) f t _ _ ls (by omega) (by omega) (by omega) (by omega) (by omega) (by omega) (fun i q1 q2 => absurd q2 (by omega)) (fun i q1 q2 => absurd q2 (by omega)) (lv_sub hl [1, 2, 0, 3] rfl)
end
section
/-! the plain law of quickSort -/
/-- the partition: = v, < v, not yet seen, > v, = v -/
def QP (f t a b c d : Nat) (v : Int64) (y : Nat → Int64) : Prop := (f ≤ a ∧ a ≤ b ∧ b ≤ c ∧ c ≤ d ∧ d ≤ t) ∧ (∀ k, f ≤ k → k < a → y k = v) ∧ (∀ k, a ≤ k → k < b → y k < v) ∧ (∀ k, c ≤ k → k < d → v < y k) ∧ ∀ k, d ≤ k → k < t → y k = v
theorem QP.lt {f t a b c d : Nat} {v : Int64} {y : Nat → Int64} (h : QP f t a b c d v y) (hb : b < c) (hv : y b < v) : QP f t a (b + 1) c d v y := by
  obtain ⟨h0, h1, h2, h3, h4⟩ := h
  refine ⟨by omega, h1, fun k q1 q2 => ?_, h3, h4⟩
  by_cases hk : k = b
  · rw [hk]; exact hv
  · exact h2 k q1 (by omega)
theorem QP.eql {f t a b c d : Nat} {v : Int64} {y : Nat → Int64} (h : QP f t a b c d v y) (hb : b < c) (hv : y b = v) : QP f t (a + 1) (b + 1) c d v (swp y a b) := by
  obtain ⟨h0, h1, h2, h3, h4⟩ := h
  refine ⟨by omega, fun k q1 q2 => ?_, fun k q1 q2 => ?_, fun k q1 q2 => ?_, fun k q1 q2 => ?_⟩
  · by_cases hk : k = a
    · rw [hk, swp_l]; exact hv
    · rw [swp_o y hk (by omega)]; exact h1 k q1 (by omega)
  · by_cases hk : k = b
    · rw [hk, swp_r]; exact h2 a (by omega) (by omega)
    · rw [swp_o y (by omega) hk]; exact h2 k (by omega) (by omega)
  · rw [swp_o y (by omega) (by omega)]; exact h3 k q1 q2
  · rw [swp_o y (by omega) (by omega)]; exact h4 k q1 q2
theorem QP.gt {f t a b c d : Nat} {v : Int64} {y : Nat → Int64} (h : QP f t a b c d v y) (hb : b < c) (hv : v < y (c - 1)) : QP f t a b (c - 1) d v y := by
  obtain ⟨h0, h1, h2, h3, h4⟩ := h
  refine ⟨by omega, h1, h2, fun k q1 q2 => ?_, h4⟩
  by_cases hk : k = c - 1
  · rw [hk]; exact hv
  · exact h3 k (by omega) q2
theorem QP.eqr {f t a b c d : Nat} {v : Int64} {y : Nat → Int64} (h : QP f t a b c d v y) (hb : b < c) (hv : y (c - 1) = v) : QP f t a b (c - 1) (d - 1) v (swp y (c - 1) (d - 1)) := by
  obtain ⟨h0, h1, h2, h3, h4⟩ := h
  refine ⟨by omega, fun k q1 q2 => ?_, fun k q1 q2 => ?_, fun k q1 q2 => ?_, fun k q1 q2 => ?_⟩
  · rw [swp_o y (by omega) (by omega)]; exact h1 k q1 q2
  · rw [swp_o y (by omega) (by omega)]; exact h2 k q1 q2
  · by_cases hk : k = c - 1
    · rw [hk, swp_l]; exact h3 (d - 1) (by omega) (by omega)
    · rw [swp_o y hk (by omega)]; exact h3 k (by omega) (by omega)
  · by_cases hk : k = d - 1
    · rw [hk, swp_r]; exact hv
    · rw [swp_o y (by omega) hk]; exact h4 k (by omega) q2
theorem QP.both {f t a b c d : Nat} {v : Int64} {y : Nat → Int64} (h : QP f t a b c d v y) (hb : b < c) (hv : v < y b) (hv2 : y (c - 1) < v) : b + 1 ≤ c - 1 ∧ QP f t a (b + 1) (c - 1) d v (swp y b (c - 1)) := by
  obtain ⟨h0, h1, h2, h3, h4⟩ := h
  have hne : b ≠ c - 1 := fun q => by rw [← q] at hv2; exact Int64.lt_irrefl (Int64.lt_trans hv hv2)
  refine ⟨by omega, by omega, fun k q1 q2 => ?_, fun k q1 q2 => ?_, fun k q1 q2 => ?_, fun k q1 q2 => ?_⟩
  · rw [swp_o y (by omega) (by omega)]; exact h1 k q1 q2
  · by_cases hk : k = b
    · rw [hk, swp_l]; exact hv2
    · rw [swp_o y hk (by omega)]; exact h2 k q1 (by omega)
  · by_cases hk : k = c - 1
    · rw [hk, swp_r]; exact hv
    · rw [swp_o y (by omega) hk]; exact h3 k (by omega) (by omega)
  · rw [swp_o y (by omega) (by omega)]; exact h4 k q1 q2
def Three (f p q t : Nat) (v : Int64) (y : Nat → Int64) : Prop := (f ≤ p ∧ p ≤ q ∧ q ≤ t) ∧ (∀ k, f ≤ k → k < p → y k < v) ∧ (∀ k, p ≤ k → k < q → y k = v) ∧ ∀ k, q ≤ k → k < t → v < y k
theorem QP.three {f t a b d s s2 : Nat} {v : Int64} {y y2 y3 : Nat → Int64} (h : QP f t a b b d v y) (hs : s = min (a - f) (b - a)) (hs2 : s2 = min (d - b) (t - d)) (hB : blk y f (b - s) s y2) (hB2 : blk y2 b (t - s2) s2 y3) : Three f (f + (b - a)) (t - (d - b)) t v y3 := by
  obtain ⟨h0, h1, h2, h3, h4⟩ := h
  obtain ⟨g1, g2, -⟩ := hB
  obtain ⟨g3, g4, -⟩ := hB2
  have e1 : ∀ k, f ≤ k → k < f + (b - a) → y2 k < v := by
    intro k q1 q2
    by_cases hk : k < f + s
    · have := (g1 (k - f) (by omega)).1
      rw [show f + (k - f) = k by omega] at this
      rw [this]; exact h2 _ (by omega) (by omega)
    · rw [g2 k (by omega) (by omega)]; exact h2 k (by omega) (by omega)
  have e2 : ∀ k, f + (b - a) ≤ k → k < b → y2 k = v := by
    intro k q1 q2
    by_cases hk : b - s ≤ k
    · have := (g1 (k - (b - s)) (by omega)).2
      rw [show b - s + (k - (b - s)) = k by omega] at this
      rw [this]; exact h1 _ (by omega) (by omega)
    · rw [g2 k (by omega) (by omega)]; exact h1 k (by omega) (by omega)
  have e3 : ∀ k, b ≤ k → y2 k = y k := fun k q => g2 k (by omega) (by omega)
  refine ⟨by omega, fun k q1 q2 => ?_, fun k q1 q2 => ?_, fun k q1 q2 => ?_⟩
  · rw [g4 k (by omega) (by omega)]; exact e1 k q1 q2
  · by_cases hkb : k < b
    · rw [g4 k (by omega) (by omega)]; exact e2 k q1 hkb
    · by_cases hk : k < b + s2
      · have := (g3 (k - b) (by omega)).1
        rw [show b + (k - b) = k by omega] at this
        rw [this, e3 _ (by omega)]; exact h4 _ (by omega) (by omega)
      · rw [g4 k (by omega) (by omega), e3 k (by omega)]; exact h4 k (by omega) (by omega)
  · by_cases hk : t - s2 ≤ k
    · have := (g3 (k - (t - s2)) (by omega)).2
      rw [show t - s2 + (k - (t - s2)) = k by omega] at this
      rw [this, e3 _ (by omega)]; exact h3 _ (by omega) (by omega)
    · rw [g4 k (by omega) (by omega), e3 k (by omega)]; exact h3 k (by omega) (by omega)
theorem Three.fin {f p q t : Nat} {v : Int64} {x y y1 y2 : Nat → Int64} (hx : Pm f t x y) (h : Three f p q t v y) (h1 : Srt f p y y1) (h2 : Srt q t y1 y2) : Srt f t x y2 := by
  obtain ⟨h0, g1, g2, g3⟩ := h
  have e1 := h1.1.all (C := fun w => w < v) g1
  have e2 := h2.1.all (C := fun w => v < w) (fun i q1 q2 => by rw [h1.1.2 i (by omega)]; exact g3 i q1 q2)
  refine ⟨(hx.trans (h1.1.wide (by omega) (by omega) (by omega))).trans (h2.1.wide (by omega) (by omega) (by omega)), fun i j a1 a2 a3 => ?_⟩
  have k1 : ∀ i, f ≤ i → i < p → y2 i = y1 i := fun i _ q2 => h2.1.2 i (by omega)
  have k2 : ∀ i, p ≤ i → i < q → y2 i = v := fun i q1 q2 => by rw [h2.1.2 i (by omega), h1.1.2 i (by omega)]; exact g2 i q1 q2
  by_cases hi : i < p
  · by_cases hj : j < p
    · rw [k1 i a1 hi, k1 j (by omega) hj]; exact h1.2 i j a1 a2 hj
    · refine Int64.le_of_lt (Int64.lt_of_lt_of_le (by rw [k1 i a1 hi]; exact e1 i a1 hi) (show v ≤ y2 j from ?_))
      by_cases hq : j < q
      · rw [k2 j (by omega) hq]; exact Int64.le_refl _
      · exact Int64.le_of_lt (e2 j (by omega) a3)
  · by_cases hq : i < q
    · rw [k2 i (by omega) hq]
      by_cases hj : j < q
      · rw [k2 j (by omega) hj]; exact Int64.le_refl _
      · exact Int64.le_of_lt (e2 j (by omega) a3)
    · exact h2.2 i j (by omega) a2 a3
theorem Srt.tiny {f t : Nat} {y : Nat → Int64} (h : t ≤ f + 1) : Srt f t y y := ⟨Pm.refl f t y, So.empty h⟩
/-- two places that fail -/
theorem cnt_two {p : Int64 → Bool} {x : Nat → Int64} {f t i j : Nat} (h1 : f ≤ i) (h2 : i < t) (h3 : f ≤ j) (h4 : j < t) (hij : i ≠ j) (hi : p (x i) = false) (hj : p (x j) = false) : cnt p x t + 2 ≤ cnt p x f + (t - f) := by
  have key : ∀ a b, f ≤ a → a < b → b < t → p (x a) = false → p (x b) = false → cnt p x t + 2 ≤ cnt p x f + (t - f) := by
    intro a b q1 q2 q3 q4 q5
    have a1 := cnt_le p x (show b + 1 ≤ t by omega)
    have a2 := cnt_le p x (show a + 1 ≤ b by omega)
    have a3 := cnt_le p x q1
    rw [cnt_s, b2_f q5] at a1
    rw [cnt_s, b2_f q4] at a2
    omega
  rcases Nat.lt_or_gt_of_ne hij with h | h
  · exact key i j h1 h h4 hi hj
  · exact key j i h3 h h2 hj hi
/-- the pivot: some other place holds no more, some other place no less -/
def Piv (x : Nat → Int64) (f t : Nat) (v : Int64) : Prop := ∃ m a b, (f ≤ m ∧ m < t) ∧ (f ≤ a ∧ a < t) ∧ (f ≤ b ∧ b < t) ∧ m ≠ a ∧ m ≠ b ∧ x m = v ∧ x a ≤ v ∧ v ≤ x b
theorem medP.piv {x : Nat → Int64} {a b c k f t : Nat} (h : medP x a b c k) (ha : f ≤ a ∧ a < t) (hb : f ≤ b ∧ b < t) (hc : f ≤ c ∧ c < t) (h1 : a ≠ b) (h2 : a ≠ c) (h3 : b ≠ c) : (f ≤ k ∧ k < t) ∧ Piv x f t (x k) := by
  rcases h with ⟨rfl, h | h⟩ | ⟨rfl, h | h⟩ | ⟨rfl, h | h⟩
  · exact ⟨ha, k, b, c, ha, hb, hc, by omega, by omega, rfl, h.1, h.2⟩
  · exact ⟨ha, k, c, b, ha, hc, hb, by omega, by omega, rfl, h.1, h.2⟩
  · exact ⟨hb, k, a, c, hb, ha, hc, by omega, by omega, rfl, h.1, h.2⟩
  · exact ⟨hb, k, c, a, hb, hc, ha, by omega, by omega, rfl, h.1, h.2⟩
  · exact ⟨hc, k, a, b, hc, ha, hb, by omega, by omega, rfl, h.1, h.2⟩
  · exact ⟨hc, k, b, a, hc, hb, ha, by omega, by omega, rfl, h.1, h.2⟩
theorem medP.in {x : Nat → Int64} {a b c k f t : Nat} (h : medP x a b c k) (ha : f ≤ a ∧ a ≤ t) (hb : f ≤ b ∧ b ≤ t) (hc : f ≤ c ∧ c ≤ t) : f ≤ k ∧ k ≤ t := by
  rcases h with ⟨rfl, -⟩ | ⟨rfl, -⟩ | ⟨rfl, -⟩ <;> assumption
theorem Three.small {f p q t : Nat} {v : Int64} {x y : Nat → Int64} (hx : Pm f t x y) (h : Three f p q t v y) (hv : Piv x f t v) : p - f + 2 ≤ t - f ∧ t - q + 2 ≤ t - f := by
  obtain ⟨h0, g1, g2, g3⟩ := h
  obtain ⟨m, a, b, hm, ha, hb, n1, n2, hmv, hav, hbv⟩ := hv
  constructor
  · have e := hx.1 (fun w => decide (w < v))
    have c1 := cnt_two (p := fun w => decide (w < v)) (x := x) hm.1 hm.2 hb.1 hb.2 n2 (by simp [hmv]) (by simpa using hbv)
    have c2 := cnt_all (p := fun w => decide (w < v)) (x := y) h0.1 (fun i q1 q2 => by simpa using g1 i q1 q2)
    have c3 := cnt_mono (fun w => decide (w < v)) y (show p ≤ t by omega)
    omega
  · have e := hx.1 (fun w => decide (v < w))
    have c1 := cnt_two (p := fun w => decide (v < w)) (x := x) hm.1 hm.2 ha.1 ha.2 n1 (by simp [hmv]) (by simpa using hav)
    have c2 := cnt_all (p := fun w => decide (v < w)) (x := y) h0.2.2 (fun i q1 q2 => by simpa using g3 i q1 q2)
    have c3 := cnt_mono (fun w => decide (v < w)) y (show f ≤ q by omega)
    omega
end
section
/-! quickSort -/
set_option maxRecDepth 100000
set_option maxHeartbeats 1000000
theorem M_quick {l : Launch} : ∀ (dd : Nat) {D : va_G} {h : Nat} {d : ClassId} {sz N : Nat} {x : Nat → Int64} {zf zt : Int} {f t : Nat}, zf = f → zt = t → f ≤ t → t ≤ N → N < 1073741824 → t - f ≤ 2 * dd + 15 → Met l yX2_quickSort (ws_ yX2_quickSort cX2_quickSort 14 none) ({ frames := dd + 2, locals := 33 * dd + 49 } : Room) (LPc D h d sz N x [.ref h, .int (iI zf), .int (iI zt)]) (va_Qv (Srt f t x) (LB D h d N) (LA h d sz N x)) 0 0 (LA h d sz N x) := by
  intro dd
  induction dd with
  | zero =>
    intro D h d sz N x zf zt f t hzf hzt hft htN hN2 hlen
    refine xa_metv (by decide) (Nat.le_of_ble_eq_true rfl) ?_
    intro p e s m args below meth c Q ls hsz S w hl K
    obtain ⟨hx, hb, hml, hown, hts⟩ := id S
    have hN : N < 2147483648 := by omega
    have hl : lv_has ls 14 [(0, .ref h), (1, .int (iI zf)), (2, .int (iI zt))] := hl
    refine lv_iload_n hx hb dX2_quickSort_0 rfl (lv_at hl 2 rfl) ?_
    refine lv_iload_n hx hb dX2_quickSort_1 rfl (lv_at hl 1 rfl) ?_
    refine xi_isub hx hb dX2_quickSort_2 ?_
    refine lv_istore_n (lv' := [(3, .int (iI (zt - zf))), (0, .ref h), (1, .int (iI (zf))), (2, .int (iI (zt)))]) hx hb dX2_quickSort_3 rfl hl (by decide) rfl (fun ls hl => ?_)
    refine lv_iload_n hx hb dX2_quickSort_4 rfl (lv_at hl 0 rfl) ?_
    refine xi_bipush hx hb dX2_quickSort_5 (by decide) ?_
    refine xi_icmp_ge hx hb dX2_quickSort_7 (tgt := 17) (by decide) (by unfold iR; omega) (by unfold iR; omega) (fun h7 => ?_) (fun h7 => ?_)
    · skip
      exfalso; omega
    · skip
      refine lv_aload_n hx hb dX2_quickSort_10 rfl (lv_at hl 1 rfl) ?_
      refine lv_iload_n hx hb dX2_quickSort_11 rfl (lv_at hl 2 rfl) ?_
      refine lv_iload_n hx hb dX2_quickSort_12 rfl (lv_at hl 3 rfl) ?_
      refine xa_callv (M_selection (rm := {}) hzf hzt hft htN hN) S (va_cwS 3 hts (lw_S q59 q60 q9 q61) rfl rfl rfl ⟨by decide, by decide, by decide⟩ ⟨by dsimp only; omega, by dsimp only; omega⟩) w 0 0 rfl rfl rfl hl.1 rfl (by decide) dX2_quickSort_13 ⟨by omega, by omega⟩ (fun y H locs hy w => ?_)
      have w : xW D [(d, .long)] (LA h d s.heap.size N x) s [(h, La d N y)] H locs := w
      exact K _ _ _ _ ls _ _ 0 dX2_quickSort_16 hy w rfl
  | succ dd IH =>
    intro D h d sz N x zf zt f t hzf hzt hft htN hN2 hlen
    refine xa_metv (by decide) (Nat.le_of_ble_eq_true rfl) ?_
    intro p e s m args below meth c Q ls hsz S w hl K
    obtain ⟨hx, hb, hml, hown, hts⟩ := id S
    have hN : N < 2147483648 := by omega
    have hl : lv_has ls 14 [(0, .ref h), (1, .int (iI zf)), (2, .int (iI zt))] := hl
    have fin : ∀ (v : Int64), Piv x f t v → ∀ (a b d1 : Nat) (y : Nat → Int64) (za zb zc zd : Int) (H : Heap) (locs : List Loc) (ls : Array Slot), za = a → zb = b → zc = (b : Int) - 1 → zd = (d1 : Int) - 1 → QP f t a b b d1 v y → Pm f t x y → xW D [(d, .long)] (LA h d s.heap.size N x) s [(h, La d N y)] H locs → lv_has ls 14 [(0, .ref h), (1, .int (iI zf)), (2, .int (iI zt)), (9, .int (iI za)), (10, .int (iI zb)), (11, .int (iI zc)), (12, .int (iI zd))] → W p l e ({ frames := dd + 1 + 2, locals := 33 * (dd + 1) + 49 } : Room) s m args below meth c H locs 0 0 Q (F0 m 252 ls []) := by
      intro v hv a b d1 y za zb zc zd H locs ls hza hzb hzc hzd hq hP w hl
      have ho := hq.1
      refine lv_iload hx hb dX2_quickSort_252 (lv_at hl 3 rfl) ?_
      refine lv_iload_n hx hb dX2_quickSort_254 rfl (lv_at hl 1 rfl) ?_
      refine xi_isub hx hb dX2_quickSort_255 ?_
      refine lv_iload hx hb dX2_quickSort_256 (lv_at hl 4 rfl) ?_
      refine lv_iload hx hb dX2_quickSort_258 (lv_at hl 3 rfl) ?_
      refine xi_isub hx hb dX2_quickSort_260 ?_
      refine va_mmin hx hb (by rw [hml]; exact hl.1.symm) hown (hts _ q71) (hts _ q72) (hts _ q11) (hts _ q73) (by dsimp only; omega) (by show 13 ≤ 33 * (dd + 1) + 49; omega) (Nat.zero_le _) (Nat.zero_le _) dX2_quickSort_261 ?_
      refine xi_topr (min (za - zf) (zb - za)) (iI_min _ _ (by unfold iR; omega) (by unfold iR; omega)) ?_
      obtain ⟨s1, hs1⟩ : ∃ q : Nat, q = min (a - f) (b - a) := ⟨_, rfl⟩
      refine xi_top (z' := (s1 : Int)) (by omega) ?_
      refine lv_istore (lv' := [(13, .int (iI ((s1 : Int)))), (0, .ref h), (1, .int (iI (zf))), (2, .int (iI (zt))), (9, .int (iI (za))), (10, .int (iI (zb))), (11, .int (iI (zc))), (12, .int (iI (zd)))]) hx hb dX2_quickSort_264 hl (by decide) rfl (fun ls hl => ?_)
      refine lv_aload_n hx hb dX2_quickSort_266 rfl (lv_at hl 1 rfl) ?_
      refine lv_iload_n hx hb dX2_quickSort_267 rfl (lv_at hl 2 rfl) ?_
      refine lv_iload hx hb dX2_quickSort_268 (lv_at hl 5 rfl) ?_
      refine lv_iload hx hb dX2_quickSort_270 (lv_at hl 0 rfl) ?_
      refine xi_isub hx hb dX2_quickSort_272 ?_
      refine lv_iload hx hb dX2_quickSort_273 (lv_at hl 0 rfl) ?_
      refine xa_callv (M_swap2 (a := f) (b := b - s1) (n := s1) (by omega) (by omega) (by omega) (by omega) (by omega) hN) S (va_cwS 4 hts (lw_S q74 q75 q9 q76) rfl rfl rfl ⟨by decide, by decide, by decide⟩ ⟨by dsimp only; omega, by dsimp only; omega⟩) w 0 0 rfl rfl rfl hl.1 rfl (by decide) dX2_quickSort_275 ⟨by omega, by omega⟩ (fun y2 H locs hB w => ?_)
      have w : xW D [(d, .long)] (LA h d s.heap.size N x) s [(h, La d N y2)] H locs := w
      refine lv_iload hx hb dX2_quickSort_278 (lv_at hl 7 rfl) ?_
      refine lv_iload hx hb dX2_quickSort_280 (lv_at hl 6 rfl) ?_
      refine xi_isub hx hb dX2_quickSort_282 ?_
      refine lv_iload_n hx hb dX2_quickSort_283 rfl (lv_at hl 3 rfl) ?_
      refine lv_iload hx hb dX2_quickSort_284 (lv_at hl 7 rfl) ?_
      refine xi_isub hx hb dX2_quickSort_286 ?_
      refine xi_iconst hx hb dX2_quickSort_287 ?_
      refine xi_isub hx hb dX2_quickSort_288 ?_
      refine va_mmin hx hb (by rw [hml]; exact hl.1.symm) hown (hts _ q71) (hts _ q72) (hts _ q11) (hts _ q73) (by dsimp only; omega) (by show 13 ≤ 33 * (dd + 1) + 49; omega) (Nat.zero_le _) (Nat.zero_le _) dX2_quickSort_289 ?_
      refine xi_topr (min (zd - zc) ((zt - zd) - 1)) (iI_min _ _ (by unfold iR; omega) (by unfold iR; omega)) ?_
      obtain ⟨s2, hs2⟩ : ∃ q : Nat, q = min (d1 - b) (t - d1) := ⟨_, rfl⟩
      refine xi_top (z' := (s2 : Int)) (by omega) ?_
      refine lv_istore (lv' := [(13, .int (iI ((s2 : Int)))), (0, .ref h), (1, .int (iI (zf))), (2, .int (iI (zt))), (9, .int (iI (za))), (10, .int (iI (zb))), (11, .int (iI (zc))), (12, .int (iI (zd)))]) hx hb dX2_quickSort_292 hl (by decide) rfl (fun ls hl => ?_)
      refine lv_aload_n hx hb dX2_quickSort_294 rfl (lv_at hl 1 rfl) ?_
      refine lv_iload hx hb dX2_quickSort_295 (lv_at hl 5 rfl) ?_
      refine lv_iload_n hx hb dX2_quickSort_297 rfl (lv_at hl 3 rfl) ?_
      refine lv_iload hx hb dX2_quickSort_298 (lv_at hl 0 rfl) ?_
      refine xi_isub hx hb dX2_quickSort_300 ?_
      refine lv_iload hx hb dX2_quickSort_301 (lv_at hl 0 rfl) ?_
      refine xa_callv (M_swap2 (a := b) (b := t - s2) (n := s2) (by omega) (by omega) (by omega) (by omega) (by omega) hN) S (va_cwS 4 hts (lw_S q74 q75 q9 q76) rfl rfl rfl ⟨by decide, by decide, by decide⟩ ⟨by dsimp only; omega, by dsimp only; omega⟩) w 0 0 rfl rfl rfl hl.1 rfl (by decide) dX2_quickSort_303 ⟨by omega, by omega⟩ (fun y3 H locs hB2 w => ?_)
      have w : xW D [(d, .long)] (LA h d s.heap.size N x) s [(h, La d N y3)] H locs := w
      have hP3 : Pm f t x y3 := (hP.trans (hB.2.2 f t (by omega) (by omega))).trans (hB2.2.2 f t (by omega) (by omega))
      have h3 := hq.three hs1 hs2 hB hB2
      have hsm := h3.small hP3 hv
      refine lv_iload hx hb dX2_quickSort_306 (lv_at hl 5 rfl) ?_
      refine lv_iload hx hb dX2_quickSort_308 (lv_at hl 4 rfl) ?_
      refine xi_isub hx hb dX2_quickSort_310 ?_
      refine lv_dup hx hb dX2_quickSort_311 rfl ?_
      refine lv_istore (lv' := [(13, .int (iI (zb - za))), (0, .ref h), (1, .int (iI (zf))), (2, .int (iI (zt))), (9, .int (iI (za))), (10, .int (iI (zb))), (11, .int (iI (zc))), (12, .int (iI (zd)))]) hx hb dX2_quickSort_312 hl (by decide) rfl (fun ls hl => ?_)
      refine xi_iconst hx hb dX2_quickSort_314 ?_
      refine xi_icmp_le hx hb dX2_quickSort_315 (tgt := 327) (by decide) (by unfold iR; omega) (by unfold iR; omega) (fun h315 => ?_) (fun h315 => ?_)
      · skip
        have hq1 : Srt f (f + (b - a)) y3 y3 := Srt.tiny (by omega)
        refine lv_iload hx hb dX2_quickSort_327 (lv_at hl 7 rfl) ?_
        refine lv_iload hx hb dX2_quickSort_329 (lv_at hl 6 rfl) ?_
        refine xi_isub hx hb dX2_quickSort_331 ?_
        refine lv_dup hx hb dX2_quickSort_332 rfl ?_
        refine lv_istore (lv' := [(13, .int (iI (zd - zc))), (0, .ref h), (1, .int (iI (zf))), (2, .int (iI (zt))), (9, .int (iI (za))), (10, .int (iI (zb))), (11, .int (iI (zc))), (12, .int (iI (zd)))]) hx hb dX2_quickSort_333 hl (by decide) rfl (fun ls hl => ?_)
        refine xi_iconst hx hb dX2_quickSort_335 ?_
        refine xi_icmp_le hx hb dX2_quickSort_336 (tgt := 348) (by decide) (by unfold iR; omega) (by unfold iR; omega) (fun h336 => ?_) (fun h336 => ?_)
        · skip
          have hq2 : Srt (t - (d1 - b)) t y3 y3 := Srt.tiny (by omega)
          exact K _ _ _ _ ls _ _ 0 dX2_quickSort_348 (Three.fin hP3 h3 hq1 hq2) w rfl
        · skip
          refine lv_aload_n hx hb dX2_quickSort_339 rfl (lv_at hl 1 rfl) ?_
          refine lv_iload_n hx hb dX2_quickSort_340 rfl (lv_at hl 3 rfl) ?_
          refine lv_iload hx hb dX2_quickSort_341 (lv_at hl 0 rfl) ?_
          refine xi_isub hx hb dX2_quickSort_343 ?_
          refine lv_iload_n hx hb dX2_quickSort_344 rfl (lv_at hl 3 rfl) ?_
          refine xa_callv (IH (f := t - (d1 - b)) (t := t) (by omega) hzt (by omega) (by omega) hN2 (by omega)) S (va_cwS 3 hts (lw_S q77 q57 q9 q58) rfl rfl rfl ⟨by decide, by decide, by decide⟩ ⟨by dsimp only; omega, by dsimp only; omega⟩) w 0 0 rfl rfl rfl hl.1 rfl (by decide) dX2_quickSort_345 ⟨by omega, by omega⟩ (fun y5 H locs hq2 w => ?_)
          have w : xW D [(d, .long)] (LA h d s.heap.size N x) s [(h, La d N y5)] H locs := w
          exact K _ _ _ _ ls _ _ 0 dX2_quickSort_348 (Three.fin hP3 h3 hq1 hq2) w rfl
      · skip
        refine lv_aload_n hx hb dX2_quickSort_318 rfl (lv_at hl 1 rfl) ?_
        refine lv_iload_n hx hb dX2_quickSort_319 rfl (lv_at hl 2 rfl) ?_
        refine lv_iload_n hx hb dX2_quickSort_320 rfl (lv_at hl 2 rfl) ?_
        refine lv_iload hx hb dX2_quickSort_321 (lv_at hl 0 rfl) ?_
        refine xi_iadd hx hb dX2_quickSort_323 ?_
        refine xa_callv (IH (f := f) (t := f + (b - a)) hzf (by omega) (by omega) (by omega) hN2 (by omega)) S (va_cwS 3 hts (lw_S q77 q57 q9 q58) rfl rfl rfl ⟨by decide, by decide, by decide⟩ ⟨by dsimp only; omega, by dsimp only; omega⟩) w 0 0 rfl rfl rfl hl.1 rfl (by decide) dX2_quickSort_324 ⟨by omega, by omega⟩ (fun y4 H locs hq1 w => ?_)
        have w : xW D [(d, .long)] (LA h d s.heap.size N x) s [(h, La d N y4)] H locs := w
        refine lv_iload hx hb dX2_quickSort_327 (lv_at hl 7 rfl) ?_
        refine lv_iload hx hb dX2_quickSort_329 (lv_at hl 6 rfl) ?_
        refine xi_isub hx hb dX2_quickSort_331 ?_
        refine lv_dup hx hb dX2_quickSort_332 rfl ?_
        refine lv_istore (lv' := [(13, .int (iI (zd - zc))), (0, .ref h), (1, .int (iI (zf))), (2, .int (iI (zt))), (9, .int (iI (za))), (10, .int (iI (zb))), (11, .int (iI (zc))), (12, .int (iI (zd)))]) hx hb dX2_quickSort_333 hl (by decide) rfl (fun ls hl => ?_)
        refine xi_iconst hx hb dX2_quickSort_335 ?_
        refine xi_icmp_le hx hb dX2_quickSort_336 (tgt := 348) (by decide) (by unfold iR; omega) (by unfold iR; omega) (fun h336 => ?_) (fun h336 => ?_)
        · skip
          have hq2 : Srt (t - (d1 - b)) t y4 y4 := Srt.tiny (by omega)
          exact K _ _ _ _ ls _ _ 0 dX2_quickSort_348 (Three.fin hP3 h3 hq1 hq2) w rfl
        · skip
          refine lv_aload_n hx hb dX2_quickSort_339 rfl (lv_at hl 1 rfl) ?_
          refine lv_iload_n hx hb dX2_quickSort_340 rfl (lv_at hl 3 rfl) ?_
          refine lv_iload hx hb dX2_quickSort_341 (lv_at hl 0 rfl) ?_
          refine xi_isub hx hb dX2_quickSort_343 ?_
          refine lv_iload_n hx hb dX2_quickSort_344 rfl (lv_at hl 3 rfl) ?_
          refine xa_callv (IH (f := t - (d1 - b)) (t := t) (by omega) hzt (by omega) (by omega) hN2 (by omega)) S (va_cwS 3 hts (lw_S q77 q57 q9 q58) rfl rfl rfl ⟨by decide, by decide, by decide⟩ ⟨by dsimp only; omega, by dsimp only; omega⟩) w 0 0 rfl rfl rfl hl.1 rfl (by decide) dX2_quickSort_345 ⟨by omega, by omega⟩ (fun y5 H locs hq2 w => ?_)
          have w : xW D [(d, .long)] (LA h d s.heap.size N x) s [(h, La d N y5)] H locs := w
          exact K _ _ _ _ ls _ _ 0 dX2_quickSort_348 (Three.fin hP3 h3 hq1 hq2) w rfl
    have part : ∀ (v : Int64), Piv x f t v → ∀ (r a b c1 d1 : Nat) (y : Nat → Int64) (za zb zc zd : Int) (H : Heap) (locs : List Loc) (ls : Array Slot), c1 ≤ b + r → za = a → zb = b → zc = (c1 : Int) - 1 → zd = (d1 : Int) - 1 → QP f t a b c1 d1 v y → Pm f t x y → xW D [(d, .long)] (LA h d s.heap.size N x) s [(h, La d N y)] H locs → lv_has ls 14 [(0, .ref h), (1, .int (iI zf)), (2, .int (iI zt)), (7, .long v), (9, .int (iI za)), (10, .int (iI zb)), (11, .int (iI zc)), (12, .int (iI zd))] → W p l e ({ frames := dd + 1 + 2, locals := 33 * (dd + 1) + 49 } : Room) s m args below meth c H locs 0 0 Q (F0 m 137 ls []) := by
      intro v hv r
      induction r with
      | zero =>
        intro a b c1 d1 y za zb zc zd H locs ls hr hza hzb hzc hzd hq hP w hl
        have ho := hq.1
        obtain rfl : b = c1 := by omega
        refine lv_iload hx hb dX2_quickSort_137 (lv_at hl 5 rfl) ?_
        refine lv_iload hx hb dX2_quickSort_139 (lv_at hl 6 rfl) ?_
        refine xi_icmp_gt hx hb dX2_quickSort_141 (tgt := 181) (by decide) (by unfold iR; omega) (by unfold iR; omega) (fun h141 => ?_) (fun h141 => ?_)
        · skip
          refine lv_iload hx hb dX2_quickSort_181 (lv_at hl 6 rfl) ?_
          refine lv_iload hx hb dX2_quickSort_183 (lv_at hl 5 rfl) ?_
          refine xi_icmp_lt hx hb dX2_quickSort_185 (tgt := 225) (by decide) (by unfold iR; omega) (by unfold iR; omega) (fun h185 => ?_) (fun h185 => ?_)
          · skip
            refine lv_iload hx hb dX2_quickSort_225 (lv_at hl 5 rfl) ?_
            refine lv_iload hx hb dX2_quickSort_227 (lv_at hl 6 rfl) ?_
            refine xi_icmp_le hx hb dX2_quickSort_229 (tgt := 235) (by decide) (by unfold iR; omega) (by unfold iR; omega) (fun h229 => ?_) (fun h229 => ?_)
            · skip
              exfalso; omega
            · skip
              refine lv_goto (tgt := 252) hx hb dX2_quickSort_232 (by decide) ?_
              exact fin v hv a b d1 y _ _ _ _ H locs ls (by omega) (by omega) (by omega) (by omega) hq hP w (lv_sub hl [0, 1, 2, 4, 5, 6, 7] rfl)
          · skip
            exfalso; omega
        · skip
          exfalso; omega
      | succ r ih =>
        intro a b c0 d0 y0 za zb zc0 zd0 H locs ls hr hza hzb hzc0 hzd0 hq0 hP0 w hl
        have ho0 := hq0.1
        have loop2 : ∀ (r2 c1 d1 : Nat) (y : Nat → Int64) (zc zd : Int) (H : Heap) (locs : List Loc) (ls : Array Slot), c1 ≤ b + r2 → c1 ≤ b + (r + 1) → (c1 = b ∨ v < y b) → zc = (c1 : Int) - 1 → zd = (d1 : Int) - 1 → QP f t a b c1 d1 v y → Pm f t x y → xW D [(d, .long)] (LA h d s.heap.size N x) s [(h, La d N y)] H locs → lv_has ls 14 [(0, .ref h), (1, .int (iI zf)), (2, .int (iI zt)), (7, .long v), (9, .int (iI za)), (10, .int (iI zb)), (11, .int (iI zc)), (12, .int (iI zd))] → W p l e ({ frames := dd + 1 + 2, locals := 33 * (dd + 1) + 49 } : Room) s m args below meth c H locs 0 0 Q (F0 m 181 ls []) := by
          intro r2
          induction r2 with
          | zero =>
            intro c1 d1 y zc zd H locs ls hr2 hr3 hyb hzc hzd hq hP w hl
            have ho := hq.1
            obtain rfl : b = c1 := by omega
            refine lv_iload hx hb dX2_quickSort_181 (lv_at hl 6 rfl) ?_
            refine lv_iload hx hb dX2_quickSort_183 (lv_at hl 5 rfl) ?_
            refine xi_icmp_lt hx hb dX2_quickSort_185 (tgt := 225) (by decide) (by unfold iR; omega) (by unfold iR; omega) (fun h185 => ?_) (fun h185 => ?_)
            · skip
              refine lv_iload hx hb dX2_quickSort_225 (lv_at hl 5 rfl) ?_
              refine lv_iload hx hb dX2_quickSort_227 (lv_at hl 6 rfl) ?_
              refine xi_icmp_le hx hb dX2_quickSort_229 (tgt := 235) (by decide) (by unfold iR; omega) (by unfold iR; omega) (fun h229 => ?_) (fun h229 => ?_)
              · skip
                exfalso; omega
              · skip
                refine lv_goto (tgt := 252) hx hb dX2_quickSort_232 (by decide) ?_
                exact fin v hv a b d1 y _ _ _ _ H locs ls (by omega) (by omega) (by omega) (by omega) hq hP w (lv_sub hl [0, 1, 2, 4, 5, 6, 7] rfl)
            · skip
              exfalso; omega
          | succ r2 ih2 =>
            intro c1 d1 y zc zd H locs ls hr2 hr3 hyb hzc hzd hq hP w hl
            have ho := hq.1
            refine lv_iload hx hb dX2_quickSort_181 (lv_at hl 6 rfl) ?_
            refine lv_iload hx hb dX2_quickSort_183 (lv_at hl 5 rfl) ?_
            refine xi_icmp_lt hx hb dX2_quickSort_185 (tgt := 225) (by decide) (by unfold iR; omega) (by unfold iR; omega) (fun h185 => ?_) (fun h185 => ?_)
            · skip
              obtain rfl : b = c1 := by omega
              refine lv_iload hx hb dX2_quickSort_225 (lv_at hl 5 rfl) ?_
              refine lv_iload hx hb dX2_quickSort_227 (lv_at hl 6 rfl) ?_
              refine xi_icmp_le hx hb dX2_quickSort_229 (tgt := 235) (by decide) (by unfold iR; omega) (by unfold iR; omega) (fun h229 => ?_) (fun h229 => ?_)
              · skip
                exfalso; omega
              · skip
                refine lv_goto (tgt := 252) hx hb dX2_quickSort_232 (by decide) ?_
                exact fin v hv a b d1 y _ _ _ _ H locs ls (by omega) (by omega) (by omega) (by omega) hq hP w (lv_sub hl [0, 1, 2, 4, 5, 6, 7] rfl)
            · skip
              have hyb2 : v < y b := hyb.resolve_left (by omega)
              refine lv_aload_n hx hb dX2_quickSort_188 rfl (lv_at hl 0 rfl) ?_
              refine lv_iload hx hb dX2_quickSort_189 (lv_at hl 6 rfl) ?_
              refine xa_lald hx hb w 0 0 rfl rfl ((c1 - 1)) (by omega) (by omega) hN dX2_quickSort_191 ?_
              refine lv_lload hx hb dX2_quickSort_192 (lv_at hl 3 rfl) ?_
              refine xs_calli (M_compare (rm := {})) S (va_cwS 2 hts (lw_S q65 q66 q10 q67) rfl rfl rfl ⟨by decide, by decide, by decide⟩ ⟨by dsimp only; omega, by dsimp only; omega⟩) rfl rfl hl.1 rfl (by decide) dX2_quickSort_194 ⟨by omega, by omega⟩ (fun rzcm hrzcm => ?_)
              obtain ⟨zcm, rfl, hcm⟩ := hrzcm
              have hcmR : -1 ≤ zcm ∧ zcm ≤ 1 := by rcases hcm with ⟨_, h⟩ | ⟨_, h⟩ | ⟨_, h⟩ <;> omega
              refine lv_dup hx hb dX2_quickSort_197 rfl ?_
              refine lv_istore (lv' := [(13, .int (iI (zcm))), (0, .ref h), (1, .int (iI (zf))), (2, .int (iI (zt))), (7, .long (v)), (9, .int (iI (za))), (10, .int (iI (zb))), (11, .int (iI (zc))), (12, .int (iI (zd)))]) hx hb dX2_quickSort_198 hl (by decide) rfl (fun ls hl => ?_)
              refine xi_if_lt hx hb dX2_quickSort_200 (tgt := 225) (by decide) (by unfold iR; omega) (fun h200 => ?_) (fun h200 => ?_)
              · skip
                refine lv_iload hx hb dX2_quickSort_225 (lv_at hl 6 rfl) ?_
                refine lv_iload hx hb dX2_quickSort_227 (lv_at hl 7 rfl) ?_
                refine xi_icmp_le hx hb dX2_quickSort_229 (tgt := 235) (by decide) (by unfold iR; omega) (by unfold iR; omega) (fun h229 => ?_) (fun h229 => ?_)
                · skip
                  refine lv_aload_n hx hb dX2_quickSort_235 rfl (lv_at hl 1 rfl) ?_
                  refine lv_iload hx hb dX2_quickSort_236 (lv_at hl 6 rfl) ?_
                  refine lv_iinc (v := iI (zb + 1)) (lv' := [(10, .int (iI (zb + 1))), (13, .int (iI (zcm))), (0, .ref h), (1, .int (iI (zf))), (2, .int (iI (zt))), (7, .long (v)), (9, .int (iI (za))), (11, .int (iI (zc))), (12, .int (iI (zd)))]) hx hb dX2_quickSort_238 hl (k := 6) rfl (xi_inc (by omega)) (by decide) rfl (fun ls hl => ?_)
                  refine lv_iload hx hb dX2_quickSort_241 (lv_at hl 7 rfl) ?_
                  refine lv_iinc (v := iI (zc - 1)) (lv' := [(11, .int (iI (zc - 1))), (10, .int (iI (zb + 1))), (13, .int (iI (zcm))), (0, .ref h), (1, .int (iI (zf))), (2, .int (iI (zt))), (7, .long (v)), (9, .int (iI (za))), (12, .int (iI (zd)))]) hx hb dX2_quickSort_243 hl (k := 7) rfl (xi_inc (by omega)) (by decide) rfl (fun ls hl => ?_)
                  refine xa_callv (M_swap (rm := {}) (i := b) (j := c1 - 1) (by omega) (by omega) (by omega) (by omega) hN) S (va_cwS 3 hts (lw_S q68 q69 q9 q70) rfl rfl rfl ⟨by decide, by decide, by decide⟩ ⟨by dsimp only; omega, by dsimp only; omega⟩) w 0 0 rfl rfl rfl hl.1 rfl (by decide) dX2_quickSort_246 ⟨by omega, by omega⟩ (fun u H locs hu w => ?_)
                  have w : xW D [(d, .long)] (LA h d s.heap.size N x) s [(h, La d N u)] H locs := w
                  refine lv_goto (tgt := 137) hx hb dX2_quickSort_249 (by decide) ?_
                  have hbo := hq.both (by omega) hyb2 (hcm.lt h200)
                  exact ih a (b + 1) (c1 - 1) d1 u _ _ _ _ H locs ls (by omega) (by omega) (by omega) (by omega) (by omega) (by rw [hu]; exact hbo.2) (by rw [hu]; exact hP.trans (Pm.swp y (by omega) (by omega) (by omega) (by omega))) w (lv_sub hl [3, 4, 5, 6, 7, 1, 0, 8] rfl)
                · skip
                  exfalso; omega
              · skip
                refine lv_iload hx hb dX2_quickSort_203 (lv_at hl 0 rfl) ?_
                refine xi_if_ne hx hb dX2_quickSort_205 (tgt := 219) (by decide) (by unfold iR; omega) (fun h205 => ?_) (fun h205 => ?_)
                · skip
                  refine lv_iinc (v := iI (zc - 1)) (lv' := [(11, .int (iI (zc - 1))), (13, .int (iI (zcm))), (0, .ref h), (1, .int (iI (zf))), (2, .int (iI (zt))), (7, .long (v)), (9, .int (iI (za))), (10, .int (iI (zb))), (12, .int (iI (zd)))]) hx hb dX2_quickSort_219 hl (k := 7) rfl (xi_inc (by omega)) (by decide) rfl (fun ls hl => ?_)
                  refine lv_goto (tgt := 181) hx hb dX2_quickSort_222 (by decide) ?_
                  exact ih2 (c1 - 1) d1 y _ _ H locs ls (by omega) (by omega) (Or.inr hyb2) (by omega) (by omega) (hq.gt (by omega) (hcm.gt (by omega))) hP w (lv_sub hl [2, 3, 4, 5, 6, 7, 0, 8] rfl)
                · skip
                  refine lv_aload_n hx hb dX2_quickSort_208 rfl (lv_at hl 1 rfl) ?_
                  refine lv_iload hx hb dX2_quickSort_209 (lv_at hl 7 rfl) ?_
                  refine lv_iload hx hb dX2_quickSort_211 (lv_at hl 8 rfl) ?_
                  refine lv_iinc (v := iI (zd - 1)) (lv' := [(12, .int (iI (zd - 1))), (13, .int (iI (zcm))), (0, .ref h), (1, .int (iI (zf))), (2, .int (iI (zt))), (7, .long (v)), (9, .int (iI (za))), (10, .int (iI (zb))), (11, .int (iI (zc)))]) hx hb dX2_quickSort_213 hl (k := 8) rfl (xi_inc (by omega)) (by decide) rfl (fun ls hl => ?_)
                  refine xa_callv (M_swap (rm := {}) (i := c1 - 1) (j := d1 - 1) (by omega) (by omega) (by omega) (by omega) hN) S (va_cwS 3 hts (lw_S q68 q69 q9 q70) rfl rfl rfl ⟨by decide, by decide, by decide⟩ ⟨by dsimp only; omega, by dsimp only; omega⟩) w 0 0 rfl rfl rfl hl.1 rfl (by decide) dX2_quickSort_216 ⟨by omega, by omega⟩ (fun u H locs hu w => ?_)
                  have w : xW D [(d, .long)] (LA h d s.heap.size N x) s [(h, La d N u)] H locs := w
                  refine lv_iinc (v := iI (zc - 1)) (lv' := [(11, .int (iI (zc - 1))), (12, .int (iI (zd - 1))), (13, .int (iI (zcm))), (0, .ref h), (1, .int (iI (zf))), (2, .int (iI (zt))), (7, .long (v)), (9, .int (iI (za))), (10, .int (iI (zb)))]) hx hb dX2_quickSort_219 hl (k := 8) rfl (xi_inc (by omega)) (by decide) rfl (fun ls hl => ?_)
                  refine lv_goto (tgt := 181) hx hb dX2_quickSort_222 (by decide) ?_
                  have hyc := hcm.eq h205
                  have hne : b ≠ c1 - 1 := fun q => by rw [← q] at hyc; rw [hyc] at hyb2; exact Int64.lt_irrefl hyb2
                  exact ih2 (c1 - 1) (d1 - 1) u _ _ H locs ls (by omega) (by omega) (Or.inr (by rw [hu, swp_o y hne (by omega)]; exact hyb2)) (by omega) (by omega) (by rw [hu]; exact hq.eqr (by omega) hyc) (by rw [hu]; exact hP.trans (Pm.swp y (by omega) (by omega) (by omega) (by omega))) w (lv_sub hl [3, 4, 5, 6, 7, 8, 0, 1] rfl)
        refine lv_iload hx hb dX2_quickSort_137 (lv_at hl 5 rfl) ?_
        refine lv_iload hx hb dX2_quickSort_139 (lv_at hl 6 rfl) ?_
        refine xi_icmp_gt hx hb dX2_quickSort_141 (tgt := 181) (by decide) (by unfold iR; omega) (by unfold iR; omega) (fun h141 => ?_) (fun h141 => ?_)
        · skip
          exact loop2 (r + 1) c0 d0 y0 _ _ H locs ls (by omega) (by omega) (Or.inl (by omega)) (by omega) (by omega) hq0 hP0 w (lv_sub hl [0, 1, 2, 3, 4, 5, 6, 7] rfl)
        · skip
          refine lv_aload_n hx hb dX2_quickSort_144 rfl (lv_at hl 0 rfl) ?_
          refine lv_iload hx hb dX2_quickSort_145 (lv_at hl 5 rfl) ?_
          refine xa_lald hx hb w 0 0 rfl rfl b (by omega) (by omega) hN dX2_quickSort_147 ?_
          refine lv_lload hx hb dX2_quickSort_148 (lv_at hl 3 rfl) ?_
          refine xs_calli (M_compare (rm := {})) S (va_cwS 2 hts (lw_S q65 q66 q10 q67) rfl rfl rfl ⟨by decide, by decide, by decide⟩ ⟨by dsimp only; omega, by dsimp only; omega⟩) rfl rfl hl.1 rfl (by decide) dX2_quickSort_150 ⟨by omega, by omega⟩ (fun rzcm hrzcm => ?_)
          obtain ⟨zcm, rfl, hcm⟩ := hrzcm
          have hcmR : -1 ≤ zcm ∧ zcm ≤ 1 := by rcases hcm with ⟨_, h⟩ | ⟨_, h⟩ | ⟨_, h⟩ <;> omega
          refine lv_dup hx hb dX2_quickSort_153 rfl ?_
          refine lv_istore (lv' := [(13, .int (iI (zcm))), (0, .ref h), (1, .int (iI (zf))), (2, .int (iI (zt))), (7, .long (v)), (9, .int (iI (za))), (10, .int (iI (zb))), (11, .int (iI (zc0))), (12, .int (iI (zd0)))]) hx hb dX2_quickSort_154 hl (by decide) rfl (fun ls hl => ?_)
          refine xi_if_gt hx hb dX2_quickSort_156 (tgt := 181) (by decide) (by unfold iR; omega) (fun h156 => ?_) (fun h156 => ?_)
          · skip
            exact loop2 (r + 1) c0 d0 y0 _ _ H locs ls (by omega) (by omega) (Or.inr (hcm.gt h156)) (by omega) (by omega) hq0 hP0 w (lv_sub hl [1, 2, 3, 4, 5, 6, 7, 8] rfl)
          · skip
            refine lv_iload hx hb dX2_quickSort_159 (lv_at hl 0 rfl) ?_
            refine xi_if_ne hx hb dX2_quickSort_161 (tgt := 175) (by decide) (by unfold iR; omega) (fun h161 => ?_) (fun h161 => ?_)
            · skip
              refine lv_iinc (v := iI (zb + 1)) (lv' := [(10, .int (iI (zb + 1))), (13, .int (iI (zcm))), (0, .ref h), (1, .int (iI (zf))), (2, .int (iI (zt))), (7, .long (v)), (9, .int (iI (za))), (11, .int (iI (zc0))), (12, .int (iI (zd0)))]) hx hb dX2_quickSort_175 hl (k := 6) rfl (xi_inc (by omega)) (by decide) rfl (fun ls hl => ?_)
              refine lv_goto (tgt := 137) hx hb dX2_quickSort_178 (by decide) ?_
              exact ih a (b + 1) c0 d0 y0 _ _ _ _ H locs ls (by omega) (by omega) (by omega) (by omega) (by omega) (hq0.lt (by omega) (hcm.lt (by omega))) hP0 w (lv_sub hl [2, 3, 4, 5, 6, 0, 7, 8] rfl)
            · skip
              refine lv_aload_n hx hb dX2_quickSort_164 rfl (lv_at hl 1 rfl) ?_
              refine lv_iload hx hb dX2_quickSort_165 (lv_at hl 5 rfl) ?_
              refine lv_iinc (v := iI (za + 1)) (lv' := [(9, .int (iI (za + 1))), (13, .int (iI (zcm))), (0, .ref h), (1, .int (iI (zf))), (2, .int (iI (zt))), (7, .long (v)), (10, .int (iI (zb))), (11, .int (iI (zc0))), (12, .int (iI (zd0)))]) hx hb dX2_quickSort_167 hl (k := 5) rfl (xi_inc (by omega)) (by decide) rfl (fun ls hl => ?_)
              refine lv_iload hx hb dX2_quickSort_170 (lv_at hl 6 rfl) ?_
              refine xa_callv (M_swap (rm := {}) (i := a) (j := b) (by omega) (by omega) (by omega) (by omega) hN) S (va_cwS 3 hts (lw_S q68 q69 q9 q70) rfl rfl rfl ⟨by decide, by decide, by decide⟩ ⟨by dsimp only; omega, by dsimp only; omega⟩) w 0 0 rfl rfl rfl hl.1 rfl (by decide) dX2_quickSort_172 ⟨by omega, by omega⟩ (fun u H locs hu w => ?_)
              have w : xW D [(d, .long)] (LA h d s.heap.size N x) s [(h, La d N u)] H locs := w
              refine lv_iinc (v := iI (zb + 1)) (lv' := [(10, .int (iI (zb + 1))), (9, .int (iI (za + 1))), (13, .int (iI (zcm))), (0, .ref h), (1, .int (iI (zf))), (2, .int (iI (zt))), (7, .long (v)), (11, .int (iI (zc0))), (12, .int (iI (zd0)))]) hx hb dX2_quickSort_175 hl (k := 6) rfl (xi_inc (by omega)) (by decide) rfl (fun ls hl => ?_)
              refine lv_goto (tgt := 137) hx hb dX2_quickSort_178 (by decide) ?_
              exact ih (a + 1) (b + 1) c0 d0 u _ _ _ _ H locs ls (by omega) (by omega) (by omega) (by omega) (by omega) (by rw [hu]; exact hq0.eql (by omega) (hcm.eq h161)) (by rw [hu]; exact hP0.trans (Pm.swp y0 (by omega) (by omega) (by omega) (by omega))) w (lv_sub hl [3, 4, 5, 6, 1, 0, 7, 8] rfl)
    have mid : ∀ (zl zm zn : Int) (l2 m2 n2 : Nat) (H : Heap) (locs : List Loc) (ls : Array Slot), zl = l2 → zm = m2 → zn = n2 → f ≤ l2 → l2 < m2 → m2 < n2 → n2 < t → xW D [(d, .long)] (LA h d s.heap.size N x) s [(h, La d N x)] H locs → lv_has ls 14 [(0, .ref h), (1, .int (iI zf)), (2, .int (iI zt)), (4, .int (iI zm)), (5, .int (iI zl)), (6, .int (iI zn))] → W p l e ({ frames := dd + 1 + 2, locals := 33 * (dd + 1) + 49 } : Room) s m args below meth c H locs 0 0 Q (F0 m 103 ls []) := by
      intro zl zm zn l2 m2 n2 H locs ls hzl hzm hzn h1 h2 h3 h4 w hl
      refine lv_aload_n hx hb dX2_quickSort_103 rfl (lv_at hl 0 rfl) ?_
      refine lv_iload hx hb dX2_quickSort_104 (lv_at hl 4 rfl) ?_
      refine lv_iload hx hb dX2_quickSort_106 (lv_at hl 3 rfl) ?_
      refine lv_iload hx hb dX2_quickSort_108 (lv_at hl 5 rfl) ?_
      refine xa_calli (M_med3 (a := l2) (b := m2) (c := n2) (by omega) (by omega) (by omega) (by omega) (by omega) (by omega) hN) S (va_cwS 4 hts (lw_S q62 q63 q9 q64) rfl rfl rfl ⟨by decide, by decide, by decide⟩ ⟨by dsimp only; omega, by dsimp only; omega⟩) w 0 0 rfl rfl rfl hl.1 rfl (by decide) dX2_quickSort_110 ⟨by omega, by omega⟩ (fun rk uk H locs hm w => ?_)
      obtain ⟨hu, k, rfl, hk⟩ := hm
      have w : xW D [(d, .long)] (LA h d s.heap.size N x) s [(h, La d N x)] H locs := by rw [hu] at w; exact w
      obtain ⟨hkr, hpv⟩ := hk.piv (f := f) (t := t) (by omega) (by omega) (by omega) (by omega) (by omega) (by omega)
      refine lv_istore (lv' := [(4, .int (iI ((k : Int)))), (0, .ref h), (1, .int (iI (zf))), (2, .int (iI (zt))), (5, .int (iI (zl))), (6, .int (iI (zn)))]) hx hb dX2_quickSort_113 hl (by decide) rfl (fun ls hl => ?_)
      refine lv_aload_n hx hb dX2_quickSort_115 rfl (lv_at hl 1 rfl) ?_
      refine lv_iload hx hb dX2_quickSort_116 (lv_at hl 0 rfl) ?_
      refine xa_lald hx hb w 0 0 rfl rfl k (by omega) (by omega) hN dX2_quickSort_118 ?_
      refine lv_lstore (lv' := [(7, .long (x k)), (4, .int (iI ((k : Int)))), (0, .ref h), (1, .int (iI (zf))), (2, .int (iI (zt))), (5, .int (iI (zl))), (6, .int (iI (zn)))]) hx hb dX2_quickSort_119 hl (by decide) rfl (fun ls hl => ?_)
      refine lv_iload_n hx hb dX2_quickSort_121 rfl (lv_at hl 3 rfl) ?_
      refine lv_istore (lv' := [(9, .int (iI (zf))), (7, .long (x k)), (4, .int (iI ((k : Int)))), (0, .ref h), (1, .int (iI (zf))), (2, .int (iI (zt))), (5, .int (iI (zl))), (6, .int (iI (zn)))]) hx hb dX2_quickSort_122 hl (by decide) rfl (fun ls hl => ?_)
      refine lv_iload hx hb dX2_quickSort_124 (lv_at hl 0 rfl) ?_
      refine lv_istore (lv' := [(10, .int (iI (zf))), (9, .int (iI (zf))), (7, .long (x k)), (4, .int (iI ((k : Int)))), (0, .ref h), (1, .int (iI (zf))), (2, .int (iI (zt))), (5, .int (iI (zl))), (6, .int (iI (zn)))]) hx hb dX2_quickSort_126 hl (by decide) rfl (fun ls hl => ?_)
      refine lv_iload_n hx hb dX2_quickSort_128 rfl (lv_at hl 6 rfl) ?_
      refine xi_iconst hx hb dX2_quickSort_129 ?_
      refine xi_isub hx hb dX2_quickSort_130 ?_
      refine lv_istore (lv' := [(11, .int (iI (zt - 1))), (10, .int (iI (zf))), (9, .int (iI (zf))), (7, .long (x k)), (4, .int (iI ((k : Int)))), (0, .ref h), (1, .int (iI (zf))), (2, .int (iI (zt))), (5, .int (iI (zl))), (6, .int (iI (zn)))]) hx hb dX2_quickSort_131 hl (by decide) rfl (fun ls hl => ?_)
      refine lv_iload hx hb dX2_quickSort_133 (lv_at hl 0 rfl) ?_
      refine lv_istore (lv' := [(12, .int (iI (zt - 1))), (11, .int (iI (zt - 1))), (10, .int (iI (zf))), (9, .int (iI (zf))), (7, .long (x k)), (4, .int (iI ((k : Int)))), (0, .ref h), (1, .int (iI (zf))), (2, .int (iI (zt))), (5, .int (iI (zl))), (6, .int (iI (zn)))]) hx hb dX2_quickSort_135 hl (by decide) rfl (fun ls hl => ?_)
      exact part (x k) hpv t f f t t x _ _ _ _ H locs ls (by omega) (by omega) (by omega) (by omega) (by omega) ⟨by omega, fun q q1 q2 => absurd q2 (by omega), fun q q1 q2 => absurd q2 (by omega), fun q q1 q2 => absurd q2 (by omega), fun q q1 q2 => absurd q2 (by omega)⟩ (Pm.refl f t x) w (lv_sub hl [6, 7, 8, 4, 3, 2, 1, 0] rfl)
    refine lv_iload_n hx hb dX2_quickSort_0 rfl (lv_at hl 2 rfl) ?_
    refine lv_iload_n hx hb dX2_quickSort_1 rfl (lv_at hl 1 rfl) ?_
    refine xi_isub hx hb dX2_quickSort_2 ?_
    refine lv_istore_n (lv' := [(3, .int (iI (zt - zf))), (0, .ref h), (1, .int (iI (zf))), (2, .int (iI (zt)))]) hx hb dX2_quickSort_3 rfl hl (by decide) rfl (fun ls hl => ?_)
    refine lv_iload_n hx hb dX2_quickSort_4 rfl (lv_at hl 0 rfl) ?_
    refine xi_bipush hx hb dX2_quickSort_5 (by decide) ?_
    refine xi_icmp_ge hx hb dX2_quickSort_7 (tgt := 17) (by decide) (by unfold iR; omega) (by unfold iR; omega) (fun h7 => ?_) (fun h7 => ?_)
    · skip
      refine lv_iload_n hx hb dX2_quickSort_17 rfl (lv_at hl 2 rfl) ?_
      refine lv_iload_n hx hb dX2_quickSort_18 rfl (lv_at hl 0 rfl) ?_
      refine xi_iconst hx hb dX2_quickSort_19 ?_
      refine xi_idiv hx hb (by omega) (by omega) dX2_quickSort_20 ?_
      refine xi_iadd hx hb dX2_quickSort_21 ?_
      refine lv_istore (lv' := [(4, .int (iI (zf + ((zt - zf) / 2)))), (3, .int (iI (zt - zf))), (0, .ref h), (1, .int (iI (zf))), (2, .int (iI (zt)))]) hx hb dX2_quickSort_22 hl (by decide) rfl (fun ls hl => ?_)
      refine lv_iload_n hx hb dX2_quickSort_24 rfl (lv_at hl 3 rfl) ?_
      refine lv_istore (lv' := [(5, .int (iI (zf))), (4, .int (iI (zf + ((zt - zf) / 2)))), (3, .int (iI (zt - zf))), (0, .ref h), (1, .int (iI (zf))), (2, .int (iI (zt)))]) hx hb dX2_quickSort_25 hl (by decide) rfl (fun ls hl => ?_)
      refine lv_iload_n hx hb dX2_quickSort_27 rfl (lv_at hl 5 rfl) ?_
      refine xi_iconst hx hb dX2_quickSort_28 ?_
      refine xi_isub hx hb dX2_quickSort_29 ?_
      refine lv_istore (lv' := [(6, .int (iI (zt - 1))), (5, .int (iI (zf))), (4, .int (iI (zf + ((zt - zf) / 2)))), (3, .int (iI (zt - zf))), (0, .ref h), (1, .int (iI (zf))), (2, .int (iI (zt)))]) hx hb dX2_quickSort_30 hl (by decide) rfl (fun ls hl => ?_)
      refine lv_iload_n hx hb dX2_quickSort_32 rfl (lv_at hl 3 rfl) ?_
      refine xi_sipush hx hb dX2_quickSort_33 (by decide) ?_
      refine xi_icmp_le hx hb dX2_quickSort_36 (tgt := 103) (by decide) (by unfold iR; omega) (by unfold iR; omega) (fun h36 => ?_) (fun h36 => ?_)
      · skip
        exact mid _ _ _ f (f + (t - f) / 2) (t - 1) _ _ ls (by omega) (by omega) (by omega) (by omega) (by omega) (by omega) (by omega) w (lv_sub hl [4, 5, 6, 2, 1, 0] rfl)
      · skip
        refine lv_iload_n hx hb dX2_quickSort_39 rfl (lv_at hl 3 rfl) ?_
        refine xi_bipush hx hb dX2_quickSort_40 (by decide) ?_
        refine xi_idiv hx hb (by omega) (by omega) dX2_quickSort_42 ?_
        refine lv_istore (lv' := [(7, .int (iI ((zt - zf) / 8))), (6, .int (iI (zt - 1))), (5, .int (iI (zf))), (4, .int (iI (zf + ((zt - zf) / 2)))), (3, .int (iI (zt - zf))), (0, .ref h), (1, .int (iI (zf))), (2, .int (iI (zt)))]) hx hb dX2_quickSort_43 hl (by decide) rfl (fun ls hl => ?_)
        refine lv_aload_n hx hb dX2_quickSort_45 rfl (lv_at hl 5 rfl) ?_
        refine lv_iload hx hb dX2_quickSort_46 (lv_at hl 2 rfl) ?_
        refine lv_iload hx hb dX2_quickSort_48 (lv_at hl 2 rfl) ?_
        refine lv_iload hx hb dX2_quickSort_50 (lv_at hl 0 rfl) ?_
        refine xi_iadd hx hb dX2_quickSort_52 ?_
        refine lv_iload hx hb dX2_quickSort_53 (lv_at hl 2 rfl) ?_
        refine xi_iconst hx hb dX2_quickSort_55 ?_
        refine lv_iload hx hb dX2_quickSort_56 (lv_at hl 0 rfl) ?_
        refine xi_imul hx hb dX2_quickSort_58 ?_
        refine xi_iadd hx hb dX2_quickSort_59 ?_
        refine xa_calli (M_med3 (a := f) (b := (f + (t - f) / 8)) (c := (f + 2 * ((t - f) / 8))) (by omega) (by omega) (by omega) (by omega) (by omega) (by omega) hN) S (va_cwS 4 hts (lw_S q62 q63 q9 q64) rfl rfl rfl ⟨by decide, by decide, by decide⟩ ⟨by dsimp only; omega, by dsimp only; omega⟩) w 0 0 rfl rfl rfl hl.1 rfl (by decide) dX2_quickSort_60 ⟨by omega, by omega⟩ (fun rk1 uk1 H locs hm w => ?_)
        obtain ⟨hu, k1, rfl, hk1⟩ := hm
        have w : xW D [(d, .long)] (LA h d s.heap.size N x) s [(h, La d N x)] H locs := by rw [hu] at w; exact w
        refine lv_istore (lv' := [(5, .int (iI ((k1 : Int)))), (7, .int (iI ((zt - zf) / 8))), (6, .int (iI (zt - 1))), (4, .int (iI (zf + ((zt - zf) / 2)))), (3, .int (iI (zt - zf))), (0, .ref h), (1, .int (iI (zf))), (2, .int (iI (zt)))]) hx hb dX2_quickSort_63 hl (by decide) rfl (fun ls hl => ?_)
        refine lv_aload_n hx hb dX2_quickSort_65 rfl (lv_at hl 5 rfl) ?_
        refine lv_iload hx hb dX2_quickSort_66 (lv_at hl 3 rfl) ?_
        refine lv_iload hx hb dX2_quickSort_68 (lv_at hl 1 rfl) ?_
        refine xi_isub hx hb dX2_quickSort_70 ?_
        refine lv_iload hx hb dX2_quickSort_71 (lv_at hl 3 rfl) ?_
        refine lv_iload hx hb dX2_quickSort_73 (lv_at hl 3 rfl) ?_
        refine lv_iload hx hb dX2_quickSort_75 (lv_at hl 1 rfl) ?_
        refine xi_iadd hx hb dX2_quickSort_77 ?_
        refine xa_calli (M_med3 (a := (f + (t - f) / 2 - (t - f) / 8)) (b := (f + (t - f) / 2)) (c := (f + (t - f) / 2 + (t - f) / 8)) (by omega) (by omega) (by omega) (by omega) (by omega) (by omega) hN) S (va_cwS 4 hts (lw_S q62 q63 q9 q64) rfl rfl rfl ⟨by decide, by decide, by decide⟩ ⟨by dsimp only; omega, by dsimp only; omega⟩) w 0 0 rfl rfl rfl hl.1 rfl (by decide) dX2_quickSort_78 ⟨by omega, by omega⟩ (fun rk2 uk2 H locs hm w => ?_)
        obtain ⟨hu, k2, rfl, hk2⟩ := hm
        have w : xW D [(d, .long)] (LA h d s.heap.size N x) s [(h, La d N x)] H locs := by rw [hu] at w; exact w
        refine lv_istore (lv' := [(4, .int (iI ((k2 : Int)))), (5, .int (iI ((k1 : Int)))), (7, .int (iI ((zt - zf) / 8))), (6, .int (iI (zt - 1))), (3, .int (iI (zt - zf))), (0, .ref h), (1, .int (iI (zf))), (2, .int (iI (zt)))]) hx hb dX2_quickSort_81 hl (by decide) rfl (fun ls hl => ?_)
        refine lv_aload_n hx hb dX2_quickSort_83 rfl (lv_at hl 5 rfl) ?_
        refine lv_iload hx hb dX2_quickSort_84 (lv_at hl 3 rfl) ?_
        refine xi_iconst hx hb dX2_quickSort_86 ?_
        refine lv_iload hx hb dX2_quickSort_87 (lv_at hl 2 rfl) ?_
        refine xi_imul hx hb dX2_quickSort_89 ?_
        refine xi_isub hx hb dX2_quickSort_90 ?_
        refine lv_iload hx hb dX2_quickSort_91 (lv_at hl 3 rfl) ?_
        refine lv_iload hx hb dX2_quickSort_93 (lv_at hl 2 rfl) ?_
        refine xi_isub hx hb dX2_quickSort_95 ?_
        refine lv_iload hx hb dX2_quickSort_96 (lv_at hl 3 rfl) ?_
        refine xa_calli (M_med3 (a := (t - 1 - 2 * ((t - f) / 8))) (b := (t - 1 - (t - f) / 8)) (c := (t - 1)) (by omega) (by omega) (by omega) (by omega) (by omega) (by omega) hN) S (va_cwS 4 hts (lw_S q62 q63 q9 q64) rfl rfl rfl ⟨by decide, by decide, by decide⟩ ⟨by dsimp only; omega, by dsimp only; omega⟩) w 0 0 rfl rfl rfl hl.1 rfl (by decide) dX2_quickSort_98 ⟨by omega, by omega⟩ (fun rk3 uk3 H locs hm w => ?_)
        obtain ⟨hu, k3, rfl, hk3⟩ := hm
        have w : xW D [(d, .long)] (LA h d s.heap.size N x) s [(h, La d N x)] H locs := by rw [hu] at w; exact w
        have g1 := hk1.in (f := f) (t := f + 2 * ((t - f) / 8)) (by omega) (by omega) (by omega)
        have g2 := hk2.in (f := f + (t - f) / 2 - (t - f) / 8) (t := f + (t - f) / 2 + (t - f) / 8) (by omega) (by omega) (by omega)
        have g3 := hk3.in (f := t - 1 - 2 * ((t - f) / 8)) (t := t - 1) (by omega) (by omega) (by omega)
        refine lv_istore (lv' := [(6, .int (iI ((k3 : Int)))), (4, .int (iI ((k2 : Int)))), (5, .int (iI ((k1 : Int)))), (7, .int (iI ((zt - zf) / 8))), (3, .int (iI (zt - zf))), (0, .ref h), (1, .int (iI (zf))), (2, .int (iI (zt)))]) hx hb dX2_quickSort_101 hl (by decide) rfl (fun ls hl => ?_)
        exact mid _ _ _ k1 k2 k3 _ _ ls (by omega) (by omega) (by omega) (by omega) (by omega) (by omega) (by omega) w (lv_sub hl [5, 6, 7, 1, 2, 0] rfl)
    · skip
      refine lv_aload_n hx hb dX2_quickSort_10 rfl (lv_at hl 1 rfl) ?_
      refine lv_iload_n hx hb dX2_quickSort_11 rfl (lv_at hl 2 rfl) ?_
      refine lv_iload_n hx hb dX2_quickSort_12 rfl (lv_at hl 3 rfl) ?_
      refine xa_callv (M_selection (rm := {}) hzf hzt hft htN hN) S (va_cwS 3 hts (lw_S q59 q60 q9 q61) rfl rfl rfl ⟨by decide, by decide, by decide⟩ ⟨by dsimp only; omega, by dsimp only; omega⟩) w 0 0 rfl rfl rfl hl.1 rfl (by decide) dX2_quickSort_13 ⟨by omega, by omega⟩ (fun y H locs hy w => ?_)
      have w : xW D [(d, .long)] (LA h d s.heap.size N x) s [(h, La d N y)] H locs := w
      exact K _ _ _ _ ls _ _ 0 dX2_quickSort_16 hy w rfl
end
section
/-! contracts over two cells; int arrays with natural contents; new arrays, copies, fields -/
set_option maxRecDepth 100000
/-- an array of ints with natural contents -/
abbrev Ln (d : ClassId) (N : Nat) (g : Nat → Nat) : va_E := Li d N (fun k => iI (g k : Int))
def updN (g : Nat → Nat) (k v : Nat) : Nat → Nat := fun j => if j = k then v else g j
theorem updN_s {g : Nat → Nat} {k v : Nat} : updN g k v k = v := if_pos rfl
theorem updN_n {g : Nat → Nat} {k j v : Nat} (h : j ≠ k) : updN g k v j = g j := if_neg h
theorem updN_iI (g : Nat → Nat) (k v : Nat) : upd (fun j => iI (g j : Int)) k (iI (v : Int)) = fun j => iI (updN g k v j : Int) := by
  funext j
  by_cases h : j = k
  · simp [upd, updN, h]
  · simp [upd, updN, h]
abbrev PW (a0 : Nat) (e0 : va_E) (a1 : Nat) (e1 : va_E) : va_W := [(a0, e0), (a1, e1)]
/-- a contract's start for a method that works on two cells -/
abbrev PPc (D : va_G) (d : ClassId) (a0 : Nat) (e0 : va_E) (a1 : Nat) (e1 : va_E) (sz : Nat) (As : List Value) : Array Value → State → Prop := va_Pc As (fun U => U.heap.size = sz ∧ va_P D vwCl (PW a0 e0 a1 e1) U.heap ∧ va_K D vwCl [(d, .long)] U ∧ va_D (fun _ => True) (PW a0 e0 a1 e1) ∧ xNw U)
abbrev PB (D : va_G) (a0 a1 : Nat) (u : va_E × va_E) (t : State) : Prop := va_P D vwCl (PW a0 u.1 a1 u.2) t.heap
abbrev PA (a0 : Nat) (e0 : va_E) (a1 : Nat) (e1 : va_E) (sz : Nat) : Nat → Prop := va_A (PW a0 e0 a1 e1) sz
theorem PPc.blind {D : va_G} {d : ClassId} {a0 : Nat} {e0 : va_E} {a1 : Nat} {e1 : va_E} {sz : Nat} {As : List Value} : FrameBlind (PPc D d a0 e0 a1 e1 sz As) := fun a U g mk q => by
  obtain ⟨q0, q1, qP, qK, qD, qN⟩ := q
  exact ⟨q0, q1, qP, va_K.moved (u := U) (U := U.calling g mk a) (Vm.Alike.refl U.vm) qK, qD, va_Nw.same rfl rfl qN⟩
section XT
variable {p : Program} {l : Launch} {e : Env} {R : Room} {s : State} {m : MethodId} {args : Array Value} {below : List Frame} {meth : Method} {c : Code} {H : Heap} {locs : List Loc} {cells slots : Nat} {Q : State → Prop}
variable {cc : ByteArray} {pc : Nat} {ls : Array Slot} {rest : List Value}
variable {D : va_G} {tys : List (ClassId × FieldType)} {A : Nat → Prop} {ws : va_W} {a : Nat}

theorem xn_iald (hexec : p.tables.exec = Jvm.exec) (hb : c.code = cc) (w : xW D tys A s ws H locs) (q0 t0 : Nat) {d : ClassId} {N : Nat} {g : Nat → Nat} (ha : ws[q0]? = some (a, Ln d N g)) (ht : tys[t0]? = some (d, .int)) {z : Int} (k : Nat) (hz : z = (k : Int)) (hk : k < N) (hN : N < 2147483648) (hdg : decode cc pc = .ok (.iaload, 1))
    (kk : W p l e R s m args below meth c H locs cells slots Q (F0 m (pc + 1) ls (.int (iI (g k : Int)) :: rest))) : W p l e R s m args below meth c H locs cells slots Q (F0 m pc ls (.int (iI z) :: .ref a :: rest)) :=
  xa_iald hexec hb w q0 t0 ha ht k hz hk hN hdg kk
theorem xn_iast (hexec : p.tables.exec = Jvm.exec) (hb : c.code = cc) (w : xW D tys A s ws H locs) (q0 t0 : Nat) {d : ClassId} {N : Nat} {g : Nat → Nat} (ha : ws[q0]? = some (a, Ln d N g)) (ht : tys[t0]? = some (d, .int)) {z zv : Int} (k : Nat) (hz : z = (k : Int)) (v : Nat) (hv : zv = (v : Int)) (hk : k < N) (hN : N < 2147483648) (hdg : decode cc pc = .ok (.iastore, 1))
    (kk : ∀ (H1 : Heap) (locs1 : List Loc), xW D tys A s (ws.set q0 (a, Ln d N (updN g k v))) H1 locs1 → W p l e R s m args below meth c H1 locs1 cells slots Q (F0 m (pc + 1) ls rest)) : W p l e R s m args below meth c H locs cells slots Q (F0 m pc ls (.int (iI zv) :: .int (iI z) :: .ref a :: rest)) := by
  subst hv
  refine xa_iast hexec hb w q0 t0 ha ht k hz hk hN hdg ?_
  rw [updN_iI]
  exact kk
/-- arraylength of an array of longs -/
theorem xa_alen (hexec : p.tables.exec = Jvm.exec) (hb : c.code = cc) (w : xW D tys A s ws H locs) (q0 t0 : Nat) {d : ClassId} {N : Nat} {x : Nat → Int64} (ha : ws[q0]? = some (a, La d N x)) (ht : tys[t0]? = some (d, .long)) (hdg : decode cc pc = .ok (.arraylength, 1))
    (kk : W p l e R s m args below meth c H locs cells slots Q (F0 m (pc + 1) ls (.int (iI (N : Int)) :: rest))) : W p l e R s m args below meth c H locs cells slots Q (F0 m pc ls (.ref a :: rest)) :=
  va_alen (v := iI (N : Int)) hexec hb w.1 w.2.1 q0 t0 ha ht (iI_nI N) hdg kk
theorem iI_nn {n : Nat} (h : n < 2147483648) : ¬ iI (n : Int) < 0 := fun q => by
  have := (iI_lt (x := (n : Int)) (y := 0) (by unfold iR; omega) iR_0).mp q
  omega
/-- a new array of ints -/
theorem xa_newi (hexec : p.tables.exec = Jvm.exec) (hb : c.code = cc) (harr : (Cond.arrayClass .int).before args s = true) (w : xW D tys A s ws H locs) {z : Int} (n : Nat) (hz : z = (n : Int)) (hn : n * 4 ≤ 536870912) (hcells : cells + 1 ≤ R.cells) (hslots : slots + n ≤ R.slots) (hdg : decode cc pc = .ok (.newarray .int, 2))
    (kk : ∀ (q : Nat) (cA : ClassId) (H1 : Heap), xW D (tys ++ [(cA, .int)]) A s (ws ++ [(q, Ln cA n (fun _ => 0))]) H1 locs → W p l e R s m args below meth c H1 locs (cells + 1) (slots + n) Q (F0 m (pc + 2) ls (.ref q :: rest))) : W p l e R s m args below meth c H locs cells slots Q (F0 m pc ls (.int (iI z) :: rest)) := by
  subst hz
  exact va_newa (atype := .int) (a0 := (n, .inl (fun _ => iI ((0 : Nat) : Int)))) hexec hb harr (ty := .int) rfl w.1 w.2.1 w.2.2.1 w.2.2.2.1 w.2.2.2.2.1 (fun _ => rfl) (iI_nn (by omega)) (iI_clamp n (by omega)) hn hcells hslots hdg
    (fun q cA H1 h1 h2 h3 h4 => kk q cA H1 ⟨h1, h2, h3, h4, w.2.2.2.2⟩)
/-- a new array of longs: its class is the one known -/
theorem xa_newl (hexec : p.tables.exec = Jvm.exec) (hb : c.code = cc) (harr : (Cond.arrayClass .long).before args s = true) (w : xW D tys A s ws H locs) {d : ClassId} (t0 : Nat) (ht : tys[t0]? = some (d, .long)) {z : Int} (n : Nat) (hz : z = (n : Int)) (hn : n * 8 ≤ 536870912) (hcells : cells + 1 ≤ R.cells) (hslots : slots + n ≤ R.slots) (hdg : decode cc pc = .ok (.newarray .long, 2))
    (kk : ∀ (q : Nat) (H1 : Heap), xW D tys A s (ws ++ [(q, La d n (fun _ => 0))]) H1 locs → W p l e R s m args below meth c H1 locs (cells + 1) (slots + n) Q (F0 m (pc + 2) ls (.ref q :: rest))) : W p l e R s m args below meth c H locs cells slots Q (F0 m pc ls (.int (iI z) :: rest)) := by
  subst hz
  refine va_newa (atype := .long) (a0 := (n, .inr (.inl (fun _ => 0)))) hexec hb harr (ty := .long) rfl w.1 w.2.1 w.2.2.1 w.2.2.2.1 w.2.2.2.2.1 (fun _ => rfl) (iI_nn (by omega)) (iI_clamp n (by omega)) hn hcells hslots hdg
    (fun q cA H1 h1 h2 h3 h4 => ?_)
  have e1 : s.vm.findClass ("[" ++ (FieldType.long).toString) = some cA := (h1.2 tys.length (cA, .long) (by simp)).2
  have e2 : s.vm.findClass ("[" ++ (FieldType.long).toString) = some d := (w.1.2 t0 _ ht).2
  have e3 : cA = d := Option.some.inj (e1.symm.trans e2)
  subst e3
  exact kk q H1 ⟨w.1, h2, h3, h4, w.2.2.2.2⟩
/-- System.arraycopy between arrays of longs -/
theorem xa_copyl (hexec : p.tables.exec = Jvm.exec) (hb : c.code = cc) (hml : c.maxLocals = ls.size) {own : String} {index : Nat} (hown : s.vm.findClass own = some m.cls) (hts : ∀ w ∈ lw_all, w.before args s = true) (hlink : (Cond.methodLink own index arraycopyName) ∈ lw_all) (w : xW D tys A s ws H locs) (q0 q1 t0 t1 : Nat) {a0 : Nat} {d0 d1 : ClassId} {N0 N1 : Nat} {x y : Nat → Int64} (ha0 : ws[q0]? = some (a0, La d0 N0 x)) (ha1 : ws[q1]? = some (a, La d1 N1 y)) (ht0 : tys[t0]? = some (d0, .long)) (ht1 : tys[t1]? = some (d1, .long)) {z0 z1 zn : Int} (k0 k1 n : Nat) (hz0 : z0 = (k0 : Int)) (hz1 : z1 = (k1 : Int)) (hzn : zn = (n : Int)) (h0 : k0 + n ≤ N0) (h1 : k1 + n ≤ N1) (hN0 : N0 < 2147483648) (hN1 : N1 < 2147483648)
    (hframes : 1 ≤ R.frames) (hlocals : (rest.map fun v => v.category).sum + (nativeFrameWords "java/lang/System" "arraycopy" 5 + 11) ≤ R.locals) (hdg : decode cc pc = .ok (.invokestatic index, 3))
    (kk : ∀ (H1 : Heap) (locs1 : List Loc), xW D tys A s (ws.set q1 (a, La d1 N1 (va_cpy x y k0 k1 n))) H1 locs1 → W p l e R s m args below meth c H1 locs1 cells slots Q (F0 m (pc + 3) ls rest)) : W p l e R s m args below meth c H locs cells slots Q (F0 m pc ls (.int (iI zn) :: .int (iI z1) :: .ref a :: .int (iI z0) :: .ref a0 :: rest)) := by
  subst hz0; subst hz1; subst hzn
  have c0 := iI_clamp k0 (by omega)
  have c1 := iI_clamp k1 (by omega)
  have c2 := iI_clamp n (by omega)
  refine va_copyl hexec hb hml hown (hts _ hlink) (hts _ q105) (hts _ q104) (hts _ q13) w.1 w.2.1 w.2.2.1 w.2.2.2.1 q0 q1 t0 t1 ha0 ha1 ht0 ht1 rfl (iI_nn (by omega)) (iI_nn (by omega)) (iI_nn (by omega)) (by rw [c0, c2]; exact h0) (by rw [c1, c2]; exact h1) (fun i _ => rfl) hframes hlocals hdg ?_
  rw [c0, c1, c2]
  exact fun H1 locs1 h1 h2 h3 => kk H1 locs1 ⟨w.1, h1, h2, h3, w.2.2.2.2⟩
/-- behind a call that changed two cells of the world, and made others -/
theorem xW.call2 {a0 a1 : Nat} {e0 e1 f0 f1 : va_E} {H1 : Heap} {locs1 : List Loc} {q0 q1 : Nat} (w : xW D tys A s ws H locs) (h0 : ws[q0]? = some (a0, e0)) (h1 : ws[q1]? = some (a1, e1)) (hq : q0 ≠ q1) (hP : va_P D vwCl (PW a0 f0 a1 f1) H1) (hk : ∀ q : Nat, q < H.size → ¬ va_A (PW a0 e0 a1 e1) H.size q → H1[q]? = H[q]?) (hS : va_S A s.heap H1 locs1) : xW D tys A s ((ws.set q0 (a0, f0)).set q1 (a1, f1)) H1 locs1 := by
  have h1' : (ws.set q0 (a0, f0))[q1]? = some (a1, e1) := by rw [List.getElem?_set_ne hq]; exact h1
  refine ⟨w.1, ?_, (w.2.2.1.set h0).set h1', hS, w.2.2.2.2⟩
  have hl0 := (List.getElem?_eq_some_iff.mp h0).1
  have hl1 := (List.getElem?_eq_some_iff.mp h1').1
  intro k q hkq
  by_cases hk1 : k = q1
  · subst hk1
    rw [List.getElem?_set_self hl1] at hkq
    cases hkq
    exact hP 1 _ rfl
  · rw [List.getElem?_set_ne (Ne.symm hk1)] at hkq
    by_cases hk0 : k = q0
    · subst hk0
      rw [List.getElem?_set_self hl0] at hkq
      cases hkq
      exact hP 0 _ rfl
    · rw [List.getElem?_set_ne (Ne.symm hk0)] at hkq
      refine (w.2.1 k q hkq).kept (hk q.1 (w.2.1 k q hkq).lt (fun z => ?_))
      rcases z with ⟨j, e9, hj⟩ | hj
      · match j, hj with
        | 0, hj =>
          have : a0 = q.1 := congrArg Prod.fst (Option.some.inj hj)
          exact hk0 (w.2.2.1.1 k q0 q (a0, e0) hkq h0 this.symm)
        | 1, hj =>
          have : a1 = q.1 := congrArg Prod.fst (Option.some.inj hj)
          exact hk1 (w.2.2.1.1 k q1 q (a1, e1) hkq h1 this.symm)
        | j + 2, hj => simp [PW] at hj
      · exact absurd (w.2.1 k q hkq).lt (by omega)
theorem xW.P2 {a0 a1 : Nat} {e0 e1 : va_E} {q0 q1 : Nat} (w : xW D tys A s ws H locs) (h0 : ws[q0]? = some (a0, e0)) (h1 : ws[q1]? = some (a1, e1)) : va_P D vwCl (PW a0 e0 a1 e1) H := by
  intro k q hkq
  match k, hkq with
  | 0, hkq => cases hkq; exact w.2.1 q0 _ h0
  | 1, hkq => cases hkq; exact w.2.1 q1 _ h1
  | k + 2, hkq => simp [PW] at hkq
theorem xW.D2 {a0 a1 : Nat} {e0 e1 : va_E} {q0 q1 : Nat} (w : xW D tys A s ws H locs) (h0 : ws[q0]? = some (a0, e0)) (h1 : ws[q1]? = some (a1, e1)) (hq : q0 ≠ q1) : va_D A (PW a0 e0 a1 e1) :=
  w.2.2.1.sub [q0, q1] (by simp [va_nd, hq]) (by simp [h0, h1])
theorem xW.freeA2 {a0 a1 : Nat} {e0 e1 : va_E} {q0 q1 : Nat} (w : xW D tys A s ws H locs) (h0 : ws[q0]? = some (a0, e0)) (h1 : ws[q1]? = some (a1, e1)) : ∀ q, va_A (PW a0 e0 a1 e1) H.size q → A q := va_free w.2.2.1 w.2.2.2.1 w.2.2.2.2.1 [q0, q1] (by simp [h0, h1])
theorem PPc.pre {a0 a1 : Nat} {e0 e1 : va_E} {d : ClassId} {As : List Value} (w : xW D tys A s ws H locs) (q0 q1 t0 : Nat) (h0 : ws[q0]? = some (a0, e0)) (h1 : ws[q1]? = some (a1, e1)) (hq : q0 ≠ q1) (ht : tys[t0]? = some (d, .long)) : PreS s H (PPc D d a0 e0 a1 e1 H.size As) As :=
  ⟨PPc.blind, fun U hU hW => ⟨rfl, by rw [hU], by rw [hU]; exact w.P2 h0 h1, va_K.moved hW.alike (w.1.sub [t0] (by simp [ht])), (w.D2 h0 h1 hq).weaken (fun _ _ _ _ => trivial), xNw.warm hW w.2.2.2.2.2⟩⟩
variable {y : MethodName} {bytes : ByteArray} {maxL nL mc ms n index : Nat} {ret : Option FieldType} {wy : List Cond} {rm : Room} {own : String} {As st0 : List Value} {d : ClassId} {a0 a1 : Nat} {e0 e1 : va_E}
/-- a static call on two cells of the world -/
theorem xp_callv {post : va_E × va_E → Prop} (hM : Met l y wy rm (PPc D d a0 e0 a1 e1 H.size As) (va_Qv post (PB D a0 a1) (PA a0 e0 a1 e1 H.size)) mc ms (PA a0 e0 a1 e1 H.size)) (S : CallFix p m c cc nL s args lw_all own) (cw : CallB R s args own index y bytes maxL ret wy rm mc ms n ∧ (Cond.static y).before args s = true)
    (w : xW D tys A s ws H locs) (q0 q1 t0 : Nat) (h0 : ws[q0]? = some (a0, e0)) (h1 : ws[q1]? = some (a1, e1)) (hq : q0 ≠ q1) (ht : tys[t0]? = some (d, .long)) (hn : As.length = n) (hsize : ls.size = nL) (hst : st0 = As.reverse ++ rest) (hW : (rest.map fun v => v.category).sum ≤ 8) (hdg : decode cc pc = .ok (.invokestatic index, 3)) (hf : cells + mc ≤ R.cells ∧ slots + ms ≤ R.slots)
    (kk : ∀ (u : va_E × va_E) (H1 : Heap) (locs1 : List Loc), post u → xW D tys A s ((ws.set q0 (a0, u.1)).set q1 (a1, u.2)) H1 locs1 → W p l e R s m args below meth c H1 locs1 (cells + mc) (slots + ms) Q (F0 m (pc + 3) ls rest)) : W p l e R s m args below meth c H locs cells slots Q (F0 m pc ls st0) := by
  subst hst
  refine va_callv (va_runS S hM cw (PPc.pre w q0 q1 t0 h0 h1 hq ht) rfl hn hsize rfl (lv_room hW) hdg hf) w.2.2.2.1 (fun q _ h => w.freeA2 h0 h1 q h) (w.freeA2 h0 h1) (fun u t H1 locs1 ht1 hvm hp hB hz hk hS => ?_)
  exact kk u H1 locs1 hp (w.call2 h0 h1 hq (by rw [← ht1]; exact hB) hk hS)
theorem xv_callv {C : String} {ci : Nat} {fs : List Value} {T : u_T} {NN : Nat} {post : va_E × va_E → Prop} (hM : Met l y wy rm (PPc D d a0 (.inr (ci, fs)) a1 e1 H.size (.ref a0 :: As)) (va_Qv post (PB D a0 a1) (PA a0 (.inr (ci, fs)) a1 e1 H.size)) mc ms (PA a0 (.inr (ci, fs)) a1 e1 H.size)) (S : CallFix p m c cc nL s args lw_all own) (cw : CallW R s args own C index y bytes maxL ret wy rm mc ms n)
    (w : xW D tys A s ws H locs) (q0 q1 t0 : Nat) (h0 : ws[q0]? = some (a0, .inr (ci, fs))) (h1 : ws[q1]? = some (a1, e1)) (hq : q0 ≠ q1) (ht : tys[t0]? = some (d, .long)) (hcl : vwCl[ci]? = some (C, T, NN)) (hn : As.length = n) (hsize : ls.size = nL) (hst : st0 = As.reverse ++ .ref a0 :: rest) (hW : (rest.map fun v => v.category).sum ≤ 8) (hdg : decode cc pc = .ok (.invokevirtual index, 3)) (hf : cells + mc ≤ R.cells ∧ slots + ms ≤ R.slots)
    (kk : ∀ (u : va_E × va_E) (H1 : Heap) (locs1 : List Loc), post u → xW D tys A s ((ws.set q0 (a0, u.1)).set q1 (a1, u.2)) H1 locs1 → W p l e R s m args below meth c H1 locs1 (cells + mc) (slots + ms) Q (F0 m (pc + 3) ls rest)) : W p l e R s m args below meth c H locs cells slots Q (F0 m pc ls st0) := by
  subst hst
  have hpre : PreS s H (PPc D d a0 (.inr (ci, fs)) a1 e1 H.size (.ref a0 :: As)) (.ref a0 :: As) := PPc.pre w q0 q1 t0 h0 h1 hq ht
  refine va_callv (va_runV S hM cw ⟨hpre.1, va_recv w.1 w.2.1 hcl h0, hpre.2⟩ rfl hn hsize rfl (lv_room hW) hdg hf) w.2.2.2.1 (fun q _ h => w.freeA2 h0 h1 q h) (w.freeA2 h0 h1) (fun u t H1 locs1 ht1 hvm hp hB hz hk hS => ?_)
  exact kk u H1 locs1 hp (w.call2 h0 h1 hq (by rw [← ht1]; exact hB) hk hS)
theorem xv_calli {C : String} {ci : Nat} {fs : List Value} {T : u_T} {NN : Nat} {post : Int32 → va_E × va_E → Prop} (hM : Met l y wy rm (PPc D d a0 (.inr (ci, fs)) a1 e1 H.size (.ref a0 :: As)) (va_Qi post (PB D a0 a1) (PA a0 (.inr (ci, fs)) a1 e1 H.size)) mc ms (PA a0 (.inr (ci, fs)) a1 e1 H.size)) (S : CallFix p m c cc nL s args lw_all own) (cw : CallW R s args own C index y bytes maxL ret wy rm mc ms n)
    (w : xW D tys A s ws H locs) (q0 q1 t0 : Nat) (h0 : ws[q0]? = some (a0, .inr (ci, fs))) (h1 : ws[q1]? = some (a1, e1)) (hq : q0 ≠ q1) (ht : tys[t0]? = some (d, .long)) (hcl : vwCl[ci]? = some (C, T, NN)) (hn : As.length = n) (hsize : ls.size = nL) (hst : st0 = As.reverse ++ .ref a0 :: rest) (hW : (rest.map fun v => v.category).sum ≤ 8) (hdg : decode cc pc = .ok (.invokevirtual index, 3)) (hf : cells + mc ≤ R.cells ∧ slots + ms ≤ R.slots)
    (kk : ∀ (r : Int32) (u : va_E × va_E) (H1 : Heap) (locs1 : List Loc), post r u → xW D tys A s ((ws.set q0 (a0, u.1)).set q1 (a1, u.2)) H1 locs1 → W p l e R s m args below meth c H1 locs1 (cells + mc) (slots + ms) Q (F0 m (pc + 3) ls (.int r :: rest))) : W p l e R s m args below meth c H locs cells slots Q (F0 m pc ls st0) := by
  subst hst
  have hpre : PreS s H (PPc D d a0 (.inr (ci, fs)) a1 e1 H.size (.ref a0 :: As)) (.ref a0 :: As) := PPc.pre w q0 q1 t0 h0 h1 hq ht
  refine va_calli (va_runV S hM cw ⟨hpre.1, va_recv w.1 w.2.1 hcl h0, hpre.2⟩ rfl hn hsize rfl (lv_room hW) hdg hf) w.2.2.2.1 (fun q _ h => w.freeA2 h0 h1 q h) (w.freeA2 h0 h1) (fun r u t H1 locs1 ht1 hvm hp hB hz hk hS => ?_)
  exact kk r u H1 locs1 hp (w.call2 h0 h1 hq (by rw [← ht1]; exact hB) hk hS)
theorem xv_calll {C : String} {ci : Nat} {fs : List Value} {T : u_T} {NN : Nat} {post : Int64 → va_E × va_E → Prop} (hM : Met l y wy rm (PPc D d a0 (.inr (ci, fs)) a1 e1 H.size (.ref a0 :: As)) (va_Ql post (PB D a0 a1) (PA a0 (.inr (ci, fs)) a1 e1 H.size)) mc ms (PA a0 (.inr (ci, fs)) a1 e1 H.size)) (S : CallFix p m c cc nL s args lw_all own) (cw : CallW R s args own C index y bytes maxL ret wy rm mc ms n)
    (w : xW D tys A s ws H locs) (q0 q1 t0 : Nat) (h0 : ws[q0]? = some (a0, .inr (ci, fs))) (h1 : ws[q1]? = some (a1, e1)) (hq : q0 ≠ q1) (ht : tys[t0]? = some (d, .long)) (hcl : vwCl[ci]? = some (C, T, NN)) (hn : As.length = n) (hsize : ls.size = nL) (hst : st0 = As.reverse ++ .ref a0 :: rest) (hW : (rest.map fun v => v.category).sum ≤ 8) (hdg : decode cc pc = .ok (.invokevirtual index, 3)) (hf : cells + mc ≤ R.cells ∧ slots + ms ≤ R.slots)
    (kk : ∀ (r : Int64) (u : va_E × va_E) (H1 : Heap) (locs1 : List Loc), post r u → xW D tys A s ((ws.set q0 (a0, u.1)).set q1 (a1, u.2)) H1 locs1 → W p l e R s m args below meth c H1 locs1 (cells + mc) (slots + ms) Q (F0 m (pc + 3) ls (.long r :: rest))) : W p l e R s m args below meth c H locs cells slots Q (F0 m pc ls st0) := by
  subst hst
  have hpre : PreS s H (PPc D d a0 (.inr (ci, fs)) a1 e1 H.size (.ref a0 :: As)) (.ref a0 :: As) := PPc.pre w q0 q1 t0 h0 h1 hq ht
  refine va_calll (va_runV S hM cw ⟨hpre.1, va_recv w.1 w.2.1 hcl h0, hpre.2⟩ rfl hn hsize rfl (lv_room hW) hdg hf) w.2.2.2.1 (fun q _ h => w.freeA2 h0 h1 q h) (w.freeA2 h0 h1) (fun r u t H1 locs1 ht1 hvm hp hB hz hk hS => ?_)
  exact kk r u H1 locs1 hp (w.call2 h0 h1 hq (by rw [← ht1]; exact hB) hk hS)
/-- a field of the object at q0 -/
theorem xo_get (hexec : p.tables.exec = Jvm.exec) (hb : c.code = cc) {own C : String} {T : u_T} {NN ci index : Nat} (hts : ∀ w ∈ lw_all, w.before args s = true) (hin : ∀ w ∈ u_ws C T NN, w ∈ lw_all) (hown : s.vm.findClass own = some m.cls) (w : xW D tys A s ws H locs) (q0 : Nat) {fs : List Value} (he : ws[q0]? = some (a, .inr (ci, fs))) (hc : vwCl[ci]? = some (C, T, NN)) (k : Nat) (hk : k < NN) {ref : String} (hlink : (Cond.fieldLink own index ref (T k).2.1 (T k).2.2.1) ∈ lw_all) (href : (T k).1 = ref) {v : Value} (hv : fs[k]? = some v) (hdg : decode cc pc = .ok (.getfield index, 3))
    (kk : W p l e R s m args below meth c H locs cells slots Q (F0 m (pc + 3) ls (v :: rest))) : W p l e R s m args below meth c H locs cells slots Q (F0 m pc ls (.ref a :: rest)) :=
  va_get hexec hb hts hin hown w.1 w.2.1 q0 he hc k hk (hts _ hlink) (fun x h => by rw [href] at h; exact h) hv hdg kk
end XT
theorem xp_metv {l : Launch} {y : MethodName} {cc : ByteArray} {maxL : Nat} {rm : Room} {D : va_G} {d : ClassId} {a0 a1 sz : Nat} {e0 e1 : va_E} {As : List Value} {mc ms : Nat} {post : va_E × va_E → Prop} (hy : plainName y.cls = true) (hL : (lg_sl As).length ≤ maxL)
    (body : ∀ (p : Program) (e : Env) (s : State) (m : MethodId) (args : Array Value) (below : List Frame) (meth : Method) (c : Code) (Q : State → Prop) (ls : Array Slot), s.heap.size = sz → CallFix p m c cc maxL s args lw_all y.cls → xW D [(d, .long)] (PA a0 e0 a1 e1 s.heap.size) s [(a0, e0), (a1, e1)] s.heap [] → lv_has ls maxL (lv_args 0 As) →
      (∀ (rpc : Nat) (u : va_E × va_E) (H : Heap) (locs : List Loc) (ls' : Array Slot) (tys : List (ClassId × FieldType)) (ws : va_W) (q0 q1 : Nat), decode cc rpc = .ok (.return_, 1) → post u → xW D tys (PA a0 e0 a1 e1 s.heap.size) s ws H locs → ws[q0]? = some (a0, u.1) → ws[q1]? = some (a1, u.2) → W p l e rm s m args below meth c H locs mc ms Q (F0 m rpc ls' [])) →
      W p l e rm s m args below meth c s.heap [] 0 0 Q (F0 m 0 ls [])) :
    Met l y (ws_ y cc maxL none) rm (PPc D d a0 e0 a1 e1 sz As) (va_Qv post (PB D a0 a1) (PA a0 e0 a1 e1 sz)) mc ms (PA a0 e0 a1 e1 sz) := by
  refine Met.ofW (cc := cc) (maxL := maxL) (ret := none) hy rfl ?_
  intro p e s m args below meth c s₁ B hml hv
  obtain ⟨rfl, hsz, hP, hK, hD0, hNw⟩ := hv
  have hts := atoms_spec (ws := ws_ y cc maxL none) B.pre
  have hts : ∀ w ∈ lw_all, w.before _ s = true := fun w h => hts w (List.mem_cons_of_mem _ h)
  have hown : s.vm.findClass y.cls = some m.cls := findClass_of_methodNamed B.named
  have hlocks := B.notSynchronized
  subst hsz
  have w : xW D [(d, .long)] (PA a0 e0 a1 e1 s.heap.size) s [(a0, e0), (a1, e1)] s.heap [] := ⟨hK, hP, hD0.self, va_S.rf, fun q hq => Or.inr hq, hNw⟩
  have hl := lv_entry As (n := maxL) hL
  rw [lg_entry_eq]
  refine body p e s m _ below meth c _ _ rfl ⟨B.exec, B.bytes, hml, hown, hts⟩ w hl ?_
  intro rpc u H locs ls' tys ws q0 q1 hd hp w1 ha0 ha1
  have hP1 : va_P D vwCl (PW a0 u.1 a1 u.2) H := w1.P2 ha0 ha1
  exact W.vret B.exec B.bytes B.returns (fun t ht hW => ⟨⟨u, rfl, hp, by show va_P D vwCl (PW a0 u.1 a1 u.2) t.heap; rw [ht]; exact hP1⟩, w1.2.2.2.1.F ht⟩) w1.2.2.2.1.2.2 hd
theorem xp_meti {l : Launch} {y : MethodName} {cc : ByteArray} {maxL : Nat} {rm : Room} {D : va_G} {d : ClassId} {a0 a1 sz : Nat} {e0 e1 : va_E} {As : List Value} {mc ms : Nat} {post : Int32 → va_E × va_E → Prop} (hy : plainName y.cls = true) (hL : (lg_sl As).length ≤ maxL)
    (body : ∀ (p : Program) (e : Env) (s : State) (m : MethodId) (args : Array Value) (below : List Frame) (meth : Method) (c : Code) (Q : State → Prop) (ls : Array Slot), s.heap.size = sz → CallFix p m c cc maxL s args lw_all y.cls → xW D [(d, .long)] (PA a0 e0 a1 e1 s.heap.size) s [(a0, e0), (a1, e1)] s.heap [] → lv_has ls maxL (lv_args 0 As) →
      (∀ (rpc : Nat) (r : Int32) (u : va_E × va_E) (H : Heap) (locs : List Loc) (ls' : Array Slot) (tys : List (ClassId × FieldType)) (ws : va_W) (q0 q1 : Nat), decode cc rpc = .ok (.ireturn, 1) → post r u → xW D tys (PA a0 e0 a1 e1 s.heap.size) s ws H locs → ws[q0]? = some (a0, u.1) → ws[q1]? = some (a1, u.2) → W p l e rm s m args below meth c H locs mc ms Q (F0 m rpc ls' [.int r])) →
      W p l e rm s m args below meth c s.heap [] 0 0 Q (F0 m 0 ls [])) :
    Met l y (ws_ y cc maxL (some .int)) rm (PPc D d a0 e0 a1 e1 sz As) (va_Qi post (PB D a0 a1) (PA a0 e0 a1 e1 sz)) mc ms (PA a0 e0 a1 e1 sz) := by
  refine Met.ofW (cc := cc) (maxL := maxL) (ret := (some .int)) hy rfl ?_
  intro p e s m args below meth c s₁ B hml hv
  obtain ⟨rfl, hsz, hP, hK, hD0, hNw⟩ := hv
  have hts := atoms_spec (ws := ws_ y cc maxL (some .int)) B.pre
  have hts : ∀ w ∈ lw_all, w.before _ s = true := fun w h => hts w (List.mem_cons_of_mem _ h)
  have hown : s.vm.findClass y.cls = some m.cls := findClass_of_methodNamed B.named
  have hlocks := B.notSynchronized
  subst hsz
  have w : xW D [(d, .long)] (PA a0 e0 a1 e1 s.heap.size) s [(a0, e0), (a1, e1)] s.heap [] := ⟨hK, hP, hD0.self, va_S.rf, fun q hq => Or.inr hq, hNw⟩
  have hl := lv_entry As (n := maxL) hL
  rw [lg_entry_eq]
  refine body p e s m _ below meth c _ _ rfl ⟨B.exec, B.bytes, hml, hown, hts⟩ w hl ?_
  intro rpc r u H locs ls' tys ws q0 q1 hd hp w1 ha0 ha1
  have hP1 : va_P D vwCl (PW a0 u.1 a1 u.2) H := w1.P2 ha0 ha1
  exact W.iret B.exec B.bytes B.returns (fun t ht hW => ⟨⟨r, u, rfl, hp, by show va_P D vwCl (PW a0 u.1 a1 u.2) t.heap; rw [ht]; exact hP1⟩, w1.2.2.2.1.F ht⟩) w1.2.2.2.1.2.2 hd
theorem xp_metz {l : Launch} {y : MethodName} {cc : ByteArray} {maxL : Nat} {rm : Room} {D : va_G} {d : ClassId} {a0 a1 sz : Nat} {e0 e1 : va_E} {As : List Value} {mc ms : Nat} {post : Int32 → va_E × va_E → Prop} (hy : plainName y.cls = true) (hL : (lg_sl As).length ≤ maxL)
    (body : ∀ (p : Program) (e : Env) (s : State) (m : MethodId) (args : Array Value) (below : List Frame) (meth : Method) (c : Code) (Q : State → Prop) (ls : Array Slot), s.heap.size = sz → CallFix p m c cc maxL s args lw_all y.cls → xW D [(d, .long)] (PA a0 e0 a1 e1 s.heap.size) s [(a0, e0), (a1, e1)] s.heap [] → lv_has ls maxL (lv_args 0 As) →
      (∀ (rpc : Nat) (r : Int32) (u : va_E × va_E) (H : Heap) (locs : List Loc) (ls' : Array Slot) (tys : List (ClassId × FieldType)) (ws : va_W) (q0 q1 : Nat), decode cc rpc = .ok (.ireturn, 1) → narrow .boolean (.int r) = .int r → post r u → xW D tys (PA a0 e0 a1 e1 s.heap.size) s ws H locs → ws[q0]? = some (a0, u.1) → ws[q1]? = some (a1, u.2) → W p l e rm s m args below meth c H locs mc ms Q (F0 m rpc ls' [.int r])) →
      W p l e rm s m args below meth c s.heap [] 0 0 Q (F0 m 0 ls [])) :
    Met l y (ws_ y cc maxL (some .boolean)) rm (PPc D d a0 e0 a1 e1 sz As) (va_Qi post (PB D a0 a1) (PA a0 e0 a1 e1 sz)) mc ms (PA a0 e0 a1 e1 sz) := by
  refine Met.ofW (cc := cc) (maxL := maxL) (ret := (some .boolean)) hy rfl ?_
  intro p e s m args below meth c s₁ B hml hv
  obtain ⟨rfl, hsz, hP, hK, hD0, hNw⟩ := hv
  have hts := atoms_spec (ws := ws_ y cc maxL (some .boolean)) B.pre
  have hts : ∀ w ∈ lw_all, w.before _ s = true := fun w h => hts w (List.mem_cons_of_mem _ h)
  have hown : s.vm.findClass y.cls = some m.cls := findClass_of_methodNamed B.named
  have hlocks := B.notSynchronized
  subst hsz
  have w : xW D [(d, .long)] (PA a0 e0 a1 e1 s.heap.size) s [(a0, e0), (a1, e1)] s.heap [] := ⟨hK, hP, hD0.self, va_S.rf, fun q hq => Or.inr hq, hNw⟩
  have hl := lv_entry As (n := maxL) hL
  rw [lg_entry_eq]
  refine body p e s m _ below meth c _ _ rfl ⟨B.exec, B.bytes, hml, hown, hts⟩ w hl ?_
  intro rpc r u H locs ls' tys ws q0 q1 hd hnr hp w1 ha0 ha1
  have hP1 : va_P D vwCl (PW a0 u.1 a1 u.2) H := w1.P2 ha0 ha1
  exact W.zret B.exec B.bytes B.returns hnr (fun t ht hW => ⟨⟨r, u, rfl, hp, by show va_P D vwCl (PW a0 u.1 a1 u.2) t.heap; rw [ht]; exact hP1⟩, w1.2.2.2.1.F ht⟩) w1.2.2.2.1.2.2 hd
theorem xp_metl {l : Launch} {y : MethodName} {cc : ByteArray} {maxL : Nat} {rm : Room} {D : va_G} {d : ClassId} {a0 a1 sz : Nat} {e0 e1 : va_E} {As : List Value} {mc ms : Nat} {post : Int64 → va_E × va_E → Prop} (hy : plainName y.cls = true) (hL : (lg_sl As).length ≤ maxL)
    (body : ∀ (p : Program) (e : Env) (s : State) (m : MethodId) (args : Array Value) (below : List Frame) (meth : Method) (c : Code) (Q : State → Prop) (ls : Array Slot), s.heap.size = sz → CallFix p m c cc maxL s args lw_all y.cls → xW D [(d, .long)] (PA a0 e0 a1 e1 s.heap.size) s [(a0, e0), (a1, e1)] s.heap [] → lv_has ls maxL (lv_args 0 As) →
      (∀ (rpc : Nat) (r : Int64) (u : va_E × va_E) (H : Heap) (locs : List Loc) (ls' : Array Slot) (tys : List (ClassId × FieldType)) (ws : va_W) (q0 q1 : Nat), decode cc rpc = .ok (.lreturn, 1) → post r u → xW D tys (PA a0 e0 a1 e1 s.heap.size) s ws H locs → ws[q0]? = some (a0, u.1) → ws[q1]? = some (a1, u.2) → W p l e rm s m args below meth c H locs mc ms Q (F0 m rpc ls' [.long r])) →
      W p l e rm s m args below meth c s.heap [] 0 0 Q (F0 m 0 ls [])) :
    Met l y (ws_ y cc maxL (some .long)) rm (PPc D d a0 e0 a1 e1 sz As) (va_Ql post (PB D a0 a1) (PA a0 e0 a1 e1 sz)) mc ms (PA a0 e0 a1 e1 sz) := by
  refine Met.ofW (cc := cc) (maxL := maxL) (ret := (some .long)) hy rfl ?_
  intro p e s m args below meth c s₁ B hml hv
  obtain ⟨rfl, hsz, hP, hK, hD0, hNw⟩ := hv
  have hts := atoms_spec (ws := ws_ y cc maxL (some .long)) B.pre
  have hts : ∀ w ∈ lw_all, w.before _ s = true := fun w h => hts w (List.mem_cons_of_mem _ h)
  have hown : s.vm.findClass y.cls = some m.cls := findClass_of_methodNamed B.named
  have hlocks := B.notSynchronized
  subst hsz
  have w : xW D [(d, .long)] (PA a0 e0 a1 e1 s.heap.size) s [(a0, e0), (a1, e1)] s.heap [] := ⟨hK, hP, hD0.self, va_S.rf, fun q hq => Or.inr hq, hNw⟩
  have hl := lv_entry As (n := maxL) hL
  rw [lg_entry_eq]
  refine body p e s m _ below meth c _ _ rfl ⟨B.exec, B.bytes, hml, hown, hts⟩ w hl ?_
  intro rpc r u H locs ls' tys ws q0 q1 hd hp w1 ha0 ha1
  have hP1 : va_P D vwCl (PW a0 u.1 a1 u.2) H := w1.P2 ha0 ha1
  exact W.lret B.exec B.bytes B.returns (fun t ht hW => ⟨⟨r, u, rfl, hp, by show va_P D vwCl (PW a0 u.1 a1 u.2) t.heap; rw [ht]; exact hP1⟩, w1.2.2.2.1.F ht⟩) w1.2.2.2.1.2.2 hd
end
section
/-! the plain law of mergeSort -/
theorem cnt_updL_below (p : Int64 → Bool) (z : Nat → Int64) {k n : Nat} (v : Int64) (h : n ≤ k) : cnt p (vp_updL z k v) n = cnt p z n := by
  have e := cnt_upd p z k v n
  rw [if_neg (by omega), if_neg (by omega)] at e
  omega
/-- the merge: [f, p) and [mid, q) of y lie sorted in [f, i) of z -/
def MI (f mid t p q i : Nat) (y z : Nat → Int64) : Prop := (f ≤ p ∧ p ≤ mid ∧ mid ≤ q ∧ q ≤ t ∧ i + mid = p + q) ∧ (∀ j, f ≤ j → j < i → (∀ k, p ≤ k → k < mid → z j ≤ y k) ∧ ∀ k, q ≤ k → k < t → z j ≤ y k) ∧ So f i z ∧ ∀ P : Int64 → Bool, cnt P z i + cnt P y f + cnt P y mid = cnt P z f + cnt P y p + cnt P y q
theorem MI.init {f mid t : Nat} {y z : Nat → Int64} (h1 : f ≤ mid) (h2 : mid ≤ t) : MI f mid t f mid f y z := ⟨by omega, fun j q1 q2 => absurd q2 (by omega), So.empty (by omega), fun P => by omega⟩
theorem So.snoc {f i : Nat} {z : Nat → Int64} {v : Int64} (h : So f i z) (hv : ∀ j, f ≤ j → j < i → z j ≤ v) : So f (i + 1) (vp_updL z i v) := by
  intro a b h1 h2 h3
  by_cases hb : b = i
  · subst hb
    rw [pk_uLs]
    by_cases ha : a = b
    · subst ha; rw [pk_uLs]; exact Int64.le_refl _
    · rw [pk_uLn ha]; exact hv a h1 (by omega)
  · rw [pk_uLn hb, pk_uLn (by omega)]; exact h a b h1 h2 (by omega)
theorem MI.left {f mid t p q i : Nat} {y z : Nat → Int64} (h : MI f mid t p q i y z) (hp : p < mid) (hy : So f mid y) (hy2 : So mid t y) (hle : t ≤ q ∨ y p ≤ y q) : MI f mid t (p + 1) q (i + 1) y (vp_updL z i (y p)) := by
  obtain ⟨h0, h1, h2, h3⟩ := h
  refine ⟨by omega, fun j g1 g2 => ?_, h2.snoc (fun j g1 g2 => (h1 j g1 g2).1 p (by omega) hp), fun P => ?_⟩
  · by_cases hj : j = i
    · subst hj
      rw [pk_uLs]
      refine ⟨fun k g3 g4 => hy p k (by omega) (by omega) g4, fun k g3 g4 => ?_⟩
      rcases hle with hle | hle
      · exact absurd g4 (by omega)
      · exact Int64.le_trans hle (hy2 q k (by omega) g3 g4)
    · rw [pk_uLn hj]
      have := h1 j g1 (by omega)
      exact ⟨fun k g3 g4 => this.1 k (by omega) g4, this.2⟩
  · have e := h3 P
    rw [cnt_s, pk_uLs, cnt_updL_below P z _ (Nat.le_refl i), cnt_updL_below P z _ (show f ≤ i by omega), cnt_s]
    omega
theorem MI.right {f mid t p q i : Nat} {y z : Nat → Int64} (h : MI f mid t p q i y z) (hq : q < t) (hy : So f mid y) (hy2 : So mid t y) (hle : mid ≤ p ∨ y q ≤ y p) : MI f mid t p (q + 1) (i + 1) y (vp_updL z i (y q)) := by
  obtain ⟨h0, h1, h2, h3⟩ := h
  refine ⟨by omega, fun j g1 g2 => ?_, h2.snoc (fun j g1 g2 => (h1 j g1 g2).2 q (by omega) hq), fun P => ?_⟩
  · by_cases hj : j = i
    · subst hj
      rw [pk_uLs]
      refine ⟨fun k g3 g4 => ?_, fun k g3 g4 => hy2 q k (by omega) (by omega) g4⟩
      rcases hle with hle | hle
      · exact absurd g4 (by omega)
      · exact Int64.le_trans hle (hy p k (by omega) g3 g4)
    · rw [pk_uLn hj]
      have := h1 j g1 (by omega)
      exact ⟨this.1, fun k g3 g4 => this.2 k (by omega) g4⟩
  · have e := h3 P
    rw [cnt_s, pk_uLs, cnt_updL_below P z _ (Nat.le_refl i), cnt_updL_below P z _ (show f ≤ i by omega), cnt_s]
    omega
theorem MI.fin {f mid t p q : Nat} {x y z : Nat → Int64} (h : MI f mid t p q t y z) (hr : Rg f t x y) (ho : ∀ k, (k < f ∨ t ≤ k) → z k = x k) : Srt f t x z := by
  obtain ⟨h0, h1, h2, h3⟩ := h
  obtain rfl : p = mid := by omega
  obtain rfl : q = t := by omega
  exact ⟨⟨hr.trans (fun P => by have := h3 P; omega), ho⟩, h2⟩
/-- the two halves sorted -/
theorem Srt.halves {f mid t : Nat} {x y y1 y2 : Nat → Int64} (h1 : f ≤ mid) (h2 : mid ≤ t) (hxy : ∀ k, f ≤ k → k < t → x k = y k) (ha : Srt f mid y y1) (hb : Srt mid t y1 y2) : Rg f t x y2 ∧ So f mid y2 ∧ So mid t y2 ∧ ∀ k, (k < f ∨ t ≤ k) → y2 k = y k := by
  have e : Pm f t y y2 := (ha.1.wide (Nat.le_refl f) h1 h2).trans (hb.1.wide h1 h2 (Nat.le_refl t))
  refine ⟨(Rg.of_agree (by omega) (fun i q1 q2 => (hxy i q1 q2).symm)).trans e.1, fun i j q1 q2 q3 => ?_, hb.2, e.2⟩
  rw [hb.1.2 i (by omega), hb.1.2 j (by omega)]
  exact ha.2 i j q1 q2 q3
theorem So.join {f mid t : Nat} {y : Nat → Int64} (h1 : So f mid y) (h2 : So mid t y) (hm : f < mid) (hm2 : mid < t) (hle : y (mid - 1) ≤ y mid) : So f t y := by
  intro i j q1 q2 q3
  by_cases hj : j < mid
  · exact h1 i j q1 q2 hj
  · by_cases hi : i < mid
    · exact Int64.le_trans (h1 i (mid - 1) q1 (by omega) (by omega)) (Int64.le_trans hle (h2 mid j (by omega) (by omega) q3))
    · exact h2 i j (by omega) q2 q3
theorem Srt.copied {f t : Nat} {x y z : Nat → Int64} (hft : f ≤ t) (hr : Rg f t x y) (hs : So f t y) (ho : ∀ k, (k < f ∨ t ≤ k) → z k = x k) : Srt f t x (va_cpy y z f f (t - f)) := by
  have e1 : ∀ k, f ≤ k → k < t → va_cpy y z f f (t - f) k = y k := fun k q1 q2 => by
    simp only [va_cpy]
    rw [if_pos (by omega)]
    congr 1
    omega
  have e2 : ∀ k, (k < f ∨ t ≤ k) → va_cpy y z f f (t - f) k = z k := fun k q => by
    simp only [va_cpy]
    rw [if_neg (by omega)]
  refine ⟨⟨hr.trans (Rg.of_agree hft e1), fun k q => (e2 k q).trans (ho k q)⟩, fun i j q1 q2 q3 => ?_⟩
  rw [e1 i q1 (by omega), e1 j (by omega) q3]
  exact hs i j q1 q2 q3
end
section
/-! Arrays.copyOf, mergeSort -/
set_option maxRecDepth 100000
set_option maxHeartbeats 1000000
theorem xJ_nm : ("[" ++ (FieldType.long).toString) = "[J" := by decide
theorem La.fits {d : ClassId} {N : Nat} {x : Nat → Int64} : ∀ (i : Nat) (v : Value), (vp_cell d (N, .inr (.inl x))).slots[i]? = some v → fits .long v = true := by
  intro i v hv
  rw [vp_cell_l] at hv
  by_cases hi : i < N
  · rw [arrV_read d _ hi] at hv
    cases hv
    rfl
  · rw [Array.getElem?_eq_none (by rw [arrV_size]; omega)] at hv
    cases hv
abbrev CB (D : va_G) (h : Nat) (d : ClassId) (sz N n : Nat) (x : Nat → Int64) (u : Nat → Int64) (a : Nat) (t : State) : Prop := va_P D vwCl [(h, La d N x), (a, La d n u)] t.heap ∧ va_D (LA h d sz N x) [(h, La d N x), (a, La d n u)]
theorem M_copyOf {l : Launch} {D : va_G} {h : Nat} {d : ClassId} {sz N : Nat} {x : Nat → Int64} {zn : Int} {n : Nat} (hzn : zn = n) (hn : n ≤ N) (hN2 : N < 67108864) : Met l yJ2_copyOf (ws_ yJ2_copyOf cJ2_copyOf 3 (some (.array .long))) ({ frames := 1, locals := 40, cells := 1, slots := n } : Room) (LPc D h d sz N x [.ref h, .int (iI zn)]) (va_Qr (fun u : Nat → Int64 => ∀ k, k < n → u k = x k) (CB D h d sz N n x) (LA h d sz N x)) 1 n (LA h d sz N x) := by
  have hN : N < 2147483648 := by omega
  refine Met.ofW (cc := cJ2_copyOf) (maxL := 3) (ret := some (.array .long)) (by decide) rfl ?_
  intro p e s m args below meth c s₁ B hml hv
  obtain ⟨rfl, hsz, hP, hK, hD0, hNw⟩ := hv
  have hts := atoms_spec (ws := ws_ yJ2_copyOf cJ2_copyOf 3 (some (.array .long))) B.pre
  have hts : ∀ w ∈ lw_all, w.before _ s = true := fun w h => hts w (List.mem_cons_of_mem _ h)
  have hown : s.vm.findClass RJ2 = some m.cls := findClass_of_methodNamed B.named
  have hlocks := B.notSynchronized
  have hx := B.exec
  have hb := B.bytes
  subst hsz
  have w : xW D [(d, .long)] (LA h d s.heap.size N x) s [(h, La d N x)] s.heap [] := ⟨hK, hP, hD0.self, va_S.rf, fun q hq => Or.inr hq, hNw⟩
  have hl := lv_entry [.ref h, .int (iI zn)] (n := 3) (Nat.le_of_ble_eq_true rfl)
  rw [lg_entry_eq]
  generalize (lg_sl ([.ref h, .int (iI zn)]) ++ List.replicate (3 - (lg_sl ([.ref h, .int (iI zn)])).length) Slot.unset).toArray = ls at hl ⊢
  have hl : lv_has ls 3 [(0, .ref h), (1, .int (iI zn))] := hl
  refine lv_iload_n hx hb dJ2_copyOf_0 rfl (lv_at hl 1 rfl) ?_
  refine lv_aload_n hx hb dJ2_copyOf_1 rfl (lv_at hl 0 rfl) ?_
  refine xa_alen hx hb w 0 0 rfl rfl dJ2_copyOf_2 ?_
  refine xi_icmp_ne hx hb dJ2_copyOf_3 (tgt := 14) (by decide) (by unfold iR; omega) (by unfold iR; omega) (fun h3 => ?_) (fun h3 => ?_)
  · skip
    refine lv_iload_n hx hb dJ2_copyOf_14 rfl (lv_at hl 1 rfl) ?_
    refine xa_newl hx hb (hts _ q29) w 0 rfl n hzn (by omega) (Nat.le_refl 1) (by show 0 + n ≤ n; omega) dJ2_copyOf_15 (fun q H w => ?_)
    have w : xW D [(d, .long)] (LA h d s.heap.size N x) s [(h, La d N x), (q, La d n (fun _ => 0))] H [] := w
    refine W.widen (k := 1) (n := n) (by omega) (by omega) ?_
    refine lv_astore_n (lv' := [(2, .ref q), (0, .ref h), (1, .int (iI (zn)))]) hx hb dJ2_copyOf_17 rfl hl (by decide) rfl (fun ls hl => ?_)
    refine lv_aload_n hx hb dJ2_copyOf_18 rfl (lv_at hl 1 rfl) ?_
    refine xi_iconst hx hb dJ2_copyOf_19 ?_
    refine lv_aload_n hx hb dJ2_copyOf_20 rfl (lv_at hl 0 rfl) ?_
    refine xi_iconst hx hb dJ2_copyOf_21 ?_
    refine lv_aload_n hx hb dJ2_copyOf_22 rfl (lv_at hl 1 rfl) ?_
    refine xa_alen hx hb w 0 0 rfl rfl dJ2_copyOf_23 ?_
    refine lv_iload_n hx hb dJ2_copyOf_24 rfl (lv_at hl 2 rfl) ?_
    refine va_mmin hx hb (by rw [hml]; exact hl.1.symm) hown (hts _ q102) (hts _ q72) (hts _ q11) (hts _ q73) (Nat.le_of_ble_eq_true rfl) (Nat.le_of_ble_eq_true rfl) (Nat.le_refl 1) (Nat.le_refl n) dJ2_copyOf_25 ?_
    refine xi_topr (n : Int) ((iI_min _ _ (by unfold iR; omega) (by unfold iR; omega)).trans (congrArg iI (by omega))) ?_
    refine xa_copyl hx hb (by rw [hml]; exact hl.1.symm) hown hts q103 w 0 1 0 0 rfl rfl rfl rfl 0 0 n (by omega) (by omega) (by omega) (by omega) (by omega) hN (by omega) (Nat.le_of_ble_eq_true rfl) (Nat.le_of_ble_eq_true rfl) dJ2_copyOf_28 (fun H locs w => ?_)
    obtain ⟨u, eu⟩ : ∃ u, u = va_cpy x (fun _ => 0) 0 0 n := ⟨_, rfl⟩
    have w : xW D [(d, .long)] (LA h d s.heap.size N x) s [(h, La d N x), (q, La d n u)] H locs := by rw [eu]; exact w
    refine lv_aload_n hx hb dJ2_copyOf_31 rfl (lv_at hl 0 rfl) ?_
    exact W.aret hx hb B.returns (Or.inr ⟨_, rfl⟩) (Or.inr ⟨_, rfl⟩) (fun t ht hW => ⟨⟨u, q, rfl, fun k hk => by rw [eu]; simp [va_cpy, hk], by show va_P D vwCl [(h, La d _ x), (q, La d n u)] t.heap; rw [ht]; exact w.2.1, w.2.2.1⟩, w.2.2.2.1.F ht⟩) w.2.2.2.1.2.2 dJ2_copyOf_32
  · skip
    refine lv_aload_n hx hb dJ2_copyOf_6 rfl (lv_at hl 0 rfl) ?_
    obtain rfl : n = N := by omega
    refine va_clone hx hb (by rw [hml]; exact hl.1.symm) hown (hts _ q95) (hts _ q96) (hts _ q97) (hts _ q98) (hts _ q99) w.2.2.2.2.2 w.1 w.2.1 w.2.2.1 w.2.2.2.1 w.2.2.2.2.1 0 0 rfl rfl (by rw [← xJ_nm]; exact (w.1.2 0 _ rfl).2) La.fits (Nat.le_of_ble_eq_true rfl) (Nat.le_of_ble_eq_true rfl) (Nat.le_refl 1) (by show 0 + n ≤ n; omega) dJ2_copyOf_7 (fun q H k1 k2 k3 k4 => ?_)
    have w : xW D [(d, .long)] (LA h d s.heap.size n x) s [(h, La d n x), (q, La d n x)] H [] := ⟨w.1, k2, k3, k4, w.2.2.2.2⟩
    refine W.widen (k := 1) (n := n) (by omega) (by show 0 + n ≤ n; omega) ?_
    refine va_castA hx hb hown (hts _ q101) w.2.1 1 rfl (by rw [← xJ_nm]; exact (w.1.2 0 _ rfl).2) dJ2_copyOf_10 ?_
    exact W.aret hx hb B.returns (Or.inr ⟨_, rfl⟩) (Or.inr ⟨_, rfl⟩) (fun t ht hW => ⟨⟨x, q, rfl, fun k _ => rfl, by show va_P D vwCl [(h, La d _ x), (q, La d n x)] t.heap; rw [ht]; exact w.2.1, w.2.2.1⟩, w.2.2.2.1.F ht⟩) w.2.2.2.1.2.2 dJ2_copyOf_13
/-- mergeSort with its second array, to depth dd -/
def MG (l : Launch) (dd : Nat) : Prop := ∀ {D : va_G} {h g : Nat} {d : ClassId} {sz N M : Nat} {x y : Nat → Int64} {zf zt : Int} {f t : Nat}, zf = f → zt = t → f ≤ t → t ≤ N → t ≤ M → N < 1073741824 → M < 1073741824 → t - f ≤ 15 * 2 ^ dd → (∀ k, f ≤ k → k < t → x k = y k) →
  Met l yX2_mergeSort_2 (ws_ yX2_mergeSort_2 cX2_mergeSort_2 9 none) ({ frames := dd + 1, locals := 28 * dd + 60 } : Room) (PPc D d h (La d N x) g (La d M y) sz [.ref h, .int (iI zf), .int (iI zt), .ref g]) (va_Qv (fun u => ∃ x1 y1, u = (La d N x1, La d M y1) ∧ Srt f t x x1 ∧ ∀ k, (k < f ∨ t ≤ k) → y1 k = y k) (PB D h g) (PA h (La d N x) g (La d M y) sz)) 0 0 (PA h (La d N x) g (La d M y) sz)
theorem merge_core {p : Program} {l : Launch} {e : Env} {R : Room} {s : State} {m : MethodId} {args : Array Value} {below : List Frame} {meth : Method} {c : Code} {cells slots : Nat} {Q : State → Prop} {dd : Nat} (IH : MG l dd) {D : va_G} {A : Nat → Prop} {h g : Nat} {d : ClassId} {N M : Nat} {x y : Nat → Int64} {zf zt zlen : Int} {f t : Nat} (hzf : zf = f) (hzt : zt = t) (hzl : zlen = (t : Int) - f) (h16 : f + 16 ≤ t) (htN : t ≤ N) (htM : t ≤ M) (hN2 : N < 1073741824) (hM2 : M < 1073741824) (hlen : t - f ≤ 15 * 2 ^ (dd + 1)) (hxy : ∀ k, f ≤ k → k < t → x k = y k)
    (hRf : dd + 2 ≤ R.frames) (hRl : 28 * dd + 88 ≤ R.locals) (hRc : cells ≤ R.cells) (hRs : slots ≤ R.slots) (S : CallFix p m c cX2_mergeSort_2 9 s args lw_all "LongArrays") (K : ∀ (rpc : Nat) (x1 y1 : Nat → Int64) (H : Heap) (locs : List Loc) (ls : Array Slot), decode cX2_mergeSort_2 rpc = .ok (.return_, 1) → Srt f t x x1 → (∀ k, (k < f ∨ t ≤ k) → y1 k = y k) → xW D [(d, .long)] A s [(h, La d N x1), (g, La d M y1)] H locs → W p l e R s m args below meth c H locs cells slots Q (F0 m rpc ls []))
    {H : Heap} {locs : List Loc} {ls : Array Slot} (w : xW D [(d, .long)] A s [(h, La d N x), (g, La d M y)] H locs) (hl : lv_has ls 9 [(0, .ref h), (1, .int (iI zf)), (2, .int (iI zt)), (3, .ref g), (4, .int (iI zlen))]) : W p l e R s m args below meth c H locs cells slots Q (F0 m 29 ls []) := by
  obtain ⟨hx, hb, hml, hown, hts⟩ := id S
  have hN : N < 2147483648 := by omega
  have hNM : M < 2147483648 := by omega
  have hp2 : 2 ^ (dd + 1) = 2 * 2 ^ dd := by rw [Nat.pow_succ]; omega
  have hft : f ≤ t := by omega
  refine lv_iload_n hx hb dX2_mergeSort_2_29 rfl (lv_at hl 1 rfl) ?_
  refine lv_iload_n hx hb dX2_mergeSort_2_30 rfl (lv_at hl 2 rfl) ?_
  refine xi_iadd hx hb dX2_mergeSort_2_31 ?_
  refine xi_iconst hx hb dX2_mergeSort_2_32 ?_
  refine xi_iushr1 hx hb (by omega) dX2_mergeSort_2_33 ?_
  obtain ⟨mid, hmid⟩ : ∃ k : Nat, (zf + zt) / 2 = (k : Int) := ⟨((zf + zt) / 2).toNat, by omega⟩
  have hm1 : f < mid ∧ mid < t ∧ 2 * mid ≤ f + t ∧ f + t ≤ 2 * mid + 1 := by omega
  refine lv_istore (lv' := [(5, .int (iI ((zf + zt) / 2))), (0, .ref h), (1, .int (iI (zf))), (2, .int (iI (zt))), (3, .ref g), (4, .int (iI (zlen)))]) hx hb dX2_mergeSort_2_34 hl (by decide) rfl (fun ls hl => ?_)
  refine lv_aload_n hx hb dX2_mergeSort_2_36 rfl (lv_at hl 4 rfl) ?_
  refine lv_iload_n hx hb dX2_mergeSort_2_37 rfl (lv_at hl 2 rfl) ?_
  refine lv_iload hx hb dX2_mergeSort_2_38 (lv_at hl 0 rfl) ?_
  refine lv_aload_n hx hb dX2_mergeSort_2_40 rfl (lv_at hl 1 rfl) ?_
  refine xp_callv (IH (N := M) (M := N) (x := y) (y := x) (f := f) (t := mid) (hzf) (hmid) (by omega) (by omega) (by omega) hM2 hN2 (by omega) (fun k q1 q2 => (hxy k q1 (by omega)).symm)) S (va_cwS 4 hts (lw_S q86 q87 q9 q88) rfl rfl rfl ⟨by decide, by decide, by decide⟩ ⟨by dsimp only; omega, by dsimp only; omega⟩) w 1 0 0 rfl rfl (by decide) rfl rfl hl.1 rfl (by decide) dX2_mergeSort_2_41 ⟨hRc, hRs⟩ (fun u H locs hu w => ?_)
  obtain ⟨y1, x1, rfl, hs1, ho1⟩ := hu
  have w : xW D [(d, .long)] A s [(h, La d N x1), (g, La d M y1)] H locs := w
  refine lv_aload_n hx hb dX2_mergeSort_2_44 rfl (lv_at hl 4 rfl) ?_
  refine lv_iload hx hb dX2_mergeSort_2_45 (lv_at hl 0 rfl) ?_
  refine lv_iload_n hx hb dX2_mergeSort_2_47 rfl (lv_at hl 3 rfl) ?_
  refine lv_aload_n hx hb dX2_mergeSort_2_48 rfl (lv_at hl 1 rfl) ?_
  refine xp_callv (IH (N := M) (M := N) (x := y1) (y := x1) (f := mid) (t := t) (hmid) (hzt) (by omega) (by omega) (by omega) hM2 hN2 (by omega) (fun k q1 q2 => by rw [hs1.1.2 k (by omega), ho1 k (by omega)]; exact (hxy k (by omega) q2).symm)) S (va_cwS 4 hts (lw_S q86 q87 q9 q88) rfl rfl rfl ⟨by decide, by decide, by decide⟩ ⟨by dsimp only; omega, by dsimp only; omega⟩) w 1 0 0 rfl rfl (by decide) rfl rfl hl.1 rfl (by decide) dX2_mergeSort_2_49 ⟨hRc, hRs⟩ (fun u H locs hu w => ?_)
  obtain ⟨y2, x2, rfl, hs2, ho2⟩ := hu
  have w : xW D [(d, .long)] A s [(h, La d N x2), (g, La d M y2)] H locs := w
  obtain ⟨hR2, hS1, hS2, hO⟩ := Srt.halves (by omega) (by omega) hxy hs1 hs2
  have hX : ∀ k, (k < f ∨ t ≤ k) → x2 k = x k := fun k q => by rw [ho2 k (by omega), ho1 k (by omega)]
  refine lv_aload_n hx hb dX2_mergeSort_2_52 rfl (lv_at hl 4 rfl) ?_
  refine lv_iload hx hb dX2_mergeSort_2_53 (lv_at hl 0 rfl) ?_
  refine xi_iconst hx hb dX2_mergeSort_2_55 ?_
  refine xi_isub hx hb dX2_mergeSort_2_56 ?_
  refine xa_lald hx hb w 1 0 rfl rfl ((mid - 1)) (by omega) (by omega) hNM dX2_mergeSort_2_57 ?_
  refine lv_aload_n hx hb dX2_mergeSort_2_58 rfl (lv_at hl 4 rfl) ?_
  refine lv_iload hx hb dX2_mergeSort_2_59 (lv_at hl 0 rfl) ?_
  refine xa_lald hx hb w 1 0 rfl rfl mid (by omega) (by omega) hNM dX2_mergeSort_2_61 ?_
  refine xl_cmp_gt hx hb dX2_mergeSort_2_62 dX2_mergeSort_2_63 (tgt := 76) (by decide) (fun h62 => ?_) (fun h62 => ?_)
  · skip
    refine lv_iload_n hx hb dX2_mergeSort_2_76 rfl (lv_at hl 2 rfl) ?_
    refine lv_istore (lv' := [(6, .int (iI (zf))), (5, .int (iI ((zf + zt) / 2))), (0, .ref h), (1, .int (iI (zf))), (2, .int (iI (zt))), (3, .ref g), (4, .int (iI (zlen)))]) hx hb dX2_mergeSort_2_77 hl (by decide) rfl (fun ls hl => ?_)
    refine lv_iload_n hx hb dX2_mergeSort_2_79 rfl (lv_at hl 3 rfl) ?_
    refine lv_istore (lv' := [(7, .int (iI (zf))), (6, .int (iI (zf))), (5, .int (iI ((zf + zt) / 2))), (0, .ref h), (1, .int (iI (zf))), (2, .int (iI (zt))), (3, .ref g), (4, .int (iI (zlen)))]) hx hb dX2_mergeSort_2_80 hl (by decide) rfl (fun ls hl => ?_)
    refine lv_iload hx hb dX2_mergeSort_2_82 (lv_at hl 2 rfl) ?_
    refine lv_istore (lv' := [(8, .int (iI ((zf + zt) / 2))), (7, .int (iI (zf))), (6, .int (iI (zf))), (5, .int (iI ((zf + zt) / 2))), (0, .ref h), (1, .int (iI (zf))), (2, .int (iI (zt))), (3, .ref g), (4, .int (iI (zlen)))]) hx hb dX2_mergeSort_2_84 hl (by decide) rfl (fun ls hl => ?_)
    have loop : ∀ (r i p1 q1 : Nat) (z : Nat → Int64) (zm zi zp zq : Int) (H : Heap) (locs : List Loc) (ls : Array Slot), i + r = t → zm = mid → zi = i → zp = p1 → zq = q1 → MI f mid t p1 q1 i y2 z → (∀ k, (k < f ∨ t ≤ k) → z k = x k) → xW D [(d, .long)] A s [(h, La d N z), (g, La d M y2)] H locs → lv_has ls 9 [(0, .ref h), (1, .int (iI zf)), (2, .int (iI zt)), (3, .ref g), (5, .int (iI zm)), (6, .int (iI zi)), (7, .int (iI zp)), (8, .int (iI zq))] → W p l e R s m args below meth c H locs cells slots Q (F0 m 86 ls []) := by
      intro r
      induction r with
      | zero =>
        intro i p1 q1 z zm zi zp zq H locs ls hr hzm hzi hzp hzq hI hO3 w hl
        obtain rfl : i = t := by omega
        refine lv_iload hx hb dX2_mergeSort_2_86 (lv_at hl 5 rfl) ?_
        refine lv_iload_n hx hb dX2_mergeSort_2_88 rfl (lv_at hl 2 rfl) ?_
        refine xi_icmp_ge hx hb dX2_mergeSort_2_89 (tgt := 148) (by decide) (by unfold iR; omega) (by unfold iR; omega) (fun h89 => ?_) (fun h89 => ?_)
        · skip
          exact K _ z y2 H locs ls dX2_mergeSort_2_148 (hI.fin hR2 hO3) hO w
        · skip
          exfalso; omega
      | succ r ih =>
        intro i p1 q1 z zm zi zp zq H locs ls hr hzm hzi hzp hzq hI hO3 w hl
        have ho := hI.1
        refine lv_iload hx hb dX2_mergeSort_2_86 (lv_at hl 5 rfl) ?_
        refine lv_iload_n hx hb dX2_mergeSort_2_88 rfl (lv_at hl 2 rfl) ?_
        refine xi_icmp_ge hx hb dX2_mergeSort_2_89 (tgt := 148) (by decide) (by unfold iR; omega) (by unfold iR; omega) (fun h89 => ?_) (fun h89 => ?_)
        · skip
          exfalso; omega
        · skip
          refine lv_iload hx hb dX2_mergeSort_2_92 (lv_at hl 7 rfl) ?_
          refine lv_iload_n hx hb dX2_mergeSort_2_94 rfl (lv_at hl 2 rfl) ?_
          refine xi_icmp_ge hx hb dX2_mergeSort_2_95 (tgt := 117) (by decide) (by unfold iR; omega) (by unfold iR; omega) (fun h95 => ?_) (fun h95 => ?_)
          · skip
            refine lv_aload_n hx hb dX2_mergeSort_2_117 rfl (lv_at hl 0 rfl) ?_
            refine lv_iload hx hb dX2_mergeSort_2_118 (lv_at hl 5 rfl) ?_
            refine lv_aload_n hx hb dX2_mergeSort_2_120 rfl (lv_at hl 3 rfl) ?_
            refine lv_iload hx hb dX2_mergeSort_2_121 (lv_at hl 6 rfl) ?_
            refine lv_iinc (v := iI (zp + 1)) (lv' := [(7, .int (iI (zp + 1))), (0, .ref h), (1, .int (iI (zf))), (2, .int (iI (zt))), (3, .ref g), (5, .int (iI (zm))), (6, .int (iI (zi))), (8, .int (iI (zq)))]) hx hb dX2_mergeSort_2_123 hl (k := 6) rfl (xi_inc (by omega)) (by decide) rfl (fun ls hl => ?_)
            refine xa_lald hx hb w 1 0 rfl rfl p1 (by omega) (by omega) hNM dX2_mergeSort_2_126 ?_
            refine xa_last hx hb w 0 0 rfl rfl i (by omega) (by omega) hN dX2_mergeSort_2_127 (fun H locs w => ?_)
            obtain ⟨z1, ez1⟩ : ∃ y9, y9 = vp_updL z i (y2 p1) := ⟨_, rfl⟩
            have w : xW D [(d, .long)] A s [(h, La d N z1), (g, La d M y2)] H locs := by rw [ez1]; exact w
            refine lv_goto (tgt := 142) hx hb dX2_mergeSort_2_128 (by decide) ?_
            refine lv_iinc (v := iI (zi + 1)) (lv' := [(6, .int (iI (zi + 1))), (7, .int (iI (zp + 1))), (0, .ref h), (1, .int (iI (zf))), (2, .int (iI (zt))), (3, .ref g), (5, .int (iI (zm))), (8, .int (iI (zq)))]) hx hb dX2_mergeSort_2_142 hl (k := 6) rfl (xi_inc (by omega)) (by decide) rfl (fun ls hl => ?_)
            refine lv_goto (tgt := 86) hx hb dX2_mergeSort_2_145 (by decide) ?_
            exact ih (i + 1) (p1 + 1) q1 z1 _ _ _ _ H locs ls (by omega) (by omega) (by omega) (by omega) (by omega) (by rw [ez1]; exact hI.left (by omega) hS1 hS2 (Or.inl (by omega))) (fun k q => by rw [ez1, pk_uLn (by omega)]; exact hO3 k q) w (lv_sub hl [2, 3, 4, 5, 6, 0, 1, 7] rfl)
          · skip
            refine lv_iload hx hb dX2_mergeSort_2_98 (lv_at hl 6 rfl) ?_
            refine lv_iload hx hb dX2_mergeSort_2_100 (lv_at hl 4 rfl) ?_
            refine xi_icmp_ge hx hb dX2_mergeSort_2_102 (tgt := 131) (by decide) (by unfold iR; omega) (by unfold iR; omega) (fun h102 => ?_) (fun h102 => ?_)
            · skip
              refine lv_aload_n hx hb dX2_mergeSort_2_131 rfl (lv_at hl 0 rfl) ?_
              refine lv_iload hx hb dX2_mergeSort_2_132 (lv_at hl 5 rfl) ?_
              refine lv_aload_n hx hb dX2_mergeSort_2_134 rfl (lv_at hl 3 rfl) ?_
              refine lv_iload hx hb dX2_mergeSort_2_135 (lv_at hl 7 rfl) ?_
              refine lv_iinc (v := iI (zq + 1)) (lv' := [(8, .int (iI (zq + 1))), (0, .ref h), (1, .int (iI (zf))), (2, .int (iI (zt))), (3, .ref g), (5, .int (iI (zm))), (6, .int (iI (zi))), (7, .int (iI (zp)))]) hx hb dX2_mergeSort_2_137 hl (k := 7) rfl (xi_inc (by omega)) (by decide) rfl (fun ls hl => ?_)
              refine xa_lald hx hb w 1 0 rfl rfl q1 (by omega) (by omega) hNM dX2_mergeSort_2_140 ?_
              refine xa_last hx hb w 0 0 rfl rfl i (by omega) (by omega) hN dX2_mergeSort_2_141 (fun H locs w => ?_)
              obtain ⟨z1, ez1⟩ : ∃ y9, y9 = vp_updL z i (y2 q1) := ⟨_, rfl⟩
              have w : xW D [(d, .long)] A s [(h, La d N z1), (g, La d M y2)] H locs := by rw [ez1]; exact w
              refine lv_iinc (v := iI (zi + 1)) (lv' := [(6, .int (iI (zi + 1))), (8, .int (iI (zq + 1))), (0, .ref h), (1, .int (iI (zf))), (2, .int (iI (zt))), (3, .ref g), (5, .int (iI (zm))), (7, .int (iI (zp)))]) hx hb dX2_mergeSort_2_142 hl (k := 6) rfl (xi_inc (by omega)) (by decide) rfl (fun ls hl => ?_)
              refine lv_goto (tgt := 86) hx hb dX2_mergeSort_2_145 (by decide) ?_
              exact ih (i + 1) p1 (q1 + 1) z1 _ _ _ _ H locs ls (by omega) (by omega) (by omega) (by omega) (by omega) (by rw [ez1]; exact hI.right (by omega) hS1 hS2 (Or.inl (by omega))) (fun k q => by rw [ez1, pk_uLn (by omega)]; exact hO3 k q) w (lv_sub hl [2, 3, 4, 5, 6, 0, 7, 1] rfl)
            · skip
              refine lv_aload_n hx hb dX2_mergeSort_2_105 rfl (lv_at hl 3 rfl) ?_
              refine lv_iload hx hb dX2_mergeSort_2_106 (lv_at hl 6 rfl) ?_
              refine xa_lald hx hb w 1 0 rfl rfl p1 (by omega) (by omega) hNM dX2_mergeSort_2_108 ?_
              refine lv_aload_n hx hb dX2_mergeSort_2_109 rfl (lv_at hl 3 rfl) ?_
              refine lv_iload hx hb dX2_mergeSort_2_110 (lv_at hl 7 rfl) ?_
              refine xa_lald hx hb w 1 0 rfl rfl q1 (by omega) (by omega) hNM dX2_mergeSort_2_112 ?_
              refine xl_cmp_gt hx hb dX2_mergeSort_2_113 dX2_mergeSort_2_114 (tgt := 131) (by decide) (fun h113 => ?_) (fun h113 => ?_)
              · skip
                refine lv_aload_n hx hb dX2_mergeSort_2_131 rfl (lv_at hl 0 rfl) ?_
                refine lv_iload hx hb dX2_mergeSort_2_132 (lv_at hl 5 rfl) ?_
                refine lv_aload_n hx hb dX2_mergeSort_2_134 rfl (lv_at hl 3 rfl) ?_
                refine lv_iload hx hb dX2_mergeSort_2_135 (lv_at hl 7 rfl) ?_
                refine lv_iinc (v := iI (zq + 1)) (lv' := [(8, .int (iI (zq + 1))), (0, .ref h), (1, .int (iI (zf))), (2, .int (iI (zt))), (3, .ref g), (5, .int (iI (zm))), (6, .int (iI (zi))), (7, .int (iI (zp)))]) hx hb dX2_mergeSort_2_137 hl (k := 7) rfl (xi_inc (by omega)) (by decide) rfl (fun ls hl => ?_)
                refine xa_lald hx hb w 1 0 rfl rfl q1 (by omega) (by omega) hNM dX2_mergeSort_2_140 ?_
                refine xa_last hx hb w 0 0 rfl rfl i (by omega) (by omega) hN dX2_mergeSort_2_141 (fun H locs w => ?_)
                obtain ⟨z1, ez1⟩ : ∃ y9, y9 = vp_updL z i (y2 q1) := ⟨_, rfl⟩
                have w : xW D [(d, .long)] A s [(h, La d N z1), (g, La d M y2)] H locs := by rw [ez1]; exact w
                refine lv_iinc (v := iI (zi + 1)) (lv' := [(6, .int (iI (zi + 1))), (8, .int (iI (zq + 1))), (0, .ref h), (1, .int (iI (zf))), (2, .int (iI (zt))), (3, .ref g), (5, .int (iI (zm))), (7, .int (iI (zp)))]) hx hb dX2_mergeSort_2_142 hl (k := 6) rfl (xi_inc (by omega)) (by decide) rfl (fun ls hl => ?_)
                refine lv_goto (tgt := 86) hx hb dX2_mergeSort_2_145 (by decide) ?_
                exact ih (i + 1) p1 (q1 + 1) z1 _ _ _ _ H locs ls (by omega) (by omega) (by omega) (by omega) (by omega) (by rw [ez1]; exact hI.right (by omega) hS1 hS2 (Or.inr (Int64.le_of_lt h113))) (fun k q => by rw [ez1, pk_uLn (by omega)]; exact hO3 k q) w (lv_sub hl [2, 3, 4, 5, 6, 0, 7, 1] rfl)
              · skip
                refine lv_aload_n hx hb dX2_mergeSort_2_117 rfl (lv_at hl 0 rfl) ?_
                refine lv_iload hx hb dX2_mergeSort_2_118 (lv_at hl 5 rfl) ?_
                refine lv_aload_n hx hb dX2_mergeSort_2_120 rfl (lv_at hl 3 rfl) ?_
                refine lv_iload hx hb dX2_mergeSort_2_121 (lv_at hl 6 rfl) ?_
                refine lv_iinc (v := iI (zp + 1)) (lv' := [(7, .int (iI (zp + 1))), (0, .ref h), (1, .int (iI (zf))), (2, .int (iI (zt))), (3, .ref g), (5, .int (iI (zm))), (6, .int (iI (zi))), (8, .int (iI (zq)))]) hx hb dX2_mergeSort_2_123 hl (k := 6) rfl (xi_inc (by omega)) (by decide) rfl (fun ls hl => ?_)
                refine xa_lald hx hb w 1 0 rfl rfl p1 (by omega) (by omega) hNM dX2_mergeSort_2_126 ?_
                refine xa_last hx hb w 0 0 rfl rfl i (by omega) (by omega) hN dX2_mergeSort_2_127 (fun H locs w => ?_)
                obtain ⟨z1, ez1⟩ : ∃ y9, y9 = vp_updL z i (y2 p1) := ⟨_, rfl⟩
                have w : xW D [(d, .long)] A s [(h, La d N z1), (g, La d M y2)] H locs := by rw [ez1]; exact w
                refine lv_goto (tgt := 142) hx hb dX2_mergeSort_2_128 (by decide) ?_
                refine lv_iinc (v := iI (zi + 1)) (lv' := [(6, .int (iI (zi + 1))), (7, .int (iI (zp + 1))), (0, .ref h), (1, .int (iI (zf))), (2, .int (iI (zt))), (3, .ref g), (5, .int (iI (zm))), (8, .int (iI (zq)))]) hx hb dX2_mergeSort_2_142 hl (k := 6) rfl (xi_inc (by omega)) (by decide) rfl (fun ls hl => ?_)
                refine lv_goto (tgt := 86) hx hb dX2_mergeSort_2_145 (by decide) ?_
                exact ih (i + 1) (p1 + 1) q1 z1 _ _ _ _ H locs ls (by omega) (by omega) (by omega) (by omega) (by omega) (by rw [ez1]; exact hI.left (by omega) hS1 hS2 (Or.inr h113)) (fun k q => by rw [ez1, pk_uLn (by omega)]; exact hO3 k q) w (lv_sub hl [2, 3, 4, 5, 6, 0, 1, 7] rfl)
    exact loop (t - f) f f mid x2 _ _ _ _ H locs ls (by omega) (by omega) (by omega) (by omega) (by omega) (MI.init (by omega) (by omega)) hX w (lv_sub hl [4, 5, 6, 7, 3, 2, 1, 0] rfl)
  · skip
    refine lv_aload_n hx hb dX2_mergeSort_2_66 rfl (lv_at hl 4 rfl) ?_
    refine lv_iload_n hx hb dX2_mergeSort_2_67 rfl (lv_at hl 2 rfl) ?_
    refine lv_aload_n hx hb dX2_mergeSort_2_68 rfl (lv_at hl 1 rfl) ?_
    refine lv_iload_n hx hb dX2_mergeSort_2_69 rfl (lv_at hl 2 rfl) ?_
    refine lv_iload hx hb dX2_mergeSort_2_70 (lv_at hl 5 rfl) ?_
    refine xa_copyl hx hb (by rw [hml]; exact hl.1.symm) hown hts q106 w 1 0 0 0 rfl rfl rfl rfl f f (t - f) (by omega) (by omega) (by omega) (by omega) (by omega) hNM hN (by omega) (Nat.le_trans (show _ ≤ 60 from Nat.le_of_ble_eq_true rfl) (by omega)) dX2_mergeSort_2_72 (fun H locs w => ?_)
    obtain ⟨x3, ex3⟩ : ∃ u, u = va_cpy y2 x2 f f (t - f) := ⟨_, rfl⟩
    have w : xW D [(d, .long)] A s [(h, La d N x3), (g, La d M y2)] H locs := by rw [ex3]; exact w
    exact K _ x3 y2 H locs ls dX2_mergeSort_2_75 (by rw [ex3]; exact Srt.copied hft hR2 (hS1.join hS2 (by omega) (by omega) h62) hX) hO w
theorem M_merge2 {l : Launch} : ∀ dd, MG l dd := by
  intro dd
  induction dd with
  | zero =>
    intro D h g d sz N M x y zf zt f t hzf hzt hft htN htM hN2 hM2 hlen hxy
    refine xp_metv (by decide) (Nat.le_of_ble_eq_true rfl) ?_
    intro p e s m args below meth c Q ls hsz S w hl K
    obtain ⟨hx, hb, hml, hown, hts⟩ := id S
    have hN : N < 2147483648 := by omega
    have hl : lv_has ls 9 [(0, .ref h), (1, .int (iI zf)), (2, .int (iI zt)), (3, .ref g)] := hl
    refine lv_iload_n hx hb dX2_mergeSort_2_0 rfl (lv_at hl 2 rfl) ?_
    refine lv_iload_n hx hb dX2_mergeSort_2_1 rfl (lv_at hl 1 rfl) ?_
    refine xi_isub hx hb dX2_mergeSort_2_2 ?_
    refine lv_istore (lv' := [(4, .int (iI (zt - zf))), (0, .ref h), (1, .int (iI (zf))), (2, .int (iI (zt))), (3, .ref g)]) hx hb dX2_mergeSort_2_3 hl (by decide) rfl (fun ls hl => ?_)
    refine lv_iload hx hb dX2_mergeSort_2_5 (lv_at hl 0 rfl) ?_
    refine xi_bipush hx hb dX2_mergeSort_2_7 (by decide) ?_
    refine xi_icmp_ge hx hb dX2_mergeSort_2_9 (tgt := 19) (by decide) (by unfold iR; omega) (by unfold iR; omega) (fun h9 => ?_) (fun h9 => ?_)
    · skip
      exfalso; omega
    · skip
      refine lv_aload_n hx hb dX2_mergeSort_2_12 rfl (lv_at hl 1 rfl) ?_
      refine lv_iload_n hx hb dX2_mergeSort_2_13 rfl (lv_at hl 2 rfl) ?_
      refine lv_iload_n hx hb dX2_mergeSort_2_14 rfl (lv_at hl 3 rfl) ?_
      refine xa_callv (M_insertion (rm := {}) (f := f) (t := t) hzf hzt hft htN hN2) S (va_cwS 3 hts (lw_S q89 q90 q9 q91) rfl rfl rfl ⟨by decide, by decide, by decide⟩ ⟨by dsimp only; omega, by dsimp only; omega⟩) w 0 0 rfl rfl rfl hl.1 rfl (by decide) dX2_mergeSort_2_15 ⟨by omega, by omega⟩ (fun x1 H locs hs w => ?_)
      have w : xW D [(d, .long)] (PA h (La d N x) g (La d M y) s.heap.size) s [(h, La d N x1), (g, La d M y)] H locs := w
      exact K _ _ _ _ ls _ _ 0 1 dX2_mergeSort_2_18 ⟨x1, y, rfl, hs, fun _ _ => rfl⟩ w rfl rfl
  | succ dd IH =>
    intro D h g d sz N M x y zf zt f t hzf hzt hft htN htM hN2 hM2 hlen hxy
    refine xp_metv (by decide) (Nat.le_of_ble_eq_true rfl) ?_
    intro p e s m args below meth c Q ls hsz S w hl K
    obtain ⟨hx, hb, hml, hown, hts⟩ := id S
    have hN : N < 2147483648 := by omega
    have hl : lv_has ls 9 [(0, .ref h), (1, .int (iI zf)), (2, .int (iI zt)), (3, .ref g)] := hl
    refine lv_iload_n hx hb dX2_mergeSort_2_0 rfl (lv_at hl 2 rfl) ?_
    refine lv_iload_n hx hb dX2_mergeSort_2_1 rfl (lv_at hl 1 rfl) ?_
    refine xi_isub hx hb dX2_mergeSort_2_2 ?_
    refine lv_istore (lv' := [(4, .int (iI (zt - zf))), (0, .ref h), (1, .int (iI (zf))), (2, .int (iI (zt))), (3, .ref g)]) hx hb dX2_mergeSort_2_3 hl (by decide) rfl (fun ls hl => ?_)
    refine lv_iload hx hb dX2_mergeSort_2_5 (lv_at hl 0 rfl) ?_
    refine xi_bipush hx hb dX2_mergeSort_2_7 (by decide) ?_
    refine xi_icmp_ge hx hb dX2_mergeSort_2_9 (tgt := 19) (by decide) (by unfold iR; omega) (by unfold iR; omega) (fun h9 => ?_) (fun h9 => ?_)
    · skip
      refine lv_aload_n hx hb dX2_mergeSort_2_19 rfl (lv_at hl 4 rfl) ?_
      refine lv_ifnonnull (tgt := 29) hx hb dX2_mergeSort_2_20 (by decide) ?_
      exact merge_core IH hzf hzt (zlen := zt - zf) (by omega) (by omega) htN htM hN2 hM2 hlen hxy (by dsimp only; omega) (by dsimp only; omega) (Nat.zero_le _) (Nat.zero_le _) S (fun rpc x1 y1 H locs ls hd k1 k2 w => K rpc _ H locs ls _ _ 0 1 hd ⟨x1, y1, rfl, k1, k2⟩ w rfl rfl) w (lv_sub hl [1, 2, 3, 4, 0] rfl)
    · skip
      refine lv_aload_n hx hb dX2_mergeSort_2_12 rfl (lv_at hl 1 rfl) ?_
      refine lv_iload_n hx hb dX2_mergeSort_2_13 rfl (lv_at hl 2 rfl) ?_
      refine lv_iload_n hx hb dX2_mergeSort_2_14 rfl (lv_at hl 3 rfl) ?_
      refine xa_callv (M_insertion (rm := {}) (f := f) (t := t) hzf hzt hft htN hN2) S (va_cwS 3 hts (lw_S q89 q90 q9 q91) rfl rfl rfl ⟨by decide, by decide, by decide⟩ ⟨by dsimp only; omega, by dsimp only; omega⟩) w 0 0 rfl rfl rfl hl.1 rfl (by decide) dX2_mergeSort_2_15 ⟨by omega, by omega⟩ (fun x1 H locs hs w => ?_)
      have w : xW D [(d, .long)] (PA h (La d N x) g (La d M y) s.heap.size) s [(h, La d N x1), (g, La d M y)] H locs := w
      exact K _ _ _ _ ls _ _ 0 1 dX2_mergeSort_2_18 ⟨x1, y, rfl, hs, fun _ _ => rfl⟩ w rfl rfl
theorem M_merge2N {l : Launch} (dd : Nat) {D : va_G} {h : Nat} {d : ClassId} {sz N : Nat} {x : Nat → Int64} {zf zt : Int} {f t : Nat} (hzf : zf = f) (hzt : zt = t) (hft : f ≤ t) (htN : t ≤ N) (hN3 : N < 67108864) (hlen : t - f ≤ 15 * 2 ^ (dd + 1)) : Met l yX2_mergeSort_2 (ws_ yX2_mergeSort_2 cX2_mergeSort_2 9 none) ({ frames := dd + 2, locals := 28 * dd + 88, cells := 1, slots := t } : Room) (LPc D h d sz N x [.ref h, .int (iI zf), .int (iI zt), .null]) (va_Qv (Srt f t x) (LB D h d N) (LA h d sz N x)) 1 t (LA h d sz N x) := by
  have hN2 : N < 1073741824 := by omega
  have hN : N < 2147483648 := by omega
  refine xa_metv (by decide) (Nat.le_of_ble_eq_true rfl) ?_
  intro p e s m args below meth c Q ls hsz S w hl K
  obtain ⟨hx, hb, hml, hown, hts⟩ := id S
  have hl : lv_has ls 9 [(0, .ref h), (1, .int (iI zf)), (2, .int (iI zt)), (3, .null)] := hl
  refine lv_iload_n hx hb dX2_mergeSort_2_0 rfl (lv_at hl 2 rfl) ?_
  refine lv_iload_n hx hb dX2_mergeSort_2_1 rfl (lv_at hl 1 rfl) ?_
  refine xi_isub hx hb dX2_mergeSort_2_2 ?_
  refine lv_istore (lv' := [(4, .int (iI (zt - zf))), (0, .ref h), (1, .int (iI (zf))), (2, .int (iI (zt))), (3, .null)]) hx hb dX2_mergeSort_2_3 hl (by decide) rfl (fun ls hl => ?_)
  refine lv_iload hx hb dX2_mergeSort_2_5 (lv_at hl 0 rfl) ?_
  refine xi_bipush hx hb dX2_mergeSort_2_7 (by decide) ?_
  refine xi_icmp_ge hx hb dX2_mergeSort_2_9 (tgt := 19) (by decide) (by unfold iR; omega) (by unfold iR; omega) (fun h9 => ?_) (fun h9 => ?_)
  · skip
    refine lv_aload_nN hx hb dX2_mergeSort_2_19 rfl (lv_at hl 4 rfl) ?_
    refine lv_ifnonnullN hx hb dX2_mergeSort_2_20 ?_
    refine lv_aload_n hx hb dX2_mergeSort_2_23 rfl (lv_at hl 1 rfl) ?_
    refine lv_iload_n hx hb dX2_mergeSort_2_24 rfl (lv_at hl 3 rfl) ?_
    refine va_callr (va_runS S (M_copyOf (n := t) hzt htN hN3) (va_cwS 2 hts (lw_S q92 q93 q12 q94) rfl rfl rfl ⟨by decide, by decide, by decide⟩ ⟨by dsimp only; omega, by dsimp only; omega⟩) (LPc.pre w 0 0 rfl rfl) rfl rfl hl.1 rfl (lv_room (by decide)) dX2_mergeSort_2_25 ⟨Nat.le_refl 1, by show 0 + t ≤ t; omega⟩) w.2.2.2.1 (fun q _ h => w.freeA (q0 := 0) rfl q h) (w.freeA (q0 := 0) rfl) (fun u g t1 H locs ht1 hvm hp hB hz hk hS => ?_)
    have w : xW D [(d, .long)] (LA h d s.heap.size N x) s [(h, La d N x), (g, La d t u)] H locs := ⟨w.1, by rw [← ht1]; exact hB.1, hB.2.weaken (fun _ q _ hq => w.freeA (q0 := 0) rfl q.1 hq), hS, w.2.2.2.2⟩
    refine W.widen (k := 1) (n := t) (by omega) (by omega) ?_
    refine lv_astore_n (lv' := [(3, .ref g), (4, .int (iI (zt - zf))), (0, .ref h), (1, .int (iI (zf))), (2, .int (iI (zt)))]) hx hb dX2_mergeSort_2_28 rfl hl (by decide) rfl (fun ls hl => ?_)
    exact merge_core (M_merge2 dd) (M := t) hzf hzt (zlen := zt - zf) (by omega) (by omega) htN (Nat.le_refl t) hN2 (by omega) hlen (fun k q1 q2 => (hp k q2).symm) (Nat.le_refl _) (Nat.le_refl _) (Nat.le_refl 1) (Nat.le_refl t) S (fun rpc x1 y1 H locs ls hd k1 k2 w => K rpc _ H locs ls _ _ 0 hd k1 w rfl) w (lv_sub hl [2, 3, 4, 0, 1] rfl)
  · skip
    refine lv_aload_n hx hb dX2_mergeSort_2_12 rfl (lv_at hl 1 rfl) ?_
    refine lv_iload_n hx hb dX2_mergeSort_2_13 rfl (lv_at hl 2 rfl) ?_
    refine lv_iload_n hx hb dX2_mergeSort_2_14 rfl (lv_at hl 3 rfl) ?_
    refine xa_callv (M_insertion (rm := {}) (f := f) (t := t) hzf hzt hft htN hN2) S (va_cwS 3 hts (lw_S q89 q90 q9 q91) rfl rfl rfl ⟨by decide, by decide, by decide⟩ ⟨by dsimp only; omega, by dsimp only; omega⟩) w 0 0 rfl rfl rfl hl.1 rfl (by decide) dX2_mergeSort_2_15 ⟨by omega, by omega⟩ (fun x1 H locs hs w => ?_)
    have w : xW D [(d, .long)] (LA h d s.heap.size N x) s [(h, La d N x1)] H locs := w
    refine W.widen (k := 1) (n := t) (by omega) (by omega) ?_
    exact K _ _ _ _ ls _ _ 0 dX2_mergeSort_2_18 hs w rfl
theorem M_merge {l : Launch} (dd : Nat) {D : va_G} {h : Nat} {d : ClassId} {sz N : Nat} {x : Nat → Int64} {zf zt : Int} {f t : Nat} (hzf : zf = f) (hzt : zt = t) (hft : f ≤ t) (htN : t ≤ N) (hN3 : N < 67108864) (hlen : t - f ≤ 15 * 2 ^ (dd + 1)) : Met l yX2_mergeSort (ws_ yX2_mergeSort cX2_mergeSort 3 none) ({ frames := dd + 3, locals := 28 * dd + 120, cells := 1, slots := t } : Room) (LPc D h d sz N x [.ref h, .int (iI zf), .int (iI zt)]) (va_Qv (Srt f t x) (LB D h d N) (LA h d sz N x)) 1 t (LA h d sz N x) := by
  refine xa_metv (by decide) (Nat.le_of_ble_eq_true rfl) ?_
  intro p e s m args below meth c Q ls hsz S w hl K
  obtain ⟨hx, hb, hml, hown, hts⟩ := id S
  have hl : lv_has ls 3 [(0, .ref h), (1, .int (iI zf)), (2, .int (iI zt))] := hl
  refine lv_aload_n hx hb dX2_mergeSort_0 rfl (lv_at hl 0 rfl) ?_
  refine lv_iload_n hx hb dX2_mergeSort_1 rfl (lv_at hl 1 rfl) ?_
  refine lv_iload_n hx hb dX2_mergeSort_2 rfl (lv_at hl 2 rfl) ?_
  refine lv_null hx hb dX2_mergeSort_3 ?_
  refine lv_castN hx hb dX2_mergeSort_4 ?_
  refine xa_callv (M_merge2N dd hzf hzt hft htN hN3 hlen) S (va_cwS 4 hts (lw_S q86 q87 q9 q88) rfl rfl rfl ⟨by decide, by decide, by decide⟩ ⟨by dsimp only; omega, by dsimp only; omega⟩) w 0 0 rfl rfl rfl hl.1 rfl (by decide) dX2_mergeSort_7 ⟨Nat.le_refl 1, by show 0 + t ≤ t; omega⟩ (fun u H locs hu w => ?_)
  refine W.widen (k := 1) (n := t) (by omega) (by omega) ?_
  exact K _ _ _ _ ls _ _ 0 dX2_mergeSort_10 hu w rfl
end
section
/-! the plain law of radixSort -/
/-- sums -/
def sm (g : Nat → Nat) : Nat → Nat
  | 0 => 0
  | n + 1 => sm g n + g n
theorem sm_s (g : Nat → Nat) (n : Nat) : sm g (n + 1) = sm g n + g n := rfl
theorem sm_mono (g : Nat → Nat) {a b : Nat} (h : a ≤ b) : sm g a ≤ sm g b := by
  induction b with
  | zero => obtain rfl : a = 0 := by omega
            omega
  | succ b ih =>
    by_cases hb : a = b + 1
    · subst hb; omega
    · have := ih (by omega); rw [sm_s]; omega
theorem sm_le (g : Nat → Nat) {k n : Nat} (h : k < n) : sm g k + g k ≤ sm g n := by
  have := sm_mono g (show k + 1 ≤ n by omega)
  rw [sm_s] at this; exact this
theorem sm_congr {g g2 : Nat → Nat} {n : Nat} (h : ∀ k, k < n → g k = g2 k) : sm g n = sm g2 n := by
  induction n with
  | zero => rfl
  | succ n ih => rw [sm_s, sm_s, ih (fun k hk => h k (by omega)), h n (by omega)]
theorem sm_zero {g : Nat → Nat} {n : Nat} (h : ∀ k, k < n → g k = 0) : sm g n = 0 := by
  induction n with
  | zero => rfl
  | succ n ih => rw [sm_s, ih (fun k hk => h k (by omega)), h n (by omega)]
theorem sm_zero_of {g : Nat → Nat} {n : Nat} (h : sm g n = 0) {k : Nat} (hk : k < n) : g k = 0 := by
  have := sm_le g hk; omega
theorem sm_add (g g2 : Nat → Nat) (n : Nat) : sm (fun k => g k + g2 k) n = sm g n + sm g2 n := by
  induction n with
  | zero => rfl
  | succ n ih => rw [sm_s, sm_s, sm_s, ih]; omega
theorem sm_upd_lo (g : Nat → Nat) {k n : Nat} (v : Nat) (h : n ≤ k) : sm (updN g k v) n = sm g n := sm_congr (fun j hj => updN_n (by omega))
theorem sm_upd (g : Nat → Nat) {k n : Nat} (v : Nat) (h : k < n) : sm (updN g k v) n + g k = sm g n + v := by
  induction n with
  | zero => omega
  | succ n ih =>
    rw [sm_s, sm_s]
    by_cases hk : k = n
    · subst hk; rw [sm_upd_lo g v (Nat.le_refl k), updN_s]; omega
    · have := ih (by omega); rw [updN_n (show n ≠ k by omega)]; omega
theorem sm_one {d n : Nat} (h : d < n) : sm (fun k => b2 (decide (d = k))) n = 1 := by
  induction n with
  | zero => omega
  | succ n ih =>
    rw [sm_s]
    by_cases hd : d = n
    · subst hd
      rw [sm_zero (fun k hk => b2_f (by simp; omega)), b2_t (by simp)]
    · rw [ih (by omega), b2_f (by simp; exact hd)]
/-- the key: the value, shifted to naturals -/
def uk (a : Int64) : Nat := (a.toInt + 9223372036854775808).toNat
theorem uk_int (a : Int64) : ((uk a : Nat) : Int) = a.toInt + 9223372036854775808 ∧ uk a < 18446744073709551616 := by
  have h1 := Int64.le_toInt a
  have h2 := Int64.toInt_lt a
  unfold uk
  omega
theorem uk_lt {a b : Int64} : uk a < uk b ↔ a < b := by
  rw [Int64.lt_iff_toInt_lt]
  have := uk_int a
  have := uk_int b
  omega
theorem uk_eq {a b : Int64} (h : uk a = uk b) : a = b := by
  apply Int64.toInt_inj.mp
  have := uk_int a
  have := uk_int b
  omega
/-- the digit of a level; the digits ahead of it -/
def dg (v : Nat) (a : Int64) : Nat := uk a / 256 ^ (7 - v) % 256
def pf (v : Nat) (a : Int64) : Nat := uk a / 256 ^ (8 - v)
theorem dg_lt (v : Nat) (a : Int64) : dg v a < 256 := Nat.mod_lt _ (by omega)
theorem pf_0 (a : Int64) : pf 0 a = 0 := by
  have := (uk_int a).2
  unfold pf
  exact Nat.div_eq_of_lt (Nat.lt_of_lt_of_le this (Nat.le_of_ble_eq_true rfl))
theorem pf_s {v : Nat} (hv : v ≤ 7) (a : Int64) : pf (v + 1) a = pf v a * 256 + dg v a := by
  unfold pf dg
  rw [show 8 - (v + 1) = 7 - v by omega, show 8 - v = (7 - v) + 1 by omega, Nat.pow_succ, ← Nat.div_div_eq_div_mul]
  omega
theorem pf_8 (a : Int64) : pf 8 a = uk a := by unfold pf; simp
theorem dg_step {v : Nat} (hv : v ≤ 7) {a b : Int64} (h : pf v a = pf v b) (hd : dg v a < dg v b) : a < b := by
  have e : pf (v + 1) a < pf (v + 1) b := by rw [pf_s hv, pf_s hv, h]; omega
  refine uk_lt.mp (Nat.lt_of_not_le (fun q => ?_))
  have := Nat.div_le_div_right (c := 256 ^ (8 - (v + 1))) q
  unfold pf at e
  omega
theorem dg_last {a b : Int64} (h : pf 7 a = pf 7 b) (hd : dg 7 a = dg 7 b) : a = b := by
  have e : pf 8 a = pf 8 b := by rw [pf_s (v := 7) (by omega), pf_s (v := 7) (by omega), h, hd]
  rw [pf_8, pf_8] at e
  exact uk_eq e
/-- how often each digit stands in [a, b) -/
def DC (v : Nat) (y : Nat → Int64) (a b : Nat) (C : Nat → Nat) : Prop := ∀ k, k < 256 → cnt (fun z => decide (dg v z = k)) y b = cnt (fun z => decide (dg v z = k)) y a + C k
theorem DC.init (v : Nat) (y : Nat → Int64) (b : Nat) {C : Nat → Nat} (h : ∀ k, k < 256 → C k = 0) : DC v y b b C := fun k hk => by rw [h k hk]; omega
theorem DC.down {v : Nat} {y : Nat → Int64} {a b : Nat} {C : Nat → Nat} (h : DC v y (a + 1) b C) : DC v y a b (updN C (dg v (y a)) (C (dg v (y a)) + 1)) := by
  intro k hk
  have e := h k hk
  rw [cnt_s] at e
  by_cases hd : dg v (y a) = k
  · rw [b2_t (by simp [hd])] at e
    subst hd
    rw [updN_s]; omega
  · rw [b2_f (by simp [hd])] at e
    rw [updN_n (fun q => hd q.symm)]; omega
theorem DC.perm {v : Nat} {y F : Nat → Int64} {a b : Nat} {C : Nat → Nat} (h : DC v y a b C) (hp : Pm a b y F) : DC v F a b C := fun k hk => by
  have := h k hk
  have := hp.1 (fun z => decide (dg v z = k))
  omega
theorem cnt_sm (v : Nat) (y : Nat → Int64) (n : Nat) : sm (fun k => cnt (fun z => decide (dg v z = k)) y n) 256 = n := by
  induction n with
  | zero => exact sm_zero (fun k _ => rfl)
  | succ n ih =>
    have e : sm (fun k => cnt (fun z => decide (dg v z = k)) y (n + 1)) 256 = sm (fun k => cnt (fun z => decide (dg v z = k)) y n + b2 (decide (dg v (y n) = k))) 256 := rfl
    rw [e, sm_add, ih, sm_one (dg_lt v (y n))]
theorem DC.total {v : Nat} {y : Nat → Int64} {a b : Nat} {C : Nat → Nat} (h : DC v y a b C) : a + sm C 256 = b := by
  have e1 := cnt_sm v y a
  have e2 := cnt_sm v y b
  have e3 : sm (fun k => cnt (fun z => decide (dg v z = k)) y b) 256 = sm (fun k => cnt (fun z => decide (dg v z = k)) y a + C k) 256 := sm_congr h
  rw [sm_add] at e3
  omega
theorem DC.pos {v : Nat} {y : Nat → Int64} {a b p : Nat} {C : Nat → Nat} (h : DC v y a b C) (h1 : a ≤ p) (h2 : p < b) : C (dg v (y p)) ≠ 0 := by
  have e := h (dg v (y p)) (dg_lt v (y p))
  have := cnt_pos (p := fun z => decide (dg v z = dg v (y p))) (x := y) h1 h2 (by simp)
  omega
/-- pos: what is placed -/
def PL (v i : Nat) (C : Nat → Nat) (P : Nat → Int) (F : Nat → Int64) : Prop := ∀ k, k < 256 → C k ≠ 0 → ∃ q : Nat, P k = (q : Int) ∧ i + sm C k ≤ q ∧ q ≤ i + sm C (k + 1) ∧ ∀ p, q ≤ p → p < i + sm C (k + 1) → dg v (F p) = k
def updZ (g : Nat → Int) (k : Nat) (v : Int) : Nat → Int := fun j => if j = k then v else g j
theorem updZ_s {g : Nat → Int} {k : Nat} {v : Int} : updZ g k v k = v := if_pos rfl
theorem updZ_n {g : Nat → Int} {k j : Nat} {v : Int} (h : j ≠ k) : updZ g k v j = g j := if_neg h
theorem PL.init {v i : Nat} {C : Nat → Nat} {P : Nat → Int} {F : Nat → Int64} (h : ∀ k, k < 256 → P k = ((i + sm C (k + 1) : Nat) : Int)) : PL v i C P F := fun k hk hc =>
  ⟨_, h k hk, by rw [sm_s]; omega, Nat.le_refl _, fun p q1 q2 => absurd q2 (by omega)⟩
/-- the cycle: F is the array with t at i -/
def RI (v i hi : Nat) (C : Nat → Nat) (P : Nat → Int) (y0 F : Nat → Int64) : Prop := Pm i hi y0 F ∧ PL v i C P F
/-- a bucket at i: digit c -/
def BK (v i c : Nat) (C : Nat → Nat) (F : Nat → Int64) : Prop := sm C c = 0 ∧ ∀ p, i ≤ p → p < i + C c → dg v (F p) = c
theorem RI.out {v i hi : Nat} {C : Nat → Nat} {P : Nat → Int} {y0 F : Nat → Int64} (h : RI v i hi C P y0 F) (hD : DC v y0 i hi C) (hi1 : i < hi) :
    C (dg v (F i)) ≠ 0 ∧ ∃ q : Nat, P (dg v (F i)) = (q : Int) ∧ i ≤ q ∧ q ≤ hi ∧ (q ≤ i + 1 → BK v i (dg v (F i)) C F) ∧ (i + 1 < q → RI v i hi C (updZ P (dg v (F i)) ((q : Int) - 1)) y0 (swp F i (q - 1))) := by
  obtain ⟨hp, hpl⟩ := h
  have hDF := hD.perm hp
  have htot := hDF.total
  have hc := hDF.pos (Nat.le_refl i) hi1
  have hcl := dg_lt v (F i)
  obtain ⟨c, hcd⟩ : ∃ c, c = dg v (F i) := ⟨_, rfl⟩
  rw [← hcd] at hc hcl ⊢
  obtain ⟨q, e1, e2, e3, e4⟩ := hpl c hcl hc
  have s1 := sm_s C c
  have s2 := sm_mono C (show c + 1 ≤ 256 by omega)
  -- the count
  have key : q ≤ i + sm C c → i + sm C c = i := by
    intro hq
    refine Classical.byContradiction fun hne => ?_
    have g1 := hDF c hcl
    have g2 := cnt_mono (fun z => decide (dg v z = c)) F (show i + 1 ≤ i + sm C c by omega)
    have g3 := cnt_all (p := fun z => decide (dg v z = c)) (x := F) (show i + sm C c ≤ i + sm C (c + 1) by omega) (fun p q1 q2 => by simpa using e4 p (by omega) q2)
    have g4 := cnt_mono (fun z => decide (dg v z = c)) F (show i + sm C (c + 1) ≤ hi by omega)
    rw [cnt_s, b2_t (by simp [hcd])] at g2
    omega
  refine ⟨hc, q, e1, by omega, by omega, fun hq => ?_, fun hq => ?_⟩
  · have h0 : sm C c = 0 := by
      by_cases h9 : q ≤ i + sm C c
      · have := key h9; omega
      · omega
    refine ⟨h0, fun p q1 q2 => ?_⟩
    by_cases hpi : p = i
    · rw [hpi]; exact hcd.symm
    · exact e4 p (by omega) (by omega)
  · have hS : i + sm C c ≤ q - 1 := by
      by_cases h9 : q ≤ i + sm C c
      · have := key h9; omega
      · omega
    refine ⟨hp.trans (Pm.swp F (Nat.le_refl i) hi1 (by omega) (by omega)), fun k hk hck => ?_⟩
    by_cases hkc : k = c
    · subst hkc
      refine ⟨q - 1, by rw [updZ_s]; omega, hS, by omega, fun p q1 q2 => ?_⟩
      by_cases hpd : p = q - 1
      · rw [hpd, swp_r]; exact hcd.symm
      · rw [swp_o F (by omega) hpd]; exact e4 p (by omega) q2
    · obtain ⟨r, f1, f2, f3, f4⟩ := hpl k hk hck
      refine ⟨r, by rw [updZ_n hkc]; exact f1, f2, f3, fun p q1 q2 => ?_⟩
      have hpi : p ≠ i := fun e => by
        have := f4 p q1 q2
        rw [e, ← hcd] at this
        exact hkc this.symm
      have hpd : p ≠ q - 1 := by
        rcases Nat.lt_or_gt_of_ne hkc with h9 | h9
        · have := sm_mono C (show k + 1 ≤ c by omega); omega
        · have := sm_mono C (show c + 1 ≤ k by omega); omega
      rw [swp_o F hpi hpd]; exact f4 p q1 q2
/-- the last bucket -/
theorem BK.last {v i hi L : Nat} {C : Nat → Nat} {F : Nat → Int64} (hD : DC v F i hi C) (hi1 : i < hi) (hL : C L = hi - i) (hL2 : L < 256) : dg v (F i) = L ∧ BK v i L C F := by
  have htot := hD.total
  have hz : ∀ k, k < 256 → k ≠ L → C k = 0 := fun k hk hne => by
    rcases Nat.lt_or_gt_of_ne hne with h9 | h9
    · have a1 := sm_le C h9; have a2 := sm_le C hL2; omega
    · have a1 := sm_le C h9; have a2 := sm_le C hk; omega
  refine ⟨Classical.byContradiction fun hne => hD.pos (Nat.le_refl i) hi1 (hz _ (dg_lt v (F i)) hne), sm_zero (fun k hk => hz k (by omega) (by omega)), fun p q1 q2 => ?_⟩
  exact Classical.byContradiction fun hne => hD.pos q1 (by omega) (hz _ (dg_lt v (F p)) hne)
/-- behind a bucket the digits are greater -/
theorem BK.rest {v i hi c : Nat} {C : Nat → Nat} {F : Nat → Int64} (h : BK v i c C F) (hD : DC v F i hi C) (hc : c < 256) : i + C c ≤ hi ∧ ∀ p, i + C c ≤ p → p < hi → c < dg v (F p) := by
  have htot := hD.total
  have s1 := sm_le C hc
  refine ⟨by omega, fun p q1 q2 => Nat.lt_of_not_le fun hle => ?_⟩
  rcases Nat.lt_or_eq_of_le hle with h9 | h9
  · exact hD.pos (show i ≤ p by omega) q2 (sm_zero_of h.1 h9)
  · have g1 := hD c hc
    have g3 := cnt_all (p := fun z => decide (dg v z = c)) (x := F) (show i ≤ i + C c by omega) (fun p q1 q2 => by simpa using h.2 p q1 q2)
    have g4 := cnt_pos (p := fun z => decide (dg v z = c)) (x := F) q1 q2 (by simpa using h9)
    omega
theorem DC.next {v i hi c : Nat} {C : Nat → Nat} {F G : Nat → Int64} (h : BK v i c C F) (hD : DC v F i hi C) (hc : c < 256) (hG : ∀ p, i + C c ≤ p → p < hi → G p = F p) : DC v G (i + C c) hi (updN C c 0) := by
  have hle := (h.rest hD hc).1
  intro k hk
  have e := hD k hk
  have e2 := cnt_agree (p := fun z => decide (dg v z = k)) hle hG
  by_cases hkc : k = c
  · subst hkc
    rw [updN_s]
    have g3 := cnt_all (p := fun z => decide (dg v z = k)) (x := F) (show i ≤ i + C k by omega) (fun p q1 q2 => by simpa using h.2 p q1 q2)
    omega
  · rw [updN_n hkc]
    have g3 := cnt_none (p := fun z => decide (dg v z = k)) (x := F) (show i ≤ i + C c by omega) (fun p q1 q2 => by rw [decide_eq_false_iff_not, h.2 p q1 q2]; exact fun q => hkc q.symm)
    omega
theorem PL.next {v i c : Nat} {C : Nat → Nat} {P P2 : Nat → Int} {F G : Nat → Int64} (h : PL v i C P F) (hb : BK v i c C F) (hc : c < 256) (hP : ∀ k, k ≠ c → P2 k = P k) (hG : ∀ p, i + C c ≤ p → G p = F p) : PL v (i + C c) (updN C c 0) P2 G := by
  intro k hk hck
  have hkc : k ≠ c := fun e => by rw [e, updN_s] at hck; exact hck rfl
  rw [updN_n hkc] at hck
  obtain ⟨q, e1, e2, e3, e4⟩ := h k hk hck
  have hlt : c < k := by
    rcases Nat.lt_or_gt_of_ne hkc with h9 | h9
    · exact absurd (sm_zero_of hb.1 h9) hck
    · exact h9
  have s1 := sm_upd C 0 hlt
  have s2 := sm_upd C 0 (show c < k + 1 by omega)
  have s3 := sm_le C hlt
  exact ⟨q, by rw [hP k hkc]; exact e1, by omega, by omega, fun p q1 q2 => by rw [hG p (by omega)]; exact e4 p q1 (by omega)⟩
/-- the stack of ranges that are yet to be sorted, from level V on; all lie in [f, e), in order -/
def Stk (f e sp : Nat) (O L V : Nat → Nat) (y : Nat → Int64) : Prop := (∀ j, j < sp → f + 1024 * j ≤ O j ∧ 1024 ≤ L j ∧ O j + L j ≤ e ∧ V j ≤ 7 ∧ ∀ p q, O j ≤ p → p < O j + L j → O j ≤ q → q < O j + L j → pf (V j) (y p) = pf (V j) (y q)) ∧ ∀ j k, j < k → k < sp → O j + L j ≤ O k
theorem Stk.bound {f e sp : Nat} {O L V : Nat → Nat} {y : Nat → Int64} (h : Stk f e sp O L V y) (hf : f ≤ e) : f + 1024 * sp ≤ e := by
  cases sp with
  | zero => omega
  | succ sp => have := h.1 sp (by omega); omega
theorem Stk.pop {f e sp : Nat} {O L V : Nat → Nat} {y : Nat → Int64} (h : Stk f e (sp + 1) O L V y) : Stk f (O sp) sp O L V y :=
  ⟨fun j hj => by have := h.1 j (by omega); exact ⟨this.1, this.2.1, h.2 j sp hj (by omega), this.2.2.2⟩, fun j k h1 h2 => h.2 j k h1 (by omega)⟩
theorem Stk.grow {f e e2 sp : Nat} {O L V : Nat → Nat} {y z : Nat → Int64} (h : Stk f e sp O L V y) (he : e ≤ e2) (hz : ∀ p, p < e → z p = y p) : Stk f e2 sp O L V z := by
  refine ⟨fun j hj => ?_, h.2⟩
  have g := h.1 j hj
  exact ⟨g.1, g.2.1, by omega, g.2.2.2.1, fun p q h1 h2 h3 h4 => by rw [hz p (by omega), hz q (by omega)]; exact g.2.2.2.2 p q h1 h2 h3 h4⟩
theorem Stk.push {f i sp n v : Nat} {O L V : Nat → Nat} {y : Nat → Int64} (h : Stk f i sp O L V y) (hf : f ≤ i) (hn : 1024 ≤ n) (hv : v ≤ 7) (hp : ∀ p q, i ≤ p → p < i + n → i ≤ q → q < i + n → pf v (y p) = pf v (y q)) : Stk f (i + n) (sp + 1) (updN O sp i) (updN L sp n) (updN V sp v) y := by
  have hb := h.bound hf
  refine ⟨fun j hj => ?_, fun j k h1 h2 => ?_⟩
  · by_cases hjs : j = sp
    · subst hjs
      rw [updN_s, updN_s, updN_s]
      exact ⟨by omega, hn, by omega, hv, hp⟩
    · rw [updN_n hjs, updN_n hjs, updN_n hjs]
      have g := h.1 j (by omega)
      exact ⟨g.1, g.2.1, by omega, g.2.2.2⟩
  · rw [updN_n (show j ≠ sp by omega), updN_n (show j ≠ sp by omega)]
    by_cases hks : k = sp
    · subst hks
      rw [updN_s]
      exact (h.1 j h1).2.2.1
    · rw [updN_n hks]; exact h.2 j k h1 (by omega)
/-- sorted, but for the ranges of the stack and [i, hi) -/
def SoX (f t sp : Nat) (O L : Nat → Nat) (i hi : Nat) (y : Nat → Int64) : Prop := ∀ p q, f ≤ p → p < q → q < t → (∀ j, j < sp → ¬ (O j ≤ p ∧ q < O j + L j)) → ¬ (i ≤ p ∧ q < hi) → y p ≤ y q
theorem SoX.pop {f t sp : Nat} {O L : Nat → Nat} {y : Nat → Int64} {a : Nat} (h : SoX f t (sp + 1) O L a a y) : SoX f t sp O L (O sp) (O sp + L sp) y := fun p q h1 h2 h3 h4 h5 => h p q h1 h2 h3 (fun j hj => by
  by_cases hjs : j = sp
  · rw [hjs]; exact h5
  · exact h4 j (by omega)) (by omega)
theorem SoX.perm {f t sp i hi : Nat} {O L V : Nat → Nat} {y F : Nat → Int64} (h : SoX f t sp O L i hi y) (hs : Stk f i sp O L V y) (hp : Pm i hi y F) (hfi : f ≤ i) (hht : hi ≤ t) : SoX f t sp O L i hi F := by
  intro p q h1 h2 h3 h4 h5
  by_cases hpi : p < i
  · rw [hp.2 p (Or.inl hpi)]
    by_cases hq : i ≤ q ∧ q < hi
    · exact hp.all (C := fun z => y p ≤ z) (fun r g1 g2 => h p r h1 (by omega) (by omega) (fun j hj => by have := (hs.1 j hj).2.2.1; omega) (by omega)) q hq.1 hq.2
    · rw [hp.2 q (by omega)]; exact h p q h1 h2 h3 h4 (by omega)
  · by_cases hph : p < hi
    · rw [hp.2 q (by omega)]
      exact hp.all (C := fun z => z ≤ y q) (fun r g1 g2 => h r q (by omega) (by omega) h3 (fun j hj => by have := (hs.1 j hj).2.2.1; omega) (by omega)) p (by omega) hph
    · rw [hp.2 p (by omega), hp.2 q (by omega)]; exact h p q h1 h2 h3 h4 (by omega)
theorem SoX.step {f t sp i i2 hi : Nat} {O L : Nat → Nat} {F : Nat → Int64} (h : SoX f t sp O L i hi F) (h1 : i ≤ i2) (h2 : i2 ≤ hi) (hb : So i i2 F) (hr : ∀ p q, i ≤ p → p < i2 → i2 ≤ q → q < hi → F p ≤ F q) : SoX f t sp O L i2 hi F := by
  intro p q g1 g2 g3 g4 g5
  by_cases hin : i ≤ p ∧ q < hi
  · by_cases hq : q < i2
    · exact hb p q hin.1 (by omega) hq
    · exact hr p q hin.1 (by omega) (by omega) hin.2
  · exact h p q g1 g2 g3 g4 hin
theorem SoX.push {f t sp i n hi : Nat} {O L : Nat → Nat} {F : Nat → Int64} (h : SoX f t sp O L i hi F) (h2 : i + n ≤ hi) (hr : ∀ p q, i ≤ p → p < i + n → i + n ≤ q → q < hi → F p ≤ F q) : SoX f t (sp + 1) (updN O sp i) (updN L sp n) (i + n) hi F := by
  intro p q g1 g2 g3 g4 g5
  have e := g4 sp (by omega)
  rw [updN_s, updN_s] at e
  by_cases hin : i ≤ p ∧ q < hi
  · exact hr p q hin.1 (by omega) (by omega) hin.2
  · exact h p q g1 g2 g3 (fun j hj => by have := g4 j (by omega); rw [updN_n (show j ≠ sp by omega), updN_n (show j ≠ sp by omega)] at this; exact this) hin
/-- the measure -/
def mu (L V : Nat → Nat) (sp : Nat) : Nat := sm (fun j => L j * (8 - V j)) sp
theorem mu_push (L V : Nat → Nat) (sp n v : Nat) : mu (updN L sp n) (updN V sp v) (sp + 1) = mu L V sp + n * (8 - v) := by
  unfold mu
  rw [sm_s, updN_s, updN_s, sm_congr (g2 := fun j => L j * (8 - V j)) (fun k hk => by rw [updN_n (show k ≠ sp by omega), updN_n (show k ≠ sp by omega)])]
/-- a pass, at i: the whole state -/
def RQ (f t sp : Nat) (x : Nat → Int64) (O L V : Nat → Nat) (v i hi : Nat) (C : Nat → Nat) (P : Nat → Int) (y : Nat → Int64) : Prop :=
  Pm f t x y ∧ Stk f i sp O L V y ∧ SoX f t sp O L i hi y ∧ DC v y i hi C ∧ PL v i C P y ∧ (∀ p q, i ≤ p → p < hi → i ≤ q → q < hi → pf v (y p) = pf v (y q)) ∧ f ≤ i ∧ i ≤ hi ∧ hi ≤ t ∧ v ≤ 7
/-- the bucket placed: what its parts give -/
theorem RQ.cell {f t sp v i hi c : Nat} {x : Nat → Int64} {O L V C : Nat → Nat} {P : Nat → Int} {y F : Nat → Int64} (h : RQ f t sp x O L V v i hi C P y) (hp : Pm i hi y F) (hb : BK v i c C F) (hc : c < 256) :
    RQ f t sp x O L V v i hi C P y ∧ Pm f t x F ∧ Stk f i sp O L V F ∧ SoX f t sp O L i hi F ∧ DC v F i hi C ∧ (∀ p q, i ≤ p → p < hi → i ≤ q → q < hi → pf v (F p) = pf v (F q)) ∧ i + C c ≤ hi ∧ ∀ p q, i ≤ p → p < i + C c → i + C c ≤ q → q < hi → F p < F q := by
  obtain ⟨h1, h2, h3, h4, h5, h6, h7, h8, h9, h10⟩ := id h
  have hD := h4.perm hp
  have hrest := hb.rest hD hc
  have hpf : ∀ p q, i ≤ p → p < hi → i ≤ q → q < hi → pf v (F p) = pf v (F q) := by
    intro p q g1 g2 g3 g4
    have e := hp.all (C := fun z => pf v z = pf v (y i)) (fun r a1 a2 => h6 r i a1 a2 (Nat.le_refl i) (by omega))
    rw [e p g1 g2, e q g3 g4]
  refine ⟨h, h1.trans (hp.wide h7 h8 h9), h2.grow (Nat.le_refl i) (fun p q => hp.2 p (Or.inl q)), h3.perm h2 hp h7 h9, hD, hpf, hrest.1, fun p q g1 g2 g3 g4 => ?_⟩
  refine dg_step h10 (hpf p q g1 (by omega) (by omega) g4) ?_
  rw [hb.2 p g1 g2]
  exact hrest.2 q g3 g4
/-- what is placed, but for the digit c -/
def PLx (v i c : Nat) (C : Nat → Nat) (P2 : Nat → Int) (F : Nat → Int64) : Prop := ∃ P1, PL v i C P1 F ∧ ∀ k, k ≠ c → P2 k = P1 k
/-- the bucket sorted: on to the next -/
theorem RQ.next {f t sp v i hi c : Nat} {x : Nat → Int64} {O L V C : Nat → Nat} {P P2 : Nat → Int} {y F G : Nat → Int64} (h : RQ f t sp x O L V v i hi C P y) (hp : Pm i hi y F) (hpl : PLx v i c C P2 F) (hb : BK v i c C F) (hc : c < 256) (hG : Srt i (i + C c) F G) :
    RQ f t sp x O L V v (i + C c) hi (updN C c 0) P2 G := by
  obtain ⟨P1, hpl, hP9⟩ := hpl
  obtain ⟨h0, g1, g2, g3, g4, g5, g6, g7⟩ := h.cell hp hb hc
  obtain ⟨h1, h2, h3, h4, h5, h6, h7, h8, h9, h10⟩ := h0
  have hGo : ∀ p, i + C c ≤ p → G p = F p := fun p q => hG.1.2 p (Or.inr q)
  have hPw : Pm i hi F G := hG.1.wide (Nat.le_refl i) (by omega) g6
  refine ⟨g1.trans (hPw.wide h7 h8 h9), g2.grow (by omega) (fun p q => hG.1.2 p (Or.inl q)), (g3.perm g2 hPw h7 h9).step (by omega) g6 hG.2 (fun p q a1 a2 a3 a4 => ?_), DC.next hb g4 hc (fun p q _ => hGo p q), PL.next hpl hb hc hP9 hGo, fun p q a1 a2 a3 a4 => ?_, by omega, g6, h9, h10⟩
  · rw [hGo q a3]
    exact hG.1.all (C := fun z => z ≤ F q) (fun r b1 b2 => Int64.le_of_lt (g7 r q b1 b2 a3 a4)) p a1 a2
  · rw [hGo p a1, hGo q a3]; exact g5 p q (by omega) a2 (by omega) a4
/-- the bucket needs no sorting -/
theorem RQ.plain {f t sp v i hi c : Nat} {x : Nat → Int64} {O L V C : Nat → Nat} {P : Nat → Int} {y F : Nat → Int64} (h : RQ f t sp x O L V v i hi C P y) (hp : Pm i hi y F) (hb : BK v i c C F) (hc : c < 256) (hs : 7 ≤ v ∨ C c ≤ 1) : Srt i (i + C c) F F := by
  rcases hs with hs | hs
  · obtain ⟨h0, g1, g2, g3, g4, g5, g6, g7⟩ := h.cell hp hb hc
    have hv : v = 7 := by have := h0.2.2.2.2.2.2.2.2.2; omega
    subst hv
    refine ⟨Pm.refl _ _ _, fun p q a1 a2 a3 => ?_⟩
    rw [dg_last (g5 p q a1 (by omega) (by omega) (by omega)) (by rw [hb.2 p a1 (by omega), hb.2 q (by omega) a3])]
    exact Int64.le_refl _
  · exact Srt.tiny (by omega)
/-- the bucket laid on the stack -/
theorem RQ.push {f t sp v i hi c : Nat} {x : Nat → Int64} {O L V C : Nat → Nat} {P P2 : Nat → Int} {y F : Nat → Int64} (h : RQ f t sp x O L V v i hi C P y) (hp : Pm i hi y F) (hpl : PLx v i c C P2 F) (hb : BK v i c C F) (hc : c < 256) (hv : v < 7) (hn : 1024 ≤ C c) :
    RQ f t (sp + 1) x (updN O sp i) (updN L sp (C c)) (updN V sp (v + 1)) v (i + C c) hi (updN C c 0) P2 F := by
  obtain ⟨P1, hpl, hP9⟩ := hpl
  obtain ⟨h0, g1, g2, g3, g4, g5, g6, g7⟩ := h.cell hp hb hc
  obtain ⟨h1, h2, h3, h4, h5, h6, h7, h8, h9, h10⟩ := h0
  refine ⟨g1, g2.push h7 hn (by omega) (fun p q a1 a2 a3 a4 => ?_), g3.push g6 (fun p q a1 a2 a3 a4 => Int64.le_of_lt (g7 p q a1 a2 a3 a4)), DC.next hb g4 hc (fun _ _ _ => rfl), PL.next hpl hb hc hP9 (fun _ _ => rfl), fun p q a1 a2 a3 a4 => g5 p q (by omega) a2 (by omega) a4, by omega, g6, h9, h10⟩
  rw [pf_s h10, pf_s h10, g5 p q a1 (by omega) a3 (by omega), hb.2 p a1 a2, hb.2 q a3 a4]
/-- the loop over the stack: its state -/
def RO (f t sp : Nat) (x : Nat → Int64) (O L V : Nat → Nat) (C : Nat → Nat) (y : Nat → Int64) : Prop := Pm f t x y ∧ Stk f t sp O L V y ∧ SoX f t sp O L 0 0 y ∧ (∀ k, k < 256 → C k = 0) ∧ f ≤ t
theorem RO.fin {f t : Nat} {x : Nat → Int64} {O L V : Nat → Nat} {C : Nat → Nat} {y : Nat → Int64} (h : RO f t 0 x O L V C y) : Srt f t x y := ⟨h.1, fun p q h1 h2 h3 => by
  by_cases hpq : p = q
  · rw [hpq]; exact Int64.le_refl _
  · exact h.2.2.1 p q h1 (by omega) h3 (fun j hj => absurd hj (by omega)) (by omega)⟩
theorem RO.init {f t : Nat} {x : Nat → Int64} {C : Nat → Nat} {O L V : Nat → Nat} (hft : f + 1024 ≤ t) (hC : ∀ k, k < 256 → C k = 0) (hO : O 0 = f) (hL : L 0 = t - f) (hV : V 0 = 0) : RO f t 1 x O L V C x := by
  refine ⟨Pm.refl f t x, ⟨fun j hj => ?_, fun j k h1 h2 => absurd h1 (by omega)⟩, fun p q h1 h2 h3 h4 h5 => absurd (h4 0 (by omega)) (by omega), hC, by omega⟩
  obtain rfl : j = 0 := by omega
  rw [hO, hL, hV]
  exact ⟨by omega, by omega, by omega, by omega, fun p q _ _ _ _ => by rw [pf_0, pf_0]⟩
/-- a pass begins -/
theorem RO.pass {f t sp : Nat} {x : Nat → Int64} {O L V : Nat → Nat} {C0 C : Nat → Nat} {P : Nat → Int} {y : Nat → Int64} (h : RO f t (sp + 1) x O L V C0 y) (hD : DC (V sp) y (O sp) (O sp + L sp) C) (hP : ∀ k, k < 256 → P k = ((O sp + sm C (k + 1) : Nat) : Int)) : RQ f t sp x O L V (V sp) (O sp) (O sp + L sp) C P y := by
  obtain ⟨h1, h2, h3, h4, h5⟩ := h
  have g := h2.1 sp (by omega)
  exact ⟨h1, h2.pop, h3.pop, hD, PL.init hP, g.2.2.2.2, by omega, by omega, g.2.2.1, g.2.2.2.1⟩
/-- a pass ends -/
theorem RQ.done {f t sp v hi : Nat} {x : Nat → Int64} {O L V C : Nat → Nat} {P : Nat → Int} {y : Nat → Int64} (h : RQ f t sp x O L V v hi hi C P y) (hft : f ≤ t) : RO f t sp x O L V C y := by
  obtain ⟨h1, h2, h3, h4, h5, h6, h7, h8, h9, h10⟩ := h
  have := h4.total
  exact ⟨h1, h2.grow h9 (fun _ _ => rfl), fun p q a1 a2 a3 a4 a5 => h3 p q a1 a2 a3 a4 (by omega), fun k hk => sm_zero_of (show sm C 256 = 0 by omega) hk, hft⟩
theorem mu_pop (L V : Nat → Nat) (sp : Nat) : mu L V (sp + 1) = mu L V sp + L sp * (8 - V sp) := rfl
theorem sm_tail {g : Nat → Nat} {a b : Nat} (hab : a ≤ b) (h : ∀ k, a ≤ k → k < b → g k = 0) : sm g b = sm g a := by
  induction b with
  | zero => obtain rfl : a = 0 := by omega
            rfl
  | succ b ih =>
    by_cases hb : a = b + 1
    · rw [hb]
    · rw [sm_s, ih (by omega) (fun k h1 h2 => h k h1 (by omega)), h b (by omega) (by omega), Nat.add_zero]
/-- the last digit that is used -/
def LU (C : Nat → Nat) (Lu cl i hi : Nat) : Prop := i < hi → C Lu = cl ∧ ∀ k, Lu < k → k < 256 → C k = 0
theorem LU.next {v i hi Lu cl c : Nat} {C : Nat → Nat} {F : Nat → Int64} (h : LU C Lu cl i hi) (hLu : Lu < 256) (hi1 : i < hi) (hD : DC v F i hi C) (hb : BK v i c C F) : LU (updN C c 0) Lu cl (i + C c) hi := by
  intro hlt
  obtain ⟨h1, h2⟩ := h hi1
  have htot := hD.total
  have hne : Lu ≠ c := fun e => by
    subst e
    have e2 := sm_tail (g := C) (a := Lu + 1) (b := 256) (by omega) (fun k q1 q2 => h2 k (by omega) q2)
    have e3 := sm_s C Lu
    have e4 := hb.1
    omega
  refine ⟨by rw [updN_n hne]; exact h1, fun k q1 q2 => ?_⟩
  by_cases hkc : k = c
  · rw [hkc, updN_s]
  · rw [updN_n hkc]; exact h2 k q1 q2
theorem LU.le {v i hi Lu cl : Nat} {C : Nat → Nat} {F : Nat → Int64} (h : LU C Lu cl i hi) (hLu : Lu < 256) (hi1 : i < hi) (hD : DC v F i hi C) : i + cl ≤ hi := by
  have htot := hD.total
  have := (h hi1).1
  have := sm_le C hLu
  omega
def LK (C : Nat → Nat) (k : Nat) (zL : Int) : Prop := (zL = -1 ∧ ∀ j, j < k → C j = 0) ∨ ∃ Lu : Nat, zL = (Lu : Int) ∧ Lu < k ∧ C Lu ≠ 0 ∧ ∀ j, Lu < j → j < k → C j = 0
theorem LK.zero {C : Nat → Nat} {k : Nat} {zL : Int} (h : LK C k zL) (hk : C k = 0) : LK C (k + 1) zL := by
  rcases h with ⟨h1, h2⟩ | ⟨Lu, h1, h2, h3, h4⟩
  · refine Or.inl ⟨h1, fun j hj => ?_⟩
    by_cases e : j = k
    · rw [e]; exact hk
    · exact h2 j (by omega)
  · refine Or.inr ⟨Lu, h1, by omega, h3, fun j q1 q2 => ?_⟩
    by_cases e : j = k
    · rw [e]; exact hk
    · exact h4 j q1 (by omega)
theorem LK.some {C : Nat → Nat} {k : Nat} (hk : C k ≠ 0) : LK C (k + 1) (k : Int) := Or.inr ⟨k, rfl, by omega, hk, fun j q1 q2 => absurd q2 (by omega)⟩
theorem LK.fin {C : Nat → Nat} {zL : Int} (h : LK C 256 zL) (hs : sm C 256 ≠ 0) : ∃ Lu : Nat, zL = (Lu : Int) ∧ Lu < 256 ∧ C Lu ≠ 0 ∧ ∀ j, Lu < j → j < 256 → C j = 0 := by
  rcases h with ⟨-, h2⟩ | h
  · exact absurd (sm_zero h2) hs
  · exact h
/-- one step of the cycle -/
theorem cyc_eq (y : Nat → Int64) {i d : Nat} (t : Int64) (h : d ≠ i) : vp_updL (vp_updL y d t) i (y d) = swp (vp_updL y i t) i d := by
  funext k
  rw [swp_at, pk_uLs, pk_uLn h]
  by_cases h1 : k = d
  · subst h1
    rw [if_pos rfl, pk_uLn h, pk_uLs]
  · rw [if_neg h1]
    by_cases h2 : k = i
    · rw [if_pos h2, h2, pk_uLs]
    · rw [if_neg h2, pk_uLn h2, pk_uLn h1, pk_uLn h2]
theorem sm_updZ {P : Nat → Int} {c q : Nat} (hc : c < 256) (hq : P c = (q : Int)) (h0 : 0 < q) : sm (fun k => (updZ P c ((q : Int) - 1) k).toNat) 256 < sm (fun k => (P k).toNat) 256 := by
  have e : (fun k => (updZ P c ((q : Int) - 1) k).toNat) = updN (fun k => (P k).toNat) c (q - 1) := by
    funext k
    by_cases h : k = c
    · subst h
      rw [updZ_s, updN_s]; omega
    · rw [updZ_n h, updN_n h]
  rw [e]
  have := sm_upd (fun k => (P k).toNat) (q - 1) hc
  have h2 : (P c).toNat = q := by rw [hq]; omega
  omega
theorem mu_left {m hi i n K M : Nat} (h : m + (hi - i) * K ≤ M) (hn : i + n ≤ hi) : m + n * K + (hi - (i + n)) * K ≤ M := by
  have e : (hi - i) * K = n * K + (hi - (i + n)) * K := by rw [← Nat.add_mul]; congr 1; omega
  omega
end
section
/-! longs as unsigned numbers (uN: rows of the kit's BITS), the digit as the code computes it, int arrays with whole contents -/
def uN (x : Int64) : Nat := x.toUInt64.toNat
theorem uN_lt (x : Int64) : uN x < 18446744073709551616 := x.toUInt64.toNat_lt
theorem uN_inj {x y : Int64} (h : uN x = uN y) : x = y := congrArg UInt64.toInt64 (UInt64.toNat_inj.mp h)
theorem uN_shr (x : Int64) (s : UInt64) : uN (x.toUInt64 >>> s).toInt64 = uN x / 2 ^ (s.toNat % 64) := by
  show (x.toUInt64 >>> s).toNat = _
  rw [UInt64.toNat_shiftRight, Nat.shiftRight_eq_div_pow]
  rfl
theorem uN_255 (x : Int64) : uN (x &&& 255) = uN x % 256 := by
  show (x.toUInt64 &&& Int64.toUInt64 255).toNat = _
  rw [UInt64.toNat_and]
  exact Nat.and_two_pow_sub_one_eq_mod _ 8
theorem uN_xo (x y : Int64) : uN (x ^^^ y) = uN x ^^^ uN y := UInt64.toNat_xor _ _
theorem uN_int (x : Int64) : x.toInt = if 2 * uN x < 18446744073709551616 then (uN x : Int) else (uN x : Int) - 18446744073709551616 := BitVec.toInt_eq_toNat_cond _
theorem uN_l2i {x : Int64} {n : Nat} (h : uN x = n) (hn : n < 2147483648) : x.toInt32 = iI (n : Int) := by
  have e : x.toInt = (n : Int) := by rw [uN_int, h, if_pos (by omega)]
  rw [← Int32.toInt_inj, iI_toInt (by unfold iR; omega), Int64.toInt_toInt32, e, Int.bmod_def]
  split <;> omega
theorem x128 : ∀ w, w < 256 → w ^^^ 128 = (w + 128) % 256 := by decide +kernel
theorem dg_code {v : Nat} (hv : v ≤ 7) (a : Int64) {zsh zsm : Int} (hsh : zsh = (7 - (v : Int)) * 8) (hsm : zsm = if v = 0 then 128 else 0) : (((a.toUInt64 >>> ((iI zsh).toInt64.toUInt64 &&& Int64.toUInt64 63)).toInt64 &&& 255) ^^^ (iI zsm).toInt64).toInt32 = iI (dg v a : Int) := by
  refine uN_l2i ?_ (by have := dg_lt v a; omega)
  rw [uN_xo, uN_255, uN_shr]
  have hu := uN_lt a
  have hi := uN_int a
  have hk := uk_int a
  have z0 : uN (iI 0).toInt64 = 0 := by decide
  rcases (show v = 0 ∨ v = 1 ∨ v = 2 ∨ v = 3 ∨ v = 4 ∨ v = 5 ∨ v = 6 ∨ v = 7 by omega) with rfl | rfl | rfl | rfl | rfl | rfl | rfl | rfl
  · obtain rfl : zsh = 56 := by omega
    obtain rfl : zsm = 128 := by simpa using hsm
    rw [show ((iI 56).toInt64.toUInt64 &&& Int64.toUInt64 63).toNat % 64 = 56 from by decide, show uN (iI 128).toInt64 = 128 from by decide, x128 _ (Nat.mod_lt _ (by omega))]
    show _ = uk a / 72057594037927936 % 256
    have e : (2 : Nat) ^ 56 = 72057594037927936 := rfl
    rw [e]
    split at hi <;> omega
  all_goals (obtain rfl : zsm = 0 := by simpa using hsm)
  · obtain rfl : zsh = 48 := by omega
    rw [show ((iI 48).toInt64.toUInt64 &&& Int64.toUInt64 63).toNat % 64 = 48 from by decide, z0, Nat.xor_zero]
    show _ = uk a / 281474976710656 % 256
    have e : (2 : Nat) ^ 48 = 281474976710656 := rfl
    rw [e]
    split at hi <;> omega
  · obtain rfl : zsh = 40 := by omega
    rw [show ((iI 40).toInt64.toUInt64 &&& Int64.toUInt64 63).toNat % 64 = 40 from by decide, z0, Nat.xor_zero]
    show _ = uk a / 1099511627776 % 256
    have e : (2 : Nat) ^ 40 = 1099511627776 := rfl
    rw [e]
    split at hi <;> omega
  · obtain rfl : zsh = 32 := by omega
    rw [show ((iI 32).toInt64.toUInt64 &&& Int64.toUInt64 63).toNat % 64 = 32 from by decide, z0, Nat.xor_zero]
    show _ = uk a / 4294967296 % 256
    have e : (2 : Nat) ^ 32 = 4294967296 := rfl
    rw [e]
    split at hi <;> omega
  · obtain rfl : zsh = 24 := by omega
    rw [show ((iI 24).toInt64.toUInt64 &&& Int64.toUInt64 63).toNat % 64 = 24 from by decide, z0, Nat.xor_zero]
    show _ = uk a / 16777216 % 256
    have e : (2 : Nat) ^ 24 = 16777216 := rfl
    rw [e]
    split at hi <;> omega
  · obtain rfl : zsh = 16 := by omega
    rw [show ((iI 16).toInt64.toUInt64 &&& Int64.toUInt64 63).toNat % 64 = 16 from by decide, z0, Nat.xor_zero]
    show _ = uk a / 65536 % 256
    have e : (2 : Nat) ^ 16 = 65536 := rfl
    rw [e]
    split at hi <;> omega
  · obtain rfl : zsh = 8 := by omega
    rw [show ((iI 8).toInt64.toUInt64 &&& Int64.toUInt64 63).toNat % 64 = 8 from by decide, z0, Nat.xor_zero]
    show _ = uk a / 256 % 256
    have e : (2 : Nat) ^ 8 = 256 := rfl
    rw [e]
    split at hi <;> omega
  · obtain rfl : zsh = 0 := by omega
    rw [show ((iI 0).toInt64.toUInt64 &&& Int64.toUInt64 63).toNat % 64 = 0 from by decide, z0, Nat.xor_zero]
    show _ = uk a / 1 % 256
    have e : (2 : Nat) ^ 0 = 1 := rfl
    rw [e]
    split at hi <;> omega
/-- an array of ints with whole contents -/
abbrev Lz (d : ClassId) (N : Nat) (g : Nat → Int) : va_E := Li d N (fun k => iI (g k))
theorem updZ_iI (g : Nat → Int) (k : Nat) (v : Int) : upd (fun j => iI (g j)) k (iI v) = fun j => iI (updZ g k v j) := by
  funext j
  by_cases h : j = k
  · simp [upd, updZ, h]
  · simp [upd, updZ, h]
section XZ
variable {p : Program} {l : Launch} {e : Env} {R : Room} {s : State} {m : MethodId} {args : Array Value} {below : List Frame} {meth : Method} {c : Code} {H : Heap} {locs : List Loc} {cells slots : Nat} {Q : State → Prop}
variable {cc : ByteArray} {pc : Nat} {ls : Array Slot} {rest : List Value}
variable {D : va_G} {tys : List (ClassId × FieldType)} {A : Nat → Prop} {ws : va_W} {a : Nat}
theorem xz_iald (hexec : p.tables.exec = Jvm.exec) (hb : c.code = cc) (w : xW D tys A s ws H locs) (q0 t0 : Nat) {d : ClassId} {N : Nat} {g : Nat → Int} (ha : ws[q0]? = some (a, Lz d N g)) (ht : tys[t0]? = some (d, .int)) {z : Int} (k : Nat) (hz : z = (k : Int)) (hk : k < N) (hN : N < 2147483648) (hdg : decode cc pc = .ok (.iaload, 1))
    (kk : W p l e R s m args below meth c H locs cells slots Q (F0 m (pc + 1) ls (.int (iI (g k)) :: rest))) : W p l e R s m args below meth c H locs cells slots Q (F0 m pc ls (.int (iI z) :: .ref a :: rest)) :=
  xa_iald hexec hb w q0 t0 ha ht k hz hk hN hdg kk
theorem xz_iast (hexec : p.tables.exec = Jvm.exec) (hb : c.code = cc) (w : xW D tys A s ws H locs) (q0 t0 : Nat) {d : ClassId} {N : Nat} {g : Nat → Int} (ha : ws[q0]? = some (a, Lz d N g)) (ht : tys[t0]? = some (d, .int)) {z zv : Int} (k : Nat) (hz : z = (k : Int)) (hk : k < N) (hN : N < 2147483648) (hdg : decode cc pc = .ok (.iastore, 1))
    (kk : ∀ (H1 : Heap) (locs1 : List Loc), xW D tys A s (ws.set q0 (a, Lz d N (updZ g k zv))) H1 locs1 → W p l e R s m args below meth c H1 locs1 cells slots Q (F0 m (pc + 1) ls rest)) : W p l e R s m args below meth c H locs cells slots Q (F0 m pc ls (.int (iI zv) :: .int (iI z) :: .ref a :: rest)) := by
  refine xa_iast hexec hb w q0 t0 ha ht k hz hk hN hdg ?_
  rw [updZ_iI]
  exact kk
end XZ
end
section
/-! radixSort -/
set_option maxRecDepth 100000
set_option maxHeartbeats 1000000
theorem rx_cycle {p : Program} {l : Launch} {e : Env} {R : Room} {s : State} {m : MethodId} {args : Array Value} {below : List Frame} {meth : Method} {c : Code} {cells slots : Nat} {Q : State → Prop} {D : va_G} {A : Nat → Prop} {h g1 g2 g3 g4 g5 : Nat} {d c1 c2 c3 c4 c5 : ClassId} {N : Nat} {v i hi : Nat} {O L V C : Nat → Nat} {y0 : Nat → Int64} {zsp zlev zsm zsh zend zi : Int} (S : CallFix p m c cX2_radixSort 23 s args lw_all "LongArrays") (hv : v ≤ 7) (hsh : zsh = (7 - (v : Int)) * 8) (hsm : zsm = if v = 0 then 128 else 0) (hzi : zi = i) (hi1 : i < hi) (hhN : hi ≤ N) (hN : N < 2147483648) (hD : DC v y0 i hi C) (K : ∀ (F : Nat → Int64) (P : Nat → Int) (zc : Int) (ch : Nat) (H : Heap) (locs : List Loc) (ls : Array Slot), zc = ch → ch < 256 → C ch ≠ 0 → Pm i hi y0 F → PLx v i ch C P F → BK v i ch C F → xW D [(d, .long), (c1, .int), (c2, .int), (c3, .int), (c4, .int), (c5, .int)] A s [(h, La d N F), (g1, Ln c1 1786 O), (g2, Ln c2 1786 L), (g3, Ln c3 1786 V), (g4, Ln c4 256 C), (g5, Lz c5 256 P)] H locs → lv_has ls 23 [(0, .ref h), (3, .int (iI (zsp))), (4, .ref g1), (5, .ref g2), (6, .ref g3), (7, .ref g4), (8, .ref g5), (11, .int (iI (zlev))), (12, .int (iI (zsm))), (13, .int (iI (zsh))), (15, .int (iI (zend))), (16, .int (iI (zi))), (17, .int (iI (zc)))] → W p l e R s m args below meth c H locs cells slots Q (F0 m 338 ls [])) :
    ∀ (r : Nat) (y : Nat → Int64) (t : Int64) (P : Nat → Int) (zc : Int) (H : Heap) (locs : List Loc) (ls : Array Slot), sm (fun k => (P k).toNat) 256 = r → RI v i hi C P y0 (vp_updL y i t) → zc = (dg v t : Int) → xW D [(d, .long), (c1, .int), (c2, .int), (c3, .int), (c4, .int), (c5, .int)] A s [(h, La d N y), (g1, Ln c1 1786 O), (g2, Ln c2 1786 L), (g3, Ln c3 1786 V), (g4, Ln c4 256 C), (g5, Lz c5 256 P)] H locs → lv_has ls 23 [(0, .ref h), (3, .int (iI (zsp))), (4, .ref g1), (5, .ref g2), (6, .ref g3), (7, .ref g4), (8, .ref g5), (11, .int (iI (zlev))), (12, .int (iI (zsm))), (13, .int (iI (zsh))), (15, .int (iI (zend))), (16, .int (iI (zi))), (17, .int (iI (zc))), (19, .long (t))] → W p l e R s m args below meth c H locs cells slots Q (F0 m 279 ls []) := by
  obtain ⟨hx, hb, hml, hown, hts⟩ := id S
  intro r
  induction r using Nat.strongRecOn with
  | _ r ih =>
  intro y t P zc H locs ls hr hI hzc w hl
  obtain ⟨hc0, q, hq, hq1, hq2, hex, hst⟩ := hI.out hD hi1
  rw [pk_uLs] at hc0 hq hex hst
  have hcl := dg_lt v t
  refine lv_aload hx hb dX2_radixSort_279 (lv_at hl 6 rfl) ?_
  refine lv_iload hx hb dX2_radixSort_281 (lv_at hl 12 rfl) ?_
  refine lv_dup2_11 hx hb dX2_radixSort_283 rfl rfl ?_
  refine xz_iald hx hb w 5 5 rfl rfl ((dg v t)) (by omega) (by omega) (Nat.le_of_ble_eq_true rfl) dX2_radixSort_284 ?_
  refine xi_iconst hx hb dX2_radixSort_285 ?_
  refine xi_isub hx hb dX2_radixSort_286 ?_
  refine lv_dup_x2 hx hb dX2_radixSort_287 rfl rfl rfl ?_
  refine xz_iast hx hb w 5 5 rfl rfl ((dg v t)) (by omega) (by omega) (Nat.le_of_ble_eq_true rfl) dX2_radixSort_288 (fun H locs w => ?_)
  obtain ⟨P1, eP1⟩ : ∃ y9, y9 = updZ P ((dg v t)) ((P ((dg v t))) - 1) := ⟨_, rfl⟩
  have w : xW D [(d, .long), (c1, .int), (c2, .int), (c3, .int), (c4, .int), (c5, .int)] A s [(h, La d N y), (g1, Ln c1 1786 O), (g2, Ln c2 1786 L), (g3, Ln c3 1786 V), (g4, Ln c4 256 C), (g5, Lz c5 256 P1)] H locs := by rw [eP1]; exact w
  refine lv_dup hx hb dX2_radixSort_289 rfl ?_
  refine lv_istore (lv' := [(18, .int (iI ((P ((dg v t))) - 1))), (0, .ref h), (3, .int (iI (zsp))), (4, .ref g1), (5, .ref g2), (6, .ref g3), (7, .ref g4), (8, .ref g5), (11, .int (iI (zlev))), (12, .int (iI (zsm))), (13, .int (iI (zsh))), (15, .int (iI (zend))), (16, .int (iI (zi))), (17, .int (iI (zc))), (19, .long (t))]) hx hb dX2_radixSort_290 hl (by decide) rfl (fun ls hl => ?_)
  refine lv_iload hx hb dX2_radixSort_292 (lv_at hl 12 rfl) ?_
  refine xi_icmp_le hx hb dX2_radixSort_294 (tgt := 332) (by decide) (by unfold iR; omega) (by unfold iR; omega) (fun h294 => ?_) (fun h294 => ?_)
  · skip
    refine lv_aload_n hx hb dX2_radixSort_332 rfl (lv_at hl 1 rfl) ?_
    refine lv_iload hx hb dX2_radixSort_333 (lv_at hl 12 rfl) ?_
    refine lv_lload hx hb dX2_radixSort_335 (lv_at hl 14 rfl) ?_
    refine xa_last hx hb w 0 0 rfl rfl i (by omega) (by omega) hN dX2_radixSort_337 (fun H locs w => ?_)
    obtain ⟨y1, ey1⟩ : ∃ y9, y9 = vp_updL y i (t) := ⟨_, rfl⟩
    have w : xW D [(d, .long), (c1, .int), (c2, .int), (c3, .int), (c4, .int), (c5, .int)] A s [(h, La d N y1), (g1, Ln c1 1786 O), (g2, Ln c2 1786 L), (g3, Ln c3 1786 V), (g4, Ln c4 256 C), (g5, Lz c5 256 P1)] H locs := by rw [ey1]; exact w
    exact K y1 P1 _ (dg v t) H locs ls hzc hcl hc0 (by rw [ey1]; exact hI.1) ⟨P, by rw [ey1]; exact hI.2, fun k hk => by rw [eP1, updZ_n hk]⟩ (by rw [ey1]; exact hex (by omega)) w (lv_sub hl [1, 2, 3, 4, 5, 6, 7, 8, 9, 10, 11, 12, 13] rfl)
  · skip
    refine lv_lload hx hb dX2_radixSort_297 (lv_at hl 14 rfl) ?_
    refine lv_lstore (lv' := [(21, .long (t)), (18, .int (iI ((P ((dg v t))) - 1))), (0, .ref h), (3, .int (iI (zsp))), (4, .ref g1), (5, .ref g2), (6, .ref g3), (7, .ref g4), (8, .ref g5), (11, .int (iI (zlev))), (12, .int (iI (zsm))), (13, .int (iI (zsh))), (15, .int (iI (zend))), (16, .int (iI (zi))), (17, .int (iI (zc))), (19, .long (t))]) hx hb dX2_radixSort_299 hl (by decide) rfl (fun ls hl => ?_)
    refine lv_aload_n hx hb dX2_radixSort_301 rfl (lv_at hl 2 rfl) ?_
    refine lv_iload hx hb dX2_radixSort_302 (lv_at hl 1 rfl) ?_
    refine xa_lald hx hb w 0 0 rfl rfl ((q - 1)) (by omega) (by omega) hN dX2_radixSort_304 ?_
    refine lv_lstore (lv' := [(19, .long (y ((q - 1)))), (21, .long (t)), (18, .int (iI ((P ((dg v t))) - 1))), (0, .ref h), (3, .int (iI (zsp))), (4, .ref g1), (5, .ref g2), (6, .ref g3), (7, .ref g4), (8, .ref g5), (11, .int (iI (zlev))), (12, .int (iI (zsm))), (13, .int (iI (zsh))), (15, .int (iI (zend))), (16, .int (iI (zi))), (17, .int (iI (zc)))]) hx hb dX2_radixSort_305 hl (by decide) rfl (fun ls hl => ?_)
    refine lv_aload_n hx hb dX2_radixSort_307 rfl (lv_at hl 3 rfl) ?_
    refine lv_iload hx hb dX2_radixSort_308 (lv_at hl 2 rfl) ?_
    refine lv_lload hx hb dX2_radixSort_310 (lv_at hl 1 rfl) ?_
    refine xa_last hx hb w 0 0 rfl rfl ((q - 1)) (by omega) (by omega) hN dX2_radixSort_312 (fun H locs w => ?_)
    obtain ⟨y1, ey1⟩ : ∃ y9, y9 = vp_updL y ((q - 1)) (t) := ⟨_, rfl⟩
    have w : xW D [(d, .long), (c1, .int), (c2, .int), (c3, .int), (c4, .int), (c5, .int)] A s [(h, La d N y1), (g1, Ln c1 1786 O), (g2, Ln c2 1786 L), (g3, Ln c3 1786 V), (g4, Ln c4 256 C), (g5, Lz c5 256 P1)] H locs := by rw [ey1]; exact w
    refine lv_lload hx hb dX2_radixSort_313 (lv_at hl 0 rfl) ?_
    refine lv_iload hx hb dX2_radixSort_315 (lv_at hl 12 rfl) ?_
    refine lv_lushr hx hb dX2_radixSort_317 rfl ?_
    refine lv_ldc2 hx hb hown (hts _ q114) dX2_radixSort_318 ?_
    refine lv_land hx hb dX2_radixSort_321 ?_
    refine lv_iload hx hb dX2_radixSort_322 (lv_at hl 11 rfl) ?_
    refine lv_i2l hx hb dX2_radixSort_324 rfl ?_
    refine lv_lxor hx hb dX2_radixSort_325 ?_
    refine lv_l2i hx hb dX2_radixSort_326 rfl ?_
    refine xi_topr ((dg v ((y (q - 1))) : Int)) (dg_code hv _ hsh hsm) ?_
    refine lv_istore (lv' := [(17, .int (iI ((dg v ((y (q - 1))) : Int)))), (19, .long (y ((q - 1)))), (21, .long (t)), (18, .int (iI ((P ((dg v t))) - 1))), (0, .ref h), (3, .int (iI (zsp))), (4, .ref g1), (5, .ref g2), (6, .ref g3), (7, .ref g4), (8, .ref g5), (11, .int (iI (zlev))), (12, .int (iI (zsm))), (13, .int (iI (zsh))), (15, .int (iI (zend))), (16, .int (iI (zi)))]) hx hb dX2_radixSort_327 hl (by decide) rfl (fun ls hl => ?_)
    refine lv_goto (tgt := 279) hx hb dX2_radixSort_329 (by decide) ?_
    refine ih _ ?_ y1 (y (q - 1)) P1 _ H locs ls rfl ?_ rfl w (lv_sub hl [4, 5, 6, 7, 8, 9, 10, 11, 12, 13, 14, 15, 0, 1] rfl)
    · rw [← hr, eP1, hq]; exact sm_updZ hcl hq (by omega)
    · rw [ey1, cyc_eq y t (by omega), eP1, hq]; exact hst (by omega)
theorem rx_loop {p : Program} {l : Launch} {e : Env} {R : Room} {s : State} {m : MethodId} {args : Array Value} {below : List Frame} {meth : Method} {c : Code} {cells slots : Nat} {Q : State → Prop} {D : va_G} {A : Nat → Prop} {h g1 g2 g3 g4 g5 : Nat} {d c1 c2 c3 c4 c5 : ClassId} {N : Nat} {f t v hi Lu cl Mu : Nat} {x : Nat → Int64} {zlev zsm zsh zend : Int} (S : CallFix p m c cX2_radixSort 23 s args lw_all "LongArrays") (hv : v ≤ 7) (hsh : zsh = (7 - (v : Int)) * 8) (hsm : zsm = if v = 0 then 128 else 0) (hzlev : zlev = v) (hzend : zend = (hi : Int) - cl) (hcl : 1 ≤ cl) (hch : cl ≤ hi) (hLu : Lu < 256) (htN : t ≤ N) (hN2 : N < 1048576) (hRf : 508 ≤ R.frames) (hRl : 16747 ≤ R.locals) (hRc : cells ≤ R.cells) (hRs : slots ≤ R.slots) (K : ∀ (sp : Nat) (O L V C : Nat → Nat) (P : Nat → Int) (y : Nat → Int64) (zsp : Int) (H : Heap) (locs : List Loc) (ls : Array Slot), zsp = sp → RQ f t sp x O L V v hi hi C P y → mu L V sp ≤ Mu → xW D [(d, .long), (c1, .int), (c2, .int), (c3, .int), (c4, .int), (c5, .int)] A s [(h, La d N y), (g1, Ln c1 1786 O), (g2, Ln c2 1786 L), (g3, Ln c3 1786 V), (g4, Ln c4 256 C), (g5, Lz c5 256 P)] H locs → lv_has ls 23 [(0, .ref h), (3, .int (iI (zsp))), (4, .ref g1), (5, .ref g2), (6, .ref g3), (7, .ref g4), (8, .ref g5)] → W p l e R s m args below meth c H locs cells slots Q (F0 m 427 ls [])) :
    ∀ (r i sp : Nat) (O L V C : Nat → Nat) (P : Nat → Int) (y : Nat → Int64) (zsp zi : Int) (H : Heap) (locs : List Loc) (ls : Array Slot), hi - i = r → zsp = sp → zi = i → RQ f t sp x O L V v i hi C P y → LU C Lu cl i hi → mu L V sp + (hi - i) * (7 - v) ≤ Mu → xW D [(d, .long), (c1, .int), (c2, .int), (c3, .int), (c4, .int), (c5, .int)] A s [(h, La d N y), (g1, Ln c1 1786 O), (g2, Ln c2 1786 L), (g3, Ln c3 1786 V), (g4, Ln c4 256 C), (g5, Lz c5 256 P)] H locs → lv_has ls 23 [(0, .ref h), (3, .int (iI (zsp))), (4, .ref g1), (5, .ref g2), (6, .ref g3), (7, .ref g4), (8, .ref g5), (11, .int (iI (zlev))), (12, .int (iI (zsm))), (13, .int (iI (zsh))), (15, .int (iI (zend))), (16, .int (iI (zi)))] → W p l e R s m args below meth c H locs cells slots Q (F0 m 243 ls []) := by
  obtain ⟨hx, hb, hml, hown, hts⟩ := id S
  have hN : N < 2147483648 := by omega
  intro r
  induction r using Nat.strongRecOn with
  | _ r ih =>
  intro i sp O L V C P y zsp zi H locs ls hr hzsp hzi hQ hU hmu w hl
  obtain ⟨hq1, hq2, hq3, hq4, hq5, hq6, hq7, hq8, hq9, -⟩ := id hQ
  have htot := hq4.total
  by_cases hdone : hi ≤ i
  · skip
    refine lv_iload hx hb dX2_radixSort_243 (lv_at hl 11 rfl) ?_
    refine lv_iload hx hb dX2_radixSort_245 (lv_at hl 10 rfl) ?_
    refine xi_icmp_gt hx hb dX2_radixSort_247 (tgt := 427) (by decide) (by unfold iR; omega) (by unfold iR; omega) (fun h247 => ?_) (fun h247 => ?_)
    · skip
      obtain rfl : i = hi := by omega
      exact K sp O L V C P y _ H locs ls hzsp hQ (by omega) w (lv_sub hl [0, 1, 2, 3, 4, 5, 6] rfl)
    · skip
      exfalso; omega
  · have hle := hU.le hLu (by omega) hq4
    have hsp := hq2.bound hq7
    have tail : ∀ (F : Nat → Int64) (P : Nat → Int) (zc : Int) (ch : Nat) (H : Heap) (locs : List Loc) (ls : Array Slot), zc = ch → ch < 256 → C ch ≠ 0 → Pm i hi y F → PLx v i ch C P F → BK v i ch C F → xW D [(d, .long), (c1, .int), (c2, .int), (c3, .int), (c4, .int), (c5, .int)] A s [(h, La d N F), (g1, Ln c1 1786 O), (g2, Ln c2 1786 L), (g3, Ln c3 1786 V), (g4, Ln c4 256 C), (g5, Lz c5 256 P)] H locs → lv_has ls 23 [(0, .ref h), (3, .int (iI (zsp))), (4, .ref g1), (5, .ref g2), (6, .ref g3), (7, .ref g4), (8, .ref g5), (11, .int (iI (zlev))), (12, .int (iI (zsm))), (13, .int (iI (zsh))), (15, .int (iI (zend))), (16, .int (iI (zi))), (17, .int (iI (zc)))] → W p l e R s m args below meth c H locs cells slots Q (F0 m 338 ls []) := by
      intro F P zc ch H locs ls hzc hch hc0 hF hPx hB w hl
      have hrs := (hB.rest (hq4.perm hF) hch).1
      have next : ∀ (sp2 : Nat) (O2 L2 V2 : Nat → Nat) (G : Nat → Int64) (zsp : Int) (H : Heap) (locs : List Loc) (ls : Array Slot), zsp = sp2 → RQ f t sp2 x O2 L2 V2 v (i + C ch) hi (updN C ch 0) P G → mu L2 V2 sp2 + (hi - (i + C ch)) * (7 - v) ≤ Mu → xW D [(d, .long), (c1, .int), (c2, .int), (c3, .int), (c4, .int), (c5, .int)] A s [(h, La d N G), (g1, Ln c1 1786 O2), (g2, Ln c2 1786 L2), (g3, Ln c3 1786 V2), (g4, Ln c4 256 C), (g5, Lz c5 256 P)] H locs → lv_has ls 23 [(0, .ref h), (3, .int (iI (zsp))), (4, .ref g1), (5, .ref g2), (6, .ref g3), (7, .ref g4), (8, .ref g5), (11, .int (iI (zlev))), (12, .int (iI (zsm))), (13, .int (iI (zsh))), (15, .int (iI (zend))), (16, .int (iI (zi))), (17, .int (iI (zc)))] → W p l e R s m args below meth c H locs cells slots Q (F0 m 408 ls []) := by
        intro sp2 O2 L2 V2 G zsp H locs ls hzsp hQ2 hmu2 w hl
        refine lv_iload hx hb dX2_radixSort_408 (lv_at hl 11 rfl) ?_
        refine lv_aload hx hb dX2_radixSort_410 (lv_at hl 5 rfl) ?_
        refine lv_iload hx hb dX2_radixSort_412 (lv_at hl 12 rfl) ?_
        refine xn_iald hx hb w 4 4 rfl rfl ch (by omega) (by omega) (Nat.le_of_ble_eq_true rfl) dX2_radixSort_414 ?_
        refine xi_iadd hx hb dX2_radixSort_415 ?_
        refine lv_istore (lv' := [(16, .int (iI (zi + ((C ch : Int))))), (0, .ref h), (3, .int (iI (zsp))), (4, .ref g1), (5, .ref g2), (6, .ref g3), (7, .ref g4), (8, .ref g5), (11, .int (iI (zlev))), (12, .int (iI (zsm))), (13, .int (iI (zsh))), (15, .int (iI (zend))), (17, .int (iI (zc)))]) hx hb dX2_radixSort_416 hl (by decide) rfl (fun ls hl => ?_)
        refine lv_aload hx hb dX2_radixSort_418 (lv_at hl 6 rfl) ?_
        refine lv_iload hx hb dX2_radixSort_420 (lv_at hl 12 rfl) ?_
        refine xi_iconst hx hb dX2_radixSort_422 ?_
        refine xn_iast hx hb w 4 4 rfl rfl ch (by omega) 0 (by omega) (by omega) (Nat.le_of_ble_eq_true rfl) dX2_radixSort_423 (fun H locs w => ?_)
        have w : xW D [(d, .long), (c1, .int), (c2, .int), (c3, .int), (c4, .int), (c5, .int)] A s [(h, La d N G), (g1, Ln c1 1786 O2), (g2, Ln c2 1786 L2), (g3, Ln c3 1786 V2), (g4, Ln c4 256 (updN C ch 0)), (g5, Lz c5 256 P)] H locs := w
        refine lv_goto (tgt := 243) hx hb dX2_radixSort_424 (by decide) ?_
        exact ih (hi - (i + C ch)) (by omega) (i + C ch) sp2 O2 L2 V2 (updN C ch 0) P G _ _ H locs ls rfl hzsp (by omega) hQ2 (hU.next hLu (by omega) (hq4.perm hF) hB) hmu2 w (lv_sub hl [1, 2, 3, 4, 5, 6, 7, 8, 9, 10, 11, 0] rfl)
      refine lv_iload hx hb dX2_radixSort_338 (lv_at hl 7 rfl) ?_
      refine xi_bipush hx hb dX2_radixSort_340 (by decide) ?_
      refine xi_icmp_ge hx hb dX2_radixSort_342 (tgt := 408) (by decide) (by unfold iR; omega) (by unfold iR; omega) (fun h342 => ?_) (fun h342 => ?_)
      · skip
        exact next sp O L V F _ H locs ls hzsp (hQ.next hF hPx hB hch (hQ.plain hF hB hch (Or.inl (by omega)))) (by have := mu_left hmu hrs; omega) w (lv_sub hl [0, 1, 2, 3, 4, 5, 6, 7, 8, 9, 10, 11, 12] rfl)
      · skip
        refine lv_aload hx hb dX2_radixSort_345 (lv_at hl 5 rfl) ?_
        refine lv_iload hx hb dX2_radixSort_347 (lv_at hl 12 rfl) ?_
        refine xn_iald hx hb w 4 4 rfl rfl ch (by omega) (by omega) (Nat.le_of_ble_eq_true rfl) dX2_radixSort_349 ?_
        refine xi_iconst hx hb dX2_radixSort_350 ?_
        refine xi_icmp_le hx hb dX2_radixSort_351 (tgt := 408) (by decide) (by unfold iR; omega) (by unfold iR; omega) (fun h351 => ?_) (fun h351 => ?_)
        · skip
          exact next sp O L V F _ H locs ls hzsp (hQ.next hF hPx hB hch (hQ.plain hF hB hch (Or.inr (by omega)))) (by have := mu_left hmu hrs; omega) w (lv_sub hl [0, 1, 2, 3, 4, 5, 6, 7, 8, 9, 10, 11, 12] rfl)
        · skip
          refine lv_aload hx hb dX2_radixSort_354 (lv_at hl 5 rfl) ?_
          refine lv_iload hx hb dX2_radixSort_356 (lv_at hl 12 rfl) ?_
          refine xn_iald hx hb w 4 4 rfl rfl ch (by omega) (by omega) (Nat.le_of_ble_eq_true rfl) dX2_radixSort_358 ?_
          refine xi_sipush hx hb dX2_radixSort_359 (by decide) ?_
          refine xi_icmp_ge hx hb dX2_radixSort_362 (tgt := 382) (by decide) (by unfold iR; omega) (by unfold iR; omega) (fun h362 => ?_) (fun h362 => ?_)
          · skip
            refine lv_aload hx hb dX2_radixSort_382 (lv_at hl 2 rfl) ?_
            refine lv_iload_n hx hb dX2_radixSort_384 rfl (lv_at hl 1 rfl) ?_
            refine lv_iload hx hb dX2_radixSort_385 (lv_at hl 11 rfl) ?_
            refine xn_iast hx hb w 1 1 rfl rfl sp (by omega) i (by omega) (by omega) (Nat.le_of_ble_eq_true rfl) dX2_radixSort_387 (fun H locs w => ?_)
            have w : xW D [(d, .long), (c1, .int), (c2, .int), (c3, .int), (c4, .int), (c5, .int)] A s [(h, La d N F), (g1, Ln c1 1786 (updN O sp i)), (g2, Ln c2 1786 L), (g3, Ln c3 1786 V), (g4, Ln c4 256 C), (g5, Lz c5 256 P)] H locs := w
            refine lv_aload hx hb dX2_radixSort_388 (lv_at hl 3 rfl) ?_
            refine lv_iload_n hx hb dX2_radixSort_390 rfl (lv_at hl 1 rfl) ?_
            refine lv_aload hx hb dX2_radixSort_391 (lv_at hl 5 rfl) ?_
            refine lv_iload hx hb dX2_radixSort_393 (lv_at hl 12 rfl) ?_
            refine xn_iald hx hb w 4 4 rfl rfl ch (by omega) (by omega) (Nat.le_of_ble_eq_true rfl) dX2_radixSort_395 ?_
            refine xn_iast hx hb w 2 2 rfl rfl sp (by omega) ((C ch)) (by omega) (by omega) (Nat.le_of_ble_eq_true rfl) dX2_radixSort_396 (fun H locs w => ?_)
            have w : xW D [(d, .long), (c1, .int), (c2, .int), (c3, .int), (c4, .int), (c5, .int)] A s [(h, La d N F), (g1, Ln c1 1786 (updN O sp i)), (g2, Ln c2 1786 (updN L sp ((C ch)))), (g3, Ln c3 1786 V), (g4, Ln c4 256 C), (g5, Lz c5 256 P)] H locs := w
            refine lv_aload hx hb dX2_radixSort_397 (lv_at hl 4 rfl) ?_
            refine lv_iload_n hx hb dX2_radixSort_399 rfl (lv_at hl 1 rfl) ?_
            refine lv_iinc (v := iI (zsp + 1)) (lv' := [(3, .int (iI (zsp + 1))), (0, .ref h), (4, .ref g1), (5, .ref g2), (6, .ref g3), (7, .ref g4), (8, .ref g5), (11, .int (iI (zlev))), (12, .int (iI (zsm))), (13, .int (iI (zsh))), (15, .int (iI (zend))), (16, .int (iI (zi))), (17, .int (iI (zc)))]) hx hb dX2_radixSort_400 hl (k := 1) rfl (xi_inc (by omega)) (by decide) rfl (fun ls hl => ?_)
            refine lv_iload hx hb dX2_radixSort_403 (lv_at hl 7 rfl) ?_
            refine xi_iconst hx hb dX2_radixSort_405 ?_
            refine xi_iadd hx hb dX2_radixSort_406 ?_
            refine xn_iast hx hb w 3 3 rfl rfl sp (by omega) ((v + 1)) (by omega) (by omega) (Nat.le_of_ble_eq_true rfl) dX2_radixSort_407 (fun H locs w => ?_)
            have w : xW D [(d, .long), (c1, .int), (c2, .int), (c3, .int), (c4, .int), (c5, .int)] A s [(h, La d N F), (g1, Ln c1 1786 (updN O sp i)), (g2, Ln c2 1786 (updN L sp ((C ch)))), (g3, Ln c3 1786 (updN V sp ((v + 1)))), (g4, Ln c4 256 C), (g5, Lz c5 256 P)] H locs := w
            exact next (sp + 1) _ _ _ F _ H locs ls (by omega) (hQ.push hF hPx hB hch (by omega) (by omega)) (by rw [mu_push, show 8 - (v + 1) = 7 - v by omega]; exact mu_left hmu hrs) w (lv_sub hl [1, 0, 2, 3, 4, 5, 6, 7, 8, 9, 10, 11, 12] rfl)
          · skip
            refine lv_aload_n hx hb dX2_radixSort_365 rfl (lv_at hl 0 rfl) ?_
            refine lv_iload hx hb dX2_radixSort_366 (lv_at hl 11 rfl) ?_
            refine lv_iload hx hb dX2_radixSort_368 (lv_at hl 11 rfl) ?_
            refine lv_aload hx hb dX2_radixSort_370 (lv_at hl 5 rfl) ?_
            refine lv_iload hx hb dX2_radixSort_372 (lv_at hl 12 rfl) ?_
            refine xn_iald hx hb w 4 4 rfl rfl ch (by omega) (by omega) (Nat.le_of_ble_eq_true rfl) dX2_radixSort_374 ?_
            refine xi_iadd hx hb dX2_radixSort_375 ?_
            refine xa_callv (M_quick 505 (f := i) (t := i + C ch) (by omega) (by omega) (by omega) (by omega) (by omega) (by omega)) S (va_cwS 3 hts (lw_S q77 q57 q9 q58) rfl rfl rfl ⟨by decide, by decide, by decide⟩ ⟨by dsimp only; omega, by dsimp only; omega⟩) w 0 0 rfl rfl rfl hl.1 rfl (by decide) dX2_radixSort_376 ⟨by omega, by omega⟩ (fun G H locs hG w => ?_)
            have w : xW D [(d, .long), (c1, .int), (c2, .int), (c3, .int), (c4, .int), (c5, .int)] A s [(h, La d N G), (g1, Ln c1 1786 O), (g2, Ln c2 1786 L), (g3, Ln c3 1786 V), (g4, Ln c4 256 C), (g5, Lz c5 256 P)] H locs := w
            refine lv_goto (tgt := 408) hx hb dX2_radixSort_379 (by decide) ?_
            exact next sp O L V G _ H locs ls hzsp (hQ.next hF hPx hB hch (hG)) (by have := mu_left hmu hrs; omega) w (lv_sub hl [0, 1, 2, 3, 4, 5, 6, 7, 8, 9, 10, 11, 12] rfl)
    refine lv_iload hx hb dX2_radixSort_243 (lv_at hl 11 rfl) ?_
    refine lv_iload hx hb dX2_radixSort_245 (lv_at hl 10 rfl) ?_
    refine xi_icmp_gt hx hb dX2_radixSort_247 (tgt := 427) (by decide) (by unfold iR; omega) (by unfold iR; omega) (fun h247 => ?_) (fun h247 => ?_)
    · skip
      exfalso; omega
    · skip
      refine lv_aload_n hx hb dX2_radixSort_250 rfl (lv_at hl 0 rfl) ?_
      refine lv_iload hx hb dX2_radixSort_251 (lv_at hl 11 rfl) ?_
      refine xa_lald hx hb w 0 0 rfl rfl i (by omega) (by omega) hN dX2_radixSort_253 ?_
      refine lv_lstore (lv' := [(19, .long (y i)), (0, .ref h), (3, .int (iI (zsp))), (4, .ref g1), (5, .ref g2), (6, .ref g3), (7, .ref g4), (8, .ref g5), (11, .int (iI (zlev))), (12, .int (iI (zsm))), (13, .int (iI (zsh))), (15, .int (iI (zend))), (16, .int (iI (zi)))]) hx hb dX2_radixSort_254 hl (by decide) rfl (fun ls hl => ?_)
      refine lv_lload hx hb dX2_radixSort_256 (lv_at hl 0 rfl) ?_
      refine lv_iload hx hb dX2_radixSort_258 (lv_at hl 10 rfl) ?_
      refine lv_lushr hx hb dX2_radixSort_260 rfl ?_
      refine lv_ldc2 hx hb hown (hts _ q114) dX2_radixSort_261 ?_
      refine lv_land hx hb dX2_radixSort_264 ?_
      refine lv_iload hx hb dX2_radixSort_265 (lv_at hl 9 rfl) ?_
      refine lv_i2l hx hb dX2_radixSort_267 rfl ?_
      refine lv_lxor hx hb dX2_radixSort_268 ?_
      refine lv_l2i hx hb dX2_radixSort_269 rfl ?_
      refine xi_topr ((dg v ((y i)) : Int)) (dg_code hv _ hsh hsm) ?_
      refine lv_istore (lv' := [(17, .int (iI ((dg v ((y i)) : Int)))), (19, .long (y i)), (0, .ref h), (3, .int (iI (zsp))), (4, .ref g1), (5, .ref g2), (6, .ref g3), (7, .ref g4), (8, .ref g5), (11, .int (iI (zlev))), (12, .int (iI (zsm))), (13, .int (iI (zsh))), (15, .int (iI (zend))), (16, .int (iI (zi)))]) hx hb dX2_radixSort_270 hl (by decide) rfl (fun ls hl => ?_)
      refine lv_iload hx hb dX2_radixSort_272 (lv_at hl 13 rfl) ?_
      refine lv_iload hx hb dX2_radixSort_274 (lv_at hl 12 rfl) ?_
      refine xi_icmp_ge hx hb dX2_radixSort_276 (tgt := 338) (by decide) (by unfold iR; omega) (by unfold iR; omega) (fun h276 => ?_) (fun h276 => ?_)
      · skip
        have hcu : C Lu = hi - i := by have := (hU (by omega)).1; omega
        obtain ⟨hdg, hB⟩ := BK.last hq4 (by omega) hcu hLu
        exact tail y P _ Lu H locs ls (by rw [hdg]) hLu (by omega) (Pm.refl _ _ _) ⟨P, hq5, fun _ _ => rfl⟩ hB w (lv_sub hl [2, 3, 4, 5, 6, 7, 8, 9, 10, 11, 12, 13, 0] rfl)
      · skip
        exact rx_cycle S hv hsh hsm hzi (by omega) (by omega) hN hq4 tail _ y (y i) P _ H locs ls rfl ⟨by rw [updL_self]; exact Pm.refl _ _ _, by rw [updL_self]; exact hq5⟩ rfl w (lv_sub hl [2, 3, 4, 5, 6, 7, 8, 9, 10, 11, 12, 13, 0, 1] rfl)
theorem rx_last {p : Program} {l : Launch} {e : Env} {R : Room} {s : State} {m : MethodId} {args : Array Value} {below : List Frame} {meth : Method} {c : Code} {cells slots : Nat} {Q : State → Prop} {D : va_G} {A : Nat → Prop} {h g1 g2 g3 g4 g5 : Nat} {d c1 c2 c3 c4 c5 : ClassId} {N : Nat} {fi : Nat} {O L V C : Nat → Nat} {y : Nat → Int64} {zsp zfi zln zlev zsm zsh : Int} (S : CallFix p m c cX2_radixSort 23 s args lw_all "LongArrays") (hN : N < 2147483648) (hs0 : sm C 256 ≠ 0) (hs1 : fi + sm C 256 ≤ N) (K : ∀ (P : Nat → Int) (Lu : Nat) (zL : Int) (H : Heap) (locs : List Loc) (ls : Array Slot), zL = Lu → Lu < 256 → C Lu ≠ 0 → (∀ j, Lu < j → j < 256 → C j = 0) → (∀ j, j < 256 → P j = ((fi + sm C (j + 1) : Nat) : Int)) → xW D [(d, .long), (c1, .int), (c2, .int), (c3, .int), (c4, .int), (c5, .int)] A s [(h, La d N y), (g1, Ln c1 1786 O), (g2, Ln c2 1786 L), (g3, Ln c3 1786 V), (g4, Ln c4 256 C), (g5, Lz c5 256 P)] H locs → lv_has ls 23 [(0, .ref h), (3, .int (iI (zsp))), (4, .ref g1), (5, .ref g2), (6, .ref g3), (7, .ref g4), (8, .ref g5), (9, .int (iI (zfi))), (10, .int (iI (zln))), (11, .int (iI (zlev))), (12, .int (iI (zsm))), (13, .int (iI (zsh))), (14, .int (iI (zL)))] → W p l e R s m args below meth c H locs cells slots Q (F0 m 223 ls [])) :
    ∀ (r k : Nat) (P : Nat → Int) (zL zk zp : Int) (H : Heap) (locs : List Loc) (ls : Array Slot), k + r = 256 → zk = k → zp = ((fi + sm C k : Nat) : Int) → LK C k zL → (∀ j, j < k → P j = ((fi + sm C (j + 1) : Nat) : Int)) → xW D [(d, .long), (c1, .int), (c2, .int), (c3, .int), (c4, .int), (c5, .int)] A s [(h, La d N y), (g1, Ln c1 1786 O), (g2, Ln c2 1786 L), (g3, Ln c3 1786 V), (g4, Ln c4 256 C), (g5, Lz c5 256 P)] H locs → lv_has ls 23 [(0, .ref h), (3, .int (iI (zsp))), (4, .ref g1), (5, .ref g2), (6, .ref g3), (7, .ref g4), (8, .ref g5), (9, .int (iI (zfi))), (10, .int (iI (zln))), (11, .int (iI (zlev))), (12, .int (iI (zsm))), (13, .int (iI (zsh))), (14, .int (iI (zL))), (15, .int (iI (zk))), (16, .int (iI (zp)))] → W p l e R s m args below meth c H locs cells slots Q (F0 m 181 ls []) := by
  obtain ⟨hx, hb, hml, hown, hts⟩ := id S
  intro r
  induction r with
  | zero =>
    intro k P zL zk zp H locs ls hr hzk hzp hL hP w hl
    obtain rfl : k = 256 := by omega
    obtain ⟨Lu, e1, e2, e3, e4⟩ := hL.fin hs0
    refine lv_iload hx hb dX2_radixSort_181 (lv_at hl 13 rfl) ?_
    refine xi_sipush hx hb dX2_radixSort_183 (by decide) ?_
    refine xi_icmp_ge hx hb dX2_radixSort_186 (tgt := 223) (by decide) (by unfold iR; omega) (by unfold iR; omega) (fun h186 => ?_) (fun h186 => ?_)
    · skip
      exact K P Lu _ H locs ls e1 e2 e3 e4 hP w (lv_sub hl [0, 1, 2, 3, 4, 5, 6, 7, 8, 9, 10, 11, 12] rfl)
    · skip
      exfalso; omega
  | succ r ih =>
    intro k P zL zk zp H locs ls hr hzk hzp hL hP w hl
    have hsk := sm_s C k
    have hsm2 := sm_mono C (show k + 1 ≤ 256 by omega)
    have mid : ∀ (zL : Int) (ls : Array Slot), LK C (k + 1) zL → lv_has ls 23 [(0, .ref h), (3, .int (iI (zsp))), (4, .ref g1), (5, .ref g2), (6, .ref g3), (7, .ref g4), (8, .ref g5), (9, .int (iI (zfi))), (10, .int (iI (zln))), (11, .int (iI (zlev))), (12, .int (iI (zsm))), (13, .int (iI (zsh))), (14, .int (iI (zL))), (15, .int (iI (zk))), (16, .int (iI (zp)))] → W p l e R s m args below meth c H locs cells slots Q (F0 m 201 ls []) := by
      intro zL ls hL hl
      refine lv_aload hx hb dX2_radixSort_201 (lv_at hl 6 rfl) ?_
      refine lv_iload hx hb dX2_radixSort_203 (lv_at hl 13 rfl) ?_
      refine lv_iload hx hb dX2_radixSort_205 (lv_at hl 14 rfl) ?_
      refine lv_aload hx hb dX2_radixSort_207 (lv_at hl 5 rfl) ?_
      refine lv_iload hx hb dX2_radixSort_209 (lv_at hl 13 rfl) ?_
      refine xn_iald hx hb w 4 4 rfl rfl k (by omega) (by omega) (Nat.le_of_ble_eq_true rfl) dX2_radixSort_211 ?_
      refine xi_iadd hx hb dX2_radixSort_212 ?_
      refine lv_dup hx hb dX2_radixSort_213 rfl ?_
      refine lv_istore (lv' := [(16, .int (iI (zp + ((C k : Int))))), (0, .ref h), (3, .int (iI (zsp))), (4, .ref g1), (5, .ref g2), (6, .ref g3), (7, .ref g4), (8, .ref g5), (9, .int (iI (zfi))), (10, .int (iI (zln))), (11, .int (iI (zlev))), (12, .int (iI (zsm))), (13, .int (iI (zsh))), (14, .int (iI (zL))), (15, .int (iI (zk)))]) hx hb dX2_radixSort_214 hl (by decide) rfl (fun ls hl => ?_)
      refine xz_iast hx hb w 5 5 rfl rfl k (by omega) (by omega) (Nat.le_of_ble_eq_true rfl) dX2_radixSort_216 (fun H locs w => ?_)
      obtain ⟨P1, eP1⟩ : ∃ y9, y9 = updZ P k (zp + ((C k : Int))) := ⟨_, rfl⟩
      have w : xW D [(d, .long), (c1, .int), (c2, .int), (c3, .int), (c4, .int), (c5, .int)] A s [(h, La d N y), (g1, Ln c1 1786 O), (g2, Ln c2 1786 L), (g3, Ln c3 1786 V), (g4, Ln c4 256 C), (g5, Lz c5 256 P1)] H locs := by rw [eP1]; exact w
      refine lv_iinc (v := iI (zk + 1)) (lv' := [(15, .int (iI (zk + 1))), (16, .int (iI (zp + ((C k : Int))))), (0, .ref h), (3, .int (iI (zsp))), (4, .ref g1), (5, .ref g2), (6, .ref g3), (7, .ref g4), (8, .ref g5), (9, .int (iI (zfi))), (10, .int (iI (zln))), (11, .int (iI (zlev))), (12, .int (iI (zsm))), (13, .int (iI (zsh))), (14, .int (iI (zL)))]) hx hb dX2_radixSort_217 hl (k := 14) rfl (xi_inc (by omega)) (by decide) rfl (fun ls hl => ?_)
      refine lv_goto (tgt := 181) hx hb dX2_radixSort_220 (by decide) ?_
      refine ih (k + 1) P1 _ _ _ H locs ls (by omega) (by omega) (by omega) hL (fun j hj => ?_) w (lv_sub hl [2, 3, 4, 5, 6, 7, 8, 9, 10, 11, 12, 13, 14, 0, 1] rfl)
      by_cases hjk : j = k
      · subst hjk; rw [eP1, updZ_s]; omega
      · rw [eP1, updZ_n hjk]; exact hP j (by omega)
    refine lv_iload hx hb dX2_radixSort_181 (lv_at hl 13 rfl) ?_
    refine xi_sipush hx hb dX2_radixSort_183 (by decide) ?_
    refine xi_icmp_ge hx hb dX2_radixSort_186 (tgt := 223) (by decide) (by unfold iR; omega) (by unfold iR; omega) (fun h186 => ?_) (fun h186 => ?_)
    · skip
      exfalso; omega
    · skip
      refine lv_aload hx hb dX2_radixSort_189 (lv_at hl 5 rfl) ?_
      refine lv_iload hx hb dX2_radixSort_191 (lv_at hl 13 rfl) ?_
      refine xn_iald hx hb w 4 4 rfl rfl k (by omega) (by omega) (Nat.le_of_ble_eq_true rfl) dX2_radixSort_193 ?_
      refine xi_if_eq hx hb dX2_radixSort_194 (tgt := 201) (by decide) (by unfold iR; omega) (fun h194 => ?_) (fun h194 => ?_)
      · skip
        exact mid _ ls (hL.zero (by omega)) (lv_sub hl [0, 1, 2, 3, 4, 5, 6, 7, 8, 9, 10, 11, 12, 13, 14] rfl)
      · skip
        refine lv_iload hx hb dX2_radixSort_197 (lv_at hl 13 rfl) ?_
        refine lv_istore (lv' := [(14, .int (iI (zk))), (0, .ref h), (3, .int (iI (zsp))), (4, .ref g1), (5, .ref g2), (6, .ref g3), (7, .ref g4), (8, .ref g5), (9, .int (iI (zfi))), (10, .int (iI (zln))), (11, .int (iI (zlev))), (12, .int (iI (zsm))), (13, .int (iI (zsh))), (15, .int (iI (zk))), (16, .int (iI (zp)))]) hx hb dX2_radixSort_199 hl (by decide) rfl (fun ls hl => ?_)
        exact mid _ ls ((by rw [hzk]; exact LK.some (by omega))) (lv_sub hl [1, 2, 3, 4, 5, 6, 7, 8, 9, 10, 11, 12, 0, 13, 14] rfl)
theorem rx_count {p : Program} {l : Launch} {e : Env} {R : Room} {s : State} {m : MethodId} {args : Array Value} {below : List Frame} {meth : Method} {c : Code} {cells slots : Nat} {Q : State → Prop} {D : va_G} {A : Nat → Prop} {h g1 g2 g3 g4 g5 : Nat} {d c1 c2 c3 c4 c5 : ClassId} {N : Nat} {v fi hi : Nat} {O L V : Nat → Nat} {P : Nat → Int} {y : Nat → Int64} {zsp zfi zln zlev zsm zsh : Int} (S : CallFix p m c cX2_radixSort 23 s args lw_all "LongArrays") (hv : v ≤ 7) (hsh : zsh = (7 - (v : Int)) * 8) (hsm : zsm = if v = 0 then 128 else 0) (hzfi : zfi = fi) (hhN : hi ≤ N) (hN : N < 2147483648) (K : ∀ (C : Nat → Nat) (H : Heap) (locs : List Loc) (ls : Array Slot), DC v y fi hi C → xW D [(d, .long), (c1, .int), (c2, .int), (c3, .int), (c4, .int), (c5, .int)] A s [(h, La d N y), (g1, Ln c1 1786 O), (g2, Ln c2 1786 L), (g3, Ln c3 1786 V), (g4, Ln c4 256 C), (g5, Lz c5 256 P)] H locs → lv_has ls 23 [(0, .ref h), (3, .int (iI (zsp))), (4, .ref g1), (5, .ref g2), (6, .ref g3), (7, .ref g4), (8, .ref g5), (9, .int (iI (zfi))), (10, .int (iI (zln))), (11, .int (iI (zlev))), (12, .int (iI (zsm))), (13, .int (iI (zsh)))] → W p l e R s m args below meth c H locs cells slots Q (F0 m 171 ls [])) :
    ∀ (r : Nat) (C : Nat → Nat) (zj : Int) (H : Heap) (locs : List Loc) (ls : Array Slot), fi + r ≤ hi → zj = ((fi + r : Nat) : Int) → (∀ k, k < 256 → C k ≤ hi) → DC v y (fi + r) hi C → xW D [(d, .long), (c1, .int), (c2, .int), (c3, .int), (c4, .int), (c5, .int)] A s [(h, La d N y), (g1, Ln c1 1786 O), (g2, Ln c2 1786 L), (g3, Ln c3 1786 V), (g4, Ln c4 256 C), (g5, Lz c5 256 P)] H locs → lv_has ls 23 [(0, .ref h), (3, .int (iI (zsp))), (4, .ref g1), (5, .ref g2), (6, .ref g3), (7, .ref g4), (8, .ref g5), (9, .int (iI (zfi))), (10, .int (iI (zln))), (11, .int (iI (zlev))), (12, .int (iI (zsm))), (13, .int (iI (zsh))), (14, .int (iI (zj)))] → W p l e R s m args below meth c H locs cells slots Q (F0 m 135 ls []) := by
  obtain ⟨hx, hb, hml, hown, hts⟩ := id S
  intro r
  induction r with
  | zero =>
    intro C zj H locs ls hr hzj hCb hD w hl
    refine lv_iload hx hb dX2_radixSort_135 (lv_at hl 12 rfl) ?_
    refine lv_iinc (v := iI (zj - 1)) (lv' := [(14, .int (iI (zj - 1))), (0, .ref h), (3, .int (iI (zsp))), (4, .ref g1), (5, .ref g2), (6, .ref g3), (7, .ref g4), (8, .ref g5), (9, .int (iI (zfi))), (10, .int (iI (zln))), (11, .int (iI (zlev))), (12, .int (iI (zsm))), (13, .int (iI (zsh)))]) hx hb dX2_radixSort_137 hl (k := 12) rfl (xi_inc (by omega)) (by decide) rfl (fun ls hl => ?_)
    refine lv_iload hx hb dX2_radixSort_140 (lv_at hl 8 rfl) ?_
    refine xi_icmp_eq hx hb dX2_radixSort_142 (tgt := 171) (by decide) (by unfold iR; omega) (by unfold iR; omega) (fun h142 => ?_) (fun h142 => ?_)
    · skip
      exact K C H locs ls hD w (lv_sub hl [1, 2, 3, 4, 5, 6, 7, 8, 9, 10, 11, 12] rfl)
    · skip
      exfalso; omega
  | succ r ih =>
    intro C zj H locs ls hr hzj hCb hD w hl
    have hcl := dg_lt v (y (fi + r))
    have hD2 := DC.down (show DC v y (fi + r + 1) hi C from hD)
    have hb9 := hCb _ hcl
    refine lv_iload hx hb dX2_radixSort_135 (lv_at hl 12 rfl) ?_
    refine lv_iinc (v := iI (zj - 1)) (lv' := [(14, .int (iI (zj - 1))), (0, .ref h), (3, .int (iI (zsp))), (4, .ref g1), (5, .ref g2), (6, .ref g3), (7, .ref g4), (8, .ref g5), (9, .int (iI (zfi))), (10, .int (iI (zln))), (11, .int (iI (zlev))), (12, .int (iI (zsm))), (13, .int (iI (zsh)))]) hx hb dX2_radixSort_137 hl (k := 12) rfl (xi_inc (by omega)) (by decide) rfl (fun ls hl => ?_)
    refine lv_iload hx hb dX2_radixSort_140 (lv_at hl 8 rfl) ?_
    refine xi_icmp_eq hx hb dX2_radixSort_142 (tgt := 171) (by decide) (by unfold iR; omega) (by unfold iR; omega) (fun h142 => ?_) (fun h142 => ?_)
    · skip
      exfalso; omega
    · skip
      refine lv_aload hx hb dX2_radixSort_145 (lv_at hl 6 rfl) ?_
      refine lv_aload_n hx hb dX2_radixSort_147 rfl (lv_at hl 1 rfl) ?_
      refine lv_iload hx hb dX2_radixSort_148 (lv_at hl 0 rfl) ?_
      refine xa_lald hx hb w 0 0 rfl rfl ((fi + r)) (by omega) (by omega) hN dX2_radixSort_150 ?_
      refine lv_iload hx hb dX2_radixSort_151 (lv_at hl 12 rfl) ?_
      refine lv_lushr hx hb dX2_radixSort_153 rfl ?_
      refine lv_ldc2 hx hb hown (hts _ q114) dX2_radixSort_154 ?_
      refine lv_land hx hb dX2_radixSort_157 ?_
      refine lv_iload hx hb dX2_radixSort_158 (lv_at hl 11 rfl) ?_
      refine lv_i2l hx hb dX2_radixSort_160 rfl ?_
      refine lv_lxor hx hb dX2_radixSort_161 ?_
      refine lv_l2i hx hb dX2_radixSort_162 rfl ?_
      refine xi_topr ((dg v ((y (fi + r))) : Int)) (dg_code hv _ hsh hsm) ?_
      refine lv_dup2_11 hx hb dX2_radixSort_163 rfl rfl ?_
      refine xn_iald hx hb w 4 4 rfl rfl ((dg v (y (fi + r)))) (by omega) (by omega) (Nat.le_of_ble_eq_true rfl) dX2_radixSort_164 ?_
      refine xi_iconst hx hb dX2_radixSort_165 ?_
      refine xi_iadd hx hb dX2_radixSort_166 ?_
      refine xn_iast hx hb w 4 4 rfl rfl ((dg v (y (fi + r)))) (by omega) ((C (dg v (y (fi + r))) + 1)) (by omega) (by omega) (Nat.le_of_ble_eq_true rfl) dX2_radixSort_167 (fun H locs w => ?_)
      obtain ⟨C1, eC1⟩ : ∃ y9, y9 = updN C ((dg v (y (fi + r)))) ((C (dg v (y (fi + r))) + 1)) := ⟨_, rfl⟩
      have w : xW D [(d, .long), (c1, .int), (c2, .int), (c3, .int), (c4, .int), (c5, .int)] A s [(h, La d N y), (g1, Ln c1 1786 O), (g2, Ln c2 1786 L), (g3, Ln c3 1786 V), (g4, Ln c4 256 C1), (g5, Lz c5 256 P)] H locs := by rw [eC1]; exact w
      refine lv_goto (tgt := 135) hx hb dX2_radixSort_168 (by decide) ?_
      have hD3 : DC v y (fi + r) hi C1 := by rw [eC1]; exact hD2
      have htt := hD3.total
      exact ih C1 _ H locs ls (by omega) (by omega) (fun k hk => by have := sm_le C1 hk; omega) hD3 w (lv_sub hl [1, 2, 3, 4, 5, 6, 7, 8, 9, 10, 11, 12, 0] rfl)
theorem rx_outer {p : Program} {l : Launch} {e : Env} {R : Room} {s : State} {m : MethodId} {args : Array Value} {below : List Frame} {meth : Method} {c : Code} {cells slots : Nat} {Q : State → Prop} {D : va_G} {A : Nat → Prop} {h g1 g2 g3 g4 g5 : Nat} {d c1 c2 c3 c4 c5 : ClassId} {N : Nat} {f t : Nat} {x : Nat → Int64} (S : CallFix p m c cX2_radixSort 23 s args lw_all "LongArrays") (htN : t ≤ N) (hN2 : N < 1048576) (hRf : 508 ≤ R.frames) (hRl : 16747 ≤ R.locals) (hRc : cells ≤ R.cells) (hRs : slots ≤ R.slots) (K : ∀ (y : Nat → Int64) (O L V C : Nat → Nat) (P : Nat → Int) (H : Heap) (locs : List Loc) (ls : Array Slot), Srt f t x y → xW D [(d, .long), (c1, .int), (c2, .int), (c3, .int), (c4, .int), (c5, .int)] A s [(h, La d N y), (g1, Ln c1 1786 O), (g2, Ln c2 1786 L), (g3, Ln c3 1786 V), (g4, Ln c4 256 C), (g5, Lz c5 256 P)] H locs → W p l e R s m args below meth c H locs cells slots Q (F0 m 430 ls [])) :
    ∀ (r sp : Nat) (O L V C : Nat → Nat) (P : Nat → Int) (y : Nat → Int64) (zsp : Int) (H : Heap) (locs : List Loc) (ls : Array Slot), mu L V sp = r → zsp = sp → RO f t sp x O L V C y → xW D [(d, .long), (c1, .int), (c2, .int), (c3, .int), (c4, .int), (c5, .int)] A s [(h, La d N y), (g1, Ln c1 1786 O), (g2, Ln c2 1786 L), (g3, Ln c3 1786 V), (g4, Ln c4 256 C), (g5, Lz c5 256 P)] H locs → lv_has ls 23 [(0, .ref h), (3, .int (iI (zsp))), (4, .ref g1), (5, .ref g2), (6, .ref g3), (7, .ref g4), (8, .ref g5)] → W p l e R s m args below meth c H locs cells slots Q (F0 m 73 ls []) := by
  obtain ⟨hx, hb, hml, hown, hts⟩ := id S
  have hN : N < 2147483648 := by omega
  intro r
  induction r using Nat.strongRecOn with
  | _ r ih =>
  intro sp O L V C P y zsp H locs ls hr hzsp hO w hl
  have hft := hO.2.2.2.2
  have hsb := hO.2.1.bound hft
  cases sp with
  | zero =>
    refine lv_iload_n hx hb dX2_radixSort_73 rfl (lv_at hl 1 rfl) ?_
    refine xi_if_le hx hb dX2_radixSort_74 (tgt := 430) (by decide) (by unfold iR; omega) (fun h74 => ?_) (fun h74 => ?_)
    · skip
      exact K y O L V C P H locs ls hO.fin w
    · skip
      exfalso; omega
  | succ sp =>
    obtain ⟨b1, b2, b3, b4, b5⟩ := hO.2.1.1 sp (by omega)
    have hmp := mu_pop L V sp
    have hhi : O sp + L sp ≤ N := by omega
    have hC0 := hO.2.2.2.1
    have pass : ∀ (zfi zln zlev zsm zsh zsp : Int) (ls : Array Slot), zsp = sp → zfi = O sp → zln = L sp → zlev = V sp → zsh = (7 - (V sp : Int)) * 8 → zsm = (if V sp = 0 then 128 else 0) → lv_has ls 23 [(0, .ref h), (3, .int (iI (zsp))), (4, .ref g1), (5, .ref g2), (6, .ref g3), (7, .ref g4), (8, .ref g5), (9, .int (iI (zfi))), (10, .int (iI (zln))), (11, .int (iI (zlev))), (12, .int (iI (zsm))), (13, .int (iI (zsh)))] → W p l e R s m args below meth c H locs cells slots Q (F0 m 128 ls []) := by
      intro zfi zln zlev zsm zsh zsp ls hzsp hzfi hzln hzlev hsh hsm hl
      refine lv_iload hx hb dX2_radixSort_128 (lv_at hl 7 rfl) ?_
      refine lv_iload hx hb dX2_radixSort_130 (lv_at hl 8 rfl) ?_
      refine xi_iadd hx hb dX2_radixSort_132 ?_
      refine lv_istore (lv' := [(14, .int (iI (zfi + zln))), (0, .ref h), (3, .int (iI (zsp))), (4, .ref g1), (5, .ref g2), (6, .ref g3), (7, .ref g4), (8, .ref g5), (9, .int (iI (zfi))), (10, .int (iI (zln))), (11, .int (iI (zlev))), (12, .int (iI (zsm))), (13, .int (iI (zsh)))]) hx hb dX2_radixSort_133 hl (by decide) rfl (fun ls hl => ?_)
      refine rx_count (v := V sp) (fi := O sp) (hi := O sp + L sp) S b4 hsh hsm hzfi hhi hN ?_ (L sp) C _ H locs ls (Nat.le_refl _) (by omega) (fun k hk => by rw [hC0 k hk]; omega) (DC.init _ _ _ hC0) w (lv_sub hl [1, 2, 3, 4, 5, 6, 7, 8, 9, 10, 11, 12, 0] rfl)
      intro C H locs ls hD w hl
      have htot := hD.total
      refine xi_iconst hx hb dX2_radixSort_171 ?_
      refine lv_istore (lv' := [(14, .int (iI (-1))), (0, .ref h), (3, .int (iI (zsp))), (4, .ref g1), (5, .ref g2), (6, .ref g3), (7, .ref g4), (8, .ref g5), (9, .int (iI (zfi))), (10, .int (iI (zln))), (11, .int (iI (zlev))), (12, .int (iI (zsm))), (13, .int (iI (zsh)))]) hx hb dX2_radixSort_172 hl (by decide) rfl (fun ls hl => ?_)
      refine xi_iconst hx hb dX2_radixSort_174 ?_
      refine lv_istore (lv' := [(15, .int (iI (0))), (14, .int (iI (-1))), (0, .ref h), (3, .int (iI (zsp))), (4, .ref g1), (5, .ref g2), (6, .ref g3), (7, .ref g4), (8, .ref g5), (9, .int (iI (zfi))), (10, .int (iI (zln))), (11, .int (iI (zlev))), (12, .int (iI (zsm))), (13, .int (iI (zsh)))]) hx hb dX2_radixSort_175 hl (by decide) rfl (fun ls hl => ?_)
      refine lv_iload hx hb dX2_radixSort_177 (lv_at hl 9 rfl) ?_
      refine lv_istore (lv' := [(16, .int (iI (zfi))), (15, .int (iI (0))), (14, .int (iI (-1))), (0, .ref h), (3, .int (iI (zsp))), (4, .ref g1), (5, .ref g2), (6, .ref g3), (7, .ref g4), (8, .ref g5), (9, .int (iI (zfi))), (10, .int (iI (zln))), (11, .int (iI (zlev))), (12, .int (iI (zsm))), (13, .int (iI (zsh)))]) hx hb dX2_radixSort_179 hl (by decide) rfl (fun ls hl => ?_)
      refine rx_last (fi := O sp) S hN (by omega) (by omega) ?_ 256 0 P _ _ _ H locs ls (by omega) (by omega) (by rw [show sm C 0 = 0 from rfl]; omega) (Or.inl ⟨rfl, fun j hj => absurd hj (by omega)⟩) (fun j hj => absurd hj (by omega)) w (lv_sub hl [3, 4, 5, 6, 7, 8, 9, 10, 11, 12, 13, 14, 2, 1, 0] rfl)
      intro P Lu zL H locs ls e1 e2 e3 e4 hP w hl
      have hcL := sm_le C e2
      have hcL2 := sm_mono C (show Lu + 1 ≤ 256 by omega)
      refine lv_iload hx hb dX2_radixSort_223 (lv_at hl 7 rfl) ?_
      refine lv_iload hx hb dX2_radixSort_225 (lv_at hl 8 rfl) ?_
      refine xi_iadd hx hb dX2_radixSort_227 ?_
      refine lv_aload hx hb dX2_radixSort_228 (lv_at hl 5 rfl) ?_
      refine lv_iload hx hb dX2_radixSort_230 (lv_at hl 12 rfl) ?_
      refine xn_iald hx hb w 4 4 rfl rfl Lu (by omega) (by omega) (Nat.le_of_ble_eq_true rfl) dX2_radixSort_232 ?_
      refine xi_isub hx hb dX2_radixSort_233 ?_
      refine lv_istore (lv' := [(15, .int (iI ((zfi + zln) - ((C Lu : Int))))), (0, .ref h), (3, .int (iI (zsp))), (4, .ref g1), (5, .ref g2), (6, .ref g3), (7, .ref g4), (8, .ref g5), (9, .int (iI (zfi))), (10, .int (iI (zln))), (11, .int (iI (zlev))), (12, .int (iI (zsm))), (13, .int (iI (zsh))), (14, .int (iI (zL)))]) hx hb dX2_radixSort_234 hl (by decide) rfl (fun ls hl => ?_)
      refine lv_iload hx hb dX2_radixSort_236 (lv_at hl 8 rfl) ?_
      refine lv_istore (lv' := [(16, .int (iI (zfi))), (15, .int (iI ((zfi + zln) - ((C Lu : Int))))), (0, .ref h), (3, .int (iI (zsp))), (4, .ref g1), (5, .ref g2), (6, .ref g3), (7, .ref g4), (8, .ref g5), (9, .int (iI (zfi))), (10, .int (iI (zln))), (11, .int (iI (zlev))), (12, .int (iI (zsm))), (13, .int (iI (zsh))), (14, .int (iI (zL)))]) hx hb dX2_radixSort_238 hl (by decide) rfl (fun ls hl => ?_)
      refine xi_iconst hx hb dX2_radixSort_240 ?_
      refine lv_istore (lv' := [(17, .int (iI (-1))), (16, .int (iI (zfi))), (15, .int (iI ((zfi + zln) - ((C Lu : Int))))), (0, .ref h), (3, .int (iI (zsp))), (4, .ref g1), (5, .ref g2), (6, .ref g3), (7, .ref g4), (8, .ref g5), (9, .int (iI (zfi))), (10, .int (iI (zln))), (11, .int (iI (zlev))), (12, .int (iI (zsm))), (13, .int (iI (zsh))), (14, .int (iI (zL)))]) hx hb dX2_radixSort_241 hl (by decide) rfl (fun ls hl => ?_)
      have hQ : RQ f t sp x O L V (V sp) (O sp) (O sp + L sp) C P y := hO.pass hD hP
      have hmL : L sp * (8 - V sp) = L sp * (7 - V sp) + L sp := by rw [show 8 - V sp = (7 - V sp) + 1 by omega, Nat.mul_succ]
      refine rx_loop (Lu := Lu) (cl := C Lu) (Mu := mu L V sp + L sp * (7 - V sp)) S b4 hsh hsm hzlev (by omega) (by omega) (by omega) e2 htN hN2 hRf hRl hRc hRs ?_ _ (O sp) sp O L V C P y _ _ H locs ls rfl (by omega) (by omega) hQ (fun _ => ⟨rfl, e4⟩) (by rw [show O sp + L sp - O sp = L sp by omega]; exact Nat.le_refl _) w (lv_sub hl [3, 4, 5, 6, 7, 8, 9, 12, 13, 14, 2, 1] rfl)
      intro sp2 O2 L2 V2 C2 P2 y2 zsp2 H locs ls hz2 hQ2 hmu2 w hl
      refine lv_goto (tgt := 73) hx hb dX2_radixSort_427 (by decide) ?_
      exact ih _ (by omega) sp2 O2 L2 V2 C2 P2 y2 _ H locs ls rfl hz2 (hQ2.done hft) w hl
    refine lv_iload_n hx hb dX2_radixSort_73 rfl (lv_at hl 1 rfl) ?_
    refine xi_if_le hx hb dX2_radixSort_74 (tgt := 430) (by decide) (by unfold iR; omega) (fun h74 => ?_) (fun h74 => ?_)
    · skip
      exfalso; omega
    · skip
      refine lv_aload hx hb dX2_radixSort_77 (lv_at hl 2 rfl) ?_
      refine lv_iinc (v := iI (zsp - 1)) (lv' := [(3, .int (iI (zsp - 1))), (0, .ref h), (4, .ref g1), (5, .ref g2), (6, .ref g3), (7, .ref g4), (8, .ref g5)]) hx hb dX2_radixSort_79 hl (k := 1) rfl (xi_inc (by omega)) (by decide) rfl (fun ls hl => ?_)
      refine lv_iload_n hx hb dX2_radixSort_82 rfl (lv_at hl 0 rfl) ?_
      refine xn_iald hx hb w 1 1 rfl rfl sp (by omega) (by omega) (Nat.le_of_ble_eq_true rfl) dX2_radixSort_83 ?_
      refine lv_istore (lv' := [(9, .int (iI ((O sp : Int)))), (3, .int (iI (zsp - 1))), (0, .ref h), (4, .ref g1), (5, .ref g2), (6, .ref g3), (7, .ref g4), (8, .ref g5)]) hx hb dX2_radixSort_84 hl (by decide) rfl (fun ls hl => ?_)
      refine lv_aload hx hb dX2_radixSort_86 (lv_at hl 4 rfl) ?_
      refine lv_iload_n hx hb dX2_radixSort_88 rfl (lv_at hl 1 rfl) ?_
      refine xn_iald hx hb w 2 2 rfl rfl sp (by omega) (by omega) (Nat.le_of_ble_eq_true rfl) dX2_radixSort_89 ?_
      refine lv_istore (lv' := [(10, .int (iI ((L sp : Int)))), (9, .int (iI ((O sp : Int)))), (3, .int (iI (zsp - 1))), (0, .ref h), (4, .ref g1), (5, .ref g2), (6, .ref g3), (7, .ref g4), (8, .ref g5)]) hx hb dX2_radixSort_90 hl (by decide) rfl (fun ls hl => ?_)
      refine lv_aload hx hb dX2_radixSort_92 (lv_at hl 6 rfl) ?_
      refine lv_iload_n hx hb dX2_radixSort_94 rfl (lv_at hl 2 rfl) ?_
      refine xn_iald hx hb w 3 3 rfl rfl sp (by omega) (by omega) (Nat.le_of_ble_eq_true rfl) dX2_radixSort_95 ?_
      refine lv_istore (lv' := [(11, .int (iI ((V sp : Int)))), (10, .int (iI ((L sp : Int)))), (9, .int (iI ((O sp : Int)))), (3, .int (iI (zsp - 1))), (0, .ref h), (4, .ref g1), (5, .ref g2), (6, .ref g3), (7, .ref g4), (8, .ref g5)]) hx hb dX2_radixSort_96 hl (by decide) rfl (fun ls hl => ?_)
      refine lv_iload hx hb dX2_radixSort_98 (lv_at hl 0 rfl) ?_
      refine xi_bipush hx hb dX2_radixSort_100 (by decide) ?_
      refine xi_irem hx hb (by omega) (by omega) dX2_radixSort_102 ?_
      refine xi_if_ne hx hb dX2_radixSort_103 (tgt := 112) (by decide) (by unfold iR; omega) (fun h103 => ?_) (fun h103 => ?_)
      · skip
        refine xi_iconst hx hb dX2_radixSort_112 ?_
        refine lv_istore (lv' := [(12, .int (iI (0))), (11, .int (iI ((V sp : Int)))), (10, .int (iI ((L sp : Int)))), (9, .int (iI ((O sp : Int)))), (3, .int (iI (zsp - 1))), (0, .ref h), (4, .ref g1), (5, .ref g2), (6, .ref g3), (7, .ref g4), (8, .ref g5)]) hx hb dX2_radixSort_113 hl (by decide) rfl (fun ls hl => ?_)
        refine xi_bipush hx hb dX2_radixSort_115 (by decide) ?_
        refine lv_iload hx hb dX2_radixSort_117 (lv_at hl 1 rfl) ?_
        refine xi_bipush hx hb dX2_radixSort_119 (by decide) ?_
        refine xi_irem hx hb (by omega) (by omega) dX2_radixSort_121 ?_
        refine xi_isub hx hb dX2_radixSort_122 ?_
        refine xi_bipush hx hb dX2_radixSort_123 (by decide) ?_
        refine xi_imul hx hb dX2_radixSort_125 ?_
        refine lv_istore (lv' := [(13, .int (iI ((7 - (((V sp : Int)) % 8)) * 8))), (12, .int (iI (0))), (11, .int (iI ((V sp : Int)))), (10, .int (iI ((L sp : Int)))), (9, .int (iI ((O sp : Int)))), (3, .int (iI (zsp - 1))), (0, .ref h), (4, .ref g1), (5, .ref g2), (6, .ref g3), (7, .ref g4), (8, .ref g5)]) hx hb dX2_radixSort_126 hl (by decide) rfl (fun ls hl => ?_)
        exact pass _ _ _ _ _ _ ls (by omega) rfl rfl rfl (by omega) (by rw [if_neg (by omega)]) (lv_sub hl [6, 5, 7, 8, 9, 10, 11, 4, 3, 2, 1, 0] rfl)
      · skip
        refine xi_sipush hx hb dX2_radixSort_106 (by decide) ?_
        refine lv_goto (tgt := 113) hx hb dX2_radixSort_109 (by decide) ?_
        refine lv_istore (lv' := [(12, .int (iI (128))), (11, .int (iI ((V sp : Int)))), (10, .int (iI ((L sp : Int)))), (9, .int (iI ((O sp : Int)))), (3, .int (iI (zsp - 1))), (0, .ref h), (4, .ref g1), (5, .ref g2), (6, .ref g3), (7, .ref g4), (8, .ref g5)]) hx hb dX2_radixSort_113 hl (by decide) rfl (fun ls hl => ?_)
        refine xi_bipush hx hb dX2_radixSort_115 (by decide) ?_
        refine lv_iload hx hb dX2_radixSort_117 (lv_at hl 1 rfl) ?_
        refine xi_bipush hx hb dX2_radixSort_119 (by decide) ?_
        refine xi_irem hx hb (by omega) (by omega) dX2_radixSort_121 ?_
        refine xi_isub hx hb dX2_radixSort_122 ?_
        refine xi_bipush hx hb dX2_radixSort_123 (by decide) ?_
        refine xi_imul hx hb dX2_radixSort_125 ?_
        refine lv_istore (lv' := [(13, .int (iI ((7 - (((V sp : Int)) % 8)) * 8))), (12, .int (iI (128))), (11, .int (iI ((V sp : Int)))), (10, .int (iI ((L sp : Int)))), (9, .int (iI ((O sp : Int)))), (3, .int (iI (zsp - 1))), (0, .ref h), (4, .ref g1), (5, .ref g2), (6, .ref g3), (7, .ref g4), (8, .ref g5)]) hx hb dX2_radixSort_126 hl (by decide) rfl (fun ls hl => ?_)
        exact pass _ _ _ _ _ _ ls (by omega) rfl rfl rfl (by omega) (by rw [if_pos (by omega)]) (lv_sub hl [6, 5, 7, 8, 9, 10, 11, 4, 3, 2, 1, 0] rfl)
theorem M_radix {l : Launch} {D : va_G} {h : Nat} {d : ClassId} {sz N : Nat} {x : Nat → Int64} {zf zt : Int} {f t : Nat} (hzf : zf = f) (hzt : zt = t) (hft : f ≤ t) (htN : t ≤ N) (hN2 : N < 1048576) : Met l yX2_radixSort (ws_ yX2_radixSort cX2_radixSort 23 none) ({ frames := 508, locals := 16747, cells := 5, slots := 5870 } : Room) (LPc D h d sz N x [.ref h, .int (iI zf), .int (iI zt)]) (va_Qv (Srt f t x) (LB D h d N) (LA h d sz N x)) 5 5870 (LA h d sz N x) := by
  refine xa_metv (by decide) (Nat.le_of_ble_eq_true rfl) ?_
  intro p e s m args below meth c Q ls hsz S w hl K
  obtain ⟨hx, hb, hml, hown, hts⟩ := id S
  have hN : N < 2147483648 := by omega
  have hl : lv_has ls 23 [(0, .ref h), (1, .int (iI zf)), (2, .int (iI zt))] := hl
  refine lv_iload_n hx hb dX2_radixSort_0 rfl (lv_at hl 2 rfl) ?_
  refine lv_iload_n hx hb dX2_radixSort_1 rfl (lv_at hl 1 rfl) ?_
  refine xi_isub hx hb dX2_radixSort_2 ?_
  refine xi_sipush hx hb dX2_radixSort_3 (by decide) ?_
  refine xi_icmp_ge hx hb dX2_radixSort_6 (tgt := 16) (by decide) (by unfold iR; omega) (by unfold iR; omega) (fun h6 => ?_) (fun h6 => ?_)
  · skip
    refine xi_iconst hx hb dX2_radixSort_16 ?_
    refine lv_istore_n (lv' := [(3, .int (iI (0))), (0, .ref h), (1, .int (iI (zf))), (2, .int (iI (zt)))]) hx hb dX2_radixSort_17 rfl hl (by decide) rfl (fun ls hl => ?_)
    refine xi_sipush hx hb dX2_radixSort_18 (by decide) ?_
    refine xa_newi hx hb (hts _ q115) w 1786 (by decide) (Nat.le_of_ble_eq_true rfl) (Nat.le_of_ble_eq_true rfl) (Nat.le_of_ble_eq_true rfl) dX2_radixSort_21 (fun g1 c1 H w => ?_)
    have w : xW D [(d, .long), (c1, .int)] (LA h d s.heap.size N x) s [(h, La d N x), (g1, Ln c1 1786 (fun _ => 0))] H _ := w
    refine lv_astore (lv' := [(4, .ref g1), (3, .int (iI (0))), (0, .ref h), (1, .int (iI (zf))), (2, .int (iI (zt)))]) hx hb dX2_radixSort_23 hl (by decide) rfl (fun ls hl => ?_)
    refine xi_sipush hx hb dX2_radixSort_25 (by decide) ?_
    refine xa_newi hx hb (hts _ q115) w 1786 (by decide) (Nat.le_of_ble_eq_true rfl) (Nat.le_of_ble_eq_true rfl) (Nat.le_of_ble_eq_true rfl) dX2_radixSort_28 (fun g2 c2 H w => ?_)
    have w : xW D [(d, .long), (c1, .int), (c2, .int)] (LA h d s.heap.size N x) s [(h, La d N x), (g1, Ln c1 1786 (fun _ => 0)), (g2, Ln c2 1786 (fun _ => 0))] H _ := w
    refine lv_astore (lv' := [(5, .ref g2), (4, .ref g1), (3, .int (iI (0))), (0, .ref h), (1, .int (iI (zf))), (2, .int (iI (zt)))]) hx hb dX2_radixSort_30 hl (by decide) rfl (fun ls hl => ?_)
    refine xi_sipush hx hb dX2_radixSort_32 (by decide) ?_
    refine xa_newi hx hb (hts _ q115) w 1786 (by decide) (Nat.le_of_ble_eq_true rfl) (Nat.le_of_ble_eq_true rfl) (Nat.le_of_ble_eq_true rfl) dX2_radixSort_35 (fun g3 c3 H w => ?_)
    have w : xW D [(d, .long), (c1, .int), (c2, .int), (c3, .int)] (LA h d s.heap.size N x) s [(h, La d N x), (g1, Ln c1 1786 (fun _ => 0)), (g2, Ln c2 1786 (fun _ => 0)), (g3, Ln c3 1786 (fun _ => 0))] H _ := w
    refine lv_astore (lv' := [(6, .ref g3), (5, .ref g2), (4, .ref g1), (3, .int (iI (0))), (0, .ref h), (1, .int (iI (zf))), (2, .int (iI (zt)))]) hx hb dX2_radixSort_37 hl (by decide) rfl (fun ls hl => ?_)
    refine lv_aload hx hb dX2_radixSort_39 (lv_at hl 2 rfl) ?_
    refine lv_iload_n hx hb dX2_radixSort_41 rfl (lv_at hl 3 rfl) ?_
    refine lv_iload_n hx hb dX2_radixSort_42 rfl (lv_at hl 5 rfl) ?_
    refine xn_iast hx hb w 1 1 rfl rfl 0 (by omega) f (by omega) (by omega) (Nat.le_of_ble_eq_true rfl) dX2_radixSort_43 (fun H locs w => ?_)
    obtain ⟨O, eO⟩ : ∃ y9, y9 = updN ((fun _ => 0)) 0 f := ⟨_, rfl⟩
    have w : xW D [(d, .long), (c1, .int), (c2, .int), (c3, .int)] (LA h d s.heap.size N x) s [(h, La d N x), (g1, Ln c1 1786 O), (g2, Ln c2 1786 (fun _ => 0)), (g3, Ln c3 1786 (fun _ => 0))] H locs := by rw [eO]; exact w
    refine lv_aload hx hb dX2_radixSort_44 (lv_at hl 1 rfl) ?_
    refine lv_iload_n hx hb dX2_radixSort_46 rfl (lv_at hl 3 rfl) ?_
    refine lv_iload_n hx hb dX2_radixSort_47 rfl (lv_at hl 6 rfl) ?_
    refine lv_iload_n hx hb dX2_radixSort_48 rfl (lv_at hl 5 rfl) ?_
    refine xi_isub hx hb dX2_radixSort_49 ?_
    refine xn_iast hx hb w 2 2 rfl rfl 0 (by omega) ((t - f)) (by omega) (by omega) (Nat.le_of_ble_eq_true rfl) dX2_radixSort_50 (fun H locs w => ?_)
    obtain ⟨L, eL⟩ : ∃ y9, y9 = updN ((fun _ => 0)) 0 ((t - f)) := ⟨_, rfl⟩
    have w : xW D [(d, .long), (c1, .int), (c2, .int), (c3, .int)] (LA h d s.heap.size N x) s [(h, La d N x), (g1, Ln c1 1786 O), (g2, Ln c2 1786 L), (g3, Ln c3 1786 (fun _ => 0))] H locs := by rw [eL]; exact w
    refine lv_aload hx hb dX2_radixSort_51 (lv_at hl 0 rfl) ?_
    refine lv_iload_n hx hb dX2_radixSort_53 rfl (lv_at hl 3 rfl) ?_
    refine lv_iinc (v := iI (0 + 1)) (lv' := [(3, .int (iI (0 + 1))), (6, .ref g3), (5, .ref g2), (4, .ref g1), (0, .ref h), (1, .int (iI (zf))), (2, .int (iI (zt)))]) hx hb dX2_radixSort_54 hl (k := 3) rfl (xi_inc (by omega)) (by decide) rfl (fun ls hl => ?_)
    refine xi_iconst hx hb dX2_radixSort_57 ?_
    refine xn_iast hx hb w 3 3 rfl rfl 0 (by omega) 0 (by omega) (by omega) (Nat.le_of_ble_eq_true rfl) dX2_radixSort_58 (fun H locs w => ?_)
    obtain ⟨V, eV⟩ : ∃ y9, y9 = updN ((fun _ => 0)) 0 0 := ⟨_, rfl⟩
    have w : xW D [(d, .long), (c1, .int), (c2, .int), (c3, .int)] (LA h d s.heap.size N x) s [(h, La d N x), (g1, Ln c1 1786 O), (g2, Ln c2 1786 L), (g3, Ln c3 1786 V)] H locs := by rw [eV]; exact w
    refine xi_sipush hx hb dX2_radixSort_59 (by decide) ?_
    refine xa_newi hx hb (hts _ q115) w 256 (by decide) (Nat.le_of_ble_eq_true rfl) (Nat.le_of_ble_eq_true rfl) (Nat.le_of_ble_eq_true rfl) dX2_radixSort_62 (fun g4 c4 H w => ?_)
    have w : xW D [(d, .long), (c1, .int), (c2, .int), (c3, .int), (c4, .int)] (LA h d s.heap.size N x) s [(h, La d N x), (g1, Ln c1 1786 O), (g2, Ln c2 1786 L), (g3, Ln c3 1786 V), (g4, Ln c4 256 (fun _ => 0))] H _ := w
    refine lv_astore (lv' := [(7, .ref g4), (3, .int (iI (0 + 1))), (6, .ref g3), (5, .ref g2), (4, .ref g1), (0, .ref h), (1, .int (iI (zf))), (2, .int (iI (zt)))]) hx hb dX2_radixSort_64 hl (by decide) rfl (fun ls hl => ?_)
    refine xi_sipush hx hb dX2_radixSort_66 (by decide) ?_
    refine xa_newi hx hb (hts _ q115) w 256 (by decide) (Nat.le_of_ble_eq_true rfl) (Nat.le_of_ble_eq_true rfl) (Nat.le_of_ble_eq_true rfl) dX2_radixSort_69 (fun g5 c5 H w => ?_)
    have w : xW D [(d, .long), (c1, .int), (c2, .int), (c3, .int), (c4, .int), (c5, .int)] (LA h d s.heap.size N x) s [(h, La d N x), (g1, Ln c1 1786 O), (g2, Ln c2 1786 L), (g3, Ln c3 1786 V), (g4, Ln c4 256 (fun _ => 0)), (g5, Ln c5 256 (fun _ => 0))] H _ := w
    refine lv_astore (lv' := [(8, .ref g5), (7, .ref g4), (3, .int (iI (0 + 1))), (6, .ref g3), (5, .ref g2), (4, .ref g1), (0, .ref h), (1, .int (iI (zf))), (2, .int (iI (zt)))]) hx hb dX2_radixSort_71 hl (by decide) rfl (fun ls hl => ?_)
    have w : xW D [(d, .long), (c1, .int), (c2, .int), (c3, .int), (c4, .int), (c5, .int)] (LA h d s.heap.size N x) s [(h, La d N x), (g1, Ln c1 1786 O), (g2, Ln c2 1786 L), (g3, Ln c3 1786 V), (g4, Ln c4 256 (fun _ => 0)), (g5, Lz c5 256 (fun _ => 0))] H _ := w
    refine W.widen (k := 5) (n := 5870) (Nat.le_of_ble_eq_true rfl) (Nat.le_of_ble_eq_true rfl) ?_
    refine rx_outer (f := f) (t := t) (x := x) S htN hN2 (Nat.le_refl _) (Nat.le_refl _) (Nat.le_refl _) (Nat.le_refl _) ?_ _ 1 O L V (fun _ => 0) (fun _ => 0) x _ H _ ls rfl (by omega) (RO.init (by omega) (fun _ _ => rfl) (by rw [eO, updN_s]) (by rw [eL, updN_s]) (by rw [eV, updN_s])) w (lv_sub hl [6, 2, 5, 4, 3, 1, 0] rfl)
    intro y O L V C P H locs ls hs w
    exact K _ _ _ _ ls _ _ 0 dX2_radixSort_430 hs w rfl
  · skip
    refine lv_aload_n hx hb dX2_radixSort_9 rfl (lv_at hl 0 rfl) ?_
    refine lv_iload_n hx hb dX2_radixSort_10 rfl (lv_at hl 1 rfl) ?_
    refine lv_iload_n hx hb dX2_radixSort_11 rfl (lv_at hl 2 rfl) ?_
    refine xa_callv (M_quick 505 (f := f) (t := t) hzf hzt hft htN (by omega) (by omega)) S (va_cwS 3 hts (lw_S q77 q57 q9 q58) rfl rfl rfl ⟨by decide, by decide, by decide⟩ ⟨Nat.le_of_ble_eq_true rfl, Nat.le_of_ble_eq_true rfl⟩) w 0 0 rfl rfl rfl hl.1 rfl (by decide) dX2_radixSort_12 ⟨by omega, by omega⟩ (fun u H locs hu w => ?_)
    have w : xW D [(d, .long)] (LA h d s.heap.size N x) s [(h, La d N u)] H locs := w
    refine W.widen (k := 5) (n := 5870) (Nat.le_of_ble_eq_true rfl) (Nat.le_of_ble_eq_true rfl) ?_
    exact K _ _ _ _ ls _ _ 0 dX2_radixSort_15 hu w rfl
end
section
/-! what the desk's and the model's methods answer: one law for both -/
set_option maxRecDepth 100000
/-- the object: class ci, its rows at h, its size n -/
abbrev Ob (ci h n : Nat) : va_E := .inr (ci, [.ref h, .int (iI (n : Int))])
section XO
variable {p : Program} {l : Launch} {e : Env} {R : Room} {s : State} {m : MethodId} {args : Array Value} {below : List Frame} {meth : Method} {c : Code} {H : Heap} {locs : List Loc} {cells slots : Nat} {Q : State → Prop}
variable {cc : ByteArray} {pc : Nat} {ls : Array Slot} {rest : List Value}
variable {D : va_G} {tys : List (ClassId × FieldType)} {A : Nat → Prop} {ws : va_W} {a : Nat}
theorem xo_put (hexec : p.tables.exec = Jvm.exec) (hb : c.code = cc) {own C : String} {T : u_T} {NN ci index : Nat} (hts : ∀ w ∈ lw_all, w.before args s = true) (hin : ∀ w ∈ u_ws C T NN, w ∈ lw_all) (ty0 : Nat → FieldType) (hty : ∀ k, k < NN → parseFieldDescriptor (T k).2.2.1 = some (ty0 k)) (hnm : ∀ a, a < NN → ∀ b, b < NN → a ≠ b → (T a).2.1 ≠ (T b).2.1) (hown : s.vm.findClass own = some m.cls) (w : xW D tys A s ws H locs) (q0 : Nat) {h n : Nat} (he : ws[q0]? = some (a, Ob ci h n)) (hc : vwCl[ci]? = some (C, T, NN)) (hk : 1 < NN) {ref : String} (hlink : (Cond.fieldLink own index ref (T 1).2.1 (T 1).2.2.1) ∈ lw_all) (href : (T 1).1 = ref) (hfin : (T 1).2.2.2 = false) (hd : parseFieldDescriptor (T 1).2.2.1 = some .int) {z : Int} (n' : Nat) (hz : z = (n' : Int)) (hdg : decode cc pc = .ok (.putfield index, 3))
    (kk : ∀ (H1 : Heap) (locs1 : List Loc), xW D tys A s (ws.set q0 (a, Ob ci h n')) H1 locs1 → W p l e R s m args below meth c H1 locs1 cells slots Q (F0 m (pc + 3) ls rest)) : W p l e R s m args below meth c H locs cells slots Q (F0 m pc ls (.int (iI z) :: .ref a :: rest)) := by
  subst hz
  refine va_put hexec hb hts hin ty0 hty hnm hown w.1 w.2.1 w.2.2.1 w.2.2.2.1 q0 he hc 1 hk (hts _ hlink) (fun x h => by rw [href] at h; exact h) hfin (ty := .int) hd rfl rfl (Nat.le_of_ble_eq_true rfl) hdg ?_
  exact fun H1 locs1 h1 h2 h3 => kk H1 locs1 ⟨w.1, h1, h2, h3, w.2.2.2.2⟩
end XO
/-- the low 31 bits -/
def mk (a : Int32) : Nat := a.toUInt32.toNat % 2147483648
theorem mk_lt (a : Int32) : mk a < 2147483648 := Nat.mod_lt _ (by omega)
theorem mk_eq (a : Int32) : a &&& 2147483647 = iI (mk a : Int) := by
  rw [← iI_nI]
  refine congrArg UInt32.toInt32 (UInt32.toNat_inj.mp ?_)
  show (a.toUInt32 &&& Int32.toUInt32 2147483647).toNat = mk a % 4294967296
  rw [UInt32.toNat_and]
  have e : (Int32.toUInt32 2147483647).toNat = 2 ^ 31 - 1 := by decide
  rw [e, Nat.and_two_pow_sub_one_eq_mod]
  have e2 : (2 : Nat) ^ 31 = 2147483648 := rfl
  rw [e2]
  unfold mk
  omega
/-- wide -/
def wd (a b : Int32) : Int64 := (a.toInt64 <<< ((iI 32).toInt64 &&& 63)) + (b.toInt64 &&& 4294967295)
theorem uN_lo (x : Int64) : uN (x &&& 4294967295) = uN x % 4294967296 := by
  show (x.toUInt64 &&& Int64.toUInt64 4294967295).toNat = _
  rw [UInt64.toNat_and]
  exact Nat.and_two_pow_sub_one_eq_mod _ 32
theorem uN_add (x y : Int64) : uN (x + y) = (uN x + uN y) % 18446744073709551616 := by
  show (x.toUInt64 + y.toUInt64).toNat = _
  exact UInt64.toNat_add _ _
theorem uN_s32l (x : Int64) : uN (x <<< ((iI 32).toInt64 &&& 63)) = 2 ^ 32 * (uN x % 4294967296) := by
  have h : (((iI 32).toInt64 &&& 63).toBitVec.smod 64).toNat = 32 := by decide
  show (x.toBitVec <<< (((iI 32).toInt64 &&& 63).toBitVec.smod 64).toNat).toNat = _
  rw [h, BitVec.toNat_shiftLeft, Nat.shiftLeft_eq]
  show uN x * 4294967296 % 18446744073709551616 = 4294967296 * (uN x % 4294967296)
  omega
theorem wd_or (a b : Int32) : (a.toInt64 <<< ((iI 32).toInt64 &&& 63)) ||| (b.toInt64 &&& 4294967295) = wd a b := by
  apply uN_inj
  have h1 : uN ((a.toInt64 <<< ((iI 32).toInt64 &&& 63)) ||| (b.toInt64 &&& 4294967295)) = uN (a.toInt64 <<< ((iI 32).toInt64 &&& 63)) ||| uN (b.toInt64 &&& 4294967295) := UInt64.toNat_or _ _
  have h2 : uN (b.toInt64 &&& 4294967295) < 2 ^ 32 := by rw [uN_lo]; exact Nat.mod_lt _ (by omega)
  unfold wd
  rw [h1, uN_add, uN_s32l]
  have h3 := Nat.two_pow_add_eq_or_of_lt h2 (uN a.toInt64 % 4294967296)
  rw [← h3]
  have e2 : (2 : Nat) ^ 32 = 4294967296 := rfl
  rw [e2] at h2 ⊢
  omega
/-- ramp -/
def rv (st : Int32) (k : Nat) : Int64 := (iI (k : Int)).toInt64 * st.toInt64 * 1000003
theorem rv_model (st : Int32) (k : Nat) : 1000003 * st.toInt64 * (iI (k : Int)).toInt64 = rv st k := by
  unfold rv
  rw [Int64.mul_comm, Int64.mul_comm 1000003, ← Int64.mul_assoc]
def rmp (x : Nat → Int64) (n : Nat) (a b st : Int32) : Nat → (Nat → Int64)
  | 0 => x
  | k + 1 => vp_updL (rmp x n a b st k) (n + k) (wd a b + rv st k)
theorem rmp_s (x : Nat → Int64) (n : Nat) (a b st : Int32) (k : Nat) : rmp x n a b st (k + 1) = vp_updL (rmp x n a b st k) (n + k) (wd a b + rv st k) := rfl
/-- put -/
def SPut (a b : Int32) (n : Nat) (x : Nat → Int64) (r : Int32) (n2 : Nat) (y : Nat → Int64) : Prop := (4096 ≤ n ∧ r = iI 0 ∧ n2 = n ∧ y = x) ∨ (n < 4096 ∧ r = iI 1 ∧ n2 = n + 1 ∧ y = vp_updL x n (wd a b))
def SRamp (ct a b st : Int32) (n : Nat) (x : Nat → Int64) (r : Int32) (n2 : Nat) (y : Nat → Int64) : Prop := ∃ k, k = min (mk ct % 257) (4096 - n) ∧ r = iI (k : Int) ∧ n2 = n + k ∧ y = rmp x n a b st k
def fr (a : Int32) (n : Nat) : Nat := mk a % (n + 1)
def ctn (f n : Nat) (b : Int32) : Nat := mk b % (n - f + 1)
theorem fr_le (a : Int32) (n : Nat) : fr a n ≤ n := Nat.le_of_lt_succ (Nat.mod_lt _ (by omega))
theorem ctn_le (f n : Nat) (b : Int32) : ctn f n b ≤ n - f := Nat.le_of_lt_succ (Nat.mod_lt _ (by omega))
def SSort (a b : Int32) (n : Nat) (x : Nat → Int64) (r : Int32) (n2 : Nat) (y : Nat → Int64) : Prop := r = iI ((ctn (fr a n) n b : Nat) : Int) ∧ n2 = n ∧ Srt (fr a n) (fr a n + ctn (fr a n) n b) x y
def SRow (a : Int32) (n : Nat) (x : Nat → Int64) (r : Int64) (n2 : Nat) (y : Nat → Int64) : Prop := r = (if n = 0 then 0 else x (mk a % n)) ∧ n2 = n ∧ y = x
def FN (y : Nat → Int64) (n : Nat) (v : Int64) (r : Int32) : Prop := (∃ k, k < n ∧ y k = v ∧ r = iI 4096) ∨ ∃ k : Nat, k ≤ n ∧ r = iI (-((k : Int) + 1)) ∧ (∀ i, i < k → y i < v) ∧ ∀ i, k ≤ i → i < n → v < y i
def SFind (a b : Int32) (n : Nat) (x : Nat → Int64) (r : Int32) (n2 : Nat) (y : Nat → Int64) : Prop := n2 = n ∧ Srt 0 n x y ∧ FN y n (wd a b) r
theorem SPut.det {a b : Int32} {n : Nat} {x : Nat → Int64} {r r2 : Int32} {n1 n2 : Nat} {y y2 : Nat → Int64} (h : SPut a b n x r n1 y) (h2 : SPut a b n x r2 n2 y2) : r = r2 ∧ n1 = n2 ∧ y = y2 := by
  rcases h with ⟨h, rfl, rfl, rfl⟩ | ⟨h, rfl, rfl, rfl⟩ <;> rcases h2 with ⟨h2, rfl, rfl, rfl⟩ | ⟨h2, rfl, rfl, rfl⟩
  · exact ⟨rfl, rfl, rfl⟩
  · omega
  · omega
  · exact ⟨rfl, rfl, rfl⟩
theorem SRamp.det {ct a b st : Int32} {n : Nat} {x : Nat → Int64} {r r2 : Int32} {n1 n2 : Nat} {y y2 : Nat → Int64} (h : SRamp ct a b st n x r n1 y) (h2 : SRamp ct a b st n x r2 n2 y2) : r = r2 ∧ n1 = n2 ∧ y = y2 := by
  obtain ⟨k, rfl, rfl, rfl, rfl⟩ := h
  obtain ⟨k, rfl, rfl, rfl, rfl⟩ := h2
  exact ⟨rfl, rfl, rfl⟩
theorem SSort.det {a b : Int32} {n : Nat} {x : Nat → Int64} {r r2 : Int32} {n1 n2 : Nat} {y y2 : Nat → Int64} (h : SSort a b n x r n1 y) (h2 : SSort a b n x r2 n2 y2) : r = r2 ∧ n1 = n2 ∧ y = y2 := by
  obtain ⟨rfl, rfl, h⟩ := h
  obtain ⟨rfl, rfl, h2⟩ := h2
  exact ⟨rfl, rfl, h.uniq h2⟩
theorem SRow.det {a : Int32} {n : Nat} {x : Nat → Int64} {r r2 : Int64} {n1 n2 : Nat} {y y2 : Nat → Int64} (h : SRow a n x r n1 y) (h2 : SRow a n x r2 n2 y2) : r = r2 ∧ n1 = n2 ∧ y = y2 := by
  obtain ⟨rfl, rfl, rfl⟩ := h
  obtain ⟨rfl, rfl, rfl⟩ := h2
  exact ⟨rfl, rfl, rfl⟩
theorem FN.det {y : Nat → Int64} {n : Nat} {v : Int64} {r r2 : Int32} (h : FN y n v r) (h2 : FN y n v r2) : r = r2 := by
  have key : ∀ {k j : Nat}, k < n → y k = v → j ≤ n → (∀ i, i < j → y i < v) → (∀ i, j ≤ i → i < n → v < y i) → False := by
    intro k j h1 h2 h3 h4 h5
    by_cases hk : k < j
    · have := h4 k hk; rw [h2] at this; exact Int64.lt_irrefl this
    · have := h5 k (by omega) h1; rw [h2] at this; exact Int64.lt_irrefl this
  rcases h with ⟨k, h1, h3, rfl⟩ | ⟨k, h1, rfl, h3, h4⟩ <;> rcases h2 with ⟨j, g1, g3, rfl⟩ | ⟨j, g1, rfl, g3, g4⟩
  · rfl
  · exact (key h1 h3 g1 g3 g4).elim
  · exact (key g1 g3 h1 h3 h4).elim
  · have e : k = j := by
      rcases Nat.lt_trichotomy k j with q | q | q
      · exact absurd (Int64.lt_trans (g3 k q) (h4 k (Nat.le_refl k) (by omega))) Int64.lt_irrefl
      · exact q
      · exact absurd (Int64.lt_trans (h3 j q) (g4 j (Nat.le_refl j) (by omega))) Int64.lt_irrefl
    rw [e]
theorem SFind.det {a b : Int32} {n : Nat} {x : Nat → Int64} {r r2 : Int32} {n1 n2 : Nat} {y y2 : Nat → Int64} (h : SFind a b n x r n1 y) (h2 : SFind a b n x r2 n2 y2) : r = r2 ∧ n1 = n2 ∧ y = y2 := by
  obtain ⟨rfl, h, g⟩ := h
  obtain ⟨rfl, h2, g2⟩ := h2
  obtain rfl := h.uniq h2
  exact ⟨g.det g2, rfl, rfl⟩
end
section
/-! LongSortDesk: its methods -/
set_option maxRecDepth 100000
set_option maxHeartbeats 1000000
theorem M_wide0 {l : Launch} {rm : Room} {a b : Int32} : Met l yX0_wide (ws_ yX0_wide cX0_wide 2 (some .long)) rm (va_Pc [.int a, .int b] (fun _ => True)) (vp_Sl (fun r => r = wd a b)) 0 0 (fun _ => False) := by
  refine xs_metl (by decide) (Nat.le_of_ble_eq_true rfl) ?_
  intro p e s m args below meth c Q ls S hl K
  obtain ⟨hx, hb, hml, hown, hts⟩ := id S
  have hl : lv_has ls 2 [(0, .int a), (1, .int b)] := hl
  refine lv_iload_n hx hb dX0_wide_0 rfl (lv_at hl 0 rfl) ?_
  refine lv_i2l hx hb dX0_wide_1 rfl ?_
  refine xi_bipush hx hb dX0_wide_2 (by decide) ?_
  refine lv_lshl hx hb dX0_wide_4 rfl ?_
  refine lv_iload_n hx hb dX0_wide_5 rfl (lv_at hl 1 rfl) ?_
  refine lv_i2l hx hb dX0_wide_6 rfl ?_
  refine lv_ldc2 hx hb hown (hts _ q37) dX0_wide_7 ?_
  refine lv_land hx hb dX0_wide_10 ?_
  refine lv_lor hx hb dX0_wide_11 ?_
  exact K _ _ ls dX0_wide_12 (wd_or a b)
theorem M_from0 {l : Launch} {D : va_G} {d : ClassId} {o h sz n : Nat} {x : Nat → Int64} {a : Int32} (hn : n ≤ 4096) : Met l yX0_from (ws_ yX0_from cX0_from 2 (some .int)) ({} : Room) (PPc D d o (Ob 0 h n) h (La d 4096 x) sz [.ref o, .int a]) (va_Qi (fun r u => r = iI ((fr a n : Nat) : Int) ∧ u = ((Ob 0 h n), (La d 4096 x))) (PB D o h) (PA o (Ob 0 h n) h (La d 4096 x) sz)) 0 0 (PA o (Ob 0 h n) h (La d 4096 x) sz) := by
  have hm := mk_lt a
  have hN : (4096 : Nat) < 2147483648 := (Nat.le_of_ble_eq_true rfl)
  refine xp_meti (by decide) (Nat.le_of_ble_eq_true rfl) ?_
  intro p e s m args below meth c Q ls hsz S w hl K
  obtain ⟨hx, hb, hml, hown, hts⟩ := id S
  have hl : lv_has ls 2 [(0, .ref o), (1, .int (a))] := hl
  refine lv_iload_n hx hb dX0_from_0 rfl (lv_at hl 1 rfl) ?_
  refine lv_ldc hx hb hown (hts _ q42) dX0_from_1 ?_
  refine lv_iand hx hb dX0_from_3 ?_
  refine xi_topr ((mk a : Int)) (mk_eq _) ?_
  refine lv_aload_n hx hb dX0_from_4 rfl (lv_at hl 0 rfl) ?_
  refine xo_get hx hb hts in_X0 hown w 0 rfl rfl 1 (by decide) q23 rfl rfl dX0_from_5 ?_
  refine xi_iconst hx hb dX0_from_8 ?_
  refine xi_iadd hx hb dX0_from_9 ?_
  refine xi_irem hx hb (by omega) (by omega) dX0_from_10 ?_
  exact K _ _ _ _ _ ls _ _ 0 1 dX0_from_11 ⟨congrArg iI (show ((mk a : Int)) % ((n : Int) + 1) = ((mk a % (n + 1) : Nat) : Int) by rw [show ((n : Int) + 1) = ((n + 1 : Nat) : Int) by omega]; omega), rfl⟩ w rfl rfl
theorem M_count0 {l : Launch} {D : va_G} {d : ClassId} {o h sz n : Nat} {x : Nat → Int64} {f : Nat} {a : Int32} (hn : n ≤ 4096) (hf : f ≤ n) : Met l yX0_count (ws_ yX0_count cX0_count 3 (some .int)) ({} : Room) (PPc D d o (Ob 0 h n) h (La d 4096 x) sz [.ref o, .int (iI (f : Int)), .int a]) (va_Qi (fun r u => r = iI ((ctn f n a : Nat) : Int) ∧ u = ((Ob 0 h n), (La d 4096 x))) (PB D o h) (PA o (Ob 0 h n) h (La d 4096 x) sz)) 0 0 (PA o (Ob 0 h n) h (La d 4096 x) sz) := by
  have hm := mk_lt a
  have hN : (4096 : Nat) < 2147483648 := (Nat.le_of_ble_eq_true rfl)
  refine xp_meti (by decide) (Nat.le_of_ble_eq_true rfl) ?_
  intro p e s m args below meth c Q ls hsz S w hl K
  obtain ⟨hx, hb, hml, hown, hts⟩ := id S
  have hl : lv_has ls 3 [(0, .ref o), (1, .int (iI ((f : Int)))), (2, .int (a))] := hl
  refine lv_iload_n hx hb dX0_count_0 rfl (lv_at hl 2 rfl) ?_
  refine lv_ldc hx hb hown (hts _ q42) dX0_count_1 ?_
  refine lv_iand hx hb dX0_count_3 ?_
  refine xi_topr ((mk a : Int)) (mk_eq _) ?_
  refine lv_aload_n hx hb dX0_count_4 rfl (lv_at hl 0 rfl) ?_
  refine xo_get hx hb hts in_X0 hown w 0 rfl rfl 1 (by decide) q23 rfl rfl dX0_count_5 ?_
  refine lv_iload_n hx hb dX0_count_8 rfl (lv_at hl 1 rfl) ?_
  refine xi_isub hx hb dX0_count_9 ?_
  refine xi_iconst hx hb dX0_count_10 ?_
  refine xi_iadd hx hb dX0_count_11 ?_
  refine xi_irem hx hb (by omega) (by omega) dX0_count_12 ?_
  exact K _ _ _ _ _ ls _ _ 0 1 dX0_count_13 ⟨congrArg iI (show ((mk a : Int)) % ((n : Int) - (f : Int) + 1) = ((mk a % (n - f + 1) : Nat) : Int) by rw [show ((n : Int) - (f : Int) + 1) = ((n - f + 1 : Nat) : Int) by omega]; omega), rfl⟩ w rfl rfl
theorem M_put0 {l : Launch} {D : va_G} {d : ClassId} {o h sz n : Nat} {x : Nat → Int64} {a b : Int32} (hn : n ≤ 4096) : Met l yX0_put (ws_ yX0_put cX0_put 3 (some .boolean)) ({ frames := 1, locals := 40 } : Room) (PPc D d o (Ob 0 h n) h (La d 4096 x) sz [.ref o, .int a, .int b]) (va_Qi (fun r u => ∃ n2 y, u = (Ob 0 h n2, La d 4096 y) ∧ n2 ≤ 4096 ∧ SPut a b n x r n2 y) (PB D o h) (PA o (Ob 0 h n) h (La d 4096 x) sz)) 0 0 (PA o (Ob 0 h n) h (La d 4096 x) sz) := by
  have hN : (4096 : Nat) < 2147483648 := (Nat.le_of_ble_eq_true rfl)
  refine xp_metz (by decide) (Nat.le_of_ble_eq_true rfl) ?_
  intro p e s m args below meth c Q ls hsz S w hl K
  obtain ⟨hx, hb, hml, hown, hts⟩ := id S
  have hl : lv_has ls 3 [(0, .ref o), (1, .int (a)), (2, .int (b))] := hl
  refine lv_aload_n hx hb dX0_put_0 rfl (lv_at hl 0 rfl) ?_
  refine xo_get hx hb hts in_X0 hown w 0 rfl rfl 1 (by decide) q23 rfl rfl dX0_put_1 ?_
  refine xi_sipush hx hb dX0_put_4 (by decide) ?_
  refine xi_icmp_lt hx hb dX0_put_7 (tgt := 12) (by decide) (by unfold iR; omega) (by unfold iR; omega) (fun h7 => ?_) (fun h7 => ?_)
  · skip
    refine lv_aload_n hx hb dX0_put_12 rfl (lv_at hl 0 rfl) ?_
    refine xo_get hx hb hts in_X0 hown w 0 rfl rfl 0 (by decide) q22 rfl rfl dX0_put_13 ?_
    refine lv_aload_n hx hb dX0_put_16 rfl (lv_at hl 0 rfl) ?_
    refine lv_dup hx hb dX0_put_17 rfl ?_
    refine xo_get hx hb hts in_X0 hown w 0 rfl rfl 1 (by decide) q23 rfl rfl dX0_put_18 ?_
    refine lv_dup_x1 hx hb dX0_put_21 rfl rfl ?_
    refine xi_iconst hx hb dX0_put_22 ?_
    refine xi_iadd hx hb dX0_put_23 ?_
    refine xo_put hx hb hts in_X0 tyX0 tyX0_ok nmX0 hown w 0 rfl rfl (by decide) q23 rfl rfl (by decide +kernel) (n + 1) (by omega) dX0_put_24 (fun H locs w => ?_)
    have w : xW D [(d, .long)] (PA o (Ob 0 h n) h (La d 4096 x) s.heap.size) s [(o, Ob 0 h (n + 1)), (h, La d 4096 x)] H locs := w
    refine lv_iload_n hx hb dX0_put_27 rfl (lv_at hl 1 rfl) ?_
    refine lv_iload_n hx hb dX0_put_28 rfl (lv_at hl 2 rfl) ?_
    refine xs_calll (M_wide0 (rm := {}) (a := a) (b := b)) S (va_cwS 2 hts (lw_S q34 q35 q7 q36) rfl rfl rfl ⟨by decide, by decide, by decide⟩ ⟨(Nat.le_of_ble_eq_true rfl), (Nat.le_of_ble_eq_true rfl)⟩) rfl rfl hl.1 rfl (Nat.le_of_ble_eq_true rfl) dX0_put_29 ⟨Nat.zero_le _, Nat.zero_le _⟩ (fun rw1 hrw1 => ?_)
    subst hrw1
    refine xa_last hx hb w 1 0 rfl rfl n (by omega) (by omega) (Nat.le_of_ble_eq_true rfl) dX0_put_32 (fun H locs w => ?_)
    obtain ⟨y, ey⟩ : ∃ y9, y9 = vp_updL x n (wd a b) := ⟨_, rfl⟩
    have w : xW D [(d, .long)] (PA o (Ob 0 h n) h (La d 4096 x) s.heap.size) s [(o, Ob 0 h (n + 1)), (h, La d 4096 y)] H locs := by rw [ey]; exact w
    refine xi_iconst hx hb dX0_put_33 ?_
    exact K _ _ _ _ _ ls _ _ 0 1 dX0_put_34 rfl ⟨(n + 1), y, rfl, by omega, Or.inr ⟨by omega, rfl, rfl, ey⟩⟩ w rfl rfl
  · skip
    refine xi_iconst hx hb dX0_put_10 ?_
    exact K _ _ _ _ _ ls _ _ 0 1 dX0_put_11 rfl ⟨n, x, rfl, by omega, Or.inl ⟨by omega, rfl, rfl, rfl⟩⟩ w rfl rfl
theorem M_ramp0 {l : Launch} {D : va_G} {d : ClassId} {o h sz n : Nat} {x : Nat → Int64} {ct a b st : Int32} (hn : n ≤ 4096) : Met l yX0_ramp (ws_ yX0_ramp cX0_ramp 7 (some .int)) ({ frames := 1, locals := 40 } : Room) (PPc D d o (Ob 0 h n) h (La d 4096 x) sz [.ref o, .int ct, .int a, .int b, .int st]) (va_Qi (fun r u => ∃ n2 y, u = (Ob 0 h n2, La d 4096 y) ∧ n2 ≤ 4096 ∧ SRamp ct a b st n x r n2 y) (PB D o h) (PA o (Ob 0 h n) h (La d 4096 x) sz)) 0 0 (PA o (Ob 0 h n) h (La d 4096 x) sz) := by
  have hm := mk_lt ct
  have hN : (4096 : Nat) < 2147483648 := (Nat.le_of_ble_eq_true rfl)
  refine xp_meti (by decide) (Nat.le_of_ble_eq_true rfl) ?_
  intro p e s m args below meth c Q ls hsz S w hl K
  obtain ⟨hx, hb, hml, hown, hts⟩ := id S
  have hl : lv_has ls 7 [(0, .ref o), (1, .int (ct)), (2, .int (a)), (3, .int (b)), (4, .int (st))] := hl
  have loop : ∀ (r k : Nat) (zn zi : Int) (H : Heap) (locs : List Loc) (ls : Array Slot), k + r = min (mk ct % 257) (4096 - n) → zi = k → zn = ((min (mk ct % 257) (4096 - n) : Nat) : Int) → xW D [(d, .long)] (PA o (Ob 0 h n) h (La d 4096 x) s.heap.size) s [(o, Ob 0 h (n + k)), (h, La d 4096 (rmp x n a b st k))] H locs → lv_has ls 7 [(0, .ref o), (2, .int (a)), (3, .int (b)), (4, .int (st)), (5, .int (iI (zn))), (6, .int (iI (zi)))] → W p l e ({ frames := 1, locals := 40 } : Room) s m args below meth c H locs 0 0 Q (F0 m 36 ls []) := by
    intro r
    induction r with
    | zero =>
      intro k zn zi H locs ls hr hzi hzn w hl
      refine lv_iload hx hb dX0_ramp_36 (lv_at hl 5 rfl) ?_
      refine lv_iload hx hb dX0_ramp_38 (lv_at hl 4 rfl) ?_
      refine xi_icmp_ge hx hb dX0_ramp_40 (tgt := 82) (by decide) (by unfold iR; omega) (by unfold iR; omega) (fun h40 => ?_) (fun h40 => ?_)
      · skip
        refine lv_iload hx hb dX0_ramp_82 (lv_at hl 4 rfl) ?_
        exact K _ _ _ _ _ ls _ _ 0 1 dX0_ramp_84 ⟨n + k, rmp x n a b st k, rfl, by omega, k, by omega, congrArg iI (by omega), rfl, rfl⟩ w rfl rfl
      · skip
        exfalso; omega
    | succ r ih =>
      intro k zn zi H locs ls hr hzi hzn w hl
      refine lv_iload hx hb dX0_ramp_36 (lv_at hl 5 rfl) ?_
      refine lv_iload hx hb dX0_ramp_38 (lv_at hl 4 rfl) ?_
      refine xi_icmp_ge hx hb dX0_ramp_40 (tgt := 82) (by decide) (by unfold iR; omega) (by unfold iR; omega) (fun h40 => ?_) (fun h40 => ?_)
      · skip
        exfalso; omega
      · skip
        refine lv_aload_n hx hb dX0_ramp_43 rfl (lv_at hl 0 rfl) ?_
        refine xo_get hx hb hts in_X0 hown w 0 rfl rfl 0 (by decide) q22 rfl rfl dX0_ramp_44 ?_
        refine lv_aload_n hx hb dX0_ramp_47 rfl (lv_at hl 0 rfl) ?_
        refine lv_dup hx hb dX0_ramp_48 rfl ?_
        refine xo_get hx hb hts in_X0 hown w 0 rfl rfl 1 (by decide) q23 rfl rfl dX0_ramp_49 ?_
        refine lv_dup_x1 hx hb dX0_ramp_52 rfl rfl ?_
        refine xi_iconst hx hb dX0_ramp_53 ?_
        refine xi_iadd hx hb dX0_ramp_54 ?_
        refine xo_put hx hb hts in_X0 tyX0 tyX0_ok nmX0 hown w 0 rfl rfl (by decide) q23 rfl rfl (by decide +kernel) (n + k + 1) (by omega) dX0_ramp_55 (fun H locs w => ?_)
        have w : xW D [(d, .long)] (PA o (Ob 0 h n) h (La d 4096 x) s.heap.size) s [(o, Ob 0 h (n + k + 1)), (h, La d 4096 (rmp x n a b st k))] H locs := w
        refine lv_iload_n hx hb dX0_ramp_58 rfl (lv_at hl 1 rfl) ?_
        refine lv_iload_n hx hb dX0_ramp_59 rfl (lv_at hl 2 rfl) ?_
        refine xs_calll (M_wide0 (rm := {}) (a := a) (b := b)) S (va_cwS 2 hts (lw_S q34 q35 q7 q36) rfl rfl rfl ⟨by decide, by decide, by decide⟩ ⟨(Nat.le_of_ble_eq_true rfl), (Nat.le_of_ble_eq_true rfl)⟩) rfl rfl hl.1 rfl (Nat.le_of_ble_eq_true rfl) dX0_ramp_60 ⟨Nat.zero_le _, Nat.zero_le _⟩ (fun rw1 hrw1 => ?_)
        subst hrw1
        refine lv_iload hx hb dX0_ramp_63 (lv_at hl 5 rfl) ?_
        refine lv_i2l hx hb dX0_ramp_65 rfl ?_
        refine lv_iload hx hb dX0_ramp_66 (lv_at hl 3 rfl) ?_
        refine lv_i2l hx hb dX0_ramp_68 rfl ?_
        refine lv_lmul hx hb dX0_ramp_69 ?_
        refine lv_ldc2 hx hb hown (hts _ q43) dX0_ramp_70 ?_
        refine lv_lmul hx hb dX0_ramp_73 ?_
        refine lv_ladd hx hb dX0_ramp_74 ?_
        refine xl_top (wd a b + rv st k) (by rw [hzi]; rfl) ?_
        refine xa_last hx hb w 1 0 rfl rfl ((n + k)) (by omega) (by omega) (Nat.le_of_ble_eq_true rfl) dX0_ramp_75 (fun H locs w => ?_)
        obtain ⟨y, ey⟩ : ∃ y9, y9 = vp_updL (rmp x n a b st k) ((n + k)) (wd a b + rv st k) := ⟨_, rfl⟩
        have w : xW D [(d, .long)] (PA o (Ob 0 h n) h (La d 4096 x) s.heap.size) s [(o, Ob 0 h (n + k + 1)), (h, La d 4096 y)] H locs := by rw [ey]; exact w
        refine lv_iinc (v := iI (zi + 1)) (lv' := [(6, .int (iI (zi + 1))), (0, .ref o), (2, .int (a)), (3, .int (b)), (4, .int (st)), (5, .int (iI (zn)))]) hx hb dX0_ramp_76 hl (k := 5) rfl (xi_inc (by omega)) (by decide) rfl (fun ls hl => ?_)
        refine lv_goto (tgt := 36) hx hb dX0_ramp_79 (by decide) ?_
        have w : xW D [(d, .long)] (PA o (Ob 0 h n) h (La d 4096 x) s.heap.size) s [(o, Ob 0 h (n + (k + 1))), (h, La d 4096 (rmp x n a b st (k + 1)))] H locs := by rw [rmp_s, ← ey]; exact w
        exact ih (k + 1) _ _ H locs ls (by omega) (by omega) (by omega) w (lv_sub hl [1, 2, 3, 4, 5, 0] rfl)
  refine lv_iload_n hx hb dX0_ramp_0 rfl (lv_at hl 1 rfl) ?_
  refine lv_ldc hx hb hown (hts _ q42) dX0_ramp_1 ?_
  refine lv_iand hx hb dX0_ramp_3 ?_
  refine xi_topr ((mk ct : Int)) (mk_eq _) ?_
  refine xi_sipush hx hb dX0_ramp_4 (by decide) ?_
  refine xi_irem hx hb (by omega) (by omega) dX0_ramp_7 ?_
  refine lv_istore (lv' := [(5, .int (iI (((mk ct : Int)) % 257))), (0, .ref o), (1, .int (ct)), (2, .int (a)), (3, .int (b)), (4, .int (st))]) hx hb dX0_ramp_8 hl (by decide) rfl (fun ls hl => ?_)
  refine lv_iload hx hb dX0_ramp_10 (lv_at hl 0 rfl) ?_
  refine xi_sipush hx hb dX0_ramp_12 (by decide) ?_
  refine lv_aload_n hx hb dX0_ramp_15 rfl (lv_at hl 1 rfl) ?_
  refine xo_get hx hb hts in_X0 hown w 0 rfl rfl 1 (by decide) q23 rfl rfl dX0_ramp_16 ?_
  refine xi_isub hx hb dX0_ramp_19 ?_
  refine xi_icmp_le hx hb dX0_ramp_20 (tgt := 33) (by decide) (by unfold iR; omega) (by unfold iR; omega) (fun h20 => ?_) (fun h20 => ?_)
  · skip
    refine xi_iconst hx hb dX0_ramp_33 ?_
    refine lv_istore (lv' := [(6, .int (iI (0))), (5, .int (iI (((mk ct : Int)) % 257))), (0, .ref o), (1, .int (ct)), (2, .int (a)), (3, .int (b)), (4, .int (st))]) hx hb dX0_ramp_34 hl (by decide) rfl (fun ls hl => ?_)
    exact loop (min (mk ct % 257) (4096 - n)) 0 _ _ _ _ ls (by omega) (by omega) (by omega) w (lv_sub hl [2, 4, 5, 6, 1, 0] rfl)
  · skip
    refine xi_sipush hx hb dX0_ramp_23 (by decide) ?_
    refine lv_aload_n hx hb dX0_ramp_26 rfl (lv_at hl 1 rfl) ?_
    refine xo_get hx hb hts in_X0 hown w 0 rfl rfl 1 (by decide) q23 rfl rfl dX0_ramp_27 ?_
    refine xi_isub hx hb dX0_ramp_30 ?_
    refine lv_istore (lv' := [(5, .int (iI (4096 - ((n : Int))))), (0, .ref o), (1, .int (ct)), (2, .int (a)), (3, .int (b)), (4, .int (st))]) hx hb dX0_ramp_31 hl (by decide) rfl (fun ls hl => ?_)
    refine xi_iconst hx hb dX0_ramp_33 ?_
    refine lv_istore (lv' := [(6, .int (iI (0))), (5, .int (iI (4096 - ((n : Int))))), (0, .ref o), (1, .int (ct)), (2, .int (a)), (3, .int (b)), (4, .int (st))]) hx hb dX0_ramp_34 hl (by decide) rfl (fun ls hl => ?_)
    exact loop (min (mk ct % 257) (4096 - n)) 0 _ _ _ _ ls (by omega) (by omega) (by omega) w (lv_sub hl [2, 4, 5, 6, 1, 0] rfl)
theorem M_row0 {l : Launch} {D : va_G} {d : ClassId} {o h sz n : Nat} {x : Nat → Int64} {a : Int32} (hn : n ≤ 4096) : Met l yX0_row (ws_ yX0_row cX0_row 2 (some .long)) ({} : Room) (PPc D d o (Ob 0 h n) h (La d 4096 x) sz [.ref o, .int a]) (va_Ql (fun r u => ∃ n2 y, u = (Ob 0 h n2, La d 4096 y) ∧ n2 ≤ 4096 ∧ SRow a n x r n2 y) (PB D o h) (PA o (Ob 0 h n) h (La d 4096 x) sz)) 0 0 (PA o (Ob 0 h n) h (La d 4096 x) sz) := by
  have hm := mk_lt a
  have hN : (4096 : Nat) < 2147483648 := (Nat.le_of_ble_eq_true rfl)
  refine xp_metl (by decide) (Nat.le_of_ble_eq_true rfl) ?_
  intro p e s m args below meth c Q ls hsz S w hl K
  obtain ⟨hx, hb, hml, hown, hts⟩ := id S
  have hl : lv_has ls 2 [(0, .ref o), (1, .int (a))] := hl
  refine lv_aload_n hx hb dX0_row_0 rfl (lv_at hl 0 rfl) ?_
  refine xo_get hx hb hts in_X0 hown w 0 rfl rfl 1 (by decide) q23 rfl rfl dX0_row_1 ?_
  refine xi_if_ne hx hb dX0_row_4 (tgt := 11) (by decide) (by unfold iR; omega) (fun h4 => ?_) (fun h4 => ?_)
  · skip
    refine lv_aload_n hx hb dX0_row_11 rfl (lv_at hl 0 rfl) ?_
    refine xo_get hx hb hts in_X0 hown w 0 rfl rfl 0 (by decide) q22 rfl rfl dX0_row_12 ?_
    refine lv_iload_n hx hb dX0_row_15 rfl (lv_at hl 1 rfl) ?_
    refine lv_ldc hx hb hown (hts _ q42) dX0_row_16 ?_
    refine lv_iand hx hb dX0_row_18 ?_
    refine xi_topr ((mk a : Int)) (mk_eq _) ?_
    refine lv_aload_n hx hb dX0_row_19 rfl (lv_at hl 0 rfl) ?_
    refine xo_get hx hb hts in_X0 hown w 0 rfl rfl 1 (by decide) q23 rfl rfl dX0_row_20 ?_
    refine xi_irem hx hb (by omega) (by omega) dX0_row_23 ?_
    refine xa_lald hx hb w 1 0 rfl rfl ((mk a % n)) ((Int.natCast_emod (mk a) n).symm) (Nat.lt_of_lt_of_le (Nat.mod_lt _ (by omega)) hn) (Nat.le_of_ble_eq_true rfl) dX0_row_24 ?_
    exact K _ _ _ _ _ ls _ _ 0 1 dX0_row_25 ⟨n, x, rfl, hn, by rw [if_neg (by omega)], rfl, rfl⟩ w rfl rfl
  · skip
    refine lv_lconst (v := 0) hx hb dX0_row_7 rfl ?_
    refine lv_goto (tgt := 25) hx hb dX0_row_8 (by decide) ?_
    exact K _ _ _ _ _ ls _ _ 0 1 dX0_row_25 ⟨n, x, rfl, hn, by rw [if_pos (by omega)], rfl, rfl⟩ w rfl rfl
theorem M_empty0 {l : Launch} {D : va_G} {d : ClassId} {o h sz n : Nat} {x : Nat → Int64} : Met l yX0_empty (ws_ yX0_empty cX0_empty 1 none) ({} : Room) (PPc D d o (Ob 0 h n) h (La d 4096 x) sz [.ref o]) (va_Qv (fun u => u = (Ob 0 h 0, (La d 4096 x))) (PB D o h) (PA o (Ob 0 h n) h (La d 4096 x) sz)) 0 0 (PA o (Ob 0 h n) h (La d 4096 x) sz) := by
  have hN : (4096 : Nat) < 2147483648 := (Nat.le_of_ble_eq_true rfl)
  refine xp_metv (by decide) (Nat.le_of_ble_eq_true rfl) ?_
  intro p e s m args below meth c Q ls hsz S w hl K
  obtain ⟨hx, hb, hml, hown, hts⟩ := id S
  have hl : lv_has ls 1 [(0, .ref o)] := hl
  refine lv_aload_n hx hb dX0_empty_0 rfl (lv_at hl 0 rfl) ?_
  refine xi_iconst hx hb dX0_empty_1 ?_
  refine xo_put hx hb hts in_X0 tyX0 tyX0_ok nmX0 hown w 0 rfl rfl (by decide) q23 rfl rfl (by decide +kernel) 0 (by omega) dX0_empty_2 (fun H locs w => ?_)
  have w : xW D [(d, .long)] (PA o (Ob 0 h n) h (La d 4096 x) s.heap.size) s [(o, Ob 0 h 0), (h, La d 4096 x)] H locs := w
  exact K _ _ _ _ ls _ _ 0 1 dX0_empty_5 rfl w rfl rfl
theorem M_quick0 {l : Launch} {D : va_G} {d : ClassId} {o h sz n : Nat} {x : Nat → Int64} {a b : Int32} (hn : n ≤ 4096) : Met l yX0_quick (ws_ yX0_quick cX0_quick 5 (some .int)) ({ frames := 2044, locals := 67435 } : Room) (PPc D d o (Ob 0 h n) h (La d 4096 x) sz [.ref o, .int a, .int b]) (va_Qi (fun r u => ∃ n2 y, u = (Ob 0 h n2, La d 4096 y) ∧ n2 ≤ 4096 ∧ SSort a b n x r n2 y) (PB D o h) (PA o (Ob 0 h n) h (La d 4096 x) sz)) 0 0 (PA o (Ob 0 h n) h (La d 4096 x) sz) := by
  have hN : (4096 : Nat) < 2147483648 := (Nat.le_of_ble_eq_true rfl)
  refine xp_meti (by decide) (Nat.le_of_ble_eq_true rfl) ?_
  intro p e s m args below meth c Q ls hsz S w hl K
  obtain ⟨hx, hb, hml, hown, hts⟩ := id S
  have hl : lv_has ls 5 [(0, .ref o), (1, .int (a)), (2, .int (b))] := hl
  refine lv_aload_n hx hb dX0_quick_0 rfl (lv_at hl 0 rfl) ?_
  refine lv_iload_n hx hb dX0_quick_1 rfl (lv_at hl 1 rfl) ?_
  refine xv_calli (M_from0 (n := n) (a := a) hn) S (cwV 1 hts (lw_V q48 q50 qs0 q7 q51) rfl rfl rfl ⟨rfl, by decide, by decide, by decide⟩ ⟨(Nat.le_of_ble_eq_true rfl), (Nat.le_of_ble_eq_true rfl)⟩) w 0 1 0 rfl rfl (by decide) rfl rfl rfl hl.1 rfl (Nat.le_of_ble_eq_true rfl) dX0_quick_2 ⟨Nat.zero_le _, Nat.zero_le _⟩ (fun r9 u9 H locs h9 w => ?_)
  obtain ⟨rfl, rfl⟩ := h9
  obtain ⟨f, hf⟩ : ∃ f, f = fr a n := ⟨_, rfl⟩
  have hfn := fr_le a n
  rw [← hf] at hfn ⊢
  have w : xW D [(d, .long)] (PA o (Ob 0 h n) h (La d 4096 x) s.heap.size) s [(o, Ob 0 h n), (h, La d 4096 x)] H locs := w
  refine lv_istore_n (lv' := [(3, .int (iI ((f : Int)))), (0, .ref o), (1, .int (a)), (2, .int (b))]) hx hb dX0_quick_5 rfl hl (by decide) rfl (fun ls hl => ?_)
  refine lv_aload_n hx hb dX0_quick_6 rfl (lv_at hl 1 rfl) ?_
  refine lv_iload_n hx hb dX0_quick_7 rfl (lv_at hl 0 rfl) ?_
  refine lv_iload_n hx hb dX0_quick_8 rfl (lv_at hl 3 rfl) ?_
  refine xv_calli (M_count0 (n := n) (f := f) (a := b) hn hfn) S (cwV 2 hts (lw_V q52 q54 qs1 q7 q55) rfl rfl rfl ⟨rfl, by decide, by decide, by decide⟩ ⟨(Nat.le_of_ble_eq_true rfl), (Nat.le_of_ble_eq_true rfl)⟩) w 0 1 0 rfl rfl (by decide) rfl rfl rfl hl.1 rfl (Nat.le_of_ble_eq_true rfl) dX0_quick_9 ⟨Nat.zero_le _, Nat.zero_le _⟩ (fun r9 u9 H locs h9 w => ?_)
  obtain ⟨rfl, rfl⟩ := h9
  obtain ⟨cn, hc⟩ : ∃ f9, f9 = ctn f n b := ⟨_, rfl⟩
  have hcn := ctn_le f n b
  rw [← hc] at hcn ⊢
  have w : xW D [(d, .long)] (PA o (Ob 0 h n) h (La d 4096 x) s.heap.size) s [(o, Ob 0 h n), (h, La d 4096 x)] H locs := w
  refine lv_istore (lv' := [(4, .int (iI ((cn : Int)))), (3, .int (iI ((f : Int)))), (0, .ref o), (1, .int (a)), (2, .int (b))]) hx hb dX0_quick_12 hl (by decide) rfl (fun ls hl => ?_)
  refine lv_aload_n hx hb dX0_quick_14 rfl (lv_at hl 2 rfl) ?_
  refine xo_get hx hb hts in_X0 hown w 0 rfl rfl 0 (by decide) q22 rfl rfl dX0_quick_15 ?_
  refine lv_iload_n hx hb dX0_quick_18 rfl (lv_at hl 1 rfl) ?_
  refine lv_iload_n hx hb dX0_quick_19 rfl (lv_at hl 1 rfl) ?_
  refine lv_iload hx hb dX0_quick_20 (lv_at hl 0 rfl) ?_
  refine xi_iadd hx hb dX0_quick_22 ?_
  refine xa_callv (M_quick 2041 (f := f) (t := f + cn) rfl (by omega) (by omega) (by omega) (by omega) (by omega)) S (va_cwS 3 hts (lw_S q56 q57 q9 q58) rfl rfl rfl ⟨by decide, by decide, by decide⟩ ⟨(Nat.le_of_ble_eq_true rfl), (Nat.le_of_ble_eq_true rfl)⟩) w 1 0 rfl rfl rfl hl.1 rfl (by decide) dX0_quick_23 ⟨Nat.zero_le _, Nat.zero_le _⟩ (fun y H locs hy w => ?_)
  have w : xW D [(d, .long)] (PA o (Ob 0 h n) h (La d 4096 x) s.heap.size) s [(o, Ob 0 h n), (h, La d 4096 y)] H locs := w
  refine lv_iload hx hb dX0_quick_26 (lv_at hl 0 rfl) ?_
  exact K _ _ _ _ _ ls _ _ 0 1 dX0_quick_28 ⟨n, y, rfl, hn, by subst hf; subst hc; exact ⟨rfl, rfl, hy⟩⟩ w rfl rfl
theorem M_merge0 {l : Launch} {D : va_G} {d : ClassId} {o h sz n : Nat} {x : Nat → Int64} {a b : Int32} (hn : n ≤ 4096) : Met l yX0_merge (ws_ yX0_merge cX0_merge 5 (some .int)) ({ frames := 12, locals := 366, cells := 1, slots := 4096 } : Room) (PPc D d o (Ob 0 h n) h (La d 4096 x) sz [.ref o, .int a, .int b]) (va_Qi (fun r u => ∃ n2 y, u = (Ob 0 h n2, La d 4096 y) ∧ n2 ≤ 4096 ∧ SSort a b n x r n2 y) (PB D o h) (PA o (Ob 0 h n) h (La d 4096 x) sz)) 1 4096 (PA o (Ob 0 h n) h (La d 4096 x) sz) := by
  have hN : (4096 : Nat) < 2147483648 := (Nat.le_of_ble_eq_true rfl)
  refine xp_meti (by decide) (Nat.le_of_ble_eq_true rfl) ?_
  intro p e s m args below meth c Q ls hsz S w hl K
  obtain ⟨hx, hb, hml, hown, hts⟩ := id S
  have hl : lv_has ls 5 [(0, .ref o), (1, .int (a)), (2, .int (b))] := hl
  refine lv_aload_n hx hb dX0_merge_0 rfl (lv_at hl 0 rfl) ?_
  refine lv_iload_n hx hb dX0_merge_1 rfl (lv_at hl 1 rfl) ?_
  refine xv_calli (M_from0 (n := n) (a := a) hn) S (cwV 1 hts (lw_V q48 q50 qs0 q7 q51) rfl rfl rfl ⟨rfl, by decide, by decide, by decide⟩ ⟨(Nat.le_of_ble_eq_true rfl), (Nat.le_of_ble_eq_true rfl)⟩) w 0 1 0 rfl rfl (by decide) rfl rfl rfl hl.1 rfl (Nat.le_of_ble_eq_true rfl) dX0_merge_2 ⟨Nat.zero_le _, Nat.zero_le _⟩ (fun r9 u9 H locs h9 w => ?_)
  obtain ⟨rfl, rfl⟩ := h9
  obtain ⟨f, hf⟩ : ∃ f, f = fr a n := ⟨_, rfl⟩
  have hfn := fr_le a n
  rw [← hf] at hfn ⊢
  have w : xW D [(d, .long)] (PA o (Ob 0 h n) h (La d 4096 x) s.heap.size) s [(o, Ob 0 h n), (h, La d 4096 x)] H locs := w
  refine lv_istore_n (lv' := [(3, .int (iI ((f : Int)))), (0, .ref o), (1, .int (a)), (2, .int (b))]) hx hb dX0_merge_5 rfl hl (by decide) rfl (fun ls hl => ?_)
  refine lv_aload_n hx hb dX0_merge_6 rfl (lv_at hl 1 rfl) ?_
  refine lv_iload_n hx hb dX0_merge_7 rfl (lv_at hl 0 rfl) ?_
  refine lv_iload_n hx hb dX0_merge_8 rfl (lv_at hl 3 rfl) ?_
  refine xv_calli (M_count0 (n := n) (f := f) (a := b) hn hfn) S (cwV 2 hts (lw_V q52 q54 qs1 q7 q55) rfl rfl rfl ⟨rfl, by decide, by decide, by decide⟩ ⟨(Nat.le_of_ble_eq_true rfl), (Nat.le_of_ble_eq_true rfl)⟩) w 0 1 0 rfl rfl (by decide) rfl rfl rfl hl.1 rfl (Nat.le_of_ble_eq_true rfl) dX0_merge_9 ⟨Nat.zero_le _, Nat.zero_le _⟩ (fun r9 u9 H locs h9 w => ?_)
  obtain ⟨rfl, rfl⟩ := h9
  obtain ⟨cn, hc⟩ : ∃ f9, f9 = ctn f n b := ⟨_, rfl⟩
  have hcn := ctn_le f n b
  rw [← hc] at hcn ⊢
  have w : xW D [(d, .long)] (PA o (Ob 0 h n) h (La d 4096 x) s.heap.size) s [(o, Ob 0 h n), (h, La d 4096 x)] H locs := w
  refine lv_istore (lv' := [(4, .int (iI ((cn : Int)))), (3, .int (iI ((f : Int)))), (0, .ref o), (1, .int (a)), (2, .int (b))]) hx hb dX0_merge_12 hl (by decide) rfl (fun ls hl => ?_)
  refine lv_aload_n hx hb dX0_merge_14 rfl (lv_at hl 2 rfl) ?_
  refine xo_get hx hb hts in_X0 hown w 0 rfl rfl 0 (by decide) q22 rfl rfl dX0_merge_15 ?_
  refine lv_iload_n hx hb dX0_merge_18 rfl (lv_at hl 1 rfl) ?_
  refine lv_iload_n hx hb dX0_merge_19 rfl (lv_at hl 1 rfl) ?_
  refine lv_iload hx hb dX0_merge_20 (lv_at hl 0 rfl) ?_
  refine xi_iadd hx hb dX0_merge_22 ?_
  refine xa_callv (M_merge 8 (f := f) (t := f + cn) rfl (by omega) (by omega) (by omega) (by omega) (by omega)) S (va_cwS 3 hts (lw_S q82 q83 q9 q84) rfl rfl rfl ⟨by decide, by decide, by decide⟩ ⟨(Nat.le_of_ble_eq_true rfl), (Nat.le_of_ble_eq_true rfl)⟩) w 1 0 rfl rfl rfl hl.1 rfl (by decide) dX0_merge_23 ⟨Nat.le_refl 1, by show 0 + (f + cn) ≤ 4096; omega⟩ (fun y H locs hy w => ?_)
  have w : xW D [(d, .long)] (PA o (Ob 0 h n) h (La d 4096 x) s.heap.size) s [(o, Ob 0 h n), (h, La d 4096 y)] H locs := w
  refine W.widen (k := 1) (n := 4096) (by omega) (by omega) ?_
  refine lv_iload hx hb dX0_merge_26 (lv_at hl 0 rfl) ?_
  exact K _ _ _ _ _ ls _ _ 0 1 dX0_merge_28 ⟨n, y, rfl, hn, by subst hf; subst hc; exact ⟨rfl, rfl, hy⟩⟩ w rfl rfl
theorem M_radix0 {l : Launch} {D : va_G} {d : ClassId} {o h sz n : Nat} {x : Nat → Int64} {a b : Int32} (hn : n ≤ 4096) : Met l yX0_radix (ws_ yX0_radix cX0_radix 5 (some .int)) ({ frames := 509, locals := 16789, cells := 5, slots := 5870 } : Room) (PPc D d o (Ob 0 h n) h (La d 4096 x) sz [.ref o, .int a, .int b]) (va_Qi (fun r u => ∃ n2 y, u = (Ob 0 h n2, La d 4096 y) ∧ n2 ≤ 4096 ∧ SSort a b n x r n2 y) (PB D o h) (PA o (Ob 0 h n) h (La d 4096 x) sz)) 5 5870 (PA o (Ob 0 h n) h (La d 4096 x) sz) := by
  have hN : (4096 : Nat) < 2147483648 := (Nat.le_of_ble_eq_true rfl)
  refine xp_meti (by decide) (Nat.le_of_ble_eq_true rfl) ?_
  intro p e s m args below meth c Q ls hsz S w hl K
  obtain ⟨hx, hb, hml, hown, hts⟩ := id S
  have hl : lv_has ls 5 [(0, .ref o), (1, .int (a)), (2, .int (b))] := hl
  refine lv_aload_n hx hb dX0_radix_0 rfl (lv_at hl 0 rfl) ?_
  refine lv_iload_n hx hb dX0_radix_1 rfl (lv_at hl 1 rfl) ?_
  refine xv_calli (M_from0 (n := n) (a := a) hn) S (cwV 1 hts (lw_V q48 q50 qs0 q7 q51) rfl rfl rfl ⟨rfl, by decide, by decide, by decide⟩ ⟨(Nat.le_of_ble_eq_true rfl), (Nat.le_of_ble_eq_true rfl)⟩) w 0 1 0 rfl rfl (by decide) rfl rfl rfl hl.1 rfl (Nat.le_of_ble_eq_true rfl) dX0_radix_2 ⟨Nat.zero_le _, Nat.zero_le _⟩ (fun r9 u9 H locs h9 w => ?_)
  obtain ⟨rfl, rfl⟩ := h9
  obtain ⟨f, hf⟩ : ∃ f, f = fr a n := ⟨_, rfl⟩
  have hfn := fr_le a n
  rw [← hf] at hfn ⊢
  have w : xW D [(d, .long)] (PA o (Ob 0 h n) h (La d 4096 x) s.heap.size) s [(o, Ob 0 h n), (h, La d 4096 x)] H locs := w
  refine lv_istore_n (lv' := [(3, .int (iI ((f : Int)))), (0, .ref o), (1, .int (a)), (2, .int (b))]) hx hb dX0_radix_5 rfl hl (by decide) rfl (fun ls hl => ?_)
  refine lv_aload_n hx hb dX0_radix_6 rfl (lv_at hl 1 rfl) ?_
  refine lv_iload_n hx hb dX0_radix_7 rfl (lv_at hl 0 rfl) ?_
  refine lv_iload_n hx hb dX0_radix_8 rfl (lv_at hl 3 rfl) ?_
  refine xv_calli (M_count0 (n := n) (f := f) (a := b) hn hfn) S (cwV 2 hts (lw_V q52 q54 qs1 q7 q55) rfl rfl rfl ⟨rfl, by decide, by decide, by decide⟩ ⟨(Nat.le_of_ble_eq_true rfl), (Nat.le_of_ble_eq_true rfl)⟩) w 0 1 0 rfl rfl (by decide) rfl rfl rfl hl.1 rfl (Nat.le_of_ble_eq_true rfl) dX0_radix_9 ⟨Nat.zero_le _, Nat.zero_le _⟩ (fun r9 u9 H locs h9 w => ?_)
  obtain ⟨rfl, rfl⟩ := h9
  obtain ⟨cn, hc⟩ : ∃ f9, f9 = ctn f n b := ⟨_, rfl⟩
  have hcn := ctn_le f n b
  rw [← hc] at hcn ⊢
  have w : xW D [(d, .long)] (PA o (Ob 0 h n) h (La d 4096 x) s.heap.size) s [(o, Ob 0 h n), (h, La d 4096 x)] H locs := w
  refine lv_istore (lv' := [(4, .int (iI ((cn : Int)))), (3, .int (iI ((f : Int)))), (0, .ref o), (1, .int (a)), (2, .int (b))]) hx hb dX0_radix_12 hl (by decide) rfl (fun ls hl => ?_)
  refine lv_aload_n hx hb dX0_radix_14 rfl (lv_at hl 2 rfl) ?_
  refine xo_get hx hb hts in_X0 hown w 0 rfl rfl 0 (by decide) q22 rfl rfl dX0_radix_15 ?_
  refine lv_iload_n hx hb dX0_radix_18 rfl (lv_at hl 1 rfl) ?_
  refine lv_iload_n hx hb dX0_radix_19 rfl (lv_at hl 1 rfl) ?_
  refine lv_iload hx hb dX0_radix_20 (lv_at hl 0 rfl) ?_
  refine xi_iadd hx hb dX0_radix_22 ?_
  refine xa_callv (M_radix (f := f) (t := f + cn) rfl (by omega) (by omega) (by omega) (by omega)) S (va_cwS 3 hts (lw_S q111 q112 q9 q113) rfl rfl rfl ⟨by decide, by decide, by decide⟩ ⟨(Nat.le_of_ble_eq_true rfl), (Nat.le_of_ble_eq_true rfl)⟩) w 1 0 rfl rfl rfl hl.1 rfl (by decide) dX0_radix_23 ⟨(Nat.le_of_ble_eq_true rfl), (Nat.le_of_ble_eq_true rfl)⟩ (fun y H locs hy w => ?_)
  have w : xW D [(d, .long)] (PA o (Ob 0 h n) h (La d 4096 x) s.heap.size) s [(o, Ob 0 h n), (h, La d 4096 y)] H locs := w
  refine W.widen (k := 5) (n := 5870) (by omega) (by omega) ?_
  refine lv_iload hx hb dX0_radix_26 (lv_at hl 0 rfl) ?_
  exact K _ _ _ _ _ ls _ _ 0 1 dX0_radix_28 ⟨n, y, rfl, hn, by subst hf; subst hc; exact ⟨rfl, rfl, hy⟩⟩ w rfl rfl
theorem M_find0 {l : Launch} {D : va_G} {d : ClassId} {o h sz n : Nat} {x : Nat → Int64} {a b : Int32} (hn : n ≤ 4096) : Met l yX0_find (ws_ yX0_find cX0_find 4 (some .int)) ({ frames := 12, locals := 400, cells := 1, slots := 4096 } : Room) (PPc D d o (Ob 0 h n) h (La d 4096 x) sz [.ref o, .int a, .int b]) (va_Qi (fun r u => ∃ n2 y, u = (Ob 0 h n2, La d 4096 y) ∧ n2 ≤ 4096 ∧ SFind a b n x r n2 y) (PB D o h) (PA o (Ob 0 h n) h (La d 4096 x) sz)) 1 4096 (PA o (Ob 0 h n) h (La d 4096 x) sz) := by
  have hN : (4096 : Nat) < 2147483648 := (Nat.le_of_ble_eq_true rfl)
  refine xp_meti (by decide) (Nat.le_of_ble_eq_true rfl) ?_
  intro p e s m args below meth c Q ls hsz S w hl K
  obtain ⟨hx, hb, hml, hown, hts⟩ := id S
  have hl : lv_has ls 4 [(0, .ref o), (1, .int (a)), (2, .int (b))] := hl
  refine lv_aload_n hx hb dX0_find_0 rfl (lv_at hl 0 rfl) ?_
  refine xo_get hx hb hts in_X0 hown w 0 rfl rfl 0 (by decide) q22 rfl rfl dX0_find_1 ?_
  refine xi_iconst hx hb dX0_find_4 ?_
  refine lv_aload_n hx hb dX0_find_5 rfl (lv_at hl 0 rfl) ?_
  refine xo_get hx hb hts in_X0 hown w 0 rfl rfl 1 (by decide) q23 rfl rfl dX0_find_6 ?_
  refine xa_callv (M_merge 8 (f := 0) (t := n) rfl rfl (by omega) (by omega) (by omega) (by omega)) S (va_cwS 3 hts (lw_S q82 q83 q9 q84) rfl rfl rfl ⟨by decide, by decide, by decide⟩ ⟨(Nat.le_of_ble_eq_true rfl), (Nat.le_of_ble_eq_true rfl)⟩) w 1 0 rfl rfl rfl hl.1 rfl (by decide) dX0_find_9 ⟨Nat.le_refl 1, by show 0 + n ≤ 4096; omega⟩ (fun y H locs hy w => ?_)
  have w : xW D [(d, .long)] (PA o (Ob 0 h n) h (La d 4096 x) s.heap.size) s [(o, Ob 0 h n), (h, La d 4096 y)] H locs := w
  refine W.widen (k := 1) (n := 4096) (by omega) (by omega) ?_
  refine lv_aload_n hx hb dX0_find_12 rfl (lv_at hl 0 rfl) ?_
  refine xo_get hx hb hts in_X0 hown w 0 rfl rfl 0 (by decide) q22 rfl rfl dX0_find_13 ?_
  refine xi_iconst hx hb dX0_find_16 ?_
  refine lv_aload_n hx hb dX0_find_17 rfl (lv_at hl 0 rfl) ?_
  refine xo_get hx hb hts in_X0 hown w 0 rfl rfl 1 (by decide) q23 rfl rfl dX0_find_18 ?_
  refine lv_iload_n hx hb dX0_find_21 rfl (lv_at hl 1 rfl) ?_
  refine lv_iload_n hx hb dX0_find_22 rfl (lv_at hl 2 rfl) ?_
  refine xs_calll (M_wide0 (rm := {}) (a := a) (b := b)) S (va_cwS 2 hts (lw_S q34 q35 q7 q36) rfl rfl rfl ⟨by decide, by decide, by decide⟩ ⟨(Nat.le_of_ble_eq_true rfl), (Nat.le_of_ble_eq_true rfl)⟩) rfl rfl hl.1 rfl (Nat.le_of_ble_eq_true rfl) dX0_find_23 ⟨Nat.le_refl 1, Nat.le_refl 4096⟩ (fun rw1 hrw1 => ?_)
  subst hrw1
  refine xa_calli (M_search (rm := {}) (f := 0) (t := n) (v := wd a b) rfl rfl (by omega) (by omega) (by omega) hy.2) S (va_cwS 4 hts (lw_S q124 q125 q9 q126) rfl rfl rfl ⟨by decide, by decide, by decide⟩ ⟨(Nat.le_of_ble_eq_true rfl), (Nat.le_of_ble_eq_true rfl)⟩) w 1 0 rfl rfl rfl hl.1 rfl (by decide) dX0_find_26 ⟨Nat.le_refl 1, Nat.le_refl 4096⟩ (fun r9 y9 H locs h9 w => ?_)
  obtain ⟨e9, h9⟩ := h9
  have w : xW D [(d, .long)] (PA o (Ob 0 h n) h (La d 4096 x) s.heap.size) s [(o, Ob 0 h n), (h, La d 4096 y)] H locs := by rw [e9] at w; exact w
  rcases h9 with ⟨k, k0, k1, rfl, k2⟩ | ⟨k, k0, k1, rfl, k2, k3⟩
  · skip
    refine lv_istore_n (lv' := [(3, .int (iI ((k : Int)))), (0, .ref o), (1, .int (a)), (2, .int (b))]) hx hb dX0_find_29 rfl hl (by decide) rfl (fun ls hl => ?_)
    refine lv_iload_n hx hb dX0_find_30 rfl (lv_at hl 0 rfl) ?_
    refine xi_if_ge hx hb dX0_find_31 (tgt := 38) (by decide) (by unfold iR; omega) (fun h31 => ?_) (fun h31 => ?_)
    · skip
      refine lv_aload_n hx hb dX0_find_38 rfl (lv_at hl 1 rfl) ?_
      refine xo_get hx hb hts in_X0 hown w 0 rfl rfl 0 (by decide) q22 rfl rfl dX0_find_39 ?_
      refine lv_iload_n hx hb dX0_find_42 rfl (lv_at hl 0 rfl) ?_
      refine xa_lald hx hb w 1 0 rfl rfl k (by omega) (by omega) (Nat.le_of_ble_eq_true rfl) dX0_find_43 ?_
      refine lv_iload_n hx hb dX0_find_44 rfl (lv_at hl 2 rfl) ?_
      refine lv_iload_n hx hb dX0_find_45 rfl (lv_at hl 3 rfl) ?_
      refine xs_calll (M_wide0 (rm := {}) (a := a) (b := b)) S (va_cwS 2 hts (lw_S q34 q35 q7 q36) rfl rfl rfl ⟨by decide, by decide, by decide⟩ ⟨(Nat.le_of_ble_eq_true rfl), (Nat.le_of_ble_eq_true rfl)⟩) rfl rfl hl.1 rfl (Nat.le_of_ble_eq_true rfl) dX0_find_46 ⟨Nat.le_refl 1, Nat.le_refl 4096⟩ (fun rw2 hrw2 => ?_)
      subst hrw2
      refine xl_cmp_ne hx hb dX0_find_49 dX0_find_50 (tgt := 59) (by decide) (fun h49 => ?_) (fun h49 => ?_)
      · skip
        exact absurd k2 h49
      · skip
        refine xi_sipush hx hb dX0_find_53 (by decide) ?_
        refine lv_goto (tgt := 62) hx hb dX0_find_56 (by decide) ?_
        exact K _ _ _ _ _ ls _ _ 0 1 dX0_find_62 ⟨n, y, rfl, hn, rfl, hy, Or.inl ⟨k, by omega, k2, rfl⟩⟩ w rfl rfl
    · skip
      exfalso; omega
  · skip
    refine lv_istore_n (lv' := [(3, .int (iI (-((k : Int) + 1)))), (0, .ref o), (1, .int (a)), (2, .int (b))]) hx hb dX0_find_29 rfl hl (by decide) rfl (fun ls hl => ?_)
    refine lv_iload_n hx hb dX0_find_30 rfl (lv_at hl 0 rfl) ?_
    refine xi_if_ge hx hb dX0_find_31 (tgt := 38) (by decide) (by unfold iR; omega) (fun h31 => ?_) (fun h31 => ?_)
    · skip
      exfalso; omega
    · skip
      refine lv_iload_n hx hb dX0_find_34 rfl (lv_at hl 0 rfl) ?_
      refine lv_goto (tgt := 62) hx hb dX0_find_35 (by decide) ?_
      exact K _ _ _ _ _ ls _ _ 0 1 dX0_find_62 ⟨n, y, rfl, hn, rfl, hy, Or.inr ⟨k, by omega, rfl, fun i q => k2 i (by omega) q, k3⟩⟩ w rfl rfl
end
section
/-! LongSortDeskModel: its methods -/
set_option maxRecDepth 100000
set_option maxHeartbeats 1000000
theorem M_wide1 {l : Launch} {rm : Room} {a b : Int32} : Met l yX1_wide (ws_ yX1_wide cX1_wide 2 (some .long)) rm (va_Pc [.int a, .int b] (fun _ => True)) (vp_Sl (fun r => r = wd a b)) 0 0 (fun _ => False) := by
  refine xs_metl (by decide) (Nat.le_of_ble_eq_true rfl) ?_
  intro p e s m args below meth c Q ls S hl K
  obtain ⟨hx, hb, hml, hown, hts⟩ := id S
  have hl : lv_has ls 2 [(0, .int a), (1, .int b)] := hl
  refine lv_iload_n hx hb dX1_wide_0 rfl (lv_at hl 0 rfl) ?_
  refine lv_i2l hx hb dX1_wide_1 rfl ?_
  refine xi_bipush hx hb dX1_wide_2 (by decide) ?_
  refine lv_lshl hx hb dX1_wide_4 rfl ?_
  refine lv_iload_n hx hb dX1_wide_5 rfl (lv_at hl 1 rfl) ?_
  refine lv_i2l hx hb dX1_wide_6 rfl ?_
  refine lv_ldc2 hx hb hown (hts _ q151) dX1_wide_7 ?_
  refine lv_land hx hb dX1_wide_10 ?_
  refine lv_ladd hx hb dX1_wide_11 ?_
  exact K _ _ ls dX1_wide_12 (rfl)
theorem M_from1 {l : Launch} {D : va_G} {d : ClassId} {o h sz n : Nat} {x : Nat → Int64} {a : Int32} (hn : n ≤ 4096) : Met l yX1_from (ws_ yX1_from cX1_from 2 (some .int)) ({} : Room) (PPc D d o (Ob 1 h n) h (La d 4096 x) sz [.ref o, .int a]) (va_Qi (fun r u => r = iI ((fr a n : Nat) : Int) ∧ u = ((Ob 1 h n), (La d 4096 x))) (PB D o h) (PA o (Ob 1 h n) h (La d 4096 x) sz)) 0 0 (PA o (Ob 1 h n) h (La d 4096 x) sz) := by
  have hm := mk_lt a
  have hN : (4096 : Nat) < 2147483648 := (Nat.le_of_ble_eq_true rfl)
  refine xp_meti (by decide) (Nat.le_of_ble_eq_true rfl) ?_
  intro p e s m args below meth c Q ls hsz S w hl K
  obtain ⟨hx, hb, hml, hown, hts⟩ := id S
  have hl : lv_has ls 2 [(0, .ref o), (1, .int (a))] := hl
  refine lv_iload_n hx hb dX1_from_0 rfl (lv_at hl 1 rfl) ?_
  refine lv_ldc hx hb hown (hts _ q156) dX1_from_1 ?_
  refine lv_iand hx hb dX1_from_3 ?_
  refine xi_topr ((mk a : Int)) (mk_eq _) ?_
  refine lv_aload_n hx hb dX1_from_4 rfl (lv_at hl 0 rfl) ?_
  refine xo_get hx hb hts in_X1 hown w 0 rfl rfl 1 (by decide) q138 rfl rfl dX1_from_5 ?_
  refine xi_iconst hx hb dX1_from_8 ?_
  refine xi_iadd hx hb dX1_from_9 ?_
  refine xi_irem hx hb (by omega) (by omega) dX1_from_10 ?_
  exact K _ _ _ _ _ ls _ _ 0 1 dX1_from_11 ⟨congrArg iI (show ((mk a : Int)) % ((n : Int) + 1) = ((mk a % (n + 1) : Nat) : Int) by rw [show ((n : Int) + 1) = ((n + 1 : Nat) : Int) by omega]; omega), rfl⟩ w rfl rfl
theorem M_count1 {l : Launch} {D : va_G} {d : ClassId} {o h sz n : Nat} {x : Nat → Int64} {f : Nat} {a : Int32} (hn : n ≤ 4096) (hf : f ≤ n) : Met l yX1_count (ws_ yX1_count cX1_count 3 (some .int)) ({} : Room) (PPc D d o (Ob 1 h n) h (La d 4096 x) sz [.ref o, .int (iI (f : Int)), .int a]) (va_Qi (fun r u => r = iI ((ctn f n a : Nat) : Int) ∧ u = ((Ob 1 h n), (La d 4096 x))) (PB D o h) (PA o (Ob 1 h n) h (La d 4096 x) sz)) 0 0 (PA o (Ob 1 h n) h (La d 4096 x) sz) := by
  have hm := mk_lt a
  have hN : (4096 : Nat) < 2147483648 := (Nat.le_of_ble_eq_true rfl)
  refine xp_meti (by decide) (Nat.le_of_ble_eq_true rfl) ?_
  intro p e s m args below meth c Q ls hsz S w hl K
  obtain ⟨hx, hb, hml, hown, hts⟩ := id S
  have hl : lv_has ls 3 [(0, .ref o), (1, .int (iI ((f : Int)))), (2, .int (a))] := hl
  refine lv_iload_n hx hb dX1_count_0 rfl (lv_at hl 2 rfl) ?_
  refine lv_ldc hx hb hown (hts _ q156) dX1_count_1 ?_
  refine lv_iand hx hb dX1_count_3 ?_
  refine xi_topr ((mk a : Int)) (mk_eq _) ?_
  refine lv_aload_n hx hb dX1_count_4 rfl (lv_at hl 0 rfl) ?_
  refine xo_get hx hb hts in_X1 hown w 0 rfl rfl 1 (by decide) q138 rfl rfl dX1_count_5 ?_
  refine lv_iload_n hx hb dX1_count_8 rfl (lv_at hl 1 rfl) ?_
  refine xi_isub hx hb dX1_count_9 ?_
  refine xi_iconst hx hb dX1_count_10 ?_
  refine xi_iadd hx hb dX1_count_11 ?_
  refine xi_irem hx hb (by omega) (by omega) dX1_count_12 ?_
  exact K _ _ _ _ _ ls _ _ 0 1 dX1_count_13 ⟨congrArg iI (show ((mk a : Int)) % ((n : Int) - (f : Int) + 1) = ((mk a % (n - f + 1) : Nat) : Int) by rw [show ((n : Int) - (f : Int) + 1) = ((n - f + 1 : Nat) : Int) by omega]; omega), rfl⟩ w rfl rfl
theorem M_put1 {l : Launch} {D : va_G} {d : ClassId} {o h sz n : Nat} {x : Nat → Int64} {a b : Int32} (hn : n ≤ 4096) : Met l yX1_put (ws_ yX1_put cX1_put 3 (some .boolean)) ({ frames := 1, locals := 40 } : Room) (PPc D d o (Ob 1 h n) h (La d 4096 x) sz [.ref o, .int a, .int b]) (va_Qi (fun r u => ∃ n2 y, u = (Ob 1 h n2, La d 4096 y) ∧ n2 ≤ 4096 ∧ SPut a b n x r n2 y) (PB D o h) (PA o (Ob 1 h n) h (La d 4096 x) sz)) 0 0 (PA o (Ob 1 h n) h (La d 4096 x) sz) := by
  have hN : (4096 : Nat) < 2147483648 := (Nat.le_of_ble_eq_true rfl)
  refine xp_metz (by decide) (Nat.le_of_ble_eq_true rfl) ?_
  intro p e s m args below meth c Q ls hsz S w hl K
  obtain ⟨hx, hb, hml, hown, hts⟩ := id S
  have hl : lv_has ls 3 [(0, .ref o), (1, .int (a)), (2, .int (b))] := hl
  refine lv_aload_n hx hb dX1_put_0 rfl (lv_at hl 0 rfl) ?_
  refine xo_get hx hb hts in_X1 hown w 0 rfl rfl 1 (by decide) q138 rfl rfl dX1_put_1 ?_
  refine xi_sipush hx hb dX1_put_4 (by decide) ?_
  refine xi_icmp_lt hx hb dX1_put_7 (tgt := 12) (by decide) (by unfold iR; omega) (by unfold iR; omega) (fun h7 => ?_) (fun h7 => ?_)
  · skip
    refine lv_aload_n hx hb dX1_put_12 rfl (lv_at hl 0 rfl) ?_
    refine xo_get hx hb hts in_X1 hown w 0 rfl rfl 0 (by decide) q137 rfl rfl dX1_put_13 ?_
    refine lv_aload_n hx hb dX1_put_16 rfl (lv_at hl 0 rfl) ?_
    refine xo_get hx hb hts in_X1 hown w 0 rfl rfl 1 (by decide) q138 rfl rfl dX1_put_17 ?_
    refine lv_iload_n hx hb dX1_put_20 rfl (lv_at hl 1 rfl) ?_
    refine lv_iload_n hx hb dX1_put_21 rfl (lv_at hl 2 rfl) ?_
    refine xs_calll (M_wide1 (rm := {}) (a := a) (b := b)) S (va_cwS 2 hts (lw_S q148 q149 q8 q150) rfl rfl rfl ⟨by decide, by decide, by decide⟩ ⟨(Nat.le_of_ble_eq_true rfl), (Nat.le_of_ble_eq_true rfl)⟩) rfl rfl hl.1 rfl (Nat.le_of_ble_eq_true rfl) dX1_put_22 ⟨Nat.zero_le _, Nat.zero_le _⟩ (fun rw1 hrw1 => ?_)
    subst hrw1
    refine xa_last hx hb w 1 0 rfl rfl n (by omega) (by omega) (Nat.le_of_ble_eq_true rfl) dX1_put_25 (fun H locs w => ?_)
    obtain ⟨y, ey⟩ : ∃ y9, y9 = vp_updL x n (wd a b) := ⟨_, rfl⟩
    have w : xW D [(d, .long)] (PA o (Ob 1 h n) h (La d 4096 x) s.heap.size) s [(o, Ob 1 h n), (h, La d 4096 y)] H locs := by rw [ey]; exact w
    refine lv_aload_n hx hb dX1_put_26 rfl (lv_at hl 0 rfl) ?_
    refine lv_dup hx hb dX1_put_27 rfl ?_
    refine xo_get hx hb hts in_X1 hown w 0 rfl rfl 1 (by decide) q138 rfl rfl dX1_put_28 ?_
    refine xi_iconst hx hb dX1_put_31 ?_
    refine xi_iadd hx hb dX1_put_32 ?_
    refine xo_put hx hb hts in_X1 tyX1 tyX1_ok nmX1 hown w 0 rfl rfl (by decide) q138 rfl rfl (by decide +kernel) (n + 1) (by omega) dX1_put_33 (fun H locs w => ?_)
    have w : xW D [(d, .long)] (PA o (Ob 1 h n) h (La d 4096 x) s.heap.size) s [(o, Ob 1 h (n + 1)), (h, La d 4096 y)] H locs := w
    refine xi_iconst hx hb dX1_put_36 ?_
    exact K _ _ _ _ _ ls _ _ 0 1 dX1_put_37 rfl ⟨(n + 1), y, rfl, by omega, Or.inr ⟨by omega, rfl, rfl, ey⟩⟩ w rfl rfl
  · skip
    refine xi_iconst hx hb dX1_put_10 ?_
    exact K _ _ _ _ _ ls _ _ 0 1 dX1_put_11 rfl ⟨n, x, rfl, by omega, Or.inl ⟨by omega, rfl, rfl, rfl⟩⟩ w rfl rfl
theorem M_ramp1 {l : Launch} {D : va_G} {d : ClassId} {o h sz n : Nat} {x : Nat → Int64} {ct a b st : Int32} (hn : n ≤ 4096) : Met l yX1_ramp (ws_ yX1_ramp cX1_ramp 7 (some .int)) ({ frames := 1, locals := 40 } : Room) (PPc D d o (Ob 1 h n) h (La d 4096 x) sz [.ref o, .int ct, .int a, .int b, .int st]) (va_Qi (fun r u => ∃ n2 y, u = (Ob 1 h n2, La d 4096 y) ∧ n2 ≤ 4096 ∧ SRamp ct a b st n x r n2 y) (PB D o h) (PA o (Ob 1 h n) h (La d 4096 x) sz)) 0 0 (PA o (Ob 1 h n) h (La d 4096 x) sz) := by
  have hm := mk_lt ct
  have hN : (4096 : Nat) < 2147483648 := (Nat.le_of_ble_eq_true rfl)
  refine xp_meti (by decide) (Nat.le_of_ble_eq_true rfl) ?_
  intro p e s m args below meth c Q ls hsz S w hl K
  obtain ⟨hx, hb, hml, hown, hts⟩ := id S
  have hl : lv_has ls 7 [(0, .ref o), (1, .int (ct)), (2, .int (a)), (3, .int (b)), (4, .int (st))] := hl
  have loop : ∀ (r k : Nat) (zn zi : Int) (H : Heap) (locs : List Loc) (ls : Array Slot), k + r = min (mk ct % 257) (4096 - n) → zi = k → zn = ((mk ct % 257 : Nat) : Int) → xW D [(d, .long)] (PA o (Ob 1 h n) h (La d 4096 x) s.heap.size) s [(o, Ob 1 h (n + k)), (h, La d 4096 (rmp x n a b st k))] H locs → lv_has ls 7 [(0, .ref o), (2, .int (a)), (3, .int (b)), (4, .int (st)), (5, .int (iI (zn))), (6, .int (iI (zi)))] → W p l e ({ frames := 1, locals := 40 } : Room) s m args below meth c H locs 0 0 Q (F0 m 13 ls []) := by
    intro r
    induction r with
    | zero =>
      intro k zn zi H locs ls hr hzi hzn w hl
      refine lv_iload hx hb dX1_ramp_13 (lv_at hl 5 rfl) ?_
      refine lv_iload hx hb dX1_ramp_15 (lv_at hl 4 rfl) ?_
      refine xi_icmp_ge hx hb dX1_ramp_17 (tgt := 72) (by decide) (by unfold iR; omega) (by unfold iR; omega) (fun h17 => ?_) (fun h17 => ?_)
      · skip
        refine lv_iload hx hb dX1_ramp_72 (lv_at hl 5 rfl) ?_
        exact K _ _ _ _ _ ls _ _ 0 1 dX1_ramp_74 ⟨n + k, rmp x n a b st k, rfl, by omega, k, by omega, congrArg iI (by omega), rfl, rfl⟩ w rfl rfl
      · skip
        refine lv_aload_n hx hb dX1_ramp_20 rfl (lv_at hl 0 rfl) ?_
        refine xo_get hx hb hts in_X1 hown w 0 rfl rfl 1 (by decide) q138 rfl rfl dX1_ramp_21 ?_
        refine xi_sipush hx hb dX1_ramp_24 (by decide) ?_
        refine xi_icmp_ge hx hb dX1_ramp_27 (tgt := 72) (by decide) (by unfold iR; omega) (by unfold iR; omega) (fun h27 => ?_) (fun h27 => ?_)
        · skip
          refine lv_iload hx hb dX1_ramp_72 (lv_at hl 5 rfl) ?_
          exact K _ _ _ _ _ ls _ _ 0 1 dX1_ramp_74 ⟨n + k, rmp x n a b st k, rfl, by omega, k, by omega, congrArg iI (by omega), rfl, rfl⟩ w rfl rfl
        · skip
          exfalso; omega
    | succ r ih =>
      intro k zn zi H locs ls hr hzi hzn w hl
      refine lv_iload hx hb dX1_ramp_13 (lv_at hl 5 rfl) ?_
      refine lv_iload hx hb dX1_ramp_15 (lv_at hl 4 rfl) ?_
      refine xi_icmp_ge hx hb dX1_ramp_17 (tgt := 72) (by decide) (by unfold iR; omega) (by unfold iR; omega) (fun h17 => ?_) (fun h17 => ?_)
      · skip
        exfalso; omega
      · skip
        refine lv_aload_n hx hb dX1_ramp_20 rfl (lv_at hl 0 rfl) ?_
        refine xo_get hx hb hts in_X1 hown w 0 rfl rfl 1 (by decide) q138 rfl rfl dX1_ramp_21 ?_
        refine xi_sipush hx hb dX1_ramp_24 (by decide) ?_
        refine xi_icmp_ge hx hb dX1_ramp_27 (tgt := 72) (by decide) (by unfold iR; omega) (by unfold iR; omega) (fun h27 => ?_) (fun h27 => ?_)
        · skip
          exfalso; omega
        · skip
          refine lv_aload_n hx hb dX1_ramp_30 rfl (lv_at hl 0 rfl) ?_
          refine xo_get hx hb hts in_X1 hown w 0 rfl rfl 0 (by decide) q137 rfl rfl dX1_ramp_31 ?_
          refine lv_aload_n hx hb dX1_ramp_34 rfl (lv_at hl 0 rfl) ?_
          refine xo_get hx hb hts in_X1 hown w 0 rfl rfl 1 (by decide) q138 rfl rfl dX1_ramp_35 ?_
          refine lv_iload_n hx hb dX1_ramp_38 rfl (lv_at hl 1 rfl) ?_
          refine lv_iload_n hx hb dX1_ramp_39 rfl (lv_at hl 2 rfl) ?_
          refine xs_calll (M_wide1 (rm := {}) (a := a) (b := b)) S (va_cwS 2 hts (lw_S q148 q149 q8 q150) rfl rfl rfl ⟨by decide, by decide, by decide⟩ ⟨(Nat.le_of_ble_eq_true rfl), (Nat.le_of_ble_eq_true rfl)⟩) rfl rfl hl.1 rfl (Nat.le_of_ble_eq_true rfl) dX1_ramp_40 ⟨Nat.zero_le _, Nat.zero_le _⟩ (fun rw1 hrw1 => ?_)
          subst hrw1
          refine lv_ldc2 hx hb hown (hts _ q157) dX1_ramp_43 ?_
          refine lv_iload hx hb dX1_ramp_46 (lv_at hl 3 rfl) ?_
          refine lv_i2l hx hb dX1_ramp_48 rfl ?_
          refine lv_lmul hx hb dX1_ramp_49 ?_
          refine lv_iload hx hb dX1_ramp_50 (lv_at hl 5 rfl) ?_
          refine lv_i2l hx hb dX1_ramp_52 rfl ?_
          refine lv_lmul hx hb dX1_ramp_53 ?_
          refine lv_ladd hx hb dX1_ramp_54 ?_
          refine xl_top (wd a b + rv st k) (by rw [hzi, rv_model]) ?_
          refine xa_last hx hb w 1 0 rfl rfl ((n + k)) (by omega) (by omega) (Nat.le_of_ble_eq_true rfl) dX1_ramp_55 (fun H locs w => ?_)
          obtain ⟨y, ey⟩ : ∃ y9, y9 = vp_updL (rmp x n a b st k) ((n + k)) (wd a b + rv st k) := ⟨_, rfl⟩
          have w : xW D [(d, .long)] (PA o (Ob 1 h n) h (La d 4096 x) s.heap.size) s [(o, Ob 1 h (n + k)), (h, La d 4096 y)] H locs := by rw [ey]; exact w
          refine lv_aload_n hx hb dX1_ramp_56 rfl (lv_at hl 0 rfl) ?_
          refine lv_dup hx hb dX1_ramp_57 rfl ?_
          refine xo_get hx hb hts in_X1 hown w 0 rfl rfl 1 (by decide) q138 rfl rfl dX1_ramp_58 ?_
          refine xi_iconst hx hb dX1_ramp_61 ?_
          refine xi_iadd hx hb dX1_ramp_62 ?_
          refine xo_put hx hb hts in_X1 tyX1 tyX1_ok nmX1 hown w 0 rfl rfl (by decide) q138 rfl rfl (by decide +kernel) (n + k + 1) (by omega) dX1_ramp_63 (fun H locs w => ?_)
          have w : xW D [(d, .long)] (PA o (Ob 1 h n) h (La d 4096 x) s.heap.size) s [(o, Ob 1 h (n + k + 1)), (h, La d 4096 y)] H locs := w
          refine lv_iinc (v := iI (zi + 1)) (lv' := [(6, .int (iI (zi + 1))), (0, .ref o), (2, .int (a)), (3, .int (b)), (4, .int (st)), (5, .int (iI (zn)))]) hx hb dX1_ramp_66 hl (k := 5) rfl (xi_inc (by omega)) (by decide) rfl (fun ls hl => ?_)
          refine lv_goto (tgt := 13) hx hb dX1_ramp_69 (by decide) ?_
          have w : xW D [(d, .long)] (PA o (Ob 1 h n) h (La d 4096 x) s.heap.size) s [(o, Ob 1 h (n + (k + 1))), (h, La d 4096 (rmp x n a b st (k + 1)))] H locs := by rw [rmp_s, ← ey]; exact w
          exact ih (k + 1) _ _ H locs ls (by omega) (by omega) (by omega) w (lv_sub hl [1, 2, 3, 4, 5, 0] rfl)
  refine lv_iload_n hx hb dX1_ramp_0 rfl (lv_at hl 1 rfl) ?_
  refine lv_ldc hx hb hown (hts _ q156) dX1_ramp_1 ?_
  refine lv_iand hx hb dX1_ramp_3 ?_
  refine xi_topr ((mk ct : Int)) (mk_eq _) ?_
  refine xi_sipush hx hb dX1_ramp_4 (by decide) ?_
  refine xi_irem hx hb (by omega) (by omega) dX1_ramp_7 ?_
  refine lv_istore (lv' := [(5, .int (iI (((mk ct : Int)) % 257))), (0, .ref o), (1, .int (ct)), (2, .int (a)), (3, .int (b)), (4, .int (st))]) hx hb dX1_ramp_8 hl (by decide) rfl (fun ls hl => ?_)
  refine xi_iconst hx hb dX1_ramp_10 ?_
  refine lv_istore (lv' := [(6, .int (iI (0))), (5, .int (iI (((mk ct : Int)) % 257))), (0, .ref o), (1, .int (ct)), (2, .int (a)), (3, .int (b)), (4, .int (st))]) hx hb dX1_ramp_11 hl (by decide) rfl (fun ls hl => ?_)
  exact loop (min (mk ct % 257) (4096 - n)) 0 _ _ _ _ ls (by omega) (by omega) (by omega) w (lv_sub hl [2, 4, 5, 6, 1, 0] rfl)
theorem M_row1 {l : Launch} {D : va_G} {d : ClassId} {o h sz n : Nat} {x : Nat → Int64} {a : Int32} (hn : n ≤ 4096) : Met l yX1_row (ws_ yX1_row cX1_row 2 (some .long)) ({} : Room) (PPc D d o (Ob 1 h n) h (La d 4096 x) sz [.ref o, .int a]) (va_Ql (fun r u => ∃ n2 y, u = (Ob 1 h n2, La d 4096 y) ∧ n2 ≤ 4096 ∧ SRow a n x r n2 y) (PB D o h) (PA o (Ob 1 h n) h (La d 4096 x) sz)) 0 0 (PA o (Ob 1 h n) h (La d 4096 x) sz) := by
  have hm := mk_lt a
  have hN : (4096 : Nat) < 2147483648 := (Nat.le_of_ble_eq_true rfl)
  refine xp_metl (by decide) (Nat.le_of_ble_eq_true rfl) ?_
  intro p e s m args below meth c Q ls hsz S w hl K
  obtain ⟨hx, hb, hml, hown, hts⟩ := id S
  have hl : lv_has ls 2 [(0, .ref o), (1, .int (a))] := hl
  refine lv_aload_n hx hb dX1_row_0 rfl (lv_at hl 0 rfl) ?_
  refine xo_get hx hb hts in_X1 hown w 0 rfl rfl 1 (by decide) q138 rfl rfl dX1_row_1 ?_
  refine xi_if_ne hx hb dX1_row_4 (tgt := 11) (by decide) (by unfold iR; omega) (fun h4 => ?_) (fun h4 => ?_)
  · skip
    refine lv_aload_n hx hb dX1_row_11 rfl (lv_at hl 0 rfl) ?_
    refine xo_get hx hb hts in_X1 hown w 0 rfl rfl 0 (by decide) q137 rfl rfl dX1_row_12 ?_
    refine lv_iload_n hx hb dX1_row_15 rfl (lv_at hl 1 rfl) ?_
    refine lv_ldc hx hb hown (hts _ q156) dX1_row_16 ?_
    refine lv_iand hx hb dX1_row_18 ?_
    refine xi_topr ((mk a : Int)) (mk_eq _) ?_
    refine lv_aload_n hx hb dX1_row_19 rfl (lv_at hl 0 rfl) ?_
    refine xo_get hx hb hts in_X1 hown w 0 rfl rfl 1 (by decide) q138 rfl rfl dX1_row_20 ?_
    refine xi_irem hx hb (by omega) (by omega) dX1_row_23 ?_
    refine xa_lald hx hb w 1 0 rfl rfl ((mk a % n)) ((Int.natCast_emod (mk a) n).symm) (Nat.lt_of_lt_of_le (Nat.mod_lt _ (by omega)) hn) (Nat.le_of_ble_eq_true rfl) dX1_row_24 ?_
    exact K _ _ _ _ _ ls _ _ 0 1 dX1_row_25 ⟨n, x, rfl, hn, by rw [if_neg (by omega)], rfl, rfl⟩ w rfl rfl
  · skip
    refine lv_lconst (v := 0) hx hb dX1_row_7 rfl ?_
    refine lv_goto (tgt := 25) hx hb dX1_row_8 (by decide) ?_
    exact K _ _ _ _ _ ls _ _ 0 1 dX1_row_25 ⟨n, x, rfl, hn, by rw [if_pos (by omega)], rfl, rfl⟩ w rfl rfl
theorem M_empty1 {l : Launch} {D : va_G} {d : ClassId} {o h sz n : Nat} {x : Nat → Int64} : Met l yX1_empty (ws_ yX1_empty cX1_empty 1 none) ({} : Room) (PPc D d o (Ob 1 h n) h (La d 4096 x) sz [.ref o]) (va_Qv (fun u => u = (Ob 1 h 0, (La d 4096 x))) (PB D o h) (PA o (Ob 1 h n) h (La d 4096 x) sz)) 0 0 (PA o (Ob 1 h n) h (La d 4096 x) sz) := by
  have hN : (4096 : Nat) < 2147483648 := (Nat.le_of_ble_eq_true rfl)
  refine xp_metv (by decide) (Nat.le_of_ble_eq_true rfl) ?_
  intro p e s m args below meth c Q ls hsz S w hl K
  obtain ⟨hx, hb, hml, hown, hts⟩ := id S
  have hl : lv_has ls 1 [(0, .ref o)] := hl
  refine lv_aload_n hx hb dX1_empty_0 rfl (lv_at hl 0 rfl) ?_
  refine xi_iconst hx hb dX1_empty_1 ?_
  refine xo_put hx hb hts in_X1 tyX1 tyX1_ok nmX1 hown w 0 rfl rfl (by decide) q138 rfl rfl (by decide +kernel) 0 (by omega) dX1_empty_2 (fun H locs w => ?_)
  have w : xW D [(d, .long)] (PA o (Ob 1 h n) h (La d 4096 x) s.heap.size) s [(o, Ob 1 h 0), (h, La d 4096 x)] H locs := w
  exact K _ _ _ _ ls _ _ 0 1 dX1_empty_5 rfl w rfl rfl
theorem M_order {l : Launch} {D : va_G} {d : ClassId} {o h sz n : Nat} {x : Nat → Int64} {f cn : Nat} (hn : n ≤ 4096) (hf : f + cn ≤ n) : Met l yX1_order (ws_ yX1_order cX1_order 7 none) ({} : Room) (PPc D d o (Ob 1 h n) h (La d 4096 x) sz [.ref o, .int (iI (f : Int)), .int (iI (cn : Int))]) (va_Qv (fun u => ∃ y, u = ((Ob 1 h n), La d 4096 y) ∧ Srt f (f + cn) x y) (PB D o h) (PA o (Ob 1 h n) h (La d 4096 x) sz)) 0 0 (PA o (Ob 1 h n) h (La d 4096 x) sz) := by
  have hN : (4096 : Nat) < 2147483648 := (Nat.le_of_ble_eq_true rfl)
  refine xp_metv (by decide) (Nat.le_of_ble_eq_true rfl) ?_
  intro p e s m args below meth c Q ls hsz S w hl K
  obtain ⟨hx, hb, hml, hown, hts⟩ := id S
  have hl : lv_has ls 7 [(0, .ref o), (1, .int (iI ((f : Int)))), (2, .int (iI ((cn : Int))))] := hl
  have outer : ∀ (r i : Nat) (y : Nat → Int64) (zi : Int) (H : Heap) (locs : List Loc) (ls : Array Slot), f + cn ≤ i + r → i ≤ f + cn + 1 → zi = i → f < i → Pm f (f + cn) x y → So f i y → xW D [(d, .long)] (PA o (Ob 1 h n) h (La d 4096 x) s.heap.size) s [(o, Ob 1 h n), (h, La d 4096 y)] H locs → lv_has ls 7 [(0, .ref o), (1, .int (iI ((f : Int)))), (2, .int (iI ((cn : Int)))), (3, .int (iI (zi)))] → W p l e ({} : Room) s m args below meth c H locs 0 0 Q (F0 m 4 ls []) := by
    intro r
    induction r with
    | zero =>
      intro i y zi H locs ls hr hib hzi hfi hP hS w hl
      refine lv_iload_n hx hb dX1_order_4 rfl (lv_at hl 3 rfl) ?_
      refine lv_iload_n hx hb dX1_order_5 rfl (lv_at hl 1 rfl) ?_
      refine lv_iload_n hx hb dX1_order_6 rfl (lv_at hl 2 rfl) ?_
      refine xi_iadd hx hb dX1_order_7 ?_
      refine xi_icmp_ge hx hb dX1_order_8 (tgt := 80) (by decide) (by unfold iR; omega) (by unfold iR; omega) (fun h8 => ?_) (fun h8 => ?_)
      · skip
        exact K _ _ _ _ ls _ _ 0 1 dX1_order_80 ⟨y, rfl, hP, fun a b h1 h2 h3 => hS a b h1 h2 (by omega)⟩ w rfl rfl
      · skip
        exfalso; omega
    | succ r ih =>
      intro i y0 zi H locs ls hr hib hzi hfi hP hS w hl
      have inner : i < f + cn → ∀ (r2 j : Nat) (y : Nat → Int64) (v : Int64) (zj : Int) (H : Heap) (locs : List Loc) (ls : Array Slot), j ≤ f + r2 → zj = j → f ≤ j → j ≤ i → Pm f (f + cn) x (vp_updL y j v) → InsI f i j v y → xW D [(d, .long)] (PA o (Ob 1 h n) h (La d 4096 x) s.heap.size) s [(o, Ob 1 h n), (h, La d 4096 y)] H locs → lv_has ls 7 [(0, .ref o), (1, .int (iI ((f : Int)))), (2, .int (iI ((cn : Int)))), (3, .int (iI (zi))), (4, .long (v)), (6, .int (iI (zj)))] → W p l e ({} : Room) s m args below meth c H locs 0 0 Q (F0 m 22 ls []) := by
        intro hit r2
        induction r2 with
        | zero =>
          intro j y v zj H locs ls hr2 hzj hfj hji hP hI w hl
          refine lv_iload hx hb dX1_order_22 (lv_at hl 5 rfl) ?_
          refine lv_iload_n hx hb dX1_order_24 rfl (lv_at hl 1 rfl) ?_
          refine xi_icmp_le hx hb dX1_order_25 (tgt := 65) (by decide) (by unfold iR; omega) (by unfold iR; omega) (fun h25 => ?_) (fun h25 => ?_)
          · skip
            refine lv_aload_n hx hb dX1_order_65 rfl (lv_at hl 0 rfl) ?_
            refine xo_get hx hb hts in_X1 hown w 0 rfl rfl 0 (by decide) q137 rfl rfl dX1_order_66 ?_
            refine lv_iload hx hb dX1_order_69 (lv_at hl 5 rfl) ?_
            refine lv_lload hx hb dX1_order_71 (lv_at hl 4 rfl) ?_
            refine xa_last hx hb w 1 0 rfl rfl j (by omega) (by omega) (Nat.le_of_ble_eq_true rfl) dX1_order_73 (fun H locs w => ?_)
            obtain ⟨y1, ey1⟩ : ∃ y9, y9 = vp_updL y j (v) := ⟨_, rfl⟩
            have w : xW D [(d, .long)] (PA o (Ob 1 h n) h (La d 4096 x) s.heap.size) s [(o, Ob 1 h n), (h, La d 4096 y1)] H locs := by rw [ey1]; exact w
            refine lv_iinc (v := iI (zi + 1)) (lv' := [(3, .int (iI (zi + 1))), (0, .ref o), (1, .int (iI ((f : Int)))), (2, .int (iI ((cn : Int)))), (4, .long (v)), (6, .int (iI (zj)))]) hx hb dX1_order_74 hl (k := 3) rfl (xi_inc (by omega)) (by decide) rfl (fun ls hl => ?_)
            refine lv_goto (tgt := 4) hx hb dX1_order_77 (by decide) ?_
            exact ih (i + 1) y1 _ H locs ls (by omega) (by omega) (by omega) (by omega) (by rw [ey1]; exact hP) (by rw [ey1]; exact hI.fin (by omega) (by omega) (Or.inl (by omega))) w (lv_sub hl [1, 2, 3, 0] rfl)
          · skip
            exfalso; omega
        | succ r2 ih2 =>
          intro j y v zj H locs ls hr2 hzj hfj hji hP hI w hl
          refine lv_iload hx hb dX1_order_22 (lv_at hl 5 rfl) ?_
          refine lv_iload_n hx hb dX1_order_24 rfl (lv_at hl 1 rfl) ?_
          refine xi_icmp_le hx hb dX1_order_25 (tgt := 65) (by decide) (by unfold iR; omega) (by unfold iR; omega) (fun h25 => ?_) (fun h25 => ?_)
          · skip
            refine lv_aload_n hx hb dX1_order_65 rfl (lv_at hl 0 rfl) ?_
            refine xo_get hx hb hts in_X1 hown w 0 rfl rfl 0 (by decide) q137 rfl rfl dX1_order_66 ?_
            refine lv_iload hx hb dX1_order_69 (lv_at hl 5 rfl) ?_
            refine lv_lload hx hb dX1_order_71 (lv_at hl 4 rfl) ?_
            refine xa_last hx hb w 1 0 rfl rfl j (by omega) (by omega) (Nat.le_of_ble_eq_true rfl) dX1_order_73 (fun H locs w => ?_)
            obtain ⟨y1, ey1⟩ : ∃ y9, y9 = vp_updL y j (v) := ⟨_, rfl⟩
            have w : xW D [(d, .long)] (PA o (Ob 1 h n) h (La d 4096 x) s.heap.size) s [(o, Ob 1 h n), (h, La d 4096 y1)] H locs := by rw [ey1]; exact w
            refine lv_iinc (v := iI (zi + 1)) (lv' := [(3, .int (iI (zi + 1))), (0, .ref o), (1, .int (iI ((f : Int)))), (2, .int (iI ((cn : Int)))), (4, .long (v)), (6, .int (iI (zj)))]) hx hb dX1_order_74 hl (k := 3) rfl (xi_inc (by omega)) (by decide) rfl (fun ls hl => ?_)
            refine lv_goto (tgt := 4) hx hb dX1_order_77 (by decide) ?_
            exact ih (i + 1) y1 _ H locs ls (by omega) (by omega) (by omega) (by omega) (by rw [ey1]; exact hP) (by rw [ey1]; exact hI.fin (by omega) (by omega) (Or.inl (by omega))) w (lv_sub hl [1, 2, 3, 0] rfl)
          · skip
            refine lv_aload_n hx hb dX1_order_28 rfl (lv_at hl 0 rfl) ?_
            refine xo_get hx hb hts in_X1 hown w 0 rfl rfl 0 (by decide) q137 rfl rfl dX1_order_29 ?_
            refine lv_iload hx hb dX1_order_32 (lv_at hl 5 rfl) ?_
            refine xi_iconst hx hb dX1_order_34 ?_
            refine xi_isub hx hb dX1_order_35 ?_
            refine xa_lald hx hb w 1 0 rfl rfl ((j - 1)) (by omega) (by omega) (Nat.le_of_ble_eq_true rfl) dX1_order_36 ?_
            refine lv_lload hx hb dX1_order_37 (lv_at hl 4 rfl) ?_
            refine xl_cmp_le hx hb dX1_order_39 dX1_order_40 (tgt := 65) (by decide) (fun h39 => ?_) (fun h39 => ?_)
            · skip
              refine lv_aload_n hx hb dX1_order_65 rfl (lv_at hl 0 rfl) ?_
              refine xo_get hx hb hts in_X1 hown w 0 rfl rfl 0 (by decide) q137 rfl rfl dX1_order_66 ?_
              refine lv_iload hx hb dX1_order_69 (lv_at hl 5 rfl) ?_
              refine lv_lload hx hb dX1_order_71 (lv_at hl 4 rfl) ?_
              refine xa_last hx hb w 1 0 rfl rfl j (by omega) (by omega) (Nat.le_of_ble_eq_true rfl) dX1_order_73 (fun H locs w => ?_)
              obtain ⟨y1, ey1⟩ : ∃ y9, y9 = vp_updL y j (v) := ⟨_, rfl⟩
              have w : xW D [(d, .long)] (PA o (Ob 1 h n) h (La d 4096 x) s.heap.size) s [(o, Ob 1 h n), (h, La d 4096 y1)] H locs := by rw [ey1]; exact w
              refine lv_iinc (v := iI (zi + 1)) (lv' := [(3, .int (iI (zi + 1))), (0, .ref o), (1, .int (iI ((f : Int)))), (2, .int (iI ((cn : Int)))), (4, .long (v)), (6, .int (iI (zj)))]) hx hb dX1_order_74 hl (k := 3) rfl (xi_inc (by omega)) (by decide) rfl (fun ls hl => ?_)
              refine lv_goto (tgt := 4) hx hb dX1_order_77 (by decide) ?_
              exact ih (i + 1) y1 _ H locs ls (by omega) (by omega) (by omega) (by omega) (by rw [ey1]; exact hP) (by rw [ey1]; exact hI.fin (by omega) (by omega) (Or.inr h39)) w (lv_sub hl [1, 2, 3, 0] rfl)
            · skip
              refine lv_aload_n hx hb dX1_order_43 rfl (lv_at hl 0 rfl) ?_
              refine xo_get hx hb hts in_X1 hown w 0 rfl rfl 0 (by decide) q137 rfl rfl dX1_order_44 ?_
              refine lv_iload hx hb dX1_order_47 (lv_at hl 5 rfl) ?_
              refine lv_aload_n hx hb dX1_order_49 rfl (lv_at hl 0 rfl) ?_
              refine xo_get hx hb hts in_X1 hown w 0 rfl rfl 0 (by decide) q137 rfl rfl dX1_order_50 ?_
              refine lv_iload hx hb dX1_order_53 (lv_at hl 5 rfl) ?_
              refine xi_iconst hx hb dX1_order_55 ?_
              refine xi_isub hx hb dX1_order_56 ?_
              refine xa_lald hx hb w 1 0 rfl rfl ((j - 1)) (by omega) (by omega) (Nat.le_of_ble_eq_true rfl) dX1_order_57 ?_
              refine xa_last hx hb w 1 0 rfl rfl j (by omega) (by omega) (Nat.le_of_ble_eq_true rfl) dX1_order_58 (fun H locs w => ?_)
              obtain ⟨y1, ey1⟩ : ∃ y9, y9 = vp_updL y j (y ((j - 1))) := ⟨_, rfl⟩
              have w : xW D [(d, .long)] (PA o (Ob 1 h n) h (La d 4096 x) s.heap.size) s [(o, Ob 1 h n), (h, La d 4096 y1)] H locs := by rw [ey1]; exact w
              refine lv_iinc (v := iI (zj - 1)) (lv' := [(6, .int (iI (zj - 1))), (0, .ref o), (1, .int (iI ((f : Int)))), (2, .int (iI ((cn : Int)))), (3, .int (iI (zi))), (4, .long (v))]) hx hb dX1_order_59 hl (k := 5) rfl (xi_inc (by omega)) (by decide) rfl (fun ls hl => ?_)
              refine lv_goto (tgt := 22) hx hb dX1_order_62 (by decide) ?_
              exact ih2 (j - 1) y1 v _ H locs ls (by omega) (by omega) (by omega) (by omega) (by rw [ey1]; exact InsI.perm hP (by omega) (by omega)) (by rw [ey1]; exact hI.step (by omega) hji h39) w (lv_sub hl [1, 2, 3, 4, 5, 0] rfl)
      refine lv_iload_n hx hb dX1_order_4 rfl (lv_at hl 3 rfl) ?_
      refine lv_iload_n hx hb dX1_order_5 rfl (lv_at hl 1 rfl) ?_
      refine lv_iload_n hx hb dX1_order_6 rfl (lv_at hl 2 rfl) ?_
      refine xi_iadd hx hb dX1_order_7 ?_
      refine xi_icmp_ge hx hb dX1_order_8 (tgt := 80) (by decide) (by unfold iR; omega) (by unfold iR; omega) (fun h8 => ?_) (fun h8 => ?_)
      · skip
        exact K _ _ _ _ ls _ _ 0 1 dX1_order_80 ⟨y0, rfl, hP, fun a b h1 h2 h3 => hS a b h1 h2 (by omega)⟩ w rfl rfl
      · skip
        refine lv_aload_n hx hb dX1_order_11 rfl (lv_at hl 0 rfl) ?_
        refine xo_get hx hb hts in_X1 hown w 0 rfl rfl 0 (by decide) q137 rfl rfl dX1_order_12 ?_
        refine lv_iload_n hx hb dX1_order_15 rfl (lv_at hl 3 rfl) ?_
        refine xa_lald hx hb w 1 0 rfl rfl i (by omega) (by omega) (Nat.le_of_ble_eq_true rfl) dX1_order_16 ?_
        refine lv_lstore (lv' := [(4, .long (y0 i)), (0, .ref o), (1, .int (iI ((f : Int)))), (2, .int (iI ((cn : Int)))), (3, .int (iI (zi)))]) hx hb dX1_order_17 hl (by decide) rfl (fun ls hl => ?_)
        refine lv_iload_n hx hb dX1_order_19 rfl (lv_at hl 4 rfl) ?_
        refine lv_istore (lv' := [(6, .int (iI (zi))), (4, .long (y0 i)), (0, .ref o), (1, .int (iI ((f : Int)))), (2, .int (iI ((cn : Int)))), (3, .int (iI (zi)))]) hx hb dX1_order_20 hl (by decide) rfl (fun ls hl => ?_)
        exact inner (by omega) i i y0 _ _ H locs ls (by omega) (by omega) (by omega) (Nat.le_refl i) (by rw [updL_self]; exact hP) (InsI.init hS) w (lv_sub hl [2, 3, 4, 5, 1, 0] rfl)
  refine lv_iload_n hx hb dX1_order_0 rfl (lv_at hl 1 rfl) ?_
  refine xi_iconst hx hb dX1_order_1 ?_
  refine xi_iadd hx hb dX1_order_2 ?_
  refine lv_istore_n (lv' := [(3, .int (iI (((f : Int)) + 1))), (0, .ref o), (1, .int (iI ((f : Int)))), (2, .int (iI ((cn : Int))))]) hx hb dX1_order_3 rfl hl (by decide) rfl (fun ls hl => ?_)
  exact outer cn (f + 1) x _ _ _ ls (by omega) (by omega) (by omega) (by omega) (Pm.refl _ _ x) (So.empty (by omega)) w (lv_sub hl [1, 2, 3, 0] rfl)
theorem M_sorted {l : Launch} {D : va_G} {d : ClassId} {o h sz n : Nat} {x : Nat → Int64} {a b : Int32} (hn : n ≤ 4096) : Met l yX1_sorted (ws_ yX1_sorted cX1_sorted 5 (some .int)) ({ frames := 1, locals := 40 } : Room) (PPc D d o (Ob 1 h n) h (La d 4096 x) sz [.ref o, .int a, .int b]) (va_Qi (fun r u => ∃ n2 y, u = (Ob 1 h n2, La d 4096 y) ∧ n2 ≤ 4096 ∧ SSort a b n x r n2 y) (PB D o h) (PA o (Ob 1 h n) h (La d 4096 x) sz)) 0 0 (PA o (Ob 1 h n) h (La d 4096 x) sz) := by
  have hN : (4096 : Nat) < 2147483648 := (Nat.le_of_ble_eq_true rfl)
  refine xp_meti (by decide) (Nat.le_of_ble_eq_true rfl) ?_
  intro p e s m args below meth c Q ls hsz S w hl K
  obtain ⟨hx, hb, hml, hown, hts⟩ := id S
  have hl : lv_has ls 5 [(0, .ref o), (1, .int (a)), (2, .int (b))] := hl
  refine lv_aload_n hx hb dX1_sorted_0 rfl (lv_at hl 0 rfl) ?_
  refine lv_iload_n hx hb dX1_sorted_1 rfl (lv_at hl 1 rfl) ?_
  refine xv_calli (M_from1 (n := n) (a := a) hn) S (cwV 1 hts (lw_V q166 q168 qs3 q8 q169) rfl rfl rfl ⟨rfl, by decide, by decide, by decide⟩ ⟨(Nat.le_of_ble_eq_true rfl), (Nat.le_of_ble_eq_true rfl)⟩) w 0 1 0 rfl rfl (by decide) rfl rfl rfl hl.1 rfl (Nat.le_of_ble_eq_true rfl) dX1_sorted_2 ⟨Nat.zero_le _, Nat.zero_le _⟩ (fun r9 u9 H locs h9 w => ?_)
  obtain ⟨rfl, rfl⟩ := h9
  obtain ⟨f, hf⟩ : ∃ f, f = fr a n := ⟨_, rfl⟩
  have hfn := fr_le a n
  rw [← hf] at hfn ⊢
  have w : xW D [(d, .long)] (PA o (Ob 1 h n) h (La d 4096 x) s.heap.size) s [(o, Ob 1 h n), (h, La d 4096 x)] H locs := w
  refine lv_istore_n (lv' := [(3, .int (iI ((f : Int)))), (0, .ref o), (1, .int (a)), (2, .int (b))]) hx hb dX1_sorted_5 rfl hl (by decide) rfl (fun ls hl => ?_)
  refine lv_aload_n hx hb dX1_sorted_6 rfl (lv_at hl 1 rfl) ?_
  refine lv_iload_n hx hb dX1_sorted_7 rfl (lv_at hl 0 rfl) ?_
  refine lv_iload_n hx hb dX1_sorted_8 rfl (lv_at hl 3 rfl) ?_
  refine xv_calli (M_count1 (n := n) (f := f) (a := b) hn hfn) S (cwV 2 hts (lw_V q170 q172 qs4 q8 q173) rfl rfl rfl ⟨rfl, by decide, by decide, by decide⟩ ⟨(Nat.le_of_ble_eq_true rfl), (Nat.le_of_ble_eq_true rfl)⟩) w 0 1 0 rfl rfl (by decide) rfl rfl rfl hl.1 rfl (Nat.le_of_ble_eq_true rfl) dX1_sorted_9 ⟨Nat.zero_le _, Nat.zero_le _⟩ (fun r9 u9 H locs h9 w => ?_)
  obtain ⟨rfl, rfl⟩ := h9
  obtain ⟨cn, hc⟩ : ∃ f9, f9 = ctn f n b := ⟨_, rfl⟩
  have hcn := ctn_le f n b
  rw [← hc] at hcn ⊢
  have w : xW D [(d, .long)] (PA o (Ob 1 h n) h (La d 4096 x) s.heap.size) s [(o, Ob 1 h n), (h, La d 4096 x)] H locs := w
  refine lv_istore (lv' := [(4, .int (iI ((cn : Int)))), (3, .int (iI ((f : Int)))), (0, .ref o), (1, .int (a)), (2, .int (b))]) hx hb dX1_sorted_12 hl (by decide) rfl (fun ls hl => ?_)
  refine lv_aload_n hx hb dX1_sorted_14 rfl (lv_at hl 2 rfl) ?_
  refine lv_iload_n hx hb dX1_sorted_15 rfl (lv_at hl 1 rfl) ?_
  refine lv_iload hx hb dX1_sorted_16 (lv_at hl 0 rfl) ?_
  refine xv_callv (M_order (n := n) (f := f) (cn := cn) hn (by omega)) S (cwV 2 hts (lw_V q174 q176 qs5 q8 q177) rfl rfl rfl ⟨rfl, by decide, by decide, by decide⟩ ⟨(Nat.le_of_ble_eq_true rfl), (Nat.le_of_ble_eq_true rfl)⟩) w 0 1 0 rfl rfl (by decide) rfl rfl rfl hl.1 rfl (Nat.le_of_ble_eq_true rfl) dX1_sorted_18 ⟨Nat.zero_le _, Nat.zero_le _⟩ (fun u9 H locs h9 w => ?_)
  obtain ⟨y, rfl, hy⟩ := h9
  have w : xW D [(d, .long)] (PA o (Ob 1 h n) h (La d 4096 x) s.heap.size) s [(o, Ob 1 h n), (h, La d 4096 y)] H locs := w
  refine lv_iload hx hb dX1_sorted_21 (lv_at hl 0 rfl) ?_
  exact K _ _ _ _ _ ls _ _ 0 1 dX1_sorted_23 ⟨n, y, rfl, hn, by subst hf; subst hc; exact ⟨rfl, rfl, hy⟩⟩ w rfl rfl
theorem M_quick1 {l : Launch} {D : va_G} {d : ClassId} {o h sz n : Nat} {x : Nat → Int64} {a b : Int32} (hn : n ≤ 4096) : Met l yX1_quick (ws_ yX1_quick cX1_quick 3 (some .int)) ({ frames := 2, locals := 70 } : Room) (PPc D d o (Ob 1 h n) h (La d 4096 x) sz [.ref o, .int a, .int b]) (va_Qi (fun r u => ∃ n2 y, u = (Ob 1 h n2, La d 4096 y) ∧ n2 ≤ 4096 ∧ SSort a b n x r n2 y) (PB D o h) (PA o (Ob 1 h n) h (La d 4096 x) sz)) 0 0 (PA o (Ob 1 h n) h (La d 4096 x) sz) := by
  have hN : (4096 : Nat) < 2147483648 := (Nat.le_of_ble_eq_true rfl)
  refine xp_meti (by decide) (Nat.le_of_ble_eq_true rfl) ?_
  intro p e s m args below meth c Q ls hsz S w hl K
  obtain ⟨hx, hb, hml, hown, hts⟩ := id S
  have hl : lv_has ls 3 [(0, .ref o), (1, .int (a)), (2, .int (b))] := hl
  refine lv_aload_n hx hb dX1_quick_0 rfl (lv_at hl 0 rfl) ?_
  refine lv_iload_n hx hb dX1_quick_1 rfl (lv_at hl 1 rfl) ?_
  refine lv_iload_n hx hb dX1_quick_2 rfl (lv_at hl 2 rfl) ?_
  refine xv_calli (M_sorted (n := n) (a := a) (b := b) hn) S (cwV 2 hts (lw_V q162 q164 qs2 q8 q165) rfl rfl rfl ⟨rfl, by decide, by decide, by decide⟩ ⟨(Nat.le_of_ble_eq_true rfl), (Nat.le_of_ble_eq_true rfl)⟩) w 0 1 0 rfl rfl (by decide) rfl rfl rfl hl.1 rfl (Nat.le_of_ble_eq_true rfl) dX1_quick_3 ⟨Nat.zero_le _, Nat.zero_le _⟩ (fun r9 u9 H locs h9 w => ?_)
  obtain ⟨n2, y, rfl, hn2, hy⟩ := h9
  have w : xW D [(d, .long)] (PA o (Ob 1 h n) h (La d 4096 x) s.heap.size) s [(o, Ob 1 h n2), (h, La d 4096 y)] H locs := w
  exact K _ _ _ _ _ ls _ _ 0 1 dX1_quick_6 ⟨n2, y, rfl, hn2, hy⟩ w rfl rfl
theorem M_merge1 {l : Launch} {D : va_G} {d : ClassId} {o h sz n : Nat} {x : Nat → Int64} {a b : Int32} (hn : n ≤ 4096) : Met l yX1_merge (ws_ yX1_merge cX1_merge 3 (some .int)) ({ frames := 2, locals := 70 } : Room) (PPc D d o (Ob 1 h n) h (La d 4096 x) sz [.ref o, .int a, .int b]) (va_Qi (fun r u => ∃ n2 y, u = (Ob 1 h n2, La d 4096 y) ∧ n2 ≤ 4096 ∧ SSort a b n x r n2 y) (PB D o h) (PA o (Ob 1 h n) h (La d 4096 x) sz)) 0 0 (PA o (Ob 1 h n) h (La d 4096 x) sz) := by
  have hN : (4096 : Nat) < 2147483648 := (Nat.le_of_ble_eq_true rfl)
  refine xp_meti (by decide) (Nat.le_of_ble_eq_true rfl) ?_
  intro p e s m args below meth c Q ls hsz S w hl K
  obtain ⟨hx, hb, hml, hown, hts⟩ := id S
  have hl : lv_has ls 3 [(0, .ref o), (1, .int (a)), (2, .int (b))] := hl
  refine lv_aload_n hx hb dX1_merge_0 rfl (lv_at hl 0 rfl) ?_
  refine lv_iload_n hx hb dX1_merge_1 rfl (lv_at hl 1 rfl) ?_
  refine lv_iload_n hx hb dX1_merge_2 rfl (lv_at hl 2 rfl) ?_
  refine xv_calli (M_sorted (n := n) (a := a) (b := b) hn) S (cwV 2 hts (lw_V q162 q164 qs2 q8 q165) rfl rfl rfl ⟨rfl, by decide, by decide, by decide⟩ ⟨(Nat.le_of_ble_eq_true rfl), (Nat.le_of_ble_eq_true rfl)⟩) w 0 1 0 rfl rfl (by decide) rfl rfl rfl hl.1 rfl (Nat.le_of_ble_eq_true rfl) dX1_merge_3 ⟨Nat.zero_le _, Nat.zero_le _⟩ (fun r9 u9 H locs h9 w => ?_)
  obtain ⟨n2, y, rfl, hn2, hy⟩ := h9
  have w : xW D [(d, .long)] (PA o (Ob 1 h n) h (La d 4096 x) s.heap.size) s [(o, Ob 1 h n2), (h, La d 4096 y)] H locs := w
  exact K _ _ _ _ _ ls _ _ 0 1 dX1_merge_6 ⟨n2, y, rfl, hn2, hy⟩ w rfl rfl
theorem M_radix1 {l : Launch} {D : va_G} {d : ClassId} {o h sz n : Nat} {x : Nat → Int64} {a b : Int32} (hn : n ≤ 4096) : Met l yX1_radix (ws_ yX1_radix cX1_radix 3 (some .int)) ({ frames := 2, locals := 70 } : Room) (PPc D d o (Ob 1 h n) h (La d 4096 x) sz [.ref o, .int a, .int b]) (va_Qi (fun r u => ∃ n2 y, u = (Ob 1 h n2, La d 4096 y) ∧ n2 ≤ 4096 ∧ SSort a b n x r n2 y) (PB D o h) (PA o (Ob 1 h n) h (La d 4096 x) sz)) 0 0 (PA o (Ob 1 h n) h (La d 4096 x) sz) := by
  have hN : (4096 : Nat) < 2147483648 := (Nat.le_of_ble_eq_true rfl)
  refine xp_meti (by decide) (Nat.le_of_ble_eq_true rfl) ?_
  intro p e s m args below meth c Q ls hsz S w hl K
  obtain ⟨hx, hb, hml, hown, hts⟩ := id S
  have hl : lv_has ls 3 [(0, .ref o), (1, .int (a)), (2, .int (b))] := hl
  refine lv_aload_n hx hb dX1_radix_0 rfl (lv_at hl 0 rfl) ?_
  refine lv_iload_n hx hb dX1_radix_1 rfl (lv_at hl 1 rfl) ?_
  refine lv_iload_n hx hb dX1_radix_2 rfl (lv_at hl 2 rfl) ?_
  refine xv_calli (M_sorted (n := n) (a := a) (b := b) hn) S (cwV 2 hts (lw_V q162 q164 qs2 q8 q165) rfl rfl rfl ⟨rfl, by decide, by decide, by decide⟩ ⟨(Nat.le_of_ble_eq_true rfl), (Nat.le_of_ble_eq_true rfl)⟩) w 0 1 0 rfl rfl (by decide) rfl rfl rfl hl.1 rfl (Nat.le_of_ble_eq_true rfl) dX1_radix_3 ⟨Nat.zero_le _, Nat.zero_le _⟩ (fun r9 u9 H locs h9 w => ?_)
  obtain ⟨n2, y, rfl, hn2, hy⟩ := h9
  have w : xW D [(d, .long)] (PA o (Ob 1 h n) h (La d 4096 x) s.heap.size) s [(o, Ob 1 h n2), (h, La d 4096 y)] H locs := w
  exact K _ _ _ _ _ ls _ _ 0 1 dX1_radix_6 ⟨n2, y, rfl, hn2, hy⟩ w rfl rfl
theorem M_find1 {l : Launch} {D : va_G} {d : ClassId} {o h sz n : Nat} {x : Nat → Int64} {a b : Int32} (hn : n ≤ 4096) : Met l yX1_find (ws_ yX1_find cX1_find 4 (some .int)) ({ frames := 1, locals := 40 } : Room) (PPc D d o (Ob 1 h n) h (La d 4096 x) sz [.ref o, .int a, .int b]) (va_Qi (fun r u => ∃ n2 y, u = (Ob 1 h n2, La d 4096 y) ∧ n2 ≤ 4096 ∧ SFind a b n x r n2 y) (PB D o h) (PA o (Ob 1 h n) h (La d 4096 x) sz)) 0 0 (PA o (Ob 1 h n) h (La d 4096 x) sz) := by
  have hN : (4096 : Nat) < 2147483648 := (Nat.le_of_ble_eq_true rfl)
  refine xp_meti (by decide) (Nat.le_of_ble_eq_true rfl) ?_
  intro p e s m args below meth c Q ls hsz S w hl K
  obtain ⟨hx, hb, hml, hown, hts⟩ := id S
  have hl : lv_has ls 4 [(0, .ref o), (1, .int (a)), (2, .int (b))] := hl
  refine lv_aload_n hx hb dX1_find_0 rfl (lv_at hl 0 rfl) ?_
  refine xi_iconst hx hb dX1_find_1 ?_
  refine lv_aload_n hx hb dX1_find_2 rfl (lv_at hl 0 rfl) ?_
  refine xo_get hx hb hts in_X1 hown w 0 rfl rfl 1 (by decide) q138 rfl rfl dX1_find_3 ?_
  rw [show iI 0 = iI ((0 : Nat) : Int) from rfl]
  refine xv_callv (M_order (n := n) (f := 0) (cn := n) hn (by omega)) S (cwV 2 hts (lw_V q174 q176 qs5 q8 q177) rfl rfl rfl ⟨rfl, by decide, by decide, by decide⟩ ⟨(Nat.le_of_ble_eq_true rfl), (Nat.le_of_ble_eq_true rfl)⟩) w 0 1 0 rfl rfl (by decide) rfl rfl rfl hl.1 rfl (Nat.le_of_ble_eq_true rfl) dX1_find_6 ⟨Nat.zero_le _, Nat.zero_le _⟩ (fun u9 H locs h9 w => ?_)
  obtain ⟨y, rfl, hy⟩ := h9
  have w : xW D [(d, .long)] (PA o (Ob 1 h n) h (La d 4096 x) s.heap.size) s [(o, Ob 1 h n), (h, La d 4096 y)] H locs := w
  rw [Nat.zero_add] at hy
  refine xi_iconst hx hb dX1_find_9 ?_
  refine lv_istore_n (lv' := [(3, .int (iI (0))), (0, .ref o), (1, .int (a)), (2, .int (b))]) hx hb dX1_find_10 rfl hl (by decide) rfl (fun ls hl => ?_)
  have loop : ∀ (r k : Nat) (zk : Int) (ls : Array Slot), k + r = n → zk = k → (∀ i, i < k → y i < wd a b) → lv_has ls 4 [(0, .ref o), (1, .int (a)), (2, .int (b)), (3, .int (iI (zk)))] → W p l e ({ frames := 1, locals := 40 } : Room) s m args below meth c H locs 0 0 Q (F0 m 11 ls []) := by
    intro r
    induction r with
    | zero =>
      intro k zk ls hr hzk hk hl
      refine lv_iload_n hx hb dX1_find_11 rfl (lv_at hl 3 rfl) ?_
      refine lv_aload_n hx hb dX1_find_12 rfl (lv_at hl 0 rfl) ?_
      refine xo_get hx hb hts in_X1 hown w 0 rfl rfl 1 (by decide) q138 rfl rfl dX1_find_13 ?_
      refine xi_icmp_ge hx hb dX1_find_16 (tgt := 40) (by decide) (by unfold iR; omega) (by unfold iR; omega) (fun h16 => ?_) (fun h16 => ?_)
      · skip
        refine lv_iload_n hx hb dX1_find_40 rfl (lv_at hl 3 rfl) ?_
        refine lv_aload_n hx hb dX1_find_41 rfl (lv_at hl 0 rfl) ?_
        refine xo_get hx hb hts in_X1 hown w 0 rfl rfl 1 (by decide) q138 rfl rfl dX1_find_42 ?_
        refine xi_icmp_ge hx hb dX1_find_45 (tgt := 69) (by decide) (by unfold iR; omega) (by unfold iR; omega) (fun h45 => ?_) (fun h45 => ?_)
        · skip
          refine lv_iload_n hx hb dX1_find_69 rfl (lv_at hl 3 rfl) ?_
          refine xi_ineg hx hb dX1_find_70 ?_
          refine xi_iconst hx hb dX1_find_71 ?_
          refine xi_isub hx hb dX1_find_72 ?_
          exact K _ _ _ _ _ ls _ _ 0 1 dX1_find_73 ⟨n, y, rfl, hn, rfl, hy, Or.inr ⟨k, by omega, congrArg iI (by omega), hk, fun i q1 q2 => absurd q2 (by omega)⟩⟩ w rfl rfl
        · skip
          exfalso; omega
      · skip
        exfalso; omega
    | succ r ih =>
      intro k zk ls hr hzk hk hl
      refine lv_iload_n hx hb dX1_find_11 rfl (lv_at hl 3 rfl) ?_
      refine lv_aload_n hx hb dX1_find_12 rfl (lv_at hl 0 rfl) ?_
      refine xo_get hx hb hts in_X1 hown w 0 rfl rfl 1 (by decide) q138 rfl rfl dX1_find_13 ?_
      refine xi_icmp_ge hx hb dX1_find_16 (tgt := 40) (by decide) (by unfold iR; omega) (by unfold iR; omega) (fun h16 => ?_) (fun h16 => ?_)
      · skip
        exfalso; omega
      · skip
        refine lv_aload_n hx hb dX1_find_19 rfl (lv_at hl 0 rfl) ?_
        refine xo_get hx hb hts in_X1 hown w 0 rfl rfl 0 (by decide) q137 rfl rfl dX1_find_20 ?_
        refine lv_iload_n hx hb dX1_find_23 rfl (lv_at hl 3 rfl) ?_
        refine xa_lald hx hb w 1 0 rfl rfl k (by omega) (by omega) (Nat.le_of_ble_eq_true rfl) dX1_find_24 ?_
        refine lv_iload_n hx hb dX1_find_25 rfl (lv_at hl 1 rfl) ?_
        refine lv_iload_n hx hb dX1_find_26 rfl (lv_at hl 2 rfl) ?_
        refine xs_calll (M_wide1 (rm := {}) (a := a) (b := b)) S (va_cwS 2 hts (lw_S q148 q149 q8 q150) rfl rfl rfl ⟨by decide, by decide, by decide⟩ ⟨(Nat.le_of_ble_eq_true rfl), (Nat.le_of_ble_eq_true rfl)⟩) rfl rfl hl.1 rfl (Nat.le_of_ble_eq_true rfl) dX1_find_27 ⟨Nat.zero_le _, Nat.zero_le _⟩ (fun rw1 hrw1 => ?_)
        subst hrw1
        refine xl_cmp_ge hx hb dX1_find_30 dX1_find_31 (tgt := 40) (by decide) (fun h30 => ?_) (fun h30 => ?_)
        · skip
          refine lv_iload_n hx hb dX1_find_40 rfl (lv_at hl 3 rfl) ?_
          refine lv_aload_n hx hb dX1_find_41 rfl (lv_at hl 0 rfl) ?_
          refine xo_get hx hb hts in_X1 hown w 0 rfl rfl 1 (by decide) q138 rfl rfl dX1_find_42 ?_
          refine xi_icmp_ge hx hb dX1_find_45 (tgt := 69) (by decide) (by unfold iR; omega) (by unfold iR; omega) (fun h45 => ?_) (fun h45 => ?_)
          · skip
            exfalso; omega
          · skip
            refine lv_aload_n hx hb dX1_find_48 rfl (lv_at hl 0 rfl) ?_
            refine xo_get hx hb hts in_X1 hown w 0 rfl rfl 0 (by decide) q137 rfl rfl dX1_find_49 ?_
            refine lv_iload_n hx hb dX1_find_52 rfl (lv_at hl 3 rfl) ?_
            refine xa_lald hx hb w 1 0 rfl rfl k (by omega) (by omega) (Nat.le_of_ble_eq_true rfl) dX1_find_53 ?_
            refine lv_iload_n hx hb dX1_find_54 rfl (lv_at hl 1 rfl) ?_
            refine lv_iload_n hx hb dX1_find_55 rfl (lv_at hl 2 rfl) ?_
            refine xs_calll (M_wide1 (rm := {}) (a := a) (b := b)) S (va_cwS 2 hts (lw_S q148 q149 q8 q150) rfl rfl rfl ⟨by decide, by decide, by decide⟩ ⟨(Nat.le_of_ble_eq_true rfl), (Nat.le_of_ble_eq_true rfl)⟩) rfl rfl hl.1 rfl (Nat.le_of_ble_eq_true rfl) dX1_find_56 ⟨Nat.zero_le _, Nat.zero_le _⟩ (fun rw2 hrw2 => ?_)
            subst hrw2
            refine xl_cmp_ne hx hb dX1_find_59 dX1_find_60 (tgt := 69) (by decide) (fun h59 => ?_) (fun h59 => ?_)
            · skip
              refine lv_iload_n hx hb dX1_find_69 rfl (lv_at hl 3 rfl) ?_
              refine xi_ineg hx hb dX1_find_70 ?_
              refine xi_iconst hx hb dX1_find_71 ?_
              refine xi_isub hx hb dX1_find_72 ?_
              exact K _ _ _ _ _ ls _ _ 0 1 dX1_find_73 ⟨n, y, rfl, hn, rfl, hy, Or.inr ⟨k, by omega, congrArg iI (by omega), hk, fun i q1 q2 => Int64.lt_of_lt_of_le (Int64.lt_of_le_of_ne h30 (fun q => h59 q.symm)) (hy.2 k i (by omega) q1 q2)⟩⟩ w rfl rfl
            · skip
              refine xi_sipush hx hb dX1_find_63 (by decide) ?_
              refine lv_goto (tgt := 73) hx hb dX1_find_66 (by decide) ?_
              exact K _ _ _ _ _ ls _ _ 0 1 dX1_find_73 ⟨n, y, rfl, hn, rfl, hy, Or.inl ⟨k, by omega, h59, rfl⟩⟩ w rfl rfl
        · skip
          refine lv_iinc (v := iI (zk + 1)) (lv' := [(3, .int (iI (zk + 1))), (0, .ref o), (1, .int (a)), (2, .int (b))]) hx hb dX1_find_34 hl (k := 3) rfl (xi_inc (by omega)) (by decide) rfl (fun ls hl => ?_)
          refine lv_goto (tgt := 11) hx hb dX1_find_37 (by decide) ?_
          exact ih (k + 1) _ ls (by omega) (by omega) (fun i q => (Nat.lt_or_ge i k).elim (hk i) (fun q2 => (show k = i by omega) ▸ h30)) (lv_sub hl [1, 2, 3, 0] rfl)
  exact loop n 0 _ ls (by omega) (by omega) (fun i q => absurd q (by omega)) (lv_sub hl [1, 2, 3, 0] rfl)
end
section
/-! the two constructors -/
set_option maxRecDepth 100000
set_option maxHeartbeats 1000000
abbrev O0 (ci : Nat) : va_E := .inr (ci, [.null, .int (iI ((0 : Nat) : Int))])
abbrev IPc (D : va_G) (ci o sz : Nat) : Array Value → State → Prop := va_Pc [.ref o] (fun U => U.heap.size = sz ∧ va_P D vwCl [(o, O0 ci)] U.heap ∧ va_K D vwCl [] U ∧ va_D (fun _ => True) [(o, O0 ci)])
abbrev IB (D : va_G) (ci o sz : Nat) (u : Nat × ClassId) (t : State) : Prop := va_P D vwCl [(o, Ob ci u.1 0), (u.1, La u.2 4096 (fun _ => 0))] t.heap ∧ va_K D vwCl [(u.2, .long)] t ∧ va_D (va_A [(o, O0 ci)] sz) [(o, Ob ci u.1 0), (u.1, La u.2 4096 (fun _ => 0))]
theorem IPc.blind {D : va_G} {ci o sz : Nat} : FrameBlind (IPc D ci o sz) := fun a U g mk q => by
  obtain ⟨q0, q1, qP, qK, qD⟩ := q
  exact ⟨q0, q1, qP, va_K.moved (u := U) (U := U.calling g mk a) (Vm.Alike.refl U.vm) qK, qD⟩
theorem M_init0 {l : Launch} {D : va_G} {o sz : Nat} : Met l yX0_init (ws_ yX0_init cX0_init 1 none) ({ frames := 1, locals := 40, cells := 1, slots := 4096 } : Room) (IPc D 0 o sz) (va_Qv (fun _ : Nat × ClassId => True) (IB D 0 o sz) (va_A [(o, O0 0)] sz)) 1 4096 (va_A [(o, O0 0)] sz) := by
  refine Met.ofW (cc := cX0_init) (maxL := 1) (ret := none) (by decide) rfl ?_
  intro p e s m args below meth c s₁ B hml hv
  obtain ⟨rfl, hsz, hP, hK, hD0⟩ := hv
  have hx := B.exec
  have hb := B.bytes
  have hts := atoms_spec (ws := ws_ yX0_init cX0_init 1 none) B.pre
  have hts : ∀ w ∈ lw_all, w.before _ s = true := fun w h => hts w (List.mem_cons_of_mem _ h)
  have hown : s.vm.findClass RX0 = some m.cls := findClass_of_methodNamed B.named
  have hlocks := B.notSynchronized
  have hin : meth.name = "<init>" := (name_of_methodNamed B.named B.method).1
  subst hsz
  have hD := hD0.self (sz := s.heap.size)
  generalize hAe : va_A [(o, O0 0)] s.heap.size = A at hD ⊢
  have hA : ∀ q : Nat, s.heap.size ≤ q → A q := fun q h => by rw [← hAe]; exact Or.inr h
  have hS : va_S A s.heap s.heap [] := va_S.rf
  have hl := lv_entry ([.ref o]) (n := 1) (Nat.le_of_ble_eq_true rfl)
  rw [lg_entry_eq]
  generalize (lg_sl ([.ref o]) ++ List.replicate (1 - (lg_sl ([.ref o])).length) Slot.unset).toArray = ls at hl ⊢
  have hl : lv_has ls 1 [(0, .ref o)] := hl
  refine lv_aload_n hx hb dX0_init_0 rfl (lv_at hl 0 rfl) ?_
  refine W.objInit hx hb hown (hts _ q19) (hts _ q20) (hts _ q21) rfl (by rw [hml]; exact hl.1) rfl dX0_init_1 (Nat.le_of_ble_eq_true rfl) (Nat.le_of_ble_eq_true rfl) ?_
  refine W.eq (g2 := F0 m 4 ls []) rfl ?_
  refine lv_aload_n hx hb dX0_init_4 rfl (lv_at hl 0 rfl) ?_
  refine xi_sipush hx hb dX0_init_5 (by decide) ?_
  refine va_newa (atype := .long) (a0 := (4096, .inr (.inl (fun _ => 0)))) (n := iI 4096) (N' := 4096) hx hb (hts _ q29) (ty := .long) rfl hK hP hD hS hA (fun _ => rfl) (by decide) (by decide) (Nat.le_of_ble_eq_true rfl) (Nat.le_of_ble_eq_true rfl) (Nat.le_of_ble_eq_true rfl) dX0_init_8 (fun q d H hK hP hD hS => ?_)
  have hK : va_K D vwCl [(d, .long)] s := hK
  have hP : va_P D vwCl [(o, O0 0), (q, La d 4096 (fun _ => 0))] H := hP
  have hD : va_D A [(o, O0 0), (q, La d 4096 (fun _ => 0))] := hD
  refine W.widen (k := 1) (n := 4096) (Nat.le_of_ble_eq_true rfl) (Nat.le_of_ble_eq_true rfl) ?_
  refine va_putF (D := D) (ci := 0) (v := .ref q) (ty := .array .long) (C := RX0) (T := TX0) (N := 2) hx hb hts in_X0 tyX0 tyX0_ok nmX0 hown hK hP hD hS 0 rfl rfl 0 (by decide) (hts _ q22) (fun _ h9 => h9) rfl hin rfl (by decide +kernel) rfl rfl (Nat.le_of_ble_eq_true rfl) dX0_init_10 (fun H locs hP hD hS => ?_)
  have hP : va_P D vwCl [(o, Ob 0 q 0), (q, La d 4096 (fun _ => 0))] H := hP
  have hD : va_D A [(o, Ob 0 q 0), (q, La d 4096 (fun _ => 0))] := hD
  subst hAe
  exact W.vret hx hb B.returns (fun t ht hW => ⟨⟨(q, d), rfl, trivial, by show va_P D vwCl [(o, Ob 0 q 0), (q, La d 4096 (fun _ => 0))] t.heap; rw [ht]; exact hP, va_K.moved hW.alike hK, hD⟩, hS.F ht⟩) hS.2.2 dX0_init_13
theorem M_init1 {l : Launch} {D : va_G} {o sz : Nat} : Met l yX1_init (ws_ yX1_init cX1_init 1 none) ({ frames := 1, locals := 40, cells := 1, slots := 4096 } : Room) (IPc D 1 o sz) (va_Qv (fun _ : Nat × ClassId => True) (IB D 1 o sz) (va_A [(o, O0 1)] sz)) 1 4096 (va_A [(o, O0 1)] sz) := by
  refine Met.ofW (cc := cX1_init) (maxL := 1) (ret := none) (by decide) rfl ?_
  intro p e s m args below meth c s₁ B hml hv
  obtain ⟨rfl, hsz, hP, hK, hD0⟩ := hv
  have hx := B.exec
  have hb := B.bytes
  have hts := atoms_spec (ws := ws_ yX1_init cX1_init 1 none) B.pre
  have hts : ∀ w ∈ lw_all, w.before _ s = true := fun w h => hts w (List.mem_cons_of_mem _ h)
  have hown : s.vm.findClass RX1 = some m.cls := findClass_of_methodNamed B.named
  have hlocks := B.notSynchronized
  have hin : meth.name = "<init>" := (name_of_methodNamed B.named B.method).1
  subst hsz
  have hD := hD0.self (sz := s.heap.size)
  generalize hAe : va_A [(o, O0 1)] s.heap.size = A at hD ⊢
  have hA : ∀ q : Nat, s.heap.size ≤ q → A q := fun q h => by rw [← hAe]; exact Or.inr h
  have hS : va_S A s.heap s.heap [] := va_S.rf
  have hl := lv_entry ([.ref o]) (n := 1) (Nat.le_of_ble_eq_true rfl)
  rw [lg_entry_eq]
  generalize (lg_sl ([.ref o]) ++ List.replicate (1 - (lg_sl ([.ref o])).length) Slot.unset).toArray = ls at hl ⊢
  have hl : lv_has ls 1 [(0, .ref o)] := hl
  refine lv_aload_n hx hb dX1_init_0 rfl (lv_at hl 0 rfl) ?_
  refine W.objInit hx hb hown (hts _ q136) (hts _ q20) (hts _ q21) rfl (by rw [hml]; exact hl.1) rfl dX1_init_1 (Nat.le_of_ble_eq_true rfl) (Nat.le_of_ble_eq_true rfl) ?_
  refine W.eq (g2 := F0 m 4 ls []) rfl ?_
  refine lv_aload_n hx hb dX1_init_4 rfl (lv_at hl 0 rfl) ?_
  refine xi_sipush hx hb dX1_init_5 (by decide) ?_
  refine va_newa (atype := .long) (a0 := (4096, .inr (.inl (fun _ => 0)))) (n := iI 4096) (N' := 4096) hx hb (hts _ q29) (ty := .long) rfl hK hP hD hS hA (fun _ => rfl) (by decide) (by decide) (Nat.le_of_ble_eq_true rfl) (Nat.le_of_ble_eq_true rfl) (Nat.le_of_ble_eq_true rfl) dX1_init_8 (fun q d H hK hP hD hS => ?_)
  have hK : va_K D vwCl [(d, .long)] s := hK
  have hP : va_P D vwCl [(o, O0 1), (q, La d 4096 (fun _ => 0))] H := hP
  have hD : va_D A [(o, O0 1), (q, La d 4096 (fun _ => 0))] := hD
  refine W.widen (k := 1) (n := 4096) (Nat.le_of_ble_eq_true rfl) (Nat.le_of_ble_eq_true rfl) ?_
  refine va_putF (D := D) (ci := 1) (v := .ref q) (ty := .array .long) (C := RX1) (T := TX1) (N := 2) hx hb hts in_X1 tyX1 tyX1_ok nmX1 hown hK hP hD hS 0 rfl rfl 0 (by decide) (hts _ q137) (fun _ h9 => h9) rfl hin rfl (by decide +kernel) rfl rfl (Nat.le_of_ble_eq_true rfl) dX1_init_10 (fun H locs hP hD hS => ?_)
  have hP : va_P D vwCl [(o, Ob 1 q 0), (q, La d 4096 (fun _ => 0))] H := hP
  have hD : va_D A [(o, Ob 1 q 0), (q, La d 4096 (fun _ => 0))] := hD
  subst hAe
  exact W.vret hx hb B.returns (fun t ht hW => ⟨⟨(q, d), rfl, trivial, by show va_P D vwCl [(o, Ob 1 q 0), (q, La d 4096 (fun _ => 0))] t.heap; rw [ht]; exact hP, va_K.moved hW.alike hK, hD⟩, hS.F ht⟩) hS.2.2 dX1_init_13
end
section
set_option maxRecDepth 100000
set_option maxHeartbeats 1000000
/-! THE CLAIM OUT OF ONE WALK OF THE LAW'S BODY. Your part is whole_start (and what it stands on); all else here is the same for every law, but numbers. -/
def R_law : String := "LongSortDeskLaw"
def lw_P (b : Addr) (xs : List Int32) (args : Array Value) (s : State) : Prop := args = #[.ref b] ∧ s.IntsAt b xs ∧ xs.length ≤ 384 ∧ (Jvm.Cond.and given_1 narrow_1).before args s = true
def lw_Q (_ : Array Value) (s : State) (o : Outcome) (t : State) : Prop := o = .returned (some (.int 1)) ∧ Framed s o t [] 600000 7302250
def lw_Z (below : List Frame) (a : Array Value) (s : State) : State → Prop := fun t => ∃ o, t.status = .running ∧ Ended t below o ∧ lw_Q a s o t
/-- the law's own end, with 1 on the stack, nothing written that was there before, its room as the claim has it -/
theorem lw_ret {p : Program} {l : Launch} {e : Env} {s : State} {m : MethodId} {below : List Frame} {meth : Method} {c : Code} {b : Nat} (hx : p.tables.exec = Jvm.exec) (hb : c.code = code) (hr : meth.sig.returnType = ret) (hlocks : meth.locks = false) {pc : Nat} {H : Heap} {ls : Array Slot} (hdg : decode code pc = .ok (.ireturn, 1)) : W p l e room_1 s m #[Value.ref b] below meth c H [] 600000 7302250 (lw_Z below #[Value.ref b] s) (F0 m pc ls [.int 1]) := by
  intro T hT X
  obtain ⟨fs, hret, hrun, hended, hW, hframe⟩ := X.leave (v := some (.int 1)) (hlocks := hlocks) (fun h => by rw [hr] at h; cases h)
  have hmeth' : T.vm.method? m = some meth := X.method'
  refine ⟨T.setFrames fs, ?_, .returned (some (.int 1)), hrun, hended, rfl, ⟨_, rfl⟩, hW, hframe⟩
  jvm_step X.here [X.here.top, hx, hb, hdg, hmeth', hr, ret, narrow_b1]
  (try refine ⟨rfl, ?_⟩); (try refine ⟨rfl, ?_⟩)
  first | (intro acts; rw [hret _ acts rfl rfl rfl]) | rw [hret _ _ rfl rfl rfl]
  exact Steps.refl _
/-- what holds at the law's entry: the machine, the code, the tables' words (any of lw_tbl by 'hts w (by decide +kernel)'), the script of L ints xs at the cell b, what the Statement gives of the start (any of its parts by flat_of_before) -/
def lw_At (p : Program) (s : State) (m : MethodId) (meth : Method) (c : Code) (b L : Nat) (xs : Nat → Int32) : Prop :=
  p.tables.exec = Jvm.exec ∧ c.code = code ∧ meth.sig.returnType = ret ∧ c.maxLocals = 4 ∧ s.vm.findClass R_law = some m.cls ∧ (∀ w ∈ lw_tbl, w.before #[Value.ref b] s = true) ∧ va_X b L xs s s.heap ∧ b < s.heap.size ∧ meth.locks = false ∧ (Jvm.Cond.and given_1 narrow_1).before #[Value.ref b] s = true
/-- an int of the script -/
theorem xs_ld {p : Program} {l : Launch} {e : Env} {R : Room} {s : State} {m : MethodId} {args : Array Value} {below : List Frame} {meth : Method} {c : Code} {H : Heap} {locs : List Loc} {cells slots : Nat} {Q : State → Prop} {cc : ByteArray} {pc : Nat} {ls : Array Slot} {rest : List Value} {D : va_G} {tys : List (ClassId × FieldType)} {A : Nat → Prop} {ws : va_W} (hexec : p.tables.exec = Jvm.exec) (hb : c.code = cc) {b L : Nat} {xs : Nat → Int32} (hX : va_X b L xs s s.heap) (hbl : b < s.heap.size) (hbA : ¬ A b) (w : xW D tys A s ws H locs) {z : Int} (k : Nat) (hz : z = (k : Int)) (hk : k < L) (hL : L < 2147483648) (hdg : decode cc pc = .ok (.iaload, 1))
    (kk : W p l e R s m args below meth c H locs cells slots Q (F0 m (pc + 1) ls (.int (xs k) :: rest))) : W p l e R s m args below meth c H locs cells slots Q (F0 m pc ls (.int (iI z) :: .ref b :: rest)) := by
  subst hz
  refine va_sld hexec hb hX hbl hbA w.2.2.2.1 (iI_in hk hL) hdg ?_
  rw [iI_clamp k (by omega)]
  exact kk
theorem and7 (a : Int32) : ∃ v : Nat, v < 8 ∧ a &&& iI 7 = iI (v : Int) := by
  refine ⟨a.toUInt32.toNat % 8, Nat.mod_lt _ (by omega), ?_⟩
  rw [← iI_nI]
  refine congrArg UInt32.toInt32 (UInt32.toNat_inj.mp ?_)
  show (a.toUInt32 &&& (iI 7).toUInt32).toNat = a.toUInt32.toNat % 8 % 4294967296
  rw [UInt32.toNat_and]
  have e : (iI 7).toUInt32.toNat = 2 ^ 3 - 1 := by decide
  rw [e, Nat.and_two_pow_sub_one_eq_mod]
  have e2 : (2 : Nat) ^ 3 = 8 := rfl
  rw [e2]
  omega
theorem law_loop {p : Program} {e : Env} {s : State} {m : MethodId} {below : List Frame} {meth : Method} {c : Code} (l : Launch) {b L : Nat} {xs : Nat → Int32} (hL : L ≤ 384) (C0 : lw_At p s m meth c b L xs) {D : va_G} {d : ClassId} {o h o2 h2 : Nat} :
    ∀ (r it n : Nat) (x : Nat → Int64) (zi : Int) (H : Heap) (locs : List Loc) (ls : Array Slot), it + r = 65 → zi = ((6 * it : Nat) : Int) → n ≤ 4096 → xW D [(d, .long)] (fun q : Nat => s.heap.size ≤ q) s [(o, Ob 0 h n), (h, La d 4096 x), (o2, Ob 1 h2 n), (h2, La d 4096 x)] H locs → lv_has ls 4 [(0, .ref b), (1, .ref o), (2, .ref o2), (3, .int (iI (zi)))] → W p l e room_1 s m #[Value.ref b] below meth c H locs (4 + 5 * it) (8196 + 5870 * it) (lw_Z below #[Value.ref b] s) (F0 m 18 ls []) := by
  obtain ⟨hx, hb, hr, hml, hown, hts0, hX, hbl, hlocks, hgv⟩ := id C0
  have hts : ∀ w ∈ lw_all, w.before #[Value.ref b] s = true := fun w h => hts0 w (lw_all_tbl h)
  have hbA : ¬ (fun q : Nat => s.heap.size ≤ q) b := Nat.not_le.mpr hbl
  have hL2 : L < 2147483648 := by omega
  have S : CallFix p m c code 4 s #[Value.ref b] lw_all R_law := ⟨hx, hb, hml, hown, hts⟩
  intro r
  induction r with
  | zero =>
    intro it n x zi H locs ls hit hzi hn w hl
    refine lv_iload_n hx hb dL_law_18 rfl (lv_at hl 3 rfl) ?_
    refine lv_aload_n hx hb dL_law_19 rfl (lv_at hl 0 rfl) ?_
    refine va_slen hx hb hX hbl hbA w.2.2.2.1 dL_law_20 ?_
    refine xi_topr (L : Int) (iI_nI L) ?_
    refine xi_bipush hx hb dL_law_21 (by decide) ?_
    refine xi_isub hx hb dL_law_23 ?_
    refine xi_icmp_gt hx hb dL_law_24 (tgt := 339) (by decide) (by unfold iR; omega) (by unfold iR; omega) (fun h24 => ?_) (fun h24 => ?_)
    · skip
      refine xi_iconst hx hb dL_law_339 ?_
      refine W.widen (k := 600000) (n := 7302250) (by omega) (by omega) ?_
      exact va_forget (fun q hq => w.2.2.2.1.2.2 q hq) (lw_ret hx hb hr hlocks dL_law_340)
    · skip
      exfalso; omega
  | succ r ih =>
    intro it n x zi H locs ls hit hzi hn w hl
    have next : ∀ (n : Nat) (x : Nat → Int64) (H : Heap) (locs : List Loc) (cells slots : Nat), 6 * it + 6 ≤ L → n ≤ 4096 → cells ≤ 4 + 5 * (it + 1) → slots ≤ 8196 + 5870 * (it + 1) → xW D [(d, .long)] (fun q : Nat => s.heap.size ≤ q) s [(o, Ob 0 h n), (h, La d 4096 x), (o2, Ob 1 h2 n), (h2, La d 4096 x)] H locs → W p l e room_1 s m #[Value.ref b] below meth c H locs cells slots (lw_Z below #[Value.ref b] s) (F0 m 333 ls []) := by
      intro n x H locs cells slots hlt hn hc1 hs1 w
      refine W.widen (k := 4 + 5 * (it + 1)) (n := 8196 + 5870 * (it + 1)) hc1 hs1 ?_
      refine lv_iinc (v := iI (zi + 6)) (lv' := [(3, .int (iI (zi + 6))), (0, .ref b), (1, .ref o), (2, .ref o2)]) hx hb dL_law_333 hl (k := 3) rfl (xi_inc (by omega)) (by decide) rfl (fun ls hl => ?_)
      refine lv_goto (tgt := 18) hx hb dL_law_336 (by decide) ?_
      exact ih (it + 1) n x _ H locs ls (by omega) (by omega) hn w (lv_sub hl [1, 2, 3, 0] rfl)
    refine lv_iload_n hx hb dL_law_18 rfl (lv_at hl 3 rfl) ?_
    refine lv_aload_n hx hb dL_law_19 rfl (lv_at hl 0 rfl) ?_
    refine va_slen hx hb hX hbl hbA w.2.2.2.1 dL_law_20 ?_
    refine xi_topr (L : Int) (iI_nI L) ?_
    refine xi_bipush hx hb dL_law_21 (by decide) ?_
    refine xi_isub hx hb dL_law_23 ?_
    refine xi_icmp_gt hx hb dL_law_24 (tgt := 339) (by decide) (by unfold iR; omega) (by unfold iR; omega) (fun h24 => ?_) (fun h24 => ?_)
    · skip
      refine xi_iconst hx hb dL_law_339 ?_
      refine W.widen (k := 600000) (n := 7302250) (by omega) (by omega) ?_
      exact va_forget (fun q hq => w.2.2.2.1.2.2 q hq) (lw_ret hx hb hr hlocks dL_law_340)
    · skip
      refine lv_aload_n hx hb dL_law_27 rfl (lv_at hl 0 rfl) ?_
      refine lv_iload_n hx hb dL_law_28 rfl (lv_at hl 3 rfl) ?_
      refine xs_ld hx hb hX hbl hbA w (6 * it) (by omega) (by omega) hL2 dL_law_29 ?_
      refine xi_bipush hx hb dL_law_30 (by decide) ?_
      refine lv_iand hx hb dL_law_32 ?_
      obtain ⟨v9, hv9, ev9⟩ := and7 (xs (6 * it))
      rw [ev9]
      rcases (show v9 = 0 ∨ v9 = 1 ∨ v9 = 2 ∨ v9 = 3 ∨ v9 = 4 ∨ v9 = 5 ∨ v9 = 6 ∨ v9 = 7 by omega) with rfl | rfl | rfl | rfl | rfl | rfl | rfl | rfl
      · skip
        refine lv_tableIn (off := 47) (tgt := 80) hx hb dL_law_33 (by decide) (by decide) rfl (by decide) ?_
        refine lv_aload_n hx hb dL_law_80 rfl (lv_at hl 1 rfl) ?_
        refine lv_aload_n hx hb dL_law_81 rfl (lv_at hl 0 rfl) ?_
        refine lv_iload_n hx hb dL_law_82 rfl (lv_at hl 3 rfl) ?_
        refine xi_iconst hx hb dL_law_83 ?_
        refine xi_iadd hx hb dL_law_84 ?_
        refine xs_ld hx hb hX hbl hbA w (6 * it + 1) (by omega) (by omega) hL2 dL_law_85 ?_
        refine lv_aload_n hx hb dL_law_86 rfl (lv_at hl 0 rfl) ?_
        refine lv_iload_n hx hb dL_law_87 rfl (lv_at hl 3 rfl) ?_
        refine xi_iconst hx hb dL_law_88 ?_
        refine xi_iadd hx hb dL_law_89 ?_
        refine xs_ld hx hb hX hbl hbA w (6 * it + 2) (by omega) (by omega) hL2 dL_law_90 ?_
        refine xv_calli (M_put0 (n := n) (a := (xs (6 * it + 1))) (b := (xs (6 * it + 2))) hn) S (cwV 2 hts (lw_V q30 q31 q32 q7 q33) rfl rfl rfl ⟨rfl, by decide, by decide, by decide⟩ ⟨(Nat.le_of_ble_eq_true rfl), (Nat.le_of_ble_eq_true rfl)⟩) w 0 1 0 rfl rfl (by decide) rfl rfl rfl hl.1 rfl (Nat.le_of_ble_eq_true rfl) dL_law_91 ⟨by show _ ≤ 600000; omega, by show _ ≤ 7302250; omega⟩ (fun r0 u0 H locs h09 w => ?_)
        obtain ⟨n0, y0, rfl, hn0, hs0⟩ := h09
        have w : xW D [(d, .long)] (fun q : Nat => s.heap.size ≤ q) s [(o, Ob 0 h n0), (h, La d 4096 y0), (o2, Ob 1 h2 n), (h2, La d 4096 x)] H locs := w
        refine lv_aload_n hx hb dL_law_94 rfl (lv_at hl 2 rfl) ?_
        refine lv_aload_n hx hb dL_law_95 rfl (lv_at hl 0 rfl) ?_
        refine lv_iload_n hx hb dL_law_96 rfl (lv_at hl 3 rfl) ?_
        refine xi_iconst hx hb dL_law_97 ?_
        refine xi_iadd hx hb dL_law_98 ?_
        refine xs_ld hx hb hX hbl hbA w (6 * it + 1) (by omega) (by omega) hL2 dL_law_99 ?_
        refine lv_aload_n hx hb dL_law_100 rfl (lv_at hl 0 rfl) ?_
        refine lv_iload_n hx hb dL_law_101 rfl (lv_at hl 3 rfl) ?_
        refine xi_iconst hx hb dL_law_102 ?_
        refine xi_iadd hx hb dL_law_103 ?_
        refine xs_ld hx hb hX hbl hbA w (6 * it + 2) (by omega) (by omega) hL2 dL_law_104 ?_
        refine xv_calli (M_put1 (n := n) (a := (xs (6 * it + 1))) (b := (xs (6 * it + 2))) hn) S (cwV 2 hts (lw_V q144 q145 q146 q8 q147) rfl rfl rfl ⟨rfl, by decide, by decide, by decide⟩ ⟨(Nat.le_of_ble_eq_true rfl), (Nat.le_of_ble_eq_true rfl)⟩) w 2 3 0 rfl rfl (by decide) rfl rfl rfl hl.1 rfl (Nat.le_of_ble_eq_true rfl) dL_law_105 ⟨by show _ ≤ 600000; omega, by show _ ≤ 7302250; omega⟩ (fun r1 u1 H locs h19 w => ?_)
        obtain ⟨n1, y1, rfl, hn1, hs1⟩ := h19
        obtain ⟨e1, e2, e3⟩ := hs0.det hs1
        subst e1; subst e2; subst e3
        have w : xW D [(d, .long)] (fun q : Nat => s.heap.size ≤ q) s [(o, Ob 0 h n0), (h, La d 4096 y0), (o2, Ob 1 h2 n0), (h2, La d 4096 y0)] H locs := w
        refine lv_icmp_eq (tgt := 333) hx hb dL_law_108 (by decide) (fun _ => ?_) (fun hc => absurd rfl hc)
        exact next n0 y0 H locs _ _ (by omega) hn0 (by omega) (by omega) w
      · skip
        refine lv_tableIn (off := 80) (tgt := 113) hx hb dL_law_33 (by decide) (by decide) rfl (by decide) ?_
        refine lv_aload_n hx hb dL_law_113 rfl (lv_at hl 1 rfl) ?_
        refine lv_aload_n hx hb dL_law_114 rfl (lv_at hl 0 rfl) ?_
        refine lv_iload_n hx hb dL_law_115 rfl (lv_at hl 3 rfl) ?_
        refine xi_iconst hx hb dL_law_116 ?_
        refine xi_iadd hx hb dL_law_117 ?_
        refine xs_ld hx hb hX hbl hbA w (6 * it + 1) (by omega) (by omega) hL2 dL_law_118 ?_
        refine lv_aload_n hx hb dL_law_119 rfl (lv_at hl 0 rfl) ?_
        refine lv_iload_n hx hb dL_law_120 rfl (lv_at hl 3 rfl) ?_
        refine xi_iconst hx hb dL_law_121 ?_
        refine xi_iadd hx hb dL_law_122 ?_
        refine xs_ld hx hb hX hbl hbA w (6 * it + 2) (by omega) (by omega) hL2 dL_law_123 ?_
        refine lv_aload_n hx hb dL_law_124 rfl (lv_at hl 0 rfl) ?_
        refine lv_iload_n hx hb dL_law_125 rfl (lv_at hl 3 rfl) ?_
        refine xi_iconst hx hb dL_law_126 ?_
        refine xi_iadd hx hb dL_law_127 ?_
        refine xs_ld hx hb hX hbl hbA w (6 * it + 3) (by omega) (by omega) hL2 dL_law_128 ?_
        refine lv_aload_n hx hb dL_law_129 rfl (lv_at hl 0 rfl) ?_
        refine lv_iload_n hx hb dL_law_130 rfl (lv_at hl 3 rfl) ?_
        refine xi_iconst hx hb dL_law_131 ?_
        refine xi_iadd hx hb dL_law_132 ?_
        refine xs_ld hx hb hX hbl hbA w (6 * it + 4) (by omega) (by omega) hL2 dL_law_133 ?_
        refine xv_calli (M_ramp0 (n := n) (ct := (xs (6 * it + 1))) (a := (xs (6 * it + 2))) (b := (xs (6 * it + 3))) (st := (xs (6 * it + 4))) hn) S (cwV 4 hts (lw_V q38 q39 q40 q7 q41) rfl rfl rfl ⟨rfl, by decide, by decide, by decide⟩ ⟨(Nat.le_of_ble_eq_true rfl), (Nat.le_of_ble_eq_true rfl)⟩) w 0 1 0 rfl rfl (by decide) rfl rfl rfl hl.1 rfl (Nat.le_of_ble_eq_true rfl) dL_law_134 ⟨by show _ ≤ 600000; omega, by show _ ≤ 7302250; omega⟩ (fun r0 u0 H locs h09 w => ?_)
        obtain ⟨n0, y0, rfl, hn0, hs0⟩ := h09
        have w : xW D [(d, .long)] (fun q : Nat => s.heap.size ≤ q) s [(o, Ob 0 h n0), (h, La d 4096 y0), (o2, Ob 1 h2 n), (h2, La d 4096 x)] H locs := w
        refine lv_aload_n hx hb dL_law_137 rfl (lv_at hl 2 rfl) ?_
        refine lv_aload_n hx hb dL_law_138 rfl (lv_at hl 0 rfl) ?_
        refine lv_iload_n hx hb dL_law_139 rfl (lv_at hl 3 rfl) ?_
        refine xi_iconst hx hb dL_law_140 ?_
        refine xi_iadd hx hb dL_law_141 ?_
        refine xs_ld hx hb hX hbl hbA w (6 * it + 1) (by omega) (by omega) hL2 dL_law_142 ?_
        refine lv_aload_n hx hb dL_law_143 rfl (lv_at hl 0 rfl) ?_
        refine lv_iload_n hx hb dL_law_144 rfl (lv_at hl 3 rfl) ?_
        refine xi_iconst hx hb dL_law_145 ?_
        refine xi_iadd hx hb dL_law_146 ?_
        refine xs_ld hx hb hX hbl hbA w (6 * it + 2) (by omega) (by omega) hL2 dL_law_147 ?_
        refine lv_aload_n hx hb dL_law_148 rfl (lv_at hl 0 rfl) ?_
        refine lv_iload_n hx hb dL_law_149 rfl (lv_at hl 3 rfl) ?_
        refine xi_iconst hx hb dL_law_150 ?_
        refine xi_iadd hx hb dL_law_151 ?_
        refine xs_ld hx hb hX hbl hbA w (6 * it + 3) (by omega) (by omega) hL2 dL_law_152 ?_
        refine lv_aload_n hx hb dL_law_153 rfl (lv_at hl 0 rfl) ?_
        refine lv_iload_n hx hb dL_law_154 rfl (lv_at hl 3 rfl) ?_
        refine xi_iconst hx hb dL_law_155 ?_
        refine xi_iadd hx hb dL_law_156 ?_
        refine xs_ld hx hb hX hbl hbA w (6 * it + 4) (by omega) (by omega) hL2 dL_law_157 ?_
        refine xv_calli (M_ramp1 (n := n) (ct := (xs (6 * it + 1))) (a := (xs (6 * it + 2))) (b := (xs (6 * it + 3))) (st := (xs (6 * it + 4))) hn) S (cwV 4 hts (lw_V q152 q153 q154 q8 q155) rfl rfl rfl ⟨rfl, by decide, by decide, by decide⟩ ⟨(Nat.le_of_ble_eq_true rfl), (Nat.le_of_ble_eq_true rfl)⟩) w 2 3 0 rfl rfl (by decide) rfl rfl rfl hl.1 rfl (Nat.le_of_ble_eq_true rfl) dL_law_158 ⟨by show _ ≤ 600000; omega, by show _ ≤ 7302250; omega⟩ (fun r1 u1 H locs h19 w => ?_)
        obtain ⟨n1, y1, rfl, hn1, hs1⟩ := h19
        obtain ⟨e1, e2, e3⟩ := hs0.det hs1
        subst e1; subst e2; subst e3
        have w : xW D [(d, .long)] (fun q : Nat => s.heap.size ≤ q) s [(o, Ob 0 h n0), (h, La d 4096 y0), (o2, Ob 1 h2 n0), (h2, La d 4096 y0)] H locs := w
        refine lv_icmp_eq (tgt := 333) hx hb dL_law_161 (by decide) (fun _ => ?_) (fun hc => absurd rfl hc)
        exact next n0 y0 H locs _ _ (by omega) hn0 (by omega) (by omega) w
      · skip
        refine lv_tableIn (off := 133) (tgt := 166) hx hb dL_law_33 (by decide) (by decide) rfl (by decide) ?_
        refine lv_aload_n hx hb dL_law_166 rfl (lv_at hl 1 rfl) ?_
        refine lv_aload_n hx hb dL_law_167 rfl (lv_at hl 0 rfl) ?_
        refine lv_iload_n hx hb dL_law_168 rfl (lv_at hl 3 rfl) ?_
        refine xi_iconst hx hb dL_law_169 ?_
        refine xi_iadd hx hb dL_law_170 ?_
        refine xs_ld hx hb hX hbl hbA w (6 * it + 1) (by omega) (by omega) hL2 dL_law_171 ?_
        refine lv_aload_n hx hb dL_law_172 rfl (lv_at hl 0 rfl) ?_
        refine lv_iload_n hx hb dL_law_173 rfl (lv_at hl 3 rfl) ?_
        refine xi_iconst hx hb dL_law_174 ?_
        refine xi_iadd hx hb dL_law_175 ?_
        refine xs_ld hx hb hX hbl hbA w (6 * it + 2) (by omega) (by omega) hL2 dL_law_176 ?_
        refine xv_calli (M_quick0 (n := n) (a := (xs (6 * it + 1))) (b := (xs (6 * it + 2))) hn) S (cwV 2 hts (lw_V q44 q45 q46 q7 q47) rfl rfl rfl ⟨rfl, by decide, by decide, by decide⟩ ⟨(Nat.le_of_ble_eq_true rfl), (Nat.le_of_ble_eq_true rfl)⟩) w 0 1 0 rfl rfl (by decide) rfl rfl rfl hl.1 rfl (Nat.le_of_ble_eq_true rfl) dL_law_177 ⟨by show _ ≤ 600000; omega, by show _ ≤ 7302250; omega⟩ (fun r0 u0 H locs h09 w => ?_)
        obtain ⟨n0, y0, rfl, hn0, hs0⟩ := h09
        have w : xW D [(d, .long)] (fun q : Nat => s.heap.size ≤ q) s [(o, Ob 0 h n0), (h, La d 4096 y0), (o2, Ob 1 h2 n), (h2, La d 4096 x)] H locs := w
        refine lv_aload_n hx hb dL_law_180 rfl (lv_at hl 2 rfl) ?_
        refine lv_aload_n hx hb dL_law_181 rfl (lv_at hl 0 rfl) ?_
        refine lv_iload_n hx hb dL_law_182 rfl (lv_at hl 3 rfl) ?_
        refine xi_iconst hx hb dL_law_183 ?_
        refine xi_iadd hx hb dL_law_184 ?_
        refine xs_ld hx hb hX hbl hbA w (6 * it + 1) (by omega) (by omega) hL2 dL_law_185 ?_
        refine lv_aload_n hx hb dL_law_186 rfl (lv_at hl 0 rfl) ?_
        refine lv_iload_n hx hb dL_law_187 rfl (lv_at hl 3 rfl) ?_
        refine xi_iconst hx hb dL_law_188 ?_
        refine xi_iadd hx hb dL_law_189 ?_
        refine xs_ld hx hb hX hbl hbA w (6 * it + 2) (by omega) (by omega) hL2 dL_law_190 ?_
        refine xv_calli (M_quick1 (n := n) (a := (xs (6 * it + 1))) (b := (xs (6 * it + 2))) hn) S (cwV 2 hts (lw_V q158 q159 q160 q8 q161) rfl rfl rfl ⟨rfl, by decide, by decide, by decide⟩ ⟨(Nat.le_of_ble_eq_true rfl), (Nat.le_of_ble_eq_true rfl)⟩) w 2 3 0 rfl rfl (by decide) rfl rfl rfl hl.1 rfl (Nat.le_of_ble_eq_true rfl) dL_law_191 ⟨by show _ ≤ 600000; omega, by show _ ≤ 7302250; omega⟩ (fun r1 u1 H locs h19 w => ?_)
        obtain ⟨n1, y1, rfl, hn1, hs1⟩ := h19
        obtain ⟨e1, e2, e3⟩ := hs0.det hs1
        subst e1; subst e2; subst e3
        have w : xW D [(d, .long)] (fun q : Nat => s.heap.size ≤ q) s [(o, Ob 0 h n0), (h, La d 4096 y0), (o2, Ob 1 h2 n0), (h2, La d 4096 y0)] H locs := w
        refine lv_icmp_eq (tgt := 333) hx hb dL_law_194 (by decide) (fun _ => ?_) (fun hc => absurd rfl hc)
        exact next n0 y0 H locs _ _ (by omega) hn0 (by omega) (by omega) w
      · skip
        refine lv_tableIn (off := 166) (tgt := 199) hx hb dL_law_33 (by decide) (by decide) rfl (by decide) ?_
        refine lv_aload_n hx hb dL_law_199 rfl (lv_at hl 1 rfl) ?_
        refine lv_aload_n hx hb dL_law_200 rfl (lv_at hl 0 rfl) ?_
        refine lv_iload_n hx hb dL_law_201 rfl (lv_at hl 3 rfl) ?_
        refine xi_iconst hx hb dL_law_202 ?_
        refine xi_iadd hx hb dL_law_203 ?_
        refine xs_ld hx hb hX hbl hbA w (6 * it + 1) (by omega) (by omega) hL2 dL_law_204 ?_
        refine lv_aload_n hx hb dL_law_205 rfl (lv_at hl 0 rfl) ?_
        refine lv_iload_n hx hb dL_law_206 rfl (lv_at hl 3 rfl) ?_
        refine xi_iconst hx hb dL_law_207 ?_
        refine xi_iadd hx hb dL_law_208 ?_
        refine xs_ld hx hb hX hbl hbA w (6 * it + 2) (by omega) (by omega) hL2 dL_law_209 ?_
        refine xv_calli (M_merge0 (n := n) (a := (xs (6 * it + 1))) (b := (xs (6 * it + 2))) hn) S (cwV 2 hts (lw_V q78 q79 q80 q7 q81) rfl rfl rfl ⟨rfl, by decide, by decide, by decide⟩ ⟨(Nat.le_of_ble_eq_true rfl), (Nat.le_of_ble_eq_true rfl)⟩) w 0 1 0 rfl rfl (by decide) rfl rfl rfl hl.1 rfl (Nat.le_of_ble_eq_true rfl) dL_law_210 ⟨by show _ ≤ 600000; omega, by show _ ≤ 7302250; omega⟩ (fun r0 u0 H locs h09 w => ?_)
        obtain ⟨n0, y0, rfl, hn0, hs0⟩ := h09
        have w : xW D [(d, .long)] (fun q : Nat => s.heap.size ≤ q) s [(o, Ob 0 h n0), (h, La d 4096 y0), (o2, Ob 1 h2 n), (h2, La d 4096 x)] H locs := w
        refine lv_aload_n hx hb dL_law_213 rfl (lv_at hl 2 rfl) ?_
        refine lv_aload_n hx hb dL_law_214 rfl (lv_at hl 0 rfl) ?_
        refine lv_iload_n hx hb dL_law_215 rfl (lv_at hl 3 rfl) ?_
        refine xi_iconst hx hb dL_law_216 ?_
        refine xi_iadd hx hb dL_law_217 ?_
        refine xs_ld hx hb hX hbl hbA w (6 * it + 1) (by omega) (by omega) hL2 dL_law_218 ?_
        refine lv_aload_n hx hb dL_law_219 rfl (lv_at hl 0 rfl) ?_
        refine lv_iload_n hx hb dL_law_220 rfl (lv_at hl 3 rfl) ?_
        refine xi_iconst hx hb dL_law_221 ?_
        refine xi_iadd hx hb dL_law_222 ?_
        refine xs_ld hx hb hX hbl hbA w (6 * it + 2) (by omega) (by omega) hL2 dL_law_223 ?_
        refine xv_calli (M_merge1 (n := n) (a := (xs (6 * it + 1))) (b := (xs (6 * it + 2))) hn) S (cwV 2 hts (lw_V q178 q179 q180 q8 q181) rfl rfl rfl ⟨rfl, by decide, by decide, by decide⟩ ⟨(Nat.le_of_ble_eq_true rfl), (Nat.le_of_ble_eq_true rfl)⟩) w 2 3 0 rfl rfl (by decide) rfl rfl rfl hl.1 rfl (Nat.le_of_ble_eq_true rfl) dL_law_224 ⟨by show _ ≤ 600000; omega, by show _ ≤ 7302250; omega⟩ (fun r1 u1 H locs h19 w => ?_)
        obtain ⟨n1, y1, rfl, hn1, hs1⟩ := h19
        obtain ⟨e1, e2, e3⟩ := hs0.det hs1
        subst e1; subst e2; subst e3
        have w : xW D [(d, .long)] (fun q : Nat => s.heap.size ≤ q) s [(o, Ob 0 h n0), (h, La d 4096 y0), (o2, Ob 1 h2 n0), (h2, La d 4096 y0)] H locs := w
        refine lv_icmp_eq (tgt := 333) hx hb dL_law_227 (by decide) (fun _ => ?_) (fun hc => absurd rfl hc)
        exact next n0 y0 H locs _ _ (by omega) hn0 (by omega) (by omega) w
      · skip
        refine lv_tableIn (off := 199) (tgt := 232) hx hb dL_law_33 (by decide) (by decide) rfl (by decide) ?_
        refine lv_aload_n hx hb dL_law_232 rfl (lv_at hl 1 rfl) ?_
        refine lv_aload_n hx hb dL_law_233 rfl (lv_at hl 0 rfl) ?_
        refine lv_iload_n hx hb dL_law_234 rfl (lv_at hl 3 rfl) ?_
        refine xi_iconst hx hb dL_law_235 ?_
        refine xi_iadd hx hb dL_law_236 ?_
        refine xs_ld hx hb hX hbl hbA w (6 * it + 1) (by omega) (by omega) hL2 dL_law_237 ?_
        refine lv_aload_n hx hb dL_law_238 rfl (lv_at hl 0 rfl) ?_
        refine lv_iload_n hx hb dL_law_239 rfl (lv_at hl 3 rfl) ?_
        refine xi_iconst hx hb dL_law_240 ?_
        refine xi_iadd hx hb dL_law_241 ?_
        refine xs_ld hx hb hX hbl hbA w (6 * it + 2) (by omega) (by omega) hL2 dL_law_242 ?_
        refine xv_calli (M_radix0 (n := n) (a := (xs (6 * it + 1))) (b := (xs (6 * it + 2))) hn) S (cwV 2 hts (lw_V q107 q108 q109 q7 q110) rfl rfl rfl ⟨rfl, by decide, by decide, by decide⟩ ⟨(Nat.le_of_ble_eq_true rfl), (Nat.le_of_ble_eq_true rfl)⟩) w 0 1 0 rfl rfl (by decide) rfl rfl rfl hl.1 rfl (Nat.le_of_ble_eq_true rfl) dL_law_243 ⟨by show _ ≤ 600000; omega, by show _ ≤ 7302250; omega⟩ (fun r0 u0 H locs h09 w => ?_)
        obtain ⟨n0, y0, rfl, hn0, hs0⟩ := h09
        have w : xW D [(d, .long)] (fun q : Nat => s.heap.size ≤ q) s [(o, Ob 0 h n0), (h, La d 4096 y0), (o2, Ob 1 h2 n), (h2, La d 4096 x)] H locs := w
        refine lv_aload_n hx hb dL_law_246 rfl (lv_at hl 2 rfl) ?_
        refine lv_aload_n hx hb dL_law_247 rfl (lv_at hl 0 rfl) ?_
        refine lv_iload_n hx hb dL_law_248 rfl (lv_at hl 3 rfl) ?_
        refine xi_iconst hx hb dL_law_249 ?_
        refine xi_iadd hx hb dL_law_250 ?_
        refine xs_ld hx hb hX hbl hbA w (6 * it + 1) (by omega) (by omega) hL2 dL_law_251 ?_
        refine lv_aload_n hx hb dL_law_252 rfl (lv_at hl 0 rfl) ?_
        refine lv_iload_n hx hb dL_law_253 rfl (lv_at hl 3 rfl) ?_
        refine xi_iconst hx hb dL_law_254 ?_
        refine xi_iadd hx hb dL_law_255 ?_
        refine xs_ld hx hb hX hbl hbA w (6 * it + 2) (by omega) (by omega) hL2 dL_law_256 ?_
        refine xv_calli (M_radix1 (n := n) (a := (xs (6 * it + 1))) (b := (xs (6 * it + 2))) hn) S (cwV 2 hts (lw_V q182 q183 q184 q8 q185) rfl rfl rfl ⟨rfl, by decide, by decide, by decide⟩ ⟨(Nat.le_of_ble_eq_true rfl), (Nat.le_of_ble_eq_true rfl)⟩) w 2 3 0 rfl rfl (by decide) rfl rfl rfl hl.1 rfl (Nat.le_of_ble_eq_true rfl) dL_law_257 ⟨by show _ ≤ 600000; omega, by show _ ≤ 7302250; omega⟩ (fun r1 u1 H locs h19 w => ?_)
        obtain ⟨n1, y1, rfl, hn1, hs1⟩ := h19
        obtain ⟨e1, e2, e3⟩ := hs0.det hs1
        subst e1; subst e2; subst e3
        have w : xW D [(d, .long)] (fun q : Nat => s.heap.size ≤ q) s [(o, Ob 0 h n0), (h, La d 4096 y0), (o2, Ob 1 h2 n0), (h2, La d 4096 y0)] H locs := w
        refine lv_icmp_eq (tgt := 333) hx hb dL_law_260 (by decide) (fun _ => ?_) (fun hc => absurd rfl hc)
        exact next n0 y0 H locs _ _ (by omega) hn0 (by omega) (by omega) w
      · skip
        refine lv_tableIn (off := 232) (tgt := 265) hx hb dL_law_33 (by decide) (by decide) rfl (by decide) ?_
        refine lv_aload_n hx hb dL_law_265 rfl (lv_at hl 1 rfl) ?_
        refine lv_aload_n hx hb dL_law_266 rfl (lv_at hl 0 rfl) ?_
        refine lv_iload_n hx hb dL_law_267 rfl (lv_at hl 3 rfl) ?_
        refine xi_iconst hx hb dL_law_268 ?_
        refine xi_iadd hx hb dL_law_269 ?_
        refine xs_ld hx hb hX hbl hbA w (6 * it + 1) (by omega) (by omega) hL2 dL_law_270 ?_
        refine xv_calll (M_row0 (n := n) (a := (xs (6 * it + 1))) hn) S (cwV 1 hts (lw_V q116 q117 q118 q7 q119) rfl rfl rfl ⟨rfl, by decide, by decide, by decide⟩ ⟨(Nat.le_of_ble_eq_true rfl), (Nat.le_of_ble_eq_true rfl)⟩) w 0 1 0 rfl rfl (by decide) rfl rfl rfl hl.1 rfl (Nat.le_of_ble_eq_true rfl) dL_law_271 ⟨by show _ ≤ 600000; omega, by show _ ≤ 7302250; omega⟩ (fun r0 u0 H locs h09 w => ?_)
        obtain ⟨n0, y0, rfl, hn0, hs0⟩ := h09
        have w : xW D [(d, .long)] (fun q : Nat => s.heap.size ≤ q) s [(o, Ob 0 h n0), (h, La d 4096 y0), (o2, Ob 1 h2 n), (h2, La d 4096 x)] H locs := w
        refine lv_aload_n hx hb dL_law_274 rfl (lv_at hl 2 rfl) ?_
        refine lv_aload_n hx hb dL_law_275 rfl (lv_at hl 0 rfl) ?_
        refine lv_iload_n hx hb dL_law_276 rfl (lv_at hl 3 rfl) ?_
        refine xi_iconst hx hb dL_law_277 ?_
        refine xi_iadd hx hb dL_law_278 ?_
        refine xs_ld hx hb hX hbl hbA w (6 * it + 1) (by omega) (by omega) hL2 dL_law_279 ?_
        refine xv_calll (M_row1 (n := n) (a := (xs (6 * it + 1))) hn) S (cwV 1 hts (lw_V q186 q187 q188 q8 q189) rfl rfl rfl ⟨rfl, by decide, by decide, by decide⟩ ⟨(Nat.le_of_ble_eq_true rfl), (Nat.le_of_ble_eq_true rfl)⟩) w 2 3 0 rfl rfl (by decide) rfl rfl rfl hl.1 rfl (Nat.le_of_ble_eq_true rfl) dL_law_280 ⟨by show _ ≤ 600000; omega, by show _ ≤ 7302250; omega⟩ (fun r1 u1 H locs h19 w => ?_)
        obtain ⟨n1, y1, rfl, hn1, hs1⟩ := h19
        obtain ⟨e1, e2, e3⟩ := hs0.det hs1
        subst e1; subst e2; subst e3
        have w : xW D [(d, .long)] (fun q : Nat => s.heap.size ≤ q) s [(o, Ob 0 h n0), (h, La d 4096 y0), (o2, Ob 1 h2 n0), (h2, La d 4096 y0)] H locs := w
        refine xl_cmp_eq hx hb dL_law_283 dL_law_284 (tgt := 333) (by decide) (fun _ => ?_) (fun hc => absurd rfl hc)
        exact next n0 y0 H locs _ _ (by omega) hn0 (by omega) (by omega) w
      · skip
        refine lv_tableIn (off := 256) (tgt := 289) hx hb dL_law_33 (by decide) (by decide) rfl (by decide) ?_
        refine lv_aload_n hx hb dL_law_289 rfl (lv_at hl 1 rfl) ?_
        refine lv_aload_n hx hb dL_law_290 rfl (lv_at hl 0 rfl) ?_
        refine lv_iload_n hx hb dL_law_291 rfl (lv_at hl 3 rfl) ?_
        refine xi_iconst hx hb dL_law_292 ?_
        refine xi_iadd hx hb dL_law_293 ?_
        refine xs_ld hx hb hX hbl hbA w (6 * it + 1) (by omega) (by omega) hL2 dL_law_294 ?_
        refine lv_aload_n hx hb dL_law_295 rfl (lv_at hl 0 rfl) ?_
        refine lv_iload_n hx hb dL_law_296 rfl (lv_at hl 3 rfl) ?_
        refine xi_iconst hx hb dL_law_297 ?_
        refine xi_iadd hx hb dL_law_298 ?_
        refine xs_ld hx hb hX hbl hbA w (6 * it + 2) (by omega) (by omega) hL2 dL_law_299 ?_
        refine xv_calli (M_find0 (n := n) (a := (xs (6 * it + 1))) (b := (xs (6 * it + 2))) hn) S (cwV 2 hts (lw_V q120 q121 q122 q7 q123) rfl rfl rfl ⟨rfl, by decide, by decide, by decide⟩ ⟨(Nat.le_of_ble_eq_true rfl), (Nat.le_of_ble_eq_true rfl)⟩) w 0 1 0 rfl rfl (by decide) rfl rfl rfl hl.1 rfl (Nat.le_of_ble_eq_true rfl) dL_law_300 ⟨by show _ ≤ 600000; omega, by show _ ≤ 7302250; omega⟩ (fun r0 u0 H locs h09 w => ?_)
        obtain ⟨n0, y0, rfl, hn0, hs0⟩ := h09
        have w : xW D [(d, .long)] (fun q : Nat => s.heap.size ≤ q) s [(o, Ob 0 h n0), (h, La d 4096 y0), (o2, Ob 1 h2 n), (h2, La d 4096 x)] H locs := w
        refine lv_aload_n hx hb dL_law_303 rfl (lv_at hl 2 rfl) ?_
        refine lv_aload_n hx hb dL_law_304 rfl (lv_at hl 0 rfl) ?_
        refine lv_iload_n hx hb dL_law_305 rfl (lv_at hl 3 rfl) ?_
        refine xi_iconst hx hb dL_law_306 ?_
        refine xi_iadd hx hb dL_law_307 ?_
        refine xs_ld hx hb hX hbl hbA w (6 * it + 1) (by omega) (by omega) hL2 dL_law_308 ?_
        refine lv_aload_n hx hb dL_law_309 rfl (lv_at hl 0 rfl) ?_
        refine lv_iload_n hx hb dL_law_310 rfl (lv_at hl 3 rfl) ?_
        refine xi_iconst hx hb dL_law_311 ?_
        refine xi_iadd hx hb dL_law_312 ?_
        refine xs_ld hx hb hX hbl hbA w (6 * it + 2) (by omega) (by omega) hL2 dL_law_313 ?_
        refine xv_calli (M_find1 (n := n) (a := (xs (6 * it + 1))) (b := (xs (6 * it + 2))) hn) S (cwV 2 hts (lw_V q190 q191 q192 q8 q193) rfl rfl rfl ⟨rfl, by decide, by decide, by decide⟩ ⟨(Nat.le_of_ble_eq_true rfl), (Nat.le_of_ble_eq_true rfl)⟩) w 2 3 0 rfl rfl (by decide) rfl rfl rfl hl.1 rfl (Nat.le_of_ble_eq_true rfl) dL_law_314 ⟨by show _ ≤ 600000; omega, by show _ ≤ 7302250; omega⟩ (fun r1 u1 H locs h19 w => ?_)
        obtain ⟨n1, y1, rfl, hn1, hs1⟩ := h19
        obtain ⟨e1, e2, e3⟩ := hs0.det hs1
        subst e1; subst e2; subst e3
        have w : xW D [(d, .long)] (fun q : Nat => s.heap.size ≤ q) s [(o, Ob 0 h n0), (h, La d 4096 y0), (o2, Ob 1 h2 n0), (h2, La d 4096 y0)] H locs := w
        refine lv_icmp_eq (tgt := 333) hx hb dL_law_317 (by decide) (fun _ => ?_) (fun hc => absurd rfl hc)
        exact next n0 y0 H locs _ _ (by omega) hn0 (by omega) (by omega) w
      · skip
        refine lv_tableIn (off := 289) (tgt := 322) hx hb dL_law_33 (by decide) (by decide) rfl (by decide) ?_
        refine lv_aload_n hx hb dL_law_322 rfl (lv_at hl 1 rfl) ?_
        refine xv_callv (M_empty0 (n := n) ) S (cwV 0 hts (lw_V q127 q128 q129 q7 q130) rfl rfl rfl ⟨rfl, by decide, by decide, by decide⟩ ⟨(Nat.le_of_ble_eq_true rfl), (Nat.le_of_ble_eq_true rfl)⟩) w 0 1 0 rfl rfl (by decide) rfl rfl rfl hl.1 rfl (Nat.le_of_ble_eq_true rfl) dL_law_323 ⟨by show _ ≤ 600000; omega, by show _ ≤ 7302250; omega⟩ (fun u0 H locs h09 w => ?_)
        subst h09
        have w : xW D [(d, .long)] (fun q : Nat => s.heap.size ≤ q) s [(o, Ob 0 h 0), (h, La d 4096 x), (o2, Ob 1 h2 n), (h2, La d 4096 x)] H locs := w
        refine lv_aload_n hx hb dL_law_326 rfl (lv_at hl 2 rfl) ?_
        refine xv_callv (M_empty1 (n := n) ) S (cwV 0 hts (lw_V q194 q195 q196 q8 q197) rfl rfl rfl ⟨rfl, by decide, by decide, by decide⟩ ⟨(Nat.le_of_ble_eq_true rfl), (Nat.le_of_ble_eq_true rfl)⟩) w 2 3 0 rfl rfl (by decide) rfl rfl rfl hl.1 rfl (Nat.le_of_ble_eq_true rfl) dL_law_327 ⟨by show _ ≤ 600000; omega, by show _ ≤ 7302250; omega⟩ (fun u1 H locs h19 w => ?_)
        subst h19
        have w : xW D [(d, .long)] (fun q : Nat => s.heap.size ≤ q) s [(o, Ob 0 h 0), (h, La d 4096 x), (o2, Ob 1 h2 0), (h2, La d 4096 x)] H locs := w
        refine lv_goto (tgt := 333) hx hb dL_law_330 (by decide) ?_
        exact next 0 x H locs _ _ (by omega) (by omega) (by omega) (by omega) w
theorem whole_start {p : Program} {e : Env} {s : State} {m : MethodId} {below : List Frame} {meth : Method} {c : Code} (l : Launch) (hflags : l.flags = flags0) {b L : Nat} {xs : Nat → Int32} (hL : L ≤ 384) (C0 : lw_At p s m meth c b L xs) : W p l e room_1 s m #[Value.ref b] below meth c s.heap [] 0 0 (lw_Z below #[Value.ref b] s) (entryFrame m ([Value.ref b] : List Value).toArray 4) := by
  obtain ⟨hx, hb, hr, hml, hown, hts0, hX, hbl, hlocks, hgv⟩ := id C0
  have hts : ∀ w ∈ lw_all, w.before #[Value.ref b] s = true := fun w h => hts0 w (lw_all_tbl h)
  have hA : ∀ q : Nat, s.heap.size ≤ q → (fun q : Nat => s.heap.size ≤ q) q := fun _ h => h
  have hNw : xNw s := va_Nw.of rfl (hts0 _ q100)
  have S : CallFix p m c code 4 s #[Value.ref b] lw_all R_law := ⟨hx, hb, hml, hown, hts⟩
  obtain ⟨c0_, iS0, hKn0⟩ := u_known (C := RX0) (T := TX0) (N := 2) (n := 2) hts0 (fun w h => lw_all_tbl (in_X0 w h)) (hts0 _ (lw_all_tbl q15))
  obtain ⟨c1_, iS1, hKn1⟩ := u_known (C := RX1) (T := TX1) (N := 2) (n := 2) hts0 (fun w h => lw_all_tbl (in_X1 w h)) (hts0 _ (lw_all_tbl q132))
  obtain ⟨D, hKc⟩ : ∃ D : va_G, ∀ (k : Nat) (q : vw_C), vwCl[k]? = some q → u_Kn s q.1 q.2.1 q.2.2 (D.1 k) (D.2 k) := by
    refine ⟨(fun k => if k = 0 then c0_ else c1_, fun k => if k = 0 then iS0 else iS1), ?_⟩
    intro k q hq
    match k, hq with
    | 0, hq => cases hq; exact hKn0
    | 1, hq => cases hq; exact hKn1
    | k + 2, hq => simp [vwCl] at hq
  have hS : va_S (fun q : Nat => s.heap.size ≤ q) s.heap s.heap [] := va_S.rf
  have hK : va_K D vwCl [] s := ⟨hKc, fun k q h => by simp at h⟩
  have hP : va_P D vwCl [] s.heap := fun k q h => by simp at h
  have hD : va_D (fun q : Nat => s.heap.size ≤ q) [] := ⟨fun i j p q h => by simp at h, fun k q h => by simp at h⟩
  have hl := lv_entry ([.ref b]) (n := 4) (Nat.le_of_ble_eq_true rfl)
  rw [lg_entry_eq]
  generalize (lg_sl ([.ref b]) ++ List.replicate (4 - (lg_sl ([.ref b])).length) Slot.unset).toArray = ls at hl ⊢
  have hl : lv_has ls 4 [(0, .ref b)] := hl
  refine va_new (ci := 0) (fs := [.null, .int (iI ((0 : Nat) : Int))]) (C := RX0) (T := TX0) (N := 2) hx hb hts in_X0 tyX0 tyX0_ok hown (hts _ q14) (hts _ q15) (hts _ q7) hK hP hD hS hA rfl (fun j hj => by rcases (show j = 0 ∨ j = 1 by omega) with rfl | rfl <;> rfl) (Nat.le_of_ble_eq_true rfl) (Nat.le_of_ble_eq_true rfl) dL_law_0 (fun o H hP hD hS => ?_)
  have hP : va_P D vwCl [(o, O0 0)] H := hP
  have hD : va_D (fun q : Nat => s.heap.size ≤ q) [(o, O0 0)] := hD
  refine W.widen (k := 1) (n := 2) (Nat.le_of_ble_eq_true rfl) (Nat.le_of_ble_eq_true rfl) ?_
  refine lv_dup hx hb dL_law_3 rfl ?_
  have hFc := va_free (wc := [(o, O0 0)]) hD hS hA [0] rfl
  refine va_callv (va_runI (As := []) (rest := [.ref o]) S (M_init0 (o := o) (sz := H.size)) (cwI 0 hts (lw_meth q18) rfl rfl rfl (hts _ q7) (hts _ q16) (hts _ q17) rfl (by decide +kernel) ⟨(Nat.le_of_ble_eq_true rfl), (Nat.le_of_ble_eq_true rfl)⟩) ⟨IPc.blind, fun U hU hW => ⟨rfl, by rw [hU], by rw [hU]; exact hP, va_K.moved hW.alike hK, hD.weaken (fun _ _ _ _ => trivial)⟩⟩ rfl rfl hl.1 rfl (lv_room (Nat.le_of_ble_eq_true rfl)) dL_law_4 ⟨(Nat.le_of_ble_eq_true rfl), (Nat.le_of_ble_eq_true rfl)⟩) hS (fun q _ h => hFc q h) hFc (fun u t H1 locs ht hvm _ hB hz1 hk1 hS => ?_)
  obtain ⟨h, d⟩ := u
  obtain ⟨hP1, hK1, hD1⟩ := hB
  rw [ht] at hP1
  have hK1 : va_K D vwCl [(d, .long)] s := va_K.moved hvm.symm hK1
  have hP : va_P D vwCl [(o, Ob 0 h 0), (h, La d 4096 (fun _ => 0))] H1 := hP1
  have hD : va_D (fun q : Nat => s.heap.size ≤ q) [(o, Ob 0 h 0), (h, La d 4096 (fun _ => 0))] := hD1.weaken (fun _ q _ hq => hFc q.1 hq)
  refine W.widen (k := 2) (n := 4098) (Nat.le_of_ble_eq_true rfl) (Nat.le_of_ble_eq_true rfl) ?_
  refine lv_astore_n (lv' := [(1, .ref o), (0, .ref b)]) hx hb dL_law_7 rfl hl (by decide) rfl (fun ls hl => ?_)
  refine va_new (ci := 1) (fs := [.null, .int (iI ((0 : Nat) : Int))]) (C := RX1) (T := TX1) (N := 2) hx hb hts in_X1 tyX1 tyX1_ok hown (hts _ q131) (hts _ q132) (hts _ q8) hK1 hP hD hS hA rfl (fun j hj => by rcases (show j = 0 ∨ j = 1 by omega) with rfl | rfl <;> rfl) (Nat.le_of_ble_eq_true rfl) (Nat.le_of_ble_eq_true rfl) dL_law_8 (fun o2 H hP hD hS => ?_)
  have hP : va_P D vwCl [(o, Ob 0 h 0), (h, La d 4096 (fun _ => 0)), (o2, O0 1)] H := hP
  have hD : va_D (fun q : Nat => s.heap.size ≤ q) [(o, Ob 0 h 0), (h, La d 4096 (fun _ => 0)), (o2, O0 1)] := hD
  refine W.widen (k := 3) (n := 4100) (Nat.le_of_ble_eq_true rfl) (Nat.le_of_ble_eq_true rfl) ?_
  refine lv_dup hx hb dL_law_11 rfl ?_
  have hPc := hP.sub (ws' := [(o2, O0 1)]) [2] rfl
  have hDc := hD.sub (ws' := [(o2, O0 1)]) [2] (by decide) rfl
  have hFc2 := va_free (wc := [(o2, O0 1)]) hD hS hA [2] rfl
  refine va_callv (va_runI (As := []) (rest := [.ref o2]) S (M_init1 (o := o2) (sz := H.size)) (cwI 0 hts (lw_meth q135) rfl rfl rfl (hts _ q8) (hts _ q133) (hts _ q134) rfl (by decide +kernel) ⟨(Nat.le_of_ble_eq_true rfl), (Nat.le_of_ble_eq_true rfl)⟩) ⟨IPc.blind, fun U hU hW => ⟨rfl, by rw [hU], by rw [hU]; exact hPc, va_K.moved hW.alike hK, hDc.weaken (fun _ _ _ _ => trivial)⟩⟩ rfl rfl hl.1 rfl (lv_room (Nat.le_of_ble_eq_true rfl)) dL_law_12 ⟨(Nat.le_of_ble_eq_true rfl), (Nat.le_of_ble_eq_true rfl)⟩) hS (fun q _ h => hFc2 q h) hFc2 (fun u t H2 locs ht hvm _ hB hz2 hk2 hS => ?_)
  obtain ⟨h2, d2⟩ := u
  obtain ⟨hP2, hK2, hD2⟩ := hB
  rw [ht] at hP2
  have hK2 : va_K D vwCl [(d2, .long)] s := va_K.moved hvm.symm hK2
  have e1 : s.vm.findClass ("[" ++ (FieldType.long).toString) = some d2 := (hK2.2 0 _ rfl).2
  have e2 : s.vm.findClass ("[" ++ (FieldType.long).toString) = some d := (hK1.2 0 _ rfl).2
  have e3 : d2 = d := Option.some.inj (e1.symm.trans e2)
  subst e3
  obtain ⟨hP, hD⟩ := va_join (wr := [(o, Ob 0 h 0), (h, La d2 4096 (fun _ => 0))]) (w1 := [(o2, Ob 1 h2 0), (h2, La d2 4096 (fun _ => 0))]) hP hD [2] [0, 1] rfl rfl (by decide) (by decide) hk2 hFc2 hP2 hD2
  have w : xW D [(d2, .long)] (fun q : Nat => s.heap.size ≤ q) s [(o, Ob 0 h 0), (h, La d2 4096 (fun _ => 0)), (o2, Ob 1 h2 0), (h2, La d2 4096 (fun _ => 0))] H2 locs := ⟨hK1, hP, hD, hS, hA, hNw⟩
  refine W.widen (k := 4) (n := 8196) (Nat.le_of_ble_eq_true rfl) (Nat.le_of_ble_eq_true rfl) ?_
  refine lv_astore_n (lv' := [(2, .ref o2), (1, .ref o), (0, .ref b)]) hx hb dL_law_15 rfl hl (by decide) rfl (fun ls hl => ?_)
  refine xi_iconst hx hb dL_law_16 ?_
  refine lv_istore_n (lv' := [(3, .int (iI 0)), (2, .ref o2), (1, .ref o), (0, .ref b)]) hx hb dL_law_17 rfl hl (by decide) rfl (fun ls hl => ?_)
  exact law_loop l hL C0 65 0 0 (fun _ => 0) 0 H2 locs ls (by omega) (by omega) (by omega) w (lv_sub hl [3, 2, 1, 0] rfl)

set_option maxHeartbeats 4000000 in
theorem lw_walk (l : Launch) (hflags : l.flags = flags0) (b : Addr) (xs : List Int32) : MetFree l x (headSpec (Jvm.Cond.code x code maxLocals ret :: tables_1) room_1) (lw_P b xs) (fun _ _ _ _ _ => True) lw_Q := by
  refine MetFree.of_bodyS (code := code) (maxLocals := maxLocals) (ret := ret) (by decide) ?_ ?_
  · intro args s m h hn
    obtain ⟨meth, c, h1, h2, h3, h4, h5, h6, -, -⟩ := Cond.code_spec hn (atoms_spec (ws := Jvm.Cond.code x code maxLocals ret :: tables_1) h _ List.mem_cons_self)
    exact ⟨meth, c, h1, h2, h3, h4, h5, h6⟩
  · intro p e s m args below meth c s₁ B hml0 hP _
    obtain ⟨rfl, hx, hbd, hgv⟩ := hP
    obtain ⟨scr, harrAt, hlist, hof, hsmall⟩ := hx
    obtain ⟨hcb, hkn, -, -⟩ := State.arrayAt?_spec harrAt
    have hown : s.vm.findClass R_law = some m.cls := findClass_of_methodNamed B.named
    have hts0 : ∀ c ∈ (Jvm.Cond.code x code maxLocals ret :: tables_1), c.before #[Value.ref b] s = true := atoms_spec (ws := Jvm.Cond.code x code maxLocals ret :: tables_1) B.pre
    have hts : ∀ w ∈ lw_tbl, w.before #[Value.ref b] s = true := k2_hts_sels lw_privs (fun w hw => hts0 w (List.mem_cons_of_mem _ hw)) lw_privs_ok
    have hml : c.maxLocals = 4 := B.maxLocals_eq (hts0 _ List.mem_cons_self)
    have X₀ : Stand p l e room_1 s m #[Value.ref b] below meth c s₁ [] 0 0 := Stand.of_body B
    have hh0 : s₁.heap = s.heap := by rw [B.state]; rfl
    have hsz : scr.slots.size = xs.length := by rw [← Array.length_toList, hlist, List.length_map]
    have hval : ∀ j : Nat, j < xs.length → scr.slots[j]? = some (.int (xs.getD j 0)) := fun j hj => by
      rw [← Array.getElem?_toList, hlist]
      simp [hj]
    have hbl : b < s.heap.size := (Array.getElem?_eq_some_iff.mp hcb).1
    have hX : va_X b xs.length (fun j => xs.getD j 0) s s.heap := ⟨scr, hcb, hof, hkn, hsz, hval⟩
    have K : W p l e room_1 s m #[Value.ref b] below meth c s₁.heap [] 0 0 (lw_Z below #[Value.ref b] s) (entryFrame m ([Value.ref b] : List Value).toArray 4) := by
      rw [hh0]
      exact whole_start l hflags hbd ⟨B.exec, B.bytes, B.returns, hml, hown, hts, hX, hbl, B.notSynchronized, hgv⟩
    obtain ⟨t, a1, o, b1, b2, b3⟩ := K s₁ rfl X₀
    exact ⟨t, o, a1, b1, b2, b3⟩
theorem lw_pre_spec {args : Array Value} {s : State} (h : (Jvm.Cond.and given_1 narrow_1).before args s = true) (hr : rest_1_c.before args s = true) : ∃ (b : Addr) (xs : List Int32), lw_P b xs args s := by
  have hs := flat_of_before _ h
  have hq := flat_of_before _ hr
  have hc : (Cond.count 1).before args s = true := hs _ (by decide +kernel)
  have harr : (Cond.arrayOf (.arg 0) .int).before args s = true := hs _ (by decide +kernel)
  have hle : (Cond.le (.length (.arg 0)) (.int 384)).before args s = true := hs _ (by decide +kernel)
  have hlen : (Cond.isInt (.length (.arg 0))).before args s = true := hq _ (by decide +kernel)
  have hall : (Cond.all (.arg 0) (.isInt (.elem (.arg 0) (.index 0)))).before args s = true := hq _ (by decide +kernel)
  obtain ⟨b, xs, hb, hx⟩ := State.ints_of_pre rfl harr hlen hall
  have hsm : xs.length < 2 ^ 31 := hx.choose_spec.2.2.2
  have hev : (Term.length (.arg 0)).eval args s none [] s = some (.int xs.length.toInt32) := hx.length_eval hb
  have hv := Cond.le_ints hev (show (Term.int 384).eval args s none [] s = some (.int 384) from rfl)
  have hd : xs.length.toInt32 ≤ 384 := by
    simpa [Cond.before, Cond.holds, hv] using hle
  have hN : xs.length ≤ 384 := (Int32.ofNat_le_ofNat hsm (by decide)).mp (show Int32.ofNat xs.length ≤ Int32.ofNat 384 from hd)
  exact ⟨b, xs, Cond.one_arg hc (show args[0]? = some (.ref b) from hb), hx, hN, h⟩
theorem lw_comes (l : Launch) (hflags : l.flags = flags0) : Comes l x (Jvm.Cond.code x code maxLocals ret :: tables_1) room_1 (fun tb e args s => Calls_1 tb e args s ∧ rest_1 tb e args s ∧ Pre_1 tb e args s)
    (fun _ _ args s o t => lw_Q args s o t) := by
  intro p e ha hc hk s m args below hf hfit hheap happ hpre
  obtain ⟨b, xs, hP⟩ := lw_pre_spec hpre.2.2 hpre.2.1
  obtain ⟨k, o, h1, h2, h3, hQ⟩ := lw_walk l hflags b xs p e ha hc hk s m args below hf ((Spec.applies_iff_loose hf).mp happ).1 hP trivial
  exact ⟨k, o, h1, h2, h3, hQ⟩
theorem lw_frame {s t : State} {o : Outcome} {args : Array Value} (h : Framed s o t [] 600000 7302250) :
    Framed s o t (fieldLocs frame_1_writes args s ++ arrayLocs frame_1_arrays args s ++ staticLocs frame_1_statics s) 600000 7302250 := h
theorem lw_limb (L : Cond) (hL : ∀ (args : Array Value) (s t : State), L.after args s (.returned (some (.int 1))) t = true) :
    ArmFor flags0 classFile x code maxLocals ret World_1 tables_1 room_1 Calls_1 rest_1 Pre_1
      (fun tb e a s o t => postC L tb e a s o t ∧ Framed s o t (fieldLocs frame_1_writes a s ++ arrayLocs frame_1_arrays a s ++ staticLocs frame_1_statics s) 600000 7302250) := by
  intro l hflags _ _ p e ha hc hk s m args below hf hfit hheap happ hpre
  obtain ⟨k, o, h1, h2, h3, rfl, hF⟩ := lw_comes l hflags p e ha hc hk s m args below hf hfit hheap happ hpre
  exact ⟨k, _, h1, h2, h3, hL args s _, lw_frame hF⟩
theorem i_vc : Claimed_1_1 ∧ Claimed_1_2 := ⟨lw_limb limb_1_1 (fun args s t => by simp [limb_1_1, Cond.after, Cond.holds, Cond.value]), lw_limb limb_1_2 (fun args s t => Cond.after_iff.mpr (by
  first | (rw [show limb_1_2 = Cond.eq .result (.int 1) from rfl, Cond.eq_ints (x := 1) (y := 1) rfl rfl]; simp; done) | (simp [limb_1_2, Cond.value, Term.eval]; done)))⟩
end
