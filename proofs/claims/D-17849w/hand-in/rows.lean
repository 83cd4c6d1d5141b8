section
-- ===== PART A: goes FIRST, ahead of the names: the tables' words, and 'selects' of the private methods out of them =====
/-- a private method of a class that the tables say can be made, by its rows of tables_1 -/
def lw_okq (q : MethodName × Nat) : Prop := (q.1.cls ≠ "java/lang/invoke/MethodHandle" ∧ q.1.cls ≠ "java/lang/invoke/VarHandle") ∧ Cond.instantiable q.1.cls q.2 ∈ tables_1 ∧ Cond.privateMethod q.1 ∈ tables_1 ∧ Cond.instanceMethod q.1 ∈ tables_1
set_option maxRecDepth 100000
theorem lw_p0 : lw_okq (⟨"UtfDesk", "from", "(I)I"⟩, 4) := ⟨⟨by decide +kernel, by decide +kernel⟩, List.mem_of_getElem? (i := 5) rfl, List.mem_of_getElem? (i := 39) rfl, List.mem_of_getElem? (i := 40) rfl⟩
theorem lw_p1 : lw_okq (⟨"UtfDesk", "part", "(II)[B"⟩, 4) := ⟨⟨by decide +kernel, by decide +kernel⟩, List.mem_of_getElem? (i := 5) rfl, List.mem_of_getElem? (i := 48) rfl, List.mem_of_getElem? (i := 49) rfl⟩
theorem lw_p2 : lw_okq (⟨"UtfDesk", "count", "(II)I"⟩, 4) := ⟨⟨by decide +kernel, by decide +kernel⟩, List.mem_of_getElem? (i := 5) rfl, List.mem_of_getElem? (i := 52) rfl, List.mem_of_getElem? (i := 53) rfl⟩
theorem lw_p3 : lw_okq (⟨"UtfDeskModel", "begin", "(I)I"⟩, 3) := ⟨⟨by decide +kernel, by decide +kernel⟩, List.mem_of_getElem? (i := 83) rfl, List.mem_of_getElem? (i := 108) rfl, List.mem_of_getElem? (i := 109) rfl⟩
theorem lw_p4 : lw_okq (⟨"UtfDeskModel", "letterAt", "(III)I"⟩, 3) := ⟨⟨by decide +kernel, by decide +kernel⟩, List.mem_of_getElem? (i := 83) rfl, List.mem_of_getElem? (i := 120) rfl, List.mem_of_getElem? (i := 121) rfl⟩
def lw_privs_1 : List (MethodName × Nat) := [(⟨"UtfDesk", "from", "(I)I"⟩, 4), (⟨"UtfDesk", "part", "(II)[B"⟩, 4), (⟨"UtfDesk", "count", "(II)I"⟩, 4), (⟨"UtfDeskModel", "begin", "(I)I"⟩, 3), (⟨"UtfDeskModel", "letterAt", "(III)I"⟩, 3)]
theorem lw_r1 : ∀ q ∈ lw_privs_1, lw_okq q := List.forall_mem_cons.mpr ⟨lw_p0, List.forall_mem_cons.mpr ⟨lw_p1, List.forall_mem_cons.mpr ⟨lw_p2, List.forall_mem_cons.mpr ⟨lw_p3, List.forall_mem_cons.mpr ⟨lw_p4, fun _ h => absurd h List.not_mem_nil⟩⟩⟩⟩⟩
def lw_privs : List (MethodName × Nat) := lw_privs_1
def lw_tbl : List Cond := k2_sels lw_privs ++ tables_1
theorem lw_privs_ok : ∀ q ∈ lw_privs, lw_okq q := lw_r1
-- ===== ONE list of words for every method: the tables' words that hold all through a run =====
def lw_all : List Cond := lw_tbl.filter goodWord
/-- a word of the tables by its place: claim/WORDS.tsv -/
theorem lw_w {w : Cond} (i : Nat) (h : lw_tbl[i]? = some w) (g : goodWord w = true) : w ∈ lw_all := List.mem_filter.mpr ⟨List.mem_of_getElem? h, g⟩
theorem lw_all_tbl {w : Cond} (h : w ∈ lw_all) : w ∈ lw_tbl := (List.mem_filter.mp h).1
theorem lw_self : GoodIn lw_all lw_all := fun w h => ⟨h, good_of_word (List.mem_filter.mp h).2⟩
/-- a class's field words, by their places -/
theorem lw_in (ws : List Cond) (ps : List Nat) (hp : ws = ps.filterMap (fun i => lw_tbl[i]?)) (hg : ws.all goodWord = true) : ∀ w ∈ ws, w ∈ lw_all := by
  intro w h
  have h1 := List.all_eq_true.mp hg w h
  rw [hp] at h
  obtain ⟨i, -, hi⟩ := List.mem_filterMap.mp h
  exact lw_w i hi h1
/-- the words of a contract for the method y with code b, L locals, answer r -/
abbrev ws_ (y : MethodName) (b : ByteArray) (L : Nat) (r : Option FieldType) : List Cond := Cond.code y b L r :: lw_all
theorem lw_meth {y : MethodName} {b : ByteArray} {L : Nat} {r : Option FieldType} (h : Cond.code y b L r ∈ lw_all) : GoodIn lw_all (ws_ y b L r) := by
  intro w hw
  rcases List.mem_cons.mp hw with e | e
  · rw [e]
    exact lw_self _ h
  · exact lw_self _ e
theorem lw_app {a c : List Cond} (ha : ∀ w ∈ a, w ∈ lw_all) (hc : GoodIn lw_all c) : GoodIn lw_all (a ++ c) := by
  intro w hw
  rcases List.mem_append.mp hw with e | e
  · exact lw_self w (ha w e)
  · exact hc w e
/-- what a call through an object asks: cwV n hts (lw_V ..) -/
theorem lw_V {own : String} {idx : Nat} {C : String} {y : MethodName} {b : ByteArray} {L : Nat} {r : Option FieldType} (h1 : Cond.methodLink own idx y ∈ lw_all) (h2 : Cond.instanceMethod y ∈ lw_all) (h3 : Cond.selects C y y ∈ lw_all) (h4 : Cond.initialized C ∈ lw_all) (h5 : Cond.code y b L r ∈ lw_all) : GoodIn lw_all (wsV own idx C y (ws_ y b L r)) := by
  refine lw_app ?_ (lw_meth h5)
  intro w hw
  simp only [List.mem_cons, List.not_mem_nil, or_false] at hw
  rcases hw with e | e | e | e
  · rw [e]; exact h1
  · rw [e]; exact h2
  · rw [e]; exact h3
  · rw [e]; exact h4
/-- what a static call asks: va_cwS n hts (lw_S ..) -/
theorem lw_S {own : String} {idx : Nat} {y : MethodName} {b : ByteArray} {L : Nat} {r : Option FieldType} (h1 : Cond.methodLink own idx y ∈ lw_all) (h2 : Cond.static y ∈ lw_all) (h3 : Cond.initialized y.cls ∈ lw_all) (h4 : Cond.code y b L r ∈ lw_all) : GoodIn lw_all (va_wsS own idx y (ws_ y b L r)) := by
  refine lw_app ?_ (lw_meth h4)
  intro w hw
  simp only [List.mem_cons, List.not_mem_nil, or_false] at hw
  rcases hw with e | e | e
  · rw [e]; exact h1
  · rw [e]; exact h2
  · rw [e]; exact h3
/-- the words of a contract for a method WITH HANDLERS (hh: its table) -/
abbrev wsW_ (y : MethodName) (b : ByteArray) (L : Nat) (r : Option FieldType) (hh : List (Nat × Nat × Nat × Nat)) : List Cond := Cond.codeWith y b L r hh :: lw_all
theorem lw_methW {y : MethodName} {b : ByteArray} {L : Nat} {r : Option FieldType} {hh : List (Nat × Nat × Nat × Nat)} (h : Cond.codeWith y b L r hh ∈ lw_all) : GoodIn lw_all (wsW_ y b L r hh) := by
  intro w hw
  rcases List.mem_cons.mp hw with e | e
  · rw [e]
    exact lw_self _ h
  · exact lw_self _ e
/-- any list of words by their places (lw_in), good -/
theorem lw_good {ws : List Cond} (h : ∀ w ∈ ws, w ∈ lw_all) : GoodIn lw_all ws := fun w hw => lw_self w (h w hw)
/-- what a call of a method with handlers asks: vx_cwVW n hts (lw_VW ..), vx_cwSW n hts (lw_SW ..) -/
theorem lw_VW {own : String} {idx : Nat} {C : String} {y : MethodName} {b : ByteArray} {L : Nat} {r : Option FieldType} {hh : List (Nat × Nat × Nat × Nat)} (h1 : Cond.methodLink own idx y ∈ lw_all) (h2 : Cond.instanceMethod y ∈ lw_all) (h3 : Cond.selects C y y ∈ lw_all) (h4 : Cond.initialized C ∈ lw_all) (h5 : Cond.codeWith y b L r hh ∈ lw_all) : GoodIn lw_all (wsV own idx C y (wsW_ y b L r hh)) := by
  refine lw_app ?_ (lw_methW h5)
  intro w hw
  simp only [List.mem_cons, List.not_mem_nil, or_false] at hw
  rcases hw with e | e | e | e
  · rw [e]; exact h1
  · rw [e]; exact h2
  · rw [e]; exact h3
  · rw [e]; exact h4
theorem lw_SW {own : String} {idx : Nat} {y : MethodName} {b : ByteArray} {L : Nat} {r : Option FieldType} {hh : List (Nat × Nat × Nat × Nat)} (h1 : Cond.methodLink own idx y ∈ lw_all) (h2 : Cond.static y ∈ lw_all) (h3 : Cond.initialized y.cls ∈ lw_all) (h4 : Cond.codeWith y b L r hh ∈ lw_all) : GoodIn lw_all (va_wsS own idx y (wsW_ y b L r hh)) := by
  refine lw_app ?_ (lw_methW h4)
  intro w hw
  simp only [List.mem_cons, List.not_mem_nil, or_false] at hw
  rcases hw with e | e | e
  · rw [e]; exact h1
  · rw [e]; exact h2
  · rw [e]; exact h3
/-- a word by its place in its run of the tables -/
theorem lw_at {r : List Cond} (hr : ∀ w ∈ r, w ∈ lw_tbl) {w : Cond} (i : Nat) (h : r[i]? = some w) : w ∈ lw_tbl := hr w (List.mem_of_getElem? h)
theorem lw_g {w : Cond} (h : w ∈ lw_tbl) (g : goodWord w = true) : w ∈ lw_all := List.mem_filter.mpr ⟨h, g⟩
theorem lw_ms : ∀ w ∈ k2_sels lw_privs, w ∈ lw_tbl := fun w h => show w ∈ k2_sels lw_privs ++ tables_1 from List.mem_append_left _ h
theorem lw_m0 : ∀ w ∈ tables_1, w ∈ lw_tbl := fun w h => show w ∈ k2_sels lw_privs ++ tables_1 from List.mem_append_right (k2_sels lw_privs) h
theorem qs0 : (Cond.selects "UtfDesk" ⟨"UtfDesk", "from", "(I)I"⟩ ⟨"UtfDesk", "from", "(I)I"⟩) ∈ lw_all := lw_g (lw_at lw_ms 0 rfl) rfl
theorem qs1 : (Cond.selects "UtfDesk" ⟨"UtfDesk", "part", "(II)[B"⟩ ⟨"UtfDesk", "part", "(II)[B"⟩) ∈ lw_all := lw_g (lw_at lw_ms 1 rfl) rfl
theorem qs2 : (Cond.selects "UtfDesk" ⟨"UtfDesk", "count", "(II)I"⟩ ⟨"UtfDesk", "count", "(II)I"⟩) ∈ lw_all := lw_g (lw_at lw_ms 2 rfl) rfl
theorem qs3 : (Cond.selects "UtfDeskModel" ⟨"UtfDeskModel", "begin", "(I)I"⟩ ⟨"UtfDeskModel", "begin", "(I)I"⟩) ∈ lw_all := lw_g (lw_at lw_ms 3 rfl) rfl
theorem qs4 : (Cond.selects "UtfDeskModel" ⟨"UtfDeskModel", "letterAt", "(III)I"⟩ ⟨"UtfDeskModel", "letterAt", "(III)I"⟩) ∈ lw_all := lw_g (lw_at lw_ms 4 rfl) rfl
end
section
/-! DECODE ROWS BY BYTES: one lemma an opcode; a method's code is cut into short pieces once, and a row reads its own piece alone. -/
set_option maxRecDepth 100000
/-- the code has just these bytes from pc on -/
def DkAt (code : ByteArray) (pc : Nat) (bs : List UInt8) : Prop := ∀ (j : Nat) (b : UInt8), bs[j]? = some b → code.data.toList[pc + j]? = some b
/-- the piece W has the bytes bs from its place j on -/
def dkIn (W : List UInt8) (j : Nat) (bs : List UInt8) : Bool := decide ((W.drop j).take bs.length = bs)
theorem dk_seg {l W T : List UInt8} {o o2 : Nat} (h : l.drop o = W ++ T) (n : Nat) (hn : W.length = n) (ho : o + n = o2) : l.drop o2 = T := by
  subst ho
  rw [← List.drop_drop, h, List.drop_left' hn]
theorem dk_at {code : ByteArray} {W T bs : List UInt8} {o pc : Nat} (h : code.data.toList.drop o = W ++ T) (j : Nat) (hp : o + j = pc) (hw : dkIn W j bs = true) : DkAt code pc bs := by
  subst hp
  intro i b e
  have h1 := of_decide_eq_true hw
  have h2 : i < bs.length := (List.getElem?_eq_some_iff.mp e).1
  have h3 : W[j + i]? = some b := by
    rw [← h1, List.getElem?_take, if_pos h2, List.getElem?_drop] at e
    exact e
  have h4 : j + i < W.length := (List.getElem?_eq_some_iff.mp h3).1
  have h5 : (code.data.toList.drop o)[j + i]? = some b := by
    rw [h, List.getElem?_append_left h4]
    exact h3
  rw [List.getElem?_drop, ← Nat.add_assoc] at h5
  exact h5
theorem dk_u1 {A : ByteArray} {p : Nat} {b : UInt8} (h : A.data.toList[p]? = some b) : (Reader.u1 : Reader DecodeError Nat) A p = .ok (b.toNat, p + 1) := by
  obtain ⟨h1, h2⟩ := List.getElem?_eq_some_iff.mp h
  have h3 : p < A.size := by simpa using h1
  have h4 : A[p]'h3 = b := h2
  have e : (Reader.u1 : Reader DecodeError Nat) A p = (if h : p < A.size then .ok (A[p].toNat, p + 1) else .error (HasTruncated.truncated p)) := by
    show (do if h : p < A.size then do set (p + 1); Pure.pure A[p].toNat else MonadExcept.throw (HasTruncated.truncated p) : Reader DecodeError Nat) A p = _
    by_cases hi : p < A.size
    · rw [dif_pos hi, dif_pos hi]; rfl
    · rw [dif_neg hi, dif_neg hi]; rfl
  rw [e, dif_pos h3, h4]
theorem dk_bind {α β : Type} {r : Reader DecodeError α} {f : α → Reader DecodeError β} {A : ByteArray} {p s : Nat} {a : α} (h : r A p = .ok (a, s)) : (r >>= f) A p = f a A s := by
  show (do let (a, s) ← r A p; f a A s : Except DecodeError (β × Nat)) = _
  rw [h]
  rfl
theorem dk_map {α β : Type} {r : Reader DecodeError α} {g : α → β} {A : ByteArray} {p s : Nat} {a : α} (h : r A p = .ok (a, s)) : (g <$> r) A p = .ok (g a, s) := by
  show (do let (a, s) ← r A p; .ok (g a, s) : Except DecodeError (β × Nat)) = _
  rw [h]
  rfl
theorem dk_u2 {A : ByteArray} {p : Nat} {a b : UInt8} (h : A.data.toList[p]? = some a) (h2 : A.data.toList[p + 1]? = some b) : (Reader.u2 : Reader DecodeError Nat) A p = .ok (a.toNat * 256 + b.toNat, p + 2) := by
  show (Reader.u1 >>= fun hi => Reader.u1 >>= fun lo => Pure.pure (hi * 256 + lo) : Reader DecodeError Nat) A p = _
  rw [dk_bind (dk_u1 h), dk_bind (dk_u1 h2)]
  rfl
theorem dk_of {code : ByteArray} {pc n : Nat} {i : Instr} (h : Decoder.instr pc code pc = .ok (i, pc + n)) : decode code pc = .ok (i, n) := by
  have e : decode code pc = (match Decoder.instr pc code pc with | .error x => .error x | .ok (j, s) => .ok (j, s - pc)) := by
    show (do let (j, s) ← Decoder.instr pc code pc; Pure.pure (j, s - pc) : Except DecodeError (Instr × Nat)) = _
    cases Decoder.instr pc code pc <;> rfl
  rw [e, h]
  show Except.ok (i, pc + n - pc) = _
  rw [Nat.add_sub_cancel_left]
theorem dk_2 {code : ByteArray} {pc : Nat} (h : DkAt code pc [2]) : decode code pc = .ok (.iconst (-1), 1) := dk_of ((dk_bind (dk_u1 (h 0 _ rfl))).trans rfl)
theorem dk_3 {code : ByteArray} {pc : Nat} (h : DkAt code pc [3]) : decode code pc = .ok (.iconst 0, 1) := dk_of ((dk_bind (dk_u1 (h 0 _ rfl))).trans rfl)
theorem dk_4 {code : ByteArray} {pc : Nat} (h : DkAt code pc [4]) : decode code pc = .ok (.iconst 1, 1) := dk_of ((dk_bind (dk_u1 (h 0 _ rfl))).trans rfl)
theorem dk_5 {code : ByteArray} {pc : Nat} (h : DkAt code pc [5]) : decode code pc = .ok (.iconst 2, 1) := dk_of ((dk_bind (dk_u1 (h 0 _ rfl))).trans rfl)
theorem dk_6 {code : ByteArray} {pc : Nat} (h : DkAt code pc [6]) : decode code pc = .ok (.iconst 3, 1) := dk_of ((dk_bind (dk_u1 (h 0 _ rfl))).trans rfl)
theorem dk_7 {code : ByteArray} {pc : Nat} (h : DkAt code pc [7]) : decode code pc = .ok (.iconst 4, 1) := dk_of ((dk_bind (dk_u1 (h 0 _ rfl))).trans rfl)
theorem dk_16 {code : ByteArray} {pc : Nat} (a : UInt8) (h : DkAt code pc [16, a]) : decode code pc = .ok (.bipush (Reader.signed 8 a.toNat), 2) := dk_of ((dk_bind (dk_u1 (h 0 _ rfl))).trans ((dk_bind (dk_map (dk_u1 (h 1 _ rfl)))).trans rfl))
theorem dk_17 {code : ByteArray} {pc : Nat} (a b : UInt8) (h : DkAt code pc [17, a, b]) : decode code pc = .ok (.sipush (Reader.signed 16 (a.toNat * 256 + b.toNat)), 3) := dk_of ((dk_bind (dk_u1 (h 0 _ rfl))).trans ((dk_bind (dk_map (dk_u2 (h 1 _ rfl) (h 2 _ rfl)))).trans rfl))
theorem dk_18 {code : ByteArray} {pc : Nat} (a : UInt8) (h : DkAt code pc [18, a]) : decode code pc = .ok (.ldc a.toNat, 2) := dk_of ((dk_bind (dk_u1 (h 0 _ rfl))).trans ((dk_bind (dk_u1 (h 1 _ rfl))).trans rfl))
theorem dk_21 {code : ByteArray} {pc : Nat} (a : UInt8) (h : DkAt code pc [21, a]) : decode code pc = .ok (.iload a.toNat, 2) := dk_of ((dk_bind (dk_u1 (h 0 _ rfl))).trans ((dk_bind (dk_u1 (h 1 _ rfl))).trans rfl))
theorem dk_25 {code : ByteArray} {pc : Nat} (a : UInt8) (h : DkAt code pc [25, a]) : decode code pc = .ok (.aload a.toNat, 2) := dk_of ((dk_bind (dk_u1 (h 0 _ rfl))).trans ((dk_bind (dk_u1 (h 1 _ rfl))).trans rfl))
theorem dk_26 {code : ByteArray} {pc : Nat} (h : DkAt code pc [26]) : decode code pc = .ok (.iload_n 0, 1) := dk_of ((dk_bind (dk_u1 (h 0 _ rfl))).trans rfl)
theorem dk_27 {code : ByteArray} {pc : Nat} (h : DkAt code pc [27]) : decode code pc = .ok (.iload_n 1, 1) := dk_of ((dk_bind (dk_u1 (h 0 _ rfl))).trans rfl)
theorem dk_28 {code : ByteArray} {pc : Nat} (h : DkAt code pc [28]) : decode code pc = .ok (.iload_n 2, 1) := dk_of ((dk_bind (dk_u1 (h 0 _ rfl))).trans rfl)
theorem dk_29 {code : ByteArray} {pc : Nat} (h : DkAt code pc [29]) : decode code pc = .ok (.iload_n 3, 1) := dk_of ((dk_bind (dk_u1 (h 0 _ rfl))).trans rfl)
theorem dk_42 {code : ByteArray} {pc : Nat} (h : DkAt code pc [42]) : decode code pc = .ok (.aload_n 0, 1) := dk_of ((dk_bind (dk_u1 (h 0 _ rfl))).trans rfl)
theorem dk_43 {code : ByteArray} {pc : Nat} (h : DkAt code pc [43]) : decode code pc = .ok (.aload_n 1, 1) := dk_of ((dk_bind (dk_u1 (h 0 _ rfl))).trans rfl)
theorem dk_44 {code : ByteArray} {pc : Nat} (h : DkAt code pc [44]) : decode code pc = .ok (.aload_n 2, 1) := dk_of ((dk_bind (dk_u1 (h 0 _ rfl))).trans rfl)
theorem dk_45 {code : ByteArray} {pc : Nat} (h : DkAt code pc [45]) : decode code pc = .ok (.aload_n 3, 1) := dk_of ((dk_bind (dk_u1 (h 0 _ rfl))).trans rfl)
theorem dk_46 {code : ByteArray} {pc : Nat} (h : DkAt code pc [46]) : decode code pc = .ok (.iaload, 1) := dk_of ((dk_bind (dk_u1 (h 0 _ rfl))).trans rfl)
theorem dk_51 {code : ByteArray} {pc : Nat} (h : DkAt code pc [51]) : decode code pc = .ok (.baload, 1) := dk_of ((dk_bind (dk_u1 (h 0 _ rfl))).trans rfl)
theorem dk_52 {code : ByteArray} {pc : Nat} (h : DkAt code pc [52]) : decode code pc = .ok (.caload, 1) := dk_of ((dk_bind (dk_u1 (h 0 _ rfl))).trans rfl)
theorem dk_53 {code : ByteArray} {pc : Nat} (h : DkAt code pc [53]) : decode code pc = .ok (.saload, 1) := dk_of ((dk_bind (dk_u1 (h 0 _ rfl))).trans rfl)
theorem dk_54 {code : ByteArray} {pc : Nat} (a : UInt8) (h : DkAt code pc [54, a]) : decode code pc = .ok (.istore a.toNat, 2) := dk_of ((dk_bind (dk_u1 (h 0 _ rfl))).trans ((dk_bind (dk_u1 (h 1 _ rfl))).trans rfl))
theorem dk_58 {code : ByteArray} {pc : Nat} (a : UInt8) (h : DkAt code pc [58, a]) : decode code pc = .ok (.astore a.toNat, 2) := dk_of ((dk_bind (dk_u1 (h 0 _ rfl))).trans ((dk_bind (dk_u1 (h 1 _ rfl))).trans rfl))
theorem dk_61 {code : ByteArray} {pc : Nat} (h : DkAt code pc [61]) : decode code pc = .ok (.istore_n 2, 1) := dk_of ((dk_bind (dk_u1 (h 0 _ rfl))).trans rfl)
theorem dk_62 {code : ByteArray} {pc : Nat} (h : DkAt code pc [62]) : decode code pc = .ok (.istore_n 3, 1) := dk_of ((dk_bind (dk_u1 (h 0 _ rfl))).trans rfl)
theorem dk_76 {code : ByteArray} {pc : Nat} (h : DkAt code pc [76]) : decode code pc = .ok (.astore_n 1, 1) := dk_of ((dk_bind (dk_u1 (h 0 _ rfl))).trans rfl)
theorem dk_77 {code : ByteArray} {pc : Nat} (h : DkAt code pc [77]) : decode code pc = .ok (.astore_n 2, 1) := dk_of ((dk_bind (dk_u1 (h 0 _ rfl))).trans rfl)
theorem dk_79 {code : ByteArray} {pc : Nat} (h : DkAt code pc [79]) : decode code pc = .ok (.iastore, 1) := dk_of ((dk_bind (dk_u1 (h 0 _ rfl))).trans rfl)
theorem dk_84 {code : ByteArray} {pc : Nat} (h : DkAt code pc [84]) : decode code pc = .ok (.bastore, 1) := dk_of ((dk_bind (dk_u1 (h 0 _ rfl))).trans rfl)
theorem dk_85 {code : ByteArray} {pc : Nat} (h : DkAt code pc [85]) : decode code pc = .ok (.castore, 1) := dk_of ((dk_bind (dk_u1 (h 0 _ rfl))).trans rfl)
theorem dk_89 {code : ByteArray} {pc : Nat} (h : DkAt code pc [89]) : decode code pc = .ok (.dup, 1) := dk_of ((dk_bind (dk_u1 (h 0 _ rfl))).trans rfl)
theorem dk_96 {code : ByteArray} {pc : Nat} (h : DkAt code pc [96]) : decode code pc = .ok (.iadd, 1) := dk_of ((dk_bind (dk_u1 (h 0 _ rfl))).trans rfl)
theorem dk_100 {code : ByteArray} {pc : Nat} (h : DkAt code pc [100]) : decode code pc = .ok (.isub, 1) := dk_of ((dk_bind (dk_u1 (h 0 _ rfl))).trans rfl)
theorem dk_104 {code : ByteArray} {pc : Nat} (h : DkAt code pc [104]) : decode code pc = .ok (.imul, 1) := dk_of ((dk_bind (dk_u1 (h 0 _ rfl))).trans rfl)
theorem dk_108 {code : ByteArray} {pc : Nat} (h : DkAt code pc [108]) : decode code pc = .ok (.idiv, 1) := dk_of ((dk_bind (dk_u1 (h 0 _ rfl))).trans rfl)
theorem dk_112 {code : ByteArray} {pc : Nat} (h : DkAt code pc [112]) : decode code pc = .ok (.irem, 1) := dk_of ((dk_bind (dk_u1 (h 0 _ rfl))).trans rfl)
theorem dk_120 {code : ByteArray} {pc : Nat} (h : DkAt code pc [120]) : decode code pc = .ok (.ishl, 1) := dk_of ((dk_bind (dk_u1 (h 0 _ rfl))).trans rfl)
theorem dk_122 {code : ByteArray} {pc : Nat} (h : DkAt code pc [122]) : decode code pc = .ok (.ishr, 1) := dk_of ((dk_bind (dk_u1 (h 0 _ rfl))).trans rfl)
theorem dk_124 {code : ByteArray} {pc : Nat} (h : DkAt code pc [124]) : decode code pc = .ok (.iushr, 1) := dk_of ((dk_bind (dk_u1 (h 0 _ rfl))).trans rfl)
theorem dk_126 {code : ByteArray} {pc : Nat} (h : DkAt code pc [126]) : decode code pc = .ok (.iand, 1) := dk_of ((dk_bind (dk_u1 (h 0 _ rfl))).trans rfl)
theorem dk_128 {code : ByteArray} {pc : Nat} (h : DkAt code pc [128]) : decode code pc = .ok (.ior, 1) := dk_of ((dk_bind (dk_u1 (h 0 _ rfl))).trans rfl)
theorem dk_132 {code : ByteArray} {pc : Nat} (a b : UInt8) (h : DkAt code pc [132, a, b]) : decode code pc = .ok (.iinc a.toNat (Reader.signed 8 b.toNat), 3) := dk_of ((dk_bind (dk_u1 (h 0 _ rfl))).trans ((dk_bind (dk_u1 (h 1 _ rfl))).trans ((dk_bind (dk_map (dk_u1 (h 2 _ rfl)))).trans rfl)))
theorem dk_145 {code : ByteArray} {pc : Nat} (h : DkAt code pc [145]) : decode code pc = .ok (.i2b, 1) := dk_of ((dk_bind (dk_u1 (h 0 _ rfl))).trans rfl)
theorem dk_146 {code : ByteArray} {pc : Nat} (h : DkAt code pc [146]) : decode code pc = .ok (.i2c, 1) := dk_of ((dk_bind (dk_u1 (h 0 _ rfl))).trans rfl)
theorem dk_153 {code : ByteArray} {pc : Nat} (a b : UInt8) (h : DkAt code pc [153, a, b]) : decode code pc = .ok (.ifCond .eq (Reader.signed 16 (a.toNat * 256 + b.toNat)), 3) := dk_of ((dk_bind (dk_u1 (h 0 _ rfl))).trans ((dk_bind (dk_map (dk_u2 (h 1 _ rfl) (h 2 _ rfl)))).trans rfl))
theorem dk_154 {code : ByteArray} {pc : Nat} (a b : UInt8) (h : DkAt code pc [154, a, b]) : decode code pc = .ok (.ifCond .ne (Reader.signed 16 (a.toNat * 256 + b.toNat)), 3) := dk_of ((dk_bind (dk_u1 (h 0 _ rfl))).trans ((dk_bind (dk_map (dk_u2 (h 1 _ rfl) (h 2 _ rfl)))).trans rfl))
theorem dk_155 {code : ByteArray} {pc : Nat} (a b : UInt8) (h : DkAt code pc [155, a, b]) : decode code pc = .ok (.ifCond .lt (Reader.signed 16 (a.toNat * 256 + b.toNat)), 3) := dk_of ((dk_bind (dk_u1 (h 0 _ rfl))).trans ((dk_bind (dk_map (dk_u2 (h 1 _ rfl) (h 2 _ rfl)))).trans rfl))
theorem dk_157 {code : ByteArray} {pc : Nat} (a b : UInt8) (h : DkAt code pc [157, a, b]) : decode code pc = .ok (.ifCond .gt (Reader.signed 16 (a.toNat * 256 + b.toNat)), 3) := dk_of ((dk_bind (dk_u1 (h 0 _ rfl))).trans ((dk_bind (dk_map (dk_u2 (h 1 _ rfl) (h 2 _ rfl)))).trans rfl))
theorem dk_158 {code : ByteArray} {pc : Nat} (a b : UInt8) (h : DkAt code pc [158, a, b]) : decode code pc = .ok (.ifCond .le (Reader.signed 16 (a.toNat * 256 + b.toNat)), 3) := dk_of ((dk_bind (dk_u1 (h 0 _ rfl))).trans ((dk_bind (dk_map (dk_u2 (h 1 _ rfl) (h 2 _ rfl)))).trans rfl))
theorem dk_159 {code : ByteArray} {pc : Nat} (a b : UInt8) (h : DkAt code pc [159, a, b]) : decode code pc = .ok (.if_icmp .eq (Reader.signed 16 (a.toNat * 256 + b.toNat)), 3) := dk_of ((dk_bind (dk_u1 (h 0 _ rfl))).trans ((dk_bind (dk_map (dk_u2 (h 1 _ rfl) (h 2 _ rfl)))).trans rfl))
theorem dk_160 {code : ByteArray} {pc : Nat} (a b : UInt8) (h : DkAt code pc [160, a, b]) : decode code pc = .ok (.if_icmp .ne (Reader.signed 16 (a.toNat * 256 + b.toNat)), 3) := dk_of ((dk_bind (dk_u1 (h 0 _ rfl))).trans ((dk_bind (dk_map (dk_u2 (h 1 _ rfl) (h 2 _ rfl)))).trans rfl))
theorem dk_161 {code : ByteArray} {pc : Nat} (a b : UInt8) (h : DkAt code pc [161, a, b]) : decode code pc = .ok (.if_icmp .lt (Reader.signed 16 (a.toNat * 256 + b.toNat)), 3) := dk_of ((dk_bind (dk_u1 (h 0 _ rfl))).trans ((dk_bind (dk_map (dk_u2 (h 1 _ rfl) (h 2 _ rfl)))).trans rfl))
theorem dk_162 {code : ByteArray} {pc : Nat} (a b : UInt8) (h : DkAt code pc [162, a, b]) : decode code pc = .ok (.if_icmp .ge (Reader.signed 16 (a.toNat * 256 + b.toNat)), 3) := dk_of ((dk_bind (dk_u1 (h 0 _ rfl))).trans ((dk_bind (dk_map (dk_u2 (h 1 _ rfl) (h 2 _ rfl)))).trans rfl))
theorem dk_163 {code : ByteArray} {pc : Nat} (a b : UInt8) (h : DkAt code pc [163, a, b]) : decode code pc = .ok (.if_icmp .gt (Reader.signed 16 (a.toNat * 256 + b.toNat)), 3) := dk_of ((dk_bind (dk_u1 (h 0 _ rfl))).trans ((dk_bind (dk_map (dk_u2 (h 1 _ rfl) (h 2 _ rfl)))).trans rfl))
theorem dk_164 {code : ByteArray} {pc : Nat} (a b : UInt8) (h : DkAt code pc [164, a, b]) : decode code pc = .ok (.if_icmp .le (Reader.signed 16 (a.toNat * 256 + b.toNat)), 3) := dk_of ((dk_bind (dk_u1 (h 0 _ rfl))).trans ((dk_bind (dk_map (dk_u2 (h 1 _ rfl) (h 2 _ rfl)))).trans rfl))
theorem dk_167 {code : ByteArray} {pc : Nat} (a b : UInt8) (h : DkAt code pc [167, a, b]) : decode code pc = .ok (.goto (Reader.signed 16 (a.toNat * 256 + b.toNat)), 3) := dk_of ((dk_bind (dk_u1 (h 0 _ rfl))).trans ((dk_bind (dk_map (dk_u2 (h 1 _ rfl) (h 2 _ rfl)))).trans rfl))
theorem dk_172 {code : ByteArray} {pc : Nat} (h : DkAt code pc [172]) : decode code pc = .ok (.ireturn, 1) := dk_of ((dk_bind (dk_u1 (h 0 _ rfl))).trans rfl)
theorem dk_176 {code : ByteArray} {pc : Nat} (h : DkAt code pc [176]) : decode code pc = .ok (.areturn, 1) := dk_of ((dk_bind (dk_u1 (h 0 _ rfl))).trans rfl)
theorem dk_177 {code : ByteArray} {pc : Nat} (h : DkAt code pc [177]) : decode code pc = .ok (.return_, 1) := dk_of ((dk_bind (dk_u1 (h 0 _ rfl))).trans rfl)
theorem dk_178 {code : ByteArray} {pc : Nat} (a b : UInt8) (h : DkAt code pc [178, a, b]) : decode code pc = .ok (.getstatic (a.toNat * 256 + b.toNat), 3) := dk_of ((dk_bind (dk_u1 (h 0 _ rfl))).trans ((dk_bind (dk_u2 (h 1 _ rfl) (h 2 _ rfl))).trans rfl))
theorem dk_180 {code : ByteArray} {pc : Nat} (a b : UInt8) (h : DkAt code pc [180, a, b]) : decode code pc = .ok (.getfield (a.toNat * 256 + b.toNat), 3) := dk_of ((dk_bind (dk_u1 (h 0 _ rfl))).trans ((dk_bind (dk_u2 (h 1 _ rfl) (h 2 _ rfl))).trans rfl))
theorem dk_181 {code : ByteArray} {pc : Nat} (a b : UInt8) (h : DkAt code pc [181, a, b]) : decode code pc = .ok (.putfield (a.toNat * 256 + b.toNat), 3) := dk_of ((dk_bind (dk_u1 (h 0 _ rfl))).trans ((dk_bind (dk_u2 (h 1 _ rfl) (h 2 _ rfl))).trans rfl))
theorem dk_182 {code : ByteArray} {pc : Nat} (a b : UInt8) (h : DkAt code pc [182, a, b]) : decode code pc = .ok (.invokevirtual (a.toNat * 256 + b.toNat), 3) := dk_of ((dk_bind (dk_u1 (h 0 _ rfl))).trans ((dk_bind (dk_u2 (h 1 _ rfl) (h 2 _ rfl))).trans rfl))
theorem dk_183 {code : ByteArray} {pc : Nat} (a b : UInt8) (h : DkAt code pc [183, a, b]) : decode code pc = .ok (.invokespecial (a.toNat * 256 + b.toNat), 3) := dk_of ((dk_bind (dk_u1 (h 0 _ rfl))).trans ((dk_bind (dk_u2 (h 1 _ rfl) (h 2 _ rfl))).trans rfl))
theorem dk_184 {code : ByteArray} {pc : Nat} (a b : UInt8) (h : DkAt code pc [184, a, b]) : decode code pc = .ok (.invokestatic (a.toNat * 256 + b.toNat), 3) := dk_of ((dk_bind (dk_u1 (h 0 _ rfl))).trans ((dk_bind (dk_u2 (h 1 _ rfl) (h 2 _ rfl))).trans rfl))
theorem dk_187 {code : ByteArray} {pc : Nat} (a b : UInt8) (h : DkAt code pc [187, a, b]) : decode code pc = .ok (.new (a.toNat * 256 + b.toNat), 3) := dk_of ((dk_bind (dk_u1 (h 0 _ rfl))).trans ((dk_bind (dk_u2 (h 1 _ rfl) (h 2 _ rfl))).trans rfl))
theorem dk_188_5 {code : ByteArray} {pc : Nat} (h : DkAt code pc [188, 5]) : decode code pc = .ok (.newarray .char, 2) := dk_of ((dk_bind (dk_u1 (h 0 _ rfl))).trans ((dk_bind (dk_u1 (h 1 _ rfl))).trans rfl))
theorem dk_188_8 {code : ByteArray} {pc : Nat} (h : DkAt code pc [188, 8]) : decode code pc = .ok (.newarray .byte, 2) := dk_of ((dk_bind (dk_u1 (h 0 _ rfl))).trans ((dk_bind (dk_u1 (h 1 _ rfl))).trans rfl))
theorem dk_188_10 {code : ByteArray} {pc : Nat} (h : DkAt code pc [188, 10]) : decode code pc = .ok (.newarray .int, 2) := dk_of ((dk_bind (dk_u1 (h 0 _ rfl))).trans ((dk_bind (dk_u1 (h 1 _ rfl))).trans rfl))
theorem dk_190 {code : ByteArray} {pc : Nat} (h : DkAt code pc [190]) : decode code pc = .ok (.arraylength, 1) := dk_of ((dk_bind (dk_u1 (h 0 _ rfl))).trans rfl)
/-! java/lang/Object -/
set_option maxRecDepth 100000
def RJ0 : String := "java/lang/Object"
abbrev cJ0_init : ByteArray := object_method_1_code
def yJ0_init : MethodName := ⟨RJ0, "<init>", "()V"⟩
theorem dJ0_init_0 : decode cJ0_init 0 = .ok (.return_, 1) := by decide +kernel
theorem q15 : (Jvm.Cond.instanceMethod ({ cls := "java/lang/Object", name := "<init>", desc := "()V" } : Jvm.MethodName)) ∈ lw_all := lw_g (lw_at lw_m0 10 rfl) rfl
theorem q16 : (Jvm.Cond.code ({ cls := "java/lang/Object", name := "<init>", desc := "()V" } : Jvm.MethodName) object_method_1_code (1 : Nat) (Option.none : Option Jvm.ClassFile.FieldType)) ∈ lw_all := lw_g (lw_at lw_m0 11 rfl) rfl
theorem q30 : (Jvm.Cond.arrayClass Jvm.ClassFile.FieldType.byte) ∈ lw_all := lw_g (lw_at lw_m0 25 rfl) rfl
set_option maxRecDepth 100000
theorem q31 : (Jvm.Cond.arrayClass Jvm.ClassFile.FieldType.char) ∈ lw_all := lw_g (lw_at lw_m0 26 rfl) rfl
theorem q103 : (Jvm.Cond.arrayClass Jvm.ClassFile.FieldType.int) ∈ lw_all := lw_g (lw_at lw_m0 98 rfl) rfl
theorem q148 : (Jvm.Cond.arrayClass Jvm.ClassFile.FieldType.short) ∈ lw_all := lw_g (lw_at lw_m0 143 rfl) rfl
/-! UtfDesk -/
set_option maxRecDepth 100000
def RX0 : String := "UtfDesk"
def TX0 : u_T := fun k => match k with
  | 0 => ("UtfDesk", "text", "[B", true)
  | 1 => ("UtfDesk", "size", "I", false)
  | 2 => ("UtfDesk", "units", "[C", true)
  | _ => ("UtfDesk", "made", "I", false)
def tyX0 : Nat → FieldType := fun k => match k with
  | 0 => .array .byte
  | 1 => .int
  | 2 => .array .char
  | _ => .int
abbrev wsX00 : List Cond := u_ws RX0 TX0 4
theorem nmX0 : ∀ a, a < 4 → ∀ b, b < 4 → a ≠ b → (TX0 a).2.1 ≠ (TX0 b).2.1 := by decide +kernel
theorem tyX0_ok : ∀ k, k < 4 → parseFieldDescriptor (TX0 k).2.2.1 = some (tyX0 k) := by decide +kernel
abbrev cX0_init : ByteArray := prog_2_method_1_code
def yX0_init : MethodName := ⟨RX0, "<init>", "()V"⟩
def dkwX0_init_1 : List UInt8 := [181, 0, 17, 177]
abbrev dktX0_init_1 : List UInt8 := dkwX0_init_1 ++ []
def dkwX0_init_0 : List UInt8 := [42, 183, 0, 1, 42, 17, 0, 128, 188, 8, 181, 0, 7, 42, 17, 0, 160, 188, 5, 181, 0, 13, 42, 2]
abbrev dktX0_init_0 : List UInt8 := dkwX0_init_0 ++ dktX0_init_1
theorem dksX0_init_0 : cX0_init.data.toList.drop 0 = dktX0_init_0 := by decide +kernel
theorem dksX0_init_1 : cX0_init.data.toList.drop 24 = dktX0_init_1 := dk_seg dksX0_init_0 24 rfl rfl
theorem dX0_init_0 : decode cX0_init 0 = .ok (.aload_n 0, 1) := dk_42 (dk_at dksX0_init_0 0 rfl rfl)
theorem dX0_init_1 : decode cX0_init 1 = .ok (.invokespecial 1, 3) := dk_183 0 1 (dk_at dksX0_init_0 1 rfl rfl)
theorem dX0_init_4 : decode cX0_init 4 = .ok (.aload_n 0, 1) := dk_42 (dk_at dksX0_init_0 4 rfl rfl)
theorem dX0_init_5 : decode cX0_init 5 = .ok (.sipush 128, 3) := dk_17 0 128 (dk_at dksX0_init_0 5 rfl rfl)
theorem dX0_init_8 : decode cX0_init 8 = .ok (.newarray .byte, 2) := dk_188_8 (dk_at dksX0_init_0 8 rfl rfl)
theorem dX0_init_10 : decode cX0_init 10 = .ok (.putfield 7, 3) := dk_181 0 7 (dk_at dksX0_init_0 10 rfl rfl)
theorem dX0_init_13 : decode cX0_init 13 = .ok (.aload_n 0, 1) := dk_42 (dk_at dksX0_init_0 13 rfl rfl)
theorem dX0_init_14 : decode cX0_init 14 = .ok (.sipush 160, 3) := dk_17 0 160 (dk_at dksX0_init_0 14 rfl rfl)
theorem dX0_init_17 : decode cX0_init 17 = .ok (.newarray .char, 2) := dk_188_5 (dk_at dksX0_init_0 17 rfl rfl)
theorem dX0_init_19 : decode cX0_init 19 = .ok (.putfield 13, 3) := dk_181 0 13 (dk_at dksX0_init_0 19 rfl rfl)
theorem dX0_init_22 : decode cX0_init 22 = .ok (.aload_n 0, 1) := dk_42 (dk_at dksX0_init_0 22 rfl rfl)
theorem dX0_init_23 : decode cX0_init 23 = .ok (.iconst (-1), 1) := dk_2 (dk_at dksX0_init_0 23 rfl rfl)
theorem dX0_init_24 : decode cX0_init 24 = .ok (.putfield 17, 3) := dk_181 0 17 (dk_at dksX0_init_1 0 rfl rfl)
theorem dX0_init_27 : decode cX0_init 27 = .ok (.return_, 1) := dk_177 (dk_at dksX0_init_1 3 rfl rfl)
abbrev cX0_put : ByteArray := prog_2_method_2_code
def yX0_put : MethodName := ⟨RX0, "put", "(IIII)Z"⟩
def dkwX0_put_3 : List UInt8 := [96, 21, 4, 184, 0, 24, 42, 89, 180, 0, 21, 16, 16, 96, 181, 0, 21, 4, 172]
abbrev dktX0_put_3 : List UInt8 := dkwX0_put_3 ++ []
def dkwX0_put_2 : List UInt8 := [180, 0, 7, 42, 180, 0, 21, 16, 8, 96, 29, 184, 0, 24, 42, 180, 0, 7, 42, 180, 0, 21, 16, 12]
abbrev dktX0_put_2 : List UInt8 := dkwX0_put_2 ++ dktX0_put_3
def dkwX0_put_1 : List UInt8 := [180, 0, 21, 27, 184, 0, 24, 42, 180, 0, 7, 42, 180, 0, 21, 7, 96, 28, 184, 0, 24, 42]
abbrev dktX0_put_1 : List UInt8 := dkwX0_put_1 ++ dktX0_put_2
def dkwX0_put_0 : List UInt8 := [42, 180, 0, 21, 42, 180, 0, 7, 190, 16, 16, 100, 164, 0, 5, 3, 172, 42, 180, 0, 7, 42]
abbrev dktX0_put_0 : List UInt8 := dkwX0_put_0 ++ dktX0_put_1
theorem dksX0_put_0 : cX0_put.data.toList.drop 0 = dktX0_put_0 := by decide +kernel
theorem dksX0_put_1 : cX0_put.data.toList.drop 22 = dktX0_put_1 := dk_seg dksX0_put_0 22 rfl rfl
theorem dksX0_put_2 : cX0_put.data.toList.drop 44 = dktX0_put_2 := dk_seg dksX0_put_1 22 rfl rfl
theorem dksX0_put_3 : cX0_put.data.toList.drop 68 = dktX0_put_3 := dk_seg dksX0_put_2 24 rfl rfl
theorem dX0_put_0 : decode cX0_put 0 = .ok (.aload_n 0, 1) := dk_42 (dk_at dksX0_put_0 0 rfl rfl)
theorem dX0_put_1 : decode cX0_put 1 = .ok (.getfield 21, 3) := dk_180 0 21 (dk_at dksX0_put_0 1 rfl rfl)
theorem dX0_put_4 : decode cX0_put 4 = .ok (.aload_n 0, 1) := dk_42 (dk_at dksX0_put_0 4 rfl rfl)
theorem dX0_put_5 : decode cX0_put 5 = .ok (.getfield 7, 3) := dk_180 0 7 (dk_at dksX0_put_0 5 rfl rfl)
theorem dX0_put_8 : decode cX0_put 8 = .ok (.arraylength, 1) := dk_190 (dk_at dksX0_put_0 8 rfl rfl)
theorem dX0_put_9 : decode cX0_put 9 = .ok (.bipush 16, 2) := dk_16 16 (dk_at dksX0_put_0 9 rfl rfl)
theorem dX0_put_11 : decode cX0_put 11 = .ok (.isub, 1) := dk_100 (dk_at dksX0_put_0 11 rfl rfl)
theorem dX0_put_12 : decode cX0_put 12 = .ok (.if_icmp .le 5, 3) := dk_164 0 5 (dk_at dksX0_put_0 12 rfl rfl)
theorem dX0_put_15 : decode cX0_put 15 = .ok (.iconst 0, 1) := dk_3 (dk_at dksX0_put_0 15 rfl rfl)
theorem dX0_put_16 : decode cX0_put 16 = .ok (.ireturn, 1) := dk_172 (dk_at dksX0_put_0 16 rfl rfl)
theorem dX0_put_17 : decode cX0_put 17 = .ok (.aload_n 0, 1) := dk_42 (dk_at dksX0_put_0 17 rfl rfl)
theorem dX0_put_18 : decode cX0_put 18 = .ok (.getfield 7, 3) := dk_180 0 7 (dk_at dksX0_put_0 18 rfl rfl)
theorem dX0_put_21 : decode cX0_put 21 = .ok (.aload_n 0, 1) := dk_42 (dk_at dksX0_put_0 21 rfl rfl)
theorem dX0_put_22 : decode cX0_put 22 = .ok (.getfield 21, 3) := dk_180 0 21 (dk_at dksX0_put_1 0 rfl rfl)
theorem dX0_put_25 : decode cX0_put 25 = .ok (.iload_n 1, 1) := dk_27 (dk_at dksX0_put_1 3 rfl rfl)
theorem dX0_put_26 : decode cX0_put 26 = .ok (.invokestatic 24, 3) := dk_184 0 24 (dk_at dksX0_put_1 4 rfl rfl)
theorem dX0_put_29 : decode cX0_put 29 = .ok (.aload_n 0, 1) := dk_42 (dk_at dksX0_put_1 7 rfl rfl)
theorem dX0_put_30 : decode cX0_put 30 = .ok (.getfield 7, 3) := dk_180 0 7 (dk_at dksX0_put_1 8 rfl rfl)
theorem dX0_put_33 : decode cX0_put 33 = .ok (.aload_n 0, 1) := dk_42 (dk_at dksX0_put_1 11 rfl rfl)
theorem dX0_put_34 : decode cX0_put 34 = .ok (.getfield 21, 3) := dk_180 0 21 (dk_at dksX0_put_1 12 rfl rfl)
theorem dX0_put_37 : decode cX0_put 37 = .ok (.iconst 4, 1) := dk_7 (dk_at dksX0_put_1 15 rfl rfl)
theorem dX0_put_38 : decode cX0_put 38 = .ok (.iadd, 1) := dk_96 (dk_at dksX0_put_1 16 rfl rfl)
theorem dX0_put_39 : decode cX0_put 39 = .ok (.iload_n 2, 1) := dk_28 (dk_at dksX0_put_1 17 rfl rfl)
theorem dX0_put_40 : decode cX0_put 40 = .ok (.invokestatic 24, 3) := dk_184 0 24 (dk_at dksX0_put_1 18 rfl rfl)
theorem dX0_put_43 : decode cX0_put 43 = .ok (.aload_n 0, 1) := dk_42 (dk_at dksX0_put_1 21 rfl rfl)
theorem dX0_put_44 : decode cX0_put 44 = .ok (.getfield 7, 3) := dk_180 0 7 (dk_at dksX0_put_2 0 rfl rfl)
theorem dX0_put_47 : decode cX0_put 47 = .ok (.aload_n 0, 1) := dk_42 (dk_at dksX0_put_2 3 rfl rfl)
theorem dX0_put_48 : decode cX0_put 48 = .ok (.getfield 21, 3) := dk_180 0 21 (dk_at dksX0_put_2 4 rfl rfl)
theorem dX0_put_51 : decode cX0_put 51 = .ok (.bipush 8, 2) := dk_16 8 (dk_at dksX0_put_2 7 rfl rfl)
theorem dX0_put_53 : decode cX0_put 53 = .ok (.iadd, 1) := dk_96 (dk_at dksX0_put_2 9 rfl rfl)
theorem dX0_put_54 : decode cX0_put 54 = .ok (.iload_n 3, 1) := dk_29 (dk_at dksX0_put_2 10 rfl rfl)
theorem dX0_put_55 : decode cX0_put 55 = .ok (.invokestatic 24, 3) := dk_184 0 24 (dk_at dksX0_put_2 11 rfl rfl)
theorem dX0_put_58 : decode cX0_put 58 = .ok (.aload_n 0, 1) := dk_42 (dk_at dksX0_put_2 14 rfl rfl)
theorem dX0_put_59 : decode cX0_put 59 = .ok (.getfield 7, 3) := dk_180 0 7 (dk_at dksX0_put_2 15 rfl rfl)
theorem dX0_put_62 : decode cX0_put 62 = .ok (.aload_n 0, 1) := dk_42 (dk_at dksX0_put_2 18 rfl rfl)
theorem dX0_put_63 : decode cX0_put 63 = .ok (.getfield 21, 3) := dk_180 0 21 (dk_at dksX0_put_2 19 rfl rfl)
theorem dX0_put_66 : decode cX0_put 66 = .ok (.bipush 12, 2) := dk_16 12 (dk_at dksX0_put_2 22 rfl rfl)
theorem dX0_put_68 : decode cX0_put 68 = .ok (.iadd, 1) := dk_96 (dk_at dksX0_put_3 0 rfl rfl)
theorem dX0_put_69 : decode cX0_put 69 = .ok (.iload 4, 2) := dk_21 4 (dk_at dksX0_put_3 1 rfl rfl)
theorem dX0_put_71 : decode cX0_put 71 = .ok (.invokestatic 24, 3) := dk_184 0 24 (dk_at dksX0_put_3 3 rfl rfl)
theorem dX0_put_74 : decode cX0_put 74 = .ok (.aload_n 0, 1) := dk_42 (dk_at dksX0_put_3 6 rfl rfl)
theorem dX0_put_75 : decode cX0_put 75 = .ok (.dup, 1) := dk_89 (dk_at dksX0_put_3 7 rfl rfl)
theorem dX0_put_76 : decode cX0_put 76 = .ok (.getfield 21, 3) := dk_180 0 21 (dk_at dksX0_put_3 8 rfl rfl)
theorem dX0_put_79 : decode cX0_put 79 = .ok (.bipush 16, 2) := dk_16 16 (dk_at dksX0_put_3 11 rfl rfl)
theorem dX0_put_81 : decode cX0_put 81 = .ok (.iadd, 1) := dk_96 (dk_at dksX0_put_3 13 rfl rfl)
theorem dX0_put_82 : decode cX0_put 82 = .ok (.putfield 21, 3) := dk_181 0 21 (dk_at dksX0_put_3 14 rfl rfl)
theorem dX0_put_85 : decode cX0_put 85 = .ok (.iconst 1, 1) := dk_4 (dk_at dksX0_put_3 17 rfl rfl)
theorem dX0_put_86 : decode cX0_put 86 = .ok (.ireturn, 1) := dk_172 (dk_at dksX0_put_3 18 rfl rfl)
abbrev cX0_word : ByteArray := prog_2_method_3_code
def yX0_word : MethodName := ⟨RX0, "word", "([BII)V"⟩
def dkwX0_word_1 : List UInt8 := [16, 8, 122, 145, 84, 42, 27, 6, 96, 28, 145, 84, 177]
abbrev dktX0_word_1 : List UInt8 := dkwX0_word_1 ++ []
def dkwX0_word_0 : List UInt8 := [42, 27, 28, 16, 24, 122, 145, 84, 42, 27, 4, 96, 28, 16, 16, 122, 145, 84, 42, 27, 5, 96, 28]
abbrev dktX0_word_0 : List UInt8 := dkwX0_word_0 ++ dktX0_word_1
theorem dksX0_word_0 : cX0_word.data.toList.drop 0 = dktX0_word_0 := by decide +kernel
theorem dksX0_word_1 : cX0_word.data.toList.drop 23 = dktX0_word_1 := dk_seg dksX0_word_0 23 rfl rfl
theorem dX0_word_0 : decode cX0_word 0 = .ok (.aload_n 0, 1) := dk_42 (dk_at dksX0_word_0 0 rfl rfl)
theorem dX0_word_1 : decode cX0_word 1 = .ok (.iload_n 1, 1) := dk_27 (dk_at dksX0_word_0 1 rfl rfl)
theorem dX0_word_2 : decode cX0_word 2 = .ok (.iload_n 2, 1) := dk_28 (dk_at dksX0_word_0 2 rfl rfl)
theorem dX0_word_3 : decode cX0_word 3 = .ok (.bipush 24, 2) := dk_16 24 (dk_at dksX0_word_0 3 rfl rfl)
theorem dX0_word_5 : decode cX0_word 5 = .ok (.ishr, 1) := dk_122 (dk_at dksX0_word_0 5 rfl rfl)
theorem dX0_word_6 : decode cX0_word 6 = .ok (.i2b, 1) := dk_145 (dk_at dksX0_word_0 6 rfl rfl)
theorem dX0_word_7 : decode cX0_word 7 = .ok (.bastore, 1) := dk_84 (dk_at dksX0_word_0 7 rfl rfl)
theorem dX0_word_8 : decode cX0_word 8 = .ok (.aload_n 0, 1) := dk_42 (dk_at dksX0_word_0 8 rfl rfl)
theorem dX0_word_9 : decode cX0_word 9 = .ok (.iload_n 1, 1) := dk_27 (dk_at dksX0_word_0 9 rfl rfl)
theorem dX0_word_10 : decode cX0_word 10 = .ok (.iconst 1, 1) := dk_4 (dk_at dksX0_word_0 10 rfl rfl)
theorem dX0_word_11 : decode cX0_word 11 = .ok (.iadd, 1) := dk_96 (dk_at dksX0_word_0 11 rfl rfl)
theorem dX0_word_12 : decode cX0_word 12 = .ok (.iload_n 2, 1) := dk_28 (dk_at dksX0_word_0 12 rfl rfl)
theorem dX0_word_13 : decode cX0_word 13 = .ok (.bipush 16, 2) := dk_16 16 (dk_at dksX0_word_0 13 rfl rfl)
theorem dX0_word_15 : decode cX0_word 15 = .ok (.ishr, 1) := dk_122 (dk_at dksX0_word_0 15 rfl rfl)
theorem dX0_word_16 : decode cX0_word 16 = .ok (.i2b, 1) := dk_145 (dk_at dksX0_word_0 16 rfl rfl)
theorem dX0_word_17 : decode cX0_word 17 = .ok (.bastore, 1) := dk_84 (dk_at dksX0_word_0 17 rfl rfl)
theorem dX0_word_18 : decode cX0_word 18 = .ok (.aload_n 0, 1) := dk_42 (dk_at dksX0_word_0 18 rfl rfl)
theorem dX0_word_19 : decode cX0_word 19 = .ok (.iload_n 1, 1) := dk_27 (dk_at dksX0_word_0 19 rfl rfl)
theorem dX0_word_20 : decode cX0_word 20 = .ok (.iconst 2, 1) := dk_5 (dk_at dksX0_word_0 20 rfl rfl)
theorem dX0_word_21 : decode cX0_word 21 = .ok (.iadd, 1) := dk_96 (dk_at dksX0_word_0 21 rfl rfl)
theorem dX0_word_22 : decode cX0_word 22 = .ok (.iload_n 2, 1) := dk_28 (dk_at dksX0_word_0 22 rfl rfl)
theorem dX0_word_23 : decode cX0_word 23 = .ok (.bipush 8, 2) := dk_16 8 (dk_at dksX0_word_1 0 rfl rfl)
theorem dX0_word_25 : decode cX0_word 25 = .ok (.ishr, 1) := dk_122 (dk_at dksX0_word_1 2 rfl rfl)
theorem dX0_word_26 : decode cX0_word 26 = .ok (.i2b, 1) := dk_145 (dk_at dksX0_word_1 3 rfl rfl)
theorem dX0_word_27 : decode cX0_word 27 = .ok (.bastore, 1) := dk_84 (dk_at dksX0_word_1 4 rfl rfl)
theorem dX0_word_28 : decode cX0_word 28 = .ok (.aload_n 0, 1) := dk_42 (dk_at dksX0_word_1 5 rfl rfl)
theorem dX0_word_29 : decode cX0_word 29 = .ok (.iload_n 1, 1) := dk_27 (dk_at dksX0_word_1 6 rfl rfl)
theorem dX0_word_30 : decode cX0_word 30 = .ok (.iconst 3, 1) := dk_6 (dk_at dksX0_word_1 7 rfl rfl)
theorem dX0_word_31 : decode cX0_word 31 = .ok (.iadd, 1) := dk_96 (dk_at dksX0_word_1 8 rfl rfl)
theorem dX0_word_32 : decode cX0_word 32 = .ok (.iload_n 2, 1) := dk_28 (dk_at dksX0_word_1 9 rfl rfl)
theorem dX0_word_33 : decode cX0_word 33 = .ok (.i2b, 1) := dk_145 (dk_at dksX0_word_1 10 rfl rfl)
theorem dX0_word_34 : decode cX0_word 34 = .ok (.bastore, 1) := dk_84 (dk_at dksX0_word_1 11 rfl rfl)
theorem dX0_word_35 : decode cX0_word 35 = .ok (.return_, 1) := dk_177 (dk_at dksX0_word_1 12 rfl rfl)
abbrev cX0_trim : ByteArray := prog_2_method_4_code
def yX0_trim : MethodName := ⟨RX0, "trim", "(I)V"⟩
def dkwX0_trim_0 : List UInt8 := [42, 42, 27, 182, 0, 28, 181, 0, 21, 177]
abbrev dktX0_trim_0 : List UInt8 := dkwX0_trim_0 ++ []
theorem dksX0_trim_0 : cX0_trim.data.toList.drop 0 = dktX0_trim_0 := by decide +kernel
theorem dX0_trim_0 : decode cX0_trim 0 = .ok (.aload_n 0, 1) := dk_42 (dk_at dksX0_trim_0 0 rfl rfl)
theorem dX0_trim_1 : decode cX0_trim 1 = .ok (.aload_n 0, 1) := dk_42 (dk_at dksX0_trim_0 1 rfl rfl)
theorem dX0_trim_2 : decode cX0_trim 2 = .ok (.iload_n 1, 1) := dk_27 (dk_at dksX0_trim_0 2 rfl rfl)
theorem dX0_trim_3 : decode cX0_trim 3 = .ok (.invokevirtual 28, 3) := dk_182 0 28 (dk_at dksX0_trim_0 3 rfl rfl)
theorem dX0_trim_6 : decode cX0_trim 6 = .ok (.putfield 21, 3) := dk_181 0 21 (dk_at dksX0_trim_0 6 rfl rfl)
theorem dX0_trim_9 : decode cX0_trim 9 = .ok (.return_, 1) := dk_177 (dk_at dksX0_trim_0 9 rfl rfl)
abbrev cX0_from : ByteArray := prog_2_method_5_code
def yX0_from : MethodName := ⟨RX0, "from", "(I)I"⟩
def dkwX0_from_0 : List UInt8 := [27, 18, 32, 126, 42, 180, 0, 21, 4, 96, 112, 172]
abbrev dktX0_from_0 : List UInt8 := dkwX0_from_0 ++ []
theorem dksX0_from_0 : cX0_from.data.toList.drop 0 = dktX0_from_0 := by decide +kernel
theorem dX0_from_0 : decode cX0_from 0 = .ok (.iload_n 1, 1) := dk_27 (dk_at dksX0_from_0 0 rfl rfl)
theorem dX0_from_1 : decode cX0_from 1 = .ok (.ldc 32, 2) := dk_18 32 (dk_at dksX0_from_0 1 rfl rfl)
theorem dX0_from_3 : decode cX0_from 3 = .ok (.iand, 1) := dk_126 (dk_at dksX0_from_0 3 rfl rfl)
theorem dX0_from_4 : decode cX0_from 4 = .ok (.aload_n 0, 1) := dk_42 (dk_at dksX0_from_0 4 rfl rfl)
theorem dX0_from_5 : decode cX0_from 5 = .ok (.getfield 21, 3) := dk_180 0 21 (dk_at dksX0_from_0 5 rfl rfl)
theorem dX0_from_8 : decode cX0_from 8 = .ok (.iconst 1, 1) := dk_4 (dk_at dksX0_from_0 8 rfl rfl)
theorem dX0_from_9 : decode cX0_from 9 = .ok (.iadd, 1) := dk_96 (dk_at dksX0_from_0 9 rfl rfl)
theorem dX0_from_10 : decode cX0_from 10 = .ok (.irem, 1) := dk_112 (dk_at dksX0_from_0 10 rfl rfl)
theorem dX0_from_11 : decode cX0_from 11 = .ok (.ireturn, 1) := dk_172 (dk_at dksX0_from_0 11 rfl rfl)
abbrev cX0_turn : ByteArray := prog_2_method_8_code
def yX0_turn : MethodName := ⟨RX0, "turn", "(III)I"⟩
def dkwX0_turn_2 : List UInt8 := [21, 6, 25, 5, 21, 6, 52, 85, 132, 6, 1, 167, 255, 232, 42, 180, 0, 17, 172]
abbrev dktX0_turn_2 : List UInt8 := dkwX0_turn_2 ++ []
def dkwX0_turn_1 : List UInt8 := [25, 5, 184, 0, 41, 181, 0, 17, 3, 54, 6, 21, 6, 42, 180, 0, 17, 162, 0, 21, 42, 180, 0, 13]
abbrev dktX0_turn_1 : List UInt8 := dkwX0_turn_1 ++ dktX0_turn_2
def dkwX0_turn_0 : List UInt8 := [42, 27, 28, 182, 0, 37, 58, 4, 29, 18, 32, 126, 17, 0, 161, 112, 188, 5, 58, 5, 42, 25, 4]
abbrev dktX0_turn_0 : List UInt8 := dkwX0_turn_0 ++ dktX0_turn_1
theorem dksX0_turn_0 : cX0_turn.data.toList.drop 0 = dktX0_turn_0 := by decide +kernel
theorem dksX0_turn_1 : cX0_turn.data.toList.drop 23 = dktX0_turn_1 := dk_seg dksX0_turn_0 23 rfl rfl
theorem dksX0_turn_2 : cX0_turn.data.toList.drop 47 = dktX0_turn_2 := dk_seg dksX0_turn_1 24 rfl rfl
theorem dX0_turn_0 : decode cX0_turn 0 = .ok (.aload_n 0, 1) := dk_42 (dk_at dksX0_turn_0 0 rfl rfl)
theorem dX0_turn_1 : decode cX0_turn 1 = .ok (.iload_n 1, 1) := dk_27 (dk_at dksX0_turn_0 1 rfl rfl)
theorem dX0_turn_2 : decode cX0_turn 2 = .ok (.iload_n 2, 1) := dk_28 (dk_at dksX0_turn_0 2 rfl rfl)
theorem dX0_turn_3 : decode cX0_turn 3 = .ok (.invokevirtual 37, 3) := dk_182 0 37 (dk_at dksX0_turn_0 3 rfl rfl)
theorem dX0_turn_6 : decode cX0_turn 6 = .ok (.astore 4, 2) := dk_58 4 (dk_at dksX0_turn_0 6 rfl rfl)
theorem dX0_turn_8 : decode cX0_turn 8 = .ok (.iload_n 3, 1) := dk_29 (dk_at dksX0_turn_0 8 rfl rfl)
theorem dX0_turn_9 : decode cX0_turn 9 = .ok (.ldc 32, 2) := dk_18 32 (dk_at dksX0_turn_0 9 rfl rfl)
theorem dX0_turn_11 : decode cX0_turn 11 = .ok (.iand, 1) := dk_126 (dk_at dksX0_turn_0 11 rfl rfl)
theorem dX0_turn_12 : decode cX0_turn 12 = .ok (.sipush 161, 3) := dk_17 0 161 (dk_at dksX0_turn_0 12 rfl rfl)
theorem dX0_turn_15 : decode cX0_turn 15 = .ok (.irem, 1) := dk_112 (dk_at dksX0_turn_0 15 rfl rfl)
theorem dX0_turn_16 : decode cX0_turn 16 = .ok (.newarray .char, 2) := dk_188_5 (dk_at dksX0_turn_0 16 rfl rfl)
theorem dX0_turn_18 : decode cX0_turn 18 = .ok (.astore 5, 2) := dk_58 5 (dk_at dksX0_turn_0 18 rfl rfl)
theorem dX0_turn_20 : decode cX0_turn 20 = .ok (.aload_n 0, 1) := dk_42 (dk_at dksX0_turn_0 20 rfl rfl)
theorem dX0_turn_21 : decode cX0_turn 21 = .ok (.aload 4, 2) := dk_25 4 (dk_at dksX0_turn_0 21 rfl rfl)
theorem dX0_turn_23 : decode cX0_turn 23 = .ok (.aload 5, 2) := dk_25 5 (dk_at dksX0_turn_1 0 rfl rfl)
theorem dX0_turn_25 : decode cX0_turn 25 = .ok (.invokestatic 41, 3) := dk_184 0 41 (dk_at dksX0_turn_1 2 rfl rfl)
theorem dX0_turn_28 : decode cX0_turn 28 = .ok (.putfield 17, 3) := dk_181 0 17 (dk_at dksX0_turn_1 5 rfl rfl)
theorem dX0_turn_31 : decode cX0_turn 31 = .ok (.iconst 0, 1) := dk_3 (dk_at dksX0_turn_1 8 rfl rfl)
theorem dX0_turn_32 : decode cX0_turn 32 = .ok (.istore 6, 2) := dk_54 6 (dk_at dksX0_turn_1 9 rfl rfl)
theorem dX0_turn_34 : decode cX0_turn 34 = .ok (.iload 6, 2) := dk_21 6 (dk_at dksX0_turn_1 11 rfl rfl)
theorem dX0_turn_36 : decode cX0_turn 36 = .ok (.aload_n 0, 1) := dk_42 (dk_at dksX0_turn_1 13 rfl rfl)
theorem dX0_turn_37 : decode cX0_turn 37 = .ok (.getfield 17, 3) := dk_180 0 17 (dk_at dksX0_turn_1 14 rfl rfl)
theorem dX0_turn_40 : decode cX0_turn 40 = .ok (.if_icmp .ge 21, 3) := dk_162 0 21 (dk_at dksX0_turn_1 17 rfl rfl)
theorem dX0_turn_43 : decode cX0_turn 43 = .ok (.aload_n 0, 1) := dk_42 (dk_at dksX0_turn_1 20 rfl rfl)
theorem dX0_turn_44 : decode cX0_turn 44 = .ok (.getfield 13, 3) := dk_180 0 13 (dk_at dksX0_turn_1 21 rfl rfl)
theorem dX0_turn_47 : decode cX0_turn 47 = .ok (.iload 6, 2) := dk_21 6 (dk_at dksX0_turn_2 0 rfl rfl)
theorem dX0_turn_49 : decode cX0_turn 49 = .ok (.aload 5, 2) := dk_25 5 (dk_at dksX0_turn_2 2 rfl rfl)
theorem dX0_turn_51 : decode cX0_turn 51 = .ok (.iload 6, 2) := dk_21 6 (dk_at dksX0_turn_2 4 rfl rfl)
theorem dX0_turn_53 : decode cX0_turn 53 = .ok (.caload, 1) := dk_52 (dk_at dksX0_turn_2 6 rfl rfl)
theorem dX0_turn_54 : decode cX0_turn 54 = .ok (.castore, 1) := dk_85 (dk_at dksX0_turn_2 7 rfl rfl)
theorem dX0_turn_55 : decode cX0_turn 55 = .ok (.iinc 6 1, 3) := dk_132 6 1 (dk_at dksX0_turn_2 8 rfl rfl)
theorem dX0_turn_58 : decode cX0_turn 58 = .ok (.goto (-24), 3) := dk_167 255 232 (dk_at dksX0_turn_2 11 rfl rfl)
theorem dX0_turn_61 : decode cX0_turn 61 = .ok (.aload_n 0, 1) := dk_42 (dk_at dksX0_turn_2 14 rfl rfl)
theorem dX0_turn_62 : decode cX0_turn 62 = .ok (.getfield 17, 3) := dk_180 0 17 (dk_at dksX0_turn_2 15 rfl rfl)
theorem dX0_turn_65 : decode cX0_turn 65 = .ok (.ireturn, 1) := dk_172 (dk_at dksX0_turn_2 18 rfl rfl)
abbrev cX0_part : ByteArray := prog_2_method_7_code
def yX0_part : MethodName := ⟨RX0, "part", "(II)[B"⟩
def dkwX0_part_2 : List UInt8 := [167, 255, 232, 25, 5, 176]
abbrev dktX0_part_2 : List UInt8 := dkwX0_part_2 ++ []
def dkwX0_part_1 : List UInt8 := [21, 6, 21, 4, 162, 0, 23, 25, 5, 21, 6, 42, 180, 0, 7, 29, 21, 6, 96, 51, 84, 132, 6, 1]
abbrev dktX0_part_1 : List UInt8 := dkwX0_part_1 ++ dktX0_part_2
def dkwX0_part_0 : List UInt8 := [42, 27, 182, 0, 28, 62, 42, 29, 28, 182, 0, 33, 54, 4, 21, 4, 188, 8, 58, 5, 3, 54, 6]
abbrev dktX0_part_0 : List UInt8 := dkwX0_part_0 ++ dktX0_part_1
theorem dksX0_part_0 : cX0_part.data.toList.drop 0 = dktX0_part_0 := by decide +kernel
theorem dksX0_part_1 : cX0_part.data.toList.drop 23 = dktX0_part_1 := dk_seg dksX0_part_0 23 rfl rfl
theorem dksX0_part_2 : cX0_part.data.toList.drop 47 = dktX0_part_2 := dk_seg dksX0_part_1 24 rfl rfl
theorem dX0_part_0 : decode cX0_part 0 = .ok (.aload_n 0, 1) := dk_42 (dk_at dksX0_part_0 0 rfl rfl)
theorem dX0_part_1 : decode cX0_part 1 = .ok (.iload_n 1, 1) := dk_27 (dk_at dksX0_part_0 1 rfl rfl)
theorem dX0_part_2 : decode cX0_part 2 = .ok (.invokevirtual 28, 3) := dk_182 0 28 (dk_at dksX0_part_0 2 rfl rfl)
theorem dX0_part_5 : decode cX0_part 5 = .ok (.istore_n 3, 1) := dk_62 (dk_at dksX0_part_0 5 rfl rfl)
theorem dX0_part_6 : decode cX0_part 6 = .ok (.aload_n 0, 1) := dk_42 (dk_at dksX0_part_0 6 rfl rfl)
theorem dX0_part_7 : decode cX0_part 7 = .ok (.iload_n 3, 1) := dk_29 (dk_at dksX0_part_0 7 rfl rfl)
theorem dX0_part_8 : decode cX0_part 8 = .ok (.iload_n 2, 1) := dk_28 (dk_at dksX0_part_0 8 rfl rfl)
theorem dX0_part_9 : decode cX0_part 9 = .ok (.invokevirtual 33, 3) := dk_182 0 33 (dk_at dksX0_part_0 9 rfl rfl)
theorem dX0_part_12 : decode cX0_part 12 = .ok (.istore 4, 2) := dk_54 4 (dk_at dksX0_part_0 12 rfl rfl)
theorem dX0_part_14 : decode cX0_part 14 = .ok (.iload 4, 2) := dk_21 4 (dk_at dksX0_part_0 14 rfl rfl)
theorem dX0_part_16 : decode cX0_part 16 = .ok (.newarray .byte, 2) := dk_188_8 (dk_at dksX0_part_0 16 rfl rfl)
theorem dX0_part_18 : decode cX0_part 18 = .ok (.astore 5, 2) := dk_58 5 (dk_at dksX0_part_0 18 rfl rfl)
theorem dX0_part_20 : decode cX0_part 20 = .ok (.iconst 0, 1) := dk_3 (dk_at dksX0_part_0 20 rfl rfl)
theorem dX0_part_21 : decode cX0_part 21 = .ok (.istore 6, 2) := dk_54 6 (dk_at dksX0_part_0 21 rfl rfl)
theorem dX0_part_23 : decode cX0_part 23 = .ok (.iload 6, 2) := dk_21 6 (dk_at dksX0_part_1 0 rfl rfl)
theorem dX0_part_25 : decode cX0_part 25 = .ok (.iload 4, 2) := dk_21 4 (dk_at dksX0_part_1 2 rfl rfl)
theorem dX0_part_27 : decode cX0_part 27 = .ok (.if_icmp .ge 23, 3) := dk_162 0 23 (dk_at dksX0_part_1 4 rfl rfl)
theorem dX0_part_30 : decode cX0_part 30 = .ok (.aload 5, 2) := dk_25 5 (dk_at dksX0_part_1 7 rfl rfl)
theorem dX0_part_32 : decode cX0_part 32 = .ok (.iload 6, 2) := dk_21 6 (dk_at dksX0_part_1 9 rfl rfl)
theorem dX0_part_34 : decode cX0_part 34 = .ok (.aload_n 0, 1) := dk_42 (dk_at dksX0_part_1 11 rfl rfl)
theorem dX0_part_35 : decode cX0_part 35 = .ok (.getfield 7, 3) := dk_180 0 7 (dk_at dksX0_part_1 12 rfl rfl)
theorem dX0_part_38 : decode cX0_part 38 = .ok (.iload_n 3, 1) := dk_29 (dk_at dksX0_part_1 15 rfl rfl)
theorem dX0_part_39 : decode cX0_part 39 = .ok (.iload 6, 2) := dk_21 6 (dk_at dksX0_part_1 16 rfl rfl)
theorem dX0_part_41 : decode cX0_part 41 = .ok (.iadd, 1) := dk_96 (dk_at dksX0_part_1 18 rfl rfl)
theorem dX0_part_42 : decode cX0_part 42 = .ok (.baload, 1) := dk_51 (dk_at dksX0_part_1 19 rfl rfl)
theorem dX0_part_43 : decode cX0_part 43 = .ok (.bastore, 1) := dk_84 (dk_at dksX0_part_1 20 rfl rfl)
theorem dX0_part_44 : decode cX0_part 44 = .ok (.iinc 6 1, 3) := dk_132 6 1 (dk_at dksX0_part_1 21 rfl rfl)
theorem dX0_part_47 : decode cX0_part 47 = .ok (.goto (-24), 3) := dk_167 255 232 (dk_at dksX0_part_2 0 rfl rfl)
theorem dX0_part_50 : decode cX0_part 50 = .ok (.aload 5, 2) := dk_25 5 (dk_at dksX0_part_2 3 rfl rfl)
theorem dX0_part_52 : decode cX0_part 52 = .ok (.areturn, 1) := dk_176 (dk_at dksX0_part_2 5 rfl rfl)
abbrev cX0_count : ByteArray := prog_2_method_6_code
def yX0_count : MethodName := ⟨RX0, "count", "(II)I"⟩
def dkwX0_count_0 : List UInt8 := [28, 18, 32, 126, 42, 180, 0, 21, 27, 100, 4, 96, 112, 172]
abbrev dktX0_count_0 : List UInt8 := dkwX0_count_0 ++ []
theorem dksX0_count_0 : cX0_count.data.toList.drop 0 = dktX0_count_0 := by decide +kernel
theorem dX0_count_0 : decode cX0_count 0 = .ok (.iload_n 2, 1) := dk_28 (dk_at dksX0_count_0 0 rfl rfl)
theorem dX0_count_1 : decode cX0_count 1 = .ok (.ldc 32, 2) := dk_18 32 (dk_at dksX0_count_0 1 rfl rfl)
theorem dX0_count_3 : decode cX0_count 3 = .ok (.iand, 1) := dk_126 (dk_at dksX0_count_0 3 rfl rfl)
theorem dX0_count_4 : decode cX0_count 4 = .ok (.aload_n 0, 1) := dk_42 (dk_at dksX0_count_0 4 rfl rfl)
theorem dX0_count_5 : decode cX0_count 5 = .ok (.getfield 21, 3) := dk_180 0 21 (dk_at dksX0_count_0 5 rfl rfl)
theorem dX0_count_8 : decode cX0_count 8 = .ok (.iload_n 1, 1) := dk_27 (dk_at dksX0_count_0 8 rfl rfl)
theorem dX0_count_9 : decode cX0_count 9 = .ok (.isub, 1) := dk_100 (dk_at dksX0_count_0 9 rfl rfl)
theorem dX0_count_10 : decode cX0_count 10 = .ok (.iconst 1, 1) := dk_4 (dk_at dksX0_count_0 10 rfl rfl)
theorem dX0_count_11 : decode cX0_count 11 = .ok (.iadd, 1) := dk_96 (dk_at dksX0_count_0 11 rfl rfl)
theorem dX0_count_12 : decode cX0_count 12 = .ok (.irem, 1) := dk_112 (dk_at dksX0_count_0 12 rfl rfl)
theorem dX0_count_13 : decode cX0_count 13 = .ok (.ireturn, 1) := dk_172 (dk_at dksX0_count_0 13 rfl rfl)
abbrev cX0_unit : ByteArray := prog_2_method_9_code
def yX0_unit : MethodName := ⟨RX0, "unit", "(I)I"⟩
def dkwX0_unit_1 : List UInt8 := [52, 172]
abbrev dktX0_unit_1 : List UInt8 := dkwX0_unit_1 ++ []
def dkwX0_unit_0 : List UInt8 := [42, 180, 0, 17, 157, 0, 7, 2, 167, 0, 17, 42, 180, 0, 13, 27, 18, 32, 126, 42, 180, 0, 17, 112]
abbrev dktX0_unit_0 : List UInt8 := dkwX0_unit_0 ++ dktX0_unit_1
theorem dksX0_unit_0 : cX0_unit.data.toList.drop 0 = dktX0_unit_0 := by decide +kernel
theorem dksX0_unit_1 : cX0_unit.data.toList.drop 24 = dktX0_unit_1 := dk_seg dksX0_unit_0 24 rfl rfl
theorem dX0_unit_0 : decode cX0_unit 0 = .ok (.aload_n 0, 1) := dk_42 (dk_at dksX0_unit_0 0 rfl rfl)
theorem dX0_unit_1 : decode cX0_unit 1 = .ok (.getfield 17, 3) := dk_180 0 17 (dk_at dksX0_unit_0 1 rfl rfl)
theorem dX0_unit_4 : decode cX0_unit 4 = .ok (.ifCond .gt 7, 3) := dk_157 0 7 (dk_at dksX0_unit_0 4 rfl rfl)
theorem dX0_unit_7 : decode cX0_unit 7 = .ok (.iconst (-1), 1) := dk_2 (dk_at dksX0_unit_0 7 rfl rfl)
theorem dX0_unit_8 : decode cX0_unit 8 = .ok (.goto 17, 3) := dk_167 0 17 (dk_at dksX0_unit_0 8 rfl rfl)
theorem dX0_unit_11 : decode cX0_unit 11 = .ok (.aload_n 0, 1) := dk_42 (dk_at dksX0_unit_0 11 rfl rfl)
theorem dX0_unit_12 : decode cX0_unit 12 = .ok (.getfield 13, 3) := dk_180 0 13 (dk_at dksX0_unit_0 12 rfl rfl)
theorem dX0_unit_15 : decode cX0_unit 15 = .ok (.iload_n 1, 1) := dk_27 (dk_at dksX0_unit_0 15 rfl rfl)
theorem dX0_unit_16 : decode cX0_unit 16 = .ok (.ldc 32, 2) := dk_18 32 (dk_at dksX0_unit_0 16 rfl rfl)
theorem dX0_unit_18 : decode cX0_unit 18 = .ok (.iand, 1) := dk_126 (dk_at dksX0_unit_0 18 rfl rfl)
theorem dX0_unit_19 : decode cX0_unit 19 = .ok (.aload_n 0, 1) := dk_42 (dk_at dksX0_unit_0 19 rfl rfl)
theorem dX0_unit_20 : decode cX0_unit 20 = .ok (.getfield 17, 3) := dk_180 0 17 (dk_at dksX0_unit_0 20 rfl rfl)
theorem dX0_unit_23 : decode cX0_unit 23 = .ok (.irem, 1) := dk_112 (dk_at dksX0_unit_0 23 rfl rfl)
theorem dX0_unit_24 : decode cX0_unit 24 = .ok (.caload, 1) := dk_52 (dk_at dksX0_unit_1 0 rfl rfl)
theorem dX0_unit_25 : decode cX0_unit 25 = .ok (.ireturn, 1) := dk_172 (dk_at dksX0_unit_1 1 rfl rfl)
abbrev cX0_set : ByteArray := prog_2_method_10_code
def yX0_set : MethodName := ⟨RX0, "set", "(II)Z"⟩
def dkwX0_set_1 : List UInt8 := [84, 4, 172]
abbrev dktX0_set_1 : List UInt8 := dkwX0_set_1 ++ []
def dkwX0_set_0 : List UInt8 := [42, 180, 0, 21, 154, 0, 5, 3, 172, 42, 180, 0, 7, 27, 18, 32, 126, 42, 180, 0, 21, 112, 28, 145]
abbrev dktX0_set_0 : List UInt8 := dkwX0_set_0 ++ dktX0_set_1
theorem dksX0_set_0 : cX0_set.data.toList.drop 0 = dktX0_set_0 := by decide +kernel
theorem dksX0_set_1 : cX0_set.data.toList.drop 24 = dktX0_set_1 := dk_seg dksX0_set_0 24 rfl rfl
theorem dX0_set_0 : decode cX0_set 0 = .ok (.aload_n 0, 1) := dk_42 (dk_at dksX0_set_0 0 rfl rfl)
theorem dX0_set_1 : decode cX0_set 1 = .ok (.getfield 21, 3) := dk_180 0 21 (dk_at dksX0_set_0 1 rfl rfl)
theorem dX0_set_4 : decode cX0_set 4 = .ok (.ifCond .ne 5, 3) := dk_154 0 5 (dk_at dksX0_set_0 4 rfl rfl)
theorem dX0_set_7 : decode cX0_set 7 = .ok (.iconst 0, 1) := dk_3 (dk_at dksX0_set_0 7 rfl rfl)
theorem dX0_set_8 : decode cX0_set 8 = .ok (.ireturn, 1) := dk_172 (dk_at dksX0_set_0 8 rfl rfl)
theorem dX0_set_9 : decode cX0_set 9 = .ok (.aload_n 0, 1) := dk_42 (dk_at dksX0_set_0 9 rfl rfl)
theorem dX0_set_10 : decode cX0_set 10 = .ok (.getfield 7, 3) := dk_180 0 7 (dk_at dksX0_set_0 10 rfl rfl)
theorem dX0_set_13 : decode cX0_set 13 = .ok (.iload_n 1, 1) := dk_27 (dk_at dksX0_set_0 13 rfl rfl)
theorem dX0_set_14 : decode cX0_set 14 = .ok (.ldc 32, 2) := dk_18 32 (dk_at dksX0_set_0 14 rfl rfl)
theorem dX0_set_16 : decode cX0_set 16 = .ok (.iand, 1) := dk_126 (dk_at dksX0_set_0 16 rfl rfl)
theorem dX0_set_17 : decode cX0_set 17 = .ok (.aload_n 0, 1) := dk_42 (dk_at dksX0_set_0 17 rfl rfl)
theorem dX0_set_18 : decode cX0_set 18 = .ok (.getfield 21, 3) := dk_180 0 21 (dk_at dksX0_set_0 18 rfl rfl)
theorem dX0_set_21 : decode cX0_set 21 = .ok (.irem, 1) := dk_112 (dk_at dksX0_set_0 21 rfl rfl)
theorem dX0_set_22 : decode cX0_set 22 = .ok (.iload_n 2, 1) := dk_28 (dk_at dksX0_set_0 22 rfl rfl)
theorem dX0_set_23 : decode cX0_set 23 = .ok (.i2b, 1) := dk_145 (dk_at dksX0_set_0 23 rfl rfl)
theorem dX0_set_24 : decode cX0_set 24 = .ok (.bastore, 1) := dk_84 (dk_at dksX0_set_1 0 rfl rfl)
theorem dX0_set_25 : decode cX0_set 25 = .ok (.iconst 1, 1) := dk_4 (dk_at dksX0_set_1 1 rfl rfl)
theorem dX0_set_26 : decode cX0_set 26 = .ok (.ireturn, 1) := dk_172 (dk_at dksX0_set_1 2 rfl rfl)
abbrev cX0_letter : ByteArray := prog_2_method_11_code
def yX0_letter : MethodName := ⟨RX0, "letter", "(II)I"⟩
def dkwX0_letter_7 : List UInt8 := [17, 0, 240, 29, 128, 145, 84, 21, 4, 172]
abbrev dktX0_letter_7 : List UInt8 := dkwX0_letter_7 ++ []
def dkwX0_letter_6 : List UInt8 := [17, 0, 192, 29, 128, 167, 0, 22, 21, 4, 6, 160, 0, 11, 17, 0, 224, 29, 128, 167, 0, 8]
abbrev dktX0_letter_6 : List UInt8 := dkwX0_letter_6 ++ dktX0_letter_7
def dkwX0_letter_5 : List UInt8 := [16, 6, 122, 62, 132, 6, 255, 167, 255, 224, 42, 180, 0, 7, 21, 5, 21, 4, 5, 160, 0, 11]
abbrev dktX0_letter_5 : List UInt8 := dkwX0_letter_5 ++ dktX0_letter_6
def dkwX0_letter_4 : List UInt8 := [158, 0, 33, 42, 180, 0, 7, 21, 5, 21, 6, 96, 17, 0, 128, 29, 16, 63, 126, 128, 145, 84, 29]
abbrev dktX0_letter_4 : List UInt8 := dkwX0_letter_4 ++ dktX0_letter_5
def dkwX0_letter_3 : List UInt8 := [160, 0, 15, 42, 180, 0, 7, 21, 5, 29, 145, 84, 167, 0, 85, 21, 4, 4, 100, 54, 6, 21, 6]
abbrev dktX0_letter_3 : List UInt8 := dkwX0_letter_3 ++ dktX0_letter_4
def dkwX0_letter_2 : List UInt8 := [182, 0, 28, 54, 5, 21, 5, 21, 4, 96, 42, 180, 0, 21, 164, 0, 5, 2, 172, 21, 4, 4]
abbrev dktX0_letter_2 : List UInt8 := dkwX0_letter_2 ++ dktX0_letter_3
def dkwX0_letter_1 : List UInt8 := [162, 0, 7, 5, 167, 0, 14, 29, 18, 48, 162, 0, 7, 6, 167, 0, 4, 7, 54, 4, 42, 27]
abbrev dktX0_letter_1 : List UInt8 := dkwX0_letter_1 ++ dktX0_letter_2
def dkwX0_letter_0 : List UInt8 := [28, 18, 32, 126, 18, 47, 112, 62, 29, 17, 0, 128, 162, 0, 7, 4, 167, 0, 25, 29, 17, 8, 0]
abbrev dktX0_letter_0 : List UInt8 := dkwX0_letter_0 ++ dktX0_letter_1
theorem dksX0_letter_0 : cX0_letter.data.toList.drop 0 = dktX0_letter_0 := by decide +kernel
theorem dksX0_letter_1 : cX0_letter.data.toList.drop 23 = dktX0_letter_1 := dk_seg dksX0_letter_0 23 rfl rfl
theorem dksX0_letter_2 : cX0_letter.data.toList.drop 45 = dktX0_letter_2 := dk_seg dksX0_letter_1 22 rfl rfl
theorem dksX0_letter_3 : cX0_letter.data.toList.drop 67 = dktX0_letter_3 := dk_seg dksX0_letter_2 22 rfl rfl
theorem dksX0_letter_4 : cX0_letter.data.toList.drop 90 = dktX0_letter_4 := dk_seg dksX0_letter_3 23 rfl rfl
theorem dksX0_letter_5 : cX0_letter.data.toList.drop 113 = dktX0_letter_5 := dk_seg dksX0_letter_4 23 rfl rfl
theorem dksX0_letter_6 : cX0_letter.data.toList.drop 135 = dktX0_letter_6 := dk_seg dksX0_letter_5 22 rfl rfl
theorem dksX0_letter_7 : cX0_letter.data.toList.drop 157 = dktX0_letter_7 := dk_seg dksX0_letter_6 22 rfl rfl
theorem dX0_letter_0 : decode cX0_letter 0 = .ok (.iload_n 2, 1) := dk_28 (dk_at dksX0_letter_0 0 rfl rfl)
theorem dX0_letter_1 : decode cX0_letter 1 = .ok (.ldc 32, 2) := dk_18 32 (dk_at dksX0_letter_0 1 rfl rfl)
theorem dX0_letter_3 : decode cX0_letter 3 = .ok (.iand, 1) := dk_126 (dk_at dksX0_letter_0 3 rfl rfl)
theorem dX0_letter_4 : decode cX0_letter 4 = .ok (.ldc 47, 2) := dk_18 47 (dk_at dksX0_letter_0 4 rfl rfl)
theorem dX0_letter_6 : decode cX0_letter 6 = .ok (.irem, 1) := dk_112 (dk_at dksX0_letter_0 6 rfl rfl)
theorem dX0_letter_7 : decode cX0_letter 7 = .ok (.istore_n 3, 1) := dk_62 (dk_at dksX0_letter_0 7 rfl rfl)
theorem dX0_letter_8 : decode cX0_letter 8 = .ok (.iload_n 3, 1) := dk_29 (dk_at dksX0_letter_0 8 rfl rfl)
theorem dX0_letter_9 : decode cX0_letter 9 = .ok (.sipush 128, 3) := dk_17 0 128 (dk_at dksX0_letter_0 9 rfl rfl)
theorem dX0_letter_12 : decode cX0_letter 12 = .ok (.if_icmp .ge 7, 3) := dk_162 0 7 (dk_at dksX0_letter_0 12 rfl rfl)
theorem dX0_letter_15 : decode cX0_letter 15 = .ok (.iconst 1, 1) := dk_4 (dk_at dksX0_letter_0 15 rfl rfl)
theorem dX0_letter_16 : decode cX0_letter 16 = .ok (.goto 25, 3) := dk_167 0 25 (dk_at dksX0_letter_0 16 rfl rfl)
theorem dX0_letter_19 : decode cX0_letter 19 = .ok (.iload_n 3, 1) := dk_29 (dk_at dksX0_letter_0 19 rfl rfl)
theorem dX0_letter_20 : decode cX0_letter 20 = .ok (.sipush 2048, 3) := dk_17 8 0 (dk_at dksX0_letter_0 20 rfl rfl)
theorem dX0_letter_23 : decode cX0_letter 23 = .ok (.if_icmp .ge 7, 3) := dk_162 0 7 (dk_at dksX0_letter_1 0 rfl rfl)
theorem dX0_letter_26 : decode cX0_letter 26 = .ok (.iconst 2, 1) := dk_5 (dk_at dksX0_letter_1 3 rfl rfl)
theorem dX0_letter_27 : decode cX0_letter 27 = .ok (.goto 14, 3) := dk_167 0 14 (dk_at dksX0_letter_1 4 rfl rfl)
theorem dX0_letter_30 : decode cX0_letter 30 = .ok (.iload_n 3, 1) := dk_29 (dk_at dksX0_letter_1 7 rfl rfl)
theorem dX0_letter_31 : decode cX0_letter 31 = .ok (.ldc 48, 2) := dk_18 48 (dk_at dksX0_letter_1 8 rfl rfl)
theorem dX0_letter_33 : decode cX0_letter 33 = .ok (.if_icmp .ge 7, 3) := dk_162 0 7 (dk_at dksX0_letter_1 10 rfl rfl)
theorem dX0_letter_36 : decode cX0_letter 36 = .ok (.iconst 3, 1) := dk_6 (dk_at dksX0_letter_1 13 rfl rfl)
theorem dX0_letter_37 : decode cX0_letter 37 = .ok (.goto 4, 3) := dk_167 0 4 (dk_at dksX0_letter_1 14 rfl rfl)
theorem dX0_letter_40 : decode cX0_letter 40 = .ok (.iconst 4, 1) := dk_7 (dk_at dksX0_letter_1 17 rfl rfl)
theorem dX0_letter_41 : decode cX0_letter 41 = .ok (.istore 4, 2) := dk_54 4 (dk_at dksX0_letter_1 18 rfl rfl)
theorem dX0_letter_43 : decode cX0_letter 43 = .ok (.aload_n 0, 1) := dk_42 (dk_at dksX0_letter_1 20 rfl rfl)
theorem dX0_letter_44 : decode cX0_letter 44 = .ok (.iload_n 1, 1) := dk_27 (dk_at dksX0_letter_1 21 rfl rfl)
theorem dX0_letter_45 : decode cX0_letter 45 = .ok (.invokevirtual 28, 3) := dk_182 0 28 (dk_at dksX0_letter_2 0 rfl rfl)
theorem dX0_letter_48 : decode cX0_letter 48 = .ok (.istore 5, 2) := dk_54 5 (dk_at dksX0_letter_2 3 rfl rfl)
theorem dX0_letter_50 : decode cX0_letter 50 = .ok (.iload 5, 2) := dk_21 5 (dk_at dksX0_letter_2 5 rfl rfl)
theorem dX0_letter_52 : decode cX0_letter 52 = .ok (.iload 4, 2) := dk_21 4 (dk_at dksX0_letter_2 7 rfl rfl)
theorem dX0_letter_54 : decode cX0_letter 54 = .ok (.iadd, 1) := dk_96 (dk_at dksX0_letter_2 9 rfl rfl)
theorem dX0_letter_55 : decode cX0_letter 55 = .ok (.aload_n 0, 1) := dk_42 (dk_at dksX0_letter_2 10 rfl rfl)
theorem dX0_letter_56 : decode cX0_letter 56 = .ok (.getfield 21, 3) := dk_180 0 21 (dk_at dksX0_letter_2 11 rfl rfl)
theorem dX0_letter_59 : decode cX0_letter 59 = .ok (.if_icmp .le 5, 3) := dk_164 0 5 (dk_at dksX0_letter_2 14 rfl rfl)
theorem dX0_letter_62 : decode cX0_letter 62 = .ok (.iconst (-1), 1) := dk_2 (dk_at dksX0_letter_2 17 rfl rfl)
theorem dX0_letter_63 : decode cX0_letter 63 = .ok (.ireturn, 1) := dk_172 (dk_at dksX0_letter_2 18 rfl rfl)
theorem dX0_letter_64 : decode cX0_letter 64 = .ok (.iload 4, 2) := dk_21 4 (dk_at dksX0_letter_2 19 rfl rfl)
theorem dX0_letter_66 : decode cX0_letter 66 = .ok (.iconst 1, 1) := dk_4 (dk_at dksX0_letter_2 21 rfl rfl)
theorem dX0_letter_67 : decode cX0_letter 67 = .ok (.if_icmp .ne 15, 3) := dk_160 0 15 (dk_at dksX0_letter_3 0 rfl rfl)
theorem dX0_letter_70 : decode cX0_letter 70 = .ok (.aload_n 0, 1) := dk_42 (dk_at dksX0_letter_3 3 rfl rfl)
theorem dX0_letter_71 : decode cX0_letter 71 = .ok (.getfield 7, 3) := dk_180 0 7 (dk_at dksX0_letter_3 4 rfl rfl)
theorem dX0_letter_74 : decode cX0_letter 74 = .ok (.iload 5, 2) := dk_21 5 (dk_at dksX0_letter_3 7 rfl rfl)
theorem dX0_letter_76 : decode cX0_letter 76 = .ok (.iload_n 3, 1) := dk_29 (dk_at dksX0_letter_3 9 rfl rfl)
theorem dX0_letter_77 : decode cX0_letter 77 = .ok (.i2b, 1) := dk_145 (dk_at dksX0_letter_3 10 rfl rfl)
theorem dX0_letter_78 : decode cX0_letter 78 = .ok (.bastore, 1) := dk_84 (dk_at dksX0_letter_3 11 rfl rfl)
theorem dX0_letter_79 : decode cX0_letter 79 = .ok (.goto 85, 3) := dk_167 0 85 (dk_at dksX0_letter_3 12 rfl rfl)
theorem dX0_letter_82 : decode cX0_letter 82 = .ok (.iload 4, 2) := dk_21 4 (dk_at dksX0_letter_3 15 rfl rfl)
theorem dX0_letter_84 : decode cX0_letter 84 = .ok (.iconst 1, 1) := dk_4 (dk_at dksX0_letter_3 17 rfl rfl)
theorem dX0_letter_85 : decode cX0_letter 85 = .ok (.isub, 1) := dk_100 (dk_at dksX0_letter_3 18 rfl rfl)
theorem dX0_letter_86 : decode cX0_letter 86 = .ok (.istore 6, 2) := dk_54 6 (dk_at dksX0_letter_3 19 rfl rfl)
theorem dX0_letter_88 : decode cX0_letter 88 = .ok (.iload 6, 2) := dk_21 6 (dk_at dksX0_letter_3 21 rfl rfl)
theorem dX0_letter_90 : decode cX0_letter 90 = .ok (.ifCond .le 33, 3) := dk_158 0 33 (dk_at dksX0_letter_4 0 rfl rfl)
theorem dX0_letter_93 : decode cX0_letter 93 = .ok (.aload_n 0, 1) := dk_42 (dk_at dksX0_letter_4 3 rfl rfl)
theorem dX0_letter_94 : decode cX0_letter 94 = .ok (.getfield 7, 3) := dk_180 0 7 (dk_at dksX0_letter_4 4 rfl rfl)
theorem dX0_letter_97 : decode cX0_letter 97 = .ok (.iload 5, 2) := dk_21 5 (dk_at dksX0_letter_4 7 rfl rfl)
theorem dX0_letter_99 : decode cX0_letter 99 = .ok (.iload 6, 2) := dk_21 6 (dk_at dksX0_letter_4 9 rfl rfl)
theorem dX0_letter_101 : decode cX0_letter 101 = .ok (.iadd, 1) := dk_96 (dk_at dksX0_letter_4 11 rfl rfl)
theorem dX0_letter_102 : decode cX0_letter 102 = .ok (.sipush 128, 3) := dk_17 0 128 (dk_at dksX0_letter_4 12 rfl rfl)
theorem dX0_letter_105 : decode cX0_letter 105 = .ok (.iload_n 3, 1) := dk_29 (dk_at dksX0_letter_4 15 rfl rfl)
theorem dX0_letter_106 : decode cX0_letter 106 = .ok (.bipush 63, 2) := dk_16 63 (dk_at dksX0_letter_4 16 rfl rfl)
theorem dX0_letter_108 : decode cX0_letter 108 = .ok (.iand, 1) := dk_126 (dk_at dksX0_letter_4 18 rfl rfl)
theorem dX0_letter_109 : decode cX0_letter 109 = .ok (.ior, 1) := dk_128 (dk_at dksX0_letter_4 19 rfl rfl)
theorem dX0_letter_110 : decode cX0_letter 110 = .ok (.i2b, 1) := dk_145 (dk_at dksX0_letter_4 20 rfl rfl)
theorem dX0_letter_111 : decode cX0_letter 111 = .ok (.bastore, 1) := dk_84 (dk_at dksX0_letter_4 21 rfl rfl)
theorem dX0_letter_112 : decode cX0_letter 112 = .ok (.iload_n 3, 1) := dk_29 (dk_at dksX0_letter_4 22 rfl rfl)
theorem dX0_letter_113 : decode cX0_letter 113 = .ok (.bipush 6, 2) := dk_16 6 (dk_at dksX0_letter_5 0 rfl rfl)
theorem dX0_letter_115 : decode cX0_letter 115 = .ok (.ishr, 1) := dk_122 (dk_at dksX0_letter_5 2 rfl rfl)
theorem dX0_letter_116 : decode cX0_letter 116 = .ok (.istore_n 3, 1) := dk_62 (dk_at dksX0_letter_5 3 rfl rfl)
theorem dX0_letter_117 : decode cX0_letter 117 = .ok (.iinc 6 (-1), 3) := dk_132 6 255 (dk_at dksX0_letter_5 4 rfl rfl)
theorem dX0_letter_120 : decode cX0_letter 120 = .ok (.goto (-32), 3) := dk_167 255 224 (dk_at dksX0_letter_5 7 rfl rfl)
theorem dX0_letter_123 : decode cX0_letter 123 = .ok (.aload_n 0, 1) := dk_42 (dk_at dksX0_letter_5 10 rfl rfl)
theorem dX0_letter_124 : decode cX0_letter 124 = .ok (.getfield 7, 3) := dk_180 0 7 (dk_at dksX0_letter_5 11 rfl rfl)
theorem dX0_letter_127 : decode cX0_letter 127 = .ok (.iload 5, 2) := dk_21 5 (dk_at dksX0_letter_5 14 rfl rfl)
theorem dX0_letter_129 : decode cX0_letter 129 = .ok (.iload 4, 2) := dk_21 4 (dk_at dksX0_letter_5 16 rfl rfl)
theorem dX0_letter_131 : decode cX0_letter 131 = .ok (.iconst 2, 1) := dk_5 (dk_at dksX0_letter_5 18 rfl rfl)
theorem dX0_letter_132 : decode cX0_letter 132 = .ok (.if_icmp .ne 11, 3) := dk_160 0 11 (dk_at dksX0_letter_5 19 rfl rfl)
theorem dX0_letter_135 : decode cX0_letter 135 = .ok (.sipush 192, 3) := dk_17 0 192 (dk_at dksX0_letter_6 0 rfl rfl)
theorem dX0_letter_138 : decode cX0_letter 138 = .ok (.iload_n 3, 1) := dk_29 (dk_at dksX0_letter_6 3 rfl rfl)
theorem dX0_letter_139 : decode cX0_letter 139 = .ok (.ior, 1) := dk_128 (dk_at dksX0_letter_6 4 rfl rfl)
theorem dX0_letter_140 : decode cX0_letter 140 = .ok (.goto 22, 3) := dk_167 0 22 (dk_at dksX0_letter_6 5 rfl rfl)
theorem dX0_letter_143 : decode cX0_letter 143 = .ok (.iload 4, 2) := dk_21 4 (dk_at dksX0_letter_6 8 rfl rfl)
theorem dX0_letter_145 : decode cX0_letter 145 = .ok (.iconst 3, 1) := dk_6 (dk_at dksX0_letter_6 10 rfl rfl)
theorem dX0_letter_146 : decode cX0_letter 146 = .ok (.if_icmp .ne 11, 3) := dk_160 0 11 (dk_at dksX0_letter_6 11 rfl rfl)
theorem dX0_letter_149 : decode cX0_letter 149 = .ok (.sipush 224, 3) := dk_17 0 224 (dk_at dksX0_letter_6 14 rfl rfl)
theorem dX0_letter_152 : decode cX0_letter 152 = .ok (.iload_n 3, 1) := dk_29 (dk_at dksX0_letter_6 17 rfl rfl)
theorem dX0_letter_153 : decode cX0_letter 153 = .ok (.ior, 1) := dk_128 (dk_at dksX0_letter_6 18 rfl rfl)
theorem dX0_letter_154 : decode cX0_letter 154 = .ok (.goto 8, 3) := dk_167 0 8 (dk_at dksX0_letter_6 19 rfl rfl)
theorem dX0_letter_157 : decode cX0_letter 157 = .ok (.sipush 240, 3) := dk_17 0 240 (dk_at dksX0_letter_7 0 rfl rfl)
theorem dX0_letter_160 : decode cX0_letter 160 = .ok (.iload_n 3, 1) := dk_29 (dk_at dksX0_letter_7 3 rfl rfl)
theorem dX0_letter_161 : decode cX0_letter 161 = .ok (.ior, 1) := dk_128 (dk_at dksX0_letter_7 4 rfl rfl)
theorem dX0_letter_162 : decode cX0_letter 162 = .ok (.i2b, 1) := dk_145 (dk_at dksX0_letter_7 5 rfl rfl)
theorem dX0_letter_163 : decode cX0_letter 163 = .ok (.bastore, 1) := dk_84 (dk_at dksX0_letter_7 6 rfl rfl)
theorem dX0_letter_164 : decode cX0_letter 164 = .ok (.iload 4, 2) := dk_21 4 (dk_at dksX0_letter_7 7 rfl rfl)
theorem dX0_letter_166 : decode cX0_letter 166 = .ok (.ireturn, 1) := dk_172 (dk_at dksX0_letter_7 9 rfl rfl)
theorem q6 : (Jvm.Cond.initialized "UtfDesk") ∈ lw_all := lw_g (lw_at lw_m0 1 rfl) rfl
theorem q10 : (Jvm.Cond.instantiable "UtfDesk" (4 : Nat)) ∈ lw_all := lw_g (lw_at lw_m0 5 rfl) rfl
theorem q12 : (Jvm.Cond.instanceMethod ({ cls := "UtfDesk", name := "<init>", desc := "()V" } : Jvm.MethodName)) ∈ lw_all := lw_g (lw_at lw_m0 7 rfl) rfl
theorem q13 : (Jvm.Cond.code ({ cls := "UtfDesk", name := "<init>", desc := "()V" } : Jvm.MethodName) prog_2_method_1_code (1 : Nat) (Option.none : Option Jvm.ClassFile.FieldType)) ∈ lw_all := lw_g (lw_at lw_m0 8 rfl) rfl
theorem q14 : (Jvm.Cond.methodLink "UtfDesk" (1 : Nat) ({ cls := "java/lang/Object", name := "<init>", desc := "()V" } : Jvm.MethodName)) ∈ lw_all := lw_g (lw_at lw_m0 9 rfl) rfl
theorem q17 : (Jvm.Cond.fieldLink "UtfDesk" (7 : Nat) "UtfDesk" "text" "[B") ∈ lw_all := lw_g (lw_at lw_m0 12 rfl) rfl
theorem q18 : (Jvm.Cond.fieldLink "UtfDesk" (21 : Nat) "UtfDesk" "size" "I") ∈ lw_all := lw_g (lw_at lw_m0 13 rfl) rfl
theorem q19 : (Jvm.Cond.fieldLink "UtfDesk" (13 : Nat) "UtfDesk" "units" "[C") ∈ lw_all := lw_g (lw_at lw_m0 14 rfl) rfl
theorem q20 : (Jvm.Cond.fieldLink "UtfDesk" (17 : Nat) "UtfDesk" "made" "I") ∈ lw_all := lw_g (lw_at lw_m0 15 rfl) rfl
theorem q21 : (Jvm.Cond.laysFinal "UtfDesk" "UtfDesk" "text" "[B") ∈ lw_all := lw_g (lw_at lw_m0 16 rfl) rfl
theorem q22 : (Jvm.Cond.soleField "UtfDesk" "text") ∈ lw_all := lw_g (lw_at lw_m0 17 rfl) rfl
theorem q23 : (Jvm.Cond.lays "UtfDesk" "UtfDesk" "size" "I") ∈ lw_all := lw_g (lw_at lw_m0 18 rfl) rfl
theorem q24 : (Jvm.Cond.soleField "UtfDesk" "size") ∈ lw_all := lw_g (lw_at lw_m0 19 rfl) rfl
theorem q25 : (Jvm.Cond.laysFinal "UtfDesk" "UtfDesk" "units" "[C") ∈ lw_all := lw_g (lw_at lw_m0 20 rfl) rfl
theorem q26 : (Jvm.Cond.soleField "UtfDesk" "units") ∈ lw_all := lw_g (lw_at lw_m0 21 rfl) rfl
theorem q27 : (Jvm.Cond.lays "UtfDesk" "UtfDesk" "made" "I") ∈ lw_all := lw_g (lw_at lw_m0 22 rfl) rfl
theorem q28 : (Jvm.Cond.soleField "UtfDesk" "made") ∈ lw_all := lw_g (lw_at lw_m0 23 rfl) rfl
theorem q29 : (Jvm.Cond.superclass "UtfDesk" "java/lang/Object") ∈ lw_all := lw_g (lw_at lw_m0 24 rfl) rfl
theorem q33 : (Jvm.Cond.instanceMethod ({ cls := "UtfDesk", name := "put", desc := "(IIII)Z" } : Jvm.MethodName)) ∈ lw_all := lw_g (lw_at lw_m0 28 rfl) rfl
theorem q34 : (Jvm.Cond.selects "UtfDesk" ({ cls := "UtfDesk", name := "put", desc := "(IIII)Z" } : Jvm.MethodName) ({ cls := "UtfDesk", name := "put", desc := "(IIII)Z" } : Jvm.MethodName)) ∈ lw_all := lw_g (lw_at lw_m0 29 rfl) rfl
theorem q35 : (Jvm.Cond.code ({ cls := "UtfDesk", name := "put", desc := "(IIII)Z" } : Jvm.MethodName) prog_2_method_2_code (5 : Nat) (Option.some Jvm.ClassFile.FieldType.boolean)) ∈ lw_all := lw_g (lw_at lw_m0 30 rfl) rfl
theorem q36 : (Jvm.Cond.methodLink "UtfDesk" (24 : Nat) ({ cls := "UtfDesk", name := "word", desc := "([BII)V" } : Jvm.MethodName)) ∈ lw_all := lw_g (lw_at lw_m0 31 rfl) rfl
theorem q37 : (Jvm.Cond.static ({ cls := "UtfDesk", name := "word", desc := "([BII)V" } : Jvm.MethodName)) ∈ lw_all := lw_g (lw_at lw_m0 32 rfl) rfl
theorem q38 : (Jvm.Cond.code ({ cls := "UtfDesk", name := "word", desc := "([BII)V" } : Jvm.MethodName) prog_2_method_3_code (3 : Nat) (Option.none : Option Jvm.ClassFile.FieldType)) ∈ lw_all := lw_g (lw_at lw_m0 33 rfl) rfl
theorem q40 : (Jvm.Cond.instanceMethod ({ cls := "UtfDesk", name := "trim", desc := "(I)V" } : Jvm.MethodName)) ∈ lw_all := lw_g (lw_at lw_m0 35 rfl) rfl
theorem q41 : (Jvm.Cond.selects "UtfDesk" ({ cls := "UtfDesk", name := "trim", desc := "(I)V" } : Jvm.MethodName) ({ cls := "UtfDesk", name := "trim", desc := "(I)V" } : Jvm.MethodName)) ∈ lw_all := lw_g (lw_at lw_m0 36 rfl) rfl
theorem q42 : (Jvm.Cond.code ({ cls := "UtfDesk", name := "trim", desc := "(I)V" } : Jvm.MethodName) prog_2_method_4_code (2 : Nat) (Option.none : Option Jvm.ClassFile.FieldType)) ∈ lw_all := lw_g (lw_at lw_m0 37 rfl) rfl
theorem q43 : (Jvm.Cond.methodLink "UtfDesk" (28 : Nat) ({ cls := "UtfDesk", name := "from", desc := "(I)I" } : Jvm.MethodName)) ∈ lw_all := lw_g (lw_at lw_m0 38 rfl) rfl
theorem q44 : (Jvm.Cond.privateMethod ({ cls := "UtfDesk", name := "from", desc := "(I)I" } : Jvm.MethodName)) ∈ lw_tbl := lw_at lw_m0 39 rfl
theorem q45 : (Jvm.Cond.instanceMethod ({ cls := "UtfDesk", name := "from", desc := "(I)I" } : Jvm.MethodName)) ∈ lw_all := lw_g (lw_at lw_m0 40 rfl) rfl
theorem q46 : (Jvm.Cond.code ({ cls := "UtfDesk", name := "from", desc := "(I)I" } : Jvm.MethodName) prog_2_method_5_code (2 : Nat) (Option.some Jvm.ClassFile.FieldType.int)) ∈ lw_all := lw_g (lw_at lw_m0 41 rfl) rfl
theorem q47 : (Jvm.Cond.constant "UtfDesk" (32 : Nat) (2147483647 : Int32)) ∈ lw_all := lw_g (lw_at lw_m0 42 rfl) rfl
theorem q49 : (Jvm.Cond.instanceMethod ({ cls := "UtfDesk", name := "turn", desc := "(III)I" } : Jvm.MethodName)) ∈ lw_all := lw_g (lw_at lw_m0 44 rfl) rfl
theorem q50 : (Jvm.Cond.selects "UtfDesk" ({ cls := "UtfDesk", name := "turn", desc := "(III)I" } : Jvm.MethodName) ({ cls := "UtfDesk", name := "turn", desc := "(III)I" } : Jvm.MethodName)) ∈ lw_all := lw_g (lw_at lw_m0 45 rfl) rfl
theorem q51 : (Jvm.Cond.code ({ cls := "UtfDesk", name := "turn", desc := "(III)I" } : Jvm.MethodName) prog_2_method_8_code (7 : Nat) (Option.some Jvm.ClassFile.FieldType.int)) ∈ lw_all := lw_g (lw_at lw_m0 46 rfl) rfl
theorem q52 : (Jvm.Cond.methodLink "UtfDesk" (37 : Nat) ({ cls := "UtfDesk", name := "part", desc := "(II)[B" } : Jvm.MethodName)) ∈ lw_all := lw_g (lw_at lw_m0 47 rfl) rfl
theorem q53 : (Jvm.Cond.privateMethod ({ cls := "UtfDesk", name := "part", desc := "(II)[B" } : Jvm.MethodName)) ∈ lw_tbl := lw_at lw_m0 48 rfl
theorem q54 : (Jvm.Cond.instanceMethod ({ cls := "UtfDesk", name := "part", desc := "(II)[B" } : Jvm.MethodName)) ∈ lw_all := lw_g (lw_at lw_m0 49 rfl) rfl
theorem q55 : (Jvm.Cond.code ({ cls := "UtfDesk", name := "part", desc := "(II)[B" } : Jvm.MethodName) prog_2_method_7_code (7 : Nat) (Option.some (Jvm.ClassFile.FieldType.array Jvm.ClassFile.FieldType.byte))) ∈ lw_all := lw_g (lw_at lw_m0 50 rfl) rfl
theorem q56 : (Jvm.Cond.methodLink "UtfDesk" (33 : Nat) ({ cls := "UtfDesk", name := "count", desc := "(II)I" } : Jvm.MethodName)) ∈ lw_all := lw_g (lw_at lw_m0 51 rfl) rfl
theorem q57 : (Jvm.Cond.privateMethod ({ cls := "UtfDesk", name := "count", desc := "(II)I" } : Jvm.MethodName)) ∈ lw_tbl := lw_at lw_m0 52 rfl
theorem q58 : (Jvm.Cond.instanceMethod ({ cls := "UtfDesk", name := "count", desc := "(II)I" } : Jvm.MethodName)) ∈ lw_all := lw_g (lw_at lw_m0 53 rfl) rfl
theorem q59 : (Jvm.Cond.code ({ cls := "UtfDesk", name := "count", desc := "(II)I" } : Jvm.MethodName) prog_2_method_6_code (3 : Nat) (Option.some Jvm.ClassFile.FieldType.int)) ∈ lw_all := lw_g (lw_at lw_m0 54 rfl) rfl
theorem q60 : (Jvm.Cond.methodLink "UtfDesk" (41 : Nat) ({ cls := "UTF8", name := "transcodeToUTF16", desc := "([B[C)I" } : Jvm.MethodName)) ∈ lw_all := lw_g (lw_at lw_m0 55 rfl) rfl
theorem q74 : (Jvm.Cond.instanceMethod ({ cls := "UtfDesk", name := "unit", desc := "(I)I" } : Jvm.MethodName)) ∈ lw_all := lw_g (lw_at lw_m0 69 rfl) rfl
theorem q75 : (Jvm.Cond.selects "UtfDesk" ({ cls := "UtfDesk", name := "unit", desc := "(I)I" } : Jvm.MethodName) ({ cls := "UtfDesk", name := "unit", desc := "(I)I" } : Jvm.MethodName)) ∈ lw_all := lw_g (lw_at lw_m0 70 rfl) rfl
theorem q76 : (Jvm.Cond.code ({ cls := "UtfDesk", name := "unit", desc := "(I)I" } : Jvm.MethodName) prog_2_method_9_code (2 : Nat) (Option.some Jvm.ClassFile.FieldType.int)) ∈ lw_all := lw_g (lw_at lw_m0 71 rfl) rfl
theorem q78 : (Jvm.Cond.instanceMethod ({ cls := "UtfDesk", name := "set", desc := "(II)Z" } : Jvm.MethodName)) ∈ lw_all := lw_g (lw_at lw_m0 73 rfl) rfl
theorem q79 : (Jvm.Cond.selects "UtfDesk" ({ cls := "UtfDesk", name := "set", desc := "(II)Z" } : Jvm.MethodName) ({ cls := "UtfDesk", name := "set", desc := "(II)Z" } : Jvm.MethodName)) ∈ lw_all := lw_g (lw_at lw_m0 74 rfl) rfl
theorem q80 : (Jvm.Cond.code ({ cls := "UtfDesk", name := "set", desc := "(II)Z" } : Jvm.MethodName) prog_2_method_10_code (3 : Nat) (Option.some Jvm.ClassFile.FieldType.boolean)) ∈ lw_all := lw_g (lw_at lw_m0 75 rfl) rfl
theorem q82 : (Jvm.Cond.instanceMethod ({ cls := "UtfDesk", name := "letter", desc := "(II)I" } : Jvm.MethodName)) ∈ lw_all := lw_g (lw_at lw_m0 77 rfl) rfl
theorem q83 : (Jvm.Cond.selects "UtfDesk" ({ cls := "UtfDesk", name := "letter", desc := "(II)I" } : Jvm.MethodName) ({ cls := "UtfDesk", name := "letter", desc := "(II)I" } : Jvm.MethodName)) ∈ lw_all := lw_g (lw_at lw_m0 78 rfl) rfl
theorem q84 : (Jvm.Cond.code ({ cls := "UtfDesk", name := "letter", desc := "(II)I" } : Jvm.MethodName) prog_2_method_11_code (7 : Nat) (Option.some Jvm.ClassFile.FieldType.int)) ∈ lw_all := lw_g (lw_at lw_m0 79 rfl) rfl
theorem q85 : (Jvm.Cond.constant "UtfDesk" (47 : Nat) (1114112 : Int32)) ∈ lw_all := lw_g (lw_at lw_m0 80 rfl) rfl
theorem q86 : (Jvm.Cond.constant "UtfDesk" (48 : Nat) (65536 : Int32)) ∈ lw_all := lw_g (lw_at lw_m0 81 rfl) rfl
theorem in_X0 : ∀ w ∈ wsX00, w ∈ lw_all := lw_in wsX00 [21, 23, 25, 27] (by decide +kernel) (by decide +kernel)
end
section
/-! UtfDeskModel -/
set_option maxRecDepth 100000
def RX1 : String := "UtfDeskModel"
def TX1 : u_T := fun k => match k with
  | 0 => ("UtfDeskModel", "text", "[I", true)
  | 1 => ("UtfDeskModel", "size", "I", false)
  | _ => ("UtfDeskModel", "units", "[I", false)
def tyX1 : Nat → FieldType := fun k => match k with
  | 0 => .array .int
  | 1 => .int
  | _ => .array .int
abbrev wsX10 : List Cond := u_ws RX1 TX1 3
theorem nmX1 : ∀ a, a < 3 → ∀ b, b < 3 → a ≠ b → (TX1 a).2.1 ≠ (TX1 b).2.1 := by decide +kernel
theorem tyX1_ok : ∀ k, k < 3 → parseFieldDescriptor (TX1 k).2.2.1 = some (tyX1 k) := by decide +kernel
abbrev cX1_init : ByteArray := prog_4_method_1_code
def yX1_init : MethodName := ⟨RX1, "<init>", "()V"⟩
def dkwX1_init_0 : List UInt8 := [42, 183, 0, 1, 42, 17, 0, 128, 188, 10, 181, 0, 9, 42, 3, 188, 10, 181, 0, 13, 177]
abbrev dktX1_init_0 : List UInt8 := dkwX1_init_0 ++ []
theorem dksX1_init_0 : cX1_init.data.toList.drop 0 = dktX1_init_0 := by decide +kernel
theorem dX1_init_0 : decode cX1_init 0 = .ok (.aload_n 0, 1) := dk_42 (dk_at dksX1_init_0 0 rfl rfl)
theorem dX1_init_1 : decode cX1_init 1 = .ok (.invokespecial 1, 3) := dk_183 0 1 (dk_at dksX1_init_0 1 rfl rfl)
theorem dX1_init_4 : decode cX1_init 4 = .ok (.aload_n 0, 1) := dk_42 (dk_at dksX1_init_0 4 rfl rfl)
theorem dX1_init_5 : decode cX1_init 5 = .ok (.sipush 128, 3) := dk_17 0 128 (dk_at dksX1_init_0 5 rfl rfl)
theorem dX1_init_8 : decode cX1_init 8 = .ok (.newarray .int, 2) := dk_188_10 (dk_at dksX1_init_0 8 rfl rfl)
theorem dX1_init_10 : decode cX1_init 10 = .ok (.putfield 9, 3) := dk_181 0 9 (dk_at dksX1_init_0 10 rfl rfl)
theorem dX1_init_13 : decode cX1_init 13 = .ok (.aload_n 0, 1) := dk_42 (dk_at dksX1_init_0 13 rfl rfl)
theorem dX1_init_14 : decode cX1_init 14 = .ok (.iconst 0, 1) := dk_3 (dk_at dksX1_init_0 14 rfl rfl)
theorem dX1_init_15 : decode cX1_init 15 = .ok (.newarray .int, 2) := dk_188_10 (dk_at dksX1_init_0 15 rfl rfl)
theorem dX1_init_17 : decode cX1_init 17 = .ok (.putfield 13, 3) := dk_181 0 13 (dk_at dksX1_init_0 17 rfl rfl)
theorem dX1_init_20 : decode cX1_init 20 = .ok (.return_, 1) := dk_177 (dk_at dksX1_init_0 20 rfl rfl)
abbrev cX1_put : ByteArray := prog_4_method_2_code
def yX1_put : MethodName := ⟨RX1, "put", "(IIII)Z"⟩
def dkwX1_put_4 : List UInt8 := [180, 0, 16, 4, 96, 181, 0, 16, 132, 10, 255, 167, 255, 217, 132, 8, 1, 167, 255, 194, 4, 172]
abbrev dktX1_put_4 : List UInt8 := dkwX1_put_4 ++ []
def dkwX1_put_3 : List UInt8 := [42, 180, 0, 9, 42, 180, 0, 16, 21, 9, 16, 8, 21, 10, 104, 124, 17, 0, 255, 126, 79, 42, 89]
abbrev dktX1_put_3 : List UInt8 := dkwX1_put_3 ++ dktX1_put_4
def dkwX1_put_2 : List UInt8 := [54, 8, 21, 8, 21, 7, 162, 0, 61, 25, 6, 21, 8, 46, 54, 9, 6, 54, 10, 21, 10, 155, 0, 40]
abbrev dktX1_put_2 : List UInt8 := dkwX1_put_2 ++ dktX1_put_3
def dkwX1_put_1 : List UInt8 := [28, 79, 89, 5, 29, 79, 89, 6, 21, 4, 79, 58, 5, 25, 5, 58, 6, 25, 6, 190, 54, 7, 3]
abbrev dktX1_put_1 : List UInt8 := dkwX1_put_1 ++ dktX1_put_2
def dkwX1_put_0 : List UInt8 := [42, 180, 0, 16, 16, 16, 96, 17, 0, 128, 164, 0, 5, 3, 172, 7, 188, 10, 89, 3, 27, 79, 89, 4]
abbrev dktX1_put_0 : List UInt8 := dkwX1_put_0 ++ dktX1_put_1
theorem dksX1_put_0 : cX1_put.data.toList.drop 0 = dktX1_put_0 := by decide +kernel
theorem dksX1_put_1 : cX1_put.data.toList.drop 24 = dktX1_put_1 := dk_seg dksX1_put_0 24 rfl rfl
theorem dksX1_put_2 : cX1_put.data.toList.drop 47 = dktX1_put_2 := dk_seg dksX1_put_1 23 rfl rfl
theorem dksX1_put_3 : cX1_put.data.toList.drop 71 = dktX1_put_3 := dk_seg dksX1_put_2 24 rfl rfl
theorem dksX1_put_4 : cX1_put.data.toList.drop 94 = dktX1_put_4 := dk_seg dksX1_put_3 23 rfl rfl
theorem dX1_put_0 : decode cX1_put 0 = .ok (.aload_n 0, 1) := dk_42 (dk_at dksX1_put_0 0 rfl rfl)
theorem dX1_put_1 : decode cX1_put 1 = .ok (.getfield 16, 3) := dk_180 0 16 (dk_at dksX1_put_0 1 rfl rfl)
theorem dX1_put_4 : decode cX1_put 4 = .ok (.bipush 16, 2) := dk_16 16 (dk_at dksX1_put_0 4 rfl rfl)
theorem dX1_put_6 : decode cX1_put 6 = .ok (.iadd, 1) := dk_96 (dk_at dksX1_put_0 6 rfl rfl)
theorem dX1_put_7 : decode cX1_put 7 = .ok (.sipush 128, 3) := dk_17 0 128 (dk_at dksX1_put_0 7 rfl rfl)
theorem dX1_put_10 : decode cX1_put 10 = .ok (.if_icmp .le 5, 3) := dk_164 0 5 (dk_at dksX1_put_0 10 rfl rfl)
theorem dX1_put_13 : decode cX1_put 13 = .ok (.iconst 0, 1) := dk_3 (dk_at dksX1_put_0 13 rfl rfl)
theorem dX1_put_14 : decode cX1_put 14 = .ok (.ireturn, 1) := dk_172 (dk_at dksX1_put_0 14 rfl rfl)
theorem dX1_put_15 : decode cX1_put 15 = .ok (.iconst 4, 1) := dk_7 (dk_at dksX1_put_0 15 rfl rfl)
theorem dX1_put_16 : decode cX1_put 16 = .ok (.newarray .int, 2) := dk_188_10 (dk_at dksX1_put_0 16 rfl rfl)
theorem dX1_put_18 : decode cX1_put 18 = .ok (.dup, 1) := dk_89 (dk_at dksX1_put_0 18 rfl rfl)
theorem dX1_put_19 : decode cX1_put 19 = .ok (.iconst 0, 1) := dk_3 (dk_at dksX1_put_0 19 rfl rfl)
theorem dX1_put_20 : decode cX1_put 20 = .ok (.iload_n 1, 1) := dk_27 (dk_at dksX1_put_0 20 rfl rfl)
theorem dX1_put_21 : decode cX1_put 21 = .ok (.iastore, 1) := dk_79 (dk_at dksX1_put_0 21 rfl rfl)
theorem dX1_put_22 : decode cX1_put 22 = .ok (.dup, 1) := dk_89 (dk_at dksX1_put_0 22 rfl rfl)
theorem dX1_put_23 : decode cX1_put 23 = .ok (.iconst 1, 1) := dk_4 (dk_at dksX1_put_0 23 rfl rfl)
theorem dX1_put_24 : decode cX1_put 24 = .ok (.iload_n 2, 1) := dk_28 (dk_at dksX1_put_1 0 rfl rfl)
theorem dX1_put_25 : decode cX1_put 25 = .ok (.iastore, 1) := dk_79 (dk_at dksX1_put_1 1 rfl rfl)
theorem dX1_put_26 : decode cX1_put 26 = .ok (.dup, 1) := dk_89 (dk_at dksX1_put_1 2 rfl rfl)
theorem dX1_put_27 : decode cX1_put 27 = .ok (.iconst 2, 1) := dk_5 (dk_at dksX1_put_1 3 rfl rfl)
theorem dX1_put_28 : decode cX1_put 28 = .ok (.iload_n 3, 1) := dk_29 (dk_at dksX1_put_1 4 rfl rfl)
theorem dX1_put_29 : decode cX1_put 29 = .ok (.iastore, 1) := dk_79 (dk_at dksX1_put_1 5 rfl rfl)
theorem dX1_put_30 : decode cX1_put 30 = .ok (.dup, 1) := dk_89 (dk_at dksX1_put_1 6 rfl rfl)
theorem dX1_put_31 : decode cX1_put 31 = .ok (.iconst 3, 1) := dk_6 (dk_at dksX1_put_1 7 rfl rfl)
theorem dX1_put_32 : decode cX1_put 32 = .ok (.iload 4, 2) := dk_21 4 (dk_at dksX1_put_1 8 rfl rfl)
theorem dX1_put_34 : decode cX1_put 34 = .ok (.iastore, 1) := dk_79 (dk_at dksX1_put_1 10 rfl rfl)
theorem dX1_put_35 : decode cX1_put 35 = .ok (.astore 5, 2) := dk_58 5 (dk_at dksX1_put_1 11 rfl rfl)
theorem dX1_put_37 : decode cX1_put 37 = .ok (.aload 5, 2) := dk_25 5 (dk_at dksX1_put_1 13 rfl rfl)
theorem dX1_put_39 : decode cX1_put 39 = .ok (.astore 6, 2) := dk_58 6 (dk_at dksX1_put_1 15 rfl rfl)
theorem dX1_put_41 : decode cX1_put 41 = .ok (.aload 6, 2) := dk_25 6 (dk_at dksX1_put_1 17 rfl rfl)
theorem dX1_put_43 : decode cX1_put 43 = .ok (.arraylength, 1) := dk_190 (dk_at dksX1_put_1 19 rfl rfl)
theorem dX1_put_44 : decode cX1_put 44 = .ok (.istore 7, 2) := dk_54 7 (dk_at dksX1_put_1 20 rfl rfl)
theorem dX1_put_46 : decode cX1_put 46 = .ok (.iconst 0, 1) := dk_3 (dk_at dksX1_put_1 22 rfl rfl)
theorem dX1_put_47 : decode cX1_put 47 = .ok (.istore 8, 2) := dk_54 8 (dk_at dksX1_put_2 0 rfl rfl)
theorem dX1_put_49 : decode cX1_put 49 = .ok (.iload 8, 2) := dk_21 8 (dk_at dksX1_put_2 2 rfl rfl)
theorem dX1_put_51 : decode cX1_put 51 = .ok (.iload 7, 2) := dk_21 7 (dk_at dksX1_put_2 4 rfl rfl)
theorem dX1_put_53 : decode cX1_put 53 = .ok (.if_icmp .ge 61, 3) := dk_162 0 61 (dk_at dksX1_put_2 6 rfl rfl)
theorem dX1_put_56 : decode cX1_put 56 = .ok (.aload 6, 2) := dk_25 6 (dk_at dksX1_put_2 9 rfl rfl)
theorem dX1_put_58 : decode cX1_put 58 = .ok (.iload 8, 2) := dk_21 8 (dk_at dksX1_put_2 11 rfl rfl)
theorem dX1_put_60 : decode cX1_put 60 = .ok (.iaload, 1) := dk_46 (dk_at dksX1_put_2 13 rfl rfl)
theorem dX1_put_61 : decode cX1_put 61 = .ok (.istore 9, 2) := dk_54 9 (dk_at dksX1_put_2 14 rfl rfl)
theorem dX1_put_63 : decode cX1_put 63 = .ok (.iconst 3, 1) := dk_6 (dk_at dksX1_put_2 16 rfl rfl)
theorem dX1_put_64 : decode cX1_put 64 = .ok (.istore 10, 2) := dk_54 10 (dk_at dksX1_put_2 17 rfl rfl)
theorem dX1_put_66 : decode cX1_put 66 = .ok (.iload 10, 2) := dk_21 10 (dk_at dksX1_put_2 19 rfl rfl)
theorem dX1_put_68 : decode cX1_put 68 = .ok (.ifCond .lt 40, 3) := dk_155 0 40 (dk_at dksX1_put_2 21 rfl rfl)
theorem dX1_put_71 : decode cX1_put 71 = .ok (.aload_n 0, 1) := dk_42 (dk_at dksX1_put_3 0 rfl rfl)
theorem dX1_put_72 : decode cX1_put 72 = .ok (.getfield 9, 3) := dk_180 0 9 (dk_at dksX1_put_3 1 rfl rfl)
theorem dX1_put_75 : decode cX1_put 75 = .ok (.aload_n 0, 1) := dk_42 (dk_at dksX1_put_3 4 rfl rfl)
theorem dX1_put_76 : decode cX1_put 76 = .ok (.getfield 16, 3) := dk_180 0 16 (dk_at dksX1_put_3 5 rfl rfl)
theorem dX1_put_79 : decode cX1_put 79 = .ok (.iload 9, 2) := dk_21 9 (dk_at dksX1_put_3 8 rfl rfl)
theorem dX1_put_81 : decode cX1_put 81 = .ok (.bipush 8, 2) := dk_16 8 (dk_at dksX1_put_3 10 rfl rfl)
theorem dX1_put_83 : decode cX1_put 83 = .ok (.iload 10, 2) := dk_21 10 (dk_at dksX1_put_3 12 rfl rfl)
theorem dX1_put_85 : decode cX1_put 85 = .ok (.imul, 1) := dk_104 (dk_at dksX1_put_3 14 rfl rfl)
theorem dX1_put_86 : decode cX1_put 86 = .ok (.iushr, 1) := dk_124 (dk_at dksX1_put_3 15 rfl rfl)
theorem dX1_put_87 : decode cX1_put 87 = .ok (.sipush 255, 3) := dk_17 0 255 (dk_at dksX1_put_3 16 rfl rfl)
theorem dX1_put_90 : decode cX1_put 90 = .ok (.iand, 1) := dk_126 (dk_at dksX1_put_3 19 rfl rfl)
theorem dX1_put_91 : decode cX1_put 91 = .ok (.iastore, 1) := dk_79 (dk_at dksX1_put_3 20 rfl rfl)
theorem dX1_put_92 : decode cX1_put 92 = .ok (.aload_n 0, 1) := dk_42 (dk_at dksX1_put_3 21 rfl rfl)
theorem dX1_put_93 : decode cX1_put 93 = .ok (.dup, 1) := dk_89 (dk_at dksX1_put_3 22 rfl rfl)
theorem dX1_put_94 : decode cX1_put 94 = .ok (.getfield 16, 3) := dk_180 0 16 (dk_at dksX1_put_4 0 rfl rfl)
theorem dX1_put_97 : decode cX1_put 97 = .ok (.iconst 1, 1) := dk_4 (dk_at dksX1_put_4 3 rfl rfl)
theorem dX1_put_98 : decode cX1_put 98 = .ok (.iadd, 1) := dk_96 (dk_at dksX1_put_4 4 rfl rfl)
theorem dX1_put_99 : decode cX1_put 99 = .ok (.putfield 16, 3) := dk_181 0 16 (dk_at dksX1_put_4 5 rfl rfl)
theorem dX1_put_102 : decode cX1_put 102 = .ok (.iinc 10 (-1), 3) := dk_132 10 255 (dk_at dksX1_put_4 8 rfl rfl)
theorem dX1_put_105 : decode cX1_put 105 = .ok (.goto (-39), 3) := dk_167 255 217 (dk_at dksX1_put_4 11 rfl rfl)
theorem dX1_put_108 : decode cX1_put 108 = .ok (.iinc 8 1, 3) := dk_132 8 1 (dk_at dksX1_put_4 14 rfl rfl)
theorem dX1_put_111 : decode cX1_put 111 = .ok (.goto (-62), 3) := dk_167 255 194 (dk_at dksX1_put_4 17 rfl rfl)
theorem dX1_put_114 : decode cX1_put 114 = .ok (.iconst 1, 1) := dk_4 (dk_at dksX1_put_4 20 rfl rfl)
theorem dX1_put_115 : decode cX1_put 115 = .ok (.ireturn, 1) := dk_172 (dk_at dksX1_put_4 21 rfl rfl)
abbrev cX1_trim : ByteArray := prog_4_method_4_code
def yX1_trim : MethodName := ⟨RX1, "trim", "(I)V"⟩
def dkwX1_trim_0 : List UInt8 := [42, 42, 27, 182, 0, 21, 181, 0, 16, 177]
abbrev dktX1_trim_0 : List UInt8 := dkwX1_trim_0 ++ []
theorem dksX1_trim_0 : cX1_trim.data.toList.drop 0 = dktX1_trim_0 := by decide +kernel
theorem dX1_trim_0 : decode cX1_trim 0 = .ok (.aload_n 0, 1) := dk_42 (dk_at dksX1_trim_0 0 rfl rfl)
theorem dX1_trim_1 : decode cX1_trim 1 = .ok (.aload_n 0, 1) := dk_42 (dk_at dksX1_trim_0 1 rfl rfl)
theorem dX1_trim_2 : decode cX1_trim 2 = .ok (.iload_n 1, 1) := dk_27 (dk_at dksX1_trim_0 2 rfl rfl)
theorem dX1_trim_3 : decode cX1_trim 3 = .ok (.invokevirtual 21, 3) := dk_182 0 21 (dk_at dksX1_trim_0 3 rfl rfl)
theorem dX1_trim_6 : decode cX1_trim 6 = .ok (.putfield 16, 3) := dk_181 0 16 (dk_at dksX1_trim_0 6 rfl rfl)
theorem dX1_trim_9 : decode cX1_trim 9 = .ok (.return_, 1) := dk_177 (dk_at dksX1_trim_0 9 rfl rfl)
abbrev cX1_begin : ByteArray := prog_4_method_3_code
def yX1_begin : MethodName := ⟨RX1, "begin", "(I)I"⟩
def dkwX1_begin_0 : List UInt8 := [27, 18, 20, 126, 42, 180, 0, 16, 4, 96, 112, 172]
abbrev dktX1_begin_0 : List UInt8 := dkwX1_begin_0 ++ []
theorem dksX1_begin_0 : cX1_begin.data.toList.drop 0 = dktX1_begin_0 := by decide +kernel
theorem dX1_begin_0 : decode cX1_begin 0 = .ok (.iload_n 1, 1) := dk_27 (dk_at dksX1_begin_0 0 rfl rfl)
theorem dX1_begin_1 : decode cX1_begin 1 = .ok (.ldc 20, 2) := dk_18 20 (dk_at dksX1_begin_0 1 rfl rfl)
theorem dX1_begin_3 : decode cX1_begin 3 = .ok (.iand, 1) := dk_126 (dk_at dksX1_begin_0 3 rfl rfl)
theorem dX1_begin_4 : decode cX1_begin 4 = .ok (.aload_n 0, 1) := dk_42 (dk_at dksX1_begin_0 4 rfl rfl)
theorem dX1_begin_5 : decode cX1_begin 5 = .ok (.getfield 16, 3) := dk_180 0 16 (dk_at dksX1_begin_0 5 rfl rfl)
theorem dX1_begin_8 : decode cX1_begin 8 = .ok (.iconst 1, 1) := dk_4 (dk_at dksX1_begin_0 8 rfl rfl)
theorem dX1_begin_9 : decode cX1_begin 9 = .ok (.iadd, 1) := dk_96 (dk_at dksX1_begin_0 9 rfl rfl)
theorem dX1_begin_10 : decode cX1_begin 10 = .ok (.irem, 1) := dk_112 (dk_at dksX1_begin_0 10 rfl rfl)
theorem dX1_begin_11 : decode cX1_begin 11 = .ok (.ireturn, 1) := dk_172 (dk_at dksX1_begin_0 11 rfl rfl)
abbrev cX1_turn : ByteArray := prog_4_method_8_code
def yX1_turn : MethodName := ⟨RX1, "turn", "(III)I"⟩
def dkwX1_turn_9 : List UInt8 := [162, 0, 21, 42, 180, 0, 13, 21, 10, 25, 6, 21, 10, 46, 79, 132, 10, 1, 167, 255, 234, 21, 7, 172]
abbrev dktX1_turn_9 : List UInt8 := dkwX1_turn_9 ++ []
def dkwX1_turn_8 : List UInt8 := [188, 10, 181, 0, 13, 2, 172, 42, 21, 7, 188, 10, 181, 0, 13, 3, 54, 10, 21, 10, 21, 7]
abbrev dktX1_turn_8 : List UInt8 := dkwX1_turn_8 ++ dktX1_turn_9
def dkwX1_turn_7 : List UInt8 := [167, 255, 137, 21, 9, 153, 0, 16, 21, 7, 29, 18, 20, 126, 17, 0, 161, 112, 164, 0, 12, 42, 3]
abbrev dktX1_turn_7 : List UInt8 := dkwX1_turn_7 ++ dktX1_turn_8
def dkwX1_turn_6 : List UInt8 := [21, 9, 153, 0, 13, 25, 6, 21, 7, 21, 11, 79, 132, 7, 1, 21, 8, 21, 10, 96, 54, 8]
abbrev dktX1_turn_6 : List UInt8 := dkwX1_turn_6 ++ dktX1_turn_7
def dkwX1_turn_5 : List UInt8 := [21, 7, 4, 96, 18, 39, 21, 11, 18, 38, 100, 17, 4, 0, 112, 96, 79, 132, 7, 2, 167, 0, 18]
abbrev dktX1_turn_5 : List UInt8 := dkwX1_turn_5 ++ dktX1_turn_6
def dkwX1_turn_4 : List UInt8 := [18, 36, 164, 0, 45, 25, 6, 21, 7, 18, 37, 21, 11, 18, 38, 100, 17, 4, 0, 108, 96, 79, 25, 6]
abbrev dktX1_turn_4 : List UInt8 := dkwX1_turn_4 ++ dktX1_turn_5
def dkwX1_turn_3 : List UInt8 := [21, 5, 21, 10, 182, 0, 32, 54, 11, 21, 11, 155, 0, 7, 4, 167, 0, 4, 3, 54, 9, 21, 11]
abbrev dktX1_turn_3 : List UInt8 := dkwX1_turn_3 ++ dktX1_turn_4
def dkwX1_turn_2 : List UInt8 := [162, 0, 118, 21, 9, 153, 0, 113, 42, 180, 0, 9, 21, 8, 46, 184, 0, 29, 54, 10, 42, 21, 8]
abbrev dktX1_turn_2 : List UInt8 := dkwX1_turn_2 ++ dktX1_turn_3
def dkwX1_turn_1 : List UInt8 := [54, 5, 17, 1, 0, 188, 10, 58, 6, 3, 54, 7, 21, 4, 54, 8, 4, 54, 9, 21, 8, 21, 5]
abbrev dktX1_turn_1 : List UInt8 := dkwX1_turn_1 ++ dktX1_turn_2
def dkwX1_turn_0 : List UInt8 := [42, 27, 182, 0, 21, 54, 4, 21, 4, 28, 18, 20, 126, 42, 180, 0, 16, 21, 4, 100, 4, 96, 112, 96]
abbrev dktX1_turn_0 : List UInt8 := dkwX1_turn_0 ++ dktX1_turn_1
theorem dksX1_turn_0 : cX1_turn.data.toList.drop 0 = dktX1_turn_0 := by decide +kernel
theorem dksX1_turn_1 : cX1_turn.data.toList.drop 24 = dktX1_turn_1 := dk_seg dksX1_turn_0 24 rfl rfl
theorem dksX1_turn_2 : cX1_turn.data.toList.drop 47 = dktX1_turn_2 := dk_seg dksX1_turn_1 23 rfl rfl
theorem dksX1_turn_3 : cX1_turn.data.toList.drop 70 = dktX1_turn_3 := dk_seg dksX1_turn_2 23 rfl rfl
theorem dksX1_turn_4 : cX1_turn.data.toList.drop 93 = dktX1_turn_4 := dk_seg dksX1_turn_3 23 rfl rfl
theorem dksX1_turn_5 : cX1_turn.data.toList.drop 117 = dktX1_turn_5 := dk_seg dksX1_turn_4 24 rfl rfl
theorem dksX1_turn_6 : cX1_turn.data.toList.drop 140 = dktX1_turn_6 := dk_seg dksX1_turn_5 23 rfl rfl
theorem dksX1_turn_7 : cX1_turn.data.toList.drop 162 = dktX1_turn_7 := dk_seg dksX1_turn_6 22 rfl rfl
theorem dksX1_turn_8 : cX1_turn.data.toList.drop 185 = dktX1_turn_8 := dk_seg dksX1_turn_7 23 rfl rfl
theorem dksX1_turn_9 : cX1_turn.data.toList.drop 207 = dktX1_turn_9 := dk_seg dksX1_turn_8 22 rfl rfl
theorem dX1_turn_0 : decode cX1_turn 0 = .ok (.aload_n 0, 1) := dk_42 (dk_at dksX1_turn_0 0 rfl rfl)
theorem dX1_turn_1 : decode cX1_turn 1 = .ok (.iload_n 1, 1) := dk_27 (dk_at dksX1_turn_0 1 rfl rfl)
theorem dX1_turn_2 : decode cX1_turn 2 = .ok (.invokevirtual 21, 3) := dk_182 0 21 (dk_at dksX1_turn_0 2 rfl rfl)
theorem dX1_turn_5 : decode cX1_turn 5 = .ok (.istore 4, 2) := dk_54 4 (dk_at dksX1_turn_0 5 rfl rfl)
theorem dX1_turn_7 : decode cX1_turn 7 = .ok (.iload 4, 2) := dk_21 4 (dk_at dksX1_turn_0 7 rfl rfl)
theorem dX1_turn_9 : decode cX1_turn 9 = .ok (.iload_n 2, 1) := dk_28 (dk_at dksX1_turn_0 9 rfl rfl)
theorem dX1_turn_10 : decode cX1_turn 10 = .ok (.ldc 20, 2) := dk_18 20 (dk_at dksX1_turn_0 10 rfl rfl)
theorem dX1_turn_12 : decode cX1_turn 12 = .ok (.iand, 1) := dk_126 (dk_at dksX1_turn_0 12 rfl rfl)
theorem dX1_turn_13 : decode cX1_turn 13 = .ok (.aload_n 0, 1) := dk_42 (dk_at dksX1_turn_0 13 rfl rfl)
theorem dX1_turn_14 : decode cX1_turn 14 = .ok (.getfield 16, 3) := dk_180 0 16 (dk_at dksX1_turn_0 14 rfl rfl)
theorem dX1_turn_17 : decode cX1_turn 17 = .ok (.iload 4, 2) := dk_21 4 (dk_at dksX1_turn_0 17 rfl rfl)
theorem dX1_turn_19 : decode cX1_turn 19 = .ok (.isub, 1) := dk_100 (dk_at dksX1_turn_0 19 rfl rfl)
theorem dX1_turn_20 : decode cX1_turn 20 = .ok (.iconst 1, 1) := dk_4 (dk_at dksX1_turn_0 20 rfl rfl)
theorem dX1_turn_21 : decode cX1_turn 21 = .ok (.iadd, 1) := dk_96 (dk_at dksX1_turn_0 21 rfl rfl)
theorem dX1_turn_22 : decode cX1_turn 22 = .ok (.irem, 1) := dk_112 (dk_at dksX1_turn_0 22 rfl rfl)
theorem dX1_turn_23 : decode cX1_turn 23 = .ok (.iadd, 1) := dk_96 (dk_at dksX1_turn_0 23 rfl rfl)
theorem dX1_turn_24 : decode cX1_turn 24 = .ok (.istore 5, 2) := dk_54 5 (dk_at dksX1_turn_1 0 rfl rfl)
theorem dX1_turn_26 : decode cX1_turn 26 = .ok (.sipush 256, 3) := dk_17 1 0 (dk_at dksX1_turn_1 2 rfl rfl)
theorem dX1_turn_29 : decode cX1_turn 29 = .ok (.newarray .int, 2) := dk_188_10 (dk_at dksX1_turn_1 5 rfl rfl)
theorem dX1_turn_31 : decode cX1_turn 31 = .ok (.astore 6, 2) := dk_58 6 (dk_at dksX1_turn_1 7 rfl rfl)
theorem dX1_turn_33 : decode cX1_turn 33 = .ok (.iconst 0, 1) := dk_3 (dk_at dksX1_turn_1 9 rfl rfl)
theorem dX1_turn_34 : decode cX1_turn 34 = .ok (.istore 7, 2) := dk_54 7 (dk_at dksX1_turn_1 10 rfl rfl)
theorem dX1_turn_36 : decode cX1_turn 36 = .ok (.iload 4, 2) := dk_21 4 (dk_at dksX1_turn_1 12 rfl rfl)
theorem dX1_turn_38 : decode cX1_turn 38 = .ok (.istore 8, 2) := dk_54 8 (dk_at dksX1_turn_1 14 rfl rfl)
theorem dX1_turn_40 : decode cX1_turn 40 = .ok (.iconst 1, 1) := dk_4 (dk_at dksX1_turn_1 16 rfl rfl)
theorem dX1_turn_41 : decode cX1_turn 41 = .ok (.istore 9, 2) := dk_54 9 (dk_at dksX1_turn_1 17 rfl rfl)
theorem dX1_turn_43 : decode cX1_turn 43 = .ok (.iload 8, 2) := dk_21 8 (dk_at dksX1_turn_1 19 rfl rfl)
theorem dX1_turn_45 : decode cX1_turn 45 = .ok (.iload 5, 2) := dk_21 5 (dk_at dksX1_turn_1 21 rfl rfl)
theorem dX1_turn_47 : decode cX1_turn 47 = .ok (.if_icmp .ge 118, 3) := dk_162 0 118 (dk_at dksX1_turn_2 0 rfl rfl)
theorem dX1_turn_50 : decode cX1_turn 50 = .ok (.iload 9, 2) := dk_21 9 (dk_at dksX1_turn_2 3 rfl rfl)
theorem dX1_turn_52 : decode cX1_turn 52 = .ok (.ifCond .eq 113, 3) := dk_153 0 113 (dk_at dksX1_turn_2 5 rfl rfl)
theorem dX1_turn_55 : decode cX1_turn 55 = .ok (.aload_n 0, 1) := dk_42 (dk_at dksX1_turn_2 8 rfl rfl)
theorem dX1_turn_56 : decode cX1_turn 56 = .ok (.getfield 9, 3) := dk_180 0 9 (dk_at dksX1_turn_2 9 rfl rfl)
theorem dX1_turn_59 : decode cX1_turn 59 = .ok (.iload 8, 2) := dk_21 8 (dk_at dksX1_turn_2 12 rfl rfl)
theorem dX1_turn_61 : decode cX1_turn 61 = .ok (.iaload, 1) := dk_46 (dk_at dksX1_turn_2 14 rfl rfl)
theorem dX1_turn_62 : decode cX1_turn 62 = .ok (.invokestatic 29, 3) := dk_184 0 29 (dk_at dksX1_turn_2 15 rfl rfl)
theorem dX1_turn_65 : decode cX1_turn 65 = .ok (.istore 10, 2) := dk_54 10 (dk_at dksX1_turn_2 18 rfl rfl)
theorem dX1_turn_67 : decode cX1_turn 67 = .ok (.aload_n 0, 1) := dk_42 (dk_at dksX1_turn_2 20 rfl rfl)
theorem dX1_turn_68 : decode cX1_turn 68 = .ok (.iload 8, 2) := dk_21 8 (dk_at dksX1_turn_2 21 rfl rfl)
theorem dX1_turn_70 : decode cX1_turn 70 = .ok (.iload 5, 2) := dk_21 5 (dk_at dksX1_turn_3 0 rfl rfl)
theorem dX1_turn_72 : decode cX1_turn 72 = .ok (.iload 10, 2) := dk_21 10 (dk_at dksX1_turn_3 2 rfl rfl)
theorem dX1_turn_74 : decode cX1_turn 74 = .ok (.invokevirtual 32, 3) := dk_182 0 32 (dk_at dksX1_turn_3 4 rfl rfl)
theorem dX1_turn_77 : decode cX1_turn 77 = .ok (.istore 11, 2) := dk_54 11 (dk_at dksX1_turn_3 7 rfl rfl)
theorem dX1_turn_79 : decode cX1_turn 79 = .ok (.iload 11, 2) := dk_21 11 (dk_at dksX1_turn_3 9 rfl rfl)
theorem dX1_turn_81 : decode cX1_turn 81 = .ok (.ifCond .lt 7, 3) := dk_155 0 7 (dk_at dksX1_turn_3 11 rfl rfl)
theorem dX1_turn_84 : decode cX1_turn 84 = .ok (.iconst 1, 1) := dk_4 (dk_at dksX1_turn_3 14 rfl rfl)
theorem dX1_turn_85 : decode cX1_turn 85 = .ok (.goto 4, 3) := dk_167 0 4 (dk_at dksX1_turn_3 15 rfl rfl)
theorem dX1_turn_88 : decode cX1_turn 88 = .ok (.iconst 0, 1) := dk_3 (dk_at dksX1_turn_3 18 rfl rfl)
theorem dX1_turn_89 : decode cX1_turn 89 = .ok (.istore 9, 2) := dk_54 9 (dk_at dksX1_turn_3 19 rfl rfl)
theorem dX1_turn_91 : decode cX1_turn 91 = .ok (.iload 11, 2) := dk_21 11 (dk_at dksX1_turn_3 21 rfl rfl)
theorem dX1_turn_93 : decode cX1_turn 93 = .ok (.ldc 36, 2) := dk_18 36 (dk_at dksX1_turn_4 0 rfl rfl)
theorem dX1_turn_95 : decode cX1_turn 95 = .ok (.if_icmp .le 45, 3) := dk_164 0 45 (dk_at dksX1_turn_4 2 rfl rfl)
theorem dX1_turn_98 : decode cX1_turn 98 = .ok (.aload 6, 2) := dk_25 6 (dk_at dksX1_turn_4 5 rfl rfl)
theorem dX1_turn_100 : decode cX1_turn 100 = .ok (.iload 7, 2) := dk_21 7 (dk_at dksX1_turn_4 7 rfl rfl)
theorem dX1_turn_102 : decode cX1_turn 102 = .ok (.ldc 37, 2) := dk_18 37 (dk_at dksX1_turn_4 9 rfl rfl)
theorem dX1_turn_104 : decode cX1_turn 104 = .ok (.iload 11, 2) := dk_21 11 (dk_at dksX1_turn_4 11 rfl rfl)
theorem dX1_turn_106 : decode cX1_turn 106 = .ok (.ldc 38, 2) := dk_18 38 (dk_at dksX1_turn_4 13 rfl rfl)
theorem dX1_turn_108 : decode cX1_turn 108 = .ok (.isub, 1) := dk_100 (dk_at dksX1_turn_4 15 rfl rfl)
theorem dX1_turn_109 : decode cX1_turn 109 = .ok (.sipush 1024, 3) := dk_17 4 0 (dk_at dksX1_turn_4 16 rfl rfl)
theorem dX1_turn_112 : decode cX1_turn 112 = .ok (.idiv, 1) := dk_108 (dk_at dksX1_turn_4 19 rfl rfl)
theorem dX1_turn_113 : decode cX1_turn 113 = .ok (.iadd, 1) := dk_96 (dk_at dksX1_turn_4 20 rfl rfl)
theorem dX1_turn_114 : decode cX1_turn 114 = .ok (.iastore, 1) := dk_79 (dk_at dksX1_turn_4 21 rfl rfl)
theorem dX1_turn_115 : decode cX1_turn 115 = .ok (.aload 6, 2) := dk_25 6 (dk_at dksX1_turn_4 22 rfl rfl)
theorem dX1_turn_117 : decode cX1_turn 117 = .ok (.iload 7, 2) := dk_21 7 (dk_at dksX1_turn_5 0 rfl rfl)
theorem dX1_turn_119 : decode cX1_turn 119 = .ok (.iconst 1, 1) := dk_4 (dk_at dksX1_turn_5 2 rfl rfl)
theorem dX1_turn_120 : decode cX1_turn 120 = .ok (.iadd, 1) := dk_96 (dk_at dksX1_turn_5 3 rfl rfl)
theorem dX1_turn_121 : decode cX1_turn 121 = .ok (.ldc 39, 2) := dk_18 39 (dk_at dksX1_turn_5 4 rfl rfl)
theorem dX1_turn_123 : decode cX1_turn 123 = .ok (.iload 11, 2) := dk_21 11 (dk_at dksX1_turn_5 6 rfl rfl)
theorem dX1_turn_125 : decode cX1_turn 125 = .ok (.ldc 38, 2) := dk_18 38 (dk_at dksX1_turn_5 8 rfl rfl)
theorem dX1_turn_127 : decode cX1_turn 127 = .ok (.isub, 1) := dk_100 (dk_at dksX1_turn_5 10 rfl rfl)
theorem dX1_turn_128 : decode cX1_turn 128 = .ok (.sipush 1024, 3) := dk_17 4 0 (dk_at dksX1_turn_5 11 rfl rfl)
theorem dX1_turn_131 : decode cX1_turn 131 = .ok (.irem, 1) := dk_112 (dk_at dksX1_turn_5 14 rfl rfl)
theorem dX1_turn_132 : decode cX1_turn 132 = .ok (.iadd, 1) := dk_96 (dk_at dksX1_turn_5 15 rfl rfl)
theorem dX1_turn_133 : decode cX1_turn 133 = .ok (.iastore, 1) := dk_79 (dk_at dksX1_turn_5 16 rfl rfl)
theorem dX1_turn_134 : decode cX1_turn 134 = .ok (.iinc 7 2, 3) := dk_132 7 2 (dk_at dksX1_turn_5 17 rfl rfl)
theorem dX1_turn_137 : decode cX1_turn 137 = .ok (.goto 18, 3) := dk_167 0 18 (dk_at dksX1_turn_5 20 rfl rfl)
theorem dX1_turn_140 : decode cX1_turn 140 = .ok (.iload 9, 2) := dk_21 9 (dk_at dksX1_turn_6 0 rfl rfl)
theorem dX1_turn_142 : decode cX1_turn 142 = .ok (.ifCond .eq 13, 3) := dk_153 0 13 (dk_at dksX1_turn_6 2 rfl rfl)
theorem dX1_turn_145 : decode cX1_turn 145 = .ok (.aload 6, 2) := dk_25 6 (dk_at dksX1_turn_6 5 rfl rfl)
theorem dX1_turn_147 : decode cX1_turn 147 = .ok (.iload 7, 2) := dk_21 7 (dk_at dksX1_turn_6 7 rfl rfl)
theorem dX1_turn_149 : decode cX1_turn 149 = .ok (.iload 11, 2) := dk_21 11 (dk_at dksX1_turn_6 9 rfl rfl)
theorem dX1_turn_151 : decode cX1_turn 151 = .ok (.iastore, 1) := dk_79 (dk_at dksX1_turn_6 11 rfl rfl)
theorem dX1_turn_152 : decode cX1_turn 152 = .ok (.iinc 7 1, 3) := dk_132 7 1 (dk_at dksX1_turn_6 12 rfl rfl)
theorem dX1_turn_155 : decode cX1_turn 155 = .ok (.iload 8, 2) := dk_21 8 (dk_at dksX1_turn_6 15 rfl rfl)
theorem dX1_turn_157 : decode cX1_turn 157 = .ok (.iload 10, 2) := dk_21 10 (dk_at dksX1_turn_6 17 rfl rfl)
theorem dX1_turn_159 : decode cX1_turn 159 = .ok (.iadd, 1) := dk_96 (dk_at dksX1_turn_6 19 rfl rfl)
theorem dX1_turn_160 : decode cX1_turn 160 = .ok (.istore 8, 2) := dk_54 8 (dk_at dksX1_turn_6 20 rfl rfl)
theorem dX1_turn_162 : decode cX1_turn 162 = .ok (.goto (-119), 3) := dk_167 255 137 (dk_at dksX1_turn_7 0 rfl rfl)
theorem dX1_turn_165 : decode cX1_turn 165 = .ok (.iload 9, 2) := dk_21 9 (dk_at dksX1_turn_7 3 rfl rfl)
theorem dX1_turn_167 : decode cX1_turn 167 = .ok (.ifCond .eq 16, 3) := dk_153 0 16 (dk_at dksX1_turn_7 5 rfl rfl)
theorem dX1_turn_170 : decode cX1_turn 170 = .ok (.iload 7, 2) := dk_21 7 (dk_at dksX1_turn_7 8 rfl rfl)
theorem dX1_turn_172 : decode cX1_turn 172 = .ok (.iload_n 3, 1) := dk_29 (dk_at dksX1_turn_7 10 rfl rfl)
theorem dX1_turn_173 : decode cX1_turn 173 = .ok (.ldc 20, 2) := dk_18 20 (dk_at dksX1_turn_7 11 rfl rfl)
theorem dX1_turn_175 : decode cX1_turn 175 = .ok (.iand, 1) := dk_126 (dk_at dksX1_turn_7 13 rfl rfl)
theorem dX1_turn_176 : decode cX1_turn 176 = .ok (.sipush 161, 3) := dk_17 0 161 (dk_at dksX1_turn_7 14 rfl rfl)
theorem dX1_turn_179 : decode cX1_turn 179 = .ok (.irem, 1) := dk_112 (dk_at dksX1_turn_7 17 rfl rfl)
theorem dX1_turn_180 : decode cX1_turn 180 = .ok (.if_icmp .le 12, 3) := dk_164 0 12 (dk_at dksX1_turn_7 18 rfl rfl)
theorem dX1_turn_183 : decode cX1_turn 183 = .ok (.aload_n 0, 1) := dk_42 (dk_at dksX1_turn_7 21 rfl rfl)
theorem dX1_turn_184 : decode cX1_turn 184 = .ok (.iconst 0, 1) := dk_3 (dk_at dksX1_turn_7 22 rfl rfl)
theorem dX1_turn_185 : decode cX1_turn 185 = .ok (.newarray .int, 2) := dk_188_10 (dk_at dksX1_turn_8 0 rfl rfl)
theorem dX1_turn_187 : decode cX1_turn 187 = .ok (.putfield 13, 3) := dk_181 0 13 (dk_at dksX1_turn_8 2 rfl rfl)
theorem dX1_turn_190 : decode cX1_turn 190 = .ok (.iconst (-1), 1) := dk_2 (dk_at dksX1_turn_8 5 rfl rfl)
theorem dX1_turn_191 : decode cX1_turn 191 = .ok (.ireturn, 1) := dk_172 (dk_at dksX1_turn_8 6 rfl rfl)
theorem dX1_turn_192 : decode cX1_turn 192 = .ok (.aload_n 0, 1) := dk_42 (dk_at dksX1_turn_8 7 rfl rfl)
theorem dX1_turn_193 : decode cX1_turn 193 = .ok (.iload 7, 2) := dk_21 7 (dk_at dksX1_turn_8 8 rfl rfl)
theorem dX1_turn_195 : decode cX1_turn 195 = .ok (.newarray .int, 2) := dk_188_10 (dk_at dksX1_turn_8 10 rfl rfl)
theorem dX1_turn_197 : decode cX1_turn 197 = .ok (.putfield 13, 3) := dk_181 0 13 (dk_at dksX1_turn_8 12 rfl rfl)
theorem dX1_turn_200 : decode cX1_turn 200 = .ok (.iconst 0, 1) := dk_3 (dk_at dksX1_turn_8 15 rfl rfl)
theorem dX1_turn_201 : decode cX1_turn 201 = .ok (.istore 10, 2) := dk_54 10 (dk_at dksX1_turn_8 16 rfl rfl)
theorem dX1_turn_203 : decode cX1_turn 203 = .ok (.iload 10, 2) := dk_21 10 (dk_at dksX1_turn_8 18 rfl rfl)
theorem dX1_turn_205 : decode cX1_turn 205 = .ok (.iload 7, 2) := dk_21 7 (dk_at dksX1_turn_8 20 rfl rfl)
theorem dX1_turn_207 : decode cX1_turn 207 = .ok (.if_icmp .ge 21, 3) := dk_162 0 21 (dk_at dksX1_turn_9 0 rfl rfl)
theorem dX1_turn_210 : decode cX1_turn 210 = .ok (.aload_n 0, 1) := dk_42 (dk_at dksX1_turn_9 3 rfl rfl)
theorem dX1_turn_211 : decode cX1_turn 211 = .ok (.getfield 13, 3) := dk_180 0 13 (dk_at dksX1_turn_9 4 rfl rfl)
theorem dX1_turn_214 : decode cX1_turn 214 = .ok (.iload 10, 2) := dk_21 10 (dk_at dksX1_turn_9 7 rfl rfl)
theorem dX1_turn_216 : decode cX1_turn 216 = .ok (.aload 6, 2) := dk_25 6 (dk_at dksX1_turn_9 9 rfl rfl)
theorem dX1_turn_218 : decode cX1_turn 218 = .ok (.iload 10, 2) := dk_21 10 (dk_at dksX1_turn_9 11 rfl rfl)
theorem dX1_turn_220 : decode cX1_turn 220 = .ok (.iaload, 1) := dk_46 (dk_at dksX1_turn_9 13 rfl rfl)
theorem dX1_turn_221 : decode cX1_turn 221 = .ok (.iastore, 1) := dk_79 (dk_at dksX1_turn_9 14 rfl rfl)
theorem dX1_turn_222 : decode cX1_turn 222 = .ok (.iinc 10 1, 3) := dk_132 10 1 (dk_at dksX1_turn_9 15 rfl rfl)
theorem dX1_turn_225 : decode cX1_turn 225 = .ok (.goto (-22), 3) := dk_167 255 234 (dk_at dksX1_turn_9 18 rfl rfl)
theorem dX1_turn_228 : decode cX1_turn 228 = .ok (.iload 7, 2) := dk_21 7 (dk_at dksX1_turn_9 21 rfl rfl)
theorem dX1_turn_230 : decode cX1_turn 230 = .ok (.ireturn, 1) := dk_172 (dk_at dksX1_turn_9 23 rfl rfl)
abbrev cX1_many : ByteArray := prog_4_method_5_code
def yX1_many : MethodName := ⟨RX1, "many", "(I)I"⟩
def dkwX1_many_2 : List UInt8 := [172]
abbrev dktX1_many_2 : List UInt8 := dkwX1_many_2 ++ []
def dkwX1_many_1 : List UInt8 := [172, 26, 17, 0, 224, 162, 0, 7, 5, 167, 0, 15, 26, 17, 0, 240, 162, 0, 7, 6, 167, 0, 4, 7]
abbrev dktX1_many_1 : List UInt8 := dkwX1_many_1 ++ dktX1_many_2
def dkwX1_many_0 : List UInt8 := [26, 17, 0, 128, 162, 0, 5, 4, 172, 26, 17, 0, 194, 161, 0, 10, 26, 17, 0, 244, 164, 0, 5, 3]
abbrev dktX1_many_0 : List UInt8 := dkwX1_many_0 ++ dktX1_many_1
theorem dksX1_many_0 : cX1_many.data.toList.drop 0 = dktX1_many_0 := by decide +kernel
theorem dksX1_many_1 : cX1_many.data.toList.drop 24 = dktX1_many_1 := dk_seg dksX1_many_0 24 rfl rfl
theorem dksX1_many_2 : cX1_many.data.toList.drop 48 = dktX1_many_2 := dk_seg dksX1_many_1 24 rfl rfl
theorem dX1_many_0 : decode cX1_many 0 = .ok (.iload_n 0, 1) := dk_26 (dk_at dksX1_many_0 0 rfl rfl)
theorem dX1_many_1 : decode cX1_many 1 = .ok (.sipush 128, 3) := dk_17 0 128 (dk_at dksX1_many_0 1 rfl rfl)
theorem dX1_many_4 : decode cX1_many 4 = .ok (.if_icmp .ge 5, 3) := dk_162 0 5 (dk_at dksX1_many_0 4 rfl rfl)
theorem dX1_many_7 : decode cX1_many 7 = .ok (.iconst 1, 1) := dk_4 (dk_at dksX1_many_0 7 rfl rfl)
theorem dX1_many_8 : decode cX1_many 8 = .ok (.ireturn, 1) := dk_172 (dk_at dksX1_many_0 8 rfl rfl)
theorem dX1_many_9 : decode cX1_many 9 = .ok (.iload_n 0, 1) := dk_26 (dk_at dksX1_many_0 9 rfl rfl)
theorem dX1_many_10 : decode cX1_many 10 = .ok (.sipush 194, 3) := dk_17 0 194 (dk_at dksX1_many_0 10 rfl rfl)
theorem dX1_many_13 : decode cX1_many 13 = .ok (.if_icmp .lt 10, 3) := dk_161 0 10 (dk_at dksX1_many_0 13 rfl rfl)
theorem dX1_many_16 : decode cX1_many 16 = .ok (.iload_n 0, 1) := dk_26 (dk_at dksX1_many_0 16 rfl rfl)
theorem dX1_many_17 : decode cX1_many 17 = .ok (.sipush 244, 3) := dk_17 0 244 (dk_at dksX1_many_0 17 rfl rfl)
theorem dX1_many_20 : decode cX1_many 20 = .ok (.if_icmp .le 5, 3) := dk_164 0 5 (dk_at dksX1_many_0 20 rfl rfl)
theorem dX1_many_23 : decode cX1_many 23 = .ok (.iconst 0, 1) := dk_3 (dk_at dksX1_many_0 23 rfl rfl)
theorem dX1_many_24 : decode cX1_many 24 = .ok (.ireturn, 1) := dk_172 (dk_at dksX1_many_1 0 rfl rfl)
theorem dX1_many_25 : decode cX1_many 25 = .ok (.iload_n 0, 1) := dk_26 (dk_at dksX1_many_1 1 rfl rfl)
theorem dX1_many_26 : decode cX1_many 26 = .ok (.sipush 224, 3) := dk_17 0 224 (dk_at dksX1_many_1 2 rfl rfl)
theorem dX1_many_29 : decode cX1_many 29 = .ok (.if_icmp .ge 7, 3) := dk_162 0 7 (dk_at dksX1_many_1 5 rfl rfl)
theorem dX1_many_32 : decode cX1_many 32 = .ok (.iconst 2, 1) := dk_5 (dk_at dksX1_many_1 8 rfl rfl)
theorem dX1_many_33 : decode cX1_many 33 = .ok (.goto 15, 3) := dk_167 0 15 (dk_at dksX1_many_1 9 rfl rfl)
theorem dX1_many_36 : decode cX1_many 36 = .ok (.iload_n 0, 1) := dk_26 (dk_at dksX1_many_1 12 rfl rfl)
theorem dX1_many_37 : decode cX1_many 37 = .ok (.sipush 240, 3) := dk_17 0 240 (dk_at dksX1_many_1 13 rfl rfl)
theorem dX1_many_40 : decode cX1_many 40 = .ok (.if_icmp .ge 7, 3) := dk_162 0 7 (dk_at dksX1_many_1 16 rfl rfl)
theorem dX1_many_43 : decode cX1_many 43 = .ok (.iconst 3, 1) := dk_6 (dk_at dksX1_many_1 19 rfl rfl)
theorem dX1_many_44 : decode cX1_many 44 = .ok (.goto 4, 3) := dk_167 0 4 (dk_at dksX1_many_1 20 rfl rfl)
theorem dX1_many_47 : decode cX1_many 47 = .ok (.iconst 4, 1) := dk_7 (dk_at dksX1_many_1 23 rfl rfl)
theorem dX1_many_48 : decode cX1_many 48 = .ok (.ireturn, 1) := dk_172 (dk_at dksX1_many_2 0 rfl rfl)
abbrev cX1_letterAt : ByteArray := prog_4_method_7_code
def yX1_letterAt : MethodName := ⟨RX1, "letterAt", "(III)I"⟩
def dkwX1_letterAt_5 : List UInt8 := [104, 21, 7, 96, 17, 0, 128, 100, 54, 5, 132, 6, 1, 167, 255, 204, 21, 5, 172]
abbrev dktX1_letterAt_5 : List UInt8 := dkwX1_letterAt_5 ++ []
def dkwX1_letterAt_4 : List UInt8 := [54, 7, 21, 7, 17, 0, 128, 161, 0, 11, 21, 7, 17, 0, 191, 164, 0, 5, 2, 172, 16, 64, 21, 5]
abbrev dktX1_letterAt_4 : List UInt8 := dkwX1_letterAt_4 ++ dktX1_letterAt_5
def dkwX1_letterAt_3 : List UInt8 := [17, 0, 240, 100, 54, 5, 4, 54, 6, 21, 6, 29, 162, 0, 52, 42, 180, 0, 9, 27, 21, 6, 96, 46]
abbrev dktX1_letterAt_3 : List UInt8 := dkwX1_letterAt_3 ++ dktX1_letterAt_4
def dkwX1_letterAt_2 : List UInt8 := [21, 4, 29, 5, 160, 0, 9, 17, 0, 192, 167, 0, 17, 29, 6, 160, 0, 9, 17, 0, 224, 167, 0, 6]
abbrev dktX1_letterAt_2 : List UInt8 := dkwX1_letterAt_2 ++ dktX1_letterAt_3
def dkwX1_letterAt_1 : List UInt8 := [160, 0, 6, 21, 4, 172, 21, 4, 42, 180, 0, 9, 27, 4, 96, 46, 184, 0, 25, 154, 0, 5, 2, 172]
abbrev dktX1_letterAt_1 : List UInt8 := dkwX1_letterAt_1 ++ dktX1_letterAt_2
def dkwX1_letterAt_0 : List UInt8 := [29, 153, 0, 10, 27, 29, 96, 28, 164, 0, 5, 2, 172, 42, 180, 0, 9, 27, 46, 54, 4, 29, 4]
abbrev dktX1_letterAt_0 : List UInt8 := dkwX1_letterAt_0 ++ dktX1_letterAt_1
theorem dksX1_letterAt_0 : cX1_letterAt.data.toList.drop 0 = dktX1_letterAt_0 := by decide +kernel
theorem dksX1_letterAt_1 : cX1_letterAt.data.toList.drop 23 = dktX1_letterAt_1 := dk_seg dksX1_letterAt_0 23 rfl rfl
theorem dksX1_letterAt_2 : cX1_letterAt.data.toList.drop 47 = dktX1_letterAt_2 := dk_seg dksX1_letterAt_1 24 rfl rfl
theorem dksX1_letterAt_3 : cX1_letterAt.data.toList.drop 71 = dktX1_letterAt_3 := dk_seg dksX1_letterAt_2 24 rfl rfl
theorem dksX1_letterAt_4 : cX1_letterAt.data.toList.drop 95 = dktX1_letterAt_4 := dk_seg dksX1_letterAt_3 24 rfl rfl
theorem dksX1_letterAt_5 : cX1_letterAt.data.toList.drop 119 = dktX1_letterAt_5 := dk_seg dksX1_letterAt_4 24 rfl rfl
theorem dX1_letterAt_0 : decode cX1_letterAt 0 = .ok (.iload_n 3, 1) := dk_29 (dk_at dksX1_letterAt_0 0 rfl rfl)
theorem dX1_letterAt_1 : decode cX1_letterAt 1 = .ok (.ifCond .eq 10, 3) := dk_153 0 10 (dk_at dksX1_letterAt_0 1 rfl rfl)
theorem dX1_letterAt_4 : decode cX1_letterAt 4 = .ok (.iload_n 1, 1) := dk_27 (dk_at dksX1_letterAt_0 4 rfl rfl)
theorem dX1_letterAt_5 : decode cX1_letterAt 5 = .ok (.iload_n 3, 1) := dk_29 (dk_at dksX1_letterAt_0 5 rfl rfl)
theorem dX1_letterAt_6 : decode cX1_letterAt 6 = .ok (.iadd, 1) := dk_96 (dk_at dksX1_letterAt_0 6 rfl rfl)
theorem dX1_letterAt_7 : decode cX1_letterAt 7 = .ok (.iload_n 2, 1) := dk_28 (dk_at dksX1_letterAt_0 7 rfl rfl)
theorem dX1_letterAt_8 : decode cX1_letterAt 8 = .ok (.if_icmp .le 5, 3) := dk_164 0 5 (dk_at dksX1_letterAt_0 8 rfl rfl)
theorem dX1_letterAt_11 : decode cX1_letterAt 11 = .ok (.iconst (-1), 1) := dk_2 (dk_at dksX1_letterAt_0 11 rfl rfl)
theorem dX1_letterAt_12 : decode cX1_letterAt 12 = .ok (.ireturn, 1) := dk_172 (dk_at dksX1_letterAt_0 12 rfl rfl)
theorem dX1_letterAt_13 : decode cX1_letterAt 13 = .ok (.aload_n 0, 1) := dk_42 (dk_at dksX1_letterAt_0 13 rfl rfl)
theorem dX1_letterAt_14 : decode cX1_letterAt 14 = .ok (.getfield 9, 3) := dk_180 0 9 (dk_at dksX1_letterAt_0 14 rfl rfl)
theorem dX1_letterAt_17 : decode cX1_letterAt 17 = .ok (.iload_n 1, 1) := dk_27 (dk_at dksX1_letterAt_0 17 rfl rfl)
theorem dX1_letterAt_18 : decode cX1_letterAt 18 = .ok (.iaload, 1) := dk_46 (dk_at dksX1_letterAt_0 18 rfl rfl)
theorem dX1_letterAt_19 : decode cX1_letterAt 19 = .ok (.istore 4, 2) := dk_54 4 (dk_at dksX1_letterAt_0 19 rfl rfl)
theorem dX1_letterAt_21 : decode cX1_letterAt 21 = .ok (.iload_n 3, 1) := dk_29 (dk_at dksX1_letterAt_0 21 rfl rfl)
theorem dX1_letterAt_22 : decode cX1_letterAt 22 = .ok (.iconst 1, 1) := dk_4 (dk_at dksX1_letterAt_0 22 rfl rfl)
theorem dX1_letterAt_23 : decode cX1_letterAt 23 = .ok (.if_icmp .ne 6, 3) := dk_160 0 6 (dk_at dksX1_letterAt_1 0 rfl rfl)
theorem dX1_letterAt_26 : decode cX1_letterAt 26 = .ok (.iload 4, 2) := dk_21 4 (dk_at dksX1_letterAt_1 3 rfl rfl)
theorem dX1_letterAt_28 : decode cX1_letterAt 28 = .ok (.ireturn, 1) := dk_172 (dk_at dksX1_letterAt_1 5 rfl rfl)
theorem dX1_letterAt_29 : decode cX1_letterAt 29 = .ok (.iload 4, 2) := dk_21 4 (dk_at dksX1_letterAt_1 6 rfl rfl)
theorem dX1_letterAt_31 : decode cX1_letterAt 31 = .ok (.aload_n 0, 1) := dk_42 (dk_at dksX1_letterAt_1 8 rfl rfl)
theorem dX1_letterAt_32 : decode cX1_letterAt 32 = .ok (.getfield 9, 3) := dk_180 0 9 (dk_at dksX1_letterAt_1 9 rfl rfl)
theorem dX1_letterAt_35 : decode cX1_letterAt 35 = .ok (.iload_n 1, 1) := dk_27 (dk_at dksX1_letterAt_1 12 rfl rfl)
theorem dX1_letterAt_36 : decode cX1_letterAt 36 = .ok (.iconst 1, 1) := dk_4 (dk_at dksX1_letterAt_1 13 rfl rfl)
theorem dX1_letterAt_37 : decode cX1_letterAt 37 = .ok (.iadd, 1) := dk_96 (dk_at dksX1_letterAt_1 14 rfl rfl)
theorem dX1_letterAt_38 : decode cX1_letterAt 38 = .ok (.iaload, 1) := dk_46 (dk_at dksX1_letterAt_1 15 rfl rfl)
theorem dX1_letterAt_39 : decode cX1_letterAt 39 = .ok (.invokestatic 25, 3) := dk_184 0 25 (dk_at dksX1_letterAt_1 16 rfl rfl)
theorem dX1_letterAt_42 : decode cX1_letterAt 42 = .ok (.ifCond .ne 5, 3) := dk_154 0 5 (dk_at dksX1_letterAt_1 19 rfl rfl)
theorem dX1_letterAt_45 : decode cX1_letterAt 45 = .ok (.iconst (-1), 1) := dk_2 (dk_at dksX1_letterAt_1 22 rfl rfl)
theorem dX1_letterAt_46 : decode cX1_letterAt 46 = .ok (.ireturn, 1) := dk_172 (dk_at dksX1_letterAt_1 23 rfl rfl)
theorem dX1_letterAt_47 : decode cX1_letterAt 47 = .ok (.iload 4, 2) := dk_21 4 (dk_at dksX1_letterAt_2 0 rfl rfl)
theorem dX1_letterAt_49 : decode cX1_letterAt 49 = .ok (.iload_n 3, 1) := dk_29 (dk_at dksX1_letterAt_2 2 rfl rfl)
theorem dX1_letterAt_50 : decode cX1_letterAt 50 = .ok (.iconst 2, 1) := dk_5 (dk_at dksX1_letterAt_2 3 rfl rfl)
theorem dX1_letterAt_51 : decode cX1_letterAt 51 = .ok (.if_icmp .ne 9, 3) := dk_160 0 9 (dk_at dksX1_letterAt_2 4 rfl rfl)
theorem dX1_letterAt_54 : decode cX1_letterAt 54 = .ok (.sipush 192, 3) := dk_17 0 192 (dk_at dksX1_letterAt_2 7 rfl rfl)
theorem dX1_letterAt_57 : decode cX1_letterAt 57 = .ok (.goto 17, 3) := dk_167 0 17 (dk_at dksX1_letterAt_2 10 rfl rfl)
theorem dX1_letterAt_60 : decode cX1_letterAt 60 = .ok (.iload_n 3, 1) := dk_29 (dk_at dksX1_letterAt_2 13 rfl rfl)
theorem dX1_letterAt_61 : decode cX1_letterAt 61 = .ok (.iconst 3, 1) := dk_6 (dk_at dksX1_letterAt_2 14 rfl rfl)
theorem dX1_letterAt_62 : decode cX1_letterAt 62 = .ok (.if_icmp .ne 9, 3) := dk_160 0 9 (dk_at dksX1_letterAt_2 15 rfl rfl)
theorem dX1_letterAt_65 : decode cX1_letterAt 65 = .ok (.sipush 224, 3) := dk_17 0 224 (dk_at dksX1_letterAt_2 18 rfl rfl)
theorem dX1_letterAt_68 : decode cX1_letterAt 68 = .ok (.goto 6, 3) := dk_167 0 6 (dk_at dksX1_letterAt_2 21 rfl rfl)
theorem dX1_letterAt_71 : decode cX1_letterAt 71 = .ok (.sipush 240, 3) := dk_17 0 240 (dk_at dksX1_letterAt_3 0 rfl rfl)
theorem dX1_letterAt_74 : decode cX1_letterAt 74 = .ok (.isub, 1) := dk_100 (dk_at dksX1_letterAt_3 3 rfl rfl)
theorem dX1_letterAt_75 : decode cX1_letterAt 75 = .ok (.istore 5, 2) := dk_54 5 (dk_at dksX1_letterAt_3 4 rfl rfl)
theorem dX1_letterAt_77 : decode cX1_letterAt 77 = .ok (.iconst 1, 1) := dk_4 (dk_at dksX1_letterAt_3 6 rfl rfl)
theorem dX1_letterAt_78 : decode cX1_letterAt 78 = .ok (.istore 6, 2) := dk_54 6 (dk_at dksX1_letterAt_3 7 rfl rfl)
theorem dX1_letterAt_80 : decode cX1_letterAt 80 = .ok (.iload 6, 2) := dk_21 6 (dk_at dksX1_letterAt_3 9 rfl rfl)
theorem dX1_letterAt_82 : decode cX1_letterAt 82 = .ok (.iload_n 3, 1) := dk_29 (dk_at dksX1_letterAt_3 11 rfl rfl)
theorem dX1_letterAt_83 : decode cX1_letterAt 83 = .ok (.if_icmp .ge 52, 3) := dk_162 0 52 (dk_at dksX1_letterAt_3 12 rfl rfl)
theorem dX1_letterAt_86 : decode cX1_letterAt 86 = .ok (.aload_n 0, 1) := dk_42 (dk_at dksX1_letterAt_3 15 rfl rfl)
theorem dX1_letterAt_87 : decode cX1_letterAt 87 = .ok (.getfield 9, 3) := dk_180 0 9 (dk_at dksX1_letterAt_3 16 rfl rfl)
theorem dX1_letterAt_90 : decode cX1_letterAt 90 = .ok (.iload_n 1, 1) := dk_27 (dk_at dksX1_letterAt_3 19 rfl rfl)
theorem dX1_letterAt_91 : decode cX1_letterAt 91 = .ok (.iload 6, 2) := dk_21 6 (dk_at dksX1_letterAt_3 20 rfl rfl)
theorem dX1_letterAt_93 : decode cX1_letterAt 93 = .ok (.iadd, 1) := dk_96 (dk_at dksX1_letterAt_3 22 rfl rfl)
theorem dX1_letterAt_94 : decode cX1_letterAt 94 = .ok (.iaload, 1) := dk_46 (dk_at dksX1_letterAt_3 23 rfl rfl)
theorem dX1_letterAt_95 : decode cX1_letterAt 95 = .ok (.istore 7, 2) := dk_54 7 (dk_at dksX1_letterAt_4 0 rfl rfl)
theorem dX1_letterAt_97 : decode cX1_letterAt 97 = .ok (.iload 7, 2) := dk_21 7 (dk_at dksX1_letterAt_4 2 rfl rfl)
theorem dX1_letterAt_99 : decode cX1_letterAt 99 = .ok (.sipush 128, 3) := dk_17 0 128 (dk_at dksX1_letterAt_4 4 rfl rfl)
theorem dX1_letterAt_102 : decode cX1_letterAt 102 = .ok (.if_icmp .lt 11, 3) := dk_161 0 11 (dk_at dksX1_letterAt_4 7 rfl rfl)
theorem dX1_letterAt_105 : decode cX1_letterAt 105 = .ok (.iload 7, 2) := dk_21 7 (dk_at dksX1_letterAt_4 10 rfl rfl)
theorem dX1_letterAt_107 : decode cX1_letterAt 107 = .ok (.sipush 191, 3) := dk_17 0 191 (dk_at dksX1_letterAt_4 12 rfl rfl)
theorem dX1_letterAt_110 : decode cX1_letterAt 110 = .ok (.if_icmp .le 5, 3) := dk_164 0 5 (dk_at dksX1_letterAt_4 15 rfl rfl)
theorem dX1_letterAt_113 : decode cX1_letterAt 113 = .ok (.iconst (-1), 1) := dk_2 (dk_at dksX1_letterAt_4 18 rfl rfl)
theorem dX1_letterAt_114 : decode cX1_letterAt 114 = .ok (.ireturn, 1) := dk_172 (dk_at dksX1_letterAt_4 19 rfl rfl)
theorem dX1_letterAt_115 : decode cX1_letterAt 115 = .ok (.bipush 64, 2) := dk_16 64 (dk_at dksX1_letterAt_4 20 rfl rfl)
theorem dX1_letterAt_117 : decode cX1_letterAt 117 = .ok (.iload 5, 2) := dk_21 5 (dk_at dksX1_letterAt_4 22 rfl rfl)
theorem dX1_letterAt_119 : decode cX1_letterAt 119 = .ok (.imul, 1) := dk_104 (dk_at dksX1_letterAt_5 0 rfl rfl)
theorem dX1_letterAt_120 : decode cX1_letterAt 120 = .ok (.iload 7, 2) := dk_21 7 (dk_at dksX1_letterAt_5 1 rfl rfl)
theorem dX1_letterAt_122 : decode cX1_letterAt 122 = .ok (.iadd, 1) := dk_96 (dk_at dksX1_letterAt_5 3 rfl rfl)
theorem dX1_letterAt_123 : decode cX1_letterAt 123 = .ok (.sipush 128, 3) := dk_17 0 128 (dk_at dksX1_letterAt_5 4 rfl rfl)
theorem dX1_letterAt_126 : decode cX1_letterAt 126 = .ok (.isub, 1) := dk_100 (dk_at dksX1_letterAt_5 7 rfl rfl)
theorem dX1_letterAt_127 : decode cX1_letterAt 127 = .ok (.istore 5, 2) := dk_54 5 (dk_at dksX1_letterAt_5 8 rfl rfl)
theorem dX1_letterAt_129 : decode cX1_letterAt 129 = .ok (.iinc 6 1, 3) := dk_132 6 1 (dk_at dksX1_letterAt_5 10 rfl rfl)
theorem dX1_letterAt_132 : decode cX1_letterAt 132 = .ok (.goto (-52), 3) := dk_167 255 204 (dk_at dksX1_letterAt_5 13 rfl rfl)
theorem dX1_letterAt_135 : decode cX1_letterAt 135 = .ok (.iload 5, 2) := dk_21 5 (dk_at dksX1_letterAt_5 16 rfl rfl)
theorem dX1_letterAt_137 : decode cX1_letterAt 137 = .ok (.ireturn, 1) := dk_172 (dk_at dksX1_letterAt_5 18 rfl rfl)
abbrev cX1_follows : ByteArray := prog_4_method_6_code
def yX1_follows : MethodName := ⟨RX1, "follows", "(II)Z"⟩
def dkwX1_follows_3 : List UInt8 := [167, 0, 4, 3, 172]
abbrev dktX1_follows_3 : List UInt8 := dkwX1_follows_3 ++ []
def dkwX1_follows_2 : List UInt8 := [160, 0, 9, 17, 0, 143, 167, 0, 6, 17, 0, 191, 62, 27, 28, 161, 0, 12, 27, 29, 163, 0, 7, 4]
abbrev dktX1_follows_2 : List UInt8 := dkwX1_follows_2 ++ dktX1_follows_3
def dkwX1_follows_1 : List UInt8 := [167, 0, 6, 17, 0, 128, 61, 26, 17, 0, 237, 160, 0, 9, 17, 0, 159, 167, 0, 19, 26, 17, 0, 244]
abbrev dktX1_follows_1 : List UInt8 := dkwX1_follows_1 ++ dktX1_follows_2
def dkwX1_follows_0 : List UInt8 := [26, 17, 0, 224, 160, 0, 9, 17, 0, 160, 167, 0, 19, 26, 17, 0, 240, 160, 0, 9, 17, 0, 144]
abbrev dktX1_follows_0 : List UInt8 := dkwX1_follows_0 ++ dktX1_follows_1
theorem dksX1_follows_0 : cX1_follows.data.toList.drop 0 = dktX1_follows_0 := by decide +kernel
theorem dksX1_follows_1 : cX1_follows.data.toList.drop 23 = dktX1_follows_1 := dk_seg dksX1_follows_0 23 rfl rfl
theorem dksX1_follows_2 : cX1_follows.data.toList.drop 47 = dktX1_follows_2 := dk_seg dksX1_follows_1 24 rfl rfl
theorem dksX1_follows_3 : cX1_follows.data.toList.drop 71 = dktX1_follows_3 := dk_seg dksX1_follows_2 24 rfl rfl
theorem dX1_follows_0 : decode cX1_follows 0 = .ok (.iload_n 0, 1) := dk_26 (dk_at dksX1_follows_0 0 rfl rfl)
theorem dX1_follows_1 : decode cX1_follows 1 = .ok (.sipush 224, 3) := dk_17 0 224 (dk_at dksX1_follows_0 1 rfl rfl)
theorem dX1_follows_4 : decode cX1_follows 4 = .ok (.if_icmp .ne 9, 3) := dk_160 0 9 (dk_at dksX1_follows_0 4 rfl rfl)
theorem dX1_follows_7 : decode cX1_follows 7 = .ok (.sipush 160, 3) := dk_17 0 160 (dk_at dksX1_follows_0 7 rfl rfl)
theorem dX1_follows_10 : decode cX1_follows 10 = .ok (.goto 19, 3) := dk_167 0 19 (dk_at dksX1_follows_0 10 rfl rfl)
theorem dX1_follows_13 : decode cX1_follows 13 = .ok (.iload_n 0, 1) := dk_26 (dk_at dksX1_follows_0 13 rfl rfl)
theorem dX1_follows_14 : decode cX1_follows 14 = .ok (.sipush 240, 3) := dk_17 0 240 (dk_at dksX1_follows_0 14 rfl rfl)
theorem dX1_follows_17 : decode cX1_follows 17 = .ok (.if_icmp .ne 9, 3) := dk_160 0 9 (dk_at dksX1_follows_0 17 rfl rfl)
theorem dX1_follows_20 : decode cX1_follows 20 = .ok (.sipush 144, 3) := dk_17 0 144 (dk_at dksX1_follows_0 20 rfl rfl)
theorem dX1_follows_23 : decode cX1_follows 23 = .ok (.goto 6, 3) := dk_167 0 6 (dk_at dksX1_follows_1 0 rfl rfl)
theorem dX1_follows_26 : decode cX1_follows 26 = .ok (.sipush 128, 3) := dk_17 0 128 (dk_at dksX1_follows_1 3 rfl rfl)
theorem dX1_follows_29 : decode cX1_follows 29 = .ok (.istore_n 2, 1) := dk_61 (dk_at dksX1_follows_1 6 rfl rfl)
theorem dX1_follows_30 : decode cX1_follows 30 = .ok (.iload_n 0, 1) := dk_26 (dk_at dksX1_follows_1 7 rfl rfl)
theorem dX1_follows_31 : decode cX1_follows 31 = .ok (.sipush 237, 3) := dk_17 0 237 (dk_at dksX1_follows_1 8 rfl rfl)
theorem dX1_follows_34 : decode cX1_follows 34 = .ok (.if_icmp .ne 9, 3) := dk_160 0 9 (dk_at dksX1_follows_1 11 rfl rfl)
theorem dX1_follows_37 : decode cX1_follows 37 = .ok (.sipush 159, 3) := dk_17 0 159 (dk_at dksX1_follows_1 14 rfl rfl)
theorem dX1_follows_40 : decode cX1_follows 40 = .ok (.goto 19, 3) := dk_167 0 19 (dk_at dksX1_follows_1 17 rfl rfl)
theorem dX1_follows_43 : decode cX1_follows 43 = .ok (.iload_n 0, 1) := dk_26 (dk_at dksX1_follows_1 20 rfl rfl)
theorem dX1_follows_44 : decode cX1_follows 44 = .ok (.sipush 244, 3) := dk_17 0 244 (dk_at dksX1_follows_1 21 rfl rfl)
theorem dX1_follows_47 : decode cX1_follows 47 = .ok (.if_icmp .ne 9, 3) := dk_160 0 9 (dk_at dksX1_follows_2 0 rfl rfl)
theorem dX1_follows_50 : decode cX1_follows 50 = .ok (.sipush 143, 3) := dk_17 0 143 (dk_at dksX1_follows_2 3 rfl rfl)
theorem dX1_follows_53 : decode cX1_follows 53 = .ok (.goto 6, 3) := dk_167 0 6 (dk_at dksX1_follows_2 6 rfl rfl)
theorem dX1_follows_56 : decode cX1_follows 56 = .ok (.sipush 191, 3) := dk_17 0 191 (dk_at dksX1_follows_2 9 rfl rfl)
theorem dX1_follows_59 : decode cX1_follows 59 = .ok (.istore_n 3, 1) := dk_62 (dk_at dksX1_follows_2 12 rfl rfl)
theorem dX1_follows_60 : decode cX1_follows 60 = .ok (.iload_n 1, 1) := dk_27 (dk_at dksX1_follows_2 13 rfl rfl)
theorem dX1_follows_61 : decode cX1_follows 61 = .ok (.iload_n 2, 1) := dk_28 (dk_at dksX1_follows_2 14 rfl rfl)
theorem dX1_follows_62 : decode cX1_follows 62 = .ok (.if_icmp .lt 12, 3) := dk_161 0 12 (dk_at dksX1_follows_2 15 rfl rfl)
theorem dX1_follows_65 : decode cX1_follows 65 = .ok (.iload_n 1, 1) := dk_27 (dk_at dksX1_follows_2 18 rfl rfl)
theorem dX1_follows_66 : decode cX1_follows 66 = .ok (.iload_n 3, 1) := dk_29 (dk_at dksX1_follows_2 19 rfl rfl)
theorem dX1_follows_67 : decode cX1_follows 67 = .ok (.if_icmp .gt 7, 3) := dk_163 0 7 (dk_at dksX1_follows_2 20 rfl rfl)
theorem dX1_follows_70 : decode cX1_follows 70 = .ok (.iconst 1, 1) := dk_4 (dk_at dksX1_follows_2 23 rfl rfl)
theorem dX1_follows_71 : decode cX1_follows 71 = .ok (.goto 4, 3) := dk_167 0 4 (dk_at dksX1_follows_3 0 rfl rfl)
theorem dX1_follows_74 : decode cX1_follows 74 = .ok (.iconst 0, 1) := dk_3 (dk_at dksX1_follows_3 3 rfl rfl)
theorem dX1_follows_75 : decode cX1_follows 75 = .ok (.ireturn, 1) := dk_172 (dk_at dksX1_follows_3 4 rfl rfl)
abbrev cX1_unit : ByteArray := prog_4_method_9_code
def yX1_unit : MethodName := ⟨RX1, "unit", "(I)I"⟩
def dkwX1_unit_1 : List UInt8 := [190, 112, 46, 172]
abbrev dktX1_unit_1 : List UInt8 := dkwX1_unit_1 ++ []
def dkwX1_unit_0 : List UInt8 := [42, 180, 0, 13, 190, 154, 0, 7, 2, 167, 0, 18, 42, 180, 0, 13, 27, 18, 20, 126, 42, 180, 0, 13]
abbrev dktX1_unit_0 : List UInt8 := dkwX1_unit_0 ++ dktX1_unit_1
theorem dksX1_unit_0 : cX1_unit.data.toList.drop 0 = dktX1_unit_0 := by decide +kernel
theorem dksX1_unit_1 : cX1_unit.data.toList.drop 24 = dktX1_unit_1 := dk_seg dksX1_unit_0 24 rfl rfl
theorem dX1_unit_0 : decode cX1_unit 0 = .ok (.aload_n 0, 1) := dk_42 (dk_at dksX1_unit_0 0 rfl rfl)
theorem dX1_unit_1 : decode cX1_unit 1 = .ok (.getfield 13, 3) := dk_180 0 13 (dk_at dksX1_unit_0 1 rfl rfl)
theorem dX1_unit_4 : decode cX1_unit 4 = .ok (.arraylength, 1) := dk_190 (dk_at dksX1_unit_0 4 rfl rfl)
theorem dX1_unit_5 : decode cX1_unit 5 = .ok (.ifCond .ne 7, 3) := dk_154 0 7 (dk_at dksX1_unit_0 5 rfl rfl)
theorem dX1_unit_8 : decode cX1_unit 8 = .ok (.iconst (-1), 1) := dk_2 (dk_at dksX1_unit_0 8 rfl rfl)
theorem dX1_unit_9 : decode cX1_unit 9 = .ok (.goto 18, 3) := dk_167 0 18 (dk_at dksX1_unit_0 9 rfl rfl)
theorem dX1_unit_12 : decode cX1_unit 12 = .ok (.aload_n 0, 1) := dk_42 (dk_at dksX1_unit_0 12 rfl rfl)
theorem dX1_unit_13 : decode cX1_unit 13 = .ok (.getfield 13, 3) := dk_180 0 13 (dk_at dksX1_unit_0 13 rfl rfl)
theorem dX1_unit_16 : decode cX1_unit 16 = .ok (.iload_n 1, 1) := dk_27 (dk_at dksX1_unit_0 16 rfl rfl)
theorem dX1_unit_17 : decode cX1_unit 17 = .ok (.ldc 20, 2) := dk_18 20 (dk_at dksX1_unit_0 17 rfl rfl)
theorem dX1_unit_19 : decode cX1_unit 19 = .ok (.iand, 1) := dk_126 (dk_at dksX1_unit_0 19 rfl rfl)
theorem dX1_unit_20 : decode cX1_unit 20 = .ok (.aload_n 0, 1) := dk_42 (dk_at dksX1_unit_0 20 rfl rfl)
theorem dX1_unit_21 : decode cX1_unit 21 = .ok (.getfield 13, 3) := dk_180 0 13 (dk_at dksX1_unit_0 21 rfl rfl)
theorem dX1_unit_24 : decode cX1_unit 24 = .ok (.arraylength, 1) := dk_190 (dk_at dksX1_unit_1 0 rfl rfl)
theorem dX1_unit_25 : decode cX1_unit 25 = .ok (.irem, 1) := dk_112 (dk_at dksX1_unit_1 1 rfl rfl)
theorem dX1_unit_26 : decode cX1_unit 26 = .ok (.iaload, 1) := dk_46 (dk_at dksX1_unit_1 2 rfl rfl)
theorem dX1_unit_27 : decode cX1_unit 27 = .ok (.ireturn, 1) := dk_172 (dk_at dksX1_unit_1 3 rfl rfl)
abbrev cX1_set : ByteArray := prog_4_method_10_code
def yX1_set : MethodName := ⟨RX1, "set", "(II)Z"⟩
def dkwX1_set_1 : List UInt8 := [17, 0, 255, 126, 79, 4, 172]
abbrev dktX1_set_1 : List UInt8 := dkwX1_set_1 ++ []
def dkwX1_set_0 : List UInt8 := [42, 180, 0, 16, 154, 0, 5, 3, 172, 42, 180, 0, 9, 27, 18, 20, 126, 42, 180, 0, 16, 112, 28]
abbrev dktX1_set_0 : List UInt8 := dkwX1_set_0 ++ dktX1_set_1
theorem dksX1_set_0 : cX1_set.data.toList.drop 0 = dktX1_set_0 := by decide +kernel
theorem dksX1_set_1 : cX1_set.data.toList.drop 23 = dktX1_set_1 := dk_seg dksX1_set_0 23 rfl rfl
theorem dX1_set_0 : decode cX1_set 0 = .ok (.aload_n 0, 1) := dk_42 (dk_at dksX1_set_0 0 rfl rfl)
theorem dX1_set_1 : decode cX1_set 1 = .ok (.getfield 16, 3) := dk_180 0 16 (dk_at dksX1_set_0 1 rfl rfl)
theorem dX1_set_4 : decode cX1_set 4 = .ok (.ifCond .ne 5, 3) := dk_154 0 5 (dk_at dksX1_set_0 4 rfl rfl)
theorem dX1_set_7 : decode cX1_set 7 = .ok (.iconst 0, 1) := dk_3 (dk_at dksX1_set_0 7 rfl rfl)
theorem dX1_set_8 : decode cX1_set 8 = .ok (.ireturn, 1) := dk_172 (dk_at dksX1_set_0 8 rfl rfl)
theorem dX1_set_9 : decode cX1_set 9 = .ok (.aload_n 0, 1) := dk_42 (dk_at dksX1_set_0 9 rfl rfl)
theorem dX1_set_10 : decode cX1_set 10 = .ok (.getfield 9, 3) := dk_180 0 9 (dk_at dksX1_set_0 10 rfl rfl)
theorem dX1_set_13 : decode cX1_set 13 = .ok (.iload_n 1, 1) := dk_27 (dk_at dksX1_set_0 13 rfl rfl)
theorem dX1_set_14 : decode cX1_set 14 = .ok (.ldc 20, 2) := dk_18 20 (dk_at dksX1_set_0 14 rfl rfl)
theorem dX1_set_16 : decode cX1_set 16 = .ok (.iand, 1) := dk_126 (dk_at dksX1_set_0 16 rfl rfl)
theorem dX1_set_17 : decode cX1_set 17 = .ok (.aload_n 0, 1) := dk_42 (dk_at dksX1_set_0 17 rfl rfl)
theorem dX1_set_18 : decode cX1_set 18 = .ok (.getfield 16, 3) := dk_180 0 16 (dk_at dksX1_set_0 18 rfl rfl)
theorem dX1_set_21 : decode cX1_set 21 = .ok (.irem, 1) := dk_112 (dk_at dksX1_set_0 21 rfl rfl)
theorem dX1_set_22 : decode cX1_set 22 = .ok (.iload_n 2, 1) := dk_28 (dk_at dksX1_set_0 22 rfl rfl)
theorem dX1_set_23 : decode cX1_set 23 = .ok (.sipush 255, 3) := dk_17 0 255 (dk_at dksX1_set_1 0 rfl rfl)
theorem dX1_set_26 : decode cX1_set 26 = .ok (.iand, 1) := dk_126 (dk_at dksX1_set_1 3 rfl rfl)
theorem dX1_set_27 : decode cX1_set 27 = .ok (.iastore, 1) := dk_79 (dk_at dksX1_set_1 4 rfl rfl)
theorem dX1_set_28 : decode cX1_set 28 = .ok (.iconst 1, 1) := dk_4 (dk_at dksX1_set_1 5 rfl rfl)
theorem dX1_set_29 : decode cX1_set 29 = .ok (.ireturn, 1) := dk_172 (dk_at dksX1_set_1 6 rfl rfl)
abbrev cX1_letter : ByteArray := prog_4_method_11_code
def yX1_letter : MethodName := ⟨RX1, "letter", "(II)I"⟩
def dkwX1_letter_6 : List UInt8 := [21, 4, 6, 160, 0, 9, 17, 0, 224, 167, 0, 6, 17, 0, 240, 96, 79, 21, 4, 172]
abbrev dktX1_letter_6 : List UInt8 := dkwX1_letter_6 ++ []
def dkwX1_letter_5 : List UInt8 := [21, 6, 21, 4, 4, 160, 0, 7, 3, 167, 0, 30, 21, 4, 5, 160, 0, 9, 17, 0, 192, 167, 0, 18]
abbrev dktX1_letter_5 : List UInt8 := dkwX1_letter_5 ++ dktX1_letter_6
def dkwX1_letter_4 : List UInt8 := [16, 64, 112, 96, 79, 21, 6, 16, 64, 108, 54, 6, 132, 7, 255, 167, 255, 222, 42, 180, 0, 9, 21, 5]
abbrev dktX1_letter_4 : List UInt8 := dkwX1_letter_4 ++ dktX1_letter_5
def dkwX1_letter_3 : List UInt8 := [4, 100, 54, 7, 21, 7, 158, 0, 35, 42, 180, 0, 9, 21, 5, 21, 7, 96, 17, 0, 128, 21, 6]
abbrev dktX1_letter_3 : List UInt8 := dkwX1_letter_3 ++ dktX1_letter_4
def dkwX1_letter_2 : List UInt8 := [182, 0, 21, 54, 5, 21, 5, 21, 4, 96, 42, 180, 0, 16, 164, 0, 5, 2, 172, 29, 54, 6, 21, 4]
abbrev dktX1_letter_2 : List UInt8 := dkwX1_letter_2 ++ dktX1_letter_3
def dkwX1_letter_1 : List UInt8 := [162, 0, 7, 5, 167, 0, 14, 29, 18, 38, 162, 0, 7, 6, 167, 0, 4, 7, 54, 4, 42, 27]
abbrev dktX1_letter_1 : List UInt8 := dkwX1_letter_1 ++ dktX1_letter_2
def dkwX1_letter_0 : List UInt8 := [28, 18, 20, 126, 18, 40, 112, 62, 29, 17, 0, 128, 162, 0, 7, 4, 167, 0, 25, 29, 17, 8, 0]
abbrev dktX1_letter_0 : List UInt8 := dkwX1_letter_0 ++ dktX1_letter_1
theorem dksX1_letter_0 : cX1_letter.data.toList.drop 0 = dktX1_letter_0 := by decide +kernel
theorem dksX1_letter_1 : cX1_letter.data.toList.drop 23 = dktX1_letter_1 := dk_seg dksX1_letter_0 23 rfl rfl
theorem dksX1_letter_2 : cX1_letter.data.toList.drop 45 = dktX1_letter_2 := dk_seg dksX1_letter_1 22 rfl rfl
theorem dksX1_letter_3 : cX1_letter.data.toList.drop 69 = dktX1_letter_3 := dk_seg dksX1_letter_2 24 rfl rfl
theorem dksX1_letter_4 : cX1_letter.data.toList.drop 92 = dktX1_letter_4 := dk_seg dksX1_letter_3 23 rfl rfl
theorem dksX1_letter_5 : cX1_letter.data.toList.drop 116 = dktX1_letter_5 := dk_seg dksX1_letter_4 24 rfl rfl
theorem dksX1_letter_6 : cX1_letter.data.toList.drop 140 = dktX1_letter_6 := dk_seg dksX1_letter_5 24 rfl rfl
theorem dX1_letter_0 : decode cX1_letter 0 = .ok (.iload_n 2, 1) := dk_28 (dk_at dksX1_letter_0 0 rfl rfl)
theorem dX1_letter_1 : decode cX1_letter 1 = .ok (.ldc 20, 2) := dk_18 20 (dk_at dksX1_letter_0 1 rfl rfl)
theorem dX1_letter_3 : decode cX1_letter 3 = .ok (.iand, 1) := dk_126 (dk_at dksX1_letter_0 3 rfl rfl)
theorem dX1_letter_4 : decode cX1_letter 4 = .ok (.ldc 40, 2) := dk_18 40 (dk_at dksX1_letter_0 4 rfl rfl)
theorem dX1_letter_6 : decode cX1_letter 6 = .ok (.irem, 1) := dk_112 (dk_at dksX1_letter_0 6 rfl rfl)
theorem dX1_letter_7 : decode cX1_letter 7 = .ok (.istore_n 3, 1) := dk_62 (dk_at dksX1_letter_0 7 rfl rfl)
theorem dX1_letter_8 : decode cX1_letter 8 = .ok (.iload_n 3, 1) := dk_29 (dk_at dksX1_letter_0 8 rfl rfl)
theorem dX1_letter_9 : decode cX1_letter 9 = .ok (.sipush 128, 3) := dk_17 0 128 (dk_at dksX1_letter_0 9 rfl rfl)
theorem dX1_letter_12 : decode cX1_letter 12 = .ok (.if_icmp .ge 7, 3) := dk_162 0 7 (dk_at dksX1_letter_0 12 rfl rfl)
theorem dX1_letter_15 : decode cX1_letter 15 = .ok (.iconst 1, 1) := dk_4 (dk_at dksX1_letter_0 15 rfl rfl)
theorem dX1_letter_16 : decode cX1_letter 16 = .ok (.goto 25, 3) := dk_167 0 25 (dk_at dksX1_letter_0 16 rfl rfl)
theorem dX1_letter_19 : decode cX1_letter 19 = .ok (.iload_n 3, 1) := dk_29 (dk_at dksX1_letter_0 19 rfl rfl)
theorem dX1_letter_20 : decode cX1_letter 20 = .ok (.sipush 2048, 3) := dk_17 8 0 (dk_at dksX1_letter_0 20 rfl rfl)
theorem dX1_letter_23 : decode cX1_letter 23 = .ok (.if_icmp .ge 7, 3) := dk_162 0 7 (dk_at dksX1_letter_1 0 rfl rfl)
theorem dX1_letter_26 : decode cX1_letter 26 = .ok (.iconst 2, 1) := dk_5 (dk_at dksX1_letter_1 3 rfl rfl)
theorem dX1_letter_27 : decode cX1_letter 27 = .ok (.goto 14, 3) := dk_167 0 14 (dk_at dksX1_letter_1 4 rfl rfl)
theorem dX1_letter_30 : decode cX1_letter 30 = .ok (.iload_n 3, 1) := dk_29 (dk_at dksX1_letter_1 7 rfl rfl)
theorem dX1_letter_31 : decode cX1_letter 31 = .ok (.ldc 38, 2) := dk_18 38 (dk_at dksX1_letter_1 8 rfl rfl)
theorem dX1_letter_33 : decode cX1_letter 33 = .ok (.if_icmp .ge 7, 3) := dk_162 0 7 (dk_at dksX1_letter_1 10 rfl rfl)
theorem dX1_letter_36 : decode cX1_letter 36 = .ok (.iconst 3, 1) := dk_6 (dk_at dksX1_letter_1 13 rfl rfl)
theorem dX1_letter_37 : decode cX1_letter 37 = .ok (.goto 4, 3) := dk_167 0 4 (dk_at dksX1_letter_1 14 rfl rfl)
theorem dX1_letter_40 : decode cX1_letter 40 = .ok (.iconst 4, 1) := dk_7 (dk_at dksX1_letter_1 17 rfl rfl)
theorem dX1_letter_41 : decode cX1_letter 41 = .ok (.istore 4, 2) := dk_54 4 (dk_at dksX1_letter_1 18 rfl rfl)
theorem dX1_letter_43 : decode cX1_letter 43 = .ok (.aload_n 0, 1) := dk_42 (dk_at dksX1_letter_1 20 rfl rfl)
theorem dX1_letter_44 : decode cX1_letter 44 = .ok (.iload_n 1, 1) := dk_27 (dk_at dksX1_letter_1 21 rfl rfl)
theorem dX1_letter_45 : decode cX1_letter 45 = .ok (.invokevirtual 21, 3) := dk_182 0 21 (dk_at dksX1_letter_2 0 rfl rfl)
theorem dX1_letter_48 : decode cX1_letter 48 = .ok (.istore 5, 2) := dk_54 5 (dk_at dksX1_letter_2 3 rfl rfl)
theorem dX1_letter_50 : decode cX1_letter 50 = .ok (.iload 5, 2) := dk_21 5 (dk_at dksX1_letter_2 5 rfl rfl)
theorem dX1_letter_52 : decode cX1_letter 52 = .ok (.iload 4, 2) := dk_21 4 (dk_at dksX1_letter_2 7 rfl rfl)
theorem dX1_letter_54 : decode cX1_letter 54 = .ok (.iadd, 1) := dk_96 (dk_at dksX1_letter_2 9 rfl rfl)
theorem dX1_letter_55 : decode cX1_letter 55 = .ok (.aload_n 0, 1) := dk_42 (dk_at dksX1_letter_2 10 rfl rfl)
theorem dX1_letter_56 : decode cX1_letter 56 = .ok (.getfield 16, 3) := dk_180 0 16 (dk_at dksX1_letter_2 11 rfl rfl)
theorem dX1_letter_59 : decode cX1_letter 59 = .ok (.if_icmp .le 5, 3) := dk_164 0 5 (dk_at dksX1_letter_2 14 rfl rfl)
theorem dX1_letter_62 : decode cX1_letter 62 = .ok (.iconst (-1), 1) := dk_2 (dk_at dksX1_letter_2 17 rfl rfl)
theorem dX1_letter_63 : decode cX1_letter 63 = .ok (.ireturn, 1) := dk_172 (dk_at dksX1_letter_2 18 rfl rfl)
theorem dX1_letter_64 : decode cX1_letter 64 = .ok (.iload_n 3, 1) := dk_29 (dk_at dksX1_letter_2 19 rfl rfl)
theorem dX1_letter_65 : decode cX1_letter 65 = .ok (.istore 6, 2) := dk_54 6 (dk_at dksX1_letter_2 20 rfl rfl)
theorem dX1_letter_67 : decode cX1_letter 67 = .ok (.iload 4, 2) := dk_21 4 (dk_at dksX1_letter_2 22 rfl rfl)
theorem dX1_letter_69 : decode cX1_letter 69 = .ok (.iconst 1, 1) := dk_4 (dk_at dksX1_letter_3 0 rfl rfl)
theorem dX1_letter_70 : decode cX1_letter 70 = .ok (.isub, 1) := dk_100 (dk_at dksX1_letter_3 1 rfl rfl)
theorem dX1_letter_71 : decode cX1_letter 71 = .ok (.istore 7, 2) := dk_54 7 (dk_at dksX1_letter_3 2 rfl rfl)
theorem dX1_letter_73 : decode cX1_letter 73 = .ok (.iload 7, 2) := dk_21 7 (dk_at dksX1_letter_3 4 rfl rfl)
theorem dX1_letter_75 : decode cX1_letter 75 = .ok (.ifCond .le 35, 3) := dk_158 0 35 (dk_at dksX1_letter_3 6 rfl rfl)
theorem dX1_letter_78 : decode cX1_letter 78 = .ok (.aload_n 0, 1) := dk_42 (dk_at dksX1_letter_3 9 rfl rfl)
theorem dX1_letter_79 : decode cX1_letter 79 = .ok (.getfield 9, 3) := dk_180 0 9 (dk_at dksX1_letter_3 10 rfl rfl)
theorem dX1_letter_82 : decode cX1_letter 82 = .ok (.iload 5, 2) := dk_21 5 (dk_at dksX1_letter_3 13 rfl rfl)
theorem dX1_letter_84 : decode cX1_letter 84 = .ok (.iload 7, 2) := dk_21 7 (dk_at dksX1_letter_3 15 rfl rfl)
theorem dX1_letter_86 : decode cX1_letter 86 = .ok (.iadd, 1) := dk_96 (dk_at dksX1_letter_3 17 rfl rfl)
theorem dX1_letter_87 : decode cX1_letter 87 = .ok (.sipush 128, 3) := dk_17 0 128 (dk_at dksX1_letter_3 18 rfl rfl)
theorem dX1_letter_90 : decode cX1_letter 90 = .ok (.iload 6, 2) := dk_21 6 (dk_at dksX1_letter_3 21 rfl rfl)
theorem dX1_letter_92 : decode cX1_letter 92 = .ok (.bipush 64, 2) := dk_16 64 (dk_at dksX1_letter_4 0 rfl rfl)
theorem dX1_letter_94 : decode cX1_letter 94 = .ok (.irem, 1) := dk_112 (dk_at dksX1_letter_4 2 rfl rfl)
theorem dX1_letter_95 : decode cX1_letter 95 = .ok (.iadd, 1) := dk_96 (dk_at dksX1_letter_4 3 rfl rfl)
theorem dX1_letter_96 : decode cX1_letter 96 = .ok (.iastore, 1) := dk_79 (dk_at dksX1_letter_4 4 rfl rfl)
theorem dX1_letter_97 : decode cX1_letter 97 = .ok (.iload 6, 2) := dk_21 6 (dk_at dksX1_letter_4 5 rfl rfl)
theorem dX1_letter_99 : decode cX1_letter 99 = .ok (.bipush 64, 2) := dk_16 64 (dk_at dksX1_letter_4 7 rfl rfl)
theorem dX1_letter_101 : decode cX1_letter 101 = .ok (.idiv, 1) := dk_108 (dk_at dksX1_letter_4 9 rfl rfl)
theorem dX1_letter_102 : decode cX1_letter 102 = .ok (.istore 6, 2) := dk_54 6 (dk_at dksX1_letter_4 10 rfl rfl)
theorem dX1_letter_104 : decode cX1_letter 104 = .ok (.iinc 7 (-1), 3) := dk_132 7 255 (dk_at dksX1_letter_4 12 rfl rfl)
theorem dX1_letter_107 : decode cX1_letter 107 = .ok (.goto (-34), 3) := dk_167 255 222 (dk_at dksX1_letter_4 15 rfl rfl)
theorem dX1_letter_110 : decode cX1_letter 110 = .ok (.aload_n 0, 1) := dk_42 (dk_at dksX1_letter_4 18 rfl rfl)
theorem dX1_letter_111 : decode cX1_letter 111 = .ok (.getfield 9, 3) := dk_180 0 9 (dk_at dksX1_letter_4 19 rfl rfl)
theorem dX1_letter_114 : decode cX1_letter 114 = .ok (.iload 5, 2) := dk_21 5 (dk_at dksX1_letter_4 22 rfl rfl)
theorem dX1_letter_116 : decode cX1_letter 116 = .ok (.iload 6, 2) := dk_21 6 (dk_at dksX1_letter_5 0 rfl rfl)
theorem dX1_letter_118 : decode cX1_letter 118 = .ok (.iload 4, 2) := dk_21 4 (dk_at dksX1_letter_5 2 rfl rfl)
theorem dX1_letter_120 : decode cX1_letter 120 = .ok (.iconst 1, 1) := dk_4 (dk_at dksX1_letter_5 4 rfl rfl)
theorem dX1_letter_121 : decode cX1_letter 121 = .ok (.if_icmp .ne 7, 3) := dk_160 0 7 (dk_at dksX1_letter_5 5 rfl rfl)
theorem dX1_letter_124 : decode cX1_letter 124 = .ok (.iconst 0, 1) := dk_3 (dk_at dksX1_letter_5 8 rfl rfl)
theorem dX1_letter_125 : decode cX1_letter 125 = .ok (.goto 30, 3) := dk_167 0 30 (dk_at dksX1_letter_5 9 rfl rfl)
theorem dX1_letter_128 : decode cX1_letter 128 = .ok (.iload 4, 2) := dk_21 4 (dk_at dksX1_letter_5 12 rfl rfl)
theorem dX1_letter_130 : decode cX1_letter 130 = .ok (.iconst 2, 1) := dk_5 (dk_at dksX1_letter_5 14 rfl rfl)
theorem dX1_letter_131 : decode cX1_letter 131 = .ok (.if_icmp .ne 9, 3) := dk_160 0 9 (dk_at dksX1_letter_5 15 rfl rfl)
theorem dX1_letter_134 : decode cX1_letter 134 = .ok (.sipush 192, 3) := dk_17 0 192 (dk_at dksX1_letter_5 18 rfl rfl)
theorem dX1_letter_137 : decode cX1_letter 137 = .ok (.goto 18, 3) := dk_167 0 18 (dk_at dksX1_letter_5 21 rfl rfl)
theorem dX1_letter_140 : decode cX1_letter 140 = .ok (.iload 4, 2) := dk_21 4 (dk_at dksX1_letter_6 0 rfl rfl)
theorem dX1_letter_142 : decode cX1_letter 142 = .ok (.iconst 3, 1) := dk_6 (dk_at dksX1_letter_6 2 rfl rfl)
theorem dX1_letter_143 : decode cX1_letter 143 = .ok (.if_icmp .ne 9, 3) := dk_160 0 9 (dk_at dksX1_letter_6 3 rfl rfl)
theorem dX1_letter_146 : decode cX1_letter 146 = .ok (.sipush 224, 3) := dk_17 0 224 (dk_at dksX1_letter_6 6 rfl rfl)
theorem dX1_letter_149 : decode cX1_letter 149 = .ok (.goto 6, 3) := dk_167 0 6 (dk_at dksX1_letter_6 9 rfl rfl)
theorem dX1_letter_152 : decode cX1_letter 152 = .ok (.sipush 240, 3) := dk_17 0 240 (dk_at dksX1_letter_6 12 rfl rfl)
theorem dX1_letter_155 : decode cX1_letter 155 = .ok (.iadd, 1) := dk_96 (dk_at dksX1_letter_6 15 rfl rfl)
theorem dX1_letter_156 : decode cX1_letter 156 = .ok (.iastore, 1) := dk_79 (dk_at dksX1_letter_6 16 rfl rfl)
theorem dX1_letter_157 : decode cX1_letter 157 = .ok (.iload 4, 2) := dk_21 4 (dk_at dksX1_letter_6 17 rfl rfl)
theorem dX1_letter_159 : decode cX1_letter 159 = .ok (.ireturn, 1) := dk_172 (dk_at dksX1_letter_6 19 rfl rfl)
theorem q7 : (Jvm.Cond.initialized "UtfDeskModel") ∈ lw_all := lw_g (lw_at lw_m0 2 rfl) rfl
theorem q88 : (Jvm.Cond.instantiable "UtfDeskModel" (3 : Nat)) ∈ lw_all := lw_g (lw_at lw_m0 83 rfl) rfl
theorem q90 : (Jvm.Cond.instanceMethod ({ cls := "UtfDeskModel", name := "<init>", desc := "()V" } : Jvm.MethodName)) ∈ lw_all := lw_g (lw_at lw_m0 85 rfl) rfl
theorem q91 : (Jvm.Cond.code ({ cls := "UtfDeskModel", name := "<init>", desc := "()V" } : Jvm.MethodName) prog_4_method_1_code (1 : Nat) (Option.none : Option Jvm.ClassFile.FieldType)) ∈ lw_all := lw_g (lw_at lw_m0 86 rfl) rfl
theorem q92 : (Jvm.Cond.methodLink "UtfDeskModel" (1 : Nat) ({ cls := "java/lang/Object", name := "<init>", desc := "()V" } : Jvm.MethodName)) ∈ lw_all := lw_g (lw_at lw_m0 87 rfl) rfl
theorem q93 : (Jvm.Cond.fieldLink "UtfDeskModel" (9 : Nat) "UtfDeskModel" "text" "[I") ∈ lw_all := lw_g (lw_at lw_m0 88 rfl) rfl
theorem q94 : (Jvm.Cond.fieldLink "UtfDeskModel" (16 : Nat) "UtfDeskModel" "size" "I") ∈ lw_all := lw_g (lw_at lw_m0 89 rfl) rfl
theorem q95 : (Jvm.Cond.fieldLink "UtfDeskModel" (13 : Nat) "UtfDeskModel" "units" "[I") ∈ lw_all := lw_g (lw_at lw_m0 90 rfl) rfl
theorem q96 : (Jvm.Cond.laysFinal "UtfDeskModel" "UtfDeskModel" "text" "[I") ∈ lw_all := lw_g (lw_at lw_m0 91 rfl) rfl
theorem q97 : (Jvm.Cond.soleField "UtfDeskModel" "text") ∈ lw_all := lw_g (lw_at lw_m0 92 rfl) rfl
theorem q98 : (Jvm.Cond.lays "UtfDeskModel" "UtfDeskModel" "size" "I") ∈ lw_all := lw_g (lw_at lw_m0 93 rfl) rfl
theorem q99 : (Jvm.Cond.soleField "UtfDeskModel" "size") ∈ lw_all := lw_g (lw_at lw_m0 94 rfl) rfl
theorem q100 : (Jvm.Cond.lays "UtfDeskModel" "UtfDeskModel" "units" "[I") ∈ lw_all := lw_g (lw_at lw_m0 95 rfl) rfl
theorem q101 : (Jvm.Cond.soleField "UtfDeskModel" "units") ∈ lw_all := lw_g (lw_at lw_m0 96 rfl) rfl
theorem q102 : (Jvm.Cond.superclass "UtfDeskModel" "java/lang/Object") ∈ lw_all := lw_g (lw_at lw_m0 97 rfl) rfl
theorem q105 : (Jvm.Cond.instanceMethod ({ cls := "UtfDeskModel", name := "put", desc := "(IIII)Z" } : Jvm.MethodName)) ∈ lw_all := lw_g (lw_at lw_m0 100 rfl) rfl
theorem q106 : (Jvm.Cond.selects "UtfDeskModel" ({ cls := "UtfDeskModel", name := "put", desc := "(IIII)Z" } : Jvm.MethodName) ({ cls := "UtfDeskModel", name := "put", desc := "(IIII)Z" } : Jvm.MethodName)) ∈ lw_all := lw_g (lw_at lw_m0 101 rfl) rfl
theorem q107 : (Jvm.Cond.code ({ cls := "UtfDeskModel", name := "put", desc := "(IIII)Z" } : Jvm.MethodName) prog_4_method_2_code (11 : Nat) (Option.some Jvm.ClassFile.FieldType.boolean)) ∈ lw_all := lw_g (lw_at lw_m0 102 rfl) rfl
theorem q109 : (Jvm.Cond.instanceMethod ({ cls := "UtfDeskModel", name := "trim", desc := "(I)V" } : Jvm.MethodName)) ∈ lw_all := lw_g (lw_at lw_m0 104 rfl) rfl
theorem q110 : (Jvm.Cond.selects "UtfDeskModel" ({ cls := "UtfDeskModel", name := "trim", desc := "(I)V" } : Jvm.MethodName) ({ cls := "UtfDeskModel", name := "trim", desc := "(I)V" } : Jvm.MethodName)) ∈ lw_all := lw_g (lw_at lw_m0 105 rfl) rfl
theorem q111 : (Jvm.Cond.code ({ cls := "UtfDeskModel", name := "trim", desc := "(I)V" } : Jvm.MethodName) prog_4_method_4_code (2 : Nat) (Option.none : Option Jvm.ClassFile.FieldType)) ∈ lw_all := lw_g (lw_at lw_m0 106 rfl) rfl
theorem q112 : (Jvm.Cond.methodLink "UtfDeskModel" (21 : Nat) ({ cls := "UtfDeskModel", name := "begin", desc := "(I)I" } : Jvm.MethodName)) ∈ lw_all := lw_g (lw_at lw_m0 107 rfl) rfl
theorem q113 : (Jvm.Cond.privateMethod ({ cls := "UtfDeskModel", name := "begin", desc := "(I)I" } : Jvm.MethodName)) ∈ lw_tbl := lw_at lw_m0 108 rfl
theorem q114 : (Jvm.Cond.instanceMethod ({ cls := "UtfDeskModel", name := "begin", desc := "(I)I" } : Jvm.MethodName)) ∈ lw_all := lw_g (lw_at lw_m0 109 rfl) rfl
theorem q115 : (Jvm.Cond.code ({ cls := "UtfDeskModel", name := "begin", desc := "(I)I" } : Jvm.MethodName) prog_4_method_3_code (2 : Nat) (Option.some Jvm.ClassFile.FieldType.int)) ∈ lw_all := lw_g (lw_at lw_m0 110 rfl) rfl
theorem q116 : (Jvm.Cond.constant "UtfDeskModel" (20 : Nat) (2147483647 : Int32)) ∈ lw_all := lw_g (lw_at lw_m0 111 rfl) rfl
theorem q118 : (Jvm.Cond.instanceMethod ({ cls := "UtfDeskModel", name := "turn", desc := "(III)I" } : Jvm.MethodName)) ∈ lw_all := lw_g (lw_at lw_m0 113 rfl) rfl
theorem q119 : (Jvm.Cond.selects "UtfDeskModel" ({ cls := "UtfDeskModel", name := "turn", desc := "(III)I" } : Jvm.MethodName) ({ cls := "UtfDeskModel", name := "turn", desc := "(III)I" } : Jvm.MethodName)) ∈ lw_all := lw_g (lw_at lw_m0 114 rfl) rfl
theorem q120 : (Jvm.Cond.code ({ cls := "UtfDeskModel", name := "turn", desc := "(III)I" } : Jvm.MethodName) prog_4_method_8_code (12 : Nat) (Option.some Jvm.ClassFile.FieldType.int)) ∈ lw_all := lw_g (lw_at lw_m0 115 rfl) rfl
theorem q121 : (Jvm.Cond.methodLink "UtfDeskModel" (29 : Nat) ({ cls := "UtfDeskModel", name := "many", desc := "(I)I" } : Jvm.MethodName)) ∈ lw_all := lw_g (lw_at lw_m0 116 rfl) rfl
theorem q122 : (Jvm.Cond.static ({ cls := "UtfDeskModel", name := "many", desc := "(I)I" } : Jvm.MethodName)) ∈ lw_all := lw_g (lw_at lw_m0 117 rfl) rfl
theorem q123 : (Jvm.Cond.code ({ cls := "UtfDeskModel", name := "many", desc := "(I)I" } : Jvm.MethodName) prog_4_method_5_code (1 : Nat) (Option.some Jvm.ClassFile.FieldType.int)) ∈ lw_all := lw_g (lw_at lw_m0 118 rfl) rfl
theorem q124 : (Jvm.Cond.methodLink "UtfDeskModel" (32 : Nat) ({ cls := "UtfDeskModel", name := "letterAt", desc := "(III)I" } : Jvm.MethodName)) ∈ lw_all := lw_g (lw_at lw_m0 119 rfl) rfl
theorem q125 : (Jvm.Cond.privateMethod ({ cls := "UtfDeskModel", name := "letterAt", desc := "(III)I" } : Jvm.MethodName)) ∈ lw_tbl := lw_at lw_m0 120 rfl
theorem q126 : (Jvm.Cond.instanceMethod ({ cls := "UtfDeskModel", name := "letterAt", desc := "(III)I" } : Jvm.MethodName)) ∈ lw_all := lw_g (lw_at lw_m0 121 rfl) rfl
theorem q127 : (Jvm.Cond.code ({ cls := "UtfDeskModel", name := "letterAt", desc := "(III)I" } : Jvm.MethodName) prog_4_method_7_code (8 : Nat) (Option.some Jvm.ClassFile.FieldType.int)) ∈ lw_all := lw_g (lw_at lw_m0 122 rfl) rfl
theorem q128 : (Jvm.Cond.methodLink "UtfDeskModel" (25 : Nat) ({ cls := "UtfDeskModel", name := "follows", desc := "(II)Z" } : Jvm.MethodName)) ∈ lw_all := lw_g (lw_at lw_m0 123 rfl) rfl
theorem q129 : (Jvm.Cond.static ({ cls := "UtfDeskModel", name := "follows", desc := "(II)Z" } : Jvm.MethodName)) ∈ lw_all := lw_g (lw_at lw_m0 124 rfl) rfl
theorem q130 : (Jvm.Cond.code ({ cls := "UtfDeskModel", name := "follows", desc := "(II)Z" } : Jvm.MethodName) prog_4_method_6_code (4 : Nat) (Option.some Jvm.ClassFile.FieldType.boolean)) ∈ lw_all := lw_g (lw_at lw_m0 125 rfl) rfl
theorem q131 : (Jvm.Cond.constant "UtfDeskModel" (36 : Nat) (65535 : Int32)) ∈ lw_all := lw_g (lw_at lw_m0 126 rfl) rfl
theorem q132 : (Jvm.Cond.constant "UtfDeskModel" (37 : Nat) (55296 : Int32)) ∈ lw_all := lw_g (lw_at lw_m0 127 rfl) rfl
theorem q133 : (Jvm.Cond.constant "UtfDeskModel" (38 : Nat) (65536 : Int32)) ∈ lw_all := lw_g (lw_at lw_m0 128 rfl) rfl
theorem q134 : (Jvm.Cond.constant "UtfDeskModel" (39 : Nat) (56320 : Int32)) ∈ lw_all := lw_g (lw_at lw_m0 129 rfl) rfl
theorem q136 : (Jvm.Cond.instanceMethod ({ cls := "UtfDeskModel", name := "unit", desc := "(I)I" } : Jvm.MethodName)) ∈ lw_all := lw_g (lw_at lw_m0 131 rfl) rfl
theorem q137 : (Jvm.Cond.selects "UtfDeskModel" ({ cls := "UtfDeskModel", name := "unit", desc := "(I)I" } : Jvm.MethodName) ({ cls := "UtfDeskModel", name := "unit", desc := "(I)I" } : Jvm.MethodName)) ∈ lw_all := lw_g (lw_at lw_m0 132 rfl) rfl
theorem q138 : (Jvm.Cond.code ({ cls := "UtfDeskModel", name := "unit", desc := "(I)I" } : Jvm.MethodName) prog_4_method_9_code (2 : Nat) (Option.some Jvm.ClassFile.FieldType.int)) ∈ lw_all := lw_g (lw_at lw_m0 133 rfl) rfl
theorem q140 : (Jvm.Cond.instanceMethod ({ cls := "UtfDeskModel", name := "set", desc := "(II)Z" } : Jvm.MethodName)) ∈ lw_all := lw_g (lw_at lw_m0 135 rfl) rfl
theorem q141 : (Jvm.Cond.selects "UtfDeskModel" ({ cls := "UtfDeskModel", name := "set", desc := "(II)Z" } : Jvm.MethodName) ({ cls := "UtfDeskModel", name := "set", desc := "(II)Z" } : Jvm.MethodName)) ∈ lw_all := lw_g (lw_at lw_m0 136 rfl) rfl
theorem q142 : (Jvm.Cond.code ({ cls := "UtfDeskModel", name := "set", desc := "(II)Z" } : Jvm.MethodName) prog_4_method_10_code (3 : Nat) (Option.some Jvm.ClassFile.FieldType.boolean)) ∈ lw_all := lw_g (lw_at lw_m0 137 rfl) rfl
theorem q144 : (Jvm.Cond.instanceMethod ({ cls := "UtfDeskModel", name := "letter", desc := "(II)I" } : Jvm.MethodName)) ∈ lw_all := lw_g (lw_at lw_m0 139 rfl) rfl
theorem q145 : (Jvm.Cond.selects "UtfDeskModel" ({ cls := "UtfDeskModel", name := "letter", desc := "(II)I" } : Jvm.MethodName) ({ cls := "UtfDeskModel", name := "letter", desc := "(II)I" } : Jvm.MethodName)) ∈ lw_all := lw_g (lw_at lw_m0 140 rfl) rfl
theorem q146 : (Jvm.Cond.code ({ cls := "UtfDeskModel", name := "letter", desc := "(II)I" } : Jvm.MethodName) prog_4_method_11_code (8 : Nat) (Option.some Jvm.ClassFile.FieldType.int)) ∈ lw_all := lw_g (lw_at lw_m0 141 rfl) rfl
theorem q147 : (Jvm.Cond.constant "UtfDeskModel" (40 : Nat) (1114112 : Int32)) ∈ lw_all := lw_g (lw_at lw_m0 142 rfl) rfl
theorem in_X1 : ∀ w ∈ wsX10, w ∈ lw_all := lw_in wsX10 [96, 98, 100] (by decide +kernel) (by decide +kernel)
/-! UTF8 -/
set_option maxRecDepth 100000
def RX2 : String := "UTF8"
abbrev cX2_transcodeToUTF16 : ByteArray := prog_1_method_3_code
def yX2_transcodeToUTF16 : MethodName := ⟨RX2, "transcodeToUTF16", "([B[C)I"⟩
def dkwX2_transcodeToUTF16_0 : List UInt8 := [42, 3, 42, 190, 43, 184, 0, 7, 172]
abbrev dktX2_transcodeToUTF16_0 : List UInt8 := dkwX2_transcodeToUTF16_0 ++ []
theorem dksX2_transcodeToUTF16_0 : cX2_transcodeToUTF16.data.toList.drop 0 = dktX2_transcodeToUTF16_0 := by decide +kernel
theorem dX2_transcodeToUTF16_0 : decode cX2_transcodeToUTF16 0 = .ok (.aload_n 0, 1) := dk_42 (dk_at dksX2_transcodeToUTF16_0 0 rfl rfl)
theorem dX2_transcodeToUTF16_1 : decode cX2_transcodeToUTF16 1 = .ok (.iconst 0, 1) := dk_3 (dk_at dksX2_transcodeToUTF16_0 1 rfl rfl)
theorem dX2_transcodeToUTF16_2 : decode cX2_transcodeToUTF16 2 = .ok (.aload_n 0, 1) := dk_42 (dk_at dksX2_transcodeToUTF16_0 2 rfl rfl)
theorem dX2_transcodeToUTF16_3 : decode cX2_transcodeToUTF16 3 = .ok (.arraylength, 1) := dk_190 (dk_at dksX2_transcodeToUTF16_0 3 rfl rfl)
theorem dX2_transcodeToUTF16_4 : decode cX2_transcodeToUTF16 4 = .ok (.aload_n 1, 1) := dk_43 (dk_at dksX2_transcodeToUTF16_0 4 rfl rfl)
theorem dX2_transcodeToUTF16_5 : decode cX2_transcodeToUTF16 5 = .ok (.invokestatic 7, 3) := dk_184 0 7 (dk_at dksX2_transcodeToUTF16_0 5 rfl rfl)
theorem dX2_transcodeToUTF16_8 : decode cX2_transcodeToUTF16 8 = .ok (.ireturn, 1) := dk_172 (dk_at dksX2_transcodeToUTF16_0 8 rfl rfl)
abbrev cX2_transcodeToUTF16_2 : ByteArray := prog_1_method_4_code
def yX2_transcodeToUTF16_2 : MethodName := ⟨RX2, "transcodeToUTF16", "([BII[C)I"⟩
def dkwX2_transcodeToUTF16_2_9 : List UInt8 := [85, 167, 255, 52, 21, 5, 172]
abbrev dktX2_transcodeToUTF16_2_9 : List UInt8 := dkwX2_transcodeToUTF16_2_9 ++ []
def dkwX2_transcodeToUTF16_2_8 : List UInt8 := [21, 9, 16, 10, 124, 96, 146, 85, 45, 21, 5, 132, 5, 1, 18, 23, 21, 9, 17, 3, 255, 126, 128, 146]
abbrev dktX2_transcodeToUTF16_2_8 : List UInt8 := dkwX2_transcodeToUTF16_2_8 ++ dktX2_transcodeToUTF16_2_9
def dkwX2_transcodeToUTF16_2_7 : List UInt8 := [146, 85, 167, 0, 47, 21, 5, 45, 190, 4, 100, 161, 0, 5, 2, 172, 45, 21, 5, 132, 5, 1, 18, 22]
abbrev dktX2_transcodeToUTF16_2_7 : List UInt8 := dkwX2_transcodeToUTF16_2_7 ++ dktX2_transcodeToUTF16_2_8
def dkwX2_transcodeToUTF16_2_6 : List UInt8 := [21, 9, 18, 21, 163, 0, 25, 21, 5, 45, 190, 161, 0, 5, 2, 172, 45, 21, 5, 132, 5, 1, 21, 9]
abbrev dktX2_transcodeToUTF16_2_6 : List UInt8 := dkwX2_transcodeToUTF16_2_6 ++ dktX2_transcodeToUTF16_2_7
def dkwX2_transcodeToUTF16_2_5 : List UInt8 := [21, 7, 17, 0, 255, 126, 7, 124, 96, 51, 54, 10, 167, 255, 203, 21, 10, 16, 254, 160, 0, 5, 2, 172]
abbrev dktX2_transcodeToUTF16_2_5 : List UInt8 := dkwX2_transcodeToUTF16_2_5 ++ dktX2_transcodeToUTF16_2_6
def dkwX2_transcodeToUTF16_2_4 : List UInt8 := [132, 4, 1, 51, 54, 7, 21, 9, 16, 6, 120, 21, 7, 16, 63, 126, 128, 54, 9, 178, 0, 17, 21, 10]
abbrev dktX2_transcodeToUTF16_2_4 : List UInt8 := dkwX2_transcodeToUTF16_2_4 ++ dktX2_transcodeToUTF16_2_5
def dkwX2_transcodeToUTF16_2_3 : List UInt8 := [54, 9, 21, 8, 145, 54, 10, 21, 10, 155, 0, 54, 21, 4, 21, 6, 161, 0, 5, 2, 172, 42, 21, 4]
abbrev dktX2_transcodeToUTF16_2_3 : List UInt8 := dkwX2_transcodeToUTF16_2_3 ++ dktX2_transcodeToUTF16_2_4
def dkwX2_transcodeToUTF16_2_2 : List UInt8 := [21, 7, 146, 85, 167, 255, 216, 178, 0, 13, 21, 7, 16, 127, 126, 53, 54, 8, 21, 8, 16, 8, 124]
abbrev dktX2_transcodeToUTF16_2_2 : List UInt8 := dkwX2_transcodeToUTF16_2_2 ++ dktX2_transcodeToUTF16_2_3
def dkwX2_transcodeToUTF16_2_1 : List UInt8 := [51, 54, 7, 21, 7, 155, 0, 25, 21, 5, 45, 190, 161, 0, 5, 2, 172, 45, 21, 5, 132, 5, 1]
abbrev dktX2_transcodeToUTF16_2_1 : List UInt8 := dkwX2_transcodeToUTF16_2_1 ++ dktX2_transcodeToUTF16_2_2
def dkwX2_transcodeToUTF16_2_0 : List UInt8 := [27, 54, 4, 3, 54, 5, 27, 28, 96, 54, 6, 21, 4, 21, 6, 162, 0, 203, 42, 21, 4, 132, 4, 1]
abbrev dktX2_transcodeToUTF16_2_0 : List UInt8 := dkwX2_transcodeToUTF16_2_0 ++ dktX2_transcodeToUTF16_2_1
theorem dksX2_transcodeToUTF16_2_0 : cX2_transcodeToUTF16_2.data.toList.drop 0 = dktX2_transcodeToUTF16_2_0 := by decide +kernel
theorem dksX2_transcodeToUTF16_2_1 : cX2_transcodeToUTF16_2.data.toList.drop 24 = dktX2_transcodeToUTF16_2_1 := dk_seg dksX2_transcodeToUTF16_2_0 24 rfl rfl
theorem dksX2_transcodeToUTF16_2_2 : cX2_transcodeToUTF16_2.data.toList.drop 47 = dktX2_transcodeToUTF16_2_2 := dk_seg dksX2_transcodeToUTF16_2_1 23 rfl rfl
theorem dksX2_transcodeToUTF16_2_3 : cX2_transcodeToUTF16_2.data.toList.drop 70 = dktX2_transcodeToUTF16_2_3 := dk_seg dksX2_transcodeToUTF16_2_2 23 rfl rfl
theorem dksX2_transcodeToUTF16_2_4 : cX2_transcodeToUTF16_2.data.toList.drop 94 = dktX2_transcodeToUTF16_2_4 := dk_seg dksX2_transcodeToUTF16_2_3 24 rfl rfl
theorem dksX2_transcodeToUTF16_2_5 : cX2_transcodeToUTF16_2.data.toList.drop 118 = dktX2_transcodeToUTF16_2_5 := dk_seg dksX2_transcodeToUTF16_2_4 24 rfl rfl
theorem dksX2_transcodeToUTF16_2_6 : cX2_transcodeToUTF16_2.data.toList.drop 142 = dktX2_transcodeToUTF16_2_6 := dk_seg dksX2_transcodeToUTF16_2_5 24 rfl rfl
theorem dksX2_transcodeToUTF16_2_7 : cX2_transcodeToUTF16_2.data.toList.drop 166 = dktX2_transcodeToUTF16_2_7 := dk_seg dksX2_transcodeToUTF16_2_6 24 rfl rfl
theorem dksX2_transcodeToUTF16_2_8 : cX2_transcodeToUTF16_2.data.toList.drop 190 = dktX2_transcodeToUTF16_2_8 := dk_seg dksX2_transcodeToUTF16_2_7 24 rfl rfl
theorem dksX2_transcodeToUTF16_2_9 : cX2_transcodeToUTF16_2.data.toList.drop 214 = dktX2_transcodeToUTF16_2_9 := dk_seg dksX2_transcodeToUTF16_2_8 24 rfl rfl
theorem dX2_transcodeToUTF16_2_0 : decode cX2_transcodeToUTF16_2 0 = .ok (.iload_n 1, 1) := dk_27 (dk_at dksX2_transcodeToUTF16_2_0 0 rfl rfl)
theorem dX2_transcodeToUTF16_2_1 : decode cX2_transcodeToUTF16_2 1 = .ok (.istore 4, 2) := dk_54 4 (dk_at dksX2_transcodeToUTF16_2_0 1 rfl rfl)
theorem dX2_transcodeToUTF16_2_3 : decode cX2_transcodeToUTF16_2 3 = .ok (.iconst 0, 1) := dk_3 (dk_at dksX2_transcodeToUTF16_2_0 3 rfl rfl)
theorem dX2_transcodeToUTF16_2_4 : decode cX2_transcodeToUTF16_2 4 = .ok (.istore 5, 2) := dk_54 5 (dk_at dksX2_transcodeToUTF16_2_0 4 rfl rfl)
theorem dX2_transcodeToUTF16_2_6 : decode cX2_transcodeToUTF16_2 6 = .ok (.iload_n 1, 1) := dk_27 (dk_at dksX2_transcodeToUTF16_2_0 6 rfl rfl)
theorem dX2_transcodeToUTF16_2_7 : decode cX2_transcodeToUTF16_2 7 = .ok (.iload_n 2, 1) := dk_28 (dk_at dksX2_transcodeToUTF16_2_0 7 rfl rfl)
theorem dX2_transcodeToUTF16_2_8 : decode cX2_transcodeToUTF16_2 8 = .ok (.iadd, 1) := dk_96 (dk_at dksX2_transcodeToUTF16_2_0 8 rfl rfl)
theorem dX2_transcodeToUTF16_2_9 : decode cX2_transcodeToUTF16_2 9 = .ok (.istore 6, 2) := dk_54 6 (dk_at dksX2_transcodeToUTF16_2_0 9 rfl rfl)
theorem dX2_transcodeToUTF16_2_11 : decode cX2_transcodeToUTF16_2 11 = .ok (.iload 4, 2) := dk_21 4 (dk_at dksX2_transcodeToUTF16_2_0 11 rfl rfl)
theorem dX2_transcodeToUTF16_2_13 : decode cX2_transcodeToUTF16_2 13 = .ok (.iload 6, 2) := dk_21 6 (dk_at dksX2_transcodeToUTF16_2_0 13 rfl rfl)
theorem dX2_transcodeToUTF16_2_15 : decode cX2_transcodeToUTF16_2 15 = .ok (.if_icmp .ge 203, 3) := dk_162 0 203 (dk_at dksX2_transcodeToUTF16_2_0 15 rfl rfl)
theorem dX2_transcodeToUTF16_2_18 : decode cX2_transcodeToUTF16_2 18 = .ok (.aload_n 0, 1) := dk_42 (dk_at dksX2_transcodeToUTF16_2_0 18 rfl rfl)
theorem dX2_transcodeToUTF16_2_19 : decode cX2_transcodeToUTF16_2 19 = .ok (.iload 4, 2) := dk_21 4 (dk_at dksX2_transcodeToUTF16_2_0 19 rfl rfl)
theorem dX2_transcodeToUTF16_2_21 : decode cX2_transcodeToUTF16_2 21 = .ok (.iinc 4 1, 3) := dk_132 4 1 (dk_at dksX2_transcodeToUTF16_2_0 21 rfl rfl)
theorem dX2_transcodeToUTF16_2_24 : decode cX2_transcodeToUTF16_2 24 = .ok (.baload, 1) := dk_51 (dk_at dksX2_transcodeToUTF16_2_1 0 rfl rfl)
theorem dX2_transcodeToUTF16_2_25 : decode cX2_transcodeToUTF16_2 25 = .ok (.istore 7, 2) := dk_54 7 (dk_at dksX2_transcodeToUTF16_2_1 1 rfl rfl)
theorem dX2_transcodeToUTF16_2_27 : decode cX2_transcodeToUTF16_2 27 = .ok (.iload 7, 2) := dk_21 7 (dk_at dksX2_transcodeToUTF16_2_1 3 rfl rfl)
theorem dX2_transcodeToUTF16_2_29 : decode cX2_transcodeToUTF16_2 29 = .ok (.ifCond .lt 25, 3) := dk_155 0 25 (dk_at dksX2_transcodeToUTF16_2_1 5 rfl rfl)
theorem dX2_transcodeToUTF16_2_32 : decode cX2_transcodeToUTF16_2 32 = .ok (.iload 5, 2) := dk_21 5 (dk_at dksX2_transcodeToUTF16_2_1 8 rfl rfl)
theorem dX2_transcodeToUTF16_2_34 : decode cX2_transcodeToUTF16_2 34 = .ok (.aload_n 3, 1) := dk_45 (dk_at dksX2_transcodeToUTF16_2_1 10 rfl rfl)
theorem dX2_transcodeToUTF16_2_35 : decode cX2_transcodeToUTF16_2 35 = .ok (.arraylength, 1) := dk_190 (dk_at dksX2_transcodeToUTF16_2_1 11 rfl rfl)
theorem dX2_transcodeToUTF16_2_36 : decode cX2_transcodeToUTF16_2 36 = .ok (.if_icmp .lt 5, 3) := dk_161 0 5 (dk_at dksX2_transcodeToUTF16_2_1 12 rfl rfl)
theorem dX2_transcodeToUTF16_2_39 : decode cX2_transcodeToUTF16_2 39 = .ok (.iconst (-1), 1) := dk_2 (dk_at dksX2_transcodeToUTF16_2_1 15 rfl rfl)
theorem dX2_transcodeToUTF16_2_40 : decode cX2_transcodeToUTF16_2 40 = .ok (.ireturn, 1) := dk_172 (dk_at dksX2_transcodeToUTF16_2_1 16 rfl rfl)
theorem dX2_transcodeToUTF16_2_41 : decode cX2_transcodeToUTF16_2 41 = .ok (.aload_n 3, 1) := dk_45 (dk_at dksX2_transcodeToUTF16_2_1 17 rfl rfl)
theorem dX2_transcodeToUTF16_2_42 : decode cX2_transcodeToUTF16_2 42 = .ok (.iload 5, 2) := dk_21 5 (dk_at dksX2_transcodeToUTF16_2_1 18 rfl rfl)
theorem dX2_transcodeToUTF16_2_44 : decode cX2_transcodeToUTF16_2 44 = .ok (.iinc 5 1, 3) := dk_132 5 1 (dk_at dksX2_transcodeToUTF16_2_1 20 rfl rfl)
theorem dX2_transcodeToUTF16_2_47 : decode cX2_transcodeToUTF16_2 47 = .ok (.iload 7, 2) := dk_21 7 (dk_at dksX2_transcodeToUTF16_2_2 0 rfl rfl)
theorem dX2_transcodeToUTF16_2_49 : decode cX2_transcodeToUTF16_2 49 = .ok (.i2c, 1) := dk_146 (dk_at dksX2_transcodeToUTF16_2_2 2 rfl rfl)
theorem dX2_transcodeToUTF16_2_50 : decode cX2_transcodeToUTF16_2 50 = .ok (.castore, 1) := dk_85 (dk_at dksX2_transcodeToUTF16_2_2 3 rfl rfl)
theorem dX2_transcodeToUTF16_2_51 : decode cX2_transcodeToUTF16_2 51 = .ok (.goto (-40), 3) := dk_167 255 216 (dk_at dksX2_transcodeToUTF16_2_2 4 rfl rfl)
theorem dX2_transcodeToUTF16_2_54 : decode cX2_transcodeToUTF16_2 54 = .ok (.getstatic 13, 3) := dk_178 0 13 (dk_at dksX2_transcodeToUTF16_2_2 7 rfl rfl)
theorem dX2_transcodeToUTF16_2_57 : decode cX2_transcodeToUTF16_2 57 = .ok (.iload 7, 2) := dk_21 7 (dk_at dksX2_transcodeToUTF16_2_2 10 rfl rfl)
theorem dX2_transcodeToUTF16_2_59 : decode cX2_transcodeToUTF16_2 59 = .ok (.bipush 127, 2) := dk_16 127 (dk_at dksX2_transcodeToUTF16_2_2 12 rfl rfl)
theorem dX2_transcodeToUTF16_2_61 : decode cX2_transcodeToUTF16_2 61 = .ok (.iand, 1) := dk_126 (dk_at dksX2_transcodeToUTF16_2_2 14 rfl rfl)
theorem dX2_transcodeToUTF16_2_62 : decode cX2_transcodeToUTF16_2 62 = .ok (.saload, 1) := dk_53 (dk_at dksX2_transcodeToUTF16_2_2 15 rfl rfl)
theorem dX2_transcodeToUTF16_2_63 : decode cX2_transcodeToUTF16_2 63 = .ok (.istore 8, 2) := dk_54 8 (dk_at dksX2_transcodeToUTF16_2_2 16 rfl rfl)
theorem dX2_transcodeToUTF16_2_65 : decode cX2_transcodeToUTF16_2 65 = .ok (.iload 8, 2) := dk_21 8 (dk_at dksX2_transcodeToUTF16_2_2 18 rfl rfl)
theorem dX2_transcodeToUTF16_2_67 : decode cX2_transcodeToUTF16_2 67 = .ok (.bipush 8, 2) := dk_16 8 (dk_at dksX2_transcodeToUTF16_2_2 20 rfl rfl)
theorem dX2_transcodeToUTF16_2_69 : decode cX2_transcodeToUTF16_2 69 = .ok (.iushr, 1) := dk_124 (dk_at dksX2_transcodeToUTF16_2_2 22 rfl rfl)
theorem dX2_transcodeToUTF16_2_70 : decode cX2_transcodeToUTF16_2 70 = .ok (.istore 9, 2) := dk_54 9 (dk_at dksX2_transcodeToUTF16_2_3 0 rfl rfl)
theorem dX2_transcodeToUTF16_2_72 : decode cX2_transcodeToUTF16_2 72 = .ok (.iload 8, 2) := dk_21 8 (dk_at dksX2_transcodeToUTF16_2_3 2 rfl rfl)
theorem dX2_transcodeToUTF16_2_74 : decode cX2_transcodeToUTF16_2 74 = .ok (.i2b, 1) := dk_145 (dk_at dksX2_transcodeToUTF16_2_3 4 rfl rfl)
theorem dX2_transcodeToUTF16_2_75 : decode cX2_transcodeToUTF16_2 75 = .ok (.istore 10, 2) := dk_54 10 (dk_at dksX2_transcodeToUTF16_2_3 5 rfl rfl)
theorem dX2_transcodeToUTF16_2_77 : decode cX2_transcodeToUTF16_2 77 = .ok (.iload 10, 2) := dk_21 10 (dk_at dksX2_transcodeToUTF16_2_3 7 rfl rfl)
theorem dX2_transcodeToUTF16_2_79 : decode cX2_transcodeToUTF16_2 79 = .ok (.ifCond .lt 54, 3) := dk_155 0 54 (dk_at dksX2_transcodeToUTF16_2_3 9 rfl rfl)
theorem dX2_transcodeToUTF16_2_82 : decode cX2_transcodeToUTF16_2 82 = .ok (.iload 4, 2) := dk_21 4 (dk_at dksX2_transcodeToUTF16_2_3 12 rfl rfl)
theorem dX2_transcodeToUTF16_2_84 : decode cX2_transcodeToUTF16_2 84 = .ok (.iload 6, 2) := dk_21 6 (dk_at dksX2_transcodeToUTF16_2_3 14 rfl rfl)
theorem dX2_transcodeToUTF16_2_86 : decode cX2_transcodeToUTF16_2 86 = .ok (.if_icmp .lt 5, 3) := dk_161 0 5 (dk_at dksX2_transcodeToUTF16_2_3 16 rfl rfl)
theorem dX2_transcodeToUTF16_2_89 : decode cX2_transcodeToUTF16_2 89 = .ok (.iconst (-1), 1) := dk_2 (dk_at dksX2_transcodeToUTF16_2_3 19 rfl rfl)
theorem dX2_transcodeToUTF16_2_90 : decode cX2_transcodeToUTF16_2 90 = .ok (.ireturn, 1) := dk_172 (dk_at dksX2_transcodeToUTF16_2_3 20 rfl rfl)
theorem dX2_transcodeToUTF16_2_91 : decode cX2_transcodeToUTF16_2 91 = .ok (.aload_n 0, 1) := dk_42 (dk_at dksX2_transcodeToUTF16_2_3 21 rfl rfl)
theorem dX2_transcodeToUTF16_2_92 : decode cX2_transcodeToUTF16_2 92 = .ok (.iload 4, 2) := dk_21 4 (dk_at dksX2_transcodeToUTF16_2_3 22 rfl rfl)
theorem dX2_transcodeToUTF16_2_94 : decode cX2_transcodeToUTF16_2 94 = .ok (.iinc 4 1, 3) := dk_132 4 1 (dk_at dksX2_transcodeToUTF16_2_4 0 rfl rfl)
theorem dX2_transcodeToUTF16_2_97 : decode cX2_transcodeToUTF16_2 97 = .ok (.baload, 1) := dk_51 (dk_at dksX2_transcodeToUTF16_2_4 3 rfl rfl)
theorem dX2_transcodeToUTF16_2_98 : decode cX2_transcodeToUTF16_2 98 = .ok (.istore 7, 2) := dk_54 7 (dk_at dksX2_transcodeToUTF16_2_4 4 rfl rfl)
theorem dX2_transcodeToUTF16_2_100 : decode cX2_transcodeToUTF16_2 100 = .ok (.iload 9, 2) := dk_21 9 (dk_at dksX2_transcodeToUTF16_2_4 6 rfl rfl)
theorem dX2_transcodeToUTF16_2_102 : decode cX2_transcodeToUTF16_2 102 = .ok (.bipush 6, 2) := dk_16 6 (dk_at dksX2_transcodeToUTF16_2_4 8 rfl rfl)
theorem dX2_transcodeToUTF16_2_104 : decode cX2_transcodeToUTF16_2 104 = .ok (.ishl, 1) := dk_120 (dk_at dksX2_transcodeToUTF16_2_4 10 rfl rfl)
theorem dX2_transcodeToUTF16_2_105 : decode cX2_transcodeToUTF16_2 105 = .ok (.iload 7, 2) := dk_21 7 (dk_at dksX2_transcodeToUTF16_2_4 11 rfl rfl)
theorem dX2_transcodeToUTF16_2_107 : decode cX2_transcodeToUTF16_2 107 = .ok (.bipush 63, 2) := dk_16 63 (dk_at dksX2_transcodeToUTF16_2_4 13 rfl rfl)
theorem dX2_transcodeToUTF16_2_109 : decode cX2_transcodeToUTF16_2 109 = .ok (.iand, 1) := dk_126 (dk_at dksX2_transcodeToUTF16_2_4 15 rfl rfl)
theorem dX2_transcodeToUTF16_2_110 : decode cX2_transcodeToUTF16_2 110 = .ok (.ior, 1) := dk_128 (dk_at dksX2_transcodeToUTF16_2_4 16 rfl rfl)
theorem dX2_transcodeToUTF16_2_111 : decode cX2_transcodeToUTF16_2 111 = .ok (.istore 9, 2) := dk_54 9 (dk_at dksX2_transcodeToUTF16_2_4 17 rfl rfl)
theorem dX2_transcodeToUTF16_2_113 : decode cX2_transcodeToUTF16_2 113 = .ok (.getstatic 17, 3) := dk_178 0 17 (dk_at dksX2_transcodeToUTF16_2_4 19 rfl rfl)
theorem dX2_transcodeToUTF16_2_116 : decode cX2_transcodeToUTF16_2 116 = .ok (.iload 10, 2) := dk_21 10 (dk_at dksX2_transcodeToUTF16_2_4 22 rfl rfl)
theorem dX2_transcodeToUTF16_2_118 : decode cX2_transcodeToUTF16_2 118 = .ok (.iload 7, 2) := dk_21 7 (dk_at dksX2_transcodeToUTF16_2_5 0 rfl rfl)
theorem dX2_transcodeToUTF16_2_120 : decode cX2_transcodeToUTF16_2 120 = .ok (.sipush 255, 3) := dk_17 0 255 (dk_at dksX2_transcodeToUTF16_2_5 2 rfl rfl)
theorem dX2_transcodeToUTF16_2_123 : decode cX2_transcodeToUTF16_2 123 = .ok (.iand, 1) := dk_126 (dk_at dksX2_transcodeToUTF16_2_5 5 rfl rfl)
theorem dX2_transcodeToUTF16_2_124 : decode cX2_transcodeToUTF16_2 124 = .ok (.iconst 4, 1) := dk_7 (dk_at dksX2_transcodeToUTF16_2_5 6 rfl rfl)
theorem dX2_transcodeToUTF16_2_125 : decode cX2_transcodeToUTF16_2 125 = .ok (.iushr, 1) := dk_124 (dk_at dksX2_transcodeToUTF16_2_5 7 rfl rfl)
theorem dX2_transcodeToUTF16_2_126 : decode cX2_transcodeToUTF16_2 126 = .ok (.iadd, 1) := dk_96 (dk_at dksX2_transcodeToUTF16_2_5 8 rfl rfl)
theorem dX2_transcodeToUTF16_2_127 : decode cX2_transcodeToUTF16_2 127 = .ok (.baload, 1) := dk_51 (dk_at dksX2_transcodeToUTF16_2_5 9 rfl rfl)
theorem dX2_transcodeToUTF16_2_128 : decode cX2_transcodeToUTF16_2 128 = .ok (.istore 10, 2) := dk_54 10 (dk_at dksX2_transcodeToUTF16_2_5 10 rfl rfl)
theorem dX2_transcodeToUTF16_2_130 : decode cX2_transcodeToUTF16_2 130 = .ok (.goto (-53), 3) := dk_167 255 203 (dk_at dksX2_transcodeToUTF16_2_5 12 rfl rfl)
theorem dX2_transcodeToUTF16_2_133 : decode cX2_transcodeToUTF16_2 133 = .ok (.iload 10, 2) := dk_21 10 (dk_at dksX2_transcodeToUTF16_2_5 15 rfl rfl)
theorem dX2_transcodeToUTF16_2_135 : decode cX2_transcodeToUTF16_2 135 = .ok (.bipush (-2), 2) := dk_16 254 (dk_at dksX2_transcodeToUTF16_2_5 17 rfl rfl)
theorem dX2_transcodeToUTF16_2_137 : decode cX2_transcodeToUTF16_2 137 = .ok (.if_icmp .ne 5, 3) := dk_160 0 5 (dk_at dksX2_transcodeToUTF16_2_5 19 rfl rfl)
theorem dX2_transcodeToUTF16_2_140 : decode cX2_transcodeToUTF16_2 140 = .ok (.iconst (-1), 1) := dk_2 (dk_at dksX2_transcodeToUTF16_2_5 22 rfl rfl)
theorem dX2_transcodeToUTF16_2_141 : decode cX2_transcodeToUTF16_2 141 = .ok (.ireturn, 1) := dk_172 (dk_at dksX2_transcodeToUTF16_2_5 23 rfl rfl)
theorem dX2_transcodeToUTF16_2_142 : decode cX2_transcodeToUTF16_2 142 = .ok (.iload 9, 2) := dk_21 9 (dk_at dksX2_transcodeToUTF16_2_6 0 rfl rfl)
theorem dX2_transcodeToUTF16_2_144 : decode cX2_transcodeToUTF16_2 144 = .ok (.ldc 21, 2) := dk_18 21 (dk_at dksX2_transcodeToUTF16_2_6 2 rfl rfl)
theorem dX2_transcodeToUTF16_2_146 : decode cX2_transcodeToUTF16_2 146 = .ok (.if_icmp .gt 25, 3) := dk_163 0 25 (dk_at dksX2_transcodeToUTF16_2_6 4 rfl rfl)
theorem dX2_transcodeToUTF16_2_149 : decode cX2_transcodeToUTF16_2 149 = .ok (.iload 5, 2) := dk_21 5 (dk_at dksX2_transcodeToUTF16_2_6 7 rfl rfl)
theorem dX2_transcodeToUTF16_2_151 : decode cX2_transcodeToUTF16_2 151 = .ok (.aload_n 3, 1) := dk_45 (dk_at dksX2_transcodeToUTF16_2_6 9 rfl rfl)
theorem dX2_transcodeToUTF16_2_152 : decode cX2_transcodeToUTF16_2 152 = .ok (.arraylength, 1) := dk_190 (dk_at dksX2_transcodeToUTF16_2_6 10 rfl rfl)
theorem dX2_transcodeToUTF16_2_153 : decode cX2_transcodeToUTF16_2 153 = .ok (.if_icmp .lt 5, 3) := dk_161 0 5 (dk_at dksX2_transcodeToUTF16_2_6 11 rfl rfl)
theorem dX2_transcodeToUTF16_2_156 : decode cX2_transcodeToUTF16_2 156 = .ok (.iconst (-1), 1) := dk_2 (dk_at dksX2_transcodeToUTF16_2_6 14 rfl rfl)
theorem dX2_transcodeToUTF16_2_157 : decode cX2_transcodeToUTF16_2 157 = .ok (.ireturn, 1) := dk_172 (dk_at dksX2_transcodeToUTF16_2_6 15 rfl rfl)
theorem dX2_transcodeToUTF16_2_158 : decode cX2_transcodeToUTF16_2 158 = .ok (.aload_n 3, 1) := dk_45 (dk_at dksX2_transcodeToUTF16_2_6 16 rfl rfl)
theorem dX2_transcodeToUTF16_2_159 : decode cX2_transcodeToUTF16_2 159 = .ok (.iload 5, 2) := dk_21 5 (dk_at dksX2_transcodeToUTF16_2_6 17 rfl rfl)
theorem dX2_transcodeToUTF16_2_161 : decode cX2_transcodeToUTF16_2 161 = .ok (.iinc 5 1, 3) := dk_132 5 1 (dk_at dksX2_transcodeToUTF16_2_6 19 rfl rfl)
theorem dX2_transcodeToUTF16_2_164 : decode cX2_transcodeToUTF16_2 164 = .ok (.iload 9, 2) := dk_21 9 (dk_at dksX2_transcodeToUTF16_2_6 22 rfl rfl)
theorem dX2_transcodeToUTF16_2_166 : decode cX2_transcodeToUTF16_2 166 = .ok (.i2c, 1) := dk_146 (dk_at dksX2_transcodeToUTF16_2_7 0 rfl rfl)
theorem dX2_transcodeToUTF16_2_167 : decode cX2_transcodeToUTF16_2 167 = .ok (.castore, 1) := dk_85 (dk_at dksX2_transcodeToUTF16_2_7 1 rfl rfl)
theorem dX2_transcodeToUTF16_2_168 : decode cX2_transcodeToUTF16_2 168 = .ok (.goto 47, 3) := dk_167 0 47 (dk_at dksX2_transcodeToUTF16_2_7 2 rfl rfl)
theorem dX2_transcodeToUTF16_2_171 : decode cX2_transcodeToUTF16_2 171 = .ok (.iload 5, 2) := dk_21 5 (dk_at dksX2_transcodeToUTF16_2_7 5 rfl rfl)
theorem dX2_transcodeToUTF16_2_173 : decode cX2_transcodeToUTF16_2 173 = .ok (.aload_n 3, 1) := dk_45 (dk_at dksX2_transcodeToUTF16_2_7 7 rfl rfl)
theorem dX2_transcodeToUTF16_2_174 : decode cX2_transcodeToUTF16_2 174 = .ok (.arraylength, 1) := dk_190 (dk_at dksX2_transcodeToUTF16_2_7 8 rfl rfl)
theorem dX2_transcodeToUTF16_2_175 : decode cX2_transcodeToUTF16_2 175 = .ok (.iconst 1, 1) := dk_4 (dk_at dksX2_transcodeToUTF16_2_7 9 rfl rfl)
theorem dX2_transcodeToUTF16_2_176 : decode cX2_transcodeToUTF16_2 176 = .ok (.isub, 1) := dk_100 (dk_at dksX2_transcodeToUTF16_2_7 10 rfl rfl)
theorem dX2_transcodeToUTF16_2_177 : decode cX2_transcodeToUTF16_2 177 = .ok (.if_icmp .lt 5, 3) := dk_161 0 5 (dk_at dksX2_transcodeToUTF16_2_7 11 rfl rfl)
theorem dX2_transcodeToUTF16_2_180 : decode cX2_transcodeToUTF16_2 180 = .ok (.iconst (-1), 1) := dk_2 (dk_at dksX2_transcodeToUTF16_2_7 14 rfl rfl)
theorem dX2_transcodeToUTF16_2_181 : decode cX2_transcodeToUTF16_2 181 = .ok (.ireturn, 1) := dk_172 (dk_at dksX2_transcodeToUTF16_2_7 15 rfl rfl)
theorem dX2_transcodeToUTF16_2_182 : decode cX2_transcodeToUTF16_2 182 = .ok (.aload_n 3, 1) := dk_45 (dk_at dksX2_transcodeToUTF16_2_7 16 rfl rfl)
theorem dX2_transcodeToUTF16_2_183 : decode cX2_transcodeToUTF16_2 183 = .ok (.iload 5, 2) := dk_21 5 (dk_at dksX2_transcodeToUTF16_2_7 17 rfl rfl)
theorem dX2_transcodeToUTF16_2_185 : decode cX2_transcodeToUTF16_2 185 = .ok (.iinc 5 1, 3) := dk_132 5 1 (dk_at dksX2_transcodeToUTF16_2_7 19 rfl rfl)
theorem dX2_transcodeToUTF16_2_188 : decode cX2_transcodeToUTF16_2 188 = .ok (.ldc 22, 2) := dk_18 22 (dk_at dksX2_transcodeToUTF16_2_7 22 rfl rfl)
theorem dX2_transcodeToUTF16_2_190 : decode cX2_transcodeToUTF16_2 190 = .ok (.iload 9, 2) := dk_21 9 (dk_at dksX2_transcodeToUTF16_2_8 0 rfl rfl)
theorem dX2_transcodeToUTF16_2_192 : decode cX2_transcodeToUTF16_2 192 = .ok (.bipush 10, 2) := dk_16 10 (dk_at dksX2_transcodeToUTF16_2_8 2 rfl rfl)
theorem dX2_transcodeToUTF16_2_194 : decode cX2_transcodeToUTF16_2 194 = .ok (.iushr, 1) := dk_124 (dk_at dksX2_transcodeToUTF16_2_8 4 rfl rfl)
theorem dX2_transcodeToUTF16_2_195 : decode cX2_transcodeToUTF16_2 195 = .ok (.iadd, 1) := dk_96 (dk_at dksX2_transcodeToUTF16_2_8 5 rfl rfl)
theorem dX2_transcodeToUTF16_2_196 : decode cX2_transcodeToUTF16_2 196 = .ok (.i2c, 1) := dk_146 (dk_at dksX2_transcodeToUTF16_2_8 6 rfl rfl)
theorem dX2_transcodeToUTF16_2_197 : decode cX2_transcodeToUTF16_2 197 = .ok (.castore, 1) := dk_85 (dk_at dksX2_transcodeToUTF16_2_8 7 rfl rfl)
theorem dX2_transcodeToUTF16_2_198 : decode cX2_transcodeToUTF16_2 198 = .ok (.aload_n 3, 1) := dk_45 (dk_at dksX2_transcodeToUTF16_2_8 8 rfl rfl)
theorem dX2_transcodeToUTF16_2_199 : decode cX2_transcodeToUTF16_2 199 = .ok (.iload 5, 2) := dk_21 5 (dk_at dksX2_transcodeToUTF16_2_8 9 rfl rfl)
theorem dX2_transcodeToUTF16_2_201 : decode cX2_transcodeToUTF16_2 201 = .ok (.iinc 5 1, 3) := dk_132 5 1 (dk_at dksX2_transcodeToUTF16_2_8 11 rfl rfl)
theorem dX2_transcodeToUTF16_2_204 : decode cX2_transcodeToUTF16_2 204 = .ok (.ldc 23, 2) := dk_18 23 (dk_at dksX2_transcodeToUTF16_2_8 14 rfl rfl)
theorem dX2_transcodeToUTF16_2_206 : decode cX2_transcodeToUTF16_2 206 = .ok (.iload 9, 2) := dk_21 9 (dk_at dksX2_transcodeToUTF16_2_8 16 rfl rfl)
theorem dX2_transcodeToUTF16_2_208 : decode cX2_transcodeToUTF16_2 208 = .ok (.sipush 1023, 3) := dk_17 3 255 (dk_at dksX2_transcodeToUTF16_2_8 18 rfl rfl)
theorem dX2_transcodeToUTF16_2_211 : decode cX2_transcodeToUTF16_2 211 = .ok (.iand, 1) := dk_126 (dk_at dksX2_transcodeToUTF16_2_8 21 rfl rfl)
theorem dX2_transcodeToUTF16_2_212 : decode cX2_transcodeToUTF16_2 212 = .ok (.ior, 1) := dk_128 (dk_at dksX2_transcodeToUTF16_2_8 22 rfl rfl)
theorem dX2_transcodeToUTF16_2_213 : decode cX2_transcodeToUTF16_2 213 = .ok (.i2c, 1) := dk_146 (dk_at dksX2_transcodeToUTF16_2_8 23 rfl rfl)
theorem dX2_transcodeToUTF16_2_214 : decode cX2_transcodeToUTF16_2 214 = .ok (.castore, 1) := dk_85 (dk_at dksX2_transcodeToUTF16_2_9 0 rfl rfl)
theorem dX2_transcodeToUTF16_2_215 : decode cX2_transcodeToUTF16_2 215 = .ok (.goto (-204), 3) := dk_167 255 52 (dk_at dksX2_transcodeToUTF16_2_9 1 rfl rfl)
theorem dX2_transcodeToUTF16_2_218 : decode cX2_transcodeToUTF16_2 218 = .ok (.iload 5, 2) := dk_21 5 (dk_at dksX2_transcodeToUTF16_2_9 4 rfl rfl)
theorem dX2_transcodeToUTF16_2_220 : decode cX2_transcodeToUTF16_2 220 = .ok (.ireturn, 1) := dk_172 (dk_at dksX2_transcodeToUTF16_2_9 6 rfl rfl)
theorem q8 : (Jvm.Cond.initialized "UTF8") ∈ lw_all := lw_g (lw_at lw_m0 3 rfl) rfl
theorem q61 : (Jvm.Cond.static ({ cls := "UTF8", name := "transcodeToUTF16", desc := "([B[C)I" } : Jvm.MethodName)) ∈ lw_all := lw_g (lw_at lw_m0 56 rfl) rfl
theorem q62 : (Jvm.Cond.code ({ cls := "UTF8", name := "transcodeToUTF16", desc := "([B[C)I" } : Jvm.MethodName) prog_1_method_3_code (2 : Nat) (Option.some Jvm.ClassFile.FieldType.int)) ∈ lw_all := lw_g (lw_at lw_m0 57 rfl) rfl
theorem q63 : (Jvm.Cond.methodLink "UTF8" (7 : Nat) ({ cls := "UTF8", name := "transcodeToUTF16", desc := "([BII[C)I" } : Jvm.MethodName)) ∈ lw_all := lw_g (lw_at lw_m0 58 rfl) rfl
theorem q64 : (Jvm.Cond.static ({ cls := "UTF8", name := "transcodeToUTF16", desc := "([BII[C)I" } : Jvm.MethodName)) ∈ lw_all := lw_g (lw_at lw_m0 59 rfl) rfl
theorem q65 : (Jvm.Cond.code ({ cls := "UTF8", name := "transcodeToUTF16", desc := "([BII[C)I" } : Jvm.MethodName) prog_1_method_4_code (11 : Nat) (Option.some Jvm.ClassFile.FieldType.int)) ∈ lw_all := lw_g (lw_at lw_m0 60 rfl) rfl
theorem q66 : (Jvm.Cond.fieldLink "UTF8" (13 : Nat) "UTF8" "firstUnitTable" "[S") ∈ lw_all := lw_g (lw_at lw_m0 61 rfl) rfl
theorem q67 : (Jvm.Cond.laysStatic "UTF8" "firstUnitTable" "[S") ∈ lw_tbl := lw_at lw_m0 62 rfl
theorem q68 : (Jvm.Cond.fieldLink "UTF8" (17 : Nat) "UTF8" "transitionTable" "[B") ∈ lw_all := lw_g (lw_at lw_m0 63 rfl) rfl
theorem q69 : (Jvm.Cond.laysStatic "UTF8" "transitionTable" "[B") ∈ lw_tbl := lw_at lw_m0 64 rfl
theorem q70 : (Jvm.Cond.constant "UTF8" (21 : Nat) (65535 : Int32)) ∈ lw_all := lw_g (lw_at lw_m0 65 rfl) rfl
theorem q71 : (Jvm.Cond.constant "UTF8" (22 : Nat) (55232 : Int32)) ∈ lw_all := lw_g (lw_at lw_m0 66 rfl) rfl
theorem q72 : (Jvm.Cond.constant "UTF8" (23 : Nat) (56320 : Int32)) ∈ lw_all := lw_g (lw_at lw_m0 67 rfl) rfl
theorem q5 : (Jvm.Cond.initialized "UtfDeskLaw") ∈ lw_all := lw_g (lw_at lw_m0 0 rfl) rfl
set_option maxRecDepth 100000
theorem q9 : (Jvm.Cond.classLink "UtfDeskLaw" (7 : Nat) "UtfDesk") ∈ lw_all := lw_g (lw_at lw_m0 4 rfl) rfl
theorem q11 : (Jvm.Cond.methodLink "UtfDeskLaw" (9 : Nat) ({ cls := "UtfDesk", name := "<init>", desc := "()V" } : Jvm.MethodName)) ∈ lw_all := lw_g (lw_at lw_m0 6 rfl) rfl
theorem q32 : (Jvm.Cond.methodLink "UtfDeskLaw" (13 : Nat) ({ cls := "UtfDesk", name := "put", desc := "(IIII)Z" } : Jvm.MethodName)) ∈ lw_all := lw_g (lw_at lw_m0 27 rfl) rfl
theorem q39 : (Jvm.Cond.methodLink "UtfDeskLaw" (18 : Nat) ({ cls := "UtfDesk", name := "trim", desc := "(I)V" } : Jvm.MethodName)) ∈ lw_all := lw_g (lw_at lw_m0 34 rfl) rfl
theorem q48 : (Jvm.Cond.methodLink "UtfDeskLaw" (23 : Nat) ({ cls := "UtfDesk", name := "turn", desc := "(III)I" } : Jvm.MethodName)) ∈ lw_all := lw_g (lw_at lw_m0 43 rfl) rfl
theorem q73 : (Jvm.Cond.methodLink "UtfDeskLaw" (28 : Nat) ({ cls := "UtfDesk", name := "unit", desc := "(I)I" } : Jvm.MethodName)) ∈ lw_all := lw_g (lw_at lw_m0 68 rfl) rfl
theorem q77 : (Jvm.Cond.methodLink "UtfDeskLaw" (33 : Nat) ({ cls := "UtfDesk", name := "set", desc := "(II)Z" } : Jvm.MethodName)) ∈ lw_all := lw_g (lw_at lw_m0 72 rfl) rfl
theorem q81 : (Jvm.Cond.methodLink "UtfDeskLaw" (38 : Nat) ({ cls := "UtfDesk", name := "letter", desc := "(II)I" } : Jvm.MethodName)) ∈ lw_all := lw_g (lw_at lw_m0 76 rfl) rfl
theorem q87 : (Jvm.Cond.classLink "UtfDeskLaw" (10 : Nat) "UtfDeskModel") ∈ lw_all := lw_g (lw_at lw_m0 82 rfl) rfl
theorem q89 : (Jvm.Cond.methodLink "UtfDeskLaw" (12 : Nat) ({ cls := "UtfDeskModel", name := "<init>", desc := "()V" } : Jvm.MethodName)) ∈ lw_all := lw_g (lw_at lw_m0 84 rfl) rfl
theorem q104 : (Jvm.Cond.methodLink "UtfDeskLaw" (17 : Nat) ({ cls := "UtfDeskModel", name := "put", desc := "(IIII)Z" } : Jvm.MethodName)) ∈ lw_all := lw_g (lw_at lw_m0 99 rfl) rfl
theorem q108 : (Jvm.Cond.methodLink "UtfDeskLaw" (22 : Nat) ({ cls := "UtfDeskModel", name := "trim", desc := "(I)V" } : Jvm.MethodName)) ∈ lw_all := lw_g (lw_at lw_m0 103 rfl) rfl
theorem q117 : (Jvm.Cond.methodLink "UtfDeskLaw" (27 : Nat) ({ cls := "UtfDeskModel", name := "turn", desc := "(III)I" } : Jvm.MethodName)) ∈ lw_all := lw_g (lw_at lw_m0 112 rfl) rfl
theorem q135 : (Jvm.Cond.methodLink "UtfDeskLaw" (32 : Nat) ({ cls := "UtfDeskModel", name := "unit", desc := "(I)I" } : Jvm.MethodName)) ∈ lw_all := lw_g (lw_at lw_m0 130 rfl) rfl
theorem q139 : (Jvm.Cond.methodLink "UtfDeskLaw" (37 : Nat) ({ cls := "UtfDeskModel", name := "set", desc := "(II)Z" } : Jvm.MethodName)) ∈ lw_all := lw_g (lw_at lw_m0 134 rfl) rfl
theorem q143 : (Jvm.Cond.methodLink "UtfDeskLaw" (42 : Nat) ({ cls := "UtfDeskModel", name := "letter", desc := "(II)I" } : Jvm.MethodName)) ∈ lw_all := lw_g (lw_at lw_m0 138 rfl) rfl
/-! the law's own entry -/
set_option maxRecDepth 100000
abbrev cL_law : ByteArray := code
def dkwL_law_12 : List UInt8 := [172]
abbrev dktL_law_12 : List UInt8 := dkwL_law_12 ++ []
def dkwL_law_11 : List UInt8 := [29, 4, 96, 46, 42, 29, 5, 96, 46, 182, 0, 42, 159, 0, 5, 3, 172, 132, 3, 6, 167, 254, 249, 4]
abbrev dktL_law_11 : List UInt8 := dkwL_law_11 ++ dktL_law_12
def dkwL_law_10 : List UInt8 := [182, 0, 37, 159, 0, 38, 3, 172, 43, 42, 29, 4, 96, 46, 42, 29, 5, 96, 46, 182, 0, 38, 44, 42]
abbrev dktL_law_10 : List UInt8 := dkwL_law_10 ++ dktL_law_11
def dkwL_law_9 : List UInt8 := [4, 96, 46, 42, 29, 5, 96, 46, 182, 0, 33, 44, 42, 29, 4, 96, 46, 42, 29, 5, 96, 46]
abbrev dktL_law_9 : List UInt8 := dkwL_law_9 ++ dktL_law_10
def dkwL_law_8 : List UInt8 := [29, 4, 96, 46, 182, 0, 28, 44, 42, 29, 4, 96, 46, 182, 0, 32, 159, 0, 71, 3, 172, 43, 42, 29]
abbrev dktL_law_8 : List UInt8 := dkwL_law_8 ++ dktL_law_9
def dkwL_law_7 : List UInt8 := [29, 4, 96, 46, 42, 29, 5, 96, 46, 42, 29, 6, 96, 46, 182, 0, 27, 159, 0, 94, 3, 172, 43, 42]
abbrev dktL_law_7 : List UInt8 := dkwL_law_7 ++ dktL_law_8
def dkwL_law_6 : List UInt8 := [167, 0, 135, 43, 42, 29, 4, 96, 46, 42, 29, 5, 96, 46, 42, 29, 6, 96, 46, 182, 0, 23, 44, 42]
abbrev dktL_law_6 : List UInt8 := dkwL_law_6 ++ dktL_law_7
def dkwL_law_5 : List UInt8 := [159, 0, 158, 3, 172, 43, 42, 29, 4, 96, 46, 182, 0, 18, 44, 42, 29, 4, 96, 46, 182, 0, 22]
abbrev dktL_law_5 : List UInt8 := dkwL_law_5 ++ dktL_law_6
def dkwL_law_4 : List UInt8 := [44, 42, 29, 4, 96, 46, 42, 29, 5, 96, 46, 42, 29, 6, 96, 46, 42, 29, 7, 96, 46, 182, 0, 17]
abbrev dktL_law_4 : List UInt8 := dkwL_law_4 ++ dktL_law_5
def dkwL_law_3 : List UInt8 := [43, 42, 29, 4, 96, 46, 42, 29, 5, 96, 46, 42, 29, 6, 96, 46, 42, 29, 7, 96, 46, 182, 0, 13]
abbrev dktL_law_3 : List UInt8 := dkwL_law_3 ++ dktL_law_4
def dkwL_law_2 : List UInt8 := [170, 0, 0, 0, 0, 0, 245, 0, 0, 0, 0, 0, 0, 0, 5, 0, 0, 0, 39, 0, 0, 0, 92, 0, 0, 0, 113, 0, 0, 0, 156, 0, 0, 0, 179, 0, 0, 0, 212]
abbrev dktL_law_2 : List UInt8 := dkwL_law_2 ++ dktL_law_3
def dkwL_law_1 : List UInt8 := [163, 1, 4, 42, 29, 46, 16, 7, 126]
abbrev dktL_law_1 : List UInt8 := dkwL_law_1 ++ dktL_law_2
def dkwL_law_0 : List UInt8 := [187, 0, 7, 89, 183, 0, 9, 76, 187, 0, 10, 89, 183, 0, 12, 77, 3, 62, 29, 42, 190, 16, 6, 100]
abbrev dktL_law_0 : List UInt8 := dkwL_law_0 ++ dktL_law_1
theorem dksL_law_0 : cL_law.data.toList.drop 0 = dktL_law_0 := by decide +kernel
theorem dksL_law_1 : cL_law.data.toList.drop 24 = dktL_law_1 := dk_seg dksL_law_0 24 rfl rfl
theorem dksL_law_2 : cL_law.data.toList.drop 33 = dktL_law_2 := dk_seg dksL_law_1 9 rfl rfl
theorem dksL_law_3 : cL_law.data.toList.drop 72 = dktL_law_3 := dk_seg dksL_law_2 39 rfl rfl
theorem dksL_law_4 : cL_law.data.toList.drop 96 = dktL_law_4 := dk_seg dksL_law_3 24 rfl rfl
theorem dksL_law_5 : cL_law.data.toList.drop 120 = dktL_law_5 := dk_seg dksL_law_4 24 rfl rfl
theorem dksL_law_6 : cL_law.data.toList.drop 143 = dktL_law_6 := dk_seg dksL_law_5 23 rfl rfl
theorem dksL_law_7 : cL_law.data.toList.drop 167 = dktL_law_7 := dk_seg dksL_law_6 24 rfl rfl
theorem dksL_law_8 : cL_law.data.toList.drop 191 = dktL_law_8 := dk_seg dksL_law_7 24 rfl rfl
theorem dksL_law_9 : cL_law.data.toList.drop 215 = dktL_law_9 := dk_seg dksL_law_8 24 rfl rfl
theorem dksL_law_10 : cL_law.data.toList.drop 237 = dktL_law_10 := dk_seg dksL_law_9 22 rfl rfl
theorem dksL_law_11 : cL_law.data.toList.drop 261 = dktL_law_11 := dk_seg dksL_law_10 24 rfl rfl
theorem dksL_law_12 : cL_law.data.toList.drop 285 = dktL_law_12 := dk_seg dksL_law_11 24 rfl rfl
theorem dL_law_0 : decode cL_law 0 = .ok (.new 7, 3) := dk_187 0 7 (dk_at dksL_law_0 0 rfl rfl)
theorem dL_law_3 : decode cL_law 3 = .ok (.dup, 1) := dk_89 (dk_at dksL_law_0 3 rfl rfl)
theorem dL_law_4 : decode cL_law 4 = .ok (.invokespecial 9, 3) := dk_183 0 9 (dk_at dksL_law_0 4 rfl rfl)
theorem dL_law_7 : decode cL_law 7 = .ok (.astore_n 1, 1) := dk_76 (dk_at dksL_law_0 7 rfl rfl)
theorem dL_law_8 : decode cL_law 8 = .ok (.new 10, 3) := dk_187 0 10 (dk_at dksL_law_0 8 rfl rfl)
theorem dL_law_11 : decode cL_law 11 = .ok (.dup, 1) := dk_89 (dk_at dksL_law_0 11 rfl rfl)
theorem dL_law_12 : decode cL_law 12 = .ok (.invokespecial 12, 3) := dk_183 0 12 (dk_at dksL_law_0 12 rfl rfl)
theorem dL_law_15 : decode cL_law 15 = .ok (.astore_n 2, 1) := dk_77 (dk_at dksL_law_0 15 rfl rfl)
theorem dL_law_16 : decode cL_law 16 = .ok (.iconst 0, 1) := dk_3 (dk_at dksL_law_0 16 rfl rfl)
theorem dL_law_17 : decode cL_law 17 = .ok (.istore_n 3, 1) := dk_62 (dk_at dksL_law_0 17 rfl rfl)
theorem dL_law_18 : decode cL_law 18 = .ok (.iload_n 3, 1) := dk_29 (dk_at dksL_law_0 18 rfl rfl)
theorem dL_law_19 : decode cL_law 19 = .ok (.aload_n 0, 1) := dk_42 (dk_at dksL_law_0 19 rfl rfl)
theorem dL_law_20 : decode cL_law 20 = .ok (.arraylength, 1) := dk_190 (dk_at dksL_law_0 20 rfl rfl)
theorem dL_law_21 : decode cL_law 21 = .ok (.bipush 6, 2) := dk_16 6 (dk_at dksL_law_0 21 rfl rfl)
theorem dL_law_23 : decode cL_law 23 = .ok (.isub, 1) := dk_100 (dk_at dksL_law_0 23 rfl rfl)
theorem dL_law_24 : decode cL_law 24 = .ok (.if_icmp .gt 260, 3) := dk_163 1 4 (dk_at dksL_law_1 0 rfl rfl)
theorem dL_law_27 : decode cL_law 27 = .ok (.aload_n 0, 1) := dk_42 (dk_at dksL_law_1 3 rfl rfl)
theorem dL_law_28 : decode cL_law 28 = .ok (.iload_n 3, 1) := dk_29 (dk_at dksL_law_1 4 rfl rfl)
theorem dL_law_29 : decode cL_law 29 = .ok (.iaload, 1) := dk_46 (dk_at dksL_law_1 5 rfl rfl)
theorem dL_law_30 : decode cL_law 30 = .ok (.bipush 7, 2) := dk_16 7 (dk_at dksL_law_1 6 rfl rfl)
theorem dL_law_32 : decode cL_law 32 = .ok (.iand, 1) := dk_126 (dk_at dksL_law_1 8 rfl rfl)
theorem dL_law_33 : decode cL_law 33 = .ok (.tableswitch 245 0 5 #[39, 92, 113, 156, 179, 212], 39) := by decide +kernel
theorem dL_law_72 : decode cL_law 72 = .ok (.aload_n 1, 1) := dk_43 (dk_at dksL_law_3 0 rfl rfl)
theorem dL_law_73 : decode cL_law 73 = .ok (.aload_n 0, 1) := dk_42 (dk_at dksL_law_3 1 rfl rfl)
theorem dL_law_74 : decode cL_law 74 = .ok (.iload_n 3, 1) := dk_29 (dk_at dksL_law_3 2 rfl rfl)
theorem dL_law_75 : decode cL_law 75 = .ok (.iconst 1, 1) := dk_4 (dk_at dksL_law_3 3 rfl rfl)
theorem dL_law_76 : decode cL_law 76 = .ok (.iadd, 1) := dk_96 (dk_at dksL_law_3 4 rfl rfl)
theorem dL_law_77 : decode cL_law 77 = .ok (.iaload, 1) := dk_46 (dk_at dksL_law_3 5 rfl rfl)
theorem dL_law_78 : decode cL_law 78 = .ok (.aload_n 0, 1) := dk_42 (dk_at dksL_law_3 6 rfl rfl)
theorem dL_law_79 : decode cL_law 79 = .ok (.iload_n 3, 1) := dk_29 (dk_at dksL_law_3 7 rfl rfl)
theorem dL_law_80 : decode cL_law 80 = .ok (.iconst 2, 1) := dk_5 (dk_at dksL_law_3 8 rfl rfl)
theorem dL_law_81 : decode cL_law 81 = .ok (.iadd, 1) := dk_96 (dk_at dksL_law_3 9 rfl rfl)
theorem dL_law_82 : decode cL_law 82 = .ok (.iaload, 1) := dk_46 (dk_at dksL_law_3 10 rfl rfl)
theorem dL_law_83 : decode cL_law 83 = .ok (.aload_n 0, 1) := dk_42 (dk_at dksL_law_3 11 rfl rfl)
theorem dL_law_84 : decode cL_law 84 = .ok (.iload_n 3, 1) := dk_29 (dk_at dksL_law_3 12 rfl rfl)
theorem dL_law_85 : decode cL_law 85 = .ok (.iconst 3, 1) := dk_6 (dk_at dksL_law_3 13 rfl rfl)
theorem dL_law_86 : decode cL_law 86 = .ok (.iadd, 1) := dk_96 (dk_at dksL_law_3 14 rfl rfl)
theorem dL_law_87 : decode cL_law 87 = .ok (.iaload, 1) := dk_46 (dk_at dksL_law_3 15 rfl rfl)
theorem dL_law_88 : decode cL_law 88 = .ok (.aload_n 0, 1) := dk_42 (dk_at dksL_law_3 16 rfl rfl)
theorem dL_law_89 : decode cL_law 89 = .ok (.iload_n 3, 1) := dk_29 (dk_at dksL_law_3 17 rfl rfl)
theorem dL_law_90 : decode cL_law 90 = .ok (.iconst 4, 1) := dk_7 (dk_at dksL_law_3 18 rfl rfl)
theorem dL_law_91 : decode cL_law 91 = .ok (.iadd, 1) := dk_96 (dk_at dksL_law_3 19 rfl rfl)
theorem dL_law_92 : decode cL_law 92 = .ok (.iaload, 1) := dk_46 (dk_at dksL_law_3 20 rfl rfl)
theorem dL_law_93 : decode cL_law 93 = .ok (.invokevirtual 13, 3) := dk_182 0 13 (dk_at dksL_law_3 21 rfl rfl)
theorem dL_law_96 : decode cL_law 96 = .ok (.aload_n 2, 1) := dk_44 (dk_at dksL_law_4 0 rfl rfl)
theorem dL_law_97 : decode cL_law 97 = .ok (.aload_n 0, 1) := dk_42 (dk_at dksL_law_4 1 rfl rfl)
theorem dL_law_98 : decode cL_law 98 = .ok (.iload_n 3, 1) := dk_29 (dk_at dksL_law_4 2 rfl rfl)
theorem dL_law_99 : decode cL_law 99 = .ok (.iconst 1, 1) := dk_4 (dk_at dksL_law_4 3 rfl rfl)
theorem dL_law_100 : decode cL_law 100 = .ok (.iadd, 1) := dk_96 (dk_at dksL_law_4 4 rfl rfl)
theorem dL_law_101 : decode cL_law 101 = .ok (.iaload, 1) := dk_46 (dk_at dksL_law_4 5 rfl rfl)
theorem dL_law_102 : decode cL_law 102 = .ok (.aload_n 0, 1) := dk_42 (dk_at dksL_law_4 6 rfl rfl)
theorem dL_law_103 : decode cL_law 103 = .ok (.iload_n 3, 1) := dk_29 (dk_at dksL_law_4 7 rfl rfl)
theorem dL_law_104 : decode cL_law 104 = .ok (.iconst 2, 1) := dk_5 (dk_at dksL_law_4 8 rfl rfl)
theorem dL_law_105 : decode cL_law 105 = .ok (.iadd, 1) := dk_96 (dk_at dksL_law_4 9 rfl rfl)
theorem dL_law_106 : decode cL_law 106 = .ok (.iaload, 1) := dk_46 (dk_at dksL_law_4 10 rfl rfl)
theorem dL_law_107 : decode cL_law 107 = .ok (.aload_n 0, 1) := dk_42 (dk_at dksL_law_4 11 rfl rfl)
theorem dL_law_108 : decode cL_law 108 = .ok (.iload_n 3, 1) := dk_29 (dk_at dksL_law_4 12 rfl rfl)
theorem dL_law_109 : decode cL_law 109 = .ok (.iconst 3, 1) := dk_6 (dk_at dksL_law_4 13 rfl rfl)
theorem dL_law_110 : decode cL_law 110 = .ok (.iadd, 1) := dk_96 (dk_at dksL_law_4 14 rfl rfl)
theorem dL_law_111 : decode cL_law 111 = .ok (.iaload, 1) := dk_46 (dk_at dksL_law_4 15 rfl rfl)
theorem dL_law_112 : decode cL_law 112 = .ok (.aload_n 0, 1) := dk_42 (dk_at dksL_law_4 16 rfl rfl)
theorem dL_law_113 : decode cL_law 113 = .ok (.iload_n 3, 1) := dk_29 (dk_at dksL_law_4 17 rfl rfl)
theorem dL_law_114 : decode cL_law 114 = .ok (.iconst 4, 1) := dk_7 (dk_at dksL_law_4 18 rfl rfl)
theorem dL_law_115 : decode cL_law 115 = .ok (.iadd, 1) := dk_96 (dk_at dksL_law_4 19 rfl rfl)
theorem dL_law_116 : decode cL_law 116 = .ok (.iaload, 1) := dk_46 (dk_at dksL_law_4 20 rfl rfl)
theorem dL_law_117 : decode cL_law 117 = .ok (.invokevirtual 17, 3) := dk_182 0 17 (dk_at dksL_law_4 21 rfl rfl)
theorem dL_law_120 : decode cL_law 120 = .ok (.if_icmp .eq 158, 3) := dk_159 0 158 (dk_at dksL_law_5 0 rfl rfl)
theorem dL_law_123 : decode cL_law 123 = .ok (.iconst 0, 1) := dk_3 (dk_at dksL_law_5 3 rfl rfl)
theorem dL_law_124 : decode cL_law 124 = .ok (.ireturn, 1) := dk_172 (dk_at dksL_law_5 4 rfl rfl)
theorem dL_law_125 : decode cL_law 125 = .ok (.aload_n 1, 1) := dk_43 (dk_at dksL_law_5 5 rfl rfl)
theorem dL_law_126 : decode cL_law 126 = .ok (.aload_n 0, 1) := dk_42 (dk_at dksL_law_5 6 rfl rfl)
theorem dL_law_127 : decode cL_law 127 = .ok (.iload_n 3, 1) := dk_29 (dk_at dksL_law_5 7 rfl rfl)
theorem dL_law_128 : decode cL_law 128 = .ok (.iconst 1, 1) := dk_4 (dk_at dksL_law_5 8 rfl rfl)
theorem dL_law_129 : decode cL_law 129 = .ok (.iadd, 1) := dk_96 (dk_at dksL_law_5 9 rfl rfl)
theorem dL_law_130 : decode cL_law 130 = .ok (.iaload, 1) := dk_46 (dk_at dksL_law_5 10 rfl rfl)
theorem dL_law_131 : decode cL_law 131 = .ok (.invokevirtual 18, 3) := dk_182 0 18 (dk_at dksL_law_5 11 rfl rfl)
theorem dL_law_134 : decode cL_law 134 = .ok (.aload_n 2, 1) := dk_44 (dk_at dksL_law_5 14 rfl rfl)
theorem dL_law_135 : decode cL_law 135 = .ok (.aload_n 0, 1) := dk_42 (dk_at dksL_law_5 15 rfl rfl)
theorem dL_law_136 : decode cL_law 136 = .ok (.iload_n 3, 1) := dk_29 (dk_at dksL_law_5 16 rfl rfl)
theorem dL_law_137 : decode cL_law 137 = .ok (.iconst 1, 1) := dk_4 (dk_at dksL_law_5 17 rfl rfl)
theorem dL_law_138 : decode cL_law 138 = .ok (.iadd, 1) := dk_96 (dk_at dksL_law_5 18 rfl rfl)
theorem dL_law_139 : decode cL_law 139 = .ok (.iaload, 1) := dk_46 (dk_at dksL_law_5 19 rfl rfl)
theorem dL_law_140 : decode cL_law 140 = .ok (.invokevirtual 22, 3) := dk_182 0 22 (dk_at dksL_law_5 20 rfl rfl)
theorem dL_law_143 : decode cL_law 143 = .ok (.goto 135, 3) := dk_167 0 135 (dk_at dksL_law_6 0 rfl rfl)
theorem dL_law_146 : decode cL_law 146 = .ok (.aload_n 1, 1) := dk_43 (dk_at dksL_law_6 3 rfl rfl)
theorem dL_law_147 : decode cL_law 147 = .ok (.aload_n 0, 1) := dk_42 (dk_at dksL_law_6 4 rfl rfl)
theorem dL_law_148 : decode cL_law 148 = .ok (.iload_n 3, 1) := dk_29 (dk_at dksL_law_6 5 rfl rfl)
theorem dL_law_149 : decode cL_law 149 = .ok (.iconst 1, 1) := dk_4 (dk_at dksL_law_6 6 rfl rfl)
theorem dL_law_150 : decode cL_law 150 = .ok (.iadd, 1) := dk_96 (dk_at dksL_law_6 7 rfl rfl)
theorem dL_law_151 : decode cL_law 151 = .ok (.iaload, 1) := dk_46 (dk_at dksL_law_6 8 rfl rfl)
theorem dL_law_152 : decode cL_law 152 = .ok (.aload_n 0, 1) := dk_42 (dk_at dksL_law_6 9 rfl rfl)
theorem dL_law_153 : decode cL_law 153 = .ok (.iload_n 3, 1) := dk_29 (dk_at dksL_law_6 10 rfl rfl)
theorem dL_law_154 : decode cL_law 154 = .ok (.iconst 2, 1) := dk_5 (dk_at dksL_law_6 11 rfl rfl)
theorem dL_law_155 : decode cL_law 155 = .ok (.iadd, 1) := dk_96 (dk_at dksL_law_6 12 rfl rfl)
theorem dL_law_156 : decode cL_law 156 = .ok (.iaload, 1) := dk_46 (dk_at dksL_law_6 13 rfl rfl)
theorem dL_law_157 : decode cL_law 157 = .ok (.aload_n 0, 1) := dk_42 (dk_at dksL_law_6 14 rfl rfl)
theorem dL_law_158 : decode cL_law 158 = .ok (.iload_n 3, 1) := dk_29 (dk_at dksL_law_6 15 rfl rfl)
theorem dL_law_159 : decode cL_law 159 = .ok (.iconst 3, 1) := dk_6 (dk_at dksL_law_6 16 rfl rfl)
theorem dL_law_160 : decode cL_law 160 = .ok (.iadd, 1) := dk_96 (dk_at dksL_law_6 17 rfl rfl)
theorem dL_law_161 : decode cL_law 161 = .ok (.iaload, 1) := dk_46 (dk_at dksL_law_6 18 rfl rfl)
theorem dL_law_162 : decode cL_law 162 = .ok (.invokevirtual 23, 3) := dk_182 0 23 (dk_at dksL_law_6 19 rfl rfl)
theorem dL_law_165 : decode cL_law 165 = .ok (.aload_n 2, 1) := dk_44 (dk_at dksL_law_6 22 rfl rfl)
theorem dL_law_166 : decode cL_law 166 = .ok (.aload_n 0, 1) := dk_42 (dk_at dksL_law_6 23 rfl rfl)
theorem dL_law_167 : decode cL_law 167 = .ok (.iload_n 3, 1) := dk_29 (dk_at dksL_law_7 0 rfl rfl)
theorem dL_law_168 : decode cL_law 168 = .ok (.iconst 1, 1) := dk_4 (dk_at dksL_law_7 1 rfl rfl)
theorem dL_law_169 : decode cL_law 169 = .ok (.iadd, 1) := dk_96 (dk_at dksL_law_7 2 rfl rfl)
theorem dL_law_170 : decode cL_law 170 = .ok (.iaload, 1) := dk_46 (dk_at dksL_law_7 3 rfl rfl)
theorem dL_law_171 : decode cL_law 171 = .ok (.aload_n 0, 1) := dk_42 (dk_at dksL_law_7 4 rfl rfl)
theorem dL_law_172 : decode cL_law 172 = .ok (.iload_n 3, 1) := dk_29 (dk_at dksL_law_7 5 rfl rfl)
theorem dL_law_173 : decode cL_law 173 = .ok (.iconst 2, 1) := dk_5 (dk_at dksL_law_7 6 rfl rfl)
theorem dL_law_174 : decode cL_law 174 = .ok (.iadd, 1) := dk_96 (dk_at dksL_law_7 7 rfl rfl)
theorem dL_law_175 : decode cL_law 175 = .ok (.iaload, 1) := dk_46 (dk_at dksL_law_7 8 rfl rfl)
theorem dL_law_176 : decode cL_law 176 = .ok (.aload_n 0, 1) := dk_42 (dk_at dksL_law_7 9 rfl rfl)
theorem dL_law_177 : decode cL_law 177 = .ok (.iload_n 3, 1) := dk_29 (dk_at dksL_law_7 10 rfl rfl)
theorem dL_law_178 : decode cL_law 178 = .ok (.iconst 3, 1) := dk_6 (dk_at dksL_law_7 11 rfl rfl)
theorem dL_law_179 : decode cL_law 179 = .ok (.iadd, 1) := dk_96 (dk_at dksL_law_7 12 rfl rfl)
theorem dL_law_180 : decode cL_law 180 = .ok (.iaload, 1) := dk_46 (dk_at dksL_law_7 13 rfl rfl)
theorem dL_law_181 : decode cL_law 181 = .ok (.invokevirtual 27, 3) := dk_182 0 27 (dk_at dksL_law_7 14 rfl rfl)
theorem dL_law_184 : decode cL_law 184 = .ok (.if_icmp .eq 94, 3) := dk_159 0 94 (dk_at dksL_law_7 17 rfl rfl)
theorem dL_law_187 : decode cL_law 187 = .ok (.iconst 0, 1) := dk_3 (dk_at dksL_law_7 20 rfl rfl)
theorem dL_law_188 : decode cL_law 188 = .ok (.ireturn, 1) := dk_172 (dk_at dksL_law_7 21 rfl rfl)
theorem dL_law_189 : decode cL_law 189 = .ok (.aload_n 1, 1) := dk_43 (dk_at dksL_law_7 22 rfl rfl)
theorem dL_law_190 : decode cL_law 190 = .ok (.aload_n 0, 1) := dk_42 (dk_at dksL_law_7 23 rfl rfl)
theorem dL_law_191 : decode cL_law 191 = .ok (.iload_n 3, 1) := dk_29 (dk_at dksL_law_8 0 rfl rfl)
theorem dL_law_192 : decode cL_law 192 = .ok (.iconst 1, 1) := dk_4 (dk_at dksL_law_8 1 rfl rfl)
theorem dL_law_193 : decode cL_law 193 = .ok (.iadd, 1) := dk_96 (dk_at dksL_law_8 2 rfl rfl)
theorem dL_law_194 : decode cL_law 194 = .ok (.iaload, 1) := dk_46 (dk_at dksL_law_8 3 rfl rfl)
theorem dL_law_195 : decode cL_law 195 = .ok (.invokevirtual 28, 3) := dk_182 0 28 (dk_at dksL_law_8 4 rfl rfl)
theorem dL_law_198 : decode cL_law 198 = .ok (.aload_n 2, 1) := dk_44 (dk_at dksL_law_8 7 rfl rfl)
theorem dL_law_199 : decode cL_law 199 = .ok (.aload_n 0, 1) := dk_42 (dk_at dksL_law_8 8 rfl rfl)
theorem dL_law_200 : decode cL_law 200 = .ok (.iload_n 3, 1) := dk_29 (dk_at dksL_law_8 9 rfl rfl)
theorem dL_law_201 : decode cL_law 201 = .ok (.iconst 1, 1) := dk_4 (dk_at dksL_law_8 10 rfl rfl)
theorem dL_law_202 : decode cL_law 202 = .ok (.iadd, 1) := dk_96 (dk_at dksL_law_8 11 rfl rfl)
theorem dL_law_203 : decode cL_law 203 = .ok (.iaload, 1) := dk_46 (dk_at dksL_law_8 12 rfl rfl)
theorem dL_law_204 : decode cL_law 204 = .ok (.invokevirtual 32, 3) := dk_182 0 32 (dk_at dksL_law_8 13 rfl rfl)
theorem dL_law_207 : decode cL_law 207 = .ok (.if_icmp .eq 71, 3) := dk_159 0 71 (dk_at dksL_law_8 16 rfl rfl)
theorem dL_law_210 : decode cL_law 210 = .ok (.iconst 0, 1) := dk_3 (dk_at dksL_law_8 19 rfl rfl)
theorem dL_law_211 : decode cL_law 211 = .ok (.ireturn, 1) := dk_172 (dk_at dksL_law_8 20 rfl rfl)
theorem dL_law_212 : decode cL_law 212 = .ok (.aload_n 1, 1) := dk_43 (dk_at dksL_law_8 21 rfl rfl)
theorem dL_law_213 : decode cL_law 213 = .ok (.aload_n 0, 1) := dk_42 (dk_at dksL_law_8 22 rfl rfl)
theorem dL_law_214 : decode cL_law 214 = .ok (.iload_n 3, 1) := dk_29 (dk_at dksL_law_8 23 rfl rfl)
theorem dL_law_215 : decode cL_law 215 = .ok (.iconst 1, 1) := dk_4 (dk_at dksL_law_9 0 rfl rfl)
theorem dL_law_216 : decode cL_law 216 = .ok (.iadd, 1) := dk_96 (dk_at dksL_law_9 1 rfl rfl)
theorem dL_law_217 : decode cL_law 217 = .ok (.iaload, 1) := dk_46 (dk_at dksL_law_9 2 rfl rfl)
theorem dL_law_218 : decode cL_law 218 = .ok (.aload_n 0, 1) := dk_42 (dk_at dksL_law_9 3 rfl rfl)
theorem dL_law_219 : decode cL_law 219 = .ok (.iload_n 3, 1) := dk_29 (dk_at dksL_law_9 4 rfl rfl)
theorem dL_law_220 : decode cL_law 220 = .ok (.iconst 2, 1) := dk_5 (dk_at dksL_law_9 5 rfl rfl)
theorem dL_law_221 : decode cL_law 221 = .ok (.iadd, 1) := dk_96 (dk_at dksL_law_9 6 rfl rfl)
theorem dL_law_222 : decode cL_law 222 = .ok (.iaload, 1) := dk_46 (dk_at dksL_law_9 7 rfl rfl)
theorem dL_law_223 : decode cL_law 223 = .ok (.invokevirtual 33, 3) := dk_182 0 33 (dk_at dksL_law_9 8 rfl rfl)
theorem dL_law_226 : decode cL_law 226 = .ok (.aload_n 2, 1) := dk_44 (dk_at dksL_law_9 11 rfl rfl)
theorem dL_law_227 : decode cL_law 227 = .ok (.aload_n 0, 1) := dk_42 (dk_at dksL_law_9 12 rfl rfl)
theorem dL_law_228 : decode cL_law 228 = .ok (.iload_n 3, 1) := dk_29 (dk_at dksL_law_9 13 rfl rfl)
theorem dL_law_229 : decode cL_law 229 = .ok (.iconst 1, 1) := dk_4 (dk_at dksL_law_9 14 rfl rfl)
theorem dL_law_230 : decode cL_law 230 = .ok (.iadd, 1) := dk_96 (dk_at dksL_law_9 15 rfl rfl)
theorem dL_law_231 : decode cL_law 231 = .ok (.iaload, 1) := dk_46 (dk_at dksL_law_9 16 rfl rfl)
theorem dL_law_232 : decode cL_law 232 = .ok (.aload_n 0, 1) := dk_42 (dk_at dksL_law_9 17 rfl rfl)
theorem dL_law_233 : decode cL_law 233 = .ok (.iload_n 3, 1) := dk_29 (dk_at dksL_law_9 18 rfl rfl)
theorem dL_law_234 : decode cL_law 234 = .ok (.iconst 2, 1) := dk_5 (dk_at dksL_law_9 19 rfl rfl)
theorem dL_law_235 : decode cL_law 235 = .ok (.iadd, 1) := dk_96 (dk_at dksL_law_9 20 rfl rfl)
theorem dL_law_236 : decode cL_law 236 = .ok (.iaload, 1) := dk_46 (dk_at dksL_law_9 21 rfl rfl)
theorem dL_law_237 : decode cL_law 237 = .ok (.invokevirtual 37, 3) := dk_182 0 37 (dk_at dksL_law_10 0 rfl rfl)
theorem dL_law_240 : decode cL_law 240 = .ok (.if_icmp .eq 38, 3) := dk_159 0 38 (dk_at dksL_law_10 3 rfl rfl)
theorem dL_law_243 : decode cL_law 243 = .ok (.iconst 0, 1) := dk_3 (dk_at dksL_law_10 6 rfl rfl)
theorem dL_law_244 : decode cL_law 244 = .ok (.ireturn, 1) := dk_172 (dk_at dksL_law_10 7 rfl rfl)
theorem dL_law_245 : decode cL_law 245 = .ok (.aload_n 1, 1) := dk_43 (dk_at dksL_law_10 8 rfl rfl)
theorem dL_law_246 : decode cL_law 246 = .ok (.aload_n 0, 1) := dk_42 (dk_at dksL_law_10 9 rfl rfl)
theorem dL_law_247 : decode cL_law 247 = .ok (.iload_n 3, 1) := dk_29 (dk_at dksL_law_10 10 rfl rfl)
theorem dL_law_248 : decode cL_law 248 = .ok (.iconst 1, 1) := dk_4 (dk_at dksL_law_10 11 rfl rfl)
theorem dL_law_249 : decode cL_law 249 = .ok (.iadd, 1) := dk_96 (dk_at dksL_law_10 12 rfl rfl)
theorem dL_law_250 : decode cL_law 250 = .ok (.iaload, 1) := dk_46 (dk_at dksL_law_10 13 rfl rfl)
theorem dL_law_251 : decode cL_law 251 = .ok (.aload_n 0, 1) := dk_42 (dk_at dksL_law_10 14 rfl rfl)
theorem dL_law_252 : decode cL_law 252 = .ok (.iload_n 3, 1) := dk_29 (dk_at dksL_law_10 15 rfl rfl)
theorem dL_law_253 : decode cL_law 253 = .ok (.iconst 2, 1) := dk_5 (dk_at dksL_law_10 16 rfl rfl)
theorem dL_law_254 : decode cL_law 254 = .ok (.iadd, 1) := dk_96 (dk_at dksL_law_10 17 rfl rfl)
theorem dL_law_255 : decode cL_law 255 = .ok (.iaload, 1) := dk_46 (dk_at dksL_law_10 18 rfl rfl)
theorem dL_law_256 : decode cL_law 256 = .ok (.invokevirtual 38, 3) := dk_182 0 38 (dk_at dksL_law_10 19 rfl rfl)
theorem dL_law_259 : decode cL_law 259 = .ok (.aload_n 2, 1) := dk_44 (dk_at dksL_law_10 22 rfl rfl)
theorem dL_law_260 : decode cL_law 260 = .ok (.aload_n 0, 1) := dk_42 (dk_at dksL_law_10 23 rfl rfl)
theorem dL_law_261 : decode cL_law 261 = .ok (.iload_n 3, 1) := dk_29 (dk_at dksL_law_11 0 rfl rfl)
theorem dL_law_262 : decode cL_law 262 = .ok (.iconst 1, 1) := dk_4 (dk_at dksL_law_11 1 rfl rfl)
theorem dL_law_263 : decode cL_law 263 = .ok (.iadd, 1) := dk_96 (dk_at dksL_law_11 2 rfl rfl)
theorem dL_law_264 : decode cL_law 264 = .ok (.iaload, 1) := dk_46 (dk_at dksL_law_11 3 rfl rfl)
theorem dL_law_265 : decode cL_law 265 = .ok (.aload_n 0, 1) := dk_42 (dk_at dksL_law_11 4 rfl rfl)
theorem dL_law_266 : decode cL_law 266 = .ok (.iload_n 3, 1) := dk_29 (dk_at dksL_law_11 5 rfl rfl)
theorem dL_law_267 : decode cL_law 267 = .ok (.iconst 2, 1) := dk_5 (dk_at dksL_law_11 6 rfl rfl)
theorem dL_law_268 : decode cL_law 268 = .ok (.iadd, 1) := dk_96 (dk_at dksL_law_11 7 rfl rfl)
theorem dL_law_269 : decode cL_law 269 = .ok (.iaload, 1) := dk_46 (dk_at dksL_law_11 8 rfl rfl)
theorem dL_law_270 : decode cL_law 270 = .ok (.invokevirtual 42, 3) := dk_182 0 42 (dk_at dksL_law_11 9 rfl rfl)
theorem dL_law_273 : decode cL_law 273 = .ok (.if_icmp .eq 5, 3) := dk_159 0 5 (dk_at dksL_law_11 12 rfl rfl)
theorem dL_law_276 : decode cL_law 276 = .ok (.iconst 0, 1) := dk_3 (dk_at dksL_law_11 15 rfl rfl)
theorem dL_law_277 : decode cL_law 277 = .ok (.ireturn, 1) := dk_172 (dk_at dksL_law_11 16 rfl rfl)
theorem dL_law_278 : decode cL_law 278 = .ok (.iinc 3 6, 3) := dk_132 3 6 (dk_at dksL_law_11 17 rfl rfl)
theorem dL_law_281 : decode cL_law 281 = .ok (.goto (-263), 3) := dk_167 254 249 (dk_at dksL_law_11 20 rfl rfl)
theorem dL_law_284 : decode cL_law 284 = .ok (.iconst 1, 1) := dk_4 (dk_at dksL_law_11 23 rfl rfl)
theorem dL_law_285 : decode cL_law 285 = .ok (.ireturn, 1) := dk_172 (dk_at dksL_law_12 0 rfl rfl)
end
section
/-! OUR ROWS: instructions on ints that are naturals (nI k), arrays at natural places, new arrays of a known kind, what a call's start asks -/
theorem ud_or (a b : Nat) : nI a ||| nI b = nI (a ||| b) := by
  apply Int32.toBitVec_inj.1
  show BitVec.ofNat 32 a ||| BitVec.ofNat 32 b = BitVec.ofNat 32 (a ||| b)
  apply BitVec.eq_of_getLsbD_eq
  intro i hi
  simp [hi]
theorem ud_ors {a k : Nat} (b : Nat) (h : a < 2 ^ k) : nI (2 ^ k * b) ||| nI a = nI (2 ^ k * b + a) := by rw [ud_or, Nat.two_pow_add_eq_or_of_lt h]
theorem ud_mod (n : Nat) : nI n = nI (n % 2 ^ 32) := by
  apply Int32.toBitVec_inj.mp
  apply BitVec.eq_of_toNat_eq
  show (BitVec.ofNat 32 n).toNat = (BitVec.ofNat 32 (n % 2 ^ 32)).toNat
  simp
theorem ud_shl6 (n : Nat) : nI n <<< (nI 6 &&& 31) = nI (64 * n) := by
  apply Int32.toBitVec_inj.mp
  apply BitVec.eq_of_toNat_eq
  rw [pk_shl _ _ 6 (by decide)]
  show (BitVec.ofNat 32 n).toNat * 2 ^ 6 % 2 ^ 32 = (BitVec.ofNat 32 (64 * n)).toNat
  simp only [BitVec.toNat_ofNat]
  omega
/-- the low 31 bits: what 'x & 2147483647' is -/
def ud_m (x : Int32) : Nat := x.toBitVec.toNat % 2 ^ 31
theorem ud_m_lt (x : Int32) : ud_m x < 2147483648 := Nat.mod_lt _ (by decide)
theorem ud_and (x : Int32) : x &&& 2147483647 = nI (ud_m x) := pk_and x 31 (by decide)
/-- a byte as Java holds it -/
def ud_sb (n : Nat) : Int32 := (nI n).toInt8.toInt32
/-- the bytes of a desk, as Java's bytes and as the model's ints -/
def ud_B (b : Nat → Nat) : Nat → Int32 := fun i => ud_sb (b i)
def ud_I (b : Nat → Nat) : Nat → Int32 := fun i => nI (b i)
def ud_up (b : Nat → Nat) (k v : Nat) : Nat → Nat := fun j => if j = k then v else b j
theorem ud_upB (b : Nat → Nat) (k v : Nat) : upd (ud_B b) k (ud_sb v) = ud_B (ud_up b k v) := by
  funext j
  by_cases h : j = k
  · simp [upd, ud_B, ud_up, h]
  · simp [upd, ud_B, ud_up, h]
theorem ud_upI (b : Nat → Nat) (k v : Nat) : upd (ud_I b) k (nI v) = ud_I (ud_up b k v) := by
  funext j
  by_cases h : j = k
  · simp [upd, ud_I, ud_up, h]
  · simp [upd, ud_I, ud_up, h]
theorem ud_narB (n : Nat) : vp_nar .byte (ud_sb n) = ud_sb n := pk_vb (nI n)
theorem ud_stB (b : Nat → Nat) (k v : Nat) : upd (ud_B b) k (vp_nar .byte (ud_sb v)) = ud_B (ud_up b k v) := by rw [ud_narB, ud_upB]
theorem ud_up_lt {b : Nat → Nat} (hb : ∀ i, b i < 256) {v : Nat} (hv : v < 256) (k : Nat) : ∀ i, ud_up b k v i < 256 := by
  intro i
  unfold ud_up
  split
  · exact hv
  · exact hb i
/-- the i'th byte of a word, from below -/
def ud_by (w : Int32) (i : Nat) : Nat := w.toBitVec.toNat / 2 ^ (8 * i) % 256
theorem ud_by_lt (w : Int32) (i : Nat) : ud_by w i < 256 := Nat.mod_lt _ (by decide)
theorem ud_i2b (x : Int32) : x.toInt8.toInt32 = ud_sb (x.toBitVec.toNat % 256) := by
  unfold ud_sb
  apply congrArg
  apply Int8.toBitVec_inj.mp
  rw [Int32.toBitVec_toInt8, Int32.toBitVec_toInt8]
  apply BitVec.eq_of_toNat_eq
  rw [BitVec.signExtend_eq_setWidth_of_le _ (by decide), BitVec.signExtend_eq_setWidth_of_le _ (by decide), BitVec.toNat_setWidth, BitVec.toNat_setWidth]
  show _ = (BitVec.ofNat 32 (x.toBitVec.toNat % 256)).toNat % 2 ^ 8
  rw [BitVec.toNat_ofNat]
  have := x.toBitVec.isLt
  omega
theorem ud_shb (w : Int32) (s : Int32) (k : Nat) (hk : k ≤ 3) (hs : (s.toBitVec.smod 32).toNat = 8 * k) : (w >>> s).toInt8.toInt32 = ud_sb (ud_by w k) := by
  rw [ud_i2b]
  apply congrArg
  unfold ud_by
  have h := pk_shr w s (8 * k) hs
  rw [Int.shiftRight_eq_div_pow] at h
  have e1 : (w >>> s).toInt = (w >>> s).toBitVec.toInt := rfl
  have e2 : w.toInt = w.toBitVec.toInt := rfl
  rw [e1, e2, BitVec.toInt_eq_toNat_cond, BitVec.toInt_eq_toNat_cond] at h
  have l1 := (w >>> s).toBitVec.isLt
  have l2 := w.toBitVec.isLt
  generalize (w >>> s).toBitVec.toNat = u at *
  generalize w.toBitVec.toNat = v at *
  rcases (show k = 0 ∨ k = 1 ∨ k = 2 ∨ k = 3 by omega) with rfl | rfl | rfl | rfl
  · simp only [Nat.mul_zero, Nat.pow_zero, Nat.reducePow, Nat.reduceMul] at h l1 l2 ⊢
    split at h <;> split at h <;> omega
  · simp only [Nat.reducePow, Nat.reduceMul] at h l1 l2 ⊢
    split at h <;> split at h <;> omega
  · simp only [Nat.reducePow, Nat.reduceMul] at h l1 l2 ⊢
    split at h <;> split at h <;> omega
  · simp only [Nat.reducePow, Nat.reduceMul] at h l1 l2 ⊢
    split at h <;> split at h <;> omega
theorem ud_w0 (w : Int32) : w.toInt8.toInt32 = ud_sb (ud_by w 0) := by
  rw [ud_i2b]
  simp [ud_by]
theorem ud_ushb (w s : Int32) (k : Nat) (hs : ((s.toUInt32 &&& Int32.toUInt32 31).toBitVec % 32).toNat = 8 * k) : (w.toUInt32 >>> (s.toUInt32 &&& Int32.toUInt32 31)).toInt32 &&& nI 255 = nI (ud_by w k) := by
  rw [pk_and _ 8 (by decide), pk_ushr _ _ _ hs]
  rfl
theorem ud_and255 (v : Int32) : v &&& nI 255 = nI (ud_by v 0) := by
  rw [pk_and _ 8 (by decide)]
  simp [ud_by]
theorem ud_su : ∀ n, n < 32 → (((nI n).toUInt32 &&& Int32.toUInt32 31).toBitVec % 32).toNat = n := by decide +kernel
theorem ud_sb_neg : ∀ n, n < 256 → (ud_sb n < 0 ↔ 128 ≤ n) := by decide +kernel
theorem ud_sb_pos : ∀ n, n < 128 → ud_sb n = nI n := by decide +kernel
theorem ud_sb_127 : ∀ n, n < 256 → ud_sb n &&& nI 127 = nI (n % 128) := by decide +kernel
theorem ud_sb_63 : ∀ n, n < 256 → ud_sb n &&& nI 63 = nI (n % 64) := by decide +kernel
theorem ud_sb_255 : ∀ n, n < 256 → ud_sb n &&& nI 255 = nI n := by decide +kernel
theorem ud_sb_0 : ud_sb 0 = 0 := by decide +kernel
/-- a list of numbers as an array's contents: 0 behind its end -/
def ud_L (l : List Nat) : Nat → Int32 := fun i => nI (l.getD i 0)
theorem ud_L0 : (fun _ => (0 : Int32)) = ud_L [] := by
  funext i
  simp [ud_L, nI]
theorem ud_L1 (l : List Nat) (v : Nat) : upd (ud_L l) l.length (nI v) = ud_L (l ++ [v]) := by
  funext j
  by_cases h : j = l.length
  · subst h
    simp [upd, ud_L]
  · by_cases h2 : j < l.length
    · simp [upd, ud_L, h, List.getD, List.getElem?_append_left h2]
    · have h3 : l.length + 1 ≤ j := by omega
      simp [upd, ud_L, h, List.getD, List.getElem?_eq_none (Nat.le_of_not_lt h2), List.getElem?_eq_none (l := l ++ [v]) (i := j) (by simp; omega)]
theorem ud_narC {v : Nat} (h : v < 65536) : vp_nar .char (nI v) = nI v := Value.int.inj (pk_charN h).1
theorem ud_chr {v : Nat} (h : v < 65536) : ((nI v).toUInt32 % 65536).toInt32 = nI v := by
  rw [pk_char, pk_tn (by omega), Nat.mod_eq_of_lt h]
theorem ud_LC (l : List Nat) {v : Nat} (h : v < 65536) : upd (ud_L l) l.length (vp_nar .char (nI v)) = ud_L (l ++ [v]) := by rw [ud_narC h, ud_L1]
theorem ud_LC2 (l : List Nat) (u : Nat) {v : Nat} (h : v < 65536) : upd (ud_L (l ++ [u])) (l.length + 1) (vp_nar .char (nI v)) = ud_L (l ++ [u, v]) := by
  have e : l.length + 1 = (l ++ [u]).length := by simp
  rw [e, ud_LC _ h, List.append_assoc]
  rfl
theorem ud_L2 (l : List Nat) (u v : Nat) : upd (ud_L (l ++ [u])) (l.length + 1) (nI v) = ud_L (l ++ [u, v]) := by
  have e : l.length + 1 = (l ++ [u]).length := by simp
  rw [e, ud_L1, List.append_assoc]
  rfl
theorem ud_i1 (a : Nat) : nI a + Int32.ofInt 1 = nI (a + 1) := nI_1 a
theorem ud_i2 (a : Nat) : nI a + Int32.ofInt 2 = nI (a + 2) := nI_add a 2
theorem ud_i6 (a : Nat) : nI a + Int32.ofInt 6 = nI (a + 6) := nI_add a 6
theorem ud_im1 (a : Nat) : nI (a + 1) + Int32.ofInt (-1) = nI a := pk_m1 a
theorem ud_ne0 {d : Nat} (h0 : 0 < d) (hd : d < 2147483648) : ¬ nI d = 0 := nI_ne0 h0 hd
theorem ud_ltm1 {j w : Nat} (hj : j < 1073741824) (hw : w < 1073741824) : nI j < nI w - nI 1 ↔ j + 1 < w := by
  rw [Int32.lt_iff_toInt_lt, pk_sub_toInt hw (by decide), nI_toInt (by omega)]
  omega
theorem ud_cellc {cA : ClassId} {n : Nat} {f g : Nat → Int32} (h : ∀ j, j < n → f j = g j) : vp_cell cA (n, .inl f) = vp_cell cA (n, .inl g) := by
  rw [vp_cell_i, vp_cell_i]
  unfold arrV
  have e : (Array.ofFn (n := n) fun j => Value.int (f j.val)) = Array.ofFn (n := n) fun j => Value.int (g j.val) := by
    congr 1
    funext j
    rw [h j.val j.isLt]
  rw [e]
/-- the worlds' classes and arrays -/
abbrev vwCl : List vw_C := [(RX0, TX0, 4), (RX1, TX1, 3)]
abbrev ud_T (kB kC kI : ClassId) : List (ClassId × FieldType) := [(kB, .byte), (kC, .char), (kI, .int)]
/-- the two static tables of UTF8, as facts of a state: nobody writes them -/
def ud_ft : Nat → Int32 := fun j => ([-2, -2, -2, -2, -2, -2, -2, -2, -2, -2, -2, -2, -2, -2, -2, -2, -2, -2, -2, -2, -2, -2, -2, -2, -2, -2, -2, -2, -2, -2, -2, -2, -2, -2, -2, -2, -2, -2, -2, -2, -2, -2, -2, -2, -2, -2, -2, -2, -2, -2, -2, -2, -2, -2, -2, -2, -2, -2, -2, -2, -2, -2, -2, -2, -2, -2, 512, 768, 1024, 1280, 1536, 1792, 2048, 2304, 2560, 2816, 3072, 3328, 3584, 3840, 4096, 4352, 4608, 4864, 5120, 5376, 5632, 5888, 6144, 6400, 6656, 6912, 7168, 7424, 7680, 7936, 48, 272, 528, 784, 1040, 1296, 1552, 1808, 2064, 2320, 2576, 2832, 3088, 3392, 3600, 3856, 80, 288, 544, 800, 1120, -2, -2, -2, -2, -2, -2, -2, -2, -2, -2, -2] : List Int32).getD j 0
def ud_tr : Nat → Int32 := fun j => ([-2, -2, -2, -2, -2, -2, -2, -2, -1, -1, -1, -1, -2, -2, -2, -2, -2, -2, -2, -2, -2, -2, -2, -2, 0, 0, 0, 0, -2, -2, -2, -2, -2, -2, -2, -2, -2, -2, -2, -2, 16, 16, 16, 16, -2, -2, -2, -2, -2, -2, -2, -2, -2, -2, -2, -2, -2, -2, 0, 0, -2, -2, -2, -2, -2, -2, -2, -2, -2, -2, -2, -2, 0, 0, -2, -2, -2, -2, -2, -2, -2, -2, -2, -2, -2, -2, -2, -2, -2, 16, 16, 16, -2, -2, -2, -2, -2, -2, -2, -2, -2, -2, -2, -2, 16, -2, -2, -2, -2, -2, -2, -2] : List Int32).getD j 0
def ud_S (A : Nat → Prop) (U : State) (H : Heap) : Prop := ∃ t1 t2 : Nat, va_T .short t1 128 (fun j => .int (ud_ft j)) A U H ∧ va_Z "UTF8" "firstUnitTable" "[S" (.ref t1) A U H ∧ va_T .byte t2 112 (fun j => .int (ud_tr j)) A U H ∧ va_Z "UTF8" "transitionTable" "[B" (.ref t2) A U H
theorem ud_S.moved {A : Nat → Prop} {u U : State} {H : Heap} (hvm : u.vm.Alike U.vm) (h : ud_S A u H) : ud_S A U H := by
  obtain ⟨t1, t2, h1, h2, h3, h4⟩ := h
  exact ⟨t1, t2, h1.moved hvm, h2.moved hvm, h3.moved hvm, h4.moved hvm⟩
theorem ud_S.kept {A : Nat → Prop} {U : State} {H H1 : Heap} (h : ud_S A U H) (hq : ∀ a : Nat, a < H.size → ¬ A a → H1[a]? = H[a]?) : ud_S A U H1 := by
  obtain ⟨t1, t2, h1, h2, h3, h4⟩ := h
  exact ⟨t1, t2, h1.kept hq, h2.kept hq, h3.kept hq, h4.kept hq⟩
theorem ud_S.narrow {A B : Nat → Prop} {U : State} {H : Heap} (h : ud_S A U H) (hAB : ∀ q, B q → A q) : ud_S B U H := by
  obtain ⟨t1, t2, h1, h2, h3, h4⟩ := h
  exact ⟨t1, t2, h1.narrow hAB, h2.narrow hAB, h3.narrow hAB, h4.narrow hAB⟩
/-- a method's start: its world; and with the tables -/
def ud_P (dC : Nat → ClassId) (dI : Nat → Nat → Nat) (kB kC kI : ClassId) (W : va_W) (sz : Nat) : State → Prop := fun U => U.heap.size = sz ∧ va_P (dC, dI) vwCl W U.heap ∧ va_K (dC, dI) vwCl (ud_T kB kC kI) U ∧ va_D (fun _ => True) W
def ud_PT (dC : Nat → ClassId) (dI : Nat → Nat → Nat) (kB kC kI : ClassId) (W : va_W) (sz : Nat) : State → Prop := fun U => ud_P dC dI kB kC kI W sz U ∧ ud_S (va_A W sz) U U.heap
theorem ud_bl {dC : Nat → ClassId} {dI : Nat → Nat → Nat} {kB kC kI : ClassId} {W : va_W} {sz : Nat} {av : List Value} : FrameBlind (va_Pc av (ud_P dC dI kB kC kI W sz)) := by
  intro a U g mk q
  obtain ⟨q0, q1, qP, qK, qD⟩ := q
  exact ⟨q0, q1, qP, va_K.moved (u := U) (U := U.calling g mk a) (Vm.Alike.refl U.vm) qK, qD⟩
theorem ud_blT {dC : Nat → ClassId} {dI : Nat → Nat → Nat} {kB kC kI : ClassId} {W : va_W} {sz : Nat} {av : List Value} : FrameBlind (va_Pc av (ud_PT dC dI kB kC kI W sz)) := by
  intro a U g mk q
  obtain ⟨q0, ⟨q1, qP, qK, qD⟩, qT⟩ := q
  exact ⟨q0, ⟨q1, qP, va_K.moved (u := U) (U := U.calling g mk a) (Vm.Alike.refl U.vm) qK, qD⟩, ud_S.moved (u := U) (U := U.calling g mk a) (Vm.Alike.refl U.vm) qT⟩
theorem ud_pr {dC : Nat → ClassId} {dI : Nat → Nat → Nat} {kB kC kI : ClassId} {W : va_W} {av : List Value} {s : State} {H : Heap} {A : Nat → Prop} (hP : va_P (dC, dI) vwCl W H) (hD : va_D A W) (hK : va_K (dC, dI) vwCl (ud_T kB kC kI) s) : ∀ U : State, U.heap = H → s.WarmedH U.vm → va_Pc av (ud_P dC dI kB kC kI W H.size) av.toArray U := fun U hU hW => ⟨rfl, by rw [hU], by rw [hU]; exact hP, va_K.moved hW.alike hK, hD.weaken (fun _ _ _ _ => trivial)⟩
theorem ud_prT {dC : Nat → ClassId} {dI : Nat → Nat → Nat} {kB kC kI : ClassId} {W : va_W} {av : List Value} {s : State} {H : Heap} {A : Nat → Prop} {locs : List Loc} (hP : va_P (dC, dI) vwCl W H) (hD : va_D A W) (hK : va_K (dC, dI) vwCl (ud_T kB kC kI) s) (hT : ud_S A s s.heap) (hS : va_S A s.heap H locs) (hF : ∀ q, va_A W H.size q → A q) : ∀ U : State, U.heap = H → s.WarmedH U.vm → va_Pc av (ud_PT dC dI kB kC kI W H.size) av.toArray U := fun U hU hW => ⟨rfl, ⟨by rw [hU], by rw [hU]; exact hP, va_K.moved hW.alike hK, hD.weaken (fun _ _ _ _ => trivial)⟩, by rw [hU]; exact ud_S.moved hW.alike ((hT.kept hS.2.1).narrow hF)⟩
/-- behind a call that writes nothing -/
theorem ud_ro {D : va_G} {cl : List vw_C} {ws : va_W} {H H1 : Heap} (hP : va_P D cl ws H) (hk : ∀ q : Nat, q < H.size → ¬ va_A [] H.size q → H1[q]? = H[q]?) : va_P D cl ws H1 := by
  refine hP.kept (fun k q hq => ?_)
  have hl := (hP k q hq).lt
  refine hk q.1 hl (fun h => ?_)
  rcases h with ⟨i, e, h⟩ | h
  · simp at h
  · omega
theorem ud_fr {A0 : Nat → Prop} {H0 H : Heap} {locs : List Loc} (hS : va_S A0 H0 H locs) (hA : ∀ q, H0.size ≤ q → A0 q) : ∀ q, va_A [] H.size q → A0 q := by
  intro q h
  rcases h with ⟨i, e, h⟩ | h
  · simp at h
  · exact hA q (Nat.le_trans hS.1 h)
theorem ud_at {D : va_G} {cl : List vw_C} {ws : va_W} {H : Heap} (hP : va_P D cl ws H) (q0 : Nat) {a : Nat} {cA : ClassId} {n : Nat} {f : Nat → Int32} (ha : ws[q0]? = some (a, .inl (cA, n, .inl f))) {g : Nat → Int32} (h : ∀ j, j < n → f j = g j) : va_P D cl (ws.set q0 (a, .inl (cA, n, .inl g))) H := by
  have hl := (List.getElem?_eq_some_iff.mp ha).1
  intro k q hk
  by_cases hkp : k = q0
  · subst hkp
    rw [List.getElem?_set_self hl] at hk
    cases hk
    have h0 := hP k _ ha
    show H[a]? = some (vp_cell _ _)
    rw [← ud_cellc h]
    exact h0
  · rw [List.getElem?_set_ne (Ne.symm hkp)] at hk
    exact hP k q hk
theorem ud_Dat {A : Nat → Prop} {ws : va_W} (hD : va_D A ws) (q0 : Nat) {a : Nat} {e0 : va_E} (ha : ws[q0]? = some (a, e0)) (e : va_E) : va_D A (ws.set q0 (a, e)) := hD.set ha
section AX
variable {p : Program} {l : Launch} {e : Env} {R : Room} {s : State} {m : MethodId} {args : Array Value} {below : List Frame} {meth : Method} {c : Code} {H : Heap} {locs : List Loc} {cells slots : Nat} {Q : State → Prop}
variable {cc : ByteArray} {pc : Nat} {ls : Array Slot} {rest : List Value} {D : va_G} {cl : List vw_C} {A : Nat → Prop} {a : Nat} {tys : List (ClassId × FieldType)} {ws : va_W} {H0 : Heap}
theorem ax_top {x y : Int32} (h : x = y) (k : W p l e R s m args below meth c H locs cells slots Q (F0 m pc ls (.int y :: rest))) : W p l e R s m args below meth c H locs cells slots Q (F0 m pc ls (.int x :: rest)) := by
  subst h
  exact k
theorem ax_icmp_eq (hexec : p.tables.exec = Jvm.exec) (hb : c.code = cc) {x y : Nat} (hx : x < 2147483648) (hy : y < 2147483648) {off : Int} {tgt : Nat} (hdg : decode cc pc = .ok (.if_icmp .eq off, 3)) (ht : (pc : Int) + off = (tgt : Int))
    (kt : x = y → W p l e R s m args below meth c H locs cells slots Q (F0 m tgt ls rest)) (kf : ¬ x = y → W p l e R s m args below meth c H locs cells slots Q (F0 m (pc + 3) ls rest)) : W p l e R s m args below meth c H locs cells slots Q (F0 m pc ls (.int (nI y) :: .int (nI x) :: rest)) :=
  lv_icmp_eq hexec hb hdg ht (fun h => kt ((nI_eq hx hy).mp h)) (fun h => kf (fun q => h ((nI_eq hx hy).mpr q)))
theorem ax_icmp_ne (hexec : p.tables.exec = Jvm.exec) (hb : c.code = cc) {x y : Nat} (hx : x < 2147483648) (hy : y < 2147483648) {off : Int} {tgt : Nat} (hdg : decode cc pc = .ok (.if_icmp .ne off, 3)) (ht : (pc : Int) + off = (tgt : Int))
    (kt : ¬ x = y → W p l e R s m args below meth c H locs cells slots Q (F0 m tgt ls rest)) (kf : x = y → W p l e R s m args below meth c H locs cells slots Q (F0 m (pc + 3) ls rest)) : W p l e R s m args below meth c H locs cells slots Q (F0 m pc ls (.int (nI y) :: .int (nI x) :: rest)) :=
  lv_icmp_ne hexec hb hdg ht (fun h => kt (fun q => h ((nI_eq hx hy).mpr q))) (fun h => kf ((nI_eq hx hy).mp h))
theorem ax_icmp_ge (hexec : p.tables.exec = Jvm.exec) (hb : c.code = cc) {x y : Nat} (hx : x < 2147483648) (hy : y < 2147483648) {off : Int} {tgt : Nat} (hdg : decode cc pc = .ok (.if_icmp .ge off, 3)) (ht : (pc : Int) + off = (tgt : Int))
    (kt : y ≤ x → W p l e R s m args below meth c H locs cells slots Q (F0 m tgt ls rest)) (kf : x < y → W p l e R s m args below meth c H locs cells slots Q (F0 m (pc + 3) ls rest)) : W p l e R s m args below meth c H locs cells slots Q (F0 m pc ls (.int (nI y) :: .int (nI x) :: rest)) :=
  lv_icmp_ge hexec hb hdg ht (fun h => kt ((nI_leI hy hx).mp h)) (fun h => kf (Nat.lt_of_not_le fun q => h ((nI_leI hy hx).mpr q)))
theorem ax_icmp_lt (hexec : p.tables.exec = Jvm.exec) (hb : c.code = cc) {x y : Nat} (hx : x < 2147483648) (hy : y < 2147483648) {off : Int} {tgt : Nat} (hdg : decode cc pc = .ok (.if_icmp .lt off, 3)) (ht : (pc : Int) + off = (tgt : Int))
    (kt : x < y → W p l e R s m args below meth c H locs cells slots Q (F0 m tgt ls rest)) (kf : y ≤ x → W p l e R s m args below meth c H locs cells slots Q (F0 m (pc + 3) ls rest)) : W p l e R s m args below meth c H locs cells slots Q (F0 m pc ls (.int (nI y) :: .int (nI x) :: rest)) :=
  lv_icmp_lt hexec hb hdg ht (fun h => kt ((nI_ltI hx hy).mp h)) (fun h => kf (Nat.le_of_not_lt fun q => h ((nI_ltI hx hy).mpr q)))
theorem ax_icmp_gt (hexec : p.tables.exec = Jvm.exec) (hb : c.code = cc) {x y : Nat} (hx : x < 2147483648) (hy : y < 2147483648) {off : Int} {tgt : Nat} (hdg : decode cc pc = .ok (.if_icmp .gt off, 3)) (ht : (pc : Int) + off = (tgt : Int))
    (kt : y < x → W p l e R s m args below meth c H locs cells slots Q (F0 m tgt ls rest)) (kf : x ≤ y → W p l e R s m args below meth c H locs cells slots Q (F0 m (pc + 3) ls rest)) : W p l e R s m args below meth c H locs cells slots Q (F0 m pc ls (.int (nI y) :: .int (nI x) :: rest)) :=
  lv_icmp_gt hexec hb hdg ht (fun h => kt ((nI_ltI hy hx).mp h)) (fun h => kf (Nat.le_of_not_lt fun q => h ((nI_ltI hy hx).mpr q)))
theorem ax_icmp_le (hexec : p.tables.exec = Jvm.exec) (hb : c.code = cc) {x y : Nat} (hx : x < 2147483648) (hy : y < 2147483648) {off : Int} {tgt : Nat} (hdg : decode cc pc = .ok (.if_icmp .le off, 3)) (ht : (pc : Int) + off = (tgt : Int))
    (kt : x ≤ y → W p l e R s m args below meth c H locs cells slots Q (F0 m tgt ls rest)) (kf : y < x → W p l e R s m args below meth c H locs cells slots Q (F0 m (pc + 3) ls rest)) : W p l e R s m args below meth c H locs cells slots Q (F0 m pc ls (.int (nI y) :: .int (nI x) :: rest)) :=
  lv_icmp_le hexec hb hdg ht (fun h => kt ((nI_leI hx hy).mp h)) (fun h => kf (Nat.lt_of_not_le fun q => h ((nI_leI hx hy).mpr q)))
theorem ax_if_eq (hexec : p.tables.exec = Jvm.exec) (hb : c.code = cc) {x : Nat} (hx : x < 2147483648) {off : Int} {tgt : Nat} (hdg : decode cc pc = .ok (.ifCond .eq off, 3)) (ht : (pc : Int) + off = (tgt : Int))
    (kt : x = 0 → W p l e R s m args below meth c H locs cells slots Q (F0 m tgt ls rest)) (kf : 0 < x → W p l e R s m args below meth c H locs cells slots Q (F0 m (pc + 3) ls rest)) : W p l e R s m args below meth c H locs cells slots Q (F0 m pc ls (.int (nI x) :: rest)) :=
  lv_if_eq hexec hb hdg ht (fun h => kt ((nI_eq hx (by decide)).mp (h.trans nI_0.symm))) (fun h => kf (Nat.pos_of_ne_zero fun q => h (by rw [q]; exact nI_0)))
theorem ax_if_ne (hexec : p.tables.exec = Jvm.exec) (hb : c.code = cc) {x : Nat} (hx : x < 2147483648) {off : Int} {tgt : Nat} (hdg : decode cc pc = .ok (.ifCond .ne off, 3)) (ht : (pc : Int) + off = (tgt : Int))
    (kt : 0 < x → W p l e R s m args below meth c H locs cells slots Q (F0 m tgt ls rest)) (kf : x = 0 → W p l e R s m args below meth c H locs cells slots Q (F0 m (pc + 3) ls rest)) : W p l e R s m args below meth c H locs cells slots Q (F0 m pc ls (.int (nI x) :: rest)) :=
  lv_if_ne hexec hb hdg ht (fun h => kt (Nat.pos_of_ne_zero fun q => h (by rw [q]; exact nI_0))) (fun h => kf ((nI_eq hx (by decide)).mp (h.trans nI_0.symm)))
theorem ax_if_le (hexec : p.tables.exec = Jvm.exec) (hb : c.code = cc) {x : Nat} (hx : x < 2147483648) {off : Int} {tgt : Nat} (hdg : decode cc pc = .ok (.ifCond .le off, 3)) (ht : (pc : Int) + off = (tgt : Int))
    (kt : x = 0 → W p l e R s m args below meth c H locs cells slots Q (F0 m tgt ls rest)) (kf : 0 < x → W p l e R s m args below meth c H locs cells slots Q (F0 m (pc + 3) ls rest)) : W p l e R s m args below meth c H locs cells slots Q (F0 m pc ls (.int (nI x) :: rest)) :=
  lv_if_le hexec hb hdg ht (fun h => kt (Nat.eq_zero_of_not_pos fun q => nI_nle q hx h)) (fun h => kf (Nat.pos_of_ne_zero fun q => h (by rw [q, nI_0]; decide)))
theorem ax_if_lt (hexec : p.tables.exec = Jvm.exec) (hb : c.code = cc) {x : Nat} (hx : x < 2147483648) {off : Int} {tgt : Nat} (hdg : decode cc pc = .ok (.ifCond .lt off, 3)) (ht : (pc : Int) + off = (tgt : Int))
    (kf : W p l e R s m args below meth c H locs cells slots Q (F0 m (pc + 3) ls rest)) : W p l e R s m args below meth c H locs cells slots Q (F0 m pc ls (.int (nI x) :: rest)) :=
  lv_if_lt hexec hb hdg ht (fun h => absurd h (nI_pos hx)) (fun _ => kf)
theorem ax_irem (hexec : p.tables.exec = Jvm.exec) (hb : c.code = cc) {x d : Nat} (hx : x < 2147483648) (h0 : 0 < d) (hd : d < 2147483648) (hdg : decode cc pc = .ok (.irem, 1))
    (k : W p l e R s m args below meth c H locs cells slots Q (F0 m (pc + 1) ls (.int (nI (x % d)) :: rest))) : W p l e R s m args below meth c H locs cells slots Q (F0 m pc ls (.int (nI d) :: .int (nI x) :: rest)) :=
  lv_irem hexec hb hdg (ud_ne0 h0 hd) (ax_top (pk_rem hx h0 hd) k)
theorem ax_idiv (hexec : p.tables.exec = Jvm.exec) (hb : c.code = cc) {x d : Nat} (hx : x < 2147483648) (h0 : 0 < d) (hd : d < 2147483648) (hdg : decode cc pc = .ok (.idiv, 1))
    (k : W p l e R s m args below meth c H locs cells slots Q (F0 m (pc + 1) ls (.int (nI (x / d)) :: rest))) : W p l e R s m args below meth c H locs cells slots Q (F0 m pc ls (.int (nI d) :: .int (nI x) :: rest)) :=
  lv_idiv hexec hb hdg (ud_ne0 h0 hd) (ax_top (pk_div hx h0 hd) k)
theorem ax_iald (hexec : p.tables.exec = Jvm.exec) (hb : c.code = cc) (hK : va_K D cl tys s) (hP : va_P D cl ws H) (q0 t0 : Nat) {cA : ClassId} {n : Nat} {f : Nat → Int32} (ha : ws[q0]? = some (a, .inl (cA, n, .inl f))) (ht : tys[t0]? = some (cA, .int)) {i : Nat} (hi : i < n) (hn : n < 2147483648) {v : Int32} (hv : f i = v) (hdg : decode cc pc = .ok (.iaload, 1))
    (kk : W p l e R s m args below meth c H locs cells slots Q (F0 m (pc + 1) ls (.int v :: rest))) : W p l e R s m args below meth c H locs cells slots Q (F0 m pc ls (.int (nI i) :: .ref a :: rest)) :=
  va_iald hexec hb hK hP q0 t0 ha ht (vp_in_nI hi hn) hdg (ax_top (by rw [nI_clamp (Nat.lt_trans hi hn), hv]) kk)
theorem ax_bald (hexec : p.tables.exec = Jvm.exec) (hb : c.code = cc) (hK : va_K D cl tys s) (hP : va_P D cl ws H) (q0 t0 : Nat) {cA : ClassId} {n : Nat} {f : Nat → Int32} (ha : ws[q0]? = some (a, .inl (cA, n, .inl f))) (ht : tys[t0]? = some (cA, .byte)) {i : Nat} (hi : i < n) (hn : n < 2147483648) {v : Int32} (hv : f i = v) (hdg : decode cc pc = .ok (.baload, 1))
    (kk : W p l e R s m args below meth c H locs cells slots Q (F0 m (pc + 1) ls (.int v :: rest))) : W p l e R s m args below meth c H locs cells slots Q (F0 m pc ls (.int (nI i) :: .ref a :: rest)) :=
  va_bald hexec hb hK hP q0 t0 ha ht (vp_in_nI hi hn) hdg (ax_top (by rw [nI_clamp (Nat.lt_trans hi hn), hv]) kk)
theorem ax_cald (hexec : p.tables.exec = Jvm.exec) (hb : c.code = cc) (hK : va_K D cl tys s) (hP : va_P D cl ws H) (q0 t0 : Nat) {cA : ClassId} {n : Nat} {f : Nat → Int32} (ha : ws[q0]? = some (a, .inl (cA, n, .inl f))) (ht : tys[t0]? = some (cA, .char)) {i : Nat} (hi : i < n) (hn : n < 2147483648) {v : Int32} (hv : f i = v) (hdg : decode cc pc = .ok (.caload, 1))
    (kk : W p l e R s m args below meth c H locs cells slots Q (F0 m (pc + 1) ls (.int v :: rest))) : W p l e R s m args below meth c H locs cells slots Q (F0 m pc ls (.int (nI i) :: .ref a :: rest)) :=
  va_cald hexec hb hK hP q0 t0 ha ht (vp_in_nI hi hn) hdg (ax_top (by rw [nI_clamp (Nat.lt_trans hi hn), hv]) kk)
theorem ax_iast (hexec : p.tables.exec = Jvm.exec) (hb : c.code = cc) (hK : va_K D cl tys s) (hP : va_P D cl ws H) (hD : va_D A ws) (hS : va_S A H0 H locs) (q0 t0 : Nat) {cA : ClassId} {n : Nat} {f : Nat → Int32} (ha : ws[q0]? = some (a, .inl (cA, n, .inl f))) (ht : tys[t0]? = some (cA, .int)) {i : Nat} {x : Int32} (hi : i < n) (hn : n < 2147483648) {g : Nat → Int32} (hg : upd f i x = g) (hdg : decode cc pc = .ok (.iastore, 1))
    (kk : ∀ (H1 : Heap) (locs1 : List Loc), va_P D cl (ws.set q0 (a, .inl (cA, n, .inl g))) H1 → va_D A (ws.set q0 (a, .inl (cA, n, .inl g))) → va_S A H0 H1 locs1 → W p l e R s m args below meth c H1 locs1 cells slots Q (F0 m (pc + 1) ls rest)) : W p l e R s m args below meth c H locs cells slots Q (F0 m pc ls (.int x :: .int (nI i) :: .ref a :: rest)) := by
  subst hg
  refine va_iast hexec hb hK hP hD hS q0 t0 ha ht (vp_in_nI hi hn) hdg ?_
  rw [nI_clamp (Nat.lt_trans hi hn)]
  exact kk
theorem ax_bast (hexec : p.tables.exec = Jvm.exec) (hb : c.code = cc) (hK : va_K D cl tys s) (hP : va_P D cl ws H) (hD : va_D A ws) (hS : va_S A H0 H locs) (q0 t0 : Nat) {cA : ClassId} {n : Nat} {f : Nat → Int32} (ha : ws[q0]? = some (a, .inl (cA, n, .inl f))) (ht : tys[t0]? = some (cA, .byte)) {i : Nat} {x : Int32} (hi : i < n) (hn : n < 2147483648) {g : Nat → Int32} (hg : upd f i (vp_nar .byte x) = g) (hdg : decode cc pc = .ok (.bastore, 1))
    (kk : ∀ (H1 : Heap) (locs1 : List Loc), va_P D cl (ws.set q0 (a, .inl (cA, n, .inl g))) H1 → va_D A (ws.set q0 (a, .inl (cA, n, .inl g))) → va_S A H0 H1 locs1 → W p l e R s m args below meth c H1 locs1 cells slots Q (F0 m (pc + 1) ls rest)) : W p l e R s m args below meth c H locs cells slots Q (F0 m pc ls (.int x :: .int (nI i) :: .ref a :: rest)) := by
  subst hg
  refine va_bast hexec hb hK hP hD hS q0 t0 ha ht (vp_in_nI hi hn) hdg ?_
  rw [nI_clamp (Nat.lt_trans hi hn)]
  exact kk
theorem ax_cast (hexec : p.tables.exec = Jvm.exec) (hb : c.code = cc) (hK : va_K D cl tys s) (hP : va_P D cl ws H) (hD : va_D A ws) (hS : va_S A H0 H locs) (q0 t0 : Nat) {cA : ClassId} {n : Nat} {f : Nat → Int32} (ha : ws[q0]? = some (a, .inl (cA, n, .inl f))) (ht : tys[t0]? = some (cA, .char)) {i : Nat} {x : Int32} (hi : i < n) (hn : n < 2147483648) {g : Nat → Int32} (hg : upd f i (vp_nar .char x) = g) (hdg : decode cc pc = .ok (.castore, 1))
    (kk : ∀ (H1 : Heap) (locs1 : List Loc), va_P D cl (ws.set q0 (a, .inl (cA, n, .inl g))) H1 → va_D A (ws.set q0 (a, .inl (cA, n, .inl g))) → va_S A H0 H1 locs1 → W p l e R s m args below meth c H1 locs1 cells slots Q (F0 m (pc + 1) ls rest)) : W p l e R s m args below meth c H locs cells slots Q (F0 m pc ls (.int x :: .int (nI i) :: .ref a :: rest)) := by
  subst hg
  refine va_cast hexec hb hK hP hD hS q0 t0 ha ht (vp_in_nI hi hn) hdg ?_
  rw [nI_clamp (Nat.lt_trans hi hn)]
  exact kk
theorem ax_alen (hexec : p.tables.exec = Jvm.exec) (hb : c.code = cc) (hK : va_K D cl tys s) (hP : va_P D cl ws H) (q0 t0 : Nat) {cA : ClassId} {n : Nat} {f : Nat → Int32} (ha : ws[q0]? = some (a, .inl (cA, n, .inl f))) {ty : FieldType} (ht : tys[t0]? = some (cA, ty)) (hdg : decode cc pc = .ok (.arraylength, 1))
    (kk : W p l e R s m args below meth c H locs cells slots Q (F0 m (pc + 1) ls (.int (nI n) :: rest))) : W p l e R s m args below meth c H locs cells slots Q (F0 m pc ls (.ref a :: rest)) :=
  va_alen (v := nI n) hexec hb hK hP q0 t0 ha ht rfl hdg kk
theorem ax_sld (hexec : p.tables.exec = Jvm.exec) (hb : c.code = cc) {b L : Nat} {xs : Nat → Int32} (hX : va_X b L xs s H0) (hbl : b < H0.size) (hbA : ¬ A b) (hS : va_S A H0 H locs) {i : Nat} (hi : i < L) (hL : L < 2147483648) (hdg : decode cc pc = .ok (.iaload, 1))
    (kk : W p l e R s m args below meth c H locs cells slots Q (F0 m (pc + 1) ls (.int (xs i) :: rest))) : W p l e R s m args below meth c H locs cells slots Q (F0 m pc ls (.int (nI i) :: .ref b :: rest)) :=
  va_sld hexec hb hX hbl hbA hS (vp_in_nI hi hL) hdg (ax_top (by rw [nI_clamp (Nat.lt_trans hi hL)]) kk)
theorem ax_ts (hexec : p.tables.exec = Jvm.exec) (hb : c.code = cc) {t N : Nat} {f : Nat → Value} (hT : va_T .short t N f A s s.heap) (hS : va_S A s.heap H locs) {i : Nat} (hi : i < N) (hN : N < 2147483648) {v : Int32} (hv : f i = .int v) (hdg : decode cc pc = .ok (.saload, 1))
    (kk : W p l e R s m args below meth c H locs cells slots Q (F0 m (pc + 1) ls (.int v :: rest))) : W p l e R s m args below meth c H locs cells slots Q (F0 m pc ls (.int (nI i) :: .ref t :: rest)) :=
  va_ts hexec hb hT hS (vp_in_nI hi hN) (v := .int v) (by rw [nI_clamp (Nat.lt_trans hi hN), hv]) hdg kk
theorem ax_tb (hexec : p.tables.exec = Jvm.exec) (hb : c.code = cc) {t N : Nat} {f : Nat → Value} (hT : va_T .byte t N f A s s.heap) (hS : va_S A s.heap H locs) {i : Nat} (hi : i < N) (hN : N < 2147483648) {v : Int32} (hv : f i = .int v) (hdg : decode cc pc = .ok (.baload, 1))
    (kk : W p l e R s m args below meth c H locs cells slots Q (F0 m (pc + 1) ls (.int v :: rest))) : W p l e R s m args below meth c H locs cells slots Q (F0 m pc ls (.int (nI i) :: .ref t :: rest)) :=
  va_tb hexec hb hT hS (vp_in_nI hi hN) (v := .int v) (by rw [nI_clamp (Nat.lt_trans hi hN), hv]) hdg kk
theorem ax_newa (hexec : p.tables.exec = Jvm.exec) (hb : c.code = cc) {atype : ArrayType} {ty : FieldType} (hty : newarray.typeOf atype = ty) (hra : ∀ (U : State) (cA : ClassId), va_RA U cA ty = (U.vm.findClass ("[" ++ ty.toString) = some cA)) (hdv : defaultValue ty = .int 0) (hcb : componentBytes ty ≤ 8) (harr : (Cond.arrayClass ty).before args s = true) (hK : va_K D cl tys s) (t0 : Nat) {kA : ClassId} (ht : tys[t0]? = some (kA, ty)) (hP : va_P D cl ws H) (hD : va_D A ws) (hS : va_S A H0 H locs) (hA : ∀ q, H0.size ≤ q → A q)
    {N : Nat} (hN : N ≤ 65536) (hcells : cells + 1 ≤ R.cells) (hslots : slots + N ≤ R.slots) (hdg : decode cc pc = .ok (.newarray atype, 2))
    (kk : ∀ (q : Nat) (H1 : Heap), va_P D cl (ws ++ [(q, .inl (kA, N, .inl (fun _ => 0)))]) H1 → va_D A (ws ++ [(q, .inl (kA, N, .inl (fun _ => 0)))]) → va_S A H0 H1 locs →
      W p l e R s m args below meth c H1 locs (cells + 1) (slots + N) Q (F0 m (pc + 2) ls (.ref q :: rest))) : W p l e R s m args below meth c H locs cells slots Q (F0 m pc ls (.int (nI N) :: rest)) := by
  subst hty
  have hb2 : N * componentBytes (newarray.typeOf atype) ≤ 536870912 := by
    have := Nat.mul_le_mul hN hcb
    omega
  refine va_newa (a0 := (N, .inl (fun _ => 0))) hexec hb harr rfl hK hP hD hS hA (fun cA => by rw [vp_cell_i, hdv]) (nI_pos (by omega)) (nI_clamp (by omega)) hb2 hcells hslots hdg (fun q cA H1 hK1 hP1 hD1 hS1 => ?_)
  have e0 := (hK.2 t0 _ ht).2
  have e1 : va_RA s cA (newarray.typeOf atype) := (hK1.2 tys.length (cA, newarray.typeOf atype) (by rw [List.getElem?_append_right (Nat.le_refl _), Nat.sub_self]; rfl)).2
  rw [hra] at e1
  have e2 : s.vm.findClass ("[" ++ (newarray.typeOf atype).toString) = some kA := by
    have := e0
    rw [hra] at this
    exact this
  have e3 : kA = cA := Option.some.inj (e2.symm.trans e1)
  subst e3
  exact kk q H1 hP1 hD1 hS1
end AX
end
section
/-! THE PLAIN LAW: bytes, letters, units, with no program in sight -/
/-- a word put at a place, its top byte first -/
def ud_wd (b : Nat → Nat) (k : Nat) (w : Int32) : Nat → Nat := ud_up (ud_up (ud_up (ud_up b k (ud_by w 3)) (k + 1) (ud_by w 2)) (k + 2) (ud_by w 1)) (k + 3) (ud_by w 0)
theorem ud_wd_lt {b : Nat → Nat} (hb : ∀ i, b i < 256) (k : Nat) (w : Int32) : ∀ i, ud_wd b k w i < 256 := ud_up_lt (ud_up_lt (ud_up_lt (ud_up_lt hb (ud_by_lt w 3) _) (ud_by_lt w 2) _) (ud_by_lt w 1) _) (ud_by_lt w 0) _
def ud_pk (w : Int32) : Nat → (Nat → Nat) → Nat → (Nat → Nat)
  | 0, b, _ => b
  | n + 1, b, k => ud_pk w n (ud_up b k (ud_by w n)) (k + 1)
theorem ud_pk4 (w : Int32) (b : Nat → Nat) (k : Nat) : ud_pk w 4 b k = ud_wd b k w := rfl
/-- put -/
def ud_pb (b : Nat → Nat) (sz : Nat) (w1 w2 w3 w4 : Int32) : Nat → Nat := if 112 < sz then b else ud_wd (ud_wd (ud_wd (ud_wd b sz w1) (sz + 4) w2) (sz + 8) w3) (sz + 12) w4
def ud_ps (sz : Nat) : Nat := if 112 < sz then sz else sz + 16
def ud_pv (sz : Nat) : Int32 := if 112 < sz then nI 0 else nI 1
theorem ud_pb_lt {b : Nat → Nat} (hb : ∀ i, b i < 256) (sz : Nat) (w1 w2 w3 w4 : Int32) : ∀ i, ud_pb b sz w1 w2 w3 w4 i < 256 := by
  unfold ud_pb
  split
  · exact hb
  · exact ud_wd_lt (ud_wd_lt (ud_wd_lt (ud_wd_lt hb _ _) _ _) _ _) _ _
theorem ud_ps_le {sz : Nat} (h : sz ≤ 128) : ud_ps sz ≤ 128 := by
  unfold ud_ps
  split <;> omega
/-- set -/
def ud_sB (b : Nat → Nat) (sz : Nat) (x v : Int32) : Nat → Nat := if sz = 0 then b else ud_up b (ud_m x % sz) (ud_by v 0)
def ud_sv (sz : Nat) : Int32 := if sz = 0 then nI 0 else nI 1
theorem ud_sB_lt {b : Nat → Nat} (hb : ∀ i, b i < 256) (sz : Nat) (x v : Int32) : ∀ i, ud_sB b sz x v i < 256 := by
  unfold ud_sB
  split
  · exact hb
  · exact ud_up_lt hb (ud_by_lt v 0) _
/-- a part's copy: j places of it -/
def ud_cp (b : Nat → Nat) (f j : Nat) : Nat → Nat := fun i => if i < j then b (f + i) else 0
theorem ud_cp0 (b : Nat → Nat) (f : Nat) : (fun _ => (0 : Int32)) = ud_B (ud_cp b f 0) := by
  funext i
  simp [ud_B, ud_cp, ud_sb_0]
theorem ud_cp1 (b : Nat → Nat) (f j : Nat) : ud_up (ud_cp b f j) j (b (f + j)) = ud_cp b f (j + 1) := by
  funext i
  unfold ud_up ud_cp
  by_cases h : i = j
  · subst h
    simp
  · by_cases h2 : i < j
    · simp [h, h2, Nat.lt_succ_of_lt h2]
    · simp [h, h2, show ¬ i < j + 1 by omega]
/-- letters: how long one is, its bytes -/
def ud_len (p : Nat) : Nat := if p < 128 then 1 else if p < 2048 then 2 else if p < 65536 then 3 else 4
def ud_ld (k : Nat) : Nat := if k = 1 then 0 else if k = 2 then 192 else if k = 3 then 224 else 240
def ud_tl : Nat → Nat → (Nat → Nat) → Nat → (Nat → Nat)
  | 0, _, b, _ => b
  | n + 1, f, b, p => ud_tl n f (ud_up b (f + (n + 1)) (128 + p % 64)) (p / 64)
def ud_sh : Nat → Nat → Nat
  | 0, p => p
  | n + 1, p => ud_sh n (p / 64)
def ud_lb (b : Nat → Nat) (sz f p : Nat) : Nat → Nat := if sz < f + ud_len p then b else ud_up (ud_tl (ud_len p - 1) f b p) f (ud_ld (ud_len p) + ud_sh (ud_len p - 1) p)
def ud_lr (sz f p : Nat) : Int32 := if sz < f + ud_len p then -1 else nI (ud_len p)
theorem ud_len_in (p : Nat) : 1 ≤ ud_len p ∧ ud_len p ≤ 4 := by
  unfold ud_len
  repeat' split
  all_goals omega
theorem ud_tl_lt : ∀ (n f : Nat) (b : Nat → Nat) (p : Nat), (∀ i, b i < 256) → ∀ i, ud_tl n f b p i < 256 := by
  intro n
  induction n with
  | zero => intro f b p hb; exact hb
  | succ n ih => intro f b p hb; exact ih f _ _ (ud_up_lt hb (by omega) _)
theorem ud_q1 {p : Nat} (h : ud_len p = 1) : p < 128 := by
  unfold ud_len at h
  repeat' split at h
  all_goals omega
theorem ud_q2 {p : Nat} (h : ud_len p = 2) : ud_sh 1 p < 32 := by
  unfold ud_len at h
  show p / 64 < 32
  repeat' split at h
  all_goals omega
theorem ud_q3 {p : Nat} (h : ud_len p = 3) : ud_sh 2 p < 16 := by
  unfold ud_len at h
  show p / 64 / 64 < 16
  repeat' split at h
  all_goals omega
theorem ud_q4 {p : Nat} (hp : p < 1114112) : ud_sh 3 p < 5 := by
  show p / 64 / 64 / 64 < 5
  omega
theorem ud_lb_lt {b : Nat → Nat} (hb : ∀ i, b i < 256) (sz f : Nat) {p : Nat} (hp : p < 1114112) : ∀ i, ud_lb b sz f p i < 256 := by
  unfold ud_lb
  split
  · exact hb
  · refine ud_up_lt (ud_tl_lt _ _ _ _ hb) ?_ _
    have h := ud_len_in p
    rcases (show ud_len p = 1 ∨ ud_len p = 2 ∨ ud_len p = 3 ∨ ud_len p = 4 by omega) with e | e | e | e
    · rw [e]
      have := ud_q1 e
      show 0 + p < 256
      omega
    · rw [e]
      have := ud_q2 e
      show 192 + ud_sh 1 p < 256
      omega
    · rw [e]
      have := ud_q3 e
      show 224 + ud_sh 2 p < 256
      omega
    · rw [e]
      have := ud_q4 hp
      show 240 + ud_sh 3 p < 256
      omega
/-- how many bytes a letter has that begins so; which second byte may follow -/
def ud_mn (x : Nat) : Nat := if x < 128 then 1 else if x < 194 ∨ 244 < x then 0 else if x < 224 then 2 else if x < 240 then 3 else 4
def ud_lo (x : Nat) : Nat := if x = 224 then 160 else if x = 240 then 144 else 128
def ud_hi (x : Nat) : Nat := if x = 237 then 159 else if x = 244 then 143 else 191
abbrev ud_fo (x y : Nat) : Prop := ud_lo x ≤ y ∧ y ≤ ud_hi x
abbrev ud_co (y : Nat) : Prop := 128 ≤ y ∧ y ≤ 191
/-- the letter that begins with the byte g0, with r bytes to the end: its number and its length; none if it isn't well-formed -/
def ud_lt (g0 g1 g2 g3 r : Nat) : Option (Nat × Nat) :=
  if g0 < 128 then some (g0, 1)
  else if g0 < 194 ∨ 244 < g0 then none
  else if g0 < 224 then (if 2 ≤ r ∧ ud_fo g0 g1 then some (64 * (g0 - 192) + (g1 - 128), 2) else none)
  else if g0 < 240 then (if 3 ≤ r ∧ ud_fo g0 g1 ∧ ud_co g2 then some (64 * (64 * (g0 - 224) + (g1 - 128)) + (g2 - 128), 3) else none)
  else if 4 ≤ r ∧ ud_fo g0 g1 ∧ ud_co g2 ∧ ud_co g3 then some (64 * (64 * (64 * (g0 - 240) + (g1 - 128)) + (g2 - 128)) + (g3 - 128), 4) else none
theorem ud_fo_co {x y : Nat} (h : ud_fo x y) : ud_co y := by
  obtain ⟨h1, h2⟩ := h
  unfold ud_lo at h1
  unfold ud_hi at h2
  constructor
  · repeat' split at h1
    all_goals omega
  · repeat' split at h2
    all_goals omega
theorem ud_fo244 {y : Nat} (h : ud_fo 244 y) : y ≤ 143 := h.2
theorem ud_fo224 {y : Nat} (h : ud_fo 224 y) : 160 ≤ y := h.1
theorem ud_lt_ok {g0 g1 g2 g3 r v n : Nat} (hr : 1 ≤ r) (h : ud_lt g0 g1 g2 g3 r = some (v, n)) : 1 ≤ n ∧ n ≤ r ∧ n ≤ 4 ∧ v < 1114112 ∧ (n < 4 → v < 65536) ∧ n = ud_mn g0 := by
  unfold ud_lt at h
  unfold ud_mn
  split at h
  · cases h
    rename_i q
    rw [if_pos q]
    omega
  · rename_i q0
    rw [if_neg q0]
    split at h
    · cases h
    · rename_i q1
      rw [if_neg q1]
      split at h
      · rename_i q2
        rw [if_pos q2]
        split at h
        · rename_i q3
          simp only [Option.some.injEq, Prod.mk.injEq] at h
          have := ud_fo_co q3.2
          omega
        · cases h
      · rename_i q2
        rw [if_neg q2]
        split at h
        · rename_i q4
          rw [if_pos q4]
          split at h
          · rename_i q3
            simp only [Option.some.injEq, Prod.mk.injEq] at h
            have := ud_fo_co q3.2.1
            omega
          · cases h
        · rename_i q4
          rw [if_neg q4]
          split at h
          · rename_i q3
            simp only [Option.some.injEq, Prod.mk.injEq] at h
            have h1 := ud_fo_co q3.2.1
            have h2 : g0 = 244 → g1 ≤ 143 := by
              intro e
              have h3 := q3.2.1
              rw [e] at h3
              exact ud_fo244 h3
            omega
          · cases h
/-- the units of a letter -/
def ud_un (v : Nat) : List Nat := if v ≤ 65535 then [v] else [55232 + v / 1024, 56320 + v % 1024]
theorem ud_un_1 {v : Nat} (h : v ≤ 65535) : ud_un v = [v] := if_pos h
theorem ud_un_2 {v : Nat} (h : 65535 < v) : ud_un v = [55232 + v / 1024, 56320 + v % 1024] := if_neg (by omega)
theorem ud_un_lt {v : Nat} (hv : v < 1114112) : ∀ x ∈ ud_un v, x < 65536 := by
  intro x hx
  unfold ud_un at hx
  split at hx
  · simp at hx
    omega
  · simp at hx
    omega
/-- all letters from i to e -/
def ud_all (b : Nat → Nat) (e : Nat) : Nat → Nat → Option (List Nat)
  | 0, _ => none
  | k + 1, i => if e ≤ i then some [] else match ud_lt (b i) (b (i + 1)) (b (i + 2)) (b (i + 3)) (e - i) with
    | none => none
    | some q => (ud_all b e k (i + q.2)).map (fun l => ud_un q.1 ++ l)
theorem ud_all_end {b : Nat → Nat} {e k i : Nat} (h : e ≤ i) : ud_all b e (k + 1) i = some [] := by
  show (if e ≤ i then _ else _) = _
  exact if_pos h
theorem ud_all_bad {b : Nat → Nat} {e k i : Nat} (h : i < e) (h2 : ud_lt (b i) (b (i + 1)) (b (i + 2)) (b (i + 3)) (e - i) = none) : ud_all b e (k + 1) i = none := by
  show (if e ≤ i then _ else _) = _
  rw [if_neg (by omega), h2]
theorem ud_all_go {b : Nat → Nat} {e k i v n : Nat} (h : i < e) (h2 : ud_lt (b i) (b (i + 1)) (b (i + 2)) (b (i + 3)) (e - i) = some (v, n)) : ud_all b e (k + 1) i = (ud_all b e k (i + n)).map (fun l => ud_un v ++ l) := by
  show (if e ≤ i then _ else _) = _
  rw [if_neg (by omega), h2]
theorem ud_all_shift (b : Nat → Nat) (f c : Nat) : ∀ k i, ud_all (fun j => b (f + j)) c k i = ud_all b (f + c) k (f + i) := by
  intro k
  induction k with
  | zero => intro i; rfl
  | succ k ih =>
    intro i
    by_cases h : c ≤ i
    · rw [ud_all_end h, ud_all_end (by omega)]
    · cases hl : ud_lt (b (f + i)) (b (f + i + 1)) (b (f + i + 2)) (b (f + i + 3)) (f + c - (f + i)) with
      | none =>
        rw [ud_all_bad (by omega) hl]
        refine ud_all_bad (by omega) ?_
        rw [show c - i = f + c - (f + i) by omega]
        exact hl
      | some q =>
        obtain ⟨v, n⟩ := q
        rw [ud_all_go (by omega) hl]
        refine (ud_all_go (v := v) (n := n) (by omega) ?_).trans ?_
        · rw [show c - i = f + c - (f + i) by omega]
          exact hl
        · rw [ih, Nat.add_assoc]
theorem ud_all_lt (b : Nat → Nat) (e : Nat) : ∀ k i l, ud_all b e k i = some l → ∀ x ∈ l, x < 65536 := by
  intro k
  induction k with
  | zero => intro i l h; cases h
  | succ k ih =>
    intro i l h
    by_cases hi : e ≤ i
    · rw [ud_all_end hi] at h
      cases h
      intro x hx
      cases hx
    · cases hl : ud_lt (b i) (b (i + 1)) (b (i + 2)) (b (i + 3)) (e - i) with
      | none => rw [ud_all_bad (by omega) hl] at h; cases h
      | some q =>
        obtain ⟨v, n⟩ := q
        rw [ud_all_go (by omega) hl] at h
        cases ha : ud_all b e k (i + n) with
        | none => rw [ha] at h; cases h
        | some l2 =>
          rw [ha] at h
          cases h
          intro x hx
          rcases List.mem_append.mp hx with q | q
          · exact ud_un_lt (ud_lt_ok (by omega) hl).2.2.2.1 x q
          · exact ih _ _ ha x q
/-- what fits into a room -/
def ud_res (o : Option (List Nat)) (w : Nat) : Option (List Nat) := match o with
  | none => none
  | some l => if l.length ≤ w then some l else none
theorem ud_res_over {o : Option (List Nat)} {acc : List Nat} {w : Nat} (h : w < acc.length) : ud_res (o.map (fun l => acc ++ l)) w = none := by
  cases o with
  | none => rfl
  | some l =>
    show (if (acc ++ l).length ≤ w then _ else _) = _
    rw [if_neg]
    rw [List.length_append]
    omega
theorem ud_res_fit {acc : List Nat} {w : Nat} (h : acc.length ≤ w) : ud_res (some acc) w = some acc := if_pos h
theorem ud_res_len {o : Option (List Nat)} {w : Nat} {l : List Nat} (h : ud_res o w = some l) : l.length ≤ w ∧ o = some l := by
  cases o with
  | none => cases h
  | some l2 =>
    change (if l2.length ≤ w then some l2 else none) = some l at h
    split at h
    · cases h
      exact ⟨by assumption, rfl⟩
    · cases h
theorem ud_map2 (o : Option (List Nat)) (a b : List Nat) : (o.map (fun l => b ++ l)).map (fun l => a ++ l) = o.map (fun l => (a ++ b) ++ l) := by
  cases o with
  | none => rfl
  | some l => simp
def ud_out (b : Nat → Nat) (f c w : Nat) : Option (List Nat) := ud_res (ud_all b (f + c) (c + 1) f) w
theorem ud_out_shift (b : Nat → Nat) (f c w : Nat) : ud_out (fun j => b (f + j)) 0 c w = ud_out b f c w := by
  unfold ud_out
  rw [Nat.zero_add, ud_all_shift]
  rfl
/-- what a turn leaves, and what it answers -/
def ud_md (o : Option (List Nat)) : Int32 := match o with
  | none => -1
  | some l => nI l.length
def ud_ls (o : Option (List Nat)) : List Nat := match o with
  | none => []
  | some l => l
def ud_po (o : Option (List Nat)) (r : Int32) (acc : List Nat) : Prop := r = ud_md o ∧ ∀ l, o = some l → acc = l
/-! the table's machine -/
def ud_tt (s n : Nat) : Nat := if s = 0 then (if 8 ≤ n ∧ n ≤ 11 then 7 else 8) else if s = 1 then (if 8 ≤ n ∧ n ≤ 11 then 0 else 8) else if s = 2 then (if 8 ≤ n ∧ n ≤ 11 then 1 else 8) else if s = 3 then (if 10 ≤ n ∧ n ≤ 11 then 0 else 8) else if s = 4 then (if 8 ≤ n ∧ n ≤ 9 then 0 else 8) else if s = 5 then (if 9 ≤ n ∧ n ≤ 11 then 1 else 8) else (if 8 ≤ n ∧ n ≤ 8 then 1 else 8)
def ud_fs (x : Nat) : Nat := if x < 194 then 8 else if x < 224 then 0 else if x = 224 then 3 else if x = 237 then 4 else if x < 240 then 1 else if x = 240 then 5 else if x < 244 then 2 else if x = 244 then 6 else 8
def ud_fc (x : Nat) : Nat := if x < 194 then 16777215 else if x < 224 then x - 192 else if x < 240 then x - 224 else if x < 245 then x - 240 else 16777215
def ud_st (s : Nat) : Int32 := if s < 7 then nI (16 * s) else if s = 7 then -1 else -2
def ud_rk (s : Nat) : Nat := if s = 0 then 1 else if s = 1 ∨ s = 3 ∨ s = 4 then 2 else if s = 2 ∨ s = 5 ∨ s = 6 then 3 else 0
theorem ud_ft_c : ∀ x, x < 256 → 128 ≤ x → ((ud_ft (x % 128)).toUInt32 >>> ((nI 8).toUInt32 &&& Int32.toUInt32 31)).toInt32 = nI (ud_fc x) := by decide +kernel
theorem ud_ft_s : ∀ x, x < 256 → 128 ≤ x → (ud_ft (x % 128)).toInt8.toInt32 = ud_st (ud_fs x) := by decide +kernel
theorem ud_tr_s : ∀ s, s < 7 → ∀ n, n < 16 → ud_tr (16 * s + n) = ud_st (ud_tt s n) := by decide +kernel
theorem ud_fs_rk : ∀ x, x < 256 → ud_rk (ud_fs x) ≤ 3 ∧ ud_fs x < 9 := by decide +kernel
theorem ud_tt_rk : ∀ s, s < 7 → ∀ n, n < 16 → ud_rk (ud_tt s n) + 1 ≤ ud_rk s ∧ ud_tt s n < 9 := by decide +kernel
theorem ud_rk0 : ∀ s, s < 9 → ud_rk s = 0 → s = 7 ∨ s = 8 := by decide +kernel
def ud_run (b : Nat → Nat) (e : Nat) : Nat → Nat → Nat → Nat → Option (Nat × Nat)
  | 0, s, v, i => if s = 7 then some (v, i) else none
  | k + 1, s, v, i => if s = 7 then some (v, i) else if s = 8 then none else if i < e then ud_run b e k (ud_tt s (b i / 16)) (64 * v + b i % 64) (i + 1) else none
theorem ud_run7 (b : Nat → Nat) (e k v i : Nat) : ud_run b e k 7 v i = some (v, i) := by
  cases k <;> rfl
theorem ud_run8 (b : Nat → Nat) (e k v i : Nat) : ud_run b e k 8 v i = none := by
  cases k <;> rfl
theorem ud_run_go {b : Nat → Nat} {e k s v i : Nat} (h : s < 7) (hi : i < e) : ud_run b e (k + 1) s v i = ud_run b e k (ud_tt s (b i / 16)) (64 * v + b i % 64) (i + 1) := by
  show (if s = 7 then _ else _) = _
  rw [if_neg (by omega), if_neg (by omega), if_pos hi]
theorem ud_run_out {b : Nat → Nat} {e k s v i : Nat} (h : s < 7) (hi : ¬ i < e) : ud_run b e (k + 1) s v i = none := by
  show (if s = 7 then _ else _) = _
  rw [if_neg (by omega), if_neg (by omega), if_neg hi]
/-- one step: from a state with its range of second bytes to the next -/
theorem ud_step {b : Nat → Nat} {e k s v i : Nat} (lo hi nx : Nat) (h : s < 7) (hg : ∀ y, y < 256 → ud_tt s (y / 16) = if lo ≤ y ∧ y ≤ hi then nx else 8) (hlo : 128 ≤ lo) (hhi : hi ≤ 191) (hb : b i < 256) :
    ud_run b e (k + 1) s v i = if i < e ∧ lo ≤ b i ∧ b i ≤ hi then ud_run b e k nx (64 * v + (b i - 128)) (i + 1) else none := by
  by_cases hi' : i < e
  · rw [ud_run_go h hi', hg _ hb]
    by_cases hr : lo ≤ b i ∧ b i ≤ hi
    · rw [if_pos hr, if_pos ⟨hi', hr⟩, show b i % 64 = b i - 128 by omega]
    · rw [if_neg hr, if_neg (fun q => hr q.2), ud_run8]
  · rw [ud_run_out h hi', if_neg (fun q => hi' q.1)]
theorem ud_g0 : ∀ y, y < 256 → ud_tt 0 (y / 16) = if 128 ≤ y ∧ y ≤ 191 then 7 else 8 := by decide +kernel
theorem ud_g1 : ∀ y, y < 256 → ud_tt 1 (y / 16) = if 128 ≤ y ∧ y ≤ 191 then 0 else 8 := by decide +kernel
theorem ud_g2 : ∀ y, y < 256 → ud_tt 2 (y / 16) = if 128 ≤ y ∧ y ≤ 191 then 1 else 8 := by decide +kernel
theorem ud_g3 : ∀ y, y < 256 → ud_tt 3 (y / 16) = if 160 ≤ y ∧ y ≤ 191 then 0 else 8 := by decide +kernel
theorem ud_g4 : ∀ y, y < 256 → ud_tt 4 (y / 16) = if 128 ≤ y ∧ y ≤ 159 then 0 else 8 := by decide +kernel
theorem ud_g5 : ∀ y, y < 256 → ud_tt 5 (y / 16) = if 144 ≤ y ∧ y ≤ 191 then 1 else 8 := by decide +kernel
theorem ud_g6 : ∀ y, y < 256 → ud_tt 6 (y / 16) = if 128 ≤ y ∧ y ≤ 143 then 1 else 8 := by decide +kernel
/-- one more byte, two more -/
theorem ud_R1 {b : Nat → Nat} (hb : ∀ i, b i < 256) (e k v i : Nat) : ud_run b e (k + 1) 0 v i = if i < e ∧ ud_co (b i) then some (64 * v + (b i - 128), i + 1) else none := by
  rw [ud_step 128 191 7 (by decide) ud_g0 (by decide) (by decide) (hb i), ud_run7]
theorem ud_R2 {b : Nat → Nat} (hb : ∀ i, b i < 256) (e k v i : Nat) : ud_run b e (k + 2) 1 v i = if i + 1 < e ∧ ud_co (b i) ∧ ud_co (b (i + 1)) then some (64 * (64 * v + (b i - 128)) + (b (i + 1) - 128), i + 2) else none := by
  rw [ud_step 128 191 0 (by decide) ud_g1 (by decide) (by decide) (hb i), ud_R1 hb]
  by_cases h1 : i < e ∧ 128 ≤ b i ∧ b i ≤ 191
  · rw [if_pos h1]
    by_cases h2 : i + 1 < e ∧ ud_co (b (i + 1))
    · rw [if_pos h2, if_pos ⟨h2.1, h1.2, h2.2⟩]
    · rw [if_neg h2, if_neg (fun q => h2 ⟨q.1, q.2.2⟩)]
  · rw [if_neg h1, if_neg (fun q => h1 ⟨by omega, q.2.1⟩)]
theorem ud_lo_v {x : Nat} (lo : Nat) (h : ud_lo x = lo) (hi : Nat) (h2 : ud_hi x = hi) (y : Nat) : ud_fo x y ↔ lo ≤ y ∧ y ≤ hi := by
  show ud_lo x ≤ y ∧ y ≤ ud_hi x ↔ _
  rw [h, h2]
/-- three bytes: the second in a range -/
theorem ud_R3 {b : Nat → Nat} (hb : ∀ i, b i < 256) {x e k v i s : Nat} (lo hi : Nat) (h : s < 7) (hg : ∀ y, y < 256 → ud_tt s (y / 16) = if lo ≤ y ∧ y ≤ hi then 0 else 8) (hlo : 128 ≤ lo) (hhi : hi ≤ 191) (e1 : ud_lo x = lo) (e2 : ud_hi x = hi) :
    ud_run b e (k + 2) s v i = if i + 1 < e ∧ ud_fo x (b i) ∧ ud_co (b (i + 1)) then some (64 * (64 * v + (b i - 128)) + (b (i + 1) - 128), i + 2) else none := by
  rw [ud_step lo hi 0 h hg hlo hhi (hb i), ud_R1 hb]
  have hf := ud_lo_v lo e1 hi e2 (b i)
  by_cases h1 : i < e ∧ lo ≤ b i ∧ b i ≤ hi
  · rw [if_pos h1]
    by_cases h2 : i + 1 < e ∧ ud_co (b (i + 1))
    · rw [if_pos h2, if_pos ⟨h2.1, hf.mpr h1.2, h2.2⟩]
    · rw [if_neg h2, if_neg (fun q => h2 ⟨q.1, q.2.2⟩)]
  · rw [if_neg h1, if_neg (fun q => h1 ⟨by omega, hf.mp q.2.1⟩)]
theorem ud_R4 {b : Nat → Nat} (hb : ∀ i, b i < 256) {x e k v i s : Nat} (lo hi : Nat) (h : s < 7) (hg : ∀ y, y < 256 → ud_tt s (y / 16) = if lo ≤ y ∧ y ≤ hi then 1 else 8) (hlo : 128 ≤ lo) (hhi : hi ≤ 191) (e1 : ud_lo x = lo) (e2 : ud_hi x = hi) :
    ud_run b e (k + 3) s v i = if i + 2 < e ∧ ud_fo x (b i) ∧ ud_co (b (i + 1)) ∧ ud_co (b (i + 2)) then some (64 * (64 * (64 * v + (b i - 128)) + (b (i + 1) - 128)) + (b (i + 2) - 128), i + 3) else none := by
  rw [ud_step lo hi 1 h hg hlo hhi (hb i), ud_R2 hb]
  have hf := ud_lo_v lo e1 hi e2 (b i)
  by_cases h1 : i < e ∧ lo ≤ b i ∧ b i ≤ hi
  · rw [if_pos h1]
    by_cases h2 : i + 1 + 1 < e ∧ ud_co (b (i + 1)) ∧ ud_co (b (i + 1 + 1))
    · rw [if_pos h2, if_pos ⟨h2.1, hf.mpr h1.2, h2.2⟩]
    · rw [if_neg h2, if_neg (fun q => h2 ⟨q.1, q.2.2⟩)]
  · rw [if_neg h1, if_neg (fun q => h1 ⟨by omega, hf.mp q.2.1⟩)]
/-- THE MACHINE READS WHAT THE TABLE OF LETTERS SAYS -/
theorem ud_machine {b : Nat → Nat} (hb : ∀ i, b i < 256) {e i : Nat} (hi : i < e) (h128 : 128 ≤ b i) :
    ud_run b e 3 (ud_fs (b i)) (ud_fc (b i)) (i + 1) = (ud_lt (b i) (b (i + 1)) (b (i + 2)) (b (i + 3)) (e - i)).map (fun q => (q.1, i + q.2)) := by
  have h256 := hb i
  unfold ud_lt
  rw [if_neg (by omega)]
  by_cases c1 : b i < 194 ∨ 244 < b i
  · rw [if_pos c1]
    have es : ud_fs (b i) = 8 := by
      unfold ud_fs
      repeat' split
      all_goals omega
    rw [es, ud_run8]
    rfl
  · rw [if_neg c1]
    by_cases c2 : b i < 224
    · rw [if_pos c2]
      have es : ud_fs (b i) = 0 := by
        unfold ud_fs
        repeat' split
        all_goals omega
      have ec : ud_fc (b i) = b i - 192 := by
        unfold ud_fc
        repeat' split
        all_goals omega
      have el : ud_lo (b i) = 128 := by
        unfold ud_lo
        repeat' split
        all_goals omega
      have eh : ud_hi (b i) = 191 := by
        unfold ud_hi
        repeat' split
        all_goals omega
      have hf := ud_lo_v 128 el 191 eh (b (i + 1))
      rw [es, ec, ud_R1 hb]
      by_cases h2 : 2 ≤ e - i ∧ ud_fo (b i) (b (i + 1))
      · rw [if_pos h2, if_pos ⟨by omega, hf.mp h2.2⟩]
        rfl
      · rw [if_neg h2, if_neg (fun q => h2 ⟨by omega, hf.mpr q.2⟩)]
        rfl
    · rw [if_neg c2]
      by_cases c3 : b i < 240
      · rw [if_pos c3]
        have ec : ud_fc (b i) = b i - 224 := by
          unfold ud_fc
          repeat' split
          all_goals omega
        have main : ud_run b e 3 (ud_fs (b i)) (b i - 224) (i + 1) = if i + 1 + 1 < e ∧ ud_fo (b i) (b (i + 1)) ∧ ud_co (b (i + 1 + 1)) then some (64 * (64 * (b i - 224) + (b (i + 1) - 128)) + (b (i + 1 + 1) - 128), i + 1 + 2) else none := by
          rcases (show b i = 224 ∨ b i = 237 ∨ (b i ≠ 224 ∧ b i ≠ 237) by omega) with q | q | q
          · rw [q]
            exact ud_R3 (k := 1) (s := 3) hb 160 191 (by decide) ud_g3 (by decide) (by decide) rfl rfl
          · rw [q]
            exact ud_R3 (k := 1) (s := 4) hb 128 159 (by decide) ud_g4 (by decide) (by decide) rfl rfl
          · have es : ud_fs (b i) = 1 := by
              unfold ud_fs
              repeat' split
              all_goals omega
            have el : ud_lo (b i) = 128 := by
              unfold ud_lo
              repeat' split
              all_goals omega
            have eh : ud_hi (b i) = 191 := by
              unfold ud_hi
              repeat' split
              all_goals omega
            rw [es]
            exact ud_R3 (k := 1) (s := 1) hb 128 191 (by decide) ud_g1 (by decide) (by decide) el eh
        rw [ec, main]
        by_cases h2 : 3 ≤ e - i ∧ ud_fo (b i) (b (i + 1)) ∧ ud_co (b (i + 2))
        · rw [if_pos h2, if_pos ⟨by omega, h2.2⟩]
          rfl
        · rw [if_neg h2, if_neg (fun q => h2 ⟨by omega, q.2⟩)]
          rfl
      · rw [if_neg c3]
        have ec : ud_fc (b i) = b i - 240 := by
          unfold ud_fc
          repeat' split
          all_goals omega
        have main : ud_run b e 3 (ud_fs (b i)) (b i - 240) (i + 1) = if i + 1 + 2 < e ∧ ud_fo (b i) (b (i + 1)) ∧ ud_co (b (i + 1 + 1)) ∧ ud_co (b (i + 1 + 2)) then some (64 * (64 * (64 * (b i - 240) + (b (i + 1) - 128)) + (b (i + 1 + 1) - 128)) + (b (i + 1 + 2) - 128), i + 1 + 3) else none := by
          rcases (show b i = 240 ∨ b i = 244 ∨ (b i ≠ 240 ∧ b i ≠ 244) by omega) with q | q | q
          · rw [q]
            exact ud_R4 (k := 0) (s := 5) hb 144 191 (by decide) ud_g5 (by decide) (by decide) rfl rfl
          · rw [q]
            exact ud_R4 (k := 0) (s := 6) hb 128 143 (by decide) ud_g6 (by decide) (by decide) rfl rfl
          · have es : ud_fs (b i) = 2 := by
              unfold ud_fs
              repeat' split
              all_goals omega
            have el : ud_lo (b i) = 128 := by
              unfold ud_lo
              repeat' split
              all_goals omega
            have eh : ud_hi (b i) = 191 := by
              unfold ud_hi
              repeat' split
              all_goals omega
            rw [es]
            exact ud_R4 (k := 0) (s := 2) hb 128 191 (by decide) ud_g2 (by decide) (by decide) el eh
        rw [ec, main]
        by_cases h2 : 4 ≤ e - i ∧ ud_fo (b i) (b (i + 1)) ∧ ud_co (b (i + 2)) ∧ ud_co (b (i + 3))
        · rw [if_pos h2, if_pos ⟨by omega, h2.2⟩]
          rfl
        · rw [if_neg h2, if_neg (fun q => h2 ⟨by omega, q.2⟩)]
          rfl
/-! the model's reading of one letter -/
def ud_lv (o : Option (Nat × Nat)) : Int32 := match o with
  | none => -1
  | some q => nI q.1
/-- its loop over the bytes behind the first -/
def ud_lp (b : Nat → Nat) (a n : Nat) : Nat → Nat → Nat → Option Nat
  | 0, _, v => some v
  | j + 1, k, v => if k < n then (if ud_co (b (a + k)) then ud_lp b a n j (k + 1) (64 * v + (b (a + k) - 128)) else none) else some v
theorem ud_lp_end {b : Nat → Nat} {a n j k v : Nat} (h : n ≤ k) : ud_lp b a n j k v = some v := by
  cases j with
  | zero => rfl
  | succ j =>
    show (if k < n then _ else _) = _
    rw [if_neg (by omega)]
theorem ud_lp_go {b : Nat → Nat} {a n j k v : Nat} (h : k < n) (h2 : ud_co (b (a + k))) : ud_lp b a n (j + 1) k v = ud_lp b a n j (k + 1) (64 * v + (b (a + k) - 128)) := by
  show (if k < n then _ else _) = _
  rw [if_pos h, if_pos h2]
theorem ud_lp_bad {b : Nat → Nat} {a n j k v : Nat} (h : k < n) (h2 : ¬ ud_co (b (a + k))) : ud_lp b a n (j + 1) k v = none := by
  show (if k < n then _ else _) = _
  rw [if_pos h, if_neg h2]
def ud_sub (n : Nat) : Nat := if n = 2 then 192 else if n = 3 then 224 else 240
/-- what the loop reads is the letter -/
theorem ud_loopR {b : Nat → Nat} {a e : Nat} (hae : a < e) (h2 : 2 ≤ ud_mn (b a)) (hend : a + ud_mn (b a) ≤ e) (hf : ud_fo (b a) (b (a + 1))) :
    (ud_lt (b a) (b (a + 1)) (b (a + 2)) (b (a + 3)) (e - a)).map (fun q => q.1) = ud_lp b a (ud_mn (b a)) 3 1 (b a - ud_sub (ud_mn (b a))) := by
  have hc1 := ud_fo_co hf
  unfold ud_mn at h2 hend ⊢
  unfold ud_lt
  by_cases q0 : b a < 128
  · rw [if_pos q0] at h2
    omega
  · rw [if_neg q0] at h2 hend ⊢
    rw [if_neg q0]
    by_cases q1 : b a < 194 ∨ 244 < b a
    · rw [if_pos q1] at h2
      omega
    · rw [if_neg q1] at h2 hend ⊢
      rw [if_neg q1]
      by_cases q2 : b a < 224
      · rw [if_pos q2] at hend ⊢
        rw [if_pos q2, if_pos ⟨by omega, hf⟩, ud_lp_go (by decide) hc1, ud_lp_end (by decide)]
        rfl
      · rw [if_neg q2] at hend ⊢
        rw [if_neg q2]
        by_cases q3 : b a < 240
        · rw [if_pos q3] at hend ⊢
          rw [if_pos q3, ud_lp_go (by decide) hc1]
          by_cases c2 : ud_co (b (a + 2))
          · rw [if_pos ⟨by omega, hf, c2⟩, ud_lp_go (by decide) c2, ud_lp_end (by decide)]
            rfl
          · rw [if_neg (fun q => c2 q.2.2), ud_lp_bad (by decide) c2]
            rfl
        · rw [if_neg q3] at hend ⊢
          rw [if_neg q3, ud_lp_go (by decide) hc1]
          by_cases c2 : ud_co (b (a + 2))
          · rw [ud_lp_go (by decide) c2]
            by_cases c3 : ud_co (b (a + 3))
            · rw [if_pos ⟨by omega, hf, c2, c3⟩, ud_lp_go (by decide) c3, ud_lp_end (by decide)]
              rfl
            · rw [if_neg (fun q => c3 q.2.2.2), ud_lp_bad (by decide) c3]
              rfl
          · rw [if_neg (fun q => c2 q.2.2.1), ud_lp_bad (by decide) c2]
            rfl
theorem ud_lt_0 {g0 g1 g2 g3 r : Nat} (h : ud_mn g0 = 0 ∨ r < ud_mn g0) (hr : 1 ≤ r) : ud_lt g0 g1 g2 g3 r = none := by
  cases hl : ud_lt g0 g1 g2 g3 r with
  | none => rfl
  | some q =>
    obtain ⟨v, n⟩ := q
    have := ud_lt_ok hr hl
    omega
theorem ud_lt_1 {g0 g1 g2 g3 r : Nat} (h : ud_mn g0 = 1) : ud_lt g0 g1 g2 g3 r = some (g0, 1) := by
  unfold ud_mn at h
  unfold ud_lt
  split at h
  · rename_i q
    exact if_pos q
  · repeat' split at h
    all_goals omega
theorem ud_lt_nf {g0 g1 g2 g3 r : Nat} (h : 2 ≤ ud_mn g0) (hf : ¬ ud_fo g0 g1) : ud_lt g0 g1 g2 g3 r = none := by
  unfold ud_mn at h
  unfold ud_lt
  by_cases q0 : g0 < 128
  · rw [if_pos q0] at h
    omega
  · rw [if_neg q0]
    by_cases q1 : g0 < 194 ∨ 244 < g0
    · rw [if_pos q1]
    · rw [if_neg q1]
      by_cases q2 : g0 < 224
      · rw [if_pos q2, if_neg (fun q => hf q.2)]
      · rw [if_neg q2]
        by_cases q3 : g0 < 240
        · rw [if_pos q3, if_neg (fun q => hf q.2.1)]
        · rw [if_neg q3, if_neg (fun q => hf q.2.1)]
def ud_mo (o : Option Nat) : Int32 := match o with
  | none => -1
  | some v => nI v
theorem ud_lv_map (o : Option (Nat × Nat)) (o2 : Option Nat) (h : o.map (fun q => q.1) = o2) : ud_lv o = ud_mo o2 := by
  subst h
  cases o <;> rfl
/-- a room's overlay: j places of a list, then what was there -/
def ud_ov (l : List Nat) (j : Nat) (g : Nat → Int32) : Nat → Int32 := fun i => if i < j then nI (l.getD i 0) else g i
theorem ud_ov0 (l : List Nat) (g : Nat → Int32) : ud_ov l 0 g = g := by
  funext i
  simp [ud_ov]
theorem ud_ov1 (l : List Nat) (j : Nat) (g : Nat → Int32) : upd (ud_ov l j g) j (nI (l.getD j 0)) = ud_ov l (j + 1) g := by
  funext i
  unfold upd ud_ov
  by_cases h : i = j
  · subst h
    simp
  · by_cases h2 : i < j
    · simp [h, h2, Nat.lt_succ_of_lt h2]
    · simp [h, h2, show ¬ i < j + 1 by omega]
theorem ud_ovL (l : List Nat) : ∀ i, i < l.length → ud_ov l l.length (fun _ => 0) i = ud_L l i := by
  intro i hi
  simp [ud_ov, ud_L, hi]
theorem ud_getlt {l : List Nat} {M : Nat} (h : ∀ x ∈ l, x < M) (h0 : 0 < M) (i : Nat) : l.getD i 0 < M := by
  by_cases hi : i < l.length
  · have e : l.getD i 0 = l[i] := by simp [List.getD, hi]
    rw [e]
    exact h _ (List.getElem_mem hi)
  · have e : l.getD i 0 = 0 := by simp [List.getD, List.getElem?_eq_none (Nat.le_of_not_lt hi)]
    rw [e]
    exact h0
end
section
/-! UtfDesk: the short methods -/
abbrev wsX0_word : List Cond := ws_ yX0_word cX0_word 3 none
set_option maxHeartbeats 4000000 in
set_option maxRecDepth 100000 in
/-- word(to, at, w): four bytes -/
theorem me_X0_word (l : Launch) (dC : Nat → ClassId) (dI : Nat → Nat → Nat) (kB kC kI : ClassId) (sz0 : Nat) (ta : Nat) (b : Nat → Nat) (k : Nat) (x : Int32) (hk : k + 4 ≤ 128) : Met l yX0_word wsX0_word ({ frames := 0, cells := 0, slots := 0, locals := 0 } : Room) (va_Pc [.ref ta, .int (nI k), .int x] (ud_P dC dI kB kC kI [(ta, .inl (kB, 128, .inl (ud_B b)))] sz0)) (va_Qv (fun (_ : Unit) => True) (fun (_ : Unit) (t : State) => va_P (dC, dI) vwCl [(ta, .inl (kB, 128, .inl (ud_B (ud_wd b k x))))] t.heap ∧ va_D (va_A [(ta, .inl (kB, 128, .inl (ud_B b)))] sz0) [(ta, .inl (kB, 128, .inl (ud_B (ud_wd b k x))))]) (va_A [(ta, .inl (kB, 128, .inl (ud_B b)))] sz0)) 0 0 (va_A [(ta, .inl (kB, 128, .inl (ud_B b)))] sz0) := by
  refine Met.ofW (cc := cX0_word) (maxL := 3) (ret := none) (by decide) rfl ?_
  intro p e s m args below meth c s₁ B hml hv
  obtain ⟨rfl, hsz, hP, hK, hD0⟩ := hv
  have hx := B.exec
  have hb := B.bytes
  have hr := B.returns
  have hts := atoms_spec (ws := wsX0_word) B.pre
  have hts : ∀ w ∈ lw_all, w.before _ s = true := fun w h => hts w (List.mem_cons_of_mem _ h)
  have hown : s.vm.findClass RX0 = some m.cls := findClass_of_methodNamed B.named
  have hlocks := B.notSynchronized
  subst hsz
  have hD := hD0.self (sz := s.heap.size)
  generalize hAe : va_A [(ta, .inl (kB, 128, .inl (ud_B b)))] s.heap.size = A at hD ⊢
  have hA : ∀ q : Nat, s.heap.size ≤ q → A q := fun q h => by rw [← hAe]; exact Or.inr h
  have hS : va_S A s.heap s.heap [] := va_S.rf
  have hP : va_P (dC, dI) vwCl [(ta, .inl (kB, 128, .inl (ud_B b)))] s.heap := hP
  have hl := lv_entry ([.ref ta, .int (nI k), .int x]) (n := 3) (Nat.le_of_ble_eq_true rfl)
  rw [lg_entry_eq]
  generalize (lg_sl ([.ref ta, .int (nI k), .int x]) ++ List.replicate (3 - (lg_sl ([.ref ta, .int (nI k), .int x])).length) Slot.unset).toArray = ls at hl ⊢
  have hl : lv_has ls 3 [(0, .ref ta), (1, .int (nI k)), (2, .int x)] := hl
  refine lv_aload_n hx hb dX0_word_0 rfl (lv_at hl 0 rfl) ?_
  refine lv_iload_n hx hb dX0_word_1 rfl (lv_at hl 1 rfl) ?_
  refine lv_iload_n hx hb dX0_word_2 rfl (lv_at hl 2 rfl) ?_
  refine lv_bipush (v := nI 24) hx hb dX0_word_3 (by decide) ?_
  refine lv_ishr hx hb dX0_word_5 ?_
  refine lv_i2b (v := ud_sb (ud_by x 3)) hx hb dX0_word_6 (ud_shb _ _ 3 (by decide) (by decide)) ?_
  refine ax_bast hx hb hK hP hD hS 0 0 rfl rfl (by omega) (by omega) (g := ud_B (ud_up b k (ud_by x 3))) (ud_stB _ _ _) dX0_word_7 (fun H locs hP hD hS => ?_)
  have hP : va_P (dC, dI) vwCl [(ta, .inl (kB, 128, .inl (ud_B (ud_up b k (ud_by x 3)))))] H := hP
  have hD : va_D A [(ta, .inl (kB, 128, .inl (ud_B (ud_up b k (ud_by x 3)))))] := hD
  refine lv_aload_n hx hb dX0_word_8 rfl (lv_at hl 0 rfl) ?_
  refine lv_iload_n hx hb dX0_word_9 rfl (lv_at hl 1 rfl) ?_
  refine lv_iconst (v := nI 1) hx hb dX0_word_10 (by decide) ?_
  refine lv_iadd hx hb dX0_word_11 ?_
  refine ax_top (y := nI (k + 1)) (nI_add _ _) ?_
  refine lv_iload_n hx hb dX0_word_12 rfl (lv_at hl 2 rfl) ?_
  refine lv_bipush (v := nI 16) hx hb dX0_word_13 (by decide) ?_
  refine lv_ishr hx hb dX0_word_15 ?_
  refine lv_i2b (v := ud_sb (ud_by x 2)) hx hb dX0_word_16 (ud_shb _ _ 2 (by decide) (by decide)) ?_
  refine ax_bast hx hb hK hP hD hS 0 0 rfl rfl (by omega) (by omega) (g := ud_B (ud_up (ud_up b k (ud_by x 3)) (k + 1) (ud_by x 2))) (ud_stB _ _ _) dX0_word_17 (fun H locs hP hD hS => ?_)
  have hP : va_P (dC, dI) vwCl [(ta, .inl (kB, 128, .inl (ud_B (ud_up (ud_up b k (ud_by x 3)) (k + 1) (ud_by x 2)))))] H := hP
  have hD : va_D A [(ta, .inl (kB, 128, .inl (ud_B (ud_up (ud_up b k (ud_by x 3)) (k + 1) (ud_by x 2)))))] := hD
  refine lv_aload_n hx hb dX0_word_18 rfl (lv_at hl 0 rfl) ?_
  refine lv_iload_n hx hb dX0_word_19 rfl (lv_at hl 1 rfl) ?_
  refine lv_iconst (v := nI 2) hx hb dX0_word_20 (by decide) ?_
  refine lv_iadd hx hb dX0_word_21 ?_
  refine ax_top (y := nI (k + 2)) (nI_add _ _) ?_
  refine lv_iload_n hx hb dX0_word_22 rfl (lv_at hl 2 rfl) ?_
  refine lv_bipush (v := nI 8) hx hb dX0_word_23 (by decide) ?_
  refine lv_ishr hx hb dX0_word_25 ?_
  refine lv_i2b (v := ud_sb (ud_by x 1)) hx hb dX0_word_26 (ud_shb _ _ 1 (by decide) (by decide)) ?_
  refine ax_bast hx hb hK hP hD hS 0 0 rfl rfl (by omega) (by omega) (g := ud_B (ud_up (ud_up (ud_up b k (ud_by x 3)) (k + 1) (ud_by x 2)) (k + 2) (ud_by x 1))) (ud_stB _ _ _) dX0_word_27 (fun H locs hP hD hS => ?_)
  have hP : va_P (dC, dI) vwCl [(ta, .inl (kB, 128, .inl (ud_B (ud_up (ud_up (ud_up b k (ud_by x 3)) (k + 1) (ud_by x 2)) (k + 2) (ud_by x 1)))))] H := hP
  have hD : va_D A [(ta, .inl (kB, 128, .inl (ud_B (ud_up (ud_up (ud_up b k (ud_by x 3)) (k + 1) (ud_by x 2)) (k + 2) (ud_by x 1)))))] := hD
  refine lv_aload_n hx hb dX0_word_28 rfl (lv_at hl 0 rfl) ?_
  refine lv_iload_n hx hb dX0_word_29 rfl (lv_at hl 1 rfl) ?_
  refine lv_iconst (v := nI 3) hx hb dX0_word_30 (by decide) ?_
  refine lv_iadd hx hb dX0_word_31 ?_
  refine ax_top (y := nI (k + 3)) (nI_add _ _) ?_
  refine lv_iload_n hx hb dX0_word_32 rfl (lv_at hl 2 rfl) ?_
  refine lv_i2b (v := ud_sb (ud_by x 0)) hx hb dX0_word_33 (ud_w0 _) ?_
  refine ax_bast hx hb hK hP hD hS 0 0 rfl rfl (by omega) (by omega) (g := ud_B (ud_up (ud_up (ud_up (ud_up b k (ud_by x 3)) (k + 1) (ud_by x 2)) (k + 2) (ud_by x 1)) (k + 3) (ud_by x 0))) (ud_stB _ _ _) dX0_word_34 (fun H locs hP hD hS => ?_)
  have hP : va_P (dC, dI) vwCl [(ta, .inl (kB, 128, .inl (ud_B (ud_up (ud_up (ud_up (ud_up b k (ud_by x 3)) (k + 1) (ud_by x 2)) (k + 2) (ud_by x 1)) (k + 3) (ud_by x 0)))))] H := hP
  have hD : va_D A [(ta, .inl (kB, 128, .inl (ud_B (ud_up (ud_up (ud_up (ud_up b k (ud_by x 3)) (k + 1) (ud_by x 2)) (k + 2) (ud_by x 1)) (k + 3) (ud_by x 0)))))] := hD
  have hP9 : va_P (dC, dI) vwCl [(ta, .inl (kB, 128, .inl (ud_B (ud_wd b k x))))] H := by exact hP.sub (ws' := [(ta, .inl (kB, 128, .inl (ud_B (ud_up (ud_up (ud_up (ud_up b k (ud_by x 3)) (k + 1) (ud_by x 2)) (k + 2) (ud_by x 1)) (k + 3) (ud_by x 0)))))]) [0] rfl
  have hD9 : va_D A [(ta, .inl (kB, 128, .inl (ud_B (ud_wd b k x))))] := by exact hD.sub (ws' := [(ta, .inl (kB, 128, .inl (ud_B (ud_up (ud_up (ud_up (ud_up b k (ud_by x 3)) (k + 1) (ud_by x 2)) (k + 2) (ud_by x 1)) (k + 3) (ud_by x 0)))))]) [0] (by decide) rfl
  exact W.vret hx hb hr (fun t ht hW => ⟨⟨(), rfl, trivial, ⟨by rw [ht]; exact hP9, hD9⟩⟩, hS.F ht⟩) hS.2.2 dX0_word_35
abbrev wsX0_from : List Cond := ws_ yX0_from cX0_from 2 (some .int)
set_option maxHeartbeats 4000000 in
set_option maxRecDepth 100000 in
/-- from(f) -/
theorem me_X0_from (l : Launch) (dC : Nat → ClassId) (dI : Nat → Nat → Nat) (kB kC kI : ClassId) (sz0 : Nat) (oa ta ua sz : Nat) (mk : Int32) (f : Int32) (hsz : sz ≤ 128) : Met l yX0_from wsX0_from ({ frames := 0, cells := 0, slots := 0, locals := 0 } : Room) (va_Pc [.ref oa, .int f] (ud_P dC dI kB kC kI [(oa, .inr (0, [.ref ta, .int (nI sz), .ref ua, .int mk]))] sz0)) (va_Qi (fun (r : Int32) (_ : Unit) => r = nI (ud_m f % (sz + 1))) (fun (_ : Unit) (_ : State) => True) (va_A [] sz0)) 0 0 (va_A [] sz0) := by
  refine Met.ofW (cc := cX0_from) (maxL := 2) (ret := some .int) (by decide) rfl ?_
  intro p e s m args below meth c s₁ B hml hv
  obtain ⟨rfl, hsz, hP, hK, hD0⟩ := hv
  have hx := B.exec
  have hb := B.bytes
  have hr := B.returns
  have hts := atoms_spec (ws := wsX0_from) B.pre
  have hts : ∀ w ∈ lw_all, w.before _ s = true := fun w h => hts w (List.mem_cons_of_mem _ h)
  have hown : s.vm.findClass RX0 = some m.cls := findClass_of_methodNamed B.named
  have hlocks := B.notSynchronized
  subst hsz
  have hD := hD0
  generalize hAe : va_A [] s.heap.size = A
  have hA : ∀ q : Nat, s.heap.size ≤ q → A q := fun q h => by rw [← hAe]; exact Or.inr h
  have hS : va_S A s.heap s.heap [] := va_S.rf
  have hP : va_P (dC, dI) vwCl [(oa, .inr (0, [.ref ta, .int (nI sz), .ref ua, .int mk]))] s.heap := hP
  have hl := lv_entry ([.ref oa, .int f]) (n := 2) (Nat.le_of_ble_eq_true rfl)
  rw [lg_entry_eq]
  generalize (lg_sl ([.ref oa, .int f]) ++ List.replicate (2 - (lg_sl ([.ref oa, .int f])).length) Slot.unset).toArray = ls at hl ⊢
  have hl : lv_has ls 2 [(0, .ref oa), (1, .int f)] := hl
  refine lv_iload_n hx hb dX0_from_0 rfl (lv_at hl 1 rfl) ?_
  refine lv_ldc (v := (2147483647 : Int32)) hx hb hown (hts _ q47) dX0_from_1 ?_
  refine lv_iand hx hb dX0_from_3 ?_
  refine ax_top (y := nI (ud_m f)) (ud_and _) ?_
  have hm_3 := ud_m_lt f
  refine lv_aload_n hx hb dX0_from_4 rfl (lv_at hl 0 rfl) ?_
  refine va_get (D := (dC, dI)) (ci := 0) (v := .int (nI sz)) (C := RX0) (T := TX0) (N := 4) hx hb hts in_X0 hown hK hP 0 rfl rfl 1 (by decide) (hts _ q18) (fun _ h9 => h9) rfl dX0_from_5 ?_
  refine lv_iconst (v := nI 1) hx hb dX0_from_8 (by decide) ?_
  refine lv_iadd hx hb dX0_from_9 ?_
  refine ax_top (y := nI (sz + 1)) (nI_add _ _) ?_
  refine ax_irem hx hb (by omega) (by omega) (by omega) dX0_from_10 ?_
  exact W.iret (v := nI ((ud_m f) % (sz + 1))) hx hb hr (fun t ht hW => ⟨⟨nI ((ud_m f) % (sz + 1)), (), rfl, rfl, trivial⟩, hS.F ht⟩) hS.2.2 dX0_from_11
abbrev wsX0_count : List Cond := ws_ yX0_count cX0_count 3 (some .int)
set_option maxHeartbeats 4000000 in
set_option maxRecDepth 100000 in
/-- count(f, n) -/
theorem me_X0_count (l : Launch) (dC : Nat → ClassId) (dI : Nat → Nat → Nat) (kB kC kI : ClassId) (sz0 : Nat) (oa ta ua sz : Nat) (mk : Int32) (f : Nat) (x : Int32) (hsz : sz ≤ 128) (hf : f ≤ sz) : Met l yX0_count wsX0_count ({ frames := 0, cells := 0, slots := 0, locals := 0 } : Room) (va_Pc [.ref oa, .int (nI f), .int x] (ud_P dC dI kB kC kI [(oa, .inr (0, [.ref ta, .int (nI sz), .ref ua, .int mk]))] sz0)) (va_Qi (fun (r : Int32) (_ : Unit) => r = nI (ud_m x % (sz - f + 1))) (fun (_ : Unit) (_ : State) => True) (va_A [] sz0)) 0 0 (va_A [] sz0) := by
  refine Met.ofW (cc := cX0_count) (maxL := 3) (ret := some .int) (by decide) rfl ?_
  intro p e s m args below meth c s₁ B hml hv
  obtain ⟨rfl, hsz, hP, hK, hD0⟩ := hv
  have hx := B.exec
  have hb := B.bytes
  have hr := B.returns
  have hts := atoms_spec (ws := wsX0_count) B.pre
  have hts : ∀ w ∈ lw_all, w.before _ s = true := fun w h => hts w (List.mem_cons_of_mem _ h)
  have hown : s.vm.findClass RX0 = some m.cls := findClass_of_methodNamed B.named
  have hlocks := B.notSynchronized
  subst hsz
  have hD := hD0
  generalize hAe : va_A [] s.heap.size = A
  have hA : ∀ q : Nat, s.heap.size ≤ q → A q := fun q h => by rw [← hAe]; exact Or.inr h
  have hS : va_S A s.heap s.heap [] := va_S.rf
  have hP : va_P (dC, dI) vwCl [(oa, .inr (0, [.ref ta, .int (nI sz), .ref ua, .int mk]))] s.heap := hP
  have hl := lv_entry ([.ref oa, .int (nI f), .int x]) (n := 3) (Nat.le_of_ble_eq_true rfl)
  rw [lg_entry_eq]
  generalize (lg_sl ([.ref oa, .int (nI f), .int x]) ++ List.replicate (3 - (lg_sl ([.ref oa, .int (nI f), .int x])).length) Slot.unset).toArray = ls at hl ⊢
  have hl : lv_has ls 3 [(0, .ref oa), (1, .int (nI f)), (2, .int x)] := hl
  refine lv_iload_n hx hb dX0_count_0 rfl (lv_at hl 2 rfl) ?_
  refine lv_ldc (v := (2147483647 : Int32)) hx hb hown (hts _ q47) dX0_count_1 ?_
  refine lv_iand hx hb dX0_count_3 ?_
  refine ax_top (y := nI (ud_m x)) (ud_and _) ?_
  have hm_3 := ud_m_lt x
  refine lv_aload_n hx hb dX0_count_4 rfl (lv_at hl 0 rfl) ?_
  refine va_get (D := (dC, dI)) (ci := 0) (v := .int (nI sz)) (C := RX0) (T := TX0) (N := 4) hx hb hts in_X0 hown hK hP 0 rfl rfl 1 (by decide) (hts _ q18) (fun _ h9 => h9) rfl dX0_count_5 ?_
  refine lv_iload_n hx hb dX0_count_8 rfl (lv_at hl 1 rfl) ?_
  refine lv_isub hx hb dX0_count_9 ?_
  refine ax_top (y := nI (sz - f)) (pk_sub (by omega)) ?_
  refine lv_iconst (v := nI 1) hx hb dX0_count_10 (by decide) ?_
  refine lv_iadd hx hb dX0_count_11 ?_
  refine ax_top (y := nI ((sz - f) + 1)) (nI_add _ _) ?_
  refine ax_irem hx hb (by omega) (by omega) (by omega) dX0_count_12 ?_
  exact W.iret (v := nI ((ud_m x) % ((sz - f) + 1))) hx hb hr (fun t ht hW => ⟨⟨nI ((ud_m x) % ((sz - f) + 1)), (), rfl, rfl, trivial⟩, hS.F ht⟩) hS.2.2 dX0_count_13
abbrev wsX0_trim : List Cond := ws_ yX0_trim cX0_trim 2 none
set_option maxHeartbeats 4000000 in
set_option maxRecDepth 100000 in
/-- trim(n) -/
theorem me_X0_trim (l : Launch) (dC : Nat → ClassId) (dI : Nat → Nat → Nat) (kB kC kI : ClassId) (sz0 : Nat) (oa ta ua sz : Nat) (mk : Int32) (f : Int32) (hsz : sz ≤ 128) : Met l yX0_trim wsX0_trim ({ frames := 1, cells := 0, slots := 0, locals := 21 } : Room) (va_Pc [.ref oa, .int f] (ud_P dC dI kB kC kI [(oa, .inr (0, [.ref ta, .int (nI sz), .ref ua, .int mk]))] sz0)) (va_Qv (fun (_ : Unit) => True) (fun (_ : Unit) (t : State) => va_P (dC, dI) vwCl [(oa, .inr (0, [.ref ta, .int (nI (ud_m f % (sz + 1))), .ref ua, .int mk]))] t.heap ∧ va_D (va_A [(oa, .inr (0, [.ref ta, .int (nI sz), .ref ua, .int mk]))] sz0) [(oa, .inr (0, [.ref ta, .int (nI (ud_m f % (sz + 1))), .ref ua, .int mk]))]) (va_A [(oa, .inr (0, [.ref ta, .int (nI sz), .ref ua, .int mk]))] sz0)) 0 0 (va_A [(oa, .inr (0, [.ref ta, .int (nI sz), .ref ua, .int mk]))] sz0) := by
  refine Met.ofW (cc := cX0_trim) (maxL := 2) (ret := none) (by decide) rfl ?_
  intro p e s m args below meth c s₁ B hml hv
  obtain ⟨rfl, hsz, hP, hK, hD0⟩ := hv
  have hx := B.exec
  have hb := B.bytes
  have hr := B.returns
  have hts := atoms_spec (ws := wsX0_trim) B.pre
  have hts : ∀ w ∈ lw_all, w.before _ s = true := fun w h => hts w (List.mem_cons_of_mem _ h)
  have hown : s.vm.findClass RX0 = some m.cls := findClass_of_methodNamed B.named
  have hlocks := B.notSynchronized
  subst hsz
  have hD := hD0.self (sz := s.heap.size)
  generalize hAe : va_A [(oa, .inr (0, [.ref ta, .int (nI sz), .ref ua, .int mk]))] s.heap.size = A at hD ⊢
  have hA : ∀ q : Nat, s.heap.size ≤ q → A q := fun q h => by rw [← hAe]; exact Or.inr h
  have hS : va_S A s.heap s.heap [] := va_S.rf
  have hP : va_P (dC, dI) vwCl [(oa, .inr (0, [.ref ta, .int (nI sz), .ref ua, .int mk]))] s.heap := hP
  have hl := lv_entry ([.ref oa, .int f]) (n := 2) (Nat.le_of_ble_eq_true rfl)
  rw [lg_entry_eq]
  generalize (lg_sl ([.ref oa, .int f]) ++ List.replicate (2 - (lg_sl ([.ref oa, .int f])).length) Slot.unset).toArray = ls at hl ⊢
  have hl : lv_has ls 2 [(0, .ref oa), (1, .int f)] := hl
  refine lv_aload_n hx hb dX0_trim_0 rfl (lv_at hl 0 rfl) ?_
  refine lv_aload_n hx hb dX0_trim_1 rfl (lv_at hl 0 rfl) ?_
  refine lv_iload_n hx hb dX0_trim_2 rfl (lv_at hl 1 rfl) ?_
  have hPc := hP.sub (ws' := [(oa, .inr (0, [.ref ta, .int (nI sz), .ref ua, .int mk]))]) [0] rfl
  have hDc := hD.sub (ws' := [(oa, .inr (0, [.ref ta, .int (nI sz), .ref ua, .int mk]))]) [0] (by decide) rfl
  have hFc := ud_fr hS hA
  refine va_calli (va_runV (As := [.int f]) (rest := [.ref oa]) ⟨hx, hb, hml, hown, hts⟩ (me_X0_from l dC dI kB kC kI s.heap.size oa ta ua sz mk f hsz) (cwV 1 hts (lw_V q43 q45 qs0 q6 q46) rfl rfl rfl (by decide +kernel) ⟨Nat.le_of_ble_eq_true rfl, Nat.le_of_ble_eq_true rfl⟩) ⟨ud_bl, va_recv hK hPc (ci := 0) (q0 := 0) rfl rfl, ud_pr hPc hDc hK⟩ rfl rfl hl.1 rfl (lv_room (Nat.le_of_ble_eq_true rfl)) dX0_trim_3 ⟨Nat.le_of_ble_eq_true rfl, Nat.le_of_ble_eq_true rfl⟩) hS (fun q _ h => hFc q h) hFc (fun r_3 u t9 H1 locs ht hvm hw hB hz1 hk1 hS => ?_)
  have hP := ud_ro hP hk1
  clear hPc hDc
  generalize H1 = H at hP hS ⊢
  obtain rfl : r_3 = nI (ud_m f % (sz + 1)) := hw
  refine va_put (D := (dC, dI)) (ci := 0) (v := .int (nI (ud_m f % (sz + 1)))) (ty := .int) (C := RX0) (T := TX0) (N := 4) hx hb hts in_X0 tyX0 tyX0_ok nmX0 hown hK hP hD hS 0 rfl rfl 1 (by decide) (hts _ q18) (fun _ h9 => h9) rfl (by decide +kernel) rfl rfl (Nat.le_of_ble_eq_true rfl) dX0_trim_6 (fun H locs hP hD hS => ?_)
  have hP : va_P (dC, dI) vwCl [(oa, .inr (0, [.ref ta, .int (nI (ud_m f % (sz + 1))), .ref ua, .int mk]))] H := hP
  have hD : va_D A [(oa, .inr (0, [.ref ta, .int (nI (ud_m f % (sz + 1))), .ref ua, .int mk]))] := hD
  have hP9 : va_P (dC, dI) vwCl [(oa, .inr (0, [.ref ta, .int (nI (ud_m f % (sz + 1))), .ref ua, .int mk]))] H := by exact hP.sub (ws' := [(oa, .inr (0, [.ref ta, .int (nI (ud_m f % (sz + 1))), .ref ua, .int mk]))]) [0] rfl
  have hD9 : va_D A [(oa, .inr (0, [.ref ta, .int (nI (ud_m f % (sz + 1))), .ref ua, .int mk]))] := by exact hD.sub (ws' := [(oa, .inr (0, [.ref ta, .int (nI (ud_m f % (sz + 1))), .ref ua, .int mk]))]) [0] (by decide) rfl
  exact W.vret hx hb hr (fun t ht hW => ⟨⟨(), rfl, trivial, ⟨by rw [ht]; exact hP9, hD9⟩⟩, hS.F ht⟩) hS.2.2 dX0_trim_9
abbrev wsX0_put : List Cond := ws_ yX0_put cX0_put 5 (some .boolean)
set_option maxHeartbeats 4000000 in
set_option maxRecDepth 100000 in
/-- put(a, b, c, d) -/
theorem me_X0_put (l : Launch) (dC : Nat → ClassId) (dI : Nat → Nat → Nat) (kB kC kI : ClassId) (sz0 : Nat) (oa ta ua : Nat) (b : Nat → Nat) (sz : Nat) (mk : Int32) (a1 a2 a3 a4 : Int32) (hsz : sz ≤ 128) : Met l yX0_put wsX0_put ({ frames := 1, cells := 0, slots := 0, locals := 22 } : Room) (va_Pc [.ref oa, .int a1, .int a2, .int a3, .int a4] (ud_P dC dI kB kC kI [(oa, .inr (0, [.ref ta, .int (nI sz), .ref ua, .int mk])), (ta, .inl (kB, 128, .inl (ud_B b)))] sz0)) (va_Qi (fun (r : Int32) (_ : Unit) => r = ud_pv sz) (fun (_ : Unit) (t : State) => va_P (dC, dI) vwCl [(oa, .inr (0, [.ref ta, .int (nI (ud_ps sz)), .ref ua, .int mk])), (ta, .inl (kB, 128, .inl (ud_B (ud_pb b sz a1 a2 a3 a4))))] t.heap ∧ va_D (va_A [(oa, .inr (0, [.ref ta, .int (nI sz), .ref ua, .int mk])), (ta, .inl (kB, 128, .inl (ud_B b)))] sz0) [(oa, .inr (0, [.ref ta, .int (nI (ud_ps sz)), .ref ua, .int mk])), (ta, .inl (kB, 128, .inl (ud_B (ud_pb b sz a1 a2 a3 a4))))]) (va_A [(oa, .inr (0, [.ref ta, .int (nI sz), .ref ua, .int mk])), (ta, .inl (kB, 128, .inl (ud_B b)))] sz0)) 0 0 (va_A [(oa, .inr (0, [.ref ta, .int (nI sz), .ref ua, .int mk])), (ta, .inl (kB, 128, .inl (ud_B b)))] sz0) := by
  refine Met.ofW (cc := cX0_put) (maxL := 5) (ret := some .boolean) (by decide) rfl ?_
  intro p e s m args below meth c s₁ B hml hv
  obtain ⟨rfl, hsz, hP, hK, hD0⟩ := hv
  have hx := B.exec
  have hb := B.bytes
  have hr := B.returns
  have hts := atoms_spec (ws := wsX0_put) B.pre
  have hts : ∀ w ∈ lw_all, w.before _ s = true := fun w h => hts w (List.mem_cons_of_mem _ h)
  have hown : s.vm.findClass RX0 = some m.cls := findClass_of_methodNamed B.named
  have hlocks := B.notSynchronized
  subst hsz
  have hD := hD0.self (sz := s.heap.size)
  generalize hAe : va_A [(oa, .inr (0, [.ref ta, .int (nI sz), .ref ua, .int mk])), (ta, .inl (kB, 128, .inl (ud_B b)))] s.heap.size = A at hD ⊢
  have hA : ∀ q : Nat, s.heap.size ≤ q → A q := fun q h => by rw [← hAe]; exact Or.inr h
  have hS : va_S A s.heap s.heap [] := va_S.rf
  have hP : va_P (dC, dI) vwCl [(oa, .inr (0, [.ref ta, .int (nI sz), .ref ua, .int mk])), (ta, .inl (kB, 128, .inl (ud_B b)))] s.heap := hP
  have hl := lv_entry ([.ref oa, .int a1, .int a2, .int a3, .int a4]) (n := 5) (Nat.le_of_ble_eq_true rfl)
  rw [lg_entry_eq]
  generalize (lg_sl ([.ref oa, .int a1, .int a2, .int a3, .int a4]) ++ List.replicate (5 - (lg_sl ([.ref oa, .int a1, .int a2, .int a3, .int a4])).length) Slot.unset).toArray = ls at hl ⊢
  have hl : lv_has ls 5 [(0, .ref oa), (1, .int a1), (2, .int a2), (3, .int a3), (4, .int a4)] := hl
  refine lv_aload_n hx hb dX0_put_0 rfl (lv_at hl 0 rfl) ?_
  refine va_get (D := (dC, dI)) (ci := 0) (v := .int (nI sz)) (C := RX0) (T := TX0) (N := 4) hx hb hts in_X0 hown hK hP 0 rfl rfl 1 (by decide) (hts _ q18) (fun _ h9 => h9) rfl dX0_put_1 ?_
  refine lv_aload_n hx hb dX0_put_4 rfl (lv_at hl 0 rfl) ?_
  refine va_get (D := (dC, dI)) (ci := 0) (v := .ref ta) (C := RX0) (T := TX0) (N := 4) hx hb hts in_X0 hown hK hP 0 rfl rfl 0 (by decide) (hts _ q17) (fun _ h9 => h9) rfl dX0_put_5 ?_
  refine ax_alen hx hb hK hP 1 0 rfl rfl dX0_put_8 ?_
  refine lv_bipush (v := nI 16) hx hb dX0_put_9 (by decide) ?_
  refine lv_isub hx hb dX0_put_11 ?_
  refine ax_top (y := nI 112) ((pk_sub (by omega)).trans (congrArg nI (by omega))) ?_
  refine ax_icmp_le (tgt := 17) hx hb (by omega) (by omega) dX0_put_12 (by decide) (fun c_12 => ?_) (fun c_12 => ?_)
  · have e1 : ud_ps sz = sz + 16 := if_neg (by omega)
    have e2 : ud_pb b sz a1 a2 a3 a4 = ud_wd (ud_wd (ud_wd (ud_wd b sz a1) (sz + 4) a2) (sz + 8) a3) (sz + 12) a4 := if_neg (by omega)
    have e3 : nI 1 = ud_pv sz := (if_neg (by omega)).symm
    refine lv_aload_n hx hb dX0_put_17 rfl (lv_at hl 0 rfl) ?_
    refine va_get (D := (dC, dI)) (ci := 0) (v := .ref ta) (C := RX0) (T := TX0) (N := 4) hx hb hts in_X0 hown hK hP 0 rfl rfl 0 (by decide) (hts _ q17) (fun _ h9 => h9) rfl dX0_put_18 ?_
    refine lv_aload_n hx hb dX0_put_21 rfl (lv_at hl 0 rfl) ?_
    refine va_get (D := (dC, dI)) (ci := 0) (v := .int (nI sz)) (C := RX0) (T := TX0) (N := 4) hx hb hts in_X0 hown hK hP 0 rfl rfl 1 (by decide) (hts _ q18) (fun _ h9 => h9) rfl dX0_put_22 ?_
    refine lv_iload_n hx hb dX0_put_25 rfl (lv_at hl 1 rfl) ?_
    have hPc := hP.sub (ws' := [(ta, .inl (kB, 128, .inl (ud_B b)))]) [1] rfl
    have hDc := hD.sub (ws' := [(ta, .inl (kB, 128, .inl (ud_B b)))]) [1] (by decide) rfl
    have hFc := va_free (wc := [(ta, .inl (kB, 128, .inl (ud_B b)))]) hD hS hA [1] rfl
    refine va_callv (va_runS (As := [.ref ta, .int (nI sz), .int a1]) (rest := []) ⟨hx, hb, hml, hown, hts⟩ (me_X0_word l dC dI kB kC kI s.heap.size ta b sz a1 (by omega)) (va_cwS 3 hts (lw_S q36 q37 q6 q38) rfl rfl rfl (by decide +kernel) ⟨Nat.le_of_ble_eq_true rfl, Nat.le_of_ble_eq_true rfl⟩) ⟨ud_bl, ud_pr hPc hDc hK⟩ rfl rfl hl.1 rfl (lv_room (Nat.le_of_ble_eq_true rfl)) dX0_put_26 ⟨Nat.le_of_ble_eq_true rfl, Nat.le_of_ble_eq_true rfl⟩) hS (fun q _ h => hFc q h) hFc (fun u t9 H1 locs ht hvm hw hB hz1 hk1 hS => ?_)
    obtain ⟨hP1, hD1⟩ := hB
    rw [ht] at hP1
    obtain ⟨hP, hD⟩ := va_join (wc := [(ta, .inl (kB, 128, .inl (ud_B b)))]) (wr := [(oa, .inr (0, [.ref ta, .int (nI sz), .ref ua, .int mk]))]) (w1 := [(ta, .inl (kB, 128, .inl (ud_B (ud_wd b sz a1))))]) hP hD [1] [0] rfl rfl (by decide) (by decide) hk1 hFc hP1 hD1
    clear hPc hDc
    generalize H1 = H at hP hS ⊢
    have hP : va_P (dC, dI) vwCl [(oa, .inr (0, [.ref ta, .int (nI sz), .ref ua, .int mk])), (ta, .inl (kB, 128, .inl (ud_B (ud_wd b sz a1))))] H := hP
    have hD : va_D A [(oa, .inr (0, [.ref ta, .int (nI sz), .ref ua, .int mk])), (ta, .inl (kB, 128, .inl (ud_B (ud_wd b sz a1))))] := hD
    refine lv_aload_n hx hb dX0_put_29 rfl (lv_at hl 0 rfl) ?_
    refine va_get (D := (dC, dI)) (ci := 0) (v := .ref ta) (C := RX0) (T := TX0) (N := 4) hx hb hts in_X0 hown hK hP 0 rfl rfl 0 (by decide) (hts _ q17) (fun _ h9 => h9) rfl dX0_put_30 ?_
    refine lv_aload_n hx hb dX0_put_33 rfl (lv_at hl 0 rfl) ?_
    refine va_get (D := (dC, dI)) (ci := 0) (v := .int (nI sz)) (C := RX0) (T := TX0) (N := 4) hx hb hts in_X0 hown hK hP 0 rfl rfl 1 (by decide) (hts _ q18) (fun _ h9 => h9) rfl dX0_put_34 ?_
    refine lv_iconst (v := nI 4) hx hb dX0_put_37 (by decide) ?_
    refine lv_iadd hx hb dX0_put_38 ?_
    refine ax_top (y := nI (sz + 4)) (nI_add _ _) ?_
    refine lv_iload_n hx hb dX0_put_39 rfl (lv_at hl 2 rfl) ?_
    have hPc := hP.sub (ws' := [(ta, .inl (kB, 128, .inl (ud_B (ud_wd b sz a1))))]) [1] rfl
    have hDc := hD.sub (ws' := [(ta, .inl (kB, 128, .inl (ud_B (ud_wd b sz a1))))]) [1] (by decide) rfl
    have hFc := va_free (wc := [(ta, .inl (kB, 128, .inl (ud_B (ud_wd b sz a1))))]) hD hS hA [1] rfl
    refine va_callv (va_runS (As := [.ref ta, .int (nI (sz + 4)), .int a2]) (rest := []) ⟨hx, hb, hml, hown, hts⟩ (me_X0_word l dC dI kB kC kI H.size ta (ud_wd b sz a1) (sz + 4) a2 (by omega)) (va_cwS 3 hts (lw_S q36 q37 q6 q38) rfl rfl rfl (by decide +kernel) ⟨Nat.le_of_ble_eq_true rfl, Nat.le_of_ble_eq_true rfl⟩) ⟨ud_bl, ud_pr hPc hDc hK⟩ rfl rfl hl.1 rfl (lv_room (Nat.le_of_ble_eq_true rfl)) dX0_put_40 ⟨Nat.le_of_ble_eq_true rfl, Nat.le_of_ble_eq_true rfl⟩) hS (fun q _ h => hFc q h) hFc (fun u t9 H1 locs ht hvm hw hB hz1 hk1 hS => ?_)
    obtain ⟨hP1, hD1⟩ := hB
    rw [ht] at hP1
    obtain ⟨hP, hD⟩ := va_join (wc := [(ta, .inl (kB, 128, .inl (ud_B (ud_wd b sz a1))))]) (wr := [(oa, .inr (0, [.ref ta, .int (nI sz), .ref ua, .int mk]))]) (w1 := [(ta, .inl (kB, 128, .inl (ud_B (ud_wd (ud_wd b sz a1) (sz + 4) a2))))]) hP hD [1] [0] rfl rfl (by decide) (by decide) hk1 hFc hP1 hD1
    clear hPc hDc
    generalize H1 = H at hP hS ⊢
    have hP : va_P (dC, dI) vwCl [(oa, .inr (0, [.ref ta, .int (nI sz), .ref ua, .int mk])), (ta, .inl (kB, 128, .inl (ud_B (ud_wd (ud_wd b sz a1) (sz + 4) a2))))] H := hP
    have hD : va_D A [(oa, .inr (0, [.ref ta, .int (nI sz), .ref ua, .int mk])), (ta, .inl (kB, 128, .inl (ud_B (ud_wd (ud_wd b sz a1) (sz + 4) a2))))] := hD
    refine lv_aload_n hx hb dX0_put_43 rfl (lv_at hl 0 rfl) ?_
    refine va_get (D := (dC, dI)) (ci := 0) (v := .ref ta) (C := RX0) (T := TX0) (N := 4) hx hb hts in_X0 hown hK hP 0 rfl rfl 0 (by decide) (hts _ q17) (fun _ h9 => h9) rfl dX0_put_44 ?_
    refine lv_aload_n hx hb dX0_put_47 rfl (lv_at hl 0 rfl) ?_
    refine va_get (D := (dC, dI)) (ci := 0) (v := .int (nI sz)) (C := RX0) (T := TX0) (N := 4) hx hb hts in_X0 hown hK hP 0 rfl rfl 1 (by decide) (hts _ q18) (fun _ h9 => h9) rfl dX0_put_48 ?_
    refine lv_bipush (v := nI 8) hx hb dX0_put_51 (by decide) ?_
    refine lv_iadd hx hb dX0_put_53 ?_
    refine ax_top (y := nI (sz + 8)) (nI_add _ _) ?_
    refine lv_iload_n hx hb dX0_put_54 rfl (lv_at hl 3 rfl) ?_
    have hPc := hP.sub (ws' := [(ta, .inl (kB, 128, .inl (ud_B (ud_wd (ud_wd b sz a1) (sz + 4) a2))))]) [1] rfl
    have hDc := hD.sub (ws' := [(ta, .inl (kB, 128, .inl (ud_B (ud_wd (ud_wd b sz a1) (sz + 4) a2))))]) [1] (by decide) rfl
    have hFc := va_free (wc := [(ta, .inl (kB, 128, .inl (ud_B (ud_wd (ud_wd b sz a1) (sz + 4) a2))))]) hD hS hA [1] rfl
    refine va_callv (va_runS (As := [.ref ta, .int (nI (sz + 8)), .int a3]) (rest := []) ⟨hx, hb, hml, hown, hts⟩ (me_X0_word l dC dI kB kC kI H.size ta (ud_wd (ud_wd b sz a1) (sz + 4) a2) (sz + 8) a3 (by omega)) (va_cwS 3 hts (lw_S q36 q37 q6 q38) rfl rfl rfl (by decide +kernel) ⟨Nat.le_of_ble_eq_true rfl, Nat.le_of_ble_eq_true rfl⟩) ⟨ud_bl, ud_pr hPc hDc hK⟩ rfl rfl hl.1 rfl (lv_room (Nat.le_of_ble_eq_true rfl)) dX0_put_55 ⟨Nat.le_of_ble_eq_true rfl, Nat.le_of_ble_eq_true rfl⟩) hS (fun q _ h => hFc q h) hFc (fun u t9 H1 locs ht hvm hw hB hz1 hk1 hS => ?_)
    obtain ⟨hP1, hD1⟩ := hB
    rw [ht] at hP1
    obtain ⟨hP, hD⟩ := va_join (wc := [(ta, .inl (kB, 128, .inl (ud_B (ud_wd (ud_wd b sz a1) (sz + 4) a2))))]) (wr := [(oa, .inr (0, [.ref ta, .int (nI sz), .ref ua, .int mk]))]) (w1 := [(ta, .inl (kB, 128, .inl (ud_B (ud_wd (ud_wd (ud_wd b sz a1) (sz + 4) a2) (sz + 8) a3))))]) hP hD [1] [0] rfl rfl (by decide) (by decide) hk1 hFc hP1 hD1
    clear hPc hDc
    generalize H1 = H at hP hS ⊢
    have hP : va_P (dC, dI) vwCl [(oa, .inr (0, [.ref ta, .int (nI sz), .ref ua, .int mk])), (ta, .inl (kB, 128, .inl (ud_B (ud_wd (ud_wd (ud_wd b sz a1) (sz + 4) a2) (sz + 8) a3))))] H := hP
    have hD : va_D A [(oa, .inr (0, [.ref ta, .int (nI sz), .ref ua, .int mk])), (ta, .inl (kB, 128, .inl (ud_B (ud_wd (ud_wd (ud_wd b sz a1) (sz + 4) a2) (sz + 8) a3))))] := hD
    refine lv_aload_n hx hb dX0_put_58 rfl (lv_at hl 0 rfl) ?_
    refine va_get (D := (dC, dI)) (ci := 0) (v := .ref ta) (C := RX0) (T := TX0) (N := 4) hx hb hts in_X0 hown hK hP 0 rfl rfl 0 (by decide) (hts _ q17) (fun _ h9 => h9) rfl dX0_put_59 ?_
    refine lv_aload_n hx hb dX0_put_62 rfl (lv_at hl 0 rfl) ?_
    refine va_get (D := (dC, dI)) (ci := 0) (v := .int (nI sz)) (C := RX0) (T := TX0) (N := 4) hx hb hts in_X0 hown hK hP 0 rfl rfl 1 (by decide) (hts _ q18) (fun _ h9 => h9) rfl dX0_put_63 ?_
    refine lv_bipush (v := nI 12) hx hb dX0_put_66 (by decide) ?_
    refine lv_iadd hx hb dX0_put_68 ?_
    refine ax_top (y := nI (sz + 12)) (nI_add _ _) ?_
    refine lv_iload hx hb dX0_put_69 (lv_at hl 4 rfl) ?_
    have hPc := hP.sub (ws' := [(ta, .inl (kB, 128, .inl (ud_B (ud_wd (ud_wd (ud_wd b sz a1) (sz + 4) a2) (sz + 8) a3))))]) [1] rfl
    have hDc := hD.sub (ws' := [(ta, .inl (kB, 128, .inl (ud_B (ud_wd (ud_wd (ud_wd b sz a1) (sz + 4) a2) (sz + 8) a3))))]) [1] (by decide) rfl
    have hFc := va_free (wc := [(ta, .inl (kB, 128, .inl (ud_B (ud_wd (ud_wd (ud_wd b sz a1) (sz + 4) a2) (sz + 8) a3))))]) hD hS hA [1] rfl
    refine va_callv (va_runS (As := [.ref ta, .int (nI (sz + 12)), .int a4]) (rest := []) ⟨hx, hb, hml, hown, hts⟩ (me_X0_word l dC dI kB kC kI H.size ta (ud_wd (ud_wd (ud_wd b sz a1) (sz + 4) a2) (sz + 8) a3) (sz + 12) a4 (by omega)) (va_cwS 3 hts (lw_S q36 q37 q6 q38) rfl rfl rfl (by decide +kernel) ⟨Nat.le_of_ble_eq_true rfl, Nat.le_of_ble_eq_true rfl⟩) ⟨ud_bl, ud_pr hPc hDc hK⟩ rfl rfl hl.1 rfl (lv_room (Nat.le_of_ble_eq_true rfl)) dX0_put_71 ⟨Nat.le_of_ble_eq_true rfl, Nat.le_of_ble_eq_true rfl⟩) hS (fun q _ h => hFc q h) hFc (fun u t9 H1 locs ht hvm hw hB hz1 hk1 hS => ?_)
    obtain ⟨hP1, hD1⟩ := hB
    rw [ht] at hP1
    obtain ⟨hP, hD⟩ := va_join (wc := [(ta, .inl (kB, 128, .inl (ud_B (ud_wd (ud_wd (ud_wd b sz a1) (sz + 4) a2) (sz + 8) a3))))]) (wr := [(oa, .inr (0, [.ref ta, .int (nI sz), .ref ua, .int mk]))]) (w1 := [(ta, .inl (kB, 128, .inl (ud_B (ud_wd (ud_wd (ud_wd (ud_wd b sz a1) (sz + 4) a2) (sz + 8) a3) (sz + 12) a4))))]) hP hD [1] [0] rfl rfl (by decide) (by decide) hk1 hFc hP1 hD1
    clear hPc hDc
    generalize H1 = H at hP hS ⊢
    have hP : va_P (dC, dI) vwCl [(oa, .inr (0, [.ref ta, .int (nI sz), .ref ua, .int mk])), (ta, .inl (kB, 128, .inl (ud_B (ud_wd (ud_wd (ud_wd (ud_wd b sz a1) (sz + 4) a2) (sz + 8) a3) (sz + 12) a4))))] H := hP
    have hD : va_D A [(oa, .inr (0, [.ref ta, .int (nI sz), .ref ua, .int mk])), (ta, .inl (kB, 128, .inl (ud_B (ud_wd (ud_wd (ud_wd (ud_wd b sz a1) (sz + 4) a2) (sz + 8) a3) (sz + 12) a4))))] := hD
    refine lv_aload_n hx hb dX0_put_74 rfl (lv_at hl 0 rfl) ?_
    refine lv_dup hx hb dX0_put_75 rfl ?_
    refine va_get (D := (dC, dI)) (ci := 0) (v := .int (nI sz)) (C := RX0) (T := TX0) (N := 4) hx hb hts in_X0 hown hK hP 0 rfl rfl 1 (by decide) (hts _ q18) (fun _ h9 => h9) rfl dX0_put_76 ?_
    refine lv_bipush (v := nI 16) hx hb dX0_put_79 (by decide) ?_
    refine lv_iadd hx hb dX0_put_81 ?_
    refine ax_top (y := nI (sz + 16)) (nI_add _ _) ?_
    refine va_put (D := (dC, dI)) (ci := 0) (v := .int (nI (sz + 16))) (ty := .int) (C := RX0) (T := TX0) (N := 4) hx hb hts in_X0 tyX0 tyX0_ok nmX0 hown hK hP hD hS 0 rfl rfl 1 (by decide) (hts _ q18) (fun _ h9 => h9) rfl (by decide +kernel) rfl rfl (Nat.le_of_ble_eq_true rfl) dX0_put_82 (fun H locs hP hD hS => ?_)
    have hP : va_P (dC, dI) vwCl [(oa, .inr (0, [.ref ta, .int (nI (sz + 16)), .ref ua, .int mk])), (ta, .inl (kB, 128, .inl (ud_B (ud_wd (ud_wd (ud_wd (ud_wd b sz a1) (sz + 4) a2) (sz + 8) a3) (sz + 12) a4))))] H := hP
    have hD : va_D A [(oa, .inr (0, [.ref ta, .int (nI (sz + 16)), .ref ua, .int mk])), (ta, .inl (kB, 128, .inl (ud_B (ud_wd (ud_wd (ud_wd (ud_wd b sz a1) (sz + 4) a2) (sz + 8) a3) (sz + 12) a4))))] := hD
    refine lv_iconst (v := nI 1) hx hb dX0_put_85 (by decide) ?_
    have hP9 : va_P (dC, dI) vwCl [(oa, .inr (0, [.ref ta, .int (nI (ud_ps sz)), .ref ua, .int mk])), (ta, .inl (kB, 128, .inl (ud_B (ud_pb b sz a1 a2 a3 a4))))] H := by rw [e1, e2]; exact hP.sub (ws' := [(oa, .inr (0, [.ref ta, .int (nI (sz + 16)), .ref ua, .int mk])), (ta, .inl (kB, 128, .inl (ud_B (ud_wd (ud_wd (ud_wd (ud_wd b sz a1) (sz + 4) a2) (sz + 8) a3) (sz + 12) a4))))]) [0, 1] rfl
    have hD9 : va_D A [(oa, .inr (0, [.ref ta, .int (nI (ud_ps sz)), .ref ua, .int mk])), (ta, .inl (kB, 128, .inl (ud_B (ud_pb b sz a1 a2 a3 a4))))] := by rw [e1, e2]; exact hD.sub (ws' := [(oa, .inr (0, [.ref ta, .int (nI (sz + 16)), .ref ua, .int mk])), (ta, .inl (kB, 128, .inl (ud_B (ud_wd (ud_wd (ud_wd (ud_wd b sz a1) (sz + 4) a2) (sz + 8) a3) (sz + 12) a4))))]) [0, 1] (by decide) rfl
    exact W.zret (v := nI 1) hx hb hr rfl (fun t ht hW => ⟨⟨nI 1, (), rfl, e3, ⟨by rw [ht]; exact hP9, hD9⟩⟩, hS.F ht⟩) hS.2.2 dX0_put_86
  · have e1 : ud_ps sz = sz := if_pos (by omega)
    have e2 : ud_pb b sz a1 a2 a3 a4 = b := if_pos (by omega)
    have e3 : nI 0 = ud_pv sz := (if_pos (by omega)).symm
    refine lv_iconst (v := nI 0) hx hb dX0_put_15 (by decide) ?_
    have hP9 : va_P (dC, dI) vwCl [(oa, .inr (0, [.ref ta, .int (nI (ud_ps sz)), .ref ua, .int mk])), (ta, .inl (kB, 128, .inl (ud_B (ud_pb b sz a1 a2 a3 a4))))] s.heap := by rw [e1, e2]; exact hP.sub (ws' := [(oa, .inr (0, [.ref ta, .int (nI sz), .ref ua, .int mk])), (ta, .inl (kB, 128, .inl (ud_B b)))]) [0, 1] rfl
    have hD9 : va_D A [(oa, .inr (0, [.ref ta, .int (nI (ud_ps sz)), .ref ua, .int mk])), (ta, .inl (kB, 128, .inl (ud_B (ud_pb b sz a1 a2 a3 a4))))] := by rw [e1, e2]; exact hD.sub (ws' := [(oa, .inr (0, [.ref ta, .int (nI sz), .ref ua, .int mk])), (ta, .inl (kB, 128, .inl (ud_B b)))]) [0, 1] (by decide) rfl
    exact W.zret (v := nI 0) hx hb hr rfl (fun t ht hW => ⟨⟨nI 0, (), rfl, e3, ⟨by rw [ht]; exact hP9, hD9⟩⟩, hS.F ht⟩) hS.2.2 dX0_put_16
abbrev wsX0_unit : List Cond := ws_ yX0_unit cX0_unit 2 (some .int)
set_option maxHeartbeats 4000000 in
set_option maxRecDepth 100000 in
/-- unit(i): K places of the room are made -/
theorem me_X0_unit (l : Launch) (dC : Nat → ClassId) (dI : Nat → Nat → Nat) (kB kC kI : ClassId) (sz0 : Nat) (oa ta ua sz K : Nat) (mk : Int32) (un : Nat → Int32) (x : Int32) (hK9 : K ≤ 160) (hm : (mk = -1 ∧ K = 0) ∨ mk = nI K) : Met l yX0_unit wsX0_unit ({ frames := 0, cells := 0, slots := 0, locals := 0 } : Room) (va_Pc [.ref oa, .int x] (ud_P dC dI kB kC kI [(oa, .inr (0, [.ref ta, .int (nI sz), .ref ua, .int mk])), (ua, .inl (kC, 160, .inl un))] sz0)) (va_Qi (fun (r : Int32) (_ : Unit) => r = if K = 0 then -1 else un (ud_m x % K)) (fun (_ : Unit) (_ : State) => True) (va_A [] sz0)) 0 0 (va_A [] sz0) := by
  refine Met.ofW (cc := cX0_unit) (maxL := 2) (ret := some .int) (by decide) rfl ?_
  intro p e s m args below meth c s₁ B hml hv
  obtain ⟨rfl, hsz, hP, hK, hD0⟩ := hv
  have hx := B.exec
  have hb := B.bytes
  have hr := B.returns
  have hts := atoms_spec (ws := wsX0_unit) B.pre
  have hts : ∀ w ∈ lw_all, w.before _ s = true := fun w h => hts w (List.mem_cons_of_mem _ h)
  have hown : s.vm.findClass RX0 = some m.cls := findClass_of_methodNamed B.named
  have hlocks := B.notSynchronized
  subst hsz
  have hD := hD0
  generalize hAe : va_A [] s.heap.size = A
  have hA : ∀ q : Nat, s.heap.size ≤ q → A q := fun q h => by rw [← hAe]; exact Or.inr h
  have hS : va_S A s.heap s.heap [] := va_S.rf
  have hP : va_P (dC, dI) vwCl [(oa, .inr (0, [.ref ta, .int (nI sz), .ref ua, .int mk])), (ua, .inl (kC, 160, .inl un))] s.heap := hP
  have hl := lv_entry ([.ref oa, .int x]) (n := 2) (Nat.le_of_ble_eq_true rfl)
  rw [lg_entry_eq]
  generalize (lg_sl ([.ref oa, .int x]) ++ List.replicate (2 - (lg_sl ([.ref oa, .int x])).length) Slot.unset).toArray = ls at hl ⊢
  have hl : lv_has ls 2 [(0, .ref oa), (1, .int x)] := hl
  refine lv_aload_n hx hb dX0_unit_0 rfl (lv_at hl 0 rfl) ?_
  refine va_get (D := (dC, dI)) (ci := 0) (v := .int mk) (C := RX0) (T := TX0) (N := 4) hx hb hts in_X0 hown hK hP 0 rfl rfl 3 (by decide) (hts _ q20) (fun _ h9 => h9) rfl dX0_unit_1 ?_
  refine lv_if_gt (tgt := 11) hx hb dX0_unit_4 (by decide) (fun c_4 => ?_) (fun c_4 => ?_)
  · obtain ⟨hK0, rfl⟩ : 0 < K ∧ mk = nI K := by
      rcases hm with ⟨q, -⟩ | q
      · rw [q] at c_4; exact absurd c_4 (by decide)
      · refine ⟨Nat.pos_of_ne_zero (fun z => ?_), q⟩
        rw [q, z] at c_4; exact absurd c_4 (by decide)
    have hu_ : ud_m x % K < K := Nat.mod_lt _ hK0
    refine lv_aload_n hx hb dX0_unit_11 rfl (lv_at hl 0 rfl) ?_
    refine va_get (D := (dC, dI)) (ci := 0) (v := .ref ua) (C := RX0) (T := TX0) (N := 4) hx hb hts in_X0 hown hK hP 0 rfl rfl 2 (by decide) (hts _ q19) (fun _ h9 => h9) rfl dX0_unit_12 ?_
    refine lv_iload_n hx hb dX0_unit_15 rfl (lv_at hl 1 rfl) ?_
    refine lv_ldc (v := (2147483647 : Int32)) hx hb hown (hts _ q47) dX0_unit_16 ?_
    refine lv_iand hx hb dX0_unit_18 ?_
    refine ax_top (y := nI (ud_m x)) (ud_and _) ?_
    have hm_18 := ud_m_lt x
    refine lv_aload_n hx hb dX0_unit_19 rfl (lv_at hl 0 rfl) ?_
    refine va_get (D := (dC, dI)) (ci := 0) (v := .int (nI K)) (C := RX0) (T := TX0) (N := 4) hx hb hts in_X0 hown hK hP 0 rfl rfl 3 (by decide) (hts _ q20) (fun _ h9 => h9) rfl dX0_unit_20 ?_
    refine ax_irem hx hb (by omega) (by omega) (by omega) dX0_unit_23 ?_
    refine ax_cald hx hb hK hP 1 1 rfl rfl (by omega) (by omega) (v := un (ud_m x % K)) (rfl) dX0_unit_24 ?_
    exact W.iret (v := un (ud_m x % K)) hx hb hr (fun t ht hW => ⟨⟨un (ud_m x % K), (), rfl, (if_neg (by omega)).symm, trivial⟩, hS.F ht⟩) hS.2.2 dX0_unit_25
  · have hK0 : K = 0 := by
      rcases hm with ⟨-, q⟩ | q
      · exact q
      · refine Nat.eq_zero_of_not_pos (fun z => c_4 ?_)
        rw [q]
        exact (nI_ltI (by decide) (by omega)).mpr z
    refine lv_iconst (v := (-1)) hx hb dX0_unit_7 (by decide) ?_
    refine lv_goto (tgt := 25) hx hb dX0_unit_8 (by decide) ?_
    exact W.iret (v := (-1)) hx hb hr (fun t ht hW => ⟨⟨(-1), (), rfl, (if_pos hK0).symm, trivial⟩, hS.F ht⟩) hS.2.2 dX0_unit_25
abbrev wsX0_set : List Cond := ws_ yX0_set cX0_set 3 (some .boolean)
set_option maxHeartbeats 4000000 in
set_option maxRecDepth 100000 in
/-- set(at, v) -/
theorem me_X0_set (l : Launch) (dC : Nat → ClassId) (dI : Nat → Nat → Nat) (kB kC kI : ClassId) (sz0 : Nat) (oa ta ua : Nat) (b : Nat → Nat) (sz : Nat) (mk : Int32) (x v : Int32) (hsz : sz ≤ 128) : Met l yX0_set wsX0_set ({ frames := 0, cells := 0, slots := 0, locals := 0 } : Room) (va_Pc [.ref oa, .int x, .int v] (ud_P dC dI kB kC kI [(oa, .inr (0, [.ref ta, .int (nI sz), .ref ua, .int mk])), (ta, .inl (kB, 128, .inl (ud_B b)))] sz0)) (va_Qi (fun (r : Int32) (_ : Unit) => r = ud_sv sz) (fun (_ : Unit) (t : State) => va_P (dC, dI) vwCl [(oa, .inr (0, [.ref ta, .int (nI sz), .ref ua, .int mk])), (ta, .inl (kB, 128, .inl (ud_B (ud_sB b sz x v))))] t.heap ∧ va_D (va_A [(oa, .inr (0, [.ref ta, .int (nI sz), .ref ua, .int mk])), (ta, .inl (kB, 128, .inl (ud_B b)))] sz0) [(oa, .inr (0, [.ref ta, .int (nI sz), .ref ua, .int mk])), (ta, .inl (kB, 128, .inl (ud_B (ud_sB b sz x v))))]) (va_A [(oa, .inr (0, [.ref ta, .int (nI sz), .ref ua, .int mk])), (ta, .inl (kB, 128, .inl (ud_B b)))] sz0)) 0 0 (va_A [(oa, .inr (0, [.ref ta, .int (nI sz), .ref ua, .int mk])), (ta, .inl (kB, 128, .inl (ud_B b)))] sz0) := by
  refine Met.ofW (cc := cX0_set) (maxL := 3) (ret := some .boolean) (by decide) rfl ?_
  intro p e s m args below meth c s₁ B hml hv
  obtain ⟨rfl, hsz, hP, hK, hD0⟩ := hv
  have hx := B.exec
  have hb := B.bytes
  have hr := B.returns
  have hts := atoms_spec (ws := wsX0_set) B.pre
  have hts : ∀ w ∈ lw_all, w.before _ s = true := fun w h => hts w (List.mem_cons_of_mem _ h)
  have hown : s.vm.findClass RX0 = some m.cls := findClass_of_methodNamed B.named
  have hlocks := B.notSynchronized
  subst hsz
  have hD := hD0.self (sz := s.heap.size)
  generalize hAe : va_A [(oa, .inr (0, [.ref ta, .int (nI sz), .ref ua, .int mk])), (ta, .inl (kB, 128, .inl (ud_B b)))] s.heap.size = A at hD ⊢
  have hA : ∀ q : Nat, s.heap.size ≤ q → A q := fun q h => by rw [← hAe]; exact Or.inr h
  have hS : va_S A s.heap s.heap [] := va_S.rf
  have hP : va_P (dC, dI) vwCl [(oa, .inr (0, [.ref ta, .int (nI sz), .ref ua, .int mk])), (ta, .inl (kB, 128, .inl (ud_B b)))] s.heap := hP
  have hl := lv_entry ([.ref oa, .int x, .int v]) (n := 3) (Nat.le_of_ble_eq_true rfl)
  rw [lg_entry_eq]
  generalize (lg_sl ([.ref oa, .int x, .int v]) ++ List.replicate (3 - (lg_sl ([.ref oa, .int x, .int v])).length) Slot.unset).toArray = ls at hl ⊢
  have hl : lv_has ls 3 [(0, .ref oa), (1, .int x), (2, .int v)] := hl
  refine lv_aload_n hx hb dX0_set_0 rfl (lv_at hl 0 rfl) ?_
  refine va_get (D := (dC, dI)) (ci := 0) (v := .int (nI sz)) (C := RX0) (T := TX0) (N := 4) hx hb hts in_X0 hown hK hP 0 rfl rfl 1 (by decide) (hts _ q18) (fun _ h9 => h9) rfl dX0_set_1 ?_
  refine ax_if_ne (tgt := 9) hx hb (by omega) dX0_set_4 (by decide) (fun c_4 => ?_) (fun c_4 => ?_)
  · have hu_ : ud_m x % sz < sz := Nat.mod_lt _ c_4
    have e2 : ud_sB b sz x v = ud_up b (ud_m x % sz) (ud_by v 0) := if_neg (by omega)
    have e3 : nI 1 = ud_sv sz := (if_neg (by omega)).symm
    refine lv_aload_n hx hb dX0_set_9 rfl (lv_at hl 0 rfl) ?_
    refine va_get (D := (dC, dI)) (ci := 0) (v := .ref ta) (C := RX0) (T := TX0) (N := 4) hx hb hts in_X0 hown hK hP 0 rfl rfl 0 (by decide) (hts _ q17) (fun _ h9 => h9) rfl dX0_set_10 ?_
    refine lv_iload_n hx hb dX0_set_13 rfl (lv_at hl 1 rfl) ?_
    refine lv_ldc (v := (2147483647 : Int32)) hx hb hown (hts _ q47) dX0_set_14 ?_
    refine lv_iand hx hb dX0_set_16 ?_
    refine ax_top (y := nI (ud_m x)) (ud_and _) ?_
    have hm_16 := ud_m_lt x
    refine lv_aload_n hx hb dX0_set_17 rfl (lv_at hl 0 rfl) ?_
    refine va_get (D := (dC, dI)) (ci := 0) (v := .int (nI sz)) (C := RX0) (T := TX0) (N := 4) hx hb hts in_X0 hown hK hP 0 rfl rfl 1 (by decide) (hts _ q18) (fun _ h9 => h9) rfl dX0_set_18 ?_
    refine ax_irem hx hb (by omega) (by omega) (by omega) dX0_set_21 ?_
    refine lv_iload_n hx hb dX0_set_22 rfl (lv_at hl 2 rfl) ?_
    refine lv_i2b (v := ud_sb (ud_by v 0)) hx hb dX0_set_23 (ud_w0 _) ?_
    refine ax_bast hx hb hK hP hD hS 1 0 rfl rfl (by omega) (by omega) (g := ud_B (ud_up b (ud_m x % sz) (ud_by v 0))) (ud_stB _ _ _) dX0_set_24 (fun H locs hP hD hS => ?_)
    have hP : va_P (dC, dI) vwCl [(oa, .inr (0, [.ref ta, .int (nI sz), .ref ua, .int mk])), (ta, .inl (kB, 128, .inl (ud_B (ud_up b (ud_m x % sz) (ud_by v 0)))))] H := hP
    have hD : va_D A [(oa, .inr (0, [.ref ta, .int (nI sz), .ref ua, .int mk])), (ta, .inl (kB, 128, .inl (ud_B (ud_up b (ud_m x % sz) (ud_by v 0)))))] := hD
    refine lv_iconst (v := nI 1) hx hb dX0_set_25 (by decide) ?_
    have hP9 : va_P (dC, dI) vwCl [(oa, .inr (0, [.ref ta, .int (nI sz), .ref ua, .int mk])), (ta, .inl (kB, 128, .inl (ud_B (ud_sB b sz x v))))] H := by rw [e2]; exact hP.sub (ws' := [(oa, .inr (0, [.ref ta, .int (nI sz), .ref ua, .int mk])), (ta, .inl (kB, 128, .inl (ud_B (ud_up b (ud_m x % sz) (ud_by v 0)))))]) [0, 1] rfl
    have hD9 : va_D A [(oa, .inr (0, [.ref ta, .int (nI sz), .ref ua, .int mk])), (ta, .inl (kB, 128, .inl (ud_B (ud_sB b sz x v))))] := by rw [e2]; exact hD.sub (ws' := [(oa, .inr (0, [.ref ta, .int (nI sz), .ref ua, .int mk])), (ta, .inl (kB, 128, .inl (ud_B (ud_up b (ud_m x % sz) (ud_by v 0)))))]) [0, 1] (by decide) rfl
    exact W.zret (v := nI 1) hx hb hr rfl (fun t ht hW => ⟨⟨nI 1, (), rfl, e3, ⟨by rw [ht]; exact hP9, hD9⟩⟩, hS.F ht⟩) hS.2.2 dX0_set_26
  · have e2 : ud_sB b sz x v = b := if_pos c_4
    have e3 : nI 0 = ud_sv sz := (if_pos c_4).symm
    refine lv_iconst (v := nI 0) hx hb dX0_set_7 (by decide) ?_
    have hP9 : va_P (dC, dI) vwCl [(oa, .inr (0, [.ref ta, .int (nI sz), .ref ua, .int mk])), (ta, .inl (kB, 128, .inl (ud_B (ud_sB b sz x v))))] s.heap := by rw [e2]; exact hP.sub (ws' := [(oa, .inr (0, [.ref ta, .int (nI sz), .ref ua, .int mk])), (ta, .inl (kB, 128, .inl (ud_B b)))]) [0, 1] rfl
    have hD9 : va_D A [(oa, .inr (0, [.ref ta, .int (nI sz), .ref ua, .int mk])), (ta, .inl (kB, 128, .inl (ud_B (ud_sB b sz x v))))] := by rw [e2]; exact hD.sub (ws' := [(oa, .inr (0, [.ref ta, .int (nI sz), .ref ua, .int mk])), (ta, .inl (kB, 128, .inl (ud_B b)))]) [0, 1] (by decide) rfl
    exact W.zret (v := nI 0) hx hb hr rfl (fun t ht hW => ⟨⟨nI 0, (), rfl, e3, ⟨by rw [ht]; exact hP9, hD9⟩⟩, hS.F ht⟩) hS.2.2 dX0_set_8
abbrev wsX0_init : List Cond := ws_ yX0_init cX0_init 1 none
set_option maxHeartbeats 4000000 in
set_option maxRecDepth 100000 in
/-- UtfDesk() -/
theorem me_X0_init (l : Launch) (dC : Nat → ClassId) (dI : Nat → Nat → Nat) (kB kC kI : ClassId) (sz0 : Nat) (oa : Nat) : Met l yX0_init wsX0_init ({ frames := 1, cells := 2, slots := 288, locals := 12 } : Room) (va_Pc [.ref oa] (ud_P dC dI kB kC kI [(oa, .inr (0, [.null, .int (nI 0), .null, .int (nI 0)]))] sz0)) (va_Qv (fun (_ : Nat × Nat) => True) (fun (u : Nat × Nat) (t : State) => va_P (dC, dI) vwCl [(oa, .inr (0, [.ref u.1, .int (nI 0), .ref u.2, .int ((-1))])), (u.1, .inl (kB, 128, .inl (ud_B (fun _ => 0)))), (u.2, .inl (kC, 160, .inl (fun _ => 0)))] t.heap ∧ va_D (va_A [(oa, .inr (0, [.null, .int (nI 0), .null, .int (nI 0)]))] sz0) [(oa, .inr (0, [.ref u.1, .int (nI 0), .ref u.2, .int ((-1))])), (u.1, .inl (kB, 128, .inl (ud_B (fun _ => 0)))), (u.2, .inl (kC, 160, .inl (fun _ => 0)))]) (va_A [(oa, .inr (0, [.null, .int (nI 0), .null, .int (nI 0)]))] sz0)) 2 288 (va_A [(oa, .inr (0, [.null, .int (nI 0), .null, .int (nI 0)]))] sz0) := by
  refine Met.ofW (cc := cX0_init) (maxL := 1) (ret := none) (by decide) rfl ?_
  intro p e s m args below meth c s₁ B hml hv
  obtain ⟨rfl, hsz, hP, hK, hD0⟩ := hv
  have hx := B.exec
  have hb := B.bytes
  have hr := B.returns
  have hts := atoms_spec (ws := wsX0_init) B.pre
  have hts : ∀ w ∈ lw_all, w.before _ s = true := fun w h => hts w (List.mem_cons_of_mem _ h)
  have hown : s.vm.findClass RX0 = some m.cls := findClass_of_methodNamed B.named
  have hlocks := B.notSynchronized
  have hin : meth.name = "<init>" := (name_of_methodNamed B.named B.method).1
  subst hsz
  have hD := hD0.self (sz := s.heap.size)
  generalize hAe : va_A [(oa, .inr (0, [.null, .int (nI 0), .null, .int (nI 0)]))] s.heap.size = A at hD ⊢
  have hA : ∀ q : Nat, s.heap.size ≤ q → A q := fun q h => by rw [← hAe]; exact Or.inr h
  have hS : va_S A s.heap s.heap [] := va_S.rf
  have hP : va_P (dC, dI) vwCl [(oa, .inr (0, [.null, .int (nI 0), .null, .int (nI 0)]))] s.heap := hP
  have hl := lv_entry ([.ref oa]) (n := 1) (Nat.le_of_ble_eq_true rfl)
  rw [lg_entry_eq]
  generalize (lg_sl ([.ref oa]) ++ List.replicate (1 - (lg_sl ([.ref oa])).length) Slot.unset).toArray = ls at hl ⊢
  have hl : lv_has ls 1 [(0, .ref oa)] := hl
  refine lv_aload_n hx hb dX0_init_0 rfl (lv_at hl 0 rfl) ?_
  refine W.objInit hx hb hown (hts _ q14) (hts _ q15) (hts _ q16) rfl (by rw [hml]; exact hl.1) rfl dX0_init_1 (Nat.le_of_ble_eq_true rfl) (Nat.le_of_ble_eq_true rfl) ?_
  refine W.eq (g2 := F0 m 4 ls []) rfl ?_
  refine lv_aload_n hx hb dX0_init_4 rfl (lv_at hl 0 rfl) ?_
  refine lv_sipush (v := nI 128) hx hb dX0_init_5 (by decide) ?_
  refine ax_newa (atype := .byte) (ty := .byte) hx hb rfl (fun _ _ => rfl) rfl (by decide) (hts _ q30) hK 0 rfl hP hD hS hA (by omega) (Nat.le_of_ble_eq_true rfl) (Nat.le_of_ble_eq_true rfl) dX0_init_8 (fun ta H hP hD hS => ?_)
  have e_8 : (fun _ => (0 : Int32)) = ud_B (fun _ => 0) := by funext i; simp [ud_B, ud_sb_0]
  rw [e_8] at hP hD
  have hP : va_P (dC, dI) vwCl [(oa, .inr (0, [.null, .int (nI 0), .null, .int (nI 0)])), (ta, .inl (kB, 128, .inl (ud_B (fun _ => 0))))] H := hP
  have hD : va_D A [(oa, .inr (0, [.null, .int (nI 0), .null, .int (nI 0)])), (ta, .inl (kB, 128, .inl (ud_B (fun _ => 0))))] := hD
  refine va_putF (D := (dC, dI)) (ci := 0) (v := .ref ta) (ty := .array .byte) (C := RX0) (T := TX0) (N := 4) hx hb hts in_X0 tyX0 tyX0_ok nmX0 hown hK hP hD hS 0 rfl rfl 0 (by decide) (hts _ q17) (fun _ h9 => h9) rfl hin rfl (by decide +kernel) rfl rfl (Nat.le_of_ble_eq_true rfl) dX0_init_10 (fun H locs hP hD hS => ?_)
  have hP : va_P (dC, dI) vwCl [(oa, .inr (0, [.ref ta, .int (nI 0), .null, .int (nI 0)])), (ta, .inl (kB, 128, .inl (ud_B (fun _ => 0))))] H := hP
  have hD : va_D A [(oa, .inr (0, [.ref ta, .int (nI 0), .null, .int (nI 0)])), (ta, .inl (kB, 128, .inl (ud_B (fun _ => 0))))] := hD
  refine lv_aload_n hx hb dX0_init_13 rfl (lv_at hl 0 rfl) ?_
  refine lv_sipush (v := nI 160) hx hb dX0_init_14 (by decide) ?_
  refine ax_newa (atype := .char) (ty := .char) hx hb rfl (fun _ _ => rfl) rfl (by decide) (hts _ q31) hK 1 rfl hP hD hS hA (by omega) (Nat.le_of_ble_eq_true rfl) (Nat.le_of_ble_eq_true rfl) dX0_init_17 (fun ua H hP hD hS => ?_)
  have hP : va_P (dC, dI) vwCl [(oa, .inr (0, [.ref ta, .int (nI 0), .null, .int (nI 0)])), (ta, .inl (kB, 128, .inl (ud_B (fun _ => 0)))), (ua, .inl (kC, 160, .inl (fun _ => 0)))] H := hP
  have hD : va_D A [(oa, .inr (0, [.ref ta, .int (nI 0), .null, .int (nI 0)])), (ta, .inl (kB, 128, .inl (ud_B (fun _ => 0)))), (ua, .inl (kC, 160, .inl (fun _ => 0)))] := hD
  refine va_putF (D := (dC, dI)) (ci := 0) (v := .ref ua) (ty := .array .char) (C := RX0) (T := TX0) (N := 4) hx hb hts in_X0 tyX0 tyX0_ok nmX0 hown hK hP hD hS 0 rfl rfl 2 (by decide) (hts _ q19) (fun _ h9 => h9) rfl hin rfl (by decide +kernel) rfl rfl (Nat.le_of_ble_eq_true rfl) dX0_init_19 (fun H locs hP hD hS => ?_)
  have hP : va_P (dC, dI) vwCl [(oa, .inr (0, [.ref ta, .int (nI 0), .ref ua, .int (nI 0)])), (ta, .inl (kB, 128, .inl (ud_B (fun _ => 0)))), (ua, .inl (kC, 160, .inl (fun _ => 0)))] H := hP
  have hD : va_D A [(oa, .inr (0, [.ref ta, .int (nI 0), .ref ua, .int (nI 0)])), (ta, .inl (kB, 128, .inl (ud_B (fun _ => 0)))), (ua, .inl (kC, 160, .inl (fun _ => 0)))] := hD
  refine lv_aload_n hx hb dX0_init_22 rfl (lv_at hl 0 rfl) ?_
  refine lv_iconst (v := (-1)) hx hb dX0_init_23 (by decide) ?_
  refine va_put (D := (dC, dI)) (ci := 0) (v := .int ((-1))) (ty := .int) (C := RX0) (T := TX0) (N := 4) hx hb hts in_X0 tyX0 tyX0_ok nmX0 hown hK hP hD hS 0 rfl rfl 3 (by decide) (hts _ q20) (fun _ h9 => h9) rfl (by decide +kernel) rfl rfl (Nat.le_of_ble_eq_true rfl) dX0_init_24 (fun H locs hP hD hS => ?_)
  have hP : va_P (dC, dI) vwCl [(oa, .inr (0, [.ref ta, .int (nI 0), .ref ua, .int ((-1))])), (ta, .inl (kB, 128, .inl (ud_B (fun _ => 0)))), (ua, .inl (kC, 160, .inl (fun _ => 0)))] H := hP
  have hD : va_D A [(oa, .inr (0, [.ref ta, .int (nI 0), .ref ua, .int ((-1))])), (ta, .inl (kB, 128, .inl (ud_B (fun _ => 0)))), (ua, .inl (kC, 160, .inl (fun _ => 0)))] := hD
  have hP9 : va_P (dC, dI) vwCl [(oa, .inr (0, [.ref ta, .int (nI 0), .ref ua, .int ((-1))])), (ta, .inl (kB, 128, .inl (ud_B (fun _ => 0)))), (ua, .inl (kC, 160, .inl (fun _ => 0)))] H := by exact hP.sub (ws' := [(oa, .inr (0, [.ref ta, .int (nI 0), .ref ua, .int ((-1))])), (ta, .inl (kB, 128, .inl (ud_B (fun _ => 0)))), (ua, .inl (kC, 160, .inl (fun _ => 0)))]) [0, 1, 2] rfl
  have hD9 : va_D A [(oa, .inr (0, [.ref ta, .int (nI 0), .ref ua, .int ((-1))])), (ta, .inl (kB, 128, .inl (ud_B (fun _ => 0)))), (ua, .inl (kC, 160, .inl (fun _ => 0)))] := by exact hD.sub (ws' := [(oa, .inr (0, [.ref ta, .int (nI 0), .ref ua, .int ((-1))])), (ta, .inl (kB, 128, .inl (ud_B (fun _ => 0)))), (ua, .inl (kC, 160, .inl (fun _ => 0)))]) [0, 1, 2] (by decide) rfl
  exact W.vret hx hb hr (fun t ht hW => ⟨⟨(ta, ua), rfl, trivial, ⟨by rw [ht]; exact hP9, hD9⟩⟩, hS.F ht⟩) hS.2.2 dX0_init_27
end
section
/-! UtfDesk: letter, part -/
set_option maxHeartbeats 4000000 in
set_option maxRecDepth 100000 in
theorem lo_X0_len {p : Program} {l : Launch} {e : Env} {R : Room} {s : State} {m : MethodId} {args : Array Value} {below : List Frame} {meth : Method} {c : Code} {cells slots : Nat} {Q : State → Prop} {dC : Nat → ClassId} {dI : Nat → Nat → Nat} {kB kC kI : ClassId} {A : Nat → Prop} (hx : p.tables.exec = Jvm.exec) (hb : c.code = cX0_letter) (hml : c.maxLocals = 7) (hown : s.vm.findClass RX0 = some m.cls) (hts : ∀ w ∈ lw_all, w.before args s = true) (hK : va_K (dC, dI) vwCl (ud_T kB kC kI) s) (hA : ∀ q : Nat, s.heap.size ≤ q → A q) {H : Heap} {locs : List Loc} {y : Nat} (hy : y < 1114112) {ls : Array Slot} (hl : lv_has ls 7 [(3, .int (nI y))]) (kk : W p l e R s m args below meth c H locs cells slots Q (F0 m 41 ls [.int (nI (ud_len y))])) : W p l e R s m args below meth c H locs cells slots Q (F0 m 8 ls []) := by
  refine lv_iload_n hx hb dX0_letter_8 rfl (lv_at hl 0 rfl) ?_
  refine lv_sipush (v := nI 128) hx hb dX0_letter_9 (by decide) ?_
  refine ax_icmp_ge (tgt := 19) hx hb (by omega) (by omega) dX0_letter_12 (by decide) (fun c_12 => ?_) (fun c_12 => ?_)
  · refine lv_iload_n hx hb dX0_letter_19 rfl (lv_at hl 0 rfl) ?_
    refine lv_sipush (v := nI 2048) hx hb dX0_letter_20 (by decide) ?_
    refine ax_icmp_ge (tgt := 30) hx hb (by omega) (by omega) dX0_letter_23 (by decide) (fun c_23 => ?_) (fun c_23 => ?_)
    · refine lv_iload_n hx hb dX0_letter_30 rfl (lv_at hl 0 rfl) ?_
      refine lv_ldc (v := (65536 : Int32)) hx hb hown (hts _ q86) dX0_letter_31 ?_
      refine ax_top (y := nI 65536) (by decide) ?_
      refine ax_icmp_ge (tgt := 40) hx hb (by omega) (by omega) dX0_letter_33 (by decide) (fun c_33 => ?_) (fun c_33 => ?_)
      · refine lv_iconst (v := nI 4) hx hb dX0_letter_40 (by decide) ?_
        refine ax_top (y := nI (ud_len y)) (congrArg nI (by unfold ud_len; (repeat' split) <;> omega)) ?_
        exact kk
      · refine lv_iconst (v := nI 3) hx hb dX0_letter_36 (by decide) ?_
        refine ax_top (y := nI (ud_len y)) (congrArg nI (by unfold ud_len; (repeat' split) <;> omega)) ?_
        refine lv_goto (tgt := 41) hx hb dX0_letter_37 (by decide) ?_
        exact kk
    · refine lv_iconst (v := nI 2) hx hb dX0_letter_26 (by decide) ?_
      refine ax_top (y := nI (ud_len y)) (congrArg nI (by unfold ud_len; (repeat' split) <;> omega)) ?_
      refine lv_goto (tgt := 41) hx hb dX0_letter_27 (by decide) ?_
      exact kk
  · refine lv_iconst (v := nI 1) hx hb dX0_letter_15 (by decide) ?_
    refine ax_top (y := nI (ud_len y)) (congrArg nI (by unfold ud_len; (repeat' split) <;> omega)) ?_
    refine lv_goto (tgt := 41) hx hb dX0_letter_16 (by decide) ?_
    exact kk
set_option maxHeartbeats 4000000 in
set_option maxRecDepth 100000 in
theorem lo_X0_tail {p : Program} {l : Launch} {e : Env} {R : Room} {s : State} {m : MethodId} {args : Array Value} {below : List Frame} {meth : Method} {c : Code} {cells slots : Nat} {Q : State → Prop} {dC : Nat → ClassId} {dI : Nat → Nat → Nat} {kB kC kI : ClassId} {A : Nat → Prop} (hx : p.tables.exec = Jvm.exec) (hb : c.code = cX0_letter) (hml : c.maxLocals = 7) (hown : s.vm.findClass RX0 = some m.cls) (hts : ∀ w ∈ lw_all, w.before args s = true) (hK : va_K (dC, dI) vwCl (ud_T kB kC kI) s) (hA : ∀ q : Nat, s.heap.size ≤ q → A q) {oa ta ua sz f k z : Nat} {mk : Int32} {T : Nat → Nat} (kk : ∀ (H : Heap) (locs : List Loc), va_P (dC, dI) vwCl [(oa, .inr (0, [.ref ta, .int (nI sz), .ref ua, .int mk])), (ta, .inl (kB, 128, .inl (ud_B T)))] H → va_D A [(oa, .inr (0, [.ref ta, .int (nI sz), .ref ua, .int mk])), (ta, .inl (kB, 128, .inl (ud_B T)))] → va_S A s.heap H locs → ∀ (ls : Array Slot), lv_has ls 7 [(6, .int (nI 0)), (5, .int (nI f)), (4, .int (nI k)), (3, .int (nI z)), (0, .ref oa)] → W p l e R s m args below meth c H locs cells slots Q (F0 m 123 ls [])) : ∀ (n y : Nat) (b : Nat → Nat), n ≤ 3 → f + n < 128 → y < 1114112 → ud_tl n f b y = T → ud_sh n y = z → ∀ (H : Heap) (locs : List Loc), va_P (dC, dI) vwCl [(oa, .inr (0, [.ref ta, .int (nI sz), .ref ua, .int mk])), (ta, .inl (kB, 128, .inl (ud_B b)))] H → va_D A [(oa, .inr (0, [.ref ta, .int (nI sz), .ref ua, .int mk])), (ta, .inl (kB, 128, .inl (ud_B b)))] → va_S A s.heap H locs → ∀ (ls : Array Slot), lv_has ls 7 [(6, .int (nI n)), (5, .int (nI f)), (4, .int (nI k)), (3, .int (nI y)), (0, .ref oa)] → W p l e R s m args below meth c H locs cells slots Q (F0 m 88 ls []) := by
  intro n
  induction n with
  | zero =>
    intro y b h3 hf hy hT hz H locs hP hD hS ls hl
    subst hT
    subst hz
    refine lv_iload hx hb dX0_letter_88 (lv_at hl 0 rfl) ?_
    refine ax_if_le (tgt := 123) hx hb (by omega) dX0_letter_90 (by decide) (fun c_90 => ?_) (fun c_90 => absurd c_90 (by omega))
    exact kk H locs hP hD hS ls hl
  | succ n ih =>
    intro y b h3 hf hy hT hz H locs hP hD hS ls hl
    refine lv_iload hx hb dX0_letter_88 (lv_at hl 0 rfl) ?_
    refine ax_if_le (tgt := 123) hx hb (by omega) dX0_letter_90 (by decide) (fun c_90 => absurd c_90 (by omega)) (fun c_90 => ?_)
    refine lv_aload_n hx hb dX0_letter_93 rfl (lv_at hl 4 rfl) ?_
    refine va_get (D := (dC, dI)) (ci := 0) (v := .ref ta) (C := RX0) (T := TX0) (N := 4) hx hb hts in_X0 hown hK hP 0 rfl rfl 0 (by decide) (hts _ q17) (fun _ h9 => h9) rfl dX0_letter_94 ?_
    refine lv_iload hx hb dX0_letter_97 (lv_at hl 1 rfl) ?_
    refine lv_iload hx hb dX0_letter_99 (lv_at hl 0 rfl) ?_
    refine lv_iadd hx hb dX0_letter_101 ?_
    refine ax_top (y := nI (f + (n + 1))) (nI_add _ _) ?_
    refine lv_sipush (v := nI 128) hx hb dX0_letter_102 (by decide) ?_
    refine lv_iload_n hx hb dX0_letter_105 rfl (lv_at hl 3 rfl) ?_
    refine lv_bipush (v := nI 63) hx hb dX0_letter_106 (by decide) ?_
    refine lv_iand hx hb dX0_letter_108 ?_
    refine ax_top (y := nI (y % 64)) (pk_andN (by omega) 6 (by decide)) ?_
    refine lv_ior hx hb dX0_letter_109 ?_
    refine ax_top (y := nI (128 + y % 64)) (ud_ors (k := 6) 2 (by omega)) ?_
    refine lv_i2b (v := ud_sb (128 + y % 64)) hx hb dX0_letter_110 (rfl) ?_
    refine ax_bast hx hb hK hP hD hS 1 0 rfl rfl (by omega) (by omega) (g := ud_B (ud_up b (f + (n + 1)) (128 + y % 64))) (ud_stB _ _ _) dX0_letter_111 (fun H locs hP hD hS => ?_)
    have hP : va_P (dC, dI) vwCl [(oa, .inr (0, [.ref ta, .int (nI sz), .ref ua, .int mk])), (ta, .inl (kB, 128, .inl (ud_B (ud_up b (f + (n + 1)) (128 + y % 64)))))] H := hP
    have hD : va_D A [(oa, .inr (0, [.ref ta, .int (nI sz), .ref ua, .int mk])), (ta, .inl (kB, 128, .inl (ud_B (ud_up b (f + (n + 1)) (128 + y % 64)))))] := hD
    refine lv_iload_n hx hb dX0_letter_112 rfl (lv_at hl 3 rfl) ?_
    refine lv_bipush (v := nI 6) hx hb dX0_letter_113 (by decide) ?_
    refine lv_ishr hx hb dX0_letter_115 ?_
    refine ax_top (y := nI (y / 64)) (pk_shrN (by omega) _ 6 (by decide)) ?_
    refine lv_istore_n (lv' := [(3, .int (nI (y / 64))), (6, .int (nI (n + 1))), (5, .int (nI f)), (4, .int (nI k)), (0, .ref oa)]) hx hb dX0_letter_116 rfl hl (by decide) rfl (fun ls hl => ?_)
    refine lv_iinc (v := nI n) (lv' := [(6, .int (nI n)), (3, .int (nI (y / 64))), (5, .int (nI f)), (4, .int (nI k)), (0, .ref oa)]) hx hb dX0_letter_117 hl (k := 1) rfl (ud_im1 _) (by decide) rfl (fun ls hl => ?_)
    refine lv_goto (tgt := 88) hx hb dX0_letter_120 (by decide) ?_
    exact ih (y / 64) (ud_up b (f + (n + 1)) (128 + y % 64)) (by omega) (by omega) (by omega) hT hz H locs hP hD hS ls (lv_sub hl [0, 2, 3, 1, 4] rfl)
abbrev wsX0_letter : List Cond := ws_ yX0_letter cX0_letter 7 (some .int)
set_option maxHeartbeats 4000000 in
set_option maxRecDepth 100000 in
/-- letter(at, v) -/
theorem me_X0_letter (l : Launch) (dC : Nat → ClassId) (dI : Nat → Nat → Nat) (kB kC kI : ClassId) (sz0 : Nat) (oa ta ua : Nat) (b : Nat → Nat) (sz : Nat) (mk : Int32) (x v : Int32) (f y : Nat) (ef : f = ud_m x % (sz + 1)) (ey : y = ud_m v % 1114112) (hsz : sz ≤ 128) : Met l yX0_letter wsX0_letter ({ frames := 1, cells := 0, slots := 0, locals := 21 } : Room) (va_Pc [.ref oa, .int x, .int v] (ud_P dC dI kB kC kI [(oa, .inr (0, [.ref ta, .int (nI sz), .ref ua, .int mk])), (ta, .inl (kB, 128, .inl (ud_B b)))] sz0)) (va_Qi (fun (r : Int32) (_ : Unit) => r = ud_lr sz f y) (fun (_ : Unit) (t : State) => va_P (dC, dI) vwCl [(oa, .inr (0, [.ref ta, .int (nI sz), .ref ua, .int mk])), (ta, .inl (kB, 128, .inl (ud_B (ud_lb b sz f y))))] t.heap ∧ va_D (va_A [(oa, .inr (0, [.ref ta, .int (nI sz), .ref ua, .int mk])), (ta, .inl (kB, 128, .inl (ud_B b)))] sz0) [(oa, .inr (0, [.ref ta, .int (nI sz), .ref ua, .int mk])), (ta, .inl (kB, 128, .inl (ud_B (ud_lb b sz f y))))]) (va_A [(oa, .inr (0, [.ref ta, .int (nI sz), .ref ua, .int mk])), (ta, .inl (kB, 128, .inl (ud_B b)))] sz0)) 0 0 (va_A [(oa, .inr (0, [.ref ta, .int (nI sz), .ref ua, .int mk])), (ta, .inl (kB, 128, .inl (ud_B b)))] sz0) := by
  refine Met.ofW (cc := cX0_letter) (maxL := 7) (ret := some .int) (by decide) rfl ?_
  intro p e s m args below meth c s₁ B hml hv
  obtain ⟨rfl, hsz, hP, hK, hD0⟩ := hv
  have hx := B.exec
  have hb := B.bytes
  have hr := B.returns
  have hts := atoms_spec (ws := wsX0_letter) B.pre
  have hts : ∀ w ∈ lw_all, w.before _ s = true := fun w h => hts w (List.mem_cons_of_mem _ h)
  have hown : s.vm.findClass RX0 = some m.cls := findClass_of_methodNamed B.named
  have hlocks := B.notSynchronized
  subst hsz
  have hD := hD0.self (sz := s.heap.size)
  generalize hAe : va_A [(oa, .inr (0, [.ref ta, .int (nI sz), .ref ua, .int mk])), (ta, .inl (kB, 128, .inl (ud_B b)))] s.heap.size = A at hD ⊢
  have hA : ∀ q : Nat, s.heap.size ≤ q → A q := fun q h => by rw [← hAe]; exact Or.inr h
  have hS : va_S A s.heap s.heap [] := va_S.rf
  have hP : va_P (dC, dI) vwCl [(oa, .inr (0, [.ref ta, .int (nI sz), .ref ua, .int mk])), (ta, .inl (kB, 128, .inl (ud_B b)))] s.heap := hP
  have hl := lv_entry ([.ref oa, .int x, .int v]) (n := 7) (Nat.le_of_ble_eq_true rfl)
  rw [lg_entry_eq]
  generalize (lg_sl ([.ref oa, .int x, .int v]) ++ List.replicate (7 - (lg_sl ([.ref oa, .int x, .int v])).length) Slot.unset).toArray = ls at hl ⊢
  have hl : lv_has ls 7 [(0, .ref oa), (1, .int x), (2, .int v)] := hl
  have hf : f ≤ sz := by rw [ef]; exact Nat.le_of_lt_succ (Nat.mod_lt _ (Nat.succ_pos _))
  have hy : y < 1114112 := by rw [ey]; exact Nat.mod_lt _ (by decide)
  refine lv_iload_n hx hb dX0_letter_0 rfl (lv_at hl 2 rfl) ?_
  refine lv_ldc (v := (2147483647 : Int32)) hx hb hown (hts _ q47) dX0_letter_1 ?_
  refine lv_iand hx hb dX0_letter_3 ?_
  refine ax_top (y := nI (ud_m v)) (ud_and _) ?_
  have hm_3 := ud_m_lt v
  refine lv_ldc (v := (1114112 : Int32)) hx hb hown (hts _ q85) dX0_letter_4 ?_
  refine ax_top (y := nI 1114112) (by decide) ?_
  refine ax_irem hx hb (by omega) (by omega) (by omega) dX0_letter_6 ?_
  refine ax_top (y := nI y) (congrArg nI ey.symm) ?_
  refine lv_istore_n (lv' := [(3, .int (nI y)), (0, .ref oa), (1, .int x), (2, .int v)]) hx hb dX0_letter_7 rfl hl (by decide) rfl (fun ls hl => ?_)
  refine lo_X0_len hx hb hml hown hts hK hA hy (lv_sub hl [0] rfl) ?_
  have hk := ud_len_in y
  refine lv_istore (lv' := [(4, .int (nI (ud_len y))), (3, .int (nI y)), (0, .ref oa), (1, .int x), (2, .int v)]) hx hb dX0_letter_41 hl (by decide) rfl (fun ls hl => ?_)
  refine lv_aload_n hx hb dX0_letter_43 rfl (lv_at hl 2 rfl) ?_
  refine lv_iload_n hx hb dX0_letter_44 rfl (lv_at hl 3 rfl) ?_
  have hPc := hP.sub (ws' := [(oa, .inr (0, [.ref ta, .int (nI sz), .ref ua, .int mk]))]) [0] rfl
  have hDc := hD.sub (ws' := [(oa, .inr (0, [.ref ta, .int (nI sz), .ref ua, .int mk]))]) [0] (by decide) rfl
  have hFc := ud_fr hS hA
  refine va_calli (va_runV (As := [.int x]) (rest := []) ⟨hx, hb, hml, hown, hts⟩ (me_X0_from l dC dI kB kC kI s.heap.size oa ta ua sz mk x hsz) (cwV 1 hts (lw_V q43 q45 qs0 q6 q46) rfl rfl rfl (by decide +kernel) ⟨Nat.le_of_ble_eq_true rfl, Nat.le_of_ble_eq_true rfl⟩) ⟨ud_bl, va_recv hK hPc (ci := 0) (q0 := 0) rfl rfl, ud_pr hPc hDc hK⟩ rfl rfl hl.1 rfl (lv_room (Nat.le_of_ble_eq_true rfl)) dX0_letter_45 ⟨Nat.le_of_ble_eq_true rfl, Nat.le_of_ble_eq_true rfl⟩) hS (fun q _ h => hFc q h) hFc (fun r_45 u t9 H1 locs ht hvm hw hB hz1 hk1 hS => ?_)
  have hP := ud_ro hP hk1
  clear hPc hDc
  generalize H1 = H at hP hS ⊢
  obtain rfl : r_45 = nI f := hw.trans (congrArg nI ef.symm)
  refine lv_istore (lv' := [(5, .int (nI f)), (4, .int (nI (ud_len y))), (3, .int (nI y)), (0, .ref oa), (1, .int x), (2, .int v)]) hx hb dX0_letter_48 hl (by decide) rfl (fun ls hl => ?_)
  refine lv_iload hx hb dX0_letter_50 (lv_at hl 0 rfl) ?_
  refine lv_iload hx hb dX0_letter_52 (lv_at hl 1 rfl) ?_
  refine lv_iadd hx hb dX0_letter_54 ?_
  refine ax_top (y := nI (f + (ud_len y))) (nI_add _ _) ?_
  refine lv_aload_n hx hb dX0_letter_55 rfl (lv_at hl 3 rfl) ?_
  refine va_get (D := (dC, dI)) (ci := 0) (v := .int (nI sz)) (C := RX0) (T := TX0) (N := 4) hx hb hts in_X0 hown hK hP 0 rfl rfl 1 (by decide) (hts _ q18) (fun _ h9 => h9) rfl dX0_letter_56 ?_
  refine ax_icmp_le (tgt := 64) hx hb (by omega) (by omega) dX0_letter_59 (by decide) (fun c_59 => ?_) (fun c_59 => ?_)
  · refine lv_iload hx hb dX0_letter_64 (lv_at hl 1 rfl) ?_
    refine lv_iconst (v := nI 1) hx hb dX0_letter_66 (by decide) ?_
    refine ax_icmp_ne (tgt := 82) hx hb (by omega) (by omega) dX0_letter_67 (by decide) (fun c_67 => ?_) (fun c_67 => ?_)
    · refine lv_iload hx hb dX0_letter_82 (lv_at hl 1 rfl) ?_
      refine lv_iconst (v := nI 1) hx hb dX0_letter_84 (by decide) ?_
      refine lv_isub hx hb dX0_letter_85 ?_
      refine ax_top (y := nI (ud_len y - 1)) (pk_sub (by omega)) ?_
      refine lv_istore (lv' := [(6, .int (nI (ud_len y - 1))), (5, .int (nI f)), (4, .int (nI (ud_len y))), (3, .int (nI y)), (0, .ref oa), (1, .int x), (2, .int v)]) hx hb dX0_letter_86 hl (by decide) rfl (fun ls hl => ?_)
      refine lo_X0_tail hx hb hml hown hts hK hA (T := ud_tl (ud_len y - 1) f b y) (z := ud_sh (ud_len y - 1) y) (fun H locs hP hD hS ls hl => ?_) (ud_len y - 1) y b (by omega) (by omega) hy rfl rfl H locs hP hD hS ls (lv_sub hl [0, 1, 2, 3, 4] rfl)
      refine lv_aload_n hx hb dX0_letter_123 rfl (lv_at hl 4 rfl) ?_
      refine va_get (D := (dC, dI)) (ci := 0) (v := .ref ta) (C := RX0) (T := TX0) (N := 4) hx hb hts in_X0 hown hK hP 0 rfl rfl 0 (by decide) (hts _ q17) (fun _ h9 => h9) rfl dX0_letter_124 ?_
      refine lv_iload hx hb dX0_letter_127 (lv_at hl 1 rfl) ?_
      refine lv_iload hx hb dX0_letter_129 (lv_at hl 2 rfl) ?_
      refine lv_iconst (v := nI 2) hx hb dX0_letter_131 (by decide) ?_
      refine ax_icmp_ne (tgt := 143) hx hb (by omega) (by omega) dX0_letter_132 (by decide) (fun c_132 => ?_) (fun c_132 => ?_)
      · refine lv_iload hx hb dX0_letter_143 (lv_at hl 2 rfl) ?_
        refine lv_iconst (v := nI 3) hx hb dX0_letter_145 (by decide) ?_
        refine ax_icmp_ne (tgt := 157) hx hb (by omega) (by omega) dX0_letter_146 (by decide) (fun c_146 => ?_) (fun c_146 => ?_)
        · have c_4 : ud_len y = 4 := by omega
          have hq : ud_sh (ud_len y - 1) y < 16 := by
            rw [c_4]; exact Nat.lt_of_lt_of_le (ud_q4 hy) (by decide)
          have el : ud_ld (ud_len y) = 240 := by
            rw [c_4]; rfl
          have e2 : ud_lb b sz f y = ud_up (ud_tl (ud_len y - 1) f b y) f (240 + ud_sh (ud_len y - 1) y) := by
            unfold ud_lb
            rw [if_neg (by omega), el]
          refine lv_sipush (v := nI 240) hx hb dX0_letter_157 (by decide) ?_
          refine lv_iload_n hx hb dX0_letter_160 rfl (lv_at hl 3 rfl) ?_
          refine lv_ior hx hb dX0_letter_161 ?_
          refine ax_top (y := nI (240 + ud_sh (ud_len y - 1) y)) (ud_ors (k := 4) 15 hq) ?_
          refine lv_i2b (v := ud_sb (240 + ud_sh (ud_len y - 1) y)) hx hb dX0_letter_162 (rfl) ?_
          refine ax_bast hx hb hK hP hD hS 1 0 rfl rfl (by omega) (by omega) (g := ud_B (ud_up (ud_tl (ud_len y - 1) f b y) f (240 + ud_sh (ud_len y - 1) y))) (ud_stB _ _ _) dX0_letter_163 (fun H locs hP hD hS => ?_)
          have hP : va_P (dC, dI) vwCl [(oa, .inr (0, [.ref ta, .int (nI sz), .ref ua, .int mk])), (ta, .inl (kB, 128, .inl (ud_B (ud_up (ud_tl (ud_len y - 1) f b y) f (240 + ud_sh (ud_len y - 1) y)))))] H := hP
          have hD : va_D A [(oa, .inr (0, [.ref ta, .int (nI sz), .ref ua, .int mk])), (ta, .inl (kB, 128, .inl (ud_B (ud_up (ud_tl (ud_len y - 1) f b y) f (240 + ud_sh (ud_len y - 1) y)))))] := hD
          refine lv_iload hx hb dX0_letter_164 (lv_at hl 2 rfl) ?_
          have hP9 : va_P (dC, dI) vwCl [(oa, .inr (0, [.ref ta, .int (nI sz), .ref ua, .int mk])), (ta, .inl (kB, 128, .inl (ud_B (ud_lb b sz f y))))] H := by rw [e2]; exact hP.sub (ws' := [(oa, .inr (0, [.ref ta, .int (nI sz), .ref ua, .int mk])), (ta, .inl (kB, 128, .inl (ud_B (ud_up (ud_tl (ud_len y - 1) f b y) f (240 + ud_sh (ud_len y - 1) y)))))]) [0, 1] rfl
          have hD9 : va_D A [(oa, .inr (0, [.ref ta, .int (nI sz), .ref ua, .int mk])), (ta, .inl (kB, 128, .inl (ud_B (ud_lb b sz f y))))] := by rw [e2]; exact hD.sub (ws' := [(oa, .inr (0, [.ref ta, .int (nI sz), .ref ua, .int mk])), (ta, .inl (kB, 128, .inl (ud_B (ud_up (ud_tl (ud_len y - 1) f b y) f (240 + ud_sh (ud_len y - 1) y)))))]) [0, 1] (by decide) rfl
          exact W.iret (v := nI (ud_len y)) hx hb hr (fun t ht hW => ⟨⟨nI (ud_len y), (), rfl, (if_neg (by omega)).symm, ⟨by rw [ht]; exact hP9, hD9⟩⟩, hS.F ht⟩) hS.2.2 dX0_letter_166
        · have hq : ud_sh (ud_len y - 1) y < 32 := by
            rw [c_146]; exact Nat.lt_of_lt_of_le (ud_q3 c_146) (by decide)
          have el : ud_ld (ud_len y) = 224 := by
            rw [c_146]; rfl
          have e2 : ud_lb b sz f y = ud_up (ud_tl (ud_len y - 1) f b y) f (224 + ud_sh (ud_len y - 1) y) := by
            unfold ud_lb
            rw [if_neg (by omega), el]
          refine lv_sipush (v := nI 224) hx hb dX0_letter_149 (by decide) ?_
          refine lv_iload_n hx hb dX0_letter_152 rfl (lv_at hl 3 rfl) ?_
          refine lv_ior hx hb dX0_letter_153 ?_
          refine ax_top (y := nI (224 + ud_sh (ud_len y - 1) y)) (ud_ors (k := 5) 7 hq) ?_
          refine lv_goto (tgt := 162) hx hb dX0_letter_154 (by decide) ?_
          refine lv_i2b (v := ud_sb (224 + ud_sh (ud_len y - 1) y)) hx hb dX0_letter_162 (rfl) ?_
          refine ax_bast hx hb hK hP hD hS 1 0 rfl rfl (by omega) (by omega) (g := ud_B (ud_up (ud_tl (ud_len y - 1) f b y) f (224 + ud_sh (ud_len y - 1) y))) (ud_stB _ _ _) dX0_letter_163 (fun H locs hP hD hS => ?_)
          have hP : va_P (dC, dI) vwCl [(oa, .inr (0, [.ref ta, .int (nI sz), .ref ua, .int mk])), (ta, .inl (kB, 128, .inl (ud_B (ud_up (ud_tl (ud_len y - 1) f b y) f (224 + ud_sh (ud_len y - 1) y)))))] H := hP
          have hD : va_D A [(oa, .inr (0, [.ref ta, .int (nI sz), .ref ua, .int mk])), (ta, .inl (kB, 128, .inl (ud_B (ud_up (ud_tl (ud_len y - 1) f b y) f (224 + ud_sh (ud_len y - 1) y)))))] := hD
          refine lv_iload hx hb dX0_letter_164 (lv_at hl 2 rfl) ?_
          have hP9 : va_P (dC, dI) vwCl [(oa, .inr (0, [.ref ta, .int (nI sz), .ref ua, .int mk])), (ta, .inl (kB, 128, .inl (ud_B (ud_lb b sz f y))))] H := by rw [e2]; exact hP.sub (ws' := [(oa, .inr (0, [.ref ta, .int (nI sz), .ref ua, .int mk])), (ta, .inl (kB, 128, .inl (ud_B (ud_up (ud_tl (ud_len y - 1) f b y) f (224 + ud_sh (ud_len y - 1) y)))))]) [0, 1] rfl
          have hD9 : va_D A [(oa, .inr (0, [.ref ta, .int (nI sz), .ref ua, .int mk])), (ta, .inl (kB, 128, .inl (ud_B (ud_lb b sz f y))))] := by rw [e2]; exact hD.sub (ws' := [(oa, .inr (0, [.ref ta, .int (nI sz), .ref ua, .int mk])), (ta, .inl (kB, 128, .inl (ud_B (ud_up (ud_tl (ud_len y - 1) f b y) f (224 + ud_sh (ud_len y - 1) y)))))]) [0, 1] (by decide) rfl
          exact W.iret (v := nI (ud_len y)) hx hb hr (fun t ht hW => ⟨⟨nI (ud_len y), (), rfl, (if_neg (by omega)).symm, ⟨by rw [ht]; exact hP9, hD9⟩⟩, hS.F ht⟩) hS.2.2 dX0_letter_166
      · have hq : ud_sh (ud_len y - 1) y < 64 := by
          rw [c_132]; exact Nat.lt_of_lt_of_le (ud_q2 c_132) (by decide)
        have el : ud_ld (ud_len y) = 192 := by
          rw [c_132]; rfl
        have e2 : ud_lb b sz f y = ud_up (ud_tl (ud_len y - 1) f b y) f (192 + ud_sh (ud_len y - 1) y) := by
          unfold ud_lb
          rw [if_neg (by omega), el]
        refine lv_sipush (v := nI 192) hx hb dX0_letter_135 (by decide) ?_
        refine lv_iload_n hx hb dX0_letter_138 rfl (lv_at hl 3 rfl) ?_
        refine lv_ior hx hb dX0_letter_139 ?_
        refine ax_top (y := nI (192 + ud_sh (ud_len y - 1) y)) (ud_ors (k := 6) 3 hq) ?_
        refine lv_goto (tgt := 162) hx hb dX0_letter_140 (by decide) ?_
        refine lv_i2b (v := ud_sb (192 + ud_sh (ud_len y - 1) y)) hx hb dX0_letter_162 (rfl) ?_
        refine ax_bast hx hb hK hP hD hS 1 0 rfl rfl (by omega) (by omega) (g := ud_B (ud_up (ud_tl (ud_len y - 1) f b y) f (192 + ud_sh (ud_len y - 1) y))) (ud_stB _ _ _) dX0_letter_163 (fun H locs hP hD hS => ?_)
        have hP : va_P (dC, dI) vwCl [(oa, .inr (0, [.ref ta, .int (nI sz), .ref ua, .int mk])), (ta, .inl (kB, 128, .inl (ud_B (ud_up (ud_tl (ud_len y - 1) f b y) f (192 + ud_sh (ud_len y - 1) y)))))] H := hP
        have hD : va_D A [(oa, .inr (0, [.ref ta, .int (nI sz), .ref ua, .int mk])), (ta, .inl (kB, 128, .inl (ud_B (ud_up (ud_tl (ud_len y - 1) f b y) f (192 + ud_sh (ud_len y - 1) y)))))] := hD
        refine lv_iload hx hb dX0_letter_164 (lv_at hl 2 rfl) ?_
        have hP9 : va_P (dC, dI) vwCl [(oa, .inr (0, [.ref ta, .int (nI sz), .ref ua, .int mk])), (ta, .inl (kB, 128, .inl (ud_B (ud_lb b sz f y))))] H := by rw [e2]; exact hP.sub (ws' := [(oa, .inr (0, [.ref ta, .int (nI sz), .ref ua, .int mk])), (ta, .inl (kB, 128, .inl (ud_B (ud_up (ud_tl (ud_len y - 1) f b y) f (192 + ud_sh (ud_len y - 1) y)))))]) [0, 1] rfl
        have hD9 : va_D A [(oa, .inr (0, [.ref ta, .int (nI sz), .ref ua, .int mk])), (ta, .inl (kB, 128, .inl (ud_B (ud_lb b sz f y))))] := by rw [e2]; exact hD.sub (ws' := [(oa, .inr (0, [.ref ta, .int (nI sz), .ref ua, .int mk])), (ta, .inl (kB, 128, .inl (ud_B (ud_up (ud_tl (ud_len y - 1) f b y) f (192 + ud_sh (ud_len y - 1) y)))))]) [0, 1] (by decide) rfl
        exact W.iret (v := nI (ud_len y)) hx hb hr (fun t ht hW => ⟨⟨nI (ud_len y), (), rfl, (if_neg (by omega)).symm, ⟨by rw [ht]; exact hP9, hD9⟩⟩, hS.F ht⟩) hS.2.2 dX0_letter_166
    · have e2 : ud_lb b sz f y = ud_up b f y := by
        unfold ud_lb
        rw [if_neg (by omega), c_67]
        show ud_up b f (0 + y) = _
        rw [Nat.zero_add]
      refine lv_aload_n hx hb dX0_letter_70 rfl (lv_at hl 3 rfl) ?_
      refine va_get (D := (dC, dI)) (ci := 0) (v := .ref ta) (C := RX0) (T := TX0) (N := 4) hx hb hts in_X0 hown hK hP 0 rfl rfl 0 (by decide) (hts _ q17) (fun _ h9 => h9) rfl dX0_letter_71 ?_
      refine lv_iload hx hb dX0_letter_74 (lv_at hl 0 rfl) ?_
      refine lv_iload_n hx hb dX0_letter_76 rfl (lv_at hl 2 rfl) ?_
      refine lv_i2b (v := ud_sb y) hx hb dX0_letter_77 (rfl) ?_
      refine ax_bast hx hb hK hP hD hS 1 0 rfl rfl (by omega) (by omega) (g := ud_B (ud_up b f y)) (ud_stB _ _ _) dX0_letter_78 (fun H locs hP hD hS => ?_)
      have hP : va_P (dC, dI) vwCl [(oa, .inr (0, [.ref ta, .int (nI sz), .ref ua, .int mk])), (ta, .inl (kB, 128, .inl (ud_B (ud_up b f y))))] H := hP
      have hD : va_D A [(oa, .inr (0, [.ref ta, .int (nI sz), .ref ua, .int mk])), (ta, .inl (kB, 128, .inl (ud_B (ud_up b f y))))] := hD
      refine lv_goto (tgt := 164) hx hb dX0_letter_79 (by decide) ?_
      refine lv_iload hx hb dX0_letter_164 (lv_at hl 1 rfl) ?_
      have hP9 : va_P (dC, dI) vwCl [(oa, .inr (0, [.ref ta, .int (nI sz), .ref ua, .int mk])), (ta, .inl (kB, 128, .inl (ud_B (ud_lb b sz f y))))] H := by rw [e2]; exact hP.sub (ws' := [(oa, .inr (0, [.ref ta, .int (nI sz), .ref ua, .int mk])), (ta, .inl (kB, 128, .inl (ud_B (ud_up b f y))))]) [0, 1] rfl
      have hD9 : va_D A [(oa, .inr (0, [.ref ta, .int (nI sz), .ref ua, .int mk])), (ta, .inl (kB, 128, .inl (ud_B (ud_lb b sz f y))))] := by rw [e2]; exact hD.sub (ws' := [(oa, .inr (0, [.ref ta, .int (nI sz), .ref ua, .int mk])), (ta, .inl (kB, 128, .inl (ud_B (ud_up b f y))))]) [0, 1] (by decide) rfl
      exact W.iret (v := nI (ud_len y)) hx hb hr (fun t ht hW => ⟨⟨nI (ud_len y), (), rfl, (if_neg (by omega)).symm, ⟨by rw [ht]; exact hP9, hD9⟩⟩, hS.F ht⟩) hS.2.2 dX0_letter_166
  · have e2 : ud_lb b sz f y = b := if_pos c_59
    refine lv_iconst (v := (-1)) hx hb dX0_letter_62 (by decide) ?_
    have hP9 : va_P (dC, dI) vwCl [(oa, .inr (0, [.ref ta, .int (nI sz), .ref ua, .int mk])), (ta, .inl (kB, 128, .inl (ud_B (ud_lb b sz f y))))] H := by rw [e2]; exact hP.sub (ws' := [(oa, .inr (0, [.ref ta, .int (nI sz), .ref ua, .int mk])), (ta, .inl (kB, 128, .inl (ud_B b)))]) [0, 1] rfl
    have hD9 : va_D A [(oa, .inr (0, [.ref ta, .int (nI sz), .ref ua, .int mk])), (ta, .inl (kB, 128, .inl (ud_B (ud_lb b sz f y))))] := by rw [e2]; exact hD.sub (ws' := [(oa, .inr (0, [.ref ta, .int (nI sz), .ref ua, .int mk])), (ta, .inl (kB, 128, .inl (ud_B b)))]) [0, 1] (by decide) rfl
    exact W.iret (v := (-1)) hx hb hr (fun t ht hW => ⟨⟨(-1), (), rfl, (if_pos c_59).symm, ⟨by rw [ht]; exact hP9, hD9⟩⟩, hS.F ht⟩) hS.2.2 dX0_letter_63
set_option maxHeartbeats 4000000 in
set_option maxRecDepth 100000 in
theorem lo_X0_part {p : Program} {l : Launch} {e : Env} {R : Room} {s : State} {m : MethodId} {args : Array Value} {below : List Frame} {meth : Method} {c : Code} {cells slots : Nat} {Q : State → Prop} {dC : Nat → ClassId} {dI : Nat → Nat → Nat} {kB kC kI : ClassId} {A : Nat → Prop} (hx : p.tables.exec = Jvm.exec) (hb : c.code = cX0_part) (hml : c.maxLocals = 7) (hown : s.vm.findClass RX0 = some m.cls) (hts : ∀ w ∈ lw_all, w.before args s = true) (hK : va_K (dC, dI) vwCl (ud_T kB kC kI) s) (hA : ∀ q : Nat, s.heap.size ≤ q → A q) {oa ta ua sz f n za : Nat} {mk : Int32} {b : Nat → Nat} (hfn : f + n ≤ 128) (kk : ∀ (H : Heap) (locs : List Loc), va_P (dC, dI) vwCl [(oa, .inr (0, [.ref ta, .int (nI sz), .ref ua, .int mk])), (ta, .inl (kB, 128, .inl (ud_B b))), (za, .inl (kB, n, .inl (ud_B (ud_cp b f n))))] H → va_D A [(oa, .inr (0, [.ref ta, .int (nI sz), .ref ua, .int mk])), (ta, .inl (kB, 128, .inl (ud_B b))), (za, .inl (kB, n, .inl (ud_B (ud_cp b f n))))] → va_S A s.heap H locs → ∀ (ls : Array Slot), lv_has ls 7 [(6, .int (nI n)), (5, .ref za), (4, .int (nI n)), (3, .int (nI f)), (0, .ref oa)] → W p l e R s m args below meth c H locs cells slots Q (F0 m 50 ls [])) : ∀ (i j : Nat), j + i = n → ∀ (H : Heap) (locs : List Loc), va_P (dC, dI) vwCl [(oa, .inr (0, [.ref ta, .int (nI sz), .ref ua, .int mk])), (ta, .inl (kB, 128, .inl (ud_B b))), (za, .inl (kB, n, .inl (ud_B (ud_cp b f j))))] H → va_D A [(oa, .inr (0, [.ref ta, .int (nI sz), .ref ua, .int mk])), (ta, .inl (kB, 128, .inl (ud_B b))), (za, .inl (kB, n, .inl (ud_B (ud_cp b f j))))] → va_S A s.heap H locs → ∀ (ls : Array Slot), lv_has ls 7 [(6, .int (nI j)), (5, .ref za), (4, .int (nI n)), (3, .int (nI f)), (0, .ref oa)] → W p l e R s m args below meth c H locs cells slots Q (F0 m 23 ls []) := by
  intro i
  induction i with
  | zero =>
    intro j hj H locs hP hD hS ls hl
    obtain rfl : j = n := hj
    refine lv_iload hx hb dX0_part_23 (lv_at hl 0 rfl) ?_
    refine lv_iload hx hb dX0_part_25 (lv_at hl 2 rfl) ?_
    refine ax_icmp_ge (tgt := 50) hx hb (by omega) (by omega) dX0_part_27 (by decide) (fun c_27 => ?_) (fun c_27 => absurd c_27 (by omega))
    exact kk H locs hP hD hS ls hl
  | succ i ih =>
    intro j hj H locs hP hD hS ls hl
    refine lv_iload hx hb dX0_part_23 (lv_at hl 0 rfl) ?_
    refine lv_iload hx hb dX0_part_25 (lv_at hl 2 rfl) ?_
    refine ax_icmp_ge (tgt := 50) hx hb (by omega) (by omega) dX0_part_27 (by decide) (fun c_27 => absurd c_27 (by omega)) (fun c_27 => ?_)
    refine lv_aload hx hb dX0_part_30 (lv_at hl 1 rfl) ?_
    refine lv_iload hx hb dX0_part_32 (lv_at hl 0 rfl) ?_
    refine lv_aload_n hx hb dX0_part_34 rfl (lv_at hl 4 rfl) ?_
    refine va_get (D := (dC, dI)) (ci := 0) (v := .ref ta) (C := RX0) (T := TX0) (N := 4) hx hb hts in_X0 hown hK hP 0 rfl rfl 0 (by decide) (hts _ q17) (fun _ h9 => h9) rfl dX0_part_35 ?_
    refine lv_iload_n hx hb dX0_part_38 rfl (lv_at hl 3 rfl) ?_
    refine lv_iload hx hb dX0_part_39 (lv_at hl 0 rfl) ?_
    refine lv_iadd hx hb dX0_part_41 ?_
    refine ax_top (y := nI (f + j)) (nI_add _ _) ?_
    refine ax_bald hx hb hK hP 1 0 rfl rfl (by omega) (by omega) (v := ud_sb (b (f + j))) (rfl) dX0_part_42 ?_
    refine ax_bast hx hb hK hP hD hS 2 0 rfl rfl (by omega) (by omega) (g := ud_B (ud_cp b f (j + 1))) ((ud_stB _ _ _).trans (congrArg ud_B (ud_cp1 b f j))) dX0_part_43 (fun H locs hP hD hS => ?_)
    have hP : va_P (dC, dI) vwCl [(oa, .inr (0, [.ref ta, .int (nI sz), .ref ua, .int mk])), (ta, .inl (kB, 128, .inl (ud_B b))), (za, .inl (kB, n, .inl (ud_B (ud_cp b f (j + 1)))))] H := hP
    have hD : va_D A [(oa, .inr (0, [.ref ta, .int (nI sz), .ref ua, .int mk])), (ta, .inl (kB, 128, .inl (ud_B b))), (za, .inl (kB, n, .inl (ud_B (ud_cp b f (j + 1)))))] := hD
    refine lv_iinc (v := nI (j + 1)) (lv' := [(6, .int (nI (j + 1))), (5, .ref za), (4, .int (nI n)), (3, .int (nI f)), (0, .ref oa)]) hx hb dX0_part_44 hl (k := 0) rfl (ud_i1 _) (by decide) rfl (fun ls hl => ?_)
    refine lv_goto (tgt := 23) hx hb dX0_part_47 (by decide) ?_
    exact ih (j + 1) (by omega) H locs hP hD hS ls (lv_sub hl [0, 1, 2, 3, 4] rfl)
abbrev wsX0_part : List Cond := ws_ yX0_part cX0_part 7 (some (.array .byte))
set_option maxHeartbeats 4000000 in
set_option maxRecDepth 100000 in
/-- part(at, n) -/
theorem me_X0_part (l : Launch) (dC : Nat → ClassId) (dI : Nat → Nat → Nat) (kB kC kI : ClassId) (sz0 : Nat) (oa ta ua : Nat) (b : Nat → Nat) (sz : Nat) (mk : Int32) (x v : Int32) (f n : Nat) (ef : f = ud_m x % (sz + 1)) (en : n = ud_m v % (sz - f + 1)) (hsz : sz ≤ 128) : Met l yX0_part wsX0_part ({ frames := 1, cells := 1, slots := 128, locals := 22 } : Room) (va_Pc [.ref oa, .int x, .int v] (ud_P dC dI kB kC kI [(oa, .inr (0, [.ref ta, .int (nI sz), .ref ua, .int mk])), (ta, .inl (kB, 128, .inl (ud_B b)))] sz0)) (va_Qr (fun (_ : Unit) => True) (fun (_ : Unit) (a : Nat) (t : State) => va_P (dC, dI) vwCl [(oa, .inr (0, [.ref ta, .int (nI sz), .ref ua, .int mk])), (ta, .inl (kB, 128, .inl (ud_B b))), (a, .inl (kB, n, .inl (ud_B (fun i => b (f + i)))))] t.heap ∧ va_D (va_A [(oa, .inr (0, [.ref ta, .int (nI sz), .ref ua, .int mk])), (ta, .inl (kB, 128, .inl (ud_B b)))] sz0) [(oa, .inr (0, [.ref ta, .int (nI sz), .ref ua, .int mk])), (ta, .inl (kB, 128, .inl (ud_B b))), (a, .inl (kB, n, .inl (ud_B (fun i => b (f + i)))))]) (va_A [(oa, .inr (0, [.ref ta, .int (nI sz), .ref ua, .int mk])), (ta, .inl (kB, 128, .inl (ud_B b)))] sz0)) 1 128 (va_A [(oa, .inr (0, [.ref ta, .int (nI sz), .ref ua, .int mk])), (ta, .inl (kB, 128, .inl (ud_B b)))] sz0) := by
  refine Met.ofW (cc := cX0_part) (maxL := 7) (ret := some (.array .byte)) (by decide) rfl ?_
  intro p e s m args below meth c s₁ B hml hv
  obtain ⟨rfl, hsz, hP, hK, hD0⟩ := hv
  have hx := B.exec
  have hb := B.bytes
  have hr := B.returns
  have hts := atoms_spec (ws := wsX0_part) B.pre
  have hts : ∀ w ∈ lw_all, w.before _ s = true := fun w h => hts w (List.mem_cons_of_mem _ h)
  have hown : s.vm.findClass RX0 = some m.cls := findClass_of_methodNamed B.named
  have hlocks := B.notSynchronized
  subst hsz
  have hD := hD0.self (sz := s.heap.size)
  generalize hAe : va_A [(oa, .inr (0, [.ref ta, .int (nI sz), .ref ua, .int mk])), (ta, .inl (kB, 128, .inl (ud_B b)))] s.heap.size = A at hD ⊢
  have hA : ∀ q : Nat, s.heap.size ≤ q → A q := fun q h => by rw [← hAe]; exact Or.inr h
  have hS : va_S A s.heap s.heap [] := va_S.rf
  have hP : va_P (dC, dI) vwCl [(oa, .inr (0, [.ref ta, .int (nI sz), .ref ua, .int mk])), (ta, .inl (kB, 128, .inl (ud_B b)))] s.heap := hP
  have hl := lv_entry ([.ref oa, .int x, .int v]) (n := 7) (Nat.le_of_ble_eq_true rfl)
  rw [lg_entry_eq]
  generalize (lg_sl ([.ref oa, .int x, .int v]) ++ List.replicate (7 - (lg_sl ([.ref oa, .int x, .int v])).length) Slot.unset).toArray = ls at hl ⊢
  have hl : lv_has ls 7 [(0, .ref oa), (1, .int x), (2, .int v)] := hl
  have hf : f ≤ sz := by rw [ef]; exact Nat.le_of_lt_succ (Nat.mod_lt _ (Nat.succ_pos _))
  have hn : n ≤ sz - f := by rw [en]; exact Nat.le_of_lt_succ (Nat.mod_lt _ (Nat.succ_pos _))
  refine lv_aload_n hx hb dX0_part_0 rfl (lv_at hl 0 rfl) ?_
  refine lv_iload_n hx hb dX0_part_1 rfl (lv_at hl 1 rfl) ?_
  have hPc := hP.sub (ws' := [(oa, .inr (0, [.ref ta, .int (nI sz), .ref ua, .int mk]))]) [0] rfl
  have hDc := hD.sub (ws' := [(oa, .inr (0, [.ref ta, .int (nI sz), .ref ua, .int mk]))]) [0] (by decide) rfl
  have hFc := ud_fr hS hA
  refine va_calli (va_runV (As := [.int x]) (rest := []) ⟨hx, hb, hml, hown, hts⟩ (me_X0_from l dC dI kB kC kI s.heap.size oa ta ua sz mk x hsz) (cwV 1 hts (lw_V q43 q45 qs0 q6 q46) rfl rfl rfl (by decide +kernel) ⟨Nat.le_of_ble_eq_true rfl, Nat.le_of_ble_eq_true rfl⟩) ⟨ud_bl, va_recv hK hPc (ci := 0) (q0 := 0) rfl rfl, ud_pr hPc hDc hK⟩ rfl rfl hl.1 rfl (lv_room (Nat.le_of_ble_eq_true rfl)) dX0_part_2 ⟨Nat.le_of_ble_eq_true rfl, Nat.le_of_ble_eq_true rfl⟩) hS (fun q _ h => hFc q h) hFc (fun r_2 u t9 H1 locs ht hvm hw hB hz1 hk1 hS => ?_)
  have hP := ud_ro hP hk1
  clear hPc hDc
  generalize H1 = H at hP hS ⊢
  obtain rfl : r_2 = nI f := hw.trans (congrArg nI ef.symm)
  refine lv_istore_n (lv' := [(3, .int (nI f)), (0, .ref oa), (1, .int x), (2, .int v)]) hx hb dX0_part_5 rfl hl (by decide) rfl (fun ls hl => ?_)
  refine lv_aload_n hx hb dX0_part_6 rfl (lv_at hl 1 rfl) ?_
  refine lv_iload_n hx hb dX0_part_7 rfl (lv_at hl 0 rfl) ?_
  refine lv_iload_n hx hb dX0_part_8 rfl (lv_at hl 3 rfl) ?_
  have hPc := hP.sub (ws' := [(oa, .inr (0, [.ref ta, .int (nI sz), .ref ua, .int mk]))]) [0] rfl
  have hDc := hD.sub (ws' := [(oa, .inr (0, [.ref ta, .int (nI sz), .ref ua, .int mk]))]) [0] (by decide) rfl
  have hFc := ud_fr hS hA
  refine va_calli (va_runV (As := [.int (nI f), .int v]) (rest := []) ⟨hx, hb, hml, hown, hts⟩ (me_X0_count l dC dI kB kC kI H.size oa ta ua sz mk f v hsz hf) (cwV 2 hts (lw_V q56 q58 qs2 q6 q59) rfl rfl rfl (by decide +kernel) ⟨Nat.le_of_ble_eq_true rfl, Nat.le_of_ble_eq_true rfl⟩) ⟨ud_bl, va_recv hK hPc (ci := 0) (q0 := 0) rfl rfl, ud_pr hPc hDc hK⟩ rfl rfl hl.1 rfl (lv_room (Nat.le_of_ble_eq_true rfl)) dX0_part_9 ⟨Nat.le_of_ble_eq_true rfl, Nat.le_of_ble_eq_true rfl⟩) hS (fun q _ h => hFc q h) hFc (fun r_9 u t9 H1 locs ht hvm hw hB hz1 hk1 hS => ?_)
  have hP := ud_ro hP hk1
  clear hPc hDc
  generalize H1 = H at hP hS ⊢
  obtain rfl : r_9 = nI n := hw.trans (congrArg nI en.symm)
  refine lv_istore (lv' := [(4, .int (nI n)), (3, .int (nI f)), (0, .ref oa), (1, .int x), (2, .int v)]) hx hb dX0_part_12 hl (by decide) rfl (fun ls hl => ?_)
  refine lv_iload hx hb dX0_part_14 (lv_at hl 0 rfl) ?_
  refine ax_newa (atype := .byte) (ty := .byte) hx hb rfl (fun _ _ => rfl) rfl (by decide) (hts _ q30) hK 0 rfl hP hD hS hA (by omega) (Nat.le_of_ble_eq_true rfl) (by show 0 + n ≤ 128; omega) dX0_part_16 (fun za H hP hD hS => ?_)
  have e_16 : (fun _ => (0 : Int32)) = ud_B (ud_cp b f 0) := ud_cp0 b f
  rw [e_16] at hP hD
  have hP : va_P (dC, dI) vwCl [(oa, .inr (0, [.ref ta, .int (nI sz), .ref ua, .int mk])), (ta, .inl (kB, 128, .inl (ud_B b))), (za, .inl (kB, n, .inl (ud_B (ud_cp b f 0))))] H := hP
  have hD : va_D A [(oa, .inr (0, [.ref ta, .int (nI sz), .ref ua, .int mk])), (ta, .inl (kB, 128, .inl (ud_B b))), (za, .inl (kB, n, .inl (ud_B (ud_cp b f 0))))] := hD
  refine W.widen (k := 1) (n := 128) (by omega) (by omega) ?_
  refine lv_astore (lv' := [(5, .ref za), (4, .int (nI n)), (3, .int (nI f)), (0, .ref oa), (1, .int x), (2, .int v)]) hx hb dX0_part_18 hl (by decide) rfl (fun ls hl => ?_)
  refine lv_iconst (v := nI 0) hx hb dX0_part_20 (by decide) ?_
  refine lv_istore (lv' := [(6, .int (nI 0)), (5, .ref za), (4, .int (nI n)), (3, .int (nI f)), (0, .ref oa), (1, .int x), (2, .int v)]) hx hb dX0_part_21 hl (by decide) rfl (fun ls hl => ?_)
  refine lo_X0_part hx hb hml hown hts hK hA (by omega) (fun H locs hP hD hS ls hl => ?_) n 0 (Nat.zero_add n) H locs hP hD hS ls (lv_sub hl [0, 1, 2, 3, 4] rfl)
  refine lv_aload hx hb dX0_part_50 (lv_at hl 1 rfl) ?_
  have hP := ud_at hP 2 rfl (g := ud_B (fun i => b (f + i))) (fun j hj => by show ud_sb (ud_cp b f n j) = ud_sb (b (f + j)); rw [show ud_cp b f n j = b (f + j) from if_pos hj])
  have hD := ud_Dat hD 2 rfl (.inl (kB, n, .inl (ud_B (fun i => b (f + i)))))
  have hP : va_P (dC, dI) vwCl [(oa, .inr (0, [.ref ta, .int (nI sz), .ref ua, .int mk])), (ta, .inl (kB, 128, .inl (ud_B b))), (za, .inl (kB, n, .inl (ud_B (fun i => b (f + i)))))] H := hP
  have hD : va_D A [(oa, .inr (0, [.ref ta, .int (nI sz), .ref ua, .int mk])), (ta, .inl (kB, 128, .inl (ud_B b))), (za, .inl (kB, n, .inl (ud_B (fun i => b (f + i)))))] := hD
  have hP9 : va_P (dC, dI) vwCl [(oa, .inr (0, [.ref ta, .int (nI sz), .ref ua, .int mk])), (ta, .inl (kB, 128, .inl (ud_B b))), (za, .inl (kB, n, .inl (ud_B (fun i => b (f + i)))))] H := by exact hP.sub (ws' := [(oa, .inr (0, [.ref ta, .int (nI sz), .ref ua, .int mk])), (ta, .inl (kB, 128, .inl (ud_B b))), (za, .inl (kB, n, .inl (ud_B (fun i => b (f + i)))))]) [0, 1, 2] rfl
  have hD9 : va_D A [(oa, .inr (0, [.ref ta, .int (nI sz), .ref ua, .int mk])), (ta, .inl (kB, 128, .inl (ud_B b))), (za, .inl (kB, n, .inl (ud_B (fun i => b (f + i)))))] := by exact hD.sub (ws' := [(oa, .inr (0, [.ref ta, .int (nI sz), .ref ua, .int mk])), (ta, .inl (kB, 128, .inl (ud_B b))), (za, .inl (kB, n, .inl (ud_B (fun i => b (f + i)))))]) [0, 1, 2] (by decide) rfl
  exact W.aret hx hb hr (Or.inr ⟨_, rfl⟩) (Or.inr ⟨za, rfl⟩) (fun t ht hW => ⟨⟨(), za, rfl, trivial, ⟨by rw [ht]; exact hP9, hD9⟩⟩, hS.F ht⟩) hS.2.2 dX0_part_52
end
section
/-! UTF8.transcodeToUTF16 -/
set_option maxHeartbeats 4000000 in
set_option maxRecDepth 100000 in
theorem lo_X2_run {p : Program} {l : Launch} {e : Env} {R : Room} {s : State} {m : MethodId} {args : Array Value} {below : List Frame} {meth : Method} {c : Code} {cells slots : Nat} {Q : State → Prop} {dC : Nat → ClassId} {dI : Nat → Nat → Nat} {kB kC kI : ClassId} {A : Nat → Prop} (hx : p.tables.exec = Jvm.exec) (hb : c.code = cX2_transcodeToUTF16_2) (hml : c.maxLocals = 11) (hown : s.vm.findClass RX2 = some m.cls) (hts : ∀ w ∈ lw_all, w.before args s = true) (hK : va_K (dC, dI) vwCl (ud_T kB kC kI) s) (hA : ∀ q : Nat, s.heap.size ≤ q → A q) (hT : ud_S A s s.heap) {za xa n w j : Nat} {b : Nat → Nat} {acc : List Nat} (hb256 : ∀ i, b i < 256) (hn : n ≤ 128) {H : Heap} {locs : List Loc} (hP : va_P (dC, dI) vwCl [(za, .inl (kB, n, .inl (ud_B b))), (xa, .inl (kC, w, .inl (ud_L acc)))] H) (hS : va_S A s.heap H locs) : ∀ (k z i v : Nat) (u : Int32), ud_rk z ≤ k → z < 9 → i ≤ n → ∀ (ls : Array Slot), lv_has ls 11 [(4, .int (nI i)), (9, .int (nI v)), (10, .int ((ud_st z))), (7, .int u), (0, .ref za), (3, .ref xa), (5, .int (nI j)), (6, .int (nI n))] → (∀ (v2 i2 : Nat) (ls : Array Slot), ud_run b n k z v i = some (v2, i2) → lv_has ls 11 [(4, .int (nI i2)), (9, .int (nI v2)), (0, .ref za), (3, .ref xa), (5, .int (nI j)), (6, .int (nI n))] → W p l e R s m args below meth c H locs cells slots Q (F0 m 142 ls [])) → (ud_run b n k z v i = none → ∀ (ls : Array Slot) (pc : Nat), decode cX2_transcodeToUTF16_2 pc = .ok (.ireturn, 1) → W p l e R s m args below meth c H locs cells slots Q (F0 m pc ls [.int (-1)])) → W p l e R s m args below meth c H locs cells slots Q (F0 m 77 ls []) := by
  obtain ⟨t1, t2, hT1, hZ1, hT2, hZ2⟩ := hT
  intro k
  induction k with
  | zero =>
    intro z i v u hrk hz hi ls hl kk kf
    rcases ud_rk0 z hz (by omega) with rfl | rfl
    · refine lv_iload hx hb dX2_transcodeToUTF16_2_77 (lv_at hl 2 rfl) ?_
      refine lv_if_lt (tgt := 133) hx hb dX2_transcodeToUTF16_2_79 (by decide) (fun c_79 => ?_) (fun c_79 => absurd c_79 (fun c9 => c9 (by decide)))
      refine lv_iload hx hb dX2_transcodeToUTF16_2_133 (lv_at hl 2 rfl) ?_
      refine lv_bipush (v := (-2)) hx hb dX2_transcodeToUTF16_2_135 (by decide) ?_
      refine lv_icmp_ne (tgt := 142) hx hb dX2_transcodeToUTF16_2_137 (by decide) (fun c_137 => ?_) (fun c_137 => absurd c_137 (fun c9 => absurd c9 (by decide)))
      exact kk v i ls (ud_run7 _ _ _ _ _) (lv_sub hl [0, 1, 4, 5, 6, 7] rfl)
    · refine lv_iload hx hb dX2_transcodeToUTF16_2_77 (lv_at hl 2 rfl) ?_
      refine lv_if_lt (tgt := 133) hx hb dX2_transcodeToUTF16_2_79 (by decide) (fun c_79 => ?_) (fun c_79 => absurd c_79 (fun c9 => c9 (by decide)))
      refine lv_iload hx hb dX2_transcodeToUTF16_2_133 (lv_at hl 2 rfl) ?_
      refine lv_bipush (v := (-2)) hx hb dX2_transcodeToUTF16_2_135 (by decide) ?_
      refine lv_icmp_ne (tgt := 142) hx hb dX2_transcodeToUTF16_2_137 (by decide) (fun c_137 => absurd c_137 (fun c9 => c9 (by decide))) (fun c_137 => ?_)
      refine lv_iconst (v := (-1)) hx hb dX2_transcodeToUTF16_2_140 (by decide) ?_
      exact kf (ud_run8 _ _ _ _ _) ls 141 dX2_transcodeToUTF16_2_141
  | succ k ih =>
    intro z i v u hrk hz hi ls hl kk kf
    have h256 := hb256 i
    rcases (show z < 7 ∨ z = 7 ∨ z = 8 by omega) with hz7 | rfl | rfl
    · refine lv_iload hx hb dX2_transcodeToUTF16_2_77 (lv_at hl 2 rfl) ?_
      refine ax_top (y := nI (16 * z)) (if_pos hz7) ?_
      refine ax_if_lt (tgt := 133) hx hb (by omega) dX2_transcodeToUTF16_2_79 (by decide) ?_
      refine lv_iload hx hb dX2_transcodeToUTF16_2_82 (lv_at hl 0 rfl) ?_
      refine lv_iload hx hb dX2_transcodeToUTF16_2_84 (lv_at hl 7 rfl) ?_
      refine ax_icmp_lt (tgt := 91) hx hb (by omega) (by omega) dX2_transcodeToUTF16_2_86 (by decide) (fun c_86 => ?_) (fun c_86 => ?_)
      · have hq : b i / 16 < 16 := by omega
        refine lv_aload_n hx hb dX2_transcodeToUTF16_2_91 rfl (lv_at hl 4 rfl) ?_
        refine lv_iload hx hb dX2_transcodeToUTF16_2_92 (lv_at hl 0 rfl) ?_
        refine lv_iinc (v := nI (i + 1)) (lv' := [(4, .int (nI (i + 1))), (9, .int (nI v)), (10, .int ((ud_st z))), (7, .int u), (0, .ref za), (3, .ref xa), (5, .int (nI j)), (6, .int (nI n))]) hx hb dX2_transcodeToUTF16_2_94 hl (k := 0) rfl (ud_i1 _) (by decide) rfl (fun ls hl => ?_)
        refine ax_bald hx hb hK hP 0 0 rfl rfl (by omega) (by omega) (v := ud_sb (b i)) (rfl) dX2_transcodeToUTF16_2_97 ?_
        refine lv_istore (lv' := [(7, .int (ud_sb (b i))), (4, .int (nI (i + 1))), (9, .int (nI v)), (10, .int ((ud_st z))), (0, .ref za), (3, .ref xa), (5, .int (nI j)), (6, .int (nI n))]) hx hb dX2_transcodeToUTF16_2_98 hl (by decide) rfl (fun ls hl => ?_)
        refine lv_iload hx hb dX2_transcodeToUTF16_2_100 (lv_at hl 2 rfl) ?_
        refine lv_bipush (v := nI 6) hx hb dX2_transcodeToUTF16_2_102 (by decide) ?_
        refine lv_ishl hx hb dX2_transcodeToUTF16_2_104 ?_
        refine ax_top (y := nI (64 * v)) (ud_shl6 _) ?_
        refine lv_iload hx hb dX2_transcodeToUTF16_2_105 (lv_at hl 0 rfl) ?_
        refine lv_bipush (v := nI 63) hx hb dX2_transcodeToUTF16_2_107 (by decide) ?_
        refine lv_iand hx hb dX2_transcodeToUTF16_2_109 ?_
        refine ax_top (y := nI (b i % 64)) (ud_sb_63 _ h256) ?_
        refine lv_ior hx hb dX2_transcodeToUTF16_2_110 ?_
        refine ax_top (y := nI (64 * v + b i % 64)) (ud_ors (k := 6) v (Nat.mod_lt _ (by decide))) ?_
        refine lv_istore (lv' := [(9, .int (nI (64 * v + b i % 64))), (7, .int (ud_sb (b i))), (4, .int (nI (i + 1))), (10, .int ((ud_st z))), (0, .ref za), (3, .ref xa), (5, .int (nI j)), (6, .int (nI n))]) hx hb dX2_transcodeToUTF16_2_111 hl (by decide) rfl (fun ls hl => ?_)
        refine va_gets hx hb hZ2 hS hown (hts _ q68) (fun _ h9 => h9) dX2_transcodeToUTF16_2_113 ?_
        refine lv_iload hx hb dX2_transcodeToUTF16_2_116 (lv_at hl 3 rfl) ?_
        refine ax_top (y := nI (16 * z)) (if_pos hz7) ?_
        refine lv_iload hx hb dX2_transcodeToUTF16_2_118 (lv_at hl 1 rfl) ?_
        refine lv_sipush (v := nI 255) hx hb dX2_transcodeToUTF16_2_120 (by decide) ?_
        refine lv_iand hx hb dX2_transcodeToUTF16_2_123 ?_
        refine ax_top (y := nI (b i)) (ud_sb_255 _ h256) ?_
        refine lv_iconst (v := nI 4) hx hb dX2_transcodeToUTF16_2_124 (by decide) ?_
        refine lv_iushr (v := nI (b i / 16)) hx hb dX2_transcodeToUTF16_2_125 (pk_ushrN (by omega) (nI 4) 4 (by decide)) ?_
        refine lv_iadd hx hb dX2_transcodeToUTF16_2_126 ?_
        refine ax_top (y := nI ((16 * z) + (b i / 16))) (nI_add _ _) ?_
        refine ax_tb hx hb hT2 hS (by omega) (by omega) (v := (ud_st (ud_tt z (b i / 16)))) (congrArg Value.int (ud_tr_s z hz7 _ hq)) dX2_transcodeToUTF16_2_127 ?_
        refine lv_istore (lv' := [(10, .int ((ud_st (ud_tt z (b i / 16))))), (9, .int (nI (64 * v + b i % 64))), (7, .int (ud_sb (b i))), (4, .int (nI (i + 1))), (0, .ref za), (3, .ref xa), (5, .int (nI j)), (6, .int (nI n))]) hx hb dX2_transcodeToUTF16_2_128 hl (by decide) rfl (fun ls hl => ?_)
        refine lv_goto (tgt := 77) hx hb dX2_transcodeToUTF16_2_130 (by decide) ?_
        have ht9 := ud_tt_rk z hz7 _ hq
        exact ih (ud_tt z (b i / 16)) (i + 1) (64 * v + b i % 64) (ud_sb (b i)) (by omega) ht9.2 (by omega) ls (lv_sub hl [3, 1, 0, 2, 4, 5, 6, 7] rfl) (fun v2 i2 ls h => kk v2 i2 ls ((ud_run_go hz7 c_86).trans h)) (fun h => kf ((ud_run_go hz7 c_86).trans h))
      · refine lv_iconst (v := (-1)) hx hb dX2_transcodeToUTF16_2_89 (by decide) ?_
        exact kf (ud_run_out hz7 (by omega)) ls 90 dX2_transcodeToUTF16_2_90
    · refine lv_iload hx hb dX2_transcodeToUTF16_2_77 (lv_at hl 2 rfl) ?_
      refine lv_if_lt (tgt := 133) hx hb dX2_transcodeToUTF16_2_79 (by decide) (fun c_79 => ?_) (fun c_79 => absurd c_79 (fun c9 => c9 (by decide)))
      refine lv_iload hx hb dX2_transcodeToUTF16_2_133 (lv_at hl 2 rfl) ?_
      refine lv_bipush (v := (-2)) hx hb dX2_transcodeToUTF16_2_135 (by decide) ?_
      refine lv_icmp_ne (tgt := 142) hx hb dX2_transcodeToUTF16_2_137 (by decide) (fun c_137 => ?_) (fun c_137 => absurd c_137 (fun c9 => absurd c9 (by decide)))
      exact kk v i ls (ud_run7 _ _ _ _ _) (lv_sub hl [0, 1, 4, 5, 6, 7] rfl)
    · refine lv_iload hx hb dX2_transcodeToUTF16_2_77 (lv_at hl 2 rfl) ?_
      refine lv_if_lt (tgt := 133) hx hb dX2_transcodeToUTF16_2_79 (by decide) (fun c_79 => ?_) (fun c_79 => absurd c_79 (fun c9 => c9 (by decide)))
      refine lv_iload hx hb dX2_transcodeToUTF16_2_133 (lv_at hl 2 rfl) ?_
      refine lv_bipush (v := (-2)) hx hb dX2_transcodeToUTF16_2_135 (by decide) ?_
      refine lv_icmp_ne (tgt := 142) hx hb dX2_transcodeToUTF16_2_137 (by decide) (fun c_137 => absurd c_137 (fun c9 => c9 (by decide))) (fun c_137 => ?_)
      refine lv_iconst (v := (-1)) hx hb dX2_transcodeToUTF16_2_140 (by decide) ?_
      exact kf (ud_run8 _ _ _ _ _) ls 141 dX2_transcodeToUTF16_2_141
set_option maxHeartbeats 4000000 in
set_option maxRecDepth 100000 in
theorem lo_X2_main {p : Program} {l : Launch} {e : Env} {R : Room} {s : State} {m : MethodId} {args : Array Value} {below : List Frame} {meth : Method} {c : Code} {cells slots : Nat} {Q : State → Prop} {dC : Nat → ClassId} {dI : Nat → Nat → Nat} {kB kC kI : ClassId} {A : Nat → Prop} (hx : p.tables.exec = Jvm.exec) (hb : c.code = cX2_transcodeToUTF16_2) (hml : c.maxLocals = 11) (hown : s.vm.findClass RX2 = some m.cls) (hts : ∀ w ∈ lw_all, w.before args s = true) (hK : va_K (dC, dI) vwCl (ud_T kB kC kI) s) (hA : ∀ q : Nat, s.heap.size ≤ q → A q) (hT : ud_S A s s.heap) {za xa n w : Nat} {b : Nat → Nat} (hb256 : ∀ i, b i < 256) (hn : n ≤ 128) (hw9 : w ≤ 160) {O : Option (List Nat)} (kret : ∀ (pc : Nat) (r : Int32) (acc : List Nat), decode cX2_transcodeToUTF16_2 pc = .ok (.ireturn, 1) → ud_po O r acc → ∀ (H : Heap) (locs : List Loc), va_P (dC, dI) vwCl [(za, .inl (kB, n, .inl (ud_B b))), (xa, .inl (kC, w, .inl (ud_L acc)))] H → va_D A [(za, .inl (kB, n, .inl (ud_B b))), (xa, .inl (kC, w, .inl (ud_L acc)))] → va_S A s.heap H locs → ∀ (ls : Array Slot), W p l e R s m args below meth c H locs cells slots Q (F0 m pc ls [.int r])) : ∀ (k i : Nat) (acc : List Nat), i ≤ n → n < i + k → acc.length ≤ w → ud_res ((ud_all b n k i).map (fun l => acc ++ l)) w = O → ∀ (H : Heap) (locs : List Loc), va_P (dC, dI) vwCl [(za, .inl (kB, n, .inl (ud_B b))), (xa, .inl (kC, w, .inl (ud_L acc)))] H → va_D A [(za, .inl (kB, n, .inl (ud_B b))), (xa, .inl (kC, w, .inl (ud_L acc)))] → va_S A s.heap H locs → ∀ (ls : Array Slot), lv_has ls 11 [(4, .int (nI i)), (5, .int (nI acc.length)), (6, .int (nI n)), (3, .ref xa), (0, .ref za)] → W p l e R s m args below meth c H locs cells slots Q (F0 m 11 ls []) := by
  obtain ⟨t1, t2, hT1, hZ1, hT2, hZ2⟩ := id hT
  intro k
  induction k with
  | zero =>
    intro i acc hi hik
    exact absurd hik (by omega)
  | succ k ih =>
    intro i acc hi hik hacc hO H locs hP hD hS ls hl
    have h256 := hb256 i
    refine lv_iload hx hb dX2_transcodeToUTF16_2_11 (lv_at hl 0 rfl) ?_
    refine lv_iload hx hb dX2_transcodeToUTF16_2_13 (lv_at hl 2 rfl) ?_
    refine ax_icmp_ge (tgt := 218) hx hb (by omega) (by omega) dX2_transcodeToUTF16_2_15 (by decide) (fun c_15 => ?_) (fun c_15 => ?_)
    · have hO9 : O = some acc := by
        rw [← hO, ud_all_end c_15]
        show ud_res (some (acc ++ [])) w = _
        rw [List.append_nil]
        exact ud_res_fit hacc
      refine lv_iload hx hb dX2_transcodeToUTF16_2_218 (lv_at hl 1 rfl) ?_
      exact kret 220 _ acc dX2_transcodeToUTF16_2_220 (by rw [hO9]; exact ⟨rfl, fun l h => by cases h; rfl⟩) H locs hP hD hS ls
    · refine lv_aload_n hx hb dX2_transcodeToUTF16_2_18 rfl (lv_at hl 4 rfl) ?_
      refine lv_iload hx hb dX2_transcodeToUTF16_2_19 (lv_at hl 0 rfl) ?_
      refine lv_iinc (v := nI (i + 1)) (lv' := [(4, .int (nI (i + 1))), (5, .int (nI acc.length)), (6, .int (nI n)), (3, .ref xa), (0, .ref za)]) hx hb dX2_transcodeToUTF16_2_21 hl (k := 0) rfl (ud_i1 _) (by decide) rfl (fun ls hl => ?_)
      refine ax_bald hx hb hK hP 0 0 rfl rfl (by omega) (by omega) (v := ud_sb (b i)) (rfl) dX2_transcodeToUTF16_2_24 ?_
      refine lv_istore (lv' := [(7, .int (ud_sb (b i))), (4, .int (nI (i + 1))), (5, .int (nI acc.length)), (6, .int (nI n)), (3, .ref xa), (0, .ref za)]) hx hb dX2_transcodeToUTF16_2_25 hl (by decide) rfl (fun ls hl => ?_)
      refine lv_iload hx hb dX2_transcodeToUTF16_2_27 (lv_at hl 0 rfl) ?_
      refine lv_if_lt (tgt := 54) hx hb dX2_transcodeToUTF16_2_29 (by decide) (fun c_29 => ?_) (fun c_29 => ?_)
      · have h1 : 128 ≤ b i := (ud_sb_neg _ h256).mp c_29
        have hrk := ud_fs_rk (b i) h256
        refine va_gets hx hb hZ1 hS hown (hts _ q66) (fun _ h9 => h9) dX2_transcodeToUTF16_2_54 ?_
        refine lv_iload hx hb dX2_transcodeToUTF16_2_57 (lv_at hl 0 rfl) ?_
        refine lv_bipush (v := nI 127) hx hb dX2_transcodeToUTF16_2_59 (by decide) ?_
        refine lv_iand hx hb dX2_transcodeToUTF16_2_61 ?_
        refine ax_top (y := nI (b i % 128)) (ud_sb_127 _ h256) ?_
        refine ax_ts hx hb hT1 hS (by omega) (by omega) (v := ud_ft (b i % 128)) (rfl) dX2_transcodeToUTF16_2_62 ?_
        refine lv_istore (lv' := [(8, .int (ud_ft (b i % 128))), (7, .int (ud_sb (b i))), (4, .int (nI (i + 1))), (5, .int (nI acc.length)), (6, .int (nI n)), (3, .ref xa), (0, .ref za)]) hx hb dX2_transcodeToUTF16_2_63 hl (by decide) rfl (fun ls hl => ?_)
        refine lv_iload hx hb dX2_transcodeToUTF16_2_65 (lv_at hl 0 rfl) ?_
        refine lv_bipush (v := nI 8) hx hb dX2_transcodeToUTF16_2_67 (by decide) ?_
        refine lv_iushr (v := nI (ud_fc (b i))) hx hb dX2_transcodeToUTF16_2_69 (ud_ft_c _ h256 h1) ?_
        refine lv_istore (lv' := [(9, .int (nI (ud_fc (b i)))), (8, .int (ud_ft (b i % 128))), (7, .int (ud_sb (b i))), (4, .int (nI (i + 1))), (5, .int (nI acc.length)), (6, .int (nI n)), (3, .ref xa), (0, .ref za)]) hx hb dX2_transcodeToUTF16_2_70 hl (by decide) rfl (fun ls hl => ?_)
        refine lv_iload hx hb dX2_transcodeToUTF16_2_72 (lv_at hl 1 rfl) ?_
        refine lv_i2b (v := (ud_st (ud_fs (b i)))) hx hb dX2_transcodeToUTF16_2_74 (ud_ft_s _ h256 h1) ?_
        refine lv_istore (lv' := [(10, .int ((ud_st (ud_fs (b i))))), (9, .int (nI (ud_fc (b i)))), (8, .int (ud_ft (b i % 128))), (7, .int (ud_sb (b i))), (4, .int (nI (i + 1))), (5, .int (nI acc.length)), (6, .int (nI n)), (3, .ref xa), (0, .ref za)]) hx hb dX2_transcodeToUTF16_2_75 hl (by decide) rfl (fun ls hl => ?_)
        refine lo_X2_run hx hb hml hown hts hK hA hT hb256 hn hP hS 3 (ud_fs (b i)) (i + 1) (ud_fc (b i)) (ud_sb (b i)) hrk.1 hrk.2 (by omega) ls (lv_sub hl [4, 1, 0, 3, 8, 7, 5, 6] rfl) (fun v i2 ls hrun hl => ?_) (fun hrun ls pc hdec => ?_)
        · obtain ⟨d, hlt, rfl⟩ : ∃ d, ud_lt (b i) (b (i + 1)) (b (i + 2)) (b (i + 3)) (n - i) = some (v, d) ∧ i2 = i + d := by
            rw [ud_machine hb256 c_15 h1] at hrun
            cases h9 : ud_lt (b i) (b (i + 1)) (b (i + 2)) (b (i + 3)) (n - i) with
            | none => rw [h9] at hrun; cases hrun
            | some q => rw [h9] at hrun; cases hrun; exact ⟨q.2, rfl, rfl⟩
          obtain ⟨hd1, hd2, hd3, hv, hv4, -⟩ := ud_lt_ok (by omega) hlt
          rw [ud_all_go c_15 hlt, ud_map2] at hO
          refine lv_iload hx hb dX2_transcodeToUTF16_2_142 (lv_at hl 1 rfl) ?_
          refine lv_ldc (v := (65535 : Int32)) hx hb hown (hts _ q70) dX2_transcodeToUTF16_2_144 ?_
          refine ax_top (y := nI 65535) (by decide) ?_
          refine ax_icmp_gt (tgt := 171) hx hb (by omega) (by omega) dX2_transcodeToUTF16_2_146 (by decide) (fun c_146 => ?_) (fun c_146 => ?_)
          · rw [ud_un_2 c_146] at hO
            refine lv_iload hx hb dX2_transcodeToUTF16_2_171 (lv_at hl 4 rfl) ?_
            refine lv_aload_n hx hb dX2_transcodeToUTF16_2_173 rfl (lv_at hl 3 rfl) ?_
            refine ax_alen hx hb hK hP 1 1 rfl rfl dX2_transcodeToUTF16_2_174 ?_
            refine lv_iconst (v := nI 1) hx hb dX2_transcodeToUTF16_2_175 (by decide) ?_
            refine lv_isub hx hb dX2_transcodeToUTF16_2_176 ?_
            refine lv_icmp_lt (tgt := 182) hx hb dX2_transcodeToUTF16_2_177 (by decide) (fun c_177 => ?_) (fun c_177 => ?_)
            · have c9 : acc.length + 1 < w := (ud_ltm1 (by omega) (by omega)).mp c_177
              refine lv_aload_n hx hb dX2_transcodeToUTF16_2_182 rfl (lv_at hl 3 rfl) ?_
              refine lv_iload hx hb dX2_transcodeToUTF16_2_183 (lv_at hl 4 rfl) ?_
              refine lv_iinc (v := nI (acc.length + 1)) (lv' := [(5, .int (nI (acc.length + 1))), (4, .int (nI (i + d))), (9, .int (nI v)), (0, .ref za), (3, .ref xa), (6, .int (nI n))]) hx hb dX2_transcodeToUTF16_2_185 hl (k := 4) rfl (ud_i1 _) (by decide) rfl (fun ls hl => ?_)
              refine lv_ldc (v := (55232 : Int32)) hx hb hown (hts _ q71) dX2_transcodeToUTF16_2_188 ?_
              refine ax_top (y := nI 55232) (by decide) ?_
              refine lv_iload hx hb dX2_transcodeToUTF16_2_190 (lv_at hl 2 rfl) ?_
              refine lv_bipush (v := nI 10) hx hb dX2_transcodeToUTF16_2_192 (by decide) ?_
              refine lv_iushr (v := nI (v / 1024)) hx hb dX2_transcodeToUTF16_2_194 (pk_ushrN (by omega) (nI 10) 10 (by decide)) ?_
              refine lv_iadd hx hb dX2_transcodeToUTF16_2_195 ?_
              refine ax_top (y := nI (55232 + (v / 1024))) (nI_add _ _) ?_
              refine lv_i2c (v := nI (55232 + v / 1024)) hx hb dX2_transcodeToUTF16_2_196 (ud_chr (by omega)) ?_
              refine ax_cast hx hb hK hP hD hS 1 1 rfl rfl (by omega) (by omega) (g := ud_L (acc ++ [55232 + v / 1024])) (ud_LC _ (by omega)) dX2_transcodeToUTF16_2_197 (fun H locs hP hD hS => ?_)
              have hP : va_P (dC, dI) vwCl [(za, .inl (kB, n, .inl (ud_B b))), (xa, .inl (kC, w, .inl (ud_L (acc ++ [55232 + v / 1024]))))] H := hP
              have hD : va_D A [(za, .inl (kB, n, .inl (ud_B b))), (xa, .inl (kC, w, .inl (ud_L (acc ++ [55232 + v / 1024]))))] := hD
              refine lv_aload_n hx hb dX2_transcodeToUTF16_2_198 rfl (lv_at hl 4 rfl) ?_
              refine lv_iload hx hb dX2_transcodeToUTF16_2_199 (lv_at hl 0 rfl) ?_
              refine lv_iinc (v := nI (acc.length + 1 + 1)) (lv' := [(5, .int (nI (acc.length + 1 + 1))), (4, .int (nI (i + d))), (9, .int (nI v)), (0, .ref za), (3, .ref xa), (6, .int (nI n))]) hx hb dX2_transcodeToUTF16_2_201 hl (k := 0) rfl (ud_i1 _) (by decide) rfl (fun ls hl => ?_)
              refine lv_ldc (v := (56320 : Int32)) hx hb hown (hts _ q72) dX2_transcodeToUTF16_2_204 ?_
              refine ax_top (y := nI 56320) (by decide) ?_
              refine lv_iload hx hb dX2_transcodeToUTF16_2_206 (lv_at hl 2 rfl) ?_
              refine lv_sipush (v := nI 1023) hx hb dX2_transcodeToUTF16_2_208 (by decide) ?_
              refine lv_iand hx hb dX2_transcodeToUTF16_2_211 ?_
              refine ax_top (y := nI (v % 1024)) (pk_andN (by omega) 10 (by decide)) ?_
              refine lv_ior hx hb dX2_transcodeToUTF16_2_212 ?_
              refine ax_top (y := nI (56320 + v % 1024)) (ud_ors (k := 10) 55 (Nat.mod_lt _ (by decide))) ?_
              refine lv_i2c (v := nI (56320 + v % 1024)) hx hb dX2_transcodeToUTF16_2_213 (ud_chr (by omega)) ?_
              refine ax_cast hx hb hK hP hD hS 1 1 rfl rfl (by omega) (by omega) (g := ud_L (acc ++ [55232 + v / 1024, 56320 + v % 1024])) (ud_LC2 _ _ (by omega)) dX2_transcodeToUTF16_2_214 (fun H locs hP hD hS => ?_)
              have hP : va_P (dC, dI) vwCl [(za, .inl (kB, n, .inl (ud_B b))), (xa, .inl (kC, w, .inl (ud_L (acc ++ [55232 + v / 1024, 56320 + v % 1024]))))] H := hP
              have hD : va_D A [(za, .inl (kB, n, .inl (ud_B b))), (xa, .inl (kC, w, .inl (ud_L (acc ++ [55232 + v / 1024, 56320 + v % 1024]))))] := hD
              refine lv_goto (tgt := 11) hx hb dX2_transcodeToUTF16_2_215 (by decide) ?_
              have e9 : acc.length + 1 + 1 = (acc ++ [55232 + v / 1024, 56320 + v % 1024]).length := by simp
              refine ih (i + d) (acc ++ [55232 + v / 1024, 56320 + v % 1024]) (by omega) (by omega) (by rw [← e9]; omega) hO H locs hP hD hS ls ?_
              rw [← e9]
              exact lv_sub hl [1, 0, 5, 4, 3] rfl
            · have c9 : ¬ acc.length + 1 < w := fun q => c_177 ((ud_ltm1 (by omega) (by omega)).mpr q)
              have hO9 : O = none := hO.symm.trans (ud_res_over (by rw [List.length_append]; show w < acc.length + 2; omega))
              refine lv_iconst (v := (-1)) hx hb dX2_transcodeToUTF16_2_180 (by decide) ?_
              exact kret 181 (-1) acc dX2_transcodeToUTF16_2_181 (by rw [hO9]; exact ⟨rfl, fun l h => by cases h⟩) H locs hP hD hS ls
          · rw [ud_un_1 c_146] at hO
            refine lv_iload hx hb dX2_transcodeToUTF16_2_149 (lv_at hl 4 rfl) ?_
            refine lv_aload_n hx hb dX2_transcodeToUTF16_2_151 rfl (lv_at hl 3 rfl) ?_
            refine ax_alen hx hb hK hP 1 1 rfl rfl dX2_transcodeToUTF16_2_152 ?_
            refine ax_icmp_lt (tgt := 158) hx hb (by omega) (by omega) dX2_transcodeToUTF16_2_153 (by decide) (fun c_153 => ?_) (fun c_153 => ?_)
            · refine lv_aload_n hx hb dX2_transcodeToUTF16_2_158 rfl (lv_at hl 3 rfl) ?_
              refine lv_iload hx hb dX2_transcodeToUTF16_2_159 (lv_at hl 4 rfl) ?_
              refine lv_iinc (v := nI (acc.length + 1)) (lv' := [(5, .int (nI (acc.length + 1))), (4, .int (nI (i + d))), (9, .int (nI v)), (0, .ref za), (3, .ref xa), (6, .int (nI n))]) hx hb dX2_transcodeToUTF16_2_161 hl (k := 4) rfl (ud_i1 _) (by decide) rfl (fun ls hl => ?_)
              refine lv_iload hx hb dX2_transcodeToUTF16_2_164 (lv_at hl 2 rfl) ?_
              refine lv_i2c (v := nI v) hx hb dX2_transcodeToUTF16_2_166 (ud_chr (by omega)) ?_
              refine ax_cast hx hb hK hP hD hS 1 1 rfl rfl (by omega) (by omega) (g := ud_L (acc ++ [v])) (ud_LC _ (by omega)) dX2_transcodeToUTF16_2_167 (fun H locs hP hD hS => ?_)
              have hP : va_P (dC, dI) vwCl [(za, .inl (kB, n, .inl (ud_B b))), (xa, .inl (kC, w, .inl (ud_L (acc ++ [v]))))] H := hP
              have hD : va_D A [(za, .inl (kB, n, .inl (ud_B b))), (xa, .inl (kC, w, .inl (ud_L (acc ++ [v]))))] := hD
              refine lv_goto (tgt := 215) hx hb dX2_transcodeToUTF16_2_168 (by decide) ?_
              refine lv_goto (tgt := 11) hx hb dX2_transcodeToUTF16_2_215 (by decide) ?_
              have e9 : acc.length + 1 = (acc ++ [v]).length := by simp
              refine ih (i + d) (acc ++ [v]) (by omega) (by omega) (by rw [← e9]; omega) hO H locs hP hD hS ls ?_
              rw [← e9]
              exact lv_sub hl [1, 0, 5, 4, 3] rfl
            · have hO9 : O = none := hO.symm.trans (ud_res_over (by rw [List.length_append]; show w < acc.length + 1; omega))
              refine lv_iconst (v := (-1)) hx hb dX2_transcodeToUTF16_2_156 (by decide) ?_
              exact kret 157 (-1) acc dX2_transcodeToUTF16_2_157 (by rw [hO9]; exact ⟨rfl, fun l h => by cases h⟩) H locs hP hD hS ls
        · have hlt : ud_lt (b i) (b (i + 1)) (b (i + 2)) (b (i + 3)) (n - i) = none := by
            rw [ud_machine hb256 c_15 h1] at hrun
            cases h9 : ud_lt (b i) (b (i + 1)) (b (i + 2)) (b (i + 3)) (n - i) with
            | none => rfl
            | some q => rw [h9] at hrun; cases hrun
          have hO9 : O = none := by
            rw [← hO, ud_all_bad c_15 hlt]
            rfl
          exact kret pc (-1) acc hdec (by rw [hO9]; exact ⟨rfl, fun l h => by cases h⟩) H locs hP hD hS ls
      · have h1 : b i < 128 := Nat.lt_of_not_le (fun q => c_29 ((ud_sb_neg _ h256).mpr q))
        have hlt : ud_lt (b i) (b (i + 1)) (b (i + 2)) (b (i + 3)) (n - i) = some (b i, 1) := if_pos h1
        rw [ud_all_go c_15 hlt, ud_un_1 (by omega), ud_map2] at hO
        refine lv_iload hx hb dX2_transcodeToUTF16_2_32 (lv_at hl 2 rfl) ?_
        refine lv_aload_n hx hb dX2_transcodeToUTF16_2_34 rfl (lv_at hl 4 rfl) ?_
        refine ax_alen hx hb hK hP 1 1 rfl rfl dX2_transcodeToUTF16_2_35 ?_
        refine ax_icmp_lt (tgt := 41) hx hb (by omega) (by omega) dX2_transcodeToUTF16_2_36 (by decide) (fun c_36 => ?_) (fun c_36 => ?_)
        · refine lv_aload_n hx hb dX2_transcodeToUTF16_2_41 rfl (lv_at hl 4 rfl) ?_
          refine lv_iload hx hb dX2_transcodeToUTF16_2_42 (lv_at hl 2 rfl) ?_
          refine lv_iinc (v := nI (acc.length + 1)) (lv' := [(5, .int (nI (acc.length + 1))), (7, .int (ud_sb (b i))), (4, .int (nI (i + 1))), (6, .int (nI n)), (3, .ref xa), (0, .ref za)]) hx hb dX2_transcodeToUTF16_2_44 hl (k := 2) rfl (ud_i1 _) (by decide) rfl (fun ls hl => ?_)
          refine lv_iload hx hb dX2_transcodeToUTF16_2_47 (lv_at hl 1 rfl) ?_
          refine ax_top (y := nI (b i)) (ud_sb_pos _ h1) ?_
          refine lv_i2c (v := nI (b i)) hx hb dX2_transcodeToUTF16_2_49 (ud_chr (by omega)) ?_
          refine ax_cast hx hb hK hP hD hS 1 1 rfl rfl (by omega) (by omega) (g := ud_L (acc ++ [b i])) (ud_LC _ (by omega)) dX2_transcodeToUTF16_2_50 (fun H locs hP hD hS => ?_)
          have hP : va_P (dC, dI) vwCl [(za, .inl (kB, n, .inl (ud_B b))), (xa, .inl (kC, w, .inl (ud_L (acc ++ [b i]))))] H := hP
          have hD : va_D A [(za, .inl (kB, n, .inl (ud_B b))), (xa, .inl (kC, w, .inl (ud_L (acc ++ [b i]))))] := hD
          refine lv_goto (tgt := 11) hx hb dX2_transcodeToUTF16_2_51 (by decide) ?_
          have e9 : acc.length + 1 = (acc ++ [b i]).length := by simp
          refine ih (i + 1) (acc ++ [b i]) (by omega) (by omega) (by rw [← e9]; omega) hO H locs hP hD hS ls ?_
          rw [← e9]
          exact lv_sub hl [2, 0, 3, 4, 5] rfl
        · have hO9 : O = none := hO.symm.trans (ud_res_over (by rw [List.length_append]; show w < acc.length + 1; omega))
          refine lv_iconst (v := (-1)) hx hb dX2_transcodeToUTF16_2_39 (by decide) ?_
          exact kret 40 (-1) acc dX2_transcodeToUTF16_2_40 (by rw [hO9]; exact ⟨rfl, fun l h => by cases h⟩) H locs hP hD hS ls
abbrev wsX2_transcodeToUTF16_2 : List Cond := ws_ yX2_transcodeToUTF16_2 cX2_transcodeToUTF16_2 11 (some .int)
set_option maxHeartbeats 4000000 in
set_option maxRecDepth 100000 in
/-- transcodeToUTF16(utf8, off, len, utf16) -/
theorem me_X2_tr4 (l : Launch) (dC : Nat → ClassId) (dI : Nat → Nat → Nat) (kB kC kI : ClassId) (sz0 : Nat) (za xa n w : Nat) (b : Nat → Nat) (O : Option (List Nat)) (eO : O = ud_out b 0 n w) (hb256 : ∀ i, b i < 256) (hn : n ≤ 128) (hw9 : w ≤ 160) : Met l yX2_transcodeToUTF16_2 wsX2_transcodeToUTF16_2 ({ frames := 0, cells := 0, slots := 0, locals := 0 } : Room) (va_Pc [.ref za, .int (nI 0), .int (nI n), .ref xa] (ud_PT dC dI kB kC kI [(za, .inl (kB, n, .inl (ud_B b))), (xa, .inl (kC, w, .inl (ud_L ([]))))] sz0)) (va_Qi (fun (r : Int32) (acc : List Nat) => ud_po O r acc) (fun (acc : List Nat) (t : State) => va_P (dC, dI) vwCl [(za, .inl (kB, n, .inl (ud_B b))), (xa, .inl (kC, w, .inl (ud_L acc)))] t.heap ∧ va_D (va_A [(za, .inl (kB, n, .inl (ud_B b))), (xa, .inl (kC, w, .inl (ud_L ([]))))] sz0) [(za, .inl (kB, n, .inl (ud_B b))), (xa, .inl (kC, w, .inl (ud_L acc)))]) (va_A [(za, .inl (kB, n, .inl (ud_B b))), (xa, .inl (kC, w, .inl (ud_L ([]))))] sz0)) 0 0 (va_A [(za, .inl (kB, n, .inl (ud_B b))), (xa, .inl (kC, w, .inl (ud_L ([]))))] sz0) := by
  refine Met.ofW (cc := cX2_transcodeToUTF16_2) (maxL := 11) (ret := some .int) (by decide) rfl ?_
  intro p e s m args below meth c s₁ B hml hv
  obtain ⟨rfl, ⟨hsz, hP, hK, hD0⟩, hT⟩ := hv
  have hx := B.exec
  have hb := B.bytes
  have hr := B.returns
  have hts := atoms_spec (ws := wsX2_transcodeToUTF16_2) B.pre
  have hts : ∀ w ∈ lw_all, w.before _ s = true := fun w h => hts w (List.mem_cons_of_mem _ h)
  have hown : s.vm.findClass RX2 = some m.cls := findClass_of_methodNamed B.named
  have hlocks := B.notSynchronized
  subst hsz
  have hD := hD0.self (sz := s.heap.size)
  generalize hAe : va_A [(za, .inl (kB, n, .inl (ud_B b))), (xa, .inl (kC, w, .inl (ud_L ([]))))] s.heap.size = A at hD hT ⊢
  have hA : ∀ q : Nat, s.heap.size ≤ q → A q := fun q h => by rw [← hAe]; exact Or.inr h
  have hS : va_S A s.heap s.heap [] := va_S.rf
  have hP : va_P (dC, dI) vwCl [(za, .inl (kB, n, .inl (ud_B b))), (xa, .inl (kC, w, .inl (ud_L ([]))))] s.heap := hP
  have hl := lv_entry ([.ref za, .int (nI 0), .int (nI n), .ref xa]) (n := 11) (Nat.le_of_ble_eq_true rfl)
  rw [lg_entry_eq]
  generalize (lg_sl ([.ref za, .int (nI 0), .int (nI n), .ref xa]) ++ List.replicate (11 - (lg_sl ([.ref za, .int (nI 0), .int (nI n), .ref xa])).length) Slot.unset).toArray = ls at hl ⊢
  have hl : lv_has ls 11 [(0, .ref za), (1, .int (nI 0)), (2, .int (nI n)), (3, .ref xa)] := hl
  refine lv_iload_n hx hb dX2_transcodeToUTF16_2_0 rfl (lv_at hl 1 rfl) ?_
  refine lv_istore (lv' := [(4, .int (nI 0)), (0, .ref za), (1, .int (nI 0)), (2, .int (nI n)), (3, .ref xa)]) hx hb dX2_transcodeToUTF16_2_1 hl (by decide) rfl (fun ls hl => ?_)
  refine lv_iconst (v := nI 0) hx hb dX2_transcodeToUTF16_2_3 (by decide) ?_
  refine lv_istore (lv' := [(5, .int (nI 0)), (4, .int (nI 0)), (0, .ref za), (1, .int (nI 0)), (2, .int (nI n)), (3, .ref xa)]) hx hb dX2_transcodeToUTF16_2_4 hl (by decide) rfl (fun ls hl => ?_)
  refine lv_iload_n hx hb dX2_transcodeToUTF16_2_6 rfl (lv_at hl 3 rfl) ?_
  refine lv_iload_n hx hb dX2_transcodeToUTF16_2_7 rfl (lv_at hl 4 rfl) ?_
  refine lv_iadd hx hb dX2_transcodeToUTF16_2_8 ?_
  refine ax_top (y := nI n) ((nI_add _ _).trans (congrArg nI (Nat.zero_add n))) ?_
  refine lv_istore (lv' := [(6, .int (nI n)), (5, .int (nI 0)), (4, .int (nI 0)), (0, .ref za), (1, .int (nI 0)), (2, .int (nI n)), (3, .ref xa)]) hx hb dX2_transcodeToUTF16_2_9 hl (by decide) rfl (fun ls hl => ?_)
  refine lo_X2_main hx hb hml hown hts hK hA hT hb256 hn hw9 (O := O) (fun pc r acc hdec hpo H locs hP hD hS ls => ?_) (n + 1) 0 [] (Nat.zero_le n) (by omega) (Nat.zero_le w) (by rw [eO]; unfold ud_out; rw [Nat.zero_add]; congr 1; cases ud_all b n (n + 1) 0 <;> rfl) s.heap [] hP hD hS ls (lv_sub hl [2, 1, 0, 6, 3] rfl)
  exact W.iret (v := r) hx hb hr (fun t ht hW => ⟨⟨r, acc, rfl, hpo, ⟨by rw [ht]; exact hP, hD⟩⟩, hS.F ht⟩) hS.2.2 hdec
abbrev wsX2_transcodeToUTF16 : List Cond := ws_ yX2_transcodeToUTF16 cX2_transcodeToUTF16 2 (some .int)
set_option maxHeartbeats 4000000 in
set_option maxRecDepth 100000 in
/-- transcodeToUTF16(utf8, utf16) -/
theorem me_X2_tr2 (l : Launch) (dC : Nat → ClassId) (dI : Nat → Nat → Nat) (kB kC kI : ClassId) (sz0 : Nat) (za xa n w : Nat) (b : Nat → Nat) (O : Option (List Nat)) (eO : O = ud_out b 0 n w) (hb256 : ∀ i, b i < 256) (hn : n ≤ 128) (hw9 : w ≤ 160) : Met l yX2_transcodeToUTF16 wsX2_transcodeToUTF16 ({ frames := 1, cells := 0, slots := 0, locals := 30 } : Room) (va_Pc [.ref za, .ref xa] (ud_PT dC dI kB kC kI [(za, .inl (kB, n, .inl (ud_B b))), (xa, .inl (kC, w, .inl (ud_L ([]))))] sz0)) (va_Qi (fun (r : Int32) (acc : List Nat) => ud_po O r acc) (fun (acc : List Nat) (t : State) => va_P (dC, dI) vwCl [(za, .inl (kB, n, .inl (ud_B b))), (xa, .inl (kC, w, .inl (ud_L acc)))] t.heap ∧ va_D (va_A [(za, .inl (kB, n, .inl (ud_B b))), (xa, .inl (kC, w, .inl (ud_L ([]))))] sz0) [(za, .inl (kB, n, .inl (ud_B b))), (xa, .inl (kC, w, .inl (ud_L acc)))]) (va_A [(za, .inl (kB, n, .inl (ud_B b))), (xa, .inl (kC, w, .inl (ud_L ([]))))] sz0)) 0 0 (va_A [(za, .inl (kB, n, .inl (ud_B b))), (xa, .inl (kC, w, .inl (ud_L ([]))))] sz0) := by
  refine Met.ofW (cc := cX2_transcodeToUTF16) (maxL := 2) (ret := some .int) (by decide) rfl ?_
  intro p e s m args below meth c s₁ B hml hv
  obtain ⟨rfl, ⟨hsz, hP, hK, hD0⟩, hT⟩ := hv
  have hx := B.exec
  have hb := B.bytes
  have hr := B.returns
  have hts := atoms_spec (ws := wsX2_transcodeToUTF16) B.pre
  have hts : ∀ w ∈ lw_all, w.before _ s = true := fun w h => hts w (List.mem_cons_of_mem _ h)
  have hown : s.vm.findClass RX2 = some m.cls := findClass_of_methodNamed B.named
  have hlocks := B.notSynchronized
  subst hsz
  have hD := hD0.self (sz := s.heap.size)
  generalize hAe : va_A [(za, .inl (kB, n, .inl (ud_B b))), (xa, .inl (kC, w, .inl (ud_L ([]))))] s.heap.size = A at hD hT ⊢
  have hA : ∀ q : Nat, s.heap.size ≤ q → A q := fun q h => by rw [← hAe]; exact Or.inr h
  have hS : va_S A s.heap s.heap [] := va_S.rf
  have hP : va_P (dC, dI) vwCl [(za, .inl (kB, n, .inl (ud_B b))), (xa, .inl (kC, w, .inl (ud_L ([]))))] s.heap := hP
  have hl := lv_entry ([.ref za, .ref xa]) (n := 2) (Nat.le_of_ble_eq_true rfl)
  rw [lg_entry_eq]
  generalize (lg_sl ([.ref za, .ref xa]) ++ List.replicate (2 - (lg_sl ([.ref za, .ref xa])).length) Slot.unset).toArray = ls at hl ⊢
  have hl : lv_has ls 2 [(0, .ref za), (1, .ref xa)] := hl
  refine lv_aload_n hx hb dX2_transcodeToUTF16_0 rfl (lv_at hl 0 rfl) ?_
  refine lv_iconst (v := nI 0) hx hb dX2_transcodeToUTF16_1 (by decide) ?_
  refine lv_aload_n hx hb dX2_transcodeToUTF16_2 rfl (lv_at hl 0 rfl) ?_
  refine ax_alen hx hb hK hP 0 0 rfl rfl dX2_transcodeToUTF16_3 ?_
  refine lv_aload_n hx hb dX2_transcodeToUTF16_4 rfl (lv_at hl 1 rfl) ?_
  have hPc := hP.sub (ws' := [(za, .inl (kB, n, .inl (ud_B b))), (xa, .inl (kC, w, .inl (ud_L ([]))))]) [0, 1] rfl
  have hDc := hD.sub (ws' := [(za, .inl (kB, n, .inl (ud_B b))), (xa, .inl (kC, w, .inl (ud_L ([]))))]) [0, 1] (by decide) rfl
  have hFc := va_free (wc := [(za, .inl (kB, n, .inl (ud_B b))), (xa, .inl (kC, w, .inl (ud_L ([]))))]) hD hS hA [0, 1] rfl
  refine va_calli (va_runS (As := [.ref za, .int (nI 0), .int (nI n), .ref xa]) (rest := []) ⟨hx, hb, hml, hown, hts⟩ (me_X2_tr4 l dC dI kB kC kI s.heap.size za xa n w b O eO hb256 hn hw9) (va_cwS 4 hts (lw_S q63 q64 q8 q65) rfl rfl rfl (by decide +kernel) ⟨Nat.le_of_ble_eq_true rfl, Nat.le_of_ble_eq_true rfl⟩) ⟨ud_blT, ud_prT hPc hDc hK hT hS hFc⟩ rfl rfl hl.1 rfl (lv_room (Nat.le_of_ble_eq_true rfl)) dX2_transcodeToUTF16_5 ⟨Nat.le_of_ble_eq_true rfl, Nat.le_of_ble_eq_true rfl⟩) hS (fun q _ h => hFc q h) hFc (fun r_5 acc t9 H1 locs ht hvm hw hB hz1 hk1 hS => ?_)
  obtain ⟨hP1, hD1⟩ := hB
  rw [ht] at hP1
  obtain ⟨hP, hD⟩ := va_join (wc := [(za, .inl (kB, n, .inl (ud_B b))), (xa, .inl (kC, w, .inl (ud_L ([]))))]) (wr := []) (w1 := [(za, .inl (kB, n, .inl (ud_B b))), (xa, .inl (kC, w, .inl (ud_L acc)))]) hP hD [0, 1] [] rfl rfl (by decide) (by decide) hk1 hFc hP1 hD1
  clear hPc hDc
  generalize H1 = H at hP hS ⊢
  have hP : va_P (dC, dI) vwCl [(za, .inl (kB, n, .inl (ud_B b))), (xa, .inl (kC, w, .inl (ud_L acc)))] H := hP
  have hD : va_D A [(za, .inl (kB, n, .inl (ud_B b))), (xa, .inl (kC, w, .inl (ud_L acc)))] := hD
  have hP9 : va_P (dC, dI) vwCl [(za, .inl (kB, n, .inl (ud_B b))), (xa, .inl (kC, w, .inl (ud_L acc)))] H := by exact hP.sub (ws' := [(za, .inl (kB, n, .inl (ud_B b))), (xa, .inl (kC, w, .inl (ud_L acc)))]) [0, 1] rfl
  have hD9 : va_D A [(za, .inl (kB, n, .inl (ud_B b))), (xa, .inl (kC, w, .inl (ud_L acc)))] := by exact hD.sub (ws' := [(za, .inl (kB, n, .inl (ud_B b))), (xa, .inl (kC, w, .inl (ud_L acc)))]) [0, 1] (by decide) rfl
  exact W.iret (v := r_5) hx hb hr (fun t ht hW => ⟨⟨r_5, acc, rfl, hw, ⟨by rw [ht]; exact hP9, hD9⟩⟩, hS.F ht⟩) hS.2.2 dX2_transcodeToUTF16_8
/-! UtfDesk.turn -/
set_option maxHeartbeats 4000000 in
set_option maxRecDepth 100000 in
theorem lo_X0_turn {p : Program} {l : Launch} {e : Env} {R : Room} {s : State} {m : MethodId} {args : Array Value} {below : List Frame} {meth : Method} {c : Code} {cells slots : Nat} {Q : State → Prop} {dC : Nat → ClassId} {dI : Nat → Nat → Nat} {kB kC kI : ClassId} {A : Nat → Prop} (hx : p.tables.exec = Jvm.exec) (hb : c.code = cX0_turn) (hml : c.maxLocals = 7) (hown : s.vm.findClass RX0 = some m.cls) (hts : ∀ w ∈ lw_all, w.before args s = true) (hK : va_K (dC, dI) vwCl (ud_T kB kC kI) s) (hA : ∀ q : Nat, s.heap.size ≤ q → A q) {oa ta ua xa sz w : Nat} {b : Nat → Nat} {un : Nat → Int32} {acc : List Nat} (hw9 : w ≤ 160) (hacc : acc.length ≤ w) (hsm : ∀ x ∈ acc, x < 65536) (kk : ∀ (H : Heap) (locs : List Loc), va_P (dC, dI) vwCl [(oa, .inr (0, [.ref ta, .int (nI sz), .ref ua, .int (nI acc.length)])), (ta, .inl (kB, 128, .inl (ud_B b))), (ua, .inl (kC, 160, .inl (ud_ov acc acc.length un))), (xa, .inl (kC, w, .inl (ud_L acc)))] H → va_D A [(oa, .inr (0, [.ref ta, .int (nI sz), .ref ua, .int (nI acc.length)])), (ta, .inl (kB, 128, .inl (ud_B b))), (ua, .inl (kC, 160, .inl (ud_ov acc acc.length un))), (xa, .inl (kC, w, .inl (ud_L acc)))] → va_S A s.heap H locs → ∀ (ls : Array Slot), lv_has ls 7 [(6, .int (nI acc.length)), (5, .ref xa), (0, .ref oa)] → W p l e R s m args below meth c H locs cells slots Q (F0 m 61 ls [])) : ∀ (i j : Nat), j + i = acc.length → ∀ (H : Heap) (locs : List Loc), va_P (dC, dI) vwCl [(oa, .inr (0, [.ref ta, .int (nI sz), .ref ua, .int (nI acc.length)])), (ta, .inl (kB, 128, .inl (ud_B b))), (ua, .inl (kC, 160, .inl (ud_ov acc j un))), (xa, .inl (kC, w, .inl (ud_L acc)))] H → va_D A [(oa, .inr (0, [.ref ta, .int (nI sz), .ref ua, .int (nI acc.length)])), (ta, .inl (kB, 128, .inl (ud_B b))), (ua, .inl (kC, 160, .inl (ud_ov acc j un))), (xa, .inl (kC, w, .inl (ud_L acc)))] → va_S A s.heap H locs → ∀ (ls : Array Slot), lv_has ls 7 [(6, .int (nI j)), (5, .ref xa), (0, .ref oa)] → W p l e R s m args below meth c H locs cells slots Q (F0 m 34 ls []) := by
  intro i
  induction i with
  | zero =>
    intro j hj H locs hP hD hS ls hl
    obtain rfl : j = acc.length := hj
    refine lv_iload hx hb dX0_turn_34 (lv_at hl 0 rfl) ?_
    refine lv_aload_n hx hb dX0_turn_36 rfl (lv_at hl 2 rfl) ?_
    refine va_get (D := (dC, dI)) (ci := 0) (v := .int (nI acc.length)) (C := RX0) (T := TX0) (N := 4) hx hb hts in_X0 hown hK hP 0 rfl rfl 3 (by decide) (hts _ q20) (fun _ h9 => h9) rfl dX0_turn_37 ?_
    refine ax_icmp_ge (tgt := 61) hx hb (by omega) (by omega) dX0_turn_40 (by decide) (fun c_40 => ?_) (fun c_40 => absurd c_40 (by omega))
    exact kk H locs hP hD hS ls hl
  | succ i ih =>
    intro j hj H locs hP hD hS ls hl
    have hsj := ud_getlt hsm (by decide) j
    refine lv_iload hx hb dX0_turn_34 (lv_at hl 0 rfl) ?_
    refine lv_aload_n hx hb dX0_turn_36 rfl (lv_at hl 2 rfl) ?_
    refine va_get (D := (dC, dI)) (ci := 0) (v := .int (nI acc.length)) (C := RX0) (T := TX0) (N := 4) hx hb hts in_X0 hown hK hP 0 rfl rfl 3 (by decide) (hts _ q20) (fun _ h9 => h9) rfl dX0_turn_37 ?_
    refine ax_icmp_ge (tgt := 61) hx hb (by omega) (by omega) dX0_turn_40 (by decide) (fun c_40 => absurd c_40 (by omega)) (fun c_40 => ?_)
    refine lv_aload_n hx hb dX0_turn_43 rfl (lv_at hl 2 rfl) ?_
    refine va_get (D := (dC, dI)) (ci := 0) (v := .ref ua) (C := RX0) (T := TX0) (N := 4) hx hb hts in_X0 hown hK hP 0 rfl rfl 2 (by decide) (hts _ q19) (fun _ h9 => h9) rfl dX0_turn_44 ?_
    refine lv_iload hx hb dX0_turn_47 (lv_at hl 0 rfl) ?_
    refine lv_aload hx hb dX0_turn_49 (lv_at hl 1 rfl) ?_
    refine lv_iload hx hb dX0_turn_51 (lv_at hl 0 rfl) ?_
    refine ax_cald hx hb hK hP 3 1 rfl rfl (by omega) (by omega) (v := nI (acc.getD j 0)) (rfl) dX0_turn_53 ?_
    refine ax_cast hx hb hK hP hD hS 2 1 rfl rfl (by omega) (by omega) (g := (ud_ov acc (j + 1) un)) (by rw [ud_narC hsj, ud_ov1]) dX0_turn_54 (fun H locs hP hD hS => ?_)
    have hP : va_P (dC, dI) vwCl [(oa, .inr (0, [.ref ta, .int (nI sz), .ref ua, .int (nI acc.length)])), (ta, .inl (kB, 128, .inl (ud_B b))), (ua, .inl (kC, 160, .inl (ud_ov acc (j + 1) un))), (xa, .inl (kC, w, .inl (ud_L acc)))] H := hP
    have hD : va_D A [(oa, .inr (0, [.ref ta, .int (nI sz), .ref ua, .int (nI acc.length)])), (ta, .inl (kB, 128, .inl (ud_B b))), (ua, .inl (kC, 160, .inl (ud_ov acc (j + 1) un))), (xa, .inl (kC, w, .inl (ud_L acc)))] := hD
    refine lv_iinc (v := nI (j + 1)) (lv' := [(6, .int (nI (j + 1))), (5, .ref xa), (0, .ref oa)]) hx hb dX0_turn_55 hl (k := 0) rfl (ud_i1 _) (by decide) rfl (fun ls hl => ?_)
    refine lv_goto (tgt := 34) hx hb dX0_turn_58 (by decide) ?_
    exact ih (j + 1) (by omega) H locs hP hD hS ls (lv_sub hl [0, 1, 2] rfl)
abbrev wsX0_turn : List Cond := ws_ yX0_turn cX0_turn 7 (some .int)
set_option maxHeartbeats 4000000 in
set_option maxRecDepth 100000 in
/-- turn(at, n, room) -/
theorem me_X0_turn (l : Launch) (dC : Nat → ClassId) (dI : Nat → Nat → Nat) (kB kC kI : ClassId) (sz0 : Nat) (oa ta ua : Nat) (b : Nat → Nat) (sz : Nat) (mk : Int32) (un : Nat → Int32) (x v y : Int32) (f n w : Nat) (O : Option (List Nat)) (ef : f = ud_m x % (sz + 1)) (en : n = ud_m v % (sz - f + 1)) (ew : w = ud_m y % 161) (eO : O = ud_out b f n w) (hsz : sz ≤ 128) (hb256 : ∀ i, b i < 256) : Met l yX0_turn wsX0_turn ({ frames := 2, cells := 2, slots := 288, locals := 51 } : Room) (va_Pc [.ref oa, .int x, .int v, .int y] (ud_PT dC dI kB kC kI [(oa, .inr (0, [.ref ta, .int (nI sz), .ref ua, .int mk])), (ta, .inl (kB, 128, .inl (ud_B b))), (ua, .inl (kC, 160, .inl un))] sz0)) (va_Qi (fun (r : Int32) (g : Nat → Int32) => r = ud_md O ∧ ∀ l, O = some l → ∀ i, i < l.length → g i = nI (l.getD i 0)) (fun (g : Nat → Int32) (t : State) => va_P (dC, dI) vwCl [(oa, .inr (0, [.ref ta, .int (nI sz), .ref ua, .int ((ud_md O))])), (ta, .inl (kB, 128, .inl (ud_B b))), (ua, .inl (kC, 160, .inl g))] t.heap ∧ va_D (va_A [(oa, .inr (0, [.ref ta, .int (nI sz), .ref ua, .int mk])), (ta, .inl (kB, 128, .inl (ud_B b))), (ua, .inl (kC, 160, .inl un))] sz0) [(oa, .inr (0, [.ref ta, .int (nI sz), .ref ua, .int ((ud_md O))])), (ta, .inl (kB, 128, .inl (ud_B b))), (ua, .inl (kC, 160, .inl g))]) (va_A [(oa, .inr (0, [.ref ta, .int (nI sz), .ref ua, .int mk])), (ta, .inl (kB, 128, .inl (ud_B b))), (ua, .inl (kC, 160, .inl un))] sz0)) 2 288 (va_A [(oa, .inr (0, [.ref ta, .int (nI sz), .ref ua, .int mk])), (ta, .inl (kB, 128, .inl (ud_B b))), (ua, .inl (kC, 160, .inl un))] sz0) := by
  refine Met.ofW (cc := cX0_turn) (maxL := 7) (ret := some .int) (by decide) rfl ?_
  intro p e s m args below meth c s₁ B hml hv
  obtain ⟨rfl, ⟨hsz, hP, hK, hD0⟩, hT⟩ := hv
  have hx := B.exec
  have hb := B.bytes
  have hr := B.returns
  have hts := atoms_spec (ws := wsX0_turn) B.pre
  have hts : ∀ w ∈ lw_all, w.before _ s = true := fun w h => hts w (List.mem_cons_of_mem _ h)
  have hown : s.vm.findClass RX0 = some m.cls := findClass_of_methodNamed B.named
  have hlocks := B.notSynchronized
  subst hsz
  have hD := hD0.self (sz := s.heap.size)
  generalize hAe : va_A [(oa, .inr (0, [.ref ta, .int (nI sz), .ref ua, .int mk])), (ta, .inl (kB, 128, .inl (ud_B b))), (ua, .inl (kC, 160, .inl un))] s.heap.size = A at hD hT ⊢
  have hA : ∀ q : Nat, s.heap.size ≤ q → A q := fun q h => by rw [← hAe]; exact Or.inr h
  have hS : va_S A s.heap s.heap [] := va_S.rf
  have hP : va_P (dC, dI) vwCl [(oa, .inr (0, [.ref ta, .int (nI sz), .ref ua, .int mk])), (ta, .inl (kB, 128, .inl (ud_B b))), (ua, .inl (kC, 160, .inl un))] s.heap := hP
  have hl := lv_entry ([.ref oa, .int x, .int v, .int y]) (n := 7) (Nat.le_of_ble_eq_true rfl)
  rw [lg_entry_eq]
  generalize (lg_sl ([.ref oa, .int x, .int v, .int y]) ++ List.replicate (7 - (lg_sl ([.ref oa, .int x, .int v, .int y])).length) Slot.unset).toArray = ls at hl ⊢
  have hl : lv_has ls 7 [(0, .ref oa), (1, .int x), (2, .int v), (3, .int y)] := hl
  have hf : f ≤ sz := by rw [ef]; exact Nat.le_of_lt_succ (Nat.mod_lt _ (Nat.succ_pos _))
  have hn : n ≤ sz - f := by rw [en]; exact Nat.le_of_lt_succ (Nat.mod_lt _ (Nat.succ_pos _))
  have hw9 : w ≤ 160 := by rw [ew]; exact Nat.le_of_lt_succ (Nat.mod_lt _ (by decide))
  refine lv_aload_n hx hb dX0_turn_0 rfl (lv_at hl 0 rfl) ?_
  refine lv_iload_n hx hb dX0_turn_1 rfl (lv_at hl 1 rfl) ?_
  refine lv_iload_n hx hb dX0_turn_2 rfl (lv_at hl 2 rfl) ?_
  have hPc := hP.sub (ws' := [(oa, .inr (0, [.ref ta, .int (nI sz), .ref ua, .int mk])), (ta, .inl (kB, 128, .inl (ud_B b)))]) [0, 1] rfl
  have hDc := hD.sub (ws' := [(oa, .inr (0, [.ref ta, .int (nI sz), .ref ua, .int mk])), (ta, .inl (kB, 128, .inl (ud_B b)))]) [0, 1] (by decide) rfl
  have hFc := va_free (wc := [(oa, .inr (0, [.ref ta, .int (nI sz), .ref ua, .int mk])), (ta, .inl (kB, 128, .inl (ud_B b)))]) hD hS hA [0, 1] rfl
  refine va_callr (va_runV (As := [.int x, .int v]) (rest := []) ⟨hx, hb, hml, hown, hts⟩ (me_X0_part l dC dI kB kC kI s.heap.size oa ta ua b sz mk x v f n ef en hsz) (cwV 2 hts (lw_V q52 q54 qs1 q6 q55) rfl rfl rfl (by decide +kernel) ⟨Nat.le_of_ble_eq_true rfl, Nat.le_of_ble_eq_true rfl⟩) ⟨ud_bl, va_recv hK hPc (ci := 0) (q0 := 0) rfl rfl, ud_pr hPc hDc hK⟩ rfl rfl hl.1 rfl (lv_room (Nat.le_of_ble_eq_true rfl)) dX0_turn_3 ⟨Nat.le_of_ble_eq_true rfl, Nat.le_of_ble_eq_true rfl⟩) hS (fun q _ h => hFc q h) hFc (fun u za t9 H1 locs ht hvm hw hB hz1 hk1 hS => ?_)
  obtain ⟨hP1, hD1⟩ := hB
  rw [ht] at hP1
  obtain ⟨hP, hD⟩ := va_join (wc := [(oa, .inr (0, [.ref ta, .int (nI sz), .ref ua, .int mk])), (ta, .inl (kB, 128, .inl (ud_B b)))]) (wr := [(ua, .inl (kC, 160, .inl un))]) (w1 := [(oa, .inr (0, [.ref ta, .int (nI sz), .ref ua, .int mk])), (ta, .inl (kB, 128, .inl (ud_B b))), (za, .inl (kB, n, .inl (ud_B (fun i => b (f + i)))))]) hP hD [0, 1] [2] rfl rfl (by decide) (by decide) hk1 hFc hP1 hD1
  clear hPc hDc
  generalize H1 = H at hP hS ⊢
  have hP : va_P (dC, dI) vwCl [(ua, .inl (kC, 160, .inl un)), (oa, .inr (0, [.ref ta, .int (nI sz), .ref ua, .int mk])), (ta, .inl (kB, 128, .inl (ud_B b))), (za, .inl (kB, n, .inl (ud_B (fun i => b (f + i)))))] H := hP
  have hD : va_D A [(ua, .inl (kC, 160, .inl un)), (oa, .inr (0, [.ref ta, .int (nI sz), .ref ua, .int mk])), (ta, .inl (kB, 128, .inl (ud_B b))), (za, .inl (kB, n, .inl (ud_B (fun i => b (f + i)))))] := hD
  refine lv_astore (lv' := [(4, .ref za), (0, .ref oa), (1, .int x), (2, .int v), (3, .int y)]) hx hb dX0_turn_6 hl (by decide) rfl (fun ls hl => ?_)
  refine lv_iload_n hx hb dX0_turn_8 rfl (lv_at hl 4 rfl) ?_
  refine lv_ldc (v := (2147483647 : Int32)) hx hb hown (hts _ q47) dX0_turn_9 ?_
  refine lv_iand hx hb dX0_turn_11 ?_
  refine ax_top (y := nI (ud_m y)) (ud_and _) ?_
  have hm_11 := ud_m_lt y
  refine lv_sipush (v := nI 161) hx hb dX0_turn_12 (by decide) ?_
  refine ax_irem hx hb (by omega) (by omega) (by omega) dX0_turn_15 ?_
  refine ax_top (y := nI w) (congrArg nI ew.symm) ?_
  refine ax_newa (atype := .char) (ty := .char) hx hb rfl (fun _ _ => rfl) rfl (by decide) (hts _ q31) hK 1 rfl hP hD hS hA (by omega) (Nat.le_of_ble_eq_true rfl) (by show 128 + w ≤ 288; omega) dX0_turn_16 (fun xa H hP hD hS => ?_)
  have e_16 : (fun _ => (0 : Int32)) = ud_L [] := ud_L0
  rw [e_16] at hP hD
  have hP : va_P (dC, dI) vwCl [(ua, .inl (kC, 160, .inl un)), (oa, .inr (0, [.ref ta, .int (nI sz), .ref ua, .int mk])), (ta, .inl (kB, 128, .inl (ud_B b))), (za, .inl (kB, n, .inl (ud_B (fun i => b (f + i))))), (xa, .inl (kC, w, .inl (ud_L [])))] H := hP
  have hD : va_D A [(ua, .inl (kC, 160, .inl un)), (oa, .inr (0, [.ref ta, .int (nI sz), .ref ua, .int mk])), (ta, .inl (kB, 128, .inl (ud_B b))), (za, .inl (kB, n, .inl (ud_B (fun i => b (f + i))))), (xa, .inl (kC, w, .inl (ud_L [])))] := hD
  refine W.widen (k := 2) (n := 288) (by omega) (by omega) ?_
  refine lv_astore (lv' := [(5, .ref xa), (4, .ref za), (0, .ref oa), (1, .int x), (2, .int v), (3, .int y)]) hx hb dX0_turn_18 hl (by decide) rfl (fun ls hl => ?_)
  refine lv_aload_n hx hb dX0_turn_20 rfl (lv_at hl 2 rfl) ?_
  refine lv_aload hx hb dX0_turn_21 (lv_at hl 1 rfl) ?_
  refine lv_aload hx hb dX0_turn_23 (lv_at hl 0 rfl) ?_
  have hPc := hP.sub (ws' := [(za, .inl (kB, n, .inl (ud_B (fun i => b (f + i))))), (xa, .inl (kC, w, .inl (ud_L [])))]) [3, 4] rfl
  have hDc := hD.sub (ws' := [(za, .inl (kB, n, .inl (ud_B (fun i => b (f + i))))), (xa, .inl (kC, w, .inl (ud_L [])))]) [3, 4] (by decide) rfl
  have hFc := va_free (wc := [(za, .inl (kB, n, .inl (ud_B (fun i => b (f + i))))), (xa, .inl (kC, w, .inl (ud_L [])))]) hD hS hA [3, 4] rfl
  refine va_calli (va_runS (As := [.ref za, .ref xa]) (rest := [.ref oa]) ⟨hx, hb, hml, hown, hts⟩ (me_X2_tr2 l dC dI kB kC kI H.size za xa n w (fun i => b (f + i)) O (by rw [ud_out_shift]; exact eO) (fun i => hb256 (f + i)) (by omega) hw9) (va_cwS 2 hts (lw_S q60 q61 q8 q62) rfl rfl rfl (by decide +kernel) ⟨Nat.le_of_ble_eq_true rfl, Nat.le_of_ble_eq_true rfl⟩) ⟨ud_blT, ud_prT hPc hDc hK hT hS hFc⟩ rfl rfl hl.1 rfl (lv_room (Nat.le_of_ble_eq_true rfl)) dX0_turn_25 ⟨Nat.le_of_ble_eq_true rfl, Nat.le_of_ble_eq_true rfl⟩) hS (fun q _ h => hFc q h) hFc (fun r_25 acc t9 H1 locs ht hvm hw hB hz1 hk1 hS => ?_)
  obtain ⟨hP1, hD1⟩ := hB
  rw [ht] at hP1
  obtain ⟨hP, hD⟩ := va_join (wc := [(za, .inl (kB, n, .inl (ud_B (fun i => b (f + i))))), (xa, .inl (kC, w, .inl (ud_L [])))]) (wr := [(ua, .inl (kC, 160, .inl un)), (oa, .inr (0, [.ref ta, .int (nI sz), .ref ua, .int mk])), (ta, .inl (kB, 128, .inl (ud_B b)))]) (w1 := [(za, .inl (kB, n, .inl (ud_B (fun i => b (f + i))))), (xa, .inl (kC, w, .inl (ud_L acc)))]) hP hD [3, 4] [0, 1, 2] rfl rfl (by decide) (by decide) hk1 hFc hP1 hD1
  clear hPc hDc
  generalize H1 = H at hP hS ⊢
  have hP : va_P (dC, dI) vwCl [(ua, .inl (kC, 160, .inl un)), (oa, .inr (0, [.ref ta, .int (nI sz), .ref ua, .int mk])), (ta, .inl (kB, 128, .inl (ud_B b))), (za, .inl (kB, n, .inl (ud_B (fun i => b (f + i))))), (xa, .inl (kC, w, .inl (ud_L acc)))] H := hP
  have hD : va_D A [(ua, .inl (kC, 160, .inl un)), (oa, .inr (0, [.ref ta, .int (nI sz), .ref ua, .int mk])), (ta, .inl (kB, 128, .inl (ud_B b))), (za, .inl (kB, n, .inl (ud_B (fun i => b (f + i))))), (xa, .inl (kC, w, .inl (ud_L acc)))] := hD
  obtain ⟨hr9, hacc⟩ := hw
  subst hr9
  refine va_put (D := (dC, dI)) (ci := 0) (v := .int ((ud_md O))) (ty := .int) (C := RX0) (T := TX0) (N := 4) hx hb hts in_X0 tyX0 tyX0_ok nmX0 hown hK hP hD hS 1 rfl rfl 3 (by decide) (hts _ q20) (fun _ h9 => h9) rfl (by decide +kernel) rfl rfl (Nat.le_of_ble_eq_true rfl) dX0_turn_28 (fun H locs hP hD hS => ?_)
  have hP : va_P (dC, dI) vwCl [(ua, .inl (kC, 160, .inl un)), (oa, .inr (0, [.ref ta, .int (nI sz), .ref ua, .int ((ud_md O))])), (ta, .inl (kB, 128, .inl (ud_B b))), (za, .inl (kB, n, .inl (ud_B (fun i => b (f + i))))), (xa, .inl (kC, w, .inl (ud_L acc)))] H := hP
  have hD : va_D A [(ua, .inl (kC, 160, .inl un)), (oa, .inr (0, [.ref ta, .int (nI sz), .ref ua, .int ((ud_md O))])), (ta, .inl (kB, 128, .inl (ud_B b))), (za, .inl (kB, n, .inl (ud_B (fun i => b (f + i))))), (xa, .inl (kC, w, .inl (ud_L acc)))] := hD
  refine lv_iconst (v := nI 0) hx hb dX0_turn_31 (by decide) ?_
  refine lv_istore (lv' := [(6, .int (nI 0)), (5, .ref xa), (4, .ref za), (0, .ref oa), (1, .int x), (2, .int v), (3, .int y)]) hx hb dX0_turn_32 hl (by decide) rfl (fun ls hl => ?_)
  rcases O with _ | lo9
  · refine lv_iload hx hb dX0_turn_34 (lv_at hl 0 rfl) ?_
    refine lv_aload_n hx hb dX0_turn_36 rfl (lv_at hl 3 rfl) ?_
    refine va_get (D := (dC, dI)) (ci := 0) (v := .int ((ud_md none))) (C := RX0) (T := TX0) (N := 4) hx hb hts in_X0 hown hK hP 1 rfl rfl 3 (by decide) (hts _ q20) (fun _ h9 => h9) rfl dX0_turn_37 ?_
    refine lv_icmp_ge (tgt := 61) hx hb dX0_turn_40 (by decide) (fun c_40 => ?_) (fun c_40 => absurd c_40 (fun c9 => c9 (by decide)))
    refine lv_aload_n hx hb dX0_turn_61 rfl (lv_at hl 3 rfl) ?_
    refine va_get (D := (dC, dI)) (ci := 0) (v := .int ((ud_md none))) (C := RX0) (T := TX0) (N := 4) hx hb hts in_X0 hown hK hP 1 rfl rfl 3 (by decide) (hts _ q20) (fun _ h9 => h9) rfl dX0_turn_62 ?_
    have hP9 : va_P (dC, dI) vwCl [(oa, .inr (0, [.ref ta, .int (nI sz), .ref ua, .int ((ud_md none))])), (ta, .inl (kB, 128, .inl (ud_B b))), (ua, .inl (kC, 160, .inl un))] H := by exact hP.sub (ws' := [(oa, .inr (0, [.ref ta, .int (nI sz), .ref ua, .int ((ud_md none))])), (ta, .inl (kB, 128, .inl (ud_B b))), (ua, .inl (kC, 160, .inl un))]) [1, 2, 0] rfl
    have hD9 : va_D A [(oa, .inr (0, [.ref ta, .int (nI sz), .ref ua, .int ((ud_md none))])), (ta, .inl (kB, 128, .inl (ud_B b))), (ua, .inl (kC, 160, .inl un))] := by exact hD.sub (ws' := [(oa, .inr (0, [.ref ta, .int (nI sz), .ref ua, .int ((ud_md none))])), (ta, .inl (kB, 128, .inl (ud_B b))), (ua, .inl (kC, 160, .inl un))]) [1, 2, 0] (by decide) rfl
    exact W.iret (v := (ud_md none)) hx hb hr (fun t ht hW => ⟨⟨(ud_md none), un, rfl, ⟨rfl, fun l h => by cases h⟩, ⟨by rw [ht]; exact hP9, hD9⟩⟩, hS.F ht⟩) hS.2.2 dX0_turn_65
  · obtain rfl : acc = lo9 := hacc lo9 rfl
    have hl9 := ud_res_len eO.symm
    have hsm : ∀ x ∈ acc, x < 65536 := ud_all_lt _ _ _ _ _ hl9.2
    have hP := hP.sub (ws' := [(oa, .inr (0, [.ref ta, .int (nI sz), .ref ua, .int ((ud_md (some acc)))])), (ta, .inl (kB, 128, .inl (ud_B b))), (ua, .inl (kC, 160, .inl un)), (xa, .inl (kC, w, .inl (ud_L acc)))]) [1, 2, 0, 4] rfl
    have hD := hD.sub (ws' := [(oa, .inr (0, [.ref ta, .int (nI sz), .ref ua, .int ((ud_md (some acc)))])), (ta, .inl (kB, 128, .inl (ud_B b))), (ua, .inl (kC, 160, .inl un)), (xa, .inl (kC, w, .inl (ud_L acc)))]) [1, 2, 0, 4] (by decide) rfl
    rw [← ud_ov0 acc un] at hP hD
    have hP : va_P (dC, dI) vwCl [(oa, .inr (0, [.ref ta, .int (nI sz), .ref ua, .int (nI acc.length)])), (ta, .inl (kB, 128, .inl (ud_B b))), (ua, .inl (kC, 160, .inl (ud_ov acc 0 un))), (xa, .inl (kC, w, .inl (ud_L acc)))] H := hP
    have hD : va_D A [(oa, .inr (0, [.ref ta, .int (nI sz), .ref ua, .int (nI acc.length)])), (ta, .inl (kB, 128, .inl (ud_B b))), (ua, .inl (kC, 160, .inl (ud_ov acc 0 un))), (xa, .inl (kC, w, .inl (ud_L acc)))] := hD
    refine lo_X0_turn hx hb hml hown hts hK hA hw9 hl9.1 hsm (fun H locs hP hD hS ls hl => ?_) acc.length 0 (Nat.zero_add _) H _ hP hD hS ls (lv_sub hl [0, 1, 3] rfl)
    refine lv_aload_n hx hb dX0_turn_61 rfl (lv_at hl 2 rfl) ?_
    refine va_get (D := (dC, dI)) (ci := 0) (v := .int (nI acc.length)) (C := RX0) (T := TX0) (N := 4) hx hb hts in_X0 hown hK hP 0 rfl rfl 3 (by decide) (hts _ q20) (fun _ h9 => h9) rfl dX0_turn_62 ?_
    have hP9 : va_P (dC, dI) vwCl [(oa, .inr (0, [.ref ta, .int (nI sz), .ref ua, .int ((ud_md (some acc)))])), (ta, .inl (kB, 128, .inl (ud_B b))), (ua, .inl (kC, 160, .inl (ud_ov acc acc.length un)))] H := by exact hP.sub (ws' := [(oa, .inr (0, [.ref ta, .int (nI sz), .ref ua, .int (nI acc.length)])), (ta, .inl (kB, 128, .inl (ud_B b))), (ua, .inl (kC, 160, .inl (ud_ov acc acc.length un)))]) [0, 1, 2] rfl
    have hD9 : va_D A [(oa, .inr (0, [.ref ta, .int (nI sz), .ref ua, .int ((ud_md (some acc)))])), (ta, .inl (kB, 128, .inl (ud_B b))), (ua, .inl (kC, 160, .inl (ud_ov acc acc.length un)))] := by exact hD.sub (ws' := [(oa, .inr (0, [.ref ta, .int (nI sz), .ref ua, .int (nI acc.length)])), (ta, .inl (kB, 128, .inl (ud_B b))), (ua, .inl (kC, 160, .inl (ud_ov acc acc.length un)))]) [0, 1, 2] (by decide) rfl
    exact W.iret (v := nI acc.length) hx hb hr (fun t ht hW => ⟨⟨nI acc.length, (ud_ov acc acc.length un), rfl, ⟨rfl, fun l h i hi => by cases h; exact if_pos hi⟩, ⟨by rw [ht]; exact hP9, hD9⟩⟩, hS.F ht⟩) hS.2.2 dX0_turn_65
end
section
/-! UtfDeskModel: the short methods, put, letter -/
abbrev wsX1_begin : List Cond := ws_ yX1_begin cX1_begin 2 (some .int)
set_option maxHeartbeats 4000000 in
set_option maxRecDepth 100000 in
/-- begin(f) -/
theorem me_X1_begin (l : Launch) (dC : Nat → ClassId) (dI : Nat → Nat → Nat) (kB kC kI : ClassId) (sz0 : Nat) (oa ta ua sz : Nat) (f : Int32) (hsz : sz ≤ 128) : Met l yX1_begin wsX1_begin ({ frames := 0, cells := 0, slots := 0, locals := 0 } : Room) (va_Pc [.ref oa, .int f] (ud_P dC dI kB kC kI [(oa, .inr (1, [.ref ta, .int (nI sz), .ref ua]))] sz0)) (va_Qi (fun (r : Int32) (_ : Unit) => r = nI (ud_m f % (sz + 1))) (fun (_ : Unit) (_ : State) => True) (va_A [] sz0)) 0 0 (va_A [] sz0) := by
  refine Met.ofW (cc := cX1_begin) (maxL := 2) (ret := some .int) (by decide) rfl ?_
  intro p e s m args below meth c s₁ B hml hv
  obtain ⟨rfl, hsz, hP, hK, hD0⟩ := hv
  have hx := B.exec
  have hb := B.bytes
  have hr := B.returns
  have hts := atoms_spec (ws := wsX1_begin) B.pre
  have hts : ∀ w ∈ lw_all, w.before _ s = true := fun w h => hts w (List.mem_cons_of_mem _ h)
  have hown : s.vm.findClass RX1 = some m.cls := findClass_of_methodNamed B.named
  have hlocks := B.notSynchronized
  subst hsz
  have hD := hD0
  generalize hAe : va_A [] s.heap.size = A
  have hA : ∀ q : Nat, s.heap.size ≤ q → A q := fun q h => by rw [← hAe]; exact Or.inr h
  have hS : va_S A s.heap s.heap [] := va_S.rf
  have hP : va_P (dC, dI) vwCl [(oa, .inr (1, [.ref ta, .int (nI sz), .ref ua]))] s.heap := hP
  have hl := lv_entry ([.ref oa, .int f]) (n := 2) (Nat.le_of_ble_eq_true rfl)
  rw [lg_entry_eq]
  generalize (lg_sl ([.ref oa, .int f]) ++ List.replicate (2 - (lg_sl ([.ref oa, .int f])).length) Slot.unset).toArray = ls at hl ⊢
  have hl : lv_has ls 2 [(0, .ref oa), (1, .int f)] := hl
  refine lv_iload_n hx hb dX1_begin_0 rfl (lv_at hl 1 rfl) ?_
  refine lv_ldc (v := (2147483647 : Int32)) hx hb hown (hts _ q116) dX1_begin_1 ?_
  refine lv_iand hx hb dX1_begin_3 ?_
  refine ax_top (y := nI (ud_m f)) (ud_and _) ?_
  have hm_3 := ud_m_lt f
  refine lv_aload_n hx hb dX1_begin_4 rfl (lv_at hl 0 rfl) ?_
  refine va_get (D := (dC, dI)) (ci := 1) (v := .int (nI sz)) (C := RX1) (T := TX1) (N := 3) hx hb hts in_X1 hown hK hP 0 rfl rfl 1 (by decide) (hts _ q94) (fun _ h9 => h9) rfl dX1_begin_5 ?_
  refine lv_iconst (v := nI 1) hx hb dX1_begin_8 (by decide) ?_
  refine lv_iadd hx hb dX1_begin_9 ?_
  refine ax_top (y := nI (sz + 1)) (nI_add _ _) ?_
  refine ax_irem hx hb (by omega) (by omega) (by omega) dX1_begin_10 ?_
  exact W.iret (v := nI ((ud_m f) % (sz + 1))) hx hb hr (fun t ht hW => ⟨⟨nI ((ud_m f) % (sz + 1)), (), rfl, rfl, trivial⟩, hS.F ht⟩) hS.2.2 dX1_begin_11
abbrev wsX1_trim : List Cond := ws_ yX1_trim cX1_trim 2 none
set_option maxHeartbeats 4000000 in
set_option maxRecDepth 100000 in
/-- trim(n) -/
theorem me_X1_trim (l : Launch) (dC : Nat → ClassId) (dI : Nat → Nat → Nat) (kB kC kI : ClassId) (sz0 : Nat) (oa ta ua sz : Nat) (f : Int32) (hsz : sz ≤ 128) : Met l yX1_trim wsX1_trim ({ frames := 1, cells := 0, slots := 0, locals := 21 } : Room) (va_Pc [.ref oa, .int f] (ud_P dC dI kB kC kI [(oa, .inr (1, [.ref ta, .int (nI sz), .ref ua]))] sz0)) (va_Qv (fun (_ : Unit) => True) (fun (_ : Unit) (t : State) => va_P (dC, dI) vwCl [(oa, .inr (1, [.ref ta, .int (nI (ud_m f % (sz + 1))), .ref ua]))] t.heap ∧ va_D (va_A [(oa, .inr (1, [.ref ta, .int (nI sz), .ref ua]))] sz0) [(oa, .inr (1, [.ref ta, .int (nI (ud_m f % (sz + 1))), .ref ua]))]) (va_A [(oa, .inr (1, [.ref ta, .int (nI sz), .ref ua]))] sz0)) 0 0 (va_A [(oa, .inr (1, [.ref ta, .int (nI sz), .ref ua]))] sz0) := by
  refine Met.ofW (cc := cX1_trim) (maxL := 2) (ret := none) (by decide) rfl ?_
  intro p e s m args below meth c s₁ B hml hv
  obtain ⟨rfl, hsz, hP, hK, hD0⟩ := hv
  have hx := B.exec
  have hb := B.bytes
  have hr := B.returns
  have hts := atoms_spec (ws := wsX1_trim) B.pre
  have hts : ∀ w ∈ lw_all, w.before _ s = true := fun w h => hts w (List.mem_cons_of_mem _ h)
  have hown : s.vm.findClass RX1 = some m.cls := findClass_of_methodNamed B.named
  have hlocks := B.notSynchronized
  subst hsz
  have hD := hD0.self (sz := s.heap.size)
  generalize hAe : va_A [(oa, .inr (1, [.ref ta, .int (nI sz), .ref ua]))] s.heap.size = A at hD ⊢
  have hA : ∀ q : Nat, s.heap.size ≤ q → A q := fun q h => by rw [← hAe]; exact Or.inr h
  have hS : va_S A s.heap s.heap [] := va_S.rf
  have hP : va_P (dC, dI) vwCl [(oa, .inr (1, [.ref ta, .int (nI sz), .ref ua]))] s.heap := hP
  have hl := lv_entry ([.ref oa, .int f]) (n := 2) (Nat.le_of_ble_eq_true rfl)
  rw [lg_entry_eq]
  generalize (lg_sl ([.ref oa, .int f]) ++ List.replicate (2 - (lg_sl ([.ref oa, .int f])).length) Slot.unset).toArray = ls at hl ⊢
  have hl : lv_has ls 2 [(0, .ref oa), (1, .int f)] := hl
  refine lv_aload_n hx hb dX1_trim_0 rfl (lv_at hl 0 rfl) ?_
  refine lv_aload_n hx hb dX1_trim_1 rfl (lv_at hl 0 rfl) ?_
  refine lv_iload_n hx hb dX1_trim_2 rfl (lv_at hl 1 rfl) ?_
  have hPc := hP.sub (ws' := [(oa, .inr (1, [.ref ta, .int (nI sz), .ref ua]))]) [0] rfl
  have hDc := hD.sub (ws' := [(oa, .inr (1, [.ref ta, .int (nI sz), .ref ua]))]) [0] (by decide) rfl
  have hFc := ud_fr hS hA
  refine va_calli (va_runV (As := [.int f]) (rest := [.ref oa]) ⟨hx, hb, hml, hown, hts⟩ (me_X1_begin l dC dI kB kC kI s.heap.size oa ta ua sz f hsz) (cwV 1 hts (lw_V q112 q114 qs3 q7 q115) rfl rfl rfl (by decide +kernel) ⟨Nat.le_of_ble_eq_true rfl, Nat.le_of_ble_eq_true rfl⟩) ⟨ud_bl, va_recv hK hPc (ci := 1) (q0 := 0) rfl rfl, ud_pr hPc hDc hK⟩ rfl rfl hl.1 rfl (lv_room (Nat.le_of_ble_eq_true rfl)) dX1_trim_3 ⟨Nat.le_of_ble_eq_true rfl, Nat.le_of_ble_eq_true rfl⟩) hS (fun q _ h => hFc q h) hFc (fun r_3 u t9 H1 locs ht hvm hw hB hz1 hk1 hS => ?_)
  have hP := ud_ro hP hk1
  clear hPc hDc
  generalize H1 = H at hP hS ⊢
  obtain rfl : r_3 = nI (ud_m f % (sz + 1)) := hw
  refine va_put (D := (dC, dI)) (ci := 1) (v := .int (nI (ud_m f % (sz + 1)))) (ty := .int) (C := RX1) (T := TX1) (N := 3) hx hb hts in_X1 tyX1 tyX1_ok nmX1 hown hK hP hD hS 0 rfl rfl 1 (by decide) (hts _ q94) (fun _ h9 => h9) rfl (by decide +kernel) rfl rfl (Nat.le_of_ble_eq_true rfl) dX1_trim_6 (fun H locs hP hD hS => ?_)
  have hP : va_P (dC, dI) vwCl [(oa, .inr (1, [.ref ta, .int (nI (ud_m f % (sz + 1))), .ref ua]))] H := hP
  have hD : va_D A [(oa, .inr (1, [.ref ta, .int (nI (ud_m f % (sz + 1))), .ref ua]))] := hD
  have hP9 : va_P (dC, dI) vwCl [(oa, .inr (1, [.ref ta, .int (nI (ud_m f % (sz + 1))), .ref ua]))] H := by exact hP.sub (ws' := [(oa, .inr (1, [.ref ta, .int (nI (ud_m f % (sz + 1))), .ref ua]))]) [0] rfl
  have hD9 : va_D A [(oa, .inr (1, [.ref ta, .int (nI (ud_m f % (sz + 1))), .ref ua]))] := by exact hD.sub (ws' := [(oa, .inr (1, [.ref ta, .int (nI (ud_m f % (sz + 1))), .ref ua]))]) [0] (by decide) rfl
  exact W.vret hx hb hr (fun t ht hW => ⟨⟨(), rfl, trivial, ⟨by rw [ht]; exact hP9, hD9⟩⟩, hS.F ht⟩) hS.2.2 dX1_trim_9
abbrev wsX1_unit : List Cond := ws_ yX1_unit cX1_unit 2 (some .int)
set_option maxHeartbeats 4000000 in
set_option maxRecDepth 100000 in
/-- unit(i) -/
theorem me_X1_unit (l : Launch) (dC : Nat → ClassId) (dI : Nat → Nat → Nat) (kB kC kI : ClassId) (sz0 : Nat) (oa ta ua sz : Nat) (us : List Nat) (x : Int32) (hus : us.length ≤ 160) : Met l yX1_unit wsX1_unit ({ frames := 0, cells := 0, slots := 0, locals := 0 } : Room) (va_Pc [.ref oa, .int x] (ud_P dC dI kB kC kI [(oa, .inr (1, [.ref ta, .int (nI sz), .ref ua])), (ua, .inl (kI, us.length, .inl (ud_L us)))] sz0)) (va_Qi (fun (r : Int32) (_ : Unit) => r = if us.length = 0 then -1 else ud_L us (ud_m x % us.length)) (fun (_ : Unit) (_ : State) => True) (va_A [] sz0)) 0 0 (va_A [] sz0) := by
  refine Met.ofW (cc := cX1_unit) (maxL := 2) (ret := some .int) (by decide) rfl ?_
  intro p e s m args below meth c s₁ B hml hv
  obtain ⟨rfl, hsz, hP, hK, hD0⟩ := hv
  have hx := B.exec
  have hb := B.bytes
  have hr := B.returns
  have hts := atoms_spec (ws := wsX1_unit) B.pre
  have hts : ∀ w ∈ lw_all, w.before _ s = true := fun w h => hts w (List.mem_cons_of_mem _ h)
  have hown : s.vm.findClass RX1 = some m.cls := findClass_of_methodNamed B.named
  have hlocks := B.notSynchronized
  subst hsz
  have hD := hD0
  generalize hAe : va_A [] s.heap.size = A
  have hA : ∀ q : Nat, s.heap.size ≤ q → A q := fun q h => by rw [← hAe]; exact Or.inr h
  have hS : va_S A s.heap s.heap [] := va_S.rf
  have hP : va_P (dC, dI) vwCl [(oa, .inr (1, [.ref ta, .int (nI sz), .ref ua])), (ua, .inl (kI, us.length, .inl (ud_L us)))] s.heap := hP
  have hl := lv_entry ([.ref oa, .int x]) (n := 2) (Nat.le_of_ble_eq_true rfl)
  rw [lg_entry_eq]
  generalize (lg_sl ([.ref oa, .int x]) ++ List.replicate (2 - (lg_sl ([.ref oa, .int x])).length) Slot.unset).toArray = ls at hl ⊢
  have hl : lv_has ls 2 [(0, .ref oa), (1, .int x)] := hl
  refine lv_aload_n hx hb dX1_unit_0 rfl (lv_at hl 0 rfl) ?_
  refine va_get (D := (dC, dI)) (ci := 1) (v := .ref ua) (C := RX1) (T := TX1) (N := 3) hx hb hts in_X1 hown hK hP 0 rfl rfl 2 (by decide) (hts _ q95) (fun _ h9 => h9) rfl dX1_unit_1 ?_
  refine ax_alen hx hb hK hP 1 2 rfl rfl dX1_unit_4 ?_
  refine ax_if_ne (tgt := 12) hx hb (by omega) dX1_unit_5 (by decide) (fun c_5 => ?_) (fun c_5 => ?_)
  · have hu_ : ud_m x % us.length < us.length := Nat.mod_lt _ c_5
    refine lv_aload_n hx hb dX1_unit_12 rfl (lv_at hl 0 rfl) ?_
    refine va_get (D := (dC, dI)) (ci := 1) (v := .ref ua) (C := RX1) (T := TX1) (N := 3) hx hb hts in_X1 hown hK hP 0 rfl rfl 2 (by decide) (hts _ q95) (fun _ h9 => h9) rfl dX1_unit_13 ?_
    refine lv_iload_n hx hb dX1_unit_16 rfl (lv_at hl 1 rfl) ?_
    refine lv_ldc (v := (2147483647 : Int32)) hx hb hown (hts _ q116) dX1_unit_17 ?_
    refine lv_iand hx hb dX1_unit_19 ?_
    refine ax_top (y := nI (ud_m x)) (ud_and _) ?_
    have hm_19 := ud_m_lt x
    refine lv_aload_n hx hb dX1_unit_20 rfl (lv_at hl 0 rfl) ?_
    refine va_get (D := (dC, dI)) (ci := 1) (v := .ref ua) (C := RX1) (T := TX1) (N := 3) hx hb hts in_X1 hown hK hP 0 rfl rfl 2 (by decide) (hts _ q95) (fun _ h9 => h9) rfl dX1_unit_21 ?_
    refine ax_alen hx hb hK hP 1 2 rfl rfl dX1_unit_24 ?_
    refine ax_irem hx hb (by omega) (by omega) (by omega) dX1_unit_25 ?_
    refine ax_iald hx hb hK hP 1 2 rfl rfl (by omega) (by omega) (v := ud_L us (ud_m x % us.length)) (rfl) dX1_unit_26 ?_
    exact W.iret (v := ud_L us (ud_m x % us.length)) hx hb hr (fun t ht hW => ⟨⟨ud_L us (ud_m x % us.length), (), rfl, (if_neg (by omega)).symm, trivial⟩, hS.F ht⟩) hS.2.2 dX1_unit_27
  · refine lv_iconst (v := (-1)) hx hb dX1_unit_8 (by decide) ?_
    refine lv_goto (tgt := 27) hx hb dX1_unit_9 (by decide) ?_
    exact W.iret (v := (-1)) hx hb hr (fun t ht hW => ⟨⟨(-1), (), rfl, (if_pos c_5).symm, trivial⟩, hS.F ht⟩) hS.2.2 dX1_unit_27
abbrev wsX1_set : List Cond := ws_ yX1_set cX1_set 3 (some .boolean)
set_option maxHeartbeats 4000000 in
set_option maxRecDepth 100000 in
/-- set(at, v) -/
theorem me_X1_set (l : Launch) (dC : Nat → ClassId) (dI : Nat → Nat → Nat) (kB kC kI : ClassId) (sz0 : Nat) (oa ta ua : Nat) (b : Nat → Nat) (sz : Nat) (x v : Int32) (hsz : sz ≤ 128) : Met l yX1_set wsX1_set ({ frames := 0, cells := 0, slots := 0, locals := 0 } : Room) (va_Pc [.ref oa, .int x, .int v] (ud_P dC dI kB kC kI [(oa, .inr (1, [.ref ta, .int (nI sz), .ref ua])), (ta, .inl (kI, 128, .inl (ud_I b)))] sz0)) (va_Qi (fun (r : Int32) (_ : Unit) => r = ud_sv sz) (fun (_ : Unit) (t : State) => va_P (dC, dI) vwCl [(oa, .inr (1, [.ref ta, .int (nI sz), .ref ua])), (ta, .inl (kI, 128, .inl (ud_I (ud_sB b sz x v))))] t.heap ∧ va_D (va_A [(oa, .inr (1, [.ref ta, .int (nI sz), .ref ua])), (ta, .inl (kI, 128, .inl (ud_I b)))] sz0) [(oa, .inr (1, [.ref ta, .int (nI sz), .ref ua])), (ta, .inl (kI, 128, .inl (ud_I (ud_sB b sz x v))))]) (va_A [(oa, .inr (1, [.ref ta, .int (nI sz), .ref ua])), (ta, .inl (kI, 128, .inl (ud_I b)))] sz0)) 0 0 (va_A [(oa, .inr (1, [.ref ta, .int (nI sz), .ref ua])), (ta, .inl (kI, 128, .inl (ud_I b)))] sz0) := by
  refine Met.ofW (cc := cX1_set) (maxL := 3) (ret := some .boolean) (by decide) rfl ?_
  intro p e s m args below meth c s₁ B hml hv
  obtain ⟨rfl, hsz, hP, hK, hD0⟩ := hv
  have hx := B.exec
  have hb := B.bytes
  have hr := B.returns
  have hts := atoms_spec (ws := wsX1_set) B.pre
  have hts : ∀ w ∈ lw_all, w.before _ s = true := fun w h => hts w (List.mem_cons_of_mem _ h)
  have hown : s.vm.findClass RX1 = some m.cls := findClass_of_methodNamed B.named
  have hlocks := B.notSynchronized
  subst hsz
  have hD := hD0.self (sz := s.heap.size)
  generalize hAe : va_A [(oa, .inr (1, [.ref ta, .int (nI sz), .ref ua])), (ta, .inl (kI, 128, .inl (ud_I b)))] s.heap.size = A at hD ⊢
  have hA : ∀ q : Nat, s.heap.size ≤ q → A q := fun q h => by rw [← hAe]; exact Or.inr h
  have hS : va_S A s.heap s.heap [] := va_S.rf
  have hP : va_P (dC, dI) vwCl [(oa, .inr (1, [.ref ta, .int (nI sz), .ref ua])), (ta, .inl (kI, 128, .inl (ud_I b)))] s.heap := hP
  have hl := lv_entry ([.ref oa, .int x, .int v]) (n := 3) (Nat.le_of_ble_eq_true rfl)
  rw [lg_entry_eq]
  generalize (lg_sl ([.ref oa, .int x, .int v]) ++ List.replicate (3 - (lg_sl ([.ref oa, .int x, .int v])).length) Slot.unset).toArray = ls at hl ⊢
  have hl : lv_has ls 3 [(0, .ref oa), (1, .int x), (2, .int v)] := hl
  refine lv_aload_n hx hb dX1_set_0 rfl (lv_at hl 0 rfl) ?_
  refine va_get (D := (dC, dI)) (ci := 1) (v := .int (nI sz)) (C := RX1) (T := TX1) (N := 3) hx hb hts in_X1 hown hK hP 0 rfl rfl 1 (by decide) (hts _ q94) (fun _ h9 => h9) rfl dX1_set_1 ?_
  refine ax_if_ne (tgt := 9) hx hb (by omega) dX1_set_4 (by decide) (fun c_4 => ?_) (fun c_4 => ?_)
  · have hu_ : ud_m x % sz < sz := Nat.mod_lt _ c_4
    have e2 : ud_sB b sz x v = ud_up b (ud_m x % sz) (ud_by v 0) := if_neg (by omega)
    have e3 : nI 1 = ud_sv sz := (if_neg (by omega)).symm
    refine lv_aload_n hx hb dX1_set_9 rfl (lv_at hl 0 rfl) ?_
    refine va_get (D := (dC, dI)) (ci := 1) (v := .ref ta) (C := RX1) (T := TX1) (N := 3) hx hb hts in_X1 hown hK hP 0 rfl rfl 0 (by decide) (hts _ q93) (fun _ h9 => h9) rfl dX1_set_10 ?_
    refine lv_iload_n hx hb dX1_set_13 rfl (lv_at hl 1 rfl) ?_
    refine lv_ldc (v := (2147483647 : Int32)) hx hb hown (hts _ q116) dX1_set_14 ?_
    refine lv_iand hx hb dX1_set_16 ?_
    refine ax_top (y := nI (ud_m x)) (ud_and _) ?_
    have hm_16 := ud_m_lt x
    refine lv_aload_n hx hb dX1_set_17 rfl (lv_at hl 0 rfl) ?_
    refine va_get (D := (dC, dI)) (ci := 1) (v := .int (nI sz)) (C := RX1) (T := TX1) (N := 3) hx hb hts in_X1 hown hK hP 0 rfl rfl 1 (by decide) (hts _ q94) (fun _ h9 => h9) rfl dX1_set_18 ?_
    refine ax_irem hx hb (by omega) (by omega) (by omega) dX1_set_21 ?_
    refine lv_iload_n hx hb dX1_set_22 rfl (lv_at hl 2 rfl) ?_
    refine lv_sipush (v := nI 255) hx hb dX1_set_23 (by decide) ?_
    refine lv_iand hx hb dX1_set_26 ?_
    refine ax_top (y := nI (ud_by v 0)) (ud_and255 _) ?_
    refine ax_iast hx hb hK hP hD hS 1 2 rfl rfl (by omega) (by omega) (g := ud_I (ud_up b (ud_m x % sz) (ud_by v 0))) (ud_upI _ _ _) dX1_set_27 (fun H locs hP hD hS => ?_)
    have hP : va_P (dC, dI) vwCl [(oa, .inr (1, [.ref ta, .int (nI sz), .ref ua])), (ta, .inl (kI, 128, .inl (ud_I (ud_up b (ud_m x % sz) (ud_by v 0)))))] H := hP
    have hD : va_D A [(oa, .inr (1, [.ref ta, .int (nI sz), .ref ua])), (ta, .inl (kI, 128, .inl (ud_I (ud_up b (ud_m x % sz) (ud_by v 0)))))] := hD
    refine lv_iconst (v := nI 1) hx hb dX1_set_28 (by decide) ?_
    have hP9 : va_P (dC, dI) vwCl [(oa, .inr (1, [.ref ta, .int (nI sz), .ref ua])), (ta, .inl (kI, 128, .inl (ud_I (ud_sB b sz x v))))] H := by rw [e2]; exact hP.sub (ws' := [(oa, .inr (1, [.ref ta, .int (nI sz), .ref ua])), (ta, .inl (kI, 128, .inl (ud_I (ud_up b (ud_m x % sz) (ud_by v 0)))))]) [0, 1] rfl
    have hD9 : va_D A [(oa, .inr (1, [.ref ta, .int (nI sz), .ref ua])), (ta, .inl (kI, 128, .inl (ud_I (ud_sB b sz x v))))] := by rw [e2]; exact hD.sub (ws' := [(oa, .inr (1, [.ref ta, .int (nI sz), .ref ua])), (ta, .inl (kI, 128, .inl (ud_I (ud_up b (ud_m x % sz) (ud_by v 0)))))]) [0, 1] (by decide) rfl
    exact W.zret (v := nI 1) hx hb hr rfl (fun t ht hW => ⟨⟨nI 1, (), rfl, e3, ⟨by rw [ht]; exact hP9, hD9⟩⟩, hS.F ht⟩) hS.2.2 dX1_set_29
  · have e2 : ud_sB b sz x v = b := if_pos c_4
    have e3 : nI 0 = ud_sv sz := (if_pos c_4).symm
    refine lv_iconst (v := nI 0) hx hb dX1_set_7 (by decide) ?_
    have hP9 : va_P (dC, dI) vwCl [(oa, .inr (1, [.ref ta, .int (nI sz), .ref ua])), (ta, .inl (kI, 128, .inl (ud_I (ud_sB b sz x v))))] s.heap := by rw [e2]; exact hP.sub (ws' := [(oa, .inr (1, [.ref ta, .int (nI sz), .ref ua])), (ta, .inl (kI, 128, .inl (ud_I b)))]) [0, 1] rfl
    have hD9 : va_D A [(oa, .inr (1, [.ref ta, .int (nI sz), .ref ua])), (ta, .inl (kI, 128, .inl (ud_I (ud_sB b sz x v))))] := by rw [e2]; exact hD.sub (ws' := [(oa, .inr (1, [.ref ta, .int (nI sz), .ref ua])), (ta, .inl (kI, 128, .inl (ud_I b)))]) [0, 1] (by decide) rfl
    exact W.zret (v := nI 0) hx hb hr rfl (fun t ht hW => ⟨⟨nI 0, (), rfl, e3, ⟨by rw [ht]; exact hP9, hD9⟩⟩, hS.F ht⟩) hS.2.2 dX1_set_8
abbrev wsX1_init : List Cond := ws_ yX1_init cX1_init 1 none
set_option maxHeartbeats 4000000 in
set_option maxRecDepth 100000 in
/-- UtfDeskModel() -/
theorem me_X1_init (l : Launch) (dC : Nat → ClassId) (dI : Nat → Nat → Nat) (kB kC kI : ClassId) (sz0 : Nat) (oa : Nat) : Met l yX1_init wsX1_init ({ frames := 1, cells := 2, slots := 128, locals := 12 } : Room) (va_Pc [.ref oa] (ud_P dC dI kB kC kI [(oa, .inr (1, [.null, .int (nI 0), .null]))] sz0)) (va_Qv (fun (_ : Nat × Nat) => True) (fun (u : Nat × Nat) (t : State) => va_P (dC, dI) vwCl [(oa, .inr (1, [.ref u.1, .int (nI 0), .ref u.2])), (u.1, .inl (kI, 128, .inl (ud_I (fun _ => 0)))), (u.2, .inl (kI, ([] : List Nat).length, .inl (ud_L [])))] t.heap ∧ va_D (va_A [(oa, .inr (1, [.null, .int (nI 0), .null]))] sz0) [(oa, .inr (1, [.ref u.1, .int (nI 0), .ref u.2])), (u.1, .inl (kI, 128, .inl (ud_I (fun _ => 0)))), (u.2, .inl (kI, ([] : List Nat).length, .inl (ud_L [])))]) (va_A [(oa, .inr (1, [.null, .int (nI 0), .null]))] sz0)) 2 128 (va_A [(oa, .inr (1, [.null, .int (nI 0), .null]))] sz0) := by
  refine Met.ofW (cc := cX1_init) (maxL := 1) (ret := none) (by decide) rfl ?_
  intro p e s m args below meth c s₁ B hml hv
  obtain ⟨rfl, hsz, hP, hK, hD0⟩ := hv
  have hx := B.exec
  have hb := B.bytes
  have hr := B.returns
  have hts := atoms_spec (ws := wsX1_init) B.pre
  have hts : ∀ w ∈ lw_all, w.before _ s = true := fun w h => hts w (List.mem_cons_of_mem _ h)
  have hown : s.vm.findClass RX1 = some m.cls := findClass_of_methodNamed B.named
  have hlocks := B.notSynchronized
  have hin : meth.name = "<init>" := (name_of_methodNamed B.named B.method).1
  subst hsz
  have hD := hD0.self (sz := s.heap.size)
  generalize hAe : va_A [(oa, .inr (1, [.null, .int (nI 0), .null]))] s.heap.size = A at hD ⊢
  have hA : ∀ q : Nat, s.heap.size ≤ q → A q := fun q h => by rw [← hAe]; exact Or.inr h
  have hS : va_S A s.heap s.heap [] := va_S.rf
  have hP : va_P (dC, dI) vwCl [(oa, .inr (1, [.null, .int (nI 0), .null]))] s.heap := hP
  have hl := lv_entry ([.ref oa]) (n := 1) (Nat.le_of_ble_eq_true rfl)
  rw [lg_entry_eq]
  generalize (lg_sl ([.ref oa]) ++ List.replicate (1 - (lg_sl ([.ref oa])).length) Slot.unset).toArray = ls at hl ⊢
  have hl : lv_has ls 1 [(0, .ref oa)] := hl
  refine lv_aload_n hx hb dX1_init_0 rfl (lv_at hl 0 rfl) ?_
  refine W.objInit hx hb hown (hts _ q92) (hts _ q15) (hts _ q16) rfl (by rw [hml]; exact hl.1) rfl dX1_init_1 (Nat.le_of_ble_eq_true rfl) (Nat.le_of_ble_eq_true rfl) ?_
  refine W.eq (g2 := F0 m 4 ls []) rfl ?_
  refine lv_aload_n hx hb dX1_init_4 rfl (lv_at hl 0 rfl) ?_
  refine lv_sipush (v := nI 128) hx hb dX1_init_5 (by decide) ?_
  refine ax_newa (atype := .int) (ty := .int) hx hb rfl (fun _ _ => rfl) rfl (by decide) (hts _ q103) hK 2 rfl hP hD hS hA (by omega) (Nat.le_of_ble_eq_true rfl) (Nat.le_of_ble_eq_true rfl) dX1_init_8 (fun ta H hP hD hS => ?_)
  have e_8 : (fun _ => (0 : Int32)) = ud_I (fun _ => 0) := rfl
  rw [e_8] at hP hD
  have hP : va_P (dC, dI) vwCl [(oa, .inr (1, [.null, .int (nI 0), .null])), (ta, .inl (kI, 128, .inl (ud_I (fun _ => 0))))] H := hP
  have hD : va_D A [(oa, .inr (1, [.null, .int (nI 0), .null])), (ta, .inl (kI, 128, .inl (ud_I (fun _ => 0))))] := hD
  refine va_putF (D := (dC, dI)) (ci := 1) (v := .ref ta) (ty := .array .int) (C := RX1) (T := TX1) (N := 3) hx hb hts in_X1 tyX1 tyX1_ok nmX1 hown hK hP hD hS 0 rfl rfl 0 (by decide) (hts _ q93) (fun _ h9 => h9) rfl hin rfl (by decide +kernel) rfl rfl (Nat.le_of_ble_eq_true rfl) dX1_init_10 (fun H locs hP hD hS => ?_)
  have hP : va_P (dC, dI) vwCl [(oa, .inr (1, [.ref ta, .int (nI 0), .null])), (ta, .inl (kI, 128, .inl (ud_I (fun _ => 0))))] H := hP
  have hD : va_D A [(oa, .inr (1, [.ref ta, .int (nI 0), .null])), (ta, .inl (kI, 128, .inl (ud_I (fun _ => 0))))] := hD
  refine lv_aload_n hx hb dX1_init_13 rfl (lv_at hl 0 rfl) ?_
  refine lv_iconst (v := nI 0) hx hb dX1_init_14 (by decide) ?_
  refine ax_newa (atype := .int) (ty := .int) hx hb rfl (fun _ _ => rfl) rfl (by decide) (hts _ q103) hK 2 rfl hP hD hS hA (by omega) (Nat.le_of_ble_eq_true rfl) (Nat.le_of_ble_eq_true rfl) dX1_init_15 (fun ua H hP hD hS => ?_)
  have e_15 : (fun _ => (0 : Int32)) = ud_L [] := ud_L0
  rw [e_15] at hP hD
  have hP : va_P (dC, dI) vwCl [(oa, .inr (1, [.ref ta, .int (nI 0), .null])), (ta, .inl (kI, 128, .inl (ud_I (fun _ => 0)))), (ua, .inl (kI, 0, .inl (ud_L [])))] H := hP
  have hD : va_D A [(oa, .inr (1, [.ref ta, .int (nI 0), .null])), (ta, .inl (kI, 128, .inl (ud_I (fun _ => 0)))), (ua, .inl (kI, 0, .inl (ud_L [])))] := hD
  refine va_put (D := (dC, dI)) (ci := 1) (v := .ref ua) (ty := .array .int) (C := RX1) (T := TX1) (N := 3) hx hb hts in_X1 tyX1 tyX1_ok nmX1 hown hK hP hD hS 0 rfl rfl 2 (by decide) (hts _ q95) (fun _ h9 => h9) rfl (by decide +kernel) rfl rfl (Nat.le_of_ble_eq_true rfl) dX1_init_17 (fun H locs hP hD hS => ?_)
  have hP : va_P (dC, dI) vwCl [(oa, .inr (1, [.ref ta, .int (nI 0), .ref ua])), (ta, .inl (kI, 128, .inl (ud_I (fun _ => 0)))), (ua, .inl (kI, 0, .inl (ud_L [])))] H := hP
  have hD : va_D A [(oa, .inr (1, [.ref ta, .int (nI 0), .ref ua])), (ta, .inl (kI, 128, .inl (ud_I (fun _ => 0)))), (ua, .inl (kI, 0, .inl (ud_L [])))] := hD
  have hP9 : va_P (dC, dI) vwCl [(oa, .inr (1, [.ref ta, .int (nI 0), .ref ua])), (ta, .inl (kI, 128, .inl (ud_I (fun _ => 0)))), (ua, .inl (kI, ([] : List Nat).length, .inl (ud_L [])))] H := by exact hP.sub (ws' := [(oa, .inr (1, [.ref ta, .int (nI 0), .ref ua])), (ta, .inl (kI, 128, .inl (ud_I (fun _ => 0)))), (ua, .inl (kI, 0, .inl (ud_L [])))]) [0, 1, 2] rfl
  have hD9 : va_D A [(oa, .inr (1, [.ref ta, .int (nI 0), .ref ua])), (ta, .inl (kI, 128, .inl (ud_I (fun _ => 0)))), (ua, .inl (kI, ([] : List Nat).length, .inl (ud_L [])))] := by exact hD.sub (ws' := [(oa, .inr (1, [.ref ta, .int (nI 0), .ref ua])), (ta, .inl (kI, 128, .inl (ud_I (fun _ => 0)))), (ua, .inl (kI, 0, .inl (ud_L [])))]) [0, 1, 2] (by decide) rfl
  exact W.vret hx hb hr (fun t ht hW => ⟨⟨(ta, ua), rfl, trivial, ⟨by rw [ht]; exact hP9, hD9⟩⟩, hS.F ht⟩) hS.2.2 dX1_init_20
set_option maxHeartbeats 4000000 in
set_option maxRecDepth 100000 in
theorem lo_X1_put {p : Program} {l : Launch} {e : Env} {R : Room} {s : State} {m : MethodId} {args : Array Value} {below : List Frame} {meth : Method} {c : Code} {cells slots : Nat} {Q : State → Prop} {dC : Nat → ClassId} {dI : Nat → Nat → Nat} {kB kC kI : ClassId} {A : Nat → Prop} (hx : p.tables.exec = Jvm.exec) (hb : c.code = cX1_put) (hml : c.maxLocals = 11) (hown : s.vm.findClass RX1 = some m.cls) (hts : ∀ w ∈ lw_all, w.before args s = true) (hK : va_K (dC, dI) vwCl (ud_T kB kC kI) s) (hA : ∀ q : Nat, s.heap.size ≤ q → A q) {oa ta ua wa z j9 : Nat} {x : Int32} {g : Nat → Int32} {T : Nat → Nat} (kk : ∀ (H : Heap) (locs : List Loc), va_P (dC, dI) vwCl [(oa, .inr (1, [.ref ta, .int (nI z), .ref ua])), (ta, .inl (kI, 128, .inl (ud_I T))), (wa, .inl (kI, 4, .inl g))] H → va_D A [(oa, .inr (1, [.ref ta, .int (nI z), .ref ua])), (ta, .inl (kI, 128, .inl (ud_I T))), (wa, .inl (kI, 4, .inl g))] → va_S A s.heap H locs → ∀ (ls : Array Slot), lv_has ls 11 [(10, .int ((nI 0 + (-1)))), (9, .int x), (8, .int (nI j9)), (7, .int (nI 4)), (6, .ref wa), (0, .ref oa)] → W p l e R s m args below meth c H locs cells slots Q (F0 m 108 ls [])) : ∀ (n sz : Nat) (b : Nat → Nat), n ≤ 4 → sz + n ≤ 128 → ud_pk x n b sz = T → sz + n = z → ∀ (H : Heap) (locs : List Loc), va_P (dC, dI) vwCl [(oa, .inr (1, [.ref ta, .int (nI sz), .ref ua])), (ta, .inl (kI, 128, .inl (ud_I b))), (wa, .inl (kI, 4, .inl g))] H → va_D A [(oa, .inr (1, [.ref ta, .int (nI sz), .ref ua])), (ta, .inl (kI, 128, .inl (ud_I b))), (wa, .inl (kI, 4, .inl g))] → va_S A s.heap H locs → ∀ (ls : Array Slot), lv_has ls 11 [(10, .int ((nI n + (-1)))), (9, .int x), (8, .int (nI j9)), (7, .int (nI 4)), (6, .ref wa), (0, .ref oa)] → W p l e R s m args below meth c H locs cells slots Q (F0 m 66 ls []) := by
  intro n
  induction n with
  | zero =>
    intro sz b h4 hs hT hz H locs hP hD hS ls hl
    subst hT
    subst hz
    refine lv_iload hx hb dX1_put_66 (lv_at hl 0 rfl) ?_
    refine lv_if_lt (tgt := 108) hx hb dX1_put_68 (by decide) (fun c_68 => ?_) (fun c_68 => absurd c_68 (fun c9 => c9 (by decide)))
    exact kk H locs hP hD hS ls hl
  | succ n ih =>
    intro sz b h4 hs hT hz H locs hP hD hS ls hl
    rw [pk_m1] at hl
    refine lv_iload hx hb dX1_put_66 (lv_at hl 0 rfl) ?_
    refine ax_if_lt (tgt := 108) hx hb (by omega) dX1_put_68 (by decide) ?_
    refine lv_aload_n hx hb dX1_put_71 rfl (lv_at hl 5 rfl) ?_
    refine va_get (D := (dC, dI)) (ci := 1) (v := .ref ta) (C := RX1) (T := TX1) (N := 3) hx hb hts in_X1 hown hK hP 0 rfl rfl 0 (by decide) (hts _ q93) (fun _ h9 => h9) rfl dX1_put_72 ?_
    refine lv_aload_n hx hb dX1_put_75 rfl (lv_at hl 5 rfl) ?_
    refine va_get (D := (dC, dI)) (ci := 1) (v := .int (nI sz)) (C := RX1) (T := TX1) (N := 3) hx hb hts in_X1 hown hK hP 0 rfl rfl 1 (by decide) (hts _ q94) (fun _ h9 => h9) rfl dX1_put_76 ?_
    refine lv_iload hx hb dX1_put_79 (lv_at hl 1 rfl) ?_
    refine lv_bipush (v := nI 8) hx hb dX1_put_81 (by decide) ?_
    refine lv_iload hx hb dX1_put_83 (lv_at hl 0 rfl) ?_
    refine lv_imul hx hb dX1_put_85 ?_
    refine ax_top (y := nI (8 * n)) (pk_mul _ _) ?_
    refine lv_iushr (v := (x.toUInt32 >>> ((nI (8 * n)).toUInt32 &&& Int32.toUInt32 31)).toInt32) hx hb dX1_put_86 (rfl) ?_
    refine lv_sipush (v := nI 255) hx hb dX1_put_87 (by decide) ?_
    refine lv_iand hx hb dX1_put_90 ?_
    refine ax_top (y := nI (ud_by x n)) (ud_ushb x _ n (ud_su _ (by omega))) ?_
    refine ax_iast hx hb hK hP hD hS 1 2 rfl rfl (by omega) (by omega) (g := ud_I (ud_up b sz (ud_by x n))) (ud_upI _ _ _) dX1_put_91 (fun H locs hP hD hS => ?_)
    have hP : va_P (dC, dI) vwCl [(oa, .inr (1, [.ref ta, .int (nI sz), .ref ua])), (ta, .inl (kI, 128, .inl (ud_I (ud_up b sz (ud_by x n))))), (wa, .inl (kI, 4, .inl g))] H := hP
    have hD : va_D A [(oa, .inr (1, [.ref ta, .int (nI sz), .ref ua])), (ta, .inl (kI, 128, .inl (ud_I (ud_up b sz (ud_by x n))))), (wa, .inl (kI, 4, .inl g))] := hD
    refine lv_aload_n hx hb dX1_put_92 rfl (lv_at hl 5 rfl) ?_
    refine lv_dup hx hb dX1_put_93 rfl ?_
    refine va_get (D := (dC, dI)) (ci := 1) (v := .int (nI sz)) (C := RX1) (T := TX1) (N := 3) hx hb hts in_X1 hown hK hP 0 rfl rfl 1 (by decide) (hts _ q94) (fun _ h9 => h9) rfl dX1_put_94 ?_
    refine lv_iconst (v := nI 1) hx hb dX1_put_97 (by decide) ?_
    refine lv_iadd hx hb dX1_put_98 ?_
    refine ax_top (y := nI (sz + 1)) (nI_add _ _) ?_
    refine va_put (D := (dC, dI)) (ci := 1) (v := .int (nI (sz + 1))) (ty := .int) (C := RX1) (T := TX1) (N := 3) hx hb hts in_X1 tyX1 tyX1_ok nmX1 hown hK hP hD hS 0 rfl rfl 1 (by decide) (hts _ q94) (fun _ h9 => h9) rfl (by decide +kernel) rfl rfl (Nat.le_of_ble_eq_true rfl) dX1_put_99 (fun H locs hP hD hS => ?_)
    have hP : va_P (dC, dI) vwCl [(oa, .inr (1, [.ref ta, .int (nI (sz + 1)), .ref ua])), (ta, .inl (kI, 128, .inl (ud_I (ud_up b sz (ud_by x n))))), (wa, .inl (kI, 4, .inl g))] H := hP
    have hD : va_D A [(oa, .inr (1, [.ref ta, .int (nI (sz + 1)), .ref ua])), (ta, .inl (kI, 128, .inl (ud_I (ud_up b sz (ud_by x n))))), (wa, .inl (kI, 4, .inl g))] := hD
    refine lv_iinc (v := (nI n + (-1))) (lv' := [(10, .int ((nI n + (-1)))), (9, .int x), (8, .int (nI j9)), (7, .int (nI 4)), (6, .ref wa), (0, .ref oa)]) hx hb dX1_put_102 hl (k := 0) rfl (rfl) (by decide) rfl (fun ls hl => ?_)
    refine lv_goto (tgt := 66) hx hb dX1_put_105 (by decide) ?_
    exact ih (sz + 1) (ud_up b sz (ud_by x n)) (by omega) (by omega) hT (by omega) H locs hP hD hS ls (lv_sub hl [0, 1, 2, 3, 4, 5] rfl)
abbrev wsX1_put : List Cond := ws_ yX1_put cX1_put 11 (some .boolean)
set_option maxHeartbeats 4000000 in
set_option maxRecDepth 100000 in
/-- put(a, b, c, d) -/
theorem me_X1_put (l : Launch) (dC : Nat → ClassId) (dI : Nat → Nat → Nat) (kB kC kI : ClassId) (sz0 : Nat) (oa ta ua : Nat) (b : Nat → Nat) (sz : Nat) (a1 a2 a3 a4 : Int32) (hsz : sz ≤ 128) : Met l yX1_put wsX1_put ({ frames := 0, cells := 1, slots := 4, locals := 0 } : Room) (va_Pc [.ref oa, .int a1, .int a2, .int a3, .int a4] (ud_P dC dI kB kC kI [(oa, .inr (1, [.ref ta, .int (nI sz), .ref ua])), (ta, .inl (kI, 128, .inl (ud_I b)))] sz0)) (va_Qi (fun (r : Int32) (_ : Unit) => r = ud_pv sz) (fun (_ : Unit) (t : State) => va_P (dC, dI) vwCl [(oa, .inr (1, [.ref ta, .int (nI (ud_ps sz)), .ref ua])), (ta, .inl (kI, 128, .inl (ud_I (ud_pb b sz a1 a2 a3 a4))))] t.heap ∧ va_D (va_A [(oa, .inr (1, [.ref ta, .int (nI sz), .ref ua])), (ta, .inl (kI, 128, .inl (ud_I b)))] sz0) [(oa, .inr (1, [.ref ta, .int (nI (ud_ps sz)), .ref ua])), (ta, .inl (kI, 128, .inl (ud_I (ud_pb b sz a1 a2 a3 a4))))]) (va_A [(oa, .inr (1, [.ref ta, .int (nI sz), .ref ua])), (ta, .inl (kI, 128, .inl (ud_I b)))] sz0)) 1 4 (va_A [(oa, .inr (1, [.ref ta, .int (nI sz), .ref ua])), (ta, .inl (kI, 128, .inl (ud_I b)))] sz0) := by
  refine Met.ofW (cc := cX1_put) (maxL := 11) (ret := some .boolean) (by decide) rfl ?_
  intro p e s m args below meth c s₁ B hml hv
  obtain ⟨rfl, hsz, hP, hK, hD0⟩ := hv
  have hx := B.exec
  have hb := B.bytes
  have hr := B.returns
  have hts := atoms_spec (ws := wsX1_put) B.pre
  have hts : ∀ w ∈ lw_all, w.before _ s = true := fun w h => hts w (List.mem_cons_of_mem _ h)
  have hown : s.vm.findClass RX1 = some m.cls := findClass_of_methodNamed B.named
  have hlocks := B.notSynchronized
  subst hsz
  have hD := hD0.self (sz := s.heap.size)
  generalize hAe : va_A [(oa, .inr (1, [.ref ta, .int (nI sz), .ref ua])), (ta, .inl (kI, 128, .inl (ud_I b)))] s.heap.size = A at hD ⊢
  have hA : ∀ q : Nat, s.heap.size ≤ q → A q := fun q h => by rw [← hAe]; exact Or.inr h
  have hS : va_S A s.heap s.heap [] := va_S.rf
  have hP : va_P (dC, dI) vwCl [(oa, .inr (1, [.ref ta, .int (nI sz), .ref ua])), (ta, .inl (kI, 128, .inl (ud_I b)))] s.heap := hP
  have hl := lv_entry ([.ref oa, .int a1, .int a2, .int a3, .int a4]) (n := 11) (Nat.le_of_ble_eq_true rfl)
  rw [lg_entry_eq]
  generalize (lg_sl ([.ref oa, .int a1, .int a2, .int a3, .int a4]) ++ List.replicate (11 - (lg_sl ([.ref oa, .int a1, .int a2, .int a3, .int a4])).length) Slot.unset).toArray = ls at hl ⊢
  have hl : lv_has ls 11 [(0, .ref oa), (1, .int a1), (2, .int a2), (3, .int a3), (4, .int a4)] := hl
  refine lv_aload_n hx hb dX1_put_0 rfl (lv_at hl 0 rfl) ?_
  refine va_get (D := (dC, dI)) (ci := 1) (v := .int (nI sz)) (C := RX1) (T := TX1) (N := 3) hx hb hts in_X1 hown hK hP 0 rfl rfl 1 (by decide) (hts _ q94) (fun _ h9 => h9) rfl dX1_put_1 ?_
  refine lv_bipush (v := nI 16) hx hb dX1_put_4 (by decide) ?_
  refine lv_iadd hx hb dX1_put_6 ?_
  refine ax_top (y := nI (sz + 16)) (nI_add _ _) ?_
  refine lv_sipush (v := nI 128) hx hb dX1_put_7 (by decide) ?_
  refine ax_icmp_le (tgt := 15) hx hb (by omega) (by omega) dX1_put_10 (by decide) (fun c_10 => ?_) (fun c_10 => ?_)
  · have e1 : ud_ps sz = sz + 4 + 4 + 4 + 4 := if_neg (by omega)
    have e2 : ud_pb b sz a1 a2 a3 a4 = ud_wd (ud_wd (ud_wd (ud_wd b sz a1) (sz + 4) a2) (sz + 4 + 4) a3) (sz + 4 + 4 + 4) a4 := if_neg (by omega)
    have e3 : nI 1 = ud_pv sz := (if_neg (by omega)).symm
    refine lv_iconst (v := nI 4) hx hb dX1_put_15 (by decide) ?_
    refine ax_newa (atype := .int) (ty := .int) hx hb rfl (fun _ _ => rfl) rfl (by decide) (hts _ q103) hK 2 rfl hP hD hS hA (by omega) (Nat.le_of_ble_eq_true rfl) (Nat.le_of_ble_eq_true rfl) dX1_put_16 (fun wa H hP hD hS => ?_)
    have hP : va_P (dC, dI) vwCl [(oa, .inr (1, [.ref ta, .int (nI sz), .ref ua])), (ta, .inl (kI, 128, .inl (ud_I b))), (wa, .inl (kI, 4, .inl (fun _ => 0)))] H := hP
    have hD : va_D A [(oa, .inr (1, [.ref ta, .int (nI sz), .ref ua])), (ta, .inl (kI, 128, .inl (ud_I b))), (wa, .inl (kI, 4, .inl (fun _ => 0)))] := hD
    refine lv_dup hx hb dX1_put_18 rfl ?_
    refine lv_iconst (v := nI 0) hx hb dX1_put_19 (by decide) ?_
    refine lv_iload_n hx hb dX1_put_20 rfl (lv_at hl 1 rfl) ?_
    refine ax_iast hx hb hK hP hD hS 2 2 rfl rfl (by omega) (by omega) (g := (upd (fun _ => 0) 0 a1)) (rfl) dX1_put_21 (fun H locs hP hD hS => ?_)
    have hP : va_P (dC, dI) vwCl [(oa, .inr (1, [.ref ta, .int (nI sz), .ref ua])), (ta, .inl (kI, 128, .inl (ud_I b))), (wa, .inl (kI, 4, .inl (upd (fun _ => 0) 0 a1)))] H := hP
    have hD : va_D A [(oa, .inr (1, [.ref ta, .int (nI sz), .ref ua])), (ta, .inl (kI, 128, .inl (ud_I b))), (wa, .inl (kI, 4, .inl (upd (fun _ => 0) 0 a1)))] := hD
    refine lv_dup hx hb dX1_put_22 rfl ?_
    refine lv_iconst (v := nI 1) hx hb dX1_put_23 (by decide) ?_
    refine lv_iload_n hx hb dX1_put_24 rfl (lv_at hl 2 rfl) ?_
    refine ax_iast hx hb hK hP hD hS 2 2 rfl rfl (by omega) (by omega) (g := (upd (upd (fun _ => 0) 0 a1) 1 a2)) (rfl) dX1_put_25 (fun H locs hP hD hS => ?_)
    have hP : va_P (dC, dI) vwCl [(oa, .inr (1, [.ref ta, .int (nI sz), .ref ua])), (ta, .inl (kI, 128, .inl (ud_I b))), (wa, .inl (kI, 4, .inl (upd (upd (fun _ => 0) 0 a1) 1 a2)))] H := hP
    have hD : va_D A [(oa, .inr (1, [.ref ta, .int (nI sz), .ref ua])), (ta, .inl (kI, 128, .inl (ud_I b))), (wa, .inl (kI, 4, .inl (upd (upd (fun _ => 0) 0 a1) 1 a2)))] := hD
    refine lv_dup hx hb dX1_put_26 rfl ?_
    refine lv_iconst (v := nI 2) hx hb dX1_put_27 (by decide) ?_
    refine lv_iload_n hx hb dX1_put_28 rfl (lv_at hl 3 rfl) ?_
    refine ax_iast hx hb hK hP hD hS 2 2 rfl rfl (by omega) (by omega) (g := (upd (upd (upd (fun _ => 0) 0 a1) 1 a2) 2 a3)) (rfl) dX1_put_29 (fun H locs hP hD hS => ?_)
    have hP : va_P (dC, dI) vwCl [(oa, .inr (1, [.ref ta, .int (nI sz), .ref ua])), (ta, .inl (kI, 128, .inl (ud_I b))), (wa, .inl (kI, 4, .inl (upd (upd (upd (fun _ => 0) 0 a1) 1 a2) 2 a3)))] H := hP
    have hD : va_D A [(oa, .inr (1, [.ref ta, .int (nI sz), .ref ua])), (ta, .inl (kI, 128, .inl (ud_I b))), (wa, .inl (kI, 4, .inl (upd (upd (upd (fun _ => 0) 0 a1) 1 a2) 2 a3)))] := hD
    refine lv_dup hx hb dX1_put_30 rfl ?_
    refine lv_iconst (v := nI 3) hx hb dX1_put_31 (by decide) ?_
    refine lv_iload hx hb dX1_put_32 (lv_at hl 4 rfl) ?_
    refine ax_iast hx hb hK hP hD hS 2 2 rfl rfl (by omega) (by omega) (g := (upd (upd (upd (upd (fun _ => 0) 0 a1) 1 a2) 2 a3) 3 a4)) (rfl) dX1_put_34 (fun H locs hP hD hS => ?_)
    have hP : va_P (dC, dI) vwCl [(oa, .inr (1, [.ref ta, .int (nI sz), .ref ua])), (ta, .inl (kI, 128, .inl (ud_I b))), (wa, .inl (kI, 4, .inl (upd (upd (upd (upd (fun _ => 0) 0 a1) 1 a2) 2 a3) 3 a4)))] H := hP
    have hD : va_D A [(oa, .inr (1, [.ref ta, .int (nI sz), .ref ua])), (ta, .inl (kI, 128, .inl (ud_I b))), (wa, .inl (kI, 4, .inl (upd (upd (upd (upd (fun _ => 0) 0 a1) 1 a2) 2 a3) 3 a4)))] := hD
    refine lv_astore (lv' := [(5, .ref wa), (0, .ref oa), (1, .int a1), (2, .int a2), (3, .int a3), (4, .int a4)]) hx hb dX1_put_35 hl (by decide) rfl (fun ls hl => ?_)
    refine lv_aload hx hb dX1_put_37 (lv_at hl 0 rfl) ?_
    refine lv_astore (lv' := [(6, .ref wa), (5, .ref wa), (0, .ref oa), (1, .int a1), (2, .int a2), (3, .int a3), (4, .int a4)]) hx hb dX1_put_39 hl (by decide) rfl (fun ls hl => ?_)
    refine lv_aload hx hb dX1_put_41 (lv_at hl 0 rfl) ?_
    refine ax_alen hx hb hK hP 2 2 rfl rfl dX1_put_43 ?_
    refine lv_istore (lv' := [(7, .int (nI 4)), (6, .ref wa), (5, .ref wa), (0, .ref oa), (1, .int a1), (2, .int a2), (3, .int a3), (4, .int a4)]) hx hb dX1_put_44 hl (by decide) rfl (fun ls hl => ?_)
    refine lv_iconst (v := nI 0) hx hb dX1_put_46 (by decide) ?_
    refine lv_istore (lv' := [(8, .int (nI 0)), (7, .int (nI 4)), (6, .ref wa), (5, .ref wa), (0, .ref oa), (1, .int a1), (2, .int a2), (3, .int a3), (4, .int a4)]) hx hb dX1_put_47 hl (by decide) rfl (fun ls hl => ?_)
    refine lv_iload hx hb dX1_put_49 (lv_at hl 0 rfl) ?_
    refine lv_iload hx hb dX1_put_51 (lv_at hl 1 rfl) ?_
    refine ax_icmp_ge (tgt := 114) hx hb (by omega) (by omega) dX1_put_53 (by decide) (fun c_53 => absurd c_53 (by omega)) (fun c_53 => ?_)
    refine lv_aload hx hb dX1_put_56 (lv_at hl 2 rfl) ?_
    refine lv_iload hx hb dX1_put_58 (lv_at hl 0 rfl) ?_
    refine ax_iald hx hb hK hP 2 2 rfl rfl (by omega) (by omega) (v := a1) (rfl) dX1_put_60 ?_
    refine lv_istore (lv' := [(9, .int a1), (8, .int (nI 0)), (7, .int (nI 4)), (6, .ref wa), (5, .ref wa), (0, .ref oa), (1, .int a1), (2, .int a2), (3, .int a3), (4, .int a4)]) hx hb dX1_put_61 hl (by decide) rfl (fun ls hl => ?_)
    refine lv_iconst (v := nI 3) hx hb dX1_put_63 (by decide) ?_
    refine lv_istore (lv' := [(10, .int (nI 3)), (9, .int a1), (8, .int (nI 0)), (7, .int (nI 4)), (6, .ref wa), (5, .ref wa), (0, .ref oa), (1, .int a1), (2, .int a2), (3, .int a3), (4, .int a4)]) hx hb dX1_put_64 hl (by decide) rfl (fun ls hl => ?_)
    have hl : lv_has ls 11 [(10, .int ((nI 4 + (-1)))), (9, .int a1), (8, .int (nI 0)), (7, .int (nI 4)), (6, .ref wa), (5, .ref wa), (0, .ref oa), (1, .int a1), (2, .int a2), (3, .int a3), (4, .int a4)] := hl
    refine lo_X1_put hx hb hml hown hts hK hA (T := ud_wd b sz a1) (z := sz + 4) (fun H locs hP hD hS ls hl => ?_) 4 (sz) b (by decide) (by omega) rfl rfl H locs hP hD hS ls (lv_sub hl [0, 1, 2, 3, 4, 6] rfl)
    refine lv_iinc (v := nI 1) (lv' := [(8, .int (nI 1)), (10, .int ((nI 0 + (-1)))), (9, .int a1), (7, .int (nI 4)), (6, .ref wa), (0, .ref oa)]) hx hb dX1_put_108 hl (k := 2) rfl (ud_i1 _) (by decide) rfl (fun ls hl => ?_)
    refine lv_goto (tgt := 49) hx hb dX1_put_111 (by decide) ?_
    refine lv_iload hx hb dX1_put_49 (lv_at hl 0 rfl) ?_
    refine lv_iload hx hb dX1_put_51 (lv_at hl 3 rfl) ?_
    refine ax_icmp_ge (tgt := 114) hx hb (by omega) (by omega) dX1_put_53 (by decide) (fun c_53 => absurd c_53 (by omega)) (fun c_53 => ?_)
    refine lv_aload hx hb dX1_put_56 (lv_at hl 4 rfl) ?_
    refine lv_iload hx hb dX1_put_58 (lv_at hl 0 rfl) ?_
    refine ax_iald hx hb hK hP 2 2 rfl rfl (by omega) (by omega) (v := a2) (rfl) dX1_put_60 ?_
    refine lv_istore (lv' := [(9, .int a2), (8, .int (nI 1)), (10, .int ((nI 0 + (-1)))), (7, .int (nI 4)), (6, .ref wa), (0, .ref oa)]) hx hb dX1_put_61 hl (by decide) rfl (fun ls hl => ?_)
    refine lv_iconst (v := nI 3) hx hb dX1_put_63 (by decide) ?_
    refine lv_istore (lv' := [(10, .int (nI 3)), (9, .int a2), (8, .int (nI 1)), (7, .int (nI 4)), (6, .ref wa), (0, .ref oa)]) hx hb dX1_put_64 hl (by decide) rfl (fun ls hl => ?_)
    have hl : lv_has ls 11 [(10, .int ((nI 4 + (-1)))), (9, .int a2), (8, .int (nI 1)), (7, .int (nI 4)), (6, .ref wa), (0, .ref oa)] := hl
    refine lo_X1_put hx hb hml hown hts hK hA (T := ud_wd (ud_wd b sz a1) (sz + 4) a2) (z := sz + 4 + 4) (fun H locs hP hD hS ls hl => ?_) 4 (sz + 4) (ud_wd b sz a1) (by decide) (by omega) rfl rfl H locs hP hD hS ls (lv_sub hl [0, 1, 2, 3, 4, 5] rfl)
    refine lv_iinc (v := nI 2) (lv' := [(8, .int (nI 2)), (10, .int ((nI 0 + (-1)))), (9, .int a2), (7, .int (nI 4)), (6, .ref wa), (0, .ref oa)]) hx hb dX1_put_108 hl (k := 2) rfl (ud_i1 _) (by decide) rfl (fun ls hl => ?_)
    refine lv_goto (tgt := 49) hx hb dX1_put_111 (by decide) ?_
    refine lv_iload hx hb dX1_put_49 (lv_at hl 0 rfl) ?_
    refine lv_iload hx hb dX1_put_51 (lv_at hl 3 rfl) ?_
    refine ax_icmp_ge (tgt := 114) hx hb (by omega) (by omega) dX1_put_53 (by decide) (fun c_53 => absurd c_53 (by omega)) (fun c_53 => ?_)
    refine lv_aload hx hb dX1_put_56 (lv_at hl 4 rfl) ?_
    refine lv_iload hx hb dX1_put_58 (lv_at hl 0 rfl) ?_
    refine ax_iald hx hb hK hP 2 2 rfl rfl (by omega) (by omega) (v := a3) (rfl) dX1_put_60 ?_
    refine lv_istore (lv' := [(9, .int a3), (8, .int (nI 2)), (10, .int ((nI 0 + (-1)))), (7, .int (nI 4)), (6, .ref wa), (0, .ref oa)]) hx hb dX1_put_61 hl (by decide) rfl (fun ls hl => ?_)
    refine lv_iconst (v := nI 3) hx hb dX1_put_63 (by decide) ?_
    refine lv_istore (lv' := [(10, .int (nI 3)), (9, .int a3), (8, .int (nI 2)), (7, .int (nI 4)), (6, .ref wa), (0, .ref oa)]) hx hb dX1_put_64 hl (by decide) rfl (fun ls hl => ?_)
    have hl : lv_has ls 11 [(10, .int ((nI 4 + (-1)))), (9, .int a3), (8, .int (nI 2)), (7, .int (nI 4)), (6, .ref wa), (0, .ref oa)] := hl
    refine lo_X1_put hx hb hml hown hts hK hA (T := ud_wd (ud_wd (ud_wd b sz a1) (sz + 4) a2) (sz + 4 + 4) a3) (z := sz + 4 + 4 + 4) (fun H locs hP hD hS ls hl => ?_) 4 (sz + 4 + 4) (ud_wd (ud_wd b sz a1) (sz + 4) a2) (by decide) (by omega) rfl rfl H locs hP hD hS ls (lv_sub hl [0, 1, 2, 3, 4, 5] rfl)
    refine lv_iinc (v := nI 3) (lv' := [(8, .int (nI 3)), (10, .int ((nI 0 + (-1)))), (9, .int a3), (7, .int (nI 4)), (6, .ref wa), (0, .ref oa)]) hx hb dX1_put_108 hl (k := 2) rfl (ud_i1 _) (by decide) rfl (fun ls hl => ?_)
    refine lv_goto (tgt := 49) hx hb dX1_put_111 (by decide) ?_
    refine lv_iload hx hb dX1_put_49 (lv_at hl 0 rfl) ?_
    refine lv_iload hx hb dX1_put_51 (lv_at hl 3 rfl) ?_
    refine ax_icmp_ge (tgt := 114) hx hb (by omega) (by omega) dX1_put_53 (by decide) (fun c_53 => absurd c_53 (by omega)) (fun c_53 => ?_)
    refine lv_aload hx hb dX1_put_56 (lv_at hl 4 rfl) ?_
    refine lv_iload hx hb dX1_put_58 (lv_at hl 0 rfl) ?_
    refine ax_iald hx hb hK hP 2 2 rfl rfl (by omega) (by omega) (v := a4) (rfl) dX1_put_60 ?_
    refine lv_istore (lv' := [(9, .int a4), (8, .int (nI 3)), (10, .int ((nI 0 + (-1)))), (7, .int (nI 4)), (6, .ref wa), (0, .ref oa)]) hx hb dX1_put_61 hl (by decide) rfl (fun ls hl => ?_)
    refine lv_iconst (v := nI 3) hx hb dX1_put_63 (by decide) ?_
    refine lv_istore (lv' := [(10, .int (nI 3)), (9, .int a4), (8, .int (nI 3)), (7, .int (nI 4)), (6, .ref wa), (0, .ref oa)]) hx hb dX1_put_64 hl (by decide) rfl (fun ls hl => ?_)
    have hl : lv_has ls 11 [(10, .int ((nI 4 + (-1)))), (9, .int a4), (8, .int (nI 3)), (7, .int (nI 4)), (6, .ref wa), (0, .ref oa)] := hl
    refine lo_X1_put hx hb hml hown hts hK hA (T := ud_wd (ud_wd (ud_wd (ud_wd b sz a1) (sz + 4) a2) (sz + 4 + 4) a3) (sz + 4 + 4 + 4) a4) (z := sz + 4 + 4 + 4 + 4) (fun H locs hP hD hS ls hl => ?_) 4 (sz + 4 + 4 + 4) (ud_wd (ud_wd (ud_wd b sz a1) (sz + 4) a2) (sz + 4 + 4) a3) (by decide) (by omega) rfl rfl H locs hP hD hS ls (lv_sub hl [0, 1, 2, 3, 4, 5] rfl)
    refine lv_iinc (v := nI 4) (lv' := [(8, .int (nI 4)), (10, .int ((nI 0 + (-1)))), (9, .int a4), (7, .int (nI 4)), (6, .ref wa), (0, .ref oa)]) hx hb dX1_put_108 hl (k := 2) rfl (ud_i1 _) (by decide) rfl (fun ls hl => ?_)
    refine lv_goto (tgt := 49) hx hb dX1_put_111 (by decide) ?_
    refine lv_iload hx hb dX1_put_49 (lv_at hl 0 rfl) ?_
    refine lv_iload hx hb dX1_put_51 (lv_at hl 3 rfl) ?_
    refine ax_icmp_ge (tgt := 114) hx hb (by omega) (by omega) dX1_put_53 (by decide) (fun c_53 => ?_) (fun c_53 => absurd c_53 (by omega))
    refine lv_iconst (v := nI 1) hx hb dX1_put_114 (by decide) ?_
    have hP9 : va_P (dC, dI) vwCl [(oa, .inr (1, [.ref ta, .int (nI (ud_ps sz)), .ref ua])), (ta, .inl (kI, 128, .inl (ud_I (ud_pb b sz a1 a2 a3 a4))))] H := by rw [e1, e2]; exact hP.sub (ws' := [(oa, .inr (1, [.ref ta, .int (nI (sz + 4 + 4 + 4 + 4)), .ref ua])), (ta, .inl (kI, 128, .inl (ud_I (ud_wd (ud_wd (ud_wd (ud_wd b sz a1) (sz + 4) a2) (sz + 4 + 4) a3) (sz + 4 + 4 + 4) a4))))]) [0, 1] rfl
    have hD9 : va_D A [(oa, .inr (1, [.ref ta, .int (nI (ud_ps sz)), .ref ua])), (ta, .inl (kI, 128, .inl (ud_I (ud_pb b sz a1 a2 a3 a4))))] := by rw [e1, e2]; exact hD.sub (ws' := [(oa, .inr (1, [.ref ta, .int (nI (sz + 4 + 4 + 4 + 4)), .ref ua])), (ta, .inl (kI, 128, .inl (ud_I (ud_wd (ud_wd (ud_wd (ud_wd b sz a1) (sz + 4) a2) (sz + 4 + 4) a3) (sz + 4 + 4 + 4) a4))))]) [0, 1] (by decide) rfl
    exact W.zret (v := nI 1) hx hb hr rfl (fun t ht hW => ⟨⟨nI 1, (), rfl, e3, ⟨by rw [ht]; exact hP9, hD9⟩⟩, hS.F ht⟩) hS.2.2 dX1_put_115
  · have e1 : ud_ps sz = sz := if_pos (by omega)
    have e2 : ud_pb b sz a1 a2 a3 a4 = b := if_pos (by omega)
    have e3 : nI 0 = ud_pv sz := (if_pos (by omega)).symm
    refine lv_iconst (v := nI 0) hx hb dX1_put_13 (by decide) ?_
    have hP9 : va_P (dC, dI) vwCl [(oa, .inr (1, [.ref ta, .int (nI (ud_ps sz)), .ref ua])), (ta, .inl (kI, 128, .inl (ud_I (ud_pb b sz a1 a2 a3 a4))))] s.heap := by rw [e1, e2]; exact hP.sub (ws' := [(oa, .inr (1, [.ref ta, .int (nI sz), .ref ua])), (ta, .inl (kI, 128, .inl (ud_I b)))]) [0, 1] rfl
    have hD9 : va_D A [(oa, .inr (1, [.ref ta, .int (nI (ud_ps sz)), .ref ua])), (ta, .inl (kI, 128, .inl (ud_I (ud_pb b sz a1 a2 a3 a4))))] := by rw [e1, e2]; exact hD.sub (ws' := [(oa, .inr (1, [.ref ta, .int (nI sz), .ref ua])), (ta, .inl (kI, 128, .inl (ud_I b)))]) [0, 1] (by decide) rfl
    refine W.widen (k := 1) (n := 4) (Nat.le_of_ble_eq_true rfl) (Nat.le_of_ble_eq_true rfl) ?_
    exact W.zret (v := nI 0) hx hb hr rfl (fun t ht hW => ⟨⟨nI 0, (), rfl, e3, ⟨by rw [ht]; exact hP9, hD9⟩⟩, hS.F ht⟩) hS.2.2 dX1_put_14
end
section
/-! UtfDeskModel: letter -/
set_option maxHeartbeats 4000000 in
set_option maxRecDepth 100000 in
theorem lo_X1_len {p : Program} {l : Launch} {e : Env} {R : Room} {s : State} {m : MethodId} {args : Array Value} {below : List Frame} {meth : Method} {c : Code} {cells slots : Nat} {Q : State → Prop} {dC : Nat → ClassId} {dI : Nat → Nat → Nat} {kB kC kI : ClassId} {A : Nat → Prop} (hx : p.tables.exec = Jvm.exec) (hb : c.code = cX1_letter) (hml : c.maxLocals = 8) (hown : s.vm.findClass RX1 = some m.cls) (hts : ∀ w ∈ lw_all, w.before args s = true) (hK : va_K (dC, dI) vwCl (ud_T kB kC kI) s) (hA : ∀ q : Nat, s.heap.size ≤ q → A q) {H : Heap} {locs : List Loc} {y : Nat} (hy : y < 1114112) {ls : Array Slot} (hl : lv_has ls 8 [(3, .int (nI y))]) (kk : W p l e R s m args below meth c H locs cells slots Q (F0 m 41 ls [.int (nI (ud_len y))])) : W p l e R s m args below meth c H locs cells slots Q (F0 m 8 ls []) := by
  refine lv_iload_n hx hb dX1_letter_8 rfl (lv_at hl 0 rfl) ?_
  refine lv_sipush (v := nI 128) hx hb dX1_letter_9 (by decide) ?_
  refine ax_icmp_ge (tgt := 19) hx hb (by omega) (by omega) dX1_letter_12 (by decide) (fun c_12 => ?_) (fun c_12 => ?_)
  · refine lv_iload_n hx hb dX1_letter_19 rfl (lv_at hl 0 rfl) ?_
    refine lv_sipush (v := nI 2048) hx hb dX1_letter_20 (by decide) ?_
    refine ax_icmp_ge (tgt := 30) hx hb (by omega) (by omega) dX1_letter_23 (by decide) (fun c_23 => ?_) (fun c_23 => ?_)
    · refine lv_iload_n hx hb dX1_letter_30 rfl (lv_at hl 0 rfl) ?_
      refine lv_ldc (v := (65536 : Int32)) hx hb hown (hts _ q133) dX1_letter_31 ?_
      refine ax_top (y := nI 65536) (by decide) ?_
      refine ax_icmp_ge (tgt := 40) hx hb (by omega) (by omega) dX1_letter_33 (by decide) (fun c_33 => ?_) (fun c_33 => ?_)
      · refine lv_iconst (v := nI 4) hx hb dX1_letter_40 (by decide) ?_
        refine ax_top (y := nI (ud_len y)) (congrArg nI (by unfold ud_len; (repeat' split) <;> omega)) ?_
        exact kk
      · refine lv_iconst (v := nI 3) hx hb dX1_letter_36 (by decide) ?_
        refine ax_top (y := nI (ud_len y)) (congrArg nI (by unfold ud_len; (repeat' split) <;> omega)) ?_
        refine lv_goto (tgt := 41) hx hb dX1_letter_37 (by decide) ?_
        exact kk
    · refine lv_iconst (v := nI 2) hx hb dX1_letter_26 (by decide) ?_
      refine ax_top (y := nI (ud_len y)) (congrArg nI (by unfold ud_len; (repeat' split) <;> omega)) ?_
      refine lv_goto (tgt := 41) hx hb dX1_letter_27 (by decide) ?_
      exact kk
  · refine lv_iconst (v := nI 1) hx hb dX1_letter_15 (by decide) ?_
    refine ax_top (y := nI (ud_len y)) (congrArg nI (by unfold ud_len; (repeat' split) <;> omega)) ?_
    refine lv_goto (tgt := 41) hx hb dX1_letter_16 (by decide) ?_
    exact kk
set_option maxHeartbeats 4000000 in
set_option maxRecDepth 100000 in
theorem lo_X1_tail {p : Program} {l : Launch} {e : Env} {R : Room} {s : State} {m : MethodId} {args : Array Value} {below : List Frame} {meth : Method} {c : Code} {cells slots : Nat} {Q : State → Prop} {dC : Nat → ClassId} {dI : Nat → Nat → Nat} {kB kC kI : ClassId} {A : Nat → Prop} (hx : p.tables.exec = Jvm.exec) (hb : c.code = cX1_letter) (hml : c.maxLocals = 8) (hown : s.vm.findClass RX1 = some m.cls) (hts : ∀ w ∈ lw_all, w.before args s = true) (hK : va_K (dC, dI) vwCl (ud_T kB kC kI) s) (hA : ∀ q : Nat, s.heap.size ≤ q → A q) {oa ta ua sz f k z : Nat} {T : Nat → Nat} (kk : ∀ (H : Heap) (locs : List Loc), va_P (dC, dI) vwCl [(oa, .inr (1, [.ref ta, .int (nI sz), .ref ua])), (ta, .inl (kI, 128, .inl (ud_I T)))] H → va_D A [(oa, .inr (1, [.ref ta, .int (nI sz), .ref ua])), (ta, .inl (kI, 128, .inl (ud_I T)))] → va_S A s.heap H locs → ∀ (ls : Array Slot), lv_has ls 8 [(7, .int (nI 0)), (6, .int (nI z)), (5, .int (nI f)), (4, .int (nI k)), (0, .ref oa)] → W p l e R s m args below meth c H locs cells slots Q (F0 m 110 ls [])) : ∀ (n y : Nat) (b : Nat → Nat), n ≤ 3 → f + n < 128 → y < 1114112 → ud_tl n f b y = T → ud_sh n y = z → ∀ (H : Heap) (locs : List Loc), va_P (dC, dI) vwCl [(oa, .inr (1, [.ref ta, .int (nI sz), .ref ua])), (ta, .inl (kI, 128, .inl (ud_I b)))] H → va_D A [(oa, .inr (1, [.ref ta, .int (nI sz), .ref ua])), (ta, .inl (kI, 128, .inl (ud_I b)))] → va_S A s.heap H locs → ∀ (ls : Array Slot), lv_has ls 8 [(7, .int (nI n)), (6, .int (nI y)), (5, .int (nI f)), (4, .int (nI k)), (0, .ref oa)] → W p l e R s m args below meth c H locs cells slots Q (F0 m 73 ls []) := by
  intro n
  induction n with
  | zero =>
    intro y b h3 hf hy hT hz H locs hP hD hS ls hl
    subst hT
    subst hz
    refine lv_iload hx hb dX1_letter_73 (lv_at hl 0 rfl) ?_
    refine ax_if_le (tgt := 110) hx hb (by omega) dX1_letter_75 (by decide) (fun c_75 => ?_) (fun c_75 => absurd c_75 (by omega))
    exact kk H locs hP hD hS ls hl
  | succ n ih =>
    intro y b h3 hf hy hT hz H locs hP hD hS ls hl
    refine lv_iload hx hb dX1_letter_73 (lv_at hl 0 rfl) ?_
    refine ax_if_le (tgt := 110) hx hb (by omega) dX1_letter_75 (by decide) (fun c_75 => absurd c_75 (by omega)) (fun c_75 => ?_)
    refine lv_aload_n hx hb dX1_letter_78 rfl (lv_at hl 4 rfl) ?_
    refine va_get (D := (dC, dI)) (ci := 1) (v := .ref ta) (C := RX1) (T := TX1) (N := 3) hx hb hts in_X1 hown hK hP 0 rfl rfl 0 (by decide) (hts _ q93) (fun _ h9 => h9) rfl dX1_letter_79 ?_
    refine lv_iload hx hb dX1_letter_82 (lv_at hl 2 rfl) ?_
    refine lv_iload hx hb dX1_letter_84 (lv_at hl 0 rfl) ?_
    refine lv_iadd hx hb dX1_letter_86 ?_
    refine ax_top (y := nI (f + (n + 1))) (nI_add _ _) ?_
    refine lv_sipush (v := nI 128) hx hb dX1_letter_87 (by decide) ?_
    refine lv_iload hx hb dX1_letter_90 (lv_at hl 1 rfl) ?_
    refine lv_bipush (v := nI 64) hx hb dX1_letter_92 (by decide) ?_
    refine ax_irem hx hb (by omega) (by omega) (by omega) dX1_letter_94 ?_
    refine lv_iadd hx hb dX1_letter_95 ?_
    refine ax_top (y := nI (128 + (y % 64))) (nI_add _ _) ?_
    refine ax_iast hx hb hK hP hD hS 1 2 rfl rfl (by omega) (by omega) (g := ud_I (ud_up b (f + (n + 1)) (128 + y % 64))) (ud_upI _ _ _) dX1_letter_96 (fun H locs hP hD hS => ?_)
    have hP : va_P (dC, dI) vwCl [(oa, .inr (1, [.ref ta, .int (nI sz), .ref ua])), (ta, .inl (kI, 128, .inl (ud_I (ud_up b (f + (n + 1)) (128 + y % 64)))))] H := hP
    have hD : va_D A [(oa, .inr (1, [.ref ta, .int (nI sz), .ref ua])), (ta, .inl (kI, 128, .inl (ud_I (ud_up b (f + (n + 1)) (128 + y % 64)))))] := hD
    refine lv_iload hx hb dX1_letter_97 (lv_at hl 1 rfl) ?_
    refine lv_bipush (v := nI 64) hx hb dX1_letter_99 (by decide) ?_
    refine ax_idiv hx hb (by omega) (by omega) (by omega) dX1_letter_101 ?_
    refine lv_istore (lv' := [(6, .int (nI (y / 64))), (7, .int (nI (n + 1))), (5, .int (nI f)), (4, .int (nI k)), (0, .ref oa)]) hx hb dX1_letter_102 hl (by decide) rfl (fun ls hl => ?_)
    refine lv_iinc (v := nI n) (lv' := [(7, .int (nI n)), (6, .int (nI (y / 64))), (5, .int (nI f)), (4, .int (nI k)), (0, .ref oa)]) hx hb dX1_letter_104 hl (k := 1) rfl (ud_im1 _) (by decide) rfl (fun ls hl => ?_)
    refine lv_goto (tgt := 73) hx hb dX1_letter_107 (by decide) ?_
    exact ih (y / 64) (ud_up b (f + (n + 1)) (128 + y % 64)) (by omega) (by omega) (by omega) hT hz H locs hP hD hS ls (lv_sub hl [0, 1, 2, 3, 4] rfl)
abbrev wsX1_letter : List Cond := ws_ yX1_letter cX1_letter 8 (some .int)
set_option maxHeartbeats 4000000 in
set_option maxRecDepth 100000 in
/-- letter(at, v) -/
theorem me_X1_letter (l : Launch) (dC : Nat → ClassId) (dI : Nat → Nat → Nat) (kB kC kI : ClassId) (sz0 : Nat) (oa ta ua : Nat) (b : Nat → Nat) (sz : Nat) (x v : Int32) (f y : Nat) (ef : f = ud_m x % (sz + 1)) (ey : y = ud_m v % 1114112) (hsz : sz ≤ 128) : Met l yX1_letter wsX1_letter ({ frames := 1, cells := 0, slots := 0, locals := 21 } : Room) (va_Pc [.ref oa, .int x, .int v] (ud_P dC dI kB kC kI [(oa, .inr (1, [.ref ta, .int (nI sz), .ref ua])), (ta, .inl (kI, 128, .inl (ud_I b)))] sz0)) (va_Qi (fun (r : Int32) (_ : Unit) => r = ud_lr sz f y) (fun (_ : Unit) (t : State) => va_P (dC, dI) vwCl [(oa, .inr (1, [.ref ta, .int (nI sz), .ref ua])), (ta, .inl (kI, 128, .inl (ud_I (ud_lb b sz f y))))] t.heap ∧ va_D (va_A [(oa, .inr (1, [.ref ta, .int (nI sz), .ref ua])), (ta, .inl (kI, 128, .inl (ud_I b)))] sz0) [(oa, .inr (1, [.ref ta, .int (nI sz), .ref ua])), (ta, .inl (kI, 128, .inl (ud_I (ud_lb b sz f y))))]) (va_A [(oa, .inr (1, [.ref ta, .int (nI sz), .ref ua])), (ta, .inl (kI, 128, .inl (ud_I b)))] sz0)) 0 0 (va_A [(oa, .inr (1, [.ref ta, .int (nI sz), .ref ua])), (ta, .inl (kI, 128, .inl (ud_I b)))] sz0) := by
  refine Met.ofW (cc := cX1_letter) (maxL := 8) (ret := some .int) (by decide) rfl ?_
  intro p e s m args below meth c s₁ B hml hv
  obtain ⟨rfl, hsz, hP, hK, hD0⟩ := hv
  have hx := B.exec
  have hb := B.bytes
  have hr := B.returns
  have hts := atoms_spec (ws := wsX1_letter) B.pre
  have hts : ∀ w ∈ lw_all, w.before _ s = true := fun w h => hts w (List.mem_cons_of_mem _ h)
  have hown : s.vm.findClass RX1 = some m.cls := findClass_of_methodNamed B.named
  have hlocks := B.notSynchronized
  subst hsz
  have hD := hD0.self (sz := s.heap.size)
  generalize hAe : va_A [(oa, .inr (1, [.ref ta, .int (nI sz), .ref ua])), (ta, .inl (kI, 128, .inl (ud_I b)))] s.heap.size = A at hD ⊢
  have hA : ∀ q : Nat, s.heap.size ≤ q → A q := fun q h => by rw [← hAe]; exact Or.inr h
  have hS : va_S A s.heap s.heap [] := va_S.rf
  have hP : va_P (dC, dI) vwCl [(oa, .inr (1, [.ref ta, .int (nI sz), .ref ua])), (ta, .inl (kI, 128, .inl (ud_I b)))] s.heap := hP
  have hl := lv_entry ([.ref oa, .int x, .int v]) (n := 8) (Nat.le_of_ble_eq_true rfl)
  rw [lg_entry_eq]
  generalize (lg_sl ([.ref oa, .int x, .int v]) ++ List.replicate (8 - (lg_sl ([.ref oa, .int x, .int v])).length) Slot.unset).toArray = ls at hl ⊢
  have hl : lv_has ls 8 [(0, .ref oa), (1, .int x), (2, .int v)] := hl
  have hf : f ≤ sz := by rw [ef]; exact Nat.le_of_lt_succ (Nat.mod_lt _ (Nat.succ_pos _))
  have hy : y < 1114112 := by rw [ey]; exact Nat.mod_lt _ (by decide)
  refine lv_iload_n hx hb dX1_letter_0 rfl (lv_at hl 2 rfl) ?_
  refine lv_ldc (v := (2147483647 : Int32)) hx hb hown (hts _ q116) dX1_letter_1 ?_
  refine lv_iand hx hb dX1_letter_3 ?_
  refine ax_top (y := nI (ud_m v)) (ud_and _) ?_
  have hm_3 := ud_m_lt v
  refine lv_ldc (v := (1114112 : Int32)) hx hb hown (hts _ q147) dX1_letter_4 ?_
  refine ax_top (y := nI 1114112) (by decide) ?_
  refine ax_irem hx hb (by omega) (by omega) (by omega) dX1_letter_6 ?_
  refine ax_top (y := nI y) (congrArg nI ey.symm) ?_
  refine lv_istore_n (lv' := [(3, .int (nI y)), (0, .ref oa), (1, .int x), (2, .int v)]) hx hb dX1_letter_7 rfl hl (by decide) rfl (fun ls hl => ?_)
  refine lo_X1_len hx hb hml hown hts hK hA hy (lv_sub hl [0] rfl) ?_
  have hk := ud_len_in y
  refine lv_istore (lv' := [(4, .int (nI (ud_len y))), (3, .int (nI y)), (0, .ref oa), (1, .int x), (2, .int v)]) hx hb dX1_letter_41 hl (by decide) rfl (fun ls hl => ?_)
  refine lv_aload_n hx hb dX1_letter_43 rfl (lv_at hl 2 rfl) ?_
  refine lv_iload_n hx hb dX1_letter_44 rfl (lv_at hl 3 rfl) ?_
  have hPc := hP.sub (ws' := [(oa, .inr (1, [.ref ta, .int (nI sz), .ref ua]))]) [0] rfl
  have hDc := hD.sub (ws' := [(oa, .inr (1, [.ref ta, .int (nI sz), .ref ua]))]) [0] (by decide) rfl
  have hFc := ud_fr hS hA
  refine va_calli (va_runV (As := [.int x]) (rest := []) ⟨hx, hb, hml, hown, hts⟩ (me_X1_begin l dC dI kB kC kI s.heap.size oa ta ua sz x hsz) (cwV 1 hts (lw_V q112 q114 qs3 q7 q115) rfl rfl rfl (by decide +kernel) ⟨Nat.le_of_ble_eq_true rfl, Nat.le_of_ble_eq_true rfl⟩) ⟨ud_bl, va_recv hK hPc (ci := 1) (q0 := 0) rfl rfl, ud_pr hPc hDc hK⟩ rfl rfl hl.1 rfl (lv_room (Nat.le_of_ble_eq_true rfl)) dX1_letter_45 ⟨Nat.le_of_ble_eq_true rfl, Nat.le_of_ble_eq_true rfl⟩) hS (fun q _ h => hFc q h) hFc (fun r_45 u t9 H1 locs ht hvm hw hB hz1 hk1 hS => ?_)
  have hP := ud_ro hP hk1
  clear hPc hDc
  generalize H1 = H at hP hS ⊢
  obtain rfl : r_45 = nI f := hw.trans (congrArg nI ef.symm)
  refine lv_istore (lv' := [(5, .int (nI f)), (4, .int (nI (ud_len y))), (3, .int (nI y)), (0, .ref oa), (1, .int x), (2, .int v)]) hx hb dX1_letter_48 hl (by decide) rfl (fun ls hl => ?_)
  refine lv_iload hx hb dX1_letter_50 (lv_at hl 0 rfl) ?_
  refine lv_iload hx hb dX1_letter_52 (lv_at hl 1 rfl) ?_
  refine lv_iadd hx hb dX1_letter_54 ?_
  refine ax_top (y := nI (f + (ud_len y))) (nI_add _ _) ?_
  refine lv_aload_n hx hb dX1_letter_55 rfl (lv_at hl 3 rfl) ?_
  refine va_get (D := (dC, dI)) (ci := 1) (v := .int (nI sz)) (C := RX1) (T := TX1) (N := 3) hx hb hts in_X1 hown hK hP 0 rfl rfl 1 (by decide) (hts _ q94) (fun _ h9 => h9) rfl dX1_letter_56 ?_
  refine ax_icmp_le (tgt := 64) hx hb (by omega) (by omega) dX1_letter_59 (by decide) (fun c_59 => ?_) (fun c_59 => ?_)
  · refine lv_iload_n hx hb dX1_letter_64 rfl (lv_at hl 2 rfl) ?_
    refine lv_istore (lv' := [(6, .int (nI y)), (5, .int (nI f)), (4, .int (nI (ud_len y))), (3, .int (nI y)), (0, .ref oa), (1, .int x), (2, .int v)]) hx hb dX1_letter_65 hl (by decide) rfl (fun ls hl => ?_)
    refine lv_iload hx hb dX1_letter_67 (lv_at hl 2 rfl) ?_
    refine lv_iconst (v := nI 1) hx hb dX1_letter_69 (by decide) ?_
    refine lv_isub hx hb dX1_letter_70 ?_
    refine ax_top (y := nI (ud_len y - 1)) (pk_sub (by omega)) ?_
    refine lv_istore (lv' := [(7, .int (nI (ud_len y - 1))), (6, .int (nI y)), (5, .int (nI f)), (4, .int (nI (ud_len y))), (3, .int (nI y)), (0, .ref oa), (1, .int x), (2, .int v)]) hx hb dX1_letter_71 hl (by decide) rfl (fun ls hl => ?_)
    refine lo_X1_tail hx hb hml hown hts hK hA (T := ud_tl (ud_len y - 1) f b y) (z := ud_sh (ud_len y - 1) y) (fun H locs hP hD hS ls hl => ?_) (ud_len y - 1) y b (by omega) (by omega) hy rfl rfl H locs hP hD hS ls (lv_sub hl [0, 1, 2, 3, 5] rfl)
    refine lv_aload_n hx hb dX1_letter_110 rfl (lv_at hl 4 rfl) ?_
    refine va_get (D := (dC, dI)) (ci := 1) (v := .ref ta) (C := RX1) (T := TX1) (N := 3) hx hb hts in_X1 hown hK hP 0 rfl rfl 0 (by decide) (hts _ q93) (fun _ h9 => h9) rfl dX1_letter_111 ?_
    refine lv_iload hx hb dX1_letter_114 (lv_at hl 2 rfl) ?_
    refine lv_iload hx hb dX1_letter_116 (lv_at hl 1 rfl) ?_
    refine lv_iload hx hb dX1_letter_118 (lv_at hl 3 rfl) ?_
    refine lv_iconst (v := nI 1) hx hb dX1_letter_120 (by decide) ?_
    refine ax_icmp_ne (tgt := 128) hx hb (by omega) (by omega) dX1_letter_121 (by decide) (fun c_121 => ?_) (fun c_121 => ?_)
    · refine lv_iload hx hb dX1_letter_128 (lv_at hl 3 rfl) ?_
      refine lv_iconst (v := nI 2) hx hb dX1_letter_130 (by decide) ?_
      refine ax_icmp_ne (tgt := 140) hx hb (by omega) (by omega) dX1_letter_131 (by decide) (fun c_131 => ?_) (fun c_131 => ?_)
      · refine lv_iload hx hb dX1_letter_140 (lv_at hl 3 rfl) ?_
        refine lv_iconst (v := nI 3) hx hb dX1_letter_142 (by decide) ?_
        refine ax_icmp_ne (tgt := 152) hx hb (by omega) (by omega) dX1_letter_143 (by decide) (fun c_143 => ?_) (fun c_143 => ?_)
        · have c_4 : ud_len y = 4 := by omega
          have el : ud_ld (ud_len y) = 240 := by
            rw [c_4]; rfl
          have e2 : ud_lb b sz f y = ud_up (ud_tl (ud_len y - 1) f b y) f (240 + ud_sh (ud_len y - 1) y) := by
            unfold ud_lb
            rw [if_neg (by omega), el]
          refine lv_sipush (v := nI 240) hx hb dX1_letter_152 (by decide) ?_
          refine lv_iadd hx hb dX1_letter_155 ?_
          refine ax_top (y := nI (240 + ud_sh (ud_len y - 1) y)) ((nI_add _ _).trans (congrArg nI (Nat.add_comm _ _))) ?_
          refine ax_iast hx hb hK hP hD hS 1 2 rfl rfl (by omega) (by omega) (g := ud_I (ud_up (ud_tl (ud_len y - 1) f b y) f (240 + ud_sh (ud_len y - 1) y))) (ud_upI _ _ _) dX1_letter_156 (fun H locs hP hD hS => ?_)
          have hP : va_P (dC, dI) vwCl [(oa, .inr (1, [.ref ta, .int (nI sz), .ref ua])), (ta, .inl (kI, 128, .inl (ud_I (ud_up (ud_tl (ud_len y - 1) f b y) f (240 + ud_sh (ud_len y - 1) y)))))] H := hP
          have hD : va_D A [(oa, .inr (1, [.ref ta, .int (nI sz), .ref ua])), (ta, .inl (kI, 128, .inl (ud_I (ud_up (ud_tl (ud_len y - 1) f b y) f (240 + ud_sh (ud_len y - 1) y)))))] := hD
          refine lv_iload hx hb dX1_letter_157 (lv_at hl 3 rfl) ?_
          have hP9 : va_P (dC, dI) vwCl [(oa, .inr (1, [.ref ta, .int (nI sz), .ref ua])), (ta, .inl (kI, 128, .inl (ud_I (ud_lb b sz f y))))] H := by rw [e2]; exact hP.sub (ws' := [(oa, .inr (1, [.ref ta, .int (nI sz), .ref ua])), (ta, .inl (kI, 128, .inl (ud_I (ud_up (ud_tl (ud_len y - 1) f b y) f (240 + ud_sh (ud_len y - 1) y)))))]) [0, 1] rfl
          have hD9 : va_D A [(oa, .inr (1, [.ref ta, .int (nI sz), .ref ua])), (ta, .inl (kI, 128, .inl (ud_I (ud_lb b sz f y))))] := by rw [e2]; exact hD.sub (ws' := [(oa, .inr (1, [.ref ta, .int (nI sz), .ref ua])), (ta, .inl (kI, 128, .inl (ud_I (ud_up (ud_tl (ud_len y - 1) f b y) f (240 + ud_sh (ud_len y - 1) y)))))]) [0, 1] (by decide) rfl
          exact W.iret (v := nI (ud_len y)) hx hb hr (fun t ht hW => ⟨⟨nI (ud_len y), (), rfl, (if_neg (by omega)).symm, ⟨by rw [ht]; exact hP9, hD9⟩⟩, hS.F ht⟩) hS.2.2 dX1_letter_159
        · have el : ud_ld (ud_len y) = 224 := by
            rw [c_143]; rfl
          have e2 : ud_lb b sz f y = ud_up (ud_tl (ud_len y - 1) f b y) f (224 + ud_sh (ud_len y - 1) y) := by
            unfold ud_lb
            rw [if_neg (by omega), el]
          refine lv_sipush (v := nI 224) hx hb dX1_letter_146 (by decide) ?_
          refine lv_goto (tgt := 155) hx hb dX1_letter_149 (by decide) ?_
          refine lv_iadd hx hb dX1_letter_155 ?_
          refine ax_top (y := nI (224 + ud_sh (ud_len y - 1) y)) ((nI_add _ _).trans (congrArg nI (Nat.add_comm _ _))) ?_
          refine ax_iast hx hb hK hP hD hS 1 2 rfl rfl (by omega) (by omega) (g := ud_I (ud_up (ud_tl (ud_len y - 1) f b y) f (224 + ud_sh (ud_len y - 1) y))) (ud_upI _ _ _) dX1_letter_156 (fun H locs hP hD hS => ?_)
          have hP : va_P (dC, dI) vwCl [(oa, .inr (1, [.ref ta, .int (nI sz), .ref ua])), (ta, .inl (kI, 128, .inl (ud_I (ud_up (ud_tl (ud_len y - 1) f b y) f (224 + ud_sh (ud_len y - 1) y)))))] H := hP
          have hD : va_D A [(oa, .inr (1, [.ref ta, .int (nI sz), .ref ua])), (ta, .inl (kI, 128, .inl (ud_I (ud_up (ud_tl (ud_len y - 1) f b y) f (224 + ud_sh (ud_len y - 1) y)))))] := hD
          refine lv_iload hx hb dX1_letter_157 (lv_at hl 3 rfl) ?_
          have hP9 : va_P (dC, dI) vwCl [(oa, .inr (1, [.ref ta, .int (nI sz), .ref ua])), (ta, .inl (kI, 128, .inl (ud_I (ud_lb b sz f y))))] H := by rw [e2]; exact hP.sub (ws' := [(oa, .inr (1, [.ref ta, .int (nI sz), .ref ua])), (ta, .inl (kI, 128, .inl (ud_I (ud_up (ud_tl (ud_len y - 1) f b y) f (224 + ud_sh (ud_len y - 1) y)))))]) [0, 1] rfl
          have hD9 : va_D A [(oa, .inr (1, [.ref ta, .int (nI sz), .ref ua])), (ta, .inl (kI, 128, .inl (ud_I (ud_lb b sz f y))))] := by rw [e2]; exact hD.sub (ws' := [(oa, .inr (1, [.ref ta, .int (nI sz), .ref ua])), (ta, .inl (kI, 128, .inl (ud_I (ud_up (ud_tl (ud_len y - 1) f b y) f (224 + ud_sh (ud_len y - 1) y)))))]) [0, 1] (by decide) rfl
          exact W.iret (v := nI (ud_len y)) hx hb hr (fun t ht hW => ⟨⟨nI (ud_len y), (), rfl, (if_neg (by omega)).symm, ⟨by rw [ht]; exact hP9, hD9⟩⟩, hS.F ht⟩) hS.2.2 dX1_letter_159
      · have el : ud_ld (ud_len y) = 192 := by
          rw [c_131]; rfl
        have e2 : ud_lb b sz f y = ud_up (ud_tl (ud_len y - 1) f b y) f (192 + ud_sh (ud_len y - 1) y) := by
          unfold ud_lb
          rw [if_neg (by omega), el]
        refine lv_sipush (v := nI 192) hx hb dX1_letter_134 (by decide) ?_
        refine lv_goto (tgt := 155) hx hb dX1_letter_137 (by decide) ?_
        refine lv_iadd hx hb dX1_letter_155 ?_
        refine ax_top (y := nI (192 + ud_sh (ud_len y - 1) y)) ((nI_add _ _).trans (congrArg nI (Nat.add_comm _ _))) ?_
        refine ax_iast hx hb hK hP hD hS 1 2 rfl rfl (by omega) (by omega) (g := ud_I (ud_up (ud_tl (ud_len y - 1) f b y) f (192 + ud_sh (ud_len y - 1) y))) (ud_upI _ _ _) dX1_letter_156 (fun H locs hP hD hS => ?_)
        have hP : va_P (dC, dI) vwCl [(oa, .inr (1, [.ref ta, .int (nI sz), .ref ua])), (ta, .inl (kI, 128, .inl (ud_I (ud_up (ud_tl (ud_len y - 1) f b y) f (192 + ud_sh (ud_len y - 1) y)))))] H := hP
        have hD : va_D A [(oa, .inr (1, [.ref ta, .int (nI sz), .ref ua])), (ta, .inl (kI, 128, .inl (ud_I (ud_up (ud_tl (ud_len y - 1) f b y) f (192 + ud_sh (ud_len y - 1) y)))))] := hD
        refine lv_iload hx hb dX1_letter_157 (lv_at hl 3 rfl) ?_
        have hP9 : va_P (dC, dI) vwCl [(oa, .inr (1, [.ref ta, .int (nI sz), .ref ua])), (ta, .inl (kI, 128, .inl (ud_I (ud_lb b sz f y))))] H := by rw [e2]; exact hP.sub (ws' := [(oa, .inr (1, [.ref ta, .int (nI sz), .ref ua])), (ta, .inl (kI, 128, .inl (ud_I (ud_up (ud_tl (ud_len y - 1) f b y) f (192 + ud_sh (ud_len y - 1) y)))))]) [0, 1] rfl
        have hD9 : va_D A [(oa, .inr (1, [.ref ta, .int (nI sz), .ref ua])), (ta, .inl (kI, 128, .inl (ud_I (ud_lb b sz f y))))] := by rw [e2]; exact hD.sub (ws' := [(oa, .inr (1, [.ref ta, .int (nI sz), .ref ua])), (ta, .inl (kI, 128, .inl (ud_I (ud_up (ud_tl (ud_len y - 1) f b y) f (192 + ud_sh (ud_len y - 1) y)))))]) [0, 1] (by decide) rfl
        exact W.iret (v := nI (ud_len y)) hx hb hr (fun t ht hW => ⟨⟨nI (ud_len y), (), rfl, (if_neg (by omega)).symm, ⟨by rw [ht]; exact hP9, hD9⟩⟩, hS.F ht⟩) hS.2.2 dX1_letter_159
    · have el : ud_ld (ud_len y) = 0 := by
        rw [c_121]; rfl
      have e2 : ud_lb b sz f y = ud_up (ud_tl (ud_len y - 1) f b y) f (0 + ud_sh (ud_len y - 1) y) := by
        unfold ud_lb
        rw [if_neg (by omega), el]
      refine lv_iconst (v := nI 0) hx hb dX1_letter_124 (by decide) ?_
      refine lv_goto (tgt := 155) hx hb dX1_letter_125 (by decide) ?_
      refine lv_iadd hx hb dX1_letter_155 ?_
      refine ax_top (y := nI (0 + ud_sh (ud_len y - 1) y)) ((nI_add _ _).trans (congrArg nI (Nat.add_comm _ _))) ?_
      refine ax_iast hx hb hK hP hD hS 1 2 rfl rfl (by omega) (by omega) (g := ud_I (ud_up (ud_tl (ud_len y - 1) f b y) f (0 + ud_sh (ud_len y - 1) y))) (ud_upI _ _ _) dX1_letter_156 (fun H locs hP hD hS => ?_)
      have hP : va_P (dC, dI) vwCl [(oa, .inr (1, [.ref ta, .int (nI sz), .ref ua])), (ta, .inl (kI, 128, .inl (ud_I (ud_up (ud_tl (ud_len y - 1) f b y) f (0 + ud_sh (ud_len y - 1) y)))))] H := hP
      have hD : va_D A [(oa, .inr (1, [.ref ta, .int (nI sz), .ref ua])), (ta, .inl (kI, 128, .inl (ud_I (ud_up (ud_tl (ud_len y - 1) f b y) f (0 + ud_sh (ud_len y - 1) y)))))] := hD
      refine lv_iload hx hb dX1_letter_157 (lv_at hl 3 rfl) ?_
      have hP9 : va_P (dC, dI) vwCl [(oa, .inr (1, [.ref ta, .int (nI sz), .ref ua])), (ta, .inl (kI, 128, .inl (ud_I (ud_lb b sz f y))))] H := by rw [e2]; exact hP.sub (ws' := [(oa, .inr (1, [.ref ta, .int (nI sz), .ref ua])), (ta, .inl (kI, 128, .inl (ud_I (ud_up (ud_tl (ud_len y - 1) f b y) f (0 + ud_sh (ud_len y - 1) y)))))]) [0, 1] rfl
      have hD9 : va_D A [(oa, .inr (1, [.ref ta, .int (nI sz), .ref ua])), (ta, .inl (kI, 128, .inl (ud_I (ud_lb b sz f y))))] := by rw [e2]; exact hD.sub (ws' := [(oa, .inr (1, [.ref ta, .int (nI sz), .ref ua])), (ta, .inl (kI, 128, .inl (ud_I (ud_up (ud_tl (ud_len y - 1) f b y) f (0 + ud_sh (ud_len y - 1) y)))))]) [0, 1] (by decide) rfl
      exact W.iret (v := nI (ud_len y)) hx hb hr (fun t ht hW => ⟨⟨nI (ud_len y), (), rfl, (if_neg (by omega)).symm, ⟨by rw [ht]; exact hP9, hD9⟩⟩, hS.F ht⟩) hS.2.2 dX1_letter_159
  · have e2 : ud_lb b sz f y = b := if_pos c_59
    refine lv_iconst (v := (-1)) hx hb dX1_letter_62 (by decide) ?_
    have hP9 : va_P (dC, dI) vwCl [(oa, .inr (1, [.ref ta, .int (nI sz), .ref ua])), (ta, .inl (kI, 128, .inl (ud_I (ud_lb b sz f y))))] H := by rw [e2]; exact hP.sub (ws' := [(oa, .inr (1, [.ref ta, .int (nI sz), .ref ua])), (ta, .inl (kI, 128, .inl (ud_I b)))]) [0, 1] rfl
    have hD9 : va_D A [(oa, .inr (1, [.ref ta, .int (nI sz), .ref ua])), (ta, .inl (kI, 128, .inl (ud_I (ud_lb b sz f y))))] := by rw [e2]; exact hD.sub (ws' := [(oa, .inr (1, [.ref ta, .int (nI sz), .ref ua])), (ta, .inl (kI, 128, .inl (ud_I b)))]) [0, 1] (by decide) rfl
    exact W.iret (v := (-1)) hx hb hr (fun t ht hW => ⟨⟨(-1), (), rfl, (if_pos c_59).symm, ⟨by rw [ht]; exact hP9, hD9⟩⟩, hS.F ht⟩) hS.2.2 dX1_letter_63
end
section
/-! UtfDeskModel: many, follows, letterAt -/
abbrev wsX1_many : List Cond := ws_ yX1_many cX1_many 1 (some .int)
set_option maxHeartbeats 4000000 in
set_option maxRecDepth 100000 in
/-- many(first) -/
theorem me_X1_many (l : Launch) (dC : Nat → ClassId) (dI : Nat → Nat → Nat) (kB kC kI : ClassId) (sz0 : Nat) (x : Nat) (hx9 : x < 256) : Met l yX1_many wsX1_many ({ frames := 0, cells := 0, slots := 0, locals := 0 } : Room) (va_Pc [.int (nI x)] (ud_P dC dI kB kC kI [] sz0)) (va_Qi (fun (r : Int32) (_ : Unit) => r = nI (ud_mn x)) (fun (_ : Unit) (_ : State) => True) (va_A [] sz0)) 0 0 (va_A [] sz0) := by
  refine Met.ofW (cc := cX1_many) (maxL := 1) (ret := some .int) (by decide) rfl ?_
  intro p e s m args below meth c s₁ B hml hv
  obtain ⟨rfl, hsz, hP, hK, hD0⟩ := hv
  have hx := B.exec
  have hb := B.bytes
  have hr := B.returns
  have hts := atoms_spec (ws := wsX1_many) B.pre
  have hts : ∀ w ∈ lw_all, w.before _ s = true := fun w h => hts w (List.mem_cons_of_mem _ h)
  have hown : s.vm.findClass RX1 = some m.cls := findClass_of_methodNamed B.named
  have hlocks := B.notSynchronized
  subst hsz
  have hD := hD0
  generalize hAe : va_A [] s.heap.size = A
  have hA : ∀ q : Nat, s.heap.size ≤ q → A q := fun q h => by rw [← hAe]; exact Or.inr h
  have hS : va_S A s.heap s.heap [] := va_S.rf
  have hP : va_P (dC, dI) vwCl [] s.heap := hP
  have hl := lv_entry ([.int (nI x)]) (n := 1) (Nat.le_of_ble_eq_true rfl)
  rw [lg_entry_eq]
  generalize (lg_sl ([.int (nI x)]) ++ List.replicate (1 - (lg_sl ([.int (nI x)])).length) Slot.unset).toArray = ls at hl ⊢
  have hl : lv_has ls 1 [(0, .int (nI x))] := hl
  refine lv_iload_n hx hb dX1_many_0 rfl (lv_at hl 0 rfl) ?_
  refine lv_sipush (v := nI 128) hx hb dX1_many_1 (by decide) ?_
  refine ax_icmp_ge (tgt := 9) hx hb (by omega) (by omega) dX1_many_4 (by decide) (fun c_4 => ?_) (fun c_4 => ?_)
  · refine lv_iload_n hx hb dX1_many_9 rfl (lv_at hl 0 rfl) ?_
    refine lv_sipush (v := nI 194) hx hb dX1_many_10 (by decide) ?_
    refine ax_icmp_lt (tgt := 23) hx hb (by omega) (by omega) dX1_many_13 (by decide) (fun c_13 => ?_) (fun c_13 => ?_)
    · refine lv_iconst (v := nI 0) hx hb dX1_many_23 (by decide) ?_
      exact W.iret (v := nI 0) hx hb hr (fun t ht hW => ⟨⟨nI 0, (), rfl, congrArg nI (by unfold ud_mn; (repeat' split) <;> omega), trivial⟩, hS.F ht⟩) hS.2.2 dX1_many_24
    · refine lv_iload_n hx hb dX1_many_16 rfl (lv_at hl 0 rfl) ?_
      refine lv_sipush (v := nI 244) hx hb dX1_many_17 (by decide) ?_
      refine ax_icmp_le (tgt := 25) hx hb (by omega) (by omega) dX1_many_20 (by decide) (fun c_20 => ?_) (fun c_20 => ?_)
      · refine lv_iload_n hx hb dX1_many_25 rfl (lv_at hl 0 rfl) ?_
        refine lv_sipush (v := nI 224) hx hb dX1_many_26 (by decide) ?_
        refine ax_icmp_ge (tgt := 36) hx hb (by omega) (by omega) dX1_many_29 (by decide) (fun c_29 => ?_) (fun c_29 => ?_)
        · refine lv_iload_n hx hb dX1_many_36 rfl (lv_at hl 0 rfl) ?_
          refine lv_sipush (v := nI 240) hx hb dX1_many_37 (by decide) ?_
          refine ax_icmp_ge (tgt := 47) hx hb (by omega) (by omega) dX1_many_40 (by decide) (fun c_40 => ?_) (fun c_40 => ?_)
          · refine lv_iconst (v := nI 4) hx hb dX1_many_47 (by decide) ?_
            exact W.iret (v := nI 4) hx hb hr (fun t ht hW => ⟨⟨nI 4, (), rfl, congrArg nI (by unfold ud_mn; (repeat' split) <;> omega), trivial⟩, hS.F ht⟩) hS.2.2 dX1_many_48
          · refine lv_iconst (v := nI 3) hx hb dX1_many_43 (by decide) ?_
            refine lv_goto (tgt := 48) hx hb dX1_many_44 (by decide) ?_
            exact W.iret (v := nI 3) hx hb hr (fun t ht hW => ⟨⟨nI 3, (), rfl, congrArg nI (by unfold ud_mn; (repeat' split) <;> omega), trivial⟩, hS.F ht⟩) hS.2.2 dX1_many_48
        · refine lv_iconst (v := nI 2) hx hb dX1_many_32 (by decide) ?_
          refine lv_goto (tgt := 48) hx hb dX1_many_33 (by decide) ?_
          exact W.iret (v := nI 2) hx hb hr (fun t ht hW => ⟨⟨nI 2, (), rfl, congrArg nI (by unfold ud_mn; (repeat' split) <;> omega), trivial⟩, hS.F ht⟩) hS.2.2 dX1_many_48
      · refine lv_iconst (v := nI 0) hx hb dX1_many_23 (by decide) ?_
        exact W.iret (v := nI 0) hx hb hr (fun t ht hW => ⟨⟨nI 0, (), rfl, congrArg nI (by unfold ud_mn; (repeat' split) <;> omega), trivial⟩, hS.F ht⟩) hS.2.2 dX1_many_24
  · refine lv_iconst (v := nI 1) hx hb dX1_many_7 (by decide) ?_
    exact W.iret (v := nI 1) hx hb hr (fun t ht hW => ⟨⟨nI 1, (), rfl, congrArg nI (by unfold ud_mn; (repeat' split) <;> omega), trivial⟩, hS.F ht⟩) hS.2.2 dX1_many_8
set_option maxHeartbeats 4000000 in
set_option maxRecDepth 100000 in
theorem lo_X1_lo {p : Program} {l : Launch} {e : Env} {R : Room} {s : State} {m : MethodId} {args : Array Value} {below : List Frame} {meth : Method} {c : Code} {cells slots : Nat} {Q : State → Prop} {dC : Nat → ClassId} {dI : Nat → Nat → Nat} {kB kC kI : ClassId} {A : Nat → Prop} (hx : p.tables.exec = Jvm.exec) (hb : c.code = cX1_follows) (hml : c.maxLocals = 4) (hown : s.vm.findClass RX1 = some m.cls) (hts : ∀ w ∈ lw_all, w.before args s = true) (hK : va_K (dC, dI) vwCl (ud_T kB kC kI) s) (hA : ∀ q : Nat, s.heap.size ≤ q → A q) {H : Heap} {locs : List Loc} {x : Nat} (hx9 : x < 256) {ls : Array Slot} (hl : lv_has ls 4 [(0, .int (nI x))]) (kk : W p l e R s m args below meth c H locs cells slots Q (F0 m 29 ls [.int (nI (ud_lo x))])) : W p l e R s m args below meth c H locs cells slots Q (F0 m 0 ls []) := by
  refine lv_iload_n hx hb dX1_follows_0 rfl (lv_at hl 0 rfl) ?_
  refine lv_sipush (v := nI 224) hx hb dX1_follows_1 (by decide) ?_
  refine ax_icmp_ne (tgt := 13) hx hb (by omega) (by omega) dX1_follows_4 (by decide) (fun c_4 => ?_) (fun c_4 => ?_)
  · refine lv_iload_n hx hb dX1_follows_13 rfl (lv_at hl 0 rfl) ?_
    refine lv_sipush (v := nI 240) hx hb dX1_follows_14 (by decide) ?_
    refine ax_icmp_ne (tgt := 26) hx hb (by omega) (by omega) dX1_follows_17 (by decide) (fun c_17 => ?_) (fun c_17 => ?_)
    · refine lv_sipush (v := nI 128) hx hb dX1_follows_26 (by decide) ?_
      refine ax_top (y := nI (ud_lo x)) (congrArg nI (by unfold ud_lo; (repeat' split) <;> omega)) ?_
      exact kk
    · refine lv_sipush (v := nI 144) hx hb dX1_follows_20 (by decide) ?_
      refine ax_top (y := nI (ud_lo x)) (congrArg nI (by unfold ud_lo; (repeat' split) <;> omega)) ?_
      refine lv_goto (tgt := 29) hx hb dX1_follows_23 (by decide) ?_
      exact kk
  · refine lv_sipush (v := nI 160) hx hb dX1_follows_7 (by decide) ?_
    refine ax_top (y := nI (ud_lo x)) (congrArg nI (by unfold ud_lo; (repeat' split) <;> omega)) ?_
    refine lv_goto (tgt := 29) hx hb dX1_follows_10 (by decide) ?_
    exact kk
set_option maxHeartbeats 4000000 in
set_option maxRecDepth 100000 in
theorem lo_X1_hi {p : Program} {l : Launch} {e : Env} {R : Room} {s : State} {m : MethodId} {args : Array Value} {below : List Frame} {meth : Method} {c : Code} {cells slots : Nat} {Q : State → Prop} {dC : Nat → ClassId} {dI : Nat → Nat → Nat} {kB kC kI : ClassId} {A : Nat → Prop} (hx : p.tables.exec = Jvm.exec) (hb : c.code = cX1_follows) (hml : c.maxLocals = 4) (hown : s.vm.findClass RX1 = some m.cls) (hts : ∀ w ∈ lw_all, w.before args s = true) (hK : va_K (dC, dI) vwCl (ud_T kB kC kI) s) (hA : ∀ q : Nat, s.heap.size ≤ q → A q) {H : Heap} {locs : List Loc} {x : Nat} (hx9 : x < 256) {ls : Array Slot} (hl : lv_has ls 4 [(0, .int (nI x))]) (kk : W p l e R s m args below meth c H locs cells slots Q (F0 m 59 ls [.int (nI (ud_hi x))])) : W p l e R s m args below meth c H locs cells slots Q (F0 m 30 ls []) := by
  refine lv_iload_n hx hb dX1_follows_30 rfl (lv_at hl 0 rfl) ?_
  refine lv_sipush (v := nI 237) hx hb dX1_follows_31 (by decide) ?_
  refine ax_icmp_ne (tgt := 43) hx hb (by omega) (by omega) dX1_follows_34 (by decide) (fun c_34 => ?_) (fun c_34 => ?_)
  · refine lv_iload_n hx hb dX1_follows_43 rfl (lv_at hl 0 rfl) ?_
    refine lv_sipush (v := nI 244) hx hb dX1_follows_44 (by decide) ?_
    refine ax_icmp_ne (tgt := 56) hx hb (by omega) (by omega) dX1_follows_47 (by decide) (fun c_47 => ?_) (fun c_47 => ?_)
    · refine lv_sipush (v := nI 191) hx hb dX1_follows_56 (by decide) ?_
      refine ax_top (y := nI (ud_hi x)) (congrArg nI (by unfold ud_hi; (repeat' split) <;> omega)) ?_
      exact kk
    · refine lv_sipush (v := nI 143) hx hb dX1_follows_50 (by decide) ?_
      refine ax_top (y := nI (ud_hi x)) (congrArg nI (by unfold ud_hi; (repeat' split) <;> omega)) ?_
      refine lv_goto (tgt := 59) hx hb dX1_follows_53 (by decide) ?_
      exact kk
  · refine lv_sipush (v := nI 159) hx hb dX1_follows_37 (by decide) ?_
    refine ax_top (y := nI (ud_hi x)) (congrArg nI (by unfold ud_hi; (repeat' split) <;> omega)) ?_
    refine lv_goto (tgt := 59) hx hb dX1_follows_40 (by decide) ?_
    exact kk
abbrev wsX1_follows : List Cond := ws_ yX1_follows cX1_follows 4 (some .boolean)
set_option maxHeartbeats 4000000 in
set_option maxRecDepth 100000 in
/-- follows(first, second) -/
theorem me_X1_follows (l : Launch) (dC : Nat → ClassId) (dI : Nat → Nat → Nat) (kB kC kI : ClassId) (sz0 : Nat) (x y : Nat) (hx9 : x < 256) (hy9 : y < 256) : Met l yX1_follows wsX1_follows ({ frames := 0, cells := 0, slots := 0, locals := 0 } : Room) (va_Pc [.int (nI x), .int (nI y)] (ud_P dC dI kB kC kI [] sz0)) (va_Qi (fun (r : Int32) (_ : Unit) => r = if ud_fo x y then nI 1 else nI 0) (fun (_ : Unit) (_ : State) => True) (va_A [] sz0)) 0 0 (va_A [] sz0) := by
  refine Met.ofW (cc := cX1_follows) (maxL := 4) (ret := some .boolean) (by decide) rfl ?_
  intro p e s m args below meth c s₁ B hml hv
  obtain ⟨rfl, hsz, hP, hK, hD0⟩ := hv
  have hx := B.exec
  have hb := B.bytes
  have hr := B.returns
  have hts := atoms_spec (ws := wsX1_follows) B.pre
  have hts : ∀ w ∈ lw_all, w.before _ s = true := fun w h => hts w (List.mem_cons_of_mem _ h)
  have hown : s.vm.findClass RX1 = some m.cls := findClass_of_methodNamed B.named
  have hlocks := B.notSynchronized
  subst hsz
  have hD := hD0
  generalize hAe : va_A [] s.heap.size = A
  have hA : ∀ q : Nat, s.heap.size ≤ q → A q := fun q h => by rw [← hAe]; exact Or.inr h
  have hS : va_S A s.heap s.heap [] := va_S.rf
  have hP : va_P (dC, dI) vwCl [] s.heap := hP
  have hl := lv_entry ([.int (nI x), .int (nI y)]) (n := 4) (Nat.le_of_ble_eq_true rfl)
  rw [lg_entry_eq]
  generalize (lg_sl ([.int (nI x), .int (nI y)]) ++ List.replicate (4 - (lg_sl ([.int (nI x), .int (nI y)])).length) Slot.unset).toArray = ls at hl ⊢
  have hl : lv_has ls 4 [(0, .int (nI x)), (1, .int (nI y))] := hl
  have h1 : ud_lo x ≤ 160 := by unfold ud_lo; (repeat' split) <;> omega
  have h2 : ud_hi x ≤ 191 := by unfold ud_hi; (repeat' split) <;> omega
  refine lo_X1_lo hx hb hml hown hts hK hA hx9 (lv_sub hl [0] rfl) ?_
  refine lv_istore_n (lv' := [(2, .int (nI (ud_lo x))), (0, .int (nI x)), (1, .int (nI y))]) hx hb dX1_follows_29 rfl hl (by decide) rfl (fun ls hl => ?_)
  refine lo_X1_hi hx hb hml hown hts hK hA hx9 (lv_sub hl [1] rfl) ?_
  refine lv_istore_n (lv' := [(3, .int (nI (ud_hi x))), (2, .int (nI (ud_lo x))), (0, .int (nI x)), (1, .int (nI y))]) hx hb dX1_follows_59 rfl hl (by decide) rfl (fun ls hl => ?_)
  refine lv_iload_n hx hb dX1_follows_60 rfl (lv_at hl 3 rfl) ?_
  refine lv_iload_n hx hb dX1_follows_61 rfl (lv_at hl 1 rfl) ?_
  refine ax_icmp_lt (tgt := 74) hx hb (by omega) (by omega) dX1_follows_62 (by decide) (fun c_62 => ?_) (fun c_62 => ?_)
  · refine lv_iconst (v := nI 0) hx hb dX1_follows_74 (by decide) ?_
    exact W.zret (v := nI 0) hx hb hr rfl (fun t ht hW => ⟨⟨nI 0, (), rfl, (if_neg (fun h9 => absurd h9.1 (by omega))).symm, trivial⟩, hS.F ht⟩) hS.2.2 dX1_follows_75
  · refine lv_iload_n hx hb dX1_follows_65 rfl (lv_at hl 3 rfl) ?_
    refine lv_iload_n hx hb dX1_follows_66 rfl (lv_at hl 0 rfl) ?_
    refine ax_icmp_gt (tgt := 74) hx hb (by omega) (by omega) dX1_follows_67 (by decide) (fun c_67 => ?_) (fun c_67 => ?_)
    · refine lv_iconst (v := nI 0) hx hb dX1_follows_74 (by decide) ?_
      exact W.zret (v := nI 0) hx hb hr rfl (fun t ht hW => ⟨⟨nI 0, (), rfl, (if_neg (fun h9 => absurd h9.2 (by omega))).symm, trivial⟩, hS.F ht⟩) hS.2.2 dX1_follows_75
    · refine lv_iconst (v := nI 1) hx hb dX1_follows_70 (by decide) ?_
      refine lv_goto (tgt := 75) hx hb dX1_follows_71 (by decide) ?_
      exact W.zret (v := nI 1) hx hb hr rfl (fun t ht hW => ⟨⟨nI 1, (), rfl, (if_pos ⟨c_62, c_67⟩).symm, trivial⟩, hS.F ht⟩) hS.2.2 dX1_follows_75
set_option maxHeartbeats 4000000 in
set_option maxRecDepth 100000 in
theorem lo_X1_sub {p : Program} {l : Launch} {e : Env} {R : Room} {s : State} {m : MethodId} {args : Array Value} {below : List Frame} {meth : Method} {c : Code} {cells slots : Nat} {Q : State → Prop} {dC : Nat → ClassId} {dI : Nat → Nat → Nat} {kB kC kI : ClassId} {A : Nat → Prop} (hx : p.tables.exec = Jvm.exec) (hb : c.code = cX1_letterAt) (hml : c.maxLocals = 8) (hown : s.vm.findClass RX1 = some m.cls) (hts : ∀ w ∈ lw_all, w.before args s = true) (hK : va_K (dC, dI) vwCl (ud_T kB kC kI) s) (hA : ∀ q : Nat, s.heap.size ≤ q → A q) {H : Heap} {locs : List Loc} {rest : List Value} {k : Nat} (hk4 : k ≤ 4) (hk2 : 2 ≤ k) {ls : Array Slot} (hl : lv_has ls 8 [(3, .int (nI k))]) (kk : W p l e R s m args below meth c H locs cells slots Q (F0 m 74 ls (.int (nI (ud_sub k)) :: rest))) : W p l e R s m args below meth c H locs cells slots Q (F0 m 49 ls rest) := by
  refine lv_iload_n hx hb dX1_letterAt_49 rfl (lv_at hl 0 rfl) ?_
  refine lv_iconst (v := nI 2) hx hb dX1_letterAt_50 (by decide) ?_
  refine ax_icmp_ne (tgt := 60) hx hb (by omega) (by omega) dX1_letterAt_51 (by decide) (fun c_51 => ?_) (fun c_51 => ?_)
  · refine lv_iload_n hx hb dX1_letterAt_60 rfl (lv_at hl 0 rfl) ?_
    refine lv_iconst (v := nI 3) hx hb dX1_letterAt_61 (by decide) ?_
    refine ax_icmp_ne (tgt := 71) hx hb (by omega) (by omega) dX1_letterAt_62 (by decide) (fun c_62 => ?_) (fun c_62 => ?_)
    · refine lv_sipush (v := nI 240) hx hb dX1_letterAt_71 (by decide) ?_
      refine ax_top (y := nI (ud_sub k)) (congrArg nI (by unfold ud_sub; (repeat' split) <;> omega)) ?_
      exact kk
    · refine lv_sipush (v := nI 224) hx hb dX1_letterAt_65 (by decide) ?_
      refine ax_top (y := nI (ud_sub k)) (congrArg nI (by unfold ud_sub; (repeat' split) <;> omega)) ?_
      refine lv_goto (tgt := 74) hx hb dX1_letterAt_68 (by decide) ?_
      exact kk
  · refine lv_sipush (v := nI 192) hx hb dX1_letterAt_54 (by decide) ?_
    refine ax_top (y := nI (ud_sub k)) (congrArg nI (by unfold ud_sub; (repeat' split) <;> omega)) ?_
    refine lv_goto (tgt := 74) hx hb dX1_letterAt_57 (by decide) ?_
    exact kk
set_option maxHeartbeats 4000000 in
set_option maxRecDepth 100000 in
theorem lo_X1_at {p : Program} {l : Launch} {e : Env} {R : Room} {s : State} {m : MethodId} {args : Array Value} {below : List Frame} {meth : Method} {c : Code} {cells slots : Nat} {Q : State → Prop} {dC : Nat → ClassId} {dI : Nat → Nat → Nat} {kB kC kI : ClassId} {A : Nat → Prop} (hx : p.tables.exec = Jvm.exec) (hb : c.code = cX1_letterAt) (hml : c.maxLocals = 8) (hown : s.vm.findClass RX1 = some m.cls) (hts : ∀ w ∈ lw_all, w.before args s = true) (hK : va_K (dC, dI) vwCl (ud_T kB kC kI) s) (hA : ∀ q : Nat, s.heap.size ≤ q → A q) {oa ta ua sz i k : Nat} {b : Nat → Nat} (hb256 : ∀ i, b i < 256) (hik : i + k ≤ 128) {Z : Option Nat} {H : Heap} {locs : List Loc} (hP : va_P (dC, dI) vwCl [(oa, .inr (1, [.ref ta, .int (nI sz), .ref ua])), (ta, .inl (kI, 128, .inl (ud_I b)))] H) (kret : ∀ (pc : Nat) (r : Int32) (ls : Array Slot), decode cX1_letterAt pc = .ok (.ireturn, 1) → r = ud_mo Z → W p l e R s m args below meth c H locs cells slots Q (F0 m pc ls [.int r])) : ∀ (j y v : Nat), k ≤ y + j → y ≤ k → ud_lp b i k j y v = Z → ∀ (ls : Array Slot), lv_has ls 8 [(6, .int (nI y)), (5, .int (nI v)), (3, .int (nI k)), (1, .int (nI i)), (0, .ref oa)] → W p l e R s m args below meth c H locs cells slots Q (F0 m 80 ls []) := by
  intro j
  induction j with
  | zero =>
    intro y v hky hyk hZ ls hl
    refine lv_iload hx hb dX1_letterAt_80 (lv_at hl 0 rfl) ?_
    refine lv_iload_n hx hb dX1_letterAt_82 rfl (lv_at hl 2 rfl) ?_
    refine ax_icmp_ge (tgt := 135) hx hb (by omega) (by omega) dX1_letterAt_83 (by decide) (fun c_83 => ?_) (fun c_83 => absurd c_83 (by omega))
    refine lv_iload hx hb dX1_letterAt_135 (lv_at hl 1 rfl) ?_
    exact kret 137 _ ls dX1_letterAt_137 (by rw [← hZ]; rfl)
  | succ j ih =>
    intro y v hky hyk hZ ls hl
    have h256 := hb256 (i + y)
    refine lv_iload hx hb dX1_letterAt_80 (lv_at hl 0 rfl) ?_
    refine lv_iload_n hx hb dX1_letterAt_82 rfl (lv_at hl 2 rfl) ?_
    refine ax_icmp_ge (tgt := 135) hx hb (by omega) (by omega) dX1_letterAt_83 (by decide) (fun c_83 => ?_) (fun c_83 => ?_)
    · refine lv_iload hx hb dX1_letterAt_135 (lv_at hl 1 rfl) ?_
      exact kret 137 _ ls dX1_letterAt_137 (by rw [← hZ, ud_lp_end c_83]; rfl)
    · refine lv_aload_n hx hb dX1_letterAt_86 rfl (lv_at hl 4 rfl) ?_
      refine va_get (D := (dC, dI)) (ci := 1) (v := .ref ta) (C := RX1) (T := TX1) (N := 3) hx hb hts in_X1 hown hK hP 0 rfl rfl 0 (by decide) (hts _ q93) (fun _ h9 => h9) rfl dX1_letterAt_87 ?_
      refine lv_iload_n hx hb dX1_letterAt_90 rfl (lv_at hl 3 rfl) ?_
      refine lv_iload hx hb dX1_letterAt_91 (lv_at hl 0 rfl) ?_
      refine lv_iadd hx hb dX1_letterAt_93 ?_
      refine ax_top (y := nI (i + y)) (nI_add _ _) ?_
      refine ax_iald hx hb hK hP 1 2 rfl rfl (by omega) (by omega) (v := nI (b (i + y))) (rfl) dX1_letterAt_94 ?_
      refine lv_istore (lv' := [(7, .int (nI (b (i + y)))), (6, .int (nI y)), (5, .int (nI v)), (3, .int (nI k)), (1, .int (nI i)), (0, .ref oa)]) hx hb dX1_letterAt_95 hl (by decide) rfl (fun ls hl => ?_)
      refine lv_iload hx hb dX1_letterAt_97 (lv_at hl 0 rfl) ?_
      refine lv_sipush (v := nI 128) hx hb dX1_letterAt_99 (by decide) ?_
      refine ax_icmp_lt (tgt := 113) hx hb (by omega) (by omega) dX1_letterAt_102 (by decide) (fun c_102 => ?_) (fun c_102 => ?_)
      · refine lv_iconst (v := (-1)) hx hb dX1_letterAt_113 (by decide) ?_
        exact kret 114 _ ls dX1_letterAt_114 (by rw [← hZ, ud_lp_bad c_83 (fun h9 => absurd h9.1 (by omega))]; rfl)
      · refine lv_iload hx hb dX1_letterAt_105 (lv_at hl 0 rfl) ?_
        refine lv_sipush (v := nI 191) hx hb dX1_letterAt_107 (by decide) ?_
        refine ax_icmp_le (tgt := 115) hx hb (by omega) (by omega) dX1_letterAt_110 (by decide) (fun c_110 => ?_) (fun c_110 => ?_)
        · refine lv_bipush (v := nI 64) hx hb dX1_letterAt_115 (by decide) ?_
          refine lv_iload hx hb dX1_letterAt_117 (lv_at hl 2 rfl) ?_
          refine lv_imul hx hb dX1_letterAt_119 ?_
          refine ax_top (y := nI (64 * v)) (pk_mul _ _) ?_
          refine lv_iload hx hb dX1_letterAt_120 (lv_at hl 0 rfl) ?_
          refine lv_iadd hx hb dX1_letterAt_122 ?_
          refine ax_top (y := nI ((64 * v) + (b (i + y)))) (nI_add _ _) ?_
          refine lv_sipush (v := nI 128) hx hb dX1_letterAt_123 (by decide) ?_
          refine lv_isub hx hb dX1_letterAt_126 ?_
          refine ax_top (y := nI (64 * v + (b (i + y) - 128))) ((pk_sub (by omega)).trans (congrArg nI (by omega))) ?_
          refine lv_istore (lv' := [(5, .int (nI (64 * v + (b (i + y) - 128)))), (7, .int (nI (b (i + y)))), (6, .int (nI y)), (3, .int (nI k)), (1, .int (nI i)), (0, .ref oa)]) hx hb dX1_letterAt_127 hl (by decide) rfl (fun ls hl => ?_)
          refine lv_iinc (v := nI (y + 1)) (lv' := [(6, .int (nI (y + 1))), (5, .int (nI (64 * v + (b (i + y) - 128)))), (7, .int (nI (b (i + y)))), (3, .int (nI k)), (1, .int (nI i)), (0, .ref oa)]) hx hb dX1_letterAt_129 hl (k := 2) rfl (ud_i1 _) (by decide) rfl (fun ls hl => ?_)
          refine lv_goto (tgt := 80) hx hb dX1_letterAt_132 (by decide) ?_
          exact ih (y + 1) (64 * v + (b (i + y) - 128)) (by omega) (by omega) ((ud_lp_go c_83 ⟨c_102, c_110⟩).symm.trans hZ) ls (lv_sub hl [0, 1, 3, 4, 5] rfl)
        · refine lv_iconst (v := (-1)) hx hb dX1_letterAt_113 (by decide) ?_
          exact kret 114 _ ls dX1_letterAt_114 (by rw [← hZ, ud_lp_bad c_83 (fun h9 => absurd h9.2 (by omega))]; rfl)
abbrev wsX1_letterAt : List Cond := ws_ yX1_letterAt cX1_letterAt 8 (some .int)
set_option maxHeartbeats 4000000 in
set_option maxRecDepth 100000 in
/-- letterAt(at, end, bytes) -/
theorem me_X1_letterAt (l : Launch) (dC : Nat → ClassId) (dI : Nat → Nat → Nat) (kB kC kI : ClassId) (sz0 : Nat) (oa ta ua : Nat) (b : Nat → Nat) (sz : Nat) (i en k : Nat) (hi : i < en) (hen : en ≤ 128) (hk : k = ud_mn (b i)) (hb256 : ∀ i, b i < 256) : Met l yX1_letterAt wsX1_letterAt ({ frames := 1, cells := 0, slots := 0, locals := 23 } : Room) (va_Pc [.ref oa, .int (nI i), .int (nI en), .int (nI k)] (ud_P dC dI kB kC kI [(oa, .inr (1, [.ref ta, .int (nI sz), .ref ua])), (ta, .inl (kI, 128, .inl (ud_I b)))] sz0)) (va_Qi (fun (r : Int32) (_ : Unit) => r = ud_lv (ud_lt (b i) (b (i + 1)) (b (i + 2)) (b (i + 3)) (en - i))) (fun (_ : Unit) (_ : State) => True) (va_A [] sz0)) 0 0 (va_A [] sz0) := by
  refine Met.ofW (cc := cX1_letterAt) (maxL := 8) (ret := some .int) (by decide) rfl ?_
  intro p e s m args below meth c s₁ B hml hv
  obtain ⟨rfl, hsz, hP, hK, hD0⟩ := hv
  have hx := B.exec
  have hb := B.bytes
  have hr := B.returns
  have hts := atoms_spec (ws := wsX1_letterAt) B.pre
  have hts : ∀ w ∈ lw_all, w.before _ s = true := fun w h => hts w (List.mem_cons_of_mem _ h)
  have hown : s.vm.findClass RX1 = some m.cls := findClass_of_methodNamed B.named
  have hlocks := B.notSynchronized
  subst hsz
  have hD := hD0
  generalize hAe : va_A [] s.heap.size = A
  have hA : ∀ q : Nat, s.heap.size ≤ q → A q := fun q h => by rw [← hAe]; exact Or.inr h
  have hS : va_S A s.heap s.heap [] := va_S.rf
  have hP : va_P (dC, dI) vwCl [(oa, .inr (1, [.ref ta, .int (nI sz), .ref ua])), (ta, .inl (kI, 128, .inl (ud_I b)))] s.heap := hP
  have hl := lv_entry ([.ref oa, .int (nI i), .int (nI en), .int (nI k)]) (n := 8) (Nat.le_of_ble_eq_true rfl)
  rw [lg_entry_eq]
  generalize (lg_sl ([.ref oa, .int (nI i), .int (nI en), .int (nI k)]) ++ List.replicate (8 - (lg_sl ([.ref oa, .int (nI i), .int (nI en), .int (nI k)])).length) Slot.unset).toArray = ls at hl ⊢
  have hl : lv_has ls 8 [(0, .ref oa), (1, .int (nI i)), (2, .int (nI en)), (3, .int (nI k))] := hl
  have hk4 : k ≤ 4 := by rw [hk]; unfold ud_mn; (repeat' split) <;> omega
  have h256 := hb256 i
  have h256b := hb256 (i + 1)
  refine lv_iload_n hx hb dX1_letterAt_0 rfl (lv_at hl 3 rfl) ?_
  refine ax_if_eq (tgt := 11) hx hb (by omega) dX1_letterAt_1 (by decide) (fun c_1 => ?_) (fun c_1 => ?_)
  · refine lv_iconst (v := (-1)) hx hb dX1_letterAt_11 (by decide) ?_
    exact W.iret (v := (-1)) hx hb hr (fun t ht hW => ⟨⟨(-1), (), rfl, by rw [ud_lt_0 (Or.inl (by rw [← hk]; exact c_1)) (by omega)]; rfl, trivial⟩, hS.F ht⟩) hS.2.2 dX1_letterAt_12
  · refine lv_iload_n hx hb dX1_letterAt_4 rfl (lv_at hl 1 rfl) ?_
    refine lv_iload_n hx hb dX1_letterAt_5 rfl (lv_at hl 3 rfl) ?_
    refine lv_iadd hx hb dX1_letterAt_6 ?_
    refine ax_top (y := nI (i + k)) (nI_add _ _) ?_
    refine lv_iload_n hx hb dX1_letterAt_7 rfl (lv_at hl 2 rfl) ?_
    refine ax_icmp_le (tgt := 13) hx hb (by omega) (by omega) dX1_letterAt_8 (by decide) (fun c_8 => ?_) (fun c_8 => ?_)
    · refine lv_aload_n hx hb dX1_letterAt_13 rfl (lv_at hl 0 rfl) ?_
      refine va_get (D := (dC, dI)) (ci := 1) (v := .ref ta) (C := RX1) (T := TX1) (N := 3) hx hb hts in_X1 hown hK hP 0 rfl rfl 0 (by decide) (hts _ q93) (fun _ h9 => h9) rfl dX1_letterAt_14 ?_
      refine lv_iload_n hx hb dX1_letterAt_17 rfl (lv_at hl 1 rfl) ?_
      refine ax_iald hx hb hK hP 1 2 rfl rfl (by omega) (by omega) (v := nI (b i)) (rfl) dX1_letterAt_18 ?_
      refine lv_istore (lv' := [(4, .int (nI (b i))), (0, .ref oa), (1, .int (nI i)), (2, .int (nI en)), (3, .int (nI k))]) hx hb dX1_letterAt_19 hl (by decide) rfl (fun ls hl => ?_)
      refine lv_iload_n hx hb dX1_letterAt_21 rfl (lv_at hl 4 rfl) ?_
      refine lv_iconst (v := nI 1) hx hb dX1_letterAt_22 (by decide) ?_
      refine ax_icmp_ne (tgt := 29) hx hb (by omega) (by omega) dX1_letterAt_23 (by decide) (fun c_23 => ?_) (fun c_23 => ?_)
      · refine lv_iload hx hb dX1_letterAt_29 (lv_at hl 0 rfl) ?_
        refine lv_aload_n hx hb dX1_letterAt_31 rfl (lv_at hl 1 rfl) ?_
        refine va_get (D := (dC, dI)) (ci := 1) (v := .ref ta) (C := RX1) (T := TX1) (N := 3) hx hb hts in_X1 hown hK hP 0 rfl rfl 0 (by decide) (hts _ q93) (fun _ h9 => h9) rfl dX1_letterAt_32 ?_
        refine lv_iload_n hx hb dX1_letterAt_35 rfl (lv_at hl 2 rfl) ?_
        refine lv_iconst (v := nI 1) hx hb dX1_letterAt_36 (by decide) ?_
        refine lv_iadd hx hb dX1_letterAt_37 ?_
        refine ax_top (y := nI (i + 1)) (nI_add _ _) ?_
        refine ax_iald hx hb hK hP 1 2 rfl rfl (by omega) (by omega) (v := nI (b (i + 1))) (rfl) dX1_letterAt_38 ?_
        have hPc := hP.sub (ws' := []) [] rfl
        have hDc := hD.sub (ws' := []) [] (by decide) rfl
        have hFc := ud_fr hS hA
        refine va_calli (va_runS (As := [.int (nI (b i)), .int (nI (b (i + 1)))]) (rest := []) ⟨hx, hb, hml, hown, hts⟩ (me_X1_follows l dC dI kB kC kI s.heap.size (b i) (b (i + 1)) h256 h256b) (va_cwS 2 hts (lw_S q128 q129 q7 q130) rfl rfl rfl (by decide +kernel) ⟨Nat.le_of_ble_eq_true rfl, Nat.le_of_ble_eq_true rfl⟩) ⟨ud_bl, ud_pr hPc hDc hK⟩ rfl rfl hl.1 rfl (lv_room (Nat.le_of_ble_eq_true rfl)) dX1_letterAt_39 ⟨Nat.le_of_ble_eq_true rfl, Nat.le_of_ble_eq_true rfl⟩) hS (fun q _ h => hFc q h) hFc (fun r_39 u t9 H1 locs ht hvm hw hB hz1 hk1 hS => ?_)
        have hP := ud_ro hP hk1
        clear hPc hDc
        generalize H1 = H at hP hS ⊢
        by_cases hf : ud_fo (b i) (b (i + 1))
        · obtain rfl : r_39 = nI 1 := hw.trans (if_pos hf)
          refine ax_if_ne (tgt := 47) hx hb (by omega) dX1_letterAt_42 (by decide) (fun c_42 => ?_) (fun c_42 => absurd c_42 (by omega))
          refine lv_iload hx hb dX1_letterAt_47 (lv_at hl 0 rfl) ?_
          have hsub : ud_sub k ≤ b i := by
            have hk' := hk
            unfold ud_mn at hk'
            unfold ud_sub
            (repeat' split at hk') <;> (repeat' split) <;> omega
          refine lo_X1_sub hx hb hml hown hts hK hA hk4 (by omega) (lv_sub hl [4] rfl) ?_
          refine lv_isub hx hb dX1_letterAt_74 ?_
          refine ax_top (y := nI (b i - (ud_sub k))) (pk_sub (by omega)) ?_
          refine lv_istore (lv' := [(5, .int (nI (b i - (ud_sub k)))), (4, .int (nI (b i))), (0, .ref oa), (1, .int (nI i)), (2, .int (nI en)), (3, .int (nI k))]) hx hb dX1_letterAt_75 hl (by decide) rfl (fun ls hl => ?_)
          refine lv_iconst (v := nI 1) hx hb dX1_letterAt_77 (by decide) ?_
          refine lv_istore (lv' := [(6, .int (nI 1)), (5, .int (nI (b i - (ud_sub k)))), (4, .int (nI (b i))), (0, .ref oa), (1, .int (nI i)), (2, .int (nI en)), (3, .int (nI k))]) hx hb dX1_letterAt_78 hl (by decide) rfl (fun ls hl => ?_)
          have hR := ud_loopR (b := b) hi (by omega) (by omega) hf
          rw [← hk] at hR
          refine lo_X1_at hx hb hml hown hts hK hA hb256 (by omega) hP (Z := ud_lp b i k 3 1 (b i - ud_sub k)) (fun pc r ls hdec hr9 => ?_) 3 1 (b i - ud_sub k) (by omega) (by omega) rfl ls (lv_sub hl [0, 1, 6, 4, 3] rfl)
          exact W.iret (v := r) hx hb hr (fun t ht hW => ⟨⟨r, (), rfl, hr9.trans (ud_lv_map _ _ hR).symm, trivial⟩, hS.F ht⟩) hS.2.2 hdec
        · obtain rfl : r_39 = nI 0 := hw.trans (if_neg hf)
          refine ax_if_ne (tgt := 47) hx hb (by omega) dX1_letterAt_42 (by decide) (fun c_42 => absurd c_42 (by omega)) (fun c_42 => ?_)
          refine lv_iconst (v := (-1)) hx hb dX1_letterAt_45 (by decide) ?_
          exact W.iret (v := (-1)) hx hb hr (fun t ht hW => ⟨⟨(-1), (), rfl, by rw [ud_lt_nf (by rw [← hk]; omega) hf]; rfl, trivial⟩, hS.F ht⟩) hS.2.2 dX1_letterAt_46
      · refine lv_iload hx hb dX1_letterAt_26 (lv_at hl 0 rfl) ?_
        exact W.iret (v := nI (b i)) hx hb hr (fun t ht hW => ⟨⟨nI (b i), (), rfl, by rw [ud_lt_1 (by rw [← hk]; exact c_23)]; rfl, trivial⟩, hS.F ht⟩) hS.2.2 dX1_letterAt_28
    · refine lv_iconst (v := (-1)) hx hb dX1_letterAt_11 (by decide) ?_
      exact W.iret (v := (-1)) hx hb hr (fun t ht hW => ⟨⟨(-1), (), rfl, by rw [ud_lt_0 (Or.inr (by rw [← hk]; omega)) (by omega)]; rfl, trivial⟩, hS.F ht⟩) hS.2.2 dX1_letterAt_12
end
section
/-! UtfDeskModel: turn -/
set_option maxHeartbeats 4000000 in
set_option maxRecDepth 100000 in
theorem lo_X1_turn {p : Program} {l : Launch} {e : Env} {R : Room} {s : State} {m : MethodId} {args : Array Value} {below : List Frame} {meth : Method} {c : Code} {cells slots : Nat} {Q : State → Prop} {dC : Nat → ClassId} {dI : Nat → Nat → Nat} {kB kC kI : ClassId} {A : Nat → Prop} (hx : p.tables.exec = Jvm.exec) (hb : c.code = cX1_turn) (hml : c.maxLocals = 12) (hown : s.vm.findClass RX1 = some m.cls) (hts : ∀ w ∈ lw_all, w.before args s = true) (hK : va_K (dC, dI) vwCl (ud_T kB kC kI) s) (hA : ∀ q : Nat, s.heap.size ≤ q → A q) (hRf : 2 ≤ R.frames) (hRl : 50 ≤ R.locals) (hRc : cells ≤ R.cells) (hRs : slots ≤ R.slots) {oa ta ua ra sz en : Nat} {y : Int32} {us : List Nat} {b : Nat → Nat} (hb256 : ∀ i, b i < 256) (hen : en ≤ 128) {Z : Option (List Nat)} (kb : Z = none → ∀ (acc : List Nat), acc.length ≤ 128 → ∀ (H : Heap) (locs : List Loc), va_P (dC, dI) vwCl [(oa, .inr (1, [.ref ta, .int (nI sz), .ref ua])), (ta, .inl (kI, 128, .inl (ud_I b))), (ua, .inl (kI, us.length, .inl (ud_L us))), (ra, .inl (kI, 256, .inl (ud_L acc)))] H → va_D A [(oa, .inr (1, [.ref ta, .int (nI sz), .ref ua])), (ta, .inl (kI, 128, .inl (ud_I b))), (ua, .inl (kI, us.length, .inl (ud_L us))), (ra, .inl (kI, 256, .inl (ud_L acc)))] → va_S A s.heap H locs → ∀ (ls : Array Slot), lv_has ls 12 [(9, .int (nI 0)), (7, .int (nI acc.length)), (6, .ref ra), (3, .int y), (0, .ref oa)] → W p l e R s m args below meth c H locs cells slots Q (F0 m 165 ls [])) (kg : ∀ (acc : List Nat), Z = some acc → acc.length ≤ 128 → ∀ (H : Heap) (locs : List Loc), va_P (dC, dI) vwCl [(oa, .inr (1, [.ref ta, .int (nI sz), .ref ua])), (ta, .inl (kI, 128, .inl (ud_I b))), (ua, .inl (kI, us.length, .inl (ud_L us))), (ra, .inl (kI, 256, .inl (ud_L acc)))] H → va_D A [(oa, .inr (1, [.ref ta, .int (nI sz), .ref ua])), (ta, .inl (kI, 128, .inl (ud_I b))), (ua, .inl (kI, us.length, .inl (ud_L us))), (ra, .inl (kI, 256, .inl (ud_L acc)))] → va_S A s.heap H locs → ∀ (ls : Array Slot), lv_has ls 12 [(9, .int (nI 1)), (7, .int (nI acc.length)), (6, .ref ra), (3, .int y), (0, .ref oa)] → W p l e R s m args below meth c H locs cells slots Q (F0 m 165 ls [])) : ∀ (k i : Nat) (acc : List Nat), i ≤ en → en < i + k → acc.length ≤ i → (ud_all b en k i).map (fun l => acc ++ l) = Z → ∀ (H : Heap) (locs : List Loc), va_P (dC, dI) vwCl [(oa, .inr (1, [.ref ta, .int (nI sz), .ref ua])), (ta, .inl (kI, 128, .inl (ud_I b))), (ua, .inl (kI, us.length, .inl (ud_L us))), (ra, .inl (kI, 256, .inl (ud_L acc)))] H → va_D A [(oa, .inr (1, [.ref ta, .int (nI sz), .ref ua])), (ta, .inl (kI, 128, .inl (ud_I b))), (ua, .inl (kI, us.length, .inl (ud_L us))), (ra, .inl (kI, 256, .inl (ud_L acc)))] → va_S A s.heap H locs → ∀ (ls : Array Slot), lv_has ls 12 [(9, .int (nI 1)), (8, .int (nI i)), (7, .int (nI acc.length)), (6, .ref ra), (5, .int (nI en)), (3, .int y), (0, .ref oa)] → W p l e R s m args below meth c H locs cells slots Q (F0 m 43 ls []) := by
  intro k
  induction k with
  | zero =>
    intro i acc hi hik
    exact absurd hik (by omega)
  | succ k ih =>
    intro i acc hi hik hacc hZ H locs hP hD hS ls hl
    have h256 := hb256 i
    have hmn : ud_mn (b i) ≤ 4 := by unfold ud_mn; (repeat' split) <;> omega
    refine lv_iload hx hb dX1_turn_43 (lv_at hl 1 rfl) ?_
    refine lv_iload hx hb dX1_turn_45 (lv_at hl 4 rfl) ?_
    refine ax_icmp_ge (tgt := 165) hx hb (by omega) (by omega) dX1_turn_47 (by decide) (fun c_47 => ?_) (fun c_47 => ?_)
    · have hZ9 : Z = some acc := by
        rw [← hZ, ud_all_end c_47]
        show some (acc ++ []) = _
        rw [List.append_nil]
      exact kg acc hZ9 (by omega) H locs hP hD hS ls (lv_sub hl [0, 2, 3, 5, 6] rfl)
    · refine lv_iload hx hb dX1_turn_50 (lv_at hl 0 rfl) ?_
      refine ax_if_eq (tgt := 165) hx hb (by omega) dX1_turn_52 (by decide) (fun c_52 => absurd c_52 (by omega)) (fun c_52 => ?_)
      refine lv_aload_n hx hb dX1_turn_55 rfl (lv_at hl 6 rfl) ?_
      refine va_get (D := (dC, dI)) (ci := 1) (v := .ref ta) (C := RX1) (T := TX1) (N := 3) hx hb hts in_X1 hown hK hP 0 rfl rfl 0 (by decide) (hts _ q93) (fun _ h9 => h9) rfl dX1_turn_56 ?_
      refine lv_iload hx hb dX1_turn_59 (lv_at hl 1 rfl) ?_
      refine ax_iald hx hb hK hP 1 2 rfl rfl (by omega) (by omega) (v := nI (b i)) (rfl) dX1_turn_61 ?_
      have hPc := hP.sub (ws' := []) [] rfl
      have hDc := hD.sub (ws' := []) [] (by decide) rfl
      have hFc := ud_fr hS hA
      refine va_calli (va_runS (As := [.int (nI (b i))]) (rest := []) ⟨hx, hb, hml, hown, hts⟩ (me_X1_many l dC dI kB kC kI H.size (b i) h256) (va_cwS 1 hts (lw_S q121 q122 q7 q123) rfl rfl rfl (by decide +kernel) ⟨Nat.le_trans (by decide) hRf, Nat.le_trans (by decide) hRl⟩) ⟨ud_bl, ud_pr hPc hDc hK⟩ rfl rfl hl.1 rfl (lv_room (Nat.le_of_ble_eq_true rfl)) dX1_turn_62 ⟨hRc, hRs⟩) hS (fun q _ h => hFc q h) hFc (fun r_62 u t9 H1 locs ht hvm hw hB hz1 hk1 hS => ?_)
      have hP := ud_ro hP hk1
      clear hPc hDc
      generalize H1 = H at hP hS ⊢
      obtain rfl : r_62 = nI (ud_mn (b i)) := hw
      refine lv_istore (lv' := [(10, .int (nI (ud_mn (b i)))), (9, .int (nI 1)), (8, .int (nI i)), (7, .int (nI acc.length)), (6, .ref ra), (5, .int (nI en)), (3, .int y), (0, .ref oa)]) hx hb dX1_turn_65 hl (by decide) rfl (fun ls hl => ?_)
      refine lv_aload_n hx hb dX1_turn_67 rfl (lv_at hl 7 rfl) ?_
      refine lv_iload hx hb dX1_turn_68 (lv_at hl 2 rfl) ?_
      refine lv_iload hx hb dX1_turn_70 (lv_at hl 5 rfl) ?_
      refine lv_iload hx hb dX1_turn_72 (lv_at hl 0 rfl) ?_
      have hPc := hP.sub (ws' := [(oa, .inr (1, [.ref ta, .int (nI sz), .ref ua])), (ta, .inl (kI, 128, .inl (ud_I b)))]) [0, 1] rfl
      have hDc := hD.sub (ws' := [(oa, .inr (1, [.ref ta, .int (nI sz), .ref ua])), (ta, .inl (kI, 128, .inl (ud_I b)))]) [0, 1] (by decide) rfl
      have hFc := ud_fr hS hA
      refine va_calli (va_runV (As := [.int (nI i), .int (nI en), .int (nI (ud_mn (b i)))]) (rest := []) ⟨hx, hb, hml, hown, hts⟩ (me_X1_letterAt l dC dI kB kC kI H.size oa ta ua b sz i en (ud_mn (b i)) c_47 hen rfl hb256) (cwV 3 hts (lw_V q124 q126 qs4 q7 q127) rfl rfl rfl (by decide +kernel) ⟨Nat.le_trans (by decide) hRf, Nat.le_trans (by decide) hRl⟩) ⟨ud_bl, va_recv hK hPc (ci := 1) (q0 := 0) rfl rfl, ud_pr hPc hDc hK⟩ rfl rfl hl.1 rfl (lv_room (Nat.le_of_ble_eq_true rfl)) dX1_turn_74 ⟨hRc, hRs⟩) hS (fun q _ h => hFc q h) hFc (fun r_74 u t9 H1 locs ht hvm hw hB hz1 hk1 hS => ?_)
      have hP := ud_ro hP hk1
      clear hPc hDc
      generalize H1 = H at hP hS ⊢
      obtain rfl : r_74 = (ud_lv (ud_lt (b i) (b (i + 1)) (b (i + 2)) (b (i + 3)) (en - i))) := hw
      refine lv_istore (lv' := [(11, .int ((ud_lv (ud_lt (b i) (b (i + 1)) (b (i + 2)) (b (i + 3)) (en - i))))), (10, .int (nI (ud_mn (b i)))), (9, .int (nI 1)), (8, .int (nI i)), (7, .int (nI acc.length)), (6, .ref ra), (5, .int (nI en)), (3, .int y), (0, .ref oa)]) hx hb dX1_turn_77 hl (by decide) rfl (fun ls hl => ?_)
      rcases hlt : ud_lt (b i) (b (i + 1)) (b (i + 2)) (b (i + 3)) (en - i) with _ | ⟨v, d⟩
      · rw [hlt] at hl
        have hl : lv_has ls 12 [(11, .int ((-1))), (10, .int (nI (ud_mn (b i)))), (9, .int (nI 1)), (8, .int (nI i)), (7, .int (nI acc.length)), (6, .ref ra), (5, .int (nI en)), (3, .int y), (0, .ref oa)] := hl
        have hZ9 : Z = none := by
          rw [← hZ, ud_all_bad c_47 hlt]
          rfl
        refine lv_iload hx hb dX1_turn_79 (lv_at hl 0 rfl) ?_
        refine lv_if_lt (tgt := 88) hx hb dX1_turn_81 (by decide) (fun c_81 => ?_) (fun c_81 => absurd c_81 (fun c9 => c9 (by decide)))
        refine lv_iconst (v := nI 0) hx hb dX1_turn_88 (by decide) ?_
        refine lv_istore (lv' := [(9, .int (nI 0)), (11, .int ((-1))), (10, .int (nI (ud_mn (b i)))), (8, .int (nI i)), (7, .int (nI acc.length)), (6, .ref ra), (5, .int (nI en)), (3, .int y), (0, .ref oa)]) hx hb dX1_turn_89 hl (by decide) rfl (fun ls hl => ?_)
        refine lv_iload hx hb dX1_turn_91 (lv_at hl 1 rfl) ?_
        refine lv_ldc (v := (65535 : Int32)) hx hb hown (hts _ q131) dX1_turn_93 ?_
        refine ax_top (y := nI 65535) (by decide) ?_
        refine lv_icmp_le (tgt := 140) hx hb dX1_turn_95 (by decide) (fun c_95 => ?_) (fun c_95 => absurd c_95 (fun c9 => c9 (by decide)))
        refine lv_iload hx hb dX1_turn_140 (lv_at hl 0 rfl) ?_
        refine ax_if_eq (tgt := 155) hx hb (by omega) dX1_turn_142 (by decide) (fun c_142 => ?_) (fun c_142 => absurd c_142 (by omega))
        refine lv_iload hx hb dX1_turn_155 (lv_at hl 3 rfl) ?_
        refine lv_iload hx hb dX1_turn_157 (lv_at hl 2 rfl) ?_
        refine lv_iadd hx hb dX1_turn_159 ?_
        refine ax_top (y := nI (i + (ud_mn (b i)))) (nI_add _ _) ?_
        refine lv_istore (lv' := [(8, .int (nI (i + (ud_mn (b i))))), (9, .int (nI 0)), (11, .int ((-1))), (10, .int (nI (ud_mn (b i)))), (7, .int (nI acc.length)), (6, .ref ra), (5, .int (nI en)), (3, .int y), (0, .ref oa)]) hx hb dX1_turn_160 hl (by decide) rfl (fun ls hl => ?_)
        refine lv_goto (tgt := 43) hx hb dX1_turn_162 (by decide) ?_
        refine lv_iload hx hb dX1_turn_43 (lv_at hl 0 rfl) ?_
        refine lv_iload hx hb dX1_turn_45 (lv_at hl 6 rfl) ?_
        refine ax_icmp_ge (tgt := 165) hx hb (by omega) (by omega) dX1_turn_47 (by decide) (fun c_47b => ?_) (fun c_47b => ?_)
        · exact kb hZ9 acc (by omega) H locs hP hD hS ls (lv_sub hl [1, 4, 5, 7, 8] rfl)
        · refine lv_iload hx hb dX1_turn_50 (lv_at hl 1 rfl) ?_
          refine ax_if_eq (tgt := 165) hx hb (by omega) dX1_turn_52 (by decide) (fun c_52b => ?_) (fun c_52b => absurd c_52b (by omega))
          exact kb hZ9 acc (by omega) H locs hP hD hS ls (lv_sub hl [1, 4, 5, 7, 8] rfl)
      · rw [hlt] at hl
        have hl : lv_has ls 12 [(11, .int (nI v)), (10, .int (nI (ud_mn (b i)))), (9, .int (nI 1)), (8, .int (nI i)), (7, .int (nI acc.length)), (6, .ref ra), (5, .int (nI en)), (3, .int y), (0, .ref oa)] := hl
        obtain ⟨hd1, hd2, hd3, hv, hv4, rfl⟩ := ud_lt_ok (by omega) hlt
        rw [ud_all_go c_47 hlt, ud_map2] at hZ
        refine lv_iload hx hb dX1_turn_79 (lv_at hl 0 rfl) ?_
        refine ax_if_lt (tgt := 88) hx hb (by omega) dX1_turn_81 (by decide) ?_
        refine lv_iconst (v := nI 1) hx hb dX1_turn_84 (by decide) ?_
        refine lv_goto (tgt := 89) hx hb dX1_turn_85 (by decide) ?_
        refine lv_istore (lv' := [(9, .int (nI 1)), (11, .int (nI v)), (10, .int (nI (ud_mn (b i)))), (8, .int (nI i)), (7, .int (nI acc.length)), (6, .ref ra), (5, .int (nI en)), (3, .int y), (0, .ref oa)]) hx hb dX1_turn_89 hl (by decide) rfl (fun ls hl => ?_)
        refine lv_iload hx hb dX1_turn_91 (lv_at hl 1 rfl) ?_
        refine lv_ldc (v := (65535 : Int32)) hx hb hown (hts _ q131) dX1_turn_93 ?_
        refine ax_top (y := nI 65535) (by decide) ?_
        refine ax_icmp_le (tgt := 140) hx hb (by omega) (by omega) dX1_turn_95 (by decide) (fun c_95 => ?_) (fun c_95 => ?_)
        · rw [ud_un_1 c_95] at hZ
          refine lv_iload hx hb dX1_turn_140 (lv_at hl 0 rfl) ?_
          refine ax_if_eq (tgt := 155) hx hb (by omega) dX1_turn_142 (by decide) (fun c_142 => absurd c_142 (by omega)) (fun c_142 => ?_)
          refine lv_aload hx hb dX1_turn_145 (lv_at hl 5 rfl) ?_
          refine lv_iload hx hb dX1_turn_147 (lv_at hl 4 rfl) ?_
          refine lv_iload hx hb dX1_turn_149 (lv_at hl 1 rfl) ?_
          refine ax_iast hx hb hK hP hD hS 3 2 rfl rfl (by omega) (by omega) (g := ud_L (acc ++ [v])) (ud_L1 _ _) dX1_turn_151 (fun H locs hP hD hS => ?_)
          have hP : va_P (dC, dI) vwCl [(oa, .inr (1, [.ref ta, .int (nI sz), .ref ua])), (ta, .inl (kI, 128, .inl (ud_I b))), (ua, .inl (kI, us.length, .inl (ud_L us))), (ra, .inl (kI, 256, .inl (ud_L (acc ++ [v]))))] H := hP
          have hD : va_D A [(oa, .inr (1, [.ref ta, .int (nI sz), .ref ua])), (ta, .inl (kI, 128, .inl (ud_I b))), (ua, .inl (kI, us.length, .inl (ud_L us))), (ra, .inl (kI, 256, .inl (ud_L (acc ++ [v]))))] := hD
          refine lv_iinc (v := nI (acc.length + 1)) (lv' := [(7, .int (nI (acc.length + 1))), (9, .int (nI 1)), (11, .int (nI v)), (10, .int (nI (ud_mn (b i)))), (8, .int (nI i)), (6, .ref ra), (5, .int (nI en)), (3, .int y), (0, .ref oa)]) hx hb dX1_turn_152 hl (k := 4) rfl (ud_i1 _) (by decide) rfl (fun ls hl => ?_)
          refine lv_iload hx hb dX1_turn_155 (lv_at hl 4 rfl) ?_
          refine lv_iload hx hb dX1_turn_157 (lv_at hl 3 rfl) ?_
          refine lv_iadd hx hb dX1_turn_159 ?_
          refine ax_top (y := nI (i + (ud_mn (b i)))) (nI_add _ _) ?_
          refine lv_istore (lv' := [(8, .int (nI (i + (ud_mn (b i))))), (7, .int (nI (acc.length + 1))), (9, .int (nI 1)), (11, .int (nI v)), (10, .int (nI (ud_mn (b i)))), (6, .ref ra), (5, .int (nI en)), (3, .int y), (0, .ref oa)]) hx hb dX1_turn_160 hl (by decide) rfl (fun ls hl => ?_)
          refine lv_goto (tgt := 43) hx hb dX1_turn_162 (by decide) ?_
          have e9 : acc.length + 1 = (acc ++ [v]).length := by simp
          refine ih (i + ud_mn (b i)) (acc ++ [v]) (by omega) (by omega) (by rw [← e9]; omega) hZ H locs hP hD hS ls ?_
          rw [← e9]
          exact lv_sub hl [2, 0, 1, 5, 6, 7, 8] rfl
        · rw [ud_un_2 c_95] at hZ
          refine lv_aload hx hb dX1_turn_98 (lv_at hl 5 rfl) ?_
          refine lv_iload hx hb dX1_turn_100 (lv_at hl 4 rfl) ?_
          refine lv_ldc (v := (55296 : Int32)) hx hb hown (hts _ q132) dX1_turn_102 ?_
          refine ax_top (y := nI 55296) (by decide) ?_
          refine lv_iload hx hb dX1_turn_104 (lv_at hl 1 rfl) ?_
          refine lv_ldc (v := (65536 : Int32)) hx hb hown (hts _ q133) dX1_turn_106 ?_
          refine ax_top (y := nI 65536) (by decide) ?_
          refine lv_isub hx hb dX1_turn_108 ?_
          refine ax_top (y := nI (v - 65536)) (pk_sub (by omega)) ?_
          refine lv_sipush (v := nI 1024) hx hb dX1_turn_109 (by decide) ?_
          refine ax_idiv hx hb (by omega) (by omega) (by omega) dX1_turn_112 ?_
          refine lv_iadd hx hb dX1_turn_113 ?_
          refine ax_top (y := nI (55232 + v / 1024)) ((nI_add _ _).trans (congrArg nI (by omega))) ?_
          refine ax_iast hx hb hK hP hD hS 3 2 rfl rfl (by omega) (by omega) (g := ud_L (acc ++ [55232 + v / 1024])) (ud_L1 _ _) dX1_turn_114 (fun H locs hP hD hS => ?_)
          have hP : va_P (dC, dI) vwCl [(oa, .inr (1, [.ref ta, .int (nI sz), .ref ua])), (ta, .inl (kI, 128, .inl (ud_I b))), (ua, .inl (kI, us.length, .inl (ud_L us))), (ra, .inl (kI, 256, .inl (ud_L (acc ++ [55232 + v / 1024]))))] H := hP
          have hD : va_D A [(oa, .inr (1, [.ref ta, .int (nI sz), .ref ua])), (ta, .inl (kI, 128, .inl (ud_I b))), (ua, .inl (kI, us.length, .inl (ud_L us))), (ra, .inl (kI, 256, .inl (ud_L (acc ++ [55232 + v / 1024]))))] := hD
          refine lv_aload hx hb dX1_turn_115 (lv_at hl 5 rfl) ?_
          refine lv_iload hx hb dX1_turn_117 (lv_at hl 4 rfl) ?_
          refine lv_iconst (v := nI 1) hx hb dX1_turn_119 (by decide) ?_
          refine lv_iadd hx hb dX1_turn_120 ?_
          refine ax_top (y := nI (acc.length + 1)) (nI_add _ _) ?_
          refine lv_ldc (v := (56320 : Int32)) hx hb hown (hts _ q134) dX1_turn_121 ?_
          refine ax_top (y := nI 56320) (by decide) ?_
          refine lv_iload hx hb dX1_turn_123 (lv_at hl 1 rfl) ?_
          refine lv_ldc (v := (65536 : Int32)) hx hb hown (hts _ q133) dX1_turn_125 ?_
          refine ax_top (y := nI 65536) (by decide) ?_
          refine lv_isub hx hb dX1_turn_127 ?_
          refine ax_top (y := nI (v - 65536)) (pk_sub (by omega)) ?_
          refine lv_sipush (v := nI 1024) hx hb dX1_turn_128 (by decide) ?_
          refine ax_irem hx hb (by omega) (by omega) (by omega) dX1_turn_131 ?_
          refine lv_iadd hx hb dX1_turn_132 ?_
          refine ax_top (y := nI (56320 + v % 1024)) ((nI_add _ _).trans (congrArg nI (by omega))) ?_
          refine ax_iast hx hb hK hP hD hS 3 2 rfl rfl (by omega) (by omega) (g := ud_L (acc ++ [55232 + v / 1024, 56320 + v % 1024])) (ud_L2 _ _ _) dX1_turn_133 (fun H locs hP hD hS => ?_)
          have hP : va_P (dC, dI) vwCl [(oa, .inr (1, [.ref ta, .int (nI sz), .ref ua])), (ta, .inl (kI, 128, .inl (ud_I b))), (ua, .inl (kI, us.length, .inl (ud_L us))), (ra, .inl (kI, 256, .inl (ud_L (acc ++ [55232 + v / 1024, 56320 + v % 1024]))))] H := hP
          have hD : va_D A [(oa, .inr (1, [.ref ta, .int (nI sz), .ref ua])), (ta, .inl (kI, 128, .inl (ud_I b))), (ua, .inl (kI, us.length, .inl (ud_L us))), (ra, .inl (kI, 256, .inl (ud_L (acc ++ [55232 + v / 1024, 56320 + v % 1024]))))] := hD
          refine lv_iinc (v := nI (acc.length + 2)) (lv' := [(7, .int (nI (acc.length + 2))), (9, .int (nI 1)), (11, .int (nI v)), (10, .int (nI (ud_mn (b i)))), (8, .int (nI i)), (6, .ref ra), (5, .int (nI en)), (3, .int y), (0, .ref oa)]) hx hb dX1_turn_134 hl (k := 4) rfl (ud_i2 _) (by decide) rfl (fun ls hl => ?_)
          refine lv_goto (tgt := 155) hx hb dX1_turn_137 (by decide) ?_
          refine lv_iload hx hb dX1_turn_155 (lv_at hl 4 rfl) ?_
          refine lv_iload hx hb dX1_turn_157 (lv_at hl 3 rfl) ?_
          refine lv_iadd hx hb dX1_turn_159 ?_
          refine ax_top (y := nI (i + (ud_mn (b i)))) (nI_add _ _) ?_
          refine lv_istore (lv' := [(8, .int (nI (i + (ud_mn (b i))))), (7, .int (nI (acc.length + 2))), (9, .int (nI 1)), (11, .int (nI v)), (10, .int (nI (ud_mn (b i)))), (6, .ref ra), (5, .int (nI en)), (3, .int y), (0, .ref oa)]) hx hb dX1_turn_160 hl (by decide) rfl (fun ls hl => ?_)
          refine lv_goto (tgt := 43) hx hb dX1_turn_162 (by decide) ?_
          have e9 : acc.length + 2 = (acc ++ [55232 + v / 1024, 56320 + v % 1024]).length := by simp
          refine ih (i + ud_mn (b i)) (acc ++ [55232 + v / 1024, 56320 + v % 1024]) (by omega) (by omega) (by rw [← e9]; omega) hZ H locs hP hD hS ls ?_
          rw [← e9]
          exact lv_sub hl [2, 0, 1, 5, 6, 7, 8] rfl
set_option maxHeartbeats 4000000 in
set_option maxRecDepth 100000 in
theorem lo_X1_copy {p : Program} {l : Launch} {e : Env} {R : Room} {s : State} {m : MethodId} {args : Array Value} {below : List Frame} {meth : Method} {c : Code} {cells slots : Nat} {Q : State → Prop} {dC : Nat → ClassId} {dI : Nat → Nat → Nat} {kB kC kI : ClassId} {A : Nat → Prop} (hx : p.tables.exec = Jvm.exec) (hb : c.code = cX1_turn) (hml : c.maxLocals = 12) (hown : s.vm.findClass RX1 = some m.cls) (hts : ∀ w ∈ lw_all, w.before args s = true) (hK : va_K (dC, dI) vwCl (ud_T kB kC kI) s) (hA : ∀ q : Nat, s.heap.size ≤ q → A q) {oa ta ga ra sz : Nat} {b : Nat → Nat} {acc : List Nat} (hacc : acc.length ≤ 160) (kk : ∀ (H : Heap) (locs : List Loc), va_P (dC, dI) vwCl [(oa, .inr (1, [.ref ta, .int (nI sz), .ref ga])), (ta, .inl (kI, 128, .inl (ud_I b))), (ra, .inl (kI, 256, .inl (ud_L acc))), (ga, .inl (kI, acc.length, .inl (ud_ov acc acc.length (fun _ => 0))))] H → va_D A [(oa, .inr (1, [.ref ta, .int (nI sz), .ref ga])), (ta, .inl (kI, 128, .inl (ud_I b))), (ra, .inl (kI, 256, .inl (ud_L acc))), (ga, .inl (kI, acc.length, .inl (ud_ov acc acc.length (fun _ => 0))))] → va_S A s.heap H locs → ∀ (ls : Array Slot), lv_has ls 12 [(10, .int (nI acc.length)), (7, .int (nI acc.length)), (6, .ref ra), (0, .ref oa)] → W p l e R s m args below meth c H locs cells slots Q (F0 m 228 ls [])) : ∀ (i j : Nat), j + i = acc.length → ∀ (H : Heap) (locs : List Loc), va_P (dC, dI) vwCl [(oa, .inr (1, [.ref ta, .int (nI sz), .ref ga])), (ta, .inl (kI, 128, .inl (ud_I b))), (ra, .inl (kI, 256, .inl (ud_L acc))), (ga, .inl (kI, acc.length, .inl (ud_ov acc j (fun _ => 0))))] H → va_D A [(oa, .inr (1, [.ref ta, .int (nI sz), .ref ga])), (ta, .inl (kI, 128, .inl (ud_I b))), (ra, .inl (kI, 256, .inl (ud_L acc))), (ga, .inl (kI, acc.length, .inl (ud_ov acc j (fun _ => 0))))] → va_S A s.heap H locs → ∀ (ls : Array Slot), lv_has ls 12 [(10, .int (nI j)), (7, .int (nI acc.length)), (6, .ref ra), (0, .ref oa)] → W p l e R s m args below meth c H locs cells slots Q (F0 m 203 ls []) := by
  intro i
  induction i with
  | zero =>
    intro j hj H locs hP hD hS ls hl
    obtain rfl : j = acc.length := hj
    refine lv_iload hx hb dX1_turn_203 (lv_at hl 0 rfl) ?_
    refine lv_iload hx hb dX1_turn_205 (lv_at hl 1 rfl) ?_
    refine ax_icmp_ge (tgt := 228) hx hb (by omega) (by omega) dX1_turn_207 (by decide) (fun c_207 => ?_) (fun c_207 => absurd c_207 (by omega))
    exact kk H locs hP hD hS ls hl
  | succ i ih =>
    intro j hj H locs hP hD hS ls hl
    refine lv_iload hx hb dX1_turn_203 (lv_at hl 0 rfl) ?_
    refine lv_iload hx hb dX1_turn_205 (lv_at hl 1 rfl) ?_
    refine ax_icmp_ge (tgt := 228) hx hb (by omega) (by omega) dX1_turn_207 (by decide) (fun c_207 => absurd c_207 (by omega)) (fun c_207 => ?_)
    refine lv_aload_n hx hb dX1_turn_210 rfl (lv_at hl 3 rfl) ?_
    refine va_get (D := (dC, dI)) (ci := 1) (v := .ref ga) (C := RX1) (T := TX1) (N := 3) hx hb hts in_X1 hown hK hP 0 rfl rfl 2 (by decide) (hts _ q95) (fun _ h9 => h9) rfl dX1_turn_211 ?_
    refine lv_iload hx hb dX1_turn_214 (lv_at hl 0 rfl) ?_
    refine lv_aload hx hb dX1_turn_216 (lv_at hl 2 rfl) ?_
    refine lv_iload hx hb dX1_turn_218 (lv_at hl 0 rfl) ?_
    refine ax_iald hx hb hK hP 2 2 rfl rfl (by omega) (by omega) (v := nI (acc.getD j 0)) (rfl) dX1_turn_220 ?_
    refine ax_iast hx hb hK hP hD hS 3 2 rfl rfl (by omega) (by omega) (g := (ud_ov acc (j + 1) (fun _ => 0))) (ud_ov1 _ _ _) dX1_turn_221 (fun H locs hP hD hS => ?_)
    have hP : va_P (dC, dI) vwCl [(oa, .inr (1, [.ref ta, .int (nI sz), .ref ga])), (ta, .inl (kI, 128, .inl (ud_I b))), (ra, .inl (kI, 256, .inl (ud_L acc))), (ga, .inl (kI, acc.length, .inl (ud_ov acc (j + 1) (fun _ => 0))))] H := hP
    have hD : va_D A [(oa, .inr (1, [.ref ta, .int (nI sz), .ref ga])), (ta, .inl (kI, 128, .inl (ud_I b))), (ra, .inl (kI, 256, .inl (ud_L acc))), (ga, .inl (kI, acc.length, .inl (ud_ov acc (j + 1) (fun _ => 0))))] := hD
    refine lv_iinc (v := nI (j + 1)) (lv' := [(10, .int (nI (j + 1))), (7, .int (nI acc.length)), (6, .ref ra), (0, .ref oa)]) hx hb dX1_turn_222 hl (k := 0) rfl (ud_i1 _) (by decide) rfl (fun ls hl => ?_)
    refine lv_goto (tgt := 203) hx hb dX1_turn_225 (by decide) ?_
    exact ih (j + 1) (by omega) H locs hP hD hS ls (lv_sub hl [0, 1, 2, 3] rfl)
abbrev wsX1_turn : List Cond := ws_ yX1_turn cX1_turn 12 (some .int)
set_option maxHeartbeats 4000000 in
set_option maxRecDepth 100000 in
/-- turn(from, n, room) -/
theorem me_X1_turn (l : Launch) (dC : Nat → ClassId) (dI : Nat → Nat → Nat) (kB kC kI : ClassId) (sz0 : Nat) (oa ta ua : Nat) (b : Nat → Nat) (sz : Nat) (us : List Nat) (x v y : Int32) (f n w : Nat) (O : Option (List Nat)) (ef : f = ud_m x % (sz + 1)) (en9 : n = ud_m v % (sz - f + 1)) (ew : w = ud_m y % 161) (eO : O = ud_out b f n w) (hsz : sz ≤ 128) (hb256 : ∀ i, b i < 256) : Met l yX1_turn wsX1_turn ({ frames := 2, cells := 2, slots := 416, locals := 50 } : Room) (va_Pc [.ref oa, .int x, .int v, .int y] (ud_P dC dI kB kC kI [(oa, .inr (1, [.ref ta, .int (nI sz), .ref ua])), (ta, .inl (kI, 128, .inl (ud_I b))), (ua, .inl (kI, us.length, .inl (ud_L us)))] sz0)) (va_Qi (fun (r : Int32) (_ : Nat) => r = ud_md O) (fun (g : Nat) (t : State) => va_P (dC, dI) vwCl [(oa, .inr (1, [.ref ta, .int (nI sz), .ref g])), (ta, .inl (kI, 128, .inl (ud_I b))), (g, .inl (kI, (ud_ls O).length, .inl (ud_L (ud_ls O))))] t.heap ∧ va_D (va_A [(oa, .inr (1, [.ref ta, .int (nI sz), .ref ua])), (ta, .inl (kI, 128, .inl (ud_I b))), (ua, .inl (kI, us.length, .inl (ud_L us)))] sz0) [(oa, .inr (1, [.ref ta, .int (nI sz), .ref g])), (ta, .inl (kI, 128, .inl (ud_I b))), (g, .inl (kI, (ud_ls O).length, .inl (ud_L (ud_ls O))))]) (va_A [(oa, .inr (1, [.ref ta, .int (nI sz), .ref ua])), (ta, .inl (kI, 128, .inl (ud_I b))), (ua, .inl (kI, us.length, .inl (ud_L us)))] sz0)) 2 416 (va_A [(oa, .inr (1, [.ref ta, .int (nI sz), .ref ua])), (ta, .inl (kI, 128, .inl (ud_I b))), (ua, .inl (kI, us.length, .inl (ud_L us)))] sz0) := by
  refine Met.ofW (cc := cX1_turn) (maxL := 12) (ret := some .int) (by decide) rfl ?_
  intro p e s m args below meth c s₁ B hml hv
  obtain ⟨rfl, hsz, hP, hK, hD0⟩ := hv
  have hx := B.exec
  have hb := B.bytes
  have hr := B.returns
  have hts := atoms_spec (ws := wsX1_turn) B.pre
  have hts : ∀ w ∈ lw_all, w.before _ s = true := fun w h => hts w (List.mem_cons_of_mem _ h)
  have hown : s.vm.findClass RX1 = some m.cls := findClass_of_methodNamed B.named
  have hlocks := B.notSynchronized
  subst hsz
  have hD := hD0.self (sz := s.heap.size)
  generalize hAe : va_A [(oa, .inr (1, [.ref ta, .int (nI sz), .ref ua])), (ta, .inl (kI, 128, .inl (ud_I b))), (ua, .inl (kI, us.length, .inl (ud_L us)))] s.heap.size = A at hD ⊢
  have hA : ∀ q : Nat, s.heap.size ≤ q → A q := fun q h => by rw [← hAe]; exact Or.inr h
  have hS : va_S A s.heap s.heap [] := va_S.rf
  have hP : va_P (dC, dI) vwCl [(oa, .inr (1, [.ref ta, .int (nI sz), .ref ua])), (ta, .inl (kI, 128, .inl (ud_I b))), (ua, .inl (kI, us.length, .inl (ud_L us)))] s.heap := hP
  have hl := lv_entry ([.ref oa, .int x, .int v, .int y]) (n := 12) (Nat.le_of_ble_eq_true rfl)
  rw [lg_entry_eq]
  generalize (lg_sl ([.ref oa, .int x, .int v, .int y]) ++ List.replicate (12 - (lg_sl ([.ref oa, .int x, .int v, .int y])).length) Slot.unset).toArray = ls at hl ⊢
  have hl : lv_has ls 12 [(0, .ref oa), (1, .int x), (2, .int v), (3, .int y)] := hl
  have hf : f ≤ sz := by rw [ef]; exact Nat.le_of_lt_succ (Nat.mod_lt _ (Nat.succ_pos _))
  have hn : n ≤ sz - f := by rw [en9]; exact Nat.le_of_lt_succ (Nat.mod_lt _ (Nat.succ_pos _))
  have hw9 : w ≤ 160 := by rw [ew]; exact Nat.le_of_lt_succ (Nat.mod_lt _ (by decide))
  refine lv_aload_n hx hb dX1_turn_0 rfl (lv_at hl 0 rfl) ?_
  refine lv_iload_n hx hb dX1_turn_1 rfl (lv_at hl 1 rfl) ?_
  have hPc := hP.sub (ws' := [(oa, .inr (1, [.ref ta, .int (nI sz), .ref ua]))]) [0] rfl
  have hDc := hD.sub (ws' := [(oa, .inr (1, [.ref ta, .int (nI sz), .ref ua]))]) [0] (by decide) rfl
  have hFc := ud_fr hS hA
  refine va_calli (va_runV (As := [.int x]) (rest := []) ⟨hx, hb, hml, hown, hts⟩ (me_X1_begin l dC dI kB kC kI s.heap.size oa ta ua sz x hsz) (cwV 1 hts (lw_V q112 q114 qs3 q7 q115) rfl rfl rfl (by decide +kernel) ⟨Nat.le_of_ble_eq_true rfl, Nat.le_of_ble_eq_true rfl⟩) ⟨ud_bl, va_recv hK hPc (ci := 1) (q0 := 0) rfl rfl, ud_pr hPc hDc hK⟩ rfl rfl hl.1 rfl (lv_room (Nat.le_of_ble_eq_true rfl)) dX1_turn_2 ⟨Nat.le_of_ble_eq_true rfl, Nat.le_of_ble_eq_true rfl⟩) hS (fun q _ h => hFc q h) hFc (fun r_2 u t9 H1 locs ht hvm hw hB hz1 hk1 hS => ?_)
  have hP := ud_ro hP hk1
  clear hPc hDc
  generalize H1 = H at hP hS ⊢
  obtain rfl : r_2 = nI f := hw.trans (congrArg nI ef.symm)
  refine lv_istore (lv' := [(4, .int (nI f)), (0, .ref oa), (1, .int x), (2, .int v), (3, .int y)]) hx hb dX1_turn_5 hl (by decide) rfl (fun ls hl => ?_)
  refine lv_iload hx hb dX1_turn_7 (lv_at hl 0 rfl) ?_
  refine lv_iload_n hx hb dX1_turn_9 rfl (lv_at hl 3 rfl) ?_
  refine lv_ldc (v := (2147483647 : Int32)) hx hb hown (hts _ q116) dX1_turn_10 ?_
  refine lv_iand hx hb dX1_turn_12 ?_
  refine ax_top (y := nI (ud_m v)) (ud_and _) ?_
  have hm_12 := ud_m_lt v
  refine lv_aload_n hx hb dX1_turn_13 rfl (lv_at hl 1 rfl) ?_
  refine va_get (D := (dC, dI)) (ci := 1) (v := .int (nI sz)) (C := RX1) (T := TX1) (N := 3) hx hb hts in_X1 hown hK hP 0 rfl rfl 1 (by decide) (hts _ q94) (fun _ h9 => h9) rfl dX1_turn_14 ?_
  refine lv_iload hx hb dX1_turn_17 (lv_at hl 0 rfl) ?_
  refine lv_isub hx hb dX1_turn_19 ?_
  refine ax_top (y := nI (sz - f)) (pk_sub (by omega)) ?_
  refine lv_iconst (v := nI 1) hx hb dX1_turn_20 (by decide) ?_
  refine lv_iadd hx hb dX1_turn_21 ?_
  refine ax_top (y := nI ((sz - f) + 1)) (nI_add _ _) ?_
  refine ax_irem hx hb (by omega) (by omega) (by omega) dX1_turn_22 ?_
  refine ax_top (y := nI n) (congrArg nI en9.symm) ?_
  refine lv_iadd hx hb dX1_turn_23 ?_
  refine ax_top (y := nI (f + n)) (nI_add _ _) ?_
  refine lv_istore (lv' := [(5, .int (nI (f + n))), (4, .int (nI f)), (0, .ref oa), (1, .int x), (2, .int v), (3, .int y)]) hx hb dX1_turn_24 hl (by decide) rfl (fun ls hl => ?_)
  refine lv_sipush (v := nI 256) hx hb dX1_turn_26 (by decide) ?_
  refine ax_newa (atype := .int) (ty := .int) hx hb rfl (fun _ _ => rfl) rfl (by decide) (hts _ q103) hK 2 rfl hP hD hS hA (by omega) (Nat.le_of_ble_eq_true rfl) (Nat.le_of_ble_eq_true rfl) dX1_turn_29 (fun ra H hP hD hS => ?_)
  have e_29 : (fun _ => (0 : Int32)) = ud_L [] := ud_L0
  rw [e_29] at hP hD
  have hP : va_P (dC, dI) vwCl [(oa, .inr (1, [.ref ta, .int (nI sz), .ref ua])), (ta, .inl (kI, 128, .inl (ud_I b))), (ua, .inl (kI, us.length, .inl (ud_L us))), (ra, .inl (kI, 256, .inl (ud_L [])))] H := hP
  have hD : va_D A [(oa, .inr (1, [.ref ta, .int (nI sz), .ref ua])), (ta, .inl (kI, 128, .inl (ud_I b))), (ua, .inl (kI, us.length, .inl (ud_L us))), (ra, .inl (kI, 256, .inl (ud_L [])))] := hD
  refine lv_astore (lv' := [(6, .ref ra), (5, .int (nI (f + n))), (4, .int (nI f)), (0, .ref oa), (1, .int x), (2, .int v), (3, .int y)]) hx hb dX1_turn_31 hl (by decide) rfl (fun ls hl => ?_)
  refine lv_iconst (v := nI 0) hx hb dX1_turn_33 (by decide) ?_
  refine lv_istore (lv' := [(7, .int (nI 0)), (6, .ref ra), (5, .int (nI (f + n))), (4, .int (nI f)), (0, .ref oa), (1, .int x), (2, .int v), (3, .int y)]) hx hb dX1_turn_34 hl (by decide) rfl (fun ls hl => ?_)
  refine lv_iload hx hb dX1_turn_36 (lv_at hl 3 rfl) ?_
  refine lv_istore (lv' := [(8, .int (nI f)), (7, .int (nI 0)), (6, .ref ra), (5, .int (nI (f + n))), (4, .int (nI f)), (0, .ref oa), (1, .int x), (2, .int v), (3, .int y)]) hx hb dX1_turn_38 hl (by decide) rfl (fun ls hl => ?_)
  refine lv_iconst (v := nI 1) hx hb dX1_turn_40 (by decide) ?_
  refine lv_istore (lv' := [(9, .int (nI 1)), (8, .int (nI f)), (7, .int (nI 0)), (6, .ref ra), (5, .int (nI (f + n))), (4, .int (nI f)), (0, .ref oa), (1, .int x), (2, .int v), (3, .int y)]) hx hb dX1_turn_41 hl (by decide) rfl (fun ls hl => ?_)
  have hl : lv_has ls 12 [(9, .int (nI 1)), (8, .int (nI f)), (7, .int (nI (([] : List Nat).length))), (6, .ref ra), (5, .int (nI (f + n))), (3, .int y), (0, .ref oa)] := lv_sub hl [0, 1, 2, 3, 4, 9, 6] rfl
  refine lo_X1_turn hx hb hml hown hts hK hA (by exact Nat.le_of_ble_eq_true rfl) (by exact Nat.le_of_ble_eq_true rfl) (by exact Nat.le_of_ble_eq_true rfl) (by exact Nat.le_of_ble_eq_true rfl) hb256 (by omega) (Z := ud_all b (f + n) (n + 1) f) (fun hZ acc hacc H locs hP hD hS ls hl => ?_) (fun acc hZ hacc H locs hP hD hS ls hl => ?_) (n + 1) f [] (by omega) (by omega) (Nat.zero_le _) (by cases ud_all b (f + n) (n + 1) f <;> rfl) H locs hP hD hS ls hl
  · have hO9 : O = none := by rw [eO]; unfold ud_out; rw [hZ]; rfl
    refine lv_iload hx hb dX1_turn_165 (lv_at hl 0 rfl) ?_
    refine ax_if_eq (tgt := 183) hx hb (by omega) dX1_turn_167 (by decide) (fun c_167 => ?_) (fun c_167 => absurd c_167 (by omega))
    refine lv_aload_n hx hb dX1_turn_183 rfl (lv_at hl 4 rfl) ?_
    refine lv_iconst (v := nI 0) hx hb dX1_turn_184 (by decide) ?_
    refine ax_newa (atype := .int) (ty := .int) hx hb rfl (fun _ _ => rfl) rfl (by decide) (hts _ q103) hK 2 rfl hP hD hS hA (by omega) (Nat.le_of_ble_eq_true rfl) (Nat.le_of_ble_eq_true rfl) dX1_turn_185 (fun ga H hP hD hS => ?_)
    have e_185 : (fun _ => (0 : Int32)) = ud_L [] := ud_L0
    rw [e_185] at hP hD
    have hP : va_P (dC, dI) vwCl [(oa, .inr (1, [.ref ta, .int (nI sz), .ref ua])), (ta, .inl (kI, 128, .inl (ud_I b))), (ua, .inl (kI, us.length, .inl (ud_L us))), (ra, .inl (kI, 256, .inl (ud_L acc))), (ga, .inl (kI, 0, .inl (ud_L [])))] H := hP
    have hD : va_D A [(oa, .inr (1, [.ref ta, .int (nI sz), .ref ua])), (ta, .inl (kI, 128, .inl (ud_I b))), (ua, .inl (kI, us.length, .inl (ud_L us))), (ra, .inl (kI, 256, .inl (ud_L acc))), (ga, .inl (kI, 0, .inl (ud_L [])))] := hD
    refine va_put (D := (dC, dI)) (ci := 1) (v := .ref ga) (ty := .array .int) (C := RX1) (T := TX1) (N := 3) hx hb hts in_X1 tyX1 tyX1_ok nmX1 hown hK hP hD hS 0 rfl rfl 2 (by decide) (hts _ q95) (fun _ h9 => h9) rfl (by decide +kernel) rfl rfl (Nat.le_of_ble_eq_true rfl) dX1_turn_187 (fun H locs hP hD hS => ?_)
    have hP : va_P (dC, dI) vwCl [(oa, .inr (1, [.ref ta, .int (nI sz), .ref ga])), (ta, .inl (kI, 128, .inl (ud_I b))), (ua, .inl (kI, us.length, .inl (ud_L us))), (ra, .inl (kI, 256, .inl (ud_L acc))), (ga, .inl (kI, 0, .inl (ud_L [])))] H := hP
    have hD : va_D A [(oa, .inr (1, [.ref ta, .int (nI sz), .ref ga])), (ta, .inl (kI, 128, .inl (ud_I b))), (ua, .inl (kI, us.length, .inl (ud_L us))), (ra, .inl (kI, 256, .inl (ud_L acc))), (ga, .inl (kI, 0, .inl (ud_L [])))] := hD
    refine lv_iconst (v := (-1)) hx hb dX1_turn_190 (by decide) ?_
    subst hO9
    have hP9 : va_P (dC, dI) vwCl [(oa, .inr (1, [.ref ta, .int (nI sz), .ref ga])), (ta, .inl (kI, 128, .inl (ud_I b))), (ga, .inl (kI, (ud_ls none).length, .inl (ud_L (ud_ls none))))] H := by exact hP.sub (ws' := [(oa, .inr (1, [.ref ta, .int (nI sz), .ref ga])), (ta, .inl (kI, 128, .inl (ud_I b))), (ga, .inl (kI, 0, .inl (ud_L [])))]) [0, 1, 4] rfl
    have hD9 : va_D A [(oa, .inr (1, [.ref ta, .int (nI sz), .ref ga])), (ta, .inl (kI, 128, .inl (ud_I b))), (ga, .inl (kI, (ud_ls none).length, .inl (ud_L (ud_ls none))))] := by exact hD.sub (ws' := [(oa, .inr (1, [.ref ta, .int (nI sz), .ref ga])), (ta, .inl (kI, 128, .inl (ud_I b))), (ga, .inl (kI, 0, .inl (ud_L [])))]) [0, 1, 4] (by decide) rfl
    refine W.widen (k := 2) (n := 416) (Nat.le_of_ble_eq_true rfl) (Nat.le_of_ble_eq_true rfl) ?_
    exact W.iret (v := (-1)) hx hb hr (fun t ht hW => ⟨⟨(-1), ga, rfl, rfl, ⟨by rw [ht]; exact hP9, hD9⟩⟩, hS.F ht⟩) hS.2.2 dX1_turn_191
  · refine lv_iload hx hb dX1_turn_165 (lv_at hl 0 rfl) ?_
    refine ax_if_eq (tgt := 183) hx hb (by omega) dX1_turn_167 (by decide) (fun c_167 => absurd c_167 (by omega)) (fun c_167 => ?_)
    refine lv_iload hx hb dX1_turn_170 (lv_at hl 1 rfl) ?_
    refine lv_iload_n hx hb dX1_turn_172 rfl (lv_at hl 3 rfl) ?_
    refine lv_ldc (v := (2147483647 : Int32)) hx hb hown (hts _ q116) dX1_turn_173 ?_
    refine lv_iand hx hb dX1_turn_175 ?_
    refine ax_top (y := nI (ud_m y)) (ud_and _) ?_
    have hm_175 := ud_m_lt y
    refine lv_sipush (v := nI 161) hx hb dX1_turn_176 (by decide) ?_
    refine ax_irem hx hb (by omega) (by omega) (by omega) dX1_turn_179 ?_
    refine ax_top (y := nI w) (congrArg nI ew.symm) ?_
    refine ax_icmp_le (tgt := 192) hx hb (by omega) (by omega) dX1_turn_180 (by decide) (fun c_180 => ?_) (fun c_180 => ?_)
    · have hO9 : O = some acc := by rw [eO]; unfold ud_out; rw [hZ]; exact if_pos c_180
      refine lv_aload_n hx hb dX1_turn_192 rfl (lv_at hl 4 rfl) ?_
      refine lv_iload hx hb dX1_turn_193 (lv_at hl 1 rfl) ?_
      refine ax_newa (atype := .int) (ty := .int) hx hb rfl (fun _ _ => rfl) rfl (by decide) (hts _ q103) hK 2 rfl hP hD hS hA (by omega) (Nat.le_of_ble_eq_true rfl) (by show 256 + acc.length ≤ 416; omega) dX1_turn_195 (fun ga H hP hD hS => ?_)
      have e_195 : (fun _ => (0 : Int32)) = (ud_ov acc 0 (fun _ => 0)) := (ud_ov0 acc _).symm
      rw [e_195] at hP hD
      have hP : va_P (dC, dI) vwCl [(oa, .inr (1, [.ref ta, .int (nI sz), .ref ua])), (ta, .inl (kI, 128, .inl (ud_I b))), (ua, .inl (kI, us.length, .inl (ud_L us))), (ra, .inl (kI, 256, .inl (ud_L acc))), (ga, .inl (kI, acc.length, .inl (ud_ov acc 0 (fun _ => 0))))] H := hP
      have hD : va_D A [(oa, .inr (1, [.ref ta, .int (nI sz), .ref ua])), (ta, .inl (kI, 128, .inl (ud_I b))), (ua, .inl (kI, us.length, .inl (ud_L us))), (ra, .inl (kI, 256, .inl (ud_L acc))), (ga, .inl (kI, acc.length, .inl (ud_ov acc 0 (fun _ => 0))))] := hD
      refine W.widen (k := 2) (n := 416) (by omega) (by omega) ?_
      refine va_put (D := (dC, dI)) (ci := 1) (v := .ref ga) (ty := .array .int) (C := RX1) (T := TX1) (N := 3) hx hb hts in_X1 tyX1 tyX1_ok nmX1 hown hK hP hD hS 0 rfl rfl 2 (by decide) (hts _ q95) (fun _ h9 => h9) rfl (by decide +kernel) rfl rfl (Nat.le_of_ble_eq_true rfl) dX1_turn_197 (fun H locs hP hD hS => ?_)
      have hP : va_P (dC, dI) vwCl [(oa, .inr (1, [.ref ta, .int (nI sz), .ref ga])), (ta, .inl (kI, 128, .inl (ud_I b))), (ua, .inl (kI, us.length, .inl (ud_L us))), (ra, .inl (kI, 256, .inl (ud_L acc))), (ga, .inl (kI, acc.length, .inl (ud_ov acc 0 (fun _ => 0))))] H := hP
      have hD : va_D A [(oa, .inr (1, [.ref ta, .int (nI sz), .ref ga])), (ta, .inl (kI, 128, .inl (ud_I b))), (ua, .inl (kI, us.length, .inl (ud_L us))), (ra, .inl (kI, 256, .inl (ud_L acc))), (ga, .inl (kI, acc.length, .inl (ud_ov acc 0 (fun _ => 0))))] := hD
      refine lv_iconst (v := nI 0) hx hb dX1_turn_200 (by decide) ?_
      refine lv_istore (lv' := [(10, .int (nI 0)), (9, .int (nI 1)), (7, .int (nI acc.length)), (6, .ref ra), (3, .int y), (0, .ref oa)]) hx hb dX1_turn_201 hl (by decide) rfl (fun ls hl => ?_)
      have hP := hP.sub (ws' := [(oa, .inr (1, [.ref ta, .int (nI sz), .ref ga])), (ta, .inl (kI, 128, .inl (ud_I b))), (ra, .inl (kI, 256, .inl (ud_L acc))), (ga, .inl (kI, acc.length, .inl (ud_ov acc 0 (fun _ => 0))))]) [0, 1, 3, 4] rfl
      have hD := hD.sub (ws' := [(oa, .inr (1, [.ref ta, .int (nI sz), .ref ga])), (ta, .inl (kI, 128, .inl (ud_I b))), (ra, .inl (kI, 256, .inl (ud_L acc))), (ga, .inl (kI, acc.length, .inl (ud_ov acc 0 (fun _ => 0))))]) [0, 1, 3, 4] (by decide) rfl
      refine lo_X1_copy hx hb hml hown hts hK hA (by omega) (fun H locs hP hD hS ls hl => ?_) acc.length 0 (Nat.zero_add _) H locs hP hD hS ls (lv_sub hl [0, 2, 3, 5] rfl)
      have hP := ud_at hP 3 rfl (g := ud_L acc) (ud_ovL acc)
      have hD := ud_Dat hD 3 rfl (.inl (kI, acc.length, .inl (ud_L acc)))
      have hP : va_P (dC, dI) vwCl [(oa, .inr (1, [.ref ta, .int (nI sz), .ref ga])), (ta, .inl (kI, 128, .inl (ud_I b))), (ra, .inl (kI, 256, .inl (ud_L acc))), (ga, .inl (kI, acc.length, .inl (ud_L acc)))] H := hP
      have hD : va_D A [(oa, .inr (1, [.ref ta, .int (nI sz), .ref ga])), (ta, .inl (kI, 128, .inl (ud_I b))), (ra, .inl (kI, 256, .inl (ud_L acc))), (ga, .inl (kI, acc.length, .inl (ud_L acc)))] := hD
      refine lv_iload hx hb dX1_turn_228 (lv_at hl 1 rfl) ?_
      subst hO9
      have hP9 : va_P (dC, dI) vwCl [(oa, .inr (1, [.ref ta, .int (nI sz), .ref ga])), (ta, .inl (kI, 128, .inl (ud_I b))), (ga, .inl (kI, (ud_ls (some acc)).length, .inl (ud_L (ud_ls (some acc)))))] H := by exact hP.sub (ws' := [(oa, .inr (1, [.ref ta, .int (nI sz), .ref ga])), (ta, .inl (kI, 128, .inl (ud_I b))), (ga, .inl (kI, acc.length, .inl (ud_L acc)))]) [0, 1, 3] rfl
      have hD9 : va_D A [(oa, .inr (1, [.ref ta, .int (nI sz), .ref ga])), (ta, .inl (kI, 128, .inl (ud_I b))), (ga, .inl (kI, (ud_ls (some acc)).length, .inl (ud_L (ud_ls (some acc)))))] := by exact hD.sub (ws' := [(oa, .inr (1, [.ref ta, .int (nI sz), .ref ga])), (ta, .inl (kI, 128, .inl (ud_I b))), (ga, .inl (kI, acc.length, .inl (ud_L acc)))]) [0, 1, 3] (by decide) rfl
      exact W.iret (v := nI acc.length) hx hb hr (fun t ht hW => ⟨⟨nI acc.length, ga, rfl, rfl, ⟨by rw [ht]; exact hP9, hD9⟩⟩, hS.F ht⟩) hS.2.2 dX1_turn_230
    · have hO9 : O = none := by rw [eO]; unfold ud_out; rw [hZ]; exact if_neg (by omega)
      refine lv_aload_n hx hb dX1_turn_183 rfl (lv_at hl 4 rfl) ?_
      refine lv_iconst (v := nI 0) hx hb dX1_turn_184 (by decide) ?_
      refine ax_newa (atype := .int) (ty := .int) hx hb rfl (fun _ _ => rfl) rfl (by decide) (hts _ q103) hK 2 rfl hP hD hS hA (by omega) (Nat.le_of_ble_eq_true rfl) (Nat.le_of_ble_eq_true rfl) dX1_turn_185 (fun ga H hP hD hS => ?_)
      have e_185 : (fun _ => (0 : Int32)) = ud_L [] := ud_L0
      rw [e_185] at hP hD
      have hP : va_P (dC, dI) vwCl [(oa, .inr (1, [.ref ta, .int (nI sz), .ref ua])), (ta, .inl (kI, 128, .inl (ud_I b))), (ua, .inl (kI, us.length, .inl (ud_L us))), (ra, .inl (kI, 256, .inl (ud_L acc))), (ga, .inl (kI, 0, .inl (ud_L [])))] H := hP
      have hD : va_D A [(oa, .inr (1, [.ref ta, .int (nI sz), .ref ua])), (ta, .inl (kI, 128, .inl (ud_I b))), (ua, .inl (kI, us.length, .inl (ud_L us))), (ra, .inl (kI, 256, .inl (ud_L acc))), (ga, .inl (kI, 0, .inl (ud_L [])))] := hD
      refine va_put (D := (dC, dI)) (ci := 1) (v := .ref ga) (ty := .array .int) (C := RX1) (T := TX1) (N := 3) hx hb hts in_X1 tyX1 tyX1_ok nmX1 hown hK hP hD hS 0 rfl rfl 2 (by decide) (hts _ q95) (fun _ h9 => h9) rfl (by decide +kernel) rfl rfl (Nat.le_of_ble_eq_true rfl) dX1_turn_187 (fun H locs hP hD hS => ?_)
      have hP : va_P (dC, dI) vwCl [(oa, .inr (1, [.ref ta, .int (nI sz), .ref ga])), (ta, .inl (kI, 128, .inl (ud_I b))), (ua, .inl (kI, us.length, .inl (ud_L us))), (ra, .inl (kI, 256, .inl (ud_L acc))), (ga, .inl (kI, 0, .inl (ud_L [])))] H := hP
      have hD : va_D A [(oa, .inr (1, [.ref ta, .int (nI sz), .ref ga])), (ta, .inl (kI, 128, .inl (ud_I b))), (ua, .inl (kI, us.length, .inl (ud_L us))), (ra, .inl (kI, 256, .inl (ud_L acc))), (ga, .inl (kI, 0, .inl (ud_L [])))] := hD
      refine lv_iconst (v := (-1)) hx hb dX1_turn_190 (by decide) ?_
      subst hO9
      have hP9 : va_P (dC, dI) vwCl [(oa, .inr (1, [.ref ta, .int (nI sz), .ref ga])), (ta, .inl (kI, 128, .inl (ud_I b))), (ga, .inl (kI, (ud_ls none).length, .inl (ud_L (ud_ls none))))] H := by exact hP.sub (ws' := [(oa, .inr (1, [.ref ta, .int (nI sz), .ref ga])), (ta, .inl (kI, 128, .inl (ud_I b))), (ga, .inl (kI, 0, .inl (ud_L [])))]) [0, 1, 4] rfl
      have hD9 : va_D A [(oa, .inr (1, [.ref ta, .int (nI sz), .ref ga])), (ta, .inl (kI, 128, .inl (ud_I b))), (ga, .inl (kI, (ud_ls none).length, .inl (ud_L (ud_ls none))))] := by exact hD.sub (ws' := [(oa, .inr (1, [.ref ta, .int (nI sz), .ref ga])), (ta, .inl (kI, 128, .inl (ud_I b))), (ga, .inl (kI, 0, .inl (ud_L [])))]) [0, 1, 4] (by decide) rfl
      refine W.widen (k := 2) (n := 416) (Nat.le_of_ble_eq_true rfl) (Nat.le_of_ble_eq_true rfl) ?_
      exact W.iret (v := (-1)) hx hb hr (fun t ht hW => ⟨⟨(-1), ga, rfl, rfl, ⟨by rw [ht]; exact hP9, hD9⟩⟩, hS.F ht⟩) hS.2.2 dX1_turn_191
end
section
/-! THE CLAIM OUT OF ONE WALK OF THE LAW'S BODY. Your part is whole_start (and what it stands on); all else here is the same for every law, but numbers. -/
def R_law : String := "UtfDeskLaw"
def lw_P (b : Addr) (xs : List Int32) (args : Array Value) (s : State) : Prop := args = #[.ref b] ∧ s.IntsAt b xs ∧ xs.length ≤ 288 ∧ (Jvm.Cond.and given_1 narrow_1).before args s = true
def lw_Q (_ : Array Value) (s : State) (o : Outcome) (t : State) : Prop := o = .returned (some (.int 1)) ∧ Framed s o t [] 1200000 5502250
def lw_Z (below : List Frame) (a : Array Value) (s : State) : State → Prop := fun t => ∃ o, t.status = .running ∧ Ended t below o ∧ lw_Q a s o t
/-- the law's own end, with 1 on the stack, nothing written that was there before, its room as the claim has it -/
theorem lw_ret {p : Program} {l : Launch} {e : Env} {s : State} {m : MethodId} {below : List Frame} {meth : Method} {c : Code} {b : Nat} (hx : p.tables.exec = Jvm.exec) (hb : c.code = code) (hr : meth.sig.returnType = ret) (hlocks : meth.locks = false) {pc : Nat} {H : Heap} {ls : Array Slot} (hdg : decode code pc = .ok (.ireturn, 1)) : W p l e room_1 s m #[Value.ref b] below meth c H [] 1200000 5502250 (lw_Z below #[Value.ref b] s) (F0 m pc ls [.int 1]) := by
  intro T hT X
  obtain ⟨fs, hret, hrun, hended, hW, hframe⟩ := X.leave (v := some (.int 1)) (hlocks := hlocks) (fun h => by rw [hr] at h; cases h)
  have hmeth' : T.vm.method? m = some meth := X.method'
  refine ⟨T.setFrames fs, ?_, .returned (some (.int 1)), hrun, hended, rfl, ⟨_, rfl⟩, hW, hframe⟩
  jvm_step X.here [X.here.top, hx, hb, hdg, hmeth', hr, ret, narrow_b1]
  (try refine ⟨rfl, ?_⟩); (try refine ⟨rfl, ?_⟩)
  first | (intro acts; rw [hret _ acts rfl rfl rfl]) | rw [hret _ _ rfl rfl rfl]
  exact Steps.refl _
/-- what holds at the law's entry: the machine, the code, the tables' words (any of lw_tbl by 'hts w (by decide +kernel)'), the script of L ints xs at the cell b, what the Statement gives of the start (any of its parts by flat_of_before) -/
def lw_At (p : Program) (s : State) (m : MethodId) (meth : Method) (c : Code) (b L : Nat) (xs : Nat → Int32) : Prop :=
  p.tables.exec = Jvm.exec ∧ c.code = code ∧ meth.sig.returnType = ret ∧ c.maxLocals = 4 ∧ s.vm.findClass R_law = some m.cls ∧ (∀ w ∈ lw_tbl, w.before #[Value.ref b] s = true) ∧ va_X b L xs s s.heap ∧ b < s.heap.size ∧ meth.locks = false ∧ (Jvm.Cond.and given_1 narrow_1).before #[Value.ref b] s = true
/-! the tables of UTF8 at the start, the array classes -/
theorem ud_kA {args : Array Value} {s : State} {ty : FieldType} (hra : ∀ (U : State) (cA : ClassId), va_RA U cA ty = (U.vm.findClass ("[" ++ ty.toString) = some cA)) (h : (Cond.arrayClass ty).before args s = true) : ∃ cA : ClassId, ArrOfT s cA ty ∧ va_RA s cA ty := by
  obtain ⟨cA, kA, comp, h1, h2, h3⟩ := Cond.arrayClass_spec h
  exact ⟨cA, fun n z => ⟨fun k h => (by cases h), kA, h2, comp, h3⟩, by rw [hra]; exact h1⟩
def ud_all1 : List Cond := flatC (Jvm.Cond.and given_1 narrow_1)
set_option maxRecDepth 100000 in
theorem ud_f1 : ∀ j, j < 128 → ud_all1[9 + j]? = some (Cond.eq (.elem (.static "UTF8" "firstUnitTable" "[S") (.int (Int32.ofNat j))) (.int (ud_ft j))) := by decide +kernel
set_option maxRecDepth 100000 in
theorem ud_f2 : ∀ j, j < 112 → ud_all1[141 + j]? = some (Cond.eq (.elem (.static "UTF8" "transitionTable" "[B") (.int (Int32.ofNat j))) (.int (ud_tr j))) := by decide +kernel
set_option maxRecDepth 100000 in
theorem ud_S0 {args : Array Value} {s : State} {A : Nat → Prop} (hA : ∀ a : Nat, a < s.heap.size → ¬ A a) (hts : ∀ w ∈ lw_tbl, w.before args s = true) (hgv : (Jvm.Cond.and given_1 narrow_1).before args s = true) : ud_S A s s.heap := by
  have hs := flat_of_before _ hgv
  have a1 : (Cond.arrayOf (.static "UTF8" "firstUnitTable" "[S") .short).before args s = true := hs _ (by decide +kernel)
  have a2 : (Cond.arrayOf (.static "UTF8" "transitionTable" "[B") .byte).before args s = true := hs _ (by decide +kernel)
  have b1 : (Cond.eq (.length (.static "UTF8" "firstUnitTable" "[S")) (.int 128)).before args s = true := hs _ (by decide +kernel)
  have b2 : (Cond.eq (.length (.static "UTF8" "transitionTable" "[B")) (.int 112)).before args s = true := hs _ (by decide +kernel)
  obtain ⟨t1, e1, h1⟩ := va_Tof (N := 128) (f := fun j => .int (ud_ft j)) (A := A) (by decide) a1 (va_eqt b1) (fun j hj => va_eqt (hs _ (List.mem_of_getElem? (ud_f1 j hj)))) hA
  obtain ⟨t2, e2, h2⟩ := va_Tof (N := 112) (f := fun j => .int (ud_tr j)) (A := A) (by decide) a2 (va_eqt b2) (fun j hj => va_eqt (hs _ (List.mem_of_getElem? (ud_f2 j hj)))) hA
  exact ⟨t1, t2, h1, va_Zref (hts _ q67) (hts _ (lw_all_tbl q8)) e1 hA, h2, va_Zref (hts _ q69) (hts _ (lw_all_tbl q8)) e2 hA⟩
theorem ud_gt6 {L i : Nat} (hL : L < 1073741824) (hi : i < 1073741824) : nI L - nI 6 < nI i ↔ L < i + 6 := by
  rw [Int32.lt_iff_toInt_lt, pk_sub_toInt hL (by decide), nI_toInt (by omega)]
  omega
theorem ud_unit_eq {O : Option (List Nat)} {un : Nat → Int32} (h : ∀ l, O = some l → l.length ≤ 160 ∧ ∀ i, i < l.length → un i = nI (l.getD i 0)) (x : Nat) : (if (ud_ls O).length = 0 then (-1 : Int32) else un (x % (ud_ls O).length)) = if (ud_ls O).length = 0 then -1 else ud_L (ud_ls O) (x % (ud_ls O).length) := by
  by_cases h0 : (ud_ls O).length = 0
  · rw [if_pos h0, if_pos h0]
  · rw [if_neg h0, if_neg h0]
    cases O with
    | none => exact absurd rfl h0
    | some l => exact (h l rfl).2 _ (Nat.mod_lt _ (Nat.pos_of_ne_zero h0))
theorem ud_md_eq (O : Option (List Nat)) : (ud_md O = -1 ∧ (ud_ls O).length = 0) ∨ ud_md O = nI (ud_ls O).length := by
  cases O with
  | none => exact Or.inl ⟨rfl, rfl⟩
  | some l => exact Or.inr rfl
end
section
/-! THE LAW'S LOOP -/
set_option maxHeartbeats 4000000 in
set_option maxRecDepth 100000 in
theorem lo_law {p : Program} {l : Launch} {e : Env} {s : State} {m : MethodId} {below : List Frame} {meth : Method} {c : Code} {dC : Nat → ClassId} {dI : Nat → Nat → Nat} {kB kC kI : ClassId} {A : Nat → Prop} {b L : Nat} {xs : Nat → Int32} (hL : L ≤ 288) (C0 : lw_At p s m meth c b L xs) (hAe : A = fun q => s.heap.size ≤ q) (hK : va_K (dC, dI) vwCl (ud_T kB kC kI) s) (hT : ud_S A s s.heap) : ∀ (n t : Nat) (bb : Nat → Nat) (sz : Nat) (O : Option (List Nat)) (un : Nat → Int32) (mk : Int32) (oa ta ua ob tb ub : Nat), L < 6 * t + n → t ≤ 48 → (∀ i, bb i < 256) → sz ≤ 128 → mk = ud_md O → (∀ l, O = some l → l.length ≤ 160 ∧ ∀ i, i < l.length → un i = nI (l.getD i 0)) → ∀ (H : Heap) (locs : List Loc), va_P (dC, dI) vwCl [(oa, .inr (0, [.ref ta, .int (nI sz), .ref ua, .int mk])), (ta, .inl (kB, 128, .inl (ud_B bb))), (ua, .inl (kC, 160, .inl un)), (ob, .inr (1, [.ref tb, .int (nI sz), .ref ub])), (tb, .inl (kI, 128, .inl (ud_I bb))), (ub, .inl (kI, (ud_ls O).length, .inl (ud_L (ud_ls O))))] H → va_D A [(oa, .inr (0, [.ref ta, .int (nI sz), .ref ua, .int mk])), (ta, .inl (kB, 128, .inl (ud_B bb))), (ua, .inl (kC, 160, .inl un)), (ob, .inr (1, [.ref tb, .int (nI sz), .ref ub])), (tb, .inl (kI, 128, .inl (ud_I bb))), (ub, .inl (kI, (ud_ls O).length, .inl (ud_L (ud_ls O))))] → va_S A s.heap H locs → ∀ (ls : Array Slot), lv_has ls 4 [(0, .ref b), (1, .ref oa), (2, .ref ob), (3, .int (nI (6 * t)))] → W p l e room_1 s m #[Value.ref b] below meth c H locs (4 * t + 6) (704 * t + 1000) (lw_Z below #[Value.ref b] s) (F0 m 18 ls []) := by
  obtain ⟨hx, hb, hr, hml, hown, hts0, hX, hbl, hlocks, hgv⟩ := C0
  have hts : ∀ w ∈ lw_all, w.before #[Value.ref b] s = true := fun w h => hts0 w (lw_all_tbl h)
  have hA : ∀ q : Nat, s.heap.size ≤ q → A q := fun q h => by rw [hAe]; exact h
  have hbA : ¬ A b := by rw [hAe]; exact Nat.not_le.mpr hbl
  intro n
  induction n with
  | zero =>
    intro t bb sz O un mk oa ta ua ob tb ub hn ht9 hb256 hsz hmk hun H locs hP hD hS ls hl
    refine lv_iload_n hx hb dL_law_18 rfl (lv_at hl 3 rfl) ?_
    refine lv_aload_n hx hb dL_law_19 rfl (lv_at hl 0 rfl) ?_
    refine va_slen hx hb hX hbl hbA hS dL_law_20 ?_
    refine ax_top (y := nI L) (rfl) ?_
    refine lv_bipush (v := nI 6) hx hb dL_law_21 (by decide) ?_
    refine lv_isub hx hb dL_law_23 ?_
    refine lv_icmp_gt (tgt := 284) hx hb dL_law_24 (by decide) (fun c_24 => ?_) (fun c_24 => absurd c_24 (fun c9 => c9 ((ud_gt6 (by omega) (by omega)).mpr (by omega))))
    refine lv_iconst (v := 1) hx hb dL_law_284 (by decide) ?_
    refine va_forget (fun q hq => by have := hS.2.2 q hq; rw [hAe] at this; exact this) ?_
    refine W.widen (k := 1200000) (n := 5502250) (by omega) (by omega) ?_
    exact lw_ret hx hb hr hlocks dL_law_285
  | succ n ih =>
    intro t bb sz O un mk oa ta ua ob tb ub hn ht9 hb256 hsz hmk hun H locs hP hD hS ls hl
    refine lv_iload_n hx hb dL_law_18 rfl (lv_at hl 3 rfl) ?_
    refine lv_aload_n hx hb dL_law_19 rfl (lv_at hl 0 rfl) ?_
    refine va_slen hx hb hX hbl hbA hS dL_law_20 ?_
    refine ax_top (y := nI L) (rfl) ?_
    refine lv_bipush (v := nI 6) hx hb dL_law_21 (by decide) ?_
    refine lv_isub hx hb dL_law_23 ?_
    refine lv_icmp_gt (tgt := 284) hx hb dL_law_24 (by decide) (fun c_24 => ?_) (fun c_24 => ?_)
    · refine lv_iconst (v := 1) hx hb dL_law_284 (by decide) ?_
      refine va_forget (fun q hq => by have := hS.2.2 q hq; rw [hAe] at this; exact this) ?_
      refine W.widen (k := 1200000) (n := 5502250) (by omega) (by omega) ?_
      exact lw_ret hx hb hr hlocks dL_law_285
    · have hi6 : 6 * t + 6 ≤ L := Nat.le_of_not_lt (fun q => c_24 ((ud_gt6 (by omega) (by omega)).mpr q))
      refine lv_aload_n hx hb dL_law_27 rfl (lv_at hl 0 rfl) ?_
      refine lv_iload_n hx hb dL_law_28 rfl (lv_at hl 3 rfl) ?_
      refine ax_sld hx hb hX hbl hbA hS (by omega) (by omega) dL_law_29 ?_
      refine lv_bipush (v := nI 7) hx hb dL_law_30 (by decide) ?_
      obtain ⟨k9, hk9, ek9⟩ := pk_andE (xs (6 * t)) (m := nI 7) 3 (by decide)
      refine lv_iand hx hb dL_law_32 ?_
      refine ax_top (y := nI k9) (ek9) ?_
      rcases (show k9 = 0 ∨ k9 = 1 ∨ k9 = 2 ∨ k9 = 3 ∨ k9 = 4 ∨ k9 = 5 ∨ k9 = 6 ∨ k9 = 7 by omega) with rfl | rfl | rfl | rfl | rfl | rfl | rfl | rfl
      · refine lv_tableIn (off := 39) (tgt := 72) hx hb dL_law_33 (by decide) (by decide) (by decide) (by decide) ?_
        refine lv_aload_n hx hb dL_law_72 rfl (lv_at hl 1 rfl) ?_
        refine lv_aload_n hx hb dL_law_73 rfl (lv_at hl 0 rfl) ?_
        refine lv_iload_n hx hb dL_law_74 rfl (lv_at hl 3 rfl) ?_
        refine lv_iconst (v := nI 1) hx hb dL_law_75 (by decide) ?_
        refine lv_iadd hx hb dL_law_76 ?_
        refine ax_top (y := nI ((6 * t) + 1)) (nI_add _ _) ?_
        refine ax_sld hx hb hX hbl hbA hS (by omega) (by omega) dL_law_77 ?_
        refine lv_aload_n hx hb dL_law_78 rfl (lv_at hl 0 rfl) ?_
        refine lv_iload_n hx hb dL_law_79 rfl (lv_at hl 3 rfl) ?_
        refine lv_iconst (v := nI 2) hx hb dL_law_80 (by decide) ?_
        refine lv_iadd hx hb dL_law_81 ?_
        refine ax_top (y := nI ((6 * t) + 2)) (nI_add _ _) ?_
        refine ax_sld hx hb hX hbl hbA hS (by omega) (by omega) dL_law_82 ?_
        refine lv_aload_n hx hb dL_law_83 rfl (lv_at hl 0 rfl) ?_
        refine lv_iload_n hx hb dL_law_84 rfl (lv_at hl 3 rfl) ?_
        refine lv_iconst (v := nI 3) hx hb dL_law_85 (by decide) ?_
        refine lv_iadd hx hb dL_law_86 ?_
        refine ax_top (y := nI ((6 * t) + 3)) (nI_add _ _) ?_
        refine ax_sld hx hb hX hbl hbA hS (by omega) (by omega) dL_law_87 ?_
        refine lv_aload_n hx hb dL_law_88 rfl (lv_at hl 0 rfl) ?_
        refine lv_iload_n hx hb dL_law_89 rfl (lv_at hl 3 rfl) ?_
        refine lv_iconst (v := nI 4) hx hb dL_law_90 (by decide) ?_
        refine lv_iadd hx hb dL_law_91 ?_
        refine ax_top (y := nI ((6 * t) + 4)) (nI_add _ _) ?_
        refine ax_sld hx hb hX hbl hbA hS (by omega) (by omega) dL_law_92 ?_
        have hPc := hP.sub (ws' := [(oa, .inr (0, [.ref ta, .int (nI sz), .ref ua, .int mk])), (ta, .inl (kB, 128, .inl (ud_B bb)))]) [0, 1] rfl
        have hDc := hD.sub (ws' := [(oa, .inr (0, [.ref ta, .int (nI sz), .ref ua, .int mk])), (ta, .inl (kB, 128, .inl (ud_B bb)))]) [0, 1] (by decide) rfl
        have hFc := va_free (wc := [(oa, .inr (0, [.ref ta, .int (nI sz), .ref ua, .int mk])), (ta, .inl (kB, 128, .inl (ud_B bb)))]) hD hS hA [0, 1] rfl
        refine va_calli (va_runV (As := [.int (xs ((6 * t) + 1)), .int (xs ((6 * t) + 2)), .int (xs ((6 * t) + 3)), .int (xs ((6 * t) + 4))]) (rest := []) ⟨hx, hb, hml, hown, hts⟩ (me_X0_put l dC dI kB kC kI H.size oa ta ua bb sz mk (xs (6 * t + 1)) (xs (6 * t + 2)) (xs (6 * t + 3)) (xs (6 * t + 4)) hsz) (cwV 4 hts (lw_V q32 q33 q34 q6 q35) rfl rfl rfl (by decide +kernel) ⟨Nat.le_of_ble_eq_true rfl, Nat.le_of_ble_eq_true rfl⟩) ⟨ud_bl, va_recv hK hPc (ci := 0) (q0 := 0) rfl rfl, ud_pr hPc hDc hK⟩ rfl rfl hl.1 rfl (lv_room (Nat.le_of_ble_eq_true rfl)) dL_law_93 ⟨(by show _ ≤ 1200000; omega), (by show _ ≤ 5502250; omega)⟩) hS (fun q _ h => hFc q h) hFc (fun r_93 u t9 H1 locs ht hvm hw hB hz1 hk1 hS => ?_)
        obtain ⟨hP1, hD1⟩ := hB
        rw [ht] at hP1
        obtain ⟨hP, hD⟩ := va_join (wc := [(oa, .inr (0, [.ref ta, .int (nI sz), .ref ua, .int mk])), (ta, .inl (kB, 128, .inl (ud_B bb)))]) (wr := [(ua, .inl (kC, 160, .inl un)), (ob, .inr (1, [.ref tb, .int (nI sz), .ref ub])), (tb, .inl (kI, 128, .inl (ud_I bb))), (ub, .inl (kI, (ud_ls O).length, .inl (ud_L (ud_ls O))))]) (w1 := [(oa, .inr (0, [.ref ta, .int (nI (ud_ps sz)), .ref ua, .int mk])), (ta, .inl (kB, 128, .inl (ud_B ((ud_pb bb sz (xs (6 * t + 1)) (xs (6 * t + 2)) (xs (6 * t + 3)) (xs (6 * t + 4)))))))]) hP hD [0, 1] [2, 3, 4, 5] rfl rfl (by decide) (by decide) hk1 hFc hP1 hD1
        clear hPc hDc
        generalize H1 = H at hP hS ⊢
        have hP : va_P (dC, dI) vwCl [(ua, .inl (kC, 160, .inl un)), (ob, .inr (1, [.ref tb, .int (nI sz), .ref ub])), (tb, .inl (kI, 128, .inl (ud_I bb))), (ub, .inl (kI, (ud_ls O).length, .inl (ud_L (ud_ls O)))), (oa, .inr (0, [.ref ta, .int (nI (ud_ps sz)), .ref ua, .int mk])), (ta, .inl (kB, 128, .inl (ud_B ((ud_pb bb sz (xs (6 * t + 1)) (xs (6 * t + 2)) (xs (6 * t + 3)) (xs (6 * t + 4)))))))] H := hP
        have hD : va_D A [(ua, .inl (kC, 160, .inl un)), (ob, .inr (1, [.ref tb, .int (nI sz), .ref ub])), (tb, .inl (kI, 128, .inl (ud_I bb))), (ub, .inl (kI, (ud_ls O).length, .inl (ud_L (ud_ls O)))), (oa, .inr (0, [.ref ta, .int (nI (ud_ps sz)), .ref ua, .int mk])), (ta, .inl (kB, 128, .inl (ud_B ((ud_pb bb sz (xs (6 * t + 1)) (xs (6 * t + 2)) (xs (6 * t + 3)) (xs (6 * t + 4)))))))] := hD
        obtain rfl : r_93 = (ud_pv sz) := hw
        refine lv_aload_n hx hb dL_law_96 rfl (lv_at hl 2 rfl) ?_
        refine lv_aload_n hx hb dL_law_97 rfl (lv_at hl 0 rfl) ?_
        refine lv_iload_n hx hb dL_law_98 rfl (lv_at hl 3 rfl) ?_
        refine lv_iconst (v := nI 1) hx hb dL_law_99 (by decide) ?_
        refine lv_iadd hx hb dL_law_100 ?_
        refine ax_top (y := nI ((6 * t) + 1)) (nI_add _ _) ?_
        refine ax_sld hx hb hX hbl hbA hS (by omega) (by omega) dL_law_101 ?_
        refine lv_aload_n hx hb dL_law_102 rfl (lv_at hl 0 rfl) ?_
        refine lv_iload_n hx hb dL_law_103 rfl (lv_at hl 3 rfl) ?_
        refine lv_iconst (v := nI 2) hx hb dL_law_104 (by decide) ?_
        refine lv_iadd hx hb dL_law_105 ?_
        refine ax_top (y := nI ((6 * t) + 2)) (nI_add _ _) ?_
        refine ax_sld hx hb hX hbl hbA hS (by omega) (by omega) dL_law_106 ?_
        refine lv_aload_n hx hb dL_law_107 rfl (lv_at hl 0 rfl) ?_
        refine lv_iload_n hx hb dL_law_108 rfl (lv_at hl 3 rfl) ?_
        refine lv_iconst (v := nI 3) hx hb dL_law_109 (by decide) ?_
        refine lv_iadd hx hb dL_law_110 ?_
        refine ax_top (y := nI ((6 * t) + 3)) (nI_add _ _) ?_
        refine ax_sld hx hb hX hbl hbA hS (by omega) (by omega) dL_law_111 ?_
        refine lv_aload_n hx hb dL_law_112 rfl (lv_at hl 0 rfl) ?_
        refine lv_iload_n hx hb dL_law_113 rfl (lv_at hl 3 rfl) ?_
        refine lv_iconst (v := nI 4) hx hb dL_law_114 (by decide) ?_
        refine lv_iadd hx hb dL_law_115 ?_
        refine ax_top (y := nI ((6 * t) + 4)) (nI_add _ _) ?_
        refine ax_sld hx hb hX hbl hbA hS (by omega) (by omega) dL_law_116 ?_
        have hPc := hP.sub (ws' := [(ob, .inr (1, [.ref tb, .int (nI sz), .ref ub])), (tb, .inl (kI, 128, .inl (ud_I bb)))]) [1, 2] rfl
        have hDc := hD.sub (ws' := [(ob, .inr (1, [.ref tb, .int (nI sz), .ref ub])), (tb, .inl (kI, 128, .inl (ud_I bb)))]) [1, 2] (by decide) rfl
        have hFc := va_free (wc := [(ob, .inr (1, [.ref tb, .int (nI sz), .ref ub])), (tb, .inl (kI, 128, .inl (ud_I bb)))]) hD hS hA [1, 2] rfl
        refine va_calli (va_runV (As := [.int (xs ((6 * t) + 1)), .int (xs ((6 * t) + 2)), .int (xs ((6 * t) + 3)), .int (xs ((6 * t) + 4))]) (rest := [.int ((ud_pv sz))]) ⟨hx, hb, hml, hown, hts⟩ (me_X1_put l dC dI kB kC kI H.size ob tb ub bb sz (xs (6 * t + 1)) (xs (6 * t + 2)) (xs (6 * t + 3)) (xs (6 * t + 4)) hsz) (cwV 4 hts (lw_V q104 q105 q106 q7 q107) rfl rfl rfl (by decide +kernel) ⟨Nat.le_of_ble_eq_true rfl, Nat.le_of_ble_eq_true rfl⟩) ⟨ud_bl, va_recv hK hPc (ci := 1) (q0 := 0) rfl rfl, ud_pr hPc hDc hK⟩ rfl rfl hl.1 rfl (lv_room (Nat.le_of_ble_eq_true rfl)) dL_law_117 ⟨(by show _ ≤ 1200000; omega), (by show _ ≤ 5502250; omega)⟩) hS (fun q _ h => hFc q h) hFc (fun r_117 u t9 H1 locs ht hvm hw hB hz1 hk1 hS => ?_)
        obtain ⟨hP1, hD1⟩ := hB
        rw [ht] at hP1
        obtain ⟨hP, hD⟩ := va_join (wc := [(ob, .inr (1, [.ref tb, .int (nI sz), .ref ub])), (tb, .inl (kI, 128, .inl (ud_I bb)))]) (wr := [(ua, .inl (kC, 160, .inl un)), (ub, .inl (kI, (ud_ls O).length, .inl (ud_L (ud_ls O)))), (oa, .inr (0, [.ref ta, .int (nI (ud_ps sz)), .ref ua, .int mk])), (ta, .inl (kB, 128, .inl (ud_B ((ud_pb bb sz (xs (6 * t + 1)) (xs (6 * t + 2)) (xs (6 * t + 3)) (xs (6 * t + 4)))))))]) (w1 := [(ob, .inr (1, [.ref tb, .int (nI (ud_ps sz)), .ref ub])), (tb, .inl (kI, 128, .inl (ud_I ((ud_pb bb sz (xs (6 * t + 1)) (xs (6 * t + 2)) (xs (6 * t + 3)) (xs (6 * t + 4)))))))]) hP hD [1, 2] [0, 3, 4, 5] rfl rfl (by decide) (by decide) hk1 hFc hP1 hD1
        clear hPc hDc
        generalize H1 = H at hP hS ⊢
        have hP : va_P (dC, dI) vwCl [(ua, .inl (kC, 160, .inl un)), (ub, .inl (kI, (ud_ls O).length, .inl (ud_L (ud_ls O)))), (oa, .inr (0, [.ref ta, .int (nI (ud_ps sz)), .ref ua, .int mk])), (ta, .inl (kB, 128, .inl (ud_B ((ud_pb bb sz (xs (6 * t + 1)) (xs (6 * t + 2)) (xs (6 * t + 3)) (xs (6 * t + 4))))))), (ob, .inr (1, [.ref tb, .int (nI (ud_ps sz)), .ref ub])), (tb, .inl (kI, 128, .inl (ud_I ((ud_pb bb sz (xs (6 * t + 1)) (xs (6 * t + 2)) (xs (6 * t + 3)) (xs (6 * t + 4)))))))] H := hP
        have hD : va_D A [(ua, .inl (kC, 160, .inl un)), (ub, .inl (kI, (ud_ls O).length, .inl (ud_L (ud_ls O)))), (oa, .inr (0, [.ref ta, .int (nI (ud_ps sz)), .ref ua, .int mk])), (ta, .inl (kB, 128, .inl (ud_B ((ud_pb bb sz (xs (6 * t + 1)) (xs (6 * t + 2)) (xs (6 * t + 3)) (xs (6 * t + 4))))))), (ob, .inr (1, [.ref tb, .int (nI (ud_ps sz)), .ref ub])), (tb, .inl (kI, 128, .inl (ud_I ((ud_pb bb sz (xs (6 * t + 1)) (xs (6 * t + 2)) (xs (6 * t + 3)) (xs (6 * t + 4)))))))] := hD
        obtain rfl : r_117 = (ud_pv sz) := hw
        refine lv_icmp_eq (tgt := 278) hx hb dL_law_120 (by decide) (fun c_120 => ?_) (fun c_120 => absurd c_120 (fun c9 => c9 rfl))
        refine lv_iinc (v := nI (6 * (t + 1))) (lv' := [(3, .int (nI (6 * (t + 1)))), (0, .ref b), (1, .ref oa), (2, .ref ob)]) hx hb dL_law_278 hl (k := 3) rfl ((ud_i6 _).trans (congrArg nI (by omega))) (by decide) rfl (fun ls hl => ?_)
        refine lv_goto (tgt := 18) hx hb dL_law_281 (by decide) ?_
        refine W.widen (k := 4 * (t + 1) + 6) (n := 704 * (t + 1) + 1000) (by omega) (by omega) ?_
        exact ih (t + 1) (ud_pb bb sz (xs (6 * t + 1)) (xs (6 * t + 2)) (xs (6 * t + 3)) (xs (6 * t + 4))) (ud_ps sz) O un mk oa ta ua ob tb ub (by omega) (by omega) (ud_pb_lt hb256 _ _ _ _ _) (ud_ps_le hsz) hmk hun _ _ (hP.sub [2, 3, 0, 4, 5, 1] rfl) (hD.sub [2, 3, 0, 4, 5, 1] (by decide) rfl) hS ls (lv_sub hl [1, 2, 3, 0] rfl)
      · refine lv_tableIn (off := 92) (tgt := 125) hx hb dL_law_33 (by decide) (by decide) (by decide) (by decide) ?_
        refine lv_aload_n hx hb dL_law_125 rfl (lv_at hl 1 rfl) ?_
        refine lv_aload_n hx hb dL_law_126 rfl (lv_at hl 0 rfl) ?_
        refine lv_iload_n hx hb dL_law_127 rfl (lv_at hl 3 rfl) ?_
        refine lv_iconst (v := nI 1) hx hb dL_law_128 (by decide) ?_
        refine lv_iadd hx hb dL_law_129 ?_
        refine ax_top (y := nI ((6 * t) + 1)) (nI_add _ _) ?_
        refine ax_sld hx hb hX hbl hbA hS (by omega) (by omega) dL_law_130 ?_
        have hPc := hP.sub (ws' := [(oa, .inr (0, [.ref ta, .int (nI sz), .ref ua, .int mk]))]) [0] rfl
        have hDc := hD.sub (ws' := [(oa, .inr (0, [.ref ta, .int (nI sz), .ref ua, .int mk]))]) [0] (by decide) rfl
        have hFc := va_free (wc := [(oa, .inr (0, [.ref ta, .int (nI sz), .ref ua, .int mk]))]) hD hS hA [0] rfl
        refine va_callv (va_runV (As := [.int (xs ((6 * t) + 1))]) (rest := []) ⟨hx, hb, hml, hown, hts⟩ (me_X0_trim l dC dI kB kC kI H.size oa ta ua sz mk (xs (6 * t + 1)) hsz) (cwV 1 hts (lw_V q39 q40 q41 q6 q42) rfl rfl rfl (by decide +kernel) ⟨Nat.le_of_ble_eq_true rfl, Nat.le_of_ble_eq_true rfl⟩) ⟨ud_bl, va_recv hK hPc (ci := 0) (q0 := 0) rfl rfl, ud_pr hPc hDc hK⟩ rfl rfl hl.1 rfl (lv_room (Nat.le_of_ble_eq_true rfl)) dL_law_131 ⟨(by show _ ≤ 1200000; omega), (by show _ ≤ 5502250; omega)⟩) hS (fun q _ h => hFc q h) hFc (fun u9 t9 H1 locs ht hvm hw hB hz1 hk1 hS => ?_)
        obtain ⟨hP1, hD1⟩ := hB
        rw [ht] at hP1
        obtain ⟨hP, hD⟩ := va_join (wc := [(oa, .inr (0, [.ref ta, .int (nI sz), .ref ua, .int mk]))]) (wr := [(ta, .inl (kB, 128, .inl (ud_B bb))), (ua, .inl (kC, 160, .inl un)), (ob, .inr (1, [.ref tb, .int (nI sz), .ref ub])), (tb, .inl (kI, 128, .inl (ud_I bb))), (ub, .inl (kI, (ud_ls O).length, .inl (ud_L (ud_ls O))))]) (w1 := [(oa, .inr (0, [.ref ta, .int (nI (ud_m (xs (6 * t + 1)) % (sz + 1))), .ref ua, .int mk]))]) hP hD [0] [1, 2, 3, 4, 5] rfl rfl (by decide) (by decide) hk1 hFc hP1 hD1
        clear hPc hDc
        generalize H1 = H at hP hS ⊢
        have hP : va_P (dC, dI) vwCl [(ta, .inl (kB, 128, .inl (ud_B bb))), (ua, .inl (kC, 160, .inl un)), (ob, .inr (1, [.ref tb, .int (nI sz), .ref ub])), (tb, .inl (kI, 128, .inl (ud_I bb))), (ub, .inl (kI, (ud_ls O).length, .inl (ud_L (ud_ls O)))), (oa, .inr (0, [.ref ta, .int (nI (ud_m (xs (6 * t + 1)) % (sz + 1))), .ref ua, .int mk]))] H := hP
        have hD : va_D A [(ta, .inl (kB, 128, .inl (ud_B bb))), (ua, .inl (kC, 160, .inl un)), (ob, .inr (1, [.ref tb, .int (nI sz), .ref ub])), (tb, .inl (kI, 128, .inl (ud_I bb))), (ub, .inl (kI, (ud_ls O).length, .inl (ud_L (ud_ls O)))), (oa, .inr (0, [.ref ta, .int (nI (ud_m (xs (6 * t + 1)) % (sz + 1))), .ref ua, .int mk]))] := hD
        refine lv_aload_n hx hb dL_law_134 rfl (lv_at hl 2 rfl) ?_
        refine lv_aload_n hx hb dL_law_135 rfl (lv_at hl 0 rfl) ?_
        refine lv_iload_n hx hb dL_law_136 rfl (lv_at hl 3 rfl) ?_
        refine lv_iconst (v := nI 1) hx hb dL_law_137 (by decide) ?_
        refine lv_iadd hx hb dL_law_138 ?_
        refine ax_top (y := nI ((6 * t) + 1)) (nI_add _ _) ?_
        refine ax_sld hx hb hX hbl hbA hS (by omega) (by omega) dL_law_139 ?_
        have hPc := hP.sub (ws' := [(ob, .inr (1, [.ref tb, .int (nI sz), .ref ub]))]) [2] rfl
        have hDc := hD.sub (ws' := [(ob, .inr (1, [.ref tb, .int (nI sz), .ref ub]))]) [2] (by decide) rfl
        have hFc := va_free (wc := [(ob, .inr (1, [.ref tb, .int (nI sz), .ref ub]))]) hD hS hA [2] rfl
        refine va_callv (va_runV (As := [.int (xs ((6 * t) + 1))]) (rest := []) ⟨hx, hb, hml, hown, hts⟩ (me_X1_trim l dC dI kB kC kI H.size ob tb ub sz (xs (6 * t + 1)) hsz) (cwV 1 hts (lw_V q108 q109 q110 q7 q111) rfl rfl rfl (by decide +kernel) ⟨Nat.le_of_ble_eq_true rfl, Nat.le_of_ble_eq_true rfl⟩) ⟨ud_bl, va_recv hK hPc (ci := 1) (q0 := 0) rfl rfl, ud_pr hPc hDc hK⟩ rfl rfl hl.1 rfl (lv_room (Nat.le_of_ble_eq_true rfl)) dL_law_140 ⟨(by show _ ≤ 1200000; omega), (by show _ ≤ 5502250; omega)⟩) hS (fun q _ h => hFc q h) hFc (fun u9 t9 H1 locs ht hvm hw hB hz1 hk1 hS => ?_)
        obtain ⟨hP1, hD1⟩ := hB
        rw [ht] at hP1
        obtain ⟨hP, hD⟩ := va_join (wc := [(ob, .inr (1, [.ref tb, .int (nI sz), .ref ub]))]) (wr := [(ta, .inl (kB, 128, .inl (ud_B bb))), (ua, .inl (kC, 160, .inl un)), (tb, .inl (kI, 128, .inl (ud_I bb))), (ub, .inl (kI, (ud_ls O).length, .inl (ud_L (ud_ls O)))), (oa, .inr (0, [.ref ta, .int (nI (ud_m (xs (6 * t + 1)) % (sz + 1))), .ref ua, .int mk]))]) (w1 := [(ob, .inr (1, [.ref tb, .int (nI (ud_m (xs (6 * t + 1)) % (sz + 1))), .ref ub]))]) hP hD [2] [0, 1, 3, 4, 5] rfl rfl (by decide) (by decide) hk1 hFc hP1 hD1
        clear hPc hDc
        generalize H1 = H at hP hS ⊢
        have hP : va_P (dC, dI) vwCl [(ta, .inl (kB, 128, .inl (ud_B bb))), (ua, .inl (kC, 160, .inl un)), (tb, .inl (kI, 128, .inl (ud_I bb))), (ub, .inl (kI, (ud_ls O).length, .inl (ud_L (ud_ls O)))), (oa, .inr (0, [.ref ta, .int (nI (ud_m (xs (6 * t + 1)) % (sz + 1))), .ref ua, .int mk])), (ob, .inr (1, [.ref tb, .int (nI (ud_m (xs (6 * t + 1)) % (sz + 1))), .ref ub]))] H := hP
        have hD : va_D A [(ta, .inl (kB, 128, .inl (ud_B bb))), (ua, .inl (kC, 160, .inl un)), (tb, .inl (kI, 128, .inl (ud_I bb))), (ub, .inl (kI, (ud_ls O).length, .inl (ud_L (ud_ls O)))), (oa, .inr (0, [.ref ta, .int (nI (ud_m (xs (6 * t + 1)) % (sz + 1))), .ref ua, .int mk])), (ob, .inr (1, [.ref tb, .int (nI (ud_m (xs (6 * t + 1)) % (sz + 1))), .ref ub]))] := hD
        have hs9 : ud_m (xs (6 * t + 1)) % (sz + 1) ≤ sz := Nat.le_of_lt_succ (Nat.mod_lt _ (Nat.succ_pos _))
        refine lv_goto (tgt := 278) hx hb dL_law_143 (by decide) ?_
        refine lv_iinc (v := nI (6 * (t + 1))) (lv' := [(3, .int (nI (6 * (t + 1)))), (0, .ref b), (1, .ref oa), (2, .ref ob)]) hx hb dL_law_278 hl (k := 3) rfl ((ud_i6 _).trans (congrArg nI (by omega))) (by decide) rfl (fun ls hl => ?_)
        refine lv_goto (tgt := 18) hx hb dL_law_281 (by decide) ?_
        refine W.widen (k := 4 * (t + 1) + 6) (n := 704 * (t + 1) + 1000) (by omega) (by omega) ?_
        exact ih (t + 1) bb (ud_m (xs (6 * t + 1)) % (sz + 1)) O un mk oa ta ua ob tb ub (by omega) (by omega) hb256 (by omega) hmk hun _ _ (hP.sub [4, 0, 1, 5, 2, 3] rfl) (hD.sub [4, 0, 1, 5, 2, 3] (by decide) rfl) hS ls (lv_sub hl [1, 2, 3, 0] rfl)
      · refine lv_tableIn (off := 113) (tgt := 146) hx hb dL_law_33 (by decide) (by decide) (by decide) (by decide) ?_
        obtain ⟨f, ef⟩ : ∃ f, f = ud_m (xs (6 * t + 1)) % (sz + 1) := ⟨_, rfl⟩
        obtain ⟨n9, en⟩ : ∃ n9, n9 = ud_m (xs (6 * t + 2)) % (sz - f + 1) := ⟨_, rfl⟩
        obtain ⟨w, ew⟩ : ∃ w, w = ud_m (xs (6 * t + 3)) % 161 := ⟨_, rfl⟩
        obtain ⟨O2, eO⟩ : ∃ O2, O2 = ud_out bb f n9 w := ⟨_, rfl⟩
        refine lv_aload_n hx hb dL_law_146 rfl (lv_at hl 1 rfl) ?_
        refine lv_aload_n hx hb dL_law_147 rfl (lv_at hl 0 rfl) ?_
        refine lv_iload_n hx hb dL_law_148 rfl (lv_at hl 3 rfl) ?_
        refine lv_iconst (v := nI 1) hx hb dL_law_149 (by decide) ?_
        refine lv_iadd hx hb dL_law_150 ?_
        refine ax_top (y := nI ((6 * t) + 1)) (nI_add _ _) ?_
        refine ax_sld hx hb hX hbl hbA hS (by omega) (by omega) dL_law_151 ?_
        refine lv_aload_n hx hb dL_law_152 rfl (lv_at hl 0 rfl) ?_
        refine lv_iload_n hx hb dL_law_153 rfl (lv_at hl 3 rfl) ?_
        refine lv_iconst (v := nI 2) hx hb dL_law_154 (by decide) ?_
        refine lv_iadd hx hb dL_law_155 ?_
        refine ax_top (y := nI ((6 * t) + 2)) (nI_add _ _) ?_
        refine ax_sld hx hb hX hbl hbA hS (by omega) (by omega) dL_law_156 ?_
        refine lv_aload_n hx hb dL_law_157 rfl (lv_at hl 0 rfl) ?_
        refine lv_iload_n hx hb dL_law_158 rfl (lv_at hl 3 rfl) ?_
        refine lv_iconst (v := nI 3) hx hb dL_law_159 (by decide) ?_
        refine lv_iadd hx hb dL_law_160 ?_
        refine ax_top (y := nI ((6 * t) + 3)) (nI_add _ _) ?_
        refine ax_sld hx hb hX hbl hbA hS (by omega) (by omega) dL_law_161 ?_
        have hPc := hP.sub (ws' := [(oa, .inr (0, [.ref ta, .int (nI sz), .ref ua, .int mk])), (ta, .inl (kB, 128, .inl (ud_B bb))), (ua, .inl (kC, 160, .inl un))]) [0, 1, 2] rfl
        have hDc := hD.sub (ws' := [(oa, .inr (0, [.ref ta, .int (nI sz), .ref ua, .int mk])), (ta, .inl (kB, 128, .inl (ud_B bb))), (ua, .inl (kC, 160, .inl un))]) [0, 1, 2] (by decide) rfl
        have hFc := va_free (wc := [(oa, .inr (0, [.ref ta, .int (nI sz), .ref ua, .int mk])), (ta, .inl (kB, 128, .inl (ud_B bb))), (ua, .inl (kC, 160, .inl un))]) hD hS hA [0, 1, 2] rfl
        refine va_calli (va_runV (As := [.int (xs ((6 * t) + 1)), .int (xs ((6 * t) + 2)), .int (xs ((6 * t) + 3))]) (rest := []) ⟨hx, hb, hml, hown, hts⟩ (me_X0_turn l dC dI kB kC kI H.size oa ta ua bb sz mk un (xs (6 * t + 1)) (xs (6 * t + 2)) (xs (6 * t + 3)) f n9 w O2 ef en ew eO hsz hb256) (cwV 3 hts (lw_V q48 q49 q50 q6 q51) rfl rfl rfl (by decide +kernel) ⟨Nat.le_of_ble_eq_true rfl, Nat.le_of_ble_eq_true rfl⟩) ⟨ud_blT, va_recv hK hPc (ci := 0) (q0 := 0) rfl rfl, ud_prT hPc hDc hK hT hS hFc⟩ rfl rfl hl.1 rfl (lv_room (Nat.le_of_ble_eq_true rfl)) dL_law_162 ⟨(by show _ ≤ 1200000; omega), (by show _ ≤ 5502250; omega)⟩) hS (fun q _ h => hFc q h) hFc (fun r_162 g t9 H1 locs ht hvm hw hB hz1 hk1 hS => ?_)
        obtain ⟨hP1, hD1⟩ := hB
        rw [ht] at hP1
        obtain ⟨hP, hD⟩ := va_join (wc := [(oa, .inr (0, [.ref ta, .int (nI sz), .ref ua, .int mk])), (ta, .inl (kB, 128, .inl (ud_B bb))), (ua, .inl (kC, 160, .inl un))]) (wr := [(ob, .inr (1, [.ref tb, .int (nI sz), .ref ub])), (tb, .inl (kI, 128, .inl (ud_I bb))), (ub, .inl (kI, (ud_ls O).length, .inl (ud_L (ud_ls O))))]) (w1 := [(oa, .inr (0, [.ref ta, .int (nI sz), .ref ua, .int ((ud_md O2))])), (ta, .inl (kB, 128, .inl (ud_B bb))), (ua, .inl (kC, 160, .inl g))]) hP hD [0, 1, 2] [3, 4, 5] rfl rfl (by decide) (by decide) hk1 hFc hP1 hD1
        clear hPc hDc
        generalize H1 = H at hP hS ⊢
        have hP : va_P (dC, dI) vwCl [(ob, .inr (1, [.ref tb, .int (nI sz), .ref ub])), (tb, .inl (kI, 128, .inl (ud_I bb))), (ub, .inl (kI, (ud_ls O).length, .inl (ud_L (ud_ls O)))), (oa, .inr (0, [.ref ta, .int (nI sz), .ref ua, .int ((ud_md O2))])), (ta, .inl (kB, 128, .inl (ud_B bb))), (ua, .inl (kC, 160, .inl g))] H := hP
        have hD : va_D A [(ob, .inr (1, [.ref tb, .int (nI sz), .ref ub])), (tb, .inl (kI, 128, .inl (ud_I bb))), (ub, .inl (kI, (ud_ls O).length, .inl (ud_L (ud_ls O)))), (oa, .inr (0, [.ref ta, .int (nI sz), .ref ua, .int ((ud_md O2))])), (ta, .inl (kB, 128, .inl (ud_B bb))), (ua, .inl (kC, 160, .inl g))] := hD
        obtain ⟨hr9, hg9⟩ := hw
        subst hr9
        refine lv_aload_n hx hb dL_law_165 rfl (lv_at hl 2 rfl) ?_
        refine lv_aload_n hx hb dL_law_166 rfl (lv_at hl 0 rfl) ?_
        refine lv_iload_n hx hb dL_law_167 rfl (lv_at hl 3 rfl) ?_
        refine lv_iconst (v := nI 1) hx hb dL_law_168 (by decide) ?_
        refine lv_iadd hx hb dL_law_169 ?_
        refine ax_top (y := nI ((6 * t) + 1)) (nI_add _ _) ?_
        refine ax_sld hx hb hX hbl hbA hS (by omega) (by omega) dL_law_170 ?_
        refine lv_aload_n hx hb dL_law_171 rfl (lv_at hl 0 rfl) ?_
        refine lv_iload_n hx hb dL_law_172 rfl (lv_at hl 3 rfl) ?_
        refine lv_iconst (v := nI 2) hx hb dL_law_173 (by decide) ?_
        refine lv_iadd hx hb dL_law_174 ?_
        refine ax_top (y := nI ((6 * t) + 2)) (nI_add _ _) ?_
        refine ax_sld hx hb hX hbl hbA hS (by omega) (by omega) dL_law_175 ?_
        refine lv_aload_n hx hb dL_law_176 rfl (lv_at hl 0 rfl) ?_
        refine lv_iload_n hx hb dL_law_177 rfl (lv_at hl 3 rfl) ?_
        refine lv_iconst (v := nI 3) hx hb dL_law_178 (by decide) ?_
        refine lv_iadd hx hb dL_law_179 ?_
        refine ax_top (y := nI ((6 * t) + 3)) (nI_add _ _) ?_
        refine ax_sld hx hb hX hbl hbA hS (by omega) (by omega) dL_law_180 ?_
        have hPc := hP.sub (ws' := [(ob, .inr (1, [.ref tb, .int (nI sz), .ref ub])), (tb, .inl (kI, 128, .inl (ud_I bb))), (ub, .inl (kI, (ud_ls O).length, .inl (ud_L (ud_ls O))))]) [0, 1, 2] rfl
        have hDc := hD.sub (ws' := [(ob, .inr (1, [.ref tb, .int (nI sz), .ref ub])), (tb, .inl (kI, 128, .inl (ud_I bb))), (ub, .inl (kI, (ud_ls O).length, .inl (ud_L (ud_ls O))))]) [0, 1, 2] (by decide) rfl
        have hFc := va_free (wc := [(ob, .inr (1, [.ref tb, .int (nI sz), .ref ub])), (tb, .inl (kI, 128, .inl (ud_I bb))), (ub, .inl (kI, (ud_ls O).length, .inl (ud_L (ud_ls O))))]) hD hS hA [0, 1, 2] rfl
        refine va_calli (va_runV (As := [.int (xs ((6 * t) + 1)), .int (xs ((6 * t) + 2)), .int (xs ((6 * t) + 3))]) (rest := [.int ((ud_md O2))]) ⟨hx, hb, hml, hown, hts⟩ (me_X1_turn l dC dI kB kC kI H.size ob tb ub bb sz (ud_ls O) (xs (6 * t + 1)) (xs (6 * t + 2)) (xs (6 * t + 3)) f n9 w O2 ef en ew eO hsz hb256) (cwV 3 hts (lw_V q117 q118 q119 q7 q120) rfl rfl rfl (by decide +kernel) ⟨Nat.le_of_ble_eq_true rfl, Nat.le_of_ble_eq_true rfl⟩) ⟨ud_bl, va_recv hK hPc (ci := 1) (q0 := 0) rfl rfl, ud_pr hPc hDc hK⟩ rfl rfl hl.1 rfl (lv_room (Nat.le_of_ble_eq_true rfl)) dL_law_181 ⟨(by show _ ≤ 1200000; omega), (by show _ ≤ 5502250; omega)⟩) hS (fun q _ h => hFc q h) hFc (fun r_181 vb t9 H1 locs ht hvm hw hB hz1 hk1 hS => ?_)
        obtain ⟨hP1, hD1⟩ := hB
        rw [ht] at hP1
        obtain ⟨hP, hD⟩ := va_join (wc := [(ob, .inr (1, [.ref tb, .int (nI sz), .ref ub])), (tb, .inl (kI, 128, .inl (ud_I bb))), (ub, .inl (kI, (ud_ls O).length, .inl (ud_L (ud_ls O))))]) (wr := [(oa, .inr (0, [.ref ta, .int (nI sz), .ref ua, .int ((ud_md O2))])), (ta, .inl (kB, 128, .inl (ud_B bb))), (ua, .inl (kC, 160, .inl g))]) (w1 := [(ob, .inr (1, [.ref tb, .int (nI sz), .ref vb])), (tb, .inl (kI, 128, .inl (ud_I bb))), (vb, .inl (kI, (ud_ls O2).length, .inl (ud_L (ud_ls O2))))]) hP hD [0, 1, 2] [3, 4, 5] rfl rfl (by decide) (by decide) hk1 hFc hP1 hD1
        clear hPc hDc
        generalize H1 = H at hP hS ⊢
        have hP : va_P (dC, dI) vwCl [(oa, .inr (0, [.ref ta, .int (nI sz), .ref ua, .int ((ud_md O2))])), (ta, .inl (kB, 128, .inl (ud_B bb))), (ua, .inl (kC, 160, .inl g)), (ob, .inr (1, [.ref tb, .int (nI sz), .ref vb])), (tb, .inl (kI, 128, .inl (ud_I bb))), (vb, .inl (kI, (ud_ls O2).length, .inl (ud_L (ud_ls O2))))] H := hP
        have hD : va_D A [(oa, .inr (0, [.ref ta, .int (nI sz), .ref ua, .int ((ud_md O2))])), (ta, .inl (kB, 128, .inl (ud_B bb))), (ua, .inl (kC, 160, .inl g)), (ob, .inr (1, [.ref tb, .int (nI sz), .ref vb])), (tb, .inl (kI, 128, .inl (ud_I bb))), (vb, .inl (kI, (ud_ls O2).length, .inl (ud_L (ud_ls O2))))] := hD
        obtain rfl : r_181 = (ud_md O2) := hw
        refine lv_icmp_eq (tgt := 278) hx hb dL_law_184 (by decide) (fun c_184 => ?_) (fun c_184 => absurd c_184 (fun c9 => c9 rfl))
        have hw9 : w ≤ 160 := by rw [ew]; exact Nat.le_of_lt_succ (Nat.mod_lt _ (by decide))
        refine lv_iinc (v := nI (6 * (t + 1))) (lv' := [(3, .int (nI (6 * (t + 1)))), (0, .ref b), (1, .ref oa), (2, .ref ob)]) hx hb dL_law_278 hl (k := 3) rfl ((ud_i6 _).trans (congrArg nI (by omega))) (by decide) rfl (fun ls hl => ?_)
        refine lv_goto (tgt := 18) hx hb dL_law_281 (by decide) ?_
        refine W.widen (k := 4 * (t + 1) + 6) (n := 704 * (t + 1) + 1000) (by omega) (by omega) ?_
        exact ih (t + 1) bb sz O2 g (ud_md O2) oa ta ua ob tb vb (by omega) (by omega) hb256 hsz rfl (fun l h => ⟨Nat.le_trans (ud_res_len (eO.symm.trans h)).1 hw9, hg9 l h⟩) _ _ (hP.sub [0, 1, 2, 3, 4, 5] rfl) (hD.sub [0, 1, 2, 3, 4, 5] (by decide) rfl) hS ls (lv_sub hl [1, 2, 3, 0] rfl)
      · refine lv_tableIn (off := 156) (tgt := 189) hx hb dL_law_33 (by decide) (by decide) (by decide) (by decide) ?_
        have hlen9 : (ud_ls O).length ≤ 160 := by
          cases hO9 : O with
          | none => exact Nat.zero_le _
          | some l => exact (hun l hO9).1
        refine lv_aload_n hx hb dL_law_189 rfl (lv_at hl 1 rfl) ?_
        refine lv_aload_n hx hb dL_law_190 rfl (lv_at hl 0 rfl) ?_
        refine lv_iload_n hx hb dL_law_191 rfl (lv_at hl 3 rfl) ?_
        refine lv_iconst (v := nI 1) hx hb dL_law_192 (by decide) ?_
        refine lv_iadd hx hb dL_law_193 ?_
        refine ax_top (y := nI ((6 * t) + 1)) (nI_add _ _) ?_
        refine ax_sld hx hb hX hbl hbA hS (by omega) (by omega) dL_law_194 ?_
        have hPc := hP.sub (ws' := [(oa, .inr (0, [.ref ta, .int (nI sz), .ref ua, .int mk])), (ua, .inl (kC, 160, .inl un))]) [0, 2] rfl
        have hDc := hD.sub (ws' := [(oa, .inr (0, [.ref ta, .int (nI sz), .ref ua, .int mk])), (ua, .inl (kC, 160, .inl un))]) [0, 2] (by decide) rfl
        have hFc := ud_fr hS hA
        refine va_calli (va_runV (As := [.int (xs ((6 * t) + 1))]) (rest := []) ⟨hx, hb, hml, hown, hts⟩ (me_X0_unit l dC dI kB kC kI H.size oa ta ua sz (ud_ls O).length mk un (xs (6 * t + 1)) hlen9 (by rw [hmk]; exact ud_md_eq O)) (cwV 1 hts (lw_V q73 q74 q75 q6 q76) rfl rfl rfl (by decide +kernel) ⟨Nat.le_of_ble_eq_true rfl, Nat.le_of_ble_eq_true rfl⟩) ⟨ud_bl, va_recv hK hPc (ci := 0) (q0 := 0) rfl rfl, ud_pr hPc hDc hK⟩ rfl rfl hl.1 rfl (lv_room (Nat.le_of_ble_eq_true rfl)) dL_law_195 ⟨(by show _ ≤ 1200000; omega), (by show _ ≤ 5502250; omega)⟩) hS (fun q _ h => hFc q h) hFc (fun r_195 u t9 H1 locs ht hvm hw hB hz1 hk1 hS => ?_)
        have hP := ud_ro hP hk1
        clear hPc hDc
        generalize H1 = H at hP hS ⊢
        obtain rfl : r_195 = (if (ud_ls O).length = 0 then -1 else un (ud_m (xs (6 * t + 1)) % (ud_ls O).length)) := hw
        refine lv_aload_n hx hb dL_law_198 rfl (lv_at hl 2 rfl) ?_
        refine lv_aload_n hx hb dL_law_199 rfl (lv_at hl 0 rfl) ?_
        refine lv_iload_n hx hb dL_law_200 rfl (lv_at hl 3 rfl) ?_
        refine lv_iconst (v := nI 1) hx hb dL_law_201 (by decide) ?_
        refine lv_iadd hx hb dL_law_202 ?_
        refine ax_top (y := nI ((6 * t) + 1)) (nI_add _ _) ?_
        refine ax_sld hx hb hX hbl hbA hS (by omega) (by omega) dL_law_203 ?_
        have hPc := hP.sub (ws' := [(ob, .inr (1, [.ref tb, .int (nI sz), .ref ub])), (ub, .inl (kI, (ud_ls O).length, .inl (ud_L (ud_ls O))))]) [3, 5] rfl
        have hDc := hD.sub (ws' := [(ob, .inr (1, [.ref tb, .int (nI sz), .ref ub])), (ub, .inl (kI, (ud_ls O).length, .inl (ud_L (ud_ls O))))]) [3, 5] (by decide) rfl
        have hFc := ud_fr hS hA
        refine va_calli (va_runV (As := [.int (xs ((6 * t) + 1))]) (rest := [.int ((if (ud_ls O).length = 0 then -1 else un (ud_m (xs (6 * t + 1)) % (ud_ls O).length)))]) ⟨hx, hb, hml, hown, hts⟩ (me_X1_unit l dC dI kB kC kI H.size ob tb ub sz (ud_ls O) (xs (6 * t + 1)) hlen9) (cwV 1 hts (lw_V q135 q136 q137 q7 q138) rfl rfl rfl (by decide +kernel) ⟨Nat.le_of_ble_eq_true rfl, Nat.le_of_ble_eq_true rfl⟩) ⟨ud_bl, va_recv hK hPc (ci := 1) (q0 := 0) rfl rfl, ud_pr hPc hDc hK⟩ rfl rfl hl.1 rfl (lv_room (Nat.le_of_ble_eq_true rfl)) dL_law_204 ⟨(by show _ ≤ 1200000; omega), (by show _ ≤ 5502250; omega)⟩) hS (fun q _ h => hFc q h) hFc (fun r_204 u t9 H1 locs ht hvm hw hB hz1 hk1 hS => ?_)
        have hP := ud_ro hP hk1
        clear hPc hDc
        generalize H1 = H at hP hS ⊢
        obtain rfl : r_204 = (if (ud_ls O).length = 0 then -1 else ud_L (ud_ls O) (ud_m (xs (6 * t + 1)) % (ud_ls O).length)) := hw
        refine lv_icmp_eq (tgt := 278) hx hb dL_law_207 (by decide) (fun c_207 => ?_) (fun c_207 => absurd c_207 (fun c9 => c9 (ud_unit_eq hun _)))
        refine lv_iinc (v := nI (6 * (t + 1))) (lv' := [(3, .int (nI (6 * (t + 1)))), (0, .ref b), (1, .ref oa), (2, .ref ob)]) hx hb dL_law_278 hl (k := 3) rfl ((ud_i6 _).trans (congrArg nI (by omega))) (by decide) rfl (fun ls hl => ?_)
        refine lv_goto (tgt := 18) hx hb dL_law_281 (by decide) ?_
        refine W.widen (k := 4 * (t + 1) + 6) (n := 704 * (t + 1) + 1000) (by omega) (by omega) ?_
        exact ih (t + 1) bb sz O un mk oa ta ua ob tb ub (by omega) (by omega) hb256 hsz hmk hun _ _ (hP.sub [0, 1, 2, 3, 4, 5] rfl) (hD.sub [0, 1, 2, 3, 4, 5] (by decide) rfl) hS ls (lv_sub hl [1, 2, 3, 0] rfl)
      · refine lv_tableIn (off := 179) (tgt := 212) hx hb dL_law_33 (by decide) (by decide) (by decide) (by decide) ?_
        refine lv_aload_n hx hb dL_law_212 rfl (lv_at hl 1 rfl) ?_
        refine lv_aload_n hx hb dL_law_213 rfl (lv_at hl 0 rfl) ?_
        refine lv_iload_n hx hb dL_law_214 rfl (lv_at hl 3 rfl) ?_
        refine lv_iconst (v := nI 1) hx hb dL_law_215 (by decide) ?_
        refine lv_iadd hx hb dL_law_216 ?_
        refine ax_top (y := nI ((6 * t) + 1)) (nI_add _ _) ?_
        refine ax_sld hx hb hX hbl hbA hS (by omega) (by omega) dL_law_217 ?_
        refine lv_aload_n hx hb dL_law_218 rfl (lv_at hl 0 rfl) ?_
        refine lv_iload_n hx hb dL_law_219 rfl (lv_at hl 3 rfl) ?_
        refine lv_iconst (v := nI 2) hx hb dL_law_220 (by decide) ?_
        refine lv_iadd hx hb dL_law_221 ?_
        refine ax_top (y := nI ((6 * t) + 2)) (nI_add _ _) ?_
        refine ax_sld hx hb hX hbl hbA hS (by omega) (by omega) dL_law_222 ?_
        have hPc := hP.sub (ws' := [(oa, .inr (0, [.ref ta, .int (nI sz), .ref ua, .int mk])), (ta, .inl (kB, 128, .inl (ud_B bb)))]) [0, 1] rfl
        have hDc := hD.sub (ws' := [(oa, .inr (0, [.ref ta, .int (nI sz), .ref ua, .int mk])), (ta, .inl (kB, 128, .inl (ud_B bb)))]) [0, 1] (by decide) rfl
        have hFc := va_free (wc := [(oa, .inr (0, [.ref ta, .int (nI sz), .ref ua, .int mk])), (ta, .inl (kB, 128, .inl (ud_B bb)))]) hD hS hA [0, 1] rfl
        refine va_calli (va_runV (As := [.int (xs ((6 * t) + 1)), .int (xs ((6 * t) + 2))]) (rest := []) ⟨hx, hb, hml, hown, hts⟩ (me_X0_set l dC dI kB kC kI H.size oa ta ua bb sz mk (xs (6 * t + 1)) (xs (6 * t + 2)) hsz) (cwV 2 hts (lw_V q77 q78 q79 q6 q80) rfl rfl rfl (by decide +kernel) ⟨Nat.le_of_ble_eq_true rfl, Nat.le_of_ble_eq_true rfl⟩) ⟨ud_bl, va_recv hK hPc (ci := 0) (q0 := 0) rfl rfl, ud_pr hPc hDc hK⟩ rfl rfl hl.1 rfl (lv_room (Nat.le_of_ble_eq_true rfl)) dL_law_223 ⟨(by show _ ≤ 1200000; omega), (by show _ ≤ 5502250; omega)⟩) hS (fun q _ h => hFc q h) hFc (fun r_223 u t9 H1 locs ht hvm hw hB hz1 hk1 hS => ?_)
        obtain ⟨hP1, hD1⟩ := hB
        rw [ht] at hP1
        obtain ⟨hP, hD⟩ := va_join (wc := [(oa, .inr (0, [.ref ta, .int (nI sz), .ref ua, .int mk])), (ta, .inl (kB, 128, .inl (ud_B bb)))]) (wr := [(ua, .inl (kC, 160, .inl un)), (ob, .inr (1, [.ref tb, .int (nI sz), .ref ub])), (tb, .inl (kI, 128, .inl (ud_I bb))), (ub, .inl (kI, (ud_ls O).length, .inl (ud_L (ud_ls O))))]) (w1 := [(oa, .inr (0, [.ref ta, .int (nI sz), .ref ua, .int mk])), (ta, .inl (kB, 128, .inl (ud_B ((ud_sB bb sz (xs (6 * t + 1)) (xs (6 * t + 2)))))))]) hP hD [0, 1] [2, 3, 4, 5] rfl rfl (by decide) (by decide) hk1 hFc hP1 hD1
        clear hPc hDc
        generalize H1 = H at hP hS ⊢
        have hP : va_P (dC, dI) vwCl [(ua, .inl (kC, 160, .inl un)), (ob, .inr (1, [.ref tb, .int (nI sz), .ref ub])), (tb, .inl (kI, 128, .inl (ud_I bb))), (ub, .inl (kI, (ud_ls O).length, .inl (ud_L (ud_ls O)))), (oa, .inr (0, [.ref ta, .int (nI sz), .ref ua, .int mk])), (ta, .inl (kB, 128, .inl (ud_B ((ud_sB bb sz (xs (6 * t + 1)) (xs (6 * t + 2)))))))] H := hP
        have hD : va_D A [(ua, .inl (kC, 160, .inl un)), (ob, .inr (1, [.ref tb, .int (nI sz), .ref ub])), (tb, .inl (kI, 128, .inl (ud_I bb))), (ub, .inl (kI, (ud_ls O).length, .inl (ud_L (ud_ls O)))), (oa, .inr (0, [.ref ta, .int (nI sz), .ref ua, .int mk])), (ta, .inl (kB, 128, .inl (ud_B ((ud_sB bb sz (xs (6 * t + 1)) (xs (6 * t + 2)))))))] := hD
        obtain rfl : r_223 = (ud_sv sz) := hw
        refine lv_aload_n hx hb dL_law_226 rfl (lv_at hl 2 rfl) ?_
        refine lv_aload_n hx hb dL_law_227 rfl (lv_at hl 0 rfl) ?_
        refine lv_iload_n hx hb dL_law_228 rfl (lv_at hl 3 rfl) ?_
        refine lv_iconst (v := nI 1) hx hb dL_law_229 (by decide) ?_
        refine lv_iadd hx hb dL_law_230 ?_
        refine ax_top (y := nI ((6 * t) + 1)) (nI_add _ _) ?_
        refine ax_sld hx hb hX hbl hbA hS (by omega) (by omega) dL_law_231 ?_
        refine lv_aload_n hx hb dL_law_232 rfl (lv_at hl 0 rfl) ?_
        refine lv_iload_n hx hb dL_law_233 rfl (lv_at hl 3 rfl) ?_
        refine lv_iconst (v := nI 2) hx hb dL_law_234 (by decide) ?_
        refine lv_iadd hx hb dL_law_235 ?_
        refine ax_top (y := nI ((6 * t) + 2)) (nI_add _ _) ?_
        refine ax_sld hx hb hX hbl hbA hS (by omega) (by omega) dL_law_236 ?_
        have hPc := hP.sub (ws' := [(ob, .inr (1, [.ref tb, .int (nI sz), .ref ub])), (tb, .inl (kI, 128, .inl (ud_I bb)))]) [1, 2] rfl
        have hDc := hD.sub (ws' := [(ob, .inr (1, [.ref tb, .int (nI sz), .ref ub])), (tb, .inl (kI, 128, .inl (ud_I bb)))]) [1, 2] (by decide) rfl
        have hFc := va_free (wc := [(ob, .inr (1, [.ref tb, .int (nI sz), .ref ub])), (tb, .inl (kI, 128, .inl (ud_I bb)))]) hD hS hA [1, 2] rfl
        refine va_calli (va_runV (As := [.int (xs ((6 * t) + 1)), .int (xs ((6 * t) + 2))]) (rest := [.int ((ud_sv sz))]) ⟨hx, hb, hml, hown, hts⟩ (me_X1_set l dC dI kB kC kI H.size ob tb ub bb sz (xs (6 * t + 1)) (xs (6 * t + 2)) hsz) (cwV 2 hts (lw_V q139 q140 q141 q7 q142) rfl rfl rfl (by decide +kernel) ⟨Nat.le_of_ble_eq_true rfl, Nat.le_of_ble_eq_true rfl⟩) ⟨ud_bl, va_recv hK hPc (ci := 1) (q0 := 0) rfl rfl, ud_pr hPc hDc hK⟩ rfl rfl hl.1 rfl (lv_room (Nat.le_of_ble_eq_true rfl)) dL_law_237 ⟨(by show _ ≤ 1200000; omega), (by show _ ≤ 5502250; omega)⟩) hS (fun q _ h => hFc q h) hFc (fun r_237 u t9 H1 locs ht hvm hw hB hz1 hk1 hS => ?_)
        obtain ⟨hP1, hD1⟩ := hB
        rw [ht] at hP1
        obtain ⟨hP, hD⟩ := va_join (wc := [(ob, .inr (1, [.ref tb, .int (nI sz), .ref ub])), (tb, .inl (kI, 128, .inl (ud_I bb)))]) (wr := [(ua, .inl (kC, 160, .inl un)), (ub, .inl (kI, (ud_ls O).length, .inl (ud_L (ud_ls O)))), (oa, .inr (0, [.ref ta, .int (nI sz), .ref ua, .int mk])), (ta, .inl (kB, 128, .inl (ud_B ((ud_sB bb sz (xs (6 * t + 1)) (xs (6 * t + 2)))))))]) (w1 := [(ob, .inr (1, [.ref tb, .int (nI sz), .ref ub])), (tb, .inl (kI, 128, .inl (ud_I ((ud_sB bb sz (xs (6 * t + 1)) (xs (6 * t + 2)))))))]) hP hD [1, 2] [0, 3, 4, 5] rfl rfl (by decide) (by decide) hk1 hFc hP1 hD1
        clear hPc hDc
        generalize H1 = H at hP hS ⊢
        have hP : va_P (dC, dI) vwCl [(ua, .inl (kC, 160, .inl un)), (ub, .inl (kI, (ud_ls O).length, .inl (ud_L (ud_ls O)))), (oa, .inr (0, [.ref ta, .int (nI sz), .ref ua, .int mk])), (ta, .inl (kB, 128, .inl (ud_B ((ud_sB bb sz (xs (6 * t + 1)) (xs (6 * t + 2))))))), (ob, .inr (1, [.ref tb, .int (nI sz), .ref ub])), (tb, .inl (kI, 128, .inl (ud_I ((ud_sB bb sz (xs (6 * t + 1)) (xs (6 * t + 2)))))))] H := hP
        have hD : va_D A [(ua, .inl (kC, 160, .inl un)), (ub, .inl (kI, (ud_ls O).length, .inl (ud_L (ud_ls O)))), (oa, .inr (0, [.ref ta, .int (nI sz), .ref ua, .int mk])), (ta, .inl (kB, 128, .inl (ud_B ((ud_sB bb sz (xs (6 * t + 1)) (xs (6 * t + 2))))))), (ob, .inr (1, [.ref tb, .int (nI sz), .ref ub])), (tb, .inl (kI, 128, .inl (ud_I ((ud_sB bb sz (xs (6 * t + 1)) (xs (6 * t + 2)))))))] := hD
        obtain rfl : r_237 = (ud_sv sz) := hw
        refine lv_icmp_eq (tgt := 278) hx hb dL_law_240 (by decide) (fun c_240 => ?_) (fun c_240 => absurd c_240 (fun c9 => c9 rfl))
        refine lv_iinc (v := nI (6 * (t + 1))) (lv' := [(3, .int (nI (6 * (t + 1)))), (0, .ref b), (1, .ref oa), (2, .ref ob)]) hx hb dL_law_278 hl (k := 3) rfl ((ud_i6 _).trans (congrArg nI (by omega))) (by decide) rfl (fun ls hl => ?_)
        refine lv_goto (tgt := 18) hx hb dL_law_281 (by decide) ?_
        refine W.widen (k := 4 * (t + 1) + 6) (n := 704 * (t + 1) + 1000) (by omega) (by omega) ?_
        exact ih (t + 1) (ud_sB bb sz (xs (6 * t + 1)) (xs (6 * t + 2))) sz O un mk oa ta ua ob tb ub (by omega) (by omega) (ud_sB_lt hb256 _ _ _) hsz hmk hun _ _ (hP.sub [2, 3, 0, 4, 5, 1] rfl) (hD.sub [2, 3, 0, 4, 5, 1] (by decide) rfl) hS ls (lv_sub hl [1, 2, 3, 0] rfl)
      · refine lv_tableIn (off := 212) (tgt := 245) hx hb dL_law_33 (by decide) (by decide) (by decide) (by decide) ?_
        obtain ⟨f, ef⟩ : ∃ f, f = ud_m (xs (6 * t + 1)) % (sz + 1) := ⟨_, rfl⟩
        obtain ⟨y, ey⟩ : ∃ y, y = ud_m (xs (6 * t + 2)) % 1114112 := ⟨_, rfl⟩
        have hy9 : y < 1114112 := by rw [ey]; exact Nat.mod_lt _ (by decide)
        refine lv_aload_n hx hb dL_law_245 rfl (lv_at hl 1 rfl) ?_
        refine lv_aload_n hx hb dL_law_246 rfl (lv_at hl 0 rfl) ?_
        refine lv_iload_n hx hb dL_law_247 rfl (lv_at hl 3 rfl) ?_
        refine lv_iconst (v := nI 1) hx hb dL_law_248 (by decide) ?_
        refine lv_iadd hx hb dL_law_249 ?_
        refine ax_top (y := nI ((6 * t) + 1)) (nI_add _ _) ?_
        refine ax_sld hx hb hX hbl hbA hS (by omega) (by omega) dL_law_250 ?_
        refine lv_aload_n hx hb dL_law_251 rfl (lv_at hl 0 rfl) ?_
        refine lv_iload_n hx hb dL_law_252 rfl (lv_at hl 3 rfl) ?_
        refine lv_iconst (v := nI 2) hx hb dL_law_253 (by decide) ?_
        refine lv_iadd hx hb dL_law_254 ?_
        refine ax_top (y := nI ((6 * t) + 2)) (nI_add _ _) ?_
        refine ax_sld hx hb hX hbl hbA hS (by omega) (by omega) dL_law_255 ?_
        have hPc := hP.sub (ws' := [(oa, .inr (0, [.ref ta, .int (nI sz), .ref ua, .int mk])), (ta, .inl (kB, 128, .inl (ud_B bb)))]) [0, 1] rfl
        have hDc := hD.sub (ws' := [(oa, .inr (0, [.ref ta, .int (nI sz), .ref ua, .int mk])), (ta, .inl (kB, 128, .inl (ud_B bb)))]) [0, 1] (by decide) rfl
        have hFc := va_free (wc := [(oa, .inr (0, [.ref ta, .int (nI sz), .ref ua, .int mk])), (ta, .inl (kB, 128, .inl (ud_B bb)))]) hD hS hA [0, 1] rfl
        refine va_calli (va_runV (As := [.int (xs ((6 * t) + 1)), .int (xs ((6 * t) + 2))]) (rest := []) ⟨hx, hb, hml, hown, hts⟩ (me_X0_letter l dC dI kB kC kI H.size oa ta ua bb sz mk (xs (6 * t + 1)) (xs (6 * t + 2)) f y ef ey hsz) (cwV 2 hts (lw_V q81 q82 q83 q6 q84) rfl rfl rfl (by decide +kernel) ⟨Nat.le_of_ble_eq_true rfl, Nat.le_of_ble_eq_true rfl⟩) ⟨ud_bl, va_recv hK hPc (ci := 0) (q0 := 0) rfl rfl, ud_pr hPc hDc hK⟩ rfl rfl hl.1 rfl (lv_room (Nat.le_of_ble_eq_true rfl)) dL_law_256 ⟨(by show _ ≤ 1200000; omega), (by show _ ≤ 5502250; omega)⟩) hS (fun q _ h => hFc q h) hFc (fun r_256 u t9 H1 locs ht hvm hw hB hz1 hk1 hS => ?_)
        obtain ⟨hP1, hD1⟩ := hB
        rw [ht] at hP1
        obtain ⟨hP, hD⟩ := va_join (wc := [(oa, .inr (0, [.ref ta, .int (nI sz), .ref ua, .int mk])), (ta, .inl (kB, 128, .inl (ud_B bb)))]) (wr := [(ua, .inl (kC, 160, .inl un)), (ob, .inr (1, [.ref tb, .int (nI sz), .ref ub])), (tb, .inl (kI, 128, .inl (ud_I bb))), (ub, .inl (kI, (ud_ls O).length, .inl (ud_L (ud_ls O))))]) (w1 := [(oa, .inr (0, [.ref ta, .int (nI sz), .ref ua, .int mk])), (ta, .inl (kB, 128, .inl (ud_B ((ud_lb bb sz f y)))))]) hP hD [0, 1] [2, 3, 4, 5] rfl rfl (by decide) (by decide) hk1 hFc hP1 hD1
        clear hPc hDc
        generalize H1 = H at hP hS ⊢
        have hP : va_P (dC, dI) vwCl [(ua, .inl (kC, 160, .inl un)), (ob, .inr (1, [.ref tb, .int (nI sz), .ref ub])), (tb, .inl (kI, 128, .inl (ud_I bb))), (ub, .inl (kI, (ud_ls O).length, .inl (ud_L (ud_ls O)))), (oa, .inr (0, [.ref ta, .int (nI sz), .ref ua, .int mk])), (ta, .inl (kB, 128, .inl (ud_B ((ud_lb bb sz f y)))))] H := hP
        have hD : va_D A [(ua, .inl (kC, 160, .inl un)), (ob, .inr (1, [.ref tb, .int (nI sz), .ref ub])), (tb, .inl (kI, 128, .inl (ud_I bb))), (ub, .inl (kI, (ud_ls O).length, .inl (ud_L (ud_ls O)))), (oa, .inr (0, [.ref ta, .int (nI sz), .ref ua, .int mk])), (ta, .inl (kB, 128, .inl (ud_B ((ud_lb bb sz f y)))))] := hD
        obtain rfl : r_256 = (ud_lr sz f y) := hw
        refine lv_aload_n hx hb dL_law_259 rfl (lv_at hl 2 rfl) ?_
        refine lv_aload_n hx hb dL_law_260 rfl (lv_at hl 0 rfl) ?_
        refine lv_iload_n hx hb dL_law_261 rfl (lv_at hl 3 rfl) ?_
        refine lv_iconst (v := nI 1) hx hb dL_law_262 (by decide) ?_
        refine lv_iadd hx hb dL_law_263 ?_
        refine ax_top (y := nI ((6 * t) + 1)) (nI_add _ _) ?_
        refine ax_sld hx hb hX hbl hbA hS (by omega) (by omega) dL_law_264 ?_
        refine lv_aload_n hx hb dL_law_265 rfl (lv_at hl 0 rfl) ?_
        refine lv_iload_n hx hb dL_law_266 rfl (lv_at hl 3 rfl) ?_
        refine lv_iconst (v := nI 2) hx hb dL_law_267 (by decide) ?_
        refine lv_iadd hx hb dL_law_268 ?_
        refine ax_top (y := nI ((6 * t) + 2)) (nI_add _ _) ?_
        refine ax_sld hx hb hX hbl hbA hS (by omega) (by omega) dL_law_269 ?_
        have hPc := hP.sub (ws' := [(ob, .inr (1, [.ref tb, .int (nI sz), .ref ub])), (tb, .inl (kI, 128, .inl (ud_I bb)))]) [1, 2] rfl
        have hDc := hD.sub (ws' := [(ob, .inr (1, [.ref tb, .int (nI sz), .ref ub])), (tb, .inl (kI, 128, .inl (ud_I bb)))]) [1, 2] (by decide) rfl
        have hFc := va_free (wc := [(ob, .inr (1, [.ref tb, .int (nI sz), .ref ub])), (tb, .inl (kI, 128, .inl (ud_I bb)))]) hD hS hA [1, 2] rfl
        refine va_calli (va_runV (As := [.int (xs ((6 * t) + 1)), .int (xs ((6 * t) + 2))]) (rest := [.int ((ud_lr sz f y))]) ⟨hx, hb, hml, hown, hts⟩ (me_X1_letter l dC dI kB kC kI H.size ob tb ub bb sz (xs (6 * t + 1)) (xs (6 * t + 2)) f y ef ey hsz) (cwV 2 hts (lw_V q143 q144 q145 q7 q146) rfl rfl rfl (by decide +kernel) ⟨Nat.le_of_ble_eq_true rfl, Nat.le_of_ble_eq_true rfl⟩) ⟨ud_bl, va_recv hK hPc (ci := 1) (q0 := 0) rfl rfl, ud_pr hPc hDc hK⟩ rfl rfl hl.1 rfl (lv_room (Nat.le_of_ble_eq_true rfl)) dL_law_270 ⟨(by show _ ≤ 1200000; omega), (by show _ ≤ 5502250; omega)⟩) hS (fun q _ h => hFc q h) hFc (fun r_270 u t9 H1 locs ht hvm hw hB hz1 hk1 hS => ?_)
        obtain ⟨hP1, hD1⟩ := hB
        rw [ht] at hP1
        obtain ⟨hP, hD⟩ := va_join (wc := [(ob, .inr (1, [.ref tb, .int (nI sz), .ref ub])), (tb, .inl (kI, 128, .inl (ud_I bb)))]) (wr := [(ua, .inl (kC, 160, .inl un)), (ub, .inl (kI, (ud_ls O).length, .inl (ud_L (ud_ls O)))), (oa, .inr (0, [.ref ta, .int (nI sz), .ref ua, .int mk])), (ta, .inl (kB, 128, .inl (ud_B ((ud_lb bb sz f y)))))]) (w1 := [(ob, .inr (1, [.ref tb, .int (nI sz), .ref ub])), (tb, .inl (kI, 128, .inl (ud_I ((ud_lb bb sz f y)))))]) hP hD [1, 2] [0, 3, 4, 5] rfl rfl (by decide) (by decide) hk1 hFc hP1 hD1
        clear hPc hDc
        generalize H1 = H at hP hS ⊢
        have hP : va_P (dC, dI) vwCl [(ua, .inl (kC, 160, .inl un)), (ub, .inl (kI, (ud_ls O).length, .inl (ud_L (ud_ls O)))), (oa, .inr (0, [.ref ta, .int (nI sz), .ref ua, .int mk])), (ta, .inl (kB, 128, .inl (ud_B ((ud_lb bb sz f y))))), (ob, .inr (1, [.ref tb, .int (nI sz), .ref ub])), (tb, .inl (kI, 128, .inl (ud_I ((ud_lb bb sz f y)))))] H := hP
        have hD : va_D A [(ua, .inl (kC, 160, .inl un)), (ub, .inl (kI, (ud_ls O).length, .inl (ud_L (ud_ls O)))), (oa, .inr (0, [.ref ta, .int (nI sz), .ref ua, .int mk])), (ta, .inl (kB, 128, .inl (ud_B ((ud_lb bb sz f y))))), (ob, .inr (1, [.ref tb, .int (nI sz), .ref ub])), (tb, .inl (kI, 128, .inl (ud_I ((ud_lb bb sz f y)))))] := hD
        obtain rfl : r_270 = (ud_lr sz f y) := hw
        refine lv_icmp_eq (tgt := 278) hx hb dL_law_273 (by decide) (fun c_273 => ?_) (fun c_273 => absurd c_273 (fun c9 => c9 rfl))
        refine lv_iinc (v := nI (6 * (t + 1))) (lv' := [(3, .int (nI (6 * (t + 1)))), (0, .ref b), (1, .ref oa), (2, .ref ob)]) hx hb dL_law_278 hl (k := 3) rfl ((ud_i6 _).trans (congrArg nI (by omega))) (by decide) rfl (fun ls hl => ?_)
        refine lv_goto (tgt := 18) hx hb dL_law_281 (by decide) ?_
        refine W.widen (k := 4 * (t + 1) + 6) (n := 704 * (t + 1) + 1000) (by omega) (by omega) ?_
        exact ih (t + 1) (ud_lb bb sz f y) sz O un mk oa ta ua ob tb ub (by omega) (by omega) (ud_lb_lt hb256 _ _ hy9) hsz hmk hun _ _ (hP.sub [2, 3, 0, 4, 5, 1] rfl) (hD.sub [2, 3, 0, 4, 5, 1] (by decide) rfl) hS ls (lv_sub hl [1, 2, 3, 0] rfl)
      · refine lv_tableOut (tgt := 278) hx hb dL_law_33 (Or.inr (by decide)) (by decide) ?_
        refine lv_iinc (v := nI (6 * (t + 1))) (lv' := [(3, .int (nI (6 * (t + 1)))), (0, .ref b), (1, .ref oa), (2, .ref ob)]) hx hb dL_law_278 hl (k := 3) rfl ((ud_i6 _).trans (congrArg nI (by omega))) (by decide) rfl (fun ls hl => ?_)
        refine lv_goto (tgt := 18) hx hb dL_law_281 (by decide) ?_
        refine W.widen (k := 4 * (t + 1) + 6) (n := 704 * (t + 1) + 1000) (by omega) (by omega) ?_
        exact ih (t + 1) bb sz O un mk oa ta ua ob tb ub (by omega) (by omega) hb256 hsz hmk hun _ _ (hP.sub [0, 1, 2, 3, 4, 5] rfl) (hD.sub [0, 1, 2, 3, 4, 5] (by decide) rfl) hS ls (lv_sub hl [1, 2, 3, 0] rfl)
      · refine lv_tableOut (tgt := 278) hx hb dL_law_33 (Or.inr (by decide)) (by decide) ?_
        refine lv_iinc (v := nI (6 * (t + 1))) (lv' := [(3, .int (nI (6 * (t + 1)))), (0, .ref b), (1, .ref oa), (2, .ref ob)]) hx hb dL_law_278 hl (k := 3) rfl ((ud_i6 _).trans (congrArg nI (by omega))) (by decide) rfl (fun ls hl => ?_)
        refine lv_goto (tgt := 18) hx hb dL_law_281 (by decide) ?_
        refine W.widen (k := 4 * (t + 1) + 6) (n := 704 * (t + 1) + 1000) (by omega) (by omega) ?_
        exact ih (t + 1) bb sz O un mk oa ta ua ob tb ub (by omega) (by omega) hb256 hsz hmk hun _ _ (hP.sub [0, 1, 2, 3, 4, 5] rfl) (hD.sub [0, 1, 2, 3, 4, 5] (by decide) rfl) hS ls (lv_sub hl [1, 2, 3, 0] rfl)
end
section
set_option maxHeartbeats 4000000 in
set_option maxRecDepth 100000 in
/-- from the entry, for every script of at most 288 ints, the law comes to its end with true -/
theorem whole_start {p : Program} {e : Env} {s : State} {m : MethodId} {below : List Frame} {meth : Method} {c : Code} (l : Launch) (hflags : l.flags = flags0) {b L : Nat} {xs : Nat → Int32} (hL : L ≤ 288) (C0 : lw_At p s m meth c b L xs) : W p l e room_1 s m #[Value.ref b] below meth c s.heap [] 0 0 (lw_Z below #[Value.ref b] s) (entryFrame m ([Value.ref b] : List Value).toArray 4) := by
  obtain ⟨hx, hb, hr, hml, hown, hts0, hX, hbl, hlocks, hgv⟩ := id C0
  have hts : ∀ w ∈ lw_all, w.before #[Value.ref b] s = true := fun w h => hts0 w (lw_all_tbl h)
  obtain ⟨A, hAe⟩ : ∃ A : Nat → Prop, A = fun q => s.heap.size ≤ q := ⟨_, rfl⟩
  have hA : ∀ q : Nat, s.heap.size ≤ q → A q := fun q h => by rw [hAe]; exact h
  have hnA : ∀ a : Nat, a < s.heap.size → ¬ A a := fun a h => by rw [hAe]; exact Nat.not_le.mpr h
  have hT : ud_S A s s.heap := ud_S0 hnA hts0 hgv
  obtain ⟨c0, iS0, hKn0⟩ := u_known (C := RX0) (T := TX0) (N := 4) (n := 4) hts0 (fun w h => lw_all_tbl (in_X0 w h)) (hts0 _ (lw_all_tbl q10))
  obtain ⟨c1, iS1, hKn1⟩ := u_known (C := RX1) (T := TX1) (N := 3) (n := 3) hts0 (fun w h => lw_all_tbl (in_X1 w h)) (hts0 _ (lw_all_tbl q88))
  obtain ⟨dC, dI, hKc⟩ : ∃ (dC : Nat → ClassId) (dI : Nat → Nat → Nat), ∀ (k : Nat) (q : vw_C), vwCl[k]? = some q → u_Kn s q.1 q.2.1 q.2.2 (dC k) (dI k) := by
    refine ⟨fun k => if k = 0 then c0 else c1, fun k => if k = 0 then iS0 else iS1, ?_⟩
    intro k q hq
    match k, hq with
    | 0, hq => cases hq; exact hKn0
    | 1, hq => cases hq; exact hKn1
    | k + 2, hq => simp [vwCl] at hq
  obtain ⟨kB, hB1, hB2⟩ := ud_kA (ty := .byte) (fun _ _ => rfl) (hts _ q30)
  obtain ⟨kC, hC1, hC2⟩ := ud_kA (ty := .char) (fun _ _ => rfl) (hts _ q31)
  obtain ⟨kI, hI1, hI2⟩ := ud_kA (ty := .int) (fun _ _ => rfl) (hts _ q103)
  have hK : va_K (dC, dI) vwCl (ud_T kB kC kI) s := by
    refine ⟨hKc, fun k q hq => ?_⟩
    match k, hq with
    | 0, hq => cases hq; exact ⟨hB1, hB2⟩
    | 1, hq => cases hq; exact ⟨hC1, hC2⟩
    | 2, hq => cases hq; exact ⟨hI1, hI2⟩
    | k + 3, hq => simp [ud_T] at hq
  have hS : va_S A s.heap s.heap [] := va_S.rf
  have hP : va_P (dC, dI) vwCl [] s.heap := fun k q h => by simp at h
  have hD : va_D A [] := ⟨fun i j p q h => by simp at h, fun k q h => by simp at h⟩
  have hl := lv_entry ([.ref b]) (n := 4) (Nat.le_of_ble_eq_true rfl)
  rw [lg_entry_eq]
  generalize (lg_sl ([.ref b]) ++ List.replicate (4 - (lg_sl ([.ref b])).length) Slot.unset).toArray = ls at hl ⊢
  have hl : lv_has ls 4 [(0, .ref b)] := hl
  refine va_new (ci := 0) (fs := [.null, .int (nI 0), .null, .int (nI 0)]) (C := RX0) (T := TX0) (N := 4) hx hb hts in_X0 tyX0 tyX0_ok hown (hts _ q9) (hts _ q10) (hts _ q6) hK hP hD hS hA rfl (fun j hj => by rcases (show j = 0 ∨ j = 1 ∨ j = 2 ∨ j = 3 by omega) with rfl | rfl | rfl | rfl <;> rfl) (Nat.le_of_ble_eq_true rfl) (Nat.le_of_ble_eq_true rfl) dL_law_0 (fun oa H hP hD hS => ?_)
  have hP : va_P (dC, dI) vwCl [(oa, .inr (0, [.null, .int (nI 0), .null, .int (nI 0)]))] H := hP
  have hD : va_D A [(oa, .inr (0, [.null, .int (nI 0), .null, .int (nI 0)]))] := hD
  refine lv_dup hx hb dL_law_3 rfl ?_
  have hPc := hP.sub (ws' := [(oa, .inr (0, [.null, .int (nI 0), .null, .int (nI 0)]))]) [0] rfl
  have hDc := hD.sub (ws' := [(oa, .inr (0, [.null, .int (nI 0), .null, .int (nI 0)]))]) [0] (by decide) rfl
  have hFc := va_free (wc := [(oa, .inr (0, [.null, .int (nI 0), .null, .int (nI 0)]))]) hD hS hA [0] rfl
  refine va_callv (va_runI (As := []) (rest := [.ref oa]) ⟨hx, hb, hml, hown, hts⟩ (me_X0_init l dC dI kB kC kI H.size oa) (cwI 0 hts (lw_meth q13) rfl rfl rfl (hts _ q6) (hts _ q11) (hts _ q12) rfl (by decide +kernel) ⟨Nat.le_of_ble_eq_true rfl, Nat.le_of_ble_eq_true rfl⟩) ⟨ud_bl, ud_pr hPc hDc hK⟩ rfl rfl hl.1 rfl (lv_room (Nat.le_of_ble_eq_true rfl)) dL_law_4 ⟨Nat.le_of_ble_eq_true rfl, Nat.le_of_ble_eq_true rfl⟩) hS (fun q _ h => hFc q h) hFc (fun u9 t9 H1 locs ht hvm hw hB hz1 hk1 hS => ?_)
  obtain ⟨ta, ua⟩ := u9
  obtain ⟨hP1, hD1⟩ := hB
  rw [ht] at hP1
  obtain ⟨hP, hD⟩ := va_join (wc := [(oa, .inr (0, [.null, .int (nI 0), .null, .int (nI 0)]))]) (wr := []) (w1 := [(oa, .inr (0, [.ref ta, .int (nI 0), .ref ua, .int ((-1))])), (ta, .inl (kB, 128, .inl (ud_B ((fun _ => 0))))), (ua, .inl (kC, 160, .inl (fun _ => 0)))]) hP hD [0] [] rfl rfl (by decide) (by decide) hk1 hFc hP1 hD1
  clear hPc hDc
  generalize H1 = H at hP hS ⊢
  have hP : va_P (dC, dI) vwCl [(oa, .inr (0, [.ref ta, .int (nI 0), .ref ua, .int ((-1))])), (ta, .inl (kB, 128, .inl (ud_B ((fun _ => 0))))), (ua, .inl (kC, 160, .inl (fun _ => 0)))] H := hP
  have hD : va_D A [(oa, .inr (0, [.ref ta, .int (nI 0), .ref ua, .int ((-1))])), (ta, .inl (kB, 128, .inl (ud_B ((fun _ => 0))))), (ua, .inl (kC, 160, .inl (fun _ => 0)))] := hD
  refine lv_astore_n (lv' := [(1, .ref oa), (0, .ref b)]) hx hb dL_law_7 rfl hl (by decide) rfl (fun ls hl => ?_)
  refine va_new (ci := 1) (fs := [.null, .int (nI 0), .null]) (C := RX1) (T := TX1) (N := 3) hx hb hts in_X1 tyX1 tyX1_ok hown (hts _ q87) (hts _ q88) (hts _ q7) hK hP hD hS hA rfl (fun j hj => by rcases (show j = 0 ∨ j = 1 ∨ j = 2 by omega) with rfl | rfl | rfl <;> rfl) (Nat.le_of_ble_eq_true rfl) (Nat.le_of_ble_eq_true rfl) dL_law_8 (fun ob H hP hD hS => ?_)
  have hP : va_P (dC, dI) vwCl [(oa, .inr (0, [.ref ta, .int (nI 0), .ref ua, .int ((-1))])), (ta, .inl (kB, 128, .inl (ud_B ((fun _ => 0))))), (ua, .inl (kC, 160, .inl (fun _ => 0))), (ob, .inr (1, [.null, .int (nI 0), .null]))] H := hP
  have hD : va_D A [(oa, .inr (0, [.ref ta, .int (nI 0), .ref ua, .int ((-1))])), (ta, .inl (kB, 128, .inl (ud_B ((fun _ => 0))))), (ua, .inl (kC, 160, .inl (fun _ => 0))), (ob, .inr (1, [.null, .int (nI 0), .null]))] := hD
  refine lv_dup hx hb dL_law_11 rfl ?_
  have hPc := hP.sub (ws' := [(ob, .inr (1, [.null, .int (nI 0), .null]))]) [3] rfl
  have hDc := hD.sub (ws' := [(ob, .inr (1, [.null, .int (nI 0), .null]))]) [3] (by decide) rfl
  have hFc := va_free (wc := [(ob, .inr (1, [.null, .int (nI 0), .null]))]) hD hS hA [3] rfl
  refine va_callv (va_runI (As := []) (rest := [.ref ob]) ⟨hx, hb, hml, hown, hts⟩ (me_X1_init l dC dI kB kC kI H.size ob) (cwI 0 hts (lw_meth q91) rfl rfl rfl (hts _ q7) (hts _ q89) (hts _ q90) rfl (by decide +kernel) ⟨Nat.le_of_ble_eq_true rfl, Nat.le_of_ble_eq_true rfl⟩) ⟨ud_bl, ud_pr hPc hDc hK⟩ rfl rfl hl.1 rfl (lv_room (Nat.le_of_ble_eq_true rfl)) dL_law_12 ⟨Nat.le_of_ble_eq_true rfl, Nat.le_of_ble_eq_true rfl⟩) hS (fun q _ h => hFc q h) hFc (fun u9 t9 H1 locs ht hvm hw hB hz1 hk1 hS => ?_)
  obtain ⟨tb, ub⟩ := u9
  obtain ⟨hP1, hD1⟩ := hB
  rw [ht] at hP1
  obtain ⟨hP, hD⟩ := va_join (wc := [(ob, .inr (1, [.null, .int (nI 0), .null]))]) (wr := [(oa, .inr (0, [.ref ta, .int (nI 0), .ref ua, .int ((-1))])), (ta, .inl (kB, 128, .inl (ud_B ((fun _ => 0))))), (ua, .inl (kC, 160, .inl (fun _ => 0)))]) (w1 := [(ob, .inr (1, [.ref tb, .int (nI 0), .ref ub])), (tb, .inl (kI, 128, .inl (ud_I ((fun _ => 0))))), (ub, .inl (kI, (ud_ls none).length, .inl (ud_L (ud_ls none))))]) hP hD [3] [0, 1, 2] rfl rfl (by decide) (by decide) hk1 hFc hP1 hD1
  clear hPc hDc
  generalize H1 = H at hP hS ⊢
  have hP : va_P (dC, dI) vwCl [(oa, .inr (0, [.ref ta, .int (nI 0), .ref ua, .int ((-1))])), (ta, .inl (kB, 128, .inl (ud_B ((fun _ => 0))))), (ua, .inl (kC, 160, .inl (fun _ => 0))), (ob, .inr (1, [.ref tb, .int (nI 0), .ref ub])), (tb, .inl (kI, 128, .inl (ud_I ((fun _ => 0))))), (ub, .inl (kI, (ud_ls none).length, .inl (ud_L (ud_ls none))))] H := hP
  have hD : va_D A [(oa, .inr (0, [.ref ta, .int (nI 0), .ref ua, .int ((-1))])), (ta, .inl (kB, 128, .inl (ud_B ((fun _ => 0))))), (ua, .inl (kC, 160, .inl (fun _ => 0))), (ob, .inr (1, [.ref tb, .int (nI 0), .ref ub])), (tb, .inl (kI, 128, .inl (ud_I ((fun _ => 0))))), (ub, .inl (kI, (ud_ls none).length, .inl (ud_L (ud_ls none))))] := hD
  refine lv_astore_n (lv' := [(2, .ref ob), (1, .ref oa), (0, .ref b)]) hx hb dL_law_15 rfl hl (by decide) rfl (fun ls hl => ?_)
  refine lv_iconst (v := nI 0) hx hb dL_law_16 (by decide) ?_
  refine lv_istore_n (lv' := [(3, .int (nI 0)), (2, .ref ob), (1, .ref oa), (0, .ref b)]) hx hb dL_law_17 rfl hl (by decide) rfl (fun ls hl => ?_)
  refine W.widen (k := 4 * 0 + 6) (n := 704 * 0 + 1000) (Nat.le_of_ble_eq_true rfl) (Nat.le_of_ble_eq_true rfl) ?_
  exact lo_law hL C0 hAe hK hT (L + 1) 0 (fun _ => 0) 0 none (fun _ => 0) (-1) oa ta ua ob tb ub (by omega) (by decide) (fun _ => by decide) (by decide) rfl (fun l h => by cases h) _ _ (hP.sub [0, 1, 2, 3, 4, 5] rfl) (hD.sub [0, 1, 2, 3, 4, 5] (by decide) rfl) hS ls (lv_sub hl [3, 2, 1, 0] rfl)
-- ===== YOUR PART ENDS =====
set_option maxHeartbeats 4000000 in
theorem lw_walk (l : Launch) (hflags : l.flags = flags0) (b : Addr) (xs : List Int32) : MetFree l x (headSpec (Jvm.Cond.code x code maxLocals ret :: tables_1) room_1) (lw_P b xs) (fun _ _ _ _ _ => True) lw_Q := by
  refine MetFree.of_bodyS (code := code) (maxLocals := maxLocals) (ret := ret) (by decide) ?_ ?_
  · intro args s m h hn
    obtain ⟨meth, c, h1, h2, h3, h4, h5, h6, -, -⟩ := Cond.code_spec hn (atoms_spec (ws := Jvm.Cond.code x code maxLocals ret :: tables_1) h _ List.mem_cons_self)
    exact ⟨meth, c, h1, h2, h3, h4, h5, h6⟩
  · intro p e s m args below meth c s₁ B hml0 hP _
    obtain ⟨rfl, hx, hbd, hgv⟩ := hP
    obtain ⟨scr, harrAt, hlist, hof, hsmall⟩ := hx
    obtain ⟨hcb, hkn, -, -⟩ := State.arrayAt?_spec harrAt
    have hown : s.vm.findClass R_law = some m.cls := findClass_of_methodNamed B.named
    have hts0 : ∀ c ∈ (Jvm.Cond.code x code maxLocals ret :: tables_1), c.before #[Value.ref b] s = true := atoms_spec (ws := Jvm.Cond.code x code maxLocals ret :: tables_1) B.pre
    have hts : ∀ w ∈ lw_tbl, w.before #[Value.ref b] s = true := k2_hts_sels lw_privs (fun w hw => hts0 w (List.mem_cons_of_mem _ hw)) lw_privs_ok
    have hml : c.maxLocals = 4 := B.maxLocals_eq (hts0 _ List.mem_cons_self)
    have X₀ : Stand p l e room_1 s m #[Value.ref b] below meth c s₁ [] 0 0 := Stand.of_body B
    have hh0 : s₁.heap = s.heap := by rw [B.state]; rfl
    have hsz : scr.slots.size = xs.length := by rw [← Array.length_toList, hlist, List.length_map]
    have hval : ∀ j : Nat, j < xs.length → scr.slots[j]? = some (.int (xs.getD j 0)) := fun j hj => by
      rw [← Array.getElem?_toList, hlist]
      simp [hj]
    have hbl : b < s.heap.size := (Array.getElem?_eq_some_iff.mp hcb).1
    have hX : va_X b xs.length (fun j => xs.getD j 0) s s.heap := ⟨scr, hcb, hof, hkn, hsz, hval⟩
    have K : W p l e room_1 s m #[Value.ref b] below meth c s₁.heap [] 0 0 (lw_Z below #[Value.ref b] s) (entryFrame m ([Value.ref b] : List Value).toArray 4) := by
      rw [hh0]
      exact whole_start l hflags hbd ⟨B.exec, B.bytes, B.returns, hml, hown, hts, hX, hbl, B.notSynchronized, hgv⟩
    obtain ⟨t, a1, o, b1, b2, b3⟩ := K s₁ rfl X₀
    exact ⟨t, o, a1, b1, b2, b3⟩
theorem lw_pre_spec {args : Array Value} {s : State} (h : (Jvm.Cond.and given_1 narrow_1).before args s = true) (hr : rest_1_c.before args s = true) : ∃ (b : Addr) (xs : List Int32), lw_P b xs args s := by
  have hs := flat_of_before _ h
  have hq := flat_of_before _ hr
  have hc : (Cond.count 1).before args s = true := hs _ (by decide +kernel)
  have harr : (Cond.arrayOf (.arg 0) .int).before args s = true := hs _ (by decide +kernel)
  have hle : (Cond.le (.length (.arg 0)) (.int 288)).before args s = true := hs _ (by decide +kernel)
  have hlen : (Cond.isInt (.length (.arg 0))).before args s = true := hq _ (by decide +kernel)
  have hall : (Cond.all (.arg 0) (.isInt (.elem (.arg 0) (.index 0)))).before args s = true := hq _ (by decide +kernel)
  obtain ⟨b, xs, hb, hx⟩ := State.ints_of_pre rfl harr hlen hall
  have hsm : xs.length < 2 ^ 31 := hx.choose_spec.2.2.2
  have hev : (Term.length (.arg 0)).eval args s none [] s = some (.int xs.length.toInt32) := hx.length_eval hb
  have hv := Cond.le_ints hev (show (Term.int 288).eval args s none [] s = some (.int 288) from rfl)
  have hd : xs.length.toInt32 ≤ 288 := by
    simpa [Cond.before, Cond.holds, hv] using hle
  have hN : xs.length ≤ 288 := (Int32.ofNat_le_ofNat hsm (by decide)).mp (show Int32.ofNat xs.length ≤ Int32.ofNat 288 from hd)
  exact ⟨b, xs, Cond.one_arg hc (show args[0]? = some (.ref b) from hb), hx, hN, h⟩
theorem lw_comes (l : Launch) (hflags : l.flags = flags0) : Comes l x (Jvm.Cond.code x code maxLocals ret :: tables_1) room_1 (fun tb e args s => Calls_1 tb e args s ∧ rest_1 tb e args s ∧ Pre_1 tb e args s)
    (fun _ _ args s o t => lw_Q args s o t) := by
  intro p e ha hc hk s m args below hf hfit hheap happ hpre
  obtain ⟨b, xs, hP⟩ := lw_pre_spec hpre.2.2 hpre.2.1
  obtain ⟨k, o, h1, h2, h3, hQ⟩ := lw_walk l hflags b xs p e ha hc hk s m args below hf ((Spec.applies_iff_loose hf).mp happ).1 hP trivial
  exact ⟨k, o, h1, h2, h3, hQ⟩
theorem lw_frame {s t : State} {o : Outcome} {args : Array Value} (h : Framed s o t [] 1200000 5502250) :
    Framed s o t (fieldLocs frame_1_writes args s ++ arrayLocs frame_1_arrays args s ++ staticLocs frame_1_statics s) 1200000 5502250 := h
theorem lw_limb (L : Cond) (hL : ∀ (args : Array Value) (s t : State), L.after args s (.returned (some (.int 1))) t = true) :
    ArmFor flags0 classFile x code maxLocals ret World_1 tables_1 room_1 Calls_1 rest_1 Pre_1
      (fun tb e a s o t => postC L tb e a s o t ∧ Framed s o t (fieldLocs frame_1_writes a s ++ arrayLocs frame_1_arrays a s ++ staticLocs frame_1_statics s) 1200000 5502250) := by
  intro l hflags _ _ p e ha hc hk s m args below hf hfit hheap happ hpre
  obtain ⟨k, o, h1, h2, h3, rfl, hF⟩ := lw_comes l hflags p e ha hc hk s m args below hf hfit hheap happ hpre
  exact ⟨k, _, h1, h2, h3, hL args s _, lw_frame hF⟩
theorem i_vc : Claimed_1_1 ∧ Claimed_1_2 := ⟨lw_limb limb_1_1 (fun args s t => by simp [limb_1_1, Cond.after, Cond.holds, Cond.value]), lw_limb limb_1_2 (fun args s t => Cond.after_iff.mpr (by
  first | (rw [show limb_1_2 = Cond.eq .result (.int 1) from rfl, Cond.eq_ints (x := 1) (y := 1) rfl rfl]; simp; done) | (simp [limb_1_2, Cond.value, Term.eval]; done)))⟩
end
