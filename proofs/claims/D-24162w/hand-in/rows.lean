section
-- ===== PART A: goes FIRST, ahead of the names: the tables' words, and 'selects' of the private methods out of them =====
/-- a private method of a class that the tables say can be made, by its rows of tables_1 -/
def lw_okq (q : MethodName × Nat) : Prop := (q.1.cls ≠ "java/lang/invoke/MethodHandle" ∧ q.1.cls ≠ "java/lang/invoke/VarHandle") ∧ Cond.instantiable q.1.cls q.2 ∈ tables_1 ∧ Cond.privateMethod q.1 ∈ tables_1 ∧ Cond.instanceMethod q.1 ∈ tables_1
set_option maxRecDepth 100000
theorem lw_p0 : lw_okq (⟨"LongSortDesk", "from", "(I)I"⟩, 2) := ⟨⟨by decide +kernel, by decide +kernel⟩, List.mem_of_getElem? (i := 14) rfl, List.mem_of_getElem? (i := 12) rfl, List.mem_of_getElem? (i := 13) rfl⟩
theorem lw_p1 : lw_okq (⟨"LongSortDesk", "count", "(II)I"⟩, 2) := ⟨⟨by decide +kernel, by decide +kernel⟩, List.mem_of_getElem? (i := 14) rfl, List.mem_of_getElem? (i := 18) rfl, List.mem_of_getElem? (i := 19) rfl⟩
def lw_privs_1 : List (MethodName × Nat) := [(⟨"LongSortDesk", "from", "(I)I"⟩, 2), (⟨"LongSortDesk", "count", "(II)I"⟩, 2)]
theorem lw_r1 : ∀ q ∈ lw_privs_1, lw_okq q := List.forall_mem_cons.mpr ⟨lw_p0, List.forall_mem_cons.mpr ⟨lw_p1, fun _ h => absurd h List.not_mem_nil⟩⟩
def lw_privs : List (MethodName × Nat) := lw_privs_1
def lw_tbl : List Cond := k2_sels lw_privs ++ tables_1
theorem lw_privs_ok : ∀ q ∈ lw_privs, lw_okq q := lw_r1
-- ===== ONE list of words for every method: the tables' words that hold all through a run =====
def lw_all : List Cond := lw_tbl.filter goodWord
/-- a word of the tables by its place: claim/WORDS.tsv -/
theorem lw_w {w : Cond} (i : Nat) (h : lw_tbl[i]? = some w) (g : goodWord w = true) : w ∈ lw_all := List.mem_filter.mpr ⟨List.mem_of_getElem? h, g⟩
theorem lw_all_tbl {w : Cond} (h : w ∈ lw_all) : w ∈ lw_tbl := (List.mem_filter.mp h).1
theorem lw_self : GoodIn lw_all lw_all := fun w h => ⟨h, good_of_word (List.mem_filter.mp h).2⟩
/-- a class's field words, by their places -/
theorem lw_in (ws : List Cond) (ps : List Nat) (hp : ws = ps.filterMap (fun i => lw_tbl[i]?)) (hg : ws.all goodWord = true) : ∀ w ∈ ws, w ∈ lw_all := by
  intro w h
  have h1 := List.all_eq_true.mp hg w h
  rw [hp] at h
  obtain ⟨i, -, hi⟩ := List.mem_filterMap.mp h
  exact lw_w i hi h1
/-- the words of a contract for the method y with code b, L locals, answer r -/
abbrev ws_ (y : MethodName) (b : ByteArray) (L : Nat) (r : Option FieldType) : List Cond := Cond.code y b L r :: lw_all
theorem lw_meth {y : MethodName} {b : ByteArray} {L : Nat} {r : Option FieldType} (h : Cond.code y b L r ∈ lw_all) : GoodIn lw_all (ws_ y b L r) := by
  intro w hw
  rcases List.mem_cons.mp hw with e | e
  · rw [e]
    exact lw_self _ h
  · exact lw_self _ e
theorem lw_app {a c : List Cond} (ha : ∀ w ∈ a, w ∈ lw_all) (hc : GoodIn lw_all c) : GoodIn lw_all (a ++ c) := by
  intro w hw
  rcases List.mem_append.mp hw with e | e
  · exact lw_self w (ha w e)
  · exact hc w e
/-- what a call through an object asks: cwV n hts (lw_V ..) -/
theorem lw_V {own : String} {idx : Nat} {C : String} {y : MethodName} {b : ByteArray} {L : Nat} {r : Option FieldType} (h1 : Cond.methodLink own idx y ∈ lw_all) (h2 : Cond.instanceMethod y ∈ lw_all) (h3 : Cond.selects C y y ∈ lw_all) (h4 : Cond.initialized C ∈ lw_all) (h5 : Cond.code y b L r ∈ lw_all) : GoodIn lw_all (wsV own idx C y (ws_ y b L r)) := by
  refine lw_app ?_ (lw_meth h5)
  intro w hw
  simp only [List.mem_cons, List.not_mem_nil, or_false] at hw
  rcases hw with e | e | e | e
  · rw [e]; exact h1
  · rw [e]; exact h2
  · rw [e]; exact h3
  · rw [e]; exact h4
/-- what a static call asks: va_cwS n hts (lw_S ..) -/
theorem lw_S {own : String} {idx : Nat} {y : MethodName} {b : ByteArray} {L : Nat} {r : Option FieldType} (h1 : Cond.methodLink own idx y ∈ lw_all) (h2 : Cond.static y ∈ lw_all) (h3 : Cond.initialized y.cls ∈ lw_all) (h4 : Cond.code y b L r ∈ lw_all) : GoodIn lw_all (va_wsS own idx y (ws_ y b L r)) := by
  refine lw_app ?_ (lw_meth h4)
  intro w hw
  simp only [List.mem_cons, List.not_mem_nil, or_false] at hw
  rcases hw with e | e | e
  · rw [e]; exact h1
  · rw [e]; exact h2
  · rw [e]; exact h3
/-- the words of a contract for a method WITH HANDLERS (hh: its table) -/
abbrev wsW_ (y : MethodName) (b : ByteArray) (L : Nat) (r : Option FieldType) (hh : List (Nat × Nat × Nat × Nat)) : List Cond := Cond.codeWith y b L r hh :: lw_all
theorem lw_methW {y : MethodName} {b : ByteArray} {L : Nat} {r : Option FieldType} {hh : List (Nat × Nat × Nat × Nat)} (h : Cond.codeWith y b L r hh ∈ lw_all) : GoodIn lw_all (wsW_ y b L r hh) := by
  intro w hw
  rcases List.mem_cons.mp hw with e | e
  · rw [e]
    exact lw_self _ h
  · exact lw_self _ e
/-- any list of words by their places (lw_in), good -/
theorem lw_good {ws : List Cond} (h : ∀ w ∈ ws, w ∈ lw_all) : GoodIn lw_all ws := fun w hw => lw_self w (h w hw)
/-- what a call of a method with handlers asks: vx_cwVW n hts (lw_VW ..), vx_cwSW n hts (lw_SW ..) -/
theorem lw_VW {own : String} {idx : Nat} {C : String} {y : MethodName} {b : ByteArray} {L : Nat} {r : Option FieldType} {hh : List (Nat × Nat × Nat × Nat)} (h1 : Cond.methodLink own idx y ∈ lw_all) (h2 : Cond.instanceMethod y ∈ lw_all) (h3 : Cond.selects C y y ∈ lw_all) (h4 : Cond.initialized C ∈ lw_all) (h5 : Cond.codeWith y b L r hh ∈ lw_all) : GoodIn lw_all (wsV own idx C y (wsW_ y b L r hh)) := by
  refine lw_app ?_ (lw_methW h5)
  intro w hw
  simp only [List.mem_cons, List.not_mem_nil, or_false] at hw
  rcases hw with e | e | e | e
  · rw [e]; exact h1
  · rw [e]; exact h2
  · rw [e]; exact h3
  · rw [e]; exact h4
theorem lw_SW {own : String} {idx : Nat} {y : MethodName} {b : ByteArray} {L : Nat} {r : Option FieldType} {hh : List (Nat × Nat × Nat × Nat)} (h1 : Cond.methodLink own idx y ∈ lw_all) (h2 : Cond.static y ∈ lw_all) (h3 : Cond.initialized y.cls ∈ lw_all) (h4 : Cond.codeWith y b L r hh ∈ lw_all) : GoodIn lw_all (va_wsS own idx y (wsW_ y b L r hh)) := by
  refine lw_app ?_ (lw_methW h4)
  intro w hw
  simp only [List.mem_cons, List.not_mem_nil, or_false] at hw
  rcases hw with e | e | e
  · rw [e]; exact h1
  · rw [e]; exact h2
  · rw [e]; exact h3
/-- a word by its place in its run of the tables -/
theorem lw_at {r : List Cond} (hr : ∀ w ∈ r, w ∈ lw_tbl) {w : Cond} (i : Nat) (h : r[i]? = some w) : w ∈ lw_tbl := hr w (List.mem_of_getElem? h)
theorem lw_g {w : Cond} (h : w ∈ lw_tbl) (g : goodWord w = true) : w ∈ lw_all := List.mem_filter.mpr ⟨h, g⟩
theorem lw_ms : ∀ w ∈ k2_sels lw_privs, w ∈ lw_tbl := fun w h => show w ∈ k2_sels lw_privs ++ tables_1 from List.mem_append_left _ h
theorem lw_m0 : ∀ w ∈ tables_1, w ∈ lw_tbl := fun w h => show w ∈ k2_sels lw_privs ++ tables_1 from List.mem_append_right (k2_sels lw_privs) h
theorem qs0 : (Cond.selects "LongSortDesk" ⟨"LongSortDesk", "from", "(I)I"⟩ ⟨"LongSortDesk", "from", "(I)I"⟩) ∈ lw_all := lw_g (lw_at lw_ms 0 rfl) rfl
theorem qs1 : (Cond.selects "LongSortDesk" ⟨"LongSortDesk", "count", "(II)I"⟩ ⟨"LongSortDesk", "count", "(II)I"⟩) ∈ lw_all := lw_g (lw_at lw_ms 1 rfl) rfl
-- ===== end of PART A; then your names; then what follows =====
/-! DECODE ROWS BY BYTES: one lemma an opcode; a method's code is cut into short pieces once, and a row reads its own piece alone. -/
set_option maxRecDepth 100000
/-- the code has just these bytes from pc on -/
def DkAt (code : ByteArray) (pc : Nat) (bs : List UInt8) : Prop := ∀ (j : Nat) (b : UInt8), bs[j]? = some b → code.data.toList[pc + j]? = some b
/-- the piece W has the bytes bs from its place j on -/
def dkIn (W : List UInt8) (j : Nat) (bs : List UInt8) : Bool := decide ((W.drop j).take bs.length = bs)
theorem dk_seg {l W T : List UInt8} {o o2 : Nat} (h : l.drop o = W ++ T) (n : Nat) (hn : W.length = n) (ho : o + n = o2) : l.drop o2 = T := by
  subst ho
  rw [← List.drop_drop, h, List.drop_left' hn]
theorem dk_at {code : ByteArray} {W T bs : List UInt8} {o pc : Nat} (h : code.data.toList.drop o = W ++ T) (j : Nat) (hp : o + j = pc) (hw : dkIn W j bs = true) : DkAt code pc bs := by
  subst hp
  intro i b e
  have h1 := of_decide_eq_true hw
  have h2 : i < bs.length := (List.getElem?_eq_some_iff.mp e).1
  have h3 : W[j + i]? = some b := by
    rw [← h1, List.getElem?_take, if_pos h2, List.getElem?_drop] at e
    exact e
  have h4 : j + i < W.length := (List.getElem?_eq_some_iff.mp h3).1
  have h5 : (code.data.toList.drop o)[j + i]? = some b := by
    rw [h, List.getElem?_append_left h4]
    exact h3
  rw [List.getElem?_drop, ← Nat.add_assoc] at h5
  exact h5
theorem dk_u1 {A : ByteArray} {p : Nat} {b : UInt8} (h : A.data.toList[p]? = some b) : (Reader.u1 : Reader DecodeError Nat) A p = .ok (b.toNat, p + 1) := by
  obtain ⟨h1, h2⟩ := List.getElem?_eq_some_iff.mp h
  have h3 : p < A.size := by simpa using h1
  have h4 : A[p]'h3 = b := h2
  have e : (Reader.u1 : Reader DecodeError Nat) A p = (if h : p < A.size then .ok (A[p].toNat, p + 1) else .error (HasTruncated.truncated p)) := by
    show (do if h : p < A.size then do set (p + 1); Pure.pure A[p].toNat else MonadExcept.throw (HasTruncated.truncated p) : Reader DecodeError Nat) A p = _
    by_cases hi : p < A.size
    · rw [dif_pos hi, dif_pos hi]; rfl
    · rw [dif_neg hi, dif_neg hi]; rfl
  rw [e, dif_pos h3, h4]
theorem dk_bind {α β : Type} {r : Reader DecodeError α} {f : α → Reader DecodeError β} {A : ByteArray} {p s : Nat} {a : α} (h : r A p = .ok (a, s)) : (r >>= f) A p = f a A s := by
  show (do let (a, s) ← r A p; f a A s : Except DecodeError (β × Nat)) = _
  rw [h]
  rfl
theorem dk_map {α β : Type} {r : Reader DecodeError α} {g : α → β} {A : ByteArray} {p s : Nat} {a : α} (h : r A p = .ok (a, s)) : (g <$> r) A p = .ok (g a, s) := by
  show (do let (a, s) ← r A p; .ok (g a, s) : Except DecodeError (β × Nat)) = _
  rw [h]
  rfl
theorem dk_u2 {A : ByteArray} {p : Nat} {a b : UInt8} (h : A.data.toList[p]? = some a) (h2 : A.data.toList[p + 1]? = some b) : (Reader.u2 : Reader DecodeError Nat) A p = .ok (a.toNat * 256 + b.toNat, p + 2) := by
  show (Reader.u1 >>= fun hi => Reader.u1 >>= fun lo => Pure.pure (hi * 256 + lo) : Reader DecodeError Nat) A p = _
  rw [dk_bind (dk_u1 h), dk_bind (dk_u1 h2)]
  rfl
theorem dk_of {code : ByteArray} {pc n : Nat} {i : Instr} (h : Decoder.instr pc code pc = .ok (i, pc + n)) : decode code pc = .ok (i, n) := by
  have e : decode code pc = (match Decoder.instr pc code pc with | .error x => .error x | .ok (j, s) => .ok (j, s - pc)) := by
    show (do let (j, s) ← Decoder.instr pc code pc; Pure.pure (j, s - pc) : Except DecodeError (Instr × Nat)) = _
    cases Decoder.instr pc code pc <;> rfl
  rw [e, h]
  show Except.ok (i, pc + n - pc) = _
  rw [Nat.add_sub_cancel_left]
theorem dk_1 {code : ByteArray} {pc : Nat} (h : DkAt code pc [1]) : decode code pc = .ok (.aconst_null, 1) := dk_of ((dk_bind (dk_u1 (h 0 _ rfl))).trans rfl)
theorem dk_2 {code : ByteArray} {pc : Nat} (h : DkAt code pc [2]) : decode code pc = .ok (.iconst (-1), 1) := dk_of ((dk_bind (dk_u1 (h 0 _ rfl))).trans rfl)
theorem dk_3 {code : ByteArray} {pc : Nat} (h : DkAt code pc [3]) : decode code pc = .ok (.iconst 0, 1) := dk_of ((dk_bind (dk_u1 (h 0 _ rfl))).trans rfl)
theorem dk_4 {code : ByteArray} {pc : Nat} (h : DkAt code pc [4]) : decode code pc = .ok (.iconst 1, 1) := dk_of ((dk_bind (dk_u1 (h 0 _ rfl))).trans rfl)
theorem dk_5 {code : ByteArray} {pc : Nat} (h : DkAt code pc [5]) : decode code pc = .ok (.iconst 2, 1) := dk_of ((dk_bind (dk_u1 (h 0 _ rfl))).trans rfl)
theorem dk_6 {code : ByteArray} {pc : Nat} (h : DkAt code pc [6]) : decode code pc = .ok (.iconst 3, 1) := dk_of ((dk_bind (dk_u1 (h 0 _ rfl))).trans rfl)
theorem dk_7 {code : ByteArray} {pc : Nat} (h : DkAt code pc [7]) : decode code pc = .ok (.iconst 4, 1) := dk_of ((dk_bind (dk_u1 (h 0 _ rfl))).trans rfl)
theorem dk_8 {code : ByteArray} {pc : Nat} (h : DkAt code pc [8]) : decode code pc = .ok (.iconst 5, 1) := dk_of ((dk_bind (dk_u1 (h 0 _ rfl))).trans rfl)
theorem dk_9 {code : ByteArray} {pc : Nat} (h : DkAt code pc [9]) : decode code pc = .ok (.lconst 0, 1) := dk_of ((dk_bind (dk_u1 (h 0 _ rfl))).trans rfl)
theorem dk_16 {code : ByteArray} {pc : Nat} (a : UInt8) (h : DkAt code pc [16, a]) : decode code pc = .ok (.bipush (Reader.signed 8 a.toNat), 2) := dk_of ((dk_bind (dk_u1 (h 0 _ rfl))).trans ((dk_bind (dk_map (dk_u1 (h 1 _ rfl)))).trans rfl))
theorem dk_17 {code : ByteArray} {pc : Nat} (a b : UInt8) (h : DkAt code pc [17, a, b]) : decode code pc = .ok (.sipush (Reader.signed 16 (a.toNat * 256 + b.toNat)), 3) := dk_of ((dk_bind (dk_u1 (h 0 _ rfl))).trans ((dk_bind (dk_map (dk_u2 (h 1 _ rfl) (h 2 _ rfl)))).trans rfl))
theorem dk_18 {code : ByteArray} {pc : Nat} (a : UInt8) (h : DkAt code pc [18, a]) : decode code pc = .ok (.ldc a.toNat, 2) := dk_of ((dk_bind (dk_u1 (h 0 _ rfl))).trans ((dk_bind (dk_u1 (h 1 _ rfl))).trans rfl))
theorem dk_20 {code : ByteArray} {pc : Nat} (a b : UInt8) (h : DkAt code pc [20, a, b]) : decode code pc = .ok (.ldc2_w (a.toNat * 256 + b.toNat), 3) := dk_of ((dk_bind (dk_u1 (h 0 _ rfl))).trans ((dk_bind (dk_u2 (h 1 _ rfl) (h 2 _ rfl))).trans rfl))
theorem dk_21 {code : ByteArray} {pc : Nat} (a : UInt8) (h : DkAt code pc [21, a]) : decode code pc = .ok (.iload a.toNat, 2) := dk_of ((dk_bind (dk_u1 (h 0 _ rfl))).trans ((dk_bind (dk_u1 (h 1 _ rfl))).trans rfl))
theorem dk_22 {code : ByteArray} {pc : Nat} (a : UInt8) (h : DkAt code pc [22, a]) : decode code pc = .ok (.lload a.toNat, 2) := dk_of ((dk_bind (dk_u1 (h 0 _ rfl))).trans ((dk_bind (dk_u1 (h 1 _ rfl))).trans rfl))
theorem dk_25 {code : ByteArray} {pc : Nat} (a : UInt8) (h : DkAt code pc [25, a]) : decode code pc = .ok (.aload a.toNat, 2) := dk_of ((dk_bind (dk_u1 (h 0 _ rfl))).trans ((dk_bind (dk_u1 (h 1 _ rfl))).trans rfl))
theorem dk_26 {code : ByteArray} {pc : Nat} (h : DkAt code pc [26]) : decode code pc = .ok (.iload_n 0, 1) := dk_of ((dk_bind (dk_u1 (h 0 _ rfl))).trans rfl)
theorem dk_27 {code : ByteArray} {pc : Nat} (h : DkAt code pc [27]) : decode code pc = .ok (.iload_n 1, 1) := dk_of ((dk_bind (dk_u1 (h 0 _ rfl))).trans rfl)
theorem dk_28 {code : ByteArray} {pc : Nat} (h : DkAt code pc [28]) : decode code pc = .ok (.iload_n 2, 1) := dk_of ((dk_bind (dk_u1 (h 0 _ rfl))).trans rfl)
theorem dk_29 {code : ByteArray} {pc : Nat} (h : DkAt code pc [29]) : decode code pc = .ok (.iload_n 3, 1) := dk_of ((dk_bind (dk_u1 (h 0 _ rfl))).trans rfl)
theorem dk_30 {code : ByteArray} {pc : Nat} (h : DkAt code pc [30]) : decode code pc = .ok (.lload_n 0, 1) := dk_of ((dk_bind (dk_u1 (h 0 _ rfl))).trans rfl)
theorem dk_32 {code : ByteArray} {pc : Nat} (h : DkAt code pc [32]) : decode code pc = .ok (.lload_n 2, 1) := dk_of ((dk_bind (dk_u1 (h 0 _ rfl))).trans rfl)
theorem dk_33 {code : ByteArray} {pc : Nat} (h : DkAt code pc [33]) : decode code pc = .ok (.lload_n 3, 1) := dk_of ((dk_bind (dk_u1 (h 0 _ rfl))).trans rfl)
theorem dk_42 {code : ByteArray} {pc : Nat} (h : DkAt code pc [42]) : decode code pc = .ok (.aload_n 0, 1) := dk_of ((dk_bind (dk_u1 (h 0 _ rfl))).trans rfl)
theorem dk_43 {code : ByteArray} {pc : Nat} (h : DkAt code pc [43]) : decode code pc = .ok (.aload_n 1, 1) := dk_of ((dk_bind (dk_u1 (h 0 _ rfl))).trans rfl)
theorem dk_44 {code : ByteArray} {pc : Nat} (h : DkAt code pc [44]) : decode code pc = .ok (.aload_n 2, 1) := dk_of ((dk_bind (dk_u1 (h 0 _ rfl))).trans rfl)
theorem dk_45 {code : ByteArray} {pc : Nat} (h : DkAt code pc [45]) : decode code pc = .ok (.aload_n 3, 1) := dk_of ((dk_bind (dk_u1 (h 0 _ rfl))).trans rfl)
theorem dk_46 {code : ByteArray} {pc : Nat} (h : DkAt code pc [46]) : decode code pc = .ok (.iaload, 1) := dk_of ((dk_bind (dk_u1 (h 0 _ rfl))).trans rfl)
theorem dk_47 {code : ByteArray} {pc : Nat} (h : DkAt code pc [47]) : decode code pc = .ok (.laload, 1) := dk_of ((dk_bind (dk_u1 (h 0 _ rfl))).trans rfl)
theorem dk_54 {code : ByteArray} {pc : Nat} (a : UInt8) (h : DkAt code pc [54, a]) : decode code pc = .ok (.istore a.toNat, 2) := dk_of ((dk_bind (dk_u1 (h 0 _ rfl))).trans ((dk_bind (dk_u1 (h 1 _ rfl))).trans rfl))
theorem dk_55 {code : ByteArray} {pc : Nat} (a : UInt8) (h : DkAt code pc [55, a]) : decode code pc = .ok (.lstore a.toNat, 2) := dk_of ((dk_bind (dk_u1 (h 0 _ rfl))).trans ((dk_bind (dk_u1 (h 1 _ rfl))).trans rfl))
theorem dk_58 {code : ByteArray} {pc : Nat} (a : UInt8) (h : DkAt code pc [58, a]) : decode code pc = .ok (.astore a.toNat, 2) := dk_of ((dk_bind (dk_u1 (h 0 _ rfl))).trans ((dk_bind (dk_u1 (h 1 _ rfl))).trans rfl))
theorem dk_60 {code : ByteArray} {pc : Nat} (h : DkAt code pc [60]) : decode code pc = .ok (.istore_n 1, 1) := dk_of ((dk_bind (dk_u1 (h 0 _ rfl))).trans rfl)
theorem dk_61 {code : ByteArray} {pc : Nat} (h : DkAt code pc [61]) : decode code pc = .ok (.istore_n 2, 1) := dk_of ((dk_bind (dk_u1 (h 0 _ rfl))).trans rfl)
theorem dk_62 {code : ByteArray} {pc : Nat} (h : DkAt code pc [62]) : decode code pc = .ok (.istore_n 3, 1) := dk_of ((dk_bind (dk_u1 (h 0 _ rfl))).trans rfl)
theorem dk_66 {code : ByteArray} {pc : Nat} (h : DkAt code pc [66]) : decode code pc = .ok (.lstore_n 3, 1) := dk_of ((dk_bind (dk_u1 (h 0 _ rfl))).trans rfl)
theorem dk_76 {code : ByteArray} {pc : Nat} (h : DkAt code pc [76]) : decode code pc = .ok (.astore_n 1, 1) := dk_of ((dk_bind (dk_u1 (h 0 _ rfl))).trans rfl)
theorem dk_77 {code : ByteArray} {pc : Nat} (h : DkAt code pc [77]) : decode code pc = .ok (.astore_n 2, 1) := dk_of ((dk_bind (dk_u1 (h 0 _ rfl))).trans rfl)
theorem dk_78 {code : ByteArray} {pc : Nat} (h : DkAt code pc [78]) : decode code pc = .ok (.astore_n 3, 1) := dk_of ((dk_bind (dk_u1 (h 0 _ rfl))).trans rfl)
theorem dk_79 {code : ByteArray} {pc : Nat} (h : DkAt code pc [79]) : decode code pc = .ok (.iastore, 1) := dk_of ((dk_bind (dk_u1 (h 0 _ rfl))).trans rfl)
theorem dk_80 {code : ByteArray} {pc : Nat} (h : DkAt code pc [80]) : decode code pc = .ok (.lastore, 1) := dk_of ((dk_bind (dk_u1 (h 0 _ rfl))).trans rfl)
theorem dk_87 {code : ByteArray} {pc : Nat} (h : DkAt code pc [87]) : decode code pc = .ok (.pop, 1) := dk_of ((dk_bind (dk_u1 (h 0 _ rfl))).trans rfl)
theorem dk_89 {code : ByteArray} {pc : Nat} (h : DkAt code pc [89]) : decode code pc = .ok (.dup, 1) := dk_of ((dk_bind (dk_u1 (h 0 _ rfl))).trans rfl)
theorem dk_90 {code : ByteArray} {pc : Nat} (h : DkAt code pc [90]) : decode code pc = .ok (.dup_x1, 1) := dk_of ((dk_bind (dk_u1 (h 0 _ rfl))).trans rfl)
theorem dk_91 {code : ByteArray} {pc : Nat} (h : DkAt code pc [91]) : decode code pc = .ok (.dup_x2, 1) := dk_of ((dk_bind (dk_u1 (h 0 _ rfl))).trans rfl)
theorem dk_92 {code : ByteArray} {pc : Nat} (h : DkAt code pc [92]) : decode code pc = .ok (.dup2, 1) := dk_of ((dk_bind (dk_u1 (h 0 _ rfl))).trans rfl)
theorem dk_96 {code : ByteArray} {pc : Nat} (h : DkAt code pc [96]) : decode code pc = .ok (.iadd, 1) := dk_of ((dk_bind (dk_u1 (h 0 _ rfl))).trans rfl)
theorem dk_97 {code : ByteArray} {pc : Nat} (h : DkAt code pc [97]) : decode code pc = .ok (.ladd, 1) := dk_of ((dk_bind (dk_u1 (h 0 _ rfl))).trans rfl)
theorem dk_100 {code : ByteArray} {pc : Nat} (h : DkAt code pc [100]) : decode code pc = .ok (.isub, 1) := dk_of ((dk_bind (dk_u1 (h 0 _ rfl))).trans rfl)
theorem dk_104 {code : ByteArray} {pc : Nat} (h : DkAt code pc [104]) : decode code pc = .ok (.imul, 1) := dk_of ((dk_bind (dk_u1 (h 0 _ rfl))).trans rfl)
theorem dk_105 {code : ByteArray} {pc : Nat} (h : DkAt code pc [105]) : decode code pc = .ok (.lmul, 1) := dk_of ((dk_bind (dk_u1 (h 0 _ rfl))).trans rfl)
theorem dk_108 {code : ByteArray} {pc : Nat} (h : DkAt code pc [108]) : decode code pc = .ok (.idiv, 1) := dk_of ((dk_bind (dk_u1 (h 0 _ rfl))).trans rfl)
theorem dk_112 {code : ByteArray} {pc : Nat} (h : DkAt code pc [112]) : decode code pc = .ok (.irem, 1) := dk_of ((dk_bind (dk_u1 (h 0 _ rfl))).trans rfl)
theorem dk_116 {code : ByteArray} {pc : Nat} (h : DkAt code pc [116]) : decode code pc = .ok (.ineg, 1) := dk_of ((dk_bind (dk_u1 (h 0 _ rfl))).trans rfl)
theorem dk_121 {code : ByteArray} {pc : Nat} (h : DkAt code pc [121]) : decode code pc = .ok (.lshl, 1) := dk_of ((dk_bind (dk_u1 (h 0 _ rfl))).trans rfl)
theorem dk_124 {code : ByteArray} {pc : Nat} (h : DkAt code pc [124]) : decode code pc = .ok (.iushr, 1) := dk_of ((dk_bind (dk_u1 (h 0 _ rfl))).trans rfl)
theorem dk_125 {code : ByteArray} {pc : Nat} (h : DkAt code pc [125]) : decode code pc = .ok (.lushr, 1) := dk_of ((dk_bind (dk_u1 (h 0 _ rfl))).trans rfl)
theorem dk_126 {code : ByteArray} {pc : Nat} (h : DkAt code pc [126]) : decode code pc = .ok (.iand, 1) := dk_of ((dk_bind (dk_u1 (h 0 _ rfl))).trans rfl)
theorem dk_127 {code : ByteArray} {pc : Nat} (h : DkAt code pc [127]) : decode code pc = .ok (.land, 1) := dk_of ((dk_bind (dk_u1 (h 0 _ rfl))).trans rfl)
theorem dk_128 {code : ByteArray} {pc : Nat} (h : DkAt code pc [128]) : decode code pc = .ok (.ior, 1) := dk_of ((dk_bind (dk_u1 (h 0 _ rfl))).trans rfl)
theorem dk_129 {code : ByteArray} {pc : Nat} (h : DkAt code pc [129]) : decode code pc = .ok (.lor, 1) := dk_of ((dk_bind (dk_u1 (h 0 _ rfl))).trans rfl)
theorem dk_131 {code : ByteArray} {pc : Nat} (h : DkAt code pc [131]) : decode code pc = .ok (.lxor, 1) := dk_of ((dk_bind (dk_u1 (h 0 _ rfl))).trans rfl)
theorem dk_132 {code : ByteArray} {pc : Nat} (a b : UInt8) (h : DkAt code pc [132, a, b]) : decode code pc = .ok (.iinc a.toNat (Reader.signed 8 b.toNat), 3) := dk_of ((dk_bind (dk_u1 (h 0 _ rfl))).trans ((dk_bind (dk_u1 (h 1 _ rfl))).trans ((dk_bind (dk_map (dk_u1 (h 2 _ rfl)))).trans rfl)))
theorem dk_133 {code : ByteArray} {pc : Nat} (h : DkAt code pc [133]) : decode code pc = .ok (.i2l, 1) := dk_of ((dk_bind (dk_u1 (h 0 _ rfl))).trans rfl)
theorem dk_136 {code : ByteArray} {pc : Nat} (h : DkAt code pc [136]) : decode code pc = .ok (.l2i, 1) := dk_of ((dk_bind (dk_u1 (h 0 _ rfl))).trans rfl)
theorem dk_148 {code : ByteArray} {pc : Nat} (h : DkAt code pc [148]) : decode code pc = .ok (.lcmp, 1) := dk_of ((dk_bind (dk_u1 (h 0 _ rfl))).trans rfl)
theorem dk_153 {code : ByteArray} {pc : Nat} (a b : UInt8) (h : DkAt code pc [153, a, b]) : decode code pc = .ok (.ifCond .eq (Reader.signed 16 (a.toNat * 256 + b.toNat)), 3) := dk_of ((dk_bind (dk_u1 (h 0 _ rfl))).trans ((dk_bind (dk_map (dk_u2 (h 1 _ rfl) (h 2 _ rfl)))).trans rfl))
theorem dk_154 {code : ByteArray} {pc : Nat} (a b : UInt8) (h : DkAt code pc [154, a, b]) : decode code pc = .ok (.ifCond .ne (Reader.signed 16 (a.toNat * 256 + b.toNat)), 3) := dk_of ((dk_bind (dk_u1 (h 0 _ rfl))).trans ((dk_bind (dk_map (dk_u2 (h 1 _ rfl) (h 2 _ rfl)))).trans rfl))
theorem dk_155 {code : ByteArray} {pc : Nat} (a b : UInt8) (h : DkAt code pc [155, a, b]) : decode code pc = .ok (.ifCond .lt (Reader.signed 16 (a.toNat * 256 + b.toNat)), 3) := dk_of ((dk_bind (dk_u1 (h 0 _ rfl))).trans ((dk_bind (dk_map (dk_u2 (h 1 _ rfl) (h 2 _ rfl)))).trans rfl))
theorem dk_156 {code : ByteArray} {pc : Nat} (a b : UInt8) (h : DkAt code pc [156, a, b]) : decode code pc = .ok (.ifCond .ge (Reader.signed 16 (a.toNat * 256 + b.toNat)), 3) := dk_of ((dk_bind (dk_u1 (h 0 _ rfl))).trans ((dk_bind (dk_map (dk_u2 (h 1 _ rfl) (h 2 _ rfl)))).trans rfl))
theorem dk_157 {code : ByteArray} {pc : Nat} (a b : UInt8) (h : DkAt code pc [157, a, b]) : decode code pc = .ok (.ifCond .gt (Reader.signed 16 (a.toNat * 256 + b.toNat)), 3) := dk_of ((dk_bind (dk_u1 (h 0 _ rfl))).trans ((dk_bind (dk_map (dk_u2 (h 1 _ rfl) (h 2 _ rfl)))).trans rfl))
theorem dk_158 {code : ByteArray} {pc : Nat} (a b : UInt8) (h : DkAt code pc [158, a, b]) : decode code pc = .ok (.ifCond .le (Reader.signed 16 (a.toNat * 256 + b.toNat)), 3) := dk_of ((dk_bind (dk_u1 (h 0 _ rfl))).trans ((dk_bind (dk_map (dk_u2 (h 1 _ rfl) (h 2 _ rfl)))).trans rfl))
theorem dk_159 {code : ByteArray} {pc : Nat} (a b : UInt8) (h : DkAt code pc [159, a, b]) : decode code pc = .ok (.if_icmp .eq (Reader.signed 16 (a.toNat * 256 + b.toNat)), 3) := dk_of ((dk_bind (dk_u1 (h 0 _ rfl))).trans ((dk_bind (dk_map (dk_u2 (h 1 _ rfl) (h 2 _ rfl)))).trans rfl))
theorem dk_160 {code : ByteArray} {pc : Nat} (a b : UInt8) (h : DkAt code pc [160, a, b]) : decode code pc = .ok (.if_icmp .ne (Reader.signed 16 (a.toNat * 256 + b.toNat)), 3) := dk_of ((dk_bind (dk_u1 (h 0 _ rfl))).trans ((dk_bind (dk_map (dk_u2 (h 1 _ rfl) (h 2 _ rfl)))).trans rfl))
theorem dk_161 {code : ByteArray} {pc : Nat} (a b : UInt8) (h : DkAt code pc [161, a, b]) : decode code pc = .ok (.if_icmp .lt (Reader.signed 16 (a.toNat * 256 + b.toNat)), 3) := dk_of ((dk_bind (dk_u1 (h 0 _ rfl))).trans ((dk_bind (dk_map (dk_u2 (h 1 _ rfl) (h 2 _ rfl)))).trans rfl))
theorem dk_162 {code : ByteArray} {pc : Nat} (a b : UInt8) (h : DkAt code pc [162, a, b]) : decode code pc = .ok (.if_icmp .ge (Reader.signed 16 (a.toNat * 256 + b.toNat)), 3) := dk_of ((dk_bind (dk_u1 (h 0 _ rfl))).trans ((dk_bind (dk_map (dk_u2 (h 1 _ rfl) (h 2 _ rfl)))).trans rfl))
theorem dk_163 {code : ByteArray} {pc : Nat} (a b : UInt8) (h : DkAt code pc [163, a, b]) : decode code pc = .ok (.if_icmp .gt (Reader.signed 16 (a.toNat * 256 + b.toNat)), 3) := dk_of ((dk_bind (dk_u1 (h 0 _ rfl))).trans ((dk_bind (dk_map (dk_u2 (h 1 _ rfl) (h 2 _ rfl)))).trans rfl))
theorem dk_164 {code : ByteArray} {pc : Nat} (a b : UInt8) (h : DkAt code pc [164, a, b]) : decode code pc = .ok (.if_icmp .le (Reader.signed 16 (a.toNat * 256 + b.toNat)), 3) := dk_of ((dk_bind (dk_u1 (h 0 _ rfl))).trans ((dk_bind (dk_map (dk_u2 (h 1 _ rfl) (h 2 _ rfl)))).trans rfl))
theorem dk_167 {code : ByteArray} {pc : Nat} (a b : UInt8) (h : DkAt code pc [167, a, b]) : decode code pc = .ok (.goto (Reader.signed 16 (a.toNat * 256 + b.toNat)), 3) := dk_of ((dk_bind (dk_u1 (h 0 _ rfl))).trans ((dk_bind (dk_map (dk_u2 (h 1 _ rfl) (h 2 _ rfl)))).trans rfl))
theorem dk_172 {code : ByteArray} {pc : Nat} (h : DkAt code pc [172]) : decode code pc = .ok (.ireturn, 1) := dk_of ((dk_bind (dk_u1 (h 0 _ rfl))).trans rfl)
theorem dk_173 {code : ByteArray} {pc : Nat} (h : DkAt code pc [173]) : decode code pc = .ok (.lreturn, 1) := dk_of ((dk_bind (dk_u1 (h 0 _ rfl))).trans rfl)
theorem dk_176 {code : ByteArray} {pc : Nat} (h : DkAt code pc [176]) : decode code pc = .ok (.areturn, 1) := dk_of ((dk_bind (dk_u1 (h 0 _ rfl))).trans rfl)
theorem dk_177 {code : ByteArray} {pc : Nat} (h : DkAt code pc [177]) : decode code pc = .ok (.return_, 1) := dk_of ((dk_bind (dk_u1 (h 0 _ rfl))).trans rfl)
theorem dk_180 {code : ByteArray} {pc : Nat} (a b : UInt8) (h : DkAt code pc [180, a, b]) : decode code pc = .ok (.getfield (a.toNat * 256 + b.toNat), 3) := dk_of ((dk_bind (dk_u1 (h 0 _ rfl))).trans ((dk_bind (dk_u2 (h 1 _ rfl) (h 2 _ rfl))).trans rfl))
theorem dk_181 {code : ByteArray} {pc : Nat} (a b : UInt8) (h : DkAt code pc [181, a, b]) : decode code pc = .ok (.putfield (a.toNat * 256 + b.toNat), 3) := dk_of ((dk_bind (dk_u1 (h 0 _ rfl))).trans ((dk_bind (dk_u2 (h 1 _ rfl) (h 2 _ rfl))).trans rfl))
theorem dk_182 {code : ByteArray} {pc : Nat} (a b : UInt8) (h : DkAt code pc [182, a, b]) : decode code pc = .ok (.invokevirtual (a.toNat * 256 + b.toNat), 3) := dk_of ((dk_bind (dk_u1 (h 0 _ rfl))).trans ((dk_bind (dk_u2 (h 1 _ rfl) (h 2 _ rfl))).trans rfl))
theorem dk_183 {code : ByteArray} {pc : Nat} (a b : UInt8) (h : DkAt code pc [183, a, b]) : decode code pc = .ok (.invokespecial (a.toNat * 256 + b.toNat), 3) := dk_of ((dk_bind (dk_u1 (h 0 _ rfl))).trans ((dk_bind (dk_u2 (h 1 _ rfl) (h 2 _ rfl))).trans rfl))
theorem dk_184 {code : ByteArray} {pc : Nat} (a b : UInt8) (h : DkAt code pc [184, a, b]) : decode code pc = .ok (.invokestatic (a.toNat * 256 + b.toNat), 3) := dk_of ((dk_bind (dk_u1 (h 0 _ rfl))).trans ((dk_bind (dk_u2 (h 1 _ rfl) (h 2 _ rfl))).trans rfl))
theorem dk_187 {code : ByteArray} {pc : Nat} (a b : UInt8) (h : DkAt code pc [187, a, b]) : decode code pc = .ok (.new (a.toNat * 256 + b.toNat), 3) := dk_of ((dk_bind (dk_u1 (h 0 _ rfl))).trans ((dk_bind (dk_u2 (h 1 _ rfl) (h 2 _ rfl))).trans rfl))
theorem dk_188_10 {code : ByteArray} {pc : Nat} (h : DkAt code pc [188, 10]) : decode code pc = .ok (.newarray .int, 2) := dk_of ((dk_bind (dk_u1 (h 0 _ rfl))).trans ((dk_bind (dk_u1 (h 1 _ rfl))).trans rfl))
theorem dk_188_11 {code : ByteArray} {pc : Nat} (h : DkAt code pc [188, 11]) : decode code pc = .ok (.newarray .long, 2) := dk_of ((dk_bind (dk_u1 (h 0 _ rfl))).trans ((dk_bind (dk_u1 (h 1 _ rfl))).trans rfl))
theorem dk_190 {code : ByteArray} {pc : Nat} (h : DkAt code pc [190]) : decode code pc = .ok (.arraylength, 1) := dk_of ((dk_bind (dk_u1 (h 0 _ rfl))).trans rfl)
theorem dk_192 {code : ByteArray} {pc : Nat} (a b : UInt8) (h : DkAt code pc [192, a, b]) : decode code pc = .ok (.checkcast (a.toNat * 256 + b.toNat), 3) := dk_of ((dk_bind (dk_u1 (h 0 _ rfl))).trans ((dk_bind (dk_u2 (h 1 _ rfl) (h 2 _ rfl))).trans rfl))
theorem dk_199 {code : ByteArray} {pc : Nat} (a b : UInt8) (h : DkAt code pc [199, a, b]) : decode code pc = .ok (.ifnonnull (Reader.signed 16 (a.toNat * 256 + b.toNat)), 3) := dk_of ((dk_bind (dk_u1 (h 0 _ rfl))).trans ((dk_bind (dk_map (dk_u2 (h 1 _ rfl) (h 2 _ rfl)))).trans rfl))
/-! java/lang/Long -/
set_option maxRecDepth 100000
def RJ0 : String := "java/lang/Long"
abbrev cJ0_compare : ByteArray := prog_5_method_42_code
def yJ0_compare : MethodName := ⟨RJ0, "compare", "(JJ)I"⟩
def dkwJ0_compare_0 : List UInt8 := [30, 32, 148, 156, 0, 7, 2, 167, 0, 14, 30, 32, 148, 154, 0, 7, 3, 167, 0, 4, 4, 172]
abbrev dktJ0_compare_0 : List UInt8 := dkwJ0_compare_0 ++ []
theorem dksJ0_compare_0 : cJ0_compare.data.toList.drop 0 = dktJ0_compare_0 := by decide +kernel
theorem dJ0_compare_0 : decode cJ0_compare 0 = .ok (.lload_n 0, 1) := dk_30 (dk_at dksJ0_compare_0 0 rfl rfl)
theorem dJ0_compare_1 : decode cJ0_compare 1 = .ok (.lload_n 2, 1) := dk_32 (dk_at dksJ0_compare_0 1 rfl rfl)
theorem dJ0_compare_2 : decode cJ0_compare 2 = .ok (.lcmp, 1) := dk_148 (dk_at dksJ0_compare_0 2 rfl rfl)
theorem dJ0_compare_3 : decode cJ0_compare 3 = .ok (.ifCond .ge 7, 3) := dk_156 0 7 (dk_at dksJ0_compare_0 3 rfl rfl)
theorem dJ0_compare_6 : decode cJ0_compare 6 = .ok (.iconst (-1), 1) := dk_2 (dk_at dksJ0_compare_0 6 rfl rfl)
theorem dJ0_compare_7 : decode cJ0_compare 7 = .ok (.goto 14, 3) := dk_167 0 14 (dk_at dksJ0_compare_0 7 rfl rfl)
theorem dJ0_compare_10 : decode cJ0_compare 10 = .ok (.lload_n 0, 1) := dk_30 (dk_at dksJ0_compare_0 10 rfl rfl)
theorem dJ0_compare_11 : decode cJ0_compare 11 = .ok (.lload_n 2, 1) := dk_32 (dk_at dksJ0_compare_0 11 rfl rfl)
theorem dJ0_compare_12 : decode cJ0_compare 12 = .ok (.lcmp, 1) := dk_148 (dk_at dksJ0_compare_0 12 rfl rfl)
theorem dJ0_compare_13 : decode cJ0_compare 13 = .ok (.ifCond .ne 7, 3) := dk_154 0 7 (dk_at dksJ0_compare_0 13 rfl rfl)
theorem dJ0_compare_16 : decode cJ0_compare 16 = .ok (.iconst 0, 1) := dk_3 (dk_at dksJ0_compare_0 16 rfl rfl)
theorem dJ0_compare_17 : decode cJ0_compare 17 = .ok (.goto 4, 3) := dk_167 0 4 (dk_at dksJ0_compare_0 17 rfl rfl)
theorem dJ0_compare_20 : decode cJ0_compare 20 = .ok (.iconst 1, 1) := dk_4 (dk_at dksJ0_compare_0 20 rfl rfl)
theorem dJ0_compare_21 : decode cJ0_compare 21 = .ok (.ireturn, 1) := dk_172 (dk_at dksJ0_compare_0 21 rfl rfl)
theorem q5 : (Jvm.Cond.initialized "java/lang/Long") ∈ lw_all := lw_g (lw_at lw_m0 3 rfl) rfl
theorem q33 : (Jvm.Cond.static ({ cls := "java/lang/Long", name := "compare", desc := "(JJ)I" } : Jvm.MethodName)) ∈ lw_all := lw_g (lw_at lw_m0 31 rfl) rfl
theorem q34 : (Jvm.Cond.code ({ cls := "java/lang/Long", name := "compare", desc := "(JJ)I" } : Jvm.MethodName) prog_5_method_42_code (4 : Nat) (Option.some Jvm.ClassFile.FieldType.int)) ∈ lw_all := lw_g (lw_at lw_m0 32 rfl) rfl
/-! java/lang/Math -/
set_option maxRecDepth 100000
def RJ1 : String := "java/lang/Math"
abbrev cJ1_min : ByteArray := prog_6_method_69_code
def yJ1_min : MethodName := ⟨RJ1, "min", "(II)I"⟩
def dkwJ1_min_0 : List UInt8 := [26, 27, 163, 0, 7, 26, 167, 0, 4, 27, 172]
abbrev dktJ1_min_0 : List UInt8 := dkwJ1_min_0 ++ []
theorem dksJ1_min_0 : cJ1_min.data.toList.drop 0 = dktJ1_min_0 := by decide +kernel
theorem dJ1_min_0 : decode cJ1_min 0 = .ok (.iload_n 0, 1) := dk_26 (dk_at dksJ1_min_0 0 rfl rfl)
theorem dJ1_min_1 : decode cJ1_min 1 = .ok (.iload_n 1, 1) := dk_27 (dk_at dksJ1_min_0 1 rfl rfl)
theorem dJ1_min_2 : decode cJ1_min 2 = .ok (.if_icmp .gt 7, 3) := dk_163 0 7 (dk_at dksJ1_min_0 2 rfl rfl)
theorem dJ1_min_5 : decode cJ1_min 5 = .ok (.iload_n 0, 1) := dk_26 (dk_at dksJ1_min_0 5 rfl rfl)
theorem dJ1_min_6 : decode cJ1_min 6 = .ok (.goto 4, 3) := dk_167 0 4 (dk_at dksJ1_min_0 6 rfl rfl)
theorem dJ1_min_9 : decode cJ1_min 9 = .ok (.iload_n 1, 1) := dk_27 (dk_at dksJ1_min_0 9 rfl rfl)
theorem dJ1_min_10 : decode cJ1_min 10 = .ok (.ireturn, 1) := dk_172 (dk_at dksJ1_min_0 10 rfl rfl)
theorem q6 : (Jvm.Cond.initialized "java/lang/Math") ∈ lw_all := lw_g (lw_at lw_m0 4 rfl) rfl
theorem q39 : (Jvm.Cond.static ({ cls := "java/lang/Math", name := "min", desc := "(II)I" } : Jvm.MethodName)) ∈ lw_all := lw_g (lw_at lw_m0 37 rfl) rfl
theorem q40 : (Jvm.Cond.code ({ cls := "java/lang/Math", name := "min", desc := "(II)I" } : Jvm.MethodName) prog_6_method_69_code (2 : Nat) (Option.some Jvm.ClassFile.FieldType.int)) ∈ lw_all := lw_g (lw_at lw_m0 38 rfl) rfl
/-! java/util/Arrays -/
set_option maxRecDepth 100000
def RJ2 : String := "java/util/Arrays"
abbrev cJ2_copyOf : ByteArray := prog_8_method_124_code
def yJ2_copyOf : MethodName := ⟨RJ2, "copyOf", "([JI)[J"⟩
def dkwJ2_copyOf_1 : List UInt8 := [27, 184, 1, 48, 184, 0, 150, 44, 176]
abbrev dktJ2_copyOf_1 : List UInt8 := dkwJ2_copyOf_1 ++ []
def dkwJ2_copyOf_0 : List UInt8 := [27, 42, 190, 160, 0, 11, 42, 182, 1, 63, 192, 1, 64, 176, 27, 188, 11, 77, 42, 3, 44, 3, 42, 190]
abbrev dktJ2_copyOf_0 : List UInt8 := dkwJ2_copyOf_0 ++ dktJ2_copyOf_1
theorem dksJ2_copyOf_0 : cJ2_copyOf.data.toList.drop 0 = dktJ2_copyOf_0 := by decide +kernel
theorem dksJ2_copyOf_1 : cJ2_copyOf.data.toList.drop 24 = dktJ2_copyOf_1 := dk_seg dksJ2_copyOf_0 24 rfl rfl
theorem dJ2_copyOf_0 : decode cJ2_copyOf 0 = .ok (.iload_n 1, 1) := dk_27 (dk_at dksJ2_copyOf_0 0 rfl rfl)
theorem dJ2_copyOf_1 : decode cJ2_copyOf 1 = .ok (.aload_n 0, 1) := dk_42 (dk_at dksJ2_copyOf_0 1 rfl rfl)
theorem dJ2_copyOf_2 : decode cJ2_copyOf 2 = .ok (.arraylength, 1) := dk_190 (dk_at dksJ2_copyOf_0 2 rfl rfl)
theorem dJ2_copyOf_3 : decode cJ2_copyOf 3 = .ok (.if_icmp .ne 11, 3) := dk_160 0 11 (dk_at dksJ2_copyOf_0 3 rfl rfl)
theorem dJ2_copyOf_6 : decode cJ2_copyOf 6 = .ok (.aload_n 0, 1) := dk_42 (dk_at dksJ2_copyOf_0 6 rfl rfl)
theorem dJ2_copyOf_7 : decode cJ2_copyOf 7 = .ok (.invokevirtual 319, 3) := dk_182 1 63 (dk_at dksJ2_copyOf_0 7 rfl rfl)
theorem dJ2_copyOf_10 : decode cJ2_copyOf 10 = .ok (.checkcast 320, 3) := dk_192 1 64 (dk_at dksJ2_copyOf_0 10 rfl rfl)
theorem dJ2_copyOf_13 : decode cJ2_copyOf 13 = .ok (.areturn, 1) := dk_176 (dk_at dksJ2_copyOf_0 13 rfl rfl)
theorem dJ2_copyOf_14 : decode cJ2_copyOf 14 = .ok (.iload_n 1, 1) := dk_27 (dk_at dksJ2_copyOf_0 14 rfl rfl)
theorem dJ2_copyOf_15 : decode cJ2_copyOf 15 = .ok (.newarray .long, 2) := dk_188_11 (dk_at dksJ2_copyOf_0 15 rfl rfl)
theorem dJ2_copyOf_17 : decode cJ2_copyOf 17 = .ok (.astore_n 2, 1) := dk_77 (dk_at dksJ2_copyOf_0 17 rfl rfl)
theorem dJ2_copyOf_18 : decode cJ2_copyOf 18 = .ok (.aload_n 0, 1) := dk_42 (dk_at dksJ2_copyOf_0 18 rfl rfl)
theorem dJ2_copyOf_19 : decode cJ2_copyOf 19 = .ok (.iconst 0, 1) := dk_3 (dk_at dksJ2_copyOf_0 19 rfl rfl)
theorem dJ2_copyOf_20 : decode cJ2_copyOf 20 = .ok (.aload_n 2, 1) := dk_44 (dk_at dksJ2_copyOf_0 20 rfl rfl)
theorem dJ2_copyOf_21 : decode cJ2_copyOf 21 = .ok (.iconst 0, 1) := dk_3 (dk_at dksJ2_copyOf_0 21 rfl rfl)
theorem dJ2_copyOf_22 : decode cJ2_copyOf 22 = .ok (.aload_n 0, 1) := dk_42 (dk_at dksJ2_copyOf_0 22 rfl rfl)
theorem dJ2_copyOf_23 : decode cJ2_copyOf 23 = .ok (.arraylength, 1) := dk_190 (dk_at dksJ2_copyOf_0 23 rfl rfl)
theorem dJ2_copyOf_24 : decode cJ2_copyOf 24 = .ok (.iload_n 1, 1) := dk_27 (dk_at dksJ2_copyOf_1 0 rfl rfl)
theorem dJ2_copyOf_25 : decode cJ2_copyOf 25 = .ok (.invokestatic 304, 3) := dk_184 1 48 (dk_at dksJ2_copyOf_1 1 rfl rfl)
theorem dJ2_copyOf_28 : decode cJ2_copyOf 28 = .ok (.invokestatic 150, 3) := dk_184 0 150 (dk_at dksJ2_copyOf_1 4 rfl rfl)
theorem dJ2_copyOf_31 : decode cJ2_copyOf 31 = .ok (.aload_n 2, 1) := dk_44 (dk_at dksJ2_copyOf_1 7 rfl rfl)
theorem dJ2_copyOf_32 : decode cJ2_copyOf 32 = .ok (.areturn, 1) := dk_176 (dk_at dksJ2_copyOf_1 8 rfl rfl)
theorem q7 : (Jvm.Cond.initialized "java/util/Arrays") ∈ lw_all := lw_g (lw_at lw_m0 5 rfl) rfl
theorem q60 : (Jvm.Cond.static ({ cls := "java/util/Arrays", name := "copyOf", desc := "([JI)[J" } : Jvm.MethodName)) ∈ lw_all := lw_g (lw_at lw_m0 58 rfl) rfl
theorem q61 : (Jvm.Cond.code ({ cls := "java/util/Arrays", name := "copyOf", desc := "([JI)[J" } : Jvm.MethodName) prog_8_method_124_code (3 : Nat) (Option.some (Jvm.ClassFile.FieldType.array Jvm.ClassFile.FieldType.long))) ∈ lw_all := lw_g (lw_at lw_m0 59 rfl) rfl
theorem q62 : (Jvm.Cond.methodLink "java/util/Arrays" (319 : Nat) ({ cls := "[J", name := "clone", desc := "()Ljava/lang/Object;" } : Jvm.MethodName)) ∈ lw_all := lw_g (lw_at lw_m0 60 rfl) rfl
theorem q68 : (Jvm.Cond.classLink "java/util/Arrays" (320 : Nat) "[J") ∈ lw_all := lw_g (lw_at lw_m0 66 rfl) rfl
theorem q69 : (Jvm.Cond.methodLink "java/util/Arrays" (304 : Nat) ({ cls := "java/lang/Math", name := "min", desc := "(II)I" } : Jvm.MethodName)) ∈ lw_all := lw_g (lw_at lw_m0 67 rfl) rfl
theorem q70 : (Jvm.Cond.methodLink "java/util/Arrays" (150 : Nat) ({ cls := "java/lang/System", name := "arraycopy", desc := "(Ljava/lang/Object;ILjava/lang/Object;II)V" } : Jvm.MethodName)) ∈ lw_all := lw_g (lw_at lw_m0 68 rfl) rfl
/-! java/lang/Object -/
set_option maxRecDepth 100000
def RJ3 : String := "java/lang/Object"
abbrev cJ3_init : ByteArray := object_method_1_code
def yJ3_init : MethodName := ⟨RJ3, "<init>", "()V"⟩
theorem dJ3_init_0 : decode cJ3_init 0 = .ok (.return_, 1) := by decide +kernel
theorem q64 : (Jvm.Cond.native ({ cls := "java/lang/Object", name := "clone", desc := "()Ljava/lang/Object;" } : Jvm.MethodName)) ∈ lw_all := lw_g (lw_at lw_m0 62 rfl) rfl
theorem q65 : (Jvm.Cond.instanceMethod ({ cls := "java/lang/Object", name := "clone", desc := "()Ljava/lang/Object;" } : Jvm.MethodName)) ∈ lw_all := lw_g (lw_at lw_m0 63 rfl) rfl
theorem q99 : (Jvm.Cond.instanceMethod ({ cls := "java/lang/Object", name := "<init>", desc := "()V" } : Jvm.MethodName)) ∈ lw_all := lw_g (lw_at lw_m0 97 rfl) rfl
theorem q100 : (Jvm.Cond.code ({ cls := "java/lang/Object", name := "<init>", desc := "()V" } : Jvm.MethodName) object_method_1_code (1 : Nat) (Option.none : Option Jvm.ClassFile.FieldType)) ∈ lw_all := lw_g (lw_at lw_m0 98 rfl) rfl
theorem q152 : (Jvm.Cond.initialized "java/lang/Object") ∈ lw_all := lw_g (lw_at lw_m0 150 rfl) rfl
theorem q74 : (Jvm.Cond.arrayClass Jvm.ClassFile.FieldType.long) ∈ lw_all := lw_g (lw_at lw_m0 72 rfl) rfl
set_option maxRecDepth 100000
theorem q83 : (Jvm.Cond.arrayClass Jvm.ClassFile.FieldType.int) ∈ lw_all := lw_g (lw_at lw_m0 81 rfl) rfl
theorem q63 : (Jvm.Cond.sameMethod "[J" "java/lang/Object" "clone" "()Ljava/lang/Object;") ∈ lw_all := lw_g (lw_at lw_m0 61 rfl) rfl
set_option maxRecDepth 100000
theorem q66 : (Jvm.Cond.selects "[J" ({ cls := "[J", name := "clone", desc := "()Ljava/lang/Object;" } : Jvm.MethodName) ({ cls := "java/lang/Object", name := "clone", desc := "()Ljava/lang/Object;" } : Jvm.MethodName)) ∈ lw_all := lw_g (lw_at lw_m0 64 rfl) rfl
theorem q67 : (Jvm.Cond.castable "[J" "java/lang/Cloneable") ∈ lw_tbl := lw_at lw_m0 65 rfl
theorem q8 : (Jvm.Cond.initialized "java/lang/System") ∈ lw_all := lw_g (lw_at lw_m0 6 rfl) rfl
set_option maxRecDepth 100000
theorem q71 : (Jvm.Cond.static ({ cls := "java/lang/System", name := "arraycopy", desc := "(Ljava/lang/Object;ILjava/lang/Object;II)V" } : Jvm.MethodName)) ∈ lw_all := lw_g (lw_at lw_m0 69 rfl) rfl
theorem q72 : (Jvm.Cond.native ({ cls := "java/lang/System", name := "arraycopy", desc := "(Ljava/lang/Object;ILjava/lang/Object;II)V" } : Jvm.MethodName)) ∈ lw_all := lw_g (lw_at lw_m0 70 rfl) rfl
end
section
/-! LongArrays -/
set_option maxRecDepth 100000
def RX2 : String := "LongArrays"
abbrev cX2_quickSort : ByteArray := prog_1_method_6_code
def yX2_quickSort : MethodName := ⟨RX2, "quickSort", "([JII)V"⟩
def dkwX2_quickSort_14 : List UInt8 := [89, 54, 13, 4, 164, 0, 12, 42, 28, 21, 13, 100, 28, 184, 0, 29, 177]
abbrev dktX2_quickSort_14 : List UInt8 := dkwX2_quickSort_14 ++ []
def dkwX2_quickSort_13 : List UInt8 := [21, 9, 100, 89, 54, 13, 4, 164, 0, 12, 42, 27, 27, 21, 13, 96, 184, 0, 29, 21, 12, 21, 11, 100]
abbrev dktX2_quickSort_13 : List UInt8 := dkwX2_quickSort_13 ++ dktX2_quickSort_14
def dkwX2_quickSort_12 : List UInt8 := [21, 12, 100, 4, 100, 184, 0, 20, 54, 13, 42, 21, 10, 28, 21, 13, 100, 21, 13, 184, 0, 26, 21, 10]
abbrev dktX2_quickSort_12 : List UInt8 := dkwX2_quickSort_12 ++ dktX2_quickSort_13
def dkwX2_quickSort_11 : List UInt8 := [100, 184, 0, 20, 54, 13, 42, 27, 21, 10, 21, 13, 100, 21, 13, 184, 0, 26, 21, 12, 21, 11, 100, 28]
abbrev dktX2_quickSort_11 : List UInt8 := dkwX2_quickSort_11 ++ dktX2_quickSort_12
def dkwX2_quickSort_10 : List UInt8 := [21, 10, 132, 10, 1, 21, 11, 132, 11, 255, 184, 0, 5, 167, 255, 144, 21, 9, 27, 100, 21, 10, 21, 9]
abbrev dktX2_quickSort_10 : List UInt8 := dkwX2_quickSort_10 ++ dktX2_quickSort_11
def dkwX2_quickSort_9 : List UInt8 := [132, 12, 255, 184, 0, 5, 132, 11, 255, 167, 255, 215, 21, 10, 21, 11, 164, 0, 6, 167, 0, 20, 42]
abbrev dktX2_quickSort_9 : List UInt8 := dkwX2_quickSort_9 ++ dktX2_quickSort_10
def dkwX2_quickSort_8 : List UInt8 := [21, 11, 47, 22, 7, 184, 0, 9, 89, 54, 13, 155, 0, 25, 21, 13, 154, 0, 14, 42, 21, 11, 21, 12]
abbrev dktX2_quickSort_8 : List UInt8 := dkwX2_quickSort_8 ++ dktX2_quickSort_9
def dkwX2_quickSort_7 : List UInt8 := [21, 9, 132, 9, 1, 21, 10, 184, 0, 5, 132, 10, 1, 167, 255, 215, 21, 11, 21, 10, 161, 0, 40, 42]
abbrev dktX2_quickSort_7 : List UInt8 := dkwX2_quickSort_7 ++ dktX2_quickSort_8
def dkwX2_quickSort_6 : List UInt8 := [163, 0, 40, 42, 21, 10, 47, 22, 7, 184, 0, 9, 89, 54, 13, 157, 0, 25, 21, 13, 154, 0, 14, 42]
abbrev dktX2_quickSort_6 : List UInt8 := dkwX2_quickSort_6 ++ dktX2_quickSort_7
def dkwX2_quickSort_5 : List UInt8 := [55, 7, 27, 54, 9, 21, 9, 54, 10, 28, 4, 100, 54, 11, 21, 11, 54, 12, 21, 10, 21, 11]
abbrev dktX2_quickSort_5 : List UInt8 := dkwX2_quickSort_5 ++ dktX2_quickSort_6
def dkwX2_quickSort_4 : List UInt8 := [100, 21, 6, 184, 0, 16, 54, 6, 42, 21, 5, 21, 4, 21, 6, 184, 0, 16, 54, 4, 42, 21, 4, 47]
abbrev dktX2_quickSort_4 : List UInt8 := dkwX2_quickSort_4 ++ dktX2_quickSort_5
def dkwX2_quickSort_3 : List UInt8 := [21, 4, 21, 4, 21, 7, 96, 184, 0, 16, 54, 4, 42, 21, 6, 5, 21, 7, 104, 100, 21, 6, 21, 7]
abbrev dktX2_quickSort_3 : List UInt8 := dkwX2_quickSort_3 ++ dktX2_quickSort_4
def dkwX2_quickSort_2 : List UInt8 := [21, 5, 21, 7, 96, 21, 5, 5, 21, 7, 104, 96, 184, 0, 16, 54, 5, 42, 21, 4, 21, 7, 100]
abbrev dktX2_quickSort_2 : List UInt8 := dkwX2_quickSort_2 ++ dktX2_quickSort_3
def dkwX2_quickSort_1 : List UInt8 := [27, 54, 5, 28, 4, 100, 54, 6, 29, 17, 0, 128, 164, 0, 67, 29, 16, 8, 108, 54, 7, 42, 21, 5]
abbrev dktX2_quickSort_1 : List UInt8 := dkwX2_quickSort_1 ++ dktX2_quickSort_2
def dkwX2_quickSort_0 : List UInt8 := [28, 27, 100, 62, 29, 16, 16, 162, 0, 10, 42, 27, 28, 184, 0, 13, 177, 27, 29, 5, 108, 96, 54, 4]
abbrev dktX2_quickSort_0 : List UInt8 := dkwX2_quickSort_0 ++ dktX2_quickSort_1
theorem dksX2_quickSort_0 : cX2_quickSort.data.toList.drop 0 = dktX2_quickSort_0 := by decide +kernel
theorem dksX2_quickSort_1 : cX2_quickSort.data.toList.drop 24 = dktX2_quickSort_1 := dk_seg dksX2_quickSort_0 24 rfl rfl
theorem dksX2_quickSort_2 : cX2_quickSort.data.toList.drop 48 = dktX2_quickSort_2 := dk_seg dksX2_quickSort_1 24 rfl rfl
theorem dksX2_quickSort_3 : cX2_quickSort.data.toList.drop 71 = dktX2_quickSort_3 := dk_seg dksX2_quickSort_2 23 rfl rfl
theorem dksX2_quickSort_4 : cX2_quickSort.data.toList.drop 95 = dktX2_quickSort_4 := dk_seg dksX2_quickSort_3 24 rfl rfl
theorem dksX2_quickSort_5 : cX2_quickSort.data.toList.drop 119 = dktX2_quickSort_5 := dk_seg dksX2_quickSort_4 24 rfl rfl
theorem dksX2_quickSort_6 : cX2_quickSort.data.toList.drop 141 = dktX2_quickSort_6 := dk_seg dksX2_quickSort_5 22 rfl rfl
theorem dksX2_quickSort_7 : cX2_quickSort.data.toList.drop 165 = dktX2_quickSort_7 := dk_seg dksX2_quickSort_6 24 rfl rfl
theorem dksX2_quickSort_8 : cX2_quickSort.data.toList.drop 189 = dktX2_quickSort_8 := dk_seg dksX2_quickSort_7 24 rfl rfl
theorem dksX2_quickSort_9 : cX2_quickSort.data.toList.drop 213 = dktX2_quickSort_9 := dk_seg dksX2_quickSort_8 24 rfl rfl
theorem dksX2_quickSort_10 : cX2_quickSort.data.toList.drop 236 = dktX2_quickSort_10 := dk_seg dksX2_quickSort_9 23 rfl rfl
theorem dksX2_quickSort_11 : cX2_quickSort.data.toList.drop 260 = dktX2_quickSort_11 := dk_seg dksX2_quickSort_10 24 rfl rfl
theorem dksX2_quickSort_12 : cX2_quickSort.data.toList.drop 284 = dktX2_quickSort_12 := dk_seg dksX2_quickSort_11 24 rfl rfl
theorem dksX2_quickSort_13 : cX2_quickSort.data.toList.drop 308 = dktX2_quickSort_13 := dk_seg dksX2_quickSort_12 24 rfl rfl
theorem dksX2_quickSort_14 : cX2_quickSort.data.toList.drop 332 = dktX2_quickSort_14 := dk_seg dksX2_quickSort_13 24 rfl rfl
theorem dX2_quickSort_0 : decode cX2_quickSort 0 = .ok (.iload_n 2, 1) := dk_28 (dk_at dksX2_quickSort_0 0 rfl rfl)
theorem dX2_quickSort_1 : decode cX2_quickSort 1 = .ok (.iload_n 1, 1) := dk_27 (dk_at dksX2_quickSort_0 1 rfl rfl)
theorem dX2_quickSort_2 : decode cX2_quickSort 2 = .ok (.isub, 1) := dk_100 (dk_at dksX2_quickSort_0 2 rfl rfl)
theorem dX2_quickSort_3 : decode cX2_quickSort 3 = .ok (.istore_n 3, 1) := dk_62 (dk_at dksX2_quickSort_0 3 rfl rfl)
theorem dX2_quickSort_4 : decode cX2_quickSort 4 = .ok (.iload_n 3, 1) := dk_29 (dk_at dksX2_quickSort_0 4 rfl rfl)
theorem dX2_quickSort_5 : decode cX2_quickSort 5 = .ok (.bipush 16, 2) := dk_16 16 (dk_at dksX2_quickSort_0 5 rfl rfl)
theorem dX2_quickSort_7 : decode cX2_quickSort 7 = .ok (.if_icmp .ge 10, 3) := dk_162 0 10 (dk_at dksX2_quickSort_0 7 rfl rfl)
theorem dX2_quickSort_10 : decode cX2_quickSort 10 = .ok (.aload_n 0, 1) := dk_42 (dk_at dksX2_quickSort_0 10 rfl rfl)
theorem dX2_quickSort_11 : decode cX2_quickSort 11 = .ok (.iload_n 1, 1) := dk_27 (dk_at dksX2_quickSort_0 11 rfl rfl)
theorem dX2_quickSort_12 : decode cX2_quickSort 12 = .ok (.iload_n 2, 1) := dk_28 (dk_at dksX2_quickSort_0 12 rfl rfl)
theorem dX2_quickSort_13 : decode cX2_quickSort 13 = .ok (.invokestatic 13, 3) := dk_184 0 13 (dk_at dksX2_quickSort_0 13 rfl rfl)
theorem dX2_quickSort_16 : decode cX2_quickSort 16 = .ok (.return_, 1) := dk_177 (dk_at dksX2_quickSort_0 16 rfl rfl)
theorem dX2_quickSort_17 : decode cX2_quickSort 17 = .ok (.iload_n 1, 1) := dk_27 (dk_at dksX2_quickSort_0 17 rfl rfl)
theorem dX2_quickSort_18 : decode cX2_quickSort 18 = .ok (.iload_n 3, 1) := dk_29 (dk_at dksX2_quickSort_0 18 rfl rfl)
theorem dX2_quickSort_19 : decode cX2_quickSort 19 = .ok (.iconst 2, 1) := dk_5 (dk_at dksX2_quickSort_0 19 rfl rfl)
theorem dX2_quickSort_20 : decode cX2_quickSort 20 = .ok (.idiv, 1) := dk_108 (dk_at dksX2_quickSort_0 20 rfl rfl)
theorem dX2_quickSort_21 : decode cX2_quickSort 21 = .ok (.iadd, 1) := dk_96 (dk_at dksX2_quickSort_0 21 rfl rfl)
theorem dX2_quickSort_22 : decode cX2_quickSort 22 = .ok (.istore 4, 2) := dk_54 4 (dk_at dksX2_quickSort_0 22 rfl rfl)
theorem dX2_quickSort_24 : decode cX2_quickSort 24 = .ok (.iload_n 1, 1) := dk_27 (dk_at dksX2_quickSort_1 0 rfl rfl)
theorem dX2_quickSort_25 : decode cX2_quickSort 25 = .ok (.istore 5, 2) := dk_54 5 (dk_at dksX2_quickSort_1 1 rfl rfl)
theorem dX2_quickSort_27 : decode cX2_quickSort 27 = .ok (.iload_n 2, 1) := dk_28 (dk_at dksX2_quickSort_1 3 rfl rfl)
theorem dX2_quickSort_28 : decode cX2_quickSort 28 = .ok (.iconst 1, 1) := dk_4 (dk_at dksX2_quickSort_1 4 rfl rfl)
theorem dX2_quickSort_29 : decode cX2_quickSort 29 = .ok (.isub, 1) := dk_100 (dk_at dksX2_quickSort_1 5 rfl rfl)
theorem dX2_quickSort_30 : decode cX2_quickSort 30 = .ok (.istore 6, 2) := dk_54 6 (dk_at dksX2_quickSort_1 6 rfl rfl)
theorem dX2_quickSort_32 : decode cX2_quickSort 32 = .ok (.iload_n 3, 1) := dk_29 (dk_at dksX2_quickSort_1 8 rfl rfl)
theorem dX2_quickSort_33 : decode cX2_quickSort 33 = .ok (.sipush 128, 3) := dk_17 0 128 (dk_at dksX2_quickSort_1 9 rfl rfl)
theorem dX2_quickSort_36 : decode cX2_quickSort 36 = .ok (.if_icmp .le 67, 3) := dk_164 0 67 (dk_at dksX2_quickSort_1 12 rfl rfl)
theorem dX2_quickSort_39 : decode cX2_quickSort 39 = .ok (.iload_n 3, 1) := dk_29 (dk_at dksX2_quickSort_1 15 rfl rfl)
theorem dX2_quickSort_40 : decode cX2_quickSort 40 = .ok (.bipush 8, 2) := dk_16 8 (dk_at dksX2_quickSort_1 16 rfl rfl)
theorem dX2_quickSort_42 : decode cX2_quickSort 42 = .ok (.idiv, 1) := dk_108 (dk_at dksX2_quickSort_1 18 rfl rfl)
theorem dX2_quickSort_43 : decode cX2_quickSort 43 = .ok (.istore 7, 2) := dk_54 7 (dk_at dksX2_quickSort_1 19 rfl rfl)
theorem dX2_quickSort_45 : decode cX2_quickSort 45 = .ok (.aload_n 0, 1) := dk_42 (dk_at dksX2_quickSort_1 21 rfl rfl)
theorem dX2_quickSort_46 : decode cX2_quickSort 46 = .ok (.iload 5, 2) := dk_21 5 (dk_at dksX2_quickSort_1 22 rfl rfl)
theorem dX2_quickSort_48 : decode cX2_quickSort 48 = .ok (.iload 5, 2) := dk_21 5 (dk_at dksX2_quickSort_2 0 rfl rfl)
theorem dX2_quickSort_50 : decode cX2_quickSort 50 = .ok (.iload 7, 2) := dk_21 7 (dk_at dksX2_quickSort_2 2 rfl rfl)
theorem dX2_quickSort_52 : decode cX2_quickSort 52 = .ok (.iadd, 1) := dk_96 (dk_at dksX2_quickSort_2 4 rfl rfl)
theorem dX2_quickSort_53 : decode cX2_quickSort 53 = .ok (.iload 5, 2) := dk_21 5 (dk_at dksX2_quickSort_2 5 rfl rfl)
theorem dX2_quickSort_55 : decode cX2_quickSort 55 = .ok (.iconst 2, 1) := dk_5 (dk_at dksX2_quickSort_2 7 rfl rfl)
theorem dX2_quickSort_56 : decode cX2_quickSort 56 = .ok (.iload 7, 2) := dk_21 7 (dk_at dksX2_quickSort_2 8 rfl rfl)
theorem dX2_quickSort_58 : decode cX2_quickSort 58 = .ok (.imul, 1) := dk_104 (dk_at dksX2_quickSort_2 10 rfl rfl)
theorem dX2_quickSort_59 : decode cX2_quickSort 59 = .ok (.iadd, 1) := dk_96 (dk_at dksX2_quickSort_2 11 rfl rfl)
theorem dX2_quickSort_60 : decode cX2_quickSort 60 = .ok (.invokestatic 16, 3) := dk_184 0 16 (dk_at dksX2_quickSort_2 12 rfl rfl)
theorem dX2_quickSort_63 : decode cX2_quickSort 63 = .ok (.istore 5, 2) := dk_54 5 (dk_at dksX2_quickSort_2 15 rfl rfl)
theorem dX2_quickSort_65 : decode cX2_quickSort 65 = .ok (.aload_n 0, 1) := dk_42 (dk_at dksX2_quickSort_2 17 rfl rfl)
theorem dX2_quickSort_66 : decode cX2_quickSort 66 = .ok (.iload 4, 2) := dk_21 4 (dk_at dksX2_quickSort_2 18 rfl rfl)
theorem dX2_quickSort_68 : decode cX2_quickSort 68 = .ok (.iload 7, 2) := dk_21 7 (dk_at dksX2_quickSort_2 20 rfl rfl)
theorem dX2_quickSort_70 : decode cX2_quickSort 70 = .ok (.isub, 1) := dk_100 (dk_at dksX2_quickSort_2 22 rfl rfl)
theorem dX2_quickSort_71 : decode cX2_quickSort 71 = .ok (.iload 4, 2) := dk_21 4 (dk_at dksX2_quickSort_3 0 rfl rfl)
theorem dX2_quickSort_73 : decode cX2_quickSort 73 = .ok (.iload 4, 2) := dk_21 4 (dk_at dksX2_quickSort_3 2 rfl rfl)
theorem dX2_quickSort_75 : decode cX2_quickSort 75 = .ok (.iload 7, 2) := dk_21 7 (dk_at dksX2_quickSort_3 4 rfl rfl)
theorem dX2_quickSort_77 : decode cX2_quickSort 77 = .ok (.iadd, 1) := dk_96 (dk_at dksX2_quickSort_3 6 rfl rfl)
theorem dX2_quickSort_78 : decode cX2_quickSort 78 = .ok (.invokestatic 16, 3) := dk_184 0 16 (dk_at dksX2_quickSort_3 7 rfl rfl)
theorem dX2_quickSort_81 : decode cX2_quickSort 81 = .ok (.istore 4, 2) := dk_54 4 (dk_at dksX2_quickSort_3 10 rfl rfl)
theorem dX2_quickSort_83 : decode cX2_quickSort 83 = .ok (.aload_n 0, 1) := dk_42 (dk_at dksX2_quickSort_3 12 rfl rfl)
theorem dX2_quickSort_84 : decode cX2_quickSort 84 = .ok (.iload 6, 2) := dk_21 6 (dk_at dksX2_quickSort_3 13 rfl rfl)
theorem dX2_quickSort_86 : decode cX2_quickSort 86 = .ok (.iconst 2, 1) := dk_5 (dk_at dksX2_quickSort_3 15 rfl rfl)
theorem dX2_quickSort_87 : decode cX2_quickSort 87 = .ok (.iload 7, 2) := dk_21 7 (dk_at dksX2_quickSort_3 16 rfl rfl)
theorem dX2_quickSort_89 : decode cX2_quickSort 89 = .ok (.imul, 1) := dk_104 (dk_at dksX2_quickSort_3 18 rfl rfl)
theorem dX2_quickSort_90 : decode cX2_quickSort 90 = .ok (.isub, 1) := dk_100 (dk_at dksX2_quickSort_3 19 rfl rfl)
theorem dX2_quickSort_91 : decode cX2_quickSort 91 = .ok (.iload 6, 2) := dk_21 6 (dk_at dksX2_quickSort_3 20 rfl rfl)
theorem dX2_quickSort_93 : decode cX2_quickSort 93 = .ok (.iload 7, 2) := dk_21 7 (dk_at dksX2_quickSort_3 22 rfl rfl)
theorem dX2_quickSort_95 : decode cX2_quickSort 95 = .ok (.isub, 1) := dk_100 (dk_at dksX2_quickSort_4 0 rfl rfl)
theorem dX2_quickSort_96 : decode cX2_quickSort 96 = .ok (.iload 6, 2) := dk_21 6 (dk_at dksX2_quickSort_4 1 rfl rfl)
theorem dX2_quickSort_98 : decode cX2_quickSort 98 = .ok (.invokestatic 16, 3) := dk_184 0 16 (dk_at dksX2_quickSort_4 3 rfl rfl)
theorem dX2_quickSort_101 : decode cX2_quickSort 101 = .ok (.istore 6, 2) := dk_54 6 (dk_at dksX2_quickSort_4 6 rfl rfl)
theorem dX2_quickSort_103 : decode cX2_quickSort 103 = .ok (.aload_n 0, 1) := dk_42 (dk_at dksX2_quickSort_4 8 rfl rfl)
theorem dX2_quickSort_104 : decode cX2_quickSort 104 = .ok (.iload 5, 2) := dk_21 5 (dk_at dksX2_quickSort_4 9 rfl rfl)
theorem dX2_quickSort_106 : decode cX2_quickSort 106 = .ok (.iload 4, 2) := dk_21 4 (dk_at dksX2_quickSort_4 11 rfl rfl)
theorem dX2_quickSort_108 : decode cX2_quickSort 108 = .ok (.iload 6, 2) := dk_21 6 (dk_at dksX2_quickSort_4 13 rfl rfl)
theorem dX2_quickSort_110 : decode cX2_quickSort 110 = .ok (.invokestatic 16, 3) := dk_184 0 16 (dk_at dksX2_quickSort_4 15 rfl rfl)
theorem dX2_quickSort_113 : decode cX2_quickSort 113 = .ok (.istore 4, 2) := dk_54 4 (dk_at dksX2_quickSort_4 18 rfl rfl)
theorem dX2_quickSort_115 : decode cX2_quickSort 115 = .ok (.aload_n 0, 1) := dk_42 (dk_at dksX2_quickSort_4 20 rfl rfl)
theorem dX2_quickSort_116 : decode cX2_quickSort 116 = .ok (.iload 4, 2) := dk_21 4 (dk_at dksX2_quickSort_4 21 rfl rfl)
theorem dX2_quickSort_118 : decode cX2_quickSort 118 = .ok (.laload, 1) := dk_47 (dk_at dksX2_quickSort_4 23 rfl rfl)
theorem dX2_quickSort_119 : decode cX2_quickSort 119 = .ok (.lstore 7, 2) := dk_55 7 (dk_at dksX2_quickSort_5 0 rfl rfl)
theorem dX2_quickSort_121 : decode cX2_quickSort 121 = .ok (.iload_n 1, 1) := dk_27 (dk_at dksX2_quickSort_5 2 rfl rfl)
theorem dX2_quickSort_122 : decode cX2_quickSort 122 = .ok (.istore 9, 2) := dk_54 9 (dk_at dksX2_quickSort_5 3 rfl rfl)
theorem dX2_quickSort_124 : decode cX2_quickSort 124 = .ok (.iload 9, 2) := dk_21 9 (dk_at dksX2_quickSort_5 5 rfl rfl)
theorem dX2_quickSort_126 : decode cX2_quickSort 126 = .ok (.istore 10, 2) := dk_54 10 (dk_at dksX2_quickSort_5 7 rfl rfl)
theorem dX2_quickSort_128 : decode cX2_quickSort 128 = .ok (.iload_n 2, 1) := dk_28 (dk_at dksX2_quickSort_5 9 rfl rfl)
theorem dX2_quickSort_129 : decode cX2_quickSort 129 = .ok (.iconst 1, 1) := dk_4 (dk_at dksX2_quickSort_5 10 rfl rfl)
theorem dX2_quickSort_130 : decode cX2_quickSort 130 = .ok (.isub, 1) := dk_100 (dk_at dksX2_quickSort_5 11 rfl rfl)
theorem dX2_quickSort_131 : decode cX2_quickSort 131 = .ok (.istore 11, 2) := dk_54 11 (dk_at dksX2_quickSort_5 12 rfl rfl)
theorem dX2_quickSort_133 : decode cX2_quickSort 133 = .ok (.iload 11, 2) := dk_21 11 (dk_at dksX2_quickSort_5 14 rfl rfl)
theorem dX2_quickSort_135 : decode cX2_quickSort 135 = .ok (.istore 12, 2) := dk_54 12 (dk_at dksX2_quickSort_5 16 rfl rfl)
theorem dX2_quickSort_137 : decode cX2_quickSort 137 = .ok (.iload 10, 2) := dk_21 10 (dk_at dksX2_quickSort_5 18 rfl rfl)
theorem dX2_quickSort_139 : decode cX2_quickSort 139 = .ok (.iload 11, 2) := dk_21 11 (dk_at dksX2_quickSort_5 20 rfl rfl)
theorem dX2_quickSort_141 : decode cX2_quickSort 141 = .ok (.if_icmp .gt 40, 3) := dk_163 0 40 (dk_at dksX2_quickSort_6 0 rfl rfl)
theorem dX2_quickSort_144 : decode cX2_quickSort 144 = .ok (.aload_n 0, 1) := dk_42 (dk_at dksX2_quickSort_6 3 rfl rfl)
theorem dX2_quickSort_145 : decode cX2_quickSort 145 = .ok (.iload 10, 2) := dk_21 10 (dk_at dksX2_quickSort_6 4 rfl rfl)
theorem dX2_quickSort_147 : decode cX2_quickSort 147 = .ok (.laload, 1) := dk_47 (dk_at dksX2_quickSort_6 6 rfl rfl)
theorem dX2_quickSort_148 : decode cX2_quickSort 148 = .ok (.lload 7, 2) := dk_22 7 (dk_at dksX2_quickSort_6 7 rfl rfl)
theorem dX2_quickSort_150 : decode cX2_quickSort 150 = .ok (.invokestatic 9, 3) := dk_184 0 9 (dk_at dksX2_quickSort_6 9 rfl rfl)
theorem dX2_quickSort_153 : decode cX2_quickSort 153 = .ok (.dup, 1) := dk_89 (dk_at dksX2_quickSort_6 12 rfl rfl)
theorem dX2_quickSort_154 : decode cX2_quickSort 154 = .ok (.istore 13, 2) := dk_54 13 (dk_at dksX2_quickSort_6 13 rfl rfl)
theorem dX2_quickSort_156 : decode cX2_quickSort 156 = .ok (.ifCond .gt 25, 3) := dk_157 0 25 (dk_at dksX2_quickSort_6 15 rfl rfl)
theorem dX2_quickSort_159 : decode cX2_quickSort 159 = .ok (.iload 13, 2) := dk_21 13 (dk_at dksX2_quickSort_6 18 rfl rfl)
theorem dX2_quickSort_161 : decode cX2_quickSort 161 = .ok (.ifCond .ne 14, 3) := dk_154 0 14 (dk_at dksX2_quickSort_6 20 rfl rfl)
theorem dX2_quickSort_164 : decode cX2_quickSort 164 = .ok (.aload_n 0, 1) := dk_42 (dk_at dksX2_quickSort_6 23 rfl rfl)
theorem dX2_quickSort_165 : decode cX2_quickSort 165 = .ok (.iload 9, 2) := dk_21 9 (dk_at dksX2_quickSort_7 0 rfl rfl)
theorem dX2_quickSort_167 : decode cX2_quickSort 167 = .ok (.iinc 9 1, 3) := dk_132 9 1 (dk_at dksX2_quickSort_7 2 rfl rfl)
theorem dX2_quickSort_170 : decode cX2_quickSort 170 = .ok (.iload 10, 2) := dk_21 10 (dk_at dksX2_quickSort_7 5 rfl rfl)
theorem dX2_quickSort_172 : decode cX2_quickSort 172 = .ok (.invokestatic 5, 3) := dk_184 0 5 (dk_at dksX2_quickSort_7 7 rfl rfl)
theorem dX2_quickSort_175 : decode cX2_quickSort 175 = .ok (.iinc 10 1, 3) := dk_132 10 1 (dk_at dksX2_quickSort_7 10 rfl rfl)
theorem dX2_quickSort_178 : decode cX2_quickSort 178 = .ok (.goto (-41), 3) := dk_167 255 215 (dk_at dksX2_quickSort_7 13 rfl rfl)
theorem dX2_quickSort_181 : decode cX2_quickSort 181 = .ok (.iload 11, 2) := dk_21 11 (dk_at dksX2_quickSort_7 16 rfl rfl)
theorem dX2_quickSort_183 : decode cX2_quickSort 183 = .ok (.iload 10, 2) := dk_21 10 (dk_at dksX2_quickSort_7 18 rfl rfl)
theorem dX2_quickSort_185 : decode cX2_quickSort 185 = .ok (.if_icmp .lt 40, 3) := dk_161 0 40 (dk_at dksX2_quickSort_7 20 rfl rfl)
theorem dX2_quickSort_188 : decode cX2_quickSort 188 = .ok (.aload_n 0, 1) := dk_42 (dk_at dksX2_quickSort_7 23 rfl rfl)
theorem dX2_quickSort_189 : decode cX2_quickSort 189 = .ok (.iload 11, 2) := dk_21 11 (dk_at dksX2_quickSort_8 0 rfl rfl)
theorem dX2_quickSort_191 : decode cX2_quickSort 191 = .ok (.laload, 1) := dk_47 (dk_at dksX2_quickSort_8 2 rfl rfl)
theorem dX2_quickSort_192 : decode cX2_quickSort 192 = .ok (.lload 7, 2) := dk_22 7 (dk_at dksX2_quickSort_8 3 rfl rfl)
theorem dX2_quickSort_194 : decode cX2_quickSort 194 = .ok (.invokestatic 9, 3) := dk_184 0 9 (dk_at dksX2_quickSort_8 5 rfl rfl)
theorem dX2_quickSort_197 : decode cX2_quickSort 197 = .ok (.dup, 1) := dk_89 (dk_at dksX2_quickSort_8 8 rfl rfl)
theorem dX2_quickSort_198 : decode cX2_quickSort 198 = .ok (.istore 13, 2) := dk_54 13 (dk_at dksX2_quickSort_8 9 rfl rfl)
theorem dX2_quickSort_200 : decode cX2_quickSort 200 = .ok (.ifCond .lt 25, 3) := dk_155 0 25 (dk_at dksX2_quickSort_8 11 rfl rfl)
theorem dX2_quickSort_203 : decode cX2_quickSort 203 = .ok (.iload 13, 2) := dk_21 13 (dk_at dksX2_quickSort_8 14 rfl rfl)
theorem dX2_quickSort_205 : decode cX2_quickSort 205 = .ok (.ifCond .ne 14, 3) := dk_154 0 14 (dk_at dksX2_quickSort_8 16 rfl rfl)
theorem dX2_quickSort_208 : decode cX2_quickSort 208 = .ok (.aload_n 0, 1) := dk_42 (dk_at dksX2_quickSort_8 19 rfl rfl)
theorem dX2_quickSort_209 : decode cX2_quickSort 209 = .ok (.iload 11, 2) := dk_21 11 (dk_at dksX2_quickSort_8 20 rfl rfl)
theorem dX2_quickSort_211 : decode cX2_quickSort 211 = .ok (.iload 12, 2) := dk_21 12 (dk_at dksX2_quickSort_8 22 rfl rfl)
theorem dX2_quickSort_213 : decode cX2_quickSort 213 = .ok (.iinc 12 (-1), 3) := dk_132 12 255 (dk_at dksX2_quickSort_9 0 rfl rfl)
theorem dX2_quickSort_216 : decode cX2_quickSort 216 = .ok (.invokestatic 5, 3) := dk_184 0 5 (dk_at dksX2_quickSort_9 3 rfl rfl)
theorem dX2_quickSort_219 : decode cX2_quickSort 219 = .ok (.iinc 11 (-1), 3) := dk_132 11 255 (dk_at dksX2_quickSort_9 6 rfl rfl)
theorem dX2_quickSort_222 : decode cX2_quickSort 222 = .ok (.goto (-41), 3) := dk_167 255 215 (dk_at dksX2_quickSort_9 9 rfl rfl)
theorem dX2_quickSort_225 : decode cX2_quickSort 225 = .ok (.iload 10, 2) := dk_21 10 (dk_at dksX2_quickSort_9 12 rfl rfl)
theorem dX2_quickSort_227 : decode cX2_quickSort 227 = .ok (.iload 11, 2) := dk_21 11 (dk_at dksX2_quickSort_9 14 rfl rfl)
theorem dX2_quickSort_229 : decode cX2_quickSort 229 = .ok (.if_icmp .le 6, 3) := dk_164 0 6 (dk_at dksX2_quickSort_9 16 rfl rfl)
theorem dX2_quickSort_232 : decode cX2_quickSort 232 = .ok (.goto 20, 3) := dk_167 0 20 (dk_at dksX2_quickSort_9 19 rfl rfl)
theorem dX2_quickSort_235 : decode cX2_quickSort 235 = .ok (.aload_n 0, 1) := dk_42 (dk_at dksX2_quickSort_9 22 rfl rfl)
theorem dX2_quickSort_236 : decode cX2_quickSort 236 = .ok (.iload 10, 2) := dk_21 10 (dk_at dksX2_quickSort_10 0 rfl rfl)
theorem dX2_quickSort_238 : decode cX2_quickSort 238 = .ok (.iinc 10 1, 3) := dk_132 10 1 (dk_at dksX2_quickSort_10 2 rfl rfl)
theorem dX2_quickSort_241 : decode cX2_quickSort 241 = .ok (.iload 11, 2) := dk_21 11 (dk_at dksX2_quickSort_10 5 rfl rfl)
theorem dX2_quickSort_243 : decode cX2_quickSort 243 = .ok (.iinc 11 (-1), 3) := dk_132 11 255 (dk_at dksX2_quickSort_10 7 rfl rfl)
theorem dX2_quickSort_246 : decode cX2_quickSort 246 = .ok (.invokestatic 5, 3) := dk_184 0 5 (dk_at dksX2_quickSort_10 10 rfl rfl)
theorem dX2_quickSort_249 : decode cX2_quickSort 249 = .ok (.goto (-112), 3) := dk_167 255 144 (dk_at dksX2_quickSort_10 13 rfl rfl)
theorem dX2_quickSort_252 : decode cX2_quickSort 252 = .ok (.iload 9, 2) := dk_21 9 (dk_at dksX2_quickSort_10 16 rfl rfl)
theorem dX2_quickSort_254 : decode cX2_quickSort 254 = .ok (.iload_n 1, 1) := dk_27 (dk_at dksX2_quickSort_10 18 rfl rfl)
theorem dX2_quickSort_255 : decode cX2_quickSort 255 = .ok (.isub, 1) := dk_100 (dk_at dksX2_quickSort_10 19 rfl rfl)
theorem dX2_quickSort_256 : decode cX2_quickSort 256 = .ok (.iload 10, 2) := dk_21 10 (dk_at dksX2_quickSort_10 20 rfl rfl)
theorem dX2_quickSort_258 : decode cX2_quickSort 258 = .ok (.iload 9, 2) := dk_21 9 (dk_at dksX2_quickSort_10 22 rfl rfl)
theorem dX2_quickSort_260 : decode cX2_quickSort 260 = .ok (.isub, 1) := dk_100 (dk_at dksX2_quickSort_11 0 rfl rfl)
theorem dX2_quickSort_261 : decode cX2_quickSort 261 = .ok (.invokestatic 20, 3) := dk_184 0 20 (dk_at dksX2_quickSort_11 1 rfl rfl)
theorem dX2_quickSort_264 : decode cX2_quickSort 264 = .ok (.istore 13, 2) := dk_54 13 (dk_at dksX2_quickSort_11 4 rfl rfl)
theorem dX2_quickSort_266 : decode cX2_quickSort 266 = .ok (.aload_n 0, 1) := dk_42 (dk_at dksX2_quickSort_11 6 rfl rfl)
theorem dX2_quickSort_267 : decode cX2_quickSort 267 = .ok (.iload_n 1, 1) := dk_27 (dk_at dksX2_quickSort_11 7 rfl rfl)
theorem dX2_quickSort_268 : decode cX2_quickSort 268 = .ok (.iload 10, 2) := dk_21 10 (dk_at dksX2_quickSort_11 8 rfl rfl)
theorem dX2_quickSort_270 : decode cX2_quickSort 270 = .ok (.iload 13, 2) := dk_21 13 (dk_at dksX2_quickSort_11 10 rfl rfl)
theorem dX2_quickSort_272 : decode cX2_quickSort 272 = .ok (.isub, 1) := dk_100 (dk_at dksX2_quickSort_11 12 rfl rfl)
theorem dX2_quickSort_273 : decode cX2_quickSort 273 = .ok (.iload 13, 2) := dk_21 13 (dk_at dksX2_quickSort_11 13 rfl rfl)
theorem dX2_quickSort_275 : decode cX2_quickSort 275 = .ok (.invokestatic 26, 3) := dk_184 0 26 (dk_at dksX2_quickSort_11 15 rfl rfl)
theorem dX2_quickSort_278 : decode cX2_quickSort 278 = .ok (.iload 12, 2) := dk_21 12 (dk_at dksX2_quickSort_11 18 rfl rfl)
theorem dX2_quickSort_280 : decode cX2_quickSort 280 = .ok (.iload 11, 2) := dk_21 11 (dk_at dksX2_quickSort_11 20 rfl rfl)
theorem dX2_quickSort_282 : decode cX2_quickSort 282 = .ok (.isub, 1) := dk_100 (dk_at dksX2_quickSort_11 22 rfl rfl)
theorem dX2_quickSort_283 : decode cX2_quickSort 283 = .ok (.iload_n 2, 1) := dk_28 (dk_at dksX2_quickSort_11 23 rfl rfl)
theorem dX2_quickSort_284 : decode cX2_quickSort 284 = .ok (.iload 12, 2) := dk_21 12 (dk_at dksX2_quickSort_12 0 rfl rfl)
theorem dX2_quickSort_286 : decode cX2_quickSort 286 = .ok (.isub, 1) := dk_100 (dk_at dksX2_quickSort_12 2 rfl rfl)
theorem dX2_quickSort_287 : decode cX2_quickSort 287 = .ok (.iconst 1, 1) := dk_4 (dk_at dksX2_quickSort_12 3 rfl rfl)
theorem dX2_quickSort_288 : decode cX2_quickSort 288 = .ok (.isub, 1) := dk_100 (dk_at dksX2_quickSort_12 4 rfl rfl)
theorem dX2_quickSort_289 : decode cX2_quickSort 289 = .ok (.invokestatic 20, 3) := dk_184 0 20 (dk_at dksX2_quickSort_12 5 rfl rfl)
theorem dX2_quickSort_292 : decode cX2_quickSort 292 = .ok (.istore 13, 2) := dk_54 13 (dk_at dksX2_quickSort_12 8 rfl rfl)
theorem dX2_quickSort_294 : decode cX2_quickSort 294 = .ok (.aload_n 0, 1) := dk_42 (dk_at dksX2_quickSort_12 10 rfl rfl)
theorem dX2_quickSort_295 : decode cX2_quickSort 295 = .ok (.iload 10, 2) := dk_21 10 (dk_at dksX2_quickSort_12 11 rfl rfl)
theorem dX2_quickSort_297 : decode cX2_quickSort 297 = .ok (.iload_n 2, 1) := dk_28 (dk_at dksX2_quickSort_12 13 rfl rfl)
theorem dX2_quickSort_298 : decode cX2_quickSort 298 = .ok (.iload 13, 2) := dk_21 13 (dk_at dksX2_quickSort_12 14 rfl rfl)
theorem dX2_quickSort_300 : decode cX2_quickSort 300 = .ok (.isub, 1) := dk_100 (dk_at dksX2_quickSort_12 16 rfl rfl)
theorem dX2_quickSort_301 : decode cX2_quickSort 301 = .ok (.iload 13, 2) := dk_21 13 (dk_at dksX2_quickSort_12 17 rfl rfl)
theorem dX2_quickSort_303 : decode cX2_quickSort 303 = .ok (.invokestatic 26, 3) := dk_184 0 26 (dk_at dksX2_quickSort_12 19 rfl rfl)
theorem dX2_quickSort_306 : decode cX2_quickSort 306 = .ok (.iload 10, 2) := dk_21 10 (dk_at dksX2_quickSort_12 22 rfl rfl)
theorem dX2_quickSort_308 : decode cX2_quickSort 308 = .ok (.iload 9, 2) := dk_21 9 (dk_at dksX2_quickSort_13 0 rfl rfl)
theorem dX2_quickSort_310 : decode cX2_quickSort 310 = .ok (.isub, 1) := dk_100 (dk_at dksX2_quickSort_13 2 rfl rfl)
theorem dX2_quickSort_311 : decode cX2_quickSort 311 = .ok (.dup, 1) := dk_89 (dk_at dksX2_quickSort_13 3 rfl rfl)
theorem dX2_quickSort_312 : decode cX2_quickSort 312 = .ok (.istore 13, 2) := dk_54 13 (dk_at dksX2_quickSort_13 4 rfl rfl)
theorem dX2_quickSort_314 : decode cX2_quickSort 314 = .ok (.iconst 1, 1) := dk_4 (dk_at dksX2_quickSort_13 6 rfl rfl)
theorem dX2_quickSort_315 : decode cX2_quickSort 315 = .ok (.if_icmp .le 12, 3) := dk_164 0 12 (dk_at dksX2_quickSort_13 7 rfl rfl)
theorem dX2_quickSort_318 : decode cX2_quickSort 318 = .ok (.aload_n 0, 1) := dk_42 (dk_at dksX2_quickSort_13 10 rfl rfl)
theorem dX2_quickSort_319 : decode cX2_quickSort 319 = .ok (.iload_n 1, 1) := dk_27 (dk_at dksX2_quickSort_13 11 rfl rfl)
theorem dX2_quickSort_320 : decode cX2_quickSort 320 = .ok (.iload_n 1, 1) := dk_27 (dk_at dksX2_quickSort_13 12 rfl rfl)
theorem dX2_quickSort_321 : decode cX2_quickSort 321 = .ok (.iload 13, 2) := dk_21 13 (dk_at dksX2_quickSort_13 13 rfl rfl)
theorem dX2_quickSort_323 : decode cX2_quickSort 323 = .ok (.iadd, 1) := dk_96 (dk_at dksX2_quickSort_13 15 rfl rfl)
theorem dX2_quickSort_324 : decode cX2_quickSort 324 = .ok (.invokestatic 29, 3) := dk_184 0 29 (dk_at dksX2_quickSort_13 16 rfl rfl)
theorem dX2_quickSort_327 : decode cX2_quickSort 327 = .ok (.iload 12, 2) := dk_21 12 (dk_at dksX2_quickSort_13 19 rfl rfl)
theorem dX2_quickSort_329 : decode cX2_quickSort 329 = .ok (.iload 11, 2) := dk_21 11 (dk_at dksX2_quickSort_13 21 rfl rfl)
theorem dX2_quickSort_331 : decode cX2_quickSort 331 = .ok (.isub, 1) := dk_100 (dk_at dksX2_quickSort_13 23 rfl rfl)
theorem dX2_quickSort_332 : decode cX2_quickSort 332 = .ok (.dup, 1) := dk_89 (dk_at dksX2_quickSort_14 0 rfl rfl)
theorem dX2_quickSort_333 : decode cX2_quickSort 333 = .ok (.istore 13, 2) := dk_54 13 (dk_at dksX2_quickSort_14 1 rfl rfl)
theorem dX2_quickSort_335 : decode cX2_quickSort 335 = .ok (.iconst 1, 1) := dk_4 (dk_at dksX2_quickSort_14 3 rfl rfl)
theorem dX2_quickSort_336 : decode cX2_quickSort 336 = .ok (.if_icmp .le 12, 3) := dk_164 0 12 (dk_at dksX2_quickSort_14 4 rfl rfl)
theorem dX2_quickSort_339 : decode cX2_quickSort 339 = .ok (.aload_n 0, 1) := dk_42 (dk_at dksX2_quickSort_14 7 rfl rfl)
theorem dX2_quickSort_340 : decode cX2_quickSort 340 = .ok (.iload_n 2, 1) := dk_28 (dk_at dksX2_quickSort_14 8 rfl rfl)
theorem dX2_quickSort_341 : decode cX2_quickSort 341 = .ok (.iload 13, 2) := dk_21 13 (dk_at dksX2_quickSort_14 9 rfl rfl)
theorem dX2_quickSort_343 : decode cX2_quickSort 343 = .ok (.isub, 1) := dk_100 (dk_at dksX2_quickSort_14 11 rfl rfl)
theorem dX2_quickSort_344 : decode cX2_quickSort 344 = .ok (.iload_n 2, 1) := dk_28 (dk_at dksX2_quickSort_14 12 rfl rfl)
theorem dX2_quickSort_345 : decode cX2_quickSort 345 = .ok (.invokestatic 29, 3) := dk_184 0 29 (dk_at dksX2_quickSort_14 13 rfl rfl)
theorem dX2_quickSort_348 : decode cX2_quickSort 348 = .ok (.return_, 1) := dk_177 (dk_at dksX2_quickSort_14 16 rfl rfl)
abbrev cX2_selectionSort : ByteArray := prog_1_method_4_code
def yX2_selectionSort : MethodName := ⟨RX2, "selectionSort", "([JII)V"⟩
def dkwX2_selectionSort_3 : List UInt8 := [167, 255, 186, 177]
abbrev dktX2_selectionSort_3 : List UInt8 := dkwX2_selectionSort_3 ++ []
def dkwX2_selectionSort_2 : List UInt8 := [159, 0, 21, 42, 29, 47, 55, 5, 42, 29, 42, 21, 4, 47, 80, 42, 21, 4, 22, 5, 80, 132, 3, 1]
abbrev dktX2_selectionSort_2 : List UInt8 := dkwX2_selectionSort_2 ++ dktX2_selectionSort_3
def dkwX2_selectionSort_1 : List UInt8 := [21, 5, 47, 42, 21, 4, 47, 148, 156, 0, 7, 21, 5, 54, 4, 132, 5, 1, 167, 255, 231, 21, 4, 29]
abbrev dktX2_selectionSort_1 : List UInt8 := dkwX2_selectionSort_1 ++ dktX2_selectionSort_2
def dkwX2_selectionSort_0 : List UInt8 := [27, 62, 29, 28, 4, 100, 162, 0, 69, 29, 54, 4, 29, 4, 96, 54, 5, 21, 5, 28, 162, 0, 25, 42]
abbrev dktX2_selectionSort_0 : List UInt8 := dkwX2_selectionSort_0 ++ dktX2_selectionSort_1
theorem dksX2_selectionSort_0 : cX2_selectionSort.data.toList.drop 0 = dktX2_selectionSort_0 := by decide +kernel
theorem dksX2_selectionSort_1 : cX2_selectionSort.data.toList.drop 24 = dktX2_selectionSort_1 := dk_seg dksX2_selectionSort_0 24 rfl rfl
theorem dksX2_selectionSort_2 : cX2_selectionSort.data.toList.drop 48 = dktX2_selectionSort_2 := dk_seg dksX2_selectionSort_1 24 rfl rfl
theorem dksX2_selectionSort_3 : cX2_selectionSort.data.toList.drop 72 = dktX2_selectionSort_3 := dk_seg dksX2_selectionSort_2 24 rfl rfl
theorem dX2_selectionSort_0 : decode cX2_selectionSort 0 = .ok (.iload_n 1, 1) := dk_27 (dk_at dksX2_selectionSort_0 0 rfl rfl)
theorem dX2_selectionSort_1 : decode cX2_selectionSort 1 = .ok (.istore_n 3, 1) := dk_62 (dk_at dksX2_selectionSort_0 1 rfl rfl)
theorem dX2_selectionSort_2 : decode cX2_selectionSort 2 = .ok (.iload_n 3, 1) := dk_29 (dk_at dksX2_selectionSort_0 2 rfl rfl)
theorem dX2_selectionSort_3 : decode cX2_selectionSort 3 = .ok (.iload_n 2, 1) := dk_28 (dk_at dksX2_selectionSort_0 3 rfl rfl)
theorem dX2_selectionSort_4 : decode cX2_selectionSort 4 = .ok (.iconst 1, 1) := dk_4 (dk_at dksX2_selectionSort_0 4 rfl rfl)
theorem dX2_selectionSort_5 : decode cX2_selectionSort 5 = .ok (.isub, 1) := dk_100 (dk_at dksX2_selectionSort_0 5 rfl rfl)
theorem dX2_selectionSort_6 : decode cX2_selectionSort 6 = .ok (.if_icmp .ge 69, 3) := dk_162 0 69 (dk_at dksX2_selectionSort_0 6 rfl rfl)
theorem dX2_selectionSort_9 : decode cX2_selectionSort 9 = .ok (.iload_n 3, 1) := dk_29 (dk_at dksX2_selectionSort_0 9 rfl rfl)
theorem dX2_selectionSort_10 : decode cX2_selectionSort 10 = .ok (.istore 4, 2) := dk_54 4 (dk_at dksX2_selectionSort_0 10 rfl rfl)
theorem dX2_selectionSort_12 : decode cX2_selectionSort 12 = .ok (.iload_n 3, 1) := dk_29 (dk_at dksX2_selectionSort_0 12 rfl rfl)
theorem dX2_selectionSort_13 : decode cX2_selectionSort 13 = .ok (.iconst 1, 1) := dk_4 (dk_at dksX2_selectionSort_0 13 rfl rfl)
theorem dX2_selectionSort_14 : decode cX2_selectionSort 14 = .ok (.iadd, 1) := dk_96 (dk_at dksX2_selectionSort_0 14 rfl rfl)
theorem dX2_selectionSort_15 : decode cX2_selectionSort 15 = .ok (.istore 5, 2) := dk_54 5 (dk_at dksX2_selectionSort_0 15 rfl rfl)
theorem dX2_selectionSort_17 : decode cX2_selectionSort 17 = .ok (.iload 5, 2) := dk_21 5 (dk_at dksX2_selectionSort_0 17 rfl rfl)
theorem dX2_selectionSort_19 : decode cX2_selectionSort 19 = .ok (.iload_n 2, 1) := dk_28 (dk_at dksX2_selectionSort_0 19 rfl rfl)
theorem dX2_selectionSort_20 : decode cX2_selectionSort 20 = .ok (.if_icmp .ge 25, 3) := dk_162 0 25 (dk_at dksX2_selectionSort_0 20 rfl rfl)
theorem dX2_selectionSort_23 : decode cX2_selectionSort 23 = .ok (.aload_n 0, 1) := dk_42 (dk_at dksX2_selectionSort_0 23 rfl rfl)
theorem dX2_selectionSort_24 : decode cX2_selectionSort 24 = .ok (.iload 5, 2) := dk_21 5 (dk_at dksX2_selectionSort_1 0 rfl rfl)
theorem dX2_selectionSort_26 : decode cX2_selectionSort 26 = .ok (.laload, 1) := dk_47 (dk_at dksX2_selectionSort_1 2 rfl rfl)
theorem dX2_selectionSort_27 : decode cX2_selectionSort 27 = .ok (.aload_n 0, 1) := dk_42 (dk_at dksX2_selectionSort_1 3 rfl rfl)
theorem dX2_selectionSort_28 : decode cX2_selectionSort 28 = .ok (.iload 4, 2) := dk_21 4 (dk_at dksX2_selectionSort_1 4 rfl rfl)
theorem dX2_selectionSort_30 : decode cX2_selectionSort 30 = .ok (.laload, 1) := dk_47 (dk_at dksX2_selectionSort_1 6 rfl rfl)
theorem dX2_selectionSort_31 : decode cX2_selectionSort 31 = .ok (.lcmp, 1) := dk_148 (dk_at dksX2_selectionSort_1 7 rfl rfl)
theorem dX2_selectionSort_32 : decode cX2_selectionSort 32 = .ok (.ifCond .ge 7, 3) := dk_156 0 7 (dk_at dksX2_selectionSort_1 8 rfl rfl)
theorem dX2_selectionSort_35 : decode cX2_selectionSort 35 = .ok (.iload 5, 2) := dk_21 5 (dk_at dksX2_selectionSort_1 11 rfl rfl)
theorem dX2_selectionSort_37 : decode cX2_selectionSort 37 = .ok (.istore 4, 2) := dk_54 4 (dk_at dksX2_selectionSort_1 13 rfl rfl)
theorem dX2_selectionSort_39 : decode cX2_selectionSort 39 = .ok (.iinc 5 1, 3) := dk_132 5 1 (dk_at dksX2_selectionSort_1 15 rfl rfl)
theorem dX2_selectionSort_42 : decode cX2_selectionSort 42 = .ok (.goto (-25), 3) := dk_167 255 231 (dk_at dksX2_selectionSort_1 18 rfl rfl)
theorem dX2_selectionSort_45 : decode cX2_selectionSort 45 = .ok (.iload 4, 2) := dk_21 4 (dk_at dksX2_selectionSort_1 21 rfl rfl)
theorem dX2_selectionSort_47 : decode cX2_selectionSort 47 = .ok (.iload_n 3, 1) := dk_29 (dk_at dksX2_selectionSort_1 23 rfl rfl)
theorem dX2_selectionSort_48 : decode cX2_selectionSort 48 = .ok (.if_icmp .eq 21, 3) := dk_159 0 21 (dk_at dksX2_selectionSort_2 0 rfl rfl)
theorem dX2_selectionSort_51 : decode cX2_selectionSort 51 = .ok (.aload_n 0, 1) := dk_42 (dk_at dksX2_selectionSort_2 3 rfl rfl)
theorem dX2_selectionSort_52 : decode cX2_selectionSort 52 = .ok (.iload_n 3, 1) := dk_29 (dk_at dksX2_selectionSort_2 4 rfl rfl)
theorem dX2_selectionSort_53 : decode cX2_selectionSort 53 = .ok (.laload, 1) := dk_47 (dk_at dksX2_selectionSort_2 5 rfl rfl)
theorem dX2_selectionSort_54 : decode cX2_selectionSort 54 = .ok (.lstore 5, 2) := dk_55 5 (dk_at dksX2_selectionSort_2 6 rfl rfl)
theorem dX2_selectionSort_56 : decode cX2_selectionSort 56 = .ok (.aload_n 0, 1) := dk_42 (dk_at dksX2_selectionSort_2 8 rfl rfl)
theorem dX2_selectionSort_57 : decode cX2_selectionSort 57 = .ok (.iload_n 3, 1) := dk_29 (dk_at dksX2_selectionSort_2 9 rfl rfl)
theorem dX2_selectionSort_58 : decode cX2_selectionSort 58 = .ok (.aload_n 0, 1) := dk_42 (dk_at dksX2_selectionSort_2 10 rfl rfl)
theorem dX2_selectionSort_59 : decode cX2_selectionSort 59 = .ok (.iload 4, 2) := dk_21 4 (dk_at dksX2_selectionSort_2 11 rfl rfl)
theorem dX2_selectionSort_61 : decode cX2_selectionSort 61 = .ok (.laload, 1) := dk_47 (dk_at dksX2_selectionSort_2 13 rfl rfl)
theorem dX2_selectionSort_62 : decode cX2_selectionSort 62 = .ok (.lastore, 1) := dk_80 (dk_at dksX2_selectionSort_2 14 rfl rfl)
theorem dX2_selectionSort_63 : decode cX2_selectionSort 63 = .ok (.aload_n 0, 1) := dk_42 (dk_at dksX2_selectionSort_2 15 rfl rfl)
theorem dX2_selectionSort_64 : decode cX2_selectionSort 64 = .ok (.iload 4, 2) := dk_21 4 (dk_at dksX2_selectionSort_2 16 rfl rfl)
theorem dX2_selectionSort_66 : decode cX2_selectionSort 66 = .ok (.lload 5, 2) := dk_22 5 (dk_at dksX2_selectionSort_2 18 rfl rfl)
theorem dX2_selectionSort_68 : decode cX2_selectionSort 68 = .ok (.lastore, 1) := dk_80 (dk_at dksX2_selectionSort_2 20 rfl rfl)
theorem dX2_selectionSort_69 : decode cX2_selectionSort 69 = .ok (.iinc 3 1, 3) := dk_132 3 1 (dk_at dksX2_selectionSort_2 21 rfl rfl)
theorem dX2_selectionSort_72 : decode cX2_selectionSort 72 = .ok (.goto (-70), 3) := dk_167 255 186 (dk_at dksX2_selectionSort_3 0 rfl rfl)
theorem dX2_selectionSort_75 : decode cX2_selectionSort 75 = .ok (.return_, 1) := dk_177 (dk_at dksX2_selectionSort_3 3 rfl rfl)
abbrev cX2_med3 : ByteArray := prog_1_method_3_code
def yX2_med3 : MethodName := ⟨RX2, "med3", "([JIII)I"⟩
def dkwX2_med3_3 : List UInt8 := [158, 0, 7, 29, 167, 0, 4, 27, 172]
abbrev dktX2_med3_3 : List UInt8 := dkwX2_med3_3 ++ []
def dkwX2_med3_2 : List UInt8 := [21, 5, 156, 0, 7, 29, 167, 0, 26, 27, 167, 0, 22, 21, 6, 158, 0, 7, 28, 167, 0, 13, 21, 5]
abbrev dktX2_med3_2 : List UInt8 := dkwX2_med3_2 ++ dktX2_med3_3
def dkwX2_med3_1 : List UInt8 := [47, 42, 29, 47, 184, 0, 9, 54, 6, 21, 4, 156, 0, 25, 21, 6, 156, 0, 7, 28, 167, 0, 35]
abbrev dktX2_med3_1 : List UInt8 := dkwX2_med3_1 ++ dktX2_med3_2
def dkwX2_med3_0 : List UInt8 := [42, 27, 47, 42, 28, 47, 184, 0, 9, 54, 4, 42, 27, 47, 42, 29, 47, 184, 0, 9, 54, 5, 42, 28]
abbrev dktX2_med3_0 : List UInt8 := dkwX2_med3_0 ++ dktX2_med3_1
theorem dksX2_med3_0 : cX2_med3.data.toList.drop 0 = dktX2_med3_0 := by decide +kernel
theorem dksX2_med3_1 : cX2_med3.data.toList.drop 24 = dktX2_med3_1 := dk_seg dksX2_med3_0 24 rfl rfl
theorem dksX2_med3_2 : cX2_med3.data.toList.drop 47 = dktX2_med3_2 := dk_seg dksX2_med3_1 23 rfl rfl
theorem dksX2_med3_3 : cX2_med3.data.toList.drop 71 = dktX2_med3_3 := dk_seg dksX2_med3_2 24 rfl rfl
theorem dX2_med3_0 : decode cX2_med3 0 = .ok (.aload_n 0, 1) := dk_42 (dk_at dksX2_med3_0 0 rfl rfl)
theorem dX2_med3_1 : decode cX2_med3 1 = .ok (.iload_n 1, 1) := dk_27 (dk_at dksX2_med3_0 1 rfl rfl)
theorem dX2_med3_2 : decode cX2_med3 2 = .ok (.laload, 1) := dk_47 (dk_at dksX2_med3_0 2 rfl rfl)
theorem dX2_med3_3 : decode cX2_med3 3 = .ok (.aload_n 0, 1) := dk_42 (dk_at dksX2_med3_0 3 rfl rfl)
theorem dX2_med3_4 : decode cX2_med3 4 = .ok (.iload_n 2, 1) := dk_28 (dk_at dksX2_med3_0 4 rfl rfl)
theorem dX2_med3_5 : decode cX2_med3 5 = .ok (.laload, 1) := dk_47 (dk_at dksX2_med3_0 5 rfl rfl)
theorem dX2_med3_6 : decode cX2_med3 6 = .ok (.invokestatic 9, 3) := dk_184 0 9 (dk_at dksX2_med3_0 6 rfl rfl)
theorem dX2_med3_9 : decode cX2_med3 9 = .ok (.istore 4, 2) := dk_54 4 (dk_at dksX2_med3_0 9 rfl rfl)
theorem dX2_med3_11 : decode cX2_med3 11 = .ok (.aload_n 0, 1) := dk_42 (dk_at dksX2_med3_0 11 rfl rfl)
theorem dX2_med3_12 : decode cX2_med3 12 = .ok (.iload_n 1, 1) := dk_27 (dk_at dksX2_med3_0 12 rfl rfl)
theorem dX2_med3_13 : decode cX2_med3 13 = .ok (.laload, 1) := dk_47 (dk_at dksX2_med3_0 13 rfl rfl)
theorem dX2_med3_14 : decode cX2_med3 14 = .ok (.aload_n 0, 1) := dk_42 (dk_at dksX2_med3_0 14 rfl rfl)
theorem dX2_med3_15 : decode cX2_med3 15 = .ok (.iload_n 3, 1) := dk_29 (dk_at dksX2_med3_0 15 rfl rfl)
theorem dX2_med3_16 : decode cX2_med3 16 = .ok (.laload, 1) := dk_47 (dk_at dksX2_med3_0 16 rfl rfl)
theorem dX2_med3_17 : decode cX2_med3 17 = .ok (.invokestatic 9, 3) := dk_184 0 9 (dk_at dksX2_med3_0 17 rfl rfl)
theorem dX2_med3_20 : decode cX2_med3 20 = .ok (.istore 5, 2) := dk_54 5 (dk_at dksX2_med3_0 20 rfl rfl)
theorem dX2_med3_22 : decode cX2_med3 22 = .ok (.aload_n 0, 1) := dk_42 (dk_at dksX2_med3_0 22 rfl rfl)
theorem dX2_med3_23 : decode cX2_med3 23 = .ok (.iload_n 2, 1) := dk_28 (dk_at dksX2_med3_0 23 rfl rfl)
theorem dX2_med3_24 : decode cX2_med3 24 = .ok (.laload, 1) := dk_47 (dk_at dksX2_med3_1 0 rfl rfl)
theorem dX2_med3_25 : decode cX2_med3 25 = .ok (.aload_n 0, 1) := dk_42 (dk_at dksX2_med3_1 1 rfl rfl)
theorem dX2_med3_26 : decode cX2_med3 26 = .ok (.iload_n 3, 1) := dk_29 (dk_at dksX2_med3_1 2 rfl rfl)
theorem dX2_med3_27 : decode cX2_med3 27 = .ok (.laload, 1) := dk_47 (dk_at dksX2_med3_1 3 rfl rfl)
theorem dX2_med3_28 : decode cX2_med3 28 = .ok (.invokestatic 9, 3) := dk_184 0 9 (dk_at dksX2_med3_1 4 rfl rfl)
theorem dX2_med3_31 : decode cX2_med3 31 = .ok (.istore 6, 2) := dk_54 6 (dk_at dksX2_med3_1 7 rfl rfl)
theorem dX2_med3_33 : decode cX2_med3 33 = .ok (.iload 4, 2) := dk_21 4 (dk_at dksX2_med3_1 9 rfl rfl)
theorem dX2_med3_35 : decode cX2_med3 35 = .ok (.ifCond .ge 25, 3) := dk_156 0 25 (dk_at dksX2_med3_1 11 rfl rfl)
theorem dX2_med3_38 : decode cX2_med3 38 = .ok (.iload 6, 2) := dk_21 6 (dk_at dksX2_med3_1 14 rfl rfl)
theorem dX2_med3_40 : decode cX2_med3 40 = .ok (.ifCond .ge 7, 3) := dk_156 0 7 (dk_at dksX2_med3_1 16 rfl rfl)
theorem dX2_med3_43 : decode cX2_med3 43 = .ok (.iload_n 2, 1) := dk_28 (dk_at dksX2_med3_1 19 rfl rfl)
theorem dX2_med3_44 : decode cX2_med3 44 = .ok (.goto 35, 3) := dk_167 0 35 (dk_at dksX2_med3_1 20 rfl rfl)
theorem dX2_med3_47 : decode cX2_med3 47 = .ok (.iload 5, 2) := dk_21 5 (dk_at dksX2_med3_2 0 rfl rfl)
theorem dX2_med3_49 : decode cX2_med3 49 = .ok (.ifCond .ge 7, 3) := dk_156 0 7 (dk_at dksX2_med3_2 2 rfl rfl)
theorem dX2_med3_52 : decode cX2_med3 52 = .ok (.iload_n 3, 1) := dk_29 (dk_at dksX2_med3_2 5 rfl rfl)
theorem dX2_med3_53 : decode cX2_med3 53 = .ok (.goto 26, 3) := dk_167 0 26 (dk_at dksX2_med3_2 6 rfl rfl)
theorem dX2_med3_56 : decode cX2_med3 56 = .ok (.iload_n 1, 1) := dk_27 (dk_at dksX2_med3_2 9 rfl rfl)
theorem dX2_med3_57 : decode cX2_med3 57 = .ok (.goto 22, 3) := dk_167 0 22 (dk_at dksX2_med3_2 10 rfl rfl)
theorem dX2_med3_60 : decode cX2_med3 60 = .ok (.iload 6, 2) := dk_21 6 (dk_at dksX2_med3_2 13 rfl rfl)
theorem dX2_med3_62 : decode cX2_med3 62 = .ok (.ifCond .le 7, 3) := dk_158 0 7 (dk_at dksX2_med3_2 15 rfl rfl)
theorem dX2_med3_65 : decode cX2_med3 65 = .ok (.iload_n 2, 1) := dk_28 (dk_at dksX2_med3_2 18 rfl rfl)
theorem dX2_med3_66 : decode cX2_med3 66 = .ok (.goto 13, 3) := dk_167 0 13 (dk_at dksX2_med3_2 19 rfl rfl)
theorem dX2_med3_69 : decode cX2_med3 69 = .ok (.iload 5, 2) := dk_21 5 (dk_at dksX2_med3_2 22 rfl rfl)
theorem dX2_med3_71 : decode cX2_med3 71 = .ok (.ifCond .le 7, 3) := dk_158 0 7 (dk_at dksX2_med3_3 0 rfl rfl)
theorem dX2_med3_74 : decode cX2_med3 74 = .ok (.iload_n 3, 1) := dk_29 (dk_at dksX2_med3_3 3 rfl rfl)
theorem dX2_med3_75 : decode cX2_med3 75 = .ok (.goto 4, 3) := dk_167 0 4 (dk_at dksX2_med3_3 4 rfl rfl)
theorem dX2_med3_78 : decode cX2_med3 78 = .ok (.iload_n 1, 1) := dk_27 (dk_at dksX2_med3_3 7 rfl rfl)
theorem dX2_med3_79 : decode cX2_med3 79 = .ok (.ireturn, 1) := dk_172 (dk_at dksX2_med3_3 8 rfl rfl)
abbrev cX2_swap : ByteArray := prog_1_method_1_code
def yX2_swap : MethodName := ⟨RX2, "swap", "([JII)V"⟩
def dkwX2_swap_0 : List UInt8 := [42, 27, 47, 66, 42, 27, 42, 28, 47, 80, 42, 28, 33, 80, 177]
abbrev dktX2_swap_0 : List UInt8 := dkwX2_swap_0 ++ []
theorem dksX2_swap_0 : cX2_swap.data.toList.drop 0 = dktX2_swap_0 := by decide +kernel
theorem dX2_swap_0 : decode cX2_swap 0 = .ok (.aload_n 0, 1) := dk_42 (dk_at dksX2_swap_0 0 rfl rfl)
theorem dX2_swap_1 : decode cX2_swap 1 = .ok (.iload_n 1, 1) := dk_27 (dk_at dksX2_swap_0 1 rfl rfl)
theorem dX2_swap_2 : decode cX2_swap 2 = .ok (.laload, 1) := dk_47 (dk_at dksX2_swap_0 2 rfl rfl)
theorem dX2_swap_3 : decode cX2_swap 3 = .ok (.lstore_n 3, 1) := dk_66 (dk_at dksX2_swap_0 3 rfl rfl)
theorem dX2_swap_4 : decode cX2_swap 4 = .ok (.aload_n 0, 1) := dk_42 (dk_at dksX2_swap_0 4 rfl rfl)
theorem dX2_swap_5 : decode cX2_swap 5 = .ok (.iload_n 1, 1) := dk_27 (dk_at dksX2_swap_0 5 rfl rfl)
theorem dX2_swap_6 : decode cX2_swap 6 = .ok (.aload_n 0, 1) := dk_42 (dk_at dksX2_swap_0 6 rfl rfl)
theorem dX2_swap_7 : decode cX2_swap 7 = .ok (.iload_n 2, 1) := dk_28 (dk_at dksX2_swap_0 7 rfl rfl)
theorem dX2_swap_8 : decode cX2_swap 8 = .ok (.laload, 1) := dk_47 (dk_at dksX2_swap_0 8 rfl rfl)
theorem dX2_swap_9 : decode cX2_swap 9 = .ok (.lastore, 1) := dk_80 (dk_at dksX2_swap_0 9 rfl rfl)
theorem dX2_swap_10 : decode cX2_swap 10 = .ok (.aload_n 0, 1) := dk_42 (dk_at dksX2_swap_0 10 rfl rfl)
theorem dX2_swap_11 : decode cX2_swap 11 = .ok (.iload_n 2, 1) := dk_28 (dk_at dksX2_swap_0 11 rfl rfl)
theorem dX2_swap_12 : decode cX2_swap 12 = .ok (.lload_n 3, 1) := dk_33 (dk_at dksX2_swap_0 12 rfl rfl)
theorem dX2_swap_13 : decode cX2_swap 13 = .ok (.lastore, 1) := dk_80 (dk_at dksX2_swap_0 13 rfl rfl)
theorem dX2_swap_14 : decode cX2_swap 14 = .ok (.return_, 1) := dk_177 (dk_at dksX2_swap_0 14 rfl rfl)
abbrev cX2_swap_2 : ByteArray := prog_1_method_2_code
def yX2_swap_2 : MethodName := ⟨RX2, "swap", "([JIII)V"⟩
def dkwX2_swap_2_1 : List UInt8 := [167, 255, 235, 177]
abbrev dktX2_swap_2_1 : List UInt8 := dkwX2_swap_2_1 ++ []
def dkwX2_swap_2_0 : List UInt8 := [3, 54, 4, 21, 4, 29, 162, 0, 21, 42, 27, 28, 184, 0, 5, 132, 4, 1, 132, 1, 1, 132, 2, 1]
abbrev dktX2_swap_2_0 : List UInt8 := dkwX2_swap_2_0 ++ dktX2_swap_2_1
theorem dksX2_swap_2_0 : cX2_swap_2.data.toList.drop 0 = dktX2_swap_2_0 := by decide +kernel
theorem dksX2_swap_2_1 : cX2_swap_2.data.toList.drop 24 = dktX2_swap_2_1 := dk_seg dksX2_swap_2_0 24 rfl rfl
theorem dX2_swap_2_0 : decode cX2_swap_2 0 = .ok (.iconst 0, 1) := dk_3 (dk_at dksX2_swap_2_0 0 rfl rfl)
theorem dX2_swap_2_1 : decode cX2_swap_2 1 = .ok (.istore 4, 2) := dk_54 4 (dk_at dksX2_swap_2_0 1 rfl rfl)
theorem dX2_swap_2_3 : decode cX2_swap_2 3 = .ok (.iload 4, 2) := dk_21 4 (dk_at dksX2_swap_2_0 3 rfl rfl)
theorem dX2_swap_2_5 : decode cX2_swap_2 5 = .ok (.iload_n 3, 1) := dk_29 (dk_at dksX2_swap_2_0 5 rfl rfl)
theorem dX2_swap_2_6 : decode cX2_swap_2 6 = .ok (.if_icmp .ge 21, 3) := dk_162 0 21 (dk_at dksX2_swap_2_0 6 rfl rfl)
theorem dX2_swap_2_9 : decode cX2_swap_2 9 = .ok (.aload_n 0, 1) := dk_42 (dk_at dksX2_swap_2_0 9 rfl rfl)
theorem dX2_swap_2_10 : decode cX2_swap_2 10 = .ok (.iload_n 1, 1) := dk_27 (dk_at dksX2_swap_2_0 10 rfl rfl)
theorem dX2_swap_2_11 : decode cX2_swap_2 11 = .ok (.iload_n 2, 1) := dk_28 (dk_at dksX2_swap_2_0 11 rfl rfl)
theorem dX2_swap_2_12 : decode cX2_swap_2 12 = .ok (.invokestatic 5, 3) := dk_184 0 5 (dk_at dksX2_swap_2_0 12 rfl rfl)
theorem dX2_swap_2_15 : decode cX2_swap_2 15 = .ok (.iinc 4 1, 3) := dk_132 4 1 (dk_at dksX2_swap_2_0 15 rfl rfl)
theorem dX2_swap_2_18 : decode cX2_swap_2 18 = .ok (.iinc 1 1, 3) := dk_132 1 1 (dk_at dksX2_swap_2_0 18 rfl rfl)
theorem dX2_swap_2_21 : decode cX2_swap_2 21 = .ok (.iinc 2 1, 3) := dk_132 2 1 (dk_at dksX2_swap_2_0 21 rfl rfl)
theorem dX2_swap_2_24 : decode cX2_swap_2 24 = .ok (.goto (-21), 3) := dk_167 255 235 (dk_at dksX2_swap_2_1 0 rfl rfl)
theorem dX2_swap_2_27 : decode cX2_swap_2 27 = .ok (.return_, 1) := dk_177 (dk_at dksX2_swap_2_1 3 rfl rfl)
abbrev cX2_mergeSort : ByteArray := prog_1_method_8_code
def yX2_mergeSort : MethodName := ⟨RX2, "mergeSort", "([JII)V"⟩
def dkwX2_mergeSort_0 : List UInt8 := [42, 27, 28, 1, 192, 0, 51, 184, 0, 41, 177]
abbrev dktX2_mergeSort_0 : List UInt8 := dkwX2_mergeSort_0 ++ []
theorem dksX2_mergeSort_0 : cX2_mergeSort.data.toList.drop 0 = dktX2_mergeSort_0 := by decide +kernel
theorem dX2_mergeSort_0 : decode cX2_mergeSort 0 = .ok (.aload_n 0, 1) := dk_42 (dk_at dksX2_mergeSort_0 0 rfl rfl)
theorem dX2_mergeSort_1 : decode cX2_mergeSort 1 = .ok (.iload_n 1, 1) := dk_27 (dk_at dksX2_mergeSort_0 1 rfl rfl)
theorem dX2_mergeSort_2 : decode cX2_mergeSort 2 = .ok (.iload_n 2, 1) := dk_28 (dk_at dksX2_mergeSort_0 2 rfl rfl)
theorem dX2_mergeSort_3 : decode cX2_mergeSort 3 = .ok (.aconst_null, 1) := dk_1 (dk_at dksX2_mergeSort_0 3 rfl rfl)
theorem dX2_mergeSort_4 : decode cX2_mergeSort 4 = .ok (.checkcast 51, 3) := dk_192 0 51 (dk_at dksX2_mergeSort_0 4 rfl rfl)
theorem dX2_mergeSort_7 : decode cX2_mergeSort 7 = .ok (.invokestatic 41, 3) := dk_184 0 41 (dk_at dksX2_mergeSort_0 7 rfl rfl)
theorem dX2_mergeSort_10 : decode cX2_mergeSort 10 = .ok (.return_, 1) := dk_177 (dk_at dksX2_mergeSort_0 10 rfl rfl)
abbrev cX2_mergeSort_2 : ByteArray := prog_1_method_7_code
def yX2_mergeSort_2 : MethodName := ⟨RX2, "mergeSort", "([JII[J)V"⟩
def dkwX2_mergeSort_2_6 : List UInt8 := [132, 6, 1, 167, 255, 197, 177]
abbrev dktX2_mergeSort_2_6 : List UInt8 := dkwX2_mergeSort_2_6 ++ []
def dkwX2_mergeSort_2_5 : List UInt8 := [21, 6, 45, 21, 7, 132, 7, 1, 47, 80, 167, 0, 14, 42, 21, 6, 45, 21, 8, 132, 8, 1, 47, 80]
abbrev dktX2_mergeSort_2_5 : List UInt8 := dkwX2_mergeSort_2_5 ++ dktX2_mergeSort_2_6
def dkwX2_mergeSort_2_4 : List UInt8 := [162, 0, 22, 21, 7, 21, 5, 162, 0, 29, 45, 21, 7, 47, 45, 21, 8, 47, 148, 157, 0, 17, 42]
abbrev dktX2_mergeSort_2_4 : List UInt8 := dkwX2_mergeSort_2_4 ++ dktX2_mergeSort_2_5
def dkwX2_mergeSort_2_3 : List UInt8 := [184, 0, 45, 177, 27, 54, 6, 27, 54, 7, 21, 5, 54, 8, 21, 6, 28, 162, 0, 59, 21, 8, 28]
abbrev dktX2_mergeSort_2_3 : List UInt8 := dkwX2_mergeSort_2_3 ++ dktX2_mergeSort_2_4
def dkwX2_mergeSort_2_2 : List UInt8 := [42, 184, 0, 41, 45, 21, 5, 4, 100, 47, 45, 21, 5, 47, 148, 157, 0, 13, 45, 27, 42, 27, 21, 4]
abbrev dktX2_mergeSort_2_2 : List UInt8 := dkwX2_mergeSort_2_2 ++ dktX2_mergeSort_2_3
def dkwX2_mergeSort_2_1 : List UInt8 := [28, 184, 0, 35, 78, 27, 28, 96, 4, 124, 54, 5, 45, 27, 21, 5, 42, 184, 0, 41, 45, 21, 5, 28]
abbrev dktX2_mergeSort_2_1 : List UInt8 := dkwX2_mergeSort_2_1 ++ dktX2_mergeSort_2_2
def dkwX2_mergeSort_2_0 : List UInt8 := [28, 27, 100, 54, 4, 21, 4, 16, 16, 162, 0, 10, 42, 27, 28, 184, 0, 32, 177, 45, 199, 0, 9, 42]
abbrev dktX2_mergeSort_2_0 : List UInt8 := dkwX2_mergeSort_2_0 ++ dktX2_mergeSort_2_1
theorem dksX2_mergeSort_2_0 : cX2_mergeSort_2.data.toList.drop 0 = dktX2_mergeSort_2_0 := by decide +kernel
theorem dksX2_mergeSort_2_1 : cX2_mergeSort_2.data.toList.drop 24 = dktX2_mergeSort_2_1 := dk_seg dksX2_mergeSort_2_0 24 rfl rfl
theorem dksX2_mergeSort_2_2 : cX2_mergeSort_2.data.toList.drop 48 = dktX2_mergeSort_2_2 := dk_seg dksX2_mergeSort_2_1 24 rfl rfl
theorem dksX2_mergeSort_2_3 : cX2_mergeSort_2.data.toList.drop 72 = dktX2_mergeSort_2_3 := dk_seg dksX2_mergeSort_2_2 24 rfl rfl
theorem dksX2_mergeSort_2_4 : cX2_mergeSort_2.data.toList.drop 95 = dktX2_mergeSort_2_4 := dk_seg dksX2_mergeSort_2_3 23 rfl rfl
theorem dksX2_mergeSort_2_5 : cX2_mergeSort_2.data.toList.drop 118 = dktX2_mergeSort_2_5 := dk_seg dksX2_mergeSort_2_4 23 rfl rfl
theorem dksX2_mergeSort_2_6 : cX2_mergeSort_2.data.toList.drop 142 = dktX2_mergeSort_2_6 := dk_seg dksX2_mergeSort_2_5 24 rfl rfl
theorem dX2_mergeSort_2_0 : decode cX2_mergeSort_2 0 = .ok (.iload_n 2, 1) := dk_28 (dk_at dksX2_mergeSort_2_0 0 rfl rfl)
theorem dX2_mergeSort_2_1 : decode cX2_mergeSort_2 1 = .ok (.iload_n 1, 1) := dk_27 (dk_at dksX2_mergeSort_2_0 1 rfl rfl)
theorem dX2_mergeSort_2_2 : decode cX2_mergeSort_2 2 = .ok (.isub, 1) := dk_100 (dk_at dksX2_mergeSort_2_0 2 rfl rfl)
theorem dX2_mergeSort_2_3 : decode cX2_mergeSort_2 3 = .ok (.istore 4, 2) := dk_54 4 (dk_at dksX2_mergeSort_2_0 3 rfl rfl)
theorem dX2_mergeSort_2_5 : decode cX2_mergeSort_2 5 = .ok (.iload 4, 2) := dk_21 4 (dk_at dksX2_mergeSort_2_0 5 rfl rfl)
theorem dX2_mergeSort_2_7 : decode cX2_mergeSort_2 7 = .ok (.bipush 16, 2) := dk_16 16 (dk_at dksX2_mergeSort_2_0 7 rfl rfl)
theorem dX2_mergeSort_2_9 : decode cX2_mergeSort_2 9 = .ok (.if_icmp .ge 10, 3) := dk_162 0 10 (dk_at dksX2_mergeSort_2_0 9 rfl rfl)
theorem dX2_mergeSort_2_12 : decode cX2_mergeSort_2 12 = .ok (.aload_n 0, 1) := dk_42 (dk_at dksX2_mergeSort_2_0 12 rfl rfl)
theorem dX2_mergeSort_2_13 : decode cX2_mergeSort_2 13 = .ok (.iload_n 1, 1) := dk_27 (dk_at dksX2_mergeSort_2_0 13 rfl rfl)
theorem dX2_mergeSort_2_14 : decode cX2_mergeSort_2 14 = .ok (.iload_n 2, 1) := dk_28 (dk_at dksX2_mergeSort_2_0 14 rfl rfl)
theorem dX2_mergeSort_2_15 : decode cX2_mergeSort_2 15 = .ok (.invokestatic 32, 3) := dk_184 0 32 (dk_at dksX2_mergeSort_2_0 15 rfl rfl)
theorem dX2_mergeSort_2_18 : decode cX2_mergeSort_2 18 = .ok (.return_, 1) := dk_177 (dk_at dksX2_mergeSort_2_0 18 rfl rfl)
theorem dX2_mergeSort_2_19 : decode cX2_mergeSort_2 19 = .ok (.aload_n 3, 1) := dk_45 (dk_at dksX2_mergeSort_2_0 19 rfl rfl)
theorem dX2_mergeSort_2_20 : decode cX2_mergeSort_2 20 = .ok (.ifnonnull 9, 3) := dk_199 0 9 (dk_at dksX2_mergeSort_2_0 20 rfl rfl)
theorem dX2_mergeSort_2_23 : decode cX2_mergeSort_2 23 = .ok (.aload_n 0, 1) := dk_42 (dk_at dksX2_mergeSort_2_0 23 rfl rfl)
theorem dX2_mergeSort_2_24 : decode cX2_mergeSort_2 24 = .ok (.iload_n 2, 1) := dk_28 (dk_at dksX2_mergeSort_2_1 0 rfl rfl)
theorem dX2_mergeSort_2_25 : decode cX2_mergeSort_2 25 = .ok (.invokestatic 35, 3) := dk_184 0 35 (dk_at dksX2_mergeSort_2_1 1 rfl rfl)
theorem dX2_mergeSort_2_28 : decode cX2_mergeSort_2 28 = .ok (.astore_n 3, 1) := dk_78 (dk_at dksX2_mergeSort_2_1 4 rfl rfl)
theorem dX2_mergeSort_2_29 : decode cX2_mergeSort_2 29 = .ok (.iload_n 1, 1) := dk_27 (dk_at dksX2_mergeSort_2_1 5 rfl rfl)
theorem dX2_mergeSort_2_30 : decode cX2_mergeSort_2 30 = .ok (.iload_n 2, 1) := dk_28 (dk_at dksX2_mergeSort_2_1 6 rfl rfl)
theorem dX2_mergeSort_2_31 : decode cX2_mergeSort_2 31 = .ok (.iadd, 1) := dk_96 (dk_at dksX2_mergeSort_2_1 7 rfl rfl)
theorem dX2_mergeSort_2_32 : decode cX2_mergeSort_2 32 = .ok (.iconst 1, 1) := dk_4 (dk_at dksX2_mergeSort_2_1 8 rfl rfl)
theorem dX2_mergeSort_2_33 : decode cX2_mergeSort_2 33 = .ok (.iushr, 1) := dk_124 (dk_at dksX2_mergeSort_2_1 9 rfl rfl)
theorem dX2_mergeSort_2_34 : decode cX2_mergeSort_2 34 = .ok (.istore 5, 2) := dk_54 5 (dk_at dksX2_mergeSort_2_1 10 rfl rfl)
theorem dX2_mergeSort_2_36 : decode cX2_mergeSort_2 36 = .ok (.aload_n 3, 1) := dk_45 (dk_at dksX2_mergeSort_2_1 12 rfl rfl)
theorem dX2_mergeSort_2_37 : decode cX2_mergeSort_2 37 = .ok (.iload_n 1, 1) := dk_27 (dk_at dksX2_mergeSort_2_1 13 rfl rfl)
theorem dX2_mergeSort_2_38 : decode cX2_mergeSort_2 38 = .ok (.iload 5, 2) := dk_21 5 (dk_at dksX2_mergeSort_2_1 14 rfl rfl)
theorem dX2_mergeSort_2_40 : decode cX2_mergeSort_2 40 = .ok (.aload_n 0, 1) := dk_42 (dk_at dksX2_mergeSort_2_1 16 rfl rfl)
theorem dX2_mergeSort_2_41 : decode cX2_mergeSort_2 41 = .ok (.invokestatic 41, 3) := dk_184 0 41 (dk_at dksX2_mergeSort_2_1 17 rfl rfl)
theorem dX2_mergeSort_2_44 : decode cX2_mergeSort_2 44 = .ok (.aload_n 3, 1) := dk_45 (dk_at dksX2_mergeSort_2_1 20 rfl rfl)
theorem dX2_mergeSort_2_45 : decode cX2_mergeSort_2 45 = .ok (.iload 5, 2) := dk_21 5 (dk_at dksX2_mergeSort_2_1 21 rfl rfl)
theorem dX2_mergeSort_2_47 : decode cX2_mergeSort_2 47 = .ok (.iload_n 2, 1) := dk_28 (dk_at dksX2_mergeSort_2_1 23 rfl rfl)
theorem dX2_mergeSort_2_48 : decode cX2_mergeSort_2 48 = .ok (.aload_n 0, 1) := dk_42 (dk_at dksX2_mergeSort_2_2 0 rfl rfl)
theorem dX2_mergeSort_2_49 : decode cX2_mergeSort_2 49 = .ok (.invokestatic 41, 3) := dk_184 0 41 (dk_at dksX2_mergeSort_2_2 1 rfl rfl)
theorem dX2_mergeSort_2_52 : decode cX2_mergeSort_2 52 = .ok (.aload_n 3, 1) := dk_45 (dk_at dksX2_mergeSort_2_2 4 rfl rfl)
theorem dX2_mergeSort_2_53 : decode cX2_mergeSort_2 53 = .ok (.iload 5, 2) := dk_21 5 (dk_at dksX2_mergeSort_2_2 5 rfl rfl)
theorem dX2_mergeSort_2_55 : decode cX2_mergeSort_2 55 = .ok (.iconst 1, 1) := dk_4 (dk_at dksX2_mergeSort_2_2 7 rfl rfl)
theorem dX2_mergeSort_2_56 : decode cX2_mergeSort_2 56 = .ok (.isub, 1) := dk_100 (dk_at dksX2_mergeSort_2_2 8 rfl rfl)
theorem dX2_mergeSort_2_57 : decode cX2_mergeSort_2 57 = .ok (.laload, 1) := dk_47 (dk_at dksX2_mergeSort_2_2 9 rfl rfl)
theorem dX2_mergeSort_2_58 : decode cX2_mergeSort_2 58 = .ok (.aload_n 3, 1) := dk_45 (dk_at dksX2_mergeSort_2_2 10 rfl rfl)
theorem dX2_mergeSort_2_59 : decode cX2_mergeSort_2 59 = .ok (.iload 5, 2) := dk_21 5 (dk_at dksX2_mergeSort_2_2 11 rfl rfl)
theorem dX2_mergeSort_2_61 : decode cX2_mergeSort_2 61 = .ok (.laload, 1) := dk_47 (dk_at dksX2_mergeSort_2_2 13 rfl rfl)
theorem dX2_mergeSort_2_62 : decode cX2_mergeSort_2 62 = .ok (.lcmp, 1) := dk_148 (dk_at dksX2_mergeSort_2_2 14 rfl rfl)
theorem dX2_mergeSort_2_63 : decode cX2_mergeSort_2 63 = .ok (.ifCond .gt 13, 3) := dk_157 0 13 (dk_at dksX2_mergeSort_2_2 15 rfl rfl)
theorem dX2_mergeSort_2_66 : decode cX2_mergeSort_2 66 = .ok (.aload_n 3, 1) := dk_45 (dk_at dksX2_mergeSort_2_2 18 rfl rfl)
theorem dX2_mergeSort_2_67 : decode cX2_mergeSort_2 67 = .ok (.iload_n 1, 1) := dk_27 (dk_at dksX2_mergeSort_2_2 19 rfl rfl)
theorem dX2_mergeSort_2_68 : decode cX2_mergeSort_2 68 = .ok (.aload_n 0, 1) := dk_42 (dk_at dksX2_mergeSort_2_2 20 rfl rfl)
theorem dX2_mergeSort_2_69 : decode cX2_mergeSort_2 69 = .ok (.iload_n 1, 1) := dk_27 (dk_at dksX2_mergeSort_2_2 21 rfl rfl)
theorem dX2_mergeSort_2_70 : decode cX2_mergeSort_2 70 = .ok (.iload 4, 2) := dk_21 4 (dk_at dksX2_mergeSort_2_2 22 rfl rfl)
theorem dX2_mergeSort_2_72 : decode cX2_mergeSort_2 72 = .ok (.invokestatic 45, 3) := dk_184 0 45 (dk_at dksX2_mergeSort_2_3 0 rfl rfl)
theorem dX2_mergeSort_2_75 : decode cX2_mergeSort_2 75 = .ok (.return_, 1) := dk_177 (dk_at dksX2_mergeSort_2_3 3 rfl rfl)
theorem dX2_mergeSort_2_76 : decode cX2_mergeSort_2 76 = .ok (.iload_n 1, 1) := dk_27 (dk_at dksX2_mergeSort_2_3 4 rfl rfl)
theorem dX2_mergeSort_2_77 : decode cX2_mergeSort_2 77 = .ok (.istore 6, 2) := dk_54 6 (dk_at dksX2_mergeSort_2_3 5 rfl rfl)
theorem dX2_mergeSort_2_79 : decode cX2_mergeSort_2 79 = .ok (.iload_n 1, 1) := dk_27 (dk_at dksX2_mergeSort_2_3 7 rfl rfl)
theorem dX2_mergeSort_2_80 : decode cX2_mergeSort_2 80 = .ok (.istore 7, 2) := dk_54 7 (dk_at dksX2_mergeSort_2_3 8 rfl rfl)
theorem dX2_mergeSort_2_82 : decode cX2_mergeSort_2 82 = .ok (.iload 5, 2) := dk_21 5 (dk_at dksX2_mergeSort_2_3 10 rfl rfl)
theorem dX2_mergeSort_2_84 : decode cX2_mergeSort_2 84 = .ok (.istore 8, 2) := dk_54 8 (dk_at dksX2_mergeSort_2_3 12 rfl rfl)
theorem dX2_mergeSort_2_86 : decode cX2_mergeSort_2 86 = .ok (.iload 6, 2) := dk_21 6 (dk_at dksX2_mergeSort_2_3 14 rfl rfl)
theorem dX2_mergeSort_2_88 : decode cX2_mergeSort_2 88 = .ok (.iload_n 2, 1) := dk_28 (dk_at dksX2_mergeSort_2_3 16 rfl rfl)
theorem dX2_mergeSort_2_89 : decode cX2_mergeSort_2 89 = .ok (.if_icmp .ge 59, 3) := dk_162 0 59 (dk_at dksX2_mergeSort_2_3 17 rfl rfl)
theorem dX2_mergeSort_2_92 : decode cX2_mergeSort_2 92 = .ok (.iload 8, 2) := dk_21 8 (dk_at dksX2_mergeSort_2_3 20 rfl rfl)
theorem dX2_mergeSort_2_94 : decode cX2_mergeSort_2 94 = .ok (.iload_n 2, 1) := dk_28 (dk_at dksX2_mergeSort_2_3 22 rfl rfl)
theorem dX2_mergeSort_2_95 : decode cX2_mergeSort_2 95 = .ok (.if_icmp .ge 22, 3) := dk_162 0 22 (dk_at dksX2_mergeSort_2_4 0 rfl rfl)
theorem dX2_mergeSort_2_98 : decode cX2_mergeSort_2 98 = .ok (.iload 7, 2) := dk_21 7 (dk_at dksX2_mergeSort_2_4 3 rfl rfl)
theorem dX2_mergeSort_2_100 : decode cX2_mergeSort_2 100 = .ok (.iload 5, 2) := dk_21 5 (dk_at dksX2_mergeSort_2_4 5 rfl rfl)
theorem dX2_mergeSort_2_102 : decode cX2_mergeSort_2 102 = .ok (.if_icmp .ge 29, 3) := dk_162 0 29 (dk_at dksX2_mergeSort_2_4 7 rfl rfl)
theorem dX2_mergeSort_2_105 : decode cX2_mergeSort_2 105 = .ok (.aload_n 3, 1) := dk_45 (dk_at dksX2_mergeSort_2_4 10 rfl rfl)
theorem dX2_mergeSort_2_106 : decode cX2_mergeSort_2 106 = .ok (.iload 7, 2) := dk_21 7 (dk_at dksX2_mergeSort_2_4 11 rfl rfl)
theorem dX2_mergeSort_2_108 : decode cX2_mergeSort_2 108 = .ok (.laload, 1) := dk_47 (dk_at dksX2_mergeSort_2_4 13 rfl rfl)
theorem dX2_mergeSort_2_109 : decode cX2_mergeSort_2 109 = .ok (.aload_n 3, 1) := dk_45 (dk_at dksX2_mergeSort_2_4 14 rfl rfl)
theorem dX2_mergeSort_2_110 : decode cX2_mergeSort_2 110 = .ok (.iload 8, 2) := dk_21 8 (dk_at dksX2_mergeSort_2_4 15 rfl rfl)
theorem dX2_mergeSort_2_112 : decode cX2_mergeSort_2 112 = .ok (.laload, 1) := dk_47 (dk_at dksX2_mergeSort_2_4 17 rfl rfl)
theorem dX2_mergeSort_2_113 : decode cX2_mergeSort_2 113 = .ok (.lcmp, 1) := dk_148 (dk_at dksX2_mergeSort_2_4 18 rfl rfl)
theorem dX2_mergeSort_2_114 : decode cX2_mergeSort_2 114 = .ok (.ifCond .gt 17, 3) := dk_157 0 17 (dk_at dksX2_mergeSort_2_4 19 rfl rfl)
theorem dX2_mergeSort_2_117 : decode cX2_mergeSort_2 117 = .ok (.aload_n 0, 1) := dk_42 (dk_at dksX2_mergeSort_2_4 22 rfl rfl)
theorem dX2_mergeSort_2_118 : decode cX2_mergeSort_2 118 = .ok (.iload 6, 2) := dk_21 6 (dk_at dksX2_mergeSort_2_5 0 rfl rfl)
theorem dX2_mergeSort_2_120 : decode cX2_mergeSort_2 120 = .ok (.aload_n 3, 1) := dk_45 (dk_at dksX2_mergeSort_2_5 2 rfl rfl)
theorem dX2_mergeSort_2_121 : decode cX2_mergeSort_2 121 = .ok (.iload 7, 2) := dk_21 7 (dk_at dksX2_mergeSort_2_5 3 rfl rfl)
theorem dX2_mergeSort_2_123 : decode cX2_mergeSort_2 123 = .ok (.iinc 7 1, 3) := dk_132 7 1 (dk_at dksX2_mergeSort_2_5 5 rfl rfl)
theorem dX2_mergeSort_2_126 : decode cX2_mergeSort_2 126 = .ok (.laload, 1) := dk_47 (dk_at dksX2_mergeSort_2_5 8 rfl rfl)
theorem dX2_mergeSort_2_127 : decode cX2_mergeSort_2 127 = .ok (.lastore, 1) := dk_80 (dk_at dksX2_mergeSort_2_5 9 rfl rfl)
theorem dX2_mergeSort_2_128 : decode cX2_mergeSort_2 128 = .ok (.goto 14, 3) := dk_167 0 14 (dk_at dksX2_mergeSort_2_5 10 rfl rfl)
theorem dX2_mergeSort_2_131 : decode cX2_mergeSort_2 131 = .ok (.aload_n 0, 1) := dk_42 (dk_at dksX2_mergeSort_2_5 13 rfl rfl)
theorem dX2_mergeSort_2_132 : decode cX2_mergeSort_2 132 = .ok (.iload 6, 2) := dk_21 6 (dk_at dksX2_mergeSort_2_5 14 rfl rfl)
theorem dX2_mergeSort_2_134 : decode cX2_mergeSort_2 134 = .ok (.aload_n 3, 1) := dk_45 (dk_at dksX2_mergeSort_2_5 16 rfl rfl)
theorem dX2_mergeSort_2_135 : decode cX2_mergeSort_2 135 = .ok (.iload 8, 2) := dk_21 8 (dk_at dksX2_mergeSort_2_5 17 rfl rfl)
theorem dX2_mergeSort_2_137 : decode cX2_mergeSort_2 137 = .ok (.iinc 8 1, 3) := dk_132 8 1 (dk_at dksX2_mergeSort_2_5 19 rfl rfl)
theorem dX2_mergeSort_2_140 : decode cX2_mergeSort_2 140 = .ok (.laload, 1) := dk_47 (dk_at dksX2_mergeSort_2_5 22 rfl rfl)
theorem dX2_mergeSort_2_141 : decode cX2_mergeSort_2 141 = .ok (.lastore, 1) := dk_80 (dk_at dksX2_mergeSort_2_5 23 rfl rfl)
theorem dX2_mergeSort_2_142 : decode cX2_mergeSort_2 142 = .ok (.iinc 6 1, 3) := dk_132 6 1 (dk_at dksX2_mergeSort_2_6 0 rfl rfl)
theorem dX2_mergeSort_2_145 : decode cX2_mergeSort_2 145 = .ok (.goto (-59), 3) := dk_167 255 197 (dk_at dksX2_mergeSort_2_6 3 rfl rfl)
theorem dX2_mergeSort_2_148 : decode cX2_mergeSort_2 148 = .ok (.return_, 1) := dk_177 (dk_at dksX2_mergeSort_2_6 6 rfl rfl)
abbrev cX2_insertionSort : ByteArray := prog_1_method_5_code
def yX2_insertionSort : MethodName := ⟨RX2, "insertionSort", "([JII)V"⟩
def dkwX2_insertionSort_3 : List UInt8 := [22, 4, 80, 167, 255, 184, 177]
abbrev dktX2_insertionSort_3 : List UInt8 := dkwX2_insertionSort_3 ++ []
def dkwX2_insertionSort_2 : List UInt8 := [132, 6, 255, 167, 0, 17, 42, 132, 6, 255, 21, 6, 4, 100, 47, 55, 7, 167, 255, 217, 42, 21, 6]
abbrev dktX2_insertionSort_2 : List UInt8 := dkwX2_insertionSort_2 ++ dktX2_insertionSort_3
def dkwX2_insertionSort_1 : List UInt8 := [55, 7, 22, 4, 22, 7, 148, 156, 0, 37, 42, 21, 6, 22, 7, 80, 27, 21, 6, 4, 100, 160, 0, 9]
abbrev dktX2_insertionSort_1 : List UInt8 := dkwX2_insertionSort_1 ++ dktX2_insertionSort_2
def dkwX2_insertionSort_0 : List UInt8 := [27, 62, 132, 3, 1, 29, 28, 162, 0, 70, 42, 29, 47, 55, 4, 29, 54, 6, 42, 21, 6, 4, 100, 47]
abbrev dktX2_insertionSort_0 : List UInt8 := dkwX2_insertionSort_0 ++ dktX2_insertionSort_1
theorem dksX2_insertionSort_0 : cX2_insertionSort.data.toList.drop 0 = dktX2_insertionSort_0 := by decide +kernel
theorem dksX2_insertionSort_1 : cX2_insertionSort.data.toList.drop 24 = dktX2_insertionSort_1 := dk_seg dksX2_insertionSort_0 24 rfl rfl
theorem dksX2_insertionSort_2 : cX2_insertionSort.data.toList.drop 48 = dktX2_insertionSort_2 := dk_seg dksX2_insertionSort_1 24 rfl rfl
theorem dksX2_insertionSort_3 : cX2_insertionSort.data.toList.drop 71 = dktX2_insertionSort_3 := dk_seg dksX2_insertionSort_2 23 rfl rfl
theorem dX2_insertionSort_0 : decode cX2_insertionSort 0 = .ok (.iload_n 1, 1) := dk_27 (dk_at dksX2_insertionSort_0 0 rfl rfl)
theorem dX2_insertionSort_1 : decode cX2_insertionSort 1 = .ok (.istore_n 3, 1) := dk_62 (dk_at dksX2_insertionSort_0 1 rfl rfl)
theorem dX2_insertionSort_2 : decode cX2_insertionSort 2 = .ok (.iinc 3 1, 3) := dk_132 3 1 (dk_at dksX2_insertionSort_0 2 rfl rfl)
theorem dX2_insertionSort_5 : decode cX2_insertionSort 5 = .ok (.iload_n 3, 1) := dk_29 (dk_at dksX2_insertionSort_0 5 rfl rfl)
theorem dX2_insertionSort_6 : decode cX2_insertionSort 6 = .ok (.iload_n 2, 1) := dk_28 (dk_at dksX2_insertionSort_0 6 rfl rfl)
theorem dX2_insertionSort_7 : decode cX2_insertionSort 7 = .ok (.if_icmp .ge 70, 3) := dk_162 0 70 (dk_at dksX2_insertionSort_0 7 rfl rfl)
theorem dX2_insertionSort_10 : decode cX2_insertionSort 10 = .ok (.aload_n 0, 1) := dk_42 (dk_at dksX2_insertionSort_0 10 rfl rfl)
theorem dX2_insertionSort_11 : decode cX2_insertionSort 11 = .ok (.iload_n 3, 1) := dk_29 (dk_at dksX2_insertionSort_0 11 rfl rfl)
theorem dX2_insertionSort_12 : decode cX2_insertionSort 12 = .ok (.laload, 1) := dk_47 (dk_at dksX2_insertionSort_0 12 rfl rfl)
theorem dX2_insertionSort_13 : decode cX2_insertionSort 13 = .ok (.lstore 4, 2) := dk_55 4 (dk_at dksX2_insertionSort_0 13 rfl rfl)
theorem dX2_insertionSort_15 : decode cX2_insertionSort 15 = .ok (.iload_n 3, 1) := dk_29 (dk_at dksX2_insertionSort_0 15 rfl rfl)
theorem dX2_insertionSort_16 : decode cX2_insertionSort 16 = .ok (.istore 6, 2) := dk_54 6 (dk_at dksX2_insertionSort_0 16 rfl rfl)
theorem dX2_insertionSort_18 : decode cX2_insertionSort 18 = .ok (.aload_n 0, 1) := dk_42 (dk_at dksX2_insertionSort_0 18 rfl rfl)
theorem dX2_insertionSort_19 : decode cX2_insertionSort 19 = .ok (.iload 6, 2) := dk_21 6 (dk_at dksX2_insertionSort_0 19 rfl rfl)
theorem dX2_insertionSort_21 : decode cX2_insertionSort 21 = .ok (.iconst 1, 1) := dk_4 (dk_at dksX2_insertionSort_0 21 rfl rfl)
theorem dX2_insertionSort_22 : decode cX2_insertionSort 22 = .ok (.isub, 1) := dk_100 (dk_at dksX2_insertionSort_0 22 rfl rfl)
theorem dX2_insertionSort_23 : decode cX2_insertionSort 23 = .ok (.laload, 1) := dk_47 (dk_at dksX2_insertionSort_0 23 rfl rfl)
theorem dX2_insertionSort_24 : decode cX2_insertionSort 24 = .ok (.lstore 7, 2) := dk_55 7 (dk_at dksX2_insertionSort_1 0 rfl rfl)
theorem dX2_insertionSort_26 : decode cX2_insertionSort 26 = .ok (.lload 4, 2) := dk_22 4 (dk_at dksX2_insertionSort_1 2 rfl rfl)
theorem dX2_insertionSort_28 : decode cX2_insertionSort 28 = .ok (.lload 7, 2) := dk_22 7 (dk_at dksX2_insertionSort_1 4 rfl rfl)
theorem dX2_insertionSort_30 : decode cX2_insertionSort 30 = .ok (.lcmp, 1) := dk_148 (dk_at dksX2_insertionSort_1 6 rfl rfl)
theorem dX2_insertionSort_31 : decode cX2_insertionSort 31 = .ok (.ifCond .ge 37, 3) := dk_156 0 37 (dk_at dksX2_insertionSort_1 7 rfl rfl)
theorem dX2_insertionSort_34 : decode cX2_insertionSort 34 = .ok (.aload_n 0, 1) := dk_42 (dk_at dksX2_insertionSort_1 10 rfl rfl)
theorem dX2_insertionSort_35 : decode cX2_insertionSort 35 = .ok (.iload 6, 2) := dk_21 6 (dk_at dksX2_insertionSort_1 11 rfl rfl)
theorem dX2_insertionSort_37 : decode cX2_insertionSort 37 = .ok (.lload 7, 2) := dk_22 7 (dk_at dksX2_insertionSort_1 13 rfl rfl)
theorem dX2_insertionSort_39 : decode cX2_insertionSort 39 = .ok (.lastore, 1) := dk_80 (dk_at dksX2_insertionSort_1 15 rfl rfl)
theorem dX2_insertionSort_40 : decode cX2_insertionSort 40 = .ok (.iload_n 1, 1) := dk_27 (dk_at dksX2_insertionSort_1 16 rfl rfl)
theorem dX2_insertionSort_41 : decode cX2_insertionSort 41 = .ok (.iload 6, 2) := dk_21 6 (dk_at dksX2_insertionSort_1 17 rfl rfl)
theorem dX2_insertionSort_43 : decode cX2_insertionSort 43 = .ok (.iconst 1, 1) := dk_4 (dk_at dksX2_insertionSort_1 19 rfl rfl)
theorem dX2_insertionSort_44 : decode cX2_insertionSort 44 = .ok (.isub, 1) := dk_100 (dk_at dksX2_insertionSort_1 20 rfl rfl)
theorem dX2_insertionSort_45 : decode cX2_insertionSort 45 = .ok (.if_icmp .ne 9, 3) := dk_160 0 9 (dk_at dksX2_insertionSort_1 21 rfl rfl)
theorem dX2_insertionSort_48 : decode cX2_insertionSort 48 = .ok (.iinc 6 (-1), 3) := dk_132 6 255 (dk_at dksX2_insertionSort_2 0 rfl rfl)
theorem dX2_insertionSort_51 : decode cX2_insertionSort 51 = .ok (.goto 17, 3) := dk_167 0 17 (dk_at dksX2_insertionSort_2 3 rfl rfl)
theorem dX2_insertionSort_54 : decode cX2_insertionSort 54 = .ok (.aload_n 0, 1) := dk_42 (dk_at dksX2_insertionSort_2 6 rfl rfl)
theorem dX2_insertionSort_55 : decode cX2_insertionSort 55 = .ok (.iinc 6 (-1), 3) := dk_132 6 255 (dk_at dksX2_insertionSort_2 7 rfl rfl)
theorem dX2_insertionSort_58 : decode cX2_insertionSort 58 = .ok (.iload 6, 2) := dk_21 6 (dk_at dksX2_insertionSort_2 10 rfl rfl)
theorem dX2_insertionSort_60 : decode cX2_insertionSort 60 = .ok (.iconst 1, 1) := dk_4 (dk_at dksX2_insertionSort_2 12 rfl rfl)
theorem dX2_insertionSort_61 : decode cX2_insertionSort 61 = .ok (.isub, 1) := dk_100 (dk_at dksX2_insertionSort_2 13 rfl rfl)
theorem dX2_insertionSort_62 : decode cX2_insertionSort 62 = .ok (.laload, 1) := dk_47 (dk_at dksX2_insertionSort_2 14 rfl rfl)
theorem dX2_insertionSort_63 : decode cX2_insertionSort 63 = .ok (.lstore 7, 2) := dk_55 7 (dk_at dksX2_insertionSort_2 15 rfl rfl)
theorem dX2_insertionSort_65 : decode cX2_insertionSort 65 = .ok (.goto (-39), 3) := dk_167 255 217 (dk_at dksX2_insertionSort_2 17 rfl rfl)
theorem dX2_insertionSort_68 : decode cX2_insertionSort 68 = .ok (.aload_n 0, 1) := dk_42 (dk_at dksX2_insertionSort_2 20 rfl rfl)
theorem dX2_insertionSort_69 : decode cX2_insertionSort 69 = .ok (.iload 6, 2) := dk_21 6 (dk_at dksX2_insertionSort_2 21 rfl rfl)
theorem dX2_insertionSort_71 : decode cX2_insertionSort 71 = .ok (.lload 4, 2) := dk_22 4 (dk_at dksX2_insertionSort_3 0 rfl rfl)
theorem dX2_insertionSort_73 : decode cX2_insertionSort 73 = .ok (.lastore, 1) := dk_80 (dk_at dksX2_insertionSort_3 2 rfl rfl)
theorem dX2_insertionSort_74 : decode cX2_insertionSort 74 = .ok (.goto (-72), 3) := dk_167 255 184 (dk_at dksX2_insertionSort_3 3 rfl rfl)
theorem dX2_insertionSort_77 : decode cX2_insertionSort 77 = .ok (.return_, 1) := dk_177 (dk_at dksX2_insertionSort_3 6 rfl rfl)
abbrev cX2_radixSort : ByteArray := prog_1_method_10_code
def yX2_radixSort : MethodName := ⟨RX2, "radixSort", "([JII)V"⟩
def dkwX2_radixSort_18 : List UInt8 := [167, 254, 158, 177]
abbrev dktX2_radixSort_18 : List UInt8 := dkwX2_radixSort_18 ++ []
def dkwX2_radixSort_17 : List UInt8 := [21, 11, 4, 96, 79, 21, 16, 25, 7, 21, 17, 46, 96, 54, 16, 25, 7, 21, 17, 3, 79, 167, 255, 75]
abbrev dktX2_radixSort_17 : List UInt8 := dkwX2_radixSort_17 ++ dktX2_radixSort_18
def dkwX2_radixSort_16 : List UInt8 := [167, 0, 29, 25, 4, 29, 21, 16, 79, 25, 5, 29, 25, 7, 21, 17, 46, 79, 25, 6, 29, 132, 3, 1]
abbrev dktX2_radixSort_16 : List UInt8 := dkwX2_radixSort_16 ++ dktX2_radixSort_17
def dkwX2_radixSort_15 : List UInt8 := [21, 17, 46, 17, 4, 0, 162, 0, 20, 42, 21, 16, 21, 16, 25, 7, 21, 17, 46, 96, 184, 0, 29]
abbrev dktX2_radixSort_15 : List UInt8 := dkwX2_radixSort_15 ++ dktX2_radixSort_16
def dkwX2_radixSort_14 : List UInt8 := [42, 21, 16, 22, 19, 80, 21, 11, 16, 7, 162, 0, 66, 25, 7, 21, 17, 46, 4, 164, 0, 57, 25, 7]
abbrev dktX2_radixSort_14 : List UInt8 := dkwX2_radixSort_14 ++ dktX2_radixSort_15
def dkwX2_radixSort_13 : List UInt8 := [21, 18, 22, 21, 80, 22, 19, 21, 13, 125, 20, 0, 53, 127, 21, 12, 133, 131, 136, 54, 17, 167, 255, 206]
abbrev dktX2_radixSort_13 : List UInt8 := dkwX2_radixSort_13 ++ dktX2_radixSort_14
def dkwX2_radixSort_12 : List UInt8 := [46, 4, 100, 91, 79, 89, 54, 18, 21, 16, 164, 0, 38, 22, 19, 55, 21, 42, 21, 18, 47, 55, 19, 42]
abbrev dktX2_radixSort_12 : List UInt8 := dkwX2_radixSort_12 ++ dktX2_radixSort_13
def dkwX2_radixSort_11 : List UInt8 := [125, 20, 0, 53, 127, 21, 12, 133, 131, 136, 54, 17, 21, 16, 21, 15, 162, 0, 62, 25, 8, 21, 17, 92]
abbrev dktX2_radixSort_11 : List UInt8 := dkwX2_radixSort_11 ++ dktX2_radixSort_12
def dkwX2_radixSort_10 : List UInt8 := [21, 9, 54, 16, 2, 54, 17, 21, 16, 21, 15, 163, 0, 180, 42, 21, 16, 47, 55, 19, 22, 19, 21, 13]
abbrev dktX2_radixSort_10 : List UInt8 := dkwX2_radixSort_10 ++ dktX2_radixSort_11
def dkwX2_radixSort_9 : List UInt8 := [89, 54, 16, 79, 132, 15, 1, 167, 255, 217, 21, 9, 21, 10, 96, 25, 7, 21, 14, 46, 100, 54, 15]
abbrev dktX2_radixSort_9 : List UInt8 := dkwX2_radixSort_9 ++ dktX2_radixSort_10
def dkwX2_radixSort_8 : List UInt8 := [25, 7, 21, 15, 46, 153, 0, 7, 21, 15, 54, 14, 25, 8, 21, 15, 21, 16, 25, 7, 21, 15, 46, 96]
abbrev dktX2_radixSort_8 : List UInt8 := dkwX2_radixSort_8 ++ dktX2_radixSort_9
def dkwX2_radixSort_7 : List UInt8 := [96, 79, 167, 255, 223, 2, 54, 14, 3, 54, 15, 21, 9, 54, 16, 21, 15, 17, 1, 0, 162, 0, 37]
abbrev dktX2_radixSort_7 : List UInt8 := dkwX2_radixSort_7 ++ dktX2_radixSort_8
def dkwX2_radixSort_6 : List UInt8 := [159, 0, 29, 25, 7, 42, 21, 14, 47, 21, 13, 125, 20, 0, 53, 127, 21, 12, 133, 131, 136, 92, 46, 4]
abbrev dktX2_radixSort_6 : List UInt8 := dkwX2_radixSort_6 ++ dktX2_radixSort_7
def dkwX2_radixSort_5 : List UInt8 := [16, 8, 112, 100, 16, 8, 104, 54, 13, 21, 9, 21, 10, 96, 54, 14, 21, 14, 132, 14, 255, 21, 9]
abbrev dktX2_radixSort_5 : List UInt8 := dkwX2_radixSort_5 ++ dktX2_radixSort_6
def dkwX2_radixSort_4 : List UInt8 := [46, 54, 11, 21, 11, 16, 8, 112, 154, 0, 9, 17, 0, 128, 167, 0, 4, 3, 54, 12, 16, 7, 21, 11]
abbrev dktX2_radixSort_4 : List UInt8 := dkwX2_radixSort_4 ++ dktX2_radixSort_5
def dkwX2_radixSort_3 : List UInt8 := [58, 8, 29, 158, 1, 100, 25, 4, 132, 3, 255, 29, 46, 54, 9, 25, 5, 29, 46, 54, 10, 25, 6, 29]
abbrev dktX2_radixSort_3 : List UInt8 := dkwX2_radixSort_3 ++ dktX2_radixSort_4
def dkwX2_radixSort_2 : List UInt8 := [28, 27, 100, 79, 25, 6, 29, 132, 3, 1, 3, 79, 17, 1, 0, 188, 10, 58, 7, 17, 1, 0, 188, 10]
abbrev dktX2_radixSort_2 : List UInt8 := dkwX2_radixSort_2 ++ dktX2_radixSort_3
def dkwX2_radixSort_1 : List UInt8 := [58, 4, 17, 6, 250, 188, 10, 58, 5, 17, 6, 250, 188, 10, 58, 6, 25, 4, 29, 27, 79, 25, 5, 29]
abbrev dktX2_radixSort_1 : List UInt8 := dkwX2_radixSort_1 ++ dktX2_radixSort_2
def dkwX2_radixSort_0 : List UInt8 := [28, 27, 100, 17, 4, 0, 162, 0, 10, 42, 27, 28, 184, 0, 29, 177, 3, 62, 17, 6, 250, 188, 10]
abbrev dktX2_radixSort_0 : List UInt8 := dkwX2_radixSort_0 ++ dktX2_radixSort_1
theorem dksX2_radixSort_0 : cX2_radixSort.data.toList.drop 0 = dktX2_radixSort_0 := by decide +kernel
theorem dksX2_radixSort_1 : cX2_radixSort.data.toList.drop 23 = dktX2_radixSort_1 := dk_seg dksX2_radixSort_0 23 rfl rfl
theorem dksX2_radixSort_2 : cX2_radixSort.data.toList.drop 47 = dktX2_radixSort_2 := dk_seg dksX2_radixSort_1 24 rfl rfl
theorem dksX2_radixSort_3 : cX2_radixSort.data.toList.drop 71 = dktX2_radixSort_3 := dk_seg dksX2_radixSort_2 24 rfl rfl
theorem dksX2_radixSort_4 : cX2_radixSort.data.toList.drop 95 = dktX2_radixSort_4 := dk_seg dksX2_radixSort_3 24 rfl rfl
theorem dksX2_radixSort_5 : cX2_radixSort.data.toList.drop 119 = dktX2_radixSort_5 := dk_seg dksX2_radixSort_4 24 rfl rfl
theorem dksX2_radixSort_6 : cX2_radixSort.data.toList.drop 142 = dktX2_radixSort_6 := dk_seg dksX2_radixSort_5 23 rfl rfl
theorem dksX2_radixSort_7 : cX2_radixSort.data.toList.drop 166 = dktX2_radixSort_7 := dk_seg dksX2_radixSort_6 24 rfl rfl
theorem dksX2_radixSort_8 : cX2_radixSort.data.toList.drop 189 = dktX2_radixSort_8 := dk_seg dksX2_radixSort_7 23 rfl rfl
theorem dksX2_radixSort_9 : cX2_radixSort.data.toList.drop 213 = dktX2_radixSort_9 := dk_seg dksX2_radixSort_8 24 rfl rfl
theorem dksX2_radixSort_10 : cX2_radixSort.data.toList.drop 236 = dktX2_radixSort_10 := dk_seg dksX2_radixSort_9 23 rfl rfl
theorem dksX2_radixSort_11 : cX2_radixSort.data.toList.drop 260 = dktX2_radixSort_11 := dk_seg dksX2_radixSort_10 24 rfl rfl
theorem dksX2_radixSort_12 : cX2_radixSort.data.toList.drop 284 = dktX2_radixSort_12 := dk_seg dksX2_radixSort_11 24 rfl rfl
theorem dksX2_radixSort_13 : cX2_radixSort.data.toList.drop 308 = dktX2_radixSort_13 := dk_seg dksX2_radixSort_12 24 rfl rfl
theorem dksX2_radixSort_14 : cX2_radixSort.data.toList.drop 332 = dktX2_radixSort_14 := dk_seg dksX2_radixSort_13 24 rfl rfl
theorem dksX2_radixSort_15 : cX2_radixSort.data.toList.drop 356 = dktX2_radixSort_15 := dk_seg dksX2_radixSort_14 24 rfl rfl
theorem dksX2_radixSort_16 : cX2_radixSort.data.toList.drop 379 = dktX2_radixSort_16 := dk_seg dksX2_radixSort_15 23 rfl rfl
theorem dksX2_radixSort_17 : cX2_radixSort.data.toList.drop 403 = dktX2_radixSort_17 := dk_seg dksX2_radixSort_16 24 rfl rfl
theorem dksX2_radixSort_18 : cX2_radixSort.data.toList.drop 427 = dktX2_radixSort_18 := dk_seg dksX2_radixSort_17 24 rfl rfl
theorem dX2_radixSort_0 : decode cX2_radixSort 0 = .ok (.iload_n 2, 1) := dk_28 (dk_at dksX2_radixSort_0 0 rfl rfl)
theorem dX2_radixSort_1 : decode cX2_radixSort 1 = .ok (.iload_n 1, 1) := dk_27 (dk_at dksX2_radixSort_0 1 rfl rfl)
theorem dX2_radixSort_2 : decode cX2_radixSort 2 = .ok (.isub, 1) := dk_100 (dk_at dksX2_radixSort_0 2 rfl rfl)
theorem dX2_radixSort_3 : decode cX2_radixSort 3 = .ok (.sipush 1024, 3) := dk_17 4 0 (dk_at dksX2_radixSort_0 3 rfl rfl)
theorem dX2_radixSort_6 : decode cX2_radixSort 6 = .ok (.if_icmp .ge 10, 3) := dk_162 0 10 (dk_at dksX2_radixSort_0 6 rfl rfl)
theorem dX2_radixSort_9 : decode cX2_radixSort 9 = .ok (.aload_n 0, 1) := dk_42 (dk_at dksX2_radixSort_0 9 rfl rfl)
theorem dX2_radixSort_10 : decode cX2_radixSort 10 = .ok (.iload_n 1, 1) := dk_27 (dk_at dksX2_radixSort_0 10 rfl rfl)
theorem dX2_radixSort_11 : decode cX2_radixSort 11 = .ok (.iload_n 2, 1) := dk_28 (dk_at dksX2_radixSort_0 11 rfl rfl)
theorem dX2_radixSort_12 : decode cX2_radixSort 12 = .ok (.invokestatic 29, 3) := dk_184 0 29 (dk_at dksX2_radixSort_0 12 rfl rfl)
theorem dX2_radixSort_15 : decode cX2_radixSort 15 = .ok (.return_, 1) := dk_177 (dk_at dksX2_radixSort_0 15 rfl rfl)
theorem dX2_radixSort_16 : decode cX2_radixSort 16 = .ok (.iconst 0, 1) := dk_3 (dk_at dksX2_radixSort_0 16 rfl rfl)
theorem dX2_radixSort_17 : decode cX2_radixSort 17 = .ok (.istore_n 3, 1) := dk_62 (dk_at dksX2_radixSort_0 17 rfl rfl)
theorem dX2_radixSort_18 : decode cX2_radixSort 18 = .ok (.sipush 1786, 3) := dk_17 6 250 (dk_at dksX2_radixSort_0 18 rfl rfl)
theorem dX2_radixSort_21 : decode cX2_radixSort 21 = .ok (.newarray .int, 2) := dk_188_10 (dk_at dksX2_radixSort_0 21 rfl rfl)
theorem dX2_radixSort_23 : decode cX2_radixSort 23 = .ok (.astore 4, 2) := dk_58 4 (dk_at dksX2_radixSort_1 0 rfl rfl)
theorem dX2_radixSort_25 : decode cX2_radixSort 25 = .ok (.sipush 1786, 3) := dk_17 6 250 (dk_at dksX2_radixSort_1 2 rfl rfl)
theorem dX2_radixSort_28 : decode cX2_radixSort 28 = .ok (.newarray .int, 2) := dk_188_10 (dk_at dksX2_radixSort_1 5 rfl rfl)
theorem dX2_radixSort_30 : decode cX2_radixSort 30 = .ok (.astore 5, 2) := dk_58 5 (dk_at dksX2_radixSort_1 7 rfl rfl)
theorem dX2_radixSort_32 : decode cX2_radixSort 32 = .ok (.sipush 1786, 3) := dk_17 6 250 (dk_at dksX2_radixSort_1 9 rfl rfl)
theorem dX2_radixSort_35 : decode cX2_radixSort 35 = .ok (.newarray .int, 2) := dk_188_10 (dk_at dksX2_radixSort_1 12 rfl rfl)
theorem dX2_radixSort_37 : decode cX2_radixSort 37 = .ok (.astore 6, 2) := dk_58 6 (dk_at dksX2_radixSort_1 14 rfl rfl)
theorem dX2_radixSort_39 : decode cX2_radixSort 39 = .ok (.aload 4, 2) := dk_25 4 (dk_at dksX2_radixSort_1 16 rfl rfl)
theorem dX2_radixSort_41 : decode cX2_radixSort 41 = .ok (.iload_n 3, 1) := dk_29 (dk_at dksX2_radixSort_1 18 rfl rfl)
theorem dX2_radixSort_42 : decode cX2_radixSort 42 = .ok (.iload_n 1, 1) := dk_27 (dk_at dksX2_radixSort_1 19 rfl rfl)
theorem dX2_radixSort_43 : decode cX2_radixSort 43 = .ok (.iastore, 1) := dk_79 (dk_at dksX2_radixSort_1 20 rfl rfl)
theorem dX2_radixSort_44 : decode cX2_radixSort 44 = .ok (.aload 5, 2) := dk_25 5 (dk_at dksX2_radixSort_1 21 rfl rfl)
theorem dX2_radixSort_46 : decode cX2_radixSort 46 = .ok (.iload_n 3, 1) := dk_29 (dk_at dksX2_radixSort_1 23 rfl rfl)
theorem dX2_radixSort_47 : decode cX2_radixSort 47 = .ok (.iload_n 2, 1) := dk_28 (dk_at dksX2_radixSort_2 0 rfl rfl)
theorem dX2_radixSort_48 : decode cX2_radixSort 48 = .ok (.iload_n 1, 1) := dk_27 (dk_at dksX2_radixSort_2 1 rfl rfl)
theorem dX2_radixSort_49 : decode cX2_radixSort 49 = .ok (.isub, 1) := dk_100 (dk_at dksX2_radixSort_2 2 rfl rfl)
theorem dX2_radixSort_50 : decode cX2_radixSort 50 = .ok (.iastore, 1) := dk_79 (dk_at dksX2_radixSort_2 3 rfl rfl)
theorem dX2_radixSort_51 : decode cX2_radixSort 51 = .ok (.aload 6, 2) := dk_25 6 (dk_at dksX2_radixSort_2 4 rfl rfl)
theorem dX2_radixSort_53 : decode cX2_radixSort 53 = .ok (.iload_n 3, 1) := dk_29 (dk_at dksX2_radixSort_2 6 rfl rfl)
theorem dX2_radixSort_54 : decode cX2_radixSort 54 = .ok (.iinc 3 1, 3) := dk_132 3 1 (dk_at dksX2_radixSort_2 7 rfl rfl)
theorem dX2_radixSort_57 : decode cX2_radixSort 57 = .ok (.iconst 0, 1) := dk_3 (dk_at dksX2_radixSort_2 10 rfl rfl)
theorem dX2_radixSort_58 : decode cX2_radixSort 58 = .ok (.iastore, 1) := dk_79 (dk_at dksX2_radixSort_2 11 rfl rfl)
theorem dX2_radixSort_59 : decode cX2_radixSort 59 = .ok (.sipush 256, 3) := dk_17 1 0 (dk_at dksX2_radixSort_2 12 rfl rfl)
theorem dX2_radixSort_62 : decode cX2_radixSort 62 = .ok (.newarray .int, 2) := dk_188_10 (dk_at dksX2_radixSort_2 15 rfl rfl)
theorem dX2_radixSort_64 : decode cX2_radixSort 64 = .ok (.astore 7, 2) := dk_58 7 (dk_at dksX2_radixSort_2 17 rfl rfl)
theorem dX2_radixSort_66 : decode cX2_radixSort 66 = .ok (.sipush 256, 3) := dk_17 1 0 (dk_at dksX2_radixSort_2 19 rfl rfl)
theorem dX2_radixSort_69 : decode cX2_radixSort 69 = .ok (.newarray .int, 2) := dk_188_10 (dk_at dksX2_radixSort_2 22 rfl rfl)
theorem dX2_radixSort_71 : decode cX2_radixSort 71 = .ok (.astore 8, 2) := dk_58 8 (dk_at dksX2_radixSort_3 0 rfl rfl)
theorem dX2_radixSort_73 : decode cX2_radixSort 73 = .ok (.iload_n 3, 1) := dk_29 (dk_at dksX2_radixSort_3 2 rfl rfl)
theorem dX2_radixSort_74 : decode cX2_radixSort 74 = .ok (.ifCond .le 356, 3) := dk_158 1 100 (dk_at dksX2_radixSort_3 3 rfl rfl)
theorem dX2_radixSort_77 : decode cX2_radixSort 77 = .ok (.aload 4, 2) := dk_25 4 (dk_at dksX2_radixSort_3 6 rfl rfl)
theorem dX2_radixSort_79 : decode cX2_radixSort 79 = .ok (.iinc 3 (-1), 3) := dk_132 3 255 (dk_at dksX2_radixSort_3 8 rfl rfl)
theorem dX2_radixSort_82 : decode cX2_radixSort 82 = .ok (.iload_n 3, 1) := dk_29 (dk_at dksX2_radixSort_3 11 rfl rfl)
theorem dX2_radixSort_83 : decode cX2_radixSort 83 = .ok (.iaload, 1) := dk_46 (dk_at dksX2_radixSort_3 12 rfl rfl)
theorem dX2_radixSort_84 : decode cX2_radixSort 84 = .ok (.istore 9, 2) := dk_54 9 (dk_at dksX2_radixSort_3 13 rfl rfl)
theorem dX2_radixSort_86 : decode cX2_radixSort 86 = .ok (.aload 5, 2) := dk_25 5 (dk_at dksX2_radixSort_3 15 rfl rfl)
theorem dX2_radixSort_88 : decode cX2_radixSort 88 = .ok (.iload_n 3, 1) := dk_29 (dk_at dksX2_radixSort_3 17 rfl rfl)
theorem dX2_radixSort_89 : decode cX2_radixSort 89 = .ok (.iaload, 1) := dk_46 (dk_at dksX2_radixSort_3 18 rfl rfl)
theorem dX2_radixSort_90 : decode cX2_radixSort 90 = .ok (.istore 10, 2) := dk_54 10 (dk_at dksX2_radixSort_3 19 rfl rfl)
theorem dX2_radixSort_92 : decode cX2_radixSort 92 = .ok (.aload 6, 2) := dk_25 6 (dk_at dksX2_radixSort_3 21 rfl rfl)
theorem dX2_radixSort_94 : decode cX2_radixSort 94 = .ok (.iload_n 3, 1) := dk_29 (dk_at dksX2_radixSort_3 23 rfl rfl)
theorem dX2_radixSort_95 : decode cX2_radixSort 95 = .ok (.iaload, 1) := dk_46 (dk_at dksX2_radixSort_4 0 rfl rfl)
theorem dX2_radixSort_96 : decode cX2_radixSort 96 = .ok (.istore 11, 2) := dk_54 11 (dk_at dksX2_radixSort_4 1 rfl rfl)
theorem dX2_radixSort_98 : decode cX2_radixSort 98 = .ok (.iload 11, 2) := dk_21 11 (dk_at dksX2_radixSort_4 3 rfl rfl)
theorem dX2_radixSort_100 : decode cX2_radixSort 100 = .ok (.bipush 8, 2) := dk_16 8 (dk_at dksX2_radixSort_4 5 rfl rfl)
theorem dX2_radixSort_102 : decode cX2_radixSort 102 = .ok (.irem, 1) := dk_112 (dk_at dksX2_radixSort_4 7 rfl rfl)
theorem dX2_radixSort_103 : decode cX2_radixSort 103 = .ok (.ifCond .ne 9, 3) := dk_154 0 9 (dk_at dksX2_radixSort_4 8 rfl rfl)
theorem dX2_radixSort_106 : decode cX2_radixSort 106 = .ok (.sipush 128, 3) := dk_17 0 128 (dk_at dksX2_radixSort_4 11 rfl rfl)
theorem dX2_radixSort_109 : decode cX2_radixSort 109 = .ok (.goto 4, 3) := dk_167 0 4 (dk_at dksX2_radixSort_4 14 rfl rfl)
theorem dX2_radixSort_112 : decode cX2_radixSort 112 = .ok (.iconst 0, 1) := dk_3 (dk_at dksX2_radixSort_4 17 rfl rfl)
theorem dX2_radixSort_113 : decode cX2_radixSort 113 = .ok (.istore 12, 2) := dk_54 12 (dk_at dksX2_radixSort_4 18 rfl rfl)
theorem dX2_radixSort_115 : decode cX2_radixSort 115 = .ok (.bipush 7, 2) := dk_16 7 (dk_at dksX2_radixSort_4 20 rfl rfl)
theorem dX2_radixSort_117 : decode cX2_radixSort 117 = .ok (.iload 11, 2) := dk_21 11 (dk_at dksX2_radixSort_4 22 rfl rfl)
theorem dX2_radixSort_119 : decode cX2_radixSort 119 = .ok (.bipush 8, 2) := dk_16 8 (dk_at dksX2_radixSort_5 0 rfl rfl)
theorem dX2_radixSort_121 : decode cX2_radixSort 121 = .ok (.irem, 1) := dk_112 (dk_at dksX2_radixSort_5 2 rfl rfl)
theorem dX2_radixSort_122 : decode cX2_radixSort 122 = .ok (.isub, 1) := dk_100 (dk_at dksX2_radixSort_5 3 rfl rfl)
theorem dX2_radixSort_123 : decode cX2_radixSort 123 = .ok (.bipush 8, 2) := dk_16 8 (dk_at dksX2_radixSort_5 4 rfl rfl)
theorem dX2_radixSort_125 : decode cX2_radixSort 125 = .ok (.imul, 1) := dk_104 (dk_at dksX2_radixSort_5 6 rfl rfl)
theorem dX2_radixSort_126 : decode cX2_radixSort 126 = .ok (.istore 13, 2) := dk_54 13 (dk_at dksX2_radixSort_5 7 rfl rfl)
theorem dX2_radixSort_128 : decode cX2_radixSort 128 = .ok (.iload 9, 2) := dk_21 9 (dk_at dksX2_radixSort_5 9 rfl rfl)
theorem dX2_radixSort_130 : decode cX2_radixSort 130 = .ok (.iload 10, 2) := dk_21 10 (dk_at dksX2_radixSort_5 11 rfl rfl)
theorem dX2_radixSort_132 : decode cX2_radixSort 132 = .ok (.iadd, 1) := dk_96 (dk_at dksX2_radixSort_5 13 rfl rfl)
theorem dX2_radixSort_133 : decode cX2_radixSort 133 = .ok (.istore 14, 2) := dk_54 14 (dk_at dksX2_radixSort_5 14 rfl rfl)
theorem dX2_radixSort_135 : decode cX2_radixSort 135 = .ok (.iload 14, 2) := dk_21 14 (dk_at dksX2_radixSort_5 16 rfl rfl)
theorem dX2_radixSort_137 : decode cX2_radixSort 137 = .ok (.iinc 14 (-1), 3) := dk_132 14 255 (dk_at dksX2_radixSort_5 18 rfl rfl)
theorem dX2_radixSort_140 : decode cX2_radixSort 140 = .ok (.iload 9, 2) := dk_21 9 (dk_at dksX2_radixSort_5 21 rfl rfl)
theorem dX2_radixSort_142 : decode cX2_radixSort 142 = .ok (.if_icmp .eq 29, 3) := dk_159 0 29 (dk_at dksX2_radixSort_6 0 rfl rfl)
theorem dX2_radixSort_145 : decode cX2_radixSort 145 = .ok (.aload 7, 2) := dk_25 7 (dk_at dksX2_radixSort_6 3 rfl rfl)
theorem dX2_radixSort_147 : decode cX2_radixSort 147 = .ok (.aload_n 0, 1) := dk_42 (dk_at dksX2_radixSort_6 5 rfl rfl)
theorem dX2_radixSort_148 : decode cX2_radixSort 148 = .ok (.iload 14, 2) := dk_21 14 (dk_at dksX2_radixSort_6 6 rfl rfl)
theorem dX2_radixSort_150 : decode cX2_radixSort 150 = .ok (.laload, 1) := dk_47 (dk_at dksX2_radixSort_6 8 rfl rfl)
theorem dX2_radixSort_151 : decode cX2_radixSort 151 = .ok (.iload 13, 2) := dk_21 13 (dk_at dksX2_radixSort_6 9 rfl rfl)
theorem dX2_radixSort_153 : decode cX2_radixSort 153 = .ok (.lushr, 1) := dk_125 (dk_at dksX2_radixSort_6 11 rfl rfl)
theorem dX2_radixSort_154 : decode cX2_radixSort 154 = .ok (.ldc2_w 53, 3) := dk_20 0 53 (dk_at dksX2_radixSort_6 12 rfl rfl)
theorem dX2_radixSort_157 : decode cX2_radixSort 157 = .ok (.land, 1) := dk_127 (dk_at dksX2_radixSort_6 15 rfl rfl)
theorem dX2_radixSort_158 : decode cX2_radixSort 158 = .ok (.iload 12, 2) := dk_21 12 (dk_at dksX2_radixSort_6 16 rfl rfl)
theorem dX2_radixSort_160 : decode cX2_radixSort 160 = .ok (.i2l, 1) := dk_133 (dk_at dksX2_radixSort_6 18 rfl rfl)
theorem dX2_radixSort_161 : decode cX2_radixSort 161 = .ok (.lxor, 1) := dk_131 (dk_at dksX2_radixSort_6 19 rfl rfl)
theorem dX2_radixSort_162 : decode cX2_radixSort 162 = .ok (.l2i, 1) := dk_136 (dk_at dksX2_radixSort_6 20 rfl rfl)
theorem dX2_radixSort_163 : decode cX2_radixSort 163 = .ok (.dup2, 1) := dk_92 (dk_at dksX2_radixSort_6 21 rfl rfl)
theorem dX2_radixSort_164 : decode cX2_radixSort 164 = .ok (.iaload, 1) := dk_46 (dk_at dksX2_radixSort_6 22 rfl rfl)
theorem dX2_radixSort_165 : decode cX2_radixSort 165 = .ok (.iconst 1, 1) := dk_4 (dk_at dksX2_radixSort_6 23 rfl rfl)
theorem dX2_radixSort_166 : decode cX2_radixSort 166 = .ok (.iadd, 1) := dk_96 (dk_at dksX2_radixSort_7 0 rfl rfl)
theorem dX2_radixSort_167 : decode cX2_radixSort 167 = .ok (.iastore, 1) := dk_79 (dk_at dksX2_radixSort_7 1 rfl rfl)
theorem dX2_radixSort_168 : decode cX2_radixSort 168 = .ok (.goto (-33), 3) := dk_167 255 223 (dk_at dksX2_radixSort_7 2 rfl rfl)
theorem dX2_radixSort_171 : decode cX2_radixSort 171 = .ok (.iconst (-1), 1) := dk_2 (dk_at dksX2_radixSort_7 5 rfl rfl)
theorem dX2_radixSort_172 : decode cX2_radixSort 172 = .ok (.istore 14, 2) := dk_54 14 (dk_at dksX2_radixSort_7 6 rfl rfl)
theorem dX2_radixSort_174 : decode cX2_radixSort 174 = .ok (.iconst 0, 1) := dk_3 (dk_at dksX2_radixSort_7 8 rfl rfl)
theorem dX2_radixSort_175 : decode cX2_radixSort 175 = .ok (.istore 15, 2) := dk_54 15 (dk_at dksX2_radixSort_7 9 rfl rfl)
theorem dX2_radixSort_177 : decode cX2_radixSort 177 = .ok (.iload 9, 2) := dk_21 9 (dk_at dksX2_radixSort_7 11 rfl rfl)
theorem dX2_radixSort_179 : decode cX2_radixSort 179 = .ok (.istore 16, 2) := dk_54 16 (dk_at dksX2_radixSort_7 13 rfl rfl)
theorem dX2_radixSort_181 : decode cX2_radixSort 181 = .ok (.iload 15, 2) := dk_21 15 (dk_at dksX2_radixSort_7 15 rfl rfl)
theorem dX2_radixSort_183 : decode cX2_radixSort 183 = .ok (.sipush 256, 3) := dk_17 1 0 (dk_at dksX2_radixSort_7 17 rfl rfl)
theorem dX2_radixSort_186 : decode cX2_radixSort 186 = .ok (.if_icmp .ge 37, 3) := dk_162 0 37 (dk_at dksX2_radixSort_7 20 rfl rfl)
theorem dX2_radixSort_189 : decode cX2_radixSort 189 = .ok (.aload 7, 2) := dk_25 7 (dk_at dksX2_radixSort_8 0 rfl rfl)
theorem dX2_radixSort_191 : decode cX2_radixSort 191 = .ok (.iload 15, 2) := dk_21 15 (dk_at dksX2_radixSort_8 2 rfl rfl)
theorem dX2_radixSort_193 : decode cX2_radixSort 193 = .ok (.iaload, 1) := dk_46 (dk_at dksX2_radixSort_8 4 rfl rfl)
theorem dX2_radixSort_194 : decode cX2_radixSort 194 = .ok (.ifCond .eq 7, 3) := dk_153 0 7 (dk_at dksX2_radixSort_8 5 rfl rfl)
theorem dX2_radixSort_197 : decode cX2_radixSort 197 = .ok (.iload 15, 2) := dk_21 15 (dk_at dksX2_radixSort_8 8 rfl rfl)
theorem dX2_radixSort_199 : decode cX2_radixSort 199 = .ok (.istore 14, 2) := dk_54 14 (dk_at dksX2_radixSort_8 10 rfl rfl)
theorem dX2_radixSort_201 : decode cX2_radixSort 201 = .ok (.aload 8, 2) := dk_25 8 (dk_at dksX2_radixSort_8 12 rfl rfl)
theorem dX2_radixSort_203 : decode cX2_radixSort 203 = .ok (.iload 15, 2) := dk_21 15 (dk_at dksX2_radixSort_8 14 rfl rfl)
theorem dX2_radixSort_205 : decode cX2_radixSort 205 = .ok (.iload 16, 2) := dk_21 16 (dk_at dksX2_radixSort_8 16 rfl rfl)
theorem dX2_radixSort_207 : decode cX2_radixSort 207 = .ok (.aload 7, 2) := dk_25 7 (dk_at dksX2_radixSort_8 18 rfl rfl)
theorem dX2_radixSort_209 : decode cX2_radixSort 209 = .ok (.iload 15, 2) := dk_21 15 (dk_at dksX2_radixSort_8 20 rfl rfl)
theorem dX2_radixSort_211 : decode cX2_radixSort 211 = .ok (.iaload, 1) := dk_46 (dk_at dksX2_radixSort_8 22 rfl rfl)
theorem dX2_radixSort_212 : decode cX2_radixSort 212 = .ok (.iadd, 1) := dk_96 (dk_at dksX2_radixSort_8 23 rfl rfl)
theorem dX2_radixSort_213 : decode cX2_radixSort 213 = .ok (.dup, 1) := dk_89 (dk_at dksX2_radixSort_9 0 rfl rfl)
theorem dX2_radixSort_214 : decode cX2_radixSort 214 = .ok (.istore 16, 2) := dk_54 16 (dk_at dksX2_radixSort_9 1 rfl rfl)
theorem dX2_radixSort_216 : decode cX2_radixSort 216 = .ok (.iastore, 1) := dk_79 (dk_at dksX2_radixSort_9 3 rfl rfl)
theorem dX2_radixSort_217 : decode cX2_radixSort 217 = .ok (.iinc 15 1, 3) := dk_132 15 1 (dk_at dksX2_radixSort_9 4 rfl rfl)
theorem dX2_radixSort_220 : decode cX2_radixSort 220 = .ok (.goto (-39), 3) := dk_167 255 217 (dk_at dksX2_radixSort_9 7 rfl rfl)
theorem dX2_radixSort_223 : decode cX2_radixSort 223 = .ok (.iload 9, 2) := dk_21 9 (dk_at dksX2_radixSort_9 10 rfl rfl)
theorem dX2_radixSort_225 : decode cX2_radixSort 225 = .ok (.iload 10, 2) := dk_21 10 (dk_at dksX2_radixSort_9 12 rfl rfl)
theorem dX2_radixSort_227 : decode cX2_radixSort 227 = .ok (.iadd, 1) := dk_96 (dk_at dksX2_radixSort_9 14 rfl rfl)
theorem dX2_radixSort_228 : decode cX2_radixSort 228 = .ok (.aload 7, 2) := dk_25 7 (dk_at dksX2_radixSort_9 15 rfl rfl)
theorem dX2_radixSort_230 : decode cX2_radixSort 230 = .ok (.iload 14, 2) := dk_21 14 (dk_at dksX2_radixSort_9 17 rfl rfl)
theorem dX2_radixSort_232 : decode cX2_radixSort 232 = .ok (.iaload, 1) := dk_46 (dk_at dksX2_radixSort_9 19 rfl rfl)
theorem dX2_radixSort_233 : decode cX2_radixSort 233 = .ok (.isub, 1) := dk_100 (dk_at dksX2_radixSort_9 20 rfl rfl)
theorem dX2_radixSort_234 : decode cX2_radixSort 234 = .ok (.istore 15, 2) := dk_54 15 (dk_at dksX2_radixSort_9 21 rfl rfl)
theorem dX2_radixSort_236 : decode cX2_radixSort 236 = .ok (.iload 9, 2) := dk_21 9 (dk_at dksX2_radixSort_10 0 rfl rfl)
theorem dX2_radixSort_238 : decode cX2_radixSort 238 = .ok (.istore 16, 2) := dk_54 16 (dk_at dksX2_radixSort_10 2 rfl rfl)
theorem dX2_radixSort_240 : decode cX2_radixSort 240 = .ok (.iconst (-1), 1) := dk_2 (dk_at dksX2_radixSort_10 4 rfl rfl)
theorem dX2_radixSort_241 : decode cX2_radixSort 241 = .ok (.istore 17, 2) := dk_54 17 (dk_at dksX2_radixSort_10 5 rfl rfl)
theorem dX2_radixSort_243 : decode cX2_radixSort 243 = .ok (.iload 16, 2) := dk_21 16 (dk_at dksX2_radixSort_10 7 rfl rfl)
theorem dX2_radixSort_245 : decode cX2_radixSort 245 = .ok (.iload 15, 2) := dk_21 15 (dk_at dksX2_radixSort_10 9 rfl rfl)
theorem dX2_radixSort_247 : decode cX2_radixSort 247 = .ok (.if_icmp .gt 180, 3) := dk_163 0 180 (dk_at dksX2_radixSort_10 11 rfl rfl)
theorem dX2_radixSort_250 : decode cX2_radixSort 250 = .ok (.aload_n 0, 1) := dk_42 (dk_at dksX2_radixSort_10 14 rfl rfl)
theorem dX2_radixSort_251 : decode cX2_radixSort 251 = .ok (.iload 16, 2) := dk_21 16 (dk_at dksX2_radixSort_10 15 rfl rfl)
theorem dX2_radixSort_253 : decode cX2_radixSort 253 = .ok (.laload, 1) := dk_47 (dk_at dksX2_radixSort_10 17 rfl rfl)
theorem dX2_radixSort_254 : decode cX2_radixSort 254 = .ok (.lstore 19, 2) := dk_55 19 (dk_at dksX2_radixSort_10 18 rfl rfl)
theorem dX2_radixSort_256 : decode cX2_radixSort 256 = .ok (.lload 19, 2) := dk_22 19 (dk_at dksX2_radixSort_10 20 rfl rfl)
theorem dX2_radixSort_258 : decode cX2_radixSort 258 = .ok (.iload 13, 2) := dk_21 13 (dk_at dksX2_radixSort_10 22 rfl rfl)
theorem dX2_radixSort_260 : decode cX2_radixSort 260 = .ok (.lushr, 1) := dk_125 (dk_at dksX2_radixSort_11 0 rfl rfl)
theorem dX2_radixSort_261 : decode cX2_radixSort 261 = .ok (.ldc2_w 53, 3) := dk_20 0 53 (dk_at dksX2_radixSort_11 1 rfl rfl)
theorem dX2_radixSort_264 : decode cX2_radixSort 264 = .ok (.land, 1) := dk_127 (dk_at dksX2_radixSort_11 4 rfl rfl)
theorem dX2_radixSort_265 : decode cX2_radixSort 265 = .ok (.iload 12, 2) := dk_21 12 (dk_at dksX2_radixSort_11 5 rfl rfl)
theorem dX2_radixSort_267 : decode cX2_radixSort 267 = .ok (.i2l, 1) := dk_133 (dk_at dksX2_radixSort_11 7 rfl rfl)
theorem dX2_radixSort_268 : decode cX2_radixSort 268 = .ok (.lxor, 1) := dk_131 (dk_at dksX2_radixSort_11 8 rfl rfl)
theorem dX2_radixSort_269 : decode cX2_radixSort 269 = .ok (.l2i, 1) := dk_136 (dk_at dksX2_radixSort_11 9 rfl rfl)
theorem dX2_radixSort_270 : decode cX2_radixSort 270 = .ok (.istore 17, 2) := dk_54 17 (dk_at dksX2_radixSort_11 10 rfl rfl)
theorem dX2_radixSort_272 : decode cX2_radixSort 272 = .ok (.iload 16, 2) := dk_21 16 (dk_at dksX2_radixSort_11 12 rfl rfl)
theorem dX2_radixSort_274 : decode cX2_radixSort 274 = .ok (.iload 15, 2) := dk_21 15 (dk_at dksX2_radixSort_11 14 rfl rfl)
theorem dX2_radixSort_276 : decode cX2_radixSort 276 = .ok (.if_icmp .ge 62, 3) := dk_162 0 62 (dk_at dksX2_radixSort_11 16 rfl rfl)
theorem dX2_radixSort_279 : decode cX2_radixSort 279 = .ok (.aload 8, 2) := dk_25 8 (dk_at dksX2_radixSort_11 19 rfl rfl)
theorem dX2_radixSort_281 : decode cX2_radixSort 281 = .ok (.iload 17, 2) := dk_21 17 (dk_at dksX2_radixSort_11 21 rfl rfl)
theorem dX2_radixSort_283 : decode cX2_radixSort 283 = .ok (.dup2, 1) := dk_92 (dk_at dksX2_radixSort_11 23 rfl rfl)
theorem dX2_radixSort_284 : decode cX2_radixSort 284 = .ok (.iaload, 1) := dk_46 (dk_at dksX2_radixSort_12 0 rfl rfl)
theorem dX2_radixSort_285 : decode cX2_radixSort 285 = .ok (.iconst 1, 1) := dk_4 (dk_at dksX2_radixSort_12 1 rfl rfl)
theorem dX2_radixSort_286 : decode cX2_radixSort 286 = .ok (.isub, 1) := dk_100 (dk_at dksX2_radixSort_12 2 rfl rfl)
theorem dX2_radixSort_287 : decode cX2_radixSort 287 = .ok (.dup_x2, 1) := dk_91 (dk_at dksX2_radixSort_12 3 rfl rfl)
theorem dX2_radixSort_288 : decode cX2_radixSort 288 = .ok (.iastore, 1) := dk_79 (dk_at dksX2_radixSort_12 4 rfl rfl)
theorem dX2_radixSort_289 : decode cX2_radixSort 289 = .ok (.dup, 1) := dk_89 (dk_at dksX2_radixSort_12 5 rfl rfl)
theorem dX2_radixSort_290 : decode cX2_radixSort 290 = .ok (.istore 18, 2) := dk_54 18 (dk_at dksX2_radixSort_12 6 rfl rfl)
theorem dX2_radixSort_292 : decode cX2_radixSort 292 = .ok (.iload 16, 2) := dk_21 16 (dk_at dksX2_radixSort_12 8 rfl rfl)
theorem dX2_radixSort_294 : decode cX2_radixSort 294 = .ok (.if_icmp .le 38, 3) := dk_164 0 38 (dk_at dksX2_radixSort_12 10 rfl rfl)
theorem dX2_radixSort_297 : decode cX2_radixSort 297 = .ok (.lload 19, 2) := dk_22 19 (dk_at dksX2_radixSort_12 13 rfl rfl)
theorem dX2_radixSort_299 : decode cX2_radixSort 299 = .ok (.lstore 21, 2) := dk_55 21 (dk_at dksX2_radixSort_12 15 rfl rfl)
theorem dX2_radixSort_301 : decode cX2_radixSort 301 = .ok (.aload_n 0, 1) := dk_42 (dk_at dksX2_radixSort_12 17 rfl rfl)
theorem dX2_radixSort_302 : decode cX2_radixSort 302 = .ok (.iload 18, 2) := dk_21 18 (dk_at dksX2_radixSort_12 18 rfl rfl)
theorem dX2_radixSort_304 : decode cX2_radixSort 304 = .ok (.laload, 1) := dk_47 (dk_at dksX2_radixSort_12 20 rfl rfl)
theorem dX2_radixSort_305 : decode cX2_radixSort 305 = .ok (.lstore 19, 2) := dk_55 19 (dk_at dksX2_radixSort_12 21 rfl rfl)
theorem dX2_radixSort_307 : decode cX2_radixSort 307 = .ok (.aload_n 0, 1) := dk_42 (dk_at dksX2_radixSort_12 23 rfl rfl)
theorem dX2_radixSort_308 : decode cX2_radixSort 308 = .ok (.iload 18, 2) := dk_21 18 (dk_at dksX2_radixSort_13 0 rfl rfl)
theorem dX2_radixSort_310 : decode cX2_radixSort 310 = .ok (.lload 21, 2) := dk_22 21 (dk_at dksX2_radixSort_13 2 rfl rfl)
theorem dX2_radixSort_312 : decode cX2_radixSort 312 = .ok (.lastore, 1) := dk_80 (dk_at dksX2_radixSort_13 4 rfl rfl)
theorem dX2_radixSort_313 : decode cX2_radixSort 313 = .ok (.lload 19, 2) := dk_22 19 (dk_at dksX2_radixSort_13 5 rfl rfl)
theorem dX2_radixSort_315 : decode cX2_radixSort 315 = .ok (.iload 13, 2) := dk_21 13 (dk_at dksX2_radixSort_13 7 rfl rfl)
theorem dX2_radixSort_317 : decode cX2_radixSort 317 = .ok (.lushr, 1) := dk_125 (dk_at dksX2_radixSort_13 9 rfl rfl)
theorem dX2_radixSort_318 : decode cX2_radixSort 318 = .ok (.ldc2_w 53, 3) := dk_20 0 53 (dk_at dksX2_radixSort_13 10 rfl rfl)
theorem dX2_radixSort_321 : decode cX2_radixSort 321 = .ok (.land, 1) := dk_127 (dk_at dksX2_radixSort_13 13 rfl rfl)
theorem dX2_radixSort_322 : decode cX2_radixSort 322 = .ok (.iload 12, 2) := dk_21 12 (dk_at dksX2_radixSort_13 14 rfl rfl)
theorem dX2_radixSort_324 : decode cX2_radixSort 324 = .ok (.i2l, 1) := dk_133 (dk_at dksX2_radixSort_13 16 rfl rfl)
theorem dX2_radixSort_325 : decode cX2_radixSort 325 = .ok (.lxor, 1) := dk_131 (dk_at dksX2_radixSort_13 17 rfl rfl)
theorem dX2_radixSort_326 : decode cX2_radixSort 326 = .ok (.l2i, 1) := dk_136 (dk_at dksX2_radixSort_13 18 rfl rfl)
theorem dX2_radixSort_327 : decode cX2_radixSort 327 = .ok (.istore 17, 2) := dk_54 17 (dk_at dksX2_radixSort_13 19 rfl rfl)
theorem dX2_radixSort_329 : decode cX2_radixSort 329 = .ok (.goto (-50), 3) := dk_167 255 206 (dk_at dksX2_radixSort_13 21 rfl rfl)
theorem dX2_radixSort_332 : decode cX2_radixSort 332 = .ok (.aload_n 0, 1) := dk_42 (dk_at dksX2_radixSort_14 0 rfl rfl)
theorem dX2_radixSort_333 : decode cX2_radixSort 333 = .ok (.iload 16, 2) := dk_21 16 (dk_at dksX2_radixSort_14 1 rfl rfl)
theorem dX2_radixSort_335 : decode cX2_radixSort 335 = .ok (.lload 19, 2) := dk_22 19 (dk_at dksX2_radixSort_14 3 rfl rfl)
theorem dX2_radixSort_337 : decode cX2_radixSort 337 = .ok (.lastore, 1) := dk_80 (dk_at dksX2_radixSort_14 5 rfl rfl)
theorem dX2_radixSort_338 : decode cX2_radixSort 338 = .ok (.iload 11, 2) := dk_21 11 (dk_at dksX2_radixSort_14 6 rfl rfl)
theorem dX2_radixSort_340 : decode cX2_radixSort 340 = .ok (.bipush 7, 2) := dk_16 7 (dk_at dksX2_radixSort_14 8 rfl rfl)
theorem dX2_radixSort_342 : decode cX2_radixSort 342 = .ok (.if_icmp .ge 66, 3) := dk_162 0 66 (dk_at dksX2_radixSort_14 10 rfl rfl)
theorem dX2_radixSort_345 : decode cX2_radixSort 345 = .ok (.aload 7, 2) := dk_25 7 (dk_at dksX2_radixSort_14 13 rfl rfl)
theorem dX2_radixSort_347 : decode cX2_radixSort 347 = .ok (.iload 17, 2) := dk_21 17 (dk_at dksX2_radixSort_14 15 rfl rfl)
theorem dX2_radixSort_349 : decode cX2_radixSort 349 = .ok (.iaload, 1) := dk_46 (dk_at dksX2_radixSort_14 17 rfl rfl)
theorem dX2_radixSort_350 : decode cX2_radixSort 350 = .ok (.iconst 1, 1) := dk_4 (dk_at dksX2_radixSort_14 18 rfl rfl)
theorem dX2_radixSort_351 : decode cX2_radixSort 351 = .ok (.if_icmp .le 57, 3) := dk_164 0 57 (dk_at dksX2_radixSort_14 19 rfl rfl)
theorem dX2_radixSort_354 : decode cX2_radixSort 354 = .ok (.aload 7, 2) := dk_25 7 (dk_at dksX2_radixSort_14 22 rfl rfl)
theorem dX2_radixSort_356 : decode cX2_radixSort 356 = .ok (.iload 17, 2) := dk_21 17 (dk_at dksX2_radixSort_15 0 rfl rfl)
theorem dX2_radixSort_358 : decode cX2_radixSort 358 = .ok (.iaload, 1) := dk_46 (dk_at dksX2_radixSort_15 2 rfl rfl)
theorem dX2_radixSort_359 : decode cX2_radixSort 359 = .ok (.sipush 1024, 3) := dk_17 4 0 (dk_at dksX2_radixSort_15 3 rfl rfl)
theorem dX2_radixSort_362 : decode cX2_radixSort 362 = .ok (.if_icmp .ge 20, 3) := dk_162 0 20 (dk_at dksX2_radixSort_15 6 rfl rfl)
theorem dX2_radixSort_365 : decode cX2_radixSort 365 = .ok (.aload_n 0, 1) := dk_42 (dk_at dksX2_radixSort_15 9 rfl rfl)
theorem dX2_radixSort_366 : decode cX2_radixSort 366 = .ok (.iload 16, 2) := dk_21 16 (dk_at dksX2_radixSort_15 10 rfl rfl)
theorem dX2_radixSort_368 : decode cX2_radixSort 368 = .ok (.iload 16, 2) := dk_21 16 (dk_at dksX2_radixSort_15 12 rfl rfl)
theorem dX2_radixSort_370 : decode cX2_radixSort 370 = .ok (.aload 7, 2) := dk_25 7 (dk_at dksX2_radixSort_15 14 rfl rfl)
theorem dX2_radixSort_372 : decode cX2_radixSort 372 = .ok (.iload 17, 2) := dk_21 17 (dk_at dksX2_radixSort_15 16 rfl rfl)
theorem dX2_radixSort_374 : decode cX2_radixSort 374 = .ok (.iaload, 1) := dk_46 (dk_at dksX2_radixSort_15 18 rfl rfl)
theorem dX2_radixSort_375 : decode cX2_radixSort 375 = .ok (.iadd, 1) := dk_96 (dk_at dksX2_radixSort_15 19 rfl rfl)
theorem dX2_radixSort_376 : decode cX2_radixSort 376 = .ok (.invokestatic 29, 3) := dk_184 0 29 (dk_at dksX2_radixSort_15 20 rfl rfl)
theorem dX2_radixSort_379 : decode cX2_radixSort 379 = .ok (.goto 29, 3) := dk_167 0 29 (dk_at dksX2_radixSort_16 0 rfl rfl)
theorem dX2_radixSort_382 : decode cX2_radixSort 382 = .ok (.aload 4, 2) := dk_25 4 (dk_at dksX2_radixSort_16 3 rfl rfl)
theorem dX2_radixSort_384 : decode cX2_radixSort 384 = .ok (.iload_n 3, 1) := dk_29 (dk_at dksX2_radixSort_16 5 rfl rfl)
theorem dX2_radixSort_385 : decode cX2_radixSort 385 = .ok (.iload 16, 2) := dk_21 16 (dk_at dksX2_radixSort_16 6 rfl rfl)
theorem dX2_radixSort_387 : decode cX2_radixSort 387 = .ok (.iastore, 1) := dk_79 (dk_at dksX2_radixSort_16 8 rfl rfl)
theorem dX2_radixSort_388 : decode cX2_radixSort 388 = .ok (.aload 5, 2) := dk_25 5 (dk_at dksX2_radixSort_16 9 rfl rfl)
theorem dX2_radixSort_390 : decode cX2_radixSort 390 = .ok (.iload_n 3, 1) := dk_29 (dk_at dksX2_radixSort_16 11 rfl rfl)
theorem dX2_radixSort_391 : decode cX2_radixSort 391 = .ok (.aload 7, 2) := dk_25 7 (dk_at dksX2_radixSort_16 12 rfl rfl)
theorem dX2_radixSort_393 : decode cX2_radixSort 393 = .ok (.iload 17, 2) := dk_21 17 (dk_at dksX2_radixSort_16 14 rfl rfl)
theorem dX2_radixSort_395 : decode cX2_radixSort 395 = .ok (.iaload, 1) := dk_46 (dk_at dksX2_radixSort_16 16 rfl rfl)
theorem dX2_radixSort_396 : decode cX2_radixSort 396 = .ok (.iastore, 1) := dk_79 (dk_at dksX2_radixSort_16 17 rfl rfl)
theorem dX2_radixSort_397 : decode cX2_radixSort 397 = .ok (.aload 6, 2) := dk_25 6 (dk_at dksX2_radixSort_16 18 rfl rfl)
theorem dX2_radixSort_399 : decode cX2_radixSort 399 = .ok (.iload_n 3, 1) := dk_29 (dk_at dksX2_radixSort_16 20 rfl rfl)
theorem dX2_radixSort_400 : decode cX2_radixSort 400 = .ok (.iinc 3 1, 3) := dk_132 3 1 (dk_at dksX2_radixSort_16 21 rfl rfl)
theorem dX2_radixSort_403 : decode cX2_radixSort 403 = .ok (.iload 11, 2) := dk_21 11 (dk_at dksX2_radixSort_17 0 rfl rfl)
theorem dX2_radixSort_405 : decode cX2_radixSort 405 = .ok (.iconst 1, 1) := dk_4 (dk_at dksX2_radixSort_17 2 rfl rfl)
theorem dX2_radixSort_406 : decode cX2_radixSort 406 = .ok (.iadd, 1) := dk_96 (dk_at dksX2_radixSort_17 3 rfl rfl)
theorem dX2_radixSort_407 : decode cX2_radixSort 407 = .ok (.iastore, 1) := dk_79 (dk_at dksX2_radixSort_17 4 rfl rfl)
theorem dX2_radixSort_408 : decode cX2_radixSort 408 = .ok (.iload 16, 2) := dk_21 16 (dk_at dksX2_radixSort_17 5 rfl rfl)
theorem dX2_radixSort_410 : decode cX2_radixSort 410 = .ok (.aload 7, 2) := dk_25 7 (dk_at dksX2_radixSort_17 7 rfl rfl)
theorem dX2_radixSort_412 : decode cX2_radixSort 412 = .ok (.iload 17, 2) := dk_21 17 (dk_at dksX2_radixSort_17 9 rfl rfl)
theorem dX2_radixSort_414 : decode cX2_radixSort 414 = .ok (.iaload, 1) := dk_46 (dk_at dksX2_radixSort_17 11 rfl rfl)
theorem dX2_radixSort_415 : decode cX2_radixSort 415 = .ok (.iadd, 1) := dk_96 (dk_at dksX2_radixSort_17 12 rfl rfl)
theorem dX2_radixSort_416 : decode cX2_radixSort 416 = .ok (.istore 16, 2) := dk_54 16 (dk_at dksX2_radixSort_17 13 rfl rfl)
theorem dX2_radixSort_418 : decode cX2_radixSort 418 = .ok (.aload 7, 2) := dk_25 7 (dk_at dksX2_radixSort_17 15 rfl rfl)
theorem dX2_radixSort_420 : decode cX2_radixSort 420 = .ok (.iload 17, 2) := dk_21 17 (dk_at dksX2_radixSort_17 17 rfl rfl)
theorem dX2_radixSort_422 : decode cX2_radixSort 422 = .ok (.iconst 0, 1) := dk_3 (dk_at dksX2_radixSort_17 19 rfl rfl)
theorem dX2_radixSort_423 : decode cX2_radixSort 423 = .ok (.iastore, 1) := dk_79 (dk_at dksX2_radixSort_17 20 rfl rfl)
theorem dX2_radixSort_424 : decode cX2_radixSort 424 = .ok (.goto (-181), 3) := dk_167 255 75 (dk_at dksX2_radixSort_17 21 rfl rfl)
theorem dX2_radixSort_427 : decode cX2_radixSort 427 = .ok (.goto (-354), 3) := dk_167 254 158 (dk_at dksX2_radixSort_18 0 rfl rfl)
theorem dX2_radixSort_430 : decode cX2_radixSort 430 = .ok (.return_, 1) := dk_177 (dk_at dksX2_radixSort_18 3 rfl rfl)
abbrev cX2_binarySearch : ByteArray := prog_1_method_9_code
def yX2_binarySearch : MethodName := ⟨RX2, "binarySearch", "([JIIJ)I"⟩
def dkwX2_binarySearch_2 : List UInt8 := [167, 0, 6, 21, 7, 172, 167, 255, 205, 27, 4, 96, 116, 172]
abbrev dktX2_binarySearch_2 : List UInt8 := dkwX2_binarySearch_2 ++ []
def dkwX2_binarySearch_1 : List UInt8 := [148, 156, 0, 11, 21, 7, 4, 96, 60, 167, 0, 21, 22, 5, 33, 148, 158, 0, 11, 21, 7, 4, 100, 61]
abbrev dktX2_binarySearch_1 : List UInt8 := dkwX2_binarySearch_1 ++ dktX2_binarySearch_2
def dkwX2_binarySearch_0 : List UInt8 := [132, 2, 255, 27, 28, 163, 0, 52, 27, 28, 96, 4, 124, 54, 7, 42, 21, 7, 47, 55, 5, 22, 5, 33]
abbrev dktX2_binarySearch_0 : List UInt8 := dkwX2_binarySearch_0 ++ dktX2_binarySearch_1
theorem dksX2_binarySearch_0 : cX2_binarySearch.data.toList.drop 0 = dktX2_binarySearch_0 := by decide +kernel
theorem dksX2_binarySearch_1 : cX2_binarySearch.data.toList.drop 24 = dktX2_binarySearch_1 := dk_seg dksX2_binarySearch_0 24 rfl rfl
theorem dksX2_binarySearch_2 : cX2_binarySearch.data.toList.drop 48 = dktX2_binarySearch_2 := dk_seg dksX2_binarySearch_1 24 rfl rfl
theorem dX2_binarySearch_0 : decode cX2_binarySearch 0 = .ok (.iinc 2 (-1), 3) := dk_132 2 255 (dk_at dksX2_binarySearch_0 0 rfl rfl)
theorem dX2_binarySearch_3 : decode cX2_binarySearch 3 = .ok (.iload_n 1, 1) := dk_27 (dk_at dksX2_binarySearch_0 3 rfl rfl)
theorem dX2_binarySearch_4 : decode cX2_binarySearch 4 = .ok (.iload_n 2, 1) := dk_28 (dk_at dksX2_binarySearch_0 4 rfl rfl)
theorem dX2_binarySearch_5 : decode cX2_binarySearch 5 = .ok (.if_icmp .gt 52, 3) := dk_163 0 52 (dk_at dksX2_binarySearch_0 5 rfl rfl)
theorem dX2_binarySearch_8 : decode cX2_binarySearch 8 = .ok (.iload_n 1, 1) := dk_27 (dk_at dksX2_binarySearch_0 8 rfl rfl)
theorem dX2_binarySearch_9 : decode cX2_binarySearch 9 = .ok (.iload_n 2, 1) := dk_28 (dk_at dksX2_binarySearch_0 9 rfl rfl)
theorem dX2_binarySearch_10 : decode cX2_binarySearch 10 = .ok (.iadd, 1) := dk_96 (dk_at dksX2_binarySearch_0 10 rfl rfl)
theorem dX2_binarySearch_11 : decode cX2_binarySearch 11 = .ok (.iconst 1, 1) := dk_4 (dk_at dksX2_binarySearch_0 11 rfl rfl)
theorem dX2_binarySearch_12 : decode cX2_binarySearch 12 = .ok (.iushr, 1) := dk_124 (dk_at dksX2_binarySearch_0 12 rfl rfl)
theorem dX2_binarySearch_13 : decode cX2_binarySearch 13 = .ok (.istore 7, 2) := dk_54 7 (dk_at dksX2_binarySearch_0 13 rfl rfl)
theorem dX2_binarySearch_15 : decode cX2_binarySearch 15 = .ok (.aload_n 0, 1) := dk_42 (dk_at dksX2_binarySearch_0 15 rfl rfl)
theorem dX2_binarySearch_16 : decode cX2_binarySearch 16 = .ok (.iload 7, 2) := dk_21 7 (dk_at dksX2_binarySearch_0 16 rfl rfl)
theorem dX2_binarySearch_18 : decode cX2_binarySearch 18 = .ok (.laload, 1) := dk_47 (dk_at dksX2_binarySearch_0 18 rfl rfl)
theorem dX2_binarySearch_19 : decode cX2_binarySearch 19 = .ok (.lstore 5, 2) := dk_55 5 (dk_at dksX2_binarySearch_0 19 rfl rfl)
theorem dX2_binarySearch_21 : decode cX2_binarySearch 21 = .ok (.lload 5, 2) := dk_22 5 (dk_at dksX2_binarySearch_0 21 rfl rfl)
theorem dX2_binarySearch_23 : decode cX2_binarySearch 23 = .ok (.lload_n 3, 1) := dk_33 (dk_at dksX2_binarySearch_0 23 rfl rfl)
theorem dX2_binarySearch_24 : decode cX2_binarySearch 24 = .ok (.lcmp, 1) := dk_148 (dk_at dksX2_binarySearch_1 0 rfl rfl)
theorem dX2_binarySearch_25 : decode cX2_binarySearch 25 = .ok (.ifCond .ge 11, 3) := dk_156 0 11 (dk_at dksX2_binarySearch_1 1 rfl rfl)
theorem dX2_binarySearch_28 : decode cX2_binarySearch 28 = .ok (.iload 7, 2) := dk_21 7 (dk_at dksX2_binarySearch_1 4 rfl rfl)
theorem dX2_binarySearch_30 : decode cX2_binarySearch 30 = .ok (.iconst 1, 1) := dk_4 (dk_at dksX2_binarySearch_1 6 rfl rfl)
theorem dX2_binarySearch_31 : decode cX2_binarySearch 31 = .ok (.iadd, 1) := dk_96 (dk_at dksX2_binarySearch_1 7 rfl rfl)
theorem dX2_binarySearch_32 : decode cX2_binarySearch 32 = .ok (.istore_n 1, 1) := dk_60 (dk_at dksX2_binarySearch_1 8 rfl rfl)
theorem dX2_binarySearch_33 : decode cX2_binarySearch 33 = .ok (.goto 21, 3) := dk_167 0 21 (dk_at dksX2_binarySearch_1 9 rfl rfl)
theorem dX2_binarySearch_36 : decode cX2_binarySearch 36 = .ok (.lload 5, 2) := dk_22 5 (dk_at dksX2_binarySearch_1 12 rfl rfl)
theorem dX2_binarySearch_38 : decode cX2_binarySearch 38 = .ok (.lload_n 3, 1) := dk_33 (dk_at dksX2_binarySearch_1 14 rfl rfl)
theorem dX2_binarySearch_39 : decode cX2_binarySearch 39 = .ok (.lcmp, 1) := dk_148 (dk_at dksX2_binarySearch_1 15 rfl rfl)
theorem dX2_binarySearch_40 : decode cX2_binarySearch 40 = .ok (.ifCond .le 11, 3) := dk_158 0 11 (dk_at dksX2_binarySearch_1 16 rfl rfl)
theorem dX2_binarySearch_43 : decode cX2_binarySearch 43 = .ok (.iload 7, 2) := dk_21 7 (dk_at dksX2_binarySearch_1 19 rfl rfl)
theorem dX2_binarySearch_45 : decode cX2_binarySearch 45 = .ok (.iconst 1, 1) := dk_4 (dk_at dksX2_binarySearch_1 21 rfl rfl)
theorem dX2_binarySearch_46 : decode cX2_binarySearch 46 = .ok (.isub, 1) := dk_100 (dk_at dksX2_binarySearch_1 22 rfl rfl)
theorem dX2_binarySearch_47 : decode cX2_binarySearch 47 = .ok (.istore_n 2, 1) := dk_61 (dk_at dksX2_binarySearch_1 23 rfl rfl)
theorem dX2_binarySearch_48 : decode cX2_binarySearch 48 = .ok (.goto 6, 3) := dk_167 0 6 (dk_at dksX2_binarySearch_2 0 rfl rfl)
theorem dX2_binarySearch_51 : decode cX2_binarySearch 51 = .ok (.iload 7, 2) := dk_21 7 (dk_at dksX2_binarySearch_2 3 rfl rfl)
theorem dX2_binarySearch_53 : decode cX2_binarySearch 53 = .ok (.ireturn, 1) := dk_172 (dk_at dksX2_binarySearch_2 5 rfl rfl)
theorem dX2_binarySearch_54 : decode cX2_binarySearch 54 = .ok (.goto (-51), 3) := dk_167 255 205 (dk_at dksX2_binarySearch_2 6 rfl rfl)
theorem dX2_binarySearch_57 : decode cX2_binarySearch 57 = .ok (.iload_n 1, 1) := dk_27 (dk_at dksX2_binarySearch_2 9 rfl rfl)
theorem dX2_binarySearch_58 : decode cX2_binarySearch 58 = .ok (.iconst 1, 1) := dk_4 (dk_at dksX2_binarySearch_2 10 rfl rfl)
theorem dX2_binarySearch_59 : decode cX2_binarySearch 59 = .ok (.iadd, 1) := dk_96 (dk_at dksX2_binarySearch_2 11 rfl rfl)
theorem dX2_binarySearch_60 : decode cX2_binarySearch 60 = .ok (.ineg, 1) := dk_116 (dk_at dksX2_binarySearch_2 12 rfl rfl)
theorem dX2_binarySearch_61 : decode cX2_binarySearch 61 = .ok (.ireturn, 1) := dk_172 (dk_at dksX2_binarySearch_2 13 rfl rfl)
theorem q4 : (Jvm.Cond.initialized "LongArrays") ∈ lw_all := lw_g (lw_at lw_m0 2 rfl) rfl
theorem q24 : (Jvm.Cond.static ({ cls := "LongArrays", name := "quickSort", desc := "([JII)V" } : Jvm.MethodName)) ∈ lw_all := lw_g (lw_at lw_m0 22 rfl) rfl
theorem q25 : (Jvm.Cond.code ({ cls := "LongArrays", name := "quickSort", desc := "([JII)V" } : Jvm.MethodName) prog_1_method_6_code (14 : Nat) (Option.none : Option Jvm.ClassFile.FieldType)) ∈ lw_all := lw_g (lw_at lw_m0 23 rfl) rfl
theorem q26 : (Jvm.Cond.methodLink "LongArrays" (13 : Nat) ({ cls := "LongArrays", name := "selectionSort", desc := "([JII)V" } : Jvm.MethodName)) ∈ lw_all := lw_g (lw_at lw_m0 24 rfl) rfl
theorem q27 : (Jvm.Cond.static ({ cls := "LongArrays", name := "selectionSort", desc := "([JII)V" } : Jvm.MethodName)) ∈ lw_all := lw_g (lw_at lw_m0 25 rfl) rfl
theorem q28 : (Jvm.Cond.code ({ cls := "LongArrays", name := "selectionSort", desc := "([JII)V" } : Jvm.MethodName) prog_1_method_4_code (7 : Nat) (Option.none : Option Jvm.ClassFile.FieldType)) ∈ lw_all := lw_g (lw_at lw_m0 26 rfl) rfl
theorem q29 : (Jvm.Cond.methodLink "LongArrays" (16 : Nat) ({ cls := "LongArrays", name := "med3", desc := "([JIII)I" } : Jvm.MethodName)) ∈ lw_all := lw_g (lw_at lw_m0 27 rfl) rfl
theorem q30 : (Jvm.Cond.static ({ cls := "LongArrays", name := "med3", desc := "([JIII)I" } : Jvm.MethodName)) ∈ lw_all := lw_g (lw_at lw_m0 28 rfl) rfl
theorem q31 : (Jvm.Cond.code ({ cls := "LongArrays", name := "med3", desc := "([JIII)I" } : Jvm.MethodName) prog_1_method_3_code (7 : Nat) (Option.some Jvm.ClassFile.FieldType.int)) ∈ lw_all := lw_g (lw_at lw_m0 29 rfl) rfl
theorem q32 : (Jvm.Cond.methodLink "LongArrays" (9 : Nat) ({ cls := "java/lang/Long", name := "compare", desc := "(JJ)I" } : Jvm.MethodName)) ∈ lw_all := lw_g (lw_at lw_m0 30 rfl) rfl
theorem q35 : (Jvm.Cond.methodLink "LongArrays" (5 : Nat) ({ cls := "LongArrays", name := "swap", desc := "([JII)V" } : Jvm.MethodName)) ∈ lw_all := lw_g (lw_at lw_m0 33 rfl) rfl
theorem q36 : (Jvm.Cond.static ({ cls := "LongArrays", name := "swap", desc := "([JII)V" } : Jvm.MethodName)) ∈ lw_all := lw_g (lw_at lw_m0 34 rfl) rfl
theorem q37 : (Jvm.Cond.code ({ cls := "LongArrays", name := "swap", desc := "([JII)V" } : Jvm.MethodName) prog_1_method_1_code (5 : Nat) (Option.none : Option Jvm.ClassFile.FieldType)) ∈ lw_all := lw_g (lw_at lw_m0 35 rfl) rfl
theorem q38 : (Jvm.Cond.methodLink "LongArrays" (20 : Nat) ({ cls := "java/lang/Math", name := "min", desc := "(II)I" } : Jvm.MethodName)) ∈ lw_all := lw_g (lw_at lw_m0 36 rfl) rfl
theorem q41 : (Jvm.Cond.methodLink "LongArrays" (26 : Nat) ({ cls := "LongArrays", name := "swap", desc := "([JIII)V" } : Jvm.MethodName)) ∈ lw_all := lw_g (lw_at lw_m0 39 rfl) rfl
theorem q42 : (Jvm.Cond.static ({ cls := "LongArrays", name := "swap", desc := "([JIII)V" } : Jvm.MethodName)) ∈ lw_all := lw_g (lw_at lw_m0 40 rfl) rfl
theorem q43 : (Jvm.Cond.code ({ cls := "LongArrays", name := "swap", desc := "([JIII)V" } : Jvm.MethodName) prog_1_method_2_code (5 : Nat) (Option.none : Option Jvm.ClassFile.FieldType)) ∈ lw_all := lw_g (lw_at lw_m0 41 rfl) rfl
theorem q44 : (Jvm.Cond.methodLink "LongArrays" (29 : Nat) ({ cls := "LongArrays", name := "quickSort", desc := "([JII)V" } : Jvm.MethodName)) ∈ lw_all := lw_g (lw_at lw_m0 42 rfl) rfl
theorem q50 : (Jvm.Cond.static ({ cls := "LongArrays", name := "mergeSort", desc := "([JII)V" } : Jvm.MethodName)) ∈ lw_all := lw_g (lw_at lw_m0 48 rfl) rfl
theorem q51 : (Jvm.Cond.code ({ cls := "LongArrays", name := "mergeSort", desc := "([JII)V" } : Jvm.MethodName) prog_1_method_8_code (3 : Nat) (Option.none : Option Jvm.ClassFile.FieldType)) ∈ lw_all := lw_g (lw_at lw_m0 49 rfl) rfl
theorem q52 : (Jvm.Cond.classLink "LongArrays" (51 : Nat) "[J") ∈ lw_all := lw_g (lw_at lw_m0 50 rfl) rfl
theorem q53 : (Jvm.Cond.methodLink "LongArrays" (41 : Nat) ({ cls := "LongArrays", name := "mergeSort", desc := "([JII[J)V" } : Jvm.MethodName)) ∈ lw_all := lw_g (lw_at lw_m0 51 rfl) rfl
theorem q54 : (Jvm.Cond.static ({ cls := "LongArrays", name := "mergeSort", desc := "([JII[J)V" } : Jvm.MethodName)) ∈ lw_all := lw_g (lw_at lw_m0 52 rfl) rfl
theorem q55 : (Jvm.Cond.code ({ cls := "LongArrays", name := "mergeSort", desc := "([JII[J)V" } : Jvm.MethodName) prog_1_method_7_code (9 : Nat) (Option.none : Option Jvm.ClassFile.FieldType)) ∈ lw_all := lw_g (lw_at lw_m0 53 rfl) rfl
theorem q56 : (Jvm.Cond.methodLink "LongArrays" (32 : Nat) ({ cls := "LongArrays", name := "insertionSort", desc := "([JII)V" } : Jvm.MethodName)) ∈ lw_all := lw_g (lw_at lw_m0 54 rfl) rfl
theorem q57 : (Jvm.Cond.static ({ cls := "LongArrays", name := "insertionSort", desc := "([JII)V" } : Jvm.MethodName)) ∈ lw_all := lw_g (lw_at lw_m0 55 rfl) rfl
theorem q58 : (Jvm.Cond.code ({ cls := "LongArrays", name := "insertionSort", desc := "([JII)V" } : Jvm.MethodName) prog_1_method_5_code (9 : Nat) (Option.none : Option Jvm.ClassFile.FieldType)) ∈ lw_all := lw_g (lw_at lw_m0 56 rfl) rfl
theorem q59 : (Jvm.Cond.methodLink "LongArrays" (35 : Nat) ({ cls := "java/util/Arrays", name := "copyOf", desc := "([JI)[J" } : Jvm.MethodName)) ∈ lw_all := lw_g (lw_at lw_m0 57 rfl) rfl
theorem q73 : (Jvm.Cond.methodLink "LongArrays" (45 : Nat) ({ cls := "java/lang/System", name := "arraycopy", desc := "(Ljava/lang/Object;ILjava/lang/Object;II)V" } : Jvm.MethodName)) ∈ lw_all := lw_g (lw_at lw_m0 71 rfl) rfl
theorem q80 : (Jvm.Cond.static ({ cls := "LongArrays", name := "radixSort", desc := "([JII)V" } : Jvm.MethodName)) ∈ lw_all := lw_g (lw_at lw_m0 78 rfl) rfl
theorem q81 : (Jvm.Cond.code ({ cls := "LongArrays", name := "radixSort", desc := "([JII)V" } : Jvm.MethodName) prog_1_method_10_code (23 : Nat) (Option.none : Option Jvm.ClassFile.FieldType)) ∈ lw_all := lw_g (lw_at lw_m0 79 rfl) rfl
theorem q82 : (Jvm.Cond.constantLong "LongArrays" (53 : Nat) (255 : Int64)) ∈ lw_all := lw_g (lw_at lw_m0 80 rfl) rfl
theorem q139 : (Jvm.Cond.static ({ cls := "LongArrays", name := "binarySearch", desc := "([JIIJ)I" } : Jvm.MethodName)) ∈ lw_all := lw_g (lw_at lw_m0 137 rfl) rfl
theorem q140 : (Jvm.Cond.code ({ cls := "LongArrays", name := "binarySearch", desc := "([JIIJ)I" } : Jvm.MethodName) prog_1_method_9_code (8 : Nat) (Option.some Jvm.ClassFile.FieldType.int)) ∈ lw_all := lw_g (lw_at lw_m0 138 rfl) rfl
end
section
/-! LongSortDesk -/
set_option maxRecDepth 100000
def RX1 : String := "LongSortDesk"
def TX1 : u_T := fun k => match k with
  | 0 => ("LongSortDesk", "rows", "[J", true)
  | _ => ("LongSortDesk", "size", "I", false)
def tyX1 : Nat → FieldType := fun k => match k with
  | 0 => .array .long
  | _ => .int
abbrev wsX10 : List Cond := u_ws RX1 TX1 2
theorem nmX1 : ∀ a, a < 2 → ∀ b, b < 2 → a ≠ b → (TX1 a).2.1 ≠ (TX1 b).2.1 := by decide +kernel
theorem tyX1_ok : ∀ k, k < 2 → parseFieldDescriptor (TX1 k).2.2.1 = some (tyX1 k) := by decide +kernel
abbrev cX1_quick : ByteArray := prog_2_method_7_code
def yX1_quick : MethodName := ⟨RX1, "quick", "(II)I"⟩
def dkwX1_quick_1 : List UInt8 := [184, 0, 34, 21, 4, 172]
abbrev dktX1_quick_1 : List UInt8 := dkwX1_quick_1 ++ []
def dkwX1_quick_0 : List UInt8 := [42, 27, 182, 0, 26, 62, 42, 29, 28, 182, 0, 30, 54, 4, 42, 180, 0, 7, 29, 29, 21, 4, 96]
abbrev dktX1_quick_0 : List UInt8 := dkwX1_quick_0 ++ dktX1_quick_1
theorem dksX1_quick_0 : cX1_quick.data.toList.drop 0 = dktX1_quick_0 := by decide +kernel
theorem dksX1_quick_1 : cX1_quick.data.toList.drop 23 = dktX1_quick_1 := dk_seg dksX1_quick_0 23 rfl rfl
theorem dX1_quick_0 : decode cX1_quick 0 = .ok (.aload_n 0, 1) := dk_42 (dk_at dksX1_quick_0 0 rfl rfl)
theorem dX1_quick_1 : decode cX1_quick 1 = .ok (.iload_n 1, 1) := dk_27 (dk_at dksX1_quick_0 1 rfl rfl)
theorem dX1_quick_2 : decode cX1_quick 2 = .ok (.invokevirtual 26, 3) := dk_182 0 26 (dk_at dksX1_quick_0 2 rfl rfl)
theorem dX1_quick_5 : decode cX1_quick 5 = .ok (.istore_n 3, 1) := dk_62 (dk_at dksX1_quick_0 5 rfl rfl)
theorem dX1_quick_6 : decode cX1_quick 6 = .ok (.aload_n 0, 1) := dk_42 (dk_at dksX1_quick_0 6 rfl rfl)
theorem dX1_quick_7 : decode cX1_quick 7 = .ok (.iload_n 3, 1) := dk_29 (dk_at dksX1_quick_0 7 rfl rfl)
theorem dX1_quick_8 : decode cX1_quick 8 = .ok (.iload_n 2, 1) := dk_28 (dk_at dksX1_quick_0 8 rfl rfl)
theorem dX1_quick_9 : decode cX1_quick 9 = .ok (.invokevirtual 30, 3) := dk_182 0 30 (dk_at dksX1_quick_0 9 rfl rfl)
theorem dX1_quick_12 : decode cX1_quick 12 = .ok (.istore 4, 2) := dk_54 4 (dk_at dksX1_quick_0 12 rfl rfl)
theorem dX1_quick_14 : decode cX1_quick 14 = .ok (.aload_n 0, 1) := dk_42 (dk_at dksX1_quick_0 14 rfl rfl)
theorem dX1_quick_15 : decode cX1_quick 15 = .ok (.getfield 7, 3) := dk_180 0 7 (dk_at dksX1_quick_0 15 rfl rfl)
theorem dX1_quick_18 : decode cX1_quick 18 = .ok (.iload_n 3, 1) := dk_29 (dk_at dksX1_quick_0 18 rfl rfl)
theorem dX1_quick_19 : decode cX1_quick 19 = .ok (.iload_n 3, 1) := dk_29 (dk_at dksX1_quick_0 19 rfl rfl)
theorem dX1_quick_20 : decode cX1_quick 20 = .ok (.iload 4, 2) := dk_21 4 (dk_at dksX1_quick_0 20 rfl rfl)
theorem dX1_quick_22 : decode cX1_quick 22 = .ok (.iadd, 1) := dk_96 (dk_at dksX1_quick_0 22 rfl rfl)
theorem dX1_quick_23 : decode cX1_quick 23 = .ok (.invokestatic 34, 3) := dk_184 0 34 (dk_at dksX1_quick_1 0 rfl rfl)
theorem dX1_quick_26 : decode cX1_quick 26 = .ok (.iload 4, 2) := dk_21 4 (dk_at dksX1_quick_1 3 rfl rfl)
theorem dX1_quick_28 : decode cX1_quick 28 = .ok (.ireturn, 1) := dk_172 (dk_at dksX1_quick_1 5 rfl rfl)
abbrev cX1_from : ByteArray := prog_2_method_5_code
def yX1_from : MethodName := ⟨RX1, "from", "(I)I"⟩
def dkwX1_from_0 : List UInt8 := [27, 18, 23, 126, 42, 180, 0, 15, 4, 96, 112, 172]
abbrev dktX1_from_0 : List UInt8 := dkwX1_from_0 ++ []
theorem dksX1_from_0 : cX1_from.data.toList.drop 0 = dktX1_from_0 := by decide +kernel
theorem dX1_from_0 : decode cX1_from 0 = .ok (.iload_n 1, 1) := dk_27 (dk_at dksX1_from_0 0 rfl rfl)
theorem dX1_from_1 : decode cX1_from 1 = .ok (.ldc 23, 2) := dk_18 23 (dk_at dksX1_from_0 1 rfl rfl)
theorem dX1_from_3 : decode cX1_from 3 = .ok (.iand, 1) := dk_126 (dk_at dksX1_from_0 3 rfl rfl)
theorem dX1_from_4 : decode cX1_from 4 = .ok (.aload_n 0, 1) := dk_42 (dk_at dksX1_from_0 4 rfl rfl)
theorem dX1_from_5 : decode cX1_from 5 = .ok (.getfield 15, 3) := dk_180 0 15 (dk_at dksX1_from_0 5 rfl rfl)
theorem dX1_from_8 : decode cX1_from 8 = .ok (.iconst 1, 1) := dk_4 (dk_at dksX1_from_0 8 rfl rfl)
theorem dX1_from_9 : decode cX1_from 9 = .ok (.iadd, 1) := dk_96 (dk_at dksX1_from_0 9 rfl rfl)
theorem dX1_from_10 : decode cX1_from 10 = .ok (.irem, 1) := dk_112 (dk_at dksX1_from_0 10 rfl rfl)
theorem dX1_from_11 : decode cX1_from 11 = .ok (.ireturn, 1) := dk_172 (dk_at dksX1_from_0 11 rfl rfl)
abbrev cX1_count : ByteArray := prog_2_method_6_code
def yX1_count : MethodName := ⟨RX1, "count", "(II)I"⟩
def dkwX1_count_0 : List UInt8 := [28, 18, 23, 126, 42, 180, 0, 15, 27, 100, 4, 96, 112, 172]
abbrev dktX1_count_0 : List UInt8 := dkwX1_count_0 ++ []
theorem dksX1_count_0 : cX1_count.data.toList.drop 0 = dktX1_count_0 := by decide +kernel
theorem dX1_count_0 : decode cX1_count 0 = .ok (.iload_n 2, 1) := dk_28 (dk_at dksX1_count_0 0 rfl rfl)
theorem dX1_count_1 : decode cX1_count 1 = .ok (.ldc 23, 2) := dk_18 23 (dk_at dksX1_count_0 1 rfl rfl)
theorem dX1_count_3 : decode cX1_count 3 = .ok (.iand, 1) := dk_126 (dk_at dksX1_count_0 3 rfl rfl)
theorem dX1_count_4 : decode cX1_count 4 = .ok (.aload_n 0, 1) := dk_42 (dk_at dksX1_count_0 4 rfl rfl)
theorem dX1_count_5 : decode cX1_count 5 = .ok (.getfield 15, 3) := dk_180 0 15 (dk_at dksX1_count_0 5 rfl rfl)
theorem dX1_count_8 : decode cX1_count 8 = .ok (.iload_n 1, 1) := dk_27 (dk_at dksX1_count_0 8 rfl rfl)
theorem dX1_count_9 : decode cX1_count 9 = .ok (.isub, 1) := dk_100 (dk_at dksX1_count_0 9 rfl rfl)
theorem dX1_count_10 : decode cX1_count 10 = .ok (.iconst 1, 1) := dk_4 (dk_at dksX1_count_0 10 rfl rfl)
theorem dX1_count_11 : decode cX1_count 11 = .ok (.iadd, 1) := dk_96 (dk_at dksX1_count_0 11 rfl rfl)
theorem dX1_count_12 : decode cX1_count 12 = .ok (.irem, 1) := dk_112 (dk_at dksX1_count_0 12 rfl rfl)
theorem dX1_count_13 : decode cX1_count 13 = .ok (.ireturn, 1) := dk_172 (dk_at dksX1_count_0 13 rfl rfl)
abbrev cX1_merge : ByteArray := prog_2_method_8_code
def yX1_merge : MethodName := ⟨RX1, "merge", "(II)I"⟩
def dkwX1_merge_1 : List UInt8 := [184, 0, 40, 21, 4, 172]
abbrev dktX1_merge_1 : List UInt8 := dkwX1_merge_1 ++ []
def dkwX1_merge_0 : List UInt8 := [42, 27, 182, 0, 26, 62, 42, 29, 28, 182, 0, 30, 54, 4, 42, 180, 0, 7, 29, 29, 21, 4, 96]
abbrev dktX1_merge_0 : List UInt8 := dkwX1_merge_0 ++ dktX1_merge_1
theorem dksX1_merge_0 : cX1_merge.data.toList.drop 0 = dktX1_merge_0 := by decide +kernel
theorem dksX1_merge_1 : cX1_merge.data.toList.drop 23 = dktX1_merge_1 := dk_seg dksX1_merge_0 23 rfl rfl
theorem dX1_merge_0 : decode cX1_merge 0 = .ok (.aload_n 0, 1) := dk_42 (dk_at dksX1_merge_0 0 rfl rfl)
theorem dX1_merge_1 : decode cX1_merge 1 = .ok (.iload_n 1, 1) := dk_27 (dk_at dksX1_merge_0 1 rfl rfl)
theorem dX1_merge_2 : decode cX1_merge 2 = .ok (.invokevirtual 26, 3) := dk_182 0 26 (dk_at dksX1_merge_0 2 rfl rfl)
theorem dX1_merge_5 : decode cX1_merge 5 = .ok (.istore_n 3, 1) := dk_62 (dk_at dksX1_merge_0 5 rfl rfl)
theorem dX1_merge_6 : decode cX1_merge 6 = .ok (.aload_n 0, 1) := dk_42 (dk_at dksX1_merge_0 6 rfl rfl)
theorem dX1_merge_7 : decode cX1_merge 7 = .ok (.iload_n 3, 1) := dk_29 (dk_at dksX1_merge_0 7 rfl rfl)
theorem dX1_merge_8 : decode cX1_merge 8 = .ok (.iload_n 2, 1) := dk_28 (dk_at dksX1_merge_0 8 rfl rfl)
theorem dX1_merge_9 : decode cX1_merge 9 = .ok (.invokevirtual 30, 3) := dk_182 0 30 (dk_at dksX1_merge_0 9 rfl rfl)
theorem dX1_merge_12 : decode cX1_merge 12 = .ok (.istore 4, 2) := dk_54 4 (dk_at dksX1_merge_0 12 rfl rfl)
theorem dX1_merge_14 : decode cX1_merge 14 = .ok (.aload_n 0, 1) := dk_42 (dk_at dksX1_merge_0 14 rfl rfl)
theorem dX1_merge_15 : decode cX1_merge 15 = .ok (.getfield 7, 3) := dk_180 0 7 (dk_at dksX1_merge_0 15 rfl rfl)
theorem dX1_merge_18 : decode cX1_merge 18 = .ok (.iload_n 3, 1) := dk_29 (dk_at dksX1_merge_0 18 rfl rfl)
theorem dX1_merge_19 : decode cX1_merge 19 = .ok (.iload_n 3, 1) := dk_29 (dk_at dksX1_merge_0 19 rfl rfl)
theorem dX1_merge_20 : decode cX1_merge 20 = .ok (.iload 4, 2) := dk_21 4 (dk_at dksX1_merge_0 20 rfl rfl)
theorem dX1_merge_22 : decode cX1_merge 22 = .ok (.iadd, 1) := dk_96 (dk_at dksX1_merge_0 22 rfl rfl)
theorem dX1_merge_23 : decode cX1_merge 23 = .ok (.invokestatic 40, 3) := dk_184 0 40 (dk_at dksX1_merge_1 0 rfl rfl)
theorem dX1_merge_26 : decode cX1_merge 26 = .ok (.iload 4, 2) := dk_21 4 (dk_at dksX1_merge_1 3 rfl rfl)
theorem dX1_merge_28 : decode cX1_merge 28 = .ok (.ireturn, 1) := dk_172 (dk_at dksX1_merge_1 5 rfl rfl)
abbrev cX1_radix : ByteArray := prog_2_method_9_code
def yX1_radix : MethodName := ⟨RX1, "radix", "(II)I"⟩
def dkwX1_radix_1 : List UInt8 := [184, 0, 43, 21, 4, 172]
abbrev dktX1_radix_1 : List UInt8 := dkwX1_radix_1 ++ []
def dkwX1_radix_0 : List UInt8 := [42, 27, 182, 0, 26, 62, 42, 29, 28, 182, 0, 30, 54, 4, 42, 180, 0, 7, 29, 29, 21, 4, 96]
abbrev dktX1_radix_0 : List UInt8 := dkwX1_radix_0 ++ dktX1_radix_1
theorem dksX1_radix_0 : cX1_radix.data.toList.drop 0 = dktX1_radix_0 := by decide +kernel
theorem dksX1_radix_1 : cX1_radix.data.toList.drop 23 = dktX1_radix_1 := dk_seg dksX1_radix_0 23 rfl rfl
theorem dX1_radix_0 : decode cX1_radix 0 = .ok (.aload_n 0, 1) := dk_42 (dk_at dksX1_radix_0 0 rfl rfl)
theorem dX1_radix_1 : decode cX1_radix 1 = .ok (.iload_n 1, 1) := dk_27 (dk_at dksX1_radix_0 1 rfl rfl)
theorem dX1_radix_2 : decode cX1_radix 2 = .ok (.invokevirtual 26, 3) := dk_182 0 26 (dk_at dksX1_radix_0 2 rfl rfl)
theorem dX1_radix_5 : decode cX1_radix 5 = .ok (.istore_n 3, 1) := dk_62 (dk_at dksX1_radix_0 5 rfl rfl)
theorem dX1_radix_6 : decode cX1_radix 6 = .ok (.aload_n 0, 1) := dk_42 (dk_at dksX1_radix_0 6 rfl rfl)
theorem dX1_radix_7 : decode cX1_radix 7 = .ok (.iload_n 3, 1) := dk_29 (dk_at dksX1_radix_0 7 rfl rfl)
theorem dX1_radix_8 : decode cX1_radix 8 = .ok (.iload_n 2, 1) := dk_28 (dk_at dksX1_radix_0 8 rfl rfl)
theorem dX1_radix_9 : decode cX1_radix 9 = .ok (.invokevirtual 30, 3) := dk_182 0 30 (dk_at dksX1_radix_0 9 rfl rfl)
theorem dX1_radix_12 : decode cX1_radix 12 = .ok (.istore 4, 2) := dk_54 4 (dk_at dksX1_radix_0 12 rfl rfl)
theorem dX1_radix_14 : decode cX1_radix 14 = .ok (.aload_n 0, 1) := dk_42 (dk_at dksX1_radix_0 14 rfl rfl)
theorem dX1_radix_15 : decode cX1_radix 15 = .ok (.getfield 7, 3) := dk_180 0 7 (dk_at dksX1_radix_0 15 rfl rfl)
theorem dX1_radix_18 : decode cX1_radix 18 = .ok (.iload_n 3, 1) := dk_29 (dk_at dksX1_radix_0 18 rfl rfl)
theorem dX1_radix_19 : decode cX1_radix 19 = .ok (.iload_n 3, 1) := dk_29 (dk_at dksX1_radix_0 19 rfl rfl)
theorem dX1_radix_20 : decode cX1_radix 20 = .ok (.iload 4, 2) := dk_21 4 (dk_at dksX1_radix_0 20 rfl rfl)
theorem dX1_radix_22 : decode cX1_radix 22 = .ok (.iadd, 1) := dk_96 (dk_at dksX1_radix_0 22 rfl rfl)
theorem dX1_radix_23 : decode cX1_radix 23 = .ok (.invokestatic 43, 3) := dk_184 0 43 (dk_at dksX1_radix_1 0 rfl rfl)
theorem dX1_radix_26 : decode cX1_radix 26 = .ok (.iload 4, 2) := dk_21 4 (dk_at dksX1_radix_1 3 rfl rfl)
theorem dX1_radix_28 : decode cX1_radix 28 = .ok (.ireturn, 1) := dk_172 (dk_at dksX1_radix_1 5 rfl rfl)
abbrev cX1_row : ByteArray := prog_2_method_10_code
def yX1_row : MethodName := ⟨RX1, "row", "(I)J"⟩
def dkwX1_row_1 : List UInt8 := [47, 173]
abbrev dktX1_row_1 : List UInt8 := dkwX1_row_1 ++ []
def dkwX1_row_0 : List UInt8 := [42, 180, 0, 15, 154, 0, 7, 9, 167, 0, 17, 42, 180, 0, 7, 27, 18, 23, 126, 42, 180, 0, 15, 112]
abbrev dktX1_row_0 : List UInt8 := dkwX1_row_0 ++ dktX1_row_1
theorem dksX1_row_0 : cX1_row.data.toList.drop 0 = dktX1_row_0 := by decide +kernel
theorem dksX1_row_1 : cX1_row.data.toList.drop 24 = dktX1_row_1 := dk_seg dksX1_row_0 24 rfl rfl
theorem dX1_row_0 : decode cX1_row 0 = .ok (.aload_n 0, 1) := dk_42 (dk_at dksX1_row_0 0 rfl rfl)
theorem dX1_row_1 : decode cX1_row 1 = .ok (.getfield 15, 3) := dk_180 0 15 (dk_at dksX1_row_0 1 rfl rfl)
theorem dX1_row_4 : decode cX1_row 4 = .ok (.ifCond .ne 7, 3) := dk_154 0 7 (dk_at dksX1_row_0 4 rfl rfl)
theorem dX1_row_7 : decode cX1_row 7 = .ok (.lconst 0, 1) := dk_9 (dk_at dksX1_row_0 7 rfl rfl)
theorem dX1_row_8 : decode cX1_row 8 = .ok (.goto 17, 3) := dk_167 0 17 (dk_at dksX1_row_0 8 rfl rfl)
theorem dX1_row_11 : decode cX1_row 11 = .ok (.aload_n 0, 1) := dk_42 (dk_at dksX1_row_0 11 rfl rfl)
theorem dX1_row_12 : decode cX1_row 12 = .ok (.getfield 7, 3) := dk_180 0 7 (dk_at dksX1_row_0 12 rfl rfl)
theorem dX1_row_15 : decode cX1_row 15 = .ok (.iload_n 1, 1) := dk_27 (dk_at dksX1_row_0 15 rfl rfl)
theorem dX1_row_16 : decode cX1_row 16 = .ok (.ldc 23, 2) := dk_18 23 (dk_at dksX1_row_0 16 rfl rfl)
theorem dX1_row_18 : decode cX1_row 18 = .ok (.iand, 1) := dk_126 (dk_at dksX1_row_0 18 rfl rfl)
theorem dX1_row_19 : decode cX1_row 19 = .ok (.aload_n 0, 1) := dk_42 (dk_at dksX1_row_0 19 rfl rfl)
theorem dX1_row_20 : decode cX1_row 20 = .ok (.getfield 15, 3) := dk_180 0 15 (dk_at dksX1_row_0 20 rfl rfl)
theorem dX1_row_23 : decode cX1_row 23 = .ok (.irem, 1) := dk_112 (dk_at dksX1_row_0 23 rfl rfl)
theorem dX1_row_24 : decode cX1_row 24 = .ok (.laload, 1) := dk_47 (dk_at dksX1_row_1 0 rfl rfl)
theorem dX1_row_25 : decode cX1_row 25 = .ok (.lreturn, 1) := dk_173 (dk_at dksX1_row_1 1 rfl rfl)
abbrev cX1_init : ByteArray := prog_2_method_1_code
def yX1_init : MethodName := ⟨RX1, "<init>", "()V"⟩
def dkwX1_init_0 : List UInt8 := [42, 183, 0, 1, 42, 17, 16, 0, 188, 11, 181, 0, 7, 177]
abbrev dktX1_init_0 : List UInt8 := dkwX1_init_0 ++ []
theorem dksX1_init_0 : cX1_init.data.toList.drop 0 = dktX1_init_0 := by decide +kernel
theorem dX1_init_0 : decode cX1_init 0 = .ok (.aload_n 0, 1) := dk_42 (dk_at dksX1_init_0 0 rfl rfl)
theorem dX1_init_1 : decode cX1_init 1 = .ok (.invokespecial 1, 3) := dk_183 0 1 (dk_at dksX1_init_0 1 rfl rfl)
theorem dX1_init_4 : decode cX1_init 4 = .ok (.aload_n 0, 1) := dk_42 (dk_at dksX1_init_0 4 rfl rfl)
theorem dX1_init_5 : decode cX1_init 5 = .ok (.sipush 4096, 3) := dk_17 16 0 (dk_at dksX1_init_0 5 rfl rfl)
theorem dX1_init_8 : decode cX1_init 8 = .ok (.newarray .long, 2) := dk_188_11 (dk_at dksX1_init_0 8 rfl rfl)
theorem dX1_init_10 : decode cX1_init 10 = .ok (.putfield 7, 3) := dk_181 0 7 (dk_at dksX1_init_0 10 rfl rfl)
theorem dX1_init_13 : decode cX1_init 13 = .ok (.return_, 1) := dk_177 (dk_at dksX1_init_0 13 rfl rfl)
abbrev cX1_put : ByteArray := prog_2_method_3_code
def yX1_put : MethodName := ⟨RX1, "put", "(II)Z"⟩
def dkwX1_put_1 : List UInt8 := [181, 0, 15, 27, 28, 184, 0, 19, 80, 4, 172]
abbrev dktX1_put_1 : List UInt8 := dkwX1_put_1 ++ []
def dkwX1_put_0 : List UInt8 := [42, 180, 0, 15, 17, 16, 0, 161, 0, 5, 3, 172, 42, 180, 0, 7, 42, 89, 180, 0, 15, 90, 4, 96]
abbrev dktX1_put_0 : List UInt8 := dkwX1_put_0 ++ dktX1_put_1
theorem dksX1_put_0 : cX1_put.data.toList.drop 0 = dktX1_put_0 := by decide +kernel
theorem dksX1_put_1 : cX1_put.data.toList.drop 24 = dktX1_put_1 := dk_seg dksX1_put_0 24 rfl rfl
theorem dX1_put_0 : decode cX1_put 0 = .ok (.aload_n 0, 1) := dk_42 (dk_at dksX1_put_0 0 rfl rfl)
theorem dX1_put_1 : decode cX1_put 1 = .ok (.getfield 15, 3) := dk_180 0 15 (dk_at dksX1_put_0 1 rfl rfl)
theorem dX1_put_4 : decode cX1_put 4 = .ok (.sipush 4096, 3) := dk_17 16 0 (dk_at dksX1_put_0 4 rfl rfl)
theorem dX1_put_7 : decode cX1_put 7 = .ok (.if_icmp .lt 5, 3) := dk_161 0 5 (dk_at dksX1_put_0 7 rfl rfl)
theorem dX1_put_10 : decode cX1_put 10 = .ok (.iconst 0, 1) := dk_3 (dk_at dksX1_put_0 10 rfl rfl)
theorem dX1_put_11 : decode cX1_put 11 = .ok (.ireturn, 1) := dk_172 (dk_at dksX1_put_0 11 rfl rfl)
theorem dX1_put_12 : decode cX1_put 12 = .ok (.aload_n 0, 1) := dk_42 (dk_at dksX1_put_0 12 rfl rfl)
theorem dX1_put_13 : decode cX1_put 13 = .ok (.getfield 7, 3) := dk_180 0 7 (dk_at dksX1_put_0 13 rfl rfl)
theorem dX1_put_16 : decode cX1_put 16 = .ok (.aload_n 0, 1) := dk_42 (dk_at dksX1_put_0 16 rfl rfl)
theorem dX1_put_17 : decode cX1_put 17 = .ok (.dup, 1) := dk_89 (dk_at dksX1_put_0 17 rfl rfl)
theorem dX1_put_18 : decode cX1_put 18 = .ok (.getfield 15, 3) := dk_180 0 15 (dk_at dksX1_put_0 18 rfl rfl)
theorem dX1_put_21 : decode cX1_put 21 = .ok (.dup_x1, 1) := dk_90 (dk_at dksX1_put_0 21 rfl rfl)
theorem dX1_put_22 : decode cX1_put 22 = .ok (.iconst 1, 1) := dk_4 (dk_at dksX1_put_0 22 rfl rfl)
theorem dX1_put_23 : decode cX1_put 23 = .ok (.iadd, 1) := dk_96 (dk_at dksX1_put_0 23 rfl rfl)
theorem dX1_put_24 : decode cX1_put 24 = .ok (.putfield 15, 3) := dk_181 0 15 (dk_at dksX1_put_1 0 rfl rfl)
theorem dX1_put_27 : decode cX1_put 27 = .ok (.iload_n 1, 1) := dk_27 (dk_at dksX1_put_1 3 rfl rfl)
theorem dX1_put_28 : decode cX1_put 28 = .ok (.iload_n 2, 1) := dk_28 (dk_at dksX1_put_1 4 rfl rfl)
theorem dX1_put_29 : decode cX1_put 29 = .ok (.invokestatic 19, 3) := dk_184 0 19 (dk_at dksX1_put_1 5 rfl rfl)
theorem dX1_put_32 : decode cX1_put 32 = .ok (.lastore, 1) := dk_80 (dk_at dksX1_put_1 8 rfl rfl)
theorem dX1_put_33 : decode cX1_put 33 = .ok (.iconst 1, 1) := dk_4 (dk_at dksX1_put_1 9 rfl rfl)
theorem dX1_put_34 : decode cX1_put 34 = .ok (.ireturn, 1) := dk_172 (dk_at dksX1_put_1 10 rfl rfl)
abbrev cX1_wide : ByteArray := prog_2_method_2_code
def yX1_wide : MethodName := ⟨RX1, "wide", "(II)J"⟩
def dkwX1_wide_0 : List UInt8 := [26, 133, 16, 32, 121, 27, 133, 20, 0, 13, 127, 129, 173]
abbrev dktX1_wide_0 : List UInt8 := dkwX1_wide_0 ++ []
theorem dksX1_wide_0 : cX1_wide.data.toList.drop 0 = dktX1_wide_0 := by decide +kernel
theorem dX1_wide_0 : decode cX1_wide 0 = .ok (.iload_n 0, 1) := dk_26 (dk_at dksX1_wide_0 0 rfl rfl)
theorem dX1_wide_1 : decode cX1_wide 1 = .ok (.i2l, 1) := dk_133 (dk_at dksX1_wide_0 1 rfl rfl)
theorem dX1_wide_2 : decode cX1_wide 2 = .ok (.bipush 32, 2) := dk_16 32 (dk_at dksX1_wide_0 2 rfl rfl)
theorem dX1_wide_4 : decode cX1_wide 4 = .ok (.lshl, 1) := dk_121 (dk_at dksX1_wide_0 4 rfl rfl)
theorem dX1_wide_5 : decode cX1_wide 5 = .ok (.iload_n 1, 1) := dk_27 (dk_at dksX1_wide_0 5 rfl rfl)
theorem dX1_wide_6 : decode cX1_wide 6 = .ok (.i2l, 1) := dk_133 (dk_at dksX1_wide_0 6 rfl rfl)
theorem dX1_wide_7 : decode cX1_wide 7 = .ok (.ldc2_w 13, 3) := dk_20 0 13 (dk_at dksX1_wide_0 7 rfl rfl)
theorem dX1_wide_10 : decode cX1_wide 10 = .ok (.land, 1) := dk_127 (dk_at dksX1_wide_0 10 rfl rfl)
theorem dX1_wide_11 : decode cX1_wide 11 = .ok (.lor, 1) := dk_129 (dk_at dksX1_wide_0 11 rfl rfl)
theorem dX1_wide_12 : decode cX1_wide 12 = .ok (.lreturn, 1) := dk_173 (dk_at dksX1_wide_0 12 rfl rfl)
abbrev cX1_ramp : ByteArray := prog_2_method_4_code
def yX1_ramp : MethodName := ⟨RX1, "ramp", "(IIII)I"⟩
def dkwX1_ramp_3 : List UInt8 := [20, 0, 24, 105, 97, 80, 132, 6, 1, 167, 255, 213, 21, 5, 172]
abbrev dktX1_ramp_3 : List UInt8 := dkwX1_ramp_3 ++ []
def dkwX1_ramp_2 : List UInt8 := [42, 89, 180, 0, 15, 90, 4, 96, 181, 0, 15, 28, 29, 184, 0, 19, 21, 6, 133, 21, 4, 133, 105]
abbrev dktX1_ramp_2 : List UInt8 := dkwX1_ramp_2 ++ dktX1_ramp_3
def dkwX1_ramp_1 : List UInt8 := [17, 16, 0, 42, 180, 0, 15, 100, 54, 5, 3, 54, 6, 21, 6, 21, 5, 162, 0, 42, 42, 180, 0, 7]
abbrev dktX1_ramp_1 : List UInt8 := dkwX1_ramp_1 ++ dktX1_ramp_2
def dkwX1_ramp_0 : List UInt8 := [27, 18, 23, 126, 17, 1, 1, 112, 54, 5, 21, 5, 17, 16, 0, 42, 180, 0, 15, 100, 164, 0, 13]
abbrev dktX1_ramp_0 : List UInt8 := dkwX1_ramp_0 ++ dktX1_ramp_1
theorem dksX1_ramp_0 : cX1_ramp.data.toList.drop 0 = dktX1_ramp_0 := by decide +kernel
theorem dksX1_ramp_1 : cX1_ramp.data.toList.drop 23 = dktX1_ramp_1 := dk_seg dksX1_ramp_0 23 rfl rfl
theorem dksX1_ramp_2 : cX1_ramp.data.toList.drop 47 = dktX1_ramp_2 := dk_seg dksX1_ramp_1 24 rfl rfl
theorem dksX1_ramp_3 : cX1_ramp.data.toList.drop 70 = dktX1_ramp_3 := dk_seg dksX1_ramp_2 23 rfl rfl
theorem dX1_ramp_0 : decode cX1_ramp 0 = .ok (.iload_n 1, 1) := dk_27 (dk_at dksX1_ramp_0 0 rfl rfl)
theorem dX1_ramp_1 : decode cX1_ramp 1 = .ok (.ldc 23, 2) := dk_18 23 (dk_at dksX1_ramp_0 1 rfl rfl)
theorem dX1_ramp_3 : decode cX1_ramp 3 = .ok (.iand, 1) := dk_126 (dk_at dksX1_ramp_0 3 rfl rfl)
theorem dX1_ramp_4 : decode cX1_ramp 4 = .ok (.sipush 257, 3) := dk_17 1 1 (dk_at dksX1_ramp_0 4 rfl rfl)
theorem dX1_ramp_7 : decode cX1_ramp 7 = .ok (.irem, 1) := dk_112 (dk_at dksX1_ramp_0 7 rfl rfl)
theorem dX1_ramp_8 : decode cX1_ramp 8 = .ok (.istore 5, 2) := dk_54 5 (dk_at dksX1_ramp_0 8 rfl rfl)
theorem dX1_ramp_10 : decode cX1_ramp 10 = .ok (.iload 5, 2) := dk_21 5 (dk_at dksX1_ramp_0 10 rfl rfl)
theorem dX1_ramp_12 : decode cX1_ramp 12 = .ok (.sipush 4096, 3) := dk_17 16 0 (dk_at dksX1_ramp_0 12 rfl rfl)
theorem dX1_ramp_15 : decode cX1_ramp 15 = .ok (.aload_n 0, 1) := dk_42 (dk_at dksX1_ramp_0 15 rfl rfl)
theorem dX1_ramp_16 : decode cX1_ramp 16 = .ok (.getfield 15, 3) := dk_180 0 15 (dk_at dksX1_ramp_0 16 rfl rfl)
theorem dX1_ramp_19 : decode cX1_ramp 19 = .ok (.isub, 1) := dk_100 (dk_at dksX1_ramp_0 19 rfl rfl)
theorem dX1_ramp_20 : decode cX1_ramp 20 = .ok (.if_icmp .le 13, 3) := dk_164 0 13 (dk_at dksX1_ramp_0 20 rfl rfl)
theorem dX1_ramp_23 : decode cX1_ramp 23 = .ok (.sipush 4096, 3) := dk_17 16 0 (dk_at dksX1_ramp_1 0 rfl rfl)
theorem dX1_ramp_26 : decode cX1_ramp 26 = .ok (.aload_n 0, 1) := dk_42 (dk_at dksX1_ramp_1 3 rfl rfl)
theorem dX1_ramp_27 : decode cX1_ramp 27 = .ok (.getfield 15, 3) := dk_180 0 15 (dk_at dksX1_ramp_1 4 rfl rfl)
theorem dX1_ramp_30 : decode cX1_ramp 30 = .ok (.isub, 1) := dk_100 (dk_at dksX1_ramp_1 7 rfl rfl)
theorem dX1_ramp_31 : decode cX1_ramp 31 = .ok (.istore 5, 2) := dk_54 5 (dk_at dksX1_ramp_1 8 rfl rfl)
theorem dX1_ramp_33 : decode cX1_ramp 33 = .ok (.iconst 0, 1) := dk_3 (dk_at dksX1_ramp_1 10 rfl rfl)
theorem dX1_ramp_34 : decode cX1_ramp 34 = .ok (.istore 6, 2) := dk_54 6 (dk_at dksX1_ramp_1 11 rfl rfl)
theorem dX1_ramp_36 : decode cX1_ramp 36 = .ok (.iload 6, 2) := dk_21 6 (dk_at dksX1_ramp_1 13 rfl rfl)
theorem dX1_ramp_38 : decode cX1_ramp 38 = .ok (.iload 5, 2) := dk_21 5 (dk_at dksX1_ramp_1 15 rfl rfl)
theorem dX1_ramp_40 : decode cX1_ramp 40 = .ok (.if_icmp .ge 42, 3) := dk_162 0 42 (dk_at dksX1_ramp_1 17 rfl rfl)
theorem dX1_ramp_43 : decode cX1_ramp 43 = .ok (.aload_n 0, 1) := dk_42 (dk_at dksX1_ramp_1 20 rfl rfl)
theorem dX1_ramp_44 : decode cX1_ramp 44 = .ok (.getfield 7, 3) := dk_180 0 7 (dk_at dksX1_ramp_1 21 rfl rfl)
theorem dX1_ramp_47 : decode cX1_ramp 47 = .ok (.aload_n 0, 1) := dk_42 (dk_at dksX1_ramp_2 0 rfl rfl)
theorem dX1_ramp_48 : decode cX1_ramp 48 = .ok (.dup, 1) := dk_89 (dk_at dksX1_ramp_2 1 rfl rfl)
theorem dX1_ramp_49 : decode cX1_ramp 49 = .ok (.getfield 15, 3) := dk_180 0 15 (dk_at dksX1_ramp_2 2 rfl rfl)
theorem dX1_ramp_52 : decode cX1_ramp 52 = .ok (.dup_x1, 1) := dk_90 (dk_at dksX1_ramp_2 5 rfl rfl)
theorem dX1_ramp_53 : decode cX1_ramp 53 = .ok (.iconst 1, 1) := dk_4 (dk_at dksX1_ramp_2 6 rfl rfl)
theorem dX1_ramp_54 : decode cX1_ramp 54 = .ok (.iadd, 1) := dk_96 (dk_at dksX1_ramp_2 7 rfl rfl)
theorem dX1_ramp_55 : decode cX1_ramp 55 = .ok (.putfield 15, 3) := dk_181 0 15 (dk_at dksX1_ramp_2 8 rfl rfl)
theorem dX1_ramp_58 : decode cX1_ramp 58 = .ok (.iload_n 2, 1) := dk_28 (dk_at dksX1_ramp_2 11 rfl rfl)
theorem dX1_ramp_59 : decode cX1_ramp 59 = .ok (.iload_n 3, 1) := dk_29 (dk_at dksX1_ramp_2 12 rfl rfl)
theorem dX1_ramp_60 : decode cX1_ramp 60 = .ok (.invokestatic 19, 3) := dk_184 0 19 (dk_at dksX1_ramp_2 13 rfl rfl)
theorem dX1_ramp_63 : decode cX1_ramp 63 = .ok (.iload 6, 2) := dk_21 6 (dk_at dksX1_ramp_2 16 rfl rfl)
theorem dX1_ramp_65 : decode cX1_ramp 65 = .ok (.i2l, 1) := dk_133 (dk_at dksX1_ramp_2 18 rfl rfl)
theorem dX1_ramp_66 : decode cX1_ramp 66 = .ok (.iload 4, 2) := dk_21 4 (dk_at dksX1_ramp_2 19 rfl rfl)
theorem dX1_ramp_68 : decode cX1_ramp 68 = .ok (.i2l, 1) := dk_133 (dk_at dksX1_ramp_2 21 rfl rfl)
theorem dX1_ramp_69 : decode cX1_ramp 69 = .ok (.lmul, 1) := dk_105 (dk_at dksX1_ramp_2 22 rfl rfl)
theorem dX1_ramp_70 : decode cX1_ramp 70 = .ok (.ldc2_w 24, 3) := dk_20 0 24 (dk_at dksX1_ramp_3 0 rfl rfl)
theorem dX1_ramp_73 : decode cX1_ramp 73 = .ok (.lmul, 1) := dk_105 (dk_at dksX1_ramp_3 3 rfl rfl)
theorem dX1_ramp_74 : decode cX1_ramp 74 = .ok (.ladd, 1) := dk_97 (dk_at dksX1_ramp_3 4 rfl rfl)
theorem dX1_ramp_75 : decode cX1_ramp 75 = .ok (.lastore, 1) := dk_80 (dk_at dksX1_ramp_3 5 rfl rfl)
theorem dX1_ramp_76 : decode cX1_ramp 76 = .ok (.iinc 6 1, 3) := dk_132 6 1 (dk_at dksX1_ramp_3 6 rfl rfl)
theorem dX1_ramp_79 : decode cX1_ramp 79 = .ok (.goto (-43), 3) := dk_167 255 213 (dk_at dksX1_ramp_3 9 rfl rfl)
theorem dX1_ramp_82 : decode cX1_ramp 82 = .ok (.iload 5, 2) := dk_21 5 (dk_at dksX1_ramp_3 12 rfl rfl)
theorem dX1_ramp_84 : decode cX1_ramp 84 = .ok (.ireturn, 1) := dk_172 (dk_at dksX1_ramp_3 14 rfl rfl)
abbrev cX1_find : ByteArray := prog_2_method_11_code
def yX1_find : MethodName := ⟨RX1, "find", "(II)I"⟩
def dkwX1_find_2 : List UInt8 := [184, 0, 19, 148, 154, 0, 9, 17, 16, 0, 167, 0, 6, 17, 16, 1, 172]
abbrev dktX1_find_2 : List UInt8 := dkwX1_find_2 ++ []
def dkwX1_find_1 : List UInt8 := [184, 0, 19, 184, 0, 46, 62, 29, 156, 0, 7, 29, 167, 0, 27, 42, 180, 0, 7, 29, 47, 27, 28]
abbrev dktX1_find_1 : List UInt8 := dkwX1_find_1 ++ dktX1_find_2
def dkwX1_find_0 : List UInt8 := [42, 180, 0, 7, 3, 42, 180, 0, 15, 184, 0, 40, 42, 180, 0, 7, 3, 42, 180, 0, 15, 27, 28]
abbrev dktX1_find_0 : List UInt8 := dkwX1_find_0 ++ dktX1_find_1
theorem dksX1_find_0 : cX1_find.data.toList.drop 0 = dktX1_find_0 := by decide +kernel
theorem dksX1_find_1 : cX1_find.data.toList.drop 23 = dktX1_find_1 := dk_seg dksX1_find_0 23 rfl rfl
theorem dksX1_find_2 : cX1_find.data.toList.drop 46 = dktX1_find_2 := dk_seg dksX1_find_1 23 rfl rfl
theorem dX1_find_0 : decode cX1_find 0 = .ok (.aload_n 0, 1) := dk_42 (dk_at dksX1_find_0 0 rfl rfl)
theorem dX1_find_1 : decode cX1_find 1 = .ok (.getfield 7, 3) := dk_180 0 7 (dk_at dksX1_find_0 1 rfl rfl)
theorem dX1_find_4 : decode cX1_find 4 = .ok (.iconst 0, 1) := dk_3 (dk_at dksX1_find_0 4 rfl rfl)
theorem dX1_find_5 : decode cX1_find 5 = .ok (.aload_n 0, 1) := dk_42 (dk_at dksX1_find_0 5 rfl rfl)
theorem dX1_find_6 : decode cX1_find 6 = .ok (.getfield 15, 3) := dk_180 0 15 (dk_at dksX1_find_0 6 rfl rfl)
theorem dX1_find_9 : decode cX1_find 9 = .ok (.invokestatic 40, 3) := dk_184 0 40 (dk_at dksX1_find_0 9 rfl rfl)
theorem dX1_find_12 : decode cX1_find 12 = .ok (.aload_n 0, 1) := dk_42 (dk_at dksX1_find_0 12 rfl rfl)
theorem dX1_find_13 : decode cX1_find 13 = .ok (.getfield 7, 3) := dk_180 0 7 (dk_at dksX1_find_0 13 rfl rfl)
theorem dX1_find_16 : decode cX1_find 16 = .ok (.iconst 0, 1) := dk_3 (dk_at dksX1_find_0 16 rfl rfl)
theorem dX1_find_17 : decode cX1_find 17 = .ok (.aload_n 0, 1) := dk_42 (dk_at dksX1_find_0 17 rfl rfl)
theorem dX1_find_18 : decode cX1_find 18 = .ok (.getfield 15, 3) := dk_180 0 15 (dk_at dksX1_find_0 18 rfl rfl)
theorem dX1_find_21 : decode cX1_find 21 = .ok (.iload_n 1, 1) := dk_27 (dk_at dksX1_find_0 21 rfl rfl)
theorem dX1_find_22 : decode cX1_find 22 = .ok (.iload_n 2, 1) := dk_28 (dk_at dksX1_find_0 22 rfl rfl)
theorem dX1_find_23 : decode cX1_find 23 = .ok (.invokestatic 19, 3) := dk_184 0 19 (dk_at dksX1_find_1 0 rfl rfl)
theorem dX1_find_26 : decode cX1_find 26 = .ok (.invokestatic 46, 3) := dk_184 0 46 (dk_at dksX1_find_1 3 rfl rfl)
theorem dX1_find_29 : decode cX1_find 29 = .ok (.istore_n 3, 1) := dk_62 (dk_at dksX1_find_1 6 rfl rfl)
theorem dX1_find_30 : decode cX1_find 30 = .ok (.iload_n 3, 1) := dk_29 (dk_at dksX1_find_1 7 rfl rfl)
theorem dX1_find_31 : decode cX1_find 31 = .ok (.ifCond .ge 7, 3) := dk_156 0 7 (dk_at dksX1_find_1 8 rfl rfl)
theorem dX1_find_34 : decode cX1_find 34 = .ok (.iload_n 3, 1) := dk_29 (dk_at dksX1_find_1 11 rfl rfl)
theorem dX1_find_35 : decode cX1_find 35 = .ok (.goto 27, 3) := dk_167 0 27 (dk_at dksX1_find_1 12 rfl rfl)
theorem dX1_find_38 : decode cX1_find 38 = .ok (.aload_n 0, 1) := dk_42 (dk_at dksX1_find_1 15 rfl rfl)
theorem dX1_find_39 : decode cX1_find 39 = .ok (.getfield 7, 3) := dk_180 0 7 (dk_at dksX1_find_1 16 rfl rfl)
theorem dX1_find_42 : decode cX1_find 42 = .ok (.iload_n 3, 1) := dk_29 (dk_at dksX1_find_1 19 rfl rfl)
theorem dX1_find_43 : decode cX1_find 43 = .ok (.laload, 1) := dk_47 (dk_at dksX1_find_1 20 rfl rfl)
theorem dX1_find_44 : decode cX1_find 44 = .ok (.iload_n 1, 1) := dk_27 (dk_at dksX1_find_1 21 rfl rfl)
theorem dX1_find_45 : decode cX1_find 45 = .ok (.iload_n 2, 1) := dk_28 (dk_at dksX1_find_1 22 rfl rfl)
theorem dX1_find_46 : decode cX1_find 46 = .ok (.invokestatic 19, 3) := dk_184 0 19 (dk_at dksX1_find_2 0 rfl rfl)
theorem dX1_find_49 : decode cX1_find 49 = .ok (.lcmp, 1) := dk_148 (dk_at dksX1_find_2 3 rfl rfl)
theorem dX1_find_50 : decode cX1_find 50 = .ok (.ifCond .ne 9, 3) := dk_154 0 9 (dk_at dksX1_find_2 4 rfl rfl)
theorem dX1_find_53 : decode cX1_find 53 = .ok (.sipush 4096, 3) := dk_17 16 0 (dk_at dksX1_find_2 7 rfl rfl)
theorem dX1_find_56 : decode cX1_find 56 = .ok (.goto 6, 3) := dk_167 0 6 (dk_at dksX1_find_2 10 rfl rfl)
theorem dX1_find_59 : decode cX1_find 59 = .ok (.sipush 4097, 3) := dk_17 16 1 (dk_at dksX1_find_2 13 rfl rfl)
theorem dX1_find_62 : decode cX1_find 62 = .ok (.ireturn, 1) := dk_172 (dk_at dksX1_find_2 16 rfl rfl)
abbrev cX1_empty : ByteArray := prog_2_method_12_code
def yX1_empty : MethodName := ⟨RX1, "empty", "()V"⟩
def dkwX1_empty_0 : List UInt8 := [42, 3, 181, 0, 15, 177]
abbrev dktX1_empty_0 : List UInt8 := dkwX1_empty_0 ++ []
theorem dksX1_empty_0 : cX1_empty.data.toList.drop 0 = dktX1_empty_0 := by decide +kernel
theorem dX1_empty_0 : decode cX1_empty 0 = .ok (.aload_n 0, 1) := dk_42 (dk_at dksX1_empty_0 0 rfl rfl)
theorem dX1_empty_1 : decode cX1_empty 1 = .ok (.iconst 0, 1) := dk_3 (dk_at dksX1_empty_0 1 rfl rfl)
theorem dX1_empty_2 : decode cX1_empty 2 = .ok (.putfield 15, 3) := dk_181 0 15 (dk_at dksX1_empty_0 2 rfl rfl)
theorem dX1_empty_5 : decode cX1_empty 5 = .ok (.return_, 1) := dk_177 (dk_at dksX1_empty_0 5 rfl rfl)
theorem q3 : (Jvm.Cond.initialized "LongSortDesk") ∈ lw_all := lw_g (lw_at lw_m0 1 rfl) rfl
theorem q10 : (Jvm.Cond.instanceMethod ({ cls := "LongSortDesk", name := "quick", desc := "(II)I" } : Jvm.MethodName)) ∈ lw_all := lw_g (lw_at lw_m0 8 rfl) rfl
theorem q11 : (Jvm.Cond.selects "LongSortDesk" ({ cls := "LongSortDesk", name := "quick", desc := "(II)I" } : Jvm.MethodName) ({ cls := "LongSortDesk", name := "quick", desc := "(II)I" } : Jvm.MethodName)) ∈ lw_all := lw_g (lw_at lw_m0 9 rfl) rfl
theorem q12 : (Jvm.Cond.code ({ cls := "LongSortDesk", name := "quick", desc := "(II)I" } : Jvm.MethodName) prog_2_method_7_code (5 : Nat) (Option.some Jvm.ClassFile.FieldType.int)) ∈ lw_all := lw_g (lw_at lw_m0 10 rfl) rfl
theorem q13 : (Jvm.Cond.methodLink "LongSortDesk" (26 : Nat) ({ cls := "LongSortDesk", name := "from", desc := "(I)I" } : Jvm.MethodName)) ∈ lw_all := lw_g (lw_at lw_m0 11 rfl) rfl
theorem q14 : (Jvm.Cond.privateMethod ({ cls := "LongSortDesk", name := "from", desc := "(I)I" } : Jvm.MethodName)) ∈ lw_tbl := lw_at lw_m0 12 rfl
theorem q15 : (Jvm.Cond.instanceMethod ({ cls := "LongSortDesk", name := "from", desc := "(I)I" } : Jvm.MethodName)) ∈ lw_all := lw_g (lw_at lw_m0 13 rfl) rfl
theorem q16 : (Jvm.Cond.instantiable "LongSortDesk" (2 : Nat)) ∈ lw_all := lw_g (lw_at lw_m0 14 rfl) rfl
theorem q17 : (Jvm.Cond.code ({ cls := "LongSortDesk", name := "from", desc := "(I)I" } : Jvm.MethodName) prog_2_method_5_code (2 : Nat) (Option.some Jvm.ClassFile.FieldType.int)) ∈ lw_all := lw_g (lw_at lw_m0 15 rfl) rfl
theorem q18 : (Jvm.Cond.constant "LongSortDesk" (23 : Nat) (2147483647 : Int32)) ∈ lw_all := lw_g (lw_at lw_m0 16 rfl) rfl
theorem q19 : (Jvm.Cond.methodLink "LongSortDesk" (30 : Nat) ({ cls := "LongSortDesk", name := "count", desc := "(II)I" } : Jvm.MethodName)) ∈ lw_all := lw_g (lw_at lw_m0 17 rfl) rfl
theorem q20 : (Jvm.Cond.privateMethod ({ cls := "LongSortDesk", name := "count", desc := "(II)I" } : Jvm.MethodName)) ∈ lw_tbl := lw_at lw_m0 18 rfl
theorem q21 : (Jvm.Cond.instanceMethod ({ cls := "LongSortDesk", name := "count", desc := "(II)I" } : Jvm.MethodName)) ∈ lw_all := lw_g (lw_at lw_m0 19 rfl) rfl
theorem q22 : (Jvm.Cond.code ({ cls := "LongSortDesk", name := "count", desc := "(II)I" } : Jvm.MethodName) prog_2_method_6_code (3 : Nat) (Option.some Jvm.ClassFile.FieldType.int)) ∈ lw_all := lw_g (lw_at lw_m0 20 rfl) rfl
theorem q23 : (Jvm.Cond.methodLink "LongSortDesk" (34 : Nat) ({ cls := "LongArrays", name := "quickSort", desc := "([JII)V" } : Jvm.MethodName)) ∈ lw_all := lw_g (lw_at lw_m0 21 rfl) rfl
theorem q46 : (Jvm.Cond.instanceMethod ({ cls := "LongSortDesk", name := "merge", desc := "(II)I" } : Jvm.MethodName)) ∈ lw_all := lw_g (lw_at lw_m0 44 rfl) rfl
theorem q47 : (Jvm.Cond.selects "LongSortDesk" ({ cls := "LongSortDesk", name := "merge", desc := "(II)I" } : Jvm.MethodName) ({ cls := "LongSortDesk", name := "merge", desc := "(II)I" } : Jvm.MethodName)) ∈ lw_all := lw_g (lw_at lw_m0 45 rfl) rfl
theorem q48 : (Jvm.Cond.code ({ cls := "LongSortDesk", name := "merge", desc := "(II)I" } : Jvm.MethodName) prog_2_method_8_code (5 : Nat) (Option.some Jvm.ClassFile.FieldType.int)) ∈ lw_all := lw_g (lw_at lw_m0 46 rfl) rfl
theorem q49 : (Jvm.Cond.methodLink "LongSortDesk" (40 : Nat) ({ cls := "LongArrays", name := "mergeSort", desc := "([JII)V" } : Jvm.MethodName)) ∈ lw_all := lw_g (lw_at lw_m0 47 rfl) rfl
theorem q76 : (Jvm.Cond.instanceMethod ({ cls := "LongSortDesk", name := "radix", desc := "(II)I" } : Jvm.MethodName)) ∈ lw_all := lw_g (lw_at lw_m0 74 rfl) rfl
theorem q77 : (Jvm.Cond.selects "LongSortDesk" ({ cls := "LongSortDesk", name := "radix", desc := "(II)I" } : Jvm.MethodName) ({ cls := "LongSortDesk", name := "radix", desc := "(II)I" } : Jvm.MethodName)) ∈ lw_all := lw_g (lw_at lw_m0 75 rfl) rfl
theorem q78 : (Jvm.Cond.code ({ cls := "LongSortDesk", name := "radix", desc := "(II)I" } : Jvm.MethodName) prog_2_method_9_code (5 : Nat) (Option.some Jvm.ClassFile.FieldType.int)) ∈ lw_all := lw_g (lw_at lw_m0 76 rfl) rfl
theorem q79 : (Jvm.Cond.methodLink "LongSortDesk" (43 : Nat) ({ cls := "LongArrays", name := "radixSort", desc := "([JII)V" } : Jvm.MethodName)) ∈ lw_all := lw_g (lw_at lw_m0 77 rfl) rfl
theorem q85 : (Jvm.Cond.instanceMethod ({ cls := "LongSortDesk", name := "row", desc := "(I)J" } : Jvm.MethodName)) ∈ lw_all := lw_g (lw_at lw_m0 83 rfl) rfl
theorem q86 : (Jvm.Cond.selects "LongSortDesk" ({ cls := "LongSortDesk", name := "row", desc := "(I)J" } : Jvm.MethodName) ({ cls := "LongSortDesk", name := "row", desc := "(I)J" } : Jvm.MethodName)) ∈ lw_all := lw_g (lw_at lw_m0 84 rfl) rfl
theorem q87 : (Jvm.Cond.code ({ cls := "LongSortDesk", name := "row", desc := "(I)J" } : Jvm.MethodName) prog_2_method_10_code (2 : Nat) (Option.some Jvm.ClassFile.FieldType.long)) ∈ lw_all := lw_g (lw_at lw_m0 85 rfl) rfl
theorem q96 : (Jvm.Cond.instanceMethod ({ cls := "LongSortDesk", name := "<init>", desc := "()V" } : Jvm.MethodName)) ∈ lw_all := lw_g (lw_at lw_m0 94 rfl) rfl
theorem q97 : (Jvm.Cond.code ({ cls := "LongSortDesk", name := "<init>", desc := "()V" } : Jvm.MethodName) prog_2_method_1_code (1 : Nat) (Option.none : Option Jvm.ClassFile.FieldType)) ∈ lw_all := lw_g (lw_at lw_m0 95 rfl) rfl
theorem q98 : (Jvm.Cond.methodLink "LongSortDesk" (1 : Nat) ({ cls := "java/lang/Object", name := "<init>", desc := "()V" } : Jvm.MethodName)) ∈ lw_all := lw_g (lw_at lw_m0 96 rfl) rfl
theorem q101 : (Jvm.Cond.fieldLink "LongSortDesk" (7 : Nat) "LongSortDesk" "rows" "[J") ∈ lw_all := lw_g (lw_at lw_m0 99 rfl) rfl
theorem q102 : (Jvm.Cond.fieldLink "LongSortDesk" (15 : Nat) "LongSortDesk" "size" "I") ∈ lw_all := lw_g (lw_at lw_m0 100 rfl) rfl
theorem q103 : (Jvm.Cond.laysFinal "LongSortDesk" "LongSortDesk" "rows" "[J") ∈ lw_all := lw_g (lw_at lw_m0 101 rfl) rfl
theorem q104 : (Jvm.Cond.soleField "LongSortDesk" "rows") ∈ lw_all := lw_g (lw_at lw_m0 102 rfl) rfl
theorem q105 : (Jvm.Cond.lays "LongSortDesk" "LongSortDesk" "size" "I") ∈ lw_all := lw_g (lw_at lw_m0 103 rfl) rfl
theorem q106 : (Jvm.Cond.soleField "LongSortDesk" "size") ∈ lw_all := lw_g (lw_at lw_m0 104 rfl) rfl
theorem q107 : (Jvm.Cond.superclass "LongSortDesk" "java/lang/Object") ∈ lw_all := lw_g (lw_at lw_m0 105 rfl) rfl
theorem q109 : (Jvm.Cond.instanceMethod ({ cls := "LongSortDesk", name := "put", desc := "(II)Z" } : Jvm.MethodName)) ∈ lw_all := lw_g (lw_at lw_m0 107 rfl) rfl
theorem q110 : (Jvm.Cond.selects "LongSortDesk" ({ cls := "LongSortDesk", name := "put", desc := "(II)Z" } : Jvm.MethodName) ({ cls := "LongSortDesk", name := "put", desc := "(II)Z" } : Jvm.MethodName)) ∈ lw_all := lw_g (lw_at lw_m0 108 rfl) rfl
theorem q111 : (Jvm.Cond.code ({ cls := "LongSortDesk", name := "put", desc := "(II)Z" } : Jvm.MethodName) prog_2_method_3_code (3 : Nat) (Option.some Jvm.ClassFile.FieldType.boolean)) ∈ lw_all := lw_g (lw_at lw_m0 109 rfl) rfl
theorem q112 : (Jvm.Cond.methodLink "LongSortDesk" (19 : Nat) ({ cls := "LongSortDesk", name := "wide", desc := "(II)J" } : Jvm.MethodName)) ∈ lw_all := lw_g (lw_at lw_m0 110 rfl) rfl
theorem q113 : (Jvm.Cond.static ({ cls := "LongSortDesk", name := "wide", desc := "(II)J" } : Jvm.MethodName)) ∈ lw_all := lw_g (lw_at lw_m0 111 rfl) rfl
theorem q114 : (Jvm.Cond.code ({ cls := "LongSortDesk", name := "wide", desc := "(II)J" } : Jvm.MethodName) prog_2_method_2_code (2 : Nat) (Option.some Jvm.ClassFile.FieldType.long)) ∈ lw_all := lw_g (lw_at lw_m0 112 rfl) rfl
theorem q115 : (Jvm.Cond.constantLong "LongSortDesk" (13 : Nat) (4294967295 : Int64)) ∈ lw_all := lw_g (lw_at lw_m0 113 rfl) rfl
theorem q123 : (Jvm.Cond.instanceMethod ({ cls := "LongSortDesk", name := "ramp", desc := "(IIII)I" } : Jvm.MethodName)) ∈ lw_all := lw_g (lw_at lw_m0 121 rfl) rfl
theorem q124 : (Jvm.Cond.selects "LongSortDesk" ({ cls := "LongSortDesk", name := "ramp", desc := "(IIII)I" } : Jvm.MethodName) ({ cls := "LongSortDesk", name := "ramp", desc := "(IIII)I" } : Jvm.MethodName)) ∈ lw_all := lw_g (lw_at lw_m0 122 rfl) rfl
theorem q125 : (Jvm.Cond.code ({ cls := "LongSortDesk", name := "ramp", desc := "(IIII)I" } : Jvm.MethodName) prog_2_method_4_code (7 : Nat) (Option.some Jvm.ClassFile.FieldType.int)) ∈ lw_all := lw_g (lw_at lw_m0 123 rfl) rfl
theorem q126 : (Jvm.Cond.constantLong "LongSortDesk" (24 : Nat) (1000003 : Int64)) ∈ lw_all := lw_g (lw_at lw_m0 124 rfl) rfl
theorem q135 : (Jvm.Cond.instanceMethod ({ cls := "LongSortDesk", name := "find", desc := "(II)I" } : Jvm.MethodName)) ∈ lw_all := lw_g (lw_at lw_m0 133 rfl) rfl
theorem q136 : (Jvm.Cond.selects "LongSortDesk" ({ cls := "LongSortDesk", name := "find", desc := "(II)I" } : Jvm.MethodName) ({ cls := "LongSortDesk", name := "find", desc := "(II)I" } : Jvm.MethodName)) ∈ lw_all := lw_g (lw_at lw_m0 134 rfl) rfl
theorem q137 : (Jvm.Cond.code ({ cls := "LongSortDesk", name := "find", desc := "(II)I" } : Jvm.MethodName) prog_2_method_11_code (4 : Nat) (Option.some Jvm.ClassFile.FieldType.int)) ∈ lw_all := lw_g (lw_at lw_m0 135 rfl) rfl
theorem q138 : (Jvm.Cond.methodLink "LongSortDesk" (46 : Nat) ({ cls := "LongArrays", name := "binarySearch", desc := "([JIIJ)I" } : Jvm.MethodName)) ∈ lw_all := lw_g (lw_at lw_m0 136 rfl) rfl
theorem q148 : (Jvm.Cond.instanceMethod ({ cls := "LongSortDesk", name := "empty", desc := "()V" } : Jvm.MethodName)) ∈ lw_all := lw_g (lw_at lw_m0 146 rfl) rfl
theorem q149 : (Jvm.Cond.selects "LongSortDesk" ({ cls := "LongSortDesk", name := "empty", desc := "()V" } : Jvm.MethodName) ({ cls := "LongSortDesk", name := "empty", desc := "()V" } : Jvm.MethodName)) ∈ lw_all := lw_g (lw_at lw_m0 147 rfl) rfl
theorem q150 : (Jvm.Cond.code ({ cls := "LongSortDesk", name := "empty", desc := "()V" } : Jvm.MethodName) prog_2_method_12_code (1 : Nat) (Option.none : Option Jvm.ClassFile.FieldType)) ∈ lw_all := lw_g (lw_at lw_m0 148 rfl) rfl
theorem in_X1 : ∀ w ∈ wsX10, w ∈ lw_all := lw_in wsX10 [103, 105] (by decide +kernel) (by decide +kernel)
end
section
/-! LongSortDeskLaw -/
set_option maxRecDepth 100000
def RX0 : String := "LongSortDeskLaw"
abbrev cX0_cell : ByteArray := method_2_code
def yX0_cell : MethodName := ⟨RX0, "cell", "([II)I"⟩
def dkwX0_cell_0 : List UInt8 := [27, 42, 190, 162, 0, 9, 42, 27, 46, 167, 0, 4, 3, 172]
abbrev dktX0_cell_0 : List UInt8 := dkwX0_cell_0 ++ []
theorem dksX0_cell_0 : cX0_cell.data.toList.drop 0 = dktX0_cell_0 := by decide +kernel
theorem dX0_cell_0 : decode cX0_cell 0 = .ok (.iload_n 1, 1) := dk_27 (dk_at dksX0_cell_0 0 rfl rfl)
theorem dX0_cell_1 : decode cX0_cell 1 = .ok (.aload_n 0, 1) := dk_42 (dk_at dksX0_cell_0 1 rfl rfl)
theorem dX0_cell_2 : decode cX0_cell 2 = .ok (.arraylength, 1) := dk_190 (dk_at dksX0_cell_0 2 rfl rfl)
theorem dX0_cell_3 : decode cX0_cell 3 = .ok (.if_icmp .ge 9, 3) := dk_162 0 9 (dk_at dksX0_cell_0 3 rfl rfl)
theorem dX0_cell_6 : decode cX0_cell 6 = .ok (.aload_n 0, 1) := dk_42 (dk_at dksX0_cell_0 6 rfl rfl)
theorem dX0_cell_7 : decode cX0_cell 7 = .ok (.iload_n 1, 1) := dk_27 (dk_at dksX0_cell_0 7 rfl rfl)
theorem dX0_cell_8 : decode cX0_cell 8 = .ok (.iaload, 1) := dk_46 (dk_at dksX0_cell_0 8 rfl rfl)
theorem dX0_cell_9 : decode cX0_cell 9 = .ok (.goto 4, 3) := dk_167 0 4 (dk_at dksX0_cell_0 9 rfl rfl)
theorem dX0_cell_12 : decode cX0_cell 12 = .ok (.iconst 0, 1) := dk_3 (dk_at dksX0_cell_0 12 rfl rfl)
theorem dX0_cell_13 : decode cX0_cell 13 = .ok (.ireturn, 1) := dk_172 (dk_at dksX0_cell_0 13 rfl rfl)
abbrev cX0_made : ByteArray := method_3_code
def yX0_made : MethodName := ⟨RX0, "made", "([I)LLongSortDesk;"⟩
def dkwX0_made_1 : List UInt8 := [4, 96, 184, 0, 10, 182, 0, 16, 87, 132, 2, 2, 167, 255, 230, 43, 176]
abbrev dktX0_made_1 : List UInt8 := dkwX0_made_1 ++ []
def dkwX0_made_0 : List UInt8 := [187, 0, 7, 89, 183, 0, 9, 76, 5, 61, 28, 16, 50, 162, 0, 26, 43, 42, 28, 184, 0, 10, 42, 28]
abbrev dktX0_made_0 : List UInt8 := dkwX0_made_0 ++ dktX0_made_1
theorem dksX0_made_0 : cX0_made.data.toList.drop 0 = dktX0_made_0 := by decide +kernel
theorem dksX0_made_1 : cX0_made.data.toList.drop 24 = dktX0_made_1 := dk_seg dksX0_made_0 24 rfl rfl
theorem dX0_made_0 : decode cX0_made 0 = .ok (.new 7, 3) := dk_187 0 7 (dk_at dksX0_made_0 0 rfl rfl)
theorem dX0_made_3 : decode cX0_made 3 = .ok (.dup, 1) := dk_89 (dk_at dksX0_made_0 3 rfl rfl)
theorem dX0_made_4 : decode cX0_made 4 = .ok (.invokespecial 9, 3) := dk_183 0 9 (dk_at dksX0_made_0 4 rfl rfl)
theorem dX0_made_7 : decode cX0_made 7 = .ok (.astore_n 1, 1) := dk_76 (dk_at dksX0_made_0 7 rfl rfl)
theorem dX0_made_8 : decode cX0_made 8 = .ok (.iconst 2, 1) := dk_5 (dk_at dksX0_made_0 8 rfl rfl)
theorem dX0_made_9 : decode cX0_made 9 = .ok (.istore_n 2, 1) := dk_61 (dk_at dksX0_made_0 9 rfl rfl)
theorem dX0_made_10 : decode cX0_made 10 = .ok (.iload_n 2, 1) := dk_28 (dk_at dksX0_made_0 10 rfl rfl)
theorem dX0_made_11 : decode cX0_made 11 = .ok (.bipush 50, 2) := dk_16 50 (dk_at dksX0_made_0 11 rfl rfl)
theorem dX0_made_13 : decode cX0_made 13 = .ok (.if_icmp .ge 26, 3) := dk_162 0 26 (dk_at dksX0_made_0 13 rfl rfl)
theorem dX0_made_16 : decode cX0_made 16 = .ok (.aload_n 1, 1) := dk_43 (dk_at dksX0_made_0 16 rfl rfl)
theorem dX0_made_17 : decode cX0_made 17 = .ok (.aload_n 0, 1) := dk_42 (dk_at dksX0_made_0 17 rfl rfl)
theorem dX0_made_18 : decode cX0_made 18 = .ok (.iload_n 2, 1) := dk_28 (dk_at dksX0_made_0 18 rfl rfl)
theorem dX0_made_19 : decode cX0_made 19 = .ok (.invokestatic 10, 3) := dk_184 0 10 (dk_at dksX0_made_0 19 rfl rfl)
theorem dX0_made_22 : decode cX0_made 22 = .ok (.aload_n 0, 1) := dk_42 (dk_at dksX0_made_0 22 rfl rfl)
theorem dX0_made_23 : decode cX0_made 23 = .ok (.iload_n 2, 1) := dk_28 (dk_at dksX0_made_0 23 rfl rfl)
theorem dX0_made_24 : decode cX0_made 24 = .ok (.iconst 1, 1) := dk_4 (dk_at dksX0_made_1 0 rfl rfl)
theorem dX0_made_25 : decode cX0_made 25 = .ok (.iadd, 1) := dk_96 (dk_at dksX0_made_1 1 rfl rfl)
theorem dX0_made_26 : decode cX0_made 26 = .ok (.invokestatic 10, 3) := dk_184 0 10 (dk_at dksX0_made_1 2 rfl rfl)
theorem dX0_made_29 : decode cX0_made 29 = .ok (.invokevirtual 16, 3) := dk_182 0 16 (dk_at dksX0_made_1 5 rfl rfl)
theorem dX0_made_32 : decode cX0_made 32 = .ok (.pop, 1) := dk_87 (dk_at dksX0_made_1 8 rfl rfl)
theorem dX0_made_33 : decode cX0_made 33 = .ok (.iinc 2 2, 3) := dk_132 2 2 (dk_at dksX0_made_1 9 rfl rfl)
theorem dX0_made_36 : decode cX0_made 36 = .ok (.goto (-26), 3) := dk_167 255 230 (dk_at dksX0_made_1 12 rfl rfl)
theorem dX0_made_39 : decode cX0_made 39 = .ok (.aload_n 1, 1) := dk_43 (dk_at dksX0_made_1 15 rfl rfl)
theorem dX0_made_40 : decode cX0_made 40 = .ok (.areturn, 1) := dk_176 (dk_at dksX0_made_1 16 rfl rfl)
abbrev cX0_longLine : ByteArray := method_6_code
def yX0_longLine : MethodName := ⟨RX0, "longLine", "([I)Z"⟩
def dkwX0_longLine_18 : List UInt8 := [154, 0, 21, 45, 2, 182, 0, 35, 44, 17, 2, 255, 47, 148, 154, 0, 7, 4, 167, 0, 4, 3, 172]
abbrev dktX0_longLine_18 : List UInt8 := dkwX0_longLine_18 ++ []
def dkwX0_longLine_17 : List UInt8 := [153, 0, 5, 3, 172, 132, 6, 1, 167, 255, 199, 45, 17, 5, 0, 182, 0, 35, 44, 3, 47, 148]
abbrev dktX0_longLine_17 : List UInt8 := dkwX0_longLine_17 ++ dktX0_longLine_18
def dkwX0_longLine_16 : List UInt8 := [182, 0, 35, 44, 21, 6, 47, 148, 154, 0, 18, 25, 5, 21, 6, 182, 0, 35, 44, 21, 6, 47, 148]
abbrev dktX0_longLine_16 : List UInt8 := dkwX0_longLine_16 ++ dktX0_longLine_17
def dkwX0_longLine_15 : List UInt8 := [17, 5, 0, 162, 0, 55, 45, 21, 6, 182, 0, 35, 44, 21, 6, 47, 148, 154, 0, 33, 25, 4, 21, 6]
abbrev dktX0_longLine_15 : List UInt8 := dkwX0_longLine_15 ++ dktX0_longLine_16
def dkwX0_longLine_14 : List UInt8 := [160, 0, 17, 25, 5, 3, 18, 62, 182, 0, 32, 17, 5, 0, 159, 0, 5, 3, 172, 3, 54, 6, 21, 6]
abbrev dktX0_longLine_14 : List UInt8 := dkwX0_longLine_14 ++ dktX0_longLine_15
def dkwX0_longLine_13 : List UInt8 := [182, 0, 25, 17, 5, 0, 160, 0, 34, 25, 4, 17, 5, 1, 17, 5, 0, 182, 0, 29, 17, 5, 0]
abbrev dktX0_longLine_13 : List UInt8 := dkwX0_longLine_13 ++ dktX0_longLine_14
def dkwX0_longLine_12 : List UInt8 := [21, 11, 22, 9, 80, 132, 8, 1, 167, 255, 137, 132, 6, 1, 167, 254, 254, 45, 3, 17, 5, 0]
abbrev dktX0_longLine_12 : List UInt8 := dkwX0_longLine_12 ++ dktX0_longLine_13
def dkwX0_longLine_11 : List UInt8 := [47, 22, 9, 148, 158, 0, 19, 44, 21, 11, 44, 21, 11, 4, 100, 47, 80, 132, 11, 255, 167, 255, 226, 44]
abbrev dktX0_longLine_11 : List UInt8 := dkwX0_longLine_11 ++ dktX0_longLine_12
def dkwX0_longLine_10 : List UInt8 := [45, 21, 11, 182, 0, 35, 22, 9, 148, 153, 0, 5, 3, 172, 21, 11, 158, 0, 31, 44, 21, 11, 4, 100]
abbrev dktX0_longLine_10 : List UInt8 := dkwX0_longLine_10 ++ dktX0_longLine_11
def dkwX0_longLine_9 : List UInt8 := [104, 5, 96, 46, 133, 105, 20, 0, 60, 105, 97, 55, 9, 17, 1, 0, 21, 6, 104, 21, 8, 96, 54, 11]
abbrev dktX0_longLine_9 : List UInt8 := dkwX0_longLine_9 ++ dktX0_longLine_10
def dkwX0_longLine_8 : List UInt8 := [16, 32, 121, 43, 6, 21, 6, 104, 4, 96, 46, 133, 20, 0, 39, 127, 129, 21, 8, 133, 43, 6, 21, 6]
abbrev dktX0_longLine_8 : List UInt8 := dkwX0_longLine_8 ++ dktX0_longLine_9
def dkwX0_longLine_7 : List UInt8 := [159, 0, 5, 3, 172, 3, 54, 8, 21, 8, 17, 1, 0, 162, 0, 117, 43, 6, 21, 6, 104, 46, 133]
abbrev dktX0_longLine_7 : List UInt8 := dkwX0_longLine_7 ++ dktX0_longLine_8
def dkwX0_longLine_6 : List UInt8 := [46, 43, 6, 21, 6, 104, 4, 96, 46, 43, 6, 21, 6, 104, 5, 96, 46, 182, 0, 55, 17, 1, 0]
abbrev dktX0_longLine_6 : List UInt8 := dkwX0_longLine_6 ++ dktX0_longLine_7
def dkwX0_longLine_5 : List UInt8 := [21, 6, 104, 5, 96, 46, 182, 0, 55, 17, 1, 0, 160, 0, 38, 25, 5, 18, 59, 43, 6, 21, 6, 104]
abbrev dktX0_longLine_5 : List UInt8 := dkwX0_longLine_5 ++ dktX0_longLine_6
def dkwX0_longLine_4 : List UInt8 := [160, 0, 74, 25, 4, 17, 1, 0, 43, 6, 21, 6, 104, 46, 43, 6, 21, 6, 104, 4, 96, 46, 43, 6]
abbrev dktX0_longLine_4 : List UInt8 := dkwX0_longLine_4 ++ dktX0_longLine_5
def dkwX0_longLine_3 : List UInt8 := [104, 46, 43, 6, 21, 6, 104, 4, 96, 46, 43, 6, 21, 6, 104, 5, 96, 46, 182, 0, 55, 17, 1, 0]
abbrev dktX0_longLine_3 : List UInt8 := dkwX0_longLine_3 ++ dktX0_longLine_4
def dkwX0_longLine_2 : List UInt8 := [21, 6, 7, 160, 0, 9, 17, 4, 3, 167, 0, 6, 17, 1, 0, 54, 7, 45, 21, 7, 43, 6, 21, 6]
abbrev dktX0_longLine_2 : List UInt8 := dkwX0_longLine_2 ++ dktX0_longLine_3
def dkwX0_longLine_1 : List UInt8 := [183, 0, 9, 58, 4, 187, 0, 7, 89, 183, 0, 9, 58, 5, 3, 54, 6, 21, 6, 8, 162, 1, 2]
abbrev dktX0_longLine_1 : List UInt8 := dkwX0_longLine_1 ++ dktX0_longLine_2
def dkwX0_longLine_0 : List UInt8 := [42, 184, 0, 51, 76, 17, 5, 0, 188, 11, 77, 187, 0, 7, 89, 183, 0, 9, 78, 187, 0, 7, 89]
abbrev dktX0_longLine_0 : List UInt8 := dkwX0_longLine_0 ++ dktX0_longLine_1
theorem dksX0_longLine_0 : cX0_longLine.data.toList.drop 0 = dktX0_longLine_0 := by decide +kernel
theorem dksX0_longLine_1 : cX0_longLine.data.toList.drop 23 = dktX0_longLine_1 := dk_seg dksX0_longLine_0 23 rfl rfl
theorem dksX0_longLine_2 : cX0_longLine.data.toList.drop 46 = dktX0_longLine_2 := dk_seg dksX0_longLine_1 23 rfl rfl
theorem dksX0_longLine_3 : cX0_longLine.data.toList.drop 70 = dktX0_longLine_3 := dk_seg dksX0_longLine_2 24 rfl rfl
theorem dksX0_longLine_4 : cX0_longLine.data.toList.drop 94 = dktX0_longLine_4 := dk_seg dksX0_longLine_3 24 rfl rfl
theorem dksX0_longLine_5 : cX0_longLine.data.toList.drop 118 = dktX0_longLine_5 := dk_seg dksX0_longLine_4 24 rfl rfl
theorem dksX0_longLine_6 : cX0_longLine.data.toList.drop 142 = dktX0_longLine_6 := dk_seg dksX0_longLine_5 24 rfl rfl
theorem dksX0_longLine_7 : cX0_longLine.data.toList.drop 165 = dktX0_longLine_7 := dk_seg dksX0_longLine_6 23 rfl rfl
theorem dksX0_longLine_8 : cX0_longLine.data.toList.drop 188 = dktX0_longLine_8 := dk_seg dksX0_longLine_7 23 rfl rfl
theorem dksX0_longLine_9 : cX0_longLine.data.toList.drop 212 = dktX0_longLine_9 := dk_seg dksX0_longLine_8 24 rfl rfl
theorem dksX0_longLine_10 : cX0_longLine.data.toList.drop 236 = dktX0_longLine_10 := dk_seg dksX0_longLine_9 24 rfl rfl
theorem dksX0_longLine_11 : cX0_longLine.data.toList.drop 260 = dktX0_longLine_11 := dk_seg dksX0_longLine_10 24 rfl rfl
theorem dksX0_longLine_12 : cX0_longLine.data.toList.drop 284 = dktX0_longLine_12 := dk_seg dksX0_longLine_11 24 rfl rfl
theorem dksX0_longLine_13 : cX0_longLine.data.toList.drop 306 = dktX0_longLine_13 := dk_seg dksX0_longLine_12 22 rfl rfl
theorem dksX0_longLine_14 : cX0_longLine.data.toList.drop 329 = dktX0_longLine_14 := dk_seg dksX0_longLine_13 23 rfl rfl
theorem dksX0_longLine_15 : cX0_longLine.data.toList.drop 353 = dktX0_longLine_15 := dk_seg dksX0_longLine_14 24 rfl rfl
theorem dksX0_longLine_16 : cX0_longLine.data.toList.drop 377 = dktX0_longLine_16 := dk_seg dksX0_longLine_15 24 rfl rfl
theorem dksX0_longLine_17 : cX0_longLine.data.toList.drop 400 = dktX0_longLine_17 := dk_seg dksX0_longLine_16 23 rfl rfl
theorem dksX0_longLine_18 : cX0_longLine.data.toList.drop 422 = dktX0_longLine_18 := dk_seg dksX0_longLine_17 22 rfl rfl
theorem dX0_longLine_0 : decode cX0_longLine 0 = .ok (.aload_n 0, 1) := dk_42 (dk_at dksX0_longLine_0 0 rfl rfl)
theorem dX0_longLine_1 : decode cX0_longLine 1 = .ok (.invokestatic 51, 3) := dk_184 0 51 (dk_at dksX0_longLine_0 1 rfl rfl)
theorem dX0_longLine_4 : decode cX0_longLine 4 = .ok (.astore_n 1, 1) := dk_76 (dk_at dksX0_longLine_0 4 rfl rfl)
theorem dX0_longLine_5 : decode cX0_longLine 5 = .ok (.sipush 1280, 3) := dk_17 5 0 (dk_at dksX0_longLine_0 5 rfl rfl)
theorem dX0_longLine_8 : decode cX0_longLine 8 = .ok (.newarray .long, 2) := dk_188_11 (dk_at dksX0_longLine_0 8 rfl rfl)
theorem dX0_longLine_10 : decode cX0_longLine 10 = .ok (.astore_n 2, 1) := dk_77 (dk_at dksX0_longLine_0 10 rfl rfl)
theorem dX0_longLine_11 : decode cX0_longLine 11 = .ok (.new 7, 3) := dk_187 0 7 (dk_at dksX0_longLine_0 11 rfl rfl)
theorem dX0_longLine_14 : decode cX0_longLine 14 = .ok (.dup, 1) := dk_89 (dk_at dksX0_longLine_0 14 rfl rfl)
theorem dX0_longLine_15 : decode cX0_longLine 15 = .ok (.invokespecial 9, 3) := dk_183 0 9 (dk_at dksX0_longLine_0 15 rfl rfl)
theorem dX0_longLine_18 : decode cX0_longLine 18 = .ok (.astore_n 3, 1) := dk_78 (dk_at dksX0_longLine_0 18 rfl rfl)
theorem dX0_longLine_19 : decode cX0_longLine 19 = .ok (.new 7, 3) := dk_187 0 7 (dk_at dksX0_longLine_0 19 rfl rfl)
theorem dX0_longLine_22 : decode cX0_longLine 22 = .ok (.dup, 1) := dk_89 (dk_at dksX0_longLine_0 22 rfl rfl)
theorem dX0_longLine_23 : decode cX0_longLine 23 = .ok (.invokespecial 9, 3) := dk_183 0 9 (dk_at dksX0_longLine_1 0 rfl rfl)
theorem dX0_longLine_26 : decode cX0_longLine 26 = .ok (.astore 4, 2) := dk_58 4 (dk_at dksX0_longLine_1 3 rfl rfl)
theorem dX0_longLine_28 : decode cX0_longLine 28 = .ok (.new 7, 3) := dk_187 0 7 (dk_at dksX0_longLine_1 5 rfl rfl)
theorem dX0_longLine_31 : decode cX0_longLine 31 = .ok (.dup, 1) := dk_89 (dk_at dksX0_longLine_1 8 rfl rfl)
theorem dX0_longLine_32 : decode cX0_longLine 32 = .ok (.invokespecial 9, 3) := dk_183 0 9 (dk_at dksX0_longLine_1 9 rfl rfl)
theorem dX0_longLine_35 : decode cX0_longLine 35 = .ok (.astore 5, 2) := dk_58 5 (dk_at dksX0_longLine_1 12 rfl rfl)
theorem dX0_longLine_37 : decode cX0_longLine 37 = .ok (.iconst 0, 1) := dk_3 (dk_at dksX0_longLine_1 14 rfl rfl)
theorem dX0_longLine_38 : decode cX0_longLine 38 = .ok (.istore 6, 2) := dk_54 6 (dk_at dksX0_longLine_1 15 rfl rfl)
theorem dX0_longLine_40 : decode cX0_longLine 40 = .ok (.iload 6, 2) := dk_21 6 (dk_at dksX0_longLine_1 17 rfl rfl)
theorem dX0_longLine_42 : decode cX0_longLine 42 = .ok (.iconst 5, 1) := dk_8 (dk_at dksX0_longLine_1 19 rfl rfl)
theorem dX0_longLine_43 : decode cX0_longLine 43 = .ok (.if_icmp .ge 258, 3) := dk_162 1 2 (dk_at dksX0_longLine_1 20 rfl rfl)
theorem dX0_longLine_46 : decode cX0_longLine 46 = .ok (.iload 6, 2) := dk_21 6 (dk_at dksX0_longLine_2 0 rfl rfl)
theorem dX0_longLine_48 : decode cX0_longLine 48 = .ok (.iconst 4, 1) := dk_7 (dk_at dksX0_longLine_2 2 rfl rfl)
theorem dX0_longLine_49 : decode cX0_longLine 49 = .ok (.if_icmp .ne 9, 3) := dk_160 0 9 (dk_at dksX0_longLine_2 3 rfl rfl)
theorem dX0_longLine_52 : decode cX0_longLine 52 = .ok (.sipush 1027, 3) := dk_17 4 3 (dk_at dksX0_longLine_2 6 rfl rfl)
theorem dX0_longLine_55 : decode cX0_longLine 55 = .ok (.goto 6, 3) := dk_167 0 6 (dk_at dksX0_longLine_2 9 rfl rfl)
theorem dX0_longLine_58 : decode cX0_longLine 58 = .ok (.sipush 256, 3) := dk_17 1 0 (dk_at dksX0_longLine_2 12 rfl rfl)
theorem dX0_longLine_61 : decode cX0_longLine 61 = .ok (.istore 7, 2) := dk_54 7 (dk_at dksX0_longLine_2 15 rfl rfl)
theorem dX0_longLine_63 : decode cX0_longLine 63 = .ok (.aload_n 3, 1) := dk_45 (dk_at dksX0_longLine_2 17 rfl rfl)
theorem dX0_longLine_64 : decode cX0_longLine 64 = .ok (.iload 7, 2) := dk_21 7 (dk_at dksX0_longLine_2 18 rfl rfl)
theorem dX0_longLine_66 : decode cX0_longLine 66 = .ok (.aload_n 1, 1) := dk_43 (dk_at dksX0_longLine_2 20 rfl rfl)
theorem dX0_longLine_67 : decode cX0_longLine 67 = .ok (.iconst 3, 1) := dk_6 (dk_at dksX0_longLine_2 21 rfl rfl)
theorem dX0_longLine_68 : decode cX0_longLine 68 = .ok (.iload 6, 2) := dk_21 6 (dk_at dksX0_longLine_2 22 rfl rfl)
theorem dX0_longLine_70 : decode cX0_longLine 70 = .ok (.imul, 1) := dk_104 (dk_at dksX0_longLine_3 0 rfl rfl)
theorem dX0_longLine_71 : decode cX0_longLine 71 = .ok (.iaload, 1) := dk_46 (dk_at dksX0_longLine_3 1 rfl rfl)
theorem dX0_longLine_72 : decode cX0_longLine 72 = .ok (.aload_n 1, 1) := dk_43 (dk_at dksX0_longLine_3 2 rfl rfl)
theorem dX0_longLine_73 : decode cX0_longLine 73 = .ok (.iconst 3, 1) := dk_6 (dk_at dksX0_longLine_3 3 rfl rfl)
theorem dX0_longLine_74 : decode cX0_longLine 74 = .ok (.iload 6, 2) := dk_21 6 (dk_at dksX0_longLine_3 4 rfl rfl)
theorem dX0_longLine_76 : decode cX0_longLine 76 = .ok (.imul, 1) := dk_104 (dk_at dksX0_longLine_3 6 rfl rfl)
theorem dX0_longLine_77 : decode cX0_longLine 77 = .ok (.iconst 1, 1) := dk_4 (dk_at dksX0_longLine_3 7 rfl rfl)
theorem dX0_longLine_78 : decode cX0_longLine 78 = .ok (.iadd, 1) := dk_96 (dk_at dksX0_longLine_3 8 rfl rfl)
theorem dX0_longLine_79 : decode cX0_longLine 79 = .ok (.iaload, 1) := dk_46 (dk_at dksX0_longLine_3 9 rfl rfl)
theorem dX0_longLine_80 : decode cX0_longLine 80 = .ok (.aload_n 1, 1) := dk_43 (dk_at dksX0_longLine_3 10 rfl rfl)
theorem dX0_longLine_81 : decode cX0_longLine 81 = .ok (.iconst 3, 1) := dk_6 (dk_at dksX0_longLine_3 11 rfl rfl)
theorem dX0_longLine_82 : decode cX0_longLine 82 = .ok (.iload 6, 2) := dk_21 6 (dk_at dksX0_longLine_3 12 rfl rfl)
theorem dX0_longLine_84 : decode cX0_longLine 84 = .ok (.imul, 1) := dk_104 (dk_at dksX0_longLine_3 14 rfl rfl)
theorem dX0_longLine_85 : decode cX0_longLine 85 = .ok (.iconst 2, 1) := dk_5 (dk_at dksX0_longLine_3 15 rfl rfl)
theorem dX0_longLine_86 : decode cX0_longLine 86 = .ok (.iadd, 1) := dk_96 (dk_at dksX0_longLine_3 16 rfl rfl)
theorem dX0_longLine_87 : decode cX0_longLine 87 = .ok (.iaload, 1) := dk_46 (dk_at dksX0_longLine_3 17 rfl rfl)
theorem dX0_longLine_88 : decode cX0_longLine 88 = .ok (.invokevirtual 55, 3) := dk_182 0 55 (dk_at dksX0_longLine_3 18 rfl rfl)
theorem dX0_longLine_91 : decode cX0_longLine 91 = .ok (.sipush 256, 3) := dk_17 1 0 (dk_at dksX0_longLine_3 21 rfl rfl)
theorem dX0_longLine_94 : decode cX0_longLine 94 = .ok (.if_icmp .ne 74, 3) := dk_160 0 74 (dk_at dksX0_longLine_4 0 rfl rfl)
theorem dX0_longLine_97 : decode cX0_longLine 97 = .ok (.aload 4, 2) := dk_25 4 (dk_at dksX0_longLine_4 3 rfl rfl)
theorem dX0_longLine_99 : decode cX0_longLine 99 = .ok (.sipush 256, 3) := dk_17 1 0 (dk_at dksX0_longLine_4 5 rfl rfl)
theorem dX0_longLine_102 : decode cX0_longLine 102 = .ok (.aload_n 1, 1) := dk_43 (dk_at dksX0_longLine_4 8 rfl rfl)
theorem dX0_longLine_103 : decode cX0_longLine 103 = .ok (.iconst 3, 1) := dk_6 (dk_at dksX0_longLine_4 9 rfl rfl)
theorem dX0_longLine_104 : decode cX0_longLine 104 = .ok (.iload 6, 2) := dk_21 6 (dk_at dksX0_longLine_4 10 rfl rfl)
theorem dX0_longLine_106 : decode cX0_longLine 106 = .ok (.imul, 1) := dk_104 (dk_at dksX0_longLine_4 12 rfl rfl)
theorem dX0_longLine_107 : decode cX0_longLine 107 = .ok (.iaload, 1) := dk_46 (dk_at dksX0_longLine_4 13 rfl rfl)
theorem dX0_longLine_108 : decode cX0_longLine 108 = .ok (.aload_n 1, 1) := dk_43 (dk_at dksX0_longLine_4 14 rfl rfl)
theorem dX0_longLine_109 : decode cX0_longLine 109 = .ok (.iconst 3, 1) := dk_6 (dk_at dksX0_longLine_4 15 rfl rfl)
theorem dX0_longLine_110 : decode cX0_longLine 110 = .ok (.iload 6, 2) := dk_21 6 (dk_at dksX0_longLine_4 16 rfl rfl)
theorem dX0_longLine_112 : decode cX0_longLine 112 = .ok (.imul, 1) := dk_104 (dk_at dksX0_longLine_4 18 rfl rfl)
theorem dX0_longLine_113 : decode cX0_longLine 113 = .ok (.iconst 1, 1) := dk_4 (dk_at dksX0_longLine_4 19 rfl rfl)
theorem dX0_longLine_114 : decode cX0_longLine 114 = .ok (.iadd, 1) := dk_96 (dk_at dksX0_longLine_4 20 rfl rfl)
theorem dX0_longLine_115 : decode cX0_longLine 115 = .ok (.iaload, 1) := dk_46 (dk_at dksX0_longLine_4 21 rfl rfl)
theorem dX0_longLine_116 : decode cX0_longLine 116 = .ok (.aload_n 1, 1) := dk_43 (dk_at dksX0_longLine_4 22 rfl rfl)
theorem dX0_longLine_117 : decode cX0_longLine 117 = .ok (.iconst 3, 1) := dk_6 (dk_at dksX0_longLine_4 23 rfl rfl)
theorem dX0_longLine_118 : decode cX0_longLine 118 = .ok (.iload 6, 2) := dk_21 6 (dk_at dksX0_longLine_5 0 rfl rfl)
theorem dX0_longLine_120 : decode cX0_longLine 120 = .ok (.imul, 1) := dk_104 (dk_at dksX0_longLine_5 2 rfl rfl)
theorem dX0_longLine_121 : decode cX0_longLine 121 = .ok (.iconst 2, 1) := dk_5 (dk_at dksX0_longLine_5 3 rfl rfl)
theorem dX0_longLine_122 : decode cX0_longLine 122 = .ok (.iadd, 1) := dk_96 (dk_at dksX0_longLine_5 4 rfl rfl)
theorem dX0_longLine_123 : decode cX0_longLine 123 = .ok (.iaload, 1) := dk_46 (dk_at dksX0_longLine_5 5 rfl rfl)
theorem dX0_longLine_124 : decode cX0_longLine 124 = .ok (.invokevirtual 55, 3) := dk_182 0 55 (dk_at dksX0_longLine_5 6 rfl rfl)
theorem dX0_longLine_127 : decode cX0_longLine 127 = .ok (.sipush 256, 3) := dk_17 1 0 (dk_at dksX0_longLine_5 9 rfl rfl)
theorem dX0_longLine_130 : decode cX0_longLine 130 = .ok (.if_icmp .ne 38, 3) := dk_160 0 38 (dk_at dksX0_longLine_5 12 rfl rfl)
theorem dX0_longLine_133 : decode cX0_longLine 133 = .ok (.aload 5, 2) := dk_25 5 (dk_at dksX0_longLine_5 15 rfl rfl)
theorem dX0_longLine_135 : decode cX0_longLine 135 = .ok (.ldc 59, 2) := dk_18 59 (dk_at dksX0_longLine_5 17 rfl rfl)
theorem dX0_longLine_137 : decode cX0_longLine 137 = .ok (.aload_n 1, 1) := dk_43 (dk_at dksX0_longLine_5 19 rfl rfl)
theorem dX0_longLine_138 : decode cX0_longLine 138 = .ok (.iconst 3, 1) := dk_6 (dk_at dksX0_longLine_5 20 rfl rfl)
theorem dX0_longLine_139 : decode cX0_longLine 139 = .ok (.iload 6, 2) := dk_21 6 (dk_at dksX0_longLine_5 21 rfl rfl)
theorem dX0_longLine_141 : decode cX0_longLine 141 = .ok (.imul, 1) := dk_104 (dk_at dksX0_longLine_5 23 rfl rfl)
theorem dX0_longLine_142 : decode cX0_longLine 142 = .ok (.iaload, 1) := dk_46 (dk_at dksX0_longLine_6 0 rfl rfl)
theorem dX0_longLine_143 : decode cX0_longLine 143 = .ok (.aload_n 1, 1) := dk_43 (dk_at dksX0_longLine_6 1 rfl rfl)
theorem dX0_longLine_144 : decode cX0_longLine 144 = .ok (.iconst 3, 1) := dk_6 (dk_at dksX0_longLine_6 2 rfl rfl)
theorem dX0_longLine_145 : decode cX0_longLine 145 = .ok (.iload 6, 2) := dk_21 6 (dk_at dksX0_longLine_6 3 rfl rfl)
theorem dX0_longLine_147 : decode cX0_longLine 147 = .ok (.imul, 1) := dk_104 (dk_at dksX0_longLine_6 5 rfl rfl)
theorem dX0_longLine_148 : decode cX0_longLine 148 = .ok (.iconst 1, 1) := dk_4 (dk_at dksX0_longLine_6 6 rfl rfl)
theorem dX0_longLine_149 : decode cX0_longLine 149 = .ok (.iadd, 1) := dk_96 (dk_at dksX0_longLine_6 7 rfl rfl)
theorem dX0_longLine_150 : decode cX0_longLine 150 = .ok (.iaload, 1) := dk_46 (dk_at dksX0_longLine_6 8 rfl rfl)
theorem dX0_longLine_151 : decode cX0_longLine 151 = .ok (.aload_n 1, 1) := dk_43 (dk_at dksX0_longLine_6 9 rfl rfl)
theorem dX0_longLine_152 : decode cX0_longLine 152 = .ok (.iconst 3, 1) := dk_6 (dk_at dksX0_longLine_6 10 rfl rfl)
theorem dX0_longLine_153 : decode cX0_longLine 153 = .ok (.iload 6, 2) := dk_21 6 (dk_at dksX0_longLine_6 11 rfl rfl)
theorem dX0_longLine_155 : decode cX0_longLine 155 = .ok (.imul, 1) := dk_104 (dk_at dksX0_longLine_6 13 rfl rfl)
theorem dX0_longLine_156 : decode cX0_longLine 156 = .ok (.iconst 2, 1) := dk_5 (dk_at dksX0_longLine_6 14 rfl rfl)
theorem dX0_longLine_157 : decode cX0_longLine 157 = .ok (.iadd, 1) := dk_96 (dk_at dksX0_longLine_6 15 rfl rfl)
theorem dX0_longLine_158 : decode cX0_longLine 158 = .ok (.iaload, 1) := dk_46 (dk_at dksX0_longLine_6 16 rfl rfl)
theorem dX0_longLine_159 : decode cX0_longLine 159 = .ok (.invokevirtual 55, 3) := dk_182 0 55 (dk_at dksX0_longLine_6 17 rfl rfl)
theorem dX0_longLine_162 : decode cX0_longLine 162 = .ok (.sipush 256, 3) := dk_17 1 0 (dk_at dksX0_longLine_6 20 rfl rfl)
theorem dX0_longLine_165 : decode cX0_longLine 165 = .ok (.if_icmp .eq 5, 3) := dk_159 0 5 (dk_at dksX0_longLine_7 0 rfl rfl)
theorem dX0_longLine_168 : decode cX0_longLine 168 = .ok (.iconst 0, 1) := dk_3 (dk_at dksX0_longLine_7 3 rfl rfl)
theorem dX0_longLine_169 : decode cX0_longLine 169 = .ok (.ireturn, 1) := dk_172 (dk_at dksX0_longLine_7 4 rfl rfl)
theorem dX0_longLine_170 : decode cX0_longLine 170 = .ok (.iconst 0, 1) := dk_3 (dk_at dksX0_longLine_7 5 rfl rfl)
theorem dX0_longLine_171 : decode cX0_longLine 171 = .ok (.istore 8, 2) := dk_54 8 (dk_at dksX0_longLine_7 6 rfl rfl)
theorem dX0_longLine_173 : decode cX0_longLine 173 = .ok (.iload 8, 2) := dk_21 8 (dk_at dksX0_longLine_7 8 rfl rfl)
theorem dX0_longLine_175 : decode cX0_longLine 175 = .ok (.sipush 256, 3) := dk_17 1 0 (dk_at dksX0_longLine_7 10 rfl rfl)
theorem dX0_longLine_178 : decode cX0_longLine 178 = .ok (.if_icmp .ge 117, 3) := dk_162 0 117 (dk_at dksX0_longLine_7 13 rfl rfl)
theorem dX0_longLine_181 : decode cX0_longLine 181 = .ok (.aload_n 1, 1) := dk_43 (dk_at dksX0_longLine_7 16 rfl rfl)
theorem dX0_longLine_182 : decode cX0_longLine 182 = .ok (.iconst 3, 1) := dk_6 (dk_at dksX0_longLine_7 17 rfl rfl)
theorem dX0_longLine_183 : decode cX0_longLine 183 = .ok (.iload 6, 2) := dk_21 6 (dk_at dksX0_longLine_7 18 rfl rfl)
theorem dX0_longLine_185 : decode cX0_longLine 185 = .ok (.imul, 1) := dk_104 (dk_at dksX0_longLine_7 20 rfl rfl)
theorem dX0_longLine_186 : decode cX0_longLine 186 = .ok (.iaload, 1) := dk_46 (dk_at dksX0_longLine_7 21 rfl rfl)
theorem dX0_longLine_187 : decode cX0_longLine 187 = .ok (.i2l, 1) := dk_133 (dk_at dksX0_longLine_7 22 rfl rfl)
theorem dX0_longLine_188 : decode cX0_longLine 188 = .ok (.bipush 32, 2) := dk_16 32 (dk_at dksX0_longLine_8 0 rfl rfl)
theorem dX0_longLine_190 : decode cX0_longLine 190 = .ok (.lshl, 1) := dk_121 (dk_at dksX0_longLine_8 2 rfl rfl)
theorem dX0_longLine_191 : decode cX0_longLine 191 = .ok (.aload_n 1, 1) := dk_43 (dk_at dksX0_longLine_8 3 rfl rfl)
theorem dX0_longLine_192 : decode cX0_longLine 192 = .ok (.iconst 3, 1) := dk_6 (dk_at dksX0_longLine_8 4 rfl rfl)
theorem dX0_longLine_193 : decode cX0_longLine 193 = .ok (.iload 6, 2) := dk_21 6 (dk_at dksX0_longLine_8 5 rfl rfl)
theorem dX0_longLine_195 : decode cX0_longLine 195 = .ok (.imul, 1) := dk_104 (dk_at dksX0_longLine_8 7 rfl rfl)
theorem dX0_longLine_196 : decode cX0_longLine 196 = .ok (.iconst 1, 1) := dk_4 (dk_at dksX0_longLine_8 8 rfl rfl)
theorem dX0_longLine_197 : decode cX0_longLine 197 = .ok (.iadd, 1) := dk_96 (dk_at dksX0_longLine_8 9 rfl rfl)
theorem dX0_longLine_198 : decode cX0_longLine 198 = .ok (.iaload, 1) := dk_46 (dk_at dksX0_longLine_8 10 rfl rfl)
theorem dX0_longLine_199 : decode cX0_longLine 199 = .ok (.i2l, 1) := dk_133 (dk_at dksX0_longLine_8 11 rfl rfl)
theorem dX0_longLine_200 : decode cX0_longLine 200 = .ok (.ldc2_w 39, 3) := dk_20 0 39 (dk_at dksX0_longLine_8 12 rfl rfl)
theorem dX0_longLine_203 : decode cX0_longLine 203 = .ok (.land, 1) := dk_127 (dk_at dksX0_longLine_8 15 rfl rfl)
theorem dX0_longLine_204 : decode cX0_longLine 204 = .ok (.lor, 1) := dk_129 (dk_at dksX0_longLine_8 16 rfl rfl)
theorem dX0_longLine_205 : decode cX0_longLine 205 = .ok (.iload 8, 2) := dk_21 8 (dk_at dksX0_longLine_8 17 rfl rfl)
theorem dX0_longLine_207 : decode cX0_longLine 207 = .ok (.i2l, 1) := dk_133 (dk_at dksX0_longLine_8 19 rfl rfl)
theorem dX0_longLine_208 : decode cX0_longLine 208 = .ok (.aload_n 1, 1) := dk_43 (dk_at dksX0_longLine_8 20 rfl rfl)
theorem dX0_longLine_209 : decode cX0_longLine 209 = .ok (.iconst 3, 1) := dk_6 (dk_at dksX0_longLine_8 21 rfl rfl)
theorem dX0_longLine_210 : decode cX0_longLine 210 = .ok (.iload 6, 2) := dk_21 6 (dk_at dksX0_longLine_8 22 rfl rfl)
theorem dX0_longLine_212 : decode cX0_longLine 212 = .ok (.imul, 1) := dk_104 (dk_at dksX0_longLine_9 0 rfl rfl)
theorem dX0_longLine_213 : decode cX0_longLine 213 = .ok (.iconst 2, 1) := dk_5 (dk_at dksX0_longLine_9 1 rfl rfl)
theorem dX0_longLine_214 : decode cX0_longLine 214 = .ok (.iadd, 1) := dk_96 (dk_at dksX0_longLine_9 2 rfl rfl)
theorem dX0_longLine_215 : decode cX0_longLine 215 = .ok (.iaload, 1) := dk_46 (dk_at dksX0_longLine_9 3 rfl rfl)
theorem dX0_longLine_216 : decode cX0_longLine 216 = .ok (.i2l, 1) := dk_133 (dk_at dksX0_longLine_9 4 rfl rfl)
theorem dX0_longLine_217 : decode cX0_longLine 217 = .ok (.lmul, 1) := dk_105 (dk_at dksX0_longLine_9 5 rfl rfl)
theorem dX0_longLine_218 : decode cX0_longLine 218 = .ok (.ldc2_w 60, 3) := dk_20 0 60 (dk_at dksX0_longLine_9 6 rfl rfl)
theorem dX0_longLine_221 : decode cX0_longLine 221 = .ok (.lmul, 1) := dk_105 (dk_at dksX0_longLine_9 9 rfl rfl)
theorem dX0_longLine_222 : decode cX0_longLine 222 = .ok (.ladd, 1) := dk_97 (dk_at dksX0_longLine_9 10 rfl rfl)
theorem dX0_longLine_223 : decode cX0_longLine 223 = .ok (.lstore 9, 2) := dk_55 9 (dk_at dksX0_longLine_9 11 rfl rfl)
theorem dX0_longLine_225 : decode cX0_longLine 225 = .ok (.sipush 256, 3) := dk_17 1 0 (dk_at dksX0_longLine_9 13 rfl rfl)
theorem dX0_longLine_228 : decode cX0_longLine 228 = .ok (.iload 6, 2) := dk_21 6 (dk_at dksX0_longLine_9 16 rfl rfl)
theorem dX0_longLine_230 : decode cX0_longLine 230 = .ok (.imul, 1) := dk_104 (dk_at dksX0_longLine_9 18 rfl rfl)
theorem dX0_longLine_231 : decode cX0_longLine 231 = .ok (.iload 8, 2) := dk_21 8 (dk_at dksX0_longLine_9 19 rfl rfl)
theorem dX0_longLine_233 : decode cX0_longLine 233 = .ok (.iadd, 1) := dk_96 (dk_at dksX0_longLine_9 21 rfl rfl)
theorem dX0_longLine_234 : decode cX0_longLine 234 = .ok (.istore 11, 2) := dk_54 11 (dk_at dksX0_longLine_9 22 rfl rfl)
theorem dX0_longLine_236 : decode cX0_longLine 236 = .ok (.aload_n 3, 1) := dk_45 (dk_at dksX0_longLine_10 0 rfl rfl)
theorem dX0_longLine_237 : decode cX0_longLine 237 = .ok (.iload 11, 2) := dk_21 11 (dk_at dksX0_longLine_10 1 rfl rfl)
theorem dX0_longLine_239 : decode cX0_longLine 239 = .ok (.invokevirtual 35, 3) := dk_182 0 35 (dk_at dksX0_longLine_10 3 rfl rfl)
theorem dX0_longLine_242 : decode cX0_longLine 242 = .ok (.lload 9, 2) := dk_22 9 (dk_at dksX0_longLine_10 6 rfl rfl)
theorem dX0_longLine_244 : decode cX0_longLine 244 = .ok (.lcmp, 1) := dk_148 (dk_at dksX0_longLine_10 8 rfl rfl)
theorem dX0_longLine_245 : decode cX0_longLine 245 = .ok (.ifCond .eq 5, 3) := dk_153 0 5 (dk_at dksX0_longLine_10 9 rfl rfl)
theorem dX0_longLine_248 : decode cX0_longLine 248 = .ok (.iconst 0, 1) := dk_3 (dk_at dksX0_longLine_10 12 rfl rfl)
theorem dX0_longLine_249 : decode cX0_longLine 249 = .ok (.ireturn, 1) := dk_172 (dk_at dksX0_longLine_10 13 rfl rfl)
theorem dX0_longLine_250 : decode cX0_longLine 250 = .ok (.iload 11, 2) := dk_21 11 (dk_at dksX0_longLine_10 14 rfl rfl)
theorem dX0_longLine_252 : decode cX0_longLine 252 = .ok (.ifCond .le 31, 3) := dk_158 0 31 (dk_at dksX0_longLine_10 16 rfl rfl)
theorem dX0_longLine_255 : decode cX0_longLine 255 = .ok (.aload_n 2, 1) := dk_44 (dk_at dksX0_longLine_10 19 rfl rfl)
theorem dX0_longLine_256 : decode cX0_longLine 256 = .ok (.iload 11, 2) := dk_21 11 (dk_at dksX0_longLine_10 20 rfl rfl)
theorem dX0_longLine_258 : decode cX0_longLine 258 = .ok (.iconst 1, 1) := dk_4 (dk_at dksX0_longLine_10 22 rfl rfl)
theorem dX0_longLine_259 : decode cX0_longLine 259 = .ok (.isub, 1) := dk_100 (dk_at dksX0_longLine_10 23 rfl rfl)
theorem dX0_longLine_260 : decode cX0_longLine 260 = .ok (.laload, 1) := dk_47 (dk_at dksX0_longLine_11 0 rfl rfl)
theorem dX0_longLine_261 : decode cX0_longLine 261 = .ok (.lload 9, 2) := dk_22 9 (dk_at dksX0_longLine_11 1 rfl rfl)
theorem dX0_longLine_263 : decode cX0_longLine 263 = .ok (.lcmp, 1) := dk_148 (dk_at dksX0_longLine_11 3 rfl rfl)
theorem dX0_longLine_264 : decode cX0_longLine 264 = .ok (.ifCond .le 19, 3) := dk_158 0 19 (dk_at dksX0_longLine_11 4 rfl rfl)
theorem dX0_longLine_267 : decode cX0_longLine 267 = .ok (.aload_n 2, 1) := dk_44 (dk_at dksX0_longLine_11 7 rfl rfl)
theorem dX0_longLine_268 : decode cX0_longLine 268 = .ok (.iload 11, 2) := dk_21 11 (dk_at dksX0_longLine_11 8 rfl rfl)
theorem dX0_longLine_270 : decode cX0_longLine 270 = .ok (.aload_n 2, 1) := dk_44 (dk_at dksX0_longLine_11 10 rfl rfl)
theorem dX0_longLine_271 : decode cX0_longLine 271 = .ok (.iload 11, 2) := dk_21 11 (dk_at dksX0_longLine_11 11 rfl rfl)
theorem dX0_longLine_273 : decode cX0_longLine 273 = .ok (.iconst 1, 1) := dk_4 (dk_at dksX0_longLine_11 13 rfl rfl)
theorem dX0_longLine_274 : decode cX0_longLine 274 = .ok (.isub, 1) := dk_100 (dk_at dksX0_longLine_11 14 rfl rfl)
theorem dX0_longLine_275 : decode cX0_longLine 275 = .ok (.laload, 1) := dk_47 (dk_at dksX0_longLine_11 15 rfl rfl)
theorem dX0_longLine_276 : decode cX0_longLine 276 = .ok (.lastore, 1) := dk_80 (dk_at dksX0_longLine_11 16 rfl rfl)
theorem dX0_longLine_277 : decode cX0_longLine 277 = .ok (.iinc 11 (-1), 3) := dk_132 11 255 (dk_at dksX0_longLine_11 17 rfl rfl)
theorem dX0_longLine_280 : decode cX0_longLine 280 = .ok (.goto (-30), 3) := dk_167 255 226 (dk_at dksX0_longLine_11 20 rfl rfl)
theorem dX0_longLine_283 : decode cX0_longLine 283 = .ok (.aload_n 2, 1) := dk_44 (dk_at dksX0_longLine_11 23 rfl rfl)
theorem dX0_longLine_284 : decode cX0_longLine 284 = .ok (.iload 11, 2) := dk_21 11 (dk_at dksX0_longLine_12 0 rfl rfl)
theorem dX0_longLine_286 : decode cX0_longLine 286 = .ok (.lload 9, 2) := dk_22 9 (dk_at dksX0_longLine_12 2 rfl rfl)
theorem dX0_longLine_288 : decode cX0_longLine 288 = .ok (.lastore, 1) := dk_80 (dk_at dksX0_longLine_12 4 rfl rfl)
theorem dX0_longLine_289 : decode cX0_longLine 289 = .ok (.iinc 8 1, 3) := dk_132 8 1 (dk_at dksX0_longLine_12 5 rfl rfl)
theorem dX0_longLine_292 : decode cX0_longLine 292 = .ok (.goto (-119), 3) := dk_167 255 137 (dk_at dksX0_longLine_12 8 rfl rfl)
theorem dX0_longLine_295 : decode cX0_longLine 295 = .ok (.iinc 6 1, 3) := dk_132 6 1 (dk_at dksX0_longLine_12 11 rfl rfl)
theorem dX0_longLine_298 : decode cX0_longLine 298 = .ok (.goto (-258), 3) := dk_167 254 254 (dk_at dksX0_longLine_12 14 rfl rfl)
theorem dX0_longLine_301 : decode cX0_longLine 301 = .ok (.aload_n 3, 1) := dk_45 (dk_at dksX0_longLine_12 17 rfl rfl)
theorem dX0_longLine_302 : decode cX0_longLine 302 = .ok (.iconst 0, 1) := dk_3 (dk_at dksX0_longLine_12 18 rfl rfl)
theorem dX0_longLine_303 : decode cX0_longLine 303 = .ok (.sipush 1280, 3) := dk_17 5 0 (dk_at dksX0_longLine_12 19 rfl rfl)
theorem dX0_longLine_306 : decode cX0_longLine 306 = .ok (.invokevirtual 25, 3) := dk_182 0 25 (dk_at dksX0_longLine_13 0 rfl rfl)
theorem dX0_longLine_309 : decode cX0_longLine 309 = .ok (.sipush 1280, 3) := dk_17 5 0 (dk_at dksX0_longLine_13 3 rfl rfl)
theorem dX0_longLine_312 : decode cX0_longLine 312 = .ok (.if_icmp .ne 34, 3) := dk_160 0 34 (dk_at dksX0_longLine_13 6 rfl rfl)
theorem dX0_longLine_315 : decode cX0_longLine 315 = .ok (.aload 4, 2) := dk_25 4 (dk_at dksX0_longLine_13 9 rfl rfl)
theorem dX0_longLine_317 : decode cX0_longLine 317 = .ok (.sipush 1281, 3) := dk_17 5 1 (dk_at dksX0_longLine_13 11 rfl rfl)
theorem dX0_longLine_320 : decode cX0_longLine 320 = .ok (.sipush 1280, 3) := dk_17 5 0 (dk_at dksX0_longLine_13 14 rfl rfl)
theorem dX0_longLine_323 : decode cX0_longLine 323 = .ok (.invokevirtual 29, 3) := dk_182 0 29 (dk_at dksX0_longLine_13 17 rfl rfl)
theorem dX0_longLine_326 : decode cX0_longLine 326 = .ok (.sipush 1280, 3) := dk_17 5 0 (dk_at dksX0_longLine_13 20 rfl rfl)
theorem dX0_longLine_329 : decode cX0_longLine 329 = .ok (.if_icmp .ne 17, 3) := dk_160 0 17 (dk_at dksX0_longLine_14 0 rfl rfl)
theorem dX0_longLine_332 : decode cX0_longLine 332 = .ok (.aload 5, 2) := dk_25 5 (dk_at dksX0_longLine_14 3 rfl rfl)
theorem dX0_longLine_334 : decode cX0_longLine 334 = .ok (.iconst 0, 1) := dk_3 (dk_at dksX0_longLine_14 5 rfl rfl)
theorem dX0_longLine_335 : decode cX0_longLine 335 = .ok (.ldc 62, 2) := dk_18 62 (dk_at dksX0_longLine_14 6 rfl rfl)
theorem dX0_longLine_337 : decode cX0_longLine 337 = .ok (.invokevirtual 32, 3) := dk_182 0 32 (dk_at dksX0_longLine_14 8 rfl rfl)
theorem dX0_longLine_340 : decode cX0_longLine 340 = .ok (.sipush 1280, 3) := dk_17 5 0 (dk_at dksX0_longLine_14 11 rfl rfl)
theorem dX0_longLine_343 : decode cX0_longLine 343 = .ok (.if_icmp .eq 5, 3) := dk_159 0 5 (dk_at dksX0_longLine_14 14 rfl rfl)
theorem dX0_longLine_346 : decode cX0_longLine 346 = .ok (.iconst 0, 1) := dk_3 (dk_at dksX0_longLine_14 17 rfl rfl)
theorem dX0_longLine_347 : decode cX0_longLine 347 = .ok (.ireturn, 1) := dk_172 (dk_at dksX0_longLine_14 18 rfl rfl)
theorem dX0_longLine_348 : decode cX0_longLine 348 = .ok (.iconst 0, 1) := dk_3 (dk_at dksX0_longLine_14 19 rfl rfl)
theorem dX0_longLine_349 : decode cX0_longLine 349 = .ok (.istore 6, 2) := dk_54 6 (dk_at dksX0_longLine_14 20 rfl rfl)
theorem dX0_longLine_351 : decode cX0_longLine 351 = .ok (.iload 6, 2) := dk_21 6 (dk_at dksX0_longLine_14 22 rfl rfl)
theorem dX0_longLine_353 : decode cX0_longLine 353 = .ok (.sipush 1280, 3) := dk_17 5 0 (dk_at dksX0_longLine_15 0 rfl rfl)
theorem dX0_longLine_356 : decode cX0_longLine 356 = .ok (.if_icmp .ge 55, 3) := dk_162 0 55 (dk_at dksX0_longLine_15 3 rfl rfl)
theorem dX0_longLine_359 : decode cX0_longLine 359 = .ok (.aload_n 3, 1) := dk_45 (dk_at dksX0_longLine_15 6 rfl rfl)
theorem dX0_longLine_360 : decode cX0_longLine 360 = .ok (.iload 6, 2) := dk_21 6 (dk_at dksX0_longLine_15 7 rfl rfl)
theorem dX0_longLine_362 : decode cX0_longLine 362 = .ok (.invokevirtual 35, 3) := dk_182 0 35 (dk_at dksX0_longLine_15 9 rfl rfl)
theorem dX0_longLine_365 : decode cX0_longLine 365 = .ok (.aload_n 2, 1) := dk_44 (dk_at dksX0_longLine_15 12 rfl rfl)
theorem dX0_longLine_366 : decode cX0_longLine 366 = .ok (.iload 6, 2) := dk_21 6 (dk_at dksX0_longLine_15 13 rfl rfl)
theorem dX0_longLine_368 : decode cX0_longLine 368 = .ok (.laload, 1) := dk_47 (dk_at dksX0_longLine_15 15 rfl rfl)
theorem dX0_longLine_369 : decode cX0_longLine 369 = .ok (.lcmp, 1) := dk_148 (dk_at dksX0_longLine_15 16 rfl rfl)
theorem dX0_longLine_370 : decode cX0_longLine 370 = .ok (.ifCond .ne 33, 3) := dk_154 0 33 (dk_at dksX0_longLine_15 17 rfl rfl)
theorem dX0_longLine_373 : decode cX0_longLine 373 = .ok (.aload 4, 2) := dk_25 4 (dk_at dksX0_longLine_15 20 rfl rfl)
theorem dX0_longLine_375 : decode cX0_longLine 375 = .ok (.iload 6, 2) := dk_21 6 (dk_at dksX0_longLine_15 22 rfl rfl)
theorem dX0_longLine_377 : decode cX0_longLine 377 = .ok (.invokevirtual 35, 3) := dk_182 0 35 (dk_at dksX0_longLine_16 0 rfl rfl)
theorem dX0_longLine_380 : decode cX0_longLine 380 = .ok (.aload_n 2, 1) := dk_44 (dk_at dksX0_longLine_16 3 rfl rfl)
theorem dX0_longLine_381 : decode cX0_longLine 381 = .ok (.iload 6, 2) := dk_21 6 (dk_at dksX0_longLine_16 4 rfl rfl)
theorem dX0_longLine_383 : decode cX0_longLine 383 = .ok (.laload, 1) := dk_47 (dk_at dksX0_longLine_16 6 rfl rfl)
theorem dX0_longLine_384 : decode cX0_longLine 384 = .ok (.lcmp, 1) := dk_148 (dk_at dksX0_longLine_16 7 rfl rfl)
theorem dX0_longLine_385 : decode cX0_longLine 385 = .ok (.ifCond .ne 18, 3) := dk_154 0 18 (dk_at dksX0_longLine_16 8 rfl rfl)
theorem dX0_longLine_388 : decode cX0_longLine 388 = .ok (.aload 5, 2) := dk_25 5 (dk_at dksX0_longLine_16 11 rfl rfl)
theorem dX0_longLine_390 : decode cX0_longLine 390 = .ok (.iload 6, 2) := dk_21 6 (dk_at dksX0_longLine_16 13 rfl rfl)
theorem dX0_longLine_392 : decode cX0_longLine 392 = .ok (.invokevirtual 35, 3) := dk_182 0 35 (dk_at dksX0_longLine_16 15 rfl rfl)
theorem dX0_longLine_395 : decode cX0_longLine 395 = .ok (.aload_n 2, 1) := dk_44 (dk_at dksX0_longLine_16 18 rfl rfl)
theorem dX0_longLine_396 : decode cX0_longLine 396 = .ok (.iload 6, 2) := dk_21 6 (dk_at dksX0_longLine_16 19 rfl rfl)
theorem dX0_longLine_398 : decode cX0_longLine 398 = .ok (.laload, 1) := dk_47 (dk_at dksX0_longLine_16 21 rfl rfl)
theorem dX0_longLine_399 : decode cX0_longLine 399 = .ok (.lcmp, 1) := dk_148 (dk_at dksX0_longLine_16 22 rfl rfl)
theorem dX0_longLine_400 : decode cX0_longLine 400 = .ok (.ifCond .eq 5, 3) := dk_153 0 5 (dk_at dksX0_longLine_17 0 rfl rfl)
theorem dX0_longLine_403 : decode cX0_longLine 403 = .ok (.iconst 0, 1) := dk_3 (dk_at dksX0_longLine_17 3 rfl rfl)
theorem dX0_longLine_404 : decode cX0_longLine 404 = .ok (.ireturn, 1) := dk_172 (dk_at dksX0_longLine_17 4 rfl rfl)
theorem dX0_longLine_405 : decode cX0_longLine 405 = .ok (.iinc 6 1, 3) := dk_132 6 1 (dk_at dksX0_longLine_17 5 rfl rfl)
theorem dX0_longLine_408 : decode cX0_longLine 408 = .ok (.goto (-57), 3) := dk_167 255 199 (dk_at dksX0_longLine_17 8 rfl rfl)
theorem dX0_longLine_411 : decode cX0_longLine 411 = .ok (.aload_n 3, 1) := dk_45 (dk_at dksX0_longLine_17 11 rfl rfl)
theorem dX0_longLine_412 : decode cX0_longLine 412 = .ok (.sipush 1280, 3) := dk_17 5 0 (dk_at dksX0_longLine_17 12 rfl rfl)
theorem dX0_longLine_415 : decode cX0_longLine 415 = .ok (.invokevirtual 35, 3) := dk_182 0 35 (dk_at dksX0_longLine_17 15 rfl rfl)
theorem dX0_longLine_418 : decode cX0_longLine 418 = .ok (.aload_n 2, 1) := dk_44 (dk_at dksX0_longLine_17 18 rfl rfl)
theorem dX0_longLine_419 : decode cX0_longLine 419 = .ok (.iconst 0, 1) := dk_3 (dk_at dksX0_longLine_17 19 rfl rfl)
theorem dX0_longLine_420 : decode cX0_longLine 420 = .ok (.laload, 1) := dk_47 (dk_at dksX0_longLine_17 20 rfl rfl)
theorem dX0_longLine_421 : decode cX0_longLine 421 = .ok (.lcmp, 1) := dk_148 (dk_at dksX0_longLine_17 21 rfl rfl)
theorem dX0_longLine_422 : decode cX0_longLine 422 = .ok (.ifCond .ne 21, 3) := dk_154 0 21 (dk_at dksX0_longLine_18 0 rfl rfl)
theorem dX0_longLine_425 : decode cX0_longLine 425 = .ok (.aload_n 3, 1) := dk_45 (dk_at dksX0_longLine_18 3 rfl rfl)
theorem dX0_longLine_426 : decode cX0_longLine 426 = .ok (.iconst (-1), 1) := dk_2 (dk_at dksX0_longLine_18 4 rfl rfl)
theorem dX0_longLine_427 : decode cX0_longLine 427 = .ok (.invokevirtual 35, 3) := dk_182 0 35 (dk_at dksX0_longLine_18 5 rfl rfl)
theorem dX0_longLine_430 : decode cX0_longLine 430 = .ok (.aload_n 2, 1) := dk_44 (dk_at dksX0_longLine_18 8 rfl rfl)
theorem dX0_longLine_431 : decode cX0_longLine 431 = .ok (.sipush 767, 3) := dk_17 2 255 (dk_at dksX0_longLine_18 9 rfl rfl)
theorem dX0_longLine_434 : decode cX0_longLine 434 = .ok (.laload, 1) := dk_47 (dk_at dksX0_longLine_18 12 rfl rfl)
theorem dX0_longLine_435 : decode cX0_longLine 435 = .ok (.lcmp, 1) := dk_148 (dk_at dksX0_longLine_18 13 rfl rfl)
theorem dX0_longLine_436 : decode cX0_longLine 436 = .ok (.ifCond .ne 7, 3) := dk_154 0 7 (dk_at dksX0_longLine_18 14 rfl rfl)
theorem dX0_longLine_439 : decode cX0_longLine 439 = .ok (.iconst 1, 1) := dk_4 (dk_at dksX0_longLine_18 17 rfl rfl)
theorem dX0_longLine_440 : decode cX0_longLine 440 = .ok (.goto 4, 3) := dk_167 0 4 (dk_at dksX0_longLine_18 18 rfl rfl)
theorem dX0_longLine_443 : decode cX0_longLine 443 = .ok (.iconst 0, 1) := dk_3 (dk_at dksX0_longLine_18 21 rfl rfl)
theorem dX0_longLine_444 : decode cX0_longLine 444 = .ok (.ireturn, 1) := dk_172 (dk_at dksX0_longLine_18 22 rfl rfl)
abbrev cX0_lines : ByteArray := method_5_code
def yX0_lines : MethodName := ⟨RX0, "lines", "([I)[I"⟩
def dkwX0_lines_6 : List UInt8 := [184, 0, 10, 79, 176]
abbrev dktX0_lines_6 : List UInt8 := dkwX0_lines_6 ++ []
def dkwX0_lines_5 : List UInt8 := [16, 14, 184, 0, 10, 79, 89, 16, 13, 42, 16, 15, 184, 0, 10, 79, 89, 16, 14, 42, 16, 16]
abbrev dktX0_lines_5 : List UInt8 := dkwX0_lines_5 ++ dktX0_lines_6
def dkwX0_lines_4 : List UInt8 := [89, 16, 10, 42, 16, 12, 184, 0, 10, 79, 89, 16, 11, 42, 16, 13, 184, 0, 10, 79, 89, 16, 12, 42]
abbrev dktX0_lines_4 : List UInt8 := dkwX0_lines_4 ++ dktX0_lines_5
def dkwX0_lines_3 : List UInt8 := [184, 0, 10, 79, 89, 16, 8, 42, 16, 10, 184, 0, 10, 79, 89, 16, 9, 42, 16, 11, 184, 0, 10, 79]
abbrev dktX0_lines_3 : List UInt8 := dkwX0_lines_3 ++ dktX0_lines_4
def dkwX0_lines_2 : List UInt8 := [16, 7, 184, 0, 10, 79, 89, 16, 6, 42, 16, 8, 184, 0, 10, 79, 89, 16, 7, 42, 16, 9]
abbrev dktX0_lines_2 : List UInt8 := dkwX0_lines_2 ++ dktX0_lines_3
def dkwX0_lines_1 : List UInt8 := [184, 0, 10, 79, 89, 6, 42, 8, 184, 0, 10, 79, 89, 7, 42, 16, 6, 184, 0, 10, 79, 89, 8, 42]
abbrev dktX0_lines_1 : List UInt8 := dkwX0_lines_1 ++ dktX0_lines_2
def dkwX0_lines_0 : List UInt8 := [16, 15, 188, 10, 89, 3, 42, 5, 184, 0, 10, 79, 89, 4, 42, 6, 184, 0, 10, 79, 89, 5, 42, 7]
abbrev dktX0_lines_0 : List UInt8 := dkwX0_lines_0 ++ dktX0_lines_1
theorem dksX0_lines_0 : cX0_lines.data.toList.drop 0 = dktX0_lines_0 := by decide +kernel
theorem dksX0_lines_1 : cX0_lines.data.toList.drop 24 = dktX0_lines_1 := dk_seg dksX0_lines_0 24 rfl rfl
theorem dksX0_lines_2 : cX0_lines.data.toList.drop 48 = dktX0_lines_2 := dk_seg dksX0_lines_1 24 rfl rfl
theorem dksX0_lines_3 : cX0_lines.data.toList.drop 70 = dktX0_lines_3 := dk_seg dksX0_lines_2 22 rfl rfl
theorem dksX0_lines_4 : cX0_lines.data.toList.drop 94 = dktX0_lines_4 := dk_seg dksX0_lines_3 24 rfl rfl
theorem dksX0_lines_5 : cX0_lines.data.toList.drop 118 = dktX0_lines_5 := dk_seg dksX0_lines_4 24 rfl rfl
theorem dksX0_lines_6 : cX0_lines.data.toList.drop 140 = dktX0_lines_6 := dk_seg dksX0_lines_5 22 rfl rfl
theorem dX0_lines_0 : decode cX0_lines 0 = .ok (.bipush 15, 2) := dk_16 15 (dk_at dksX0_lines_0 0 rfl rfl)
theorem dX0_lines_2 : decode cX0_lines 2 = .ok (.newarray .int, 2) := dk_188_10 (dk_at dksX0_lines_0 2 rfl rfl)
theorem dX0_lines_4 : decode cX0_lines 4 = .ok (.dup, 1) := dk_89 (dk_at dksX0_lines_0 4 rfl rfl)
theorem dX0_lines_5 : decode cX0_lines 5 = .ok (.iconst 0, 1) := dk_3 (dk_at dksX0_lines_0 5 rfl rfl)
theorem dX0_lines_6 : decode cX0_lines 6 = .ok (.aload_n 0, 1) := dk_42 (dk_at dksX0_lines_0 6 rfl rfl)
theorem dX0_lines_7 : decode cX0_lines 7 = .ok (.iconst 2, 1) := dk_5 (dk_at dksX0_lines_0 7 rfl rfl)
theorem dX0_lines_8 : decode cX0_lines 8 = .ok (.invokestatic 10, 3) := dk_184 0 10 (dk_at dksX0_lines_0 8 rfl rfl)
theorem dX0_lines_11 : decode cX0_lines 11 = .ok (.iastore, 1) := dk_79 (dk_at dksX0_lines_0 11 rfl rfl)
theorem dX0_lines_12 : decode cX0_lines 12 = .ok (.dup, 1) := dk_89 (dk_at dksX0_lines_0 12 rfl rfl)
theorem dX0_lines_13 : decode cX0_lines 13 = .ok (.iconst 1, 1) := dk_4 (dk_at dksX0_lines_0 13 rfl rfl)
theorem dX0_lines_14 : decode cX0_lines 14 = .ok (.aload_n 0, 1) := dk_42 (dk_at dksX0_lines_0 14 rfl rfl)
theorem dX0_lines_15 : decode cX0_lines 15 = .ok (.iconst 3, 1) := dk_6 (dk_at dksX0_lines_0 15 rfl rfl)
theorem dX0_lines_16 : decode cX0_lines 16 = .ok (.invokestatic 10, 3) := dk_184 0 10 (dk_at dksX0_lines_0 16 rfl rfl)
theorem dX0_lines_19 : decode cX0_lines 19 = .ok (.iastore, 1) := dk_79 (dk_at dksX0_lines_0 19 rfl rfl)
theorem dX0_lines_20 : decode cX0_lines 20 = .ok (.dup, 1) := dk_89 (dk_at dksX0_lines_0 20 rfl rfl)
theorem dX0_lines_21 : decode cX0_lines 21 = .ok (.iconst 2, 1) := dk_5 (dk_at dksX0_lines_0 21 rfl rfl)
theorem dX0_lines_22 : decode cX0_lines 22 = .ok (.aload_n 0, 1) := dk_42 (dk_at dksX0_lines_0 22 rfl rfl)
theorem dX0_lines_23 : decode cX0_lines 23 = .ok (.iconst 4, 1) := dk_7 (dk_at dksX0_lines_0 23 rfl rfl)
theorem dX0_lines_24 : decode cX0_lines 24 = .ok (.invokestatic 10, 3) := dk_184 0 10 (dk_at dksX0_lines_1 0 rfl rfl)
theorem dX0_lines_27 : decode cX0_lines 27 = .ok (.iastore, 1) := dk_79 (dk_at dksX0_lines_1 3 rfl rfl)
theorem dX0_lines_28 : decode cX0_lines 28 = .ok (.dup, 1) := dk_89 (dk_at dksX0_lines_1 4 rfl rfl)
theorem dX0_lines_29 : decode cX0_lines 29 = .ok (.iconst 3, 1) := dk_6 (dk_at dksX0_lines_1 5 rfl rfl)
theorem dX0_lines_30 : decode cX0_lines 30 = .ok (.aload_n 0, 1) := dk_42 (dk_at dksX0_lines_1 6 rfl rfl)
theorem dX0_lines_31 : decode cX0_lines 31 = .ok (.iconst 5, 1) := dk_8 (dk_at dksX0_lines_1 7 rfl rfl)
theorem dX0_lines_32 : decode cX0_lines 32 = .ok (.invokestatic 10, 3) := dk_184 0 10 (dk_at dksX0_lines_1 8 rfl rfl)
theorem dX0_lines_35 : decode cX0_lines 35 = .ok (.iastore, 1) := dk_79 (dk_at dksX0_lines_1 11 rfl rfl)
theorem dX0_lines_36 : decode cX0_lines 36 = .ok (.dup, 1) := dk_89 (dk_at dksX0_lines_1 12 rfl rfl)
theorem dX0_lines_37 : decode cX0_lines 37 = .ok (.iconst 4, 1) := dk_7 (dk_at dksX0_lines_1 13 rfl rfl)
theorem dX0_lines_38 : decode cX0_lines 38 = .ok (.aload_n 0, 1) := dk_42 (dk_at dksX0_lines_1 14 rfl rfl)
theorem dX0_lines_39 : decode cX0_lines 39 = .ok (.bipush 6, 2) := dk_16 6 (dk_at dksX0_lines_1 15 rfl rfl)
theorem dX0_lines_41 : decode cX0_lines 41 = .ok (.invokestatic 10, 3) := dk_184 0 10 (dk_at dksX0_lines_1 17 rfl rfl)
theorem dX0_lines_44 : decode cX0_lines 44 = .ok (.iastore, 1) := dk_79 (dk_at dksX0_lines_1 20 rfl rfl)
theorem dX0_lines_45 : decode cX0_lines 45 = .ok (.dup, 1) := dk_89 (dk_at dksX0_lines_1 21 rfl rfl)
theorem dX0_lines_46 : decode cX0_lines 46 = .ok (.iconst 5, 1) := dk_8 (dk_at dksX0_lines_1 22 rfl rfl)
theorem dX0_lines_47 : decode cX0_lines 47 = .ok (.aload_n 0, 1) := dk_42 (dk_at dksX0_lines_1 23 rfl rfl)
theorem dX0_lines_48 : decode cX0_lines 48 = .ok (.bipush 7, 2) := dk_16 7 (dk_at dksX0_lines_2 0 rfl rfl)
theorem dX0_lines_50 : decode cX0_lines 50 = .ok (.invokestatic 10, 3) := dk_184 0 10 (dk_at dksX0_lines_2 2 rfl rfl)
theorem dX0_lines_53 : decode cX0_lines 53 = .ok (.iastore, 1) := dk_79 (dk_at dksX0_lines_2 5 rfl rfl)
theorem dX0_lines_54 : decode cX0_lines 54 = .ok (.dup, 1) := dk_89 (dk_at dksX0_lines_2 6 rfl rfl)
theorem dX0_lines_55 : decode cX0_lines 55 = .ok (.bipush 6, 2) := dk_16 6 (dk_at dksX0_lines_2 7 rfl rfl)
theorem dX0_lines_57 : decode cX0_lines 57 = .ok (.aload_n 0, 1) := dk_42 (dk_at dksX0_lines_2 9 rfl rfl)
theorem dX0_lines_58 : decode cX0_lines 58 = .ok (.bipush 8, 2) := dk_16 8 (dk_at dksX0_lines_2 10 rfl rfl)
theorem dX0_lines_60 : decode cX0_lines 60 = .ok (.invokestatic 10, 3) := dk_184 0 10 (dk_at dksX0_lines_2 12 rfl rfl)
theorem dX0_lines_63 : decode cX0_lines 63 = .ok (.iastore, 1) := dk_79 (dk_at dksX0_lines_2 15 rfl rfl)
theorem dX0_lines_64 : decode cX0_lines 64 = .ok (.dup, 1) := dk_89 (dk_at dksX0_lines_2 16 rfl rfl)
theorem dX0_lines_65 : decode cX0_lines 65 = .ok (.bipush 7, 2) := dk_16 7 (dk_at dksX0_lines_2 17 rfl rfl)
theorem dX0_lines_67 : decode cX0_lines 67 = .ok (.aload_n 0, 1) := dk_42 (dk_at dksX0_lines_2 19 rfl rfl)
theorem dX0_lines_68 : decode cX0_lines 68 = .ok (.bipush 9, 2) := dk_16 9 (dk_at dksX0_lines_2 20 rfl rfl)
theorem dX0_lines_70 : decode cX0_lines 70 = .ok (.invokestatic 10, 3) := dk_184 0 10 (dk_at dksX0_lines_3 0 rfl rfl)
theorem dX0_lines_73 : decode cX0_lines 73 = .ok (.iastore, 1) := dk_79 (dk_at dksX0_lines_3 3 rfl rfl)
theorem dX0_lines_74 : decode cX0_lines 74 = .ok (.dup, 1) := dk_89 (dk_at dksX0_lines_3 4 rfl rfl)
theorem dX0_lines_75 : decode cX0_lines 75 = .ok (.bipush 8, 2) := dk_16 8 (dk_at dksX0_lines_3 5 rfl rfl)
theorem dX0_lines_77 : decode cX0_lines 77 = .ok (.aload_n 0, 1) := dk_42 (dk_at dksX0_lines_3 7 rfl rfl)
theorem dX0_lines_78 : decode cX0_lines 78 = .ok (.bipush 10, 2) := dk_16 10 (dk_at dksX0_lines_3 8 rfl rfl)
theorem dX0_lines_80 : decode cX0_lines 80 = .ok (.invokestatic 10, 3) := dk_184 0 10 (dk_at dksX0_lines_3 10 rfl rfl)
theorem dX0_lines_83 : decode cX0_lines 83 = .ok (.iastore, 1) := dk_79 (dk_at dksX0_lines_3 13 rfl rfl)
theorem dX0_lines_84 : decode cX0_lines 84 = .ok (.dup, 1) := dk_89 (dk_at dksX0_lines_3 14 rfl rfl)
theorem dX0_lines_85 : decode cX0_lines 85 = .ok (.bipush 9, 2) := dk_16 9 (dk_at dksX0_lines_3 15 rfl rfl)
theorem dX0_lines_87 : decode cX0_lines 87 = .ok (.aload_n 0, 1) := dk_42 (dk_at dksX0_lines_3 17 rfl rfl)
theorem dX0_lines_88 : decode cX0_lines 88 = .ok (.bipush 11, 2) := dk_16 11 (dk_at dksX0_lines_3 18 rfl rfl)
theorem dX0_lines_90 : decode cX0_lines 90 = .ok (.invokestatic 10, 3) := dk_184 0 10 (dk_at dksX0_lines_3 20 rfl rfl)
theorem dX0_lines_93 : decode cX0_lines 93 = .ok (.iastore, 1) := dk_79 (dk_at dksX0_lines_3 23 rfl rfl)
theorem dX0_lines_94 : decode cX0_lines 94 = .ok (.dup, 1) := dk_89 (dk_at dksX0_lines_4 0 rfl rfl)
theorem dX0_lines_95 : decode cX0_lines 95 = .ok (.bipush 10, 2) := dk_16 10 (dk_at dksX0_lines_4 1 rfl rfl)
theorem dX0_lines_97 : decode cX0_lines 97 = .ok (.aload_n 0, 1) := dk_42 (dk_at dksX0_lines_4 3 rfl rfl)
theorem dX0_lines_98 : decode cX0_lines 98 = .ok (.bipush 12, 2) := dk_16 12 (dk_at dksX0_lines_4 4 rfl rfl)
theorem dX0_lines_100 : decode cX0_lines 100 = .ok (.invokestatic 10, 3) := dk_184 0 10 (dk_at dksX0_lines_4 6 rfl rfl)
theorem dX0_lines_103 : decode cX0_lines 103 = .ok (.iastore, 1) := dk_79 (dk_at dksX0_lines_4 9 rfl rfl)
theorem dX0_lines_104 : decode cX0_lines 104 = .ok (.dup, 1) := dk_89 (dk_at dksX0_lines_4 10 rfl rfl)
theorem dX0_lines_105 : decode cX0_lines 105 = .ok (.bipush 11, 2) := dk_16 11 (dk_at dksX0_lines_4 11 rfl rfl)
theorem dX0_lines_107 : decode cX0_lines 107 = .ok (.aload_n 0, 1) := dk_42 (dk_at dksX0_lines_4 13 rfl rfl)
theorem dX0_lines_108 : decode cX0_lines 108 = .ok (.bipush 13, 2) := dk_16 13 (dk_at dksX0_lines_4 14 rfl rfl)
theorem dX0_lines_110 : decode cX0_lines 110 = .ok (.invokestatic 10, 3) := dk_184 0 10 (dk_at dksX0_lines_4 16 rfl rfl)
theorem dX0_lines_113 : decode cX0_lines 113 = .ok (.iastore, 1) := dk_79 (dk_at dksX0_lines_4 19 rfl rfl)
theorem dX0_lines_114 : decode cX0_lines 114 = .ok (.dup, 1) := dk_89 (dk_at dksX0_lines_4 20 rfl rfl)
theorem dX0_lines_115 : decode cX0_lines 115 = .ok (.bipush 12, 2) := dk_16 12 (dk_at dksX0_lines_4 21 rfl rfl)
theorem dX0_lines_117 : decode cX0_lines 117 = .ok (.aload_n 0, 1) := dk_42 (dk_at dksX0_lines_4 23 rfl rfl)
theorem dX0_lines_118 : decode cX0_lines 118 = .ok (.bipush 14, 2) := dk_16 14 (dk_at dksX0_lines_5 0 rfl rfl)
theorem dX0_lines_120 : decode cX0_lines 120 = .ok (.invokestatic 10, 3) := dk_184 0 10 (dk_at dksX0_lines_5 2 rfl rfl)
theorem dX0_lines_123 : decode cX0_lines 123 = .ok (.iastore, 1) := dk_79 (dk_at dksX0_lines_5 5 rfl rfl)
theorem dX0_lines_124 : decode cX0_lines 124 = .ok (.dup, 1) := dk_89 (dk_at dksX0_lines_5 6 rfl rfl)
theorem dX0_lines_125 : decode cX0_lines 125 = .ok (.bipush 13, 2) := dk_16 13 (dk_at dksX0_lines_5 7 rfl rfl)
theorem dX0_lines_127 : decode cX0_lines 127 = .ok (.aload_n 0, 1) := dk_42 (dk_at dksX0_lines_5 9 rfl rfl)
theorem dX0_lines_128 : decode cX0_lines 128 = .ok (.bipush 15, 2) := dk_16 15 (dk_at dksX0_lines_5 10 rfl rfl)
theorem dX0_lines_130 : decode cX0_lines 130 = .ok (.invokestatic 10, 3) := dk_184 0 10 (dk_at dksX0_lines_5 12 rfl rfl)
theorem dX0_lines_133 : decode cX0_lines 133 = .ok (.iastore, 1) := dk_79 (dk_at dksX0_lines_5 15 rfl rfl)
theorem dX0_lines_134 : decode cX0_lines 134 = .ok (.dup, 1) := dk_89 (dk_at dksX0_lines_5 16 rfl rfl)
theorem dX0_lines_135 : decode cX0_lines 135 = .ok (.bipush 14, 2) := dk_16 14 (dk_at dksX0_lines_5 17 rfl rfl)
theorem dX0_lines_137 : decode cX0_lines 137 = .ok (.aload_n 0, 1) := dk_42 (dk_at dksX0_lines_5 19 rfl rfl)
theorem dX0_lines_138 : decode cX0_lines 138 = .ok (.bipush 16, 2) := dk_16 16 (dk_at dksX0_lines_5 20 rfl rfl)
theorem dX0_lines_140 : decode cX0_lines 140 = .ok (.invokestatic 10, 3) := dk_184 0 10 (dk_at dksX0_lines_6 0 rfl rfl)
theorem dX0_lines_143 : decode cX0_lines 143 = .ok (.iastore, 1) := dk_79 (dk_at dksX0_lines_6 3 rfl rfl)
theorem dX0_lines_144 : decode cX0_lines 144 = .ok (.areturn, 1) := dk_176 (dk_at dksX0_lines_6 4 rfl rfl)
abbrev cX0_found : ByteArray := method_7_code
def yX0_found : MethodName := ⟨RX0, "found", "([I)Z"⟩
def dkwX0_found_12 : List UInt8 := [132, 10, 1, 167, 255, 228, 132, 3, 1, 167, 255, 23, 4, 172]
abbrev dktX0_found_12 : List UInt8 := dkwX0_found_12 ++ []
def dkwX0_found_11 : List UInt8 := [16, 24, 162, 0, 27, 43, 21, 10, 182, 0, 35, 44, 21, 10, 182, 0, 35, 148, 153, 0, 5, 3, 172]
abbrev dktX0_found_11 : List UInt8 := dkwX0_found_11 ++ dktX0_found_12
def dkwX0_found_10 : List UInt8 := [153, 0, 9, 17, 16, 0, 167, 0, 7, 2, 21, 6, 100, 159, 0, 5, 3, 172, 3, 54, 10, 21, 10]
abbrev dktX0_found_10 : List UInt8 := dkwX0_found_10 ++ dktX0_found_11
def dkwX0_found_9 : List UInt8 := [167, 0, 4, 3, 128, 54, 9, 132, 10, 1, 167, 255, 202, 43, 21, 4, 21, 5, 182, 0, 63, 21, 9]
abbrev dktX0_found_9 : List UInt8 := dkwX0_found_9 ++ dktX0_found_10
def dkwX0_found_8 : List UInt8 := [167, 0, 4, 3, 96, 54, 6, 21, 9, 44, 21, 10, 182, 0, 35, 22, 7, 148, 154, 0, 7, 4]
abbrev dktX0_found_8 : List UInt8 := dkwX0_found_8 ++ dktX0_found_9
def dkwX0_found_7 : List UInt8 := [21, 10, 16, 24, 162, 0, 53, 21, 6, 44, 21, 10, 182, 0, 35, 22, 7, 148, 156, 0, 7, 4]
abbrev dktX0_found_7 : List UInt8 := dkwX0_found_7 ++ dktX0_found_8
def dkwX0_found_6 : List UInt8 := [54, 6, 21, 4, 133, 16, 32, 121, 21, 5, 133, 20, 0, 39, 127, 129, 55, 7, 3, 54, 9, 3, 54, 10]
abbrev dktX0_found_6 : List UInt8 := dkwX0_found_6 ++ dktX0_found_7
def dkwX0_found_5 : List UInt8 := [16, 24, 160, 0, 11, 42, 4, 184, 0, 10, 167, 0, 10, 42, 6, 184, 0, 10, 4, 96, 54, 5, 3]
abbrev dktX0_found_5 : List UInt8 := dkwX0_found_5 ++ dktX0_found_6
def dkwX0_found_4 : List UInt8 := [184, 0, 10, 54, 4, 29, 16, 24, 162, 0, 15, 42, 6, 5, 29, 104, 96, 184, 0, 10, 167, 0, 24, 29]
abbrev dktX0_found_4 : List UInt8 := dkwX0_found_4 ++ dktX0_found_5
def dkwX0_found_3 : List UInt8 := [184, 0, 10, 167, 0, 22, 29, 16, 24, 160, 0, 11, 42, 3, 184, 0, 10, 167, 0, 8, 42, 5]
abbrev dktX0_found_3 : List UInt8 := dkwX0_found_3 ++ dktX0_found_4
def dkwX0_found_2 : List UInt8 := [3, 172, 3, 62, 29, 16, 26, 162, 0, 233, 29, 16, 24, 162, 0, 15, 42, 5, 5, 29, 104, 96]
abbrev dktX0_found_2 : List UInt8 := dkwX0_found_2 ++ dktX0_found_3
def dkwX0_found_1 : List UInt8 := [187, 0, 7, 89, 183, 0, 9, 42, 3, 184, 0, 10, 42, 4, 184, 0, 10, 182, 0, 63, 2, 159, 0, 5]
abbrev dktX0_found_1 : List UInt8 := dkwX0_found_1 ++ dktX0_found_2
def dkwX0_found_0 : List UInt8 := [42, 184, 0, 20, 76, 42, 184, 0, 20, 77, 44, 3, 16, 24, 182, 0, 29, 16, 24, 160, 0, 27]
abbrev dktX0_found_0 : List UInt8 := dkwX0_found_0 ++ dktX0_found_1
theorem dksX0_found_0 : cX0_found.data.toList.drop 0 = dktX0_found_0 := by decide +kernel
theorem dksX0_found_1 : cX0_found.data.toList.drop 22 = dktX0_found_1 := dk_seg dksX0_found_0 22 rfl rfl
theorem dksX0_found_2 : cX0_found.data.toList.drop 46 = dktX0_found_2 := dk_seg dksX0_found_1 24 rfl rfl
theorem dksX0_found_3 : cX0_found.data.toList.drop 68 = dktX0_found_3 := dk_seg dksX0_found_2 22 rfl rfl
theorem dksX0_found_4 : cX0_found.data.toList.drop 90 = dktX0_found_4 := dk_seg dksX0_found_3 22 rfl rfl
theorem dksX0_found_5 : cX0_found.data.toList.drop 114 = dktX0_found_5 := dk_seg dksX0_found_4 24 rfl rfl
theorem dksX0_found_6 : cX0_found.data.toList.drop 137 = dktX0_found_6 := dk_seg dksX0_found_5 23 rfl rfl
theorem dksX0_found_7 : cX0_found.data.toList.drop 161 = dktX0_found_7 := dk_seg dksX0_found_6 24 rfl rfl
theorem dksX0_found_8 : cX0_found.data.toList.drop 183 = dktX0_found_8 := dk_seg dksX0_found_7 22 rfl rfl
theorem dksX0_found_9 : cX0_found.data.toList.drop 205 = dktX0_found_9 := dk_seg dksX0_found_8 22 rfl rfl
theorem dksX0_found_10 : cX0_found.data.toList.drop 228 = dktX0_found_10 := dk_seg dksX0_found_9 23 rfl rfl
theorem dksX0_found_11 : cX0_found.data.toList.drop 251 = dktX0_found_11 := dk_seg dksX0_found_10 23 rfl rfl
theorem dksX0_found_12 : cX0_found.data.toList.drop 274 = dktX0_found_12 := dk_seg dksX0_found_11 23 rfl rfl
theorem dX0_found_0 : decode cX0_found 0 = .ok (.aload_n 0, 1) := dk_42 (dk_at dksX0_found_0 0 rfl rfl)
theorem dX0_found_1 : decode cX0_found 1 = .ok (.invokestatic 20, 3) := dk_184 0 20 (dk_at dksX0_found_0 1 rfl rfl)
theorem dX0_found_4 : decode cX0_found 4 = .ok (.astore_n 1, 1) := dk_76 (dk_at dksX0_found_0 4 rfl rfl)
theorem dX0_found_5 : decode cX0_found 5 = .ok (.aload_n 0, 1) := dk_42 (dk_at dksX0_found_0 5 rfl rfl)
theorem dX0_found_6 : decode cX0_found 6 = .ok (.invokestatic 20, 3) := dk_184 0 20 (dk_at dksX0_found_0 6 rfl rfl)
theorem dX0_found_9 : decode cX0_found 9 = .ok (.astore_n 2, 1) := dk_77 (dk_at dksX0_found_0 9 rfl rfl)
theorem dX0_found_10 : decode cX0_found 10 = .ok (.aload_n 2, 1) := dk_44 (dk_at dksX0_found_0 10 rfl rfl)
theorem dX0_found_11 : decode cX0_found 11 = .ok (.iconst 0, 1) := dk_3 (dk_at dksX0_found_0 11 rfl rfl)
theorem dX0_found_12 : decode cX0_found 12 = .ok (.bipush 24, 2) := dk_16 24 (dk_at dksX0_found_0 12 rfl rfl)
theorem dX0_found_14 : decode cX0_found 14 = .ok (.invokevirtual 29, 3) := dk_182 0 29 (dk_at dksX0_found_0 14 rfl rfl)
theorem dX0_found_17 : decode cX0_found 17 = .ok (.bipush 24, 2) := dk_16 24 (dk_at dksX0_found_0 17 rfl rfl)
theorem dX0_found_19 : decode cX0_found 19 = .ok (.if_icmp .ne 27, 3) := dk_160 0 27 (dk_at dksX0_found_0 19 rfl rfl)
theorem dX0_found_22 : decode cX0_found 22 = .ok (.new 7, 3) := dk_187 0 7 (dk_at dksX0_found_1 0 rfl rfl)
theorem dX0_found_25 : decode cX0_found 25 = .ok (.dup, 1) := dk_89 (dk_at dksX0_found_1 3 rfl rfl)
theorem dX0_found_26 : decode cX0_found 26 = .ok (.invokespecial 9, 3) := dk_183 0 9 (dk_at dksX0_found_1 4 rfl rfl)
theorem dX0_found_29 : decode cX0_found 29 = .ok (.aload_n 0, 1) := dk_42 (dk_at dksX0_found_1 7 rfl rfl)
theorem dX0_found_30 : decode cX0_found 30 = .ok (.iconst 0, 1) := dk_3 (dk_at dksX0_found_1 8 rfl rfl)
theorem dX0_found_31 : decode cX0_found 31 = .ok (.invokestatic 10, 3) := dk_184 0 10 (dk_at dksX0_found_1 9 rfl rfl)
theorem dX0_found_34 : decode cX0_found 34 = .ok (.aload_n 0, 1) := dk_42 (dk_at dksX0_found_1 12 rfl rfl)
theorem dX0_found_35 : decode cX0_found 35 = .ok (.iconst 1, 1) := dk_4 (dk_at dksX0_found_1 13 rfl rfl)
theorem dX0_found_36 : decode cX0_found 36 = .ok (.invokestatic 10, 3) := dk_184 0 10 (dk_at dksX0_found_1 14 rfl rfl)
theorem dX0_found_39 : decode cX0_found 39 = .ok (.invokevirtual 63, 3) := dk_182 0 63 (dk_at dksX0_found_1 17 rfl rfl)
theorem dX0_found_42 : decode cX0_found 42 = .ok (.iconst (-1), 1) := dk_2 (dk_at dksX0_found_1 20 rfl rfl)
theorem dX0_found_43 : decode cX0_found 43 = .ok (.if_icmp .eq 5, 3) := dk_159 0 5 (dk_at dksX0_found_1 21 rfl rfl)
theorem dX0_found_46 : decode cX0_found 46 = .ok (.iconst 0, 1) := dk_3 (dk_at dksX0_found_2 0 rfl rfl)
theorem dX0_found_47 : decode cX0_found 47 = .ok (.ireturn, 1) := dk_172 (dk_at dksX0_found_2 1 rfl rfl)
theorem dX0_found_48 : decode cX0_found 48 = .ok (.iconst 0, 1) := dk_3 (dk_at dksX0_found_2 2 rfl rfl)
theorem dX0_found_49 : decode cX0_found 49 = .ok (.istore_n 3, 1) := dk_62 (dk_at dksX0_found_2 3 rfl rfl)
theorem dX0_found_50 : decode cX0_found 50 = .ok (.iload_n 3, 1) := dk_29 (dk_at dksX0_found_2 4 rfl rfl)
theorem dX0_found_51 : decode cX0_found 51 = .ok (.bipush 26, 2) := dk_16 26 (dk_at dksX0_found_2 5 rfl rfl)
theorem dX0_found_53 : decode cX0_found 53 = .ok (.if_icmp .ge 233, 3) := dk_162 0 233 (dk_at dksX0_found_2 7 rfl rfl)
theorem dX0_found_56 : decode cX0_found 56 = .ok (.iload_n 3, 1) := dk_29 (dk_at dksX0_found_2 10 rfl rfl)
theorem dX0_found_57 : decode cX0_found 57 = .ok (.bipush 24, 2) := dk_16 24 (dk_at dksX0_found_2 11 rfl rfl)
theorem dX0_found_59 : decode cX0_found 59 = .ok (.if_icmp .ge 15, 3) := dk_162 0 15 (dk_at dksX0_found_2 13 rfl rfl)
theorem dX0_found_62 : decode cX0_found 62 = .ok (.aload_n 0, 1) := dk_42 (dk_at dksX0_found_2 16 rfl rfl)
theorem dX0_found_63 : decode cX0_found 63 = .ok (.iconst 2, 1) := dk_5 (dk_at dksX0_found_2 17 rfl rfl)
theorem dX0_found_64 : decode cX0_found 64 = .ok (.iconst 2, 1) := dk_5 (dk_at dksX0_found_2 18 rfl rfl)
theorem dX0_found_65 : decode cX0_found 65 = .ok (.iload_n 3, 1) := dk_29 (dk_at dksX0_found_2 19 rfl rfl)
theorem dX0_found_66 : decode cX0_found 66 = .ok (.imul, 1) := dk_104 (dk_at dksX0_found_2 20 rfl rfl)
theorem dX0_found_67 : decode cX0_found 67 = .ok (.iadd, 1) := dk_96 (dk_at dksX0_found_2 21 rfl rfl)
theorem dX0_found_68 : decode cX0_found 68 = .ok (.invokestatic 10, 3) := dk_184 0 10 (dk_at dksX0_found_3 0 rfl rfl)
theorem dX0_found_71 : decode cX0_found 71 = .ok (.goto 22, 3) := dk_167 0 22 (dk_at dksX0_found_3 3 rfl rfl)
theorem dX0_found_74 : decode cX0_found 74 = .ok (.iload_n 3, 1) := dk_29 (dk_at dksX0_found_3 6 rfl rfl)
theorem dX0_found_75 : decode cX0_found 75 = .ok (.bipush 24, 2) := dk_16 24 (dk_at dksX0_found_3 7 rfl rfl)
theorem dX0_found_77 : decode cX0_found 77 = .ok (.if_icmp .ne 11, 3) := dk_160 0 11 (dk_at dksX0_found_3 9 rfl rfl)
theorem dX0_found_80 : decode cX0_found 80 = .ok (.aload_n 0, 1) := dk_42 (dk_at dksX0_found_3 12 rfl rfl)
theorem dX0_found_81 : decode cX0_found 81 = .ok (.iconst 0, 1) := dk_3 (dk_at dksX0_found_3 13 rfl rfl)
theorem dX0_found_82 : decode cX0_found 82 = .ok (.invokestatic 10, 3) := dk_184 0 10 (dk_at dksX0_found_3 14 rfl rfl)
theorem dX0_found_85 : decode cX0_found 85 = .ok (.goto 8, 3) := dk_167 0 8 (dk_at dksX0_found_3 17 rfl rfl)
theorem dX0_found_88 : decode cX0_found 88 = .ok (.aload_n 0, 1) := dk_42 (dk_at dksX0_found_3 20 rfl rfl)
theorem dX0_found_89 : decode cX0_found 89 = .ok (.iconst 2, 1) := dk_5 (dk_at dksX0_found_3 21 rfl rfl)
theorem dX0_found_90 : decode cX0_found 90 = .ok (.invokestatic 10, 3) := dk_184 0 10 (dk_at dksX0_found_4 0 rfl rfl)
theorem dX0_found_93 : decode cX0_found 93 = .ok (.istore 4, 2) := dk_54 4 (dk_at dksX0_found_4 3 rfl rfl)
theorem dX0_found_95 : decode cX0_found 95 = .ok (.iload_n 3, 1) := dk_29 (dk_at dksX0_found_4 5 rfl rfl)
theorem dX0_found_96 : decode cX0_found 96 = .ok (.bipush 24, 2) := dk_16 24 (dk_at dksX0_found_4 6 rfl rfl)
theorem dX0_found_98 : decode cX0_found 98 = .ok (.if_icmp .ge 15, 3) := dk_162 0 15 (dk_at dksX0_found_4 8 rfl rfl)
theorem dX0_found_101 : decode cX0_found 101 = .ok (.aload_n 0, 1) := dk_42 (dk_at dksX0_found_4 11 rfl rfl)
theorem dX0_found_102 : decode cX0_found 102 = .ok (.iconst 3, 1) := dk_6 (dk_at dksX0_found_4 12 rfl rfl)
theorem dX0_found_103 : decode cX0_found 103 = .ok (.iconst 2, 1) := dk_5 (dk_at dksX0_found_4 13 rfl rfl)
theorem dX0_found_104 : decode cX0_found 104 = .ok (.iload_n 3, 1) := dk_29 (dk_at dksX0_found_4 14 rfl rfl)
theorem dX0_found_105 : decode cX0_found 105 = .ok (.imul, 1) := dk_104 (dk_at dksX0_found_4 15 rfl rfl)
theorem dX0_found_106 : decode cX0_found 106 = .ok (.iadd, 1) := dk_96 (dk_at dksX0_found_4 16 rfl rfl)
theorem dX0_found_107 : decode cX0_found 107 = .ok (.invokestatic 10, 3) := dk_184 0 10 (dk_at dksX0_found_4 17 rfl rfl)
theorem dX0_found_110 : decode cX0_found 110 = .ok (.goto 24, 3) := dk_167 0 24 (dk_at dksX0_found_4 20 rfl rfl)
theorem dX0_found_113 : decode cX0_found 113 = .ok (.iload_n 3, 1) := dk_29 (dk_at dksX0_found_4 23 rfl rfl)
theorem dX0_found_114 : decode cX0_found 114 = .ok (.bipush 24, 2) := dk_16 24 (dk_at dksX0_found_5 0 rfl rfl)
theorem dX0_found_116 : decode cX0_found 116 = .ok (.if_icmp .ne 11, 3) := dk_160 0 11 (dk_at dksX0_found_5 2 rfl rfl)
theorem dX0_found_119 : decode cX0_found 119 = .ok (.aload_n 0, 1) := dk_42 (dk_at dksX0_found_5 5 rfl rfl)
theorem dX0_found_120 : decode cX0_found 120 = .ok (.iconst 1, 1) := dk_4 (dk_at dksX0_found_5 6 rfl rfl)
theorem dX0_found_121 : decode cX0_found 121 = .ok (.invokestatic 10, 3) := dk_184 0 10 (dk_at dksX0_found_5 7 rfl rfl)
theorem dX0_found_124 : decode cX0_found 124 = .ok (.goto 10, 3) := dk_167 0 10 (dk_at dksX0_found_5 10 rfl rfl)
theorem dX0_found_127 : decode cX0_found 127 = .ok (.aload_n 0, 1) := dk_42 (dk_at dksX0_found_5 13 rfl rfl)
theorem dX0_found_128 : decode cX0_found 128 = .ok (.iconst 3, 1) := dk_6 (dk_at dksX0_found_5 14 rfl rfl)
theorem dX0_found_129 : decode cX0_found 129 = .ok (.invokestatic 10, 3) := dk_184 0 10 (dk_at dksX0_found_5 15 rfl rfl)
theorem dX0_found_132 : decode cX0_found 132 = .ok (.iconst 1, 1) := dk_4 (dk_at dksX0_found_5 18 rfl rfl)
theorem dX0_found_133 : decode cX0_found 133 = .ok (.iadd, 1) := dk_96 (dk_at dksX0_found_5 19 rfl rfl)
theorem dX0_found_134 : decode cX0_found 134 = .ok (.istore 5, 2) := dk_54 5 (dk_at dksX0_found_5 20 rfl rfl)
theorem dX0_found_136 : decode cX0_found 136 = .ok (.iconst 0, 1) := dk_3 (dk_at dksX0_found_5 22 rfl rfl)
theorem dX0_found_137 : decode cX0_found 137 = .ok (.istore 6, 2) := dk_54 6 (dk_at dksX0_found_6 0 rfl rfl)
theorem dX0_found_139 : decode cX0_found 139 = .ok (.iload 4, 2) := dk_21 4 (dk_at dksX0_found_6 2 rfl rfl)
theorem dX0_found_141 : decode cX0_found 141 = .ok (.i2l, 1) := dk_133 (dk_at dksX0_found_6 4 rfl rfl)
theorem dX0_found_142 : decode cX0_found 142 = .ok (.bipush 32, 2) := dk_16 32 (dk_at dksX0_found_6 5 rfl rfl)
theorem dX0_found_144 : decode cX0_found 144 = .ok (.lshl, 1) := dk_121 (dk_at dksX0_found_6 7 rfl rfl)
theorem dX0_found_145 : decode cX0_found 145 = .ok (.iload 5, 2) := dk_21 5 (dk_at dksX0_found_6 8 rfl rfl)
theorem dX0_found_147 : decode cX0_found 147 = .ok (.i2l, 1) := dk_133 (dk_at dksX0_found_6 10 rfl rfl)
theorem dX0_found_148 : decode cX0_found 148 = .ok (.ldc2_w 39, 3) := dk_20 0 39 (dk_at dksX0_found_6 11 rfl rfl)
theorem dX0_found_151 : decode cX0_found 151 = .ok (.land, 1) := dk_127 (dk_at dksX0_found_6 14 rfl rfl)
theorem dX0_found_152 : decode cX0_found 152 = .ok (.lor, 1) := dk_129 (dk_at dksX0_found_6 15 rfl rfl)
theorem dX0_found_153 : decode cX0_found 153 = .ok (.lstore 7, 2) := dk_55 7 (dk_at dksX0_found_6 16 rfl rfl)
theorem dX0_found_155 : decode cX0_found 155 = .ok (.iconst 0, 1) := dk_3 (dk_at dksX0_found_6 18 rfl rfl)
theorem dX0_found_156 : decode cX0_found 156 = .ok (.istore 9, 2) := dk_54 9 (dk_at dksX0_found_6 19 rfl rfl)
theorem dX0_found_158 : decode cX0_found 158 = .ok (.iconst 0, 1) := dk_3 (dk_at dksX0_found_6 21 rfl rfl)
theorem dX0_found_159 : decode cX0_found 159 = .ok (.istore 10, 2) := dk_54 10 (dk_at dksX0_found_6 22 rfl rfl)
theorem dX0_found_161 : decode cX0_found 161 = .ok (.iload 10, 2) := dk_21 10 (dk_at dksX0_found_7 0 rfl rfl)
theorem dX0_found_163 : decode cX0_found 163 = .ok (.bipush 24, 2) := dk_16 24 (dk_at dksX0_found_7 2 rfl rfl)
theorem dX0_found_165 : decode cX0_found 165 = .ok (.if_icmp .ge 53, 3) := dk_162 0 53 (dk_at dksX0_found_7 4 rfl rfl)
theorem dX0_found_168 : decode cX0_found 168 = .ok (.iload 6, 2) := dk_21 6 (dk_at dksX0_found_7 7 rfl rfl)
theorem dX0_found_170 : decode cX0_found 170 = .ok (.aload_n 2, 1) := dk_44 (dk_at dksX0_found_7 9 rfl rfl)
theorem dX0_found_171 : decode cX0_found 171 = .ok (.iload 10, 2) := dk_21 10 (dk_at dksX0_found_7 10 rfl rfl)
theorem dX0_found_173 : decode cX0_found 173 = .ok (.invokevirtual 35, 3) := dk_182 0 35 (dk_at dksX0_found_7 12 rfl rfl)
theorem dX0_found_176 : decode cX0_found 176 = .ok (.lload 7, 2) := dk_22 7 (dk_at dksX0_found_7 15 rfl rfl)
theorem dX0_found_178 : decode cX0_found 178 = .ok (.lcmp, 1) := dk_148 (dk_at dksX0_found_7 17 rfl rfl)
theorem dX0_found_179 : decode cX0_found 179 = .ok (.ifCond .ge 7, 3) := dk_156 0 7 (dk_at dksX0_found_7 18 rfl rfl)
theorem dX0_found_182 : decode cX0_found 182 = .ok (.iconst 1, 1) := dk_4 (dk_at dksX0_found_7 21 rfl rfl)
theorem dX0_found_183 : decode cX0_found 183 = .ok (.goto 4, 3) := dk_167 0 4 (dk_at dksX0_found_8 0 rfl rfl)
theorem dX0_found_186 : decode cX0_found 186 = .ok (.iconst 0, 1) := dk_3 (dk_at dksX0_found_8 3 rfl rfl)
theorem dX0_found_187 : decode cX0_found 187 = .ok (.iadd, 1) := dk_96 (dk_at dksX0_found_8 4 rfl rfl)
theorem dX0_found_188 : decode cX0_found 188 = .ok (.istore 6, 2) := dk_54 6 (dk_at dksX0_found_8 5 rfl rfl)
theorem dX0_found_190 : decode cX0_found 190 = .ok (.iload 9, 2) := dk_21 9 (dk_at dksX0_found_8 7 rfl rfl)
theorem dX0_found_192 : decode cX0_found 192 = .ok (.aload_n 2, 1) := dk_44 (dk_at dksX0_found_8 9 rfl rfl)
theorem dX0_found_193 : decode cX0_found 193 = .ok (.iload 10, 2) := dk_21 10 (dk_at dksX0_found_8 10 rfl rfl)
theorem dX0_found_195 : decode cX0_found 195 = .ok (.invokevirtual 35, 3) := dk_182 0 35 (dk_at dksX0_found_8 12 rfl rfl)
theorem dX0_found_198 : decode cX0_found 198 = .ok (.lload 7, 2) := dk_22 7 (dk_at dksX0_found_8 15 rfl rfl)
theorem dX0_found_200 : decode cX0_found 200 = .ok (.lcmp, 1) := dk_148 (dk_at dksX0_found_8 17 rfl rfl)
theorem dX0_found_201 : decode cX0_found 201 = .ok (.ifCond .ne 7, 3) := dk_154 0 7 (dk_at dksX0_found_8 18 rfl rfl)
theorem dX0_found_204 : decode cX0_found 204 = .ok (.iconst 1, 1) := dk_4 (dk_at dksX0_found_8 21 rfl rfl)
theorem dX0_found_205 : decode cX0_found 205 = .ok (.goto 4, 3) := dk_167 0 4 (dk_at dksX0_found_9 0 rfl rfl)
theorem dX0_found_208 : decode cX0_found 208 = .ok (.iconst 0, 1) := dk_3 (dk_at dksX0_found_9 3 rfl rfl)
theorem dX0_found_209 : decode cX0_found 209 = .ok (.ior, 1) := dk_128 (dk_at dksX0_found_9 4 rfl rfl)
theorem dX0_found_210 : decode cX0_found 210 = .ok (.istore 9, 2) := dk_54 9 (dk_at dksX0_found_9 5 rfl rfl)
theorem dX0_found_212 : decode cX0_found 212 = .ok (.iinc 10 1, 3) := dk_132 10 1 (dk_at dksX0_found_9 7 rfl rfl)
theorem dX0_found_215 : decode cX0_found 215 = .ok (.goto (-54), 3) := dk_167 255 202 (dk_at dksX0_found_9 10 rfl rfl)
theorem dX0_found_218 : decode cX0_found 218 = .ok (.aload_n 1, 1) := dk_43 (dk_at dksX0_found_9 13 rfl rfl)
theorem dX0_found_219 : decode cX0_found 219 = .ok (.iload 4, 2) := dk_21 4 (dk_at dksX0_found_9 14 rfl rfl)
theorem dX0_found_221 : decode cX0_found 221 = .ok (.iload 5, 2) := dk_21 5 (dk_at dksX0_found_9 16 rfl rfl)
theorem dX0_found_223 : decode cX0_found 223 = .ok (.invokevirtual 63, 3) := dk_182 0 63 (dk_at dksX0_found_9 18 rfl rfl)
theorem dX0_found_226 : decode cX0_found 226 = .ok (.iload 9, 2) := dk_21 9 (dk_at dksX0_found_9 21 rfl rfl)
theorem dX0_found_228 : decode cX0_found 228 = .ok (.ifCond .eq 9, 3) := dk_153 0 9 (dk_at dksX0_found_10 0 rfl rfl)
theorem dX0_found_231 : decode cX0_found 231 = .ok (.sipush 4096, 3) := dk_17 16 0 (dk_at dksX0_found_10 3 rfl rfl)
theorem dX0_found_234 : decode cX0_found 234 = .ok (.goto 7, 3) := dk_167 0 7 (dk_at dksX0_found_10 6 rfl rfl)
theorem dX0_found_237 : decode cX0_found 237 = .ok (.iconst (-1), 1) := dk_2 (dk_at dksX0_found_10 9 rfl rfl)
theorem dX0_found_238 : decode cX0_found 238 = .ok (.iload 6, 2) := dk_21 6 (dk_at dksX0_found_10 10 rfl rfl)
theorem dX0_found_240 : decode cX0_found 240 = .ok (.isub, 1) := dk_100 (dk_at dksX0_found_10 12 rfl rfl)
theorem dX0_found_241 : decode cX0_found 241 = .ok (.if_icmp .eq 5, 3) := dk_159 0 5 (dk_at dksX0_found_10 13 rfl rfl)
theorem dX0_found_244 : decode cX0_found 244 = .ok (.iconst 0, 1) := dk_3 (dk_at dksX0_found_10 16 rfl rfl)
theorem dX0_found_245 : decode cX0_found 245 = .ok (.ireturn, 1) := dk_172 (dk_at dksX0_found_10 17 rfl rfl)
theorem dX0_found_246 : decode cX0_found 246 = .ok (.iconst 0, 1) := dk_3 (dk_at dksX0_found_10 18 rfl rfl)
theorem dX0_found_247 : decode cX0_found 247 = .ok (.istore 10, 2) := dk_54 10 (dk_at dksX0_found_10 19 rfl rfl)
theorem dX0_found_249 : decode cX0_found 249 = .ok (.iload 10, 2) := dk_21 10 (dk_at dksX0_found_10 21 rfl rfl)
theorem dX0_found_251 : decode cX0_found 251 = .ok (.bipush 24, 2) := dk_16 24 (dk_at dksX0_found_11 0 rfl rfl)
theorem dX0_found_253 : decode cX0_found 253 = .ok (.if_icmp .ge 27, 3) := dk_162 0 27 (dk_at dksX0_found_11 2 rfl rfl)
theorem dX0_found_256 : decode cX0_found 256 = .ok (.aload_n 1, 1) := dk_43 (dk_at dksX0_found_11 5 rfl rfl)
theorem dX0_found_257 : decode cX0_found 257 = .ok (.iload 10, 2) := dk_21 10 (dk_at dksX0_found_11 6 rfl rfl)
theorem dX0_found_259 : decode cX0_found 259 = .ok (.invokevirtual 35, 3) := dk_182 0 35 (dk_at dksX0_found_11 8 rfl rfl)
theorem dX0_found_262 : decode cX0_found 262 = .ok (.aload_n 2, 1) := dk_44 (dk_at dksX0_found_11 11 rfl rfl)
theorem dX0_found_263 : decode cX0_found 263 = .ok (.iload 10, 2) := dk_21 10 (dk_at dksX0_found_11 12 rfl rfl)
theorem dX0_found_265 : decode cX0_found 265 = .ok (.invokevirtual 35, 3) := dk_182 0 35 (dk_at dksX0_found_11 14 rfl rfl)
theorem dX0_found_268 : decode cX0_found 268 = .ok (.lcmp, 1) := dk_148 (dk_at dksX0_found_11 17 rfl rfl)
theorem dX0_found_269 : decode cX0_found 269 = .ok (.ifCond .eq 5, 3) := dk_153 0 5 (dk_at dksX0_found_11 18 rfl rfl)
theorem dX0_found_272 : decode cX0_found 272 = .ok (.iconst 0, 1) := dk_3 (dk_at dksX0_found_11 21 rfl rfl)
theorem dX0_found_273 : decode cX0_found 273 = .ok (.ireturn, 1) := dk_172 (dk_at dksX0_found_11 22 rfl rfl)
theorem dX0_found_274 : decode cX0_found 274 = .ok (.iinc 10 1, 3) := dk_132 10 1 (dk_at dksX0_found_12 0 rfl rfl)
theorem dX0_found_277 : decode cX0_found 277 = .ok (.goto (-28), 3) := dk_167 255 228 (dk_at dksX0_found_12 3 rfl rfl)
theorem dX0_found_280 : decode cX0_found 280 = .ok (.iinc 3 1, 3) := dk_132 3 1 (dk_at dksX0_found_12 6 rfl rfl)
theorem dX0_found_283 : decode cX0_found 283 = .ok (.goto (-233), 3) := dk_167 255 23 (dk_at dksX0_found_12 9 rfl rfl)
theorem dX0_found_286 : decode cX0_found 286 = .ok (.iconst 1, 1) := dk_4 (dk_at dksX0_found_12 12 rfl rfl)
theorem dX0_found_287 : decode cX0_found 287 = .ok (.ireturn, 1) := dk_172 (dk_at dksX0_found_12 13 rfl rfl)
abbrev cX0_bounds : ByteArray := method_8_code
def yX0_bounds : MethodName := ⟨RX0, "bounds", "([I)Z"⟩
def dkwX0_bounds_15 : List UInt8 := [148, 154, 0, 7, 4, 167, 0, 4, 3, 172]
abbrev dktX0_bounds_15 : List UInt8 := dkwX0_bounds_15 ++ []
def dkwX0_bounds_14 : List UInt8 := [182, 0, 25, 154, 0, 29, 43, 3, 16, 9, 182, 0, 16, 153, 0, 19, 43, 2, 182, 0, 35, 20, 0, 73]
abbrev dktX0_bounds_14 : List UInt8 := dkwX0_bounds_14 ++ dktX0_bounds_15
def dkwX0_bounds_13 : List UInt8 := [42, 5, 184, 0, 10, 182, 0, 35, 9, 148, 154, 0, 46, 43, 42, 3, 184, 0, 10, 42, 4, 184, 0, 10]
abbrev dktX0_bounds_13 : List UInt8 := dkwX0_bounds_13 ++ dktX0_bounds_14
def dkwX0_bounds_12 : List UInt8 := [154, 0, 17, 43, 17, 15, 255, 182, 0, 35, 20, 0, 68, 148, 153, 0, 5, 3, 172, 43, 182, 0, 70, 43]
abbrev dktX0_bounds_12 : List UInt8 := dkwX0_bounds_12 ++ dktX0_bounds_13
def dkwX0_bounds_11 : List UInt8 := [154, 0, 39, 43, 4, 4, 182, 0, 16, 154, 0, 30, 43, 17, 1, 0, 3, 3, 4, 182, 0, 55]
abbrev dktX0_bounds_11 : List UInt8 := dkwX0_bounds_11 ++ dktX0_bounds_12
def dkwX0_bounds_10 : List UInt8 := [172, 43, 8, 16, 6, 182, 0, 16, 153, 0, 53, 43, 17, 15, 255, 182, 0, 35, 20, 0, 68, 148]
abbrev dktX0_bounds_10 : List UInt8 := dkwX0_bounds_10 ++ dktX0_bounds_11
def dkwX0_bounds_9 : List UInt8 := [20, 0, 66, 148, 154, 0, 19, 43, 17, 0, 231, 3, 3, 4, 182, 0, 55, 17, 0, 231, 159, 0, 5, 3]
abbrev dktX0_bounds_9 : List UInt8 := dkwX0_bounds_9 ++ dktX0_bounds_10
def dkwX0_bounds_8 : List UInt8 := [182, 0, 55, 17, 1, 0, 159, 0, 5, 3, 172, 132, 5, 1, 167, 255, 227, 43, 17, 15, 23, 182, 0, 35]
abbrev dktX0_bounds_8 : List UInt8 := dkwX0_bounds_8 ++ dktX0_bounds_9
def dkwX0_bounds_7 : List UInt8 := [132, 5, 1, 167, 255, 213, 3, 54, 5, 21, 5, 16, 15, 162, 0, 28, 43, 17, 1, 0, 3, 21, 5, 4]
abbrev dktX0_bounds_7 : List UInt8 := dkwX0_bounds_7 ++ dktX0_bounds_8
def dkwX0_bounds_6 : List UInt8 := [21, 4, 96, 161, 0, 21, 43, 21, 5, 182, 0, 35, 44, 21, 5, 182, 0, 35, 148, 153, 0, 5, 3, 172]
abbrev dktX0_bounds_6 : List UInt8 := dkwX0_bounds_6 ++ dktX0_bounds_7
def dkwX0_bounds_5 : List UInt8 := [153, 0, 5, 3, 172, 3, 54, 5, 21, 5, 16, 24, 162, 0, 42, 21, 5, 29, 161, 0, 12, 21, 5, 29]
abbrev dktX0_bounds_5 : List UInt8 := dkwX0_bounds_5 ++ dktX0_bounds_6
def dkwX0_bounds_4 : List UInt8 := [16, 24, 42, 4, 184, 0, 10, 182, 0, 25, 154, 0, 15, 43, 29, 16, 25, 29, 100, 182, 0, 32]
abbrev dktX0_bounds_4 : List UInt8 := dkwX0_bounds_4 ++ dktX0_bounds_5
def dkwX0_bounds_3 : List UInt8 := [160, 0, 48, 43, 42, 3, 184, 0, 10, 42, 4, 184, 0, 10, 182, 0, 32, 21, 4, 160, 0, 29, 43]
abbrev dktX0_bounds_3 : List UInt8 := dkwX0_bounds_3 ++ dktX0_bounds_4
def dkwX0_bounds_2 : List UInt8 := [182, 0, 25, 21, 4, 160, 0, 67, 43, 42, 3, 184, 0, 10, 42, 4, 184, 0, 10, 182, 0, 29, 21, 4]
abbrev dktX0_bounds_2 : List UInt8 := dkwX0_bounds_2 ++ dktX0_bounds_3
def dkwX0_bounds_1 : List UInt8 := [184, 0, 10, 18, 24, 126, 16, 25, 29, 100, 112, 54, 4, 43, 42, 3, 184, 0, 10, 42, 4, 184, 0, 10]
abbrev dktX0_bounds_1 : List UInt8 := dkwX0_bounds_1 ++ dktX0_bounds_2
def dkwX0_bounds_0 : List UInt8 := [42, 184, 0, 20, 76, 42, 184, 0, 20, 77, 42, 3, 184, 0, 10, 18, 24, 126, 16, 25, 112, 62, 42, 4]
abbrev dktX0_bounds_0 : List UInt8 := dkwX0_bounds_0 ++ dktX0_bounds_1
theorem dksX0_bounds_0 : cX0_bounds.data.toList.drop 0 = dktX0_bounds_0 := by decide +kernel
theorem dksX0_bounds_1 : cX0_bounds.data.toList.drop 24 = dktX0_bounds_1 := dk_seg dksX0_bounds_0 24 rfl rfl
theorem dksX0_bounds_2 : cX0_bounds.data.toList.drop 48 = dktX0_bounds_2 := dk_seg dksX0_bounds_1 24 rfl rfl
theorem dksX0_bounds_3 : cX0_bounds.data.toList.drop 72 = dktX0_bounds_3 := dk_seg dksX0_bounds_2 24 rfl rfl
theorem dksX0_bounds_4 : cX0_bounds.data.toList.drop 95 = dktX0_bounds_4 := dk_seg dksX0_bounds_3 23 rfl rfl
theorem dksX0_bounds_5 : cX0_bounds.data.toList.drop 117 = dktX0_bounds_5 := dk_seg dksX0_bounds_4 22 rfl rfl
theorem dksX0_bounds_6 : cX0_bounds.data.toList.drop 141 = dktX0_bounds_6 := dk_seg dksX0_bounds_5 24 rfl rfl
theorem dksX0_bounds_7 : cX0_bounds.data.toList.drop 165 = dktX0_bounds_7 := dk_seg dksX0_bounds_6 24 rfl rfl
theorem dksX0_bounds_8 : cX0_bounds.data.toList.drop 189 = dktX0_bounds_8 := dk_seg dksX0_bounds_7 24 rfl rfl
theorem dksX0_bounds_9 : cX0_bounds.data.toList.drop 213 = dktX0_bounds_9 := dk_seg dksX0_bounds_8 24 rfl rfl
theorem dksX0_bounds_10 : cX0_bounds.data.toList.drop 237 = dktX0_bounds_10 := dk_seg dksX0_bounds_9 24 rfl rfl
theorem dksX0_bounds_11 : cX0_bounds.data.toList.drop 259 = dktX0_bounds_11 := dk_seg dksX0_bounds_10 22 rfl rfl
theorem dksX0_bounds_12 : cX0_bounds.data.toList.drop 281 = dktX0_bounds_12 := dk_seg dksX0_bounds_11 22 rfl rfl
theorem dksX0_bounds_13 : cX0_bounds.data.toList.drop 305 = dktX0_bounds_13 := dk_seg dksX0_bounds_12 24 rfl rfl
theorem dksX0_bounds_14 : cX0_bounds.data.toList.drop 329 = dktX0_bounds_14 := dk_seg dksX0_bounds_13 24 rfl rfl
theorem dksX0_bounds_15 : cX0_bounds.data.toList.drop 353 = dktX0_bounds_15 := dk_seg dksX0_bounds_14 24 rfl rfl
theorem dX0_bounds_0 : decode cX0_bounds 0 = .ok (.aload_n 0, 1) := dk_42 (dk_at dksX0_bounds_0 0 rfl rfl)
theorem dX0_bounds_1 : decode cX0_bounds 1 = .ok (.invokestatic 20, 3) := dk_184 0 20 (dk_at dksX0_bounds_0 1 rfl rfl)
theorem dX0_bounds_4 : decode cX0_bounds 4 = .ok (.astore_n 1, 1) := dk_76 (dk_at dksX0_bounds_0 4 rfl rfl)
theorem dX0_bounds_5 : decode cX0_bounds 5 = .ok (.aload_n 0, 1) := dk_42 (dk_at dksX0_bounds_0 5 rfl rfl)
theorem dX0_bounds_6 : decode cX0_bounds 6 = .ok (.invokestatic 20, 3) := dk_184 0 20 (dk_at dksX0_bounds_0 6 rfl rfl)
theorem dX0_bounds_9 : decode cX0_bounds 9 = .ok (.astore_n 2, 1) := dk_77 (dk_at dksX0_bounds_0 9 rfl rfl)
theorem dX0_bounds_10 : decode cX0_bounds 10 = .ok (.aload_n 0, 1) := dk_42 (dk_at dksX0_bounds_0 10 rfl rfl)
theorem dX0_bounds_11 : decode cX0_bounds 11 = .ok (.iconst 0, 1) := dk_3 (dk_at dksX0_bounds_0 11 rfl rfl)
theorem dX0_bounds_12 : decode cX0_bounds 12 = .ok (.invokestatic 10, 3) := dk_184 0 10 (dk_at dksX0_bounds_0 12 rfl rfl)
theorem dX0_bounds_15 : decode cX0_bounds 15 = .ok (.ldc 24, 2) := dk_18 24 (dk_at dksX0_bounds_0 15 rfl rfl)
theorem dX0_bounds_17 : decode cX0_bounds 17 = .ok (.iand, 1) := dk_126 (dk_at dksX0_bounds_0 17 rfl rfl)
theorem dX0_bounds_18 : decode cX0_bounds 18 = .ok (.bipush 25, 2) := dk_16 25 (dk_at dksX0_bounds_0 18 rfl rfl)
theorem dX0_bounds_20 : decode cX0_bounds 20 = .ok (.irem, 1) := dk_112 (dk_at dksX0_bounds_0 20 rfl rfl)
theorem dX0_bounds_21 : decode cX0_bounds 21 = .ok (.istore_n 3, 1) := dk_62 (dk_at dksX0_bounds_0 21 rfl rfl)
theorem dX0_bounds_22 : decode cX0_bounds 22 = .ok (.aload_n 0, 1) := dk_42 (dk_at dksX0_bounds_0 22 rfl rfl)
theorem dX0_bounds_23 : decode cX0_bounds 23 = .ok (.iconst 1, 1) := dk_4 (dk_at dksX0_bounds_0 23 rfl rfl)
theorem dX0_bounds_24 : decode cX0_bounds 24 = .ok (.invokestatic 10, 3) := dk_184 0 10 (dk_at dksX0_bounds_1 0 rfl rfl)
theorem dX0_bounds_27 : decode cX0_bounds 27 = .ok (.ldc 24, 2) := dk_18 24 (dk_at dksX0_bounds_1 3 rfl rfl)
theorem dX0_bounds_29 : decode cX0_bounds 29 = .ok (.iand, 1) := dk_126 (dk_at dksX0_bounds_1 5 rfl rfl)
theorem dX0_bounds_30 : decode cX0_bounds 30 = .ok (.bipush 25, 2) := dk_16 25 (dk_at dksX0_bounds_1 6 rfl rfl)
theorem dX0_bounds_32 : decode cX0_bounds 32 = .ok (.iload_n 3, 1) := dk_29 (dk_at dksX0_bounds_1 8 rfl rfl)
theorem dX0_bounds_33 : decode cX0_bounds 33 = .ok (.isub, 1) := dk_100 (dk_at dksX0_bounds_1 9 rfl rfl)
theorem dX0_bounds_34 : decode cX0_bounds 34 = .ok (.irem, 1) := dk_112 (dk_at dksX0_bounds_1 10 rfl rfl)
theorem dX0_bounds_35 : decode cX0_bounds 35 = .ok (.istore 4, 2) := dk_54 4 (dk_at dksX0_bounds_1 11 rfl rfl)
theorem dX0_bounds_37 : decode cX0_bounds 37 = .ok (.aload_n 1, 1) := dk_43 (dk_at dksX0_bounds_1 13 rfl rfl)
theorem dX0_bounds_38 : decode cX0_bounds 38 = .ok (.aload_n 0, 1) := dk_42 (dk_at dksX0_bounds_1 14 rfl rfl)
theorem dX0_bounds_39 : decode cX0_bounds 39 = .ok (.iconst 0, 1) := dk_3 (dk_at dksX0_bounds_1 15 rfl rfl)
theorem dX0_bounds_40 : decode cX0_bounds 40 = .ok (.invokestatic 10, 3) := dk_184 0 10 (dk_at dksX0_bounds_1 16 rfl rfl)
theorem dX0_bounds_43 : decode cX0_bounds 43 = .ok (.aload_n 0, 1) := dk_42 (dk_at dksX0_bounds_1 19 rfl rfl)
theorem dX0_bounds_44 : decode cX0_bounds 44 = .ok (.iconst 1, 1) := dk_4 (dk_at dksX0_bounds_1 20 rfl rfl)
theorem dX0_bounds_45 : decode cX0_bounds 45 = .ok (.invokestatic 10, 3) := dk_184 0 10 (dk_at dksX0_bounds_1 21 rfl rfl)
theorem dX0_bounds_48 : decode cX0_bounds 48 = .ok (.invokevirtual 25, 3) := dk_182 0 25 (dk_at dksX0_bounds_2 0 rfl rfl)
theorem dX0_bounds_51 : decode cX0_bounds 51 = .ok (.iload 4, 2) := dk_21 4 (dk_at dksX0_bounds_2 3 rfl rfl)
theorem dX0_bounds_53 : decode cX0_bounds 53 = .ok (.if_icmp .ne 67, 3) := dk_160 0 67 (dk_at dksX0_bounds_2 5 rfl rfl)
theorem dX0_bounds_56 : decode cX0_bounds 56 = .ok (.aload_n 1, 1) := dk_43 (dk_at dksX0_bounds_2 8 rfl rfl)
theorem dX0_bounds_57 : decode cX0_bounds 57 = .ok (.aload_n 0, 1) := dk_42 (dk_at dksX0_bounds_2 9 rfl rfl)
theorem dX0_bounds_58 : decode cX0_bounds 58 = .ok (.iconst 0, 1) := dk_3 (dk_at dksX0_bounds_2 10 rfl rfl)
theorem dX0_bounds_59 : decode cX0_bounds 59 = .ok (.invokestatic 10, 3) := dk_184 0 10 (dk_at dksX0_bounds_2 11 rfl rfl)
theorem dX0_bounds_62 : decode cX0_bounds 62 = .ok (.aload_n 0, 1) := dk_42 (dk_at dksX0_bounds_2 14 rfl rfl)
theorem dX0_bounds_63 : decode cX0_bounds 63 = .ok (.iconst 1, 1) := dk_4 (dk_at dksX0_bounds_2 15 rfl rfl)
theorem dX0_bounds_64 : decode cX0_bounds 64 = .ok (.invokestatic 10, 3) := dk_184 0 10 (dk_at dksX0_bounds_2 16 rfl rfl)
theorem dX0_bounds_67 : decode cX0_bounds 67 = .ok (.invokevirtual 29, 3) := dk_182 0 29 (dk_at dksX0_bounds_2 19 rfl rfl)
theorem dX0_bounds_70 : decode cX0_bounds 70 = .ok (.iload 4, 2) := dk_21 4 (dk_at dksX0_bounds_2 22 rfl rfl)
theorem dX0_bounds_72 : decode cX0_bounds 72 = .ok (.if_icmp .ne 48, 3) := dk_160 0 48 (dk_at dksX0_bounds_3 0 rfl rfl)
theorem dX0_bounds_75 : decode cX0_bounds 75 = .ok (.aload_n 1, 1) := dk_43 (dk_at dksX0_bounds_3 3 rfl rfl)
theorem dX0_bounds_76 : decode cX0_bounds 76 = .ok (.aload_n 0, 1) := dk_42 (dk_at dksX0_bounds_3 4 rfl rfl)
theorem dX0_bounds_77 : decode cX0_bounds 77 = .ok (.iconst 0, 1) := dk_3 (dk_at dksX0_bounds_3 5 rfl rfl)
theorem dX0_bounds_78 : decode cX0_bounds 78 = .ok (.invokestatic 10, 3) := dk_184 0 10 (dk_at dksX0_bounds_3 6 rfl rfl)
theorem dX0_bounds_81 : decode cX0_bounds 81 = .ok (.aload_n 0, 1) := dk_42 (dk_at dksX0_bounds_3 9 rfl rfl)
theorem dX0_bounds_82 : decode cX0_bounds 82 = .ok (.iconst 1, 1) := dk_4 (dk_at dksX0_bounds_3 10 rfl rfl)
theorem dX0_bounds_83 : decode cX0_bounds 83 = .ok (.invokestatic 10, 3) := dk_184 0 10 (dk_at dksX0_bounds_3 11 rfl rfl)
theorem dX0_bounds_86 : decode cX0_bounds 86 = .ok (.invokevirtual 32, 3) := dk_182 0 32 (dk_at dksX0_bounds_3 14 rfl rfl)
theorem dX0_bounds_89 : decode cX0_bounds 89 = .ok (.iload 4, 2) := dk_21 4 (dk_at dksX0_bounds_3 17 rfl rfl)
theorem dX0_bounds_91 : decode cX0_bounds 91 = .ok (.if_icmp .ne 29, 3) := dk_160 0 29 (dk_at dksX0_bounds_3 19 rfl rfl)
theorem dX0_bounds_94 : decode cX0_bounds 94 = .ok (.aload_n 1, 1) := dk_43 (dk_at dksX0_bounds_3 22 rfl rfl)
theorem dX0_bounds_95 : decode cX0_bounds 95 = .ok (.bipush 24, 2) := dk_16 24 (dk_at dksX0_bounds_4 0 rfl rfl)
theorem dX0_bounds_97 : decode cX0_bounds 97 = .ok (.aload_n 0, 1) := dk_42 (dk_at dksX0_bounds_4 2 rfl rfl)
theorem dX0_bounds_98 : decode cX0_bounds 98 = .ok (.iconst 1, 1) := dk_4 (dk_at dksX0_bounds_4 3 rfl rfl)
theorem dX0_bounds_99 : decode cX0_bounds 99 = .ok (.invokestatic 10, 3) := dk_184 0 10 (dk_at dksX0_bounds_4 4 rfl rfl)
theorem dX0_bounds_102 : decode cX0_bounds 102 = .ok (.invokevirtual 25, 3) := dk_182 0 25 (dk_at dksX0_bounds_4 7 rfl rfl)
theorem dX0_bounds_105 : decode cX0_bounds 105 = .ok (.ifCond .ne 15, 3) := dk_154 0 15 (dk_at dksX0_bounds_4 10 rfl rfl)
theorem dX0_bounds_108 : decode cX0_bounds 108 = .ok (.aload_n 1, 1) := dk_43 (dk_at dksX0_bounds_4 13 rfl rfl)
theorem dX0_bounds_109 : decode cX0_bounds 109 = .ok (.iload_n 3, 1) := dk_29 (dk_at dksX0_bounds_4 14 rfl rfl)
theorem dX0_bounds_110 : decode cX0_bounds 110 = .ok (.bipush 25, 2) := dk_16 25 (dk_at dksX0_bounds_4 15 rfl rfl)
theorem dX0_bounds_112 : decode cX0_bounds 112 = .ok (.iload_n 3, 1) := dk_29 (dk_at dksX0_bounds_4 17 rfl rfl)
theorem dX0_bounds_113 : decode cX0_bounds 113 = .ok (.isub, 1) := dk_100 (dk_at dksX0_bounds_4 18 rfl rfl)
theorem dX0_bounds_114 : decode cX0_bounds 114 = .ok (.invokevirtual 32, 3) := dk_182 0 32 (dk_at dksX0_bounds_4 19 rfl rfl)
theorem dX0_bounds_117 : decode cX0_bounds 117 = .ok (.ifCond .eq 5, 3) := dk_153 0 5 (dk_at dksX0_bounds_5 0 rfl rfl)
theorem dX0_bounds_120 : decode cX0_bounds 120 = .ok (.iconst 0, 1) := dk_3 (dk_at dksX0_bounds_5 3 rfl rfl)
theorem dX0_bounds_121 : decode cX0_bounds 121 = .ok (.ireturn, 1) := dk_172 (dk_at dksX0_bounds_5 4 rfl rfl)
theorem dX0_bounds_122 : decode cX0_bounds 122 = .ok (.iconst 0, 1) := dk_3 (dk_at dksX0_bounds_5 5 rfl rfl)
theorem dX0_bounds_123 : decode cX0_bounds 123 = .ok (.istore 5, 2) := dk_54 5 (dk_at dksX0_bounds_5 6 rfl rfl)
theorem dX0_bounds_125 : decode cX0_bounds 125 = .ok (.iload 5, 2) := dk_21 5 (dk_at dksX0_bounds_5 8 rfl rfl)
theorem dX0_bounds_127 : decode cX0_bounds 127 = .ok (.bipush 24, 2) := dk_16 24 (dk_at dksX0_bounds_5 10 rfl rfl)
theorem dX0_bounds_129 : decode cX0_bounds 129 = .ok (.if_icmp .ge 42, 3) := dk_162 0 42 (dk_at dksX0_bounds_5 12 rfl rfl)
theorem dX0_bounds_132 : decode cX0_bounds 132 = .ok (.iload 5, 2) := dk_21 5 (dk_at dksX0_bounds_5 15 rfl rfl)
theorem dX0_bounds_134 : decode cX0_bounds 134 = .ok (.iload_n 3, 1) := dk_29 (dk_at dksX0_bounds_5 17 rfl rfl)
theorem dX0_bounds_135 : decode cX0_bounds 135 = .ok (.if_icmp .lt 12, 3) := dk_161 0 12 (dk_at dksX0_bounds_5 18 rfl rfl)
theorem dX0_bounds_138 : decode cX0_bounds 138 = .ok (.iload 5, 2) := dk_21 5 (dk_at dksX0_bounds_5 21 rfl rfl)
theorem dX0_bounds_140 : decode cX0_bounds 140 = .ok (.iload_n 3, 1) := dk_29 (dk_at dksX0_bounds_5 23 rfl rfl)
theorem dX0_bounds_141 : decode cX0_bounds 141 = .ok (.iload 4, 2) := dk_21 4 (dk_at dksX0_bounds_6 0 rfl rfl)
theorem dX0_bounds_143 : decode cX0_bounds 143 = .ok (.iadd, 1) := dk_96 (dk_at dksX0_bounds_6 2 rfl rfl)
theorem dX0_bounds_144 : decode cX0_bounds 144 = .ok (.if_icmp .lt 21, 3) := dk_161 0 21 (dk_at dksX0_bounds_6 3 rfl rfl)
theorem dX0_bounds_147 : decode cX0_bounds 147 = .ok (.aload_n 1, 1) := dk_43 (dk_at dksX0_bounds_6 6 rfl rfl)
theorem dX0_bounds_148 : decode cX0_bounds 148 = .ok (.iload 5, 2) := dk_21 5 (dk_at dksX0_bounds_6 7 rfl rfl)
theorem dX0_bounds_150 : decode cX0_bounds 150 = .ok (.invokevirtual 35, 3) := dk_182 0 35 (dk_at dksX0_bounds_6 9 rfl rfl)
theorem dX0_bounds_153 : decode cX0_bounds 153 = .ok (.aload_n 2, 1) := dk_44 (dk_at dksX0_bounds_6 12 rfl rfl)
theorem dX0_bounds_154 : decode cX0_bounds 154 = .ok (.iload 5, 2) := dk_21 5 (dk_at dksX0_bounds_6 13 rfl rfl)
theorem dX0_bounds_156 : decode cX0_bounds 156 = .ok (.invokevirtual 35, 3) := dk_182 0 35 (dk_at dksX0_bounds_6 15 rfl rfl)
theorem dX0_bounds_159 : decode cX0_bounds 159 = .ok (.lcmp, 1) := dk_148 (dk_at dksX0_bounds_6 18 rfl rfl)
theorem dX0_bounds_160 : decode cX0_bounds 160 = .ok (.ifCond .eq 5, 3) := dk_153 0 5 (dk_at dksX0_bounds_6 19 rfl rfl)
theorem dX0_bounds_163 : decode cX0_bounds 163 = .ok (.iconst 0, 1) := dk_3 (dk_at dksX0_bounds_6 22 rfl rfl)
theorem dX0_bounds_164 : decode cX0_bounds 164 = .ok (.ireturn, 1) := dk_172 (dk_at dksX0_bounds_6 23 rfl rfl)
theorem dX0_bounds_165 : decode cX0_bounds 165 = .ok (.iinc 5 1, 3) := dk_132 5 1 (dk_at dksX0_bounds_7 0 rfl rfl)
theorem dX0_bounds_168 : decode cX0_bounds 168 = .ok (.goto (-43), 3) := dk_167 255 213 (dk_at dksX0_bounds_7 3 rfl rfl)
theorem dX0_bounds_171 : decode cX0_bounds 171 = .ok (.iconst 0, 1) := dk_3 (dk_at dksX0_bounds_7 6 rfl rfl)
theorem dX0_bounds_172 : decode cX0_bounds 172 = .ok (.istore 5, 2) := dk_54 5 (dk_at dksX0_bounds_7 7 rfl rfl)
theorem dX0_bounds_174 : decode cX0_bounds 174 = .ok (.iload 5, 2) := dk_21 5 (dk_at dksX0_bounds_7 9 rfl rfl)
theorem dX0_bounds_176 : decode cX0_bounds 176 = .ok (.bipush 15, 2) := dk_16 15 (dk_at dksX0_bounds_7 11 rfl rfl)
theorem dX0_bounds_178 : decode cX0_bounds 178 = .ok (.if_icmp .ge 28, 3) := dk_162 0 28 (dk_at dksX0_bounds_7 13 rfl rfl)
theorem dX0_bounds_181 : decode cX0_bounds 181 = .ok (.aload_n 1, 1) := dk_43 (dk_at dksX0_bounds_7 16 rfl rfl)
theorem dX0_bounds_182 : decode cX0_bounds 182 = .ok (.sipush 256, 3) := dk_17 1 0 (dk_at dksX0_bounds_7 17 rfl rfl)
theorem dX0_bounds_185 : decode cX0_bounds 185 = .ok (.iconst 0, 1) := dk_3 (dk_at dksX0_bounds_7 20 rfl rfl)
theorem dX0_bounds_186 : decode cX0_bounds 186 = .ok (.iload 5, 2) := dk_21 5 (dk_at dksX0_bounds_7 21 rfl rfl)
theorem dX0_bounds_188 : decode cX0_bounds 188 = .ok (.iconst 1, 1) := dk_4 (dk_at dksX0_bounds_7 23 rfl rfl)
theorem dX0_bounds_189 : decode cX0_bounds 189 = .ok (.invokevirtual 55, 3) := dk_182 0 55 (dk_at dksX0_bounds_8 0 rfl rfl)
theorem dX0_bounds_192 : decode cX0_bounds 192 = .ok (.sipush 256, 3) := dk_17 1 0 (dk_at dksX0_bounds_8 3 rfl rfl)
theorem dX0_bounds_195 : decode cX0_bounds 195 = .ok (.if_icmp .eq 5, 3) := dk_159 0 5 (dk_at dksX0_bounds_8 6 rfl rfl)
theorem dX0_bounds_198 : decode cX0_bounds 198 = .ok (.iconst 0, 1) := dk_3 (dk_at dksX0_bounds_8 9 rfl rfl)
theorem dX0_bounds_199 : decode cX0_bounds 199 = .ok (.ireturn, 1) := dk_172 (dk_at dksX0_bounds_8 10 rfl rfl)
theorem dX0_bounds_200 : decode cX0_bounds 200 = .ok (.iinc 5 1, 3) := dk_132 5 1 (dk_at dksX0_bounds_8 11 rfl rfl)
theorem dX0_bounds_203 : decode cX0_bounds 203 = .ok (.goto (-29), 3) := dk_167 255 227 (dk_at dksX0_bounds_8 14 rfl rfl)
theorem dX0_bounds_206 : decode cX0_bounds 206 = .ok (.aload_n 1, 1) := dk_43 (dk_at dksX0_bounds_8 17 rfl rfl)
theorem dX0_bounds_207 : decode cX0_bounds 207 = .ok (.sipush 3863, 3) := dk_17 15 23 (dk_at dksX0_bounds_8 18 rfl rfl)
theorem dX0_bounds_210 : decode cX0_bounds 210 = .ok (.invokevirtual 35, 3) := dk_182 0 35 (dk_at dksX0_bounds_8 21 rfl rfl)
theorem dX0_bounds_213 : decode cX0_bounds 213 = .ok (.ldc2_w 66, 3) := dk_20 0 66 (dk_at dksX0_bounds_9 0 rfl rfl)
theorem dX0_bounds_216 : decode cX0_bounds 216 = .ok (.lcmp, 1) := dk_148 (dk_at dksX0_bounds_9 3 rfl rfl)
theorem dX0_bounds_217 : decode cX0_bounds 217 = .ok (.ifCond .ne 19, 3) := dk_154 0 19 (dk_at dksX0_bounds_9 4 rfl rfl)
theorem dX0_bounds_220 : decode cX0_bounds 220 = .ok (.aload_n 1, 1) := dk_43 (dk_at dksX0_bounds_9 7 rfl rfl)
theorem dX0_bounds_221 : decode cX0_bounds 221 = .ok (.sipush 231, 3) := dk_17 0 231 (dk_at dksX0_bounds_9 8 rfl rfl)
theorem dX0_bounds_224 : decode cX0_bounds 224 = .ok (.iconst 0, 1) := dk_3 (dk_at dksX0_bounds_9 11 rfl rfl)
theorem dX0_bounds_225 : decode cX0_bounds 225 = .ok (.iconst 0, 1) := dk_3 (dk_at dksX0_bounds_9 12 rfl rfl)
theorem dX0_bounds_226 : decode cX0_bounds 226 = .ok (.iconst 1, 1) := dk_4 (dk_at dksX0_bounds_9 13 rfl rfl)
theorem dX0_bounds_227 : decode cX0_bounds 227 = .ok (.invokevirtual 55, 3) := dk_182 0 55 (dk_at dksX0_bounds_9 14 rfl rfl)
theorem dX0_bounds_230 : decode cX0_bounds 230 = .ok (.sipush 231, 3) := dk_17 0 231 (dk_at dksX0_bounds_9 17 rfl rfl)
theorem dX0_bounds_233 : decode cX0_bounds 233 = .ok (.if_icmp .eq 5, 3) := dk_159 0 5 (dk_at dksX0_bounds_9 20 rfl rfl)
theorem dX0_bounds_236 : decode cX0_bounds 236 = .ok (.iconst 0, 1) := dk_3 (dk_at dksX0_bounds_9 23 rfl rfl)
theorem dX0_bounds_237 : decode cX0_bounds 237 = .ok (.ireturn, 1) := dk_172 (dk_at dksX0_bounds_10 0 rfl rfl)
theorem dX0_bounds_238 : decode cX0_bounds 238 = .ok (.aload_n 1, 1) := dk_43 (dk_at dksX0_bounds_10 1 rfl rfl)
theorem dX0_bounds_239 : decode cX0_bounds 239 = .ok (.iconst 5, 1) := dk_8 (dk_at dksX0_bounds_10 2 rfl rfl)
theorem dX0_bounds_240 : decode cX0_bounds 240 = .ok (.bipush 6, 2) := dk_16 6 (dk_at dksX0_bounds_10 3 rfl rfl)
theorem dX0_bounds_242 : decode cX0_bounds 242 = .ok (.invokevirtual 16, 3) := dk_182 0 16 (dk_at dksX0_bounds_10 5 rfl rfl)
theorem dX0_bounds_245 : decode cX0_bounds 245 = .ok (.ifCond .eq 53, 3) := dk_153 0 53 (dk_at dksX0_bounds_10 8 rfl rfl)
theorem dX0_bounds_248 : decode cX0_bounds 248 = .ok (.aload_n 1, 1) := dk_43 (dk_at dksX0_bounds_10 11 rfl rfl)
theorem dX0_bounds_249 : decode cX0_bounds 249 = .ok (.sipush 4095, 3) := dk_17 15 255 (dk_at dksX0_bounds_10 12 rfl rfl)
theorem dX0_bounds_252 : decode cX0_bounds 252 = .ok (.invokevirtual 35, 3) := dk_182 0 35 (dk_at dksX0_bounds_10 15 rfl rfl)
theorem dX0_bounds_255 : decode cX0_bounds 255 = .ok (.ldc2_w 68, 3) := dk_20 0 68 (dk_at dksX0_bounds_10 18 rfl rfl)
theorem dX0_bounds_258 : decode cX0_bounds 258 = .ok (.lcmp, 1) := dk_148 (dk_at dksX0_bounds_10 21 rfl rfl)
theorem dX0_bounds_259 : decode cX0_bounds 259 = .ok (.ifCond .ne 39, 3) := dk_154 0 39 (dk_at dksX0_bounds_11 0 rfl rfl)
theorem dX0_bounds_262 : decode cX0_bounds 262 = .ok (.aload_n 1, 1) := dk_43 (dk_at dksX0_bounds_11 3 rfl rfl)
theorem dX0_bounds_263 : decode cX0_bounds 263 = .ok (.iconst 1, 1) := dk_4 (dk_at dksX0_bounds_11 4 rfl rfl)
theorem dX0_bounds_264 : decode cX0_bounds 264 = .ok (.iconst 1, 1) := dk_4 (dk_at dksX0_bounds_11 5 rfl rfl)
theorem dX0_bounds_265 : decode cX0_bounds 265 = .ok (.invokevirtual 16, 3) := dk_182 0 16 (dk_at dksX0_bounds_11 6 rfl rfl)
theorem dX0_bounds_268 : decode cX0_bounds 268 = .ok (.ifCond .ne 30, 3) := dk_154 0 30 (dk_at dksX0_bounds_11 9 rfl rfl)
theorem dX0_bounds_271 : decode cX0_bounds 271 = .ok (.aload_n 1, 1) := dk_43 (dk_at dksX0_bounds_11 12 rfl rfl)
theorem dX0_bounds_272 : decode cX0_bounds 272 = .ok (.sipush 256, 3) := dk_17 1 0 (dk_at dksX0_bounds_11 13 rfl rfl)
theorem dX0_bounds_275 : decode cX0_bounds 275 = .ok (.iconst 0, 1) := dk_3 (dk_at dksX0_bounds_11 16 rfl rfl)
theorem dX0_bounds_276 : decode cX0_bounds 276 = .ok (.iconst 0, 1) := dk_3 (dk_at dksX0_bounds_11 17 rfl rfl)
theorem dX0_bounds_277 : decode cX0_bounds 277 = .ok (.iconst 1, 1) := dk_4 (dk_at dksX0_bounds_11 18 rfl rfl)
theorem dX0_bounds_278 : decode cX0_bounds 278 = .ok (.invokevirtual 55, 3) := dk_182 0 55 (dk_at dksX0_bounds_11 19 rfl rfl)
theorem dX0_bounds_281 : decode cX0_bounds 281 = .ok (.ifCond .ne 17, 3) := dk_154 0 17 (dk_at dksX0_bounds_12 0 rfl rfl)
theorem dX0_bounds_284 : decode cX0_bounds 284 = .ok (.aload_n 1, 1) := dk_43 (dk_at dksX0_bounds_12 3 rfl rfl)
theorem dX0_bounds_285 : decode cX0_bounds 285 = .ok (.sipush 4095, 3) := dk_17 15 255 (dk_at dksX0_bounds_12 4 rfl rfl)
theorem dX0_bounds_288 : decode cX0_bounds 288 = .ok (.invokevirtual 35, 3) := dk_182 0 35 (dk_at dksX0_bounds_12 7 rfl rfl)
theorem dX0_bounds_291 : decode cX0_bounds 291 = .ok (.ldc2_w 68, 3) := dk_20 0 68 (dk_at dksX0_bounds_12 10 rfl rfl)
theorem dX0_bounds_294 : decode cX0_bounds 294 = .ok (.lcmp, 1) := dk_148 (dk_at dksX0_bounds_12 13 rfl rfl)
theorem dX0_bounds_295 : decode cX0_bounds 295 = .ok (.ifCond .eq 5, 3) := dk_153 0 5 (dk_at dksX0_bounds_12 14 rfl rfl)
theorem dX0_bounds_298 : decode cX0_bounds 298 = .ok (.iconst 0, 1) := dk_3 (dk_at dksX0_bounds_12 17 rfl rfl)
theorem dX0_bounds_299 : decode cX0_bounds 299 = .ok (.ireturn, 1) := dk_172 (dk_at dksX0_bounds_12 18 rfl rfl)
theorem dX0_bounds_300 : decode cX0_bounds 300 = .ok (.aload_n 1, 1) := dk_43 (dk_at dksX0_bounds_12 19 rfl rfl)
theorem dX0_bounds_301 : decode cX0_bounds 301 = .ok (.invokevirtual 70, 3) := dk_182 0 70 (dk_at dksX0_bounds_12 20 rfl rfl)
theorem dX0_bounds_304 : decode cX0_bounds 304 = .ok (.aload_n 1, 1) := dk_43 (dk_at dksX0_bounds_12 23 rfl rfl)
theorem dX0_bounds_305 : decode cX0_bounds 305 = .ok (.aload_n 0, 1) := dk_42 (dk_at dksX0_bounds_13 0 rfl rfl)
theorem dX0_bounds_306 : decode cX0_bounds 306 = .ok (.iconst 2, 1) := dk_5 (dk_at dksX0_bounds_13 1 rfl rfl)
theorem dX0_bounds_307 : decode cX0_bounds 307 = .ok (.invokestatic 10, 3) := dk_184 0 10 (dk_at dksX0_bounds_13 2 rfl rfl)
theorem dX0_bounds_310 : decode cX0_bounds 310 = .ok (.invokevirtual 35, 3) := dk_182 0 35 (dk_at dksX0_bounds_13 5 rfl rfl)
theorem dX0_bounds_313 : decode cX0_bounds 313 = .ok (.lconst 0, 1) := dk_9 (dk_at dksX0_bounds_13 8 rfl rfl)
theorem dX0_bounds_314 : decode cX0_bounds 314 = .ok (.lcmp, 1) := dk_148 (dk_at dksX0_bounds_13 9 rfl rfl)
theorem dX0_bounds_315 : decode cX0_bounds 315 = .ok (.ifCond .ne 46, 3) := dk_154 0 46 (dk_at dksX0_bounds_13 10 rfl rfl)
theorem dX0_bounds_318 : decode cX0_bounds 318 = .ok (.aload_n 1, 1) := dk_43 (dk_at dksX0_bounds_13 13 rfl rfl)
theorem dX0_bounds_319 : decode cX0_bounds 319 = .ok (.aload_n 0, 1) := dk_42 (dk_at dksX0_bounds_13 14 rfl rfl)
theorem dX0_bounds_320 : decode cX0_bounds 320 = .ok (.iconst 0, 1) := dk_3 (dk_at dksX0_bounds_13 15 rfl rfl)
theorem dX0_bounds_321 : decode cX0_bounds 321 = .ok (.invokestatic 10, 3) := dk_184 0 10 (dk_at dksX0_bounds_13 16 rfl rfl)
theorem dX0_bounds_324 : decode cX0_bounds 324 = .ok (.aload_n 0, 1) := dk_42 (dk_at dksX0_bounds_13 19 rfl rfl)
theorem dX0_bounds_325 : decode cX0_bounds 325 = .ok (.iconst 1, 1) := dk_4 (dk_at dksX0_bounds_13 20 rfl rfl)
theorem dX0_bounds_326 : decode cX0_bounds 326 = .ok (.invokestatic 10, 3) := dk_184 0 10 (dk_at dksX0_bounds_13 21 rfl rfl)
theorem dX0_bounds_329 : decode cX0_bounds 329 = .ok (.invokevirtual 25, 3) := dk_182 0 25 (dk_at dksX0_bounds_14 0 rfl rfl)
theorem dX0_bounds_332 : decode cX0_bounds 332 = .ok (.ifCond .ne 29, 3) := dk_154 0 29 (dk_at dksX0_bounds_14 3 rfl rfl)
theorem dX0_bounds_335 : decode cX0_bounds 335 = .ok (.aload_n 1, 1) := dk_43 (dk_at dksX0_bounds_14 6 rfl rfl)
theorem dX0_bounds_336 : decode cX0_bounds 336 = .ok (.iconst 0, 1) := dk_3 (dk_at dksX0_bounds_14 7 rfl rfl)
theorem dX0_bounds_337 : decode cX0_bounds 337 = .ok (.bipush 9, 2) := dk_16 9 (dk_at dksX0_bounds_14 8 rfl rfl)
theorem dX0_bounds_339 : decode cX0_bounds 339 = .ok (.invokevirtual 16, 3) := dk_182 0 16 (dk_at dksX0_bounds_14 10 rfl rfl)
theorem dX0_bounds_342 : decode cX0_bounds 342 = .ok (.ifCond .eq 19, 3) := dk_153 0 19 (dk_at dksX0_bounds_14 13 rfl rfl)
theorem dX0_bounds_345 : decode cX0_bounds 345 = .ok (.aload_n 1, 1) := dk_43 (dk_at dksX0_bounds_14 16 rfl rfl)
theorem dX0_bounds_346 : decode cX0_bounds 346 = .ok (.iconst (-1), 1) := dk_2 (dk_at dksX0_bounds_14 17 rfl rfl)
theorem dX0_bounds_347 : decode cX0_bounds 347 = .ok (.invokevirtual 35, 3) := dk_182 0 35 (dk_at dksX0_bounds_14 18 rfl rfl)
theorem dX0_bounds_350 : decode cX0_bounds 350 = .ok (.ldc2_w 73, 3) := dk_20 0 73 (dk_at dksX0_bounds_14 21 rfl rfl)
theorem dX0_bounds_353 : decode cX0_bounds 353 = .ok (.lcmp, 1) := dk_148 (dk_at dksX0_bounds_15 0 rfl rfl)
theorem dX0_bounds_354 : decode cX0_bounds 354 = .ok (.ifCond .ne 7, 3) := dk_154 0 7 (dk_at dksX0_bounds_15 1 rfl rfl)
theorem dX0_bounds_357 : decode cX0_bounds 357 = .ok (.iconst 1, 1) := dk_4 (dk_at dksX0_bounds_15 4 rfl rfl)
theorem dX0_bounds_358 : decode cX0_bounds 358 = .ok (.goto 4, 3) := dk_167 0 4 (dk_at dksX0_bounds_15 5 rfl rfl)
theorem dX0_bounds_361 : decode cX0_bounds 361 = .ok (.iconst 0, 1) := dk_3 (dk_at dksX0_bounds_15 8 rfl rfl)
theorem dX0_bounds_362 : decode cX0_bounds 362 = .ok (.ireturn, 1) := dk_172 (dk_at dksX0_bounds_15 9 rfl rfl)
theorem q2 : (Jvm.Cond.initialized "LongSortDeskLaw") ∈ lw_all := lw_g (lw_at lw_m0 0 rfl) rfl
theorem q9 : (Jvm.Cond.methodLink "LongSortDeskLaw" (25 : Nat) ({ cls := "LongSortDesk", name := "quick", desc := "(II)I" } : Jvm.MethodName)) ∈ lw_all := lw_g (lw_at lw_m0 7 rfl) rfl
theorem q45 : (Jvm.Cond.methodLink "LongSortDeskLaw" (29 : Nat) ({ cls := "LongSortDesk", name := "merge", desc := "(II)I" } : Jvm.MethodName)) ∈ lw_all := lw_g (lw_at lw_m0 43 rfl) rfl
theorem q75 : (Jvm.Cond.methodLink "LongSortDeskLaw" (32 : Nat) ({ cls := "LongSortDesk", name := "radix", desc := "(II)I" } : Jvm.MethodName)) ∈ lw_all := lw_g (lw_at lw_m0 73 rfl) rfl
theorem q84 : (Jvm.Cond.methodLink "LongSortDeskLaw" (35 : Nat) ({ cls := "LongSortDesk", name := "row", desc := "(I)J" } : Jvm.MethodName)) ∈ lw_all := lw_g (lw_at lw_m0 82 rfl) rfl
theorem q88 : (Jvm.Cond.methodLink "LongSortDeskLaw" (10 : Nat) ({ cls := "LongSortDeskLaw", name := "cell", desc := "([II)I" } : Jvm.MethodName)) ∈ lw_all := lw_g (lw_at lw_m0 86 rfl) rfl
theorem q89 : (Jvm.Cond.static ({ cls := "LongSortDeskLaw", name := "cell", desc := "([II)I" } : Jvm.MethodName)) ∈ lw_all := lw_g (lw_at lw_m0 87 rfl) rfl
theorem q90 : (Jvm.Cond.code ({ cls := "LongSortDeskLaw", name := "cell", desc := "([II)I" } : Jvm.MethodName) method_2_code (2 : Nat) (Option.some Jvm.ClassFile.FieldType.int)) ∈ lw_all := lw_g (lw_at lw_m0 88 rfl) rfl
theorem q91 : (Jvm.Cond.methodLink "LongSortDeskLaw" (20 : Nat) ({ cls := "LongSortDeskLaw", name := "made", desc := "([I)LLongSortDesk;" } : Jvm.MethodName)) ∈ lw_all := lw_g (lw_at lw_m0 89 rfl) rfl
theorem q92 : (Jvm.Cond.static ({ cls := "LongSortDeskLaw", name := "made", desc := "([I)LLongSortDesk;" } : Jvm.MethodName)) ∈ lw_all := lw_g (lw_at lw_m0 90 rfl) rfl
theorem q93 : (Jvm.Cond.code ({ cls := "LongSortDeskLaw", name := "made", desc := "([I)LLongSortDesk;" } : Jvm.MethodName) method_3_code (3 : Nat) (Option.some (Jvm.ClassFile.FieldType.object "LongSortDesk"))) ∈ lw_all := lw_g (lw_at lw_m0 91 rfl) rfl
theorem q94 : (Jvm.Cond.classLink "LongSortDeskLaw" (7 : Nat) "LongSortDesk") ∈ lw_all := lw_g (lw_at lw_m0 92 rfl) rfl
theorem q95 : (Jvm.Cond.methodLink "LongSortDeskLaw" (9 : Nat) ({ cls := "LongSortDesk", name := "<init>", desc := "()V" } : Jvm.MethodName)) ∈ lw_all := lw_g (lw_at lw_m0 93 rfl) rfl
theorem q108 : (Jvm.Cond.methodLink "LongSortDeskLaw" (16 : Nat) ({ cls := "LongSortDesk", name := "put", desc := "(II)Z" } : Jvm.MethodName)) ∈ lw_all := lw_g (lw_at lw_m0 106 rfl) rfl
theorem q116 : (Jvm.Cond.methodLink "LongSortDeskLaw" (41 : Nat) ({ cls := "LongSortDeskLaw", name := "longLine", desc := "([I)Z" } : Jvm.MethodName)) ∈ lw_all := lw_g (lw_at lw_m0 114 rfl) rfl
theorem q117 : (Jvm.Cond.static ({ cls := "LongSortDeskLaw", name := "longLine", desc := "([I)Z" } : Jvm.MethodName)) ∈ lw_all := lw_g (lw_at lw_m0 115 rfl) rfl
theorem q118 : (Jvm.Cond.code ({ cls := "LongSortDeskLaw", name := "longLine", desc := "([I)Z" } : Jvm.MethodName) method_6_code (12 : Nat) (Option.some Jvm.ClassFile.FieldType.boolean)) ∈ lw_all := lw_g (lw_at lw_m0 116 rfl) rfl
theorem q119 : (Jvm.Cond.methodLink "LongSortDeskLaw" (51 : Nat) ({ cls := "LongSortDeskLaw", name := "lines", desc := "([I)[I" } : Jvm.MethodName)) ∈ lw_all := lw_g (lw_at lw_m0 117 rfl) rfl
theorem q120 : (Jvm.Cond.static ({ cls := "LongSortDeskLaw", name := "lines", desc := "([I)[I" } : Jvm.MethodName)) ∈ lw_all := lw_g (lw_at lw_m0 118 rfl) rfl
theorem q121 : (Jvm.Cond.code ({ cls := "LongSortDeskLaw", name := "lines", desc := "([I)[I" } : Jvm.MethodName) method_5_code (1 : Nat) (Option.some (Jvm.ClassFile.FieldType.array Jvm.ClassFile.FieldType.int))) ∈ lw_all := lw_g (lw_at lw_m0 119 rfl) rfl
theorem q122 : (Jvm.Cond.methodLink "LongSortDeskLaw" (55 : Nat) ({ cls := "LongSortDesk", name := "ramp", desc := "(IIII)I" } : Jvm.MethodName)) ∈ lw_all := lw_g (lw_at lw_m0 120 rfl) rfl
theorem q127 : (Jvm.Cond.constant "LongSortDeskLaw" (59 : Nat) (-2147483392 : Int32)) ∈ lw_all := lw_g (lw_at lw_m0 125 rfl) rfl
theorem q128 : (Jvm.Cond.constantLong "LongSortDeskLaw" (39 : Nat) (4294967295 : Int64)) ∈ lw_all := lw_g (lw_at lw_m0 126 rfl) rfl
theorem q129 : (Jvm.Cond.constantLong "LongSortDeskLaw" (60 : Nat) (1000003 : Int64)) ∈ lw_all := lw_g (lw_at lw_m0 127 rfl) rfl
theorem q130 : (Jvm.Cond.constant "LongSortDeskLaw" (62 : Nat) (-2147482368 : Int32)) ∈ lw_all := lw_g (lw_at lw_m0 128 rfl) rfl
theorem q131 : (Jvm.Cond.methodLink "LongSortDeskLaw" (45 : Nat) ({ cls := "LongSortDeskLaw", name := "found", desc := "([I)Z" } : Jvm.MethodName)) ∈ lw_all := lw_g (lw_at lw_m0 129 rfl) rfl
theorem q132 : (Jvm.Cond.static ({ cls := "LongSortDeskLaw", name := "found", desc := "([I)Z" } : Jvm.MethodName)) ∈ lw_all := lw_g (lw_at lw_m0 130 rfl) rfl
theorem q133 : (Jvm.Cond.code ({ cls := "LongSortDeskLaw", name := "found", desc := "([I)Z" } : Jvm.MethodName) method_7_code (11 : Nat) (Option.some Jvm.ClassFile.FieldType.boolean)) ∈ lw_all := lw_g (lw_at lw_m0 131 rfl) rfl
theorem q134 : (Jvm.Cond.methodLink "LongSortDeskLaw" (63 : Nat) ({ cls := "LongSortDesk", name := "find", desc := "(II)I" } : Jvm.MethodName)) ∈ lw_all := lw_g (lw_at lw_m0 132 rfl) rfl
theorem q141 : (Jvm.Cond.methodLink "LongSortDeskLaw" (48 : Nat) ({ cls := "LongSortDeskLaw", name := "bounds", desc := "([I)Z" } : Jvm.MethodName)) ∈ lw_all := lw_g (lw_at lw_m0 139 rfl) rfl
theorem q142 : (Jvm.Cond.static ({ cls := "LongSortDeskLaw", name := "bounds", desc := "([I)Z" } : Jvm.MethodName)) ∈ lw_all := lw_g (lw_at lw_m0 140 rfl) rfl
theorem q143 : (Jvm.Cond.code ({ cls := "LongSortDeskLaw", name := "bounds", desc := "([I)Z" } : Jvm.MethodName) method_8_code (6 : Nat) (Option.some Jvm.ClassFile.FieldType.boolean)) ∈ lw_all := lw_g (lw_at lw_m0 141 rfl) rfl
theorem q144 : (Jvm.Cond.constant "LongSortDeskLaw" (24 : Nat) (2147483647 : Int32)) ∈ lw_all := lw_g (lw_at lw_m0 142 rfl) rfl
theorem q145 : (Jvm.Cond.constantLong "LongSortDeskLaw" (66 : Nat) (255000779 : Int64)) ∈ lw_all := lw_g (lw_at lw_m0 143 rfl) rfl
theorem q146 : (Jvm.Cond.constantLong "LongSortDeskLaw" (68 : Nat) (21474836486 : Int64)) ∈ lw_all := lw_g (lw_at lw_m0 144 rfl) rfl
theorem q147 : (Jvm.Cond.methodLink "LongSortDeskLaw" (70 : Nat) ({ cls := "LongSortDesk", name := "empty", desc := "()V" } : Jvm.MethodName)) ∈ lw_all := lw_g (lw_at lw_m0 145 rfl) rfl
theorem q151 : (Jvm.Cond.constantLong "LongSortDeskLaw" (73 : Nat) (9 : Int64)) ∈ lw_all := lw_g (lw_at lw_m0 149 rfl) rfl
/-! the law's own entry -/
set_option maxRecDepth 100000
abbrev cL_law : ByteArray := code
def dkwL_law_15 : List UInt8 := [153, 0, 21, 42, 184, 0, 45, 153, 0, 14, 42, 184, 0, 48, 153, 0, 7, 4, 167, 0, 4, 3, 172]
abbrev dktL_law_15 : List UInt8 := dkwL_law_15 ++ []
def dkwL_law_14 : List UInt8 := [167, 255, 216, 21, 14, 21, 15, 159, 0, 5, 3, 172, 132, 10, 1, 167, 255, 81, 42, 184, 0, 41]
abbrev dktL_law_14 : List UInt8 := dkwL_law_14 ++ dktL_law_15
def dkwL_law_13 : List UInt8 := [154, 0, 6, 132, 14, 1, 44, 21, 16, 182, 0, 35, 22, 11, 148, 154, 0, 6, 132, 15, 1, 132, 16, 1]
abbrev dktL_law_13 : List UInt8 := dkwL_law_13 ++ dktL_law_14
def dkwL_law_12 : List UInt8 := [3, 54, 15, 3, 54, 16, 21, 16, 21, 5, 162, 0, 39, 43, 21, 16, 182, 0, 35, 22, 11, 148]
abbrev dktL_law_12 : List UInt8 := dkwL_law_12 ++ dktL_law_13
def dkwL_law_11 : List UInt8 := [21, 10, 21, 6, 164, 0, 13, 22, 11, 22, 8, 148, 156, 0, 5, 3, 172, 22, 11, 55, 8, 3, 54, 14]
abbrev dktL_law_11 : List UInt8 := dkwL_law_11 ++ dktL_law_12
def dkwL_law_10 : List UInt8 := [21, 13, 154, 0, 17, 22, 11, 43, 21, 10, 182, 0, 35, 148, 153, 0, 5, 3, 172, 21, 13, 153, 0, 20]
abbrev dktL_law_10 : List UInt8 := dkwL_law_10 ++ dktL_law_11
def dkwL_law_9 : List UInt8 := [21, 10, 21, 6, 161, 0, 17, 21, 10, 21, 6, 21, 7, 96, 162, 0, 7, 4, 167, 0, 4, 3, 54, 13]
abbrev dktL_law_9 : List UInt8 := dkwL_law_9 ++ dktL_law_10
def dkwL_law_8 : List UInt8 := [182, 0, 35, 22, 11, 148, 154, 0, 16, 25, 4, 21, 10, 182, 0, 35, 22, 11, 148, 153, 0, 5, 3, 172]
abbrev dktL_law_8 : List UInt8 := dkwL_law_8 ++ dktL_law_9
def dkwL_law_7 : List UInt8 := [55, 8, 3, 54, 10, 21, 10, 21, 5, 162, 0, 174, 44, 21, 10, 182, 0, 35, 55, 11, 45, 21, 10]
abbrev dktL_law_7 : List UInt8 := dkwL_law_7 ++ dktL_law_8
def dkwL_law_6 : List UInt8 := [104, 96, 184, 0, 10, 133, 20, 0, 39, 127, 129, 148, 153, 0, 5, 3, 172, 132, 8, 1, 167, 255, 204, 9]
abbrev dktL_law_6 : List UInt8 := dkwL_law_6 ++ dktL_law_7
def dkwL_law_5 : List UInt8 := [21, 8, 182, 0, 35, 42, 5, 5, 21, 8, 104, 96, 184, 0, 10, 133, 16, 32, 121, 42, 6, 5, 21, 8]
abbrev dktL_law_5 : List UInt8 := dkwL_law_5 ++ dktL_law_6
def dkwL_law_4 : List UInt8 := [184, 0, 10, 42, 4, 184, 0, 10, 182, 0, 32, 87, 3, 54, 8, 21, 8, 16, 24, 162, 0, 51, 43]
abbrev dktL_law_4 : List UInt8 := dkwL_law_4 ++ dktL_law_5
def dkwL_law_3 : List UInt8 := [182, 0, 25, 87, 45, 42, 3, 184, 0, 10, 42, 4, 184, 0, 10, 182, 0, 29, 87, 25, 4, 42, 3]
abbrev dktL_law_3 : List UInt8 := dkwL_law_3 ++ dktL_law_4
def dkwL_law_2 : List UInt8 := [126, 21, 5, 21, 6, 100, 4, 96, 112, 54, 7, 44, 42, 3, 184, 0, 10, 42, 4, 184, 0, 10]
abbrev dktL_law_2 : List UInt8 := dkwL_law_2 ++ dktL_law_3
def dkwL_law_1 : List UInt8 := [54, 5, 42, 3, 184, 0, 10, 18, 24, 126, 21, 5, 4, 96, 112, 54, 6, 42, 4, 184, 0, 10, 18, 24]
abbrev dktL_law_1 : List UInt8 := dkwL_law_1 ++ dktL_law_2
def dkwL_law_0 : List UInt8 := [42, 184, 0, 20, 76, 42, 184, 0, 20, 77, 42, 184, 0, 20, 78, 42, 184, 0, 20, 58, 4, 16, 24]
abbrev dktL_law_0 : List UInt8 := dkwL_law_0 ++ dktL_law_1
theorem dksL_law_0 : cL_law.data.toList.drop 0 = dktL_law_0 := by decide +kernel
theorem dksL_law_1 : cL_law.data.toList.drop 23 = dktL_law_1 := dk_seg dksL_law_0 23 rfl rfl
theorem dksL_law_2 : cL_law.data.toList.drop 47 = dktL_law_2 := dk_seg dksL_law_1 24 rfl rfl
theorem dksL_law_3 : cL_law.data.toList.drop 69 = dktL_law_3 := dk_seg dksL_law_2 22 rfl rfl
theorem dksL_law_4 : cL_law.data.toList.drop 92 = dktL_law_4 := dk_seg dksL_law_3 23 rfl rfl
theorem dksL_law_5 : cL_law.data.toList.drop 115 = dktL_law_5 := dk_seg dksL_law_4 23 rfl rfl
theorem dksL_law_6 : cL_law.data.toList.drop 139 = dktL_law_6 := dk_seg dksL_law_5 24 rfl rfl
theorem dksL_law_7 : cL_law.data.toList.drop 163 = dktL_law_7 := dk_seg dksL_law_6 24 rfl rfl
theorem dksL_law_8 : cL_law.data.toList.drop 186 = dktL_law_8 := dk_seg dksL_law_7 23 rfl rfl
theorem dksL_law_9 : cL_law.data.toList.drop 210 = dktL_law_9 := dk_seg dksL_law_8 24 rfl rfl
theorem dksL_law_10 : cL_law.data.toList.drop 234 = dktL_law_10 := dk_seg dksL_law_9 24 rfl rfl
theorem dksL_law_11 : cL_law.data.toList.drop 258 = dktL_law_11 := dk_seg dksL_law_10 24 rfl rfl
theorem dksL_law_12 : cL_law.data.toList.drop 282 = dktL_law_12 := dk_seg dksL_law_11 24 rfl rfl
theorem dksL_law_13 : cL_law.data.toList.drop 304 = dktL_law_13 := dk_seg dksL_law_12 22 rfl rfl
theorem dksL_law_14 : cL_law.data.toList.drop 328 = dktL_law_14 := dk_seg dksL_law_13 24 rfl rfl
theorem dksL_law_15 : cL_law.data.toList.drop 350 = dktL_law_15 := dk_seg dksL_law_14 22 rfl rfl
theorem dL_law_0 : decode cL_law 0 = .ok (.aload_n 0, 1) := dk_42 (dk_at dksL_law_0 0 rfl rfl)
theorem dL_law_1 : decode cL_law 1 = .ok (.invokestatic 20, 3) := dk_184 0 20 (dk_at dksL_law_0 1 rfl rfl)
theorem dL_law_4 : decode cL_law 4 = .ok (.astore_n 1, 1) := dk_76 (dk_at dksL_law_0 4 rfl rfl)
theorem dL_law_5 : decode cL_law 5 = .ok (.aload_n 0, 1) := dk_42 (dk_at dksL_law_0 5 rfl rfl)
theorem dL_law_6 : decode cL_law 6 = .ok (.invokestatic 20, 3) := dk_184 0 20 (dk_at dksL_law_0 6 rfl rfl)
theorem dL_law_9 : decode cL_law 9 = .ok (.astore_n 2, 1) := dk_77 (dk_at dksL_law_0 9 rfl rfl)
theorem dL_law_10 : decode cL_law 10 = .ok (.aload_n 0, 1) := dk_42 (dk_at dksL_law_0 10 rfl rfl)
theorem dL_law_11 : decode cL_law 11 = .ok (.invokestatic 20, 3) := dk_184 0 20 (dk_at dksL_law_0 11 rfl rfl)
theorem dL_law_14 : decode cL_law 14 = .ok (.astore_n 3, 1) := dk_78 (dk_at dksL_law_0 14 rfl rfl)
theorem dL_law_15 : decode cL_law 15 = .ok (.aload_n 0, 1) := dk_42 (dk_at dksL_law_0 15 rfl rfl)
theorem dL_law_16 : decode cL_law 16 = .ok (.invokestatic 20, 3) := dk_184 0 20 (dk_at dksL_law_0 16 rfl rfl)
theorem dL_law_19 : decode cL_law 19 = .ok (.astore 4, 2) := dk_58 4 (dk_at dksL_law_0 19 rfl rfl)
theorem dL_law_21 : decode cL_law 21 = .ok (.bipush 24, 2) := dk_16 24 (dk_at dksL_law_0 21 rfl rfl)
theorem dL_law_23 : decode cL_law 23 = .ok (.istore 5, 2) := dk_54 5 (dk_at dksL_law_1 0 rfl rfl)
theorem dL_law_25 : decode cL_law 25 = .ok (.aload_n 0, 1) := dk_42 (dk_at dksL_law_1 2 rfl rfl)
theorem dL_law_26 : decode cL_law 26 = .ok (.iconst 0, 1) := dk_3 (dk_at dksL_law_1 3 rfl rfl)
theorem dL_law_27 : decode cL_law 27 = .ok (.invokestatic 10, 3) := dk_184 0 10 (dk_at dksL_law_1 4 rfl rfl)
theorem dL_law_30 : decode cL_law 30 = .ok (.ldc 24, 2) := dk_18 24 (dk_at dksL_law_1 7 rfl rfl)
theorem dL_law_32 : decode cL_law 32 = .ok (.iand, 1) := dk_126 (dk_at dksL_law_1 9 rfl rfl)
theorem dL_law_33 : decode cL_law 33 = .ok (.iload 5, 2) := dk_21 5 (dk_at dksL_law_1 10 rfl rfl)
theorem dL_law_35 : decode cL_law 35 = .ok (.iconst 1, 1) := dk_4 (dk_at dksL_law_1 12 rfl rfl)
theorem dL_law_36 : decode cL_law 36 = .ok (.iadd, 1) := dk_96 (dk_at dksL_law_1 13 rfl rfl)
theorem dL_law_37 : decode cL_law 37 = .ok (.irem, 1) := dk_112 (dk_at dksL_law_1 14 rfl rfl)
theorem dL_law_38 : decode cL_law 38 = .ok (.istore 6, 2) := dk_54 6 (dk_at dksL_law_1 15 rfl rfl)
theorem dL_law_40 : decode cL_law 40 = .ok (.aload_n 0, 1) := dk_42 (dk_at dksL_law_1 17 rfl rfl)
theorem dL_law_41 : decode cL_law 41 = .ok (.iconst 1, 1) := dk_4 (dk_at dksL_law_1 18 rfl rfl)
theorem dL_law_42 : decode cL_law 42 = .ok (.invokestatic 10, 3) := dk_184 0 10 (dk_at dksL_law_1 19 rfl rfl)
theorem dL_law_45 : decode cL_law 45 = .ok (.ldc 24, 2) := dk_18 24 (dk_at dksL_law_1 22 rfl rfl)
theorem dL_law_47 : decode cL_law 47 = .ok (.iand, 1) := dk_126 (dk_at dksL_law_2 0 rfl rfl)
theorem dL_law_48 : decode cL_law 48 = .ok (.iload 5, 2) := dk_21 5 (dk_at dksL_law_2 1 rfl rfl)
theorem dL_law_50 : decode cL_law 50 = .ok (.iload 6, 2) := dk_21 6 (dk_at dksL_law_2 3 rfl rfl)
theorem dL_law_52 : decode cL_law 52 = .ok (.isub, 1) := dk_100 (dk_at dksL_law_2 5 rfl rfl)
theorem dL_law_53 : decode cL_law 53 = .ok (.iconst 1, 1) := dk_4 (dk_at dksL_law_2 6 rfl rfl)
theorem dL_law_54 : decode cL_law 54 = .ok (.iadd, 1) := dk_96 (dk_at dksL_law_2 7 rfl rfl)
theorem dL_law_55 : decode cL_law 55 = .ok (.irem, 1) := dk_112 (dk_at dksL_law_2 8 rfl rfl)
theorem dL_law_56 : decode cL_law 56 = .ok (.istore 7, 2) := dk_54 7 (dk_at dksL_law_2 9 rfl rfl)
theorem dL_law_58 : decode cL_law 58 = .ok (.aload_n 2, 1) := dk_44 (dk_at dksL_law_2 11 rfl rfl)
theorem dL_law_59 : decode cL_law 59 = .ok (.aload_n 0, 1) := dk_42 (dk_at dksL_law_2 12 rfl rfl)
theorem dL_law_60 : decode cL_law 60 = .ok (.iconst 0, 1) := dk_3 (dk_at dksL_law_2 13 rfl rfl)
theorem dL_law_61 : decode cL_law 61 = .ok (.invokestatic 10, 3) := dk_184 0 10 (dk_at dksL_law_2 14 rfl rfl)
theorem dL_law_64 : decode cL_law 64 = .ok (.aload_n 0, 1) := dk_42 (dk_at dksL_law_2 17 rfl rfl)
theorem dL_law_65 : decode cL_law 65 = .ok (.iconst 1, 1) := dk_4 (dk_at dksL_law_2 18 rfl rfl)
theorem dL_law_66 : decode cL_law 66 = .ok (.invokestatic 10, 3) := dk_184 0 10 (dk_at dksL_law_2 19 rfl rfl)
theorem dL_law_69 : decode cL_law 69 = .ok (.invokevirtual 25, 3) := dk_182 0 25 (dk_at dksL_law_3 0 rfl rfl)
theorem dL_law_72 : decode cL_law 72 = .ok (.pop, 1) := dk_87 (dk_at dksL_law_3 3 rfl rfl)
theorem dL_law_73 : decode cL_law 73 = .ok (.aload_n 3, 1) := dk_45 (dk_at dksL_law_3 4 rfl rfl)
theorem dL_law_74 : decode cL_law 74 = .ok (.aload_n 0, 1) := dk_42 (dk_at dksL_law_3 5 rfl rfl)
theorem dL_law_75 : decode cL_law 75 = .ok (.iconst 0, 1) := dk_3 (dk_at dksL_law_3 6 rfl rfl)
theorem dL_law_76 : decode cL_law 76 = .ok (.invokestatic 10, 3) := dk_184 0 10 (dk_at dksL_law_3 7 rfl rfl)
theorem dL_law_79 : decode cL_law 79 = .ok (.aload_n 0, 1) := dk_42 (dk_at dksL_law_3 10 rfl rfl)
theorem dL_law_80 : decode cL_law 80 = .ok (.iconst 1, 1) := dk_4 (dk_at dksL_law_3 11 rfl rfl)
theorem dL_law_81 : decode cL_law 81 = .ok (.invokestatic 10, 3) := dk_184 0 10 (dk_at dksL_law_3 12 rfl rfl)
theorem dL_law_84 : decode cL_law 84 = .ok (.invokevirtual 29, 3) := dk_182 0 29 (dk_at dksL_law_3 15 rfl rfl)
theorem dL_law_87 : decode cL_law 87 = .ok (.pop, 1) := dk_87 (dk_at dksL_law_3 18 rfl rfl)
theorem dL_law_88 : decode cL_law 88 = .ok (.aload 4, 2) := dk_25 4 (dk_at dksL_law_3 19 rfl rfl)
theorem dL_law_90 : decode cL_law 90 = .ok (.aload_n 0, 1) := dk_42 (dk_at dksL_law_3 21 rfl rfl)
theorem dL_law_91 : decode cL_law 91 = .ok (.iconst 0, 1) := dk_3 (dk_at dksL_law_3 22 rfl rfl)
theorem dL_law_92 : decode cL_law 92 = .ok (.invokestatic 10, 3) := dk_184 0 10 (dk_at dksL_law_4 0 rfl rfl)
theorem dL_law_95 : decode cL_law 95 = .ok (.aload_n 0, 1) := dk_42 (dk_at dksL_law_4 3 rfl rfl)
theorem dL_law_96 : decode cL_law 96 = .ok (.iconst 1, 1) := dk_4 (dk_at dksL_law_4 4 rfl rfl)
theorem dL_law_97 : decode cL_law 97 = .ok (.invokestatic 10, 3) := dk_184 0 10 (dk_at dksL_law_4 5 rfl rfl)
theorem dL_law_100 : decode cL_law 100 = .ok (.invokevirtual 32, 3) := dk_182 0 32 (dk_at dksL_law_4 8 rfl rfl)
theorem dL_law_103 : decode cL_law 103 = .ok (.pop, 1) := dk_87 (dk_at dksL_law_4 11 rfl rfl)
theorem dL_law_104 : decode cL_law 104 = .ok (.iconst 0, 1) := dk_3 (dk_at dksL_law_4 12 rfl rfl)
theorem dL_law_105 : decode cL_law 105 = .ok (.istore 8, 2) := dk_54 8 (dk_at dksL_law_4 13 rfl rfl)
theorem dL_law_107 : decode cL_law 107 = .ok (.iload 8, 2) := dk_21 8 (dk_at dksL_law_4 15 rfl rfl)
theorem dL_law_109 : decode cL_law 109 = .ok (.bipush 24, 2) := dk_16 24 (dk_at dksL_law_4 17 rfl rfl)
theorem dL_law_111 : decode cL_law 111 = .ok (.if_icmp .ge 51, 3) := dk_162 0 51 (dk_at dksL_law_4 19 rfl rfl)
theorem dL_law_114 : decode cL_law 114 = .ok (.aload_n 1, 1) := dk_43 (dk_at dksL_law_4 22 rfl rfl)
theorem dL_law_115 : decode cL_law 115 = .ok (.iload 8, 2) := dk_21 8 (dk_at dksL_law_5 0 rfl rfl)
theorem dL_law_117 : decode cL_law 117 = .ok (.invokevirtual 35, 3) := dk_182 0 35 (dk_at dksL_law_5 2 rfl rfl)
theorem dL_law_120 : decode cL_law 120 = .ok (.aload_n 0, 1) := dk_42 (dk_at dksL_law_5 5 rfl rfl)
theorem dL_law_121 : decode cL_law 121 = .ok (.iconst 2, 1) := dk_5 (dk_at dksL_law_5 6 rfl rfl)
theorem dL_law_122 : decode cL_law 122 = .ok (.iconst 2, 1) := dk_5 (dk_at dksL_law_5 7 rfl rfl)
theorem dL_law_123 : decode cL_law 123 = .ok (.iload 8, 2) := dk_21 8 (dk_at dksL_law_5 8 rfl rfl)
theorem dL_law_125 : decode cL_law 125 = .ok (.imul, 1) := dk_104 (dk_at dksL_law_5 10 rfl rfl)
theorem dL_law_126 : decode cL_law 126 = .ok (.iadd, 1) := dk_96 (dk_at dksL_law_5 11 rfl rfl)
theorem dL_law_127 : decode cL_law 127 = .ok (.invokestatic 10, 3) := dk_184 0 10 (dk_at dksL_law_5 12 rfl rfl)
theorem dL_law_130 : decode cL_law 130 = .ok (.i2l, 1) := dk_133 (dk_at dksL_law_5 15 rfl rfl)
theorem dL_law_131 : decode cL_law 131 = .ok (.bipush 32, 2) := dk_16 32 (dk_at dksL_law_5 16 rfl rfl)
theorem dL_law_133 : decode cL_law 133 = .ok (.lshl, 1) := dk_121 (dk_at dksL_law_5 18 rfl rfl)
theorem dL_law_134 : decode cL_law 134 = .ok (.aload_n 0, 1) := dk_42 (dk_at dksL_law_5 19 rfl rfl)
theorem dL_law_135 : decode cL_law 135 = .ok (.iconst 3, 1) := dk_6 (dk_at dksL_law_5 20 rfl rfl)
theorem dL_law_136 : decode cL_law 136 = .ok (.iconst 2, 1) := dk_5 (dk_at dksL_law_5 21 rfl rfl)
theorem dL_law_137 : decode cL_law 137 = .ok (.iload 8, 2) := dk_21 8 (dk_at dksL_law_5 22 rfl rfl)
theorem dL_law_139 : decode cL_law 139 = .ok (.imul, 1) := dk_104 (dk_at dksL_law_6 0 rfl rfl)
theorem dL_law_140 : decode cL_law 140 = .ok (.iadd, 1) := dk_96 (dk_at dksL_law_6 1 rfl rfl)
theorem dL_law_141 : decode cL_law 141 = .ok (.invokestatic 10, 3) := dk_184 0 10 (dk_at dksL_law_6 2 rfl rfl)
theorem dL_law_144 : decode cL_law 144 = .ok (.i2l, 1) := dk_133 (dk_at dksL_law_6 5 rfl rfl)
theorem dL_law_145 : decode cL_law 145 = .ok (.ldc2_w 39, 3) := dk_20 0 39 (dk_at dksL_law_6 6 rfl rfl)
theorem dL_law_148 : decode cL_law 148 = .ok (.land, 1) := dk_127 (dk_at dksL_law_6 9 rfl rfl)
theorem dL_law_149 : decode cL_law 149 = .ok (.lor, 1) := dk_129 (dk_at dksL_law_6 10 rfl rfl)
theorem dL_law_150 : decode cL_law 150 = .ok (.lcmp, 1) := dk_148 (dk_at dksL_law_6 11 rfl rfl)
theorem dL_law_151 : decode cL_law 151 = .ok (.ifCond .eq 5, 3) := dk_153 0 5 (dk_at dksL_law_6 12 rfl rfl)
theorem dL_law_154 : decode cL_law 154 = .ok (.iconst 0, 1) := dk_3 (dk_at dksL_law_6 15 rfl rfl)
theorem dL_law_155 : decode cL_law 155 = .ok (.ireturn, 1) := dk_172 (dk_at dksL_law_6 16 rfl rfl)
theorem dL_law_156 : decode cL_law 156 = .ok (.iinc 8 1, 3) := dk_132 8 1 (dk_at dksL_law_6 17 rfl rfl)
theorem dL_law_159 : decode cL_law 159 = .ok (.goto (-52), 3) := dk_167 255 204 (dk_at dksL_law_6 20 rfl rfl)
theorem dL_law_162 : decode cL_law 162 = .ok (.lconst 0, 1) := dk_9 (dk_at dksL_law_6 23 rfl rfl)
theorem dL_law_163 : decode cL_law 163 = .ok (.lstore 8, 2) := dk_55 8 (dk_at dksL_law_7 0 rfl rfl)
theorem dL_law_165 : decode cL_law 165 = .ok (.iconst 0, 1) := dk_3 (dk_at dksL_law_7 2 rfl rfl)
theorem dL_law_166 : decode cL_law 166 = .ok (.istore 10, 2) := dk_54 10 (dk_at dksL_law_7 3 rfl rfl)
theorem dL_law_168 : decode cL_law 168 = .ok (.iload 10, 2) := dk_21 10 (dk_at dksL_law_7 5 rfl rfl)
theorem dL_law_170 : decode cL_law 170 = .ok (.iload 5, 2) := dk_21 5 (dk_at dksL_law_7 7 rfl rfl)
theorem dL_law_172 : decode cL_law 172 = .ok (.if_icmp .ge 174, 3) := dk_162 0 174 (dk_at dksL_law_7 9 rfl rfl)
theorem dL_law_175 : decode cL_law 175 = .ok (.aload_n 2, 1) := dk_44 (dk_at dksL_law_7 12 rfl rfl)
theorem dL_law_176 : decode cL_law 176 = .ok (.iload 10, 2) := dk_21 10 (dk_at dksL_law_7 13 rfl rfl)
theorem dL_law_178 : decode cL_law 178 = .ok (.invokevirtual 35, 3) := dk_182 0 35 (dk_at dksL_law_7 15 rfl rfl)
theorem dL_law_181 : decode cL_law 181 = .ok (.lstore 11, 2) := dk_55 11 (dk_at dksL_law_7 18 rfl rfl)
theorem dL_law_183 : decode cL_law 183 = .ok (.aload_n 3, 1) := dk_45 (dk_at dksL_law_7 20 rfl rfl)
theorem dL_law_184 : decode cL_law 184 = .ok (.iload 10, 2) := dk_21 10 (dk_at dksL_law_7 21 rfl rfl)
theorem dL_law_186 : decode cL_law 186 = .ok (.invokevirtual 35, 3) := dk_182 0 35 (dk_at dksL_law_8 0 rfl rfl)
theorem dL_law_189 : decode cL_law 189 = .ok (.lload 11, 2) := dk_22 11 (dk_at dksL_law_8 3 rfl rfl)
theorem dL_law_191 : decode cL_law 191 = .ok (.lcmp, 1) := dk_148 (dk_at dksL_law_8 5 rfl rfl)
theorem dL_law_192 : decode cL_law 192 = .ok (.ifCond .ne 16, 3) := dk_154 0 16 (dk_at dksL_law_8 6 rfl rfl)
theorem dL_law_195 : decode cL_law 195 = .ok (.aload 4, 2) := dk_25 4 (dk_at dksL_law_8 9 rfl rfl)
theorem dL_law_197 : decode cL_law 197 = .ok (.iload 10, 2) := dk_21 10 (dk_at dksL_law_8 11 rfl rfl)
theorem dL_law_199 : decode cL_law 199 = .ok (.invokevirtual 35, 3) := dk_182 0 35 (dk_at dksL_law_8 13 rfl rfl)
theorem dL_law_202 : decode cL_law 202 = .ok (.lload 11, 2) := dk_22 11 (dk_at dksL_law_8 16 rfl rfl)
theorem dL_law_204 : decode cL_law 204 = .ok (.lcmp, 1) := dk_148 (dk_at dksL_law_8 18 rfl rfl)
theorem dL_law_205 : decode cL_law 205 = .ok (.ifCond .eq 5, 3) := dk_153 0 5 (dk_at dksL_law_8 19 rfl rfl)
theorem dL_law_208 : decode cL_law 208 = .ok (.iconst 0, 1) := dk_3 (dk_at dksL_law_8 22 rfl rfl)
theorem dL_law_209 : decode cL_law 209 = .ok (.ireturn, 1) := dk_172 (dk_at dksL_law_8 23 rfl rfl)
theorem dL_law_210 : decode cL_law 210 = .ok (.iload 10, 2) := dk_21 10 (dk_at dksL_law_9 0 rfl rfl)
theorem dL_law_212 : decode cL_law 212 = .ok (.iload 6, 2) := dk_21 6 (dk_at dksL_law_9 2 rfl rfl)
theorem dL_law_214 : decode cL_law 214 = .ok (.if_icmp .lt 17, 3) := dk_161 0 17 (dk_at dksL_law_9 4 rfl rfl)
theorem dL_law_217 : decode cL_law 217 = .ok (.iload 10, 2) := dk_21 10 (dk_at dksL_law_9 7 rfl rfl)
theorem dL_law_219 : decode cL_law 219 = .ok (.iload 6, 2) := dk_21 6 (dk_at dksL_law_9 9 rfl rfl)
theorem dL_law_221 : decode cL_law 221 = .ok (.iload 7, 2) := dk_21 7 (dk_at dksL_law_9 11 rfl rfl)
theorem dL_law_223 : decode cL_law 223 = .ok (.iadd, 1) := dk_96 (dk_at dksL_law_9 13 rfl rfl)
theorem dL_law_224 : decode cL_law 224 = .ok (.if_icmp .ge 7, 3) := dk_162 0 7 (dk_at dksL_law_9 14 rfl rfl)
theorem dL_law_227 : decode cL_law 227 = .ok (.iconst 1, 1) := dk_4 (dk_at dksL_law_9 17 rfl rfl)
theorem dL_law_228 : decode cL_law 228 = .ok (.goto 4, 3) := dk_167 0 4 (dk_at dksL_law_9 18 rfl rfl)
theorem dL_law_231 : decode cL_law 231 = .ok (.iconst 0, 1) := dk_3 (dk_at dksL_law_9 21 rfl rfl)
theorem dL_law_232 : decode cL_law 232 = .ok (.istore 13, 2) := dk_54 13 (dk_at dksL_law_9 22 rfl rfl)
theorem dL_law_234 : decode cL_law 234 = .ok (.iload 13, 2) := dk_21 13 (dk_at dksL_law_10 0 rfl rfl)
theorem dL_law_236 : decode cL_law 236 = .ok (.ifCond .ne 17, 3) := dk_154 0 17 (dk_at dksL_law_10 2 rfl rfl)
theorem dL_law_239 : decode cL_law 239 = .ok (.lload 11, 2) := dk_22 11 (dk_at dksL_law_10 5 rfl rfl)
theorem dL_law_241 : decode cL_law 241 = .ok (.aload_n 1, 1) := dk_43 (dk_at dksL_law_10 7 rfl rfl)
theorem dL_law_242 : decode cL_law 242 = .ok (.iload 10, 2) := dk_21 10 (dk_at dksL_law_10 8 rfl rfl)
theorem dL_law_244 : decode cL_law 244 = .ok (.invokevirtual 35, 3) := dk_182 0 35 (dk_at dksL_law_10 10 rfl rfl)
theorem dL_law_247 : decode cL_law 247 = .ok (.lcmp, 1) := dk_148 (dk_at dksL_law_10 13 rfl rfl)
theorem dL_law_248 : decode cL_law 248 = .ok (.ifCond .eq 5, 3) := dk_153 0 5 (dk_at dksL_law_10 14 rfl rfl)
theorem dL_law_251 : decode cL_law 251 = .ok (.iconst 0, 1) := dk_3 (dk_at dksL_law_10 17 rfl rfl)
theorem dL_law_252 : decode cL_law 252 = .ok (.ireturn, 1) := dk_172 (dk_at dksL_law_10 18 rfl rfl)
theorem dL_law_253 : decode cL_law 253 = .ok (.iload 13, 2) := dk_21 13 (dk_at dksL_law_10 19 rfl rfl)
theorem dL_law_255 : decode cL_law 255 = .ok (.ifCond .eq 20, 3) := dk_153 0 20 (dk_at dksL_law_10 21 rfl rfl)
theorem dL_law_258 : decode cL_law 258 = .ok (.iload 10, 2) := dk_21 10 (dk_at dksL_law_11 0 rfl rfl)
theorem dL_law_260 : decode cL_law 260 = .ok (.iload 6, 2) := dk_21 6 (dk_at dksL_law_11 2 rfl rfl)
theorem dL_law_262 : decode cL_law 262 = .ok (.if_icmp .le 13, 3) := dk_164 0 13 (dk_at dksL_law_11 4 rfl rfl)
theorem dL_law_265 : decode cL_law 265 = .ok (.lload 11, 2) := dk_22 11 (dk_at dksL_law_11 7 rfl rfl)
theorem dL_law_267 : decode cL_law 267 = .ok (.lload 8, 2) := dk_22 8 (dk_at dksL_law_11 9 rfl rfl)
theorem dL_law_269 : decode cL_law 269 = .ok (.lcmp, 1) := dk_148 (dk_at dksL_law_11 11 rfl rfl)
theorem dL_law_270 : decode cL_law 270 = .ok (.ifCond .ge 5, 3) := dk_156 0 5 (dk_at dksL_law_11 12 rfl rfl)
theorem dL_law_273 : decode cL_law 273 = .ok (.iconst 0, 1) := dk_3 (dk_at dksL_law_11 15 rfl rfl)
theorem dL_law_274 : decode cL_law 274 = .ok (.ireturn, 1) := dk_172 (dk_at dksL_law_11 16 rfl rfl)
theorem dL_law_275 : decode cL_law 275 = .ok (.lload 11, 2) := dk_22 11 (dk_at dksL_law_11 17 rfl rfl)
theorem dL_law_277 : decode cL_law 277 = .ok (.lstore 8, 2) := dk_55 8 (dk_at dksL_law_11 19 rfl rfl)
theorem dL_law_279 : decode cL_law 279 = .ok (.iconst 0, 1) := dk_3 (dk_at dksL_law_11 21 rfl rfl)
theorem dL_law_280 : decode cL_law 280 = .ok (.istore 14, 2) := dk_54 14 (dk_at dksL_law_11 22 rfl rfl)
theorem dL_law_282 : decode cL_law 282 = .ok (.iconst 0, 1) := dk_3 (dk_at dksL_law_12 0 rfl rfl)
theorem dL_law_283 : decode cL_law 283 = .ok (.istore 15, 2) := dk_54 15 (dk_at dksL_law_12 1 rfl rfl)
theorem dL_law_285 : decode cL_law 285 = .ok (.iconst 0, 1) := dk_3 (dk_at dksL_law_12 3 rfl rfl)
theorem dL_law_286 : decode cL_law 286 = .ok (.istore 16, 2) := dk_54 16 (dk_at dksL_law_12 4 rfl rfl)
theorem dL_law_288 : decode cL_law 288 = .ok (.iload 16, 2) := dk_21 16 (dk_at dksL_law_12 6 rfl rfl)
theorem dL_law_290 : decode cL_law 290 = .ok (.iload 5, 2) := dk_21 5 (dk_at dksL_law_12 8 rfl rfl)
theorem dL_law_292 : decode cL_law 292 = .ok (.if_icmp .ge 39, 3) := dk_162 0 39 (dk_at dksL_law_12 10 rfl rfl)
theorem dL_law_295 : decode cL_law 295 = .ok (.aload_n 1, 1) := dk_43 (dk_at dksL_law_12 13 rfl rfl)
theorem dL_law_296 : decode cL_law 296 = .ok (.iload 16, 2) := dk_21 16 (dk_at dksL_law_12 14 rfl rfl)
theorem dL_law_298 : decode cL_law 298 = .ok (.invokevirtual 35, 3) := dk_182 0 35 (dk_at dksL_law_12 16 rfl rfl)
theorem dL_law_301 : decode cL_law 301 = .ok (.lload 11, 2) := dk_22 11 (dk_at dksL_law_12 19 rfl rfl)
theorem dL_law_303 : decode cL_law 303 = .ok (.lcmp, 1) := dk_148 (dk_at dksL_law_12 21 rfl rfl)
theorem dL_law_304 : decode cL_law 304 = .ok (.ifCond .ne 6, 3) := dk_154 0 6 (dk_at dksL_law_13 0 rfl rfl)
theorem dL_law_307 : decode cL_law 307 = .ok (.iinc 14 1, 3) := dk_132 14 1 (dk_at dksL_law_13 3 rfl rfl)
theorem dL_law_310 : decode cL_law 310 = .ok (.aload_n 2, 1) := dk_44 (dk_at dksL_law_13 6 rfl rfl)
theorem dL_law_311 : decode cL_law 311 = .ok (.iload 16, 2) := dk_21 16 (dk_at dksL_law_13 7 rfl rfl)
theorem dL_law_313 : decode cL_law 313 = .ok (.invokevirtual 35, 3) := dk_182 0 35 (dk_at dksL_law_13 9 rfl rfl)
theorem dL_law_316 : decode cL_law 316 = .ok (.lload 11, 2) := dk_22 11 (dk_at dksL_law_13 12 rfl rfl)
theorem dL_law_318 : decode cL_law 318 = .ok (.lcmp, 1) := dk_148 (dk_at dksL_law_13 14 rfl rfl)
theorem dL_law_319 : decode cL_law 319 = .ok (.ifCond .ne 6, 3) := dk_154 0 6 (dk_at dksL_law_13 15 rfl rfl)
theorem dL_law_322 : decode cL_law 322 = .ok (.iinc 15 1, 3) := dk_132 15 1 (dk_at dksL_law_13 18 rfl rfl)
theorem dL_law_325 : decode cL_law 325 = .ok (.iinc 16 1, 3) := dk_132 16 1 (dk_at dksL_law_13 21 rfl rfl)
theorem dL_law_328 : decode cL_law 328 = .ok (.goto (-40), 3) := dk_167 255 216 (dk_at dksL_law_14 0 rfl rfl)
theorem dL_law_331 : decode cL_law 331 = .ok (.iload 14, 2) := dk_21 14 (dk_at dksL_law_14 3 rfl rfl)
theorem dL_law_333 : decode cL_law 333 = .ok (.iload 15, 2) := dk_21 15 (dk_at dksL_law_14 5 rfl rfl)
theorem dL_law_335 : decode cL_law 335 = .ok (.if_icmp .eq 5, 3) := dk_159 0 5 (dk_at dksL_law_14 7 rfl rfl)
theorem dL_law_338 : decode cL_law 338 = .ok (.iconst 0, 1) := dk_3 (dk_at dksL_law_14 10 rfl rfl)
theorem dL_law_339 : decode cL_law 339 = .ok (.ireturn, 1) := dk_172 (dk_at dksL_law_14 11 rfl rfl)
theorem dL_law_340 : decode cL_law 340 = .ok (.iinc 10 1, 3) := dk_132 10 1 (dk_at dksL_law_14 12 rfl rfl)
theorem dL_law_343 : decode cL_law 343 = .ok (.goto (-175), 3) := dk_167 255 81 (dk_at dksL_law_14 15 rfl rfl)
theorem dL_law_346 : decode cL_law 346 = .ok (.aload_n 0, 1) := dk_42 (dk_at dksL_law_14 18 rfl rfl)
theorem dL_law_347 : decode cL_law 347 = .ok (.invokestatic 41, 3) := dk_184 0 41 (dk_at dksL_law_14 19 rfl rfl)
theorem dL_law_350 : decode cL_law 350 = .ok (.ifCond .eq 21, 3) := dk_153 0 21 (dk_at dksL_law_15 0 rfl rfl)
theorem dL_law_353 : decode cL_law 353 = .ok (.aload_n 0, 1) := dk_42 (dk_at dksL_law_15 3 rfl rfl)
theorem dL_law_354 : decode cL_law 354 = .ok (.invokestatic 45, 3) := dk_184 0 45 (dk_at dksL_law_15 4 rfl rfl)
theorem dL_law_357 : decode cL_law 357 = .ok (.ifCond .eq 14, 3) := dk_153 0 14 (dk_at dksL_law_15 7 rfl rfl)
theorem dL_law_360 : decode cL_law 360 = .ok (.aload_n 0, 1) := dk_42 (dk_at dksL_law_15 10 rfl rfl)
theorem dL_law_361 : decode cL_law 361 = .ok (.invokestatic 48, 3) := dk_184 0 48 (dk_at dksL_law_15 11 rfl rfl)
theorem dL_law_364 : decode cL_law 364 = .ok (.ifCond .eq 7, 3) := dk_153 0 7 (dk_at dksL_law_15 14 rfl rfl)
theorem dL_law_367 : decode cL_law 367 = .ok (.iconst 1, 1) := dk_4 (dk_at dksL_law_15 17 rfl rfl)
theorem dL_law_368 : decode cL_law 368 = .ok (.goto 4, 3) := dk_167 0 4 (dk_at dksL_law_15 18 rfl rfl)
theorem dL_law_371 : decode cL_law 371 = .ok (.iconst 0, 1) := dk_3 (dk_at dksL_law_15 21 rfl rfl)
theorem dL_law_372 : decode cL_law 372 = .ok (.ireturn, 1) := dk_172 (dk_at dksL_law_15 22 rfl rfl)
end
section
/-! PURE: counts, ranges and order of arrays as functions Nat → Int64. zs_cn P f n: how many of the places below n hold a number with P. zs_pm f g lo hi: g is f but for the places lo..hi, which hold the same numbers as often. zs_srt f lo hi: in order there -/
def zs_cn (P : Int64 → Bool) (f : Nat → Int64) : Nat → Nat
  | 0 => 0
  | n + 1 => zs_cn P f n + (P (f n)).toNat
theorem zs_cn_s (P : Int64 → Bool) (f : Nat → Int64) (n : Nat) : zs_cn P f (n + 1) = zs_cn P f n + (P (f n)).toNat := rfl
theorem zs_cn_congr {P : Int64 → Bool} {f g : Nat → Int64} {n : Nat} (h : ∀ j, j < n → f j = g j) : zs_cn P f n = zs_cn P g n := by
  induction n with
  | zero => rfl
  | succ n ih => rw [zs_cn_s, zs_cn_s, ih (fun j hj => h j (by omega)), h n (by omega)]
theorem zs_cn_mono {P : Int64 → Bool} {f : Nat → Int64} {a b : Nat} (h : a ≤ b) : zs_cn P f a ≤ zs_cn P f b := by
  induction b with
  | zero =>
    have e : a = 0 := by omega
    subst e
    exact Nat.le_refl _
  | succ b ih =>
    rcases Nat.lt_or_ge b a with q | q
    · have e : a = b + 1 := by omega
      subst e
      exact Nat.le_refl _
    · have h1 := ih q
      have h2 := zs_cn_s P f b
      omega
theorem zs_cn_le {P : Int64 → Bool} {f : Nat → Int64} {a b : Nat} (h : a ≤ b) : zs_cn P f b ≤ zs_cn P f a + (b - a) := by
  induction b with
  | zero =>
    have e : a = 0 := by omega
    subst e
    exact Nat.le_refl _
  | succ b ih =>
    rcases Nat.lt_or_ge b a with q | q
    · have e : a = b + 1 := by omega
      subst e
      omega
    · have h1 := ih q
      have h2 := zs_cn_s P f b
      have h3 := Bool.toNat_le (P (f b))
      omega
theorem zs_cn_upd {P : Int64 → Bool} {f : Nat → Int64} {k n : Nat} {x : Int64} (h : k < n) : zs_cn P (vp_updL f k x) n + (P (f k)).toNat = zs_cn P f n + (P x).toNat := by
  induction n with
  | zero => exact absurd h (Nat.not_lt_zero _)
  | succ n ih =>
    rw [zs_cn_s, zs_cn_s]
    rcases Nat.lt_or_ge k n with q | q
    · have h1 := ih q
      have h2 : vp_updL f k x n = f n := pk_uLn (by omega)
      rw [h2]
      omega
    · have e : k = n := by omega
      subst e
      have h2 : zs_cn P (vp_updL f k x) k = zs_cn P f k := zs_cn_congr (fun j hj => pk_uLn (by omega))
      rw [h2, pk_uLs]
      omega
theorem zs_cn_at {P : Int64 → Bool} {f : Nat → Int64} {lo j hi : Nat} (h1 : lo ≤ j) (h2 : j < hi) (hp : P (f j) = true) : zs_cn P f lo < zs_cn P f hi := by
  have a := zs_cn_mono (P := P) (f := f) h1
  have b := zs_cn_mono (P := P) (f := f) (show j + 1 ≤ hi from h2)
  rw [zs_cn_s, hp, Bool.toNat_true] at b
  omega
theorem zs_cn_ex {P : Int64 → Bool} {f : Nat → Int64} {lo hi : Nat} (h : zs_cn P f lo < zs_cn P f hi) : ∃ j, lo ≤ j ∧ j < hi ∧ P (f j) = true := by
  induction hi with
  | zero => exact absurd h (Nat.not_lt_zero _)
  | succ n ih =>
    by_cases hp : P (f n) = true
    · rcases Nat.lt_or_ge n lo with q | q
      · have h1 := zs_cn_mono (P := P) (f := f) (show n + 1 ≤ lo from q)
        omega
      · exact ⟨n, q, by omega, hp⟩
    · have e : P (f n) = false := by simpa using hp
      rw [zs_cn_s, e, Bool.toNat_false] at h
      obtain ⟨j, a, b, c⟩ := ih (by omega)
      exact ⟨j, a, by omega, c⟩
theorem zs_cn_all {P : Int64 → Bool} {f : Nat → Int64} {lo hi : Nat} (h : lo ≤ hi) (hp : ∀ j, lo ≤ j → j < hi → P (f j) = true) : zs_cn P f hi = zs_cn P f lo + (hi - lo) := by
  induction hi with
  | zero =>
    have e : lo = 0 := by omega
    subst e
    rfl
  | succ n ih =>
    rcases Nat.lt_or_ge n lo with q | q
    · have e : lo = n + 1 := by omega
      subst e
      omega
    · rw [zs_cn_s, ih q (fun j a b => hp j a (by omega)), hp n q (by omega), Bool.toNat_true]
      omega
theorem zs_cn_none {P : Int64 → Bool} {f : Nat → Int64} {lo hi : Nat} (h : lo ≤ hi) (hp : ∀ j, lo ≤ j → j < hi → P (f j) = false) : zs_cn P f hi = zs_cn P f lo := by
  induction hi with
  | zero =>
    have e : lo = 0 := by omega
    subst e
    rfl
  | succ n ih =>
    rcases Nat.lt_or_ge n lo with q | q
    · have e : lo = n + 1 := by omega
      subst e
      rfl
    · rw [zs_cn_s, ih q (fun j a b => hp j a (by omega)), hp n q (by omega), Bool.toNat_false]
      omega
theorem zs_cn_ext {P : Int64 → Bool} {f g : Nat → Int64} {a n : Nat} (h : zs_cn P g a = zs_cn P f a) (he : ∀ j, a ≤ j → j < n → g j = f j) (hn : a ≤ n) : zs_cn P g n = zs_cn P f n := by
  induction n with
  | zero =>
    have e : a = 0 := by omega
    subst e
    exact h
  | succ n ih =>
    rcases Nat.lt_or_ge n a with q | q
    · have e : a = n + 1 := by omega
      subst e
      exact h
    · rw [zs_cn_s, zs_cn_s, ih (fun j x y => he j x (by omega)) q, he n q (by omega)]
theorem zs_cn_seg {P : Int64 → Bool} {f g : Nat → Int64} {lo hi : Nat} (h : lo ≤ hi) (he : ∀ j, lo ≤ j → j < hi → f j = g j) : zs_cn P f hi + zs_cn P g lo = zs_cn P g hi + zs_cn P f lo := by
  induction hi with
  | zero =>
    have e : lo = 0 := by omega
    subst e
    omega
  | succ n ih =>
    rcases Nat.lt_or_ge n lo with q | q
    · have e : lo = n + 1 := by omega
      subst e
      omega
    · have h1 := ih q (fun j a b => he j a (by omega))
      rw [zs_cn_s, zs_cn_s, he n q (by omega)]
      omega
def zs_pm (f g : Nat → Int64) (lo hi : Nat) : Prop := (∀ j, (j < lo ∨ hi ≤ j) → g j = f j) ∧ ∀ P : Int64 → Bool, zs_cn P g hi = zs_cn P f hi
theorem zs_pm.rf {f : Nat → Int64} {lo hi : Nat} : zs_pm f f lo hi := ⟨fun _ _ => rfl, fun _ => rfl⟩
theorem zs_pm.tr {f g h : Nat → Int64} {lo hi : Nat} (a : zs_pm f g lo hi) (b : zs_pm g h lo hi) : zs_pm f h lo hi := ⟨fun j q => (b.1 j q).trans (a.1 j q), fun P => (b.2 P).trans (a.2 P)⟩
theorem zs_pm.sm {f g : Nat → Int64} {lo hi : Nat} (a : zs_pm f g lo hi) : zs_pm g f lo hi := ⟨fun j q => (a.1 j q).symm, fun P => (a.2 P).symm⟩
theorem zs_pm.wide {f g : Nat → Int64} {lo hi lo' hi' : Nat} (a : zs_pm f g lo hi) (h1 : lo' ≤ lo) (h2 : hi ≤ hi') : zs_pm f g lo' hi' := ⟨fun j q => a.1 j (by omega), fun P => zs_cn_ext (a.2 P) (fun j x _ => a.1 j (Or.inr x)) h2⟩
theorem zs_pm.low {f g : Nat → Int64} {lo hi k : Nat} (a : zs_pm f g lo hi) (h : k ≤ lo) (P : Int64 → Bool) : zs_cn P g k = zs_cn P f k := zs_cn_congr (fun j q => a.1 j (Or.inl (by omega)))
theorem zs_pm.any {f g : Nat → Int64} {lo hi : Nat} (a : zs_pm f g lo hi) {j : Nat} (h1 : lo ≤ j) (h2 : j < hi) : ∃ i, lo ≤ i ∧ i < hi ∧ f i = g j := by
  have x := zs_cn_at (P := fun v => v == g j) (f := g) h1 h2 (by simp)
  rw [a.2, a.low (Nat.le_refl _)] at x
  obtain ⟨i, p, q, r⟩ := zs_cn_ex x
  exact ⟨i, p, q, by simpa using r⟩
theorem zs_pm.all {f g : Nat → Int64} {lo hi : Nat} (a : zs_pm f g lo hi) {T : Int64 → Prop} (h : ∀ j, lo ≤ j → j < hi → T (f j)) : ∀ j, lo ≤ j → j < hi → T (g j) := by
  intro j x y
  obtain ⟨i, p, q, r⟩ := a.any x y
  rw [← r]
  exact h i p q
def zs_sw (f : Nat → Int64) (i j : Nat) : Nat → Int64 := vp_updL (vp_updL f i (f j)) j (f i)
theorem zs_sw_2 {f : Nat → Int64} {i j : Nat} : zs_sw f i j j = f i := pk_uLs
theorem zs_sw_1 {f : Nat → Int64} {i j : Nat} : zs_sw f i j i = f j := by
  by_cases e : i = j
  · subst e
    exact pk_uLs
  · show vp_updL (vp_updL f i (f j)) j (f i) i = f j
    rw [pk_uLn e, pk_uLs]
theorem zs_sw_n {f : Nat → Int64} {i j k : Nat} (h1 : k ≠ i) (h2 : k ≠ j) : zs_sw f i j k = f k := by
  show vp_updL (vp_updL f i (f j)) j (f i) k = f k
  rw [pk_uLn h2, pk_uLn h1]
theorem zs_sw_self {f : Nat → Int64} {i : Nat} : zs_sw f i i = f := by
  funext k
  by_cases e : k = i
  · subst e
    exact zs_sw_2
  · exact zs_sw_n e e
theorem zs_sw_pm {f : Nat → Int64} {i j lo hi : Nat} (h1 : lo ≤ i) (h2 : i < hi) (h3 : lo ≤ j) (h4 : j < hi) : zs_pm f (zs_sw f i j) lo hi := by
  refine ⟨fun k q => zs_sw_n (by omega) (by omega), fun P => ?_⟩
  have a := zs_cn_upd (P := P) (f := f) (k := i) (n := hi) (x := f j) h2
  have b := zs_cn_upd (P := P) (f := vp_updL f i (f j)) (k := j) (n := hi) (x := f i) h4
  have c : (vp_updL f i (f j)) j = f j := by
    by_cases e : j = i
    · subst e
      exact pk_uLs
    · exact pk_uLn e
  rw [c] at b
  show zs_cn P (vp_updL (vp_updL f i (f j)) j (f i)) hi = zs_cn P f hi
  omega
def zs_srt (f : Nat → Int64) (lo hi : Nat) : Prop := ∀ i j, lo ≤ i → i < j → j < hi → (f i).toInt ≤ (f j).toInt
theorem zs_uniq1 {f g : Nat → Int64} {lo hi : Nat} (hf : zs_srt f lo hi) (hg : zs_srt g lo hi) (hc : ∀ P, zs_cn P f hi + zs_cn P g lo = zs_cn P g hi + zs_cn P f lo) : ∀ j, lo ≤ j → j < hi → (g j).toInt ≤ (f j).toInt := by
  intro j h1 h2
  apply Int.not_lt.mp
  intro h
  obtain ⟨P, hP⟩ : ∃ P : Int64 → Bool, ∀ v, P v = decide (v.toInt ≤ (f j).toInt) := ⟨_, fun _ => rfl⟩
  have a := zs_cn_all (P := P) (f := f) (lo := lo) (hi := j + 1) (by omega) (fun i x y => by
    rw [hP]
    refine decide_eq_true ?_
    rcases Nat.lt_or_ge i j with q | q
    · exact hf i j x q h2
    · have e : i = j := by omega
      subst e
      exact Int.le_refl _)
  have b := zs_cn_mono (P := P) (f := f) (show j + 1 ≤ hi from h2)
  have c := zs_cn_none (P := P) (f := g) (lo := j) (hi := hi) (by omega) (fun i x y => by
    rw [hP]
    refine decide_eq_false ?_
    rcases Nat.lt_or_ge j i with q | q
    · have := hg j i h1 q y
      omega
    · have e : i = j := by omega
      subst e
      omega)
  have d := zs_cn_le (P := P) (f := g) h1
  have e := hc P
  omega
theorem zs_uniq {f g : Nat → Int64} {lo hi : Nat} (hf : zs_srt f lo hi) (hg : zs_srt g lo hi) (hc : ∀ P, zs_cn P f hi + zs_cn P g lo = zs_cn P g hi + zs_cn P f lo) : ∀ j, lo ≤ j → j < hi → f j = g j := by
  intro j h1 h2
  have a := zs_uniq1 hf hg hc j h1 h2
  have b := zs_uniq1 hg hf (fun P => by have := hc P; omega) j h1 h2
  exact Int64.toInt_inj.mp (by omega)
theorem zs_uniqP {F f g : Nat → Int64} {lo hi : Nat} (a : zs_pm F f lo hi) (b : zs_pm F g lo hi) (hf : zs_srt f lo hi) (hg : zs_srt g lo hi) : f = g := by
  funext j
  by_cases h : lo ≤ j ∧ j < hi
  · exact zs_uniq hf hg (fun P => by rw [a.2, b.2, a.low (Nat.le_refl _), b.low (Nat.le_refl _)]) j h.1 h.2
  · rw [a.1 j (by omega), b.1 j (by omega)]
/-! selection sort -/
def zs_sel (g : Nat → Int64) (lo i hi : Nat) : Prop := ∀ p q, lo ≤ p → p < i → p < q → q < hi → (g p).toInt ≤ (g q).toInt
theorem zs_sel_0 {g : Nat → Int64} {lo hi : Nat} : zs_sel g lo lo hi := by
  intro p q a b
  omega
theorem zs_sel_end {g : Nat → Int64} {lo i hi : Nat} (h : zs_sel g lo i hi) (h2 : hi ≤ i + 1) : zs_srt g lo hi := fun p q a b c => h p q a (by omega) b c
theorem zs_sel_step {g : Nat → Int64} {lo i hi m : Nat} (h : zs_sel g lo i hi) (h1 : i ≤ m) (h2 : m < hi) (hmin : ∀ q, i ≤ q → q < hi → (g m).toInt ≤ (g q).toInt) : zs_sel (zs_sw g i m) lo (i + 1) hi := by
  intro p q a b c d
  have key : ∀ q, i ≤ q → q < hi → ∃ r, i ≤ r ∧ r < hi ∧ zs_sw g i m q = g r := by
    intro q h3 h4
    by_cases e1 : q = m
    · exact ⟨i, by omega, by omega, by rw [e1]; exact zs_sw_2⟩
    · by_cases e2 : q = i
      · exact ⟨m, h1, h2, by rw [e2]; exact zs_sw_1⟩
      · exact ⟨q, h3, h4, zs_sw_n e2 e1⟩
  rcases Nat.lt_or_ge p i with e | e
  · rw [zs_sw_n (show p ≠ i by omega) (show p ≠ m by omega)]
    rcases Nat.lt_or_ge q i with e' | e'
    · rw [zs_sw_n (show q ≠ i by omega) (show q ≠ m by omega)]
      exact h p q a e c d
    · obtain ⟨r, x, y, z⟩ := key q e' d
      rw [z]
      exact h p r a e (by omega) y
  · have ep : p = i := by omega
    subst ep
    obtain ⟨r, x, y, z⟩ := key q (by omega) d
    rw [z, zs_sw_1]
    exact hmin r x y
/-! insertion sort: the hole at j, the number t in the hand -/
def zs_ins (f g : Nat → Int64) (t : Int64) (lo j i hi : Nat) : Prop := zs_pm f (vp_updL g j t) lo hi ∧ (∀ p q, lo ≤ p → p < q → q ≤ i → p ≠ j → q ≠ j → (g p).toInt ≤ (g q).toInt) ∧ ∀ q, j < q → q ≤ i → t.toInt < (g q).toInt
theorem zs_updself {g : Nat → Int64} {i : Nat} : vp_updL g i (g i) = g := by
  funext k
  by_cases e : k = i
  · subst e
    exact pk_uLs
  · exact pk_uLn e
theorem zs_ins_0 {f g : Nat → Int64} {lo i hi : Nat} (h : zs_pm f g lo hi) (hs : zs_srt g lo i) : zs_ins f g (g i) lo i i hi := by
  refine ⟨by rw [zs_updself]; exact h, fun p q a b c d e => hs p q a b (by omega), fun q a b => ?_⟩
  omega
theorem zs_ins_s {f g : Nat → Int64} {t : Int64} {lo j i hi : Nat} (h : zs_ins f g t lo (j + 1) i hi) (h1 : lo ≤ j) (h2 : j + 1 ≤ i) (h3 : i < hi) (h4 : t.toInt < (g j).toInt) : zs_ins f (vp_updL g (j + 1) (g j)) t lo j i hi := by
  obtain ⟨a, b, c⟩ := h
  have key : vp_updL (vp_updL g (j + 1) (g j)) j t = zs_sw (vp_updL g (j + 1) t) j (j + 1) := by
    funext k
    rcases (show k = j ∨ k = j + 1 ∨ (k ≠ j ∧ k ≠ j + 1) by omega) with e | e | ⟨e1, e2⟩
    · subst e
      simp [zs_sw, vp_updL]
    · subst e
      simp [zs_sw, vp_updL]
    · simp [zs_sw, vp_updL, e1, e2]
  refine ⟨?_, ?_, ?_⟩
  · rw [key]
    exact a.tr (zs_sw_pm h1 (by omega) (by omega) (by omega))
  · intro p q x y z u v
    by_cases e1 : p = j + 1
    · subst e1
      rw [pk_uLs, pk_uLn (by omega)]
      exact b j q h1 (by omega) z (by omega) (by omega)
    · rw [pk_uLn e1]
      by_cases e2 : q = j + 1
      · subst e2
        rw [pk_uLs]
        exact b p j x (by omega) (by omega) e1 (by omega)
      · rw [pk_uLn e2]
        exact b p q x y z e1 e2
  · intro q x y
    by_cases e2 : q = j + 1
    · subst e2
      rw [pk_uLs]
      exact h4
    · rw [pk_uLn e2]
      exact c q (by omega) y
theorem zs_ins_e {f g : Nat → Int64} {t : Int64} {lo j i hi : Nat} (h : zs_ins f g t lo j i hi) (h1 : lo ≤ j) (h2 : j ≤ i) (he : j = lo ∨ (lo < j ∧ (g (j - 1)).toInt ≤ t.toInt)) : zs_pm f (vp_updL g j t) lo hi ∧ zs_srt (vp_updL g j t) lo (i + 1) := by
  obtain ⟨a, b, c⟩ := h
  refine ⟨a, fun p q x y z => ?_⟩
  by_cases e1 : p = j
  · subst e1
    rw [pk_uLs, pk_uLn (by omega)]
    have := c q y (by omega)
    omega
  · rw [pk_uLn e1]
    by_cases e2 : q = j
    · subst e2
      rw [pk_uLs]
      rcases he with e | ⟨e, e3⟩
      · omega
      · rcases (show p = q - 1 ∨ p < q - 1 by omega) with w | w
        · rw [w]
          exact e3
        · have := b p (q - 1) x w (by omega) e1 (by omega)
          omega
    · rw [pk_uLn e2]
      exact b p q x y (by omega) e1 e2
/-! merge: w holds two sorted halves; a is being filled; a0 is a at the start -/
def zs_mg (a0 a w : Nat → Int64) (lo mid hi p q i : Nat) : Prop := (∀ j, (j < lo ∨ hi ≤ j) → a j = a0 j) ∧ (∀ P, zs_cn P a i + zs_cn P w lo + zs_cn P w mid = zs_cn P a0 lo + zs_cn P w p + zs_cn P w q) ∧ zs_srt a lo i ∧ ∀ j r, lo ≤ j → j < i → (p ≤ r ∧ r < mid ∨ q ≤ r ∧ r < hi) → (a j).toInt ≤ (w r).toInt
theorem zs_mg_0 {a w : Nat → Int64} {lo mid hi : Nat} : zs_mg a a w lo mid hi lo mid lo := by
  refine ⟨fun _ _ => rfl, fun _ => rfl, fun p q x y z => ?_, fun j r x y => ?_⟩
  · omega
  · omega
theorem zs_mg_x {a0 a w : Nat → Int64} {lo mid hi p q i : Nat} {x : Int64} {p' q' : Nat} (h : zs_mg a0 a w lo mid hi p q i) (h1 : lo ≤ i) (h2 : i < hi) (hp : p ≤ p') (hq : q ≤ q') (hc : ∀ P, zs_cn P w p' + zs_cn P w q' = zs_cn P w p + zs_cn P w q + (P x).toNat) (hx : ∀ j, lo ≤ j → j < i → (a j).toInt ≤ x.toInt) (hr : ∀ r, (p' ≤ r ∧ r < mid ∨ q' ≤ r ∧ r < hi) → x.toInt ≤ (w r).toInt) : zs_mg a0 (vp_updL a i x) w lo mid hi p' q' (i + 1) := by
  obtain ⟨a1, a2, a3, a4⟩ := h
  refine ⟨fun j e => ?_, fun P => ?_, fun u v e1 e2 e3 => ?_, fun j r e1 e2 e3 => ?_⟩
  · rw [pk_uLn (by omega)]
    exact a1 j e
  · have e1 := a2 P
    have e2 := hc P
    have e3 : zs_cn P (vp_updL a i x) i = zs_cn P a i := zs_cn_congr (fun j hj => pk_uLn (by omega))
    rw [zs_cn_s, pk_uLs, e3]
    omega
  · rw [pk_uLn (show u ≠ i by omega)]
    by_cases e : v = i
    · subst e
      rw [pk_uLs]
      exact hx u e1 e2
    · rw [pk_uLn e]
      exact a3 u v e1 e2 (by omega)
  · by_cases e : j = i
    · subst e
      rw [pk_uLs]
      exact hr r e3
    · rw [pk_uLn e]
      exact a4 j r e1 (by omega) (by omega)
theorem zs_mg_p {a0 a w : Nat → Int64} {lo mid hi p q i : Nat} (h : zs_mg a0 a w lo mid hi p q i) (h1 : lo ≤ p) (h2 : mid ≤ q) (h3 : i + mid = p + q) (h4 : i < hi) (hp : p < mid) (hs : zs_srt w lo mid) (hs2 : zs_srt w mid hi) (hc : hi ≤ q ∨ (w p).toInt ≤ (w q).toInt) : zs_mg a0 (vp_updL a i (w p)) w lo mid hi (p + 1) q (i + 1) := by
  refine zs_mg_x h (by omega) h4 (by omega) (by omega) (fun P => by rw [zs_cn_s]; omega) (fun j x y => h.2.2.2 j p x y (Or.inl ⟨Nat.le_refl _, hp⟩)) (fun r x => ?_)
  rcases x with x | x
  · exact hs p r h1 (by omega) x.2
  · rcases hc with e | e
    · omega
    · rcases (show q = r ∨ q < r by omega) with e2 | e2
      · rw [← e2]
        exact e
      · have := hs2 q r h2 e2 x.2
        omega
theorem zs_mg_q {a0 a w : Nat → Int64} {lo mid hi p q i : Nat} (h : zs_mg a0 a w lo mid hi p q i) (h1 : lo ≤ p) (h2 : mid ≤ q) (h3 : i + mid = p + q) (h4 : i < hi) (hq : q < hi) (hs : zs_srt w lo mid) (hs2 : zs_srt w mid hi) (hc : mid ≤ p ∨ (w q).toInt ≤ (w p).toInt) : zs_mg a0 (vp_updL a i (w q)) w lo mid hi p (q + 1) (i + 1) := by
  refine zs_mg_x h (by omega) h4 (by omega) (by omega) (fun P => by rw [zs_cn_s]; omega) (fun j x y => h.2.2.2 j q x y (Or.inr ⟨Nat.le_refl _, hq⟩)) (fun r x => ?_)
  rcases x with x | x
  · rcases hc with e | e
    · omega
    · rcases (show p = r ∨ p < r by omega) with e2 | e2
      · rw [← e2]
        exact e
      · have := hs p r h1 e2 x.2
        omega
  · exact hs2 q r h2 (by omega) x.2
theorem zs_srt_join {f : Nat → Int64} {lo mid hi : Nat} (h1 : lo < mid) (h2 : mid < hi) (a : zs_srt f lo mid) (b : zs_srt f mid hi) (c : (f (mid - 1)).toInt ≤ (f mid).toInt) : zs_srt f lo hi := by
  intro i j x y z
  rcases Nat.lt_or_ge j mid with q | q
  · exact a i j x y q
  · rcases Nat.lt_or_ge i mid with q2 | q2
    · have e1 : (f i).toInt ≤ (f (mid - 1)).toInt := by
        rcases (show i = mid - 1 ∨ i < mid - 1 by omega) with w | w
        · rw [w]
          exact Int.le_refl _
        · exact a i (mid - 1) x w (by omega)
      have e2 : (f mid).toInt ≤ (f j).toInt := by
        rcases (show mid = j ∨ mid < j by omega) with w | w
        · rw [w]
          exact Int.le_refl _
        · exact b mid j (Nat.le_refl _) w z
      omega
    · exact b i j q2 y z
theorem zs_mg_end {a w w2 a2 a3 : Nat → Int64} {lo mid hi : Nat} (hl : lo ≤ hi) (he : ∀ j, lo ≤ j → j < hi → w j = a j) (hw : zs_pm w w2 lo hi) (ha : ∀ j, (j < lo ∨ hi ≤ j) → a2 j = a j) (hm : zs_mg a2 a3 w2 lo mid hi mid hi hi) : zs_pm a a3 lo hi ∧ zs_srt a3 lo hi := by
  refine ⟨⟨fun j q => (hm.1 j q).trans (ha j q), fun P => ?_⟩, hm.2.2.1⟩
  have e1 := hm.2.1 P
  have e2 : zs_cn P a2 lo = zs_cn P a lo := zs_cn_congr (fun j q => ha j (Or.inl q))
  have e3 := hw.2 P
  have e4 := hw.low (Nat.le_refl _) P
  have e5 := zs_cn_seg (P := P) hl he
  omega
theorem zs_cpy_end {a w w2 a2 : Nat → Int64} {lo hi : Nat} (hl : lo ≤ hi) (he : ∀ j, lo ≤ j → j < hi → w j = a j) (hw : zs_pm w w2 lo hi) (ha : ∀ j, (j < lo ∨ hi ≤ j) → a2 j = a j) (hs : zs_srt w2 lo hi) : zs_pm a (va_cpy w2 a2 lo lo (hi - lo)) lo hi ∧ zs_srt (va_cpy w2 a2 lo lo (hi - lo)) lo hi := by
  have hin : ∀ j, lo ≤ j → j < hi → va_cpy w2 a2 lo lo (hi - lo) j = w2 j := fun j x y => by
    rw [pk_cpy_in x (by omega)]
    congr 1
    omega
  have hout : ∀ j, (j < lo ∨ hi ≤ j) → va_cpy w2 a2 lo lo (hi - lo) j = a j := fun j x => by
    rw [pk_cpy_out (by omega)]
    exact ha j x
  refine ⟨⟨hout, fun P => ?_⟩, fun i j x y z => ?_⟩
  · have e1 := zs_cn_seg (P := P) hl hin
    have e2 : zs_cn P (va_cpy w2 a2 lo lo (hi - lo)) lo = zs_cn P a lo := zs_cn_congr (fun j q => hout j (Or.inl q))
    have e3 := hw.2 P
    have e4 := hw.low (Nat.le_refl _) P
    have e5 := zs_cn_seg (P := P) hl he
    omega
  · rw [hin i x (by omega), hin j (by omega) z]
    exact hs i j x y z
end
section
/-! PURE: quick sort (three zones), the exchange of two blocks, binary search. In zs_qI c and d are one more than the program's c and d -/
def zs_qI (f g : Nat → Int64) (v : Int64) (lo hi a b c d : Nat) : Prop := zs_pm f g lo hi ∧ (lo ≤ a ∧ a ≤ b ∧ b ≤ c ∧ c ≤ d ∧ d ≤ hi) ∧ (∀ j, lo ≤ j → j < a → g j = v) ∧ (∀ j, a ≤ j → j < b → (g j).toInt < v.toInt) ∧ (∀ j, c ≤ j → j < d → v.toInt < (g j).toInt) ∧ ∀ j, d ≤ j → j < hi → g j = v
theorem zs_q_0 {f : Nat → Int64} {v : Int64} {lo hi : Nat} (h : lo ≤ hi) : zs_qI f f v lo hi lo lo hi hi := by
  refine ⟨zs_pm.rf, by omega, fun j x y => ?_, fun j x y => ?_, fun j x y => ?_, fun j x y => ?_⟩ <;> omega
theorem zs_q_l0 {f g : Nat → Int64} {v : Int64} {lo hi a b c d : Nat} (h : zs_qI f g v lo hi a b c d) (hb : b < c) (hv : g b = v) : zs_qI f (zs_sw g a b) v lo hi (a + 1) (b + 1) c d := by
  obtain ⟨h1, h2, h3, h4, h5, h6⟩ := h
  refine ⟨h1.tr (zs_sw_pm (by omega) (by omega) (by omega) (by omega)), by omega, fun j x y => ?_, fun j x y => ?_, fun j x y => ?_, fun j x y => ?_⟩
  · by_cases e : j = a
    · rw [e, zs_sw_1]
      exact hv
    · rw [zs_sw_n e (by omega)]
      exact h3 j x (by omega)
  · by_cases e : j = b
    · rw [e, zs_sw_2]
      exact h4 a (Nat.le_refl _) (by omega)
    · rw [zs_sw_n (by omega) e]
      exact h4 j (by omega) (by omega)
  · rw [zs_sw_n (by omega) (by omega)]
    exact h5 j x y
  · rw [zs_sw_n (by omega) (by omega)]
    exact h6 j x y
theorem zs_q_l1 {f g : Nat → Int64} {v : Int64} {lo hi a b c d : Nat} (h : zs_qI f g v lo hi a b c d) (hb : b < c) (hv : (g b).toInt < v.toInt) : zs_qI f g v lo hi a (b + 1) c d := by
  obtain ⟨h1, h2, h3, h4, h5, h6⟩ := h
  refine ⟨h1, by omega, h3, fun j x y => ?_, h5, h6⟩
  by_cases e : j = b
  · rw [e]
    exact hv
  · exact h4 j x (by omega)
theorem zs_q_r0 {f g : Nat → Int64} {v : Int64} {lo hi a b c d : Nat} (h : zs_qI f g v lo hi a b (c + 1) (d + 1)) (hb : b < c + 1) (hv : g c = v) : zs_qI f (zs_sw g c d) v lo hi a b c d := by
  obtain ⟨h1, h2, h3, h4, h5, h6⟩ := h
  refine ⟨h1.tr (zs_sw_pm (by omega) (by omega) (by omega) (by omega)), by omega, fun j x y => ?_, fun j x y => ?_, fun j x y => ?_, fun j x y => ?_⟩
  · rw [zs_sw_n (by omega) (by omega)]
    exact h3 j x y
  · rw [zs_sw_n (by omega) (by omega)]
    exact h4 j x y
  · by_cases e : j = c
    · rw [e, zs_sw_1]
      exact h5 d (by omega) (by omega)
    · rw [zs_sw_n e (by omega)]
      exact h5 j (by omega) (by omega)
  · by_cases e : j = d
    · rw [e, zs_sw_2]
      exact hv
    · rw [zs_sw_n (by omega) e]
      exact h6 j (by omega) y
theorem zs_q_r1 {f g : Nat → Int64} {v : Int64} {lo hi a b c d : Nat} (h : zs_qI f g v lo hi a b (c + 1) d) (hb : b < c + 1) (hv : v.toInt < (g c).toInt) : zs_qI f g v lo hi a b c d := by
  obtain ⟨h1, h2, h3, h4, h5, h6⟩ := h
  refine ⟨h1, by omega, h3, h4, fun j x y => ?_, h6⟩
  by_cases e : j = c
  · rw [e]
    exact hv
  · exact h5 j (by omega) y
theorem zs_q_x {f g : Nat → Int64} {v : Int64} {lo hi a b c d : Nat} (h : zs_qI f g v lo hi a b (c + 1) d) (hb : b < c + 1) (hv : v.toInt < (g b).toInt) (hv2 : (g c).toInt < v.toInt) : zs_qI f (zs_sw g b c) v lo hi a (b + 1) c d := by
  obtain ⟨h1, h2, h3, h4, h5, h6⟩ := h
  have hne : b ≠ c := fun e => by
    subst e
    omega
  refine ⟨h1.tr (zs_sw_pm (by omega) (by omega) (by omega) (by omega)), by omega, fun j x y => ?_, fun j x y => ?_, fun j x y => ?_, fun j x y => ?_⟩
  · rw [zs_sw_n (by omega) (by omega)]
    exact h3 j x y
  · by_cases e : j = b
    · rw [e, zs_sw_1]
      exact hv2
    · rw [zs_sw_n e (by omega)]
      exact h4 j x (by omega)
  · by_cases e : j = c
    · rw [e, zs_sw_2]
      exact hv
    · rw [zs_sw_n (by omega) e]
      exact h5 j (by omega) y
  · rw [zs_sw_n (by omega) (by omega)]
    exact h6 j x y
/-! the exchange of the n places from a with the n places from b -/
def zs_vs (f g : Nat → Int64) (a b n : Nat) : Prop := (∀ j, a ≤ j → j < a + n → g j = f (j - a + b)) ∧ (∀ j, b ≤ j → j < b + n → g j = f (j - b + a)) ∧ (∀ j, ¬ (a ≤ j ∧ j < a + n) → ¬ (b ≤ j ∧ j < b + n) → g j = f j) ∧ ∀ lo hi, lo ≤ a → a + n ≤ hi → lo ≤ b → b + n ≤ hi → zs_pm f g lo hi
theorem zs_vs_0 {f : Nat → Int64} {a b : Nat} : zs_vs f f a b 0 := by
  refine ⟨fun j x y => ?_, fun j x y => ?_, fun _ _ _ => rfl, fun _ _ _ _ _ _ => zs_pm.rf⟩ <;> omega
theorem zs_vs_s {f g : Nat → Int64} {a b n : Nat} (h : zs_vs f g a b n) (hn : a + n < b) : zs_vs f (zs_sw g (a + n) (b + n)) a b (n + 1) := by
  obtain ⟨h1, h2, h3, h4⟩ := h
  have ea : g (a + n) = f (a + n) := h3 _ (by omega) (by omega)
  have eb : g (b + n) = f (b + n) := h3 _ (by omega) (by omega)
  refine ⟨fun j x y => ?_, fun j x y => ?_, fun j x y => ?_, fun lo hi x1 x2 x3 x4 => ?_⟩
  · by_cases e : j = a + n
    · rw [e, zs_sw_1, eb]
      congr 1
      omega
    · rw [zs_sw_n e (by omega)]
      exact h1 j x (by omega)
  · by_cases e : j = b + n
    · rw [e, zs_sw_2, ea]
      congr 1
      omega
    · rw [zs_sw_n (by omega) e]
      exact h2 j x (by omega)
  · rw [zs_sw_n (by omega) (by omega)]
    exact h3 j (by omega) (by omega)
  · exact (h4 lo hi x1 (by omega) x3 (by omega)).tr (zs_sw_pm (by omega) (by omega) (by omega) (by omega))
/-- after both exchanges: less, equal, greater -/
theorem zs_q_fin {f g g1 g2 : Nat → Int64} {v : Int64} {lo hi a b d s1 s2 : Nat} (h : zs_qI f g v lo hi a b b d) (e1 : s1 ≤ a - lo ∧ s1 ≤ b - a ∧ (s1 = a - lo ∨ s1 = b - a)) (e2 : s2 ≤ d - b ∧ s2 ≤ hi - d ∧ (s2 = d - b ∨ s2 = hi - d)) (w1 : zs_vs g g1 lo (b - s1) s1) (w2 : zs_vs g1 g2 b (hi - s2) s2) : zs_pm f g2 lo hi ∧ (∀ j, lo ≤ j → j < lo + (b - a) → (g2 j).toInt < v.toInt) ∧ (∀ j, lo + (b - a) ≤ j → j < hi - (d - b) → g2 j = v) ∧ ∀ j, hi - (d - b) ≤ j → j < hi → v.toInt < (g2 j).toInt := by
  obtain ⟨h1, h2, h3, h4, h5, h6⟩ := h
  obtain ⟨u1, u2, u3, u4⟩ := w1
  obtain ⟨t1, t2, t3, t4⟩ := w2
  refine ⟨(h1.tr (u4 lo hi (by omega) (by omega) (by omega) (by omega))).tr (t4 lo hi (by omega) (by omega) (by omega) (by omega)), fun j x y => ?_, fun j x y => ?_, fun j x y => ?_⟩
  · rw [t3 j (by omega) (by omega)]
    by_cases q : j < lo + s1
    · rw [u1 j x q]
      exact h4 _ (by omega) (by omega)
    · rw [u3 j (by omega) (by omega)]
      exact h4 _ (by omega) (by omega)
  · by_cases q : j < b
    · rw [t3 j (by omega) (by omega)]
      by_cases q2 : b - s1 ≤ j
      · rw [u2 j q2 (by omega)]
        exact h3 _ (by omega) (by omega)
      · rw [u3 j (by omega) (by omega)]
        exact h3 _ (by omega) (by omega)
    · by_cases q2 : j < b + s2
      · rw [t1 j (by omega) q2, u3 _ (by omega) (by omega)]
        exact h6 _ (by omega) (by omega)
      · rw [t3 j (by omega) (by omega), u3 _ (by omega) (by omega)]
        exact h6 _ (by omega) (by omega)
  · by_cases q : hi - s2 ≤ j
    · rw [t2 j q (by omega), u3 _ (by omega) (by omega)]
      exact h5 _ (by omega) (by omega)
    · rw [t3 j (by omega) (by omega), u3 _ (by omega) (by omega)]
      exact h5 _ (by omega) (by omega)
/-- one number is the pivot: both ends are shorter than the whole -/
theorem zs_q_len {f g : Nat → Int64} {v : Int64} {lo hi L K m : Nat} (h : zs_pm f g lo hi) (hm : lo ≤ m) (hm2 : m < hi) (hv : f m = v) (h1 : ∀ j, lo ≤ j → j < lo + L → (g j).toInt < v.toInt) (h3 : ∀ j, hi - K ≤ j → j < hi → v.toInt < (g j).toInt) : L + K < hi - lo := by
  obtain ⟨i, x, y, z⟩ := h.sm.any hm hm2
  rw [hv] at z
  rcases Nat.lt_or_ge i (lo + L) with q | q
  · have := h1 i x q
    rw [z] at this
    omega
  · rcases Nat.lt_or_ge i (hi - K) with q2 | q2
    · omega
    · have := h3 i q2 y
      rw [z] at this
      omega
theorem zs_srt_1 {f : Nat → Int64} {lo hi : Nat} (h : hi ≤ lo + 1) : zs_srt f lo hi := by
  intro i j a b c
  omega
/-- both ends sorted: all sorted -/
theorem zs_q_end {f g2 g3 g4 : Nat → Int64} {v : Int64} {lo hi L K : Nat} (hL : L + K ≤ hi - lo) (hlh : lo ≤ hi) (h : zs_pm f g2 lo hi) (z1 : ∀ j, lo ≤ j → j < lo + L → (g2 j).toInt < v.toInt) (z2 : ∀ j, lo + L ≤ j → j < hi - K → g2 j = v) (z3 : ∀ j, hi - K ≤ j → j < hi → v.toInt < (g2 j).toInt) (p3 : zs_pm g2 g3 lo (lo + L)) (s3 : zs_srt g3 lo (lo + L)) (p4 : zs_pm g3 g4 (hi - K) hi) (s4 : zs_srt g4 (hi - K) hi) : zs_pm f g4 lo hi ∧ zs_srt g4 lo hi := by
  have y1 : ∀ j, lo ≤ j → j < lo + L → (g4 j).toInt < v.toInt := fun j a b => by
    rw [p4.1 j (by omega)]
    exact p3.all (T := fun u => u.toInt < v.toInt) z1 j a b
  have y2 : ∀ j, lo + L ≤ j → j < hi - K → g4 j = v := fun j a b => by
    rw [p4.1 j (by omega), p3.1 j (by omega)]
    exact z2 j a b
  have y3 : ∀ j, hi - K ≤ j → j < hi → v.toInt < (g4 j).toInt := fun j a b => by
    refine p4.all (T := fun u => v.toInt < u.toInt) (fun i c d => ?_) j a b
    rw [p3.1 i (by omega)]
    exact z3 i c d
  refine ⟨(h.tr (p3.wide (by omega) (by omega))).tr (p4.wide (by omega) (by omega)), fun i j a b c => ?_⟩
  rcases Nat.lt_or_ge j (lo + L) with q | q
  · rw [p4.1 i (by omega), p4.1 j (by omega)]
    exact s3 i j a b q
  · rcases Nat.lt_or_ge i (hi - K) with q2 | q2
    · have e1 : (g4 i).toInt ≤ v.toInt := by
        rcases Nat.lt_or_ge i (lo + L) with w | w
        · have := y1 i a w
          omega
        · rw [y2 i w q2]
          exact Int.le_refl _
      have e2 : v.toInt ≤ (g4 j).toInt := by
        rcases Nat.lt_or_ge j (hi - K) with w | w
        · rw [y2 j q w]
          exact Int.le_refl _
        · have := y3 j w c
          omega
      omega
    · exact s4 i j q2 b c
/-! binary search: lo, hi the range still open -/
def zs_bs (f : Nat → Int64) (key : Int64) (n lo hi : Nat) : Prop := lo ≤ hi ∧ hi ≤ n ∧ (∀ j, j < lo → (f j).toInt < key.toInt) ∧ ∀ j, hi ≤ j → j < n → key.toInt < (f j).toInt
theorem zs_bs_0 {f : Nat → Int64} {key : Int64} {n : Nat} : zs_bs f key n 0 n := by
  refine ⟨Nat.zero_le _, Nat.le_refl _, fun j x => ?_, fun j x y => ?_⟩ <;> omega
theorem zs_bs_l {f : Nat → Int64} {key : Int64} {n lo hi m : Nat} (h : zs_bs f key n lo hi) (hs : zs_srt f 0 n) (h1 : lo ≤ m) (h2 : m < hi) (h3 : (f m).toInt < key.toInt) : zs_bs f key n (m + 1) hi := by
  obtain ⟨a, b, c, d⟩ := h
  refine ⟨by omega, b, fun j x => ?_, d⟩
  rcases (show j = m ∨ j < m by omega) with e | e
  · rw [e]
    exact h3
  · have := hs j m (Nat.zero_le _) e (by omega)
    omega
theorem zs_bs_r {f : Nat → Int64} {key : Int64} {n lo hi m : Nat} (h : zs_bs f key n lo hi) (hs : zs_srt f 0 n) (h1 : lo ≤ m) (h2 : m < hi) (h3 : key.toInt < (f m).toInt) : zs_bs f key n lo m := by
  obtain ⟨a, b, c, d⟩ := h
  refine ⟨h1, by omega, c, fun j x y => ?_⟩
  rcases (show m = j ∨ m < j by omega) with e | e
  · rw [← e]
    exact h3
  · have := hs m j (Nat.zero_le _) e y
    omega
end
section
/-! ROWS of this claim: ints by their whole numbers (zi), one world of long arrays, int arrays and desks (zW), contracts in one form, calls in one row -/
set_option maxRecDepth 100000
def zi (z : Int) : Int32 := Int32.ofInt z
theorem zi_nI (n : Nat) : nI n = zi n := Int32.ofInt_eq_ofNat.symm
theorem zi_toInt {z : Int} (h : -2147483648 ≤ z ∧ z < 2147483648) : (zi z).toInt = z := Int32.toInt_ofInt_of_le (by omega) (by omega)
theorem zi_self (x : Int32) : zi x.toInt = x := Int32.ofInt_toInt x
theorem zi_leI {a b : Int} (ha : -2147483648 ≤ a ∧ a < 2147483648) (hb : -2147483648 ≤ b ∧ b < 2147483648) : zi a ≤ zi b ↔ a ≤ b := by rw [Int32.le_iff_toInt_le, zi_toInt ha, zi_toInt hb]
theorem zi_ltI {a b : Int} (ha : -2147483648 ≤ a ∧ a < 2147483648) (hb : -2147483648 ≤ b ∧ b < 2147483648) : zi a < zi b ↔ a < b := by rw [Int32.lt_iff_toInt_lt, zi_toInt ha, zi_toInt hb]
theorem zi_eqI {a b : Int} (ha : -2147483648 ≤ a ∧ a < 2147483648) (hb : -2147483648 ≤ b ∧ b < 2147483648) : zi a = zi b ↔ a = b := by rw [← Int32.toInt_inj, zi_toInt ha, zi_toInt hb]
theorem zi_0 : (0 : Int32) = zi 0 := rfl
theorem zi_cl {z : Int} {k : Nat} (hk : z = (k : Int)) (hn : k < 2147483648) : (zi z).toNatClampNeg = k := by
  have h := Int32.toNatClampNeg_ofInt_of_le (n := z) (by omega) (by omega)
  show (Int32.ofInt z).toNatClampNeg = k
  rw [h, hk]
  exact Int.toNat_natCast k
theorem zi_in {z : Int} {n k : Nat} (hk : z = (k : Int)) (hkn : k < n) (hn : n < 2147483648) : vp_in (zi z) n := vp_in_iff.mpr (by rw [zi_toInt (by omega)]; omega)
/-- Long.compare, and lcmp -/
def zcz (x y : Int64) : Int := if x.toInt < y.toInt then -1 else if x.toInt = y.toInt then 0 else 1
theorem zcz_spec (x y : Int64) : (x.toInt < y.toInt ∧ zcz x y = -1) ∨ (x.toInt = y.toInt ∧ zcz x y = 0) ∨ (y.toInt < x.toInt ∧ zcz x y = 1) := by
  unfold zcz
  split
  · omega
  · split <;> omega
theorem zcz_cmp (x y : Int64) : lg_cmp x y = zi (zcz x y) := by
  unfold lg_cmp zcz
  by_cases h1 : y < x
  · have h2 := Int64.lt_iff_toInt_lt.mp h1
    rw [if_pos (show x > y from h1), if_neg (by omega), if_neg (by omega)]
    rfl
  · have h2 : ¬ y.toInt < x.toInt := fun h => h1 (Int64.lt_iff_toInt_lt.mpr h)
    rw [if_neg (show ¬ x > y from h1)]
    by_cases h3 : x = y
    · rw [if_pos h3, if_neg (by rw [h3]; omega), if_pos (by rw [h3])]
      rfl
    · have h4 : ¬ x.toInt = y.toInt := fun h => h3 (Int64.toInt_inj.mp h)
      rw [if_neg h3, if_pos (by omega)]
      rfl
/-- the lowest 31 bits -/
def zlo (x : Int32) : Nat := x.toBitVec.toNat % 2147483648
theorem zlo_lt (x : Int32) : zlo x < 2147483648 := Nat.mod_lt _ (by decide)
theorem zlo_and (x : Int32) : x &&& 2147483647 = zi ((zlo x : Nat) : Int) := (pk_and x 31 (by decide)).trans (zi_nI _)
def zup (F : Nat → Int) (k : Nat) (v : Int) : Nat → Int := fun j => if j = k then v else F j
theorem zup_s {F : Nat → Int} {k : Nat} {v : Int} : zup F k v k = v := if_pos rfl
theorem zup_n {F : Nat → Int} {k j : Nat} {v : Int} (h : j ≠ k) : zup F k v j = F j := if_neg h
/-! the world -/
abbrev zCl : List vw_C := [(RX1, TX1, 2)]
abbrev zTy (dJ dI : ClassId) : List (ClassId × FieldType) := [(dJ, .long), (dI, .int)]
/-- a long array, an int array (its numbers as Ints, or raw), a desk -/
abbrev zL (a : Nat) (dJ : ClassId) (n : Nat) (f : Nat → Int64) : Nat × va_E := (a, .inl (dJ, n, .inr (.inl f)))
abbrev zR (a : Nat) (dI : ClassId) (n : Nat) (f : Nat → Int32) : Nat × va_E := (a, .inl (dI, n, .inl f))
abbrev zN (a : Nat) (dI : ClassId) (n : Nat) (F : Nat → Int) : Nat × va_E := (a, .inl (dI, n, .inl (fun j => zi (F j))))
abbrev zO (o r : Nat) (v : Int) : Nat × va_E := (o, .inr (0, [.ref r, .int (zi v)]))
def zW (D : va_G) (dJ dI : ClassId) (A : Nat → Prop) (s : State) (ws : va_W) (H : Heap) (locs : List Loc) : Prop := va_K D zCl (zTy dJ dI) s ∧ va_P D zCl ws H ∧ va_D A ws ∧ va_S A s.heap H locs ∧ ∀ q, s.heap.size ≤ q → A q
theorem zP_sub {D : va_G} {cl : List vw_C} {ws ws' : va_W} {H : Heap} (h : va_P D cl ws H) (is : List Nat) (hs : is.map (fun i => ws[i]?) = ws'.map some) : va_P D cl ws' H := by
  intro k q hq
  have h1 : (is.map (fun i => ws[i]?))[k]? = some (some q) := by rw [hs, List.getElem?_map, hq]; rfl
  rw [List.getElem?_map] at h1
  cases hi : is[k]? with
  | none => rw [hi] at h1; cases h1
  | some i => rw [hi] at h1; exact h i q (Option.some.inj h1)
theorem zW_re {D : va_G} {dJ dI : ClassId} {A : Nat → Prop} {s : State} {ws ws' : va_W} {H : Heap} {locs : List Loc} (h : zW D dJ dI A s ws H locs) (is : List Nat) (hn : va_nd is = true) (hs : is.map (fun i => ws[i]?) = ws'.map some) : zW D dJ dI A s ws' H locs := ⟨h.1, zP_sub h.2.1 is hs, h.2.2.1.sub is hn hs, h.2.2.2.1, h.2.2.2.2⟩
section ZR
variable {p : Program} {l : Launch} {e : Env} {R : Room} {s : State} {m : MethodId} {args : Array Value} {below : List Frame} {meth : Method} {c : Code} {H : Heap} {locs : List Loc} {cells slots : Nat} {Q : State → Prop}
variable {cc : ByteArray} {pc : Nat} {ls : Array Slot} {rest : List Value} {D : va_G} {dJ dI : ClassId} {A : Nat → Prop} {ws : va_W}
theorem zi_const {n : Int} (hx : p.tables.exec = Jvm.exec) (hb : c.code = cc) (d : decode cc pc = .ok (.iconst n, 1)) (k : W p l e R s m args below meth c H locs cells slots Q (F0 m (pc + 1) ls (.int (zi n) :: rest))) : W p l e R s m args below meth c H locs cells slots Q (F0 m pc ls rest) := lv_iconst hx hb d rfl k
theorem zi_add {x y r : Int} (hx : p.tables.exec = Jvm.exec) (hb : c.code = cc) (d : decode cc pc = .ok (.iadd, 1)) (hr : x + y = r) (k : W p l e R s m args below meth c H locs cells slots Q (F0 m (pc + 1) ls (.int (zi r) :: rest))) : W p l e R s m args below meth c H locs cells slots Q (F0 m pc ls (.int (zi y) :: .int (zi x) :: rest)) := by
  subst hr
  refine lv_iadd hx hb d ?_
  rw [show zi x + zi y = zi (x + y) from (Int32.ofInt_add x y).symm]
  exact k
theorem zi_sub {x y r : Int} (hx : p.tables.exec = Jvm.exec) (hb : c.code = cc) (d : decode cc pc = .ok (.isub, 1)) (hr : x - y = r) (k : W p l e R s m args below meth c H locs cells slots Q (F0 m (pc + 1) ls (.int (zi r) :: rest))) : W p l e R s m args below meth c H locs cells slots Q (F0 m pc ls (.int (zi y) :: .int (zi x) :: rest)) := by
  subst hr
  refine lv_isub hx hb d ?_
  rw [show zi x - zi y = zi (x - y) from (Int32.ofInt_sub x y).symm]
  exact k
theorem zi_mul {x y r : Int} (hx : p.tables.exec = Jvm.exec) (hb : c.code = cc) (d : decode cc pc = .ok (.imul, 1)) (hr : x * y = r) (k : W p l e R s m args below meth c H locs cells slots Q (F0 m (pc + 1) ls (.int (zi r) :: rest))) : W p l e R s m args below meth c H locs cells slots Q (F0 m pc ls (.int (zi y) :: .int (zi x) :: rest)) := by
  subst hr
  refine lv_imul hx hb d ?_
  rw [show zi x * zi y = zi (x * y) from (Int32.ofInt_mul x y).symm]
  exact k
theorem zi_neg {x r : Int} (hx : p.tables.exec = Jvm.exec) (hb : c.code = cc) (d : decode cc pc = .ok (.ineg, 1)) (hr : -x = r) (k : W p l e R s m args below meth c H locs cells slots Q (F0 m (pc + 1) ls (.int (zi r) :: rest))) : W p l e R s m args below meth c H locs cells slots Q (F0 m pc ls (.int (zi x) :: rest)) := by
  subst hr
  refine lv_ineg hx hb d ?_
  rw [show -zi x = zi (-x) from (Int32.ofInt_neg x).symm]
  exact k
theorem zi_divN {x y : Int} {a b : Nat} (hx : p.tables.exec = Jvm.exec) (hb : c.code = cc) (d : decode cc pc = .ok (.idiv, 1)) (hxa : x = (a : Int)) (hyb : y = (b : Int)) (ha : a < 2147483648) (hb0 : 0 < b) (hb1 : b < 2147483648) (k : W p l e R s m args below meth c H locs cells slots Q (F0 m (pc + 1) ls (.int (zi ((a / b : Nat) : Int)) :: rest))) : W p l e R s m args below meth c H locs cells slots Q (F0 m pc ls (.int (zi y) :: .int (zi x) :: rest)) := by
  subst hxa
  subst hyb
  rw [← zi_nI, ← zi_nI]
  refine lv_idiv hx hb d (nI_ne0 hb0 hb1) ?_
  rw [pk_div ha hb0 hb1, zi_nI]
  exact k
theorem zi_remN {x y : Int} {a b : Nat} (hx : p.tables.exec = Jvm.exec) (hb : c.code = cc) (d : decode cc pc = .ok (.irem, 1)) (hxa : x = (a : Int)) (hyb : y = (b : Int)) (ha : a < 2147483648) (hb0 : 0 < b) (hb1 : b < 2147483648) (k : W p l e R s m args below meth c H locs cells slots Q (F0 m (pc + 1) ls (.int (zi ((a % b : Nat) : Int)) :: rest))) : W p l e R s m args below meth c H locs cells slots Q (F0 m pc ls (.int (zi y) :: .int (zi x) :: rest)) := by
  subst hxa
  subst hyb
  rw [← zi_nI, ← zi_nI]
  refine lv_irem hx hb d (nI_ne0 hb0 hb1) ?_
  rw [pk_rem ha hb0 hb1, zi_nI]
  exact k
theorem zi_and {x : Int32} (hx : p.tables.exec = Jvm.exec) (hb : c.code = cc) (d : decode cc pc = .ok (.iand, 1)) (k : W p l e R s m args below meth c H locs cells slots Q (F0 m (pc + 1) ls (.int (zi ((zlo x : Nat) : Int)) :: rest))) : W p l e R s m args below meth c H locs cells slots Q (F0 m pc ls (.int 2147483647 :: .int x :: rest)) := by
  refine lv_iand hx hb d ?_
  rw [zlo_and]
  exact k
theorem zi_shr1 {x : Int} {a : Nat} (hx : p.tables.exec = Jvm.exec) (hb : c.code = cc) (d : decode cc pc = .ok (.iushr, 1)) (hxa : x = (a : Int)) (ha : a < 2147483648) (k : W p l e R s m args below meth c H locs cells slots Q (F0 m (pc + 1) ls (.int (zi ((a / 2 : Nat) : Int)) :: rest))) : W p l e R s m args below meth c H locs cells slots Q (F0 m pc ls (.int (zi 1) :: .int (zi x) :: rest)) := by
  subst hxa
  refine lv_iushr (v := zi ((a / 2 : Nat) : Int)) hx hb d ?_ k
  rw [← zi_nI, ← zi_nI]
  exact pk_ushrN (by omega) (zi 1) 1 (by decide)
theorem zi_inc {i nL k : Nat} {n x v : Int} {lv lv' : List (Nat × Value)} (hx : p.tables.exec = Jvm.exec) (hb : c.code = cc) (d : decode cc pc = .ok (.iinc i n, 3)) (h : lv_has ls nL lv) (hk : lv[k]? = some (i, .int (zi x))) (hv : x + n = v) (hn : i < nL) (hl : (i, Value.int (zi v)) :: lv.filter (fun q => !(q.1 == i) && !(q.1 + 1 == i && q.2.category == 2)) = lv') (kk : ∀ ls' : Array Slot, lv_has ls' nL lv' → W p l e R s m args below meth c H locs cells slots Q (F0 m (pc + 3) ls' rest)) : W p l e R s m args below meth c H locs cells slots Q (F0 m pc ls rest) := by
  subst hv
  exact lv_iinc (v := zi (x + n)) hx hb d h hk (Int32.ofInt_add x n).symm hn hl kk
theorem zi_icmp_eq {x y : Int} {off : Int} {tgt : Nat} (hx : p.tables.exec = Jvm.exec) (hb : c.code = cc) (d : decode cc pc = .ok (.if_icmp .eq off, 3)) (ht : (pc : Int) + off = (tgt : Int)) (h1 : -2147483648 ≤ x ∧ x < 2147483648) (h2 : -2147483648 ≤ y ∧ y < 2147483648) (kt : x = y → W p l e R s m args below meth c H locs cells slots Q (F0 m tgt ls rest)) (kf : x ≠ y → W p l e R s m args below meth c H locs cells slots Q (F0 m (pc + 3) ls rest)) : W p l e R s m args below meth c H locs cells slots Q (F0 m pc ls (.int (zi y) :: .int (zi x) :: rest)) := lv_icmp_eq hx hb d ht (fun q => kt ((zi_eqI h1 h2).mp q)) (fun q => kf (fun z => q ((zi_eqI h1 h2).mpr z)))
theorem zi_icmp_ne {x y : Int} {off : Int} {tgt : Nat} (hx : p.tables.exec = Jvm.exec) (hb : c.code = cc) (d : decode cc pc = .ok (.if_icmp .ne off, 3)) (ht : (pc : Int) + off = (tgt : Int)) (h1 : -2147483648 ≤ x ∧ x < 2147483648) (h2 : -2147483648 ≤ y ∧ y < 2147483648) (kt : x ≠ y → W p l e R s m args below meth c H locs cells slots Q (F0 m tgt ls rest)) (kf : x = y → W p l e R s m args below meth c H locs cells slots Q (F0 m (pc + 3) ls rest)) : W p l e R s m args below meth c H locs cells slots Q (F0 m pc ls (.int (zi y) :: .int (zi x) :: rest)) := lv_icmp_ne hx hb d ht (fun q => kt (fun z => q ((zi_eqI h1 h2).mpr z))) (fun q => kf ((zi_eqI h1 h2).mp q))
theorem zi_icmp_lt {x y : Int} {off : Int} {tgt : Nat} (hx : p.tables.exec = Jvm.exec) (hb : c.code = cc) (d : decode cc pc = .ok (.if_icmp .lt off, 3)) (ht : (pc : Int) + off = (tgt : Int)) (h1 : -2147483648 ≤ x ∧ x < 2147483648) (h2 : -2147483648 ≤ y ∧ y < 2147483648) (kt : x < y → W p l e R s m args below meth c H locs cells slots Q (F0 m tgt ls rest)) (kf : y ≤ x → W p l e R s m args below meth c H locs cells slots Q (F0 m (pc + 3) ls rest)) : W p l e R s m args below meth c H locs cells slots Q (F0 m pc ls (.int (zi y) :: .int (zi x) :: rest)) := lv_icmp_lt hx hb d ht (fun q => kt ((zi_ltI h1 h2).mp q)) (fun q => kf (Int.not_lt.mp (fun z => q ((zi_ltI h1 h2).mpr z))))
theorem zi_icmp_ge {x y : Int} {off : Int} {tgt : Nat} (hx : p.tables.exec = Jvm.exec) (hb : c.code = cc) (d : decode cc pc = .ok (.if_icmp .ge off, 3)) (ht : (pc : Int) + off = (tgt : Int)) (h1 : -2147483648 ≤ x ∧ x < 2147483648) (h2 : -2147483648 ≤ y ∧ y < 2147483648) (kt : y ≤ x → W p l e R s m args below meth c H locs cells slots Q (F0 m tgt ls rest)) (kf : x < y → W p l e R s m args below meth c H locs cells slots Q (F0 m (pc + 3) ls rest)) : W p l e R s m args below meth c H locs cells slots Q (F0 m pc ls (.int (zi y) :: .int (zi x) :: rest)) := lv_icmp_ge hx hb d ht (fun q => kt ((zi_leI h2 h1).mp q)) (fun q => kf (Int.not_le.mp (fun z => q ((zi_leI h2 h1).mpr z))))
theorem zi_icmp_gt {x y : Int} {off : Int} {tgt : Nat} (hx : p.tables.exec = Jvm.exec) (hb : c.code = cc) (d : decode cc pc = .ok (.if_icmp .gt off, 3)) (ht : (pc : Int) + off = (tgt : Int)) (h1 : -2147483648 ≤ x ∧ x < 2147483648) (h2 : -2147483648 ≤ y ∧ y < 2147483648) (kt : y < x → W p l e R s m args below meth c H locs cells slots Q (F0 m tgt ls rest)) (kf : x ≤ y → W p l e R s m args below meth c H locs cells slots Q (F0 m (pc + 3) ls rest)) : W p l e R s m args below meth c H locs cells slots Q (F0 m pc ls (.int (zi y) :: .int (zi x) :: rest)) := lv_icmp_gt hx hb d ht (fun q => kt ((zi_ltI h2 h1).mp q)) (fun q => kf (Int.not_lt.mp (fun z => q ((zi_ltI h2 h1).mpr z))))
theorem zi_icmp_le {x y : Int} {off : Int} {tgt : Nat} (hx : p.tables.exec = Jvm.exec) (hb : c.code = cc) (d : decode cc pc = .ok (.if_icmp .le off, 3)) (ht : (pc : Int) + off = (tgt : Int)) (h1 : -2147483648 ≤ x ∧ x < 2147483648) (h2 : -2147483648 ≤ y ∧ y < 2147483648) (kt : x ≤ y → W p l e R s m args below meth c H locs cells slots Q (F0 m tgt ls rest)) (kf : y < x → W p l e R s m args below meth c H locs cells slots Q (F0 m (pc + 3) ls rest)) : W p l e R s m args below meth c H locs cells slots Q (F0 m pc ls (.int (zi y) :: .int (zi x) :: rest)) := lv_icmp_le hx hb d ht (fun q => kt ((zi_leI h1 h2).mp q)) (fun q => kf (Int.not_le.mp (fun z => q ((zi_leI h1 h2).mpr z))))
theorem zi_if_eq {x : Int} {off : Int} {tgt : Nat} (hx : p.tables.exec = Jvm.exec) (hb : c.code = cc) (d : decode cc pc = .ok (.ifCond .eq off, 3)) (ht : (pc : Int) + off = (tgt : Int)) (h1 : -2147483648 ≤ x ∧ x < 2147483648) (kt : x = 0 → W p l e R s m args below meth c H locs cells slots Q (F0 m tgt ls rest)) (kf : x ≠ 0 → W p l e R s m args below meth c H locs cells slots Q (F0 m (pc + 3) ls rest)) : W p l e R s m args below meth c H locs cells slots Q (F0 m pc ls (.int (zi x) :: rest)) := lv_if_eq hx hb d ht (fun q => kt ((zi_eqI h1 (by decide)).mp q)) (fun q => kf (fun z => q ((zi_eqI h1 (by decide)).mpr z)))
theorem zi_if_ne {x : Int} {off : Int} {tgt : Nat} (hx : p.tables.exec = Jvm.exec) (hb : c.code = cc) (d : decode cc pc = .ok (.ifCond .ne off, 3)) (ht : (pc : Int) + off = (tgt : Int)) (h1 : -2147483648 ≤ x ∧ x < 2147483648) (kt : x ≠ 0 → W p l e R s m args below meth c H locs cells slots Q (F0 m tgt ls rest)) (kf : x = 0 → W p l e R s m args below meth c H locs cells slots Q (F0 m (pc + 3) ls rest)) : W p l e R s m args below meth c H locs cells slots Q (F0 m pc ls (.int (zi x) :: rest)) := lv_if_ne hx hb d ht (fun q => kt (fun z => q ((zi_eqI h1 (by decide)).mpr z))) (fun q => kf ((zi_eqI h1 (by decide)).mp q))
theorem zi_if_lt {x : Int} {off : Int} {tgt : Nat} (hx : p.tables.exec = Jvm.exec) (hb : c.code = cc) (d : decode cc pc = .ok (.ifCond .lt off, 3)) (ht : (pc : Int) + off = (tgt : Int)) (h1 : -2147483648 ≤ x ∧ x < 2147483648) (kt : x < 0 → W p l e R s m args below meth c H locs cells slots Q (F0 m tgt ls rest)) (kf : 0 ≤ x → W p l e R s m args below meth c H locs cells slots Q (F0 m (pc + 3) ls rest)) : W p l e R s m args below meth c H locs cells slots Q (F0 m pc ls (.int (zi x) :: rest)) := lv_if_lt hx hb d ht (fun q => kt ((zi_ltI h1 (by decide)).mp q)) (fun q => kf (Int.not_lt.mp (fun z => q ((zi_ltI h1 (by decide)).mpr z))))
theorem zi_if_ge {x : Int} {off : Int} {tgt : Nat} (hx : p.tables.exec = Jvm.exec) (hb : c.code = cc) (d : decode cc pc = .ok (.ifCond .ge off, 3)) (ht : (pc : Int) + off = (tgt : Int)) (h1 : -2147483648 ≤ x ∧ x < 2147483648) (kt : 0 ≤ x → W p l e R s m args below meth c H locs cells slots Q (F0 m tgt ls rest)) (kf : x < 0 → W p l e R s m args below meth c H locs cells slots Q (F0 m (pc + 3) ls rest)) : W p l e R s m args below meth c H locs cells slots Q (F0 m pc ls (.int (zi x) :: rest)) := lv_if_ge hx hb d ht (fun q => kt ((zi_leI (by decide) h1).mp q)) (fun q => kf (Int.not_le.mp (fun z => q ((zi_leI (by decide) h1).mpr z))))
theorem zi_if_gt {x : Int} {off : Int} {tgt : Nat} (hx : p.tables.exec = Jvm.exec) (hb : c.code = cc) (d : decode cc pc = .ok (.ifCond .gt off, 3)) (ht : (pc : Int) + off = (tgt : Int)) (h1 : -2147483648 ≤ x ∧ x < 2147483648) (kt : 0 < x → W p l e R s m args below meth c H locs cells slots Q (F0 m tgt ls rest)) (kf : x ≤ 0 → W p l e R s m args below meth c H locs cells slots Q (F0 m (pc + 3) ls rest)) : W p l e R s m args below meth c H locs cells slots Q (F0 m pc ls (.int (zi x) :: rest)) := lv_if_gt hx hb d ht (fun q => kt ((zi_ltI (by decide) h1).mp q)) (fun q => kf (Int.not_lt.mp (fun z => q ((zi_ltI (by decide) h1).mpr z))))
theorem zi_if_le {x : Int} {off : Int} {tgt : Nat} (hx : p.tables.exec = Jvm.exec) (hb : c.code = cc) (d : decode cc pc = .ok (.ifCond .le off, 3)) (ht : (pc : Int) + off = (tgt : Int)) (h1 : -2147483648 ≤ x ∧ x < 2147483648) (kt : x ≤ 0 → W p l e R s m args below meth c H locs cells slots Q (F0 m tgt ls rest)) (kf : 0 < x → W p l e R s m args below meth c H locs cells slots Q (F0 m (pc + 3) ls rest)) : W p l e R s m args below meth c H locs cells slots Q (F0 m pc ls (.int (zi x) :: rest)) := lv_if_le hx hb d ht (fun q => kt ((zi_leI h1 (by decide)).mp q)) (fun q => kf (Int.not_le.mp (fun z => q ((zi_leI h1 (by decide)).mpr z))))
theorem zl_cmp {x y : Int64} (hx : p.tables.exec = Jvm.exec) (hb : c.code = cc) (d : decode cc pc = .ok (.lcmp, 1)) (k : W p l e R s m args below meth c H locs cells slots Q (F0 m (pc + 1) ls (.int (zi (zcz x y)) :: rest))) : W p l e R s m args below meth c H locs cells slots Q (F0 m pc ls (.long y :: .long x :: rest)) := by
  refine W.lcmp hx hb d ?_
  rw [zcz_cmp]
  exact k
/-! arrays -/
theorem zl_ald {a n : Nat} {f : Nat → Int64} {z : Int} (hx : p.tables.exec = Jvm.exec) (hb : c.code = cc) (hw : zW D dJ dI A s ws H locs) (q0 k : Nat) (ha : ws[q0]? = some (zL a dJ n f)) (hk : z = (k : Int)) (hkn : k < n) (hn : n < 2147483648) (d : decode cc pc = .ok (.laload, 1)) (kk : W p l e R s m args below meth c H locs cells slots Q (F0 m (pc + 1) ls (.long (f k) :: rest))) : W p l e R s m args below meth c H locs cells slots Q (F0 m pc ls (.int (zi z) :: .ref a :: rest)) := by
  refine va_lald hx hb hw.1 hw.2.1 q0 0 ha rfl (zi_in hk hkn hn) d ?_
  rw [zi_cl hk (by omega)]
  exact kk
theorem zl_ast {a n : Nat} {f : Nat → Int64} {z : Int} {x : Int64} {ws' : va_W} (hx : p.tables.exec = Jvm.exec) (hb : c.code = cc) (hw : zW D dJ dI A s ws H locs) (q0 k : Nat) (ha : ws[q0]? = some (zL a dJ n f)) (hk : z = (k : Int)) (hkn : k < n) (hn : n < 2147483648) (d : decode cc pc = .ok (.lastore, 1)) (hws : ws.set q0 (zL a dJ n (vp_updL f k x)) = ws') (kk : ∀ (H1 : Heap) (locs1 : List Loc), zW D dJ dI A s ws' H1 locs1 → W p l e R s m args below meth c H1 locs1 cells slots Q (F0 m (pc + 1) ls rest)) : W p l e R s m args below meth c H locs cells slots Q (F0 m pc ls (.long x :: .int (zi z) :: .ref a :: rest)) := by
  subst hws
  refine va_last hx hb hw.1 hw.2.1 hw.2.2.1 hw.2.2.2.1 q0 0 ha rfl (zi_in hk hkn hn) d (fun H1 locs1 hP hD hS => ?_)
  rw [zi_cl hk (by omega)] at hP hD
  exact kk H1 locs1 ⟨hw.1, hP, hD, hS, hw.2.2.2.2⟩
theorem zr_ald {a n : Nat} {f : Nat → Int32} {z : Int} (hx : p.tables.exec = Jvm.exec) (hb : c.code = cc) (hw : zW D dJ dI A s ws H locs) (q0 k : Nat) (ha : ws[q0]? = some (zR a dI n f)) (hk : z = (k : Int)) (hkn : k < n) (hn : n < 2147483648) (d : decode cc pc = .ok (.iaload, 1)) (kk : W p l e R s m args below meth c H locs cells slots Q (F0 m (pc + 1) ls (.int (f k) :: rest))) : W p l e R s m args below meth c H locs cells slots Q (F0 m pc ls (.int (zi z) :: .ref a :: rest)) := by
  refine va_iald hx hb hw.1 hw.2.1 q0 1 ha rfl (zi_in hk hkn hn) d ?_
  rw [zi_cl hk (by omega)]
  exact kk
theorem zr_ast {a n : Nat} {f : Nat → Int32} {z : Int} {x : Int32} {ws' : va_W} (hx : p.tables.exec = Jvm.exec) (hb : c.code = cc) (hw : zW D dJ dI A s ws H locs) (q0 k : Nat) (ha : ws[q0]? = some (zR a dI n f)) (hk : z = (k : Int)) (hkn : k < n) (hn : n < 2147483648) (d : decode cc pc = .ok (.iastore, 1)) (hws : ws.set q0 (zR a dI n (upd f k x)) = ws') (kk : ∀ (H1 : Heap) (locs1 : List Loc), zW D dJ dI A s ws' H1 locs1 → W p l e R s m args below meth c H1 locs1 cells slots Q (F0 m (pc + 1) ls rest)) : W p l e R s m args below meth c H locs cells slots Q (F0 m pc ls (.int x :: .int (zi z) :: .ref a :: rest)) := by
  subst hws
  refine va_iast hx hb hw.1 hw.2.1 hw.2.2.1 hw.2.2.2.1 q0 1 ha rfl (zi_in hk hkn hn) d (fun H1 locs1 hP hD hS => ?_)
  rw [zi_cl hk (by omega)] at hP hD
  exact kk H1 locs1 ⟨hw.1, hP, hD, hS, hw.2.2.2.2⟩
theorem zn_ald {a n : Nat} {F : Nat → Int} {z : Int} (hx : p.tables.exec = Jvm.exec) (hb : c.code = cc) (hw : zW D dJ dI A s ws H locs) (q0 k : Nat) (ha : ws[q0]? = some (zN a dI n F)) (hk : z = (k : Int)) (hkn : k < n) (hn : n < 2147483648) (d : decode cc pc = .ok (.iaload, 1)) (kk : W p l e R s m args below meth c H locs cells slots Q (F0 m (pc + 1) ls (.int (zi (F k)) :: rest))) : W p l e R s m args below meth c H locs cells slots Q (F0 m pc ls (.int (zi z) :: .ref a :: rest)) := zr_ald hx hb hw q0 k ha hk hkn hn d kk
theorem zn_ast {a n : Nat} {F : Nat → Int} {z x : Int} {ws' : va_W} (hx : p.tables.exec = Jvm.exec) (hb : c.code = cc) (hw : zW D dJ dI A s ws H locs) (q0 k : Nat) (ha : ws[q0]? = some (zN a dI n F)) (hk : z = (k : Int)) (hkn : k < n) (hn : n < 2147483648) (d : decode cc pc = .ok (.iastore, 1)) (hws : ws.set q0 (zN a dI n (zup F k x)) = ws') (kk : ∀ (H1 : Heap) (locs1 : List Loc), zW D dJ dI A s ws' H1 locs1 → W p l e R s m args below meth c H1 locs1 cells slots Q (F0 m (pc + 1) ls rest)) : W p l e R s m args below meth c H locs cells slots Q (F0 m pc ls (.int (zi x) :: .int (zi z) :: .ref a :: rest)) := by
  refine zr_ast (ws' := ws') hx hb hw q0 k ha hk hkn hn d ?_ kk
  rw [← hws]
  congr 1
  show ((a, .inl (dI, n, .inl (upd (fun j => zi (F j)) k (zi x)))) : Nat × va_E) = (a, .inl (dI, n, .inl (fun j => zi (zup F k x j))))
  have e : upd (fun j => zi (F j)) k (zi x) = fun j => zi (zup F k x j) := by
    funext j
    by_cases h : j = k
    · subst h
      rw [pk_us, zup_s]
    · rw [pk_un h, zup_n h]
  rw [e]
theorem zl_alen {a n : Nat} {f : Nat → Int64} (hx : p.tables.exec = Jvm.exec) (hb : c.code = cc) (hw : zW D dJ dI A s ws H locs) (q0 : Nat) (ha : ws[q0]? = some (zL a dJ n f)) (d : decode cc pc = .ok (.arraylength, 1)) (kk : W p l e R s m args below meth c H locs cells slots Q (F0 m (pc + 1) ls (.int (zi (n : Int)) :: rest))) : W p l e R s m args below meth c H locs cells slots Q (F0 m pc ls (.ref a :: rest)) := va_alen (v := zi (n : Int)) hx hb hw.1 hw.2.1 q0 0 ha rfl (zi_nI n) d kk
/-- a new array: its class is the one known -/
theorem zW_fd {D : va_G} {dJ dI : ClassId} {s : State} (h : va_K D zCl (zTy dJ dI) s) : s.vm.findClass ("[" ++ FieldType.long.toString) = some dJ ∧ s.vm.findClass ("[" ++ FieldType.int.toString) = some dI := ⟨(h.2 0 _ rfl).2, (h.2 1 _ rfl).2⟩
theorem zl_new {z : Int} {k : Nat} {rs : List Value} (hx : p.tables.exec = Jvm.exec) (hb : c.code = cc) (hts : ∀ w ∈ lw_all, w.before args s = true) (hw : zW D dJ dI A s ws H locs) (hk : z = (k : Int)) (hkn : k < 2000000) (hcells : cells + 1 ≤ R.cells) (hslots : slots + k ≤ R.slots) (d : decode cc pc = .ok (.newarray .long, 2)) (kk : ∀ (q : Nat) (H1 : Heap), zW D dJ dI A s (ws ++ [zL q dJ k (fun _ => 0)]) H1 locs → W p l e R s m args below meth c H1 locs (cells + 1) (slots + k) Q (F0 m (pc + 2) ls (.ref q :: rs))) : W p l e R s m args below meth c H locs cells slots Q (F0 m pc ls (.int (zi z) :: rs)) := by
  refine va_newa (atype := .long) (ty := .long) (N' := k) (a0 := (k, .inr (.inl (fun _ => 0)))) hx hb (hts _ q74) rfl hw.1 hw.2.1 hw.2.2.1 hw.2.2.2.1 hw.2.2.2.2 (fun _ => rfl) ?_ (zi_cl hk (by omega)) (by show k * 8 ≤ 536870912; omega) hcells hslots d (fun q cA H1 hK hP hD hS => ?_)
  · rw [Int32.lt_iff_toInt_lt, zi_toInt (by omega), Int32.toInt_zero]
    omega
  · have e1 : s.vm.findClass ("[" ++ FieldType.long.toString) = some cA := (hK.2 2 _ rfl).2
    have e2 : dJ = cA := Option.some.inj ((zW_fd hw.1).1.symm.trans e1)
    subst e2
    exact kk q H1 ⟨hw.1, hP, hD, hS, hw.2.2.2.2⟩
theorem zn_new {z : Int} {k : Nat} {rs : List Value} (hx : p.tables.exec = Jvm.exec) (hb : c.code = cc) (hts : ∀ w ∈ lw_all, w.before args s = true) (hw : zW D dJ dI A s ws H locs) (hk : z = (k : Int)) (hkn : k < 2000000) (hcells : cells + 1 ≤ R.cells) (hslots : slots + k ≤ R.slots) (d : decode cc pc = .ok (.newarray .int, 2)) (kk : ∀ (q : Nat) (H1 : Heap), zW D dJ dI A s (ws ++ [zN q dI k (fun _ => 0)]) H1 locs → W p l e R s m args below meth c H1 locs (cells + 1) (slots + k) Q (F0 m (pc + 2) ls (.ref q :: rs))) : W p l e R s m args below meth c H locs cells slots Q (F0 m pc ls (.int (zi z) :: rs)) := by
  refine va_newa (atype := .int) (ty := .int) (N' := k) (a0 := (k, .inl (fun _ => zi 0))) hx hb (hts _ q83) rfl hw.1 hw.2.1 hw.2.2.1 hw.2.2.2.1 hw.2.2.2.2 (fun _ => rfl) ?_ (zi_cl hk (by omega)) (by show k * 4 ≤ 536870912; omega) hcells hslots d (fun q cA H1 hK hP hD hS => ?_)
  · rw [Int32.lt_iff_toInt_lt, zi_toInt (by omega), Int32.toInt_zero]
    omega
  · have e1 : s.vm.findClass ("[" ++ FieldType.int.toString) = some cA := (hK.2 2 _ rfl).2
    have e2 : dI = cA := Option.some.inj ((zW_fd hw.1).2.symm.trans e1)
    subst e2
    exact kk q H1 ⟨hw.1, hP, hD, hS, hw.2.2.2.2⟩
end ZR
end
section
/-! CONTRACTS in one form (over the world zW), a method's entry, its ends, calls. win: the cells that the method is given; out u: what it leaves, by its answer's u -/
set_option maxRecDepth 100000
def zPre (D : va_G) (dJ dI : ClassId) (av : List Value) (win : va_W) (sz : Nat) : Array Value → State → Prop := va_Pc av (fun U => U.heap.size = sz ∧ va_P D zCl win U.heap ∧ va_K D zCl (zTy dJ dI) U ∧ va_D (fun _ => True) win)
/-- a method that is given the script (at b) and no other cell -/
def zPreX (D : va_G) (dJ dI : ClassId) (av : List Value) (b L : Nat) (xs : Nat → Int32) (sz : Nat) : Array Value → State → Prop := va_Pc av (fun U => U.heap.size = sz ∧ va_X b L xs U U.heap ∧ va_K D zCl (zTy dJ dI) U)
def zOut (D : va_G) (A : Nat → Prop) (out : va_W) : State → Prop := fun t => va_P D zCl out t.heap ∧ va_D A out
theorem zPre_blind {D : va_G} {dJ dI : ClassId} {av : List Value} {win : va_W} {sz : Nat} : FrameBlind (zPre D dJ dI av win sz) := fun a U g mk q => by
  obtain ⟨q0, q1, qP, qK, qD⟩ := q
  exact ⟨q0, q1, qP, va_K.moved (u := U) (U := U.calling g mk a) (Vm.Alike.refl U.vm) qK, qD⟩
theorem zPreX_blind {D : va_G} {dJ dI : ClassId} {av : List Value} {b L : Nat} {xs : Nat → Int32} {sz : Nat} : FrameBlind (zPreX D dJ dI av b L xs sz) := fun a U g mk q => by
  obtain ⟨q0, q1, qX, qK⟩ := q
  exact ⟨q0, q1, va_X.moved (u := U) (U := U.calling g mk a) (Vm.Alike.refl U.vm) qX, va_K.moved (u := U) (U := U.calling g mk a) (Vm.Alike.refl U.vm) qK⟩
/-- a method's contract out of the walk of its body -/
theorem z_met {l : Launch} {y : MethodName} {cc : ByteArray} {maxL mc ms : Nat} {ret : Option FieldType} {rm : Room} {D : va_G} {dJ dI : ClassId} {av : List Value} {win : va_W} {Qc : Nat → Array Value → State → Outcome → State → Prop} (hy : plainName y.cls = true) (hlen : (lg_sl av).length ≤ maxL)
    (body : ∀ (p : Program) (e : Env) (s : State) (m : MethodId) (below : List Frame) (meth : Method) (c : Code) (ls : Array Slot), CallFix p m c cc maxL s av.toArray lw_all y.cls → meth.sig.returnType = ret → meth.locks = false → meth.name = y.name → zW D dJ dI (va_A win s.heap.size) s win s.heap [] → lv_has ls maxL (lv_args 0 av) → W p l e rm s m av.toArray below meth c s.heap [] 0 0 (MQ below (Qc s.heap.size) av.toArray s mc ms (va_A win s.heap.size)) (F0 m 0 ls [])) :
    ∀ sz, Met l y (ws_ y cc maxL ret) rm (zPre D dJ dI av win sz) (Qc sz) mc ms (va_A win sz) := by
  intro sz
  refine Met.ofW (cc := cc) (maxL := maxL) (ret := ret) hy rfl ?_
  intro p e s m args below meth c s₁ B hml hv
  obtain ⟨rfl, hsz, hP, hK, hD0⟩ := hv
  have hts := atoms_spec (ws := ws_ y cc maxL ret) B.pre
  have hts : ∀ w ∈ lw_all, w.before _ s = true := fun w h => hts w (List.mem_cons_of_mem _ h)
  subst hsz
  have hD := hD0.self (sz := s.heap.size)
  rw [lg_entry_eq]
  exact body p e s m below meth c _ ⟨B.exec, B.bytes, hml, findClass_of_methodNamed B.named, hts⟩ B.returns B.notSynchronized (name_of_methodNamed B.named B.method).1 ⟨hK, hP, hD, va_S.rf, fun q h => Or.inr h⟩ (lv_entry av hlen)
theorem z_metX {l : Launch} {y : MethodName} {cc : ByteArray} {maxL mc ms : Nat} {ret : Option FieldType} {rm : Room} {D : va_G} {dJ dI : ClassId} {av : List Value} {b L : Nat} {xs : Nat → Int32} {Qc : Nat → Array Value → State → Outcome → State → Prop} (hy : plainName y.cls = true) (hlen : (lg_sl av).length ≤ maxL)
    (body : ∀ (p : Program) (e : Env) (s : State) (m : MethodId) (below : List Frame) (meth : Method) (c : Code) (ls : Array Slot), CallFix p m c cc maxL s av.toArray lw_all y.cls → meth.sig.returnType = ret → meth.locks = false → va_X b L xs s s.heap → b < s.heap.size → ¬ va_A [] s.heap.size b → zW D dJ dI (va_A [] s.heap.size) s [] s.heap [] → lv_has ls maxL (lv_args 0 av) → W p l e rm s m av.toArray below meth c s.heap [] 0 0 (MQ below (Qc s.heap.size) av.toArray s mc ms (va_A [] s.heap.size)) (F0 m 0 ls [])) :
    ∀ sz, Met l y (ws_ y cc maxL ret) rm (zPreX D dJ dI av b L xs sz) (Qc sz) mc ms (va_A [] sz) := by
  intro sz
  refine Met.ofW (cc := cc) (maxL := maxL) (ret := ret) hy rfl ?_
  intro p e s m args below meth c s₁ B hml hv
  obtain ⟨rfl, hsz, hX, hK⟩ := hv
  have hts := atoms_spec (ws := ws_ y cc maxL ret) B.pre
  have hts : ∀ w ∈ lw_all, w.before _ s = true := fun w h => hts w (List.mem_cons_of_mem _ h)
  subst hsz
  have hbl : b < s.heap.size := by
    obtain ⟨scr, h1, -⟩ := hX
    exact (Array.getElem?_eq_some_iff.mp h1).1
  have hbA : ¬ va_A [] s.heap.size b := by
    rintro (⟨k, e, h⟩ | h)
    · simp at h
    · omega
  rw [lg_entry_eq]
  exact body p e s m below meth c _ ⟨B.exec, B.bytes, hml, findClass_of_methodNamed B.named, hts⟩ B.returns B.notSynchronized hX hbl hbA ⟨hK, fun k q h => by simp at h, ⟨fun i j p q h => by simp at h, fun k q h => by simp at h⟩, va_S.rf, fun q h => Or.inr h⟩ (lv_entry av hlen)
section ZC
variable {p : Program} {l : Launch} {e : Env} {R : Room} {s : State} {m : MethodId} {args : Array Value} {below : List Frame} {meth : Method} {c : Code} {H : Heap} {locs : List Loc} {cells slots : Nat} {Q : State → Prop}
variable {cc : ByteArray} {pc : Nat} {ls : Array Slot} {rest : List Value} {D : va_G} {dJ dI : ClassId} {A : Nat → Prop} {ws : va_W}
/-! ends -/
theorem z_vret {S : Type} {post : S → Prop} {out : S → va_W} (hx : p.tables.exec = Jvm.exec) (hb : c.code = cc) (hr : meth.sig.returnType = none) (hlocks : meth.locks = false) (hw : zW D dJ dI A s ws H locs) (u : S) (is : List Nat) (hn : va_nd is = true) (hs : is.map (fun i => ws[i]?) = (out u).map some) (hp : post u) (d : decode cc pc = .ok (.return_, 1)) : W p l e R s m args below meth c H locs cells slots (MQ below (va_Qv post (fun u => zOut D A (out u)) A) args s cells slots A) (F0 m pc ls []) :=
  W.vret hx hb hr (fun t ht hW => ⟨⟨u, rfl, hp, by rw [ht]; exact zP_sub hw.2.1 is hs, hw.2.2.1.sub is hn hs⟩, hw.2.2.2.1.F ht⟩) hw.2.2.2.1.2.2 d hlocks
theorem z_iret {S : Type} {v : Int32} {post : Int32 → S → Prop} {out : S → va_W} (hx : p.tables.exec = Jvm.exec) (hb : c.code = cc) (hr : meth.sig.returnType = some .int) (hlocks : meth.locks = false) (hw : zW D dJ dI A s ws H locs) (u : S) (is : List Nat) (hn : va_nd is = true) (hs : is.map (fun i => ws[i]?) = (out u).map some) (hp : post v u) (d : decode cc pc = .ok (.ireturn, 1)) : W p l e R s m args below meth c H locs cells slots (MQ below (va_Qi post (fun u => zOut D A (out u)) A) args s cells slots A) (F0 m pc ls [.int v]) :=
  W.iret hx hb hr (fun t ht hW => ⟨⟨v, u, rfl, hp, by rw [ht]; exact zP_sub hw.2.1 is hs, hw.2.2.1.sub is hn hs⟩, hw.2.2.2.1.F ht⟩) hw.2.2.2.1.2.2 d hlocks
theorem z_lret {S : Type} {v : Int64} {post : Int64 → S → Prop} {out : S → va_W} (hx : p.tables.exec = Jvm.exec) (hb : c.code = cc) (hr : meth.sig.returnType = some .long) (hlocks : meth.locks = false) (hw : zW D dJ dI A s ws H locs) (u : S) (is : List Nat) (hn : va_nd is = true) (hs : is.map (fun i => ws[i]?) = (out u).map some) (hp : post v u) (d : decode cc pc = .ok (.lreturn, 1)) : W p l e R s m args below meth c H locs cells slots (MQ below (va_Ql post (fun u => zOut D A (out u)) A) args s cells slots A) (F0 m pc ls [.long v]) :=
  W.lret hx hb hr (fun t ht hW => ⟨⟨v, u, rfl, hp, by rw [ht]; exact zP_sub hw.2.1 is hs, hw.2.2.1.sub is hn hs⟩, hw.2.2.2.1.F ht⟩) hw.2.2.2.1.2.2 d hlocks
theorem z_zret {S : Type} {v : Int32} {post : Int32 → S → Prop} {out : S → va_W} (hx : p.tables.exec = Jvm.exec) (hb : c.code = cc) (hr : meth.sig.returnType = some .boolean) (hlocks : meth.locks = false) (hw : zW D dJ dI A s ws H locs) (u : S) (is : List Nat) (hn : va_nd is = true) (hs : is.map (fun i => ws[i]?) = (out u).map some) (hp : post v u) (hv : narrow .boolean (.int v) = .int v) (d : decode cc pc = .ok (.ireturn, 1)) : W p l e R s m args below meth c H locs cells slots (MQ below (va_Qi post (fun u => zOut D A (out u)) A) args s cells slots A) (F0 m pc ls [.int v]) :=
  W.zret hx hb hr hv (fun t ht hW => ⟨⟨v, u, rfl, hp, by rw [ht]; exact zP_sub hw.2.1 is hs, hw.2.2.1.sub is hn hs⟩, hw.2.2.2.1.F ht⟩) hw.2.2.2.1.2.2 d hlocks
theorem z_aret {S : Type} {v : Nat} {rt : FieldType} {post : S → Prop} {out : S → Nat → va_W} (hx : p.tables.exec = Jvm.exec) (hb : c.code = cc) (hr : meth.sig.returnType = some rt) (hrt : (∃ n, rt = .object n) ∨ ∃ t, rt = .array t) (hlocks : meth.locks = false) (hw : zW D dJ dI A s ws H locs) (u : S) (is : List Nat) (hn : va_nd is = true) (hs : is.map (fun i => ws[i]?) = (out u v).map some) (hp : post u) (d : decode cc pc = .ok (.areturn, 1)) : W p l e R s m args below meth c H locs cells slots (MQ below (va_Qr post (fun u a => zOut D A (out u a)) A) args s cells slots A) (F0 m pc ls [.ref v]) :=
  W.aret hx hb hr hrt (Or.inr ⟨v, rfl⟩) (fun t ht hW => ⟨⟨u, v, rfl, hp, by rw [ht]; exact zP_sub hw.2.1 is hs, hw.2.2.1.sub is hn hs⟩, hw.2.2.2.1.F ht⟩) hw.2.2.2.1.2.2 d hlocks
/-! calls: what the callee asks -/
theorem z_pre {av : List Value} {win : va_W} (hw : zW D dJ dI A s ws H locs) (isC : List Nat) (hn : va_nd isC = true) (hC : isC.map (fun i => ws[i]?) = win.map some) : PreS s H (zPre D dJ dI av win H.size) av := ⟨zPre_blind, fun U hU hW => ⟨rfl, by rw [hU], by rw [hU]; exact zP_sub hw.2.1 isC hC, va_K.moved hW.alike hw.1, (hw.2.2.1.sub isC hn hC).weaken (fun _ _ _ _ => trivial)⟩⟩
theorem z_preX {av : List Value} {b L : Nat} {xs : Nat → Int32} (hw : zW D dJ dI A s ws H locs) (hX : va_X b L xs s s.heap) (hbl : b < s.heap.size) (hbA : ¬ A b) : PreS s H (zPreX D dJ dI av b L xs H.size) av := ⟨zPreX_blind, fun U hU hW => ⟨rfl, by rw [hU], by rw [hU]; exact (hX.kept (hw.2.2.2.1.2.1 b hbl hbA)).moved hW.alike, va_K.moved hW.alike hw.1⟩⟩
/-- behind a call: the world joined again -/
theorem z_back {win wr out wo : va_W} {t : State} {H1 : Heap} {locs1 : List Loc} (hw : zW D dJ dI A s ws H locs) (isC isR : List Nat) (hC : isC.map (fun i => ws[i]?) = win.map some) (hR : isR.map (fun i => ws[i]?) = wr.map some) (hn : va_nd isR = true) (hdis : ∀ i ∈ isR, i ∉ isC) (is : List Nat) (hni : va_nd is = true) (ho : is.map (fun i => (wr ++ out)[i]?) = wo.map some) (ht : t.heap = H1) (hB : zOut D (va_A win H.size) out t) (hk : ∀ q : Nat, q < H.size → ¬ va_A win H.size q → H1[q]? = H[q]?) (hS : va_S A s.heap H1 locs1) : zW D dJ dI A s wo H1 locs1 := by
  have hF := va_free (wc := win) hw.2.2.1 hw.2.2.2.1 hw.2.2.2.2 isC hC
  obtain ⟨hP1, hD1⟩ := hB
  rw [ht] at hP1
  obtain ⟨hP, hD⟩ := va_join (wr := wr) (w1 := out) hw.2.1 hw.2.2.1 isC isR hC hR hn hdis hk hF hP1 hD1
  exact ⟨hw.1, zP_sub hP is ho, hD.sub is hni ho, hS, hw.2.2.2.2⟩
theorem z_callv {S : Type} {post : S → Prop} {win wr : va_W} {out wo : S → va_W} {st0 : List Value} {a : Array Value} {mc ms : Nat} (hr : va_Run p l e R s m args below meth c H locs cells slots mc ms (F0 m pc ls st0) rest (va_Qv post (fun u => zOut D (va_A win H.size) (out u)) (va_A win H.size) a) (va_A win H.size)) (hw : zW D dJ dI A s ws H locs) (isC isR : List Nat) (hC : isC.map (fun i => ws[i]?) = win.map some) (hR : isR.map (fun i => ws[i]?) = wr.map some) (hn : va_nd isR = true) (hdis : ∀ i ∈ isR, i ∉ isC) (is : List Nat) (hni : va_nd is = true) (ho : ∀ u, is.map (fun i => (wr ++ out u)[i]?) = (wo u).map some)
    (kk : ∀ (u : S) (H1 : Heap) (locs1 : List Loc), post u → zW D dJ dI A s (wo u) H1 locs1 → W p l e R s m args below meth c H1 locs1 (cells + mc) (slots + ms) Q (F0 m (pc + 3) ls rest)) : W p l e R s m args below meth c H locs cells slots Q (F0 m pc ls st0) := by
  have hF := va_free (wc := win) hw.2.2.1 hw.2.2.2.1 hw.2.2.2.2 isC hC
  refine va_callv hr hw.2.2.2.1 (fun q _ h => hF q h) hF (fun u t H1 locs1 ht hvm hp hB hz hk hS => ?_)
  exact kk u H1 locs1 hp (z_back hw isC isR hC hR hn hdis is hni (ho u) ht hB hk hS)
theorem z_calli {S : Type} {post : Int32 → S → Prop} {win wr : va_W} {out wo : S → va_W} {st0 : List Value} {a : Array Value} {mc ms : Nat} (hr : va_Run p l e R s m args below meth c H locs cells slots mc ms (F0 m pc ls st0) rest (va_Qi post (fun u => zOut D (va_A win H.size) (out u)) (va_A win H.size) a) (va_A win H.size)) (hw : zW D dJ dI A s ws H locs) (isC isR : List Nat) (hC : isC.map (fun i => ws[i]?) = win.map some) (hR : isR.map (fun i => ws[i]?) = wr.map some) (hn : va_nd isR = true) (hdis : ∀ i ∈ isR, i ∉ isC) (is : List Nat) (hni : va_nd is = true) (ho : ∀ u, is.map (fun i => (wr ++ out u)[i]?) = (wo u).map some)
    (kk : ∀ (r : Int32) (u : S) (H1 : Heap) (locs1 : List Loc), post r u → zW D dJ dI A s (wo u) H1 locs1 → W p l e R s m args below meth c H1 locs1 (cells + mc) (slots + ms) Q (F0 m (pc + 3) ls (.int r :: rest))) : W p l e R s m args below meth c H locs cells slots Q (F0 m pc ls st0) := by
  have hF := va_free (wc := win) hw.2.2.1 hw.2.2.2.1 hw.2.2.2.2 isC hC
  refine va_calli hr hw.2.2.2.1 (fun q _ h => hF q h) hF (fun r u t H1 locs1 ht hvm hp hB hz hk hS => ?_)
  exact kk r u H1 locs1 hp (z_back hw isC isR hC hR hn hdis is hni (ho u) ht hB hk hS)
theorem z_calll {S : Type} {post : Int64 → S → Prop} {win wr : va_W} {out wo : S → va_W} {st0 : List Value} {a : Array Value} {mc ms : Nat} (hr : va_Run p l e R s m args below meth c H locs cells slots mc ms (F0 m pc ls st0) rest (va_Ql post (fun u => zOut D (va_A win H.size) (out u)) (va_A win H.size) a) (va_A win H.size)) (hw : zW D dJ dI A s ws H locs) (isC isR : List Nat) (hC : isC.map (fun i => ws[i]?) = win.map some) (hR : isR.map (fun i => ws[i]?) = wr.map some) (hn : va_nd isR = true) (hdis : ∀ i ∈ isR, i ∉ isC) (is : List Nat) (hni : va_nd is = true) (ho : ∀ u, is.map (fun i => (wr ++ out u)[i]?) = (wo u).map some)
    (kk : ∀ (r : Int64) (u : S) (H1 : Heap) (locs1 : List Loc), post r u → zW D dJ dI A s (wo u) H1 locs1 → W p l e R s m args below meth c H1 locs1 (cells + mc) (slots + ms) Q (F0 m (pc + 3) ls (.long r :: rest))) : W p l e R s m args below meth c H locs cells slots Q (F0 m pc ls st0) := by
  have hF := va_free (wc := win) hw.2.2.1 hw.2.2.2.1 hw.2.2.2.2 isC hC
  refine va_calll hr hw.2.2.2.1 (fun q _ h => hF q h) hF (fun r u t H1 locs1 ht hvm hp hB hz hk hS => ?_)
  exact kk r u H1 locs1 hp (z_back hw isC isR hC hR hn hdis is hni (ho u) ht hB hk hS)
theorem z_callr {S : Type} {post : S → Prop} {win wr : va_W} {out wo : S → Nat → va_W} {st0 : List Value} {a : Array Value} {mc ms : Nat} (hr : va_Run p l e R s m args below meth c H locs cells slots mc ms (F0 m pc ls st0) rest (va_Qr post (fun u q => zOut D (va_A win H.size) (out u q)) (va_A win H.size) a) (va_A win H.size)) (hw : zW D dJ dI A s ws H locs) (isC isR : List Nat) (hC : isC.map (fun i => ws[i]?) = win.map some) (hR : isR.map (fun i => ws[i]?) = wr.map some) (hn : va_nd isR = true) (hdis : ∀ i ∈ isR, i ∉ isC) (is : List Nat) (hni : va_nd is = true) (ho : ∀ u q, is.map (fun i => (wr ++ out u q)[i]?) = (wo u q).map some)
    (kk : ∀ (u : S) (q : Nat) (H1 : Heap) (locs1 : List Loc), post u → zW D dJ dI A s (wo u q) H1 locs1 → W p l e R s m args below meth c H1 locs1 (cells + mc) (slots + ms) Q (F0 m (pc + 3) ls (.ref q :: rest))) : W p l e R s m args below meth c H locs cells slots Q (F0 m pc ls st0) := by
  have hF := va_free (wc := win) hw.2.2.1 hw.2.2.2.1 hw.2.2.2.2 isC hC
  refine va_callr hr hw.2.2.2.1 (fun q _ h => hF q h) hF (fun u ra t H1 locs1 ht hvm hp hB hz hk hS => ?_)
  exact kk u ra H1 locs1 hp (z_back hw isC isR hC hR hn hdis is hni (ho u ra) ht hB hk hS)
/-! calls: the run -/
theorem z_runS {y : MethodName} {bytes : ByteArray} {maxL nL mc ms n index : Nat} {ret : Option FieldType} {rm : Room} {own : String} {av : List Value} {win : va_W} {st0 : List Value} {Qc : Nat → Array Value → State → Outcome → State → Prop} (S : CallFix p m c cc nL s args lw_all own) (hM : ∀ sz, Met l y (ws_ y bytes maxL ret) rm (zPre D dJ dI av win sz) (Qc sz) mc ms (va_A win sz)) (hT : GoodIn lw_all (va_wsS own index y (ws_ y bytes maxL ret))) (hrc : rm.cells = mc) (hrs : rm.slots = ms) (hd : y.cls ≠ "java/lang/invoke/MethodHandle" ∧ y.cls ≠ "java/lang/invoke/VarHandle" ∧ (parseMethodDescriptor y.desc).map (fun d => d.parameters.length) = some n) (hR : rm.frames + 1 ≤ R.frames ∧ 8 + (maxL + 11) + rm.locals ≤ R.locals) (hw : zW D dJ dI A s ws H locs) (isC : List Nat) (hnC : va_nd isC = true) (hC : isC.map (fun i => ws[i]?) = win.map some) (hn : av.length = n) (hsize : ls.size = nL) (hstack : st0 = av.reverse ++ rest) (hW : (rest.map fun v => v.category).sum ≤ 8) (d : decode cc pc = .ok (.invokestatic index, 3)) (hf : cells + mc ≤ R.cells ∧ slots + ms ≤ R.slots) : va_Run p l e R s m args below meth c H locs cells slots mc ms (F0 m pc ls st0) rest (Qc H.size av.toArray) (va_A win H.size) :=
  va_runS (g := F0 m pc ls st0) S (hM H.size) (va_cwS n S.2.2.2.2 hT rfl hrc hrs hd hR) (z_pre hw isC hnC hC) rfl hn hsize hstack (lv_room hW) d hf
theorem z_runX {y : MethodName} {bytes : ByteArray} {maxL nL mc ms n index : Nat} {ret : Option FieldType} {rm : Room} {own : String} {av : List Value} {b L : Nat} {xs : Nat → Int32} {st0 : List Value} {Qc : Nat → Array Value → State → Outcome → State → Prop} (S : CallFix p m c cc nL s args lw_all own) (hM : ∀ sz, Met l y (ws_ y bytes maxL ret) rm (zPreX D dJ dI av b L xs sz) (Qc sz) mc ms (va_A [] sz)) (hT : GoodIn lw_all (va_wsS own index y (ws_ y bytes maxL ret))) (hrc : rm.cells = mc) (hrs : rm.slots = ms) (hd : y.cls ≠ "java/lang/invoke/MethodHandle" ∧ y.cls ≠ "java/lang/invoke/VarHandle" ∧ (parseMethodDescriptor y.desc).map (fun d => d.parameters.length) = some n) (hR : rm.frames + 1 ≤ R.frames ∧ 8 + (maxL + 11) + rm.locals ≤ R.locals) (hw : zW D dJ dI A s ws H locs) (hX : va_X b L xs s s.heap) (hbl : b < s.heap.size) (hbA : ¬ A b) (hn : av.length = n) (hsize : ls.size = nL) (hstack : st0 = av.reverse ++ rest) (hW : (rest.map fun v => v.category).sum ≤ 8) (d : decode cc pc = .ok (.invokestatic index, 3)) (hf : cells + mc ≤ R.cells ∧ slots + ms ≤ R.slots) : va_Run p l e R s m args below meth c H locs cells slots mc ms (F0 m pc ls st0) rest (Qc H.size av.toArray) (va_A [] H.size) :=
  va_runS (g := F0 m pc ls st0) S (hM H.size) (va_cwS n S.2.2.2.2 hT rfl hrc hrs hd hR) (z_preX hw hX hbl hbA) rfl hn hsize hstack (lv_room hW) d hf
/-- a call through a desk, which stands at place q0 of the world -/
theorem z_runV {y : MethodName} {bytes : ByteArray} {maxL nL mc ms n index : Nat} {ret : Option FieldType} {rm : Room} {own : String} {o r : Nat} {v : Int} {av : List Value} {win : va_W} {st0 : List Value} {Qc : Nat → Array Value → State → Outcome → State → Prop} (S : CallFix p m c cc nL s args lw_all own) (hM : ∀ sz, Met l y (ws_ y bytes maxL ret) rm (zPre D dJ dI (.ref o :: av) win sz) (Qc sz) mc ms (va_A win sz)) (hT : GoodIn lw_all (wsV own index RX1 y (ws_ y bytes maxL ret))) (hrc : rm.cells = mc) (hrs : rm.slots = ms) (hd : y.cls = RX1 ∧ y.cls ≠ "java/lang/invoke/MethodHandle" ∧ y.cls ≠ "java/lang/invoke/VarHandle" ∧ (parseMethodDescriptor y.desc).map (fun d => d.parameters.length) = some n) (hR : rm.frames + 1 ≤ R.frames ∧ 8 + (maxL + 11) + rm.locals ≤ R.locals) (hw : zW D dJ dI A s ws H locs) (isC : List Nat) (hnC : va_nd isC = true) (hC : isC.map (fun i => ws[i]?) = win.map some) (q0 : Nat) (ho : ws[q0]? = some (zO o r v)) (hn : av.length = n) (hsize : ls.size = nL) (hstack : st0 = av.reverse ++ .ref o :: rest) (hW : (rest.map fun v => v.category).sum ≤ 8) (d : decode cc pc = .ok (.invokevirtual index, 3)) (hf : cells + mc ≤ R.cells ∧ slots + ms ≤ R.slots) : va_Run p l e R s m args below meth c H locs cells slots mc ms (F0 m pc ls st0) rest (Qc H.size (Value.ref o :: av).toArray) (va_A win H.size) :=
  va_runV (g := F0 m pc ls st0) (C := RX1) S (hM H.size) (cwV n S.2.2.2.2 hT rfl hrc hrs hd hR) ⟨(z_pre (av := .ref o :: av) hw isC hnC hC).1, va_recv hw.1 hw.2.1 (ci := 0) (q0 := q0) rfl ho, (z_pre (av := .ref o :: av) hw isC hnC hC).2⟩ rfl hn hsize hstack (lv_room hW) d hf
/-- a constructor's call -/
theorem z_runI {y : MethodName} {bytes : ByteArray} {maxL nL mc ms n index : Nat} {rm : Room} {own : String} {o : Nat} {av : List Value} {win : va_W} {st0 : List Value} {Qc : Nat → Array Value → State → Outcome → State → Prop} (S : CallFix p m c cc nL s args lw_all own) (hM : ∀ sz, Met l y (ws_ y bytes maxL none) rm (zPre D dJ dI (.ref o :: av) win sz) (Qc sz) mc ms (va_A win sz)) (hG : Cond.code y bytes maxL none ∈ lw_all) (hini : Cond.initialized y.cls ∈ lw_all) (hl : Cond.methodLink own index y ∈ lw_all) (hin : Cond.instanceMethod y ∈ lw_all) (hy1 : y.name = "<init>") (hrc : rm.cells = mc) (hrs : rm.slots = ms) (hd : y.cls ≠ "java/lang/invoke/MethodHandle" ∧ y.cls ≠ "java/lang/invoke/VarHandle" ∧ (parseMethodDescriptor y.desc).map (fun d => d.parameters.length) = some n) (hR : rm.frames + 1 ≤ R.frames ∧ 8 + (maxL + 11) + rm.locals ≤ R.locals) (hw : zW D dJ dI A s ws H locs) (isC : List Nat) (hnC : va_nd isC = true) (hC : isC.map (fun i => ws[i]?) = win.map some) (hn : av.length = n) (hsize : ls.size = nL) (hstack : st0 = av.reverse ++ .ref o :: rest) (hW : (rest.map fun v => v.category).sum ≤ 8) (d : decode cc pc = .ok (.invokespecial index, 3)) (hf : cells + mc ≤ R.cells ∧ slots + ms ≤ R.slots) : va_Run p l e R s m args below meth c H locs cells slots mc ms (F0 m pc ls st0) rest (Qc H.size (Value.ref o :: av).toArray) (va_A win H.size) :=
  va_runI (g := F0 m pc ls st0) S (hM H.size) (cwI n S.2.2.2.2 (lw_meth hG) rfl hrc hrs (S.2.2.2.2 _ hini) (S.2.2.2.2 _ hl) (S.2.2.2.2 _ hin) hy1 hd hR) (z_pre hw isC hnC hC) rfl hn hsize hstack (lv_room hW) d hf
/-! desks: the two fields -/
theorem zo_rows {o r : Nat} {v : Int} {index : Nat} {rs : List Value} (hx : p.tables.exec = Jvm.exec) (hb : c.code = cc) (hts : ∀ w ∈ lw_all, w.before args s = true) (hown : s.vm.findClass RX1 = some m.cls) (hw : zW D dJ dI A s ws H locs) (q0 : Nat) (ho : ws[q0]? = some (zO o r v)) (hl : Cond.fieldLink RX1 index RX1 "rows" "[J" ∈ lw_all) (d : decode cc pc = .ok (.getfield index, 3)) (kk : W p l e R s m args below meth c H locs cells slots Q (F0 m (pc + 3) ls (.ref r :: rs))) : W p l e R s m args below meth c H locs cells slots Q (F0 m pc ls (.ref o :: rs)) :=
  va_get (D := D) (ci := 0) (v := .ref r) (C := RX1) (T := TX1) (N := 2) hx hb hts in_X1 hown hw.1 hw.2.1 q0 ho rfl 0 (by decide) (hts _ hl) (fun _ h9 => h9) rfl d kk
theorem zo_size {o r : Nat} {v : Int} {index : Nat} {rs : List Value} (hx : p.tables.exec = Jvm.exec) (hb : c.code = cc) (hts : ∀ w ∈ lw_all, w.before args s = true) (hown : s.vm.findClass RX1 = some m.cls) (hw : zW D dJ dI A s ws H locs) (q0 : Nat) (ho : ws[q0]? = some (zO o r v)) (hl : Cond.fieldLink RX1 index RX1 "size" "I" ∈ lw_all) (d : decode cc pc = .ok (.getfield index, 3)) (kk : W p l e R s m args below meth c H locs cells slots Q (F0 m (pc + 3) ls (.int (zi v) :: rs))) : W p l e R s m args below meth c H locs cells slots Q (F0 m pc ls (.ref o :: rs)) :=
  va_get (D := D) (ci := 0) (v := .int (zi v)) (C := RX1) (T := TX1) (N := 2) hx hb hts in_X1 hown hw.1 hw.2.1 q0 ho rfl 1 (by decide) (hts _ hl) (fun _ h9 => h9) rfl d kk
theorem zo_put {o r : Nat} {v v' : Int} {index : Nat} {rs : List Value} {ws' : va_W} (hx : p.tables.exec = Jvm.exec) (hb : c.code = cc) (hts : ∀ w ∈ lw_all, w.before args s = true) (hown : s.vm.findClass RX1 = some m.cls) (hw : zW D dJ dI A s ws H locs) (q0 : Nat) (ho : ws[q0]? = some (zO o r v)) (hl : Cond.fieldLink RX1 index RX1 "size" "I" ∈ lw_all) (d : decode cc pc = .ok (.putfield index, 3)) (hws : ws.set q0 (zO o r v') = ws') (kk : ∀ (H1 : Heap) (locs1 : List Loc), zW D dJ dI A s ws' H1 locs1 → W p l e R s m args below meth c H1 locs1 cells slots Q (F0 m (pc + 3) ls rs)) : W p l e R s m args below meth c H locs cells slots Q (F0 m pc ls (.int (zi v') :: .ref o :: rs)) := by
  subst hws
  exact va_put (D := D) (ci := 0) (v := .int (zi v')) (ty := .int) (C := RX1) (T := TX1) (N := 2) hx hb hts in_X1 tyX1 tyX1_ok nmX1 hown hw.1 hw.2.1 hw.2.2.1 hw.2.2.2.1 q0 ho rfl 1 (by decide) (hts _ hl) (fun _ h9 => h9) rfl (by decide +kernel) rfl rfl (Nat.le_of_ble_eq_true rfl) d (fun H1 locs1 hP hD hS => kk H1 locs1 ⟨hw.1, hP, hD, hS, hw.2.2.2.2⟩)
end ZC
end
section
/-! LongArrays, leaves: Long.compare, Math.min, swap, swap of blocks, med3, selectionSort, insertionSort, binarySearch. Printed by gen/m09.py -/
set_option maxRecDepth 100000
abbrev zRm (fr mc ms lo : Nat) : Room := { frames := fr, cells := mc, slots := ms, locals := lo }
abbrev zCV (l : Launch) (y : MethodName) (cc : ByteArray) (maxL fr mc ms lo : Nat) (D : va_G) (dJ dI : ClassId) (av : List Value) (win : va_W) {S : Type} (post : S → Prop) (out : S → va_W) : Prop := ∀ sz, Met l y (ws_ y cc maxL none) (zRm fr mc ms lo) (zPre D dJ dI av win sz) (va_Qv post (fun u => zOut D (va_A win sz) (out u)) (va_A win sz)) mc ms (va_A win sz)
abbrev zCI (l : Launch) (y : MethodName) (cc : ByteArray) (maxL fr mc ms lo : Nat) (D : va_G) (dJ dI : ClassId) (av : List Value) (win : va_W) {S : Type} (post : Int32 → S → Prop) (out : S → va_W) : Prop := ∀ sz, Met l y (ws_ y cc maxL (some .int)) (zRm fr mc ms lo) (zPre D dJ dI av win sz) (va_Qi post (fun u => zOut D (va_A win sz) (out u)) (va_A win sz)) mc ms (va_A win sz)
abbrev zCB (l : Launch) (y : MethodName) (cc : ByteArray) (maxL fr mc ms lo : Nat) (D : va_G) (dJ dI : ClassId) (av : List Value) (win : va_W) {S : Type} (post : Int32 → S → Prop) (out : S → va_W) : Prop := ∀ sz, Met l y (ws_ y cc maxL (some .boolean)) (zRm fr mc ms lo) (zPre D dJ dI av win sz) (va_Qi post (fun u => zOut D (va_A win sz) (out u)) (va_A win sz)) mc ms (va_A win sz)
abbrev zCJ (l : Launch) (y : MethodName) (cc : ByteArray) (maxL fr mc ms lo : Nat) (D : va_G) (dJ dI : ClassId) (av : List Value) (win : va_W) {S : Type} (post : Int64 → S → Prop) (out : S → va_W) : Prop := ∀ sz, Met l y (ws_ y cc maxL (some .long)) (zRm fr mc ms lo) (zPre D dJ dI av win sz) (va_Ql post (fun u => zOut D (va_A win sz) (out u)) (va_A win sz)) mc ms (va_A win sz)
set_option maxHeartbeats 4000000 in
set_option maxRecDepth 100000 in
theorem met_cmp (l : Launch) (D : va_G) (dJ dI : ClassId) (x y : Int64) : zCI l yJ0_compare cJ0_compare 4 0 0 0 0 D dJ dI [.long x, .long y] [] (fun (r : Int32) (_ : Unit) => r = zi (zcz x y)) (fun _ => []) := by
  refine z_met (by decide) (Nat.le_of_ble_eq_true rfl) ?_
  intro p e s m below meth c ls S hr hlocks hnm hw hl
  have S : CallFix p m c cJ0_compare 4 s _ lw_all RJ0 := S
  obtain ⟨hx, hb, hml, hown, hts⟩ := id S
  have hl : lv_has ls 4 [(0, .long (x)), (2, .long (y))] := hl
  refine lv_lload_n hx hb dJ0_compare_0 rfl (lv_at hl 0 rfl) ?_
  refine lv_lload_n hx hb dJ0_compare_1 rfl (lv_at hl 1 rfl) ?_
  refine zl_cmp hx hb dJ0_compare_2 ?_
  have hz_2_1 := zcz_spec (x) (y)
  refine zi_if_ge (tgt := 10) hx hb dJ0_compare_3 (by decide) (by omega) (fun c_3 => ?_) (fun c_3 => ?_)
  · refine lv_lload_n hx hb dJ0_compare_10 rfl (lv_at hl 0 rfl) ?_
    refine lv_lload_n hx hb dJ0_compare_11 rfl (lv_at hl 1 rfl) ?_
    refine zl_cmp hx hb dJ0_compare_12 ?_
    have hz_12_3 := zcz_spec (x) (y)
    refine zi_if_ne (tgt := 20) hx hb dJ0_compare_13 (by decide) (by omega) (fun c_13 => ?_) (fun c_13 => ?_)
    · refine zi_const hx hb dJ0_compare_20 ?_
      exact z_iret hx hb hr hlocks hw () [] rfl rfl (congrArg zi (by omega)) dJ0_compare_21
    · refine zi_const hx hb dJ0_compare_16 ?_
      refine lv_goto (tgt := 21) hx hb dJ0_compare_17 (by decide) ?_
      exact z_iret hx hb hr hlocks hw () [] rfl rfl (congrArg zi (by omega)) dJ0_compare_21
  · refine zi_const hx hb dJ0_compare_6 ?_
    refine lv_goto (tgt := 21) hx hb dJ0_compare_7 (by decide) ?_
    exact z_iret hx hb hr hlocks hw () [] rfl rfl (congrArg zi (by omega)) dJ0_compare_21
section ZMIN
variable {p : Program} {l : Launch} {e : Env} {R : Room} {s : State} {m : MethodId} {args : Array Value} {below : List Frame} {meth : Method} {c : Code} {H : Heap} {locs : List Loc} {cells slots : Nat} {Q : State → Prop}
variable {cc : ByteArray} {pc : Nat} {ls : Array Slot} {rest : List Value}
theorem zi_min {own : String} {index : Nat} {x y : Int} (r : Int) (hx : p.tables.exec = Jvm.exec) (hb : c.code = cc) (hml : c.maxLocals = ls.size) (hown : s.vm.findClass own = some m.cls) (hts : ∀ w ∈ lw_all, w.before args s = true) (hl : Cond.methodLink own index yJ1_min ∈ lw_all) (hf : 1 ≤ R.frames) (hlo : (rest.map fun v => v.category).sum + 13 ≤ R.locals) (hc : cells ≤ R.cells) (hs : slots ≤ R.slots) (h1 : -2147483648 ≤ x ∧ x < 2147483648) (h2 : -2147483648 ≤ y ∧ y < 2147483648) (hr : r ≤ x ∧ r ≤ y ∧ (r = x ∨ r = y)) (d : decode cc pc = .ok (.invokestatic index, 3)) (kk : W p l e R s m args below meth c H locs cells slots Q (F0 m (pc + 3) ls (.int (zi r) :: rest))) : W p l e R s m args below meth c H locs cells slots Q (F0 m pc ls (.int (zi y) :: .int (zi x) :: rest)) := by
  refine va_mmin hx hb hml hown (hts _ hl) (hts _ q39) (hts _ q6) (hts _ q40) hf hlo hc hs d ?_
  have e : (if zi y < zi x then zi y else zi x) = zi r := by
    by_cases h : y < x
    · rw [if_pos ((zi_ltI h2 h1).mpr h)]
      exact congrArg zi (by omega)
    · rw [if_neg (fun q => h ((zi_ltI h2 h1).mp q))]
      exact congrArg zi (by omega)
  rw [e]
  exact kk
end ZMIN
set_option maxHeartbeats 4000000 in
set_option maxRecDepth 100000 in
theorem met_swap (l : Launch) (D : va_G) (dJ dI : ClassId) (h0 n : Nat) (f : Nat → Int64) (za zb : Int) (a b : Nat) (ea : za = (a : Int)) (eb : zb = (b : Int)) (ha : a < n) (hb9 : b < n) (hn : n < 1073741824) : zCV l yX2_swap cX2_swap 5 0 0 0 0 D dJ dI [.ref h0, .int (zi za), .int (zi zb)] [zL h0 dJ n f] (fun (_ : Unit) => True) (fun _ => [zL h0 dJ n (zs_sw f a b)]) := by
  subst ea
  subst eb
  refine z_met (by decide) (Nat.le_of_ble_eq_true rfl) ?_
  intro p e s m below meth c ls S hr hlocks hnm hw hl
  have S : CallFix p m c cX2_swap 5 s _ lw_all RX2 := S
  obtain ⟨hx, hb, hml, hown, hts⟩ := id S
  have hl : lv_has ls 5 [(0, .ref h0), (1, .int (zi (((a : Nat) : Int)))), (2, .int (zi (((b : Nat) : Int))))] := hl
  refine lv_aload_n hx hb dX2_swap_0 rfl (lv_at hl 0 rfl) ?_
  refine lv_iload_n hx hb dX2_swap_1 rfl (lv_at hl 1 rfl) ?_
  refine zl_ald hx hb hw 0 (a) rfl (by omega) (by omega) (by omega) dX2_swap_2 ?_
  refine lv_lstore_n (lv' := [(3, .long ((f) (a))), (0, .ref h0), (1, .int (zi (((a : Nat) : Int)))), (2, .int (zi (((b : Nat) : Int))))]) hx hb dX2_swap_3 rfl hl (by decide) rfl (fun ls hl => ?_)
  refine lv_aload_n hx hb dX2_swap_4 rfl (lv_at hl 1 rfl) ?_
  refine lv_iload_n hx hb dX2_swap_5 rfl (lv_at hl 2 rfl) ?_
  refine lv_aload_n hx hb dX2_swap_6 rfl (lv_at hl 1 rfl) ?_
  refine lv_iload_n hx hb dX2_swap_7 rfl (lv_at hl 3 rfl) ?_
  refine zl_ald hx hb hw 0 (b) rfl (by omega) (by omega) (by omega) dX2_swap_8 ?_
  refine zl_ast (ws' := [zL h0 dJ n (vp_updL (f) (a) ((f) (b)))]) hx hb hw 0 (a) rfl (by omega) (by omega) (by omega) dX2_swap_9 rfl (fun H locs hw => ?_)
  refine lv_aload_n hx hb dX2_swap_10 rfl (lv_at hl 1 rfl) ?_
  refine lv_iload_n hx hb dX2_swap_11 rfl (lv_at hl 3 rfl) ?_
  refine lv_lload_n hx hb dX2_swap_12 rfl (lv_at hl 0 rfl) ?_
  refine zl_ast (ws' := [zL h0 dJ n (vp_updL (vp_updL (f) (a) ((f) (b))) (b) ((f) (a)))]) hx hb hw 0 (b) rfl (by omega) (by omega) (by omega) dX2_swap_13 rfl (fun H locs hw => ?_)
  exact z_vret hx hb hr hlocks hw () [0] rfl rfl trivial dX2_swap_14
section ZVS
variable {p : Program} {l : Launch} {e : Env} {s : State} {m : MethodId} {args : Array Value} {below : List Frame} {meth : Method} {c : Code} {Q : State → Prop} {D : va_G} {dJ dI : ClassId} {A : Nat → Prop}
set_option maxHeartbeats 4000000 in
set_option maxRecDepth 100000 in
/-- the loop of swap of blocks -/
theorem lp_vs {h0 n a b k : Nat} {f : Nat → Int64} (S : CallFix p m c cX2_swap_2 5 s args lw_all RX2) (hn : n < 1073741824) (hab : a + k ≤ b) (hbk : b + k ≤ n) (kx : ∀ (g : Nat → Int64) (H : Heap) (locs : List Loc) (ls : Array Slot), zW D dJ dI A s [zL h0 dJ n g] H locs → zs_vs f g a b k → W p l e (zRm 1 0 0 24) s m args below meth c H locs 0 0 Q (F0 m 27 ls [])) :
    ∀ (N i : Nat) (g : Nat → Int64) (z1 z2 z4 : Int) (H : Heap) (locs : List Loc) (ls : Array Slot), k < i + N → i ≤ k → z1 = ((a + i : Nat) : Int) → z2 = ((b + i : Nat) : Int) → z4 = ((i : Nat) : Int) → zs_vs f g a b i → zW D dJ dI A s [zL h0 dJ n g] H locs → lv_has ls 5 [(0, .ref h0), (1, .int (zi z1)), (2, .int (zi z2)), (3, .int (zi ((k : Nat) : Int))), (4, .int (zi z4))] → W p l e (zRm 1 0 0 24) s m args below meth c H locs 0 0 Q (F0 m 3 ls []) := by
  obtain ⟨hx, hb, hml, hown, hts⟩ := id S
  intro N
  induction N with
  | zero =>
    intro i g z1 z2 z4 H locs ls h1 h2
    exact absurd h1 (by omega)
  | succ N ih =>
    intro i g z1 z2 z4 H locs ls hN hi e1 e2 e4 hv hw hl
    subst e1
    subst e2
    subst e4
    refine lv_iload hx hb dX2_swap_2_3 (lv_at hl 4 rfl) ?_
    refine lv_iload_n hx hb dX2_swap_2_5 rfl (lv_at hl 3 rfl) ?_
    refine zi_icmp_ge (tgt := 27) hx hb dX2_swap_2_6 (by decide) (by omega) (by omega) (fun c_6 => ?_) (fun c_6 => ?_)
    · have e9 : i = k := by omega
      rw [e9] at hv
      exact kx _ H locs ls hw hv
    · refine lv_aload_n hx hb dX2_swap_2_9 rfl (lv_at hl 0 rfl) ?_
      refine lv_iload_n hx hb dX2_swap_2_10 rfl (lv_at hl 1 rfl) ?_
      refine lv_iload_n hx hb dX2_swap_2_11 rfl (lv_at hl 2 rfl) ?_
      refine z_callv (wr := []) (wo := (fun _ : Unit => [zL h0 dJ n (zs_sw (g) (a + i) (b + i))])) (z_runS (n := 3) (rest := []) S (met_swap l D dJ dI h0 (n) (g) (((a + i : Nat) : Int)) (((b + i : Nat) : Int)) (a + i) (b + i) (by omega) (by omega) (by omega) (by omega) (by omega)) (lw_S q35 q36 q4 q37) rfl rfl (by decide +kernel) ⟨Nat.le_of_ble_eq_true rfl, Nat.le_of_ble_eq_true rfl⟩ hw [0] rfl rfl rfl hl.1 rfl (Nat.le_of_ble_eq_true rfl) dX2_swap_2_12 ⟨Nat.le_of_ble_eq_true rfl, Nat.le_of_ble_eq_true rfl⟩) hw [0] [] rfl rfl rfl (by decide) [0] rfl (fun _ => rfl) (fun _ H locs _ hw => ?_)
      refine zi_inc (v := ((i + 1 : Nat) : Int)) (k := 4) (lv' := [(4, .int (zi (((i + 1 : Nat) : Int)))), (0, .ref h0), (1, .int (zi (((a + i : Nat) : Int)))), (2, .int (zi (((b + i : Nat) : Int)))), (3, .int (zi (((k : Nat) : Int))))]) hx hb dX2_swap_2_15 hl rfl (by omega) (by decide) rfl (fun ls hl => ?_)
      refine zi_inc (v := ((a + i + 1 : Nat) : Int)) (k := 2) (lv' := [(1, .int (zi (((a + i + 1 : Nat) : Int)))), (4, .int (zi (((i + 1 : Nat) : Int)))), (0, .ref h0), (2, .int (zi (((b + i : Nat) : Int)))), (3, .int (zi (((k : Nat) : Int))))]) hx hb dX2_swap_2_18 hl rfl (by omega) (by decide) rfl (fun ls hl => ?_)
      refine zi_inc (v := ((b + i + 1 : Nat) : Int)) (k := 3) (lv' := [(2, .int (zi (((b + i + 1 : Nat) : Int)))), (1, .int (zi (((a + i + 1 : Nat) : Int)))), (4, .int (zi (((i + 1 : Nat) : Int)))), (0, .ref h0), (3, .int (zi (((k : Nat) : Int))))]) hx hb dX2_swap_2_21 hl rfl (by omega) (by decide) rfl (fun ls hl => ?_)
      refine lv_goto (tgt := 3) hx hb dX2_swap_2_24 (by decide) ?_
      exact ih (i + 1) (zs_sw (g) (a + i) (b + i)) _ _ _ H locs ls (by omega) (by omega) rfl rfl rfl (zs_vs_s hv (by omega)) hw (lv_sub hl [3, 1, 0, 4, 2] rfl)
end ZVS
set_option maxHeartbeats 4000000 in
set_option maxRecDepth 100000 in
theorem met_vswap (l : Launch) (D : va_G) (dJ dI : ClassId) (h0 n : Nat) (f : Nat → Int64) (za zb zk : Int) (a b k : Nat) (ea : za = (a : Int)) (eb : zb = (b : Int)) (ek : zk = (k : Int)) (hab : a + k ≤ b) (hbk : b + k ≤ n) (hn : n < 1073741824) : zCV l yX2_swap_2 cX2_swap_2 5 1 0 0 24 D dJ dI [.ref h0, .int (zi za), .int (zi zb), .int (zi zk)] [zL h0 dJ n f] (fun g : Nat → Int64 => zs_vs f g a b k) (fun g => [zL h0 dJ n g]) := by
  subst ea
  subst eb
  subst ek
  refine z_met (by decide) (Nat.le_of_ble_eq_true rfl) ?_
  intro p e s m below meth c ls S hr hlocks hnm hw hl
  have S : CallFix p m c cX2_swap_2 5 s _ lw_all RX2 := S
  obtain ⟨hx, hb, hml, hown, hts⟩ := id S
  have hl : lv_has ls 5 [(0, .ref h0), (1, .int (zi (((a : Nat) : Int)))), (2, .int (zi (((b : Nat) : Int)))), (3, .int (zi (((k : Nat) : Int))))] := hl
  refine zi_const hx hb dX2_swap_2_0 ?_
  refine lv_istore (lv' := [(4, .int (zi (0))), (0, .ref h0), (1, .int (zi (((a : Nat) : Int)))), (2, .int (zi (((b : Nat) : Int)))), (3, .int (zi (((k : Nat) : Int))))]) hx hb dX2_swap_2_1 hl (by decide) rfl (fun ls hl => ?_)
  refine lp_vs (f := f) (a := a) (b := b) (k := k) S hn hab hbk (fun g H locs ls hw hv => ?_) (k + 1) 0 f _ _ _ _ _ ls (by omega) (by omega) (by omega) (by omega) (by omega) zs_vs_0 hw (lv_sub hl [1, 2, 3, 4, 0] rfl)
  exact z_vret hx hb hr hlocks hw g [0] rfl rfl hv dX2_swap_2_27
set_option maxHeartbeats 4000000 in
set_option maxRecDepth 100000 in
theorem met_med3 (l : Launch) (D : va_G) (dJ dI : ClassId) (h0 n : Nat) (f : Nat → Int64) (za zb zk : Int) (a b k : Nat) (ea : za = (a : Int)) (eb : zb = (b : Int)) (ek : zk = (k : Int)) (ha : a < n) (hb9 : b < n) (hk : k < n) (hn : n < 1073741824) : zCI l yX2_med3 cX2_med3 7 1 0 0 23 D dJ dI [.ref h0, .int (zi za), .int (zi zb), .int (zi zk)] [zL h0 dJ n f] (fun (r : Int32) (u : Nat) => r = zi ((u : Nat) : Int) ∧ (u = a ∨ u = b ∨ u = k)) (fun _ => [zL h0 dJ n f]) := by
  subst ea
  subst eb
  subst ek
  refine z_met (by decide) (Nat.le_of_ble_eq_true rfl) ?_
  intro p e s m below meth c ls S hr hlocks hnm hw hl
  have S : CallFix p m c cX2_med3 7 s _ lw_all RX2 := S
  obtain ⟨hx, hb, hml, hown, hts⟩ := id S
  have hl : lv_has ls 7 [(0, .ref h0), (1, .int (zi (((a : Nat) : Int)))), (2, .int (zi (((b : Nat) : Int)))), (3, .int (zi (((k : Nat) : Int))))] := hl
  refine lv_aload_n hx hb dX2_med3_0 rfl (lv_at hl 0 rfl) ?_
  refine lv_iload_n hx hb dX2_med3_1 rfl (lv_at hl 1 rfl) ?_
  refine zl_ald hx hb hw 0 (a) rfl (by omega) (by omega) (by omega) dX2_med3_2 ?_
  refine lv_aload_n hx hb dX2_med3_3 rfl (lv_at hl 0 rfl) ?_
  refine lv_iload_n hx hb dX2_med3_4 rfl (lv_at hl 2 rfl) ?_
  refine zl_ald hx hb hw 0 (b) rfl (by omega) (by omega) (by omega) dX2_med3_5 ?_
  refine z_calli (wr := [zL h0 dJ n (f)]) (wo := (fun _ : Unit => [zL h0 dJ n (f)])) (z_runS (n := 2) (rest := []) S (met_cmp l D dJ dI ((f) (a)) ((f) (b))) (lw_S q32 q33 q5 q34) rfl rfl (by decide +kernel) ⟨Nat.le_of_ble_eq_true rfl, Nat.le_of_ble_eq_true rfl⟩ hw [] rfl rfl rfl hl.1 rfl (Nat.le_of_ble_eq_true rfl) dX2_med3_6 ⟨Nat.le_of_ble_eq_true rfl, Nat.le_of_ble_eq_true rfl⟩) hw [] [0] rfl rfl rfl (by decide) [0] rfl (fun _ => rfl) (fun r _ H locs hp hw => ?_)
  subst hp
  have hz_1 := zcz_spec ((f) (a)) ((f) (b))
  refine lv_istore (lv' := [(4, .int (zi (zcz ((f) (a)) ((f) (b))))), (0, .ref h0), (1, .int (zi (((a : Nat) : Int)))), (2, .int (zi (((b : Nat) : Int)))), (3, .int (zi (((k : Nat) : Int))))]) hx hb dX2_med3_9 hl (by decide) rfl (fun ls hl => ?_)
  refine lv_aload_n hx hb dX2_med3_11 rfl (lv_at hl 1 rfl) ?_
  refine lv_iload_n hx hb dX2_med3_12 rfl (lv_at hl 2 rfl) ?_
  refine zl_ald hx hb hw 0 (a) rfl (by omega) (by omega) (by omega) dX2_med3_13 ?_
  refine lv_aload_n hx hb dX2_med3_14 rfl (lv_at hl 1 rfl) ?_
  refine lv_iload_n hx hb dX2_med3_15 rfl (lv_at hl 4 rfl) ?_
  refine zl_ald hx hb hw 0 (k) rfl (by omega) (by omega) (by omega) dX2_med3_16 ?_
  refine z_calli (wr := [zL h0 dJ n (f)]) (wo := (fun _ : Unit => [zL h0 dJ n (f)])) (z_runS (n := 2) (rest := []) S (met_cmp l D dJ dI ((f) (a)) ((f) (k))) (lw_S q32 q33 q5 q34) rfl rfl (by decide +kernel) ⟨Nat.le_of_ble_eq_true rfl, Nat.le_of_ble_eq_true rfl⟩ hw [] rfl rfl rfl hl.1 rfl (Nat.le_of_ble_eq_true rfl) dX2_med3_17 ⟨Nat.le_of_ble_eq_true rfl, Nat.le_of_ble_eq_true rfl⟩) hw [] [0] rfl rfl rfl (by decide) [0] rfl (fun _ => rfl) (fun r _ H locs hp hw => ?_)
  subst hp
  have hz_2 := zcz_spec ((f) (a)) ((f) (k))
  refine lv_istore (lv' := [(5, .int (zi (zcz ((f) (a)) ((f) (k))))), (4, .int (zi (zcz ((f) (a)) ((f) (b))))), (0, .ref h0), (1, .int (zi (((a : Nat) : Int)))), (2, .int (zi (((b : Nat) : Int)))), (3, .int (zi (((k : Nat) : Int))))]) hx hb dX2_med3_20 hl (by decide) rfl (fun ls hl => ?_)
  refine lv_aload_n hx hb dX2_med3_22 rfl (lv_at hl 2 rfl) ?_
  refine lv_iload_n hx hb dX2_med3_23 rfl (lv_at hl 4 rfl) ?_
  refine zl_ald hx hb hw 0 (b) rfl (by omega) (by omega) (by omega) dX2_med3_24 ?_
  refine lv_aload_n hx hb dX2_med3_25 rfl (lv_at hl 2 rfl) ?_
  refine lv_iload_n hx hb dX2_med3_26 rfl (lv_at hl 5 rfl) ?_
  refine zl_ald hx hb hw 0 (k) rfl (by omega) (by omega) (by omega) dX2_med3_27 ?_
  refine z_calli (wr := [zL h0 dJ n (f)]) (wo := (fun _ : Unit => [zL h0 dJ n (f)])) (z_runS (n := 2) (rest := []) S (met_cmp l D dJ dI ((f) (b)) ((f) (k))) (lw_S q32 q33 q5 q34) rfl rfl (by decide +kernel) ⟨Nat.le_of_ble_eq_true rfl, Nat.le_of_ble_eq_true rfl⟩ hw [] rfl rfl rfl hl.1 rfl (Nat.le_of_ble_eq_true rfl) dX2_med3_28 ⟨Nat.le_of_ble_eq_true rfl, Nat.le_of_ble_eq_true rfl⟩) hw [] [0] rfl rfl rfl (by decide) [0] rfl (fun _ => rfl) (fun r _ H locs hp hw => ?_)
  subst hp
  have hz_3 := zcz_spec ((f) (b)) ((f) (k))
  refine lv_istore (lv' := [(6, .int (zi (zcz ((f) (b)) ((f) (k))))), (5, .int (zi (zcz ((f) (a)) ((f) (k))))), (4, .int (zi (zcz ((f) (a)) ((f) (b))))), (0, .ref h0), (1, .int (zi (((a : Nat) : Int)))), (2, .int (zi (((b : Nat) : Int)))), (3, .int (zi (((k : Nat) : Int))))]) hx hb dX2_med3_31 hl (by decide) rfl (fun ls hl => ?_)
  refine lv_iload hx hb dX2_med3_33 (lv_at hl 2 rfl) ?_
  refine zi_if_ge (tgt := 60) hx hb dX2_med3_35 (by decide) (by omega) (fun c_35 => ?_) (fun c_35 => ?_)
  · refine lv_iload hx hb dX2_med3_60 (lv_at hl 0 rfl) ?_
    refine zi_if_le (tgt := 69) hx hb dX2_med3_62 (by decide) (by omega) (fun c_62 => ?_) (fun c_62 => ?_)
    · refine lv_iload hx hb dX2_med3_69 (lv_at hl 1 rfl) ?_
      refine zi_if_le (tgt := 78) hx hb dX2_med3_71 (by decide) (by omega) (fun c_71 => ?_) (fun c_71 => ?_)
      · refine lv_iload_n hx hb dX2_med3_78 rfl (lv_at hl 4 rfl) ?_
        exact z_iret hx hb hr hlocks hw (a) [0] rfl rfl ⟨rfl, by omega⟩ dX2_med3_79
      · refine lv_iload_n hx hb dX2_med3_74 rfl (lv_at hl 6 rfl) ?_
        refine lv_goto (tgt := 79) hx hb dX2_med3_75 (by decide) ?_
        exact z_iret hx hb hr hlocks hw (k) [0] rfl rfl ⟨rfl, by omega⟩ dX2_med3_79
    · refine lv_iload_n hx hb dX2_med3_65 rfl (lv_at hl 5 rfl) ?_
      refine lv_goto (tgt := 79) hx hb dX2_med3_66 (by decide) ?_
      exact z_iret hx hb hr hlocks hw (b) [0] rfl rfl ⟨rfl, by omega⟩ dX2_med3_79
  · refine lv_iload hx hb dX2_med3_38 (lv_at hl 0 rfl) ?_
    refine zi_if_ge (tgt := 47) hx hb dX2_med3_40 (by decide) (by omega) (fun c_40 => ?_) (fun c_40 => ?_)
    · refine lv_iload hx hb dX2_med3_47 (lv_at hl 1 rfl) ?_
      refine zi_if_ge (tgt := 56) hx hb dX2_med3_49 (by decide) (by omega) (fun c_49 => ?_) (fun c_49 => ?_)
      · refine lv_iload_n hx hb dX2_med3_56 rfl (lv_at hl 4 rfl) ?_
        refine lv_goto (tgt := 79) hx hb dX2_med3_57 (by decide) ?_
        exact z_iret hx hb hr hlocks hw (a) [0] rfl rfl ⟨rfl, by omega⟩ dX2_med3_79
      · refine lv_iload_n hx hb dX2_med3_52 rfl (lv_at hl 6 rfl) ?_
        refine lv_goto (tgt := 79) hx hb dX2_med3_53 (by decide) ?_
        exact z_iret hx hb hr hlocks hw (k) [0] rfl rfl ⟨rfl, by omega⟩ dX2_med3_79
    · refine lv_iload_n hx hb dX2_med3_43 rfl (lv_at hl 5 rfl) ?_
      refine lv_goto (tgt := 79) hx hb dX2_med3_44 (by decide) ?_
      exact z_iret hx hb hr hlocks hw (b) [0] rfl rfl ⟨rfl, by omega⟩ dX2_med3_79
section ZSS
variable {p : Program} {l : Launch} {e : Env} {s : State} {m : MethodId} {args : Array Value} {below : List Frame} {meth : Method} {c : Code} {Q : State → Prop} {D : va_G} {dJ dI : ClassId} {A : Nat → Prop}
set_option maxHeartbeats 4000000 in
set_option maxRecDepth 100000 in
/-- selectionSort's inner loop: r is a least place of i..j -/
theorem lp_sel1 {h0 n lo hi i : Nat} {g : Nat → Int64} (S : CallFix p m c cX2_selectionSort 7 s args lw_all RX2) (hn : n < 1073741824) (hin : hi ≤ n) (kx : ∀ (r : Nat) (H : Heap) (locs : List Loc) (ls : Array Slot), i ≤ r → r < hi → (∀ q, i ≤ q → q < hi → (g r).toInt ≤ (g q).toInt) → zW D dJ dI A s [zL h0 dJ n g] H locs → lv_has ls 7 [(0, .ref h0), (1, .int (zi ((lo : Nat) : Int))), (2, .int (zi ((hi : Nat) : Int))), (3, .int (zi ((i : Nat) : Int))), (4, .int (zi ((r : Nat) : Int)))] → W p l e (zRm 0 0 0 0) s m args below meth c H locs 0 0 Q (F0 m 45 ls [])) :
    ∀ (N j r : Nat) (z4 z5 : Int) (H : Heap) (locs : List Loc) (ls : Array Slot), hi < j + N → j ≤ hi → i < j → i ≤ r ∧ r < j → z4 = ((r : Nat) : Int) → z5 = ((j : Nat) : Int) → (∀ q, i ≤ q → q < j → (g r).toInt ≤ (g q).toInt) → zW D dJ dI A s [zL h0 dJ n g] H locs → lv_has ls 7 [(0, .ref h0), (1, .int (zi ((lo : Nat) : Int))), (2, .int (zi ((hi : Nat) : Int))), (3, .int (zi ((i : Nat) : Int))), (4, .int (zi z4)), (5, .int (zi z5))] → W p l e (zRm 0 0 0 0) s m args below meth c H locs 0 0 Q (F0 m 17 ls []) := by
  obtain ⟨hx, hb, hml, hown, hts⟩ := id S
  intro N
  induction N with
  | zero =>
    intro j r z4 z5 H locs ls h1 h2
    exact absurd h1 (by omega)
  | succ N ih =>
    intro j r z4 z5 H locs ls hN hj hij hr9 e4 e5 hmin hw hl
    subst e4
    subst e5
    refine lv_iload hx hb dX2_selectionSort_17 (lv_at hl 5 rfl) ?_
    refine lv_iload_n hx hb dX2_selectionSort_19 rfl (lv_at hl 2 rfl) ?_
    refine zi_icmp_ge (tgt := 45) hx hb dX2_selectionSort_20 (by decide) (by omega) (by omega) (fun c_20 => ?_) (fun c_20 => ?_)
    · exact kx r H locs ls (by omega) (by omega) (fun q h1 h2 => hmin q h1 (by omega)) hw (lv_sub hl [0, 1, 2, 3, 4] rfl)
    · refine lv_aload_n hx hb dX2_selectionSort_23 rfl (lv_at hl 0 rfl) ?_
      refine lv_iload hx hb dX2_selectionSort_24 (lv_at hl 5 rfl) ?_
      refine zl_ald hx hb hw 0 (j) rfl (by omega) (by omega) (by omega) dX2_selectionSort_26 ?_
      refine lv_aload_n hx hb dX2_selectionSort_27 rfl (lv_at hl 0 rfl) ?_
      refine lv_iload hx hb dX2_selectionSort_28 (lv_at hl 4 rfl) ?_
      refine zl_ald hx hb hw 0 (r) rfl (by omega) (by omega) (by omega) dX2_selectionSort_30 ?_
      refine zl_cmp hx hb dX2_selectionSort_31 ?_
      have hz_31_2 := zcz_spec ((g) (j)) ((g) (r))
      refine zi_if_ge (tgt := 39) hx hb dX2_selectionSort_32 (by decide) (by omega) (fun c_32 => ?_) (fun c_32 => ?_)
      · refine zi_inc (v := ((j + 1 : Nat) : Int)) (k := 5) (lv' := [(5, .int (zi (((j + 1 : Nat) : Int)))), (0, .ref h0), (1, .int (zi (((lo : Nat) : Int)))), (2, .int (zi (((hi : Nat) : Int)))), (3, .int (zi (((i : Nat) : Int)))), (4, .int (zi (((r : Nat) : Int))))]) hx hb dX2_selectionSort_39 hl rfl (by omega) (by decide) rfl (fun ls hl => ?_)
        refine lv_goto (tgt := 17) hx hb dX2_selectionSort_42 (by decide) ?_
        exact ih (j + 1) (r) _ _ H locs ls (by omega) (by omega) (by omega) (by omega) rfl rfl (fun q h1 h2 => by
            rcases (show q = j ∨ q < j by omega) with e | e
            · rw [e]; omega
            · have := hmin q h1 e
              omega) hw (lv_sub hl [1, 2, 3, 4, 5, 0] rfl)
      · refine lv_iload hx hb dX2_selectionSort_35 (lv_at hl 5 rfl) ?_
        refine lv_istore (lv' := [(4, .int (zi (((j : Nat) : Int)))), (0, .ref h0), (1, .int (zi (((lo : Nat) : Int)))), (2, .int (zi (((hi : Nat) : Int)))), (3, .int (zi (((i : Nat) : Int)))), (5, .int (zi (((j : Nat) : Int))))]) hx hb dX2_selectionSort_37 hl (by decide) rfl (fun ls hl => ?_)
        refine zi_inc (v := ((j + 1 : Nat) : Int)) (k := 5) (lv' := [(5, .int (zi (((j + 1 : Nat) : Int)))), (4, .int (zi (((j : Nat) : Int)))), (0, .ref h0), (1, .int (zi (((lo : Nat) : Int)))), (2, .int (zi (((hi : Nat) : Int)))), (3, .int (zi (((i : Nat) : Int))))]) hx hb dX2_selectionSort_39 hl rfl (by omega) (by decide) rfl (fun ls hl => ?_)
        refine lv_goto (tgt := 17) hx hb dX2_selectionSort_42 (by decide) ?_
        exact ih (j + 1) (j) _ _ H locs ls (by omega) (by omega) (by omega) (by omega) rfl rfl (fun q h1 h2 => by
            rcases (show q = j ∨ q < j by omega) with e | e
            · rw [e]; omega
            · have := hmin q h1 e
              omega) hw (lv_sub hl [2, 3, 4, 5, 1, 0] rfl)
set_option maxHeartbeats 4000000 in
set_option maxRecDepth 100000 in
/-- selectionSort's outer loop: the places lo..i are done -/
theorem lp_sel2 {h0 n lo hi : Nat} {f : Nat → Int64} (S : CallFix p m c cX2_selectionSort 7 s args lw_all RX2) (hn : n < 1073741824) (hin : hi ≤ n) (kx : ∀ (g : Nat → Int64) (H : Heap) (locs : List Loc) (ls : Array Slot), zW D dJ dI A s [zL h0 dJ n g] H locs → zs_pm f g lo hi → zs_srt g lo hi → W p l e (zRm 0 0 0 0) s m args below meth c H locs 0 0 Q (F0 m 75 ls [])) :
    ∀ (N i : Nat) (g : Nat → Int64) (z3 : Int) (H : Heap) (locs : List Loc) (ls : Array Slot), hi < i + N → i ≤ hi → lo ≤ i → z3 = ((i : Nat) : Int) → zs_pm f g lo hi → zs_sel g lo i hi → zW D dJ dI A s [zL h0 dJ n g] H locs → lv_has ls 7 [(0, .ref h0), (1, .int (zi ((lo : Nat) : Int))), (2, .int (zi ((hi : Nat) : Int))), (3, .int (zi z3))] → W p l e (zRm 0 0 0 0) s m args below meth c H locs 0 0 Q (F0 m 2 ls []) := by
  obtain ⟨hx, hb, hml, hown, hts⟩ := id S
  intro N
  induction N with
  | zero =>
    intro i g z3 H locs ls h1 h2
    exact absurd h1 (by omega)
  | succ N ih =>
    intro i g z3 H locs ls hN hi9 hi1 e3 hpm hsel hw hl
    subst e3
    refine lv_iload_n hx hb dX2_selectionSort_2 rfl (lv_at hl 3 rfl) ?_
    refine lv_iload_n hx hb dX2_selectionSort_3 rfl (lv_at hl 2 rfl) ?_
    refine zi_const hx hb dX2_selectionSort_4 ?_
    refine zi_sub (r := ((hi : Nat) : Int) - 1) hx hb dX2_selectionSort_5 rfl ?_
    refine zi_icmp_ge (tgt := 75) hx hb dX2_selectionSort_6 (by decide) (by omega) (by omega) (fun c_6 => ?_) (fun c_6 => ?_)
    · exact kx g H locs ls hw hpm (zs_sel_end hsel (by omega))
    · refine lv_iload_n hx hb dX2_selectionSort_9 rfl (lv_at hl 3 rfl) ?_
      refine lv_istore (lv' := [(4, .int (zi (((i : Nat) : Int)))), (0, .ref h0), (1, .int (zi (((lo : Nat) : Int)))), (2, .int (zi (((hi : Nat) : Int)))), (3, .int (zi (((i : Nat) : Int))))]) hx hb dX2_selectionSort_10 hl (by decide) rfl (fun ls hl => ?_)
      refine lv_iload_n hx hb dX2_selectionSort_12 rfl (lv_at hl 4 rfl) ?_
      refine zi_const hx hb dX2_selectionSort_13 ?_
      refine zi_add (r := ((i + 1 : Nat) : Int)) hx hb dX2_selectionSort_14 (by omega) ?_
      refine lv_istore (lv' := [(5, .int (zi (((i + 1 : Nat) : Int)))), (4, .int (zi (((i : Nat) : Int)))), (0, .ref h0), (1, .int (zi (((lo : Nat) : Int)))), (2, .int (zi (((hi : Nat) : Int)))), (3, .int (zi (((i : Nat) : Int))))]) hx hb dX2_selectionSort_15 hl (by decide) rfl (fun ls hl => ?_)
      refine lp_sel1 (lo := lo) (hi := hi) (i := i) (g := g) S hn hin (fun r H locs ls h1 h2 hmin hw hl => ?_) hi (i + 1) i _ _ H locs ls (by omega) (by omega) (by omega) (by omega) rfl rfl (fun q h1 h2 => by
          have e : q = i := by omega
          rw [e]
          omega) hw (lv_sub hl [2, 3, 4, 5, 1, 0] rfl)
      refine lv_iload hx hb dX2_selectionSort_45 (lv_at hl 4 rfl) ?_
      refine lv_iload_n hx hb dX2_selectionSort_47 rfl (lv_at hl 3 rfl) ?_
      refine zi_icmp_eq (tgt := 69) hx hb dX2_selectionSort_48 (by decide) (by omega) (by omega) (fun c_48 => ?_) (fun c_48 => ?_)
      · refine zi_inc (v := ((i + 1 : Nat) : Int)) (k := 3) (lv' := [(3, .int (zi (((i + 1 : Nat) : Int)))), (0, .ref h0), (1, .int (zi (((lo : Nat) : Int)))), (2, .int (zi (((hi : Nat) : Int)))), (4, .int (zi (((r : Nat) : Int))))]) hx hb dX2_selectionSort_69 hl rfl (by omega) (by decide) rfl (fun ls hl => ?_)
        refine lv_goto (tgt := 2) hx hb dX2_selectionSort_72 (by decide) ?_
        exact ih (i + 1) (g) _ H locs ls (by omega) (by omega) (by omega) rfl (hpm) (by
            have e : r = i := by omega
            subst e
            have q := zs_sel_step hsel h1 h2 hmin
            rw [zs_sw_self] at q
            exact q) hw (lv_sub hl [1, 2, 3, 0] rfl)
      · refine lv_aload_n hx hb dX2_selectionSort_51 rfl (lv_at hl 0 rfl) ?_
        refine lv_iload_n hx hb dX2_selectionSort_52 rfl (lv_at hl 3 rfl) ?_
        refine zl_ald hx hb hw 0 (i) rfl (by omega) (by omega) (by omega) dX2_selectionSort_53 ?_
        refine lv_lstore (lv' := [(5, .long ((g) (i))), (0, .ref h0), (1, .int (zi (((lo : Nat) : Int)))), (2, .int (zi (((hi : Nat) : Int)))), (3, .int (zi (((i : Nat) : Int)))), (4, .int (zi (((r : Nat) : Int))))]) hx hb dX2_selectionSort_54 hl (by decide) rfl (fun ls hl => ?_)
        refine lv_aload_n hx hb dX2_selectionSort_56 rfl (lv_at hl 1 rfl) ?_
        refine lv_iload_n hx hb dX2_selectionSort_57 rfl (lv_at hl 4 rfl) ?_
        refine lv_aload_n hx hb dX2_selectionSort_58 rfl (lv_at hl 1 rfl) ?_
        refine lv_iload hx hb dX2_selectionSort_59 (lv_at hl 5 rfl) ?_
        refine zl_ald hx hb hw 0 (r) rfl (by omega) (by omega) (by omega) dX2_selectionSort_61 ?_
        refine zl_ast (ws' := [zL h0 dJ n (vp_updL (g) (i) ((g) (r)))]) hx hb hw 0 (i) rfl (by omega) (by omega) (by omega) dX2_selectionSort_62 rfl (fun H locs hw => ?_)
        refine lv_aload_n hx hb dX2_selectionSort_63 rfl (lv_at hl 1 rfl) ?_
        refine lv_iload hx hb dX2_selectionSort_64 (lv_at hl 5 rfl) ?_
        refine lv_lload hx hb dX2_selectionSort_66 (lv_at hl 0 rfl) ?_
        refine zl_ast (ws' := [zL h0 dJ n (vp_updL (vp_updL (g) (i) ((g) (r))) (r) ((g) (i)))]) hx hb hw 0 (r) rfl (by omega) (by omega) (by omega) dX2_selectionSort_68 rfl (fun H locs hw => ?_)
        refine zi_inc (v := ((i + 1 : Nat) : Int)) (k := 4) (lv' := [(3, .int (zi (((i + 1 : Nat) : Int)))), (5, .long ((g) (i))), (0, .ref h0), (1, .int (zi (((lo : Nat) : Int)))), (2, .int (zi (((hi : Nat) : Int)))), (4, .int (zi (((r : Nat) : Int))))]) hx hb dX2_selectionSort_69 hl rfl (by omega) (by decide) rfl (fun ls hl => ?_)
        refine lv_goto (tgt := 2) hx hb dX2_selectionSort_72 (by decide) ?_
        exact ih (i + 1) (vp_updL (vp_updL (g) (i) ((g) (r))) (r) ((g) (i))) _ H locs ls (by omega) (by omega) (by omega) rfl (hpm.tr (zs_sw_pm (by omega) (by omega) (by omega) (by omega))) (zs_sel_step hsel h1 h2 hmin) hw (lv_sub hl [2, 3, 4, 0] rfl)
end ZSS
set_option maxHeartbeats 4000000 in
set_option maxRecDepth 100000 in
theorem met_sel (l : Launch) (D : va_G) (dJ dI : ClassId) (h0 n : Nat) (f : Nat → Int64) (za zb : Int) (lo hi : Nat) (ea : za = (lo : Int)) (eb : zb = (hi : Int)) (hlh : lo ≤ hi) (hin : hi ≤ n) (hn : n < 1073741824) : zCV l yX2_selectionSort cX2_selectionSort 7 0 0 0 0 D dJ dI [.ref h0, .int (zi za), .int (zi zb)] [zL h0 dJ n f] (fun g : Nat → Int64 => zs_pm f g lo hi ∧ zs_srt g lo hi) (fun g => [zL h0 dJ n g]) := by
  subst ea
  subst eb
  refine z_met (by decide) (Nat.le_of_ble_eq_true rfl) ?_
  intro p e s m below meth c ls S hr hlocks hnm hw hl
  have S : CallFix p m c cX2_selectionSort 7 s _ lw_all RX2 := S
  obtain ⟨hx, hb, hml, hown, hts⟩ := id S
  have hl : lv_has ls 7 [(0, .ref h0), (1, .int (zi (((lo : Nat) : Int)))), (2, .int (zi (((hi : Nat) : Int))))] := hl
  refine lv_iload_n hx hb dX2_selectionSort_0 rfl (lv_at hl 1 rfl) ?_
  refine lv_istore_n (lv' := [(3, .int (zi (((lo : Nat) : Int)))), (0, .ref h0), (1, .int (zi (((lo : Nat) : Int)))), (2, .int (zi (((hi : Nat) : Int))))]) hx hb dX2_selectionSort_1 rfl hl (by decide) rfl (fun ls hl => ?_)
  refine lp_sel2 (f := f) (lo := lo) (hi := hi) S hn hin (fun g H locs ls hw hp1 hp2 => ?_) (hi + 1) lo f _ _ _ ls (by omega) (by omega) (by omega) rfl zs_pm.rf zs_sel_0 hw (lv_sub hl [1, 2, 3, 0] rfl)
  exact z_vret hx hb hr hlocks hw g [0] rfl rfl ⟨hp1, hp2⟩ dX2_selectionSort_75
section ZIS
variable {p : Program} {l : Launch} {e : Env} {s : State} {m : MethodId} {args : Array Value} {below : List Frame} {meth : Method} {c : Code} {Q : State → Prop} {D : va_G} {dJ dI : ClassId} {A : Nat → Prop}
set_option maxHeartbeats 4000000 in
set_option maxRecDepth 100000 in
/-- insertionSort's inner loop: the hole at jj + 1, t in the hand -/
theorem lp_ins1 {h0 n lo hi i : Nat} {t : Int64} {f : Nat → Int64} (S : CallFix p m c cX2_insertionSort 9 s args lw_all RX2) (hn : n < 1073741824) (hin : hi ≤ n) (hi9 : i < hi) (kx : ∀ (j : Nat) (g : Nat → Int64) (z6 : Int) (H : Heap) (locs : List Loc) (ls : Array Slot), lo ≤ j → j ≤ i → z6 = ((j : Nat) : Int) → zs_pm f (vp_updL g j t) lo hi ∧ zs_srt (vp_updL g j t) lo (i + 1) → zW D dJ dI A s [zL h0 dJ n g] H locs → lv_has ls 9 [(0, .ref h0), (1, .int (zi ((lo : Nat) : Int))), (2, .int (zi ((hi : Nat) : Int))), (3, .int (zi ((i : Nat) : Int))), (4, .long t), (6, .int (zi z6))] → W p l e (zRm 0 0 0 0) s m args below meth c H locs 0 0 Q (F0 m 68 ls [])) :
    ∀ (N jj : Nat) (g : Nat → Int64) (z6 : Int) (u : Int64) (H : Heap) (locs : List Loc) (ls : Array Slot), jj < N → lo ≤ jj → jj + 1 ≤ i → z6 = ((jj + 1 : Nat) : Int) → u = g jj → zs_ins f g t lo (jj + 1) i hi → zW D dJ dI A s [zL h0 dJ n g] H locs → lv_has ls 9 [(0, .ref h0), (1, .int (zi ((lo : Nat) : Int))), (2, .int (zi ((hi : Nat) : Int))), (3, .int (zi ((i : Nat) : Int))), (4, .long t), (6, .int (zi z6)), (7, .long u)] → W p l e (zRm 0 0 0 0) s m args below meth c H locs 0 0 Q (F0 m 26 ls []) := by
  obtain ⟨hx, hb, hml, hown, hts⟩ := id S
  intro N
  induction N with
  | zero =>
    intro jj g z6 u H locs ls h1
    exact absurd h1 (by omega)
  | succ N ih =>
    intro jj g z6 u H locs ls hN hlo hji e6 eu hI hw hl
    subst e6
    subst eu
    refine lv_lload hx hb dX2_insertionSort_26 (lv_at hl 4 rfl) ?_
    refine lv_lload hx hb dX2_insertionSort_28 (lv_at hl 6 rfl) ?_
    refine zl_cmp hx hb dX2_insertionSort_30 ?_
    have hz_30_1 := zcz_spec (t) (g jj)
    refine zi_if_ge (tgt := 68) hx hb dX2_insertionSort_31 (by decide) (by omega) (fun c_31 => ?_) (fun c_31 => ?_)
    · exact kx (jj + 1) (g) _ H locs ls (by omega) (by omega) (by omega) (zs_ins_e hI (by omega) (by omega) (Or.inr ⟨by omega, by
          show (g jj).toInt ≤ t.toInt
          omega⟩)) hw (lv_sub hl [0, 1, 2, 3, 4, 5] rfl)
    · refine lv_aload_n hx hb dX2_insertionSort_34 rfl (lv_at hl 0 rfl) ?_
      refine lv_iload hx hb dX2_insertionSort_35 (lv_at hl 5 rfl) ?_
      refine lv_lload hx hb dX2_insertionSort_37 (lv_at hl 6 rfl) ?_
      refine zl_ast (ws' := [zL h0 dJ n (vp_updL (g) (jj + 1) (g jj))]) hx hb hw 0 (jj + 1) rfl (by omega) (by omega) (by omega) dX2_insertionSort_39 rfl (fun H locs hw => ?_)
      refine lv_iload_n hx hb dX2_insertionSort_40 rfl (lv_at hl 1 rfl) ?_
      refine lv_iload hx hb dX2_insertionSort_41 (lv_at hl 5 rfl) ?_
      refine zi_const hx hb dX2_insertionSort_43 ?_
      refine zi_sub (r := ((jj : Nat) : Int)) hx hb dX2_insertionSort_44 (by omega) ?_
      refine zi_icmp_ne (tgt := 54) hx hb dX2_insertionSort_45 (by decide) (by omega) (by omega) (fun c_45 => ?_) (fun c_45 => ?_)
      · obtain ⟨k, rfl⟩ : ∃ k, jj = k + 1 := ⟨jj - 1, by omega⟩
        refine lv_aload_n hx hb dX2_insertionSort_54 rfl (lv_at hl 0 rfl) ?_
        refine zi_inc (v := ((k + 1 : Nat) : Int)) (k := 5) (lv' := [(6, .int (zi (((k + 1 : Nat) : Int)))), (0, .ref h0), (1, .int (zi (((lo : Nat) : Int)))), (2, .int (zi (((hi : Nat) : Int)))), (3, .int (zi (((i : Nat) : Int)))), (4, .long (t)), (7, .long (g (k + 1)))]) hx hb dX2_insertionSort_55 hl rfl (by omega) (by decide) rfl (fun ls hl => ?_)
        refine lv_iload hx hb dX2_insertionSort_58 (lv_at hl 0 rfl) ?_
        refine zi_const hx hb dX2_insertionSort_60 ?_
        refine zi_sub (r := ((k : Nat) : Int)) hx hb dX2_insertionSort_61 (by omega) ?_
        refine zl_ald hx hb hw 0 (k) rfl (by omega) (by omega) (by omega) dX2_insertionSort_62 ?_
        refine lv_lstore (lv' := [(7, .long ((vp_updL (g) ((k + 1) + 1) (g (k + 1))) (k))), (6, .int (zi (((k + 1 : Nat) : Int)))), (0, .ref h0), (1, .int (zi (((lo : Nat) : Int)))), (2, .int (zi (((hi : Nat) : Int)))), (3, .int (zi (((i : Nat) : Int)))), (4, .long (t))]) hx hb dX2_insertionSort_63 hl (by decide) rfl (fun ls hl => ?_)
        refine lv_goto (tgt := 26) hx hb dX2_insertionSort_65 (by decide) ?_
        exact ih k (vp_updL (g) ((k + 1) + 1) (g (k + 1))) _ _ H locs ls (by omega) (by omega) (by omega) (by omega) rfl (zs_ins_s hI (by omega) (by omega) (by omega) (by omega)) hw (lv_sub hl [2, 3, 4, 5, 6, 1, 0] rfl)
      · refine zi_inc (v := ((jj : Nat) : Int)) (k := 5) (lv' := [(6, .int (zi (((jj : Nat) : Int)))), (0, .ref h0), (1, .int (zi (((lo : Nat) : Int)))), (2, .int (zi (((hi : Nat) : Int)))), (3, .int (zi (((i : Nat) : Int)))), (4, .long (t)), (7, .long (g jj))]) hx hb dX2_insertionSort_48 hl rfl (by omega) (by decide) rfl (fun ls hl => ?_)
        refine lv_goto (tgt := 68) hx hb dX2_insertionSort_51 (by decide) ?_
        exact kx (jj) (vp_updL (g) (jj + 1) (g jj)) _ H locs ls (by omega) (by omega) (by omega) (zs_ins_e (zs_ins_s hI (by omega) (by omega) (by omega) (by omega)) (by omega) (by omega) (Or.inl (by omega))) hw (lv_sub hl [1, 2, 3, 4, 5, 0] rfl)
set_option maxHeartbeats 4000000 in
set_option maxRecDepth 100000 in
/-- insertionSort's outer loop: the places lo..i are in order -/
theorem lp_ins2 {h0 n lo hi : Nat} {f : Nat → Int64} (S : CallFix p m c cX2_insertionSort 9 s args lw_all RX2) (hn : n < 1073741824) (hin : hi ≤ n) (kx : ∀ (g : Nat → Int64) (H : Heap) (locs : List Loc) (ls : Array Slot), zW D dJ dI A s [zL h0 dJ n g] H locs → zs_pm f g lo hi → zs_srt g lo hi → W p l e (zRm 0 0 0 0) s m args below meth c H locs 0 0 Q (F0 m 77 ls [])) :
    ∀ (N i : Nat) (g0 : Nat → Int64) (z3 : Int) (H : Heap) (locs : List Loc) (ls : Array Slot), hi < i + N → i ≤ hi → lo ≤ i → z3 = ((i : Nat) : Int) → zs_pm f g0 lo hi → zs_srt g0 lo (i + 1) → zW D dJ dI A s [zL h0 dJ n g0] H locs → lv_has ls 9 [(0, .ref h0), (1, .int (zi ((lo : Nat) : Int))), (2, .int (zi ((hi : Nat) : Int))), (3, .int (zi z3))] → W p l e (zRm 0 0 0 0) s m args below meth c H locs 0 0 Q (F0 m 2 ls []) := by
  obtain ⟨hx, hb, hml, hown, hts⟩ := id S
  intro N
  induction N with
  | zero =>
    intro i g0 z3 H locs ls h1 h2
    exact absurd h1 (by omega)
  | succ N ih =>
    intro i g0 z3 H locs ls hN hi9 hi1 e3 hpm hsr hw hl
    subst e3
    refine zi_inc (v := ((i + 1 : Nat) : Int)) (k := 3) (lv' := [(3, .int (zi (((i + 1 : Nat) : Int)))), (0, .ref h0), (1, .int (zi (((lo : Nat) : Int)))), (2, .int (zi (((hi : Nat) : Int))))]) hx hb dX2_insertionSort_2 hl rfl (by omega) (by decide) rfl (fun ls hl => ?_)
    refine lv_iload_n hx hb dX2_insertionSort_5 rfl (lv_at hl 0 rfl) ?_
    refine lv_iload_n hx hb dX2_insertionSort_6 rfl (lv_at hl 3 rfl) ?_
    refine zi_icmp_ge (tgt := 77) hx hb dX2_insertionSort_7 (by decide) (by omega) (by omega) (fun c_7 => ?_) (fun c_7 => ?_)
    · exact kx g0 H locs ls hw hpm (fun p q a b c => hsr p q a b (by omega))
    · refine lv_aload_n hx hb dX2_insertionSort_10 rfl (lv_at hl 1 rfl) ?_
      refine lv_iload_n hx hb dX2_insertionSort_11 rfl (lv_at hl 0 rfl) ?_
      refine zl_ald hx hb hw 0 (i + 1) rfl (by omega) (by omega) (by omega) dX2_insertionSort_12 ?_
      refine lv_lstore (lv' := [(4, .long ((g0) (i + 1))), (3, .int (zi (((i + 1 : Nat) : Int)))), (0, .ref h0), (1, .int (zi (((lo : Nat) : Int)))), (2, .int (zi (((hi : Nat) : Int))))]) hx hb dX2_insertionSort_13 hl (by decide) rfl (fun ls hl => ?_)
      refine lv_iload_n hx hb dX2_insertionSort_15 rfl (lv_at hl 1 rfl) ?_
      refine lv_istore (lv' := [(6, .int (zi (((i + 1 : Nat) : Int)))), (4, .long ((g0) (i + 1))), (3, .int (zi (((i + 1 : Nat) : Int)))), (0, .ref h0), (1, .int (zi (((lo : Nat) : Int)))), (2, .int (zi (((hi : Nat) : Int))))]) hx hb dX2_insertionSort_16 hl (by decide) rfl (fun ls hl => ?_)
      refine lv_aload_n hx hb dX2_insertionSort_18 rfl (lv_at hl 3 rfl) ?_
      refine lv_iload hx hb dX2_insertionSort_19 (lv_at hl 0 rfl) ?_
      refine zi_const hx hb dX2_insertionSort_21 ?_
      refine zi_sub (r := ((i : Nat) : Int)) hx hb dX2_insertionSort_22 (by omega) ?_
      refine zl_ald hx hb hw 0 (i) rfl (by omega) (by omega) (by omega) dX2_insertionSort_23 ?_
      refine lv_lstore (lv' := [(7, .long ((g0) (i))), (6, .int (zi (((i + 1 : Nat) : Int)))), (4, .long ((g0) (i + 1))), (3, .int (zi (((i + 1 : Nat) : Int)))), (0, .ref h0), (1, .int (zi (((lo : Nat) : Int)))), (2, .int (zi (((hi : Nat) : Int))))]) hx hb dX2_insertionSort_24 hl (by decide) rfl (fun ls hl => ?_)
      refine lp_ins1 (f := f) (lo := lo) (hi := hi) (i := i + 1) (t := g0 (i + 1)) S hn hin (by omega) (fun j g z6 H locs ls h1 h2 e6 hp hw hl => ?_) (i + 1) i g0 _ _ H locs ls (by omega) (by omega) (by omega) rfl rfl (zs_ins_0 hpm hsr) hw (lv_sub hl [4, 5, 6, 3, 2, 1, 0] rfl)
      subst e6
      refine lv_aload_n hx hb dX2_insertionSort_68 rfl (lv_at hl 0 rfl) ?_
      refine lv_iload hx hb dX2_insertionSort_69 (lv_at hl 5 rfl) ?_
      refine lv_lload hx hb dX2_insertionSort_71 (lv_at hl 4 rfl) ?_
      refine zl_ast (ws' := [zL h0 dJ n (vp_updL (g) (j) (g0 (i + 1)))]) hx hb hw 0 (j) rfl (by omega) (by omega) (by omega) dX2_insertionSort_73 rfl (fun H locs hw => ?_)
      refine lv_goto (tgt := 2) hx hb dX2_insertionSort_74 (by decide) ?_
      exact ih (i + 1) (vp_updL (g) (j) (g0 (i + 1))) _ H locs ls (by omega) (by omega) (by omega) rfl hp.1 hp.2 hw (lv_sub hl [0, 1, 2, 3] rfl)
end ZIS
set_option maxHeartbeats 4000000 in
set_option maxRecDepth 100000 in
theorem met_ins (l : Launch) (D : va_G) (dJ dI : ClassId) (h0 n : Nat) (f : Nat → Int64) (za zb : Int) (lo hi : Nat) (ea : za = (lo : Int)) (eb : zb = (hi : Int)) (hlh : lo ≤ hi) (hin : hi ≤ n) (hn : n < 1073741824) : zCV l yX2_insertionSort cX2_insertionSort 9 0 0 0 0 D dJ dI [.ref h0, .int (zi za), .int (zi zb)] [zL h0 dJ n f] (fun g : Nat → Int64 => zs_pm f g lo hi ∧ zs_srt g lo hi) (fun g => [zL h0 dJ n g]) := by
  subst ea
  subst eb
  refine z_met (by decide) (Nat.le_of_ble_eq_true rfl) ?_
  intro p e s m below meth c ls S hr hlocks hnm hw hl
  have S : CallFix p m c cX2_insertionSort 9 s _ lw_all RX2 := S
  obtain ⟨hx, hb, hml, hown, hts⟩ := id S
  have hl : lv_has ls 9 [(0, .ref h0), (1, .int (zi (((lo : Nat) : Int)))), (2, .int (zi (((hi : Nat) : Int))))] := hl
  refine lv_iload_n hx hb dX2_insertionSort_0 rfl (lv_at hl 1 rfl) ?_
  refine lv_istore_n (lv' := [(3, .int (zi (((lo : Nat) : Int)))), (0, .ref h0), (1, .int (zi (((lo : Nat) : Int)))), (2, .int (zi (((hi : Nat) : Int))))]) hx hb dX2_insertionSort_1 rfl hl (by decide) rfl (fun ls hl => ?_)
  refine lp_ins2 (f := f) (lo := lo) (hi := hi) S hn hin (fun g H locs ls hw hp1 hp2 => ?_) (hi + 1) lo f _ _ _ ls (by omega) (by omega) (by omega) rfl zs_pm.rf (zs_srt_1 (by omega)) hw (lv_sub hl [1, 2, 3, 0] rfl)
  exact z_vret hx hb hr hlocks hw g [0] rfl rfl ⟨hp1, hp2⟩ dX2_insertionSort_77
section ZBS
variable {p : Program} {l : Launch} {e : Env} {s : State} {m : MethodId} {args : Array Value} {below : List Frame} {meth : Method} {c : Code} {Q : State → Prop} {D : va_G} {dJ dI : ClassId} {A : Nat → Prop}
set_option maxHeartbeats 4000000 in
set_option maxRecDepth 100000 in
/-- binarySearch's loop -/
theorem lp_bs {h0 n k : Nat} {key : Int64} {f : Nat → Int64} (S : CallFix p m c cX2_binarySearch 8 s args lw_all RX2) (hn : n < 1073741824) (hkn : k ≤ n) (hs : zs_srt f 0 k) (kx : ∀ (z : Int) (H : Heap) (locs : List Loc) (ls : Array Slot) (pc : Nat), decode cX2_binarySearch pc = .ok (.ireturn, 1) → (∃ md, md < k ∧ f md = key ∧ z = ((md : Nat) : Int)) ∨ (∃ ins, ins ≤ k ∧ (∀ j, j < ins → (f j).toInt < key.toInt) ∧ (∀ j, ins ≤ j → j < k → key.toInt < (f j).toInt) ∧ z = -((ins : Int) + 1)) → zW D dJ dI A s [zL h0 dJ n f] H locs → W p l e (zRm 0 0 0 0) s m args below meth c H locs 0 0 Q (F0 m pc ls [.int (zi z)])) :
    ∀ (N lo hi : Nat) (z1 z2 : Int) (H : Heap) (locs : List Loc) (ls : Array Slot), hi < lo + N → z1 = ((lo : Nat) : Int) → z2 = ((hi : Nat) : Int) - 1 → zs_bs f key k lo hi → zW D dJ dI A s [zL h0 dJ n f] H locs → lv_has ls 8 [(0, .ref h0), (1, .int (zi z1)), (2, .int (zi z2)), (3, .long key)] → W p l e (zRm 0 0 0 0) s m args below meth c H locs 0 0 Q (F0 m 3 ls []) := by
  obtain ⟨hx, hb, hml, hown, hts⟩ := id S
  intro N
  induction N with
  | zero =>
    intro lo hi z1 z2 H locs ls h1 e1 e2 hI
    exact absurd h1 (by have := hI.1; omega)
  | succ N ih =>
    intro lo hi z1 z2 H locs ls hN e1 e2 hI hw hl
    subst e1
    subst e2
    have hI1 := hI.1
    have hI2 := hI.2.1
    refine lv_iload_n hx hb dX2_binarySearch_3 rfl (lv_at hl 1 rfl) ?_
    refine lv_iload_n hx hb dX2_binarySearch_4 rfl (lv_at hl 2 rfl) ?_
    refine zi_icmp_gt (tgt := 57) hx hb dX2_binarySearch_5 (by decide) (by omega) (by omega) (fun c_5 => ?_) (fun c_5 => ?_)
    · obtain ⟨hI1, hI2, -, -⟩ := id hI
      refine lv_iload_n hx hb dX2_binarySearch_57 rfl (lv_at hl 1 rfl) ?_
      refine zi_const hx hb dX2_binarySearch_58 ?_
      refine zi_add (r := ((lo : Nat) : Int) + 1) hx hb dX2_binarySearch_59 (by omega) ?_
      refine zi_neg (r := -(((lo : Nat) : Int) + 1)) hx hb dX2_binarySearch_60 (by omega) ?_
      exact kx (-(((lo : Nat) : Int) + 1)) H locs ls _ dX2_binarySearch_61 (Or.inr ⟨lo, by omega, fun j h => hI.2.2.1 j h, fun j h h2 => hI.2.2.2 j (by omega) h2, rfl⟩) hw
    · obtain ⟨hI1, hI2, -, -⟩ := id hI
      refine lv_iload_n hx hb dX2_binarySearch_8 rfl (lv_at hl 1 rfl) ?_
      refine lv_iload_n hx hb dX2_binarySearch_9 rfl (lv_at hl 2 rfl) ?_
      refine zi_add (r := ((lo + hi - 1 : Nat) : Int)) hx hb dX2_binarySearch_10 (by omega) ?_
      refine zi_const hx hb dX2_binarySearch_11 ?_
      refine zi_shr1 (a := lo + hi - 1) hx hb dX2_binarySearch_12 (by omega) (by omega) ?_
      refine lv_istore (lv' := [(7, .int (zi ((((lo + hi - 1) / 2 : Nat) : Int)))), (0, .ref h0), (1, .int (zi (((lo : Nat) : Int)))), (2, .int (zi (((hi : Nat) : Int) - 1))), (3, .long (key))]) hx hb dX2_binarySearch_13 hl (by decide) rfl (fun ls hl => ?_)
      refine lv_aload_n hx hb dX2_binarySearch_15 rfl (lv_at hl 1 rfl) ?_
      refine lv_iload hx hb dX2_binarySearch_16 (lv_at hl 0 rfl) ?_
      refine zl_ald hx hb hw 0 ((lo + hi - 1) / 2) rfl (by omega) (by omega) (by omega) dX2_binarySearch_18 ?_
      refine lv_lstore (lv' := [(5, .long ((f) ((lo + hi - 1) / 2))), (7, .int (zi ((((lo + hi - 1) / 2 : Nat) : Int)))), (0, .ref h0), (1, .int (zi (((lo : Nat) : Int)))), (2, .int (zi (((hi : Nat) : Int) - 1))), (3, .long (key))]) hx hb dX2_binarySearch_19 hl (by decide) rfl (fun ls hl => ?_)
      refine lv_lload hx hb dX2_binarySearch_21 (lv_at hl 0 rfl) ?_
      refine lv_lload_n hx hb dX2_binarySearch_23 rfl (lv_at hl 5 rfl) ?_
      refine zl_cmp hx hb dX2_binarySearch_24 ?_
      have hz_24_2 := zcz_spec ((f) ((lo + hi - 1) / 2)) (key)
      refine zi_if_ge (tgt := 36) hx hb dX2_binarySearch_25 (by decide) (by omega) (fun c_25 => ?_) (fun c_25 => ?_)
      · refine lv_lload hx hb dX2_binarySearch_36 (lv_at hl 0 rfl) ?_
        refine lv_lload_n hx hb dX2_binarySearch_38 rfl (lv_at hl 5 rfl) ?_
        refine zl_cmp hx hb dX2_binarySearch_39 ?_
        have hz_39_4 := zcz_spec ((f) ((lo + hi - 1) / 2)) (key)
        refine zi_if_le (tgt := 51) hx hb dX2_binarySearch_40 (by decide) (by omega) (fun c_40 => ?_) (fun c_40 => ?_)
        · refine lv_iload hx hb dX2_binarySearch_51 (lv_at hl 1 rfl) ?_
          exact kx ((((lo + hi - 1) / 2 : Nat) : Int)) H locs ls _ dX2_binarySearch_53 (Or.inl ⟨(lo + hi - 1) / 2, by omega, Int64.toInt_inj.mp (by omega), rfl⟩) hw
        · refine lv_iload hx hb dX2_binarySearch_43 (lv_at hl 1 rfl) ?_
          refine zi_const hx hb dX2_binarySearch_45 ?_
          refine zi_sub (r := (((lo + hi - 1) / 2 : Nat) : Int) - 1) hx hb dX2_binarySearch_46 (by omega) ?_
          refine lv_istore_n (lv' := [(2, .int (zi ((((lo + hi - 1) / 2 : Nat) : Int) - 1))), (5, .long ((f) ((lo + hi - 1) / 2))), (7, .int (zi ((((lo + hi - 1) / 2 : Nat) : Int)))), (0, .ref h0), (1, .int (zi (((lo : Nat) : Int)))), (3, .long (key))]) hx hb dX2_binarySearch_47 rfl hl (by decide) rfl (fun ls hl => ?_)
          refine lv_goto (tgt := 54) hx hb dX2_binarySearch_48 (by decide) ?_
          refine lv_goto (tgt := 3) hx hb dX2_binarySearch_54 (by decide) ?_
          exact ih lo ((lo + hi - 1) / 2) _ _ H locs ls (by omega) (by omega) (by omega) (zs_bs_r hI hs (by omega) (by omega) (by omega)) hw (lv_sub hl [3, 4, 0, 5] rfl)
      · refine lv_iload hx hb dX2_binarySearch_28 (lv_at hl 1 rfl) ?_
        refine zi_const hx hb dX2_binarySearch_30 ?_
        refine zi_add (r := (((lo + hi - 1) / 2 + 1 : Nat) : Int)) hx hb dX2_binarySearch_31 (by omega) ?_
        refine lv_istore_n (lv' := [(1, .int (zi ((((lo + hi - 1) / 2 + 1 : Nat) : Int)))), (5, .long ((f) ((lo + hi - 1) / 2))), (7, .int (zi ((((lo + hi - 1) / 2 : Nat) : Int)))), (0, .ref h0), (2, .int (zi (((hi : Nat) : Int) - 1))), (3, .long (key))]) hx hb dX2_binarySearch_32 rfl hl (by decide) rfl (fun ls hl => ?_)
        refine lv_goto (tgt := 54) hx hb dX2_binarySearch_33 (by decide) ?_
        refine lv_goto (tgt := 3) hx hb dX2_binarySearch_54 (by decide) ?_
        exact ih ((lo + hi - 1) / 2 + 1) hi _ _ H locs ls (by omega) (by omega) (by omega) (zs_bs_l hI hs (by omega) (by omega) (by omega)) hw (lv_sub hl [3, 0, 4, 5] rfl)
end ZBS
set_option maxHeartbeats 4000000 in
set_option maxRecDepth 100000 in
theorem met_bs (l : Launch) (D : va_G) (dJ dI : ClassId) (h0 n : Nat) (f : Nat → Int64) (key : Int64) (za zb : Int) (k : Nat) (ea : za = 0) (eb : zb = (k : Int)) (hkn : k ≤ n) (hn : n < 1073741824) (hs : zs_srt f 0 k) : zCI l yX2_binarySearch cX2_binarySearch 8 0 0 0 0 D dJ dI [.ref h0, .int (zi za), .int (zi zb), .long key] [zL h0 dJ n f] (fun (r : Int32) (z : Int) => r = zi z ∧ ((∃ md, md < k ∧ f md = key ∧ z = ((md : Nat) : Int)) ∨ (∃ ins, ins ≤ k ∧ (∀ j, j < ins → (f j).toInt < key.toInt) ∧ (∀ j, ins ≤ j → j < k → key.toInt < (f j).toInt) ∧ z = -((ins : Int) + 1)))) (fun _ => [zL h0 dJ n f]) := by
  subst eb
  refine z_met (by decide) (Nat.le_of_ble_eq_true rfl) ?_
  intro p e s m below meth c ls S hr hlocks hnm hw hl
  have S : CallFix p m c cX2_binarySearch 8 s _ lw_all RX2 := S
  obtain ⟨hx, hb, hml, hown, hts⟩ := id S
  have hl : lv_has ls 8 [(0, .ref h0), (1, .int (zi (za))), (2, .int (zi (((k : Nat) : Int)))), (3, .long (key))] := hl
  refine zi_inc (v := ((k : Nat) : Int) - 1) (k := 2) (lv' := [(2, .int (zi (((k : Nat) : Int) - 1))), (0, .ref h0), (1, .int (zi (za))), (3, .long (key))]) hx hb dX2_binarySearch_0 hl rfl (by omega) (by decide) rfl (fun ls hl => ?_)
  refine lp_bs (f := f) (key := key) (k := k) S (by omega) hkn hs (fun z H locs ls pc hd hp hw => ?_) (k + 1) 0 k _ _ _ _ ls (by omega) (by omega) (by omega) zs_bs_0 hw (lv_sub hl [1, 2, 0, 3] rfl)
  exact z_iret hx hb hr hlocks hw z [0] rfl rfl ⟨rfl, hp⟩ hd
end
section
/-! LongArrays.quickSort. Printed by gen/m10.py. In the rows c and d are one more than the program's c and d -/
set_option maxRecDepth 100000
/-- quickSort's contract, for less than 16 + d numbers -/
def zQk (l : Launch) (D : va_G) (dJ dI : ClassId) (d : Nat) : Prop := ∀ (h0 n : Nat) (f : Nat → Int64) (za zb : Int) (lo hi : Nat), za = (lo : Int) → zb = (hi : Int) → lo ≤ hi → hi ≤ n → n < 1073741824 → hi < lo + 16 + d → zCV l yX2_quickSort cX2_quickSort 14 (d + 2) 0 0 (33 * d + 49) D dJ dI [.ref h0, .int (zi za), .int (zi zb)] [zL h0 dJ n f] (fun g : Nat → Int64 => zs_pm f g lo hi ∧ zs_srt g lo hi) (fun g => [zL h0 dJ n g])
section ZQS
variable {p : Program} {l : Launch} {e : Env} {s : State} {m : MethodId} {args : Array Value} {below : List Frame} {meth : Method} {c : Code} {Q : State → Prop} {D : va_G} {dJ dI : ClassId} {A : Nat → Prop}
set_option maxHeartbeats 4000000 in
set_option maxRecDepth 100000 in
/-- the first inner loop -/
theorem lp_q1 {h0 n lo hi d9 b0 c0 d0 : Nat} {v : Int64} {f : Nat → Int64} (S : CallFix p m c cX2_quickSort 14 s args lw_all RX2) (hn : n < 1073741824) (hin : hi ≤ n) (kx : ∀ (a b : Nat) (g : Nat → Int64) (z9 z10 : Int) (H : Heap) (locs : List Loc) (ls : Array Slot), b0 ≤ b → z9 = ((a : Nat) : Int) → z10 = ((b : Nat) : Int) → zs_qI f g v lo hi a b c0 d0 → (b = c0 ∨ v.toInt < (g b).toInt) → zW D dJ dI A s [zL h0 dJ n g] H locs → lv_has ls 14 [(0, .ref h0), (1, .int (zi ((lo : Nat) : Int))), (2, .int (zi ((hi : Nat) : Int))), (7, .long v), (9, .int (zi z9)), (10, .int (zi z10)), (11, .int (zi (((c0 : Nat) : Int) - 1))), (12, .int (zi (((d0 : Nat) : Int) - 1)))] → W p l e (zRm (d9 + 2) 0 0 (33 * d9 + 49)) s m args below meth c H locs 0 0 Q (F0 m 181 ls [])) :
    ∀ (N a b : Nat) (g : Nat → Int64) (z9 z10 : Int) (H : Heap) (locs : List Loc) (ls : Array Slot), c0 < b + N → b0 ≤ b → z9 = ((a : Nat) : Int) → z10 = ((b : Nat) : Int) → zs_qI f g v lo hi a b c0 d0 → zW D dJ dI A s [zL h0 dJ n g] H locs → lv_has ls 14 [(0, .ref h0), (1, .int (zi ((lo : Nat) : Int))), (2, .int (zi ((hi : Nat) : Int))), (7, .long v), (9, .int (zi z9)), (10, .int (zi z10)), (11, .int (zi (((c0 : Nat) : Int) - 1))), (12, .int (zi (((d0 : Nat) : Int) - 1)))] → W p l e (zRm (d9 + 2) 0 0 (33 * d9 + 49)) s m args below meth c H locs 0 0 Q (F0 m 137 ls []) := by
  obtain ⟨hx, hb, hml, hown, hts⟩ := id S
  intro N
  induction N with
  | zero =>
    intro a b g z9 z10 H locs ls hN hb0 e9 e10 hI
    exact absurd hN (by have := hI.2.1; omega)
  | succ N ih =>
    intro a b g z9 z10 H locs ls hN hb0 e9 e10 hI hw hl
    subst e9
    subst e10
    have hI2 := hI.2.1
    refine lv_iload hx hb dX2_quickSort_137 (lv_at hl 5 rfl) ?_
    refine lv_iload hx hb dX2_quickSort_139 (lv_at hl 6 rfl) ?_
    refine zi_icmp_gt (tgt := 181) hx hb dX2_quickSort_141 (by decide) (by omega) (by omega) (fun c_141 => ?_) (fun c_141 => ?_)
    · exact kx a b g _ _ H locs ls (by omega) rfl rfl hI (by omega) hw (lv_sub hl [0, 1, 2, 3, 4, 5, 6, 7] rfl)
    · refine lv_aload_n hx hb dX2_quickSort_144 rfl (lv_at hl 0 rfl) ?_
      refine lv_iload hx hb dX2_quickSort_145 (lv_at hl 5 rfl) ?_
      refine zl_ald hx hb hw 0 (b) rfl (by omega) (by omega) (by omega) dX2_quickSort_147 ?_
      refine lv_lload hx hb dX2_quickSort_148 (lv_at hl 3 rfl) ?_
      refine z_calli (wr := [zL h0 dJ n (g)]) (wo := (fun _ : Unit => [zL h0 dJ n (g)])) (z_runS (n := 2) (rest := []) S (met_cmp l D dJ dI ((g) (b)) (v)) (lw_S q32 q33 q5 q34) rfl rfl (by decide +kernel) ⟨by show 0 + 1 ≤ d9 + 2; omega, by show 8 + (4 + 11) + (0) ≤ 33 * d9 + 49; omega⟩ hw [] rfl rfl rfl hl.1 rfl (Nat.le_of_ble_eq_true rfl) dX2_quickSort_150 ⟨Nat.le_of_ble_eq_true rfl, Nat.le_of_ble_eq_true rfl⟩) hw [] [0] rfl rfl rfl (by decide) [0] rfl (fun _ => rfl) (fun r _ H locs hp hw => ?_)
      subst hp
      have hz_2 := zcz_spec ((g) (b)) (v)
      refine lv_dup hx hb dX2_quickSort_153 rfl ?_
      refine lv_istore (lv' := [(13, .int (zi (zcz ((g) (b)) (v)))), (0, .ref h0), (1, .int (zi (((lo : Nat) : Int)))), (2, .int (zi (((hi : Nat) : Int)))), (7, .long (v)), (9, .int (zi (((a : Nat) : Int)))), (10, .int (zi (((b : Nat) : Int)))), (11, .int (zi ((((c0 : Nat) : Int) - 1)))), (12, .int (zi ((((d0 : Nat) : Int) - 1))))]) hx hb dX2_quickSort_154 hl (by decide) rfl (fun ls hl => ?_)
      refine zi_if_gt (tgt := 181) hx hb dX2_quickSort_156 (by decide) (by omega) (fun c_156 => ?_) (fun c_156 => ?_)
      · exact kx a b g _ _ H locs ls (by omega) rfl rfl hI (by omega) hw (lv_sub hl [1, 2, 3, 4, 5, 6, 7, 8] rfl)
      · refine lv_iload hx hb dX2_quickSort_159 (lv_at hl 0 rfl) ?_
        refine zi_if_ne (tgt := 175) hx hb dX2_quickSort_161 (by decide) (by omega) (fun c_161 => ?_) (fun c_161 => ?_)
        · refine zi_inc (v := ((b + 1 : Nat) : Int)) (k := 6) (lv' := [(10, .int (zi (((b + 1 : Nat) : Int)))), (13, .int (zi (zcz ((g) (b)) (v)))), (0, .ref h0), (1, .int (zi (((lo : Nat) : Int)))), (2, .int (zi (((hi : Nat) : Int)))), (7, .long (v)), (9, .int (zi (((a : Nat) : Int)))), (11, .int (zi ((((c0 : Nat) : Int) - 1)))), (12, .int (zi ((((d0 : Nat) : Int) - 1))))]) hx hb dX2_quickSort_175 hl rfl (by omega) (by decide) rfl (fun ls hl => ?_)
          refine lv_goto (tgt := 137) hx hb dX2_quickSort_178 (by decide) ?_
          exact ih (a) (b + 1) (g) _ _ H locs ls (by omega) (by omega) (by omega) (by omega) (zs_q_l1 hI (by omega) (by omega)) hw (lv_sub hl [2, 3, 4, 5, 6, 0, 7, 8] rfl)
        · refine lv_aload_n hx hb dX2_quickSort_164 rfl (lv_at hl 1 rfl) ?_
          refine lv_iload hx hb dX2_quickSort_165 (lv_at hl 5 rfl) ?_
          refine zi_inc (v := ((a + 1 : Nat) : Int)) (k := 5) (lv' := [(9, .int (zi (((a + 1 : Nat) : Int)))), (13, .int (zi (zcz ((g) (b)) (v)))), (0, .ref h0), (1, .int (zi (((lo : Nat) : Int)))), (2, .int (zi (((hi : Nat) : Int)))), (7, .long (v)), (10, .int (zi (((b : Nat) : Int)))), (11, .int (zi ((((c0 : Nat) : Int) - 1)))), (12, .int (zi ((((d0 : Nat) : Int) - 1))))]) hx hb dX2_quickSort_167 hl rfl (by omega) (by decide) rfl (fun ls hl => ?_)
          refine lv_iload hx hb dX2_quickSort_170 (lv_at hl 6 rfl) ?_
          refine z_callv (wr := []) (wo := (fun _ : Unit => [zL h0 dJ n (zs_sw (g) (a) (b))])) (z_runS (n := 3) (rest := []) S (met_swap l D dJ dI h0 (n) (g) (((a : Nat) : Int)) (((b : Nat) : Int)) (a) (b) (by omega) (by omega) (by omega) (by omega) (by omega)) (lw_S q35 q36 q4 q37) rfl rfl (by decide +kernel) ⟨by show 0 + 1 ≤ d9 + 2; omega, by show 8 + (5 + 11) + (0) ≤ 33 * d9 + 49; omega⟩ hw [0] rfl rfl rfl hl.1 rfl (Nat.le_of_ble_eq_true rfl) dX2_quickSort_172 ⟨Nat.le_of_ble_eq_true rfl, Nat.le_of_ble_eq_true rfl⟩) hw [0] [] rfl rfl rfl (by decide) [0] rfl (fun _ => rfl) (fun _ H locs _ hw => ?_)
          refine zi_inc (v := ((b + 1 : Nat) : Int)) (k := 6) (lv' := [(10, .int (zi (((b + 1 : Nat) : Int)))), (9, .int (zi (((a + 1 : Nat) : Int)))), (13, .int (zi (zcz ((g) (b)) (v)))), (0, .ref h0), (1, .int (zi (((lo : Nat) : Int)))), (2, .int (zi (((hi : Nat) : Int)))), (7, .long (v)), (11, .int (zi ((((c0 : Nat) : Int) - 1)))), (12, .int (zi ((((d0 : Nat) : Int) - 1))))]) hx hb dX2_quickSort_175 hl rfl (by omega) (by decide) rfl (fun ls hl => ?_)
          refine lv_goto (tgt := 137) hx hb dX2_quickSort_178 (by decide) ?_
          exact ih (a + 1) (b + 1) (zs_sw (g) (a) (b)) _ _ H locs ls (by omega) (by omega) (by omega) (by omega) (zs_q_l0 hI (by omega) (Int64.toInt_inj.mp (by omega))) hw (lv_sub hl [3, 4, 5, 6, 1, 0, 7, 8] rfl)
set_option maxHeartbeats 4000000 in
set_option maxRecDepth 100000 in
/-- the second inner loop -/
theorem lp_q2 {h0 n lo hi d9 a b cm : Nat} {v : Int64} {f : Nat → Int64} (S : CallFix p m c cX2_quickSort 14 s args lw_all RX2) (hn : n < 1073741824) (hin : hi ≤ n) (kx : ∀ (c0 d0 : Nat) (g : Nat → Int64) (z11 z12 : Int) (H : Heap) (locs : List Loc) (ls : Array Slot), c0 ≤ cm → z11 = ((c0 : Nat) : Int) - 1 → z12 = ((d0 : Nat) : Int) - 1 → zs_qI f g v lo hi a b c0 d0 → (b = c0 ∨ (b < c0 ∧ v.toInt < (g b).toInt ∧ (g (c0 - 1)).toInt < v.toInt)) → zW D dJ dI A s [zL h0 dJ n g] H locs → lv_has ls 14 [(0, .ref h0), (1, .int (zi ((lo : Nat) : Int))), (2, .int (zi ((hi : Nat) : Int))), (7, .long v), (9, .int (zi ((a : Nat) : Int))), (10, .int (zi ((b : Nat) : Int))), (11, .int (zi z11)), (12, .int (zi z12))] → W p l e (zRm (d9 + 2) 0 0 (33 * d9 + 49)) s m args below meth c H locs 0 0 Q (F0 m 225 ls [])) :
    ∀ (N c0 d0 : Nat) (g : Nat → Int64) (z11 z12 : Int) (H : Heap) (locs : List Loc) (ls : Array Slot), c0 < b + N → c0 ≤ cm → z11 = ((c0 : Nat) : Int) - 1 → z12 = ((d0 : Nat) : Int) - 1 → zs_qI f g v lo hi a b c0 d0 → (b = c0 ∨ v.toInt < (g b).toInt) → zW D dJ dI A s [zL h0 dJ n g] H locs → lv_has ls 14 [(0, .ref h0), (1, .int (zi ((lo : Nat) : Int))), (2, .int (zi ((hi : Nat) : Int))), (7, .long v), (9, .int (zi ((a : Nat) : Int))), (10, .int (zi ((b : Nat) : Int))), (11, .int (zi z11)), (12, .int (zi z12))] → W p l e (zRm (d9 + 2) 0 0 (33 * d9 + 49)) s m args below meth c H locs 0 0 Q (F0 m 181 ls []) := by
  obtain ⟨hx, hb, hml, hown, hts⟩ := id S
  intro N
  induction N with
  | zero =>
    intro c0 d0 g z11 z12 H locs ls hN hb0 e11 e12 hI
    exact absurd hN (by have := hI.2.1; omega)
  | succ N ih =>
    intro c0 d0 g z11 z12 H locs ls hN hb0 e11 e12 hI hbv hw hl
    subst e11
    subst e12
    have hI2 := hI.2.1
    refine lv_iload hx hb dX2_quickSort_181 (lv_at hl 6 rfl) ?_
    refine lv_iload hx hb dX2_quickSort_183 (lv_at hl 5 rfl) ?_
    refine zi_icmp_lt (tgt := 225) hx hb dX2_quickSort_185 (by decide) (by omega) (by omega) (fun c_185 => ?_) (fun c_185 => ?_)
    · exact kx c0 d0 g _ _ H locs ls (by omega) (by omega) (by omega) hI (Or.inl (by omega)) hw (lv_sub hl [0, 1, 2, 3, 4, 5, 6, 7] rfl)
    · obtain ⟨k, rfl⟩ : ∃ k, c0 = k + 1 := ⟨c0 - 1, by omega⟩
      obtain ⟨w, rfl⟩ : ∃ w, d0 = w + 1 := ⟨d0 - 1, by omega⟩
      refine lv_aload_n hx hb dX2_quickSort_188 rfl (lv_at hl 0 rfl) ?_
      refine lv_iload hx hb dX2_quickSort_189 (lv_at hl 6 rfl) ?_
      refine zl_ald hx hb hw 0 (k) rfl (by omega) (by omega) (by omega) dX2_quickSort_191 ?_
      refine lv_lload hx hb dX2_quickSort_192 (lv_at hl 3 rfl) ?_
      refine z_calli (wr := [zL h0 dJ n (g)]) (wo := (fun _ : Unit => [zL h0 dJ n (g)])) (z_runS (n := 2) (rest := []) S (met_cmp l D dJ dI ((g) (k)) (v)) (lw_S q32 q33 q5 q34) rfl rfl (by decide +kernel) ⟨by show 0 + 1 ≤ d9 + 2; omega, by show 8 + (4 + 11) + (0) ≤ 33 * d9 + 49; omega⟩ hw [] rfl rfl rfl hl.1 rfl (Nat.le_of_ble_eq_true rfl) dX2_quickSort_194 ⟨Nat.le_of_ble_eq_true rfl, Nat.le_of_ble_eq_true rfl⟩) hw [] [0] rfl rfl rfl (by decide) [0] rfl (fun _ => rfl) (fun r _ H locs hp hw => ?_)
      subst hp
      have hz_2 := zcz_spec ((g) (k)) (v)
      refine lv_dup hx hb dX2_quickSort_197 rfl ?_
      refine lv_istore (lv' := [(13, .int (zi (zcz ((g) (k)) (v)))), (0, .ref h0), (1, .int (zi (((lo : Nat) : Int)))), (2, .int (zi (((hi : Nat) : Int)))), (7, .long (v)), (9, .int (zi (((a : Nat) : Int)))), (10, .int (zi (((b : Nat) : Int)))), (11, .int (zi (((((k + 1) : Nat) : Int) - 1)))), (12, .int (zi (((((w + 1) : Nat) : Int) - 1))))]) hx hb dX2_quickSort_198 hl (by decide) rfl (fun ls hl => ?_)
      refine zi_if_lt (tgt := 225) hx hb dX2_quickSort_200 (by decide) (by omega) (fun c_200 => ?_) (fun c_200 => ?_)
      · exact kx (k + 1) (w + 1) g _ _ H locs ls (by omega) (by omega) (by omega) hI (Or.inr ⟨by omega, by omega, by
            show (g k).toInt < v.toInt
            omega⟩) hw (lv_sub hl [1, 2, 3, 4, 5, 6, 7, 8] rfl)
      · refine lv_iload hx hb dX2_quickSort_203 (lv_at hl 0 rfl) ?_
        refine zi_if_ne (tgt := 219) hx hb dX2_quickSort_205 (by decide) (by omega) (fun c_205 => ?_) (fun c_205 => ?_)
        · refine zi_inc (v := ((k : Nat) : Int) - 1) (k := 7) (lv' := [(11, .int (zi (((k : Nat) : Int) - 1))), (13, .int (zi (zcz ((g) (k)) (v)))), (0, .ref h0), (1, .int (zi (((lo : Nat) : Int)))), (2, .int (zi (((hi : Nat) : Int)))), (7, .long (v)), (9, .int (zi (((a : Nat) : Int)))), (10, .int (zi (((b : Nat) : Int)))), (12, .int (zi (((((w + 1) : Nat) : Int) - 1))))]) hx hb dX2_quickSort_219 hl rfl (by omega) (by decide) rfl (fun ls hl => ?_)
          refine lv_goto (tgt := 181) hx hb dX2_quickSort_222 (by decide) ?_
          exact ih k (w + 1) (g) _ _ H locs ls (by omega) (by omega) (by omega) (by omega) (zs_q_r1 hI (by omega) (by omega)) (by omega) hw (lv_sub hl [2, 3, 4, 5, 6, 7, 0, 8] rfl)
        · refine lv_aload_n hx hb dX2_quickSort_208 rfl (lv_at hl 1 rfl) ?_
          refine lv_iload hx hb dX2_quickSort_209 (lv_at hl 7 rfl) ?_
          refine lv_iload hx hb dX2_quickSort_211 (lv_at hl 8 rfl) ?_
          refine zi_inc (v := ((w : Nat) : Int) - 1) (k := 8) (lv' := [(12, .int (zi (((w : Nat) : Int) - 1))), (13, .int (zi (zcz ((g) (k)) (v)))), (0, .ref h0), (1, .int (zi (((lo : Nat) : Int)))), (2, .int (zi (((hi : Nat) : Int)))), (7, .long (v)), (9, .int (zi (((a : Nat) : Int)))), (10, .int (zi (((b : Nat) : Int)))), (11, .int (zi (((((k + 1) : Nat) : Int) - 1))))]) hx hb dX2_quickSort_213 hl rfl (by omega) (by decide) rfl (fun ls hl => ?_)
          refine z_callv (wr := []) (wo := (fun _ : Unit => [zL h0 dJ n (zs_sw (g) (k) (w))])) (z_runS (n := 3) (rest := []) S (met_swap l D dJ dI h0 (n) (g) (((((k + 1) : Nat) : Int) - 1)) (((((w + 1) : Nat) : Int) - 1)) (k) (w) (by omega) (by omega) (by omega) (by omega) (by omega)) (lw_S q35 q36 q4 q37) rfl rfl (by decide +kernel) ⟨by show 0 + 1 ≤ d9 + 2; omega, by show 8 + (5 + 11) + (0) ≤ 33 * d9 + 49; omega⟩ hw [0] rfl rfl rfl hl.1 rfl (Nat.le_of_ble_eq_true rfl) dX2_quickSort_216 ⟨Nat.le_of_ble_eq_true rfl, Nat.le_of_ble_eq_true rfl⟩) hw [0] [] rfl rfl rfl (by decide) [0] rfl (fun _ => rfl) (fun _ H locs _ hw => ?_)
          refine zi_inc (v := ((k : Nat) : Int) - 1) (k := 8) (lv' := [(11, .int (zi (((k : Nat) : Int) - 1))), (12, .int (zi (((w : Nat) : Int) - 1))), (13, .int (zi (zcz ((g) (k)) (v)))), (0, .ref h0), (1, .int (zi (((lo : Nat) : Int)))), (2, .int (zi (((hi : Nat) : Int)))), (7, .long (v)), (9, .int (zi (((a : Nat) : Int)))), (10, .int (zi (((b : Nat) : Int))))]) hx hb dX2_quickSort_219 hl rfl (by omega) (by decide) rfl (fun ls hl => ?_)
          refine lv_goto (tgt := 181) hx hb dX2_quickSort_222 (by decide) ?_
          exact ih k (w) (zs_sw (g) (k) (w)) _ _ H locs ls (by omega) (by omega) (by omega) (by omega) (zs_q_r0 hI (by omega) (Int64.toInt_inj.mp (by omega))) (by
              rcases hbv with e | e
              · omega
              · by_cases e2 : b = k
                · rw [e2] at e
                  omega
                · rw [zs_sw_n (by omega) (by omega)]
                  exact Or.inr e) hw (lv_sub hl [3, 4, 5, 6, 7, 8, 0, 1] rfl)
set_option maxHeartbeats 4000000 in
set_option maxRecDepth 100000 in
/-- the outer loop: from its head to the break -/
theorem lp_q3 {h0 n lo hi d9 : Nat} {v : Int64} {f : Nat → Int64} (S : CallFix p m c cX2_quickSort 14 s args lw_all RX2) (hn : n < 1073741824) (hin : hi ≤ n) (kx : ∀ (a b d0 : Nat) (g : Nat → Int64) (H : Heap) (locs : List Loc) (ls : Array Slot), zs_qI f g v lo hi a b b d0 → zW D dJ dI A s [zL h0 dJ n g] H locs → lv_has ls 14 [(0, .ref h0), (1, .int (zi ((lo : Nat) : Int))), (2, .int (zi ((hi : Nat) : Int))), (9, .int (zi ((a : Nat) : Int))), (10, .int (zi ((b : Nat) : Int))), (11, .int (zi (((b : Nat) : Int) - 1))), (12, .int (zi (((d0 : Nat) : Int) - 1)))] → W p l e (zRm (d9 + 2) 0 0 (33 * d9 + 49)) s m args below meth c H locs 0 0 Q (F0 m 252 ls [])) :
    ∀ (N a b c0 d0 : Nat) (g : Nat → Int64) (z9 z10 z11 z12 : Int) (H : Heap) (locs : List Loc) (ls : Array Slot), c0 < b + N → z9 = ((a : Nat) : Int) → z10 = ((b : Nat) : Int) → z11 = ((c0 : Nat) : Int) - 1 → z12 = ((d0 : Nat) : Int) - 1 → zs_qI f g v lo hi a b c0 d0 → zW D dJ dI A s [zL h0 dJ n g] H locs → lv_has ls 14 [(0, .ref h0), (1, .int (zi ((lo : Nat) : Int))), (2, .int (zi ((hi : Nat) : Int))), (7, .long v), (9, .int (zi z9)), (10, .int (zi z10)), (11, .int (zi z11)), (12, .int (zi z12))] → W p l e (zRm (d9 + 2) 0 0 (33 * d9 + 49)) s m args below meth c H locs 0 0 Q (F0 m 137 ls []) := by
  obtain ⟨hx, hb, hml, hown, hts⟩ := id S
  intro N
  induction N with
  | zero =>
    intro a b c0 d0 g z9 z10 z11 z12 H locs ls hN e9 e10 e11 e12 hI
    exact absurd hN (by have := hI.2.1; omega)
  | succ N ih =>
    intro a1 b1 c1 d1 g1 z9 z10 z11 z12 H1 locs1 ls1 hN e9 e10 e11 e12 hI1 hw1 hl1
    subst e11
    subst e12
    refine lp_q1 (v := v) (f := f) (d9 := d9) (b0 := b1) (c0 := c1) (d0 := d1) S hn hin (fun a b g z9 z10 H locs ls hb9 e9 e10 hI hbv hw hl => ?_) (c1 + 1) a1 b1 g1 z9 z10 H1 locs1 ls1 (by omega) (by omega) e9 e10 hI1 hw1 hl1
    subst e9
    subst e10
    refine lp_q2 (v := v) (f := f) (d9 := d9) (a := a) (b := b) (cm := c1) S hn hin (fun c0 d0 g z11 z12 H locs ls hc9 e11 e12 hI hbv hw hl => ?_) (c1 + 1) c1 d1 g _ _ H locs ls (by omega) (by omega) rfl rfl hI hbv hw hl
    subst e11
    subst e12
    have hI2 := hI.2.1
    refine lv_iload hx hb dX2_quickSort_225 (lv_at hl 5 rfl) ?_
    refine lv_iload hx hb dX2_quickSort_227 (lv_at hl 6 rfl) ?_
    refine zi_icmp_le (tgt := 235) hx hb dX2_quickSort_229 (by decide) (by omega) (by omega) (fun c_229 => ?_) (fun c_229 => ?_)
    · obtain ⟨k, rfl⟩ : ∃ k, c0 = k + 1 := ⟨c0 - 1, by omega⟩
      have hk9 : v.toInt < (g b).toInt ∧ (g k).toInt < v.toInt := by
        rcases hbv with e | e
        · omega
        · exact ⟨e.2.1, e.2.2⟩
      refine lv_aload_n hx hb dX2_quickSort_235 rfl (lv_at hl 0 rfl) ?_
      refine lv_iload hx hb dX2_quickSort_236 (lv_at hl 5 rfl) ?_
      refine zi_inc (v := ((b + 1 : Nat) : Int)) (k := 5) (lv' := [(10, .int (zi (((b + 1 : Nat) : Int)))), (0, .ref h0), (1, .int (zi (((lo : Nat) : Int)))), (2, .int (zi (((hi : Nat) : Int)))), (7, .long (v)), (9, .int (zi (((a : Nat) : Int)))), (11, .int (zi (((((k + 1) : Nat) : Int) - 1)))), (12, .int (zi ((((d0 : Nat) : Int) - 1))))]) hx hb dX2_quickSort_238 hl rfl (by omega) (by decide) rfl (fun ls hl => ?_)
      refine lv_iload hx hb dX2_quickSort_241 (lv_at hl 6 rfl) ?_
      refine zi_inc (v := ((k : Nat) : Int) - 1) (k := 6) (lv' := [(11, .int (zi (((k : Nat) : Int) - 1))), (10, .int (zi (((b + 1 : Nat) : Int)))), (0, .ref h0), (1, .int (zi (((lo : Nat) : Int)))), (2, .int (zi (((hi : Nat) : Int)))), (7, .long (v)), (9, .int (zi (((a : Nat) : Int)))), (12, .int (zi ((((d0 : Nat) : Int) - 1))))]) hx hb dX2_quickSort_243 hl rfl (by omega) (by decide) rfl (fun ls hl => ?_)
      refine z_callv (wr := []) (wo := (fun _ : Unit => [zL h0 dJ n (zs_sw (g) (b) (k))])) (z_runS (n := 3) (rest := []) S (met_swap l D dJ dI h0 (n) (g) (((b : Nat) : Int)) (((((k + 1) : Nat) : Int) - 1)) (b) (k) (by omega) (by omega) (by omega) (by omega) (by omega)) (lw_S q35 q36 q4 q37) rfl rfl (by decide +kernel) ⟨by show 0 + 1 ≤ d9 + 2; omega, by show 8 + (5 + 11) + (0) ≤ 33 * d9 + 49; omega⟩ hw [0] rfl rfl rfl hl.1 rfl (Nat.le_of_ble_eq_true rfl) dX2_quickSort_246 ⟨Nat.le_of_ble_eq_true rfl, Nat.le_of_ble_eq_true rfl⟩) hw [0] [] rfl rfl rfl (by decide) [0] rfl (fun _ => rfl) (fun _ H locs _ hw => ?_)
      refine lv_goto (tgt := 137) hx hb dX2_quickSort_249 (by decide) ?_
      exact ih a (b + 1) k d0 (zs_sw (g) (b) (k)) _ _ _ _ H locs ls (by omega) rfl (by omega) (by omega) (by omega) (zs_q_x hI (by omega) hk9.1 hk9.2) hw (lv_sub hl [2, 3, 4, 5, 6, 1, 0, 7] rfl)
    · refine lv_goto (tgt := 252) hx hb dX2_quickSort_232 (by decide) ?_
      have e9 : c0 = b := by omega
      rw [e9] at hI hl
      exact kx a b d0 g H locs ls hI hw (lv_sub hl [0, 1, 2, 4, 5, 6, 7] rfl)
set_option maxHeartbeats 4000000 in
set_option maxRecDepth 100000 in
/-- the second recursion -/
theorem lp_q5 {h0 n lo hi d9 a b d0 : Nat} {v : Int64} {f g2 g3 : Nat → Int64} {H : Heap} {locs : List Loc} {ls : Array Slot} (S : CallFix p m c cX2_quickSort 14 s args lw_all RX2) (hn : n < 1073741824) (hin : hi ≤ n) (hlh : lo ≤ hi) (hd0 : 16 ≤ hi - lo) (hd9 : hi < lo + 16 + d9) (ihq : zQk l D dJ dI (d9 - 1)) (kx : ∀ (g : Nat → Int64) (H : Heap) (locs : List Loc) (ls : Array Slot), zW D dJ dI A s [zL h0 dJ n g] H locs → zs_pm f g lo hi → zs_srt g lo hi → W p l e (zRm (d9 + 2) 0 0 (33 * d9 + 49)) s m args below meth c H locs 0 0 Q (F0 m 348 ls [])) (hab : a ≤ b) (hbd : b ≤ d0) (hdh : d0 ≤ hi) (hLK : (b - a) + (d0 - b) < hi - lo) (hp2 : zs_pm f g2 lo hi) (z1 : ∀ j, lo ≤ j → j < lo + (b - a) → (g2 j).toInt < v.toInt) (z2 : ∀ j, lo + (b - a) ≤ j → j < hi - (d0 - b) → g2 j = v) (z3 : ∀ j, hi - (d0 - b) ≤ j → j < hi → v.toInt < (g2 j).toInt) (p3 : zs_pm g2 g3 lo (lo + (b - a))) (s3 : zs_srt g3 lo (lo + (b - a))) (hw : zW D dJ dI A s [zL h0 dJ n g3] H locs) (hl : lv_has ls 14 [(0, .ref h0), (1, .int (zi ((lo : Nat) : Int))), (2, .int (zi ((hi : Nat) : Int))), (11, .int (zi (((b : Nat) : Int) - 1))), (12, .int (zi (((d0 : Nat) : Int) - 1)))]) : W p l e (zRm (d9 + 2) 0 0 (33 * d9 + 49)) s m args below meth c H locs 0 0 Q (F0 m 327 ls []) := by
  obtain ⟨hx, hb, hml, hown, hts⟩ := id S
  refine lv_iload hx hb dX2_quickSort_327 (lv_at hl 4 rfl) ?_
  refine lv_iload hx hb dX2_quickSort_329 (lv_at hl 3 rfl) ?_
  refine zi_sub (r := ((d0 - b : Nat) : Int)) hx hb dX2_quickSort_331 (by omega) ?_
  refine lv_dup hx hb dX2_quickSort_332 rfl ?_
  refine lv_istore (lv' := [(13, .int (zi (((d0 - b : Nat) : Int)))), (0, .ref h0), (1, .int (zi (((lo : Nat) : Int)))), (2, .int (zi (((hi : Nat) : Int)))), (11, .int (zi (((b : Nat) : Int) - 1))), (12, .int (zi ((((d0 : Nat) : Int) - 1))))]) hx hb dX2_quickSort_333 hl (by decide) rfl (fun ls hl => ?_)
  refine zi_const hx hb dX2_quickSort_335 ?_
  refine zi_icmp_le (tgt := 348) hx hb dX2_quickSort_336 (by decide) (by omega) (by omega) (fun c_336 => ?_) (fun c_336 => ?_)
  · obtain ⟨q1, q2⟩ := zs_q_end (L := b - a) (K := d0 - b) (by omega) hlh hp2 z1 z2 z3 p3 s3 (zs_pm.rf) (zs_srt_1 (by omega))
    exact kx g3 H locs ls hw q1 q2
  · refine lv_aload_n hx hb dX2_quickSort_339 rfl (lv_at hl 1 rfl) ?_
    refine lv_iload_n hx hb dX2_quickSort_340 rfl (lv_at hl 3 rfl) ?_
    refine lv_iload hx hb dX2_quickSort_341 (lv_at hl 0 rfl) ?_
    refine zi_sub (r := ((hi - (d0 - b) : Nat) : Int)) hx hb dX2_quickSort_343 (by omega) ?_
    refine lv_iload_n hx hb dX2_quickSort_344 rfl (lv_at hl 3 rfl) ?_
    refine z_callv (wr := []) (wo := (fun u : Nat → Int64 => [zL h0 dJ n u])) (z_runS (n := 3) (rest := []) S (ihq h0 (n) (g3) (((hi - (d0 - b) : Nat) : Int)) (((hi : Nat) : Int)) (hi - (d0 - b)) (hi) (by omega) (by omega) (by omega) (by omega) (by omega) (by omega)) (lw_S q44 q24 q4 q25) rfl rfl (by decide +kernel) ⟨by show (d9 - 1 + 2) + 1 ≤ d9 + 2; omega, by show 8 + (14 + 11) + (33 * (d9 - 1) + 49) ≤ 33 * d9 + 49; omega⟩ hw [0] rfl rfl rfl hl.1 rfl (Nat.le_of_ble_eq_true rfl) dX2_quickSort_345 ⟨Nat.le_of_ble_eq_true rfl, Nat.le_of_ble_eq_true rfl⟩) hw [0] [] rfl rfl rfl (by decide) [0] rfl (fun _ => rfl) (fun u H locs hp hw => ?_)
    obtain ⟨q1, q2⟩ := zs_q_end (L := b - a) (K := d0 - b) (by omega) hlh hp2 z1 z2 z3 p3 s3 (hp.1) (hp.2)
    exact kx u H locs ls hw q1 q2
set_option maxHeartbeats 4000000 in
set_option maxRecDepth 100000 in
/-- behind the break: the exchanges, both recursions -/
theorem lp_q4 {h0 n lo hi d9 a b d0 mm : Nat} {v : Int64} {f g : Nat → Int64} {H : Heap} {locs : List Loc} {ls : Array Slot} (S : CallFix p m c cX2_quickSort 14 s args lw_all RX2) (hn : n < 1073741824) (hin : hi ≤ n) (hlh : lo ≤ hi) (hd0 : 16 ≤ hi - lo) (hd9 : hi < lo + 16 + d9) (ihq : zQk l D dJ dI (d9 - 1)) (kx : ∀ (g : Nat → Int64) (H : Heap) (locs : List Loc) (ls : Array Slot), zW D dJ dI A s [zL h0 dJ n g] H locs → zs_pm f g lo hi → zs_srt g lo hi → W p l e (zRm (d9 + 2) 0 0 (33 * d9 + 49)) s m args below meth c H locs 0 0 Q (F0 m 348 ls [])) (hm1 : lo ≤ mm) (hm2 : mm < hi) (hmv : f mm = v) (hI : zs_qI f g v lo hi a b b d0) (hw : zW D dJ dI A s [zL h0 dJ n g] H locs) (hl : lv_has ls 14 [(0, .ref h0), (1, .int (zi ((lo : Nat) : Int))), (2, .int (zi ((hi : Nat) : Int))), (9, .int (zi ((a : Nat) : Int))), (10, .int (zi ((b : Nat) : Int))), (11, .int (zi (((b : Nat) : Int) - 1))), (12, .int (zi (((d0 : Nat) : Int) - 1)))]) : W p l e (zRm (d9 + 2) 0 0 (33 * d9 + 49)) s m args below meth c H locs 0 0 Q (F0 m 252 ls []) := by
  obtain ⟨hx, hb, hml, hown, hts⟩ := id S
  have hI2 := hI.2.1
  refine lv_iload hx hb dX2_quickSort_252 (lv_at hl 3 rfl) ?_
  refine lv_iload_n hx hb dX2_quickSort_254 rfl (lv_at hl 1 rfl) ?_
  refine zi_sub (r := ((a : Nat) : Int) - ((lo : Nat) : Int)) hx hb dX2_quickSort_255 rfl ?_
  refine lv_iload hx hb dX2_quickSort_256 (lv_at hl 4 rfl) ?_
  refine lv_iload hx hb dX2_quickSort_258 (lv_at hl 3 rfl) ?_
  refine zi_sub (r := ((b : Nat) : Int) - ((a : Nat) : Int)) hx hb dX2_quickSort_260 rfl ?_
  obtain ⟨s1, hs1⟩ : ∃ t9 : Nat, t9 ≤ a - lo ∧ t9 ≤ b - a ∧ (t9 = a - lo ∨ t9 = b - a) := ⟨min (a - lo) (b - a), by omega⟩
  refine zi_min ((s1 : Nat) : Int) hx hb (hml.trans hl.1.symm) hown hts q38 (by show 1 ≤ d9 + 2; omega) (by show 0 + 13 ≤ 33 * d9 + 49; omega) (Nat.le_refl _) (Nat.le_refl _) (by omega) (by omega) (by omega) dX2_quickSort_261 ?_
  refine lv_istore (lv' := [(13, .int (zi (((s1 : Nat) : Int)))), (0, .ref h0), (1, .int (zi (((lo : Nat) : Int)))), (2, .int (zi (((hi : Nat) : Int)))), (9, .int (zi (((a : Nat) : Int)))), (10, .int (zi (((b : Nat) : Int)))), (11, .int (zi (((b : Nat) : Int) - 1))), (12, .int (zi ((((d0 : Nat) : Int) - 1))))]) hx hb dX2_quickSort_264 hl (by decide) rfl (fun ls hl => ?_)
  refine lv_aload_n hx hb dX2_quickSort_266 rfl (lv_at hl 1 rfl) ?_
  refine lv_iload_n hx hb dX2_quickSort_267 rfl (lv_at hl 2 rfl) ?_
  refine lv_iload hx hb dX2_quickSort_268 (lv_at hl 5 rfl) ?_
  refine lv_iload hx hb dX2_quickSort_270 (lv_at hl 0 rfl) ?_
  refine zi_sub (r := ((b - s1 : Nat) : Int)) hx hb dX2_quickSort_272 (by omega) ?_
  refine lv_iload hx hb dX2_quickSort_273 (lv_at hl 0 rfl) ?_
  refine z_callv (wr := []) (wo := (fun u : Nat → Int64 => [zL h0 dJ n u])) (z_runS (n := 4) (rest := []) S (met_vswap l D dJ dI h0 (n) (g) (((lo : Nat) : Int)) (((b - s1 : Nat) : Int)) (((s1 : Nat) : Int)) (lo) (b - s1) (s1) (by omega) (by omega) (by omega) (by omega) (by omega) (by omega)) (lw_S q41 q42 q4 q43) rfl rfl (by decide +kernel) ⟨by show 1 + 1 ≤ d9 + 2; omega, by show 8 + (5 + 11) + (24) ≤ 33 * d9 + 49; omega⟩ hw [0] rfl rfl rfl hl.1 rfl (Nat.le_of_ble_eq_true rfl) dX2_quickSort_275 ⟨Nat.le_of_ble_eq_true rfl, Nat.le_of_ble_eq_true rfl⟩) hw [0] [] rfl rfl rfl (by decide) [0] rfl (fun _ => rfl) (fun g1 H locs hv1 hw => ?_)
  refine lv_iload hx hb dX2_quickSort_278 (lv_at hl 7 rfl) ?_
  refine lv_iload hx hb dX2_quickSort_280 (lv_at hl 6 rfl) ?_
  refine zi_sub (r := (((d0 : Nat) : Int) - 1) - (((b : Nat) : Int) - 1)) hx hb dX2_quickSort_282 rfl ?_
  refine lv_iload_n hx hb dX2_quickSort_283 rfl (lv_at hl 3 rfl) ?_
  refine lv_iload hx hb dX2_quickSort_284 (lv_at hl 7 rfl) ?_
  refine zi_sub (r := ((hi : Nat) : Int) - (((d0 : Nat) : Int) - 1)) hx hb dX2_quickSort_286 rfl ?_
  refine zi_const hx hb dX2_quickSort_287 ?_
  refine zi_sub (r := ((hi : Nat) : Int) - (((d0 : Nat) : Int) - 1) - 1) hx hb dX2_quickSort_288 rfl ?_
  obtain ⟨s2, hs2⟩ : ∃ t9 : Nat, t9 ≤ d0 - b ∧ t9 ≤ hi - d0 ∧ (t9 = d0 - b ∨ t9 = hi - d0) := ⟨min (d0 - b) (hi - d0), by omega⟩
  refine zi_min ((s2 : Nat) : Int) hx hb (hml.trans hl.1.symm) hown hts q38 (by show 1 ≤ d9 + 2; omega) (by show 0 + 13 ≤ 33 * d9 + 49; omega) (Nat.le_refl _) (Nat.le_refl _) (by omega) (by omega) (by omega) dX2_quickSort_289 ?_
  refine lv_istore (lv' := [(13, .int (zi (((s2 : Nat) : Int)))), (0, .ref h0), (1, .int (zi (((lo : Nat) : Int)))), (2, .int (zi (((hi : Nat) : Int)))), (9, .int (zi (((a : Nat) : Int)))), (10, .int (zi (((b : Nat) : Int)))), (11, .int (zi (((b : Nat) : Int) - 1))), (12, .int (zi ((((d0 : Nat) : Int) - 1))))]) hx hb dX2_quickSort_292 hl (by decide) rfl (fun ls hl => ?_)
  refine lv_aload_n hx hb dX2_quickSort_294 rfl (lv_at hl 1 rfl) ?_
  refine lv_iload hx hb dX2_quickSort_295 (lv_at hl 5 rfl) ?_
  refine lv_iload_n hx hb dX2_quickSort_297 rfl (lv_at hl 3 rfl) ?_
  refine lv_iload hx hb dX2_quickSort_298 (lv_at hl 0 rfl) ?_
  refine zi_sub (r := ((hi - s2 : Nat) : Int)) hx hb dX2_quickSort_300 (by omega) ?_
  refine lv_iload hx hb dX2_quickSort_301 (lv_at hl 0 rfl) ?_
  refine z_callv (wr := []) (wo := (fun u : Nat → Int64 => [zL h0 dJ n u])) (z_runS (n := 4) (rest := []) S (met_vswap l D dJ dI h0 (n) (g1) (((b : Nat) : Int)) (((hi - s2 : Nat) : Int)) (((s2 : Nat) : Int)) (b) (hi - s2) (s2) (by omega) (by omega) (by omega) (by omega) (by omega) (by omega)) (lw_S q41 q42 q4 q43) rfl rfl (by decide +kernel) ⟨by show 1 + 1 ≤ d9 + 2; omega, by show 8 + (5 + 11) + (24) ≤ 33 * d9 + 49; omega⟩ hw [0] rfl rfl rfl hl.1 rfl (Nat.le_of_ble_eq_true rfl) dX2_quickSort_303 ⟨Nat.le_of_ble_eq_true rfl, Nat.le_of_ble_eq_true rfl⟩) hw [0] [] rfl rfl rfl (by decide) [0] rfl (fun _ => rfl) (fun g2 H locs hv2 hw => ?_)
  obtain ⟨hp2, z1, z2, z3⟩ := zs_q_fin hI hs1 hs2 hv1 hv2
  have hLK := zs_q_len hp2 hm1 hm2 hmv z1 z3
  refine lv_iload hx hb dX2_quickSort_306 (lv_at hl 5 rfl) ?_
  refine lv_iload hx hb dX2_quickSort_308 (lv_at hl 4 rfl) ?_
  refine zi_sub (r := ((b - a : Nat) : Int)) hx hb dX2_quickSort_310 (by omega) ?_
  refine lv_dup hx hb dX2_quickSort_311 rfl ?_
  refine lv_istore (lv' := [(13, .int (zi (((b - a : Nat) : Int)))), (0, .ref h0), (1, .int (zi (((lo : Nat) : Int)))), (2, .int (zi (((hi : Nat) : Int)))), (9, .int (zi (((a : Nat) : Int)))), (10, .int (zi (((b : Nat) : Int)))), (11, .int (zi (((b : Nat) : Int) - 1))), (12, .int (zi ((((d0 : Nat) : Int) - 1))))]) hx hb dX2_quickSort_312 hl (by decide) rfl (fun ls hl => ?_)
  refine zi_const hx hb dX2_quickSort_314 ?_
  refine zi_icmp_le (tgt := 327) hx hb dX2_quickSort_315 (by decide) (by omega) (by omega) (fun c_315 => ?_) (fun c_315 => ?_)
  · exact lp_q5 (a := a) (b := b) (d0 := d0) (v := v) (f := f) (g2 := g2) (g3 := g2) S hn hin hlh hd0 hd9 ihq kx (by omega) (by omega) (by omega) hLK hp2 z1 z2 z3 zs_pm.rf (zs_srt_1 (by omega)) hw (lv_sub hl [1, 2, 3, 6, 7] rfl)
  · refine lv_aload_n hx hb dX2_quickSort_318 rfl (lv_at hl 1 rfl) ?_
    refine lv_iload_n hx hb dX2_quickSort_319 rfl (lv_at hl 2 rfl) ?_
    refine lv_iload_n hx hb dX2_quickSort_320 rfl (lv_at hl 2 rfl) ?_
    refine lv_iload hx hb dX2_quickSort_321 (lv_at hl 0 rfl) ?_
    refine zi_add (r := ((lo + (b - a) : Nat) : Int)) hx hb dX2_quickSort_323 (by omega) ?_
    refine z_callv (wr := []) (wo := (fun u : Nat → Int64 => [zL h0 dJ n u])) (z_runS (n := 3) (rest := []) S (ihq h0 (n) (g2) (((lo : Nat) : Int)) (((lo + (b - a) : Nat) : Int)) (lo) (lo + (b - a)) (by omega) (by omega) (by omega) (by omega) (by omega) (by omega)) (lw_S q44 q24 q4 q25) rfl rfl (by decide +kernel) ⟨by show (d9 - 1 + 2) + 1 ≤ d9 + 2; omega, by show 8 + (14 + 11) + (33 * (d9 - 1) + 49) ≤ 33 * d9 + 49; omega⟩ hw [0] rfl rfl rfl hl.1 rfl (Nat.le_of_ble_eq_true rfl) dX2_quickSort_324 ⟨Nat.le_of_ble_eq_true rfl, Nat.le_of_ble_eq_true rfl⟩) hw [0] [] rfl rfl rfl (by decide) [0] rfl (fun _ => rfl) (fun u H locs hp hw => ?_)
    exact lp_q5 (a := a) (b := b) (d0 := d0) (v := v) (f := f) (g2 := g2) (g3 := u) S hn hin hlh hd0 hd9 ihq kx (by omega) (by omega) (by omega) hLK hp2 z1 z2 z3 hp.1 hp.2 hw (lv_sub hl [1, 2, 3, 6, 7] rfl)
set_option maxHeartbeats 4000000 in
set_option maxRecDepth 100000 in
/-- from the last choice of the pivot on -/
theorem lp_q6 {h0 n lo hi d9 l1 m1 n1 : Nat} {f : Nat → Int64} {H : Heap} {locs : List Loc} {ls : Array Slot} (S : CallFix p m c cX2_quickSort 14 s args lw_all RX2) (hn : n < 1073741824) (hin : hi ≤ n) (hlh : lo ≤ hi) (hd0 : 16 ≤ hi - lo) (hd9 : hi < lo + 16 + d9) (ihq : zQk l D dJ dI (d9 - 1)) (kx : ∀ (g : Nat → Int64) (H : Heap) (locs : List Loc) (ls : Array Slot), zW D dJ dI A s [zL h0 dJ n g] H locs → zs_pm f g lo hi → zs_srt g lo hi → W p l e (zRm (d9 + 2) 0 0 (33 * d9 + 49)) s m args below meth c H locs 0 0 Q (F0 m 348 ls [])) (hl1 : lo ≤ l1 ∧ l1 < hi) (hm1 : lo ≤ m1 ∧ m1 < hi) (hn1 : lo ≤ n1 ∧ n1 < hi) (hw : zW D dJ dI A s [zL h0 dJ n f] H locs) (hl : lv_has ls 14 [(0, .ref h0), (1, .int (zi ((lo : Nat) : Int))), (2, .int (zi ((hi : Nat) : Int))), (4, .int (zi ((m1 : Nat) : Int))), (5, .int (zi ((l1 : Nat) : Int))), (6, .int (zi ((n1 : Nat) : Int)))]) : W p l e (zRm (d9 + 2) 0 0 (33 * d9 + 49)) s m args below meth c H locs 0 0 Q (F0 m 103 ls []) := by
  obtain ⟨hx, hb, hml, hown, hts⟩ := id S
  refine lv_aload_n hx hb dX2_quickSort_103 rfl (lv_at hl 0 rfl) ?_
  refine lv_iload hx hb dX2_quickSort_104 (lv_at hl 4 rfl) ?_
  refine lv_iload hx hb dX2_quickSort_106 (lv_at hl 3 rfl) ?_
  refine lv_iload hx hb dX2_quickSort_108 (lv_at hl 5 rfl) ?_
  refine z_calli (wr := []) (wo := (fun _ : Nat => [zL h0 dJ n (f)])) (z_runS (n := 4) (rest := []) S (met_med3 l D dJ dI h0 n f (((l1 : Nat) : Int)) (((m1 : Nat) : Int)) (((n1 : Nat) : Int)) (l1) (m1) (n1) (by omega) (by omega) (by omega) (by omega) (by omega) (by omega) (by omega)) (lw_S q29 q30 q4 q31) rfl rfl (by decide +kernel) ⟨by show 1 + 1 ≤ d9 + 2; omega, by show 8 + (7 + 11) + (23) ≤ 33 * d9 + 49; omega⟩ hw [0] rfl rfl rfl hl.1 rfl (Nat.le_of_ble_eq_true rfl) dX2_quickSort_110 ⟨Nat.le_of_ble_eq_true rfl, Nat.le_of_ble_eq_true rfl⟩) hw [0] [] rfl rfl rfl (by decide) [0] rfl (fun _ => rfl) (fun r mm H locs hp hw => ?_)
  obtain ⟨hp, hp9⟩ := hp
  subst hp
  have hmm : lo ≤ mm ∧ mm < hi := by omega
  clear hp9
  refine lv_istore (lv' := [(4, .int (zi (((mm : Nat) : Int)))), (0, .ref h0), (1, .int (zi (((lo : Nat) : Int)))), (2, .int (zi (((hi : Nat) : Int)))), (5, .int (zi (((l1 : Nat) : Int)))), (6, .int (zi (((n1 : Nat) : Int))))]) hx hb dX2_quickSort_113 hl (by decide) rfl (fun ls hl => ?_)
  refine lv_aload_n hx hb dX2_quickSort_115 rfl (lv_at hl 1 rfl) ?_
  refine lv_iload hx hb dX2_quickSort_116 (lv_at hl 0 rfl) ?_
  refine zl_ald hx hb hw 0 (mm) rfl (by omega) (by omega) (by omega) dX2_quickSort_118 ?_
  refine lv_lstore (lv' := [(7, .long ((f) (mm))), (4, .int (zi (((mm : Nat) : Int)))), (0, .ref h0), (1, .int (zi (((lo : Nat) : Int)))), (2, .int (zi (((hi : Nat) : Int)))), (5, .int (zi (((l1 : Nat) : Int)))), (6, .int (zi (((n1 : Nat) : Int))))]) hx hb dX2_quickSort_119 hl (by decide) rfl (fun ls hl => ?_)
  refine lv_iload_n hx hb dX2_quickSort_121 rfl (lv_at hl 3 rfl) ?_
  refine lv_istore (lv' := [(9, .int (zi (((lo : Nat) : Int)))), (7, .long ((f) (mm))), (4, .int (zi (((mm : Nat) : Int)))), (0, .ref h0), (1, .int (zi (((lo : Nat) : Int)))), (2, .int (zi (((hi : Nat) : Int)))), (5, .int (zi (((l1 : Nat) : Int)))), (6, .int (zi (((n1 : Nat) : Int))))]) hx hb dX2_quickSort_122 hl (by decide) rfl (fun ls hl => ?_)
  refine lv_iload hx hb dX2_quickSort_124 (lv_at hl 0 rfl) ?_
  refine lv_istore (lv' := [(10, .int (zi (((lo : Nat) : Int)))), (9, .int (zi (((lo : Nat) : Int)))), (7, .long ((f) (mm))), (4, .int (zi (((mm : Nat) : Int)))), (0, .ref h0), (1, .int (zi (((lo : Nat) : Int)))), (2, .int (zi (((hi : Nat) : Int)))), (5, .int (zi (((l1 : Nat) : Int)))), (6, .int (zi (((n1 : Nat) : Int))))]) hx hb dX2_quickSort_126 hl (by decide) rfl (fun ls hl => ?_)
  refine lv_iload_n hx hb dX2_quickSort_128 rfl (lv_at hl 6 rfl) ?_
  refine zi_const hx hb dX2_quickSort_129 ?_
  refine zi_sub (r := ((hi - 1 : Nat) : Int)) hx hb dX2_quickSort_130 (by omega) ?_
  refine lv_istore (lv' := [(11, .int (zi (((hi - 1 : Nat) : Int)))), (10, .int (zi (((lo : Nat) : Int)))), (9, .int (zi (((lo : Nat) : Int)))), (7, .long ((f) (mm))), (4, .int (zi (((mm : Nat) : Int)))), (0, .ref h0), (1, .int (zi (((lo : Nat) : Int)))), (2, .int (zi (((hi : Nat) : Int)))), (5, .int (zi (((l1 : Nat) : Int)))), (6, .int (zi (((n1 : Nat) : Int))))]) hx hb dX2_quickSort_131 hl (by decide) rfl (fun ls hl => ?_)
  refine lv_iload hx hb dX2_quickSort_133 (lv_at hl 0 rfl) ?_
  refine lv_istore (lv' := [(12, .int (zi (((hi - 1 : Nat) : Int)))), (11, .int (zi (((hi - 1 : Nat) : Int)))), (10, .int (zi (((lo : Nat) : Int)))), (9, .int (zi (((lo : Nat) : Int)))), (7, .long ((f) (mm))), (4, .int (zi (((mm : Nat) : Int)))), (0, .ref h0), (1, .int (zi (((lo : Nat) : Int)))), (2, .int (zi (((hi : Nat) : Int)))), (5, .int (zi (((l1 : Nat) : Int)))), (6, .int (zi (((n1 : Nat) : Int))))]) hx hb dX2_quickSort_135 hl (by decide) rfl (fun ls hl => ?_)
  refine lp_q3 (f := f) (v := f mm) (d9 := d9) S hn hin (fun a b d0 g H locs ls hI hw hl => ?_) (hi + 1) lo lo hi hi f _ _ _ _ H locs ls (by omega) rfl rfl (by omega) (by omega) (zs_q_0 hlh) hw (lv_sub hl [6, 7, 8, 4, 3, 2, 1, 0] rfl)
  exact lp_q4 (mm := mm) (v := f mm) (f := f) S hn hin hlh hd0 hd9 ihq kx hmm.1 hmm.2 rfl hI hw hl
end ZQS
set_option maxHeartbeats 4000000 in
set_option maxRecDepth 100000 in
theorem met_qstep (l : Launch) (D : va_G) (dJ dI : ClassId) (d9 : Nat) (ih : ∀ d', d' < d9 → zQk l D dJ dI d') : zQk l D dJ dI d9 := by
  intro h0 n f za zb lo hi ea eb hlh hin hn hd9
  subst ea
  subst eb
  refine z_met (by decide) (Nat.le_of_ble_eq_true rfl) ?_
  intro p e s m below meth c ls S hr hlocks hnm hw hl
  have S : CallFix p m c cX2_quickSort 14 s _ lw_all RX2 := S
  obtain ⟨hx, hb, hml, hown, hts⟩ := id S
  have hl : lv_has ls 14 [(0, .ref h0), (1, .int (zi (((lo : Nat) : Int)))), (2, .int (zi (((hi : Nat) : Int))))] := hl
  refine lv_iload_n hx hb dX2_quickSort_0 rfl (lv_at hl 2 rfl) ?_
  refine lv_iload_n hx hb dX2_quickSort_1 rfl (lv_at hl 1 rfl) ?_
  refine zi_sub (r := ((hi - lo : Nat) : Int)) hx hb dX2_quickSort_2 (by omega) ?_
  refine lv_istore_n (lv' := [(3, .int (zi (((hi - lo : Nat) : Int)))), (0, .ref h0), (1, .int (zi (((lo : Nat) : Int)))), (2, .int (zi (((hi : Nat) : Int))))]) hx hb dX2_quickSort_3 rfl hl (by decide) rfl (fun ls hl => ?_)
  refine lv_iload_n hx hb dX2_quickSort_4 rfl (lv_at hl 0 rfl) ?_
  refine lv_bipush (v := zi (16)) hx hb dX2_quickSort_5 (by decide +kernel) ?_
  refine zi_icmp_ge (tgt := 17) hx hb dX2_quickSort_7 (by decide) (by omega) (by omega) (fun c_7 => ?_) (fun c_7 => ?_)
  · have ihq := ih (d9 - 1) (by omega)
    refine lv_iload_n hx hb dX2_quickSort_17 rfl (lv_at hl 2 rfl) ?_
    refine lv_iload_n hx hb dX2_quickSort_18 rfl (lv_at hl 0 rfl) ?_
    refine zi_const hx hb dX2_quickSort_19 ?_
    refine zi_divN (a := hi - lo) (b := 2) hx hb dX2_quickSort_20 (by omega) (by omega) (by omega) (by omega) (by omega) ?_
    refine zi_add (r := ((lo + (hi - lo) / (2) : Nat) : Int)) hx hb dX2_quickSort_21 (by omega) ?_
    refine lv_istore (lv' := [(4, .int (zi (((lo + (hi - lo) / (2) : Nat) : Int)))), (3, .int (zi (((hi - lo : Nat) : Int)))), (0, .ref h0), (1, .int (zi (((lo : Nat) : Int)))), (2, .int (zi (((hi : Nat) : Int))))]) hx hb dX2_quickSort_22 hl (by decide) rfl (fun ls hl => ?_)
    refine lv_iload_n hx hb dX2_quickSort_24 rfl (lv_at hl 3 rfl) ?_
    refine lv_istore (lv' := [(5, .int (zi (((lo : Nat) : Int)))), (4, .int (zi (((lo + (hi - lo) / (2) : Nat) : Int)))), (3, .int (zi (((hi - lo : Nat) : Int)))), (0, .ref h0), (1, .int (zi (((lo : Nat) : Int)))), (2, .int (zi (((hi : Nat) : Int))))]) hx hb dX2_quickSort_25 hl (by decide) rfl (fun ls hl => ?_)
    refine lv_iload_n hx hb dX2_quickSort_27 rfl (lv_at hl 5 rfl) ?_
    refine zi_const hx hb dX2_quickSort_28 ?_
    refine zi_sub (r := ((hi - 1 : Nat) : Int)) hx hb dX2_quickSort_29 (by omega) ?_
    refine lv_istore (lv' := [(6, .int (zi (((hi - 1 : Nat) : Int)))), (5, .int (zi (((lo : Nat) : Int)))), (4, .int (zi (((lo + (hi - lo) / (2) : Nat) : Int)))), (3, .int (zi (((hi - lo : Nat) : Int)))), (0, .ref h0), (1, .int (zi (((lo : Nat) : Int)))), (2, .int (zi (((hi : Nat) : Int))))]) hx hb dX2_quickSort_30 hl (by decide) rfl (fun ls hl => ?_)
    refine lv_iload_n hx hb dX2_quickSort_32 rfl (lv_at hl 3 rfl) ?_
    refine lv_sipush (v := zi (128)) hx hb dX2_quickSort_33 (by decide +kernel) ?_
    refine zi_icmp_le (tgt := 103) hx hb dX2_quickSort_36 (by decide) (by omega) (by omega) (fun c_36 => ?_) (fun c_36 => ?_)
    · refine lp_q6 (f := f) (l1 := lo) (m1 := lo + (hi - lo) / (2)) (n1 := hi - 1) S hn hin hlh (by omega) hd9 ihq (fun g H locs ls hw hp1 hp2 => ?_) (by omega) (by omega) (by omega) hw (lv_sub hl [4, 5, 6, 2, 1, 0] rfl)
      exact z_vret hx hb hr hlocks hw g [0] rfl rfl ⟨hp1, hp2⟩ dX2_quickSort_348
    · refine lv_iload_n hx hb dX2_quickSort_39 rfl (lv_at hl 3 rfl) ?_
      refine lv_bipush (v := zi (8)) hx hb dX2_quickSort_40 (by decide +kernel) ?_
      refine zi_divN (a := hi - lo) (b := 8) hx hb dX2_quickSort_42 (by omega) (by omega) (by omega) (by omega) (by omega) ?_
      refine lv_istore (lv' := [(7, .int (zi ((((hi - lo) / (8) : Nat) : Int)))), (6, .int (zi (((hi - 1 : Nat) : Int)))), (5, .int (zi (((lo : Nat) : Int)))), (4, .int (zi (((lo + (hi - lo) / (2) : Nat) : Int)))), (3, .int (zi (((hi - lo : Nat) : Int)))), (0, .ref h0), (1, .int (zi (((lo : Nat) : Int)))), (2, .int (zi (((hi : Nat) : Int))))]) hx hb dX2_quickSort_43 hl (by decide) rfl (fun ls hl => ?_)
      refine lv_aload_n hx hb dX2_quickSort_45 rfl (lv_at hl 5 rfl) ?_
      refine lv_iload hx hb dX2_quickSort_46 (lv_at hl 2 rfl) ?_
      refine lv_iload hx hb dX2_quickSort_48 (lv_at hl 2 rfl) ?_
      refine lv_iload hx hb dX2_quickSort_50 (lv_at hl 0 rfl) ?_
      refine zi_add (r := ((lo + (hi - lo) / (8) : Nat) : Int)) hx hb dX2_quickSort_52 (by omega) ?_
      refine lv_iload hx hb dX2_quickSort_53 (lv_at hl 2 rfl) ?_
      refine zi_const hx hb dX2_quickSort_55 ?_
      refine lv_iload hx hb dX2_quickSort_56 (lv_at hl 0 rfl) ?_
      refine zi_mul (r := ((2 * ((hi - lo) / (8)) : Nat) : Int)) hx hb dX2_quickSort_58 (by omega) ?_
      refine zi_add (r := ((lo + 2 * ((hi - lo) / (8)) : Nat) : Int)) hx hb dX2_quickSort_59 (by omega) ?_
      refine z_calli (wr := []) (wo := (fun _ : Nat => [zL h0 dJ n (f)])) (z_runS (n := 4) (rest := []) S (met_med3 l D dJ dI h0 n f (((lo : Nat) : Int)) (((lo + (hi - lo) / (8) : Nat) : Int)) (((lo + 2 * ((hi - lo) / (8)) : Nat) : Int)) (lo) (lo + (hi - lo) / (8)) (lo + 2 * ((hi - lo) / (8))) (by omega) (by omega) (by omega) (by omega) (by omega) (by omega) (by omega)) (lw_S q29 q30 q4 q31) rfl rfl (by decide +kernel) ⟨by show 1 + 1 ≤ d9 + 2; omega, by show 8 + (7 + 11) + (23) ≤ 33 * d9 + 49; omega⟩ hw [0] rfl rfl rfl hl.1 rfl (Nat.le_of_ble_eq_true rfl) dX2_quickSort_60 ⟨Nat.le_of_ble_eq_true rfl, Nat.le_of_ble_eq_true rfl⟩) hw [0] [] rfl rfl rfl (by decide) [0] rfl (fun _ => rfl) (fun r u1 H locs hp hw => ?_)
      obtain ⟨hp, hp9⟩ := hp
      subst hp
      have hu1 : lo ≤ u1 ∧ u1 < hi := by omega
      clear hp9
      refine lv_istore (lv' := [(5, .int (zi (((u1 : Nat) : Int)))), (7, .int (zi ((((hi - lo) / (8) : Nat) : Int)))), (6, .int (zi (((hi - 1 : Nat) : Int)))), (4, .int (zi (((lo + (hi - lo) / (2) : Nat) : Int)))), (3, .int (zi (((hi - lo : Nat) : Int)))), (0, .ref h0), (1, .int (zi (((lo : Nat) : Int)))), (2, .int (zi (((hi : Nat) : Int))))]) hx hb dX2_quickSort_63 hl (by decide) rfl (fun ls hl => ?_)
      refine lv_aload_n hx hb dX2_quickSort_65 rfl (lv_at hl 5 rfl) ?_
      refine lv_iload hx hb dX2_quickSort_66 (lv_at hl 3 rfl) ?_
      refine lv_iload hx hb dX2_quickSort_68 (lv_at hl 1 rfl) ?_
      refine zi_sub (r := ((lo + (hi - lo) / (2) - (hi - lo) / (8) : Nat) : Int)) hx hb dX2_quickSort_70 (by omega) ?_
      refine lv_iload hx hb dX2_quickSort_71 (lv_at hl 3 rfl) ?_
      refine lv_iload hx hb dX2_quickSort_73 (lv_at hl 3 rfl) ?_
      refine lv_iload hx hb dX2_quickSort_75 (lv_at hl 1 rfl) ?_
      refine zi_add (r := ((lo + (hi - lo) / (2) + (hi - lo) / (8) : Nat) : Int)) hx hb dX2_quickSort_77 (by omega) ?_
      refine z_calli (wr := []) (wo := (fun _ : Nat => [zL h0 dJ n (f)])) (z_runS (n := 4) (rest := []) S (met_med3 l D dJ dI h0 n f (((lo + (hi - lo) / (2) - (hi - lo) / (8) : Nat) : Int)) (((lo + (hi - lo) / (2) : Nat) : Int)) (((lo + (hi - lo) / (2) + (hi - lo) / (8) : Nat) : Int)) (lo + (hi - lo) / (2) - (hi - lo) / (8)) (lo + (hi - lo) / (2)) (lo + (hi - lo) / (2) + (hi - lo) / (8)) (by omega) (by omega) (by omega) (by omega) (by omega) (by omega) (by omega)) (lw_S q29 q30 q4 q31) rfl rfl (by decide +kernel) ⟨by show 1 + 1 ≤ d9 + 2; omega, by show 8 + (7 + 11) + (23) ≤ 33 * d9 + 49; omega⟩ hw [0] rfl rfl rfl hl.1 rfl (Nat.le_of_ble_eq_true rfl) dX2_quickSort_78 ⟨Nat.le_of_ble_eq_true rfl, Nat.le_of_ble_eq_true rfl⟩) hw [0] [] rfl rfl rfl (by decide) [0] rfl (fun _ => rfl) (fun r u2 H locs hp hw => ?_)
      obtain ⟨hp, hp9⟩ := hp
      subst hp
      have hu2 : lo ≤ u2 ∧ u2 < hi := by omega
      clear hp9
      refine lv_istore (lv' := [(4, .int (zi (((u2 : Nat) : Int)))), (5, .int (zi (((u1 : Nat) : Int)))), (7, .int (zi ((((hi - lo) / (8) : Nat) : Int)))), (6, .int (zi (((hi - 1 : Nat) : Int)))), (3, .int (zi (((hi - lo : Nat) : Int)))), (0, .ref h0), (1, .int (zi (((lo : Nat) : Int)))), (2, .int (zi (((hi : Nat) : Int))))]) hx hb dX2_quickSort_81 hl (by decide) rfl (fun ls hl => ?_)
      refine lv_aload_n hx hb dX2_quickSort_83 rfl (lv_at hl 5 rfl) ?_
      refine lv_iload hx hb dX2_quickSort_84 (lv_at hl 3 rfl) ?_
      refine zi_const hx hb dX2_quickSort_86 ?_
      refine lv_iload hx hb dX2_quickSort_87 (lv_at hl 2 rfl) ?_
      refine zi_mul (r := ((2 * ((hi - lo) / (8)) : Nat) : Int)) hx hb dX2_quickSort_89 (by omega) ?_
      refine zi_sub (r := ((hi - 1 - 2 * ((hi - lo) / (8)) : Nat) : Int)) hx hb dX2_quickSort_90 (by omega) ?_
      refine lv_iload hx hb dX2_quickSort_91 (lv_at hl 3 rfl) ?_
      refine lv_iload hx hb dX2_quickSort_93 (lv_at hl 2 rfl) ?_
      refine zi_sub (r := ((hi - 1 - (hi - lo) / (8) : Nat) : Int)) hx hb dX2_quickSort_95 (by omega) ?_
      refine lv_iload hx hb dX2_quickSort_96 (lv_at hl 3 rfl) ?_
      refine z_calli (wr := []) (wo := (fun _ : Nat => [zL h0 dJ n (f)])) (z_runS (n := 4) (rest := []) S (met_med3 l D dJ dI h0 n f (((hi - 1 - 2 * ((hi - lo) / (8)) : Nat) : Int)) (((hi - 1 - (hi - lo) / (8) : Nat) : Int)) (((hi - 1 : Nat) : Int)) (hi - 1 - 2 * ((hi - lo) / (8))) (hi - 1 - (hi - lo) / (8)) (hi - 1) (by omega) (by omega) (by omega) (by omega) (by omega) (by omega) (by omega)) (lw_S q29 q30 q4 q31) rfl rfl (by decide +kernel) ⟨by show 1 + 1 ≤ d9 + 2; omega, by show 8 + (7 + 11) + (23) ≤ 33 * d9 + 49; omega⟩ hw [0] rfl rfl rfl hl.1 rfl (Nat.le_of_ble_eq_true rfl) dX2_quickSort_98 ⟨Nat.le_of_ble_eq_true rfl, Nat.le_of_ble_eq_true rfl⟩) hw [0] [] rfl rfl rfl (by decide) [0] rfl (fun _ => rfl) (fun r u3 H locs hp hw => ?_)
      obtain ⟨hp, hp9⟩ := hp
      subst hp
      have hu3 : lo ≤ u3 ∧ u3 < hi := by omega
      clear hp9
      refine lv_istore (lv' := [(6, .int (zi (((u3 : Nat) : Int)))), (4, .int (zi (((u2 : Nat) : Int)))), (5, .int (zi (((u1 : Nat) : Int)))), (7, .int (zi ((((hi - lo) / (8) : Nat) : Int)))), (3, .int (zi (((hi - lo : Nat) : Int)))), (0, .ref h0), (1, .int (zi (((lo : Nat) : Int)))), (2, .int (zi (((hi : Nat) : Int))))]) hx hb dX2_quickSort_101 hl (by decide) rfl (fun ls hl => ?_)
      refine lp_q6 (f := f) (l1 := u1) (m1 := u2) (n1 := u3) S hn hin hlh (by omega) hd9 ihq (fun g H locs ls hw hp1 hp2 => ?_) (by omega) (by omega) (by omega) hw (lv_sub hl [5, 6, 7, 1, 2, 0] rfl)
      exact z_vret hx hb hr hlocks hw g [0] rfl rfl ⟨hp1, hp2⟩ dX2_quickSort_348
  · refine lv_aload_n hx hb dX2_quickSort_10 rfl (lv_at hl 1 rfl) ?_
    refine lv_iload_n hx hb dX2_quickSort_11 rfl (lv_at hl 2 rfl) ?_
    refine lv_iload_n hx hb dX2_quickSort_12 rfl (lv_at hl 3 rfl) ?_
    refine z_callv (wr := []) (wo := (fun u : Nat → Int64 => [zL h0 dJ n u])) (z_runS (n := 3) (rest := []) S (met_sel l D dJ dI h0 n f (((lo : Nat) : Int)) (((hi : Nat) : Int)) lo hi (by omega) (by omega) (by omega) (by omega) (by omega)) (lw_S q26 q27 q4 q28) rfl rfl (by decide +kernel) ⟨by show 0 + 1 ≤ d9 + 2; omega, by show 8 + (7 + 11) + (0) ≤ 33 * d9 + 49; omega⟩ hw [0] rfl rfl rfl hl.1 rfl (Nat.le_of_ble_eq_true rfl) dX2_quickSort_13 ⟨Nat.le_of_ble_eq_true rfl, Nat.le_of_ble_eq_true rfl⟩) hw [0] [] rfl rfl rfl (by decide) [0] rfl (fun _ => rfl) (fun u H locs hp hw => ?_)
    exact z_vret hx hb hr hlocks hw u [0] rfl rfl hp dX2_quickSort_16
/-- quickSort sorts -/
theorem met_quick (l : Launch) (D : va_G) (dJ dI : ClassId) (d : Nat) : zQk l D dJ dI d := Nat.strongRecOn d (fun d ih => met_qstep l D dJ dI d ih)
end
section
/-! LongArrays.mergeSort, and Arrays.copyOf. Printed by gen/m11.py -/
set_option maxRecDepth 100000
theorem zl_nfw : nativeFrameWords "java/lang/System" "arraycopy" 5 = 7 := by decide +kernel
abbrev zCR (l : Launch) (y : MethodName) (cc : ByteArray) (maxL fr mc ms lo : Nat) (ret : FieldType) (D : va_G) (dJ dI : ClassId) (av : List Value) (win : va_W) {S : Type} (post : S → Prop) (out : S → Nat → va_W) : Prop := ∀ sz, Met l y (ws_ y cc maxL (some ret)) (zRm fr mc ms lo) (zPre D dJ dI av win sz) (va_Qr post (fun u q => zOut D (va_A win sz) (out u q)) (va_A win sz)) mc ms (va_A win sz)
section ZCOPY
variable {p : Program} {l : Launch} {e : Env} {R : Room} {s : State} {m : MethodId} {args : Array Value} {below : List Frame} {meth : Method} {c : Code} {H : Heap} {locs : List Loc} {cells slots : Nat} {Q : State → Prop}
variable {cc : ByteArray} {pc : Nat} {ls : Array Slot} {rest : List Value} {D : va_G} {dJ dI : ClassId} {A : Nat → Prop} {ws : va_W}
theorem zl_copy {own : String} {index a0 a n0 n1 : Nat} {f g : Nat → Int64} {zs zd zn : Int} {ws' : va_W} (hx : p.tables.exec = Jvm.exec) (hb : c.code = cc) (hml : c.maxLocals = ls.size) (hown : s.vm.findClass own = some m.cls) (hts : ∀ w ∈ lw_all, w.before args s = true) (hlink : Cond.methodLink own index arraycopyName ∈ lw_all) (hw : zW D dJ dI A s ws H locs) (q0 q1 sp dp k : Nat) (ha0 : ws[q0]? = some (zL a0 dJ n0 f)) (ha1 : ws[q1]? = some (zL a dJ n1 g)) (es : zs = (sp : Int)) (ed : zd = (dp : Int)) (ek : zn = (k : Int)) (h4 : sp + k ≤ n0) (h5 : dp + k ≤ n1) (hn0 : n0 < 1073741824) (hn1 : n1 < 1073741824) (hfr : 1 ≤ R.frames) (hlo : (rest.map fun v => v.category).sum + (7 + 11) ≤ R.locals) (d : decode cc pc = .ok (.invokestatic index, 3)) (hws : ws.set q1 (zL a dJ n1 (va_cpy f g sp dp k)) = ws') (kk : ∀ (H1 : Heap) (locs1 : List Loc), zW D dJ dI A s ws' H1 locs1 → W p l e R s m args below meth c H1 locs1 cells slots Q (F0 m (pc + 3) ls rest)) : W p l e R s m args below meth c H locs cells slots Q (F0 m pc ls (.int (zi zn) :: .int (zi zd) :: .ref a :: .int (zi zs) :: .ref a0 :: rest)) := by
  subst hws
  have neg : ∀ (z : Int) (j : Nat), z = (j : Int) → j < 1073741824 → ¬ zi z < 0 := fun z j h1 h2 => by
    rw [Int32.lt_iff_toInt_lt, zi_toInt (by omega), Int32.toInt_zero]
    omega
  have cs := zi_cl es (by omega)
  have cd := zi_cl ed (by omega)
  have cn := zi_cl ek (by omega)
  refine va_copyl hx hb hml hown (hts _ hlink) (hts _ q72) (hts _ q71) (hts _ q8) hw.1 hw.2.1 hw.2.2.1 hw.2.2.2.1 q0 q1 0 0 (ty := .long) ha0 ha1 rfl rfl rfl (neg zs sp es (by omega)) (neg zd dp ed (by omega)) (neg zn k ek (by omega)) (by rw [cs, cn]; exact h4) (by rw [cd, cn]; exact h5) (fun _ _ => rfl) hfr (by rw [zl_nfw]; exact hlo) d (fun H1 locs1 hP hD hS => ?_)
  rw [cs, cd, cn] at hP hD
  exact kk H1 locs1 ⟨hw.1, hP, hD, hS, hw.2.2.2.2⟩
end ZCOPY
set_option maxHeartbeats 4000000 in
set_option maxRecDepth 100000 in
theorem met_copyOf (l : Launch) (D : va_G) (dJ dI : ClassId) (h0 n : Nat) (f : Nat → Int64) (zb : Int) (hi : Nat) (eb : zb = (hi : Int)) (hin : hi < n) (hi9 : hi < 2000000) (hn : n < 1073741824) : zCR l yJ2_copyOf cJ2_copyOf 3 1 1 hi 24 (.array .long) D dJ dI [.ref h0, .int (zi zb)] [zL h0 dJ n f] (fun w : Nat → Int64 => ∀ j, j < hi → w j = f j) (fun w q => [zL h0 dJ n f, zL q dJ hi w]) := by
  subst eb
  refine z_met (by decide) (Nat.le_of_ble_eq_true rfl) ?_
  intro p e s m below meth c ls S hr hlocks hnm hw hl
  have S : CallFix p m c cJ2_copyOf 3 s _ lw_all RJ2 := S
  obtain ⟨hx, hb, hml, hown, hts⟩ := id S
  have hl : lv_has ls 3 [(0, .ref h0), (1, .int (zi (((hi : Nat) : Int))))] := hl
  refine lv_iload_n hx hb dJ2_copyOf_0 rfl (lv_at hl 1 rfl) ?_
  refine lv_aload_n hx hb dJ2_copyOf_1 rfl (lv_at hl 0 rfl) ?_
  refine zl_alen hx hb hw 0 rfl dJ2_copyOf_2 ?_
  refine zi_icmp_ne (tgt := 14) hx hb dJ2_copyOf_3 (by decide) (by omega) (by omega) (fun c_3 => ?_) (fun c_3 => ?_)
  · refine lv_iload_n hx hb dJ2_copyOf_14 rfl (lv_at hl 1 rfl) ?_
    refine zl_new (k := hi) hx hb hts hw (by omega) (by omega) (Nat.le_of_ble_eq_true rfl) (by show 0 + hi ≤ hi; omega) dJ2_copyOf_15 (fun q H hw => ?_)
    have hw : zW D dJ dI _ s [zL h0 dJ n (f), zL q dJ hi (fun _ => 0)] H [] := hw
    refine W.widen (k := 1) (n := hi) (by omega) (by omega) ?_
    refine lv_astore_n (lv' := [(2, .ref q), (0, .ref h0), (1, .int (zi (((hi : Nat) : Int))))]) hx hb dJ2_copyOf_17 rfl hl (by decide) rfl (fun ls hl => ?_)
    refine lv_aload_n hx hb dJ2_copyOf_18 rfl (lv_at hl 1 rfl) ?_
    refine zi_const hx hb dJ2_copyOf_19 ?_
    refine lv_aload_n hx hb dJ2_copyOf_20 rfl (lv_at hl 0 rfl) ?_
    refine zi_const hx hb dJ2_copyOf_21 ?_
    refine lv_aload_n hx hb dJ2_copyOf_22 rfl (lv_at hl 1 rfl) ?_
    refine zl_alen hx hb hw 0 rfl dJ2_copyOf_23 ?_
    refine lv_iload_n hx hb dJ2_copyOf_24 rfl (lv_at hl 2 rfl) ?_
    refine zi_min ((hi : Nat) : Int) hx hb (hml.trans hl.1.symm) hown hts q69 (Nat.le_of_ble_eq_true rfl) (Nat.le_of_ble_eq_true rfl) (Nat.le_refl _) (Nat.le_refl _) (by omega) (by omega) (by omega) dJ2_copyOf_25 ?_
    refine zl_copy (own := RJ2) (ws' := [zL h0 dJ n (f), zL q dJ hi (va_cpy (f) (fun _ => 0) 0 0 hi)]) hx hb (hml.trans hl.1.symm) hown hts q70 hw 0 1 0 0 hi rfl rfl rfl rfl rfl (by omega) (by omega) (by omega) (by omega) (Nat.le_of_ble_eq_true rfl) (Nat.le_of_ble_eq_true rfl) dJ2_copyOf_28 rfl (fun H locs hw => ?_)
    refine lv_aload_n hx hb dJ2_copyOf_31 rfl (lv_at hl 0 rfl) ?_
    exact z_aret hx hb hr (Or.inr ⟨_, rfl⟩) hlocks hw (va_cpy (f) (fun _ => 0) 0 0 hi) [0, 1] rfl rfl (fun j h => by
        show va_cpy f (fun _ => 0) 0 0 hi j = f j
        rw [pk_cpy_in (Nat.zero_le _) (by omega)]
        congr 1
        omega) dJ2_copyOf_32
  · exact absurd c_3 (by omega)
section ZMG
variable {R : Room} {cells slots : Nat} {p : Program} {l : Launch} {e : Env} {s : State} {m : MethodId} {args : Array Value} {below : List Frame} {meth : Method} {c : Code} {Q : State → Prop} {D : va_G} {dJ dI : ClassId} {A : Nat → Prop}
set_option maxHeartbeats 4000000 in
set_option maxRecDepth 100000 in
/-- the merge loop -/
theorem lp_mg {h0 h3 n n3 lo mid hi : Nat} {a0 w : Nat → Int64} (S : CallFix p m c cX2_mergeSort_2 9 s args lw_all RX2) (hn : n < 1073741824) (hn3 : n3 < 1073741824) (hin : hi ≤ n) (hin3 : hi ≤ n3) (hlm : lo ≤ mid) (hmh : mid ≤ hi) (hs1 : zs_srt w lo mid) (hs2 : zs_srt w mid hi) (kx : ∀ (a : Nat → Int64) (H : Heap) (locs : List Loc) (ls : Array Slot), zs_mg a0 a w lo mid hi mid hi hi → zW D dJ dI A s [zL h0 dJ n a, zL h3 dJ n3 w] H locs → W p l e R s m args below meth c H locs cells slots Q (F0 m 148 ls [])) :
    ∀ (N i p1 q : Nat) (a : Nat → Int64) (z6 z7 z8 : Int) (H : Heap) (locs : List Loc) (ls : Array Slot), hi < i + N → i + mid = p1 + q → lo ≤ p1 ∧ p1 ≤ mid → mid ≤ q ∧ q ≤ hi → z6 = ((i : Nat) : Int) → z7 = ((p1 : Nat) : Int) → z8 = ((q : Nat) : Int) → zs_mg a0 a w lo mid hi p1 q i → zW D dJ dI A s [zL h0 dJ n a, zL h3 dJ n3 w] H locs → lv_has ls 9 [(0, .ref h0), (1, .int (zi ((lo : Nat) : Int))), (2, .int (zi ((hi : Nat) : Int))), (3, .ref h3), (5, .int (zi ((mid : Nat) : Int))), (6, .int (zi z6)), (7, .int (zi z7)), (8, .int (zi z8))] → W p l e R s m args below meth c H locs cells slots Q (F0 m 86 ls []) := by
  obtain ⟨hx, hb, hml, hown, hts⟩ := id S
  intro N
  induction N with
  | zero =>
    intro i p1 q a z6 z7 z8 H locs ls hN hip
    intro h1 h2
    exact absurd hN (by omega)
  | succ N ih =>
    intro i p1 q a z6 z7 z8 H locs ls hN hip hp9 hq9 e6 e7 e8 hI hw hl
    subst e6
    subst e7
    subst e8
    refine lv_iload hx hb dX2_mergeSort_2_86 (lv_at hl 5 rfl) ?_
    refine lv_iload_n hx hb dX2_mergeSort_2_88 rfl (lv_at hl 2 rfl) ?_
    refine zi_icmp_ge (tgt := 148) hx hb dX2_mergeSort_2_89 (by decide) (by omega) (by omega) (fun c_89 => ?_) (fun c_89 => ?_)
    · have e1 : i = hi := by omega
      have e2 : p1 = mid := by omega
      have e3 : q = hi := by omega
      rw [e1, e2, e3] at hI
      exact kx a H locs ls hI hw
    · refine lv_iload hx hb dX2_mergeSort_2_92 (lv_at hl 7 rfl) ?_
      refine lv_iload_n hx hb dX2_mergeSort_2_94 rfl (lv_at hl 2 rfl) ?_
      refine zi_icmp_ge (tgt := 117) hx hb dX2_mergeSort_2_95 (by decide) (by omega) (by omega) (fun c_95 => ?_) (fun c_95 => ?_)
      · refine lv_aload_n hx hb dX2_mergeSort_2_117 rfl (lv_at hl 0 rfl) ?_
        refine lv_iload hx hb dX2_mergeSort_2_118 (lv_at hl 5 rfl) ?_
        refine lv_aload_n hx hb dX2_mergeSort_2_120 rfl (lv_at hl 3 rfl) ?_
        refine lv_iload hx hb dX2_mergeSort_2_121 (lv_at hl 6 rfl) ?_
        refine zi_inc (v := ((p1 + 1 : Nat) : Int)) (k := 6) (lv' := [(7, .int (zi (((p1 + 1 : Nat) : Int)))), (0, .ref h0), (1, .int (zi (((lo : Nat) : Int)))), (2, .int (zi (((hi : Nat) : Int)))), (3, .ref h3), (5, .int (zi (((mid : Nat) : Int)))), (6, .int (zi (((i : Nat) : Int)))), (8, .int (zi (((q : Nat) : Int))))]) hx hb dX2_mergeSort_2_123 hl rfl (by omega) (by decide) rfl (fun ls hl => ?_)
        refine zl_ald hx hb hw 1 (p1) rfl (by omega) (by omega) (by omega) dX2_mergeSort_2_126 ?_
        refine zl_ast (ws' := [zL h0 dJ n (vp_updL (a) (i) ((w) (p1))), zL h3 dJ n3 (w)]) hx hb hw 0 (i) rfl (by omega) (by omega) (by omega) dX2_mergeSort_2_127 rfl (fun H locs hw => ?_)
        refine lv_goto (tgt := 142) hx hb dX2_mergeSort_2_128 (by decide) ?_
        refine zi_inc (v := ((i + 1 : Nat) : Int)) (k := 6) (lv' := [(6, .int (zi (((i + 1 : Nat) : Int)))), (7, .int (zi (((p1 + 1 : Nat) : Int)))), (0, .ref h0), (1, .int (zi (((lo : Nat) : Int)))), (2, .int (zi (((hi : Nat) : Int)))), (3, .ref h3), (5, .int (zi (((mid : Nat) : Int)))), (8, .int (zi (((q : Nat) : Int))))]) hx hb dX2_mergeSort_2_142 hl rfl (by omega) (by decide) rfl (fun ls hl => ?_)
        refine lv_goto (tgt := 86) hx hb dX2_mergeSort_2_145 (by decide) ?_
        exact ih (i + 1) (p1 + 1) q (vp_updL (a) (i) ((w) (p1))) _ _ _ H locs ls (by omega) (by omega) (by omega) (by omega) rfl rfl rfl (zs_mg_p hI (by omega) (by omega) (by omega) (by omega) (by omega) hs1 hs2 (by omega)) hw (lv_sub hl [2, 3, 4, 5, 6, 0, 1, 7] rfl)
      · refine lv_iload hx hb dX2_mergeSort_2_98 (lv_at hl 6 rfl) ?_
        refine lv_iload hx hb dX2_mergeSort_2_100 (lv_at hl 4 rfl) ?_
        refine zi_icmp_ge (tgt := 131) hx hb dX2_mergeSort_2_102 (by decide) (by omega) (by omega) (fun c_102 => ?_) (fun c_102 => ?_)
        · refine lv_aload_n hx hb dX2_mergeSort_2_131 rfl (lv_at hl 0 rfl) ?_
          refine lv_iload hx hb dX2_mergeSort_2_132 (lv_at hl 5 rfl) ?_
          refine lv_aload_n hx hb dX2_mergeSort_2_134 rfl (lv_at hl 3 rfl) ?_
          refine lv_iload hx hb dX2_mergeSort_2_135 (lv_at hl 7 rfl) ?_
          refine zi_inc (v := ((q + 1 : Nat) : Int)) (k := 7) (lv' := [(8, .int (zi (((q + 1 : Nat) : Int)))), (0, .ref h0), (1, .int (zi (((lo : Nat) : Int)))), (2, .int (zi (((hi : Nat) : Int)))), (3, .ref h3), (5, .int (zi (((mid : Nat) : Int)))), (6, .int (zi (((i : Nat) : Int)))), (7, .int (zi (((p1 : Nat) : Int))))]) hx hb dX2_mergeSort_2_137 hl rfl (by omega) (by decide) rfl (fun ls hl => ?_)
          refine zl_ald hx hb hw 1 (q) rfl (by omega) (by omega) (by omega) dX2_mergeSort_2_140 ?_
          refine zl_ast (ws' := [zL h0 dJ n (vp_updL (a) (i) ((w) (q))), zL h3 dJ n3 (w)]) hx hb hw 0 (i) rfl (by omega) (by omega) (by omega) dX2_mergeSort_2_141 rfl (fun H locs hw => ?_)
          refine zi_inc (v := ((i + 1 : Nat) : Int)) (k := 6) (lv' := [(6, .int (zi (((i + 1 : Nat) : Int)))), (8, .int (zi (((q + 1 : Nat) : Int)))), (0, .ref h0), (1, .int (zi (((lo : Nat) : Int)))), (2, .int (zi (((hi : Nat) : Int)))), (3, .ref h3), (5, .int (zi (((mid : Nat) : Int)))), (7, .int (zi (((p1 : Nat) : Int))))]) hx hb dX2_mergeSort_2_142 hl rfl (by omega) (by decide) rfl (fun ls hl => ?_)
          refine lv_goto (tgt := 86) hx hb dX2_mergeSort_2_145 (by decide) ?_
          exact ih (i + 1) p1 (q + 1) (vp_updL (a) (i) ((w) (q))) _ _ _ H locs ls (by omega) (by omega) (by omega) (by omega) rfl rfl rfl (zs_mg_q hI (by omega) (by omega) (by omega) (by omega) (by omega) hs1 hs2 (by omega)) hw (lv_sub hl [2, 3, 4, 5, 6, 0, 7, 1] rfl)
        · refine lv_aload_n hx hb dX2_mergeSort_2_105 rfl (lv_at hl 3 rfl) ?_
          refine lv_iload hx hb dX2_mergeSort_2_106 (lv_at hl 6 rfl) ?_
          refine zl_ald hx hb hw 1 (p1) rfl (by omega) (by omega) (by omega) dX2_mergeSort_2_108 ?_
          refine lv_aload_n hx hb dX2_mergeSort_2_109 rfl (lv_at hl 3 rfl) ?_
          refine lv_iload hx hb dX2_mergeSort_2_110 (lv_at hl 7 rfl) ?_
          refine zl_ald hx hb hw 1 (q) rfl (by omega) (by omega) (by omega) dX2_mergeSort_2_112 ?_
          refine zl_cmp hx hb dX2_mergeSort_2_113 ?_
          have hz_113_4 := zcz_spec ((w) (p1)) ((w) (q))
          refine zi_if_gt (tgt := 131) hx hb dX2_mergeSort_2_114 (by decide) (by omega) (fun c_114 => ?_) (fun c_114 => ?_)
          · refine lv_aload_n hx hb dX2_mergeSort_2_131 rfl (lv_at hl 0 rfl) ?_
            refine lv_iload hx hb dX2_mergeSort_2_132 (lv_at hl 5 rfl) ?_
            refine lv_aload_n hx hb dX2_mergeSort_2_134 rfl (lv_at hl 3 rfl) ?_
            refine lv_iload hx hb dX2_mergeSort_2_135 (lv_at hl 7 rfl) ?_
            refine zi_inc (v := ((q + 1 : Nat) : Int)) (k := 7) (lv' := [(8, .int (zi (((q + 1 : Nat) : Int)))), (0, .ref h0), (1, .int (zi (((lo : Nat) : Int)))), (2, .int (zi (((hi : Nat) : Int)))), (3, .ref h3), (5, .int (zi (((mid : Nat) : Int)))), (6, .int (zi (((i : Nat) : Int)))), (7, .int (zi (((p1 : Nat) : Int))))]) hx hb dX2_mergeSort_2_137 hl rfl (by omega) (by decide) rfl (fun ls hl => ?_)
            refine zl_ald hx hb hw 1 (q) rfl (by omega) (by omega) (by omega) dX2_mergeSort_2_140 ?_
            refine zl_ast (ws' := [zL h0 dJ n (vp_updL (a) (i) ((w) (q))), zL h3 dJ n3 (w)]) hx hb hw 0 (i) rfl (by omega) (by omega) (by omega) dX2_mergeSort_2_141 rfl (fun H locs hw => ?_)
            refine zi_inc (v := ((i + 1 : Nat) : Int)) (k := 6) (lv' := [(6, .int (zi (((i + 1 : Nat) : Int)))), (8, .int (zi (((q + 1 : Nat) : Int)))), (0, .ref h0), (1, .int (zi (((lo : Nat) : Int)))), (2, .int (zi (((hi : Nat) : Int)))), (3, .ref h3), (5, .int (zi (((mid : Nat) : Int)))), (7, .int (zi (((p1 : Nat) : Int))))]) hx hb dX2_mergeSort_2_142 hl rfl (by omega) (by decide) rfl (fun ls hl => ?_)
            refine lv_goto (tgt := 86) hx hb dX2_mergeSort_2_145 (by decide) ?_
            exact ih (i + 1) p1 (q + 1) (vp_updL (a) (i) ((w) (q))) _ _ _ H locs ls (by omega) (by omega) (by omega) (by omega) rfl rfl rfl (zs_mg_q hI (by omega) (by omega) (by omega) (by omega) (by omega) hs1 hs2 (by omega)) hw (lv_sub hl [2, 3, 4, 5, 6, 0, 7, 1] rfl)
          · refine lv_aload_n hx hb dX2_mergeSort_2_117 rfl (lv_at hl 0 rfl) ?_
            refine lv_iload hx hb dX2_mergeSort_2_118 (lv_at hl 5 rfl) ?_
            refine lv_aload_n hx hb dX2_mergeSort_2_120 rfl (lv_at hl 3 rfl) ?_
            refine lv_iload hx hb dX2_mergeSort_2_121 (lv_at hl 6 rfl) ?_
            refine zi_inc (v := ((p1 + 1 : Nat) : Int)) (k := 6) (lv' := [(7, .int (zi (((p1 + 1 : Nat) : Int)))), (0, .ref h0), (1, .int (zi (((lo : Nat) : Int)))), (2, .int (zi (((hi : Nat) : Int)))), (3, .ref h3), (5, .int (zi (((mid : Nat) : Int)))), (6, .int (zi (((i : Nat) : Int)))), (8, .int (zi (((q : Nat) : Int))))]) hx hb dX2_mergeSort_2_123 hl rfl (by omega) (by decide) rfl (fun ls hl => ?_)
            refine zl_ald hx hb hw 1 (p1) rfl (by omega) (by omega) (by omega) dX2_mergeSort_2_126 ?_
            refine zl_ast (ws' := [zL h0 dJ n (vp_updL (a) (i) ((w) (p1))), zL h3 dJ n3 (w)]) hx hb hw 0 (i) rfl (by omega) (by omega) (by omega) dX2_mergeSort_2_127 rfl (fun H locs hw => ?_)
            refine lv_goto (tgt := 142) hx hb dX2_mergeSort_2_128 (by decide) ?_
            refine zi_inc (v := ((i + 1 : Nat) : Int)) (k := 6) (lv' := [(6, .int (zi (((i + 1 : Nat) : Int)))), (7, .int (zi (((p1 + 1 : Nat) : Int)))), (0, .ref h0), (1, .int (zi (((lo : Nat) : Int)))), (2, .int (zi (((hi : Nat) : Int)))), (3, .ref h3), (5, .int (zi (((mid : Nat) : Int)))), (8, .int (zi (((q : Nat) : Int))))]) hx hb dX2_mergeSort_2_142 hl rfl (by omega) (by decide) rfl (fun ls hl => ?_)
            refine lv_goto (tgt := 86) hx hb dX2_mergeSort_2_145 (by decide) ?_
            exact ih (i + 1) (p1 + 1) q (vp_updL (a) (i) ((w) (p1))) _ _ _ H locs ls (by omega) (by omega) (by omega) (by omega) rfl rfl rfl (zs_mg_p hI (by omega) (by omega) (by omega) (by omega) (by omega) hs1 hs2 (by omega)) hw (lv_sub hl [2, 3, 4, 5, 6, 0, 1, 7] rfl)
/-- mergeSort's contract with a given second array, for less than 16 + d numbers -/
def zMg (l : Launch) (D : va_G) (dJ dI : ClassId) (d : Nat) : Prop := ∀ (h0 h3 n n3 : Nat) (f w : Nat → Int64) (za zb : Int) (lo hi : Nat), za = (lo : Int) → zb = (hi : Int) → lo ≤ hi → hi ≤ n → hi ≤ n3 → n < 1073741824 → n3 < 1073741824 → hi < lo + 16 + d → (∀ j, lo ≤ j → j < hi → w j = f j) → zCV l yX2_mergeSort_2 cX2_mergeSort_2 9 (d + 1) 0 0 (28 * d + 40) D dJ dI [.ref h0, .int (zi za), .int (zi zb), .ref h3] [zL h0 dJ n f, zL h3 dJ n3 w] (fun u : (Nat → Int64) × (Nat → Int64) => zs_pm f u.1 lo hi ∧ zs_srt u.1 lo hi ∧ ∀ j, (j < lo ∨ hi ≤ j) → u.2 j = w j) (fun u => [zL h0 dJ n u.1, zL h3 dJ n3 u.2])
set_option maxHeartbeats 4000000 in
set_option maxRecDepth 100000 in
/-- from 29 on: both halves, and the merge -/
theorem lp_m29 {h0 h3 n n3 lo hi d9 : Nat} {f w : Nat → Int64} {H : Heap} {locs : List Loc} {ls : Array Slot} (S : CallFix p m c cX2_mergeSort_2 9 s args lw_all RX2) (hn : n < 1073741824) (hn3 : n3 < 1073741824) (hin : hi ≤ n) (hin3 : hi ≤ n3) (hlh : lo ≤ hi) (hd0 : 16 ≤ hi - lo) (hd9 : hi < lo + 16 + d9) (hRf : d9 + 1 ≤ R.frames) (hRl : 28 * d9 + 40 ≤ R.locals) (hfit : cells + 0 ≤ R.cells ∧ slots + 0 ≤ R.slots) (ihm : zMg l D dJ dI (d9 - 1)) (hwf : ∀ j, lo ≤ j → j < hi → w j = f j) (kx : ∀ (a w2 : Nat → Int64) (H : Heap) (locs : List Loc) (ls : Array Slot) (pc : Nat), decode cX2_mergeSort_2 pc = .ok (.return_, 1) → zW D dJ dI A s [zL h0 dJ n a, zL h3 dJ n3 w2] H locs → zs_pm f a lo hi → zs_srt a lo hi → (∀ j, (j < lo ∨ hi ≤ j) → w2 j = w j) → W p l e R s m args below meth c H locs cells slots Q (F0 m pc ls [])) (hw : zW D dJ dI A s [zL h0 dJ n f, zL h3 dJ n3 w] H locs) (hl : lv_has ls 9 [(0, .ref h0), (1, .int (zi ((lo : Nat) : Int))), (2, .int (zi ((hi : Nat) : Int))), (3, .ref h3), (4, .int (zi ((hi - lo : Nat) : Int)))]) : W p l e R s m args below meth c H locs cells slots Q (F0 m 29 ls []) := by
  obtain ⟨hx, hb, hml, hown, hts⟩ := id S
  refine lv_iload_n hx hb dX2_mergeSort_2_29 rfl (lv_at hl 1 rfl) ?_
  refine lv_iload_n hx hb dX2_mergeSort_2_30 rfl (lv_at hl 2 rfl) ?_
  refine zi_add (r := ((lo + hi : Nat) : Int)) hx hb dX2_mergeSort_2_31 (by omega) ?_
  refine zi_const hx hb dX2_mergeSort_2_32 ?_
  refine zi_shr1 (a := lo + hi) hx hb dX2_mergeSort_2_33 (by omega) (by omega) ?_
  refine lv_istore (lv' := [(5, .int (zi ((((lo + hi) / 2 : Nat) : Int)))), (0, .ref h0), (1, .int (zi (((lo : Nat) : Int)))), (2, .int (zi (((hi : Nat) : Int)))), (3, .ref h3), (4, .int (zi (((hi - lo : Nat) : Int))))]) hx hb dX2_mergeSort_2_34 hl (by decide) rfl (fun ls hl => ?_)
  obtain ⟨mid, emid⟩ : ∃ mid, mid = (lo + hi) / 2 := ⟨_, rfl⟩
  rw [← emid] at hl
  refine lv_aload_n hx hb dX2_mergeSort_2_36 rfl (lv_at hl 4 rfl) ?_
  refine lv_iload_n hx hb dX2_mergeSort_2_37 rfl (lv_at hl 2 rfl) ?_
  refine lv_iload hx hb dX2_mergeSort_2_38 (lv_at hl 0 rfl) ?_
  refine lv_aload_n hx hb dX2_mergeSort_2_40 rfl (lv_at hl 1 rfl) ?_
  refine z_callv (wr := []) (wo := (fun u : (Nat → Int64) × (Nat → Int64) => [zL h0 dJ n u.2, zL h3 dJ n3 u.1])) (z_runS (n := 4) (rest := []) S (ihm h3 h0 n3 n (w) (f) (((lo : Nat) : Int)) (((mid : Nat) : Int)) (lo) (mid) (by omega) (by omega) (by omega) (by omega) (by omega) (by omega) (by omega) (by omega) (fun j a b => (hwf j a (by omega)).symm)) (lw_S q53 q54 q4 q55) rfl rfl (by decide +kernel) ⟨by show d9 - 1 + 1 + 1 ≤ R.frames; omega, by show 8 + (9 + 11) + (28 * (d9 - 1) + 40) ≤ R.locals; omega⟩ hw [1, 0] rfl rfl rfl hl.1 rfl (Nat.le_of_ble_eq_true rfl) dX2_mergeSort_2_41 hfit) hw [1, 0] [] rfl rfl rfl (by decide) [1, 0] rfl (fun _ => rfl) (fun u H locs hp hw => ?_)
  obtain ⟨w1, f1⟩ := u
  obtain ⟨hp1, hs1, ho1⟩ := hp
  dsimp only at hp1 hs1 ho1 hw
  refine lv_aload_n hx hb dX2_mergeSort_2_44 rfl (lv_at hl 4 rfl) ?_
  refine lv_iload hx hb dX2_mergeSort_2_45 (lv_at hl 0 rfl) ?_
  refine lv_iload_n hx hb dX2_mergeSort_2_47 rfl (lv_at hl 3 rfl) ?_
  refine lv_aload_n hx hb dX2_mergeSort_2_48 rfl (lv_at hl 1 rfl) ?_
  refine z_callv (wr := []) (wo := (fun u : (Nat → Int64) × (Nat → Int64) => [zL h0 dJ n u.2, zL h3 dJ n3 u.1])) (z_runS (n := 4) (rest := []) S (ihm h3 h0 n3 n (w1) (f1) (((mid : Nat) : Int)) (((hi : Nat) : Int)) (mid) (hi) (by omega) (by omega) (by omega) (by omega) (by omega) (by omega) (by omega) (by omega) (fun j a b => by
      rw [ho1 j (by omega), hp1.1 j (by omega)]
      exact (hwf j (by omega) b).symm)) (lw_S q53 q54 q4 q55) rfl rfl (by decide +kernel) ⟨by show d9 - 1 + 1 + 1 ≤ R.frames; omega, by show 8 + (9 + 11) + (28 * (d9 - 1) + 40) ≤ R.locals; omega⟩ hw [1, 0] rfl rfl rfl hl.1 rfl (Nat.le_of_ble_eq_true rfl) dX2_mergeSort_2_49 hfit) hw [1, 0] [] rfl rfl rfl (by decide) [1, 0] rfl (fun _ => rfl) (fun u H locs hp hw => ?_)
  obtain ⟨w2, f2⟩ := u
  obtain ⟨hp2, hs2, ho2⟩ := hp
  dsimp only at hp2 hs2 ho2 hw
  have hpw : zs_pm w w2 lo hi := (hp1.wide (Nat.le_refl _) (by omega)).tr (hp2.wide (by omega) (Nat.le_refl _))
  have hof : ∀ j, (j < lo ∨ hi ≤ j) → f2 j = f j := fun j h => (ho2 j (by omega)).trans (ho1 j (by omega))
  have hsL : zs_srt w2 lo mid := fun i j a b h => by
    rw [hp2.1 i (by omega), hp2.1 j (by omega)]
    exact hs1 i j a b h
  refine lv_aload_n hx hb dX2_mergeSort_2_52 rfl (lv_at hl 4 rfl) ?_
  refine lv_iload hx hb dX2_mergeSort_2_53 (lv_at hl 0 rfl) ?_
  refine zi_const hx hb dX2_mergeSort_2_55 ?_
  refine zi_sub (r := ((mid - 1 : Nat) : Int)) hx hb dX2_mergeSort_2_56 (by omega) ?_
  refine zl_ald hx hb hw 1 (mid - 1) rfl (by omega) (by omega) (by omega) dX2_mergeSort_2_57 ?_
  refine lv_aload_n hx hb dX2_mergeSort_2_58 rfl (lv_at hl 4 rfl) ?_
  refine lv_iload hx hb dX2_mergeSort_2_59 (lv_at hl 0 rfl) ?_
  refine zl_ald hx hb hw 1 (mid) rfl (by omega) (by omega) (by omega) dX2_mergeSort_2_61 ?_
  refine zl_cmp hx hb dX2_mergeSort_2_62 ?_
  have hz_62_1 := zcz_spec ((w2) (mid - 1)) ((w2) (mid))
  refine zi_if_gt (tgt := 76) hx hb dX2_mergeSort_2_63 (by decide) (by omega) (fun c_63 => ?_) (fun c_63 => ?_)
  · refine lv_iload_n hx hb dX2_mergeSort_2_76 rfl (lv_at hl 2 rfl) ?_
    refine lv_istore (lv' := [(6, .int (zi (((lo : Nat) : Int)))), (5, .int (zi (((mid : Nat) : Int)))), (0, .ref h0), (1, .int (zi (((lo : Nat) : Int)))), (2, .int (zi (((hi : Nat) : Int)))), (3, .ref h3), (4, .int (zi (((hi - lo : Nat) : Int))))]) hx hb dX2_mergeSort_2_77 hl (by decide) rfl (fun ls hl => ?_)
    refine lv_iload_n hx hb dX2_mergeSort_2_79 rfl (lv_at hl 3 rfl) ?_
    refine lv_istore (lv' := [(7, .int (zi (((lo : Nat) : Int)))), (6, .int (zi (((lo : Nat) : Int)))), (5, .int (zi (((mid : Nat) : Int)))), (0, .ref h0), (1, .int (zi (((lo : Nat) : Int)))), (2, .int (zi (((hi : Nat) : Int)))), (3, .ref h3), (4, .int (zi (((hi - lo : Nat) : Int))))]) hx hb dX2_mergeSort_2_80 hl (by decide) rfl (fun ls hl => ?_)
    refine lv_iload hx hb dX2_mergeSort_2_82 (lv_at hl 2 rfl) ?_
    refine lv_istore (lv' := [(8, .int (zi (((mid : Nat) : Int)))), (7, .int (zi (((lo : Nat) : Int)))), (6, .int (zi (((lo : Nat) : Int)))), (5, .int (zi (((mid : Nat) : Int)))), (0, .ref h0), (1, .int (zi (((lo : Nat) : Int)))), (2, .int (zi (((hi : Nat) : Int)))), (3, .ref h3), (4, .int (zi (((hi - lo : Nat) : Int))))]) hx hb dX2_mergeSort_2_84 hl (by decide) rfl (fun ls hl => ?_)
    refine lp_mg (a0 := f2) (w := w2) (mid := mid) S hn hn3 hin hin3 (by omega) (by omega) hsL hs2 (fun a H locs ls hI hw => ?_) (hi + 1) lo lo mid f2 _ _ _ H locs ls (by omega) (by omega) (by omega) (by omega) rfl rfl rfl zs_mg_0 hw (lv_sub hl [4, 5, 6, 7, 3, 2, 1, 0] rfl)
    obtain ⟨q1, q2⟩ := zs_mg_end hlh hwf hpw hof hI
    exact kx a w2 H locs ls _ dX2_mergeSort_2_148 hw q1 q2 (fun j h => hpw.1 j h)
  · refine lv_aload_n hx hb dX2_mergeSort_2_66 rfl (lv_at hl 4 rfl) ?_
    refine lv_iload_n hx hb dX2_mergeSort_2_67 rfl (lv_at hl 2 rfl) ?_
    refine lv_aload_n hx hb dX2_mergeSort_2_68 rfl (lv_at hl 1 rfl) ?_
    refine lv_iload_n hx hb dX2_mergeSort_2_69 rfl (lv_at hl 2 rfl) ?_
    refine lv_iload hx hb dX2_mergeSort_2_70 (lv_at hl 5 rfl) ?_
    refine zl_copy (own := RX2) (ws' := [zL h0 dJ n (va_cpy w2 f2 lo lo (hi - lo)), zL h3 dJ n3 (w2)]) hx hb (hml.trans hl.1.symm) hown hts q73 hw 1 0 lo lo (hi - lo) rfl rfl rfl rfl (by omega) (by omega) (by omega) (by omega) (by omega) (by omega) (by show 0 + (7 + 11) ≤ R.locals; omega) dX2_mergeSort_2_72 rfl (fun H locs hw => ?_)
    obtain ⟨q1, q2⟩ := zs_cpy_end hlh hwf hpw hof (zs_srt_join (by omega) (by omega) hsL hs2 (by omega))
    exact kx _ w2 H locs ls _ dX2_mergeSort_2_75 hw q1 q2 (fun j h => hpw.1 j h)
end ZMG
set_option maxHeartbeats 4000000 in
set_option maxRecDepth 100000 in
theorem met_mstep (l : Launch) (D : va_G) (dJ dI : ClassId) (d9 : Nat) (ih : ∀ d', d' < d9 → zMg l D dJ dI d') : zMg l D dJ dI d9 := by
  intro h0 h3 n n3 f w za zb lo hi ea eb hlh hin hin3 hn hn3 hd9 hwf
  subst ea
  subst eb
  refine z_met (by decide) (Nat.le_of_ble_eq_true rfl) ?_
  intro p e s m below meth c ls S hr hlocks hnm hw hl
  have S : CallFix p m c cX2_mergeSort_2 9 s _ lw_all RX2 := S
  obtain ⟨hx, hb, hml, hown, hts⟩ := id S
  have hl : lv_has ls 9 [(0, .ref h0), (1, .int (zi (((lo : Nat) : Int)))), (2, .int (zi (((hi : Nat) : Int)))), (3, .ref h3)] := hl
  refine lv_iload_n hx hb dX2_mergeSort_2_0 rfl (lv_at hl 2 rfl) ?_
  refine lv_iload_n hx hb dX2_mergeSort_2_1 rfl (lv_at hl 1 rfl) ?_
  refine zi_sub (r := ((hi - lo : Nat) : Int)) hx hb dX2_mergeSort_2_2 (by omega) ?_
  refine lv_istore (lv' := [(4, .int (zi (((hi - lo : Nat) : Int)))), (0, .ref h0), (1, .int (zi (((lo : Nat) : Int)))), (2, .int (zi (((hi : Nat) : Int)))), (3, .ref h3)]) hx hb dX2_mergeSort_2_3 hl (by decide) rfl (fun ls hl => ?_)
  refine lv_iload hx hb dX2_mergeSort_2_5 (lv_at hl 0 rfl) ?_
  refine lv_bipush (v := zi (16)) hx hb dX2_mergeSort_2_7 (by decide +kernel) ?_
  refine zi_icmp_ge (tgt := 19) hx hb dX2_mergeSort_2_9 (by decide) (by omega) (by omega) (fun c_9 => ?_) (fun c_9 => ?_)
  · refine lv_aload_n hx hb dX2_mergeSort_2_19 rfl (lv_at hl 4 rfl) ?_
    refine lv_ifnonnull (tgt := 29) hx hb dX2_mergeSort_2_20 (by decide) ?_
    refine lp_m29 (d9 := d9) (f := f) (w := w) S hn hn3 hin hin3 hlh (by omega) hd9 (by show d9 + 1 ≤ d9 + 1; omega) (by show 28 * d9 + 40 ≤ 28 * d9 + 40; omega) ⟨Nat.le_of_ble_eq_true rfl, Nat.le_of_ble_eq_true rfl⟩ (ih (d9 - 1) (by omega)) hwf (fun a w2 H locs ls pc hd hw q1 q2 q3 => ?_) hw (lv_sub hl [1, 2, 3, 4, 0] rfl)
    exact z_vret hx hb hr hlocks hw (a, w2) [0, 1] rfl rfl ⟨q1, q2, q3⟩ hd
  · refine lv_aload_n hx hb dX2_mergeSort_2_12 rfl (lv_at hl 1 rfl) ?_
    refine lv_iload_n hx hb dX2_mergeSort_2_13 rfl (lv_at hl 2 rfl) ?_
    refine lv_iload_n hx hb dX2_mergeSort_2_14 rfl (lv_at hl 3 rfl) ?_
    refine z_callv (wr := [zL h3 dJ n3 (w)]) (wo := (fun u : Nat → Int64 => [zL h0 dJ n (u), zL h3 dJ n3 (w)])) (z_runS (n := 3) (rest := []) S (met_ins l D dJ dI h0 n f (((lo : Nat) : Int)) (((hi : Nat) : Int)) lo hi (by omega) (by omega) (by omega) (by omega) (by omega)) (lw_S q56 q57 q4 q58) rfl rfl (by decide +kernel) ⟨by show 0 + 1 ≤ d9 + 1; omega, by show 8 + (9 + 11) + 0 ≤ 28 * d9 + 40; omega⟩ hw [0] rfl rfl rfl hl.1 rfl (Nat.le_of_ble_eq_true rfl) dX2_mergeSort_2_15 ⟨Nat.le_of_ble_eq_true rfl, Nat.le_of_ble_eq_true rfl⟩) hw [0] [1] rfl rfl rfl (by decide) [1, 0] rfl (fun _ => rfl) (fun u H locs hp hw => ?_)
    exact z_vret hx hb hr hlocks hw (u, w) [0, 1] rfl rfl ⟨hp.1, hp.2, fun _ _ => rfl⟩ dX2_mergeSort_2_18
theorem met_merge4 (l : Launch) (D : va_G) (dJ dI : ClassId) (d : Nat) : zMg l D dJ dI d := Nat.strongRecOn d (fun d ih => met_mstep l D dJ dI d ih)
set_option maxHeartbeats 4000000 in
set_option maxRecDepth 100000 in
/-- mergeSort with no second array -/
theorem met_mergeN (l : Launch) (D : va_G) (dJ dI : ClassId) (d9 : Nat) (h0 n : Nat) (f : Nat → Int64) (za zb : Int) (lo hi : Nat) (ea : za = (lo : Int)) (eb : zb = (hi : Int)) (hlh : lo ≤ hi) (hin : hi < n) (hi9 : hi < 2000000) (hn : n < 1073741824) (hd9 : hi < lo + 16 + d9) : zCV l yX2_mergeSort_2 cX2_mergeSort_2 9 (d9 + 2) 1 hi (28 * d9 + 60) D dJ dI [.ref h0, .int (zi za), .int (zi zb), .null] [zL h0 dJ n f] (fun g : Nat → Int64 => zs_pm f g lo hi ∧ zs_srt g lo hi) (fun g => [zL h0 dJ n g]) := by
  subst ea
  subst eb
  refine z_met (by decide) (Nat.le_of_ble_eq_true rfl) ?_
  intro p e s m below meth c ls S hr hlocks hnm hw hl
  have S : CallFix p m c cX2_mergeSort_2 9 s _ lw_all RX2 := S
  obtain ⟨hx, hb, hml, hown, hts⟩ := id S
  have hl : lv_has ls 9 [(0, .ref h0), (1, .int (zi (((lo : Nat) : Int)))), (2, .int (zi (((hi : Nat) : Int)))), (3, .null)] := hl
  refine lv_iload_n hx hb dX2_mergeSort_2_0 rfl (lv_at hl 2 rfl) ?_
  refine lv_iload_n hx hb dX2_mergeSort_2_1 rfl (lv_at hl 1 rfl) ?_
  refine zi_sub (r := ((hi - lo : Nat) : Int)) hx hb dX2_mergeSort_2_2 (by omega) ?_
  refine lv_istore (lv' := [(4, .int (zi (((hi - lo : Nat) : Int)))), (0, .ref h0), (1, .int (zi (((lo : Nat) : Int)))), (2, .int (zi (((hi : Nat) : Int)))), (3, .null)]) hx hb dX2_mergeSort_2_3 hl (by decide) rfl (fun ls hl => ?_)
  refine lv_iload hx hb dX2_mergeSort_2_5 (lv_at hl 0 rfl) ?_
  refine lv_bipush (v := zi (16)) hx hb dX2_mergeSort_2_7 (by decide +kernel) ?_
  refine zi_icmp_ge (tgt := 19) hx hb dX2_mergeSort_2_9 (by decide) (by omega) (by omega) (fun c_9 => ?_) (fun c_9 => ?_)
  · refine lv_aload_nN hx hb dX2_mergeSort_2_19 rfl (lv_at hl 4 rfl) ?_
    refine lv_ifnonnullN hx hb dX2_mergeSort_2_20 ?_
    refine lv_aload_n hx hb dX2_mergeSort_2_23 rfl (lv_at hl 1 rfl) ?_
    refine lv_iload_n hx hb dX2_mergeSort_2_24 rfl (lv_at hl 3 rfl) ?_
    refine z_callr (wr := []) (wo := (fun (w : Nat → Int64) (q : Nat) => [zL h0 dJ n f, zL q dJ hi w])) (z_runS (n := 2) (rest := []) S (met_copyOf l D dJ dI h0 n f (((hi : Nat) : Int)) hi (by omega) (by omega) (by omega) (by omega)) (lw_S q59 q60 q7 q61) rfl rfl (by decide +kernel) ⟨by show 1 + 1 ≤ d9 + 2; omega, by show 8 + (3 + 11) + 24 ≤ 28 * d9 + 60; omega⟩ hw [0] rfl rfl rfl hl.1 rfl (Nat.le_of_ble_eq_true rfl) dX2_mergeSort_2_25 ⟨by show 0 + 1 ≤ 1; omega, by show 0 + hi ≤ hi; omega⟩) hw [0] [] rfl rfl rfl (by decide) [0, 1] rfl (fun _ _ => rfl) (fun w h3 H locs hwf hw => ?_)
    refine W.widen (k := 1) (n := hi) (by omega) (by omega) ?_
    refine lv_astore_n (lv' := [(3, .ref h3), (4, .int (zi (((hi - lo : Nat) : Int)))), (0, .ref h0), (1, .int (zi (((lo : Nat) : Int)))), (2, .int (zi (((hi : Nat) : Int))))]) hx hb dX2_mergeSort_2_28 rfl hl (by decide) rfl (fun ls hl => ?_)
    refine lp_m29 (d9 := d9) (f := f) (w := w) S hn (by omega) (by omega) (by omega) hlh (by omega) hd9 (by show d9 + 1 ≤ d9 + 2; omega) (by show 28 * d9 + 40 ≤ 28 * d9 + 60; omega) ⟨by show 1 + 0 ≤ 1; omega, by show hi + 0 ≤ hi; omega⟩ (met_merge4 l D dJ dI (d9 - 1)) (fun j _ h => hwf j h) (fun a w2 H locs ls pc hd hw q1 q2 q3 => ?_) hw (lv_sub hl [2, 3, 4, 0, 1] rfl)
    exact z_vret hx hb hr hlocks hw a [0] rfl rfl ⟨q1, q2⟩ hd
  · refine lv_aload_n hx hb dX2_mergeSort_2_12 rfl (lv_at hl 1 rfl) ?_
    refine lv_iload_n hx hb dX2_mergeSort_2_13 rfl (lv_at hl 2 rfl) ?_
    refine lv_iload_n hx hb dX2_mergeSort_2_14 rfl (lv_at hl 3 rfl) ?_
    refine z_callv (wr := []) (wo := (fun u : Nat → Int64 => [zL h0 dJ n (u)])) (z_runS (n := 3) (rest := []) S (met_ins l D dJ dI h0 n f (((lo : Nat) : Int)) (((hi : Nat) : Int)) lo hi (by omega) (by omega) (by omega) (by omega) (by omega)) (lw_S q56 q57 q4 q58) rfl rfl (by decide +kernel) ⟨by show 0 + 1 ≤ d9 + 2; omega, by show 8 + (9 + 11) + 0 ≤ 28 * d9 + 60; omega⟩ hw [0] rfl rfl rfl hl.1 rfl (Nat.le_of_ble_eq_true rfl) dX2_mergeSort_2_15 ⟨by show 0 + 0 ≤ 1; omega, by show 0 + 0 ≤ hi; omega⟩) hw [0] [] rfl rfl rfl (by decide) [0] rfl (fun _ => rfl) (fun u H locs hp hw => ?_)
    refine W.widen (k := 1) (n := hi) (by omega) (by omega) ?_
    exact z_vret hx hb hr hlocks hw u [0] rfl rfl hp dX2_mergeSort_2_18
set_option maxHeartbeats 4000000 in
set_option maxRecDepth 100000 in
theorem met_merge (l : Launch) (D : va_G) (dJ dI : ClassId) (d9 : Nat) (h0 n : Nat) (f : Nat → Int64) (za zb : Int) (lo hi : Nat) (ea : za = (lo : Int)) (eb : zb = (hi : Int)) (hlh : lo ≤ hi) (hin : hi < n) (hi9 : hi < 2000000) (hn : n < 1073741824) (hd9 : hi < lo + 16 + d9) : zCV l yX2_mergeSort cX2_mergeSort 3 (d9 + 3) 1 hi (28 * d9 + 90) D dJ dI [.ref h0, .int (zi za), .int (zi zb)] [zL h0 dJ n f] (fun g : Nat → Int64 => zs_pm f g lo hi ∧ zs_srt g lo hi) (fun g => [zL h0 dJ n g]) := by
  subst ea
  subst eb
  refine z_met (by decide) (Nat.le_of_ble_eq_true rfl) ?_
  intro p e s m below meth c ls S hr hlocks hnm hw hl
  have S : CallFix p m c cX2_mergeSort 3 s _ lw_all RX2 := S
  obtain ⟨hx, hb, hml, hown, hts⟩ := id S
  have hl : lv_has ls 3 [(0, .ref h0), (1, .int (zi (((lo : Nat) : Int)))), (2, .int (zi (((hi : Nat) : Int))))] := hl
  refine lv_aload_n hx hb dX2_mergeSort_0 rfl (lv_at hl 0 rfl) ?_
  refine lv_iload_n hx hb dX2_mergeSort_1 rfl (lv_at hl 1 rfl) ?_
  refine lv_iload_n hx hb dX2_mergeSort_2 rfl (lv_at hl 2 rfl) ?_
  refine lv_null hx hb dX2_mergeSort_3 ?_
  refine lv_castN hx hb dX2_mergeSort_4 ?_
  refine z_callv (wr := []) (wo := (fun u : Nat → Int64 => [zL h0 dJ n u])) (z_runS (n := 4) (rest := []) S (met_mergeN l D dJ dI d9 h0 n f (((lo : Nat) : Int)) (((hi : Nat) : Int)) lo hi (by omega) (by omega) (by omega) (by omega) (by omega) (by omega) (by omega)) (lw_S q53 q54 q4 q55) rfl rfl (by decide +kernel) ⟨by show d9 + 2 + 1 ≤ d9 + 3; omega, by show 8 + (9 + 11) + (28 * d9 + 60) ≤ 28 * d9 + 90; omega⟩ hw [0] rfl rfl rfl hl.1 rfl (Nat.le_of_ble_eq_true rfl) dX2_mergeSort_7 ⟨by show 0 + 1 ≤ 1; omega, by show 0 + hi ≤ hi; omega⟩) hw [0] [] rfl rfl rfl (by decide) [0] rfl (fun _ => rfl) (fun u H locs hp hw => ?_)
  refine W.widen (k := 1) (n := hi) (by omega) (by omega) ?_
  exact z_vret hx hb hr hlocks hw u [0] rfl rfl hp dX2_mergeSort_10
end
section
/-! rows of kit/laws/BITS.to-paste (bits of longs) -/
theorem wb_tb (n : Nat) : (lN n).toBitVec = BitVec.ofNat 64 n := rfl
theorem wb_inj {a b : Int64} (h : a.toBitVec = b.toBitVec) : a = b := Int64.toBitVec_inj.mp h
theorem wb_tn {n : Nat} (h : n < 2 ^ 64) : (lN n).toBitVec.toNat = n := by rw [wb_tb, BitVec.toNat_ofNat, Nat.mod_eq_of_lt h]
theorem wb_of (x : Int64) : ∃ n, n < 2 ^ 64 ∧ x = lN n := ⟨x.toBitVec.toNat, x.toBitVec.isLt, wb_inj (by rw [wb_tb]; simp)⟩
theorem wb_cu : ∀ k, k < 64 → ((nI k).toInt64.toUInt64 &&& Int64.toUInt64 63) = UInt64.ofNat k := by decide +kernel
theorem wb_lt2 {a b : Nat} (h : a < b) : 2 ^ a < 2 ^ b := Nat.pow_lt_pow_right (by decide) h
theorem wb_shr {n k : Nat} (hn : n < 2 ^ 64) (hk : k < 64) : ((lN n).toUInt64 >>> ((nI k).toInt64.toUInt64 &&& Int64.toUInt64 63)).toInt64 = lN (n / 2 ^ k) := by
  rw [wb_cu k hk]
  apply wb_inj
  apply BitVec.eq_of_toNat_eq
  show ((lN n).toUInt64 >>> UInt64.ofNat k).toNat = (BitVec.ofNat 64 _).toNat
  have h1 : (UInt64.ofNat k).toNat = k := by
    show (BitVec.ofNat 64 k).toNat = k
    rw [BitVec.toNat_ofNat, Nat.mod_eq_of_lt (by omega)]
  have h2 : (lN n).toUInt64.toNat = n := wb_tn hn
  rw [UInt64.toNat_shiftRight, h1, h2, Nat.mod_eq_of_lt hk, Nat.shiftRight_eq_div_pow, BitVec.toNat_ofNat, Nat.mod_eq_of_lt (Nat.lt_of_le_of_lt (Nat.div_le_self _ _) hn)]
theorem wb_and {a b : Nat} (ha : a < 2 ^ 64) (hb : b < 2 ^ 64) : lN a &&& lN b = lN (a &&& b) := by
  apply wb_inj
  rw [Int64.toBitVec_and, wb_tb, wb_tb, wb_tb]
  apply BitVec.eq_of_toNat_eq
  rw [BitVec.toNat_and, BitVec.toNat_ofNat, BitVec.toNat_ofNat, BitVec.toNat_ofNat, Nat.mod_eq_of_lt ha, Nat.mod_eq_of_lt hb, Nat.mod_eq_of_lt (Nat.and_lt_two_pow _ hb)]
theorem wb_mask {n k : Nat} (hn : n < 2 ^ 64) (hk : k < 64) : lN n &&& lN (2 ^ k - 1) = lN (n % 2 ^ k) := by
  rw [wb_and hn (by have := wb_lt2 hk; omega), Nat.and_two_pow_sub_one_eq_mod]
theorem lN_bv (n : Nat) : (lN n).toBitVec = BitVec.ofNat 64 n := rfl
theorem lN_xor (a b : Nat) : lN a ^^^ lN b = lN (a ^^^ b) := by
  apply Int64.toBitVec_inj.mp; rw [Int64.toBitVec_xor, lN_bv, lN_bv, lN_bv]; apply BitVec.eq_of_getLsbD_eq; intro i hi; simp [BitVec.getLsbD_ofNat, Nat.testBit_xor, hi]
/-! PURE: radix sort. zK: a long's key, 0 .. 2^64 - 1, in the order of the longs; zdg L: its digit at level L (0 the highest of eight); zpr L: its L highest digits -/
def zK (t : Int64) : Nat := (t.toInt + 9223372036854775808).toNat
theorem zK_eq (t : Int64) : (zK t : Int) = t.toInt + 9223372036854775808 := by
  have h1 := Int64.le_toInt t
  have h2 := Int64.toInt_lt t
  unfold zK
  omega
theorem zK_lt (t : Int64) : zK t < 18446744073709551616 := by
  have h := zK_eq t
  have h2 := Int64.toInt_lt t
  omega
def zdg (L : Nat) (t : Int64) : Nat := zK t / 2 ^ (56 - 8 * L) % 256
def zpr (L : Nat) (t : Int64) : Nat := zK t / 2 ^ (64 - 8 * L)
theorem zdg_lt (L : Nat) (t : Int64) : zdg L t < 256 := Nat.mod_lt _ (by decide)
theorem zpr_s {L : Nat} (hL : L ≤ 7) (t : Int64) : zpr (L + 1) t = zpr L t * 256 + zdg L t := by
  have e1 : 64 - 8 * (L + 1) = 56 - 8 * L := by omega
  have e2 : 64 - 8 * L = (56 - 8 * L) + 8 := by omega
  unfold zpr zdg
  rw [e1, e2, Nat.pow_add, ← Nat.div_div_eq_div_mul]
  have := Nat.div_add_mod (zK t / 2 ^ (56 - 8 * L)) 256
  have e3 : (2 : Nat) ^ 8 = 256 := by decide
  rw [e3]
  omega
theorem zpr_0 (t : Int64) : zpr 0 t = 0 := by
  unfold zpr
  exact Nat.div_eq_of_lt (zK_lt t)
theorem zpr_lt {L : Nat} (hL : L ≤ 7) {x y : Int64} (h : zpr L x = zpr L y) (hd : zdg L x < zdg L y) : x.toInt < y.toInt := by
  have h1 : zpr (L + 1) x < zpr (L + 1) y := by
    rw [zpr_s hL, zpr_s hL]
    omega
  have h2 : zK x < zK y := by
    rcases Nat.lt_or_ge (zK x) (zK y) with q | q
    · exact q
    · have := Nat.div_le_div_right (c := 2 ^ (64 - 8 * (L + 1))) q
      unfold zpr at h1
      omega
  have a := zK_eq x
  have b := zK_eq y
  omega
theorem zpr_8 {x y : Int64} (h : zpr 8 x = zpr 8 y) : x.toInt = y.toInt := by
  unfold zpr at h
  have e : (2 : Nat) ^ (64 - 8 * 8) = 1 := by decide
  rw [e, Nat.div_one, Nat.div_one] at h
  have a := zK_eq x
  have b := zK_eq y
  omega
theorem zdg_x : ∀ b, b < 256 → b ^^^ 128 = (b + 128) % 256 := by decide +kernel
/-- the program's digit -/
theorem zdg_eq {L : Nat} {sm sh : Int} (hL : L ≤ 7) (hsm : (L = 0 ∧ sm = 128) ∨ (L ≠ 0 ∧ sm = 0)) (hsh : sh = ((56 - 8 * L : Nat) : Int)) (t : Int64) : ((((t).toUInt64 >>> ((zi sh).toInt64.toUInt64 &&& Int64.toUInt64 63)).toInt64 &&& 255) ^^^ (zi sm).toInt64).toInt32 = zi ((zdg L t : Nat) : Int) := by
  subst hsh
  obtain ⟨n, hn, rfl⟩ := wb_of t
  rw [← zi_nI, wb_shr hn (by omega)]
  have hq : n / 2 ^ (56 - 8 * L) < 2 ^ 64 := Nat.lt_of_le_of_lt (Nat.div_le_self _ _) hn
  have e1 : lN (n / 2 ^ (56 - 8 * L)) &&& 255 = lN (n / 2 ^ (56 - 8 * L) % 256) := wb_mask (k := 8) hq (by decide)
  rw [e1]
  have hk : (zK (lN n) : Int) = ((n + 9223372036854775808) % 18446744073709551616 : Nat) := by
    rw [zK_eq]
    have h2 : (lN n).toInt = if 2 * n < 18446744073709551616 then (n : Int) else (n : Int) - 18446744073709551616 := by
      have h3 : (lN n).toInt = if 2 * (lN n).toBitVec.toNat < 2 ^ 64 then ((lN n).toBitVec.toNat : Int) else ((lN n).toBitVec.toNat : Int) - ((2 ^ 64 : Nat) : Int) := BitVec.toInt_eq_toNat_cond _
      rw [wb_tn hn] at h3
      exact h3
    rw [h2]
    split <;> omega
  have hk2 : zK (lN n) = (n + 9223372036854775808) % 18446744073709551616 := by omega
  rcases hsm with ⟨e2, e3⟩ | ⟨e2, e3⟩
  · subst e2
    subst e3
    have hs : (zi 128).toInt64 = lN 128 := by decide +kernel
    rw [hs, lN_xor, lN_i, zi_nI]
    refine congrArg (fun q : Nat => zi (q : Int)) ?_
    rw [zdg_x _ (Nat.mod_lt _ (by decide))]
    unfold zdg
    rw [hk2]
    have e4 : (2 : Nat) ^ (56 - 8 * 0) = 72057594037927936 := by decide
    rw [e4]
    omega
  · subst e3
    have hs : (zi 0).toInt64 = lN 0 := by decide +kernel
    rw [hs, lN_xor, Nat.xor_zero, lN_i, zi_nI]
    refine congrArg (fun q : Nat => zi (q : Int)) ?_
    unfold zdg
    rw [hk2]
    rcases (show L = 1 ∨ L = 2 ∨ L = 3 ∨ L = 4 ∨ L = 5 ∨ L = 6 ∨ L = 7 by omega) with e | e | e | e | e | e | e <;> subst e
    · have e4 : (2 : Nat) ^ (56 - 8 * 1) = 281474976710656 := by decide
      rw [e4]
      omega
    · have e4 : (2 : Nat) ^ (56 - 8 * 2) = 1099511627776 := by decide
      rw [e4]
      omega
    · have e4 : (2 : Nat) ^ (56 - 8 * 3) = 4294967296 := by decide
      rw [e4]
      omega
    · have e4 : (2 : Nat) ^ (56 - 8 * 4) = 16777216 := by decide
      rw [e4]
      omega
    · have e4 : (2 : Nat) ^ (56 - 8 * 5) = 65536 := by decide
      rw [e4]
      omega
    · have e4 : (2 : Nat) ^ (56 - 8 * 6) = 256 := by decide
      rw [e4]
      omega
    · have e4 : (2 : Nat) ^ (56 - 8 * 7) = 1 := by decide
      rw [e4]
      omega
/-- how many of the places fs..e have the digit d -/
def zcn (F : Nat → Int64) (L fs e d : Nat) : Nat := zs_cn (fun v => zdg L v == d) F e - zs_cn (fun v => zdg L v == d) F fs
theorem zcn_0 {F : Nat → Int64} {L fs d : Nat} : zcn F L fs fs d = 0 := Nat.sub_self _
theorem zcn_down {F : Nat → Int64} {L k e d : Nat} (h : k < e) : zcn F L k e d = zcn F L (k + 1) e d + (zdg L (F k) == d).toNat := by
  unfold zcn
  have h1 := zs_cn_s (fun v => zdg L v == d) F k
  have h2 := zs_cn_mono (P := fun v => zdg L v == d) (f := F) (show k + 1 ≤ e from h)
  omega
theorem zcn_up {F : Nat → Int64} {L fs e d : Nat} (h : fs ≤ e) : zcn F L fs (e + 1) d = zcn F L fs e d + (zdg L (F e) == d).toNat := by
  unfold zcn
  have h1 := zs_cn_s (fun v => zdg L v == d) F e
  have h2 := zs_cn_mono (P := fun v => zdg L v == d) (f := F) h
  omega
theorem zcn_pm {F g : Nat → Int64} {L fs e d : Nat} (h : zs_pm F g fs e) : zcn g L fs e d = zcn F L fs e d := by
  unfold zcn
  rw [h.2, h.low (Nat.le_refl _)]
/-- where the bucket d begins -/
def zS (B : Nat → Nat) (fs : Nat) : Nat → Nat
  | 0 => fs
  | d + 1 => zS B fs d + B d
theorem zS_s (B : Nat → Nat) (fs d : Nat) : zS B fs (d + 1) = zS B fs d + B d := rfl
theorem zS_mono {B : Nat → Nat} {fs a b : Nat} (h : a ≤ b) : zS B fs a ≤ zS B fs b := by
  induction b with
  | zero =>
    have e : a = 0 := by omega
    subst e
    exact Nat.le_refl _
  | succ b ih =>
    rcases Nat.lt_or_ge b a with q | q
    · have e : a = b + 1 := by omega
      subst e
      exact Nat.le_refl _
    · have h1 := ih q
      have h2 := zS_s B fs b
      omega
theorem zS_fs {B : Nat → Nat} {fs d : Nat} : fs ≤ zS B fs d := zS_mono (B := B) (fs := fs) (Nat.zero_le d)
theorem zS_add {B B' : Nat → Nat} {fs x : Nat} (h : ∀ d, B' d = B d + (x == d).toNat) : ∀ k, zS B' fs k = zS B fs k + (if x < k then 1 else 0) := by
  intro k
  induction k with
  | zero => rfl
  | succ k ih =>
    rw [zS_s, zS_s, ih, h k]
    by_cases e : x = k
    · subst e
      have e1 : (x == x) = true := by simp
      rw [e1, if_neg (Nat.lt_irrefl _), if_pos (Nat.lt_succ_self _), Bool.toNat_true]
      omega
    · have e1 : (x == k) = false := by simpa using e
      rw [e1, Bool.toNat_false]
      by_cases e2 : x < k
      · rw [if_pos e2, if_pos (by omega)]
        omega
      · rw [if_neg e2, if_neg (by omega)]
        omega
theorem zS_all {F : Nat → Int64} {L fs : Nat} : ∀ e, fs ≤ e → zS (zcn F L fs e) fs 256 = e := by
  intro e
  induction e with
  | zero =>
    intro h
    have e : fs = 0 := by omega
    subst e
    have h0 : ∀ k, zS (zcn F L 0 0) 0 k = 0 := by
      intro k
      induction k with
      | zero => rfl
      | succ k ih => rw [zS_s, ih, zcn_0]
    exact h0 256
  | succ e ih =>
    intro h
    rcases Nat.lt_or_ge e fs with q | q
    · have e1 : fs = e + 1 := by omega
      subst e1
      have h0 : ∀ k, zS (zcn F L (e + 1) (e + 1)) (e + 1) k = e + 1 := by
        intro k
        induction k with
        | zero => rfl
        | succ k ih2 => rw [zS_s, ih2, zcn_0]
      exact h0 256
    · rw [zS_add (B := zcn F L fs e) (x := zdg L (F e)) (fun d => zcn_up q), ih q, if_pos (zdg_lt _ _)]
theorem zS_le {F : Nat → Int64} {L fs e d : Nat} (h : fs ≤ e) (hd : d ≤ 256) : zS (zcn F L fs e) fs d ≤ e := by
  have h1 := zS_mono (B := zcn F L fs e) (fs := fs) hd
  rw [zS_all e h] at h1
  exact h1
/-- places of a digit are no more than its count -/
theorem zr_pig {F g : Nat → Int64} {L fs e d p q k : Nat} (h : zs_pm F g fs e) (hp : fs ≤ p) (hpq : p ≤ q) (hq : q ≤ e) (al : ∀ j, p ≤ j → j < q → zdg L (g j) = d) (hk : fs ≤ k) (hk2 : k < e) (hk3 : k < p ∨ q ≤ k) (hkd : zdg L (g k) = d) : q - p + 1 ≤ zcn F L fs e d := by
  rw [← zcn_pm h]
  unfold zcn
  obtain ⟨P, hP⟩ : ∃ P : Int64 → Bool, P = fun v => zdg L v == d := ⟨_, rfl⟩
  rw [← hP]
  have hPt : ∀ v, zdg L v = d → P v = true := fun v hv => by
    rw [hP]
    simp [hv]
  have a := zs_cn_all (P := P) (f := g) hpq (fun j x y => hPt _ (al j x y))
  have m1 := zs_cn_mono (P := P) (f := g) hp
  have m2 := zs_cn_mono (P := P) (f := g) hq
  rcases hk3 with x | x
  · have b := zs_cn_at (P := P) (f := g) hk x (hPt _ hkd)
    omega
  · have b := zs_cn_at (P := P) (f := g) x hk2 (hPt _ hkd)
    omega
/-- the state between two buckets: those below b are full of their digit; in the others what lies from PZ d on is -/
def zr_I (F g : Nat → Int64) (L fs e b : Nat) (PZ : Nat → Int) : Prop := zs_pm F g fs e ∧ (∀ d, d < b → ∀ j, zS (zcn F L fs e) fs d ≤ j → j < zS (zcn F L fs e) fs (d + 1) → zdg L (g j) = d) ∧ ∀ d, b ≤ d → d < 256 → ((zS (zcn F L fs e) fs d : Nat) : Int) ≤ PZ d ∧ PZ d ≤ ((zS (zcn F L fs e) fs (d + 1) : Nat) : Int) ∧ ∀ j : Nat, PZ d ≤ (j : Int) → j < zS (zcn F L fs e) fs (d + 1) → zdg L (g j) = d
theorem zr_I0 {F : Nat → Int64} {L fs e : Nat} {PZ : Nat → Int} (h : ∀ d, d < 256 → PZ d = ((zS (zcn F L fs e) fs (d + 1) : Nat) : Int)) : zr_I F F L fs e 0 PZ := by
  refine ⟨zs_pm.rf, fun d hd => absurd hd (Nat.not_lt_zero _), fun d _ hd => ?_⟩
  have h1 := h d hd
  have h2 := zS_mono (B := zcn F L fs e) (fs := fs) (Nat.le_add_right d 1)
  refine ⟨by omega, by omega, fun j x y => ?_⟩
  omega
/-- the next bucket that isn't empty -/
theorem zr_next {F : Nat → Int64} {L fs e b : Nat} (hfe : fs ≤ e) (hb : b ≤ 256) (h : zS (zcn F L fs e) fs b < e) : ∃ b', b ≤ b' ∧ b' < 256 ∧ 0 < zcn F L fs e b' ∧ zS (zcn F L fs e) fs b' = zS (zcn F L fs e) fs b ∧ ∀ d, b ≤ d → d < b' → zcn F L fs e d = 0 := by
  have key : ∀ n b, b + n = 256 → zS (zcn F L fs e) fs b < e → ∃ b', b ≤ b' ∧ b' < 256 ∧ 0 < zcn F L fs e b' ∧ zS (zcn F L fs e) fs b' = zS (zcn F L fs e) fs b ∧ ∀ d, b ≤ d → d < b' → zcn F L fs e d = 0 := by
    intro n
    induction n with
    | zero =>
      intro b hb h
      have e1 : b = 256 := by omega
      subst e1
      rw [zS_all e hfe] at h
      omega
    | succ n ih =>
      intro b hb h
      rcases Nat.eq_zero_or_pos (zcn F L fs e b) with q | q
      · have h1 := zS_s (zcn F L fs e) fs b
        obtain ⟨b', a1, a2, a3, a4, a5⟩ := ih (b + 1) (by omega) (by omega)
        refine ⟨b', by omega, a2, a3, by omega, fun d x y => ?_⟩
        rcases (show d = b ∨ b + 1 ≤ d by omega) with z | z
        · rw [z]
          exact q
        · exact a5 d z y
      · exact ⟨b, Nat.le_refl _, by omega, q, rfl, fun d x y => by omega⟩
  exact key (256 - b) b (by omega) h
theorem zr_skip {F g : Nat → Int64} {L fs e b b' : Nat} {PZ : Nat → Int} (h : zr_I F g L fs e b PZ) (hb : b ≤ b') (he : ∀ d, b ≤ d → d < b' → zcn F L fs e d = 0) : zr_I F g L fs e b' PZ := by
  obtain ⟨a1, a2, a3⟩ := h
  refine ⟨a1, fun d hd j x y => ?_, fun d x y => a3 d (by omega) y⟩
  rcases Nat.lt_or_ge d b with q | q
  · exact a2 d q j x y
  · have h1 := zS_s (zcn F L fs e) fs d
    have h2 := he d q hd
    omega
/-- the number in the hand at the bucket's first place belongs to no bucket that is done; if not here, its bucket has room -/
theorem zr_cur {F g : Nat → Int64} {L fs e b i : Nat} {PZ : Nat → Int} (hfe : fs ≤ e) (h : zr_I F g L fs e b PZ) (hb : b < 256) (hB : 0 < zcn F L fs e b) (hi : i = zS (zcn F L fs e) fs b) : zdg L (g i) = b ∨ (b < zdg L (g i) ∧ ((zS (zcn F L fs e) fs (zdg L (g i)) : Nat) : Int) + 1 ≤ PZ (zdg L (g i)) ∧ (i : Int) < PZ b) := by
  obtain ⟨a1, a2, a3⟩ := h
  obtain ⟨c, hc⟩ : ∃ c, c = zdg L (g i) := ⟨_, rfl⟩
  have hc9 : c < 256 := by
    rw [hc]
    exact zdg_lt _ _
  rw [← hc]
  have hs1 := zS_s (zcn F L fs e) fs b
  have hse := zS_le (F := F) (L := L) (d := b + 1) hfe (by omega)
  have hfi : fs ≤ i := by
    rw [hi]
    exact zS_fs
  rcases (show c < b ∨ c = b ∨ b < c by omega) with q | q | q
  · exfalso
    have h1 := zS_mono (B := zcn F L fs e) (fs := fs) (show c + 1 ≤ b from q)
    have h2 := zS_s (zcn F L fs e) fs c
    have h3 := zr_pig (d := c) (p := zS (zcn F L fs e) fs c) (q := zS (zcn F L fs e) fs (c + 1)) (k := i) a1 zS_fs (zS_mono (Nat.le_succ c)) (zS_le hfe (by omega)) (a2 c q) hfi (by omega) (Or.inr (by omega)) hc.symm
    omega
  · exact Or.inl q
  · refine Or.inr ⟨q, ?_, ?_⟩
    · obtain ⟨b1, b2, b3⟩ := a3 c (by omega) hc9
      obtain ⟨n, hn⟩ : ∃ n : Nat, PZ c = (n : Int) := ⟨(PZ c).toNat, by omega⟩
      rw [hn] at b1 b2 b3 ⊢
      have h1 := zS_mono (B := zcn F L fs e) (fs := fs) (show b + 1 ≤ c from q)
      have h2 := zS_s (zcn F L fs e) fs c
      have hf := zS_fs (B := zcn F L fs e) (fs := fs) (d := c)
      have h3 := zr_pig (d := c) (p := n) (q := zS (zcn F L fs e) fs (c + 1)) (k := i) a1 (by omega) (by omega) (zS_le hfe (by omega)) (fun j x y => b3 j (by omega) y) hfi (by omega) (Or.inl (by omega)) hc.symm
      omega
    · obtain ⟨b1, b2, b3⟩ := a3 b (Nat.le_refl _) hb
      rcases Int.lt_or_le (i : Int) (PZ b) with w | w
      · exact w
      · have := b3 i w (by omega)
        omega
/-- one exchange of the cycle -/
theorem zr_step {F g : Nat → Int64} {L fs e b i w : Nat} {PZ : Nat → Int} (hfe : fs ≤ e) (h : zr_I F g L fs e b PZ) (hb : b < 256) (hB : 0 < zcn F L fs e b) (hi : i = zS (zcn F L fs e) fs b) (hw : PZ (zdg L (g i)) - 1 = (w : Int)) (hiw : i < w) : w < e ∧ zr_I F (zs_sw g i w) L fs e b (zup PZ (zdg L (g i)) (PZ (zdg L (g i)) - 1)) := by
  have hcur := zr_cur hfe h hb hB hi
  obtain ⟨a1, a2, a3⟩ := h
  obtain ⟨c, hc⟩ : ∃ c, c = zdg L (g i) := ⟨_, rfl⟩
  have hc9 : c < 256 := by
    rw [hc]
    exact zdg_lt _ _
  rw [← hc] at hcur hw ⊢
  have hbc : b ≤ c := by omega
  obtain ⟨b1, b2, b3⟩ := a3 c hbc hc9
  have hs1 := zS_s (zcn F L fs e) fs b
  have hce := zS_le (F := F) (L := L) (d := c + 1) hfe (by omega)
  have hfi : fs ≤ i := by
    rw [hi]
    exact zS_fs
  have hwS : zS (zcn F L fs e) fs c ≤ w := by
    rcases hcur with q | q
    · rw [q]
      omega
    · omega
  have hwS2 : w < zS (zcn F L fs e) fs (c + 1) := by omega
  refine ⟨by omega, a1.tr (zs_sw_pm hfi (by omega) (by omega) (by omega)), fun d hd j x y => ?_, fun d x y => ?_⟩
  · have h1 := zS_mono (B := zcn F L fs e) (fs := fs) (show d + 1 ≤ b from hd)
    rw [zs_sw_n (by omega) (by omega)]
    exact a2 d hd j x y
  · obtain ⟨d1, d2, d3⟩ := a3 d x y
    by_cases e1 : d = c
    · subst e1
      rw [zup_s]
      refine ⟨by omega, by omega, fun j u v => ?_⟩
      by_cases e2 : j = w
      · rw [e2, zs_sw_2]
        exact hc.symm
      · rw [zs_sw_n (by omega) e2]
        exact d3 j (by omega) v
    · rw [zup_n e1]
      refine ⟨d1, d2, fun j u v => ?_⟩
      have hj : j ≠ w := by
        rcases (show d < c ∨ c < d by omega) with q | q
        · have := zS_mono (B := zcn F L fs e) (fs := fs) (show d + 1 ≤ c from q)
          omega
        · have := zS_mono (B := zcn F L fs e) (fs := fs) (show c + 1 ≤ d from q)
          omega
      have hj2 : j ≠ i := by
        rcases (show d = b ∨ b < d by omega) with q | q
        · subst q
          rcases hcur with z | z
          · omega
          · omega
        · have := zS_mono (B := zcn F L fs e) (fs := fs) (show b + 1 ≤ d from q)
          omega
      rw [zs_sw_n hj2 hj]
      exact d3 j u v
/-- the cycle's end: the bucket is full -/
theorem zr_exit {F g : Nat → Int64} {L fs e b i : Nat} {PZ : Nat → Int} (hfe : fs ≤ e) (h : zr_I F g L fs e b PZ) (hb : b < 256) (hB : 0 < zcn F L fs e b) (hi : i = zS (zcn F L fs e) fs b) (hw : PZ (zdg L (g i)) - 1 ≤ (i : Int)) : zdg L (g i) = b ∧ zr_I F g L fs e (b + 1) (zup PZ (zdg L (g i)) (PZ (zdg L (g i)) - 1)) := by
  have hcur := zr_cur hfe h hb hB hi
  obtain ⟨a1, a2, a3⟩ := h
  have hs1 := zS_s (zcn F L fs e) fs b
  have hc : zdg L (g i) = b := by
    rcases hcur with q | ⟨q1, q2, q3⟩
    · exact q
    · have h1 := zS_mono (B := zcn F L fs e) (fs := fs) (show b + 1 ≤ zdg L (g i) from q1)
      omega
  rw [hc] at hw
  refine ⟨hc, a1, fun d hd j x y => ?_, fun d x y => ?_⟩
  · rcases (show d < b ∨ d = b by omega) with q | q
    · exact a2 d q j x y
    · subst q
      obtain ⟨b1, b2, b3⟩ := a3 d (Nat.le_refl _) hb
      rcases (show j = i ∨ i < j by omega) with z | z
      · rw [z]
        exact hc
      · exact b3 j (by omega) y
  · rw [hc, zup_n (by omega)]
    exact a3 d (by omega) y
/-- the last bucket is full when all others are -/
theorem zr_last {F g : Nat → Int64} {L fs e b i : Nat} {PZ : Nat → Int} (hfe : fs ≤ e) (h : zr_I F g L fs e b PZ) (hb : b < 256) (hB : 0 < zcn F L fs e b) (hi : i = zS (zcn F L fs e) fs b) (hz : ∀ d, b < d → d < 256 → zcn F L fs e d = 0) : zdg L (g i) = b ∧ zr_I F g L fs e (b + 1) PZ := by
  obtain ⟨a1, a2, a3⟩ := h
  have hs1 := zS_s (zcn F L fs e) fs b
  have hse := zS_le (F := F) (L := L) (d := b + 1) hfe (by omega)
  have key : ∀ j, zS (zcn F L fs e) fs b ≤ j → j < zS (zcn F L fs e) fs (b + 1) → zdg L (g j) = b := by
    intro j x y
    obtain ⟨c, hc⟩ : ∃ c, c = zdg L (g j) := ⟨_, rfl⟩
    have hc9 : c < 256 := by
      rw [hc]
      exact zdg_lt _ _
    have hfs := zS_fs (B := zcn F L fs e) (fs := fs) (d := b)
    rw [← hc]
    rcases (show c < b ∨ c = b ∨ b < c by omega) with q | q | q
    · exfalso
      have h1 := zS_mono (B := zcn F L fs e) (fs := fs) (show c + 1 ≤ b from q)
      have h2 := zS_s (zcn F L fs e) fs c
      have h3 := zr_pig (d := c) (p := zS (zcn F L fs e) fs c) (q := zS (zcn F L fs e) fs (c + 1)) (k := j) a1 zS_fs (zS_mono (Nat.le_succ c)) (zS_le hfe (by omega)) (a2 c q) (by omega) (by omega) (Or.inr (by omega)) hc.symm
      omega
    · exact q
    · exfalso
      have h3 := zr_pig (d := c) (p := fs) (q := fs) (k := j) a1 (Nat.le_refl _) (Nat.le_refl _) hfe (fun k u v => absurd v (by omega)) (by omega) (by omega) (Or.inr (by omega)) hc.symm
      have := hz c q hc9
      omega
  refine ⟨by rw [hi]; exact key _ (Nat.le_refl _) (by omega), a1, fun d hd j x y => ?_, fun d x y => a3 d (by omega) y⟩
  rcases (show d < b ∨ d = b by omega) with q | q
  · exact a2 d q j x y
  · subst q
    exact key j x y
/-- a full bucket sorted -/
theorem zr_srt {F g g2 : Nat → Int64} {L fs e b : Nat} {PZ : Nat → Int} (hfe : fs ≤ e) (h : zr_I F g L fs e (b + 1) PZ) (hb : b < 256) (hp : zs_pm g g2 (zS (zcn F L fs e) fs b) (zS (zcn F L fs e) fs (b + 1))) : zr_I F g2 L fs e (b + 1) PZ := by
  obtain ⟨a1, a2, a3⟩ := h
  refine ⟨a1.tr (hp.wide zS_fs (zS_le hfe (by omega))), fun d hd j x y => ?_, fun d x y => ?_⟩
  · rcases (show d < b ∨ d = b by omega) with q | q
    · have := zS_mono (B := zcn F L fs e) (fs := fs) (show d + 1 ≤ b from q)
      rw [hp.1 j (by omega)]
      exact a2 d hd j x y
    · subst q
      exact hp.all (T := fun v => zdg L v = d) (a2 d hd) j x y
  · obtain ⟨d1, d2, d3⟩ := a3 d x y
    refine ⟨d1, d2, fun j u v => ?_⟩
    have := zS_mono (B := zcn F L fs e) (fs := fs) x
    rw [hp.1 j (by omega)]
    exact d3 j u v
/-- buckets below b: sorted, or the one that waits on the stack -/
def zr_T (g : Nat → Int64) (B : Nat → Nat) (fs b sp ps pl : Nat) : Prop := (∀ d, d < b → zs_srt g (zS B fs d) (zS B fs (d + 1)) ∨ (sp = 1 ∧ ps = zS B fs d ∧ pl = B d)) ∧ sp ≤ 1 ∧ (sp = 1 → 1024 ≤ pl ∧ ∃ d, d < b ∧ ps = zS B fs d ∧ pl = B d)
theorem zr_T0 {g : Nat → Int64} {B : Nat → Nat} {fs ps pl : Nat} : zr_T g B fs 0 0 ps pl := ⟨fun d h => absurd h (Nat.not_lt_zero _), Nat.zero_le _, fun h => by omega⟩
theorem zr_Tskip {g : Nat → Int64} {B : Nat → Nat} {fs b b' sp ps pl : Nat} (h : zr_T g B fs b sp ps pl) (hb : b ≤ b') (he : ∀ d, b ≤ d → d < b' → B d = 0) : zr_T g B fs b' sp ps pl := by
  refine ⟨fun d hd => ?_, h.2.1, fun q => ⟨(h.2.2 q).1, ?_⟩⟩
  · rcases Nat.lt_or_ge d b with q | q
    · exact h.1 d q
    · exact Or.inl (zs_srt_1 (by rw [zS_s, he d q hd]; omega))
  · obtain ⟨d, x, y⟩ := (h.2.2 q).2
    exact ⟨d, by omega, y⟩
theorem zr_Tkeep {g g2 : Nat → Int64} {B : Nat → Nat} {fs b sp ps pl : Nat} (h : zr_T g B fs b sp ps pl) (he : ∀ j, j < zS B fs b → g2 j = g j) : zr_T g2 B fs b sp ps pl := by
  refine ⟨fun d hd => ?_, h.2⟩
  have h1 := zS_mono (B := B) (fs := fs) (show d + 1 ≤ b from hd)
  rcases h.1 d hd with q | q
  · exact Or.inl (fun i j x y z => by
      rw [he i (by omega), he j (by omega)]
      exact q i j x y z)
  · exact Or.inr q
theorem zr_Tadd {g : Nat → Int64} {B : Nat → Nat} {fs b sp ps pl : Nat} (h : zr_T g B fs b sp ps pl) (hs : zs_srt g (zS B fs b) (zS B fs (b + 1))) : zr_T g B fs (b + 1) sp ps pl := by
  refine ⟨fun d hd => ?_, h.2.1, fun q => ⟨(h.2.2 q).1, ?_⟩⟩
  · rcases (show d < b ∨ d = b by omega) with q | q
    · exact h.1 d q
    · rw [q]
      exact Or.inl hs
  · obtain ⟨d, x, y⟩ := (h.2.2 q).2
    exact ⟨d, by omega, y⟩
theorem zr_Tpush {g : Nat → Int64} {B : Nat → Nat} {fs b ps pl : Nat} (h : zr_T g B fs b 0 ps pl) (hB : 1024 ≤ B b) : zr_T g B fs (b + 1) 1 (zS B fs b) (B b) := by
  refine ⟨fun d hd => ?_, Nat.le_refl _, fun _ => ⟨hB, b, Nat.lt_succ_self _, rfl, rfl⟩⟩
  rcases (show d < b ∨ d = b by omega) with q | q
  · rcases h.1 d q with w | w
    · exact Or.inl w
    · omega
  · subst q
    exact Or.inr ⟨rfl, rfl, rfl⟩
/-- no second one fits on the stack -/
theorem zr_T1 {F g : Nat → Int64} {L fs e b sp ps pl : Nat} (hfe : fs ≤ e) (he : e < fs + 2048) (hb : b < 256) (h : zr_T g (zcn F L fs e) fs b sp ps pl) (hB : 1024 ≤ zcn F L fs e b) : sp = 0 := by
  rcases (show sp = 0 ∨ sp = 1 by have := h.2.1; omega) with q | q
  · exact q
  · exfalso
    obtain ⟨h1, d, h2, h3, h4⟩ := h.2.2 q
    have a1 := zS_s (zcn F L fs e) fs d
    have a2 := zS_mono (B := zcn F L fs e) (fs := fs) (show d + 1 ≤ b from h2)
    have a3 := zS_s (zcn F L fs e) fs b
    have a4 := zS_le (F := F) (L := L) (d := b + 1) hfe (by omega)
    have a5 := zS_fs (B := zcn F L fs e) (fs := fs) (d := d)
    omega
/-- the whole: in order but for the part that waits; its numbers have their L highest digits in common -/
def zr_O (f g : Nat → Int64) (lo hi sp ps pl L : Nat) : Prop := zs_pm f g lo hi ∧ (∀ p q, lo ≤ p → p < q → q < hi → (g p).toInt ≤ (g q).toInt ∨ (sp = 1 ∧ ps ≤ p ∧ q < ps + pl)) ∧ (sp = 1 → lo ≤ ps ∧ ps + pl ≤ hi ∧ 1024 ≤ pl ∧ L ≤ 7 ∧ ∀ p q, ps ≤ p → p < ps + pl → ps ≤ q → q < ps + pl → zpr L (g p) = zpr L (g q)) ∧ sp ≤ 1
theorem zr_O0 {f : Nat → Int64} {lo hi : Nat} (h : 1024 ≤ hi - lo) : zr_O f f lo hi 1 lo (hi - lo) 0 := by
  refine ⟨zs_pm.rf, fun p q a b c => Or.inr ⟨rfl, a, by omega⟩, fun _ => ⟨Nat.le_refl _, by omega, h, by omega, fun p q _ _ _ _ => ?_⟩, Nat.le_refl _⟩
  rw [zpr_0, zpr_0]
theorem zr_O_end {f g : Nat → Int64} {lo hi ps pl L : Nat} (h : zr_O f g lo hi 0 ps pl L) : zs_pm f g lo hi ∧ zs_srt g lo hi := by
  refine ⟨h.1, fun p q a b c => ?_⟩
  rcases h.2.1 p q a b c with x | x
  · exact x
  · omega
/-- the bucket of a place -/
theorem zS_find {B : Nat → Nat} {fs k : Nat} : ∀ n, fs ≤ k → k < zS B fs n → ∃ d, d < n ∧ zS B fs d ≤ k ∧ k < zS B fs (d + 1) := by
  intro n
  induction n with
  | zero =>
    intro h1 h2
    exact absurd h2 (Nat.not_lt.mpr h1)
  | succ n ih =>
    intro h1 h2
    rcases Nat.lt_or_ge k (zS B fs n) with q | q
    · obtain ⟨d, x, y⟩ := ih h1 q
      exact ⟨d, by omega, y⟩
    · exact ⟨n, Nat.lt_succ_self _, q, h2⟩
/-- one pass over the part that waited -/
theorem zr_pass {f F g : Nat → Int64} {lo hi fs len L sp ps pl : Nat} {PZ : Nat → Int} (h : zr_O f F lo hi 1 fs len L) (hI : zr_I F g L fs (fs + len) 256 PZ) (hT : zr_T g (zcn F L fs (fs + len)) fs 256 sp ps pl) (hL : sp = 1 → L < 7) : zr_O f g lo hi sp ps pl (L + 1) := by
  obtain ⟨h1, h2, h3, -⟩ := h
  obtain ⟨s1, s2, s3, s4, s5⟩ := h3 rfl
  obtain ⟨i1, i2, -⟩ := hI
  have hall := zS_all (F := F) (L := L) (fs := fs) (fs + len) (Nat.le_add_right _ _)
  have bk : ∀ k, fs ≤ k → k < fs + len → ∃ d, d < 256 ∧ zS (zcn F L fs (fs + len)) fs d ≤ k ∧ k < zS (zcn F L fs (fs + len)) fs (d + 1) ∧ zdg L (g k) = d := by
    intro k a b
    obtain ⟨d, x, y, z⟩ := zS_find (B := zcn F L fs (fs + len)) (fs := fs) (k := k) 256 a (by rw [hall]; exact b)
    exact ⟨d, x, y, z, i2 d x k y z⟩
  have pre : ∀ p q, fs ≤ p → p < fs + len → fs ≤ q → q < fs + len → zpr L (g p) = zpr L (g q) := by
    intro p q a b c d
    obtain ⟨p', u1, u2, u3⟩ := i1.any a b
    obtain ⟨q', v1, v2, v3⟩ := i1.any c d
    rw [← u3, ← v3]
    exact s5 p' q' u1 u2 v1 v2
  refine ⟨h1.tr (i1.wide s1 s2), fun p q a b c => ?_, fun hsp => ?_, hT.2.1⟩
  · by_cases hp : fs ≤ p ∧ p < fs + len
    · by_cases hq : fs ≤ q ∧ q < fs + len
      · obtain ⟨d, x1, x2, x3, x4⟩ := bk p hp.1 hp.2
        obtain ⟨d', y1, y2, y3, y4⟩ := bk q hq.1 hq.2
        rcases (show d' < d ∨ d = d' ∨ d < d' by omega) with w | w | w
        · have := zS_mono (B := zcn F L fs (fs + len)) (fs := fs) (show d' + 1 ≤ d from w)
          omega
        · subst w
          rcases hT.1 d x1 with z | ⟨z1, z2, z3⟩
          · exact Or.inl (z p q x2 b y3)
          · have := zS_s (zcn F L fs (fs + len)) fs d
            exact Or.inr ⟨z1, by omega, by omega⟩
        · have := zpr_lt s4 (pre p q hp.1 hp.2 hq.1 hq.2) (by omega)
          exact Or.inl (by omega)
      · left
        obtain ⟨p', u1, u2, u3⟩ := i1.any hp.1 hp.2
        rw [← u3, i1.1 q (by omega)]
        rcases h2 p' q (by omega) (by omega) c with w | w
        · exact w
        · omega
    · rw [i1.1 p (by omega)]
      by_cases hq : fs ≤ q ∧ q < fs + len
      · left
        obtain ⟨q', u1, u2, u3⟩ := i1.any hq.1 hq.2
        rw [← u3]
        rcases h2 p q' a (by omega) (by omega) with w | w
        · exact w
        · omega
      · left
        rw [i1.1 q (by omega)]
        rcases h2 p q a b c with w | w
        · exact w
        · omega
  · obtain ⟨t1, d, t2, t3, t4⟩ := hT.2.2 hsp
    have e1 := zS_s (zcn F L fs (fs + len)) fs d
    have e2 := zS_fs (B := zcn F L fs (fs + len)) (fs := fs) (d := d)
    have e3 := zS_le (F := F) (L := L) (fs := fs) (e := fs + len) (d := d + 1) (by omega) (by omega)
    have e4 := hL hsp
    refine ⟨by omega, by omega, t1, by omega, fun p q x1 x2 x3 x4 => ?_⟩
    rw [zpr_s s4, zpr_s s4, pre p q (by omega) (by omega) (by omega) (by omega), i2 d t2 p (by omega) (by omega), i2 d t2 q (by omega) (by omega)]
/-- a bucket at the last level, or of one number, is sorted -/
theorem zr_one {f F g : Nat → Int64} {lo hi fs len L b : Nat} {PZ : Nat → Int} (h : zr_O f F lo hi 1 fs len L) (hI : zr_I F g L fs (fs + len) (b + 1) PZ) (hb : b < 256) (hc : L = 7 ∨ zcn F L fs (fs + len) b ≤ 1) : zs_srt g (zS (zcn F L fs (fs + len)) fs b) (zS (zcn F L fs (fs + len)) fs (b + 1)) := by
  rcases hc with e | e
  · obtain ⟨h1, h2, h3, -⟩ := h
    obtain ⟨s1, s2, s3, s4, s5⟩ := h3 rfl
    obtain ⟨i1, i2, -⟩ := hI
    intro p q a x y
    have e2 := zS_fs (B := zcn F L fs (fs + len)) (fs := fs) (d := b)
    have e3 := zS_le (F := F) (L := L) (fs := fs) (e := fs + len) (d := b + 1) (by omega) (by omega)
    obtain ⟨p', u1, u2, u3⟩ := i1.any (j := p) (by omega) (by omega)
    obtain ⟨q', v1, v2, v3⟩ := i1.any (j := q) (by omega) (by omega)
    have k1 : zpr L (g p) = zpr L (g q) := by
      rw [← u3, ← v3]
      exact s5 p' q' u1 u2 v1 v2
    have k2 : zpr (L + 1) (g p) = zpr (L + 1) (g q) := by
      rw [zpr_s s4, zpr_s s4, k1, i2 b (Nat.lt_succ_self _) p (by omega) (by omega), i2 b (Nat.lt_succ_self _) q (by omega) (by omega)]
    subst e
    have k3 := zpr_8 k2
    omega
  · exact zs_srt_1 (by rw [zS_s]; omega)
/-- a measure of the cycle -/
def zsm (PZ : Nat → Int) : Nat → Nat
  | 0 => 0
  | k + 1 => zsm PZ k + (PZ k).toNat
theorem zsm_up {PZ : Nat → Int} {c k : Nat} {v : Int} (h : c < k) : zsm (zup PZ c v) k + (PZ c).toNat = zsm PZ k + v.toNat := by
  induction k with
  | zero => exact absurd h (Nat.not_lt_zero _)
  | succ k ih =>
    show zsm (zup PZ c v) k + (zup PZ c v k).toNat + (PZ c).toNat = zsm PZ k + (PZ k).toNat + v.toNat
    rcases Nat.lt_or_ge c k with q | q
    · have h1 := ih q
      rw [zup_n (by omega)]
      omega
    · have e : c = k := by omega
      subst e
      have h2 : ∀ n, n ≤ c → zsm (zup PZ c v) n = zsm PZ n := by
        intro n
        induction n with
        | zero =>
          intro _
          rfl
        | succ n ih2 =>
          intro hn
          show zsm (zup PZ c v) n + (zup PZ c v n).toNat = zsm PZ n + (PZ n).toNat
          rw [ih2 (by omega), zup_n (by omega)]
      rw [h2 c (Nat.le_refl _), zup_s]
      omega
end
section
/-! LongArrays.radixSort. Printed by gen/m13.py -/
set_option maxRecDepth 100000
theorem zcn_le {F : Nat → Int64} {L fs e d : Nat} (h : fs ≤ e) : zcn F L fs e d ≤ e - fs := by
  unfold zcn
  have := zs_cn_le (P := fun v => zdg L v == d) (f := F) h
  omega
theorem zS_const {B : Nat → Nat} {fs a b : Nat} (h : a ≤ b) (he : ∀ d, a ≤ d → d < b → B d = 0) : zS B fs b = zS B fs a := by
  induction b with
  | zero =>
    have e : a = 0 := by omega
    rw [e]
  | succ b ih =>
    rcases Nat.lt_or_ge b a with q | q
    · have e : a = b + 1 := by omega
      rw [e]
    · rw [zS_s, ih q (fun d x y => he d x (by omega)), he b q (by omega)]
      omega
theorem zr_cnt {F : Nat → Int64} {L k e : Nat} {C : Nat → Int} (hk : k < e) (h : ∀ d, d < 256 → C d = ((zcn F L (k + 1) e d : Nat) : Int)) : ∀ d, d < 256 → zup C (zdg L (F k)) (C (zdg L (F k)) + 1) d = ((zcn F L k e d : Nat) : Int) := by
  intro d hd
  have h1 := zcn_down (F := F) (L := L) (d := d) hk
  by_cases e1 : d = zdg L (F k)
  · rw [← e1] at h1 ⊢
    rw [zup_s, h d hd]
    have e2 : (d == d) = true := by simp
    rw [e2, Bool.toNat_true] at h1
    omega
  · rw [zup_n e1, h d hd]
    have e2 : (zdg L (F k) == d) = false := by simpa using fun q => e1 q.symm
    rw [e2, Bool.toNat_false] at h1
    omega
theorem zr_swap {g : Nat → Int64} {t : Int64} {i w : Nat} (h : i < w) : zs_sw (vp_updL g i t) i w = vp_updL (vp_updL g w t) i (g w) := by
  funext k
  by_cases e1 : k = w
  · subst e1
    rw [zs_sw_2, pk_uLs, pk_uLn (by omega), pk_uLs]
  · by_cases e2 : k = i
    · subst e2
      rw [zs_sw_1, pk_uLs, pk_uLn (by omega)]
    · rw [zs_sw_n e2 e1, pk_uLn e2, pk_uLn e2, pk_uLn e1]
theorem zr_bnd {F g : Nat → Int64} {L fs e b i : Nat} {PZ : Nat → Int} (hfe : fs ≤ e) (h : zr_I F g L fs e b PZ) (hb : b < 256) (hB : 0 < zcn F L fs e b) (hi : i = zS (zcn F L fs e) fs b) : 0 ≤ PZ (zdg L (g i)) ∧ PZ (zdg L (g i)) ≤ (e : Int) := by
  have hc := zdg_lt L (g i)
  have hb2 : b ≤ zdg L (g i) := by
    rcases zr_cur hfe h hb hB hi with q | q <;> omega
  obtain ⟨a1, a2, a3⟩ := h.2.2 _ hb2 hc
  have := zS_le (F := F) (L := L) (d := zdg L (g i) + 1) hfe (by omega)
  omega
section ZRX
variable {p : Program} {l : Launch} {e : Env} {s : State} {m : MethodId} {args : Array Value} {below : List Frame} {meth : Method} {c : Code} {Q : State → Prop} {D : va_G} {dJ dI : ClassId} {A : Nat → Prop}
variable {h0 n lo hi k4 k5 k6 k7 k8 : Nat}
set_option maxHeartbeats 4000000 in
set_option maxRecDepth 100000 in
/-- how often each digit: from behind -/
theorem lp_r1 {fs len L : Nat} {sm sh : Int} {g : Nat → Int64} {O Ln Lv PZ : Nat → Int} (S : CallFix p m c cX2_radixSort 23 s args lw_all RX2) (hn : n < 1073741824) (hin : hi ≤ n) (hL : L ≤ 7) (hsm : (L = 0 ∧ sm = 128) ∨ (L ≠ 0 ∧ sm = 0)) (hsh : sh = ((56 - 8 * L : Nat) : Int)) (hfl : fs + len ≤ hi) (kx : ∀ (C : Nat → Int) (H : Heap) (locs : List Loc) (ls : Array Slot), (∀ d, d < 256 → C d = ((zcn g L fs (fs + len) d : Nat) : Int)) → zW D dJ dI A s [zL h0 dJ n (g), zN k4 dI 1786 (O), zN k5 dI 1786 (Ln), zN k6 dI 1786 (Lv), zN k7 dI 256 (C), zN k8 dI 256 (PZ)] H locs → lv_has ls 23 [(0, .ref h0), (1, .int (zi (((lo : Nat) : Int)))), (2, .int (zi (((hi : Nat) : Int)))), (3, .int (zi (0))), (4, .ref k4), (5, .ref k5), (6, .ref k6), (7, .ref k7), (8, .ref k8), (9, .int (zi (((fs : Nat) : Int)))), (10, .int (zi (((len : Nat) : Int)))), (11, .int (zi (((L : Nat) : Int)))), (12, .int (zi (sm))), (13, .int (zi (sh)))] → W p l e (zRm 1027 5 5870 33874) s m args below meth c H locs 5 5870 Q (F0 m 171 ls [])) :
    ∀ (N i : Nat) (C : Nat → Int) (z14 : Int) (H : Heap) (locs : List Loc) (ls : Array Slot), i < fs + N → fs ≤ i → i ≤ fs + len → z14 = ((i : Nat) : Int) → (∀ d, d < 256 → C d = ((zcn g L i (fs + len) d : Nat) : Int)) → zW D dJ dI A s [zL h0 dJ n (g), zN k4 dI 1786 (O), zN k5 dI 1786 (Ln), zN k6 dI 1786 (Lv), zN k7 dI 256 (C), zN k8 dI 256 (PZ)] H locs → lv_has ls 23 [(0, .ref h0), (1, .int (zi (((lo : Nat) : Int)))), (2, .int (zi (((hi : Nat) : Int)))), (3, .int (zi (0))), (4, .ref k4), (5, .ref k5), (6, .ref k6), (7, .ref k7), (8, .ref k8), (9, .int (zi (((fs : Nat) : Int)))), (10, .int (zi (((len : Nat) : Int)))), (11, .int (zi (((L : Nat) : Int)))), (12, .int (zi (sm))), (13, .int (zi (sh))), (14, .int (zi (z14)))] → W p l e (zRm 1027 5 5870 33874) s m args below meth c H locs 5 5870 Q (F0 m 135 ls []) := by
  obtain ⟨hx, hb, hml, hown, hts⟩ := id S
  intro N
  induction N with
  | zero =>
    intro i C z14 H locs ls h1 h2
    exact absurd h1 (by omega)
  | succ N ih =>
    intro i C z14 H locs ls hN hi1 hi2 e14 hC hw hl
    subst e14
    refine lv_iload hx hb dX2_radixSort_135 (lv_at hl 14 rfl) ?_
    refine zi_inc (v := ((i : Nat) : Int) - 1) (k := 14) (lv' := [(14, .int (zi (((i : Nat) : Int) - 1))), (0, .ref h0), (1, .int (zi (((lo : Nat) : Int)))), (2, .int (zi (((hi : Nat) : Int)))), (3, .int (zi (0))), (4, .ref k4), (5, .ref k5), (6, .ref k6), (7, .ref k7), (8, .ref k8), (9, .int (zi (((fs : Nat) : Int)))), (10, .int (zi (((len : Nat) : Int)))), (11, .int (zi (((L : Nat) : Int)))), (12, .int (zi (sm))), (13, .int (zi (sh)))]) hx hb dX2_radixSort_137 hl rfl (by omega) (by decide) rfl (fun ls hl => ?_)
    refine lv_iload hx hb dX2_radixSort_140 (lv_at hl 10 rfl) ?_
    refine zi_icmp_eq (tgt := 171) hx hb dX2_radixSort_142 (by decide) (by omega) (by omega) (fun c_142 => ?_) (fun c_142 => ?_)
    · have e9 : i = fs := by omega
      rw [e9] at hC
      exact kx C H locs ls hC hw (lv_sub hl [1, 2, 3, 4, 5, 6, 7, 8, 9, 10, 11, 12, 13, 14] rfl)
    · obtain ⟨k, rfl⟩ : ∃ k, i = k + 1 := ⟨i - 1, by omega⟩
      have hdg := zdg_lt L (g k)
      refine lv_aload hx hb dX2_radixSort_145 (lv_at hl 8 rfl) ?_
      refine lv_aload_n hx hb dX2_radixSort_147 rfl (lv_at hl 1 rfl) ?_
      refine lv_iload hx hb dX2_radixSort_148 (lv_at hl 0 rfl) ?_
      refine zl_ald hx hb hw 0 (k) rfl (by omega) (by omega) (by omega) dX2_radixSort_150 ?_
      refine lv_iload hx hb dX2_radixSort_151 (lv_at hl 14 rfl) ?_
      refine lv_lushr (v := (((g) (k)).toUInt64 >>> ((zi (sh)).toInt64.toUInt64 &&& Int64.toUInt64 63)).toInt64) hx hb dX2_radixSort_153 rfl ?_
      refine lv_ldc2 (v := 255) hx hb hown (hts _ q82) dX2_radixSort_154 ?_
      refine lv_land hx hb dX2_radixSort_157 ?_
      refine lv_iload hx hb dX2_radixSort_158 (lv_at hl 13 rfl) ?_
      refine lv_i2l (v := (zi (sm)).toInt64) hx hb dX2_radixSort_160 rfl ?_
      refine lv_lxor hx hb dX2_radixSort_161 ?_
      refine lv_l2i (v := zi (((zdg L (g k) : Nat) : Int))) hx hb dX2_radixSort_162 (zdg_eq hL hsm hsh _) ?_
      refine lv_dup2_11 hx hb dX2_radixSort_163 rfl rfl ?_
      refine zn_ald hx hb hw 4 (zdg L (g k)) rfl (by omega) (by omega) (by omega) dX2_radixSort_164 ?_
      refine zi_const hx hb dX2_radixSort_165 ?_
      refine zi_add (r := (C) (zdg L (g k)) + 1) hx hb dX2_radixSort_166 rfl ?_
      refine zn_ast (ws' := [zL h0 dJ n (g), zN k4 dI 1786 (O), zN k5 dI 1786 (Ln), zN k6 dI 1786 (Lv), zN k7 dI 256 (zup (C) (zdg L (g k)) ((C) (zdg L (g k)) + 1)), zN k8 dI 256 (PZ)]) hx hb hw 4 (zdg L (g k)) rfl (by omega) (by omega) (by omega) dX2_radixSort_167 rfl (fun H locs hw => ?_)
      refine lv_goto (tgt := 135) hx hb dX2_radixSort_168 (by decide) ?_
      exact ih k (zup (C) (zdg L (g k)) ((C) (zdg L (g k)) + 1)) _ H locs ls (by omega) (by omega) (by omega) (by omega) (zr_cnt (by omega) hC) hw (lv_sub hl [1, 2, 3, 4, 5, 6, 7, 8, 9, 10, 11, 12, 13, 14, 0] rfl)
set_option maxHeartbeats 4000000 in
set_option maxRecDepth 100000 in
/-- where each bucket ends -/
theorem lp_r2 {fs len L : Nat} {sm sh : Int} {g : Nat → Int64} {O Ln Lv C : Nat → Int} (S : CallFix p m c cX2_radixSort 23 s args lw_all RX2) (hn : n < 1073741824) (hin : hi ≤ n) (hL : L ≤ 7) (hfl : fs + len ≤ hi) (hlen : 1024 ≤ len) (hC : ∀ d, d < 256 → C d = ((zcn g L fs (fs + len) d : Nat) : Int)) (kx : ∀ (lu : Nat) (PZ : Nat → Int) (H : Heap) (locs : List Loc) (ls : Array Slot), lu < 256 → 0 < zcn g L fs (fs + len) lu → (∀ d, lu < d → d < 256 → zcn g L fs (fs + len) d = 0) → (∀ d, d < 256 → PZ d = ((zS (zcn g L fs (fs + len)) fs (d + 1) : Nat) : Int)) → zW D dJ dI A s [zL h0 dJ n (g), zN k4 dI 1786 (O), zN k5 dI 1786 (Ln), zN k6 dI 1786 (Lv), zN k7 dI 256 (C), zN k8 dI 256 (PZ)] H locs → lv_has ls 23 [(0, .ref h0), (1, .int (zi (((lo : Nat) : Int)))), (2, .int (zi (((hi : Nat) : Int)))), (3, .int (zi (0))), (4, .ref k4), (5, .ref k5), (6, .ref k6), (7, .ref k7), (8, .ref k8), (9, .int (zi (((fs : Nat) : Int)))), (10, .int (zi (((len : Nat) : Int)))), (11, .int (zi (((L : Nat) : Int)))), (12, .int (zi (sm))), (13, .int (zi (sh))), (14, .int (zi (((lu : Nat) : Int))))] → W p l e (zRm 1027 5 5870 33874) s m args below meth c H locs 5 5870 Q (F0 m 223 ls [])) :
    ∀ (N i : Nat) (z14 : Int) (PZ : Nat → Int) (z15 z16 : Int) (H : Heap) (locs : List Loc) (ls : Array Slot), 256 < i + N → i ≤ 256 → z15 = ((i : Nat) : Int) → z16 = ((zS (zcn g L fs (fs + len)) fs i : Nat) : Int) → ((z14 = -1 ∧ ∀ d, d < i → zcn g L fs (fs + len) d = 0) ∨ ∃ u : Nat, u < i ∧ z14 = (u : Int) ∧ 0 < zcn g L fs (fs + len) u ∧ ∀ d, u < d → d < i → zcn g L fs (fs + len) d = 0) → (∀ d, d < i → PZ d = ((zS (zcn g L fs (fs + len)) fs (d + 1) : Nat) : Int)) → zW D dJ dI A s [zL h0 dJ n (g), zN k4 dI 1786 (O), zN k5 dI 1786 (Ln), zN k6 dI 1786 (Lv), zN k7 dI 256 (C), zN k8 dI 256 (PZ)] H locs → lv_has ls 23 [(0, .ref h0), (1, .int (zi (((lo : Nat) : Int)))), (2, .int (zi (((hi : Nat) : Int)))), (3, .int (zi (0))), (4, .ref k4), (5, .ref k5), (6, .ref k6), (7, .ref k7), (8, .ref k8), (9, .int (zi (((fs : Nat) : Int)))), (10, .int (zi (((len : Nat) : Int)))), (11, .int (zi (((L : Nat) : Int)))), (12, .int (zi (sm))), (13, .int (zi (sh))), (14, .int (zi (z14))), (15, .int (zi (z15))), (16, .int (zi (z16)))] → W p l e (zRm 1027 5 5870 33874) s m args below meth c H locs 5 5870 Q (F0 m 181 ls []) := by
  obtain ⟨hx, hb, hml, hown, hts⟩ := id S
  intro N
  induction N with
  | zero =>
    intro i z14 PZ z15 z16 H locs ls h1 h2
    exact absurd h1 (by omega)
  | succ N ih =>
    intro i z14 PZ z15 z16 H locs ls hN hi1 e15 e16 hlu hP hw hl
    subst e15
    subst e16
    refine lv_iload hx hb dX2_radixSort_181 (lv_at hl 15 rfl) ?_
    refine lv_sipush (v := zi (256)) hx hb dX2_radixSort_183 (by decide +kernel) ?_
    refine zi_icmp_ge (tgt := 223) hx hb dX2_radixSort_186 (by decide) (by omega) (by omega) (fun c_186 => ?_) (fun c_186 => ?_)
    · have e9 : i = 256 := by omega
      rw [e9] at hlu hP
      rcases hlu with ⟨q1, q2⟩ | ⟨u, u1, u2, u3, u4⟩
      · exfalso
        have a1 := zS_all (F := g) (L := L) (fs := fs) (fs + len) (by omega)
        have a2 := zS_const (B := zcn g L fs (fs + len)) (fs := fs) (Nat.zero_le 256) (fun d _ x => q2 d x)
        rw [a1] at a2
        have a3 : zS (zcn g L fs (fs + len)) fs 0 = fs := rfl
        omega
      · subst u2
        exact kx u PZ H locs ls u1 u3 u4 hP hw (lv_sub hl [0, 1, 2, 3, 4, 5, 6, 7, 8, 9, 10, 11, 12, 13, 14] rfl)
    · have hi9 : i < 256 := by omega
      have hCi := hC i hi9
      have hBi := zcn_le (F := g) (L := L) (d := i) (show fs ≤ fs + len by omega)
      have hSi := zS_s (zcn g L fs (fs + len)) fs i
      have hSl := zS_le (F := g) (L := L) (d := i + 1) (show fs ≤ fs + len by omega) (by omega)
      refine lv_aload hx hb dX2_radixSort_189 (lv_at hl 7 rfl) ?_
      refine lv_iload hx hb dX2_radixSort_191 (lv_at hl 15 rfl) ?_
      refine zn_ald hx hb hw 4 (i) rfl (by omega) (by omega) (by omega) dX2_radixSort_193 ?_
      refine zi_if_eq (tgt := 201) hx hb dX2_radixSort_194 (by decide) (by omega) (fun c_194 => ?_) (fun c_194 => ?_)
      · refine lv_aload hx hb dX2_radixSort_201 (lv_at hl 8 rfl) ?_
        refine lv_iload hx hb dX2_radixSort_203 (lv_at hl 15 rfl) ?_
        refine lv_iload hx hb dX2_radixSort_205 (lv_at hl 16 rfl) ?_
        refine lv_aload hx hb dX2_radixSort_207 (lv_at hl 7 rfl) ?_
        refine lv_iload hx hb dX2_radixSort_209 (lv_at hl 15 rfl) ?_
        refine zn_ald hx hb hw 4 (i) rfl (by omega) (by omega) (by omega) dX2_radixSort_211 ?_
        refine zi_add (r := ((zS (zcn g L fs (fs + len)) fs (i + 1) : Nat) : Int)) hx hb dX2_radixSort_212 (by omega) ?_
        refine lv_dup hx hb dX2_radixSort_213 rfl ?_
        refine lv_istore (lv' := [(16, .int (zi (((zS (zcn g L fs (fs + len)) fs (i + 1) : Nat) : Int)))), (0, .ref h0), (1, .int (zi (((lo : Nat) : Int)))), (2, .int (zi (((hi : Nat) : Int)))), (3, .int (zi (0))), (4, .ref k4), (5, .ref k5), (6, .ref k6), (7, .ref k7), (8, .ref k8), (9, .int (zi (((fs : Nat) : Int)))), (10, .int (zi (((len : Nat) : Int)))), (11, .int (zi (((L : Nat) : Int)))), (12, .int (zi (sm))), (13, .int (zi (sh))), (14, .int (zi (z14))), (15, .int (zi (((i : Nat) : Int))))]) hx hb dX2_radixSort_214 hl (by decide) rfl (fun ls hl => ?_)
        refine zn_ast (ws' := [zL h0 dJ n (g), zN k4 dI 1786 (O), zN k5 dI 1786 (Ln), zN k6 dI 1786 (Lv), zN k7 dI 256 (C), zN k8 dI 256 (zup (PZ) (i) (((zS (zcn g L fs (fs + len)) fs (i + 1) : Nat) : Int)))]) hx hb hw 5 (i) rfl (by omega) (by omega) (by omega) dX2_radixSort_216 rfl (fun H locs hw => ?_)
        refine zi_inc (v := ((i + 1 : Nat) : Int)) (k := 16) (lv' := [(15, .int (zi (((i + 1 : Nat) : Int)))), (16, .int (zi (((zS (zcn g L fs (fs + len)) fs (i + 1) : Nat) : Int)))), (0, .ref h0), (1, .int (zi (((lo : Nat) : Int)))), (2, .int (zi (((hi : Nat) : Int)))), (3, .int (zi (0))), (4, .ref k4), (5, .ref k5), (6, .ref k6), (7, .ref k7), (8, .ref k8), (9, .int (zi (((fs : Nat) : Int)))), (10, .int (zi (((len : Nat) : Int)))), (11, .int (zi (((L : Nat) : Int)))), (12, .int (zi (sm))), (13, .int (zi (sh))), (14, .int (zi (z14)))]) hx hb dX2_radixSort_217 hl rfl (by omega) (by decide) rfl (fun ls hl => ?_)
        refine lv_goto (tgt := 181) hx hb dX2_radixSort_220 (by decide) ?_
        exact ih (i + 1) (z14) (zup (PZ) (i) (((zS (zcn g L fs (fs + len)) fs (i + 1) : Nat) : Int))) _ _ H locs ls (by omega) (by omega) rfl rfl (by
            rcases hlu with ⟨q1, q2⟩ | ⟨u, u1, u2, u3, u4⟩
            · refine Or.inl ⟨q1, fun d x => ?_⟩
              rcases (show d = i ∨ d < i by omega) with q | q
              · rw [q]
                omega
              · exact q2 d q
            · refine Or.inr ⟨u, by omega, u2, u3, fun d x y => ?_⟩
              rcases (show d = i ∨ d < i by omega) with q | q
              · rw [q]
                omega
              · exact u4 d x q) (fun d x => by
            by_cases q : d = i
            · rw [q, zup_s]
            · rw [zup_n q]
              exact hP d (by omega)) hw (lv_sub hl [2, 3, 4, 5, 6, 7, 8, 9, 10, 11, 12, 13, 14, 15, 16, 0, 1] rfl)
      · refine lv_iload hx hb dX2_radixSort_197 (lv_at hl 15 rfl) ?_
        refine lv_istore (lv' := [(14, .int (zi (((i : Nat) : Int)))), (0, .ref h0), (1, .int (zi (((lo : Nat) : Int)))), (2, .int (zi (((hi : Nat) : Int)))), (3, .int (zi (0))), (4, .ref k4), (5, .ref k5), (6, .ref k6), (7, .ref k7), (8, .ref k8), (9, .int (zi (((fs : Nat) : Int)))), (10, .int (zi (((len : Nat) : Int)))), (11, .int (zi (((L : Nat) : Int)))), (12, .int (zi (sm))), (13, .int (zi (sh))), (15, .int (zi (((i : Nat) : Int)))), (16, .int (zi (((zS (zcn g L fs (fs + len)) fs i : Nat) : Int))))]) hx hb dX2_radixSort_199 hl (by decide) rfl (fun ls hl => ?_)
        refine lv_aload hx hb dX2_radixSort_201 (lv_at hl 9 rfl) ?_
        refine lv_iload hx hb dX2_radixSort_203 (lv_at hl 15 rfl) ?_
        refine lv_iload hx hb dX2_radixSort_205 (lv_at hl 16 rfl) ?_
        refine lv_aload hx hb dX2_radixSort_207 (lv_at hl 8 rfl) ?_
        refine lv_iload hx hb dX2_radixSort_209 (lv_at hl 15 rfl) ?_
        refine zn_ald hx hb hw 4 (i) rfl (by omega) (by omega) (by omega) dX2_radixSort_211 ?_
        refine zi_add (r := ((zS (zcn g L fs (fs + len)) fs (i + 1) : Nat) : Int)) hx hb dX2_radixSort_212 (by omega) ?_
        refine lv_dup hx hb dX2_radixSort_213 rfl ?_
        refine lv_istore (lv' := [(16, .int (zi (((zS (zcn g L fs (fs + len)) fs (i + 1) : Nat) : Int)))), (14, .int (zi (((i : Nat) : Int)))), (0, .ref h0), (1, .int (zi (((lo : Nat) : Int)))), (2, .int (zi (((hi : Nat) : Int)))), (3, .int (zi (0))), (4, .ref k4), (5, .ref k5), (6, .ref k6), (7, .ref k7), (8, .ref k8), (9, .int (zi (((fs : Nat) : Int)))), (10, .int (zi (((len : Nat) : Int)))), (11, .int (zi (((L : Nat) : Int)))), (12, .int (zi (sm))), (13, .int (zi (sh))), (15, .int (zi (((i : Nat) : Int))))]) hx hb dX2_radixSort_214 hl (by decide) rfl (fun ls hl => ?_)
        refine zn_ast (ws' := [zL h0 dJ n (g), zN k4 dI 1786 (O), zN k5 dI 1786 (Ln), zN k6 dI 1786 (Lv), zN k7 dI 256 (C), zN k8 dI 256 (zup (PZ) (i) (((zS (zcn g L fs (fs + len)) fs (i + 1) : Nat) : Int)))]) hx hb hw 5 (i) rfl (by omega) (by omega) (by omega) dX2_radixSort_216 rfl (fun H locs hw => ?_)
        refine zi_inc (v := ((i + 1 : Nat) : Int)) (k := 16) (lv' := [(15, .int (zi (((i + 1 : Nat) : Int)))), (16, .int (zi (((zS (zcn g L fs (fs + len)) fs (i + 1) : Nat) : Int)))), (14, .int (zi (((i : Nat) : Int)))), (0, .ref h0), (1, .int (zi (((lo : Nat) : Int)))), (2, .int (zi (((hi : Nat) : Int)))), (3, .int (zi (0))), (4, .ref k4), (5, .ref k5), (6, .ref k6), (7, .ref k7), (8, .ref k8), (9, .int (zi (((fs : Nat) : Int)))), (10, .int (zi (((len : Nat) : Int)))), (11, .int (zi (((L : Nat) : Int)))), (12, .int (zi (sm))), (13, .int (zi (sh)))]) hx hb dX2_radixSort_217 hl rfl (by omega) (by decide) rfl (fun ls hl => ?_)
        refine lv_goto (tgt := 181) hx hb dX2_radixSort_220 (by decide) ?_
        exact ih (i + 1) (((i : Nat) : Int)) (zup (PZ) (i) (((zS (zcn g L fs (fs + len)) fs (i + 1) : Nat) : Int))) _ _ H locs ls (by omega) (by omega) rfl rfl (Or.inr ⟨i, by omega, rfl, by omega, fun d x y => absurd x (by omega)⟩) (fun d x => by
            by_cases q : d = i
            · rw [q, zup_s]
            · rw [zup_n q]
              exact hP d (by omega)) hw (lv_sub hl [3, 4, 5, 6, 7, 8, 9, 10, 11, 12, 13, 14, 15, 16, 2, 0, 1] rfl)
set_option maxHeartbeats 4000000 in
set_option maxRecDepth 100000 in
/-- one cycle of exchanges -/
theorem lp_r3 {fs len L b i : Nat} {sm sh z3 z15 : Int} {F g0 : Nat → Int64} {O Ln Lv C : Nat → Int} (S : CallFix p m c cX2_radixSort 23 s args lw_all RX2) (hn : n < 1073741824) (hin : hi ≤ n) (hL : L ≤ 7) (hsm : (L = 0 ∧ sm = 128) ∨ (L ≠ 0 ∧ sm = 0)) (hsh : sh = ((56 - 8 * L : Nat) : Int)) (hfl : fs + len ≤ hi) (hfe : fs ≤ fs + len) (hb9 : b < 256) (hB : 0 < zcn F L fs (fs + len) b) (hib : i = zS (zcn F L fs (fs + len)) fs b) (hie : i < fs + len) (kx : ∀ (g : Nat → Int64) (t : Int64) (PZ : Nat → Int) (H : Heap) (locs : List Loc) (ls : Array Slot), zr_I F (vp_updL g i t) L fs (fs + len) (b + 1) PZ → (∀ j, j < i → g j = g0 j) → zW D dJ dI A s [zL h0 dJ n (g), zN k4 dI 1786 (O), zN k5 dI 1786 (Ln), zN k6 dI 1786 (Lv), zN k7 dI 256 (C), zN k8 dI 256 (PZ)] H locs → lv_has ls 23 [(0, .ref h0), (1, .int (zi (((lo : Nat) : Int)))), (2, .int (zi (((hi : Nat) : Int)))), (3, .int (zi (z3))), (4, .ref k4), (5, .ref k5), (6, .ref k6), (7, .ref k7), (8, .ref k8), (9, .int (zi (((fs : Nat) : Int)))), (10, .int (zi (((len : Nat) : Int)))), (11, .int (zi (((L : Nat) : Int)))), (12, .int (zi (sm))), (13, .int (zi (sh))), (15, .int (zi (z15))), (16, .int (zi (((i : Nat) : Int)))), (17, .int (zi (((b : Nat) : Int)))), (19, .long (t))] → W p l e (zRm 1027 5 5870 33874) s m args below meth c H locs 5 5870 Q (F0 m 332 ls [])) :
    ∀ (N : Nat) (g : Nat → Int64) (t : Int64) (PZ : Nat → Int) (z17 : Int) (H : Heap) (locs : List Loc) (ls : Array Slot), zsm PZ 256 < N → z17 = ((zdg L t : Nat) : Int) → zr_I F (vp_updL g i t) L fs (fs + len) b PZ → (∀ j, j < i → g j = g0 j) → zW D dJ dI A s [zL h0 dJ n (g), zN k4 dI 1786 (O), zN k5 dI 1786 (Ln), zN k6 dI 1786 (Lv), zN k7 dI 256 (C), zN k8 dI 256 (PZ)] H locs → lv_has ls 23 [(0, .ref h0), (1, .int (zi (((lo : Nat) : Int)))), (2, .int (zi (((hi : Nat) : Int)))), (3, .int (zi (z3))), (4, .ref k4), (5, .ref k5), (6, .ref k6), (7, .ref k7), (8, .ref k8), (9, .int (zi (((fs : Nat) : Int)))), (10, .int (zi (((len : Nat) : Int)))), (11, .int (zi (((L : Nat) : Int)))), (12, .int (zi (sm))), (13, .int (zi (sh))), (15, .int (zi (z15))), (16, .int (zi (((i : Nat) : Int)))), (17, .int (zi (z17))), (19, .long (t))] → W p l e (zRm 1027 5 5870 33874) s m args below meth c H locs 5 5870 Q (F0 m 279 ls []) := by
  obtain ⟨hx, hb, hml, hown, hts⟩ := id S
  intro N
  induction N with
  | zero =>
    intro g t PZ z17 H locs ls h1
    exact absurd h1 (by omega)
  | succ N ih =>
    intro g t PZ z17 H locs ls hN e17 hI hgk hw hl
    subst e17
    have hdg := zdg_lt L t
    have hbnd := zr_bnd hfe hI hb9 hB hib
    rw [pk_uLs] at hbnd
    refine lv_aload hx hb dX2_radixSort_279 (lv_at hl 8 rfl) ?_
    refine lv_iload hx hb dX2_radixSort_281 (lv_at hl 16 rfl) ?_
    refine lv_dup2_11 hx hb dX2_radixSort_283 rfl rfl ?_
    refine zn_ald hx hb hw 5 (zdg L t) rfl (by omega) (by omega) (by omega) dX2_radixSort_284 ?_
    refine zi_const hx hb dX2_radixSort_285 ?_
    refine zi_sub (r := (PZ) (zdg L t) - 1) hx hb dX2_radixSort_286 rfl ?_
    refine lv_dup_x2 hx hb dX2_radixSort_287 rfl rfl rfl ?_
    refine zn_ast (ws' := [zL h0 dJ n (g), zN k4 dI 1786 (O), zN k5 dI 1786 (Ln), zN k6 dI 1786 (Lv), zN k7 dI 256 (C), zN k8 dI 256 (zup (PZ) (zdg L t) ((PZ) (zdg L t) - 1))]) hx hb hw 5 (zdg L t) rfl (by omega) (by omega) (by omega) dX2_radixSort_288 rfl (fun H locs hw => ?_)
    refine lv_dup hx hb dX2_radixSort_289 rfl ?_
    refine lv_istore (lv' := [(18, .int (zi ((PZ) (zdg L t) - 1))), (0, .ref h0), (1, .int (zi (((lo : Nat) : Int)))), (2, .int (zi (((hi : Nat) : Int)))), (3, .int (zi (z3))), (4, .ref k4), (5, .ref k5), (6, .ref k6), (7, .ref k7), (8, .ref k8), (9, .int (zi (((fs : Nat) : Int)))), (10, .int (zi (((len : Nat) : Int)))), (11, .int (zi (((L : Nat) : Int)))), (12, .int (zi (sm))), (13, .int (zi (sh))), (15, .int (zi (z15))), (16, .int (zi (((i : Nat) : Int)))), (17, .int (zi (((zdg L t : Nat) : Int)))), (19, .long (t))]) hx hb dX2_radixSort_290 hl (by decide) rfl (fun ls hl => ?_)
    refine lv_iload hx hb dX2_radixSort_292 (lv_at hl 16 rfl) ?_
    refine zi_icmp_le (tgt := 332) hx hb dX2_radixSort_294 (by decide) (by omega) (by omega) (fun c_294 => ?_) (fun c_294 => ?_)
    · have hex := zr_exit hfe hI hb9 hB hib (by rw [pk_uLs]; omega)
      rw [pk_uLs] at hex
      obtain ⟨hcb, hI2⟩ := hex
      rw [hcb] at hl
      exact kx g t _ H locs ls hI2 hgk hw (lv_sub hl [1, 2, 3, 4, 5, 6, 7, 8, 9, 10, 11, 12, 13, 14, 15, 16, 17, 18] rfl)
    · obtain ⟨w, hw9⟩ : ∃ w : Nat, PZ (zdg L t) - 1 = (w : Int) := ⟨(PZ (zdg L t) - 1).toNat, by omega⟩
      have hst := zr_step (w := w) hfe hI hb9 hB hib (by rw [pk_uLs]; exact hw9) (by omega)
      rw [pk_uLs] at hst
      obtain ⟨hwe, hI2⟩ := hst
      rw [zr_swap (by omega)] at hI2
      have hms := zsm_up (PZ := PZ) (c := zdg L t) (k := 256) (v := PZ (zdg L t) - 1) hdg
      refine lv_lload hx hb dX2_radixSort_297 (lv_at hl 18 rfl) ?_
      refine lv_lstore (lv' := [(21, .long (t)), (18, .int (zi ((PZ) (zdg L t) - 1))), (0, .ref h0), (1, .int (zi (((lo : Nat) : Int)))), (2, .int (zi (((hi : Nat) : Int)))), (3, .int (zi (z3))), (4, .ref k4), (5, .ref k5), (6, .ref k6), (7, .ref k7), (8, .ref k8), (9, .int (zi (((fs : Nat) : Int)))), (10, .int (zi (((len : Nat) : Int)))), (11, .int (zi (((L : Nat) : Int)))), (12, .int (zi (sm))), (13, .int (zi (sh))), (15, .int (zi (z15))), (16, .int (zi (((i : Nat) : Int)))), (17, .int (zi (((zdg L t : Nat) : Int)))), (19, .long (t))]) hx hb dX2_radixSort_299 hl (by decide) rfl (fun ls hl => ?_)
      refine lv_aload_n hx hb dX2_radixSort_301 rfl (lv_at hl 2 rfl) ?_
      refine lv_iload hx hb dX2_radixSort_302 (lv_at hl 1 rfl) ?_
      refine zl_ald hx hb hw 0 (w) rfl (by omega) (by omega) (by omega) dX2_radixSort_304 ?_
      refine lv_lstore (lv' := [(19, .long ((g) (w))), (21, .long (t)), (18, .int (zi ((PZ) (zdg L t) - 1))), (0, .ref h0), (1, .int (zi (((lo : Nat) : Int)))), (2, .int (zi (((hi : Nat) : Int)))), (3, .int (zi (z3))), (4, .ref k4), (5, .ref k5), (6, .ref k6), (7, .ref k7), (8, .ref k8), (9, .int (zi (((fs : Nat) : Int)))), (10, .int (zi (((len : Nat) : Int)))), (11, .int (zi (((L : Nat) : Int)))), (12, .int (zi (sm))), (13, .int (zi (sh))), (15, .int (zi (z15))), (16, .int (zi (((i : Nat) : Int)))), (17, .int (zi (((zdg L t : Nat) : Int))))]) hx hb dX2_radixSort_305 hl (by decide) rfl (fun ls hl => ?_)
      refine lv_aload_n hx hb dX2_radixSort_307 rfl (lv_at hl 3 rfl) ?_
      refine lv_iload hx hb dX2_radixSort_308 (lv_at hl 2 rfl) ?_
      refine lv_lload hx hb dX2_radixSort_310 (lv_at hl 1 rfl) ?_
      refine zl_ast (ws' := [zL h0 dJ n (vp_updL (g) (w) (t)), zN k4 dI 1786 (O), zN k5 dI 1786 (Ln), zN k6 dI 1786 (Lv), zN k7 dI 256 (C), zN k8 dI 256 (zup (PZ) (zdg L t) ((PZ) (zdg L t) - 1))]) hx hb hw 0 (w) rfl (by omega) (by omega) (by omega) dX2_radixSort_312 rfl (fun H locs hw => ?_)
      refine lv_lload hx hb dX2_radixSort_313 (lv_at hl 0 rfl) ?_
      refine lv_iload hx hb dX2_radixSort_315 (lv_at hl 16 rfl) ?_
      refine lv_lushr (v := (((g) (w)).toUInt64 >>> ((zi (sh)).toInt64.toUInt64 &&& Int64.toUInt64 63)).toInt64) hx hb dX2_radixSort_317 rfl ?_
      refine lv_ldc2 (v := 255) hx hb hown (hts _ q82) dX2_radixSort_318 ?_
      refine lv_land hx hb dX2_radixSort_321 ?_
      refine lv_iload hx hb dX2_radixSort_322 (lv_at hl 15 rfl) ?_
      refine lv_i2l (v := (zi (sm)).toInt64) hx hb dX2_radixSort_324 rfl ?_
      refine lv_lxor hx hb dX2_radixSort_325 ?_
      refine lv_l2i (v := zi (((zdg L (g w) : Nat) : Int))) hx hb dX2_radixSort_326 (zdg_eq hL hsm hsh _) ?_
      refine lv_istore (lv' := [(17, .int (zi (((zdg L (g w) : Nat) : Int)))), (19, .long ((g) (w))), (21, .long (t)), (18, .int (zi ((PZ) (zdg L t) - 1))), (0, .ref h0), (1, .int (zi (((lo : Nat) : Int)))), (2, .int (zi (((hi : Nat) : Int)))), (3, .int (zi (z3))), (4, .ref k4), (5, .ref k5), (6, .ref k6), (7, .ref k7), (8, .ref k8), (9, .int (zi (((fs : Nat) : Int)))), (10, .int (zi (((len : Nat) : Int)))), (11, .int (zi (((L : Nat) : Int)))), (12, .int (zi (sm))), (13, .int (zi (sh))), (15, .int (zi (z15))), (16, .int (zi (((i : Nat) : Int))))]) hx hb dX2_radixSort_327 hl (by decide) rfl (fun ls hl => ?_)
      refine lv_goto (tgt := 279) hx hb dX2_radixSort_329 (by decide) ?_
      exact ih (vp_updL (g) (w) (t)) (g w) (zup (PZ) (zdg L t) ((PZ) (zdg L t) - 1)) _ H locs ls (by omega) rfl hI2 (fun j q => by rw [pk_uLn (by omega)]; exact hgk j q) hw (lv_sub hl [4, 5, 6, 7, 8, 9, 10, 11, 12, 13, 14, 15, 16, 17, 18, 19, 0, 1] rfl)
set_option maxHeartbeats 4000000 in
set_option maxRecDepth 100000 in
/-- a full bucket: sorted at once, laid on the stack, or done -/
theorem lp_r4b {fs len L b i sp ps pl : Nat} {sm sh z15 : Int} {f F g : Nat → Int64} {O Ln Lv C PZ : Nat → Int} {H : Heap} {locs : List Loc} {ls : Array Slot} (S : CallFix p m c cX2_radixSort 23 s args lw_all RX2) (hn : n < 1073741824) (hin : hi ≤ n) (hL : L ≤ 7) (hO9 : zr_O f F lo hi 1 fs len L) (hfl : fs + len ≤ hi) (hfe : fs ≤ fs + len) (hl9 : len < 2048) (hb9 : b < 256) (hib : i = zS (zcn F L fs (fs + len)) fs b) (hI : zr_I F g L fs (fs + len) (b + 1) PZ) (hT : zr_T g (zcn F L fs (fs + len)) fs b sp ps pl) (hC0 : ∀ d, d < 256 → d < b → C d = 0) (hC1 : ∀ d, d < 256 → b ≤ d → C d = ((zcn F L fs (fs + len) d : Nat) : Int)) (hst : sp = 1 → O 0 = ((ps : Nat) : Int) ∧ Ln 0 = ((pl : Nat) : Int) ∧ Lv 0 = ((L + 1 : Nat) : Int) ∧ L < 7) (hw : zW D dJ dI A s [zL h0 dJ n (g), zN k4 dI 1786 (O), zN k5 dI 1786 (Ln), zN k6 dI 1786 (Lv), zN k7 dI 256 (C), zN k8 dI 256 (PZ)] H locs) (hl : lv_has ls 23 [(0, .ref h0), (1, .int (zi (((lo : Nat) : Int)))), (2, .int (zi (((hi : Nat) : Int)))), (3, .int (zi (((sp : Nat) : Int)))), (4, .ref k4), (5, .ref k5), (6, .ref k6), (7, .ref k7), (8, .ref k8), (9, .int (zi (((fs : Nat) : Int)))), (10, .int (zi (((len : Nat) : Int)))), (11, .int (zi (((L : Nat) : Int)))), (12, .int (zi (sm))), (13, .int (zi (sh))), (15, .int (zi (z15))), (16, .int (zi (((i : Nat) : Int)))), (17, .int (zi (((b : Nat) : Int))))])
    (kk : ∀ (b' : Nat) (g : Nat → Int64) (C PZ : Nat → Int) (sp ps pl : Nat) (O Ln Lv : Nat → Int) (z3 z16 : Int) (H : Heap) (locs : List Loc) (ls : Array Slot), b < b' → b' ≤ 256 → z3 = ((sp : Nat) : Int) → z16 = ((zS (zcn F L fs (fs + len)) fs b' : Nat) : Int) → zr_I F g L fs (fs + len) b' PZ → zr_T g (zcn F L fs (fs + len)) fs b' sp ps pl → (∀ d, d < 256 → d < b' → C d = 0) → (∀ d, d < 256 → b' ≤ d → C d = ((zcn F L fs (fs + len) d : Nat) : Int)) → (sp = 1 → O 0 = ((ps : Nat) : Int) ∧ Ln 0 = ((pl : Nat) : Int) ∧ Lv 0 = ((L + 1 : Nat) : Int) ∧ L < 7) → zW D dJ dI A s [zL h0 dJ n (g), zN k4 dI 1786 (O), zN k5 dI 1786 (Ln), zN k6 dI 1786 (Lv), zN k7 dI 256 (C), zN k8 dI 256 (PZ)] H locs → lv_has ls 23 [(0, .ref h0), (1, .int (zi (((lo : Nat) : Int)))), (2, .int (zi (((hi : Nat) : Int)))), (3, .int (zi (z3))), (4, .ref k4), (5, .ref k5), (6, .ref k6), (7, .ref k7), (8, .ref k8), (9, .int (zi (((fs : Nat) : Int)))), (10, .int (zi (((len : Nat) : Int)))), (11, .int (zi (((L : Nat) : Int)))), (12, .int (zi (sm))), (13, .int (zi (sh))), (15, .int (zi (z15))), (16, .int (zi (z16)))] → W p l e (zRm 1027 5 5870 33874) s m args below meth c H locs 5 5870 Q (F0 m 243 ls [])) : W p l e (zRm 1027 5 5870 33874) s m args below meth c H locs 5 5870 Q (F0 m 338 ls []) := by
  obtain ⟨hx, hb, hml, hown, hts⟩ := id S
  have hCb := hC1 b hb9 (Nat.le_refl _)
  have hSb := zS_s (zcn F L fs (fs + len)) fs b
  have hSl := zS_le (F := F) (L := L) (d := b + 1) hfe (by omega)
  have hsp := hT.2.1
  refine lv_iload hx hb dX2_radixSort_338 (lv_at hl 11 rfl) ?_
  refine lv_bipush (v := zi (7)) hx hb dX2_radixSort_340 (by decide +kernel) ?_
  refine zi_icmp_ge (tgt := 408) hx hb dX2_radixSort_342 (by decide) (by omega) (by omega) (fun c_342 => ?_) (fun c_342 => ?_)
  · refine lv_iload hx hb dX2_radixSort_408 (lv_at hl 15 rfl) ?_
    refine lv_aload hx hb dX2_radixSort_410 (lv_at hl 7 rfl) ?_
    refine lv_iload hx hb dX2_radixSort_412 (lv_at hl 16 rfl) ?_
    refine zn_ald hx hb hw 4 (b) rfl (by omega) (by omega) (by omega) dX2_radixSort_414 ?_
    refine zi_add (r := ((zS (zcn F L fs (fs + len)) fs (b + 1) : Nat) : Int)) hx hb dX2_radixSort_415 (by omega) ?_
    refine lv_istore (lv' := [(16, .int (zi (((zS (zcn F L fs (fs + len)) fs (b + 1) : Nat) : Int)))), (0, .ref h0), (1, .int (zi (((lo : Nat) : Int)))), (2, .int (zi (((hi : Nat) : Int)))), (3, .int (zi (((sp : Nat) : Int)))), (4, .ref k4), (5, .ref k5), (6, .ref k6), (7, .ref k7), (8, .ref k8), (9, .int (zi (((fs : Nat) : Int)))), (10, .int (zi (((len : Nat) : Int)))), (11, .int (zi (((L : Nat) : Int)))), (12, .int (zi (sm))), (13, .int (zi (sh))), (15, .int (zi (z15))), (17, .int (zi (((b : Nat) : Int))))]) hx hb dX2_radixSort_416 hl (by decide) rfl (fun ls hl => ?_)
    refine lv_aload hx hb dX2_radixSort_418 (lv_at hl 8 rfl) ?_
    refine lv_iload hx hb dX2_radixSort_420 (lv_at hl 16 rfl) ?_
    refine zi_const hx hb dX2_radixSort_422 ?_
    refine zn_ast (ws' := [zL h0 dJ n (g), zN k4 dI 1786 (O), zN k5 dI 1786 (Ln), zN k6 dI 1786 (Lv), zN k7 dI 256 (zup (C) (b) (0)), zN k8 dI 256 (PZ)]) hx hb hw 4 (b) rfl (by omega) (by omega) (by omega) dX2_radixSort_423 rfl (fun H locs hw => ?_)
    refine lv_goto (tgt := 243) hx hb dX2_radixSort_424 (by decide) ?_
    exact kk (b + 1) (g) (zup (C) (b) (0)) PZ sp ps pl (O) (Ln) (Lv) _ _ H locs ls (by omega) (by omega) (by omega) (by omega) hI (zr_Tadd hT (zr_one hO9 hI hb9 (by omega))) (fun d x y => by
        by_cases q : d = b
        · rw [q, zup_s]
        · rw [zup_n q]
          exact hC0 d x (by omega)) (fun d x y => by
        rw [zup_n (by omega)]
        exact hC1 d x (by omega)) hst hw (lv_sub hl [1, 2, 3, 4, 5, 6, 7, 8, 9, 10, 11, 12, 13, 14, 15, 0] rfl)
  · refine lv_aload hx hb dX2_radixSort_345 (lv_at hl 7 rfl) ?_
    refine lv_iload hx hb dX2_radixSort_347 (lv_at hl 16 rfl) ?_
    refine zn_ald hx hb hw 4 (b) rfl (by omega) (by omega) (by omega) dX2_radixSort_349 ?_
    refine zi_const hx hb dX2_radixSort_350 ?_
    refine zi_icmp_le (tgt := 408) hx hb dX2_radixSort_351 (by decide) (by omega) (by omega) (fun c_351 => ?_) (fun c_351 => ?_)
    · refine lv_iload hx hb dX2_radixSort_408 (lv_at hl 15 rfl) ?_
      refine lv_aload hx hb dX2_radixSort_410 (lv_at hl 7 rfl) ?_
      refine lv_iload hx hb dX2_radixSort_412 (lv_at hl 16 rfl) ?_
      refine zn_ald hx hb hw 4 (b) rfl (by omega) (by omega) (by omega) dX2_radixSort_414 ?_
      refine zi_add (r := ((zS (zcn F L fs (fs + len)) fs (b + 1) : Nat) : Int)) hx hb dX2_radixSort_415 (by omega) ?_
      refine lv_istore (lv' := [(16, .int (zi (((zS (zcn F L fs (fs + len)) fs (b + 1) : Nat) : Int)))), (0, .ref h0), (1, .int (zi (((lo : Nat) : Int)))), (2, .int (zi (((hi : Nat) : Int)))), (3, .int (zi (((sp : Nat) : Int)))), (4, .ref k4), (5, .ref k5), (6, .ref k6), (7, .ref k7), (8, .ref k8), (9, .int (zi (((fs : Nat) : Int)))), (10, .int (zi (((len : Nat) : Int)))), (11, .int (zi (((L : Nat) : Int)))), (12, .int (zi (sm))), (13, .int (zi (sh))), (15, .int (zi (z15))), (17, .int (zi (((b : Nat) : Int))))]) hx hb dX2_radixSort_416 hl (by decide) rfl (fun ls hl => ?_)
      refine lv_aload hx hb dX2_radixSort_418 (lv_at hl 8 rfl) ?_
      refine lv_iload hx hb dX2_radixSort_420 (lv_at hl 16 rfl) ?_
      refine zi_const hx hb dX2_radixSort_422 ?_
      refine zn_ast (ws' := [zL h0 dJ n (g), zN k4 dI 1786 (O), zN k5 dI 1786 (Ln), zN k6 dI 1786 (Lv), zN k7 dI 256 (zup (C) (b) (0)), zN k8 dI 256 (PZ)]) hx hb hw 4 (b) rfl (by omega) (by omega) (by omega) dX2_radixSort_423 rfl (fun H locs hw => ?_)
      refine lv_goto (tgt := 243) hx hb dX2_radixSort_424 (by decide) ?_
      exact kk (b + 1) (g) (zup (C) (b) (0)) PZ sp ps pl (O) (Ln) (Lv) _ _ H locs ls (by omega) (by omega) (by omega) (by omega) hI (zr_Tadd hT (zr_one hO9 hI hb9 (by omega))) (fun d x y => by
          by_cases q : d = b
          · rw [q, zup_s]
          · rw [zup_n q]
            exact hC0 d x (by omega)) (fun d x y => by
          rw [zup_n (by omega)]
          exact hC1 d x (by omega)) hst hw (lv_sub hl [1, 2, 3, 4, 5, 6, 7, 8, 9, 10, 11, 12, 13, 14, 15, 0] rfl)
    · refine lv_aload hx hb dX2_radixSort_354 (lv_at hl 7 rfl) ?_
      refine lv_iload hx hb dX2_radixSort_356 (lv_at hl 16 rfl) ?_
      refine zn_ald hx hb hw 4 (b) rfl (by omega) (by omega) (by omega) dX2_radixSort_358 ?_
      refine lv_sipush (v := zi (1024)) hx hb dX2_radixSort_359 (by decide +kernel) ?_
      refine zi_icmp_ge (tgt := 382) hx hb dX2_radixSort_362 (by decide) (by omega) (by omega) (fun c_362 => ?_) (fun c_362 => ?_)
      · have hsp0 : sp = 0 := zr_T1 hfe (by omega) hb9 hT (by omega)
        subst hsp0
        refine lv_aload hx hb dX2_radixSort_382 (lv_at hl 4 rfl) ?_
        refine lv_iload_n hx hb dX2_radixSort_384 rfl (lv_at hl 3 rfl) ?_
        refine lv_iload hx hb dX2_radixSort_385 (lv_at hl 15 rfl) ?_
        refine zn_ast (ws' := [zL h0 dJ n (g), zN k4 dI 1786 (zup (O) (0) (((i : Nat) : Int))), zN k5 dI 1786 (Ln), zN k6 dI 1786 (Lv), zN k7 dI 256 (C), zN k8 dI 256 (PZ)]) hx hb hw 1 (0) rfl (by omega) (by omega) (by omega) dX2_radixSort_387 rfl (fun H locs hw => ?_)
        refine lv_aload hx hb dX2_radixSort_388 (lv_at hl 5 rfl) ?_
        refine lv_iload_n hx hb dX2_radixSort_390 rfl (lv_at hl 3 rfl) ?_
        refine lv_aload hx hb dX2_radixSort_391 (lv_at hl 7 rfl) ?_
        refine lv_iload hx hb dX2_radixSort_393 (lv_at hl 16 rfl) ?_
        refine zn_ald hx hb hw 4 (b) rfl (by omega) (by omega) (by omega) dX2_radixSort_395 ?_
        refine zn_ast (ws' := [zL h0 dJ n (g), zN k4 dI 1786 (zup (O) (0) (((i : Nat) : Int))), zN k5 dI 1786 (zup (Ln) (0) ((C) (b))), zN k6 dI 1786 (Lv), zN k7 dI 256 (C), zN k8 dI 256 (PZ)]) hx hb hw 2 (0) rfl (by omega) (by omega) (by omega) dX2_radixSort_396 rfl (fun H locs hw => ?_)
        refine lv_aload hx hb dX2_radixSort_397 (lv_at hl 6 rfl) ?_
        refine lv_iload_n hx hb dX2_radixSort_399 rfl (lv_at hl 3 rfl) ?_
        refine zi_inc (v := 1) (k := 3) (lv' := [(3, .int (zi (1))), (0, .ref h0), (1, .int (zi (((lo : Nat) : Int)))), (2, .int (zi (((hi : Nat) : Int)))), (4, .ref k4), (5, .ref k5), (6, .ref k6), (7, .ref k7), (8, .ref k8), (9, .int (zi (((fs : Nat) : Int)))), (10, .int (zi (((len : Nat) : Int)))), (11, .int (zi (((L : Nat) : Int)))), (12, .int (zi (sm))), (13, .int (zi (sh))), (15, .int (zi (z15))), (16, .int (zi (((i : Nat) : Int)))), (17, .int (zi (((b : Nat) : Int))))]) hx hb dX2_radixSort_400 hl rfl (by omega) (by decide) rfl (fun ls hl => ?_)
        refine lv_iload hx hb dX2_radixSort_403 (lv_at hl 11 rfl) ?_
        refine zi_const hx hb dX2_radixSort_405 ?_
        refine zi_add (r := ((L + 1 : Nat) : Int)) hx hb dX2_radixSort_406 (by omega) ?_
        refine zn_ast (ws' := [zL h0 dJ n (g), zN k4 dI 1786 (zup (O) (0) (((i : Nat) : Int))), zN k5 dI 1786 (zup (Ln) (0) ((C) (b))), zN k6 dI 1786 (zup (Lv) (0) (((L + 1 : Nat) : Int))), zN k7 dI 256 (C), zN k8 dI 256 (PZ)]) hx hb hw 3 (0) rfl (by omega) (by omega) (by omega) dX2_radixSort_407 rfl (fun H locs hw => ?_)
        refine lv_iload hx hb dX2_radixSort_408 (lv_at hl 15 rfl) ?_
        refine lv_aload hx hb dX2_radixSort_410 (lv_at hl 7 rfl) ?_
        refine lv_iload hx hb dX2_radixSort_412 (lv_at hl 16 rfl) ?_
        refine zn_ald hx hb hw 4 (b) rfl (by omega) (by omega) (by omega) dX2_radixSort_414 ?_
        refine zi_add (r := ((zS (zcn F L fs (fs + len)) fs (b + 1) : Nat) : Int)) hx hb dX2_radixSort_415 (by omega) ?_
        refine lv_istore (lv' := [(16, .int (zi (((zS (zcn F L fs (fs + len)) fs (b + 1) : Nat) : Int)))), (3, .int (zi (1))), (0, .ref h0), (1, .int (zi (((lo : Nat) : Int)))), (2, .int (zi (((hi : Nat) : Int)))), (4, .ref k4), (5, .ref k5), (6, .ref k6), (7, .ref k7), (8, .ref k8), (9, .int (zi (((fs : Nat) : Int)))), (10, .int (zi (((len : Nat) : Int)))), (11, .int (zi (((L : Nat) : Int)))), (12, .int (zi (sm))), (13, .int (zi (sh))), (15, .int (zi (z15))), (17, .int (zi (((b : Nat) : Int))))]) hx hb dX2_radixSort_416 hl (by decide) rfl (fun ls hl => ?_)
        refine lv_aload hx hb dX2_radixSort_418 (lv_at hl 8 rfl) ?_
        refine lv_iload hx hb dX2_radixSort_420 (lv_at hl 16 rfl) ?_
        refine zi_const hx hb dX2_radixSort_422 ?_
        refine zn_ast (ws' := [zL h0 dJ n (g), zN k4 dI 1786 (zup (O) (0) (((i : Nat) : Int))), zN k5 dI 1786 (zup (Ln) (0) ((C) (b))), zN k6 dI 1786 (zup (Lv) (0) (((L + 1 : Nat) : Int))), zN k7 dI 256 (zup (C) (b) (0)), zN k8 dI 256 (PZ)]) hx hb hw 4 (b) rfl (by omega) (by omega) (by omega) dX2_radixSort_423 rfl (fun H locs hw => ?_)
        refine lv_goto (tgt := 243) hx hb dX2_radixSort_424 (by decide) ?_
        exact kk (b + 1) (g) (zup (C) (b) (0)) PZ 1 (zS (zcn F L fs (fs + len)) fs b) (zcn F L fs (fs + len) b) (zup (O) (0) (((i : Nat) : Int))) (zup (Ln) (0) ((C) (b))) (zup (Lv) (0) (((L + 1 : Nat) : Int))) _ _ H locs ls (by omega) (by omega) (by omega) (by omega) hI (zr_Tpush hT (by omega)) (fun d x y => by
            by_cases q : d = b
            · rw [q, zup_s]
            · rw [zup_n q]
              exact hC0 d x (by omega)) (fun d x y => by
            rw [zup_n (by omega)]
            exact hC1 d x (by omega)) (fun _ => ⟨by rw [zup_s, hib], by rw [zup_s, hCb], zup_s, by omega⟩) hw (lv_sub hl [2, 3, 4, 1, 5, 6, 7, 8, 9, 10, 11, 12, 13, 14, 15, 0] rfl)
      · refine lv_aload_n hx hb dX2_radixSort_365 rfl (lv_at hl 0 rfl) ?_
        refine lv_iload hx hb dX2_radixSort_366 (lv_at hl 15 rfl) ?_
        refine lv_iload hx hb dX2_radixSort_368 (lv_at hl 15 rfl) ?_
        refine lv_aload hx hb dX2_radixSort_370 (lv_at hl 7 rfl) ?_
        refine lv_iload hx hb dX2_radixSort_372 (lv_at hl 16 rfl) ?_
        refine zn_ald hx hb hw 4 (b) rfl (by omega) (by omega) (by omega) dX2_radixSort_374 ?_
        refine zi_add (r := ((i + zcn F L fs (fs + len) b : Nat) : Int)) hx hb dX2_radixSort_375 (by omega) ?_
        refine z_callv (wr := [zN k4 dI 1786 (O), zN k5 dI 1786 (Ln), zN k6 dI 1786 (Lv), zN k7 dI 256 (C), zN k8 dI 256 (PZ)]) (wo := (fun u : Nat → Int64 => [zL h0 dJ n (u), zN k4 dI 1786 (O), zN k5 dI 1786 (Ln), zN k6 dI 1786 (Lv), zN k7 dI 256 (C), zN k8 dI 256 (PZ)])) (z_runS (n := 3) (rest := []) S (met_quick l D dJ dI 1024 h0 n (g) (((i : Nat) : Int)) (((i + zcn F L fs (fs + len) b : Nat) : Int)) i (i + zcn F L fs (fs + len) b) (by omega) (by omega) (by omega) (by omega) (by omega) (by omega)) (lw_S q44 q24 q4 q25) rfl rfl (by decide +kernel) ⟨Nat.le_of_ble_eq_true rfl, Nat.le_of_ble_eq_true rfl⟩ hw [0] rfl rfl rfl hl.1 rfl (Nat.le_of_ble_eq_true rfl) dX2_radixSort_376 ⟨Nat.le_of_ble_eq_true rfl, Nat.le_of_ble_eq_true rfl⟩) hw [0] [1, 2, 3, 4, 5] rfl rfl rfl (by decide) [5, 0, 1, 2, 3, 4] rfl (fun _ => rfl) (fun u H locs hp hw => ?_)
        refine lv_goto (tgt := 408) hx hb dX2_radixSort_379 (by decide) ?_
        refine lv_iload hx hb dX2_radixSort_408 (lv_at hl 15 rfl) ?_
        refine lv_aload hx hb dX2_radixSort_410 (lv_at hl 7 rfl) ?_
        refine lv_iload hx hb dX2_radixSort_412 (lv_at hl 16 rfl) ?_
        refine zn_ald hx hb hw 4 (b) rfl (by omega) (by omega) (by omega) dX2_radixSort_414 ?_
        refine zi_add (r := ((zS (zcn F L fs (fs + len)) fs (b + 1) : Nat) : Int)) hx hb dX2_radixSort_415 (by omega) ?_
        refine lv_istore (lv' := [(16, .int (zi (((zS (zcn F L fs (fs + len)) fs (b + 1) : Nat) : Int)))), (0, .ref h0), (1, .int (zi (((lo : Nat) : Int)))), (2, .int (zi (((hi : Nat) : Int)))), (3, .int (zi (((sp : Nat) : Int)))), (4, .ref k4), (5, .ref k5), (6, .ref k6), (7, .ref k7), (8, .ref k8), (9, .int (zi (((fs : Nat) : Int)))), (10, .int (zi (((len : Nat) : Int)))), (11, .int (zi (((L : Nat) : Int)))), (12, .int (zi (sm))), (13, .int (zi (sh))), (15, .int (zi (z15))), (17, .int (zi (((b : Nat) : Int))))]) hx hb dX2_radixSort_416 hl (by decide) rfl (fun ls hl => ?_)
        refine lv_aload hx hb dX2_radixSort_418 (lv_at hl 8 rfl) ?_
        refine lv_iload hx hb dX2_radixSort_420 (lv_at hl 16 rfl) ?_
        refine zi_const hx hb dX2_radixSort_422 ?_
        refine zn_ast (ws' := [zL h0 dJ n (u), zN k4 dI 1786 (O), zN k5 dI 1786 (Ln), zN k6 dI 1786 (Lv), zN k7 dI 256 (zup (C) (b) (0)), zN k8 dI 256 (PZ)]) hx hb hw 4 (b) rfl (by omega) (by omega) (by omega) dX2_radixSort_423 rfl (fun H locs hw => ?_)
        refine lv_goto (tgt := 243) hx hb dX2_radixSort_424 (by decide) ?_
        exact kk (b + 1) (u) (zup (C) (b) (0)) PZ sp ps pl (O) (Ln) (Lv) _ _ H locs ls (by omega) (by omega) (by omega) (by omega) (zr_srt hfe hI hb9 (by rw [hSb, ← hib]; exact hp.1)) (zr_Tadd (zr_Tkeep hT (fun j q => hp.1.1 j (Or.inl (by omega)))) (by rw [hSb, ← hib]; exact hp.2)) (fun d x y => by
            by_cases q : d = b
            · rw [q, zup_s]
            · rw [zup_n q]
              exact hC0 d x (by omega)) (fun d x y => by
            rw [zup_n (by omega)]
            exact hC1 d x (by omega)) hst hw (lv_sub hl [1, 2, 3, 4, 5, 6, 7, 8, 9, 10, 11, 12, 13, 14, 15, 0] rfl)
set_option maxHeartbeats 4000000 in
set_option maxRecDepth 100000 in
/-- bucket after bucket -/
theorem lp_r4 {fs len L lu : Nat} {sm sh : Int} {f F : Nat → Int64} (S : CallFix p m c cX2_radixSort 23 s args lw_all RX2) (hn : n < 1073741824) (hin : hi ≤ n) (hL : L ≤ 7) (hsm : (L = 0 ∧ sm = 128) ∨ (L ≠ 0 ∧ sm = 0)) (hsh : sh = ((56 - 8 * L : Nat) : Int)) (hO9 : zr_O f F lo hi 1 fs len L) (hfl : fs + len ≤ hi) (hfe : fs ≤ fs + len) (hl9 : len < 2048) (hlu : lu < 256) (hBlu : 0 < zcn F L fs (fs + len) lu) (hz : ∀ d, lu < d → d < 256 → zcn F L fs (fs + len) d = 0) (kx : ∀ (g : Nat → Int64) (C PZ : Nat → Int) (sp ps pl : Nat) (O Ln Lv : Nat → Int) (H : Heap) (locs : List Loc) (ls : Array Slot), zr_I F g L fs (fs + len) 256 PZ → zr_T g (zcn F L fs (fs + len)) fs 256 sp ps pl → (∀ d, d < 256 → C d = 0) → (sp = 1 → O 0 = ((ps : Nat) : Int) ∧ Ln 0 = ((pl : Nat) : Int) ∧ Lv 0 = ((L + 1 : Nat) : Int) ∧ L < 7) → zW D dJ dI A s [zL h0 dJ n (g), zN k4 dI 1786 (O), zN k5 dI 1786 (Ln), zN k6 dI 1786 (Lv), zN k7 dI 256 (C), zN k8 dI 256 (PZ)] H locs → lv_has ls 23 [(0, .ref h0), (1, .int (zi (((lo : Nat) : Int)))), (2, .int (zi (((hi : Nat) : Int)))), (3, .int (zi (((sp : Nat) : Int)))), (4, .ref k4), (5, .ref k5), (6, .ref k6), (7, .ref k7), (8, .ref k8)] → W p l e (zRm 1027 5 5870 33874) s m args below meth c H locs 5 5870 Q (F0 m 427 ls [])) :
    ∀ (N : Nat) (b : Nat) (g : Nat → Int64) (C PZ : Nat → Int) (sp ps pl : Nat) (O Ln Lv : Nat → Int) (z3 z16 : Int) (H : Heap) (locs : List Loc) (ls : Array Slot), 256 < b + N → b ≤ 256 → z3 = ((sp : Nat) : Int) → z16 = ((zS (zcn F L fs (fs + len)) fs b : Nat) : Int) → zr_I F g L fs (fs + len) b PZ → zr_T g (zcn F L fs (fs + len)) fs b sp ps pl → (∀ d, d < 256 → d < b → C d = 0) → (∀ d, d < 256 → b ≤ d → C d = ((zcn F L fs (fs + len) d : Nat) : Int)) → (sp = 1 → O 0 = ((ps : Nat) : Int) ∧ Ln 0 = ((pl : Nat) : Int) ∧ Lv 0 = ((L + 1 : Nat) : Int) ∧ L < 7) → zW D dJ dI A s [zL h0 dJ n (g), zN k4 dI 1786 (O), zN k5 dI 1786 (Ln), zN k6 dI 1786 (Lv), zN k7 dI 256 (C), zN k8 dI 256 (PZ)] H locs → lv_has ls 23 [(0, .ref h0), (1, .int (zi (((lo : Nat) : Int)))), (2, .int (zi (((hi : Nat) : Int)))), (3, .int (zi (z3))), (4, .ref k4), (5, .ref k5), (6, .ref k6), (7, .ref k7), (8, .ref k8), (9, .int (zi (((fs : Nat) : Int)))), (10, .int (zi (((len : Nat) : Int)))), (11, .int (zi (((L : Nat) : Int)))), (12, .int (zi (sm))), (13, .int (zi (sh))), (15, .int (zi (((zS (zcn F L fs (fs + len)) fs lu : Nat) : Int)))), (16, .int (zi (z16)))] → W p l e (zRm 1027 5 5870 33874) s m args below meth c H locs 5 5870 Q (F0 m 243 ls []) := by
  obtain ⟨hx, hb, hml, hown, hts⟩ := id S
  have hSlu1 := zS_s (zcn F L fs (fs + len)) fs lu
  have hSlue := zS_le (F := F) (L := L) (d := lu + 1) hfe (by omega)
  intro N
  induction N with
  | zero =>
    intro b g C PZ sp ps pl O Ln Lv z3 z16 H locs ls h1 h2
    exact absurd h1 (by omega)
  | succ N ih =>
    intro b g C PZ sp ps pl O Ln Lv z3 z16 H locs ls hN hb256 e3 e16 hI hT hC0 hC1 hst hw hl
    have hsp := hT.2.1
    have hSbe := zS_le (F := F) (L := L) (d := b) hfe hb256
    refine lv_iload hx hb dX2_radixSort_243 (lv_at hl 15 rfl) ?_
    refine lv_iload hx hb dX2_radixSort_245 (lv_at hl 14 rfl) ?_
    refine zi_icmp_gt (tgt := 427) hx hb dX2_radixSort_247 (by decide) (by omega) (by omega) (fun c_247 => ?_) (fun c_247 => ?_)
    · have e9 : lu < b := by
        rcases Nat.lt_or_ge lu b with q | q
        · exact q
        · have := zS_mono (B := zcn F L fs (fs + len)) (fs := fs) q
          omega
      have hze : ∀ d, b ≤ d → d < 256 → zcn F L fs (fs + len) d = 0 := fun d x y => hz d (by omega) y
      exact kx g C PZ sp ps pl O Ln Lv H locs ls (zr_skip hI hb256 hze) (zr_Tskip hT hb256 hze) (fun d x => by
          rcases Nat.lt_or_ge d b with q | q
          · exact hC0 d x q
          · rw [hC1 d x q, hze d q x]
            rfl) hst hw (by subst e3; exact lv_sub hl [0, 1, 2, 3, 4, 5, 6, 7, 8] rfl)
    · have hblu : b ≤ lu := by
        rcases (show b ≤ lu ∨ lu + 1 ≤ b by omega) with q | q
        · exact q
        · have := zS_mono (B := zcn F L fs (fs + len)) (fs := fs) q
          omega
      have hSlu := zS_mono (B := zcn F L fs (fs + len)) (fs := fs) hblu
      obtain ⟨b1, n1, n2, n3, n4, n5⟩ := zr_next (F := F) (L := L) hfe hb256 (by omega)
      have hb1lu : b1 ≤ lu := by
        rcases Nat.lt_or_ge lu b1 with q | q
        · have := n5 lu hblu q
          omega
        · exact q
      replace hI := zr_skip hI n1 n5
      replace hT := zr_Tskip hT n1 n5
      have hC0b : ∀ d, d < 256 → d < b1 → C d = 0 := fun d x y => by
        rcases Nat.lt_or_ge d b with q | q
        · exact hC0 d x q
        · rw [hC1 d x q, n5 d q y]
          rfl
      have hC1b : ∀ d, d < 256 → b1 ≤ d → C d = ((zcn F L fs (fs + len) d : Nat) : Int) := fun d x y => hC1 d x (by omega)
      obtain ⟨i, hi9⟩ : ∃ i, i = zS (zcn F L fs (fs + len)) fs b1 := ⟨_, rfl⟩
      have e17 : z16 = ((i : Nat) : Int) := by omega
      subst e17
      have hSb1 := zS_s (zcn F L fs (fs + len)) fs b1
      have hSe1 := zS_le (F := F) (L := L) (d := b1 + 1) hfe (by omega)
      have hdg := zdg_lt L (g i)
      subst e3
      refine lv_aload_n hx hb dX2_radixSort_250 rfl (lv_at hl 0 rfl) ?_
      refine lv_iload hx hb dX2_radixSort_251 (lv_at hl 15 rfl) ?_
      refine zl_ald hx hb hw 0 (i) rfl (by omega) (by omega) (by omega) dX2_radixSort_253 ?_
      refine lv_lstore (lv' := [(19, .long ((g) (i))), (0, .ref h0), (1, .int (zi (((lo : Nat) : Int)))), (2, .int (zi (((hi : Nat) : Int)))), (3, .int (zi (((sp : Nat) : Int)))), (4, .ref k4), (5, .ref k5), (6, .ref k6), (7, .ref k7), (8, .ref k8), (9, .int (zi (((fs : Nat) : Int)))), (10, .int (zi (((len : Nat) : Int)))), (11, .int (zi (((L : Nat) : Int)))), (12, .int (zi (sm))), (13, .int (zi (sh))), (15, .int (zi (((zS (zcn F L fs (fs + len)) fs lu : Nat) : Int)))), (16, .int (zi (((i : Nat) : Int))))]) hx hb dX2_radixSort_254 hl (by decide) rfl (fun ls hl => ?_)
      refine lv_lload hx hb dX2_radixSort_256 (lv_at hl 0 rfl) ?_
      refine lv_iload hx hb dX2_radixSort_258 (lv_at hl 14 rfl) ?_
      refine lv_lushr (v := (((g) (i)).toUInt64 >>> ((zi (sh)).toInt64.toUInt64 &&& Int64.toUInt64 63)).toInt64) hx hb dX2_radixSort_260 rfl ?_
      refine lv_ldc2 (v := 255) hx hb hown (hts _ q82) dX2_radixSort_261 ?_
      refine lv_land hx hb dX2_radixSort_264 ?_
      refine lv_iload hx hb dX2_radixSort_265 (lv_at hl 13 rfl) ?_
      refine lv_i2l (v := (zi (sm)).toInt64) hx hb dX2_radixSort_267 rfl ?_
      refine lv_lxor hx hb dX2_radixSort_268 ?_
      refine lv_l2i (v := zi (((zdg L (g i) : Nat) : Int))) hx hb dX2_radixSort_269 (zdg_eq hL hsm hsh _) ?_
      refine lv_istore (lv' := [(17, .int (zi (((zdg L (g i) : Nat) : Int)))), (19, .long ((g) (i))), (0, .ref h0), (1, .int (zi (((lo : Nat) : Int)))), (2, .int (zi (((hi : Nat) : Int)))), (3, .int (zi (((sp : Nat) : Int)))), (4, .ref k4), (5, .ref k5), (6, .ref k6), (7, .ref k7), (8, .ref k8), (9, .int (zi (((fs : Nat) : Int)))), (10, .int (zi (((len : Nat) : Int)))), (11, .int (zi (((L : Nat) : Int)))), (12, .int (zi (sm))), (13, .int (zi (sh))), (15, .int (zi (((zS (zcn F L fs (fs + len)) fs lu : Nat) : Int)))), (16, .int (zi (((i : Nat) : Int))))]) hx hb dX2_radixSort_270 hl (by decide) rfl (fun ls hl => ?_)
      refine lv_iload hx hb dX2_radixSort_272 (lv_at hl 17 rfl) ?_
      refine lv_iload hx hb dX2_radixSort_274 (lv_at hl 16 rfl) ?_
      refine zi_icmp_ge (tgt := 338) hx hb dX2_radixSort_276 (by decide) (by omega) (by omega) (fun c_276 => ?_) (fun c_276 => ?_)
      · obtain ⟨hcb, hI2⟩ := zr_last hfe hI n2 n3 hi9 (fun d x y => by
            rcases Nat.lt_or_ge lu d with q | q
            · exact hz d q y
            · have := zS_mono (B := zcn F L fs (fs + len)) (fs := fs) (show b1 + 1 ≤ lu by omega)
              omega)
        rw [hcb] at hl
        exact lp_r4b (f := f) (F := F) (b := b1) (i := i) S hn hin hL hO9 hfl hfe hl9 n2 hi9 hI2 hT hC0b hC1b hst hw (lv_sub hl [2, 3, 4, 5, 6, 7, 8, 9, 10, 11, 12, 13, 14, 15, 16, 17, 0] rfl) (fun b' g C PZ sp ps pl O Ln Lv z3 z16 H locs ls hbb h1 h2 h3 h4 h5 h6 h7 h8 hw hl => ih b' g C PZ sp ps pl O Ln Lv z3 z16 H locs ls (by omega) h1 h2 h3 h4 h5 h6 h7 h8 hw hl)
      · refine lp_r3 (F := F) (b := b1) (i := i) S hn hin hL hsm hsh hfl hfe n2 n3 hi9 (by omega) (fun g2 t PZ H locs ls hI2 hgk hw hl => ?_) (zsm PZ 256 + 1) g (g i) PZ _ H locs ls (Nat.lt_succ_self _) rfl (by rw [zs_updself]; exact hI) (fun j _ => rfl) hw (lv_sub hl [2, 3, 4, 5, 6, 7, 8, 9, 10, 11, 12, 13, 14, 15, 16, 17, 0, 1] rfl)
        refine lv_aload_n hx hb dX2_radixSort_332 rfl (lv_at hl 0 rfl) ?_
        refine lv_iload hx hb dX2_radixSort_333 (lv_at hl 15 rfl) ?_
        refine lv_lload hx hb dX2_radixSort_335 (lv_at hl 17 rfl) ?_
        refine zl_ast (ws' := [zL h0 dJ n (vp_updL (g2) (i) (t)), zN k4 dI 1786 (O), zN k5 dI 1786 (Ln), zN k6 dI 1786 (Lv), zN k7 dI 256 (C), zN k8 dI 256 (PZ)]) hx hb hw 0 (i) rfl (by omega) (by omega) (by omega) dX2_radixSort_337 rfl (fun H locs hw => ?_)
        exact lp_r4b (f := f) (F := F) (b := b1) (i := i) S hn hin hL hO9 hfl hfe hl9 n2 hi9 hI2 (zr_Tkeep hT (fun j q => by rw [pk_uLn (by omega)]; exact hgk j (by omega))) hC0b hC1b hst hw (lv_sub hl [0, 1, 2, 3, 4, 5, 6, 7, 8, 9, 10, 11, 12, 13, 14, 15, 16] rfl) (fun b' g C PZ sp ps pl O Ln Lv z3 z16 H locs ls hbb h1 h2 h3 h4 h5 h6 h7 h8 hw hl => ih b' g C PZ sp ps pl O Ln Lv z3 z16 H locs ls (by omega) h1 h2 h3 h4 h5 h6 h7 h8 hw hl)
end ZRX
end
section
/-! LongArrays.radixSort: the passes, the method. Printed by gen/m14.py -/
set_option maxRecDepth 100000
section ZRX
variable {p : Program} {l : Launch} {e : Env} {s : State} {m : MethodId} {args : Array Value} {below : List Frame} {meth : Method} {c : Code} {Q : State → Prop} {D : va_G} {dJ dI : ClassId} {A : Nat → Prop}
variable {h0 n lo hi k4 k5 k6 k7 k8 : Nat}
set_option maxHeartbeats 4000000 in
set_option maxRecDepth 100000 in
/-- one pass, from 115 on -/
theorem lp_r5b {fs len L : Nat} {sm : Int} {f g : Nat → Int64} {O Ln Lv C PZ : Nat → Int} {H : Heap} {locs : List Loc} {ls : Array Slot} (S : CallFix p m c cX2_radixSort 23 s args lw_all RX2) (hn : n < 1073741824) (hin : hi ≤ n) (hL : L ≤ 7) (hsm : (L = 0 ∧ sm = 128) ∨ (L ≠ 0 ∧ sm = 0)) (hO : zr_O f g lo hi 1 fs len L) (hfl : fs + len ≤ hi) (hlen : 1024 ≤ len) (hl9 : len < 2048) (hC0 : ∀ d, d < 256 → C d = 0) (hw : zW D dJ dI A s [zL h0 dJ n (g), zN k4 dI 1786 (O), zN k5 dI 1786 (Ln), zN k6 dI 1786 (Lv), zN k7 dI 256 (C), zN k8 dI 256 (PZ)] H locs) (hl : lv_has ls 23 [(0, .ref h0), (1, .int (zi (((lo : Nat) : Int)))), (2, .int (zi (((hi : Nat) : Int)))), (3, .int (zi (0))), (4, .ref k4), (5, .ref k5), (6, .ref k6), (7, .ref k7), (8, .ref k8), (9, .int (zi (((fs : Nat) : Int)))), (10, .int (zi (((len : Nat) : Int)))), (11, .int (zi (((L : Nat) : Int)))), (12, .int (zi (sm)))]) (kk : ∀ (g : Nat → Int64) (sp ps pl : Nat) (O Ln Lv C PZ : Nat → Int) (H : Heap) (locs : List Loc) (ls : Array Slot), zr_O f g lo hi sp ps pl (L + 1) → (∀ d, d < 256 → C d = 0) → (sp = 1 → O 0 = ((ps : Nat) : Int) ∧ Ln 0 = ((pl : Nat) : Int) ∧ Lv 0 = ((L + 1 : Nat) : Int)) → zW D dJ dI A s [zL h0 dJ n (g), zN k4 dI 1786 (O), zN k5 dI 1786 (Ln), zN k6 dI 1786 (Lv), zN k7 dI 256 (C), zN k8 dI 256 (PZ)] H locs → lv_has ls 23 [(0, .ref h0), (1, .int (zi (((lo : Nat) : Int)))), (2, .int (zi (((hi : Nat) : Int)))), (3, .int (zi (((sp : Nat) : Int)))), (4, .ref k4), (5, .ref k5), (6, .ref k6), (7, .ref k7), (8, .ref k8)] → W p l e (zRm 1027 5 5870 33874) s m args below meth c H locs 5 5870 Q (F0 m 73 ls [])) : W p l e (zRm 1027 5 5870 33874) s m args below meth c H locs 5 5870 Q (F0 m 115 ls []) := by
  obtain ⟨hx, hb, hml, hown, hts⟩ := id S
  refine lv_bipush (v := zi (7)) hx hb dX2_radixSort_115 (by decide +kernel) ?_
  refine lv_iload hx hb dX2_radixSort_117 (lv_at hl 11 rfl) ?_
  refine lv_bipush (v := zi (8)) hx hb dX2_radixSort_119 (by decide +kernel) ?_
  refine zi_remN (a := L) (b := 8) hx hb dX2_radixSort_121 (by omega) (by omega) (by omega) (by omega) (by omega) ?_
  refine zi_sub (r := ((7 - L % 8 : Nat) : Int)) hx hb dX2_radixSort_122 (by omega) ?_
  refine lv_bipush (v := zi (8)) hx hb dX2_radixSort_123 (by decide +kernel) ?_
  refine zi_mul (r := ((56 - 8 * L : Nat) : Int)) hx hb dX2_radixSort_125 (by omega) ?_
  refine lv_istore (lv' := [(13, .int (zi (((56 - 8 * L : Nat) : Int)))), (0, .ref h0), (1, .int (zi (((lo : Nat) : Int)))), (2, .int (zi (((hi : Nat) : Int)))), (3, .int (zi (0))), (4, .ref k4), (5, .ref k5), (6, .ref k6), (7, .ref k7), (8, .ref k8), (9, .int (zi (((fs : Nat) : Int)))), (10, .int (zi (((len : Nat) : Int)))), (11, .int (zi (((L : Nat) : Int)))), (12, .int (zi (sm)))]) hx hb dX2_radixSort_126 hl (by decide) rfl (fun ls hl => ?_)
  refine lv_iload hx hb dX2_radixSort_128 (lv_at hl 10 rfl) ?_
  refine lv_iload hx hb dX2_radixSort_130 (lv_at hl 11 rfl) ?_
  refine zi_add (r := ((fs + len : Nat) : Int)) hx hb dX2_radixSort_132 (by omega) ?_
  refine lv_istore (lv' := [(14, .int (zi (((fs + len : Nat) : Int)))), (13, .int (zi (((56 - 8 * L : Nat) : Int)))), (0, .ref h0), (1, .int (zi (((lo : Nat) : Int)))), (2, .int (zi (((hi : Nat) : Int)))), (3, .int (zi (0))), (4, .ref k4), (5, .ref k5), (6, .ref k6), (7, .ref k7), (8, .ref k8), (9, .int (zi (((fs : Nat) : Int)))), (10, .int (zi (((len : Nat) : Int)))), (11, .int (zi (((L : Nat) : Int)))), (12, .int (zi (sm)))]) hx hb dX2_radixSort_133 hl (by decide) rfl (fun ls hl => ?_)
  refine lp_r1 (fs := fs) (len := len) (L := L) (g := g) S hn hin hL hsm rfl hfl (fun C H locs ls hC hw hl => ?_) (len + 1) (fs + len) C _ H locs ls (by omega) (by omega) (by omega) rfl (fun d x => by rw [hC0 d x, zcn_0]; rfl) hw (lv_sub hl [2, 3, 4, 5, 6, 7, 8, 9, 10, 11, 12, 13, 14, 1, 0] rfl)
  refine zi_const hx hb dX2_radixSort_171 ?_
  refine lv_istore (lv' := [(14, .int (zi ((-1)))), (0, .ref h0), (1, .int (zi (((lo : Nat) : Int)))), (2, .int (zi (((hi : Nat) : Int)))), (3, .int (zi (0))), (4, .ref k4), (5, .ref k5), (6, .ref k6), (7, .ref k7), (8, .ref k8), (9, .int (zi (((fs : Nat) : Int)))), (10, .int (zi (((len : Nat) : Int)))), (11, .int (zi (((L : Nat) : Int)))), (12, .int (zi (sm))), (13, .int (zi (((56 - 8 * L : Nat) : Int))))]) hx hb dX2_radixSort_172 hl (by decide) rfl (fun ls hl => ?_)
  refine zi_const hx hb dX2_radixSort_174 ?_
  refine lv_istore (lv' := [(15, .int (zi (0))), (14, .int (zi ((-1)))), (0, .ref h0), (1, .int (zi (((lo : Nat) : Int)))), (2, .int (zi (((hi : Nat) : Int)))), (3, .int (zi (0))), (4, .ref k4), (5, .ref k5), (6, .ref k6), (7, .ref k7), (8, .ref k8), (9, .int (zi (((fs : Nat) : Int)))), (10, .int (zi (((len : Nat) : Int)))), (11, .int (zi (((L : Nat) : Int)))), (12, .int (zi (sm))), (13, .int (zi (((56 - 8 * L : Nat) : Int))))]) hx hb dX2_radixSort_175 hl (by decide) rfl (fun ls hl => ?_)
  refine lv_iload hx hb dX2_radixSort_177 (lv_at hl 11 rfl) ?_
  refine lv_istore (lv' := [(16, .int (zi (((fs : Nat) : Int)))), (15, .int (zi (0))), (14, .int (zi ((-1)))), (0, .ref h0), (1, .int (zi (((lo : Nat) : Int)))), (2, .int (zi (((hi : Nat) : Int)))), (3, .int (zi (0))), (4, .ref k4), (5, .ref k5), (6, .ref k6), (7, .ref k7), (8, .ref k8), (9, .int (zi (((fs : Nat) : Int)))), (10, .int (zi (((len : Nat) : Int)))), (11, .int (zi (((L : Nat) : Int)))), (12, .int (zi (sm))), (13, .int (zi (((56 - 8 * L : Nat) : Int))))]) hx hb dX2_radixSort_179 hl (by decide) rfl (fun ls hl => ?_)
  refine lp_r2 (fs := fs) (len := len) (L := L) (g := g) S hn hin hL hfl hlen hC (fun lu PZ H locs ls hlu hBlu hz hP hw hl => ?_) 257 0 (-1) PZ _ _ H locs ls (by omega) (by omega) (by omega) rfl (Or.inl ⟨rfl, fun d x => absurd x (Nat.not_lt_zero _)⟩) (fun d x => absurd x (Nat.not_lt_zero _)) hw (lv_sub hl [3, 4, 5, 6, 7, 8, 9, 10, 11, 12, 13, 14, 15, 16, 2, 1, 0] rfl)
  have hClu := hC lu hlu
  have hBll := zcn_le (F := g) (L := L) (d := lu) (show fs ≤ fs + len by omega)
  have hSs := zS_s (zcn g L fs (fs + len)) fs lu
  have hSa := zS_all (F := g) (L := L) (fs := fs) (fs + len) (by omega)
  have hSc := zS_const (B := zcn g L fs (fs + len)) (fs := fs) (a := lu + 1) (b := 256) (by omega) (fun d x y => hz d (by omega) y)
  refine lv_iload hx hb dX2_radixSort_223 (lv_at hl 9 rfl) ?_
  refine lv_iload hx hb dX2_radixSort_225 (lv_at hl 10 rfl) ?_
  refine zi_add (r := ((fs + len : Nat) : Int)) hx hb dX2_radixSort_227 (by omega) ?_
  refine lv_aload hx hb dX2_radixSort_228 (lv_at hl 7 rfl) ?_
  refine lv_iload hx hb dX2_radixSort_230 (lv_at hl 14 rfl) ?_
  refine zn_ald hx hb hw 4 (lu) rfl (by omega) (by omega) (by omega) dX2_radixSort_232 ?_
  refine zi_sub (r := ((zS (zcn g L fs (fs + len)) fs lu : Nat) : Int)) hx hb dX2_radixSort_233 (by omega) ?_
  refine lv_istore (lv' := [(15, .int (zi (((zS (zcn g L fs (fs + len)) fs lu : Nat) : Int)))), (0, .ref h0), (1, .int (zi (((lo : Nat) : Int)))), (2, .int (zi (((hi : Nat) : Int)))), (3, .int (zi (0))), (4, .ref k4), (5, .ref k5), (6, .ref k6), (7, .ref k7), (8, .ref k8), (9, .int (zi (((fs : Nat) : Int)))), (10, .int (zi (((len : Nat) : Int)))), (11, .int (zi (((L : Nat) : Int)))), (12, .int (zi (sm))), (13, .int (zi (((56 - 8 * L : Nat) : Int)))), (14, .int (zi (((lu : Nat) : Int))))]) hx hb dX2_radixSort_234 hl (by decide) rfl (fun ls hl => ?_)
  refine lv_iload hx hb dX2_radixSort_236 (lv_at hl 10 rfl) ?_
  refine lv_istore (lv' := [(16, .int (zi (((fs : Nat) : Int)))), (15, .int (zi (((zS (zcn g L fs (fs + len)) fs lu : Nat) : Int)))), (0, .ref h0), (1, .int (zi (((lo : Nat) : Int)))), (2, .int (zi (((hi : Nat) : Int)))), (3, .int (zi (0))), (4, .ref k4), (5, .ref k5), (6, .ref k6), (7, .ref k7), (8, .ref k8), (9, .int (zi (((fs : Nat) : Int)))), (10, .int (zi (((len : Nat) : Int)))), (11, .int (zi (((L : Nat) : Int)))), (12, .int (zi (sm))), (13, .int (zi (((56 - 8 * L : Nat) : Int)))), (14, .int (zi (((lu : Nat) : Int))))]) hx hb dX2_radixSort_238 hl (by decide) rfl (fun ls hl => ?_)
  refine zi_const hx hb dX2_radixSort_240 ?_
  refine lv_istore (lv' := [(17, .int (zi ((-1)))), (16, .int (zi (((fs : Nat) : Int)))), (15, .int (zi (((zS (zcn g L fs (fs + len)) fs lu : Nat) : Int)))), (0, .ref h0), (1, .int (zi (((lo : Nat) : Int)))), (2, .int (zi (((hi : Nat) : Int)))), (3, .int (zi (0))), (4, .ref k4), (5, .ref k5), (6, .ref k6), (7, .ref k7), (8, .ref k8), (9, .int (zi (((fs : Nat) : Int)))), (10, .int (zi (((len : Nat) : Int)))), (11, .int (zi (((L : Nat) : Int)))), (12, .int (zi (sm))), (13, .int (zi (((56 - 8 * L : Nat) : Int)))), (14, .int (zi (((lu : Nat) : Int))))]) hx hb dX2_radixSort_241 hl (by decide) rfl (fun ls hl => ?_)
  refine lp_r4 (f := f) (F := g) (lu := lu) (fs := fs) (len := len) (L := L) S hn hin hL hsm rfl hO hfl (by omega) (by omega) hlu hBlu hz (fun g2 C PZ sp ps pl O Ln Lv H locs ls hI hT hC0 hst hw hl => ?_) 257 0 g C PZ 0 0 0 O Ln Lv _ _ H locs ls (by omega) (by omega) rfl rfl (zr_I0 hP) zr_T0 (fun d _ x => absurd x (Nat.not_lt_zero _)) (fun d x _ => hC d x) (fun q => absurd q (by omega)) hw (lv_sub hl [3, 4, 5, 6, 7, 8, 9, 10, 11, 12, 13, 14, 15, 16, 2, 1] rfl)
  refine lv_goto (tgt := 73) hx hb dX2_radixSort_427 (by decide) ?_
  exact kk g2 sp ps pl O Ln Lv C PZ H locs ls (zr_pass hO hI hT (fun q => (hst q).2.2.2)) hC0 (fun q => ⟨(hst q).1, (hst q).2.1, (hst q).2.2.1⟩) hw (lv_sub hl [0, 1, 2, 3, 4, 5, 6, 7, 8] rfl)
set_option maxHeartbeats 4000000 in
set_option maxRecDepth 100000 in
/-- pass after pass -/
theorem lp_r5 {f : Nat → Int64} (S : CallFix p m c cX2_radixSort 23 s args lw_all RX2) (hn : n < 1073741824) (hin : hi ≤ n) (hl9 : hi - lo < 2048) (kx : ∀ (g : Nat → Int64) (O Ln Lv C PZ : Nat → Int) (H : Heap) (locs : List Loc) (ls : Array Slot), zs_pm f g lo hi → zs_srt g lo hi → zW D dJ dI A s [zL h0 dJ n (g), zN k4 dI 1786 (O), zN k5 dI 1786 (Ln), zN k6 dI 1786 (Lv), zN k7 dI 256 (C), zN k8 dI 256 (PZ)] H locs → W p l e (zRm 1027 5 5870 33874) s m args below meth c H locs 5 5870 Q (F0 m 430 ls [])) :
    ∀ (N L : Nat) (g : Nat → Int64) (sp fs len : Nat) (O Ln Lv C PZ : Nat → Int) (z3 : Int) (H : Heap) (locs : List Loc) (ls : Array Slot), 9 < L + N → z3 = ((sp : Nat) : Int) → zr_O f g lo hi sp fs len L → (∀ d, d < 256 → C d = 0) → (sp = 1 → O 0 = ((fs : Nat) : Int) ∧ Ln 0 = ((len : Nat) : Int) ∧ Lv 0 = ((L : Nat) : Int)) → zW D dJ dI A s [zL h0 dJ n (g), zN k4 dI 1786 (O), zN k5 dI 1786 (Ln), zN k6 dI 1786 (Lv), zN k7 dI 256 (C), zN k8 dI 256 (PZ)] H locs → lv_has ls 23 [(0, .ref h0), (1, .int (zi (((lo : Nat) : Int)))), (2, .int (zi (((hi : Nat) : Int)))), (3, .int (zi (z3))), (4, .ref k4), (5, .ref k5), (6, .ref k6), (7, .ref k7), (8, .ref k8)] → W p l e (zRm 1027 5 5870 33874) s m args below meth c H locs 5 5870 Q (F0 m 73 ls []) := by
  obtain ⟨hx, hb, hml, hown, hts⟩ := id S
  intro N
  induction N with
  | zero =>
    intro L g sp fs len O Ln Lv C PZ z3 H locs ls h1 h2 hO hC0 hst hw hl
    subst h2
    have hsp : sp = 0 := by
      have h3 := hO.2.2.2
      rcases (show sp = 0 ∨ sp = 1 by omega) with q | q
      · exact q
      · have := (hO.2.2.1 q).2.2.2.1
        omega
    subst hsp
    refine lv_iload_n hx hb dX2_radixSort_73 rfl (lv_at hl 3 rfl) ?_
    refine zi_if_le (tgt := 430) hx hb dX2_radixSort_74 (by decide) (by omega) (fun c_74 => ?_) (fun c_74 => ?_)
    · obtain ⟨q1, q2⟩ := zr_O_end hO
      exact kx g O Ln Lv C PZ H locs ls q1 q2 hw
    · exact absurd c_74 (by omega)
  | succ N ih =>
    intro L g sp fs len O Ln Lv C PZ z3 H locs ls hN e3 hO hC0 hst hw hl
    subst e3
    have hsp9 := hO.2.2.2
    refine lv_iload_n hx hb dX2_radixSort_73 rfl (lv_at hl 3 rfl) ?_
    refine zi_if_le (tgt := 430) hx hb dX2_radixSort_74 (by decide) (by omega) (fun c_74 => ?_) (fun c_74 => ?_)
    · have hsp0 : sp = 0 := by omega
      rw [hsp0] at hO
      obtain ⟨q1, q2⟩ := zr_O_end hO
      exact kx g O Ln Lv C PZ H locs ls q1 q2 hw
    · have hsp1 : sp = 1 := by omega
      subst hsp1
      obtain ⟨hO0, hLn0, hLv0⟩ := hst rfl
      obtain ⟨s1, s2, s3, s4, -⟩ := hO.2.2.1 rfl
      refine lv_aload hx hb dX2_radixSort_77 (lv_at hl 4 rfl) ?_
      refine zi_inc (v := 0) (k := 3) (lv' := [(3, .int (zi (0))), (0, .ref h0), (1, .int (zi (((lo : Nat) : Int)))), (2, .int (zi (((hi : Nat) : Int)))), (4, .ref k4), (5, .ref k5), (6, .ref k6), (7, .ref k7), (8, .ref k8)]) hx hb dX2_radixSort_79 hl rfl (by omega) (by decide) rfl (fun ls hl => ?_)
      refine lv_iload_n hx hb dX2_radixSort_82 rfl (lv_at hl 0 rfl) ?_
      refine zn_ald hx hb hw 1 (0) rfl (by omega) (by omega) (by omega) dX2_radixSort_83 ?_
      rw [hO0]
      refine lv_istore (lv' := [(9, .int (zi (((fs : Nat) : Int)))), (3, .int (zi (0))), (0, .ref h0), (1, .int (zi (((lo : Nat) : Int)))), (2, .int (zi (((hi : Nat) : Int)))), (4, .ref k4), (5, .ref k5), (6, .ref k6), (7, .ref k7), (8, .ref k8)]) hx hb dX2_radixSort_84 hl (by decide) rfl (fun ls hl => ?_)
      refine lv_aload hx hb dX2_radixSort_86 (lv_at hl 6 rfl) ?_
      refine lv_iload_n hx hb dX2_radixSort_88 rfl (lv_at hl 1 rfl) ?_
      refine zn_ald hx hb hw 2 (0) rfl (by omega) (by omega) (by omega) dX2_radixSort_89 ?_
      rw [hLn0]
      refine lv_istore (lv' := [(10, .int (zi (((len : Nat) : Int)))), (9, .int (zi (((fs : Nat) : Int)))), (3, .int (zi (0))), (0, .ref h0), (1, .int (zi (((lo : Nat) : Int)))), (2, .int (zi (((hi : Nat) : Int)))), (4, .ref k4), (5, .ref k5), (6, .ref k6), (7, .ref k7), (8, .ref k8)]) hx hb dX2_radixSort_90 hl (by decide) rfl (fun ls hl => ?_)
      refine lv_aload hx hb dX2_radixSort_92 (lv_at hl 8 rfl) ?_
      refine lv_iload_n hx hb dX2_radixSort_94 rfl (lv_at hl 2 rfl) ?_
      refine zn_ald hx hb hw 3 (0) rfl (by omega) (by omega) (by omega) dX2_radixSort_95 ?_
      rw [hLv0]
      refine lv_istore (lv' := [(11, .int (zi (((L : Nat) : Int)))), (10, .int (zi (((len : Nat) : Int)))), (9, .int (zi (((fs : Nat) : Int)))), (3, .int (zi (0))), (0, .ref h0), (1, .int (zi (((lo : Nat) : Int)))), (2, .int (zi (((hi : Nat) : Int)))), (4, .ref k4), (5, .ref k5), (6, .ref k6), (7, .ref k7), (8, .ref k8)]) hx hb dX2_radixSort_96 hl (by decide) rfl (fun ls hl => ?_)
      refine lv_iload hx hb dX2_radixSort_98 (lv_at hl 0 rfl) ?_
      refine lv_bipush (v := zi (8)) hx hb dX2_radixSort_100 (by decide +kernel) ?_
      refine zi_remN (a := L) (b := 8) hx hb dX2_radixSort_102 (by omega) (by omega) (by omega) (by omega) (by omega) ?_
      refine zi_if_ne (tgt := 112) hx hb dX2_radixSort_103 (by decide) (by omega) (fun c_103 => ?_) (fun c_103 => ?_)
      · refine zi_const hx hb dX2_radixSort_112 ?_
        refine lv_istore (lv' := [(12, .int (zi (0))), (11, .int (zi (((L : Nat) : Int)))), (10, .int (zi (((len : Nat) : Int)))), (9, .int (zi (((fs : Nat) : Int)))), (3, .int (zi (0))), (0, .ref h0), (1, .int (zi (((lo : Nat) : Int)))), (2, .int (zi (((hi : Nat) : Int)))), (4, .ref k4), (5, .ref k5), (6, .ref k6), (7, .ref k7), (8, .ref k8)]) hx hb dX2_radixSort_113 hl (by decide) rfl (fun ls hl => ?_)
        exact lp_r5b (f := f) (g := g) (fs := fs) (len := len) (L := L) S hn hin s4 (Or.inr ⟨by omega, rfl⟩) hO s2 s3 (by omega) hC0 hw (lv_sub hl [5, 6, 7, 4, 8, 9, 10, 11, 12, 3, 2, 1, 0] rfl) (fun g sp ps pl O Ln Lv C PZ H locs ls h1 h2 h3 hw hl => ih (L + 1) g sp ps pl O Ln Lv C PZ _ H locs ls (by omega) rfl h1 h2 h3 hw hl)
      · refine lv_sipush (v := zi (128)) hx hb dX2_radixSort_106 (by decide +kernel) ?_
        refine lv_goto (tgt := 113) hx hb dX2_radixSort_109 (by decide) ?_
        refine lv_istore (lv' := [(12, .int (zi (128))), (11, .int (zi (((L : Nat) : Int)))), (10, .int (zi (((len : Nat) : Int)))), (9, .int (zi (((fs : Nat) : Int)))), (3, .int (zi (0))), (0, .ref h0), (1, .int (zi (((lo : Nat) : Int)))), (2, .int (zi (((hi : Nat) : Int)))), (4, .ref k4), (5, .ref k5), (6, .ref k6), (7, .ref k7), (8, .ref k8)]) hx hb dX2_radixSort_113 hl (by decide) rfl (fun ls hl => ?_)
        exact lp_r5b (f := f) (g := g) (fs := fs) (len := len) (L := L) S hn hin s4 (Or.inl ⟨by omega, rfl⟩) hO s2 s3 (by omega) hC0 hw (lv_sub hl [5, 6, 7, 4, 8, 9, 10, 11, 12, 3, 2, 1, 0] rfl) (fun g sp ps pl O Ln Lv C PZ H locs ls h1 h2 h3 hw hl => ih (L + 1) g sp ps pl O Ln Lv C PZ _ H locs ls (by omega) rfl h1 h2 h3 hw hl)
end ZRX
set_option maxHeartbeats 4000000 in
set_option maxRecDepth 100000 in
/-- radixSort sorts -/
theorem met_radix (l : Launch) (D : va_G) (dJ dI : ClassId) (h0 n : Nat) (f : Nat → Int64) (za zb : Int) (lo hi : Nat) (ea : za = (lo : Int)) (eb : zb = (hi : Int)) (hlh : lo ≤ hi) (hin : hi ≤ n) (hn : n < 1073741824) (hl9 : hi - lo < 2048) : zCV l yX2_radixSort cX2_radixSort 23 1027 5 5870 33874 D dJ dI [.ref h0, .int (zi za), .int (zi zb)] [zL h0 dJ n f] (fun g : Nat → Int64 => zs_pm f g lo hi ∧ zs_srt g lo hi) (fun g => [zL h0 dJ n g]) := by
  subst ea
  subst eb
  refine z_met (by decide) (Nat.le_of_ble_eq_true rfl) ?_
  intro p e s m below meth c ls S hr hlocks hnm hw hl
  have S : CallFix p m c cX2_radixSort 23 s _ lw_all RX2 := S
  obtain ⟨hx, hb, hml, hown, hts⟩ := id S
  have hl : lv_has ls 23 [(0, .ref h0), (1, .int (zi (((lo : Nat) : Int)))), (2, .int (zi (((hi : Nat) : Int))))] := hl
  refine lv_iload_n hx hb dX2_radixSort_0 rfl (lv_at hl 2 rfl) ?_
  refine lv_iload_n hx hb dX2_radixSort_1 rfl (lv_at hl 1 rfl) ?_
  refine zi_sub (r := ((hi - lo : Nat) : Int)) hx hb dX2_radixSort_2 (by omega) ?_
  refine lv_sipush (v := zi (1024)) hx hb dX2_radixSort_3 (by decide +kernel) ?_
  refine zi_icmp_ge (tgt := 16) hx hb dX2_radixSort_6 (by decide) (by omega) (by omega) (fun c_6 => ?_) (fun c_6 => ?_)
  · refine zi_const hx hb dX2_radixSort_16 ?_
    refine lv_istore_n (lv' := [(3, .int (zi (0))), (0, .ref h0), (1, .int (zi (((lo : Nat) : Int)))), (2, .int (zi (((hi : Nat) : Int))))]) hx hb dX2_radixSort_17 rfl hl (by decide) rfl (fun ls hl => ?_)
    refine lv_sipush (v := zi (1786)) hx hb dX2_radixSort_18 (by decide +kernel) ?_
    refine zn_new (k := 1786) hx hb hts hw (by omega) (by omega) (Nat.le_of_ble_eq_true rfl) (Nat.le_of_ble_eq_true rfl) dX2_radixSort_21 (fun k4 H hw => ?_)
    have hw : zW D dJ dI _ s [zL h0 dJ n (f), zN k4 dI 1786 (fun _ => 0)] H _ := hw
    refine W.widen (k := 1) (n := 1786) (Nat.le_of_ble_eq_true rfl) (Nat.le_of_ble_eq_true rfl) ?_
    refine lv_astore (lv' := [(4, .ref k4), (3, .int (zi (0))), (0, .ref h0), (1, .int (zi (((lo : Nat) : Int)))), (2, .int (zi (((hi : Nat) : Int))))]) hx hb dX2_radixSort_23 hl (by decide) rfl (fun ls hl => ?_)
    refine lv_sipush (v := zi (1786)) hx hb dX2_radixSort_25 (by decide +kernel) ?_
    refine zn_new (k := 1786) hx hb hts hw (by omega) (by omega) (Nat.le_of_ble_eq_true rfl) (Nat.le_of_ble_eq_true rfl) dX2_radixSort_28 (fun k5 H hw => ?_)
    have hw : zW D dJ dI _ s [zL h0 dJ n (f), zN k4 dI 1786 (fun _ => 0), zN k5 dI 1786 (fun _ => 0)] H _ := hw
    refine W.widen (k := 2) (n := 3572) (Nat.le_of_ble_eq_true rfl) (Nat.le_of_ble_eq_true rfl) ?_
    refine lv_astore (lv' := [(5, .ref k5), (4, .ref k4), (3, .int (zi (0))), (0, .ref h0), (1, .int (zi (((lo : Nat) : Int)))), (2, .int (zi (((hi : Nat) : Int))))]) hx hb dX2_radixSort_30 hl (by decide) rfl (fun ls hl => ?_)
    refine lv_sipush (v := zi (1786)) hx hb dX2_radixSort_32 (by decide +kernel) ?_
    refine zn_new (k := 1786) hx hb hts hw (by omega) (by omega) (Nat.le_of_ble_eq_true rfl) (Nat.le_of_ble_eq_true rfl) dX2_radixSort_35 (fun k6 H hw => ?_)
    have hw : zW D dJ dI _ s [zL h0 dJ n (f), zN k4 dI 1786 (fun _ => 0), zN k5 dI 1786 (fun _ => 0), zN k6 dI 1786 (fun _ => 0)] H _ := hw
    refine W.widen (k := 3) (n := 5358) (Nat.le_of_ble_eq_true rfl) (Nat.le_of_ble_eq_true rfl) ?_
    refine lv_astore (lv' := [(6, .ref k6), (5, .ref k5), (4, .ref k4), (3, .int (zi (0))), (0, .ref h0), (1, .int (zi (((lo : Nat) : Int)))), (2, .int (zi (((hi : Nat) : Int))))]) hx hb dX2_radixSort_37 hl (by decide) rfl (fun ls hl => ?_)
    refine lv_aload hx hb dX2_radixSort_39 (lv_at hl 2 rfl) ?_
    refine lv_iload_n hx hb dX2_radixSort_41 rfl (lv_at hl 3 rfl) ?_
    refine lv_iload_n hx hb dX2_radixSort_42 rfl (lv_at hl 5 rfl) ?_
    refine zn_ast (ws' := [zL h0 dJ n (f), zN k4 dI 1786 (zup (fun _ => 0) (0) (((lo : Nat) : Int))), zN k5 dI 1786 (fun _ => 0), zN k6 dI 1786 (fun _ => 0)]) hx hb hw 1 (0) rfl (by omega) (by omega) (by omega) dX2_radixSort_43 rfl (fun H locs hw => ?_)
    refine lv_aload hx hb dX2_radixSort_44 (lv_at hl 1 rfl) ?_
    refine lv_iload_n hx hb dX2_radixSort_46 rfl (lv_at hl 3 rfl) ?_
    refine lv_iload_n hx hb dX2_radixSort_47 rfl (lv_at hl 6 rfl) ?_
    refine lv_iload_n hx hb dX2_radixSort_48 rfl (lv_at hl 5 rfl) ?_
    refine zi_sub (r := ((hi - lo : Nat) : Int)) hx hb dX2_radixSort_49 (by omega) ?_
    refine zn_ast (ws' := [zL h0 dJ n (f), zN k4 dI 1786 (zup (fun _ => 0) (0) (((lo : Nat) : Int))), zN k5 dI 1786 (zup (fun _ => 0) (0) (((hi - lo : Nat) : Int))), zN k6 dI 1786 (fun _ => 0)]) hx hb hw 2 (0) rfl (by omega) (by omega) (by omega) dX2_radixSort_50 rfl (fun H locs hw => ?_)
    refine lv_aload hx hb dX2_radixSort_51 (lv_at hl 0 rfl) ?_
    refine lv_iload_n hx hb dX2_radixSort_53 rfl (lv_at hl 3 rfl) ?_
    refine zi_inc (v := 1) (k := 3) (lv' := [(3, .int (zi (1))), (6, .ref k6), (5, .ref k5), (4, .ref k4), (0, .ref h0), (1, .int (zi (((lo : Nat) : Int)))), (2, .int (zi (((hi : Nat) : Int))))]) hx hb dX2_radixSort_54 hl rfl (by omega) (by decide) rfl (fun ls hl => ?_)
    refine zi_const hx hb dX2_radixSort_57 ?_
    refine zn_ast (ws' := [zL h0 dJ n (f), zN k4 dI 1786 (zup (fun _ => 0) (0) (((lo : Nat) : Int))), zN k5 dI 1786 (zup (fun _ => 0) (0) (((hi - lo : Nat) : Int))), zN k6 dI 1786 (zup (fun _ => 0) (0) (0))]) hx hb hw 3 (0) rfl (by omega) (by omega) (by omega) dX2_radixSort_58 rfl (fun H locs hw => ?_)
    refine lv_sipush (v := zi (256)) hx hb dX2_radixSort_59 (by decide +kernel) ?_
    refine zn_new (k := 256) hx hb hts hw (by omega) (by omega) (Nat.le_of_ble_eq_true rfl) (Nat.le_of_ble_eq_true rfl) dX2_radixSort_62 (fun k7 H hw => ?_)
    have hw : zW D dJ dI _ s [zL h0 dJ n (f), zN k4 dI 1786 (zup (fun _ => 0) (0) (((lo : Nat) : Int))), zN k5 dI 1786 (zup (fun _ => 0) (0) (((hi - lo : Nat) : Int))), zN k6 dI 1786 (zup (fun _ => 0) (0) (0)), zN k7 dI 256 (fun _ => 0)] H _ := hw
    refine W.widen (k := 4) (n := 5614) (Nat.le_of_ble_eq_true rfl) (Nat.le_of_ble_eq_true rfl) ?_
    refine lv_astore (lv' := [(7, .ref k7), (3, .int (zi (1))), (6, .ref k6), (5, .ref k5), (4, .ref k4), (0, .ref h0), (1, .int (zi (((lo : Nat) : Int)))), (2, .int (zi (((hi : Nat) : Int))))]) hx hb dX2_radixSort_64 hl (by decide) rfl (fun ls hl => ?_)
    refine lv_sipush (v := zi (256)) hx hb dX2_radixSort_66 (by decide +kernel) ?_
    refine zn_new (k := 256) hx hb hts hw (by omega) (by omega) (Nat.le_of_ble_eq_true rfl) (Nat.le_of_ble_eq_true rfl) dX2_radixSort_69 (fun k8 H hw => ?_)
    have hw : zW D dJ dI _ s [zL h0 dJ n (f), zN k4 dI 1786 (zup (fun _ => 0) (0) (((lo : Nat) : Int))), zN k5 dI 1786 (zup (fun _ => 0) (0) (((hi - lo : Nat) : Int))), zN k6 dI 1786 (zup (fun _ => 0) (0) (0)), zN k7 dI 256 (fun _ => 0), zN k8 dI 256 (fun _ => 0)] H _ := hw
    refine W.widen (k := 5) (n := 5870) (Nat.le_of_ble_eq_true rfl) (Nat.le_of_ble_eq_true rfl) ?_
    refine lv_astore (lv' := [(8, .ref k8), (7, .ref k7), (3, .int (zi (1))), (6, .ref k6), (5, .ref k5), (4, .ref k4), (0, .ref h0), (1, .int (zi (((lo : Nat) : Int)))), (2, .int (zi (((hi : Nat) : Int))))]) hx hb dX2_radixSort_71 hl (by decide) rfl (fun ls hl => ?_)
    refine lp_r5 (f := f) (lo := lo) (hi := hi) S hn hin hl9 (fun g O Ln Lv C PZ H locs ls q1 q2 hw => ?_) 10 0 f 1 lo (hi - lo) (zup (fun _ => 0) (0) (((lo : Nat) : Int))) (zup (fun _ => 0) (0) (((hi - lo : Nat) : Int))) (zup (fun _ => 0) (0) (0)) (fun _ => 0) (fun _ => 0) _ H _ ls (by omega) (by omega) (zr_O0 (by omega)) (fun _ _ => rfl) (fun _ => ⟨zup_s, zup_s, zup_s⟩) hw (lv_sub hl [6, 7, 8, 2, 5, 4, 3, 1, 0] rfl)
    exact z_vret hx hb hr hlocks hw g [0] rfl rfl ⟨q1, q2⟩ dX2_radixSort_430
  · refine lv_aload_n hx hb dX2_radixSort_9 rfl (lv_at hl 0 rfl) ?_
    refine lv_iload_n hx hb dX2_radixSort_10 rfl (lv_at hl 1 rfl) ?_
    refine lv_iload_n hx hb dX2_radixSort_11 rfl (lv_at hl 2 rfl) ?_
    refine z_callv (wr := []) (wo := (fun u : Nat → Int64 => [zL h0 dJ n u])) (z_runS (n := 3) (rest := []) S (met_quick l D dJ dI 1024 h0 n f (((lo : Nat) : Int)) (((hi : Nat) : Int)) lo hi (by omega) (by omega) (by omega) (by omega) (by omega) (by omega)) (lw_S q44 q24 q4 q25) rfl rfl (by decide +kernel) ⟨Nat.le_of_ble_eq_true rfl, Nat.le_of_ble_eq_true rfl⟩ hw [0] rfl rfl rfl hl.1 rfl (Nat.le_of_ble_eq_true rfl) dX2_radixSort_12 ⟨Nat.le_of_ble_eq_true rfl, Nat.le_of_ble_eq_true rfl⟩) hw [0] [] rfl rfl rfl (by decide) [0] rfl (fun _ => rfl) (fun u H locs hp hw => ?_)
    refine W.widen (k := 5) (n := 5870) (Nat.le_of_ble_eq_true rfl) (Nat.le_of_ble_eq_true rfl) ?_
    exact z_vret hx hb hr hlocks hw u [0] rfl rfl hp dX2_radixSort_15
end
section
/-! LongSortDesk: its methods. A desk: zO o r n, its rows zL r dJ 4096 f. Printed by gen/m15.py -/
set_option maxRecDepth 100000
/-- LongSortDesk.wide -/
def zwide (x1 x2 : Int32) : Int64 := ((x1).toInt64 <<< ((zi (32)).toInt64 &&& 63)) ||| ((x2).toInt64 &&& 4294967295)
/-- a run's number i -/
def zrv (x2 x3 x4 : Int32) (i : Nat) : Int64 := zwide x2 x3 + ((zi (((i : Nat) : Int))).toInt64 * (x4).toInt64) * 1000003
theorem zlo_zi {z : Int} {k : Nat} (h : z = (k : Int)) (hk : k < 2147483648) : zlo (zi z) = k := by
  subst h
  rw [← zi_nI]
  unfold zlo
  rw [pk_tn (by omega)]
  exact Nat.mod_eq_of_lt hk
set_option maxHeartbeats 4000000 in
set_option maxRecDepth 100000 in
theorem met_wide (l : Launch) (D : va_G) (dJ dI : ClassId) (x1 x2 : Int32) : zCJ l yX1_wide cX1_wide 2 0 0 0 0 D dJ dI [.int x1, .int x2] [] (fun (v : Int64) (_ : Unit) => v = zwide x1 x2) (fun _ => []) := by
  refine z_met (by decide) (Nat.le_of_ble_eq_true rfl) ?_
  intro p e s m below meth c ls S hr hlocks hnm hw hl
  have S : CallFix p m c cX1_wide 2 s _ lw_all RX1 := S
  obtain ⟨hx, hb, hml, hown, hts⟩ := id S
  have hl : lv_has ls 2 [(0, .int (x1)), (1, .int (x2))] := hl
  refine lv_iload_n hx hb dX1_wide_0 rfl (lv_at hl 0 rfl) ?_
  refine lv_i2l (v := (x1).toInt64) hx hb dX1_wide_1 rfl ?_
  refine lv_bipush (v := zi (32)) hx hb dX1_wide_2 (by decide +kernel) ?_
  refine lv_lshl (v := ((x1).toInt64 <<< ((zi (32)).toInt64 &&& 63))) hx hb dX1_wide_4 rfl ?_
  refine lv_iload_n hx hb dX1_wide_5 rfl (lv_at hl 1 rfl) ?_
  refine lv_i2l (v := (x2).toInt64) hx hb dX1_wide_6 rfl ?_
  refine lv_ldc2 (v := 4294967295) hx hb hown (hts _ q115) dX1_wide_7 ?_
  refine lv_land hx hb dX1_wide_10 ?_
  refine lv_lor hx hb dX1_wide_11 ?_
  exact z_lret hx hb hr hlocks hw () [] rfl rfl rfl dX1_wide_12
set_option maxHeartbeats 4000000 in
set_option maxRecDepth 100000 in
theorem met_put (l : Launch) (D : va_G) (dJ dI : ClassId) (o r n : Nat) (f : Nat → Int64) (x1 x2 : Int32) (hn : n < 4096) : zCB l yX1_put cX1_put 3 1 0 0 21 D dJ dI [.ref o, .int x1, .int x2] [zO o r (((n : Nat) : Int)), zL r dJ 4096 (f)] (fun (v : Int32) (_ : Unit) => v = zi 1) (fun _ => [zO o r ((n + 1 : Nat) : Int), zL r dJ 4096 (vp_updL f n (zwide x1 x2))]) := by
  refine z_met (by decide) (Nat.le_of_ble_eq_true rfl) ?_
  intro p e s m below meth c ls S hr hlocks hnm hw hl
  have S : CallFix p m c cX1_put 3 s _ lw_all RX1 := S
  obtain ⟨hx, hb, hml, hown, hts⟩ := id S
  have hl : lv_has ls 3 [(0, .ref o), (1, .int (x1)), (2, .int (x2))] := hl
  refine lv_aload_n hx hb dX1_put_0 rfl (lv_at hl 0 rfl) ?_
  refine zo_size hx hb hts hown hw 0 rfl q102 dX1_put_1 ?_
  refine lv_sipush (v := zi (4096)) hx hb dX1_put_4 (by decide +kernel) ?_
  refine zi_icmp_lt (tgt := 12) hx hb dX1_put_7 (by decide) (by omega) (by omega) (fun c_7 => ?_) (fun c_7 => ?_)
  · refine lv_aload_n hx hb dX1_put_12 rfl (lv_at hl 0 rfl) ?_
    refine zo_rows hx hb hts hown hw 0 rfl q101 dX1_put_13 ?_
    refine lv_aload_n hx hb dX1_put_16 rfl (lv_at hl 0 rfl) ?_
    refine lv_dup hx hb dX1_put_17 rfl ?_
    refine zo_size hx hb hts hown hw 0 rfl q102 dX1_put_18 ?_
    refine lv_dup_x1 hx hb dX1_put_21 rfl rfl ?_
    refine zi_const hx hb dX1_put_22 ?_
    refine zi_add (r := ((n + 1 : Nat) : Int)) hx hb dX1_put_23 (by omega) ?_
    refine zo_put (ws' := [zO o r (((n + 1 : Nat) : Int)), zL r dJ 4096 (f)]) hx hb hts hown hw 0 rfl q102 dX1_put_24 rfl (fun H locs hw => ?_)
    refine lv_iload_n hx hb dX1_put_27 rfl (lv_at hl 1 rfl) ?_
    refine lv_iload_n hx hb dX1_put_28 rfl (lv_at hl 2 rfl) ?_
    refine z_calll (wr := [zO o r (((n + 1 : Nat) : Int)), zL r dJ 4096 (f)]) (wo := (fun _ : Unit => [zO o r (((n + 1 : Nat) : Int)), zL r dJ 4096 (f)])) (z_runS (n := 2) (rest := [.int (zi (((n : Nat) : Int))), .ref r]) S (met_wide l D dJ dI (x1) (x2)) (lw_S q112 q113 q3 q114) rfl rfl (by decide +kernel) ⟨Nat.le_of_ble_eq_true rfl, Nat.le_of_ble_eq_true rfl⟩ hw [] rfl rfl rfl hl.1 rfl (Nat.le_of_ble_eq_true rfl) dX1_put_29 ⟨Nat.le_refl _, Nat.le_refl _⟩) hw [] [0, 1] rfl rfl rfl (by decide) [0, 1] rfl (fun _ => rfl) (fun v9 _ H locs hp hw => ?_)
    subst hp
    refine zl_ast (ws' := [zO o r (((n + 1 : Nat) : Int)), zL r dJ 4096 (vp_updL (f) (n) (zwide (x1) (x2)))]) hx hb hw 1 (n) rfl (by omega) (by omega) (by omega) dX1_put_32 rfl (fun H locs hw => ?_)
    refine zi_const hx hb dX1_put_33 ?_
    exact z_zret hx hb hr hlocks hw () [0, 1] rfl rfl rfl rfl dX1_put_34
  · exact absurd c_7 (by omega)
set_option maxHeartbeats 4000000 in
set_option maxRecDepth 100000 in
theorem met_putF (l : Launch) (D : va_G) (dJ dI : ClassId) (o r n : Nat) (f : Nat → Int64) (x1 x2 : Int32) (hn : n = 4096) : zCB l yX1_put cX1_put 3 1 0 0 21 D dJ dI [.ref o, .int x1, .int x2] [zO o r (((n : Nat) : Int)), zL r dJ 4096 (f)] (fun (v : Int32) (_ : Unit) => v = zi 0) (fun _ => [zO o r (((n : Nat) : Int)), zL r dJ 4096 (f)]) := by
  refine z_met (by decide) (Nat.le_of_ble_eq_true rfl) ?_
  intro p e s m below meth c ls S hr hlocks hnm hw hl
  have S : CallFix p m c cX1_put 3 s _ lw_all RX1 := S
  obtain ⟨hx, hb, hml, hown, hts⟩ := id S
  have hl : lv_has ls 3 [(0, .ref o), (1, .int (x1)), (2, .int (x2))] := hl
  refine lv_aload_n hx hb dX1_put_0 rfl (lv_at hl 0 rfl) ?_
  refine zo_size hx hb hts hown hw 0 rfl q102 dX1_put_1 ?_
  refine lv_sipush (v := zi (4096)) hx hb dX1_put_4 (by decide +kernel) ?_
  refine zi_icmp_lt (tgt := 12) hx hb dX1_put_7 (by decide) (by omega) (by omega) (fun c_7 => ?_) (fun c_7 => ?_)
  · exact absurd c_7 (by omega)
  · refine zi_const hx hb dX1_put_10 ?_
    exact z_zret hx hb hr hlocks hw () [0, 1] rfl rfl rfl rfl dX1_put_11
set_option maxHeartbeats 4000000 in
set_option maxRecDepth 100000 in
theorem met_from (l : Launch) (D : va_G) (dJ dI : ClassId) (o r n : Nat) (x1 : Int32) (hn : n ≤ 4096) : zCI l yX1_from cX1_from 2 0 0 0 0 D dJ dI [.ref o, .int x1] [zO o r ((n : Nat) : Int)] (fun (v : Int32) (_ : Unit) => v = zi ((zlo x1 % (n + 1) : Nat) : Int)) (fun _ => [zO o r ((n : Nat) : Int)]) := by
  refine z_met (by decide) (Nat.le_of_ble_eq_true rfl) ?_
  intro p e s m below meth c ls S hr hlocks hnm hw hl
  have S : CallFix p m c cX1_from 2 s _ lw_all RX1 := S
  obtain ⟨hx, hb, hml, hown, hts⟩ := id S
  have hl : lv_has ls 2 [(0, .ref o), (1, .int (x1))] := hl
  refine lv_iload_n hx hb dX1_from_0 rfl (lv_at hl 1 rfl) ?_
  refine lv_ldc (v := 2147483647) hx hb hown (hts _ q18) dX1_from_1 ?_
  refine zi_and hx hb dX1_from_3 ?_
  refine lv_aload_n hx hb dX1_from_4 rfl (lv_at hl 0 rfl) ?_
  refine zo_size hx hb hts hown hw 0 rfl q102 dX1_from_5 ?_
  refine zi_const hx hb dX1_from_8 ?_
  refine zi_add (r := ((n + 1 : Nat) : Int)) hx hb dX1_from_9 (by omega) ?_
  have hz := zlo_lt x1
  refine zi_remN (a := zlo (x1)) (b := n + 1) hx hb dX1_from_10 (by omega) (by omega) (by omega) (by omega) (by omega) ?_
  exact z_iret hx hb hr hlocks hw () [0] rfl rfl rfl dX1_from_11
set_option maxHeartbeats 4000000 in
set_option maxRecDepth 100000 in
theorem met_count (l : Launch) (D : va_G) (dJ dI : ClassId) (o r n fr : Nat) (x2 : Int32) (hn : n ≤ 4096) (hfr : fr ≤ n) : zCI l yX1_count cX1_count 3 0 0 0 0 D dJ dI [.ref o, .int (zi ((fr : Nat) : Int)), .int x2] [zO o r ((n : Nat) : Int)] (fun (v : Int32) (_ : Unit) => v = zi ((zlo x2 % (n - fr + 1) : Nat) : Int)) (fun _ => [zO o r ((n : Nat) : Int)]) := by
  refine z_met (by decide) (Nat.le_of_ble_eq_true rfl) ?_
  intro p e s m below meth c ls S hr hlocks hnm hw hl
  have S : CallFix p m c cX1_count 3 s _ lw_all RX1 := S
  obtain ⟨hx, hb, hml, hown, hts⟩ := id S
  have hl : lv_has ls 3 [(0, .ref o), (1, .int (zi (((fr : Nat) : Int)))), (2, .int (x2))] := hl
  refine lv_iload_n hx hb dX1_count_0 rfl (lv_at hl 2 rfl) ?_
  refine lv_ldc (v := 2147483647) hx hb hown (hts _ q18) dX1_count_1 ?_
  refine zi_and hx hb dX1_count_3 ?_
  refine lv_aload_n hx hb dX1_count_4 rfl (lv_at hl 0 rfl) ?_
  refine zo_size hx hb hts hown hw 0 rfl q102 dX1_count_5 ?_
  refine lv_iload_n hx hb dX1_count_8 rfl (lv_at hl 1 rfl) ?_
  refine zi_sub (r := ((n - fr : Nat) : Int)) hx hb dX1_count_9 (by omega) ?_
  refine zi_const hx hb dX1_count_10 ?_
  refine zi_add (r := ((n - fr + 1 : Nat) : Int)) hx hb dX1_count_11 (by omega) ?_
  have hz := zlo_lt x2
  refine zi_remN (a := zlo (x2)) (b := n - fr + 1) hx hb dX1_count_12 (by omega) (by omega) (by omega) (by omega) (by omega) ?_
  exact z_iret hx hb hr hlocks hw () [0] rfl rfl rfl dX1_count_13
set_option maxHeartbeats 4000000 in
set_option maxRecDepth 100000 in
theorem met_dquick (l : Launch) (D : va_G) (dJ dI : ClassId) (o r n fr c9 : Nat) (f : Nat → Int64) (x1 x2 : Int32) (hn : n ≤ 1300) (hfr : fr = zlo x1 % (n + 1)) (hc : c9 = zlo x2 % (n - fr + 1)) : zCI l yX1_quick cX1_quick 5 1303 0 0 42982 D dJ dI [.ref o, .int x1, .int x2] [zO o r (((n : Nat) : Int)), zL r dJ 4096 (f)] (fun (v : Int32) (u : Nat → Int64) => v = zi ((c9 : Nat) : Int) ∧ zs_pm f u fr (fr + c9) ∧ zs_srt u fr (fr + c9)) (fun u => [zO o r (((n : Nat) : Int)), zL r dJ 4096 (u)]) := by
  have hfr9 : fr < n + 1 := by
    rw [hfr]
    exact Nat.mod_lt _ (by omega)
  have hc9 : c9 < n - fr + 1 := by
    rw [hc]
    exact Nat.mod_lt _ (by omega)
  refine z_met (by decide) (Nat.le_of_ble_eq_true rfl) ?_
  intro p e s m below meth c ls S hr hlocks hnm hw hl
  have S : CallFix p m c cX1_quick 5 s _ lw_all RX1 := S
  obtain ⟨hx, hb, hml, hown, hts⟩ := id S
  have hl : lv_has ls 5 [(0, .ref o), (1, .int (x1)), (2, .int (x2))] := hl
  refine lv_aload_n hx hb dX1_quick_0 rfl (lv_at hl 0 rfl) ?_
  refine lv_iload_n hx hb dX1_quick_1 rfl (lv_at hl 1 rfl) ?_
  refine z_calli (wr := [zL r dJ 4096 (f)]) (wo := (fun _ : Unit => [zO o r (((n : Nat) : Int)), zL r dJ 4096 (f)])) (z_runV (n := 1) (rest := []) S (met_from l D dJ dI o r n x1 (by omega)) (lw_V q13 q15 qs0 q3 q17) rfl rfl (by decide +kernel) ⟨Nat.le_of_ble_eq_true rfl, Nat.le_of_ble_eq_true rfl⟩ hw [0] rfl rfl 0 rfl rfl hl.1 rfl (Nat.le_of_ble_eq_true rfl) dX1_quick_2 ⟨Nat.le_of_ble_eq_true rfl, Nat.le_of_ble_eq_true rfl⟩) hw [0] [1] rfl rfl rfl (by decide) [1, 0] rfl (fun _ => rfl) (fun v9 _ H locs hp hw => ?_)
  rw [← hfr] at hp
  subst hp
  refine lv_istore_n (lv' := [(3, .int (zi (((fr : Nat) : Int)))), (0, .ref o), (1, .int (x1)), (2, .int (x2))]) hx hb dX1_quick_5 rfl hl (by decide) rfl (fun ls hl => ?_)
  refine lv_aload_n hx hb dX1_quick_6 rfl (lv_at hl 1 rfl) ?_
  refine lv_iload_n hx hb dX1_quick_7 rfl (lv_at hl 0 rfl) ?_
  refine lv_iload_n hx hb dX1_quick_8 rfl (lv_at hl 3 rfl) ?_
  refine z_calli (wr := [zL r dJ 4096 (f)]) (wo := (fun _ : Unit => [zO o r (((n : Nat) : Int)), zL r dJ 4096 (f)])) (z_runV (n := 2) (rest := []) S (met_count l D dJ dI o r n fr x2 (by omega) (by omega)) (lw_V q19 q21 qs1 q3 q22) rfl rfl (by decide +kernel) ⟨Nat.le_of_ble_eq_true rfl, Nat.le_of_ble_eq_true rfl⟩ hw [0] rfl rfl 0 rfl rfl hl.1 rfl (Nat.le_of_ble_eq_true rfl) dX1_quick_9 ⟨Nat.le_of_ble_eq_true rfl, Nat.le_of_ble_eq_true rfl⟩) hw [0] [1] rfl rfl rfl (by decide) [1, 0] rfl (fun _ => rfl) (fun v9 _ H locs hp hw => ?_)
  rw [← hc] at hp
  subst hp
  refine lv_istore (lv' := [(4, .int (zi (((c9 : Nat) : Int)))), (3, .int (zi (((fr : Nat) : Int)))), (0, .ref o), (1, .int (x1)), (2, .int (x2))]) hx hb dX1_quick_12 hl (by decide) rfl (fun ls hl => ?_)
  refine lv_aload_n hx hb dX1_quick_14 rfl (lv_at hl 2 rfl) ?_
  refine zo_rows hx hb hts hown hw 0 rfl q101 dX1_quick_15 ?_
  refine lv_iload_n hx hb dX1_quick_18 rfl (lv_at hl 1 rfl) ?_
  refine lv_iload_n hx hb dX1_quick_19 rfl (lv_at hl 1 rfl) ?_
  refine lv_iload hx hb dX1_quick_20 (lv_at hl 0 rfl) ?_
  refine zi_add (r := ((fr + c9 : Nat) : Int)) hx hb dX1_quick_22 (by omega) ?_
  refine z_callv (wr := [zO o r (((n : Nat) : Int))]) (wo := (fun u : Nat → Int64 => [zO o r (((n : Nat) : Int)), zL r dJ 4096 (u)])) (z_runS (n := 3) (rest := []) S (met_quick l D dJ dI 1300 r 4096 f (((fr : Nat) : Int)) (((fr + c9 : Nat) : Int)) fr (fr + c9) (by omega) (by omega) (by omega) (by omega) (by omega) (by omega)) (lw_S q23 q24 q4 q25) rfl rfl (by decide +kernel) ⟨Nat.le_of_ble_eq_true rfl, Nat.le_of_ble_eq_true rfl⟩ hw [1] rfl rfl rfl hl.1 rfl (Nat.le_of_ble_eq_true rfl) dX1_quick_23 ⟨Nat.le_of_ble_eq_true rfl, Nat.le_of_ble_eq_true rfl⟩) hw [1] [0] rfl rfl rfl (by decide) [0, 1] rfl (fun _ => rfl) (fun u H locs hp hw => ?_)
  refine lv_iload hx hb dX1_quick_26 (lv_at hl 0 rfl) ?_
  exact z_iret hx hb hr hlocks hw u [0, 1] rfl rfl ⟨rfl, hp.1, hp.2⟩ dX1_quick_28
set_option maxHeartbeats 4000000 in
set_option maxRecDepth 100000 in
theorem met_dmerge (l : Launch) (D : va_G) (dJ dI : ClassId) (o r n fr c9 : Nat) (f : Nat → Int64) (x1 x2 : Int32) (hn : n ≤ 1300) (hfr : fr = zlo x1 % (n + 1)) (hc : c9 = zlo x2 % (n - fr + 1)) : zCI l yX1_merge cX1_merge 5 1304 1 n 36512 D dJ dI [.ref o, .int x1, .int x2] [zO o r (((n : Nat) : Int)), zL r dJ 4096 (f)] (fun (v : Int32) (u : Nat → Int64) => v = zi ((c9 : Nat) : Int) ∧ zs_pm f u fr (fr + c9) ∧ zs_srt u fr (fr + c9)) (fun u => [zO o r (((n : Nat) : Int)), zL r dJ 4096 (u)]) := by
  have hfr9 : fr < n + 1 := by
    rw [hfr]
    exact Nat.mod_lt _ (by omega)
  have hc9 : c9 < n - fr + 1 := by
    rw [hc]
    exact Nat.mod_lt _ (by omega)
  refine z_met (by decide) (Nat.le_of_ble_eq_true rfl) ?_
  intro p e s m below meth c ls S hr hlocks hnm hw hl
  have S : CallFix p m c cX1_merge 5 s _ lw_all RX1 := S
  obtain ⟨hx, hb, hml, hown, hts⟩ := id S
  have hl : lv_has ls 5 [(0, .ref o), (1, .int (x1)), (2, .int (x2))] := hl
  refine lv_aload_n hx hb dX1_merge_0 rfl (lv_at hl 0 rfl) ?_
  refine lv_iload_n hx hb dX1_merge_1 rfl (lv_at hl 1 rfl) ?_
  refine z_calli (wr := [zL r dJ 4096 (f)]) (wo := (fun _ : Unit => [zO o r (((n : Nat) : Int)), zL r dJ 4096 (f)])) (z_runV (n := 1) (rest := []) S (met_from l D dJ dI o r n x1 (by omega)) (lw_V q13 q15 qs0 q3 q17) rfl rfl (by decide +kernel) ⟨Nat.le_of_ble_eq_true rfl, Nat.le_of_ble_eq_true rfl⟩ hw [0] rfl rfl 0 rfl rfl hl.1 rfl (Nat.le_of_ble_eq_true rfl) dX1_merge_2 ⟨Nat.le_of_ble_eq_true rfl, Nat.le_of_ble_eq_true rfl⟩) hw [0] [1] rfl rfl rfl (by decide) [1, 0] rfl (fun _ => rfl) (fun v9 _ H locs hp hw => ?_)
  rw [← hfr] at hp
  subst hp
  refine lv_istore_n (lv' := [(3, .int (zi (((fr : Nat) : Int)))), (0, .ref o), (1, .int (x1)), (2, .int (x2))]) hx hb dX1_merge_5 rfl hl (by decide) rfl (fun ls hl => ?_)
  refine lv_aload_n hx hb dX1_merge_6 rfl (lv_at hl 1 rfl) ?_
  refine lv_iload_n hx hb dX1_merge_7 rfl (lv_at hl 0 rfl) ?_
  refine lv_iload_n hx hb dX1_merge_8 rfl (lv_at hl 3 rfl) ?_
  refine z_calli (wr := [zL r dJ 4096 (f)]) (wo := (fun _ : Unit => [zO o r (((n : Nat) : Int)), zL r dJ 4096 (f)])) (z_runV (n := 2) (rest := []) S (met_count l D dJ dI o r n fr x2 (by omega) (by omega)) (lw_V q19 q21 qs1 q3 q22) rfl rfl (by decide +kernel) ⟨Nat.le_of_ble_eq_true rfl, Nat.le_of_ble_eq_true rfl⟩ hw [0] rfl rfl 0 rfl rfl hl.1 rfl (Nat.le_of_ble_eq_true rfl) dX1_merge_9 ⟨Nat.le_of_ble_eq_true rfl, Nat.le_of_ble_eq_true rfl⟩) hw [0] [1] rfl rfl rfl (by decide) [1, 0] rfl (fun _ => rfl) (fun v9 _ H locs hp hw => ?_)
  rw [← hc] at hp
  subst hp
  refine lv_istore (lv' := [(4, .int (zi (((c9 : Nat) : Int)))), (3, .int (zi (((fr : Nat) : Int)))), (0, .ref o), (1, .int (x1)), (2, .int (x2))]) hx hb dX1_merge_12 hl (by decide) rfl (fun ls hl => ?_)
  refine lv_aload_n hx hb dX1_merge_14 rfl (lv_at hl 2 rfl) ?_
  refine zo_rows hx hb hts hown hw 0 rfl q101 dX1_merge_15 ?_
  refine lv_iload_n hx hb dX1_merge_18 rfl (lv_at hl 1 rfl) ?_
  refine lv_iload_n hx hb dX1_merge_19 rfl (lv_at hl 1 rfl) ?_
  refine lv_iload hx hb dX1_merge_20 (lv_at hl 0 rfl) ?_
  refine zi_add (r := ((fr + c9 : Nat) : Int)) hx hb dX1_merge_22 (by omega) ?_
  refine z_callv (wr := [zO o r (((n : Nat) : Int))]) (wo := (fun u : Nat → Int64 => [zO o r (((n : Nat) : Int)), zL r dJ 4096 (u)])) (z_runS (n := 3) (rest := []) S (met_merge l D dJ dI 1300 r 4096 f (((fr : Nat) : Int)) (((fr + c9 : Nat) : Int)) fr (fr + c9) (by omega) (by omega) (by omega) (by omega) (by omega) (by omega) (by omega)) (lw_S q49 q50 q4 q51) rfl rfl (by decide +kernel) ⟨Nat.le_of_ble_eq_true rfl, Nat.le_of_ble_eq_true rfl⟩ hw [1] rfl rfl rfl hl.1 rfl (Nat.le_of_ble_eq_true rfl) dX1_merge_23 ⟨Nat.le_of_ble_eq_true rfl, by show 0 + (fr + c9) ≤ n; omega⟩) hw [1] [0] rfl rfl rfl (by decide) [0, 1] rfl (fun _ => rfl) (fun u H locs hp hw => ?_)
  refine W.widen (k := 1) (n := n) (by omega) (by omega) ?_
  refine lv_iload hx hb dX1_merge_26 (lv_at hl 0 rfl) ?_
  exact z_iret hx hb hr hlocks hw u [0, 1] rfl rfl ⟨rfl, hp.1, hp.2⟩ dX1_merge_28
set_option maxHeartbeats 4000000 in
set_option maxRecDepth 100000 in
theorem met_dradix (l : Launch) (D : va_G) (dJ dI : ClassId) (o r n fr c9 : Nat) (f : Nat → Int64) (x1 x2 : Int32) (hn : n ≤ 1300) (hfr : fr = zlo x1 % (n + 1)) (hc : c9 = zlo x2 % (n - fr + 1)) : zCI l yX1_radix cX1_radix 5 1028 5 5870 33916 D dJ dI [.ref o, .int x1, .int x2] [zO o r (((n : Nat) : Int)), zL r dJ 4096 (f)] (fun (v : Int32) (u : Nat → Int64) => v = zi ((c9 : Nat) : Int) ∧ zs_pm f u fr (fr + c9) ∧ zs_srt u fr (fr + c9)) (fun u => [zO o r (((n : Nat) : Int)), zL r dJ 4096 (u)]) := by
  have hfr9 : fr < n + 1 := by
    rw [hfr]
    exact Nat.mod_lt _ (by omega)
  have hc9 : c9 < n - fr + 1 := by
    rw [hc]
    exact Nat.mod_lt _ (by omega)
  refine z_met (by decide) (Nat.le_of_ble_eq_true rfl) ?_
  intro p e s m below meth c ls S hr hlocks hnm hw hl
  have S : CallFix p m c cX1_radix 5 s _ lw_all RX1 := S
  obtain ⟨hx, hb, hml, hown, hts⟩ := id S
  have hl : lv_has ls 5 [(0, .ref o), (1, .int (x1)), (2, .int (x2))] := hl
  refine lv_aload_n hx hb dX1_radix_0 rfl (lv_at hl 0 rfl) ?_
  refine lv_iload_n hx hb dX1_radix_1 rfl (lv_at hl 1 rfl) ?_
  refine z_calli (wr := [zL r dJ 4096 (f)]) (wo := (fun _ : Unit => [zO o r (((n : Nat) : Int)), zL r dJ 4096 (f)])) (z_runV (n := 1) (rest := []) S (met_from l D dJ dI o r n x1 (by omega)) (lw_V q13 q15 qs0 q3 q17) rfl rfl (by decide +kernel) ⟨Nat.le_of_ble_eq_true rfl, Nat.le_of_ble_eq_true rfl⟩ hw [0] rfl rfl 0 rfl rfl hl.1 rfl (Nat.le_of_ble_eq_true rfl) dX1_radix_2 ⟨Nat.le_of_ble_eq_true rfl, Nat.le_of_ble_eq_true rfl⟩) hw [0] [1] rfl rfl rfl (by decide) [1, 0] rfl (fun _ => rfl) (fun v9 _ H locs hp hw => ?_)
  rw [← hfr] at hp
  subst hp
  refine lv_istore_n (lv' := [(3, .int (zi (((fr : Nat) : Int)))), (0, .ref o), (1, .int (x1)), (2, .int (x2))]) hx hb dX1_radix_5 rfl hl (by decide) rfl (fun ls hl => ?_)
  refine lv_aload_n hx hb dX1_radix_6 rfl (lv_at hl 1 rfl) ?_
  refine lv_iload_n hx hb dX1_radix_7 rfl (lv_at hl 0 rfl) ?_
  refine lv_iload_n hx hb dX1_radix_8 rfl (lv_at hl 3 rfl) ?_
  refine z_calli (wr := [zL r dJ 4096 (f)]) (wo := (fun _ : Unit => [zO o r (((n : Nat) : Int)), zL r dJ 4096 (f)])) (z_runV (n := 2) (rest := []) S (met_count l D dJ dI o r n fr x2 (by omega) (by omega)) (lw_V q19 q21 qs1 q3 q22) rfl rfl (by decide +kernel) ⟨Nat.le_of_ble_eq_true rfl, Nat.le_of_ble_eq_true rfl⟩ hw [0] rfl rfl 0 rfl rfl hl.1 rfl (Nat.le_of_ble_eq_true rfl) dX1_radix_9 ⟨Nat.le_of_ble_eq_true rfl, Nat.le_of_ble_eq_true rfl⟩) hw [0] [1] rfl rfl rfl (by decide) [1, 0] rfl (fun _ => rfl) (fun v9 _ H locs hp hw => ?_)
  rw [← hc] at hp
  subst hp
  refine lv_istore (lv' := [(4, .int (zi (((c9 : Nat) : Int)))), (3, .int (zi (((fr : Nat) : Int)))), (0, .ref o), (1, .int (x1)), (2, .int (x2))]) hx hb dX1_radix_12 hl (by decide) rfl (fun ls hl => ?_)
  refine lv_aload_n hx hb dX1_radix_14 rfl (lv_at hl 2 rfl) ?_
  refine zo_rows hx hb hts hown hw 0 rfl q101 dX1_radix_15 ?_
  refine lv_iload_n hx hb dX1_radix_18 rfl (lv_at hl 1 rfl) ?_
  refine lv_iload_n hx hb dX1_radix_19 rfl (lv_at hl 1 rfl) ?_
  refine lv_iload hx hb dX1_radix_20 (lv_at hl 0 rfl) ?_
  refine zi_add (r := ((fr + c9 : Nat) : Int)) hx hb dX1_radix_22 (by omega) ?_
  refine z_callv (wr := [zO o r (((n : Nat) : Int))]) (wo := (fun u : Nat → Int64 => [zO o r (((n : Nat) : Int)), zL r dJ 4096 (u)])) (z_runS (n := 3) (rest := []) S (met_radix l D dJ dI r 4096 f (((fr : Nat) : Int)) (((fr + c9 : Nat) : Int)) fr (fr + c9) (by omega) (by omega) (by omega) (by omega) (by omega) (by omega)) (lw_S q79 q80 q4 q81) rfl rfl (by decide +kernel) ⟨Nat.le_of_ble_eq_true rfl, Nat.le_of_ble_eq_true rfl⟩ hw [1] rfl rfl rfl hl.1 rfl (Nat.le_of_ble_eq_true rfl) dX1_radix_23 ⟨Nat.le_of_ble_eq_true rfl, Nat.le_of_ble_eq_true rfl⟩) hw [1] [0] rfl rfl rfl (by decide) [0, 1] rfl (fun _ => rfl) (fun u H locs hp hw => ?_)
  refine lv_iload hx hb dX1_radix_26 (lv_at hl 0 rfl) ?_
  exact z_iret hx hb hr hlocks hw u [0, 1] rfl rfl ⟨rfl, hp.1, hp.2⟩ dX1_radix_28
set_option maxHeartbeats 4000000 in
set_option maxRecDepth 100000 in
theorem met_row (l : Launch) (D : va_G) (dJ dI : ClassId) (o r n : Nat) (f : Nat → Int64) (x1 : Int32) (hn0 : 0 < n) (hn : n ≤ 4096) : zCJ l yX1_row cX1_row 2 0 0 0 0 D dJ dI [.ref o, .int x1] [zO o r (((n : Nat) : Int)), zL r dJ 4096 (f)] (fun (v : Int64) (_ : Unit) => v = f (zlo x1 % n)) (fun _ => [zO o r (((n : Nat) : Int)), zL r dJ 4096 (f)]) := by
  refine z_met (by decide) (Nat.le_of_ble_eq_true rfl) ?_
  intro p e s m below meth c ls S hr hlocks hnm hw hl
  have S : CallFix p m c cX1_row 2 s _ lw_all RX1 := S
  obtain ⟨hx, hb, hml, hown, hts⟩ := id S
  have hl : lv_has ls 2 [(0, .ref o), (1, .int (x1))] := hl
  refine lv_aload_n hx hb dX1_row_0 rfl (lv_at hl 0 rfl) ?_
  refine zo_size hx hb hts hown hw 0 rfl q102 dX1_row_1 ?_
  refine zi_if_ne (tgt := 11) hx hb dX1_row_4 (by decide) (by omega) (fun c_4 => ?_) (fun c_4 => ?_)
  · refine lv_aload_n hx hb dX1_row_11 rfl (lv_at hl 0 rfl) ?_
    refine zo_rows hx hb hts hown hw 0 rfl q101 dX1_row_12 ?_
    refine lv_iload_n hx hb dX1_row_15 rfl (lv_at hl 1 rfl) ?_
    have hz := zlo_lt x1
    have hz2 : zlo x1 % n < n := Nat.mod_lt _ hn0
    refine lv_ldc (v := 2147483647) hx hb hown (hts _ q18) dX1_row_16 ?_
    refine zi_and hx hb dX1_row_18 ?_
    refine lv_aload_n hx hb dX1_row_19 rfl (lv_at hl 0 rfl) ?_
    refine zo_size hx hb hts hown hw 0 rfl q102 dX1_row_20 ?_
    refine zi_remN (a := zlo (x1)) (b := n) hx hb dX1_row_23 (by omega) (by omega) (by omega) (by omega) (by omega) ?_
    refine zl_ald hx hb hw 1 (zlo x1 % n) rfl (by omega) (by omega) (by omega) dX1_row_24 ?_
    exact z_lret hx hb hr hlocks hw () [0, 1] rfl rfl rfl dX1_row_25
  · exact absurd c_4 (by omega)
set_option maxHeartbeats 4000000 in
set_option maxRecDepth 100000 in
theorem met_row0 (l : Launch) (D : va_G) (dJ dI : ClassId) (o r : Nat) (f : Nat → Int64) (x1 : Int32) : zCJ l yX1_row cX1_row 2 0 0 0 0 D dJ dI [.ref o, .int x1] [zO o r (0), zL r dJ 4096 (f)] (fun (v : Int64) (_ : Unit) => v = 0) (fun _ => [zO o r (0), zL r dJ 4096 (f)]) := by
  refine z_met (by decide) (Nat.le_of_ble_eq_true rfl) ?_
  intro p e s m below meth c ls S hr hlocks hnm hw hl
  have S : CallFix p m c cX1_row 2 s _ lw_all RX1 := S
  obtain ⟨hx, hb, hml, hown, hts⟩ := id S
  have hl : lv_has ls 2 [(0, .ref o), (1, .int (x1))] := hl
  refine lv_aload_n hx hb dX1_row_0 rfl (lv_at hl 0 rfl) ?_
  refine zo_size hx hb hts hown hw 0 rfl q102 dX1_row_1 ?_
  refine zi_if_ne (tgt := 11) hx hb dX1_row_4 (by decide) (by omega) (fun c_4 => ?_) (fun c_4 => ?_)
  · exact absurd c_4 (by omega)
  · refine lv_lconst (v := 0) hx hb dX1_row_7 rfl ?_
    refine lv_goto (tgt := 25) hx hb dX1_row_8 (by decide) ?_
    exact z_lret hx hb hr hlocks hw () [0, 1] rfl rfl rfl dX1_row_25
set_option maxHeartbeats 4000000 in
set_option maxRecDepth 100000 in
theorem met_empty (l : Launch) (D : va_G) (dJ dI : ClassId) (o r n : Nat) (f : Nat → Int64) : zCV l yX1_empty cX1_empty 1 0 0 0 0 D dJ dI [.ref o] [zO o r (((n : Nat) : Int)), zL r dJ 4096 (f)] (fun (_ : Unit) => True) (fun _ => [zO o r (0), zL r dJ 4096 (f)]) := by
  refine z_met (by decide) (Nat.le_of_ble_eq_true rfl) ?_
  intro p e s m below meth c ls S hr hlocks hnm hw hl
  have S : CallFix p m c cX1_empty 1 s _ lw_all RX1 := S
  obtain ⟨hx, hb, hml, hown, hts⟩ := id S
  have hl : lv_has ls 1 [(0, .ref o)] := hl
  refine lv_aload_n hx hb dX1_empty_0 rfl (lv_at hl 0 rfl) ?_
  refine zi_const hx hb dX1_empty_1 ?_
  refine zo_put (ws' := [zO o r (0), zL r dJ 4096 (f)]) hx hb hts hown hw 0 rfl q102 dX1_empty_2 rfl (fun H locs hw => ?_)
  exact z_vret hx hb hr hlocks hw () [0, 1] rfl rfl trivial dX1_empty_5
section ZRAMP
variable {p : Program} {l : Launch} {e : Env} {s : State} {m : MethodId} {args : Array Value} {below : List Frame} {meth : Method} {c : Code} {Q : State → Prop} {D : va_G} {dJ dI : ClassId} {A : Nat → Prop}
set_option maxHeartbeats 4000000 in
set_option maxRecDepth 100000 in
theorem lp_ramp {o r n k : Nat} {x2 x3 x4 : Int32} {f : Nat → Int64} (S : CallFix p m c cX1_ramp 7 s args lw_all RX1) (hnk : n + k ≤ 4096) (kx : ∀ (g : Nat → Int64) (zs : Int) (H : Heap) (locs : List Loc) (ls : Array Slot), zs = ((n + k : Nat) : Int) → (∀ j, j < k → g (n + j) = zrv x2 x3 x4 j) → (∀ j, (j < n ∨ n + k ≤ j) → g j = f j) → zW D dJ dI A s [zO o r (zs), zL r dJ 4096 g] H locs → lv_has ls 7 [(5, .int (zi ((k : Nat) : Int)))] → W p l e (zRm 1 0 0 21) s m args below meth c H locs 0 0 Q (F0 m 82 ls [])) :
    ∀ (N i : Nat) (g : Nat → Int64) (z6 zs : Int) (H : Heap) (locs : List Loc) (ls : Array Slot), k < i + N → i ≤ k → z6 = ((i : Nat) : Int) → zs = ((n + i : Nat) : Int) → (∀ j, j < i → g (n + j) = zrv x2 x3 x4 j) → (∀ j, (j < n ∨ n + i ≤ j) → g j = f j) → zW D dJ dI A s [zO o r (zs), zL r dJ 4096 g] H locs → lv_has ls 7 [(0, .ref o), (2, .int x2), (3, .int x3), (4, .int x4), (5, .int (zi ((k : Nat) : Int))), (6, .int (zi z6))] → W p l e (zRm 1 0 0 21) s m args below meth c H locs 0 0 Q (F0 m 36 ls []) := by
  obtain ⟨hx, hb, hml, hown, hts⟩ := id S
  intro N
  induction N with
  | zero =>
    intro i g z6 zs H locs ls h1 h2
    exact absurd h1 (by omega)
  | succ N ih =>
    intro i g z6 zs H locs ls hN hi1 e6 es hg1 hg2 hw hl
    subst e6
    subst es
    refine lv_iload hx hb dX1_ramp_36 (lv_at hl 5 rfl) ?_
    refine lv_iload hx hb dX1_ramp_38 (lv_at hl 4 rfl) ?_
    refine zi_icmp_ge (tgt := 82) hx hb dX1_ramp_40 (by decide) (by omega) (by omega) (fun c_40 => ?_) (fun c_40 => ?_)
    · have e9 : i = k := by omega
      subst e9
      exact kx g _ H locs ls rfl hg1 hg2 hw (lv_sub hl [4] rfl)
    · refine lv_aload_n hx hb dX1_ramp_43 rfl (lv_at hl 0 rfl) ?_
      refine zo_rows hx hb hts hown hw 0 rfl q101 dX1_ramp_44 ?_
      refine lv_aload_n hx hb dX1_ramp_47 rfl (lv_at hl 0 rfl) ?_
      refine lv_dup hx hb dX1_ramp_48 rfl ?_
      refine zo_size hx hb hts hown hw 0 rfl q102 dX1_ramp_49 ?_
      refine lv_dup_x1 hx hb dX1_ramp_52 rfl rfl ?_
      refine zi_const hx hb dX1_ramp_53 ?_
      refine zi_add (r := ((n + i + 1 : Nat) : Int)) hx hb dX1_ramp_54 (by omega) ?_
      refine zo_put (ws' := [zO o r (((n + i + 1 : Nat) : Int)), zL r dJ 4096 (g)]) hx hb hts hown hw 0 rfl q102 dX1_ramp_55 rfl (fun H locs hw => ?_)
      refine lv_iload_n hx hb dX1_ramp_58 rfl (lv_at hl 1 rfl) ?_
      refine lv_iload_n hx hb dX1_ramp_59 rfl (lv_at hl 2 rfl) ?_
      refine z_calll (wr := [zO o r (((n + i + 1 : Nat) : Int)), zL r dJ 4096 (g)]) (wo := (fun _ : Unit => [zO o r (((n + i + 1 : Nat) : Int)), zL r dJ 4096 (g)])) (z_runS (n := 2) (rest := [.int (zi ((n + i : Nat) : Int)), .ref r]) S (met_wide l D dJ dI (x2) (x3)) (lw_S q112 q113 q3 q114) rfl rfl (by decide +kernel) ⟨Nat.le_of_ble_eq_true rfl, Nat.le_of_ble_eq_true rfl⟩ hw [] rfl rfl rfl hl.1 rfl (Nat.le_of_ble_eq_true rfl) dX1_ramp_60 ⟨Nat.le_refl _, Nat.le_refl _⟩) hw [] [0, 1] rfl rfl rfl (by decide) [0, 1] rfl (fun _ => rfl) (fun v9 _ H locs hp hw => ?_)
      subst hp
      refine lv_iload hx hb dX1_ramp_63 (lv_at hl 5 rfl) ?_
      refine lv_i2l (v := (zi (((i : Nat) : Int))).toInt64) hx hb dX1_ramp_65 rfl ?_
      refine lv_iload hx hb dX1_ramp_66 (lv_at hl 3 rfl) ?_
      refine lv_i2l (v := (x4).toInt64) hx hb dX1_ramp_68 rfl ?_
      refine lv_lmul hx hb dX1_ramp_69 ?_
      refine lv_ldc2 (v := 1000003) hx hb hown (hts _ q126) dX1_ramp_70 ?_
      refine lv_lmul hx hb dX1_ramp_73 ?_
      refine lv_ladd hx hb dX1_ramp_74 ?_
      refine zl_ast (ws' := [zO o r (((n + i + 1 : Nat) : Int)), zL r dJ 4096 (vp_updL (g) (n + i) ((zwide (x2) (x3) + (((zi (((i : Nat) : Int))).toInt64 * (x4).toInt64) * 1000003))))]) hx hb hw 1 (n + i) rfl (by omega) (by omega) (by omega) dX1_ramp_75 rfl (fun H locs hw => ?_)
      refine zi_inc (v := ((i + 1 : Nat) : Int)) (k := 5) (lv' := [(6, .int (zi (((i + 1 : Nat) : Int)))), (0, .ref o), (2, .int (x2)), (3, .int (x3)), (4, .int (x4)), (5, .int (zi (((k : Nat) : Int))))]) hx hb dX1_ramp_76 hl rfl (by omega) (by decide) rfl (fun ls hl => ?_)
      refine lv_goto (tgt := 36) hx hb dX1_ramp_79 (by decide) ?_
      exact ih (i + 1) (vp_updL (g) (n + i) ((zwide (x2) (x3) + (((zi (((i : Nat) : Int))).toInt64 * (x4).toInt64) * 1000003)))) _ _ H locs ls (by omega) (by omega) rfl (by omega) (fun j h => by
          by_cases q : j = i
          · rw [q, pk_uLs]
            rfl
          · rw [pk_uLn (by omega)]
            exact hg1 j (by omega)) (fun j h => by
          rw [pk_uLn (by omega)]
          exact hg2 j (by omega)) hw (lv_sub hl [1, 2, 3, 4, 5, 0] rfl)
end ZRAMP
set_option maxHeartbeats 4000000 in
set_option maxRecDepth 100000 in
theorem met_ramp (l : Launch) (D : va_G) (dJ dI : ClassId) (o r n k : Nat) (f : Nat → Int64) (x1 x2 x3 x4 : Int32) (hn : n ≤ 4096) (hk : k ≤ zlo x1 % 257 ∧ k ≤ 4096 - n ∧ (k = zlo x1 % 257 ∨ k = 4096 - n)) : zCI l yX1_ramp cX1_ramp 7 1 0 0 21 D dJ dI [.ref o, .int x1, .int x2, .int x3, .int x4] [zO o r (((n : Nat) : Int)), zL r dJ 4096 (f)] (fun (v : Int32) (g : Nat → Int64) => v = zi ((k : Nat) : Int) ∧ (∀ j, j < k → g (n + j) = zrv x2 x3 x4 j) ∧ ∀ j, (j < n ∨ n + k ≤ j) → g j = f j) (fun g => [zO o r ((n + k : Nat) : Int), zL r dJ 4096 g]) := by
  refine z_met (by decide) (Nat.le_of_ble_eq_true rfl) ?_
  intro p e s m below meth c ls S hr hlocks hnm hw hl
  have S : CallFix p m c cX1_ramp 7 s _ lw_all RX1 := S
  obtain ⟨hx, hb, hml, hown, hts⟩ := id S
  have hl : lv_has ls 7 [(0, .ref o), (1, .int (x1)), (2, .int (x2)), (3, .int (x3)), (4, .int (x4))] := hl
  refine lv_iload_n hx hb dX1_ramp_0 rfl (lv_at hl 1 rfl) ?_
  refine lv_ldc (v := 2147483647) hx hb hown (hts _ q18) dX1_ramp_1 ?_
  have hz := zlo_lt x1
  refine zi_and hx hb dX1_ramp_3 ?_
  refine lv_sipush (v := zi (257)) hx hb dX1_ramp_4 (by decide +kernel) ?_
  refine zi_remN (a := zlo (x1)) (b := 257) hx hb dX1_ramp_7 (by omega) (by omega) (by omega) (by omega) (by omega) ?_
  refine lv_istore (lv' := [(5, .int (zi ((((zlo (x1)) % (257) : Nat) : Int)))), (0, .ref o), (1, .int (x1)), (2, .int (x2)), (3, .int (x3)), (4, .int (x4))]) hx hb dX1_ramp_8 hl (by decide) rfl (fun ls hl => ?_)
  refine lv_iload hx hb dX1_ramp_10 (lv_at hl 0 rfl) ?_
  refine lv_sipush (v := zi (4096)) hx hb dX1_ramp_12 (by decide +kernel) ?_
  refine lv_aload_n hx hb dX1_ramp_15 rfl (lv_at hl 1 rfl) ?_
  refine zo_size hx hb hts hown hw 0 rfl q102 dX1_ramp_16 ?_
  refine zi_sub (r := ((4096 - n : Nat) : Int)) hx hb dX1_ramp_19 (by omega) ?_
  refine zi_icmp_le (tgt := 33) hx hb dX1_ramp_20 (by decide) (by omega) (by omega) (fun c_20 => ?_) (fun c_20 => ?_)
  · refine zi_const hx hb dX1_ramp_33 ?_
    refine lv_istore (lv' := [(6, .int (zi (0))), (5, .int (zi ((((zlo (x1)) % (257) : Nat) : Int)))), (0, .ref o), (1, .int (x1)), (2, .int (x2)), (3, .int (x3)), (4, .int (x4))]) hx hb dX1_ramp_34 hl (by decide) rfl (fun ls hl => ?_)
    have e9 : (((zlo (x1)) % (257) : Nat) : Int) = ((k : Nat) : Int) := by omega
    rw [e9] at hl
    refine lp_ramp (f := f) (n := n) (k := k) (x2 := x2) (x3 := x3) (x4 := x4) S (by omega) (fun g zs H locs ls ez h1 h2 hw hl => ?_) (k + 1) 0 f _ _ _ _ ls (by omega) (by omega) rfl rfl (fun j h => absurd h (Nat.not_lt_zero _)) (fun j h => rfl) hw (lv_sub hl [2, 4, 5, 6, 1, 0] rfl)
    subst ez
    refine lv_iload hx hb dX1_ramp_82 (lv_at hl 0 rfl) ?_
    exact z_iret hx hb hr hlocks hw g [0, 1] rfl rfl ⟨rfl, h1, h2⟩ dX1_ramp_84
  · refine lv_sipush (v := zi (4096)) hx hb dX1_ramp_23 (by decide +kernel) ?_
    refine lv_aload_n hx hb dX1_ramp_26 rfl (lv_at hl 1 rfl) ?_
    refine zo_size hx hb hts hown hw 0 rfl q102 dX1_ramp_27 ?_
    refine zi_sub (r := ((4096 - n : Nat) : Int)) hx hb dX1_ramp_30 (by omega) ?_
    refine lv_istore (lv' := [(5, .int (zi (((4096 - n : Nat) : Int)))), (0, .ref o), (1, .int (x1)), (2, .int (x2)), (3, .int (x3)), (4, .int (x4))]) hx hb dX1_ramp_31 hl (by decide) rfl (fun ls hl => ?_)
    refine zi_const hx hb dX1_ramp_33 ?_
    refine lv_istore (lv' := [(6, .int (zi (0))), (5, .int (zi (((4096 - n : Nat) : Int)))), (0, .ref o), (1, .int (x1)), (2, .int (x2)), (3, .int (x3)), (4, .int (x4))]) hx hb dX1_ramp_34 hl (by decide) rfl (fun ls hl => ?_)
    have e9 : ((4096 - n : Nat) : Int) = ((k : Nat) : Int) := by omega
    rw [e9] at hl
    refine lp_ramp (f := f) (n := n) (k := k) (x2 := x2) (x3 := x3) (x4 := x4) S (by omega) (fun g zs H locs ls ez h1 h2 hw hl => ?_) (k + 1) 0 f _ _ _ _ ls (by omega) (by omega) rfl rfl (fun j h => absurd h (Nat.not_lt_zero _)) (fun j h => rfl) hw (lv_sub hl [2, 4, 5, 6, 1, 0] rfl)
    subst ez
    refine lv_iload hx hb dX1_ramp_82 (lv_at hl 0 rfl) ?_
    exact z_iret hx hb hr hlocks hw g [0, 1] rfl rfl ⟨rfl, h1, h2⟩ dX1_ramp_84
set_option maxHeartbeats 4000000 in
set_option maxRecDepth 100000 in
theorem met_find (l : Launch) (D : va_G) (dJ dI : ClassId) (o r n : Nat) (f : Nat → Int64) (x1 x2 : Int32) (hn : n ≤ 1300) : zCI l yX1_find cX1_find 4 1304 1 n 36512 D dJ dI [.ref o, .int x1, .int x2] [zO o r (((n : Nat) : Int)), zL r dJ 4096 (f)] (fun (v : Int32) (u : Nat → Int64) => zs_pm f u 0 n ∧ zs_srt u 0 n ∧ ((∃ md, md < n ∧ u md = zwide x1 x2 ∧ v = zi 4096) ∨ ∃ ins, ins ≤ n ∧ (∀ j, j < ins → (u j).toInt < (zwide x1 x2).toInt) ∧ (∀ j, ins ≤ j → j < n → (zwide x1 x2).toInt < (u j).toInt) ∧ v = zi (-((ins : Int) + 1)))) (fun u => [zO o r (((n : Nat) : Int)), zL r dJ 4096 (u)]) := by
  refine z_met (by decide) (Nat.le_of_ble_eq_true rfl) ?_
  intro p e s m below meth c ls S hr hlocks hnm hw hl
  have S : CallFix p m c cX1_find 4 s _ lw_all RX1 := S
  obtain ⟨hx, hb, hml, hown, hts⟩ := id S
  have hl : lv_has ls 4 [(0, .ref o), (1, .int (x1)), (2, .int (x2))] := hl
  refine lv_aload_n hx hb dX1_find_0 rfl (lv_at hl 0 rfl) ?_
  refine zo_rows hx hb hts hown hw 0 rfl q101 dX1_find_1 ?_
  refine zi_const hx hb dX1_find_4 ?_
  refine lv_aload_n hx hb dX1_find_5 rfl (lv_at hl 0 rfl) ?_
  refine zo_size hx hb hts hown hw 0 rfl q102 dX1_find_6 ?_
  refine z_callv (wr := [zO o r (((n : Nat) : Int))]) (wo := (fun u : Nat → Int64 => [zO o r (((n : Nat) : Int)), zL r dJ 4096 (u)])) (z_runS (n := 3) (rest := []) S (met_merge l D dJ dI 1300 r 4096 f (0) (((n : Nat) : Int)) 0 n (by omega) (by omega) (by omega) (by omega) (by omega) (by omega) (by omega)) (lw_S q49 q50 q4 q51) rfl rfl (by decide +kernel) ⟨Nat.le_of_ble_eq_true rfl, Nat.le_of_ble_eq_true rfl⟩ hw [1] rfl rfl rfl hl.1 rfl (Nat.le_of_ble_eq_true rfl) dX1_find_9 ⟨Nat.le_of_ble_eq_true rfl, by show 0 + n ≤ n; omega⟩) hw [1] [0] rfl rfl rfl (by decide) [0, 1] rfl (fun _ => rfl) (fun u H locs hp hw => ?_)
  refine W.widen (k := 1) (n := n) (by omega) (by omega) ?_
  refine lv_aload_n hx hb dX1_find_12 rfl (lv_at hl 0 rfl) ?_
  refine zo_rows hx hb hts hown hw 0 rfl q101 dX1_find_13 ?_
  refine zi_const hx hb dX1_find_16 ?_
  refine lv_aload_n hx hb dX1_find_17 rfl (lv_at hl 0 rfl) ?_
  refine zo_size hx hb hts hown hw 0 rfl q102 dX1_find_18 ?_
  refine lv_iload_n hx hb dX1_find_21 rfl (lv_at hl 1 rfl) ?_
  refine lv_iload_n hx hb dX1_find_22 rfl (lv_at hl 2 rfl) ?_
  refine z_calll (wr := [zO o r (((n : Nat) : Int)), zL r dJ 4096 (u)]) (wo := (fun _ : Unit => [zO o r (((n : Nat) : Int)), zL r dJ 4096 (u)])) (z_runS (n := 2) (rest := [.int (zi (((n : Nat) : Int))), .int (zi (0)), .ref r]) S (met_wide l D dJ dI (x1) (x2)) (lw_S q112 q113 q3 q114) rfl rfl (by decide +kernel) ⟨Nat.le_of_ble_eq_true rfl, Nat.le_of_ble_eq_true rfl⟩ hw [] rfl rfl rfl hl.1 rfl (Nat.le_of_ble_eq_true rfl) dX1_find_23 ⟨Nat.le_refl _, Nat.le_refl _⟩) hw [] [0, 1] rfl rfl rfl (by decide) [0, 1] rfl (fun _ => rfl) (fun v9 _ H locs hp hw => ?_)
  subst hp
  refine z_calli (wr := [zO o r (((n : Nat) : Int))]) (wo := (fun _ : Int => [zO o r (((n : Nat) : Int)), zL r dJ 4096 (u)])) (z_runS (n := 4) (rest := []) S (met_bs l D dJ dI r 4096 u (zwide x1 x2) (0) (((n : Nat) : Int)) n (by omega) (by omega) (by omega) (by omega) hp.2) (lw_S q138 q139 q4 q140) rfl rfl (by decide +kernel) ⟨Nat.le_of_ble_eq_true rfl, Nat.le_of_ble_eq_true rfl⟩ hw [1] rfl rfl rfl hl.1 rfl (Nat.le_of_ble_eq_true rfl) dX1_find_26 ⟨Nat.le_refl _, Nat.le_refl _⟩) hw [1] [0] rfl rfl rfl (by decide) [0, 1] rfl (fun _ => rfl) (fun v9 z H locs hq hw => ?_)
  obtain ⟨hq0, hq⟩ := hq
  subst hq0
  have hzb : -4096 ≤ z ∧ z < 4096 := by
    rcases hq with ⟨md, y1, y2, y3⟩ | ⟨ins, y1, y2, y3, y4⟩ <;> omega
  refine lv_istore_n (lv' := [(3, .int (zi (z))), (0, .ref o), (1, .int (x1)), (2, .int (x2))]) hx hb dX1_find_29 rfl hl (by decide) rfl (fun ls hl => ?_)
  refine lv_iload_n hx hb dX1_find_30 rfl (lv_at hl 0 rfl) ?_
  refine zi_if_ge (tgt := 38) hx hb dX1_find_31 (by decide) (by omega) (fun c_31 => ?_) (fun c_31 => ?_)
  · obtain ⟨md, y1, y2, y3⟩ : ∃ md, md < n ∧ u md = zwide x1 x2 ∧ z = ((md : Nat) : Int) := by
      rcases hq with q | ⟨ins, y1, y2, y3, y4⟩
      · exact q
      · exact absurd c_31 (by omega)
    refine lv_aload_n hx hb dX1_find_38 rfl (lv_at hl 1 rfl) ?_
    refine zo_rows hx hb hts hown hw 0 rfl q101 dX1_find_39 ?_
    refine lv_iload_n hx hb dX1_find_42 rfl (lv_at hl 0 rfl) ?_
    refine zl_ald hx hb hw 1 (md) rfl (by omega) (by omega) (by omega) dX1_find_43 ?_
    refine lv_iload_n hx hb dX1_find_44 rfl (lv_at hl 2 rfl) ?_
    refine lv_iload_n hx hb dX1_find_45 rfl (lv_at hl 3 rfl) ?_
    refine z_calll (wr := [zO o r (((n : Nat) : Int)), zL r dJ 4096 (u)]) (wo := (fun _ : Unit => [zO o r (((n : Nat) : Int)), zL r dJ 4096 (u)])) (z_runS (n := 2) (rest := [.long ((u) (md))]) S (met_wide l D dJ dI (x1) (x2)) (lw_S q112 q113 q3 q114) rfl rfl (by decide +kernel) ⟨Nat.le_of_ble_eq_true rfl, Nat.le_of_ble_eq_true rfl⟩ hw [] rfl rfl rfl hl.1 rfl (Nat.le_of_ble_eq_true rfl) dX1_find_46 ⟨Nat.le_refl _, Nat.le_refl _⟩) hw [] [0, 1] rfl rfl rfl (by decide) [0, 1] rfl (fun _ => rfl) (fun v9 _ H locs hp hw => ?_)
    subst hp
    refine zl_cmp hx hb dX1_find_49 ?_
    have hz_49_2 := zcz_spec ((u) (md)) (zwide (x1) (x2))
    have y5 : (u md).toInt = (zwide x1 x2).toInt := by rw [y2]
    refine zi_if_ne (tgt := 59) hx hb dX1_find_50 (by decide) (by omega) (fun c_50 => ?_) (fun c_50 => ?_)
    · exact absurd c_50 (by omega)
    · refine lv_sipush (v := zi (4096)) hx hb dX1_find_53 (by decide +kernel) ?_
      refine lv_goto (tgt := 62) hx hb dX1_find_56 (by decide) ?_
      exact z_iret hx hb hr hlocks hw u [0, 1] rfl rfl ⟨hp.1, hp.2, Or.inl ⟨md, y1, y2, rfl⟩⟩ dX1_find_62
  · refine lv_iload_n hx hb dX1_find_34 rfl (lv_at hl 0 rfl) ?_
    refine lv_goto (tgt := 62) hx hb dX1_find_35 (by decide) ?_
    rcases hq with ⟨md, y1, y2, y3⟩ | hq
    · exact absurd c_31 (by omega)
    · exact z_iret hx hb hr hlocks hw u [0, 1] rfl rfl ⟨hp.1, hp.2, Or.inr ⟨hq.choose, hq.choose_spec.1, hq.choose_spec.2.1, hq.choose_spec.2.2.1, congrArg zi hq.choose_spec.2.2.2⟩⟩ dX1_find_62
set_option maxHeartbeats 4000000 in
set_option maxRecDepth 100000 in
theorem met_init (l : Launch) (D : va_G) (dJ dI : ClassId) (o : Nat) : zCV l yX1_init cX1_init 1 1 1 4096 12 D dJ dI [.ref o] [(o, .inr (0, [.null, .int (zi 0)]))] (fun (_ : Nat) => True) (fun r => [zO o r 0, zL r dJ 4096 (fun _ => 0)]) := by
  refine z_met (by decide) (Nat.le_of_ble_eq_true rfl) ?_
  intro p e s m below meth c ls S hr hlocks hnm hw hl
  have S : CallFix p m c cX1_init 1 s _ lw_all RX1 := S
  obtain ⟨hx, hb, hml, hown, hts⟩ := id S
  have hl : lv_has ls 1 [(0, .ref o)] := hl
  refine lv_aload_n hx hb dX1_init_0 rfl (lv_at hl 0 rfl) ?_
  refine W.objInit hx hb hown (hts _ q98) (hts _ q99) (hts _ q100) rfl (by rw [hml]; exact hl.1) rfl dX1_init_1 (Nat.le_of_ble_eq_true rfl) (Nat.le_of_ble_eq_true rfl) ?_
  refine W.eq (g2 := F0 m 4 ls []) rfl ?_
  refine lv_aload_n hx hb dX1_init_4 rfl (lv_at hl 0 rfl) ?_
  refine lv_sipush (v := zi (4096)) hx hb dX1_init_5 (by decide +kernel) ?_
  refine zl_new (k := 4096) hx hb hts hw (by omega) (by omega) (Nat.le_of_ble_eq_true rfl) (Nat.le_of_ble_eq_true rfl) dX1_init_8 (fun r H hw => ?_)
  have hw : zW D dJ dI _ s [(o, .inr (0, [.null, .int (zi 0)])), zL r dJ 4096 (fun _ => 0)] H _ := hw
  refine W.widen (k := 1) (n := 4096) (Nat.le_of_ble_eq_true rfl) (Nat.le_of_ble_eq_true rfl) ?_
  refine va_putF (D := D) (ci := 0) (v := .ref r) (ty := .array .long) (C := RX1) (T := TX1) (N := 2) hx hb hts in_X1 tyX1 tyX1_ok nmX1 hown hw.1 hw.2.1 hw.2.2.1 hw.2.2.2.1 0 rfl rfl 0 (by decide) (hts _ q101) (fun _ h9 => h9) rfl hnm rfl (by decide +kernel) rfl rfl (Nat.le_of_ble_eq_true rfl) dX1_init_10 (fun H locs hP hD hS => ?_)
  have hw : zW D dJ dI _ s [zO o r 0, zL r dJ 4096 (fun _ => 0)] H _ := ⟨hw.1, hP, hD, hS, hw.2.2.2.2⟩
  exact z_vret hx hb hr hlocks hw r [0, 1] rfl rfl trivial dX1_init_13
end
section
/-! LongSortDeskLaw: cell, made, lines; rows for the law's own script and for new desks. Printed by gen/m16.py -/
set_option maxRecDepth 100000
abbrev zXC (l : Launch) (y : MethodName) (cc : ByteArray) (maxL fr mc ms lo : Nat) (ret : FieldType) (D : va_G) (dJ dI : ClassId) (av : List Value) (sb sL : Nat) (sx : Nat → Int32) {S : Type} (post : Int32 → S → Prop) (out : S → va_W) : Prop := ∀ sz, Met l y (ws_ y cc maxL (some ret)) (zRm fr mc ms lo) (zPreX D dJ dI av sb sL sx sz) (va_Qi post (fun u => zOut D (va_A [] sz) (out u)) (va_A [] sz)) mc ms (va_A [] sz)
abbrev zXR (l : Launch) (y : MethodName) (cc : ByteArray) (maxL fr mc ms lo : Nat) (ret : FieldType) (D : va_G) (dJ dI : ClassId) (av : List Value) (sb sL : Nat) (sx : Nat → Int32) {S : Type} (post : S → Prop) (out : S → Nat → va_W) : Prop := ∀ sz, Met l y (ws_ y cc maxL (some ret)) (zRm fr mc ms lo) (zPreX D dJ dI av sb sL sx sz) (va_Qr post (fun u q => zOut D (va_A [] sz) (out u q)) (va_A [] sz)) mc ms (va_A [] sz)
/-- the script's int k, 0 behind its end -/
def zcell (sL : Nat) (sx : Nat → Int32) (k : Nat) : Int32 := if k < sL then sx k else 0
/-- the rows of a desk that 'made' gives -/
def zmk (sL : Nat) (sx : Nat → Int32) (j : Nat) : Int64 := if j < 24 then zwide (zcell sL sx (2 + 2 * j)) (zcell sL sx (2 + 2 * j + 1)) else 0
section ZX
variable {p : Program} {l : Launch} {e : Env} {R : Room} {s : State} {m : MethodId} {args : Array Value} {below : List Frame} {meth : Method} {c : Code} {H : Heap} {locs : List Loc} {cells slots : Nat} {Q : State → Prop}
variable {cc : ByteArray} {pc : Nat} {ls : Array Slot} {rest : List Value} {D : va_G} {dJ dI : ClassId} {A : Nat → Prop} {ws : va_W}
theorem zx_len {sb sL : Nat} {sx : Nat → Int32} (hx : p.tables.exec = Jvm.exec) (hb : c.code = cc) (hw : zW D dJ dI A s ws H locs) (hX : va_X sb sL sx s s.heap) (hbl : sb < s.heap.size) (hbA : ¬ A sb) (d : decode cc pc = .ok (.arraylength, 1)) (kk : W p l e R s m args below meth c H locs cells slots Q (F0 m (pc + 1) ls (.int (zi ((sL : Nat) : Int)) :: rest))) : W p l e R s m args below meth c H locs cells slots Q (F0 m pc ls (.ref sb :: rest)) := by
  refine va_slen hx hb hX hbl hbA hw.2.2.2.1 d ?_
  rw [show Int32.ofNat sL = zi ((sL : Nat) : Int) from zi_nI sL]
  exact kk
theorem zx_ald {sb sL : Nat} {sx : Nat → Int32} {z : Int} (hx : p.tables.exec = Jvm.exec) (hb : c.code = cc) (hw : zW D dJ dI A s ws H locs) (hX : va_X sb sL sx s s.heap) (hbl : sb < s.heap.size) (hbA : ¬ A sb) (k : Nat) (hk : z = (k : Int)) (hkL : k < sL) (hL : sL < 2147483648) (d : decode cc pc = .ok (.iaload, 1)) (kk : W p l e R s m args below meth c H locs cells slots Q (F0 m (pc + 1) ls (.int (sx k) :: rest))) : W p l e R s m args below meth c H locs cells slots Q (F0 m pc ls (.int (zi z) :: .ref sb :: rest)) := by
  refine va_sld hx hb hX hbl hbA hw.2.2.2.1 (zi_in hk hkL hL) d ?_
  rw [zi_cl hk (by omega)]
  exact kk
/-- new LongSortDesk, its fields empty yet -/
theorem zo_new (hx : p.tables.exec = Jvm.exec) (hb : c.code = cc) (hts : ∀ w ∈ lw_all, w.before args s = true) (hown : s.vm.findClass RX0 = some m.cls) (hw : zW D dJ dI A s ws H locs) (hcells : cells + 1 ≤ R.cells) (hslots : slots + 2 ≤ R.slots) (d : decode cc pc = .ok (.new 7, 3)) (kk : ∀ (q : Nat) (H1 : Heap), zW D dJ dI A s (ws ++ [(q, .inr (0, [.null, .int (zi 0)]))]) H1 locs → W p l e R s m args below meth c H1 locs (cells + 1) (slots + 2) Q (F0 m (pc + 3) ls (.ref q :: rest))) : W p l e R s m args below meth c H locs cells slots Q (F0 m pc ls rest) :=
  va_new (ci := 0) (fs := [.null, .int (zi 0)]) (C := RX1) (T := TX1) (N := 2) hx hb hts in_X1 tyX1 tyX1_ok hown (hts _ q94) (hts _ q16) (hts _ q3) hw.1 hw.2.1 hw.2.2.1 hw.2.2.2.1 hw.2.2.2.2 rfl (fun j hj => by rcases (show j = 0 ∨ j = 1 by omega) with rfl | rfl <;> rfl) hcells hslots d (fun q H1 hP hD hS => kk q H1 ⟨hw.1, hP, hD, hS, hw.2.2.2.2⟩)
theorem zi_or01 {x y r : Int} (hx : p.tables.exec = Jvm.exec) (hb : c.code = cc) (h1 : x = 0 ∨ x = 1) (h2 : y = 0 ∨ y = 1) (hr : (r = 0 ∧ x = 0 ∧ y = 0) ∨ (r = 1 ∧ (x = 1 ∨ y = 1))) (d : decode cc pc = .ok (.ior, 1)) (k : W p l e R s m args below meth c H locs cells slots Q (F0 m (pc + 1) ls (.int (zi r) :: rest))) : W p l e R s m args below meth c H locs cells slots Q (F0 m pc ls (.int (zi y) :: .int (zi x) :: rest)) := by
  refine lv_ior hx hb d ?_
  have e : zi x ||| zi y = zi r := by
    rcases h1 with rfl | rfl <;> rcases h2 with rfl | rfl <;> rcases hr with ⟨rfl, h3, h4⟩ | ⟨rfl, h3⟩ <;> first | rfl | (exfalso; omega)
  rw [e]
  exact k
end ZX
set_option maxHeartbeats 4000000 in
set_option maxRecDepth 100000 in
theorem met_cell (l : Launch) (D : va_G) (dJ dI : ClassId) (sb sL : Nat) (sx : Nat → Int32) (hL : sL ≤ 50) (z : Int) (k : Nat) (hz : z = (k : Int)) (hk : k < 2147483648) : zXC l yX0_cell cX0_cell 2 0 0 0 0 .int D dJ dI [.ref sb, .int (zi z)] sb sL sx (fun (v : Int32) (_ : Unit) => v = zcell sL sx k) (fun _ => []) := by
  subst hz
  refine z_metX (by decide) (Nat.le_of_ble_eq_true rfl) ?_
  intro p e s m below meth c ls S hr hlocks hX hbl hbA hw hl
  have S : CallFix p m c cX0_cell 2 s _ lw_all RX0 := S
  obtain ⟨hx, hb, hml, hown, hts⟩ := id S
  have hl : lv_has ls 2 [(0, .ref sb), (1, .int (zi (((k : Nat) : Int))))] := hl
  refine lv_iload_n hx hb dX0_cell_0 rfl (lv_at hl 1 rfl) ?_
  refine lv_aload_n hx hb dX0_cell_1 rfl (lv_at hl 0 rfl) ?_
  refine zx_len hx hb hw hX hbl hbA dX0_cell_2 ?_
  refine zi_icmp_ge (tgt := 12) hx hb dX0_cell_3 (by decide) (by omega) (by omega) (fun c_3 => ?_) (fun c_3 => ?_)
  · refine zi_const hx hb dX0_cell_12 ?_
    exact z_iret hx hb hr hlocks hw () [] rfl rfl (by
        show zi 0 = zcell sL sx k
        exact (if_neg (by omega)).symm) dX0_cell_13
  · refine lv_aload_n hx hb dX0_cell_6 rfl (lv_at hl 0 rfl) ?_
    refine lv_iload_n hx hb dX0_cell_7 rfl (lv_at hl 1 rfl) ?_
    refine zx_ald hx hb hw hX hbl hbA k rfl (by omega) (by omega) dX0_cell_8 ?_
    refine lv_goto (tgt := 13) hx hb dX0_cell_9 (by decide) ?_
    exact z_iret hx hb hr hlocks hw () [] rfl rfl (by
        show sx k = zcell sL sx k
        exact (if_pos (by omega)).symm) dX0_cell_13
section ZMADE
variable {p : Program} {l : Launch} {e : Env} {s : State} {m : MethodId} {args : Array Value} {below : List Frame} {meth : Method} {c : Code} {Q : State → Prop} {D : va_G} {dJ dI : ClassId} {A : Nat → Prop}
set_option maxHeartbeats 4000000 in
set_option maxRecDepth 100000 in
theorem lp_made {sb sL o r : Nat} {sx : Nat → Int32} (S : CallFix p m c cX0_made 3 s args lw_all RX0) (hL : sL ≤ 50) (hX : va_X sb sL sx s s.heap) (hbl : sb < s.heap.size) (hbA : ¬ A sb) (kx : ∀ (H : Heap) (locs : List Loc) (ls : Array Slot), zW D dJ dI A s [zO o r ((24 : Nat) : Int), zL r dJ 4096 (zmk sL sx)] H locs → lv_has ls 3 [(1, .ref o)] → W p l e (zRm 2 2 4098 48) s m args below meth c H locs 2 4098 Q (F0 m 39 ls [])) :
    ∀ (N i : Nat) (g : Nat → Int64) (z2 : Int) (H : Heap) (locs : List Loc) (ls : Array Slot), 24 < i + N → i ≤ 24 → z2 = ((2 + 2 * i : Nat) : Int) → (∀ j, j < i → g j = zmk sL sx j) → (∀ j, i ≤ j → g j = 0) → zW D dJ dI A s [zO o r ((i : Nat) : Int), zL r dJ 4096 g] H locs → lv_has ls 3 [(0, .ref sb), (1, .ref o), (2, .int (zi z2))] → W p l e (zRm 2 2 4098 48) s m args below meth c H locs 2 4098 Q (F0 m 10 ls []) := by
  obtain ⟨hx, hb, hml, hown, hts⟩ := id S
  intro N
  induction N with
  | zero =>
    intro i g z2 H locs ls h1 h2
    exact absurd h1 (by omega)
  | succ N ih =>
    intro i g z2 H locs ls hN hi1 e2 hg1 hg2 hw hl
    subst e2
    refine lv_iload_n hx hb dX0_made_10 rfl (lv_at hl 2 rfl) ?_
    refine lv_bipush (v := zi (50)) hx hb dX0_made_11 (by decide +kernel) ?_
    refine zi_icmp_ge (tgt := 39) hx hb dX0_made_13 (by decide) (by omega) (by omega) (fun c_13 => ?_) (fun c_13 => ?_)
    · have e9 : i = 24 := by omega
      have eg : g = zmk sL sx := by
        funext j
        rcases Nat.lt_or_ge j 24 with q | q
        · exact hg1 j (by omega)
        · rw [hg2 j (by omega)]
          exact (if_neg (by omega)).symm
      rw [e9, eg] at hw
      exact kx H locs ls hw (lv_sub hl [1] rfl)
    · refine lv_aload_n hx hb dX0_made_16 rfl (lv_at hl 1 rfl) ?_
      refine lv_aload_n hx hb dX0_made_17 rfl (lv_at hl 0 rfl) ?_
      refine lv_iload_n hx hb dX0_made_18 rfl (lv_at hl 2 rfl) ?_
      refine z_calli (wr := [zO o r (((i : Nat) : Int)), zL r dJ 4096 (g)]) (wo := (fun _ : Unit => [zO o r (((i : Nat) : Int)), zL r dJ 4096 (g)])) (z_runX (n := 2) (rest := [.ref o]) S (met_cell l D dJ dI sb sL sx hL (((2 + 2 * i : Nat) : Int)) (2 + 2 * i) (by omega) (by omega)) (lw_S q88 q89 q2 q90) rfl rfl (by decide +kernel) ⟨Nat.le_of_ble_eq_true rfl, Nat.le_of_ble_eq_true rfl⟩ hw hX hbl hbA rfl hl.1 rfl (Nat.le_of_ble_eq_true rfl) dX0_made_19 ⟨Nat.le_refl _, Nat.le_refl _⟩) hw [] [0, 1] rfl rfl rfl (by decide) [0, 1] rfl (fun _ => rfl) (fun v9 _ H locs hp hw => ?_)
      subst hp
      refine lv_aload_n hx hb dX0_made_22 rfl (lv_at hl 0 rfl) ?_
      refine lv_iload_n hx hb dX0_made_23 rfl (lv_at hl 2 rfl) ?_
      refine zi_const hx hb dX0_made_24 ?_
      refine zi_add (r := ((2 + 2 * i + 1 : Nat) : Int)) hx hb dX0_made_25 (by omega) ?_
      refine z_calli (wr := [zO o r (((i : Nat) : Int)), zL r dJ 4096 (g)]) (wo := (fun _ : Unit => [zO o r (((i : Nat) : Int)), zL r dJ 4096 (g)])) (z_runX (n := 2) (rest := [.int (zcell sL sx (2 + 2 * i)), .ref o]) S (met_cell l D dJ dI sb sL sx hL (((2 + 2 * i + 1 : Nat) : Int)) (2 + 2 * i + 1) (by omega) (by omega)) (lw_S q88 q89 q2 q90) rfl rfl (by decide +kernel) ⟨Nat.le_of_ble_eq_true rfl, Nat.le_of_ble_eq_true rfl⟩ hw hX hbl hbA rfl hl.1 rfl (Nat.le_of_ble_eq_true rfl) dX0_made_26 ⟨Nat.le_refl _, Nat.le_refl _⟩) hw [] [0, 1] rfl rfl rfl (by decide) [0, 1] rfl (fun _ => rfl) (fun v9 _ H locs hp hw => ?_)
      subst hp
      refine z_calli (wr := []) (wo := (fun _ : Unit => [zO o r (((i + 1 : Nat) : Int)), zL r dJ 4096 (vp_updL (g) i (zwide (zcell sL sx (2 + 2 * i)) (zcell sL sx (2 + 2 * i + 1))))])) (z_runV (n := 2) (rest := []) S (met_put l D dJ dI o r i (g) (zcell sL sx (2 + 2 * i)) (zcell sL sx (2 + 2 * i + 1)) (by omega)) (lw_V q108 q109 q110 q3 q111) rfl rfl (by decide +kernel) ⟨Nat.le_of_ble_eq_true rfl, Nat.le_of_ble_eq_true rfl⟩ hw [0, 1] rfl rfl 0 rfl rfl hl.1 rfl (Nat.le_of_ble_eq_true rfl) dX0_made_29 ⟨Nat.le_refl _, Nat.le_refl _⟩) hw [0, 1] [] rfl rfl rfl (by decide) [0, 1] rfl (fun _ => rfl) (fun v9 _ H locs hp hw => ?_)
      subst hp
      refine lv_pop hx hb dX0_made_32 rfl ?_
      refine zi_inc (v := ((2 + 2 * (i + 1) : Nat) : Int)) (k := 2) (lv' := [(2, .int (zi (((2 + 2 * (i + 1) : Nat) : Int)))), (0, .ref sb), (1, .ref o)]) hx hb dX0_made_33 hl rfl (by omega) (by decide) rfl (fun ls hl => ?_)
      refine lv_goto (tgt := 10) hx hb dX0_made_36 (by decide) ?_
      exact ih (i + 1) (vp_updL (g) i (zwide (zcell sL sx (2 + 2 * i)) (zcell sL sx (2 + 2 * i + 1)))) _ H locs ls (by omega) (by omega) (by omega) (fun j h => by
          by_cases q : j = i
          · rw [q, pk_uLs]
            exact (if_pos (by omega)).symm
          · rw [pk_uLn q]
            exact hg1 j (by omega)) (fun j h => by
          rw [pk_uLn (by omega)]
          exact hg2 j (by omega)) hw (lv_sub hl [1, 2, 0] rfl)
end ZMADE
set_option maxHeartbeats 4000000 in
set_option maxRecDepth 100000 in
theorem met_made (l : Launch) (D : va_G) (dJ dI : ClassId) (sb sL : Nat) (sx : Nat → Int32) (hL : sL ≤ 50) : zXR l yX0_made cX0_made 3 2 2 4098 48 (.object "LongSortDesk") D dJ dI [.ref sb] sb sL sx (fun (_ : Nat) => True) (fun r o => [zO o r ((24 : Nat) : Int), zL r dJ 4096 (zmk sL sx)]) := by
  refine z_metX (by decide) (Nat.le_of_ble_eq_true rfl) ?_
  intro p e s m below meth c ls S hr hlocks hX hbl hbA hw hl
  have S : CallFix p m c cX0_made 3 s _ lw_all RX0 := S
  obtain ⟨hx, hb, hml, hown, hts⟩ := id S
  have hl : lv_has ls 3 [(0, .ref sb)] := hl
  refine zo_new hx hb hts hown hw (Nat.le_of_ble_eq_true rfl) (Nat.le_of_ble_eq_true rfl) dX0_made_0 (fun o H hw => ?_)
  have hw : zW D dJ dI _ s [(o, .inr (0, [.null, .int (zi 0)]))] H _ := hw
  refine W.widen (k := 1) (n := 2) (Nat.le_of_ble_eq_true rfl) (Nat.le_of_ble_eq_true rfl) ?_
  refine lv_dup hx hb dX0_made_3 rfl ?_
  refine z_callv (wr := []) (wo := (fun r : Nat => [zO o r (0), zL r dJ 4096 (fun _ => 0)])) (z_runI (n := 0) (rest := [.ref o]) S (met_init l D dJ dI o) q97 q3 q95 q96 rfl rfl rfl (by decide +kernel) ⟨Nat.le_of_ble_eq_true rfl, Nat.le_of_ble_eq_true rfl⟩ hw [0] rfl rfl rfl hl.1 rfl (Nat.le_of_ble_eq_true rfl) dX0_made_4 ⟨Nat.le_of_ble_eq_true rfl, Nat.le_of_ble_eq_true rfl⟩) hw [0] [] rfl rfl rfl (by decide) [0, 1] rfl (fun _ => rfl) (fun r H locs _ hw => ?_)
  refine W.widen (k := 2) (n := 4098) (Nat.le_of_ble_eq_true rfl) (Nat.le_of_ble_eq_true rfl) ?_
  refine lv_astore_n (lv' := [(1, .ref o), (0, .ref sb)]) hx hb dX0_made_7 rfl hl (by decide) rfl (fun ls hl => ?_)
  refine zi_const hx hb dX0_made_8 ?_
  refine lv_istore_n (lv' := [(2, .int (zi (2))), (1, .ref o), (0, .ref sb)]) hx hb dX0_made_9 rfl hl (by decide) rfl (fun ls hl => ?_)
  refine lp_made (sb := sb) (sL := sL) (sx := sx) S hL hX hbl hbA (fun H locs ls hw hl => ?_) 25 0 (fun _ => 0) _ H locs ls (by omega) (by omega) (by omega) (fun j h => absurd h (Nat.not_lt_zero _)) (fun _ _ => rfl) hw (lv_sub hl [2, 1, 0] rfl)
  refine lv_aload_n hx hb dX0_made_39 rfl (lv_at hl 0 rfl) ?_
  exact z_aret hx hb hr (Or.inl ⟨_, rfl⟩) hlocks hw r [0, 1] rfl rfl trivial dX0_made_40
set_option maxHeartbeats 4000000 in
set_option maxRecDepth 100000 in
theorem met_lines (l : Launch) (D : va_G) (dJ dI : ClassId) (sb sL : Nat) (sx : Nat → Int32) (hL : sL ≤ 50) : zXR l yX0_lines cX0_lines 1 1 1 15 21 (.array .int) D dJ dI [.ref sb] sb sL sx (fun (u : Nat → Int32) => ∀ j, j < 15 → u j = zcell sL sx (2 + j)) (fun u q => [zR q dI 15 u]) := by
  refine z_metX (by decide) (Nat.le_of_ble_eq_true rfl) ?_
  intro p e s m below meth c ls S hr hlocks hX hbl hbA hw hl
  have S : CallFix p m c cX0_lines 1 s _ lw_all RX0 := S
  obtain ⟨hx, hb, hml, hown, hts⟩ := id S
  have hl : lv_has ls 1 [(0, .ref sb)] := hl
  refine lv_bipush (v := zi (15)) hx hb dX0_lines_0 (by decide +kernel) ?_
  refine zn_new (k := 15) hx hb hts hw (by omega) (by omega) (Nat.le_of_ble_eq_true rfl) (Nat.le_of_ble_eq_true rfl) dX0_lines_2 (fun q H hw => ?_)
  have hw : zW D dJ dI _ s [zR q dI 15 (fun _ => zi 0)] H _ := hw
  refine W.widen (k := 1) (n := 15) (Nat.le_of_ble_eq_true rfl) (Nat.le_of_ble_eq_true rfl) ?_
  refine lv_dup hx hb dX0_lines_4 rfl ?_
  refine zi_const hx hb dX0_lines_5 ?_
  refine lv_aload_n hx hb dX0_lines_6 rfl (lv_at hl 0 rfl) ?_
  refine zi_const hx hb dX0_lines_7 ?_
  refine z_calli (wr := [zR q dI 15 (fun _ => zi 0)]) (wo := (fun _ : Unit => [zR q dI 15 (fun _ => zi 0)])) (z_runX (n := 2) (rest := [.int (zi (0)), .ref q, .ref q]) S (met_cell l D dJ dI sb sL sx hL (2) (2) (by omega) (by omega)) (lw_S q88 q89 q2 q90) rfl rfl (by decide +kernel) ⟨Nat.le_of_ble_eq_true rfl, Nat.le_of_ble_eq_true rfl⟩ hw hX hbl hbA rfl hl.1 rfl (Nat.le_of_ble_eq_true rfl) dX0_lines_8 ⟨Nat.le_of_ble_eq_true rfl, Nat.le_of_ble_eq_true rfl⟩) hw [] [0] rfl rfl rfl (by decide) [0] rfl (fun _ => rfl) (fun v9 _ H locs hp hw => ?_)
  subst hp
  refine zr_ast (ws' := [zR q dI 15 (upd (fun _ => zi 0) (0) (zcell sL sx (2)))]) hx hb hw 0 (0) rfl (by omega) (by omega) (by omega) dX0_lines_11 rfl (fun H locs hw => ?_)
  refine lv_dup hx hb dX0_lines_12 rfl ?_
  refine zi_const hx hb dX0_lines_13 ?_
  refine lv_aload_n hx hb dX0_lines_14 rfl (lv_at hl 0 rfl) ?_
  refine zi_const hx hb dX0_lines_15 ?_
  refine z_calli (wr := [zR q dI 15 (upd (fun _ => zi 0) (0) (zcell sL sx (2)))]) (wo := (fun _ : Unit => [zR q dI 15 (upd (fun _ => zi 0) (0) (zcell sL sx (2)))])) (z_runX (n := 2) (rest := [.int (zi (1)), .ref q, .ref q]) S (met_cell l D dJ dI sb sL sx hL (3) (3) (by omega) (by omega)) (lw_S q88 q89 q2 q90) rfl rfl (by decide +kernel) ⟨Nat.le_of_ble_eq_true rfl, Nat.le_of_ble_eq_true rfl⟩ hw hX hbl hbA rfl hl.1 rfl (Nat.le_of_ble_eq_true rfl) dX0_lines_16 ⟨Nat.le_of_ble_eq_true rfl, Nat.le_of_ble_eq_true rfl⟩) hw [] [0] rfl rfl rfl (by decide) [0] rfl (fun _ => rfl) (fun v9 _ H locs hp hw => ?_)
  subst hp
  refine zr_ast (ws' := [zR q dI 15 (upd (upd (fun _ => zi 0) (0) (zcell sL sx (2))) (1) (zcell sL sx (3)))]) hx hb hw 0 (1) rfl (by omega) (by omega) (by omega) dX0_lines_19 rfl (fun H locs hw => ?_)
  refine lv_dup hx hb dX0_lines_20 rfl ?_
  refine zi_const hx hb dX0_lines_21 ?_
  refine lv_aload_n hx hb dX0_lines_22 rfl (lv_at hl 0 rfl) ?_
  refine zi_const hx hb dX0_lines_23 ?_
  refine z_calli (wr := [zR q dI 15 (upd (upd (fun _ => zi 0) (0) (zcell sL sx (2))) (1) (zcell sL sx (3)))]) (wo := (fun _ : Unit => [zR q dI 15 (upd (upd (fun _ => zi 0) (0) (zcell sL sx (2))) (1) (zcell sL sx (3)))])) (z_runX (n := 2) (rest := [.int (zi (2)), .ref q, .ref q]) S (met_cell l D dJ dI sb sL sx hL (4) (4) (by omega) (by omega)) (lw_S q88 q89 q2 q90) rfl rfl (by decide +kernel) ⟨Nat.le_of_ble_eq_true rfl, Nat.le_of_ble_eq_true rfl⟩ hw hX hbl hbA rfl hl.1 rfl (Nat.le_of_ble_eq_true rfl) dX0_lines_24 ⟨Nat.le_of_ble_eq_true rfl, Nat.le_of_ble_eq_true rfl⟩) hw [] [0] rfl rfl rfl (by decide) [0] rfl (fun _ => rfl) (fun v9 _ H locs hp hw => ?_)
  subst hp
  refine zr_ast (ws' := [zR q dI 15 (upd (upd (upd (fun _ => zi 0) (0) (zcell sL sx (2))) (1) (zcell sL sx (3))) (2) (zcell sL sx (4)))]) hx hb hw 0 (2) rfl (by omega) (by omega) (by omega) dX0_lines_27 rfl (fun H locs hw => ?_)
  refine lv_dup hx hb dX0_lines_28 rfl ?_
  refine zi_const hx hb dX0_lines_29 ?_
  refine lv_aload_n hx hb dX0_lines_30 rfl (lv_at hl 0 rfl) ?_
  refine zi_const hx hb dX0_lines_31 ?_
  refine z_calli (wr := [zR q dI 15 (upd (upd (upd (fun _ => zi 0) (0) (zcell sL sx (2))) (1) (zcell sL sx (3))) (2) (zcell sL sx (4)))]) (wo := (fun _ : Unit => [zR q dI 15 (upd (upd (upd (fun _ => zi 0) (0) (zcell sL sx (2))) (1) (zcell sL sx (3))) (2) (zcell sL sx (4)))])) (z_runX (n := 2) (rest := [.int (zi (3)), .ref q, .ref q]) S (met_cell l D dJ dI sb sL sx hL (5) (5) (by omega) (by omega)) (lw_S q88 q89 q2 q90) rfl rfl (by decide +kernel) ⟨Nat.le_of_ble_eq_true rfl, Nat.le_of_ble_eq_true rfl⟩ hw hX hbl hbA rfl hl.1 rfl (Nat.le_of_ble_eq_true rfl) dX0_lines_32 ⟨Nat.le_of_ble_eq_true rfl, Nat.le_of_ble_eq_true rfl⟩) hw [] [0] rfl rfl rfl (by decide) [0] rfl (fun _ => rfl) (fun v9 _ H locs hp hw => ?_)
  subst hp
  refine zr_ast (ws' := [zR q dI 15 (upd (upd (upd (upd (fun _ => zi 0) (0) (zcell sL sx (2))) (1) (zcell sL sx (3))) (2) (zcell sL sx (4))) (3) (zcell sL sx (5)))]) hx hb hw 0 (3) rfl (by omega) (by omega) (by omega) dX0_lines_35 rfl (fun H locs hw => ?_)
  refine lv_dup hx hb dX0_lines_36 rfl ?_
  refine zi_const hx hb dX0_lines_37 ?_
  refine lv_aload_n hx hb dX0_lines_38 rfl (lv_at hl 0 rfl) ?_
  refine lv_bipush (v := zi (6)) hx hb dX0_lines_39 (by decide +kernel) ?_
  refine z_calli (wr := [zR q dI 15 (upd (upd (upd (upd (fun _ => zi 0) (0) (zcell sL sx (2))) (1) (zcell sL sx (3))) (2) (zcell sL sx (4))) (3) (zcell sL sx (5)))]) (wo := (fun _ : Unit => [zR q dI 15 (upd (upd (upd (upd (fun _ => zi 0) (0) (zcell sL sx (2))) (1) (zcell sL sx (3))) (2) (zcell sL sx (4))) (3) (zcell sL sx (5)))])) (z_runX (n := 2) (rest := [.int (zi (4)), .ref q, .ref q]) S (met_cell l D dJ dI sb sL sx hL (6) (6) (by omega) (by omega)) (lw_S q88 q89 q2 q90) rfl rfl (by decide +kernel) ⟨Nat.le_of_ble_eq_true rfl, Nat.le_of_ble_eq_true rfl⟩ hw hX hbl hbA rfl hl.1 rfl (Nat.le_of_ble_eq_true rfl) dX0_lines_41 ⟨Nat.le_of_ble_eq_true rfl, Nat.le_of_ble_eq_true rfl⟩) hw [] [0] rfl rfl rfl (by decide) [0] rfl (fun _ => rfl) (fun v9 _ H locs hp hw => ?_)
  subst hp
  refine zr_ast (ws' := [zR q dI 15 (upd (upd (upd (upd (upd (fun _ => zi 0) (0) (zcell sL sx (2))) (1) (zcell sL sx (3))) (2) (zcell sL sx (4))) (3) (zcell sL sx (5))) (4) (zcell sL sx (6)))]) hx hb hw 0 (4) rfl (by omega) (by omega) (by omega) dX0_lines_44 rfl (fun H locs hw => ?_)
  refine lv_dup hx hb dX0_lines_45 rfl ?_
  refine zi_const hx hb dX0_lines_46 ?_
  refine lv_aload_n hx hb dX0_lines_47 rfl (lv_at hl 0 rfl) ?_
  refine lv_bipush (v := zi (7)) hx hb dX0_lines_48 (by decide +kernel) ?_
  refine z_calli (wr := [zR q dI 15 (upd (upd (upd (upd (upd (fun _ => zi 0) (0) (zcell sL sx (2))) (1) (zcell sL sx (3))) (2) (zcell sL sx (4))) (3) (zcell sL sx (5))) (4) (zcell sL sx (6)))]) (wo := (fun _ : Unit => [zR q dI 15 (upd (upd (upd (upd (upd (fun _ => zi 0) (0) (zcell sL sx (2))) (1) (zcell sL sx (3))) (2) (zcell sL sx (4))) (3) (zcell sL sx (5))) (4) (zcell sL sx (6)))])) (z_runX (n := 2) (rest := [.int (zi (5)), .ref q, .ref q]) S (met_cell l D dJ dI sb sL sx hL (7) (7) (by omega) (by omega)) (lw_S q88 q89 q2 q90) rfl rfl (by decide +kernel) ⟨Nat.le_of_ble_eq_true rfl, Nat.le_of_ble_eq_true rfl⟩ hw hX hbl hbA rfl hl.1 rfl (Nat.le_of_ble_eq_true rfl) dX0_lines_50 ⟨Nat.le_of_ble_eq_true rfl, Nat.le_of_ble_eq_true rfl⟩) hw [] [0] rfl rfl rfl (by decide) [0] rfl (fun _ => rfl) (fun v9 _ H locs hp hw => ?_)
  subst hp
  refine zr_ast (ws' := [zR q dI 15 (upd (upd (upd (upd (upd (upd (fun _ => zi 0) (0) (zcell sL sx (2))) (1) (zcell sL sx (3))) (2) (zcell sL sx (4))) (3) (zcell sL sx (5))) (4) (zcell sL sx (6))) (5) (zcell sL sx (7)))]) hx hb hw 0 (5) rfl (by omega) (by omega) (by omega) dX0_lines_53 rfl (fun H locs hw => ?_)
  refine lv_dup hx hb dX0_lines_54 rfl ?_
  refine lv_bipush (v := zi (6)) hx hb dX0_lines_55 (by decide +kernel) ?_
  refine lv_aload_n hx hb dX0_lines_57 rfl (lv_at hl 0 rfl) ?_
  refine lv_bipush (v := zi (8)) hx hb dX0_lines_58 (by decide +kernel) ?_
  refine z_calli (wr := [zR q dI 15 (upd (upd (upd (upd (upd (upd (fun _ => zi 0) (0) (zcell sL sx (2))) (1) (zcell sL sx (3))) (2) (zcell sL sx (4))) (3) (zcell sL sx (5))) (4) (zcell sL sx (6))) (5) (zcell sL sx (7)))]) (wo := (fun _ : Unit => [zR q dI 15 (upd (upd (upd (upd (upd (upd (fun _ => zi 0) (0) (zcell sL sx (2))) (1) (zcell sL sx (3))) (2) (zcell sL sx (4))) (3) (zcell sL sx (5))) (4) (zcell sL sx (6))) (5) (zcell sL sx (7)))])) (z_runX (n := 2) (rest := [.int (zi (6)), .ref q, .ref q]) S (met_cell l D dJ dI sb sL sx hL (8) (8) (by omega) (by omega)) (lw_S q88 q89 q2 q90) rfl rfl (by decide +kernel) ⟨Nat.le_of_ble_eq_true rfl, Nat.le_of_ble_eq_true rfl⟩ hw hX hbl hbA rfl hl.1 rfl (Nat.le_of_ble_eq_true rfl) dX0_lines_60 ⟨Nat.le_of_ble_eq_true rfl, Nat.le_of_ble_eq_true rfl⟩) hw [] [0] rfl rfl rfl (by decide) [0] rfl (fun _ => rfl) (fun v9 _ H locs hp hw => ?_)
  subst hp
  refine zr_ast (ws' := [zR q dI 15 (upd (upd (upd (upd (upd (upd (upd (fun _ => zi 0) (0) (zcell sL sx (2))) (1) (zcell sL sx (3))) (2) (zcell sL sx (4))) (3) (zcell sL sx (5))) (4) (zcell sL sx (6))) (5) (zcell sL sx (7))) (6) (zcell sL sx (8)))]) hx hb hw 0 (6) rfl (by omega) (by omega) (by omega) dX0_lines_63 rfl (fun H locs hw => ?_)
  refine lv_dup hx hb dX0_lines_64 rfl ?_
  refine lv_bipush (v := zi (7)) hx hb dX0_lines_65 (by decide +kernel) ?_
  refine lv_aload_n hx hb dX0_lines_67 rfl (lv_at hl 0 rfl) ?_
  refine lv_bipush (v := zi (9)) hx hb dX0_lines_68 (by decide +kernel) ?_
  refine z_calli (wr := [zR q dI 15 (upd (upd (upd (upd (upd (upd (upd (fun _ => zi 0) (0) (zcell sL sx (2))) (1) (zcell sL sx (3))) (2) (zcell sL sx (4))) (3) (zcell sL sx (5))) (4) (zcell sL sx (6))) (5) (zcell sL sx (7))) (6) (zcell sL sx (8)))]) (wo := (fun _ : Unit => [zR q dI 15 (upd (upd (upd (upd (upd (upd (upd (fun _ => zi 0) (0) (zcell sL sx (2))) (1) (zcell sL sx (3))) (2) (zcell sL sx (4))) (3) (zcell sL sx (5))) (4) (zcell sL sx (6))) (5) (zcell sL sx (7))) (6) (zcell sL sx (8)))])) (z_runX (n := 2) (rest := [.int (zi (7)), .ref q, .ref q]) S (met_cell l D dJ dI sb sL sx hL (9) (9) (by omega) (by omega)) (lw_S q88 q89 q2 q90) rfl rfl (by decide +kernel) ⟨Nat.le_of_ble_eq_true rfl, Nat.le_of_ble_eq_true rfl⟩ hw hX hbl hbA rfl hl.1 rfl (Nat.le_of_ble_eq_true rfl) dX0_lines_70 ⟨Nat.le_of_ble_eq_true rfl, Nat.le_of_ble_eq_true rfl⟩) hw [] [0] rfl rfl rfl (by decide) [0] rfl (fun _ => rfl) (fun v9 _ H locs hp hw => ?_)
  subst hp
  refine zr_ast (ws' := [zR q dI 15 (upd (upd (upd (upd (upd (upd (upd (upd (fun _ => zi 0) (0) (zcell sL sx (2))) (1) (zcell sL sx (3))) (2) (zcell sL sx (4))) (3) (zcell sL sx (5))) (4) (zcell sL sx (6))) (5) (zcell sL sx (7))) (6) (zcell sL sx (8))) (7) (zcell sL sx (9)))]) hx hb hw 0 (7) rfl (by omega) (by omega) (by omega) dX0_lines_73 rfl (fun H locs hw => ?_)
  refine lv_dup hx hb dX0_lines_74 rfl ?_
  refine lv_bipush (v := zi (8)) hx hb dX0_lines_75 (by decide +kernel) ?_
  refine lv_aload_n hx hb dX0_lines_77 rfl (lv_at hl 0 rfl) ?_
  refine lv_bipush (v := zi (10)) hx hb dX0_lines_78 (by decide +kernel) ?_
  refine z_calli (wr := [zR q dI 15 (upd (upd (upd (upd (upd (upd (upd (upd (fun _ => zi 0) (0) (zcell sL sx (2))) (1) (zcell sL sx (3))) (2) (zcell sL sx (4))) (3) (zcell sL sx (5))) (4) (zcell sL sx (6))) (5) (zcell sL sx (7))) (6) (zcell sL sx (8))) (7) (zcell sL sx (9)))]) (wo := (fun _ : Unit => [zR q dI 15 (upd (upd (upd (upd (upd (upd (upd (upd (fun _ => zi 0) (0) (zcell sL sx (2))) (1) (zcell sL sx (3))) (2) (zcell sL sx (4))) (3) (zcell sL sx (5))) (4) (zcell sL sx (6))) (5) (zcell sL sx (7))) (6) (zcell sL sx (8))) (7) (zcell sL sx (9)))])) (z_runX (n := 2) (rest := [.int (zi (8)), .ref q, .ref q]) S (met_cell l D dJ dI sb sL sx hL (10) (10) (by omega) (by omega)) (lw_S q88 q89 q2 q90) rfl rfl (by decide +kernel) ⟨Nat.le_of_ble_eq_true rfl, Nat.le_of_ble_eq_true rfl⟩ hw hX hbl hbA rfl hl.1 rfl (Nat.le_of_ble_eq_true rfl) dX0_lines_80 ⟨Nat.le_of_ble_eq_true rfl, Nat.le_of_ble_eq_true rfl⟩) hw [] [0] rfl rfl rfl (by decide) [0] rfl (fun _ => rfl) (fun v9 _ H locs hp hw => ?_)
  subst hp
  refine zr_ast (ws' := [zR q dI 15 (upd (upd (upd (upd (upd (upd (upd (upd (upd (fun _ => zi 0) (0) (zcell sL sx (2))) (1) (zcell sL sx (3))) (2) (zcell sL sx (4))) (3) (zcell sL sx (5))) (4) (zcell sL sx (6))) (5) (zcell sL sx (7))) (6) (zcell sL sx (8))) (7) (zcell sL sx (9))) (8) (zcell sL sx (10)))]) hx hb hw 0 (8) rfl (by omega) (by omega) (by omega) dX0_lines_83 rfl (fun H locs hw => ?_)
  refine lv_dup hx hb dX0_lines_84 rfl ?_
  refine lv_bipush (v := zi (9)) hx hb dX0_lines_85 (by decide +kernel) ?_
  refine lv_aload_n hx hb dX0_lines_87 rfl (lv_at hl 0 rfl) ?_
  refine lv_bipush (v := zi (11)) hx hb dX0_lines_88 (by decide +kernel) ?_
  refine z_calli (wr := [zR q dI 15 (upd (upd (upd (upd (upd (upd (upd (upd (upd (fun _ => zi 0) (0) (zcell sL sx (2))) (1) (zcell sL sx (3))) (2) (zcell sL sx (4))) (3) (zcell sL sx (5))) (4) (zcell sL sx (6))) (5) (zcell sL sx (7))) (6) (zcell sL sx (8))) (7) (zcell sL sx (9))) (8) (zcell sL sx (10)))]) (wo := (fun _ : Unit => [zR q dI 15 (upd (upd (upd (upd (upd (upd (upd (upd (upd (fun _ => zi 0) (0) (zcell sL sx (2))) (1) (zcell sL sx (3))) (2) (zcell sL sx (4))) (3) (zcell sL sx (5))) (4) (zcell sL sx (6))) (5) (zcell sL sx (7))) (6) (zcell sL sx (8))) (7) (zcell sL sx (9))) (8) (zcell sL sx (10)))])) (z_runX (n := 2) (rest := [.int (zi (9)), .ref q, .ref q]) S (met_cell l D dJ dI sb sL sx hL (11) (11) (by omega) (by omega)) (lw_S q88 q89 q2 q90) rfl rfl (by decide +kernel) ⟨Nat.le_of_ble_eq_true rfl, Nat.le_of_ble_eq_true rfl⟩ hw hX hbl hbA rfl hl.1 rfl (Nat.le_of_ble_eq_true rfl) dX0_lines_90 ⟨Nat.le_of_ble_eq_true rfl, Nat.le_of_ble_eq_true rfl⟩) hw [] [0] rfl rfl rfl (by decide) [0] rfl (fun _ => rfl) (fun v9 _ H locs hp hw => ?_)
  subst hp
  refine zr_ast (ws' := [zR q dI 15 (upd (upd (upd (upd (upd (upd (upd (upd (upd (upd (fun _ => zi 0) (0) (zcell sL sx (2))) (1) (zcell sL sx (3))) (2) (zcell sL sx (4))) (3) (zcell sL sx (5))) (4) (zcell sL sx (6))) (5) (zcell sL sx (7))) (6) (zcell sL sx (8))) (7) (zcell sL sx (9))) (8) (zcell sL sx (10))) (9) (zcell sL sx (11)))]) hx hb hw 0 (9) rfl (by omega) (by omega) (by omega) dX0_lines_93 rfl (fun H locs hw => ?_)
  refine lv_dup hx hb dX0_lines_94 rfl ?_
  refine lv_bipush (v := zi (10)) hx hb dX0_lines_95 (by decide +kernel) ?_
  refine lv_aload_n hx hb dX0_lines_97 rfl (lv_at hl 0 rfl) ?_
  refine lv_bipush (v := zi (12)) hx hb dX0_lines_98 (by decide +kernel) ?_
  refine z_calli (wr := [zR q dI 15 (upd (upd (upd (upd (upd (upd (upd (upd (upd (upd (fun _ => zi 0) (0) (zcell sL sx (2))) (1) (zcell sL sx (3))) (2) (zcell sL sx (4))) (3) (zcell sL sx (5))) (4) (zcell sL sx (6))) (5) (zcell sL sx (7))) (6) (zcell sL sx (8))) (7) (zcell sL sx (9))) (8) (zcell sL sx (10))) (9) (zcell sL sx (11)))]) (wo := (fun _ : Unit => [zR q dI 15 (upd (upd (upd (upd (upd (upd (upd (upd (upd (upd (fun _ => zi 0) (0) (zcell sL sx (2))) (1) (zcell sL sx (3))) (2) (zcell sL sx (4))) (3) (zcell sL sx (5))) (4) (zcell sL sx (6))) (5) (zcell sL sx (7))) (6) (zcell sL sx (8))) (7) (zcell sL sx (9))) (8) (zcell sL sx (10))) (9) (zcell sL sx (11)))])) (z_runX (n := 2) (rest := [.int (zi (10)), .ref q, .ref q]) S (met_cell l D dJ dI sb sL sx hL (12) (12) (by omega) (by omega)) (lw_S q88 q89 q2 q90) rfl rfl (by decide +kernel) ⟨Nat.le_of_ble_eq_true rfl, Nat.le_of_ble_eq_true rfl⟩ hw hX hbl hbA rfl hl.1 rfl (Nat.le_of_ble_eq_true rfl) dX0_lines_100 ⟨Nat.le_of_ble_eq_true rfl, Nat.le_of_ble_eq_true rfl⟩) hw [] [0] rfl rfl rfl (by decide) [0] rfl (fun _ => rfl) (fun v9 _ H locs hp hw => ?_)
  subst hp
  refine zr_ast (ws' := [zR q dI 15 (upd (upd (upd (upd (upd (upd (upd (upd (upd (upd (upd (fun _ => zi 0) (0) (zcell sL sx (2))) (1) (zcell sL sx (3))) (2) (zcell sL sx (4))) (3) (zcell sL sx (5))) (4) (zcell sL sx (6))) (5) (zcell sL sx (7))) (6) (zcell sL sx (8))) (7) (zcell sL sx (9))) (8) (zcell sL sx (10))) (9) (zcell sL sx (11))) (10) (zcell sL sx (12)))]) hx hb hw 0 (10) rfl (by omega) (by omega) (by omega) dX0_lines_103 rfl (fun H locs hw => ?_)
  refine lv_dup hx hb dX0_lines_104 rfl ?_
  refine lv_bipush (v := zi (11)) hx hb dX0_lines_105 (by decide +kernel) ?_
  refine lv_aload_n hx hb dX0_lines_107 rfl (lv_at hl 0 rfl) ?_
  refine lv_bipush (v := zi (13)) hx hb dX0_lines_108 (by decide +kernel) ?_
  refine z_calli (wr := [zR q dI 15 (upd (upd (upd (upd (upd (upd (upd (upd (upd (upd (upd (fun _ => zi 0) (0) (zcell sL sx (2))) (1) (zcell sL sx (3))) (2) (zcell sL sx (4))) (3) (zcell sL sx (5))) (4) (zcell sL sx (6))) (5) (zcell sL sx (7))) (6) (zcell sL sx (8))) (7) (zcell sL sx (9))) (8) (zcell sL sx (10))) (9) (zcell sL sx (11))) (10) (zcell sL sx (12)))]) (wo := (fun _ : Unit => [zR q dI 15 (upd (upd (upd (upd (upd (upd (upd (upd (upd (upd (upd (fun _ => zi 0) (0) (zcell sL sx (2))) (1) (zcell sL sx (3))) (2) (zcell sL sx (4))) (3) (zcell sL sx (5))) (4) (zcell sL sx (6))) (5) (zcell sL sx (7))) (6) (zcell sL sx (8))) (7) (zcell sL sx (9))) (8) (zcell sL sx (10))) (9) (zcell sL sx (11))) (10) (zcell sL sx (12)))])) (z_runX (n := 2) (rest := [.int (zi (11)), .ref q, .ref q]) S (met_cell l D dJ dI sb sL sx hL (13) (13) (by omega) (by omega)) (lw_S q88 q89 q2 q90) rfl rfl (by decide +kernel) ⟨Nat.le_of_ble_eq_true rfl, Nat.le_of_ble_eq_true rfl⟩ hw hX hbl hbA rfl hl.1 rfl (Nat.le_of_ble_eq_true rfl) dX0_lines_110 ⟨Nat.le_of_ble_eq_true rfl, Nat.le_of_ble_eq_true rfl⟩) hw [] [0] rfl rfl rfl (by decide) [0] rfl (fun _ => rfl) (fun v9 _ H locs hp hw => ?_)
  subst hp
  refine zr_ast (ws' := [zR q dI 15 (upd (upd (upd (upd (upd (upd (upd (upd (upd (upd (upd (upd (fun _ => zi 0) (0) (zcell sL sx (2))) (1) (zcell sL sx (3))) (2) (zcell sL sx (4))) (3) (zcell sL sx (5))) (4) (zcell sL sx (6))) (5) (zcell sL sx (7))) (6) (zcell sL sx (8))) (7) (zcell sL sx (9))) (8) (zcell sL sx (10))) (9) (zcell sL sx (11))) (10) (zcell sL sx (12))) (11) (zcell sL sx (13)))]) hx hb hw 0 (11) rfl (by omega) (by omega) (by omega) dX0_lines_113 rfl (fun H locs hw => ?_)
  refine lv_dup hx hb dX0_lines_114 rfl ?_
  refine lv_bipush (v := zi (12)) hx hb dX0_lines_115 (by decide +kernel) ?_
  refine lv_aload_n hx hb dX0_lines_117 rfl (lv_at hl 0 rfl) ?_
  refine lv_bipush (v := zi (14)) hx hb dX0_lines_118 (by decide +kernel) ?_
  refine z_calli (wr := [zR q dI 15 (upd (upd (upd (upd (upd (upd (upd (upd (upd (upd (upd (upd (fun _ => zi 0) (0) (zcell sL sx (2))) (1) (zcell sL sx (3))) (2) (zcell sL sx (4))) (3) (zcell sL sx (5))) (4) (zcell sL sx (6))) (5) (zcell sL sx (7))) (6) (zcell sL sx (8))) (7) (zcell sL sx (9))) (8) (zcell sL sx (10))) (9) (zcell sL sx (11))) (10) (zcell sL sx (12))) (11) (zcell sL sx (13)))]) (wo := (fun _ : Unit => [zR q dI 15 (upd (upd (upd (upd (upd (upd (upd (upd (upd (upd (upd (upd (fun _ => zi 0) (0) (zcell sL sx (2))) (1) (zcell sL sx (3))) (2) (zcell sL sx (4))) (3) (zcell sL sx (5))) (4) (zcell sL sx (6))) (5) (zcell sL sx (7))) (6) (zcell sL sx (8))) (7) (zcell sL sx (9))) (8) (zcell sL sx (10))) (9) (zcell sL sx (11))) (10) (zcell sL sx (12))) (11) (zcell sL sx (13)))])) (z_runX (n := 2) (rest := [.int (zi (12)), .ref q, .ref q]) S (met_cell l D dJ dI sb sL sx hL (14) (14) (by omega) (by omega)) (lw_S q88 q89 q2 q90) rfl rfl (by decide +kernel) ⟨Nat.le_of_ble_eq_true rfl, Nat.le_of_ble_eq_true rfl⟩ hw hX hbl hbA rfl hl.1 rfl (Nat.le_of_ble_eq_true rfl) dX0_lines_120 ⟨Nat.le_of_ble_eq_true rfl, Nat.le_of_ble_eq_true rfl⟩) hw [] [0] rfl rfl rfl (by decide) [0] rfl (fun _ => rfl) (fun v9 _ H locs hp hw => ?_)
  subst hp
  refine zr_ast (ws' := [zR q dI 15 (upd (upd (upd (upd (upd (upd (upd (upd (upd (upd (upd (upd (upd (fun _ => zi 0) (0) (zcell sL sx (2))) (1) (zcell sL sx (3))) (2) (zcell sL sx (4))) (3) (zcell sL sx (5))) (4) (zcell sL sx (6))) (5) (zcell sL sx (7))) (6) (zcell sL sx (8))) (7) (zcell sL sx (9))) (8) (zcell sL sx (10))) (9) (zcell sL sx (11))) (10) (zcell sL sx (12))) (11) (zcell sL sx (13))) (12) (zcell sL sx (14)))]) hx hb hw 0 (12) rfl (by omega) (by omega) (by omega) dX0_lines_123 rfl (fun H locs hw => ?_)
  refine lv_dup hx hb dX0_lines_124 rfl ?_
  refine lv_bipush (v := zi (13)) hx hb dX0_lines_125 (by decide +kernel) ?_
  refine lv_aload_n hx hb dX0_lines_127 rfl (lv_at hl 0 rfl) ?_
  refine lv_bipush (v := zi (15)) hx hb dX0_lines_128 (by decide +kernel) ?_
  refine z_calli (wr := [zR q dI 15 (upd (upd (upd (upd (upd (upd (upd (upd (upd (upd (upd (upd (upd (fun _ => zi 0) (0) (zcell sL sx (2))) (1) (zcell sL sx (3))) (2) (zcell sL sx (4))) (3) (zcell sL sx (5))) (4) (zcell sL sx (6))) (5) (zcell sL sx (7))) (6) (zcell sL sx (8))) (7) (zcell sL sx (9))) (8) (zcell sL sx (10))) (9) (zcell sL sx (11))) (10) (zcell sL sx (12))) (11) (zcell sL sx (13))) (12) (zcell sL sx (14)))]) (wo := (fun _ : Unit => [zR q dI 15 (upd (upd (upd (upd (upd (upd (upd (upd (upd (upd (upd (upd (upd (fun _ => zi 0) (0) (zcell sL sx (2))) (1) (zcell sL sx (3))) (2) (zcell sL sx (4))) (3) (zcell sL sx (5))) (4) (zcell sL sx (6))) (5) (zcell sL sx (7))) (6) (zcell sL sx (8))) (7) (zcell sL sx (9))) (8) (zcell sL sx (10))) (9) (zcell sL sx (11))) (10) (zcell sL sx (12))) (11) (zcell sL sx (13))) (12) (zcell sL sx (14)))])) (z_runX (n := 2) (rest := [.int (zi (13)), .ref q, .ref q]) S (met_cell l D dJ dI sb sL sx hL (15) (15) (by omega) (by omega)) (lw_S q88 q89 q2 q90) rfl rfl (by decide +kernel) ⟨Nat.le_of_ble_eq_true rfl, Nat.le_of_ble_eq_true rfl⟩ hw hX hbl hbA rfl hl.1 rfl (Nat.le_of_ble_eq_true rfl) dX0_lines_130 ⟨Nat.le_of_ble_eq_true rfl, Nat.le_of_ble_eq_true rfl⟩) hw [] [0] rfl rfl rfl (by decide) [0] rfl (fun _ => rfl) (fun v9 _ H locs hp hw => ?_)
  subst hp
  refine zr_ast (ws' := [zR q dI 15 (upd (upd (upd (upd (upd (upd (upd (upd (upd (upd (upd (upd (upd (upd (fun _ => zi 0) (0) (zcell sL sx (2))) (1) (zcell sL sx (3))) (2) (zcell sL sx (4))) (3) (zcell sL sx (5))) (4) (zcell sL sx (6))) (5) (zcell sL sx (7))) (6) (zcell sL sx (8))) (7) (zcell sL sx (9))) (8) (zcell sL sx (10))) (9) (zcell sL sx (11))) (10) (zcell sL sx (12))) (11) (zcell sL sx (13))) (12) (zcell sL sx (14))) (13) (zcell sL sx (15)))]) hx hb hw 0 (13) rfl (by omega) (by omega) (by omega) dX0_lines_133 rfl (fun H locs hw => ?_)
  refine lv_dup hx hb dX0_lines_134 rfl ?_
  refine lv_bipush (v := zi (14)) hx hb dX0_lines_135 (by decide +kernel) ?_
  refine lv_aload_n hx hb dX0_lines_137 rfl (lv_at hl 0 rfl) ?_
  refine lv_bipush (v := zi (16)) hx hb dX0_lines_138 (by decide +kernel) ?_
  refine z_calli (wr := [zR q dI 15 (upd (upd (upd (upd (upd (upd (upd (upd (upd (upd (upd (upd (upd (upd (fun _ => zi 0) (0) (zcell sL sx (2))) (1) (zcell sL sx (3))) (2) (zcell sL sx (4))) (3) (zcell sL sx (5))) (4) (zcell sL sx (6))) (5) (zcell sL sx (7))) (6) (zcell sL sx (8))) (7) (zcell sL sx (9))) (8) (zcell sL sx (10))) (9) (zcell sL sx (11))) (10) (zcell sL sx (12))) (11) (zcell sL sx (13))) (12) (zcell sL sx (14))) (13) (zcell sL sx (15)))]) (wo := (fun _ : Unit => [zR q dI 15 (upd (upd (upd (upd (upd (upd (upd (upd (upd (upd (upd (upd (upd (upd (fun _ => zi 0) (0) (zcell sL sx (2))) (1) (zcell sL sx (3))) (2) (zcell sL sx (4))) (3) (zcell sL sx (5))) (4) (zcell sL sx (6))) (5) (zcell sL sx (7))) (6) (zcell sL sx (8))) (7) (zcell sL sx (9))) (8) (zcell sL sx (10))) (9) (zcell sL sx (11))) (10) (zcell sL sx (12))) (11) (zcell sL sx (13))) (12) (zcell sL sx (14))) (13) (zcell sL sx (15)))])) (z_runX (n := 2) (rest := [.int (zi (14)), .ref q, .ref q]) S (met_cell l D dJ dI sb sL sx hL (16) (16) (by omega) (by omega)) (lw_S q88 q89 q2 q90) rfl rfl (by decide +kernel) ⟨Nat.le_of_ble_eq_true rfl, Nat.le_of_ble_eq_true rfl⟩ hw hX hbl hbA rfl hl.1 rfl (Nat.le_of_ble_eq_true rfl) dX0_lines_140 ⟨Nat.le_of_ble_eq_true rfl, Nat.le_of_ble_eq_true rfl⟩) hw [] [0] rfl rfl rfl (by decide) [0] rfl (fun _ => rfl) (fun v9 _ H locs hp hw => ?_)
  subst hp
  refine zr_ast (ws' := [zR q dI 15 (upd (upd (upd (upd (upd (upd (upd (upd (upd (upd (upd (upd (upd (upd (upd (fun _ => zi 0) (0) (zcell sL sx (2))) (1) (zcell sL sx (3))) (2) (zcell sL sx (4))) (3) (zcell sL sx (5))) (4) (zcell sL sx (6))) (5) (zcell sL sx (7))) (6) (zcell sL sx (8))) (7) (zcell sL sx (9))) (8) (zcell sL sx (10))) (9) (zcell sL sx (11))) (10) (zcell sL sx (12))) (11) (zcell sL sx (13))) (12) (zcell sL sx (14))) (13) (zcell sL sx (15))) (14) (zcell sL sx (16)))]) hx hb hw 0 (14) rfl (by omega) (by omega) (by omega) dX0_lines_143 rfl (fun H locs hw => ?_)
  exact z_aret hx hb hr (Or.inr ⟨_, rfl⟩) hlocks hw (upd (upd (upd (upd (upd (upd (upd (upd (upd (upd (upd (upd (upd (upd (upd (fun _ => zi 0) (0) (zcell sL sx (2))) (1) (zcell sL sx (3))) (2) (zcell sL sx (4))) (3) (zcell sL sx (5))) (4) (zcell sL sx (6))) (5) (zcell sL sx (7))) (6) (zcell sL sx (8))) (7) (zcell sL sx (9))) (8) (zcell sL sx (10))) (9) (zcell sL sx (11))) (10) (zcell sL sx (12))) (11) (zcell sL sx (13))) (12) (zcell sL sx (14))) (13) (zcell sL sx (15))) (14) (zcell sL sx (16))) [0] rfl rfl (fun j hj => by
      rcases (show j = 0 ∨ j = 1 ∨ j = 2 ∨ j = 3 ∨ j = 4 ∨ j = 5 ∨ j = 6 ∨ j = 7 ∨ j = 8 ∨ j = 9 ∨ j = 10 ∨ j = 11 ∨ j = 12 ∨ j = 13 ∨ j = 14 by omega) with rfl | rfl | rfl | rfl | rfl | rfl | rfl | rfl | rfl | rfl | rfl | rfl | rfl | rfl | rfl <;> rfl) dX0_lines_144
end
section
/-! LongSortDeskLaw.longLine. Printed by gen/m17.py -/
set_option maxRecDepth 100000
theorem zramp_uniq {f g1 g2 v : Nat → Int64} {n k : Nat} (a : ∀ j, j < k → g1 (n + j) = v j) (b : ∀ j, (j < n ∨ n + k ≤ j) → g1 j = f j) (c : ∀ j, j < k → g2 (n + j) = v j) (d : ∀ j, (j < n ∨ n + k ≤ j) → g2 j = f j) : g2 = g1 := by
  funext j
  by_cases h : n ≤ j ∧ j < n + k
  · obtain ⟨i, rfl⟩ : ∃ i, j = n + i := ⟨j - n, by omega⟩
    rw [a i (by omega), c i (by omega)]
  · rw [b j (by omega), d j (by omega)]
theorem zl_cnt {F wf w2 : Nat → Int64} {m : Nat} {v : Int64} (h : ∀ P, zs_cn P wf m = zs_cn P F m) (hv : v = F m) (hp : zs_pm (vp_updL wf m v) w2 0 (m + 1)) : ∀ P, zs_cn P w2 (m + 1) = zs_cn P F (m + 1) := by
  intro P
  have e1 : zs_cn P (vp_updL wf m v) m = zs_cn P wf m := zs_cn_congr (fun j hj => pk_uLn (by omega))
  rw [hp.2 P, zs_cn_s, zs_cn_s, pk_uLs, e1, h P, hv]
theorem zl_fin {F wf gx : Nat → Int64} {n : Nat} (hp : zs_pm F gx 0 n) (hs : zs_srt gx 0 n) (hs2 : zs_srt wf 0 n) (hc : ∀ P, zs_cn P wf n = zs_cn P F n) : ∀ j, j < n → gx j = wf j := fun j hj => zs_uniq hs hs2 (fun P => by
  rw [hp.2 P, hc P]
  rfl) j (Nat.zero_le _) hj
section ZLL
variable {p : Program} {l : Launch} {e : Env} {s : State} {m : MethodId} {args : Array Value} {below : List Frame} {meth : Method} {c : Code} {Q : State → Prop} {D : va_G} {dJ dI : ClassId} {A : Nat → Prop}
set_option maxHeartbeats 4000000 in
set_option maxRecDepth 100000 in
/-- the law's own insertion: the hole at j -/
theorem lp_l1 {sb ca wa xo yo zo xr yr zr : Nat} {cf : Nat → Int32} {k i mm : Nat} {v : Int64} {f0 F : Nat → Int64} (S : CallFix p m c cX0_longLine 12 s args lw_all RX0) (hm : mm < 1280) (kx : ∀ (j : Nat) (g : Nat → Int64) (z11 : Int) (H : Heap) (locs : List Loc) (ls : Array Slot), j ≤ mm → z11 = ((j : Nat) : Int) → zs_pm f0 (vp_updL g j v) 0 (mm + 1) ∧ zs_srt (vp_updL g j v) 0 (mm + 1) → zW D dJ dI A s [zR ca dI 15 (cf), zL wa dJ 1280 (g), zO xo xr (((256 * k + 256 : Nat) : Int)), zL xr dJ 4096 (F), zO yo yr (((256 * k + 256 : Nat) : Int)), zL yr dJ 4096 (F), zO zo zr (((256 * k + 256 : Nat) : Int)), zL zr dJ 4096 (F)] H locs → lv_has ls 12 [(0, .ref sb), (1, .ref ca), (2, .ref wa), (3, .ref xo), (4, .ref yo), (5, .ref zo), (6, .int (zi (((k : Nat) : Int)))), (8, .int (zi (((i : Nat) : Int)))), (9, .long (v)), (11, .int (zi (z11)))] → W p l e (zRm 1305 14 20739 43006) s m args below meth c H locs 8 13589 Q (F0 m 283 ls [])) :
    ∀ (N j : Nat) (g : Nat → Int64) (z11 : Int) (H : Heap) (locs : List Loc) (ls : Array Slot), j < N → j ≤ mm → z11 = ((j : Nat) : Int) → zs_ins f0 g v 0 j mm (mm + 1) → zW D dJ dI A s [zR ca dI 15 (cf), zL wa dJ 1280 (g), zO xo xr (((256 * k + 256 : Nat) : Int)), zL xr dJ 4096 (F), zO yo yr (((256 * k + 256 : Nat) : Int)), zL yr dJ 4096 (F), zO zo zr (((256 * k + 256 : Nat) : Int)), zL zr dJ 4096 (F)] H locs → lv_has ls 12 [(0, .ref sb), (1, .ref ca), (2, .ref wa), (3, .ref xo), (4, .ref yo), (5, .ref zo), (6, .int (zi (((k : Nat) : Int)))), (8, .int (zi (((i : Nat) : Int)))), (9, .long (v)), (11, .int (zi (z11)))] → W p l e (zRm 1305 14 20739 43006) s m args below meth c H locs 8 13589 Q (F0 m 250 ls []) := by
  obtain ⟨hx, hb, hml, hown, hts⟩ := id S
  intro N
  induction N with
  | zero =>
    intro j g z11 H locs ls h1
    exact absurd h1 (by omega)
  | succ N ih =>
    intro j g z11 H locs ls hN hj e11 hI hw hl
    subst e11
    refine lv_iload hx hb dX0_longLine_250 (lv_at hl 9 rfl) ?_
    refine zi_if_le (tgt := 283) hx hb dX0_longLine_252 (by decide) (by omega) (fun c_252 => ?_) (fun c_252 => ?_)
    · exact kx (j) g _ H locs ls (by omega) rfl (zs_ins_e hI (by omega) (by omega) (Or.inl (by omega))) hw (lv_sub hl [0, 1, 2, 3, 4, 5, 6, 7, 8, 9] rfl)
    · obtain ⟨jj, rfl⟩ : ∃ jj, j = jj + 1 := ⟨j - 1, by omega⟩
      refine lv_aload_n hx hb dX0_longLine_255 rfl (lv_at hl 2 rfl) ?_
      refine lv_iload hx hb dX0_longLine_256 (lv_at hl 9 rfl) ?_
      refine zi_const hx hb dX0_longLine_258 ?_
      refine zi_sub (r := ((jj : Nat) : Int)) hx hb dX0_longLine_259 (by omega) ?_
      refine zl_ald hx hb hw 1 (jj) rfl (by omega) (by omega) (by omega) dX0_longLine_260 ?_
      refine lv_lload hx hb dX0_longLine_261 (lv_at hl 8 rfl) ?_
      refine zl_cmp hx hb dX0_longLine_263 ?_
      have hz_263_2 := zcz_spec ((g) (jj)) (v)
      refine zi_if_le (tgt := 283) hx hb dX0_longLine_264 (by decide) (by omega) (fun c_264 => ?_) (fun c_264 => ?_)
      · exact kx ((jj + 1)) g _ H locs ls (by omega) rfl (zs_ins_e hI (by omega) (by omega) (Or.inr ⟨by omega, by
            show (g jj).toInt ≤ v.toInt
            omega⟩)) hw (lv_sub hl [0, 1, 2, 3, 4, 5, 6, 7, 8, 9] rfl)
      · refine lv_aload_n hx hb dX0_longLine_267 rfl (lv_at hl 2 rfl) ?_
        refine lv_iload hx hb dX0_longLine_268 (lv_at hl 9 rfl) ?_
        refine lv_aload_n hx hb dX0_longLine_270 rfl (lv_at hl 2 rfl) ?_
        refine lv_iload hx hb dX0_longLine_271 (lv_at hl 9 rfl) ?_
        refine zi_const hx hb dX0_longLine_273 ?_
        refine zi_sub (r := ((jj : Nat) : Int)) hx hb dX0_longLine_274 (by omega) ?_
        refine zl_ald hx hb hw 1 (jj) rfl (by omega) (by omega) (by omega) dX0_longLine_275 ?_
        refine zl_ast (ws' := [zR ca dI 15 (cf), zL wa dJ 1280 (vp_updL (g) ((jj + 1)) ((g) (jj))), zO xo xr (((256 * k + 256 : Nat) : Int)), zL xr dJ 4096 (F), zO yo yr (((256 * k + 256 : Nat) : Int)), zL yr dJ 4096 (F), zO zo zr (((256 * k + 256 : Nat) : Int)), zL zr dJ 4096 (F)]) hx hb hw 1 ((jj + 1)) rfl (by omega) (by omega) (by omega) dX0_longLine_276 rfl (fun H locs hw => ?_)
        refine zi_inc (v := ((jj : Nat) : Int)) (k := 9) (lv' := [(11, .int (zi (((jj : Nat) : Int)))), (0, .ref sb), (1, .ref ca), (2, .ref wa), (3, .ref xo), (4, .ref yo), (5, .ref zo), (6, .int (zi (((k : Nat) : Int)))), (8, .int (zi (((i : Nat) : Int)))), (9, .long (v))]) hx hb dX0_longLine_277 hl rfl (by omega) (by decide) rfl (fun ls hl => ?_)
        refine lv_goto (tgt := 250) hx hb dX0_longLine_280 (by decide) ?_
        exact ih jj (vp_updL (g) ((jj + 1)) ((g) (jj))) _ H locs ls (by omega) (by omega) (by omega) (zs_ins_s hI (by omega) (by omega) (by omega) (by omega)) hw (lv_sub hl [1, 2, 3, 4, 5, 6, 7, 8, 9, 0] rfl)
set_option maxHeartbeats 4000000 in
set_option maxRecDepth 100000 in
/-- one run laid into the law's line -/
theorem lp_l2 {sb ca wa xo yo zo xr yr zr : Nat} {cf : Nat → Int32} {k : Nat} {F : Nat → Int64} (S : CallFix p m c cX0_longLine 12 s args lw_all RX0) (hk : k < 5) (hF : ∀ j, j < 256 → F (256 * k + j) = zrv (cf (3 * k)) (cf (3 * k + 1)) (cf (3 * k + 2)) j) (kx : ∀ (wf : Nat → Int64) (H : Heap) (locs : List Loc) (ls : Array Slot), zs_srt wf 0 (256 * k + 256) → (∀ P, zs_cn P wf (256 * k + 256) = zs_cn P F (256 * k + 256)) → zW D dJ dI A s [zR ca dI 15 (cf), zL wa dJ 1280 (wf), zO xo xr (((256 * k + 256 : Nat) : Int)), zL xr dJ 4096 (F), zO yo yr (((256 * k + 256 : Nat) : Int)), zL yr dJ 4096 (F), zO zo zr (((256 * k + 256 : Nat) : Int)), zL zr dJ 4096 (F)] H locs → lv_has ls 12 [(0, .ref sb), (1, .ref ca), (2, .ref wa), (3, .ref xo), (4, .ref yo), (5, .ref zo), (6, .int (zi (((k : Nat) : Int))))] → W p l e (zRm 1305 14 20739 43006) s m args below meth c H locs 8 13589 Q (F0 m 295 ls [])) :
    ∀ (N i : Nat) (wf : Nat → Int64) (z8 : Int) (H : Heap) (locs : List Loc) (ls : Array Slot), 256 < i + N → i ≤ 256 → z8 = ((i : Nat) : Int) → zs_srt wf 0 (256 * k + i) → (∀ P, zs_cn P wf (256 * k + i) = zs_cn P F (256 * k + i)) → zW D dJ dI A s [zR ca dI 15 (cf), zL wa dJ 1280 (wf), zO xo xr (((256 * k + 256 : Nat) : Int)), zL xr dJ 4096 (F), zO yo yr (((256 * k + 256 : Nat) : Int)), zL yr dJ 4096 (F), zO zo zr (((256 * k + 256 : Nat) : Int)), zL zr dJ 4096 (F)] H locs → lv_has ls 12 [(0, .ref sb), (1, .ref ca), (2, .ref wa), (3, .ref xo), (4, .ref yo), (5, .ref zo), (6, .int (zi (((k : Nat) : Int)))), (8, .int (zi (z8)))] → W p l e (zRm 1305 14 20739 43006) s m args below meth c H locs 8 13589 Q (F0 m 173 ls []) := by
  obtain ⟨hx, hb, hml, hown, hts⟩ := id S
  intro N
  induction N with
  | zero =>
    intro i wf z8 H locs ls h1 h2
    exact absurd h1 (by omega)
  | succ N ih =>
    intro i wf z8 H locs ls hN hi1 e8 hsw hcw hw hl
    subst e8
    refine lv_iload hx hb dX0_longLine_173 (lv_at hl 7 rfl) ?_
    refine lv_sipush (v := zi (256)) hx hb dX0_longLine_175 (by decide +kernel) ?_
    refine zi_icmp_ge (tgt := 295) hx hb dX0_longLine_178 (by decide) (by omega) (by omega) (fun c_178 => ?_) (fun c_178 => ?_)
    · have e9 : i = 256 := by omega
      subst e9
      exact kx wf H locs ls hsw hcw hw (lv_sub hl [0, 1, 2, 3, 4, 5, 6] rfl)
    · refine lv_aload_n hx hb dX0_longLine_181 rfl (lv_at hl 1 rfl) ?_
      refine zi_const hx hb dX0_longLine_182 ?_
      refine lv_iload hx hb dX0_longLine_183 (lv_at hl 6 rfl) ?_
      refine zi_mul (r := ((3 * k : Nat) : Int)) hx hb dX0_longLine_185 (by omega) ?_
      refine zr_ald hx hb hw 0 (3 * k) rfl (by omega) (by omega) (by omega) dX0_longLine_186 ?_
      refine lv_i2l (v := ((cf) (3 * k)).toInt64) hx hb dX0_longLine_187 rfl ?_
      refine lv_bipush (v := zi (32)) hx hb dX0_longLine_188 (by decide +kernel) ?_
      refine lv_lshl (v := (((cf) (3 * k)).toInt64 <<< ((zi (32)).toInt64 &&& 63))) hx hb dX0_longLine_190 rfl ?_
      refine lv_aload_n hx hb dX0_longLine_191 rfl (lv_at hl 1 rfl) ?_
      refine zi_const hx hb dX0_longLine_192 ?_
      refine lv_iload hx hb dX0_longLine_193 (lv_at hl 6 rfl) ?_
      refine zi_mul (r := ((3 * k : Nat) : Int)) hx hb dX0_longLine_195 (by omega) ?_
      refine zi_const hx hb dX0_longLine_196 ?_
      refine zi_add (r := ((3 * k + 1 : Nat) : Int)) hx hb dX0_longLine_197 (by omega) ?_
      refine zr_ald hx hb hw 0 (3 * k + 1) rfl (by omega) (by omega) (by omega) dX0_longLine_198 ?_
      refine lv_i2l (v := ((cf) (3 * k + 1)).toInt64) hx hb dX0_longLine_199 rfl ?_
      refine lv_ldc2 (v := 4294967295) hx hb hown (hts _ q128) dX0_longLine_200 ?_
      refine lv_land hx hb dX0_longLine_203 ?_
      refine lv_lor hx hb dX0_longLine_204 ?_
      refine lv_iload hx hb dX0_longLine_205 (lv_at hl 7 rfl) ?_
      refine lv_i2l (v := (zi (((i : Nat) : Int))).toInt64) hx hb dX0_longLine_207 rfl ?_
      refine lv_aload_n hx hb dX0_longLine_208 rfl (lv_at hl 1 rfl) ?_
      refine zi_const hx hb dX0_longLine_209 ?_
      refine lv_iload hx hb dX0_longLine_210 (lv_at hl 6 rfl) ?_
      refine zi_mul (r := ((3 * k : Nat) : Int)) hx hb dX0_longLine_212 (by omega) ?_
      refine zi_const hx hb dX0_longLine_213 ?_
      refine zi_add (r := ((3 * k + 2 : Nat) : Int)) hx hb dX0_longLine_214 (by omega) ?_
      refine zr_ald hx hb hw 0 (3 * k + 2) rfl (by omega) (by omega) (by omega) dX0_longLine_215 ?_
      refine lv_i2l (v := ((cf) (3 * k + 2)).toInt64) hx hb dX0_longLine_216 rfl ?_
      refine lv_lmul hx hb dX0_longLine_217 ?_
      refine lv_ldc2 (v := 1000003) hx hb hown (hts _ q129) dX0_longLine_218 ?_
      refine lv_lmul hx hb dX0_longLine_221 ?_
      refine lv_ladd hx hb dX0_longLine_222 ?_
      refine lv_topl (fun v ev0 => ?_)
      have ev : v = F (256 * k + i) := ev0.trans (hF i (by omega)).symm
      have ev2 : v.toInt = (F (256 * k + i)).toInt := by rw [ev]
      refine lv_lstore (lv' := [(9, .long (v)), (0, .ref sb), (1, .ref ca), (2, .ref wa), (3, .ref xo), (4, .ref yo), (5, .ref zo), (6, .int (zi (((k : Nat) : Int)))), (8, .int (zi (((i : Nat) : Int))))]) hx hb dX0_longLine_223 hl (by decide) rfl (fun ls hl => ?_)
      refine lv_sipush (v := zi (256)) hx hb dX0_longLine_225 (by decide +kernel) ?_
      refine lv_iload hx hb dX0_longLine_228 (lv_at hl 7 rfl) ?_
      refine zi_mul (r := ((256 * k : Nat) : Int)) hx hb dX0_longLine_230 (by omega) ?_
      refine lv_iload hx hb dX0_longLine_231 (lv_at hl 8 rfl) ?_
      refine zi_add (r := ((256 * k + i : Nat) : Int)) hx hb dX0_longLine_233 (by omega) ?_
      refine lv_istore (lv' := [(11, .int (zi (((256 * k + i : Nat) : Int)))), (9, .long (v)), (0, .ref sb), (1, .ref ca), (2, .ref wa), (3, .ref xo), (4, .ref yo), (5, .ref zo), (6, .int (zi (((k : Nat) : Int)))), (8, .int (zi (((i : Nat) : Int))))]) hx hb dX0_longLine_234 hl (by decide) rfl (fun ls hl => ?_)
      refine lv_aload_n hx hb dX0_longLine_236 rfl (lv_at hl 5 rfl) ?_
      refine lv_iload hx hb dX0_longLine_237 (lv_at hl 0 rfl) ?_
      refine z_calll (wr := [zR ca dI 15 (cf), zL wa dJ 1280 (wf), zO yo yr (((256 * k + 256 : Nat) : Int)), zL yr dJ 4096 (F), zO zo zr (((256 * k + 256 : Nat) : Int)), zL zr dJ 4096 (F)]) (wo := (fun _ : Unit => [zR ca dI 15 (cf), zL wa dJ 1280 (wf), zO xo xr (((256 * k + 256 : Nat) : Int)), zL xr dJ 4096 (F), zO yo yr (((256 * k + 256 : Nat) : Int)), zL yr dJ 4096 (F), zO zo zr (((256 * k + 256 : Nat) : Int)), zL zr dJ 4096 (F)])) (z_runV (n := 1) (rest := []) S (met_row l D dJ dI xo xr (256 * k + 256) (F) (zi (((256 * k + i : Nat) : Int))) (by omega) (by omega)) (lw_V q84 q85 q86 q3 q87) rfl rfl (by decide +kernel) ⟨Nat.le_of_ble_eq_true rfl, Nat.le_of_ble_eq_true rfl⟩ hw [2, 3] rfl rfl 2 rfl rfl hl.1 rfl (Nat.le_of_ble_eq_true rfl) dX0_longLine_239 ⟨Nat.le_of_ble_eq_true rfl, Nat.le_of_ble_eq_true rfl⟩) hw [2, 3] [0, 1, 4, 5, 6, 7] rfl rfl rfl (by decide) [0, 1, 6, 7, 2, 3, 4, 5] rfl (fun _ => rfl) (fun v9 _ H locs hp hw => ?_)
      have e9 : zlo (zi (((256 * k + i : Nat) : Int))) % (256 * k + 256) = 256 * k + i := by rw [zlo_zi (k := 256 * k + i) (by omega) (by omega)]; exact Nat.mod_eq_of_lt (by omega)
      rw [e9] at hp
      subst hp
      clear e9
      refine lv_lload hx hb dX0_longLine_242 (lv_at hl 1 rfl) ?_
      refine zl_cmp hx hb dX0_longLine_244 ?_
      have hz_244_2 := zcz_spec ((F) (256 * k + i)) (v)
      refine zi_if_eq (tgt := 250) hx hb dX0_longLine_245 (by decide) (by omega) (fun c_245 => ?_) (fun c_245 => ?_)
      · refine lp_l1 (k := k) (i := i) (mm := 256 * k + i) (v := v) (f0 := vp_updL wf (256 * k + i) v) (F := F) S (by omega) (fun j g z11 H locs ls hj e11 hp hw hl => ?_) (256 * k + i + 1) (256 * k + i) wf _ H locs ls (by omega) (by omega) rfl ⟨zs_pm.rf, fun a b x y z u w9 => hsw a b x y (by omega), fun b x y => absurd x (by omega)⟩ hw (lv_sub hl [2, 3, 4, 5, 6, 7, 8, 9, 1, 0] rfl)
        subst e11
        refine lv_aload_n hx hb dX0_longLine_283 rfl (lv_at hl 2 rfl) ?_
        refine lv_iload hx hb dX0_longLine_284 (lv_at hl 9 rfl) ?_
        refine lv_lload hx hb dX0_longLine_286 (lv_at hl 8 rfl) ?_
        refine zl_ast (ws' := [zR ca dI 15 (cf), zL wa dJ 1280 (vp_updL (g) (j) (v)), zO xo xr (((256 * k + 256 : Nat) : Int)), zL xr dJ 4096 (F), zO yo yr (((256 * k + 256 : Nat) : Int)), zL yr dJ 4096 (F), zO zo zr (((256 * k + 256 : Nat) : Int)), zL zr dJ 4096 (F)]) hx hb hw 1 (j) rfl (by omega) (by omega) (by omega) dX0_longLine_288 rfl (fun H locs hw => ?_)
        refine zi_inc (v := ((i + 1 : Nat) : Int)) (k := 7) (lv' := [(8, .int (zi (((i + 1 : Nat) : Int)))), (0, .ref sb), (1, .ref ca), (2, .ref wa), (3, .ref xo), (4, .ref yo), (5, .ref zo), (6, .int (zi (((k : Nat) : Int)))), (9, .long (v)), (11, .int (zi (((j : Nat) : Int))))]) hx hb dX0_longLine_289 hl rfl (by omega) (by decide) rfl (fun ls hl => ?_)
        refine lv_goto (tgt := 173) hx hb dX0_longLine_292 (by decide) ?_
        exact ih (i + 1) (vp_updL (g) (j) (v)) _ H locs ls (by omega) (by omega) rfl hp.2 (zl_cnt hcw ev hp.1) hw (lv_sub hl [1, 2, 3, 4, 5, 6, 7, 0] rfl)
      · exact absurd c_245 (by omega)
set_option maxHeartbeats 4000000 in
set_option maxRecDepth 100000 in
/-- one run: three ramps, and the law's line -/
theorem lp_l3b {sb ca wa xo yo zo xr yr zr : Nat} {cf : Nat → Int32} {k : Nat} {z7 : Int} {F wf : Nat → Int64} {H : Heap} {locs : List Loc} {ls : Array Slot} (S : CallFix p m c cX0_longLine 12 s args lw_all RX0) (hk : k < 5) (hz7 : zlo (zi z7) % 257 = 256) (hsw : zs_srt wf 0 (256 * k)) (hcw : ∀ P, zs_cn P wf (256 * k) = zs_cn P F (256 * k)) (hw : zW D dJ dI A s [zR ca dI 15 (cf), zL wa dJ 1280 (wf), zO xo xr (((256 * k : Nat) : Int)), zL xr dJ 4096 (F), zO yo yr (((256 * k : Nat) : Int)), zL yr dJ 4096 (F), zO zo zr (((256 * k : Nat) : Int)), zL zr dJ 4096 (F)] H locs) (hl : lv_has ls 12 [(0, .ref sb), (1, .ref ca), (2, .ref wa), (3, .ref xo), (4, .ref yo), (5, .ref zo), (6, .int (zi (((k : Nat) : Int)))), (7, .int (zi (z7)))]) (kk : ∀ (F wf : Nat → Int64) (z6 : Int) (H : Heap) (locs : List Loc) (ls : Array Slot), z6 = ((k + 1 : Nat) : Int) → zs_srt wf 0 (256 * k + 256) → (∀ P, zs_cn P wf (256 * k + 256) = zs_cn P F (256 * k + 256)) → zW D dJ dI A s [zR ca dI 15 (cf), zL wa dJ 1280 (wf), zO xo xr (((256 * k + 256 : Nat) : Int)), zL xr dJ 4096 (F), zO yo yr (((256 * k + 256 : Nat) : Int)), zL yr dJ 4096 (F), zO zo zr (((256 * k + 256 : Nat) : Int)), zL zr dJ 4096 (F)] H locs → lv_has ls 12 [(0, .ref sb), (1, .ref ca), (2, .ref wa), (3, .ref xo), (4, .ref yo), (5, .ref zo), (6, .int (zi (z6)))] → W p l e (zRm 1305 14 20739 43006) s m args below meth c H locs 8 13589 Q (F0 m 40 ls [])) : W p l e (zRm 1305 14 20739 43006) s m args below meth c H locs 8 13589 Q (F0 m 63 ls []) := by
  obtain ⟨hx, hb, hml, hown, hts⟩ := id S
  have h256 : zlo (zi (256)) % 257 = 256 := by decide +kernel
  have hneg : zlo (-2147483392) % 257 = 256 := by decide +kernel
  refine lv_aload_n hx hb dX0_longLine_63 rfl (lv_at hl 3 rfl) ?_
  refine lv_iload hx hb dX0_longLine_64 (lv_at hl 7 rfl) ?_
  refine lv_aload_n hx hb dX0_longLine_66 rfl (lv_at hl 1 rfl) ?_
  refine zi_const hx hb dX0_longLine_67 ?_
  refine lv_iload hx hb dX0_longLine_68 (lv_at hl 6 rfl) ?_
  refine zi_mul (r := ((3 * k : Nat) : Int)) hx hb dX0_longLine_70 (by omega) ?_
  refine zr_ald hx hb hw 0 (3 * k) rfl (by omega) (by omega) (by omega) dX0_longLine_71 ?_
  refine lv_aload_n hx hb dX0_longLine_72 rfl (lv_at hl 1 rfl) ?_
  refine zi_const hx hb dX0_longLine_73 ?_
  refine lv_iload hx hb dX0_longLine_74 (lv_at hl 6 rfl) ?_
  refine zi_mul (r := ((3 * k : Nat) : Int)) hx hb dX0_longLine_76 (by omega) ?_
  refine zi_const hx hb dX0_longLine_77 ?_
  refine zi_add (r := ((3 * k + 1 : Nat) : Int)) hx hb dX0_longLine_78 (by omega) ?_
  refine zr_ald hx hb hw 0 (3 * k + 1) rfl (by omega) (by omega) (by omega) dX0_longLine_79 ?_
  refine lv_aload_n hx hb dX0_longLine_80 rfl (lv_at hl 1 rfl) ?_
  refine zi_const hx hb dX0_longLine_81 ?_
  refine lv_iload hx hb dX0_longLine_82 (lv_at hl 6 rfl) ?_
  refine zi_mul (r := ((3 * k : Nat) : Int)) hx hb dX0_longLine_84 (by omega) ?_
  refine zi_const hx hb dX0_longLine_85 ?_
  refine zi_add (r := ((3 * k + 2 : Nat) : Int)) hx hb dX0_longLine_86 (by omega) ?_
  refine zr_ald hx hb hw 0 (3 * k + 2) rfl (by omega) (by omega) (by omega) dX0_longLine_87 ?_
  refine z_calli (wr := [zR ca dI 15 (cf), zL wa dJ 1280 (wf), zO yo yr (((256 * k : Nat) : Int)), zL yr dJ 4096 (F), zO zo zr (((256 * k : Nat) : Int)), zL zr dJ 4096 (F)]) (wo := (fun g1 : Nat → Int64 => [zR ca dI 15 (cf), zL wa dJ 1280 (wf), zO xo xr (((256 * k + 256 : Nat) : Int)), zL xr dJ 4096 (g1), zO yo yr (((256 * k : Nat) : Int)), zL yr dJ 4096 (F), zO zo zr (((256 * k : Nat) : Int)), zL zr dJ 4096 (F)])) (z_runV (n := 4) (rest := []) S (met_ramp l D dJ dI xo xr (256 * k) 256 (F) (zi (z7)) ((cf) (3 * k)) ((cf) (3 * k + 1)) ((cf) (3 * k + 2)) (by omega) (by have := hz7; omega)) (lw_V q122 q123 q124 q3 q125) rfl rfl (by decide +kernel) ⟨Nat.le_of_ble_eq_true rfl, Nat.le_of_ble_eq_true rfl⟩ hw [2, 3] rfl rfl 2 rfl rfl hl.1 rfl (Nat.le_of_ble_eq_true rfl) dX0_longLine_88 ⟨Nat.le_of_ble_eq_true rfl, Nat.le_of_ble_eq_true rfl⟩) hw [2, 3] [0, 1, 4, 5, 6, 7] rfl rfl rfl (by decide) [0, 1, 6, 7, 2, 3, 4, 5] rfl (fun _ => rfl) (fun v9 g1 H locs hp hw => ?_)
  obtain ⟨hp0, hag1, hbg1⟩ := hp
  subst hp0
  refine lv_sipush (v := zi (256)) hx hb dX0_longLine_91 (by decide +kernel) ?_
  refine zi_icmp_ne (tgt := 168) hx hb dX0_longLine_94 (by decide) (by omega) (by omega) (fun c_94 => ?_) (fun c_94 => ?_)
  · exact absurd c_94 (by omega)
  · refine lv_aload hx hb dX0_longLine_97 (lv_at hl 4 rfl) ?_
    refine lv_sipush (v := zi (256)) hx hb dX0_longLine_99 (by decide +kernel) ?_
    refine lv_aload_n hx hb dX0_longLine_102 rfl (lv_at hl 1 rfl) ?_
    refine zi_const hx hb dX0_longLine_103 ?_
    refine lv_iload hx hb dX0_longLine_104 (lv_at hl 6 rfl) ?_
    refine zi_mul (r := ((3 * k : Nat) : Int)) hx hb dX0_longLine_106 (by omega) ?_
    refine zr_ald hx hb hw 0 (3 * k) rfl (by omega) (by omega) (by omega) dX0_longLine_107 ?_
    refine lv_aload_n hx hb dX0_longLine_108 rfl (lv_at hl 1 rfl) ?_
    refine zi_const hx hb dX0_longLine_109 ?_
    refine lv_iload hx hb dX0_longLine_110 (lv_at hl 6 rfl) ?_
    refine zi_mul (r := ((3 * k : Nat) : Int)) hx hb dX0_longLine_112 (by omega) ?_
    refine zi_const hx hb dX0_longLine_113 ?_
    refine zi_add (r := ((3 * k + 1 : Nat) : Int)) hx hb dX0_longLine_114 (by omega) ?_
    refine zr_ald hx hb hw 0 (3 * k + 1) rfl (by omega) (by omega) (by omega) dX0_longLine_115 ?_
    refine lv_aload_n hx hb dX0_longLine_116 rfl (lv_at hl 1 rfl) ?_
    refine zi_const hx hb dX0_longLine_117 ?_
    refine lv_iload hx hb dX0_longLine_118 (lv_at hl 6 rfl) ?_
    refine zi_mul (r := ((3 * k : Nat) : Int)) hx hb dX0_longLine_120 (by omega) ?_
    refine zi_const hx hb dX0_longLine_121 ?_
    refine zi_add (r := ((3 * k + 2 : Nat) : Int)) hx hb dX0_longLine_122 (by omega) ?_
    refine zr_ald hx hb hw 0 (3 * k + 2) rfl (by omega) (by omega) (by omega) dX0_longLine_123 ?_
    refine z_calli (wr := [zR ca dI 15 (cf), zL wa dJ 1280 (wf), zO xo xr (((256 * k + 256 : Nat) : Int)), zL xr dJ 4096 (g1), zO zo zr (((256 * k : Nat) : Int)), zL zr dJ 4096 (F)]) (wo := (fun g2 : Nat → Int64 => [zR ca dI 15 (cf), zL wa dJ 1280 (wf), zO xo xr (((256 * k + 256 : Nat) : Int)), zL xr dJ 4096 (g1), zO yo yr (((256 * k + 256 : Nat) : Int)), zL yr dJ 4096 (g2), zO zo zr (((256 * k : Nat) : Int)), zL zr dJ 4096 (F)])) (z_runV (n := 4) (rest := []) S (met_ramp l D dJ dI yo yr (256 * k) 256 (F) (zi (256)) ((cf) (3 * k)) ((cf) (3 * k + 1)) ((cf) (3 * k + 2)) (by omega) (by have := h256; omega)) (lw_V q122 q123 q124 q3 q125) rfl rfl (by decide +kernel) ⟨Nat.le_of_ble_eq_true rfl, Nat.le_of_ble_eq_true rfl⟩ hw [4, 5] rfl rfl 4 rfl rfl hl.1 rfl (Nat.le_of_ble_eq_true rfl) dX0_longLine_124 ⟨Nat.le_of_ble_eq_true rfl, Nat.le_of_ble_eq_true rfl⟩) hw [4, 5] [0, 1, 2, 3, 6, 7] rfl rfl rfl (by decide) [0, 1, 2, 3, 6, 7, 4, 5] rfl (fun _ => rfl) (fun v9 g2 H locs hp hw => ?_)
    obtain ⟨hp0, hag2, hbg2⟩ := hp
    subst hp0
    have eg2 : g2 = g1 := zramp_uniq hag1 hbg1 hag2 hbg2
    rw [eg2] at hw
    refine lv_sipush (v := zi (256)) hx hb dX0_longLine_127 (by decide +kernel) ?_
    refine zi_icmp_ne (tgt := 168) hx hb dX0_longLine_130 (by decide) (by omega) (by omega) (fun c_130 => ?_) (fun c_130 => ?_)
    · exact absurd c_130 (by omega)
    · refine lv_aload hx hb dX0_longLine_133 (lv_at hl 5 rfl) ?_
      refine lv_ldc (v := -2147483392) hx hb hown (hts _ q127) dX0_longLine_135 ?_
      refine lv_aload_n hx hb dX0_longLine_137 rfl (lv_at hl 1 rfl) ?_
      refine zi_const hx hb dX0_longLine_138 ?_
      refine lv_iload hx hb dX0_longLine_139 (lv_at hl 6 rfl) ?_
      refine zi_mul (r := ((3 * k : Nat) : Int)) hx hb dX0_longLine_141 (by omega) ?_
      refine zr_ald hx hb hw 0 (3 * k) rfl (by omega) (by omega) (by omega) dX0_longLine_142 ?_
      refine lv_aload_n hx hb dX0_longLine_143 rfl (lv_at hl 1 rfl) ?_
      refine zi_const hx hb dX0_longLine_144 ?_
      refine lv_iload hx hb dX0_longLine_145 (lv_at hl 6 rfl) ?_
      refine zi_mul (r := ((3 * k : Nat) : Int)) hx hb dX0_longLine_147 (by omega) ?_
      refine zi_const hx hb dX0_longLine_148 ?_
      refine zi_add (r := ((3 * k + 1 : Nat) : Int)) hx hb dX0_longLine_149 (by omega) ?_
      refine zr_ald hx hb hw 0 (3 * k + 1) rfl (by omega) (by omega) (by omega) dX0_longLine_150 ?_
      refine lv_aload_n hx hb dX0_longLine_151 rfl (lv_at hl 1 rfl) ?_
      refine zi_const hx hb dX0_longLine_152 ?_
      refine lv_iload hx hb dX0_longLine_153 (lv_at hl 6 rfl) ?_
      refine zi_mul (r := ((3 * k : Nat) : Int)) hx hb dX0_longLine_155 (by omega) ?_
      refine zi_const hx hb dX0_longLine_156 ?_
      refine zi_add (r := ((3 * k + 2 : Nat) : Int)) hx hb dX0_longLine_157 (by omega) ?_
      refine zr_ald hx hb hw 0 (3 * k + 2) rfl (by omega) (by omega) (by omega) dX0_longLine_158 ?_
      refine z_calli (wr := [zR ca dI 15 (cf), zL wa dJ 1280 (wf), zO xo xr (((256 * k + 256 : Nat) : Int)), zL xr dJ 4096 (g1), zO yo yr (((256 * k + 256 : Nat) : Int)), zL yr dJ 4096 (g1)]) (wo := (fun g3 : Nat → Int64 => [zR ca dI 15 (cf), zL wa dJ 1280 (wf), zO xo xr (((256 * k + 256 : Nat) : Int)), zL xr dJ 4096 (g1), zO yo yr (((256 * k + 256 : Nat) : Int)), zL yr dJ 4096 (g1), zO zo zr (((256 * k + 256 : Nat) : Int)), zL zr dJ 4096 (g3)])) (z_runV (n := 4) (rest := []) S (met_ramp l D dJ dI zo zr (256 * k) 256 (F) (-2147483392) ((cf) (3 * k)) ((cf) (3 * k + 1)) ((cf) (3 * k + 2)) (by omega) (by have := hneg; omega)) (lw_V q122 q123 q124 q3 q125) rfl rfl (by decide +kernel) ⟨Nat.le_of_ble_eq_true rfl, Nat.le_of_ble_eq_true rfl⟩ hw [6, 7] rfl rfl 6 rfl rfl hl.1 rfl (Nat.le_of_ble_eq_true rfl) dX0_longLine_159 ⟨Nat.le_of_ble_eq_true rfl, Nat.le_of_ble_eq_true rfl⟩) hw [6, 7] [0, 1, 2, 3, 4, 5] rfl rfl rfl (by decide) [0, 1, 2, 3, 4, 5, 6, 7] rfl (fun _ => rfl) (fun v9 g3 H locs hp hw => ?_)
      obtain ⟨hp0, hag3, hbg3⟩ := hp
      subst hp0
      have eg3 : g3 = g1 := zramp_uniq hag1 hbg1 hag3 hbg3
      rw [eg3] at hw
      refine lv_sipush (v := zi (256)) hx hb dX0_longLine_162 (by decide +kernel) ?_
      refine zi_icmp_eq (tgt := 170) hx hb dX0_longLine_165 (by decide) (by omega) (by omega) (fun c_165 => ?_) (fun c_165 => ?_)
      · refine zi_const hx hb dX0_longLine_170 ?_
        refine lv_istore (lv' := [(8, .int (zi (0))), (0, .ref sb), (1, .ref ca), (2, .ref wa), (3, .ref xo), (4, .ref yo), (5, .ref zo), (6, .int (zi (((k : Nat) : Int)))), (7, .int (zi (z7)))]) hx hb dX0_longLine_171 hl (by decide) rfl (fun ls hl => ?_)
        refine lp_l2 (k := k) (F := g1) S hk hag1 (fun wf H locs ls hsw hcw hw hl => ?_) 257 0 wf _ H locs ls (by omega) (by omega) rfl hsw (fun P => (hcw P).trans (zs_cn_congr (fun j hj => (hbg1 j (Or.inl (by omega))).symm))) hw (lv_sub hl [1, 2, 3, 4, 5, 6, 7, 0] rfl)
        refine zi_inc (v := ((k + 1 : Nat) : Int)) (k := 6) (lv' := [(6, .int (zi (((k + 1 : Nat) : Int)))), (0, .ref sb), (1, .ref ca), (2, .ref wa), (3, .ref xo), (4, .ref yo), (5, .ref zo)]) hx hb dX0_longLine_295 hl rfl (by omega) (by decide) rfl (fun ls hl => ?_)
        refine lv_goto (tgt := 40) hx hb dX0_longLine_298 (by decide) ?_
        exact kk g1 wf _ H locs ls rfl hsw hcw hw (lv_sub hl [1, 2, 3, 4, 5, 6, 0] rfl)
      · exact absurd c_165 (by omega)
set_option maxHeartbeats 4000000 in
set_option maxRecDepth 100000 in
/-- five runs -/
theorem lp_l3 {sb ca wa xo yo zo xr yr zr : Nat} {cf : Nat → Int32} (S : CallFix p m c cX0_longLine 12 s args lw_all RX0) (kx : ∀ (F wf : Nat → Int64) (H : Heap) (locs : List Loc) (ls : Array Slot), zs_srt wf 0 (1280) → (∀ P, zs_cn P wf (1280) = zs_cn P F (1280)) → zW D dJ dI A s [zR ca dI 15 (cf), zL wa dJ 1280 (wf), zO xo xr (1280), zL xr dJ 4096 (F), zO yo yr (1280), zL yr dJ 4096 (F), zO zo zr (1280), zL zr dJ 4096 (F)] H locs → lv_has ls 12 [(0, .ref sb), (1, .ref ca), (2, .ref wa), (3, .ref xo), (4, .ref yo), (5, .ref zo)] → W p l e (zRm 1305 14 20739 43006) s m args below meth c H locs 8 13589 Q (F0 m 301 ls [])) :
    ∀ (N k : Nat) (F wf : Nat → Int64) (z6 : Int) (H : Heap) (locs : List Loc) (ls : Array Slot), 5 < k + N → k ≤ 5 → z6 = ((k : Nat) : Int) → zs_srt wf 0 (256 * k) → (∀ P, zs_cn P wf (256 * k) = zs_cn P F (256 * k)) → zW D dJ dI A s [zR ca dI 15 (cf), zL wa dJ 1280 (wf), zO xo xr (((256 * k : Nat) : Int)), zL xr dJ 4096 (F), zO yo yr (((256 * k : Nat) : Int)), zL yr dJ 4096 (F), zO zo zr (((256 * k : Nat) : Int)), zL zr dJ 4096 (F)] H locs → lv_has ls 12 [(0, .ref sb), (1, .ref ca), (2, .ref wa), (3, .ref xo), (4, .ref yo), (5, .ref zo), (6, .int (zi (z6)))] → W p l e (zRm 1305 14 20739 43006) s m args below meth c H locs 8 13589 Q (F0 m 40 ls []) := by
  obtain ⟨hx, hb, hml, hown, hts⟩ := id S
  intro N
  induction N with
  | zero =>
    intro k F wf z6 H locs ls h1 h2
    exact absurd h1 (by omega)
  | succ N ih =>
    intro k F wf z6 H locs ls hN hk1 e6 hsw hcw hw hl
    subst e6
    refine lv_iload hx hb dX0_longLine_40 (lv_at hl 6 rfl) ?_
    refine zi_const hx hb dX0_longLine_42 ?_
    refine zi_icmp_ge (tgt := 301) hx hb dX0_longLine_43 (by decide) (by omega) (by omega) (fun c_43 => ?_) (fun c_43 => ?_)
    · have e9 : k = 5 := by omega
      subst e9
      exact kx F wf H locs ls hsw hcw hw (lv_sub hl [0, 1, 2, 3, 4, 5] rfl)
    · refine lv_iload hx hb dX0_longLine_46 (lv_at hl 6 rfl) ?_
      refine zi_const hx hb dX0_longLine_48 ?_
      refine zi_icmp_ne (tgt := 58) hx hb dX0_longLine_49 (by decide) (by omega) (by omega) (fun c_49 => ?_) (fun c_49 => ?_)
      · refine lv_sipush (v := zi (256)) hx hb dX0_longLine_58 (by decide +kernel) ?_
        refine lv_istore (lv' := [(7, .int (zi (256))), (0, .ref sb), (1, .ref ca), (2, .ref wa), (3, .ref xo), (4, .ref yo), (5, .ref zo), (6, .int (zi (((k : Nat) : Int))))]) hx hb dX0_longLine_61 hl (by decide) rfl (fun ls hl => ?_)
        exact lp_l3b (k := k) (F := F) (wf := wf) S (by omega) (by decide +kernel) hsw hcw hw (lv_sub hl [1, 2, 3, 4, 5, 6, 7, 0] rfl) (fun F wf z6 H locs ls e6 h1 h2 hw hl => ih (k + 1) F wf z6 H locs ls (by omega) (by omega) e6 (by show zs_srt wf 0 (256 * k + 256); exact h1) (by show ∀ P, zs_cn P wf (256 * k + 256) = zs_cn P F (256 * k + 256); exact h2) (by show zW D dJ dI A s [zR ca dI 15 (cf), zL wa dJ 1280 (wf), zO xo xr (((256 * k + 256 : Nat) : Int)), zL xr dJ 4096 (F), zO yo yr (((256 * k + 256 : Nat) : Int)), zL yr dJ 4096 (F), zO zo zr (((256 * k + 256 : Nat) : Int)), zL zr dJ 4096 (F)] H locs; exact hw) hl)
      · refine lv_sipush (v := zi (1027)) hx hb dX0_longLine_52 (by decide +kernel) ?_
        refine lv_goto (tgt := 61) hx hb dX0_longLine_55 (by decide) ?_
        refine lv_istore (lv' := [(7, .int (zi (1027))), (0, .ref sb), (1, .ref ca), (2, .ref wa), (3, .ref xo), (4, .ref yo), (5, .ref zo), (6, .int (zi (((k : Nat) : Int))))]) hx hb dX0_longLine_61 hl (by decide) rfl (fun ls hl => ?_)
        exact lp_l3b (k := k) (F := F) (wf := wf) S (by omega) (by decide +kernel) hsw hcw hw (lv_sub hl [1, 2, 3, 4, 5, 6, 7, 0] rfl) (fun F wf z6 H locs ls e6 h1 h2 hw hl => ih (k + 1) F wf z6 H locs ls (by omega) (by omega) e6 (by show zs_srt wf 0 (256 * k + 256); exact h1) (by show ∀ P, zs_cn P wf (256 * k + 256) = zs_cn P F (256 * k + 256); exact h2) (by show zW D dJ dI A s [zR ca dI 15 (cf), zL wa dJ 1280 (wf), zO xo xr (((256 * k + 256 : Nat) : Int)), zL xr dJ 4096 (F), zO yo yr (((256 * k + 256 : Nat) : Int)), zL yr dJ 4096 (F), zO zo zr (((256 * k + 256 : Nat) : Int)), zL zr dJ 4096 (F)] H locs; exact hw) hl)
set_option maxHeartbeats 4000000 in
set_option maxRecDepth 100000 in
/-- the three sorted lines against the law's -/
theorem lp_l5 {sb ca wa xo yo zo xr yr zr : Nat} {cf : Nat → Int32} {gx gy gz wf : Nat → Int64} (S : CallFix p m c cX0_longLine 12 s args lw_all RX0) (hgx : ∀ j, j < 1280 → gx j = wf j) (hgy : ∀ j, j < 1280 → gy j = wf j) (hgz : ∀ j, j < 1280 → gz j = wf j) (kx : ∀ (H : Heap) (locs : List Loc) (ls : Array Slot), zW D dJ dI A s [zR ca dI 15 (cf), zL wa dJ 1280 (wf), zO xo xr (1280), zL xr dJ 4096 (gx), zO yo yr (1280), zL yr dJ 4096 (gy), zO zo zr (1280), zL zr dJ 4096 (gz)] H locs → lv_has ls 12 [(0, .ref sb), (1, .ref ca), (2, .ref wa), (3, .ref xo), (4, .ref yo), (5, .ref zo)] → W p l e (zRm 1305 14 20739 43006) s m args below meth c H locs 14 20739 Q (F0 m 411 ls [])) :
    ∀ (N i : Nat) (z6 : Int) (H : Heap) (locs : List Loc) (ls : Array Slot), 1280 < i + N → i ≤ 1280 → z6 = ((i : Nat) : Int) → zW D dJ dI A s [zR ca dI 15 (cf), zL wa dJ 1280 (wf), zO xo xr (1280), zL xr dJ 4096 (gx), zO yo yr (1280), zL yr dJ 4096 (gy), zO zo zr (1280), zL zr dJ 4096 (gz)] H locs → lv_has ls 12 [(0, .ref sb), (1, .ref ca), (2, .ref wa), (3, .ref xo), (4, .ref yo), (5, .ref zo), (6, .int (zi (z6)))] → W p l e (zRm 1305 14 20739 43006) s m args below meth c H locs 14 20739 Q (F0 m 351 ls []) := by
  obtain ⟨hx, hb, hml, hown, hts⟩ := id S
  intro N
  induction N with
  | zero =>
    intro i z6 H locs ls h1 h2
    exact absurd h1 (by omega)
  | succ N ih =>
    intro i z6 H locs ls hN hi1 e6 hw hl
    subst e6
    refine lv_iload hx hb dX0_longLine_351 (lv_at hl 6 rfl) ?_
    refine lv_sipush (v := zi (1280)) hx hb dX0_longLine_353 (by decide +kernel) ?_
    refine zi_icmp_ge (tgt := 411) hx hb dX0_longLine_356 (by decide) (by omega) (by omega) (fun c_356 => ?_) (fun c_356 => ?_)
    · exact kx H locs ls hw (lv_sub hl [0, 1, 2, 3, 4, 5] rfl)
    · have ex9 : (gx i).toInt = (wf i).toInt := by rw [hgx i (by omega)]
      have ey9 : (gy i).toInt = (wf i).toInt := by rw [hgy i (by omega)]
      have ez9 : (gz i).toInt = (wf i).toInt := by rw [hgz i (by omega)]
      refine lv_aload_n hx hb dX0_longLine_359 rfl (lv_at hl 3 rfl) ?_
      refine lv_iload hx hb dX0_longLine_360 (lv_at hl 6 rfl) ?_
      refine z_calll (wr := [zR ca dI 15 (cf), zL wa dJ 1280 (wf), zO yo yr (1280), zL yr dJ 4096 (gy), zO zo zr (1280), zL zr dJ 4096 (gz)]) (wo := (fun _ : Unit => [zR ca dI 15 (cf), zL wa dJ 1280 (wf), zO xo xr (1280), zL xr dJ 4096 (gx), zO yo yr (1280), zL yr dJ 4096 (gy), zO zo zr (1280), zL zr dJ 4096 (gz)])) (z_runV (n := 1) (rest := []) S (met_row l D dJ dI xo xr (1280) (gx) (zi (((i : Nat) : Int))) (by omega) (by omega)) (lw_V q84 q85 q86 q3 q87) rfl rfl (by decide +kernel) ⟨Nat.le_of_ble_eq_true rfl, Nat.le_of_ble_eq_true rfl⟩ hw [2, 3] rfl rfl 2 rfl rfl hl.1 rfl (Nat.le_of_ble_eq_true rfl) dX0_longLine_362 ⟨Nat.le_of_ble_eq_true rfl, Nat.le_of_ble_eq_true rfl⟩) hw [2, 3] [0, 1, 4, 5, 6, 7] rfl rfl rfl (by decide) [0, 1, 6, 7, 2, 3, 4, 5] rfl (fun _ => rfl) (fun v9 _ H locs hp hw => ?_)
      have e9 : zlo (zi (((i : Nat) : Int))) % (1280) = i := by rw [zlo_zi (k := i) (by omega) (by omega)]; exact Nat.mod_eq_of_lt (by omega)
      rw [e9] at hp
      subst hp
      clear e9
      refine lv_aload_n hx hb dX0_longLine_365 rfl (lv_at hl 2 rfl) ?_
      refine lv_iload hx hb dX0_longLine_366 (lv_at hl 6 rfl) ?_
      refine zl_ald hx hb hw 1 (i) rfl (by omega) (by omega) (by omega) dX0_longLine_368 ?_
      refine zl_cmp hx hb dX0_longLine_369 ?_
      have hz_369_2 := zcz_spec ((gx) (i)) ((wf) (i))
      refine zi_if_ne (tgt := 403) hx hb dX0_longLine_370 (by decide) (by omega) (fun c_370 => ?_) (fun c_370 => ?_)
      · exact absurd c_370 (by omega)
      · refine lv_aload hx hb dX0_longLine_373 (lv_at hl 4 rfl) ?_
        refine lv_iload hx hb dX0_longLine_375 (lv_at hl 6 rfl) ?_
        refine z_calll (wr := [zR ca dI 15 (cf), zL wa dJ 1280 (wf), zO xo xr (1280), zL xr dJ 4096 (gx), zO zo zr (1280), zL zr dJ 4096 (gz)]) (wo := (fun _ : Unit => [zR ca dI 15 (cf), zL wa dJ 1280 (wf), zO xo xr (1280), zL xr dJ 4096 (gx), zO yo yr (1280), zL yr dJ 4096 (gy), zO zo zr (1280), zL zr dJ 4096 (gz)])) (z_runV (n := 1) (rest := []) S (met_row l D dJ dI yo yr (1280) (gy) (zi (((i : Nat) : Int))) (by omega) (by omega)) (lw_V q84 q85 q86 q3 q87) rfl rfl (by decide +kernel) ⟨Nat.le_of_ble_eq_true rfl, Nat.le_of_ble_eq_true rfl⟩ hw [4, 5] rfl rfl 4 rfl rfl hl.1 rfl (Nat.le_of_ble_eq_true rfl) dX0_longLine_377 ⟨Nat.le_of_ble_eq_true rfl, Nat.le_of_ble_eq_true rfl⟩) hw [4, 5] [0, 1, 2, 3, 6, 7] rfl rfl rfl (by decide) [0, 1, 2, 3, 6, 7, 4, 5] rfl (fun _ => rfl) (fun v9 _ H locs hp hw => ?_)
        have e9 : zlo (zi (((i : Nat) : Int))) % (1280) = i := by rw [zlo_zi (k := i) (by omega) (by omega)]; exact Nat.mod_eq_of_lt (by omega)
        rw [e9] at hp
        subst hp
        clear e9
        refine lv_aload_n hx hb dX0_longLine_380 rfl (lv_at hl 2 rfl) ?_
        refine lv_iload hx hb dX0_longLine_381 (lv_at hl 6 rfl) ?_
        refine zl_ald hx hb hw 1 (i) rfl (by omega) (by omega) (by omega) dX0_longLine_383 ?_
        refine zl_cmp hx hb dX0_longLine_384 ?_
        have hz_384_4 := zcz_spec ((gy) (i)) ((wf) (i))
        refine zi_if_ne (tgt := 403) hx hb dX0_longLine_385 (by decide) (by omega) (fun c_385 => ?_) (fun c_385 => ?_)
        · exact absurd c_385 (by omega)
        · refine lv_aload hx hb dX0_longLine_388 (lv_at hl 5 rfl) ?_
          refine lv_iload hx hb dX0_longLine_390 (lv_at hl 6 rfl) ?_
          refine z_calll (wr := [zR ca dI 15 (cf), zL wa dJ 1280 (wf), zO xo xr (1280), zL xr dJ 4096 (gx), zO yo yr (1280), zL yr dJ 4096 (gy)]) (wo := (fun _ : Unit => [zR ca dI 15 (cf), zL wa dJ 1280 (wf), zO xo xr (1280), zL xr dJ 4096 (gx), zO yo yr (1280), zL yr dJ 4096 (gy), zO zo zr (1280), zL zr dJ 4096 (gz)])) (z_runV (n := 1) (rest := []) S (met_row l D dJ dI zo zr (1280) (gz) (zi (((i : Nat) : Int))) (by omega) (by omega)) (lw_V q84 q85 q86 q3 q87) rfl rfl (by decide +kernel) ⟨Nat.le_of_ble_eq_true rfl, Nat.le_of_ble_eq_true rfl⟩ hw [6, 7] rfl rfl 6 rfl rfl hl.1 rfl (Nat.le_of_ble_eq_true rfl) dX0_longLine_392 ⟨Nat.le_of_ble_eq_true rfl, Nat.le_of_ble_eq_true rfl⟩) hw [6, 7] [0, 1, 2, 3, 4, 5] rfl rfl rfl (by decide) [0, 1, 2, 3, 4, 5, 6, 7] rfl (fun _ => rfl) (fun v9 _ H locs hp hw => ?_)
          have e9 : zlo (zi (((i : Nat) : Int))) % (1280) = i := by rw [zlo_zi (k := i) (by omega) (by omega)]; exact Nat.mod_eq_of_lt (by omega)
          rw [e9] at hp
          subst hp
          clear e9
          refine lv_aload_n hx hb dX0_longLine_395 rfl (lv_at hl 2 rfl) ?_
          refine lv_iload hx hb dX0_longLine_396 (lv_at hl 6 rfl) ?_
          refine zl_ald hx hb hw 1 (i) rfl (by omega) (by omega) (by omega) dX0_longLine_398 ?_
          refine zl_cmp hx hb dX0_longLine_399 ?_
          have hz_399_6 := zcz_spec ((gz) (i)) ((wf) (i))
          refine zi_if_eq (tgt := 405) hx hb dX0_longLine_400 (by decide) (by omega) (fun c_400 => ?_) (fun c_400 => ?_)
          · refine zi_inc (v := ((i + 1 : Nat) : Int)) (k := 6) (lv' := [(6, .int (zi (((i + 1 : Nat) : Int)))), (0, .ref sb), (1, .ref ca), (2, .ref wa), (3, .ref xo), (4, .ref yo), (5, .ref zo)]) hx hb dX0_longLine_405 hl rfl (by omega) (by decide) rfl (fun ls hl => ?_)
            refine lv_goto (tgt := 351) hx hb dX0_longLine_408 (by decide) ?_
            exact ih (i + 1) _ H locs ls (by omega) (by omega) rfl hw (lv_sub hl [1, 2, 3, 4, 5, 6, 0] rfl)
          · exact absurd c_400 (by omega)
end ZLL
set_option maxHeartbeats 4000000 in
set_option maxRecDepth 100000 in
theorem met_longLine (l : Launch) (D : va_G) (dJ dI : ClassId) (sb sL : Nat) (sx : Nat → Int32) (hL : sL ≤ 50) : zXC l yX0_longLine cX0_longLine 12 1305 14 20739 43006 .boolean D dJ dI [.ref sb] sb sL sx (fun (v : Int32) (_ : Unit) => v = zi 1) (fun _ => []) := by
  refine z_metX (by decide) (Nat.le_of_ble_eq_true rfl) ?_
  intro p e s m below meth c ls S hr hlocks hX hbl hbA hw hl
  have S : CallFix p m c cX0_longLine 12 s _ lw_all RX0 := S
  obtain ⟨hx, hb, hml, hown, hts⟩ := id S
  have hl : lv_has ls 12 [(0, .ref sb)] := hl
  refine lv_aload_n hx hb dX0_longLine_0 rfl (lv_at hl 0 rfl) ?_
  refine z_callr (wr := []) (wo := (fun (u : Nat → Int32) (q : Nat) => [zR q dI 15 u])) (z_runX (n := 1) (rest := []) S (met_lines l D dJ dI sb sL sx hL) (lw_S q119 q120 q2 q121) rfl rfl (by decide +kernel) ⟨Nat.le_of_ble_eq_true rfl, Nat.le_of_ble_eq_true rfl⟩ hw hX hbl hbA rfl hl.1 rfl (Nat.le_of_ble_eq_true rfl) dX0_longLine_1 ⟨Nat.le_of_ble_eq_true rfl, Nat.le_of_ble_eq_true rfl⟩) hw [] [] rfl rfl rfl (by decide) [0] rfl (fun _ _ => rfl) (fun cf ca H locs hcf hw => ?_)
  refine W.widen (k := 1) (n := 15) (Nat.le_of_ble_eq_true rfl) (Nat.le_of_ble_eq_true rfl) ?_
  refine lv_astore_n (lv' := [(1, .ref ca), (0, .ref sb)]) hx hb dX0_longLine_4 rfl hl (by decide) rfl (fun ls hl => ?_)
  refine lv_sipush (v := zi (1280)) hx hb dX0_longLine_5 (by decide +kernel) ?_
  refine zl_new (k := 1280) hx hb hts hw (by omega) (by omega) (Nat.le_of_ble_eq_true rfl) (Nat.le_of_ble_eq_true rfl) dX0_longLine_8 (fun wa H hw => ?_)
  have hw : zW D dJ dI _ s [zR ca dI 15 (cf), zL wa dJ 1280 (fun _ => 0)] H _ := hw
  refine W.widen (k := 2) (n := 1295) (Nat.le_of_ble_eq_true rfl) (Nat.le_of_ble_eq_true rfl) ?_
  refine lv_astore_n (lv' := [(2, .ref wa), (1, .ref ca), (0, .ref sb)]) hx hb dX0_longLine_10 rfl hl (by decide) rfl (fun ls hl => ?_)
  refine zo_new hx hb hts hown hw (Nat.le_of_ble_eq_true rfl) (Nat.le_of_ble_eq_true rfl) dX0_longLine_11 (fun xo H hw => ?_)
  have hw : zW D dJ dI _ s [zR ca dI 15 (cf), zL wa dJ 1280 (fun _ => 0), (xo, .inr (0, [.null, .int (zi 0)]))] H _ := hw
  refine W.widen (k := 3) (n := 1297) (Nat.le_of_ble_eq_true rfl) (Nat.le_of_ble_eq_true rfl) ?_
  refine lv_dup hx hb dX0_longLine_14 rfl ?_
  refine z_callv (wr := [zR ca dI 15 (cf), zL wa dJ 1280 (fun _ => 0)]) (wo := (fun xr : Nat => [zR ca dI 15 (cf), zL wa dJ 1280 (fun _ => 0), zO xo xr (0), zL xr dJ 4096 (fun _ => 0)])) (z_runI (n := 0) (rest := [.ref xo]) S (met_init l D dJ dI xo) q97 q3 q95 q96 rfl rfl rfl (by decide +kernel) ⟨Nat.le_of_ble_eq_true rfl, Nat.le_of_ble_eq_true rfl⟩ hw [2] rfl rfl rfl hl.1 rfl (Nat.le_of_ble_eq_true rfl) dX0_longLine_15 ⟨Nat.le_of_ble_eq_true rfl, Nat.le_of_ble_eq_true rfl⟩) hw [2] [0, 1] rfl rfl rfl (by decide) [0, 1, 2, 3] rfl (fun _ => rfl) (fun xr H locs _ hw => ?_)
  refine W.widen (k := 4) (n := 5393) (Nat.le_of_ble_eq_true rfl) (Nat.le_of_ble_eq_true rfl) ?_
  refine lv_astore_n (lv' := [(3, .ref xo), (2, .ref wa), (1, .ref ca), (0, .ref sb)]) hx hb dX0_longLine_18 rfl hl (by decide) rfl (fun ls hl => ?_)
  refine zo_new hx hb hts hown hw (Nat.le_of_ble_eq_true rfl) (Nat.le_of_ble_eq_true rfl) dX0_longLine_19 (fun yo H hw => ?_)
  have hw : zW D dJ dI _ s [zR ca dI 15 (cf), zL wa dJ 1280 (fun _ => 0), zO xo xr (0), zL xr dJ 4096 (fun _ => 0), (yo, .inr (0, [.null, .int (zi 0)]))] H _ := hw
  refine W.widen (k := 5) (n := 5395) (Nat.le_of_ble_eq_true rfl) (Nat.le_of_ble_eq_true rfl) ?_
  refine lv_dup hx hb dX0_longLine_22 rfl ?_
  refine z_callv (wr := [zR ca dI 15 (cf), zL wa dJ 1280 (fun _ => 0), zO xo xr (0), zL xr dJ 4096 (fun _ => 0)]) (wo := (fun yr : Nat => [zR ca dI 15 (cf), zL wa dJ 1280 (fun _ => 0), zO xo xr (0), zL xr dJ 4096 (fun _ => 0), zO yo yr (0), zL yr dJ 4096 (fun _ => 0)])) (z_runI (n := 0) (rest := [.ref yo]) S (met_init l D dJ dI yo) q97 q3 q95 q96 rfl rfl rfl (by decide +kernel) ⟨Nat.le_of_ble_eq_true rfl, Nat.le_of_ble_eq_true rfl⟩ hw [4] rfl rfl rfl hl.1 rfl (Nat.le_of_ble_eq_true rfl) dX0_longLine_23 ⟨Nat.le_of_ble_eq_true rfl, Nat.le_of_ble_eq_true rfl⟩) hw [4] [0, 1, 2, 3] rfl rfl rfl (by decide) [0, 1, 2, 3, 4, 5] rfl (fun _ => rfl) (fun yr H locs _ hw => ?_)
  refine W.widen (k := 6) (n := 9491) (Nat.le_of_ble_eq_true rfl) (Nat.le_of_ble_eq_true rfl) ?_
  refine lv_astore (lv' := [(4, .ref yo), (3, .ref xo), (2, .ref wa), (1, .ref ca), (0, .ref sb)]) hx hb dX0_longLine_26 hl (by decide) rfl (fun ls hl => ?_)
  refine zo_new hx hb hts hown hw (Nat.le_of_ble_eq_true rfl) (Nat.le_of_ble_eq_true rfl) dX0_longLine_28 (fun zo H hw => ?_)
  have hw : zW D dJ dI _ s [zR ca dI 15 (cf), zL wa dJ 1280 (fun _ => 0), zO xo xr (0), zL xr dJ 4096 (fun _ => 0), zO yo yr (0), zL yr dJ 4096 (fun _ => 0), (zo, .inr (0, [.null, .int (zi 0)]))] H _ := hw
  refine W.widen (k := 7) (n := 9493) (Nat.le_of_ble_eq_true rfl) (Nat.le_of_ble_eq_true rfl) ?_
  refine lv_dup hx hb dX0_longLine_31 rfl ?_
  refine z_callv (wr := [zR ca dI 15 (cf), zL wa dJ 1280 (fun _ => 0), zO xo xr (0), zL xr dJ 4096 (fun _ => 0), zO yo yr (0), zL yr dJ 4096 (fun _ => 0)]) (wo := (fun zr : Nat => [zR ca dI 15 (cf), zL wa dJ 1280 (fun _ => 0), zO xo xr (0), zL xr dJ 4096 (fun _ => 0), zO yo yr (0), zL yr dJ 4096 (fun _ => 0), zO zo zr (0), zL zr dJ 4096 (fun _ => 0)])) (z_runI (n := 0) (rest := [.ref zo]) S (met_init l D dJ dI zo) q97 q3 q95 q96 rfl rfl rfl (by decide +kernel) ⟨Nat.le_of_ble_eq_true rfl, Nat.le_of_ble_eq_true rfl⟩ hw [6] rfl rfl rfl hl.1 rfl (Nat.le_of_ble_eq_true rfl) dX0_longLine_32 ⟨Nat.le_of_ble_eq_true rfl, Nat.le_of_ble_eq_true rfl⟩) hw [6] [0, 1, 2, 3, 4, 5] rfl rfl rfl (by decide) [0, 1, 2, 3, 4, 5, 6, 7] rfl (fun _ => rfl) (fun zr H locs _ hw => ?_)
  refine W.widen (k := 8) (n := 13589) (Nat.le_of_ble_eq_true rfl) (Nat.le_of_ble_eq_true rfl) ?_
  refine lv_astore (lv' := [(5, .ref zo), (4, .ref yo), (3, .ref xo), (2, .ref wa), (1, .ref ca), (0, .ref sb)]) hx hb dX0_longLine_35 hl (by decide) rfl (fun ls hl => ?_)
  refine zi_const hx hb dX0_longLine_37 ?_
  refine lv_istore (lv' := [(6, .int (zi (0))), (5, .ref zo), (4, .ref yo), (3, .ref xo), (2, .ref wa), (1, .ref ca), (0, .ref sb)]) hx hb dX0_longLine_38 hl (by decide) rfl (fun ls hl => ?_)
  refine lp_l3 S (fun F wf H locs ls hsw hcw hw hl => ?_) 6 0 (fun _ => 0) (fun _ => 0) _ H locs ls (by omega) (by omega) rfl (fun i j a b d => absurd d (by omega)) (fun P => rfl) hw (lv_sub hl [6, 5, 4, 3, 2, 1, 0] rfl)
  refine lv_aload_n hx hb dX0_longLine_301 rfl (lv_at hl 3 rfl) ?_
  refine zi_const hx hb dX0_longLine_302 ?_
  refine lv_sipush (v := zi (1280)) hx hb dX0_longLine_303 (by decide +kernel) ?_
  refine z_calli (wr := [zR ca dI 15 (cf), zL wa dJ 1280 (wf), zO yo yr (1280), zL yr dJ 4096 (F), zO zo zr (1280), zL zr dJ 4096 (F)]) (wo := (fun gx : Nat → Int64 => [zR ca dI 15 (cf), zL wa dJ 1280 (wf), zO xo xr (1280), zL xr dJ 4096 (gx), zO yo yr (1280), zL yr dJ 4096 (F), zO zo zr (1280), zL zr dJ 4096 (F)])) (z_runV (n := 2) (rest := []) S (met_dquick l D dJ dI xo xr 1280 0 1280 (F) (zi (0)) (zi (1280)) (by omega) (by decide +kernel) (by decide +kernel)) (lw_V q9 q10 q11 q3 q12) rfl rfl (by decide +kernel) ⟨Nat.le_of_ble_eq_true rfl, Nat.le_of_ble_eq_true rfl⟩ hw [2, 3] rfl rfl 2 rfl rfl hl.1 rfl (Nat.le_of_ble_eq_true rfl) dX0_longLine_306 ⟨Nat.le_of_ble_eq_true rfl, Nat.le_of_ble_eq_true rfl⟩) hw [2, 3] [0, 1, 4, 5, 6, 7] rfl rfl rfl (by decide) [0, 1, 6, 7, 2, 3, 4, 5] rfl (fun _ => rfl) (fun v9 gx H locs hp hw => ?_)
  obtain ⟨hp0, hpgx, hsgx⟩ := hp
  subst hp0
  refine lv_sipush (v := zi (1280)) hx hb dX0_longLine_309 (by decide +kernel) ?_
  refine zi_icmp_ne (tgt := 346) hx hb dX0_longLine_312 (by decide) (by omega) (by omega) (fun c_312 => ?_) (fun c_312 => ?_)
  · exact absurd c_312 (by omega)
  · refine lv_aload hx hb dX0_longLine_315 (lv_at hl 4 rfl) ?_
    refine lv_sipush (v := zi (1281)) hx hb dX0_longLine_317 (by decide +kernel) ?_
    refine lv_sipush (v := zi (1280)) hx hb dX0_longLine_320 (by decide +kernel) ?_
    refine z_calli (wr := [zR ca dI 15 (cf), zL wa dJ 1280 (wf), zO xo xr (1280), zL xr dJ 4096 (gx), zO zo zr (1280), zL zr dJ 4096 (F)]) (wo := (fun gy : Nat → Int64 => [zR ca dI 15 (cf), zL wa dJ 1280 (wf), zO xo xr (1280), zL xr dJ 4096 (gx), zO yo yr (1280), zL yr dJ 4096 (gy), zO zo zr (1280), zL zr dJ 4096 (F)])) (z_runV (n := 2) (rest := []) S (met_dmerge l D dJ dI yo yr 1280 0 1280 (F) (zi (1281)) (zi (1280)) (by omega) (by decide +kernel) (by decide +kernel)) (lw_V q45 q46 q47 q3 q48) rfl rfl (by decide +kernel) ⟨Nat.le_of_ble_eq_true rfl, Nat.le_of_ble_eq_true rfl⟩ hw [4, 5] rfl rfl 4 rfl rfl hl.1 rfl (Nat.le_of_ble_eq_true rfl) dX0_longLine_323 ⟨Nat.le_of_ble_eq_true rfl, Nat.le_of_ble_eq_true rfl⟩) hw [4, 5] [0, 1, 2, 3, 6, 7] rfl rfl rfl (by decide) [0, 1, 2, 3, 6, 7, 4, 5] rfl (fun _ => rfl) (fun v9 gy H locs hp hw => ?_)
    obtain ⟨hp0, hpgy, hsgy⟩ := hp
    subst hp0
    refine W.widen (k := 9) (n := 14869) (Nat.le_of_ble_eq_true rfl) (Nat.le_of_ble_eq_true rfl) ?_
    refine lv_sipush (v := zi (1280)) hx hb dX0_longLine_326 (by decide +kernel) ?_
    refine zi_icmp_ne (tgt := 346) hx hb dX0_longLine_329 (by decide) (by omega) (by omega) (fun c_329 => ?_) (fun c_329 => ?_)
    · exact absurd c_329 (by omega)
    · refine lv_aload hx hb dX0_longLine_332 (lv_at hl 5 rfl) ?_
      refine zi_const hx hb dX0_longLine_334 ?_
      refine lv_ldc (v := -2147482368) hx hb hown (hts _ q130) dX0_longLine_335 ?_
      refine z_calli (wr := [zR ca dI 15 (cf), zL wa dJ 1280 (wf), zO xo xr (1280), zL xr dJ 4096 (gx), zO yo yr (1280), zL yr dJ 4096 (gy)]) (wo := (fun gz : Nat → Int64 => [zR ca dI 15 (cf), zL wa dJ 1280 (wf), zO xo xr (1280), zL xr dJ 4096 (gx), zO yo yr (1280), zL yr dJ 4096 (gy), zO zo zr (1280), zL zr dJ 4096 (gz)])) (z_runV (n := 2) (rest := []) S (met_dradix l D dJ dI zo zr 1280 0 1280 (F) (zi (0)) (-2147482368) (by omega) (by decide +kernel) (by decide +kernel)) (lw_V q75 q76 q77 q3 q78) rfl rfl (by decide +kernel) ⟨Nat.le_of_ble_eq_true rfl, Nat.le_of_ble_eq_true rfl⟩ hw [6, 7] rfl rfl 6 rfl rfl hl.1 rfl (Nat.le_of_ble_eq_true rfl) dX0_longLine_337 ⟨Nat.le_of_ble_eq_true rfl, Nat.le_of_ble_eq_true rfl⟩) hw [6, 7] [0, 1, 2, 3, 4, 5] rfl rfl rfl (by decide) [0, 1, 2, 3, 4, 5, 6, 7] rfl (fun _ => rfl) (fun v9 gz H locs hp hw => ?_)
      obtain ⟨hp0, hpgz, hsgz⟩ := hp
      subst hp0
      refine W.widen (k := 14) (n := 20739) (Nat.le_of_ble_eq_true rfl) (Nat.le_of_ble_eq_true rfl) ?_
      refine lv_sipush (v := zi (1280)) hx hb dX0_longLine_340 (by decide +kernel) ?_
      refine zi_icmp_eq (tgt := 348) hx hb dX0_longLine_343 (by decide) (by omega) (by omega) (fun c_343 => ?_) (fun c_343 => ?_)
      · refine zi_const hx hb dX0_longLine_348 ?_
        refine lv_istore (lv' := [(6, .int (zi (0))), (0, .ref sb), (1, .ref ca), (2, .ref wa), (3, .ref xo), (4, .ref yo), (5, .ref zo)]) hx hb dX0_longLine_349 hl (by decide) rfl (fun ls hl => ?_)
        have hpgx : zs_pm F gx 0 1280 := hpgx
        have hpgy : zs_pm F gy 0 1280 := hpgy
        have hpgz : zs_pm F gz 0 1280 := hpgz
        have hgx := zl_fin hpgx hsgx hsw hcw
        have hgy := zl_fin hpgy hsgy hsw hcw
        have hgz := zl_fin hpgz hsgz hsw hcw
        refine lp_l5 S hgx hgy hgz (fun H locs ls hw hl => ?_) 1281 0 _ H locs ls (by omega) (by omega) rfl hw (lv_sub hl [1, 2, 3, 4, 5, 6, 0] rfl)
        have e0 : (gx 0).toInt = (wf 0).toInt := by rw [hgx 0 (by omega)]
        have e767 : (gx 767).toInt = (wf 767).toInt := by rw [hgx 767 (by omega)]
        refine lv_aload_n hx hb dX0_longLine_411 rfl (lv_at hl 3 rfl) ?_
        refine lv_sipush (v := zi (1280)) hx hb dX0_longLine_412 (by decide +kernel) ?_
        refine z_calll (wr := [zR ca dI 15 (cf), zL wa dJ 1280 (wf), zO yo yr (1280), zL yr dJ 4096 (gy), zO zo zr (1280), zL zr dJ 4096 (gz)]) (wo := (fun _ : Unit => [zR ca dI 15 (cf), zL wa dJ 1280 (wf), zO xo xr (1280), zL xr dJ 4096 (gx), zO yo yr (1280), zL yr dJ 4096 (gy), zO zo zr (1280), zL zr dJ 4096 (gz)])) (z_runV (n := 1) (rest := []) S (met_row l D dJ dI xo xr (1280) (gx) (zi (1280)) (by omega) (by omega)) (lw_V q84 q85 q86 q3 q87) rfl rfl (by decide +kernel) ⟨Nat.le_of_ble_eq_true rfl, Nat.le_of_ble_eq_true rfl⟩ hw [2, 3] rfl rfl 2 rfl rfl hl.1 rfl (Nat.le_of_ble_eq_true rfl) dX0_longLine_415 ⟨Nat.le_of_ble_eq_true rfl, Nat.le_of_ble_eq_true rfl⟩) hw [2, 3] [0, 1, 4, 5, 6, 7] rfl rfl rfl (by decide) [0, 1, 6, 7, 2, 3, 4, 5] rfl (fun _ => rfl) (fun v9 _ H locs hp hw => ?_)
        have e9 : zlo (zi (1280)) % (1280) = 0 := by decide +kernel
        rw [e9] at hp
        subst hp
        clear e9
        refine lv_aload_n hx hb dX0_longLine_418 rfl (lv_at hl 2 rfl) ?_
        refine zi_const hx hb dX0_longLine_419 ?_
        refine zl_ald hx hb hw 1 (0) rfl (by omega) (by omega) (by omega) dX0_longLine_420 ?_
        refine zl_cmp hx hb dX0_longLine_421 ?_
        have hz_421_1 := zcz_spec ((gx) (0)) ((wf) (0))
        refine zi_if_ne (tgt := 443) hx hb dX0_longLine_422 (by decide) (by omega) (fun c_422 => ?_) (fun c_422 => ?_)
        · exact absurd c_422 (by omega)
        · refine lv_aload_n hx hb dX0_longLine_425 rfl (lv_at hl 3 rfl) ?_
          refine zi_const hx hb dX0_longLine_426 ?_
          refine z_calll (wr := [zR ca dI 15 (cf), zL wa dJ 1280 (wf), zO yo yr (1280), zL yr dJ 4096 (gy), zO zo zr (1280), zL zr dJ 4096 (gz)]) (wo := (fun _ : Unit => [zR ca dI 15 (cf), zL wa dJ 1280 (wf), zO xo xr (1280), zL xr dJ 4096 (gx), zO yo yr (1280), zL yr dJ 4096 (gy), zO zo zr (1280), zL zr dJ 4096 (gz)])) (z_runV (n := 1) (rest := []) S (met_row l D dJ dI xo xr (1280) (gx) (zi ((-1))) (by omega) (by omega)) (lw_V q84 q85 q86 q3 q87) rfl rfl (by decide +kernel) ⟨Nat.le_of_ble_eq_true rfl, Nat.le_of_ble_eq_true rfl⟩ hw [2, 3] rfl rfl 2 rfl rfl hl.1 rfl (Nat.le_of_ble_eq_true rfl) dX0_longLine_427 ⟨Nat.le_of_ble_eq_true rfl, Nat.le_of_ble_eq_true rfl⟩) hw [2, 3] [0, 1, 4, 5, 6, 7] rfl rfl rfl (by decide) [0, 1, 6, 7, 2, 3, 4, 5] rfl (fun _ => rfl) (fun v9 _ H locs hp hw => ?_)
          have e9 : zlo (zi ((-1))) % (1280) = 767 := by decide +kernel
          rw [e9] at hp
          subst hp
          clear e9
          refine lv_aload_n hx hb dX0_longLine_430 rfl (lv_at hl 2 rfl) ?_
          refine lv_sipush (v := zi (767)) hx hb dX0_longLine_431 (by decide +kernel) ?_
          refine zl_ald hx hb hw 1 (767) rfl (by omega) (by omega) (by omega) dX0_longLine_434 ?_
          refine zl_cmp hx hb dX0_longLine_435 ?_
          have hz_435_3 := zcz_spec ((gx) (767)) ((wf) (767))
          refine zi_if_ne (tgt := 443) hx hb dX0_longLine_436 (by decide) (by omega) (fun c_436 => ?_) (fun c_436 => ?_)
          · exact absurd c_436 (by omega)
          · refine zi_const hx hb dX0_longLine_439 ?_
            refine lv_goto (tgt := 444) hx hb dX0_longLine_440 (by decide) ?_
            exact z_zret hx hb hr hlocks hw () [] rfl rfl rfl rfl dX0_longLine_444
      · exact absurd c_343 (by omega)
end
section
/-! LongSortDeskLaw.found. Printed by gen/m18.py -/
set_option maxRecDepth 100000
/-- smaller than v -/
def zfP (v w : Int64) : Bool := decide (w.toInt < v.toInt)
theorem zf_lt {f : Nat → Int64} {v : Int64} {i : Nat} (h : (f i).toInt < v.toInt) : zs_cn (zfP v) f (i + 1) = zs_cn (zfP v) f i + 1 := by
  rw [zs_cn_s, show zfP v (f i) = true from decide_eq_true h, Bool.toNat_true]
theorem zf_ge {f : Nat → Int64} {v : Int64} {i : Nat} (h : v.toInt ≤ (f i).toInt) : zs_cn (zfP v) f (i + 1) = zs_cn (zfP v) f i + 0 := by
  rw [zs_cn_s, show zfP v (f i) = false from decide_eq_false (by omega), Bool.toNat_false]
def zfE (f : Nat → Int64) (v : Int64) (i : Nat) (zb : Int) : Prop := (zb = 0 ∧ ∀ j, j < i → (f j).toInt ≠ v.toInt) ∨ (zb = 1 ∧ ∃ j, j < i ∧ (f j).toInt = v.toInt)
theorem zfE.b {f : Nat → Int64} {v : Int64} {i : Nat} {zb : Int} (h : zfE f v i zb) : zb = 0 ∨ zb = 1 := by
  rcases h with ⟨a, -⟩ | ⟨a, -⟩ <;> omega
theorem zfE.y {f : Nat → Int64} {v : Int64} {i : Nat} {zb : Int} (_ : zfE f v i zb) (h : (f i).toInt = v.toInt) : zfE f v (i + 1) 1 := Or.inr ⟨rfl, i, by omega, h⟩
theorem zfE.n {f : Nat → Int64} {v : Int64} {i : Nat} {zb : Int} (a : zfE f v i zb) (h : (f i).toInt ≠ v.toInt) : zfE f v (i + 1) zb := by
  rcases a with ⟨a, b⟩ | ⟨a, j, b, c⟩
  · refine Or.inl ⟨a, fun j hj => ?_⟩
    rcases (show j < i ∨ j = i by omega) with q | q
    · exact b j q
    · rw [q]
      exact h
  · exact Or.inr ⟨a, j, by omega, c⟩
theorem zf_ans {f : Nat → Int64} {v : Int64} {less n : Nat} {zb : Int} {r : Int32} (hl : less = zs_cn (zfP v) f n) (hb : zfE f v n zb) (hr : (∃ md, md < n ∧ f md = v ∧ r = zi 4096) ∨ ∃ ins, ins ≤ n ∧ (∀ j, j < ins → (f j).toInt < v.toInt) ∧ (∀ j, ins ≤ j → j < n → v.toInt < (f j).toInt) ∧ r = zi (-((ins : Int) + 1))) : ∃ z : Int, r = zi z ∧ ((zb = 1 ∧ z = 4096) ∨ (zb = 0 ∧ z = -1 - (less : Int))) := by
  rcases hr with ⟨md, a, b, c⟩ | ⟨ins, a, b, c, d⟩
  · refine ⟨_, c, Or.inl ⟨?_, rfl⟩⟩
    rcases hb with ⟨-, e⟩ | ⟨e, -⟩
    · exact absurd (by rw [b]) (e md a)
    · exact e
  · refine ⟨_, d, Or.inr ⟨?_, ?_⟩⟩
    · rcases hb with ⟨e, -⟩ | ⟨-, j, x, y⟩
      · exact e
      · exfalso
        rcases Nat.lt_or_ge j ins with q | q
        · have := b j q
          omega
        · have := c j q x
          omega
    · have e1 := zs_cn_all (P := zfP v) (f := f) (lo := 0) (hi := ins) (by omega) (fun j _ y => decide_eq_true (b j y))
      have e2 := zs_cn_none (P := zfP v) (f := f) (lo := ins) (hi := n) a (fun j x y => decide_eq_false (by have := c j x y; omega))
      have e3 : zs_cn (zfP v) f 0 = 0 := rfl
      omega
section ZFD
variable {p : Program} {l : Launch} {e : Env} {s : State} {m : MethodId} {args : Array Value} {below : List Frame} {meth : Method} {c : Code} {Q : State → Prop} {D : va_G} {dJ dI : ClassId} {A : Nat → Prop}
set_option maxHeartbeats 4000000 in
set_option maxRecDepth 100000 in
/-- the count of the smaller ones, and whether it is there -/
theorem lp_f1 {sb xo yo xr yr k : Nat} {x4 x5 : Int32} {v : Int64} {fx fy : Nat → Int64} (S : CallFix p m c cX0_found 11 s args lw_all RX0) (hk : k < 26) (kx : ∀ (less : Nat) (zb : Int) (H : Heap) (locs : List Loc) (ls : Array Slot), less ≤ 24 → less = zs_cn (zfP v) fy 24 → zfE fy v 24 zb → zW D dJ dI A s [zO xo xr (24), zL xr dJ 4096 (fx), zO yo yr (24), zL yr dJ 4096 (fy)] H locs → lv_has ls 11 [(0, .ref sb), (1, .ref xo), (2, .ref yo), (3, .int (zi (((k : Nat) : Int)))), (4, .int (x4)), (5, .int (x5)), (6, .int (zi (((less : Nat) : Int)))), (7, .long (v)), (9, .int (zi (zb)))] → W p l e (zRm 1305 34 12942 36536) s m args below meth c H locs (8 + k) (12318 + 24 * k) Q (F0 m 218 ls [])) :
    ∀ (N i less : Nat) (zb z6 z10 : Int) (H : Heap) (locs : List Loc) (ls : Array Slot), 24 < i + N → i ≤ 24 → less ≤ i → z6 = ((less : Nat) : Int) → z10 = ((i : Nat) : Int) → less = zs_cn (zfP v) fy i → zfE fy v i zb → zW D dJ dI A s [zO xo xr (24), zL xr dJ 4096 (fx), zO yo yr (24), zL yr dJ 4096 (fy)] H locs → lv_has ls 11 [(0, .ref sb), (1, .ref xo), (2, .ref yo), (3, .int (zi (((k : Nat) : Int)))), (4, .int (x4)), (5, .int (x5)), (6, .int (zi (z6))), (7, .long (v)), (9, .int (zi (zb))), (10, .int (zi (z10)))] → W p l e (zRm 1305 34 12942 36536) s m args below meth c H locs (8 + k) (12318 + 24 * k) Q (F0 m 161 ls []) := by
  obtain ⟨hx, hb, hml, hown, hts⟩ := id S
  intro N
  induction N with
  | zero =>
    intro i less zb z6 z10 H locs ls h1 h2
    exact absurd h1 (by omega)
  | succ N ih =>
    intro i less zb z6 z10 H locs ls hN hi1 h3 e6 e10 hle hbe hw hl
    subst e6
    subst e10
    have hzb := hbe.b
    refine lv_iload hx hb dX0_found_161 (lv_at hl 9 rfl) ?_
    refine lv_bipush (v := zi (24)) hx hb dX0_found_163 (by decide +kernel) ?_
    refine zi_icmp_ge (tgt := 218) hx hb dX0_found_165 (by decide) (by omega) (by omega) (fun c_165 => ?_) (fun c_165 => ?_)
    · have e9 : i = 24 := by omega
      subst e9
      exact kx less zb H locs ls h3 hle hbe hw (lv_sub hl [0, 1, 2, 3, 4, 5, 6, 7, 8] rfl)
    · refine lv_iload hx hb dX0_found_168 (lv_at hl 6 rfl) ?_
      refine lv_aload_n hx hb dX0_found_170 rfl (lv_at hl 2 rfl) ?_
      refine lv_iload hx hb dX0_found_171 (lv_at hl 9 rfl) ?_
      refine z_calll (wr := [zO xo xr (24), zL xr dJ 4096 (fx)]) (wo := (fun _ : Unit => [zO xo xr (24), zL xr dJ 4096 (fx), zO yo yr (24), zL yr dJ 4096 (fy)])) (z_runV (n := 1) (rest := [.int (zi (((less : Nat) : Int)))]) S (met_row l D dJ dI yo yr (24) (fy) (zi (((i : Nat) : Int))) (by omega) (by omega)) (lw_V q84 q85 q86 q3 q87) rfl rfl (by decide +kernel) ⟨Nat.le_of_ble_eq_true rfl, Nat.le_of_ble_eq_true rfl⟩ hw [2, 3] rfl rfl 2 rfl rfl hl.1 rfl (Nat.le_of_ble_eq_true rfl) dX0_found_173 ⟨by show 8 + k + 0 ≤ 34; omega, by show 12318 + 24 * k + 0 ≤ 12942; omega⟩) hw [2, 3] [0, 1] rfl rfl rfl (by decide) [0, 1, 2, 3] rfl (fun _ => rfl) (fun v9 _ H locs hp hw => ?_)
      have e9 : zlo (zi (((i : Nat) : Int))) % (24) = i := by rw [zlo_zi (k := i) (by omega) (by omega)]; exact Nat.mod_eq_of_lt (by omega)
      rw [e9] at hp
      subst hp
      clear e9
      refine lv_lload hx hb dX0_found_176 (lv_at hl 7 rfl) ?_
      refine zl_cmp hx hb dX0_found_178 ?_
      have hz_178_2 := zcz_spec ((fy) (i)) (v)
      refine zi_if_ge (tgt := 186) hx hb dX0_found_179 (by decide) (by omega) (fun c_179 => ?_) (fun c_179 => ?_)
      · refine zi_const hx hb dX0_found_186 ?_
        refine zi_add (r := ((less + 0 : Nat) : Int)) hx hb dX0_found_187 (by omega) ?_
        refine lv_istore (lv' := [(6, .int (zi (((less + 0 : Nat) : Int)))), (0, .ref sb), (1, .ref xo), (2, .ref yo), (3, .int (zi (((k : Nat) : Int)))), (4, .int (x4)), (5, .int (x5)), (7, .long (v)), (9, .int (zi (zb))), (10, .int (zi (((i : Nat) : Int))))]) hx hb dX0_found_188 hl (by decide) rfl (fun ls hl => ?_)
        refine lv_iload hx hb dX0_found_190 (lv_at hl 8 rfl) ?_
        refine lv_aload_n hx hb dX0_found_192 rfl (lv_at hl 3 rfl) ?_
        refine lv_iload hx hb dX0_found_193 (lv_at hl 9 rfl) ?_
        refine z_calll (wr := [zO xo xr (24), zL xr dJ 4096 (fx)]) (wo := (fun _ : Unit => [zO xo xr (24), zL xr dJ 4096 (fx), zO yo yr (24), zL yr dJ 4096 (fy)])) (z_runV (n := 1) (rest := [.int (zi (zb))]) S (met_row l D dJ dI yo yr (24) (fy) (zi (((i : Nat) : Int))) (by omega) (by omega)) (lw_V q84 q85 q86 q3 q87) rfl rfl (by decide +kernel) ⟨Nat.le_of_ble_eq_true rfl, Nat.le_of_ble_eq_true rfl⟩ hw [2, 3] rfl rfl 2 rfl rfl hl.1 rfl (Nat.le_of_ble_eq_true rfl) dX0_found_195 ⟨by show 8 + k + 0 ≤ 34; omega, by show 12318 + 24 * k + 0 ≤ 12942; omega⟩) hw [2, 3] [0, 1] rfl rfl rfl (by decide) [0, 1, 2, 3] rfl (fun _ => rfl) (fun v9 _ H locs hp hw => ?_)
        have e9 : zlo (zi (((i : Nat) : Int))) % (24) = i := by rw [zlo_zi (k := i) (by omega) (by omega)]; exact Nat.mod_eq_of_lt (by omega)
        rw [e9] at hp
        subst hp
        clear e9
        refine lv_lload hx hb dX0_found_198 (lv_at hl 7 rfl) ?_
        refine zl_cmp hx hb dX0_found_200 ?_
        have hz_200_4 := zcz_spec ((fy) (i)) (v)
        refine zi_if_ne (tgt := 208) hx hb dX0_found_201 (by decide) (by omega) (fun c_201 => ?_) (fun c_201 => ?_)
        · refine zi_const hx hb dX0_found_208 ?_
          refine zi_or01 (x := zb) (y := 0) (r := zb) hx hb hbe.b (by omega) (by have := hbe.b; omega) dX0_found_209 ?_
          refine lv_istore (lv' := [(9, .int (zi (zb))), (6, .int (zi (((less + 0 : Nat) : Int)))), (0, .ref sb), (1, .ref xo), (2, .ref yo), (3, .int (zi (((k : Nat) : Int)))), (4, .int (x4)), (5, .int (x5)), (7, .long (v)), (10, .int (zi (((i : Nat) : Int))))]) hx hb dX0_found_210 hl (by decide) rfl (fun ls hl => ?_)
          refine zi_inc (v := ((i + 1 : Nat) : Int)) (k := 9) (lv' := [(10, .int (zi (((i + 1 : Nat) : Int)))), (9, .int (zi (zb))), (6, .int (zi (((less + 0 : Nat) : Int)))), (0, .ref sb), (1, .ref xo), (2, .ref yo), (3, .int (zi (((k : Nat) : Int)))), (4, .int (x4)), (5, .int (x5)), (7, .long (v))]) hx hb dX0_found_212 hl rfl (by omega) (by decide) rfl (fun ls hl => ?_)
          refine lv_goto (tgt := 161) hx hb dX0_found_215 (by decide) ?_
          have e8 := zf_ge (f := fy) (v := v) (i := i) (by omega)
          exact ih (i + 1) (less + 0) (zb) _ _ H locs ls (by omega) (by omega) (by omega) rfl (by omega) (by omega) (hbe.n (by omega)) hw (lv_sub hl [3, 4, 5, 6, 7, 8, 2, 9, 1, 0] rfl)
        · refine zi_const hx hb dX0_found_204 ?_
          refine lv_goto (tgt := 209) hx hb dX0_found_205 (by decide) ?_
          refine zi_or01 (x := zb) (y := 1) (r := 1) hx hb hbe.b (by omega) (by have := hbe.b; omega) dX0_found_209 ?_
          refine lv_istore (lv' := [(9, .int (zi (1))), (6, .int (zi (((less + 0 : Nat) : Int)))), (0, .ref sb), (1, .ref xo), (2, .ref yo), (3, .int (zi (((k : Nat) : Int)))), (4, .int (x4)), (5, .int (x5)), (7, .long (v)), (10, .int (zi (((i : Nat) : Int))))]) hx hb dX0_found_210 hl (by decide) rfl (fun ls hl => ?_)
          refine zi_inc (v := ((i + 1 : Nat) : Int)) (k := 9) (lv' := [(10, .int (zi (((i + 1 : Nat) : Int)))), (9, .int (zi (1))), (6, .int (zi (((less + 0 : Nat) : Int)))), (0, .ref sb), (1, .ref xo), (2, .ref yo), (3, .int (zi (((k : Nat) : Int)))), (4, .int (x4)), (5, .int (x5)), (7, .long (v))]) hx hb dX0_found_212 hl rfl (by omega) (by decide) rfl (fun ls hl => ?_)
          refine lv_goto (tgt := 161) hx hb dX0_found_215 (by decide) ?_
          have e8 := zf_ge (f := fy) (v := v) (i := i) (by omega)
          exact ih (i + 1) (less + 0) (1) _ _ H locs ls (by omega) (by omega) (by omega) rfl (by omega) (by omega) (hbe.y (by omega)) hw (lv_sub hl [3, 4, 5, 6, 7, 8, 2, 9, 1, 0] rfl)
      · refine zi_const hx hb dX0_found_182 ?_
        refine lv_goto (tgt := 187) hx hb dX0_found_183 (by decide) ?_
        refine zi_add (r := ((less + 1 : Nat) : Int)) hx hb dX0_found_187 (by omega) ?_
        refine lv_istore (lv' := [(6, .int (zi (((less + 1 : Nat) : Int)))), (0, .ref sb), (1, .ref xo), (2, .ref yo), (3, .int (zi (((k : Nat) : Int)))), (4, .int (x4)), (5, .int (x5)), (7, .long (v)), (9, .int (zi (zb))), (10, .int (zi (((i : Nat) : Int))))]) hx hb dX0_found_188 hl (by decide) rfl (fun ls hl => ?_)
        refine lv_iload hx hb dX0_found_190 (lv_at hl 8 rfl) ?_
        refine lv_aload_n hx hb dX0_found_192 rfl (lv_at hl 3 rfl) ?_
        refine lv_iload hx hb dX0_found_193 (lv_at hl 9 rfl) ?_
        refine z_calll (wr := [zO xo xr (24), zL xr dJ 4096 (fx)]) (wo := (fun _ : Unit => [zO xo xr (24), zL xr dJ 4096 (fx), zO yo yr (24), zL yr dJ 4096 (fy)])) (z_runV (n := 1) (rest := [.int (zi (zb))]) S (met_row l D dJ dI yo yr (24) (fy) (zi (((i : Nat) : Int))) (by omega) (by omega)) (lw_V q84 q85 q86 q3 q87) rfl rfl (by decide +kernel) ⟨Nat.le_of_ble_eq_true rfl, Nat.le_of_ble_eq_true rfl⟩ hw [2, 3] rfl rfl 2 rfl rfl hl.1 rfl (Nat.le_of_ble_eq_true rfl) dX0_found_195 ⟨by show 8 + k + 0 ≤ 34; omega, by show 12318 + 24 * k + 0 ≤ 12942; omega⟩) hw [2, 3] [0, 1] rfl rfl rfl (by decide) [0, 1, 2, 3] rfl (fun _ => rfl) (fun v9 _ H locs hp hw => ?_)
        have e9 : zlo (zi (((i : Nat) : Int))) % (24) = i := by rw [zlo_zi (k := i) (by omega) (by omega)]; exact Nat.mod_eq_of_lt (by omega)
        rw [e9] at hp
        subst hp
        clear e9
        refine lv_lload hx hb dX0_found_198 (lv_at hl 7 rfl) ?_
        refine zl_cmp hx hb dX0_found_200 ?_
        have hz_200_6 := zcz_spec ((fy) (i)) (v)
        refine zi_if_ne (tgt := 208) hx hb dX0_found_201 (by decide) (by omega) (fun c_201 => ?_) (fun c_201 => ?_)
        · refine zi_const hx hb dX0_found_208 ?_
          refine zi_or01 (x := zb) (y := 0) (r := zb) hx hb hbe.b (by omega) (by have := hbe.b; omega) dX0_found_209 ?_
          refine lv_istore (lv' := [(9, .int (zi (zb))), (6, .int (zi (((less + 1 : Nat) : Int)))), (0, .ref sb), (1, .ref xo), (2, .ref yo), (3, .int (zi (((k : Nat) : Int)))), (4, .int (x4)), (5, .int (x5)), (7, .long (v)), (10, .int (zi (((i : Nat) : Int))))]) hx hb dX0_found_210 hl (by decide) rfl (fun ls hl => ?_)
          refine zi_inc (v := ((i + 1 : Nat) : Int)) (k := 9) (lv' := [(10, .int (zi (((i + 1 : Nat) : Int)))), (9, .int (zi (zb))), (6, .int (zi (((less + 1 : Nat) : Int)))), (0, .ref sb), (1, .ref xo), (2, .ref yo), (3, .int (zi (((k : Nat) : Int)))), (4, .int (x4)), (5, .int (x5)), (7, .long (v))]) hx hb dX0_found_212 hl rfl (by omega) (by decide) rfl (fun ls hl => ?_)
          refine lv_goto (tgt := 161) hx hb dX0_found_215 (by decide) ?_
          have e8 := zf_lt (f := fy) (v := v) (i := i) (by omega)
          exact ih (i + 1) (less + 1) (zb) _ _ H locs ls (by omega) (by omega) (by omega) rfl (by omega) (by omega) (hbe.n (by omega)) hw (lv_sub hl [3, 4, 5, 6, 7, 8, 2, 9, 1, 0] rfl)
        · refine zi_const hx hb dX0_found_204 ?_
          refine lv_goto (tgt := 209) hx hb dX0_found_205 (by decide) ?_
          refine zi_or01 (x := zb) (y := 1) (r := 1) hx hb hbe.b (by omega) (by have := hbe.b; omega) dX0_found_209 ?_
          refine lv_istore (lv' := [(9, .int (zi (1))), (6, .int (zi (((less + 1 : Nat) : Int)))), (0, .ref sb), (1, .ref xo), (2, .ref yo), (3, .int (zi (((k : Nat) : Int)))), (4, .int (x4)), (5, .int (x5)), (7, .long (v)), (10, .int (zi (((i : Nat) : Int))))]) hx hb dX0_found_210 hl (by decide) rfl (fun ls hl => ?_)
          refine zi_inc (v := ((i + 1 : Nat) : Int)) (k := 9) (lv' := [(10, .int (zi (((i + 1 : Nat) : Int)))), (9, .int (zi (1))), (6, .int (zi (((less + 1 : Nat) : Int)))), (0, .ref sb), (1, .ref xo), (2, .ref yo), (3, .int (zi (((k : Nat) : Int)))), (4, .int (x4)), (5, .int (x5)), (7, .long (v))]) hx hb dX0_found_212 hl rfl (by omega) (by decide) rfl (fun ls hl => ?_)
          refine lv_goto (tgt := 161) hx hb dX0_found_215 (by decide) ?_
          have e8 := zf_lt (f := fy) (v := v) (i := i) (by omega)
          exact ih (i + 1) (less + 1) (1) _ _ H locs ls (by omega) (by omega) (by omega) rfl (by omega) (by omega) (hbe.y (by omega)) hw (lv_sub hl [3, 4, 5, 6, 7, 8, 2, 9, 1, 0] rfl)
set_option maxHeartbeats 4000000 in
set_option maxRecDepth 100000 in
/-- both desks' rows alike -/
theorem lp_f2 {sb xo yo xr yr k : Nat} {fy : Nat → Int64} (S : CallFix p m c cX0_found 11 s args lw_all RX0) (hk : k < 26) (kx : ∀ (H : Heap) (locs : List Loc) (ls : Array Slot), zW D dJ dI A s [zO xo xr (24), zL xr dJ 4096 (fy), zO yo yr (24), zL yr dJ 4096 (fy)] H locs → lv_has ls 11 [(0, .ref sb), (1, .ref xo), (2, .ref yo), (3, .int (zi (((k : Nat) : Int))))] → W p l e (zRm 1305 34 12942 36536) s m args below meth c H locs (8 + (k + 1)) (12318 + 24 * (k + 1)) Q (F0 m 280 ls [])) :
    ∀ (N i : Nat) (z10 : Int) (H : Heap) (locs : List Loc) (ls : Array Slot), 24 < i + N → i ≤ 24 → z10 = ((i : Nat) : Int) → zW D dJ dI A s [zO xo xr (24), zL xr dJ 4096 (fy), zO yo yr (24), zL yr dJ 4096 (fy)] H locs → lv_has ls 11 [(0, .ref sb), (1, .ref xo), (2, .ref yo), (3, .int (zi (((k : Nat) : Int)))), (10, .int (zi (z10)))] → W p l e (zRm 1305 34 12942 36536) s m args below meth c H locs (8 + (k + 1)) (12318 + 24 * (k + 1)) Q (F0 m 249 ls []) := by
  obtain ⟨hx, hb, hml, hown, hts⟩ := id S
  intro N
  induction N with
  | zero =>
    intro i z10 H locs ls h1 h2
    exact absurd h1 (by omega)
  | succ N ih =>
    intro i z10 H locs ls hN hi1 e10 hw hl
    subst e10
    refine lv_iload hx hb dX0_found_249 (lv_at hl 4 rfl) ?_
    refine lv_bipush (v := zi (24)) hx hb dX0_found_251 (by decide +kernel) ?_
    refine zi_icmp_ge (tgt := 280) hx hb dX0_found_253 (by decide) (by omega) (by omega) (fun c_253 => ?_) (fun c_253 => ?_)
    · exact kx H locs ls hw (lv_sub hl [0, 1, 2, 3] rfl)
    · refine lv_aload_n hx hb dX0_found_256 rfl (lv_at hl 1 rfl) ?_
      refine lv_iload hx hb dX0_found_257 (lv_at hl 4 rfl) ?_
      refine z_calll (wr := [zO yo yr (24), zL yr dJ 4096 (fy)]) (wo := (fun _ : Unit => [zO xo xr (24), zL xr dJ 4096 (fy), zO yo yr (24), zL yr dJ 4096 (fy)])) (z_runV (n := 1) (rest := []) S (met_row l D dJ dI xo xr (24) (fy) (zi (((i : Nat) : Int))) (by omega) (by omega)) (lw_V q84 q85 q86 q3 q87) rfl rfl (by decide +kernel) ⟨Nat.le_of_ble_eq_true rfl, Nat.le_of_ble_eq_true rfl⟩ hw [0, 1] rfl rfl 0 rfl rfl hl.1 rfl (Nat.le_of_ble_eq_true rfl) dX0_found_259 ⟨by show 8 + (k + 1) + 0 ≤ 34; omega, by show 12318 + 24 * (k + 1) + 0 ≤ 12942; omega⟩) hw [0, 1] [2, 3] rfl rfl rfl (by decide) [2, 3, 0, 1] rfl (fun _ => rfl) (fun v9 _ H locs hp hw => ?_)
      have e9 : zlo (zi (((i : Nat) : Int))) % (24) = i := by rw [zlo_zi (k := i) (by omega) (by omega)]; exact Nat.mod_eq_of_lt (by omega)
      rw [e9] at hp
      subst hp
      clear e9
      refine lv_aload_n hx hb dX0_found_262 rfl (lv_at hl 2 rfl) ?_
      refine lv_iload hx hb dX0_found_263 (lv_at hl 4 rfl) ?_
      refine z_calll (wr := [zO xo xr (24), zL xr dJ 4096 (fy)]) (wo := (fun _ : Unit => [zO xo xr (24), zL xr dJ 4096 (fy), zO yo yr (24), zL yr dJ 4096 (fy)])) (z_runV (n := 1) (rest := [.long ((fy) (i))]) S (met_row l D dJ dI yo yr (24) (fy) (zi (((i : Nat) : Int))) (by omega) (by omega)) (lw_V q84 q85 q86 q3 q87) rfl rfl (by decide +kernel) ⟨Nat.le_of_ble_eq_true rfl, Nat.le_of_ble_eq_true rfl⟩ hw [2, 3] rfl rfl 2 rfl rfl hl.1 rfl (Nat.le_of_ble_eq_true rfl) dX0_found_265 ⟨by show 8 + (k + 1) + 0 ≤ 34; omega, by show 12318 + 24 * (k + 1) + 0 ≤ 12942; omega⟩) hw [2, 3] [0, 1] rfl rfl rfl (by decide) [0, 1, 2, 3] rfl (fun _ => rfl) (fun v9 _ H locs hp hw => ?_)
      have e9 : zlo (zi (((i : Nat) : Int))) % (24) = i := by rw [zlo_zi (k := i) (by omega) (by omega)]; exact Nat.mod_eq_of_lt (by omega)
      rw [e9] at hp
      subst hp
      clear e9
      refine zl_cmp hx hb dX0_found_268 ?_
      have hz_268_2 := zcz_spec ((fy) (i)) ((fy) (i))
      refine zi_if_eq (tgt := 274) hx hb dX0_found_269 (by decide) (by omega) (fun c_269 => ?_) (fun c_269 => ?_)
      · refine zi_inc (v := ((i + 1 : Nat) : Int)) (k := 4) (lv' := [(10, .int (zi (((i + 1 : Nat) : Int)))), (0, .ref sb), (1, .ref xo), (2, .ref yo), (3, .int (zi (((k : Nat) : Int))))]) hx hb dX0_found_274 hl rfl (by omega) (by decide) rfl (fun ls hl => ?_)
        refine lv_goto (tgt := 249) hx hb dX0_found_277 (by decide) ?_
        exact ih (i + 1) _ H locs ls (by omega) (by omega) rfl hw (lv_sub hl [1, 2, 3, 4, 0] rfl)
      · exact absurd c_269 (by omega)
set_option maxHeartbeats 4000000 in
set_option maxRecDepth 100000 in
/-- one question -/
theorem lp_f3 {sb xo yo xr yr k : Nat} {x4 x5 : Int32} {fx fy : Nat → Int64} {F : Nat → Int64} {H : Heap} {locs : List Loc} {ls : Array Slot} (S : CallFix p m c cX0_found 11 s args lw_all RX0) (hk : k < 26) (hfx : zs_pm F fx 0 24) (hfy : zs_pm F fy 0 24) (hsy : zs_srt fy 0 24) (hw : zW D dJ dI A s [zO xo xr (24), zL xr dJ 4096 (fx), zO yo yr (24), zL yr dJ 4096 (fy)] H locs) (hl : lv_has ls 11 [(0, .ref sb), (1, .ref xo), (2, .ref yo), (3, .int (zi (((k : Nat) : Int)))), (4, .int (x4)), (5, .int (x5))]) (kk : ∀ (H : Heap) (locs : List Loc) (ls : Array Slot), zW D dJ dI A s [zO xo xr (24), zL xr dJ 4096 (fy), zO yo yr (24), zL yr dJ 4096 (fy)] H locs → lv_has ls 11 [(0, .ref sb), (1, .ref xo), (2, .ref yo), (3, .int (zi (((k + 1 : Nat) : Int))))] → W p l e (zRm 1305 34 12942 36536) s m args below meth c H locs (8 + (k + 1)) (12318 + 24 * (k + 1)) Q (F0 m 50 ls [])) : W p l e (zRm 1305 34 12942 36536) s m args below meth c H locs (8 + k) (12318 + 24 * k) Q (F0 m 136 ls []) := by
  obtain ⟨hx, hb, hml, hown, hts⟩ := id S
  have k2 : ∀ (H : Heap) (locs : List Loc) (ls : Array Slot), zW D dJ dI A s [zO xo xr (24), zL xr dJ 4096 (fy), zO yo yr (24), zL yr dJ 4096 (fy)] H locs → lv_has ls 11 [(0, .ref sb), (1, .ref xo), (2, .ref yo), (3, .int (zi (((k : Nat) : Int)))), (10, .int (zi (0)))] → W p l e (zRm 1305 34 12942 36536) s m args below meth c H locs (8 + (k + 1)) (12318 + 24 * (k + 1)) Q (F0 m 249 ls []) := by
    intro H locs ls hw hl
    refine lp_f2 S hk (fun H locs ls hw hl => ?_) 25 0 _ H locs ls (by omega) (by omega) rfl hw hl
    refine zi_inc (v := ((k + 1 : Nat) : Int)) (k := 3) (lv' := [(3, .int (zi (((k + 1 : Nat) : Int)))), (0, .ref sb), (1, .ref xo), (2, .ref yo)]) hx hb dX0_found_280 hl rfl (by omega) (by decide) rfl (fun ls hl => ?_)
    refine lv_goto (tgt := 50) hx hb dX0_found_283 (by decide) ?_
    exact kk H locs ls hw (lv_sub hl [1, 2, 3, 0] rfl)
  refine zi_const hx hb dX0_found_136 ?_
  refine lv_istore (lv' := [(6, .int (zi (0))), (0, .ref sb), (1, .ref xo), (2, .ref yo), (3, .int (zi (((k : Nat) : Int)))), (4, .int (x4)), (5, .int (x5))]) hx hb dX0_found_137 hl (by decide) rfl (fun ls hl => ?_)
  refine lv_iload hx hb dX0_found_139 (lv_at hl 5 rfl) ?_
  refine lv_i2l (v := (x4).toInt64) hx hb dX0_found_141 rfl ?_
  refine lv_bipush (v := zi (32)) hx hb dX0_found_142 (by decide +kernel) ?_
  refine lv_lshl (v := ((x4).toInt64 <<< ((zi (32)).toInt64 &&& 63))) hx hb dX0_found_144 rfl ?_
  refine lv_iload hx hb dX0_found_145 (lv_at hl 6 rfl) ?_
  refine lv_i2l (v := (x5).toInt64) hx hb dX0_found_147 rfl ?_
  refine lv_ldc2 (v := 4294967295) hx hb hown (hts _ q128) dX0_found_148 ?_
  refine lv_land hx hb dX0_found_151 ?_
  refine lv_lor hx hb dX0_found_152 ?_
  refine lv_lstore (lv' := [(7, .long ((((x4).toInt64 <<< ((zi (32)).toInt64 &&& 63)) ||| ((x5).toInt64 &&& 4294967295)))), (6, .int (zi (0))), (0, .ref sb), (1, .ref xo), (2, .ref yo), (3, .int (zi (((k : Nat) : Int)))), (4, .int (x4)), (5, .int (x5))]) hx hb dX0_found_153 hl (by decide) rfl (fun ls hl => ?_)
  refine zi_const hx hb dX0_found_155 ?_
  refine lv_istore (lv' := [(9, .int (zi (0))), (7, .long ((((x4).toInt64 <<< ((zi (32)).toInt64 &&& 63)) ||| ((x5).toInt64 &&& 4294967295)))), (6, .int (zi (0))), (0, .ref sb), (1, .ref xo), (2, .ref yo), (3, .int (zi (((k : Nat) : Int)))), (4, .int (x4)), (5, .int (x5))]) hx hb dX0_found_156 hl (by decide) rfl (fun ls hl => ?_)
  refine zi_const hx hb dX0_found_158 ?_
  refine lv_istore (lv' := [(10, .int (zi (0))), (9, .int (zi (0))), (7, .long ((((x4).toInt64 <<< ((zi (32)).toInt64 &&& 63)) ||| ((x5).toInt64 &&& 4294967295)))), (6, .int (zi (0))), (0, .ref sb), (1, .ref xo), (2, .ref yo), (3, .int (zi (((k : Nat) : Int)))), (4, .int (x4)), (5, .int (x5))]) hx hb dX0_found_159 hl (by decide) rfl (fun ls hl => ?_)
  refine lp_f1 (x4 := x4) (x5 := x5) (v := zwide x4 x5) S hk (fun less zb H locs ls h3 hle hbe hw hl => ?_) 25 0 0 0 _ _ H locs ls (by omega) (by omega) (by omega) rfl rfl rfl (Or.inl ⟨rfl, fun j hj => absurd hj (Nat.not_lt_zero _)⟩) hw (lv_sub hl [4, 5, 6, 7, 8, 9, 3, 2, 1, 0] rfl)
  refine lv_aload_n hx hb dX0_found_218 rfl (lv_at hl 1 rfl) ?_
  refine lv_iload hx hb dX0_found_219 (lv_at hl 4 rfl) ?_
  refine lv_iload hx hb dX0_found_221 (lv_at hl 5 rfl) ?_
  refine z_calli (wr := [zO yo yr (24), zL yr dJ 4096 (fy)]) (wo := (fun u : Nat → Int64 => [zO xo xr (24), zL xr dJ 4096 (u), zO yo yr (24), zL yr dJ 4096 (fy)])) (z_runV (n := 2) (rest := []) S (met_find l D dJ dI xo xr 24 fx x4 x5 (by omega)) (lw_V q134 q135 q136 q3 q137) rfl rfl (by decide +kernel) ⟨Nat.le_of_ble_eq_true rfl, Nat.le_of_ble_eq_true rfl⟩ hw [0, 1] rfl rfl 0 rfl rfl hl.1 rfl (Nat.le_of_ble_eq_true rfl) dX0_found_223 ⟨by show 8 + k + 1 ≤ 34; omega, by show 12318 + 24 * k + 24 ≤ 12942; omega⟩) hw [0, 1] [2, 3] rfl rfl rfl (by decide) [2, 3, 0, 1] rfl (fun _ => rfl) (fun v9 u H locs hp hw => ?_)
  obtain ⟨hpu, hsu, hfi⟩ := hp
  have eu : u = fy := zs_uniqP (hfx.tr hpu) hfy hsu hsy
  rw [eu] at hw hfi
  obtain ⟨z8, e8, h8⟩ := zf_ans hle hbe hfi
  clear hfi
  subst e8
  have hzb := hbe.b
  refine W.widen (k := 8 + (k + 1)) (n := 12318 + 24 * (k + 1)) (by omega) (by omega) ?_
  refine lv_iload hx hb dX0_found_226 (lv_at hl 8 rfl) ?_
  refine zi_if_eq (tgt := 237) hx hb dX0_found_228 (by decide) (by omega) (fun c_228 => ?_) (fun c_228 => ?_)
  · refine zi_const hx hb dX0_found_237 ?_
    refine lv_iload hx hb dX0_found_238 (lv_at hl 6 rfl) ?_
    refine zi_sub (r := (-1) - ((less : Nat) : Int)) hx hb dX0_found_240 rfl ?_
    refine zi_icmp_eq (tgt := 246) hx hb dX0_found_241 (by decide) (by omega) (by omega) (fun c_241 => ?_) (fun c_241 => ?_)
    · refine zi_const hx hb dX0_found_246 ?_
      refine lv_istore (lv' := [(10, .int (zi (0))), (0, .ref sb), (1, .ref xo), (2, .ref yo), (3, .int (zi (((k : Nat) : Int)))), (4, .int (x4)), (5, .int (x5)), (6, .int (zi (((less : Nat) : Int)))), (7, .long (zwide x4 x5)), (9, .int (zi (zb)))]) hx hb dX0_found_247 hl (by decide) rfl (fun ls hl => ?_)
      exact k2 H locs ls hw (lv_sub hl [1, 2, 3, 4, 0] rfl)
    · exact absurd c_241 (by omega)
  · refine lv_sipush (v := zi (4096)) hx hb dX0_found_231 (by decide +kernel) ?_
    refine lv_goto (tgt := 241) hx hb dX0_found_234 (by decide) ?_
    refine zi_icmp_eq (tgt := 246) hx hb dX0_found_241 (by decide) (by omega) (by omega) (fun c_241 => ?_) (fun c_241 => ?_)
    · refine zi_const hx hb dX0_found_246 ?_
      refine lv_istore (lv' := [(10, .int (zi (0))), (0, .ref sb), (1, .ref xo), (2, .ref yo), (3, .int (zi (((k : Nat) : Int)))), (4, .int (x4)), (5, .int (x5)), (6, .int (zi (((less : Nat) : Int)))), (7, .long (zwide x4 x5)), (9, .int (zi (zb)))]) hx hb dX0_found_247 hl (by decide) rfl (fun ls hl => ?_)
      exact k2 H locs ls hw (lv_sub hl [1, 2, 3, 4, 0] rfl)
    · exact absurd c_241 (by omega)
set_option maxHeartbeats 4000000 in
set_option maxRecDepth 100000 in
/-- 26 questions -/
theorem lp_f4 {sb xo yo xr yr sL : Nat} {sx : Nat → Int32} {F fy : Nat → Int64} (S : CallFix p m c cX0_found 11 s args lw_all RX0) (hL : sL ≤ 50) (hX : va_X sb sL sx s s.heap) (hbl : sb < s.heap.size) (hbA : ¬ A sb) (hfy : zs_pm F fy 0 24) (hsy : zs_srt fy 0 24) (kx : ∀ (fx : Nat → Int64) (H : Heap) (locs : List Loc) (ls : Array Slot), zW D dJ dI A s [zO xo xr (24), zL xr dJ 4096 (fx), zO yo yr (24), zL yr dJ 4096 (fy)] H locs → lv_has ls 11 [(0, .ref sb)] → W p l e (zRm 1305 34 12942 36536) s m args below meth c H locs (8 + 26) (12318 + 24 * 26) Q (F0 m 286 ls [])) :
    ∀ (N k : Nat) (fx : Nat → Int64) (z3 : Int) (H : Heap) (locs : List Loc) (ls : Array Slot), 26 < k + N → k ≤ 26 → z3 = ((k : Nat) : Int) → zs_pm F fx 0 24 → zW D dJ dI A s [zO xo xr (24), zL xr dJ 4096 (fx), zO yo yr (24), zL yr dJ 4096 (fy)] H locs → lv_has ls 11 [(0, .ref sb), (1, .ref xo), (2, .ref yo), (3, .int (zi (z3)))] → W p l e (zRm 1305 34 12942 36536) s m args below meth c H locs (8 + k) (12318 + 24 * k) Q (F0 m 50 ls []) := by
  obtain ⟨hx, hb, hml, hown, hts⟩ := id S
  intro N
  induction N with
  | zero =>
    intro k fx z3 H locs ls h1 h2
    exact absurd h1 (by omega)
  | succ N ih =>
    intro k fx z3 H locs ls hN hi1 e3 hfx hw hl
    subst e3
    refine lv_iload_n hx hb dX0_found_50 rfl (lv_at hl 3 rfl) ?_
    refine lv_bipush (v := zi (26)) hx hb dX0_found_51 (by decide +kernel) ?_
    refine zi_icmp_ge (tgt := 286) hx hb dX0_found_53 (by decide) (by omega) (by omega) (fun c_53 => ?_) (fun c_53 => ?_)
    · have e9 : k = 26 := by omega
      subst e9
      exact kx fx H locs ls hw (lv_sub hl [0] rfl)
    · refine lv_iload_n hx hb dX0_found_56 rfl (lv_at hl 3 rfl) ?_
      refine lv_bipush (v := zi (24)) hx hb dX0_found_57 (by decide +kernel) ?_
      refine zi_icmp_ge (tgt := 74) hx hb dX0_found_59 (by decide) (by omega) (by omega) (fun c_59 => ?_) (fun c_59 => ?_)
      · refine lv_iload_n hx hb dX0_found_74 rfl (lv_at hl 3 rfl) ?_
        refine lv_bipush (v := zi (24)) hx hb dX0_found_75 (by decide +kernel) ?_
        refine zi_icmp_ne (tgt := 88) hx hb dX0_found_77 (by decide) (by omega) (by omega) (fun c_77 => ?_) (fun c_77 => ?_)
        · refine lv_aload_n hx hb dX0_found_88 rfl (lv_at hl 0 rfl) ?_
          refine zi_const hx hb dX0_found_89 ?_
          refine z_calli (wr := [zO xo xr (24), zL xr dJ 4096 (fx), zO yo yr (24), zL yr dJ 4096 (fy)]) (wo := (fun _ : Unit => [zO xo xr (24), zL xr dJ 4096 (fx), zO yo yr (24), zL yr dJ 4096 (fy)])) (z_runX (n := 2) (rest := []) S (met_cell l D dJ dI sb sL sx hL (2) (2) (by omega) (by omega)) (lw_S q88 q89 q2 q90) rfl rfl (by decide +kernel) ⟨Nat.le_of_ble_eq_true rfl, Nat.le_of_ble_eq_true rfl⟩ hw hX hbl hbA rfl hl.1 rfl (Nat.le_of_ble_eq_true rfl) dX0_found_90 ⟨by show 8 + k + 0 ≤ 34; omega, by show 12318 + 24 * k + 0 ≤ 12942; omega⟩) hw [] [0, 1, 2, 3] rfl rfl rfl (by decide) [0, 1, 2, 3] rfl (fun _ => rfl) (fun v9 _ H locs hp hw => ?_)
          subst hp
          refine lv_istore (lv' := [(4, .int (zcell sL sx (2))), (0, .ref sb), (1, .ref xo), (2, .ref yo), (3, .int (zi (((k : Nat) : Int))))]) hx hb dX0_found_93 hl (by decide) rfl (fun ls hl => ?_)
          refine lv_iload_n hx hb dX0_found_95 rfl (lv_at hl 4 rfl) ?_
          refine lv_bipush (v := zi (24)) hx hb dX0_found_96 (by decide +kernel) ?_
          refine zi_icmp_ge (tgt := 113) hx hb dX0_found_98 (by decide) (by omega) (by omega) (fun c_98 => ?_) (fun c_98 => ?_)
          · refine lv_iload_n hx hb dX0_found_113 rfl (lv_at hl 4 rfl) ?_
            refine lv_bipush (v := zi (24)) hx hb dX0_found_114 (by decide +kernel) ?_
            refine zi_icmp_ne (tgt := 127) hx hb dX0_found_116 (by decide) (by omega) (by omega) (fun c_116 => ?_) (fun c_116 => ?_)
            · refine lv_aload_n hx hb dX0_found_127 rfl (lv_at hl 1 rfl) ?_
              refine zi_const hx hb dX0_found_128 ?_
              refine z_calli (wr := [zO xo xr (24), zL xr dJ 4096 (fx), zO yo yr (24), zL yr dJ 4096 (fy)]) (wo := (fun _ : Unit => [zO xo xr (24), zL xr dJ 4096 (fx), zO yo yr (24), zL yr dJ 4096 (fy)])) (z_runX (n := 2) (rest := []) S (met_cell l D dJ dI sb sL sx hL (3) (3) (by omega) (by omega)) (lw_S q88 q89 q2 q90) rfl rfl (by decide +kernel) ⟨Nat.le_of_ble_eq_true rfl, Nat.le_of_ble_eq_true rfl⟩ hw hX hbl hbA rfl hl.1 rfl (Nat.le_of_ble_eq_true rfl) dX0_found_129 ⟨by show 8 + k + 0 ≤ 34; omega, by show 12318 + 24 * k + 0 ≤ 12942; omega⟩) hw [] [0, 1, 2, 3] rfl rfl rfl (by decide) [0, 1, 2, 3] rfl (fun _ => rfl) (fun v9 _ H locs hp hw => ?_)
              subst hp
              refine zi_const hx hb dX0_found_132 ?_
              refine lv_iadd hx hb dX0_found_133 ?_
              refine lv_istore (lv' := [(5, .int (zcell sL sx (3) + zi (1))), (4, .int (zcell sL sx (2))), (0, .ref sb), (1, .ref xo), (2, .ref yo), (3, .int (zi (((k : Nat) : Int))))]) hx hb dX0_found_134 hl (by decide) rfl (fun ls hl => ?_)
              exact lp_f3 S (by omega) hfx hfy hsy hw (lv_sub hl [2, 3, 4, 5, 1, 0] rfl) (fun H locs ls hw hl => ih (k + 1) fy _ H locs ls (by omega) (by omega) rfl hfy hw hl)
            · exact absurd c_116 (by omega)
          · exact absurd c_98 (by omega)
        · refine lv_aload_n hx hb dX0_found_80 rfl (lv_at hl 0 rfl) ?_
          refine zi_const hx hb dX0_found_81 ?_
          refine z_calli (wr := [zO xo xr (24), zL xr dJ 4096 (fx), zO yo yr (24), zL yr dJ 4096 (fy)]) (wo := (fun _ : Unit => [zO xo xr (24), zL xr dJ 4096 (fx), zO yo yr (24), zL yr dJ 4096 (fy)])) (z_runX (n := 2) (rest := []) S (met_cell l D dJ dI sb sL sx hL (0) (0) (by omega) (by omega)) (lw_S q88 q89 q2 q90) rfl rfl (by decide +kernel) ⟨Nat.le_of_ble_eq_true rfl, Nat.le_of_ble_eq_true rfl⟩ hw hX hbl hbA rfl hl.1 rfl (Nat.le_of_ble_eq_true rfl) dX0_found_82 ⟨by show 8 + k + 0 ≤ 34; omega, by show 12318 + 24 * k + 0 ≤ 12942; omega⟩) hw [] [0, 1, 2, 3] rfl rfl rfl (by decide) [0, 1, 2, 3] rfl (fun _ => rfl) (fun v9 _ H locs hp hw => ?_)
          subst hp
          refine lv_goto (tgt := 93) hx hb dX0_found_85 (by decide) ?_
          refine lv_istore (lv' := [(4, .int (zcell sL sx (0))), (0, .ref sb), (1, .ref xo), (2, .ref yo), (3, .int (zi (((k : Nat) : Int))))]) hx hb dX0_found_93 hl (by decide) rfl (fun ls hl => ?_)
          refine lv_iload_n hx hb dX0_found_95 rfl (lv_at hl 4 rfl) ?_
          refine lv_bipush (v := zi (24)) hx hb dX0_found_96 (by decide +kernel) ?_
          refine zi_icmp_ge (tgt := 113) hx hb dX0_found_98 (by decide) (by omega) (by omega) (fun c_98 => ?_) (fun c_98 => ?_)
          · refine lv_iload_n hx hb dX0_found_113 rfl (lv_at hl 4 rfl) ?_
            refine lv_bipush (v := zi (24)) hx hb dX0_found_114 (by decide +kernel) ?_
            refine zi_icmp_ne (tgt := 127) hx hb dX0_found_116 (by decide) (by omega) (by omega) (fun c_116 => ?_) (fun c_116 => ?_)
            · exact absurd c_116 (by omega)
            · refine lv_aload_n hx hb dX0_found_119 rfl (lv_at hl 1 rfl) ?_
              refine zi_const hx hb dX0_found_120 ?_
              refine z_calli (wr := [zO xo xr (24), zL xr dJ 4096 (fx), zO yo yr (24), zL yr dJ 4096 (fy)]) (wo := (fun _ : Unit => [zO xo xr (24), zL xr dJ 4096 (fx), zO yo yr (24), zL yr dJ 4096 (fy)])) (z_runX (n := 2) (rest := []) S (met_cell l D dJ dI sb sL sx hL (1) (1) (by omega) (by omega)) (lw_S q88 q89 q2 q90) rfl rfl (by decide +kernel) ⟨Nat.le_of_ble_eq_true rfl, Nat.le_of_ble_eq_true rfl⟩ hw hX hbl hbA rfl hl.1 rfl (Nat.le_of_ble_eq_true rfl) dX0_found_121 ⟨by show 8 + k + 0 ≤ 34; omega, by show 12318 + 24 * k + 0 ≤ 12942; omega⟩) hw [] [0, 1, 2, 3] rfl rfl rfl (by decide) [0, 1, 2, 3] rfl (fun _ => rfl) (fun v9 _ H locs hp hw => ?_)
              subst hp
              refine lv_goto (tgt := 134) hx hb dX0_found_124 (by decide) ?_
              refine lv_istore (lv' := [(5, .int (zcell sL sx (1))), (4, .int (zcell sL sx (0))), (0, .ref sb), (1, .ref xo), (2, .ref yo), (3, .int (zi (((k : Nat) : Int))))]) hx hb dX0_found_134 hl (by decide) rfl (fun ls hl => ?_)
              exact lp_f3 S (by omega) hfx hfy hsy hw (lv_sub hl [2, 3, 4, 5, 1, 0] rfl) (fun H locs ls hw hl => ih (k + 1) fy _ H locs ls (by omega) (by omega) rfl hfy hw hl)
          · exact absurd c_98 (by omega)
      · refine lv_aload_n hx hb dX0_found_62 rfl (lv_at hl 0 rfl) ?_
        refine zi_const hx hb dX0_found_63 ?_
        refine zi_const hx hb dX0_found_64 ?_
        refine lv_iload_n hx hb dX0_found_65 rfl (lv_at hl 3 rfl) ?_
        refine zi_mul (r := ((2 * k : Nat) : Int)) hx hb dX0_found_66 (by omega) ?_
        refine zi_add (r := ((2 + 2 * k : Nat) : Int)) hx hb dX0_found_67 (by omega) ?_
        refine z_calli (wr := [zO xo xr (24), zL xr dJ 4096 (fx), zO yo yr (24), zL yr dJ 4096 (fy)]) (wo := (fun _ : Unit => [zO xo xr (24), zL xr dJ 4096 (fx), zO yo yr (24), zL yr dJ 4096 (fy)])) (z_runX (n := 2) (rest := []) S (met_cell l D dJ dI sb sL sx hL (((2 + 2 * k : Nat) : Int)) (2 + 2 * k) (by omega) (by omega)) (lw_S q88 q89 q2 q90) rfl rfl (by decide +kernel) ⟨Nat.le_of_ble_eq_true rfl, Nat.le_of_ble_eq_true rfl⟩ hw hX hbl hbA rfl hl.1 rfl (Nat.le_of_ble_eq_true rfl) dX0_found_68 ⟨by show 8 + k + 0 ≤ 34; omega, by show 12318 + 24 * k + 0 ≤ 12942; omega⟩) hw [] [0, 1, 2, 3] rfl rfl rfl (by decide) [0, 1, 2, 3] rfl (fun _ => rfl) (fun v9 _ H locs hp hw => ?_)
        subst hp
        refine lv_goto (tgt := 93) hx hb dX0_found_71 (by decide) ?_
        refine lv_istore (lv' := [(4, .int (zcell sL sx (2 + 2 * k))), (0, .ref sb), (1, .ref xo), (2, .ref yo), (3, .int (zi (((k : Nat) : Int))))]) hx hb dX0_found_93 hl (by decide) rfl (fun ls hl => ?_)
        refine lv_iload_n hx hb dX0_found_95 rfl (lv_at hl 4 rfl) ?_
        refine lv_bipush (v := zi (24)) hx hb dX0_found_96 (by decide +kernel) ?_
        refine zi_icmp_ge (tgt := 113) hx hb dX0_found_98 (by decide) (by omega) (by omega) (fun c_98 => ?_) (fun c_98 => ?_)
        · exact absurd c_98 (by omega)
        · refine lv_aload_n hx hb dX0_found_101 rfl (lv_at hl 1 rfl) ?_
          refine zi_const hx hb dX0_found_102 ?_
          refine zi_const hx hb dX0_found_103 ?_
          refine lv_iload_n hx hb dX0_found_104 rfl (lv_at hl 4 rfl) ?_
          refine zi_mul (r := ((2 * k : Nat) : Int)) hx hb dX0_found_105 (by omega) ?_
          refine zi_add (r := ((3 + 2 * k : Nat) : Int)) hx hb dX0_found_106 (by omega) ?_
          refine z_calli (wr := [zO xo xr (24), zL xr dJ 4096 (fx), zO yo yr (24), zL yr dJ 4096 (fy)]) (wo := (fun _ : Unit => [zO xo xr (24), zL xr dJ 4096 (fx), zO yo yr (24), zL yr dJ 4096 (fy)])) (z_runX (n := 2) (rest := []) S (met_cell l D dJ dI sb sL sx hL (((3 + 2 * k : Nat) : Int)) (3 + 2 * k) (by omega) (by omega)) (lw_S q88 q89 q2 q90) rfl rfl (by decide +kernel) ⟨Nat.le_of_ble_eq_true rfl, Nat.le_of_ble_eq_true rfl⟩ hw hX hbl hbA rfl hl.1 rfl (Nat.le_of_ble_eq_true rfl) dX0_found_107 ⟨by show 8 + k + 0 ≤ 34; omega, by show 12318 + 24 * k + 0 ≤ 12942; omega⟩) hw [] [0, 1, 2, 3] rfl rfl rfl (by decide) [0, 1, 2, 3] rfl (fun _ => rfl) (fun v9 _ H locs hp hw => ?_)
          subst hp
          refine lv_goto (tgt := 134) hx hb dX0_found_110 (by decide) ?_
          refine lv_istore (lv' := [(5, .int (zcell sL sx (3 + 2 * k))), (4, .int (zcell sL sx (2 + 2 * k))), (0, .ref sb), (1, .ref xo), (2, .ref yo), (3, .int (zi (((k : Nat) : Int))))]) hx hb dX0_found_134 hl (by decide) rfl (fun ls hl => ?_)
          exact lp_f3 S (by omega) hfx hfy hsy hw (lv_sub hl [2, 3, 4, 5, 1, 0] rfl) (fun H locs ls hw hl => ih (k + 1) fy _ H locs ls (by omega) (by omega) rfl hfy hw hl)
end ZFD
set_option maxHeartbeats 4000000 in
set_option maxRecDepth 100000 in
theorem met_found (l : Launch) (D : va_G) (dJ dI : ClassId) (sb sL : Nat) (sx : Nat → Int32) (hL : sL ≤ 50) : zXC l yX0_found cX0_found 11 1305 34 12942 36536 .boolean D dJ dI [.ref sb] sb sL sx (fun (v : Int32) (_ : Unit) => v = zi 1) (fun _ => []) := by
  refine z_metX (by decide) (Nat.le_of_ble_eq_true rfl) ?_
  intro p e s m below meth c ls S hr hlocks hX hbl hbA hw hl
  have S : CallFix p m c cX0_found 11 s _ lw_all RX0 := S
  obtain ⟨hx, hb, hml, hown, hts⟩ := id S
  have hl : lv_has ls 11 [(0, .ref sb)] := hl
  refine lv_aload_n hx hb dX0_found_0 rfl (lv_at hl 0 rfl) ?_
  refine z_callr (wr := []) (wo := (fun (xr : Nat) (xo : Nat) => [zO xo xr (((24 : Nat) : Int)), zL xr dJ 4096 (zmk sL sx)])) (z_runX (n := 1) (rest := []) S (met_made l D dJ dI sb sL sx hL) (lw_S q91 q92 q2 q93) rfl rfl (by decide +kernel) ⟨Nat.le_of_ble_eq_true rfl, Nat.le_of_ble_eq_true rfl⟩ hw hX hbl hbA rfl hl.1 rfl (Nat.le_of_ble_eq_true rfl) dX0_found_1 ⟨Nat.le_of_ble_eq_true rfl, Nat.le_of_ble_eq_true rfl⟩) hw [] [] rfl rfl rfl (by decide) [0, 1] rfl (fun _ _ => rfl) (fun xr xo H locs _ hw => ?_)
  refine W.widen (k := 2) (n := 4098) (Nat.le_of_ble_eq_true rfl) (Nat.le_of_ble_eq_true rfl) ?_
  refine lv_astore_n (lv' := [(1, .ref xo), (0, .ref sb)]) hx hb dX0_found_4 rfl hl (by decide) rfl (fun ls hl => ?_)
  refine lv_aload_n hx hb dX0_found_5 rfl (lv_at hl 1 rfl) ?_
  refine z_callr (wr := [zO xo xr (((24 : Nat) : Int)), zL xr dJ 4096 (zmk sL sx)]) (wo := (fun (yr : Nat) (yo : Nat) => [zO xo xr (((24 : Nat) : Int)), zL xr dJ 4096 (zmk sL sx), zO yo yr (((24 : Nat) : Int)), zL yr dJ 4096 (zmk sL sx)])) (z_runX (n := 1) (rest := []) S (met_made l D dJ dI sb sL sx hL) (lw_S q91 q92 q2 q93) rfl rfl (by decide +kernel) ⟨Nat.le_of_ble_eq_true rfl, Nat.le_of_ble_eq_true rfl⟩ hw hX hbl hbA rfl hl.1 rfl (Nat.le_of_ble_eq_true rfl) dX0_found_6 ⟨Nat.le_of_ble_eq_true rfl, Nat.le_of_ble_eq_true rfl⟩) hw [] [0, 1] rfl rfl rfl (by decide) [0, 1, 2, 3] rfl (fun _ _ => rfl) (fun yr yo H locs _ hw => ?_)
  refine W.widen (k := 4) (n := 8196) (Nat.le_of_ble_eq_true rfl) (Nat.le_of_ble_eq_true rfl) ?_
  refine lv_astore_n (lv' := [(2, .ref yo), (1, .ref xo), (0, .ref sb)]) hx hb dX0_found_9 rfl hl (by decide) rfl (fun ls hl => ?_)
  refine lv_aload_n hx hb dX0_found_10 rfl (lv_at hl 0 rfl) ?_
  refine zi_const hx hb dX0_found_11 ?_
  refine lv_bipush (v := zi (24)) hx hb dX0_found_12 (by decide +kernel) ?_
  refine z_calli (wr := [zO xo xr (((24 : Nat) : Int)), zL xr dJ 4096 (zmk sL sx)]) (wo := (fun fy : Nat → Int64 => [zO xo xr (((24 : Nat) : Int)), zL xr dJ 4096 (zmk sL sx), zO yo yr (((24 : Nat) : Int)), zL yr dJ 4096 (fy)])) (z_runV (n := 2) (rest := []) S (met_dmerge l D dJ dI yo yr 24 0 24 (zmk sL sx) (zi (0)) (zi (24)) (by omega) (by decide +kernel) (by decide +kernel)) (lw_V q45 q46 q47 q3 q48) rfl rfl (by decide +kernel) ⟨Nat.le_of_ble_eq_true rfl, Nat.le_of_ble_eq_true rfl⟩ hw [2, 3] rfl rfl 2 rfl rfl hl.1 rfl (Nat.le_of_ble_eq_true rfl) dX0_found_14 ⟨Nat.le_of_ble_eq_true rfl, Nat.le_of_ble_eq_true rfl⟩) hw [2, 3] [0, 1] rfl rfl rfl (by decide) [0, 1, 2, 3] rfl (fun _ => rfl) (fun v9 fy H locs hp hw => ?_)
  obtain ⟨hp0, hpy, hsy⟩ := hp
  subst hp0
  have hpy : zs_pm (zmk sL sx) fy 0 24 := hpy
  have hsy : zs_srt fy 0 24 := hsy
  refine W.widen (k := 5) (n := 8220) (Nat.le_of_ble_eq_true rfl) (Nat.le_of_ble_eq_true rfl) ?_
  refine lv_bipush (v := zi (24)) hx hb dX0_found_17 (by decide +kernel) ?_
  refine zi_icmp_ne (tgt := 46) hx hb dX0_found_19 (by decide) (by omega) (by omega) (fun c_19 => ?_) (fun c_19 => ?_)
  · exact absurd c_19 (by omega)
  · refine zo_new hx hb hts hown hw (Nat.le_of_ble_eq_true rfl) (Nat.le_of_ble_eq_true rfl) dX0_found_22 (fun no H hw => ?_)
    have hw : zW D dJ dI _ s [zO xo xr (((24 : Nat) : Int)), zL xr dJ 4096 (zmk sL sx), zO yo yr (((24 : Nat) : Int)), zL yr dJ 4096 (fy), (no, .inr (0, [.null, .int (zi 0)]))] H _ := hw
    refine W.widen (k := 6) (n := 8222) (Nat.le_of_ble_eq_true rfl) (Nat.le_of_ble_eq_true rfl) ?_
    refine lv_dup hx hb dX0_found_25 rfl ?_
    refine z_callv (wr := [zO xo xr (((24 : Nat) : Int)), zL xr dJ 4096 (zmk sL sx), zO yo yr (((24 : Nat) : Int)), zL yr dJ 4096 (fy)]) (wo := (fun nr : Nat => [zO xo xr (((24 : Nat) : Int)), zL xr dJ 4096 (zmk sL sx), zO yo yr (((24 : Nat) : Int)), zL yr dJ 4096 (fy), zO no nr (0), zL nr dJ 4096 (fun _ => 0)])) (z_runI (n := 0) (rest := [.ref no]) S (met_init l D dJ dI no) q97 q3 q95 q96 rfl rfl rfl (by decide +kernel) ⟨Nat.le_of_ble_eq_true rfl, Nat.le_of_ble_eq_true rfl⟩ hw [4] rfl rfl rfl hl.1 rfl (Nat.le_of_ble_eq_true rfl) dX0_found_26 ⟨Nat.le_of_ble_eq_true rfl, Nat.le_of_ble_eq_true rfl⟩) hw [4] [0, 1, 2, 3] rfl rfl rfl (by decide) [0, 1, 2, 3, 4, 5] rfl (fun _ => rfl) (fun nr H locs _ hw => ?_)
    refine W.widen (k := 7) (n := 12318) (Nat.le_of_ble_eq_true rfl) (Nat.le_of_ble_eq_true rfl) ?_
    refine lv_aload_n hx hb dX0_found_29 rfl (lv_at hl 2 rfl) ?_
    refine zi_const hx hb dX0_found_30 ?_
    refine z_calli (wr := [zO xo xr (((24 : Nat) : Int)), zL xr dJ 4096 (zmk sL sx), zO yo yr (((24 : Nat) : Int)), zL yr dJ 4096 (fy), zO no nr (0), zL nr dJ 4096 (fun _ => 0)]) (wo := (fun _ : Unit => [zO xo xr (((24 : Nat) : Int)), zL xr dJ 4096 (zmk sL sx), zO yo yr (((24 : Nat) : Int)), zL yr dJ 4096 (fy), zO no nr (0), zL nr dJ 4096 (fun _ => 0)])) (z_runX (n := 2) (rest := [.ref no]) S (met_cell l D dJ dI sb sL sx hL (0) (0) (by omega) (by omega)) (lw_S q88 q89 q2 q90) rfl rfl (by decide +kernel) ⟨Nat.le_of_ble_eq_true rfl, Nat.le_of_ble_eq_true rfl⟩ hw hX hbl hbA rfl hl.1 rfl (Nat.le_of_ble_eq_true rfl) dX0_found_31 ⟨Nat.le_of_ble_eq_true rfl, Nat.le_of_ble_eq_true rfl⟩) hw [] [0, 1, 2, 3, 4, 5] rfl rfl rfl (by decide) [0, 1, 2, 3, 4, 5] rfl (fun _ => rfl) (fun v9 _ H locs hp hw => ?_)
    subst hp
    refine lv_aload_n hx hb dX0_found_34 rfl (lv_at hl 2 rfl) ?_
    refine zi_const hx hb dX0_found_35 ?_
    refine z_calli (wr := [zO xo xr (((24 : Nat) : Int)), zL xr dJ 4096 (zmk sL sx), zO yo yr (((24 : Nat) : Int)), zL yr dJ 4096 (fy), zO no nr (0), zL nr dJ 4096 (fun _ => 0)]) (wo := (fun _ : Unit => [zO xo xr (((24 : Nat) : Int)), zL xr dJ 4096 (zmk sL sx), zO yo yr (((24 : Nat) : Int)), zL yr dJ 4096 (fy), zO no nr (0), zL nr dJ 4096 (fun _ => 0)])) (z_runX (n := 2) (rest := [.int (zcell sL sx (0)), .ref no]) S (met_cell l D dJ dI sb sL sx hL (1) (1) (by omega) (by omega)) (lw_S q88 q89 q2 q90) rfl rfl (by decide +kernel) ⟨Nat.le_of_ble_eq_true rfl, Nat.le_of_ble_eq_true rfl⟩ hw hX hbl hbA rfl hl.1 rfl (Nat.le_of_ble_eq_true rfl) dX0_found_36 ⟨Nat.le_of_ble_eq_true rfl, Nat.le_of_ble_eq_true rfl⟩) hw [] [0, 1, 2, 3, 4, 5] rfl rfl rfl (by decide) [0, 1, 2, 3, 4, 5] rfl (fun _ => rfl) (fun v9 _ H locs hp hw => ?_)
    subst hp
    refine z_calli (wr := [zO xo xr (((24 : Nat) : Int)), zL xr dJ 4096 (zmk sL sx), zO yo yr (((24 : Nat) : Int)), zL yr dJ 4096 (fy)]) (wo := (fun u : Nat → Int64 => [zO xo xr (((24 : Nat) : Int)), zL xr dJ 4096 (zmk sL sx), zO yo yr (((24 : Nat) : Int)), zL yr dJ 4096 (fy), zO no nr (0), zL nr dJ 4096 (u)])) (z_runV (n := 2) (rest := []) S (met_find l D dJ dI no nr 0 (fun _ => 0) (zcell sL sx (0)) (zcell sL sx (1)) (by omega)) (lw_V q134 q135 q136 q3 q137) rfl rfl (by decide +kernel) ⟨Nat.le_of_ble_eq_true rfl, Nat.le_of_ble_eq_true rfl⟩ hw [4, 5] rfl rfl 4 rfl rfl hl.1 rfl (Nat.le_of_ble_eq_true rfl) dX0_found_39 ⟨Nat.le_of_ble_eq_true rfl, Nat.le_of_ble_eq_true rfl⟩) hw [4, 5] [0, 1, 2, 3] rfl rfl rfl (by decide) [0, 1, 2, 3, 4, 5] rfl (fun _ => rfl) (fun v9 u H locs hp hw => ?_)
    obtain ⟨-, -, hfi⟩ := hp
    have hv : v9 = zi (-1) := by
      rcases hfi with ⟨md, y1, -⟩ | ⟨ins, y1, -, -, y4⟩
      · omega
      · rw [y4, show ins = 0 by omega]
        rfl
    subst hv
    have hw := zW_re (ws' := [zO xo xr (((24 : Nat) : Int)), zL xr dJ 4096 (zmk sL sx), zO yo yr (((24 : Nat) : Int)), zL yr dJ 4096 (fy)]) hw [0, 1, 2, 3] rfl rfl
    refine W.widen (k := 8 + 0) (n := 12318 + 24 * 0) (Nat.le_of_ble_eq_true rfl) (Nat.le_of_ble_eq_true rfl) ?_
    refine zi_const hx hb dX0_found_42 ?_
    refine zi_icmp_eq (tgt := 48) hx hb dX0_found_43 (by decide) (by omega) (by omega) (fun c_43 => ?_) (fun c_43 => ?_)
    · refine zi_const hx hb dX0_found_48 ?_
      refine lv_istore_n (lv' := [(3, .int (zi (0))), (2, .ref yo), (1, .ref xo), (0, .ref sb)]) hx hb dX0_found_49 rfl hl (by decide) rfl (fun ls hl => ?_)
      refine lp_f4 (sb := sb) (sL := sL) (sx := sx) S hL hX hbl hbA hpy hsy (fun fx H locs ls hw hl => ?_) 27 0 _ _ H locs ls (by omega) (by omega) rfl zs_pm.rf hw (lv_sub hl [3, 2, 1, 0] rfl)
      refine zi_const hx hb dX0_found_286 ?_
      exact z_zret hx hb hr hlocks hw () [] rfl rfl rfl rfl dX0_found_287
    · exact absurd c_43 (by omega)
end
section
/-! LongSortDeskLaw.bounds. Printed by gen/m19.py -/
set_option maxRecDepth 100000
section ZBD
variable {p : Program} {l : Launch} {e : Env} {s : State} {m : MethodId} {args : Array Value} {below : List Frame} {meth : Method} {c : Code} {Q : State → Prop} {D : va_G} {dJ dI : ClassId} {A : Nat → Prop}
set_option maxHeartbeats 4000000 in
set_option maxRecDepth 100000 in
/-- what lies outside stands -/
theorem lp_b1 {sb xo wo xr wr : Nat} {fr c9 : Nat} {fx fw : Nat → Int64} (S : CallFix p m c cX0_bounds 6 s args lw_all RX0) (hfr : fr ≤ 24) (hc : c9 ≤ 24) (hfx : ∀ j, (j < fr ∨ fr + c9 ≤ j) → fx j = fw j) (kx : ∀ (H : Heap) (locs : List Loc) (ls : Array Slot), zW D dJ dI A s [zO xo xr (24), zL xr dJ 4096 (fx), zO wo wr (24), zL wr dJ 4096 (fw)] H locs → lv_has ls 6 [(0, .ref sb), (1, .ref xo), (2, .ref wo)] → W p l e (zRm 1305 15 19960 43006) s m args below meth c H locs 15 19960 Q (F0 m 171 ls [])) :
    ∀ (N i : Nat) (z5 : Int) (H : Heap) (locs : List Loc) (ls : Array Slot), 24 < i + N → i ≤ 24 → z5 = ((i : Nat) : Int) → zW D dJ dI A s [zO xo xr (24), zL xr dJ 4096 (fx), zO wo wr (24), zL wr dJ 4096 (fw)] H locs → lv_has ls 6 [(0, .ref sb), (1, .ref xo), (2, .ref wo), (3, .int (zi (((fr : Nat) : Int)))), (4, .int (zi (((c9 : Nat) : Int)))), (5, .int (zi (z5)))] → W p l e (zRm 1305 15 19960 43006) s m args below meth c H locs 15 19960 Q (F0 m 125 ls []) := by
  obtain ⟨hx, hb, hml, hown, hts⟩ := id S
  intro N
  induction N with
  | zero =>
    intro i z5 H locs ls h1 h2
    exact absurd h1 (by omega)
  | succ N ih =>
    intro i z5 H locs ls hN hi1 e5 hw hl
    subst e5
    refine lv_iload hx hb dX0_bounds_125 (lv_at hl 5 rfl) ?_
    refine lv_bipush (v := zi (24)) hx hb dX0_bounds_127 (by decide +kernel) ?_
    refine zi_icmp_ge (tgt := 171) hx hb dX0_bounds_129 (by decide) (by omega) (by omega) (fun c_129 => ?_) (fun c_129 => ?_)
    · exact kx H locs ls hw (lv_sub hl [0, 1, 2] rfl)
    · refine lv_iload hx hb dX0_bounds_132 (lv_at hl 5 rfl) ?_
      refine lv_iload_n hx hb dX0_bounds_134 rfl (lv_at hl 3 rfl) ?_
      refine zi_icmp_lt (tgt := 147) hx hb dX0_bounds_135 (by decide) (by omega) (by omega) (fun c_135 => ?_) (fun c_135 => ?_)
      · have ei : (fx i).toInt = (fw i).toInt := by rw [hfx i (by omega)]
        refine lv_aload_n hx hb dX0_bounds_147 rfl (lv_at hl 1 rfl) ?_
        refine lv_iload hx hb dX0_bounds_148 (lv_at hl 5 rfl) ?_
        refine z_calll (wr := [zO wo wr (24), zL wr dJ 4096 (fw)]) (wo := (fun _ : Unit => [zO xo xr (24), zL xr dJ 4096 (fx), zO wo wr (24), zL wr dJ 4096 (fw)])) (z_runV (n := 1) (rest := []) S (met_row l D dJ dI xo xr (24) (fx) (zi (((i : Nat) : Int))) (by omega) (by omega)) (lw_V q84 q85 q86 q3 q87) rfl rfl (by decide +kernel) ⟨Nat.le_of_ble_eq_true rfl, Nat.le_of_ble_eq_true rfl⟩ hw [0, 1] rfl rfl 0 rfl rfl hl.1 rfl (Nat.le_of_ble_eq_true rfl) dX0_bounds_150 ⟨Nat.le_of_ble_eq_true rfl, Nat.le_of_ble_eq_true rfl⟩) hw [0, 1] [2, 3] rfl rfl rfl (by decide) [2, 3, 0, 1] rfl (fun _ => rfl) (fun v9 _ H locs hp hw => ?_)
        have e9 : zlo (zi (((i : Nat) : Int))) % (24) = i := by rw [zlo_zi (k := i) (by omega) (by omega)]; exact Nat.mod_eq_of_lt (by omega)
        rw [e9] at hp
        subst hp
        clear e9
        refine lv_aload_n hx hb dX0_bounds_153 rfl (lv_at hl 2 rfl) ?_
        refine lv_iload hx hb dX0_bounds_154 (lv_at hl 5 rfl) ?_
        refine z_calll (wr := [zO xo xr (24), zL xr dJ 4096 (fx)]) (wo := (fun _ : Unit => [zO xo xr (24), zL xr dJ 4096 (fx), zO wo wr (24), zL wr dJ 4096 (fw)])) (z_runV (n := 1) (rest := [.long ((fx) (i))]) S (met_row l D dJ dI wo wr (24) (fw) (zi (((i : Nat) : Int))) (by omega) (by omega)) (lw_V q84 q85 q86 q3 q87) rfl rfl (by decide +kernel) ⟨Nat.le_of_ble_eq_true rfl, Nat.le_of_ble_eq_true rfl⟩ hw [2, 3] rfl rfl 2 rfl rfl hl.1 rfl (Nat.le_of_ble_eq_true rfl) dX0_bounds_156 ⟨Nat.le_of_ble_eq_true rfl, Nat.le_of_ble_eq_true rfl⟩) hw [2, 3] [0, 1] rfl rfl rfl (by decide) [0, 1, 2, 3] rfl (fun _ => rfl) (fun v9 _ H locs hp hw => ?_)
        have e9 : zlo (zi (((i : Nat) : Int))) % (24) = i := by rw [zlo_zi (k := i) (by omega) (by omega)]; exact Nat.mod_eq_of_lt (by omega)
        rw [e9] at hp
        subst hp
        clear e9
        refine zl_cmp hx hb dX0_bounds_159 ?_
        have hz_159_3 := zcz_spec ((fx) (i)) ((fw) (i))
        refine zi_if_eq (tgt := 165) hx hb dX0_bounds_160 (by decide) (by omega) (fun c_160 => ?_) (fun c_160 => ?_)
        · refine zi_inc (v := ((i + 1 : Nat) : Int)) (k := 5) (lv' := [(5, .int (zi (((i + 1 : Nat) : Int)))), (0, .ref sb), (1, .ref xo), (2, .ref wo), (3, .int (zi (((fr : Nat) : Int)))), (4, .int (zi (((c9 : Nat) : Int))))]) hx hb dX0_bounds_165 hl rfl (by omega) (by decide) rfl (fun ls hl => ?_)
          refine lv_goto (tgt := 125) hx hb dX0_bounds_168 (by decide) ?_
          exact ih (i + 1) _ H locs ls (by omega) (by omega) rfl hw (lv_sub hl [1, 2, 3, 4, 5, 0] rfl)
        · exact absurd c_160 (by omega)
      · refine lv_iload hx hb dX0_bounds_138 (lv_at hl 5 rfl) ?_
        refine lv_iload_n hx hb dX0_bounds_140 rfl (lv_at hl 3 rfl) ?_
        refine lv_iload hx hb dX0_bounds_141 (lv_at hl 4 rfl) ?_
        refine zi_add (r := ((fr + c9 : Nat) : Int)) hx hb dX0_bounds_143 (by omega) ?_
        refine zi_icmp_lt (tgt := 165) hx hb dX0_bounds_144 (by decide) (by omega) (by omega) (fun c_144 => ?_) (fun c_144 => ?_)
        · refine zi_inc (v := ((i + 1 : Nat) : Int)) (k := 5) (lv' := [(5, .int (zi (((i + 1 : Nat) : Int)))), (0, .ref sb), (1, .ref xo), (2, .ref wo), (3, .int (zi (((fr : Nat) : Int)))), (4, .int (zi (((c9 : Nat) : Int))))]) hx hb dX0_bounds_165 hl rfl (by omega) (by decide) rfl (fun ls hl => ?_)
          refine lv_goto (tgt := 125) hx hb dX0_bounds_168 (by decide) ?_
          exact ih (i + 1) _ H locs ls (by omega) (by omega) rfl hw (lv_sub hl [1, 2, 3, 4, 5, 0] rfl)
        · have ei : (fx i).toInt = (fw i).toInt := by rw [hfx i (by omega)]
          refine lv_aload_n hx hb dX0_bounds_147 rfl (lv_at hl 1 rfl) ?_
          refine lv_iload hx hb dX0_bounds_148 (lv_at hl 5 rfl) ?_
          refine z_calll (wr := [zO wo wr (24), zL wr dJ 4096 (fw)]) (wo := (fun _ : Unit => [zO xo xr (24), zL xr dJ 4096 (fx), zO wo wr (24), zL wr dJ 4096 (fw)])) (z_runV (n := 1) (rest := []) S (met_row l D dJ dI xo xr (24) (fx) (zi (((i : Nat) : Int))) (by omega) (by omega)) (lw_V q84 q85 q86 q3 q87) rfl rfl (by decide +kernel) ⟨Nat.le_of_ble_eq_true rfl, Nat.le_of_ble_eq_true rfl⟩ hw [0, 1] rfl rfl 0 rfl rfl hl.1 rfl (Nat.le_of_ble_eq_true rfl) dX0_bounds_150 ⟨Nat.le_of_ble_eq_true rfl, Nat.le_of_ble_eq_true rfl⟩) hw [0, 1] [2, 3] rfl rfl rfl (by decide) [2, 3, 0, 1] rfl (fun _ => rfl) (fun v9 _ H locs hp hw => ?_)
          have e9 : zlo (zi (((i : Nat) : Int))) % (24) = i := by rw [zlo_zi (k := i) (by omega) (by omega)]; exact Nat.mod_eq_of_lt (by omega)
          rw [e9] at hp
          subst hp
          clear e9
          refine lv_aload_n hx hb dX0_bounds_153 rfl (lv_at hl 2 rfl) ?_
          refine lv_iload hx hb dX0_bounds_154 (lv_at hl 5 rfl) ?_
          refine z_calll (wr := [zO xo xr (24), zL xr dJ 4096 (fx)]) (wo := (fun _ : Unit => [zO xo xr (24), zL xr dJ 4096 (fx), zO wo wr (24), zL wr dJ 4096 (fw)])) (z_runV (n := 1) (rest := [.long ((fx) (i))]) S (met_row l D dJ dI wo wr (24) (fw) (zi (((i : Nat) : Int))) (by omega) (by omega)) (lw_V q84 q85 q86 q3 q87) rfl rfl (by decide +kernel) ⟨Nat.le_of_ble_eq_true rfl, Nat.le_of_ble_eq_true rfl⟩ hw [2, 3] rfl rfl 2 rfl rfl hl.1 rfl (Nat.le_of_ble_eq_true rfl) dX0_bounds_156 ⟨Nat.le_of_ble_eq_true rfl, Nat.le_of_ble_eq_true rfl⟩) hw [2, 3] [0, 1] rfl rfl rfl (by decide) [0, 1, 2, 3] rfl (fun _ => rfl) (fun v9 _ H locs hp hw => ?_)
          have e9 : zlo (zi (((i : Nat) : Int))) % (24) = i := by rw [zlo_zi (k := i) (by omega) (by omega)]; exact Nat.mod_eq_of_lt (by omega)
          rw [e9] at hp
          subst hp
          clear e9
          refine zl_cmp hx hb dX0_bounds_159 ?_
          have hz_159_6 := zcz_spec ((fx) (i)) ((fw) (i))
          refine zi_if_eq (tgt := 165) hx hb dX0_bounds_160 (by decide) (by omega) (fun c_160 => ?_) (fun c_160 => ?_)
          · refine zi_inc (v := ((i + 1 : Nat) : Int)) (k := 5) (lv' := [(5, .int (zi (((i + 1 : Nat) : Int)))), (0, .ref sb), (1, .ref xo), (2, .ref wo), (3, .int (zi (((fr : Nat) : Int)))), (4, .int (zi (((c9 : Nat) : Int))))]) hx hb dX0_bounds_165 hl rfl (by omega) (by decide) rfl (fun ls hl => ?_)
            refine lv_goto (tgt := 125) hx hb dX0_bounds_168 (by decide) ?_
            exact ih (i + 1) _ H locs ls (by omega) (by omega) rfl hw (lv_sub hl [1, 2, 3, 4, 5, 0] rfl)
          · exact absurd c_160 (by omega)
set_option maxHeartbeats 4000000 in
set_option maxRecDepth 100000 in
/-- fifteen runs of 256 -/
theorem lp_b2 {sb xo wo xr wr : Nat} {fw : Nat → Int64} (S : CallFix p m c cX0_bounds 6 s args lw_all RX0) (kx : ∀ (g : Nat → Int64) (H : Heap) (locs : List Loc) (ls : Array Slot), g 3863 = zrv (zi 0) (zi 14) (zi 1) 255 → zW D dJ dI A s [zO xo xr (3864), zL xr dJ 4096 (g), zO wo wr (24), zL wr dJ 4096 (fw)] H locs → lv_has ls 6 [(0, .ref sb), (1, .ref xo), (2, .ref wo)] → W p l e (zRm 1305 15 19960 43006) s m args below meth c H locs 15 19960 Q (F0 m 206 ls [])) :
    ∀ (N k : Nat) (g : Nat → Int64) (z5 zs : Int) (H : Heap) (locs : List Loc) (ls : Array Slot), 15 < k + N → k ≤ 15 → z5 = ((k : Nat) : Int) → zs = ((24 + 256 * k : Nat) : Int) → (0 < k → g (24 + 256 * k - 1) = zrv (zi 0) (zi ((k - 1 : Nat) : Int)) (zi 1) 255) → zW D dJ dI A s [zO xo xr zs, zL xr dJ 4096 g, zO wo wr (24), zL wr dJ 4096 fw] H locs → lv_has ls 6 [(0, .ref sb), (1, .ref xo), (2, .ref wo), (5, .int (zi (z5)))] → W p l e (zRm 1305 15 19960 43006) s m args below meth c H locs 15 19960 Q (F0 m 174 ls []) := by
  obtain ⟨hx, hb, hml, hown, hts⟩ := id S
  intro N
  induction N with
  | zero =>
    intro k g z5 zs H locs ls h1 h2
    exact absurd h1 (by omega)
  | succ N ih =>
    intro k g z5 zs H locs ls hN hk1 e5 es hlast hw hl
    subst e5
    subst es
    have h256 : zlo (zi (256)) % 257 = 256 := by decide +kernel
    refine lv_iload hx hb dX0_bounds_174 (lv_at hl 3 rfl) ?_
    refine lv_bipush (v := zi (15)) hx hb dX0_bounds_176 (by decide +kernel) ?_
    refine zi_icmp_ge (tgt := 206) hx hb dX0_bounds_178 (by decide) (by omega) (by omega) (fun c_178 => ?_) (fun c_178 => ?_)
    · have e9 : k = 15 := by omega
      subst e9
      exact kx g H locs ls (hlast (by omega)) hw (lv_sub hl [0, 1, 2] rfl)
    · refine lv_aload_n hx hb dX0_bounds_181 rfl (lv_at hl 1 rfl) ?_
      refine lv_sipush (v := zi (256)) hx hb dX0_bounds_182 (by decide +kernel) ?_
      refine zi_const hx hb dX0_bounds_185 ?_
      refine lv_iload hx hb dX0_bounds_186 (lv_at hl 3 rfl) ?_
      refine zi_const hx hb dX0_bounds_188 ?_
      refine z_calli (wr := [zO wo wr (24), zL wr dJ 4096 (fw)]) (wo := (fun g2 : Nat → Int64 => [zO xo xr (((24 + 256 * k + 256 : Nat) : Int)), zL xr dJ 4096 (g2), zO wo wr (24), zL wr dJ 4096 (fw)])) (z_runV (n := 4) (rest := []) S (met_ramp l D dJ dI xo xr (24 + 256 * k) (256) (g) (zi (256)) (zi (0)) (zi (((k : Nat) : Int))) (zi (1)) (by omega) (by have := h256; omega)) (lw_V q122 q123 q124 q3 q125) rfl rfl (by decide +kernel) ⟨Nat.le_of_ble_eq_true rfl, Nat.le_of_ble_eq_true rfl⟩ hw [0, 1] rfl rfl 0 rfl rfl hl.1 rfl (Nat.le_of_ble_eq_true rfl) dX0_bounds_189 ⟨Nat.le_of_ble_eq_true rfl, Nat.le_of_ble_eq_true rfl⟩) hw [0, 1] [2, 3] rfl rfl rfl (by decide) [2, 3, 0, 1] rfl (fun _ => rfl) (fun v9 g2 H locs hp hw => ?_)
      obtain ⟨hp0, hag2, hbg2⟩ := hp
      subst hp0
      refine lv_sipush (v := zi (256)) hx hb dX0_bounds_192 (by decide +kernel) ?_
      refine zi_icmp_eq (tgt := 200) hx hb dX0_bounds_195 (by decide) (by omega) (by omega) (fun c_195 => ?_) (fun c_195 => ?_)
      · refine zi_inc (v := ((k + 1 : Nat) : Int)) (k := 3) (lv' := [(5, .int (zi (((k + 1 : Nat) : Int)))), (0, .ref sb), (1, .ref xo), (2, .ref wo)]) hx hb dX0_bounds_200 hl rfl (by omega) (by decide) rfl (fun ls hl => ?_)
        refine lv_goto (tgt := 174) hx hb dX0_bounds_203 (by decide) ?_
        exact ih (k + 1) g2 _ _ H locs ls (by omega) (by omega) rfl (by omega) (fun _ => by
            rw [show 24 + 256 * (k + 1) - 1 = 24 + 256 * k + 255 by omega]
            exact hag2 255 (by omega)) hw (lv_sub hl [1, 2, 3, 0] rfl)
      · exact absurd c_195 (by omega)
end ZBD
set_option maxHeartbeats 4000000 in
set_option maxRecDepth 100000 in
theorem met_bounds (l : Launch) (D : va_G) (dJ dI : ClassId) (sb sL : Nat) (sx : Nat → Int32) (hL : sL ≤ 50) : zXC l yX0_bounds cX0_bounds 6 1305 15 19960 43006 .boolean D dJ dI [.ref sb] sb sL sx (fun (v : Int32) (_ : Unit) => v = zi 1) (fun _ => []) := by
  obtain ⟨fr, hfr⟩ : ∃ fr, fr = zlo (zcell sL sx (0)) % (25) := ⟨_, rfl⟩
  have hfr9 : fr < 25 := by
    rw [hfr]
    exact Nat.mod_lt _ (by omega)
  obtain ⟨c9, hc⟩ : ∃ c9, c9 = zlo (zcell sL sx (1)) % (25 - fr) := ⟨_, rfl⟩
  have hc9 : c9 < 25 - fr := by
    rw [hc]
    exact Nat.mod_lt _ (by omega)
  have hc2 : c9 = zlo (zcell sL sx (1)) % (24 - fr + 1) := by
    rw [show 24 - fr + 1 = 25 - fr by omega]
    exact hc
  refine z_metX (by decide) (Nat.le_of_ble_eq_true rfl) ?_
  intro p e s m below meth c ls S hr hlocks hX hbl hbA hw hl
  have S : CallFix p m c cX0_bounds 6 s _ lw_all RX0 := S
  obtain ⟨hx, hb, hml, hown, hts⟩ := id S
  have hl : lv_has ls 6 [(0, .ref sb)] := hl
  refine lv_aload_n hx hb dX0_bounds_0 rfl (lv_at hl 0 rfl) ?_
  refine z_callr (wr := []) (wo := (fun (xr : Nat) (xo : Nat) => [zO xo xr (((24 : Nat) : Int)), zL xr dJ 4096 (zmk sL sx)])) (z_runX (n := 1) (rest := []) S (met_made l D dJ dI sb sL sx hL) (lw_S q91 q92 q2 q93) rfl rfl (by decide +kernel) ⟨Nat.le_of_ble_eq_true rfl, Nat.le_of_ble_eq_true rfl⟩ hw hX hbl hbA rfl hl.1 rfl (Nat.le_of_ble_eq_true rfl) dX0_bounds_1 ⟨Nat.le_of_ble_eq_true rfl, Nat.le_of_ble_eq_true rfl⟩) hw [] [] rfl rfl rfl (by decide) [0, 1] rfl (fun _ _ => rfl) (fun xr xo H locs _ hw => ?_)
  refine W.widen (k := 2) (n := 4098) (Nat.le_of_ble_eq_true rfl) (Nat.le_of_ble_eq_true rfl) ?_
  refine lv_astore_n (lv' := [(1, .ref xo), (0, .ref sb)]) hx hb dX0_bounds_4 rfl hl (by decide) rfl (fun ls hl => ?_)
  refine lv_aload_n hx hb dX0_bounds_5 rfl (lv_at hl 1 rfl) ?_
  refine z_callr (wr := [zO xo xr (((24 : Nat) : Int)), zL xr dJ 4096 (zmk sL sx)]) (wo := (fun (wr : Nat) (wo : Nat) => [zO xo xr (((24 : Nat) : Int)), zL xr dJ 4096 (zmk sL sx), zO wo wr (((24 : Nat) : Int)), zL wr dJ 4096 (zmk sL sx)])) (z_runX (n := 1) (rest := []) S (met_made l D dJ dI sb sL sx hL) (lw_S q91 q92 q2 q93) rfl rfl (by decide +kernel) ⟨Nat.le_of_ble_eq_true rfl, Nat.le_of_ble_eq_true rfl⟩ hw hX hbl hbA rfl hl.1 rfl (Nat.le_of_ble_eq_true rfl) dX0_bounds_6 ⟨Nat.le_of_ble_eq_true rfl, Nat.le_of_ble_eq_true rfl⟩) hw [] [0, 1] rfl rfl rfl (by decide) [0, 1, 2, 3] rfl (fun _ _ => rfl) (fun wr wo H locs _ hw => ?_)
  refine W.widen (k := 4) (n := 8196) (Nat.le_of_ble_eq_true rfl) (Nat.le_of_ble_eq_true rfl) ?_
  refine lv_astore_n (lv' := [(2, .ref wo), (1, .ref xo), (0, .ref sb)]) hx hb dX0_bounds_9 rfl hl (by decide) rfl (fun ls hl => ?_)
  refine lv_aload_n hx hb dX0_bounds_10 rfl (lv_at hl 2 rfl) ?_
  refine zi_const hx hb dX0_bounds_11 ?_
  refine z_calli (wr := [zO xo xr (((24 : Nat) : Int)), zL xr dJ 4096 (zmk sL sx), zO wo wr (((24 : Nat) : Int)), zL wr dJ 4096 (zmk sL sx)]) (wo := (fun _ : Unit => [zO xo xr (((24 : Nat) : Int)), zL xr dJ 4096 (zmk sL sx), zO wo wr (((24 : Nat) : Int)), zL wr dJ 4096 (zmk sL sx)])) (z_runX (n := 2) (rest := []) S (met_cell l D dJ dI sb sL sx hL (0) (0) (by omega) (by omega)) (lw_S q88 q89 q2 q90) rfl rfl (by decide +kernel) ⟨Nat.le_of_ble_eq_true rfl, Nat.le_of_ble_eq_true rfl⟩ hw hX hbl hbA rfl hl.1 rfl (Nat.le_of_ble_eq_true rfl) dX0_bounds_12 ⟨Nat.le_of_ble_eq_true rfl, Nat.le_of_ble_eq_true rfl⟩) hw [] [0, 1, 2, 3] rfl rfl rfl (by decide) [0, 1, 2, 3] rfl (fun _ => rfl) (fun v9 _ H locs hp hw => ?_)
  subst hp
  refine lv_ldc (v := 2147483647) hx hb hown (hts _ q144) dX0_bounds_15 ?_
  refine zi_and hx hb dX0_bounds_17 ?_
  refine lv_bipush (v := zi (25)) hx hb dX0_bounds_18 (by decide +kernel) ?_
  refine zi_remN (a := zlo (zcell sL sx (0))) (b := 25) hx hb dX0_bounds_20 rfl rfl (zlo_lt _) (by omega) (by omega) ?_
  refine lv_topi (fun v ev0 => ?_)
  rw [← hfr] at ev0
  subst ev0
  refine lv_istore_n (lv' := [(3, .int (zi (((fr : Nat) : Int)))), (2, .ref wo), (1, .ref xo), (0, .ref sb)]) hx hb dX0_bounds_21 rfl hl (by decide) rfl (fun ls hl => ?_)
  refine lv_aload_n hx hb dX0_bounds_22 rfl (lv_at hl 3 rfl) ?_
  refine zi_const hx hb dX0_bounds_23 ?_
  refine z_calli (wr := [zO xo xr (((24 : Nat) : Int)), zL xr dJ 4096 (zmk sL sx), zO wo wr (((24 : Nat) : Int)), zL wr dJ 4096 (zmk sL sx)]) (wo := (fun _ : Unit => [zO xo xr (((24 : Nat) : Int)), zL xr dJ 4096 (zmk sL sx), zO wo wr (((24 : Nat) : Int)), zL wr dJ 4096 (zmk sL sx)])) (z_runX (n := 2) (rest := []) S (met_cell l D dJ dI sb sL sx hL (1) (1) (by omega) (by omega)) (lw_S q88 q89 q2 q90) rfl rfl (by decide +kernel) ⟨Nat.le_of_ble_eq_true rfl, Nat.le_of_ble_eq_true rfl⟩ hw hX hbl hbA rfl hl.1 rfl (Nat.le_of_ble_eq_true rfl) dX0_bounds_24 ⟨Nat.le_of_ble_eq_true rfl, Nat.le_of_ble_eq_true rfl⟩) hw [] [0, 1, 2, 3] rfl rfl rfl (by decide) [0, 1, 2, 3] rfl (fun _ => rfl) (fun v9 _ H locs hp hw => ?_)
  subst hp
  refine lv_ldc (v := 2147483647) hx hb hown (hts _ q144) dX0_bounds_27 ?_
  refine zi_and hx hb dX0_bounds_29 ?_
  refine lv_bipush (v := zi (25)) hx hb dX0_bounds_30 (by decide +kernel) ?_
  refine lv_iload_n hx hb dX0_bounds_32 rfl (lv_at hl 0 rfl) ?_
  refine zi_sub (r := ((25 - fr : Nat) : Int)) hx hb dX0_bounds_33 (by omega) ?_
  refine zi_remN (a := zlo (zcell sL sx (1))) (b := 25 - fr) hx hb dX0_bounds_34 rfl rfl (zlo_lt _) (by omega) (by omega) ?_
  refine lv_topi (fun v ev0 => ?_)
  rw [← hc] at ev0
  subst ev0
  refine lv_istore (lv' := [(4, .int (zi (((c9 : Nat) : Int)))), (3, .int (zi (((fr : Nat) : Int)))), (2, .ref wo), (1, .ref xo), (0, .ref sb)]) hx hb dX0_bounds_35 hl (by decide) rfl (fun ls hl => ?_)
  refine lv_aload_n hx hb dX0_bounds_37 rfl (lv_at hl 3 rfl) ?_
  refine lv_aload_n hx hb dX0_bounds_38 rfl (lv_at hl 4 rfl) ?_
  refine zi_const hx hb dX0_bounds_39 ?_
  refine z_calli (wr := [zO xo xr (((24 : Nat) : Int)), zL xr dJ 4096 (zmk sL sx), zO wo wr (((24 : Nat) : Int)), zL wr dJ 4096 (zmk sL sx)]) (wo := (fun _ : Unit => [zO xo xr (((24 : Nat) : Int)), zL xr dJ 4096 (zmk sL sx), zO wo wr (((24 : Nat) : Int)), zL wr dJ 4096 (zmk sL sx)])) (z_runX (n := 2) (rest := [.ref xo]) S (met_cell l D dJ dI sb sL sx hL (0) (0) (by omega) (by omega)) (lw_S q88 q89 q2 q90) rfl rfl (by decide +kernel) ⟨Nat.le_of_ble_eq_true rfl, Nat.le_of_ble_eq_true rfl⟩ hw hX hbl hbA rfl hl.1 rfl (Nat.le_of_ble_eq_true rfl) dX0_bounds_40 ⟨Nat.le_of_ble_eq_true rfl, Nat.le_of_ble_eq_true rfl⟩) hw [] [0, 1, 2, 3] rfl rfl rfl (by decide) [0, 1, 2, 3] rfl (fun _ => rfl) (fun v9 _ H locs hp hw => ?_)
  subst hp
  refine lv_aload_n hx hb dX0_bounds_43 rfl (lv_at hl 4 rfl) ?_
  refine zi_const hx hb dX0_bounds_44 ?_
  refine z_calli (wr := [zO xo xr (((24 : Nat) : Int)), zL xr dJ 4096 (zmk sL sx), zO wo wr (((24 : Nat) : Int)), zL wr dJ 4096 (zmk sL sx)]) (wo := (fun _ : Unit => [zO xo xr (((24 : Nat) : Int)), zL xr dJ 4096 (zmk sL sx), zO wo wr (((24 : Nat) : Int)), zL wr dJ 4096 (zmk sL sx)])) (z_runX (n := 2) (rest := [.int (zcell sL sx (0)), .ref xo]) S (met_cell l D dJ dI sb sL sx hL (1) (1) (by omega) (by omega)) (lw_S q88 q89 q2 q90) rfl rfl (by decide +kernel) ⟨Nat.le_of_ble_eq_true rfl, Nat.le_of_ble_eq_true rfl⟩ hw hX hbl hbA rfl hl.1 rfl (Nat.le_of_ble_eq_true rfl) dX0_bounds_45 ⟨Nat.le_of_ble_eq_true rfl, Nat.le_of_ble_eq_true rfl⟩) hw [] [0, 1, 2, 3] rfl rfl rfl (by decide) [0, 1, 2, 3] rfl (fun _ => rfl) (fun v9 _ H locs hp hw => ?_)
  subst hp
  refine z_calli (wr := [zO wo wr (((24 : Nat) : Int)), zL wr dJ 4096 (zmk sL sx)]) (wo := (fun g1 : Nat → Int64 => [zO xo xr (((24 : Nat) : Int)), zL xr dJ 4096 (g1), zO wo wr (((24 : Nat) : Int)), zL wr dJ 4096 (zmk sL sx)])) (z_runV (n := 2) (rest := []) S (met_dquick l D dJ dI xo xr 24 fr c9 (zmk sL sx) (zcell sL sx (0)) (zcell sL sx (1)) (by omega) (hfr) (hc2)) (lw_V q9 q10 q11 q3 q12) rfl rfl (by decide +kernel) ⟨Nat.le_of_ble_eq_true rfl, Nat.le_of_ble_eq_true rfl⟩ hw [0, 1] rfl rfl 0 rfl rfl hl.1 rfl (Nat.le_of_ble_eq_true rfl) dX0_bounds_48 ⟨Nat.le_of_ble_eq_true rfl, Nat.le_of_ble_eq_true rfl⟩) hw [0, 1] [2, 3] rfl rfl rfl (by decide) [2, 3, 0, 1] rfl (fun _ => rfl) (fun v9 g1 H locs hp hw => ?_)
  obtain ⟨hp0, hpg1, -⟩ := hp
  subst hp0
  refine lv_iload hx hb dX0_bounds_51 (lv_at hl 0 rfl) ?_
  refine zi_icmp_ne (tgt := 120) hx hb dX0_bounds_53 (by decide) (by omega) (by omega) (fun c_53 => ?_) (fun c_53 => ?_)
  · exact absurd c_53 (by omega)
  · refine lv_aload_n hx hb dX0_bounds_56 rfl (lv_at hl 3 rfl) ?_
    refine lv_aload_n hx hb dX0_bounds_57 rfl (lv_at hl 4 rfl) ?_
    refine zi_const hx hb dX0_bounds_58 ?_
    refine z_calli (wr := [zO xo xr (((24 : Nat) : Int)), zL xr dJ 4096 (g1), zO wo wr (((24 : Nat) : Int)), zL wr dJ 4096 (zmk sL sx)]) (wo := (fun _ : Unit => [zO xo xr (((24 : Nat) : Int)), zL xr dJ 4096 (g1), zO wo wr (((24 : Nat) : Int)), zL wr dJ 4096 (zmk sL sx)])) (z_runX (n := 2) (rest := [.ref xo]) S (met_cell l D dJ dI sb sL sx hL (0) (0) (by omega) (by omega)) (lw_S q88 q89 q2 q90) rfl rfl (by decide +kernel) ⟨Nat.le_of_ble_eq_true rfl, Nat.le_of_ble_eq_true rfl⟩ hw hX hbl hbA rfl hl.1 rfl (Nat.le_of_ble_eq_true rfl) dX0_bounds_59 ⟨Nat.le_of_ble_eq_true rfl, Nat.le_of_ble_eq_true rfl⟩) hw [] [0, 1, 2, 3] rfl rfl rfl (by decide) [0, 1, 2, 3] rfl (fun _ => rfl) (fun v9 _ H locs hp hw => ?_)
    subst hp
    refine lv_aload_n hx hb dX0_bounds_62 rfl (lv_at hl 4 rfl) ?_
    refine zi_const hx hb dX0_bounds_63 ?_
    refine z_calli (wr := [zO xo xr (((24 : Nat) : Int)), zL xr dJ 4096 (g1), zO wo wr (((24 : Nat) : Int)), zL wr dJ 4096 (zmk sL sx)]) (wo := (fun _ : Unit => [zO xo xr (((24 : Nat) : Int)), zL xr dJ 4096 (g1), zO wo wr (((24 : Nat) : Int)), zL wr dJ 4096 (zmk sL sx)])) (z_runX (n := 2) (rest := [.int (zcell sL sx (0)), .ref xo]) S (met_cell l D dJ dI sb sL sx hL (1) (1) (by omega) (by omega)) (lw_S q88 q89 q2 q90) rfl rfl (by decide +kernel) ⟨Nat.le_of_ble_eq_true rfl, Nat.le_of_ble_eq_true rfl⟩ hw hX hbl hbA rfl hl.1 rfl (Nat.le_of_ble_eq_true rfl) dX0_bounds_64 ⟨Nat.le_of_ble_eq_true rfl, Nat.le_of_ble_eq_true rfl⟩) hw [] [0, 1, 2, 3] rfl rfl rfl (by decide) [0, 1, 2, 3] rfl (fun _ => rfl) (fun v9 _ H locs hp hw => ?_)
    subst hp
    refine z_calli (wr := [zO wo wr (((24 : Nat) : Int)), zL wr dJ 4096 (zmk sL sx)]) (wo := (fun g2 : Nat → Int64 => [zO xo xr (((24 : Nat) : Int)), zL xr dJ 4096 (g2), zO wo wr (((24 : Nat) : Int)), zL wr dJ 4096 (zmk sL sx)])) (z_runV (n := 2) (rest := []) S (met_dmerge l D dJ dI xo xr 24 fr c9 (g1) (zcell sL sx (0)) (zcell sL sx (1)) (by omega) (hfr) (hc2)) (lw_V q45 q46 q47 q3 q48) rfl rfl (by decide +kernel) ⟨Nat.le_of_ble_eq_true rfl, Nat.le_of_ble_eq_true rfl⟩ hw [0, 1] rfl rfl 0 rfl rfl hl.1 rfl (Nat.le_of_ble_eq_true rfl) dX0_bounds_67 ⟨Nat.le_of_ble_eq_true rfl, Nat.le_of_ble_eq_true rfl⟩) hw [0, 1] [2, 3] rfl rfl rfl (by decide) [2, 3, 0, 1] rfl (fun _ => rfl) (fun v9 g2 H locs hp hw => ?_)
    obtain ⟨hp0, hpg2, -⟩ := hp
    subst hp0
    refine W.widen (k := 5) (n := 8220) (Nat.le_of_ble_eq_true rfl) (Nat.le_of_ble_eq_true rfl) ?_
    refine lv_iload hx hb dX0_bounds_70 (lv_at hl 0 rfl) ?_
    refine zi_icmp_ne (tgt := 120) hx hb dX0_bounds_72 (by decide) (by omega) (by omega) (fun c_72 => ?_) (fun c_72 => ?_)
    · exact absurd c_72 (by omega)
    · refine lv_aload_n hx hb dX0_bounds_75 rfl (lv_at hl 3 rfl) ?_
      refine lv_aload_n hx hb dX0_bounds_76 rfl (lv_at hl 4 rfl) ?_
      refine zi_const hx hb dX0_bounds_77 ?_
      refine z_calli (wr := [zO xo xr (((24 : Nat) : Int)), zL xr dJ 4096 (g2), zO wo wr (((24 : Nat) : Int)), zL wr dJ 4096 (zmk sL sx)]) (wo := (fun _ : Unit => [zO xo xr (((24 : Nat) : Int)), zL xr dJ 4096 (g2), zO wo wr (((24 : Nat) : Int)), zL wr dJ 4096 (zmk sL sx)])) (z_runX (n := 2) (rest := [.ref xo]) S (met_cell l D dJ dI sb sL sx hL (0) (0) (by omega) (by omega)) (lw_S q88 q89 q2 q90) rfl rfl (by decide +kernel) ⟨Nat.le_of_ble_eq_true rfl, Nat.le_of_ble_eq_true rfl⟩ hw hX hbl hbA rfl hl.1 rfl (Nat.le_of_ble_eq_true rfl) dX0_bounds_78 ⟨Nat.le_of_ble_eq_true rfl, Nat.le_of_ble_eq_true rfl⟩) hw [] [0, 1, 2, 3] rfl rfl rfl (by decide) [0, 1, 2, 3] rfl (fun _ => rfl) (fun v9 _ H locs hp hw => ?_)
      subst hp
      refine lv_aload_n hx hb dX0_bounds_81 rfl (lv_at hl 4 rfl) ?_
      refine zi_const hx hb dX0_bounds_82 ?_
      refine z_calli (wr := [zO xo xr (((24 : Nat) : Int)), zL xr dJ 4096 (g2), zO wo wr (((24 : Nat) : Int)), zL wr dJ 4096 (zmk sL sx)]) (wo := (fun _ : Unit => [zO xo xr (((24 : Nat) : Int)), zL xr dJ 4096 (g2), zO wo wr (((24 : Nat) : Int)), zL wr dJ 4096 (zmk sL sx)])) (z_runX (n := 2) (rest := [.int (zcell sL sx (0)), .ref xo]) S (met_cell l D dJ dI sb sL sx hL (1) (1) (by omega) (by omega)) (lw_S q88 q89 q2 q90) rfl rfl (by decide +kernel) ⟨Nat.le_of_ble_eq_true rfl, Nat.le_of_ble_eq_true rfl⟩ hw hX hbl hbA rfl hl.1 rfl (Nat.le_of_ble_eq_true rfl) dX0_bounds_83 ⟨Nat.le_of_ble_eq_true rfl, Nat.le_of_ble_eq_true rfl⟩) hw [] [0, 1, 2, 3] rfl rfl rfl (by decide) [0, 1, 2, 3] rfl (fun _ => rfl) (fun v9 _ H locs hp hw => ?_)
      subst hp
      refine z_calli (wr := [zO wo wr (((24 : Nat) : Int)), zL wr dJ 4096 (zmk sL sx)]) (wo := (fun g3 : Nat → Int64 => [zO xo xr (((24 : Nat) : Int)), zL xr dJ 4096 (g3), zO wo wr (((24 : Nat) : Int)), zL wr dJ 4096 (zmk sL sx)])) (z_runV (n := 2) (rest := []) S (met_dradix l D dJ dI xo xr 24 fr c9 (g2) (zcell sL sx (0)) (zcell sL sx (1)) (by omega) (hfr) (hc2)) (lw_V q75 q76 q77 q3 q78) rfl rfl (by decide +kernel) ⟨Nat.le_of_ble_eq_true rfl, Nat.le_of_ble_eq_true rfl⟩ hw [0, 1] rfl rfl 0 rfl rfl hl.1 rfl (Nat.le_of_ble_eq_true rfl) dX0_bounds_86 ⟨Nat.le_of_ble_eq_true rfl, Nat.le_of_ble_eq_true rfl⟩) hw [0, 1] [2, 3] rfl rfl rfl (by decide) [2, 3, 0, 1] rfl (fun _ => rfl) (fun v9 g3 H locs hp hw => ?_)
      obtain ⟨hp0, hpg3, -⟩ := hp
      subst hp0
      refine W.widen (k := 10) (n := 14090) (Nat.le_of_ble_eq_true rfl) (Nat.le_of_ble_eq_true rfl) ?_
      refine lv_iload hx hb dX0_bounds_89 (lv_at hl 0 rfl) ?_
      refine zi_icmp_ne (tgt := 120) hx hb dX0_bounds_91 (by decide) (by omega) (by omega) (fun c_91 => ?_) (fun c_91 => ?_)
      · exact absurd c_91 (by omega)
      · refine lv_aload_n hx hb dX0_bounds_94 rfl (lv_at hl 3 rfl) ?_
        refine lv_bipush (v := zi (24)) hx hb dX0_bounds_95 (by decide +kernel) ?_
        refine lv_aload_n hx hb dX0_bounds_97 rfl (lv_at hl 4 rfl) ?_
        refine zi_const hx hb dX0_bounds_98 ?_
        refine z_calli (wr := [zO xo xr (((24 : Nat) : Int)), zL xr dJ 4096 (g3), zO wo wr (((24 : Nat) : Int)), zL wr dJ 4096 (zmk sL sx)]) (wo := (fun _ : Unit => [zO xo xr (((24 : Nat) : Int)), zL xr dJ 4096 (g3), zO wo wr (((24 : Nat) : Int)), zL wr dJ 4096 (zmk sL sx)])) (z_runX (n := 2) (rest := [.int (zi (24)), .ref xo]) S (met_cell l D dJ dI sb sL sx hL (1) (1) (by omega) (by omega)) (lw_S q88 q89 q2 q90) rfl rfl (by decide +kernel) ⟨Nat.le_of_ble_eq_true rfl, Nat.le_of_ble_eq_true rfl⟩ hw hX hbl hbA rfl hl.1 rfl (Nat.le_of_ble_eq_true rfl) dX0_bounds_99 ⟨Nat.le_of_ble_eq_true rfl, Nat.le_of_ble_eq_true rfl⟩) hw [] [0, 1, 2, 3] rfl rfl rfl (by decide) [0, 1, 2, 3] rfl (fun _ => rfl) (fun v9 _ H locs hp hw => ?_)
        subst hp
        refine z_calli (wr := [zO wo wr (((24 : Nat) : Int)), zL wr dJ 4096 (zmk sL sx)]) (wo := (fun g4 : Nat → Int64 => [zO xo xr (((24 : Nat) : Int)), zL xr dJ 4096 (g4), zO wo wr (((24 : Nat) : Int)), zL wr dJ 4096 (zmk sL sx)])) (z_runV (n := 2) (rest := []) S (met_dquick l D dJ dI xo xr 24 24 0 (g3) (zi (24)) (zcell sL sx (1)) (by omega) (by decide +kernel) ((Nat.mod_one _).symm)) (lw_V q9 q10 q11 q3 q12) rfl rfl (by decide +kernel) ⟨Nat.le_of_ble_eq_true rfl, Nat.le_of_ble_eq_true rfl⟩ hw [0, 1] rfl rfl 0 rfl rfl hl.1 rfl (Nat.le_of_ble_eq_true rfl) dX0_bounds_102 ⟨Nat.le_of_ble_eq_true rfl, Nat.le_of_ble_eq_true rfl⟩) hw [0, 1] [2, 3] rfl rfl rfl (by decide) [2, 3, 0, 1] rfl (fun _ => rfl) (fun v9 g4 H locs hp hw => ?_)
        obtain ⟨hp0, hpg4, -⟩ := hp
        subst hp0
        refine zi_if_ne (tgt := 120) hx hb dX0_bounds_105 (by decide) (by omega) (fun c_105 => ?_) (fun c_105 => ?_)
        · exact absurd c_105 (by omega)
        · refine lv_aload_n hx hb dX0_bounds_108 rfl (lv_at hl 3 rfl) ?_
          refine lv_iload_n hx hb dX0_bounds_109 rfl (lv_at hl 1 rfl) ?_
          refine lv_bipush (v := zi (25)) hx hb dX0_bounds_110 (by decide +kernel) ?_
          refine lv_iload_n hx hb dX0_bounds_112 rfl (lv_at hl 1 rfl) ?_
          refine zi_sub (r := ((25 - fr : Nat) : Int)) hx hb dX0_bounds_113 (by omega) ?_
          refine z_calli (wr := [zO wo wr (((24 : Nat) : Int)), zL wr dJ 4096 (zmk sL sx)]) (wo := (fun g5 : Nat → Int64 => [zO xo xr (((24 : Nat) : Int)), zL xr dJ 4096 (g5), zO wo wr (((24 : Nat) : Int)), zL wr dJ 4096 (zmk sL sx)])) (z_runV (n := 2) (rest := []) S (met_dradix l D dJ dI xo xr 24 fr 0 (g4) (zi (((fr : Nat) : Int))) (zi (((25 - fr : Nat) : Int))) (by omega) (by
            rw [zlo_zi (k := fr) rfl (by omega)]
            exact (Nat.mod_eq_of_lt (by omega)).symm) (by
            rw [zlo_zi (k := 25 - fr) rfl (by omega), show 24 - fr + 1 = 25 - fr by omega, Nat.mod_self])) (lw_V q75 q76 q77 q3 q78) rfl rfl (by decide +kernel) ⟨Nat.le_of_ble_eq_true rfl, Nat.le_of_ble_eq_true rfl⟩ hw [0, 1] rfl rfl 0 rfl rfl hl.1 rfl (Nat.le_of_ble_eq_true rfl) dX0_bounds_114 ⟨Nat.le_of_ble_eq_true rfl, Nat.le_of_ble_eq_true rfl⟩) hw [0, 1] [2, 3] rfl rfl rfl (by decide) [2, 3, 0, 1] rfl (fun _ => rfl) (fun v9 g5 H locs hp hw => ?_)
          obtain ⟨hp0, hpg5, -⟩ := hp
          subst hp0
          refine W.widen (k := 15) (n := 19960) (Nat.le_of_ble_eq_true rfl) (Nat.le_of_ble_eq_true rfl) ?_
          refine zi_if_eq (tgt := 122) hx hb dX0_bounds_117 (by decide) (by omega) (fun c_117 => ?_) (fun c_117 => ?_)
          · refine zi_const hx hb dX0_bounds_122 ?_
            refine lv_istore (lv' := [(5, .int (zi (0))), (4, .int (zi (((c9 : Nat) : Int)))), (3, .int (zi (((fr : Nat) : Int)))), (2, .ref wo), (1, .ref xo), (0, .ref sb)]) hx hb dX0_bounds_123 hl (by decide) rfl (fun ls hl => ?_)
            have hj : ∀ j, (j < fr ∨ fr + c9 ≤ j) → g5 j = zmk sL sx j := fun j q => by
              rw [hpg5.1 j (by omega), hpg4.1 j (by omega), hpg3.1 j q, hpg2.1 j q, hpg1.1 j q]
            refine lp_b1 S (by omega) (by omega) hj (fun H locs ls hw hl => ?_) 25 0 _ H locs ls (by omega) (by omega) rfl hw (lv_sub hl [5, 4, 3, 2, 1, 0] rfl)
            refine zi_const hx hb dX0_bounds_171 ?_
            refine lv_istore (lv' := [(5, .int (zi (0))), (0, .ref sb), (1, .ref xo), (2, .ref wo)]) hx hb dX0_bounds_172 hl (by decide) rfl (fun ls hl => ?_)
            refine lp_b2 S (fun g H locs ls hlast hw hl => ?_) 16 0 g5 _ _ H locs ls (by omega) (by omega) rfl rfl (fun h => absurd h (Nat.lt_irrefl 0)) hw (lv_sub hl [1, 2, 3, 0] rfl)
            have e14 : (g 3863).toInt = ((255000779 : Int64)).toInt := by
              rw [hlast]
              decide +kernel
            have h231 : zlo (zi (231)) % 257 = 231 := by decide +kernel
            refine lv_aload_n hx hb dX0_bounds_206 rfl (lv_at hl 1 rfl) ?_
            refine lv_sipush (v := zi (3863)) hx hb dX0_bounds_207 (by decide +kernel) ?_
            refine z_calll (wr := [zO wo wr (24), zL wr dJ 4096 (zmk sL sx)]) (wo := (fun _ : Unit => [zO xo xr (3864), zL xr dJ 4096 (g), zO wo wr (24), zL wr dJ 4096 (zmk sL sx)])) (z_runV (n := 1) (rest := []) S (met_row l D dJ dI xo xr (3864) (g) (zi (3863)) (by omega) (by omega)) (lw_V q84 q85 q86 q3 q87) rfl rfl (by decide +kernel) ⟨Nat.le_of_ble_eq_true rfl, Nat.le_of_ble_eq_true rfl⟩ hw [0, 1] rfl rfl 0 rfl rfl hl.1 rfl (Nat.le_of_ble_eq_true rfl) dX0_bounds_210 ⟨Nat.le_of_ble_eq_true rfl, Nat.le_of_ble_eq_true rfl⟩) hw [0, 1] [2, 3] rfl rfl rfl (by decide) [2, 3, 0, 1] rfl (fun _ => rfl) (fun v9 _ H locs hp hw => ?_)
            have e9 : zlo (zi (3863)) % (3864) = 3863 := by decide +kernel
            rw [e9] at hp
            subst hp
            clear e9
            refine lv_ldc2 (v := 255000779) hx hb hown (hts _ q145) dX0_bounds_213 ?_
            refine zl_cmp hx hb dX0_bounds_216 ?_
            have hz_216_1 := zcz_spec ((g) (3863)) (255000779)
            refine zi_if_ne (tgt := 236) hx hb dX0_bounds_217 (by decide) (by omega) (fun c_217 => ?_) (fun c_217 => ?_)
            · exact absurd c_217 (by omega)
            · refine lv_aload_n hx hb dX0_bounds_220 rfl (lv_at hl 1 rfl) ?_
              refine lv_sipush (v := zi (231)) hx hb dX0_bounds_221 (by decide +kernel) ?_
              refine zi_const hx hb dX0_bounds_224 ?_
              refine zi_const hx hb dX0_bounds_225 ?_
              refine zi_const hx hb dX0_bounds_226 ?_
              refine z_calli (wr := [zO wo wr (24), zL wr dJ 4096 (zmk sL sx)]) (wo := (fun g6 : Nat → Int64 => [zO xo xr (4095), zL xr dJ 4096 (g6), zO wo wr (24), zL wr dJ 4096 (zmk sL sx)])) (z_runV (n := 4) (rest := []) S (met_ramp l D dJ dI xo xr (3864) (231) (g) (zi (231)) (zi (0)) (zi (0)) (zi (1)) (by omega) (by have := h231; omega)) (lw_V q122 q123 q124 q3 q125) rfl rfl (by decide +kernel) ⟨Nat.le_of_ble_eq_true rfl, Nat.le_of_ble_eq_true rfl⟩ hw [0, 1] rfl rfl 0 rfl rfl hl.1 rfl (Nat.le_of_ble_eq_true rfl) dX0_bounds_227 ⟨Nat.le_of_ble_eq_true rfl, Nat.le_of_ble_eq_true rfl⟩) hw [0, 1] [2, 3] rfl rfl rfl (by decide) [2, 3, 0, 1] rfl (fun _ => rfl) (fun v9 g6 H locs hp hw => ?_)
              obtain ⟨hp0, hag6, hbg6⟩ := hp
              subst hp0
              refine lv_sipush (v := zi (231)) hx hb dX0_bounds_230 (by decide +kernel) ?_
              refine zi_icmp_eq (tgt := 238) hx hb dX0_bounds_233 (by decide) (by omega) (by omega) (fun c_233 => ?_) (fun c_233 => ?_)
              · refine lv_aload_n hx hb dX0_bounds_238 rfl (lv_at hl 1 rfl) ?_
                refine zi_const hx hb dX0_bounds_239 ?_
                refine lv_bipush (v := zi (6)) hx hb dX0_bounds_240 (by decide +kernel) ?_
                refine z_calli (wr := [zO wo wr (24), zL wr dJ 4096 (zmk sL sx)]) (wo := (fun _ : Unit => [zO xo xr (4096), zL xr dJ 4096 (vp_updL g6 4095 (zwide (zi (5)) (zi (6)))), zO wo wr (24), zL wr dJ 4096 (zmk sL sx)])) (z_runV (n := 2) (rest := []) S (met_put l D dJ dI xo xr 4095 (g6) (zi (5)) (zi (6)) (by omega)) (lw_V q108 q109 q110 q3 q111) rfl rfl (by decide +kernel) ⟨Nat.le_of_ble_eq_true rfl, Nat.le_of_ble_eq_true rfl⟩ hw [0, 1] rfl rfl 0 rfl rfl hl.1 rfl (Nat.le_of_ble_eq_true rfl) dX0_bounds_242 ⟨Nat.le_of_ble_eq_true rfl, Nat.le_of_ble_eq_true rfl⟩) hw [0, 1] [2, 3] rfl rfl rfl (by decide) [2, 3, 0, 1] rfl (fun _ => rfl) (fun v9 _ H locs hp hw => ?_)
                subst hp
                refine zi_if_eq (tgt := 298) hx hb dX0_bounds_245 (by decide) (by omega) (fun c_245 => ?_) (fun c_245 => ?_)
                · exact absurd c_245 (by omega)
                · refine lv_aload_n hx hb dX0_bounds_248 rfl (lv_at hl 1 rfl) ?_
                  refine lv_sipush (v := zi (4095)) hx hb dX0_bounds_249 (by decide +kernel) ?_
                  refine z_calll (wr := [zO wo wr (24), zL wr dJ 4096 (zmk sL sx)]) (wo := (fun _ : Unit => [zO xo xr (4096), zL xr dJ 4096 (vp_updL g6 4095 (zwide (zi (5)) (zi (6)))), zO wo wr (24), zL wr dJ 4096 (zmk sL sx)])) (z_runV (n := 1) (rest := []) S (met_row l D dJ dI xo xr (4096) (vp_updL g6 4095 (zwide (zi (5)) (zi (6)))) (zi (4095)) (by omega) (by omega)) (lw_V q84 q85 q86 q3 q87) rfl rfl (by decide +kernel) ⟨Nat.le_of_ble_eq_true rfl, Nat.le_of_ble_eq_true rfl⟩ hw [0, 1] rfl rfl 0 rfl rfl hl.1 rfl (Nat.le_of_ble_eq_true rfl) dX0_bounds_252 ⟨Nat.le_of_ble_eq_true rfl, Nat.le_of_ble_eq_true rfl⟩) hw [0, 1] [2, 3] rfl rfl rfl (by decide) [2, 3, 0, 1] rfl (fun _ => rfl) (fun v9 _ H locs hp hw => ?_)
                  have e9 : zlo (zi (4095)) % (4096) = 4095 := by decide +kernel
                  rw [e9] at hp
                  subst hp
                  clear e9
                  refine lv_ldc2 (v := 21474836486) hx hb hown (hts _ q146) dX0_bounds_255 ?_
                  have e6 : (vp_updL g6 4095 (zwide (zi (5)) (zi (6))) 4095).toInt = ((21474836486 : Int64)).toInt := by
                    rw [pk_uLs]
                    decide +kernel
                  refine zl_cmp hx hb dX0_bounds_258 ?_
                  have hz_258_5 := zcz_spec ((vp_updL g6 4095 (zwide (zi (5)) (zi (6)))) (4095)) (21474836486)
                  refine zi_if_ne (tgt := 298) hx hb dX0_bounds_259 (by decide) (by omega) (fun c_259 => ?_) (fun c_259 => ?_)
                  · exact absurd c_259 (by omega)
                  · refine lv_aload_n hx hb dX0_bounds_262 rfl (lv_at hl 1 rfl) ?_
                    refine zi_const hx hb dX0_bounds_263 ?_
                    refine zi_const hx hb dX0_bounds_264 ?_
                    refine z_calli (wr := [zO wo wr (24), zL wr dJ 4096 (zmk sL sx)]) (wo := (fun _ : Unit => [zO xo xr (4096), zL xr dJ 4096 (vp_updL g6 4095 (zwide (zi (5)) (zi (6)))), zO wo wr (24), zL wr dJ 4096 (zmk sL sx)])) (z_runV (n := 2) (rest := []) S (met_putF l D dJ dI xo xr 4096 (vp_updL g6 4095 (zwide (zi (5)) (zi (6)))) (zi (1)) (zi (1)) rfl) (lw_V q108 q109 q110 q3 q111) rfl rfl (by decide +kernel) ⟨Nat.le_of_ble_eq_true rfl, Nat.le_of_ble_eq_true rfl⟩ hw [0, 1] rfl rfl 0 rfl rfl hl.1 rfl (Nat.le_of_ble_eq_true rfl) dX0_bounds_265 ⟨Nat.le_of_ble_eq_true rfl, Nat.le_of_ble_eq_true rfl⟩) hw [0, 1] [2, 3] rfl rfl rfl (by decide) [2, 3, 0, 1] rfl (fun _ => rfl) (fun v9 _ H locs hp hw => ?_)
                    subst hp
                    refine zi_if_ne (tgt := 298) hx hb dX0_bounds_268 (by decide) (by omega) (fun c_268 => ?_) (fun c_268 => ?_)
                    · exact absurd c_268 (by omega)
                    · refine lv_aload_n hx hb dX0_bounds_271 rfl (lv_at hl 1 rfl) ?_
                      refine lv_sipush (v := zi (256)) hx hb dX0_bounds_272 (by decide +kernel) ?_
                      refine zi_const hx hb dX0_bounds_275 ?_
                      refine zi_const hx hb dX0_bounds_276 ?_
                      refine zi_const hx hb dX0_bounds_277 ?_
                      refine z_calli (wr := [zO wo wr (24), zL wr dJ 4096 (zmk sL sx)]) (wo := (fun g7 : Nat → Int64 => [zO xo xr (4096), zL xr dJ 4096 (g7), zO wo wr (24), zL wr dJ 4096 (zmk sL sx)])) (z_runV (n := 4) (rest := []) S (met_ramp l D dJ dI xo xr (4096) (0) (vp_updL g6 4095 (zwide (zi (5)) (zi (6)))) (zi (256)) (zi (0)) (zi (0)) (zi (1)) (by omega) (by omega)) (lw_V q122 q123 q124 q3 q125) rfl rfl (by decide +kernel) ⟨Nat.le_of_ble_eq_true rfl, Nat.le_of_ble_eq_true rfl⟩ hw [0, 1] rfl rfl 0 rfl rfl hl.1 rfl (Nat.le_of_ble_eq_true rfl) dX0_bounds_278 ⟨Nat.le_of_ble_eq_true rfl, Nat.le_of_ble_eq_true rfl⟩) hw [0, 1] [2, 3] rfl rfl rfl (by decide) [2, 3, 0, 1] rfl (fun _ => rfl) (fun v9 g7 H locs hp hw => ?_)
                      obtain ⟨hp0, hag7, hbg7⟩ := hp
                      subst hp0
                      refine zi_if_ne (tgt := 298) hx hb dX0_bounds_281 (by decide) (by omega) (fun c_281 => ?_) (fun c_281 => ?_)
                      · exact absurd c_281 (by omega)
                      · refine lv_aload_n hx hb dX0_bounds_284 rfl (lv_at hl 1 rfl) ?_
                        refine lv_sipush (v := zi (4095)) hx hb dX0_bounds_285 (by decide +kernel) ?_
                        refine z_calll (wr := [zO wo wr (24), zL wr dJ 4096 (zmk sL sx)]) (wo := (fun _ : Unit => [zO xo xr (4096), zL xr dJ 4096 (g7), zO wo wr (24), zL wr dJ 4096 (zmk sL sx)])) (z_runV (n := 1) (rest := []) S (met_row l D dJ dI xo xr (4096) (g7) (zi (4095)) (by omega) (by omega)) (lw_V q84 q85 q86 q3 q87) rfl rfl (by decide +kernel) ⟨Nat.le_of_ble_eq_true rfl, Nat.le_of_ble_eq_true rfl⟩ hw [0, 1] rfl rfl 0 rfl rfl hl.1 rfl (Nat.le_of_ble_eq_true rfl) dX0_bounds_288 ⟨Nat.le_of_ble_eq_true rfl, Nat.le_of_ble_eq_true rfl⟩) hw [0, 1] [2, 3] rfl rfl rfl (by decide) [2, 3, 0, 1] rfl (fun _ => rfl) (fun v9 _ H locs hp hw => ?_)
                        have e9 : zlo (zi (4095)) % (4096) = 4095 := by decide +kernel
                        rw [e9] at hp
                        subst hp
                        clear e9
                        refine lv_ldc2 (v := 21474836486) hx hb hown (hts _ q146) dX0_bounds_291 ?_
                        have e7 : (g7 4095).toInt = ((21474836486 : Int64)).toInt := by
                          rw [hbg7 4095 (Or.inl (by omega))]
                          exact e6
                        refine zl_cmp hx hb dX0_bounds_294 ?_
                        have hz_294_9 := zcz_spec ((g7) (4095)) (21474836486)
                        refine zi_if_eq (tgt := 300) hx hb dX0_bounds_295 (by decide) (by omega) (fun c_295 => ?_) (fun c_295 => ?_)
                        · refine lv_aload_n hx hb dX0_bounds_300 rfl (lv_at hl 1 rfl) ?_
                          refine z_callv (wr := [zO wo wr (24), zL wr dJ 4096 (zmk sL sx)]) (wo := (fun _ : Unit => [zO xo xr (0), zL xr dJ 4096 (g7), zO wo wr (24), zL wr dJ 4096 (zmk sL sx)])) (z_runV (n := 0) (rest := []) S (met_empty l D dJ dI xo xr 4096 (g7)) (lw_V q147 q148 q149 q3 q150) rfl rfl (by decide +kernel) ⟨Nat.le_of_ble_eq_true rfl, Nat.le_of_ble_eq_true rfl⟩ hw [0, 1] rfl rfl 0 rfl rfl hl.1 rfl (Nat.le_of_ble_eq_true rfl) dX0_bounds_301 ⟨Nat.le_of_ble_eq_true rfl, Nat.le_of_ble_eq_true rfl⟩) hw [0, 1] [2, 3] rfl rfl rfl (by decide) [2, 3, 0, 1] rfl (fun _ => rfl) (fun _ H locs hp hw => ?_)
                          refine lv_aload_n hx hb dX0_bounds_304 rfl (lv_at hl 1 rfl) ?_
                          refine lv_aload_n hx hb dX0_bounds_305 rfl (lv_at hl 0 rfl) ?_
                          refine zi_const hx hb dX0_bounds_306 ?_
                          refine z_calli (wr := [zO xo xr (0), zL xr dJ 4096 (g7), zO wo wr (24), zL wr dJ 4096 (zmk sL sx)]) (wo := (fun _ : Unit => [zO xo xr (0), zL xr dJ 4096 (g7), zO wo wr (24), zL wr dJ 4096 (zmk sL sx)])) (z_runX (n := 2) (rest := [.ref xo]) S (met_cell l D dJ dI sb sL sx hL (2) (2) (by omega) (by omega)) (lw_S q88 q89 q2 q90) rfl rfl (by decide +kernel) ⟨Nat.le_of_ble_eq_true rfl, Nat.le_of_ble_eq_true rfl⟩ hw hX hbl hbA rfl hl.1 rfl (Nat.le_of_ble_eq_true rfl) dX0_bounds_307 ⟨Nat.le_of_ble_eq_true rfl, Nat.le_of_ble_eq_true rfl⟩) hw [] [0, 1, 2, 3] rfl rfl rfl (by decide) [0, 1, 2, 3] rfl (fun _ => rfl) (fun v9 _ H locs hp hw => ?_)
                          subst hp
                          refine z_calll (wr := [zO wo wr (24), zL wr dJ 4096 (zmk sL sx)]) (wo := (fun _ : Unit => [zO xo xr (0), zL xr dJ 4096 (g7), zO wo wr (24), zL wr dJ 4096 (zmk sL sx)])) (z_runV (n := 1) (rest := []) S (met_row0 l D dJ dI xo xr (g7) (zcell sL sx (2))) (lw_V q84 q85 q86 q3 q87) rfl rfl (by decide +kernel) ⟨Nat.le_of_ble_eq_true rfl, Nat.le_of_ble_eq_true rfl⟩ hw [0, 1] rfl rfl 0 rfl rfl hl.1 rfl (Nat.le_of_ble_eq_true rfl) dX0_bounds_310 ⟨Nat.le_of_ble_eq_true rfl, Nat.le_of_ble_eq_true rfl⟩) hw [0, 1] [2, 3] rfl rfl rfl (by decide) [2, 3, 0, 1] rfl (fun _ => rfl) (fun v9 _ H locs hp hw => ?_)
                          subst hp
                          refine lv_lconst (v := 0) hx hb dX0_bounds_313 rfl ?_
                          refine zl_cmp hx hb dX0_bounds_314 ?_
                          have hz_314_11 := zcz_spec (0) (0)
                          refine zi_if_ne (tgt := 361) hx hb dX0_bounds_315 (by decide) (by omega) (fun c_315 => ?_) (fun c_315 => ?_)
                          · exact absurd c_315 (by omega)
                          · refine lv_aload_n hx hb dX0_bounds_318 rfl (lv_at hl 1 rfl) ?_
                            refine lv_aload_n hx hb dX0_bounds_319 rfl (lv_at hl 0 rfl) ?_
                            refine zi_const hx hb dX0_bounds_320 ?_
                            refine z_calli (wr := [zO xo xr (0), zL xr dJ 4096 (g7), zO wo wr (24), zL wr dJ 4096 (zmk sL sx)]) (wo := (fun _ : Unit => [zO xo xr (0), zL xr dJ 4096 (g7), zO wo wr (24), zL wr dJ 4096 (zmk sL sx)])) (z_runX (n := 2) (rest := [.ref xo]) S (met_cell l D dJ dI sb sL sx hL (0) (0) (by omega) (by omega)) (lw_S q88 q89 q2 q90) rfl rfl (by decide +kernel) ⟨Nat.le_of_ble_eq_true rfl, Nat.le_of_ble_eq_true rfl⟩ hw hX hbl hbA rfl hl.1 rfl (Nat.le_of_ble_eq_true rfl) dX0_bounds_321 ⟨Nat.le_of_ble_eq_true rfl, Nat.le_of_ble_eq_true rfl⟩) hw [] [0, 1, 2, 3] rfl rfl rfl (by decide) [0, 1, 2, 3] rfl (fun _ => rfl) (fun v9 _ H locs hp hw => ?_)
                            subst hp
                            refine lv_aload_n hx hb dX0_bounds_324 rfl (lv_at hl 0 rfl) ?_
                            refine zi_const hx hb dX0_bounds_325 ?_
                            refine z_calli (wr := [zO xo xr (0), zL xr dJ 4096 (g7), zO wo wr (24), zL wr dJ 4096 (zmk sL sx)]) (wo := (fun _ : Unit => [zO xo xr (0), zL xr dJ 4096 (g7), zO wo wr (24), zL wr dJ 4096 (zmk sL sx)])) (z_runX (n := 2) (rest := [.int (zcell sL sx (0)), .ref xo]) S (met_cell l D dJ dI sb sL sx hL (1) (1) (by omega) (by omega)) (lw_S q88 q89 q2 q90) rfl rfl (by decide +kernel) ⟨Nat.le_of_ble_eq_true rfl, Nat.le_of_ble_eq_true rfl⟩ hw hX hbl hbA rfl hl.1 rfl (Nat.le_of_ble_eq_true rfl) dX0_bounds_326 ⟨Nat.le_of_ble_eq_true rfl, Nat.le_of_ble_eq_true rfl⟩) hw [] [0, 1, 2, 3] rfl rfl rfl (by decide) [0, 1, 2, 3] rfl (fun _ => rfl) (fun v9 _ H locs hp hw => ?_)
                            subst hp
                            refine z_calli (wr := [zO wo wr (24), zL wr dJ 4096 (zmk sL sx)]) (wo := (fun g8 : Nat → Int64 => [zO xo xr (0), zL xr dJ 4096 (g8), zO wo wr (24), zL wr dJ 4096 (zmk sL sx)])) (z_runV (n := 2) (rest := []) S (met_dquick l D dJ dI xo xr 0 0 0 (g7) (zcell sL sx (0)) (zcell sL sx (1)) (by omega) ((Nat.mod_one _).symm) ((Nat.mod_one _).symm)) (lw_V q9 q10 q11 q3 q12) rfl rfl (by decide +kernel) ⟨Nat.le_of_ble_eq_true rfl, Nat.le_of_ble_eq_true rfl⟩ hw [0, 1] rfl rfl 0 rfl rfl hl.1 rfl (Nat.le_of_ble_eq_true rfl) dX0_bounds_329 ⟨Nat.le_of_ble_eq_true rfl, Nat.le_of_ble_eq_true rfl⟩) hw [0, 1] [2, 3] rfl rfl rfl (by decide) [2, 3, 0, 1] rfl (fun _ => rfl) (fun v9 g8 H locs hp hw => ?_)
                            obtain ⟨hp0, hpg8, -⟩ := hp
                            subst hp0
                            refine zi_if_ne (tgt := 361) hx hb dX0_bounds_332 (by decide) (by omega) (fun c_332 => ?_) (fun c_332 => ?_)
                            · exact absurd c_332 (by omega)
                            · refine lv_aload_n hx hb dX0_bounds_335 rfl (lv_at hl 1 rfl) ?_
                              refine zi_const hx hb dX0_bounds_336 ?_
                              refine lv_bipush (v := zi (9)) hx hb dX0_bounds_337 (by decide +kernel) ?_
                              refine z_calli (wr := [zO wo wr (24), zL wr dJ 4096 (zmk sL sx)]) (wo := (fun _ : Unit => [zO xo xr (1), zL xr dJ 4096 (vp_updL g8 0 (zwide (zi (0)) (zi (9)))), zO wo wr (24), zL wr dJ 4096 (zmk sL sx)])) (z_runV (n := 2) (rest := []) S (met_put l D dJ dI xo xr 0 (g8) (zi (0)) (zi (9)) (by omega)) (lw_V q108 q109 q110 q3 q111) rfl rfl (by decide +kernel) ⟨Nat.le_of_ble_eq_true rfl, Nat.le_of_ble_eq_true rfl⟩ hw [0, 1] rfl rfl 0 rfl rfl hl.1 rfl (Nat.le_of_ble_eq_true rfl) dX0_bounds_339 ⟨Nat.le_of_ble_eq_true rfl, Nat.le_of_ble_eq_true rfl⟩) hw [0, 1] [2, 3] rfl rfl rfl (by decide) [2, 3, 0, 1] rfl (fun _ => rfl) (fun v9 _ H locs hp hw => ?_)
                              subst hp
                              refine zi_if_eq (tgt := 361) hx hb dX0_bounds_342 (by decide) (by omega) (fun c_342 => ?_) (fun c_342 => ?_)
                              · exact absurd c_342 (by omega)
                              · refine lv_aload_n hx hb dX0_bounds_345 rfl (lv_at hl 1 rfl) ?_
                                refine zi_const hx hb dX0_bounds_346 ?_
                                refine z_calll (wr := [zO wo wr (24), zL wr dJ 4096 (zmk sL sx)]) (wo := (fun _ : Unit => [zO xo xr (1), zL xr dJ 4096 (vp_updL g8 0 (zwide (zi (0)) (zi (9)))), zO wo wr (24), zL wr dJ 4096 (zmk sL sx)])) (z_runV (n := 1) (rest := []) S (met_row l D dJ dI xo xr (1) (vp_updL g8 0 (zwide (zi (0)) (zi (9)))) (zi ((-1))) (by omega) (by omega)) (lw_V q84 q85 q86 q3 q87) rfl rfl (by decide +kernel) ⟨Nat.le_of_ble_eq_true rfl, Nat.le_of_ble_eq_true rfl⟩ hw [0, 1] rfl rfl 0 rfl rfl hl.1 rfl (Nat.le_of_ble_eq_true rfl) dX0_bounds_347 ⟨Nat.le_of_ble_eq_true rfl, Nat.le_of_ble_eq_true rfl⟩) hw [0, 1] [2, 3] rfl rfl rfl (by decide) [2, 3, 0, 1] rfl (fun _ => rfl) (fun v9 _ H locs hp hw => ?_)
                                have e9 : zlo (zi ((-1))) % (1) = 0 := Nat.mod_one _
                                rw [e9] at hp
                                subst hp
                                clear e9
                                refine lv_ldc2 (v := 9) hx hb hown (hts _ q151) dX0_bounds_350 ?_
                                have e8 : (vp_updL g8 0 (zwide (zi (0)) (zi (9))) 0).toInt = ((9 : Int64)).toInt := by
                                  rw [pk_uLs]
                                  decide +kernel
                                refine zl_cmp hx hb dX0_bounds_353 ?_
                                have hz_353_15 := zcz_spec ((vp_updL g8 0 (zwide (zi (0)) (zi (9)))) (0)) (9)
                                refine zi_if_ne (tgt := 361) hx hb dX0_bounds_354 (by decide) (by omega) (fun c_354 => ?_) (fun c_354 => ?_)
                                · exact absurd c_354 (by omega)
                                · refine zi_const hx hb dX0_bounds_357 ?_
                                  refine lv_goto (tgt := 362) hx hb dX0_bounds_358 (by decide) ?_
                                  exact z_zret hx hb hr hlocks hw () [] rfl rfl rfl rfl dX0_bounds_362
                        · exact absurd c_295 (by omega)
              · exact absurd c_233 (by omega)
          · exact absurd c_117 (by omega)
end
section
/-! LongSortDeskLaw.law: its loops. Printed by gen/m20.py -/
set_option maxRecDepth 100000
/-- equal to v -/
def zvE (v w : Int64) : Bool := decide (w.toInt = v.toInt)
theorem zv_eq {f : Nat → Int64} {v : Int64} {i : Nat} (h : (f i).toInt = v.toInt) : zs_cn (zvE v) f (i + 1) = zs_cn (zvE v) f i + 1 := by
  rw [zs_cn_s, show zvE v (f i) = true from decide_eq_true h, Bool.toNat_true]
theorem zv_ne {f : Nat → Int64} {v : Int64} {i : Nat} (h : (f i).toInt ≠ v.toInt) : zs_cn (zvE v) f (i + 1) = zs_cn (zvE v) f i := by
  rw [zs_cn_s, show zvE v (f i) = false from decide_eq_false h, Bool.toNat_false, Nat.add_zero]
section ZLAW
variable {p : Program} {l : Launch} {e : Env} {s : State} {m : MethodId} {args : Array Value} {below : List Frame} {meth : Method} {c : Code} {Q : State → Prop} {D : va_G} {dJ dI : ClassId} {A : Nat → Prop}
set_option maxHeartbeats 4000000 in
set_option maxRecDepth 100000 in
/-- the row stands as it was laid -/
theorem lp_w1 {sb wo xo yo zo wr xr yr zr : Nat} {sL fr c9 : Nat} {sx : Nat → Int32} {gx : Nat → Int64} (S : CallFix p m c cL_law 17 s args lw_all RX0) (hL : sL ≤ 50) (hX : va_X sb sL sx s s.heap) (hbl : sb < s.heap.size) (hbA : ¬ A sb) (kx : ∀ (H : Heap) (locs : List Loc) (ls : Array Slot), zW D dJ dI A s [zO wo wr (24), zL wr dJ 4096 (zmk sL sx), zO xo xr (24), zL xr dJ 4096 (gx), zO yo yr (24), zL yr dJ 4096 (gx), zO zo zr (24), zL zr dJ 4096 (gx)] H locs → lv_has ls 17 [(0, .ref sb), (1, .ref wo), (2, .ref xo), (3, .ref yo), (4, .ref zo), (5, .int (zi (24))), (6, .int (zi (((fr : Nat) : Int)))), (7, .int (zi (((c9 : Nat) : Int))))] → W p l e (room_1) s m args below meth c H locs 14 22286 Q (F0 m 162 ls [])) :
    ∀ (N i : Nat) (z8 : Int) (H : Heap) (locs : List Loc) (ls : Array Slot), 24 < i + N → i ≤ 24 → z8 = ((i : Nat) : Int) → zW D dJ dI A s [zO wo wr (24), zL wr dJ 4096 (zmk sL sx), zO xo xr (24), zL xr dJ 4096 (gx), zO yo yr (24), zL yr dJ 4096 (gx), zO zo zr (24), zL zr dJ 4096 (gx)] H locs → lv_has ls 17 [(0, .ref sb), (1, .ref wo), (2, .ref xo), (3, .ref yo), (4, .ref zo), (5, .int (zi (24))), (6, .int (zi (((fr : Nat) : Int)))), (7, .int (zi (((c9 : Nat) : Int)))), (8, .int (zi (z8)))] → W p l e (room_1) s m args below meth c H locs 14 22286 Q (F0 m 107 ls []) := by
  obtain ⟨hx, hb, hml, hown, hts⟩ := id S
  intro N
  induction N with
  | zero =>
    intro i z8 H locs ls h1 h2
    exact absurd h1 (by omega)
  | succ N ih =>
    intro i z8 H locs ls hN hi1 e8 hw hl
    subst e8
    refine lv_iload hx hb dL_law_107 (lv_at hl 8 rfl) ?_
    refine lv_bipush (v := zi (24)) hx hb dL_law_109 (by decide +kernel) ?_
    refine zi_icmp_ge (tgt := 162) hx hb dL_law_111 (by decide) (by omega) (by omega) (fun c_111 => ?_) (fun c_111 => ?_)
    · exact kx H locs ls hw (lv_sub hl [0, 1, 2, 3, 4, 5, 6, 7] rfl)
    · refine lv_aload_n hx hb dL_law_114 rfl (lv_at hl 1 rfl) ?_
      refine lv_iload hx hb dL_law_115 (lv_at hl 8 rfl) ?_
      refine z_calll (wr := [zO xo xr (24), zL xr dJ 4096 (gx), zO yo yr (24), zL yr dJ 4096 (gx), zO zo zr (24), zL zr dJ 4096 (gx)]) (wo := (fun _ : Unit => [zO wo wr (24), zL wr dJ 4096 (zmk sL sx), zO xo xr (24), zL xr dJ 4096 (gx), zO yo yr (24), zL yr dJ 4096 (gx), zO zo zr (24), zL zr dJ 4096 (gx)])) (z_runV (n := 1) (rest := []) S (met_row l D dJ dI wo wr (24) (zmk sL sx) (zi (((i : Nat) : Int))) (by omega) (by omega)) (lw_V q84 q85 q86 q3 q87) rfl rfl (by decide +kernel) ⟨Nat.le_of_ble_eq_true rfl, Nat.le_of_ble_eq_true rfl⟩ hw [0, 1] rfl rfl 0 rfl rfl hl.1 rfl (Nat.le_of_ble_eq_true rfl) dL_law_117 ⟨Nat.le_of_ble_eq_true rfl, Nat.le_of_ble_eq_true rfl⟩) hw [0, 1] [2, 3, 4, 5, 6, 7] rfl rfl rfl (by decide) [6, 7, 0, 1, 2, 3, 4, 5] rfl (fun _ => rfl) (fun v9 _ H locs hp hw => ?_)
      have e9 : zlo (zi (((i : Nat) : Int))) % (24) = i := by rw [zlo_zi (k := i) (by omega) (by omega)]; exact Nat.mod_eq_of_lt (by omega)
      rw [e9] at hp
      subst hp
      clear e9
      refine lv_aload_n hx hb dL_law_120 rfl (lv_at hl 0 rfl) ?_
      refine zi_const hx hb dL_law_121 ?_
      refine zi_const hx hb dL_law_122 ?_
      refine lv_iload hx hb dL_law_123 (lv_at hl 8 rfl) ?_
      refine zi_mul (r := ((2 * i : Nat) : Int)) hx hb dL_law_125 (by omega) ?_
      refine zi_add (r := ((2 + 2 * i : Nat) : Int)) hx hb dL_law_126 (by omega) ?_
      refine z_calli (wr := [zO wo wr (24), zL wr dJ 4096 (zmk sL sx), zO xo xr (24), zL xr dJ 4096 (gx), zO yo yr (24), zL yr dJ 4096 (gx), zO zo zr (24), zL zr dJ 4096 (gx)]) (wo := (fun _ : Unit => [zO wo wr (24), zL wr dJ 4096 (zmk sL sx), zO xo xr (24), zL xr dJ 4096 (gx), zO yo yr (24), zL yr dJ 4096 (gx), zO zo zr (24), zL zr dJ 4096 (gx)])) (z_runX (n := 2) (rest := [.long ((zmk sL sx) (i))]) S (met_cell l D dJ dI sb sL sx hL (((2 + 2 * i : Nat) : Int)) (2 + 2 * i) (by omega) (by omega)) (lw_S q88 q89 q2 q90) rfl rfl (by decide +kernel) ⟨Nat.le_of_ble_eq_true rfl, Nat.le_of_ble_eq_true rfl⟩ hw hX hbl hbA rfl hl.1 rfl (Nat.le_of_ble_eq_true rfl) dL_law_127 ⟨Nat.le_of_ble_eq_true rfl, Nat.le_of_ble_eq_true rfl⟩) hw [] [0, 1, 2, 3, 4, 5, 6, 7] rfl rfl rfl (by decide) [0, 1, 2, 3, 4, 5, 6, 7] rfl (fun _ => rfl) (fun v9 _ H locs hp hw => ?_)
      subst hp
      refine lv_i2l (v := (zcell sL sx (2 + 2 * i)).toInt64) hx hb dL_law_130 rfl ?_
      refine lv_bipush (v := zi (32)) hx hb dL_law_131 (by decide +kernel) ?_
      refine lv_lshl (v := ((zcell sL sx (2 + 2 * i)).toInt64 <<< ((zi (32)).toInt64 &&& 63))) hx hb dL_law_133 rfl ?_
      refine lv_aload_n hx hb dL_law_134 rfl (lv_at hl 0 rfl) ?_
      refine zi_const hx hb dL_law_135 ?_
      refine zi_const hx hb dL_law_136 ?_
      refine lv_iload hx hb dL_law_137 (lv_at hl 8 rfl) ?_
      refine zi_mul (r := ((2 * i : Nat) : Int)) hx hb dL_law_139 (by omega) ?_
      refine zi_add (r := ((3 + 2 * i : Nat) : Int)) hx hb dL_law_140 (by omega) ?_
      refine z_calli (wr := [zO wo wr (24), zL wr dJ 4096 (zmk sL sx), zO xo xr (24), zL xr dJ 4096 (gx), zO yo yr (24), zL yr dJ 4096 (gx), zO zo zr (24), zL zr dJ 4096 (gx)]) (wo := (fun _ : Unit => [zO wo wr (24), zL wr dJ 4096 (zmk sL sx), zO xo xr (24), zL xr dJ 4096 (gx), zO yo yr (24), zL yr dJ 4096 (gx), zO zo zr (24), zL zr dJ 4096 (gx)])) (z_runX (n := 2) (rest := [.long (((zcell sL sx (2 + 2 * i)).toInt64 <<< ((zi (32)).toInt64 &&& 63))), .long ((zmk sL sx) (i))]) S (met_cell l D dJ dI sb sL sx hL (((3 + 2 * i : Nat) : Int)) (2 + 2 * i + 1) (by omega) (by omega)) (lw_S q88 q89 q2 q90) rfl rfl (by decide +kernel) ⟨Nat.le_of_ble_eq_true rfl, Nat.le_of_ble_eq_true rfl⟩ hw hX hbl hbA rfl hl.1 rfl (Nat.le_of_ble_eq_true rfl) dL_law_141 ⟨Nat.le_of_ble_eq_true rfl, Nat.le_of_ble_eq_true rfl⟩) hw [] [0, 1, 2, 3, 4, 5, 6, 7] rfl rfl rfl (by decide) [0, 1, 2, 3, 4, 5, 6, 7] rfl (fun _ => rfl) (fun v9 _ H locs hp hw => ?_)
      subst hp
      refine lv_i2l (v := (zcell sL sx (2 + 2 * i + 1)).toInt64) hx hb dL_law_144 rfl ?_
      refine lv_ldc2 (v := 4294967295) hx hb hown (hts _ q128) dL_law_145 ?_
      refine lv_land hx hb dL_law_148 ?_
      refine lv_lor hx hb dL_law_149 ?_
      have ew : (zmk sL sx i).toInt = ((((zcell sL sx (2 + 2 * i)).toInt64 <<< ((zi (32)).toInt64 &&& 63)) ||| ((zcell sL sx (2 + 2 * i + 1)).toInt64 &&& 4294967295))).toInt := congrArg Int64.toInt (if_pos (by omega))
      refine zl_cmp hx hb dL_law_150 ?_
      have hz_150_2 := zcz_spec ((zmk sL sx) (i)) ((((zcell sL sx (2 + 2 * i)).toInt64 <<< ((zi (32)).toInt64 &&& 63)) ||| ((zcell sL sx (2 + 2 * i + 1)).toInt64 &&& 4294967295)))
      refine zi_if_eq (tgt := 156) hx hb dL_law_151 (by decide) (by omega) (fun c_151 => ?_) (fun c_151 => ?_)
      · refine zi_inc (v := ((i + 1 : Nat) : Int)) (k := 8) (lv' := [(8, .int (zi (((i + 1 : Nat) : Int)))), (0, .ref sb), (1, .ref wo), (2, .ref xo), (3, .ref yo), (4, .ref zo), (5, .int (zi (24))), (6, .int (zi (((fr : Nat) : Int)))), (7, .int (zi (((c9 : Nat) : Int))))]) hx hb dL_law_156 hl rfl (by omega) (by decide) rfl (fun ls hl => ?_)
        refine lv_goto (tgt := 107) hx hb dL_law_159 (by decide) ?_
        exact ih (i + 1) _ H locs ls (by omega) (by omega) rfl hw (lv_sub hl [1, 2, 3, 4, 5, 6, 7, 8, 0] rfl)
      · exact absurd c_151 (by omega)
set_option maxHeartbeats 4000000 in
set_option maxRecDepth 100000 in
/-- how often before, how often after -/
theorem lp_w2 {sb wo xo yo zo wr xr yr zr : Nat} {fr c9 i : Nat} {v : Int64} {f gx : Nat → Int64} (S : CallFix p m c cL_law 17 s args lw_all RX0) (kx : ∀ (bf af : Nat) (H : Heap) (locs : List Loc) (ls : Array Slot), bf ≤ 24 → af ≤ 24 → bf = zs_cn (zvE v) f 24 → af = zs_cn (zvE v) gx 24 → zW D dJ dI A s [zO wo wr (24), zL wr dJ 4096 (f), zO xo xr (24), zL xr dJ 4096 (gx), zO yo yr (24), zL yr dJ 4096 (gx), zO zo zr (24), zL zr dJ 4096 (gx)] H locs → lv_has ls 17 [(0, .ref sb), (1, .ref wo), (2, .ref xo), (3, .ref yo), (4, .ref zo), (5, .int (zi (24))), (6, .int (zi (((fr : Nat) : Int)))), (7, .int (zi (((c9 : Nat) : Int)))), (8, .long (v)), (10, .int (zi (((i : Nat) : Int)))), (11, .long (v)), (14, .int (zi (((bf : Nat) : Int)))), (15, .int (zi (((af : Nat) : Int))))] → W p l e (room_1) s m args below meth c H locs 14 22286 Q (F0 m 331 ls [])) :
    ∀ (N k bf af : Nat) (z14 z15 z16 : Int) (H : Heap) (locs : List Loc) (ls : Array Slot), 24 < k + N → k ≤ 24 → bf ≤ k → af ≤ k → z14 = ((bf : Nat) : Int) → z15 = ((af : Nat) : Int) → z16 = ((k : Nat) : Int) → bf = zs_cn (zvE v) f k → af = zs_cn (zvE v) gx k → zW D dJ dI A s [zO wo wr (24), zL wr dJ 4096 (f), zO xo xr (24), zL xr dJ 4096 (gx), zO yo yr (24), zL yr dJ 4096 (gx), zO zo zr (24), zL zr dJ 4096 (gx)] H locs → lv_has ls 17 [(0, .ref sb), (1, .ref wo), (2, .ref xo), (3, .ref yo), (4, .ref zo), (5, .int (zi (24))), (6, .int (zi (((fr : Nat) : Int)))), (7, .int (zi (((c9 : Nat) : Int)))), (8, .long (v)), (10, .int (zi (((i : Nat) : Int)))), (11, .long (v)), (14, .int (zi (z14))), (15, .int (zi (z15))), (16, .int (zi (z16)))] → W p l e (room_1) s m args below meth c H locs 14 22286 Q (F0 m 288 ls []) := by
  obtain ⟨hx, hb, hml, hown, hts⟩ := id S
  intro N
  induction N with
  | zero =>
    intro k bf af z14 z15 z16 H locs ls h1 h2
    exact absurd h1 (by omega)
  | succ N ih =>
    intro k bf af z14 z15 z16 H locs ls hN hk1 h3 h4 e14 e15 e16 hbf haf hw hl
    subst e14
    subst e15
    subst e16
    refine lv_iload hx hb dL_law_288 (lv_at hl 13 rfl) ?_
    refine lv_iload hx hb dL_law_290 (lv_at hl 5 rfl) ?_
    refine zi_icmp_ge (tgt := 331) hx hb dL_law_292 (by decide) (by omega) (by omega) (fun c_292 => ?_) (fun c_292 => ?_)
    · have e9 : k = 24 := by omega
      subst e9
      exact kx bf af H locs ls h3 h4 hbf haf hw (lv_sub hl [0, 1, 2, 3, 4, 5, 6, 7, 8, 9, 10, 11, 12] rfl)
    · refine lv_aload_n hx hb dL_law_295 rfl (lv_at hl 1 rfl) ?_
      refine lv_iload hx hb dL_law_296 (lv_at hl 13 rfl) ?_
      refine z_calll (wr := [zO xo xr (24), zL xr dJ 4096 (gx), zO yo yr (24), zL yr dJ 4096 (gx), zO zo zr (24), zL zr dJ 4096 (gx)]) (wo := (fun _ : Unit => [zO wo wr (24), zL wr dJ 4096 (f), zO xo xr (24), zL xr dJ 4096 (gx), zO yo yr (24), zL yr dJ 4096 (gx), zO zo zr (24), zL zr dJ 4096 (gx)])) (z_runV (n := 1) (rest := []) S (met_row l D dJ dI wo wr (24) (f) (zi (((k : Nat) : Int))) (by omega) (by omega)) (lw_V q84 q85 q86 q3 q87) rfl rfl (by decide +kernel) ⟨Nat.le_of_ble_eq_true rfl, Nat.le_of_ble_eq_true rfl⟩ hw [0, 1] rfl rfl 0 rfl rfl hl.1 rfl (Nat.le_of_ble_eq_true rfl) dL_law_298 ⟨Nat.le_of_ble_eq_true rfl, Nat.le_of_ble_eq_true rfl⟩) hw [0, 1] [2, 3, 4, 5, 6, 7] rfl rfl rfl (by decide) [6, 7, 0, 1, 2, 3, 4, 5] rfl (fun _ => rfl) (fun v9 _ H locs hp hw => ?_)
      have e9 : zlo (zi (((k : Nat) : Int))) % (24) = k := by rw [zlo_zi (k := k) (by omega) (by omega)]; exact Nat.mod_eq_of_lt (by omega)
      rw [e9] at hp
      subst hp
      clear e9
      refine lv_lload hx hb dL_law_301 (lv_at hl 10 rfl) ?_
      refine zl_cmp hx hb dL_law_303 ?_
      have hz_303_2 := zcz_spec ((f) (k)) (v)
      refine zi_if_ne (tgt := 310) hx hb dL_law_304 (by decide) (by omega) (fun c_304 => ?_) (fun c_304 => ?_)
      · refine lv_aload_n hx hb dL_law_310 rfl (lv_at hl 2 rfl) ?_
        refine lv_iload hx hb dL_law_311 (lv_at hl 13 rfl) ?_
        refine z_calll (wr := [zO wo wr (24), zL wr dJ 4096 (f), zO yo yr (24), zL yr dJ 4096 (gx), zO zo zr (24), zL zr dJ 4096 (gx)]) (wo := (fun _ : Unit => [zO wo wr (24), zL wr dJ 4096 (f), zO xo xr (24), zL xr dJ 4096 (gx), zO yo yr (24), zL yr dJ 4096 (gx), zO zo zr (24), zL zr dJ 4096 (gx)])) (z_runV (n := 1) (rest := []) S (met_row l D dJ dI xo xr (24) (gx) (zi (((k : Nat) : Int))) (by omega) (by omega)) (lw_V q84 q85 q86 q3 q87) rfl rfl (by decide +kernel) ⟨Nat.le_of_ble_eq_true rfl, Nat.le_of_ble_eq_true rfl⟩ hw [2, 3] rfl rfl 2 rfl rfl hl.1 rfl (Nat.le_of_ble_eq_true rfl) dL_law_313 ⟨Nat.le_of_ble_eq_true rfl, Nat.le_of_ble_eq_true rfl⟩) hw [2, 3] [0, 1, 4, 5, 6, 7] rfl rfl rfl (by decide) [0, 1, 6, 7, 2, 3, 4, 5] rfl (fun _ => rfl) (fun v9 _ H locs hp hw => ?_)
        have e9 : zlo (zi (((k : Nat) : Int))) % (24) = k := by rw [zlo_zi (k := k) (by omega) (by omega)]; exact Nat.mod_eq_of_lt (by omega)
        rw [e9] at hp
        subst hp
        clear e9
        refine lv_lload hx hb dL_law_316 (lv_at hl 10 rfl) ?_
        refine zl_cmp hx hb dL_law_318 ?_
        have hz_318_4 := zcz_spec ((gx) (k)) (v)
        refine zi_if_ne (tgt := 325) hx hb dL_law_319 (by decide) (by omega) (fun c_319 => ?_) (fun c_319 => ?_)
        · refine zi_inc (v := ((k + 1 : Nat) : Int)) (k := 13) (lv' := [(16, .int (zi (((k + 1 : Nat) : Int)))), (0, .ref sb), (1, .ref wo), (2, .ref xo), (3, .ref yo), (4, .ref zo), (5, .int (zi (24))), (6, .int (zi (((fr : Nat) : Int)))), (7, .int (zi (((c9 : Nat) : Int)))), (8, .long (v)), (10, .int (zi (((i : Nat) : Int)))), (11, .long (v)), (14, .int (zi (((bf : Nat) : Int)))), (15, .int (zi (((af : Nat) : Int))))]) hx hb dL_law_325 hl rfl (by omega) (by decide) rfl (fun ls hl => ?_)
          refine lv_goto (tgt := 288) hx hb dL_law_328 (by decide) ?_
          have e1 := zv_ne (f := f) (v := v) (i := k) (by omega)
          have e2 := zv_ne (f := gx) (v := v) (i := k) (by omega)
          exact ih (k + 1) (bf) (af) _ _ _ H locs ls (by omega) (by omega) (by omega) (by omega) rfl rfl rfl (by omega) (by omega) hw (lv_sub hl [1, 2, 3, 4, 5, 6, 7, 8, 9, 10, 11, 12, 13, 0] rfl)
        · refine zi_inc (v := ((af + 1 : Nat) : Int)) (k := 12) (lv' := [(15, .int (zi (((af + 1 : Nat) : Int)))), (0, .ref sb), (1, .ref wo), (2, .ref xo), (3, .ref yo), (4, .ref zo), (5, .int (zi (24))), (6, .int (zi (((fr : Nat) : Int)))), (7, .int (zi (((c9 : Nat) : Int)))), (8, .long (v)), (10, .int (zi (((i : Nat) : Int)))), (11, .long (v)), (14, .int (zi (((bf : Nat) : Int)))), (16, .int (zi (((k : Nat) : Int))))]) hx hb dL_law_322 hl rfl (by omega) (by decide) rfl (fun ls hl => ?_)
          refine zi_inc (v := ((k + 1 : Nat) : Int)) (k := 13) (lv' := [(16, .int (zi (((k + 1 : Nat) : Int)))), (15, .int (zi (((af + 1 : Nat) : Int)))), (0, .ref sb), (1, .ref wo), (2, .ref xo), (3, .ref yo), (4, .ref zo), (5, .int (zi (24))), (6, .int (zi (((fr : Nat) : Int)))), (7, .int (zi (((c9 : Nat) : Int)))), (8, .long (v)), (10, .int (zi (((i : Nat) : Int)))), (11, .long (v)), (14, .int (zi (((bf : Nat) : Int))))]) hx hb dL_law_325 hl rfl (by omega) (by decide) rfl (fun ls hl => ?_)
          refine lv_goto (tgt := 288) hx hb dL_law_328 (by decide) ?_
          have e1 := zv_ne (f := f) (v := v) (i := k) (by omega)
          have e2 := zv_eq (f := gx) (v := v) (i := k) (by omega)
          exact ih (k + 1) (bf) (af + 1) _ _ _ H locs ls (by omega) (by omega) (by omega) (by omega) rfl rfl rfl (by omega) (by omega) hw (lv_sub hl [2, 3, 4, 5, 6, 7, 8, 9, 10, 11, 12, 13, 1, 0] rfl)
      · refine zi_inc (v := ((bf + 1 : Nat) : Int)) (k := 11) (lv' := [(14, .int (zi (((bf + 1 : Nat) : Int)))), (0, .ref sb), (1, .ref wo), (2, .ref xo), (3, .ref yo), (4, .ref zo), (5, .int (zi (24))), (6, .int (zi (((fr : Nat) : Int)))), (7, .int (zi (((c9 : Nat) : Int)))), (8, .long (v)), (10, .int (zi (((i : Nat) : Int)))), (11, .long (v)), (15, .int (zi (((af : Nat) : Int)))), (16, .int (zi (((k : Nat) : Int))))]) hx hb dL_law_307 hl rfl (by omega) (by decide) rfl (fun ls hl => ?_)
        refine lv_aload_n hx hb dL_law_310 rfl (lv_at hl 3 rfl) ?_
        refine lv_iload hx hb dL_law_311 (lv_at hl 13 rfl) ?_
        refine z_calll (wr := [zO wo wr (24), zL wr dJ 4096 (f), zO yo yr (24), zL yr dJ 4096 (gx), zO zo zr (24), zL zr dJ 4096 (gx)]) (wo := (fun _ : Unit => [zO wo wr (24), zL wr dJ 4096 (f), zO xo xr (24), zL xr dJ 4096 (gx), zO yo yr (24), zL yr dJ 4096 (gx), zO zo zr (24), zL zr dJ 4096 (gx)])) (z_runV (n := 1) (rest := []) S (met_row l D dJ dI xo xr (24) (gx) (zi (((k : Nat) : Int))) (by omega) (by omega)) (lw_V q84 q85 q86 q3 q87) rfl rfl (by decide +kernel) ⟨Nat.le_of_ble_eq_true rfl, Nat.le_of_ble_eq_true rfl⟩ hw [2, 3] rfl rfl 2 rfl rfl hl.1 rfl (Nat.le_of_ble_eq_true rfl) dL_law_313 ⟨Nat.le_of_ble_eq_true rfl, Nat.le_of_ble_eq_true rfl⟩) hw [2, 3] [0, 1, 4, 5, 6, 7] rfl rfl rfl (by decide) [0, 1, 6, 7, 2, 3, 4, 5] rfl (fun _ => rfl) (fun v9 _ H locs hp hw => ?_)
        have e9 : zlo (zi (((k : Nat) : Int))) % (24) = k := by rw [zlo_zi (k := k) (by omega) (by omega)]; exact Nat.mod_eq_of_lt (by omega)
        rw [e9] at hp
        subst hp
        clear e9
        refine lv_lload hx hb dL_law_316 (lv_at hl 11 rfl) ?_
        refine zl_cmp hx hb dL_law_318 ?_
        have hz_318_6 := zcz_spec ((gx) (k)) (v)
        refine zi_if_ne (tgt := 325) hx hb dL_law_319 (by decide) (by omega) (fun c_319 => ?_) (fun c_319 => ?_)
        · refine zi_inc (v := ((k + 1 : Nat) : Int)) (k := 13) (lv' := [(16, .int (zi (((k + 1 : Nat) : Int)))), (14, .int (zi (((bf + 1 : Nat) : Int)))), (0, .ref sb), (1, .ref wo), (2, .ref xo), (3, .ref yo), (4, .ref zo), (5, .int (zi (24))), (6, .int (zi (((fr : Nat) : Int)))), (7, .int (zi (((c9 : Nat) : Int)))), (8, .long (v)), (10, .int (zi (((i : Nat) : Int)))), (11, .long (v)), (15, .int (zi (((af : Nat) : Int))))]) hx hb dL_law_325 hl rfl (by omega) (by decide) rfl (fun ls hl => ?_)
          refine lv_goto (tgt := 288) hx hb dL_law_328 (by decide) ?_
          have e1 := zv_eq (f := f) (v := v) (i := k) (by omega)
          have e2 := zv_ne (f := gx) (v := v) (i := k) (by omega)
          exact ih (k + 1) (bf + 1) (af) _ _ _ H locs ls (by omega) (by omega) (by omega) (by omega) rfl rfl rfl (by omega) (by omega) hw (lv_sub hl [2, 3, 4, 5, 6, 7, 8, 9, 10, 11, 12, 1, 13, 0] rfl)
        · refine zi_inc (v := ((af + 1 : Nat) : Int)) (k := 12) (lv' := [(15, .int (zi (((af + 1 : Nat) : Int)))), (14, .int (zi (((bf + 1 : Nat) : Int)))), (0, .ref sb), (1, .ref wo), (2, .ref xo), (3, .ref yo), (4, .ref zo), (5, .int (zi (24))), (6, .int (zi (((fr : Nat) : Int)))), (7, .int (zi (((c9 : Nat) : Int)))), (8, .long (v)), (10, .int (zi (((i : Nat) : Int)))), (11, .long (v)), (16, .int (zi (((k : Nat) : Int))))]) hx hb dL_law_322 hl rfl (by omega) (by decide) rfl (fun ls hl => ?_)
          refine zi_inc (v := ((k + 1 : Nat) : Int)) (k := 13) (lv' := [(16, .int (zi (((k + 1 : Nat) : Int)))), (15, .int (zi (((af + 1 : Nat) : Int)))), (14, .int (zi (((bf + 1 : Nat) : Int)))), (0, .ref sb), (1, .ref wo), (2, .ref xo), (3, .ref yo), (4, .ref zo), (5, .int (zi (24))), (6, .int (zi (((fr : Nat) : Int)))), (7, .int (zi (((c9 : Nat) : Int)))), (8, .long (v)), (10, .int (zi (((i : Nat) : Int)))), (11, .long (v))]) hx hb dL_law_325 hl rfl (by omega) (by decide) rfl (fun ls hl => ?_)
          refine lv_goto (tgt := 288) hx hb dL_law_328 (by decide) ?_
          have e1 := zv_eq (f := f) (v := v) (i := k) (by omega)
          have e2 := zv_eq (f := gx) (v := v) (i := k) (by omega)
          exact ih (k + 1) (bf + 1) (af + 1) _ _ _ H locs ls (by omega) (by omega) (by omega) (by omega) rfl rfl rfl (by omega) (by omega) hw (lv_sub hl [3, 4, 5, 6, 7, 8, 9, 10, 11, 12, 13, 2, 1, 0] rfl)
set_option maxHeartbeats 4000000 in
set_option maxRecDepth 100000 in
/-- the sorted rows -/
theorem lp_w3 {sb wo xo yo zo wr xr yr zr : Nat} {fr c9 : Nat} {f gx : Nat → Int64} (S : CallFix p m c cL_law 17 s args lw_all RX0) (hfr : fr ≤ 24) (hc : fr + c9 ≤ 24) (hp : zs_pm f gx fr (fr + c9)) (hs : zs_srt gx fr (fr + c9)) (kx : ∀ (H : Heap) (locs : List Loc) (ls : Array Slot), zW D dJ dI A s [zO wo wr (24), zL wr dJ 4096 (f), zO xo xr (24), zL xr dJ 4096 (gx), zO yo yr (24), zL yr dJ 4096 (gx), zO zo zr (24), zL zr dJ 4096 (gx)] H locs → lv_has ls 17 [(0, .ref sb)] → W p l e (room_1) s m args below meth c H locs 14 22286 Q (F0 m 346 ls [])) :
    ∀ (N i : Nat) (vl : Int64) (z10 : Int) (H : Heap) (locs : List Loc) (ls : Array Slot), 24 < i + N → i ≤ 24 → z10 = ((i : Nat) : Int) → (0 < i → vl = gx (i - 1)) → zW D dJ dI A s [zO wo wr (24), zL wr dJ 4096 (f), zO xo xr (24), zL xr dJ 4096 (gx), zO yo yr (24), zL yr dJ 4096 (gx), zO zo zr (24), zL zr dJ 4096 (gx)] H locs → lv_has ls 17 [(0, .ref sb), (1, .ref wo), (2, .ref xo), (3, .ref yo), (4, .ref zo), (5, .int (zi (24))), (6, .int (zi (((fr : Nat) : Int)))), (7, .int (zi (((c9 : Nat) : Int)))), (8, .long (vl)), (10, .int (zi (z10)))] → W p l e (room_1) s m args below meth c H locs 14 22286 Q (F0 m 168 ls []) := by
  obtain ⟨hx, hb, hml, hown, hts⟩ := id S
  intro N
  induction N with
  | zero =>
    intro i vl z10 H locs ls h1 h2
    exact absurd h1 (by omega)
  | succ N ih =>
    intro i vl z10 H locs ls hN hi1 e10 hlast hw hl
    subst e10
    have k288 : i < 24 → ∀ (H : Heap) (locs : List Loc) (ls : Array Slot), zW D dJ dI A s [zO wo wr (24), zL wr dJ 4096 (f), zO xo xr (24), zL xr dJ 4096 (gx), zO yo yr (24), zL yr dJ 4096 (gx), zO zo zr (24), zL zr dJ 4096 (gx)] H locs → lv_has ls 17 [(0, .ref sb), (1, .ref wo), (2, .ref xo), (3, .ref yo), (4, .ref zo), (5, .int (zi (24))), (6, .int (zi (((fr : Nat) : Int)))), (7, .int (zi (((c9 : Nat) : Int)))), (8, .long (gx i)), (10, .int (zi (((i : Nat) : Int)))), (11, .long (gx i)), (14, .int (zi (0))), (15, .int (zi (0))), (16, .int (zi (0)))] → W p l e (room_1) s m args below meth c H locs 14 22286 Q (F0 m 288 ls []) := by
      intro hi2 H locs ls hw hl
      refine lp_w2 (v := gx i) S (fun bf af H locs ls h3 h4 hbf haf hw hl => ?_) 25 0 0 0 _ _ _ H locs ls (by omega) (by omega) (by omega) (by omega) rfl rfl rfl rfl rfl hw hl
      have e9 : bf = af := by
        rw [hbf, haf]
        exact ((hp.wide (Nat.zero_le _) (by omega)).2 _).symm
      refine lv_iload hx hb dL_law_331 (lv_at hl 11 rfl) ?_
      refine lv_iload hx hb dL_law_333 (lv_at hl 12 rfl) ?_
      refine zi_icmp_eq (tgt := 340) hx hb dL_law_335 (by decide) (by omega) (by omega) (fun c_335 => ?_) (fun c_335 => ?_)
      · refine zi_inc (v := ((i + 1 : Nat) : Int)) (k := 9) (lv' := [(10, .int (zi (((i + 1 : Nat) : Int)))), (0, .ref sb), (1, .ref wo), (2, .ref xo), (3, .ref yo), (4, .ref zo), (5, .int (zi (24))), (6, .int (zi (((fr : Nat) : Int)))), (7, .int (zi (((c9 : Nat) : Int)))), (8, .long (gx i)), (11, .long (gx i)), (14, .int (zi (((bf : Nat) : Int)))), (15, .int (zi (((af : Nat) : Int))))]) hx hb dL_law_340 hl rfl (by omega) (by decide) rfl (fun ls hl => ?_)
        refine lv_goto (tgt := 168) hx hb dL_law_343 (by decide) ?_
        exact ih (i + 1) _ _ H locs ls (by omega) (by omega) rfl (fun _ => rfl) hw (lv_sub hl [1, 2, 3, 4, 5, 6, 7, 8, 9, 0] rfl)
      · exact absurd c_335 (by omega)
    refine lv_iload hx hb dL_law_168 (lv_at hl 9 rfl) ?_
    refine lv_iload hx hb dL_law_170 (lv_at hl 5 rfl) ?_
    refine zi_icmp_ge (tgt := 346) hx hb dL_law_172 (by decide) (by omega) (by omega) (fun c_172 => ?_) (fun c_172 => ?_)
    · exact kx H locs ls hw (lv_sub hl [0] rfl)
    · refine lv_aload_n hx hb dL_law_175 rfl (lv_at hl 2 rfl) ?_
      refine lv_iload hx hb dL_law_176 (lv_at hl 9 rfl) ?_
      refine z_calll (wr := [zO wo wr (24), zL wr dJ 4096 (f), zO yo yr (24), zL yr dJ 4096 (gx), zO zo zr (24), zL zr dJ 4096 (gx)]) (wo := (fun _ : Unit => [zO wo wr (24), zL wr dJ 4096 (f), zO xo xr (24), zL xr dJ 4096 (gx), zO yo yr (24), zL yr dJ 4096 (gx), zO zo zr (24), zL zr dJ 4096 (gx)])) (z_runV (n := 1) (rest := []) S (met_row l D dJ dI xo xr (24) (gx) (zi (((i : Nat) : Int))) (by omega) (by omega)) (lw_V q84 q85 q86 q3 q87) rfl rfl (by decide +kernel) ⟨Nat.le_of_ble_eq_true rfl, Nat.le_of_ble_eq_true rfl⟩ hw [2, 3] rfl rfl 2 rfl rfl hl.1 rfl (Nat.le_of_ble_eq_true rfl) dL_law_178 ⟨Nat.le_of_ble_eq_true rfl, Nat.le_of_ble_eq_true rfl⟩) hw [2, 3] [0, 1, 4, 5, 6, 7] rfl rfl rfl (by decide) [0, 1, 6, 7, 2, 3, 4, 5] rfl (fun _ => rfl) (fun v9 _ H locs hp hw => ?_)
      have e9 : zlo (zi (((i : Nat) : Int))) % (24) = i := by rw [zlo_zi (k := i) (by omega) (by omega)]; exact Nat.mod_eq_of_lt (by omega)
      rw [e9] at hp
      subst hp
      clear e9
      refine lv_lstore (lv' := [(11, .long ((gx) (i))), (0, .ref sb), (1, .ref wo), (2, .ref xo), (3, .ref yo), (4, .ref zo), (5, .int (zi (24))), (6, .int (zi (((fr : Nat) : Int)))), (7, .int (zi (((c9 : Nat) : Int)))), (8, .long (vl)), (10, .int (zi (((i : Nat) : Int))))]) hx hb dL_law_181 hl (by decide) rfl (fun ls hl => ?_)
      refine lv_aload_n hx hb dL_law_183 rfl (lv_at hl 4 rfl) ?_
      refine lv_iload hx hb dL_law_184 (lv_at hl 10 rfl) ?_
      refine z_calll (wr := [zO wo wr (24), zL wr dJ 4096 (f), zO xo xr (24), zL xr dJ 4096 (gx), zO zo zr (24), zL zr dJ 4096 (gx)]) (wo := (fun _ : Unit => [zO wo wr (24), zL wr dJ 4096 (f), zO xo xr (24), zL xr dJ 4096 (gx), zO yo yr (24), zL yr dJ 4096 (gx), zO zo zr (24), zL zr dJ 4096 (gx)])) (z_runV (n := 1) (rest := []) S (met_row l D dJ dI yo yr (24) (gx) (zi (((i : Nat) : Int))) (by omega) (by omega)) (lw_V q84 q85 q86 q3 q87) rfl rfl (by decide +kernel) ⟨Nat.le_of_ble_eq_true rfl, Nat.le_of_ble_eq_true rfl⟩ hw [4, 5] rfl rfl 4 rfl rfl hl.1 rfl (Nat.le_of_ble_eq_true rfl) dL_law_186 ⟨Nat.le_of_ble_eq_true rfl, Nat.le_of_ble_eq_true rfl⟩) hw [4, 5] [0, 1, 2, 3, 6, 7] rfl rfl rfl (by decide) [0, 1, 2, 3, 6, 7, 4, 5] rfl (fun _ => rfl) (fun v9 _ H locs hp hw => ?_)
      have e9 : zlo (zi (((i : Nat) : Int))) % (24) = i := by rw [zlo_zi (k := i) (by omega) (by omega)]; exact Nat.mod_eq_of_lt (by omega)
      rw [e9] at hp
      subst hp
      clear e9
      refine lv_lload hx hb dL_law_189 (lv_at hl 0 rfl) ?_
      refine zl_cmp hx hb dL_law_191 ?_
      have hz_191_2 := zcz_spec ((gx) (i)) ((gx) (i))
      refine zi_if_ne (tgt := 208) hx hb dL_law_192 (by decide) (by omega) (fun c_192 => ?_) (fun c_192 => ?_)
      · exact absurd c_192 (by omega)
      · refine lv_aload hx hb dL_law_195 (lv_at hl 5 rfl) ?_
        refine lv_iload hx hb dL_law_197 (lv_at hl 10 rfl) ?_
        refine z_calll (wr := [zO wo wr (24), zL wr dJ 4096 (f), zO xo xr (24), zL xr dJ 4096 (gx), zO yo yr (24), zL yr dJ 4096 (gx)]) (wo := (fun _ : Unit => [zO wo wr (24), zL wr dJ 4096 (f), zO xo xr (24), zL xr dJ 4096 (gx), zO yo yr (24), zL yr dJ 4096 (gx), zO zo zr (24), zL zr dJ 4096 (gx)])) (z_runV (n := 1) (rest := []) S (met_row l D dJ dI zo zr (24) (gx) (zi (((i : Nat) : Int))) (by omega) (by omega)) (lw_V q84 q85 q86 q3 q87) rfl rfl (by decide +kernel) ⟨Nat.le_of_ble_eq_true rfl, Nat.le_of_ble_eq_true rfl⟩ hw [6, 7] rfl rfl 6 rfl rfl hl.1 rfl (Nat.le_of_ble_eq_true rfl) dL_law_199 ⟨Nat.le_of_ble_eq_true rfl, Nat.le_of_ble_eq_true rfl⟩) hw [6, 7] [0, 1, 2, 3, 4, 5] rfl rfl rfl (by decide) [0, 1, 2, 3, 4, 5, 6, 7] rfl (fun _ => rfl) (fun v9 _ H locs hp hw => ?_)
        have e9 : zlo (zi (((i : Nat) : Int))) % (24) = i := by rw [zlo_zi (k := i) (by omega) (by omega)]; exact Nat.mod_eq_of_lt (by omega)
        rw [e9] at hp
        subst hp
        clear e9
        refine lv_lload hx hb dL_law_202 (lv_at hl 0 rfl) ?_
        refine zl_cmp hx hb dL_law_204 ?_
        have hz_204_4 := zcz_spec ((gx) (i)) ((gx) (i))
        refine zi_if_eq (tgt := 210) hx hb dL_law_205 (by decide) (by omega) (fun c_205 => ?_) (fun c_205 => ?_)
        · refine lv_iload hx hb dL_law_210 (lv_at hl 10 rfl) ?_
          refine lv_iload hx hb dL_law_212 (lv_at hl 7 rfl) ?_
          refine zi_icmp_lt (tgt := 231) hx hb dL_law_214 (by decide) (by omega) (by omega) (fun c_214 => ?_) (fun c_214 => ?_)
          · refine zi_const hx hb dL_law_231 ?_
            refine lv_istore (lv' := [(13, .int (zi (0))), (11, .long ((gx) (i))), (0, .ref sb), (1, .ref wo), (2, .ref xo), (3, .ref yo), (4, .ref zo), (5, .int (zi (24))), (6, .int (zi (((fr : Nat) : Int)))), (7, .int (zi (((c9 : Nat) : Int)))), (8, .long (vl)), (10, .int (zi (((i : Nat) : Int))))]) hx hb dL_law_232 hl (by decide) rfl (fun ls hl => ?_)
            refine lv_iload hx hb dL_law_234 (lv_at hl 0 rfl) ?_
            refine zi_if_ne (tgt := 253) hx hb dL_law_236 (by decide) (by omega) (fun c_236 => ?_) (fun c_236 => ?_)
            · exact absurd c_236 (by omega)
            · refine lv_lload hx hb dL_law_239 (lv_at hl 1 rfl) ?_
              refine lv_aload_n hx hb dL_law_241 rfl (lv_at hl 3 rfl) ?_
              refine lv_iload hx hb dL_law_242 (lv_at hl 11 rfl) ?_
              refine z_calll (wr := [zO xo xr (24), zL xr dJ 4096 (gx), zO yo yr (24), zL yr dJ 4096 (gx), zO zo zr (24), zL zr dJ 4096 (gx)]) (wo := (fun _ : Unit => [zO wo wr (24), zL wr dJ 4096 (f), zO xo xr (24), zL xr dJ 4096 (gx), zO yo yr (24), zL yr dJ 4096 (gx), zO zo zr (24), zL zr dJ 4096 (gx)])) (z_runV (n := 1) (rest := [.long ((gx) (i))]) S (met_row l D dJ dI wo wr (24) (f) (zi (((i : Nat) : Int))) (by omega) (by omega)) (lw_V q84 q85 q86 q3 q87) rfl rfl (by decide +kernel) ⟨Nat.le_of_ble_eq_true rfl, Nat.le_of_ble_eq_true rfl⟩ hw [0, 1] rfl rfl 0 rfl rfl hl.1 rfl (Nat.le_of_ble_eq_true rfl) dL_law_244 ⟨Nat.le_of_ble_eq_true rfl, Nat.le_of_ble_eq_true rfl⟩) hw [0, 1] [2, 3, 4, 5, 6, 7] rfl rfl rfl (by decide) [6, 7, 0, 1, 2, 3, 4, 5] rfl (fun _ => rfl) (fun v9 _ H locs hp hw => ?_)
              have e9 : zlo (zi (((i : Nat) : Int))) % (24) = i := by rw [zlo_zi (k := i) (by omega) (by omega)]; exact Nat.mod_eq_of_lt (by omega)
              rw [e9] at hp
              subst hp
              clear e9
              have eo : (gx i).toInt = (f i).toInt := by rw [hp.1 i (by omega)]
              refine zl_cmp hx hb dL_law_247 ?_
              have hz_247_8 := zcz_spec ((gx) (i)) ((f) (i))
              refine zi_if_eq (tgt := 253) hx hb dL_law_248 (by decide) (by omega) (fun c_248 => ?_) (fun c_248 => ?_)
              · refine lv_iload hx hb dL_law_253 (lv_at hl 0 rfl) ?_
                refine zi_if_eq (tgt := 275) hx hb dL_law_255 (by decide) (by omega) (fun c_255 => ?_) (fun c_255 => ?_)
                · refine lv_lload hx hb dL_law_275 (lv_at hl 1 rfl) ?_
                  refine lv_lstore (lv' := [(8, .long ((gx) (i))), (13, .int (zi (0))), (11, .long ((gx) (i))), (0, .ref sb), (1, .ref wo), (2, .ref xo), (3, .ref yo), (4, .ref zo), (5, .int (zi (24))), (6, .int (zi (((fr : Nat) : Int)))), (7, .int (zi (((c9 : Nat) : Int)))), (10, .int (zi (((i : Nat) : Int))))]) hx hb dL_law_277 hl (by decide) rfl (fun ls hl => ?_)
                  refine zi_const hx hb dL_law_279 ?_
                  refine lv_istore (lv' := [(14, .int (zi (0))), (8, .long ((gx) (i))), (13, .int (zi (0))), (11, .long ((gx) (i))), (0, .ref sb), (1, .ref wo), (2, .ref xo), (3, .ref yo), (4, .ref zo), (5, .int (zi (24))), (6, .int (zi (((fr : Nat) : Int)))), (7, .int (zi (((c9 : Nat) : Int)))), (10, .int (zi (((i : Nat) : Int))))]) hx hb dL_law_280 hl (by decide) rfl (fun ls hl => ?_)
                  refine zi_const hx hb dL_law_282 ?_
                  refine lv_istore (lv' := [(15, .int (zi (0))), (14, .int (zi (0))), (8, .long ((gx) (i))), (13, .int (zi (0))), (11, .long ((gx) (i))), (0, .ref sb), (1, .ref wo), (2, .ref xo), (3, .ref yo), (4, .ref zo), (5, .int (zi (24))), (6, .int (zi (((fr : Nat) : Int)))), (7, .int (zi (((c9 : Nat) : Int)))), (10, .int (zi (((i : Nat) : Int))))]) hx hb dL_law_283 hl (by decide) rfl (fun ls hl => ?_)
                  refine zi_const hx hb dL_law_285 ?_
                  refine lv_istore (lv' := [(16, .int (zi (0))), (15, .int (zi (0))), (14, .int (zi (0))), (8, .long ((gx) (i))), (13, .int (zi (0))), (11, .long ((gx) (i))), (0, .ref sb), (1, .ref wo), (2, .ref xo), (3, .ref yo), (4, .ref zo), (5, .int (zi (24))), (6, .int (zi (((fr : Nat) : Int)))), (7, .int (zi (((c9 : Nat) : Int)))), (10, .int (zi (((i : Nat) : Int))))]) hx hb dL_law_286 hl (by decide) rfl (fun ls hl => ?_)
                  exact k288 (by omega) H locs ls hw (lv_sub hl [6, 7, 8, 9, 10, 11, 12, 13, 3, 14, 5, 2, 1, 0] rfl)
                · exact absurd c_255 (by omega)
              · exact absurd c_248 (by omega)
          · refine lv_iload hx hb dL_law_217 (lv_at hl 10 rfl) ?_
            refine lv_iload hx hb dL_law_219 (lv_at hl 7 rfl) ?_
            refine lv_iload hx hb dL_law_221 (lv_at hl 8 rfl) ?_
            refine zi_add (r := ((fr + c9 : Nat) : Int)) hx hb dL_law_223 (by omega) ?_
            refine zi_icmp_ge (tgt := 231) hx hb dL_law_224 (by decide) (by omega) (by omega) (fun c_224 => ?_) (fun c_224 => ?_)
            · refine zi_const hx hb dL_law_231 ?_
              refine lv_istore (lv' := [(13, .int (zi (0))), (11, .long ((gx) (i))), (0, .ref sb), (1, .ref wo), (2, .ref xo), (3, .ref yo), (4, .ref zo), (5, .int (zi (24))), (6, .int (zi (((fr : Nat) : Int)))), (7, .int (zi (((c9 : Nat) : Int)))), (8, .long (vl)), (10, .int (zi (((i : Nat) : Int))))]) hx hb dL_law_232 hl (by decide) rfl (fun ls hl => ?_)
              refine lv_iload hx hb dL_law_234 (lv_at hl 0 rfl) ?_
              refine zi_if_ne (tgt := 253) hx hb dL_law_236 (by decide) (by omega) (fun c_236 => ?_) (fun c_236 => ?_)
              · exact absurd c_236 (by omega)
              · refine lv_lload hx hb dL_law_239 (lv_at hl 1 rfl) ?_
                refine lv_aload_n hx hb dL_law_241 rfl (lv_at hl 3 rfl) ?_
                refine lv_iload hx hb dL_law_242 (lv_at hl 11 rfl) ?_
                refine z_calll (wr := [zO xo xr (24), zL xr dJ 4096 (gx), zO yo yr (24), zL yr dJ 4096 (gx), zO zo zr (24), zL zr dJ 4096 (gx)]) (wo := (fun _ : Unit => [zO wo wr (24), zL wr dJ 4096 (f), zO xo xr (24), zL xr dJ 4096 (gx), zO yo yr (24), zL yr dJ 4096 (gx), zO zo zr (24), zL zr dJ 4096 (gx)])) (z_runV (n := 1) (rest := [.long ((gx) (i))]) S (met_row l D dJ dI wo wr (24) (f) (zi (((i : Nat) : Int))) (by omega) (by omega)) (lw_V q84 q85 q86 q3 q87) rfl rfl (by decide +kernel) ⟨Nat.le_of_ble_eq_true rfl, Nat.le_of_ble_eq_true rfl⟩ hw [0, 1] rfl rfl 0 rfl rfl hl.1 rfl (Nat.le_of_ble_eq_true rfl) dL_law_244 ⟨Nat.le_of_ble_eq_true rfl, Nat.le_of_ble_eq_true rfl⟩) hw [0, 1] [2, 3, 4, 5, 6, 7] rfl rfl rfl (by decide) [6, 7, 0, 1, 2, 3, 4, 5] rfl (fun _ => rfl) (fun v9 _ H locs hp hw => ?_)
                have e9 : zlo (zi (((i : Nat) : Int))) % (24) = i := by rw [zlo_zi (k := i) (by omega) (by omega)]; exact Nat.mod_eq_of_lt (by omega)
                rw [e9] at hp
                subst hp
                clear e9
                have eo : (gx i).toInt = (f i).toInt := by rw [hp.1 i (by omega)]
                refine zl_cmp hx hb dL_law_247 ?_
                have hz_247_13 := zcz_spec ((gx) (i)) ((f) (i))
                refine zi_if_eq (tgt := 253) hx hb dL_law_248 (by decide) (by omega) (fun c_248 => ?_) (fun c_248 => ?_)
                · refine lv_iload hx hb dL_law_253 (lv_at hl 0 rfl) ?_
                  refine zi_if_eq (tgt := 275) hx hb dL_law_255 (by decide) (by omega) (fun c_255 => ?_) (fun c_255 => ?_)
                  · refine lv_lload hx hb dL_law_275 (lv_at hl 1 rfl) ?_
                    refine lv_lstore (lv' := [(8, .long ((gx) (i))), (13, .int (zi (0))), (11, .long ((gx) (i))), (0, .ref sb), (1, .ref wo), (2, .ref xo), (3, .ref yo), (4, .ref zo), (5, .int (zi (24))), (6, .int (zi (((fr : Nat) : Int)))), (7, .int (zi (((c9 : Nat) : Int)))), (10, .int (zi (((i : Nat) : Int))))]) hx hb dL_law_277 hl (by decide) rfl (fun ls hl => ?_)
                    refine zi_const hx hb dL_law_279 ?_
                    refine lv_istore (lv' := [(14, .int (zi (0))), (8, .long ((gx) (i))), (13, .int (zi (0))), (11, .long ((gx) (i))), (0, .ref sb), (1, .ref wo), (2, .ref xo), (3, .ref yo), (4, .ref zo), (5, .int (zi (24))), (6, .int (zi (((fr : Nat) : Int)))), (7, .int (zi (((c9 : Nat) : Int)))), (10, .int (zi (((i : Nat) : Int))))]) hx hb dL_law_280 hl (by decide) rfl (fun ls hl => ?_)
                    refine zi_const hx hb dL_law_282 ?_
                    refine lv_istore (lv' := [(15, .int (zi (0))), (14, .int (zi (0))), (8, .long ((gx) (i))), (13, .int (zi (0))), (11, .long ((gx) (i))), (0, .ref sb), (1, .ref wo), (2, .ref xo), (3, .ref yo), (4, .ref zo), (5, .int (zi (24))), (6, .int (zi (((fr : Nat) : Int)))), (7, .int (zi (((c9 : Nat) : Int)))), (10, .int (zi (((i : Nat) : Int))))]) hx hb dL_law_283 hl (by decide) rfl (fun ls hl => ?_)
                    refine zi_const hx hb dL_law_285 ?_
                    refine lv_istore (lv' := [(16, .int (zi (0))), (15, .int (zi (0))), (14, .int (zi (0))), (8, .long ((gx) (i))), (13, .int (zi (0))), (11, .long ((gx) (i))), (0, .ref sb), (1, .ref wo), (2, .ref xo), (3, .ref yo), (4, .ref zo), (5, .int (zi (24))), (6, .int (zi (((fr : Nat) : Int)))), (7, .int (zi (((c9 : Nat) : Int)))), (10, .int (zi (((i : Nat) : Int))))]) hx hb dL_law_286 hl (by decide) rfl (fun ls hl => ?_)
                    exact k288 (by omega) H locs ls hw (lv_sub hl [6, 7, 8, 9, 10, 11, 12, 13, 3, 14, 5, 2, 1, 0] rfl)
                  · exact absurd c_255 (by omega)
                · exact absurd c_248 (by omega)
            · refine zi_const hx hb dL_law_227 ?_
              refine lv_goto (tgt := 232) hx hb dL_law_228 (by decide) ?_
              refine lv_istore (lv' := [(13, .int (zi (1))), (11, .long ((gx) (i))), (0, .ref sb), (1, .ref wo), (2, .ref xo), (3, .ref yo), (4, .ref zo), (5, .int (zi (24))), (6, .int (zi (((fr : Nat) : Int)))), (7, .int (zi (((c9 : Nat) : Int)))), (8, .long (vl)), (10, .int (zi (((i : Nat) : Int))))]) hx hb dL_law_232 hl (by decide) rfl (fun ls hl => ?_)
              refine lv_iload hx hb dL_law_234 (lv_at hl 0 rfl) ?_
              refine zi_if_ne (tgt := 253) hx hb dL_law_236 (by decide) (by omega) (fun c_236 => ?_) (fun c_236 => ?_)
              · refine lv_iload hx hb dL_law_253 (lv_at hl 0 rfl) ?_
                refine zi_if_eq (tgt := 275) hx hb dL_law_255 (by decide) (by omega) (fun c_255 => ?_) (fun c_255 => ?_)
                · exact absurd c_255 (by omega)
                · refine lv_iload hx hb dL_law_258 (lv_at hl 11 rfl) ?_
                  refine lv_iload hx hb dL_law_260 (lv_at hl 8 rfl) ?_
                  refine zi_icmp_le (tgt := 275) hx hb dL_law_262 (by decide) (by omega) (by omega) (fun c_262 => ?_) (fun c_262 => ?_)
                  · refine lv_lload hx hb dL_law_275 (lv_at hl 1 rfl) ?_
                    refine lv_lstore (lv' := [(8, .long ((gx) (i))), (13, .int (zi (1))), (11, .long ((gx) (i))), (0, .ref sb), (1, .ref wo), (2, .ref xo), (3, .ref yo), (4, .ref zo), (5, .int (zi (24))), (6, .int (zi (((fr : Nat) : Int)))), (7, .int (zi (((c9 : Nat) : Int)))), (10, .int (zi (((i : Nat) : Int))))]) hx hb dL_law_277 hl (by decide) rfl (fun ls hl => ?_)
                    refine zi_const hx hb dL_law_279 ?_
                    refine lv_istore (lv' := [(14, .int (zi (0))), (8, .long ((gx) (i))), (13, .int (zi (1))), (11, .long ((gx) (i))), (0, .ref sb), (1, .ref wo), (2, .ref xo), (3, .ref yo), (4, .ref zo), (5, .int (zi (24))), (6, .int (zi (((fr : Nat) : Int)))), (7, .int (zi (((c9 : Nat) : Int)))), (10, .int (zi (((i : Nat) : Int))))]) hx hb dL_law_280 hl (by decide) rfl (fun ls hl => ?_)
                    refine zi_const hx hb dL_law_282 ?_
                    refine lv_istore (lv' := [(15, .int (zi (0))), (14, .int (zi (0))), (8, .long ((gx) (i))), (13, .int (zi (1))), (11, .long ((gx) (i))), (0, .ref sb), (1, .ref wo), (2, .ref xo), (3, .ref yo), (4, .ref zo), (5, .int (zi (24))), (6, .int (zi (((fr : Nat) : Int)))), (7, .int (zi (((c9 : Nat) : Int)))), (10, .int (zi (((i : Nat) : Int))))]) hx hb dL_law_283 hl (by decide) rfl (fun ls hl => ?_)
                    refine zi_const hx hb dL_law_285 ?_
                    refine lv_istore (lv' := [(16, .int (zi (0))), (15, .int (zi (0))), (14, .int (zi (0))), (8, .long ((gx) (i))), (13, .int (zi (1))), (11, .long ((gx) (i))), (0, .ref sb), (1, .ref wo), (2, .ref xo), (3, .ref yo), (4, .ref zo), (5, .int (zi (24))), (6, .int (zi (((fr : Nat) : Int)))), (7, .int (zi (((c9 : Nat) : Int)))), (10, .int (zi (((i : Nat) : Int))))]) hx hb dL_law_286 hl (by decide) rfl (fun ls hl => ?_)
                    exact k288 (by omega) H locs ls hw (lv_sub hl [6, 7, 8, 9, 10, 11, 12, 13, 3, 14, 5, 2, 1, 0] rfl)
                  · refine lv_lload hx hb dL_law_265 (lv_at hl 1 rfl) ?_
                    refine lv_lload hx hb dL_law_267 (lv_at hl 10 rfl) ?_
                    have el : (vl).toInt ≤ (gx i).toInt := by
                      rw [hlast (by omega)]
                      exact hs (i - 1) i (by omega) (by omega) (by omega)
                    refine zl_cmp hx hb dL_law_269 ?_
                    have hz_269_19 := zcz_spec ((gx) (i)) (vl)
                    refine zi_if_ge (tgt := 275) hx hb dL_law_270 (by decide) (by omega) (fun c_270 => ?_) (fun c_270 => ?_)
                    · refine lv_lload hx hb dL_law_275 (lv_at hl 1 rfl) ?_
                      refine lv_lstore (lv' := [(8, .long ((gx) (i))), (13, .int (zi (1))), (11, .long ((gx) (i))), (0, .ref sb), (1, .ref wo), (2, .ref xo), (3, .ref yo), (4, .ref zo), (5, .int (zi (24))), (6, .int (zi (((fr : Nat) : Int)))), (7, .int (zi (((c9 : Nat) : Int)))), (10, .int (zi (((i : Nat) : Int))))]) hx hb dL_law_277 hl (by decide) rfl (fun ls hl => ?_)
                      refine zi_const hx hb dL_law_279 ?_
                      refine lv_istore (lv' := [(14, .int (zi (0))), (8, .long ((gx) (i))), (13, .int (zi (1))), (11, .long ((gx) (i))), (0, .ref sb), (1, .ref wo), (2, .ref xo), (3, .ref yo), (4, .ref zo), (5, .int (zi (24))), (6, .int (zi (((fr : Nat) : Int)))), (7, .int (zi (((c9 : Nat) : Int)))), (10, .int (zi (((i : Nat) : Int))))]) hx hb dL_law_280 hl (by decide) rfl (fun ls hl => ?_)
                      refine zi_const hx hb dL_law_282 ?_
                      refine lv_istore (lv' := [(15, .int (zi (0))), (14, .int (zi (0))), (8, .long ((gx) (i))), (13, .int (zi (1))), (11, .long ((gx) (i))), (0, .ref sb), (1, .ref wo), (2, .ref xo), (3, .ref yo), (4, .ref zo), (5, .int (zi (24))), (6, .int (zi (((fr : Nat) : Int)))), (7, .int (zi (((c9 : Nat) : Int)))), (10, .int (zi (((i : Nat) : Int))))]) hx hb dL_law_283 hl (by decide) rfl (fun ls hl => ?_)
                      refine zi_const hx hb dL_law_285 ?_
                      refine lv_istore (lv' := [(16, .int (zi (0))), (15, .int (zi (0))), (14, .int (zi (0))), (8, .long ((gx) (i))), (13, .int (zi (1))), (11, .long ((gx) (i))), (0, .ref sb), (1, .ref wo), (2, .ref xo), (3, .ref yo), (4, .ref zo), (5, .int (zi (24))), (6, .int (zi (((fr : Nat) : Int)))), (7, .int (zi (((c9 : Nat) : Int)))), (10, .int (zi (((i : Nat) : Int))))]) hx hb dL_law_286 hl (by decide) rfl (fun ls hl => ?_)
                      exact k288 (by omega) H locs ls hw (lv_sub hl [6, 7, 8, 9, 10, 11, 12, 13, 3, 14, 5, 2, 1, 0] rfl)
                    · exact absurd c_270 (by omega)
              · exact absurd c_236 (by omega)
        · exact absurd c_205 (by omega)
end ZLAW
end
section
/-! THE CLAIM OUT OF ONE WALK OF THE LAW'S BODY. Your part is whole_start (and what it stands on); all else here is the same for every law, but numbers. -/
def R_law : String := "LongSortDeskLaw"
def lw_P (b : Addr) (xs : List Int32) (args : Array Value) (s : State) : Prop := args = #[.ref b] ∧ s.IntsAt b xs ∧ xs.length ≤ 50 ∧ (Jvm.Cond.and given_1 narrow_1).before args s = true
def lw_Q (_ : Array Value) (s : State) (o : Outcome) (t : State) : Prop := o = .returned (some (.int 1)) ∧ Framed s o t [] 1200000 5502250
def lw_Z (below : List Frame) (a : Array Value) (s : State) : State → Prop := fun t => ∃ o, t.status = .running ∧ Ended t below o ∧ lw_Q a s o t
/-- the law's own end, with 1 on the stack, nothing written that was there before, its room as the claim has it -/
theorem lw_ret {p : Program} {l : Launch} {e : Env} {s : State} {m : MethodId} {below : List Frame} {meth : Method} {c : Code} {b : Nat} (hx : p.tables.exec = Jvm.exec) (hb : c.code = code) (hr : meth.sig.returnType = ret) (hlocks : meth.locks = false) {pc : Nat} {H : Heap} {ls : Array Slot} (hdg : decode code pc = .ok (.ireturn, 1)) : W p l e room_1 s m #[Value.ref b] below meth c H [] 1200000 5502250 (lw_Z below #[Value.ref b] s) (F0 m pc ls [.int 1]) := by
  intro T hT X
  obtain ⟨fs, hret, hrun, hended, hW, hframe⟩ := X.leave (v := some (.int 1)) (hlocks := hlocks) (fun h => by rw [hr] at h; cases h)
  have hmeth' : T.vm.method? m = some meth := X.method'
  refine ⟨T.setFrames fs, ?_, .returned (some (.int 1)), hrun, hended, rfl, ⟨_, rfl⟩, hW, hframe⟩
  jvm_step X.here [X.here.top, hx, hb, hdg, hmeth', hr, ret, narrow_b1]
  (try refine ⟨rfl, ?_⟩); (try refine ⟨rfl, ?_⟩)
  first | (intro acts; rw [hret _ acts rfl rfl rfl]) | rw [hret _ _ rfl rfl rfl]
  exact Steps.refl _
/-- what holds at the law's entry: the machine, the code, the tables' words (any of lw_tbl by 'hts w (by decide +kernel)'), the script of L ints xs at the cell b, what the Statement gives of the start (any of its parts by flat_of_before) -/
def lw_At (p : Program) (s : State) (m : MethodId) (meth : Method) (c : Code) (b L : Nat) (xs : Nat → Int32) : Prop :=
  p.tables.exec = Jvm.exec ∧ c.code = code ∧ meth.sig.returnType = ret ∧ c.maxLocals = 17 ∧ s.vm.findClass R_law = some m.cls ∧ (∀ w ∈ lw_tbl, w.before #[Value.ref b] s = true) ∧ va_X b L xs s s.heap ∧ b < s.heap.size ∧ meth.locks = false ∧ (Jvm.Cond.and given_1 narrow_1).before #[Value.ref b] s = true
-- ===== YOUR PART BEGINS =====
set_option maxHeartbeats 4000000 in
set_option maxRecDepth 100000 in
/-- the law's body -/
theorem law_walk {p : Program} {e : Env} {s : State} {m : MethodId} {below : List Frame} {meth : Method} {c : Code} (l : Launch) {sb sL : Nat} {sx : Nat → Int32} {D : va_G} {dJ dI : ClassId} {ls : Array Slot} (hL : sL ≤ 50) (hr : meth.sig.returnType = ret) (hlocks : meth.locks = false) (S : CallFix p m c cL_law 17 s #[Value.ref sb] lw_all RX0) (hX : va_X sb sL sx s s.heap) (hbl : sb < s.heap.size) (hbA : ¬ (fun q : Nat => s.heap.size ≤ q) sb) (hw : zW D dJ dI (fun q : Nat => s.heap.size ≤ q) s [] s.heap []) (hl : lv_has ls 17 [(0, .ref sb)]) : W p l e room_1 s m #[Value.ref sb] below meth c s.heap [] 0 0 (lw_Z below #[Value.ref sb] s) (F0 m 0 ls []) := by
  obtain ⟨hx, hb, hml, hown, hts⟩ := id S
  obtain ⟨fr, hfr⟩ : ∃ fr, fr = zlo (zcell sL sx (0)) % (24 + 1) := ⟨_, rfl⟩
  have hfr9 : fr < 24 + 1 := by
    rw [hfr]
    exact Nat.mod_lt _ (by omega)
  obtain ⟨c9, hc⟩ : ∃ c9, c9 = zlo (zcell sL sx (1)) % (24 - fr + 1) := ⟨_, rfl⟩
  have hc9 : c9 < 24 - fr + 1 := by
    rw [hc]
    exact Nat.mod_lt _ (by omega)
  refine lv_aload_n hx hb dL_law_0 rfl (lv_at hl 0 rfl) ?_
  refine z_callr (wr := []) (wo := (fun (wr : Nat) (wo : Nat) => [zO wo wr (((24 : Nat) : Int)), zL wr dJ 4096 (zmk sL sx)])) (z_runX (n := 1) (rest := []) S (met_made l D dJ dI sb sL sx hL) (lw_S q91 q92 q2 q93) rfl rfl (by decide +kernel) ⟨Nat.le_of_ble_eq_true rfl, Nat.le_of_ble_eq_true rfl⟩ hw hX hbl hbA rfl hl.1 rfl (Nat.le_of_ble_eq_true rfl) dL_law_1 ⟨Nat.le_of_ble_eq_true rfl, Nat.le_of_ble_eq_true rfl⟩) hw [] [] rfl rfl rfl (by decide) [0, 1] rfl (fun _ _ => rfl) (fun wr wo H locs _ hw => ?_)
  refine W.widen (k := 2) (n := 4098) (Nat.le_of_ble_eq_true rfl) (Nat.le_of_ble_eq_true rfl) ?_
  refine lv_astore_n (lv' := [(1, .ref wo), (0, .ref sb)]) hx hb dL_law_4 rfl hl (by decide) rfl (fun ls hl => ?_)
  refine lv_aload_n hx hb dL_law_5 rfl (lv_at hl 1 rfl) ?_
  refine z_callr (wr := [zO wo wr (((24 : Nat) : Int)), zL wr dJ 4096 (zmk sL sx)]) (wo := (fun (xr : Nat) (xo : Nat) => [zO wo wr (((24 : Nat) : Int)), zL wr dJ 4096 (zmk sL sx), zO xo xr (((24 : Nat) : Int)), zL xr dJ 4096 (zmk sL sx)])) (z_runX (n := 1) (rest := []) S (met_made l D dJ dI sb sL sx hL) (lw_S q91 q92 q2 q93) rfl rfl (by decide +kernel) ⟨Nat.le_of_ble_eq_true rfl, Nat.le_of_ble_eq_true rfl⟩ hw hX hbl hbA rfl hl.1 rfl (Nat.le_of_ble_eq_true rfl) dL_law_6 ⟨Nat.le_of_ble_eq_true rfl, Nat.le_of_ble_eq_true rfl⟩) hw [] [0, 1] rfl rfl rfl (by decide) [0, 1, 2, 3] rfl (fun _ _ => rfl) (fun xr xo H locs _ hw => ?_)
  refine W.widen (k := 4) (n := 8196) (Nat.le_of_ble_eq_true rfl) (Nat.le_of_ble_eq_true rfl) ?_
  refine lv_astore_n (lv' := [(2, .ref xo), (1, .ref wo), (0, .ref sb)]) hx hb dL_law_9 rfl hl (by decide) rfl (fun ls hl => ?_)
  refine lv_aload_n hx hb dL_law_10 rfl (lv_at hl 2 rfl) ?_
  refine z_callr (wr := [zO wo wr (((24 : Nat) : Int)), zL wr dJ 4096 (zmk sL sx), zO xo xr (((24 : Nat) : Int)), zL xr dJ 4096 (zmk sL sx)]) (wo := (fun (yr : Nat) (yo : Nat) => [zO wo wr (((24 : Nat) : Int)), zL wr dJ 4096 (zmk sL sx), zO xo xr (((24 : Nat) : Int)), zL xr dJ 4096 (zmk sL sx), zO yo yr (((24 : Nat) : Int)), zL yr dJ 4096 (zmk sL sx)])) (z_runX (n := 1) (rest := []) S (met_made l D dJ dI sb sL sx hL) (lw_S q91 q92 q2 q93) rfl rfl (by decide +kernel) ⟨Nat.le_of_ble_eq_true rfl, Nat.le_of_ble_eq_true rfl⟩ hw hX hbl hbA rfl hl.1 rfl (Nat.le_of_ble_eq_true rfl) dL_law_11 ⟨Nat.le_of_ble_eq_true rfl, Nat.le_of_ble_eq_true rfl⟩) hw [] [0, 1, 2, 3] rfl rfl rfl (by decide) [0, 1, 2, 3, 4, 5] rfl (fun _ _ => rfl) (fun yr yo H locs _ hw => ?_)
  refine W.widen (k := 6) (n := 12294) (Nat.le_of_ble_eq_true rfl) (Nat.le_of_ble_eq_true rfl) ?_
  refine lv_astore_n (lv' := [(3, .ref yo), (2, .ref xo), (1, .ref wo), (0, .ref sb)]) hx hb dL_law_14 rfl hl (by decide) rfl (fun ls hl => ?_)
  refine lv_aload_n hx hb dL_law_15 rfl (lv_at hl 3 rfl) ?_
  refine z_callr (wr := [zO wo wr (((24 : Nat) : Int)), zL wr dJ 4096 (zmk sL sx), zO xo xr (((24 : Nat) : Int)), zL xr dJ 4096 (zmk sL sx), zO yo yr (((24 : Nat) : Int)), zL yr dJ 4096 (zmk sL sx)]) (wo := (fun (zr : Nat) (zo : Nat) => [zO wo wr (((24 : Nat) : Int)), zL wr dJ 4096 (zmk sL sx), zO xo xr (((24 : Nat) : Int)), zL xr dJ 4096 (zmk sL sx), zO yo yr (((24 : Nat) : Int)), zL yr dJ 4096 (zmk sL sx), zO zo zr (((24 : Nat) : Int)), zL zr dJ 4096 (zmk sL sx)])) (z_runX (n := 1) (rest := []) S (met_made l D dJ dI sb sL sx hL) (lw_S q91 q92 q2 q93) rfl rfl (by decide +kernel) ⟨Nat.le_of_ble_eq_true rfl, Nat.le_of_ble_eq_true rfl⟩ hw hX hbl hbA rfl hl.1 rfl (Nat.le_of_ble_eq_true rfl) dL_law_16 ⟨Nat.le_of_ble_eq_true rfl, Nat.le_of_ble_eq_true rfl⟩) hw [] [0, 1, 2, 3, 4, 5] rfl rfl rfl (by decide) [0, 1, 2, 3, 4, 5, 6, 7] rfl (fun _ _ => rfl) (fun zr zo H locs _ hw => ?_)
  refine W.widen (k := 8) (n := 16392) (Nat.le_of_ble_eq_true rfl) (Nat.le_of_ble_eq_true rfl) ?_
  refine lv_astore (lv' := [(4, .ref zo), (3, .ref yo), (2, .ref xo), (1, .ref wo), (0, .ref sb)]) hx hb dL_law_19 hl (by decide) rfl (fun ls hl => ?_)
  refine lv_bipush (v := zi (24)) hx hb dL_law_21 (by decide +kernel) ?_
  refine lv_istore (lv' := [(5, .int (zi (24))), (4, .ref zo), (3, .ref yo), (2, .ref xo), (1, .ref wo), (0, .ref sb)]) hx hb dL_law_23 hl (by decide) rfl (fun ls hl => ?_)
  refine lv_aload_n hx hb dL_law_25 rfl (lv_at hl 5 rfl) ?_
  refine zi_const hx hb dL_law_26 ?_
  refine z_calli (wr := [zO wo wr (((24 : Nat) : Int)), zL wr dJ 4096 (zmk sL sx), zO xo xr (((24 : Nat) : Int)), zL xr dJ 4096 (zmk sL sx), zO yo yr (((24 : Nat) : Int)), zL yr dJ 4096 (zmk sL sx), zO zo zr (((24 : Nat) : Int)), zL zr dJ 4096 (zmk sL sx)]) (wo := (fun _ : Unit => [zO wo wr (((24 : Nat) : Int)), zL wr dJ 4096 (zmk sL sx), zO xo xr (((24 : Nat) : Int)), zL xr dJ 4096 (zmk sL sx), zO yo yr (((24 : Nat) : Int)), zL yr dJ 4096 (zmk sL sx), zO zo zr (((24 : Nat) : Int)), zL zr dJ 4096 (zmk sL sx)])) (z_runX (n := 2) (rest := []) S (met_cell l D dJ dI sb sL sx hL (0) (0) (by omega) (by omega)) (lw_S q88 q89 q2 q90) rfl rfl (by decide +kernel) ⟨Nat.le_of_ble_eq_true rfl, Nat.le_of_ble_eq_true rfl⟩ hw hX hbl hbA rfl hl.1 rfl (Nat.le_of_ble_eq_true rfl) dL_law_27 ⟨Nat.le_of_ble_eq_true rfl, Nat.le_of_ble_eq_true rfl⟩) hw [] [0, 1, 2, 3, 4, 5, 6, 7] rfl rfl rfl (by decide) [0, 1, 2, 3, 4, 5, 6, 7] rfl (fun _ => rfl) (fun v9 _ H locs hp hw => ?_)
  subst hp
  refine lv_ldc (v := 2147483647) hx hb hown (hts _ q144) dL_law_30 ?_
  refine zi_and hx hb dL_law_32 ?_
  refine lv_iload hx hb dL_law_33 (lv_at hl 0 rfl) ?_
  refine zi_const hx hb dL_law_35 ?_
  refine zi_add (r := ((24 + 1 : Nat) : Int)) hx hb dL_law_36 (by omega) ?_
  refine zi_remN (a := zlo (zcell sL sx (0))) (b := 24 + 1) hx hb dL_law_37 rfl rfl (zlo_lt _) (by omega) (by omega) ?_
  refine lv_topi (fun v ev0 => ?_)
  rw [← hfr] at ev0
  subst ev0
  refine lv_istore (lv' := [(6, .int (zi (((fr : Nat) : Int)))), (5, .int (zi (24))), (4, .ref zo), (3, .ref yo), (2, .ref xo), (1, .ref wo), (0, .ref sb)]) hx hb dL_law_38 hl (by decide) rfl (fun ls hl => ?_)
  refine lv_aload_n hx hb dL_law_40 rfl (lv_at hl 6 rfl) ?_
  refine zi_const hx hb dL_law_41 ?_
  refine z_calli (wr := [zO wo wr (((24 : Nat) : Int)), zL wr dJ 4096 (zmk sL sx), zO xo xr (((24 : Nat) : Int)), zL xr dJ 4096 (zmk sL sx), zO yo yr (((24 : Nat) : Int)), zL yr dJ 4096 (zmk sL sx), zO zo zr (((24 : Nat) : Int)), zL zr dJ 4096 (zmk sL sx)]) (wo := (fun _ : Unit => [zO wo wr (((24 : Nat) : Int)), zL wr dJ 4096 (zmk sL sx), zO xo xr (((24 : Nat) : Int)), zL xr dJ 4096 (zmk sL sx), zO yo yr (((24 : Nat) : Int)), zL yr dJ 4096 (zmk sL sx), zO zo zr (((24 : Nat) : Int)), zL zr dJ 4096 (zmk sL sx)])) (z_runX (n := 2) (rest := []) S (met_cell l D dJ dI sb sL sx hL (1) (1) (by omega) (by omega)) (lw_S q88 q89 q2 q90) rfl rfl (by decide +kernel) ⟨Nat.le_of_ble_eq_true rfl, Nat.le_of_ble_eq_true rfl⟩ hw hX hbl hbA rfl hl.1 rfl (Nat.le_of_ble_eq_true rfl) dL_law_42 ⟨Nat.le_of_ble_eq_true rfl, Nat.le_of_ble_eq_true rfl⟩) hw [] [0, 1, 2, 3, 4, 5, 6, 7] rfl rfl rfl (by decide) [0, 1, 2, 3, 4, 5, 6, 7] rfl (fun _ => rfl) (fun v9 _ H locs hp hw => ?_)
  subst hp
  refine lv_ldc (v := 2147483647) hx hb hown (hts _ q144) dL_law_45 ?_
  refine zi_and hx hb dL_law_47 ?_
  refine lv_iload hx hb dL_law_48 (lv_at hl 1 rfl) ?_
  refine lv_iload hx hb dL_law_50 (lv_at hl 0 rfl) ?_
  refine zi_sub (r := ((24 - fr : Nat) : Int)) hx hb dL_law_52 (by omega) ?_
  refine zi_const hx hb dL_law_53 ?_
  refine zi_add (r := ((24 - fr + 1 : Nat) : Int)) hx hb dL_law_54 (by omega) ?_
  refine zi_remN (a := zlo (zcell sL sx (1))) (b := 24 - fr + 1) hx hb dL_law_55 rfl rfl (zlo_lt _) (by omega) (by omega) ?_
  refine lv_topi (fun v ev0 => ?_)
  rw [← hc] at ev0
  subst ev0
  refine lv_istore (lv' := [(7, .int (zi (((c9 : Nat) : Int)))), (6, .int (zi (((fr : Nat) : Int)))), (5, .int (zi (24))), (4, .ref zo), (3, .ref yo), (2, .ref xo), (1, .ref wo), (0, .ref sb)]) hx hb dL_law_56 hl (by decide) rfl (fun ls hl => ?_)
  refine lv_aload_n hx hb dL_law_58 rfl (lv_at hl 5 rfl) ?_
  refine lv_aload_n hx hb dL_law_59 rfl (lv_at hl 7 rfl) ?_
  refine zi_const hx hb dL_law_60 ?_
  refine z_calli (wr := [zO wo wr (((24 : Nat) : Int)), zL wr dJ 4096 (zmk sL sx), zO xo xr (((24 : Nat) : Int)), zL xr dJ 4096 (zmk sL sx), zO yo yr (((24 : Nat) : Int)), zL yr dJ 4096 (zmk sL sx), zO zo zr (((24 : Nat) : Int)), zL zr dJ 4096 (zmk sL sx)]) (wo := (fun _ : Unit => [zO wo wr (((24 : Nat) : Int)), zL wr dJ 4096 (zmk sL sx), zO xo xr (((24 : Nat) : Int)), zL xr dJ 4096 (zmk sL sx), zO yo yr (((24 : Nat) : Int)), zL yr dJ 4096 (zmk sL sx), zO zo zr (((24 : Nat) : Int)), zL zr dJ 4096 (zmk sL sx)])) (z_runX (n := 2) (rest := [.ref xo]) S (met_cell l D dJ dI sb sL sx hL (0) (0) (by omega) (by omega)) (lw_S q88 q89 q2 q90) rfl rfl (by decide +kernel) ⟨Nat.le_of_ble_eq_true rfl, Nat.le_of_ble_eq_true rfl⟩ hw hX hbl hbA rfl hl.1 rfl (Nat.le_of_ble_eq_true rfl) dL_law_61 ⟨Nat.le_of_ble_eq_true rfl, Nat.le_of_ble_eq_true rfl⟩) hw [] [0, 1, 2, 3, 4, 5, 6, 7] rfl rfl rfl (by decide) [0, 1, 2, 3, 4, 5, 6, 7] rfl (fun _ => rfl) (fun v9 _ H locs hp hw => ?_)
  subst hp
  refine lv_aload_n hx hb dL_law_64 rfl (lv_at hl 7 rfl) ?_
  refine zi_const hx hb dL_law_65 ?_
  refine z_calli (wr := [zO wo wr (((24 : Nat) : Int)), zL wr dJ 4096 (zmk sL sx), zO xo xr (((24 : Nat) : Int)), zL xr dJ 4096 (zmk sL sx), zO yo yr (((24 : Nat) : Int)), zL yr dJ 4096 (zmk sL sx), zO zo zr (((24 : Nat) : Int)), zL zr dJ 4096 (zmk sL sx)]) (wo := (fun _ : Unit => [zO wo wr (((24 : Nat) : Int)), zL wr dJ 4096 (zmk sL sx), zO xo xr (((24 : Nat) : Int)), zL xr dJ 4096 (zmk sL sx), zO yo yr (((24 : Nat) : Int)), zL yr dJ 4096 (zmk sL sx), zO zo zr (((24 : Nat) : Int)), zL zr dJ 4096 (zmk sL sx)])) (z_runX (n := 2) (rest := [.int (zcell sL sx (0)), .ref xo]) S (met_cell l D dJ dI sb sL sx hL (1) (1) (by omega) (by omega)) (lw_S q88 q89 q2 q90) rfl rfl (by decide +kernel) ⟨Nat.le_of_ble_eq_true rfl, Nat.le_of_ble_eq_true rfl⟩ hw hX hbl hbA rfl hl.1 rfl (Nat.le_of_ble_eq_true rfl) dL_law_66 ⟨Nat.le_of_ble_eq_true rfl, Nat.le_of_ble_eq_true rfl⟩) hw [] [0, 1, 2, 3, 4, 5, 6, 7] rfl rfl rfl (by decide) [0, 1, 2, 3, 4, 5, 6, 7] rfl (fun _ => rfl) (fun v9 _ H locs hp hw => ?_)
  subst hp
  refine z_calli (wr := [zO wo wr (((24 : Nat) : Int)), zL wr dJ 4096 (zmk sL sx), zO yo yr (((24 : Nat) : Int)), zL yr dJ 4096 (zmk sL sx), zO zo zr (((24 : Nat) : Int)), zL zr dJ 4096 (zmk sL sx)]) (wo := (fun gx : Nat → Int64 => [zO wo wr (((24 : Nat) : Int)), zL wr dJ 4096 (zmk sL sx), zO xo xr (((24 : Nat) : Int)), zL xr dJ 4096 (gx), zO yo yr (((24 : Nat) : Int)), zL yr dJ 4096 (zmk sL sx), zO zo zr (((24 : Nat) : Int)), zL zr dJ 4096 (zmk sL sx)])) (z_runV (n := 2) (rest := []) S (met_dquick l D dJ dI xo xr 24 fr c9 (zmk sL sx) (zcell sL sx (0)) (zcell sL sx (1)) (by omega) hfr hc) (lw_V q9 q10 q11 q3 q12) rfl rfl (by decide +kernel) ⟨Nat.le_of_ble_eq_true rfl, Nat.le_of_ble_eq_true rfl⟩ hw [2, 3] rfl rfl 2 rfl rfl hl.1 rfl (Nat.le_of_ble_eq_true rfl) dL_law_69 ⟨Nat.le_of_ble_eq_true rfl, Nat.le_of_ble_eq_true rfl⟩) hw [2, 3] [0, 1, 4, 5, 6, 7] rfl rfl rfl (by decide) [0, 1, 6, 7, 2, 3, 4, 5] rfl (fun _ => rfl) (fun v9 gx H locs hp hw => ?_)
  obtain ⟨hp0, hpgx, hsgx⟩ := hp
  subst hp0
  refine lv_pop hx hb dL_law_72 rfl ?_
  refine lv_aload_n hx hb dL_law_73 rfl (lv_at hl 4 rfl) ?_
  refine lv_aload_n hx hb dL_law_74 rfl (lv_at hl 7 rfl) ?_
  refine zi_const hx hb dL_law_75 ?_
  refine z_calli (wr := [zO wo wr (((24 : Nat) : Int)), zL wr dJ 4096 (zmk sL sx), zO xo xr (((24 : Nat) : Int)), zL xr dJ 4096 (gx), zO yo yr (((24 : Nat) : Int)), zL yr dJ 4096 (zmk sL sx), zO zo zr (((24 : Nat) : Int)), zL zr dJ 4096 (zmk sL sx)]) (wo := (fun _ : Unit => [zO wo wr (((24 : Nat) : Int)), zL wr dJ 4096 (zmk sL sx), zO xo xr (((24 : Nat) : Int)), zL xr dJ 4096 (gx), zO yo yr (((24 : Nat) : Int)), zL yr dJ 4096 (zmk sL sx), zO zo zr (((24 : Nat) : Int)), zL zr dJ 4096 (zmk sL sx)])) (z_runX (n := 2) (rest := [.ref yo]) S (met_cell l D dJ dI sb sL sx hL (0) (0) (by omega) (by omega)) (lw_S q88 q89 q2 q90) rfl rfl (by decide +kernel) ⟨Nat.le_of_ble_eq_true rfl, Nat.le_of_ble_eq_true rfl⟩ hw hX hbl hbA rfl hl.1 rfl (Nat.le_of_ble_eq_true rfl) dL_law_76 ⟨Nat.le_of_ble_eq_true rfl, Nat.le_of_ble_eq_true rfl⟩) hw [] [0, 1, 2, 3, 4, 5, 6, 7] rfl rfl rfl (by decide) [0, 1, 2, 3, 4, 5, 6, 7] rfl (fun _ => rfl) (fun v9 _ H locs hp hw => ?_)
  subst hp
  refine lv_aload_n hx hb dL_law_79 rfl (lv_at hl 7 rfl) ?_
  refine zi_const hx hb dL_law_80 ?_
  refine z_calli (wr := [zO wo wr (((24 : Nat) : Int)), zL wr dJ 4096 (zmk sL sx), zO xo xr (((24 : Nat) : Int)), zL xr dJ 4096 (gx), zO yo yr (((24 : Nat) : Int)), zL yr dJ 4096 (zmk sL sx), zO zo zr (((24 : Nat) : Int)), zL zr dJ 4096 (zmk sL sx)]) (wo := (fun _ : Unit => [zO wo wr (((24 : Nat) : Int)), zL wr dJ 4096 (zmk sL sx), zO xo xr (((24 : Nat) : Int)), zL xr dJ 4096 (gx), zO yo yr (((24 : Nat) : Int)), zL yr dJ 4096 (zmk sL sx), zO zo zr (((24 : Nat) : Int)), zL zr dJ 4096 (zmk sL sx)])) (z_runX (n := 2) (rest := [.int (zcell sL sx (0)), .ref yo]) S (met_cell l D dJ dI sb sL sx hL (1) (1) (by omega) (by omega)) (lw_S q88 q89 q2 q90) rfl rfl (by decide +kernel) ⟨Nat.le_of_ble_eq_true rfl, Nat.le_of_ble_eq_true rfl⟩ hw hX hbl hbA rfl hl.1 rfl (Nat.le_of_ble_eq_true rfl) dL_law_81 ⟨Nat.le_of_ble_eq_true rfl, Nat.le_of_ble_eq_true rfl⟩) hw [] [0, 1, 2, 3, 4, 5, 6, 7] rfl rfl rfl (by decide) [0, 1, 2, 3, 4, 5, 6, 7] rfl (fun _ => rfl) (fun v9 _ H locs hp hw => ?_)
  subst hp
  refine z_calli (wr := [zO wo wr (((24 : Nat) : Int)), zL wr dJ 4096 (zmk sL sx), zO xo xr (((24 : Nat) : Int)), zL xr dJ 4096 (gx), zO zo zr (((24 : Nat) : Int)), zL zr dJ 4096 (zmk sL sx)]) (wo := (fun gy : Nat → Int64 => [zO wo wr (((24 : Nat) : Int)), zL wr dJ 4096 (zmk sL sx), zO xo xr (((24 : Nat) : Int)), zL xr dJ 4096 (gx), zO yo yr (((24 : Nat) : Int)), zL yr dJ 4096 (gy), zO zo zr (((24 : Nat) : Int)), zL zr dJ 4096 (zmk sL sx)])) (z_runV (n := 2) (rest := []) S (met_dmerge l D dJ dI yo yr 24 fr c9 (zmk sL sx) (zcell sL sx (0)) (zcell sL sx (1)) (by omega) hfr hc) (lw_V q45 q46 q47 q3 q48) rfl rfl (by decide +kernel) ⟨Nat.le_of_ble_eq_true rfl, Nat.le_of_ble_eq_true rfl⟩ hw [4, 5] rfl rfl 4 rfl rfl hl.1 rfl (Nat.le_of_ble_eq_true rfl) dL_law_84 ⟨Nat.le_of_ble_eq_true rfl, Nat.le_of_ble_eq_true rfl⟩) hw [4, 5] [0, 1, 2, 3, 6, 7] rfl rfl rfl (by decide) [0, 1, 2, 3, 6, 7, 4, 5] rfl (fun _ => rfl) (fun v9 gy H locs hp hw => ?_)
  obtain ⟨hp0, hpgy, hsgy⟩ := hp
  subst hp0
  refine W.widen (k := 9) (n := 16416) (Nat.le_of_ble_eq_true rfl) (Nat.le_of_ble_eq_true rfl) ?_
  refine lv_pop hx hb dL_law_87 rfl ?_
  refine lv_aload hx hb dL_law_88 (lv_at hl 3 rfl) ?_
  refine lv_aload_n hx hb dL_law_90 rfl (lv_at hl 7 rfl) ?_
  refine zi_const hx hb dL_law_91 ?_
  refine z_calli (wr := [zO wo wr (((24 : Nat) : Int)), zL wr dJ 4096 (zmk sL sx), zO xo xr (((24 : Nat) : Int)), zL xr dJ 4096 (gx), zO yo yr (((24 : Nat) : Int)), zL yr dJ 4096 (gy), zO zo zr (((24 : Nat) : Int)), zL zr dJ 4096 (zmk sL sx)]) (wo := (fun _ : Unit => [zO wo wr (((24 : Nat) : Int)), zL wr dJ 4096 (zmk sL sx), zO xo xr (((24 : Nat) : Int)), zL xr dJ 4096 (gx), zO yo yr (((24 : Nat) : Int)), zL yr dJ 4096 (gy), zO zo zr (((24 : Nat) : Int)), zL zr dJ 4096 (zmk sL sx)])) (z_runX (n := 2) (rest := [.ref zo]) S (met_cell l D dJ dI sb sL sx hL (0) (0) (by omega) (by omega)) (lw_S q88 q89 q2 q90) rfl rfl (by decide +kernel) ⟨Nat.le_of_ble_eq_true rfl, Nat.le_of_ble_eq_true rfl⟩ hw hX hbl hbA rfl hl.1 rfl (Nat.le_of_ble_eq_true rfl) dL_law_92 ⟨Nat.le_of_ble_eq_true rfl, Nat.le_of_ble_eq_true rfl⟩) hw [] [0, 1, 2, 3, 4, 5, 6, 7] rfl rfl rfl (by decide) [0, 1, 2, 3, 4, 5, 6, 7] rfl (fun _ => rfl) (fun v9 _ H locs hp hw => ?_)
  subst hp
  refine lv_aload_n hx hb dL_law_95 rfl (lv_at hl 7 rfl) ?_
  refine zi_const hx hb dL_law_96 ?_
  refine z_calli (wr := [zO wo wr (((24 : Nat) : Int)), zL wr dJ 4096 (zmk sL sx), zO xo xr (((24 : Nat) : Int)), zL xr dJ 4096 (gx), zO yo yr (((24 : Nat) : Int)), zL yr dJ 4096 (gy), zO zo zr (((24 : Nat) : Int)), zL zr dJ 4096 (zmk sL sx)]) (wo := (fun _ : Unit => [zO wo wr (((24 : Nat) : Int)), zL wr dJ 4096 (zmk sL sx), zO xo xr (((24 : Nat) : Int)), zL xr dJ 4096 (gx), zO yo yr (((24 : Nat) : Int)), zL yr dJ 4096 (gy), zO zo zr (((24 : Nat) : Int)), zL zr dJ 4096 (zmk sL sx)])) (z_runX (n := 2) (rest := [.int (zcell sL sx (0)), .ref zo]) S (met_cell l D dJ dI sb sL sx hL (1) (1) (by omega) (by omega)) (lw_S q88 q89 q2 q90) rfl rfl (by decide +kernel) ⟨Nat.le_of_ble_eq_true rfl, Nat.le_of_ble_eq_true rfl⟩ hw hX hbl hbA rfl hl.1 rfl (Nat.le_of_ble_eq_true rfl) dL_law_97 ⟨Nat.le_of_ble_eq_true rfl, Nat.le_of_ble_eq_true rfl⟩) hw [] [0, 1, 2, 3, 4, 5, 6, 7] rfl rfl rfl (by decide) [0, 1, 2, 3, 4, 5, 6, 7] rfl (fun _ => rfl) (fun v9 _ H locs hp hw => ?_)
  subst hp
  refine z_calli (wr := [zO wo wr (((24 : Nat) : Int)), zL wr dJ 4096 (zmk sL sx), zO xo xr (((24 : Nat) : Int)), zL xr dJ 4096 (gx), zO yo yr (((24 : Nat) : Int)), zL yr dJ 4096 (gy)]) (wo := (fun gz : Nat → Int64 => [zO wo wr (((24 : Nat) : Int)), zL wr dJ 4096 (zmk sL sx), zO xo xr (((24 : Nat) : Int)), zL xr dJ 4096 (gx), zO yo yr (((24 : Nat) : Int)), zL yr dJ 4096 (gy), zO zo zr (((24 : Nat) : Int)), zL zr dJ 4096 (gz)])) (z_runV (n := 2) (rest := []) S (met_dradix l D dJ dI zo zr 24 fr c9 (zmk sL sx) (zcell sL sx (0)) (zcell sL sx (1)) (by omega) hfr hc) (lw_V q75 q76 q77 q3 q78) rfl rfl (by decide +kernel) ⟨Nat.le_of_ble_eq_true rfl, Nat.le_of_ble_eq_true rfl⟩ hw [6, 7] rfl rfl 6 rfl rfl hl.1 rfl (Nat.le_of_ble_eq_true rfl) dL_law_100 ⟨Nat.le_of_ble_eq_true rfl, Nat.le_of_ble_eq_true rfl⟩) hw [6, 7] [0, 1, 2, 3, 4, 5] rfl rfl rfl (by decide) [0, 1, 2, 3, 4, 5, 6, 7] rfl (fun _ => rfl) (fun v9 gz H locs hp hw => ?_)
  obtain ⟨hp0, hpgz, hsgz⟩ := hp
  subst hp0
  refine W.widen (k := 14) (n := 22286) (Nat.le_of_ble_eq_true rfl) (Nat.le_of_ble_eq_true rfl) ?_
  refine lv_pop hx hb dL_law_103 rfl ?_
  refine zi_const hx hb dL_law_104 ?_
  refine lv_istore (lv' := [(8, .int (zi (0))), (7, .int (zi (((c9 : Nat) : Int)))), (6, .int (zi (((fr : Nat) : Int)))), (5, .int (zi (24))), (4, .ref zo), (3, .ref yo), (2, .ref xo), (1, .ref wo), (0, .ref sb)]) hx hb dL_law_105 hl (by decide) rfl (fun ls hl => ?_)
  have ey : gy = gx := zs_uniqP hpgy hpgx hsgy hsgx
  have ez : gz = gx := zs_uniqP hpgz hpgx hsgz hsgx
  rw [ey, ez] at hw
  refine lp_w1 (sb := sb) (sL := sL) (sx := sx) S hL hX hbl hbA (fun H locs ls hw hl => ?_) 25 0 _ H locs ls (by omega) (by omega) rfl hw (lv_sub hl [8, 7, 6, 5, 4, 3, 2, 1, 0] rfl)
  refine lv_lconst (v := 0) hx hb dL_law_162 rfl ?_
  refine lv_lstore (lv' := [(8, .long (0)), (0, .ref sb), (1, .ref wo), (2, .ref xo), (3, .ref yo), (4, .ref zo), (5, .int (zi (24))), (6, .int (zi (((fr : Nat) : Int)))), (7, .int (zi (((c9 : Nat) : Int))))]) hx hb dL_law_163 hl (by decide) rfl (fun ls hl => ?_)
  refine zi_const hx hb dL_law_165 ?_
  refine lv_istore (lv' := [(10, .int (zi (0))), (8, .long (0)), (0, .ref sb), (1, .ref wo), (2, .ref xo), (3, .ref yo), (4, .ref zo), (5, .int (zi (24))), (6, .int (zi (((fr : Nat) : Int)))), (7, .int (zi (((c9 : Nat) : Int))))]) hx hb dL_law_166 hl (by decide) rfl (fun ls hl => ?_)
  refine lp_w3 S (by omega) (by omega) hpgx hsgx (fun H locs ls hw hl => ?_) 25 0 0 _ H locs ls (by omega) (by omega) rfl (fun h => absurd h (Nat.lt_irrefl 0)) hw (lv_sub hl [2, 3, 4, 5, 6, 7, 8, 9, 1, 0] rfl)
  have hw := zW_re (ws' := []) hw [] rfl rfl
  refine lv_aload_n hx hb dL_law_346 rfl (lv_at hl 0 rfl) ?_
  refine z_calli (wr := []) (wo := (fun _ : Unit => [])) (z_runX (n := 1) (rest := []) S (met_longLine l D dJ dI sb sL sx hL) (lw_S q116 q117 q2 q118) rfl rfl (by decide +kernel) ⟨Nat.le_of_ble_eq_true rfl, Nat.le_of_ble_eq_true rfl⟩ hw hX hbl hbA rfl hl.1 rfl (Nat.le_of_ble_eq_true rfl) dL_law_347 ⟨Nat.le_of_ble_eq_true rfl, Nat.le_of_ble_eq_true rfl⟩) hw [] [] rfl rfl rfl (by decide) [] rfl (fun _ => rfl) (fun v9 _ H locs hp hw => ?_)
  subst hp
  refine W.widen (k := 28) (n := 43025) (Nat.le_of_ble_eq_true rfl) (Nat.le_of_ble_eq_true rfl) ?_
  refine zi_if_eq (tgt := 371) hx hb dL_law_350 (by decide) (by omega) (fun c_350 => ?_) (fun c_350 => ?_)
  · exact absurd c_350 (by omega)
  · refine lv_aload_n hx hb dL_law_353 rfl (lv_at hl 0 rfl) ?_
    refine z_calli (wr := []) (wo := (fun _ : Unit => [])) (z_runX (n := 1) (rest := []) S (met_found l D dJ dI sb sL sx hL) (lw_S q131 q132 q2 q133) rfl rfl (by decide +kernel) ⟨Nat.le_of_ble_eq_true rfl, Nat.le_of_ble_eq_true rfl⟩ hw hX hbl hbA rfl hl.1 rfl (Nat.le_of_ble_eq_true rfl) dL_law_354 ⟨Nat.le_of_ble_eq_true rfl, Nat.le_of_ble_eq_true rfl⟩) hw [] [] rfl rfl rfl (by decide) [] rfl (fun _ => rfl) (fun v9 _ H locs hp hw => ?_)
    subst hp
    refine W.widen (k := 62) (n := 55967) (Nat.le_of_ble_eq_true rfl) (Nat.le_of_ble_eq_true rfl) ?_
    refine zi_if_eq (tgt := 371) hx hb dL_law_357 (by decide) (by omega) (fun c_357 => ?_) (fun c_357 => ?_)
    · exact absurd c_357 (by omega)
    · refine lv_aload_n hx hb dL_law_360 rfl (lv_at hl 0 rfl) ?_
      refine z_calli (wr := []) (wo := (fun _ : Unit => [])) (z_runX (n := 1) (rest := []) S (met_bounds l D dJ dI sb sL sx hL) (lw_S q141 q142 q2 q143) rfl rfl (by decide +kernel) ⟨Nat.le_of_ble_eq_true rfl, Nat.le_of_ble_eq_true rfl⟩ hw hX hbl hbA rfl hl.1 rfl (Nat.le_of_ble_eq_true rfl) dL_law_361 ⟨Nat.le_of_ble_eq_true rfl, Nat.le_of_ble_eq_true rfl⟩) hw [] [] rfl rfl rfl (by decide) [] rfl (fun _ => rfl) (fun v9 _ H locs hp hw => ?_)
      subst hp
      refine W.widen (k := 77) (n := 75927) (Nat.le_of_ble_eq_true rfl) (Nat.le_of_ble_eq_true rfl) ?_
      refine zi_if_eq (tgt := 371) hx hb dL_law_364 (by decide) (by omega) (fun c_364 => ?_) (fun c_364 => ?_)
      · exact absurd c_364 (by omega)
      · refine zi_const hx hb dL_law_367 ?_
        refine lv_goto (tgt := 372) hx hb dL_law_368 (by decide) ?_
        rw [show zi (1) = 1 from rfl]
        refine W.widen (k := 1200000) (n := 5502250) (Nat.le_of_ble_eq_true rfl) (Nat.le_of_ble_eq_true rfl) ?_
        refine va_forget (fun q hq => hw.2.2.2.1.2.2 q hq) ?_
        exact lw_ret hx hb hr hlocks dL_law_372
set_option maxHeartbeats 4000000 in
set_option maxRecDepth 100000 in
/-- YOUR PART: from the entry, for every script of at most 50 ints, the law comes to its end with true ('hflags': the launch's flags, for a law that throws: no stack traces) -/
theorem whole_start {p : Program} {e : Env} {s : State} {m : MethodId} {below : List Frame} {meth : Method} {c : Code} (l : Launch) (hflags : l.flags = flags0) {b L : Nat} {xs : Nat → Int32} (hL : L ≤ 50) (C0 : lw_At p s m meth c b L xs) : W p l e room_1 s m #[Value.ref b] below meth c s.heap [] 0 0 (lw_Z below #[Value.ref b] s) (entryFrame m ([Value.ref b] : List Value).toArray 17) := by
  obtain ⟨hx, hb, hr, hml, hown, hts, hX, hbl, hlocks, hgv⟩ := id C0
  have hbA : ¬ (fun q : Nat => s.heap.size ≤ q) b := Nat.not_le.mpr hbl
  obtain ⟨c1_, iS1, hKn1⟩ := u_known (C := RX1) (T := TX1) (N := 2) (n := 2) hts (fun w h => lw_all_tbl (in_X1 w h)) (hts _ (lw_all_tbl q16))
  obtain ⟨dJ, kJ, compJ, j1, j2, j3⟩ := Cond.arrayClass_spec (hts _ (lw_all_tbl q74))
  obtain ⟨dI, kI, compI, i1, i2, i3⟩ := Cond.arrayClass_spec (hts _ (lw_all_tbl q83))
  have hts : ∀ w ∈ lw_all, w.before #[Value.ref b] s = true := fun w h => hts w (lw_all_tbl h)
  obtain ⟨D, hKc⟩ : ∃ D : va_G, ∀ (k : Nat) (q : vw_C), zCl[k]? = some q → u_Kn s q.1 q.2.1 q.2.2 (D.1 k) (D.2 k) := by
    refine ⟨(fun _ => c1_, fun _ => iS1), ?_⟩
    intro k q hq
    match k, hq with
    | 0, hq => cases hq; exact hKn1
    | k + 1, hq => simp [zCl] at hq
  have hK : va_K D zCl (zTy dJ dI) s := by
    refine ⟨hKc, ?_⟩
    intro k q hq
    match k, hq with
    | 0, hq => cases hq; exact ⟨fun n z => ⟨fun k h => (by cases h), kJ, j2, compJ, j3⟩, j1⟩
    | 1, hq => cases hq; exact ⟨fun n z => ⟨fun k h => (by cases h), kI, i2, compI, i3⟩, i1⟩
    | k + 2, hq => simp [zTy] at hq
  have hw : zW D dJ dI (fun q : Nat => s.heap.size ≤ q) s [] s.heap [] := ⟨hK, fun k q h => by simp at h, ⟨fun i j p q h => by simp at h, fun k q h => by simp at h⟩, va_S.rf, fun q h => h⟩
  have hl := lv_entry ([.ref b]) (n := 17) (Nat.le_of_ble_eq_true rfl)
  rw [lg_entry_eq]
  generalize (lg_sl ([.ref b]) ++ List.replicate (17 - (lg_sl ([.ref b])).length) Slot.unset).toArray = ls at hl ⊢
  have hl : lv_has ls 17 [(0, .ref b)] := hl
  have S : CallFix p m c cL_law 17 s #[Value.ref b] lw_all RX0 := ⟨hx, hb, hml, hown, hts⟩
  have hown : s.vm.findClass RX0 = some m.cls := hown
  exact law_walk l hL hr hlocks S hX hbl hbA hw hl
end
section
set_option maxHeartbeats 4000000 in
theorem lw_walk (l : Launch) (hflags : l.flags = flags0) (b : Addr) (xs : List Int32) : MetFree l x (headSpec (Jvm.Cond.code x code maxLocals ret :: tables_1) room_1) (lw_P b xs) (fun _ _ _ _ _ => True) lw_Q := by
  refine MetFree.of_bodyS (code := code) (maxLocals := maxLocals) (ret := ret) (by decide) ?_ ?_
  · intro args s m h hn
    obtain ⟨meth, c, h1, h2, h3, h4, h5, h6, -, -⟩ := Cond.code_spec hn (atoms_spec (ws := Jvm.Cond.code x code maxLocals ret :: tables_1) h _ List.mem_cons_self)
    exact ⟨meth, c, h1, h2, h3, h4, h5, h6⟩
  · intro p e s m args below meth c s₁ B hml0 hP _
    obtain ⟨rfl, hx, hbd, hgv⟩ := hP
    obtain ⟨scr, harrAt, hlist, hof, hsmall⟩ := hx
    obtain ⟨hcb, hkn, -, -⟩ := State.arrayAt?_spec harrAt
    have hown : s.vm.findClass R_law = some m.cls := findClass_of_methodNamed B.named
    have hts0 : ∀ c ∈ (Jvm.Cond.code x code maxLocals ret :: tables_1), c.before #[Value.ref b] s = true := atoms_spec (ws := Jvm.Cond.code x code maxLocals ret :: tables_1) B.pre
    have hts : ∀ w ∈ lw_tbl, w.before #[Value.ref b] s = true := k2_hts_sels lw_privs (fun w hw => hts0 w (List.mem_cons_of_mem _ hw)) lw_privs_ok
    have hml : c.maxLocals = 17 := B.maxLocals_eq (hts0 _ List.mem_cons_self)
    have X₀ : Stand p l e room_1 s m #[Value.ref b] below meth c s₁ [] 0 0 := Stand.of_body B
    have hh0 : s₁.heap = s.heap := by rw [B.state]; rfl
    have hsz : scr.slots.size = xs.length := by rw [← Array.length_toList, hlist, List.length_map]
    have hval : ∀ j : Nat, j < xs.length → scr.slots[j]? = some (.int (xs.getD j 0)) := fun j hj => by
      rw [← Array.getElem?_toList, hlist]
      simp [hj]
    have hbl : b < s.heap.size := (Array.getElem?_eq_some_iff.mp hcb).1
    have hX : va_X b xs.length (fun j => xs.getD j 0) s s.heap := ⟨scr, hcb, hof, hkn, hsz, hval⟩
    have K : W p l e room_1 s m #[Value.ref b] below meth c s₁.heap [] 0 0 (lw_Z below #[Value.ref b] s) (entryFrame m ([Value.ref b] : List Value).toArray 17) := by
      rw [hh0]
      exact whole_start l hflags hbd ⟨B.exec, B.bytes, B.returns, hml, hown, hts, hX, hbl, B.notSynchronized, hgv⟩
    obtain ⟨t, a1, o, b1, b2, b3⟩ := K s₁ rfl X₀
    exact ⟨t, o, a1, b1, b2, b3⟩
theorem lw_pre_spec {args : Array Value} {s : State} (h : (Jvm.Cond.and given_1 narrow_1).before args s = true) (hr : rest_1_c.before args s = true) : ∃ (b : Addr) (xs : List Int32), lw_P b xs args s := by
  have hs := flat_of_before _ h
  have hq := flat_of_before _ hr
  have hc : (Cond.count 1).before args s = true := hs _ (by decide +kernel)
  have harr : (Cond.arrayOf (.arg 0) .int).before args s = true := hs _ (by decide +kernel)
  have hle : (Cond.le (.length (.arg 0)) (.int 50)).before args s = true := hs _ (by decide +kernel)
  have hlen : (Cond.isInt (.length (.arg 0))).before args s = true := hq _ (by decide +kernel)
  have hall : (Cond.all (.arg 0) (.isInt (.elem (.arg 0) (.index 0)))).before args s = true := hq _ (by decide +kernel)
  obtain ⟨b, xs, hb, hx⟩ := State.ints_of_pre rfl harr hlen hall
  have hsm : xs.length < 2 ^ 31 := hx.choose_spec.2.2.2
  have hev : (Term.length (.arg 0)).eval args s none [] s = some (.int xs.length.toInt32) := hx.length_eval hb
  have hv := Cond.le_ints hev (show (Term.int 50).eval args s none [] s = some (.int 50) from rfl)
  have hd : xs.length.toInt32 ≤ 50 := by
    simpa [Cond.before, Cond.holds, hv] using hle
  have hN : xs.length ≤ 50 := (Int32.ofNat_le_ofNat hsm (by decide)).mp (show Int32.ofNat xs.length ≤ Int32.ofNat 50 from hd)
  exact ⟨b, xs, Cond.one_arg hc (show args[0]? = some (.ref b) from hb), hx, hN, h⟩
theorem lw_comes (l : Launch) (hflags : l.flags = flags0) : Comes l x (Jvm.Cond.code x code maxLocals ret :: tables_1) room_1 (fun tb e args s => Calls_1 tb e args s ∧ rest_1 tb e args s ∧ Pre_1 tb e args s)
    (fun _ _ args s o t => lw_Q args s o t) := by
  intro p e ha hc hk s m args below hf hfit hheap happ hpre
  obtain ⟨b, xs, hP⟩ := lw_pre_spec hpre.2.2 hpre.2.1
  obtain ⟨k, o, h1, h2, h3, hQ⟩ := lw_walk l hflags b xs p e ha hc hk s m args below hf ((Spec.applies_iff_loose hf).mp happ).1 hP trivial
  exact ⟨k, o, h1, h2, h3, hQ⟩
theorem lw_frame {s t : State} {o : Outcome} {args : Array Value} (h : Framed s o t [] 1200000 5502250) :
    Framed s o t (fieldLocs frame_1_writes args s ++ arrayLocs frame_1_arrays args s ++ staticLocs frame_1_statics s) 1200000 5502250 := h
theorem lw_limb (L : Cond) (hL : ∀ (args : Array Value) (s t : State), L.after args s (.returned (some (.int 1))) t = true) :
    ArmFor flags0 classFile x code maxLocals ret World_1 tables_1 room_1 Calls_1 rest_1 Pre_1
      (fun tb e a s o t => postC L tb e a s o t ∧ Framed s o t (fieldLocs frame_1_writes a s ++ arrayLocs frame_1_arrays a s ++ staticLocs frame_1_statics s) 1200000 5502250) := by
  intro l hflags _ _ p e ha hc hk s m args below hf hfit hheap happ hpre
  obtain ⟨k, o, h1, h2, h3, rfl, hF⟩ := lw_comes l hflags p e ha hc hk s m args below hf hfit hheap happ hpre
  exact ⟨k, _, h1, h2, h3, hL args s _, lw_frame hF⟩
theorem i_vc : Claimed_1_1 ∧ Claimed_1_2 := ⟨lw_limb limb_1_1 (fun args s t => by simp [limb_1_1, Cond.after, Cond.holds, Cond.value]), lw_limb limb_1_2 (fun args s t => Cond.after_iff.mpr (by
  first | (rw [show limb_1_2 = Cond.eq .result (.int 1) from rfl, Cond.eq_ints (x := 1) (y := 1) rfl rfl]; simp; done) | (simp [limb_1_2, Cond.value, Term.eval]; done)))⟩
end
