section
-- ===== PART A: goes FIRST, ahead of the names: the tables' words, and 'selects' of the private methods out of them =====
/-- a private method of a class that the tables say can be made, by its rows of tables_1 -/
def lw_okq (q : MethodName × Nat) : Prop := (q.1.cls ≠ "java/lang/invoke/MethodHandle" ∧ q.1.cls ≠ "java/lang/invoke/VarHandle") ∧ Cond.instantiable q.1.cls q.2 ∈ tables_1 ∧ Cond.privateMethod q.1 ∈ tables_1 ∧ Cond.instanceMethod q.1 ∈ tables_1
set_option maxRecDepth 100000
theorem lw_p0 : lw_okq (⟨"LetterDesk", "from", "(I)I"⟩, 3) := ⟨⟨by decide +kernel, by decide +kernel⟩, List.mem_of_getElem? (i := 8) rfl, List.mem_of_getElem? (i := 104) rfl, List.mem_of_getElem? (i := 105) rfl⟩
theorem lw_p1 : lw_okq (⟨"LetterDesk", "count", "(II)I"⟩, 3) := ⟨⟨by decide +kernel, by decide +kernel⟩, List.mem_of_getElem? (i := 8) rfl, List.mem_of_getElem? (i := 108) rfl, List.mem_of_getElem? (i := 109) rfl⟩
theorem lw_p2 : lw_okq (⟨"Base32Encoder", "encodeBlock", "([BI[BI)V"⟩, 3) := ⟨⟨by decide +kernel, by decide +kernel⟩, List.mem_of_getElem? (i := 165) rfl, List.mem_of_getElem? (i := 195) rfl, List.mem_of_getElem? (i := 196) rfl⟩
def lw_privs_1 : List (MethodName × Nat) := [(⟨"LetterDesk", "from", "(I)I"⟩, 3), (⟨"LetterDesk", "count", "(II)I"⟩, 3), (⟨"Base32Encoder", "encodeBlock", "([BI[BI)V"⟩, 3)]
theorem lw_r1 : ∀ q ∈ lw_privs_1, lw_okq q := List.forall_mem_cons.mpr ⟨lw_p0, List.forall_mem_cons.mpr ⟨lw_p1, List.forall_mem_cons.mpr ⟨lw_p2, fun _ h => absurd h List.not_mem_nil⟩⟩⟩
def lw_privs : List (MethodName × Nat) := lw_privs_1
def lw_tbl : List Cond := k2_sels lw_privs ++ tables_1
theorem lw_privs_ok : ∀ q ∈ lw_privs, lw_okq q := lw_r1
-- ===== ONE list of words for every method: the tables' words that hold all through a run =====
def lw_all : List Cond := lw_tbl.filter goodWord
/-- a word of the tables by its place: claim/WORDS.tsv -/
theorem lw_w {w : Cond} (i : Nat) (h : lw_tbl[i]? = some w) (g : goodWord w = true) : w ∈ lw_all := List.mem_filter.mpr ⟨List.mem_of_getElem? h, g⟩
theorem lw_all_tbl {w : Cond} (h : w ∈ lw_all) : w ∈ lw_tbl := (List.mem_filter.mp h).1
theorem lw_self : GoodIn lw_all lw_all := fun w h => ⟨h, good_of_word (List.mem_filter.mp h).2⟩
/-- a class's field words, by their places -/
theorem lw_in (ws : List Cond) (ps : List Nat) (hp : ws = ps.filterMap (fun i => lw_tbl[i]?)) (hg : ws.all goodWord = true) : ∀ w ∈ ws, w ∈ lw_all := by
  intro w h
  have h1 := List.all_eq_true.mp hg w h
  rw [hp] at h
  obtain ⟨i, -, hi⟩ := List.mem_filterMap.mp h
  exact lw_w i hi h1
/-- the words of a contract for the method y with code b, L locals, answer r -/
abbrev ws_ (y : MethodName) (b : ByteArray) (L : Nat) (r : Option FieldType) : List Cond := Cond.code y b L r :: lw_all
theorem lw_meth {y : MethodName} {b : ByteArray} {L : Nat} {r : Option FieldType} (h : Cond.code y b L r ∈ lw_all) : GoodIn lw_all (ws_ y b L r) := by
  intro w hw
  rcases List.mem_cons.mp hw with e | e
  · rw [e]
    exact lw_self _ h
  · exact lw_self _ e
theorem lw_app {a c : List Cond} (ha : ∀ w ∈ a, w ∈ lw_all) (hc : GoodIn lw_all c) : GoodIn lw_all (a ++ c) := by
  intro w hw
  rcases List.mem_append.mp hw with e | e
  · exact lw_self w (ha w e)
  · exact hc w e
/-- what a call through an object asks: cwV n hts (lw_V ..) -/
theorem lw_V {own : String} {idx : Nat} {C : String} {y : MethodName} {b : ByteArray} {L : Nat} {r : Option FieldType} (h1 : Cond.methodLink own idx y ∈ lw_all) (h2 : Cond.instanceMethod y ∈ lw_all) (h3 : Cond.selects C y y ∈ lw_all) (h4 : Cond.initialized C ∈ lw_all) (h5 : Cond.code y b L r ∈ lw_all) : GoodIn lw_all (wsV own idx C y (ws_ y b L r)) := by
  refine lw_app ?_ (lw_meth h5)
  intro w hw
  simp only [List.mem_cons, List.not_mem_nil, or_false] at hw
  rcases hw with e | e | e | e
  · rw [e]; exact h1
  · rw [e]; exact h2
  · rw [e]; exact h3
  · rw [e]; exact h4
/-- what a static call asks: va_cwS n hts (lw_S ..) -/
theorem lw_S {own : String} {idx : Nat} {y : MethodName} {b : ByteArray} {L : Nat} {r : Option FieldType} (h1 : Cond.methodLink own idx y ∈ lw_all) (h2 : Cond.static y ∈ lw_all) (h3 : Cond.initialized y.cls ∈ lw_all) (h4 : Cond.code y b L r ∈ lw_all) : GoodIn lw_all (va_wsS own idx y (ws_ y b L r)) := by
  refine lw_app ?_ (lw_meth h4)
  intro w hw
  simp only [List.mem_cons, List.not_mem_nil, or_false] at hw
  rcases hw with e | e | e
  · rw [e]; exact h1
  · rw [e]; exact h2
  · rw [e]; exact h3
/-- the words of a contract for a method WITH HANDLERS (hh: its table) -/
abbrev wsW_ (y : MethodName) (b : ByteArray) (L : Nat) (r : Option FieldType) (hh : List (Nat × Nat × Nat × Nat)) : List Cond := Cond.codeWith y b L r hh :: lw_all
theorem lw_methW {y : MethodName} {b : ByteArray} {L : Nat} {r : Option FieldType} {hh : List (Nat × Nat × Nat × Nat)} (h : Cond.codeWith y b L r hh ∈ lw_all) : GoodIn lw_all (wsW_ y b L r hh) := by
  intro w hw
  rcases List.mem_cons.mp hw with e | e
  · rw [e]
    exact lw_self _ h
  · exact lw_self _ e
/-- any list of words by their places (lw_in), good -/
theorem lw_good {ws : List Cond} (h : ∀ w ∈ ws, w ∈ lw_all) : GoodIn lw_all ws := fun w hw => lw_self w (h w hw)
/-- what a call of a method with handlers asks: vx_cwVW n hts (lw_VW ..), vx_cwSW n hts (lw_SW ..) -/
theorem lw_VW {own : String} {idx : Nat} {C : String} {y : MethodName} {b : ByteArray} {L : Nat} {r : Option FieldType} {hh : List (Nat × Nat × Nat × Nat)} (h1 : Cond.methodLink own idx y ∈ lw_all) (h2 : Cond.instanceMethod y ∈ lw_all) (h3 : Cond.selects C y y ∈ lw_all) (h4 : Cond.initialized C ∈ lw_all) (h5 : Cond.codeWith y b L r hh ∈ lw_all) : GoodIn lw_all (wsV own idx C y (wsW_ y b L r hh)) := by
  refine lw_app ?_ (lw_methW h5)
  intro w hw
  simp only [List.mem_cons, List.not_mem_nil, or_false] at hw
  rcases hw with e | e | e | e
  · rw [e]; exact h1
  · rw [e]; exact h2
  · rw [e]; exact h3
  · rw [e]; exact h4
theorem lw_SW {own : String} {idx : Nat} {y : MethodName} {b : ByteArray} {L : Nat} {r : Option FieldType} {hh : List (Nat × Nat × Nat × Nat)} (h1 : Cond.methodLink own idx y ∈ lw_all) (h2 : Cond.static y ∈ lw_all) (h3 : Cond.initialized y.cls ∈ lw_all) (h4 : Cond.codeWith y b L r hh ∈ lw_all) : GoodIn lw_all (va_wsS own idx y (wsW_ y b L r hh)) := by
  refine lw_app ?_ (lw_methW h4)
  intro w hw
  simp only [List.mem_cons, List.not_mem_nil, or_false] at hw
  rcases hw with e | e | e
  · rw [e]; exact h1
  · rw [e]; exact h2
  · rw [e]; exact h3
/-- a word by its place in its run of the tables -/
theorem lw_at {r : List Cond} (hr : ∀ w ∈ r, w ∈ lw_tbl) {w : Cond} (i : Nat) (h : r[i]? = some w) : w ∈ lw_tbl := hr w (List.mem_of_getElem? h)
theorem lw_g {w : Cond} (h : w ∈ lw_tbl) (g : goodWord w = true) : w ∈ lw_all := List.mem_filter.mpr ⟨h, g⟩
theorem lw_ms : ∀ w ∈ k2_sels lw_privs, w ∈ lw_tbl := fun w h => show w ∈ k2_sels lw_privs ++ tables_1 from List.mem_append_left _ h
theorem lw_m0 : ∀ w ∈ tables_1, w ∈ lw_tbl := fun w h => show w ∈ k2_sels lw_privs ++ tables_1 from List.mem_append_right (k2_sels lw_privs) h
theorem qs0 : (Cond.selects "LetterDesk" ⟨"LetterDesk", "from", "(I)I"⟩ ⟨"LetterDesk", "from", "(I)I"⟩) ∈ lw_all := lw_g (lw_at lw_ms 0 rfl) rfl
theorem qs1 : (Cond.selects "LetterDesk" ⟨"LetterDesk", "count", "(II)I"⟩ ⟨"LetterDesk", "count", "(II)I"⟩) ∈ lw_all := lw_g (lw_at lw_ms 1 rfl) rfl
theorem qs2 : (Cond.selects "Base32Encoder" ⟨"Base32Encoder", "encodeBlock", "([BI[BI)V"⟩ ⟨"Base32Encoder", "encodeBlock", "([BI[BI)V"⟩) ∈ lw_all := lw_g (lw_at lw_ms 2 rfl) rfl
-- ===== end of PART A; then your names; then what follows =====
/-! DECODE ROWS BY BYTES: one lemma an opcode; a method's code is cut into short pieces once, and a row reads its own piece alone. -/
set_option maxRecDepth 100000
/-- the code has just these bytes from pc on -/
def DkAt (code : ByteArray) (pc : Nat) (bs : List UInt8) : Prop := ∀ (j : Nat) (b : UInt8), bs[j]? = some b → code.data.toList[pc + j]? = some b
/-- the piece W has the bytes bs from its place j on -/
def dkIn (W : List UInt8) (j : Nat) (bs : List UInt8) : Bool := decide ((W.drop j).take bs.length = bs)
theorem dk_seg {l W T : List UInt8} {o o2 : Nat} (h : l.drop o = W ++ T) (n : Nat) (hn : W.length = n) (ho : o + n = o2) : l.drop o2 = T := by
  subst ho
  rw [← List.drop_drop, h, List.drop_left' hn]
theorem dk_at {code : ByteArray} {W T bs : List UInt8} {o pc : Nat} (h : code.data.toList.drop o = W ++ T) (j : Nat) (hp : o + j = pc) (hw : dkIn W j bs = true) : DkAt code pc bs := by
  subst hp
  intro i b e
  have h1 := of_decide_eq_true hw
  have h2 : i < bs.length := (List.getElem?_eq_some_iff.mp e).1
  have h3 : W[j + i]? = some b := by
    rw [← h1, List.getElem?_take, if_pos h2, List.getElem?_drop] at e
    exact e
  have h4 : j + i < W.length := (List.getElem?_eq_some_iff.mp h3).1
  have h5 : (code.data.toList.drop o)[j + i]? = some b := by
    rw [h, List.getElem?_append_left h4]
    exact h3
  rw [List.getElem?_drop, ← Nat.add_assoc] at h5
  exact h5
theorem dk_u1 {A : ByteArray} {p : Nat} {b : UInt8} (h : A.data.toList[p]? = some b) : (Reader.u1 : Reader DecodeError Nat) A p = .ok (b.toNat, p + 1) := by
  obtain ⟨h1, h2⟩ := List.getElem?_eq_some_iff.mp h
  have h3 : p < A.size := by simpa using h1
  have h4 : A[p]'h3 = b := h2
  have e : (Reader.u1 : Reader DecodeError Nat) A p = (if h : p < A.size then .ok (A[p].toNat, p + 1) else .error (HasTruncated.truncated p)) := by
    show (do if h : p < A.size then do set (p + 1); Pure.pure A[p].toNat else MonadExcept.throw (HasTruncated.truncated p) : Reader DecodeError Nat) A p = _
    by_cases hi : p < A.size
    · rw [dif_pos hi, dif_pos hi]; rfl
    · rw [dif_neg hi, dif_neg hi]; rfl
  rw [e, dif_pos h3, h4]
theorem dk_bind {α β : Type} {r : Reader DecodeError α} {f : α → Reader DecodeError β} {A : ByteArray} {p s : Nat} {a : α} (h : r A p = .ok (a, s)) : (r >>= f) A p = f a A s := by
  show (do let (a, s) ← r A p; f a A s : Except DecodeError (β × Nat)) = _
  rw [h]
  rfl
theorem dk_map {α β : Type} {r : Reader DecodeError α} {g : α → β} {A : ByteArray} {p s : Nat} {a : α} (h : r A p = .ok (a, s)) : (g <$> r) A p = .ok (g a, s) := by
  show (do let (a, s) ← r A p; .ok (g a, s) : Except DecodeError (β × Nat)) = _
  rw [h]
  rfl
theorem dk_u2 {A : ByteArray} {p : Nat} {a b : UInt8} (h : A.data.toList[p]? = some a) (h2 : A.data.toList[p + 1]? = some b) : (Reader.u2 : Reader DecodeError Nat) A p = .ok (a.toNat * 256 + b.toNat, p + 2) := by
  show (Reader.u1 >>= fun hi => Reader.u1 >>= fun lo => Pure.pure (hi * 256 + lo) : Reader DecodeError Nat) A p = _
  rw [dk_bind (dk_u1 h), dk_bind (dk_u1 h2)]
  rfl
theorem dk_of {code : ByteArray} {pc n : Nat} {i : Instr} (h : Decoder.instr pc code pc = .ok (i, pc + n)) : decode code pc = .ok (i, n) := by
  have e : decode code pc = (match Decoder.instr pc code pc with | .error x => .error x | .ok (j, s) => .ok (j, s - pc)) := by
    show (do let (j, s) ← Decoder.instr pc code pc; Pure.pure (j, s - pc) : Except DecodeError (Instr × Nat)) = _
    cases Decoder.instr pc code pc <;> rfl
  rw [e, h]
  show Except.ok (i, pc + n - pc) = _
  rw [Nat.add_sub_cancel_left]
theorem dk_2 {code : ByteArray} {pc : Nat} (h : DkAt code pc [2]) : decode code pc = .ok (.iconst (-1), 1) := dk_of ((dk_bind (dk_u1 (h 0 _ rfl))).trans rfl)
theorem dk_3 {code : ByteArray} {pc : Nat} (h : DkAt code pc [3]) : decode code pc = .ok (.iconst 0, 1) := dk_of ((dk_bind (dk_u1 (h 0 _ rfl))).trans rfl)
theorem dk_4 {code : ByteArray} {pc : Nat} (h : DkAt code pc [4]) : decode code pc = .ok (.iconst 1, 1) := dk_of ((dk_bind (dk_u1 (h 0 _ rfl))).trans rfl)
theorem dk_5 {code : ByteArray} {pc : Nat} (h : DkAt code pc [5]) : decode code pc = .ok (.iconst 2, 1) := dk_of ((dk_bind (dk_u1 (h 0 _ rfl))).trans rfl)
theorem dk_6 {code : ByteArray} {pc : Nat} (h : DkAt code pc [6]) : decode code pc = .ok (.iconst 3, 1) := dk_of ((dk_bind (dk_u1 (h 0 _ rfl))).trans rfl)
theorem dk_7 {code : ByteArray} {pc : Nat} (h : DkAt code pc [7]) : decode code pc = .ok (.iconst 4, 1) := dk_of ((dk_bind (dk_u1 (h 0 _ rfl))).trans rfl)
theorem dk_8 {code : ByteArray} {pc : Nat} (h : DkAt code pc [8]) : decode code pc = .ok (.iconst 5, 1) := dk_of ((dk_bind (dk_u1 (h 0 _ rfl))).trans rfl)
theorem dk_9 {code : ByteArray} {pc : Nat} (h : DkAt code pc [9]) : decode code pc = .ok (.lconst 0, 1) := dk_of ((dk_bind (dk_u1 (h 0 _ rfl))).trans rfl)
theorem dk_16 {code : ByteArray} {pc : Nat} (a : UInt8) (h : DkAt code pc [16, a]) : decode code pc = .ok (.bipush (Reader.signed 8 a.toNat), 2) := dk_of ((dk_bind (dk_u1 (h 0 _ rfl))).trans ((dk_bind (dk_map (dk_u1 (h 1 _ rfl)))).trans rfl))
theorem dk_17 {code : ByteArray} {pc : Nat} (a b : UInt8) (h : DkAt code pc [17, a, b]) : decode code pc = .ok (.sipush (Reader.signed 16 (a.toNat * 256 + b.toNat)), 3) := dk_of ((dk_bind (dk_u1 (h 0 _ rfl))).trans ((dk_bind (dk_map (dk_u2 (h 1 _ rfl) (h 2 _ rfl)))).trans rfl))
theorem dk_18 {code : ByteArray} {pc : Nat} (a : UInt8) (h : DkAt code pc [18, a]) : decode code pc = .ok (.ldc a.toNat, 2) := dk_of ((dk_bind (dk_u1 (h 0 _ rfl))).trans ((dk_bind (dk_u1 (h 1 _ rfl))).trans rfl))
theorem dk_20 {code : ByteArray} {pc : Nat} (a b : UInt8) (h : DkAt code pc [20, a, b]) : decode code pc = .ok (.ldc2_w (a.toNat * 256 + b.toNat), 3) := dk_of ((dk_bind (dk_u1 (h 0 _ rfl))).trans ((dk_bind (dk_u2 (h 1 _ rfl) (h 2 _ rfl))).trans rfl))
theorem dk_21 {code : ByteArray} {pc : Nat} (a : UInt8) (h : DkAt code pc [21, a]) : decode code pc = .ok (.iload a.toNat, 2) := dk_of ((dk_bind (dk_u1 (h 0 _ rfl))).trans ((dk_bind (dk_u1 (h 1 _ rfl))).trans rfl))
theorem dk_25 {code : ByteArray} {pc : Nat} (a : UInt8) (h : DkAt code pc [25, a]) : decode code pc = .ok (.aload a.toNat, 2) := dk_of ((dk_bind (dk_u1 (h 0 _ rfl))).trans ((dk_bind (dk_u1 (h 1 _ rfl))).trans rfl))
theorem dk_26 {code : ByteArray} {pc : Nat} (h : DkAt code pc [26]) : decode code pc = .ok (.iload_n 0, 1) := dk_of ((dk_bind (dk_u1 (h 0 _ rfl))).trans rfl)
theorem dk_27 {code : ByteArray} {pc : Nat} (h : DkAt code pc [27]) : decode code pc = .ok (.iload_n 1, 1) := dk_of ((dk_bind (dk_u1 (h 0 _ rfl))).trans rfl)
theorem dk_28 {code : ByteArray} {pc : Nat} (h : DkAt code pc [28]) : decode code pc = .ok (.iload_n 2, 1) := dk_of ((dk_bind (dk_u1 (h 0 _ rfl))).trans rfl)
theorem dk_29 {code : ByteArray} {pc : Nat} (h : DkAt code pc [29]) : decode code pc = .ok (.iload_n 3, 1) := dk_of ((dk_bind (dk_u1 (h 0 _ rfl))).trans rfl)
theorem dk_31 {code : ByteArray} {pc : Nat} (h : DkAt code pc [31]) : decode code pc = .ok (.lload_n 1, 1) := dk_of ((dk_bind (dk_u1 (h 0 _ rfl))).trans rfl)
theorem dk_33 {code : ByteArray} {pc : Nat} (h : DkAt code pc [33]) : decode code pc = .ok (.lload_n 3, 1) := dk_of ((dk_bind (dk_u1 (h 0 _ rfl))).trans rfl)
theorem dk_42 {code : ByteArray} {pc : Nat} (h : DkAt code pc [42]) : decode code pc = .ok (.aload_n 0, 1) := dk_of ((dk_bind (dk_u1 (h 0 _ rfl))).trans rfl)
theorem dk_43 {code : ByteArray} {pc : Nat} (h : DkAt code pc [43]) : decode code pc = .ok (.aload_n 1, 1) := dk_of ((dk_bind (dk_u1 (h 0 _ rfl))).trans rfl)
theorem dk_44 {code : ByteArray} {pc : Nat} (h : DkAt code pc [44]) : decode code pc = .ok (.aload_n 2, 1) := dk_of ((dk_bind (dk_u1 (h 0 _ rfl))).trans rfl)
theorem dk_45 {code : ByteArray} {pc : Nat} (h : DkAt code pc [45]) : decode code pc = .ok (.aload_n 3, 1) := dk_of ((dk_bind (dk_u1 (h 0 _ rfl))).trans rfl)
theorem dk_46 {code : ByteArray} {pc : Nat} (h : DkAt code pc [46]) : decode code pc = .ok (.iaload, 1) := dk_of ((dk_bind (dk_u1 (h 0 _ rfl))).trans rfl)
theorem dk_51 {code : ByteArray} {pc : Nat} (h : DkAt code pc [51]) : decode code pc = .ok (.baload, 1) := dk_of ((dk_bind (dk_u1 (h 0 _ rfl))).trans rfl)
theorem dk_54 {code : ByteArray} {pc : Nat} (a : UInt8) (h : DkAt code pc [54, a]) : decode code pc = .ok (.istore a.toNat, 2) := dk_of ((dk_bind (dk_u1 (h 0 _ rfl))).trans ((dk_bind (dk_u1 (h 1 _ rfl))).trans rfl))
theorem dk_58 {code : ByteArray} {pc : Nat} (a : UInt8) (h : DkAt code pc [58, a]) : decode code pc = .ok (.astore a.toNat, 2) := dk_of ((dk_bind (dk_u1 (h 0 _ rfl))).trans ((dk_bind (dk_u1 (h 1 _ rfl))).trans rfl))
theorem dk_60 {code : ByteArray} {pc : Nat} (h : DkAt code pc [60]) : decode code pc = .ok (.istore_n 1, 1) := dk_of ((dk_bind (dk_u1 (h 0 _ rfl))).trans rfl)
theorem dk_62 {code : ByteArray} {pc : Nat} (h : DkAt code pc [62]) : decode code pc = .ok (.istore_n 3, 1) := dk_of ((dk_bind (dk_u1 (h 0 _ rfl))).trans rfl)
theorem dk_64 {code : ByteArray} {pc : Nat} (h : DkAt code pc [64]) : decode code pc = .ok (.lstore_n 1, 1) := dk_of ((dk_bind (dk_u1 (h 0 _ rfl))).trans rfl)
theorem dk_66 {code : ByteArray} {pc : Nat} (h : DkAt code pc [66]) : decode code pc = .ok (.lstore_n 3, 1) := dk_of ((dk_bind (dk_u1 (h 0 _ rfl))).trans rfl)
theorem dk_76 {code : ByteArray} {pc : Nat} (h : DkAt code pc [76]) : decode code pc = .ok (.astore_n 1, 1) := dk_of ((dk_bind (dk_u1 (h 0 _ rfl))).trans rfl)
theorem dk_77 {code : ByteArray} {pc : Nat} (h : DkAt code pc [77]) : decode code pc = .ok (.astore_n 2, 1) := dk_of ((dk_bind (dk_u1 (h 0 _ rfl))).trans rfl)
theorem dk_79 {code : ByteArray} {pc : Nat} (h : DkAt code pc [79]) : decode code pc = .ok (.iastore, 1) := dk_of ((dk_bind (dk_u1 (h 0 _ rfl))).trans rfl)
theorem dk_84 {code : ByteArray} {pc : Nat} (h : DkAt code pc [84]) : decode code pc = .ok (.bastore, 1) := dk_of ((dk_bind (dk_u1 (h 0 _ rfl))).trans rfl)
theorem dk_89 {code : ByteArray} {pc : Nat} (h : DkAt code pc [89]) : decode code pc = .ok (.dup, 1) := dk_of ((dk_bind (dk_u1 (h 0 _ rfl))).trans rfl)
theorem dk_96 {code : ByteArray} {pc : Nat} (h : DkAt code pc [96]) : decode code pc = .ok (.iadd, 1) := dk_of ((dk_bind (dk_u1 (h 0 _ rfl))).trans rfl)
theorem dk_97 {code : ByteArray} {pc : Nat} (h : DkAt code pc [97]) : decode code pc = .ok (.ladd, 1) := dk_of ((dk_bind (dk_u1 (h 0 _ rfl))).trans rfl)
theorem dk_100 {code : ByteArray} {pc : Nat} (h : DkAt code pc [100]) : decode code pc = .ok (.isub, 1) := dk_of ((dk_bind (dk_u1 (h 0 _ rfl))).trans rfl)
theorem dk_104 {code : ByteArray} {pc : Nat} (h : DkAt code pc [104]) : decode code pc = .ok (.imul, 1) := dk_of ((dk_bind (dk_u1 (h 0 _ rfl))).trans rfl)
theorem dk_105 {code : ByteArray} {pc : Nat} (h : DkAt code pc [105]) : decode code pc = .ok (.lmul, 1) := dk_of ((dk_bind (dk_u1 (h 0 _ rfl))).trans rfl)
theorem dk_108 {code : ByteArray} {pc : Nat} (h : DkAt code pc [108]) : decode code pc = .ok (.idiv, 1) := dk_of ((dk_bind (dk_u1 (h 0 _ rfl))).trans rfl)
theorem dk_112 {code : ByteArray} {pc : Nat} (h : DkAt code pc [112]) : decode code pc = .ok (.irem, 1) := dk_of ((dk_bind (dk_u1 (h 0 _ rfl))).trans rfl)
theorem dk_120 {code : ByteArray} {pc : Nat} (h : DkAt code pc [120]) : decode code pc = .ok (.ishl, 1) := dk_of ((dk_bind (dk_u1 (h 0 _ rfl))).trans rfl)
theorem dk_122 {code : ByteArray} {pc : Nat} (h : DkAt code pc [122]) : decode code pc = .ok (.ishr, 1) := dk_of ((dk_bind (dk_u1 (h 0 _ rfl))).trans rfl)
theorem dk_124 {code : ByteArray} {pc : Nat} (h : DkAt code pc [124]) : decode code pc = .ok (.iushr, 1) := dk_of ((dk_bind (dk_u1 (h 0 _ rfl))).trans rfl)
theorem dk_126 {code : ByteArray} {pc : Nat} (h : DkAt code pc [126]) : decode code pc = .ok (.iand, 1) := dk_of ((dk_bind (dk_u1 (h 0 _ rfl))).trans rfl)
theorem dk_128 {code : ByteArray} {pc : Nat} (h : DkAt code pc [128]) : decode code pc = .ok (.ior, 1) := dk_of ((dk_bind (dk_u1 (h 0 _ rfl))).trans rfl)
theorem dk_130 {code : ByteArray} {pc : Nat} (h : DkAt code pc [130]) : decode code pc = .ok (.ixor, 1) := dk_of ((dk_bind (dk_u1 (h 0 _ rfl))).trans rfl)
theorem dk_132 {code : ByteArray} {pc : Nat} (a b : UInt8) (h : DkAt code pc [132, a, b]) : decode code pc = .ok (.iinc a.toNat (Reader.signed 8 b.toNat), 3) := dk_of ((dk_bind (dk_u1 (h 0 _ rfl))).trans ((dk_bind (dk_u1 (h 1 _ rfl))).trans ((dk_bind (dk_map (dk_u1 (h 2 _ rfl)))).trans rfl)))
theorem dk_133 {code : ByteArray} {pc : Nat} (h : DkAt code pc [133]) : decode code pc = .ok (.i2l, 1) := dk_of ((dk_bind (dk_u1 (h 0 _ rfl))).trans rfl)
theorem dk_145 {code : ByteArray} {pc : Nat} (h : DkAt code pc [145]) : decode code pc = .ok (.i2b, 1) := dk_of ((dk_bind (dk_u1 (h 0 _ rfl))).trans rfl)
theorem dk_148 {code : ByteArray} {pc : Nat} (h : DkAt code pc [148]) : decode code pc = .ok (.lcmp, 1) := dk_of ((dk_bind (dk_u1 (h 0 _ rfl))).trans rfl)
theorem dk_153 {code : ByteArray} {pc : Nat} (a b : UInt8) (h : DkAt code pc [153, a, b]) : decode code pc = .ok (.ifCond .eq (Reader.signed 16 (a.toNat * 256 + b.toNat)), 3) := dk_of ((dk_bind (dk_u1 (h 0 _ rfl))).trans ((dk_bind (dk_map (dk_u2 (h 1 _ rfl) (h 2 _ rfl)))).trans rfl))
theorem dk_154 {code : ByteArray} {pc : Nat} (a b : UInt8) (h : DkAt code pc [154, a, b]) : decode code pc = .ok (.ifCond .ne (Reader.signed 16 (a.toNat * 256 + b.toNat)), 3) := dk_of ((dk_bind (dk_u1 (h 0 _ rfl))).trans ((dk_bind (dk_map (dk_u2 (h 1 _ rfl) (h 2 _ rfl)))).trans rfl))
theorem dk_158 {code : ByteArray} {pc : Nat} (a b : UInt8) (h : DkAt code pc [158, a, b]) : decode code pc = .ok (.ifCond .le (Reader.signed 16 (a.toNat * 256 + b.toNat)), 3) := dk_of ((dk_bind (dk_u1 (h 0 _ rfl))).trans ((dk_bind (dk_map (dk_u2 (h 1 _ rfl) (h 2 _ rfl)))).trans rfl))
theorem dk_159 {code : ByteArray} {pc : Nat} (a b : UInt8) (h : DkAt code pc [159, a, b]) : decode code pc = .ok (.if_icmp .eq (Reader.signed 16 (a.toNat * 256 + b.toNat)), 3) := dk_of ((dk_bind (dk_u1 (h 0 _ rfl))).trans ((dk_bind (dk_map (dk_u2 (h 1 _ rfl) (h 2 _ rfl)))).trans rfl))
theorem dk_160 {code : ByteArray} {pc : Nat} (a b : UInt8) (h : DkAt code pc [160, a, b]) : decode code pc = .ok (.if_icmp .ne (Reader.signed 16 (a.toNat * 256 + b.toNat)), 3) := dk_of ((dk_bind (dk_u1 (h 0 _ rfl))).trans ((dk_bind (dk_map (dk_u2 (h 1 _ rfl) (h 2 _ rfl)))).trans rfl))
theorem dk_162 {code : ByteArray} {pc : Nat} (a b : UInt8) (h : DkAt code pc [162, a, b]) : decode code pc = .ok (.if_icmp .ge (Reader.signed 16 (a.toNat * 256 + b.toNat)), 3) := dk_of ((dk_bind (dk_u1 (h 0 _ rfl))).trans ((dk_bind (dk_map (dk_u2 (h 1 _ rfl) (h 2 _ rfl)))).trans rfl))
theorem dk_163 {code : ByteArray} {pc : Nat} (a b : UInt8) (h : DkAt code pc [163, a, b]) : decode code pc = .ok (.if_icmp .gt (Reader.signed 16 (a.toNat * 256 + b.toNat)), 3) := dk_of ((dk_bind (dk_u1 (h 0 _ rfl))).trans ((dk_bind (dk_map (dk_u2 (h 1 _ rfl) (h 2 _ rfl)))).trans rfl))
theorem dk_164 {code : ByteArray} {pc : Nat} (a b : UInt8) (h : DkAt code pc [164, a, b]) : decode code pc = .ok (.if_icmp .le (Reader.signed 16 (a.toNat * 256 + b.toNat)), 3) := dk_of ((dk_bind (dk_u1 (h 0 _ rfl))).trans ((dk_bind (dk_map (dk_u2 (h 1 _ rfl) (h 2 _ rfl)))).trans rfl))
theorem dk_167 {code : ByteArray} {pc : Nat} (a b : UInt8) (h : DkAt code pc [167, a, b]) : decode code pc = .ok (.goto (Reader.signed 16 (a.toNat * 256 + b.toNat)), 3) := dk_of ((dk_bind (dk_u1 (h 0 _ rfl))).trans ((dk_bind (dk_map (dk_u2 (h 1 _ rfl) (h 2 _ rfl)))).trans rfl))
theorem dk_172 {code : ByteArray} {pc : Nat} (h : DkAt code pc [172]) : decode code pc = .ok (.ireturn, 1) := dk_of ((dk_bind (dk_u1 (h 0 _ rfl))).trans rfl)
theorem dk_173 {code : ByteArray} {pc : Nat} (h : DkAt code pc [173]) : decode code pc = .ok (.lreturn, 1) := dk_of ((dk_bind (dk_u1 (h 0 _ rfl))).trans rfl)
theorem dk_176 {code : ByteArray} {pc : Nat} (h : DkAt code pc [176]) : decode code pc = .ok (.areturn, 1) := dk_of ((dk_bind (dk_u1 (h 0 _ rfl))).trans rfl)
theorem dk_177 {code : ByteArray} {pc : Nat} (h : DkAt code pc [177]) : decode code pc = .ok (.return_, 1) := dk_of ((dk_bind (dk_u1 (h 0 _ rfl))).trans rfl)
theorem dk_178 {code : ByteArray} {pc : Nat} (a b : UInt8) (h : DkAt code pc [178, a, b]) : decode code pc = .ok (.getstatic (a.toNat * 256 + b.toNat), 3) := dk_of ((dk_bind (dk_u1 (h 0 _ rfl))).trans ((dk_bind (dk_u2 (h 1 _ rfl) (h 2 _ rfl))).trans rfl))
theorem dk_180 {code : ByteArray} {pc : Nat} (a b : UInt8) (h : DkAt code pc [180, a, b]) : decode code pc = .ok (.getfield (a.toNat * 256 + b.toNat), 3) := dk_of ((dk_bind (dk_u1 (h 0 _ rfl))).trans ((dk_bind (dk_u2 (h 1 _ rfl) (h 2 _ rfl))).trans rfl))
theorem dk_181 {code : ByteArray} {pc : Nat} (a b : UInt8) (h : DkAt code pc [181, a, b]) : decode code pc = .ok (.putfield (a.toNat * 256 + b.toNat), 3) := dk_of ((dk_bind (dk_u1 (h 0 _ rfl))).trans ((dk_bind (dk_u2 (h 1 _ rfl) (h 2 _ rfl))).trans rfl))
theorem dk_182 {code : ByteArray} {pc : Nat} (a b : UInt8) (h : DkAt code pc [182, a, b]) : decode code pc = .ok (.invokevirtual (a.toNat * 256 + b.toNat), 3) := dk_of ((dk_bind (dk_u1 (h 0 _ rfl))).trans ((dk_bind (dk_u2 (h 1 _ rfl) (h 2 _ rfl))).trans rfl))
theorem dk_183 {code : ByteArray} {pc : Nat} (a b : UInt8) (h : DkAt code pc [183, a, b]) : decode code pc = .ok (.invokespecial (a.toNat * 256 + b.toNat), 3) := dk_of ((dk_bind (dk_u1 (h 0 _ rfl))).trans ((dk_bind (dk_u2 (h 1 _ rfl) (h 2 _ rfl))).trans rfl))
theorem dk_184 {code : ByteArray} {pc : Nat} (a b : UInt8) (h : DkAt code pc [184, a, b]) : decode code pc = .ok (.invokestatic (a.toNat * 256 + b.toNat), 3) := dk_of ((dk_bind (dk_u1 (h 0 _ rfl))).trans ((dk_bind (dk_u2 (h 1 _ rfl) (h 2 _ rfl))).trans rfl))
theorem dk_187 {code : ByteArray} {pc : Nat} (a b : UInt8) (h : DkAt code pc [187, a, b]) : decode code pc = .ok (.new (a.toNat * 256 + b.toNat), 3) := dk_of ((dk_bind (dk_u1 (h 0 _ rfl))).trans ((dk_bind (dk_u2 (h 1 _ rfl) (h 2 _ rfl))).trans rfl))
theorem dk_188_8 {code : ByteArray} {pc : Nat} (h : DkAt code pc [188, 8]) : decode code pc = .ok (.newarray .byte, 2) := dk_of ((dk_bind (dk_u1 (h 0 _ rfl))).trans ((dk_bind (dk_u1 (h 1 _ rfl))).trans rfl))
theorem dk_188_10 {code : ByteArray} {pc : Nat} (h : DkAt code pc [188, 10]) : decode code pc = .ok (.newarray .int, 2) := dk_of ((dk_bind (dk_u1 (h 0 _ rfl))).trans ((dk_bind (dk_u1 (h 1 _ rfl))).trans rfl))
theorem dk_190 {code : ByteArray} {pc : Nat} (h : DkAt code pc [190]) : decode code pc = .ok (.arraylength, 1) := dk_of ((dk_bind (dk_u1 (h 0 _ rfl))).trans rfl)
theorem q9 : (Jvm.Cond.initialized "java/lang/System") ∈ lw_all := lw_g (lw_at lw_m0 6 rfl) rfl
set_option maxRecDepth 100000
theorem q202 : (Jvm.Cond.static ({ cls := "java/lang/System", name := "arraycopy", desc := "(Ljava/lang/Object;ILjava/lang/Object;II)V" } : Jvm.MethodName)) ∈ lw_all := lw_g (lw_at lw_m0 199 rfl) rfl
theorem q203 : (Jvm.Cond.native ({ cls := "java/lang/System", name := "arraycopy", desc := "(Ljava/lang/Object;ILjava/lang/Object;II)V" } : Jvm.MethodName)) ∈ lw_all := lw_g (lw_at lw_m0 200 rfl) rfl
theorem q28 : (Jvm.Cond.arrayClass Jvm.ClassFile.FieldType.byte) ∈ lw_all := lw_g (lw_at lw_m0 25 rfl) rfl
set_option maxRecDepth 100000
theorem q47 : (Jvm.Cond.arrayClass Jvm.ClassFile.FieldType.int) ∈ lw_all := lw_g (lw_at lw_m0 44 rfl) rfl
/-! java/lang/Object -/
set_option maxRecDepth 100000
def RJ0 : String := "java/lang/Object"
abbrev cJ0_init : ByteArray := object_method_1_code
def yJ0_init : MethodName := ⟨RJ0, "<init>", "()V"⟩
theorem dJ0_init_0 : decode cJ0_init 0 = .ok (.return_, 1) := by decide +kernel
theorem q16 : (Jvm.Cond.instanceMethod ({ cls := "java/lang/Object", name := "<init>", desc := "()V" } : Jvm.MethodName)) ∈ lw_all := lw_g (lw_at lw_m0 13 rfl) rfl
theorem q17 : (Jvm.Cond.code ({ cls := "java/lang/Object", name := "<init>", desc := "()V" } : Jvm.MethodName) object_method_1_code (1 : Nat) (Option.none : Option Jvm.ClassFile.FieldType)) ∈ lw_all := lw_g (lw_at lw_m0 14 rfl) rfl
/-! HexEncoder -/
set_option maxRecDepth 100000
def RX3 : String := "HexEncoder"
def TX3 : u_T := fun k => match k with
  | 0 => ("HexEncoder", "encodingTable", "[B", true)
  | _ => ("HexEncoder", "decodingTable", "[B", true)
def tyX3 : Nat → FieldType := fun k => match k with
  | 0 => .array .byte
  | _ => .array .byte
abbrev wsX30 : List Cond := u_ws RX3 TX3 2
theorem nmX3 : ∀ a, a < 2 → ∀ b, b < 2 → a ≠ b → (TX3 a).2.1 ≠ (TX3 b).2.1 := by decide +kernel
theorem tyX3_ok : ∀ k, k < 2 → parseFieldDescriptor (TX3 k).2.2.1 = some (tyX3 k) := by decide +kernel
abbrev cX3_init : ByteArray := prog_3_method_2_code
def yX3_init : MethodName := ⟨RX3, "<init>", "()V"⟩
def dkwX3_init_4 : List UInt8 := [16, 102, 84, 181, 0, 7, 42, 17, 0, 128, 188, 8, 181, 0, 1, 42, 182, 0, 16, 177]
abbrev dktX3_init_4 : List UInt8 := dkwX3_init_4 ++ []
def dkwX3_init_3 : List UInt8 := [16, 98, 84, 89, 16, 12, 16, 99, 84, 89, 16, 13, 16, 100, 84, 89, 16, 14, 16, 101, 84, 89, 16, 15]
abbrev dktX3_init_3 : List UInt8 := dkwX3_init_3 ++ dktX3_init_4
def dkwX3_init_2 : List UInt8 := [16, 55, 84, 89, 16, 8, 16, 56, 84, 89, 16, 9, 16, 57, 84, 89, 16, 10, 16, 97, 84, 89, 16, 11]
abbrev dktX3_init_2 : List UInt8 := dkwX3_init_2 ++ dktX3_init_3
def dkwX3_init_1 : List UInt8 := [89, 6, 16, 51, 84, 89, 7, 16, 52, 84, 89, 8, 16, 53, 84, 89, 16, 6, 16, 54, 84, 89, 16, 7]
abbrev dktX3_init_1 : List UInt8 := dkwX3_init_1 ++ dktX3_init_2
def dkwX3_init_0 : List UInt8 := [42, 183, 0, 10, 42, 16, 16, 188, 8, 89, 3, 16, 48, 84, 89, 4, 16, 49, 84, 89, 5, 16, 50, 84]
abbrev dktX3_init_0 : List UInt8 := dkwX3_init_0 ++ dktX3_init_1
theorem dksX3_init_0 : cX3_init.data.toList.drop 0 = dktX3_init_0 := by decide +kernel
theorem dksX3_init_1 : cX3_init.data.toList.drop 24 = dktX3_init_1 := dk_seg dksX3_init_0 24 rfl rfl
theorem dksX3_init_2 : cX3_init.data.toList.drop 48 = dktX3_init_2 := dk_seg dksX3_init_1 24 rfl rfl
theorem dksX3_init_3 : cX3_init.data.toList.drop 72 = dktX3_init_3 := dk_seg dksX3_init_2 24 rfl rfl
theorem dksX3_init_4 : cX3_init.data.toList.drop 96 = dktX3_init_4 := dk_seg dksX3_init_3 24 rfl rfl
theorem dX3_init_0 : decode cX3_init 0 = .ok (.aload_n 0, 1) := dk_42 (dk_at dksX3_init_0 0 rfl rfl)
theorem dX3_init_1 : decode cX3_init 1 = .ok (.invokespecial 10, 3) := dk_183 0 10 (dk_at dksX3_init_0 1 rfl rfl)
theorem dX3_init_4 : decode cX3_init 4 = .ok (.aload_n 0, 1) := dk_42 (dk_at dksX3_init_0 4 rfl rfl)
theorem dX3_init_5 : decode cX3_init 5 = .ok (.bipush 16, 2) := dk_16 16 (dk_at dksX3_init_0 5 rfl rfl)
theorem dX3_init_7 : decode cX3_init 7 = .ok (.newarray .byte, 2) := dk_188_8 (dk_at dksX3_init_0 7 rfl rfl)
theorem dX3_init_9 : decode cX3_init 9 = .ok (.dup, 1) := dk_89 (dk_at dksX3_init_0 9 rfl rfl)
theorem dX3_init_10 : decode cX3_init 10 = .ok (.iconst 0, 1) := dk_3 (dk_at dksX3_init_0 10 rfl rfl)
theorem dX3_init_11 : decode cX3_init 11 = .ok (.bipush 48, 2) := dk_16 48 (dk_at dksX3_init_0 11 rfl rfl)
theorem dX3_init_13 : decode cX3_init 13 = .ok (.bastore, 1) := dk_84 (dk_at dksX3_init_0 13 rfl rfl)
theorem dX3_init_14 : decode cX3_init 14 = .ok (.dup, 1) := dk_89 (dk_at dksX3_init_0 14 rfl rfl)
theorem dX3_init_15 : decode cX3_init 15 = .ok (.iconst 1, 1) := dk_4 (dk_at dksX3_init_0 15 rfl rfl)
theorem dX3_init_16 : decode cX3_init 16 = .ok (.bipush 49, 2) := dk_16 49 (dk_at dksX3_init_0 16 rfl rfl)
theorem dX3_init_18 : decode cX3_init 18 = .ok (.bastore, 1) := dk_84 (dk_at dksX3_init_0 18 rfl rfl)
theorem dX3_init_19 : decode cX3_init 19 = .ok (.dup, 1) := dk_89 (dk_at dksX3_init_0 19 rfl rfl)
theorem dX3_init_20 : decode cX3_init 20 = .ok (.iconst 2, 1) := dk_5 (dk_at dksX3_init_0 20 rfl rfl)
theorem dX3_init_21 : decode cX3_init 21 = .ok (.bipush 50, 2) := dk_16 50 (dk_at dksX3_init_0 21 rfl rfl)
theorem dX3_init_23 : decode cX3_init 23 = .ok (.bastore, 1) := dk_84 (dk_at dksX3_init_0 23 rfl rfl)
theorem dX3_init_24 : decode cX3_init 24 = .ok (.dup, 1) := dk_89 (dk_at dksX3_init_1 0 rfl rfl)
theorem dX3_init_25 : decode cX3_init 25 = .ok (.iconst 3, 1) := dk_6 (dk_at dksX3_init_1 1 rfl rfl)
theorem dX3_init_26 : decode cX3_init 26 = .ok (.bipush 51, 2) := dk_16 51 (dk_at dksX3_init_1 2 rfl rfl)
theorem dX3_init_28 : decode cX3_init 28 = .ok (.bastore, 1) := dk_84 (dk_at dksX3_init_1 4 rfl rfl)
theorem dX3_init_29 : decode cX3_init 29 = .ok (.dup, 1) := dk_89 (dk_at dksX3_init_1 5 rfl rfl)
theorem dX3_init_30 : decode cX3_init 30 = .ok (.iconst 4, 1) := dk_7 (dk_at dksX3_init_1 6 rfl rfl)
theorem dX3_init_31 : decode cX3_init 31 = .ok (.bipush 52, 2) := dk_16 52 (dk_at dksX3_init_1 7 rfl rfl)
theorem dX3_init_33 : decode cX3_init 33 = .ok (.bastore, 1) := dk_84 (dk_at dksX3_init_1 9 rfl rfl)
theorem dX3_init_34 : decode cX3_init 34 = .ok (.dup, 1) := dk_89 (dk_at dksX3_init_1 10 rfl rfl)
theorem dX3_init_35 : decode cX3_init 35 = .ok (.iconst 5, 1) := dk_8 (dk_at dksX3_init_1 11 rfl rfl)
theorem dX3_init_36 : decode cX3_init 36 = .ok (.bipush 53, 2) := dk_16 53 (dk_at dksX3_init_1 12 rfl rfl)
theorem dX3_init_38 : decode cX3_init 38 = .ok (.bastore, 1) := dk_84 (dk_at dksX3_init_1 14 rfl rfl)
theorem dX3_init_39 : decode cX3_init 39 = .ok (.dup, 1) := dk_89 (dk_at dksX3_init_1 15 rfl rfl)
theorem dX3_init_40 : decode cX3_init 40 = .ok (.bipush 6, 2) := dk_16 6 (dk_at dksX3_init_1 16 rfl rfl)
theorem dX3_init_42 : decode cX3_init 42 = .ok (.bipush 54, 2) := dk_16 54 (dk_at dksX3_init_1 18 rfl rfl)
theorem dX3_init_44 : decode cX3_init 44 = .ok (.bastore, 1) := dk_84 (dk_at dksX3_init_1 20 rfl rfl)
theorem dX3_init_45 : decode cX3_init 45 = .ok (.dup, 1) := dk_89 (dk_at dksX3_init_1 21 rfl rfl)
theorem dX3_init_46 : decode cX3_init 46 = .ok (.bipush 7, 2) := dk_16 7 (dk_at dksX3_init_1 22 rfl rfl)
theorem dX3_init_48 : decode cX3_init 48 = .ok (.bipush 55, 2) := dk_16 55 (dk_at dksX3_init_2 0 rfl rfl)
theorem dX3_init_50 : decode cX3_init 50 = .ok (.bastore, 1) := dk_84 (dk_at dksX3_init_2 2 rfl rfl)
theorem dX3_init_51 : decode cX3_init 51 = .ok (.dup, 1) := dk_89 (dk_at dksX3_init_2 3 rfl rfl)
theorem dX3_init_52 : decode cX3_init 52 = .ok (.bipush 8, 2) := dk_16 8 (dk_at dksX3_init_2 4 rfl rfl)
theorem dX3_init_54 : decode cX3_init 54 = .ok (.bipush 56, 2) := dk_16 56 (dk_at dksX3_init_2 6 rfl rfl)
theorem dX3_init_56 : decode cX3_init 56 = .ok (.bastore, 1) := dk_84 (dk_at dksX3_init_2 8 rfl rfl)
theorem dX3_init_57 : decode cX3_init 57 = .ok (.dup, 1) := dk_89 (dk_at dksX3_init_2 9 rfl rfl)
theorem dX3_init_58 : decode cX3_init 58 = .ok (.bipush 9, 2) := dk_16 9 (dk_at dksX3_init_2 10 rfl rfl)
theorem dX3_init_60 : decode cX3_init 60 = .ok (.bipush 57, 2) := dk_16 57 (dk_at dksX3_init_2 12 rfl rfl)
theorem dX3_init_62 : decode cX3_init 62 = .ok (.bastore, 1) := dk_84 (dk_at dksX3_init_2 14 rfl rfl)
theorem dX3_init_63 : decode cX3_init 63 = .ok (.dup, 1) := dk_89 (dk_at dksX3_init_2 15 rfl rfl)
theorem dX3_init_64 : decode cX3_init 64 = .ok (.bipush 10, 2) := dk_16 10 (dk_at dksX3_init_2 16 rfl rfl)
theorem dX3_init_66 : decode cX3_init 66 = .ok (.bipush 97, 2) := dk_16 97 (dk_at dksX3_init_2 18 rfl rfl)
theorem dX3_init_68 : decode cX3_init 68 = .ok (.bastore, 1) := dk_84 (dk_at dksX3_init_2 20 rfl rfl)
theorem dX3_init_69 : decode cX3_init 69 = .ok (.dup, 1) := dk_89 (dk_at dksX3_init_2 21 rfl rfl)
theorem dX3_init_70 : decode cX3_init 70 = .ok (.bipush 11, 2) := dk_16 11 (dk_at dksX3_init_2 22 rfl rfl)
theorem dX3_init_72 : decode cX3_init 72 = .ok (.bipush 98, 2) := dk_16 98 (dk_at dksX3_init_3 0 rfl rfl)
theorem dX3_init_74 : decode cX3_init 74 = .ok (.bastore, 1) := dk_84 (dk_at dksX3_init_3 2 rfl rfl)
theorem dX3_init_75 : decode cX3_init 75 = .ok (.dup, 1) := dk_89 (dk_at dksX3_init_3 3 rfl rfl)
theorem dX3_init_76 : decode cX3_init 76 = .ok (.bipush 12, 2) := dk_16 12 (dk_at dksX3_init_3 4 rfl rfl)
theorem dX3_init_78 : decode cX3_init 78 = .ok (.bipush 99, 2) := dk_16 99 (dk_at dksX3_init_3 6 rfl rfl)
theorem dX3_init_80 : decode cX3_init 80 = .ok (.bastore, 1) := dk_84 (dk_at dksX3_init_3 8 rfl rfl)
theorem dX3_init_81 : decode cX3_init 81 = .ok (.dup, 1) := dk_89 (dk_at dksX3_init_3 9 rfl rfl)
theorem dX3_init_82 : decode cX3_init 82 = .ok (.bipush 13, 2) := dk_16 13 (dk_at dksX3_init_3 10 rfl rfl)
theorem dX3_init_84 : decode cX3_init 84 = .ok (.bipush 100, 2) := dk_16 100 (dk_at dksX3_init_3 12 rfl rfl)
theorem dX3_init_86 : decode cX3_init 86 = .ok (.bastore, 1) := dk_84 (dk_at dksX3_init_3 14 rfl rfl)
theorem dX3_init_87 : decode cX3_init 87 = .ok (.dup, 1) := dk_89 (dk_at dksX3_init_3 15 rfl rfl)
theorem dX3_init_88 : decode cX3_init 88 = .ok (.bipush 14, 2) := dk_16 14 (dk_at dksX3_init_3 16 rfl rfl)
theorem dX3_init_90 : decode cX3_init 90 = .ok (.bipush 101, 2) := dk_16 101 (dk_at dksX3_init_3 18 rfl rfl)
theorem dX3_init_92 : decode cX3_init 92 = .ok (.bastore, 1) := dk_84 (dk_at dksX3_init_3 20 rfl rfl)
theorem dX3_init_93 : decode cX3_init 93 = .ok (.dup, 1) := dk_89 (dk_at dksX3_init_3 21 rfl rfl)
theorem dX3_init_94 : decode cX3_init 94 = .ok (.bipush 15, 2) := dk_16 15 (dk_at dksX3_init_3 22 rfl rfl)
theorem dX3_init_96 : decode cX3_init 96 = .ok (.bipush 102, 2) := dk_16 102 (dk_at dksX3_init_4 0 rfl rfl)
theorem dX3_init_98 : decode cX3_init 98 = .ok (.bastore, 1) := dk_84 (dk_at dksX3_init_4 2 rfl rfl)
theorem dX3_init_99 : decode cX3_init 99 = .ok (.putfield 7, 3) := dk_181 0 7 (dk_at dksX3_init_4 3 rfl rfl)
theorem dX3_init_102 : decode cX3_init 102 = .ok (.aload_n 0, 1) := dk_42 (dk_at dksX3_init_4 6 rfl rfl)
theorem dX3_init_103 : decode cX3_init 103 = .ok (.sipush 128, 3) := dk_17 0 128 (dk_at dksX3_init_4 7 rfl rfl)
theorem dX3_init_106 : decode cX3_init 106 = .ok (.newarray .byte, 2) := dk_188_8 (dk_at dksX3_init_4 10 rfl rfl)
theorem dX3_init_108 : decode cX3_init 108 = .ok (.putfield 1, 3) := dk_181 0 1 (dk_at dksX3_init_4 12 rfl rfl)
theorem dX3_init_111 : decode cX3_init 111 = .ok (.aload_n 0, 1) := dk_42 (dk_at dksX3_init_4 15 rfl rfl)
theorem dX3_init_112 : decode cX3_init 112 = .ok (.invokevirtual 16, 3) := dk_182 0 16 (dk_at dksX3_init_4 16 rfl rfl)
theorem dX3_init_115 : decode cX3_init 115 = .ok (.return_, 1) := dk_177 (dk_at dksX3_init_4 19 rfl rfl)
abbrev cX3_initialiseDecodingTable : ByteArray := prog_3_method_1_code
def yX3_initialiseDecodingTable : MethodName := ⟨RX3, "initialiseDecodingTable", "()V"⟩
def dkwX3_initialiseDecodingTable_5 : List UInt8 := [16, 101, 51, 84, 42, 180, 0, 1, 16, 70, 42, 180, 0, 1, 16, 102, 51, 84, 177]
abbrev dktX3_initialiseDecodingTable_5 : List UInt8 := dkwX3_initialiseDecodingTable_5 ++ []
def dkwX3_initialiseDecodingTable_4 : List UInt8 := [42, 180, 0, 1, 16, 68, 42, 180, 0, 1, 16, 100, 51, 84, 42, 180, 0, 1, 16, 69, 42, 180, 0, 1]
abbrev dktX3_initialiseDecodingTable_4 : List UInt8 := dkwX3_initialiseDecodingTable_4 ++ dktX3_initialiseDecodingTable_5
def dkwX3_initialiseDecodingTable_3 : List UInt8 := [16, 66, 42, 180, 0, 1, 16, 98, 51, 84, 42, 180, 0, 1, 16, 67, 42, 180, 0, 1, 16, 99, 51, 84]
abbrev dktX3_initialiseDecodingTable_3 : List UInt8 := dkwX3_initialiseDecodingTable_3 ++ dktX3_initialiseDecodingTable_4
def dkwX3_initialiseDecodingTable_2 : List UInt8 := [132, 1, 1, 167, 255, 231, 42, 180, 0, 1, 16, 65, 42, 180, 0, 1, 16, 97, 51, 84, 42, 180, 0, 1]
abbrev dktX3_initialiseDecodingTable_2 : List UInt8 := dkwX3_initialiseDecodingTable_2 ++ dktX3_initialiseDecodingTable_3
def dkwX3_initialiseDecodingTable_1 : List UInt8 := [3, 60, 27, 42, 180, 0, 7, 190, 162, 0, 22, 42, 180, 0, 1, 42, 180, 0, 7, 27, 51, 27, 145, 84]
abbrev dktX3_initialiseDecodingTable_1 : List UInt8 := dkwX3_initialiseDecodingTable_1 ++ dktX3_initialiseDecodingTable_2
def dkwX3_initialiseDecodingTable_0 : List UInt8 := [3, 60, 27, 42, 180, 0, 1, 190, 162, 0, 16, 42, 180, 0, 1, 27, 2, 84, 132, 1, 1, 167, 255, 237]
abbrev dktX3_initialiseDecodingTable_0 : List UInt8 := dkwX3_initialiseDecodingTable_0 ++ dktX3_initialiseDecodingTable_1
theorem dksX3_initialiseDecodingTable_0 : cX3_initialiseDecodingTable.data.toList.drop 0 = dktX3_initialiseDecodingTable_0 := by decide +kernel
theorem dksX3_initialiseDecodingTable_1 : cX3_initialiseDecodingTable.data.toList.drop 24 = dktX3_initialiseDecodingTable_1 := dk_seg dksX3_initialiseDecodingTable_0 24 rfl rfl
theorem dksX3_initialiseDecodingTable_2 : cX3_initialiseDecodingTable.data.toList.drop 48 = dktX3_initialiseDecodingTable_2 := dk_seg dksX3_initialiseDecodingTable_1 24 rfl rfl
theorem dksX3_initialiseDecodingTable_3 : cX3_initialiseDecodingTable.data.toList.drop 72 = dktX3_initialiseDecodingTable_3 := dk_seg dksX3_initialiseDecodingTable_2 24 rfl rfl
theorem dksX3_initialiseDecodingTable_4 : cX3_initialiseDecodingTable.data.toList.drop 96 = dktX3_initialiseDecodingTable_4 := dk_seg dksX3_initialiseDecodingTable_3 24 rfl rfl
theorem dksX3_initialiseDecodingTable_5 : cX3_initialiseDecodingTable.data.toList.drop 120 = dktX3_initialiseDecodingTable_5 := dk_seg dksX3_initialiseDecodingTable_4 24 rfl rfl
theorem dX3_initialiseDecodingTable_0 : decode cX3_initialiseDecodingTable 0 = .ok (.iconst 0, 1) := dk_3 (dk_at dksX3_initialiseDecodingTable_0 0 rfl rfl)
theorem dX3_initialiseDecodingTable_1 : decode cX3_initialiseDecodingTable 1 = .ok (.istore_n 1, 1) := dk_60 (dk_at dksX3_initialiseDecodingTable_0 1 rfl rfl)
theorem dX3_initialiseDecodingTable_2 : decode cX3_initialiseDecodingTable 2 = .ok (.iload_n 1, 1) := dk_27 (dk_at dksX3_initialiseDecodingTable_0 2 rfl rfl)
theorem dX3_initialiseDecodingTable_3 : decode cX3_initialiseDecodingTable 3 = .ok (.aload_n 0, 1) := dk_42 (dk_at dksX3_initialiseDecodingTable_0 3 rfl rfl)
theorem dX3_initialiseDecodingTable_4 : decode cX3_initialiseDecodingTable 4 = .ok (.getfield 1, 3) := dk_180 0 1 (dk_at dksX3_initialiseDecodingTable_0 4 rfl rfl)
theorem dX3_initialiseDecodingTable_7 : decode cX3_initialiseDecodingTable 7 = .ok (.arraylength, 1) := dk_190 (dk_at dksX3_initialiseDecodingTable_0 7 rfl rfl)
theorem dX3_initialiseDecodingTable_8 : decode cX3_initialiseDecodingTable 8 = .ok (.if_icmp .ge 16, 3) := dk_162 0 16 (dk_at dksX3_initialiseDecodingTable_0 8 rfl rfl)
theorem dX3_initialiseDecodingTable_11 : decode cX3_initialiseDecodingTable 11 = .ok (.aload_n 0, 1) := dk_42 (dk_at dksX3_initialiseDecodingTable_0 11 rfl rfl)
theorem dX3_initialiseDecodingTable_12 : decode cX3_initialiseDecodingTable 12 = .ok (.getfield 1, 3) := dk_180 0 1 (dk_at dksX3_initialiseDecodingTable_0 12 rfl rfl)
theorem dX3_initialiseDecodingTable_15 : decode cX3_initialiseDecodingTable 15 = .ok (.iload_n 1, 1) := dk_27 (dk_at dksX3_initialiseDecodingTable_0 15 rfl rfl)
theorem dX3_initialiseDecodingTable_16 : decode cX3_initialiseDecodingTable 16 = .ok (.iconst (-1), 1) := dk_2 (dk_at dksX3_initialiseDecodingTable_0 16 rfl rfl)
theorem dX3_initialiseDecodingTable_17 : decode cX3_initialiseDecodingTable 17 = .ok (.bastore, 1) := dk_84 (dk_at dksX3_initialiseDecodingTable_0 17 rfl rfl)
theorem dX3_initialiseDecodingTable_18 : decode cX3_initialiseDecodingTable 18 = .ok (.iinc 1 1, 3) := dk_132 1 1 (dk_at dksX3_initialiseDecodingTable_0 18 rfl rfl)
theorem dX3_initialiseDecodingTable_21 : decode cX3_initialiseDecodingTable 21 = .ok (.goto (-19), 3) := dk_167 255 237 (dk_at dksX3_initialiseDecodingTable_0 21 rfl rfl)
theorem dX3_initialiseDecodingTable_24 : decode cX3_initialiseDecodingTable 24 = .ok (.iconst 0, 1) := dk_3 (dk_at dksX3_initialiseDecodingTable_1 0 rfl rfl)
theorem dX3_initialiseDecodingTable_25 : decode cX3_initialiseDecodingTable 25 = .ok (.istore_n 1, 1) := dk_60 (dk_at dksX3_initialiseDecodingTable_1 1 rfl rfl)
theorem dX3_initialiseDecodingTable_26 : decode cX3_initialiseDecodingTable 26 = .ok (.iload_n 1, 1) := dk_27 (dk_at dksX3_initialiseDecodingTable_1 2 rfl rfl)
theorem dX3_initialiseDecodingTable_27 : decode cX3_initialiseDecodingTable 27 = .ok (.aload_n 0, 1) := dk_42 (dk_at dksX3_initialiseDecodingTable_1 3 rfl rfl)
theorem dX3_initialiseDecodingTable_28 : decode cX3_initialiseDecodingTable 28 = .ok (.getfield 7, 3) := dk_180 0 7 (dk_at dksX3_initialiseDecodingTable_1 4 rfl rfl)
theorem dX3_initialiseDecodingTable_31 : decode cX3_initialiseDecodingTable 31 = .ok (.arraylength, 1) := dk_190 (dk_at dksX3_initialiseDecodingTable_1 7 rfl rfl)
theorem dX3_initialiseDecodingTable_32 : decode cX3_initialiseDecodingTable 32 = .ok (.if_icmp .ge 22, 3) := dk_162 0 22 (dk_at dksX3_initialiseDecodingTable_1 8 rfl rfl)
theorem dX3_initialiseDecodingTable_35 : decode cX3_initialiseDecodingTable 35 = .ok (.aload_n 0, 1) := dk_42 (dk_at dksX3_initialiseDecodingTable_1 11 rfl rfl)
theorem dX3_initialiseDecodingTable_36 : decode cX3_initialiseDecodingTable 36 = .ok (.getfield 1, 3) := dk_180 0 1 (dk_at dksX3_initialiseDecodingTable_1 12 rfl rfl)
theorem dX3_initialiseDecodingTable_39 : decode cX3_initialiseDecodingTable 39 = .ok (.aload_n 0, 1) := dk_42 (dk_at dksX3_initialiseDecodingTable_1 15 rfl rfl)
theorem dX3_initialiseDecodingTable_40 : decode cX3_initialiseDecodingTable 40 = .ok (.getfield 7, 3) := dk_180 0 7 (dk_at dksX3_initialiseDecodingTable_1 16 rfl rfl)
theorem dX3_initialiseDecodingTable_43 : decode cX3_initialiseDecodingTable 43 = .ok (.iload_n 1, 1) := dk_27 (dk_at dksX3_initialiseDecodingTable_1 19 rfl rfl)
theorem dX3_initialiseDecodingTable_44 : decode cX3_initialiseDecodingTable 44 = .ok (.baload, 1) := dk_51 (dk_at dksX3_initialiseDecodingTable_1 20 rfl rfl)
theorem dX3_initialiseDecodingTable_45 : decode cX3_initialiseDecodingTable 45 = .ok (.iload_n 1, 1) := dk_27 (dk_at dksX3_initialiseDecodingTable_1 21 rfl rfl)
theorem dX3_initialiseDecodingTable_46 : decode cX3_initialiseDecodingTable 46 = .ok (.i2b, 1) := dk_145 (dk_at dksX3_initialiseDecodingTable_1 22 rfl rfl)
theorem dX3_initialiseDecodingTable_47 : decode cX3_initialiseDecodingTable 47 = .ok (.bastore, 1) := dk_84 (dk_at dksX3_initialiseDecodingTable_1 23 rfl rfl)
theorem dX3_initialiseDecodingTable_48 : decode cX3_initialiseDecodingTable 48 = .ok (.iinc 1 1, 3) := dk_132 1 1 (dk_at dksX3_initialiseDecodingTable_2 0 rfl rfl)
theorem dX3_initialiseDecodingTable_51 : decode cX3_initialiseDecodingTable 51 = .ok (.goto (-25), 3) := dk_167 255 231 (dk_at dksX3_initialiseDecodingTable_2 3 rfl rfl)
theorem dX3_initialiseDecodingTable_54 : decode cX3_initialiseDecodingTable 54 = .ok (.aload_n 0, 1) := dk_42 (dk_at dksX3_initialiseDecodingTable_2 6 rfl rfl)
theorem dX3_initialiseDecodingTable_55 : decode cX3_initialiseDecodingTable 55 = .ok (.getfield 1, 3) := dk_180 0 1 (dk_at dksX3_initialiseDecodingTable_2 7 rfl rfl)
theorem dX3_initialiseDecodingTable_58 : decode cX3_initialiseDecodingTable 58 = .ok (.bipush 65, 2) := dk_16 65 (dk_at dksX3_initialiseDecodingTable_2 10 rfl rfl)
theorem dX3_initialiseDecodingTable_60 : decode cX3_initialiseDecodingTable 60 = .ok (.aload_n 0, 1) := dk_42 (dk_at dksX3_initialiseDecodingTable_2 12 rfl rfl)
theorem dX3_initialiseDecodingTable_61 : decode cX3_initialiseDecodingTable 61 = .ok (.getfield 1, 3) := dk_180 0 1 (dk_at dksX3_initialiseDecodingTable_2 13 rfl rfl)
theorem dX3_initialiseDecodingTable_64 : decode cX3_initialiseDecodingTable 64 = .ok (.bipush 97, 2) := dk_16 97 (dk_at dksX3_initialiseDecodingTable_2 16 rfl rfl)
theorem dX3_initialiseDecodingTable_66 : decode cX3_initialiseDecodingTable 66 = .ok (.baload, 1) := dk_51 (dk_at dksX3_initialiseDecodingTable_2 18 rfl rfl)
theorem dX3_initialiseDecodingTable_67 : decode cX3_initialiseDecodingTable 67 = .ok (.bastore, 1) := dk_84 (dk_at dksX3_initialiseDecodingTable_2 19 rfl rfl)
theorem dX3_initialiseDecodingTable_68 : decode cX3_initialiseDecodingTable 68 = .ok (.aload_n 0, 1) := dk_42 (dk_at dksX3_initialiseDecodingTable_2 20 rfl rfl)
theorem dX3_initialiseDecodingTable_69 : decode cX3_initialiseDecodingTable 69 = .ok (.getfield 1, 3) := dk_180 0 1 (dk_at dksX3_initialiseDecodingTable_2 21 rfl rfl)
theorem dX3_initialiseDecodingTable_72 : decode cX3_initialiseDecodingTable 72 = .ok (.bipush 66, 2) := dk_16 66 (dk_at dksX3_initialiseDecodingTable_3 0 rfl rfl)
theorem dX3_initialiseDecodingTable_74 : decode cX3_initialiseDecodingTable 74 = .ok (.aload_n 0, 1) := dk_42 (dk_at dksX3_initialiseDecodingTable_3 2 rfl rfl)
theorem dX3_initialiseDecodingTable_75 : decode cX3_initialiseDecodingTable 75 = .ok (.getfield 1, 3) := dk_180 0 1 (dk_at dksX3_initialiseDecodingTable_3 3 rfl rfl)
theorem dX3_initialiseDecodingTable_78 : decode cX3_initialiseDecodingTable 78 = .ok (.bipush 98, 2) := dk_16 98 (dk_at dksX3_initialiseDecodingTable_3 6 rfl rfl)
theorem dX3_initialiseDecodingTable_80 : decode cX3_initialiseDecodingTable 80 = .ok (.baload, 1) := dk_51 (dk_at dksX3_initialiseDecodingTable_3 8 rfl rfl)
theorem dX3_initialiseDecodingTable_81 : decode cX3_initialiseDecodingTable 81 = .ok (.bastore, 1) := dk_84 (dk_at dksX3_initialiseDecodingTable_3 9 rfl rfl)
theorem dX3_initialiseDecodingTable_82 : decode cX3_initialiseDecodingTable 82 = .ok (.aload_n 0, 1) := dk_42 (dk_at dksX3_initialiseDecodingTable_3 10 rfl rfl)
theorem dX3_initialiseDecodingTable_83 : decode cX3_initialiseDecodingTable 83 = .ok (.getfield 1, 3) := dk_180 0 1 (dk_at dksX3_initialiseDecodingTable_3 11 rfl rfl)
theorem dX3_initialiseDecodingTable_86 : decode cX3_initialiseDecodingTable 86 = .ok (.bipush 67, 2) := dk_16 67 (dk_at dksX3_initialiseDecodingTable_3 14 rfl rfl)
theorem dX3_initialiseDecodingTable_88 : decode cX3_initialiseDecodingTable 88 = .ok (.aload_n 0, 1) := dk_42 (dk_at dksX3_initialiseDecodingTable_3 16 rfl rfl)
theorem dX3_initialiseDecodingTable_89 : decode cX3_initialiseDecodingTable 89 = .ok (.getfield 1, 3) := dk_180 0 1 (dk_at dksX3_initialiseDecodingTable_3 17 rfl rfl)
theorem dX3_initialiseDecodingTable_92 : decode cX3_initialiseDecodingTable 92 = .ok (.bipush 99, 2) := dk_16 99 (dk_at dksX3_initialiseDecodingTable_3 20 rfl rfl)
theorem dX3_initialiseDecodingTable_94 : decode cX3_initialiseDecodingTable 94 = .ok (.baload, 1) := dk_51 (dk_at dksX3_initialiseDecodingTable_3 22 rfl rfl)
theorem dX3_initialiseDecodingTable_95 : decode cX3_initialiseDecodingTable 95 = .ok (.bastore, 1) := dk_84 (dk_at dksX3_initialiseDecodingTable_3 23 rfl rfl)
theorem dX3_initialiseDecodingTable_96 : decode cX3_initialiseDecodingTable 96 = .ok (.aload_n 0, 1) := dk_42 (dk_at dksX3_initialiseDecodingTable_4 0 rfl rfl)
theorem dX3_initialiseDecodingTable_97 : decode cX3_initialiseDecodingTable 97 = .ok (.getfield 1, 3) := dk_180 0 1 (dk_at dksX3_initialiseDecodingTable_4 1 rfl rfl)
theorem dX3_initialiseDecodingTable_100 : decode cX3_initialiseDecodingTable 100 = .ok (.bipush 68, 2) := dk_16 68 (dk_at dksX3_initialiseDecodingTable_4 4 rfl rfl)
theorem dX3_initialiseDecodingTable_102 : decode cX3_initialiseDecodingTable 102 = .ok (.aload_n 0, 1) := dk_42 (dk_at dksX3_initialiseDecodingTable_4 6 rfl rfl)
theorem dX3_initialiseDecodingTable_103 : decode cX3_initialiseDecodingTable 103 = .ok (.getfield 1, 3) := dk_180 0 1 (dk_at dksX3_initialiseDecodingTable_4 7 rfl rfl)
theorem dX3_initialiseDecodingTable_106 : decode cX3_initialiseDecodingTable 106 = .ok (.bipush 100, 2) := dk_16 100 (dk_at dksX3_initialiseDecodingTable_4 10 rfl rfl)
theorem dX3_initialiseDecodingTable_108 : decode cX3_initialiseDecodingTable 108 = .ok (.baload, 1) := dk_51 (dk_at dksX3_initialiseDecodingTable_4 12 rfl rfl)
theorem dX3_initialiseDecodingTable_109 : decode cX3_initialiseDecodingTable 109 = .ok (.bastore, 1) := dk_84 (dk_at dksX3_initialiseDecodingTable_4 13 rfl rfl)
theorem dX3_initialiseDecodingTable_110 : decode cX3_initialiseDecodingTable 110 = .ok (.aload_n 0, 1) := dk_42 (dk_at dksX3_initialiseDecodingTable_4 14 rfl rfl)
theorem dX3_initialiseDecodingTable_111 : decode cX3_initialiseDecodingTable 111 = .ok (.getfield 1, 3) := dk_180 0 1 (dk_at dksX3_initialiseDecodingTable_4 15 rfl rfl)
theorem dX3_initialiseDecodingTable_114 : decode cX3_initialiseDecodingTable 114 = .ok (.bipush 69, 2) := dk_16 69 (dk_at dksX3_initialiseDecodingTable_4 18 rfl rfl)
theorem dX3_initialiseDecodingTable_116 : decode cX3_initialiseDecodingTable 116 = .ok (.aload_n 0, 1) := dk_42 (dk_at dksX3_initialiseDecodingTable_4 20 rfl rfl)
theorem dX3_initialiseDecodingTable_117 : decode cX3_initialiseDecodingTable 117 = .ok (.getfield 1, 3) := dk_180 0 1 (dk_at dksX3_initialiseDecodingTable_4 21 rfl rfl)
theorem dX3_initialiseDecodingTable_120 : decode cX3_initialiseDecodingTable 120 = .ok (.bipush 101, 2) := dk_16 101 (dk_at dksX3_initialiseDecodingTable_5 0 rfl rfl)
theorem dX3_initialiseDecodingTable_122 : decode cX3_initialiseDecodingTable 122 = .ok (.baload, 1) := dk_51 (dk_at dksX3_initialiseDecodingTable_5 2 rfl rfl)
theorem dX3_initialiseDecodingTable_123 : decode cX3_initialiseDecodingTable 123 = .ok (.bastore, 1) := dk_84 (dk_at dksX3_initialiseDecodingTable_5 3 rfl rfl)
theorem dX3_initialiseDecodingTable_124 : decode cX3_initialiseDecodingTable 124 = .ok (.aload_n 0, 1) := dk_42 (dk_at dksX3_initialiseDecodingTable_5 4 rfl rfl)
theorem dX3_initialiseDecodingTable_125 : decode cX3_initialiseDecodingTable 125 = .ok (.getfield 1, 3) := dk_180 0 1 (dk_at dksX3_initialiseDecodingTable_5 5 rfl rfl)
theorem dX3_initialiseDecodingTable_128 : decode cX3_initialiseDecodingTable 128 = .ok (.bipush 70, 2) := dk_16 70 (dk_at dksX3_initialiseDecodingTable_5 8 rfl rfl)
theorem dX3_initialiseDecodingTable_130 : decode cX3_initialiseDecodingTable 130 = .ok (.aload_n 0, 1) := dk_42 (dk_at dksX3_initialiseDecodingTable_5 10 rfl rfl)
theorem dX3_initialiseDecodingTable_131 : decode cX3_initialiseDecodingTable 131 = .ok (.getfield 1, 3) := dk_180 0 1 (dk_at dksX3_initialiseDecodingTable_5 11 rfl rfl)
theorem dX3_initialiseDecodingTable_134 : decode cX3_initialiseDecodingTable 134 = .ok (.bipush 102, 2) := dk_16 102 (dk_at dksX3_initialiseDecodingTable_5 14 rfl rfl)
theorem dX3_initialiseDecodingTable_136 : decode cX3_initialiseDecodingTable 136 = .ok (.baload, 1) := dk_51 (dk_at dksX3_initialiseDecodingTable_5 16 rfl rfl)
theorem dX3_initialiseDecodingTable_137 : decode cX3_initialiseDecodingTable 137 = .ok (.bastore, 1) := dk_84 (dk_at dksX3_initialiseDecodingTable_5 17 rfl rfl)
theorem dX3_initialiseDecodingTable_138 : decode cX3_initialiseDecodingTable 138 = .ok (.return_, 1) := dk_177 (dk_at dksX3_initialiseDecodingTable_5 18 rfl rfl)
abbrev cX3_getEncodedLength : ByteArray := prog_3_method_4_code
def yX3_getEncodedLength : MethodName := ⟨RX3, "getEncodedLength", "(I)I"⟩
def dkwX3_getEncodedLength_0 : List UInt8 := [27, 5, 104, 172]
abbrev dktX3_getEncodedLength_0 : List UInt8 := dkwX3_getEncodedLength_0 ++ []
theorem dksX3_getEncodedLength_0 : cX3_getEncodedLength.data.toList.drop 0 = dktX3_getEncodedLength_0 := by decide +kernel
theorem dX3_getEncodedLength_0 : decode cX3_getEncodedLength 0 = .ok (.iload_n 1, 1) := dk_27 (dk_at dksX3_getEncodedLength_0 0 rfl rfl)
theorem dX3_getEncodedLength_1 : decode cX3_getEncodedLength 1 = .ok (.iconst 2, 1) := dk_5 (dk_at dksX3_getEncodedLength_0 1 rfl rfl)
theorem dX3_getEncodedLength_2 : decode cX3_getEncodedLength 2 = .ok (.imul, 1) := dk_104 (dk_at dksX3_getEncodedLength_0 2 rfl rfl)
theorem dX3_getEncodedLength_3 : decode cX3_getEncodedLength 3 = .ok (.ireturn, 1) := dk_172 (dk_at dksX3_getEncodedLength_0 3 rfl rfl)
abbrev cX3_encode : ByteArray := prog_3_method_3_code
def yX3_encode : MethodName := ⟨RX3, "encode", "([BII[BI)I"⟩
def dkwX3_encode_3 : List UInt8 := [21, 8, 21, 5, 100, 172]
abbrev dktX3_encode_3 : List UInt8 := dkwX3_encode_3 ++ []
def dkwX3_encode_2 : List UInt8 := [124, 51, 84, 25, 4, 21, 8, 132, 8, 1, 42, 180, 0, 7, 21, 9, 16, 15, 126, 51, 84, 167, 255, 201]
abbrev dktX3_encode_2 : List UInt8 := dkwX3_encode_2 ++ dktX3_encode_3
def dkwX3_encode_1 : List UInt8 := [132, 6, 1, 51, 17, 0, 255, 126, 54, 9, 25, 4, 21, 8, 132, 8, 1, 42, 180, 0, 7, 21, 9, 7]
abbrev dktX3_encode_1 : List UInt8 := dkwX3_encode_1 ++ dktX3_encode_2
def dkwX3_encode_0 : List UInt8 := [28, 54, 6, 28, 29, 96, 54, 7, 21, 5, 54, 8, 21, 6, 21, 7, 162, 0, 54, 43, 21, 6]
abbrev dktX3_encode_0 : List UInt8 := dkwX3_encode_0 ++ dktX3_encode_1
theorem dksX3_encode_0 : cX3_encode.data.toList.drop 0 = dktX3_encode_0 := by decide +kernel
theorem dksX3_encode_1 : cX3_encode.data.toList.drop 22 = dktX3_encode_1 := dk_seg dksX3_encode_0 22 rfl rfl
theorem dksX3_encode_2 : cX3_encode.data.toList.drop 46 = dktX3_encode_2 := dk_seg dksX3_encode_1 24 rfl rfl
theorem dksX3_encode_3 : cX3_encode.data.toList.drop 70 = dktX3_encode_3 := dk_seg dksX3_encode_2 24 rfl rfl
theorem dX3_encode_0 : decode cX3_encode 0 = .ok (.iload_n 2, 1) := dk_28 (dk_at dksX3_encode_0 0 rfl rfl)
theorem dX3_encode_1 : decode cX3_encode 1 = .ok (.istore 6, 2) := dk_54 6 (dk_at dksX3_encode_0 1 rfl rfl)
theorem dX3_encode_3 : decode cX3_encode 3 = .ok (.iload_n 2, 1) := dk_28 (dk_at dksX3_encode_0 3 rfl rfl)
theorem dX3_encode_4 : decode cX3_encode 4 = .ok (.iload_n 3, 1) := dk_29 (dk_at dksX3_encode_0 4 rfl rfl)
theorem dX3_encode_5 : decode cX3_encode 5 = .ok (.iadd, 1) := dk_96 (dk_at dksX3_encode_0 5 rfl rfl)
theorem dX3_encode_6 : decode cX3_encode 6 = .ok (.istore 7, 2) := dk_54 7 (dk_at dksX3_encode_0 6 rfl rfl)
theorem dX3_encode_8 : decode cX3_encode 8 = .ok (.iload 5, 2) := dk_21 5 (dk_at dksX3_encode_0 8 rfl rfl)
theorem dX3_encode_10 : decode cX3_encode 10 = .ok (.istore 8, 2) := dk_54 8 (dk_at dksX3_encode_0 10 rfl rfl)
theorem dX3_encode_12 : decode cX3_encode 12 = .ok (.iload 6, 2) := dk_21 6 (dk_at dksX3_encode_0 12 rfl rfl)
theorem dX3_encode_14 : decode cX3_encode 14 = .ok (.iload 7, 2) := dk_21 7 (dk_at dksX3_encode_0 14 rfl rfl)
theorem dX3_encode_16 : decode cX3_encode 16 = .ok (.if_icmp .ge 54, 3) := dk_162 0 54 (dk_at dksX3_encode_0 16 rfl rfl)
theorem dX3_encode_19 : decode cX3_encode 19 = .ok (.aload_n 1, 1) := dk_43 (dk_at dksX3_encode_0 19 rfl rfl)
theorem dX3_encode_20 : decode cX3_encode 20 = .ok (.iload 6, 2) := dk_21 6 (dk_at dksX3_encode_0 20 rfl rfl)
theorem dX3_encode_22 : decode cX3_encode 22 = .ok (.iinc 6 1, 3) := dk_132 6 1 (dk_at dksX3_encode_1 0 rfl rfl)
theorem dX3_encode_25 : decode cX3_encode 25 = .ok (.baload, 1) := dk_51 (dk_at dksX3_encode_1 3 rfl rfl)
theorem dX3_encode_26 : decode cX3_encode 26 = .ok (.sipush 255, 3) := dk_17 0 255 (dk_at dksX3_encode_1 4 rfl rfl)
theorem dX3_encode_29 : decode cX3_encode 29 = .ok (.iand, 1) := dk_126 (dk_at dksX3_encode_1 7 rfl rfl)
theorem dX3_encode_30 : decode cX3_encode 30 = .ok (.istore 9, 2) := dk_54 9 (dk_at dksX3_encode_1 8 rfl rfl)
theorem dX3_encode_32 : decode cX3_encode 32 = .ok (.aload 4, 2) := dk_25 4 (dk_at dksX3_encode_1 10 rfl rfl)
theorem dX3_encode_34 : decode cX3_encode 34 = .ok (.iload 8, 2) := dk_21 8 (dk_at dksX3_encode_1 12 rfl rfl)
theorem dX3_encode_36 : decode cX3_encode 36 = .ok (.iinc 8 1, 3) := dk_132 8 1 (dk_at dksX3_encode_1 14 rfl rfl)
theorem dX3_encode_39 : decode cX3_encode 39 = .ok (.aload_n 0, 1) := dk_42 (dk_at dksX3_encode_1 17 rfl rfl)
theorem dX3_encode_40 : decode cX3_encode 40 = .ok (.getfield 7, 3) := dk_180 0 7 (dk_at dksX3_encode_1 18 rfl rfl)
theorem dX3_encode_43 : decode cX3_encode 43 = .ok (.iload 9, 2) := dk_21 9 (dk_at dksX3_encode_1 21 rfl rfl)
theorem dX3_encode_45 : decode cX3_encode 45 = .ok (.iconst 4, 1) := dk_7 (dk_at dksX3_encode_1 23 rfl rfl)
theorem dX3_encode_46 : decode cX3_encode 46 = .ok (.iushr, 1) := dk_124 (dk_at dksX3_encode_2 0 rfl rfl)
theorem dX3_encode_47 : decode cX3_encode 47 = .ok (.baload, 1) := dk_51 (dk_at dksX3_encode_2 1 rfl rfl)
theorem dX3_encode_48 : decode cX3_encode 48 = .ok (.bastore, 1) := dk_84 (dk_at dksX3_encode_2 2 rfl rfl)
theorem dX3_encode_49 : decode cX3_encode 49 = .ok (.aload 4, 2) := dk_25 4 (dk_at dksX3_encode_2 3 rfl rfl)
theorem dX3_encode_51 : decode cX3_encode 51 = .ok (.iload 8, 2) := dk_21 8 (dk_at dksX3_encode_2 5 rfl rfl)
theorem dX3_encode_53 : decode cX3_encode 53 = .ok (.iinc 8 1, 3) := dk_132 8 1 (dk_at dksX3_encode_2 7 rfl rfl)
theorem dX3_encode_56 : decode cX3_encode 56 = .ok (.aload_n 0, 1) := dk_42 (dk_at dksX3_encode_2 10 rfl rfl)
theorem dX3_encode_57 : decode cX3_encode 57 = .ok (.getfield 7, 3) := dk_180 0 7 (dk_at dksX3_encode_2 11 rfl rfl)
theorem dX3_encode_60 : decode cX3_encode 60 = .ok (.iload 9, 2) := dk_21 9 (dk_at dksX3_encode_2 14 rfl rfl)
theorem dX3_encode_62 : decode cX3_encode 62 = .ok (.bipush 15, 2) := dk_16 15 (dk_at dksX3_encode_2 16 rfl rfl)
theorem dX3_encode_64 : decode cX3_encode 64 = .ok (.iand, 1) := dk_126 (dk_at dksX3_encode_2 18 rfl rfl)
theorem dX3_encode_65 : decode cX3_encode 65 = .ok (.baload, 1) := dk_51 (dk_at dksX3_encode_2 19 rfl rfl)
theorem dX3_encode_66 : decode cX3_encode 66 = .ok (.bastore, 1) := dk_84 (dk_at dksX3_encode_2 20 rfl rfl)
theorem dX3_encode_67 : decode cX3_encode 67 = .ok (.goto (-55), 3) := dk_167 255 201 (dk_at dksX3_encode_2 21 rfl rfl)
theorem dX3_encode_70 : decode cX3_encode 70 = .ok (.iload 8, 2) := dk_21 8 (dk_at dksX3_encode_3 0 rfl rfl)
theorem dX3_encode_72 : decode cX3_encode 72 = .ok (.iload 5, 2) := dk_21 5 (dk_at dksX3_encode_3 2 rfl rfl)
theorem dX3_encode_74 : decode cX3_encode 74 = .ok (.isub, 1) := dk_100 (dk_at dksX3_encode_3 4 rfl rfl)
theorem dX3_encode_75 : decode cX3_encode 75 = .ok (.ireturn, 1) := dk_172 (dk_at dksX3_encode_3 5 rfl rfl)
theorem q6 : (Jvm.Cond.initialized "HexEncoder") ∈ lw_all := lw_g (lw_at lw_m0 3 rfl) rfl
theorem q115 : (Jvm.Cond.instantiable "HexEncoder" (2 : Nat)) ∈ lw_all := lw_g (lw_at lw_m0 112 rfl) rfl
theorem q117 : (Jvm.Cond.instanceMethod ({ cls := "HexEncoder", name := "<init>", desc := "()V" } : Jvm.MethodName)) ∈ lw_all := lw_g (lw_at lw_m0 114 rfl) rfl
theorem q118 : (Jvm.Cond.code ({ cls := "HexEncoder", name := "<init>", desc := "()V" } : Jvm.MethodName) prog_3_method_2_code (1 : Nat) (Option.none : Option Jvm.ClassFile.FieldType)) ∈ lw_all := lw_g (lw_at lw_m0 115 rfl) rfl
theorem q119 : (Jvm.Cond.methodLink "HexEncoder" (10 : Nat) ({ cls := "java/lang/Object", name := "<init>", desc := "()V" } : Jvm.MethodName)) ∈ lw_all := lw_g (lw_at lw_m0 116 rfl) rfl
theorem q120 : (Jvm.Cond.methodLink "HexEncoder" (16 : Nat) ({ cls := "HexEncoder", name := "initialiseDecodingTable", desc := "()V" } : Jvm.MethodName)) ∈ lw_all := lw_g (lw_at lw_m0 117 rfl) rfl
theorem q121 : (Jvm.Cond.instanceMethod ({ cls := "HexEncoder", name := "initialiseDecodingTable", desc := "()V" } : Jvm.MethodName)) ∈ lw_all := lw_g (lw_at lw_m0 118 rfl) rfl
theorem q122 : (Jvm.Cond.selects "HexEncoder" ({ cls := "HexEncoder", name := "initialiseDecodingTable", desc := "()V" } : Jvm.MethodName) ({ cls := "HexEncoder", name := "initialiseDecodingTable", desc := "()V" } : Jvm.MethodName)) ∈ lw_all := lw_g (lw_at lw_m0 119 rfl) rfl
theorem q123 : (Jvm.Cond.code ({ cls := "HexEncoder", name := "initialiseDecodingTable", desc := "()V" } : Jvm.MethodName) prog_3_method_1_code (2 : Nat) (Option.none : Option Jvm.ClassFile.FieldType)) ∈ lw_all := lw_g (lw_at lw_m0 120 rfl) rfl
theorem q124 : (Jvm.Cond.fieldLink "HexEncoder" (7 : Nat) "HexEncoder" "encodingTable" "[B") ∈ lw_all := lw_g (lw_at lw_m0 121 rfl) rfl
theorem q125 : (Jvm.Cond.fieldLink "HexEncoder" (1 : Nat) "HexEncoder" "decodingTable" "[B") ∈ lw_all := lw_g (lw_at lw_m0 122 rfl) rfl
theorem q126 : (Jvm.Cond.laysFinal "HexEncoder" "HexEncoder" "encodingTable" "[B") ∈ lw_all := lw_g (lw_at lw_m0 123 rfl) rfl
theorem q127 : (Jvm.Cond.soleField "HexEncoder" "encodingTable") ∈ lw_all := lw_g (lw_at lw_m0 124 rfl) rfl
theorem q128 : (Jvm.Cond.laysFinal "HexEncoder" "HexEncoder" "decodingTable" "[B") ∈ lw_all := lw_g (lw_at lw_m0 125 rfl) rfl
theorem q129 : (Jvm.Cond.soleField "HexEncoder" "decodingTable") ∈ lw_all := lw_g (lw_at lw_m0 126 rfl) rfl
theorem q130 : (Jvm.Cond.superclass "HexEncoder" "java/lang/Object") ∈ lw_all := lw_g (lw_at lw_m0 127 rfl) rfl
theorem q132 : (Jvm.Cond.instanceMethod ({ cls := "HexEncoder", name := "getEncodedLength", desc := "(I)I" } : Jvm.MethodName)) ∈ lw_all := lw_g (lw_at lw_m0 129 rfl) rfl
theorem q133 : (Jvm.Cond.selects "HexEncoder" ({ cls := "HexEncoder", name := "getEncodedLength", desc := "(I)I" } : Jvm.MethodName) ({ cls := "HexEncoder", name := "getEncodedLength", desc := "(I)I" } : Jvm.MethodName)) ∈ lw_all := lw_g (lw_at lw_m0 130 rfl) rfl
theorem q134 : (Jvm.Cond.code ({ cls := "HexEncoder", name := "getEncodedLength", desc := "(I)I" } : Jvm.MethodName) prog_3_method_4_code (2 : Nat) (Option.some Jvm.ClassFile.FieldType.int)) ∈ lw_all := lw_g (lw_at lw_m0 131 rfl) rfl
theorem q136 : (Jvm.Cond.instanceMethod ({ cls := "HexEncoder", name := "encode", desc := "([BII[BI)I" } : Jvm.MethodName)) ∈ lw_all := lw_g (lw_at lw_m0 133 rfl) rfl
theorem q137 : (Jvm.Cond.selects "HexEncoder" ({ cls := "HexEncoder", name := "encode", desc := "([BII[BI)I" } : Jvm.MethodName) ({ cls := "HexEncoder", name := "encode", desc := "([BII[BI)I" } : Jvm.MethodName)) ∈ lw_all := lw_g (lw_at lw_m0 134 rfl) rfl
theorem q138 : (Jvm.Cond.code ({ cls := "HexEncoder", name := "encode", desc := "([BII[BI)I" } : Jvm.MethodName) prog_3_method_3_code (10 : Nat) (Option.some Jvm.ClassFile.FieldType.int)) ∈ lw_all := lw_g (lw_at lw_m0 135 rfl) rfl
theorem in_X3 : ∀ w ∈ wsX30, w ∈ lw_all := lw_in wsX30 [126, 128] (by decide +kernel) (by decide +kernel)
/-! Base64Encoder -/
set_option maxRecDepth 100000
def RX4 : String := "Base64Encoder"
def TX4 : u_T := fun k => match k with
  | 0 => ("Base64Encoder", "encodingTable", "[B", true)
  | 1 => ("Base64Encoder", "padding", "B", false)
  | _ => ("Base64Encoder", "decodingTable", "[B", true)
def tyX4 : Nat → FieldType := fun k => match k with
  | 0 => .array .byte
  | 1 => .byte
  | _ => .array .byte
abbrev wsX40 : List Cond := u_ws RX4 TX4 3
theorem nmX4 : ∀ a, a < 3 → ∀ b, b < 3 → a ≠ b → (TX4 a).2.1 ≠ (TX4 b).2.1 := by decide +kernel
theorem tyX4_ok : ∀ k, k < 3 → parseFieldDescriptor (TX4 k).2.2.1 = some (tyX4 k) := by decide +kernel
abbrev cX4_init : ByteArray := prog_2_method_2_code
def yX4_init : MethodName := ⟨RX4, "<init>", "()V"⟩
def dkwX4_init_17 : List UInt8 := [182, 0, 20, 177]
abbrev dktX4_init_17 : List UInt8 := dkwX4_init_17 ++ []
def dkwX4_init_16 : List UInt8 := [16, 47, 84, 181, 0, 7, 42, 16, 61, 181, 0, 16, 42, 17, 0, 128, 188, 8, 181, 0, 1, 42]
abbrev dktX4_init_16 : List UInt8 := dkwX4_init_16 ++ dktX4_init_17
def dkwX4_init_15 : List UInt8 := [16, 55, 84, 89, 16, 60, 16, 56, 84, 89, 16, 61, 16, 57, 84, 89, 16, 62, 16, 43, 84, 89, 16, 63]
abbrev dktX4_init_15 : List UInt8 := dkwX4_init_15 ++ dktX4_init_16
def dkwX4_init_14 : List UInt8 := [16, 51, 84, 89, 16, 56, 16, 52, 84, 89, 16, 57, 16, 53, 84, 89, 16, 58, 16, 54, 84, 89, 16, 59]
abbrev dktX4_init_14 : List UInt8 := dkwX4_init_14 ++ dktX4_init_15
def dkwX4_init_13 : List UInt8 := [16, 122, 84, 89, 16, 52, 16, 48, 84, 89, 16, 53, 16, 49, 84, 89, 16, 54, 16, 50, 84, 89, 16, 55]
abbrev dktX4_init_13 : List UInt8 := dkwX4_init_13 ++ dktX4_init_14
def dkwX4_init_12 : List UInt8 := [16, 118, 84, 89, 16, 48, 16, 119, 84, 89, 16, 49, 16, 120, 84, 89, 16, 50, 16, 121, 84, 89, 16, 51]
abbrev dktX4_init_12 : List UInt8 := dkwX4_init_12 ++ dktX4_init_13
def dkwX4_init_11 : List UInt8 := [16, 114, 84, 89, 16, 44, 16, 115, 84, 89, 16, 45, 16, 116, 84, 89, 16, 46, 16, 117, 84, 89, 16, 47]
abbrev dktX4_init_11 : List UInt8 := dkwX4_init_11 ++ dktX4_init_12
def dkwX4_init_10 : List UInt8 := [16, 110, 84, 89, 16, 40, 16, 111, 84, 89, 16, 41, 16, 112, 84, 89, 16, 42, 16, 113, 84, 89, 16, 43]
abbrev dktX4_init_10 : List UInt8 := dkwX4_init_10 ++ dktX4_init_11
def dkwX4_init_9 : List UInt8 := [16, 106, 84, 89, 16, 36, 16, 107, 84, 89, 16, 37, 16, 108, 84, 89, 16, 38, 16, 109, 84, 89, 16, 39]
abbrev dktX4_init_9 : List UInt8 := dkwX4_init_9 ++ dktX4_init_10
def dkwX4_init_8 : List UInt8 := [16, 102, 84, 89, 16, 32, 16, 103, 84, 89, 16, 33, 16, 104, 84, 89, 16, 34, 16, 105, 84, 89, 16, 35]
abbrev dktX4_init_8 : List UInt8 := dkwX4_init_8 ++ dktX4_init_9
def dkwX4_init_7 : List UInt8 := [16, 98, 84, 89, 16, 28, 16, 99, 84, 89, 16, 29, 16, 100, 84, 89, 16, 30, 16, 101, 84, 89, 16, 31]
abbrev dktX4_init_7 : List UInt8 := dkwX4_init_7 ++ dktX4_init_8
def dkwX4_init_6 : List UInt8 := [16, 88, 84, 89, 16, 24, 16, 89, 84, 89, 16, 25, 16, 90, 84, 89, 16, 26, 16, 97, 84, 89, 16, 27]
abbrev dktX4_init_6 : List UInt8 := dkwX4_init_6 ++ dktX4_init_7
def dkwX4_init_5 : List UInt8 := [16, 84, 84, 89, 16, 20, 16, 85, 84, 89, 16, 21, 16, 86, 84, 89, 16, 22, 16, 87, 84, 89, 16, 23]
abbrev dktX4_init_5 : List UInt8 := dkwX4_init_5 ++ dktX4_init_6
def dkwX4_init_4 : List UInt8 := [16, 80, 84, 89, 16, 16, 16, 81, 84, 89, 16, 17, 16, 82, 84, 89, 16, 18, 16, 83, 84, 89, 16, 19]
abbrev dktX4_init_4 : List UInt8 := dkwX4_init_4 ++ dktX4_init_5
def dkwX4_init_3 : List UInt8 := [16, 76, 84, 89, 16, 12, 16, 77, 84, 89, 16, 13, 16, 78, 84, 89, 16, 14, 16, 79, 84, 89, 16, 15]
abbrev dktX4_init_3 : List UInt8 := dkwX4_init_3 ++ dktX4_init_4
def dkwX4_init_2 : List UInt8 := [16, 72, 84, 89, 16, 8, 16, 73, 84, 89, 16, 9, 16, 74, 84, 89, 16, 10, 16, 75, 84, 89, 16, 11]
abbrev dktX4_init_2 : List UInt8 := dkwX4_init_2 ++ dktX4_init_3
def dkwX4_init_1 : List UInt8 := [89, 6, 16, 68, 84, 89, 7, 16, 69, 84, 89, 8, 16, 70, 84, 89, 16, 6, 16, 71, 84, 89, 16, 7]
abbrev dktX4_init_1 : List UInt8 := dkwX4_init_1 ++ dktX4_init_2
def dkwX4_init_0 : List UInt8 := [42, 183, 0, 10, 42, 16, 64, 188, 8, 89, 3, 16, 65, 84, 89, 4, 16, 66, 84, 89, 5, 16, 67, 84]
abbrev dktX4_init_0 : List UInt8 := dkwX4_init_0 ++ dktX4_init_1
theorem dksX4_init_0 : cX4_init.data.toList.drop 0 = dktX4_init_0 := by decide +kernel
theorem dksX4_init_1 : cX4_init.data.toList.drop 24 = dktX4_init_1 := dk_seg dksX4_init_0 24 rfl rfl
theorem dksX4_init_2 : cX4_init.data.toList.drop 48 = dktX4_init_2 := dk_seg dksX4_init_1 24 rfl rfl
theorem dksX4_init_3 : cX4_init.data.toList.drop 72 = dktX4_init_3 := dk_seg dksX4_init_2 24 rfl rfl
theorem dksX4_init_4 : cX4_init.data.toList.drop 96 = dktX4_init_4 := dk_seg dksX4_init_3 24 rfl rfl
theorem dksX4_init_5 : cX4_init.data.toList.drop 120 = dktX4_init_5 := dk_seg dksX4_init_4 24 rfl rfl
theorem dksX4_init_6 : cX4_init.data.toList.drop 144 = dktX4_init_6 := dk_seg dksX4_init_5 24 rfl rfl
theorem dksX4_init_7 : cX4_init.data.toList.drop 168 = dktX4_init_7 := dk_seg dksX4_init_6 24 rfl rfl
theorem dksX4_init_8 : cX4_init.data.toList.drop 192 = dktX4_init_8 := dk_seg dksX4_init_7 24 rfl rfl
theorem dksX4_init_9 : cX4_init.data.toList.drop 216 = dktX4_init_9 := dk_seg dksX4_init_8 24 rfl rfl
theorem dksX4_init_10 : cX4_init.data.toList.drop 240 = dktX4_init_10 := dk_seg dksX4_init_9 24 rfl rfl
theorem dksX4_init_11 : cX4_init.data.toList.drop 264 = dktX4_init_11 := dk_seg dksX4_init_10 24 rfl rfl
theorem dksX4_init_12 : cX4_init.data.toList.drop 288 = dktX4_init_12 := dk_seg dksX4_init_11 24 rfl rfl
theorem dksX4_init_13 : cX4_init.data.toList.drop 312 = dktX4_init_13 := dk_seg dksX4_init_12 24 rfl rfl
theorem dksX4_init_14 : cX4_init.data.toList.drop 336 = dktX4_init_14 := dk_seg dksX4_init_13 24 rfl rfl
theorem dksX4_init_15 : cX4_init.data.toList.drop 360 = dktX4_init_15 := dk_seg dksX4_init_14 24 rfl rfl
theorem dksX4_init_16 : cX4_init.data.toList.drop 384 = dktX4_init_16 := dk_seg dksX4_init_15 24 rfl rfl
theorem dksX4_init_17 : cX4_init.data.toList.drop 406 = dktX4_init_17 := dk_seg dksX4_init_16 22 rfl rfl
theorem dX4_init_0 : decode cX4_init 0 = .ok (.aload_n 0, 1) := dk_42 (dk_at dksX4_init_0 0 rfl rfl)
theorem dX4_init_1 : decode cX4_init 1 = .ok (.invokespecial 10, 3) := dk_183 0 10 (dk_at dksX4_init_0 1 rfl rfl)
theorem dX4_init_4 : decode cX4_init 4 = .ok (.aload_n 0, 1) := dk_42 (dk_at dksX4_init_0 4 rfl rfl)
theorem dX4_init_5 : decode cX4_init 5 = .ok (.bipush 64, 2) := dk_16 64 (dk_at dksX4_init_0 5 rfl rfl)
theorem dX4_init_7 : decode cX4_init 7 = .ok (.newarray .byte, 2) := dk_188_8 (dk_at dksX4_init_0 7 rfl rfl)
theorem dX4_init_9 : decode cX4_init 9 = .ok (.dup, 1) := dk_89 (dk_at dksX4_init_0 9 rfl rfl)
theorem dX4_init_10 : decode cX4_init 10 = .ok (.iconst 0, 1) := dk_3 (dk_at dksX4_init_0 10 rfl rfl)
theorem dX4_init_11 : decode cX4_init 11 = .ok (.bipush 65, 2) := dk_16 65 (dk_at dksX4_init_0 11 rfl rfl)
theorem dX4_init_13 : decode cX4_init 13 = .ok (.bastore, 1) := dk_84 (dk_at dksX4_init_0 13 rfl rfl)
theorem dX4_init_14 : decode cX4_init 14 = .ok (.dup, 1) := dk_89 (dk_at dksX4_init_0 14 rfl rfl)
theorem dX4_init_15 : decode cX4_init 15 = .ok (.iconst 1, 1) := dk_4 (dk_at dksX4_init_0 15 rfl rfl)
theorem dX4_init_16 : decode cX4_init 16 = .ok (.bipush 66, 2) := dk_16 66 (dk_at dksX4_init_0 16 rfl rfl)
theorem dX4_init_18 : decode cX4_init 18 = .ok (.bastore, 1) := dk_84 (dk_at dksX4_init_0 18 rfl rfl)
theorem dX4_init_19 : decode cX4_init 19 = .ok (.dup, 1) := dk_89 (dk_at dksX4_init_0 19 rfl rfl)
theorem dX4_init_20 : decode cX4_init 20 = .ok (.iconst 2, 1) := dk_5 (dk_at dksX4_init_0 20 rfl rfl)
theorem dX4_init_21 : decode cX4_init 21 = .ok (.bipush 67, 2) := dk_16 67 (dk_at dksX4_init_0 21 rfl rfl)
theorem dX4_init_23 : decode cX4_init 23 = .ok (.bastore, 1) := dk_84 (dk_at dksX4_init_0 23 rfl rfl)
theorem dX4_init_24 : decode cX4_init 24 = .ok (.dup, 1) := dk_89 (dk_at dksX4_init_1 0 rfl rfl)
theorem dX4_init_25 : decode cX4_init 25 = .ok (.iconst 3, 1) := dk_6 (dk_at dksX4_init_1 1 rfl rfl)
theorem dX4_init_26 : decode cX4_init 26 = .ok (.bipush 68, 2) := dk_16 68 (dk_at dksX4_init_1 2 rfl rfl)
theorem dX4_init_28 : decode cX4_init 28 = .ok (.bastore, 1) := dk_84 (dk_at dksX4_init_1 4 rfl rfl)
theorem dX4_init_29 : decode cX4_init 29 = .ok (.dup, 1) := dk_89 (dk_at dksX4_init_1 5 rfl rfl)
theorem dX4_init_30 : decode cX4_init 30 = .ok (.iconst 4, 1) := dk_7 (dk_at dksX4_init_1 6 rfl rfl)
theorem dX4_init_31 : decode cX4_init 31 = .ok (.bipush 69, 2) := dk_16 69 (dk_at dksX4_init_1 7 rfl rfl)
theorem dX4_init_33 : decode cX4_init 33 = .ok (.bastore, 1) := dk_84 (dk_at dksX4_init_1 9 rfl rfl)
theorem dX4_init_34 : decode cX4_init 34 = .ok (.dup, 1) := dk_89 (dk_at dksX4_init_1 10 rfl rfl)
theorem dX4_init_35 : decode cX4_init 35 = .ok (.iconst 5, 1) := dk_8 (dk_at dksX4_init_1 11 rfl rfl)
theorem dX4_init_36 : decode cX4_init 36 = .ok (.bipush 70, 2) := dk_16 70 (dk_at dksX4_init_1 12 rfl rfl)
theorem dX4_init_38 : decode cX4_init 38 = .ok (.bastore, 1) := dk_84 (dk_at dksX4_init_1 14 rfl rfl)
theorem dX4_init_39 : decode cX4_init 39 = .ok (.dup, 1) := dk_89 (dk_at dksX4_init_1 15 rfl rfl)
theorem dX4_init_40 : decode cX4_init 40 = .ok (.bipush 6, 2) := dk_16 6 (dk_at dksX4_init_1 16 rfl rfl)
theorem dX4_init_42 : decode cX4_init 42 = .ok (.bipush 71, 2) := dk_16 71 (dk_at dksX4_init_1 18 rfl rfl)
theorem dX4_init_44 : decode cX4_init 44 = .ok (.bastore, 1) := dk_84 (dk_at dksX4_init_1 20 rfl rfl)
theorem dX4_init_45 : decode cX4_init 45 = .ok (.dup, 1) := dk_89 (dk_at dksX4_init_1 21 rfl rfl)
theorem dX4_init_46 : decode cX4_init 46 = .ok (.bipush 7, 2) := dk_16 7 (dk_at dksX4_init_1 22 rfl rfl)
theorem dX4_init_48 : decode cX4_init 48 = .ok (.bipush 72, 2) := dk_16 72 (dk_at dksX4_init_2 0 rfl rfl)
theorem dX4_init_50 : decode cX4_init 50 = .ok (.bastore, 1) := dk_84 (dk_at dksX4_init_2 2 rfl rfl)
theorem dX4_init_51 : decode cX4_init 51 = .ok (.dup, 1) := dk_89 (dk_at dksX4_init_2 3 rfl rfl)
theorem dX4_init_52 : decode cX4_init 52 = .ok (.bipush 8, 2) := dk_16 8 (dk_at dksX4_init_2 4 rfl rfl)
theorem dX4_init_54 : decode cX4_init 54 = .ok (.bipush 73, 2) := dk_16 73 (dk_at dksX4_init_2 6 rfl rfl)
theorem dX4_init_56 : decode cX4_init 56 = .ok (.bastore, 1) := dk_84 (dk_at dksX4_init_2 8 rfl rfl)
theorem dX4_init_57 : decode cX4_init 57 = .ok (.dup, 1) := dk_89 (dk_at dksX4_init_2 9 rfl rfl)
theorem dX4_init_58 : decode cX4_init 58 = .ok (.bipush 9, 2) := dk_16 9 (dk_at dksX4_init_2 10 rfl rfl)
theorem dX4_init_60 : decode cX4_init 60 = .ok (.bipush 74, 2) := dk_16 74 (dk_at dksX4_init_2 12 rfl rfl)
theorem dX4_init_62 : decode cX4_init 62 = .ok (.bastore, 1) := dk_84 (dk_at dksX4_init_2 14 rfl rfl)
theorem dX4_init_63 : decode cX4_init 63 = .ok (.dup, 1) := dk_89 (dk_at dksX4_init_2 15 rfl rfl)
theorem dX4_init_64 : decode cX4_init 64 = .ok (.bipush 10, 2) := dk_16 10 (dk_at dksX4_init_2 16 rfl rfl)
theorem dX4_init_66 : decode cX4_init 66 = .ok (.bipush 75, 2) := dk_16 75 (dk_at dksX4_init_2 18 rfl rfl)
theorem dX4_init_68 : decode cX4_init 68 = .ok (.bastore, 1) := dk_84 (dk_at dksX4_init_2 20 rfl rfl)
theorem dX4_init_69 : decode cX4_init 69 = .ok (.dup, 1) := dk_89 (dk_at dksX4_init_2 21 rfl rfl)
theorem dX4_init_70 : decode cX4_init 70 = .ok (.bipush 11, 2) := dk_16 11 (dk_at dksX4_init_2 22 rfl rfl)
theorem dX4_init_72 : decode cX4_init 72 = .ok (.bipush 76, 2) := dk_16 76 (dk_at dksX4_init_3 0 rfl rfl)
theorem dX4_init_74 : decode cX4_init 74 = .ok (.bastore, 1) := dk_84 (dk_at dksX4_init_3 2 rfl rfl)
theorem dX4_init_75 : decode cX4_init 75 = .ok (.dup, 1) := dk_89 (dk_at dksX4_init_3 3 rfl rfl)
theorem dX4_init_76 : decode cX4_init 76 = .ok (.bipush 12, 2) := dk_16 12 (dk_at dksX4_init_3 4 rfl rfl)
theorem dX4_init_78 : decode cX4_init 78 = .ok (.bipush 77, 2) := dk_16 77 (dk_at dksX4_init_3 6 rfl rfl)
theorem dX4_init_80 : decode cX4_init 80 = .ok (.bastore, 1) := dk_84 (dk_at dksX4_init_3 8 rfl rfl)
theorem dX4_init_81 : decode cX4_init 81 = .ok (.dup, 1) := dk_89 (dk_at dksX4_init_3 9 rfl rfl)
theorem dX4_init_82 : decode cX4_init 82 = .ok (.bipush 13, 2) := dk_16 13 (dk_at dksX4_init_3 10 rfl rfl)
theorem dX4_init_84 : decode cX4_init 84 = .ok (.bipush 78, 2) := dk_16 78 (dk_at dksX4_init_3 12 rfl rfl)
theorem dX4_init_86 : decode cX4_init 86 = .ok (.bastore, 1) := dk_84 (dk_at dksX4_init_3 14 rfl rfl)
theorem dX4_init_87 : decode cX4_init 87 = .ok (.dup, 1) := dk_89 (dk_at dksX4_init_3 15 rfl rfl)
theorem dX4_init_88 : decode cX4_init 88 = .ok (.bipush 14, 2) := dk_16 14 (dk_at dksX4_init_3 16 rfl rfl)
theorem dX4_init_90 : decode cX4_init 90 = .ok (.bipush 79, 2) := dk_16 79 (dk_at dksX4_init_3 18 rfl rfl)
theorem dX4_init_92 : decode cX4_init 92 = .ok (.bastore, 1) := dk_84 (dk_at dksX4_init_3 20 rfl rfl)
theorem dX4_init_93 : decode cX4_init 93 = .ok (.dup, 1) := dk_89 (dk_at dksX4_init_3 21 rfl rfl)
theorem dX4_init_94 : decode cX4_init 94 = .ok (.bipush 15, 2) := dk_16 15 (dk_at dksX4_init_3 22 rfl rfl)
theorem dX4_init_96 : decode cX4_init 96 = .ok (.bipush 80, 2) := dk_16 80 (dk_at dksX4_init_4 0 rfl rfl)
theorem dX4_init_98 : decode cX4_init 98 = .ok (.bastore, 1) := dk_84 (dk_at dksX4_init_4 2 rfl rfl)
theorem dX4_init_99 : decode cX4_init 99 = .ok (.dup, 1) := dk_89 (dk_at dksX4_init_4 3 rfl rfl)
theorem dX4_init_100 : decode cX4_init 100 = .ok (.bipush 16, 2) := dk_16 16 (dk_at dksX4_init_4 4 rfl rfl)
theorem dX4_init_102 : decode cX4_init 102 = .ok (.bipush 81, 2) := dk_16 81 (dk_at dksX4_init_4 6 rfl rfl)
theorem dX4_init_104 : decode cX4_init 104 = .ok (.bastore, 1) := dk_84 (dk_at dksX4_init_4 8 rfl rfl)
theorem dX4_init_105 : decode cX4_init 105 = .ok (.dup, 1) := dk_89 (dk_at dksX4_init_4 9 rfl rfl)
theorem dX4_init_106 : decode cX4_init 106 = .ok (.bipush 17, 2) := dk_16 17 (dk_at dksX4_init_4 10 rfl rfl)
theorem dX4_init_108 : decode cX4_init 108 = .ok (.bipush 82, 2) := dk_16 82 (dk_at dksX4_init_4 12 rfl rfl)
theorem dX4_init_110 : decode cX4_init 110 = .ok (.bastore, 1) := dk_84 (dk_at dksX4_init_4 14 rfl rfl)
theorem dX4_init_111 : decode cX4_init 111 = .ok (.dup, 1) := dk_89 (dk_at dksX4_init_4 15 rfl rfl)
theorem dX4_init_112 : decode cX4_init 112 = .ok (.bipush 18, 2) := dk_16 18 (dk_at dksX4_init_4 16 rfl rfl)
theorem dX4_init_114 : decode cX4_init 114 = .ok (.bipush 83, 2) := dk_16 83 (dk_at dksX4_init_4 18 rfl rfl)
theorem dX4_init_116 : decode cX4_init 116 = .ok (.bastore, 1) := dk_84 (dk_at dksX4_init_4 20 rfl rfl)
theorem dX4_init_117 : decode cX4_init 117 = .ok (.dup, 1) := dk_89 (dk_at dksX4_init_4 21 rfl rfl)
theorem dX4_init_118 : decode cX4_init 118 = .ok (.bipush 19, 2) := dk_16 19 (dk_at dksX4_init_4 22 rfl rfl)
theorem dX4_init_120 : decode cX4_init 120 = .ok (.bipush 84, 2) := dk_16 84 (dk_at dksX4_init_5 0 rfl rfl)
theorem dX4_init_122 : decode cX4_init 122 = .ok (.bastore, 1) := dk_84 (dk_at dksX4_init_5 2 rfl rfl)
theorem dX4_init_123 : decode cX4_init 123 = .ok (.dup, 1) := dk_89 (dk_at dksX4_init_5 3 rfl rfl)
theorem dX4_init_124 : decode cX4_init 124 = .ok (.bipush 20, 2) := dk_16 20 (dk_at dksX4_init_5 4 rfl rfl)
theorem dX4_init_126 : decode cX4_init 126 = .ok (.bipush 85, 2) := dk_16 85 (dk_at dksX4_init_5 6 rfl rfl)
theorem dX4_init_128 : decode cX4_init 128 = .ok (.bastore, 1) := dk_84 (dk_at dksX4_init_5 8 rfl rfl)
theorem dX4_init_129 : decode cX4_init 129 = .ok (.dup, 1) := dk_89 (dk_at dksX4_init_5 9 rfl rfl)
theorem dX4_init_130 : decode cX4_init 130 = .ok (.bipush 21, 2) := dk_16 21 (dk_at dksX4_init_5 10 rfl rfl)
theorem dX4_init_132 : decode cX4_init 132 = .ok (.bipush 86, 2) := dk_16 86 (dk_at dksX4_init_5 12 rfl rfl)
theorem dX4_init_134 : decode cX4_init 134 = .ok (.bastore, 1) := dk_84 (dk_at dksX4_init_5 14 rfl rfl)
theorem dX4_init_135 : decode cX4_init 135 = .ok (.dup, 1) := dk_89 (dk_at dksX4_init_5 15 rfl rfl)
theorem dX4_init_136 : decode cX4_init 136 = .ok (.bipush 22, 2) := dk_16 22 (dk_at dksX4_init_5 16 rfl rfl)
theorem dX4_init_138 : decode cX4_init 138 = .ok (.bipush 87, 2) := dk_16 87 (dk_at dksX4_init_5 18 rfl rfl)
theorem dX4_init_140 : decode cX4_init 140 = .ok (.bastore, 1) := dk_84 (dk_at dksX4_init_5 20 rfl rfl)
theorem dX4_init_141 : decode cX4_init 141 = .ok (.dup, 1) := dk_89 (dk_at dksX4_init_5 21 rfl rfl)
theorem dX4_init_142 : decode cX4_init 142 = .ok (.bipush 23, 2) := dk_16 23 (dk_at dksX4_init_5 22 rfl rfl)
theorem dX4_init_144 : decode cX4_init 144 = .ok (.bipush 88, 2) := dk_16 88 (dk_at dksX4_init_6 0 rfl rfl)
theorem dX4_init_146 : decode cX4_init 146 = .ok (.bastore, 1) := dk_84 (dk_at dksX4_init_6 2 rfl rfl)
theorem dX4_init_147 : decode cX4_init 147 = .ok (.dup, 1) := dk_89 (dk_at dksX4_init_6 3 rfl rfl)
theorem dX4_init_148 : decode cX4_init 148 = .ok (.bipush 24, 2) := dk_16 24 (dk_at dksX4_init_6 4 rfl rfl)
theorem dX4_init_150 : decode cX4_init 150 = .ok (.bipush 89, 2) := dk_16 89 (dk_at dksX4_init_6 6 rfl rfl)
theorem dX4_init_152 : decode cX4_init 152 = .ok (.bastore, 1) := dk_84 (dk_at dksX4_init_6 8 rfl rfl)
theorem dX4_init_153 : decode cX4_init 153 = .ok (.dup, 1) := dk_89 (dk_at dksX4_init_6 9 rfl rfl)
theorem dX4_init_154 : decode cX4_init 154 = .ok (.bipush 25, 2) := dk_16 25 (dk_at dksX4_init_6 10 rfl rfl)
theorem dX4_init_156 : decode cX4_init 156 = .ok (.bipush 90, 2) := dk_16 90 (dk_at dksX4_init_6 12 rfl rfl)
theorem dX4_init_158 : decode cX4_init 158 = .ok (.bastore, 1) := dk_84 (dk_at dksX4_init_6 14 rfl rfl)
theorem dX4_init_159 : decode cX4_init 159 = .ok (.dup, 1) := dk_89 (dk_at dksX4_init_6 15 rfl rfl)
theorem dX4_init_160 : decode cX4_init 160 = .ok (.bipush 26, 2) := dk_16 26 (dk_at dksX4_init_6 16 rfl rfl)
theorem dX4_init_162 : decode cX4_init 162 = .ok (.bipush 97, 2) := dk_16 97 (dk_at dksX4_init_6 18 rfl rfl)
theorem dX4_init_164 : decode cX4_init 164 = .ok (.bastore, 1) := dk_84 (dk_at dksX4_init_6 20 rfl rfl)
theorem dX4_init_165 : decode cX4_init 165 = .ok (.dup, 1) := dk_89 (dk_at dksX4_init_6 21 rfl rfl)
theorem dX4_init_166 : decode cX4_init 166 = .ok (.bipush 27, 2) := dk_16 27 (dk_at dksX4_init_6 22 rfl rfl)
theorem dX4_init_168 : decode cX4_init 168 = .ok (.bipush 98, 2) := dk_16 98 (dk_at dksX4_init_7 0 rfl rfl)
theorem dX4_init_170 : decode cX4_init 170 = .ok (.bastore, 1) := dk_84 (dk_at dksX4_init_7 2 rfl rfl)
theorem dX4_init_171 : decode cX4_init 171 = .ok (.dup, 1) := dk_89 (dk_at dksX4_init_7 3 rfl rfl)
theorem dX4_init_172 : decode cX4_init 172 = .ok (.bipush 28, 2) := dk_16 28 (dk_at dksX4_init_7 4 rfl rfl)
theorem dX4_init_174 : decode cX4_init 174 = .ok (.bipush 99, 2) := dk_16 99 (dk_at dksX4_init_7 6 rfl rfl)
theorem dX4_init_176 : decode cX4_init 176 = .ok (.bastore, 1) := dk_84 (dk_at dksX4_init_7 8 rfl rfl)
theorem dX4_init_177 : decode cX4_init 177 = .ok (.dup, 1) := dk_89 (dk_at dksX4_init_7 9 rfl rfl)
theorem dX4_init_178 : decode cX4_init 178 = .ok (.bipush 29, 2) := dk_16 29 (dk_at dksX4_init_7 10 rfl rfl)
theorem dX4_init_180 : decode cX4_init 180 = .ok (.bipush 100, 2) := dk_16 100 (dk_at dksX4_init_7 12 rfl rfl)
theorem dX4_init_182 : decode cX4_init 182 = .ok (.bastore, 1) := dk_84 (dk_at dksX4_init_7 14 rfl rfl)
theorem dX4_init_183 : decode cX4_init 183 = .ok (.dup, 1) := dk_89 (dk_at dksX4_init_7 15 rfl rfl)
theorem dX4_init_184 : decode cX4_init 184 = .ok (.bipush 30, 2) := dk_16 30 (dk_at dksX4_init_7 16 rfl rfl)
theorem dX4_init_186 : decode cX4_init 186 = .ok (.bipush 101, 2) := dk_16 101 (dk_at dksX4_init_7 18 rfl rfl)
theorem dX4_init_188 : decode cX4_init 188 = .ok (.bastore, 1) := dk_84 (dk_at dksX4_init_7 20 rfl rfl)
theorem dX4_init_189 : decode cX4_init 189 = .ok (.dup, 1) := dk_89 (dk_at dksX4_init_7 21 rfl rfl)
theorem dX4_init_190 : decode cX4_init 190 = .ok (.bipush 31, 2) := dk_16 31 (dk_at dksX4_init_7 22 rfl rfl)
theorem dX4_init_192 : decode cX4_init 192 = .ok (.bipush 102, 2) := dk_16 102 (dk_at dksX4_init_8 0 rfl rfl)
theorem dX4_init_194 : decode cX4_init 194 = .ok (.bastore, 1) := dk_84 (dk_at dksX4_init_8 2 rfl rfl)
theorem dX4_init_195 : decode cX4_init 195 = .ok (.dup, 1) := dk_89 (dk_at dksX4_init_8 3 rfl rfl)
theorem dX4_init_196 : decode cX4_init 196 = .ok (.bipush 32, 2) := dk_16 32 (dk_at dksX4_init_8 4 rfl rfl)
theorem dX4_init_198 : decode cX4_init 198 = .ok (.bipush 103, 2) := dk_16 103 (dk_at dksX4_init_8 6 rfl rfl)
theorem dX4_init_200 : decode cX4_init 200 = .ok (.bastore, 1) := dk_84 (dk_at dksX4_init_8 8 rfl rfl)
theorem dX4_init_201 : decode cX4_init 201 = .ok (.dup, 1) := dk_89 (dk_at dksX4_init_8 9 rfl rfl)
theorem dX4_init_202 : decode cX4_init 202 = .ok (.bipush 33, 2) := dk_16 33 (dk_at dksX4_init_8 10 rfl rfl)
theorem dX4_init_204 : decode cX4_init 204 = .ok (.bipush 104, 2) := dk_16 104 (dk_at dksX4_init_8 12 rfl rfl)
theorem dX4_init_206 : decode cX4_init 206 = .ok (.bastore, 1) := dk_84 (dk_at dksX4_init_8 14 rfl rfl)
theorem dX4_init_207 : decode cX4_init 207 = .ok (.dup, 1) := dk_89 (dk_at dksX4_init_8 15 rfl rfl)
theorem dX4_init_208 : decode cX4_init 208 = .ok (.bipush 34, 2) := dk_16 34 (dk_at dksX4_init_8 16 rfl rfl)
theorem dX4_init_210 : decode cX4_init 210 = .ok (.bipush 105, 2) := dk_16 105 (dk_at dksX4_init_8 18 rfl rfl)
theorem dX4_init_212 : decode cX4_init 212 = .ok (.bastore, 1) := dk_84 (dk_at dksX4_init_8 20 rfl rfl)
theorem dX4_init_213 : decode cX4_init 213 = .ok (.dup, 1) := dk_89 (dk_at dksX4_init_8 21 rfl rfl)
theorem dX4_init_214 : decode cX4_init 214 = .ok (.bipush 35, 2) := dk_16 35 (dk_at dksX4_init_8 22 rfl rfl)
theorem dX4_init_216 : decode cX4_init 216 = .ok (.bipush 106, 2) := dk_16 106 (dk_at dksX4_init_9 0 rfl rfl)
theorem dX4_init_218 : decode cX4_init 218 = .ok (.bastore, 1) := dk_84 (dk_at dksX4_init_9 2 rfl rfl)
theorem dX4_init_219 : decode cX4_init 219 = .ok (.dup, 1) := dk_89 (dk_at dksX4_init_9 3 rfl rfl)
theorem dX4_init_220 : decode cX4_init 220 = .ok (.bipush 36, 2) := dk_16 36 (dk_at dksX4_init_9 4 rfl rfl)
theorem dX4_init_222 : decode cX4_init 222 = .ok (.bipush 107, 2) := dk_16 107 (dk_at dksX4_init_9 6 rfl rfl)
theorem dX4_init_224 : decode cX4_init 224 = .ok (.bastore, 1) := dk_84 (dk_at dksX4_init_9 8 rfl rfl)
theorem dX4_init_225 : decode cX4_init 225 = .ok (.dup, 1) := dk_89 (dk_at dksX4_init_9 9 rfl rfl)
theorem dX4_init_226 : decode cX4_init 226 = .ok (.bipush 37, 2) := dk_16 37 (dk_at dksX4_init_9 10 rfl rfl)
theorem dX4_init_228 : decode cX4_init 228 = .ok (.bipush 108, 2) := dk_16 108 (dk_at dksX4_init_9 12 rfl rfl)
theorem dX4_init_230 : decode cX4_init 230 = .ok (.bastore, 1) := dk_84 (dk_at dksX4_init_9 14 rfl rfl)
theorem dX4_init_231 : decode cX4_init 231 = .ok (.dup, 1) := dk_89 (dk_at dksX4_init_9 15 rfl rfl)
theorem dX4_init_232 : decode cX4_init 232 = .ok (.bipush 38, 2) := dk_16 38 (dk_at dksX4_init_9 16 rfl rfl)
theorem dX4_init_234 : decode cX4_init 234 = .ok (.bipush 109, 2) := dk_16 109 (dk_at dksX4_init_9 18 rfl rfl)
theorem dX4_init_236 : decode cX4_init 236 = .ok (.bastore, 1) := dk_84 (dk_at dksX4_init_9 20 rfl rfl)
theorem dX4_init_237 : decode cX4_init 237 = .ok (.dup, 1) := dk_89 (dk_at dksX4_init_9 21 rfl rfl)
theorem dX4_init_238 : decode cX4_init 238 = .ok (.bipush 39, 2) := dk_16 39 (dk_at dksX4_init_9 22 rfl rfl)
theorem dX4_init_240 : decode cX4_init 240 = .ok (.bipush 110, 2) := dk_16 110 (dk_at dksX4_init_10 0 rfl rfl)
theorem dX4_init_242 : decode cX4_init 242 = .ok (.bastore, 1) := dk_84 (dk_at dksX4_init_10 2 rfl rfl)
theorem dX4_init_243 : decode cX4_init 243 = .ok (.dup, 1) := dk_89 (dk_at dksX4_init_10 3 rfl rfl)
theorem dX4_init_244 : decode cX4_init 244 = .ok (.bipush 40, 2) := dk_16 40 (dk_at dksX4_init_10 4 rfl rfl)
theorem dX4_init_246 : decode cX4_init 246 = .ok (.bipush 111, 2) := dk_16 111 (dk_at dksX4_init_10 6 rfl rfl)
theorem dX4_init_248 : decode cX4_init 248 = .ok (.bastore, 1) := dk_84 (dk_at dksX4_init_10 8 rfl rfl)
theorem dX4_init_249 : decode cX4_init 249 = .ok (.dup, 1) := dk_89 (dk_at dksX4_init_10 9 rfl rfl)
theorem dX4_init_250 : decode cX4_init 250 = .ok (.bipush 41, 2) := dk_16 41 (dk_at dksX4_init_10 10 rfl rfl)
theorem dX4_init_252 : decode cX4_init 252 = .ok (.bipush 112, 2) := dk_16 112 (dk_at dksX4_init_10 12 rfl rfl)
theorem dX4_init_254 : decode cX4_init 254 = .ok (.bastore, 1) := dk_84 (dk_at dksX4_init_10 14 rfl rfl)
theorem dX4_init_255 : decode cX4_init 255 = .ok (.dup, 1) := dk_89 (dk_at dksX4_init_10 15 rfl rfl)
theorem dX4_init_256 : decode cX4_init 256 = .ok (.bipush 42, 2) := dk_16 42 (dk_at dksX4_init_10 16 rfl rfl)
theorem dX4_init_258 : decode cX4_init 258 = .ok (.bipush 113, 2) := dk_16 113 (dk_at dksX4_init_10 18 rfl rfl)
theorem dX4_init_260 : decode cX4_init 260 = .ok (.bastore, 1) := dk_84 (dk_at dksX4_init_10 20 rfl rfl)
theorem dX4_init_261 : decode cX4_init 261 = .ok (.dup, 1) := dk_89 (dk_at dksX4_init_10 21 rfl rfl)
theorem dX4_init_262 : decode cX4_init 262 = .ok (.bipush 43, 2) := dk_16 43 (dk_at dksX4_init_10 22 rfl rfl)
theorem dX4_init_264 : decode cX4_init 264 = .ok (.bipush 114, 2) := dk_16 114 (dk_at dksX4_init_11 0 rfl rfl)
theorem dX4_init_266 : decode cX4_init 266 = .ok (.bastore, 1) := dk_84 (dk_at dksX4_init_11 2 rfl rfl)
theorem dX4_init_267 : decode cX4_init 267 = .ok (.dup, 1) := dk_89 (dk_at dksX4_init_11 3 rfl rfl)
theorem dX4_init_268 : decode cX4_init 268 = .ok (.bipush 44, 2) := dk_16 44 (dk_at dksX4_init_11 4 rfl rfl)
theorem dX4_init_270 : decode cX4_init 270 = .ok (.bipush 115, 2) := dk_16 115 (dk_at dksX4_init_11 6 rfl rfl)
theorem dX4_init_272 : decode cX4_init 272 = .ok (.bastore, 1) := dk_84 (dk_at dksX4_init_11 8 rfl rfl)
theorem dX4_init_273 : decode cX4_init 273 = .ok (.dup, 1) := dk_89 (dk_at dksX4_init_11 9 rfl rfl)
theorem dX4_init_274 : decode cX4_init 274 = .ok (.bipush 45, 2) := dk_16 45 (dk_at dksX4_init_11 10 rfl rfl)
theorem dX4_init_276 : decode cX4_init 276 = .ok (.bipush 116, 2) := dk_16 116 (dk_at dksX4_init_11 12 rfl rfl)
theorem dX4_init_278 : decode cX4_init 278 = .ok (.bastore, 1) := dk_84 (dk_at dksX4_init_11 14 rfl rfl)
theorem dX4_init_279 : decode cX4_init 279 = .ok (.dup, 1) := dk_89 (dk_at dksX4_init_11 15 rfl rfl)
theorem dX4_init_280 : decode cX4_init 280 = .ok (.bipush 46, 2) := dk_16 46 (dk_at dksX4_init_11 16 rfl rfl)
theorem dX4_init_282 : decode cX4_init 282 = .ok (.bipush 117, 2) := dk_16 117 (dk_at dksX4_init_11 18 rfl rfl)
theorem dX4_init_284 : decode cX4_init 284 = .ok (.bastore, 1) := dk_84 (dk_at dksX4_init_11 20 rfl rfl)
theorem dX4_init_285 : decode cX4_init 285 = .ok (.dup, 1) := dk_89 (dk_at dksX4_init_11 21 rfl rfl)
theorem dX4_init_286 : decode cX4_init 286 = .ok (.bipush 47, 2) := dk_16 47 (dk_at dksX4_init_11 22 rfl rfl)
theorem dX4_init_288 : decode cX4_init 288 = .ok (.bipush 118, 2) := dk_16 118 (dk_at dksX4_init_12 0 rfl rfl)
theorem dX4_init_290 : decode cX4_init 290 = .ok (.bastore, 1) := dk_84 (dk_at dksX4_init_12 2 rfl rfl)
theorem dX4_init_291 : decode cX4_init 291 = .ok (.dup, 1) := dk_89 (dk_at dksX4_init_12 3 rfl rfl)
theorem dX4_init_292 : decode cX4_init 292 = .ok (.bipush 48, 2) := dk_16 48 (dk_at dksX4_init_12 4 rfl rfl)
theorem dX4_init_294 : decode cX4_init 294 = .ok (.bipush 119, 2) := dk_16 119 (dk_at dksX4_init_12 6 rfl rfl)
theorem dX4_init_296 : decode cX4_init 296 = .ok (.bastore, 1) := dk_84 (dk_at dksX4_init_12 8 rfl rfl)
theorem dX4_init_297 : decode cX4_init 297 = .ok (.dup, 1) := dk_89 (dk_at dksX4_init_12 9 rfl rfl)
theorem dX4_init_298 : decode cX4_init 298 = .ok (.bipush 49, 2) := dk_16 49 (dk_at dksX4_init_12 10 rfl rfl)
theorem dX4_init_300 : decode cX4_init 300 = .ok (.bipush 120, 2) := dk_16 120 (dk_at dksX4_init_12 12 rfl rfl)
theorem dX4_init_302 : decode cX4_init 302 = .ok (.bastore, 1) := dk_84 (dk_at dksX4_init_12 14 rfl rfl)
theorem dX4_init_303 : decode cX4_init 303 = .ok (.dup, 1) := dk_89 (dk_at dksX4_init_12 15 rfl rfl)
theorem dX4_init_304 : decode cX4_init 304 = .ok (.bipush 50, 2) := dk_16 50 (dk_at dksX4_init_12 16 rfl rfl)
theorem dX4_init_306 : decode cX4_init 306 = .ok (.bipush 121, 2) := dk_16 121 (dk_at dksX4_init_12 18 rfl rfl)
theorem dX4_init_308 : decode cX4_init 308 = .ok (.bastore, 1) := dk_84 (dk_at dksX4_init_12 20 rfl rfl)
theorem dX4_init_309 : decode cX4_init 309 = .ok (.dup, 1) := dk_89 (dk_at dksX4_init_12 21 rfl rfl)
theorem dX4_init_310 : decode cX4_init 310 = .ok (.bipush 51, 2) := dk_16 51 (dk_at dksX4_init_12 22 rfl rfl)
theorem dX4_init_312 : decode cX4_init 312 = .ok (.bipush 122, 2) := dk_16 122 (dk_at dksX4_init_13 0 rfl rfl)
theorem dX4_init_314 : decode cX4_init 314 = .ok (.bastore, 1) := dk_84 (dk_at dksX4_init_13 2 rfl rfl)
theorem dX4_init_315 : decode cX4_init 315 = .ok (.dup, 1) := dk_89 (dk_at dksX4_init_13 3 rfl rfl)
theorem dX4_init_316 : decode cX4_init 316 = .ok (.bipush 52, 2) := dk_16 52 (dk_at dksX4_init_13 4 rfl rfl)
theorem dX4_init_318 : decode cX4_init 318 = .ok (.bipush 48, 2) := dk_16 48 (dk_at dksX4_init_13 6 rfl rfl)
theorem dX4_init_320 : decode cX4_init 320 = .ok (.bastore, 1) := dk_84 (dk_at dksX4_init_13 8 rfl rfl)
theorem dX4_init_321 : decode cX4_init 321 = .ok (.dup, 1) := dk_89 (dk_at dksX4_init_13 9 rfl rfl)
theorem dX4_init_322 : decode cX4_init 322 = .ok (.bipush 53, 2) := dk_16 53 (dk_at dksX4_init_13 10 rfl rfl)
theorem dX4_init_324 : decode cX4_init 324 = .ok (.bipush 49, 2) := dk_16 49 (dk_at dksX4_init_13 12 rfl rfl)
theorem dX4_init_326 : decode cX4_init 326 = .ok (.bastore, 1) := dk_84 (dk_at dksX4_init_13 14 rfl rfl)
theorem dX4_init_327 : decode cX4_init 327 = .ok (.dup, 1) := dk_89 (dk_at dksX4_init_13 15 rfl rfl)
theorem dX4_init_328 : decode cX4_init 328 = .ok (.bipush 54, 2) := dk_16 54 (dk_at dksX4_init_13 16 rfl rfl)
theorem dX4_init_330 : decode cX4_init 330 = .ok (.bipush 50, 2) := dk_16 50 (dk_at dksX4_init_13 18 rfl rfl)
theorem dX4_init_332 : decode cX4_init 332 = .ok (.bastore, 1) := dk_84 (dk_at dksX4_init_13 20 rfl rfl)
theorem dX4_init_333 : decode cX4_init 333 = .ok (.dup, 1) := dk_89 (dk_at dksX4_init_13 21 rfl rfl)
theorem dX4_init_334 : decode cX4_init 334 = .ok (.bipush 55, 2) := dk_16 55 (dk_at dksX4_init_13 22 rfl rfl)
theorem dX4_init_336 : decode cX4_init 336 = .ok (.bipush 51, 2) := dk_16 51 (dk_at dksX4_init_14 0 rfl rfl)
theorem dX4_init_338 : decode cX4_init 338 = .ok (.bastore, 1) := dk_84 (dk_at dksX4_init_14 2 rfl rfl)
theorem dX4_init_339 : decode cX4_init 339 = .ok (.dup, 1) := dk_89 (dk_at dksX4_init_14 3 rfl rfl)
theorem dX4_init_340 : decode cX4_init 340 = .ok (.bipush 56, 2) := dk_16 56 (dk_at dksX4_init_14 4 rfl rfl)
theorem dX4_init_342 : decode cX4_init 342 = .ok (.bipush 52, 2) := dk_16 52 (dk_at dksX4_init_14 6 rfl rfl)
theorem dX4_init_344 : decode cX4_init 344 = .ok (.bastore, 1) := dk_84 (dk_at dksX4_init_14 8 rfl rfl)
theorem dX4_init_345 : decode cX4_init 345 = .ok (.dup, 1) := dk_89 (dk_at dksX4_init_14 9 rfl rfl)
theorem dX4_init_346 : decode cX4_init 346 = .ok (.bipush 57, 2) := dk_16 57 (dk_at dksX4_init_14 10 rfl rfl)
theorem dX4_init_348 : decode cX4_init 348 = .ok (.bipush 53, 2) := dk_16 53 (dk_at dksX4_init_14 12 rfl rfl)
theorem dX4_init_350 : decode cX4_init 350 = .ok (.bastore, 1) := dk_84 (dk_at dksX4_init_14 14 rfl rfl)
theorem dX4_init_351 : decode cX4_init 351 = .ok (.dup, 1) := dk_89 (dk_at dksX4_init_14 15 rfl rfl)
theorem dX4_init_352 : decode cX4_init 352 = .ok (.bipush 58, 2) := dk_16 58 (dk_at dksX4_init_14 16 rfl rfl)
theorem dX4_init_354 : decode cX4_init 354 = .ok (.bipush 54, 2) := dk_16 54 (dk_at dksX4_init_14 18 rfl rfl)
theorem dX4_init_356 : decode cX4_init 356 = .ok (.bastore, 1) := dk_84 (dk_at dksX4_init_14 20 rfl rfl)
theorem dX4_init_357 : decode cX4_init 357 = .ok (.dup, 1) := dk_89 (dk_at dksX4_init_14 21 rfl rfl)
theorem dX4_init_358 : decode cX4_init 358 = .ok (.bipush 59, 2) := dk_16 59 (dk_at dksX4_init_14 22 rfl rfl)
theorem dX4_init_360 : decode cX4_init 360 = .ok (.bipush 55, 2) := dk_16 55 (dk_at dksX4_init_15 0 rfl rfl)
theorem dX4_init_362 : decode cX4_init 362 = .ok (.bastore, 1) := dk_84 (dk_at dksX4_init_15 2 rfl rfl)
theorem dX4_init_363 : decode cX4_init 363 = .ok (.dup, 1) := dk_89 (dk_at dksX4_init_15 3 rfl rfl)
theorem dX4_init_364 : decode cX4_init 364 = .ok (.bipush 60, 2) := dk_16 60 (dk_at dksX4_init_15 4 rfl rfl)
theorem dX4_init_366 : decode cX4_init 366 = .ok (.bipush 56, 2) := dk_16 56 (dk_at dksX4_init_15 6 rfl rfl)
theorem dX4_init_368 : decode cX4_init 368 = .ok (.bastore, 1) := dk_84 (dk_at dksX4_init_15 8 rfl rfl)
theorem dX4_init_369 : decode cX4_init 369 = .ok (.dup, 1) := dk_89 (dk_at dksX4_init_15 9 rfl rfl)
theorem dX4_init_370 : decode cX4_init 370 = .ok (.bipush 61, 2) := dk_16 61 (dk_at dksX4_init_15 10 rfl rfl)
theorem dX4_init_372 : decode cX4_init 372 = .ok (.bipush 57, 2) := dk_16 57 (dk_at dksX4_init_15 12 rfl rfl)
theorem dX4_init_374 : decode cX4_init 374 = .ok (.bastore, 1) := dk_84 (dk_at dksX4_init_15 14 rfl rfl)
theorem dX4_init_375 : decode cX4_init 375 = .ok (.dup, 1) := dk_89 (dk_at dksX4_init_15 15 rfl rfl)
theorem dX4_init_376 : decode cX4_init 376 = .ok (.bipush 62, 2) := dk_16 62 (dk_at dksX4_init_15 16 rfl rfl)
theorem dX4_init_378 : decode cX4_init 378 = .ok (.bipush 43, 2) := dk_16 43 (dk_at dksX4_init_15 18 rfl rfl)
theorem dX4_init_380 : decode cX4_init 380 = .ok (.bastore, 1) := dk_84 (dk_at dksX4_init_15 20 rfl rfl)
theorem dX4_init_381 : decode cX4_init 381 = .ok (.dup, 1) := dk_89 (dk_at dksX4_init_15 21 rfl rfl)
theorem dX4_init_382 : decode cX4_init 382 = .ok (.bipush 63, 2) := dk_16 63 (dk_at dksX4_init_15 22 rfl rfl)
theorem dX4_init_384 : decode cX4_init 384 = .ok (.bipush 47, 2) := dk_16 47 (dk_at dksX4_init_16 0 rfl rfl)
theorem dX4_init_386 : decode cX4_init 386 = .ok (.bastore, 1) := dk_84 (dk_at dksX4_init_16 2 rfl rfl)
theorem dX4_init_387 : decode cX4_init 387 = .ok (.putfield 7, 3) := dk_181 0 7 (dk_at dksX4_init_16 3 rfl rfl)
theorem dX4_init_390 : decode cX4_init 390 = .ok (.aload_n 0, 1) := dk_42 (dk_at dksX4_init_16 6 rfl rfl)
theorem dX4_init_391 : decode cX4_init 391 = .ok (.bipush 61, 2) := dk_16 61 (dk_at dksX4_init_16 7 rfl rfl)
theorem dX4_init_393 : decode cX4_init 393 = .ok (.putfield 16, 3) := dk_181 0 16 (dk_at dksX4_init_16 9 rfl rfl)
theorem dX4_init_396 : decode cX4_init 396 = .ok (.aload_n 0, 1) := dk_42 (dk_at dksX4_init_16 12 rfl rfl)
theorem dX4_init_397 : decode cX4_init 397 = .ok (.sipush 128, 3) := dk_17 0 128 (dk_at dksX4_init_16 13 rfl rfl)
theorem dX4_init_400 : decode cX4_init 400 = .ok (.newarray .byte, 2) := dk_188_8 (dk_at dksX4_init_16 16 rfl rfl)
theorem dX4_init_402 : decode cX4_init 402 = .ok (.putfield 1, 3) := dk_181 0 1 (dk_at dksX4_init_16 18 rfl rfl)
theorem dX4_init_405 : decode cX4_init 405 = .ok (.aload_n 0, 1) := dk_42 (dk_at dksX4_init_16 21 rfl rfl)
theorem dX4_init_406 : decode cX4_init 406 = .ok (.invokevirtual 20, 3) := dk_182 0 20 (dk_at dksX4_init_17 0 rfl rfl)
theorem dX4_init_409 : decode cX4_init 409 = .ok (.return_, 1) := dk_177 (dk_at dksX4_init_17 3 rfl rfl)
abbrev cX4_initialiseDecodingTable : ByteArray := prog_2_method_1_code
def yX4_initialiseDecodingTable : MethodName := ⟨RX4, "initialiseDecodingTable", "()V"⟩
def dkwX4_initialiseDecodingTable_2 : List UInt8 := [132, 1, 1, 167, 255, 231, 177]
abbrev dktX4_initialiseDecodingTable_2 : List UInt8 := dkwX4_initialiseDecodingTable_2 ++ []
def dkwX4_initialiseDecodingTable_1 : List UInt8 := [3, 60, 27, 42, 180, 0, 7, 190, 162, 0, 22, 42, 180, 0, 1, 42, 180, 0, 7, 27, 51, 27, 145, 84]
abbrev dktX4_initialiseDecodingTable_1 : List UInt8 := dkwX4_initialiseDecodingTable_1 ++ dktX4_initialiseDecodingTable_2
def dkwX4_initialiseDecodingTable_0 : List UInt8 := [3, 60, 27, 42, 180, 0, 1, 190, 162, 0, 16, 42, 180, 0, 1, 27, 2, 84, 132, 1, 1, 167, 255, 237]
abbrev dktX4_initialiseDecodingTable_0 : List UInt8 := dkwX4_initialiseDecodingTable_0 ++ dktX4_initialiseDecodingTable_1
theorem dksX4_initialiseDecodingTable_0 : cX4_initialiseDecodingTable.data.toList.drop 0 = dktX4_initialiseDecodingTable_0 := by decide +kernel
theorem dksX4_initialiseDecodingTable_1 : cX4_initialiseDecodingTable.data.toList.drop 24 = dktX4_initialiseDecodingTable_1 := dk_seg dksX4_initialiseDecodingTable_0 24 rfl rfl
theorem dksX4_initialiseDecodingTable_2 : cX4_initialiseDecodingTable.data.toList.drop 48 = dktX4_initialiseDecodingTable_2 := dk_seg dksX4_initialiseDecodingTable_1 24 rfl rfl
theorem dX4_initialiseDecodingTable_0 : decode cX4_initialiseDecodingTable 0 = .ok (.iconst 0, 1) := dk_3 (dk_at dksX4_initialiseDecodingTable_0 0 rfl rfl)
theorem dX4_initialiseDecodingTable_1 : decode cX4_initialiseDecodingTable 1 = .ok (.istore_n 1, 1) := dk_60 (dk_at dksX4_initialiseDecodingTable_0 1 rfl rfl)
theorem dX4_initialiseDecodingTable_2 : decode cX4_initialiseDecodingTable 2 = .ok (.iload_n 1, 1) := dk_27 (dk_at dksX4_initialiseDecodingTable_0 2 rfl rfl)
theorem dX4_initialiseDecodingTable_3 : decode cX4_initialiseDecodingTable 3 = .ok (.aload_n 0, 1) := dk_42 (dk_at dksX4_initialiseDecodingTable_0 3 rfl rfl)
theorem dX4_initialiseDecodingTable_4 : decode cX4_initialiseDecodingTable 4 = .ok (.getfield 1, 3) := dk_180 0 1 (dk_at dksX4_initialiseDecodingTable_0 4 rfl rfl)
theorem dX4_initialiseDecodingTable_7 : decode cX4_initialiseDecodingTable 7 = .ok (.arraylength, 1) := dk_190 (dk_at dksX4_initialiseDecodingTable_0 7 rfl rfl)
theorem dX4_initialiseDecodingTable_8 : decode cX4_initialiseDecodingTable 8 = .ok (.if_icmp .ge 16, 3) := dk_162 0 16 (dk_at dksX4_initialiseDecodingTable_0 8 rfl rfl)
theorem dX4_initialiseDecodingTable_11 : decode cX4_initialiseDecodingTable 11 = .ok (.aload_n 0, 1) := dk_42 (dk_at dksX4_initialiseDecodingTable_0 11 rfl rfl)
theorem dX4_initialiseDecodingTable_12 : decode cX4_initialiseDecodingTable 12 = .ok (.getfield 1, 3) := dk_180 0 1 (dk_at dksX4_initialiseDecodingTable_0 12 rfl rfl)
theorem dX4_initialiseDecodingTable_15 : decode cX4_initialiseDecodingTable 15 = .ok (.iload_n 1, 1) := dk_27 (dk_at dksX4_initialiseDecodingTable_0 15 rfl rfl)
theorem dX4_initialiseDecodingTable_16 : decode cX4_initialiseDecodingTable 16 = .ok (.iconst (-1), 1) := dk_2 (dk_at dksX4_initialiseDecodingTable_0 16 rfl rfl)
theorem dX4_initialiseDecodingTable_17 : decode cX4_initialiseDecodingTable 17 = .ok (.bastore, 1) := dk_84 (dk_at dksX4_initialiseDecodingTable_0 17 rfl rfl)
theorem dX4_initialiseDecodingTable_18 : decode cX4_initialiseDecodingTable 18 = .ok (.iinc 1 1, 3) := dk_132 1 1 (dk_at dksX4_initialiseDecodingTable_0 18 rfl rfl)
theorem dX4_initialiseDecodingTable_21 : decode cX4_initialiseDecodingTable 21 = .ok (.goto (-19), 3) := dk_167 255 237 (dk_at dksX4_initialiseDecodingTable_0 21 rfl rfl)
theorem dX4_initialiseDecodingTable_24 : decode cX4_initialiseDecodingTable 24 = .ok (.iconst 0, 1) := dk_3 (dk_at dksX4_initialiseDecodingTable_1 0 rfl rfl)
theorem dX4_initialiseDecodingTable_25 : decode cX4_initialiseDecodingTable 25 = .ok (.istore_n 1, 1) := dk_60 (dk_at dksX4_initialiseDecodingTable_1 1 rfl rfl)
theorem dX4_initialiseDecodingTable_26 : decode cX4_initialiseDecodingTable 26 = .ok (.iload_n 1, 1) := dk_27 (dk_at dksX4_initialiseDecodingTable_1 2 rfl rfl)
theorem dX4_initialiseDecodingTable_27 : decode cX4_initialiseDecodingTable 27 = .ok (.aload_n 0, 1) := dk_42 (dk_at dksX4_initialiseDecodingTable_1 3 rfl rfl)
theorem dX4_initialiseDecodingTable_28 : decode cX4_initialiseDecodingTable 28 = .ok (.getfield 7, 3) := dk_180 0 7 (dk_at dksX4_initialiseDecodingTable_1 4 rfl rfl)
theorem dX4_initialiseDecodingTable_31 : decode cX4_initialiseDecodingTable 31 = .ok (.arraylength, 1) := dk_190 (dk_at dksX4_initialiseDecodingTable_1 7 rfl rfl)
theorem dX4_initialiseDecodingTable_32 : decode cX4_initialiseDecodingTable 32 = .ok (.if_icmp .ge 22, 3) := dk_162 0 22 (dk_at dksX4_initialiseDecodingTable_1 8 rfl rfl)
theorem dX4_initialiseDecodingTable_35 : decode cX4_initialiseDecodingTable 35 = .ok (.aload_n 0, 1) := dk_42 (dk_at dksX4_initialiseDecodingTable_1 11 rfl rfl)
theorem dX4_initialiseDecodingTable_36 : decode cX4_initialiseDecodingTable 36 = .ok (.getfield 1, 3) := dk_180 0 1 (dk_at dksX4_initialiseDecodingTable_1 12 rfl rfl)
theorem dX4_initialiseDecodingTable_39 : decode cX4_initialiseDecodingTable 39 = .ok (.aload_n 0, 1) := dk_42 (dk_at dksX4_initialiseDecodingTable_1 15 rfl rfl)
theorem dX4_initialiseDecodingTable_40 : decode cX4_initialiseDecodingTable 40 = .ok (.getfield 7, 3) := dk_180 0 7 (dk_at dksX4_initialiseDecodingTable_1 16 rfl rfl)
theorem dX4_initialiseDecodingTable_43 : decode cX4_initialiseDecodingTable 43 = .ok (.iload_n 1, 1) := dk_27 (dk_at dksX4_initialiseDecodingTable_1 19 rfl rfl)
theorem dX4_initialiseDecodingTable_44 : decode cX4_initialiseDecodingTable 44 = .ok (.baload, 1) := dk_51 (dk_at dksX4_initialiseDecodingTable_1 20 rfl rfl)
theorem dX4_initialiseDecodingTable_45 : decode cX4_initialiseDecodingTable 45 = .ok (.iload_n 1, 1) := dk_27 (dk_at dksX4_initialiseDecodingTable_1 21 rfl rfl)
theorem dX4_initialiseDecodingTable_46 : decode cX4_initialiseDecodingTable 46 = .ok (.i2b, 1) := dk_145 (dk_at dksX4_initialiseDecodingTable_1 22 rfl rfl)
theorem dX4_initialiseDecodingTable_47 : decode cX4_initialiseDecodingTable 47 = .ok (.bastore, 1) := dk_84 (dk_at dksX4_initialiseDecodingTable_1 23 rfl rfl)
theorem dX4_initialiseDecodingTable_48 : decode cX4_initialiseDecodingTable 48 = .ok (.iinc 1 1, 3) := dk_132 1 1 (dk_at dksX4_initialiseDecodingTable_2 0 rfl rfl)
theorem dX4_initialiseDecodingTable_51 : decode cX4_initialiseDecodingTable 51 = .ok (.goto (-25), 3) := dk_167 255 231 (dk_at dksX4_initialiseDecodingTable_2 3 rfl rfl)
theorem dX4_initialiseDecodingTable_54 : decode cX4_initialiseDecodingTable 54 = .ok (.return_, 1) := dk_177 (dk_at dksX4_initialiseDecodingTable_2 6 rfl rfl)
abbrev cX4_getEncodedLength : ByteArray := prog_2_method_4_code
def yX4_getEncodedLength : MethodName := ⟨RX4, "getEncodedLength", "(I)I"⟩
def dkwX4_getEncodedLength_0 : List UInt8 := [27, 5, 96, 6, 108, 7, 104, 172]
abbrev dktX4_getEncodedLength_0 : List UInt8 := dkwX4_getEncodedLength_0 ++ []
theorem dksX4_getEncodedLength_0 : cX4_getEncodedLength.data.toList.drop 0 = dktX4_getEncodedLength_0 := by decide +kernel
theorem dX4_getEncodedLength_0 : decode cX4_getEncodedLength 0 = .ok (.iload_n 1, 1) := dk_27 (dk_at dksX4_getEncodedLength_0 0 rfl rfl)
theorem dX4_getEncodedLength_1 : decode cX4_getEncodedLength 1 = .ok (.iconst 2, 1) := dk_5 (dk_at dksX4_getEncodedLength_0 1 rfl rfl)
theorem dX4_getEncodedLength_2 : decode cX4_getEncodedLength 2 = .ok (.iadd, 1) := dk_96 (dk_at dksX4_getEncodedLength_0 2 rfl rfl)
theorem dX4_getEncodedLength_3 : decode cX4_getEncodedLength 3 = .ok (.iconst 3, 1) := dk_6 (dk_at dksX4_getEncodedLength_0 3 rfl rfl)
theorem dX4_getEncodedLength_4 : decode cX4_getEncodedLength 4 = .ok (.idiv, 1) := dk_108 (dk_at dksX4_getEncodedLength_0 4 rfl rfl)
theorem dX4_getEncodedLength_5 : decode cX4_getEncodedLength 5 = .ok (.iconst 4, 1) := dk_7 (dk_at dksX4_getEncodedLength_0 5 rfl rfl)
theorem dX4_getEncodedLength_6 : decode cX4_getEncodedLength 6 = .ok (.imul, 1) := dk_104 (dk_at dksX4_getEncodedLength_0 6 rfl rfl)
theorem dX4_getEncodedLength_7 : decode cX4_getEncodedLength 7 = .ok (.ireturn, 1) := dk_172 (dk_at dksX4_getEncodedLength_0 7 rfl rfl)
abbrev cX4_encode : ByteArray := prog_2_method_3_code
def yX4_encode : MethodName := ⟨RX4, "encode", "([BII[BI)I"⟩
def dkwX4_encode_15 : List UInt8 := [126, 51, 84, 25, 4, 21, 8, 132, 8, 1, 42, 180, 0, 16, 84, 167, 0, 3, 21, 8, 21, 5, 100, 172]
abbrev dktX4_encode_15 : List UInt8 := dkwX4_encode_15 ++ []
def dkwX4_encode_14 : List UInt8 := [124, 128, 16, 63, 126, 51, 84, 25, 4, 21, 8, 132, 8, 1, 42, 180, 0, 7, 21, 10, 5, 120, 16, 63]
abbrev dktX4_encode_14 : List UInt8 := dkwX4_encode_14 ++ dktX4_encode_15
def dkwX4_encode_13 : List UInt8 := [124, 16, 63, 126, 51, 84, 25, 4, 21, 8, 132, 8, 1, 42, 180, 0, 7, 21, 9, 7, 120, 21, 10, 7]
abbrev dktX4_encode_13 : List UInt8 := dkwX4_encode_13 ++ dktX4_encode_14
def dkwX4_encode_12 : List UInt8 := [132, 6, 1, 51, 17, 0, 255, 126, 54, 10, 25, 4, 21, 8, 132, 8, 1, 42, 180, 0, 7, 21, 9, 5]
abbrev dktX4_encode_12 : List UInt8 := dkwX4_encode_12 ++ dktX4_encode_13
def dkwX4_encode_11 : List UInt8 := [42, 180, 0, 16, 84, 167, 0, 109, 43, 21, 6, 132, 6, 1, 51, 17, 0, 255, 126, 54, 9, 43, 21, 6]
abbrev dktX4_encode_11 : List UInt8 := dkwX4_encode_11 ++ dktX4_encode_12
def dkwX4_encode_10 : List UInt8 := [16, 63, 126, 51, 84, 25, 4, 21, 8, 132, 8, 1, 42, 180, 0, 16, 84, 25, 4, 21, 8, 132, 8, 1]
abbrev dktX4_encode_10 : List UInt8 := dkwX4_encode_10 ++ dktX4_encode_11
def dkwX4_encode_9 : List UInt8 := [21, 9, 5, 124, 16, 63, 126, 51, 84, 25, 4, 21, 8, 132, 8, 1, 42, 180, 0, 7, 21, 9, 7, 120]
abbrev dktX4_encode_9 : List UInt8 := dkwX4_encode_9 ++ dktX4_encode_10
def dkwX4_encode_8 : List UInt8 := [43, 21, 6, 132, 6, 1, 51, 17, 0, 255, 126, 54, 9, 25, 4, 21, 8, 132, 8, 1, 42, 180, 0, 7]
abbrev dktX4_encode_8 : List UInt8 := dkwX4_encode_8 ++ dktX4_encode_9
def dkwX4_encode_7 : List UInt8 := [171, 0, 0, 0, 0, 212, 0, 0, 0, 2, 0, 0, 0, 1, 0, 0, 0, 26, 0, 0, 0, 2, 0, 0, 0, 106]
abbrev dktX4_encode_7 : List UInt8 := dkwX4_encode_7 ++ dktX4_encode_8
def dkwX4_encode_6 : List UInt8 := [126, 51, 84, 167, 255, 125, 29, 21, 6, 28, 100, 100]
abbrev dktX4_encode_6 : List UInt8 := dkwX4_encode_6 ++ dktX4_encode_7
def dkwX4_encode_5 : List UInt8 := [16, 6, 124, 128, 16, 63, 126, 51, 84, 25, 4, 21, 8, 132, 8, 1, 42, 180, 0, 7, 21, 11, 16, 63]
abbrev dktX4_encode_5 : List UInt8 := dkwX4_encode_5 ++ dktX4_encode_6
def dkwX4_encode_4 : List UInt8 := [124, 128, 16, 63, 126, 51, 84, 25, 4, 21, 8, 132, 8, 1, 42, 180, 0, 7, 21, 10, 5, 120, 21, 11]
abbrev dktX4_encode_4 : List UInt8 := dkwX4_encode_4 ++ dktX4_encode_5
def dkwX4_encode_3 : List UInt8 := [124, 16, 63, 126, 51, 84, 25, 4, 21, 8, 132, 8, 1, 42, 180, 0, 7, 21, 9, 7, 120, 21, 10, 7]
abbrev dktX4_encode_3 : List UInt8 := dkwX4_encode_3 ++ dktX4_encode_4
def dkwX4_encode_2 : List UInt8 := [132, 6, 1, 51, 17, 0, 255, 126, 54, 11, 25, 4, 21, 8, 132, 8, 1, 42, 180, 0, 7, 21, 9, 5]
abbrev dktX4_encode_2 : List UInt8 := dkwX4_encode_2 ++ dktX4_encode_3
def dkwX4_encode_1 : List UInt8 := [132, 6, 1, 51, 54, 9, 43, 21, 6, 132, 6, 1, 51, 17, 0, 255, 126, 54, 10, 43, 21, 6]
abbrev dktX4_encode_1 : List UInt8 := dkwX4_encode_1 ++ dktX4_encode_2
def dkwX4_encode_0 : List UInt8 := [28, 54, 6, 28, 29, 96, 5, 100, 54, 7, 21, 5, 54, 8, 21, 6, 21, 7, 162, 0, 130, 43, 21, 6]
abbrev dktX4_encode_0 : List UInt8 := dkwX4_encode_0 ++ dktX4_encode_1
theorem dksX4_encode_0 : cX4_encode.data.toList.drop 0 = dktX4_encode_0 := by decide +kernel
theorem dksX4_encode_1 : cX4_encode.data.toList.drop 24 = dktX4_encode_1 := dk_seg dksX4_encode_0 24 rfl rfl
theorem dksX4_encode_2 : cX4_encode.data.toList.drop 46 = dktX4_encode_2 := dk_seg dksX4_encode_1 22 rfl rfl
theorem dksX4_encode_3 : cX4_encode.data.toList.drop 70 = dktX4_encode_3 := dk_seg dksX4_encode_2 24 rfl rfl
theorem dksX4_encode_4 : cX4_encode.data.toList.drop 94 = dktX4_encode_4 := dk_seg dksX4_encode_3 24 rfl rfl
theorem dksX4_encode_5 : cX4_encode.data.toList.drop 118 = dktX4_encode_5 := dk_seg dksX4_encode_4 24 rfl rfl
theorem dksX4_encode_6 : cX4_encode.data.toList.drop 142 = dktX4_encode_6 := dk_seg dksX4_encode_5 24 rfl rfl
theorem dksX4_encode_7 : cX4_encode.data.toList.drop 154 = dktX4_encode_7 := dk_seg dksX4_encode_6 12 rfl rfl
theorem dksX4_encode_8 : cX4_encode.data.toList.drop 180 = dktX4_encode_8 := dk_seg dksX4_encode_7 26 rfl rfl
theorem dksX4_encode_9 : cX4_encode.data.toList.drop 204 = dktX4_encode_9 := dk_seg dksX4_encode_8 24 rfl rfl
theorem dksX4_encode_10 : cX4_encode.data.toList.drop 228 = dktX4_encode_10 := dk_seg dksX4_encode_9 24 rfl rfl
theorem dksX4_encode_11 : cX4_encode.data.toList.drop 252 = dktX4_encode_11 := dk_seg dksX4_encode_10 24 rfl rfl
theorem dksX4_encode_12 : cX4_encode.data.toList.drop 276 = dktX4_encode_12 := dk_seg dksX4_encode_11 24 rfl rfl
theorem dksX4_encode_13 : cX4_encode.data.toList.drop 300 = dktX4_encode_13 := dk_seg dksX4_encode_12 24 rfl rfl
theorem dksX4_encode_14 : cX4_encode.data.toList.drop 324 = dktX4_encode_14 := dk_seg dksX4_encode_13 24 rfl rfl
theorem dksX4_encode_15 : cX4_encode.data.toList.drop 348 = dktX4_encode_15 := dk_seg dksX4_encode_14 24 rfl rfl
theorem dX4_encode_0 : decode cX4_encode 0 = .ok (.iload_n 2, 1) := dk_28 (dk_at dksX4_encode_0 0 rfl rfl)
theorem dX4_encode_1 : decode cX4_encode 1 = .ok (.istore 6, 2) := dk_54 6 (dk_at dksX4_encode_0 1 rfl rfl)
theorem dX4_encode_3 : decode cX4_encode 3 = .ok (.iload_n 2, 1) := dk_28 (dk_at dksX4_encode_0 3 rfl rfl)
theorem dX4_encode_4 : decode cX4_encode 4 = .ok (.iload_n 3, 1) := dk_29 (dk_at dksX4_encode_0 4 rfl rfl)
theorem dX4_encode_5 : decode cX4_encode 5 = .ok (.iadd, 1) := dk_96 (dk_at dksX4_encode_0 5 rfl rfl)
theorem dX4_encode_6 : decode cX4_encode 6 = .ok (.iconst 2, 1) := dk_5 (dk_at dksX4_encode_0 6 rfl rfl)
theorem dX4_encode_7 : decode cX4_encode 7 = .ok (.isub, 1) := dk_100 (dk_at dksX4_encode_0 7 rfl rfl)
theorem dX4_encode_8 : decode cX4_encode 8 = .ok (.istore 7, 2) := dk_54 7 (dk_at dksX4_encode_0 8 rfl rfl)
theorem dX4_encode_10 : decode cX4_encode 10 = .ok (.iload 5, 2) := dk_21 5 (dk_at dksX4_encode_0 10 rfl rfl)
theorem dX4_encode_12 : decode cX4_encode 12 = .ok (.istore 8, 2) := dk_54 8 (dk_at dksX4_encode_0 12 rfl rfl)
theorem dX4_encode_14 : decode cX4_encode 14 = .ok (.iload 6, 2) := dk_21 6 (dk_at dksX4_encode_0 14 rfl rfl)
theorem dX4_encode_16 : decode cX4_encode 16 = .ok (.iload 7, 2) := dk_21 7 (dk_at dksX4_encode_0 16 rfl rfl)
theorem dX4_encode_18 : decode cX4_encode 18 = .ok (.if_icmp .ge 130, 3) := dk_162 0 130 (dk_at dksX4_encode_0 18 rfl rfl)
theorem dX4_encode_21 : decode cX4_encode 21 = .ok (.aload_n 1, 1) := dk_43 (dk_at dksX4_encode_0 21 rfl rfl)
theorem dX4_encode_22 : decode cX4_encode 22 = .ok (.iload 6, 2) := dk_21 6 (dk_at dksX4_encode_0 22 rfl rfl)
theorem dX4_encode_24 : decode cX4_encode 24 = .ok (.iinc 6 1, 3) := dk_132 6 1 (dk_at dksX4_encode_1 0 rfl rfl)
theorem dX4_encode_27 : decode cX4_encode 27 = .ok (.baload, 1) := dk_51 (dk_at dksX4_encode_1 3 rfl rfl)
theorem dX4_encode_28 : decode cX4_encode 28 = .ok (.istore 9, 2) := dk_54 9 (dk_at dksX4_encode_1 4 rfl rfl)
theorem dX4_encode_30 : decode cX4_encode 30 = .ok (.aload_n 1, 1) := dk_43 (dk_at dksX4_encode_1 6 rfl rfl)
theorem dX4_encode_31 : decode cX4_encode 31 = .ok (.iload 6, 2) := dk_21 6 (dk_at dksX4_encode_1 7 rfl rfl)
theorem dX4_encode_33 : decode cX4_encode 33 = .ok (.iinc 6 1, 3) := dk_132 6 1 (dk_at dksX4_encode_1 9 rfl rfl)
theorem dX4_encode_36 : decode cX4_encode 36 = .ok (.baload, 1) := dk_51 (dk_at dksX4_encode_1 12 rfl rfl)
theorem dX4_encode_37 : decode cX4_encode 37 = .ok (.sipush 255, 3) := dk_17 0 255 (dk_at dksX4_encode_1 13 rfl rfl)
theorem dX4_encode_40 : decode cX4_encode 40 = .ok (.iand, 1) := dk_126 (dk_at dksX4_encode_1 16 rfl rfl)
theorem dX4_encode_41 : decode cX4_encode 41 = .ok (.istore 10, 2) := dk_54 10 (dk_at dksX4_encode_1 17 rfl rfl)
theorem dX4_encode_43 : decode cX4_encode 43 = .ok (.aload_n 1, 1) := dk_43 (dk_at dksX4_encode_1 19 rfl rfl)
theorem dX4_encode_44 : decode cX4_encode 44 = .ok (.iload 6, 2) := dk_21 6 (dk_at dksX4_encode_1 20 rfl rfl)
theorem dX4_encode_46 : decode cX4_encode 46 = .ok (.iinc 6 1, 3) := dk_132 6 1 (dk_at dksX4_encode_2 0 rfl rfl)
theorem dX4_encode_49 : decode cX4_encode 49 = .ok (.baload, 1) := dk_51 (dk_at dksX4_encode_2 3 rfl rfl)
theorem dX4_encode_50 : decode cX4_encode 50 = .ok (.sipush 255, 3) := dk_17 0 255 (dk_at dksX4_encode_2 4 rfl rfl)
theorem dX4_encode_53 : decode cX4_encode 53 = .ok (.iand, 1) := dk_126 (dk_at dksX4_encode_2 7 rfl rfl)
theorem dX4_encode_54 : decode cX4_encode 54 = .ok (.istore 11, 2) := dk_54 11 (dk_at dksX4_encode_2 8 rfl rfl)
theorem dX4_encode_56 : decode cX4_encode 56 = .ok (.aload 4, 2) := dk_25 4 (dk_at dksX4_encode_2 10 rfl rfl)
theorem dX4_encode_58 : decode cX4_encode 58 = .ok (.iload 8, 2) := dk_21 8 (dk_at dksX4_encode_2 12 rfl rfl)
theorem dX4_encode_60 : decode cX4_encode 60 = .ok (.iinc 8 1, 3) := dk_132 8 1 (dk_at dksX4_encode_2 14 rfl rfl)
theorem dX4_encode_63 : decode cX4_encode 63 = .ok (.aload_n 0, 1) := dk_42 (dk_at dksX4_encode_2 17 rfl rfl)
theorem dX4_encode_64 : decode cX4_encode 64 = .ok (.getfield 7, 3) := dk_180 0 7 (dk_at dksX4_encode_2 18 rfl rfl)
theorem dX4_encode_67 : decode cX4_encode 67 = .ok (.iload 9, 2) := dk_21 9 (dk_at dksX4_encode_2 21 rfl rfl)
theorem dX4_encode_69 : decode cX4_encode 69 = .ok (.iconst 2, 1) := dk_5 (dk_at dksX4_encode_2 23 rfl rfl)
theorem dX4_encode_70 : decode cX4_encode 70 = .ok (.iushr, 1) := dk_124 (dk_at dksX4_encode_3 0 rfl rfl)
theorem dX4_encode_71 : decode cX4_encode 71 = .ok (.bipush 63, 2) := dk_16 63 (dk_at dksX4_encode_3 1 rfl rfl)
theorem dX4_encode_73 : decode cX4_encode 73 = .ok (.iand, 1) := dk_126 (dk_at dksX4_encode_3 3 rfl rfl)
theorem dX4_encode_74 : decode cX4_encode 74 = .ok (.baload, 1) := dk_51 (dk_at dksX4_encode_3 4 rfl rfl)
theorem dX4_encode_75 : decode cX4_encode 75 = .ok (.bastore, 1) := dk_84 (dk_at dksX4_encode_3 5 rfl rfl)
theorem dX4_encode_76 : decode cX4_encode 76 = .ok (.aload 4, 2) := dk_25 4 (dk_at dksX4_encode_3 6 rfl rfl)
theorem dX4_encode_78 : decode cX4_encode 78 = .ok (.iload 8, 2) := dk_21 8 (dk_at dksX4_encode_3 8 rfl rfl)
theorem dX4_encode_80 : decode cX4_encode 80 = .ok (.iinc 8 1, 3) := dk_132 8 1 (dk_at dksX4_encode_3 10 rfl rfl)
theorem dX4_encode_83 : decode cX4_encode 83 = .ok (.aload_n 0, 1) := dk_42 (dk_at dksX4_encode_3 13 rfl rfl)
theorem dX4_encode_84 : decode cX4_encode 84 = .ok (.getfield 7, 3) := dk_180 0 7 (dk_at dksX4_encode_3 14 rfl rfl)
theorem dX4_encode_87 : decode cX4_encode 87 = .ok (.iload 9, 2) := dk_21 9 (dk_at dksX4_encode_3 17 rfl rfl)
theorem dX4_encode_89 : decode cX4_encode 89 = .ok (.iconst 4, 1) := dk_7 (dk_at dksX4_encode_3 19 rfl rfl)
theorem dX4_encode_90 : decode cX4_encode 90 = .ok (.ishl, 1) := dk_120 (dk_at dksX4_encode_3 20 rfl rfl)
theorem dX4_encode_91 : decode cX4_encode 91 = .ok (.iload 10, 2) := dk_21 10 (dk_at dksX4_encode_3 21 rfl rfl)
theorem dX4_encode_93 : decode cX4_encode 93 = .ok (.iconst 4, 1) := dk_7 (dk_at dksX4_encode_3 23 rfl rfl)
theorem dX4_encode_94 : decode cX4_encode 94 = .ok (.iushr, 1) := dk_124 (dk_at dksX4_encode_4 0 rfl rfl)
theorem dX4_encode_95 : decode cX4_encode 95 = .ok (.ior, 1) := dk_128 (dk_at dksX4_encode_4 1 rfl rfl)
theorem dX4_encode_96 : decode cX4_encode 96 = .ok (.bipush 63, 2) := dk_16 63 (dk_at dksX4_encode_4 2 rfl rfl)
theorem dX4_encode_98 : decode cX4_encode 98 = .ok (.iand, 1) := dk_126 (dk_at dksX4_encode_4 4 rfl rfl)
theorem dX4_encode_99 : decode cX4_encode 99 = .ok (.baload, 1) := dk_51 (dk_at dksX4_encode_4 5 rfl rfl)
theorem dX4_encode_100 : decode cX4_encode 100 = .ok (.bastore, 1) := dk_84 (dk_at dksX4_encode_4 6 rfl rfl)
theorem dX4_encode_101 : decode cX4_encode 101 = .ok (.aload 4, 2) := dk_25 4 (dk_at dksX4_encode_4 7 rfl rfl)
theorem dX4_encode_103 : decode cX4_encode 103 = .ok (.iload 8, 2) := dk_21 8 (dk_at dksX4_encode_4 9 rfl rfl)
theorem dX4_encode_105 : decode cX4_encode 105 = .ok (.iinc 8 1, 3) := dk_132 8 1 (dk_at dksX4_encode_4 11 rfl rfl)
theorem dX4_encode_108 : decode cX4_encode 108 = .ok (.aload_n 0, 1) := dk_42 (dk_at dksX4_encode_4 14 rfl rfl)
theorem dX4_encode_109 : decode cX4_encode 109 = .ok (.getfield 7, 3) := dk_180 0 7 (dk_at dksX4_encode_4 15 rfl rfl)
theorem dX4_encode_112 : decode cX4_encode 112 = .ok (.iload 10, 2) := dk_21 10 (dk_at dksX4_encode_4 18 rfl rfl)
theorem dX4_encode_114 : decode cX4_encode 114 = .ok (.iconst 2, 1) := dk_5 (dk_at dksX4_encode_4 20 rfl rfl)
theorem dX4_encode_115 : decode cX4_encode 115 = .ok (.ishl, 1) := dk_120 (dk_at dksX4_encode_4 21 rfl rfl)
theorem dX4_encode_116 : decode cX4_encode 116 = .ok (.iload 11, 2) := dk_21 11 (dk_at dksX4_encode_4 22 rfl rfl)
theorem dX4_encode_118 : decode cX4_encode 118 = .ok (.bipush 6, 2) := dk_16 6 (dk_at dksX4_encode_5 0 rfl rfl)
theorem dX4_encode_120 : decode cX4_encode 120 = .ok (.iushr, 1) := dk_124 (dk_at dksX4_encode_5 2 rfl rfl)
theorem dX4_encode_121 : decode cX4_encode 121 = .ok (.ior, 1) := dk_128 (dk_at dksX4_encode_5 3 rfl rfl)
theorem dX4_encode_122 : decode cX4_encode 122 = .ok (.bipush 63, 2) := dk_16 63 (dk_at dksX4_encode_5 4 rfl rfl)
theorem dX4_encode_124 : decode cX4_encode 124 = .ok (.iand, 1) := dk_126 (dk_at dksX4_encode_5 6 rfl rfl)
theorem dX4_encode_125 : decode cX4_encode 125 = .ok (.baload, 1) := dk_51 (dk_at dksX4_encode_5 7 rfl rfl)
theorem dX4_encode_126 : decode cX4_encode 126 = .ok (.bastore, 1) := dk_84 (dk_at dksX4_encode_5 8 rfl rfl)
theorem dX4_encode_127 : decode cX4_encode 127 = .ok (.aload 4, 2) := dk_25 4 (dk_at dksX4_encode_5 9 rfl rfl)
theorem dX4_encode_129 : decode cX4_encode 129 = .ok (.iload 8, 2) := dk_21 8 (dk_at dksX4_encode_5 11 rfl rfl)
theorem dX4_encode_131 : decode cX4_encode 131 = .ok (.iinc 8 1, 3) := dk_132 8 1 (dk_at dksX4_encode_5 13 rfl rfl)
theorem dX4_encode_134 : decode cX4_encode 134 = .ok (.aload_n 0, 1) := dk_42 (dk_at dksX4_encode_5 16 rfl rfl)
theorem dX4_encode_135 : decode cX4_encode 135 = .ok (.getfield 7, 3) := dk_180 0 7 (dk_at dksX4_encode_5 17 rfl rfl)
theorem dX4_encode_138 : decode cX4_encode 138 = .ok (.iload 11, 2) := dk_21 11 (dk_at dksX4_encode_5 20 rfl rfl)
theorem dX4_encode_140 : decode cX4_encode 140 = .ok (.bipush 63, 2) := dk_16 63 (dk_at dksX4_encode_5 22 rfl rfl)
theorem dX4_encode_142 : decode cX4_encode 142 = .ok (.iand, 1) := dk_126 (dk_at dksX4_encode_6 0 rfl rfl)
theorem dX4_encode_143 : decode cX4_encode 143 = .ok (.baload, 1) := dk_51 (dk_at dksX4_encode_6 1 rfl rfl)
theorem dX4_encode_144 : decode cX4_encode 144 = .ok (.bastore, 1) := dk_84 (dk_at dksX4_encode_6 2 rfl rfl)
theorem dX4_encode_145 : decode cX4_encode 145 = .ok (.goto (-131), 3) := dk_167 255 125 (dk_at dksX4_encode_6 3 rfl rfl)
theorem dX4_encode_148 : decode cX4_encode 148 = .ok (.iload_n 3, 1) := dk_29 (dk_at dksX4_encode_6 6 rfl rfl)
theorem dX4_encode_149 : decode cX4_encode 149 = .ok (.iload 6, 2) := dk_21 6 (dk_at dksX4_encode_6 7 rfl rfl)
theorem dX4_encode_151 : decode cX4_encode 151 = .ok (.iload_n 2, 1) := dk_28 (dk_at dksX4_encode_6 9 rfl rfl)
theorem dX4_encode_152 : decode cX4_encode 152 = .ok (.isub, 1) := dk_100 (dk_at dksX4_encode_6 10 rfl rfl)
theorem dX4_encode_153 : decode cX4_encode 153 = .ok (.isub, 1) := dk_100 (dk_at dksX4_encode_6 11 rfl rfl)
theorem dX4_encode_154 : decode cX4_encode 154 = .ok (.lookupswitch 212 #[(1, 26), (2, 106)], 26) := by decide +kernel
theorem dX4_encode_180 : decode cX4_encode 180 = .ok (.aload_n 1, 1) := dk_43 (dk_at dksX4_encode_8 0 rfl rfl)
theorem dX4_encode_181 : decode cX4_encode 181 = .ok (.iload 6, 2) := dk_21 6 (dk_at dksX4_encode_8 1 rfl rfl)
theorem dX4_encode_183 : decode cX4_encode 183 = .ok (.iinc 6 1, 3) := dk_132 6 1 (dk_at dksX4_encode_8 3 rfl rfl)
theorem dX4_encode_186 : decode cX4_encode 186 = .ok (.baload, 1) := dk_51 (dk_at dksX4_encode_8 6 rfl rfl)
theorem dX4_encode_187 : decode cX4_encode 187 = .ok (.sipush 255, 3) := dk_17 0 255 (dk_at dksX4_encode_8 7 rfl rfl)
theorem dX4_encode_190 : decode cX4_encode 190 = .ok (.iand, 1) := dk_126 (dk_at dksX4_encode_8 10 rfl rfl)
theorem dX4_encode_191 : decode cX4_encode 191 = .ok (.istore 9, 2) := dk_54 9 (dk_at dksX4_encode_8 11 rfl rfl)
theorem dX4_encode_193 : decode cX4_encode 193 = .ok (.aload 4, 2) := dk_25 4 (dk_at dksX4_encode_8 13 rfl rfl)
theorem dX4_encode_195 : decode cX4_encode 195 = .ok (.iload 8, 2) := dk_21 8 (dk_at dksX4_encode_8 15 rfl rfl)
theorem dX4_encode_197 : decode cX4_encode 197 = .ok (.iinc 8 1, 3) := dk_132 8 1 (dk_at dksX4_encode_8 17 rfl rfl)
theorem dX4_encode_200 : decode cX4_encode 200 = .ok (.aload_n 0, 1) := dk_42 (dk_at dksX4_encode_8 20 rfl rfl)
theorem dX4_encode_201 : decode cX4_encode 201 = .ok (.getfield 7, 3) := dk_180 0 7 (dk_at dksX4_encode_8 21 rfl rfl)
theorem dX4_encode_204 : decode cX4_encode 204 = .ok (.iload 9, 2) := dk_21 9 (dk_at dksX4_encode_9 0 rfl rfl)
theorem dX4_encode_206 : decode cX4_encode 206 = .ok (.iconst 2, 1) := dk_5 (dk_at dksX4_encode_9 2 rfl rfl)
theorem dX4_encode_207 : decode cX4_encode 207 = .ok (.iushr, 1) := dk_124 (dk_at dksX4_encode_9 3 rfl rfl)
theorem dX4_encode_208 : decode cX4_encode 208 = .ok (.bipush 63, 2) := dk_16 63 (dk_at dksX4_encode_9 4 rfl rfl)
theorem dX4_encode_210 : decode cX4_encode 210 = .ok (.iand, 1) := dk_126 (dk_at dksX4_encode_9 6 rfl rfl)
theorem dX4_encode_211 : decode cX4_encode 211 = .ok (.baload, 1) := dk_51 (dk_at dksX4_encode_9 7 rfl rfl)
theorem dX4_encode_212 : decode cX4_encode 212 = .ok (.bastore, 1) := dk_84 (dk_at dksX4_encode_9 8 rfl rfl)
theorem dX4_encode_213 : decode cX4_encode 213 = .ok (.aload 4, 2) := dk_25 4 (dk_at dksX4_encode_9 9 rfl rfl)
theorem dX4_encode_215 : decode cX4_encode 215 = .ok (.iload 8, 2) := dk_21 8 (dk_at dksX4_encode_9 11 rfl rfl)
theorem dX4_encode_217 : decode cX4_encode 217 = .ok (.iinc 8 1, 3) := dk_132 8 1 (dk_at dksX4_encode_9 13 rfl rfl)
theorem dX4_encode_220 : decode cX4_encode 220 = .ok (.aload_n 0, 1) := dk_42 (dk_at dksX4_encode_9 16 rfl rfl)
theorem dX4_encode_221 : decode cX4_encode 221 = .ok (.getfield 7, 3) := dk_180 0 7 (dk_at dksX4_encode_9 17 rfl rfl)
theorem dX4_encode_224 : decode cX4_encode 224 = .ok (.iload 9, 2) := dk_21 9 (dk_at dksX4_encode_9 20 rfl rfl)
theorem dX4_encode_226 : decode cX4_encode 226 = .ok (.iconst 4, 1) := dk_7 (dk_at dksX4_encode_9 22 rfl rfl)
theorem dX4_encode_227 : decode cX4_encode 227 = .ok (.ishl, 1) := dk_120 (dk_at dksX4_encode_9 23 rfl rfl)
theorem dX4_encode_228 : decode cX4_encode 228 = .ok (.bipush 63, 2) := dk_16 63 (dk_at dksX4_encode_10 0 rfl rfl)
theorem dX4_encode_230 : decode cX4_encode 230 = .ok (.iand, 1) := dk_126 (dk_at dksX4_encode_10 2 rfl rfl)
theorem dX4_encode_231 : decode cX4_encode 231 = .ok (.baload, 1) := dk_51 (dk_at dksX4_encode_10 3 rfl rfl)
theorem dX4_encode_232 : decode cX4_encode 232 = .ok (.bastore, 1) := dk_84 (dk_at dksX4_encode_10 4 rfl rfl)
theorem dX4_encode_233 : decode cX4_encode 233 = .ok (.aload 4, 2) := dk_25 4 (dk_at dksX4_encode_10 5 rfl rfl)
theorem dX4_encode_235 : decode cX4_encode 235 = .ok (.iload 8, 2) := dk_21 8 (dk_at dksX4_encode_10 7 rfl rfl)
theorem dX4_encode_237 : decode cX4_encode 237 = .ok (.iinc 8 1, 3) := dk_132 8 1 (dk_at dksX4_encode_10 9 rfl rfl)
theorem dX4_encode_240 : decode cX4_encode 240 = .ok (.aload_n 0, 1) := dk_42 (dk_at dksX4_encode_10 12 rfl rfl)
theorem dX4_encode_241 : decode cX4_encode 241 = .ok (.getfield 16, 3) := dk_180 0 16 (dk_at dksX4_encode_10 13 rfl rfl)
theorem dX4_encode_244 : decode cX4_encode 244 = .ok (.bastore, 1) := dk_84 (dk_at dksX4_encode_10 16 rfl rfl)
theorem dX4_encode_245 : decode cX4_encode 245 = .ok (.aload 4, 2) := dk_25 4 (dk_at dksX4_encode_10 17 rfl rfl)
theorem dX4_encode_247 : decode cX4_encode 247 = .ok (.iload 8, 2) := dk_21 8 (dk_at dksX4_encode_10 19 rfl rfl)
theorem dX4_encode_249 : decode cX4_encode 249 = .ok (.iinc 8 1, 3) := dk_132 8 1 (dk_at dksX4_encode_10 21 rfl rfl)
theorem dX4_encode_252 : decode cX4_encode 252 = .ok (.aload_n 0, 1) := dk_42 (dk_at dksX4_encode_11 0 rfl rfl)
theorem dX4_encode_253 : decode cX4_encode 253 = .ok (.getfield 16, 3) := dk_180 0 16 (dk_at dksX4_encode_11 1 rfl rfl)
theorem dX4_encode_256 : decode cX4_encode 256 = .ok (.bastore, 1) := dk_84 (dk_at dksX4_encode_11 4 rfl rfl)
theorem dX4_encode_257 : decode cX4_encode 257 = .ok (.goto 109, 3) := dk_167 0 109 (dk_at dksX4_encode_11 5 rfl rfl)
theorem dX4_encode_260 : decode cX4_encode 260 = .ok (.aload_n 1, 1) := dk_43 (dk_at dksX4_encode_11 8 rfl rfl)
theorem dX4_encode_261 : decode cX4_encode 261 = .ok (.iload 6, 2) := dk_21 6 (dk_at dksX4_encode_11 9 rfl rfl)
theorem dX4_encode_263 : decode cX4_encode 263 = .ok (.iinc 6 1, 3) := dk_132 6 1 (dk_at dksX4_encode_11 11 rfl rfl)
theorem dX4_encode_266 : decode cX4_encode 266 = .ok (.baload, 1) := dk_51 (dk_at dksX4_encode_11 14 rfl rfl)
theorem dX4_encode_267 : decode cX4_encode 267 = .ok (.sipush 255, 3) := dk_17 0 255 (dk_at dksX4_encode_11 15 rfl rfl)
theorem dX4_encode_270 : decode cX4_encode 270 = .ok (.iand, 1) := dk_126 (dk_at dksX4_encode_11 18 rfl rfl)
theorem dX4_encode_271 : decode cX4_encode 271 = .ok (.istore 9, 2) := dk_54 9 (dk_at dksX4_encode_11 19 rfl rfl)
theorem dX4_encode_273 : decode cX4_encode 273 = .ok (.aload_n 1, 1) := dk_43 (dk_at dksX4_encode_11 21 rfl rfl)
theorem dX4_encode_274 : decode cX4_encode 274 = .ok (.iload 6, 2) := dk_21 6 (dk_at dksX4_encode_11 22 rfl rfl)
theorem dX4_encode_276 : decode cX4_encode 276 = .ok (.iinc 6 1, 3) := dk_132 6 1 (dk_at dksX4_encode_12 0 rfl rfl)
theorem dX4_encode_279 : decode cX4_encode 279 = .ok (.baload, 1) := dk_51 (dk_at dksX4_encode_12 3 rfl rfl)
theorem dX4_encode_280 : decode cX4_encode 280 = .ok (.sipush 255, 3) := dk_17 0 255 (dk_at dksX4_encode_12 4 rfl rfl)
theorem dX4_encode_283 : decode cX4_encode 283 = .ok (.iand, 1) := dk_126 (dk_at dksX4_encode_12 7 rfl rfl)
theorem dX4_encode_284 : decode cX4_encode 284 = .ok (.istore 10, 2) := dk_54 10 (dk_at dksX4_encode_12 8 rfl rfl)
theorem dX4_encode_286 : decode cX4_encode 286 = .ok (.aload 4, 2) := dk_25 4 (dk_at dksX4_encode_12 10 rfl rfl)
theorem dX4_encode_288 : decode cX4_encode 288 = .ok (.iload 8, 2) := dk_21 8 (dk_at dksX4_encode_12 12 rfl rfl)
theorem dX4_encode_290 : decode cX4_encode 290 = .ok (.iinc 8 1, 3) := dk_132 8 1 (dk_at dksX4_encode_12 14 rfl rfl)
theorem dX4_encode_293 : decode cX4_encode 293 = .ok (.aload_n 0, 1) := dk_42 (dk_at dksX4_encode_12 17 rfl rfl)
theorem dX4_encode_294 : decode cX4_encode 294 = .ok (.getfield 7, 3) := dk_180 0 7 (dk_at dksX4_encode_12 18 rfl rfl)
theorem dX4_encode_297 : decode cX4_encode 297 = .ok (.iload 9, 2) := dk_21 9 (dk_at dksX4_encode_12 21 rfl rfl)
theorem dX4_encode_299 : decode cX4_encode 299 = .ok (.iconst 2, 1) := dk_5 (dk_at dksX4_encode_12 23 rfl rfl)
theorem dX4_encode_300 : decode cX4_encode 300 = .ok (.iushr, 1) := dk_124 (dk_at dksX4_encode_13 0 rfl rfl)
theorem dX4_encode_301 : decode cX4_encode 301 = .ok (.bipush 63, 2) := dk_16 63 (dk_at dksX4_encode_13 1 rfl rfl)
theorem dX4_encode_303 : decode cX4_encode 303 = .ok (.iand, 1) := dk_126 (dk_at dksX4_encode_13 3 rfl rfl)
theorem dX4_encode_304 : decode cX4_encode 304 = .ok (.baload, 1) := dk_51 (dk_at dksX4_encode_13 4 rfl rfl)
theorem dX4_encode_305 : decode cX4_encode 305 = .ok (.bastore, 1) := dk_84 (dk_at dksX4_encode_13 5 rfl rfl)
theorem dX4_encode_306 : decode cX4_encode 306 = .ok (.aload 4, 2) := dk_25 4 (dk_at dksX4_encode_13 6 rfl rfl)
theorem dX4_encode_308 : decode cX4_encode 308 = .ok (.iload 8, 2) := dk_21 8 (dk_at dksX4_encode_13 8 rfl rfl)
theorem dX4_encode_310 : decode cX4_encode 310 = .ok (.iinc 8 1, 3) := dk_132 8 1 (dk_at dksX4_encode_13 10 rfl rfl)
theorem dX4_encode_313 : decode cX4_encode 313 = .ok (.aload_n 0, 1) := dk_42 (dk_at dksX4_encode_13 13 rfl rfl)
theorem dX4_encode_314 : decode cX4_encode 314 = .ok (.getfield 7, 3) := dk_180 0 7 (dk_at dksX4_encode_13 14 rfl rfl)
theorem dX4_encode_317 : decode cX4_encode 317 = .ok (.iload 9, 2) := dk_21 9 (dk_at dksX4_encode_13 17 rfl rfl)
theorem dX4_encode_319 : decode cX4_encode 319 = .ok (.iconst 4, 1) := dk_7 (dk_at dksX4_encode_13 19 rfl rfl)
theorem dX4_encode_320 : decode cX4_encode 320 = .ok (.ishl, 1) := dk_120 (dk_at dksX4_encode_13 20 rfl rfl)
theorem dX4_encode_321 : decode cX4_encode 321 = .ok (.iload 10, 2) := dk_21 10 (dk_at dksX4_encode_13 21 rfl rfl)
theorem dX4_encode_323 : decode cX4_encode 323 = .ok (.iconst 4, 1) := dk_7 (dk_at dksX4_encode_13 23 rfl rfl)
theorem dX4_encode_324 : decode cX4_encode 324 = .ok (.iushr, 1) := dk_124 (dk_at dksX4_encode_14 0 rfl rfl)
theorem dX4_encode_325 : decode cX4_encode 325 = .ok (.ior, 1) := dk_128 (dk_at dksX4_encode_14 1 rfl rfl)
theorem dX4_encode_326 : decode cX4_encode 326 = .ok (.bipush 63, 2) := dk_16 63 (dk_at dksX4_encode_14 2 rfl rfl)
theorem dX4_encode_328 : decode cX4_encode 328 = .ok (.iand, 1) := dk_126 (dk_at dksX4_encode_14 4 rfl rfl)
theorem dX4_encode_329 : decode cX4_encode 329 = .ok (.baload, 1) := dk_51 (dk_at dksX4_encode_14 5 rfl rfl)
theorem dX4_encode_330 : decode cX4_encode 330 = .ok (.bastore, 1) := dk_84 (dk_at dksX4_encode_14 6 rfl rfl)
theorem dX4_encode_331 : decode cX4_encode 331 = .ok (.aload 4, 2) := dk_25 4 (dk_at dksX4_encode_14 7 rfl rfl)
theorem dX4_encode_333 : decode cX4_encode 333 = .ok (.iload 8, 2) := dk_21 8 (dk_at dksX4_encode_14 9 rfl rfl)
theorem dX4_encode_335 : decode cX4_encode 335 = .ok (.iinc 8 1, 3) := dk_132 8 1 (dk_at dksX4_encode_14 11 rfl rfl)
theorem dX4_encode_338 : decode cX4_encode 338 = .ok (.aload_n 0, 1) := dk_42 (dk_at dksX4_encode_14 14 rfl rfl)
theorem dX4_encode_339 : decode cX4_encode 339 = .ok (.getfield 7, 3) := dk_180 0 7 (dk_at dksX4_encode_14 15 rfl rfl)
theorem dX4_encode_342 : decode cX4_encode 342 = .ok (.iload 10, 2) := dk_21 10 (dk_at dksX4_encode_14 18 rfl rfl)
theorem dX4_encode_344 : decode cX4_encode 344 = .ok (.iconst 2, 1) := dk_5 (dk_at dksX4_encode_14 20 rfl rfl)
theorem dX4_encode_345 : decode cX4_encode 345 = .ok (.ishl, 1) := dk_120 (dk_at dksX4_encode_14 21 rfl rfl)
theorem dX4_encode_346 : decode cX4_encode 346 = .ok (.bipush 63, 2) := dk_16 63 (dk_at dksX4_encode_14 22 rfl rfl)
theorem dX4_encode_348 : decode cX4_encode 348 = .ok (.iand, 1) := dk_126 (dk_at dksX4_encode_15 0 rfl rfl)
theorem dX4_encode_349 : decode cX4_encode 349 = .ok (.baload, 1) := dk_51 (dk_at dksX4_encode_15 1 rfl rfl)
theorem dX4_encode_350 : decode cX4_encode 350 = .ok (.bastore, 1) := dk_84 (dk_at dksX4_encode_15 2 rfl rfl)
theorem dX4_encode_351 : decode cX4_encode 351 = .ok (.aload 4, 2) := dk_25 4 (dk_at dksX4_encode_15 3 rfl rfl)
theorem dX4_encode_353 : decode cX4_encode 353 = .ok (.iload 8, 2) := dk_21 8 (dk_at dksX4_encode_15 5 rfl rfl)
theorem dX4_encode_355 : decode cX4_encode 355 = .ok (.iinc 8 1, 3) := dk_132 8 1 (dk_at dksX4_encode_15 7 rfl rfl)
theorem dX4_encode_358 : decode cX4_encode 358 = .ok (.aload_n 0, 1) := dk_42 (dk_at dksX4_encode_15 10 rfl rfl)
theorem dX4_encode_359 : decode cX4_encode 359 = .ok (.getfield 16, 3) := dk_180 0 16 (dk_at dksX4_encode_15 11 rfl rfl)
theorem dX4_encode_362 : decode cX4_encode 362 = .ok (.bastore, 1) := dk_84 (dk_at dksX4_encode_15 14 rfl rfl)
theorem dX4_encode_363 : decode cX4_encode 363 = .ok (.goto 3, 3) := dk_167 0 3 (dk_at dksX4_encode_15 15 rfl rfl)
theorem dX4_encode_366 : decode cX4_encode 366 = .ok (.iload 8, 2) := dk_21 8 (dk_at dksX4_encode_15 18 rfl rfl)
theorem dX4_encode_368 : decode cX4_encode 368 = .ok (.iload 5, 2) := dk_21 5 (dk_at dksX4_encode_15 20 rfl rfl)
theorem dX4_encode_370 : decode cX4_encode 370 = .ok (.isub, 1) := dk_100 (dk_at dksX4_encode_15 22 rfl rfl)
theorem dX4_encode_371 : decode cX4_encode 371 = .ok (.ireturn, 1) := dk_172 (dk_at dksX4_encode_15 23 rfl rfl)
theorem q7 : (Jvm.Cond.initialized "Base64Encoder") ∈ lw_all := lw_g (lw_at lw_m0 4 rfl) rfl
theorem q140 : (Jvm.Cond.instantiable "Base64Encoder" (3 : Nat)) ∈ lw_all := lw_g (lw_at lw_m0 137 rfl) rfl
theorem q142 : (Jvm.Cond.instanceMethod ({ cls := "Base64Encoder", name := "<init>", desc := "()V" } : Jvm.MethodName)) ∈ lw_all := lw_g (lw_at lw_m0 139 rfl) rfl
theorem q143 : (Jvm.Cond.code ({ cls := "Base64Encoder", name := "<init>", desc := "()V" } : Jvm.MethodName) prog_2_method_2_code (1 : Nat) (Option.none : Option Jvm.ClassFile.FieldType)) ∈ lw_all := lw_g (lw_at lw_m0 140 rfl) rfl
theorem q144 : (Jvm.Cond.methodLink "Base64Encoder" (10 : Nat) ({ cls := "java/lang/Object", name := "<init>", desc := "()V" } : Jvm.MethodName)) ∈ lw_all := lw_g (lw_at lw_m0 141 rfl) rfl
theorem q145 : (Jvm.Cond.methodLink "Base64Encoder" (20 : Nat) ({ cls := "Base64Encoder", name := "initialiseDecodingTable", desc := "()V" } : Jvm.MethodName)) ∈ lw_all := lw_g (lw_at lw_m0 142 rfl) rfl
theorem q146 : (Jvm.Cond.instanceMethod ({ cls := "Base64Encoder", name := "initialiseDecodingTable", desc := "()V" } : Jvm.MethodName)) ∈ lw_all := lw_g (lw_at lw_m0 143 rfl) rfl
theorem q147 : (Jvm.Cond.selects "Base64Encoder" ({ cls := "Base64Encoder", name := "initialiseDecodingTable", desc := "()V" } : Jvm.MethodName) ({ cls := "Base64Encoder", name := "initialiseDecodingTable", desc := "()V" } : Jvm.MethodName)) ∈ lw_all := lw_g (lw_at lw_m0 144 rfl) rfl
theorem q148 : (Jvm.Cond.code ({ cls := "Base64Encoder", name := "initialiseDecodingTable", desc := "()V" } : Jvm.MethodName) prog_2_method_1_code (2 : Nat) (Option.none : Option Jvm.ClassFile.FieldType)) ∈ lw_all := lw_g (lw_at lw_m0 145 rfl) rfl
theorem q149 : (Jvm.Cond.fieldLink "Base64Encoder" (7 : Nat) "Base64Encoder" "encodingTable" "[B") ∈ lw_all := lw_g (lw_at lw_m0 146 rfl) rfl
theorem q150 : (Jvm.Cond.fieldLink "Base64Encoder" (16 : Nat) "Base64Encoder" "padding" "B") ∈ lw_all := lw_g (lw_at lw_m0 147 rfl) rfl
theorem q151 : (Jvm.Cond.fieldLink "Base64Encoder" (1 : Nat) "Base64Encoder" "decodingTable" "[B") ∈ lw_all := lw_g (lw_at lw_m0 148 rfl) rfl
theorem q152 : (Jvm.Cond.laysFinal "Base64Encoder" "Base64Encoder" "encodingTable" "[B") ∈ lw_all := lw_g (lw_at lw_m0 149 rfl) rfl
theorem q153 : (Jvm.Cond.soleField "Base64Encoder" "encodingTable") ∈ lw_all := lw_g (lw_at lw_m0 150 rfl) rfl
theorem q154 : (Jvm.Cond.lays "Base64Encoder" "Base64Encoder" "padding" "B") ∈ lw_all := lw_g (lw_at lw_m0 151 rfl) rfl
theorem q155 : (Jvm.Cond.soleField "Base64Encoder" "padding") ∈ lw_all := lw_g (lw_at lw_m0 152 rfl) rfl
theorem q156 : (Jvm.Cond.laysFinal "Base64Encoder" "Base64Encoder" "decodingTable" "[B") ∈ lw_all := lw_g (lw_at lw_m0 153 rfl) rfl
theorem q157 : (Jvm.Cond.soleField "Base64Encoder" "decodingTable") ∈ lw_all := lw_g (lw_at lw_m0 154 rfl) rfl
theorem q158 : (Jvm.Cond.superclass "Base64Encoder" "java/lang/Object") ∈ lw_all := lw_g (lw_at lw_m0 155 rfl) rfl
theorem q160 : (Jvm.Cond.instanceMethod ({ cls := "Base64Encoder", name := "getEncodedLength", desc := "(I)I" } : Jvm.MethodName)) ∈ lw_all := lw_g (lw_at lw_m0 157 rfl) rfl
theorem q161 : (Jvm.Cond.selects "Base64Encoder" ({ cls := "Base64Encoder", name := "getEncodedLength", desc := "(I)I" } : Jvm.MethodName) ({ cls := "Base64Encoder", name := "getEncodedLength", desc := "(I)I" } : Jvm.MethodName)) ∈ lw_all := lw_g (lw_at lw_m0 158 rfl) rfl
theorem q162 : (Jvm.Cond.code ({ cls := "Base64Encoder", name := "getEncodedLength", desc := "(I)I" } : Jvm.MethodName) prog_2_method_4_code (2 : Nat) (Option.some Jvm.ClassFile.FieldType.int)) ∈ lw_all := lw_g (lw_at lw_m0 159 rfl) rfl
theorem q164 : (Jvm.Cond.instanceMethod ({ cls := "Base64Encoder", name := "encode", desc := "([BII[BI)I" } : Jvm.MethodName)) ∈ lw_all := lw_g (lw_at lw_m0 161 rfl) rfl
theorem q165 : (Jvm.Cond.selects "Base64Encoder" ({ cls := "Base64Encoder", name := "encode", desc := "([BII[BI)I" } : Jvm.MethodName) ({ cls := "Base64Encoder", name := "encode", desc := "([BII[BI)I" } : Jvm.MethodName)) ∈ lw_all := lw_g (lw_at lw_m0 162 rfl) rfl
theorem q166 : (Jvm.Cond.code ({ cls := "Base64Encoder", name := "encode", desc := "([BII[BI)I" } : Jvm.MethodName) prog_2_method_3_code (12 : Nat) (Option.some Jvm.ClassFile.FieldType.int)) ∈ lw_all := lw_g (lw_at lw_m0 163 rfl) rfl
theorem in_X4 : ∀ w ∈ wsX40, w ∈ lw_all := lw_in wsX40 [152, 154, 156] (by decide +kernel) (by decide +kernel)
/-! Base32Encoder -/
set_option maxRecDepth 100000
def RX5 : String := "Base32Encoder"
def TX5 : u_T := fun k => match k with
  | 0 => ("Base32Encoder", "encodingTable", "[B", true)
  | 1 => ("Base32Encoder", "padding", "B", true)
  | _ => ("Base32Encoder", "decodingTable", "[B", true)
def tyX5 : Nat → FieldType := fun k => match k with
  | 0 => .array .byte
  | 1 => .byte
  | _ => .array .byte
abbrev wsX50 : List Cond := u_ws RX5 TX5 3
theorem nmX5 : ∀ a, a < 3 → ∀ b, b < 3 → a ≠ b → (TX5 a).2.1 ≠ (TX5 b).2.1 := by decide +kernel
theorem tyX5_ok : ∀ k, k < 3 → parseFieldDescriptor (TX5 k).2.2.1 = some (tyX5 k) := by decide +kernel
abbrev cX5_init : ByteArray := prog_1_method_2_code
def yX5_init : MethodName := ⟨RX5, "<init>", "()V"⟩
def dkwX5_init_1 : List UInt8 := [181, 0, 19, 42, 182, 0, 23, 177]
abbrev dktX5_init_1 : List UInt8 := dkwX5_init_1 ++ []
def dkwX5_init_0 : List UInt8 := [42, 183, 0, 10, 42, 17, 0, 128, 188, 8, 181, 0, 1, 42, 178, 0, 16, 181, 0, 7, 42, 16, 61]
abbrev dktX5_init_0 : List UInt8 := dkwX5_init_0 ++ dktX5_init_1
theorem dksX5_init_0 : cX5_init.data.toList.drop 0 = dktX5_init_0 := by decide +kernel
theorem dksX5_init_1 : cX5_init.data.toList.drop 23 = dktX5_init_1 := dk_seg dksX5_init_0 23 rfl rfl
theorem dX5_init_0 : decode cX5_init 0 = .ok (.aload_n 0, 1) := dk_42 (dk_at dksX5_init_0 0 rfl rfl)
theorem dX5_init_1 : decode cX5_init 1 = .ok (.invokespecial 10, 3) := dk_183 0 10 (dk_at dksX5_init_0 1 rfl rfl)
theorem dX5_init_4 : decode cX5_init 4 = .ok (.aload_n 0, 1) := dk_42 (dk_at dksX5_init_0 4 rfl rfl)
theorem dX5_init_5 : decode cX5_init 5 = .ok (.sipush 128, 3) := dk_17 0 128 (dk_at dksX5_init_0 5 rfl rfl)
theorem dX5_init_8 : decode cX5_init 8 = .ok (.newarray .byte, 2) := dk_188_8 (dk_at dksX5_init_0 8 rfl rfl)
theorem dX5_init_10 : decode cX5_init 10 = .ok (.putfield 1, 3) := dk_181 0 1 (dk_at dksX5_init_0 10 rfl rfl)
theorem dX5_init_13 : decode cX5_init 13 = .ok (.aload_n 0, 1) := dk_42 (dk_at dksX5_init_0 13 rfl rfl)
theorem dX5_init_14 : decode cX5_init 14 = .ok (.getstatic 16, 3) := dk_178 0 16 (dk_at dksX5_init_0 14 rfl rfl)
theorem dX5_init_17 : decode cX5_init 17 = .ok (.putfield 7, 3) := dk_181 0 7 (dk_at dksX5_init_0 17 rfl rfl)
theorem dX5_init_20 : decode cX5_init 20 = .ok (.aload_n 0, 1) := dk_42 (dk_at dksX5_init_0 20 rfl rfl)
theorem dX5_init_21 : decode cX5_init 21 = .ok (.bipush 61, 2) := dk_16 61 (dk_at dksX5_init_0 21 rfl rfl)
theorem dX5_init_23 : decode cX5_init 23 = .ok (.putfield 19, 3) := dk_181 0 19 (dk_at dksX5_init_1 0 rfl rfl)
theorem dX5_init_26 : decode cX5_init 26 = .ok (.aload_n 0, 1) := dk_42 (dk_at dksX5_init_1 3 rfl rfl)
theorem dX5_init_27 : decode cX5_init 27 = .ok (.invokevirtual 23, 3) := dk_182 0 23 (dk_at dksX5_init_1 4 rfl rfl)
theorem dX5_init_30 : decode cX5_init 30 = .ok (.return_, 1) := dk_177 (dk_at dksX5_init_1 7 rfl rfl)
abbrev cX5_initialiseDecodingTable : ByteArray := prog_1_method_1_code
def yX5_initialiseDecodingTable : MethodName := ⟨RX5, "initialiseDecodingTable", "()V"⟩
def dkwX5_initialiseDecodingTable_2 : List UInt8 := [132, 1, 1, 167, 255, 231, 177]
abbrev dktX5_initialiseDecodingTable_2 : List UInt8 := dkwX5_initialiseDecodingTable_2 ++ []
def dkwX5_initialiseDecodingTable_1 : List UInt8 := [3, 60, 27, 42, 180, 0, 7, 190, 162, 0, 22, 42, 180, 0, 1, 42, 180, 0, 7, 27, 51, 27, 145, 84]
abbrev dktX5_initialiseDecodingTable_1 : List UInt8 := dkwX5_initialiseDecodingTable_1 ++ dktX5_initialiseDecodingTable_2
def dkwX5_initialiseDecodingTable_0 : List UInt8 := [3, 60, 27, 42, 180, 0, 1, 190, 162, 0, 16, 42, 180, 0, 1, 27, 2, 84, 132, 1, 1, 167, 255, 237]
abbrev dktX5_initialiseDecodingTable_0 : List UInt8 := dkwX5_initialiseDecodingTable_0 ++ dktX5_initialiseDecodingTable_1
theorem dksX5_initialiseDecodingTable_0 : cX5_initialiseDecodingTable.data.toList.drop 0 = dktX5_initialiseDecodingTable_0 := by decide +kernel
theorem dksX5_initialiseDecodingTable_1 : cX5_initialiseDecodingTable.data.toList.drop 24 = dktX5_initialiseDecodingTable_1 := dk_seg dksX5_initialiseDecodingTable_0 24 rfl rfl
theorem dksX5_initialiseDecodingTable_2 : cX5_initialiseDecodingTable.data.toList.drop 48 = dktX5_initialiseDecodingTable_2 := dk_seg dksX5_initialiseDecodingTable_1 24 rfl rfl
theorem dX5_initialiseDecodingTable_0 : decode cX5_initialiseDecodingTable 0 = .ok (.iconst 0, 1) := dk_3 (dk_at dksX5_initialiseDecodingTable_0 0 rfl rfl)
theorem dX5_initialiseDecodingTable_1 : decode cX5_initialiseDecodingTable 1 = .ok (.istore_n 1, 1) := dk_60 (dk_at dksX5_initialiseDecodingTable_0 1 rfl rfl)
theorem dX5_initialiseDecodingTable_2 : decode cX5_initialiseDecodingTable 2 = .ok (.iload_n 1, 1) := dk_27 (dk_at dksX5_initialiseDecodingTable_0 2 rfl rfl)
theorem dX5_initialiseDecodingTable_3 : decode cX5_initialiseDecodingTable 3 = .ok (.aload_n 0, 1) := dk_42 (dk_at dksX5_initialiseDecodingTable_0 3 rfl rfl)
theorem dX5_initialiseDecodingTable_4 : decode cX5_initialiseDecodingTable 4 = .ok (.getfield 1, 3) := dk_180 0 1 (dk_at dksX5_initialiseDecodingTable_0 4 rfl rfl)
theorem dX5_initialiseDecodingTable_7 : decode cX5_initialiseDecodingTable 7 = .ok (.arraylength, 1) := dk_190 (dk_at dksX5_initialiseDecodingTable_0 7 rfl rfl)
theorem dX5_initialiseDecodingTable_8 : decode cX5_initialiseDecodingTable 8 = .ok (.if_icmp .ge 16, 3) := dk_162 0 16 (dk_at dksX5_initialiseDecodingTable_0 8 rfl rfl)
theorem dX5_initialiseDecodingTable_11 : decode cX5_initialiseDecodingTable 11 = .ok (.aload_n 0, 1) := dk_42 (dk_at dksX5_initialiseDecodingTable_0 11 rfl rfl)
theorem dX5_initialiseDecodingTable_12 : decode cX5_initialiseDecodingTable 12 = .ok (.getfield 1, 3) := dk_180 0 1 (dk_at dksX5_initialiseDecodingTable_0 12 rfl rfl)
theorem dX5_initialiseDecodingTable_15 : decode cX5_initialiseDecodingTable 15 = .ok (.iload_n 1, 1) := dk_27 (dk_at dksX5_initialiseDecodingTable_0 15 rfl rfl)
theorem dX5_initialiseDecodingTable_16 : decode cX5_initialiseDecodingTable 16 = .ok (.iconst (-1), 1) := dk_2 (dk_at dksX5_initialiseDecodingTable_0 16 rfl rfl)
theorem dX5_initialiseDecodingTable_17 : decode cX5_initialiseDecodingTable 17 = .ok (.bastore, 1) := dk_84 (dk_at dksX5_initialiseDecodingTable_0 17 rfl rfl)
theorem dX5_initialiseDecodingTable_18 : decode cX5_initialiseDecodingTable 18 = .ok (.iinc 1 1, 3) := dk_132 1 1 (dk_at dksX5_initialiseDecodingTable_0 18 rfl rfl)
theorem dX5_initialiseDecodingTable_21 : decode cX5_initialiseDecodingTable 21 = .ok (.goto (-19), 3) := dk_167 255 237 (dk_at dksX5_initialiseDecodingTable_0 21 rfl rfl)
theorem dX5_initialiseDecodingTable_24 : decode cX5_initialiseDecodingTable 24 = .ok (.iconst 0, 1) := dk_3 (dk_at dksX5_initialiseDecodingTable_1 0 rfl rfl)
theorem dX5_initialiseDecodingTable_25 : decode cX5_initialiseDecodingTable 25 = .ok (.istore_n 1, 1) := dk_60 (dk_at dksX5_initialiseDecodingTable_1 1 rfl rfl)
theorem dX5_initialiseDecodingTable_26 : decode cX5_initialiseDecodingTable 26 = .ok (.iload_n 1, 1) := dk_27 (dk_at dksX5_initialiseDecodingTable_1 2 rfl rfl)
theorem dX5_initialiseDecodingTable_27 : decode cX5_initialiseDecodingTable 27 = .ok (.aload_n 0, 1) := dk_42 (dk_at dksX5_initialiseDecodingTable_1 3 rfl rfl)
theorem dX5_initialiseDecodingTable_28 : decode cX5_initialiseDecodingTable 28 = .ok (.getfield 7, 3) := dk_180 0 7 (dk_at dksX5_initialiseDecodingTable_1 4 rfl rfl)
theorem dX5_initialiseDecodingTable_31 : decode cX5_initialiseDecodingTable 31 = .ok (.arraylength, 1) := dk_190 (dk_at dksX5_initialiseDecodingTable_1 7 rfl rfl)
theorem dX5_initialiseDecodingTable_32 : decode cX5_initialiseDecodingTable 32 = .ok (.if_icmp .ge 22, 3) := dk_162 0 22 (dk_at dksX5_initialiseDecodingTable_1 8 rfl rfl)
theorem dX5_initialiseDecodingTable_35 : decode cX5_initialiseDecodingTable 35 = .ok (.aload_n 0, 1) := dk_42 (dk_at dksX5_initialiseDecodingTable_1 11 rfl rfl)
theorem dX5_initialiseDecodingTable_36 : decode cX5_initialiseDecodingTable 36 = .ok (.getfield 1, 3) := dk_180 0 1 (dk_at dksX5_initialiseDecodingTable_1 12 rfl rfl)
theorem dX5_initialiseDecodingTable_39 : decode cX5_initialiseDecodingTable 39 = .ok (.aload_n 0, 1) := dk_42 (dk_at dksX5_initialiseDecodingTable_1 15 rfl rfl)
theorem dX5_initialiseDecodingTable_40 : decode cX5_initialiseDecodingTable 40 = .ok (.getfield 7, 3) := dk_180 0 7 (dk_at dksX5_initialiseDecodingTable_1 16 rfl rfl)
theorem dX5_initialiseDecodingTable_43 : decode cX5_initialiseDecodingTable 43 = .ok (.iload_n 1, 1) := dk_27 (dk_at dksX5_initialiseDecodingTable_1 19 rfl rfl)
theorem dX5_initialiseDecodingTable_44 : decode cX5_initialiseDecodingTable 44 = .ok (.baload, 1) := dk_51 (dk_at dksX5_initialiseDecodingTable_1 20 rfl rfl)
theorem dX5_initialiseDecodingTable_45 : decode cX5_initialiseDecodingTable 45 = .ok (.iload_n 1, 1) := dk_27 (dk_at dksX5_initialiseDecodingTable_1 21 rfl rfl)
theorem dX5_initialiseDecodingTable_46 : decode cX5_initialiseDecodingTable 46 = .ok (.i2b, 1) := dk_145 (dk_at dksX5_initialiseDecodingTable_1 22 rfl rfl)
theorem dX5_initialiseDecodingTable_47 : decode cX5_initialiseDecodingTable 47 = .ok (.bastore, 1) := dk_84 (dk_at dksX5_initialiseDecodingTable_1 23 rfl rfl)
theorem dX5_initialiseDecodingTable_48 : decode cX5_initialiseDecodingTable 48 = .ok (.iinc 1 1, 3) := dk_132 1 1 (dk_at dksX5_initialiseDecodingTable_2 0 rfl rfl)
theorem dX5_initialiseDecodingTable_51 : decode cX5_initialiseDecodingTable 51 = .ok (.goto (-25), 3) := dk_167 255 231 (dk_at dksX5_initialiseDecodingTable_2 3 rfl rfl)
theorem dX5_initialiseDecodingTable_54 : decode cX5_initialiseDecodingTable 54 = .ok (.return_, 1) := dk_177 (dk_at dksX5_initialiseDecodingTable_2 6 rfl rfl)
abbrev cX5_getEncodedLength : ByteArray := prog_1_method_5_code
def yX5_getEncodedLength : MethodName := ⟨RX5, "getEncodedLength", "(I)I"⟩
def dkwX5_getEncodedLength_0 : List UInt8 := [27, 7, 96, 8, 108, 16, 8, 104, 172]
abbrev dktX5_getEncodedLength_0 : List UInt8 := dkwX5_getEncodedLength_0 ++ []
theorem dksX5_getEncodedLength_0 : cX5_getEncodedLength.data.toList.drop 0 = dktX5_getEncodedLength_0 := by decide +kernel
theorem dX5_getEncodedLength_0 : decode cX5_getEncodedLength 0 = .ok (.iload_n 1, 1) := dk_27 (dk_at dksX5_getEncodedLength_0 0 rfl rfl)
theorem dX5_getEncodedLength_1 : decode cX5_getEncodedLength 1 = .ok (.iconst 4, 1) := dk_7 (dk_at dksX5_getEncodedLength_0 1 rfl rfl)
theorem dX5_getEncodedLength_2 : decode cX5_getEncodedLength 2 = .ok (.iadd, 1) := dk_96 (dk_at dksX5_getEncodedLength_0 2 rfl rfl)
theorem dX5_getEncodedLength_3 : decode cX5_getEncodedLength 3 = .ok (.iconst 5, 1) := dk_8 (dk_at dksX5_getEncodedLength_0 3 rfl rfl)
theorem dX5_getEncodedLength_4 : decode cX5_getEncodedLength 4 = .ok (.idiv, 1) := dk_108 (dk_at dksX5_getEncodedLength_0 4 rfl rfl)
theorem dX5_getEncodedLength_5 : decode cX5_getEncodedLength 5 = .ok (.bipush 8, 2) := dk_16 8 (dk_at dksX5_getEncodedLength_0 5 rfl rfl)
theorem dX5_getEncodedLength_7 : decode cX5_getEncodedLength 7 = .ok (.imul, 1) := dk_104 (dk_at dksX5_getEncodedLength_0 7 rfl rfl)
theorem dX5_getEncodedLength_8 : decode cX5_getEncodedLength 8 = .ok (.ireturn, 1) := dk_172 (dk_at dksX5_getEncodedLength_0 8 rfl rfl)
abbrev cX5_encode : ByteArray := prog_1_method_3_code
def yX5_encode : MethodName := ⟨RX5, "encode", "([BII[BI)I"⟩
def dkwX5_encode_12 : List UInt8 := [16, 7, 96, 42, 180, 0, 19, 84, 132, 8, 8, 21, 8, 21, 5, 100, 172]
abbrev dktX5_encode_12 : List UInt8 := dkwX5_encode_12 ++ []
def dkwX5_encode_11 : List UInt8 := [180, 0, 19, 84, 25, 4, 21, 8, 16, 7, 96, 42, 180, 0, 19, 84, 167, 0, 15, 25, 4, 21, 8]
abbrev dktX5_encode_11 : List UInt8 := dkwX5_encode_11 ++ dktX5_encode_12
def dkwX5_encode_10 : List UInt8 := [167, 0, 53, 25, 4, 21, 8, 8, 96, 42, 180, 0, 19, 84, 25, 4, 21, 8, 16, 6, 96, 42]
abbrev dktX5_encode_10 : List UInt8 := dkwX5_encode_10 ++ dktX5_encode_11
def dkwX5_encode_9 : List UInt8 := [21, 8, 16, 6, 96, 42, 180, 0, 19, 84, 25, 4, 21, 8, 16, 7, 96, 42, 180, 0, 19, 84]
abbrev dktX5_encode_9 : List UInt8 := dkwX5_encode_9 ++ dktX5_encode_10
def dkwX5_encode_8 : List UInt8 := [25, 4, 21, 8, 7, 96, 42, 180, 0, 19, 84, 25, 4, 21, 8, 8, 96, 42, 180, 0, 19, 84, 25, 4]
abbrev dktX5_encode_8 : List UInt8 := dkwX5_encode_8 ++ dktX5_encode_9
def dkwX5_encode_7 : List UInt8 := [16, 6, 96, 42, 180, 0, 19, 84, 25, 4, 21, 8, 16, 7, 96, 42, 180, 0, 19, 84, 167, 0, 102]
abbrev dktX5_encode_7 : List UInt8 := dkwX5_encode_7 ++ dktX5_encode_8
def dkwX5_encode_6 : List UInt8 := [21, 8, 7, 96, 42, 180, 0, 19, 84, 25, 4, 21, 8, 8, 96, 42, 180, 0, 19, 84, 25, 4, 21, 8]
abbrev dktX5_encode_6 : List UInt8 := dkwX5_encode_6 ++ dktX5_encode_7
def dkwX5_encode_5 : List UInt8 := [25, 4, 21, 8, 5, 96, 42, 180, 0, 19, 84, 25, 4, 21, 8, 6, 96, 42, 180, 0, 19, 84, 25, 4]
abbrev dktX5_encode_5 : List UInt8 := dkwX5_encode_5 ++ dktX5_encode_6
def dkwX5_encode_4 : List UInt8 := [170, 0, 0, 0, 199, 0, 0, 0, 1, 0, 0, 0, 4, 0, 0, 0, 29, 0, 0, 0, 100, 0, 0, 0, 149, 0, 0, 0, 187]
abbrev dktX5_encode_4 : List UInt8 := dkwX5_encode_4 ++ dktX5_encode_5
def dkwX5_encode_3 : List UInt8 := [25, 10, 3, 25, 4, 21, 8, 182, 0, 26, 21, 9]
abbrev dktX5_encode_3 : List UInt8 := dkwX5_encode_3 ++ dktX5_encode_4
def dkwX5_encode_2 : List UInt8 := [54, 9, 21, 9, 158, 0, 234, 8, 188, 8, 58, 10, 43, 21, 6, 25, 10, 3, 21, 9, 184, 0, 30, 42]
abbrev dktX5_encode_2 : List UInt8 := dkwX5_encode_2 ++ dktX5_encode_3
def dkwX5_encode_1 : List UInt8 := [21, 6, 25, 4, 21, 8, 182, 0, 26, 132, 6, 5, 132, 8, 8, 167, 255, 232, 29, 21, 6, 28, 100, 100]
abbrev dktX5_encode_1 : List UInt8 := dkwX5_encode_1 ++ dktX5_encode_2
def dkwX5_encode_0 : List UInt8 := [28, 54, 6, 28, 29, 96, 7, 100, 54, 7, 21, 5, 54, 8, 21, 6, 21, 7, 162, 0, 23, 42, 43]
abbrev dktX5_encode_0 : List UInt8 := dkwX5_encode_0 ++ dktX5_encode_1
theorem dksX5_encode_0 : cX5_encode.data.toList.drop 0 = dktX5_encode_0 := by decide +kernel
theorem dksX5_encode_1 : cX5_encode.data.toList.drop 23 = dktX5_encode_1 := dk_seg dksX5_encode_0 23 rfl rfl
theorem dksX5_encode_2 : cX5_encode.data.toList.drop 47 = dktX5_encode_2 := dk_seg dksX5_encode_1 24 rfl rfl
theorem dksX5_encode_3 : cX5_encode.data.toList.drop 71 = dktX5_encode_3 := dk_seg dksX5_encode_2 24 rfl rfl
theorem dksX5_encode_4 : cX5_encode.data.toList.drop 83 = dktX5_encode_4 := dk_seg dksX5_encode_3 12 rfl rfl
theorem dksX5_encode_5 : cX5_encode.data.toList.drop 112 = dktX5_encode_5 := dk_seg dksX5_encode_4 29 rfl rfl
theorem dksX5_encode_6 : cX5_encode.data.toList.drop 136 = dktX5_encode_6 := dk_seg dksX5_encode_5 24 rfl rfl
theorem dksX5_encode_7 : cX5_encode.data.toList.drop 160 = dktX5_encode_7 := dk_seg dksX5_encode_6 24 rfl rfl
theorem dksX5_encode_8 : cX5_encode.data.toList.drop 183 = dktX5_encode_8 := dk_seg dksX5_encode_7 23 rfl rfl
theorem dksX5_encode_9 : cX5_encode.data.toList.drop 207 = dktX5_encode_9 := dk_seg dksX5_encode_8 24 rfl rfl
theorem dksX5_encode_10 : cX5_encode.data.toList.drop 229 = dktX5_encode_10 := dk_seg dksX5_encode_9 22 rfl rfl
theorem dksX5_encode_11 : cX5_encode.data.toList.drop 251 = dktX5_encode_11 := dk_seg dksX5_encode_10 22 rfl rfl
theorem dksX5_encode_12 : cX5_encode.data.toList.drop 274 = dktX5_encode_12 := dk_seg dksX5_encode_11 23 rfl rfl
theorem dX5_encode_0 : decode cX5_encode 0 = .ok (.iload_n 2, 1) := dk_28 (dk_at dksX5_encode_0 0 rfl rfl)
theorem dX5_encode_1 : decode cX5_encode 1 = .ok (.istore 6, 2) := dk_54 6 (dk_at dksX5_encode_0 1 rfl rfl)
theorem dX5_encode_3 : decode cX5_encode 3 = .ok (.iload_n 2, 1) := dk_28 (dk_at dksX5_encode_0 3 rfl rfl)
theorem dX5_encode_4 : decode cX5_encode 4 = .ok (.iload_n 3, 1) := dk_29 (dk_at dksX5_encode_0 4 rfl rfl)
theorem dX5_encode_5 : decode cX5_encode 5 = .ok (.iadd, 1) := dk_96 (dk_at dksX5_encode_0 5 rfl rfl)
theorem dX5_encode_6 : decode cX5_encode 6 = .ok (.iconst 4, 1) := dk_7 (dk_at dksX5_encode_0 6 rfl rfl)
theorem dX5_encode_7 : decode cX5_encode 7 = .ok (.isub, 1) := dk_100 (dk_at dksX5_encode_0 7 rfl rfl)
theorem dX5_encode_8 : decode cX5_encode 8 = .ok (.istore 7, 2) := dk_54 7 (dk_at dksX5_encode_0 8 rfl rfl)
theorem dX5_encode_10 : decode cX5_encode 10 = .ok (.iload 5, 2) := dk_21 5 (dk_at dksX5_encode_0 10 rfl rfl)
theorem dX5_encode_12 : decode cX5_encode 12 = .ok (.istore 8, 2) := dk_54 8 (dk_at dksX5_encode_0 12 rfl rfl)
theorem dX5_encode_14 : decode cX5_encode 14 = .ok (.iload 6, 2) := dk_21 6 (dk_at dksX5_encode_0 14 rfl rfl)
theorem dX5_encode_16 : decode cX5_encode 16 = .ok (.iload 7, 2) := dk_21 7 (dk_at dksX5_encode_0 16 rfl rfl)
theorem dX5_encode_18 : decode cX5_encode 18 = .ok (.if_icmp .ge 23, 3) := dk_162 0 23 (dk_at dksX5_encode_0 18 rfl rfl)
theorem dX5_encode_21 : decode cX5_encode 21 = .ok (.aload_n 0, 1) := dk_42 (dk_at dksX5_encode_0 21 rfl rfl)
theorem dX5_encode_22 : decode cX5_encode 22 = .ok (.aload_n 1, 1) := dk_43 (dk_at dksX5_encode_0 22 rfl rfl)
theorem dX5_encode_23 : decode cX5_encode 23 = .ok (.iload 6, 2) := dk_21 6 (dk_at dksX5_encode_1 0 rfl rfl)
theorem dX5_encode_25 : decode cX5_encode 25 = .ok (.aload 4, 2) := dk_25 4 (dk_at dksX5_encode_1 2 rfl rfl)
theorem dX5_encode_27 : decode cX5_encode 27 = .ok (.iload 8, 2) := dk_21 8 (dk_at dksX5_encode_1 4 rfl rfl)
theorem dX5_encode_29 : decode cX5_encode 29 = .ok (.invokevirtual 26, 3) := dk_182 0 26 (dk_at dksX5_encode_1 6 rfl rfl)
theorem dX5_encode_32 : decode cX5_encode 32 = .ok (.iinc 6 5, 3) := dk_132 6 5 (dk_at dksX5_encode_1 9 rfl rfl)
theorem dX5_encode_35 : decode cX5_encode 35 = .ok (.iinc 8 8, 3) := dk_132 8 8 (dk_at dksX5_encode_1 12 rfl rfl)
theorem dX5_encode_38 : decode cX5_encode 38 = .ok (.goto (-24), 3) := dk_167 255 232 (dk_at dksX5_encode_1 15 rfl rfl)
theorem dX5_encode_41 : decode cX5_encode 41 = .ok (.iload_n 3, 1) := dk_29 (dk_at dksX5_encode_1 18 rfl rfl)
theorem dX5_encode_42 : decode cX5_encode 42 = .ok (.iload 6, 2) := dk_21 6 (dk_at dksX5_encode_1 19 rfl rfl)
theorem dX5_encode_44 : decode cX5_encode 44 = .ok (.iload_n 2, 1) := dk_28 (dk_at dksX5_encode_1 21 rfl rfl)
theorem dX5_encode_45 : decode cX5_encode 45 = .ok (.isub, 1) := dk_100 (dk_at dksX5_encode_1 22 rfl rfl)
theorem dX5_encode_46 : decode cX5_encode 46 = .ok (.isub, 1) := dk_100 (dk_at dksX5_encode_1 23 rfl rfl)
theorem dX5_encode_47 : decode cX5_encode 47 = .ok (.istore 9, 2) := dk_54 9 (dk_at dksX5_encode_2 0 rfl rfl)
theorem dX5_encode_49 : decode cX5_encode 49 = .ok (.iload 9, 2) := dk_21 9 (dk_at dksX5_encode_2 2 rfl rfl)
theorem dX5_encode_51 : decode cX5_encode 51 = .ok (.ifCond .le 234, 3) := dk_158 0 234 (dk_at dksX5_encode_2 4 rfl rfl)
theorem dX5_encode_54 : decode cX5_encode 54 = .ok (.iconst 5, 1) := dk_8 (dk_at dksX5_encode_2 7 rfl rfl)
theorem dX5_encode_55 : decode cX5_encode 55 = .ok (.newarray .byte, 2) := dk_188_8 (dk_at dksX5_encode_2 8 rfl rfl)
theorem dX5_encode_57 : decode cX5_encode 57 = .ok (.astore 10, 2) := dk_58 10 (dk_at dksX5_encode_2 10 rfl rfl)
theorem dX5_encode_59 : decode cX5_encode 59 = .ok (.aload_n 1, 1) := dk_43 (dk_at dksX5_encode_2 12 rfl rfl)
theorem dX5_encode_60 : decode cX5_encode 60 = .ok (.iload 6, 2) := dk_21 6 (dk_at dksX5_encode_2 13 rfl rfl)
theorem dX5_encode_62 : decode cX5_encode 62 = .ok (.aload 10, 2) := dk_25 10 (dk_at dksX5_encode_2 15 rfl rfl)
theorem dX5_encode_64 : decode cX5_encode 64 = .ok (.iconst 0, 1) := dk_3 (dk_at dksX5_encode_2 17 rfl rfl)
theorem dX5_encode_65 : decode cX5_encode 65 = .ok (.iload 9, 2) := dk_21 9 (dk_at dksX5_encode_2 18 rfl rfl)
theorem dX5_encode_67 : decode cX5_encode 67 = .ok (.invokestatic 30, 3) := dk_184 0 30 (dk_at dksX5_encode_2 20 rfl rfl)
theorem dX5_encode_70 : decode cX5_encode 70 = .ok (.aload_n 0, 1) := dk_42 (dk_at dksX5_encode_2 23 rfl rfl)
theorem dX5_encode_71 : decode cX5_encode 71 = .ok (.aload 10, 2) := dk_25 10 (dk_at dksX5_encode_3 0 rfl rfl)
theorem dX5_encode_73 : decode cX5_encode 73 = .ok (.iconst 0, 1) := dk_3 (dk_at dksX5_encode_3 2 rfl rfl)
theorem dX5_encode_74 : decode cX5_encode 74 = .ok (.aload 4, 2) := dk_25 4 (dk_at dksX5_encode_3 3 rfl rfl)
theorem dX5_encode_76 : decode cX5_encode 76 = .ok (.iload 8, 2) := dk_21 8 (dk_at dksX5_encode_3 5 rfl rfl)
theorem dX5_encode_78 : decode cX5_encode 78 = .ok (.invokevirtual 26, 3) := dk_182 0 26 (dk_at dksX5_encode_3 7 rfl rfl)
theorem dX5_encode_81 : decode cX5_encode 81 = .ok (.iload 9, 2) := dk_21 9 (dk_at dksX5_encode_3 10 rfl rfl)
theorem dX5_encode_83 : decode cX5_encode 83 = .ok (.tableswitch 199 1 4 #[29, 100, 149, 187], 29) := by decide +kernel
theorem dX5_encode_112 : decode cX5_encode 112 = .ok (.aload 4, 2) := dk_25 4 (dk_at dksX5_encode_5 0 rfl rfl)
theorem dX5_encode_114 : decode cX5_encode 114 = .ok (.iload 8, 2) := dk_21 8 (dk_at dksX5_encode_5 2 rfl rfl)
theorem dX5_encode_116 : decode cX5_encode 116 = .ok (.iconst 2, 1) := dk_5 (dk_at dksX5_encode_5 4 rfl rfl)
theorem dX5_encode_117 : decode cX5_encode 117 = .ok (.iadd, 1) := dk_96 (dk_at dksX5_encode_5 5 rfl rfl)
theorem dX5_encode_118 : decode cX5_encode 118 = .ok (.aload_n 0, 1) := dk_42 (dk_at dksX5_encode_5 6 rfl rfl)
theorem dX5_encode_119 : decode cX5_encode 119 = .ok (.getfield 19, 3) := dk_180 0 19 (dk_at dksX5_encode_5 7 rfl rfl)
theorem dX5_encode_122 : decode cX5_encode 122 = .ok (.bastore, 1) := dk_84 (dk_at dksX5_encode_5 10 rfl rfl)
theorem dX5_encode_123 : decode cX5_encode 123 = .ok (.aload 4, 2) := dk_25 4 (dk_at dksX5_encode_5 11 rfl rfl)
theorem dX5_encode_125 : decode cX5_encode 125 = .ok (.iload 8, 2) := dk_21 8 (dk_at dksX5_encode_5 13 rfl rfl)
theorem dX5_encode_127 : decode cX5_encode 127 = .ok (.iconst 3, 1) := dk_6 (dk_at dksX5_encode_5 15 rfl rfl)
theorem dX5_encode_128 : decode cX5_encode 128 = .ok (.iadd, 1) := dk_96 (dk_at dksX5_encode_5 16 rfl rfl)
theorem dX5_encode_129 : decode cX5_encode 129 = .ok (.aload_n 0, 1) := dk_42 (dk_at dksX5_encode_5 17 rfl rfl)
theorem dX5_encode_130 : decode cX5_encode 130 = .ok (.getfield 19, 3) := dk_180 0 19 (dk_at dksX5_encode_5 18 rfl rfl)
theorem dX5_encode_133 : decode cX5_encode 133 = .ok (.bastore, 1) := dk_84 (dk_at dksX5_encode_5 21 rfl rfl)
theorem dX5_encode_134 : decode cX5_encode 134 = .ok (.aload 4, 2) := dk_25 4 (dk_at dksX5_encode_5 22 rfl rfl)
theorem dX5_encode_136 : decode cX5_encode 136 = .ok (.iload 8, 2) := dk_21 8 (dk_at dksX5_encode_6 0 rfl rfl)
theorem dX5_encode_138 : decode cX5_encode 138 = .ok (.iconst 4, 1) := dk_7 (dk_at dksX5_encode_6 2 rfl rfl)
theorem dX5_encode_139 : decode cX5_encode 139 = .ok (.iadd, 1) := dk_96 (dk_at dksX5_encode_6 3 rfl rfl)
theorem dX5_encode_140 : decode cX5_encode 140 = .ok (.aload_n 0, 1) := dk_42 (dk_at dksX5_encode_6 4 rfl rfl)
theorem dX5_encode_141 : decode cX5_encode 141 = .ok (.getfield 19, 3) := dk_180 0 19 (dk_at dksX5_encode_6 5 rfl rfl)
theorem dX5_encode_144 : decode cX5_encode 144 = .ok (.bastore, 1) := dk_84 (dk_at dksX5_encode_6 8 rfl rfl)
theorem dX5_encode_145 : decode cX5_encode 145 = .ok (.aload 4, 2) := dk_25 4 (dk_at dksX5_encode_6 9 rfl rfl)
theorem dX5_encode_147 : decode cX5_encode 147 = .ok (.iload 8, 2) := dk_21 8 (dk_at dksX5_encode_6 11 rfl rfl)
theorem dX5_encode_149 : decode cX5_encode 149 = .ok (.iconst 5, 1) := dk_8 (dk_at dksX5_encode_6 13 rfl rfl)
theorem dX5_encode_150 : decode cX5_encode 150 = .ok (.iadd, 1) := dk_96 (dk_at dksX5_encode_6 14 rfl rfl)
theorem dX5_encode_151 : decode cX5_encode 151 = .ok (.aload_n 0, 1) := dk_42 (dk_at dksX5_encode_6 15 rfl rfl)
theorem dX5_encode_152 : decode cX5_encode 152 = .ok (.getfield 19, 3) := dk_180 0 19 (dk_at dksX5_encode_6 16 rfl rfl)
theorem dX5_encode_155 : decode cX5_encode 155 = .ok (.bastore, 1) := dk_84 (dk_at dksX5_encode_6 19 rfl rfl)
theorem dX5_encode_156 : decode cX5_encode 156 = .ok (.aload 4, 2) := dk_25 4 (dk_at dksX5_encode_6 20 rfl rfl)
theorem dX5_encode_158 : decode cX5_encode 158 = .ok (.iload 8, 2) := dk_21 8 (dk_at dksX5_encode_6 22 rfl rfl)
theorem dX5_encode_160 : decode cX5_encode 160 = .ok (.bipush 6, 2) := dk_16 6 (dk_at dksX5_encode_7 0 rfl rfl)
theorem dX5_encode_162 : decode cX5_encode 162 = .ok (.iadd, 1) := dk_96 (dk_at dksX5_encode_7 2 rfl rfl)
theorem dX5_encode_163 : decode cX5_encode 163 = .ok (.aload_n 0, 1) := dk_42 (dk_at dksX5_encode_7 3 rfl rfl)
theorem dX5_encode_164 : decode cX5_encode 164 = .ok (.getfield 19, 3) := dk_180 0 19 (dk_at dksX5_encode_7 4 rfl rfl)
theorem dX5_encode_167 : decode cX5_encode 167 = .ok (.bastore, 1) := dk_84 (dk_at dksX5_encode_7 7 rfl rfl)
theorem dX5_encode_168 : decode cX5_encode 168 = .ok (.aload 4, 2) := dk_25 4 (dk_at dksX5_encode_7 8 rfl rfl)
theorem dX5_encode_170 : decode cX5_encode 170 = .ok (.iload 8, 2) := dk_21 8 (dk_at dksX5_encode_7 10 rfl rfl)
theorem dX5_encode_172 : decode cX5_encode 172 = .ok (.bipush 7, 2) := dk_16 7 (dk_at dksX5_encode_7 12 rfl rfl)
theorem dX5_encode_174 : decode cX5_encode 174 = .ok (.iadd, 1) := dk_96 (dk_at dksX5_encode_7 14 rfl rfl)
theorem dX5_encode_175 : decode cX5_encode 175 = .ok (.aload_n 0, 1) := dk_42 (dk_at dksX5_encode_7 15 rfl rfl)
theorem dX5_encode_176 : decode cX5_encode 176 = .ok (.getfield 19, 3) := dk_180 0 19 (dk_at dksX5_encode_7 16 rfl rfl)
theorem dX5_encode_179 : decode cX5_encode 179 = .ok (.bastore, 1) := dk_84 (dk_at dksX5_encode_7 19 rfl rfl)
theorem dX5_encode_180 : decode cX5_encode 180 = .ok (.goto 102, 3) := dk_167 0 102 (dk_at dksX5_encode_7 20 rfl rfl)
theorem dX5_encode_183 : decode cX5_encode 183 = .ok (.aload 4, 2) := dk_25 4 (dk_at dksX5_encode_8 0 rfl rfl)
theorem dX5_encode_185 : decode cX5_encode 185 = .ok (.iload 8, 2) := dk_21 8 (dk_at dksX5_encode_8 2 rfl rfl)
theorem dX5_encode_187 : decode cX5_encode 187 = .ok (.iconst 4, 1) := dk_7 (dk_at dksX5_encode_8 4 rfl rfl)
theorem dX5_encode_188 : decode cX5_encode 188 = .ok (.iadd, 1) := dk_96 (dk_at dksX5_encode_8 5 rfl rfl)
theorem dX5_encode_189 : decode cX5_encode 189 = .ok (.aload_n 0, 1) := dk_42 (dk_at dksX5_encode_8 6 rfl rfl)
theorem dX5_encode_190 : decode cX5_encode 190 = .ok (.getfield 19, 3) := dk_180 0 19 (dk_at dksX5_encode_8 7 rfl rfl)
theorem dX5_encode_193 : decode cX5_encode 193 = .ok (.bastore, 1) := dk_84 (dk_at dksX5_encode_8 10 rfl rfl)
theorem dX5_encode_194 : decode cX5_encode 194 = .ok (.aload 4, 2) := dk_25 4 (dk_at dksX5_encode_8 11 rfl rfl)
theorem dX5_encode_196 : decode cX5_encode 196 = .ok (.iload 8, 2) := dk_21 8 (dk_at dksX5_encode_8 13 rfl rfl)
theorem dX5_encode_198 : decode cX5_encode 198 = .ok (.iconst 5, 1) := dk_8 (dk_at dksX5_encode_8 15 rfl rfl)
theorem dX5_encode_199 : decode cX5_encode 199 = .ok (.iadd, 1) := dk_96 (dk_at dksX5_encode_8 16 rfl rfl)
theorem dX5_encode_200 : decode cX5_encode 200 = .ok (.aload_n 0, 1) := dk_42 (dk_at dksX5_encode_8 17 rfl rfl)
theorem dX5_encode_201 : decode cX5_encode 201 = .ok (.getfield 19, 3) := dk_180 0 19 (dk_at dksX5_encode_8 18 rfl rfl)
theorem dX5_encode_204 : decode cX5_encode 204 = .ok (.bastore, 1) := dk_84 (dk_at dksX5_encode_8 21 rfl rfl)
theorem dX5_encode_205 : decode cX5_encode 205 = .ok (.aload 4, 2) := dk_25 4 (dk_at dksX5_encode_8 22 rfl rfl)
theorem dX5_encode_207 : decode cX5_encode 207 = .ok (.iload 8, 2) := dk_21 8 (dk_at dksX5_encode_9 0 rfl rfl)
theorem dX5_encode_209 : decode cX5_encode 209 = .ok (.bipush 6, 2) := dk_16 6 (dk_at dksX5_encode_9 2 rfl rfl)
theorem dX5_encode_211 : decode cX5_encode 211 = .ok (.iadd, 1) := dk_96 (dk_at dksX5_encode_9 4 rfl rfl)
theorem dX5_encode_212 : decode cX5_encode 212 = .ok (.aload_n 0, 1) := dk_42 (dk_at dksX5_encode_9 5 rfl rfl)
theorem dX5_encode_213 : decode cX5_encode 213 = .ok (.getfield 19, 3) := dk_180 0 19 (dk_at dksX5_encode_9 6 rfl rfl)
theorem dX5_encode_216 : decode cX5_encode 216 = .ok (.bastore, 1) := dk_84 (dk_at dksX5_encode_9 9 rfl rfl)
theorem dX5_encode_217 : decode cX5_encode 217 = .ok (.aload 4, 2) := dk_25 4 (dk_at dksX5_encode_9 10 rfl rfl)
theorem dX5_encode_219 : decode cX5_encode 219 = .ok (.iload 8, 2) := dk_21 8 (dk_at dksX5_encode_9 12 rfl rfl)
theorem dX5_encode_221 : decode cX5_encode 221 = .ok (.bipush 7, 2) := dk_16 7 (dk_at dksX5_encode_9 14 rfl rfl)
theorem dX5_encode_223 : decode cX5_encode 223 = .ok (.iadd, 1) := dk_96 (dk_at dksX5_encode_9 16 rfl rfl)
theorem dX5_encode_224 : decode cX5_encode 224 = .ok (.aload_n 0, 1) := dk_42 (dk_at dksX5_encode_9 17 rfl rfl)
theorem dX5_encode_225 : decode cX5_encode 225 = .ok (.getfield 19, 3) := dk_180 0 19 (dk_at dksX5_encode_9 18 rfl rfl)
theorem dX5_encode_228 : decode cX5_encode 228 = .ok (.bastore, 1) := dk_84 (dk_at dksX5_encode_9 21 rfl rfl)
theorem dX5_encode_229 : decode cX5_encode 229 = .ok (.goto 53, 3) := dk_167 0 53 (dk_at dksX5_encode_10 0 rfl rfl)
theorem dX5_encode_232 : decode cX5_encode 232 = .ok (.aload 4, 2) := dk_25 4 (dk_at dksX5_encode_10 3 rfl rfl)
theorem dX5_encode_234 : decode cX5_encode 234 = .ok (.iload 8, 2) := dk_21 8 (dk_at dksX5_encode_10 5 rfl rfl)
theorem dX5_encode_236 : decode cX5_encode 236 = .ok (.iconst 5, 1) := dk_8 (dk_at dksX5_encode_10 7 rfl rfl)
theorem dX5_encode_237 : decode cX5_encode 237 = .ok (.iadd, 1) := dk_96 (dk_at dksX5_encode_10 8 rfl rfl)
theorem dX5_encode_238 : decode cX5_encode 238 = .ok (.aload_n 0, 1) := dk_42 (dk_at dksX5_encode_10 9 rfl rfl)
theorem dX5_encode_239 : decode cX5_encode 239 = .ok (.getfield 19, 3) := dk_180 0 19 (dk_at dksX5_encode_10 10 rfl rfl)
theorem dX5_encode_242 : decode cX5_encode 242 = .ok (.bastore, 1) := dk_84 (dk_at dksX5_encode_10 13 rfl rfl)
theorem dX5_encode_243 : decode cX5_encode 243 = .ok (.aload 4, 2) := dk_25 4 (dk_at dksX5_encode_10 14 rfl rfl)
theorem dX5_encode_245 : decode cX5_encode 245 = .ok (.iload 8, 2) := dk_21 8 (dk_at dksX5_encode_10 16 rfl rfl)
theorem dX5_encode_247 : decode cX5_encode 247 = .ok (.bipush 6, 2) := dk_16 6 (dk_at dksX5_encode_10 18 rfl rfl)
theorem dX5_encode_249 : decode cX5_encode 249 = .ok (.iadd, 1) := dk_96 (dk_at dksX5_encode_10 20 rfl rfl)
theorem dX5_encode_250 : decode cX5_encode 250 = .ok (.aload_n 0, 1) := dk_42 (dk_at dksX5_encode_10 21 rfl rfl)
theorem dX5_encode_251 : decode cX5_encode 251 = .ok (.getfield 19, 3) := dk_180 0 19 (dk_at dksX5_encode_11 0 rfl rfl)
theorem dX5_encode_254 : decode cX5_encode 254 = .ok (.bastore, 1) := dk_84 (dk_at dksX5_encode_11 3 rfl rfl)
theorem dX5_encode_255 : decode cX5_encode 255 = .ok (.aload 4, 2) := dk_25 4 (dk_at dksX5_encode_11 4 rfl rfl)
theorem dX5_encode_257 : decode cX5_encode 257 = .ok (.iload 8, 2) := dk_21 8 (dk_at dksX5_encode_11 6 rfl rfl)
theorem dX5_encode_259 : decode cX5_encode 259 = .ok (.bipush 7, 2) := dk_16 7 (dk_at dksX5_encode_11 8 rfl rfl)
theorem dX5_encode_261 : decode cX5_encode 261 = .ok (.iadd, 1) := dk_96 (dk_at dksX5_encode_11 10 rfl rfl)
theorem dX5_encode_262 : decode cX5_encode 262 = .ok (.aload_n 0, 1) := dk_42 (dk_at dksX5_encode_11 11 rfl rfl)
theorem dX5_encode_263 : decode cX5_encode 263 = .ok (.getfield 19, 3) := dk_180 0 19 (dk_at dksX5_encode_11 12 rfl rfl)
theorem dX5_encode_266 : decode cX5_encode 266 = .ok (.bastore, 1) := dk_84 (dk_at dksX5_encode_11 15 rfl rfl)
theorem dX5_encode_267 : decode cX5_encode 267 = .ok (.goto 15, 3) := dk_167 0 15 (dk_at dksX5_encode_11 16 rfl rfl)
theorem dX5_encode_270 : decode cX5_encode 270 = .ok (.aload 4, 2) := dk_25 4 (dk_at dksX5_encode_11 19 rfl rfl)
theorem dX5_encode_272 : decode cX5_encode 272 = .ok (.iload 8, 2) := dk_21 8 (dk_at dksX5_encode_11 21 rfl rfl)
theorem dX5_encode_274 : decode cX5_encode 274 = .ok (.bipush 7, 2) := dk_16 7 (dk_at dksX5_encode_12 0 rfl rfl)
theorem dX5_encode_276 : decode cX5_encode 276 = .ok (.iadd, 1) := dk_96 (dk_at dksX5_encode_12 2 rfl rfl)
theorem dX5_encode_277 : decode cX5_encode 277 = .ok (.aload_n 0, 1) := dk_42 (dk_at dksX5_encode_12 3 rfl rfl)
theorem dX5_encode_278 : decode cX5_encode 278 = .ok (.getfield 19, 3) := dk_180 0 19 (dk_at dksX5_encode_12 4 rfl rfl)
theorem dX5_encode_281 : decode cX5_encode 281 = .ok (.bastore, 1) := dk_84 (dk_at dksX5_encode_12 7 rfl rfl)
theorem dX5_encode_282 : decode cX5_encode 282 = .ok (.iinc 8 8, 3) := dk_132 8 8 (dk_at dksX5_encode_12 8 rfl rfl)
theorem dX5_encode_285 : decode cX5_encode 285 = .ok (.iload 8, 2) := dk_21 8 (dk_at dksX5_encode_12 11 rfl rfl)
theorem dX5_encode_287 : decode cX5_encode 287 = .ok (.iload 5, 2) := dk_21 5 (dk_at dksX5_encode_12 13 rfl rfl)
theorem dX5_encode_289 : decode cX5_encode 289 = .ok (.isub, 1) := dk_100 (dk_at dksX5_encode_12 15 rfl rfl)
theorem dX5_encode_290 : decode cX5_encode 290 = .ok (.ireturn, 1) := dk_172 (dk_at dksX5_encode_12 16 rfl rfl)
abbrev cX5_encodeBlock : ByteArray := prog_1_method_4_code
def yX5_encodeBlock : MethodName := ⟨RX5, "encodeBlock", "([BI[BI)V"⟩
def dkwX5_encodeBlock_9 : List UInt8 := [42, 180, 0, 7, 21, 9, 16, 31, 126, 51, 84, 177]
abbrev dktX5_encodeBlock_9 : List UInt8 := dkwX5_encodeBlock_9 ++ []
def dkwX5_encodeBlock_8 : List UInt8 := [132, 4, 1, 42, 180, 0, 7, 21, 8, 6, 120, 21, 9, 8, 124, 128, 16, 31, 126, 51, 84, 45, 21, 4]
abbrev dktX5_encodeBlock_8 : List UInt8 := dkwX5_encodeBlock_8 ++ dktX5_encodeBlock_9
def dkwX5_encodeBlock_7 : List UInt8 := [45, 21, 4, 132, 4, 1, 42, 180, 0, 7, 21, 8, 5, 124, 16, 31, 126, 51, 84, 45, 21, 4]
abbrev dktX5_encodeBlock_7 : List UInt8 := dkwX5_encodeBlock_7 ++ dktX5_encodeBlock_8
def dkwX5_encodeBlock_6 : List UInt8 := [21, 4, 132, 4, 1, 42, 180, 0, 7, 21, 7, 4, 120, 21, 8, 16, 7, 124, 128, 16, 31, 126, 51, 84]
abbrev dktX5_encodeBlock_6 : List UInt8 := dkwX5_encodeBlock_6 ++ dktX5_encodeBlock_7
def dkwX5_encodeBlock_5 : List UInt8 := [21, 4, 132, 4, 1, 42, 180, 0, 7, 21, 6, 7, 120, 21, 7, 7, 124, 128, 16, 31, 126, 51, 84, 45]
abbrev dktX5_encodeBlock_5 : List UInt8 := dkwX5_encodeBlock_5 ++ dktX5_encodeBlock_6
def dkwX5_encodeBlock_4 : List UInt8 := [126, 51, 84, 45, 21, 4, 132, 4, 1, 42, 180, 0, 7, 21, 6, 4, 124, 16, 31, 126, 51, 84, 45]
abbrev dktX5_encodeBlock_4 : List UInt8 := dkwX5_encodeBlock_4 ++ dktX5_encodeBlock_5
def dkwX5_encodeBlock_3 : List UInt8 := [51, 84, 45, 21, 4, 132, 4, 1, 42, 180, 0, 7, 21, 5, 5, 120, 21, 6, 16, 6, 124, 128, 16, 31]
abbrev dktX5_encodeBlock_3 : List UInt8 := dkwX5_encodeBlock_3 ++ dktX5_encodeBlock_4
def dkwX5_encodeBlock_2 : List UInt8 := [51, 17, 0, 255, 126, 54, 9, 45, 21, 4, 132, 4, 1, 42, 180, 0, 7, 21, 5, 6, 124, 16, 31, 126]
abbrev dktX5_encodeBlock_2 : List UInt8 := dkwX5_encodeBlock_2 ++ dktX5_encodeBlock_3
def dkwX5_encodeBlock_1 : List UInt8 := [132, 2, 1, 51, 17, 0, 255, 126, 54, 7, 43, 28, 132, 2, 1, 51, 17, 0, 255, 126, 54, 8, 43, 28]
abbrev dktX5_encodeBlock_1 : List UInt8 := dkwX5_encodeBlock_1 ++ dktX5_encodeBlock_2
def dkwX5_encodeBlock_0 : List UInt8 := [43, 28, 132, 2, 1, 51, 54, 5, 43, 28, 132, 2, 1, 51, 17, 0, 255, 126, 54, 6, 43, 28]
abbrev dktX5_encodeBlock_0 : List UInt8 := dkwX5_encodeBlock_0 ++ dktX5_encodeBlock_1
theorem dksX5_encodeBlock_0 : cX5_encodeBlock.data.toList.drop 0 = dktX5_encodeBlock_0 := by decide +kernel
theorem dksX5_encodeBlock_1 : cX5_encodeBlock.data.toList.drop 22 = dktX5_encodeBlock_1 := dk_seg dksX5_encodeBlock_0 22 rfl rfl
theorem dksX5_encodeBlock_2 : cX5_encodeBlock.data.toList.drop 46 = dktX5_encodeBlock_2 := dk_seg dksX5_encodeBlock_1 24 rfl rfl
theorem dksX5_encodeBlock_3 : cX5_encodeBlock.data.toList.drop 70 = dktX5_encodeBlock_3 := dk_seg dksX5_encodeBlock_2 24 rfl rfl
theorem dksX5_encodeBlock_4 : cX5_encodeBlock.data.toList.drop 94 = dktX5_encodeBlock_4 := dk_seg dksX5_encodeBlock_3 24 rfl rfl
theorem dksX5_encodeBlock_5 : cX5_encodeBlock.data.toList.drop 117 = dktX5_encodeBlock_5 := dk_seg dksX5_encodeBlock_4 23 rfl rfl
theorem dksX5_encodeBlock_6 : cX5_encodeBlock.data.toList.drop 141 = dktX5_encodeBlock_6 := dk_seg dksX5_encodeBlock_5 24 rfl rfl
theorem dksX5_encodeBlock_7 : cX5_encodeBlock.data.toList.drop 165 = dktX5_encodeBlock_7 := dk_seg dksX5_encodeBlock_6 24 rfl rfl
theorem dksX5_encodeBlock_8 : cX5_encodeBlock.data.toList.drop 187 = dktX5_encodeBlock_8 := dk_seg dksX5_encodeBlock_7 22 rfl rfl
theorem dksX5_encodeBlock_9 : cX5_encodeBlock.data.toList.drop 211 = dktX5_encodeBlock_9 := dk_seg dksX5_encodeBlock_8 24 rfl rfl
theorem dX5_encodeBlock_0 : decode cX5_encodeBlock 0 = .ok (.aload_n 1, 1) := dk_43 (dk_at dksX5_encodeBlock_0 0 rfl rfl)
theorem dX5_encodeBlock_1 : decode cX5_encodeBlock 1 = .ok (.iload_n 2, 1) := dk_28 (dk_at dksX5_encodeBlock_0 1 rfl rfl)
theorem dX5_encodeBlock_2 : decode cX5_encodeBlock 2 = .ok (.iinc 2 1, 3) := dk_132 2 1 (dk_at dksX5_encodeBlock_0 2 rfl rfl)
theorem dX5_encodeBlock_5 : decode cX5_encodeBlock 5 = .ok (.baload, 1) := dk_51 (dk_at dksX5_encodeBlock_0 5 rfl rfl)
theorem dX5_encodeBlock_6 : decode cX5_encodeBlock 6 = .ok (.istore 5, 2) := dk_54 5 (dk_at dksX5_encodeBlock_0 6 rfl rfl)
theorem dX5_encodeBlock_8 : decode cX5_encodeBlock 8 = .ok (.aload_n 1, 1) := dk_43 (dk_at dksX5_encodeBlock_0 8 rfl rfl)
theorem dX5_encodeBlock_9 : decode cX5_encodeBlock 9 = .ok (.iload_n 2, 1) := dk_28 (dk_at dksX5_encodeBlock_0 9 rfl rfl)
theorem dX5_encodeBlock_10 : decode cX5_encodeBlock 10 = .ok (.iinc 2 1, 3) := dk_132 2 1 (dk_at dksX5_encodeBlock_0 10 rfl rfl)
theorem dX5_encodeBlock_13 : decode cX5_encodeBlock 13 = .ok (.baload, 1) := dk_51 (dk_at dksX5_encodeBlock_0 13 rfl rfl)
theorem dX5_encodeBlock_14 : decode cX5_encodeBlock 14 = .ok (.sipush 255, 3) := dk_17 0 255 (dk_at dksX5_encodeBlock_0 14 rfl rfl)
theorem dX5_encodeBlock_17 : decode cX5_encodeBlock 17 = .ok (.iand, 1) := dk_126 (dk_at dksX5_encodeBlock_0 17 rfl rfl)
theorem dX5_encodeBlock_18 : decode cX5_encodeBlock 18 = .ok (.istore 6, 2) := dk_54 6 (dk_at dksX5_encodeBlock_0 18 rfl rfl)
theorem dX5_encodeBlock_20 : decode cX5_encodeBlock 20 = .ok (.aload_n 1, 1) := dk_43 (dk_at dksX5_encodeBlock_0 20 rfl rfl)
theorem dX5_encodeBlock_21 : decode cX5_encodeBlock 21 = .ok (.iload_n 2, 1) := dk_28 (dk_at dksX5_encodeBlock_0 21 rfl rfl)
theorem dX5_encodeBlock_22 : decode cX5_encodeBlock 22 = .ok (.iinc 2 1, 3) := dk_132 2 1 (dk_at dksX5_encodeBlock_1 0 rfl rfl)
theorem dX5_encodeBlock_25 : decode cX5_encodeBlock 25 = .ok (.baload, 1) := dk_51 (dk_at dksX5_encodeBlock_1 3 rfl rfl)
theorem dX5_encodeBlock_26 : decode cX5_encodeBlock 26 = .ok (.sipush 255, 3) := dk_17 0 255 (dk_at dksX5_encodeBlock_1 4 rfl rfl)
theorem dX5_encodeBlock_29 : decode cX5_encodeBlock 29 = .ok (.iand, 1) := dk_126 (dk_at dksX5_encodeBlock_1 7 rfl rfl)
theorem dX5_encodeBlock_30 : decode cX5_encodeBlock 30 = .ok (.istore 7, 2) := dk_54 7 (dk_at dksX5_encodeBlock_1 8 rfl rfl)
theorem dX5_encodeBlock_32 : decode cX5_encodeBlock 32 = .ok (.aload_n 1, 1) := dk_43 (dk_at dksX5_encodeBlock_1 10 rfl rfl)
theorem dX5_encodeBlock_33 : decode cX5_encodeBlock 33 = .ok (.iload_n 2, 1) := dk_28 (dk_at dksX5_encodeBlock_1 11 rfl rfl)
theorem dX5_encodeBlock_34 : decode cX5_encodeBlock 34 = .ok (.iinc 2 1, 3) := dk_132 2 1 (dk_at dksX5_encodeBlock_1 12 rfl rfl)
theorem dX5_encodeBlock_37 : decode cX5_encodeBlock 37 = .ok (.baload, 1) := dk_51 (dk_at dksX5_encodeBlock_1 15 rfl rfl)
theorem dX5_encodeBlock_38 : decode cX5_encodeBlock 38 = .ok (.sipush 255, 3) := dk_17 0 255 (dk_at dksX5_encodeBlock_1 16 rfl rfl)
theorem dX5_encodeBlock_41 : decode cX5_encodeBlock 41 = .ok (.iand, 1) := dk_126 (dk_at dksX5_encodeBlock_1 19 rfl rfl)
theorem dX5_encodeBlock_42 : decode cX5_encodeBlock 42 = .ok (.istore 8, 2) := dk_54 8 (dk_at dksX5_encodeBlock_1 20 rfl rfl)
theorem dX5_encodeBlock_44 : decode cX5_encodeBlock 44 = .ok (.aload_n 1, 1) := dk_43 (dk_at dksX5_encodeBlock_1 22 rfl rfl)
theorem dX5_encodeBlock_45 : decode cX5_encodeBlock 45 = .ok (.iload_n 2, 1) := dk_28 (dk_at dksX5_encodeBlock_1 23 rfl rfl)
theorem dX5_encodeBlock_46 : decode cX5_encodeBlock 46 = .ok (.baload, 1) := dk_51 (dk_at dksX5_encodeBlock_2 0 rfl rfl)
theorem dX5_encodeBlock_47 : decode cX5_encodeBlock 47 = .ok (.sipush 255, 3) := dk_17 0 255 (dk_at dksX5_encodeBlock_2 1 rfl rfl)
theorem dX5_encodeBlock_50 : decode cX5_encodeBlock 50 = .ok (.iand, 1) := dk_126 (dk_at dksX5_encodeBlock_2 4 rfl rfl)
theorem dX5_encodeBlock_51 : decode cX5_encodeBlock 51 = .ok (.istore 9, 2) := dk_54 9 (dk_at dksX5_encodeBlock_2 5 rfl rfl)
theorem dX5_encodeBlock_53 : decode cX5_encodeBlock 53 = .ok (.aload_n 3, 1) := dk_45 (dk_at dksX5_encodeBlock_2 7 rfl rfl)
theorem dX5_encodeBlock_54 : decode cX5_encodeBlock 54 = .ok (.iload 4, 2) := dk_21 4 (dk_at dksX5_encodeBlock_2 8 rfl rfl)
theorem dX5_encodeBlock_56 : decode cX5_encodeBlock 56 = .ok (.iinc 4 1, 3) := dk_132 4 1 (dk_at dksX5_encodeBlock_2 10 rfl rfl)
theorem dX5_encodeBlock_59 : decode cX5_encodeBlock 59 = .ok (.aload_n 0, 1) := dk_42 (dk_at dksX5_encodeBlock_2 13 rfl rfl)
theorem dX5_encodeBlock_60 : decode cX5_encodeBlock 60 = .ok (.getfield 7, 3) := dk_180 0 7 (dk_at dksX5_encodeBlock_2 14 rfl rfl)
theorem dX5_encodeBlock_63 : decode cX5_encodeBlock 63 = .ok (.iload 5, 2) := dk_21 5 (dk_at dksX5_encodeBlock_2 17 rfl rfl)
theorem dX5_encodeBlock_65 : decode cX5_encodeBlock 65 = .ok (.iconst 3, 1) := dk_6 (dk_at dksX5_encodeBlock_2 19 rfl rfl)
theorem dX5_encodeBlock_66 : decode cX5_encodeBlock 66 = .ok (.iushr, 1) := dk_124 (dk_at dksX5_encodeBlock_2 20 rfl rfl)
theorem dX5_encodeBlock_67 : decode cX5_encodeBlock 67 = .ok (.bipush 31, 2) := dk_16 31 (dk_at dksX5_encodeBlock_2 21 rfl rfl)
theorem dX5_encodeBlock_69 : decode cX5_encodeBlock 69 = .ok (.iand, 1) := dk_126 (dk_at dksX5_encodeBlock_2 23 rfl rfl)
theorem dX5_encodeBlock_70 : decode cX5_encodeBlock 70 = .ok (.baload, 1) := dk_51 (dk_at dksX5_encodeBlock_3 0 rfl rfl)
theorem dX5_encodeBlock_71 : decode cX5_encodeBlock 71 = .ok (.bastore, 1) := dk_84 (dk_at dksX5_encodeBlock_3 1 rfl rfl)
theorem dX5_encodeBlock_72 : decode cX5_encodeBlock 72 = .ok (.aload_n 3, 1) := dk_45 (dk_at dksX5_encodeBlock_3 2 rfl rfl)
theorem dX5_encodeBlock_73 : decode cX5_encodeBlock 73 = .ok (.iload 4, 2) := dk_21 4 (dk_at dksX5_encodeBlock_3 3 rfl rfl)
theorem dX5_encodeBlock_75 : decode cX5_encodeBlock 75 = .ok (.iinc 4 1, 3) := dk_132 4 1 (dk_at dksX5_encodeBlock_3 5 rfl rfl)
theorem dX5_encodeBlock_78 : decode cX5_encodeBlock 78 = .ok (.aload_n 0, 1) := dk_42 (dk_at dksX5_encodeBlock_3 8 rfl rfl)
theorem dX5_encodeBlock_79 : decode cX5_encodeBlock 79 = .ok (.getfield 7, 3) := dk_180 0 7 (dk_at dksX5_encodeBlock_3 9 rfl rfl)
theorem dX5_encodeBlock_82 : decode cX5_encodeBlock 82 = .ok (.iload 5, 2) := dk_21 5 (dk_at dksX5_encodeBlock_3 12 rfl rfl)
theorem dX5_encodeBlock_84 : decode cX5_encodeBlock 84 = .ok (.iconst 2, 1) := dk_5 (dk_at dksX5_encodeBlock_3 14 rfl rfl)
theorem dX5_encodeBlock_85 : decode cX5_encodeBlock 85 = .ok (.ishl, 1) := dk_120 (dk_at dksX5_encodeBlock_3 15 rfl rfl)
theorem dX5_encodeBlock_86 : decode cX5_encodeBlock 86 = .ok (.iload 6, 2) := dk_21 6 (dk_at dksX5_encodeBlock_3 16 rfl rfl)
theorem dX5_encodeBlock_88 : decode cX5_encodeBlock 88 = .ok (.bipush 6, 2) := dk_16 6 (dk_at dksX5_encodeBlock_3 18 rfl rfl)
theorem dX5_encodeBlock_90 : decode cX5_encodeBlock 90 = .ok (.iushr, 1) := dk_124 (dk_at dksX5_encodeBlock_3 20 rfl rfl)
theorem dX5_encodeBlock_91 : decode cX5_encodeBlock 91 = .ok (.ior, 1) := dk_128 (dk_at dksX5_encodeBlock_3 21 rfl rfl)
theorem dX5_encodeBlock_92 : decode cX5_encodeBlock 92 = .ok (.bipush 31, 2) := dk_16 31 (dk_at dksX5_encodeBlock_3 22 rfl rfl)
theorem dX5_encodeBlock_94 : decode cX5_encodeBlock 94 = .ok (.iand, 1) := dk_126 (dk_at dksX5_encodeBlock_4 0 rfl rfl)
theorem dX5_encodeBlock_95 : decode cX5_encodeBlock 95 = .ok (.baload, 1) := dk_51 (dk_at dksX5_encodeBlock_4 1 rfl rfl)
theorem dX5_encodeBlock_96 : decode cX5_encodeBlock 96 = .ok (.bastore, 1) := dk_84 (dk_at dksX5_encodeBlock_4 2 rfl rfl)
theorem dX5_encodeBlock_97 : decode cX5_encodeBlock 97 = .ok (.aload_n 3, 1) := dk_45 (dk_at dksX5_encodeBlock_4 3 rfl rfl)
theorem dX5_encodeBlock_98 : decode cX5_encodeBlock 98 = .ok (.iload 4, 2) := dk_21 4 (dk_at dksX5_encodeBlock_4 4 rfl rfl)
theorem dX5_encodeBlock_100 : decode cX5_encodeBlock 100 = .ok (.iinc 4 1, 3) := dk_132 4 1 (dk_at dksX5_encodeBlock_4 6 rfl rfl)
theorem dX5_encodeBlock_103 : decode cX5_encodeBlock 103 = .ok (.aload_n 0, 1) := dk_42 (dk_at dksX5_encodeBlock_4 9 rfl rfl)
theorem dX5_encodeBlock_104 : decode cX5_encodeBlock 104 = .ok (.getfield 7, 3) := dk_180 0 7 (dk_at dksX5_encodeBlock_4 10 rfl rfl)
theorem dX5_encodeBlock_107 : decode cX5_encodeBlock 107 = .ok (.iload 6, 2) := dk_21 6 (dk_at dksX5_encodeBlock_4 13 rfl rfl)
theorem dX5_encodeBlock_109 : decode cX5_encodeBlock 109 = .ok (.iconst 1, 1) := dk_4 (dk_at dksX5_encodeBlock_4 15 rfl rfl)
theorem dX5_encodeBlock_110 : decode cX5_encodeBlock 110 = .ok (.iushr, 1) := dk_124 (dk_at dksX5_encodeBlock_4 16 rfl rfl)
theorem dX5_encodeBlock_111 : decode cX5_encodeBlock 111 = .ok (.bipush 31, 2) := dk_16 31 (dk_at dksX5_encodeBlock_4 17 rfl rfl)
theorem dX5_encodeBlock_113 : decode cX5_encodeBlock 113 = .ok (.iand, 1) := dk_126 (dk_at dksX5_encodeBlock_4 19 rfl rfl)
theorem dX5_encodeBlock_114 : decode cX5_encodeBlock 114 = .ok (.baload, 1) := dk_51 (dk_at dksX5_encodeBlock_4 20 rfl rfl)
theorem dX5_encodeBlock_115 : decode cX5_encodeBlock 115 = .ok (.bastore, 1) := dk_84 (dk_at dksX5_encodeBlock_4 21 rfl rfl)
theorem dX5_encodeBlock_116 : decode cX5_encodeBlock 116 = .ok (.aload_n 3, 1) := dk_45 (dk_at dksX5_encodeBlock_4 22 rfl rfl)
theorem dX5_encodeBlock_117 : decode cX5_encodeBlock 117 = .ok (.iload 4, 2) := dk_21 4 (dk_at dksX5_encodeBlock_5 0 rfl rfl)
theorem dX5_encodeBlock_119 : decode cX5_encodeBlock 119 = .ok (.iinc 4 1, 3) := dk_132 4 1 (dk_at dksX5_encodeBlock_5 2 rfl rfl)
theorem dX5_encodeBlock_122 : decode cX5_encodeBlock 122 = .ok (.aload_n 0, 1) := dk_42 (dk_at dksX5_encodeBlock_5 5 rfl rfl)
theorem dX5_encodeBlock_123 : decode cX5_encodeBlock 123 = .ok (.getfield 7, 3) := dk_180 0 7 (dk_at dksX5_encodeBlock_5 6 rfl rfl)
theorem dX5_encodeBlock_126 : decode cX5_encodeBlock 126 = .ok (.iload 6, 2) := dk_21 6 (dk_at dksX5_encodeBlock_5 9 rfl rfl)
theorem dX5_encodeBlock_128 : decode cX5_encodeBlock 128 = .ok (.iconst 4, 1) := dk_7 (dk_at dksX5_encodeBlock_5 11 rfl rfl)
theorem dX5_encodeBlock_129 : decode cX5_encodeBlock 129 = .ok (.ishl, 1) := dk_120 (dk_at dksX5_encodeBlock_5 12 rfl rfl)
theorem dX5_encodeBlock_130 : decode cX5_encodeBlock 130 = .ok (.iload 7, 2) := dk_21 7 (dk_at dksX5_encodeBlock_5 13 rfl rfl)
theorem dX5_encodeBlock_132 : decode cX5_encodeBlock 132 = .ok (.iconst 4, 1) := dk_7 (dk_at dksX5_encodeBlock_5 15 rfl rfl)
theorem dX5_encodeBlock_133 : decode cX5_encodeBlock 133 = .ok (.iushr, 1) := dk_124 (dk_at dksX5_encodeBlock_5 16 rfl rfl)
theorem dX5_encodeBlock_134 : decode cX5_encodeBlock 134 = .ok (.ior, 1) := dk_128 (dk_at dksX5_encodeBlock_5 17 rfl rfl)
theorem dX5_encodeBlock_135 : decode cX5_encodeBlock 135 = .ok (.bipush 31, 2) := dk_16 31 (dk_at dksX5_encodeBlock_5 18 rfl rfl)
theorem dX5_encodeBlock_137 : decode cX5_encodeBlock 137 = .ok (.iand, 1) := dk_126 (dk_at dksX5_encodeBlock_5 20 rfl rfl)
theorem dX5_encodeBlock_138 : decode cX5_encodeBlock 138 = .ok (.baload, 1) := dk_51 (dk_at dksX5_encodeBlock_5 21 rfl rfl)
theorem dX5_encodeBlock_139 : decode cX5_encodeBlock 139 = .ok (.bastore, 1) := dk_84 (dk_at dksX5_encodeBlock_5 22 rfl rfl)
theorem dX5_encodeBlock_140 : decode cX5_encodeBlock 140 = .ok (.aload_n 3, 1) := dk_45 (dk_at dksX5_encodeBlock_5 23 rfl rfl)
theorem dX5_encodeBlock_141 : decode cX5_encodeBlock 141 = .ok (.iload 4, 2) := dk_21 4 (dk_at dksX5_encodeBlock_6 0 rfl rfl)
theorem dX5_encodeBlock_143 : decode cX5_encodeBlock 143 = .ok (.iinc 4 1, 3) := dk_132 4 1 (dk_at dksX5_encodeBlock_6 2 rfl rfl)
theorem dX5_encodeBlock_146 : decode cX5_encodeBlock 146 = .ok (.aload_n 0, 1) := dk_42 (dk_at dksX5_encodeBlock_6 5 rfl rfl)
theorem dX5_encodeBlock_147 : decode cX5_encodeBlock 147 = .ok (.getfield 7, 3) := dk_180 0 7 (dk_at dksX5_encodeBlock_6 6 rfl rfl)
theorem dX5_encodeBlock_150 : decode cX5_encodeBlock 150 = .ok (.iload 7, 2) := dk_21 7 (dk_at dksX5_encodeBlock_6 9 rfl rfl)
theorem dX5_encodeBlock_152 : decode cX5_encodeBlock 152 = .ok (.iconst 1, 1) := dk_4 (dk_at dksX5_encodeBlock_6 11 rfl rfl)
theorem dX5_encodeBlock_153 : decode cX5_encodeBlock 153 = .ok (.ishl, 1) := dk_120 (dk_at dksX5_encodeBlock_6 12 rfl rfl)
theorem dX5_encodeBlock_154 : decode cX5_encodeBlock 154 = .ok (.iload 8, 2) := dk_21 8 (dk_at dksX5_encodeBlock_6 13 rfl rfl)
theorem dX5_encodeBlock_156 : decode cX5_encodeBlock 156 = .ok (.bipush 7, 2) := dk_16 7 (dk_at dksX5_encodeBlock_6 15 rfl rfl)
theorem dX5_encodeBlock_158 : decode cX5_encodeBlock 158 = .ok (.iushr, 1) := dk_124 (dk_at dksX5_encodeBlock_6 17 rfl rfl)
theorem dX5_encodeBlock_159 : decode cX5_encodeBlock 159 = .ok (.ior, 1) := dk_128 (dk_at dksX5_encodeBlock_6 18 rfl rfl)
theorem dX5_encodeBlock_160 : decode cX5_encodeBlock 160 = .ok (.bipush 31, 2) := dk_16 31 (dk_at dksX5_encodeBlock_6 19 rfl rfl)
theorem dX5_encodeBlock_162 : decode cX5_encodeBlock 162 = .ok (.iand, 1) := dk_126 (dk_at dksX5_encodeBlock_6 21 rfl rfl)
theorem dX5_encodeBlock_163 : decode cX5_encodeBlock 163 = .ok (.baload, 1) := dk_51 (dk_at dksX5_encodeBlock_6 22 rfl rfl)
theorem dX5_encodeBlock_164 : decode cX5_encodeBlock 164 = .ok (.bastore, 1) := dk_84 (dk_at dksX5_encodeBlock_6 23 rfl rfl)
theorem dX5_encodeBlock_165 : decode cX5_encodeBlock 165 = .ok (.aload_n 3, 1) := dk_45 (dk_at dksX5_encodeBlock_7 0 rfl rfl)
theorem dX5_encodeBlock_166 : decode cX5_encodeBlock 166 = .ok (.iload 4, 2) := dk_21 4 (dk_at dksX5_encodeBlock_7 1 rfl rfl)
theorem dX5_encodeBlock_168 : decode cX5_encodeBlock 168 = .ok (.iinc 4 1, 3) := dk_132 4 1 (dk_at dksX5_encodeBlock_7 3 rfl rfl)
theorem dX5_encodeBlock_171 : decode cX5_encodeBlock 171 = .ok (.aload_n 0, 1) := dk_42 (dk_at dksX5_encodeBlock_7 6 rfl rfl)
theorem dX5_encodeBlock_172 : decode cX5_encodeBlock 172 = .ok (.getfield 7, 3) := dk_180 0 7 (dk_at dksX5_encodeBlock_7 7 rfl rfl)
theorem dX5_encodeBlock_175 : decode cX5_encodeBlock 175 = .ok (.iload 8, 2) := dk_21 8 (dk_at dksX5_encodeBlock_7 10 rfl rfl)
theorem dX5_encodeBlock_177 : decode cX5_encodeBlock 177 = .ok (.iconst 2, 1) := dk_5 (dk_at dksX5_encodeBlock_7 12 rfl rfl)
theorem dX5_encodeBlock_178 : decode cX5_encodeBlock 178 = .ok (.iushr, 1) := dk_124 (dk_at dksX5_encodeBlock_7 13 rfl rfl)
theorem dX5_encodeBlock_179 : decode cX5_encodeBlock 179 = .ok (.bipush 31, 2) := dk_16 31 (dk_at dksX5_encodeBlock_7 14 rfl rfl)
theorem dX5_encodeBlock_181 : decode cX5_encodeBlock 181 = .ok (.iand, 1) := dk_126 (dk_at dksX5_encodeBlock_7 16 rfl rfl)
theorem dX5_encodeBlock_182 : decode cX5_encodeBlock 182 = .ok (.baload, 1) := dk_51 (dk_at dksX5_encodeBlock_7 17 rfl rfl)
theorem dX5_encodeBlock_183 : decode cX5_encodeBlock 183 = .ok (.bastore, 1) := dk_84 (dk_at dksX5_encodeBlock_7 18 rfl rfl)
theorem dX5_encodeBlock_184 : decode cX5_encodeBlock 184 = .ok (.aload_n 3, 1) := dk_45 (dk_at dksX5_encodeBlock_7 19 rfl rfl)
theorem dX5_encodeBlock_185 : decode cX5_encodeBlock 185 = .ok (.iload 4, 2) := dk_21 4 (dk_at dksX5_encodeBlock_7 20 rfl rfl)
theorem dX5_encodeBlock_187 : decode cX5_encodeBlock 187 = .ok (.iinc 4 1, 3) := dk_132 4 1 (dk_at dksX5_encodeBlock_8 0 rfl rfl)
theorem dX5_encodeBlock_190 : decode cX5_encodeBlock 190 = .ok (.aload_n 0, 1) := dk_42 (dk_at dksX5_encodeBlock_8 3 rfl rfl)
theorem dX5_encodeBlock_191 : decode cX5_encodeBlock 191 = .ok (.getfield 7, 3) := dk_180 0 7 (dk_at dksX5_encodeBlock_8 4 rfl rfl)
theorem dX5_encodeBlock_194 : decode cX5_encodeBlock 194 = .ok (.iload 8, 2) := dk_21 8 (dk_at dksX5_encodeBlock_8 7 rfl rfl)
theorem dX5_encodeBlock_196 : decode cX5_encodeBlock 196 = .ok (.iconst 3, 1) := dk_6 (dk_at dksX5_encodeBlock_8 9 rfl rfl)
theorem dX5_encodeBlock_197 : decode cX5_encodeBlock 197 = .ok (.ishl, 1) := dk_120 (dk_at dksX5_encodeBlock_8 10 rfl rfl)
theorem dX5_encodeBlock_198 : decode cX5_encodeBlock 198 = .ok (.iload 9, 2) := dk_21 9 (dk_at dksX5_encodeBlock_8 11 rfl rfl)
theorem dX5_encodeBlock_200 : decode cX5_encodeBlock 200 = .ok (.iconst 5, 1) := dk_8 (dk_at dksX5_encodeBlock_8 13 rfl rfl)
theorem dX5_encodeBlock_201 : decode cX5_encodeBlock 201 = .ok (.iushr, 1) := dk_124 (dk_at dksX5_encodeBlock_8 14 rfl rfl)
theorem dX5_encodeBlock_202 : decode cX5_encodeBlock 202 = .ok (.ior, 1) := dk_128 (dk_at dksX5_encodeBlock_8 15 rfl rfl)
theorem dX5_encodeBlock_203 : decode cX5_encodeBlock 203 = .ok (.bipush 31, 2) := dk_16 31 (dk_at dksX5_encodeBlock_8 16 rfl rfl)
theorem dX5_encodeBlock_205 : decode cX5_encodeBlock 205 = .ok (.iand, 1) := dk_126 (dk_at dksX5_encodeBlock_8 18 rfl rfl)
theorem dX5_encodeBlock_206 : decode cX5_encodeBlock 206 = .ok (.baload, 1) := dk_51 (dk_at dksX5_encodeBlock_8 19 rfl rfl)
theorem dX5_encodeBlock_207 : decode cX5_encodeBlock 207 = .ok (.bastore, 1) := dk_84 (dk_at dksX5_encodeBlock_8 20 rfl rfl)
theorem dX5_encodeBlock_208 : decode cX5_encodeBlock 208 = .ok (.aload_n 3, 1) := dk_45 (dk_at dksX5_encodeBlock_8 21 rfl rfl)
theorem dX5_encodeBlock_209 : decode cX5_encodeBlock 209 = .ok (.iload 4, 2) := dk_21 4 (dk_at dksX5_encodeBlock_8 22 rfl rfl)
theorem dX5_encodeBlock_211 : decode cX5_encodeBlock 211 = .ok (.aload_n 0, 1) := dk_42 (dk_at dksX5_encodeBlock_9 0 rfl rfl)
theorem dX5_encodeBlock_212 : decode cX5_encodeBlock 212 = .ok (.getfield 7, 3) := dk_180 0 7 (dk_at dksX5_encodeBlock_9 1 rfl rfl)
theorem dX5_encodeBlock_215 : decode cX5_encodeBlock 215 = .ok (.iload 9, 2) := dk_21 9 (dk_at dksX5_encodeBlock_9 4 rfl rfl)
theorem dX5_encodeBlock_217 : decode cX5_encodeBlock 217 = .ok (.bipush 31, 2) := dk_16 31 (dk_at dksX5_encodeBlock_9 6 rfl rfl)
theorem dX5_encodeBlock_219 : decode cX5_encodeBlock 219 = .ok (.iand, 1) := dk_126 (dk_at dksX5_encodeBlock_9 8 rfl rfl)
theorem dX5_encodeBlock_220 : decode cX5_encodeBlock 220 = .ok (.baload, 1) := dk_51 (dk_at dksX5_encodeBlock_9 9 rfl rfl)
theorem dX5_encodeBlock_221 : decode cX5_encodeBlock 221 = .ok (.bastore, 1) := dk_84 (dk_at dksX5_encodeBlock_9 10 rfl rfl)
theorem dX5_encodeBlock_222 : decode cX5_encodeBlock 222 = .ok (.return_, 1) := dk_177 (dk_at dksX5_encodeBlock_9 11 rfl rfl)
theorem q8 : (Jvm.Cond.initialized "Base32Encoder") ∈ lw_all := lw_g (lw_at lw_m0 5 rfl) rfl
theorem q168 : (Jvm.Cond.instantiable "Base32Encoder" (3 : Nat)) ∈ lw_all := lw_g (lw_at lw_m0 165 rfl) rfl
theorem q170 : (Jvm.Cond.instanceMethod ({ cls := "Base32Encoder", name := "<init>", desc := "()V" } : Jvm.MethodName)) ∈ lw_all := lw_g (lw_at lw_m0 167 rfl) rfl
theorem q171 : (Jvm.Cond.code ({ cls := "Base32Encoder", name := "<init>", desc := "()V" } : Jvm.MethodName) prog_1_method_2_code (1 : Nat) (Option.none : Option Jvm.ClassFile.FieldType)) ∈ lw_all := lw_g (lw_at lw_m0 168 rfl) rfl
theorem q172 : (Jvm.Cond.methodLink "Base32Encoder" (10 : Nat) ({ cls := "java/lang/Object", name := "<init>", desc := "()V" } : Jvm.MethodName)) ∈ lw_all := lw_g (lw_at lw_m0 169 rfl) rfl
theorem q173 : (Jvm.Cond.fieldLink "Base32Encoder" (16 : Nat) "Base32Encoder" "DEAULT_ENCODING_TABLE" "[B") ∈ lw_all := lw_g (lw_at lw_m0 170 rfl) rfl
theorem q174 : (Jvm.Cond.laysStatic "Base32Encoder" "DEAULT_ENCODING_TABLE" "[B") ∈ lw_tbl := lw_at lw_m0 171 rfl
theorem q175 : (Jvm.Cond.methodLink "Base32Encoder" (23 : Nat) ({ cls := "Base32Encoder", name := "initialiseDecodingTable", desc := "()V" } : Jvm.MethodName)) ∈ lw_all := lw_g (lw_at lw_m0 172 rfl) rfl
theorem q176 : (Jvm.Cond.instanceMethod ({ cls := "Base32Encoder", name := "initialiseDecodingTable", desc := "()V" } : Jvm.MethodName)) ∈ lw_all := lw_g (lw_at lw_m0 173 rfl) rfl
theorem q177 : (Jvm.Cond.selects "Base32Encoder" ({ cls := "Base32Encoder", name := "initialiseDecodingTable", desc := "()V" } : Jvm.MethodName) ({ cls := "Base32Encoder", name := "initialiseDecodingTable", desc := "()V" } : Jvm.MethodName)) ∈ lw_all := lw_g (lw_at lw_m0 174 rfl) rfl
theorem q178 : (Jvm.Cond.code ({ cls := "Base32Encoder", name := "initialiseDecodingTable", desc := "()V" } : Jvm.MethodName) prog_1_method_1_code (2 : Nat) (Option.none : Option Jvm.ClassFile.FieldType)) ∈ lw_all := lw_g (lw_at lw_m0 175 rfl) rfl
theorem q179 : (Jvm.Cond.fieldLink "Base32Encoder" (7 : Nat) "Base32Encoder" "encodingTable" "[B") ∈ lw_all := lw_g (lw_at lw_m0 176 rfl) rfl
theorem q180 : (Jvm.Cond.fieldLink "Base32Encoder" (19 : Nat) "Base32Encoder" "padding" "B") ∈ lw_all := lw_g (lw_at lw_m0 177 rfl) rfl
theorem q181 : (Jvm.Cond.fieldLink "Base32Encoder" (1 : Nat) "Base32Encoder" "decodingTable" "[B") ∈ lw_all := lw_g (lw_at lw_m0 178 rfl) rfl
theorem q182 : (Jvm.Cond.laysFinal "Base32Encoder" "Base32Encoder" "encodingTable" "[B") ∈ lw_all := lw_g (lw_at lw_m0 179 rfl) rfl
theorem q183 : (Jvm.Cond.soleField "Base32Encoder" "encodingTable") ∈ lw_all := lw_g (lw_at lw_m0 180 rfl) rfl
theorem q184 : (Jvm.Cond.laysFinal "Base32Encoder" "Base32Encoder" "padding" "B") ∈ lw_all := lw_g (lw_at lw_m0 181 rfl) rfl
theorem q185 : (Jvm.Cond.soleField "Base32Encoder" "padding") ∈ lw_all := lw_g (lw_at lw_m0 182 rfl) rfl
theorem q186 : (Jvm.Cond.laysFinal "Base32Encoder" "Base32Encoder" "decodingTable" "[B") ∈ lw_all := lw_g (lw_at lw_m0 183 rfl) rfl
theorem q187 : (Jvm.Cond.soleField "Base32Encoder" "decodingTable") ∈ lw_all := lw_g (lw_at lw_m0 184 rfl) rfl
theorem q188 : (Jvm.Cond.superclass "Base32Encoder" "java/lang/Object") ∈ lw_all := lw_g (lw_at lw_m0 185 rfl) rfl
theorem q190 : (Jvm.Cond.instanceMethod ({ cls := "Base32Encoder", name := "getEncodedLength", desc := "(I)I" } : Jvm.MethodName)) ∈ lw_all := lw_g (lw_at lw_m0 187 rfl) rfl
theorem q191 : (Jvm.Cond.selects "Base32Encoder" ({ cls := "Base32Encoder", name := "getEncodedLength", desc := "(I)I" } : Jvm.MethodName) ({ cls := "Base32Encoder", name := "getEncodedLength", desc := "(I)I" } : Jvm.MethodName)) ∈ lw_all := lw_g (lw_at lw_m0 188 rfl) rfl
theorem q192 : (Jvm.Cond.code ({ cls := "Base32Encoder", name := "getEncodedLength", desc := "(I)I" } : Jvm.MethodName) prog_1_method_5_code (2 : Nat) (Option.some Jvm.ClassFile.FieldType.int)) ∈ lw_all := lw_g (lw_at lw_m0 189 rfl) rfl
theorem q194 : (Jvm.Cond.instanceMethod ({ cls := "Base32Encoder", name := "encode", desc := "([BII[BI)I" } : Jvm.MethodName)) ∈ lw_all := lw_g (lw_at lw_m0 191 rfl) rfl
theorem q195 : (Jvm.Cond.selects "Base32Encoder" ({ cls := "Base32Encoder", name := "encode", desc := "([BII[BI)I" } : Jvm.MethodName) ({ cls := "Base32Encoder", name := "encode", desc := "([BII[BI)I" } : Jvm.MethodName)) ∈ lw_all := lw_g (lw_at lw_m0 192 rfl) rfl
theorem q196 : (Jvm.Cond.code ({ cls := "Base32Encoder", name := "encode", desc := "([BII[BI)I" } : Jvm.MethodName) prog_1_method_3_code (11 : Nat) (Option.some Jvm.ClassFile.FieldType.int)) ∈ lw_all := lw_g (lw_at lw_m0 193 rfl) rfl
theorem q197 : (Jvm.Cond.methodLink "Base32Encoder" (26 : Nat) ({ cls := "Base32Encoder", name := "encodeBlock", desc := "([BI[BI)V" } : Jvm.MethodName)) ∈ lw_all := lw_g (lw_at lw_m0 194 rfl) rfl
theorem q198 : (Jvm.Cond.privateMethod ({ cls := "Base32Encoder", name := "encodeBlock", desc := "([BI[BI)V" } : Jvm.MethodName)) ∈ lw_tbl := lw_at lw_m0 195 rfl
theorem q199 : (Jvm.Cond.instanceMethod ({ cls := "Base32Encoder", name := "encodeBlock", desc := "([BI[BI)V" } : Jvm.MethodName)) ∈ lw_all := lw_g (lw_at lw_m0 196 rfl) rfl
theorem q200 : (Jvm.Cond.code ({ cls := "Base32Encoder", name := "encodeBlock", desc := "([BI[BI)V" } : Jvm.MethodName) prog_1_method_4_code (10 : Nat) (Option.none : Option Jvm.ClassFile.FieldType)) ∈ lw_all := lw_g (lw_at lw_m0 197 rfl) rfl
theorem q201 : (Jvm.Cond.methodLink "Base32Encoder" (30 : Nat) ({ cls := "java/lang/System", name := "arraycopy", desc := "(Ljava/lang/Object;ILjava/lang/Object;II)V" } : Jvm.MethodName)) ∈ lw_all := lw_g (lw_at lw_m0 198 rfl) rfl
theorem in_X5 : ∀ w ∈ wsX50, w ∈ lw_all := lw_in wsX50 [182, 184, 186] (by decide +kernel) (by decide +kernel)
/-! LetterDesk -/
set_option maxRecDepth 100000
def RX1 : String := "LetterDesk"
def TX1 : u_T := fun k => match k with
  | 0 => ("LetterDesk", "text", "[B", true)
  | 1 => ("LetterDesk", "size", "I", false)
  | _ => ("LetterDesk", "out", "[B", false)
def tyX1 : Nat → FieldType := fun k => match k with
  | 0 => .array .byte
  | 1 => .int
  | _ => .array .byte
abbrev wsX10 : List Cond := u_ws RX1 TX1 3
theorem nmX1 : ∀ a, a < 3 → ∀ b, b < 3 → a ≠ b → (TX1 a).2.1 ≠ (TX1 b).2.1 := by decide +kernel
theorem tyX1_ok : ∀ k, k < 3 → parseFieldDescriptor (TX1 k).2.2.1 = some (tyX1 k) := by decide +kernel
abbrev cX1_init : ByteArray := prog_4_method_1_code
def yX1_init : MethodName := ⟨RX1, "<init>", "()V"⟩
def dkwX1_init_0 : List UInt8 := [42, 183, 0, 1, 42, 17, 1, 0, 188, 8, 181, 0, 7, 42, 3, 188, 8, 181, 0, 13, 177]
abbrev dktX1_init_0 : List UInt8 := dkwX1_init_0 ++ []
theorem dksX1_init_0 : cX1_init.data.toList.drop 0 = dktX1_init_0 := by decide +kernel
theorem dX1_init_0 : decode cX1_init 0 = .ok (.aload_n 0, 1) := dk_42 (dk_at dksX1_init_0 0 rfl rfl)
theorem dX1_init_1 : decode cX1_init 1 = .ok (.invokespecial 1, 3) := dk_183 0 1 (dk_at dksX1_init_0 1 rfl rfl)
theorem dX1_init_4 : decode cX1_init 4 = .ok (.aload_n 0, 1) := dk_42 (dk_at dksX1_init_0 4 rfl rfl)
theorem dX1_init_5 : decode cX1_init 5 = .ok (.sipush 256, 3) := dk_17 1 0 (dk_at dksX1_init_0 5 rfl rfl)
theorem dX1_init_8 : decode cX1_init 8 = .ok (.newarray .byte, 2) := dk_188_8 (dk_at dksX1_init_0 8 rfl rfl)
theorem dX1_init_10 : decode cX1_init 10 = .ok (.putfield 7, 3) := dk_181 0 7 (dk_at dksX1_init_0 10 rfl rfl)
theorem dX1_init_13 : decode cX1_init 13 = .ok (.aload_n 0, 1) := dk_42 (dk_at dksX1_init_0 13 rfl rfl)
theorem dX1_init_14 : decode cX1_init 14 = .ok (.iconst 0, 1) := dk_3 (dk_at dksX1_init_0 14 rfl rfl)
theorem dX1_init_15 : decode cX1_init 15 = .ok (.newarray .byte, 2) := dk_188_8 (dk_at dksX1_init_0 15 rfl rfl)
theorem dX1_init_17 : decode cX1_init 17 = .ok (.putfield 13, 3) := dk_181 0 13 (dk_at dksX1_init_0 17 rfl rfl)
theorem dX1_init_20 : decode cX1_init 20 = .ok (.return_, 1) := dk_177 (dk_at dksX1_init_0 20 rfl rfl)
abbrev cX1_put : ByteArray := prog_4_method_2_code
def yX1_put : MethodName := ⟨RX1, "put", "(IIII)Z"⟩
def dkwX1_put_3 : List UInt8 := [96, 21, 4, 184, 0, 20, 42, 89, 180, 0, 16, 16, 16, 96, 181, 0, 16, 4, 172]
abbrev dktX1_put_3 : List UInt8 := dkwX1_put_3 ++ []
def dkwX1_put_2 : List UInt8 := [180, 0, 7, 42, 180, 0, 16, 16, 8, 96, 29, 184, 0, 20, 42, 180, 0, 7, 42, 180, 0, 16, 16, 12]
abbrev dktX1_put_2 : List UInt8 := dkwX1_put_2 ++ dktX1_put_3
def dkwX1_put_1 : List UInt8 := [180, 0, 16, 27, 184, 0, 20, 42, 180, 0, 7, 42, 180, 0, 16, 7, 96, 28, 184, 0, 20, 42]
abbrev dktX1_put_1 : List UInt8 := dkwX1_put_1 ++ dktX1_put_2
def dkwX1_put_0 : List UInt8 := [42, 180, 0, 16, 42, 180, 0, 7, 190, 16, 16, 100, 164, 0, 5, 3, 172, 42, 180, 0, 7, 42]
abbrev dktX1_put_0 : List UInt8 := dkwX1_put_0 ++ dktX1_put_1
theorem dksX1_put_0 : cX1_put.data.toList.drop 0 = dktX1_put_0 := by decide +kernel
theorem dksX1_put_1 : cX1_put.data.toList.drop 22 = dktX1_put_1 := dk_seg dksX1_put_0 22 rfl rfl
theorem dksX1_put_2 : cX1_put.data.toList.drop 44 = dktX1_put_2 := dk_seg dksX1_put_1 22 rfl rfl
theorem dksX1_put_3 : cX1_put.data.toList.drop 68 = dktX1_put_3 := dk_seg dksX1_put_2 24 rfl rfl
theorem dX1_put_0 : decode cX1_put 0 = .ok (.aload_n 0, 1) := dk_42 (dk_at dksX1_put_0 0 rfl rfl)
theorem dX1_put_1 : decode cX1_put 1 = .ok (.getfield 16, 3) := dk_180 0 16 (dk_at dksX1_put_0 1 rfl rfl)
theorem dX1_put_4 : decode cX1_put 4 = .ok (.aload_n 0, 1) := dk_42 (dk_at dksX1_put_0 4 rfl rfl)
theorem dX1_put_5 : decode cX1_put 5 = .ok (.getfield 7, 3) := dk_180 0 7 (dk_at dksX1_put_0 5 rfl rfl)
theorem dX1_put_8 : decode cX1_put 8 = .ok (.arraylength, 1) := dk_190 (dk_at dksX1_put_0 8 rfl rfl)
theorem dX1_put_9 : decode cX1_put 9 = .ok (.bipush 16, 2) := dk_16 16 (dk_at dksX1_put_0 9 rfl rfl)
theorem dX1_put_11 : decode cX1_put 11 = .ok (.isub, 1) := dk_100 (dk_at dksX1_put_0 11 rfl rfl)
theorem dX1_put_12 : decode cX1_put 12 = .ok (.if_icmp .le 5, 3) := dk_164 0 5 (dk_at dksX1_put_0 12 rfl rfl)
theorem dX1_put_15 : decode cX1_put 15 = .ok (.iconst 0, 1) := dk_3 (dk_at dksX1_put_0 15 rfl rfl)
theorem dX1_put_16 : decode cX1_put 16 = .ok (.ireturn, 1) := dk_172 (dk_at dksX1_put_0 16 rfl rfl)
theorem dX1_put_17 : decode cX1_put 17 = .ok (.aload_n 0, 1) := dk_42 (dk_at dksX1_put_0 17 rfl rfl)
theorem dX1_put_18 : decode cX1_put 18 = .ok (.getfield 7, 3) := dk_180 0 7 (dk_at dksX1_put_0 18 rfl rfl)
theorem dX1_put_21 : decode cX1_put 21 = .ok (.aload_n 0, 1) := dk_42 (dk_at dksX1_put_0 21 rfl rfl)
theorem dX1_put_22 : decode cX1_put 22 = .ok (.getfield 16, 3) := dk_180 0 16 (dk_at dksX1_put_1 0 rfl rfl)
theorem dX1_put_25 : decode cX1_put 25 = .ok (.iload_n 1, 1) := dk_27 (dk_at dksX1_put_1 3 rfl rfl)
theorem dX1_put_26 : decode cX1_put 26 = .ok (.invokestatic 20, 3) := dk_184 0 20 (dk_at dksX1_put_1 4 rfl rfl)
theorem dX1_put_29 : decode cX1_put 29 = .ok (.aload_n 0, 1) := dk_42 (dk_at dksX1_put_1 7 rfl rfl)
theorem dX1_put_30 : decode cX1_put 30 = .ok (.getfield 7, 3) := dk_180 0 7 (dk_at dksX1_put_1 8 rfl rfl)
theorem dX1_put_33 : decode cX1_put 33 = .ok (.aload_n 0, 1) := dk_42 (dk_at dksX1_put_1 11 rfl rfl)
theorem dX1_put_34 : decode cX1_put 34 = .ok (.getfield 16, 3) := dk_180 0 16 (dk_at dksX1_put_1 12 rfl rfl)
theorem dX1_put_37 : decode cX1_put 37 = .ok (.iconst 4, 1) := dk_7 (dk_at dksX1_put_1 15 rfl rfl)
theorem dX1_put_38 : decode cX1_put 38 = .ok (.iadd, 1) := dk_96 (dk_at dksX1_put_1 16 rfl rfl)
theorem dX1_put_39 : decode cX1_put 39 = .ok (.iload_n 2, 1) := dk_28 (dk_at dksX1_put_1 17 rfl rfl)
theorem dX1_put_40 : decode cX1_put 40 = .ok (.invokestatic 20, 3) := dk_184 0 20 (dk_at dksX1_put_1 18 rfl rfl)
theorem dX1_put_43 : decode cX1_put 43 = .ok (.aload_n 0, 1) := dk_42 (dk_at dksX1_put_1 21 rfl rfl)
theorem dX1_put_44 : decode cX1_put 44 = .ok (.getfield 7, 3) := dk_180 0 7 (dk_at dksX1_put_2 0 rfl rfl)
theorem dX1_put_47 : decode cX1_put 47 = .ok (.aload_n 0, 1) := dk_42 (dk_at dksX1_put_2 3 rfl rfl)
theorem dX1_put_48 : decode cX1_put 48 = .ok (.getfield 16, 3) := dk_180 0 16 (dk_at dksX1_put_2 4 rfl rfl)
theorem dX1_put_51 : decode cX1_put 51 = .ok (.bipush 8, 2) := dk_16 8 (dk_at dksX1_put_2 7 rfl rfl)
theorem dX1_put_53 : decode cX1_put 53 = .ok (.iadd, 1) := dk_96 (dk_at dksX1_put_2 9 rfl rfl)
theorem dX1_put_54 : decode cX1_put 54 = .ok (.iload_n 3, 1) := dk_29 (dk_at dksX1_put_2 10 rfl rfl)
theorem dX1_put_55 : decode cX1_put 55 = .ok (.invokestatic 20, 3) := dk_184 0 20 (dk_at dksX1_put_2 11 rfl rfl)
theorem dX1_put_58 : decode cX1_put 58 = .ok (.aload_n 0, 1) := dk_42 (dk_at dksX1_put_2 14 rfl rfl)
theorem dX1_put_59 : decode cX1_put 59 = .ok (.getfield 7, 3) := dk_180 0 7 (dk_at dksX1_put_2 15 rfl rfl)
theorem dX1_put_62 : decode cX1_put 62 = .ok (.aload_n 0, 1) := dk_42 (dk_at dksX1_put_2 18 rfl rfl)
theorem dX1_put_63 : decode cX1_put 63 = .ok (.getfield 16, 3) := dk_180 0 16 (dk_at dksX1_put_2 19 rfl rfl)
theorem dX1_put_66 : decode cX1_put 66 = .ok (.bipush 12, 2) := dk_16 12 (dk_at dksX1_put_2 22 rfl rfl)
theorem dX1_put_68 : decode cX1_put 68 = .ok (.iadd, 1) := dk_96 (dk_at dksX1_put_3 0 rfl rfl)
theorem dX1_put_69 : decode cX1_put 69 = .ok (.iload 4, 2) := dk_21 4 (dk_at dksX1_put_3 1 rfl rfl)
theorem dX1_put_71 : decode cX1_put 71 = .ok (.invokestatic 20, 3) := dk_184 0 20 (dk_at dksX1_put_3 3 rfl rfl)
theorem dX1_put_74 : decode cX1_put 74 = .ok (.aload_n 0, 1) := dk_42 (dk_at dksX1_put_3 6 rfl rfl)
theorem dX1_put_75 : decode cX1_put 75 = .ok (.dup, 1) := dk_89 (dk_at dksX1_put_3 7 rfl rfl)
theorem dX1_put_76 : decode cX1_put 76 = .ok (.getfield 16, 3) := dk_180 0 16 (dk_at dksX1_put_3 8 rfl rfl)
theorem dX1_put_79 : decode cX1_put 79 = .ok (.bipush 16, 2) := dk_16 16 (dk_at dksX1_put_3 11 rfl rfl)
theorem dX1_put_81 : decode cX1_put 81 = .ok (.iadd, 1) := dk_96 (dk_at dksX1_put_3 13 rfl rfl)
theorem dX1_put_82 : decode cX1_put 82 = .ok (.putfield 16, 3) := dk_181 0 16 (dk_at dksX1_put_3 14 rfl rfl)
theorem dX1_put_85 : decode cX1_put 85 = .ok (.iconst 1, 1) := dk_4 (dk_at dksX1_put_3 17 rfl rfl)
theorem dX1_put_86 : decode cX1_put 86 = .ok (.ireturn, 1) := dk_172 (dk_at dksX1_put_3 18 rfl rfl)
abbrev cX1_word : ByteArray := prog_4_method_3_code
def yX1_word : MethodName := ⟨RX1, "word", "([BII)V"⟩
def dkwX1_word_1 : List UInt8 := [16, 8, 122, 145, 84, 42, 27, 6, 96, 28, 145, 84, 177]
abbrev dktX1_word_1 : List UInt8 := dkwX1_word_1 ++ []
def dkwX1_word_0 : List UInt8 := [42, 27, 28, 16, 24, 122, 145, 84, 42, 27, 4, 96, 28, 16, 16, 122, 145, 84, 42, 27, 5, 96, 28]
abbrev dktX1_word_0 : List UInt8 := dkwX1_word_0 ++ dktX1_word_1
theorem dksX1_word_0 : cX1_word.data.toList.drop 0 = dktX1_word_0 := by decide +kernel
theorem dksX1_word_1 : cX1_word.data.toList.drop 23 = dktX1_word_1 := dk_seg dksX1_word_0 23 rfl rfl
theorem dX1_word_0 : decode cX1_word 0 = .ok (.aload_n 0, 1) := dk_42 (dk_at dksX1_word_0 0 rfl rfl)
theorem dX1_word_1 : decode cX1_word 1 = .ok (.iload_n 1, 1) := dk_27 (dk_at dksX1_word_0 1 rfl rfl)
theorem dX1_word_2 : decode cX1_word 2 = .ok (.iload_n 2, 1) := dk_28 (dk_at dksX1_word_0 2 rfl rfl)
theorem dX1_word_3 : decode cX1_word 3 = .ok (.bipush 24, 2) := dk_16 24 (dk_at dksX1_word_0 3 rfl rfl)
theorem dX1_word_5 : decode cX1_word 5 = .ok (.ishr, 1) := dk_122 (dk_at dksX1_word_0 5 rfl rfl)
theorem dX1_word_6 : decode cX1_word 6 = .ok (.i2b, 1) := dk_145 (dk_at dksX1_word_0 6 rfl rfl)
theorem dX1_word_7 : decode cX1_word 7 = .ok (.bastore, 1) := dk_84 (dk_at dksX1_word_0 7 rfl rfl)
theorem dX1_word_8 : decode cX1_word 8 = .ok (.aload_n 0, 1) := dk_42 (dk_at dksX1_word_0 8 rfl rfl)
theorem dX1_word_9 : decode cX1_word 9 = .ok (.iload_n 1, 1) := dk_27 (dk_at dksX1_word_0 9 rfl rfl)
theorem dX1_word_10 : decode cX1_word 10 = .ok (.iconst 1, 1) := dk_4 (dk_at dksX1_word_0 10 rfl rfl)
theorem dX1_word_11 : decode cX1_word 11 = .ok (.iadd, 1) := dk_96 (dk_at dksX1_word_0 11 rfl rfl)
theorem dX1_word_12 : decode cX1_word 12 = .ok (.iload_n 2, 1) := dk_28 (dk_at dksX1_word_0 12 rfl rfl)
theorem dX1_word_13 : decode cX1_word 13 = .ok (.bipush 16, 2) := dk_16 16 (dk_at dksX1_word_0 13 rfl rfl)
theorem dX1_word_15 : decode cX1_word 15 = .ok (.ishr, 1) := dk_122 (dk_at dksX1_word_0 15 rfl rfl)
theorem dX1_word_16 : decode cX1_word 16 = .ok (.i2b, 1) := dk_145 (dk_at dksX1_word_0 16 rfl rfl)
theorem dX1_word_17 : decode cX1_word 17 = .ok (.bastore, 1) := dk_84 (dk_at dksX1_word_0 17 rfl rfl)
theorem dX1_word_18 : decode cX1_word 18 = .ok (.aload_n 0, 1) := dk_42 (dk_at dksX1_word_0 18 rfl rfl)
theorem dX1_word_19 : decode cX1_word 19 = .ok (.iload_n 1, 1) := dk_27 (dk_at dksX1_word_0 19 rfl rfl)
theorem dX1_word_20 : decode cX1_word 20 = .ok (.iconst 2, 1) := dk_5 (dk_at dksX1_word_0 20 rfl rfl)
theorem dX1_word_21 : decode cX1_word 21 = .ok (.iadd, 1) := dk_96 (dk_at dksX1_word_0 21 rfl rfl)
theorem dX1_word_22 : decode cX1_word 22 = .ok (.iload_n 2, 1) := dk_28 (dk_at dksX1_word_0 22 rfl rfl)
theorem dX1_word_23 : decode cX1_word 23 = .ok (.bipush 8, 2) := dk_16 8 (dk_at dksX1_word_1 0 rfl rfl)
theorem dX1_word_25 : decode cX1_word 25 = .ok (.ishr, 1) := dk_122 (dk_at dksX1_word_1 2 rfl rfl)
theorem dX1_word_26 : decode cX1_word 26 = .ok (.i2b, 1) := dk_145 (dk_at dksX1_word_1 3 rfl rfl)
theorem dX1_word_27 : decode cX1_word 27 = .ok (.bastore, 1) := dk_84 (dk_at dksX1_word_1 4 rfl rfl)
theorem dX1_word_28 : decode cX1_word 28 = .ok (.aload_n 0, 1) := dk_42 (dk_at dksX1_word_1 5 rfl rfl)
theorem dX1_word_29 : decode cX1_word 29 = .ok (.iload_n 1, 1) := dk_27 (dk_at dksX1_word_1 6 rfl rfl)
theorem dX1_word_30 : decode cX1_word 30 = .ok (.iconst 3, 1) := dk_6 (dk_at dksX1_word_1 7 rfl rfl)
theorem dX1_word_31 : decode cX1_word 31 = .ok (.iadd, 1) := dk_96 (dk_at dksX1_word_1 8 rfl rfl)
theorem dX1_word_32 : decode cX1_word 32 = .ok (.iload_n 2, 1) := dk_28 (dk_at dksX1_word_1 9 rfl rfl)
theorem dX1_word_33 : decode cX1_word 33 = .ok (.i2b, 1) := dk_145 (dk_at dksX1_word_1 10 rfl rfl)
theorem dX1_word_34 : decode cX1_word 34 = .ok (.bastore, 1) := dk_84 (dk_at dksX1_word_1 11 rfl rfl)
theorem dX1_word_35 : decode cX1_word 35 = .ok (.return_, 1) := dk_177 (dk_at dksX1_word_1 12 rfl rfl)
abbrev cX1_out : ByteArray := prog_4_method_10_code
def yX1_out : MethodName := ⟨RX1, "out", "(I)I"⟩
def dkwX1_out_1 : List UInt8 := [190, 112, 51, 17, 0, 255, 126, 172]
abbrev dktX1_out_1 : List UInt8 := dkwX1_out_1 ++ []
def dkwX1_out_0 : List UInt8 := [42, 180, 0, 13, 190, 154, 0, 7, 2, 167, 0, 22, 42, 180, 0, 13, 27, 18, 28, 126, 42, 180, 0, 13]
abbrev dktX1_out_0 : List UInt8 := dkwX1_out_0 ++ dktX1_out_1
theorem dksX1_out_0 : cX1_out.data.toList.drop 0 = dktX1_out_0 := by decide +kernel
theorem dksX1_out_1 : cX1_out.data.toList.drop 24 = dktX1_out_1 := dk_seg dksX1_out_0 24 rfl rfl
theorem dX1_out_0 : decode cX1_out 0 = .ok (.aload_n 0, 1) := dk_42 (dk_at dksX1_out_0 0 rfl rfl)
theorem dX1_out_1 : decode cX1_out 1 = .ok (.getfield 13, 3) := dk_180 0 13 (dk_at dksX1_out_0 1 rfl rfl)
theorem dX1_out_4 : decode cX1_out 4 = .ok (.arraylength, 1) := dk_190 (dk_at dksX1_out_0 4 rfl rfl)
theorem dX1_out_5 : decode cX1_out 5 = .ok (.ifCond .ne 7, 3) := dk_154 0 7 (dk_at dksX1_out_0 5 rfl rfl)
theorem dX1_out_8 : decode cX1_out 8 = .ok (.iconst (-1), 1) := dk_2 (dk_at dksX1_out_0 8 rfl rfl)
theorem dX1_out_9 : decode cX1_out 9 = .ok (.goto 22, 3) := dk_167 0 22 (dk_at dksX1_out_0 9 rfl rfl)
theorem dX1_out_12 : decode cX1_out 12 = .ok (.aload_n 0, 1) := dk_42 (dk_at dksX1_out_0 12 rfl rfl)
theorem dX1_out_13 : decode cX1_out 13 = .ok (.getfield 13, 3) := dk_180 0 13 (dk_at dksX1_out_0 13 rfl rfl)
theorem dX1_out_16 : decode cX1_out 16 = .ok (.iload_n 1, 1) := dk_27 (dk_at dksX1_out_0 16 rfl rfl)
theorem dX1_out_17 : decode cX1_out 17 = .ok (.ldc 28, 2) := dk_18 28 (dk_at dksX1_out_0 17 rfl rfl)
theorem dX1_out_19 : decode cX1_out 19 = .ok (.iand, 1) := dk_126 (dk_at dksX1_out_0 19 rfl rfl)
theorem dX1_out_20 : decode cX1_out 20 = .ok (.aload_n 0, 1) := dk_42 (dk_at dksX1_out_0 20 rfl rfl)
theorem dX1_out_21 : decode cX1_out 21 = .ok (.getfield 13, 3) := dk_180 0 13 (dk_at dksX1_out_0 21 rfl rfl)
theorem dX1_out_24 : decode cX1_out 24 = .ok (.arraylength, 1) := dk_190 (dk_at dksX1_out_1 0 rfl rfl)
theorem dX1_out_25 : decode cX1_out 25 = .ok (.irem, 1) := dk_112 (dk_at dksX1_out_1 1 rfl rfl)
theorem dX1_out_26 : decode cX1_out 26 = .ok (.baload, 1) := dk_51 (dk_at dksX1_out_1 2 rfl rfl)
theorem dX1_out_27 : decode cX1_out 27 = .ok (.sipush 255, 3) := dk_17 0 255 (dk_at dksX1_out_1 3 rfl rfl)
theorem dX1_out_30 : decode cX1_out 30 = .ok (.iand, 1) := dk_126 (dk_at dksX1_out_1 6 rfl rfl)
theorem dX1_out_31 : decode cX1_out 31 = .ok (.ireturn, 1) := dk_172 (dk_at dksX1_out_1 7 rfl rfl)
abbrev cX1_length : ByteArray := prog_4_method_11_code
def yX1_length : MethodName := ⟨RX1, "length", "()I"⟩
def dkwX1_length_0 : List UInt8 := [42, 180, 0, 13, 190, 172]
abbrev dktX1_length_0 : List UInt8 := dkwX1_length_0 ++ []
theorem dksX1_length_0 : cX1_length.data.toList.drop 0 = dktX1_length_0 := by decide +kernel
theorem dX1_length_0 : decode cX1_length 0 = .ok (.aload_n 0, 1) := dk_42 (dk_at dksX1_length_0 0 rfl rfl)
theorem dX1_length_1 : decode cX1_length 1 = .ok (.getfield 13, 3) := dk_180 0 13 (dk_at dksX1_length_0 1 rfl rfl)
theorem dX1_length_4 : decode cX1_length 4 = .ok (.arraylength, 1) := dk_190 (dk_at dksX1_length_0 4 rfl rfl)
theorem dX1_length_5 : decode cX1_length 5 = .ok (.ireturn, 1) := dk_172 (dk_at dksX1_length_0 5 rfl rfl)
abbrev cX1_whole : ByteArray := prog_4_method_12_code
def yX1_whole : MethodName := ⟨RX1, "whole", "()J"⟩
def dkwX1_whole_1 : List UInt8 := [133, 97, 64, 132, 3, 1, 167, 255, 230, 31, 173]
abbrev dktX1_whole_1 : List UInt8 := dkwX1_whole_1 ++ []
def dkwX1_whole_0 : List UInt8 := [9, 64, 3, 62, 29, 42, 180, 0, 13, 190, 162, 0, 23, 31, 20, 0, 56, 105, 42, 180, 0, 13, 29, 51]
abbrev dktX1_whole_0 : List UInt8 := dkwX1_whole_0 ++ dktX1_whole_1
theorem dksX1_whole_0 : cX1_whole.data.toList.drop 0 = dktX1_whole_0 := by decide +kernel
theorem dksX1_whole_1 : cX1_whole.data.toList.drop 24 = dktX1_whole_1 := dk_seg dksX1_whole_0 24 rfl rfl
theorem dX1_whole_0 : decode cX1_whole 0 = .ok (.lconst 0, 1) := dk_9 (dk_at dksX1_whole_0 0 rfl rfl)
theorem dX1_whole_1 : decode cX1_whole 1 = .ok (.lstore_n 1, 1) := dk_64 (dk_at dksX1_whole_0 1 rfl rfl)
theorem dX1_whole_2 : decode cX1_whole 2 = .ok (.iconst 0, 1) := dk_3 (dk_at dksX1_whole_0 2 rfl rfl)
theorem dX1_whole_3 : decode cX1_whole 3 = .ok (.istore_n 3, 1) := dk_62 (dk_at dksX1_whole_0 3 rfl rfl)
theorem dX1_whole_4 : decode cX1_whole 4 = .ok (.iload_n 3, 1) := dk_29 (dk_at dksX1_whole_0 4 rfl rfl)
theorem dX1_whole_5 : decode cX1_whole 5 = .ok (.aload_n 0, 1) := dk_42 (dk_at dksX1_whole_0 5 rfl rfl)
theorem dX1_whole_6 : decode cX1_whole 6 = .ok (.getfield 13, 3) := dk_180 0 13 (dk_at dksX1_whole_0 6 rfl rfl)
theorem dX1_whole_9 : decode cX1_whole 9 = .ok (.arraylength, 1) := dk_190 (dk_at dksX1_whole_0 9 rfl rfl)
theorem dX1_whole_10 : decode cX1_whole 10 = .ok (.if_icmp .ge 23, 3) := dk_162 0 23 (dk_at dksX1_whole_0 10 rfl rfl)
theorem dX1_whole_13 : decode cX1_whole 13 = .ok (.lload_n 1, 1) := dk_31 (dk_at dksX1_whole_0 13 rfl rfl)
theorem dX1_whole_14 : decode cX1_whole 14 = .ok (.ldc2_w 56, 3) := dk_20 0 56 (dk_at dksX1_whole_0 14 rfl rfl)
theorem dX1_whole_17 : decode cX1_whole 17 = .ok (.lmul, 1) := dk_105 (dk_at dksX1_whole_0 17 rfl rfl)
theorem dX1_whole_18 : decode cX1_whole 18 = .ok (.aload_n 0, 1) := dk_42 (dk_at dksX1_whole_0 18 rfl rfl)
theorem dX1_whole_19 : decode cX1_whole 19 = .ok (.getfield 13, 3) := dk_180 0 13 (dk_at dksX1_whole_0 19 rfl rfl)
theorem dX1_whole_22 : decode cX1_whole 22 = .ok (.iload_n 3, 1) := dk_29 (dk_at dksX1_whole_0 22 rfl rfl)
theorem dX1_whole_23 : decode cX1_whole 23 = .ok (.baload, 1) := dk_51 (dk_at dksX1_whole_0 23 rfl rfl)
theorem dX1_whole_24 : decode cX1_whole 24 = .ok (.i2l, 1) := dk_133 (dk_at dksX1_whole_1 0 rfl rfl)
theorem dX1_whole_25 : decode cX1_whole 25 = .ok (.ladd, 1) := dk_97 (dk_at dksX1_whole_1 1 rfl rfl)
theorem dX1_whole_26 : decode cX1_whole 26 = .ok (.lstore_n 1, 1) := dk_64 (dk_at dksX1_whole_1 2 rfl rfl)
theorem dX1_whole_27 : decode cX1_whole 27 = .ok (.iinc 3 1, 3) := dk_132 3 1 (dk_at dksX1_whole_1 3 rfl rfl)
theorem dX1_whole_30 : decode cX1_whole 30 = .ok (.goto (-26), 3) := dk_167 255 230 (dk_at dksX1_whole_1 6 rfl rfl)
theorem dX1_whole_33 : decode cX1_whole 33 = .ok (.lload_n 1, 1) := dk_31 (dk_at dksX1_whole_1 9 rfl rfl)
theorem dX1_whole_34 : decode cX1_whole 34 = .ok (.lreturn, 1) := dk_173 (dk_at dksX1_whole_1 10 rfl rfl)
abbrev cX1_write : ByteArray := prog_4_method_8_code
def yX1_write : MethodName := ⟨RX1, "write", "(III)I"⟩
def dkwX1_write_7 : List UInt8 := [58, 7, 2, 172]
abbrev dktX1_write_7 : List UInt8 := dkwX1_write_7 ++ []
def dkwX1_write_6 : List UInt8 := [180, 0, 7, 21, 4, 21, 5, 25, 7, 3, 182, 0, 52, 54, 8, 42, 25, 7, 181, 0, 13, 21, 8, 172]
abbrev dktX1_write_6 : List UInt8 := dkwX1_write_6 ++ dktX1_write_7
def dkwX1_write_5 : List UInt8 := [187, 0, 48, 89, 183, 0, 50, 58, 9, 25, 9, 21, 5, 182, 0, 51, 188, 8, 58, 7, 25, 9, 42]
abbrev dktX1_write_5 : List UInt8 := dkwX1_write_5 ++ dktX1_write_6
def dkwX1_write_4 : List UInt8 := [58, 7, 25, 9, 42, 180, 0, 7, 21, 4, 21, 5, 25, 7, 3, 182, 0, 47, 54, 8, 167, 0, 41]
abbrev dktX1_write_4 : List UInt8 := dkwX1_write_4 ++ dktX1_write_5
def dkwX1_write_3 : List UInt8 := [21, 6, 4, 160, 0, 44, 187, 0, 43, 89, 183, 0, 45, 58, 9, 25, 9, 21, 5, 182, 0, 46, 188, 8]
abbrev dktX1_write_3 : List UInt8 := dkwX1_write_3 ++ dktX1_write_4
def dkwX1_write_2 : List UInt8 := [58, 7, 25, 9, 42, 180, 0, 7, 21, 4, 21, 5, 25, 7, 3, 182, 0, 39, 54, 8, 167, 0, 88]
abbrev dktX1_write_2 : List UInt8 := dkwX1_write_2 ++ dktX1_write_3
def dkwX1_write_1 : List UInt8 := [21, 6, 154, 0, 44, 187, 0, 33, 89, 183, 0, 35, 58, 9, 25, 9, 21, 5, 182, 0, 36, 188, 8]
abbrev dktX1_write_1 : List UInt8 := dkwX1_write_1 ++ dktX1_write_2
def dkwX1_write_0 : List UInt8 := [42, 28, 182, 0, 24, 54, 4, 42, 21, 4, 29, 182, 0, 29, 54, 5, 27, 18, 28, 126, 6, 112, 54, 6]
abbrev dktX1_write_0 : List UInt8 := dkwX1_write_0 ++ dktX1_write_1
theorem dksX1_write_0 : cX1_write.data.toList.drop 0 = dktX1_write_0 := by decide +kernel
theorem dksX1_write_1 : cX1_write.data.toList.drop 24 = dktX1_write_1 := dk_seg dksX1_write_0 24 rfl rfl
theorem dksX1_write_2 : cX1_write.data.toList.drop 47 = dktX1_write_2 := dk_seg dksX1_write_1 23 rfl rfl
theorem dksX1_write_3 : cX1_write.data.toList.drop 70 = dktX1_write_3 := dk_seg dksX1_write_2 23 rfl rfl
theorem dksX1_write_4 : cX1_write.data.toList.drop 94 = dktX1_write_4 := dk_seg dksX1_write_3 24 rfl rfl
theorem dksX1_write_5 : cX1_write.data.toList.drop 117 = dktX1_write_5 := dk_seg dksX1_write_4 23 rfl rfl
theorem dksX1_write_6 : cX1_write.data.toList.drop 140 = dktX1_write_6 := dk_seg dksX1_write_5 23 rfl rfl
theorem dksX1_write_7 : cX1_write.data.toList.drop 164 = dktX1_write_7 := dk_seg dksX1_write_6 24 rfl rfl
theorem dX1_write_0 : decode cX1_write 0 = .ok (.aload_n 0, 1) := dk_42 (dk_at dksX1_write_0 0 rfl rfl)
theorem dX1_write_1 : decode cX1_write 1 = .ok (.iload_n 2, 1) := dk_28 (dk_at dksX1_write_0 1 rfl rfl)
theorem dX1_write_2 : decode cX1_write 2 = .ok (.invokevirtual 24, 3) := dk_182 0 24 (dk_at dksX1_write_0 2 rfl rfl)
theorem dX1_write_5 : decode cX1_write 5 = .ok (.istore 4, 2) := dk_54 4 (dk_at dksX1_write_0 5 rfl rfl)
theorem dX1_write_7 : decode cX1_write 7 = .ok (.aload_n 0, 1) := dk_42 (dk_at dksX1_write_0 7 rfl rfl)
theorem dX1_write_8 : decode cX1_write 8 = .ok (.iload 4, 2) := dk_21 4 (dk_at dksX1_write_0 8 rfl rfl)
theorem dX1_write_10 : decode cX1_write 10 = .ok (.iload_n 3, 1) := dk_29 (dk_at dksX1_write_0 10 rfl rfl)
theorem dX1_write_11 : decode cX1_write 11 = .ok (.invokevirtual 29, 3) := dk_182 0 29 (dk_at dksX1_write_0 11 rfl rfl)
theorem dX1_write_14 : decode cX1_write 14 = .ok (.istore 5, 2) := dk_54 5 (dk_at dksX1_write_0 14 rfl rfl)
theorem dX1_write_16 : decode cX1_write 16 = .ok (.iload_n 1, 1) := dk_27 (dk_at dksX1_write_0 16 rfl rfl)
theorem dX1_write_17 : decode cX1_write 17 = .ok (.ldc 28, 2) := dk_18 28 (dk_at dksX1_write_0 17 rfl rfl)
theorem dX1_write_19 : decode cX1_write 19 = .ok (.iand, 1) := dk_126 (dk_at dksX1_write_0 19 rfl rfl)
theorem dX1_write_20 : decode cX1_write 20 = .ok (.iconst 3, 1) := dk_6 (dk_at dksX1_write_0 20 rfl rfl)
theorem dX1_write_21 : decode cX1_write 21 = .ok (.irem, 1) := dk_112 (dk_at dksX1_write_0 21 rfl rfl)
theorem dX1_write_22 : decode cX1_write 22 = .ok (.istore 6, 2) := dk_54 6 (dk_at dksX1_write_0 22 rfl rfl)
theorem dX1_write_24 : decode cX1_write 24 = .ok (.iload 6, 2) := dk_21 6 (dk_at dksX1_write_1 0 rfl rfl)
theorem dX1_write_26 : decode cX1_write 26 = .ok (.ifCond .ne 44, 3) := dk_154 0 44 (dk_at dksX1_write_1 2 rfl rfl)
theorem dX1_write_29 : decode cX1_write 29 = .ok (.new 33, 3) := dk_187 0 33 (dk_at dksX1_write_1 5 rfl rfl)
theorem dX1_write_32 : decode cX1_write 32 = .ok (.dup, 1) := dk_89 (dk_at dksX1_write_1 8 rfl rfl)
theorem dX1_write_33 : decode cX1_write 33 = .ok (.invokespecial 35, 3) := dk_183 0 35 (dk_at dksX1_write_1 9 rfl rfl)
theorem dX1_write_36 : decode cX1_write 36 = .ok (.astore 9, 2) := dk_58 9 (dk_at dksX1_write_1 12 rfl rfl)
theorem dX1_write_38 : decode cX1_write 38 = .ok (.aload 9, 2) := dk_25 9 (dk_at dksX1_write_1 14 rfl rfl)
theorem dX1_write_40 : decode cX1_write 40 = .ok (.iload 5, 2) := dk_21 5 (dk_at dksX1_write_1 16 rfl rfl)
theorem dX1_write_42 : decode cX1_write 42 = .ok (.invokevirtual 36, 3) := dk_182 0 36 (dk_at dksX1_write_1 18 rfl rfl)
theorem dX1_write_45 : decode cX1_write 45 = .ok (.newarray .byte, 2) := dk_188_8 (dk_at dksX1_write_1 21 rfl rfl)
theorem dX1_write_47 : decode cX1_write 47 = .ok (.astore 7, 2) := dk_58 7 (dk_at dksX1_write_2 0 rfl rfl)
theorem dX1_write_49 : decode cX1_write 49 = .ok (.aload 9, 2) := dk_25 9 (dk_at dksX1_write_2 2 rfl rfl)
theorem dX1_write_51 : decode cX1_write 51 = .ok (.aload_n 0, 1) := dk_42 (dk_at dksX1_write_2 4 rfl rfl)
theorem dX1_write_52 : decode cX1_write 52 = .ok (.getfield 7, 3) := dk_180 0 7 (dk_at dksX1_write_2 5 rfl rfl)
theorem dX1_write_55 : decode cX1_write 55 = .ok (.iload 4, 2) := dk_21 4 (dk_at dksX1_write_2 8 rfl rfl)
theorem dX1_write_57 : decode cX1_write 57 = .ok (.iload 5, 2) := dk_21 5 (dk_at dksX1_write_2 10 rfl rfl)
theorem dX1_write_59 : decode cX1_write 59 = .ok (.aload 7, 2) := dk_25 7 (dk_at dksX1_write_2 12 rfl rfl)
theorem dX1_write_61 : decode cX1_write 61 = .ok (.iconst 0, 1) := dk_3 (dk_at dksX1_write_2 14 rfl rfl)
theorem dX1_write_62 : decode cX1_write 62 = .ok (.invokevirtual 39, 3) := dk_182 0 39 (dk_at dksX1_write_2 15 rfl rfl)
theorem dX1_write_65 : decode cX1_write 65 = .ok (.istore 8, 2) := dk_54 8 (dk_at dksX1_write_2 18 rfl rfl)
theorem dX1_write_67 : decode cX1_write 67 = .ok (.goto 88, 3) := dk_167 0 88 (dk_at dksX1_write_2 20 rfl rfl)
theorem dX1_write_70 : decode cX1_write 70 = .ok (.iload 6, 2) := dk_21 6 (dk_at dksX1_write_3 0 rfl rfl)
theorem dX1_write_72 : decode cX1_write 72 = .ok (.iconst 1, 1) := dk_4 (dk_at dksX1_write_3 2 rfl rfl)
theorem dX1_write_73 : decode cX1_write 73 = .ok (.if_icmp .ne 44, 3) := dk_160 0 44 (dk_at dksX1_write_3 3 rfl rfl)
theorem dX1_write_76 : decode cX1_write 76 = .ok (.new 43, 3) := dk_187 0 43 (dk_at dksX1_write_3 6 rfl rfl)
theorem dX1_write_79 : decode cX1_write 79 = .ok (.dup, 1) := dk_89 (dk_at dksX1_write_3 9 rfl rfl)
theorem dX1_write_80 : decode cX1_write 80 = .ok (.invokespecial 45, 3) := dk_183 0 45 (dk_at dksX1_write_3 10 rfl rfl)
theorem dX1_write_83 : decode cX1_write 83 = .ok (.astore 9, 2) := dk_58 9 (dk_at dksX1_write_3 13 rfl rfl)
theorem dX1_write_85 : decode cX1_write 85 = .ok (.aload 9, 2) := dk_25 9 (dk_at dksX1_write_3 15 rfl rfl)
theorem dX1_write_87 : decode cX1_write 87 = .ok (.iload 5, 2) := dk_21 5 (dk_at dksX1_write_3 17 rfl rfl)
theorem dX1_write_89 : decode cX1_write 89 = .ok (.invokevirtual 46, 3) := dk_182 0 46 (dk_at dksX1_write_3 19 rfl rfl)
theorem dX1_write_92 : decode cX1_write 92 = .ok (.newarray .byte, 2) := dk_188_8 (dk_at dksX1_write_3 22 rfl rfl)
theorem dX1_write_94 : decode cX1_write 94 = .ok (.astore 7, 2) := dk_58 7 (dk_at dksX1_write_4 0 rfl rfl)
theorem dX1_write_96 : decode cX1_write 96 = .ok (.aload 9, 2) := dk_25 9 (dk_at dksX1_write_4 2 rfl rfl)
theorem dX1_write_98 : decode cX1_write 98 = .ok (.aload_n 0, 1) := dk_42 (dk_at dksX1_write_4 4 rfl rfl)
theorem dX1_write_99 : decode cX1_write 99 = .ok (.getfield 7, 3) := dk_180 0 7 (dk_at dksX1_write_4 5 rfl rfl)
theorem dX1_write_102 : decode cX1_write 102 = .ok (.iload 4, 2) := dk_21 4 (dk_at dksX1_write_4 8 rfl rfl)
theorem dX1_write_104 : decode cX1_write 104 = .ok (.iload 5, 2) := dk_21 5 (dk_at dksX1_write_4 10 rfl rfl)
theorem dX1_write_106 : decode cX1_write 106 = .ok (.aload 7, 2) := dk_25 7 (dk_at dksX1_write_4 12 rfl rfl)
theorem dX1_write_108 : decode cX1_write 108 = .ok (.iconst 0, 1) := dk_3 (dk_at dksX1_write_4 14 rfl rfl)
theorem dX1_write_109 : decode cX1_write 109 = .ok (.invokevirtual 47, 3) := dk_182 0 47 (dk_at dksX1_write_4 15 rfl rfl)
theorem dX1_write_112 : decode cX1_write 112 = .ok (.istore 8, 2) := dk_54 8 (dk_at dksX1_write_4 18 rfl rfl)
theorem dX1_write_114 : decode cX1_write 114 = .ok (.goto 41, 3) := dk_167 0 41 (dk_at dksX1_write_4 20 rfl rfl)
theorem dX1_write_117 : decode cX1_write 117 = .ok (.new 48, 3) := dk_187 0 48 (dk_at dksX1_write_5 0 rfl rfl)
theorem dX1_write_120 : decode cX1_write 120 = .ok (.dup, 1) := dk_89 (dk_at dksX1_write_5 3 rfl rfl)
theorem dX1_write_121 : decode cX1_write 121 = .ok (.invokespecial 50, 3) := dk_183 0 50 (dk_at dksX1_write_5 4 rfl rfl)
theorem dX1_write_124 : decode cX1_write 124 = .ok (.astore 9, 2) := dk_58 9 (dk_at dksX1_write_5 7 rfl rfl)
theorem dX1_write_126 : decode cX1_write 126 = .ok (.aload 9, 2) := dk_25 9 (dk_at dksX1_write_5 9 rfl rfl)
theorem dX1_write_128 : decode cX1_write 128 = .ok (.iload 5, 2) := dk_21 5 (dk_at dksX1_write_5 11 rfl rfl)
theorem dX1_write_130 : decode cX1_write 130 = .ok (.invokevirtual 51, 3) := dk_182 0 51 (dk_at dksX1_write_5 13 rfl rfl)
theorem dX1_write_133 : decode cX1_write 133 = .ok (.newarray .byte, 2) := dk_188_8 (dk_at dksX1_write_5 16 rfl rfl)
theorem dX1_write_135 : decode cX1_write 135 = .ok (.astore 7, 2) := dk_58 7 (dk_at dksX1_write_5 18 rfl rfl)
theorem dX1_write_137 : decode cX1_write 137 = .ok (.aload 9, 2) := dk_25 9 (dk_at dksX1_write_5 20 rfl rfl)
theorem dX1_write_139 : decode cX1_write 139 = .ok (.aload_n 0, 1) := dk_42 (dk_at dksX1_write_5 22 rfl rfl)
theorem dX1_write_140 : decode cX1_write 140 = .ok (.getfield 7, 3) := dk_180 0 7 (dk_at dksX1_write_6 0 rfl rfl)
theorem dX1_write_143 : decode cX1_write 143 = .ok (.iload 4, 2) := dk_21 4 (dk_at dksX1_write_6 3 rfl rfl)
theorem dX1_write_145 : decode cX1_write 145 = .ok (.iload 5, 2) := dk_21 5 (dk_at dksX1_write_6 5 rfl rfl)
theorem dX1_write_147 : decode cX1_write 147 = .ok (.aload 7, 2) := dk_25 7 (dk_at dksX1_write_6 7 rfl rfl)
theorem dX1_write_149 : decode cX1_write 149 = .ok (.iconst 0, 1) := dk_3 (dk_at dksX1_write_6 9 rfl rfl)
theorem dX1_write_150 : decode cX1_write 150 = .ok (.invokevirtual 52, 3) := dk_182 0 52 (dk_at dksX1_write_6 10 rfl rfl)
theorem dX1_write_153 : decode cX1_write 153 = .ok (.istore 8, 2) := dk_54 8 (dk_at dksX1_write_6 13 rfl rfl)
theorem dX1_write_155 : decode cX1_write 155 = .ok (.aload_n 0, 1) := dk_42 (dk_at dksX1_write_6 15 rfl rfl)
theorem dX1_write_156 : decode cX1_write 156 = .ok (.aload 7, 2) := dk_25 7 (dk_at dksX1_write_6 16 rfl rfl)
theorem dX1_write_158 : decode cX1_write 158 = .ok (.putfield 13, 3) := dk_181 0 13 (dk_at dksX1_write_6 18 rfl rfl)
theorem dX1_write_161 : decode cX1_write 161 = .ok (.iload 8, 2) := dk_21 8 (dk_at dksX1_write_6 21 rfl rfl)
theorem dX1_write_163 : decode cX1_write 163 = .ok (.ireturn, 1) := dk_172 (dk_at dksX1_write_6 23 rfl rfl)
theorem dX1_write_164 : decode cX1_write 164 = .ok (.astore 7, 2) := dk_58 7 (dk_at dksX1_write_7 0 rfl rfl)
theorem dX1_write_166 : decode cX1_write 166 = .ok (.iconst (-1), 1) := dk_2 (dk_at dksX1_write_7 2 rfl rfl)
theorem dX1_write_167 : decode cX1_write 167 = .ok (.ireturn, 1) := dk_172 (dk_at dksX1_write_7 3 rfl rfl)
abbrev cX1_from : ByteArray := prog_4_method_5_code
def yX1_from : MethodName := ⟨RX1, "from", "(I)I"⟩
def dkwX1_from_0 : List UInt8 := [27, 18, 28, 126, 42, 180, 0, 16, 4, 96, 112, 172]
abbrev dktX1_from_0 : List UInt8 := dkwX1_from_0 ++ []
theorem dksX1_from_0 : cX1_from.data.toList.drop 0 = dktX1_from_0 := by decide +kernel
theorem dX1_from_0 : decode cX1_from 0 = .ok (.iload_n 1, 1) := dk_27 (dk_at dksX1_from_0 0 rfl rfl)
theorem dX1_from_1 : decode cX1_from 1 = .ok (.ldc 28, 2) := dk_18 28 (dk_at dksX1_from_0 1 rfl rfl)
theorem dX1_from_3 : decode cX1_from 3 = .ok (.iand, 1) := dk_126 (dk_at dksX1_from_0 3 rfl rfl)
theorem dX1_from_4 : decode cX1_from 4 = .ok (.aload_n 0, 1) := dk_42 (dk_at dksX1_from_0 4 rfl rfl)
theorem dX1_from_5 : decode cX1_from 5 = .ok (.getfield 16, 3) := dk_180 0 16 (dk_at dksX1_from_0 5 rfl rfl)
theorem dX1_from_8 : decode cX1_from 8 = .ok (.iconst 1, 1) := dk_4 (dk_at dksX1_from_0 8 rfl rfl)
theorem dX1_from_9 : decode cX1_from 9 = .ok (.iadd, 1) := dk_96 (dk_at dksX1_from_0 9 rfl rfl)
theorem dX1_from_10 : decode cX1_from 10 = .ok (.irem, 1) := dk_112 (dk_at dksX1_from_0 10 rfl rfl)
theorem dX1_from_11 : decode cX1_from 11 = .ok (.ireturn, 1) := dk_172 (dk_at dksX1_from_0 11 rfl rfl)
abbrev cX1_count : ByteArray := prog_4_method_6_code
def yX1_count : MethodName := ⟨RX1, "count", "(II)I"⟩
def dkwX1_count_0 : List UInt8 := [28, 18, 28, 126, 42, 180, 0, 16, 27, 100, 4, 96, 112, 172]
abbrev dktX1_count_0 : List UInt8 := dkwX1_count_0 ++ []
theorem dksX1_count_0 : cX1_count.data.toList.drop 0 = dktX1_count_0 := by decide +kernel
theorem dX1_count_0 : decode cX1_count 0 = .ok (.iload_n 2, 1) := dk_28 (dk_at dksX1_count_0 0 rfl rfl)
theorem dX1_count_1 : decode cX1_count 1 = .ok (.ldc 28, 2) := dk_18 28 (dk_at dksX1_count_0 1 rfl rfl)
theorem dX1_count_3 : decode cX1_count 3 = .ok (.iand, 1) := dk_126 (dk_at dksX1_count_0 3 rfl rfl)
theorem dX1_count_4 : decode cX1_count 4 = .ok (.aload_n 0, 1) := dk_42 (dk_at dksX1_count_0 4 rfl rfl)
theorem dX1_count_5 : decode cX1_count 5 = .ok (.getfield 16, 3) := dk_180 0 16 (dk_at dksX1_count_0 5 rfl rfl)
theorem dX1_count_8 : decode cX1_count 8 = .ok (.iload_n 1, 1) := dk_27 (dk_at dksX1_count_0 8 rfl rfl)
theorem dX1_count_9 : decode cX1_count 9 = .ok (.isub, 1) := dk_100 (dk_at dksX1_count_0 9 rfl rfl)
theorem dX1_count_10 : decode cX1_count 10 = .ok (.iconst 1, 1) := dk_4 (dk_at dksX1_count_0 10 rfl rfl)
theorem dX1_count_11 : decode cX1_count 11 = .ok (.iadd, 1) := dk_96 (dk_at dksX1_count_0 11 rfl rfl)
theorem dX1_count_12 : decode cX1_count 12 = .ok (.irem, 1) := dk_112 (dk_at dksX1_count_0 12 rfl rfl)
theorem dX1_count_13 : decode cX1_count 13 = .ok (.ireturn, 1) := dk_172 (dk_at dksX1_count_0 13 rfl rfl)
abbrev cX1_room : ByteArray := prog_4_method_9_code
def yX1_room : MethodName := ⟨RX1, "room", "(II)I"⟩
def dkwX1_room_2 : List UInt8 := [182, 0, 46, 167, 0, 17, 187, 0, 48, 89, 183, 0, 50, 28, 18, 55, 126, 182, 0, 51, 172]
abbrev dktX1_room_2 : List UInt8 := dkwX1_room_2 ++ []
def dkwX1_room_1 : List UInt8 := [182, 0, 36, 167, 0, 39, 29, 4, 160, 0, 20, 187, 0, 43, 89, 183, 0, 45, 28, 18, 55, 126]
abbrev dktX1_room_1 : List UInt8 := dkwX1_room_1 ++ dktX1_room_2
def dkwX1_room_0 : List UInt8 := [27, 18, 28, 126, 6, 112, 62, 29, 154, 0, 20, 187, 0, 33, 89, 183, 0, 35, 28, 18, 55, 126]
abbrev dktX1_room_0 : List UInt8 := dkwX1_room_0 ++ dktX1_room_1
theorem dksX1_room_0 : cX1_room.data.toList.drop 0 = dktX1_room_0 := by decide +kernel
theorem dksX1_room_1 : cX1_room.data.toList.drop 22 = dktX1_room_1 := dk_seg dksX1_room_0 22 rfl rfl
theorem dksX1_room_2 : cX1_room.data.toList.drop 44 = dktX1_room_2 := dk_seg dksX1_room_1 22 rfl rfl
theorem dX1_room_0 : decode cX1_room 0 = .ok (.iload_n 1, 1) := dk_27 (dk_at dksX1_room_0 0 rfl rfl)
theorem dX1_room_1 : decode cX1_room 1 = .ok (.ldc 28, 2) := dk_18 28 (dk_at dksX1_room_0 1 rfl rfl)
theorem dX1_room_3 : decode cX1_room 3 = .ok (.iand, 1) := dk_126 (dk_at dksX1_room_0 3 rfl rfl)
theorem dX1_room_4 : decode cX1_room 4 = .ok (.iconst 3, 1) := dk_6 (dk_at dksX1_room_0 4 rfl rfl)
theorem dX1_room_5 : decode cX1_room 5 = .ok (.irem, 1) := dk_112 (dk_at dksX1_room_0 5 rfl rfl)
theorem dX1_room_6 : decode cX1_room 6 = .ok (.istore_n 3, 1) := dk_62 (dk_at dksX1_room_0 6 rfl rfl)
theorem dX1_room_7 : decode cX1_room 7 = .ok (.iload_n 3, 1) := dk_29 (dk_at dksX1_room_0 7 rfl rfl)
theorem dX1_room_8 : decode cX1_room 8 = .ok (.ifCond .ne 20, 3) := dk_154 0 20 (dk_at dksX1_room_0 8 rfl rfl)
theorem dX1_room_11 : decode cX1_room 11 = .ok (.new 33, 3) := dk_187 0 33 (dk_at dksX1_room_0 11 rfl rfl)
theorem dX1_room_14 : decode cX1_room 14 = .ok (.dup, 1) := dk_89 (dk_at dksX1_room_0 14 rfl rfl)
theorem dX1_room_15 : decode cX1_room 15 = .ok (.invokespecial 35, 3) := dk_183 0 35 (dk_at dksX1_room_0 15 rfl rfl)
theorem dX1_room_18 : decode cX1_room 18 = .ok (.iload_n 2, 1) := dk_28 (dk_at dksX1_room_0 18 rfl rfl)
theorem dX1_room_19 : decode cX1_room 19 = .ok (.ldc 55, 2) := dk_18 55 (dk_at dksX1_room_0 19 rfl rfl)
theorem dX1_room_21 : decode cX1_room 21 = .ok (.iand, 1) := dk_126 (dk_at dksX1_room_0 21 rfl rfl)
theorem dX1_room_22 : decode cX1_room 22 = .ok (.invokevirtual 36, 3) := dk_182 0 36 (dk_at dksX1_room_1 0 rfl rfl)
theorem dX1_room_25 : decode cX1_room 25 = .ok (.goto 39, 3) := dk_167 0 39 (dk_at dksX1_room_1 3 rfl rfl)
theorem dX1_room_28 : decode cX1_room 28 = .ok (.iload_n 3, 1) := dk_29 (dk_at dksX1_room_1 6 rfl rfl)
theorem dX1_room_29 : decode cX1_room 29 = .ok (.iconst 1, 1) := dk_4 (dk_at dksX1_room_1 7 rfl rfl)
theorem dX1_room_30 : decode cX1_room 30 = .ok (.if_icmp .ne 20, 3) := dk_160 0 20 (dk_at dksX1_room_1 8 rfl rfl)
theorem dX1_room_33 : decode cX1_room 33 = .ok (.new 43, 3) := dk_187 0 43 (dk_at dksX1_room_1 11 rfl rfl)
theorem dX1_room_36 : decode cX1_room 36 = .ok (.dup, 1) := dk_89 (dk_at dksX1_room_1 14 rfl rfl)
theorem dX1_room_37 : decode cX1_room 37 = .ok (.invokespecial 45, 3) := dk_183 0 45 (dk_at dksX1_room_1 15 rfl rfl)
theorem dX1_room_40 : decode cX1_room 40 = .ok (.iload_n 2, 1) := dk_28 (dk_at dksX1_room_1 18 rfl rfl)
theorem dX1_room_41 : decode cX1_room 41 = .ok (.ldc 55, 2) := dk_18 55 (dk_at dksX1_room_1 19 rfl rfl)
theorem dX1_room_43 : decode cX1_room 43 = .ok (.iand, 1) := dk_126 (dk_at dksX1_room_1 21 rfl rfl)
theorem dX1_room_44 : decode cX1_room 44 = .ok (.invokevirtual 46, 3) := dk_182 0 46 (dk_at dksX1_room_2 0 rfl rfl)
theorem dX1_room_47 : decode cX1_room 47 = .ok (.goto 17, 3) := dk_167 0 17 (dk_at dksX1_room_2 3 rfl rfl)
theorem dX1_room_50 : decode cX1_room 50 = .ok (.new 48, 3) := dk_187 0 48 (dk_at dksX1_room_2 6 rfl rfl)
theorem dX1_room_53 : decode cX1_room 53 = .ok (.dup, 1) := dk_89 (dk_at dksX1_room_2 9 rfl rfl)
theorem dX1_room_54 : decode cX1_room 54 = .ok (.invokespecial 50, 3) := dk_183 0 50 (dk_at dksX1_room_2 10 rfl rfl)
theorem dX1_room_57 : decode cX1_room 57 = .ok (.iload_n 2, 1) := dk_28 (dk_at dksX1_room_2 13 rfl rfl)
theorem dX1_room_58 : decode cX1_room 58 = .ok (.ldc 55, 2) := dk_18 55 (dk_at dksX1_room_2 14 rfl rfl)
theorem dX1_room_60 : decode cX1_room 60 = .ok (.iand, 1) := dk_126 (dk_at dksX1_room_2 16 rfl rfl)
theorem dX1_room_61 : decode cX1_room 61 = .ok (.invokevirtual 51, 3) := dk_182 0 51 (dk_at dksX1_room_2 17 rfl rfl)
theorem dX1_room_64 : decode cX1_room 64 = .ok (.ireturn, 1) := dk_172 (dk_at dksX1_room_2 20 rfl rfl)
abbrev cX1_trim : ByteArray := prog_4_method_4_code
def yX1_trim : MethodName := ⟨RX1, "trim", "(I)V"⟩
def dkwX1_trim_0 : List UInt8 := [42, 42, 27, 182, 0, 24, 181, 0, 16, 177]
abbrev dktX1_trim_0 : List UInt8 := dkwX1_trim_0 ++ []
theorem dksX1_trim_0 : cX1_trim.data.toList.drop 0 = dktX1_trim_0 := by decide +kernel
theorem dX1_trim_0 : decode cX1_trim 0 = .ok (.aload_n 0, 1) := dk_42 (dk_at dksX1_trim_0 0 rfl rfl)
theorem dX1_trim_1 : decode cX1_trim 1 = .ok (.aload_n 0, 1) := dk_42 (dk_at dksX1_trim_0 1 rfl rfl)
theorem dX1_trim_2 : decode cX1_trim 2 = .ok (.iload_n 1, 1) := dk_27 (dk_at dksX1_trim_0 2 rfl rfl)
theorem dX1_trim_3 : decode cX1_trim 3 = .ok (.invokevirtual 24, 3) := dk_182 0 24 (dk_at dksX1_trim_0 3 rfl rfl)
theorem dX1_trim_6 : decode cX1_trim 6 = .ok (.putfield 16, 3) := dk_181 0 16 (dk_at dksX1_trim_0 6 rfl rfl)
theorem dX1_trim_9 : decode cX1_trim 9 = .ok (.return_, 1) := dk_177 (dk_at dksX1_trim_0 9 rfl rfl)
theorem q4 : (Jvm.Cond.initialized "LetterDesk") ∈ lw_all := lw_g (lw_at lw_m0 1 rfl) rfl
theorem q11 : (Jvm.Cond.instantiable "LetterDesk" (3 : Nat)) ∈ lw_all := lw_g (lw_at lw_m0 8 rfl) rfl
theorem q13 : (Jvm.Cond.instanceMethod ({ cls := "LetterDesk", name := "<init>", desc := "()V" } : Jvm.MethodName)) ∈ lw_all := lw_g (lw_at lw_m0 10 rfl) rfl
theorem q14 : (Jvm.Cond.code ({ cls := "LetterDesk", name := "<init>", desc := "()V" } : Jvm.MethodName) prog_4_method_1_code (1 : Nat) (Option.none : Option Jvm.ClassFile.FieldType)) ∈ lw_all := lw_g (lw_at lw_m0 11 rfl) rfl
theorem q15 : (Jvm.Cond.methodLink "LetterDesk" (1 : Nat) ({ cls := "java/lang/Object", name := "<init>", desc := "()V" } : Jvm.MethodName)) ∈ lw_all := lw_g (lw_at lw_m0 12 rfl) rfl
theorem q18 : (Jvm.Cond.fieldLink "LetterDesk" (7 : Nat) "LetterDesk" "text" "[B") ∈ lw_all := lw_g (lw_at lw_m0 15 rfl) rfl
theorem q19 : (Jvm.Cond.fieldLink "LetterDesk" (16 : Nat) "LetterDesk" "size" "I") ∈ lw_all := lw_g (lw_at lw_m0 16 rfl) rfl
theorem q20 : (Jvm.Cond.fieldLink "LetterDesk" (13 : Nat) "LetterDesk" "out" "[B") ∈ lw_all := lw_g (lw_at lw_m0 17 rfl) rfl
theorem q21 : (Jvm.Cond.laysFinal "LetterDesk" "LetterDesk" "text" "[B") ∈ lw_all := lw_g (lw_at lw_m0 18 rfl) rfl
theorem q22 : (Jvm.Cond.soleField "LetterDesk" "text") ∈ lw_all := lw_g (lw_at lw_m0 19 rfl) rfl
theorem q23 : (Jvm.Cond.lays "LetterDesk" "LetterDesk" "size" "I") ∈ lw_all := lw_g (lw_at lw_m0 20 rfl) rfl
theorem q24 : (Jvm.Cond.soleField "LetterDesk" "size") ∈ lw_all := lw_g (lw_at lw_m0 21 rfl) rfl
theorem q25 : (Jvm.Cond.lays "LetterDesk" "LetterDesk" "out" "[B") ∈ lw_all := lw_g (lw_at lw_m0 22 rfl) rfl
theorem q26 : (Jvm.Cond.soleField "LetterDesk" "out") ∈ lw_all := lw_g (lw_at lw_m0 23 rfl) rfl
theorem q27 : (Jvm.Cond.superclass "LetterDesk" "java/lang/Object") ∈ lw_all := lw_g (lw_at lw_m0 24 rfl) rfl
theorem q55 : (Jvm.Cond.instanceMethod ({ cls := "LetterDesk", name := "put", desc := "(IIII)Z" } : Jvm.MethodName)) ∈ lw_all := lw_g (lw_at lw_m0 52 rfl) rfl
theorem q56 : (Jvm.Cond.selects "LetterDesk" ({ cls := "LetterDesk", name := "put", desc := "(IIII)Z" } : Jvm.MethodName) ({ cls := "LetterDesk", name := "put", desc := "(IIII)Z" } : Jvm.MethodName)) ∈ lw_all := lw_g (lw_at lw_m0 53 rfl) rfl
theorem q57 : (Jvm.Cond.code ({ cls := "LetterDesk", name := "put", desc := "(IIII)Z" } : Jvm.MethodName) prog_4_method_2_code (5 : Nat) (Option.some Jvm.ClassFile.FieldType.boolean)) ∈ lw_all := lw_g (lw_at lw_m0 54 rfl) rfl
theorem q58 : (Jvm.Cond.methodLink "LetterDesk" (20 : Nat) ({ cls := "LetterDesk", name := "word", desc := "([BII)V" } : Jvm.MethodName)) ∈ lw_all := lw_g (lw_at lw_m0 55 rfl) rfl
theorem q59 : (Jvm.Cond.static ({ cls := "LetterDesk", name := "word", desc := "([BII)V" } : Jvm.MethodName)) ∈ lw_all := lw_g (lw_at lw_m0 56 rfl) rfl
theorem q60 : (Jvm.Cond.code ({ cls := "LetterDesk", name := "word", desc := "([BII)V" } : Jvm.MethodName) prog_4_method_3_code (3 : Nat) (Option.none : Option Jvm.ClassFile.FieldType)) ∈ lw_all := lw_g (lw_at lw_m0 57 rfl) rfl
theorem q65 : (Jvm.Cond.instanceMethod ({ cls := "LetterDesk", name := "out", desc := "(I)I" } : Jvm.MethodName)) ∈ lw_all := lw_g (lw_at lw_m0 62 rfl) rfl
theorem q66 : (Jvm.Cond.selects "LetterDesk" ({ cls := "LetterDesk", name := "out", desc := "(I)I" } : Jvm.MethodName) ({ cls := "LetterDesk", name := "out", desc := "(I)I" } : Jvm.MethodName)) ∈ lw_all := lw_g (lw_at lw_m0 63 rfl) rfl
theorem q67 : (Jvm.Cond.code ({ cls := "LetterDesk", name := "out", desc := "(I)I" } : Jvm.MethodName) prog_4_method_10_code (2 : Nat) (Option.some Jvm.ClassFile.FieldType.int)) ∈ lw_all := lw_g (lw_at lw_m0 64 rfl) rfl
theorem q68 : (Jvm.Cond.constant "LetterDesk" (28 : Nat) (2147483647 : Int32)) ∈ lw_all := lw_g (lw_at lw_m0 65 rfl) rfl
theorem q71 : (Jvm.Cond.instanceMethod ({ cls := "LetterDesk", name := "length", desc := "()I" } : Jvm.MethodName)) ∈ lw_all := lw_g (lw_at lw_m0 68 rfl) rfl
theorem q72 : (Jvm.Cond.selects "LetterDesk" ({ cls := "LetterDesk", name := "length", desc := "()I" } : Jvm.MethodName) ({ cls := "LetterDesk", name := "length", desc := "()I" } : Jvm.MethodName)) ∈ lw_all := lw_g (lw_at lw_m0 69 rfl) rfl
theorem q73 : (Jvm.Cond.code ({ cls := "LetterDesk", name := "length", desc := "()I" } : Jvm.MethodName) prog_4_method_11_code (1 : Nat) (Option.some Jvm.ClassFile.FieldType.int)) ∈ lw_all := lw_g (lw_at lw_m0 70 rfl) rfl
theorem q75 : (Jvm.Cond.instanceMethod ({ cls := "LetterDesk", name := "whole", desc := "()J" } : Jvm.MethodName)) ∈ lw_all := lw_g (lw_at lw_m0 72 rfl) rfl
theorem q76 : (Jvm.Cond.selects "LetterDesk" ({ cls := "LetterDesk", name := "whole", desc := "()J" } : Jvm.MethodName) ({ cls := "LetterDesk", name := "whole", desc := "()J" } : Jvm.MethodName)) ∈ lw_all := lw_g (lw_at lw_m0 73 rfl) rfl
theorem q77 : (Jvm.Cond.code ({ cls := "LetterDesk", name := "whole", desc := "()J" } : Jvm.MethodName) prog_4_method_12_code (4 : Nat) (Option.some Jvm.ClassFile.FieldType.long)) ∈ lw_all := lw_g (lw_at lw_m0 74 rfl) rfl
theorem q78 : (Jvm.Cond.constantLong "LetterDesk" (56 : Nat) (31 : Int64)) ∈ lw_all := lw_g (lw_at lw_m0 75 rfl) rfl
theorem q102 : (Jvm.Cond.instanceMethod ({ cls := "LetterDesk", name := "write", desc := "(III)I" } : Jvm.MethodName)) ∈ lw_all := lw_g (lw_at lw_m0 99 rfl) rfl
theorem q103 : (Jvm.Cond.selects "LetterDesk" ({ cls := "LetterDesk", name := "write", desc := "(III)I" } : Jvm.MethodName) ({ cls := "LetterDesk", name := "write", desc := "(III)I" } : Jvm.MethodName)) ∈ lw_all := lw_g (lw_at lw_m0 100 rfl) rfl
theorem q104 : (Jvm.Cond.codeWith ({ cls := "LetterDesk", name := "write", desc := "(III)I" } : Jvm.MethodName) prog_4_method_8_code (10 : Nat) (Option.some Jvm.ClassFile.FieldType.int) [((24 : Nat), (163 : Nat), (164 : Nat), (53 : Nat))]) ∈ lw_all := lw_g (lw_at lw_m0 101 rfl) rfl
theorem q105 : (Jvm.Cond.classLink "LetterDesk" (53 : Nat) "java/io/IOException") ∈ lw_all := lw_g (lw_at lw_m0 102 rfl) rfl
theorem q106 : (Jvm.Cond.methodLink "LetterDesk" (24 : Nat) ({ cls := "LetterDesk", name := "from", desc := "(I)I" } : Jvm.MethodName)) ∈ lw_all := lw_g (lw_at lw_m0 103 rfl) rfl
theorem q107 : (Jvm.Cond.privateMethod ({ cls := "LetterDesk", name := "from", desc := "(I)I" } : Jvm.MethodName)) ∈ lw_tbl := lw_at lw_m0 104 rfl
theorem q108 : (Jvm.Cond.instanceMethod ({ cls := "LetterDesk", name := "from", desc := "(I)I" } : Jvm.MethodName)) ∈ lw_all := lw_g (lw_at lw_m0 105 rfl) rfl
theorem q109 : (Jvm.Cond.code ({ cls := "LetterDesk", name := "from", desc := "(I)I" } : Jvm.MethodName) prog_4_method_5_code (2 : Nat) (Option.some Jvm.ClassFile.FieldType.int)) ∈ lw_all := lw_g (lw_at lw_m0 106 rfl) rfl
theorem q110 : (Jvm.Cond.methodLink "LetterDesk" (29 : Nat) ({ cls := "LetterDesk", name := "count", desc := "(II)I" } : Jvm.MethodName)) ∈ lw_all := lw_g (lw_at lw_m0 107 rfl) rfl
theorem q111 : (Jvm.Cond.privateMethod ({ cls := "LetterDesk", name := "count", desc := "(II)I" } : Jvm.MethodName)) ∈ lw_tbl := lw_at lw_m0 108 rfl
theorem q112 : (Jvm.Cond.instanceMethod ({ cls := "LetterDesk", name := "count", desc := "(II)I" } : Jvm.MethodName)) ∈ lw_all := lw_g (lw_at lw_m0 109 rfl) rfl
theorem q113 : (Jvm.Cond.code ({ cls := "LetterDesk", name := "count", desc := "(II)I" } : Jvm.MethodName) prog_4_method_6_code (3 : Nat) (Option.some Jvm.ClassFile.FieldType.int)) ∈ lw_all := lw_g (lw_at lw_m0 110 rfl) rfl
theorem q114 : (Jvm.Cond.classLink "LetterDesk" (33 : Nat) "HexEncoder") ∈ lw_all := lw_g (lw_at lw_m0 111 rfl) rfl
theorem q116 : (Jvm.Cond.methodLink "LetterDesk" (35 : Nat) ({ cls := "HexEncoder", name := "<init>", desc := "()V" } : Jvm.MethodName)) ∈ lw_all := lw_g (lw_at lw_m0 113 rfl) rfl
theorem q131 : (Jvm.Cond.methodLink "LetterDesk" (36 : Nat) ({ cls := "HexEncoder", name := "getEncodedLength", desc := "(I)I" } : Jvm.MethodName)) ∈ lw_all := lw_g (lw_at lw_m0 128 rfl) rfl
theorem q135 : (Jvm.Cond.methodLink "LetterDesk" (39 : Nat) ({ cls := "HexEncoder", name := "encode", desc := "([BII[BI)I" } : Jvm.MethodName)) ∈ lw_all := lw_g (lw_at lw_m0 132 rfl) rfl
theorem q139 : (Jvm.Cond.classLink "LetterDesk" (43 : Nat) "Base64Encoder") ∈ lw_all := lw_g (lw_at lw_m0 136 rfl) rfl
theorem q141 : (Jvm.Cond.methodLink "LetterDesk" (45 : Nat) ({ cls := "Base64Encoder", name := "<init>", desc := "()V" } : Jvm.MethodName)) ∈ lw_all := lw_g (lw_at lw_m0 138 rfl) rfl
theorem q159 : (Jvm.Cond.methodLink "LetterDesk" (46 : Nat) ({ cls := "Base64Encoder", name := "getEncodedLength", desc := "(I)I" } : Jvm.MethodName)) ∈ lw_all := lw_g (lw_at lw_m0 156 rfl) rfl
theorem q163 : (Jvm.Cond.methodLink "LetterDesk" (47 : Nat) ({ cls := "Base64Encoder", name := "encode", desc := "([BII[BI)I" } : Jvm.MethodName)) ∈ lw_all := lw_g (lw_at lw_m0 160 rfl) rfl
theorem q167 : (Jvm.Cond.classLink "LetterDesk" (48 : Nat) "Base32Encoder") ∈ lw_all := lw_g (lw_at lw_m0 164 rfl) rfl
theorem q169 : (Jvm.Cond.methodLink "LetterDesk" (50 : Nat) ({ cls := "Base32Encoder", name := "<init>", desc := "()V" } : Jvm.MethodName)) ∈ lw_all := lw_g (lw_at lw_m0 166 rfl) rfl
theorem q189 : (Jvm.Cond.methodLink "LetterDesk" (51 : Nat) ({ cls := "Base32Encoder", name := "getEncodedLength", desc := "(I)I" } : Jvm.MethodName)) ∈ lw_all := lw_g (lw_at lw_m0 186 rfl) rfl
theorem q193 : (Jvm.Cond.methodLink "LetterDesk" (52 : Nat) ({ cls := "Base32Encoder", name := "encode", desc := "([BII[BI)I" } : Jvm.MethodName)) ∈ lw_all := lw_g (lw_at lw_m0 190 rfl) rfl
theorem q205 : (Jvm.Cond.instanceMethod ({ cls := "LetterDesk", name := "room", desc := "(II)I" } : Jvm.MethodName)) ∈ lw_all := lw_g (lw_at lw_m0 202 rfl) rfl
theorem q206 : (Jvm.Cond.selects "LetterDesk" ({ cls := "LetterDesk", name := "room", desc := "(II)I" } : Jvm.MethodName) ({ cls := "LetterDesk", name := "room", desc := "(II)I" } : Jvm.MethodName)) ∈ lw_all := lw_g (lw_at lw_m0 203 rfl) rfl
theorem q207 : (Jvm.Cond.code ({ cls := "LetterDesk", name := "room", desc := "(II)I" } : Jvm.MethodName) prog_4_method_9_code (4 : Nat) (Option.some Jvm.ClassFile.FieldType.int)) ∈ lw_all := lw_g (lw_at lw_m0 204 rfl) rfl
theorem q208 : (Jvm.Cond.constant "LetterDesk" (55 : Nat) (65535 : Int32)) ∈ lw_all := lw_g (lw_at lw_m0 205 rfl) rfl
theorem q213 : (Jvm.Cond.instanceMethod ({ cls := "LetterDesk", name := "trim", desc := "(I)V" } : Jvm.MethodName)) ∈ lw_all := lw_g (lw_at lw_m0 210 rfl) rfl
theorem q214 : (Jvm.Cond.selects "LetterDesk" ({ cls := "LetterDesk", name := "trim", desc := "(I)V" } : Jvm.MethodName) ({ cls := "LetterDesk", name := "trim", desc := "(I)V" } : Jvm.MethodName)) ∈ lw_all := lw_g (lw_at lw_m0 211 rfl) rfl
theorem q215 : (Jvm.Cond.code ({ cls := "LetterDesk", name := "trim", desc := "(I)V" } : Jvm.MethodName) prog_4_method_4_code (2 : Nat) (Option.none : Option Jvm.ClassFile.FieldType)) ∈ lw_all := lw_g (lw_at lw_m0 212 rfl) rfl
theorem in_X1 : ∀ w ∈ wsX10, w ∈ lw_all := lw_in wsX10 [21, 23, 25] (by decide +kernel) (by decide +kernel)
/-! LetterDeskLaw$Told -/
set_option maxRecDepth 100000
def RX2 : String := "LetterDeskLaw$Told"
def TX2 : u_T := fun k => match k with
  | 0 => ("LetterDeskLaw$Told", "text", "[I", true)
  | 1 => ("LetterDeskLaw$Told", "size", "I", false)
  | _ => ("LetterDeskLaw$Told", "out", "[I", false)
def tyX2 : Nat → FieldType := fun k => match k with
  | 0 => .array .int
  | 1 => .int
  | _ => .array .int
abbrev wsX20 : List Cond := u_ws RX2 TX2 3
theorem nmX2 : ∀ a, a < 3 → ∀ b, b < 3 → a ≠ b → (TX2 a).2.1 ≠ (TX2 b).2.1 := by decide +kernel
theorem tyX2_ok : ∀ k, k < 3 → parseFieldDescriptor (TX2 k).2.2.1 = some (tyX2 k) := by decide +kernel
abbrev cX2_init : ByteArray := prog_6_method_1_code
def yX2_init : MethodName := ⟨RX2, "<init>", "()V"⟩
def dkwX2_init_0 : List UInt8 := [42, 183, 0, 1, 42, 17, 1, 0, 188, 10, 181, 0, 7, 42, 3, 188, 10, 181, 0, 13, 177]
abbrev dktX2_init_0 : List UInt8 := dkwX2_init_0 ++ []
theorem dksX2_init_0 : cX2_init.data.toList.drop 0 = dktX2_init_0 := by decide +kernel
theorem dX2_init_0 : decode cX2_init 0 = .ok (.aload_n 0, 1) := dk_42 (dk_at dksX2_init_0 0 rfl rfl)
theorem dX2_init_1 : decode cX2_init 1 = .ok (.invokespecial 1, 3) := dk_183 0 1 (dk_at dksX2_init_0 1 rfl rfl)
theorem dX2_init_4 : decode cX2_init 4 = .ok (.aload_n 0, 1) := dk_42 (dk_at dksX2_init_0 4 rfl rfl)
theorem dX2_init_5 : decode cX2_init 5 = .ok (.sipush 256, 3) := dk_17 1 0 (dk_at dksX2_init_0 5 rfl rfl)
theorem dX2_init_8 : decode cX2_init 8 = .ok (.newarray .int, 2) := dk_188_10 (dk_at dksX2_init_0 8 rfl rfl)
theorem dX2_init_10 : decode cX2_init 10 = .ok (.putfield 7, 3) := dk_181 0 7 (dk_at dksX2_init_0 10 rfl rfl)
theorem dX2_init_13 : decode cX2_init 13 = .ok (.aload_n 0, 1) := dk_42 (dk_at dksX2_init_0 13 rfl rfl)
theorem dX2_init_14 : decode cX2_init 14 = .ok (.iconst 0, 1) := dk_3 (dk_at dksX2_init_0 14 rfl rfl)
theorem dX2_init_15 : decode cX2_init 15 = .ok (.newarray .int, 2) := dk_188_10 (dk_at dksX2_init_0 15 rfl rfl)
theorem dX2_init_17 : decode cX2_init 17 = .ok (.putfield 13, 3) := dk_181 0 13 (dk_at dksX2_init_0 17 rfl rfl)
theorem dX2_init_20 : decode cX2_init 20 = .ok (.return_, 1) := dk_177 (dk_at dksX2_init_0 20 rfl rfl)
theorem q5 : (Jvm.Cond.initialized "LetterDeskLaw$Told") ∈ lw_all := lw_g (lw_at lw_m0 2 rfl) rfl
theorem q30 : (Jvm.Cond.instantiable "LetterDeskLaw$Told" (3 : Nat)) ∈ lw_all := lw_g (lw_at lw_m0 27 rfl) rfl
theorem q32 : (Jvm.Cond.instanceMethod ({ cls := "LetterDeskLaw$Told", name := "<init>", desc := "()V" } : Jvm.MethodName)) ∈ lw_all := lw_g (lw_at lw_m0 29 rfl) rfl
theorem q33 : (Jvm.Cond.code ({ cls := "LetterDeskLaw$Told", name := "<init>", desc := "()V" } : Jvm.MethodName) prog_6_method_1_code (1 : Nat) (Option.none : Option Jvm.ClassFile.FieldType)) ∈ lw_all := lw_g (lw_at lw_m0 30 rfl) rfl
theorem q34 : (Jvm.Cond.methodLink "LetterDeskLaw$Told" (1 : Nat) ({ cls := "java/lang/Object", name := "<init>", desc := "()V" } : Jvm.MethodName)) ∈ lw_all := lw_g (lw_at lw_m0 31 rfl) rfl
theorem q35 : (Jvm.Cond.fieldLink "LetterDeskLaw$Told" (7 : Nat) "LetterDeskLaw$Told" "text" "[I") ∈ lw_all := lw_g (lw_at lw_m0 32 rfl) rfl
theorem q38 : (Jvm.Cond.fieldLink "LetterDeskLaw$Told" (13 : Nat) "LetterDeskLaw$Told" "out" "[I") ∈ lw_all := lw_g (lw_at lw_m0 35 rfl) rfl
theorem q40 : (Jvm.Cond.laysFinal "LetterDeskLaw$Told" "LetterDeskLaw$Told" "text" "[I") ∈ lw_all := lw_g (lw_at lw_m0 37 rfl) rfl
theorem q41 : (Jvm.Cond.soleField "LetterDeskLaw$Told" "text") ∈ lw_all := lw_g (lw_at lw_m0 38 rfl) rfl
theorem q42 : (Jvm.Cond.lays "LetterDeskLaw$Told" "LetterDeskLaw$Told" "size" "I") ∈ lw_all := lw_g (lw_at lw_m0 39 rfl) rfl
theorem q43 : (Jvm.Cond.soleField "LetterDeskLaw$Told" "size") ∈ lw_all := lw_g (lw_at lw_m0 40 rfl) rfl
theorem q44 : (Jvm.Cond.lays "LetterDeskLaw$Told" "LetterDeskLaw$Told" "out" "[I") ∈ lw_all := lw_g (lw_at lw_m0 41 rfl) rfl
theorem q45 : (Jvm.Cond.soleField "LetterDeskLaw$Told" "out") ∈ lw_all := lw_g (lw_at lw_m0 42 rfl) rfl
theorem q46 : (Jvm.Cond.superclass "LetterDeskLaw$Told" "java/lang/Object") ∈ lw_all := lw_g (lw_at lw_m0 43 rfl) rfl
theorem in_X2 : ∀ w ∈ wsX20, w ∈ lw_all := lw_in wsX20 [40, 42, 44] (by decide +kernel) (by decide +kernel)
/-! LetterDeskLaw -/
set_option maxRecDepth 100000
def RX0 : String := "LetterDeskLaw"
abbrev cX0_cell : ByteArray := method_2_code
def yX0_cell : MethodName := ⟨RX0, "cell", "([II)I"⟩
def dkwX0_cell_0 : List UInt8 := [27, 42, 190, 162, 0, 9, 42, 27, 46, 167, 0, 4, 3, 172]
abbrev dktX0_cell_0 : List UInt8 := dkwX0_cell_0 ++ []
theorem dksX0_cell_0 : cX0_cell.data.toList.drop 0 = dktX0_cell_0 := by decide +kernel
theorem dX0_cell_0 : decode cX0_cell 0 = .ok (.iload_n 1, 1) := dk_27 (dk_at dksX0_cell_0 0 rfl rfl)
theorem dX0_cell_1 : decode cX0_cell 1 = .ok (.aload_n 0, 1) := dk_42 (dk_at dksX0_cell_0 1 rfl rfl)
theorem dX0_cell_2 : decode cX0_cell 2 = .ok (.arraylength, 1) := dk_190 (dk_at dksX0_cell_0 2 rfl rfl)
theorem dX0_cell_3 : decode cX0_cell 3 = .ok (.if_icmp .ge 9, 3) := dk_162 0 9 (dk_at dksX0_cell_0 3 rfl rfl)
theorem dX0_cell_6 : decode cX0_cell 6 = .ok (.aload_n 0, 1) := dk_42 (dk_at dksX0_cell_0 6 rfl rfl)
theorem dX0_cell_7 : decode cX0_cell 7 = .ok (.iload_n 1, 1) := dk_27 (dk_at dksX0_cell_0 7 rfl rfl)
theorem dX0_cell_8 : decode cX0_cell 8 = .ok (.iaload, 1) := dk_46 (dk_at dksX0_cell_0 8 rfl rfl)
theorem dX0_cell_9 : decode cX0_cell 9 = .ok (.goto 4, 3) := dk_167 0 4 (dk_at dksX0_cell_0 9 rfl rfl)
theorem dX0_cell_12 : decode cX0_cell 12 = .ok (.iconst 0, 1) := dk_3 (dk_at dksX0_cell_0 12 rfl rfl)
theorem dX0_cell_13 : decode cX0_cell 13 = .ok (.ireturn, 1) := dk_172 (dk_at dksX0_cell_0 13 rfl rfl)
abbrev cX0_put : ByteArray := method_9_code
def yX0_put : MethodName := ⟨RX0, "put", "(LLetterDesk;LLetterDeskLaw$Told;IIII)Z"⟩
def dkwX0_put_6 : List UInt8 := [172]
abbrev dktX0_put_6 : List UInt8 := dkwX0_put_6 ++ []
def dkwX0_put_5 : List UInt8 := [96, 181, 0, 30, 42, 28, 29, 21, 4, 21, 5, 182, 0, 34, 21, 6, 160, 0, 7, 4, 167, 0, 4, 3]
abbrev dktX0_put_5 : List UInt8 := dkwX0_put_5 ++ dktX0_put_6
def dkwX0_put_4 : List UInt8 := [126, 79, 132, 7, 1, 167, 255, 179, 43, 89, 180, 0, 30, 21, 6, 153, 0, 8, 16, 16, 167, 0, 4, 3]
abbrev dktX0_put_4 : List UInt8 := dkwX0_put_4 ++ dktX0_put_5
def dkwX0_put_3 : List UInt8 := [162, 0, 8, 21, 4, 167, 0, 5, 21, 5, 16, 24, 21, 7, 7, 112, 16, 8, 104, 100, 122, 17, 0, 255]
abbrev dktX0_put_3 : List UInt8 := dkwX0_put_3 ++ dktX0_put_4
def dkwX0_put_2 : List UInt8 := [162, 0, 7, 28, 167, 0, 28, 21, 7, 16, 8, 162, 0, 7, 29, 167, 0, 17, 21, 7, 16, 12]
abbrev dktX0_put_2 : List UInt8 := dkwX0_put_2 ++ dktX0_put_3
def dkwX0_put_1 : List UInt8 := [153, 0, 78, 21, 7, 16, 16, 162, 0, 71, 43, 180, 0, 21, 43, 180, 0, 30, 21, 7, 96, 21, 7, 7]
abbrev dktX0_put_1 : List UInt8 := dkwX0_put_1 ++ dktX0_put_2
def dkwX0_put_0 : List UInt8 := [43, 180, 0, 30, 17, 0, 240, 163, 0, 7, 4, 167, 0, 4, 3, 54, 6, 3, 54, 7, 21, 6]
abbrev dktX0_put_0 : List UInt8 := dkwX0_put_0 ++ dktX0_put_1
theorem dksX0_put_0 : cX0_put.data.toList.drop 0 = dktX0_put_0 := by decide +kernel
theorem dksX0_put_1 : cX0_put.data.toList.drop 22 = dktX0_put_1 := dk_seg dksX0_put_0 22 rfl rfl
theorem dksX0_put_2 : cX0_put.data.toList.drop 46 = dktX0_put_2 := dk_seg dksX0_put_1 24 rfl rfl
theorem dksX0_put_3 : cX0_put.data.toList.drop 68 = dktX0_put_3 := dk_seg dksX0_put_2 22 rfl rfl
theorem dksX0_put_4 : cX0_put.data.toList.drop 92 = dktX0_put_4 := dk_seg dksX0_put_3 24 rfl rfl
theorem dksX0_put_5 : cX0_put.data.toList.drop 116 = dktX0_put_5 := dk_seg dksX0_put_4 24 rfl rfl
theorem dksX0_put_6 : cX0_put.data.toList.drop 140 = dktX0_put_6 := dk_seg dksX0_put_5 24 rfl rfl
theorem dX0_put_0 : decode cX0_put 0 = .ok (.aload_n 1, 1) := dk_43 (dk_at dksX0_put_0 0 rfl rfl)
theorem dX0_put_1 : decode cX0_put 1 = .ok (.getfield 30, 3) := dk_180 0 30 (dk_at dksX0_put_0 1 rfl rfl)
theorem dX0_put_4 : decode cX0_put 4 = .ok (.sipush 240, 3) := dk_17 0 240 (dk_at dksX0_put_0 4 rfl rfl)
theorem dX0_put_7 : decode cX0_put 7 = .ok (.if_icmp .gt 7, 3) := dk_163 0 7 (dk_at dksX0_put_0 7 rfl rfl)
theorem dX0_put_10 : decode cX0_put 10 = .ok (.iconst 1, 1) := dk_4 (dk_at dksX0_put_0 10 rfl rfl)
theorem dX0_put_11 : decode cX0_put 11 = .ok (.goto 4, 3) := dk_167 0 4 (dk_at dksX0_put_0 11 rfl rfl)
theorem dX0_put_14 : decode cX0_put 14 = .ok (.iconst 0, 1) := dk_3 (dk_at dksX0_put_0 14 rfl rfl)
theorem dX0_put_15 : decode cX0_put 15 = .ok (.istore 6, 2) := dk_54 6 (dk_at dksX0_put_0 15 rfl rfl)
theorem dX0_put_17 : decode cX0_put 17 = .ok (.iconst 0, 1) := dk_3 (dk_at dksX0_put_0 17 rfl rfl)
theorem dX0_put_18 : decode cX0_put 18 = .ok (.istore 7, 2) := dk_54 7 (dk_at dksX0_put_0 18 rfl rfl)
theorem dX0_put_20 : decode cX0_put 20 = .ok (.iload 6, 2) := dk_21 6 (dk_at dksX0_put_0 20 rfl rfl)
theorem dX0_put_22 : decode cX0_put 22 = .ok (.ifCond .eq 78, 3) := dk_153 0 78 (dk_at dksX0_put_1 0 rfl rfl)
theorem dX0_put_25 : decode cX0_put 25 = .ok (.iload 7, 2) := dk_21 7 (dk_at dksX0_put_1 3 rfl rfl)
theorem dX0_put_27 : decode cX0_put 27 = .ok (.bipush 16, 2) := dk_16 16 (dk_at dksX0_put_1 5 rfl rfl)
theorem dX0_put_29 : decode cX0_put 29 = .ok (.if_icmp .ge 71, 3) := dk_162 0 71 (dk_at dksX0_put_1 7 rfl rfl)
theorem dX0_put_32 : decode cX0_put 32 = .ok (.aload_n 1, 1) := dk_43 (dk_at dksX0_put_1 10 rfl rfl)
theorem dX0_put_33 : decode cX0_put 33 = .ok (.getfield 21, 3) := dk_180 0 21 (dk_at dksX0_put_1 11 rfl rfl)
theorem dX0_put_36 : decode cX0_put 36 = .ok (.aload_n 1, 1) := dk_43 (dk_at dksX0_put_1 14 rfl rfl)
theorem dX0_put_37 : decode cX0_put 37 = .ok (.getfield 30, 3) := dk_180 0 30 (dk_at dksX0_put_1 15 rfl rfl)
theorem dX0_put_40 : decode cX0_put 40 = .ok (.iload 7, 2) := dk_21 7 (dk_at dksX0_put_1 18 rfl rfl)
theorem dX0_put_42 : decode cX0_put 42 = .ok (.iadd, 1) := dk_96 (dk_at dksX0_put_1 20 rfl rfl)
theorem dX0_put_43 : decode cX0_put 43 = .ok (.iload 7, 2) := dk_21 7 (dk_at dksX0_put_1 21 rfl rfl)
theorem dX0_put_45 : decode cX0_put 45 = .ok (.iconst 4, 1) := dk_7 (dk_at dksX0_put_1 23 rfl rfl)
theorem dX0_put_46 : decode cX0_put 46 = .ok (.if_icmp .ge 7, 3) := dk_162 0 7 (dk_at dksX0_put_2 0 rfl rfl)
theorem dX0_put_49 : decode cX0_put 49 = .ok (.iload_n 2, 1) := dk_28 (dk_at dksX0_put_2 3 rfl rfl)
theorem dX0_put_50 : decode cX0_put 50 = .ok (.goto 28, 3) := dk_167 0 28 (dk_at dksX0_put_2 4 rfl rfl)
theorem dX0_put_53 : decode cX0_put 53 = .ok (.iload 7, 2) := dk_21 7 (dk_at dksX0_put_2 7 rfl rfl)
theorem dX0_put_55 : decode cX0_put 55 = .ok (.bipush 8, 2) := dk_16 8 (dk_at dksX0_put_2 9 rfl rfl)
theorem dX0_put_57 : decode cX0_put 57 = .ok (.if_icmp .ge 7, 3) := dk_162 0 7 (dk_at dksX0_put_2 11 rfl rfl)
theorem dX0_put_60 : decode cX0_put 60 = .ok (.iload_n 3, 1) := dk_29 (dk_at dksX0_put_2 14 rfl rfl)
theorem dX0_put_61 : decode cX0_put 61 = .ok (.goto 17, 3) := dk_167 0 17 (dk_at dksX0_put_2 15 rfl rfl)
theorem dX0_put_64 : decode cX0_put 64 = .ok (.iload 7, 2) := dk_21 7 (dk_at dksX0_put_2 18 rfl rfl)
theorem dX0_put_66 : decode cX0_put 66 = .ok (.bipush 12, 2) := dk_16 12 (dk_at dksX0_put_2 20 rfl rfl)
theorem dX0_put_68 : decode cX0_put 68 = .ok (.if_icmp .ge 8, 3) := dk_162 0 8 (dk_at dksX0_put_3 0 rfl rfl)
theorem dX0_put_71 : decode cX0_put 71 = .ok (.iload 4, 2) := dk_21 4 (dk_at dksX0_put_3 3 rfl rfl)
theorem dX0_put_73 : decode cX0_put 73 = .ok (.goto 5, 3) := dk_167 0 5 (dk_at dksX0_put_3 5 rfl rfl)
theorem dX0_put_76 : decode cX0_put 76 = .ok (.iload 5, 2) := dk_21 5 (dk_at dksX0_put_3 8 rfl rfl)
theorem dX0_put_78 : decode cX0_put 78 = .ok (.bipush 24, 2) := dk_16 24 (dk_at dksX0_put_3 10 rfl rfl)
theorem dX0_put_80 : decode cX0_put 80 = .ok (.iload 7, 2) := dk_21 7 (dk_at dksX0_put_3 12 rfl rfl)
theorem dX0_put_82 : decode cX0_put 82 = .ok (.iconst 4, 1) := dk_7 (dk_at dksX0_put_3 14 rfl rfl)
theorem dX0_put_83 : decode cX0_put 83 = .ok (.irem, 1) := dk_112 (dk_at dksX0_put_3 15 rfl rfl)
theorem dX0_put_84 : decode cX0_put 84 = .ok (.bipush 8, 2) := dk_16 8 (dk_at dksX0_put_3 16 rfl rfl)
theorem dX0_put_86 : decode cX0_put 86 = .ok (.imul, 1) := dk_104 (dk_at dksX0_put_3 18 rfl rfl)
theorem dX0_put_87 : decode cX0_put 87 = .ok (.isub, 1) := dk_100 (dk_at dksX0_put_3 19 rfl rfl)
theorem dX0_put_88 : decode cX0_put 88 = .ok (.ishr, 1) := dk_122 (dk_at dksX0_put_3 20 rfl rfl)
theorem dX0_put_89 : decode cX0_put 89 = .ok (.sipush 255, 3) := dk_17 0 255 (dk_at dksX0_put_3 21 rfl rfl)
theorem dX0_put_92 : decode cX0_put 92 = .ok (.iand, 1) := dk_126 (dk_at dksX0_put_4 0 rfl rfl)
theorem dX0_put_93 : decode cX0_put 93 = .ok (.iastore, 1) := dk_79 (dk_at dksX0_put_4 1 rfl rfl)
theorem dX0_put_94 : decode cX0_put 94 = .ok (.iinc 7 1, 3) := dk_132 7 1 (dk_at dksX0_put_4 2 rfl rfl)
theorem dX0_put_97 : decode cX0_put 97 = .ok (.goto (-77), 3) := dk_167 255 179 (dk_at dksX0_put_4 5 rfl rfl)
theorem dX0_put_100 : decode cX0_put 100 = .ok (.aload_n 1, 1) := dk_43 (dk_at dksX0_put_4 8 rfl rfl)
theorem dX0_put_101 : decode cX0_put 101 = .ok (.dup, 1) := dk_89 (dk_at dksX0_put_4 9 rfl rfl)
theorem dX0_put_102 : decode cX0_put 102 = .ok (.getfield 30, 3) := dk_180 0 30 (dk_at dksX0_put_4 10 rfl rfl)
theorem dX0_put_105 : decode cX0_put 105 = .ok (.iload 6, 2) := dk_21 6 (dk_at dksX0_put_4 13 rfl rfl)
theorem dX0_put_107 : decode cX0_put 107 = .ok (.ifCond .eq 8, 3) := dk_153 0 8 (dk_at dksX0_put_4 15 rfl rfl)
theorem dX0_put_110 : decode cX0_put 110 = .ok (.bipush 16, 2) := dk_16 16 (dk_at dksX0_put_4 18 rfl rfl)
theorem dX0_put_112 : decode cX0_put 112 = .ok (.goto 4, 3) := dk_167 0 4 (dk_at dksX0_put_4 20 rfl rfl)
theorem dX0_put_115 : decode cX0_put 115 = .ok (.iconst 0, 1) := dk_3 (dk_at dksX0_put_4 23 rfl rfl)
theorem dX0_put_116 : decode cX0_put 116 = .ok (.iadd, 1) := dk_96 (dk_at dksX0_put_5 0 rfl rfl)
theorem dX0_put_117 : decode cX0_put 117 = .ok (.putfield 30, 3) := dk_181 0 30 (dk_at dksX0_put_5 1 rfl rfl)
theorem dX0_put_120 : decode cX0_put 120 = .ok (.aload_n 0, 1) := dk_42 (dk_at dksX0_put_5 4 rfl rfl)
theorem dX0_put_121 : decode cX0_put 121 = .ok (.iload_n 2, 1) := dk_28 (dk_at dksX0_put_5 5 rfl rfl)
theorem dX0_put_122 : decode cX0_put 122 = .ok (.iload_n 3, 1) := dk_29 (dk_at dksX0_put_5 6 rfl rfl)
theorem dX0_put_123 : decode cX0_put 123 = .ok (.iload 4, 2) := dk_21 4 (dk_at dksX0_put_5 7 rfl rfl)
theorem dX0_put_125 : decode cX0_put 125 = .ok (.iload 5, 2) := dk_21 5 (dk_at dksX0_put_5 9 rfl rfl)
theorem dX0_put_127 : decode cX0_put 127 = .ok (.invokevirtual 34, 3) := dk_182 0 34 (dk_at dksX0_put_5 11 rfl rfl)
theorem dX0_put_130 : decode cX0_put 130 = .ok (.iload 6, 2) := dk_21 6 (dk_at dksX0_put_5 14 rfl rfl)
theorem dX0_put_132 : decode cX0_put 132 = .ok (.if_icmp .ne 7, 3) := dk_160 0 7 (dk_at dksX0_put_5 16 rfl rfl)
theorem dX0_put_135 : decode cX0_put 135 = .ok (.iconst 1, 1) := dk_4 (dk_at dksX0_put_5 19 rfl rfl)
theorem dX0_put_136 : decode cX0_put 136 = .ok (.goto 4, 3) := dk_167 0 4 (dk_at dksX0_put_5 20 rfl rfl)
theorem dX0_put_139 : decode cX0_put 139 = .ok (.iconst 0, 1) := dk_3 (dk_at dksX0_put_5 23 rfl rfl)
theorem dX0_put_140 : decode cX0_put 140 = .ok (.ireturn, 1) := dk_172 (dk_at dksX0_put_6 0 rfl rfl)
abbrev cX0_stand : ByteArray := method_10_code
def yX0_stand : MethodName := ⟨RX0, "stand", "(LLetterDesk;LLetterDeskLaw$Told;I)Z"⟩
def dkwX0_stand_4 : List UInt8 := [180, 0, 40, 28, 43, 180, 0, 40, 190, 184, 0, 55, 46, 160, 0, 7, 4, 167, 0, 4, 3, 172]
abbrev dktX0_stand_4 : List UInt8 := dkwX0_stand_4 ++ []
def dkwX0_stand_3 : List UInt8 := [33, 148, 154, 0, 41, 42, 28, 182, 0, 43, 43, 180, 0, 40, 190, 154, 0, 7, 2, 167, 0, 17, 43]
abbrev dktX0_stand_3 : List UInt8 := dkwX0_stand_3 ++ dktX0_stand_4
def dkwX0_stand_2 : List UInt8 := [97, 66, 132, 5, 1, 167, 255, 210, 42, 182, 0, 47, 43, 180, 0, 40, 190, 160, 0, 50, 42, 182, 0, 51]
abbrev dktX0_stand_2 : List UInt8 := dkwX0_stand_2 ++ dktX0_stand_3
def dkwX0_stand_1 : List UInt8 := [180, 0, 40, 21, 5, 46, 159, 0, 5, 3, 172, 33, 20, 0, 45, 105, 43, 180, 0, 40, 21, 5, 46, 133]
abbrev dktX0_stand_1 : List UInt8 := dkwX0_stand_1 ++ dktX0_stand_2
def dkwX0_stand_0 : List UInt8 := [9, 66, 3, 54, 5, 21, 5, 43, 180, 0, 40, 190, 162, 0, 42, 42, 21, 5, 182, 0, 43, 43]
abbrev dktX0_stand_0 : List UInt8 := dkwX0_stand_0 ++ dktX0_stand_1
theorem dksX0_stand_0 : cX0_stand.data.toList.drop 0 = dktX0_stand_0 := by decide +kernel
theorem dksX0_stand_1 : cX0_stand.data.toList.drop 22 = dktX0_stand_1 := dk_seg dksX0_stand_0 22 rfl rfl
theorem dksX0_stand_2 : cX0_stand.data.toList.drop 46 = dktX0_stand_2 := dk_seg dksX0_stand_1 24 rfl rfl
theorem dksX0_stand_3 : cX0_stand.data.toList.drop 70 = dktX0_stand_3 := dk_seg dksX0_stand_2 24 rfl rfl
theorem dksX0_stand_4 : cX0_stand.data.toList.drop 93 = dktX0_stand_4 := dk_seg dksX0_stand_3 23 rfl rfl
theorem dX0_stand_0 : decode cX0_stand 0 = .ok (.lconst 0, 1) := dk_9 (dk_at dksX0_stand_0 0 rfl rfl)
theorem dX0_stand_1 : decode cX0_stand 1 = .ok (.lstore_n 3, 1) := dk_66 (dk_at dksX0_stand_0 1 rfl rfl)
theorem dX0_stand_2 : decode cX0_stand 2 = .ok (.iconst 0, 1) := dk_3 (dk_at dksX0_stand_0 2 rfl rfl)
theorem dX0_stand_3 : decode cX0_stand 3 = .ok (.istore 5, 2) := dk_54 5 (dk_at dksX0_stand_0 3 rfl rfl)
theorem dX0_stand_5 : decode cX0_stand 5 = .ok (.iload 5, 2) := dk_21 5 (dk_at dksX0_stand_0 5 rfl rfl)
theorem dX0_stand_7 : decode cX0_stand 7 = .ok (.aload_n 1, 1) := dk_43 (dk_at dksX0_stand_0 7 rfl rfl)
theorem dX0_stand_8 : decode cX0_stand 8 = .ok (.getfield 40, 3) := dk_180 0 40 (dk_at dksX0_stand_0 8 rfl rfl)
theorem dX0_stand_11 : decode cX0_stand 11 = .ok (.arraylength, 1) := dk_190 (dk_at dksX0_stand_0 11 rfl rfl)
theorem dX0_stand_12 : decode cX0_stand 12 = .ok (.if_icmp .ge 42, 3) := dk_162 0 42 (dk_at dksX0_stand_0 12 rfl rfl)
theorem dX0_stand_15 : decode cX0_stand 15 = .ok (.aload_n 0, 1) := dk_42 (dk_at dksX0_stand_0 15 rfl rfl)
theorem dX0_stand_16 : decode cX0_stand 16 = .ok (.iload 5, 2) := dk_21 5 (dk_at dksX0_stand_0 16 rfl rfl)
theorem dX0_stand_18 : decode cX0_stand 18 = .ok (.invokevirtual 43, 3) := dk_182 0 43 (dk_at dksX0_stand_0 18 rfl rfl)
theorem dX0_stand_21 : decode cX0_stand 21 = .ok (.aload_n 1, 1) := dk_43 (dk_at dksX0_stand_0 21 rfl rfl)
theorem dX0_stand_22 : decode cX0_stand 22 = .ok (.getfield 40, 3) := dk_180 0 40 (dk_at dksX0_stand_1 0 rfl rfl)
theorem dX0_stand_25 : decode cX0_stand 25 = .ok (.iload 5, 2) := dk_21 5 (dk_at dksX0_stand_1 3 rfl rfl)
theorem dX0_stand_27 : decode cX0_stand 27 = .ok (.iaload, 1) := dk_46 (dk_at dksX0_stand_1 5 rfl rfl)
theorem dX0_stand_28 : decode cX0_stand 28 = .ok (.if_icmp .eq 5, 3) := dk_159 0 5 (dk_at dksX0_stand_1 6 rfl rfl)
theorem dX0_stand_31 : decode cX0_stand 31 = .ok (.iconst 0, 1) := dk_3 (dk_at dksX0_stand_1 9 rfl rfl)
theorem dX0_stand_32 : decode cX0_stand 32 = .ok (.ireturn, 1) := dk_172 (dk_at dksX0_stand_1 10 rfl rfl)
theorem dX0_stand_33 : decode cX0_stand 33 = .ok (.lload_n 3, 1) := dk_33 (dk_at dksX0_stand_1 11 rfl rfl)
theorem dX0_stand_34 : decode cX0_stand 34 = .ok (.ldc2_w 45, 3) := dk_20 0 45 (dk_at dksX0_stand_1 12 rfl rfl)
theorem dX0_stand_37 : decode cX0_stand 37 = .ok (.lmul, 1) := dk_105 (dk_at dksX0_stand_1 15 rfl rfl)
theorem dX0_stand_38 : decode cX0_stand 38 = .ok (.aload_n 1, 1) := dk_43 (dk_at dksX0_stand_1 16 rfl rfl)
theorem dX0_stand_39 : decode cX0_stand 39 = .ok (.getfield 40, 3) := dk_180 0 40 (dk_at dksX0_stand_1 17 rfl rfl)
theorem dX0_stand_42 : decode cX0_stand 42 = .ok (.iload 5, 2) := dk_21 5 (dk_at dksX0_stand_1 20 rfl rfl)
theorem dX0_stand_44 : decode cX0_stand 44 = .ok (.iaload, 1) := dk_46 (dk_at dksX0_stand_1 22 rfl rfl)
theorem dX0_stand_45 : decode cX0_stand 45 = .ok (.i2l, 1) := dk_133 (dk_at dksX0_stand_1 23 rfl rfl)
theorem dX0_stand_46 : decode cX0_stand 46 = .ok (.ladd, 1) := dk_97 (dk_at dksX0_stand_2 0 rfl rfl)
theorem dX0_stand_47 : decode cX0_stand 47 = .ok (.lstore_n 3, 1) := dk_66 (dk_at dksX0_stand_2 1 rfl rfl)
theorem dX0_stand_48 : decode cX0_stand 48 = .ok (.iinc 5 1, 3) := dk_132 5 1 (dk_at dksX0_stand_2 2 rfl rfl)
theorem dX0_stand_51 : decode cX0_stand 51 = .ok (.goto (-46), 3) := dk_167 255 210 (dk_at dksX0_stand_2 5 rfl rfl)
theorem dX0_stand_54 : decode cX0_stand 54 = .ok (.aload_n 0, 1) := dk_42 (dk_at dksX0_stand_2 8 rfl rfl)
theorem dX0_stand_55 : decode cX0_stand 55 = .ok (.invokevirtual 47, 3) := dk_182 0 47 (dk_at dksX0_stand_2 9 rfl rfl)
theorem dX0_stand_58 : decode cX0_stand 58 = .ok (.aload_n 1, 1) := dk_43 (dk_at dksX0_stand_2 12 rfl rfl)
theorem dX0_stand_59 : decode cX0_stand 59 = .ok (.getfield 40, 3) := dk_180 0 40 (dk_at dksX0_stand_2 13 rfl rfl)
theorem dX0_stand_62 : decode cX0_stand 62 = .ok (.arraylength, 1) := dk_190 (dk_at dksX0_stand_2 16 rfl rfl)
theorem dX0_stand_63 : decode cX0_stand 63 = .ok (.if_icmp .ne 50, 3) := dk_160 0 50 (dk_at dksX0_stand_2 17 rfl rfl)
theorem dX0_stand_66 : decode cX0_stand 66 = .ok (.aload_n 0, 1) := dk_42 (dk_at dksX0_stand_2 20 rfl rfl)
theorem dX0_stand_67 : decode cX0_stand 67 = .ok (.invokevirtual 51, 3) := dk_182 0 51 (dk_at dksX0_stand_2 21 rfl rfl)
theorem dX0_stand_70 : decode cX0_stand 70 = .ok (.lload_n 3, 1) := dk_33 (dk_at dksX0_stand_3 0 rfl rfl)
theorem dX0_stand_71 : decode cX0_stand 71 = .ok (.lcmp, 1) := dk_148 (dk_at dksX0_stand_3 1 rfl rfl)
theorem dX0_stand_72 : decode cX0_stand 72 = .ok (.ifCond .ne 41, 3) := dk_154 0 41 (dk_at dksX0_stand_3 2 rfl rfl)
theorem dX0_stand_75 : decode cX0_stand 75 = .ok (.aload_n 0, 1) := dk_42 (dk_at dksX0_stand_3 5 rfl rfl)
theorem dX0_stand_76 : decode cX0_stand 76 = .ok (.iload_n 2, 1) := dk_28 (dk_at dksX0_stand_3 6 rfl rfl)
theorem dX0_stand_77 : decode cX0_stand 77 = .ok (.invokevirtual 43, 3) := dk_182 0 43 (dk_at dksX0_stand_3 7 rfl rfl)
theorem dX0_stand_80 : decode cX0_stand 80 = .ok (.aload_n 1, 1) := dk_43 (dk_at dksX0_stand_3 10 rfl rfl)
theorem dX0_stand_81 : decode cX0_stand 81 = .ok (.getfield 40, 3) := dk_180 0 40 (dk_at dksX0_stand_3 11 rfl rfl)
theorem dX0_stand_84 : decode cX0_stand 84 = .ok (.arraylength, 1) := dk_190 (dk_at dksX0_stand_3 14 rfl rfl)
theorem dX0_stand_85 : decode cX0_stand 85 = .ok (.ifCond .ne 7, 3) := dk_154 0 7 (dk_at dksX0_stand_3 15 rfl rfl)
theorem dX0_stand_88 : decode cX0_stand 88 = .ok (.iconst (-1), 1) := dk_2 (dk_at dksX0_stand_3 18 rfl rfl)
theorem dX0_stand_89 : decode cX0_stand 89 = .ok (.goto 17, 3) := dk_167 0 17 (dk_at dksX0_stand_3 19 rfl rfl)
theorem dX0_stand_92 : decode cX0_stand 92 = .ok (.aload_n 1, 1) := dk_43 (dk_at dksX0_stand_3 22 rfl rfl)
theorem dX0_stand_93 : decode cX0_stand 93 = .ok (.getfield 40, 3) := dk_180 0 40 (dk_at dksX0_stand_4 0 rfl rfl)
theorem dX0_stand_96 : decode cX0_stand 96 = .ok (.iload_n 2, 1) := dk_28 (dk_at dksX0_stand_4 3 rfl rfl)
theorem dX0_stand_97 : decode cX0_stand 97 = .ok (.aload_n 1, 1) := dk_43 (dk_at dksX0_stand_4 4 rfl rfl)
theorem dX0_stand_98 : decode cX0_stand 98 = .ok (.getfield 40, 3) := dk_180 0 40 (dk_at dksX0_stand_4 5 rfl rfl)
theorem dX0_stand_101 : decode cX0_stand 101 = .ok (.arraylength, 1) := dk_190 (dk_at dksX0_stand_4 8 rfl rfl)
theorem dX0_stand_102 : decode cX0_stand 102 = .ok (.invokestatic 55, 3) := dk_184 0 55 (dk_at dksX0_stand_4 9 rfl rfl)
theorem dX0_stand_105 : decode cX0_stand 105 = .ok (.iaload, 1) := dk_46 (dk_at dksX0_stand_4 12 rfl rfl)
theorem dX0_stand_106 : decode cX0_stand 106 = .ok (.if_icmp .ne 7, 3) := dk_160 0 7 (dk_at dksX0_stand_4 13 rfl rfl)
theorem dX0_stand_109 : decode cX0_stand 109 = .ok (.iconst 1, 1) := dk_4 (dk_at dksX0_stand_4 16 rfl rfl)
theorem dX0_stand_110 : decode cX0_stand 110 = .ok (.goto 4, 3) := dk_167 0 4 (dk_at dksX0_stand_4 17 rfl rfl)
theorem dX0_stand_113 : decode cX0_stand 113 = .ok (.iconst 0, 1) := dk_3 (dk_at dksX0_stand_4 20 rfl rfl)
theorem dX0_stand_114 : decode cX0_stand 114 = .ok (.ireturn, 1) := dk_172 (dk_at dksX0_stand_4 21 rfl rfl)
abbrev cX0_mod : ByteArray := method_3_code
def yX0_mod : MethodName := ⟨RX0, "mod", "(II)I"⟩
def dkwX0_mod_0 : List UInt8 := [26, 18, 7, 126, 27, 112, 172]
abbrev dktX0_mod_0 : List UInt8 := dkwX0_mod_0 ++ []
theorem dksX0_mod_0 : cX0_mod.data.toList.drop 0 = dktX0_mod_0 := by decide +kernel
theorem dX0_mod_0 : decode cX0_mod 0 = .ok (.iload_n 0, 1) := dk_26 (dk_at dksX0_mod_0 0 rfl rfl)
theorem dX0_mod_1 : decode cX0_mod 1 = .ok (.ldc 7, 2) := dk_18 7 (dk_at dksX0_mod_0 1 rfl rfl)
theorem dX0_mod_3 : decode cX0_mod 3 = .ok (.iand, 1) := dk_126 (dk_at dksX0_mod_0 3 rfl rfl)
theorem dX0_mod_4 : decode cX0_mod 4 = .ok (.iload_n 1, 1) := dk_27 (dk_at dksX0_mod_0 4 rfl rfl)
theorem dX0_mod_5 : decode cX0_mod 5 = .ok (.irem, 1) := dk_112 (dk_at dksX0_mod_0 5 rfl rfl)
theorem dX0_mod_6 : decode cX0_mod 6 = .ok (.ireturn, 1) := dk_172 (dk_at dksX0_mod_0 6 rfl rfl)
abbrev cX0_write : ByteArray := method_11_code
def yX0_write : MethodName := ⟨RX0, "write", "(LLetterDesk;LLetterDeskLaw$Told;III)Z"⟩
def dkwX0_write_4 : List UInt8 := [3, 172]
abbrev dktX0_write_4 : List UInt8 := dkwX0_write_4 ++ []
def dkwX0_write_3 : List UInt8 := [182, 0, 66, 43, 180, 0, 40, 190, 160, 0, 16, 42, 43, 29, 184, 0, 67, 153, 0, 7, 4, 167, 0, 4]
abbrev dktX0_write_3 : List UInt8 := dkwX0_write_3 ++ dktX0_write_4
def dkwX0_write_2 : List UInt8 := [181, 0, 40, 42, 28, 29, 21, 4, 182, 0, 62, 43, 180, 0, 40, 190, 160, 0, 31, 42, 28, 21, 7]
abbrev dktX0_write_2 : List UInt8 := dkwX0_write_2 ++ dktX0_write_3
def dkwX0_write_1 : List UInt8 := [180, 0, 30, 21, 6, 100, 4, 96, 184, 0, 55, 54, 7, 43, 43, 21, 5, 21, 6, 21, 7, 184, 0, 58]
abbrev dktX0_write_1 : List UInt8 := dkwX0_write_1 ++ dktX0_write_2
def dkwX0_write_0 : List UInt8 := [28, 6, 184, 0, 55, 54, 5, 29, 43, 180, 0, 30, 4, 96, 184, 0, 55, 54, 6, 21, 4, 43]
abbrev dktX0_write_0 : List UInt8 := dkwX0_write_0 ++ dktX0_write_1
theorem dksX0_write_0 : cX0_write.data.toList.drop 0 = dktX0_write_0 := by decide +kernel
theorem dksX0_write_1 : cX0_write.data.toList.drop 22 = dktX0_write_1 := dk_seg dksX0_write_0 22 rfl rfl
theorem dksX0_write_2 : cX0_write.data.toList.drop 46 = dktX0_write_2 := dk_seg dksX0_write_1 24 rfl rfl
theorem dksX0_write_3 : cX0_write.data.toList.drop 69 = dktX0_write_3 := dk_seg dksX0_write_2 23 rfl rfl
theorem dksX0_write_4 : cX0_write.data.toList.drop 93 = dktX0_write_4 := dk_seg dksX0_write_3 24 rfl rfl
theorem dX0_write_0 : decode cX0_write 0 = .ok (.iload_n 2, 1) := dk_28 (dk_at dksX0_write_0 0 rfl rfl)
theorem dX0_write_1 : decode cX0_write 1 = .ok (.iconst 3, 1) := dk_6 (dk_at dksX0_write_0 1 rfl rfl)
theorem dX0_write_2 : decode cX0_write 2 = .ok (.invokestatic 55, 3) := dk_184 0 55 (dk_at dksX0_write_0 2 rfl rfl)
theorem dX0_write_5 : decode cX0_write 5 = .ok (.istore 5, 2) := dk_54 5 (dk_at dksX0_write_0 5 rfl rfl)
theorem dX0_write_7 : decode cX0_write 7 = .ok (.iload_n 3, 1) := dk_29 (dk_at dksX0_write_0 7 rfl rfl)
theorem dX0_write_8 : decode cX0_write 8 = .ok (.aload_n 1, 1) := dk_43 (dk_at dksX0_write_0 8 rfl rfl)
theorem dX0_write_9 : decode cX0_write 9 = .ok (.getfield 30, 3) := dk_180 0 30 (dk_at dksX0_write_0 9 rfl rfl)
theorem dX0_write_12 : decode cX0_write 12 = .ok (.iconst 1, 1) := dk_4 (dk_at dksX0_write_0 12 rfl rfl)
theorem dX0_write_13 : decode cX0_write 13 = .ok (.iadd, 1) := dk_96 (dk_at dksX0_write_0 13 rfl rfl)
theorem dX0_write_14 : decode cX0_write 14 = .ok (.invokestatic 55, 3) := dk_184 0 55 (dk_at dksX0_write_0 14 rfl rfl)
theorem dX0_write_17 : decode cX0_write 17 = .ok (.istore 6, 2) := dk_54 6 (dk_at dksX0_write_0 17 rfl rfl)
theorem dX0_write_19 : decode cX0_write 19 = .ok (.iload 4, 2) := dk_21 4 (dk_at dksX0_write_0 19 rfl rfl)
theorem dX0_write_21 : decode cX0_write 21 = .ok (.aload_n 1, 1) := dk_43 (dk_at dksX0_write_0 21 rfl rfl)
theorem dX0_write_22 : decode cX0_write 22 = .ok (.getfield 30, 3) := dk_180 0 30 (dk_at dksX0_write_1 0 rfl rfl)
theorem dX0_write_25 : decode cX0_write 25 = .ok (.iload 6, 2) := dk_21 6 (dk_at dksX0_write_1 3 rfl rfl)
theorem dX0_write_27 : decode cX0_write 27 = .ok (.isub, 1) := dk_100 (dk_at dksX0_write_1 5 rfl rfl)
theorem dX0_write_28 : decode cX0_write 28 = .ok (.iconst 1, 1) := dk_4 (dk_at dksX0_write_1 6 rfl rfl)
theorem dX0_write_29 : decode cX0_write 29 = .ok (.iadd, 1) := dk_96 (dk_at dksX0_write_1 7 rfl rfl)
theorem dX0_write_30 : decode cX0_write 30 = .ok (.invokestatic 55, 3) := dk_184 0 55 (dk_at dksX0_write_1 8 rfl rfl)
theorem dX0_write_33 : decode cX0_write 33 = .ok (.istore 7, 2) := dk_54 7 (dk_at dksX0_write_1 11 rfl rfl)
theorem dX0_write_35 : decode cX0_write 35 = .ok (.aload_n 1, 1) := dk_43 (dk_at dksX0_write_1 13 rfl rfl)
theorem dX0_write_36 : decode cX0_write 36 = .ok (.aload_n 1, 1) := dk_43 (dk_at dksX0_write_1 14 rfl rfl)
theorem dX0_write_37 : decode cX0_write 37 = .ok (.iload 5, 2) := dk_21 5 (dk_at dksX0_write_1 15 rfl rfl)
theorem dX0_write_39 : decode cX0_write 39 = .ok (.iload 6, 2) := dk_21 6 (dk_at dksX0_write_1 17 rfl rfl)
theorem dX0_write_41 : decode cX0_write 41 = .ok (.iload 7, 2) := dk_21 7 (dk_at dksX0_write_1 19 rfl rfl)
theorem dX0_write_43 : decode cX0_write 43 = .ok (.invokestatic 58, 3) := dk_184 0 58 (dk_at dksX0_write_1 21 rfl rfl)
theorem dX0_write_46 : decode cX0_write 46 = .ok (.putfield 40, 3) := dk_181 0 40 (dk_at dksX0_write_2 0 rfl rfl)
theorem dX0_write_49 : decode cX0_write 49 = .ok (.aload_n 0, 1) := dk_42 (dk_at dksX0_write_2 3 rfl rfl)
theorem dX0_write_50 : decode cX0_write 50 = .ok (.iload_n 2, 1) := dk_28 (dk_at dksX0_write_2 4 rfl rfl)
theorem dX0_write_51 : decode cX0_write 51 = .ok (.iload_n 3, 1) := dk_29 (dk_at dksX0_write_2 5 rfl rfl)
theorem dX0_write_52 : decode cX0_write 52 = .ok (.iload 4, 2) := dk_21 4 (dk_at dksX0_write_2 6 rfl rfl)
theorem dX0_write_54 : decode cX0_write 54 = .ok (.invokevirtual 62, 3) := dk_182 0 62 (dk_at dksX0_write_2 8 rfl rfl)
theorem dX0_write_57 : decode cX0_write 57 = .ok (.aload_n 1, 1) := dk_43 (dk_at dksX0_write_2 11 rfl rfl)
theorem dX0_write_58 : decode cX0_write 58 = .ok (.getfield 40, 3) := dk_180 0 40 (dk_at dksX0_write_2 12 rfl rfl)
theorem dX0_write_61 : decode cX0_write 61 = .ok (.arraylength, 1) := dk_190 (dk_at dksX0_write_2 15 rfl rfl)
theorem dX0_write_62 : decode cX0_write 62 = .ok (.if_icmp .ne 31, 3) := dk_160 0 31 (dk_at dksX0_write_2 16 rfl rfl)
theorem dX0_write_65 : decode cX0_write 65 = .ok (.aload_n 0, 1) := dk_42 (dk_at dksX0_write_2 19 rfl rfl)
theorem dX0_write_66 : decode cX0_write 66 = .ok (.iload_n 2, 1) := dk_28 (dk_at dksX0_write_2 20 rfl rfl)
theorem dX0_write_67 : decode cX0_write 67 = .ok (.iload 7, 2) := dk_21 7 (dk_at dksX0_write_2 21 rfl rfl)
theorem dX0_write_69 : decode cX0_write 69 = .ok (.invokevirtual 66, 3) := dk_182 0 66 (dk_at dksX0_write_3 0 rfl rfl)
theorem dX0_write_72 : decode cX0_write 72 = .ok (.aload_n 1, 1) := dk_43 (dk_at dksX0_write_3 3 rfl rfl)
theorem dX0_write_73 : decode cX0_write 73 = .ok (.getfield 40, 3) := dk_180 0 40 (dk_at dksX0_write_3 4 rfl rfl)
theorem dX0_write_76 : decode cX0_write 76 = .ok (.arraylength, 1) := dk_190 (dk_at dksX0_write_3 7 rfl rfl)
theorem dX0_write_77 : decode cX0_write 77 = .ok (.if_icmp .ne 16, 3) := dk_160 0 16 (dk_at dksX0_write_3 8 rfl rfl)
theorem dX0_write_80 : decode cX0_write 80 = .ok (.aload_n 0, 1) := dk_42 (dk_at dksX0_write_3 11 rfl rfl)
theorem dX0_write_81 : decode cX0_write 81 = .ok (.aload_n 1, 1) := dk_43 (dk_at dksX0_write_3 12 rfl rfl)
theorem dX0_write_82 : decode cX0_write 82 = .ok (.iload_n 3, 1) := dk_29 (dk_at dksX0_write_3 13 rfl rfl)
theorem dX0_write_83 : decode cX0_write 83 = .ok (.invokestatic 67, 3) := dk_184 0 67 (dk_at dksX0_write_3 14 rfl rfl)
theorem dX0_write_86 : decode cX0_write 86 = .ok (.ifCond .eq 7, 3) := dk_153 0 7 (dk_at dksX0_write_3 17 rfl rfl)
theorem dX0_write_89 : decode cX0_write 89 = .ok (.iconst 1, 1) := dk_4 (dk_at dksX0_write_3 20 rfl rfl)
theorem dX0_write_90 : decode cX0_write 90 = .ok (.goto 4, 3) := dk_167 0 4 (dk_at dksX0_write_3 21 rfl rfl)
theorem dX0_write_93 : decode cX0_write 93 = .ok (.iconst 0, 1) := dk_3 (dk_at dksX0_write_4 0 rfl rfl)
theorem dX0_write_94 : decode cX0_write 94 = .ok (.ireturn, 1) := dk_172 (dk_at dksX0_write_4 1 rfl rfl)
abbrev cX0_due : ByteArray := method_8_code
def yX0_due : MethodName := ⟨RX0, "due", "(LLetterDeskLaw$Told;III)[I"⟩
def dkwX0_due_5 : List UInt8 := [167, 0, 5, 16, 61, 79, 132, 5, 1, 167, 255, 140, 25, 4, 176]
abbrev dktX0_due_5 : List UInt8 := dkwX0_due_5 ++ []
def dkwX0_due_4 : List UInt8 := [25, 4, 21, 5, 21, 5, 27, 184, 0, 8, 104, 16, 8, 29, 104, 162, 0, 12, 27, 21, 6, 184, 0, 27]
abbrev dktX0_due_4 : List UInt8 := dkwX0_due_4 ++ dktX0_due_5
def dkwX0_due_3 : List UInt8 := [16, 7, 21, 7, 16, 8, 112, 100, 122, 4, 126, 167, 0, 4, 3, 96, 54, 6, 132, 7, 1, 167, 255, 196]
abbrev dktX0_due_3 : List UInt8 := dkwX0_due_3 ++ dktX0_due_4
def dkwX0_due_2 : List UInt8 := [21, 6, 104, 21, 7, 16, 8, 29, 104, 162, 0, 29, 42, 180, 0, 21, 28, 21, 7, 16, 8, 108, 96, 46]
abbrev dktX0_due_2 : List UInt8 := dkwX0_due_2 ++ dktX0_due_3
def dkwX0_due_1 : List UInt8 := [21, 5, 27, 184, 0, 8, 104, 54, 7, 21, 7, 21, 5, 4, 96, 27, 184, 0, 8, 104, 162, 0, 52, 5]
abbrev dktX0_due_1 : List UInt8 := dkwX0_due_1 ++ dktX0_due_2
def dkwX0_due_0 : List UInt8 := [27, 29, 184, 0, 17, 188, 10, 58, 4, 3, 54, 5, 21, 5, 25, 4, 190, 162, 0, 114, 3, 54, 6]
abbrev dktX0_due_0 : List UInt8 := dkwX0_due_0 ++ dktX0_due_1
theorem dksX0_due_0 : cX0_due.data.toList.drop 0 = dktX0_due_0 := by decide +kernel
theorem dksX0_due_1 : cX0_due.data.toList.drop 23 = dktX0_due_1 := dk_seg dksX0_due_0 23 rfl rfl
theorem dksX0_due_2 : cX0_due.data.toList.drop 47 = dktX0_due_2 := dk_seg dksX0_due_1 24 rfl rfl
theorem dksX0_due_3 : cX0_due.data.toList.drop 71 = dktX0_due_3 := dk_seg dksX0_due_2 24 rfl rfl
theorem dksX0_due_4 : cX0_due.data.toList.drop 95 = dktX0_due_4 := dk_seg dksX0_due_3 24 rfl rfl
theorem dksX0_due_5 : cX0_due.data.toList.drop 119 = dktX0_due_5 := dk_seg dksX0_due_4 24 rfl rfl
theorem dX0_due_0 : decode cX0_due 0 = .ok (.iload_n 1, 1) := dk_27 (dk_at dksX0_due_0 0 rfl rfl)
theorem dX0_due_1 : decode cX0_due 1 = .ok (.iload_n 3, 1) := dk_29 (dk_at dksX0_due_0 1 rfl rfl)
theorem dX0_due_2 : decode cX0_due 2 = .ok (.invokestatic 17, 3) := dk_184 0 17 (dk_at dksX0_due_0 2 rfl rfl)
theorem dX0_due_5 : decode cX0_due 5 = .ok (.newarray .int, 2) := dk_188_10 (dk_at dksX0_due_0 5 rfl rfl)
theorem dX0_due_7 : decode cX0_due 7 = .ok (.astore 4, 2) := dk_58 4 (dk_at dksX0_due_0 7 rfl rfl)
theorem dX0_due_9 : decode cX0_due 9 = .ok (.iconst 0, 1) := dk_3 (dk_at dksX0_due_0 9 rfl rfl)
theorem dX0_due_10 : decode cX0_due 10 = .ok (.istore 5, 2) := dk_54 5 (dk_at dksX0_due_0 10 rfl rfl)
theorem dX0_due_12 : decode cX0_due 12 = .ok (.iload 5, 2) := dk_21 5 (dk_at dksX0_due_0 12 rfl rfl)
theorem dX0_due_14 : decode cX0_due 14 = .ok (.aload 4, 2) := dk_25 4 (dk_at dksX0_due_0 14 rfl rfl)
theorem dX0_due_16 : decode cX0_due 16 = .ok (.arraylength, 1) := dk_190 (dk_at dksX0_due_0 16 rfl rfl)
theorem dX0_due_17 : decode cX0_due 17 = .ok (.if_icmp .ge 114, 3) := dk_162 0 114 (dk_at dksX0_due_0 17 rfl rfl)
theorem dX0_due_20 : decode cX0_due 20 = .ok (.iconst 0, 1) := dk_3 (dk_at dksX0_due_0 20 rfl rfl)
theorem dX0_due_21 : decode cX0_due 21 = .ok (.istore 6, 2) := dk_54 6 (dk_at dksX0_due_0 21 rfl rfl)
theorem dX0_due_23 : decode cX0_due 23 = .ok (.iload 5, 2) := dk_21 5 (dk_at dksX0_due_1 0 rfl rfl)
theorem dX0_due_25 : decode cX0_due 25 = .ok (.iload_n 1, 1) := dk_27 (dk_at dksX0_due_1 2 rfl rfl)
theorem dX0_due_26 : decode cX0_due 26 = .ok (.invokestatic 8, 3) := dk_184 0 8 (dk_at dksX0_due_1 3 rfl rfl)
theorem dX0_due_29 : decode cX0_due 29 = .ok (.imul, 1) := dk_104 (dk_at dksX0_due_1 6 rfl rfl)
theorem dX0_due_30 : decode cX0_due 30 = .ok (.istore 7, 2) := dk_54 7 (dk_at dksX0_due_1 7 rfl rfl)
theorem dX0_due_32 : decode cX0_due 32 = .ok (.iload 7, 2) := dk_21 7 (dk_at dksX0_due_1 9 rfl rfl)
theorem dX0_due_34 : decode cX0_due 34 = .ok (.iload 5, 2) := dk_21 5 (dk_at dksX0_due_1 11 rfl rfl)
theorem dX0_due_36 : decode cX0_due 36 = .ok (.iconst 1, 1) := dk_4 (dk_at dksX0_due_1 13 rfl rfl)
theorem dX0_due_37 : decode cX0_due 37 = .ok (.iadd, 1) := dk_96 (dk_at dksX0_due_1 14 rfl rfl)
theorem dX0_due_38 : decode cX0_due 38 = .ok (.iload_n 1, 1) := dk_27 (dk_at dksX0_due_1 15 rfl rfl)
theorem dX0_due_39 : decode cX0_due 39 = .ok (.invokestatic 8, 3) := dk_184 0 8 (dk_at dksX0_due_1 16 rfl rfl)
theorem dX0_due_42 : decode cX0_due 42 = .ok (.imul, 1) := dk_104 (dk_at dksX0_due_1 19 rfl rfl)
theorem dX0_due_43 : decode cX0_due 43 = .ok (.if_icmp .ge 52, 3) := dk_162 0 52 (dk_at dksX0_due_1 20 rfl rfl)
theorem dX0_due_46 : decode cX0_due 46 = .ok (.iconst 2, 1) := dk_5 (dk_at dksX0_due_1 23 rfl rfl)
theorem dX0_due_47 : decode cX0_due 47 = .ok (.iload 6, 2) := dk_21 6 (dk_at dksX0_due_2 0 rfl rfl)
theorem dX0_due_49 : decode cX0_due 49 = .ok (.imul, 1) := dk_104 (dk_at dksX0_due_2 2 rfl rfl)
theorem dX0_due_50 : decode cX0_due 50 = .ok (.iload 7, 2) := dk_21 7 (dk_at dksX0_due_2 3 rfl rfl)
theorem dX0_due_52 : decode cX0_due 52 = .ok (.bipush 8, 2) := dk_16 8 (dk_at dksX0_due_2 5 rfl rfl)
theorem dX0_due_54 : decode cX0_due 54 = .ok (.iload_n 3, 1) := dk_29 (dk_at dksX0_due_2 7 rfl rfl)
theorem dX0_due_55 : decode cX0_due 55 = .ok (.imul, 1) := dk_104 (dk_at dksX0_due_2 8 rfl rfl)
theorem dX0_due_56 : decode cX0_due 56 = .ok (.if_icmp .ge 29, 3) := dk_162 0 29 (dk_at dksX0_due_2 9 rfl rfl)
theorem dX0_due_59 : decode cX0_due 59 = .ok (.aload_n 0, 1) := dk_42 (dk_at dksX0_due_2 12 rfl rfl)
theorem dX0_due_60 : decode cX0_due 60 = .ok (.getfield 21, 3) := dk_180 0 21 (dk_at dksX0_due_2 13 rfl rfl)
theorem dX0_due_63 : decode cX0_due 63 = .ok (.iload_n 2, 1) := dk_28 (dk_at dksX0_due_2 16 rfl rfl)
theorem dX0_due_64 : decode cX0_due 64 = .ok (.iload 7, 2) := dk_21 7 (dk_at dksX0_due_2 17 rfl rfl)
theorem dX0_due_66 : decode cX0_due 66 = .ok (.bipush 8, 2) := dk_16 8 (dk_at dksX0_due_2 19 rfl rfl)
theorem dX0_due_68 : decode cX0_due 68 = .ok (.idiv, 1) := dk_108 (dk_at dksX0_due_2 21 rfl rfl)
theorem dX0_due_69 : decode cX0_due 69 = .ok (.iadd, 1) := dk_96 (dk_at dksX0_due_2 22 rfl rfl)
theorem dX0_due_70 : decode cX0_due 70 = .ok (.iaload, 1) := dk_46 (dk_at dksX0_due_2 23 rfl rfl)
theorem dX0_due_71 : decode cX0_due 71 = .ok (.bipush 7, 2) := dk_16 7 (dk_at dksX0_due_3 0 rfl rfl)
theorem dX0_due_73 : decode cX0_due 73 = .ok (.iload 7, 2) := dk_21 7 (dk_at dksX0_due_3 2 rfl rfl)
theorem dX0_due_75 : decode cX0_due 75 = .ok (.bipush 8, 2) := dk_16 8 (dk_at dksX0_due_3 4 rfl rfl)
theorem dX0_due_77 : decode cX0_due 77 = .ok (.irem, 1) := dk_112 (dk_at dksX0_due_3 6 rfl rfl)
theorem dX0_due_78 : decode cX0_due 78 = .ok (.isub, 1) := dk_100 (dk_at dksX0_due_3 7 rfl rfl)
theorem dX0_due_79 : decode cX0_due 79 = .ok (.ishr, 1) := dk_122 (dk_at dksX0_due_3 8 rfl rfl)
theorem dX0_due_80 : decode cX0_due 80 = .ok (.iconst 1, 1) := dk_4 (dk_at dksX0_due_3 9 rfl rfl)
theorem dX0_due_81 : decode cX0_due 81 = .ok (.iand, 1) := dk_126 (dk_at dksX0_due_3 10 rfl rfl)
theorem dX0_due_82 : decode cX0_due 82 = .ok (.goto 4, 3) := dk_167 0 4 (dk_at dksX0_due_3 11 rfl rfl)
theorem dX0_due_85 : decode cX0_due 85 = .ok (.iconst 0, 1) := dk_3 (dk_at dksX0_due_3 14 rfl rfl)
theorem dX0_due_86 : decode cX0_due 86 = .ok (.iadd, 1) := dk_96 (dk_at dksX0_due_3 15 rfl rfl)
theorem dX0_due_87 : decode cX0_due 87 = .ok (.istore 6, 2) := dk_54 6 (dk_at dksX0_due_3 16 rfl rfl)
theorem dX0_due_89 : decode cX0_due 89 = .ok (.iinc 7 1, 3) := dk_132 7 1 (dk_at dksX0_due_3 18 rfl rfl)
theorem dX0_due_92 : decode cX0_due 92 = .ok (.goto (-60), 3) := dk_167 255 196 (dk_at dksX0_due_3 21 rfl rfl)
theorem dX0_due_95 : decode cX0_due 95 = .ok (.aload 4, 2) := dk_25 4 (dk_at dksX0_due_4 0 rfl rfl)
theorem dX0_due_97 : decode cX0_due 97 = .ok (.iload 5, 2) := dk_21 5 (dk_at dksX0_due_4 2 rfl rfl)
theorem dX0_due_99 : decode cX0_due 99 = .ok (.iload 5, 2) := dk_21 5 (dk_at dksX0_due_4 4 rfl rfl)
theorem dX0_due_101 : decode cX0_due 101 = .ok (.iload_n 1, 1) := dk_27 (dk_at dksX0_due_4 6 rfl rfl)
theorem dX0_due_102 : decode cX0_due 102 = .ok (.invokestatic 8, 3) := dk_184 0 8 (dk_at dksX0_due_4 7 rfl rfl)
theorem dX0_due_105 : decode cX0_due 105 = .ok (.imul, 1) := dk_104 (dk_at dksX0_due_4 10 rfl rfl)
theorem dX0_due_106 : decode cX0_due 106 = .ok (.bipush 8, 2) := dk_16 8 (dk_at dksX0_due_4 11 rfl rfl)
theorem dX0_due_108 : decode cX0_due 108 = .ok (.iload_n 3, 1) := dk_29 (dk_at dksX0_due_4 13 rfl rfl)
theorem dX0_due_109 : decode cX0_due 109 = .ok (.imul, 1) := dk_104 (dk_at dksX0_due_4 14 rfl rfl)
theorem dX0_due_110 : decode cX0_due 110 = .ok (.if_icmp .ge 12, 3) := dk_162 0 12 (dk_at dksX0_due_4 15 rfl rfl)
theorem dX0_due_113 : decode cX0_due 113 = .ok (.iload_n 1, 1) := dk_27 (dk_at dksX0_due_4 18 rfl rfl)
theorem dX0_due_114 : decode cX0_due 114 = .ok (.iload 6, 2) := dk_21 6 (dk_at dksX0_due_4 19 rfl rfl)
theorem dX0_due_116 : decode cX0_due 116 = .ok (.invokestatic 27, 3) := dk_184 0 27 (dk_at dksX0_due_4 21 rfl rfl)
theorem dX0_due_119 : decode cX0_due 119 = .ok (.goto 5, 3) := dk_167 0 5 (dk_at dksX0_due_5 0 rfl rfl)
theorem dX0_due_122 : decode cX0_due 122 = .ok (.bipush 61, 2) := dk_16 61 (dk_at dksX0_due_5 3 rfl rfl)
theorem dX0_due_124 : decode cX0_due 124 = .ok (.iastore, 1) := dk_79 (dk_at dksX0_due_5 5 rfl rfl)
theorem dX0_due_125 : decode cX0_due 125 = .ok (.iinc 5 1, 3) := dk_132 5 1 (dk_at dksX0_due_5 6 rfl rfl)
theorem dX0_due_128 : decode cX0_due 128 = .ok (.goto (-116), 3) := dk_167 255 140 (dk_at dksX0_due_5 9 rfl rfl)
theorem dX0_due_131 : decode cX0_due 131 = .ok (.aload 4, 2) := dk_25 4 (dk_at dksX0_due_5 12 rfl rfl)
theorem dX0_due_133 : decode cX0_due 133 = .ok (.areturn, 1) := dk_176 (dk_at dksX0_due_5 14 rfl rfl)
abbrev cX0_room : ByteArray := method_7_code
def yX0_room : MethodName := ⟨RX0, "room", "(II)I"⟩
def dkwX0_room_1 : List UInt8 := [104, 108, 26, 184, 0, 14, 104, 172]
abbrev dktX0_room_1 : List UInt8 := dkwX0_room_1 ++ []
def dkwX0_room_0 : List UInt8 := [16, 8, 27, 104, 26, 184, 0, 8, 26, 184, 0, 14, 104, 96, 4, 100, 26, 184, 0, 8, 26, 184, 0, 14]
abbrev dktX0_room_0 : List UInt8 := dkwX0_room_0 ++ dktX0_room_1
theorem dksX0_room_0 : cX0_room.data.toList.drop 0 = dktX0_room_0 := by decide +kernel
theorem dksX0_room_1 : cX0_room.data.toList.drop 24 = dktX0_room_1 := dk_seg dksX0_room_0 24 rfl rfl
theorem dX0_room_0 : decode cX0_room 0 = .ok (.bipush 8, 2) := dk_16 8 (dk_at dksX0_room_0 0 rfl rfl)
theorem dX0_room_2 : decode cX0_room 2 = .ok (.iload_n 1, 1) := dk_27 (dk_at dksX0_room_0 2 rfl rfl)
theorem dX0_room_3 : decode cX0_room 3 = .ok (.imul, 1) := dk_104 (dk_at dksX0_room_0 3 rfl rfl)
theorem dX0_room_4 : decode cX0_room 4 = .ok (.iload_n 0, 1) := dk_26 (dk_at dksX0_room_0 4 rfl rfl)
theorem dX0_room_5 : decode cX0_room 5 = .ok (.invokestatic 8, 3) := dk_184 0 8 (dk_at dksX0_room_0 5 rfl rfl)
theorem dX0_room_8 : decode cX0_room 8 = .ok (.iload_n 0, 1) := dk_26 (dk_at dksX0_room_0 8 rfl rfl)
theorem dX0_room_9 : decode cX0_room 9 = .ok (.invokestatic 14, 3) := dk_184 0 14 (dk_at dksX0_room_0 9 rfl rfl)
theorem dX0_room_12 : decode cX0_room 12 = .ok (.imul, 1) := dk_104 (dk_at dksX0_room_0 12 rfl rfl)
theorem dX0_room_13 : decode cX0_room 13 = .ok (.iadd, 1) := dk_96 (dk_at dksX0_room_0 13 rfl rfl)
theorem dX0_room_14 : decode cX0_room 14 = .ok (.iconst 1, 1) := dk_4 (dk_at dksX0_room_0 14 rfl rfl)
theorem dX0_room_15 : decode cX0_room 15 = .ok (.isub, 1) := dk_100 (dk_at dksX0_room_0 15 rfl rfl)
theorem dX0_room_16 : decode cX0_room 16 = .ok (.iload_n 0, 1) := dk_26 (dk_at dksX0_room_0 16 rfl rfl)
theorem dX0_room_17 : decode cX0_room 17 = .ok (.invokestatic 8, 3) := dk_184 0 8 (dk_at dksX0_room_0 17 rfl rfl)
theorem dX0_room_20 : decode cX0_room 20 = .ok (.iload_n 0, 1) := dk_26 (dk_at dksX0_room_0 20 rfl rfl)
theorem dX0_room_21 : decode cX0_room 21 = .ok (.invokestatic 14, 3) := dk_184 0 14 (dk_at dksX0_room_0 21 rfl rfl)
theorem dX0_room_24 : decode cX0_room 24 = .ok (.imul, 1) := dk_104 (dk_at dksX0_room_1 0 rfl rfl)
theorem dX0_room_25 : decode cX0_room 25 = .ok (.idiv, 1) := dk_108 (dk_at dksX0_room_1 1 rfl rfl)
theorem dX0_room_26 : decode cX0_room 26 = .ok (.iload_n 0, 1) := dk_26 (dk_at dksX0_room_1 2 rfl rfl)
theorem dX0_room_27 : decode cX0_room 27 = .ok (.invokestatic 14, 3) := dk_184 0 14 (dk_at dksX0_room_1 3 rfl rfl)
theorem dX0_room_30 : decode cX0_room 30 = .ok (.imul, 1) := dk_104 (dk_at dksX0_room_1 6 rfl rfl)
theorem dX0_room_31 : decode cX0_room 31 = .ok (.ireturn, 1) := dk_172 (dk_at dksX0_room_1 7 rfl rfl)
abbrev cX0_bits : ByteArray := method_5_code
def yX0_bits : MethodName := ⟨RX0, "bits", "(I)I"⟩
def dkwX0_bits_0 : List UInt8 := [26, 154, 0, 7, 7, 167, 0, 14, 26, 4, 160, 0, 8, 16, 6, 167, 0, 4, 8, 172]
abbrev dktX0_bits_0 : List UInt8 := dkwX0_bits_0 ++ []
theorem dksX0_bits_0 : cX0_bits.data.toList.drop 0 = dktX0_bits_0 := by decide +kernel
theorem dX0_bits_0 : decode cX0_bits 0 = .ok (.iload_n 0, 1) := dk_26 (dk_at dksX0_bits_0 0 rfl rfl)
theorem dX0_bits_1 : decode cX0_bits 1 = .ok (.ifCond .ne 7, 3) := dk_154 0 7 (dk_at dksX0_bits_0 1 rfl rfl)
theorem dX0_bits_4 : decode cX0_bits 4 = .ok (.iconst 4, 1) := dk_7 (dk_at dksX0_bits_0 4 rfl rfl)
theorem dX0_bits_5 : decode cX0_bits 5 = .ok (.goto 14, 3) := dk_167 0 14 (dk_at dksX0_bits_0 5 rfl rfl)
theorem dX0_bits_8 : decode cX0_bits 8 = .ok (.iload_n 0, 1) := dk_26 (dk_at dksX0_bits_0 8 rfl rfl)
theorem dX0_bits_9 : decode cX0_bits 9 = .ok (.iconst 1, 1) := dk_4 (dk_at dksX0_bits_0 9 rfl rfl)
theorem dX0_bits_10 : decode cX0_bits 10 = .ok (.if_icmp .ne 8, 3) := dk_160 0 8 (dk_at dksX0_bits_0 10 rfl rfl)
theorem dX0_bits_13 : decode cX0_bits 13 = .ok (.bipush 6, 2) := dk_16 6 (dk_at dksX0_bits_0 13 rfl rfl)
theorem dX0_bits_15 : decode cX0_bits 15 = .ok (.goto 4, 3) := dk_167 0 4 (dk_at dksX0_bits_0 15 rfl rfl)
theorem dX0_bits_18 : decode cX0_bits 18 = .ok (.iconst 5, 1) := dk_8 (dk_at dksX0_bits_0 18 rfl rfl)
theorem dX0_bits_19 : decode cX0_bits 19 = .ok (.ireturn, 1) := dk_172 (dk_at dksX0_bits_0 19 rfl rfl)
abbrev cX0_group : ByteArray := method_6_code
def yX0_group : MethodName := ⟨RX0, "group", "(I)I"⟩
def dkwX0_group_0 : List UInt8 := [26, 154, 0, 7, 5, 167, 0, 14, 26, 4, 160, 0, 7, 7, 167, 0, 5, 16, 8, 172]
abbrev dktX0_group_0 : List UInt8 := dkwX0_group_0 ++ []
theorem dksX0_group_0 : cX0_group.data.toList.drop 0 = dktX0_group_0 := by decide +kernel
theorem dX0_group_0 : decode cX0_group 0 = .ok (.iload_n 0, 1) := dk_26 (dk_at dksX0_group_0 0 rfl rfl)
theorem dX0_group_1 : decode cX0_group 1 = .ok (.ifCond .ne 7, 3) := dk_154 0 7 (dk_at dksX0_group_0 1 rfl rfl)
theorem dX0_group_4 : decode cX0_group 4 = .ok (.iconst 2, 1) := dk_5 (dk_at dksX0_group_0 4 rfl rfl)
theorem dX0_group_5 : decode cX0_group 5 = .ok (.goto 14, 3) := dk_167 0 14 (dk_at dksX0_group_0 5 rfl rfl)
theorem dX0_group_8 : decode cX0_group 8 = .ok (.iload_n 0, 1) := dk_26 (dk_at dksX0_group_0 8 rfl rfl)
theorem dX0_group_9 : decode cX0_group 9 = .ok (.iconst 1, 1) := dk_4 (dk_at dksX0_group_0 9 rfl rfl)
theorem dX0_group_10 : decode cX0_group 10 = .ok (.if_icmp .ne 7, 3) := dk_160 0 7 (dk_at dksX0_group_0 10 rfl rfl)
theorem dX0_group_13 : decode cX0_group 13 = .ok (.iconst 4, 1) := dk_7 (dk_at dksX0_group_0 13 rfl rfl)
theorem dX0_group_14 : decode cX0_group 14 = .ok (.goto 5, 3) := dk_167 0 5 (dk_at dksX0_group_0 14 rfl rfl)
theorem dX0_group_17 : decode cX0_group 17 = .ok (.bipush 8, 2) := dk_16 8 (dk_at dksX0_group_0 17 rfl rfl)
theorem dX0_group_19 : decode cX0_group 19 = .ok (.ireturn, 1) := dk_172 (dk_at dksX0_group_0 19 rfl rfl)
abbrev cX0_sign : ByteArray := method_4_code
def yX0_sign : MethodName := ⟨RX0, "sign", "(II)I"⟩
def dkwX0_sign_4 : List UInt8 := [172]
abbrev dktX0_sign_4 : List UInt8 := dkwX0_sign_4 ++ []
def dkwX0_sign_3 : List UInt8 := [16, 62, 162, 0, 9, 27, 7, 100, 167, 0, 16, 27, 16, 62, 160, 0, 8, 16, 43, 167, 0, 5, 16, 47]
abbrev dktX0_sign_3 : List UInt8 := dkwX0_sign_3 ++ dktX0_sign_4
def dkwX0_sign_2 : List UInt8 := [162, 0, 10, 16, 65, 27, 96, 167, 0, 41, 27, 16, 52, 162, 0, 10, 16, 71, 27, 96, 167, 0, 28, 27]
abbrev dktX0_sign_2 : List UInt8 := dkwX0_sign_2 ++ dktX0_sign_3
def dkwX0_sign_1 : List UInt8 := [160, 0, 21, 27, 16, 26, 162, 0, 10, 16, 65, 27, 96, 167, 0, 7, 16, 24, 27, 96, 172, 27, 16, 26]
abbrev dktX0_sign_1 : List UInt8 := dkwX0_sign_1 ++ dktX0_sign_2
def dkwX0_sign_0 : List UInt8 := [26, 154, 0, 21, 27, 16, 10, 162, 0, 10, 16, 48, 27, 96, 167, 0, 7, 16, 87, 27, 96, 172, 26, 5]
abbrev dktX0_sign_0 : List UInt8 := dkwX0_sign_0 ++ dktX0_sign_1
theorem dksX0_sign_0 : cX0_sign.data.toList.drop 0 = dktX0_sign_0 := by decide +kernel
theorem dksX0_sign_1 : cX0_sign.data.toList.drop 24 = dktX0_sign_1 := dk_seg dksX0_sign_0 24 rfl rfl
theorem dksX0_sign_2 : cX0_sign.data.toList.drop 48 = dktX0_sign_2 := dk_seg dksX0_sign_1 24 rfl rfl
theorem dksX0_sign_3 : cX0_sign.data.toList.drop 72 = dktX0_sign_3 := dk_seg dksX0_sign_2 24 rfl rfl
theorem dksX0_sign_4 : cX0_sign.data.toList.drop 96 = dktX0_sign_4 := dk_seg dksX0_sign_3 24 rfl rfl
theorem dX0_sign_0 : decode cX0_sign 0 = .ok (.iload_n 0, 1) := dk_26 (dk_at dksX0_sign_0 0 rfl rfl)
theorem dX0_sign_1 : decode cX0_sign 1 = .ok (.ifCond .ne 21, 3) := dk_154 0 21 (dk_at dksX0_sign_0 1 rfl rfl)
theorem dX0_sign_4 : decode cX0_sign 4 = .ok (.iload_n 1, 1) := dk_27 (dk_at dksX0_sign_0 4 rfl rfl)
theorem dX0_sign_5 : decode cX0_sign 5 = .ok (.bipush 10, 2) := dk_16 10 (dk_at dksX0_sign_0 5 rfl rfl)
theorem dX0_sign_7 : decode cX0_sign 7 = .ok (.if_icmp .ge 10, 3) := dk_162 0 10 (dk_at dksX0_sign_0 7 rfl rfl)
theorem dX0_sign_10 : decode cX0_sign 10 = .ok (.bipush 48, 2) := dk_16 48 (dk_at dksX0_sign_0 10 rfl rfl)
theorem dX0_sign_12 : decode cX0_sign 12 = .ok (.iload_n 1, 1) := dk_27 (dk_at dksX0_sign_0 12 rfl rfl)
theorem dX0_sign_13 : decode cX0_sign 13 = .ok (.iadd, 1) := dk_96 (dk_at dksX0_sign_0 13 rfl rfl)
theorem dX0_sign_14 : decode cX0_sign 14 = .ok (.goto 7, 3) := dk_167 0 7 (dk_at dksX0_sign_0 14 rfl rfl)
theorem dX0_sign_17 : decode cX0_sign 17 = .ok (.bipush 87, 2) := dk_16 87 (dk_at dksX0_sign_0 17 rfl rfl)
theorem dX0_sign_19 : decode cX0_sign 19 = .ok (.iload_n 1, 1) := dk_27 (dk_at dksX0_sign_0 19 rfl rfl)
theorem dX0_sign_20 : decode cX0_sign 20 = .ok (.iadd, 1) := dk_96 (dk_at dksX0_sign_0 20 rfl rfl)
theorem dX0_sign_21 : decode cX0_sign 21 = .ok (.ireturn, 1) := dk_172 (dk_at dksX0_sign_0 21 rfl rfl)
theorem dX0_sign_22 : decode cX0_sign 22 = .ok (.iload_n 0, 1) := dk_26 (dk_at dksX0_sign_0 22 rfl rfl)
theorem dX0_sign_23 : decode cX0_sign 23 = .ok (.iconst 2, 1) := dk_5 (dk_at dksX0_sign_0 23 rfl rfl)
theorem dX0_sign_24 : decode cX0_sign 24 = .ok (.if_icmp .ne 21, 3) := dk_160 0 21 (dk_at dksX0_sign_1 0 rfl rfl)
theorem dX0_sign_27 : decode cX0_sign 27 = .ok (.iload_n 1, 1) := dk_27 (dk_at dksX0_sign_1 3 rfl rfl)
theorem dX0_sign_28 : decode cX0_sign 28 = .ok (.bipush 26, 2) := dk_16 26 (dk_at dksX0_sign_1 4 rfl rfl)
theorem dX0_sign_30 : decode cX0_sign 30 = .ok (.if_icmp .ge 10, 3) := dk_162 0 10 (dk_at dksX0_sign_1 6 rfl rfl)
theorem dX0_sign_33 : decode cX0_sign 33 = .ok (.bipush 65, 2) := dk_16 65 (dk_at dksX0_sign_1 9 rfl rfl)
theorem dX0_sign_35 : decode cX0_sign 35 = .ok (.iload_n 1, 1) := dk_27 (dk_at dksX0_sign_1 11 rfl rfl)
theorem dX0_sign_36 : decode cX0_sign 36 = .ok (.iadd, 1) := dk_96 (dk_at dksX0_sign_1 12 rfl rfl)
theorem dX0_sign_37 : decode cX0_sign 37 = .ok (.goto 7, 3) := dk_167 0 7 (dk_at dksX0_sign_1 13 rfl rfl)
theorem dX0_sign_40 : decode cX0_sign 40 = .ok (.bipush 24, 2) := dk_16 24 (dk_at dksX0_sign_1 16 rfl rfl)
theorem dX0_sign_42 : decode cX0_sign 42 = .ok (.iload_n 1, 1) := dk_27 (dk_at dksX0_sign_1 18 rfl rfl)
theorem dX0_sign_43 : decode cX0_sign 43 = .ok (.iadd, 1) := dk_96 (dk_at dksX0_sign_1 19 rfl rfl)
theorem dX0_sign_44 : decode cX0_sign 44 = .ok (.ireturn, 1) := dk_172 (dk_at dksX0_sign_1 20 rfl rfl)
theorem dX0_sign_45 : decode cX0_sign 45 = .ok (.iload_n 1, 1) := dk_27 (dk_at dksX0_sign_1 21 rfl rfl)
theorem dX0_sign_46 : decode cX0_sign 46 = .ok (.bipush 26, 2) := dk_16 26 (dk_at dksX0_sign_1 22 rfl rfl)
theorem dX0_sign_48 : decode cX0_sign 48 = .ok (.if_icmp .ge 10, 3) := dk_162 0 10 (dk_at dksX0_sign_2 0 rfl rfl)
theorem dX0_sign_51 : decode cX0_sign 51 = .ok (.bipush 65, 2) := dk_16 65 (dk_at dksX0_sign_2 3 rfl rfl)
theorem dX0_sign_53 : decode cX0_sign 53 = .ok (.iload_n 1, 1) := dk_27 (dk_at dksX0_sign_2 5 rfl rfl)
theorem dX0_sign_54 : decode cX0_sign 54 = .ok (.iadd, 1) := dk_96 (dk_at dksX0_sign_2 6 rfl rfl)
theorem dX0_sign_55 : decode cX0_sign 55 = .ok (.goto 41, 3) := dk_167 0 41 (dk_at dksX0_sign_2 7 rfl rfl)
theorem dX0_sign_58 : decode cX0_sign 58 = .ok (.iload_n 1, 1) := dk_27 (dk_at dksX0_sign_2 10 rfl rfl)
theorem dX0_sign_59 : decode cX0_sign 59 = .ok (.bipush 52, 2) := dk_16 52 (dk_at dksX0_sign_2 11 rfl rfl)
theorem dX0_sign_61 : decode cX0_sign 61 = .ok (.if_icmp .ge 10, 3) := dk_162 0 10 (dk_at dksX0_sign_2 13 rfl rfl)
theorem dX0_sign_64 : decode cX0_sign 64 = .ok (.bipush 71, 2) := dk_16 71 (dk_at dksX0_sign_2 16 rfl rfl)
theorem dX0_sign_66 : decode cX0_sign 66 = .ok (.iload_n 1, 1) := dk_27 (dk_at dksX0_sign_2 18 rfl rfl)
theorem dX0_sign_67 : decode cX0_sign 67 = .ok (.iadd, 1) := dk_96 (dk_at dksX0_sign_2 19 rfl rfl)
theorem dX0_sign_68 : decode cX0_sign 68 = .ok (.goto 28, 3) := dk_167 0 28 (dk_at dksX0_sign_2 20 rfl rfl)
theorem dX0_sign_71 : decode cX0_sign 71 = .ok (.iload_n 1, 1) := dk_27 (dk_at dksX0_sign_2 23 rfl rfl)
theorem dX0_sign_72 : decode cX0_sign 72 = .ok (.bipush 62, 2) := dk_16 62 (dk_at dksX0_sign_3 0 rfl rfl)
theorem dX0_sign_74 : decode cX0_sign 74 = .ok (.if_icmp .ge 9, 3) := dk_162 0 9 (dk_at dksX0_sign_3 2 rfl rfl)
theorem dX0_sign_77 : decode cX0_sign 77 = .ok (.iload_n 1, 1) := dk_27 (dk_at dksX0_sign_3 5 rfl rfl)
theorem dX0_sign_78 : decode cX0_sign 78 = .ok (.iconst 4, 1) := dk_7 (dk_at dksX0_sign_3 6 rfl rfl)
theorem dX0_sign_79 : decode cX0_sign 79 = .ok (.isub, 1) := dk_100 (dk_at dksX0_sign_3 7 rfl rfl)
theorem dX0_sign_80 : decode cX0_sign 80 = .ok (.goto 16, 3) := dk_167 0 16 (dk_at dksX0_sign_3 8 rfl rfl)
theorem dX0_sign_83 : decode cX0_sign 83 = .ok (.iload_n 1, 1) := dk_27 (dk_at dksX0_sign_3 11 rfl rfl)
theorem dX0_sign_84 : decode cX0_sign 84 = .ok (.bipush 62, 2) := dk_16 62 (dk_at dksX0_sign_3 12 rfl rfl)
theorem dX0_sign_86 : decode cX0_sign 86 = .ok (.if_icmp .ne 8, 3) := dk_160 0 8 (dk_at dksX0_sign_3 14 rfl rfl)
theorem dX0_sign_89 : decode cX0_sign 89 = .ok (.bipush 43, 2) := dk_16 43 (dk_at dksX0_sign_3 17 rfl rfl)
theorem dX0_sign_91 : decode cX0_sign 91 = .ok (.goto 5, 3) := dk_167 0 5 (dk_at dksX0_sign_3 19 rfl rfl)
theorem dX0_sign_94 : decode cX0_sign 94 = .ok (.bipush 47, 2) := dk_16 47 (dk_at dksX0_sign_3 22 rfl rfl)
theorem dX0_sign_96 : decode cX0_sign 96 = .ok (.ireturn, 1) := dk_172 (dk_at dksX0_sign_4 0 rfl rfl)
abbrev cX0_turn : ByteArray := method_12_code
def yX0_turn : MethodName := ⟨RX0, "turn", "(LLetterDesk;LLetterDeskLaw$Told;IIIIII)Z"⟩
def dkwX0_turn_6 : List UInt8 := [184, 0, 17, 160, 0, 17, 42, 43, 21, 7, 184, 0, 67, 153, 0, 7, 4, 167, 0, 4, 3, 172]
abbrev dktX0_turn_6 : List UInt8 := dkwX0_turn_6 ++ []
def dkwX0_turn_5 : List UInt8 := [153, 0, 42, 42, 21, 6, 21, 7, 182, 0, 66, 21, 6, 6, 184, 0, 55, 21, 7, 18, 81, 126]
abbrev dktX0_turn_5 : List UInt8 := dkwX0_turn_5 ++ dktX0_turn_6
def dkwX0_turn_4 : List UInt8 := [29, 182, 0, 74, 42, 43, 21, 7, 184, 0, 67, 172, 42, 43, 29, 21, 4, 21, 5, 184, 0, 78]
abbrev dktX0_turn_4 : List UInt8 := dkwX0_turn_4 ++ dktX0_turn_5
def dkwX0_turn_3 : List UInt8 := [153, 0, 7, 4, 167, 0, 4, 3, 172, 43, 29, 43, 180, 0, 30, 4, 96, 184, 0, 55, 181, 0, 30, 42]
abbrev dktX0_turn_3 : List UInt8 := dkwX0_turn_3 ++ dktX0_turn_4
def dkwX0_turn_2 : List UInt8 := [42, 43, 29, 21, 4, 21, 5, 21, 6, 184, 0, 71, 153, 0, 17, 42, 43, 21, 7, 184, 0, 67]
abbrev dktX0_turn_2 : List UInt8 := dkwX0_turn_2 ++ dktX0_turn_3
def dkwX0_turn_1 : List UInt8 := [171, 0, 0, 0, 83, 0, 0, 0, 2, 0, 0, 0, 0, 0, 0, 0, 25, 0, 0, 0, 1, 0, 0, 0, 56]
abbrev dktX0_turn_1 : List UInt8 := dkwX0_turn_1 ++ dktX0_turn_2
def dkwX0_turn_0 : List UInt8 := [28, 6, 126]
abbrev dktX0_turn_0 : List UInt8 := dkwX0_turn_0 ++ dktX0_turn_1
theorem dksX0_turn_0 : cX0_turn.data.toList.drop 0 = dktX0_turn_0 := by decide +kernel
theorem dksX0_turn_1 : cX0_turn.data.toList.drop 3 = dktX0_turn_1 := dk_seg dksX0_turn_0 3 rfl rfl
theorem dksX0_turn_2 : cX0_turn.data.toList.drop 28 = dktX0_turn_2 := dk_seg dksX0_turn_1 25 rfl rfl
theorem dksX0_turn_3 : cX0_turn.data.toList.drop 50 = dktX0_turn_3 := dk_seg dksX0_turn_2 22 rfl rfl
theorem dksX0_turn_4 : cX0_turn.data.toList.drop 74 = dktX0_turn_4 := dk_seg dksX0_turn_3 24 rfl rfl
theorem dksX0_turn_5 : cX0_turn.data.toList.drop 96 = dktX0_turn_5 := dk_seg dksX0_turn_4 22 rfl rfl
theorem dksX0_turn_6 : cX0_turn.data.toList.drop 118 = dktX0_turn_6 := dk_seg dksX0_turn_5 22 rfl rfl
theorem dX0_turn_0 : decode cX0_turn 0 = .ok (.iload_n 2, 1) := dk_28 (dk_at dksX0_turn_0 0 rfl rfl)
theorem dX0_turn_1 : decode cX0_turn 1 = .ok (.iconst 3, 1) := dk_6 (dk_at dksX0_turn_0 1 rfl rfl)
theorem dX0_turn_2 : decode cX0_turn 2 = .ok (.iand, 1) := dk_126 (dk_at dksX0_turn_0 2 rfl rfl)
theorem dX0_turn_3 : decode cX0_turn 3 = .ok (.lookupswitch 83 #[(0, 25), (1, 56)], 25) := by decide +kernel
theorem dX0_turn_28 : decode cX0_turn 28 = .ok (.aload_n 0, 1) := dk_42 (dk_at dksX0_turn_2 0 rfl rfl)
theorem dX0_turn_29 : decode cX0_turn 29 = .ok (.aload_n 1, 1) := dk_43 (dk_at dksX0_turn_2 1 rfl rfl)
theorem dX0_turn_30 : decode cX0_turn 30 = .ok (.iload_n 3, 1) := dk_29 (dk_at dksX0_turn_2 2 rfl rfl)
theorem dX0_turn_31 : decode cX0_turn 31 = .ok (.iload 4, 2) := dk_21 4 (dk_at dksX0_turn_2 3 rfl rfl)
theorem dX0_turn_33 : decode cX0_turn 33 = .ok (.iload 5, 2) := dk_21 5 (dk_at dksX0_turn_2 5 rfl rfl)
theorem dX0_turn_35 : decode cX0_turn 35 = .ok (.iload 6, 2) := dk_21 6 (dk_at dksX0_turn_2 7 rfl rfl)
theorem dX0_turn_37 : decode cX0_turn 37 = .ok (.invokestatic 71, 3) := dk_184 0 71 (dk_at dksX0_turn_2 9 rfl rfl)
theorem dX0_turn_40 : decode cX0_turn 40 = .ok (.ifCond .eq 17, 3) := dk_153 0 17 (dk_at dksX0_turn_2 12 rfl rfl)
theorem dX0_turn_43 : decode cX0_turn 43 = .ok (.aload_n 0, 1) := dk_42 (dk_at dksX0_turn_2 15 rfl rfl)
theorem dX0_turn_44 : decode cX0_turn 44 = .ok (.aload_n 1, 1) := dk_43 (dk_at dksX0_turn_2 16 rfl rfl)
theorem dX0_turn_45 : decode cX0_turn 45 = .ok (.iload 7, 2) := dk_21 7 (dk_at dksX0_turn_2 17 rfl rfl)
theorem dX0_turn_47 : decode cX0_turn 47 = .ok (.invokestatic 67, 3) := dk_184 0 67 (dk_at dksX0_turn_2 19 rfl rfl)
theorem dX0_turn_50 : decode cX0_turn 50 = .ok (.ifCond .eq 7, 3) := dk_153 0 7 (dk_at dksX0_turn_3 0 rfl rfl)
theorem dX0_turn_53 : decode cX0_turn 53 = .ok (.iconst 1, 1) := dk_4 (dk_at dksX0_turn_3 3 rfl rfl)
theorem dX0_turn_54 : decode cX0_turn 54 = .ok (.goto 4, 3) := dk_167 0 4 (dk_at dksX0_turn_3 4 rfl rfl)
theorem dX0_turn_57 : decode cX0_turn 57 = .ok (.iconst 0, 1) := dk_3 (dk_at dksX0_turn_3 7 rfl rfl)
theorem dX0_turn_58 : decode cX0_turn 58 = .ok (.ireturn, 1) := dk_172 (dk_at dksX0_turn_3 8 rfl rfl)
theorem dX0_turn_59 : decode cX0_turn 59 = .ok (.aload_n 1, 1) := dk_43 (dk_at dksX0_turn_3 9 rfl rfl)
theorem dX0_turn_60 : decode cX0_turn 60 = .ok (.iload_n 3, 1) := dk_29 (dk_at dksX0_turn_3 10 rfl rfl)
theorem dX0_turn_61 : decode cX0_turn 61 = .ok (.aload_n 1, 1) := dk_43 (dk_at dksX0_turn_3 11 rfl rfl)
theorem dX0_turn_62 : decode cX0_turn 62 = .ok (.getfield 30, 3) := dk_180 0 30 (dk_at dksX0_turn_3 12 rfl rfl)
theorem dX0_turn_65 : decode cX0_turn 65 = .ok (.iconst 1, 1) := dk_4 (dk_at dksX0_turn_3 15 rfl rfl)
theorem dX0_turn_66 : decode cX0_turn 66 = .ok (.iadd, 1) := dk_96 (dk_at dksX0_turn_3 16 rfl rfl)
theorem dX0_turn_67 : decode cX0_turn 67 = .ok (.invokestatic 55, 3) := dk_184 0 55 (dk_at dksX0_turn_3 17 rfl rfl)
theorem dX0_turn_70 : decode cX0_turn 70 = .ok (.putfield 30, 3) := dk_181 0 30 (dk_at dksX0_turn_3 20 rfl rfl)
theorem dX0_turn_73 : decode cX0_turn 73 = .ok (.aload_n 0, 1) := dk_42 (dk_at dksX0_turn_3 23 rfl rfl)
theorem dX0_turn_74 : decode cX0_turn 74 = .ok (.iload_n 3, 1) := dk_29 (dk_at dksX0_turn_4 0 rfl rfl)
theorem dX0_turn_75 : decode cX0_turn 75 = .ok (.invokevirtual 74, 3) := dk_182 0 74 (dk_at dksX0_turn_4 1 rfl rfl)
theorem dX0_turn_78 : decode cX0_turn 78 = .ok (.aload_n 0, 1) := dk_42 (dk_at dksX0_turn_4 4 rfl rfl)
theorem dX0_turn_79 : decode cX0_turn 79 = .ok (.aload_n 1, 1) := dk_43 (dk_at dksX0_turn_4 5 rfl rfl)
theorem dX0_turn_80 : decode cX0_turn 80 = .ok (.iload 7, 2) := dk_21 7 (dk_at dksX0_turn_4 6 rfl rfl)
theorem dX0_turn_82 : decode cX0_turn 82 = .ok (.invokestatic 67, 3) := dk_184 0 67 (dk_at dksX0_turn_4 8 rfl rfl)
theorem dX0_turn_85 : decode cX0_turn 85 = .ok (.ireturn, 1) := dk_172 (dk_at dksX0_turn_4 11 rfl rfl)
theorem dX0_turn_86 : decode cX0_turn 86 = .ok (.aload_n 0, 1) := dk_42 (dk_at dksX0_turn_4 12 rfl rfl)
theorem dX0_turn_87 : decode cX0_turn 87 = .ok (.aload_n 1, 1) := dk_43 (dk_at dksX0_turn_4 13 rfl rfl)
theorem dX0_turn_88 : decode cX0_turn 88 = .ok (.iload_n 3, 1) := dk_29 (dk_at dksX0_turn_4 14 rfl rfl)
theorem dX0_turn_89 : decode cX0_turn 89 = .ok (.iload 4, 2) := dk_21 4 (dk_at dksX0_turn_4 15 rfl rfl)
theorem dX0_turn_91 : decode cX0_turn 91 = .ok (.iload 5, 2) := dk_21 5 (dk_at dksX0_turn_4 17 rfl rfl)
theorem dX0_turn_93 : decode cX0_turn 93 = .ok (.invokestatic 78, 3) := dk_184 0 78 (dk_at dksX0_turn_4 19 rfl rfl)
theorem dX0_turn_96 : decode cX0_turn 96 = .ok (.ifCond .eq 42, 3) := dk_153 0 42 (dk_at dksX0_turn_5 0 rfl rfl)
theorem dX0_turn_99 : decode cX0_turn 99 = .ok (.aload_n 0, 1) := dk_42 (dk_at dksX0_turn_5 3 rfl rfl)
theorem dX0_turn_100 : decode cX0_turn 100 = .ok (.iload 6, 2) := dk_21 6 (dk_at dksX0_turn_5 4 rfl rfl)
theorem dX0_turn_102 : decode cX0_turn 102 = .ok (.iload 7, 2) := dk_21 7 (dk_at dksX0_turn_5 6 rfl rfl)
theorem dX0_turn_104 : decode cX0_turn 104 = .ok (.invokevirtual 66, 3) := dk_182 0 66 (dk_at dksX0_turn_5 8 rfl rfl)
theorem dX0_turn_107 : decode cX0_turn 107 = .ok (.iload 6, 2) := dk_21 6 (dk_at dksX0_turn_5 11 rfl rfl)
theorem dX0_turn_109 : decode cX0_turn 109 = .ok (.iconst 3, 1) := dk_6 (dk_at dksX0_turn_5 13 rfl rfl)
theorem dX0_turn_110 : decode cX0_turn 110 = .ok (.invokestatic 55, 3) := dk_184 0 55 (dk_at dksX0_turn_5 14 rfl rfl)
theorem dX0_turn_113 : decode cX0_turn 113 = .ok (.iload 7, 2) := dk_21 7 (dk_at dksX0_turn_5 17 rfl rfl)
theorem dX0_turn_115 : decode cX0_turn 115 = .ok (.ldc 81, 2) := dk_18 81 (dk_at dksX0_turn_5 19 rfl rfl)
theorem dX0_turn_117 : decode cX0_turn 117 = .ok (.iand, 1) := dk_126 (dk_at dksX0_turn_5 21 rfl rfl)
theorem dX0_turn_118 : decode cX0_turn 118 = .ok (.invokestatic 17, 3) := dk_184 0 17 (dk_at dksX0_turn_6 0 rfl rfl)
theorem dX0_turn_121 : decode cX0_turn 121 = .ok (.if_icmp .ne 17, 3) := dk_160 0 17 (dk_at dksX0_turn_6 3 rfl rfl)
theorem dX0_turn_124 : decode cX0_turn 124 = .ok (.aload_n 0, 1) := dk_42 (dk_at dksX0_turn_6 6 rfl rfl)
theorem dX0_turn_125 : decode cX0_turn 125 = .ok (.aload_n 1, 1) := dk_43 (dk_at dksX0_turn_6 7 rfl rfl)
theorem dX0_turn_126 : decode cX0_turn 126 = .ok (.iload 7, 2) := dk_21 7 (dk_at dksX0_turn_6 8 rfl rfl)
theorem dX0_turn_128 : decode cX0_turn 128 = .ok (.invokestatic 67, 3) := dk_184 0 67 (dk_at dksX0_turn_6 10 rfl rfl)
theorem dX0_turn_131 : decode cX0_turn 131 = .ok (.ifCond .eq 7, 3) := dk_153 0 7 (dk_at dksX0_turn_6 13 rfl rfl)
theorem dX0_turn_134 : decode cX0_turn 134 = .ok (.iconst 1, 1) := dk_4 (dk_at dksX0_turn_6 16 rfl rfl)
theorem dX0_turn_135 : decode cX0_turn 135 = .ok (.goto 4, 3) := dk_167 0 4 (dk_at dksX0_turn_6 17 rfl rfl)
theorem dX0_turn_138 : decode cX0_turn 138 = .ok (.iconst 0, 1) := dk_3 (dk_at dksX0_turn_6 20 rfl rfl)
theorem dX0_turn_139 : decode cX0_turn 139 = .ok (.ireturn, 1) := dk_172 (dk_at dksX0_turn_6 21 rfl rfl)
theorem q3 : (Jvm.Cond.initialized "LetterDeskLaw") ∈ lw_all := lw_g (lw_at lw_m0 0 rfl) rfl
theorem q10 : (Jvm.Cond.classLink "LetterDeskLaw" (35 : Nat) "LetterDesk") ∈ lw_all := lw_g (lw_at lw_m0 7 rfl) rfl
theorem q12 : (Jvm.Cond.methodLink "LetterDeskLaw" (82 : Nat) ({ cls := "LetterDesk", name := "<init>", desc := "()V" } : Jvm.MethodName)) ∈ lw_all := lw_g (lw_at lw_m0 9 rfl) rfl
theorem q29 : (Jvm.Cond.classLink "LetterDeskLaw" (22 : Nat) "LetterDeskLaw$Told") ∈ lw_all := lw_g (lw_at lw_m0 26 rfl) rfl
theorem q31 : (Jvm.Cond.methodLink "LetterDeskLaw" (83 : Nat) ({ cls := "LetterDeskLaw$Told", name := "<init>", desc := "()V" } : Jvm.MethodName)) ∈ lw_all := lw_g (lw_at lw_m0 28 rfl) rfl
theorem q36 : (Jvm.Cond.fieldLink "LetterDeskLaw" (21 : Nat) "LetterDeskLaw$Told" "text" "[I") ∈ lw_all := lw_g (lw_at lw_m0 33 rfl) rfl
theorem q37 : (Jvm.Cond.fieldLink "LetterDeskLaw" (30 : Nat) "LetterDeskLaw$Told" "size" "I") ∈ lw_all := lw_g (lw_at lw_m0 34 rfl) rfl
theorem q39 : (Jvm.Cond.fieldLink "LetterDeskLaw" (40 : Nat) "LetterDeskLaw$Told" "out" "[I") ∈ lw_all := lw_g (lw_at lw_m0 36 rfl) rfl
theorem q48 : (Jvm.Cond.methodLink "LetterDeskLaw" (84 : Nat) ({ cls := "LetterDeskLaw", name := "cell", desc := "([II)I" } : Jvm.MethodName)) ∈ lw_all := lw_g (lw_at lw_m0 45 rfl) rfl
theorem q49 : (Jvm.Cond.static ({ cls := "LetterDeskLaw", name := "cell", desc := "([II)I" } : Jvm.MethodName)) ∈ lw_all := lw_g (lw_at lw_m0 46 rfl) rfl
theorem q50 : (Jvm.Cond.code ({ cls := "LetterDeskLaw", name := "cell", desc := "([II)I" } : Jvm.MethodName) method_2_code (2 : Nat) (Option.some Jvm.ClassFile.FieldType.int)) ∈ lw_all := lw_g (lw_at lw_m0 47 rfl) rfl
theorem q51 : (Jvm.Cond.methodLink "LetterDeskLaw" (71 : Nat) ({ cls := "LetterDeskLaw", name := "put", desc := "(LLetterDesk;LLetterDeskLaw$Told;IIII)Z" } : Jvm.MethodName)) ∈ lw_all := lw_g (lw_at lw_m0 48 rfl) rfl
theorem q52 : (Jvm.Cond.static ({ cls := "LetterDeskLaw", name := "put", desc := "(LLetterDesk;LLetterDeskLaw$Told;IIII)Z" } : Jvm.MethodName)) ∈ lw_all := lw_g (lw_at lw_m0 49 rfl) rfl
theorem q53 : (Jvm.Cond.code ({ cls := "LetterDeskLaw", name := "put", desc := "(LLetterDesk;LLetterDeskLaw$Told;IIII)Z" } : Jvm.MethodName) method_9_code (8 : Nat) (Option.some Jvm.ClassFile.FieldType.boolean)) ∈ lw_all := lw_g (lw_at lw_m0 50 rfl) rfl
theorem q54 : (Jvm.Cond.methodLink "LetterDeskLaw" (34 : Nat) ({ cls := "LetterDesk", name := "put", desc := "(IIII)Z" } : Jvm.MethodName)) ∈ lw_all := lw_g (lw_at lw_m0 51 rfl) rfl
theorem q61 : (Jvm.Cond.methodLink "LetterDeskLaw" (67 : Nat) ({ cls := "LetterDeskLaw", name := "stand", desc := "(LLetterDesk;LLetterDeskLaw$Told;I)Z" } : Jvm.MethodName)) ∈ lw_all := lw_g (lw_at lw_m0 58 rfl) rfl
theorem q62 : (Jvm.Cond.static ({ cls := "LetterDeskLaw", name := "stand", desc := "(LLetterDesk;LLetterDeskLaw$Told;I)Z" } : Jvm.MethodName)) ∈ lw_all := lw_g (lw_at lw_m0 59 rfl) rfl
theorem q63 : (Jvm.Cond.code ({ cls := "LetterDeskLaw", name := "stand", desc := "(LLetterDesk;LLetterDeskLaw$Told;I)Z" } : Jvm.MethodName) method_10_code (6 : Nat) (Option.some Jvm.ClassFile.FieldType.boolean)) ∈ lw_all := lw_g (lw_at lw_m0 60 rfl) rfl
theorem q64 : (Jvm.Cond.methodLink "LetterDeskLaw" (43 : Nat) ({ cls := "LetterDesk", name := "out", desc := "(I)I" } : Jvm.MethodName)) ∈ lw_all := lw_g (lw_at lw_m0 61 rfl) rfl
theorem q69 : (Jvm.Cond.constantLong "LetterDeskLaw" (45 : Nat) (31 : Int64)) ∈ lw_all := lw_g (lw_at lw_m0 66 rfl) rfl
theorem q70 : (Jvm.Cond.methodLink "LetterDeskLaw" (47 : Nat) ({ cls := "LetterDesk", name := "length", desc := "()I" } : Jvm.MethodName)) ∈ lw_all := lw_g (lw_at lw_m0 67 rfl) rfl
theorem q74 : (Jvm.Cond.methodLink "LetterDeskLaw" (51 : Nat) ({ cls := "LetterDesk", name := "whole", desc := "()J" } : Jvm.MethodName)) ∈ lw_all := lw_g (lw_at lw_m0 71 rfl) rfl
theorem q79 : (Jvm.Cond.methodLink "LetterDeskLaw" (55 : Nat) ({ cls := "LetterDeskLaw", name := "mod", desc := "(II)I" } : Jvm.MethodName)) ∈ lw_all := lw_g (lw_at lw_m0 76 rfl) rfl
theorem q80 : (Jvm.Cond.static ({ cls := "LetterDeskLaw", name := "mod", desc := "(II)I" } : Jvm.MethodName)) ∈ lw_all := lw_g (lw_at lw_m0 77 rfl) rfl
theorem q81 : (Jvm.Cond.code ({ cls := "LetterDeskLaw", name := "mod", desc := "(II)I" } : Jvm.MethodName) method_3_code (2 : Nat) (Option.some Jvm.ClassFile.FieldType.int)) ∈ lw_all := lw_g (lw_at lw_m0 78 rfl) rfl
theorem q82 : (Jvm.Cond.constant "LetterDeskLaw" (7 : Nat) (2147483647 : Int32)) ∈ lw_all := lw_g (lw_at lw_m0 79 rfl) rfl
theorem q83 : (Jvm.Cond.methodLink "LetterDeskLaw" (78 : Nat) ({ cls := "LetterDeskLaw", name := "write", desc := "(LLetterDesk;LLetterDeskLaw$Told;III)Z" } : Jvm.MethodName)) ∈ lw_all := lw_g (lw_at lw_m0 80 rfl) rfl
theorem q84 : (Jvm.Cond.static ({ cls := "LetterDeskLaw", name := "write", desc := "(LLetterDesk;LLetterDeskLaw$Told;III)Z" } : Jvm.MethodName)) ∈ lw_all := lw_g (lw_at lw_m0 81 rfl) rfl
theorem q85 : (Jvm.Cond.code ({ cls := "LetterDeskLaw", name := "write", desc := "(LLetterDesk;LLetterDeskLaw$Told;III)Z" } : Jvm.MethodName) method_11_code (8 : Nat) (Option.some Jvm.ClassFile.FieldType.boolean)) ∈ lw_all := lw_g (lw_at lw_m0 82 rfl) rfl
theorem q86 : (Jvm.Cond.methodLink "LetterDeskLaw" (58 : Nat) ({ cls := "LetterDeskLaw", name := "due", desc := "(LLetterDeskLaw$Told;III)[I" } : Jvm.MethodName)) ∈ lw_all := lw_g (lw_at lw_m0 83 rfl) rfl
theorem q87 : (Jvm.Cond.static ({ cls := "LetterDeskLaw", name := "due", desc := "(LLetterDeskLaw$Told;III)[I" } : Jvm.MethodName)) ∈ lw_all := lw_g (lw_at lw_m0 84 rfl) rfl
theorem q88 : (Jvm.Cond.code ({ cls := "LetterDeskLaw", name := "due", desc := "(LLetterDeskLaw$Told;III)[I" } : Jvm.MethodName) method_8_code (8 : Nat) (Option.some (Jvm.ClassFile.FieldType.array Jvm.ClassFile.FieldType.int))) ∈ lw_all := lw_g (lw_at lw_m0 85 rfl) rfl
theorem q89 : (Jvm.Cond.methodLink "LetterDeskLaw" (17 : Nat) ({ cls := "LetterDeskLaw", name := "room", desc := "(II)I" } : Jvm.MethodName)) ∈ lw_all := lw_g (lw_at lw_m0 86 rfl) rfl
theorem q90 : (Jvm.Cond.static ({ cls := "LetterDeskLaw", name := "room", desc := "(II)I" } : Jvm.MethodName)) ∈ lw_all := lw_g (lw_at lw_m0 87 rfl) rfl
theorem q91 : (Jvm.Cond.code ({ cls := "LetterDeskLaw", name := "room", desc := "(II)I" } : Jvm.MethodName) method_7_code (2 : Nat) (Option.some Jvm.ClassFile.FieldType.int)) ∈ lw_all := lw_g (lw_at lw_m0 88 rfl) rfl
theorem q92 : (Jvm.Cond.methodLink "LetterDeskLaw" (8 : Nat) ({ cls := "LetterDeskLaw", name := "bits", desc := "(I)I" } : Jvm.MethodName)) ∈ lw_all := lw_g (lw_at lw_m0 89 rfl) rfl
theorem q93 : (Jvm.Cond.static ({ cls := "LetterDeskLaw", name := "bits", desc := "(I)I" } : Jvm.MethodName)) ∈ lw_all := lw_g (lw_at lw_m0 90 rfl) rfl
theorem q94 : (Jvm.Cond.code ({ cls := "LetterDeskLaw", name := "bits", desc := "(I)I" } : Jvm.MethodName) method_5_code (1 : Nat) (Option.some Jvm.ClassFile.FieldType.int)) ∈ lw_all := lw_g (lw_at lw_m0 91 rfl) rfl
theorem q95 : (Jvm.Cond.methodLink "LetterDeskLaw" (14 : Nat) ({ cls := "LetterDeskLaw", name := "group", desc := "(I)I" } : Jvm.MethodName)) ∈ lw_all := lw_g (lw_at lw_m0 92 rfl) rfl
theorem q96 : (Jvm.Cond.static ({ cls := "LetterDeskLaw", name := "group", desc := "(I)I" } : Jvm.MethodName)) ∈ lw_all := lw_g (lw_at lw_m0 93 rfl) rfl
theorem q97 : (Jvm.Cond.code ({ cls := "LetterDeskLaw", name := "group", desc := "(I)I" } : Jvm.MethodName) method_6_code (1 : Nat) (Option.some Jvm.ClassFile.FieldType.int)) ∈ lw_all := lw_g (lw_at lw_m0 94 rfl) rfl
theorem q98 : (Jvm.Cond.methodLink "LetterDeskLaw" (27 : Nat) ({ cls := "LetterDeskLaw", name := "sign", desc := "(II)I" } : Jvm.MethodName)) ∈ lw_all := lw_g (lw_at lw_m0 95 rfl) rfl
theorem q99 : (Jvm.Cond.static ({ cls := "LetterDeskLaw", name := "sign", desc := "(II)I" } : Jvm.MethodName)) ∈ lw_all := lw_g (lw_at lw_m0 96 rfl) rfl
theorem q100 : (Jvm.Cond.code ({ cls := "LetterDeskLaw", name := "sign", desc := "(II)I" } : Jvm.MethodName) method_4_code (2 : Nat) (Option.some Jvm.ClassFile.FieldType.int)) ∈ lw_all := lw_g (lw_at lw_m0 97 rfl) rfl
theorem q101 : (Jvm.Cond.methodLink "LetterDeskLaw" (62 : Nat) ({ cls := "LetterDesk", name := "write", desc := "(III)I" } : Jvm.MethodName)) ∈ lw_all := lw_g (lw_at lw_m0 98 rfl) rfl
theorem q204 : (Jvm.Cond.methodLink "LetterDeskLaw" (66 : Nat) ({ cls := "LetterDesk", name := "room", desc := "(II)I" } : Jvm.MethodName)) ∈ lw_all := lw_g (lw_at lw_m0 201 rfl) rfl
theorem q209 : (Jvm.Cond.methodLink "LetterDeskLaw" (89 : Nat) ({ cls := "LetterDeskLaw", name := "turn", desc := "(LLetterDesk;LLetterDeskLaw$Told;IIIIII)Z" } : Jvm.MethodName)) ∈ lw_all := lw_g (lw_at lw_m0 206 rfl) rfl
theorem q210 : (Jvm.Cond.static ({ cls := "LetterDeskLaw", name := "turn", desc := "(LLetterDesk;LLetterDeskLaw$Told;IIIIII)Z" } : Jvm.MethodName)) ∈ lw_all := lw_g (lw_at lw_m0 207 rfl) rfl
theorem q211 : (Jvm.Cond.code ({ cls := "LetterDeskLaw", name := "turn", desc := "(LLetterDesk;LLetterDeskLaw$Told;IIIIII)Z" } : Jvm.MethodName) method_12_code (8 : Nat) (Option.some Jvm.ClassFile.FieldType.boolean)) ∈ lw_all := lw_g (lw_at lw_m0 208 rfl) rfl
theorem q212 : (Jvm.Cond.methodLink "LetterDeskLaw" (74 : Nat) ({ cls := "LetterDesk", name := "trim", desc := "(I)V" } : Jvm.MethodName)) ∈ lw_all := lw_g (lw_at lw_m0 209 rfl) rfl
theorem q216 : (Jvm.Cond.constant "LetterDeskLaw" (81 : Nat) (65535 : Int32)) ∈ lw_all := lw_g (lw_at lw_m0 213 rfl) rfl
theorem q217 : (Jvm.Cond.constant "LetterDeskLaw" (88 : Nat) (-1640531527 : Int32)) ∈ lw_all := lw_g (lw_at lw_m0 214 rfl) rfl
/-! the law's own entry -/
set_option maxRecDepth 100000
abbrev cL_law : ByteArray := code
def dkwL_law_10 : List UInt8 := [132, 3, 1, 167, 255, 204, 4, 172]
abbrev dktL_law_10 : List UInt8 := dkwL_law_10 ++ []
def dkwL_law_9 : List UInt8 := [44, 29, 3, 44, 180, 0, 30, 21, 4, 100, 184, 0, 78, 154, 0, 5, 3, 172, 132, 4, 1, 167, 255, 218]
abbrev dktL_law_9 : List UInt8 := dkwL_law_9 ++ dktL_law_10
def dkwL_law_8 : List UInt8 := [6, 162, 0, 53, 3, 54, 4, 21, 4, 16, 6, 162, 0, 37, 21, 4, 44, 180, 0, 30, 163, 0, 28, 43]
abbrev dktL_law_8 : List UInt8 := dkwL_law_8 ++ dktL_law_9
def dkwL_law_7 : List UInt8 := [42, 29, 8, 96, 184, 0, 84, 184, 0, 89, 154, 0, 5, 3, 172, 132, 3, 6, 167, 255, 197, 3, 62, 29]
abbrev dktL_law_7 : List UInt8 := dkwL_law_7 ++ dktL_law_8
def dkwL_law_6 : List UInt8 := [184, 0, 84, 42, 29, 5, 96, 184, 0, 84, 42, 29, 6, 96, 184, 0, 84, 42, 29, 7, 96, 184, 0, 84]
abbrev dktL_law_6 : List UInt8 := dkwL_law_6 ++ dktL_law_7
def dkwL_law_5 : List UInt8 := [159, 0, 5, 3, 172, 3, 62, 29, 16, 66, 162, 0, 59, 43, 44, 42, 29, 184, 0, 84, 42, 29, 4, 96]
abbrev dktL_law_5 : List UInt8 := dkwL_law_5 ++ dktL_law_6
def dkwL_law_4 : List UInt8 := [167, 255, 196, 43, 44, 4, 5, 6, 7, 184, 0, 71, 153, 0, 13, 44, 180, 0, 30, 17, 1, 0]
abbrev dktL_law_4 : List UInt8 := dkwL_law_4 ++ dktL_law_5
def dkwL_law_3 : List UInt8 := [130, 42, 29, 16, 48, 96, 184, 0, 84, 29, 100, 184, 0, 71, 154, 0, 5, 3, 172, 132, 3, 1]
abbrev dktL_law_3 : List UInt8 := dkwL_law_3 ++ dktL_law_4
def dkwL_law_2 : List UInt8 := [29, 16, 16, 96, 184, 0, 84, 29, 18, 88, 104, 96, 42, 29, 16, 32, 96, 184, 0, 84, 29, 16, 28, 120]
abbrev dktL_law_2 : List UInt8 := dkwL_law_2 ++ dktL_law_3
def dkwL_law_1 : List UInt8 := [184, 0, 67, 154, 0, 5, 3, 172, 3, 62, 29, 16, 16, 162, 0, 60, 43, 44, 42, 29, 184, 0, 84, 42]
abbrev dktL_law_1 : List UInt8 := dkwL_law_1 ++ dktL_law_2
def dkwL_law_0 : List UInt8 := [187, 0, 35, 89, 183, 0, 82, 76, 187, 0, 22, 89, 183, 0, 83, 77, 43, 44, 42, 3, 184, 0, 84]
abbrev dktL_law_0 : List UInt8 := dkwL_law_0 ++ dktL_law_1
theorem dksL_law_0 : cL_law.data.toList.drop 0 = dktL_law_0 := by decide +kernel
theorem dksL_law_1 : cL_law.data.toList.drop 23 = dktL_law_1 := dk_seg dksL_law_0 23 rfl rfl
theorem dksL_law_2 : cL_law.data.toList.drop 47 = dktL_law_2 := dk_seg dksL_law_1 24 rfl rfl
theorem dksL_law_3 : cL_law.data.toList.drop 71 = dktL_law_3 := dk_seg dksL_law_2 24 rfl rfl
theorem dksL_law_4 : cL_law.data.toList.drop 93 = dktL_law_4 := dk_seg dksL_law_3 22 rfl rfl
theorem dksL_law_5 : cL_law.data.toList.drop 115 = dktL_law_5 := dk_seg dksL_law_4 22 rfl rfl
theorem dksL_law_6 : cL_law.data.toList.drop 139 = dktL_law_6 := dk_seg dksL_law_5 24 rfl rfl
theorem dksL_law_7 : cL_law.data.toList.drop 163 = dktL_law_7 := dk_seg dksL_law_6 24 rfl rfl
theorem dksL_law_8 : cL_law.data.toList.drop 187 = dktL_law_8 := dk_seg dksL_law_7 24 rfl rfl
theorem dksL_law_9 : cL_law.data.toList.drop 211 = dktL_law_9 := dk_seg dksL_law_8 24 rfl rfl
theorem dksL_law_10 : cL_law.data.toList.drop 235 = dktL_law_10 := dk_seg dksL_law_9 24 rfl rfl
theorem dL_law_0 : decode cL_law 0 = .ok (.new 35, 3) := dk_187 0 35 (dk_at dksL_law_0 0 rfl rfl)
theorem dL_law_3 : decode cL_law 3 = .ok (.dup, 1) := dk_89 (dk_at dksL_law_0 3 rfl rfl)
theorem dL_law_4 : decode cL_law 4 = .ok (.invokespecial 82, 3) := dk_183 0 82 (dk_at dksL_law_0 4 rfl rfl)
theorem dL_law_7 : decode cL_law 7 = .ok (.astore_n 1, 1) := dk_76 (dk_at dksL_law_0 7 rfl rfl)
theorem dL_law_8 : decode cL_law 8 = .ok (.new 22, 3) := dk_187 0 22 (dk_at dksL_law_0 8 rfl rfl)
theorem dL_law_11 : decode cL_law 11 = .ok (.dup, 1) := dk_89 (dk_at dksL_law_0 11 rfl rfl)
theorem dL_law_12 : decode cL_law 12 = .ok (.invokespecial 83, 3) := dk_183 0 83 (dk_at dksL_law_0 12 rfl rfl)
theorem dL_law_15 : decode cL_law 15 = .ok (.astore_n 2, 1) := dk_77 (dk_at dksL_law_0 15 rfl rfl)
theorem dL_law_16 : decode cL_law 16 = .ok (.aload_n 1, 1) := dk_43 (dk_at dksL_law_0 16 rfl rfl)
theorem dL_law_17 : decode cL_law 17 = .ok (.aload_n 2, 1) := dk_44 (dk_at dksL_law_0 17 rfl rfl)
theorem dL_law_18 : decode cL_law 18 = .ok (.aload_n 0, 1) := dk_42 (dk_at dksL_law_0 18 rfl rfl)
theorem dL_law_19 : decode cL_law 19 = .ok (.iconst 0, 1) := dk_3 (dk_at dksL_law_0 19 rfl rfl)
theorem dL_law_20 : decode cL_law 20 = .ok (.invokestatic 84, 3) := dk_184 0 84 (dk_at dksL_law_0 20 rfl rfl)
theorem dL_law_23 : decode cL_law 23 = .ok (.invokestatic 67, 3) := dk_184 0 67 (dk_at dksL_law_1 0 rfl rfl)
theorem dL_law_26 : decode cL_law 26 = .ok (.ifCond .ne 5, 3) := dk_154 0 5 (dk_at dksL_law_1 3 rfl rfl)
theorem dL_law_29 : decode cL_law 29 = .ok (.iconst 0, 1) := dk_3 (dk_at dksL_law_1 6 rfl rfl)
theorem dL_law_30 : decode cL_law 30 = .ok (.ireturn, 1) := dk_172 (dk_at dksL_law_1 7 rfl rfl)
theorem dL_law_31 : decode cL_law 31 = .ok (.iconst 0, 1) := dk_3 (dk_at dksL_law_1 8 rfl rfl)
theorem dL_law_32 : decode cL_law 32 = .ok (.istore_n 3, 1) := dk_62 (dk_at dksL_law_1 9 rfl rfl)
theorem dL_law_33 : decode cL_law 33 = .ok (.iload_n 3, 1) := dk_29 (dk_at dksL_law_1 10 rfl rfl)
theorem dL_law_34 : decode cL_law 34 = .ok (.bipush 16, 2) := dk_16 16 (dk_at dksL_law_1 11 rfl rfl)
theorem dL_law_36 : decode cL_law 36 = .ok (.if_icmp .ge 60, 3) := dk_162 0 60 (dk_at dksL_law_1 13 rfl rfl)
theorem dL_law_39 : decode cL_law 39 = .ok (.aload_n 1, 1) := dk_43 (dk_at dksL_law_1 16 rfl rfl)
theorem dL_law_40 : decode cL_law 40 = .ok (.aload_n 2, 1) := dk_44 (dk_at dksL_law_1 17 rfl rfl)
theorem dL_law_41 : decode cL_law 41 = .ok (.aload_n 0, 1) := dk_42 (dk_at dksL_law_1 18 rfl rfl)
theorem dL_law_42 : decode cL_law 42 = .ok (.iload_n 3, 1) := dk_29 (dk_at dksL_law_1 19 rfl rfl)
theorem dL_law_43 : decode cL_law 43 = .ok (.invokestatic 84, 3) := dk_184 0 84 (dk_at dksL_law_1 20 rfl rfl)
theorem dL_law_46 : decode cL_law 46 = .ok (.aload_n 0, 1) := dk_42 (dk_at dksL_law_1 23 rfl rfl)
theorem dL_law_47 : decode cL_law 47 = .ok (.iload_n 3, 1) := dk_29 (dk_at dksL_law_2 0 rfl rfl)
theorem dL_law_48 : decode cL_law 48 = .ok (.bipush 16, 2) := dk_16 16 (dk_at dksL_law_2 1 rfl rfl)
theorem dL_law_50 : decode cL_law 50 = .ok (.iadd, 1) := dk_96 (dk_at dksL_law_2 3 rfl rfl)
theorem dL_law_51 : decode cL_law 51 = .ok (.invokestatic 84, 3) := dk_184 0 84 (dk_at dksL_law_2 4 rfl rfl)
theorem dL_law_54 : decode cL_law 54 = .ok (.iload_n 3, 1) := dk_29 (dk_at dksL_law_2 7 rfl rfl)
theorem dL_law_55 : decode cL_law 55 = .ok (.ldc 88, 2) := dk_18 88 (dk_at dksL_law_2 8 rfl rfl)
theorem dL_law_57 : decode cL_law 57 = .ok (.imul, 1) := dk_104 (dk_at dksL_law_2 10 rfl rfl)
theorem dL_law_58 : decode cL_law 58 = .ok (.iadd, 1) := dk_96 (dk_at dksL_law_2 11 rfl rfl)
theorem dL_law_59 : decode cL_law 59 = .ok (.aload_n 0, 1) := dk_42 (dk_at dksL_law_2 12 rfl rfl)
theorem dL_law_60 : decode cL_law 60 = .ok (.iload_n 3, 1) := dk_29 (dk_at dksL_law_2 13 rfl rfl)
theorem dL_law_61 : decode cL_law 61 = .ok (.bipush 32, 2) := dk_16 32 (dk_at dksL_law_2 14 rfl rfl)
theorem dL_law_63 : decode cL_law 63 = .ok (.iadd, 1) := dk_96 (dk_at dksL_law_2 16 rfl rfl)
theorem dL_law_64 : decode cL_law 64 = .ok (.invokestatic 84, 3) := dk_184 0 84 (dk_at dksL_law_2 17 rfl rfl)
theorem dL_law_67 : decode cL_law 67 = .ok (.iload_n 3, 1) := dk_29 (dk_at dksL_law_2 20 rfl rfl)
theorem dL_law_68 : decode cL_law 68 = .ok (.bipush 28, 2) := dk_16 28 (dk_at dksL_law_2 21 rfl rfl)
theorem dL_law_70 : decode cL_law 70 = .ok (.ishl, 1) := dk_120 (dk_at dksL_law_2 23 rfl rfl)
theorem dL_law_71 : decode cL_law 71 = .ok (.ixor, 1) := dk_130 (dk_at dksL_law_3 0 rfl rfl)
theorem dL_law_72 : decode cL_law 72 = .ok (.aload_n 0, 1) := dk_42 (dk_at dksL_law_3 1 rfl rfl)
theorem dL_law_73 : decode cL_law 73 = .ok (.iload_n 3, 1) := dk_29 (dk_at dksL_law_3 2 rfl rfl)
theorem dL_law_74 : decode cL_law 74 = .ok (.bipush 48, 2) := dk_16 48 (dk_at dksL_law_3 3 rfl rfl)
theorem dL_law_76 : decode cL_law 76 = .ok (.iadd, 1) := dk_96 (dk_at dksL_law_3 5 rfl rfl)
theorem dL_law_77 : decode cL_law 77 = .ok (.invokestatic 84, 3) := dk_184 0 84 (dk_at dksL_law_3 6 rfl rfl)
theorem dL_law_80 : decode cL_law 80 = .ok (.iload_n 3, 1) := dk_29 (dk_at dksL_law_3 9 rfl rfl)
theorem dL_law_81 : decode cL_law 81 = .ok (.isub, 1) := dk_100 (dk_at dksL_law_3 10 rfl rfl)
theorem dL_law_82 : decode cL_law 82 = .ok (.invokestatic 71, 3) := dk_184 0 71 (dk_at dksL_law_3 11 rfl rfl)
theorem dL_law_85 : decode cL_law 85 = .ok (.ifCond .ne 5, 3) := dk_154 0 5 (dk_at dksL_law_3 14 rfl rfl)
theorem dL_law_88 : decode cL_law 88 = .ok (.iconst 0, 1) := dk_3 (dk_at dksL_law_3 17 rfl rfl)
theorem dL_law_89 : decode cL_law 89 = .ok (.ireturn, 1) := dk_172 (dk_at dksL_law_3 18 rfl rfl)
theorem dL_law_90 : decode cL_law 90 = .ok (.iinc 3 1, 3) := dk_132 3 1 (dk_at dksL_law_3 19 rfl rfl)
theorem dL_law_93 : decode cL_law 93 = .ok (.goto (-60), 3) := dk_167 255 196 (dk_at dksL_law_4 0 rfl rfl)
theorem dL_law_96 : decode cL_law 96 = .ok (.aload_n 1, 1) := dk_43 (dk_at dksL_law_4 3 rfl rfl)
theorem dL_law_97 : decode cL_law 97 = .ok (.aload_n 2, 1) := dk_44 (dk_at dksL_law_4 4 rfl rfl)
theorem dL_law_98 : decode cL_law 98 = .ok (.iconst 1, 1) := dk_4 (dk_at dksL_law_4 5 rfl rfl)
theorem dL_law_99 : decode cL_law 99 = .ok (.iconst 2, 1) := dk_5 (dk_at dksL_law_4 6 rfl rfl)
theorem dL_law_100 : decode cL_law 100 = .ok (.iconst 3, 1) := dk_6 (dk_at dksL_law_4 7 rfl rfl)
theorem dL_law_101 : decode cL_law 101 = .ok (.iconst 4, 1) := dk_7 (dk_at dksL_law_4 8 rfl rfl)
theorem dL_law_102 : decode cL_law 102 = .ok (.invokestatic 71, 3) := dk_184 0 71 (dk_at dksL_law_4 9 rfl rfl)
theorem dL_law_105 : decode cL_law 105 = .ok (.ifCond .eq 13, 3) := dk_153 0 13 (dk_at dksL_law_4 12 rfl rfl)
theorem dL_law_108 : decode cL_law 108 = .ok (.aload_n 2, 1) := dk_44 (dk_at dksL_law_4 15 rfl rfl)
theorem dL_law_109 : decode cL_law 109 = .ok (.getfield 30, 3) := dk_180 0 30 (dk_at dksL_law_4 16 rfl rfl)
theorem dL_law_112 : decode cL_law 112 = .ok (.sipush 256, 3) := dk_17 1 0 (dk_at dksL_law_4 19 rfl rfl)
theorem dL_law_115 : decode cL_law 115 = .ok (.if_icmp .eq 5, 3) := dk_159 0 5 (dk_at dksL_law_5 0 rfl rfl)
theorem dL_law_118 : decode cL_law 118 = .ok (.iconst 0, 1) := dk_3 (dk_at dksL_law_5 3 rfl rfl)
theorem dL_law_119 : decode cL_law 119 = .ok (.ireturn, 1) := dk_172 (dk_at dksL_law_5 4 rfl rfl)
theorem dL_law_120 : decode cL_law 120 = .ok (.iconst 0, 1) := dk_3 (dk_at dksL_law_5 5 rfl rfl)
theorem dL_law_121 : decode cL_law 121 = .ok (.istore_n 3, 1) := dk_62 (dk_at dksL_law_5 6 rfl rfl)
theorem dL_law_122 : decode cL_law 122 = .ok (.iload_n 3, 1) := dk_29 (dk_at dksL_law_5 7 rfl rfl)
theorem dL_law_123 : decode cL_law 123 = .ok (.bipush 66, 2) := dk_16 66 (dk_at dksL_law_5 8 rfl rfl)
theorem dL_law_125 : decode cL_law 125 = .ok (.if_icmp .ge 59, 3) := dk_162 0 59 (dk_at dksL_law_5 10 rfl rfl)
theorem dL_law_128 : decode cL_law 128 = .ok (.aload_n 1, 1) := dk_43 (dk_at dksL_law_5 13 rfl rfl)
theorem dL_law_129 : decode cL_law 129 = .ok (.aload_n 2, 1) := dk_44 (dk_at dksL_law_5 14 rfl rfl)
theorem dL_law_130 : decode cL_law 130 = .ok (.aload_n 0, 1) := dk_42 (dk_at dksL_law_5 15 rfl rfl)
theorem dL_law_131 : decode cL_law 131 = .ok (.iload_n 3, 1) := dk_29 (dk_at dksL_law_5 16 rfl rfl)
theorem dL_law_132 : decode cL_law 132 = .ok (.invokestatic 84, 3) := dk_184 0 84 (dk_at dksL_law_5 17 rfl rfl)
theorem dL_law_135 : decode cL_law 135 = .ok (.aload_n 0, 1) := dk_42 (dk_at dksL_law_5 20 rfl rfl)
theorem dL_law_136 : decode cL_law 136 = .ok (.iload_n 3, 1) := dk_29 (dk_at dksL_law_5 21 rfl rfl)
theorem dL_law_137 : decode cL_law 137 = .ok (.iconst 1, 1) := dk_4 (dk_at dksL_law_5 22 rfl rfl)
theorem dL_law_138 : decode cL_law 138 = .ok (.iadd, 1) := dk_96 (dk_at dksL_law_5 23 rfl rfl)
theorem dL_law_139 : decode cL_law 139 = .ok (.invokestatic 84, 3) := dk_184 0 84 (dk_at dksL_law_6 0 rfl rfl)
theorem dL_law_142 : decode cL_law 142 = .ok (.aload_n 0, 1) := dk_42 (dk_at dksL_law_6 3 rfl rfl)
theorem dL_law_143 : decode cL_law 143 = .ok (.iload_n 3, 1) := dk_29 (dk_at dksL_law_6 4 rfl rfl)
theorem dL_law_144 : decode cL_law 144 = .ok (.iconst 2, 1) := dk_5 (dk_at dksL_law_6 5 rfl rfl)
theorem dL_law_145 : decode cL_law 145 = .ok (.iadd, 1) := dk_96 (dk_at dksL_law_6 6 rfl rfl)
theorem dL_law_146 : decode cL_law 146 = .ok (.invokestatic 84, 3) := dk_184 0 84 (dk_at dksL_law_6 7 rfl rfl)
theorem dL_law_149 : decode cL_law 149 = .ok (.aload_n 0, 1) := dk_42 (dk_at dksL_law_6 10 rfl rfl)
theorem dL_law_150 : decode cL_law 150 = .ok (.iload_n 3, 1) := dk_29 (dk_at dksL_law_6 11 rfl rfl)
theorem dL_law_151 : decode cL_law 151 = .ok (.iconst 3, 1) := dk_6 (dk_at dksL_law_6 12 rfl rfl)
theorem dL_law_152 : decode cL_law 152 = .ok (.iadd, 1) := dk_96 (dk_at dksL_law_6 13 rfl rfl)
theorem dL_law_153 : decode cL_law 153 = .ok (.invokestatic 84, 3) := dk_184 0 84 (dk_at dksL_law_6 14 rfl rfl)
theorem dL_law_156 : decode cL_law 156 = .ok (.aload_n 0, 1) := dk_42 (dk_at dksL_law_6 17 rfl rfl)
theorem dL_law_157 : decode cL_law 157 = .ok (.iload_n 3, 1) := dk_29 (dk_at dksL_law_6 18 rfl rfl)
theorem dL_law_158 : decode cL_law 158 = .ok (.iconst 4, 1) := dk_7 (dk_at dksL_law_6 19 rfl rfl)
theorem dL_law_159 : decode cL_law 159 = .ok (.iadd, 1) := dk_96 (dk_at dksL_law_6 20 rfl rfl)
theorem dL_law_160 : decode cL_law 160 = .ok (.invokestatic 84, 3) := dk_184 0 84 (dk_at dksL_law_6 21 rfl rfl)
theorem dL_law_163 : decode cL_law 163 = .ok (.aload_n 0, 1) := dk_42 (dk_at dksL_law_7 0 rfl rfl)
theorem dL_law_164 : decode cL_law 164 = .ok (.iload_n 3, 1) := dk_29 (dk_at dksL_law_7 1 rfl rfl)
theorem dL_law_165 : decode cL_law 165 = .ok (.iconst 5, 1) := dk_8 (dk_at dksL_law_7 2 rfl rfl)
theorem dL_law_166 : decode cL_law 166 = .ok (.iadd, 1) := dk_96 (dk_at dksL_law_7 3 rfl rfl)
theorem dL_law_167 : decode cL_law 167 = .ok (.invokestatic 84, 3) := dk_184 0 84 (dk_at dksL_law_7 4 rfl rfl)
theorem dL_law_170 : decode cL_law 170 = .ok (.invokestatic 89, 3) := dk_184 0 89 (dk_at dksL_law_7 7 rfl rfl)
theorem dL_law_173 : decode cL_law 173 = .ok (.ifCond .ne 5, 3) := dk_154 0 5 (dk_at dksL_law_7 10 rfl rfl)
theorem dL_law_176 : decode cL_law 176 = .ok (.iconst 0, 1) := dk_3 (dk_at dksL_law_7 13 rfl rfl)
theorem dL_law_177 : decode cL_law 177 = .ok (.ireturn, 1) := dk_172 (dk_at dksL_law_7 14 rfl rfl)
theorem dL_law_178 : decode cL_law 178 = .ok (.iinc 3 6, 3) := dk_132 3 6 (dk_at dksL_law_7 15 rfl rfl)
theorem dL_law_181 : decode cL_law 181 = .ok (.goto (-59), 3) := dk_167 255 197 (dk_at dksL_law_7 18 rfl rfl)
theorem dL_law_184 : decode cL_law 184 = .ok (.iconst 0, 1) := dk_3 (dk_at dksL_law_7 21 rfl rfl)
theorem dL_law_185 : decode cL_law 185 = .ok (.istore_n 3, 1) := dk_62 (dk_at dksL_law_7 22 rfl rfl)
theorem dL_law_186 : decode cL_law 186 = .ok (.iload_n 3, 1) := dk_29 (dk_at dksL_law_7 23 rfl rfl)
theorem dL_law_187 : decode cL_law 187 = .ok (.iconst 3, 1) := dk_6 (dk_at dksL_law_8 0 rfl rfl)
theorem dL_law_188 : decode cL_law 188 = .ok (.if_icmp .ge 53, 3) := dk_162 0 53 (dk_at dksL_law_8 1 rfl rfl)
theorem dL_law_191 : decode cL_law 191 = .ok (.iconst 0, 1) := dk_3 (dk_at dksL_law_8 4 rfl rfl)
theorem dL_law_192 : decode cL_law 192 = .ok (.istore 4, 2) := dk_54 4 (dk_at dksL_law_8 5 rfl rfl)
theorem dL_law_194 : decode cL_law 194 = .ok (.iload 4, 2) := dk_21 4 (dk_at dksL_law_8 7 rfl rfl)
theorem dL_law_196 : decode cL_law 196 = .ok (.bipush 6, 2) := dk_16 6 (dk_at dksL_law_8 9 rfl rfl)
theorem dL_law_198 : decode cL_law 198 = .ok (.if_icmp .ge 37, 3) := dk_162 0 37 (dk_at dksL_law_8 11 rfl rfl)
theorem dL_law_201 : decode cL_law 201 = .ok (.iload 4, 2) := dk_21 4 (dk_at dksL_law_8 14 rfl rfl)
theorem dL_law_203 : decode cL_law 203 = .ok (.aload_n 2, 1) := dk_44 (dk_at dksL_law_8 16 rfl rfl)
theorem dL_law_204 : decode cL_law 204 = .ok (.getfield 30, 3) := dk_180 0 30 (dk_at dksL_law_8 17 rfl rfl)
theorem dL_law_207 : decode cL_law 207 = .ok (.if_icmp .gt 28, 3) := dk_163 0 28 (dk_at dksL_law_8 20 rfl rfl)
theorem dL_law_210 : decode cL_law 210 = .ok (.aload_n 1, 1) := dk_43 (dk_at dksL_law_8 23 rfl rfl)
theorem dL_law_211 : decode cL_law 211 = .ok (.aload_n 2, 1) := dk_44 (dk_at dksL_law_9 0 rfl rfl)
theorem dL_law_212 : decode cL_law 212 = .ok (.iload_n 3, 1) := dk_29 (dk_at dksL_law_9 1 rfl rfl)
theorem dL_law_213 : decode cL_law 213 = .ok (.iconst 0, 1) := dk_3 (dk_at dksL_law_9 2 rfl rfl)
theorem dL_law_214 : decode cL_law 214 = .ok (.aload_n 2, 1) := dk_44 (dk_at dksL_law_9 3 rfl rfl)
theorem dL_law_215 : decode cL_law 215 = .ok (.getfield 30, 3) := dk_180 0 30 (dk_at dksL_law_9 4 rfl rfl)
theorem dL_law_218 : decode cL_law 218 = .ok (.iload 4, 2) := dk_21 4 (dk_at dksL_law_9 7 rfl rfl)
theorem dL_law_220 : decode cL_law 220 = .ok (.isub, 1) := dk_100 (dk_at dksL_law_9 9 rfl rfl)
theorem dL_law_221 : decode cL_law 221 = .ok (.invokestatic 78, 3) := dk_184 0 78 (dk_at dksL_law_9 10 rfl rfl)
theorem dL_law_224 : decode cL_law 224 = .ok (.ifCond .ne 5, 3) := dk_154 0 5 (dk_at dksL_law_9 13 rfl rfl)
theorem dL_law_227 : decode cL_law 227 = .ok (.iconst 0, 1) := dk_3 (dk_at dksL_law_9 16 rfl rfl)
theorem dL_law_228 : decode cL_law 228 = .ok (.ireturn, 1) := dk_172 (dk_at dksL_law_9 17 rfl rfl)
theorem dL_law_229 : decode cL_law 229 = .ok (.iinc 4 1, 3) := dk_132 4 1 (dk_at dksL_law_9 18 rfl rfl)
theorem dL_law_232 : decode cL_law 232 = .ok (.goto (-38), 3) := dk_167 255 218 (dk_at dksL_law_9 21 rfl rfl)
theorem dL_law_235 : decode cL_law 235 = .ok (.iinc 3 1, 3) := dk_132 3 1 (dk_at dksL_law_10 0 rfl rfl)
theorem dL_law_238 : decode cL_law 238 = .ok (.goto (-52), 3) := dk_167 255 204 (dk_at dksL_law_10 3 rfl rfl)
theorem dL_law_241 : decode cL_law 241 = .ok (.iconst 1, 1) := dk_4 (dk_at dksL_law_10 6 rfl rfl)
theorem dL_law_242 : decode cL_law 242 = .ok (.ireturn, 1) := dk_172 (dk_at dksL_law_10 7 rfl rfl)
end
section
/-! FRAMEWORK: one shape of contract, one bundle of what holds all through a method (En), one bundle of the world (Wd), rows over them -/
abbrev vwCl : List vw_C := [(RX3, TX3, 2), (RX4, TX4, 3), (RX5, TX5, 3), (RX1, TX1, 3), (RX2, TX2, 3)]
/-- the run's own numbers: classes, the class of byte arrays, of int arrays, the address of Base32's table -/
abbrev gg_T : Type := va_G × ClassId × ClassId × Nat
abbrev gg_tys (G : gg_T) : List (ClassId × FieldType) := [(G.2.1, .byte), (G.2.2.1, .int)]
/-- the sign of a value: kind 0 base16, 1 base64, 2 base32 -/
def sgn (k v : Nat) : Nat := if k = 0 then (if v < 10 then 48 + v else 87 + v) else if k = 2 then (if v < 26 then 65 + v else 24 + v) else if v < 26 then 65 + v else if v < 52 then 71 + v else if v < 62 then v - 4 else if v = 62 then 43 else 47
/-- classes and array classes, Base32's static table: outside of what A allows to change -/
def kx (G : gg_T) (A : Nat → Prop) (U : State) (H : Heap) : Prop :=
  va_K G.1 vwCl (gg_tys G) U ∧ va_Z "Base32Encoder" "DEAULT_ENCODING_TABLE" "[B" (.ref G.2.2.2) A U H ∧ va_T .byte G.2.2.2 32 (fun j => .int (nI (sgn 2 j))) A U H
def Wd (G : gg_T) (A : Nat → Prop) (s : State) (ws : va_W) (H : Heap) (locs : List Loc) : Prop := va_P G.1 vwCl ws H ∧ va_D A ws ∧ va_S A s.heap H locs
def En (p : Program) (m : MethodId) (c : Code) (cc : ByteArray) (nL : Nat) (s : State) (args : Array Value) (own : String) (G : gg_T) (A : Nat → Prop) : Prop :=
  p.tables.exec = Jvm.exec ∧ c.code = cc ∧ c.maxLocals = nL ∧ s.vm.findClass own = some m.cls ∧ (∀ w ∈ lw_all, w.before args s = true) ∧ kx G A s s.heap ∧ (∀ q, s.heap.size ≤ q → A q)
/-- a contract's start -/
abbrev pre_ (G : gg_T) (ws : va_W) (sz : Nat) (av : List Value) : Array Value → State → Prop := va_Pc av (fun U => U.heap.size = sz ∧ va_P G.1 vwCl ws U.heap ∧ va_D (fun _ => True) ws ∧ kx G (va_A ws sz) U U.heap)
/-- the world behind it -/
abbrev bw_ (G : gg_T) (A : Nat → Prop) {S : Type} (w1 : S → va_W) : S → State → Prop := fun u t => va_P G.1 vwCl (w1 u) t.heap ∧ va_D A (w1 u)
abbrev bwr_ (G : gg_T) (A : Nat → Prop) {S : Type} (w1 : S → Nat → va_W) : S → Nat → State → Prop := fun u a t => va_P G.1 vwCl (w1 u a) t.heap ∧ va_D A (w1 u a)
abbrev cT_i (l : Launch) (y : MethodName) (wsy : List Cond) (rm : Room) (G : gg_T) (ws : va_W) (sz : Nat) (av : List Value) {S : Type} (post : Int32 → S → Prop) (w1 : S → va_W) (mc ms : Nat) : Prop :=
  Met l y wsy rm (pre_ G ws sz av) (va_Qi post (bw_ G (va_A ws sz) w1) (va_A ws sz)) mc ms (va_A ws sz)
abbrev cT_l (l : Launch) (y : MethodName) (wsy : List Cond) (rm : Room) (G : gg_T) (ws : va_W) (sz : Nat) (av : List Value) {S : Type} (post : Int64 → S → Prop) (w1 : S → va_W) (mc ms : Nat) : Prop :=
  Met l y wsy rm (pre_ G ws sz av) (va_Ql post (bw_ G (va_A ws sz) w1) (va_A ws sz)) mc ms (va_A ws sz)
abbrev cT_v (l : Launch) (y : MethodName) (wsy : List Cond) (rm : Room) (G : gg_T) (ws : va_W) (sz : Nat) (av : List Value) {S : Type} (post : S → Prop) (w1 : S → va_W) (mc ms : Nat) : Prop :=
  Met l y wsy rm (pre_ G ws sz av) (va_Qv post (bw_ G (va_A ws sz) w1) (va_A ws sz)) mc ms (va_A ws sz)
abbrev cT_r (l : Launch) (y : MethodName) (wsy : List Cond) (rm : Room) (G : gg_T) (ws : va_W) (sz : Nat) (av : List Value) {S : Type} (post : S → Prop) (w1 : S → Nat → va_W) (mc ms : Nat) : Prop :=
  Met l y wsy rm (pre_ G ws sz av) (va_Qr post (bwr_ G (va_A ws sz) w1) (va_A ws sz)) mc ms (va_A ws sz)
theorem kx.to {G : gg_T} {A B : Nat → Prop} {s U : State} {H : Heap} {locs : List Loc} (h : kx G A s s.heap) (hvm : s.vm.Alike U.vm) (hS : va_S A s.heap H locs) (hAB : ∀ q, B q → A q) (hH : U.heap = H) : kx G B U U.heap := by
  subst hH
  exact ⟨va_K.moved hvm h.1, ((va_Z.moved hvm h.2.1).kept hS.2.1).narrow hAB, ((va_T.moved hvm h.2.2).kept hS.2.1).narrow hAB⟩
theorem Wd.sub {G : gg_T} {A : Nat → Prop} {s : State} {ws ws' : va_W} {H : Heap} {locs : List Loc} (h : Wd G A s ws H locs) (is : List Nat) (hn : va_nd is = true) (hs : is.map (fun i => ws[i]?) = ws'.map some) : Wd G A s ws' H locs := by
  refine ⟨fun k q hk => ?_, h.2.1.sub is hn hs, h.2.2⟩
  have h1 : (is.map (fun i => ws[i]?))[k]? = some (some q) := by rw [hs, List.getElem?_map, hk]; rfl
  rw [List.getElem?_map] at h1
  cases hi : is[k]? with
  | none => rw [hi] at h1; cases h1
  | some i => rw [hi] at h1; exact h.1 i q (Option.some.inj h1)
/-- the same cells, written otherwise -/
theorem Wd.as {G : gg_T} {A : Nat → Prop} {s : State} {ws ws' : va_W} {H : Heap} {locs : List Loc} (h : Wd G A s ws H locs) (e : ws = ws') : Wd G A s ws' H locs := e ▸ h
theorem arrV_cong {cA : ClassId} {n : Nat} {f g : Nat → Value} (h : ∀ j, j < n → f j = g j) : arrV cA n f = arrV cA n g := by
  unfold arrV
  congr 1
  apply Array.ext
  · simp
  · intro i h1 h2
    simp only [Array.getElem_ofFn]
    exact h i (by simpa using h1)
/-- an array's contents count within its length alone -/
theorem Wd.cong {G : gg_T} {A : Nat → Prop} {s : State} {ws ws' : va_W} {H : Heap} {locs : List Loc} (h : Wd G A s ws H locs) (p : Nat) {a : Nat} {cA : ClassId} {n : Nat} {f g : Nat → Int32} (hp : ws[p]? = some (a, .inl (cA, n, .inl f))) (hfg : ∀ j, j < n → f j = g j) (hw : ws.set p (a, .inl (cA, n, .inl g)) = ws') : Wd G A s ws' H locs := by
  subst hw
  refine ⟨h.1.set h.2.1 hp ?_ (fun _ _ => rfl), h.2.1.set hp, h.2.2⟩
  show H[a]? = some (vp_cell _ _)
  rw [vp_cell_i, ← arrV_cong (f := fun j => .int (f j)) (fun j hj => by rw [hfg j hj])]
  exact h.1 p _ hp
section ENT
variable {p : Program} {l : Launch} {e : Env} {R : Room} {s : State} {m : MethodId} {args : Array Value} {below : List Frame} {meth : Method} {c : Code} {H : Heap} {locs : List Loc} {cells slots : Nat} {Q : State → Prop}
theorem ent_ {y : MethodName} {rm : Room} {cc : ByteArray} {maxL : Nat} {ret : Option FieldType} {s₁ : State} {own : String} {G : gg_T} {ws : va_W} {sz : Nat} {av : List Value}
    (B : BodyLoose p l y (headSpec (ws_ y cc maxL ret) rm) cc maxL ret e s m args below meth c s₁) (hml : c.maxLocals = maxL) (hown : y.cls = own) (hv : pre_ G ws sz av args s) :
    args = av.toArray ∧ sz = s.heap.size ∧ En p m c cc maxL s args own G (va_A ws s.heap.size) ∧ Wd G (va_A ws s.heap.size) s ws s.heap [] := by
  obtain ⟨rfl, rfl, hP, hD, hX⟩ := hv
  refine ⟨rfl, rfl, ⟨B.exec, B.bytes, hml, by rw [← hown]; exact findClass_of_methodNamed B.named, fun w h => atoms_spec (ws := ws_ y cc maxL ret) B.pre w (List.mem_cons_of_mem _ h), hX, fun q h => Or.inr h⟩, hP, hD.self, va_S.rf⟩
theorem entW_ {y : MethodName} {rm : Room} {cc : ByteArray} {maxL : Nat} {ret : Option FieldType} {hh : List (Nat × Nat × Nat × Nat)} {s₁ : State} {own : String} {G : gg_T} {ws : va_W} {sz : Nat} {av : List Value}
    (B : BodyLoose p l y (headSpec (wsW_ y cc maxL ret hh) rm) cc maxL ret e s m args below meth c s₁) (hml : c.maxLocals = maxL) (hown : y.cls = own) (hv : pre_ G ws sz av args s) :
    args = av.toArray ∧ sz = s.heap.size ∧ En p m c cc maxL s args own G (va_A ws s.heap.size) ∧ Wd G (va_A ws s.heap.size) s ws s.heap [] := by
  obtain ⟨rfl, rfl, hP, hD, hX⟩ := hv
  refine ⟨rfl, rfl, ⟨B.exec, B.bytes, hml, by rw [← hown]; exact findClass_of_methodNamed B.named, fun w h => atoms_spec (ws := wsW_ y cc maxL ret hh) B.pre w (List.mem_cons_of_mem _ h), hX, fun q h => Or.inr h⟩, hP, hD.self, va_S.rf⟩
theorem ent_f {av : List Value} {n : Nat} {lv : List (Nat × Value)} (hn : (lg_sl av).length ≤ n) (hlv : lv_args 0 av = lv) (kk : ∀ ls : Array Slot, lv_has ls n lv → W p l e R s m args below meth c H locs cells slots Q (F0 m 0 ls [])) : W p l e R s m args below meth c H locs cells slots Q (entryFrame m av.toArray n) := by
  rw [lg_entry_eq]
  exact kk _ (hlv ▸ lv_entry av hn)
end ENT
/-- a method with handlers that never throws -/
theorem Met.ofWH {l : Launch} {y : MethodName} {ws ws' : List Cond} {rm : Room} {Pc : Array Value → State → Prop} {Qc : Array Value → State → Outcome → State → Prop} {mc ms : Nat} {free : Addr → Prop} {cc : ByteArray} {maxL : Nat} {ret : Option FieldType} {hh : List (Nat × Nat × Nat × Nat)}
    (hy : plainName y.cls = true) (hw : ws = Cond.codeWith y cc maxL ret hh :: ws')
    (body : ∀ p e s m args below meth c s₁, BodyLoose p l y (headSpec ws rm) cc maxL ret e s m args below meth c s₁ → c.maxLocals = maxL → Pc args s →
      W p l e (headSpec ws rm).room s m args below meth c s.heap [] 0 0 (MQ below Qc args s mc ms free) (entryFrame m args maxL)) : Met l y ws rm Pc Qc mc ms free := by
  refine MetFree.of_bodyS (code := cc) (maxLocals := maxL) (ret := ret) hy ?_ ?_
  · intro args s m h hn
    obtain ⟨m9, meth, c, hn9, h1, h2, h3, h4, -, h5, h6, -⟩ := Cond.codeWith_spec (atoms_spec (ws := ws) h _ (by rw [hw]; exact List.mem_cons_self))
    cases hn.symm.trans hn9
    exact ⟨meth, c, h1, h2, h3, h4, h5, h6⟩
  · intro p e s m args below meth c s₁ B hml hP _
    have hh0 : s₁.heap = s.heap := by rw [B.state]; rfl
    obtain ⟨t, a1, o, b1, b2, b3⟩ := body p e s m args below meth c s₁ B hml hP s₁ hh0 (Stand.of_body B)
    exact ⟨t, o, a1, b1, b2, ⟨b3.1, b3.2⟩⟩
section ROWS
variable {p : Program} {l : Launch} {e : Env} {R : Room} {s : State} {m : MethodId} {args : Array Value} {below : List Frame} {meth : Method} {c : Code} {H : Heap} {locs : List Loc} {cells slots : Nat} {Q : State → Prop}
variable {cc : ByteArray} {nL pc : Nat} {ls : Array Slot} {rest : List Value} {own : String} {G : gg_T} {A : Nat → Prop} {ws ws' : va_W} {a : Nat}
/-! fields -/
theorem gf (E : En p m c cc nL s args own G A) (hw : Wd G A s ws H locs) {C : String} {T : u_T} {N ci index : Nat} (hin : ∀ w ∈ u_ws C T N, w ∈ lw_all) (hc : vwCl[ci]? = some (C, T, N)) (q0 : Nat) {fs : List Value} (he : ws[q0]? = some (a, .inr (ci, fs))) (k : Nat) (hk : k < N) (hlink : Cond.fieldLink own index (T k).1 (T k).2.1 (T k).2.2.1 ∈ lw_all) {v : Value} (hv : fs[k]? = some v) (hdg : decode cc pc = .ok (.getfield index, 3))
    (kk : W p l e R s m args below meth c H locs cells slots Q (F0 m (pc + 3) ls (v :: rest))) : W p l e R s m args below meth c H locs cells slots Q (F0 m pc ls (.ref a :: rest)) :=
  va_get E.1 E.2.1 E.2.2.2.2.1 hin E.2.2.2.1 E.2.2.2.2.2.1.1 hw.1 q0 he hc k hk (E.2.2.2.2.1 _ hlink) (fun _ h => h) hv hdg kk
theorem pf (E : En p m c cc nL s args own G A) (hw : Wd G A s ws H locs) {C : String} {T : u_T} {N ci index : Nat} (hin : ∀ w ∈ u_ws C T N, w ∈ lw_all) (ty0 : Nat → FieldType) (hty : ∀ k, k < N → parseFieldDescriptor (T k).2.2.1 = some (ty0 k)) (hnm : ∀ a, a < N → ∀ b, b < N → a ≠ b → (T a).2.1 ≠ (T b).2.1) (hc : vwCl[ci]? = some (C, T, N)) (q0 : Nat) {fs : List Value} (he : ws[q0]? = some (a, .inr (ci, fs))) (k : Nat) (hk : k < N) (hlink : Cond.fieldLink own index (T k).1 (T k).2.1 (T k).2.2.1 ∈ lw_all) (hfin : (T k).2.2.2 = false) {v : Value} (hn : narrow (ty0 k) v = v) (hfit : fits (ty0 k) v = true) (hl : k < fs.length) (hset : ws.set q0 (a, .inr (ci, fs.set k v)) = ws') (hdg : decode cc pc = .ok (.putfield index, 3))
    (kk : ∀ (H1 : Heap) (locs1 : List Loc), Wd G A s ws' H1 locs1 → W p l e R s m args below meth c H1 locs1 cells slots Q (F0 m (pc + 3) ls rest)) : W p l e R s m args below meth c H locs cells slots Q (F0 m pc ls (v :: .ref a :: rest)) :=
  va_put E.1 E.2.1 E.2.2.2.2.1 hin ty0 hty hnm E.2.2.2.1 E.2.2.2.2.2.1.1 hw.1 hw.2.1 hw.2.2 q0 he hc k hk (E.2.2.2.2.1 _ hlink) (fun _ h => h) hfin (hty k hk) hn hfit hl hdg (fun H1 locs1 h1 h2 h3 => kk H1 locs1 (hset ▸ ⟨h1, h2, h3⟩))
theorem pff (E : En p m c cc nL s args own G A) (hw : Wd G A s ws H locs) {C : String} {T : u_T} {N ci index : Nat} (hin : ∀ w ∈ u_ws C T N, w ∈ lw_all) (ty0 : Nat → FieldType) (hty : ∀ k, k < N → parseFieldDescriptor (T k).2.2.1 = some (ty0 k)) (hnm : ∀ a, a < N → ∀ b, b < N → a ≠ b → (T a).2.1 ≠ (T b).2.1) (hc : vwCl[ci]? = some (C, T, N)) (q0 : Nat) {fs : List Value} (he : ws[q0]? = some (a, .inr (ci, fs))) (k : Nat) (hk : k < N) (hlink : Cond.fieldLink own index (T k).1 (T k).2.1 (T k).2.2.1 ∈ lw_all) (hfin : (T k).2.2.2 = true) (hini : meth.name = "<init>") (hdecl : (T k).1 = own) {v : Value} (hn : narrow (ty0 k) v = v) (hfit : fits (ty0 k) v = true) (hl : k < fs.length) (hset : ws.set q0 (a, .inr (ci, fs.set k v)) = ws') (hdg : decode cc pc = .ok (.putfield index, 3))
    (kk : ∀ (H1 : Heap) (locs1 : List Loc), Wd G A s ws' H1 locs1 → W p l e R s m args below meth c H1 locs1 cells slots Q (F0 m (pc + 3) ls rest)) : W p l e R s m args below meth c H locs cells slots Q (F0 m pc ls (v :: .ref a :: rest)) :=
  va_putF E.1 E.2.1 E.2.2.2.2.1 hin ty0 hty hnm E.2.2.2.1 E.2.2.2.2.2.1.1 hw.1 hw.2.1 hw.2.2 q0 he hc k hk (E.2.2.2.2.1 _ hlink) (fun _ h => h) hfin hini hdecl (hty k hk) hn hfit hl hdg (fun H1 locs1 h1 h2 h3 => kk H1 locs1 (hset ▸ ⟨h1, h2, h3⟩))
/-! arrays -/
theorem bld (E : En p m c cc nL s args own G A) (hw : Wd G A s ws H locs) (q0 : Nat) {n : Nat} {f : Nat → Int32} (ha : ws[q0]? = some (a, .inl (G.2.1, n, .inl f))) {k : Nat} (hk : k < n) (hn : n < 2 ^ 31) {v : Int32} (hv : f k = v) (hdg : decode cc pc = .ok (.baload, 1))
    (kk : W p l e R s m args below meth c H locs cells slots Q (F0 m (pc + 1) ls (.int v :: rest))) : W p l e R s m args below meth c H locs cells slots Q (F0 m pc ls (.int (nI k) :: .ref a :: rest)) := by
  refine va_bald E.1 E.2.1 E.2.2.2.2.2.1.1 hw.1 q0 0 ha rfl (vp_in_nI hk hn) hdg ?_
  rw [nI_clamp (Nat.lt_trans hk hn), hv]
  exact kk
theorem ild (E : En p m c cc nL s args own G A) (hw : Wd G A s ws H locs) (q0 : Nat) {n : Nat} {f : Nat → Int32} (ha : ws[q0]? = some (a, .inl (G.2.2.1, n, .inl f))) {k : Nat} (hk : k < n) (hn : n < 2 ^ 31) {v : Int32} (hv : f k = v) (hdg : decode cc pc = .ok (.iaload, 1))
    (kk : W p l e R s m args below meth c H locs cells slots Q (F0 m (pc + 1) ls (.int v :: rest))) : W p l e R s m args below meth c H locs cells slots Q (F0 m pc ls (.int (nI k) :: .ref a :: rest)) := by
  refine va_iald E.1 E.2.1 E.2.2.2.2.2.1.1 hw.1 q0 1 ha rfl (vp_in_nI hk hn) hdg ?_
  rw [nI_clamp (Nat.lt_trans hk hn), hv]
  exact kk
/-- Base32's static table -/
theorem tld (E : En p m c cc nL s args own G A) (hw : Wd G A s ws H locs) {k : Nat} (hk : k < 32) (hdg : decode cc pc = .ok (.baload, 1))
    (kk : W p l e R s m args below meth c H locs cells slots Q (F0 m (pc + 1) ls (.int (nI (sgn 2 k)) :: rest))) : W p l e R s m args below meth c H locs cells slots Q (F0 m pc ls (.int (nI k) :: .ref G.2.2.2 :: rest)) := by
  refine va_tb E.1 E.2.1 E.2.2.2.2.2.1.2.2 hw.2.2 (vp_in_nI hk (by decide)) (v := .int (nI (sgn 2 k))) ?_ hdg kk
  rw [nI_clamp (by omega)]
theorem tln (E : En p m c cc nL s args own G A) (hw : Wd G A s ws H locs) (hdg : decode cc pc = .ok (.arraylength, 1))
    (kk : W p l e R s m args below meth c H locs cells slots Q (F0 m (pc + 1) ls (.int (nI 32) :: rest))) : W p l e R s m args below meth c H locs cells slots Q (F0 m pc ls (.ref G.2.2.2 :: rest)) :=
  va_tlen E.1 E.2.1 E.2.2.2.2.2.1.2.2 hw.2.2 rfl hdg kk
theorem bst (E : En p m c cc nL s args own G A) (hw : Wd G A s ws H locs) (q0 : Nat) {n : Nat} {f : Nat → Int32} (ha : ws[q0]? = some (a, .inl (G.2.1, n, .inl f))) {k : Nat} (hk : k < n) (hn : n < 2 ^ 31) {x : Int32} (f' : Nat → Int32) (hf : upd f k (vp_nar .byte x) = f') (hset : ws.set q0 (a, .inl (G.2.1, n, .inl f')) = ws') (hdg : decode cc pc = .ok (.bastore, 1))
    (kk : ∀ (H1 : Heap) (locs1 : List Loc), Wd G A s ws' H1 locs1 → W p l e R s m args below meth c H1 locs1 cells slots Q (F0 m (pc + 1) ls rest)) : W p l e R s m args below meth c H locs cells slots Q (F0 m pc ls (.int x :: .int (nI k) :: .ref a :: rest)) := by
  refine va_bast E.1 E.2.1 E.2.2.2.2.2.1.1 hw.1 hw.2.1 hw.2.2 q0 0 ha rfl (vp_in_nI hk hn) hdg (fun H1 locs1 h1 h2 h3 => kk H1 locs1 ?_)
  rw [nI_clamp (Nat.lt_trans hk hn), hf, hset] at h1 h2
  exact ⟨h1, h2, h3⟩
theorem ist (E : En p m c cc nL s args own G A) (hw : Wd G A s ws H locs) (q0 : Nat) {n : Nat} {f : Nat → Int32} (ha : ws[q0]? = some (a, .inl (G.2.2.1, n, .inl f))) {k : Nat} (hk : k < n) (hn : n < 2 ^ 31) {x : Int32} (f' : Nat → Int32) (hf : upd f k x = f') (hset : ws.set q0 (a, .inl (G.2.2.1, n, .inl f')) = ws') (hdg : decode cc pc = .ok (.iastore, 1))
    (kk : ∀ (H1 : Heap) (locs1 : List Loc), Wd G A s ws' H1 locs1 → W p l e R s m args below meth c H1 locs1 cells slots Q (F0 m (pc + 1) ls rest)) : W p l e R s m args below meth c H locs cells slots Q (F0 m pc ls (.int x :: .int (nI k) :: .ref a :: rest)) := by
  refine va_iast E.1 E.2.1 E.2.2.2.2.2.1.1 hw.1 hw.2.1 hw.2.2 q0 1 ha rfl (vp_in_nI hk hn) hdg (fun H1 locs1 h1 h2 h3 => kk H1 locs1 ?_)
  rw [nI_clamp (Nat.lt_trans hk hn), hf, hset] at h1 h2
  exact ⟨h1, h2, h3⟩
theorem bln (E : En p m c cc nL s args own G A) (hw : Wd G A s ws H locs) (q0 : Nat) {n : Nat} {f : Nat → Int32} (ha : ws[q0]? = some (a, .inl (G.2.1, n, .inl f))) (hdg : decode cc pc = .ok (.arraylength, 1))
    (kk : W p l e R s m args below meth c H locs cells slots Q (F0 m (pc + 1) ls (.int (nI n) :: rest))) : W p l e R s m args below meth c H locs cells slots Q (F0 m pc ls (.ref a :: rest)) :=
  va_alen E.1 E.2.1 E.2.2.2.2.2.1.1 hw.1 q0 0 ha rfl rfl hdg kk
theorem iln (E : En p m c cc nL s args own G A) (hw : Wd G A s ws H locs) (q0 : Nat) {n : Nat} {f : Nat → Int32} (ha : ws[q0]? = some (a, .inl (G.2.2.1, n, .inl f))) (hdg : decode cc pc = .ok (.arraylength, 1))
    (kk : W p l e R s m args below meth c H locs cells slots Q (F0 m (pc + 1) ls (.int (nI n) :: rest))) : W p l e R s m args below meth c H locs cells slots Q (F0 m pc ls (.ref a :: rest)) :=
  va_alen E.1 E.2.1 E.2.2.2.2.2.1.1 hw.1 q0 1 ha rfl rfl hdg kk
theorem nwb (E : En p m c cc nL s args own G A) (hw : Wd G A s ws H locs) {N : Nat} (hN : N ≤ 65536) (hcells : cells + 1 ≤ R.cells) (hslots : slots + N ≤ R.slots) (hdg : decode cc pc = .ok (.newarray .byte, 2))
    (kk : ∀ (q : Nat) (H1 : Heap), Wd G A s (ws ++ [(q, .inl (G.2.1, N, .inl (fun _ => 0)))]) H1 locs → W p l e R s m args below meth c H1 locs (cells + 1) (slots + N) Q (F0 m (pc + 2) ls (.ref q :: rest))) : W p l e R s m args below meth c H locs cells slots Q (F0 m pc ls (.int (nI N) :: rest)) := by
  have hN1 : N < 2 ^ 31 := by omega
  refine va_newa (atype := .byte) (ty := .byte) (a0 := (N, .inl (fun _ => 0))) E.1 E.2.1 (E.2.2.2.2.1 _ q28) rfl E.2.2.2.2.2.1.1 hw.1 hw.2.1 hw.2.2 E.2.2.2.2.2.2 (fun cA => rfl) (nI_pos hN1) (nI_clamp hN1) (by show N * 1 ≤ _; omega) hcells hslots hdg (fun q cA H1 hK1 h1 h2 h3 => ?_)
  have e1 : s.vm.findClass ("[" ++ FieldType.byte.toString) = some cA := (hK1.2 2 (cA, .byte) rfl).2
  have e2 : s.vm.findClass ("[" ++ FieldType.byte.toString) = some G.2.1 := (E.2.2.2.2.2.1.1.2 0 (G.2.1, .byte) rfl).2
  cases Option.some.inj (e1.symm.trans e2)
  exact kk q H1 ⟨h1, h2, h3⟩
theorem nwi (E : En p m c cc nL s args own G A) (hw : Wd G A s ws H locs) {N : Nat} (hN : N ≤ 65536) (hcells : cells + 1 ≤ R.cells) (hslots : slots + N ≤ R.slots) (hdg : decode cc pc = .ok (.newarray .int, 2))
    (kk : ∀ (q : Nat) (H1 : Heap), Wd G A s (ws ++ [(q, .inl (G.2.2.1, N, .inl (fun _ => 0)))]) H1 locs → W p l e R s m args below meth c H1 locs (cells + 1) (slots + N) Q (F0 m (pc + 2) ls (.ref q :: rest))) : W p l e R s m args below meth c H locs cells slots Q (F0 m pc ls (.int (nI N) :: rest)) := by
  have hN1 : N < 2 ^ 31 := by omega
  refine va_newa (atype := .int) (ty := .int) (a0 := (N, .inl (fun _ => 0))) E.1 E.2.1 (E.2.2.2.2.1 _ q47) rfl E.2.2.2.2.2.1.1 hw.1 hw.2.1 hw.2.2 E.2.2.2.2.2.2 (fun cA => rfl) (nI_pos hN1) (nI_clamp hN1) (by show N * 4 ≤ _; omega) hcells hslots hdg (fun q cA H1 hK1 h1 h2 h3 => ?_)
  have e1 : s.vm.findClass ("[" ++ FieldType.int.toString) = some cA := (hK1.2 2 (cA, .int) rfl).2
  have e2 : s.vm.findClass ("[" ++ FieldType.int.toString) = some G.2.2.1 := (E.2.2.2.2.2.1.1.2 1 (G.2.2.1, .int) rfl).2
  cases Option.some.inj (e1.symm.trans e2)
  exact kk q H1 ⟨h1, h2, h3⟩
/-! a new object -/
theorem nwo (E : En p m c cc nL s args own G A) (hw : Wd G A s ws H locs) {C : String} {T : u_T} {N ci index : Nat} (hin : ∀ w ∈ u_ws C T N, w ∈ lw_all) (ty : Nat → FieldType) (hty : ∀ k, k < N → parseFieldDescriptor (T k).2.2.1 = some (ty k)) (hcl : Cond.classLink own index C ∈ lw_all) (hinst : Cond.instantiable C N ∈ lw_all) (hini : Cond.initialized C ∈ lw_all) (hc : vwCl[ci]? = some (C, T, N)) {fs : List Value} (hfs : ∀ j, j < N → defaultValue (ty j) = vp_V fs j) (hcells : cells + 1 ≤ R.cells) (hslots : slots + N ≤ R.slots) (hdg : decode cc pc = .ok (.new index, 3))
    (kk : ∀ (q : Nat) (H1 : Heap), Wd G A s (ws ++ [(q, .inr (ci, fs))]) H1 locs → W p l e R s m args below meth c H1 locs (cells + 1) (slots + N) Q (F0 m (pc + 3) ls (.ref q :: rest))) : W p l e R s m args below meth c H locs cells slots Q (F0 m pc ls rest) :=
  va_new E.1 E.2.1 E.2.2.2.2.1 hin ty hty E.2.2.2.1 (E.2.2.2.2.1 _ hcl) (E.2.2.2.2.1 _ hinst) (E.2.2.2.2.1 _ hini) E.2.2.2.2.2.1.1 hw.1 hw.2.1 hw.2.2 E.2.2.2.2.2.2 hc hfs hcells hslots hdg (fun q H1 h1 h2 h3 => kk q H1 ⟨h1, h2, h3⟩)
theorem obi (E : En p m c cc nL s args own G A) (hl : ls.size = nL) {idx : Nat} (hlink : Cond.methodLink own idx Lib.objectInit ∈ lw_all) (hd : decode cc pc = .ok (.invokespecial idx, 3)) (hframes : 1 ≤ R.frames) (hlocals : 12 ≤ R.locals)
    (kk : W p l e R s m args below meth c H locs cells slots Q (F0 m (pc + 3) ls [])) : W p l e R s m args below meth c H locs cells slots Q (F0 m pc ls [.ref a]) :=
  W.objInit E.1 E.2.1 E.2.2.2.1 (E.2.2.2.2.1 _ hlink) (E.2.2.2.2.1 _ q16) (E.2.2.2.2.1 _ q17) rfl (by rw [E.2.2.1]; exact hl) rfl hd hframes (by show 2 * 0 + 0 + 12 ≤ _; omega) kk
/-! numbers: an int is nI of a natural number -/
theorem tv {x y : Int32} (h : x = y) (k : W p l e R s m args below meth c H locs cells slots Q (F0 m pc ls (.int y :: rest))) : W p l e R s m args below meth c H locs cells slots Q (F0 m pc ls (.int x :: rest)) := h ▸ k
theorem n_iadd (E : En p m c cc nL s args own G A) {a b d : Nat} (hdg : decode cc pc = .ok (.iadd, 1)) (h : a + b = d) (k : W p l e R s m args below meth c H locs cells slots Q (F0 m (pc + 1) ls (.int (nI d) :: rest))) : W p l e R s m args below meth c H locs cells slots Q (F0 m pc ls (.int (nI b) :: .int (nI a) :: rest)) := by
  subst h
  refine lv_iadd E.1 E.2.1 hdg ?_
  rw [nI_add]
  exact k
theorem n_isub (E : En p m c cc nL s args own G A) {a b d : Nat} (hdg : decode cc pc = .ok (.isub, 1)) (h : d + b = a) (k : W p l e R s m args below meth c H locs cells slots Q (F0 m (pc + 1) ls (.int (nI d) :: rest))) : W p l e R s m args below meth c H locs cells slots Q (F0 m pc ls (.int (nI b) :: .int (nI a) :: rest)) := by
  subst h
  refine lv_isub E.1 E.2.1 hdg ?_
  rw [pk_sub (Nat.le_add_left _ _), Nat.add_sub_cancel]
  exact k
theorem n_imul (E : En p m c cc nL s args own G A) {a b d : Nat} (hdg : decode cc pc = .ok (.imul, 1)) (h : a * b = d) (k : W p l e R s m args below meth c H locs cells slots Q (F0 m (pc + 1) ls (.int (nI d) :: rest))) : W p l e R s m args below meth c H locs cells slots Q (F0 m pc ls (.int (nI b) :: .int (nI a) :: rest)) := by
  subst h
  refine lv_imul E.1 E.2.1 hdg ?_
  rw [pk_mul]
  exact k
theorem n_idiv (E : En p m c cc nL s args own G A) {a b d : Nat} (hdg : decode cc pc = .ok (.idiv, 1)) (ha : a < 2 ^ 31) (h0 : 0 < b) (hb : b < 2 ^ 31) (h : a / b = d) (k : W p l e R s m args below meth c H locs cells slots Q (F0 m (pc + 1) ls (.int (nI d) :: rest))) : W p l e R s m args below meth c H locs cells slots Q (F0 m pc ls (.int (nI b) :: .int (nI a) :: rest)) := by
  subst h
  refine lv_idiv E.1 E.2.1 hdg (nI_ne0 h0 hb) ?_
  rw [pk_div ha h0 hb]
  exact k
theorem n_irem (E : En p m c cc nL s args own G A) {a b d : Nat} (hdg : decode cc pc = .ok (.irem, 1)) (ha : a < 2 ^ 31) (h0 : 0 < b) (hb : b < 2 ^ 31) (h : a % b = d) (k : W p l e R s m args below meth c H locs cells slots Q (F0 m (pc + 1) ls (.int (nI d) :: rest))) : W p l e R s m args below meth c H locs cells slots Q (F0 m pc ls (.int (nI b) :: .int (nI a) :: rest)) := by
  subst h
  refine lv_irem E.1 E.2.1 hdg (nI_ne0 h0 hb) ?_
  rw [pk_rem ha h0 hb]
  exact k
theorem n_iinc (E : En p m c cc nL s args own G A) {i nV k : Nat} {n : Nat} {a d : Nat} {lv lv' : List (Nat × Value)} (hdg : decode cc pc = .ok (.iinc i (n : Int), 3)) (h : lv_has ls nV lv) (hk : lv[k]? = some (i, .int (nI a))) (hd : a + n = d) (hn : i < nV) (hl : (i, Value.int (nI d)) :: lv.filter (fun q => !(q.1 == i) && !(q.1 + 1 == i && q.2.category == 2)) = lv')
    (kk : ∀ ls' : Array Slot, lv_has ls' nV lv' → W p l e R s m args below meth c H locs cells slots Q (F0 m (pc + 3) ls' rest)) : W p l e R s m args below meth c H locs cells slots Q (F0 m pc ls rest) := by
  subst hd
  refine lv_iinc E.1 E.2.1 hdg h hk (v := nI (a + n)) ?_ hn hl kk
  rw [← nI_add]
  congr 1
theorem n_icmp_ge (E : En p m c cc nL s args own G A) {a b : Nat} {off : Int} {tgt : Nat} (hdg : decode cc pc = .ok (.if_icmp .ge off, 3)) (ht : (pc : Int) + off = (tgt : Int)) (ha : a < 2 ^ 31) (hb : b < 2 ^ 31)
    (kt : b ≤ a → W p l e R s m args below meth c H locs cells slots Q (F0 m tgt ls rest)) (kf : a < b → W p l e R s m args below meth c H locs cells slots Q (F0 m (pc + 3) ls rest)) : W p l e R s m args below meth c H locs cells slots Q (F0 m pc ls (.int (nI b) :: .int (nI a) :: rest)) :=
  lv_icmp_ge E.1 E.2.1 hdg ht (fun h => kt ((nI_leI hb ha).mp h)) (fun h => kf (Nat.lt_of_not_le fun q => h ((nI_leI hb ha).mpr q)))
theorem n_icmp_gt (E : En p m c cc nL s args own G A) {a b : Nat} {off : Int} {tgt : Nat} (hdg : decode cc pc = .ok (.if_icmp .gt off, 3)) (ht : (pc : Int) + off = (tgt : Int)) (ha : a < 2 ^ 31) (hb : b < 2 ^ 31)
    (kt : b < a → W p l e R s m args below meth c H locs cells slots Q (F0 m tgt ls rest)) (kf : a ≤ b → W p l e R s m args below meth c H locs cells slots Q (F0 m (pc + 3) ls rest)) : W p l e R s m args below meth c H locs cells slots Q (F0 m pc ls (.int (nI b) :: .int (nI a) :: rest)) :=
  lv_icmp_gt E.1 E.2.1 hdg ht (fun h => kt ((nI_ltI hb ha).mp h)) (fun h => kf (Nat.le_of_not_lt fun q => h ((nI_ltI hb ha).mpr q)))
theorem n_icmp_le (E : En p m c cc nL s args own G A) {a b : Nat} {off : Int} {tgt : Nat} (hdg : decode cc pc = .ok (.if_icmp .le off, 3)) (ht : (pc : Int) + off = (tgt : Int)) (ha : a < 2 ^ 31) (hb : b < 2 ^ 31)
    (kt : a ≤ b → W p l e R s m args below meth c H locs cells slots Q (F0 m tgt ls rest)) (kf : b < a → W p l e R s m args below meth c H locs cells slots Q (F0 m (pc + 3) ls rest)) : W p l e R s m args below meth c H locs cells slots Q (F0 m pc ls (.int (nI b) :: .int (nI a) :: rest)) :=
  lv_icmp_le E.1 E.2.1 hdg ht (fun h => kt ((nI_leI ha hb).mp h)) (fun h => kf (Nat.lt_of_not_le fun q => h ((nI_leI ha hb).mpr q)))
theorem n_icmp_lt (E : En p m c cc nL s args own G A) {a b : Nat} {off : Int} {tgt : Nat} (hdg : decode cc pc = .ok (.if_icmp .lt off, 3)) (ht : (pc : Int) + off = (tgt : Int)) (ha : a < 2 ^ 31) (hb : b < 2 ^ 31)
    (kt : a < b → W p l e R s m args below meth c H locs cells slots Q (F0 m tgt ls rest)) (kf : b ≤ a → W p l e R s m args below meth c H locs cells slots Q (F0 m (pc + 3) ls rest)) : W p l e R s m args below meth c H locs cells slots Q (F0 m pc ls (.int (nI b) :: .int (nI a) :: rest)) :=
  lv_icmp_lt E.1 E.2.1 hdg ht (fun h => kt ((nI_ltI ha hb).mp h)) (fun h => kf (Nat.le_of_not_lt fun q => h ((nI_ltI ha hb).mpr q)))
theorem n_icmp_eq (E : En p m c cc nL s args own G A) {a b : Nat} {off : Int} {tgt : Nat} (hdg : decode cc pc = .ok (.if_icmp .eq off, 3)) (ht : (pc : Int) + off = (tgt : Int)) (ha : a < 2 ^ 31) (hb : b < 2 ^ 31)
    (kt : a = b → W p l e R s m args below meth c H locs cells slots Q (F0 m tgt ls rest)) (kf : a ≠ b → W p l e R s m args below meth c H locs cells slots Q (F0 m (pc + 3) ls rest)) : W p l e R s m args below meth c H locs cells slots Q (F0 m pc ls (.int (nI b) :: .int (nI a) :: rest)) :=
  lv_icmp_eq E.1 E.2.1 hdg ht (fun h => kt ((nI_eq ha hb).mp h)) (fun h => kf (fun q => h ((nI_eq ha hb).mpr q)))
theorem n_icmp_ne (E : En p m c cc nL s args own G A) {a b : Nat} {off : Int} {tgt : Nat} (hdg : decode cc pc = .ok (.if_icmp .ne off, 3)) (ht : (pc : Int) + off = (tgt : Int)) (ha : a < 2 ^ 31) (hb : b < 2 ^ 31)
    (kt : a ≠ b → W p l e R s m args below meth c H locs cells slots Q (F0 m tgt ls rest)) (kf : a = b → W p l e R s m args below meth c H locs cells slots Q (F0 m (pc + 3) ls rest)) : W p l e R s m args below meth c H locs cells slots Q (F0 m pc ls (.int (nI b) :: .int (nI a) :: rest)) :=
  lv_icmp_ne E.1 E.2.1 hdg ht (fun h => kt (fun q => h ((nI_eq ha hb).mpr q))) (fun h => kf ((nI_eq ha hb).mp h))
theorem n_if_ne (E : En p m c cc nL s args own G A) {a : Nat} {off : Int} {tgt : Nat} (hdg : decode cc pc = .ok (.ifCond .ne off, 3)) (ht : (pc : Int) + off = (tgt : Int)) (ha : a < 2 ^ 31)
    (kt : a ≠ 0 → W p l e R s m args below meth c H locs cells slots Q (F0 m tgt ls rest)) (kf : a = 0 → W p l e R s m args below meth c H locs cells slots Q (F0 m (pc + 3) ls rest)) : W p l e R s m args below meth c H locs cells slots Q (F0 m pc ls (.int (nI a) :: rest)) :=
  lv_if_ne E.1 E.2.1 hdg ht (fun h => kt (fun q => h (by rw [q]; exact nI_0))) (fun h => kf (by rw [← nI_0] at h; exact (nI_eq ha (by decide)).mp h))
theorem n_if_eq (E : En p m c cc nL s args own G A) {a : Nat} {off : Int} {tgt : Nat} (hdg : decode cc pc = .ok (.ifCond .eq off, 3)) (ht : (pc : Int) + off = (tgt : Int)) (ha : a < 2 ^ 31)
    (kt : a = 0 → W p l e R s m args below meth c H locs cells slots Q (F0 m tgt ls rest)) (kf : a ≠ 0 → W p l e R s m args below meth c H locs cells slots Q (F0 m (pc + 3) ls rest)) : W p l e R s m args below meth c H locs cells slots Q (F0 m pc ls (.int (nI a) :: rest)) :=
  lv_if_eq E.1 E.2.1 hdg ht (fun h => kt (by rw [← nI_0] at h; exact (nI_eq ha (by decide)).mp h)) (fun h => kf (fun q => h (by rw [q]; exact nI_0)))
theorem n_if_le (E : En p m c cc nL s args own G A) {a : Nat} {off : Int} {tgt : Nat} (hdg : decode cc pc = .ok (.ifCond .le off, 3)) (ht : (pc : Int) + off = (tgt : Int)) (ha : a < 2 ^ 31)
    (kt : a = 0 → W p l e R s m args below meth c H locs cells slots Q (F0 m tgt ls rest)) (kf : 0 < a → W p l e R s m args below meth c H locs cells slots Q (F0 m (pc + 3) ls rest)) : W p l e R s m args below meth c H locs cells slots Q (F0 m pc ls (.int (nI a) :: rest)) :=
  lv_if_le E.1 E.2.1 hdg ht (fun h => kt (by rw [← nI_0] at h; exact Nat.le_zero.mp ((nI_leI ha (by decide)).mp h))) (fun h => kf (Nat.pos_of_ne_zero (fun q => h (by rw [q, nI_0]; decide))))
/-! calls -/
theorem En.fix (E : En p m c cc nL s args own G A) : CallFix p m c cc nL s args lw_all own := ⟨E.1, E.2.1, E.2.2.1, E.2.2.2.1, E.2.2.2.2.1⟩
theorem En.hts (E : En p m c cc nL s args own G A) : ∀ w ∈ lw_all, w.before args s = true := E.2.2.2.2.1
theorem preS_ok (E : En p m c cc nL s args own G A) (hw : Wd G A s ws H locs) {wc : va_W} (isC : List Nat) (hC : isC.map (fun i => ws[i]?) = wc.map some) (hn : va_nd isC = true) {As : List Value} : PreS s H (pre_ G wc H.size As) As := by
  have hc := hw.sub isC hn hC
  refine ⟨fun a U g mk q => ?_, fun U hU hW => ⟨rfl, by rw [hU], by rw [hU]; exact hc.1, hc.2.1.weaken (fun _ _ _ _ => trivial), E.2.2.2.2.2.1.to hW.alike hw.2.2 (va_free hw.2.1 hw.2.2 E.2.2.2.2.2.2 isC hC) hU⟩⟩
  obtain ⟨q0, q1, qP, qD, qX⟩ := q
  exact ⟨q0, q1, qP, qD, va_K.moved (u := U) (U := U.calling g mk a) (Vm.Alike.refl U.vm) qX.1, va_Z.moved (u := U) (U := U.calling g mk a) (Vm.Alike.refl U.vm) qX.2.1, va_T.moved (u := U) (U := U.calling g mk a) (Vm.Alike.refl U.vm) qX.2.2⟩
theorem preV_ok (E : En p m c cc nL s args own G A) (hw : Wd G A s ws H locs) {wc : va_W} (isC : List Nat) (hC : isC.map (fun i => ws[i]?) = wc.map some) (hn : va_nd isC = true) {As : List Value} {C : String} {T : u_T} {N : Nat} (q0 : Nat) {ci : Nat} {fs : List Value} {b : Nat} (he : ws[q0]? = some (b, .inr (ci, fs))) (hc : vwCl[ci]? = some (C, T, N)) : PreV s H C b (pre_ G wc H.size (.ref b :: As)) As :=
  ⟨(preS_ok E hw isC hC hn (As := .ref b :: As)).1, va_recv (q := (C, T, N)) E.2.2.2.2.2.1.1 hw.1 hc he, (preS_ok E hw isC hC hn (As := .ref b :: As)).2⟩
theorem wd_join (E : En p m c cc nL s args own G A) (hw : Wd G A s ws H locs) {wc wr w1 : va_W} (isC isR : List Nat) (hC : isC.map (fun i => ws[i]?) = wc.map some) (hR : isR.map (fun i => ws[i]?) = wr.map some) (hn : va_nd isR = true) (hdis : ∀ i ∈ isR, i ∉ isC) {H1 : Heap} {locs1 : List Loc} (hk : ∀ q : Nat, q < H.size → ¬ va_A wc H.size q → H1[q]? = H[q]?) (hP1 : va_P G.1 vwCl w1 H1) (hD1 : va_D (va_A wc H.size) w1) (hS1 : va_S A s.heap H1 locs1) : Wd G A s (wr ++ w1) H1 locs1 :=
  ⟨(va_join hw.1 hw.2.1 isC isR hC hR hn hdis hk (va_free hw.2.1 hw.2.2 E.2.2.2.2.2.2 isC hC) hP1 hD1).1, (va_join hw.1 hw.2.1 isC isR hC hR hn hdis hk (va_free hw.2.1 hw.2.2 E.2.2.2.2.2.2 isC hC) hP1 hD1).2, hS1⟩
variable {wc wr : va_W} {av : Array Value} {st0 : List Value} {mc ms : Nat}
theorem cl_i {S : Type} {post : Int32 → S → Prop} {w1 : S → va_W} (hr : va_Run p l e R s m args below meth c H locs cells slots mc ms (F0 m pc ls st0) rest (va_Qi post (bw_ G (va_A wc H.size) w1) (va_A wc H.size) av) (va_A wc H.size)) (E : En p m c cc nL s args own G A) (hw : Wd G A s ws H locs) (isC isR : List Nat) (hC : isC.map (fun i => ws[i]?) = wc.map some) (hR : isR.map (fun i => ws[i]?) = wr.map some) (hn : va_nd isR = true) (hdis : ∀ i ∈ isR, i ∉ isC)
    (kk : ∀ (r : Int32) (u : S) (H1 : Heap) (locs1 : List Loc), post r u → Wd G A s (wr ++ w1 u) H1 locs1 → W p l e R s m args below meth c H1 locs1 (cells + mc) (slots + ms) Q (F0 m (pc + 3) ls (.int r :: rest))) : W p l e R s m args below meth c H locs cells slots Q (F0 m pc ls st0) := by
  have hF := va_free hw.2.1 hw.2.2 E.2.2.2.2.2.2 isC hC
  refine va_calli hr hw.2.2 (fun q _ h => hF q h) hF (fun r u t H1 locs1 ht _ hp hB _ hk hS1 => kk r u H1 locs1 hp ?_)
  subst ht
  exact wd_join E hw isC isR hC hR hn hdis hk hB.1 hB.2 hS1
theorem cl_l {S : Type} {post : Int64 → S → Prop} {w1 : S → va_W} (hr : va_Run p l e R s m args below meth c H locs cells slots mc ms (F0 m pc ls st0) rest (va_Ql post (bw_ G (va_A wc H.size) w1) (va_A wc H.size) av) (va_A wc H.size)) (E : En p m c cc nL s args own G A) (hw : Wd G A s ws H locs) (isC isR : List Nat) (hC : isC.map (fun i => ws[i]?) = wc.map some) (hR : isR.map (fun i => ws[i]?) = wr.map some) (hn : va_nd isR = true) (hdis : ∀ i ∈ isR, i ∉ isC)
    (kk : ∀ (r : Int64) (u : S) (H1 : Heap) (locs1 : List Loc), post r u → Wd G A s (wr ++ w1 u) H1 locs1 → W p l e R s m args below meth c H1 locs1 (cells + mc) (slots + ms) Q (F0 m (pc + 3) ls (.long r :: rest))) : W p l e R s m args below meth c H locs cells slots Q (F0 m pc ls st0) := by
  have hF := va_free hw.2.1 hw.2.2 E.2.2.2.2.2.2 isC hC
  refine va_calll hr hw.2.2 (fun q _ h => hF q h) hF (fun r u t H1 locs1 ht _ hp hB _ hk hS1 => kk r u H1 locs1 hp ?_)
  subst ht
  exact wd_join E hw isC isR hC hR hn hdis hk hB.1 hB.2 hS1
theorem cl_v {S : Type} {post : S → Prop} {w1 : S → va_W} (hr : va_Run p l e R s m args below meth c H locs cells slots mc ms (F0 m pc ls st0) rest (va_Qv post (bw_ G (va_A wc H.size) w1) (va_A wc H.size) av) (va_A wc H.size)) (E : En p m c cc nL s args own G A) (hw : Wd G A s ws H locs) (isC isR : List Nat) (hC : isC.map (fun i => ws[i]?) = wc.map some) (hR : isR.map (fun i => ws[i]?) = wr.map some) (hn : va_nd isR = true) (hdis : ∀ i ∈ isR, i ∉ isC)
    (kk : ∀ (u : S) (H1 : Heap) (locs1 : List Loc), post u → Wd G A s (wr ++ w1 u) H1 locs1 → W p l e R s m args below meth c H1 locs1 (cells + mc) (slots + ms) Q (F0 m (pc + 3) ls rest)) : W p l e R s m args below meth c H locs cells slots Q (F0 m pc ls st0) := by
  have hF := va_free hw.2.1 hw.2.2 E.2.2.2.2.2.2 isC hC
  refine va_callv hr hw.2.2 (fun q _ h => hF q h) hF (fun u t H1 locs1 ht _ hp hB _ hk hS1 => kk u H1 locs1 hp ?_)
  subst ht
  exact wd_join E hw isC isR hC hR hn hdis hk hB.1 hB.2 hS1
theorem cl_r {S : Type} {post : S → Prop} {w1 : S → Nat → va_W} (hr : va_Run p l e R s m args below meth c H locs cells slots mc ms (F0 m pc ls st0) rest (va_Qr post (bwr_ G (va_A wc H.size) w1) (va_A wc H.size) av) (va_A wc H.size)) (E : En p m c cc nL s args own G A) (hw : Wd G A s ws H locs) (isC isR : List Nat) (hC : isC.map (fun i => ws[i]?) = wc.map some) (hR : isR.map (fun i => ws[i]?) = wr.map some) (hn : va_nd isR = true) (hdis : ∀ i ∈ isR, i ∉ isC)
    (kk : ∀ (u : S) (ra : Nat) (H1 : Heap) (locs1 : List Loc), post u → Wd G A s (wr ++ w1 u ra) H1 locs1 → W p l e R s m args below meth c H1 locs1 (cells + mc) (slots + ms) Q (F0 m (pc + 3) ls (.ref ra :: rest))) : W p l e R s m args below meth c H locs cells slots Q (F0 m pc ls st0) := by
  have hF := va_free hw.2.1 hw.2.2 E.2.2.2.2.2.2 isC hC
  refine va_callr hr hw.2.2 (fun q _ h => hF q h) hF (fun u ra t H1 locs1 ht _ hp hB _ hk hS1 => kk u ra H1 locs1 hp ?_)
  subst ht
  exact wd_join E hw isC isR hC hR hn hdis hk hB.1 hB.2 hS1
/-! ends -/
theorem ret_i (E : En p m c cc nL s args own G A) (hw : Wd G A s ws H locs) (hr : meth.sig.returnType = some .int) (hlk : meth.locks = false) {S : Type} {post : Int32 → S → Prop} {w1 : S → va_W} (hmc : cells ≤ mc) (hms : slots ≤ ms) (u : S) {r : Int32} (hp : post r u) (hu : w1 u = ws) (hdg : decode cc pc = .ok (.ireturn, 1)) : W p l e R s m args below meth c H locs cells slots (MQ below (va_Qi post (bw_ G A w1) A) args s mc ms A) (F0 m pc ls [.int r]) :=
  W.widen hmc hms (W.iret E.1 E.2.1 hr (fun t ht _ => ⟨⟨r, u, rfl, hp, by rw [ht, hu]; exact hw.1, by rw [hu]; exact hw.2.1⟩, hw.2.2.F ht⟩) hw.2.2.2.2 hdg hlk)
theorem ret_z (E : En p m c cc nL s args own G A) (hw : Wd G A s ws H locs) (hr : meth.sig.returnType = some .boolean) (hlk : meth.locks = false) {S : Type} {post : Int32 → S → Prop} {w1 : S → va_W} (hmc : cells ≤ mc) (hms : slots ≤ ms) (u : S) {r : Int32} (hz : narrow .boolean (.int r) = .int r) (hp : post r u) (hu : w1 u = ws) (hdg : decode cc pc = .ok (.ireturn, 1)) : W p l e R s m args below meth c H locs cells slots (MQ below (va_Qi post (bw_ G A w1) A) args s mc ms A) (F0 m pc ls [.int r]) :=
  W.widen hmc hms (W.zret E.1 E.2.1 hr hz (fun t ht _ => ⟨⟨r, u, rfl, hp, by rw [ht, hu]; exact hw.1, by rw [hu]; exact hw.2.1⟩, hw.2.2.F ht⟩) hw.2.2.2.2 hdg hlk)
theorem ret_l (E : En p m c cc nL s args own G A) (hw : Wd G A s ws H locs) (hr : meth.sig.returnType = some .long) (hlk : meth.locks = false) {S : Type} {post : Int64 → S → Prop} {w1 : S → va_W} (hmc : cells ≤ mc) (hms : slots ≤ ms) (u : S) {r : Int64} (hp : post r u) (hu : w1 u = ws) (hdg : decode cc pc = .ok (.lreturn, 1)) : W p l e R s m args below meth c H locs cells slots (MQ below (va_Ql post (bw_ G A w1) A) args s mc ms A) (F0 m pc ls [.long r]) :=
  W.widen hmc hms (W.lret E.1 E.2.1 hr (fun t ht _ => ⟨⟨r, u, rfl, hp, by rw [ht, hu]; exact hw.1, by rw [hu]; exact hw.2.1⟩, hw.2.2.F ht⟩) hw.2.2.2.2 hdg hlk)
theorem ret_v (E : En p m c cc nL s args own G A) (hw : Wd G A s ws H locs) (hr : meth.sig.returnType = none) (hlk : meth.locks = false) {S : Type} {post : S → Prop} {w1 : S → va_W} (hmc : cells ≤ mc) (hms : slots ≤ ms) (u : S) (hp : post u) (hu : w1 u = ws) (hdg : decode cc pc = .ok (.return_, 1)) : W p l e R s m args below meth c H locs cells slots (MQ below (va_Qv post (bw_ G A w1) A) args s mc ms A) (F0 m pc ls []) :=
  W.widen hmc hms (W.vret E.1 E.2.1 hr (fun t ht _ => ⟨⟨u, rfl, hp, by rw [ht, hu]; exact hw.1, by rw [hu]; exact hw.2.1⟩, hw.2.2.F ht⟩) hw.2.2.2.2 hdg hlk)
theorem ret_r (E : En p m c cc nL s args own G A) (hw : Wd G A s ws H locs) {rt : FieldType} (hr : meth.sig.returnType = some rt) (hrt : ∃ t, rt = .array t) (hlk : meth.locks = false) {S : Type} {post : S → Prop} {w1 : S → Nat → va_W} (hmc : cells ≤ mc) (hms : slots ≤ ms) (u : S) {r : Nat} (hp : post u) (hu : w1 u r = ws) (hdg : decode cc pc = .ok (.areturn, 1)) : W p l e R s m args below meth c H locs cells slots (MQ below (va_Qr post (bwr_ G A w1) A) args s mc ms A) (F0 m pc ls [.ref r]) :=
  W.widen hmc hms (W.aret E.1 E.2.1 hr (Or.inr hrt) (Or.inr ⟨r, rfl⟩) (fun t ht _ => ⟨⟨u, r, rfl, hp, by rw [ht, hu]; exact hw.1, by rw [hu]; exact hw.2.1⟩, hw.2.2.F ht⟩) hw.2.2.2.2 hdg hlk)
end ROWS
end
section
/-! THE PLAIN LAW: letters, bits, rooms; no program here -/
/-- g, but from place p on the first n values of V -/
def bk {α : Type} (g : Nat → α) (p : Nat) (V : Nat → α) (n : Nat) : Nat → α := fun j => if p ≤ j ∧ j < p + n then V (j - p) else g j
theorem bk_0 {α : Type} (g : Nat → α) (p : Nat) (V : Nat → α) : bk g p V 0 = g := by
  funext j
  unfold bk
  rw [if_neg (by omega)]
theorem bk_upd {g V : Nat → Int32} {p n k : Nat} {x : Int32} (hk : k = p + n) (hx : x = V n) : upd (bk g p V n) k x = bk g p V (n + 1) := by
  subst hk
  subst hx
  funext j
  unfold upd bk
  by_cases h : j = p + n
  · subst h
    rw [if_pos rfl, if_pos (by omega), Nat.add_sub_cancel_left]
  · rw [if_neg h]
    by_cases h2 : p ≤ j ∧ j < p + n
    · rw [if_pos h2, if_pos (by omega)]
    · rw [if_neg h2, if_neg (by omega)]
theorem bk_upd0 {g V : Nat → Int32} {p k : Nat} {x : Int32} (hk : k = p) (hx : x = V 0) : upd g k x = bk g p V 1 := by
  rw [← bk_upd (g := g) (n := 0) hk hx, bk_0]
theorem bk_map {α β : Type} (h : α → β) (g : Nat → α) (p : Nat) (V : Nat → α) (n : Nat) : bk (fun j => h (g j)) p (fun j => h (V j)) n = fun j => h (bk g p V n j) := by
  funext j
  unfold bk
  by_cases h2 : p ≤ j ∧ j < p + n
  · rw [if_pos h2, if_pos h2]
  · rw [if_neg h2, if_neg h2]
theorem bk_in {α : Type} {g : Nat → α} {p : Nat} {V : Nat → α} {n j : Nat} (h : j < n) : bk g p V n (p + j) = V j := by
  unfold bk
  rw [if_pos (by omega), Nat.add_sub_cancel_left]
theorem bk_all {α : Type} {g : Nat → α} {V : Nat → α} {n j : Nat} (h : j < n) : bk g 0 V n j = V j := by
  unfold bk
  rw [if_pos (by omega), Nat.sub_zero]
theorem bk_lt {g : Nat → Nat} {p : Nat} {V : Nat → Nat} {n b : Nat} (hg : ∀ j, g j < b) (hV : ∀ j, V j < b) : ∀ j, bk g p V n j < b := by
  intro j
  unfold bk
  by_cases h2 : p ≤ j ∧ j < p + n
  · rw [if_pos h2]; exact hV _
  · rw [if_neg h2]; exact hg _
/-- two pieces one behind the other are one -/
theorem bk_bk {α : Type} (g : Nat → α) (p : Nat) (V V2 V3 : Nat → α) (n k : Nat) (h1 : ∀ j, j < n → V3 j = V j) (h2 : ∀ j, j < k → V3 (n + j) = V2 j) : bk (bk g p V n) (p + n) V2 k = bk g p V3 (n + k) := by
  funext j
  unfold bk
  by_cases c1 : p + n ≤ j ∧ j < p + n + k
  · rw [if_pos c1, if_pos (by omega), ← h2 (j - (p + n)) (by omega)]
    congr 1
    omega
  · rw [if_neg c1]
    by_cases c2 : p ≤ j ∧ j < p + n
    · rw [if_pos c2, if_pos (by omega), h1 _ (by omega)]
    · rw [if_neg c2, if_neg (by omega)]
/-! ints -/
def lo31 (x : Int32) : Nat := x.toBitVec.toNat % 2 ^ 31
def lo16 (x : Int32) : Nat := x.toBitVec.toNat % 2 ^ 16
def md (x : Int32) (m : Nat) : Nat := lo31 x % m
theorem lo31_and (x : Int32) : x &&& 2147483647 = nI (lo31 x) := pk_and x 31 (by decide +kernel)
theorem lo31_lt (x : Int32) : lo31 x < 2 ^ 31 := Nat.mod_lt _ (by decide)
theorem lo16_and (x : Int32) : x &&& 65535 = nI (lo16 x) := pk_and x 16 (by decide +kernel)
theorem lo16_lt (x : Int32) : lo16 x < 65536 := Nat.mod_lt _ (by decide)
theorem lo16_nI {n : Nat} (h : n < 65536) : lo16 (nI n) = n := by
  unfold lo16
  rw [pk_tn (by omega)]
  exact Nat.mod_eq_of_lt h
theorem lo31_nI {n : Nat} (h : n < 2 ^ 31) : lo31 (nI n) = n := by
  unfold lo31
  rw [pk_tn (by omega)]
  exact Nat.mod_eq_of_lt h
theorem md_lt (x : Int32) {m : Nat} (h : 0 < m) : md x m < m := Nat.mod_lt _ h
theorem md_nI {n m : Nat} (h : n < 2 ^ 31) (hm : n < m) : md (nI n) m = n := by
  unfold md
  rw [lo31_nI h]
  exact Nat.mod_eq_of_lt hm
theorem nI_lit0 : (0 : Int32) = nI 0 := by decide +kernel
/-- the byte of an int with a given place, from the left -/
def by4 (w : Int32) (j : Nat) : Nat := (w >>> (nI (24 - j * 8) &&& 31)).toBitVec.toNat % 256
theorem by4_lt (w : Int32) (j : Nat) : by4 w j < 256 := Nat.mod_lt _ (by decide)
theorem i2b_sb (z : Int32) : z.toInt8.toInt32 = sb_b (z.toBitVec.toNat % 256) := by
  apply Int32.toInt_inj.mp
  unfold sb_b
  rw [lg_i2b_toInt, lg_i2b_toInt, nI_toInt (by omega)]
  show z.toBitVec.toInt.bmod (2 ^ 8) = _
  rw [BitVec.toInt_eq_toNat_bmod, Int.bmod_bmod_of_dvd (by decide)]
  simp only [Int.natCast_emod]
  rw [show ((256 : Nat) : Int) = ((2 ^ 8 : Nat) : Int) from rfl, Int.emod_bmod]
theorem by4_and (w : Int32) (j : Nat) : (w >>> (nI (24 - j * 8) &&& 31)) &&& nI 255 = nI (by4 w j) := pk_and _ 8 (by decide +kernel)
theorem by4_b (w : Int32) {j d : Nat} (h : 24 - j * 8 = d) : (w >>> (nI d &&& 31)).toInt8.toInt32 = sb_b (by4 w j) := by
  subst h
  exact i2b_sb _
theorem by4_b3 (w : Int32) : w.toInt8.toInt32 = sb_b (by4 w 3) := by
  rw [← by4_b w (j := 3) rfl, show nI 0 = (0 : Int32) from nI_0, sb_shr0]
theorem nar_sb (t : Nat) : vp_nar .byte (sb_b t) = sb_b t := pk_vb _
theorem nar_sm : ∀ t, t < 128 → vp_nar .byte (nI t) = nI t := by decide +kernel
theorem sb_mask {t : Nat} (h : t < 256) : sb_b t &&& nI 255 = nI t := (sb_byte t h).1
theorem sb_0 : sb_b 0 = 0 := by decide +kernel
/-- which of the sixteen bytes -/
def by16 (a b c d : Int32) (k : Nat) : Nat := by4 (if k < 4 then a else if k < 8 then b else if k < 12 then c else d) (k % 4)
theorem by16_lt (a b c d : Int32) (k : Nat) : by16 a b c d k < 256 := by4_lt _ _
/-! kinds -/
def bts (k : Nat) : Nat := if k = 0 then 4 else if k = 1 then 6 else 5
def grp (k : Nat) : Nat := if k = 0 then 2 else if k = 1 then 4 else 8
def rmN (k n : Nat) : Nat := (8 * n + bts k * grp k - 1) / (bts k * grp k) * grp k
theorem bts_in (k : Nat) : 4 ≤ bts k ∧ bts k ≤ 6 := by
  unfold bts
  by_cases h : k = 0
  · rw [if_pos h]; omega
  · rw [if_neg h]
    by_cases h1 : k = 1
    · rw [if_pos h1]; omega
    · rw [if_neg h1]; omega
theorem grp_in (k : Nat) : 2 ≤ grp k ∧ grp k ≤ 8 := by
  unfold grp
  by_cases h : k = 0
  · rw [if_pos h]; omega
  · rw [if_neg h]
    by_cases h1 : k = 1
    · rw [if_pos h1]; omega
    · rw [if_neg h1]; omega
theorem bg_in (k : Nat) : 8 ≤ bts k * grp k ∧ bts k * grp k ≤ 40 := by
  unfold bts grp
  by_cases h : k = 0
  · rw [if_pos h, if_pos h]; omega
  · rw [if_neg h, if_neg h]
    by_cases h1 : k = 1
    · rw [if_pos h1, if_pos h1]; omega
    · rw [if_neg h1, if_neg h1]; omega
theorem rmN_0 (n : Nat) : rmN 0 n = n * 2 := by
  show (8 * n + 8 - 1) / 8 * 2 = n * 2
  omega
theorem rmN_1 (n : Nat) : rmN 1 n = (n + 2) / 3 * 4 := by
  show (8 * n + 24 - 1) / 24 * 4 = (n + 2) / 3 * 4
  omega
theorem rmN_2 (n : Nat) : rmN 2 n = (n + 4) / 5 * 8 := by
  show (8 * n + 40 - 1) / 40 * 8 = (n + 4) / 5 * 8
  omega
theorem k3 {k : Nat} (h : k < 3) : k = 0 ∨ k = 1 ∨ k = 2 := by omega
theorem rmN_le {k : Nat} (hk : k < 3) (n : Nat) : rmN k n ≤ 2 * n + 8 := by
  rcases k3 hk with rfl | rfl | rfl
  · rw [rmN_0]; omega
  · rw [rmN_1]; omega
  · rw [rmN_2]; omega
/-! bits -/
def bitN (t : Nat → Nat) (f c q : Nat) : Nat := if q < 8 * c then t (f + q / 8) / 2 ^ (7 - q % 8) % 2 else 0
def accN (t : Nat → Nat) (f c lo : Nat) : Nat → Nat
  | 0 => 0
  | n + 1 => 2 * accN t f c lo n + bitN t f c (lo + n)
def valN (t : Nat → Nat) (k f c i : Nat) : Nat := accN t f c (i * bts k) (bts k)
def letN (t : Nat → Nat) (k f c i : Nat) : Nat := if i * bts k < 8 * c then sgn k (valN t k f c i) else 61
def byt (t : Nat → Nat) (f c i : Nat) : Nat := if i < c then t (f + i) else 0
theorem bitN_lt (t : Nat → Nat) (f c q : Nat) : bitN t f c q < 2 := by
  unfold bitN
  by_cases h : q < 8 * c
  · rw [if_pos h]; exact Nat.mod_lt _ (by decide)
  · rw [if_neg h]; decide
theorem accN_lt (t : Nat → Nat) (f c lo : Nat) : ∀ n, accN t f c lo n < 2 ^ n
  | 0 => Nat.one_pos
  | n + 1 => by
    have h1 := accN_lt t f c lo n
    have h2 := bitN_lt t f c (lo + n)
    rw [Nat.pow_succ]
    show 2 * accN t f c lo n + bitN t f c (lo + n) < _
    omega
theorem valN_lt0 (t : Nat → Nat) (f c i : Nat) : valN t 0 f c i < 16 := accN_lt t f c _ 4
theorem valN_lt (t : Nat → Nat) (k f c i : Nat) : valN t k f c i < 64 := by
  have h1 := accN_lt t f c (i * bts k) (bts k)
  have h2 : 2 ^ bts k ≤ 2 ^ 6 := Nat.pow_le_pow_right (by decide) (bts_in k).2
  have h3 : (2 : Nat) ^ 6 = 64 := rfl
  unfold valN
  omega
theorem sgn_lt {k v : Nat} (h : v < 64) (h0 : k = 0 → v < 16) : sgn k v < 128 := by
  unfold sgn
  by_cases c0 : k = 0
  · have := h0 c0
    rw [if_pos c0]
    by_cases c1 : v < 10
    · rw [if_pos c1]; omega
    · rw [if_neg c1]; omega
  · rw [if_neg c0]
    by_cases c2 : k = 2
    · rw [if_pos c2]
      by_cases c1 : v < 26
      · rw [if_pos c1]; omega
      · rw [if_neg c1]; omega
    · rw [if_neg c2]
      by_cases c1 : v < 26
      · rw [if_pos c1]; omega
      · rw [if_neg c1]
        by_cases c3 : v < 52
        · rw [if_pos c3]; omega
        · rw [if_neg c3]
          by_cases c4 : v < 62
          · rw [if_pos c4]; omega
          · rw [if_neg c4]
            by_cases c5 : v = 62
            · rw [if_pos c5]; decide
            · rw [if_neg c5]; decide
theorem letN_lt (t : Nat → Nat) (k f c i : Nat) : letN t k f c i < 128 := by
  unfold letN
  by_cases h : i * bts k < 8 * c
  · rw [if_pos h]
    exact sgn_lt (valN_lt t k f c i) (fun e => by subst e; exact valN_lt0 t f c i)
  · rw [if_neg h]; decide
theorem bit_at (t : Nat → Nat) (f c : Nat) {q i r : Nat} (hq : q = 8 * i + r) (hr : r < 8) : bitN t f c q = byt t f c i / 2 ^ (7 - r) % 2 := by
  subst hq
  unfold bitN byt
  have e1 : (8 * i + r) / 8 = i := by omega
  have e2 : (8 * i + r) % 8 = r := by omega
  rw [e1, e2]
  by_cases h : i < c
  · rw [if_pos (by omega), if_pos h]
  · rw [if_neg (by omega), if_neg h]
    simp
theorem acc4 (t : Nat → Nat) (f c lo : Nat) : accN t f c lo 4 = 8 * bitN t f c lo + 4 * bitN t f c (lo + 1) + 2 * bitN t f c (lo + 2) + bitN t f c (lo + 3) := by
  show 2 * (2 * (2 * (2 * 0 + bitN t f c (lo + 0)) + bitN t f c (lo + 1)) + bitN t f c (lo + 2)) + bitN t f c (lo + 3) = _
  rw [Nat.add_zero]
  omega
theorem acc5 (t : Nat → Nat) (f c lo : Nat) : accN t f c lo 5 = 16 * bitN t f c lo + 8 * bitN t f c (lo + 1) + 4 * bitN t f c (lo + 2) + 2 * bitN t f c (lo + 3) + bitN t f c (lo + 4) := by
  show 2 * accN t f c lo 4 + bitN t f c (lo + 4) = _
  rw [acc4]
  omega
theorem acc6 (t : Nat → Nat) (f c lo : Nat) : accN t f c lo 6 = 32 * bitN t f c lo + 16 * bitN t f c (lo + 1) + 8 * bitN t f c (lo + 2) + 4 * bitN t f c (lo + 3) + 2 * bitN t f c (lo + 4) + bitN t f c (lo + 5) := by
  show 2 * accN t f c lo 5 + bitN t f c (lo + 5) = _
  rw [acc5]
  omega
theorem byt_lt {t : Nat → Nat} (ht : ∀ j, t j < 256) (f c i : Nat) : byt t f c i < 256 := by
  unfold byt
  by_cases h : i < c
  · rw [if_pos h]; exact ht _
  · rw [if_neg h]; decide
/-! the bits of a byte in pieces: from bit a (from the left), n bits, weight m behind -/
def v16 (b r : Nat) : Nat := if r = 0 then b / 16 else b % 16
def v64 (b1 b2 b3 r : Nat) : Nat := if r = 0 then b1 / 4 else if r = 1 then b1 % 4 * 16 + b2 / 16 else if r = 2 then b2 % 16 * 4 + b3 / 64 else b3 % 64
def v32 (b1 b2 b3 b4 b5 r : Nat) : Nat := if r = 0 then b1 / 8 else if r = 1 then b1 % 8 * 4 + b2 / 64 else if r = 2 then b2 / 2 % 32 else if r = 3 then b2 % 2 * 16 + b3 / 16 else if r = 4 then b3 % 16 * 2 + b4 / 128 else if r = 5 then b4 / 4 % 32 else if r = 6 then b4 % 4 * 8 + b5 / 32 else b5 % 32
theorem val16_0 {t : Nat → Nat} (ht : ∀ j, t j < 256) (f c g : Nat) : valN t 0 f c (2 * g + 0) = v16 (byt t f c g) 0 := by
  show accN t f c ((2 * g + 0) * 4) 4 = _
  rw [acc4, bit_at t f c (q := (2 * g + 0) * 4) (i := (g)) (r := 0) (by omega) (by decide), bit_at t f c (q := (2 * g + 0) * 4 + 1) (i := (g)) (r := 1) (by omega) (by decide), bit_at t f c (q := (2 * g + 0) * 4 + 2) (i := (g)) (r := 2) (by omega) (by decide), bit_at t f c (q := (2 * g + 0) * 4 + 3) (i := (g)) (r := 3) (by omega) (by decide)]
  have h0 := byt_lt ht f c (g)
  generalize byt t f c (g) = x0 at h0 ⊢
  show _ = x0 / 16
  simp only [Nat.reduceSub, Nat.reducePow]
  omega
theorem val16_1 {t : Nat → Nat} (ht : ∀ j, t j < 256) (f c g : Nat) : valN t 0 f c (2 * g + 1) = v16 (byt t f c g) 1 := by
  show accN t f c ((2 * g + 1) * 4) 4 = _
  rw [acc4, bit_at t f c (q := (2 * g + 1) * 4) (i := (g)) (r := 4) (by omega) (by decide), bit_at t f c (q := (2 * g + 1) * 4 + 1) (i := (g)) (r := 5) (by omega) (by decide), bit_at t f c (q := (2 * g + 1) * 4 + 2) (i := (g)) (r := 6) (by omega) (by decide), bit_at t f c (q := (2 * g + 1) * 4 + 3) (i := (g)) (r := 7) (by omega) (by decide)]
  have h0 := byt_lt ht f c (g)
  generalize byt t f c (g) = x0 at h0 ⊢
  show _ = x0 % 16
  simp only [Nat.reduceSub, Nat.reducePow]
  omega
theorem val64_0 {t : Nat → Nat} (ht : ∀ j, t j < 256) (f c g : Nat) : valN t 1 f c (4 * g + 0) = v64 (byt t f c (3 * g + 0)) (byt t f c (3 * g + 1)) (byt t f c (3 * g + 2)) 0 := by
  show accN t f c ((4 * g + 0) * 6) 6 = _
  rw [acc6, bit_at t f c (q := (4 * g + 0) * 6) (i := (3 * g + 0)) (r := 0) (by omega) (by decide), bit_at t f c (q := (4 * g + 0) * 6 + 1) (i := (3 * g + 0)) (r := 1) (by omega) (by decide), bit_at t f c (q := (4 * g + 0) * 6 + 2) (i := (3 * g + 0)) (r := 2) (by omega) (by decide), bit_at t f c (q := (4 * g + 0) * 6 + 3) (i := (3 * g + 0)) (r := 3) (by omega) (by decide), bit_at t f c (q := (4 * g + 0) * 6 + 4) (i := (3 * g + 0)) (r := 4) (by omega) (by decide), bit_at t f c (q := (4 * g + 0) * 6 + 5) (i := (3 * g + 0)) (r := 5) (by omega) (by decide)]
  have h0 := byt_lt ht f c (3 * g + 0)
  generalize byt t f c (3 * g + 0) = x0 at h0 ⊢
  have h1 := byt_lt ht f c (3 * g + 1)
  generalize byt t f c (3 * g + 1) = x1 at h1 ⊢
  have h2 := byt_lt ht f c (3 * g + 2)
  generalize byt t f c (3 * g + 2) = x2 at h2 ⊢
  show _ = x0 / 4
  simp only [Nat.reduceSub, Nat.reducePow]
  omega
theorem val64_1 {t : Nat → Nat} (ht : ∀ j, t j < 256) (f c g : Nat) : valN t 1 f c (4 * g + 1) = v64 (byt t f c (3 * g + 0)) (byt t f c (3 * g + 1)) (byt t f c (3 * g + 2)) 1 := by
  show accN t f c ((4 * g + 1) * 6) 6 = _
  rw [acc6, bit_at t f c (q := (4 * g + 1) * 6) (i := (3 * g + 0)) (r := 6) (by omega) (by decide), bit_at t f c (q := (4 * g + 1) * 6 + 1) (i := (3 * g + 0)) (r := 7) (by omega) (by decide), bit_at t f c (q := (4 * g + 1) * 6 + 2) (i := (3 * g + 1)) (r := 0) (by omega) (by decide), bit_at t f c (q := (4 * g + 1) * 6 + 3) (i := (3 * g + 1)) (r := 1) (by omega) (by decide), bit_at t f c (q := (4 * g + 1) * 6 + 4) (i := (3 * g + 1)) (r := 2) (by omega) (by decide), bit_at t f c (q := (4 * g + 1) * 6 + 5) (i := (3 * g + 1)) (r := 3) (by omega) (by decide)]
  have h0 := byt_lt ht f c (3 * g + 0)
  generalize byt t f c (3 * g + 0) = x0 at h0 ⊢
  have h1 := byt_lt ht f c (3 * g + 1)
  generalize byt t f c (3 * g + 1) = x1 at h1 ⊢
  have h2 := byt_lt ht f c (3 * g + 2)
  generalize byt t f c (3 * g + 2) = x2 at h2 ⊢
  show _ = x0 % 4 * 16 + x1 / 16
  simp only [Nat.reduceSub, Nat.reducePow]
  omega
theorem val64_2 {t : Nat → Nat} (ht : ∀ j, t j < 256) (f c g : Nat) : valN t 1 f c (4 * g + 2) = v64 (byt t f c (3 * g + 0)) (byt t f c (3 * g + 1)) (byt t f c (3 * g + 2)) 2 := by
  show accN t f c ((4 * g + 2) * 6) 6 = _
  rw [acc6, bit_at t f c (q := (4 * g + 2) * 6) (i := (3 * g + 1)) (r := 4) (by omega) (by decide), bit_at t f c (q := (4 * g + 2) * 6 + 1) (i := (3 * g + 1)) (r := 5) (by omega) (by decide), bit_at t f c (q := (4 * g + 2) * 6 + 2) (i := (3 * g + 1)) (r := 6) (by omega) (by decide), bit_at t f c (q := (4 * g + 2) * 6 + 3) (i := (3 * g + 1)) (r := 7) (by omega) (by decide), bit_at t f c (q := (4 * g + 2) * 6 + 4) (i := (3 * g + 2)) (r := 0) (by omega) (by decide), bit_at t f c (q := (4 * g + 2) * 6 + 5) (i := (3 * g + 2)) (r := 1) (by omega) (by decide)]
  have h0 := byt_lt ht f c (3 * g + 0)
  generalize byt t f c (3 * g + 0) = x0 at h0 ⊢
  have h1 := byt_lt ht f c (3 * g + 1)
  generalize byt t f c (3 * g + 1) = x1 at h1 ⊢
  have h2 := byt_lt ht f c (3 * g + 2)
  generalize byt t f c (3 * g + 2) = x2 at h2 ⊢
  show _ = x1 % 16 * 4 + x2 / 64
  simp only [Nat.reduceSub, Nat.reducePow]
  omega
theorem val64_3 {t : Nat → Nat} (ht : ∀ j, t j < 256) (f c g : Nat) : valN t 1 f c (4 * g + 3) = v64 (byt t f c (3 * g + 0)) (byt t f c (3 * g + 1)) (byt t f c (3 * g + 2)) 3 := by
  show accN t f c ((4 * g + 3) * 6) 6 = _
  rw [acc6, bit_at t f c (q := (4 * g + 3) * 6) (i := (3 * g + 2)) (r := 2) (by omega) (by decide), bit_at t f c (q := (4 * g + 3) * 6 + 1) (i := (3 * g + 2)) (r := 3) (by omega) (by decide), bit_at t f c (q := (4 * g + 3) * 6 + 2) (i := (3 * g + 2)) (r := 4) (by omega) (by decide), bit_at t f c (q := (4 * g + 3) * 6 + 3) (i := (3 * g + 2)) (r := 5) (by omega) (by decide), bit_at t f c (q := (4 * g + 3) * 6 + 4) (i := (3 * g + 2)) (r := 6) (by omega) (by decide), bit_at t f c (q := (4 * g + 3) * 6 + 5) (i := (3 * g + 2)) (r := 7) (by omega) (by decide)]
  have h0 := byt_lt ht f c (3 * g + 0)
  generalize byt t f c (3 * g + 0) = x0 at h0 ⊢
  have h1 := byt_lt ht f c (3 * g + 1)
  generalize byt t f c (3 * g + 1) = x1 at h1 ⊢
  have h2 := byt_lt ht f c (3 * g + 2)
  generalize byt t f c (3 * g + 2) = x2 at h2 ⊢
  show _ = x2 % 64
  simp only [Nat.reduceSub, Nat.reducePow]
  omega
theorem val32_0 {t : Nat → Nat} (ht : ∀ j, t j < 256) (f c g : Nat) : valN t 2 f c (8 * g + 0) = v32 (byt t f c (5 * g + 0)) (byt t f c (5 * g + 1)) (byt t f c (5 * g + 2)) (byt t f c (5 * g + 3)) (byt t f c (5 * g + 4)) 0 := by
  show accN t f c ((8 * g + 0) * 5) 5 = _
  rw [acc5, bit_at t f c (q := (8 * g + 0) * 5) (i := (5 * g + 0)) (r := 0) (by omega) (by decide), bit_at t f c (q := (8 * g + 0) * 5 + 1) (i := (5 * g + 0)) (r := 1) (by omega) (by decide), bit_at t f c (q := (8 * g + 0) * 5 + 2) (i := (5 * g + 0)) (r := 2) (by omega) (by decide), bit_at t f c (q := (8 * g + 0) * 5 + 3) (i := (5 * g + 0)) (r := 3) (by omega) (by decide), bit_at t f c (q := (8 * g + 0) * 5 + 4) (i := (5 * g + 0)) (r := 4) (by omega) (by decide)]
  have h0 := byt_lt ht f c (5 * g + 0)
  generalize byt t f c (5 * g + 0) = x0 at h0 ⊢
  have h1 := byt_lt ht f c (5 * g + 1)
  generalize byt t f c (5 * g + 1) = x1 at h1 ⊢
  have h2 := byt_lt ht f c (5 * g + 2)
  generalize byt t f c (5 * g + 2) = x2 at h2 ⊢
  have h3 := byt_lt ht f c (5 * g + 3)
  generalize byt t f c (5 * g + 3) = x3 at h3 ⊢
  have h4 := byt_lt ht f c (5 * g + 4)
  generalize byt t f c (5 * g + 4) = x4 at h4 ⊢
  show _ = x0 / 8
  simp only [Nat.reduceSub, Nat.reducePow]
  omega
theorem val32_1 {t : Nat → Nat} (ht : ∀ j, t j < 256) (f c g : Nat) : valN t 2 f c (8 * g + 1) = v32 (byt t f c (5 * g + 0)) (byt t f c (5 * g + 1)) (byt t f c (5 * g + 2)) (byt t f c (5 * g + 3)) (byt t f c (5 * g + 4)) 1 := by
  show accN t f c ((8 * g + 1) * 5) 5 = _
  rw [acc5, bit_at t f c (q := (8 * g + 1) * 5) (i := (5 * g + 0)) (r := 5) (by omega) (by decide), bit_at t f c (q := (8 * g + 1) * 5 + 1) (i := (5 * g + 0)) (r := 6) (by omega) (by decide), bit_at t f c (q := (8 * g + 1) * 5 + 2) (i := (5 * g + 0)) (r := 7) (by omega) (by decide), bit_at t f c (q := (8 * g + 1) * 5 + 3) (i := (5 * g + 1)) (r := 0) (by omega) (by decide), bit_at t f c (q := (8 * g + 1) * 5 + 4) (i := (5 * g + 1)) (r := 1) (by omega) (by decide)]
  have h0 := byt_lt ht f c (5 * g + 0)
  generalize byt t f c (5 * g + 0) = x0 at h0 ⊢
  have h1 := byt_lt ht f c (5 * g + 1)
  generalize byt t f c (5 * g + 1) = x1 at h1 ⊢
  have h2 := byt_lt ht f c (5 * g + 2)
  generalize byt t f c (5 * g + 2) = x2 at h2 ⊢
  have h3 := byt_lt ht f c (5 * g + 3)
  generalize byt t f c (5 * g + 3) = x3 at h3 ⊢
  have h4 := byt_lt ht f c (5 * g + 4)
  generalize byt t f c (5 * g + 4) = x4 at h4 ⊢
  show _ = x0 % 8 * 4 + x1 / 64
  simp only [Nat.reduceSub, Nat.reducePow]
  omega
theorem val32_2 {t : Nat → Nat} (ht : ∀ j, t j < 256) (f c g : Nat) : valN t 2 f c (8 * g + 2) = v32 (byt t f c (5 * g + 0)) (byt t f c (5 * g + 1)) (byt t f c (5 * g + 2)) (byt t f c (5 * g + 3)) (byt t f c (5 * g + 4)) 2 := by
  show accN t f c ((8 * g + 2) * 5) 5 = _
  rw [acc5, bit_at t f c (q := (8 * g + 2) * 5) (i := (5 * g + 1)) (r := 2) (by omega) (by decide), bit_at t f c (q := (8 * g + 2) * 5 + 1) (i := (5 * g + 1)) (r := 3) (by omega) (by decide), bit_at t f c (q := (8 * g + 2) * 5 + 2) (i := (5 * g + 1)) (r := 4) (by omega) (by decide), bit_at t f c (q := (8 * g + 2) * 5 + 3) (i := (5 * g + 1)) (r := 5) (by omega) (by decide), bit_at t f c (q := (8 * g + 2) * 5 + 4) (i := (5 * g + 1)) (r := 6) (by omega) (by decide)]
  have h0 := byt_lt ht f c (5 * g + 0)
  generalize byt t f c (5 * g + 0) = x0 at h0 ⊢
  have h1 := byt_lt ht f c (5 * g + 1)
  generalize byt t f c (5 * g + 1) = x1 at h1 ⊢
  have h2 := byt_lt ht f c (5 * g + 2)
  generalize byt t f c (5 * g + 2) = x2 at h2 ⊢
  have h3 := byt_lt ht f c (5 * g + 3)
  generalize byt t f c (5 * g + 3) = x3 at h3 ⊢
  have h4 := byt_lt ht f c (5 * g + 4)
  generalize byt t f c (5 * g + 4) = x4 at h4 ⊢
  show _ = x1 / 2 % 32
  simp only [Nat.reduceSub, Nat.reducePow]
  omega
theorem val32_3 {t : Nat → Nat} (ht : ∀ j, t j < 256) (f c g : Nat) : valN t 2 f c (8 * g + 3) = v32 (byt t f c (5 * g + 0)) (byt t f c (5 * g + 1)) (byt t f c (5 * g + 2)) (byt t f c (5 * g + 3)) (byt t f c (5 * g + 4)) 3 := by
  show accN t f c ((8 * g + 3) * 5) 5 = _
  rw [acc5, bit_at t f c (q := (8 * g + 3) * 5) (i := (5 * g + 1)) (r := 7) (by omega) (by decide), bit_at t f c (q := (8 * g + 3) * 5 + 1) (i := (5 * g + 2)) (r := 0) (by omega) (by decide), bit_at t f c (q := (8 * g + 3) * 5 + 2) (i := (5 * g + 2)) (r := 1) (by omega) (by decide), bit_at t f c (q := (8 * g + 3) * 5 + 3) (i := (5 * g + 2)) (r := 2) (by omega) (by decide), bit_at t f c (q := (8 * g + 3) * 5 + 4) (i := (5 * g + 2)) (r := 3) (by omega) (by decide)]
  have h0 := byt_lt ht f c (5 * g + 0)
  generalize byt t f c (5 * g + 0) = x0 at h0 ⊢
  have h1 := byt_lt ht f c (5 * g + 1)
  generalize byt t f c (5 * g + 1) = x1 at h1 ⊢
  have h2 := byt_lt ht f c (5 * g + 2)
  generalize byt t f c (5 * g + 2) = x2 at h2 ⊢
  have h3 := byt_lt ht f c (5 * g + 3)
  generalize byt t f c (5 * g + 3) = x3 at h3 ⊢
  have h4 := byt_lt ht f c (5 * g + 4)
  generalize byt t f c (5 * g + 4) = x4 at h4 ⊢
  show _ = x1 % 2 * 16 + x2 / 16
  simp only [Nat.reduceSub, Nat.reducePow]
  omega
theorem val32_4 {t : Nat → Nat} (ht : ∀ j, t j < 256) (f c g : Nat) : valN t 2 f c (8 * g + 4) = v32 (byt t f c (5 * g + 0)) (byt t f c (5 * g + 1)) (byt t f c (5 * g + 2)) (byt t f c (5 * g + 3)) (byt t f c (5 * g + 4)) 4 := by
  show accN t f c ((8 * g + 4) * 5) 5 = _
  rw [acc5, bit_at t f c (q := (8 * g + 4) * 5) (i := (5 * g + 2)) (r := 4) (by omega) (by decide), bit_at t f c (q := (8 * g + 4) * 5 + 1) (i := (5 * g + 2)) (r := 5) (by omega) (by decide), bit_at t f c (q := (8 * g + 4) * 5 + 2) (i := (5 * g + 2)) (r := 6) (by omega) (by decide), bit_at t f c (q := (8 * g + 4) * 5 + 3) (i := (5 * g + 2)) (r := 7) (by omega) (by decide), bit_at t f c (q := (8 * g + 4) * 5 + 4) (i := (5 * g + 3)) (r := 0) (by omega) (by decide)]
  have h0 := byt_lt ht f c (5 * g + 0)
  generalize byt t f c (5 * g + 0) = x0 at h0 ⊢
  have h1 := byt_lt ht f c (5 * g + 1)
  generalize byt t f c (5 * g + 1) = x1 at h1 ⊢
  have h2 := byt_lt ht f c (5 * g + 2)
  generalize byt t f c (5 * g + 2) = x2 at h2 ⊢
  have h3 := byt_lt ht f c (5 * g + 3)
  generalize byt t f c (5 * g + 3) = x3 at h3 ⊢
  have h4 := byt_lt ht f c (5 * g + 4)
  generalize byt t f c (5 * g + 4) = x4 at h4 ⊢
  show _ = x2 % 16 * 2 + x3 / 128
  simp only [Nat.reduceSub, Nat.reducePow]
  omega
theorem val32_5 {t : Nat → Nat} (ht : ∀ j, t j < 256) (f c g : Nat) : valN t 2 f c (8 * g + 5) = v32 (byt t f c (5 * g + 0)) (byt t f c (5 * g + 1)) (byt t f c (5 * g + 2)) (byt t f c (5 * g + 3)) (byt t f c (5 * g + 4)) 5 := by
  show accN t f c ((8 * g + 5) * 5) 5 = _
  rw [acc5, bit_at t f c (q := (8 * g + 5) * 5) (i := (5 * g + 3)) (r := 1) (by omega) (by decide), bit_at t f c (q := (8 * g + 5) * 5 + 1) (i := (5 * g + 3)) (r := 2) (by omega) (by decide), bit_at t f c (q := (8 * g + 5) * 5 + 2) (i := (5 * g + 3)) (r := 3) (by omega) (by decide), bit_at t f c (q := (8 * g + 5) * 5 + 3) (i := (5 * g + 3)) (r := 4) (by omega) (by decide), bit_at t f c (q := (8 * g + 5) * 5 + 4) (i := (5 * g + 3)) (r := 5) (by omega) (by decide)]
  have h0 := byt_lt ht f c (5 * g + 0)
  generalize byt t f c (5 * g + 0) = x0 at h0 ⊢
  have h1 := byt_lt ht f c (5 * g + 1)
  generalize byt t f c (5 * g + 1) = x1 at h1 ⊢
  have h2 := byt_lt ht f c (5 * g + 2)
  generalize byt t f c (5 * g + 2) = x2 at h2 ⊢
  have h3 := byt_lt ht f c (5 * g + 3)
  generalize byt t f c (5 * g + 3) = x3 at h3 ⊢
  have h4 := byt_lt ht f c (5 * g + 4)
  generalize byt t f c (5 * g + 4) = x4 at h4 ⊢
  show _ = x3 / 4 % 32
  simp only [Nat.reduceSub, Nat.reducePow]
  omega
theorem val32_6 {t : Nat → Nat} (ht : ∀ j, t j < 256) (f c g : Nat) : valN t 2 f c (8 * g + 6) = v32 (byt t f c (5 * g + 0)) (byt t f c (5 * g + 1)) (byt t f c (5 * g + 2)) (byt t f c (5 * g + 3)) (byt t f c (5 * g + 4)) 6 := by
  show accN t f c ((8 * g + 6) * 5) 5 = _
  rw [acc5, bit_at t f c (q := (8 * g + 6) * 5) (i := (5 * g + 3)) (r := 6) (by omega) (by decide), bit_at t f c (q := (8 * g + 6) * 5 + 1) (i := (5 * g + 3)) (r := 7) (by omega) (by decide), bit_at t f c (q := (8 * g + 6) * 5 + 2) (i := (5 * g + 4)) (r := 0) (by omega) (by decide), bit_at t f c (q := (8 * g + 6) * 5 + 3) (i := (5 * g + 4)) (r := 1) (by omega) (by decide), bit_at t f c (q := (8 * g + 6) * 5 + 4) (i := (5 * g + 4)) (r := 2) (by omega) (by decide)]
  have h0 := byt_lt ht f c (5 * g + 0)
  generalize byt t f c (5 * g + 0) = x0 at h0 ⊢
  have h1 := byt_lt ht f c (5 * g + 1)
  generalize byt t f c (5 * g + 1) = x1 at h1 ⊢
  have h2 := byt_lt ht f c (5 * g + 2)
  generalize byt t f c (5 * g + 2) = x2 at h2 ⊢
  have h3 := byt_lt ht f c (5 * g + 3)
  generalize byt t f c (5 * g + 3) = x3 at h3 ⊢
  have h4 := byt_lt ht f c (5 * g + 4)
  generalize byt t f c (5 * g + 4) = x4 at h4 ⊢
  show _ = x3 % 4 * 8 + x4 / 32
  simp only [Nat.reduceSub, Nat.reducePow]
  omega
theorem val32_7 {t : Nat → Nat} (ht : ∀ j, t j < 256) (f c g : Nat) : valN t 2 f c (8 * g + 7) = v32 (byt t f c (5 * g + 0)) (byt t f c (5 * g + 1)) (byt t f c (5 * g + 2)) (byt t f c (5 * g + 3)) (byt t f c (5 * g + 4)) 7 := by
  show accN t f c ((8 * g + 7) * 5) 5 = _
  rw [acc5, bit_at t f c (q := (8 * g + 7) * 5) (i := (5 * g + 4)) (r := 3) (by omega) (by decide), bit_at t f c (q := (8 * g + 7) * 5 + 1) (i := (5 * g + 4)) (r := 4) (by omega) (by decide), bit_at t f c (q := (8 * g + 7) * 5 + 2) (i := (5 * g + 4)) (r := 5) (by omega) (by decide), bit_at t f c (q := (8 * g + 7) * 5 + 3) (i := (5 * g + 4)) (r := 6) (by omega) (by decide), bit_at t f c (q := (8 * g + 7) * 5 + 4) (i := (5 * g + 4)) (r := 7) (by omega) (by decide)]
  have h0 := byt_lt ht f c (5 * g + 0)
  generalize byt t f c (5 * g + 0) = x0 at h0 ⊢
  have h1 := byt_lt ht f c (5 * g + 1)
  generalize byt t f c (5 * g + 1) = x1 at h1 ⊢
  have h2 := byt_lt ht f c (5 * g + 2)
  generalize byt t f c (5 * g + 2) = x2 at h2 ⊢
  have h3 := byt_lt ht f c (5 * g + 3)
  generalize byt t f c (5 * g + 3) = x3 at h3 ⊢
  have h4 := byt_lt ht f c (5 * g + 4)
  generalize byt t f c (5 * g + 4) = x4 at h4 ⊢
  show _ = x4 % 32
  simp only [Nat.reduceSub, Nat.reducePow]
  omega
theorem val16 {t : Nat → Nat} (ht : ∀ j, t j < 256) (f c g : Nat) {r : Nat} (hr : r < 2) : valN t 0 f c (2 * g + r) = v16 (byt t f c g) r := by
  rcases (by omega : r = 0 ∨ r = 1) with rfl | rfl
  · exact val16_0 ht f c g
  · exact val16_1 ht f c g
theorem let16 {t : Nat → Nat} (ht : ∀ j, t j < 256) {f c g r : Nat} (hr : r < 2) (h : (2 * g + r) * 4 < 8 * c) : letN t 0 f c (2 * g + r) = sgn 0 (v16 (byt t f c g) r) := by
  unfold letN
  rw [if_pos (show (2 * g + r) * bts 0 < 8 * c from h), val16 ht f c g hr]
theorem pad16 {t : Nat → Nat} {f c i : Nat} (h : 8 * c ≤ i * 4) : letN t 0 f c i = 61 := by
  unfold letN
  rw [if_neg (show ¬ i * bts 0 < 8 * c from Nat.not_lt.mpr h)]
theorem val64 {t : Nat → Nat} (ht : ∀ j, t j < 256) (f c g : Nat) {r : Nat} (hr : r < 4) : valN t 1 f c (4 * g + r) = v64 (byt t f c (3 * g + 0)) (byt t f c (3 * g + 1)) (byt t f c (3 * g + 2)) r := by
  rcases (by omega : r = 0 ∨ r = 1 ∨ r = 2 ∨ r = 3) with rfl | rfl | rfl | rfl
  · exact val64_0 ht f c g
  · exact val64_1 ht f c g
  · exact val64_2 ht f c g
  · exact val64_3 ht f c g
theorem let64 {t : Nat → Nat} (ht : ∀ j, t j < 256) {f c g r : Nat} (hr : r < 4) (h : (4 * g + r) * 6 < 8 * c) : letN t 1 f c (4 * g + r) = sgn 1 (v64 (byt t f c (3 * g + 0)) (byt t f c (3 * g + 1)) (byt t f c (3 * g + 2)) r) := by
  unfold letN
  rw [if_pos (show (4 * g + r) * bts 1 < 8 * c from h), val64 ht f c g hr]
theorem pad64 {t : Nat → Nat} {f c i : Nat} (h : 8 * c ≤ i * 6) : letN t 1 f c i = 61 := by
  unfold letN
  rw [if_neg (show ¬ i * bts 1 < 8 * c from Nat.not_lt.mpr h)]
theorem val32 {t : Nat → Nat} (ht : ∀ j, t j < 256) (f c g : Nat) {r : Nat} (hr : r < 8) : valN t 2 f c (8 * g + r) = v32 (byt t f c (5 * g + 0)) (byt t f c (5 * g + 1)) (byt t f c (5 * g + 2)) (byt t f c (5 * g + 3)) (byt t f c (5 * g + 4)) r := by
  rcases (by omega : r = 0 ∨ r = 1 ∨ r = 2 ∨ r = 3 ∨ r = 4 ∨ r = 5 ∨ r = 6 ∨ r = 7) with rfl | rfl | rfl | rfl | rfl | rfl | rfl | rfl
  · exact val32_0 ht f c g
  · exact val32_1 ht f c g
  · exact val32_2 ht f c g
  · exact val32_3 ht f c g
  · exact val32_4 ht f c g
  · exact val32_5 ht f c g
  · exact val32_6 ht f c g
  · exact val32_7 ht f c g
theorem let32 {t : Nat → Nat} (ht : ∀ j, t j < 256) {f c g r : Nat} (hr : r < 8) (h : (8 * g + r) * 5 < 8 * c) : letN t 2 f c (8 * g + r) = sgn 2 (v32 (byt t f c (5 * g + 0)) (byt t f c (5 * g + 1)) (byt t f c (5 * g + 2)) (byt t f c (5 * g + 3)) (byt t f c (5 * g + 4)) r) := by
  unfold letN
  rw [if_pos (show (8 * g + r) * bts 2 < 8 * c from h), val32 ht f c g hr]
theorem pad32 {t : Nat → Nat} {f c i : Nat} (h : 8 * c ≤ i * 5) : letN t 2 f c i = 61 := by
  unfold letN
  rw [if_neg (show ¬ i * bts 2 < 8 * c from Nat.not_lt.mpr h)]
/-! the machine's bit operations on bytes -/
theorem or_lo {a b : Nat} (k : Nat) (hb : b < 2 ^ k) (h : a * 2 ^ k + b < 2 ^ 32) : nI (a * 2 ^ k) ||| nI b = nI (a * 2 ^ k + b) := by
  apply Int32.toBitVec_inj.mp
  apply BitVec.eq_of_toNat_eq
  rw [Int32.toBitVec_or, BitVec.toNat_or, pk_tn (by omega), pk_tn (by omega), pk_tn h, Nat.mul_comm, ← Nat.two_pow_add_eq_or_of_lt hb a]
theorem x_ushr {n : Nat} (hn : n < 2 ^ 32) (k : Nat) (hk : (((nI k).toUInt32 &&& Int32.toUInt32 31).toBitVec % 32).toNat = k) : ((nI n).toUInt32 >>> ((nI k).toUInt32 &&& Int32.toUInt32 31)).toInt32 = nI (n / 2 ^ k) := pk_ushrN hn (nI k) k hk
theorem x_s2 : ∀ b, b < 256 → ((sb_b b).toUInt32 >>> ((nI 2).toUInt32 &&& Int32.toUInt32 31)).toInt32 &&& nI 63 = nI (b / 4) := by decide +kernel
theorem x_s3 : ∀ b, b < 256 → ((sb_b b).toUInt32 >>> ((nI 3).toUInt32 &&& Int32.toUInt32 31)).toInt32 &&& nI 31 = nI (b / 8) := by decide +kernel
theorem x_64a : ∀ b, b < 256 → ∀ y, y < 16 → ((sb_b b <<< (nI 4 &&& 31)) ||| nI y) &&& nI 63 = nI (b % 4 * 16 + y) := by decide +kernel
theorem x_64b : ∀ b, b < 256 → ∀ y, y < 4 → ((nI b <<< (nI 2 &&& 31)) ||| nI y) &&& nI 63 = nI (b % 16 * 4 + y) := by decide +kernel
theorem x_64c : ∀ b, b < 256 → ∀ y, y < 16 → ((nI b <<< (nI 4 &&& 31)) ||| nI y) &&& nI 63 = nI (b % 4 * 16 + y) := by decide +kernel
theorem x_64d : ∀ b, b < 256 → (nI b <<< (nI 4 &&& 31)) &&& nI 63 = nI (b % 4 * 16) := by decide +kernel
theorem x_64e : ∀ b, b < 256 → (nI b <<< (nI 2 &&& 31)) &&& nI 63 = nI (b % 16 * 4) := by decide +kernel
theorem x_32a : ∀ b, b < 256 → ∀ y, y < 4 → ((sb_b b <<< (nI 2 &&& 31)) ||| nI y) &&& nI 31 = nI (b % 8 * 4 + y) := by decide +kernel
theorem x_32b : ∀ b, b < 256 → ∀ y, y < 16 → ((nI b <<< (nI 4 &&& 31)) ||| nI y) &&& nI 31 = nI (b % 2 * 16 + y) := by decide +kernel
theorem x_32c : ∀ b, b < 256 → ∀ y, y < 2 → ((nI b <<< (nI 1 &&& 31)) ||| nI y) &&& nI 31 = nI (b % 16 * 2 + y) := by decide +kernel
theorem x_32d : ∀ b, b < 256 → ∀ y, y < 8 → ((nI b <<< (nI 3 &&& 31)) ||| nI y) &&& nI 31 = nI (b % 4 * 8 + y) := by decide +kernel
theorem x_m15 {b : Nat} (h : b < 2 ^ 32) : nI b &&& nI 15 = nI (b % 16) := pk_andN h 4 (by decide +kernel)
theorem x_m31 {b : Nat} (h : b < 2 ^ 32) : nI b &&& nI 31 = nI (b % 32) := pk_andN h 5 (by decide +kernel)
theorem x_m63 {b : Nat} (h : b < 2 ^ 32) : nI b &&& nI 63 = nI (b % 64) := pk_andN h 6 (by decide +kernel)
/-- a bit of a byte, as the law takes it -/
theorem x_bit {a s : Nat} (ha : a < 256) (hs : s < 8) : (nI a >>> (nI s &&& 31)) &&& nI 1 = nI (a / 2 ^ s % 2) := by
  have h : ∀ s, s < 8 → ((nI s &&& 31).toBitVec.smod 32).toNat = s := by decide +kernel
  have h2 : a / 2 ^ s ≤ a := Nat.div_le_self _ _
  rw [pk_shrN (by omega) _ s (h s hs), pk_andN (by omega) 1 (by decide +kernel)]
/-- a compare with a difference that may fall below nought -/
theorem ge_sub {a b x : Nat} (ha : a < 2 ^ 30) (hb : b < 2 ^ 30) (hx : x < 2 ^ 30) : (nI a - nI b ≤ nI x) ↔ a ≤ x + b := by
  rw [Int32.le_iff_toInt_le, pk_sub_toInt ha hb, nI_toInt (by omega)]
  omega
/-- the sum that both sides make -/
def whl (o : Nat → Int32) : Nat → Int64
  | 0 => 0
  | n + 1 => whl o n * 31 + (o n).toInt64
end
section
/-! more rows: copies of byte arrays; more of the pieces -/
theorem bk_bk0 {α : Type} (g V V2 V3 : Nat → α) (n k : Nat) (h1 : ∀ j, j < n → V3 j = V j) (h2 : ∀ j, j < k → V3 (n + j) = V2 j) : bk (bk g 0 V n) n V2 k = bk g 0 V3 (n + k) := by
  have e := bk_bk g 0 V V2 V3 n k h1 h2
  rw [Nat.zero_add] at e
  exact e
theorem bk_set {z V : Nat → Int32} {p n r k : Nat} {x y : Int32} (hk : k = p + r) (hr : r < n) (hx : x = y) : upd (bk z p V n) k x = bk z p (upd V r y) n := by
  subst hk
  subst hx
  funext j
  unfold upd bk
  by_cases h : j = p + r
  · subst h
    rw [if_pos rfl, if_pos (by omega), Nat.add_sub_cancel_left]
    exact (if_pos rfl).symm
  · rw [if_neg h]
    by_cases h2 : p ≤ j ∧ j < p + n
    · rw [if_pos h2, if_pos h2]
      exact (if_neg (by omega)).symm
    · rw [if_neg h2, if_neg h2]
theorem cpy_byt (t : Nat → Nat) (p ex : Nat) : va_cpy (fun j => sb_b (t j)) (fun _ => 0) p 0 ex = fun j => sb_b (byt t p ex j) := by
  funext j
  unfold va_cpy byt
  by_cases h : j < ex
  · rw [if_pos ⟨Nat.zero_le _, by omega⟩, if_pos h, Nat.sub_zero]
  · rw [if_neg (fun q => h (by omega)), if_neg h, sb_0]
section ROWS2
variable {p : Program} {l : Launch} {e : Env} {R : Room} {s : State} {m : MethodId} {args : Array Value} {below : List Frame} {meth : Method} {c : Code} {H : Heap} {locs : List Loc} {cells slots : Nat} {Q : State → Prop}
variable {cc : ByteArray} {nL pc : Nat} {ls : Array Slot} {rest : List Value} {own : String} {G : gg_T} {A : Nat → Prop} {ws ws' : va_W} {a : Nat}
theorem acp (E : En p m c cc nL s args own G A) (hl : ls.size = nL) (hw : Wd G A s ws H locs) (q0 q1 : Nat) {a0 n0 n1 : Nat} {f g : Nat → Int32} (ha0 : ws[q0]? = some (a0, .inl (G.2.1, n0, .inl f))) (ha1 : ws[q1]? = some (a, .inl (G.2.1, n1, .inl g))) {index : Nat} (hlink : Cond.methodLink own index arraycopyName ∈ lw_all) {sp dp n : Nat} (h4 : sp + n ≤ n0) (h5 : dp + n ≤ n1) (hn0 : n0 < 2 ^ 31) (hn1 : n1 < 2 ^ 31) (hfit : ∀ i, i < n → fits .byte (.int (f (sp + i))) = true) (hframes : 1 ≤ R.frames) (hlocals : 18 ≤ R.locals) (f' : Nat → Int32) (hf : va_cpy f g sp dp n = f') (hset : ws.set q1 (a, .inl (G.2.1, n1, .inl f')) = ws') (hdg : decode cc pc = .ok (.invokestatic index, 3))
    (kk : ∀ (H1 : Heap) (locs1 : List Loc), Wd G A s ws' H1 locs1 → W p l e R s m args below meth c H1 locs1 cells slots Q (F0 m (pc + 3) ls [])) : W p l e R s m args below meth c H locs cells slots Q (F0 m pc ls [.int (nI n), .int (nI dp), .ref a, .int (nI sp), .ref a0]) := by
  have e1 : (nI sp).toNatClampNeg = sp := nI_clamp (by omega)
  have e2 : (nI dp).toNatClampNeg = dp := nI_clamp (by omega)
  have e3 : (nI n).toNatClampNeg = n := nI_clamp (by omega)
  refine va_copyi E.1 E.2.1 (by rw [E.2.2.1]; exact hl.symm) E.2.2.2.1 (E.2.2.2.2.1 _ hlink) (E.2.2.2.2.1 _ q203) (E.2.2.2.2.1 _ q202) (E.2.2.2.2.1 _ q9) E.2.2.2.2.2.1.1 hw.1 hw.2.1 hw.2.2 q0 q1 0 0 (ty := .byte) ha0 ha1 rfl rfl rfl (nI_pos (by omega)) (nI_pos (by omega)) (nI_pos (by omega)) (by rw [e1, e3]; exact h4) (by rw [e2, e3]; exact h5) (by rw [e1, e3]; exact hfit) hframes (by show 0 + (7 + 11) ≤ _; omega) hdg (fun H1 locs1 h1 h2 h3 => kk H1 locs1 ?_)
  rw [e1, e2, e3, hf, hset] at h1 h2
  exact ⟨h1, h2, h3⟩
end ROWS2
end
section
set_option maxHeartbeats 4000000 in
set_option maxRecDepth 100000 in
/-- HexEncoder.initialiseDecodingTable(): its own table alone is written -/
theorem m_X3_initialiseDecodingTable (l : Launch) (G : gg_T) (sz : Nat) (h0 et dt : Nat) (g : Nat → Int32) : cT_v l yX3_initialiseDecodingTable (ws_ yX3_initialiseDecodingTable cX3_initialiseDecodingTable 2 (none)) ({ frames := 0, cells := 0, slots := 0, locals := 0 }) G [(h0, .inr (0, [.ref et, .ref dt])), (et, .inl (G.2.1, 16, .inl (fun j => nI (sgn 0 j)))), (dt, .inl (G.2.1, 128, .inl (g)))] sz [.ref h0] (S := Nat → Int32) (fun _ => True) (fun u => [(h0, .inr (0, [.ref et, .ref dt])), (et, .inl (G.2.1, 16, .inl (fun j => nI (sgn 0 j)))), (dt, .inl (G.2.1, 128, .inl (u)))]) 0 0 := by
  refine Met.ofW (cc := cX3_initialiseDecodingTable) (maxL := 2) (ret := none) (by decide) rfl ?_
  intro p e s m args below meth c s₁ B hml hv
  obtain ⟨rfl, hsz, E, hw⟩ := ent_ (own := RX3) B hml rfl hv
  have hr := B.returns
  have hlk := B.notSynchronized
  subst hsz
  clear hv
  generalize va_A [(h0, .inr (0, [.ref et, .ref dt])), (et, .inl (G.2.1, 16, .inl (fun j => nI (sgn 0 j)))), (dt, .inl (G.2.1, 128, .inl (g)))] s.heap.size = A at E hw ⊢
  refine ent_f (Nat.le_of_ble_eq_true rfl) rfl (fun ls hl => ?_)
  have hl : lv_has ls 2 [(0, .ref h0)] := hl
  have loop2 : ∀ (n : Nat) (i : Nat) (g : Nat → Int32), i ≤ 16 → 16 < i + n → ∀ (H : Heap) (locs : List Loc), Wd G A s [(h0, .inr (0, [.ref et, .ref dt])), (et, .inl (G.2.1, 16, .inl (fun j => nI (sgn 0 j)))), (dt, .inl (G.2.1, 128, .inl (g)))] H locs → ∀ (ls : Array Slot), lv_has ls 2 [(0, .ref h0), (1, .int (nI i))] → W p l e (headSpec (ws_ yX3_initialiseDecodingTable cX3_initialiseDecodingTable 2 (none)) ({ frames := 0, cells := 0, slots := 0, locals := 0 })).room s m ([.ref h0] : List Value).toArray below meth c H locs 0 0 (MQ below (va_Qv (S := Nat → Int32) (fun _ => True) (bw_ G A (fun u => [(h0, .inr (0, [.ref et, .ref dt])), (et, .inl (G.2.1, 16, .inl (fun j => nI (sgn 0 j)))), (dt, .inl (G.2.1, 128, .inl (u)))])) A) ([.ref h0] : List Value).toArray s 0 0 A) (F0 m 26 ls []) := by
    intro n
    induction n with
    | zero =>
      intro i g hi hn
      omega
    | succ n ih =>
      intro i g hi hn H locs hw ls hl
      refine lv_iload_n E.1 E.2.1 dX3_initialiseDecodingTable_26 rfl (lv_at hl 1 rfl) ?_
      refine lv_aload_n E.1 E.2.1 dX3_initialiseDecodingTable_27 rfl (lv_at hl 0 rfl) ?_
      refine gf (v := .ref et) E hw in_X3 (ci := 0) rfl 0 rfl 0 (by decide) q124 rfl dX3_initialiseDecodingTable_28 ?_
      refine bln E hw 1 rfl dX3_initialiseDecodingTable_31 ?_
      refine n_icmp_ge (tgt := 54) E dX3_initialiseDecodingTable_32 (by decide) (by omega) (by omega) (fun c_32 => ?_) (fun c_32 => ?_)
      · skip
        refine lv_aload_n E.1 E.2.1 dX3_initialiseDecodingTable_54 rfl (lv_at hl 0 rfl) ?_
        refine gf (v := .ref dt) E hw in_X3 (ci := 0) rfl 0 rfl 1 (by decide) q125 rfl dX3_initialiseDecodingTable_55 ?_
        refine lv_bipush (v := nI 65) E.1 E.2.1 dX3_initialiseDecodingTable_58 (by decide +kernel) ?_
        refine lv_aload_n E.1 E.2.1 dX3_initialiseDecodingTable_60 rfl (lv_at hl 0 rfl) ?_
        refine gf (v := .ref dt) E hw in_X3 (ci := 0) rfl 0 rfl 1 (by decide) q125 rfl dX3_initialiseDecodingTable_61 ?_
        refine lv_bipush (v := nI 97) E.1 E.2.1 dX3_initialiseDecodingTable_64 (by decide +kernel) ?_
        refine bld (v := (g) 97) E hw 2 rfl (by omega) (by omega) rfl dX3_initialiseDecodingTable_66 ?_
        obtain ⟨g_1, hg_1⟩ : ∃ z, upd (g) 65 (vp_nar .byte ((g) 97)) = z := ⟨_, rfl⟩
        refine bst (ws' := [(h0, .inr (0, [.ref et, .ref dt])), (et, .inl (G.2.1, 16, .inl (fun j => nI (sgn 0 j)))), (dt, .inl (G.2.1, 128, .inl (g_1)))]) E hw 2 rfl (by omega) (by omega) (g_1) hg_1 rfl dX3_initialiseDecodingTable_67 (fun H locs hw => ?_)
        refine lv_aload_n E.1 E.2.1 dX3_initialiseDecodingTable_68 rfl (lv_at hl 0 rfl) ?_
        refine gf (v := .ref dt) E hw in_X3 (ci := 0) rfl 0 rfl 1 (by decide) q125 rfl dX3_initialiseDecodingTable_69 ?_
        refine lv_bipush (v := nI 66) E.1 E.2.1 dX3_initialiseDecodingTable_72 (by decide +kernel) ?_
        refine lv_aload_n E.1 E.2.1 dX3_initialiseDecodingTable_74 rfl (lv_at hl 0 rfl) ?_
        refine gf (v := .ref dt) E hw in_X3 (ci := 0) rfl 0 rfl 1 (by decide) q125 rfl dX3_initialiseDecodingTable_75 ?_
        refine lv_bipush (v := nI 98) E.1 E.2.1 dX3_initialiseDecodingTable_78 (by decide +kernel) ?_
        refine bld (v := (g_1) 98) E hw 2 rfl (by omega) (by omega) rfl dX3_initialiseDecodingTable_80 ?_
        obtain ⟨g_2, hg_2⟩ : ∃ z, upd (g_1) 66 (vp_nar .byte ((g_1) 98)) = z := ⟨_, rfl⟩
        refine bst (ws' := [(h0, .inr (0, [.ref et, .ref dt])), (et, .inl (G.2.1, 16, .inl (fun j => nI (sgn 0 j)))), (dt, .inl (G.2.1, 128, .inl (g_2)))]) E hw 2 rfl (by omega) (by omega) (g_2) hg_2 rfl dX3_initialiseDecodingTable_81 (fun H locs hw => ?_)
        refine lv_aload_n E.1 E.2.1 dX3_initialiseDecodingTable_82 rfl (lv_at hl 0 rfl) ?_
        refine gf (v := .ref dt) E hw in_X3 (ci := 0) rfl 0 rfl 1 (by decide) q125 rfl dX3_initialiseDecodingTable_83 ?_
        refine lv_bipush (v := nI 67) E.1 E.2.1 dX3_initialiseDecodingTable_86 (by decide +kernel) ?_
        refine lv_aload_n E.1 E.2.1 dX3_initialiseDecodingTable_88 rfl (lv_at hl 0 rfl) ?_
        refine gf (v := .ref dt) E hw in_X3 (ci := 0) rfl 0 rfl 1 (by decide) q125 rfl dX3_initialiseDecodingTable_89 ?_
        refine lv_bipush (v := nI 99) E.1 E.2.1 dX3_initialiseDecodingTable_92 (by decide +kernel) ?_
        refine bld (v := (g_2) 99) E hw 2 rfl (by omega) (by omega) rfl dX3_initialiseDecodingTable_94 ?_
        obtain ⟨g_3, hg_3⟩ : ∃ z, upd (g_2) 67 (vp_nar .byte ((g_2) 99)) = z := ⟨_, rfl⟩
        refine bst (ws' := [(h0, .inr (0, [.ref et, .ref dt])), (et, .inl (G.2.1, 16, .inl (fun j => nI (sgn 0 j)))), (dt, .inl (G.2.1, 128, .inl (g_3)))]) E hw 2 rfl (by omega) (by omega) (g_3) hg_3 rfl dX3_initialiseDecodingTable_95 (fun H locs hw => ?_)
        refine lv_aload_n E.1 E.2.1 dX3_initialiseDecodingTable_96 rfl (lv_at hl 0 rfl) ?_
        refine gf (v := .ref dt) E hw in_X3 (ci := 0) rfl 0 rfl 1 (by decide) q125 rfl dX3_initialiseDecodingTable_97 ?_
        refine lv_bipush (v := nI 68) E.1 E.2.1 dX3_initialiseDecodingTable_100 (by decide +kernel) ?_
        refine lv_aload_n E.1 E.2.1 dX3_initialiseDecodingTable_102 rfl (lv_at hl 0 rfl) ?_
        refine gf (v := .ref dt) E hw in_X3 (ci := 0) rfl 0 rfl 1 (by decide) q125 rfl dX3_initialiseDecodingTable_103 ?_
        refine lv_bipush (v := nI 100) E.1 E.2.1 dX3_initialiseDecodingTable_106 (by decide +kernel) ?_
        refine bld (v := (g_3) 100) E hw 2 rfl (by omega) (by omega) rfl dX3_initialiseDecodingTable_108 ?_
        obtain ⟨g_4, hg_4⟩ : ∃ z, upd (g_3) 68 (vp_nar .byte ((g_3) 100)) = z := ⟨_, rfl⟩
        refine bst (ws' := [(h0, .inr (0, [.ref et, .ref dt])), (et, .inl (G.2.1, 16, .inl (fun j => nI (sgn 0 j)))), (dt, .inl (G.2.1, 128, .inl (g_4)))]) E hw 2 rfl (by omega) (by omega) (g_4) hg_4 rfl dX3_initialiseDecodingTable_109 (fun H locs hw => ?_)
        refine lv_aload_n E.1 E.2.1 dX3_initialiseDecodingTable_110 rfl (lv_at hl 0 rfl) ?_
        refine gf (v := .ref dt) E hw in_X3 (ci := 0) rfl 0 rfl 1 (by decide) q125 rfl dX3_initialiseDecodingTable_111 ?_
        refine lv_bipush (v := nI 69) E.1 E.2.1 dX3_initialiseDecodingTable_114 (by decide +kernel) ?_
        refine lv_aload_n E.1 E.2.1 dX3_initialiseDecodingTable_116 rfl (lv_at hl 0 rfl) ?_
        refine gf (v := .ref dt) E hw in_X3 (ci := 0) rfl 0 rfl 1 (by decide) q125 rfl dX3_initialiseDecodingTable_117 ?_
        refine lv_bipush (v := nI 101) E.1 E.2.1 dX3_initialiseDecodingTable_120 (by decide +kernel) ?_
        refine bld (v := (g_4) 101) E hw 2 rfl (by omega) (by omega) rfl dX3_initialiseDecodingTable_122 ?_
        obtain ⟨g_5, hg_5⟩ : ∃ z, upd (g_4) 69 (vp_nar .byte ((g_4) 101)) = z := ⟨_, rfl⟩
        refine bst (ws' := [(h0, .inr (0, [.ref et, .ref dt])), (et, .inl (G.2.1, 16, .inl (fun j => nI (sgn 0 j)))), (dt, .inl (G.2.1, 128, .inl (g_5)))]) E hw 2 rfl (by omega) (by omega) (g_5) hg_5 rfl dX3_initialiseDecodingTable_123 (fun H locs hw => ?_)
        refine lv_aload_n E.1 E.2.1 dX3_initialiseDecodingTable_124 rfl (lv_at hl 0 rfl) ?_
        refine gf (v := .ref dt) E hw in_X3 (ci := 0) rfl 0 rfl 1 (by decide) q125 rfl dX3_initialiseDecodingTable_125 ?_
        refine lv_bipush (v := nI 70) E.1 E.2.1 dX3_initialiseDecodingTable_128 (by decide +kernel) ?_
        refine lv_aload_n E.1 E.2.1 dX3_initialiseDecodingTable_130 rfl (lv_at hl 0 rfl) ?_
        refine gf (v := .ref dt) E hw in_X3 (ci := 0) rfl 0 rfl 1 (by decide) q125 rfl dX3_initialiseDecodingTable_131 ?_
        refine lv_bipush (v := nI 102) E.1 E.2.1 dX3_initialiseDecodingTable_134 (by decide +kernel) ?_
        refine bld (v := (g_5) 102) E hw 2 rfl (by omega) (by omega) rfl dX3_initialiseDecodingTable_136 ?_
        obtain ⟨g_6, hg_6⟩ : ∃ z, upd (g_5) 70 (vp_nar .byte ((g_5) 102)) = z := ⟨_, rfl⟩
        refine bst (ws' := [(h0, .inr (0, [.ref et, .ref dt])), (et, .inl (G.2.1, 16, .inl (fun j => nI (sgn 0 j)))), (dt, .inl (G.2.1, 128, .inl (g_6)))]) E hw 2 rfl (by omega) (by omega) (g_6) hg_6 rfl dX3_initialiseDecodingTable_137 (fun H locs hw => ?_)
        have hw : Wd G A s [(h0, .inr (0, [.ref et, .ref dt])), (et, .inl (G.2.1, 16, .inl (fun j => nI (sgn 0 j)))), (dt, .inl (G.2.1, 128, .inl (g_6)))] H locs := hw.sub [0, 1, 2] (by decide) rfl
        exact ret_v E hw hr hlk (by omega) (by omega) (g_6) trivial rfl dX3_initialiseDecodingTable_138
      · skip
        have hs : sgn 0 i < 128 := sgn_lt (by omega) (fun _ => by omega)
        refine lv_aload_n E.1 E.2.1 dX3_initialiseDecodingTable_35 rfl (lv_at hl 0 rfl) ?_
        refine gf (v := .ref dt) E hw in_X3 (ci := 0) rfl 0 rfl 1 (by decide) q125 rfl dX3_initialiseDecodingTable_36 ?_
        refine lv_aload_n E.1 E.2.1 dX3_initialiseDecodingTable_39 rfl (lv_at hl 0 rfl) ?_
        refine gf (v := .ref et) E hw in_X3 (ci := 0) rfl 0 rfl 0 (by decide) q124 rfl dX3_initialiseDecodingTable_40 ?_
        refine lv_iload_n E.1 E.2.1 dX3_initialiseDecodingTable_43 rfl (lv_at hl 1 rfl) ?_
        refine bld (v := nI (sgn 0 i)) E hw 1 rfl (by omega) (by omega) rfl dX3_initialiseDecodingTable_44 ?_
        refine lv_iload_n E.1 E.2.1 dX3_initialiseDecodingTable_45 rfl (lv_at hl 1 rfl) ?_
        refine lv_i2b E.1 E.2.1 dX3_initialiseDecodingTable_46 rfl ?_
        obtain ⟨g_7, hg_7⟩ : ∃ z, upd (g) (sgn 0 i) (vp_nar .byte ((nI i).toInt8.toInt32)) = z := ⟨_, rfl⟩
        refine bst (ws' := [(h0, .inr (0, [.ref et, .ref dt])), (et, .inl (G.2.1, 16, .inl (fun j => nI (sgn 0 j)))), (dt, .inl (G.2.1, 128, .inl (g_7)))]) E hw 2 rfl (by omega) (by omega) (g_7) hg_7 rfl dX3_initialiseDecodingTable_47 (fun H locs hw => ?_)
        refine n_iinc (n := 1) (d := i + 1) (lv' := [(1, .int (nI (i + 1))), (0, .ref h0)]) E dX3_initialiseDecodingTable_48 hl (k := 1) rfl (by omega) (by decide) rfl (fun ls hl => ?_)
        refine lv_goto (tgt := 26) E.1 E.2.1 dX3_initialiseDecodingTable_51 (by decide) ?_
        exact ih (i + 1) _ (by omega) (by omega) H locs (hw.sub [0, 1, 2] (by decide) rfl) ls (lv_sub hl [1, 0] rfl)
  have loop1 : ∀ (n : Nat) (i : Nat) (g : Nat → Int32), i ≤ 128 → 128 < i + n → ∀ (H : Heap) (locs : List Loc), Wd G A s [(h0, .inr (0, [.ref et, .ref dt])), (et, .inl (G.2.1, 16, .inl (fun j => nI (sgn 0 j)))), (dt, .inl (G.2.1, 128, .inl (g)))] H locs → ∀ (ls : Array Slot), lv_has ls 2 [(0, .ref h0), (1, .int (nI i))] → W p l e (headSpec (ws_ yX3_initialiseDecodingTable cX3_initialiseDecodingTable 2 (none)) ({ frames := 0, cells := 0, slots := 0, locals := 0 })).room s m ([.ref h0] : List Value).toArray below meth c H locs 0 0 (MQ below (va_Qv (S := Nat → Int32) (fun _ => True) (bw_ G A (fun u => [(h0, .inr (0, [.ref et, .ref dt])), (et, .inl (G.2.1, 16, .inl (fun j => nI (sgn 0 j)))), (dt, .inl (G.2.1, 128, .inl (u)))])) A) ([.ref h0] : List Value).toArray s 0 0 A) (F0 m 2 ls []) := by
    intro n
    induction n with
    | zero =>
      intro i g hi hn
      omega
    | succ n ih =>
      intro i g hi hn H locs hw ls hl
      refine lv_iload_n E.1 E.2.1 dX3_initialiseDecodingTable_2 rfl (lv_at hl 1 rfl) ?_
      refine lv_aload_n E.1 E.2.1 dX3_initialiseDecodingTable_3 rfl (lv_at hl 0 rfl) ?_
      refine gf (v := .ref dt) E hw in_X3 (ci := 0) rfl 0 rfl 1 (by decide) q125 rfl dX3_initialiseDecodingTable_4 ?_
      refine bln E hw 2 rfl dX3_initialiseDecodingTable_7 ?_
      refine n_icmp_ge (tgt := 24) E dX3_initialiseDecodingTable_8 (by decide) (by omega) (by omega) (fun c_8 => ?_) (fun c_8 => ?_)
      · skip
        refine lv_iconst (v := nI 0) E.1 E.2.1 dX3_initialiseDecodingTable_24 (by decide +kernel) ?_
        refine lv_istore_n (lv' := [(1, .int (nI 0)), (0, .ref h0)]) E.1 E.2.1 dX3_initialiseDecodingTable_25 rfl hl (by decide) rfl (fun ls hl => ?_)
        exact loop2 17 0 _ (by omega) (by omega) H locs (hw.sub [0, 1, 2] (by decide) rfl) ls (lv_sub hl [1, 0] rfl)
      · skip
        refine lv_aload_n E.1 E.2.1 dX3_initialiseDecodingTable_11 rfl (lv_at hl 0 rfl) ?_
        refine gf (v := .ref dt) E hw in_X3 (ci := 0) rfl 0 rfl 1 (by decide) q125 rfl dX3_initialiseDecodingTable_12 ?_
        refine lv_iload_n E.1 E.2.1 dX3_initialiseDecodingTable_15 rfl (lv_at hl 1 rfl) ?_
        refine lv_iconst (v := (-1)) E.1 E.2.1 dX3_initialiseDecodingTable_16 (by decide +kernel) ?_
        obtain ⟨g_8, hg_8⟩ : ∃ z, upd (g) i (vp_nar .byte (-1)) = z := ⟨_, rfl⟩
        refine bst (ws' := [(h0, .inr (0, [.ref et, .ref dt])), (et, .inl (G.2.1, 16, .inl (fun j => nI (sgn 0 j)))), (dt, .inl (G.2.1, 128, .inl (g_8)))]) E hw 2 rfl (by omega) (by omega) (g_8) hg_8 rfl dX3_initialiseDecodingTable_17 (fun H locs hw => ?_)
        refine n_iinc (n := 1) (d := i + 1) (lv' := [(1, .int (nI (i + 1))), (0, .ref h0)]) E dX3_initialiseDecodingTable_18 hl (k := 1) rfl (by omega) (by decide) rfl (fun ls hl => ?_)
        refine lv_goto (tgt := 2) E.1 E.2.1 dX3_initialiseDecodingTable_21 (by decide) ?_
        exact ih (i + 1) _ (by omega) (by omega) H locs (hw.sub [0, 1, 2] (by decide) rfl) ls (lv_sub hl [1, 0] rfl)
  refine lv_iconst (v := nI 0) E.1 E.2.1 dX3_initialiseDecodingTable_0 (by decide +kernel) ?_
  refine lv_istore_n (lv' := [(1, .int (nI 0)), (0, .ref h0)]) E.1 E.2.1 dX3_initialiseDecodingTable_1 rfl hl (by decide) rfl (fun ls hl => ?_)
  exact loop1 129 0 _ (by omega) (by omega) s.heap [] (hw.sub [0, 1, 2] (by decide) rfl) ls (lv_sub hl [1, 0] rfl)
set_option maxHeartbeats 4000000 in
set_option maxRecDepth 100000 in
/-- HexEncoder(): its table of letters, and a table of which nothing is said -/
theorem m_X3_init (l : Launch) (G : gg_T) (sz : Nat) (h0 : Nat) : cT_v l yX3_init (ws_ yX3_init cX3_init 1 (none)) ({ frames := 1, cells := 2, slots := 144, locals := 21 }) G [(h0, .inr (0, [.null, .null]))] sz [.ref h0] (S := Nat × Nat × (Nat → Int32)) (fun _ => True) (fun u => [(h0, .inr (0, [.ref u.1, .ref u.2.1])), (u.1, .inl (G.2.1, 16, .inl (fun j => nI (sgn 0 j)))), (u.2.1, .inl (G.2.1, 128, .inl (u.2.2)))]) 2 144 := by
  refine Met.ofW (cc := cX3_init) (maxL := 1) (ret := none) (by decide) rfl ?_
  intro p e s m args below meth c s₁ B hml hv
  obtain ⟨rfl, hsz, E, hw⟩ := ent_ (own := RX3) B hml rfl hv
  have hr := B.returns
  have hlk := B.notSynchronized
  have hin : meth.name = "<init>" := (name_of_methodNamed B.named B.method).1
  subst hsz
  clear hv
  generalize va_A [(h0, .inr (0, [.null, .null]))] s.heap.size = A at E hw ⊢
  refine ent_f (Nat.le_of_ble_eq_true rfl) rfl (fun ls hl => ?_)
  have hl : lv_has ls 1 [(0, .ref h0)] := hl
  refine lv_aload_n E.1 E.2.1 dX3_init_0 rfl (lv_at hl 0 rfl) ?_
  refine obi E hl.1 q119 dX3_init_1 (Nat.le_of_ble_eq_true rfl) (Nat.le_of_ble_eq_true rfl) ?_
  refine lv_aload_n E.1 E.2.1 dX3_init_4 rfl (lv_at hl 0 rfl) ?_
  refine lv_bipush (v := nI 16) E.1 E.2.1 dX3_init_5 (by decide +kernel) ?_
  refine nwb E hw (Nat.le_of_ble_eq_true rfl) (by show _ ≤ 2; omega) (by show _ ≤ 144; omega) dX3_init_7 (fun et H hw => ?_)
  have hw : Wd G A s [(h0, .inr (0, [.null, .null])), (et, .inl (G.2.1, 16, .inl (fun _ => 0)))] H [] := hw
  refine W.cs (cells' := 1) (slots' := 16) rfl rfl ?_
  refine lv_dup E.1 E.2.1 dX3_init_9 rfl ?_
  refine lv_iconst (v := nI 0) E.1 E.2.1 dX3_init_10 (by decide +kernel) ?_
  refine lv_bipush (v := nI 48) E.1 E.2.1 dX3_init_11 (by decide +kernel) ?_
  refine bst (ws' := [(h0, .inr (0, [.null, .null])), (et, .inl (G.2.1, 16, .inl (bk (fun _ => 0) 0 (fun j => nI (sgn 0 j)) 1)))]) E hw 1 rfl (by decide) (by decide) (bk (fun _ => 0) 0 (fun j => nI (sgn 0 j)) 1) (bk_upd0 rfl (by decide +kernel)) rfl dX3_init_13 (fun H locs hw => ?_)
  refine lv_dup E.1 E.2.1 dX3_init_14 rfl ?_
  refine lv_iconst (v := nI 1) E.1 E.2.1 dX3_init_15 (by decide +kernel) ?_
  refine lv_bipush (v := nI 49) E.1 E.2.1 dX3_init_16 (by decide +kernel) ?_
  refine bst (ws' := [(h0, .inr (0, [.null, .null])), (et, .inl (G.2.1, 16, .inl (bk (fun _ => 0) 0 (fun j => nI (sgn 0 j)) 2)))]) E hw 1 rfl (by decide) (by decide) (bk (fun _ => 0) 0 (fun j => nI (sgn 0 j)) 2) (bk_upd rfl (by decide +kernel)) rfl dX3_init_18 (fun H locs hw => ?_)
  refine lv_dup E.1 E.2.1 dX3_init_19 rfl ?_
  refine lv_iconst (v := nI 2) E.1 E.2.1 dX3_init_20 (by decide +kernel) ?_
  refine lv_bipush (v := nI 50) E.1 E.2.1 dX3_init_21 (by decide +kernel) ?_
  refine bst (ws' := [(h0, .inr (0, [.null, .null])), (et, .inl (G.2.1, 16, .inl (bk (fun _ => 0) 0 (fun j => nI (sgn 0 j)) 3)))]) E hw 1 rfl (by decide) (by decide) (bk (fun _ => 0) 0 (fun j => nI (sgn 0 j)) 3) (bk_upd rfl (by decide +kernel)) rfl dX3_init_23 (fun H locs hw => ?_)
  refine lv_dup E.1 E.2.1 dX3_init_24 rfl ?_
  refine lv_iconst (v := nI 3) E.1 E.2.1 dX3_init_25 (by decide +kernel) ?_
  refine lv_bipush (v := nI 51) E.1 E.2.1 dX3_init_26 (by decide +kernel) ?_
  refine bst (ws' := [(h0, .inr (0, [.null, .null])), (et, .inl (G.2.1, 16, .inl (bk (fun _ => 0) 0 (fun j => nI (sgn 0 j)) 4)))]) E hw 1 rfl (by decide) (by decide) (bk (fun _ => 0) 0 (fun j => nI (sgn 0 j)) 4) (bk_upd rfl (by decide +kernel)) rfl dX3_init_28 (fun H locs hw => ?_)
  refine lv_dup E.1 E.2.1 dX3_init_29 rfl ?_
  refine lv_iconst (v := nI 4) E.1 E.2.1 dX3_init_30 (by decide +kernel) ?_
  refine lv_bipush (v := nI 52) E.1 E.2.1 dX3_init_31 (by decide +kernel) ?_
  refine bst (ws' := [(h0, .inr (0, [.null, .null])), (et, .inl (G.2.1, 16, .inl (bk (fun _ => 0) 0 (fun j => nI (sgn 0 j)) 5)))]) E hw 1 rfl (by decide) (by decide) (bk (fun _ => 0) 0 (fun j => nI (sgn 0 j)) 5) (bk_upd rfl (by decide +kernel)) rfl dX3_init_33 (fun H locs hw => ?_)
  refine lv_dup E.1 E.2.1 dX3_init_34 rfl ?_
  refine lv_iconst (v := nI 5) E.1 E.2.1 dX3_init_35 (by decide +kernel) ?_
  refine lv_bipush (v := nI 53) E.1 E.2.1 dX3_init_36 (by decide +kernel) ?_
  refine bst (ws' := [(h0, .inr (0, [.null, .null])), (et, .inl (G.2.1, 16, .inl (bk (fun _ => 0) 0 (fun j => nI (sgn 0 j)) 6)))]) E hw 1 rfl (by decide) (by decide) (bk (fun _ => 0) 0 (fun j => nI (sgn 0 j)) 6) (bk_upd rfl (by decide +kernel)) rfl dX3_init_38 (fun H locs hw => ?_)
  refine lv_dup E.1 E.2.1 dX3_init_39 rfl ?_
  refine lv_bipush (v := nI 6) E.1 E.2.1 dX3_init_40 (by decide +kernel) ?_
  refine lv_bipush (v := nI 54) E.1 E.2.1 dX3_init_42 (by decide +kernel) ?_
  refine bst (ws' := [(h0, .inr (0, [.null, .null])), (et, .inl (G.2.1, 16, .inl (bk (fun _ => 0) 0 (fun j => nI (sgn 0 j)) 7)))]) E hw 1 rfl (by decide) (by decide) (bk (fun _ => 0) 0 (fun j => nI (sgn 0 j)) 7) (bk_upd rfl (by decide +kernel)) rfl dX3_init_44 (fun H locs hw => ?_)
  refine lv_dup E.1 E.2.1 dX3_init_45 rfl ?_
  refine lv_bipush (v := nI 7) E.1 E.2.1 dX3_init_46 (by decide +kernel) ?_
  refine lv_bipush (v := nI 55) E.1 E.2.1 dX3_init_48 (by decide +kernel) ?_
  refine bst (ws' := [(h0, .inr (0, [.null, .null])), (et, .inl (G.2.1, 16, .inl (bk (fun _ => 0) 0 (fun j => nI (sgn 0 j)) 8)))]) E hw 1 rfl (by decide) (by decide) (bk (fun _ => 0) 0 (fun j => nI (sgn 0 j)) 8) (bk_upd rfl (by decide +kernel)) rfl dX3_init_50 (fun H locs hw => ?_)
  refine lv_dup E.1 E.2.1 dX3_init_51 rfl ?_
  refine lv_bipush (v := nI 8) E.1 E.2.1 dX3_init_52 (by decide +kernel) ?_
  refine lv_bipush (v := nI 56) E.1 E.2.1 dX3_init_54 (by decide +kernel) ?_
  refine bst (ws' := [(h0, .inr (0, [.null, .null])), (et, .inl (G.2.1, 16, .inl (bk (fun _ => 0) 0 (fun j => nI (sgn 0 j)) 9)))]) E hw 1 rfl (by decide) (by decide) (bk (fun _ => 0) 0 (fun j => nI (sgn 0 j)) 9) (bk_upd rfl (by decide +kernel)) rfl dX3_init_56 (fun H locs hw => ?_)
  refine lv_dup E.1 E.2.1 dX3_init_57 rfl ?_
  refine lv_bipush (v := nI 9) E.1 E.2.1 dX3_init_58 (by decide +kernel) ?_
  refine lv_bipush (v := nI 57) E.1 E.2.1 dX3_init_60 (by decide +kernel) ?_
  refine bst (ws' := [(h0, .inr (0, [.null, .null])), (et, .inl (G.2.1, 16, .inl (bk (fun _ => 0) 0 (fun j => nI (sgn 0 j)) 10)))]) E hw 1 rfl (by decide) (by decide) (bk (fun _ => 0) 0 (fun j => nI (sgn 0 j)) 10) (bk_upd rfl (by decide +kernel)) rfl dX3_init_62 (fun H locs hw => ?_)
  refine lv_dup E.1 E.2.1 dX3_init_63 rfl ?_
  refine lv_bipush (v := nI 10) E.1 E.2.1 dX3_init_64 (by decide +kernel) ?_
  refine lv_bipush (v := nI 97) E.1 E.2.1 dX3_init_66 (by decide +kernel) ?_
  refine bst (ws' := [(h0, .inr (0, [.null, .null])), (et, .inl (G.2.1, 16, .inl (bk (fun _ => 0) 0 (fun j => nI (sgn 0 j)) 11)))]) E hw 1 rfl (by decide) (by decide) (bk (fun _ => 0) 0 (fun j => nI (sgn 0 j)) 11) (bk_upd rfl (by decide +kernel)) rfl dX3_init_68 (fun H locs hw => ?_)
  refine lv_dup E.1 E.2.1 dX3_init_69 rfl ?_
  refine lv_bipush (v := nI 11) E.1 E.2.1 dX3_init_70 (by decide +kernel) ?_
  refine lv_bipush (v := nI 98) E.1 E.2.1 dX3_init_72 (by decide +kernel) ?_
  refine bst (ws' := [(h0, .inr (0, [.null, .null])), (et, .inl (G.2.1, 16, .inl (bk (fun _ => 0) 0 (fun j => nI (sgn 0 j)) 12)))]) E hw 1 rfl (by decide) (by decide) (bk (fun _ => 0) 0 (fun j => nI (sgn 0 j)) 12) (bk_upd rfl (by decide +kernel)) rfl dX3_init_74 (fun H locs hw => ?_)
  refine lv_dup E.1 E.2.1 dX3_init_75 rfl ?_
  refine lv_bipush (v := nI 12) E.1 E.2.1 dX3_init_76 (by decide +kernel) ?_
  refine lv_bipush (v := nI 99) E.1 E.2.1 dX3_init_78 (by decide +kernel) ?_
  refine bst (ws' := [(h0, .inr (0, [.null, .null])), (et, .inl (G.2.1, 16, .inl (bk (fun _ => 0) 0 (fun j => nI (sgn 0 j)) 13)))]) E hw 1 rfl (by decide) (by decide) (bk (fun _ => 0) 0 (fun j => nI (sgn 0 j)) 13) (bk_upd rfl (by decide +kernel)) rfl dX3_init_80 (fun H locs hw => ?_)
  refine lv_dup E.1 E.2.1 dX3_init_81 rfl ?_
  refine lv_bipush (v := nI 13) E.1 E.2.1 dX3_init_82 (by decide +kernel) ?_
  refine lv_bipush (v := nI 100) E.1 E.2.1 dX3_init_84 (by decide +kernel) ?_
  refine bst (ws' := [(h0, .inr (0, [.null, .null])), (et, .inl (G.2.1, 16, .inl (bk (fun _ => 0) 0 (fun j => nI (sgn 0 j)) 14)))]) E hw 1 rfl (by decide) (by decide) (bk (fun _ => 0) 0 (fun j => nI (sgn 0 j)) 14) (bk_upd rfl (by decide +kernel)) rfl dX3_init_86 (fun H locs hw => ?_)
  refine lv_dup E.1 E.2.1 dX3_init_87 rfl ?_
  refine lv_bipush (v := nI 14) E.1 E.2.1 dX3_init_88 (by decide +kernel) ?_
  refine lv_bipush (v := nI 101) E.1 E.2.1 dX3_init_90 (by decide +kernel) ?_
  refine bst (ws' := [(h0, .inr (0, [.null, .null])), (et, .inl (G.2.1, 16, .inl (bk (fun _ => 0) 0 (fun j => nI (sgn 0 j)) 15)))]) E hw 1 rfl (by decide) (by decide) (bk (fun _ => 0) 0 (fun j => nI (sgn 0 j)) 15) (bk_upd rfl (by decide +kernel)) rfl dX3_init_92 (fun H locs hw => ?_)
  refine lv_dup E.1 E.2.1 dX3_init_93 rfl ?_
  refine lv_bipush (v := nI 15) E.1 E.2.1 dX3_init_94 (by decide +kernel) ?_
  refine lv_bipush (v := nI 102) E.1 E.2.1 dX3_init_96 (by decide +kernel) ?_
  refine bst (ws' := [(h0, .inr (0, [.null, .null])), (et, .inl (G.2.1, 16, .inl (bk (fun _ => 0) 0 (fun j => nI (sgn 0 j)) 16)))]) E hw 1 rfl (by decide) (by decide) (bk (fun _ => 0) 0 (fun j => nI (sgn 0 j)) 16) (bk_upd rfl (by decide +kernel)) rfl dX3_init_98 (fun H locs hw => ?_)
  refine pff (ws' := [(h0, .inr (0, [.ref et, .null])), (et, .inl (G.2.1, 16, .inl (bk (fun _ => 0) 0 (fun j => nI (sgn 0 j)) 16)))]) E hw in_X3 tyX3 tyX3_ok nmX3 (ci := 0) rfl 0 rfl 0 (by decide) q124 rfl hin rfl rfl rfl (Nat.le_of_ble_eq_true rfl) rfl dX3_init_99 (fun H locs hw => ?_)
  have hw : Wd G A s [(h0, .inr (0, [.ref et, .null])), (et, .inl (G.2.1, 16, .inl (fun j => nI (sgn 0 j))))] H locs := hw.cong 1 rfl (fun j hj => bk_all hj) rfl
  refine lv_aload_n E.1 E.2.1 dX3_init_102 rfl (lv_at hl 0 rfl) ?_
  refine lv_sipush (v := nI 128) E.1 E.2.1 dX3_init_103 (by decide +kernel) ?_
  refine nwb E hw (Nat.le_of_ble_eq_true rfl) (by show _ ≤ 2; omega) (by show _ ≤ 144; omega) dX3_init_106 (fun dt H hw => ?_)
  have hw : Wd G A s [(h0, .inr (0, [.ref et, .null])), (et, .inl (G.2.1, 16, .inl (fun j => nI (sgn 0 j)))), (dt, .inl (G.2.1, 128, .inl (fun _ => 0)))] H locs := hw
  refine W.cs (cells' := 2) (slots' := 144) rfl rfl ?_
  refine pff (ws' := [(h0, .inr (0, [.ref et, .ref dt])), (et, .inl (G.2.1, 16, .inl (fun j => nI (sgn 0 j)))), (dt, .inl (G.2.1, 128, .inl (fun _ => 0)))]) E hw in_X3 tyX3 tyX3_ok nmX3 (ci := 0) rfl 0 rfl 1 (by decide) q125 rfl hin rfl rfl rfl (Nat.le_of_ble_eq_true rfl) rfl dX3_init_108 (fun H locs hw => ?_)
  refine lv_aload_n E.1 E.2.1 dX3_init_111 rfl (lv_at hl 0 rfl) ?_
  refine cl_v (wr := []) (va_runV (As := []) (rest := []) E.fix (m_X3_initialiseDecodingTable l G H.size h0 et dt _) (cwV 0 E.hts (lw_V q120 q121 q122 q6 q123) rfl rfl rfl (by decide +kernel) ⟨Nat.le_of_ble_eq_true rfl, Nat.le_of_ble_eq_true rfl⟩) (preV_ok E hw [0, 1, 2] rfl (by decide) 0 rfl (ci := 0) rfl) rfl rfl hl.1 rfl (lv_room (Nat.le_of_ble_eq_true rfl)) dX3_init_112 ⟨(by show _ ≤ 2; omega), (by show _ ≤ 144; omega)⟩) E hw [0, 1, 2] [] rfl rfl (by decide) (by decide) (fun g H locs hp hw => ?_)
  have hw : Wd G A s [(h0, .inr (0, [.ref et, .ref dt])), (et, .inl (G.2.1, 16, .inl (fun j => nI (sgn 0 j)))), (dt, .inl (G.2.1, 128, .inl (g)))] H locs := hw
  refine W.cs (cells' := 2) (slots' := 144) rfl rfl ?_
  have hw : Wd G A s [(h0, .inr (0, [.ref et, .ref dt])), (et, .inl (G.2.1, 16, .inl (fun j => nI (sgn 0 j)))), (dt, .inl (G.2.1, 128, .inl (g)))] H locs := hw.sub [0, 1, 2] (by decide) rfl
  exact ret_v E hw hr hlk (by omega) (by omega) ((et, dt, g)) trivial rfl dX3_init_115
set_option maxHeartbeats 4000000 in
set_option maxRecDepth 100000 in
/-- HexEncoder.getEncodedLength(n) -/
theorem m_X3_getEncodedLength (l : Launch) (G : gg_T) (sz : Nat) (h0 n : Nat) (hn : n ≤ 65535) : cT_i l yX3_getEncodedLength (ws_ yX3_getEncodedLength cX3_getEncodedLength 2 (some .int)) ({ frames := 0, cells := 0, slots := 0, locals := 0 }) G [] sz [.ref h0, .int (nI n)] (S := Unit) (fun r _ => r = nI (rmN 0 n)) (fun _ => []) 0 0 := by
  refine Met.ofW (cc := cX3_getEncodedLength) (maxL := 2) (ret := some .int) (by decide) rfl ?_
  intro p e s m args below meth c s₁ B hml hv
  obtain ⟨rfl, hsz, E, hw⟩ := ent_ (own := RX3) B hml rfl hv
  have hr := B.returns
  have hlk := B.notSynchronized
  subst hsz
  clear hv
  generalize va_A [] s.heap.size = A at E hw ⊢
  refine ent_f (Nat.le_of_ble_eq_true rfl) rfl (fun ls hl => ?_)
  have hl : lv_has ls 2 [(0, .ref h0), (1, .int (nI n))] := hl
  refine lv_iload_n E.1 E.2.1 dX3_getEncodedLength_0 rfl (lv_at hl 1 rfl) ?_
  refine lv_iconst (v := nI 2) E.1 E.2.1 dX3_getEncodedLength_1 (by decide +kernel) ?_
  refine n_imul (d := n * 2) E dX3_getEncodedLength_2 rfl ?_
  have hw : Wd G A s [] s.heap [] := hw.sub [] (by decide) rfl
  exact ret_i E hw hr hlk (by omega) (by omega) (()) (by rw [rmN_0]) rfl dX3_getEncodedLength_3
set_option maxHeartbeats 4000000 in
set_option maxRecDepth 100000 in
/-- HexEncoder.encode: the letters of the part, padding signs behind -/
theorem m_X3_encode (l : Launch) (G : gg_T) (sz : Nat) (h0 et dt ib ob : Nat) (t : Nat → Nat) (fr cn : Nat) (ht : ∀ j, t j < 256) (hfc : fr + cn ≤ 256) : cT_i l yX3_encode (ws_ yX3_encode cX3_encode 10 (some .int)) ({ frames := 0, cells := 0, slots := 0, locals := 0 }) G [(h0, .inr (0, [.ref et, .ref dt])), (et, .inl (G.2.1, 16, .inl (fun j => nI (sgn 0 j)))), (ib, .inl (G.2.1, 256, .inl (fun j => sb_b (t j)))), (ob, .inl (G.2.1, rmN 0 cn, .inl (fun _ => 0)))] sz [.ref h0, .ref ib, .int (nI fr), .int (nI cn), .ref ob, .int (nI 0)] (S := Unit) (fun r _ => r = nI (rmN 0 cn)) (fun _ => [(h0, .inr (0, [.ref et, .ref dt])), (et, .inl (G.2.1, 16, .inl (fun j => nI (sgn 0 j)))), (ib, .inl (G.2.1, 256, .inl (fun j => sb_b (t j)))), (ob, .inl (G.2.1, rmN 0 cn, .inl (fun j => nI (letN t 0 fr cn j))))]) 0 0 := by
  refine Met.ofW (cc := cX3_encode) (maxL := 10) (ret := some .int) (by decide) rfl ?_
  intro p e s m args below meth c s₁ B hml hv
  obtain ⟨rfl, hsz, E, hw⟩ := ent_ (own := RX3) B hml rfl hv
  have hr := B.returns
  have hlk := B.notSynchronized
  subst hsz
  clear hv
  generalize va_A [(h0, .inr (0, [.ref et, .ref dt])), (et, .inl (G.2.1, 16, .inl (fun j => nI (sgn 0 j)))), (ib, .inl (G.2.1, 256, .inl (fun j => sb_b (t j)))), (ob, .inl (G.2.1, rmN 0 cn, .inl (fun _ => 0)))] s.heap.size = A at E hw ⊢
  refine ent_f (Nat.le_of_ble_eq_true rfl) rfl (fun ls hl => ?_)
  have hl : lv_has ls 10 [(0, .ref h0), (1, .ref ib), (2, .int (nI fr)), (3, .int (nI cn)), (4, .ref ob), (5, .int (nI 0))] := hl
  have hrm : rmN 0 cn = cn * 2 := rmN_0 cn
  have loop : ∀ (n : Nat) (i : Nat), i ≤ cn → cn < i + n → ∀ (H : Heap) (locs : List Loc), Wd G A s [(h0, .inr (0, [.ref et, .ref dt])), (et, .inl (G.2.1, 16, .inl (fun j => nI (sgn 0 j)))), (ib, .inl (G.2.1, 256, .inl (fun j => sb_b (t j)))), (ob, .inl (G.2.1, rmN 0 cn, .inl (bk (fun _ => 0) 0 (fun j => nI (letN t 0 fr cn j)) (2 * i))))] H locs → ∀ (ls : Array Slot), lv_has ls 10 [(0, .ref h0), (1, .ref ib), (2, .int (nI fr)), (3, .int (nI cn)), (4, .ref ob), (5, .int (nI 0)), (6, .int (nI (fr + i))), (7, .int (nI (fr + cn))), (8, .int (nI (2 * i)))] → W p l e (headSpec (ws_ yX3_encode cX3_encode 10 (some .int)) ({ frames := 0, cells := 0, slots := 0, locals := 0 })).room s m ([.ref h0, .ref ib, .int (nI fr), .int (nI cn), .ref ob, .int (nI 0)] : List Value).toArray below meth c H locs 0 0 (MQ below (va_Qi (S := Unit) (fun r _ => r = nI (rmN 0 cn)) (bw_ G A (fun _ => [(h0, .inr (0, [.ref et, .ref dt])), (et, .inl (G.2.1, 16, .inl (fun j => nI (sgn 0 j)))), (ib, .inl (G.2.1, 256, .inl (fun j => sb_b (t j)))), (ob, .inl (G.2.1, rmN 0 cn, .inl (fun j => nI (letN t 0 fr cn j))))])) A) ([.ref h0, .ref ib, .int (nI fr), .int (nI cn), .ref ob, .int (nI 0)] : List Value).toArray s 0 0 A) (F0 m 12 ls []) := by
    intro n
    induction n with
    | zero =>
      intro i hi hn
      omega
    | succ n ih =>
      intro i hi hn H locs hw ls hl
      refine lv_iload E.1 E.2.1 dX3_encode_12 (lv_at hl 6 rfl) ?_
      refine lv_iload E.1 E.2.1 dX3_encode_14 (lv_at hl 7 rfl) ?_
      refine n_icmp_ge (tgt := 70) E dX3_encode_16 (by decide) (by omega) (by omega) (fun c_16 => ?_) (fun c_16 => ?_)
      · skip
        have hic : i = cn := by omega
        refine lv_iload E.1 E.2.1 dX3_encode_70 (lv_at hl 8 rfl) ?_
        refine lv_iload E.1 E.2.1 dX3_encode_72 (lv_at hl 5 rfl) ?_
        refine n_isub (d := rmN 0 cn) E dX3_encode_74 (by omega) ?_
        have hw : Wd G A s [(h0, .inr (0, [.ref et, .ref dt])), (et, .inl (G.2.1, 16, .inl (fun j => nI (sgn 0 j)))), (ib, .inl (G.2.1, 256, .inl (fun j => sb_b (t j)))), (ob, .inl (G.2.1, rmN 0 cn, .inl (fun j => nI (letN t 0 fr cn j))))] H locs := hw.cong 3 rfl (fun j hj => bk_all (by omega)) rfl
        have hw : Wd G A s [(h0, .inr (0, [.ref et, .ref dt])), (et, .inl (G.2.1, 16, .inl (fun j => nI (sgn 0 j)))), (ib, .inl (G.2.1, 256, .inl (fun j => sb_b (t j)))), (ob, .inl (G.2.1, rmN 0 cn, .inl (fun j => nI (letN t 0 fr cn j))))] H locs := hw.sub [0, 1, 2, 3] (by decide) rfl
        exact ret_i E hw hr hlk (by omega) (by omega) (()) rfl rfl dX3_encode_75
      · skip
        have hb := ht (fr + i)
        have hl0 : sgn 0 (t (fr + i) / 16) = letN t 0 fr cn (2 * i) := by have e := let16 (t := t) ht (f := fr) (c := cn) (g := i) (r := 0) (by decide) (by omega); rw [Nat.add_zero] at e; rw [e]; unfold v16 byt; rw [if_pos rfl, if_pos (by omega)]
        have hl1 : sgn 0 (t (fr + i) % 16) = letN t 0 fr cn (2 * i + 1) := by have e := let16 (t := t) ht (f := fr) (c := cn) (g := i) (r := 1) (by decide) (by omega); rw [e]; unfold v16 byt; rw [if_neg (by decide), if_pos (by omega)]
        refine lv_aload_n E.1 E.2.1 dX3_encode_19 rfl (lv_at hl 1 rfl) ?_
        refine lv_iload E.1 E.2.1 dX3_encode_20 (lv_at hl 6 rfl) ?_
        refine n_iinc (n := 1) (d := fr + (i + 1)) (lv' := [(6, .int (nI (fr + (i + 1)))), (0, .ref h0), (1, .ref ib), (2, .int (nI fr)), (3, .int (nI cn)), (4, .ref ob), (5, .int (nI 0)), (7, .int (nI (fr + cn))), (8, .int (nI (2 * i)))]) E dX3_encode_22 hl (k := 6) rfl (by omega) (by decide) rfl (fun ls hl => ?_)
        refine bld (v := sb_b (t (fr + i))) E hw 2 rfl (by omega) (by omega) rfl dX3_encode_25 ?_
        refine lv_sipush (v := nI 255) E.1 E.2.1 dX3_encode_26 (by decide +kernel) ?_
        refine lv_iand E.1 E.2.1 dX3_encode_29 ?_
        refine tv (y := nI (t (fr + i))) (sb_mask hb) ?_
        refine lv_istore (lv' := [(9, .int (nI (t (fr + i)))), (6, .int (nI (fr + (i + 1)))), (0, .ref h0), (1, .ref ib), (2, .int (nI fr)), (3, .int (nI cn)), (4, .ref ob), (5, .int (nI 0)), (7, .int (nI (fr + cn))), (8, .int (nI (2 * i)))]) E.1 E.2.1 dX3_encode_30 hl (by decide) rfl (fun ls hl => ?_)
        refine lv_aload E.1 E.2.1 dX3_encode_32 (lv_at hl 6 rfl) ?_
        refine lv_iload E.1 E.2.1 dX3_encode_34 (lv_at hl 9 rfl) ?_
        refine n_iinc (n := 1) (d := 2 * i + 1) (lv' := [(8, .int (nI (2 * i + 1))), (9, .int (nI (t (fr + i)))), (6, .int (nI (fr + (i + 1)))), (0, .ref h0), (1, .ref ib), (2, .int (nI fr)), (3, .int (nI cn)), (4, .ref ob), (5, .int (nI 0)), (7, .int (nI (fr + cn)))]) E dX3_encode_36 hl (k := 9) rfl (by omega) (by decide) rfl (fun ls hl => ?_)
        refine lv_aload_n E.1 E.2.1 dX3_encode_39 rfl (lv_at hl 3 rfl) ?_
        refine gf (v := .ref et) E hw in_X3 (ci := 0) rfl 0 rfl 0 (by decide) q124 rfl dX3_encode_40 ?_
        refine lv_iload E.1 E.2.1 dX3_encode_43 (lv_at hl 1 rfl) ?_
        refine lv_iconst (v := nI 4) E.1 E.2.1 dX3_encode_45 (by decide +kernel) ?_
        refine lv_iushr (v := nI ((t (fr + i)) / 16)) E.1 E.2.1 dX3_encode_46 (x_ushr (by omega) 4 (by decide +kernel)) ?_
        refine bld (v := nI (sgn 0 (t (fr + i) / 16))) E hw 1 rfl (by omega) (by omega) rfl dX3_encode_47 ?_
        refine bst (ws' := [(h0, .inr (0, [.ref et, .ref dt])), (et, .inl (G.2.1, 16, .inl (fun j => nI (sgn 0 j)))), (ib, .inl (G.2.1, 256, .inl (fun j => sb_b (t j)))), (ob, .inl (G.2.1, rmN 0 cn, .inl (bk (fun _ => 0) 0 (fun j => nI (letN t 0 fr cn j)) (2 * i + 1))))]) E hw 3 rfl (by omega) (by omega) (bk (fun _ => 0) 0 (fun j => nI (letN t 0 fr cn j)) (2 * i + 1)) (bk_upd (by omega) (by rw [hl0, nar_sm _ (letN_lt t 0 fr cn _)])) rfl dX3_encode_48 (fun H locs hw => ?_)
        refine lv_aload E.1 E.2.1 dX3_encode_49 (lv_at hl 7 rfl) ?_
        refine lv_iload E.1 E.2.1 dX3_encode_51 (lv_at hl 0 rfl) ?_
        refine n_iinc (n := 1) (d := 2 * (i + 1)) (lv' := [(8, .int (nI (2 * (i + 1)))), (9, .int (nI (t (fr + i)))), (6, .int (nI (fr + (i + 1)))), (0, .ref h0), (1, .ref ib), (2, .int (nI fr)), (3, .int (nI cn)), (4, .ref ob), (5, .int (nI 0)), (7, .int (nI (fr + cn)))]) E dX3_encode_53 hl (k := 0) rfl (by omega) (by decide) rfl (fun ls hl => ?_)
        refine lv_aload_n E.1 E.2.1 dX3_encode_56 rfl (lv_at hl 3 rfl) ?_
        refine gf (v := .ref et) E hw in_X3 (ci := 0) rfl 0 rfl 0 (by decide) q124 rfl dX3_encode_57 ?_
        refine lv_iload E.1 E.2.1 dX3_encode_60 (lv_at hl 1 rfl) ?_
        refine lv_bipush (v := nI 15) E.1 E.2.1 dX3_encode_62 (by decide +kernel) ?_
        refine lv_iand E.1 E.2.1 dX3_encode_64 ?_
        refine tv (y := nI (t (fr + i) % 16)) (x_m15 (by omega)) ?_
        refine bld (v := nI (sgn 0 (t (fr + i) % 16))) E hw 1 rfl (by omega) (by omega) rfl dX3_encode_65 ?_
        refine bst (ws' := [(h0, .inr (0, [.ref et, .ref dt])), (et, .inl (G.2.1, 16, .inl (fun j => nI (sgn 0 j)))), (ib, .inl (G.2.1, 256, .inl (fun j => sb_b (t j)))), (ob, .inl (G.2.1, rmN 0 cn, .inl (bk (fun _ => 0) 0 (fun j => nI (letN t 0 fr cn j)) (2 * (i + 1)))))]) E hw 3 rfl (by omega) (by omega) (bk (fun _ => 0) 0 (fun j => nI (letN t 0 fr cn j)) (2 * (i + 1))) (bk_upd (n := 2 * i + 1) (by omega) (by rw [hl1, nar_sm _ (letN_lt t 0 fr cn _)])) rfl dX3_encode_66 (fun H locs hw => ?_)
        refine lv_goto (tgt := 12) E.1 E.2.1 dX3_encode_67 (by decide) ?_
        exact ih (i + 1) (by omega) (by omega) H locs (hw.sub [0, 1, 2, 3] (by decide) rfl) ls (lv_sub hl [3, 4, 5, 6, 7, 8, 2, 9, 0] rfl)
  refine lv_iload_n E.1 E.2.1 dX3_encode_0 rfl (lv_at hl 2 rfl) ?_
  refine lv_istore (lv' := [(6, .int (nI fr)), (0, .ref h0), (1, .ref ib), (2, .int (nI fr)), (3, .int (nI cn)), (4, .ref ob), (5, .int (nI 0))]) E.1 E.2.1 dX3_encode_1 hl (by decide) rfl (fun ls hl => ?_)
  refine lv_iload_n E.1 E.2.1 dX3_encode_3 rfl (lv_at hl 3 rfl) ?_
  refine lv_iload_n E.1 E.2.1 dX3_encode_4 rfl (lv_at hl 4 rfl) ?_
  refine n_iadd (d := fr + cn) E dX3_encode_5 rfl ?_
  refine lv_istore (lv' := [(7, .int (nI (fr + cn))), (6, .int (nI fr)), (0, .ref h0), (1, .ref ib), (2, .int (nI fr)), (3, .int (nI cn)), (4, .ref ob), (5, .int (nI 0))]) E.1 E.2.1 dX3_encode_6 hl (by decide) rfl (fun ls hl => ?_)
  refine lv_iload E.1 E.2.1 dX3_encode_8 (lv_at hl 7 rfl) ?_
  refine lv_istore (lv' := [(8, .int (nI 0)), (7, .int (nI (fr + cn))), (6, .int (nI fr)), (0, .ref h0), (1, .ref ib), (2, .int (nI fr)), (3, .int (nI cn)), (4, .ref ob), (5, .int (nI 0))]) E.1 E.2.1 dX3_encode_10 hl (by decide) rfl (fun ls hl => ?_)
  have hw : Wd G A s [(h0, .inr (0, [.ref et, .ref dt])), (et, .inl (G.2.1, 16, .inl (fun j => nI (sgn 0 j)))), (ib, .inl (G.2.1, 256, .inl (fun j => sb_b (t j)))), (ob, .inl (G.2.1, rmN 0 cn, .inl (bk (fun _ => 0) 0 (fun j => nI (letN t 0 fr cn j)) (0))))] s.heap [] := hw.cong 3 rfl (fun j _ => congrFun (show (fun _ => 0) = (bk (fun _ => 0) 0 (fun j => nI (letN t 0 fr cn j)) (0)) from (bk_0 _ _ _).symm) j) rfl
  exact loop (cn + 1) 0 (by omega) (by omega) s.heap [] (hw.sub [0, 1, 2, 3] (by decide) rfl) ls (lv_sub hl [3, 4, 5, 6, 7, 8, 2, 1, 0] rfl)
end
section
set_option maxHeartbeats 4000000 in
set_option maxRecDepth 100000 in
/-- Base64Encoder.initialiseDecodingTable(): its own table alone is written -/
theorem m_X4_initialiseDecodingTable (l : Launch) (G : gg_T) (sz : Nat) (h0 et dt : Nat) (g : Nat → Int32) : cT_v l yX4_initialiseDecodingTable (ws_ yX4_initialiseDecodingTable cX4_initialiseDecodingTable 2 (none)) ({ frames := 0, cells := 0, slots := 0, locals := 0 }) G [(h0, .inr (1, [.ref et, .int (nI 61), .ref dt])), (et, .inl (G.2.1, 64, .inl (fun j => nI (sgn 1 j)))), (dt, .inl (G.2.1, 128, .inl (g)))] sz [.ref h0] (S := Nat → Int32) (fun _ => True) (fun u => [(h0, .inr (1, [.ref et, .int (nI 61), .ref dt])), (et, .inl (G.2.1, 64, .inl (fun j => nI (sgn 1 j)))), (dt, .inl (G.2.1, 128, .inl (u)))]) 0 0 := by
  refine Met.ofW (cc := cX4_initialiseDecodingTable) (maxL := 2) (ret := none) (by decide) rfl ?_
  intro p e s m args below meth c s₁ B hml hv
  obtain ⟨rfl, hsz, E, hw⟩ := ent_ (own := RX4) B hml rfl hv
  have hr := B.returns
  have hlk := B.notSynchronized
  subst hsz
  clear hv
  generalize va_A [(h0, .inr (1, [.ref et, .int (nI 61), .ref dt])), (et, .inl (G.2.1, 64, .inl (fun j => nI (sgn 1 j)))), (dt, .inl (G.2.1, 128, .inl (g)))] s.heap.size = A at E hw ⊢
  refine ent_f (Nat.le_of_ble_eq_true rfl) rfl (fun ls hl => ?_)
  have hl : lv_has ls 2 [(0, .ref h0)] := hl
  have loop2 : ∀ (n : Nat) (i : Nat) (g : Nat → Int32), i ≤ 64 → 64 < i + n → ∀ (H : Heap) (locs : List Loc), Wd G A s [(h0, .inr (1, [.ref et, .int (nI 61), .ref dt])), (et, .inl (G.2.1, 64, .inl (fun j => nI (sgn 1 j)))), (dt, .inl (G.2.1, 128, .inl (g)))] H locs → ∀ (ls : Array Slot), lv_has ls 2 [(0, .ref h0), (1, .int (nI i))] → W p l e (headSpec (ws_ yX4_initialiseDecodingTable cX4_initialiseDecodingTable 2 (none)) ({ frames := 0, cells := 0, slots := 0, locals := 0 })).room s m ([.ref h0] : List Value).toArray below meth c H locs 0 0 (MQ below (va_Qv (S := Nat → Int32) (fun _ => True) (bw_ G A (fun u => [(h0, .inr (1, [.ref et, .int (nI 61), .ref dt])), (et, .inl (G.2.1, 64, .inl (fun j => nI (sgn 1 j)))), (dt, .inl (G.2.1, 128, .inl (u)))])) A) ([.ref h0] : List Value).toArray s 0 0 A) (F0 m 26 ls []) := by
    intro n
    induction n with
    | zero =>
      intro i g hi hn
      omega
    | succ n ih =>
      intro i g hi hn H locs hw ls hl
      refine lv_iload_n E.1 E.2.1 dX4_initialiseDecodingTable_26 rfl (lv_at hl 1 rfl) ?_
      refine lv_aload_n E.1 E.2.1 dX4_initialiseDecodingTable_27 rfl (lv_at hl 0 rfl) ?_
      refine gf (v := .ref et) E hw in_X4 (ci := 1) rfl 0 rfl 0 (by decide) q149 rfl dX4_initialiseDecodingTable_28 ?_
      refine bln E hw 1 rfl dX4_initialiseDecodingTable_31 ?_
      refine n_icmp_ge (tgt := 54) E dX4_initialiseDecodingTable_32 (by decide) (by omega) (by omega) (fun c_32 => ?_) (fun c_32 => ?_)
      · skip
        have hw : Wd G A s [(h0, .inr (1, [.ref et, .int (nI 61), .ref dt])), (et, .inl (G.2.1, 64, .inl (fun j => nI (sgn 1 j)))), (dt, .inl (G.2.1, 128, .inl (g)))] H locs := hw.sub [0, 1, 2] (by decide) rfl
        exact ret_v E hw hr hlk (by omega) (by omega) (g) trivial rfl dX4_initialiseDecodingTable_54
      · skip
        have hs : sgn 1 i < 128 := sgn_lt (by omega) (fun _ => by omega)
        refine lv_aload_n E.1 E.2.1 dX4_initialiseDecodingTable_35 rfl (lv_at hl 0 rfl) ?_
        refine gf (v := .ref dt) E hw in_X4 (ci := 1) rfl 0 rfl 2 (by decide) q151 rfl dX4_initialiseDecodingTable_36 ?_
        refine lv_aload_n E.1 E.2.1 dX4_initialiseDecodingTable_39 rfl (lv_at hl 0 rfl) ?_
        refine gf (v := .ref et) E hw in_X4 (ci := 1) rfl 0 rfl 0 (by decide) q149 rfl dX4_initialiseDecodingTable_40 ?_
        refine lv_iload_n E.1 E.2.1 dX4_initialiseDecodingTable_43 rfl (lv_at hl 1 rfl) ?_
        refine bld (v := nI (sgn 1 i)) E hw 1 rfl (by omega) (by omega) rfl dX4_initialiseDecodingTable_44 ?_
        refine lv_iload_n E.1 E.2.1 dX4_initialiseDecodingTable_45 rfl (lv_at hl 1 rfl) ?_
        refine lv_i2b E.1 E.2.1 dX4_initialiseDecodingTable_46 rfl ?_
        obtain ⟨g_1, hg_1⟩ : ∃ z, upd (g) (sgn 1 i) (vp_nar .byte ((nI i).toInt8.toInt32)) = z := ⟨_, rfl⟩
        refine bst (ws' := [(h0, .inr (1, [.ref et, .int (nI 61), .ref dt])), (et, .inl (G.2.1, 64, .inl (fun j => nI (sgn 1 j)))), (dt, .inl (G.2.1, 128, .inl (g_1)))]) E hw 2 rfl (by omega) (by omega) (g_1) hg_1 rfl dX4_initialiseDecodingTable_47 (fun H locs hw => ?_)
        refine n_iinc (n := 1) (d := i + 1) (lv' := [(1, .int (nI (i + 1))), (0, .ref h0)]) E dX4_initialiseDecodingTable_48 hl (k := 1) rfl (by omega) (by decide) rfl (fun ls hl => ?_)
        refine lv_goto (tgt := 26) E.1 E.2.1 dX4_initialiseDecodingTable_51 (by decide) ?_
        exact ih (i + 1) _ (by omega) (by omega) H locs (hw.sub [0, 1, 2] (by decide) rfl) ls (lv_sub hl [1, 0] rfl)
  have loop1 : ∀ (n : Nat) (i : Nat) (g : Nat → Int32), i ≤ 128 → 128 < i + n → ∀ (H : Heap) (locs : List Loc), Wd G A s [(h0, .inr (1, [.ref et, .int (nI 61), .ref dt])), (et, .inl (G.2.1, 64, .inl (fun j => nI (sgn 1 j)))), (dt, .inl (G.2.1, 128, .inl (g)))] H locs → ∀ (ls : Array Slot), lv_has ls 2 [(0, .ref h0), (1, .int (nI i))] → W p l e (headSpec (ws_ yX4_initialiseDecodingTable cX4_initialiseDecodingTable 2 (none)) ({ frames := 0, cells := 0, slots := 0, locals := 0 })).room s m ([.ref h0] : List Value).toArray below meth c H locs 0 0 (MQ below (va_Qv (S := Nat → Int32) (fun _ => True) (bw_ G A (fun u => [(h0, .inr (1, [.ref et, .int (nI 61), .ref dt])), (et, .inl (G.2.1, 64, .inl (fun j => nI (sgn 1 j)))), (dt, .inl (G.2.1, 128, .inl (u)))])) A) ([.ref h0] : List Value).toArray s 0 0 A) (F0 m 2 ls []) := by
    intro n
    induction n with
    | zero =>
      intro i g hi hn
      omega
    | succ n ih =>
      intro i g hi hn H locs hw ls hl
      refine lv_iload_n E.1 E.2.1 dX4_initialiseDecodingTable_2 rfl (lv_at hl 1 rfl) ?_
      refine lv_aload_n E.1 E.2.1 dX4_initialiseDecodingTable_3 rfl (lv_at hl 0 rfl) ?_
      refine gf (v := .ref dt) E hw in_X4 (ci := 1) rfl 0 rfl 2 (by decide) q151 rfl dX4_initialiseDecodingTable_4 ?_
      refine bln E hw 2 rfl dX4_initialiseDecodingTable_7 ?_
      refine n_icmp_ge (tgt := 24) E dX4_initialiseDecodingTable_8 (by decide) (by omega) (by omega) (fun c_8 => ?_) (fun c_8 => ?_)
      · skip
        refine lv_iconst (v := nI 0) E.1 E.2.1 dX4_initialiseDecodingTable_24 (by decide +kernel) ?_
        refine lv_istore_n (lv' := [(1, .int (nI 0)), (0, .ref h0)]) E.1 E.2.1 dX4_initialiseDecodingTable_25 rfl hl (by decide) rfl (fun ls hl => ?_)
        exact loop2 65 0 _ (by omega) (by omega) H locs (hw.sub [0, 1, 2] (by decide) rfl) ls (lv_sub hl [1, 0] rfl)
      · skip
        refine lv_aload_n E.1 E.2.1 dX4_initialiseDecodingTable_11 rfl (lv_at hl 0 rfl) ?_
        refine gf (v := .ref dt) E hw in_X4 (ci := 1) rfl 0 rfl 2 (by decide) q151 rfl dX4_initialiseDecodingTable_12 ?_
        refine lv_iload_n E.1 E.2.1 dX4_initialiseDecodingTable_15 rfl (lv_at hl 1 rfl) ?_
        refine lv_iconst (v := (-1)) E.1 E.2.1 dX4_initialiseDecodingTable_16 (by decide +kernel) ?_
        obtain ⟨g_2, hg_2⟩ : ∃ z, upd (g) i (vp_nar .byte (-1)) = z := ⟨_, rfl⟩
        refine bst (ws' := [(h0, .inr (1, [.ref et, .int (nI 61), .ref dt])), (et, .inl (G.2.1, 64, .inl (fun j => nI (sgn 1 j)))), (dt, .inl (G.2.1, 128, .inl (g_2)))]) E hw 2 rfl (by omega) (by omega) (g_2) hg_2 rfl dX4_initialiseDecodingTable_17 (fun H locs hw => ?_)
        refine n_iinc (n := 1) (d := i + 1) (lv' := [(1, .int (nI (i + 1))), (0, .ref h0)]) E dX4_initialiseDecodingTable_18 hl (k := 1) rfl (by omega) (by decide) rfl (fun ls hl => ?_)
        refine lv_goto (tgt := 2) E.1 E.2.1 dX4_initialiseDecodingTable_21 (by decide) ?_
        exact ih (i + 1) _ (by omega) (by omega) H locs (hw.sub [0, 1, 2] (by decide) rfl) ls (lv_sub hl [1, 0] rfl)
  refine lv_iconst (v := nI 0) E.1 E.2.1 dX4_initialiseDecodingTable_0 (by decide +kernel) ?_
  refine lv_istore_n (lv' := [(1, .int (nI 0)), (0, .ref h0)]) E.1 E.2.1 dX4_initialiseDecodingTable_1 rfl hl (by decide) rfl (fun ls hl => ?_)
  exact loop1 129 0 _ (by omega) (by omega) s.heap [] (hw.sub [0, 1, 2] (by decide) rfl) ls (lv_sub hl [1, 0] rfl)
set_option maxHeartbeats 4000000 in
set_option maxRecDepth 100000 in
/-- Base64Encoder(): its table of letters, and a table of which nothing is said -/
theorem m_X4_init (l : Launch) (G : gg_T) (sz : Nat) (h0 : Nat) : cT_v l yX4_init (ws_ yX4_init cX4_init 1 (none)) ({ frames := 1, cells := 2, slots := 192, locals := 21 }) G [(h0, .inr (1, [.null, .int (nI 0), .null]))] sz [.ref h0] (S := Nat × Nat × (Nat → Int32)) (fun _ => True) (fun u => [(h0, .inr (1, [.ref u.1, .int (nI 61), .ref u.2.1])), (u.1, .inl (G.2.1, 64, .inl (fun j => nI (sgn 1 j)))), (u.2.1, .inl (G.2.1, 128, .inl (u.2.2)))]) 2 192 := by
  refine Met.ofW (cc := cX4_init) (maxL := 1) (ret := none) (by decide) rfl ?_
  intro p e s m args below meth c s₁ B hml hv
  obtain ⟨rfl, hsz, E, hw⟩ := ent_ (own := RX4) B hml rfl hv
  have hr := B.returns
  have hlk := B.notSynchronized
  have hin : meth.name = "<init>" := (name_of_methodNamed B.named B.method).1
  subst hsz
  clear hv
  generalize va_A [(h0, .inr (1, [.null, .int (nI 0), .null]))] s.heap.size = A at E hw ⊢
  refine ent_f (Nat.le_of_ble_eq_true rfl) rfl (fun ls hl => ?_)
  have hl : lv_has ls 1 [(0, .ref h0)] := hl
  refine lv_aload_n E.1 E.2.1 dX4_init_0 rfl (lv_at hl 0 rfl) ?_
  refine obi E hl.1 q144 dX4_init_1 (Nat.le_of_ble_eq_true rfl) (Nat.le_of_ble_eq_true rfl) ?_
  refine lv_aload_n E.1 E.2.1 dX4_init_4 rfl (lv_at hl 0 rfl) ?_
  refine lv_bipush (v := nI 64) E.1 E.2.1 dX4_init_5 (by decide +kernel) ?_
  refine nwb E hw (Nat.le_of_ble_eq_true rfl) (by show _ ≤ 2; omega) (by show _ ≤ 192; omega) dX4_init_7 (fun et H hw => ?_)
  have hw : Wd G A s [(h0, .inr (1, [.null, .int (nI 0), .null])), (et, .inl (G.2.1, 64, .inl (fun _ => 0)))] H [] := hw
  refine W.cs (cells' := 1) (slots' := 64) rfl rfl ?_
  refine lv_dup E.1 E.2.1 dX4_init_9 rfl ?_
  refine lv_iconst (v := nI 0) E.1 E.2.1 dX4_init_10 (by decide +kernel) ?_
  refine lv_bipush (v := nI 65) E.1 E.2.1 dX4_init_11 (by decide +kernel) ?_
  refine bst (ws' := [(h0, .inr (1, [.null, .int (nI 0), .null])), (et, .inl (G.2.1, 64, .inl (bk (fun _ => 0) 0 (fun j => nI (sgn 1 j)) 1)))]) E hw 1 rfl (by decide) (by decide) (bk (fun _ => 0) 0 (fun j => nI (sgn 1 j)) 1) (bk_upd0 rfl (by decide +kernel)) rfl dX4_init_13 (fun H locs hw => ?_)
  refine lv_dup E.1 E.2.1 dX4_init_14 rfl ?_
  refine lv_iconst (v := nI 1) E.1 E.2.1 dX4_init_15 (by decide +kernel) ?_
  refine lv_bipush (v := nI 66) E.1 E.2.1 dX4_init_16 (by decide +kernel) ?_
  refine bst (ws' := [(h0, .inr (1, [.null, .int (nI 0), .null])), (et, .inl (G.2.1, 64, .inl (bk (fun _ => 0) 0 (fun j => nI (sgn 1 j)) 2)))]) E hw 1 rfl (by decide) (by decide) (bk (fun _ => 0) 0 (fun j => nI (sgn 1 j)) 2) (bk_upd rfl (by decide +kernel)) rfl dX4_init_18 (fun H locs hw => ?_)
  refine lv_dup E.1 E.2.1 dX4_init_19 rfl ?_
  refine lv_iconst (v := nI 2) E.1 E.2.1 dX4_init_20 (by decide +kernel) ?_
  refine lv_bipush (v := nI 67) E.1 E.2.1 dX4_init_21 (by decide +kernel) ?_
  refine bst (ws' := [(h0, .inr (1, [.null, .int (nI 0), .null])), (et, .inl (G.2.1, 64, .inl (bk (fun _ => 0) 0 (fun j => nI (sgn 1 j)) 3)))]) E hw 1 rfl (by decide) (by decide) (bk (fun _ => 0) 0 (fun j => nI (sgn 1 j)) 3) (bk_upd rfl (by decide +kernel)) rfl dX4_init_23 (fun H locs hw => ?_)
  refine lv_dup E.1 E.2.1 dX4_init_24 rfl ?_
  refine lv_iconst (v := nI 3) E.1 E.2.1 dX4_init_25 (by decide +kernel) ?_
  refine lv_bipush (v := nI 68) E.1 E.2.1 dX4_init_26 (by decide +kernel) ?_
  refine bst (ws' := [(h0, .inr (1, [.null, .int (nI 0), .null])), (et, .inl (G.2.1, 64, .inl (bk (fun _ => 0) 0 (fun j => nI (sgn 1 j)) 4)))]) E hw 1 rfl (by decide) (by decide) (bk (fun _ => 0) 0 (fun j => nI (sgn 1 j)) 4) (bk_upd rfl (by decide +kernel)) rfl dX4_init_28 (fun H locs hw => ?_)
  refine lv_dup E.1 E.2.1 dX4_init_29 rfl ?_
  refine lv_iconst (v := nI 4) E.1 E.2.1 dX4_init_30 (by decide +kernel) ?_
  refine lv_bipush (v := nI 69) E.1 E.2.1 dX4_init_31 (by decide +kernel) ?_
  refine bst (ws' := [(h0, .inr (1, [.null, .int (nI 0), .null])), (et, .inl (G.2.1, 64, .inl (bk (fun _ => 0) 0 (fun j => nI (sgn 1 j)) 5)))]) E hw 1 rfl (by decide) (by decide) (bk (fun _ => 0) 0 (fun j => nI (sgn 1 j)) 5) (bk_upd rfl (by decide +kernel)) rfl dX4_init_33 (fun H locs hw => ?_)
  refine lv_dup E.1 E.2.1 dX4_init_34 rfl ?_
  refine lv_iconst (v := nI 5) E.1 E.2.1 dX4_init_35 (by decide +kernel) ?_
  refine lv_bipush (v := nI 70) E.1 E.2.1 dX4_init_36 (by decide +kernel) ?_
  refine bst (ws' := [(h0, .inr (1, [.null, .int (nI 0), .null])), (et, .inl (G.2.1, 64, .inl (bk (fun _ => 0) 0 (fun j => nI (sgn 1 j)) 6)))]) E hw 1 rfl (by decide) (by decide) (bk (fun _ => 0) 0 (fun j => nI (sgn 1 j)) 6) (bk_upd rfl (by decide +kernel)) rfl dX4_init_38 (fun H locs hw => ?_)
  refine lv_dup E.1 E.2.1 dX4_init_39 rfl ?_
  refine lv_bipush (v := nI 6) E.1 E.2.1 dX4_init_40 (by decide +kernel) ?_
  refine lv_bipush (v := nI 71) E.1 E.2.1 dX4_init_42 (by decide +kernel) ?_
  refine bst (ws' := [(h0, .inr (1, [.null, .int (nI 0), .null])), (et, .inl (G.2.1, 64, .inl (bk (fun _ => 0) 0 (fun j => nI (sgn 1 j)) 7)))]) E hw 1 rfl (by decide) (by decide) (bk (fun _ => 0) 0 (fun j => nI (sgn 1 j)) 7) (bk_upd rfl (by decide +kernel)) rfl dX4_init_44 (fun H locs hw => ?_)
  refine lv_dup E.1 E.2.1 dX4_init_45 rfl ?_
  refine lv_bipush (v := nI 7) E.1 E.2.1 dX4_init_46 (by decide +kernel) ?_
  refine lv_bipush (v := nI 72) E.1 E.2.1 dX4_init_48 (by decide +kernel) ?_
  refine bst (ws' := [(h0, .inr (1, [.null, .int (nI 0), .null])), (et, .inl (G.2.1, 64, .inl (bk (fun _ => 0) 0 (fun j => nI (sgn 1 j)) 8)))]) E hw 1 rfl (by decide) (by decide) (bk (fun _ => 0) 0 (fun j => nI (sgn 1 j)) 8) (bk_upd rfl (by decide +kernel)) rfl dX4_init_50 (fun H locs hw => ?_)
  refine lv_dup E.1 E.2.1 dX4_init_51 rfl ?_
  refine lv_bipush (v := nI 8) E.1 E.2.1 dX4_init_52 (by decide +kernel) ?_
  refine lv_bipush (v := nI 73) E.1 E.2.1 dX4_init_54 (by decide +kernel) ?_
  refine bst (ws' := [(h0, .inr (1, [.null, .int (nI 0), .null])), (et, .inl (G.2.1, 64, .inl (bk (fun _ => 0) 0 (fun j => nI (sgn 1 j)) 9)))]) E hw 1 rfl (by decide) (by decide) (bk (fun _ => 0) 0 (fun j => nI (sgn 1 j)) 9) (bk_upd rfl (by decide +kernel)) rfl dX4_init_56 (fun H locs hw => ?_)
  refine lv_dup E.1 E.2.1 dX4_init_57 rfl ?_
  refine lv_bipush (v := nI 9) E.1 E.2.1 dX4_init_58 (by decide +kernel) ?_
  refine lv_bipush (v := nI 74) E.1 E.2.1 dX4_init_60 (by decide +kernel) ?_
  refine bst (ws' := [(h0, .inr (1, [.null, .int (nI 0), .null])), (et, .inl (G.2.1, 64, .inl (bk (fun _ => 0) 0 (fun j => nI (sgn 1 j)) 10)))]) E hw 1 rfl (by decide) (by decide) (bk (fun _ => 0) 0 (fun j => nI (sgn 1 j)) 10) (bk_upd rfl (by decide +kernel)) rfl dX4_init_62 (fun H locs hw => ?_)
  refine lv_dup E.1 E.2.1 dX4_init_63 rfl ?_
  refine lv_bipush (v := nI 10) E.1 E.2.1 dX4_init_64 (by decide +kernel) ?_
  refine lv_bipush (v := nI 75) E.1 E.2.1 dX4_init_66 (by decide +kernel) ?_
  refine bst (ws' := [(h0, .inr (1, [.null, .int (nI 0), .null])), (et, .inl (G.2.1, 64, .inl (bk (fun _ => 0) 0 (fun j => nI (sgn 1 j)) 11)))]) E hw 1 rfl (by decide) (by decide) (bk (fun _ => 0) 0 (fun j => nI (sgn 1 j)) 11) (bk_upd rfl (by decide +kernel)) rfl dX4_init_68 (fun H locs hw => ?_)
  refine lv_dup E.1 E.2.1 dX4_init_69 rfl ?_
  refine lv_bipush (v := nI 11) E.1 E.2.1 dX4_init_70 (by decide +kernel) ?_
  refine lv_bipush (v := nI 76) E.1 E.2.1 dX4_init_72 (by decide +kernel) ?_
  refine bst (ws' := [(h0, .inr (1, [.null, .int (nI 0), .null])), (et, .inl (G.2.1, 64, .inl (bk (fun _ => 0) 0 (fun j => nI (sgn 1 j)) 12)))]) E hw 1 rfl (by decide) (by decide) (bk (fun _ => 0) 0 (fun j => nI (sgn 1 j)) 12) (bk_upd rfl (by decide +kernel)) rfl dX4_init_74 (fun H locs hw => ?_)
  refine lv_dup E.1 E.2.1 dX4_init_75 rfl ?_
  refine lv_bipush (v := nI 12) E.1 E.2.1 dX4_init_76 (by decide +kernel) ?_
  refine lv_bipush (v := nI 77) E.1 E.2.1 dX4_init_78 (by decide +kernel) ?_
  refine bst (ws' := [(h0, .inr (1, [.null, .int (nI 0), .null])), (et, .inl (G.2.1, 64, .inl (bk (fun _ => 0) 0 (fun j => nI (sgn 1 j)) 13)))]) E hw 1 rfl (by decide) (by decide) (bk (fun _ => 0) 0 (fun j => nI (sgn 1 j)) 13) (bk_upd rfl (by decide +kernel)) rfl dX4_init_80 (fun H locs hw => ?_)
  refine lv_dup E.1 E.2.1 dX4_init_81 rfl ?_
  refine lv_bipush (v := nI 13) E.1 E.2.1 dX4_init_82 (by decide +kernel) ?_
  refine lv_bipush (v := nI 78) E.1 E.2.1 dX4_init_84 (by decide +kernel) ?_
  refine bst (ws' := [(h0, .inr (1, [.null, .int (nI 0), .null])), (et, .inl (G.2.1, 64, .inl (bk (fun _ => 0) 0 (fun j => nI (sgn 1 j)) 14)))]) E hw 1 rfl (by decide) (by decide) (bk (fun _ => 0) 0 (fun j => nI (sgn 1 j)) 14) (bk_upd rfl (by decide +kernel)) rfl dX4_init_86 (fun H locs hw => ?_)
  refine lv_dup E.1 E.2.1 dX4_init_87 rfl ?_
  refine lv_bipush (v := nI 14) E.1 E.2.1 dX4_init_88 (by decide +kernel) ?_
  refine lv_bipush (v := nI 79) E.1 E.2.1 dX4_init_90 (by decide +kernel) ?_
  refine bst (ws' := [(h0, .inr (1, [.null, .int (nI 0), .null])), (et, .inl (G.2.1, 64, .inl (bk (fun _ => 0) 0 (fun j => nI (sgn 1 j)) 15)))]) E hw 1 rfl (by decide) (by decide) (bk (fun _ => 0) 0 (fun j => nI (sgn 1 j)) 15) (bk_upd rfl (by decide +kernel)) rfl dX4_init_92 (fun H locs hw => ?_)
  refine lv_dup E.1 E.2.1 dX4_init_93 rfl ?_
  refine lv_bipush (v := nI 15) E.1 E.2.1 dX4_init_94 (by decide +kernel) ?_
  refine lv_bipush (v := nI 80) E.1 E.2.1 dX4_init_96 (by decide +kernel) ?_
  refine bst (ws' := [(h0, .inr (1, [.null, .int (nI 0), .null])), (et, .inl (G.2.1, 64, .inl (bk (fun _ => 0) 0 (fun j => nI (sgn 1 j)) 16)))]) E hw 1 rfl (by decide) (by decide) (bk (fun _ => 0) 0 (fun j => nI (sgn 1 j)) 16) (bk_upd rfl (by decide +kernel)) rfl dX4_init_98 (fun H locs hw => ?_)
  refine lv_dup E.1 E.2.1 dX4_init_99 rfl ?_
  refine lv_bipush (v := nI 16) E.1 E.2.1 dX4_init_100 (by decide +kernel) ?_
  refine lv_bipush (v := nI 81) E.1 E.2.1 dX4_init_102 (by decide +kernel) ?_
  refine bst (ws' := [(h0, .inr (1, [.null, .int (nI 0), .null])), (et, .inl (G.2.1, 64, .inl (bk (fun _ => 0) 0 (fun j => nI (sgn 1 j)) 17)))]) E hw 1 rfl (by decide) (by decide) (bk (fun _ => 0) 0 (fun j => nI (sgn 1 j)) 17) (bk_upd rfl (by decide +kernel)) rfl dX4_init_104 (fun H locs hw => ?_)
  refine lv_dup E.1 E.2.1 dX4_init_105 rfl ?_
  refine lv_bipush (v := nI 17) E.1 E.2.1 dX4_init_106 (by decide +kernel) ?_
  refine lv_bipush (v := nI 82) E.1 E.2.1 dX4_init_108 (by decide +kernel) ?_
  refine bst (ws' := [(h0, .inr (1, [.null, .int (nI 0), .null])), (et, .inl (G.2.1, 64, .inl (bk (fun _ => 0) 0 (fun j => nI (sgn 1 j)) 18)))]) E hw 1 rfl (by decide) (by decide) (bk (fun _ => 0) 0 (fun j => nI (sgn 1 j)) 18) (bk_upd rfl (by decide +kernel)) rfl dX4_init_110 (fun H locs hw => ?_)
  refine lv_dup E.1 E.2.1 dX4_init_111 rfl ?_
  refine lv_bipush (v := nI 18) E.1 E.2.1 dX4_init_112 (by decide +kernel) ?_
  refine lv_bipush (v := nI 83) E.1 E.2.1 dX4_init_114 (by decide +kernel) ?_
  refine bst (ws' := [(h0, .inr (1, [.null, .int (nI 0), .null])), (et, .inl (G.2.1, 64, .inl (bk (fun _ => 0) 0 (fun j => nI (sgn 1 j)) 19)))]) E hw 1 rfl (by decide) (by decide) (bk (fun _ => 0) 0 (fun j => nI (sgn 1 j)) 19) (bk_upd rfl (by decide +kernel)) rfl dX4_init_116 (fun H locs hw => ?_)
  refine lv_dup E.1 E.2.1 dX4_init_117 rfl ?_
  refine lv_bipush (v := nI 19) E.1 E.2.1 dX4_init_118 (by decide +kernel) ?_
  refine lv_bipush (v := nI 84) E.1 E.2.1 dX4_init_120 (by decide +kernel) ?_
  refine bst (ws' := [(h0, .inr (1, [.null, .int (nI 0), .null])), (et, .inl (G.2.1, 64, .inl (bk (fun _ => 0) 0 (fun j => nI (sgn 1 j)) 20)))]) E hw 1 rfl (by decide) (by decide) (bk (fun _ => 0) 0 (fun j => nI (sgn 1 j)) 20) (bk_upd rfl (by decide +kernel)) rfl dX4_init_122 (fun H locs hw => ?_)
  refine lv_dup E.1 E.2.1 dX4_init_123 rfl ?_
  refine lv_bipush (v := nI 20) E.1 E.2.1 dX4_init_124 (by decide +kernel) ?_
  refine lv_bipush (v := nI 85) E.1 E.2.1 dX4_init_126 (by decide +kernel) ?_
  refine bst (ws' := [(h0, .inr (1, [.null, .int (nI 0), .null])), (et, .inl (G.2.1, 64, .inl (bk (fun _ => 0) 0 (fun j => nI (sgn 1 j)) 21)))]) E hw 1 rfl (by decide) (by decide) (bk (fun _ => 0) 0 (fun j => nI (sgn 1 j)) 21) (bk_upd rfl (by decide +kernel)) rfl dX4_init_128 (fun H locs hw => ?_)
  refine lv_dup E.1 E.2.1 dX4_init_129 rfl ?_
  refine lv_bipush (v := nI 21) E.1 E.2.1 dX4_init_130 (by decide +kernel) ?_
  refine lv_bipush (v := nI 86) E.1 E.2.1 dX4_init_132 (by decide +kernel) ?_
  refine bst (ws' := [(h0, .inr (1, [.null, .int (nI 0), .null])), (et, .inl (G.2.1, 64, .inl (bk (fun _ => 0) 0 (fun j => nI (sgn 1 j)) 22)))]) E hw 1 rfl (by decide) (by decide) (bk (fun _ => 0) 0 (fun j => nI (sgn 1 j)) 22) (bk_upd rfl (by decide +kernel)) rfl dX4_init_134 (fun H locs hw => ?_)
  refine lv_dup E.1 E.2.1 dX4_init_135 rfl ?_
  refine lv_bipush (v := nI 22) E.1 E.2.1 dX4_init_136 (by decide +kernel) ?_
  refine lv_bipush (v := nI 87) E.1 E.2.1 dX4_init_138 (by decide +kernel) ?_
  refine bst (ws' := [(h0, .inr (1, [.null, .int (nI 0), .null])), (et, .inl (G.2.1, 64, .inl (bk (fun _ => 0) 0 (fun j => nI (sgn 1 j)) 23)))]) E hw 1 rfl (by decide) (by decide) (bk (fun _ => 0) 0 (fun j => nI (sgn 1 j)) 23) (bk_upd rfl (by decide +kernel)) rfl dX4_init_140 (fun H locs hw => ?_)
  refine lv_dup E.1 E.2.1 dX4_init_141 rfl ?_
  refine lv_bipush (v := nI 23) E.1 E.2.1 dX4_init_142 (by decide +kernel) ?_
  refine lv_bipush (v := nI 88) E.1 E.2.1 dX4_init_144 (by decide +kernel) ?_
  refine bst (ws' := [(h0, .inr (1, [.null, .int (nI 0), .null])), (et, .inl (G.2.1, 64, .inl (bk (fun _ => 0) 0 (fun j => nI (sgn 1 j)) 24)))]) E hw 1 rfl (by decide) (by decide) (bk (fun _ => 0) 0 (fun j => nI (sgn 1 j)) 24) (bk_upd rfl (by decide +kernel)) rfl dX4_init_146 (fun H locs hw => ?_)
  refine lv_dup E.1 E.2.1 dX4_init_147 rfl ?_
  refine lv_bipush (v := nI 24) E.1 E.2.1 dX4_init_148 (by decide +kernel) ?_
  refine lv_bipush (v := nI 89) E.1 E.2.1 dX4_init_150 (by decide +kernel) ?_
  refine bst (ws' := [(h0, .inr (1, [.null, .int (nI 0), .null])), (et, .inl (G.2.1, 64, .inl (bk (fun _ => 0) 0 (fun j => nI (sgn 1 j)) 25)))]) E hw 1 rfl (by decide) (by decide) (bk (fun _ => 0) 0 (fun j => nI (sgn 1 j)) 25) (bk_upd rfl (by decide +kernel)) rfl dX4_init_152 (fun H locs hw => ?_)
  refine lv_dup E.1 E.2.1 dX4_init_153 rfl ?_
  refine lv_bipush (v := nI 25) E.1 E.2.1 dX4_init_154 (by decide +kernel) ?_
  refine lv_bipush (v := nI 90) E.1 E.2.1 dX4_init_156 (by decide +kernel) ?_
  refine bst (ws' := [(h0, .inr (1, [.null, .int (nI 0), .null])), (et, .inl (G.2.1, 64, .inl (bk (fun _ => 0) 0 (fun j => nI (sgn 1 j)) 26)))]) E hw 1 rfl (by decide) (by decide) (bk (fun _ => 0) 0 (fun j => nI (sgn 1 j)) 26) (bk_upd rfl (by decide +kernel)) rfl dX4_init_158 (fun H locs hw => ?_)
  refine lv_dup E.1 E.2.1 dX4_init_159 rfl ?_
  refine lv_bipush (v := nI 26) E.1 E.2.1 dX4_init_160 (by decide +kernel) ?_
  refine lv_bipush (v := nI 97) E.1 E.2.1 dX4_init_162 (by decide +kernel) ?_
  refine bst (ws' := [(h0, .inr (1, [.null, .int (nI 0), .null])), (et, .inl (G.2.1, 64, .inl (bk (fun _ => 0) 0 (fun j => nI (sgn 1 j)) 27)))]) E hw 1 rfl (by decide) (by decide) (bk (fun _ => 0) 0 (fun j => nI (sgn 1 j)) 27) (bk_upd rfl (by decide +kernel)) rfl dX4_init_164 (fun H locs hw => ?_)
  refine lv_dup E.1 E.2.1 dX4_init_165 rfl ?_
  refine lv_bipush (v := nI 27) E.1 E.2.1 dX4_init_166 (by decide +kernel) ?_
  refine lv_bipush (v := nI 98) E.1 E.2.1 dX4_init_168 (by decide +kernel) ?_
  refine bst (ws' := [(h0, .inr (1, [.null, .int (nI 0), .null])), (et, .inl (G.2.1, 64, .inl (bk (fun _ => 0) 0 (fun j => nI (sgn 1 j)) 28)))]) E hw 1 rfl (by decide) (by decide) (bk (fun _ => 0) 0 (fun j => nI (sgn 1 j)) 28) (bk_upd rfl (by decide +kernel)) rfl dX4_init_170 (fun H locs hw => ?_)
  refine lv_dup E.1 E.2.1 dX4_init_171 rfl ?_
  refine lv_bipush (v := nI 28) E.1 E.2.1 dX4_init_172 (by decide +kernel) ?_
  refine lv_bipush (v := nI 99) E.1 E.2.1 dX4_init_174 (by decide +kernel) ?_
  refine bst (ws' := [(h0, .inr (1, [.null, .int (nI 0), .null])), (et, .inl (G.2.1, 64, .inl (bk (fun _ => 0) 0 (fun j => nI (sgn 1 j)) 29)))]) E hw 1 rfl (by decide) (by decide) (bk (fun _ => 0) 0 (fun j => nI (sgn 1 j)) 29) (bk_upd rfl (by decide +kernel)) rfl dX4_init_176 (fun H locs hw => ?_)
  refine lv_dup E.1 E.2.1 dX4_init_177 rfl ?_
  refine lv_bipush (v := nI 29) E.1 E.2.1 dX4_init_178 (by decide +kernel) ?_
  refine lv_bipush (v := nI 100) E.1 E.2.1 dX4_init_180 (by decide +kernel) ?_
  refine bst (ws' := [(h0, .inr (1, [.null, .int (nI 0), .null])), (et, .inl (G.2.1, 64, .inl (bk (fun _ => 0) 0 (fun j => nI (sgn 1 j)) 30)))]) E hw 1 rfl (by decide) (by decide) (bk (fun _ => 0) 0 (fun j => nI (sgn 1 j)) 30) (bk_upd rfl (by decide +kernel)) rfl dX4_init_182 (fun H locs hw => ?_)
  refine lv_dup E.1 E.2.1 dX4_init_183 rfl ?_
  refine lv_bipush (v := nI 30) E.1 E.2.1 dX4_init_184 (by decide +kernel) ?_
  refine lv_bipush (v := nI 101) E.1 E.2.1 dX4_init_186 (by decide +kernel) ?_
  refine bst (ws' := [(h0, .inr (1, [.null, .int (nI 0), .null])), (et, .inl (G.2.1, 64, .inl (bk (fun _ => 0) 0 (fun j => nI (sgn 1 j)) 31)))]) E hw 1 rfl (by decide) (by decide) (bk (fun _ => 0) 0 (fun j => nI (sgn 1 j)) 31) (bk_upd rfl (by decide +kernel)) rfl dX4_init_188 (fun H locs hw => ?_)
  refine lv_dup E.1 E.2.1 dX4_init_189 rfl ?_
  refine lv_bipush (v := nI 31) E.1 E.2.1 dX4_init_190 (by decide +kernel) ?_
  refine lv_bipush (v := nI 102) E.1 E.2.1 dX4_init_192 (by decide +kernel) ?_
  refine bst (ws' := [(h0, .inr (1, [.null, .int (nI 0), .null])), (et, .inl (G.2.1, 64, .inl (bk (fun _ => 0) 0 (fun j => nI (sgn 1 j)) 32)))]) E hw 1 rfl (by decide) (by decide) (bk (fun _ => 0) 0 (fun j => nI (sgn 1 j)) 32) (bk_upd rfl (by decide +kernel)) rfl dX4_init_194 (fun H locs hw => ?_)
  refine lv_dup E.1 E.2.1 dX4_init_195 rfl ?_
  refine lv_bipush (v := nI 32) E.1 E.2.1 dX4_init_196 (by decide +kernel) ?_
  refine lv_bipush (v := nI 103) E.1 E.2.1 dX4_init_198 (by decide +kernel) ?_
  refine bst (ws' := [(h0, .inr (1, [.null, .int (nI 0), .null])), (et, .inl (G.2.1, 64, .inl (bk (fun _ => 0) 0 (fun j => nI (sgn 1 j)) 33)))]) E hw 1 rfl (by decide) (by decide) (bk (fun _ => 0) 0 (fun j => nI (sgn 1 j)) 33) (bk_upd rfl (by decide +kernel)) rfl dX4_init_200 (fun H locs hw => ?_)
  refine lv_dup E.1 E.2.1 dX4_init_201 rfl ?_
  refine lv_bipush (v := nI 33) E.1 E.2.1 dX4_init_202 (by decide +kernel) ?_
  refine lv_bipush (v := nI 104) E.1 E.2.1 dX4_init_204 (by decide +kernel) ?_
  refine bst (ws' := [(h0, .inr (1, [.null, .int (nI 0), .null])), (et, .inl (G.2.1, 64, .inl (bk (fun _ => 0) 0 (fun j => nI (sgn 1 j)) 34)))]) E hw 1 rfl (by decide) (by decide) (bk (fun _ => 0) 0 (fun j => nI (sgn 1 j)) 34) (bk_upd rfl (by decide +kernel)) rfl dX4_init_206 (fun H locs hw => ?_)
  refine lv_dup E.1 E.2.1 dX4_init_207 rfl ?_
  refine lv_bipush (v := nI 34) E.1 E.2.1 dX4_init_208 (by decide +kernel) ?_
  refine lv_bipush (v := nI 105) E.1 E.2.1 dX4_init_210 (by decide +kernel) ?_
  refine bst (ws' := [(h0, .inr (1, [.null, .int (nI 0), .null])), (et, .inl (G.2.1, 64, .inl (bk (fun _ => 0) 0 (fun j => nI (sgn 1 j)) 35)))]) E hw 1 rfl (by decide) (by decide) (bk (fun _ => 0) 0 (fun j => nI (sgn 1 j)) 35) (bk_upd rfl (by decide +kernel)) rfl dX4_init_212 (fun H locs hw => ?_)
  refine lv_dup E.1 E.2.1 dX4_init_213 rfl ?_
  refine lv_bipush (v := nI 35) E.1 E.2.1 dX4_init_214 (by decide +kernel) ?_
  refine lv_bipush (v := nI 106) E.1 E.2.1 dX4_init_216 (by decide +kernel) ?_
  refine bst (ws' := [(h0, .inr (1, [.null, .int (nI 0), .null])), (et, .inl (G.2.1, 64, .inl (bk (fun _ => 0) 0 (fun j => nI (sgn 1 j)) 36)))]) E hw 1 rfl (by decide) (by decide) (bk (fun _ => 0) 0 (fun j => nI (sgn 1 j)) 36) (bk_upd rfl (by decide +kernel)) rfl dX4_init_218 (fun H locs hw => ?_)
  refine lv_dup E.1 E.2.1 dX4_init_219 rfl ?_
  refine lv_bipush (v := nI 36) E.1 E.2.1 dX4_init_220 (by decide +kernel) ?_
  refine lv_bipush (v := nI 107) E.1 E.2.1 dX4_init_222 (by decide +kernel) ?_
  refine bst (ws' := [(h0, .inr (1, [.null, .int (nI 0), .null])), (et, .inl (G.2.1, 64, .inl (bk (fun _ => 0) 0 (fun j => nI (sgn 1 j)) 37)))]) E hw 1 rfl (by decide) (by decide) (bk (fun _ => 0) 0 (fun j => nI (sgn 1 j)) 37) (bk_upd rfl (by decide +kernel)) rfl dX4_init_224 (fun H locs hw => ?_)
  refine lv_dup E.1 E.2.1 dX4_init_225 rfl ?_
  refine lv_bipush (v := nI 37) E.1 E.2.1 dX4_init_226 (by decide +kernel) ?_
  refine lv_bipush (v := nI 108) E.1 E.2.1 dX4_init_228 (by decide +kernel) ?_
  refine bst (ws' := [(h0, .inr (1, [.null, .int (nI 0), .null])), (et, .inl (G.2.1, 64, .inl (bk (fun _ => 0) 0 (fun j => nI (sgn 1 j)) 38)))]) E hw 1 rfl (by decide) (by decide) (bk (fun _ => 0) 0 (fun j => nI (sgn 1 j)) 38) (bk_upd rfl (by decide +kernel)) rfl dX4_init_230 (fun H locs hw => ?_)
  refine lv_dup E.1 E.2.1 dX4_init_231 rfl ?_
  refine lv_bipush (v := nI 38) E.1 E.2.1 dX4_init_232 (by decide +kernel) ?_
  refine lv_bipush (v := nI 109) E.1 E.2.1 dX4_init_234 (by decide +kernel) ?_
  refine bst (ws' := [(h0, .inr (1, [.null, .int (nI 0), .null])), (et, .inl (G.2.1, 64, .inl (bk (fun _ => 0) 0 (fun j => nI (sgn 1 j)) 39)))]) E hw 1 rfl (by decide) (by decide) (bk (fun _ => 0) 0 (fun j => nI (sgn 1 j)) 39) (bk_upd rfl (by decide +kernel)) rfl dX4_init_236 (fun H locs hw => ?_)
  refine lv_dup E.1 E.2.1 dX4_init_237 rfl ?_
  refine lv_bipush (v := nI 39) E.1 E.2.1 dX4_init_238 (by decide +kernel) ?_
  refine lv_bipush (v := nI 110) E.1 E.2.1 dX4_init_240 (by decide +kernel) ?_
  refine bst (ws' := [(h0, .inr (1, [.null, .int (nI 0), .null])), (et, .inl (G.2.1, 64, .inl (bk (fun _ => 0) 0 (fun j => nI (sgn 1 j)) 40)))]) E hw 1 rfl (by decide) (by decide) (bk (fun _ => 0) 0 (fun j => nI (sgn 1 j)) 40) (bk_upd rfl (by decide +kernel)) rfl dX4_init_242 (fun H locs hw => ?_)
  refine lv_dup E.1 E.2.1 dX4_init_243 rfl ?_
  refine lv_bipush (v := nI 40) E.1 E.2.1 dX4_init_244 (by decide +kernel) ?_
  refine lv_bipush (v := nI 111) E.1 E.2.1 dX4_init_246 (by decide +kernel) ?_
  refine bst (ws' := [(h0, .inr (1, [.null, .int (nI 0), .null])), (et, .inl (G.2.1, 64, .inl (bk (fun _ => 0) 0 (fun j => nI (sgn 1 j)) 41)))]) E hw 1 rfl (by decide) (by decide) (bk (fun _ => 0) 0 (fun j => nI (sgn 1 j)) 41) (bk_upd rfl (by decide +kernel)) rfl dX4_init_248 (fun H locs hw => ?_)
  refine lv_dup E.1 E.2.1 dX4_init_249 rfl ?_
  refine lv_bipush (v := nI 41) E.1 E.2.1 dX4_init_250 (by decide +kernel) ?_
  refine lv_bipush (v := nI 112) E.1 E.2.1 dX4_init_252 (by decide +kernel) ?_
  refine bst (ws' := [(h0, .inr (1, [.null, .int (nI 0), .null])), (et, .inl (G.2.1, 64, .inl (bk (fun _ => 0) 0 (fun j => nI (sgn 1 j)) 42)))]) E hw 1 rfl (by decide) (by decide) (bk (fun _ => 0) 0 (fun j => nI (sgn 1 j)) 42) (bk_upd rfl (by decide +kernel)) rfl dX4_init_254 (fun H locs hw => ?_)
  refine lv_dup E.1 E.2.1 dX4_init_255 rfl ?_
  refine lv_bipush (v := nI 42) E.1 E.2.1 dX4_init_256 (by decide +kernel) ?_
  refine lv_bipush (v := nI 113) E.1 E.2.1 dX4_init_258 (by decide +kernel) ?_
  refine bst (ws' := [(h0, .inr (1, [.null, .int (nI 0), .null])), (et, .inl (G.2.1, 64, .inl (bk (fun _ => 0) 0 (fun j => nI (sgn 1 j)) 43)))]) E hw 1 rfl (by decide) (by decide) (bk (fun _ => 0) 0 (fun j => nI (sgn 1 j)) 43) (bk_upd rfl (by decide +kernel)) rfl dX4_init_260 (fun H locs hw => ?_)
  refine lv_dup E.1 E.2.1 dX4_init_261 rfl ?_
  refine lv_bipush (v := nI 43) E.1 E.2.1 dX4_init_262 (by decide +kernel) ?_
  refine lv_bipush (v := nI 114) E.1 E.2.1 dX4_init_264 (by decide +kernel) ?_
  refine bst (ws' := [(h0, .inr (1, [.null, .int (nI 0), .null])), (et, .inl (G.2.1, 64, .inl (bk (fun _ => 0) 0 (fun j => nI (sgn 1 j)) 44)))]) E hw 1 rfl (by decide) (by decide) (bk (fun _ => 0) 0 (fun j => nI (sgn 1 j)) 44) (bk_upd rfl (by decide +kernel)) rfl dX4_init_266 (fun H locs hw => ?_)
  refine lv_dup E.1 E.2.1 dX4_init_267 rfl ?_
  refine lv_bipush (v := nI 44) E.1 E.2.1 dX4_init_268 (by decide +kernel) ?_
  refine lv_bipush (v := nI 115) E.1 E.2.1 dX4_init_270 (by decide +kernel) ?_
  refine bst (ws' := [(h0, .inr (1, [.null, .int (nI 0), .null])), (et, .inl (G.2.1, 64, .inl (bk (fun _ => 0) 0 (fun j => nI (sgn 1 j)) 45)))]) E hw 1 rfl (by decide) (by decide) (bk (fun _ => 0) 0 (fun j => nI (sgn 1 j)) 45) (bk_upd rfl (by decide +kernel)) rfl dX4_init_272 (fun H locs hw => ?_)
  refine lv_dup E.1 E.2.1 dX4_init_273 rfl ?_
  refine lv_bipush (v := nI 45) E.1 E.2.1 dX4_init_274 (by decide +kernel) ?_
  refine lv_bipush (v := nI 116) E.1 E.2.1 dX4_init_276 (by decide +kernel) ?_
  refine bst (ws' := [(h0, .inr (1, [.null, .int (nI 0), .null])), (et, .inl (G.2.1, 64, .inl (bk (fun _ => 0) 0 (fun j => nI (sgn 1 j)) 46)))]) E hw 1 rfl (by decide) (by decide) (bk (fun _ => 0) 0 (fun j => nI (sgn 1 j)) 46) (bk_upd rfl (by decide +kernel)) rfl dX4_init_278 (fun H locs hw => ?_)
  refine lv_dup E.1 E.2.1 dX4_init_279 rfl ?_
  refine lv_bipush (v := nI 46) E.1 E.2.1 dX4_init_280 (by decide +kernel) ?_
  refine lv_bipush (v := nI 117) E.1 E.2.1 dX4_init_282 (by decide +kernel) ?_
  refine bst (ws' := [(h0, .inr (1, [.null, .int (nI 0), .null])), (et, .inl (G.2.1, 64, .inl (bk (fun _ => 0) 0 (fun j => nI (sgn 1 j)) 47)))]) E hw 1 rfl (by decide) (by decide) (bk (fun _ => 0) 0 (fun j => nI (sgn 1 j)) 47) (bk_upd rfl (by decide +kernel)) rfl dX4_init_284 (fun H locs hw => ?_)
  refine lv_dup E.1 E.2.1 dX4_init_285 rfl ?_
  refine lv_bipush (v := nI 47) E.1 E.2.1 dX4_init_286 (by decide +kernel) ?_
  refine lv_bipush (v := nI 118) E.1 E.2.1 dX4_init_288 (by decide +kernel) ?_
  refine bst (ws' := [(h0, .inr (1, [.null, .int (nI 0), .null])), (et, .inl (G.2.1, 64, .inl (bk (fun _ => 0) 0 (fun j => nI (sgn 1 j)) 48)))]) E hw 1 rfl (by decide) (by decide) (bk (fun _ => 0) 0 (fun j => nI (sgn 1 j)) 48) (bk_upd rfl (by decide +kernel)) rfl dX4_init_290 (fun H locs hw => ?_)
  refine lv_dup E.1 E.2.1 dX4_init_291 rfl ?_
  refine lv_bipush (v := nI 48) E.1 E.2.1 dX4_init_292 (by decide +kernel) ?_
  refine lv_bipush (v := nI 119) E.1 E.2.1 dX4_init_294 (by decide +kernel) ?_
  refine bst (ws' := [(h0, .inr (1, [.null, .int (nI 0), .null])), (et, .inl (G.2.1, 64, .inl (bk (fun _ => 0) 0 (fun j => nI (sgn 1 j)) 49)))]) E hw 1 rfl (by decide) (by decide) (bk (fun _ => 0) 0 (fun j => nI (sgn 1 j)) 49) (bk_upd rfl (by decide +kernel)) rfl dX4_init_296 (fun H locs hw => ?_)
  refine lv_dup E.1 E.2.1 dX4_init_297 rfl ?_
  refine lv_bipush (v := nI 49) E.1 E.2.1 dX4_init_298 (by decide +kernel) ?_
  refine lv_bipush (v := nI 120) E.1 E.2.1 dX4_init_300 (by decide +kernel) ?_
  refine bst (ws' := [(h0, .inr (1, [.null, .int (nI 0), .null])), (et, .inl (G.2.1, 64, .inl (bk (fun _ => 0) 0 (fun j => nI (sgn 1 j)) 50)))]) E hw 1 rfl (by decide) (by decide) (bk (fun _ => 0) 0 (fun j => nI (sgn 1 j)) 50) (bk_upd rfl (by decide +kernel)) rfl dX4_init_302 (fun H locs hw => ?_)
  refine lv_dup E.1 E.2.1 dX4_init_303 rfl ?_
  refine lv_bipush (v := nI 50) E.1 E.2.1 dX4_init_304 (by decide +kernel) ?_
  refine lv_bipush (v := nI 121) E.1 E.2.1 dX4_init_306 (by decide +kernel) ?_
  refine bst (ws' := [(h0, .inr (1, [.null, .int (nI 0), .null])), (et, .inl (G.2.1, 64, .inl (bk (fun _ => 0) 0 (fun j => nI (sgn 1 j)) 51)))]) E hw 1 rfl (by decide) (by decide) (bk (fun _ => 0) 0 (fun j => nI (sgn 1 j)) 51) (bk_upd rfl (by decide +kernel)) rfl dX4_init_308 (fun H locs hw => ?_)
  refine lv_dup E.1 E.2.1 dX4_init_309 rfl ?_
  refine lv_bipush (v := nI 51) E.1 E.2.1 dX4_init_310 (by decide +kernel) ?_
  refine lv_bipush (v := nI 122) E.1 E.2.1 dX4_init_312 (by decide +kernel) ?_
  refine bst (ws' := [(h0, .inr (1, [.null, .int (nI 0), .null])), (et, .inl (G.2.1, 64, .inl (bk (fun _ => 0) 0 (fun j => nI (sgn 1 j)) 52)))]) E hw 1 rfl (by decide) (by decide) (bk (fun _ => 0) 0 (fun j => nI (sgn 1 j)) 52) (bk_upd rfl (by decide +kernel)) rfl dX4_init_314 (fun H locs hw => ?_)
  refine lv_dup E.1 E.2.1 dX4_init_315 rfl ?_
  refine lv_bipush (v := nI 52) E.1 E.2.1 dX4_init_316 (by decide +kernel) ?_
  refine lv_bipush (v := nI 48) E.1 E.2.1 dX4_init_318 (by decide +kernel) ?_
  refine bst (ws' := [(h0, .inr (1, [.null, .int (nI 0), .null])), (et, .inl (G.2.1, 64, .inl (bk (fun _ => 0) 0 (fun j => nI (sgn 1 j)) 53)))]) E hw 1 rfl (by decide) (by decide) (bk (fun _ => 0) 0 (fun j => nI (sgn 1 j)) 53) (bk_upd rfl (by decide +kernel)) rfl dX4_init_320 (fun H locs hw => ?_)
  refine lv_dup E.1 E.2.1 dX4_init_321 rfl ?_
  refine lv_bipush (v := nI 53) E.1 E.2.1 dX4_init_322 (by decide +kernel) ?_
  refine lv_bipush (v := nI 49) E.1 E.2.1 dX4_init_324 (by decide +kernel) ?_
  refine bst (ws' := [(h0, .inr (1, [.null, .int (nI 0), .null])), (et, .inl (G.2.1, 64, .inl (bk (fun _ => 0) 0 (fun j => nI (sgn 1 j)) 54)))]) E hw 1 rfl (by decide) (by decide) (bk (fun _ => 0) 0 (fun j => nI (sgn 1 j)) 54) (bk_upd rfl (by decide +kernel)) rfl dX4_init_326 (fun H locs hw => ?_)
  refine lv_dup E.1 E.2.1 dX4_init_327 rfl ?_
  refine lv_bipush (v := nI 54) E.1 E.2.1 dX4_init_328 (by decide +kernel) ?_
  refine lv_bipush (v := nI 50) E.1 E.2.1 dX4_init_330 (by decide +kernel) ?_
  refine bst (ws' := [(h0, .inr (1, [.null, .int (nI 0), .null])), (et, .inl (G.2.1, 64, .inl (bk (fun _ => 0) 0 (fun j => nI (sgn 1 j)) 55)))]) E hw 1 rfl (by decide) (by decide) (bk (fun _ => 0) 0 (fun j => nI (sgn 1 j)) 55) (bk_upd rfl (by decide +kernel)) rfl dX4_init_332 (fun H locs hw => ?_)
  refine lv_dup E.1 E.2.1 dX4_init_333 rfl ?_
  refine lv_bipush (v := nI 55) E.1 E.2.1 dX4_init_334 (by decide +kernel) ?_
  refine lv_bipush (v := nI 51) E.1 E.2.1 dX4_init_336 (by decide +kernel) ?_
  refine bst (ws' := [(h0, .inr (1, [.null, .int (nI 0), .null])), (et, .inl (G.2.1, 64, .inl (bk (fun _ => 0) 0 (fun j => nI (sgn 1 j)) 56)))]) E hw 1 rfl (by decide) (by decide) (bk (fun _ => 0) 0 (fun j => nI (sgn 1 j)) 56) (bk_upd rfl (by decide +kernel)) rfl dX4_init_338 (fun H locs hw => ?_)
  refine lv_dup E.1 E.2.1 dX4_init_339 rfl ?_
  refine lv_bipush (v := nI 56) E.1 E.2.1 dX4_init_340 (by decide +kernel) ?_
  refine lv_bipush (v := nI 52) E.1 E.2.1 dX4_init_342 (by decide +kernel) ?_
  refine bst (ws' := [(h0, .inr (1, [.null, .int (nI 0), .null])), (et, .inl (G.2.1, 64, .inl (bk (fun _ => 0) 0 (fun j => nI (sgn 1 j)) 57)))]) E hw 1 rfl (by decide) (by decide) (bk (fun _ => 0) 0 (fun j => nI (sgn 1 j)) 57) (bk_upd rfl (by decide +kernel)) rfl dX4_init_344 (fun H locs hw => ?_)
  refine lv_dup E.1 E.2.1 dX4_init_345 rfl ?_
  refine lv_bipush (v := nI 57) E.1 E.2.1 dX4_init_346 (by decide +kernel) ?_
  refine lv_bipush (v := nI 53) E.1 E.2.1 dX4_init_348 (by decide +kernel) ?_
  refine bst (ws' := [(h0, .inr (1, [.null, .int (nI 0), .null])), (et, .inl (G.2.1, 64, .inl (bk (fun _ => 0) 0 (fun j => nI (sgn 1 j)) 58)))]) E hw 1 rfl (by decide) (by decide) (bk (fun _ => 0) 0 (fun j => nI (sgn 1 j)) 58) (bk_upd rfl (by decide +kernel)) rfl dX4_init_350 (fun H locs hw => ?_)
  refine lv_dup E.1 E.2.1 dX4_init_351 rfl ?_
  refine lv_bipush (v := nI 58) E.1 E.2.1 dX4_init_352 (by decide +kernel) ?_
  refine lv_bipush (v := nI 54) E.1 E.2.1 dX4_init_354 (by decide +kernel) ?_
  refine bst (ws' := [(h0, .inr (1, [.null, .int (nI 0), .null])), (et, .inl (G.2.1, 64, .inl (bk (fun _ => 0) 0 (fun j => nI (sgn 1 j)) 59)))]) E hw 1 rfl (by decide) (by decide) (bk (fun _ => 0) 0 (fun j => nI (sgn 1 j)) 59) (bk_upd rfl (by decide +kernel)) rfl dX4_init_356 (fun H locs hw => ?_)
  refine lv_dup E.1 E.2.1 dX4_init_357 rfl ?_
  refine lv_bipush (v := nI 59) E.1 E.2.1 dX4_init_358 (by decide +kernel) ?_
  refine lv_bipush (v := nI 55) E.1 E.2.1 dX4_init_360 (by decide +kernel) ?_
  refine bst (ws' := [(h0, .inr (1, [.null, .int (nI 0), .null])), (et, .inl (G.2.1, 64, .inl (bk (fun _ => 0) 0 (fun j => nI (sgn 1 j)) 60)))]) E hw 1 rfl (by decide) (by decide) (bk (fun _ => 0) 0 (fun j => nI (sgn 1 j)) 60) (bk_upd rfl (by decide +kernel)) rfl dX4_init_362 (fun H locs hw => ?_)
  refine lv_dup E.1 E.2.1 dX4_init_363 rfl ?_
  refine lv_bipush (v := nI 60) E.1 E.2.1 dX4_init_364 (by decide +kernel) ?_
  refine lv_bipush (v := nI 56) E.1 E.2.1 dX4_init_366 (by decide +kernel) ?_
  refine bst (ws' := [(h0, .inr (1, [.null, .int (nI 0), .null])), (et, .inl (G.2.1, 64, .inl (bk (fun _ => 0) 0 (fun j => nI (sgn 1 j)) 61)))]) E hw 1 rfl (by decide) (by decide) (bk (fun _ => 0) 0 (fun j => nI (sgn 1 j)) 61) (bk_upd rfl (by decide +kernel)) rfl dX4_init_368 (fun H locs hw => ?_)
  refine lv_dup E.1 E.2.1 dX4_init_369 rfl ?_
  refine lv_bipush (v := nI 61) E.1 E.2.1 dX4_init_370 (by decide +kernel) ?_
  refine lv_bipush (v := nI 57) E.1 E.2.1 dX4_init_372 (by decide +kernel) ?_
  refine bst (ws' := [(h0, .inr (1, [.null, .int (nI 0), .null])), (et, .inl (G.2.1, 64, .inl (bk (fun _ => 0) 0 (fun j => nI (sgn 1 j)) 62)))]) E hw 1 rfl (by decide) (by decide) (bk (fun _ => 0) 0 (fun j => nI (sgn 1 j)) 62) (bk_upd rfl (by decide +kernel)) rfl dX4_init_374 (fun H locs hw => ?_)
  refine lv_dup E.1 E.2.1 dX4_init_375 rfl ?_
  refine lv_bipush (v := nI 62) E.1 E.2.1 dX4_init_376 (by decide +kernel) ?_
  refine lv_bipush (v := nI 43) E.1 E.2.1 dX4_init_378 (by decide +kernel) ?_
  refine bst (ws' := [(h0, .inr (1, [.null, .int (nI 0), .null])), (et, .inl (G.2.1, 64, .inl (bk (fun _ => 0) 0 (fun j => nI (sgn 1 j)) 63)))]) E hw 1 rfl (by decide) (by decide) (bk (fun _ => 0) 0 (fun j => nI (sgn 1 j)) 63) (bk_upd rfl (by decide +kernel)) rfl dX4_init_380 (fun H locs hw => ?_)
  refine lv_dup E.1 E.2.1 dX4_init_381 rfl ?_
  refine lv_bipush (v := nI 63) E.1 E.2.1 dX4_init_382 (by decide +kernel) ?_
  refine lv_bipush (v := nI 47) E.1 E.2.1 dX4_init_384 (by decide +kernel) ?_
  refine bst (ws' := [(h0, .inr (1, [.null, .int (nI 0), .null])), (et, .inl (G.2.1, 64, .inl (bk (fun _ => 0) 0 (fun j => nI (sgn 1 j)) 64)))]) E hw 1 rfl (by decide) (by decide) (bk (fun _ => 0) 0 (fun j => nI (sgn 1 j)) 64) (bk_upd rfl (by decide +kernel)) rfl dX4_init_386 (fun H locs hw => ?_)
  refine pff (ws' := [(h0, .inr (1, [.ref et, .int (nI 0), .null])), (et, .inl (G.2.1, 64, .inl (bk (fun _ => 0) 0 (fun j => nI (sgn 1 j)) 64)))]) E hw in_X4 tyX4 tyX4_ok nmX4 (ci := 1) rfl 0 rfl 0 (by decide) q149 rfl hin rfl rfl rfl (Nat.le_of_ble_eq_true rfl) rfl dX4_init_387 (fun H locs hw => ?_)
  have hw : Wd G A s [(h0, .inr (1, [.ref et, .int (nI 0), .null])), (et, .inl (G.2.1, 64, .inl (fun j => nI (sgn 1 j))))] H locs := hw.cong 1 rfl (fun j hj => bk_all hj) rfl
  refine lv_aload_n E.1 E.2.1 dX4_init_390 rfl (lv_at hl 0 rfl) ?_
  refine lv_bipush (v := nI 61) E.1 E.2.1 dX4_init_391 (by decide +kernel) ?_
  refine pf (ws' := [(h0, .inr (1, [.ref et, .int (nI 61), .null])), (et, .inl (G.2.1, 64, .inl (fun j => nI (sgn 1 j))))]) E hw in_X4 tyX4 tyX4_ok nmX4 (ci := 1) rfl 0 rfl 1 (by decide) q150 rfl (by decide +kernel) (by decide +kernel) (Nat.le_of_ble_eq_true rfl) rfl dX4_init_393 (fun H locs hw => ?_)
  refine lv_aload_n E.1 E.2.1 dX4_init_396 rfl (lv_at hl 0 rfl) ?_
  refine lv_sipush (v := nI 128) E.1 E.2.1 dX4_init_397 (by decide +kernel) ?_
  refine nwb E hw (Nat.le_of_ble_eq_true rfl) (by show _ ≤ 2; omega) (by show _ ≤ 192; omega) dX4_init_400 (fun dt H hw => ?_)
  have hw : Wd G A s [(h0, .inr (1, [.ref et, .int (nI 61), .null])), (et, .inl (G.2.1, 64, .inl (fun j => nI (sgn 1 j)))), (dt, .inl (G.2.1, 128, .inl (fun _ => 0)))] H locs := hw
  refine W.cs (cells' := 2) (slots' := 192) rfl rfl ?_
  refine pff (ws' := [(h0, .inr (1, [.ref et, .int (nI 61), .ref dt])), (et, .inl (G.2.1, 64, .inl (fun j => nI (sgn 1 j)))), (dt, .inl (G.2.1, 128, .inl (fun _ => 0)))]) E hw in_X4 tyX4 tyX4_ok nmX4 (ci := 1) rfl 0 rfl 2 (by decide) q151 rfl hin rfl rfl rfl (Nat.le_of_ble_eq_true rfl) rfl dX4_init_402 (fun H locs hw => ?_)
  refine lv_aload_n E.1 E.2.1 dX4_init_405 rfl (lv_at hl 0 rfl) ?_
  refine cl_v (wr := []) (va_runV (As := []) (rest := []) E.fix (m_X4_initialiseDecodingTable l G H.size h0 et dt _) (cwV 0 E.hts (lw_V q145 q146 q147 q7 q148) rfl rfl rfl (by decide +kernel) ⟨Nat.le_of_ble_eq_true rfl, Nat.le_of_ble_eq_true rfl⟩) (preV_ok E hw [0, 1, 2] rfl (by decide) 0 rfl (ci := 1) rfl) rfl rfl hl.1 rfl (lv_room (Nat.le_of_ble_eq_true rfl)) dX4_init_406 ⟨(by show _ ≤ 2; omega), (by show _ ≤ 192; omega)⟩) E hw [0, 1, 2] [] rfl rfl (by decide) (by decide) (fun g H locs hp hw => ?_)
  have hw : Wd G A s [(h0, .inr (1, [.ref et, .int (nI 61), .ref dt])), (et, .inl (G.2.1, 64, .inl (fun j => nI (sgn 1 j)))), (dt, .inl (G.2.1, 128, .inl (g)))] H locs := hw
  refine W.cs (cells' := 2) (slots' := 192) rfl rfl ?_
  have hw : Wd G A s [(h0, .inr (1, [.ref et, .int (nI 61), .ref dt])), (et, .inl (G.2.1, 64, .inl (fun j => nI (sgn 1 j)))), (dt, .inl (G.2.1, 128, .inl (g)))] H locs := hw.sub [0, 1, 2] (by decide) rfl
  exact ret_v E hw hr hlk (by omega) (by omega) ((et, dt, g)) trivial rfl dX4_init_409
set_option maxHeartbeats 4000000 in
set_option maxRecDepth 100000 in
/-- Base64Encoder.getEncodedLength(n) -/
theorem m_X4_getEncodedLength (l : Launch) (G : gg_T) (sz : Nat) (h0 n : Nat) (hn : n ≤ 65535) : cT_i l yX4_getEncodedLength (ws_ yX4_getEncodedLength cX4_getEncodedLength 2 (some .int)) ({ frames := 0, cells := 0, slots := 0, locals := 0 }) G [] sz [.ref h0, .int (nI n)] (S := Unit) (fun r _ => r = nI (rmN 1 n)) (fun _ => []) 0 0 := by
  refine Met.ofW (cc := cX4_getEncodedLength) (maxL := 2) (ret := some .int) (by decide) rfl ?_
  intro p e s m args below meth c s₁ B hml hv
  obtain ⟨rfl, hsz, E, hw⟩ := ent_ (own := RX4) B hml rfl hv
  have hr := B.returns
  have hlk := B.notSynchronized
  subst hsz
  clear hv
  generalize va_A [] s.heap.size = A at E hw ⊢
  refine ent_f (Nat.le_of_ble_eq_true rfl) rfl (fun ls hl => ?_)
  have hl : lv_has ls 2 [(0, .ref h0), (1, .int (nI n))] := hl
  refine lv_iload_n E.1 E.2.1 dX4_getEncodedLength_0 rfl (lv_at hl 1 rfl) ?_
  refine lv_iconst (v := nI 2) E.1 E.2.1 dX4_getEncodedLength_1 (by decide +kernel) ?_
  refine n_iadd (d := n + 2) E dX4_getEncodedLength_2 rfl ?_
  refine lv_iconst (v := nI 3) E.1 E.2.1 dX4_getEncodedLength_3 (by decide +kernel) ?_
  refine n_idiv (d := (n + 2) / 3) E dX4_getEncodedLength_4 (by omega) (by omega) (by omega) rfl ?_
  refine lv_iconst (v := nI 4) E.1 E.2.1 dX4_getEncodedLength_5 (by decide +kernel) ?_
  refine n_imul (d := ((n + 2) / 3) * 4) E dX4_getEncodedLength_6 rfl ?_
  have hw : Wd G A s [] s.heap [] := hw.sub [] (by decide) rfl
  exact ret_i E hw hr hlk (by omega) (by omega) (()) (by rw [rmN_1]) rfl dX4_getEncodedLength_7
set_option maxHeartbeats 4000000 in
set_option maxRecDepth 100000 in
/-- Base64Encoder.encode: the letters of the part, padding signs behind -/
theorem m_X4_encode (l : Launch) (G : gg_T) (sz : Nat) (h0 et dt ib ob : Nat) (t : Nat → Nat) (fr cn : Nat) (ht : ∀ j, t j < 256) (hfc : fr + cn ≤ 256) : cT_i l yX4_encode (ws_ yX4_encode cX4_encode 12 (some .int)) ({ frames := 0, cells := 0, slots := 0, locals := 0 }) G [(h0, .inr (1, [.ref et, .int (nI 61), .ref dt])), (et, .inl (G.2.1, 64, .inl (fun j => nI (sgn 1 j)))), (ib, .inl (G.2.1, 256, .inl (fun j => sb_b (t j)))), (ob, .inl (G.2.1, rmN 1 cn, .inl (fun _ => 0)))] sz [.ref h0, .ref ib, .int (nI fr), .int (nI cn), .ref ob, .int (nI 0)] (S := Unit) (fun r _ => r = nI (rmN 1 cn)) (fun _ => [(h0, .inr (1, [.ref et, .int (nI 61), .ref dt])), (et, .inl (G.2.1, 64, .inl (fun j => nI (sgn 1 j)))), (ib, .inl (G.2.1, 256, .inl (fun j => sb_b (t j)))), (ob, .inl (G.2.1, rmN 1 cn, .inl (fun j => nI (letN t 1 fr cn j))))]) 0 0 := by
  refine Met.ofW (cc := cX4_encode) (maxL := 12) (ret := some .int) (by decide) rfl ?_
  intro p e s m args below meth c s₁ B hml hv
  obtain ⟨rfl, hsz, E, hw⟩ := ent_ (own := RX4) B hml rfl hv
  have hr := B.returns
  have hlk := B.notSynchronized
  subst hsz
  clear hv
  generalize va_A [(h0, .inr (1, [.ref et, .int (nI 61), .ref dt])), (et, .inl (G.2.1, 64, .inl (fun j => nI (sgn 1 j)))), (ib, .inl (G.2.1, 256, .inl (fun j => sb_b (t j)))), (ob, .inl (G.2.1, rmN 1 cn, .inl (fun _ => 0)))] s.heap.size = A at E hw ⊢
  refine ent_f (Nat.le_of_ble_eq_true rfl) rfl (fun ls hl => ?_)
  have hl : lv_has ls 12 [(0, .ref h0), (1, .ref ib), (2, .int (nI fr)), (3, .int (nI cn)), (4, .ref ob), (5, .int (nI 0))] := hl
  have hrm : rmN 1 cn = (cn + 2) / 3 * 4 := rmN_1 cn
  have loop : ∀ (n : Nat) (g : Nat), 3 * g ≤ cn → cn < 3 * g + 3 * n → ∀ (H : Heap) (locs : List Loc), Wd G A s [(h0, .inr (1, [.ref et, .int (nI 61), .ref dt])), (et, .inl (G.2.1, 64, .inl (fun j => nI (sgn 1 j)))), (ib, .inl (G.2.1, 256, .inl (fun j => sb_b (t j)))), (ob, .inl (G.2.1, rmN 1 cn, .inl (bk (fun _ => 0) 0 (fun j => nI (letN t 1 fr cn j)) (4 * g))))] H locs → ∀ (ls : Array Slot), lv_has ls 12 [(0, .ref h0), (1, .ref ib), (2, .int (nI fr)), (3, .int (nI cn)), (4, .ref ob), (5, .int (nI 0)), (6, .int (nI (fr + 3 * g))), (7, .int (nI (fr + cn) - nI 2)), (8, .int (nI (4 * g)))] → W p l e (headSpec (ws_ yX4_encode cX4_encode 12 (some .int)) ({ frames := 0, cells := 0, slots := 0, locals := 0 })).room s m ([.ref h0, .ref ib, .int (nI fr), .int (nI cn), .ref ob, .int (nI 0)] : List Value).toArray below meth c H locs 0 0 (MQ below (va_Qi (S := Unit) (fun r _ => r = nI (rmN 1 cn)) (bw_ G A (fun _ => [(h0, .inr (1, [.ref et, .int (nI 61), .ref dt])), (et, .inl (G.2.1, 64, .inl (fun j => nI (sgn 1 j)))), (ib, .inl (G.2.1, 256, .inl (fun j => sb_b (t j)))), (ob, .inl (G.2.1, rmN 1 cn, .inl (fun j => nI (letN t 1 fr cn j))))])) A) ([.ref h0, .ref ib, .int (nI fr), .int (nI cn), .ref ob, .int (nI 0)] : List Value).toArray s 0 0 A) (F0 m 14 ls []) := by
    intro n
    induction n with
    | zero =>
      intro g hi hn
      omega
    | succ n ih =>
      intro g hi hn H locs hw ls hl
      refine lv_iload E.1 E.2.1 dX4_encode_14 (lv_at hl 6 rfl) ?_
      refine lv_iload E.1 E.2.1 dX4_encode_16 (lv_at hl 7 rfl) ?_
      refine lv_icmp_ge (tgt := 148) E.1 E.2.1 dX4_encode_18 (by decide) (fun c_18 => ?_) (fun c_18 => ?_)
      · skip
        have c_18 := (ge_sub (by omega) (by omega) (by omega)).mp c_18
        refine lv_iload_n E.1 E.2.1 dX4_encode_148 rfl (lv_at hl 3 rfl) ?_
        refine lv_iload E.1 E.2.1 dX4_encode_149 (lv_at hl 6 rfl) ?_
        refine lv_iload_n E.1 E.2.1 dX4_encode_151 rfl (lv_at hl 2 rfl) ?_
        refine n_isub (d := 3 * g) E dX4_encode_152 (by omega) ?_
        refine n_isub (d := cn - 3 * g) E dX4_encode_153 (by omega) ?_
        rcases (by omega : cn - 3 * g = 0 ∨ cn - 3 * g = 1 ∨ cn - 3 * g = 2) with h | h | h
        · skip
          refine tv (y := nI 0) (by rw [h]) ?_
          refine lv_lookup (off := 212) (tgt := 366) E.1 E.2.1 dX4_encode_154 (by decide +kernel) (by decide +kernel) (by decide) ?_
          refine lv_iload E.1 E.2.1 dX4_encode_366 (lv_at hl 8 rfl) ?_
          refine lv_iload E.1 E.2.1 dX4_encode_368 (lv_at hl 5 rfl) ?_
          refine n_isub (d := rmN 1 cn) E dX4_encode_370 (by omega) ?_
          have hw : Wd G A s [(h0, .inr (1, [.ref et, .int (nI 61), .ref dt])), (et, .inl (G.2.1, 64, .inl (fun j => nI (sgn 1 j)))), (ib, .inl (G.2.1, 256, .inl (fun j => sb_b (t j)))), (ob, .inl (G.2.1, rmN 1 cn, .inl (fun j => nI (letN t 1 fr cn j))))] H locs := hw.cong 3 rfl (fun j hj => bk_all (by omega)) rfl
          have hw : Wd G A s [(h0, .inr (1, [.ref et, .int (nI 61), .ref dt])), (et, .inl (G.2.1, 64, .inl (fun j => nI (sgn 1 j)))), (ib, .inl (G.2.1, 256, .inl (fun j => sb_b (t j)))), (ob, .inl (G.2.1, rmN 1 cn, .inl (fun j => nI (letN t 1 fr cn j))))] H locs := hw.sub [0, 1, 2, 3] (by decide) rfl
          exact ret_i E hw hr hlk (by omega) (by omega) (()) rfl rfl dX4_encode_371
        · skip
          refine tv (y := nI 1) (by rw [h]) ?_
          have hb0 := ht (fr + 3 * g)
          have hy0 : byt t fr cn (3 * g + 0) = t (fr + 3 * g) := (if_pos (by omega)).trans (congrArg t (by omega))
          have hy1 : byt t fr cn (3 * g + 1) = 0 := if_neg (by omega)
          have hy2 : byt t fr cn (3 * g + 2) = 0 := if_neg (by omega)
          have hl0 : sgn 1 (t (fr + 3 * g) / 4) = letN t 1 fr cn (4 * g) := by have e := let64 (t := t) ht (f := fr) (c := cn) (g := g) (r := 0) (by decide) (by omega); rw [hy0, hy1, hy2] at e; exact e.symm
          have hl1 : sgn 1 (t (fr + 3 * g) % 4 * 16) = letN t 1 fr cn (4 * g + 1) := by have e := let64 (t := t) ht (f := fr) (c := cn) (g := g) (r := 1) (by decide) (by omega); rw [hy0, hy1, hy2] at e; exact e.symm
          have hl2 : 61 = letN t 1 fr cn (4 * g + 2) := (pad64 (t := t) (f := fr) (by omega)).symm
          have hl3 : 61 = letN t 1 fr cn (4 * g + 3) := (pad64 (t := t) (f := fr) (by omega)).symm
          refine lv_lookup (off := 26) (tgt := 180) E.1 E.2.1 dX4_encode_154 (by decide +kernel) (by decide +kernel) (by decide) ?_
          refine lv_aload_n E.1 E.2.1 dX4_encode_180 rfl (lv_at hl 1 rfl) ?_
          refine lv_iload E.1 E.2.1 dX4_encode_181 (lv_at hl 6 rfl) ?_
          refine n_iinc (n := 1) (d := fr + 3 * g + 1) (lv' := [(6, .int (nI (fr + 3 * g + 1))), (0, .ref h0), (1, .ref ib), (2, .int (nI fr)), (3, .int (nI cn)), (4, .ref ob), (5, .int (nI 0)), (7, .int (nI (fr + cn) - nI 2)), (8, .int (nI (4 * g)))]) E dX4_encode_183 hl (k := 6) rfl (by omega) (by decide) rfl (fun ls hl => ?_)
          refine bld (v := sb_b (t (fr + 3 * g))) E hw 2 rfl (by omega) (by omega) rfl dX4_encode_186 ?_
          refine lv_sipush (v := nI 255) E.1 E.2.1 dX4_encode_187 (by decide +kernel) ?_
          refine lv_iand E.1 E.2.1 dX4_encode_190 ?_
          refine tv (y := nI (t (fr + 3 * g))) (sb_mask hb0) ?_
          refine lv_istore (lv' := [(9, .int (nI (t (fr + 3 * g)))), (6, .int (nI (fr + 3 * g + 1))), (0, .ref h0), (1, .ref ib), (2, .int (nI fr)), (3, .int (nI cn)), (4, .ref ob), (5, .int (nI 0)), (7, .int (nI (fr + cn) - nI 2)), (8, .int (nI (4 * g)))]) E.1 E.2.1 dX4_encode_191 hl (by decide) rfl (fun ls hl => ?_)
          refine lv_aload E.1 E.2.1 dX4_encode_193 (lv_at hl 6 rfl) ?_
          refine lv_iload E.1 E.2.1 dX4_encode_195 (lv_at hl 9 rfl) ?_
          refine n_iinc (n := 1) (d := 4 * g + 1) (lv' := [(8, .int (nI (4 * g + 1))), (9, .int (nI (t (fr + 3 * g)))), (6, .int (nI (fr + 3 * g + 1))), (0, .ref h0), (1, .ref ib), (2, .int (nI fr)), (3, .int (nI cn)), (4, .ref ob), (5, .int (nI 0)), (7, .int (nI (fr + cn) - nI 2))]) E dX4_encode_197 hl (k := 9) rfl (by omega) (by decide) rfl (fun ls hl => ?_)
          refine lv_aload_n E.1 E.2.1 dX4_encode_200 rfl (lv_at hl 3 rfl) ?_
          refine gf (v := .ref et) E hw in_X4 (ci := 1) rfl 0 rfl 0 (by decide) q149 rfl dX4_encode_201 ?_
          refine lv_iload E.1 E.2.1 dX4_encode_204 (lv_at hl 1 rfl) ?_
          refine lv_iconst (v := nI 2) E.1 E.2.1 dX4_encode_206 (by decide +kernel) ?_
          refine lv_iushr (v := nI ((t (fr + 3 * g)) / 4)) E.1 E.2.1 dX4_encode_207 (x_ushr (by omega) 2 (by decide +kernel)) ?_
          refine lv_bipush (v := nI 63) E.1 E.2.1 dX4_encode_208 (by decide +kernel) ?_
          refine lv_iand E.1 E.2.1 dX4_encode_210 ?_
          refine tv (y := nI (t (fr + 3 * g) / 4)) (by rw [x_m63 (by omega), Nat.mod_eq_of_lt (by omega)]) ?_
          refine bld (v := nI (sgn 1 (t (fr + 3 * g) / 4))) E hw 1 rfl (by omega) (by omega) rfl dX4_encode_211 ?_
          refine bst (ws' := [(h0, .inr (1, [.ref et, .int (nI 61), .ref dt])), (et, .inl (G.2.1, 64, .inl (fun j => nI (sgn 1 j)))), (ib, .inl (G.2.1, 256, .inl (fun j => sb_b (t j)))), (ob, .inl (G.2.1, rmN 1 cn, .inl (bk (fun _ => 0) 0 (fun j => nI (letN t 1 fr cn j)) (4 * g + 1))))]) E hw 3 rfl (by omega) (by omega) (bk (fun _ => 0) 0 (fun j => nI (letN t 1 fr cn j)) (4 * g + 1)) (bk_upd (n := 4 * g) (by omega) (by rw [← hl0]; exact nar_sm _ (by rw [hl0]; exact letN_lt t 1 fr cn _))) rfl dX4_encode_212 (fun H locs hw => ?_)
          refine lv_aload E.1 E.2.1 dX4_encode_213 (lv_at hl 7 rfl) ?_
          refine lv_iload E.1 E.2.1 dX4_encode_215 (lv_at hl 0 rfl) ?_
          refine n_iinc (n := 1) (d := 4 * g + 2) (lv' := [(8, .int (nI (4 * g + 2))), (9, .int (nI (t (fr + 3 * g)))), (6, .int (nI (fr + 3 * g + 1))), (0, .ref h0), (1, .ref ib), (2, .int (nI fr)), (3, .int (nI cn)), (4, .ref ob), (5, .int (nI 0)), (7, .int (nI (fr + cn) - nI 2))]) E dX4_encode_217 hl (k := 0) rfl (by omega) (by decide) rfl (fun ls hl => ?_)
          refine lv_aload_n E.1 E.2.1 dX4_encode_220 rfl (lv_at hl 3 rfl) ?_
          refine gf (v := .ref et) E hw in_X4 (ci := 1) rfl 0 rfl 0 (by decide) q149 rfl dX4_encode_221 ?_
          refine lv_iload E.1 E.2.1 dX4_encode_224 (lv_at hl 1 rfl) ?_
          refine lv_iconst (v := nI 4) E.1 E.2.1 dX4_encode_226 (by decide +kernel) ?_
          refine lv_ishl E.1 E.2.1 dX4_encode_227 ?_
          refine lv_bipush (v := nI 63) E.1 E.2.1 dX4_encode_228 (by decide +kernel) ?_
          refine lv_iand E.1 E.2.1 dX4_encode_230 ?_
          refine tv (y := nI (t (fr + 3 * g) % 4 * 16)) (x_64d _ hb0) ?_
          refine bld (v := nI (sgn 1 (t (fr + 3 * g) % 4 * 16))) E hw 1 rfl (by omega) (by omega) rfl dX4_encode_231 ?_
          refine bst (ws' := [(h0, .inr (1, [.ref et, .int (nI 61), .ref dt])), (et, .inl (G.2.1, 64, .inl (fun j => nI (sgn 1 j)))), (ib, .inl (G.2.1, 256, .inl (fun j => sb_b (t j)))), (ob, .inl (G.2.1, rmN 1 cn, .inl (bk (fun _ => 0) 0 (fun j => nI (letN t 1 fr cn j)) (4 * g + 2))))]) E hw 3 rfl (by omega) (by omega) (bk (fun _ => 0) 0 (fun j => nI (letN t 1 fr cn j)) (4 * g + 2)) (bk_upd (n := 4 * g + 1) (by omega) (by rw [← hl1]; exact nar_sm _ (by rw [hl1]; exact letN_lt t 1 fr cn _))) rfl dX4_encode_232 (fun H locs hw => ?_)
          refine lv_aload E.1 E.2.1 dX4_encode_233 (lv_at hl 7 rfl) ?_
          refine lv_iload E.1 E.2.1 dX4_encode_235 (lv_at hl 0 rfl) ?_
          refine n_iinc (n := 1) (d := 4 * g + 3) (lv' := [(8, .int (nI (4 * g + 3))), (9, .int (nI (t (fr + 3 * g)))), (6, .int (nI (fr + 3 * g + 1))), (0, .ref h0), (1, .ref ib), (2, .int (nI fr)), (3, .int (nI cn)), (4, .ref ob), (5, .int (nI 0)), (7, .int (nI (fr + cn) - nI 2))]) E dX4_encode_237 hl (k := 0) rfl (by omega) (by decide) rfl (fun ls hl => ?_)
          refine lv_aload_n E.1 E.2.1 dX4_encode_240 rfl (lv_at hl 3 rfl) ?_
          refine gf (v := .int (nI 61)) E hw in_X4 (ci := 1) rfl 0 rfl 1 (by decide) q150 rfl dX4_encode_241 ?_
          refine bst (ws' := [(h0, .inr (1, [.ref et, .int (nI 61), .ref dt])), (et, .inl (G.2.1, 64, .inl (fun j => nI (sgn 1 j)))), (ib, .inl (G.2.1, 256, .inl (fun j => sb_b (t j)))), (ob, .inl (G.2.1, rmN 1 cn, .inl (bk (fun _ => 0) 0 (fun j => nI (letN t 1 fr cn j)) (4 * g + 3))))]) E hw 3 rfl (by omega) (by omega) (bk (fun _ => 0) 0 (fun j => nI (letN t 1 fr cn j)) (4 * g + 3)) (bk_upd (n := 4 * g + 2) (by omega) (by rw [← hl2]; exact nar_sm _ (by rw [hl2]; exact letN_lt t 1 fr cn _))) rfl dX4_encode_244 (fun H locs hw => ?_)
          refine lv_aload E.1 E.2.1 dX4_encode_245 (lv_at hl 7 rfl) ?_
          refine lv_iload E.1 E.2.1 dX4_encode_247 (lv_at hl 0 rfl) ?_
          refine n_iinc (n := 1) (d := 4 * g + 4) (lv' := [(8, .int (nI (4 * g + 4))), (9, .int (nI (t (fr + 3 * g)))), (6, .int (nI (fr + 3 * g + 1))), (0, .ref h0), (1, .ref ib), (2, .int (nI fr)), (3, .int (nI cn)), (4, .ref ob), (5, .int (nI 0)), (7, .int (nI (fr + cn) - nI 2))]) E dX4_encode_249 hl (k := 0) rfl (by omega) (by decide) rfl (fun ls hl => ?_)
          refine lv_aload_n E.1 E.2.1 dX4_encode_252 rfl (lv_at hl 3 rfl) ?_
          refine gf (v := .int (nI 61)) E hw in_X4 (ci := 1) rfl 0 rfl 1 (by decide) q150 rfl dX4_encode_253 ?_
          refine bst (ws' := [(h0, .inr (1, [.ref et, .int (nI 61), .ref dt])), (et, .inl (G.2.1, 64, .inl (fun j => nI (sgn 1 j)))), (ib, .inl (G.2.1, 256, .inl (fun j => sb_b (t j)))), (ob, .inl (G.2.1, rmN 1 cn, .inl (bk (fun _ => 0) 0 (fun j => nI (letN t 1 fr cn j)) (4 * g + 4))))]) E hw 3 rfl (by omega) (by omega) (bk (fun _ => 0) 0 (fun j => nI (letN t 1 fr cn j)) (4 * g + 4)) (bk_upd (n := 4 * g + 3) (by omega) (by rw [← hl3]; exact nar_sm _ (by rw [hl3]; exact letN_lt t 1 fr cn _))) rfl dX4_encode_256 (fun H locs hw => ?_)
          refine lv_goto (tgt := 366) E.1 E.2.1 dX4_encode_257 (by decide) ?_
          refine lv_iload E.1 E.2.1 dX4_encode_366 (lv_at hl 0 rfl) ?_
          refine lv_iload E.1 E.2.1 dX4_encode_368 (lv_at hl 8 rfl) ?_
          refine n_isub (d := rmN 1 cn) E dX4_encode_370 (by omega) ?_
          have hw : Wd G A s [(h0, .inr (1, [.ref et, .int (nI 61), .ref dt])), (et, .inl (G.2.1, 64, .inl (fun j => nI (sgn 1 j)))), (ib, .inl (G.2.1, 256, .inl (fun j => sb_b (t j)))), (ob, .inl (G.2.1, rmN 1 cn, .inl (fun j => nI (letN t 1 fr cn j))))] H locs := hw.cong 3 rfl (fun j hj => bk_all (by omega)) rfl
          have hw : Wd G A s [(h0, .inr (1, [.ref et, .int (nI 61), .ref dt])), (et, .inl (G.2.1, 64, .inl (fun j => nI (sgn 1 j)))), (ib, .inl (G.2.1, 256, .inl (fun j => sb_b (t j)))), (ob, .inl (G.2.1, rmN 1 cn, .inl (fun j => nI (letN t 1 fr cn j))))] H locs := hw.sub [0, 1, 2, 3] (by decide) rfl
          exact ret_i E hw hr hlk (by omega) (by omega) (()) rfl rfl dX4_encode_371
        · skip
          refine tv (y := nI 2) (by rw [h]) ?_
          have hb0 := ht (fr + 3 * g)
          have hy0 : byt t fr cn (3 * g + 0) = t (fr + 3 * g) := (if_pos (by omega)).trans (congrArg t (by omega))
          have hb1 := ht (fr + 3 * g + 1)
          have hy1 : byt t fr cn (3 * g + 1) = t (fr + 3 * g + 1) := (if_pos (by omega)).trans (congrArg t (by omega))
          have hy2 : byt t fr cn (3 * g + 2) = 0 := if_neg (by omega)
          have hl0 : sgn 1 (t (fr + 3 * g) / 4) = letN t 1 fr cn (4 * g) := by have e := let64 (t := t) ht (f := fr) (c := cn) (g := g) (r := 0) (by decide) (by omega); rw [hy0, hy1, hy2] at e; exact e.symm
          have hl1 : sgn 1 (t (fr + 3 * g) % 4 * 16 + t (fr + 3 * g + 1) / 16) = letN t 1 fr cn (4 * g + 1) := by have e := let64 (t := t) ht (f := fr) (c := cn) (g := g) (r := 1) (by decide) (by omega); rw [hy0, hy1, hy2] at e; exact e.symm
          have hl2 : sgn 1 (t (fr + 3 * g + 1) % 16 * 4) = letN t 1 fr cn (4 * g + 2) := by have e := let64 (t := t) ht (f := fr) (c := cn) (g := g) (r := 2) (by decide) (by omega); rw [hy0, hy1, hy2] at e; exact e.symm
          have hl3 : 61 = letN t 1 fr cn (4 * g + 3) := (pad64 (t := t) (f := fr) (by omega)).symm
          refine lv_lookup (off := 106) (tgt := 260) E.1 E.2.1 dX4_encode_154 (by decide +kernel) (by decide +kernel) (by decide) ?_
          refine lv_aload_n E.1 E.2.1 dX4_encode_260 rfl (lv_at hl 1 rfl) ?_
          refine lv_iload E.1 E.2.1 dX4_encode_261 (lv_at hl 6 rfl) ?_
          refine n_iinc (n := 1) (d := fr + 3 * g + 1) (lv' := [(6, .int (nI (fr + 3 * g + 1))), (0, .ref h0), (1, .ref ib), (2, .int (nI fr)), (3, .int (nI cn)), (4, .ref ob), (5, .int (nI 0)), (7, .int (nI (fr + cn) - nI 2)), (8, .int (nI (4 * g)))]) E dX4_encode_263 hl (k := 6) rfl (by omega) (by decide) rfl (fun ls hl => ?_)
          refine bld (v := sb_b (t (fr + 3 * g))) E hw 2 rfl (by omega) (by omega) rfl dX4_encode_266 ?_
          refine lv_sipush (v := nI 255) E.1 E.2.1 dX4_encode_267 (by decide +kernel) ?_
          refine lv_iand E.1 E.2.1 dX4_encode_270 ?_
          refine tv (y := nI (t (fr + 3 * g))) (sb_mask hb0) ?_
          refine lv_istore (lv' := [(9, .int (nI (t (fr + 3 * g)))), (6, .int (nI (fr + 3 * g + 1))), (0, .ref h0), (1, .ref ib), (2, .int (nI fr)), (3, .int (nI cn)), (4, .ref ob), (5, .int (nI 0)), (7, .int (nI (fr + cn) - nI 2)), (8, .int (nI (4 * g)))]) E.1 E.2.1 dX4_encode_271 hl (by decide) rfl (fun ls hl => ?_)
          refine lv_aload_n E.1 E.2.1 dX4_encode_273 rfl (lv_at hl 3 rfl) ?_
          refine lv_iload E.1 E.2.1 dX4_encode_274 (lv_at hl 1 rfl) ?_
          refine n_iinc (n := 1) (d := fr + 3 * g + 2) (lv' := [(6, .int (nI (fr + 3 * g + 2))), (9, .int (nI (t (fr + 3 * g)))), (0, .ref h0), (1, .ref ib), (2, .int (nI fr)), (3, .int (nI cn)), (4, .ref ob), (5, .int (nI 0)), (7, .int (nI (fr + cn) - nI 2)), (8, .int (nI (4 * g)))]) E dX4_encode_276 hl (k := 1) rfl (by omega) (by decide) rfl (fun ls hl => ?_)
          refine bld (v := sb_b (t (fr + 3 * g + 1))) E hw 2 rfl (by omega) (by omega) rfl dX4_encode_279 ?_
          refine lv_sipush (v := nI 255) E.1 E.2.1 dX4_encode_280 (by decide +kernel) ?_
          refine lv_iand E.1 E.2.1 dX4_encode_283 ?_
          refine tv (y := nI (t (fr + 3 * g + 1))) (sb_mask hb1) ?_
          refine lv_istore (lv' := [(10, .int (nI (t (fr + 3 * g + 1)))), (6, .int (nI (fr + 3 * g + 2))), (9, .int (nI (t (fr + 3 * g)))), (0, .ref h0), (1, .ref ib), (2, .int (nI fr)), (3, .int (nI cn)), (4, .ref ob), (5, .int (nI 0)), (7, .int (nI (fr + cn) - nI 2)), (8, .int (nI (4 * g)))]) E.1 E.2.1 dX4_encode_284 hl (by decide) rfl (fun ls hl => ?_)
          refine lv_aload E.1 E.2.1 dX4_encode_286 (lv_at hl 7 rfl) ?_
          refine lv_iload E.1 E.2.1 dX4_encode_288 (lv_at hl 10 rfl) ?_
          refine n_iinc (n := 1) (d := 4 * g + 1) (lv' := [(8, .int (nI (4 * g + 1))), (10, .int (nI (t (fr + 3 * g + 1)))), (6, .int (nI (fr + 3 * g + 2))), (9, .int (nI (t (fr + 3 * g)))), (0, .ref h0), (1, .ref ib), (2, .int (nI fr)), (3, .int (nI cn)), (4, .ref ob), (5, .int (nI 0)), (7, .int (nI (fr + cn) - nI 2))]) E dX4_encode_290 hl (k := 10) rfl (by omega) (by decide) rfl (fun ls hl => ?_)
          refine lv_aload_n E.1 E.2.1 dX4_encode_293 rfl (lv_at hl 4 rfl) ?_
          refine gf (v := .ref et) E hw in_X4 (ci := 1) rfl 0 rfl 0 (by decide) q149 rfl dX4_encode_294 ?_
          refine lv_iload E.1 E.2.1 dX4_encode_297 (lv_at hl 3 rfl) ?_
          refine lv_iconst (v := nI 2) E.1 E.2.1 dX4_encode_299 (by decide +kernel) ?_
          refine lv_iushr (v := nI ((t (fr + 3 * g)) / 4)) E.1 E.2.1 dX4_encode_300 (x_ushr (by omega) 2 (by decide +kernel)) ?_
          refine lv_bipush (v := nI 63) E.1 E.2.1 dX4_encode_301 (by decide +kernel) ?_
          refine lv_iand E.1 E.2.1 dX4_encode_303 ?_
          refine tv (y := nI (t (fr + 3 * g) / 4)) (by rw [x_m63 (by omega), Nat.mod_eq_of_lt (by omega)]) ?_
          refine bld (v := nI (sgn 1 (t (fr + 3 * g) / 4))) E hw 1 rfl (by omega) (by omega) rfl dX4_encode_304 ?_
          refine bst (ws' := [(h0, .inr (1, [.ref et, .int (nI 61), .ref dt])), (et, .inl (G.2.1, 64, .inl (fun j => nI (sgn 1 j)))), (ib, .inl (G.2.1, 256, .inl (fun j => sb_b (t j)))), (ob, .inl (G.2.1, rmN 1 cn, .inl (bk (fun _ => 0) 0 (fun j => nI (letN t 1 fr cn j)) (4 * g + 1))))]) E hw 3 rfl (by omega) (by omega) (bk (fun _ => 0) 0 (fun j => nI (letN t 1 fr cn j)) (4 * g + 1)) (bk_upd (n := 4 * g) (by omega) (by rw [← hl0]; exact nar_sm _ (by rw [hl0]; exact letN_lt t 1 fr cn _))) rfl dX4_encode_305 (fun H locs hw => ?_)
          refine lv_aload E.1 E.2.1 dX4_encode_306 (lv_at hl 8 rfl) ?_
          refine lv_iload E.1 E.2.1 dX4_encode_308 (lv_at hl 0 rfl) ?_
          refine n_iinc (n := 1) (d := 4 * g + 2) (lv' := [(8, .int (nI (4 * g + 2))), (10, .int (nI (t (fr + 3 * g + 1)))), (6, .int (nI (fr + 3 * g + 2))), (9, .int (nI (t (fr + 3 * g)))), (0, .ref h0), (1, .ref ib), (2, .int (nI fr)), (3, .int (nI cn)), (4, .ref ob), (5, .int (nI 0)), (7, .int (nI (fr + cn) - nI 2))]) E dX4_encode_310 hl (k := 0) rfl (by omega) (by decide) rfl (fun ls hl => ?_)
          refine lv_aload_n E.1 E.2.1 dX4_encode_313 rfl (lv_at hl 4 rfl) ?_
          refine gf (v := .ref et) E hw in_X4 (ci := 1) rfl 0 rfl 0 (by decide) q149 rfl dX4_encode_314 ?_
          refine lv_iload E.1 E.2.1 dX4_encode_317 (lv_at hl 3 rfl) ?_
          refine lv_iconst (v := nI 4) E.1 E.2.1 dX4_encode_319 (by decide +kernel) ?_
          refine lv_ishl E.1 E.2.1 dX4_encode_320 ?_
          refine lv_iload E.1 E.2.1 dX4_encode_321 (lv_at hl 1 rfl) ?_
          refine lv_iconst (v := nI 4) E.1 E.2.1 dX4_encode_323 (by decide +kernel) ?_
          refine lv_iushr (v := nI ((t (fr + 3 * g + 1)) / 16)) E.1 E.2.1 dX4_encode_324 (x_ushr (by omega) 4 (by decide +kernel)) ?_
          refine lv_ior E.1 E.2.1 dX4_encode_325 ?_
          refine lv_bipush (v := nI 63) E.1 E.2.1 dX4_encode_326 (by decide +kernel) ?_
          refine lv_iand E.1 E.2.1 dX4_encode_328 ?_
          refine tv (y := nI (t (fr + 3 * g) % 4 * 16 + t (fr + 3 * g + 1) / 16)) (x_64c _ hb0 _ (by omega)) ?_
          refine bld (v := nI (sgn 1 (t (fr + 3 * g) % 4 * 16 + t (fr + 3 * g + 1) / 16))) E hw 1 rfl (by omega) (by omega) rfl dX4_encode_329 ?_
          refine bst (ws' := [(h0, .inr (1, [.ref et, .int (nI 61), .ref dt])), (et, .inl (G.2.1, 64, .inl (fun j => nI (sgn 1 j)))), (ib, .inl (G.2.1, 256, .inl (fun j => sb_b (t j)))), (ob, .inl (G.2.1, rmN 1 cn, .inl (bk (fun _ => 0) 0 (fun j => nI (letN t 1 fr cn j)) (4 * g + 2))))]) E hw 3 rfl (by omega) (by omega) (bk (fun _ => 0) 0 (fun j => nI (letN t 1 fr cn j)) (4 * g + 2)) (bk_upd (n := 4 * g + 1) (by omega) (by rw [← hl1]; exact nar_sm _ (by rw [hl1]; exact letN_lt t 1 fr cn _))) rfl dX4_encode_330 (fun H locs hw => ?_)
          refine lv_aload E.1 E.2.1 dX4_encode_331 (lv_at hl 8 rfl) ?_
          refine lv_iload E.1 E.2.1 dX4_encode_333 (lv_at hl 0 rfl) ?_
          refine n_iinc (n := 1) (d := 4 * g + 3) (lv' := [(8, .int (nI (4 * g + 3))), (10, .int (nI (t (fr + 3 * g + 1)))), (6, .int (nI (fr + 3 * g + 2))), (9, .int (nI (t (fr + 3 * g)))), (0, .ref h0), (1, .ref ib), (2, .int (nI fr)), (3, .int (nI cn)), (4, .ref ob), (5, .int (nI 0)), (7, .int (nI (fr + cn) - nI 2))]) E dX4_encode_335 hl (k := 0) rfl (by omega) (by decide) rfl (fun ls hl => ?_)
          refine lv_aload_n E.1 E.2.1 dX4_encode_338 rfl (lv_at hl 4 rfl) ?_
          refine gf (v := .ref et) E hw in_X4 (ci := 1) rfl 0 rfl 0 (by decide) q149 rfl dX4_encode_339 ?_
          refine lv_iload E.1 E.2.1 dX4_encode_342 (lv_at hl 1 rfl) ?_
          refine lv_iconst (v := nI 2) E.1 E.2.1 dX4_encode_344 (by decide +kernel) ?_
          refine lv_ishl E.1 E.2.1 dX4_encode_345 ?_
          refine lv_bipush (v := nI 63) E.1 E.2.1 dX4_encode_346 (by decide +kernel) ?_
          refine lv_iand E.1 E.2.1 dX4_encode_348 ?_
          refine tv (y := nI (t (fr + 3 * g + 1) % 16 * 4)) (x_64e _ hb1) ?_
          refine bld (v := nI (sgn 1 (t (fr + 3 * g + 1) % 16 * 4))) E hw 1 rfl (by omega) (by omega) rfl dX4_encode_349 ?_
          refine bst (ws' := [(h0, .inr (1, [.ref et, .int (nI 61), .ref dt])), (et, .inl (G.2.1, 64, .inl (fun j => nI (sgn 1 j)))), (ib, .inl (G.2.1, 256, .inl (fun j => sb_b (t j)))), (ob, .inl (G.2.1, rmN 1 cn, .inl (bk (fun _ => 0) 0 (fun j => nI (letN t 1 fr cn j)) (4 * g + 3))))]) E hw 3 rfl (by omega) (by omega) (bk (fun _ => 0) 0 (fun j => nI (letN t 1 fr cn j)) (4 * g + 3)) (bk_upd (n := 4 * g + 2) (by omega) (by rw [← hl2]; exact nar_sm _ (by rw [hl2]; exact letN_lt t 1 fr cn _))) rfl dX4_encode_350 (fun H locs hw => ?_)
          refine lv_aload E.1 E.2.1 dX4_encode_351 (lv_at hl 8 rfl) ?_
          refine lv_iload E.1 E.2.1 dX4_encode_353 (lv_at hl 0 rfl) ?_
          refine n_iinc (n := 1) (d := 4 * g + 4) (lv' := [(8, .int (nI (4 * g + 4))), (10, .int (nI (t (fr + 3 * g + 1)))), (6, .int (nI (fr + 3 * g + 2))), (9, .int (nI (t (fr + 3 * g)))), (0, .ref h0), (1, .ref ib), (2, .int (nI fr)), (3, .int (nI cn)), (4, .ref ob), (5, .int (nI 0)), (7, .int (nI (fr + cn) - nI 2))]) E dX4_encode_355 hl (k := 0) rfl (by omega) (by decide) rfl (fun ls hl => ?_)
          refine lv_aload_n E.1 E.2.1 dX4_encode_358 rfl (lv_at hl 4 rfl) ?_
          refine gf (v := .int (nI 61)) E hw in_X4 (ci := 1) rfl 0 rfl 1 (by decide) q150 rfl dX4_encode_359 ?_
          refine bst (ws' := [(h0, .inr (1, [.ref et, .int (nI 61), .ref dt])), (et, .inl (G.2.1, 64, .inl (fun j => nI (sgn 1 j)))), (ib, .inl (G.2.1, 256, .inl (fun j => sb_b (t j)))), (ob, .inl (G.2.1, rmN 1 cn, .inl (bk (fun _ => 0) 0 (fun j => nI (letN t 1 fr cn j)) (4 * g + 4))))]) E hw 3 rfl (by omega) (by omega) (bk (fun _ => 0) 0 (fun j => nI (letN t 1 fr cn j)) (4 * g + 4)) (bk_upd (n := 4 * g + 3) (by omega) (by rw [← hl3]; exact nar_sm _ (by rw [hl3]; exact letN_lt t 1 fr cn _))) rfl dX4_encode_362 (fun H locs hw => ?_)
          refine lv_goto (tgt := 366) E.1 E.2.1 dX4_encode_363 (by decide) ?_
          refine lv_iload E.1 E.2.1 dX4_encode_366 (lv_at hl 0 rfl) ?_
          refine lv_iload E.1 E.2.1 dX4_encode_368 (lv_at hl 9 rfl) ?_
          refine n_isub (d := rmN 1 cn) E dX4_encode_370 (by omega) ?_
          have hw : Wd G A s [(h0, .inr (1, [.ref et, .int (nI 61), .ref dt])), (et, .inl (G.2.1, 64, .inl (fun j => nI (sgn 1 j)))), (ib, .inl (G.2.1, 256, .inl (fun j => sb_b (t j)))), (ob, .inl (G.2.1, rmN 1 cn, .inl (fun j => nI (letN t 1 fr cn j))))] H locs := hw.cong 3 rfl (fun j hj => bk_all (by omega)) rfl
          have hw : Wd G A s [(h0, .inr (1, [.ref et, .int (nI 61), .ref dt])), (et, .inl (G.2.1, 64, .inl (fun j => nI (sgn 1 j)))), (ib, .inl (G.2.1, 256, .inl (fun j => sb_b (t j)))), (ob, .inl (G.2.1, rmN 1 cn, .inl (fun j => nI (letN t 1 fr cn j))))] H locs := hw.sub [0, 1, 2, 3] (by decide) rfl
          exact ret_i E hw hr hlk (by omega) (by omega) (()) rfl rfl dX4_encode_371
      · skip
        have c_18 := fun q => c_18 ((ge_sub (a := fr + cn) (b := 2) (x := fr + 3 * g) (by omega) (by omega) (by omega)).mpr q)
        have c_18 : fr + 3 * g + 2 < fr + cn := Nat.lt_of_not_le c_18
        have hb0 := ht (fr + 3 * g)
        have hy0 : byt t fr cn (3 * g + 0) = t (fr + 3 * g) := (if_pos (by omega)).trans (congrArg t (by omega))
        have hb1 := ht (fr + 3 * g + 1)
        have hy1 : byt t fr cn (3 * g + 1) = t (fr + 3 * g + 1) := (if_pos (by omega)).trans (congrArg t (by omega))
        have hb2 := ht (fr + 3 * g + 2)
        have hy2 : byt t fr cn (3 * g + 2) = t (fr + 3 * g + 2) := (if_pos (by omega)).trans (congrArg t (by omega))
        have hl0 : sgn 1 (t (fr + 3 * g) / 4) = letN t 1 fr cn (4 * g) := by have e := let64 (t := t) ht (f := fr) (c := cn) (g := g) (r := 0) (by decide) (by omega); rw [hy0, hy1, hy2] at e; exact e.symm
        have hl1 : sgn 1 (t (fr + 3 * g) % 4 * 16 + t (fr + 3 * g + 1) / 16) = letN t 1 fr cn (4 * g + 1) := by have e := let64 (t := t) ht (f := fr) (c := cn) (g := g) (r := 1) (by decide) (by omega); rw [hy0, hy1, hy2] at e; exact e.symm
        have hl2 : sgn 1 (t (fr + 3 * g + 1) % 16 * 4 + t (fr + 3 * g + 2) / 64) = letN t 1 fr cn (4 * g + 2) := by have e := let64 (t := t) ht (f := fr) (c := cn) (g := g) (r := 2) (by decide) (by omega); rw [hy0, hy1, hy2] at e; exact e.symm
        have hl3 : sgn 1 (t (fr + 3 * g + 2) % 64) = letN t 1 fr cn (4 * g + 3) := by have e := let64 (t := t) ht (f := fr) (c := cn) (g := g) (r := 3) (by decide) (by omega); rw [hy0, hy1, hy2] at e; exact e.symm
        refine lv_aload_n E.1 E.2.1 dX4_encode_21 rfl (lv_at hl 1 rfl) ?_
        refine lv_iload E.1 E.2.1 dX4_encode_22 (lv_at hl 6 rfl) ?_
        refine n_iinc (n := 1) (d := fr + 3 * g + 1) (lv' := [(6, .int (nI (fr + 3 * g + 1))), (0, .ref h0), (1, .ref ib), (2, .int (nI fr)), (3, .int (nI cn)), (4, .ref ob), (5, .int (nI 0)), (7, .int (nI (fr + cn) - nI 2)), (8, .int (nI (4 * g)))]) E dX4_encode_24 hl (k := 6) rfl (by omega) (by decide) rfl (fun ls hl => ?_)
        refine bld (v := sb_b (t (fr + 3 * g))) E hw 2 rfl (by omega) (by omega) rfl dX4_encode_27 ?_
        refine lv_istore (lv' := [(9, .int (sb_b (t (fr + 3 * g)))), (6, .int (nI (fr + 3 * g + 1))), (0, .ref h0), (1, .ref ib), (2, .int (nI fr)), (3, .int (nI cn)), (4, .ref ob), (5, .int (nI 0)), (7, .int (nI (fr + cn) - nI 2)), (8, .int (nI (4 * g)))]) E.1 E.2.1 dX4_encode_28 hl (by decide) rfl (fun ls hl => ?_)
        refine lv_aload_n E.1 E.2.1 dX4_encode_30 rfl (lv_at hl 3 rfl) ?_
        refine lv_iload E.1 E.2.1 dX4_encode_31 (lv_at hl 1 rfl) ?_
        refine n_iinc (n := 1) (d := fr + 3 * g + 2) (lv' := [(6, .int (nI (fr + 3 * g + 2))), (9, .int (sb_b (t (fr + 3 * g)))), (0, .ref h0), (1, .ref ib), (2, .int (nI fr)), (3, .int (nI cn)), (4, .ref ob), (5, .int (nI 0)), (7, .int (nI (fr + cn) - nI 2)), (8, .int (nI (4 * g)))]) E dX4_encode_33 hl (k := 1) rfl (by omega) (by decide) rfl (fun ls hl => ?_)
        refine bld (v := sb_b (t (fr + 3 * g + 1))) E hw 2 rfl (by omega) (by omega) rfl dX4_encode_36 ?_
        refine lv_sipush (v := nI 255) E.1 E.2.1 dX4_encode_37 (by decide +kernel) ?_
        refine lv_iand E.1 E.2.1 dX4_encode_40 ?_
        refine tv (y := nI (t (fr + 3 * g + 1))) (sb_mask hb1) ?_
        refine lv_istore (lv' := [(10, .int (nI (t (fr + 3 * g + 1)))), (6, .int (nI (fr + 3 * g + 2))), (9, .int (sb_b (t (fr + 3 * g)))), (0, .ref h0), (1, .ref ib), (2, .int (nI fr)), (3, .int (nI cn)), (4, .ref ob), (5, .int (nI 0)), (7, .int (nI (fr + cn) - nI 2)), (8, .int (nI (4 * g)))]) E.1 E.2.1 dX4_encode_41 hl (by decide) rfl (fun ls hl => ?_)
        refine lv_aload_n E.1 E.2.1 dX4_encode_43 rfl (lv_at hl 4 rfl) ?_
        refine lv_iload E.1 E.2.1 dX4_encode_44 (lv_at hl 1 rfl) ?_
        refine n_iinc (n := 1) (d := fr + 3 * (g + 1)) (lv' := [(6, .int (nI (fr + 3 * (g + 1)))), (10, .int (nI (t (fr + 3 * g + 1)))), (9, .int (sb_b (t (fr + 3 * g)))), (0, .ref h0), (1, .ref ib), (2, .int (nI fr)), (3, .int (nI cn)), (4, .ref ob), (5, .int (nI 0)), (7, .int (nI (fr + cn) - nI 2)), (8, .int (nI (4 * g)))]) E dX4_encode_46 hl (k := 1) rfl (by omega) (by decide) rfl (fun ls hl => ?_)
        refine bld (v := sb_b (t (fr + 3 * g + 2))) E hw 2 rfl (by omega) (by omega) rfl dX4_encode_49 ?_
        refine lv_sipush (v := nI 255) E.1 E.2.1 dX4_encode_50 (by decide +kernel) ?_
        refine lv_iand E.1 E.2.1 dX4_encode_53 ?_
        refine tv (y := nI (t (fr + 3 * g + 2))) (sb_mask hb2) ?_
        refine lv_istore (lv' := [(11, .int (nI (t (fr + 3 * g + 2)))), (6, .int (nI (fr + 3 * (g + 1)))), (10, .int (nI (t (fr + 3 * g + 1)))), (9, .int (sb_b (t (fr + 3 * g)))), (0, .ref h0), (1, .ref ib), (2, .int (nI fr)), (3, .int (nI cn)), (4, .ref ob), (5, .int (nI 0)), (7, .int (nI (fr + cn) - nI 2)), (8, .int (nI (4 * g)))]) E.1 E.2.1 dX4_encode_54 hl (by decide) rfl (fun ls hl => ?_)
        refine lv_aload E.1 E.2.1 dX4_encode_56 (lv_at hl 8 rfl) ?_
        refine lv_iload E.1 E.2.1 dX4_encode_58 (lv_at hl 11 rfl) ?_
        refine n_iinc (n := 1) (d := 4 * g + 1) (lv' := [(8, .int (nI (4 * g + 1))), (11, .int (nI (t (fr + 3 * g + 2)))), (6, .int (nI (fr + 3 * (g + 1)))), (10, .int (nI (t (fr + 3 * g + 1)))), (9, .int (sb_b (t (fr + 3 * g)))), (0, .ref h0), (1, .ref ib), (2, .int (nI fr)), (3, .int (nI cn)), (4, .ref ob), (5, .int (nI 0)), (7, .int (nI (fr + cn) - nI 2))]) E dX4_encode_60 hl (k := 11) rfl (by omega) (by decide) rfl (fun ls hl => ?_)
        refine lv_aload_n E.1 E.2.1 dX4_encode_63 rfl (lv_at hl 5 rfl) ?_
        refine gf (v := .ref et) E hw in_X4 (ci := 1) rfl 0 rfl 0 (by decide) q149 rfl dX4_encode_64 ?_
        refine lv_iload E.1 E.2.1 dX4_encode_67 (lv_at hl 4 rfl) ?_
        refine lv_iconst (v := nI 2) E.1 E.2.1 dX4_encode_69 (by decide +kernel) ?_
        refine lv_iushr E.1 E.2.1 dX4_encode_70 rfl ?_
        refine lv_bipush (v := nI 63) E.1 E.2.1 dX4_encode_71 (by decide +kernel) ?_
        refine lv_iand E.1 E.2.1 dX4_encode_73 ?_
        refine tv (y := nI (t (fr + 3 * g) / 4)) (x_s2 _ hb0) ?_
        refine bld (v := nI (sgn 1 (t (fr + 3 * g) / 4))) E hw 1 rfl (by omega) (by omega) rfl dX4_encode_74 ?_
        refine bst (ws' := [(h0, .inr (1, [.ref et, .int (nI 61), .ref dt])), (et, .inl (G.2.1, 64, .inl (fun j => nI (sgn 1 j)))), (ib, .inl (G.2.1, 256, .inl (fun j => sb_b (t j)))), (ob, .inl (G.2.1, rmN 1 cn, .inl (bk (fun _ => 0) 0 (fun j => nI (letN t 1 fr cn j)) (4 * g + 1))))]) E hw 3 rfl (by omega) (by omega) (bk (fun _ => 0) 0 (fun j => nI (letN t 1 fr cn j)) (4 * g + 1)) (bk_upd (n := 4 * g) (by omega) (by rw [← hl0]; exact nar_sm _ (by rw [hl0]; exact letN_lt t 1 fr cn _))) rfl dX4_encode_75 (fun H locs hw => ?_)
        refine lv_aload E.1 E.2.1 dX4_encode_76 (lv_at hl 9 rfl) ?_
        refine lv_iload E.1 E.2.1 dX4_encode_78 (lv_at hl 0 rfl) ?_
        refine n_iinc (n := 1) (d := 4 * g + 2) (lv' := [(8, .int (nI (4 * g + 2))), (11, .int (nI (t (fr + 3 * g + 2)))), (6, .int (nI (fr + 3 * (g + 1)))), (10, .int (nI (t (fr + 3 * g + 1)))), (9, .int (sb_b (t (fr + 3 * g)))), (0, .ref h0), (1, .ref ib), (2, .int (nI fr)), (3, .int (nI cn)), (4, .ref ob), (5, .int (nI 0)), (7, .int (nI (fr + cn) - nI 2))]) E dX4_encode_80 hl (k := 0) rfl (by omega) (by decide) rfl (fun ls hl => ?_)
        refine lv_aload_n E.1 E.2.1 dX4_encode_83 rfl (lv_at hl 5 rfl) ?_
        refine gf (v := .ref et) E hw in_X4 (ci := 1) rfl 0 rfl 0 (by decide) q149 rfl dX4_encode_84 ?_
        refine lv_iload E.1 E.2.1 dX4_encode_87 (lv_at hl 4 rfl) ?_
        refine lv_iconst (v := nI 4) E.1 E.2.1 dX4_encode_89 (by decide +kernel) ?_
        refine lv_ishl E.1 E.2.1 dX4_encode_90 ?_
        refine lv_iload E.1 E.2.1 dX4_encode_91 (lv_at hl 3 rfl) ?_
        refine lv_iconst (v := nI 4) E.1 E.2.1 dX4_encode_93 (by decide +kernel) ?_
        refine lv_iushr (v := nI ((t (fr + 3 * g + 1)) / 16)) E.1 E.2.1 dX4_encode_94 (x_ushr (by omega) 4 (by decide +kernel)) ?_
        refine lv_ior E.1 E.2.1 dX4_encode_95 ?_
        refine lv_bipush (v := nI 63) E.1 E.2.1 dX4_encode_96 (by decide +kernel) ?_
        refine lv_iand E.1 E.2.1 dX4_encode_98 ?_
        refine tv (y := nI (t (fr + 3 * g) % 4 * 16 + t (fr + 3 * g + 1) / 16)) (x_64a _ hb0 _ (by omega)) ?_
        refine bld (v := nI (sgn 1 (t (fr + 3 * g) % 4 * 16 + t (fr + 3 * g + 1) / 16))) E hw 1 rfl (by omega) (by omega) rfl dX4_encode_99 ?_
        refine bst (ws' := [(h0, .inr (1, [.ref et, .int (nI 61), .ref dt])), (et, .inl (G.2.1, 64, .inl (fun j => nI (sgn 1 j)))), (ib, .inl (G.2.1, 256, .inl (fun j => sb_b (t j)))), (ob, .inl (G.2.1, rmN 1 cn, .inl (bk (fun _ => 0) 0 (fun j => nI (letN t 1 fr cn j)) (4 * g + 2))))]) E hw 3 rfl (by omega) (by omega) (bk (fun _ => 0) 0 (fun j => nI (letN t 1 fr cn j)) (4 * g + 2)) (bk_upd (n := 4 * g + 1) (by omega) (by rw [← hl1]; exact nar_sm _ (by rw [hl1]; exact letN_lt t 1 fr cn _))) rfl dX4_encode_100 (fun H locs hw => ?_)
        refine lv_aload E.1 E.2.1 dX4_encode_101 (lv_at hl 9 rfl) ?_
        refine lv_iload E.1 E.2.1 dX4_encode_103 (lv_at hl 0 rfl) ?_
        refine n_iinc (n := 1) (d := 4 * g + 3) (lv' := [(8, .int (nI (4 * g + 3))), (11, .int (nI (t (fr + 3 * g + 2)))), (6, .int (nI (fr + 3 * (g + 1)))), (10, .int (nI (t (fr + 3 * g + 1)))), (9, .int (sb_b (t (fr + 3 * g)))), (0, .ref h0), (1, .ref ib), (2, .int (nI fr)), (3, .int (nI cn)), (4, .ref ob), (5, .int (nI 0)), (7, .int (nI (fr + cn) - nI 2))]) E dX4_encode_105 hl (k := 0) rfl (by omega) (by decide) rfl (fun ls hl => ?_)
        refine lv_aload_n E.1 E.2.1 dX4_encode_108 rfl (lv_at hl 5 rfl) ?_
        refine gf (v := .ref et) E hw in_X4 (ci := 1) rfl 0 rfl 0 (by decide) q149 rfl dX4_encode_109 ?_
        refine lv_iload E.1 E.2.1 dX4_encode_112 (lv_at hl 3 rfl) ?_
        refine lv_iconst (v := nI 2) E.1 E.2.1 dX4_encode_114 (by decide +kernel) ?_
        refine lv_ishl E.1 E.2.1 dX4_encode_115 ?_
        refine lv_iload E.1 E.2.1 dX4_encode_116 (lv_at hl 1 rfl) ?_
        refine lv_bipush (v := nI 6) E.1 E.2.1 dX4_encode_118 (by decide +kernel) ?_
        refine lv_iushr (v := nI ((t (fr + 3 * g + 2)) / 64)) E.1 E.2.1 dX4_encode_120 (x_ushr (by omega) 6 (by decide +kernel)) ?_
        refine lv_ior E.1 E.2.1 dX4_encode_121 ?_
        refine lv_bipush (v := nI 63) E.1 E.2.1 dX4_encode_122 (by decide +kernel) ?_
        refine lv_iand E.1 E.2.1 dX4_encode_124 ?_
        refine tv (y := nI (t (fr + 3 * g + 1) % 16 * 4 + t (fr + 3 * g + 2) / 64)) (x_64b _ hb1 _ (by omega)) ?_
        refine bld (v := nI (sgn 1 (t (fr + 3 * g + 1) % 16 * 4 + t (fr + 3 * g + 2) / 64))) E hw 1 rfl (by omega) (by omega) rfl dX4_encode_125 ?_
        refine bst (ws' := [(h0, .inr (1, [.ref et, .int (nI 61), .ref dt])), (et, .inl (G.2.1, 64, .inl (fun j => nI (sgn 1 j)))), (ib, .inl (G.2.1, 256, .inl (fun j => sb_b (t j)))), (ob, .inl (G.2.1, rmN 1 cn, .inl (bk (fun _ => 0) 0 (fun j => nI (letN t 1 fr cn j)) (4 * g + 3))))]) E hw 3 rfl (by omega) (by omega) (bk (fun _ => 0) 0 (fun j => nI (letN t 1 fr cn j)) (4 * g + 3)) (bk_upd (n := 4 * g + 2) (by omega) (by rw [← hl2]; exact nar_sm _ (by rw [hl2]; exact letN_lt t 1 fr cn _))) rfl dX4_encode_126 (fun H locs hw => ?_)
        refine lv_aload E.1 E.2.1 dX4_encode_127 (lv_at hl 9 rfl) ?_
        refine lv_iload E.1 E.2.1 dX4_encode_129 (lv_at hl 0 rfl) ?_
        refine n_iinc (n := 1) (d := 4 * (g + 1)) (lv' := [(8, .int (nI (4 * (g + 1)))), (11, .int (nI (t (fr + 3 * g + 2)))), (6, .int (nI (fr + 3 * (g + 1)))), (10, .int (nI (t (fr + 3 * g + 1)))), (9, .int (sb_b (t (fr + 3 * g)))), (0, .ref h0), (1, .ref ib), (2, .int (nI fr)), (3, .int (nI cn)), (4, .ref ob), (5, .int (nI 0)), (7, .int (nI (fr + cn) - nI 2))]) E dX4_encode_131 hl (k := 0) rfl (by omega) (by decide) rfl (fun ls hl => ?_)
        refine lv_aload_n E.1 E.2.1 dX4_encode_134 rfl (lv_at hl 5 rfl) ?_
        refine gf (v := .ref et) E hw in_X4 (ci := 1) rfl 0 rfl 0 (by decide) q149 rfl dX4_encode_135 ?_
        refine lv_iload E.1 E.2.1 dX4_encode_138 (lv_at hl 1 rfl) ?_
        refine lv_bipush (v := nI 63) E.1 E.2.1 dX4_encode_140 (by decide +kernel) ?_
        refine lv_iand E.1 E.2.1 dX4_encode_142 ?_
        refine tv (y := nI (t (fr + 3 * g + 2) % 64)) (x_m63 (by omega)) ?_
        refine bld (v := nI (sgn 1 (t (fr + 3 * g + 2) % 64))) E hw 1 rfl (by omega) (by omega) rfl dX4_encode_143 ?_
        refine bst (ws' := [(h0, .inr (1, [.ref et, .int (nI 61), .ref dt])), (et, .inl (G.2.1, 64, .inl (fun j => nI (sgn 1 j)))), (ib, .inl (G.2.1, 256, .inl (fun j => sb_b (t j)))), (ob, .inl (G.2.1, rmN 1 cn, .inl (bk (fun _ => 0) 0 (fun j => nI (letN t 1 fr cn j)) (4 * g + 4))))]) E hw 3 rfl (by omega) (by omega) (bk (fun _ => 0) 0 (fun j => nI (letN t 1 fr cn j)) (4 * g + 4)) (bk_upd (n := 4 * g + 3) (by omega) (by rw [← hl3]; exact nar_sm _ (by rw [hl3]; exact letN_lt t 1 fr cn _))) rfl dX4_encode_144 (fun H locs hw => ?_)
        refine lv_goto (tgt := 14) E.1 E.2.1 dX4_encode_145 (by decide) ?_
        have hw : Wd G A s [(h0, .inr (1, [.ref et, .int (nI 61), .ref dt])), (et, .inl (G.2.1, 64, .inl (fun j => nI (sgn 1 j)))), (ib, .inl (G.2.1, 256, .inl (fun j => sb_b (t j)))), (ob, .inl (G.2.1, rmN 1 cn, .inl (bk (fun _ => 0) 0 (fun j => nI (letN t 1 fr cn j)) (4 * (g + 1)))))] H locs := hw.cong 3 rfl (fun j _ => congrFun (show (bk (fun _ => 0) 0 (fun j => nI (letN t 1 fr cn j)) (4 * g + 4)) = (bk (fun _ => 0) 0 (fun j => nI (letN t 1 fr cn j)) (4 * (g + 1))) from rfl) j) rfl
        exact ih (g + 1) (by omega) (by omega) H locs (hw.sub [0, 1, 2, 3] (by decide) rfl) ls (lv_sub hl [5, 6, 7, 8, 9, 10, 2, 11, 0] rfl)
  refine lv_iload_n E.1 E.2.1 dX4_encode_0 rfl (lv_at hl 2 rfl) ?_
  refine lv_istore (lv' := [(6, .int (nI fr)), (0, .ref h0), (1, .ref ib), (2, .int (nI fr)), (3, .int (nI cn)), (4, .ref ob), (5, .int (nI 0))]) E.1 E.2.1 dX4_encode_1 hl (by decide) rfl (fun ls hl => ?_)
  refine lv_iload_n E.1 E.2.1 dX4_encode_3 rfl (lv_at hl 3 rfl) ?_
  refine lv_iload_n E.1 E.2.1 dX4_encode_4 rfl (lv_at hl 4 rfl) ?_
  refine n_iadd (d := fr + cn) E dX4_encode_5 rfl ?_
  refine lv_iconst (v := nI 2) E.1 E.2.1 dX4_encode_6 (by decide +kernel) ?_
  refine lv_isub E.1 E.2.1 dX4_encode_7 ?_
  refine lv_istore (lv' := [(7, .int ((nI (fr + cn)) - (nI 2))), (6, .int (nI fr)), (0, .ref h0), (1, .ref ib), (2, .int (nI fr)), (3, .int (nI cn)), (4, .ref ob), (5, .int (nI 0))]) E.1 E.2.1 dX4_encode_8 hl (by decide) rfl (fun ls hl => ?_)
  refine lv_iload E.1 E.2.1 dX4_encode_10 (lv_at hl 7 rfl) ?_
  refine lv_istore (lv' := [(8, .int (nI 0)), (7, .int ((nI (fr + cn)) - (nI 2))), (6, .int (nI fr)), (0, .ref h0), (1, .ref ib), (2, .int (nI fr)), (3, .int (nI cn)), (4, .ref ob), (5, .int (nI 0))]) E.1 E.2.1 dX4_encode_12 hl (by decide) rfl (fun ls hl => ?_)
  have hw : Wd G A s [(h0, .inr (1, [.ref et, .int (nI 61), .ref dt])), (et, .inl (G.2.1, 64, .inl (fun j => nI (sgn 1 j)))), (ib, .inl (G.2.1, 256, .inl (fun j => sb_b (t j)))), (ob, .inl (G.2.1, rmN 1 cn, .inl (bk (fun _ => 0) 0 (fun j => nI (letN t 1 fr cn j)) (0))))] s.heap [] := hw.cong 3 rfl (fun j _ => congrFun (show (fun _ => 0) = (bk (fun _ => 0) 0 (fun j => nI (letN t 1 fr cn j)) (0)) from (bk_0 _ _ _).symm) j) rfl
  exact loop (cn + 1) 0 (by omega) (by omega) s.heap [] (hw.sub [0, 1, 2, 3] (by decide) rfl) ls (lv_sub hl [3, 4, 5, 6, 7, 8, 2, 1, 0] rfl)
end
section
set_option maxHeartbeats 4000000 in
set_option maxRecDepth 100000 in
/-- Base32Encoder.initialiseDecodingTable(): its own table alone is written -/
theorem m_X5_initialiseDecodingTable (l : Launch) (G : gg_T) (sz : Nat) (h0 dt : Nat) (g : Nat → Int32) : cT_v l yX5_initialiseDecodingTable (ws_ yX5_initialiseDecodingTable cX5_initialiseDecodingTable 2 (none)) ({ frames := 0, cells := 0, slots := 0, locals := 0 }) G [(h0, .inr (2, [.ref G.2.2.2, .int (nI 61), .ref dt])), (dt, .inl (G.2.1, 128, .inl (g)))] sz [.ref h0] (S := Nat → Int32) (fun _ => True) (fun u => [(h0, .inr (2, [.ref G.2.2.2, .int (nI 61), .ref dt])), (dt, .inl (G.2.1, 128, .inl (u)))]) 0 0 := by
  refine Met.ofW (cc := cX5_initialiseDecodingTable) (maxL := 2) (ret := none) (by decide) rfl ?_
  intro p e s m args below meth c s₁ B hml hv
  obtain ⟨rfl, hsz, E, hw⟩ := ent_ (own := RX5) B hml rfl hv
  have hr := B.returns
  have hlk := B.notSynchronized
  subst hsz
  clear hv
  generalize va_A [(h0, .inr (2, [.ref G.2.2.2, .int (nI 61), .ref dt])), (dt, .inl (G.2.1, 128, .inl (g)))] s.heap.size = A at E hw ⊢
  refine ent_f (Nat.le_of_ble_eq_true rfl) rfl (fun ls hl => ?_)
  have hl : lv_has ls 2 [(0, .ref h0)] := hl
  have loop2 : ∀ (n : Nat) (i : Nat) (g : Nat → Int32), i ≤ 32 → 32 < i + n → ∀ (H : Heap) (locs : List Loc), Wd G A s [(h0, .inr (2, [.ref G.2.2.2, .int (nI 61), .ref dt])), (dt, .inl (G.2.1, 128, .inl (g)))] H locs → ∀ (ls : Array Slot), lv_has ls 2 [(0, .ref h0), (1, .int (nI i))] → W p l e (headSpec (ws_ yX5_initialiseDecodingTable cX5_initialiseDecodingTable 2 (none)) ({ frames := 0, cells := 0, slots := 0, locals := 0 })).room s m ([.ref h0] : List Value).toArray below meth c H locs 0 0 (MQ below (va_Qv (S := Nat → Int32) (fun _ => True) (bw_ G A (fun u => [(h0, .inr (2, [.ref G.2.2.2, .int (nI 61), .ref dt])), (dt, .inl (G.2.1, 128, .inl (u)))])) A) ([.ref h0] : List Value).toArray s 0 0 A) (F0 m 26 ls []) := by
    intro n
    induction n with
    | zero =>
      intro i g hi hn
      omega
    | succ n ih =>
      intro i g hi hn H locs hw ls hl
      refine lv_iload_n E.1 E.2.1 dX5_initialiseDecodingTable_26 rfl (lv_at hl 1 rfl) ?_
      refine lv_aload_n E.1 E.2.1 dX5_initialiseDecodingTable_27 rfl (lv_at hl 0 rfl) ?_
      refine gf (v := .ref G.2.2.2) E hw in_X5 (ci := 2) rfl 0 rfl 0 (by decide) q179 rfl dX5_initialiseDecodingTable_28 ?_
      refine tln E hw dX5_initialiseDecodingTable_31 ?_
      refine n_icmp_ge (tgt := 54) E dX5_initialiseDecodingTable_32 (by decide) (by omega) (by omega) (fun c_32 => ?_) (fun c_32 => ?_)
      · skip
        have hw : Wd G A s [(h0, .inr (2, [.ref G.2.2.2, .int (nI 61), .ref dt])), (dt, .inl (G.2.1, 128, .inl (g)))] H locs := hw.sub [0, 1] (by decide) rfl
        exact ret_v E hw hr hlk (by omega) (by omega) (g) trivial rfl dX5_initialiseDecodingTable_54
      · skip
        have hs : sgn 2 i < 128 := sgn_lt (by omega) (fun _ => by omega)
        refine lv_aload_n E.1 E.2.1 dX5_initialiseDecodingTable_35 rfl (lv_at hl 0 rfl) ?_
        refine gf (v := .ref dt) E hw in_X5 (ci := 2) rfl 0 rfl 2 (by decide) q181 rfl dX5_initialiseDecodingTable_36 ?_
        refine lv_aload_n E.1 E.2.1 dX5_initialiseDecodingTable_39 rfl (lv_at hl 0 rfl) ?_
        refine gf (v := .ref G.2.2.2) E hw in_X5 (ci := 2) rfl 0 rfl 0 (by decide) q179 rfl dX5_initialiseDecodingTable_40 ?_
        refine lv_iload_n E.1 E.2.1 dX5_initialiseDecodingTable_43 rfl (lv_at hl 1 rfl) ?_
        refine tld E hw (by omega) dX5_initialiseDecodingTable_44 ?_
        refine lv_iload_n E.1 E.2.1 dX5_initialiseDecodingTable_45 rfl (lv_at hl 1 rfl) ?_
        refine lv_i2b E.1 E.2.1 dX5_initialiseDecodingTable_46 rfl ?_
        obtain ⟨g_1, hg_1⟩ : ∃ z, upd (g) (sgn 2 i) (vp_nar .byte ((nI i).toInt8.toInt32)) = z := ⟨_, rfl⟩
        refine bst (ws' := [(h0, .inr (2, [.ref G.2.2.2, .int (nI 61), .ref dt])), (dt, .inl (G.2.1, 128, .inl (g_1)))]) E hw 1 rfl (by omega) (by omega) (g_1) hg_1 rfl dX5_initialiseDecodingTable_47 (fun H locs hw => ?_)
        refine n_iinc (n := 1) (d := i + 1) (lv' := [(1, .int (nI (i + 1))), (0, .ref h0)]) E dX5_initialiseDecodingTable_48 hl (k := 1) rfl (by omega) (by decide) rfl (fun ls hl => ?_)
        refine lv_goto (tgt := 26) E.1 E.2.1 dX5_initialiseDecodingTable_51 (by decide) ?_
        exact ih (i + 1) _ (by omega) (by omega) H locs (hw.sub [0, 1] (by decide) rfl) ls (lv_sub hl [1, 0] rfl)
  have loop1 : ∀ (n : Nat) (i : Nat) (g : Nat → Int32), i ≤ 128 → 128 < i + n → ∀ (H : Heap) (locs : List Loc), Wd G A s [(h0, .inr (2, [.ref G.2.2.2, .int (nI 61), .ref dt])), (dt, .inl (G.2.1, 128, .inl (g)))] H locs → ∀ (ls : Array Slot), lv_has ls 2 [(0, .ref h0), (1, .int (nI i))] → W p l e (headSpec (ws_ yX5_initialiseDecodingTable cX5_initialiseDecodingTable 2 (none)) ({ frames := 0, cells := 0, slots := 0, locals := 0 })).room s m ([.ref h0] : List Value).toArray below meth c H locs 0 0 (MQ below (va_Qv (S := Nat → Int32) (fun _ => True) (bw_ G A (fun u => [(h0, .inr (2, [.ref G.2.2.2, .int (nI 61), .ref dt])), (dt, .inl (G.2.1, 128, .inl (u)))])) A) ([.ref h0] : List Value).toArray s 0 0 A) (F0 m 2 ls []) := by
    intro n
    induction n with
    | zero =>
      intro i g hi hn
      omega
    | succ n ih =>
      intro i g hi hn H locs hw ls hl
      refine lv_iload_n E.1 E.2.1 dX5_initialiseDecodingTable_2 rfl (lv_at hl 1 rfl) ?_
      refine lv_aload_n E.1 E.2.1 dX5_initialiseDecodingTable_3 rfl (lv_at hl 0 rfl) ?_
      refine gf (v := .ref dt) E hw in_X5 (ci := 2) rfl 0 rfl 2 (by decide) q181 rfl dX5_initialiseDecodingTable_4 ?_
      refine bln E hw 1 rfl dX5_initialiseDecodingTable_7 ?_
      refine n_icmp_ge (tgt := 24) E dX5_initialiseDecodingTable_8 (by decide) (by omega) (by omega) (fun c_8 => ?_) (fun c_8 => ?_)
      · skip
        refine lv_iconst (v := nI 0) E.1 E.2.1 dX5_initialiseDecodingTable_24 (by decide +kernel) ?_
        refine lv_istore_n (lv' := [(1, .int (nI 0)), (0, .ref h0)]) E.1 E.2.1 dX5_initialiseDecodingTable_25 rfl hl (by decide) rfl (fun ls hl => ?_)
        exact loop2 33 0 _ (by omega) (by omega) H locs (hw.sub [0, 1] (by decide) rfl) ls (lv_sub hl [1, 0] rfl)
      · skip
        refine lv_aload_n E.1 E.2.1 dX5_initialiseDecodingTable_11 rfl (lv_at hl 0 rfl) ?_
        refine gf (v := .ref dt) E hw in_X5 (ci := 2) rfl 0 rfl 2 (by decide) q181 rfl dX5_initialiseDecodingTable_12 ?_
        refine lv_iload_n E.1 E.2.1 dX5_initialiseDecodingTable_15 rfl (lv_at hl 1 rfl) ?_
        refine lv_iconst (v := (-1)) E.1 E.2.1 dX5_initialiseDecodingTable_16 (by decide +kernel) ?_
        obtain ⟨g_2, hg_2⟩ : ∃ z, upd (g) i (vp_nar .byte (-1)) = z := ⟨_, rfl⟩
        refine bst (ws' := [(h0, .inr (2, [.ref G.2.2.2, .int (nI 61), .ref dt])), (dt, .inl (G.2.1, 128, .inl (g_2)))]) E hw 1 rfl (by omega) (by omega) (g_2) hg_2 rfl dX5_initialiseDecodingTable_17 (fun H locs hw => ?_)
        refine n_iinc (n := 1) (d := i + 1) (lv' := [(1, .int (nI (i + 1))), (0, .ref h0)]) E dX5_initialiseDecodingTable_18 hl (k := 1) rfl (by omega) (by decide) rfl (fun ls hl => ?_)
        refine lv_goto (tgt := 2) E.1 E.2.1 dX5_initialiseDecodingTable_21 (by decide) ?_
        exact ih (i + 1) _ (by omega) (by omega) H locs (hw.sub [0, 1] (by decide) rfl) ls (lv_sub hl [1, 0] rfl)
  refine lv_iconst (v := nI 0) E.1 E.2.1 dX5_initialiseDecodingTable_0 (by decide +kernel) ?_
  refine lv_istore_n (lv' := [(1, .int (nI 0)), (0, .ref h0)]) E.1 E.2.1 dX5_initialiseDecodingTable_1 rfl hl (by decide) rfl (fun ls hl => ?_)
  exact loop1 129 0 _ (by omega) (by omega) s.heap [] (hw.sub [0, 1] (by decide) rfl) ls (lv_sub hl [1, 0] rfl)
set_option maxHeartbeats 4000000 in
set_option maxRecDepth 100000 in
/-- Base32Encoder(): its table of letters, and a table of which nothing is said -/
theorem m_X5_init (l : Launch) (G : gg_T) (sz : Nat) (h0 : Nat) : cT_v l yX5_init (ws_ yX5_init cX5_init 1 (none)) ({ frames := 1, cells := 1, slots := 128, locals := 21 }) G [(h0, .inr (2, [.null, .int (nI 0), .null]))] sz [.ref h0] (S := Nat × (Nat → Int32)) (fun _ => True) (fun u => [(h0, .inr (2, [.ref G.2.2.2, .int (nI 61), .ref u.1])), (u.1, .inl (G.2.1, 128, .inl (u.2)))]) 1 128 := by
  refine Met.ofW (cc := cX5_init) (maxL := 1) (ret := none) (by decide) rfl ?_
  intro p e s m args below meth c s₁ B hml hv
  obtain ⟨rfl, hsz, E, hw⟩ := ent_ (own := RX5) B hml rfl hv
  have hr := B.returns
  have hlk := B.notSynchronized
  have hin : meth.name = "<init>" := (name_of_methodNamed B.named B.method).1
  subst hsz
  clear hv
  generalize va_A [(h0, .inr (2, [.null, .int (nI 0), .null]))] s.heap.size = A at E hw ⊢
  refine ent_f (Nat.le_of_ble_eq_true rfl) rfl (fun ls hl => ?_)
  have hl : lv_has ls 1 [(0, .ref h0)] := hl
  refine lv_aload_n E.1 E.2.1 dX5_init_0 rfl (lv_at hl 0 rfl) ?_
  refine obi E hl.1 q172 dX5_init_1 (Nat.le_of_ble_eq_true rfl) (Nat.le_of_ble_eq_true rfl) ?_
  refine lv_aload_n E.1 E.2.1 dX5_init_4 rfl (lv_at hl 0 rfl) ?_
  refine lv_sipush (v := nI 128) E.1 E.2.1 dX5_init_5 (by decide +kernel) ?_
  refine nwb E hw (Nat.le_of_ble_eq_true rfl) (by show _ ≤ 1; omega) (by show _ ≤ 128; omega) dX5_init_8 (fun dt H hw => ?_)
  have hw : Wd G A s [(h0, .inr (2, [.null, .int (nI 0), .null])), (dt, .inl (G.2.1, 128, .inl (fun _ => 0)))] H [] := hw
  refine W.cs (cells' := 1) (slots' := 128) rfl rfl ?_
  refine pff (ws' := [(h0, .inr (2, [.null, .int (nI 0), .ref dt])), (dt, .inl (G.2.1, 128, .inl (fun _ => 0)))]) E hw in_X5 tyX5 tyX5_ok nmX5 (ci := 2) rfl 0 rfl 2 (by decide) q181 rfl hin rfl rfl rfl (Nat.le_of_ble_eq_true rfl) rfl dX5_init_10 (fun H locs hw => ?_)
  refine lv_aload_n E.1 E.2.1 dX5_init_13 rfl (lv_at hl 0 rfl) ?_
  refine va_gets E.1 E.2.1 E.2.2.2.2.2.1.2.1 hw.2.2 E.2.2.2.1 (E.hts _ q173) (fun _ h => h) dX5_init_14 ?_
  refine pff (ws' := [(h0, .inr (2, [.ref G.2.2.2, .int (nI 0), .ref dt])), (dt, .inl (G.2.1, 128, .inl (fun _ => 0)))]) E hw in_X5 tyX5 tyX5_ok nmX5 (ci := 2) rfl 0 rfl 0 (by decide) q179 rfl hin rfl rfl rfl (Nat.le_of_ble_eq_true rfl) rfl dX5_init_17 (fun H locs hw => ?_)
  refine lv_aload_n E.1 E.2.1 dX5_init_20 rfl (lv_at hl 0 rfl) ?_
  refine lv_bipush (v := nI 61) E.1 E.2.1 dX5_init_21 (by decide +kernel) ?_
  refine pff (ws' := [(h0, .inr (2, [.ref G.2.2.2, .int (nI 61), .ref dt])), (dt, .inl (G.2.1, 128, .inl (fun _ => 0)))]) E hw in_X5 tyX5 tyX5_ok nmX5 (ci := 2) rfl 0 rfl 1 (by decide) q180 rfl hin rfl (by decide +kernel) (by decide +kernel) (Nat.le_of_ble_eq_true rfl) rfl dX5_init_23 (fun H locs hw => ?_)
  refine lv_aload_n E.1 E.2.1 dX5_init_26 rfl (lv_at hl 0 rfl) ?_
  refine cl_v (wr := []) (va_runV (As := []) (rest := []) E.fix (m_X5_initialiseDecodingTable l G H.size h0 dt _) (cwV 0 E.hts (lw_V q175 q176 q177 q8 q178) rfl rfl rfl (by decide +kernel) ⟨Nat.le_of_ble_eq_true rfl, Nat.le_of_ble_eq_true rfl⟩) (preV_ok E hw [0, 1] rfl (by decide) 0 rfl (ci := 2) rfl) rfl rfl hl.1 rfl (lv_room (Nat.le_of_ble_eq_true rfl)) dX5_init_27 ⟨(by show _ ≤ 1; omega), (by show _ ≤ 128; omega)⟩) E hw [0, 1] [] rfl rfl (by decide) (by decide) (fun g H locs hp hw => ?_)
  have hw : Wd G A s [(h0, .inr (2, [.ref G.2.2.2, .int (nI 61), .ref dt])), (dt, .inl (G.2.1, 128, .inl (g)))] H locs := hw
  refine W.cs (cells' := 1) (slots' := 128) rfl rfl ?_
  have hw : Wd G A s [(h0, .inr (2, [.ref G.2.2.2, .int (nI 61), .ref dt])), (dt, .inl (G.2.1, 128, .inl (g)))] H locs := hw.sub [0, 1] (by decide) rfl
  exact ret_v E hw hr hlk (by omega) (by omega) ((dt, g)) trivial rfl dX5_init_30
set_option maxHeartbeats 4000000 in
set_option maxRecDepth 100000 in
/-- Base32Encoder.getEncodedLength(n) -/
theorem m_X5_getEncodedLength (l : Launch) (G : gg_T) (sz : Nat) (h0 n : Nat) (hn : n ≤ 65535) : cT_i l yX5_getEncodedLength (ws_ yX5_getEncodedLength cX5_getEncodedLength 2 (some .int)) ({ frames := 0, cells := 0, slots := 0, locals := 0 }) G [] sz [.ref h0, .int (nI n)] (S := Unit) (fun r _ => r = nI (rmN 2 n)) (fun _ => []) 0 0 := by
  refine Met.ofW (cc := cX5_getEncodedLength) (maxL := 2) (ret := some .int) (by decide) rfl ?_
  intro p e s m args below meth c s₁ B hml hv
  obtain ⟨rfl, hsz, E, hw⟩ := ent_ (own := RX5) B hml rfl hv
  have hr := B.returns
  have hlk := B.notSynchronized
  subst hsz
  clear hv
  generalize va_A [] s.heap.size = A at E hw ⊢
  refine ent_f (Nat.le_of_ble_eq_true rfl) rfl (fun ls hl => ?_)
  have hl : lv_has ls 2 [(0, .ref h0), (1, .int (nI n))] := hl
  refine lv_iload_n E.1 E.2.1 dX5_getEncodedLength_0 rfl (lv_at hl 1 rfl) ?_
  refine lv_iconst (v := nI 4) E.1 E.2.1 dX5_getEncodedLength_1 (by decide +kernel) ?_
  refine n_iadd (d := n + 4) E dX5_getEncodedLength_2 rfl ?_
  refine lv_iconst (v := nI 5) E.1 E.2.1 dX5_getEncodedLength_3 (by decide +kernel) ?_
  refine n_idiv (d := (n + 4) / 5) E dX5_getEncodedLength_4 (by omega) (by omega) (by omega) rfl ?_
  refine lv_bipush (v := nI 8) E.1 E.2.1 dX5_getEncodedLength_5 (by decide +kernel) ?_
  refine n_imul (d := ((n + 4) / 5) * 8) E dX5_getEncodedLength_7 rfl ?_
  have hw : Wd G A s [] s.heap [] := hw.sub [] (by decide) rfl
  exact ret_i E hw hr hlk (by omega) (by omega) (()) (by rw [rmN_2]) rfl dX5_getEncodedLength_8
set_option maxHeartbeats 4000000 in
set_option maxRecDepth 100000 in
/-- Base32Encoder.encodeBlock: five bytes to eight letters -/
theorem m_X5_encodeBlock (l : Launch) (G : gg_T) (sz : Nat) (h0 dt ib ob : Nat) (t : Nat → Nat) (z : Nat → Int32) (nb no ip op : Nat) (ht : ∀ j, t j < 256) (hip : ip + 5 ≤ nb) (hnb : nb < 2 ^ 30) (hop : op + 8 ≤ no) (hno : no < 2 ^ 30) : cT_v l yX5_encodeBlock (ws_ yX5_encodeBlock cX5_encodeBlock 10 (none)) ({ frames := 0, cells := 0, slots := 0, locals := 0 }) G [(h0, .inr (2, [.ref G.2.2.2, .int (nI 61), .ref dt])), (ib, .inl (G.2.1, nb, .inl (fun j => sb_b (t j)))), (ob, .inl (G.2.1, no, .inl (z)))] sz [.ref h0, .ref ib, .int (nI ip), .ref ob, .int (nI op)] (S := Unit) (fun _ => True) (fun _ => [(h0, .inr (2, [.ref G.2.2.2, .int (nI 61), .ref dt])), (ib, .inl (G.2.1, nb, .inl (fun j => sb_b (t j)))), (ob, .inl (G.2.1, no, .inl (bk z op (fun r => nI (sgn 2 (v32 (t ip) (t (ip + 1)) (t (ip + 2)) (t (ip + 3)) (t (ip + 4)) r))) 8)))]) 0 0 := by
  refine Met.ofW (cc := cX5_encodeBlock) (maxL := 10) (ret := none) (by decide) rfl ?_
  intro p e s m args below meth c s₁ B hml hv
  obtain ⟨rfl, hsz, E, hw⟩ := ent_ (own := RX5) B hml rfl hv
  have hr := B.returns
  have hlk := B.notSynchronized
  subst hsz
  clear hv
  generalize va_A [(h0, .inr (2, [.ref G.2.2.2, .int (nI 61), .ref dt])), (ib, .inl (G.2.1, nb, .inl (fun j => sb_b (t j)))), (ob, .inl (G.2.1, no, .inl (z)))] s.heap.size = A at E hw ⊢
  refine ent_f (Nat.le_of_ble_eq_true rfl) rfl (fun ls hl => ?_)
  have hl : lv_has ls 10 [(0, .ref h0), (1, .ref ib), (2, .int (nI ip)), (3, .ref ob), (4, .int (nI op))] := hl
  have hb0 := ht (ip)
  have hb1 := ht (ip + 1)
  have hb2 := ht (ip + 2)
  have hb3 := ht (ip + 3)
  have hb4 := ht (ip + 4)
  refine lv_aload_n E.1 E.2.1 dX5_encodeBlock_0 rfl (lv_at hl 1 rfl) ?_
  refine lv_iload_n E.1 E.2.1 dX5_encodeBlock_1 rfl (lv_at hl 2 rfl) ?_
  refine n_iinc (n := 1) (d := ip + 1) (lv' := [(2, .int (nI (ip + 1))), (0, .ref h0), (1, .ref ib), (3, .ref ob), (4, .int (nI op))]) E dX5_encodeBlock_2 hl (k := 2) rfl (by omega) (by decide) rfl (fun ls hl => ?_)
  refine bld (v := sb_b (t (ip))) E hw 1 rfl (by omega) (by omega) rfl dX5_encodeBlock_5 ?_
  refine lv_istore (lv' := [(5, .int (sb_b (t (ip)))), (2, .int (nI (ip + 1))), (0, .ref h0), (1, .ref ib), (3, .ref ob), (4, .int (nI op))]) E.1 E.2.1 dX5_encodeBlock_6 hl (by decide) rfl (fun ls hl => ?_)
  refine lv_aload_n E.1 E.2.1 dX5_encodeBlock_8 rfl (lv_at hl 3 rfl) ?_
  refine lv_iload_n E.1 E.2.1 dX5_encodeBlock_9 rfl (lv_at hl 1 rfl) ?_
  refine n_iinc (n := 1) (d := ip + 2) (lv' := [(2, .int (nI (ip + 2))), (5, .int (sb_b (t (ip)))), (0, .ref h0), (1, .ref ib), (3, .ref ob), (4, .int (nI op))]) E dX5_encodeBlock_10 hl (k := 1) rfl (by omega) (by decide) rfl (fun ls hl => ?_)
  refine bld (v := sb_b (t (ip + 1))) E hw 1 rfl (by omega) (by omega) rfl dX5_encodeBlock_13 ?_
  refine lv_sipush (v := nI 255) E.1 E.2.1 dX5_encodeBlock_14 (by decide +kernel) ?_
  refine lv_iand E.1 E.2.1 dX5_encodeBlock_17 ?_
  refine tv (y := nI (t (ip + 1))) (sb_mask hb1) ?_
  refine lv_istore (lv' := [(6, .int (nI (t (ip + 1)))), (2, .int (nI (ip + 2))), (5, .int (sb_b (t (ip)))), (0, .ref h0), (1, .ref ib), (3, .ref ob), (4, .int (nI op))]) E.1 E.2.1 dX5_encodeBlock_18 hl (by decide) rfl (fun ls hl => ?_)
  refine lv_aload_n E.1 E.2.1 dX5_encodeBlock_20 rfl (lv_at hl 4 rfl) ?_
  refine lv_iload_n E.1 E.2.1 dX5_encodeBlock_21 rfl (lv_at hl 1 rfl) ?_
  refine n_iinc (n := 1) (d := ip + 3) (lv' := [(2, .int (nI (ip + 3))), (6, .int (nI (t (ip + 1)))), (5, .int (sb_b (t (ip)))), (0, .ref h0), (1, .ref ib), (3, .ref ob), (4, .int (nI op))]) E dX5_encodeBlock_22 hl (k := 1) rfl (by omega) (by decide) rfl (fun ls hl => ?_)
  refine bld (v := sb_b (t (ip + 2))) E hw 1 rfl (by omega) (by omega) rfl dX5_encodeBlock_25 ?_
  refine lv_sipush (v := nI 255) E.1 E.2.1 dX5_encodeBlock_26 (by decide +kernel) ?_
  refine lv_iand E.1 E.2.1 dX5_encodeBlock_29 ?_
  refine tv (y := nI (t (ip + 2))) (sb_mask hb2) ?_
  refine lv_istore (lv' := [(7, .int (nI (t (ip + 2)))), (2, .int (nI (ip + 3))), (6, .int (nI (t (ip + 1)))), (5, .int (sb_b (t (ip)))), (0, .ref h0), (1, .ref ib), (3, .ref ob), (4, .int (nI op))]) E.1 E.2.1 dX5_encodeBlock_30 hl (by decide) rfl (fun ls hl => ?_)
  refine lv_aload_n E.1 E.2.1 dX5_encodeBlock_32 rfl (lv_at hl 5 rfl) ?_
  refine lv_iload_n E.1 E.2.1 dX5_encodeBlock_33 rfl (lv_at hl 1 rfl) ?_
  refine n_iinc (n := 1) (d := ip + 4) (lv' := [(2, .int (nI (ip + 4))), (7, .int (nI (t (ip + 2)))), (6, .int (nI (t (ip + 1)))), (5, .int (sb_b (t (ip)))), (0, .ref h0), (1, .ref ib), (3, .ref ob), (4, .int (nI op))]) E dX5_encodeBlock_34 hl (k := 1) rfl (by omega) (by decide) rfl (fun ls hl => ?_)
  refine bld (v := sb_b (t (ip + 3))) E hw 1 rfl (by omega) (by omega) rfl dX5_encodeBlock_37 ?_
  refine lv_sipush (v := nI 255) E.1 E.2.1 dX5_encodeBlock_38 (by decide +kernel) ?_
  refine lv_iand E.1 E.2.1 dX5_encodeBlock_41 ?_
  refine tv (y := nI (t (ip + 3))) (sb_mask hb3) ?_
  refine lv_istore (lv' := [(8, .int (nI (t (ip + 3)))), (2, .int (nI (ip + 4))), (7, .int (nI (t (ip + 2)))), (6, .int (nI (t (ip + 1)))), (5, .int (sb_b (t (ip)))), (0, .ref h0), (1, .ref ib), (3, .ref ob), (4, .int (nI op))]) E.1 E.2.1 dX5_encodeBlock_42 hl (by decide) rfl (fun ls hl => ?_)
  refine lv_aload_n E.1 E.2.1 dX5_encodeBlock_44 rfl (lv_at hl 6 rfl) ?_
  refine lv_iload_n E.1 E.2.1 dX5_encodeBlock_45 rfl (lv_at hl 1 rfl) ?_
  refine bld (v := sb_b (t (ip + 4))) E hw 1 rfl (by omega) (by omega) rfl dX5_encodeBlock_46 ?_
  refine lv_sipush (v := nI 255) E.1 E.2.1 dX5_encodeBlock_47 (by decide +kernel) ?_
  refine lv_iand E.1 E.2.1 dX5_encodeBlock_50 ?_
  refine tv (y := nI (t (ip + 4))) (sb_mask hb4) ?_
  refine lv_istore (lv' := [(9, .int (nI (t (ip + 4)))), (8, .int (nI (t (ip + 3)))), (2, .int (nI (ip + 4))), (7, .int (nI (t (ip + 2)))), (6, .int (nI (t (ip + 1)))), (5, .int (sb_b (t (ip)))), (0, .ref h0), (1, .ref ib), (3, .ref ob), (4, .int (nI op))]) E.1 E.2.1 dX5_encodeBlock_51 hl (by decide) rfl (fun ls hl => ?_)
  refine lv_aload_n E.1 E.2.1 dX5_encodeBlock_53 rfl (lv_at hl 8 rfl) ?_
  refine lv_iload E.1 E.2.1 dX5_encodeBlock_54 (lv_at hl 9 rfl) ?_
  refine n_iinc (n := 1) (d := op + 1) (lv' := [(4, .int (nI (op + 1))), (9, .int (nI (t (ip + 4)))), (8, .int (nI (t (ip + 3)))), (2, .int (nI (ip + 4))), (7, .int (nI (t (ip + 2)))), (6, .int (nI (t (ip + 1)))), (5, .int (sb_b (t (ip)))), (0, .ref h0), (1, .ref ib), (3, .ref ob)]) E dX5_encodeBlock_56 hl (k := 9) rfl (by omega) (by decide) rfl (fun ls hl => ?_)
  refine lv_aload_n E.1 E.2.1 dX5_encodeBlock_59 rfl (lv_at hl 7 rfl) ?_
  refine gf (v := .ref G.2.2.2) E hw in_X5 (ci := 2) rfl 0 rfl 0 (by decide) q179 rfl dX5_encodeBlock_60 ?_
  refine lv_iload E.1 E.2.1 dX5_encodeBlock_63 (lv_at hl 6 rfl) ?_
  refine lv_iconst (v := nI 3) E.1 E.2.1 dX5_encodeBlock_65 (by decide +kernel) ?_
  refine lv_iushr E.1 E.2.1 dX5_encodeBlock_66 rfl ?_
  refine lv_bipush (v := nI 31) E.1 E.2.1 dX5_encodeBlock_67 (by decide +kernel) ?_
  refine lv_iand E.1 E.2.1 dX5_encodeBlock_69 ?_
  refine tv (y := nI (t (ip) / 8)) (x_s3 _ hb0) ?_
  refine tld E hw (by omega) dX5_encodeBlock_70 ?_
  refine bst (ws' := [(h0, .inr (2, [.ref G.2.2.2, .int (nI 61), .ref dt])), (ib, .inl (G.2.1, nb, .inl (fun j => sb_b (t j)))), (ob, .inl (G.2.1, no, .inl (bk z op (fun r => nI (sgn 2 (v32 (t ip) (t (ip + 1)) (t (ip + 2)) (t (ip + 3)) (t (ip + 4)) r))) 1)))]) E hw 2 rfl (by omega) (by omega) (bk z op (fun r => nI (sgn 2 (v32 (t ip) (t (ip + 1)) (t (ip + 2)) (t (ip + 3)) (t (ip + 4)) r))) 1) (bk_upd0 rfl (nar_sm _ (sgn_lt (by omega) (fun h => by omega)))) rfl dX5_encodeBlock_71 (fun H locs hw => ?_)
  refine lv_aload_n E.1 E.2.1 dX5_encodeBlock_72 rfl (lv_at hl 9 rfl) ?_
  refine lv_iload E.1 E.2.1 dX5_encodeBlock_73 (lv_at hl 0 rfl) ?_
  refine n_iinc (n := 1) (d := op + 2) (lv' := [(4, .int (nI (op + 2))), (9, .int (nI (t (ip + 4)))), (8, .int (nI (t (ip + 3)))), (2, .int (nI (ip + 4))), (7, .int (nI (t (ip + 2)))), (6, .int (nI (t (ip + 1)))), (5, .int (sb_b (t (ip)))), (0, .ref h0), (1, .ref ib), (3, .ref ob)]) E dX5_encodeBlock_75 hl (k := 0) rfl (by omega) (by decide) rfl (fun ls hl => ?_)
  refine lv_aload_n E.1 E.2.1 dX5_encodeBlock_78 rfl (lv_at hl 7 rfl) ?_
  refine gf (v := .ref G.2.2.2) E hw in_X5 (ci := 2) rfl 0 rfl 0 (by decide) q179 rfl dX5_encodeBlock_79 ?_
  refine lv_iload E.1 E.2.1 dX5_encodeBlock_82 (lv_at hl 6 rfl) ?_
  refine lv_iconst (v := nI 2) E.1 E.2.1 dX5_encodeBlock_84 (by decide +kernel) ?_
  refine lv_ishl E.1 E.2.1 dX5_encodeBlock_85 ?_
  refine lv_iload E.1 E.2.1 dX5_encodeBlock_86 (lv_at hl 5 rfl) ?_
  refine lv_bipush (v := nI 6) E.1 E.2.1 dX5_encodeBlock_88 (by decide +kernel) ?_
  refine lv_iushr (v := nI ((t (ip + 1)) / 64)) E.1 E.2.1 dX5_encodeBlock_90 (x_ushr (by omega) 6 (by decide +kernel)) ?_
  refine lv_ior E.1 E.2.1 dX5_encodeBlock_91 ?_
  refine lv_bipush (v := nI 31) E.1 E.2.1 dX5_encodeBlock_92 (by decide +kernel) ?_
  refine lv_iand E.1 E.2.1 dX5_encodeBlock_94 ?_
  refine tv (y := nI (t (ip) % 8 * 4 + t (ip + 1) / 64)) (x_32a _ hb0 _ (by omega)) ?_
  refine tld E hw (by omega) dX5_encodeBlock_95 ?_
  refine bst (ws' := [(h0, .inr (2, [.ref G.2.2.2, .int (nI 61), .ref dt])), (ib, .inl (G.2.1, nb, .inl (fun j => sb_b (t j)))), (ob, .inl (G.2.1, no, .inl (bk z op (fun r => nI (sgn 2 (v32 (t ip) (t (ip + 1)) (t (ip + 2)) (t (ip + 3)) (t (ip + 4)) r))) 2)))]) E hw 2 rfl (by omega) (by omega) (bk z op (fun r => nI (sgn 2 (v32 (t ip) (t (ip + 1)) (t (ip + 2)) (t (ip + 3)) (t (ip + 4)) r))) 2) (bk_upd rfl (nar_sm _ (sgn_lt (by omega) (fun h => by omega)))) rfl dX5_encodeBlock_96 (fun H locs hw => ?_)
  refine lv_aload_n E.1 E.2.1 dX5_encodeBlock_97 rfl (lv_at hl 9 rfl) ?_
  refine lv_iload E.1 E.2.1 dX5_encodeBlock_98 (lv_at hl 0 rfl) ?_
  refine n_iinc (n := 1) (d := op + 3) (lv' := [(4, .int (nI (op + 3))), (9, .int (nI (t (ip + 4)))), (8, .int (nI (t (ip + 3)))), (2, .int (nI (ip + 4))), (7, .int (nI (t (ip + 2)))), (6, .int (nI (t (ip + 1)))), (5, .int (sb_b (t (ip)))), (0, .ref h0), (1, .ref ib), (3, .ref ob)]) E dX5_encodeBlock_100 hl (k := 0) rfl (by omega) (by decide) rfl (fun ls hl => ?_)
  refine lv_aload_n E.1 E.2.1 dX5_encodeBlock_103 rfl (lv_at hl 7 rfl) ?_
  refine gf (v := .ref G.2.2.2) E hw in_X5 (ci := 2) rfl 0 rfl 0 (by decide) q179 rfl dX5_encodeBlock_104 ?_
  refine lv_iload E.1 E.2.1 dX5_encodeBlock_107 (lv_at hl 5 rfl) ?_
  refine lv_iconst (v := nI 1) E.1 E.2.1 dX5_encodeBlock_109 (by decide +kernel) ?_
  refine lv_iushr (v := nI ((t (ip + 1)) / 2)) E.1 E.2.1 dX5_encodeBlock_110 (x_ushr (by omega) 1 (by decide +kernel)) ?_
  refine lv_bipush (v := nI 31) E.1 E.2.1 dX5_encodeBlock_111 (by decide +kernel) ?_
  refine lv_iand E.1 E.2.1 dX5_encodeBlock_113 ?_
  refine tv (y := nI (t (ip + 1) / 2 % 32)) (x_m31 (by omega)) ?_
  refine tld E hw (by omega) dX5_encodeBlock_114 ?_
  refine bst (ws' := [(h0, .inr (2, [.ref G.2.2.2, .int (nI 61), .ref dt])), (ib, .inl (G.2.1, nb, .inl (fun j => sb_b (t j)))), (ob, .inl (G.2.1, no, .inl (bk z op (fun r => nI (sgn 2 (v32 (t ip) (t (ip + 1)) (t (ip + 2)) (t (ip + 3)) (t (ip + 4)) r))) 3)))]) E hw 2 rfl (by omega) (by omega) (bk z op (fun r => nI (sgn 2 (v32 (t ip) (t (ip + 1)) (t (ip + 2)) (t (ip + 3)) (t (ip + 4)) r))) 3) (bk_upd rfl (nar_sm _ (sgn_lt (by omega) (fun h => by omega)))) rfl dX5_encodeBlock_115 (fun H locs hw => ?_)
  refine lv_aload_n E.1 E.2.1 dX5_encodeBlock_116 rfl (lv_at hl 9 rfl) ?_
  refine lv_iload E.1 E.2.1 dX5_encodeBlock_117 (lv_at hl 0 rfl) ?_
  refine n_iinc (n := 1) (d := op + 4) (lv' := [(4, .int (nI (op + 4))), (9, .int (nI (t (ip + 4)))), (8, .int (nI (t (ip + 3)))), (2, .int (nI (ip + 4))), (7, .int (nI (t (ip + 2)))), (6, .int (nI (t (ip + 1)))), (5, .int (sb_b (t (ip)))), (0, .ref h0), (1, .ref ib), (3, .ref ob)]) E dX5_encodeBlock_119 hl (k := 0) rfl (by omega) (by decide) rfl (fun ls hl => ?_)
  refine lv_aload_n E.1 E.2.1 dX5_encodeBlock_122 rfl (lv_at hl 7 rfl) ?_
  refine gf (v := .ref G.2.2.2) E hw in_X5 (ci := 2) rfl 0 rfl 0 (by decide) q179 rfl dX5_encodeBlock_123 ?_
  refine lv_iload E.1 E.2.1 dX5_encodeBlock_126 (lv_at hl 5 rfl) ?_
  refine lv_iconst (v := nI 4) E.1 E.2.1 dX5_encodeBlock_128 (by decide +kernel) ?_
  refine lv_ishl E.1 E.2.1 dX5_encodeBlock_129 ?_
  refine lv_iload E.1 E.2.1 dX5_encodeBlock_130 (lv_at hl 4 rfl) ?_
  refine lv_iconst (v := nI 4) E.1 E.2.1 dX5_encodeBlock_132 (by decide +kernel) ?_
  refine lv_iushr (v := nI ((t (ip + 2)) / 16)) E.1 E.2.1 dX5_encodeBlock_133 (x_ushr (by omega) 4 (by decide +kernel)) ?_
  refine lv_ior E.1 E.2.1 dX5_encodeBlock_134 ?_
  refine lv_bipush (v := nI 31) E.1 E.2.1 dX5_encodeBlock_135 (by decide +kernel) ?_
  refine lv_iand E.1 E.2.1 dX5_encodeBlock_137 ?_
  refine tv (y := nI (t (ip + 1) % 2 * 16 + t (ip + 2) / 16)) (x_32b _ hb1 _ (by omega)) ?_
  refine tld E hw (by omega) dX5_encodeBlock_138 ?_
  refine bst (ws' := [(h0, .inr (2, [.ref G.2.2.2, .int (nI 61), .ref dt])), (ib, .inl (G.2.1, nb, .inl (fun j => sb_b (t j)))), (ob, .inl (G.2.1, no, .inl (bk z op (fun r => nI (sgn 2 (v32 (t ip) (t (ip + 1)) (t (ip + 2)) (t (ip + 3)) (t (ip + 4)) r))) 4)))]) E hw 2 rfl (by omega) (by omega) (bk z op (fun r => nI (sgn 2 (v32 (t ip) (t (ip + 1)) (t (ip + 2)) (t (ip + 3)) (t (ip + 4)) r))) 4) (bk_upd rfl (nar_sm _ (sgn_lt (by omega) (fun h => by omega)))) rfl dX5_encodeBlock_139 (fun H locs hw => ?_)
  refine lv_aload_n E.1 E.2.1 dX5_encodeBlock_140 rfl (lv_at hl 9 rfl) ?_
  refine lv_iload E.1 E.2.1 dX5_encodeBlock_141 (lv_at hl 0 rfl) ?_
  refine n_iinc (n := 1) (d := op + 5) (lv' := [(4, .int (nI (op + 5))), (9, .int (nI (t (ip + 4)))), (8, .int (nI (t (ip + 3)))), (2, .int (nI (ip + 4))), (7, .int (nI (t (ip + 2)))), (6, .int (nI (t (ip + 1)))), (5, .int (sb_b (t (ip)))), (0, .ref h0), (1, .ref ib), (3, .ref ob)]) E dX5_encodeBlock_143 hl (k := 0) rfl (by omega) (by decide) rfl (fun ls hl => ?_)
  refine lv_aload_n E.1 E.2.1 dX5_encodeBlock_146 rfl (lv_at hl 7 rfl) ?_
  refine gf (v := .ref G.2.2.2) E hw in_X5 (ci := 2) rfl 0 rfl 0 (by decide) q179 rfl dX5_encodeBlock_147 ?_
  refine lv_iload E.1 E.2.1 dX5_encodeBlock_150 (lv_at hl 4 rfl) ?_
  refine lv_iconst (v := nI 1) E.1 E.2.1 dX5_encodeBlock_152 (by decide +kernel) ?_
  refine lv_ishl E.1 E.2.1 dX5_encodeBlock_153 ?_
  refine lv_iload E.1 E.2.1 dX5_encodeBlock_154 (lv_at hl 2 rfl) ?_
  refine lv_bipush (v := nI 7) E.1 E.2.1 dX5_encodeBlock_156 (by decide +kernel) ?_
  refine lv_iushr (v := nI ((t (ip + 3)) / 128)) E.1 E.2.1 dX5_encodeBlock_158 (x_ushr (by omega) 7 (by decide +kernel)) ?_
  refine lv_ior E.1 E.2.1 dX5_encodeBlock_159 ?_
  refine lv_bipush (v := nI 31) E.1 E.2.1 dX5_encodeBlock_160 (by decide +kernel) ?_
  refine lv_iand E.1 E.2.1 dX5_encodeBlock_162 ?_
  refine tv (y := nI (t (ip + 2) % 16 * 2 + t (ip + 3) / 128)) (x_32c _ hb2 _ (by omega)) ?_
  refine tld E hw (by omega) dX5_encodeBlock_163 ?_
  refine bst (ws' := [(h0, .inr (2, [.ref G.2.2.2, .int (nI 61), .ref dt])), (ib, .inl (G.2.1, nb, .inl (fun j => sb_b (t j)))), (ob, .inl (G.2.1, no, .inl (bk z op (fun r => nI (sgn 2 (v32 (t ip) (t (ip + 1)) (t (ip + 2)) (t (ip + 3)) (t (ip + 4)) r))) 5)))]) E hw 2 rfl (by omega) (by omega) (bk z op (fun r => nI (sgn 2 (v32 (t ip) (t (ip + 1)) (t (ip + 2)) (t (ip + 3)) (t (ip + 4)) r))) 5) (bk_upd rfl (nar_sm _ (sgn_lt (by omega) (fun h => by omega)))) rfl dX5_encodeBlock_164 (fun H locs hw => ?_)
  refine lv_aload_n E.1 E.2.1 dX5_encodeBlock_165 rfl (lv_at hl 9 rfl) ?_
  refine lv_iload E.1 E.2.1 dX5_encodeBlock_166 (lv_at hl 0 rfl) ?_
  refine n_iinc (n := 1) (d := op + 6) (lv' := [(4, .int (nI (op + 6))), (9, .int (nI (t (ip + 4)))), (8, .int (nI (t (ip + 3)))), (2, .int (nI (ip + 4))), (7, .int (nI (t (ip + 2)))), (6, .int (nI (t (ip + 1)))), (5, .int (sb_b (t (ip)))), (0, .ref h0), (1, .ref ib), (3, .ref ob)]) E dX5_encodeBlock_168 hl (k := 0) rfl (by omega) (by decide) rfl (fun ls hl => ?_)
  refine lv_aload_n E.1 E.2.1 dX5_encodeBlock_171 rfl (lv_at hl 7 rfl) ?_
  refine gf (v := .ref G.2.2.2) E hw in_X5 (ci := 2) rfl 0 rfl 0 (by decide) q179 rfl dX5_encodeBlock_172 ?_
  refine lv_iload E.1 E.2.1 dX5_encodeBlock_175 (lv_at hl 2 rfl) ?_
  refine lv_iconst (v := nI 2) E.1 E.2.1 dX5_encodeBlock_177 (by decide +kernel) ?_
  refine lv_iushr (v := nI ((t (ip + 3)) / 4)) E.1 E.2.1 dX5_encodeBlock_178 (x_ushr (by omega) 2 (by decide +kernel)) ?_
  refine lv_bipush (v := nI 31) E.1 E.2.1 dX5_encodeBlock_179 (by decide +kernel) ?_
  refine lv_iand E.1 E.2.1 dX5_encodeBlock_181 ?_
  refine tv (y := nI (t (ip + 3) / 4 % 32)) (x_m31 (by omega)) ?_
  refine tld E hw (by omega) dX5_encodeBlock_182 ?_
  refine bst (ws' := [(h0, .inr (2, [.ref G.2.2.2, .int (nI 61), .ref dt])), (ib, .inl (G.2.1, nb, .inl (fun j => sb_b (t j)))), (ob, .inl (G.2.1, no, .inl (bk z op (fun r => nI (sgn 2 (v32 (t ip) (t (ip + 1)) (t (ip + 2)) (t (ip + 3)) (t (ip + 4)) r))) 6)))]) E hw 2 rfl (by omega) (by omega) (bk z op (fun r => nI (sgn 2 (v32 (t ip) (t (ip + 1)) (t (ip + 2)) (t (ip + 3)) (t (ip + 4)) r))) 6) (bk_upd rfl (nar_sm _ (sgn_lt (by omega) (fun h => by omega)))) rfl dX5_encodeBlock_183 (fun H locs hw => ?_)
  refine lv_aload_n E.1 E.2.1 dX5_encodeBlock_184 rfl (lv_at hl 9 rfl) ?_
  refine lv_iload E.1 E.2.1 dX5_encodeBlock_185 (lv_at hl 0 rfl) ?_
  refine n_iinc (n := 1) (d := op + 7) (lv' := [(4, .int (nI (op + 7))), (9, .int (nI (t (ip + 4)))), (8, .int (nI (t (ip + 3)))), (2, .int (nI (ip + 4))), (7, .int (nI (t (ip + 2)))), (6, .int (nI (t (ip + 1)))), (5, .int (sb_b (t (ip)))), (0, .ref h0), (1, .ref ib), (3, .ref ob)]) E dX5_encodeBlock_187 hl (k := 0) rfl (by omega) (by decide) rfl (fun ls hl => ?_)
  refine lv_aload_n E.1 E.2.1 dX5_encodeBlock_190 rfl (lv_at hl 7 rfl) ?_
  refine gf (v := .ref G.2.2.2) E hw in_X5 (ci := 2) rfl 0 rfl 0 (by decide) q179 rfl dX5_encodeBlock_191 ?_
  refine lv_iload E.1 E.2.1 dX5_encodeBlock_194 (lv_at hl 2 rfl) ?_
  refine lv_iconst (v := nI 3) E.1 E.2.1 dX5_encodeBlock_196 (by decide +kernel) ?_
  refine lv_ishl E.1 E.2.1 dX5_encodeBlock_197 ?_
  refine lv_iload E.1 E.2.1 dX5_encodeBlock_198 (lv_at hl 1 rfl) ?_
  refine lv_iconst (v := nI 5) E.1 E.2.1 dX5_encodeBlock_200 (by decide +kernel) ?_
  refine lv_iushr (v := nI ((t (ip + 4)) / 32)) E.1 E.2.1 dX5_encodeBlock_201 (x_ushr (by omega) 5 (by decide +kernel)) ?_
  refine lv_ior E.1 E.2.1 dX5_encodeBlock_202 ?_
  refine lv_bipush (v := nI 31) E.1 E.2.1 dX5_encodeBlock_203 (by decide +kernel) ?_
  refine lv_iand E.1 E.2.1 dX5_encodeBlock_205 ?_
  refine tv (y := nI (t (ip + 3) % 4 * 8 + t (ip + 4) / 32)) (x_32d _ hb3 _ (by omega)) ?_
  refine tld E hw (by omega) dX5_encodeBlock_206 ?_
  refine bst (ws' := [(h0, .inr (2, [.ref G.2.2.2, .int (nI 61), .ref dt])), (ib, .inl (G.2.1, nb, .inl (fun j => sb_b (t j)))), (ob, .inl (G.2.1, no, .inl (bk z op (fun r => nI (sgn 2 (v32 (t ip) (t (ip + 1)) (t (ip + 2)) (t (ip + 3)) (t (ip + 4)) r))) 7)))]) E hw 2 rfl (by omega) (by omega) (bk z op (fun r => nI (sgn 2 (v32 (t ip) (t (ip + 1)) (t (ip + 2)) (t (ip + 3)) (t (ip + 4)) r))) 7) (bk_upd rfl (nar_sm _ (sgn_lt (by omega) (fun h => by omega)))) rfl dX5_encodeBlock_207 (fun H locs hw => ?_)
  refine lv_aload_n E.1 E.2.1 dX5_encodeBlock_208 rfl (lv_at hl 9 rfl) ?_
  refine lv_iload E.1 E.2.1 dX5_encodeBlock_209 (lv_at hl 0 rfl) ?_
  refine lv_aload_n E.1 E.2.1 dX5_encodeBlock_211 rfl (lv_at hl 7 rfl) ?_
  refine gf (v := .ref G.2.2.2) E hw in_X5 (ci := 2) rfl 0 rfl 0 (by decide) q179 rfl dX5_encodeBlock_212 ?_
  refine lv_iload E.1 E.2.1 dX5_encodeBlock_215 (lv_at hl 1 rfl) ?_
  refine lv_bipush (v := nI 31) E.1 E.2.1 dX5_encodeBlock_217 (by decide +kernel) ?_
  refine lv_iand E.1 E.2.1 dX5_encodeBlock_219 ?_
  refine tv (y := nI (t (ip + 4) % 32)) (x_m31 (by omega)) ?_
  refine tld E hw (by omega) dX5_encodeBlock_220 ?_
  refine bst (ws' := [(h0, .inr (2, [.ref G.2.2.2, .int (nI 61), .ref dt])), (ib, .inl (G.2.1, nb, .inl (fun j => sb_b (t j)))), (ob, .inl (G.2.1, no, .inl (bk z op (fun r => nI (sgn 2 (v32 (t ip) (t (ip + 1)) (t (ip + 2)) (t (ip + 3)) (t (ip + 4)) r))) 8)))]) E hw 2 rfl (by omega) (by omega) (bk z op (fun r => nI (sgn 2 (v32 (t ip) (t (ip + 1)) (t (ip + 2)) (t (ip + 3)) (t (ip + 4)) r))) 8) (bk_upd rfl (nar_sm _ (sgn_lt (by omega) (fun h => by omega)))) rfl dX5_encodeBlock_221 (fun H locs hw => ?_)
  have hw : Wd G A s [(h0, .inr (2, [.ref G.2.2.2, .int (nI 61), .ref dt])), (ib, .inl (G.2.1, nb, .inl (fun j => sb_b (t j)))), (ob, .inl (G.2.1, no, .inl (bk z op (fun r => nI (sgn 2 (v32 (t ip) (t (ip + 1)) (t (ip + 2)) (t (ip + 3)) (t (ip + 4)) r))) 8)))] H locs := hw.sub [0, 1, 2] (by decide) rfl
  exact ret_v E hw hr hlk (by omega) (by omega) (()) trivial rfl dX5_encodeBlock_222
set_option maxHeartbeats 4000000 in
set_option maxRecDepth 100000 in
/-- Base32Encoder.encode: the letters of the part, padding signs behind -/
theorem m_X5_encode (l : Launch) (G : gg_T) (sz : Nat) (h0 dt ib ob : Nat) (t : Nat → Nat) (fr cn : Nat) (ht : ∀ j, t j < 256) (hfc : fr + cn ≤ 256) : cT_i l yX5_encode (ws_ yX5_encode cX5_encode 11 (some .int)) ({ frames := 1, cells := 1, slots := 5, locals := 32 }) G [(h0, .inr (2, [.ref G.2.2.2, .int (nI 61), .ref dt])), (ib, .inl (G.2.1, 256, .inl (fun j => sb_b (t j)))), (ob, .inl (G.2.1, rmN 2 cn, .inl (fun _ => 0)))] sz [.ref h0, .ref ib, .int (nI fr), .int (nI cn), .ref ob, .int (nI 0)] (S := Unit) (fun r _ => r = nI (rmN 2 cn)) (fun _ => [(h0, .inr (2, [.ref G.2.2.2, .int (nI 61), .ref dt])), (ib, .inl (G.2.1, 256, .inl (fun j => sb_b (t j)))), (ob, .inl (G.2.1, rmN 2 cn, .inl (fun j => nI (letN t 2 fr cn j))))]) 1 5 := by
  refine Met.ofW (cc := cX5_encode) (maxL := 11) (ret := some .int) (by decide) rfl ?_
  intro p e s m args below meth c s₁ B hml hv
  obtain ⟨rfl, hsz, E, hw⟩ := ent_ (own := RX5) B hml rfl hv
  have hr := B.returns
  have hlk := B.notSynchronized
  subst hsz
  clear hv
  generalize va_A [(h0, .inr (2, [.ref G.2.2.2, .int (nI 61), .ref dt])), (ib, .inl (G.2.1, 256, .inl (fun j => sb_b (t j)))), (ob, .inl (G.2.1, rmN 2 cn, .inl (fun _ => 0)))] s.heap.size = A at E hw ⊢
  refine ent_f (Nat.le_of_ble_eq_true rfl) rfl (fun ls hl => ?_)
  have hl : lv_has ls 11 [(0, .ref h0), (1, .ref ib), (2, .int (nI fr)), (3, .int (nI cn)), (4, .ref ob), (5, .int (nI 0))] := hl
  have hrm : rmN 2 cn = (cn + 4) / 5 * 8 := rmN_2 cn
  have loop : ∀ (n : Nat) (g : Nat), 5 * g ≤ cn → cn < 5 * g + 5 * n → ∀ (H : Heap) (locs : List Loc), Wd G A s [(h0, .inr (2, [.ref G.2.2.2, .int (nI 61), .ref dt])), (ib, .inl (G.2.1, 256, .inl (fun j => sb_b (t j)))), (ob, .inl (G.2.1, rmN 2 cn, .inl (bk (fun _ => 0) 0 (fun j => nI (letN t 2 fr cn j)) (8 * g))))] H locs → ∀ (ls : Array Slot), lv_has ls 11 [(0, .ref h0), (1, .ref ib), (2, .int (nI fr)), (3, .int (nI cn)), (4, .ref ob), (5, .int (nI 0)), (6, .int (nI (fr + 5 * g))), (7, .int (nI (fr + cn) - nI 4)), (8, .int (nI (8 * g)))] → W p l e (headSpec (ws_ yX5_encode cX5_encode 11 (some .int)) ({ frames := 1, cells := 1, slots := 5, locals := 32 })).room s m ([.ref h0, .ref ib, .int (nI fr), .int (nI cn), .ref ob, .int (nI 0)] : List Value).toArray below meth c H locs 0 0 (MQ below (va_Qi (S := Unit) (fun r _ => r = nI (rmN 2 cn)) (bw_ G A (fun _ => [(h0, .inr (2, [.ref G.2.2.2, .int (nI 61), .ref dt])), (ib, .inl (G.2.1, 256, .inl (fun j => sb_b (t j)))), (ob, .inl (G.2.1, rmN 2 cn, .inl (fun j => nI (letN t 2 fr cn j))))])) A) ([.ref h0, .ref ib, .int (nI fr), .int (nI cn), .ref ob, .int (nI 0)] : List Value).toArray s 1 5 A) (F0 m 14 ls []) := by
    intro n
    induction n with
    | zero =>
      intro g hi hn
      omega
    | succ n ih =>
      intro g hi hn H locs hw ls hl
      refine lv_iload E.1 E.2.1 dX5_encode_14 (lv_at hl 6 rfl) ?_
      refine lv_iload E.1 E.2.1 dX5_encode_16 (lv_at hl 7 rfl) ?_
      refine lv_icmp_ge (tgt := 41) E.1 E.2.1 dX5_encode_18 (by decide) (fun c_18 => ?_) (fun c_18 => ?_)
      · skip
        have c_18 := (ge_sub (by omega) (by omega) (by omega)).mp c_18
        refine lv_iload_n E.1 E.2.1 dX5_encode_41 rfl (lv_at hl 3 rfl) ?_
        refine lv_iload E.1 E.2.1 dX5_encode_42 (lv_at hl 6 rfl) ?_
        refine lv_iload_n E.1 E.2.1 dX5_encode_44 rfl (lv_at hl 2 rfl) ?_
        refine n_isub (d := 5 * g) E dX5_encode_45 (by omega) ?_
        refine n_isub (d := cn - 5 * g) E dX5_encode_46 (by omega) ?_
        refine lv_istore (lv' := [(9, .int (nI (cn - 5 * g))), (0, .ref h0), (1, .ref ib), (2, .int (nI fr)), (3, .int (nI cn)), (4, .ref ob), (5, .int (nI 0)), (6, .int (nI (fr + 5 * g))), (7, .int (nI (fr + cn) - nI 4)), (8, .int (nI (8 * g)))]) E.1 E.2.1 dX5_encode_47 hl (by decide) rfl (fun ls hl => ?_)
        refine lv_iload E.1 E.2.1 dX5_encode_49 (lv_at hl 0 rfl) ?_
        refine n_if_le (tgt := 285) E dX5_encode_51 (by decide) (by omega) (fun c_51 => ?_) (fun c_51 => ?_)
        · skip
          refine lv_iload E.1 E.2.1 dX5_encode_285 (lv_at hl 9 rfl) ?_
          refine lv_iload E.1 E.2.1 dX5_encode_287 (lv_at hl 6 rfl) ?_
          refine n_isub (d := rmN 2 cn) E dX5_encode_289 (by omega) ?_
          have hw : Wd G A s [(h0, .inr (2, [.ref G.2.2.2, .int (nI 61), .ref dt])), (ib, .inl (G.2.1, 256, .inl (fun j => sb_b (t j)))), (ob, .inl (G.2.1, rmN 2 cn, .inl (fun j => nI (letN t 2 fr cn j))))] H locs := hw.cong 2 rfl (fun j hj => bk_all (by omega)) rfl
          have hw : Wd G A s [(h0, .inr (2, [.ref G.2.2.2, .int (nI 61), .ref dt])), (ib, .inl (G.2.1, 256, .inl (fun j => sb_b (t j)))), (ob, .inl (G.2.1, rmN 2 cn, .inl (fun j => nI (letN t 2 fr cn j))))] H locs := hw.sub [0, 1, 2] (by decide) rfl
          exact ret_i E hw hr hlk (by omega) (by omega) (()) rfl rfl dX5_encode_290
        · skip
          refine lv_iconst (v := nI 5) E.1 E.2.1 dX5_encode_54 (by decide +kernel) ?_
          refine nwb E hw (Nat.le_of_ble_eq_true rfl) (by show _ ≤ 1; omega) (by show _ ≤ 5; omega) dX5_encode_55 (fun nb H hw => ?_)
          have hw : Wd G A s [(h0, .inr (2, [.ref G.2.2.2, .int (nI 61), .ref dt])), (ib, .inl (G.2.1, 256, .inl (fun j => sb_b (t j)))), (ob, .inl (G.2.1, rmN 2 cn, .inl (bk (fun _ => 0) 0 (fun j => nI (letN t 2 fr cn j)) (8 * g)))), (nb, .inl (G.2.1, 5, .inl (fun _ => 0)))] H locs := hw
          refine W.cs (cells' := 1) (slots' := 5) rfl rfl ?_
          refine lv_astore (lv' := [(10, .ref nb), (9, .int (nI (cn - 5 * g))), (0, .ref h0), (1, .ref ib), (2, .int (nI fr)), (3, .int (nI cn)), (4, .ref ob), (5, .int (nI 0)), (6, .int (nI (fr + 5 * g))), (7, .int (nI (fr + cn) - nI 4)), (8, .int (nI (8 * g)))]) E.1 E.2.1 dX5_encode_57 hl (by decide) rfl (fun ls hl => ?_)
          refine lv_aload_n E.1 E.2.1 dX5_encode_59 rfl (lv_at hl 3 rfl) ?_
          refine lv_iload E.1 E.2.1 dX5_encode_60 (lv_at hl 8 rfl) ?_
          refine lv_aload E.1 E.2.1 dX5_encode_62 (lv_at hl 0 rfl) ?_
          refine lv_iconst (v := nI 0) E.1 E.2.1 dX5_encode_64 (by decide +kernel) ?_
          refine lv_iload E.1 E.2.1 dX5_encode_65 (lv_at hl 1 rfl) ?_
          refine acp (ws' := [(h0, .inr (2, [.ref G.2.2.2, .int (nI 61), .ref dt])), (ib, .inl (G.2.1, 256, .inl (fun j => sb_b (t j)))), (ob, .inl (G.2.1, rmN 2 cn, .inl (bk (fun _ => 0) 0 (fun j => nI (letN t 2 fr cn j)) (8 * g)))), (nb, .inl (G.2.1, 5, .inl (fun j => sb_b ((byt t (fr + 5 * g) (cn - 5 * g)) j))))]) E hl.1 hw 1 3 rfl rfl q201 (by omega) (by omega) (by decide) (by decide) (fun i _ => sb_fitB _) (Nat.le_of_ble_eq_true rfl) (Nat.le_of_ble_eq_true rfl) (fun j => sb_b ((byt t (fr + 5 * g) (cn - 5 * g)) j)) (cpy_byt t _ _) rfl dX5_encode_67 (fun H locs hw => ?_)
          refine lv_aload_n E.1 E.2.1 dX5_encode_70 rfl (lv_at hl 2 rfl) ?_
          refine lv_aload E.1 E.2.1 dX5_encode_71 (lv_at hl 0 rfl) ?_
          refine lv_iconst (v := nI 0) E.1 E.2.1 dX5_encode_73 (by decide +kernel) ?_
          refine lv_aload E.1 E.2.1 dX5_encode_74 (lv_at hl 6 rfl) ?_
          refine lv_iload E.1 E.2.1 dX5_encode_76 (lv_at hl 10 rfl) ?_
          refine cl_v (wr := [(ib, .inl (G.2.1, 256, .inl (fun j => sb_b (t j))))]) (va_runV (As := [.ref nb, .int (nI 0), .ref ob, .int (nI (8 * g))]) (rest := []) E.fix (m_X5_encodeBlock l G H.size h0 dt nb ob (byt t (fr + 5 * g) (cn - 5 * g)) (bk (fun _ => 0) 0 (fun j => nI (letN t 2 fr cn j)) (8 * g)) 5 (rmN 2 cn) 0 (8 * g) (byt_lt ht _ _) (by decide) (by decide) (by omega) (by omega)) (cwV 4 E.hts (lw_V q197 q199 qs2 q8 q200) rfl rfl rfl (by decide +kernel) ⟨Nat.le_of_ble_eq_true rfl, Nat.le_of_ble_eq_true rfl⟩) (preV_ok E hw [0, 3, 2] rfl (by decide) 0 rfl (ci := 2) rfl) rfl rfl hl.1 rfl (lv_room (Nat.le_of_ble_eq_true rfl)) dX5_encode_78 ⟨(by show _ ≤ 1; omega), (by show _ ≤ 5; omega)⟩) E hw [0, 3, 2] [1] rfl rfl (by decide) (by decide) (fun u H locs hp hw => ?_)
          have hw : Wd G A s [(ib, .inl (G.2.1, 256, .inl (fun j => sb_b (t j)))), (h0, .inr (2, [.ref G.2.2.2, .int (nI 61), .ref dt])), (nb, .inl (G.2.1, 5, .inl (fun j => sb_b ((byt t (fr + 5 * g) (cn - 5 * g)) j)))), (ob, .inl (G.2.1, rmN 2 cn, .inl (bk (bk (fun _ => 0) 0 (fun j => nI (letN t 2 fr cn j)) (8 * g)) (8 * g) (fun r => nI (sgn 2 (v32 ((byt t (fr + 5 * g) (cn - 5 * g)) (0)) ((byt t (fr + 5 * g) (cn - 5 * g)) (0 + 1)) ((byt t (fr + 5 * g) (cn - 5 * g)) (0 + 2)) ((byt t (fr + 5 * g) (cn - 5 * g)) (0 + 3)) ((byt t (fr + 5 * g) (cn - 5 * g)) (0 + 4)) r))) 8)))] H locs := hw
          refine W.cs (cells' := 1) (slots' := 5) rfl rfl ?_
          refine lv_iload E.1 E.2.1 dX5_encode_81 (lv_at hl 1 rfl) ?_
          have hy0 : byt t fr cn (5 * g + 0) = (byt t (fr + 5 * g) (cn - 5 * g)) 0 := by unfold byt; by_cases q : 0 < cn - 5 * g; (rw [if_pos q, if_pos (by omega)]; exact congrArg t (by omega)); (rw [if_neg q, if_neg (by omega)])
          have hy1 : byt t fr cn (5 * g + 1) = (byt t (fr + 5 * g) (cn - 5 * g)) 1 := by unfold byt; by_cases q : 1 < cn - 5 * g; (rw [if_pos q, if_pos (by omega)]; exact congrArg t (by omega)); (rw [if_neg q, if_neg (by omega)])
          have hy2 : byt t fr cn (5 * g + 2) = (byt t (fr + 5 * g) (cn - 5 * g)) 2 := by unfold byt; by_cases q : 2 < cn - 5 * g; (rw [if_pos q, if_pos (by omega)]; exact congrArg t (by omega)); (rw [if_neg q, if_neg (by omega)])
          have hy3 : byt t fr cn (5 * g + 3) = (byt t (fr + 5 * g) (cn - 5 * g)) 3 := by unfold byt; by_cases q : 3 < cn - 5 * g; (rw [if_pos q, if_pos (by omega)]; exact congrArg t (by omega)); (rw [if_neg q, if_neg (by omega)])
          have hy4 : byt t fr cn (5 * g + 4) = (byt t (fr + 5 * g) (cn - 5 * g)) 4 := by unfold byt; by_cases q : 4 < cn - 5 * g; (rw [if_pos q, if_pos (by omega)]; exact congrArg t (by omega)); (rw [if_neg q, if_neg (by omega)])
          rcases (by omega : cn - 5 * g = 1 ∨ cn - 5 * g = 2 ∨ cn - 5 * g = 3 ∨ cn - 5 * g = 4) with h | h | h | h
          · skip
            refine tv (y := nI 1) (by rw [h]) ?_
            refine lv_tableIn (off := 29) (tgt := 112) E.1 E.2.1 dX5_encode_83 (by decide +kernel) (by decide +kernel) (by decide +kernel) (by decide) ?_
            refine lv_aload E.1 E.2.1 dX5_encode_112 (lv_at hl 6 rfl) ?_
            refine lv_iload E.1 E.2.1 dX5_encode_114 (lv_at hl 10 rfl) ?_
            refine lv_iconst (v := nI 2) E.1 E.2.1 dX5_encode_116 (by decide +kernel) ?_
            refine n_iadd (d := 8 * g + 2) E dX5_encode_117 rfl ?_
            refine lv_aload_n E.1 E.2.1 dX5_encode_118 rfl (lv_at hl 2 rfl) ?_
            refine gf (v := .int (nI 61)) E hw in_X5 (ci := 2) rfl 1 rfl 1 (by decide) q180 rfl dX5_encode_119 ?_
            refine bst (ws' := [(ib, .inl (G.2.1, 256, .inl (fun j => sb_b (t j)))), (h0, .inr (2, [.ref G.2.2.2, .int (nI 61), .ref dt])), (nb, .inl (G.2.1, 5, .inl (fun j => sb_b ((byt t (fr + 5 * g) (cn - 5 * g)) j)))), (ob, .inl (G.2.1, rmN 2 cn, .inl (bk (bk (fun _ => 0) 0 (fun j => nI (letN t 2 fr cn j)) (8 * g)) (8 * g) (upd (fun r => nI (sgn 2 (v32 ((byt t (fr + 5 * g) (cn - 5 * g)) (0)) ((byt t (fr + 5 * g) (cn - 5 * g)) (0 + 1)) ((byt t (fr + 5 * g) (cn - 5 * g)) (0 + 2)) ((byt t (fr + 5 * g) (cn - 5 * g)) (0 + 3)) ((byt t (fr + 5 * g) (cn - 5 * g)) (0 + 4)) r))) 2 (nI 61)) 8)))]) E hw 3 rfl (by omega) (by omega) (bk (bk (fun _ => 0) 0 (fun j => nI (letN t 2 fr cn j)) (8 * g)) (8 * g) (upd (fun r => nI (sgn 2 (v32 ((byt t (fr + 5 * g) (cn - 5 * g)) (0)) ((byt t (fr + 5 * g) (cn - 5 * g)) (0 + 1)) ((byt t (fr + 5 * g) (cn - 5 * g)) (0 + 2)) ((byt t (fr + 5 * g) (cn - 5 * g)) (0 + 3)) ((byt t (fr + 5 * g) (cn - 5 * g)) (0 + 4)) r))) 2 (nI 61)) 8) (bk_set (r := 2) rfl (by decide) (by decide +kernel)) rfl dX5_encode_122 (fun H locs hw => ?_)
            refine lv_aload E.1 E.2.1 dX5_encode_123 (lv_at hl 6 rfl) ?_
            refine lv_iload E.1 E.2.1 dX5_encode_125 (lv_at hl 10 rfl) ?_
            refine lv_iconst (v := nI 3) E.1 E.2.1 dX5_encode_127 (by decide +kernel) ?_
            refine n_iadd (d := 8 * g + 3) E dX5_encode_128 rfl ?_
            refine lv_aload_n E.1 E.2.1 dX5_encode_129 rfl (lv_at hl 2 rfl) ?_
            refine gf (v := .int (nI 61)) E hw in_X5 (ci := 2) rfl 1 rfl 1 (by decide) q180 rfl dX5_encode_130 ?_
            refine bst (ws' := [(ib, .inl (G.2.1, 256, .inl (fun j => sb_b (t j)))), (h0, .inr (2, [.ref G.2.2.2, .int (nI 61), .ref dt])), (nb, .inl (G.2.1, 5, .inl (fun j => sb_b ((byt t (fr + 5 * g) (cn - 5 * g)) j)))), (ob, .inl (G.2.1, rmN 2 cn, .inl (bk (bk (fun _ => 0) 0 (fun j => nI (letN t 2 fr cn j)) (8 * g)) (8 * g) (upd (upd (fun r => nI (sgn 2 (v32 ((byt t (fr + 5 * g) (cn - 5 * g)) (0)) ((byt t (fr + 5 * g) (cn - 5 * g)) (0 + 1)) ((byt t (fr + 5 * g) (cn - 5 * g)) (0 + 2)) ((byt t (fr + 5 * g) (cn - 5 * g)) (0 + 3)) ((byt t (fr + 5 * g) (cn - 5 * g)) (0 + 4)) r))) 2 (nI 61)) 3 (nI 61)) 8)))]) E hw 3 rfl (by omega) (by omega) (bk (bk (fun _ => 0) 0 (fun j => nI (letN t 2 fr cn j)) (8 * g)) (8 * g) (upd (upd (fun r => nI (sgn 2 (v32 ((byt t (fr + 5 * g) (cn - 5 * g)) (0)) ((byt t (fr + 5 * g) (cn - 5 * g)) (0 + 1)) ((byt t (fr + 5 * g) (cn - 5 * g)) (0 + 2)) ((byt t (fr + 5 * g) (cn - 5 * g)) (0 + 3)) ((byt t (fr + 5 * g) (cn - 5 * g)) (0 + 4)) r))) 2 (nI 61)) 3 (nI 61)) 8) (bk_set (r := 3) rfl (by decide) (by decide +kernel)) rfl dX5_encode_133 (fun H locs hw => ?_)
            refine lv_aload E.1 E.2.1 dX5_encode_134 (lv_at hl 6 rfl) ?_
            refine lv_iload E.1 E.2.1 dX5_encode_136 (lv_at hl 10 rfl) ?_
            refine lv_iconst (v := nI 4) E.1 E.2.1 dX5_encode_138 (by decide +kernel) ?_
            refine n_iadd (d := 8 * g + 4) E dX5_encode_139 rfl ?_
            refine lv_aload_n E.1 E.2.1 dX5_encode_140 rfl (lv_at hl 2 rfl) ?_
            refine gf (v := .int (nI 61)) E hw in_X5 (ci := 2) rfl 1 rfl 1 (by decide) q180 rfl dX5_encode_141 ?_
            refine bst (ws' := [(ib, .inl (G.2.1, 256, .inl (fun j => sb_b (t j)))), (h0, .inr (2, [.ref G.2.2.2, .int (nI 61), .ref dt])), (nb, .inl (G.2.1, 5, .inl (fun j => sb_b ((byt t (fr + 5 * g) (cn - 5 * g)) j)))), (ob, .inl (G.2.1, rmN 2 cn, .inl (bk (bk (fun _ => 0) 0 (fun j => nI (letN t 2 fr cn j)) (8 * g)) (8 * g) (upd (upd (upd (fun r => nI (sgn 2 (v32 ((byt t (fr + 5 * g) (cn - 5 * g)) (0)) ((byt t (fr + 5 * g) (cn - 5 * g)) (0 + 1)) ((byt t (fr + 5 * g) (cn - 5 * g)) (0 + 2)) ((byt t (fr + 5 * g) (cn - 5 * g)) (0 + 3)) ((byt t (fr + 5 * g) (cn - 5 * g)) (0 + 4)) r))) 2 (nI 61)) 3 (nI 61)) 4 (nI 61)) 8)))]) E hw 3 rfl (by omega) (by omega) (bk (bk (fun _ => 0) 0 (fun j => nI (letN t 2 fr cn j)) (8 * g)) (8 * g) (upd (upd (upd (fun r => nI (sgn 2 (v32 ((byt t (fr + 5 * g) (cn - 5 * g)) (0)) ((byt t (fr + 5 * g) (cn - 5 * g)) (0 + 1)) ((byt t (fr + 5 * g) (cn - 5 * g)) (0 + 2)) ((byt t (fr + 5 * g) (cn - 5 * g)) (0 + 3)) ((byt t (fr + 5 * g) (cn - 5 * g)) (0 + 4)) r))) 2 (nI 61)) 3 (nI 61)) 4 (nI 61)) 8) (bk_set (r := 4) rfl (by decide) (by decide +kernel)) rfl dX5_encode_144 (fun H locs hw => ?_)
            refine lv_aload E.1 E.2.1 dX5_encode_145 (lv_at hl 6 rfl) ?_
            refine lv_iload E.1 E.2.1 dX5_encode_147 (lv_at hl 10 rfl) ?_
            refine lv_iconst (v := nI 5) E.1 E.2.1 dX5_encode_149 (by decide +kernel) ?_
            refine n_iadd (d := 8 * g + 5) E dX5_encode_150 rfl ?_
            refine lv_aload_n E.1 E.2.1 dX5_encode_151 rfl (lv_at hl 2 rfl) ?_
            refine gf (v := .int (nI 61)) E hw in_X5 (ci := 2) rfl 1 rfl 1 (by decide) q180 rfl dX5_encode_152 ?_
            refine bst (ws' := [(ib, .inl (G.2.1, 256, .inl (fun j => sb_b (t j)))), (h0, .inr (2, [.ref G.2.2.2, .int (nI 61), .ref dt])), (nb, .inl (G.2.1, 5, .inl (fun j => sb_b ((byt t (fr + 5 * g) (cn - 5 * g)) j)))), (ob, .inl (G.2.1, rmN 2 cn, .inl (bk (bk (fun _ => 0) 0 (fun j => nI (letN t 2 fr cn j)) (8 * g)) (8 * g) (upd (upd (upd (upd (fun r => nI (sgn 2 (v32 ((byt t (fr + 5 * g) (cn - 5 * g)) (0)) ((byt t (fr + 5 * g) (cn - 5 * g)) (0 + 1)) ((byt t (fr + 5 * g) (cn - 5 * g)) (0 + 2)) ((byt t (fr + 5 * g) (cn - 5 * g)) (0 + 3)) ((byt t (fr + 5 * g) (cn - 5 * g)) (0 + 4)) r))) 2 (nI 61)) 3 (nI 61)) 4 (nI 61)) 5 (nI 61)) 8)))]) E hw 3 rfl (by omega) (by omega) (bk (bk (fun _ => 0) 0 (fun j => nI (letN t 2 fr cn j)) (8 * g)) (8 * g) (upd (upd (upd (upd (fun r => nI (sgn 2 (v32 ((byt t (fr + 5 * g) (cn - 5 * g)) (0)) ((byt t (fr + 5 * g) (cn - 5 * g)) (0 + 1)) ((byt t (fr + 5 * g) (cn - 5 * g)) (0 + 2)) ((byt t (fr + 5 * g) (cn - 5 * g)) (0 + 3)) ((byt t (fr + 5 * g) (cn - 5 * g)) (0 + 4)) r))) 2 (nI 61)) 3 (nI 61)) 4 (nI 61)) 5 (nI 61)) 8) (bk_set (r := 5) rfl (by decide) (by decide +kernel)) rfl dX5_encode_155 (fun H locs hw => ?_)
            refine lv_aload E.1 E.2.1 dX5_encode_156 (lv_at hl 6 rfl) ?_
            refine lv_iload E.1 E.2.1 dX5_encode_158 (lv_at hl 10 rfl) ?_
            refine lv_bipush (v := nI 6) E.1 E.2.1 dX5_encode_160 (by decide +kernel) ?_
            refine n_iadd (d := 8 * g + 6) E dX5_encode_162 rfl ?_
            refine lv_aload_n E.1 E.2.1 dX5_encode_163 rfl (lv_at hl 2 rfl) ?_
            refine gf (v := .int (nI 61)) E hw in_X5 (ci := 2) rfl 1 rfl 1 (by decide) q180 rfl dX5_encode_164 ?_
            refine bst (ws' := [(ib, .inl (G.2.1, 256, .inl (fun j => sb_b (t j)))), (h0, .inr (2, [.ref G.2.2.2, .int (nI 61), .ref dt])), (nb, .inl (G.2.1, 5, .inl (fun j => sb_b ((byt t (fr + 5 * g) (cn - 5 * g)) j)))), (ob, .inl (G.2.1, rmN 2 cn, .inl (bk (bk (fun _ => 0) 0 (fun j => nI (letN t 2 fr cn j)) (8 * g)) (8 * g) (upd (upd (upd (upd (upd (fun r => nI (sgn 2 (v32 ((byt t (fr + 5 * g) (cn - 5 * g)) (0)) ((byt t (fr + 5 * g) (cn - 5 * g)) (0 + 1)) ((byt t (fr + 5 * g) (cn - 5 * g)) (0 + 2)) ((byt t (fr + 5 * g) (cn - 5 * g)) (0 + 3)) ((byt t (fr + 5 * g) (cn - 5 * g)) (0 + 4)) r))) 2 (nI 61)) 3 (nI 61)) 4 (nI 61)) 5 (nI 61)) 6 (nI 61)) 8)))]) E hw 3 rfl (by omega) (by omega) (bk (bk (fun _ => 0) 0 (fun j => nI (letN t 2 fr cn j)) (8 * g)) (8 * g) (upd (upd (upd (upd (upd (fun r => nI (sgn 2 (v32 ((byt t (fr + 5 * g) (cn - 5 * g)) (0)) ((byt t (fr + 5 * g) (cn - 5 * g)) (0 + 1)) ((byt t (fr + 5 * g) (cn - 5 * g)) (0 + 2)) ((byt t (fr + 5 * g) (cn - 5 * g)) (0 + 3)) ((byt t (fr + 5 * g) (cn - 5 * g)) (0 + 4)) r))) 2 (nI 61)) 3 (nI 61)) 4 (nI 61)) 5 (nI 61)) 6 (nI 61)) 8) (bk_set (r := 6) rfl (by decide) (by decide +kernel)) rfl dX5_encode_167 (fun H locs hw => ?_)
            refine lv_aload E.1 E.2.1 dX5_encode_168 (lv_at hl 6 rfl) ?_
            refine lv_iload E.1 E.2.1 dX5_encode_170 (lv_at hl 10 rfl) ?_
            refine lv_bipush (v := nI 7) E.1 E.2.1 dX5_encode_172 (by decide +kernel) ?_
            refine n_iadd (d := 8 * g + 7) E dX5_encode_174 rfl ?_
            refine lv_aload_n E.1 E.2.1 dX5_encode_175 rfl (lv_at hl 2 rfl) ?_
            refine gf (v := .int (nI 61)) E hw in_X5 (ci := 2) rfl 1 rfl 1 (by decide) q180 rfl dX5_encode_176 ?_
            refine bst (ws' := [(ib, .inl (G.2.1, 256, .inl (fun j => sb_b (t j)))), (h0, .inr (2, [.ref G.2.2.2, .int (nI 61), .ref dt])), (nb, .inl (G.2.1, 5, .inl (fun j => sb_b ((byt t (fr + 5 * g) (cn - 5 * g)) j)))), (ob, .inl (G.2.1, rmN 2 cn, .inl (bk (bk (fun _ => 0) 0 (fun j => nI (letN t 2 fr cn j)) (8 * g)) (8 * g) (upd (upd (upd (upd (upd (upd (fun r => nI (sgn 2 (v32 ((byt t (fr + 5 * g) (cn - 5 * g)) (0)) ((byt t (fr + 5 * g) (cn - 5 * g)) (0 + 1)) ((byt t (fr + 5 * g) (cn - 5 * g)) (0 + 2)) ((byt t (fr + 5 * g) (cn - 5 * g)) (0 + 3)) ((byt t (fr + 5 * g) (cn - 5 * g)) (0 + 4)) r))) 2 (nI 61)) 3 (nI 61)) 4 (nI 61)) 5 (nI 61)) 6 (nI 61)) 7 (nI 61)) 8)))]) E hw 3 rfl (by omega) (by omega) (bk (bk (fun _ => 0) 0 (fun j => nI (letN t 2 fr cn j)) (8 * g)) (8 * g) (upd (upd (upd (upd (upd (upd (fun r => nI (sgn 2 (v32 ((byt t (fr + 5 * g) (cn - 5 * g)) (0)) ((byt t (fr + 5 * g) (cn - 5 * g)) (0 + 1)) ((byt t (fr + 5 * g) (cn - 5 * g)) (0 + 2)) ((byt t (fr + 5 * g) (cn - 5 * g)) (0 + 3)) ((byt t (fr + 5 * g) (cn - 5 * g)) (0 + 4)) r))) 2 (nI 61)) 3 (nI 61)) 4 (nI 61)) 5 (nI 61)) 6 (nI 61)) 7 (nI 61)) 8) (bk_set (r := 7) rfl (by decide) (by decide +kernel)) rfl dX5_encode_179 (fun H locs hw => ?_)
            refine lv_goto (tgt := 282) E.1 E.2.1 dX5_encode_180 (by decide) ?_
            refine n_iinc (n := 8) (d := 8 * g + 8) (lv' := [(8, .int (nI (8 * g + 8))), (10, .ref nb), (9, .int (nI (cn - 5 * g))), (0, .ref h0), (1, .ref ib), (2, .int (nI fr)), (3, .int (nI cn)), (4, .ref ob), (5, .int (nI 0)), (6, .int (nI (fr + 5 * g))), (7, .int (nI (fr + cn) - nI 4))]) E dX5_encode_282 hl (k := 10) rfl rfl (by decide) rfl (fun ls hl => ?_)
            have hl0 : letN t 2 fr cn (8 * g + 0) = sgn 2 (v32 ((byt t (fr + 5 * g) (cn - 5 * g)) 0) ((byt t (fr + 5 * g) (cn - 5 * g)) 1) ((byt t (fr + 5 * g) (cn - 5 * g)) 2) ((byt t (fr + 5 * g) (cn - 5 * g)) 3) ((byt t (fr + 5 * g) (cn - 5 * g)) 4) 0) := by have e := let32 (t := t) ht (f := fr) (c := cn) (g := g) (r := 0) (by decide) (by omega); rw [hy0, hy1, hy2, hy3, hy4] at e; exact e
            have hl1 : letN t 2 fr cn (8 * g + 1) = sgn 2 (v32 ((byt t (fr + 5 * g) (cn - 5 * g)) 0) ((byt t (fr + 5 * g) (cn - 5 * g)) 1) ((byt t (fr + 5 * g) (cn - 5 * g)) 2) ((byt t (fr + 5 * g) (cn - 5 * g)) 3) ((byt t (fr + 5 * g) (cn - 5 * g)) 4) 1) := by have e := let32 (t := t) ht (f := fr) (c := cn) (g := g) (r := 1) (by decide) (by omega); rw [hy0, hy1, hy2, hy3, hy4] at e; exact e
            have hl2 : letN t 2 fr cn (8 * g + 2) = 61 := pad32 (by omega)
            have hl3 : letN t 2 fr cn (8 * g + 3) = 61 := pad32 (by omega)
            have hl4 : letN t 2 fr cn (8 * g + 4) = 61 := pad32 (by omega)
            have hl5 : letN t 2 fr cn (8 * g + 5) = 61 := pad32 (by omega)
            have hl6 : letN t 2 fr cn (8 * g + 6) = 61 := pad32 (by omega)
            have hl7 : letN t 2 fr cn (8 * g + 7) = 61 := pad32 (by omega)
            have hall : ∀ j, j < 8 → (fun j => nI (letN t 2 fr cn j)) (8 * g + j) = (upd (upd (upd (upd (upd (upd (fun r => nI (sgn 2 (v32 ((byt t (fr + 5 * g) (cn - 5 * g)) (0)) ((byt t (fr + 5 * g) (cn - 5 * g)) (0 + 1)) ((byt t (fr + 5 * g) (cn - 5 * g)) (0 + 2)) ((byt t (fr + 5 * g) (cn - 5 * g)) (0 + 3)) ((byt t (fr + 5 * g) (cn - 5 * g)) (0 + 4)) r))) 2 (nI 61)) 3 (nI 61)) 4 (nI 61)) 5 (nI 61)) 6 (nI 61)) 7 (nI 61)) j := by
              intro j hj
              rcases (by omega : j = 0 ∨ j = 1 ∨ j = 2 ∨ j = 3 ∨ j = 4 ∨ j = 5 ∨ j = 6 ∨ j = 7) with rfl | rfl | rfl | rfl | rfl | rfl | rfl | rfl
              · exact congrArg nI hl0
              · exact congrArg nI hl1
              · exact congrArg nI hl2
              · exact congrArg nI hl3
              · exact congrArg nI hl4
              · exact congrArg nI hl5
              · exact congrArg nI hl6
              · exact congrArg nI hl7
            have hw : Wd G A s [(ib, .inl (G.2.1, 256, .inl (fun j => sb_b (t j)))), (h0, .inr (2, [.ref G.2.2.2, .int (nI 61), .ref dt])), (nb, .inl (G.2.1, 5, .inl (fun j => sb_b ((byt t (fr + 5 * g) (cn - 5 * g)) j)))), (ob, .inl (G.2.1, rmN 2 cn, .inl (bk (fun _ => 0) 0 (fun j => nI (letN t 2 fr cn j)) (8 * g + 8))))] H locs := hw.cong 3 rfl (fun j _ => congrFun (show (bk (bk (fun _ => 0) 0 (fun j => nI (letN t 2 fr cn j)) (8 * g)) (8 * g) (upd (upd (upd (upd (upd (upd (fun r => nI (sgn 2 (v32 ((byt t (fr + 5 * g) (cn - 5 * g)) (0)) ((byt t (fr + 5 * g) (cn - 5 * g)) (0 + 1)) ((byt t (fr + 5 * g) (cn - 5 * g)) (0 + 2)) ((byt t (fr + 5 * g) (cn - 5 * g)) (0 + 3)) ((byt t (fr + 5 * g) (cn - 5 * g)) (0 + 4)) r))) 2 (nI 61)) 3 (nI 61)) 4 (nI 61)) 5 (nI 61)) 6 (nI 61)) 7 (nI 61)) 8) = (bk (fun _ => 0) 0 (fun j => nI (letN t 2 fr cn j)) (8 * g + 8)) from (bk_bk0 _ _ _ _ (8 * g) 8 (fun _ _ => rfl) hall)) j) rfl
            have hrm8 : rmN 2 cn = 8 * g + 8 := by omega
            refine lv_iload E.1 E.2.1 dX5_encode_285 (lv_at hl 0 rfl) ?_
            refine lv_iload E.1 E.2.1 dX5_encode_287 (lv_at hl 8 rfl) ?_
            refine n_isub (d := rmN 2 cn) E dX5_encode_289 (by omega) ?_
            have hw : Wd G A s [(ib, .inl (G.2.1, 256, .inl (fun j => sb_b (t j)))), (h0, .inr (2, [.ref G.2.2.2, .int (nI 61), .ref dt])), (nb, .inl (G.2.1, 5, .inl (fun j => sb_b ((byt t (fr + 5 * g) (cn - 5 * g)) j)))), (ob, .inl (G.2.1, rmN 2 cn, .inl (fun j => nI (letN t 2 fr cn j))))] H locs := hw.cong 3 rfl (fun j hj => bk_all (by omega)) rfl
            have hw : Wd G A s [(h0, .inr (2, [.ref G.2.2.2, .int (nI 61), .ref dt])), (ib, .inl (G.2.1, 256, .inl (fun j => sb_b (t j)))), (ob, .inl (G.2.1, rmN 2 cn, .inl (fun j => nI (letN t 2 fr cn j))))] H locs := hw.sub [1, 0, 3] (by decide) rfl
            exact ret_i E hw hr hlk (by omega) (by omega) (()) rfl rfl dX5_encode_290
          · skip
            refine tv (y := nI 2) (by rw [h]) ?_
            refine lv_tableIn (off := 100) (tgt := 183) E.1 E.2.1 dX5_encode_83 (by decide +kernel) (by decide +kernel) (by decide +kernel) (by decide) ?_
            refine lv_aload E.1 E.2.1 dX5_encode_183 (lv_at hl 6 rfl) ?_
            refine lv_iload E.1 E.2.1 dX5_encode_185 (lv_at hl 10 rfl) ?_
            refine lv_iconst (v := nI 4) E.1 E.2.1 dX5_encode_187 (by decide +kernel) ?_
            refine n_iadd (d := 8 * g + 4) E dX5_encode_188 rfl ?_
            refine lv_aload_n E.1 E.2.1 dX5_encode_189 rfl (lv_at hl 2 rfl) ?_
            refine gf (v := .int (nI 61)) E hw in_X5 (ci := 2) rfl 1 rfl 1 (by decide) q180 rfl dX5_encode_190 ?_
            refine bst (ws' := [(ib, .inl (G.2.1, 256, .inl (fun j => sb_b (t j)))), (h0, .inr (2, [.ref G.2.2.2, .int (nI 61), .ref dt])), (nb, .inl (G.2.1, 5, .inl (fun j => sb_b ((byt t (fr + 5 * g) (cn - 5 * g)) j)))), (ob, .inl (G.2.1, rmN 2 cn, .inl (bk (bk (fun _ => 0) 0 (fun j => nI (letN t 2 fr cn j)) (8 * g)) (8 * g) (upd (fun r => nI (sgn 2 (v32 ((byt t (fr + 5 * g) (cn - 5 * g)) (0)) ((byt t (fr + 5 * g) (cn - 5 * g)) (0 + 1)) ((byt t (fr + 5 * g) (cn - 5 * g)) (0 + 2)) ((byt t (fr + 5 * g) (cn - 5 * g)) (0 + 3)) ((byt t (fr + 5 * g) (cn - 5 * g)) (0 + 4)) r))) 4 (nI 61)) 8)))]) E hw 3 rfl (by omega) (by omega) (bk (bk (fun _ => 0) 0 (fun j => nI (letN t 2 fr cn j)) (8 * g)) (8 * g) (upd (fun r => nI (sgn 2 (v32 ((byt t (fr + 5 * g) (cn - 5 * g)) (0)) ((byt t (fr + 5 * g) (cn - 5 * g)) (0 + 1)) ((byt t (fr + 5 * g) (cn - 5 * g)) (0 + 2)) ((byt t (fr + 5 * g) (cn - 5 * g)) (0 + 3)) ((byt t (fr + 5 * g) (cn - 5 * g)) (0 + 4)) r))) 4 (nI 61)) 8) (bk_set (r := 4) rfl (by decide) (by decide +kernel)) rfl dX5_encode_193 (fun H locs hw => ?_)
            refine lv_aload E.1 E.2.1 dX5_encode_194 (lv_at hl 6 rfl) ?_
            refine lv_iload E.1 E.2.1 dX5_encode_196 (lv_at hl 10 rfl) ?_
            refine lv_iconst (v := nI 5) E.1 E.2.1 dX5_encode_198 (by decide +kernel) ?_
            refine n_iadd (d := 8 * g + 5) E dX5_encode_199 rfl ?_
            refine lv_aload_n E.1 E.2.1 dX5_encode_200 rfl (lv_at hl 2 rfl) ?_
            refine gf (v := .int (nI 61)) E hw in_X5 (ci := 2) rfl 1 rfl 1 (by decide) q180 rfl dX5_encode_201 ?_
            refine bst (ws' := [(ib, .inl (G.2.1, 256, .inl (fun j => sb_b (t j)))), (h0, .inr (2, [.ref G.2.2.2, .int (nI 61), .ref dt])), (nb, .inl (G.2.1, 5, .inl (fun j => sb_b ((byt t (fr + 5 * g) (cn - 5 * g)) j)))), (ob, .inl (G.2.1, rmN 2 cn, .inl (bk (bk (fun _ => 0) 0 (fun j => nI (letN t 2 fr cn j)) (8 * g)) (8 * g) (upd (upd (fun r => nI (sgn 2 (v32 ((byt t (fr + 5 * g) (cn - 5 * g)) (0)) ((byt t (fr + 5 * g) (cn - 5 * g)) (0 + 1)) ((byt t (fr + 5 * g) (cn - 5 * g)) (0 + 2)) ((byt t (fr + 5 * g) (cn - 5 * g)) (0 + 3)) ((byt t (fr + 5 * g) (cn - 5 * g)) (0 + 4)) r))) 4 (nI 61)) 5 (nI 61)) 8)))]) E hw 3 rfl (by omega) (by omega) (bk (bk (fun _ => 0) 0 (fun j => nI (letN t 2 fr cn j)) (8 * g)) (8 * g) (upd (upd (fun r => nI (sgn 2 (v32 ((byt t (fr + 5 * g) (cn - 5 * g)) (0)) ((byt t (fr + 5 * g) (cn - 5 * g)) (0 + 1)) ((byt t (fr + 5 * g) (cn - 5 * g)) (0 + 2)) ((byt t (fr + 5 * g) (cn - 5 * g)) (0 + 3)) ((byt t (fr + 5 * g) (cn - 5 * g)) (0 + 4)) r))) 4 (nI 61)) 5 (nI 61)) 8) (bk_set (r := 5) rfl (by decide) (by decide +kernel)) rfl dX5_encode_204 (fun H locs hw => ?_)
            refine lv_aload E.1 E.2.1 dX5_encode_205 (lv_at hl 6 rfl) ?_
            refine lv_iload E.1 E.2.1 dX5_encode_207 (lv_at hl 10 rfl) ?_
            refine lv_bipush (v := nI 6) E.1 E.2.1 dX5_encode_209 (by decide +kernel) ?_
            refine n_iadd (d := 8 * g + 6) E dX5_encode_211 rfl ?_
            refine lv_aload_n E.1 E.2.1 dX5_encode_212 rfl (lv_at hl 2 rfl) ?_
            refine gf (v := .int (nI 61)) E hw in_X5 (ci := 2) rfl 1 rfl 1 (by decide) q180 rfl dX5_encode_213 ?_
            refine bst (ws' := [(ib, .inl (G.2.1, 256, .inl (fun j => sb_b (t j)))), (h0, .inr (2, [.ref G.2.2.2, .int (nI 61), .ref dt])), (nb, .inl (G.2.1, 5, .inl (fun j => sb_b ((byt t (fr + 5 * g) (cn - 5 * g)) j)))), (ob, .inl (G.2.1, rmN 2 cn, .inl (bk (bk (fun _ => 0) 0 (fun j => nI (letN t 2 fr cn j)) (8 * g)) (8 * g) (upd (upd (upd (fun r => nI (sgn 2 (v32 ((byt t (fr + 5 * g) (cn - 5 * g)) (0)) ((byt t (fr + 5 * g) (cn - 5 * g)) (0 + 1)) ((byt t (fr + 5 * g) (cn - 5 * g)) (0 + 2)) ((byt t (fr + 5 * g) (cn - 5 * g)) (0 + 3)) ((byt t (fr + 5 * g) (cn - 5 * g)) (0 + 4)) r))) 4 (nI 61)) 5 (nI 61)) 6 (nI 61)) 8)))]) E hw 3 rfl (by omega) (by omega) (bk (bk (fun _ => 0) 0 (fun j => nI (letN t 2 fr cn j)) (8 * g)) (8 * g) (upd (upd (upd (fun r => nI (sgn 2 (v32 ((byt t (fr + 5 * g) (cn - 5 * g)) (0)) ((byt t (fr + 5 * g) (cn - 5 * g)) (0 + 1)) ((byt t (fr + 5 * g) (cn - 5 * g)) (0 + 2)) ((byt t (fr + 5 * g) (cn - 5 * g)) (0 + 3)) ((byt t (fr + 5 * g) (cn - 5 * g)) (0 + 4)) r))) 4 (nI 61)) 5 (nI 61)) 6 (nI 61)) 8) (bk_set (r := 6) rfl (by decide) (by decide +kernel)) rfl dX5_encode_216 (fun H locs hw => ?_)
            refine lv_aload E.1 E.2.1 dX5_encode_217 (lv_at hl 6 rfl) ?_
            refine lv_iload E.1 E.2.1 dX5_encode_219 (lv_at hl 10 rfl) ?_
            refine lv_bipush (v := nI 7) E.1 E.2.1 dX5_encode_221 (by decide +kernel) ?_
            refine n_iadd (d := 8 * g + 7) E dX5_encode_223 rfl ?_
            refine lv_aload_n E.1 E.2.1 dX5_encode_224 rfl (lv_at hl 2 rfl) ?_
            refine gf (v := .int (nI 61)) E hw in_X5 (ci := 2) rfl 1 rfl 1 (by decide) q180 rfl dX5_encode_225 ?_
            refine bst (ws' := [(ib, .inl (G.2.1, 256, .inl (fun j => sb_b (t j)))), (h0, .inr (2, [.ref G.2.2.2, .int (nI 61), .ref dt])), (nb, .inl (G.2.1, 5, .inl (fun j => sb_b ((byt t (fr + 5 * g) (cn - 5 * g)) j)))), (ob, .inl (G.2.1, rmN 2 cn, .inl (bk (bk (fun _ => 0) 0 (fun j => nI (letN t 2 fr cn j)) (8 * g)) (8 * g) (upd (upd (upd (upd (fun r => nI (sgn 2 (v32 ((byt t (fr + 5 * g) (cn - 5 * g)) (0)) ((byt t (fr + 5 * g) (cn - 5 * g)) (0 + 1)) ((byt t (fr + 5 * g) (cn - 5 * g)) (0 + 2)) ((byt t (fr + 5 * g) (cn - 5 * g)) (0 + 3)) ((byt t (fr + 5 * g) (cn - 5 * g)) (0 + 4)) r))) 4 (nI 61)) 5 (nI 61)) 6 (nI 61)) 7 (nI 61)) 8)))]) E hw 3 rfl (by omega) (by omega) (bk (bk (fun _ => 0) 0 (fun j => nI (letN t 2 fr cn j)) (8 * g)) (8 * g) (upd (upd (upd (upd (fun r => nI (sgn 2 (v32 ((byt t (fr + 5 * g) (cn - 5 * g)) (0)) ((byt t (fr + 5 * g) (cn - 5 * g)) (0 + 1)) ((byt t (fr + 5 * g) (cn - 5 * g)) (0 + 2)) ((byt t (fr + 5 * g) (cn - 5 * g)) (0 + 3)) ((byt t (fr + 5 * g) (cn - 5 * g)) (0 + 4)) r))) 4 (nI 61)) 5 (nI 61)) 6 (nI 61)) 7 (nI 61)) 8) (bk_set (r := 7) rfl (by decide) (by decide +kernel)) rfl dX5_encode_228 (fun H locs hw => ?_)
            refine lv_goto (tgt := 282) E.1 E.2.1 dX5_encode_229 (by decide) ?_
            refine n_iinc (n := 8) (d := 8 * g + 8) (lv' := [(8, .int (nI (8 * g + 8))), (10, .ref nb), (9, .int (nI (cn - 5 * g))), (0, .ref h0), (1, .ref ib), (2, .int (nI fr)), (3, .int (nI cn)), (4, .ref ob), (5, .int (nI 0)), (6, .int (nI (fr + 5 * g))), (7, .int (nI (fr + cn) - nI 4))]) E dX5_encode_282 hl (k := 10) rfl rfl (by decide) rfl (fun ls hl => ?_)
            have hl0 : letN t 2 fr cn (8 * g + 0) = sgn 2 (v32 ((byt t (fr + 5 * g) (cn - 5 * g)) 0) ((byt t (fr + 5 * g) (cn - 5 * g)) 1) ((byt t (fr + 5 * g) (cn - 5 * g)) 2) ((byt t (fr + 5 * g) (cn - 5 * g)) 3) ((byt t (fr + 5 * g) (cn - 5 * g)) 4) 0) := by have e := let32 (t := t) ht (f := fr) (c := cn) (g := g) (r := 0) (by decide) (by omega); rw [hy0, hy1, hy2, hy3, hy4] at e; exact e
            have hl1 : letN t 2 fr cn (8 * g + 1) = sgn 2 (v32 ((byt t (fr + 5 * g) (cn - 5 * g)) 0) ((byt t (fr + 5 * g) (cn - 5 * g)) 1) ((byt t (fr + 5 * g) (cn - 5 * g)) 2) ((byt t (fr + 5 * g) (cn - 5 * g)) 3) ((byt t (fr + 5 * g) (cn - 5 * g)) 4) 1) := by have e := let32 (t := t) ht (f := fr) (c := cn) (g := g) (r := 1) (by decide) (by omega); rw [hy0, hy1, hy2, hy3, hy4] at e; exact e
            have hl2 : letN t 2 fr cn (8 * g + 2) = sgn 2 (v32 ((byt t (fr + 5 * g) (cn - 5 * g)) 0) ((byt t (fr + 5 * g) (cn - 5 * g)) 1) ((byt t (fr + 5 * g) (cn - 5 * g)) 2) ((byt t (fr + 5 * g) (cn - 5 * g)) 3) ((byt t (fr + 5 * g) (cn - 5 * g)) 4) 2) := by have e := let32 (t := t) ht (f := fr) (c := cn) (g := g) (r := 2) (by decide) (by omega); rw [hy0, hy1, hy2, hy3, hy4] at e; exact e
            have hl3 : letN t 2 fr cn (8 * g + 3) = sgn 2 (v32 ((byt t (fr + 5 * g) (cn - 5 * g)) 0) ((byt t (fr + 5 * g) (cn - 5 * g)) 1) ((byt t (fr + 5 * g) (cn - 5 * g)) 2) ((byt t (fr + 5 * g) (cn - 5 * g)) 3) ((byt t (fr + 5 * g) (cn - 5 * g)) 4) 3) := by have e := let32 (t := t) ht (f := fr) (c := cn) (g := g) (r := 3) (by decide) (by omega); rw [hy0, hy1, hy2, hy3, hy4] at e; exact e
            have hl4 : letN t 2 fr cn (8 * g + 4) = 61 := pad32 (by omega)
            have hl5 : letN t 2 fr cn (8 * g + 5) = 61 := pad32 (by omega)
            have hl6 : letN t 2 fr cn (8 * g + 6) = 61 := pad32 (by omega)
            have hl7 : letN t 2 fr cn (8 * g + 7) = 61 := pad32 (by omega)
            have hall : ∀ j, j < 8 → (fun j => nI (letN t 2 fr cn j)) (8 * g + j) = (upd (upd (upd (upd (fun r => nI (sgn 2 (v32 ((byt t (fr + 5 * g) (cn - 5 * g)) (0)) ((byt t (fr + 5 * g) (cn - 5 * g)) (0 + 1)) ((byt t (fr + 5 * g) (cn - 5 * g)) (0 + 2)) ((byt t (fr + 5 * g) (cn - 5 * g)) (0 + 3)) ((byt t (fr + 5 * g) (cn - 5 * g)) (0 + 4)) r))) 4 (nI 61)) 5 (nI 61)) 6 (nI 61)) 7 (nI 61)) j := by
              intro j hj
              rcases (by omega : j = 0 ∨ j = 1 ∨ j = 2 ∨ j = 3 ∨ j = 4 ∨ j = 5 ∨ j = 6 ∨ j = 7) with rfl | rfl | rfl | rfl | rfl | rfl | rfl | rfl
              · exact congrArg nI hl0
              · exact congrArg nI hl1
              · exact congrArg nI hl2
              · exact congrArg nI hl3
              · exact congrArg nI hl4
              · exact congrArg nI hl5
              · exact congrArg nI hl6
              · exact congrArg nI hl7
            have hw : Wd G A s [(ib, .inl (G.2.1, 256, .inl (fun j => sb_b (t j)))), (h0, .inr (2, [.ref G.2.2.2, .int (nI 61), .ref dt])), (nb, .inl (G.2.1, 5, .inl (fun j => sb_b ((byt t (fr + 5 * g) (cn - 5 * g)) j)))), (ob, .inl (G.2.1, rmN 2 cn, .inl (bk (fun _ => 0) 0 (fun j => nI (letN t 2 fr cn j)) (8 * g + 8))))] H locs := hw.cong 3 rfl (fun j _ => congrFun (show (bk (bk (fun _ => 0) 0 (fun j => nI (letN t 2 fr cn j)) (8 * g)) (8 * g) (upd (upd (upd (upd (fun r => nI (sgn 2 (v32 ((byt t (fr + 5 * g) (cn - 5 * g)) (0)) ((byt t (fr + 5 * g) (cn - 5 * g)) (0 + 1)) ((byt t (fr + 5 * g) (cn - 5 * g)) (0 + 2)) ((byt t (fr + 5 * g) (cn - 5 * g)) (0 + 3)) ((byt t (fr + 5 * g) (cn - 5 * g)) (0 + 4)) r))) 4 (nI 61)) 5 (nI 61)) 6 (nI 61)) 7 (nI 61)) 8) = (bk (fun _ => 0) 0 (fun j => nI (letN t 2 fr cn j)) (8 * g + 8)) from (bk_bk0 _ _ _ _ (8 * g) 8 (fun _ _ => rfl) hall)) j) rfl
            have hrm8 : rmN 2 cn = 8 * g + 8 := by omega
            refine lv_iload E.1 E.2.1 dX5_encode_285 (lv_at hl 0 rfl) ?_
            refine lv_iload E.1 E.2.1 dX5_encode_287 (lv_at hl 8 rfl) ?_
            refine n_isub (d := rmN 2 cn) E dX5_encode_289 (by omega) ?_
            have hw : Wd G A s [(ib, .inl (G.2.1, 256, .inl (fun j => sb_b (t j)))), (h0, .inr (2, [.ref G.2.2.2, .int (nI 61), .ref dt])), (nb, .inl (G.2.1, 5, .inl (fun j => sb_b ((byt t (fr + 5 * g) (cn - 5 * g)) j)))), (ob, .inl (G.2.1, rmN 2 cn, .inl (fun j => nI (letN t 2 fr cn j))))] H locs := hw.cong 3 rfl (fun j hj => bk_all (by omega)) rfl
            have hw : Wd G A s [(h0, .inr (2, [.ref G.2.2.2, .int (nI 61), .ref dt])), (ib, .inl (G.2.1, 256, .inl (fun j => sb_b (t j)))), (ob, .inl (G.2.1, rmN 2 cn, .inl (fun j => nI (letN t 2 fr cn j))))] H locs := hw.sub [1, 0, 3] (by decide) rfl
            exact ret_i E hw hr hlk (by omega) (by omega) (()) rfl rfl dX5_encode_290
          · skip
            refine tv (y := nI 3) (by rw [h]) ?_
            refine lv_tableIn (off := 149) (tgt := 232) E.1 E.2.1 dX5_encode_83 (by decide +kernel) (by decide +kernel) (by decide +kernel) (by decide) ?_
            refine lv_aload E.1 E.2.1 dX5_encode_232 (lv_at hl 6 rfl) ?_
            refine lv_iload E.1 E.2.1 dX5_encode_234 (lv_at hl 10 rfl) ?_
            refine lv_iconst (v := nI 5) E.1 E.2.1 dX5_encode_236 (by decide +kernel) ?_
            refine n_iadd (d := 8 * g + 5) E dX5_encode_237 rfl ?_
            refine lv_aload_n E.1 E.2.1 dX5_encode_238 rfl (lv_at hl 2 rfl) ?_
            refine gf (v := .int (nI 61)) E hw in_X5 (ci := 2) rfl 1 rfl 1 (by decide) q180 rfl dX5_encode_239 ?_
            refine bst (ws' := [(ib, .inl (G.2.1, 256, .inl (fun j => sb_b (t j)))), (h0, .inr (2, [.ref G.2.2.2, .int (nI 61), .ref dt])), (nb, .inl (G.2.1, 5, .inl (fun j => sb_b ((byt t (fr + 5 * g) (cn - 5 * g)) j)))), (ob, .inl (G.2.1, rmN 2 cn, .inl (bk (bk (fun _ => 0) 0 (fun j => nI (letN t 2 fr cn j)) (8 * g)) (8 * g) (upd (fun r => nI (sgn 2 (v32 ((byt t (fr + 5 * g) (cn - 5 * g)) (0)) ((byt t (fr + 5 * g) (cn - 5 * g)) (0 + 1)) ((byt t (fr + 5 * g) (cn - 5 * g)) (0 + 2)) ((byt t (fr + 5 * g) (cn - 5 * g)) (0 + 3)) ((byt t (fr + 5 * g) (cn - 5 * g)) (0 + 4)) r))) 5 (nI 61)) 8)))]) E hw 3 rfl (by omega) (by omega) (bk (bk (fun _ => 0) 0 (fun j => nI (letN t 2 fr cn j)) (8 * g)) (8 * g) (upd (fun r => nI (sgn 2 (v32 ((byt t (fr + 5 * g) (cn - 5 * g)) (0)) ((byt t (fr + 5 * g) (cn - 5 * g)) (0 + 1)) ((byt t (fr + 5 * g) (cn - 5 * g)) (0 + 2)) ((byt t (fr + 5 * g) (cn - 5 * g)) (0 + 3)) ((byt t (fr + 5 * g) (cn - 5 * g)) (0 + 4)) r))) 5 (nI 61)) 8) (bk_set (r := 5) rfl (by decide) (by decide +kernel)) rfl dX5_encode_242 (fun H locs hw => ?_)
            refine lv_aload E.1 E.2.1 dX5_encode_243 (lv_at hl 6 rfl) ?_
            refine lv_iload E.1 E.2.1 dX5_encode_245 (lv_at hl 10 rfl) ?_
            refine lv_bipush (v := nI 6) E.1 E.2.1 dX5_encode_247 (by decide +kernel) ?_
            refine n_iadd (d := 8 * g + 6) E dX5_encode_249 rfl ?_
            refine lv_aload_n E.1 E.2.1 dX5_encode_250 rfl (lv_at hl 2 rfl) ?_
            refine gf (v := .int (nI 61)) E hw in_X5 (ci := 2) rfl 1 rfl 1 (by decide) q180 rfl dX5_encode_251 ?_
            refine bst (ws' := [(ib, .inl (G.2.1, 256, .inl (fun j => sb_b (t j)))), (h0, .inr (2, [.ref G.2.2.2, .int (nI 61), .ref dt])), (nb, .inl (G.2.1, 5, .inl (fun j => sb_b ((byt t (fr + 5 * g) (cn - 5 * g)) j)))), (ob, .inl (G.2.1, rmN 2 cn, .inl (bk (bk (fun _ => 0) 0 (fun j => nI (letN t 2 fr cn j)) (8 * g)) (8 * g) (upd (upd (fun r => nI (sgn 2 (v32 ((byt t (fr + 5 * g) (cn - 5 * g)) (0)) ((byt t (fr + 5 * g) (cn - 5 * g)) (0 + 1)) ((byt t (fr + 5 * g) (cn - 5 * g)) (0 + 2)) ((byt t (fr + 5 * g) (cn - 5 * g)) (0 + 3)) ((byt t (fr + 5 * g) (cn - 5 * g)) (0 + 4)) r))) 5 (nI 61)) 6 (nI 61)) 8)))]) E hw 3 rfl (by omega) (by omega) (bk (bk (fun _ => 0) 0 (fun j => nI (letN t 2 fr cn j)) (8 * g)) (8 * g) (upd (upd (fun r => nI (sgn 2 (v32 ((byt t (fr + 5 * g) (cn - 5 * g)) (0)) ((byt t (fr + 5 * g) (cn - 5 * g)) (0 + 1)) ((byt t (fr + 5 * g) (cn - 5 * g)) (0 + 2)) ((byt t (fr + 5 * g) (cn - 5 * g)) (0 + 3)) ((byt t (fr + 5 * g) (cn - 5 * g)) (0 + 4)) r))) 5 (nI 61)) 6 (nI 61)) 8) (bk_set (r := 6) rfl (by decide) (by decide +kernel)) rfl dX5_encode_254 (fun H locs hw => ?_)
            refine lv_aload E.1 E.2.1 dX5_encode_255 (lv_at hl 6 rfl) ?_
            refine lv_iload E.1 E.2.1 dX5_encode_257 (lv_at hl 10 rfl) ?_
            refine lv_bipush (v := nI 7) E.1 E.2.1 dX5_encode_259 (by decide +kernel) ?_
            refine n_iadd (d := 8 * g + 7) E dX5_encode_261 rfl ?_
            refine lv_aload_n E.1 E.2.1 dX5_encode_262 rfl (lv_at hl 2 rfl) ?_
            refine gf (v := .int (nI 61)) E hw in_X5 (ci := 2) rfl 1 rfl 1 (by decide) q180 rfl dX5_encode_263 ?_
            refine bst (ws' := [(ib, .inl (G.2.1, 256, .inl (fun j => sb_b (t j)))), (h0, .inr (2, [.ref G.2.2.2, .int (nI 61), .ref dt])), (nb, .inl (G.2.1, 5, .inl (fun j => sb_b ((byt t (fr + 5 * g) (cn - 5 * g)) j)))), (ob, .inl (G.2.1, rmN 2 cn, .inl (bk (bk (fun _ => 0) 0 (fun j => nI (letN t 2 fr cn j)) (8 * g)) (8 * g) (upd (upd (upd (fun r => nI (sgn 2 (v32 ((byt t (fr + 5 * g) (cn - 5 * g)) (0)) ((byt t (fr + 5 * g) (cn - 5 * g)) (0 + 1)) ((byt t (fr + 5 * g) (cn - 5 * g)) (0 + 2)) ((byt t (fr + 5 * g) (cn - 5 * g)) (0 + 3)) ((byt t (fr + 5 * g) (cn - 5 * g)) (0 + 4)) r))) 5 (nI 61)) 6 (nI 61)) 7 (nI 61)) 8)))]) E hw 3 rfl (by omega) (by omega) (bk (bk (fun _ => 0) 0 (fun j => nI (letN t 2 fr cn j)) (8 * g)) (8 * g) (upd (upd (upd (fun r => nI (sgn 2 (v32 ((byt t (fr + 5 * g) (cn - 5 * g)) (0)) ((byt t (fr + 5 * g) (cn - 5 * g)) (0 + 1)) ((byt t (fr + 5 * g) (cn - 5 * g)) (0 + 2)) ((byt t (fr + 5 * g) (cn - 5 * g)) (0 + 3)) ((byt t (fr + 5 * g) (cn - 5 * g)) (0 + 4)) r))) 5 (nI 61)) 6 (nI 61)) 7 (nI 61)) 8) (bk_set (r := 7) rfl (by decide) (by decide +kernel)) rfl dX5_encode_266 (fun H locs hw => ?_)
            refine lv_goto (tgt := 282) E.1 E.2.1 dX5_encode_267 (by decide) ?_
            refine n_iinc (n := 8) (d := 8 * g + 8) (lv' := [(8, .int (nI (8 * g + 8))), (10, .ref nb), (9, .int (nI (cn - 5 * g))), (0, .ref h0), (1, .ref ib), (2, .int (nI fr)), (3, .int (nI cn)), (4, .ref ob), (5, .int (nI 0)), (6, .int (nI (fr + 5 * g))), (7, .int (nI (fr + cn) - nI 4))]) E dX5_encode_282 hl (k := 10) rfl rfl (by decide) rfl (fun ls hl => ?_)
            have hl0 : letN t 2 fr cn (8 * g + 0) = sgn 2 (v32 ((byt t (fr + 5 * g) (cn - 5 * g)) 0) ((byt t (fr + 5 * g) (cn - 5 * g)) 1) ((byt t (fr + 5 * g) (cn - 5 * g)) 2) ((byt t (fr + 5 * g) (cn - 5 * g)) 3) ((byt t (fr + 5 * g) (cn - 5 * g)) 4) 0) := by have e := let32 (t := t) ht (f := fr) (c := cn) (g := g) (r := 0) (by decide) (by omega); rw [hy0, hy1, hy2, hy3, hy4] at e; exact e
            have hl1 : letN t 2 fr cn (8 * g + 1) = sgn 2 (v32 ((byt t (fr + 5 * g) (cn - 5 * g)) 0) ((byt t (fr + 5 * g) (cn - 5 * g)) 1) ((byt t (fr + 5 * g) (cn - 5 * g)) 2) ((byt t (fr + 5 * g) (cn - 5 * g)) 3) ((byt t (fr + 5 * g) (cn - 5 * g)) 4) 1) := by have e := let32 (t := t) ht (f := fr) (c := cn) (g := g) (r := 1) (by decide) (by omega); rw [hy0, hy1, hy2, hy3, hy4] at e; exact e
            have hl2 : letN t 2 fr cn (8 * g + 2) = sgn 2 (v32 ((byt t (fr + 5 * g) (cn - 5 * g)) 0) ((byt t (fr + 5 * g) (cn - 5 * g)) 1) ((byt t (fr + 5 * g) (cn - 5 * g)) 2) ((byt t (fr + 5 * g) (cn - 5 * g)) 3) ((byt t (fr + 5 * g) (cn - 5 * g)) 4) 2) := by have e := let32 (t := t) ht (f := fr) (c := cn) (g := g) (r := 2) (by decide) (by omega); rw [hy0, hy1, hy2, hy3, hy4] at e; exact e
            have hl3 : letN t 2 fr cn (8 * g + 3) = sgn 2 (v32 ((byt t (fr + 5 * g) (cn - 5 * g)) 0) ((byt t (fr + 5 * g) (cn - 5 * g)) 1) ((byt t (fr + 5 * g) (cn - 5 * g)) 2) ((byt t (fr + 5 * g) (cn - 5 * g)) 3) ((byt t (fr + 5 * g) (cn - 5 * g)) 4) 3) := by have e := let32 (t := t) ht (f := fr) (c := cn) (g := g) (r := 3) (by decide) (by omega); rw [hy0, hy1, hy2, hy3, hy4] at e; exact e
            have hl4 : letN t 2 fr cn (8 * g + 4) = sgn 2 (v32 ((byt t (fr + 5 * g) (cn - 5 * g)) 0) ((byt t (fr + 5 * g) (cn - 5 * g)) 1) ((byt t (fr + 5 * g) (cn - 5 * g)) 2) ((byt t (fr + 5 * g) (cn - 5 * g)) 3) ((byt t (fr + 5 * g) (cn - 5 * g)) 4) 4) := by have e := let32 (t := t) ht (f := fr) (c := cn) (g := g) (r := 4) (by decide) (by omega); rw [hy0, hy1, hy2, hy3, hy4] at e; exact e
            have hl5 : letN t 2 fr cn (8 * g + 5) = 61 := pad32 (by omega)
            have hl6 : letN t 2 fr cn (8 * g + 6) = 61 := pad32 (by omega)
            have hl7 : letN t 2 fr cn (8 * g + 7) = 61 := pad32 (by omega)
            have hall : ∀ j, j < 8 → (fun j => nI (letN t 2 fr cn j)) (8 * g + j) = (upd (upd (upd (fun r => nI (sgn 2 (v32 ((byt t (fr + 5 * g) (cn - 5 * g)) (0)) ((byt t (fr + 5 * g) (cn - 5 * g)) (0 + 1)) ((byt t (fr + 5 * g) (cn - 5 * g)) (0 + 2)) ((byt t (fr + 5 * g) (cn - 5 * g)) (0 + 3)) ((byt t (fr + 5 * g) (cn - 5 * g)) (0 + 4)) r))) 5 (nI 61)) 6 (nI 61)) 7 (nI 61)) j := by
              intro j hj
              rcases (by omega : j = 0 ∨ j = 1 ∨ j = 2 ∨ j = 3 ∨ j = 4 ∨ j = 5 ∨ j = 6 ∨ j = 7) with rfl | rfl | rfl | rfl | rfl | rfl | rfl | rfl
              · exact congrArg nI hl0
              · exact congrArg nI hl1
              · exact congrArg nI hl2
              · exact congrArg nI hl3
              · exact congrArg nI hl4
              · exact congrArg nI hl5
              · exact congrArg nI hl6
              · exact congrArg nI hl7
            have hw : Wd G A s [(ib, .inl (G.2.1, 256, .inl (fun j => sb_b (t j)))), (h0, .inr (2, [.ref G.2.2.2, .int (nI 61), .ref dt])), (nb, .inl (G.2.1, 5, .inl (fun j => sb_b ((byt t (fr + 5 * g) (cn - 5 * g)) j)))), (ob, .inl (G.2.1, rmN 2 cn, .inl (bk (fun _ => 0) 0 (fun j => nI (letN t 2 fr cn j)) (8 * g + 8))))] H locs := hw.cong 3 rfl (fun j _ => congrFun (show (bk (bk (fun _ => 0) 0 (fun j => nI (letN t 2 fr cn j)) (8 * g)) (8 * g) (upd (upd (upd (fun r => nI (sgn 2 (v32 ((byt t (fr + 5 * g) (cn - 5 * g)) (0)) ((byt t (fr + 5 * g) (cn - 5 * g)) (0 + 1)) ((byt t (fr + 5 * g) (cn - 5 * g)) (0 + 2)) ((byt t (fr + 5 * g) (cn - 5 * g)) (0 + 3)) ((byt t (fr + 5 * g) (cn - 5 * g)) (0 + 4)) r))) 5 (nI 61)) 6 (nI 61)) 7 (nI 61)) 8) = (bk (fun _ => 0) 0 (fun j => nI (letN t 2 fr cn j)) (8 * g + 8)) from (bk_bk0 _ _ _ _ (8 * g) 8 (fun _ _ => rfl) hall)) j) rfl
            have hrm8 : rmN 2 cn = 8 * g + 8 := by omega
            refine lv_iload E.1 E.2.1 dX5_encode_285 (lv_at hl 0 rfl) ?_
            refine lv_iload E.1 E.2.1 dX5_encode_287 (lv_at hl 8 rfl) ?_
            refine n_isub (d := rmN 2 cn) E dX5_encode_289 (by omega) ?_
            have hw : Wd G A s [(ib, .inl (G.2.1, 256, .inl (fun j => sb_b (t j)))), (h0, .inr (2, [.ref G.2.2.2, .int (nI 61), .ref dt])), (nb, .inl (G.2.1, 5, .inl (fun j => sb_b ((byt t (fr + 5 * g) (cn - 5 * g)) j)))), (ob, .inl (G.2.1, rmN 2 cn, .inl (fun j => nI (letN t 2 fr cn j))))] H locs := hw.cong 3 rfl (fun j hj => bk_all (by omega)) rfl
            have hw : Wd G A s [(h0, .inr (2, [.ref G.2.2.2, .int (nI 61), .ref dt])), (ib, .inl (G.2.1, 256, .inl (fun j => sb_b (t j)))), (ob, .inl (G.2.1, rmN 2 cn, .inl (fun j => nI (letN t 2 fr cn j))))] H locs := hw.sub [1, 0, 3] (by decide) rfl
            exact ret_i E hw hr hlk (by omega) (by omega) (()) rfl rfl dX5_encode_290
          · skip
            refine tv (y := nI 4) (by rw [h]) ?_
            refine lv_tableIn (off := 187) (tgt := 270) E.1 E.2.1 dX5_encode_83 (by decide +kernel) (by decide +kernel) (by decide +kernel) (by decide) ?_
            refine lv_aload E.1 E.2.1 dX5_encode_270 (lv_at hl 6 rfl) ?_
            refine lv_iload E.1 E.2.1 dX5_encode_272 (lv_at hl 10 rfl) ?_
            refine lv_bipush (v := nI 7) E.1 E.2.1 dX5_encode_274 (by decide +kernel) ?_
            refine n_iadd (d := 8 * g + 7) E dX5_encode_276 rfl ?_
            refine lv_aload_n E.1 E.2.1 dX5_encode_277 rfl (lv_at hl 2 rfl) ?_
            refine gf (v := .int (nI 61)) E hw in_X5 (ci := 2) rfl 1 rfl 1 (by decide) q180 rfl dX5_encode_278 ?_
            refine bst (ws' := [(ib, .inl (G.2.1, 256, .inl (fun j => sb_b (t j)))), (h0, .inr (2, [.ref G.2.2.2, .int (nI 61), .ref dt])), (nb, .inl (G.2.1, 5, .inl (fun j => sb_b ((byt t (fr + 5 * g) (cn - 5 * g)) j)))), (ob, .inl (G.2.1, rmN 2 cn, .inl (bk (bk (fun _ => 0) 0 (fun j => nI (letN t 2 fr cn j)) (8 * g)) (8 * g) (upd (fun r => nI (sgn 2 (v32 ((byt t (fr + 5 * g) (cn - 5 * g)) (0)) ((byt t (fr + 5 * g) (cn - 5 * g)) (0 + 1)) ((byt t (fr + 5 * g) (cn - 5 * g)) (0 + 2)) ((byt t (fr + 5 * g) (cn - 5 * g)) (0 + 3)) ((byt t (fr + 5 * g) (cn - 5 * g)) (0 + 4)) r))) 7 (nI 61)) 8)))]) E hw 3 rfl (by omega) (by omega) (bk (bk (fun _ => 0) 0 (fun j => nI (letN t 2 fr cn j)) (8 * g)) (8 * g) (upd (fun r => nI (sgn 2 (v32 ((byt t (fr + 5 * g) (cn - 5 * g)) (0)) ((byt t (fr + 5 * g) (cn - 5 * g)) (0 + 1)) ((byt t (fr + 5 * g) (cn - 5 * g)) (0 + 2)) ((byt t (fr + 5 * g) (cn - 5 * g)) (0 + 3)) ((byt t (fr + 5 * g) (cn - 5 * g)) (0 + 4)) r))) 7 (nI 61)) 8) (bk_set (r := 7) rfl (by decide) (by decide +kernel)) rfl dX5_encode_281 (fun H locs hw => ?_)
            refine n_iinc (n := 8) (d := 8 * g + 8) (lv' := [(8, .int (nI (8 * g + 8))), (10, .ref nb), (9, .int (nI (cn - 5 * g))), (0, .ref h0), (1, .ref ib), (2, .int (nI fr)), (3, .int (nI cn)), (4, .ref ob), (5, .int (nI 0)), (6, .int (nI (fr + 5 * g))), (7, .int (nI (fr + cn) - nI 4))]) E dX5_encode_282 hl (k := 10) rfl rfl (by decide) rfl (fun ls hl => ?_)
            have hl0 : letN t 2 fr cn (8 * g + 0) = sgn 2 (v32 ((byt t (fr + 5 * g) (cn - 5 * g)) 0) ((byt t (fr + 5 * g) (cn - 5 * g)) 1) ((byt t (fr + 5 * g) (cn - 5 * g)) 2) ((byt t (fr + 5 * g) (cn - 5 * g)) 3) ((byt t (fr + 5 * g) (cn - 5 * g)) 4) 0) := by have e := let32 (t := t) ht (f := fr) (c := cn) (g := g) (r := 0) (by decide) (by omega); rw [hy0, hy1, hy2, hy3, hy4] at e; exact e
            have hl1 : letN t 2 fr cn (8 * g + 1) = sgn 2 (v32 ((byt t (fr + 5 * g) (cn - 5 * g)) 0) ((byt t (fr + 5 * g) (cn - 5 * g)) 1) ((byt t (fr + 5 * g) (cn - 5 * g)) 2) ((byt t (fr + 5 * g) (cn - 5 * g)) 3) ((byt t (fr + 5 * g) (cn - 5 * g)) 4) 1) := by have e := let32 (t := t) ht (f := fr) (c := cn) (g := g) (r := 1) (by decide) (by omega); rw [hy0, hy1, hy2, hy3, hy4] at e; exact e
            have hl2 : letN t 2 fr cn (8 * g + 2) = sgn 2 (v32 ((byt t (fr + 5 * g) (cn - 5 * g)) 0) ((byt t (fr + 5 * g) (cn - 5 * g)) 1) ((byt t (fr + 5 * g) (cn - 5 * g)) 2) ((byt t (fr + 5 * g) (cn - 5 * g)) 3) ((byt t (fr + 5 * g) (cn - 5 * g)) 4) 2) := by have e := let32 (t := t) ht (f := fr) (c := cn) (g := g) (r := 2) (by decide) (by omega); rw [hy0, hy1, hy2, hy3, hy4] at e; exact e
            have hl3 : letN t 2 fr cn (8 * g + 3) = sgn 2 (v32 ((byt t (fr + 5 * g) (cn - 5 * g)) 0) ((byt t (fr + 5 * g) (cn - 5 * g)) 1) ((byt t (fr + 5 * g) (cn - 5 * g)) 2) ((byt t (fr + 5 * g) (cn - 5 * g)) 3) ((byt t (fr + 5 * g) (cn - 5 * g)) 4) 3) := by have e := let32 (t := t) ht (f := fr) (c := cn) (g := g) (r := 3) (by decide) (by omega); rw [hy0, hy1, hy2, hy3, hy4] at e; exact e
            have hl4 : letN t 2 fr cn (8 * g + 4) = sgn 2 (v32 ((byt t (fr + 5 * g) (cn - 5 * g)) 0) ((byt t (fr + 5 * g) (cn - 5 * g)) 1) ((byt t (fr + 5 * g) (cn - 5 * g)) 2) ((byt t (fr + 5 * g) (cn - 5 * g)) 3) ((byt t (fr + 5 * g) (cn - 5 * g)) 4) 4) := by have e := let32 (t := t) ht (f := fr) (c := cn) (g := g) (r := 4) (by decide) (by omega); rw [hy0, hy1, hy2, hy3, hy4] at e; exact e
            have hl5 : letN t 2 fr cn (8 * g + 5) = sgn 2 (v32 ((byt t (fr + 5 * g) (cn - 5 * g)) 0) ((byt t (fr + 5 * g) (cn - 5 * g)) 1) ((byt t (fr + 5 * g) (cn - 5 * g)) 2) ((byt t (fr + 5 * g) (cn - 5 * g)) 3) ((byt t (fr + 5 * g) (cn - 5 * g)) 4) 5) := by have e := let32 (t := t) ht (f := fr) (c := cn) (g := g) (r := 5) (by decide) (by omega); rw [hy0, hy1, hy2, hy3, hy4] at e; exact e
            have hl6 : letN t 2 fr cn (8 * g + 6) = sgn 2 (v32 ((byt t (fr + 5 * g) (cn - 5 * g)) 0) ((byt t (fr + 5 * g) (cn - 5 * g)) 1) ((byt t (fr + 5 * g) (cn - 5 * g)) 2) ((byt t (fr + 5 * g) (cn - 5 * g)) 3) ((byt t (fr + 5 * g) (cn - 5 * g)) 4) 6) := by have e := let32 (t := t) ht (f := fr) (c := cn) (g := g) (r := 6) (by decide) (by omega); rw [hy0, hy1, hy2, hy3, hy4] at e; exact e
            have hl7 : letN t 2 fr cn (8 * g + 7) = 61 := pad32 (by omega)
            have hall : ∀ j, j < 8 → (fun j => nI (letN t 2 fr cn j)) (8 * g + j) = (upd (fun r => nI (sgn 2 (v32 ((byt t (fr + 5 * g) (cn - 5 * g)) (0)) ((byt t (fr + 5 * g) (cn - 5 * g)) (0 + 1)) ((byt t (fr + 5 * g) (cn - 5 * g)) (0 + 2)) ((byt t (fr + 5 * g) (cn - 5 * g)) (0 + 3)) ((byt t (fr + 5 * g) (cn - 5 * g)) (0 + 4)) r))) 7 (nI 61)) j := by
              intro j hj
              rcases (by omega : j = 0 ∨ j = 1 ∨ j = 2 ∨ j = 3 ∨ j = 4 ∨ j = 5 ∨ j = 6 ∨ j = 7) with rfl | rfl | rfl | rfl | rfl | rfl | rfl | rfl
              · exact congrArg nI hl0
              · exact congrArg nI hl1
              · exact congrArg nI hl2
              · exact congrArg nI hl3
              · exact congrArg nI hl4
              · exact congrArg nI hl5
              · exact congrArg nI hl6
              · exact congrArg nI hl7
            have hw : Wd G A s [(ib, .inl (G.2.1, 256, .inl (fun j => sb_b (t j)))), (h0, .inr (2, [.ref G.2.2.2, .int (nI 61), .ref dt])), (nb, .inl (G.2.1, 5, .inl (fun j => sb_b ((byt t (fr + 5 * g) (cn - 5 * g)) j)))), (ob, .inl (G.2.1, rmN 2 cn, .inl (bk (fun _ => 0) 0 (fun j => nI (letN t 2 fr cn j)) (8 * g + 8))))] H locs := hw.cong 3 rfl (fun j _ => congrFun (show (bk (bk (fun _ => 0) 0 (fun j => nI (letN t 2 fr cn j)) (8 * g)) (8 * g) (upd (fun r => nI (sgn 2 (v32 ((byt t (fr + 5 * g) (cn - 5 * g)) (0)) ((byt t (fr + 5 * g) (cn - 5 * g)) (0 + 1)) ((byt t (fr + 5 * g) (cn - 5 * g)) (0 + 2)) ((byt t (fr + 5 * g) (cn - 5 * g)) (0 + 3)) ((byt t (fr + 5 * g) (cn - 5 * g)) (0 + 4)) r))) 7 (nI 61)) 8) = (bk (fun _ => 0) 0 (fun j => nI (letN t 2 fr cn j)) (8 * g + 8)) from (bk_bk0 _ _ _ _ (8 * g) 8 (fun _ _ => rfl) hall)) j) rfl
            have hrm8 : rmN 2 cn = 8 * g + 8 := by omega
            refine lv_iload E.1 E.2.1 dX5_encode_285 (lv_at hl 0 rfl) ?_
            refine lv_iload E.1 E.2.1 dX5_encode_287 (lv_at hl 8 rfl) ?_
            refine n_isub (d := rmN 2 cn) E dX5_encode_289 (by omega) ?_
            have hw : Wd G A s [(ib, .inl (G.2.1, 256, .inl (fun j => sb_b (t j)))), (h0, .inr (2, [.ref G.2.2.2, .int (nI 61), .ref dt])), (nb, .inl (G.2.1, 5, .inl (fun j => sb_b ((byt t (fr + 5 * g) (cn - 5 * g)) j)))), (ob, .inl (G.2.1, rmN 2 cn, .inl (fun j => nI (letN t 2 fr cn j))))] H locs := hw.cong 3 rfl (fun j hj => bk_all (by omega)) rfl
            have hw : Wd G A s [(h0, .inr (2, [.ref G.2.2.2, .int (nI 61), .ref dt])), (ib, .inl (G.2.1, 256, .inl (fun j => sb_b (t j)))), (ob, .inl (G.2.1, rmN 2 cn, .inl (fun j => nI (letN t 2 fr cn j))))] H locs := hw.sub [1, 0, 3] (by decide) rfl
            exact ret_i E hw hr hlk (by omega) (by omega) (()) rfl rfl dX5_encode_290
      · skip
        have c_18 := fun q => c_18 ((ge_sub (a := fr + cn) (b := 4) (x := fr + 5 * g) (by omega) (by omega) (by omega)).mpr q)
        have c_18 : fr + 5 * g + 4 < fr + cn := Nat.lt_of_not_le c_18
        refine lv_aload_n E.1 E.2.1 dX5_encode_21 rfl (lv_at hl 0 rfl) ?_
        refine lv_aload_n E.1 E.2.1 dX5_encode_22 rfl (lv_at hl 1 rfl) ?_
        refine lv_iload E.1 E.2.1 dX5_encode_23 (lv_at hl 6 rfl) ?_
        refine lv_aload E.1 E.2.1 dX5_encode_25 (lv_at hl 4 rfl) ?_
        refine lv_iload E.1 E.2.1 dX5_encode_27 (lv_at hl 8 rfl) ?_
        refine cl_v (wr := []) (va_runV (As := [.ref ib, .int (nI (fr + 5 * g)), .ref ob, .int (nI (8 * g))]) (rest := []) E.fix (m_X5_encodeBlock l G H.size h0 dt ib ob t (bk (fun _ => 0) 0 (fun j => nI (letN t 2 fr cn j)) (8 * g)) 256 (rmN 2 cn) (fr + 5 * g) (8 * g) ht (by omega) (by decide) (by omega) (by omega)) (cwV 4 E.hts (lw_V q197 q199 qs2 q8 q200) rfl rfl rfl (by decide +kernel) ⟨Nat.le_of_ble_eq_true rfl, Nat.le_of_ble_eq_true rfl⟩) (preV_ok E hw [0, 1, 2] rfl (by decide) 0 rfl (ci := 2) rfl) rfl rfl hl.1 rfl (lv_room (Nat.le_of_ble_eq_true rfl)) dX5_encode_29 ⟨(by show _ ≤ 1; omega), (by show _ ≤ 5; omega)⟩) E hw [0, 1, 2] [] rfl rfl (by decide) (by decide) (fun u H locs hp hw => ?_)
        have hw : Wd G A s [(h0, .inr (2, [.ref G.2.2.2, .int (nI 61), .ref dt])), (ib, .inl (G.2.1, 256, .inl (fun j => sb_b (t j)))), (ob, .inl (G.2.1, rmN 2 cn, .inl (bk (bk (fun _ => 0) 0 (fun j => nI (letN t 2 fr cn j)) (8 * g)) (8 * g) (fun r => nI (sgn 2 (v32 (t (fr + 5 * g)) (t (fr + 5 * g + 1)) (t (fr + 5 * g + 2)) (t (fr + 5 * g + 3)) (t (fr + 5 * g + 4)) r))) 8)))] H locs := hw
        refine W.cs (cells' := 0) (slots' := 0) rfl rfl ?_
        have hy0 : byt t fr cn (5 * g + 0) = t (fr + 5 * g) := (if_pos (by omega)).trans (congrArg t (by omega))
        have hy1 : byt t fr cn (5 * g + 1) = t (fr + 5 * g + 1) := (if_pos (by omega)).trans (congrArg t (by omega))
        have hy2 : byt t fr cn (5 * g + 2) = t (fr + 5 * g + 2) := (if_pos (by omega)).trans (congrArg t (by omega))
        have hy3 : byt t fr cn (5 * g + 3) = t (fr + 5 * g + 3) := (if_pos (by omega)).trans (congrArg t (by omega))
        have hy4 : byt t fr cn (5 * g + 4) = t (fr + 5 * g + 4) := (if_pos (by omega)).trans (congrArg t (by omega))
        have hl0 : letN t 2 fr cn (8 * g + 0) = sgn 2 (v32 (t (fr + 5 * g)) (t (fr + 5 * g + 1)) (t (fr + 5 * g + 2)) (t (fr + 5 * g + 3)) (t (fr + 5 * g + 4)) 0) := by have e := let32 (t := t) ht (f := fr) (c := cn) (g := g) (r := 0) (by decide) (by omega); rw [hy0, hy1, hy2, hy3, hy4] at e; exact e
        have hl1 : letN t 2 fr cn (8 * g + 1) = sgn 2 (v32 (t (fr + 5 * g)) (t (fr + 5 * g + 1)) (t (fr + 5 * g + 2)) (t (fr + 5 * g + 3)) (t (fr + 5 * g + 4)) 1) := by have e := let32 (t := t) ht (f := fr) (c := cn) (g := g) (r := 1) (by decide) (by omega); rw [hy0, hy1, hy2, hy3, hy4] at e; exact e
        have hl2 : letN t 2 fr cn (8 * g + 2) = sgn 2 (v32 (t (fr + 5 * g)) (t (fr + 5 * g + 1)) (t (fr + 5 * g + 2)) (t (fr + 5 * g + 3)) (t (fr + 5 * g + 4)) 2) := by have e := let32 (t := t) ht (f := fr) (c := cn) (g := g) (r := 2) (by decide) (by omega); rw [hy0, hy1, hy2, hy3, hy4] at e; exact e
        have hl3 : letN t 2 fr cn (8 * g + 3) = sgn 2 (v32 (t (fr + 5 * g)) (t (fr + 5 * g + 1)) (t (fr + 5 * g + 2)) (t (fr + 5 * g + 3)) (t (fr + 5 * g + 4)) 3) := by have e := let32 (t := t) ht (f := fr) (c := cn) (g := g) (r := 3) (by decide) (by omega); rw [hy0, hy1, hy2, hy3, hy4] at e; exact e
        have hl4 : letN t 2 fr cn (8 * g + 4) = sgn 2 (v32 (t (fr + 5 * g)) (t (fr + 5 * g + 1)) (t (fr + 5 * g + 2)) (t (fr + 5 * g + 3)) (t (fr + 5 * g + 4)) 4) := by have e := let32 (t := t) ht (f := fr) (c := cn) (g := g) (r := 4) (by decide) (by omega); rw [hy0, hy1, hy2, hy3, hy4] at e; exact e
        have hl5 : letN t 2 fr cn (8 * g + 5) = sgn 2 (v32 (t (fr + 5 * g)) (t (fr + 5 * g + 1)) (t (fr + 5 * g + 2)) (t (fr + 5 * g + 3)) (t (fr + 5 * g + 4)) 5) := by have e := let32 (t := t) ht (f := fr) (c := cn) (g := g) (r := 5) (by decide) (by omega); rw [hy0, hy1, hy2, hy3, hy4] at e; exact e
        have hl6 : letN t 2 fr cn (8 * g + 6) = sgn 2 (v32 (t (fr + 5 * g)) (t (fr + 5 * g + 1)) (t (fr + 5 * g + 2)) (t (fr + 5 * g + 3)) (t (fr + 5 * g + 4)) 6) := by have e := let32 (t := t) ht (f := fr) (c := cn) (g := g) (r := 6) (by decide) (by omega); rw [hy0, hy1, hy2, hy3, hy4] at e; exact e
        have hl7 : letN t 2 fr cn (8 * g + 7) = sgn 2 (v32 (t (fr + 5 * g)) (t (fr + 5 * g + 1)) (t (fr + 5 * g + 2)) (t (fr + 5 * g + 3)) (t (fr + 5 * g + 4)) 7) := by have e := let32 (t := t) ht (f := fr) (c := cn) (g := g) (r := 7) (by decide) (by omega); rw [hy0, hy1, hy2, hy3, hy4] at e; exact e
        have hall : ∀ j, j < 8 → (fun j => nI (letN t 2 fr cn j)) (8 * g + j) = (fun r => nI (sgn 2 (v32 (t (fr + 5 * g)) (t (fr + 5 * g + 1)) (t (fr + 5 * g + 2)) (t (fr + 5 * g + 3)) (t (fr + 5 * g + 4)) r))) j := by
          intro j hj
          rcases (by omega : j = 0 ∨ j = 1 ∨ j = 2 ∨ j = 3 ∨ j = 4 ∨ j = 5 ∨ j = 6 ∨ j = 7) with rfl | rfl | rfl | rfl | rfl | rfl | rfl | rfl
          · exact congrArg nI hl0
          · exact congrArg nI hl1
          · exact congrArg nI hl2
          · exact congrArg nI hl3
          · exact congrArg nI hl4
          · exact congrArg nI hl5
          · exact congrArg nI hl6
          · exact congrArg nI hl7
        have hw : Wd G A s [(h0, .inr (2, [.ref G.2.2.2, .int (nI 61), .ref dt])), (ib, .inl (G.2.1, 256, .inl (fun j => sb_b (t j)))), (ob, .inl (G.2.1, rmN 2 cn, .inl (bk (fun _ => 0) 0 (fun j => nI (letN t 2 fr cn j)) (8 * g + 8))))] H locs := hw.cong 2 rfl (fun j _ => congrFun (show (bk (bk (fun _ => 0) 0 (fun j => nI (letN t 2 fr cn j)) (8 * g)) (8 * g) (fun r => nI (sgn 2 (v32 (t (fr + 5 * g)) (t (fr + 5 * g + 1)) (t (fr + 5 * g + 2)) (t (fr + 5 * g + 3)) (t (fr + 5 * g + 4)) r))) 8) = (bk (fun _ => 0) 0 (fun j => nI (letN t 2 fr cn j)) (8 * g + 8)) from (bk_bk0 _ _ _ _ (8 * g) 8 (fun _ _ => rfl) hall)) j) rfl
        refine n_iinc (n := 5) (d := fr + 5 * (g + 1)) (lv' := [(6, .int (nI (fr + 5 * (g + 1)))), (0, .ref h0), (1, .ref ib), (2, .int (nI fr)), (3, .int (nI cn)), (4, .ref ob), (5, .int (nI 0)), (7, .int (nI (fr + cn) - nI 4)), (8, .int (nI (8 * g)))]) E dX5_encode_32 hl (k := 6) rfl (by omega) (by decide) rfl (fun ls hl => ?_)
        refine n_iinc (n := 8) (d := 8 * (g + 1)) (lv' := [(8, .int (nI (8 * (g + 1)))), (6, .int (nI (fr + 5 * (g + 1)))), (0, .ref h0), (1, .ref ib), (2, .int (nI fr)), (3, .int (nI cn)), (4, .ref ob), (5, .int (nI 0)), (7, .int (nI (fr + cn) - nI 4))]) E dX5_encode_35 hl (k := 8) rfl (by omega) (by decide) rfl (fun ls hl => ?_)
        refine lv_goto (tgt := 14) E.1 E.2.1 dX5_encode_38 (by decide) ?_
        exact ih (g + 1) (by omega) (by omega) H locs (hw.sub [0, 1, 2] (by decide) rfl) ls (lv_sub hl [2, 3, 4, 5, 6, 7, 1, 8, 0] rfl)
  refine lv_iload_n E.1 E.2.1 dX5_encode_0 rfl (lv_at hl 2 rfl) ?_
  refine lv_istore (lv' := [(6, .int (nI fr)), (0, .ref h0), (1, .ref ib), (2, .int (nI fr)), (3, .int (nI cn)), (4, .ref ob), (5, .int (nI 0))]) E.1 E.2.1 dX5_encode_1 hl (by decide) rfl (fun ls hl => ?_)
  refine lv_iload_n E.1 E.2.1 dX5_encode_3 rfl (lv_at hl 3 rfl) ?_
  refine lv_iload_n E.1 E.2.1 dX5_encode_4 rfl (lv_at hl 4 rfl) ?_
  refine n_iadd (d := fr + cn) E dX5_encode_5 rfl ?_
  refine lv_iconst (v := nI 4) E.1 E.2.1 dX5_encode_6 (by decide +kernel) ?_
  refine lv_isub E.1 E.2.1 dX5_encode_7 ?_
  refine lv_istore (lv' := [(7, .int ((nI (fr + cn)) - (nI 4))), (6, .int (nI fr)), (0, .ref h0), (1, .ref ib), (2, .int (nI fr)), (3, .int (nI cn)), (4, .ref ob), (5, .int (nI 0))]) E.1 E.2.1 dX5_encode_8 hl (by decide) rfl (fun ls hl => ?_)
  refine lv_iload E.1 E.2.1 dX5_encode_10 (lv_at hl 7 rfl) ?_
  refine lv_istore (lv' := [(8, .int (nI 0)), (7, .int ((nI (fr + cn)) - (nI 4))), (6, .int (nI fr)), (0, .ref h0), (1, .ref ib), (2, .int (nI fr)), (3, .int (nI cn)), (4, .ref ob), (5, .int (nI 0))]) E.1 E.2.1 dX5_encode_12 hl (by decide) rfl (fun ls hl => ?_)
  have hw : Wd G A s [(h0, .inr (2, [.ref G.2.2.2, .int (nI 61), .ref dt])), (ib, .inl (G.2.1, 256, .inl (fun j => sb_b (t j)))), (ob, .inl (G.2.1, rmN 2 cn, .inl (bk (fun _ => 0) 0 (fun j => nI (letN t 2 fr cn j)) (0))))] s.heap [] := hw.cong 2 rfl (fun j _ => congrFun (show (fun _ => 0) = (bk (fun _ => 0) 0 (fun j => nI (letN t 2 fr cn j)) (0)) from (bk_0 _ _ _).symm) j) rfl
  exact loop (cn + 1) 0 (by omega) (by omega) s.heap [] (hw.sub [0, 1, 2] (by decide) rfl) ls (lv_sub hl [3, 4, 5, 6, 7, 8, 2, 1, 0] rfl)
end
section
/-! the desk's plain law: what putting does, what out answers -/
def pSi (si : Nat) : Nat := if si ≤ 240 then si + 16 else si
def pTx (si : Nat) (tx : Nat → Nat) (a1 a2 a3 a4 : Int32) : Nat → Nat := if si ≤ 240 then bk tx si (fun q => by16 a1 a2 a3 a4 q) 16 else tx
def outV (o : Nat → Nat) (ln : Nat) (x : Int32) : Int32 := if ln = 0 then -1 else nI (o (md x ln))
theorem outV_0 {o : Nat → Nat} {ln : Nat} {x : Int32} (h : ln = 0) : outV o ln x = -1 := if_pos h
theorem outV_1 {o : Nat → Nat} {ln : Nat} {x : Int32} (h : ln ≠ 0) : outV o ln x = nI (o (md x ln)) := if_neg h
theorem outV_nI {o : Nat → Nat} {ln i : Nat} (h : i < ln) (hl : ln < 2 ^ 31) : outV o ln (nI i) = nI (o i) := by
  rw [outV_1 (by omega), md_nI (by omega) h]
theorem pSi_le {si : Nat} (h : si ≤ 256) : pSi si ≤ 256 := by
  unfold pSi
  by_cases q : si ≤ 240
  · rw [if_pos q]; omega
  · rw [if_neg q]; exact h
theorem pTx_lt {si : Nat} {tx : Nat → Nat} {a1 a2 a3 a4 : Int32} (h : ∀ j, tx j < 256) : ∀ j, pTx si tx a1 a2 a3 a4 j < 256 := by
  unfold pTx
  by_cases q : si ≤ 240
  · rw [if_pos q]; exact bk_lt h (fun j => by16_lt _ _ _ _ _)
  · rw [if_neg q]; exact h
theorem by16_0 {a1 a2 a3 a4 : Int32} {j : Nat} (h : j < 4) : by16 a1 a2 a3 a4 j = by4 a1 (j % 4) := by
  unfold by16
  rw [if_pos h]
theorem by16_1 {a1 a2 a3 a4 : Int32} {j : Nat} (h : 4 ≤ j) (h2 : j < 8) : by16 a1 a2 a3 a4 j = by4 a2 (j % 4) := by
  unfold by16
  rw [if_neg (by omega), if_pos h2]
theorem by16_2 {a1 a2 a3 a4 : Int32} {j : Nat} (h : 8 ≤ j) (h2 : j < 12) : by16 a1 a2 a3 a4 j = by4 a3 (j % 4) := by
  unfold by16
  rw [if_neg (by omega), if_neg (by omega), if_pos h2]
theorem by16_3 {a1 a2 a3 a4 : Int32} {j : Nat} (h : 12 ≤ j) : by16 a1 a2 a3 a4 j = by4 a4 (j % 4) := by
  unfold by16
  rw [if_neg (by omega), if_neg (by omega), if_neg (by omega)]
theorem put16 (tx : Nat → Nat) (si : Nat) (a1 a2 a3 a4 : Int32) : bk (bk (bk (bk tx si (fun q => by4 a1 q) 4) (si + 4) (fun q => by4 a2 q) 4) (si + 8) (fun q => by4 a3 q) 4) (si + 12) (fun q => by4 a4 q) 4 = bk tx si (fun q => by16 a1 a2 a3 a4 q) 16 := by
  have e0 : bk tx si (fun q => by4 a1 q) 4 = bk tx si (fun q => by16 a1 a2 a3 a4 q) 4 := by
    have e := bk_bk tx si (fun q => by16 a1 a2 a3 a4 q) (fun q => by4 a1 q) (fun q => by16 a1 a2 a3 a4 q) 0 4 (fun _ _ => rfl) (fun j hj => by show by16 a1 a2 a3 a4 (0 + j) = by4 a1 j; rw [Nat.zero_add, by16_0 hj, Nat.mod_eq_of_lt hj])
    rw [bk_0] at e
    exact e
  rw [e0, bk_bk tx si (fun q => by16 a1 a2 a3 a4 q) (fun q => by4 a2 q) (fun q => by16 a1 a2 a3 a4 q) 4 4 (fun _ _ => rfl) (fun j hj => by show by16 a1 a2 a3 a4 (4 + j) = by4 a2 j; rw [by16_1 (by omega) (by omega), show (4 + j) % 4 = j by omega])]
  rw [bk_bk tx si (fun q => by16 a1 a2 a3 a4 q) (fun q => by4 a3 q) (fun q => by16 a1 a2 a3 a4 q) (4 + 4) 4 (fun _ _ => rfl) (fun j hj => by show by16 a1 a2 a3 a4 (4 + 4 + j) = by4 a3 j; rw [by16_2 (by omega) (by omega), show (4 + 4 + j) % 4 = j by omega])]
  rw [bk_bk tx si (fun q => by16 a1 a2 a3 a4 q) (fun q => by4 a4 q) (fun q => by16 a1 a2 a3 a4 q) (4 + 4 + 4) 4 (fun _ _ => rfl) (fun j hj => by show by16 a1 a2 a3 a4 (4 + 4 + 4 + j) = by4 a4 j; rw [by16_3 (by omega), show (4 + 4 + 4 + j) % 4 = j by omega])]
theorem x_m255 {v : Nat} (h : v < 128) : nI v &&& nI 255 = nI v := by
  rw [pk_andN (by omega) 8 (by decide +kernel), Nat.mod_eq_of_lt (by omega)]
end
section
/-! calls of a method with handlers (starting text: kit/laws/EXCEPTIONS.to-paste, four rows of it) -/
section VXH
variable {p : Program} {l : Launch} {e : Env} {R : Room} {s : State} {m : MethodId} {args : Array Value} {below : List Frame} {meth : Method} {c : Code} {T : State} {H : Heap} {locs : List Loc} {cells slots : Nat}
theorem vx_callVW (X : Stand p l e R s m args below meth c T locs cells slots) (hexec : p.tables.exec = Jvm.exec) {own C : String} {index : Nat} {y : MethodName} {bytes : ByteArray} {maxL : Nat} {ret : Option FieldType} {hh : List (Nat × Nat × Nat × Nat)}
    (hown : s.vm.findClass own = some m.cls) (hlink : (Cond.methodLink own index y).before args s = true) (hinst : (Cond.instanceMethod y).before args s = true) (hsel : (Cond.selects C y y).before args s = true)
    (hcode : (Cond.codeWith y bytes maxL ret hh).before args s = true) (hy : y.cls ≠ "java/lang/invoke/MethodHandle" ∧ y.cls ≠ "java/lang/invoke/VarHandle")
    {W9 : Nat} {Pre : Pt → Array Value → Prop} {Post : Pt → Array Value → Option Value → Pt → Prop} (hK : Back l R p e below s args y 3 W9 Pre Post)
    {b : Addr} {cellB : Cell} (hcell : T.heap[b]? = some cellB) (hobj : cellB.vm.isStatics = false) (hcls : s.vm.findClass C = some cellB.cls)
    {g : JFrame} (hg : g.method = m) (hsize : g.locals.size = c.maxLocals) {argsL rest : List Value} (hlen : ∀ sig, parseMethodDescriptor y.desc = some sig → argsL.length = sig.parameters.length)
    (hstack : g.stack = argsL.reverse ++ .ref b :: rest) (hW : 2 * g.monitorRoom + (rest.map fun v => v.category).sum ≤ W9) (hdg : decode c.code g.pc = .ok (.invokevirtual index, 3))
    (hpre : ∀ vm₁, s.WarmedH vm₁ → Pre ⟨T.setVm vm₁, locs, cells, slots⟩ (Value.ref b :: argsL).toArray) :
    ∃ (v : Option Value) (vm₁ : Vm) (B : Pt), s.WarmedH vm₁ ∧ Stand p l e R s m args below meth c B.U B.locs B.cells B.slots ∧ Post ⟨T.setVm vm₁, locs, cells, slots⟩ (Value.ref b :: argsL).toArray v B ∧
      ∀ target, Steps p.tables e below (B.U.setTop { g with pc := g.pc + 3, stack := v.toList ++ rest }) target → Steps p.tables e below (T.setTop g) target := by
  obtain ⟨mk, methM, hnamed, hmethM, hstM, habM⟩ := Cond.instanceMethod_spec hinst
  obtain ⟨m8, methM', cM, hn8, hmethM', -, -, -, -, -, -, hsigM⟩ := Cond.codeWith_spec hcode
  cases Option.some.inj (hn8.symm.trans hnamed)
  cases hmethM.symm.trans hmethM'
  obtain ⟨c2, r2, m2, q1, q2, q3, q4, kP, hkP, hkPi⟩ := Cond.selects_spec hsel
  cases hcls.symm.trans q1
  cases (State.methodFound?_of_named hnamed hy).symm.trans q2
  cases hnamed.symm.trans q3
  have hselP : selectMethod e.platform s.vm cellB.cls mk = .method mk := by rw [Launch.admits_selectMethod X.admits]; exact q4
  obtain ⟨vm₁, X₁, hstep₁⟩ := X.invokevirtual hexec hown hlink hnamed hmethM hstM hkP hkPi hy (a := b) (cell := cellB) hcell
    (fun z h => by rw [h] at hobj; cases hobj) hselP hmethM habM hkP hkPi (g := g) hg (argsL := argsL) (rest := rest) (hlen _ hsigM) hstack hdg
  obtain ⟨v, B, X', hpost, hsteps⟩ := hK m meth c ⟨T.setVm vm₁, locs, cells, slots⟩ { g with stack := rest } (.invokevirtual index) mk (Value.ref b :: argsL).toArray X₁ hg hsize hdg hW (X₁.named hnamed) (hpre vm₁ X₁.warmed)
  exact ⟨v, vm₁, B, X₁.warmed, X', hpost, fun target h => hstep₁ _ fun acts => by rw [doInvoke_state]; exact hsteps.trans h⟩
abbrev vx_CVW (R : Room) (s : State) (args : Array Value) (own C : String) (index : Nat) (y : MethodName) (bytes : ByteArray) (maxL : Nat) (ret : Option FieldType) (hh : List (Nat × Nat × Nat × Nat)) (ws : List Cond) (rm : Room) (mc ms n : Nat) : Prop :=
  (rm.cells = mc ∧ rm.slots = ms ∧ rm.frames + 1 ≤ R.frames ∧ 8 + (maxL + 11) + rm.locals ≤ R.locals ∧ (∀ w ∈ ws, ∀ (a' : Array Value) (U : State), s.WarmedH U.vm → w.before a' U = true) ∧ Cond.codeWith y bytes maxL ret hh ∈ ws) ∧
  (Cond.codeWith y bytes maxL ret hh).before args s = true ∧ (Cond.initialized y.cls).before args s = true ∧ (y.cls ≠ "java/lang/invoke/MethodHandle" ∧ y.cls ≠ "java/lang/invoke/VarHandle") ∧
  (∀ sig, parseMethodDescriptor y.desc = some sig → n = sig.parameters.length) ∧ (Cond.methodLink own index y).before args s = true ∧ (Cond.instanceMethod y).before args s = true ∧ (Cond.selects C y y).before args s = true
theorem vx_cwVW {own C : String} {index maxL mc ms : Nat} {y : MethodName} {bytes : ByteArray} {ret : Option FieldType} {hh : List (Nat × Nat × Nat × Nat)} {Ts ws ws' : List Cond} {rm : Room} (n : Nat) (ht : ∀ w ∈ Ts, w.before args s = true) (hT : GoodIn Ts (wsV own index C y ws)) (hw : ws = Cond.codeWith y bytes maxL ret hh :: ws') (hrc : rm.cells = mc) (hrs : rm.slots = ms)
    (hd : y.cls = C ∧ y.cls ≠ "java/lang/invoke/MethodHandle" ∧ y.cls ≠ "java/lang/invoke/VarHandle" ∧ (parseMethodDescriptor y.desc).map (fun d => d.parameters.length) = some n) (hR : rm.frames + 1 ≤ R.frames ∧ 8 + (maxL + 11) + rm.locals ≤ R.locals) :
    vx_CVW R s args own C index y bytes maxL ret hh ws rm mc ms n := by
  obtain ⟨hC, hd⟩ := hd
  subst hC
  have ok : ∀ w ∈ wsV own index y.cls y ws, w.before args s = true := fun w h => ht w (hT w h).1
  have hG : GoodIn Ts ws := fun w h => hT w (by unfold wsV; exact List.mem_append_right _ h)
  have hc : Cond.codeWith y bytes maxL ret hh ∈ ws := by rw [hw]; exact List.mem_cons_self
  refine ⟨⟨hrc, hrs, hR.1, hR.2, pay_in ht hG, hc⟩, ht _ (hG _ hc).1, ok _ (by simp [wsV]), ⟨hd.1, hd.2.1⟩, fun sig h => ?_, ok _ (by simp [wsV]), ok _ (by simp [wsV]), ok _ (by simp [wsV])⟩
  have h2 := hd.2.2
  rw [h] at h2
  exact (Option.some.inj h2).symm
theorem vx_runVW {y : MethodName} {bytes cc : ByteArray} {maxL nL mc ms n index : Nat} {ret : Option FieldType} {hh : List (Nat × Nat × Nat × Nat)} {ws : List Cond} {rm : Room} {Pc : Array Value → State → Prop} {Qc : Array Value → State → Outcome → State → Prop} {free : Addr → Prop} {Ts : List Cond} {own C : String} {b : Addr} {As rest : List Value} {g : JFrame}
    (S : CallFix p m c cc nL s args Ts own) (hM : Met l y ws rm Pc Qc mc ms free) (cw : vx_CVW R s args own C index y bytes maxL ret hh ws rm mc ms n) (hp : PreV s H C b Pc As)
    (hg : g.method = m) (hn : As.length = n) (hsize : g.locals.size = nL) (hstack : g.stack = As.reverse ++ .ref b :: rest) (hW : 2 * g.monitorRoom + (rest.map fun v => v.category).sum ≤ 8) (hdg : decode cc g.pc = .ok (.invokevirtual index, 3)) (hf : cells + mc ≤ R.cells ∧ slots + ms ≤ R.slots) :
    va_Run p l e R s m args below meth c H locs cells slots mc ms g rest (Qc (Value.ref b :: As).toArray) free := by
  obtain ⟨⟨hrc, hrs, hfr, hlo, hws, hcw⟩, hcode, hini, hy, hlen, hl, hin, hse⟩ := cw
  have hK : Back l R p e below s args y 3 8 (PreOf R mc ms Pc) (PostOf Qc mc ms free) := va_backW (hh := hh) (bytes := bytes) (maxL := maxL) (ret := ret) hM hp.1 hrc hrs hfr hlo hws hcw (fun a' U hW => word_at hW (Or.inl (by first | rfl | simp [Cond.onTables, Cond.keeps, Cond.steady])) hini)
  obtain ⟨hx, hb, hml, ho, -⟩ := S
  obtain ⟨-, ⟨cellB, hcB, hoB, hclB⟩, hPc⟩ := hp
  intro T hT X
  obtain ⟨v, vm₁, ⟨U', l2, c2, s2⟩, hW₁, X', ⟨g', mk, t, L, e1, e2, hq, h1, hL, h2, h3⟩, st⟩ := vx_callVW X hx (C := C) (hh := hh) (bytes := bytes) (maxL := maxL) (ret := ret) ho hl hin hse hcode hy hK (by rw [hT]; exact hcB) hoB hclB hg (hsize.trans hml.symm) (argsL := As) (rest := rest) (fun sig h => hn.trans (hlen sig h)) hstack hW (by rw [hb]; exact hdg)
    (fun vm₁ hW₁ => ⟨hf.1, hf.2, hPc (T.setVm vm₁) hT hW₁⟩)
  dsimp only [Pt.U, Pt.locs, Pt.cells, Pt.slots] at X' e1 e2 h1 h2 h3 st
  subst h1; subst h2; subst h3
  exact ⟨v, (T.setVm vm₁).calling g' mk (Value.ref b :: As).toArray, t, U', L, hT, X', hL, e1, e2, hq, st⟩
end VXH
end
section
set_option maxHeartbeats 4000000 in
set_option maxRecDepth 100000 in
/-- LetterDesk(): a text of 256 noughts, no letters -/
theorem m_X1_init (l : Launch) (G : gg_T) (sz : Nat) (h0 : Nat) : cT_v l yX1_init (ws_ yX1_init cX1_init 1 (none)) ({ frames := 1, cells := 2, slots := 256, locals := 12 }) G [(h0, .inr (3, [.null, .int (nI 0), .null]))] sz [.ref h0] (S := Nat × Nat) (fun _ => True) (fun u => [(h0, .inr (3, [.ref u.1, .int (nI 0), .ref u.2])), (u.1, .inl (G.2.1, 256, .inl (fun _ => 0))), (u.2, .inl (G.2.1, 0, .inl (fun _ => 0)))]) 2 256 := by
  refine Met.ofW (cc := cX1_init) (maxL := 1) (ret := none) (by decide) rfl ?_
  intro p e s m args below meth c s₁ B hml hv
  obtain ⟨rfl, hsz, E, hw⟩ := ent_ (own := RX1) B hml rfl hv
  have hr := B.returns
  have hlk := B.notSynchronized
  have hin : meth.name = "<init>" := (name_of_methodNamed B.named B.method).1
  subst hsz
  clear hv
  generalize va_A [(h0, .inr (3, [.null, .int (nI 0), .null]))] s.heap.size = A at E hw ⊢
  refine ent_f (Nat.le_of_ble_eq_true rfl) rfl (fun ls hl => ?_)
  have hl : lv_has ls 1 [(0, .ref h0)] := hl
  refine lv_aload_n E.1 E.2.1 dX1_init_0 rfl (lv_at hl 0 rfl) ?_
  refine obi E hl.1 q15 dX1_init_1 (Nat.le_of_ble_eq_true rfl) (Nat.le_of_ble_eq_true rfl) ?_
  refine lv_aload_n E.1 E.2.1 dX1_init_4 rfl (lv_at hl 0 rfl) ?_
  refine lv_sipush (v := nI 256) E.1 E.2.1 dX1_init_5 (by decide +kernel) ?_
  refine nwb E hw (Nat.le_of_ble_eq_true rfl) (by show _ ≤ 2; omega) (by show _ ≤ 256; omega) dX1_init_8 (fun td H hw => ?_)
  have hw : Wd G A s [(h0, .inr (3, [.null, .int (nI 0), .null])), (td, .inl (G.2.1, 256, .inl (fun _ => 0)))] H [] := hw
  refine W.cs (cells' := 1) (slots' := 256) rfl rfl ?_
  refine pff (ws' := [(h0, .inr (3, [.ref td, .int (nI 0), .null])), (td, .inl (G.2.1, 256, .inl (fun _ => 0)))]) E hw in_X1 tyX1 tyX1_ok nmX1 (ci := 3) rfl 0 rfl 0 (by decide) q18 rfl hin rfl rfl rfl (Nat.le_of_ble_eq_true rfl) rfl dX1_init_10 (fun H locs hw => ?_)
  refine lv_aload_n E.1 E.2.1 dX1_init_13 rfl (lv_at hl 0 rfl) ?_
  refine lv_iconst (v := nI 0) E.1 E.2.1 dX1_init_14 (by decide +kernel) ?_
  refine nwb E hw (Nat.le_of_ble_eq_true rfl) (by show _ ≤ 2; omega) (by show _ ≤ 256; omega) dX1_init_15 (fun od H hw => ?_)
  have hw : Wd G A s [(h0, .inr (3, [.ref td, .int (nI 0), .null])), (td, .inl (G.2.1, 256, .inl (fun _ => 0))), (od, .inl (G.2.1, 0, .inl (fun _ => 0)))] H locs := hw
  refine W.cs (cells' := 2) (slots' := 256) rfl rfl ?_
  refine pf (ws' := [(h0, .inr (3, [.ref td, .int (nI 0), .ref od])), (td, .inl (G.2.1, 256, .inl (fun _ => 0))), (od, .inl (G.2.1, 0, .inl (fun _ => 0)))]) E hw in_X1 tyX1 tyX1_ok nmX1 (ci := 3) rfl 0 rfl 2 (by decide) q20 rfl rfl rfl (Nat.le_of_ble_eq_true rfl) rfl dX1_init_17 (fun H locs hw => ?_)
  have hw : Wd G A s [(h0, .inr (3, [.ref td, .int (nI 0), .ref od])), (td, .inl (G.2.1, 256, .inl (fun _ => 0))), (od, .inl (G.2.1, 0, .inl (fun _ => 0)))] H locs := hw.sub [0, 1, 2] (by decide) rfl
  exact ret_v E hw hr hlk (by omega) (by omega) ((td, od)) trivial rfl dX1_init_20
set_option maxHeartbeats 4000000 in
set_option maxRecDepth 100000 in
/-- Told(): a text of 256 noughts, no letters -/
theorem m_X2_init (l : Launch) (G : gg_T) (sz : Nat) (h0 : Nat) : cT_v l yX2_init (ws_ yX2_init cX2_init 1 (none)) ({ frames := 1, cells := 2, slots := 256, locals := 12 }) G [(h0, .inr (4, [.null, .int (nI 0), .null]))] sz [.ref h0] (S := Nat × Nat) (fun _ => True) (fun u => [(h0, .inr (4, [.ref u.1, .int (nI 0), .ref u.2])), (u.1, .inl (G.2.2.1, 256, .inl (fun _ => 0))), (u.2, .inl (G.2.2.1, 0, .inl (fun _ => 0)))]) 2 256 := by
  refine Met.ofW (cc := cX2_init) (maxL := 1) (ret := none) (by decide) rfl ?_
  intro p e s m args below meth c s₁ B hml hv
  obtain ⟨rfl, hsz, E, hw⟩ := ent_ (own := RX2) B hml rfl hv
  have hr := B.returns
  have hlk := B.notSynchronized
  have hin : meth.name = "<init>" := (name_of_methodNamed B.named B.method).1
  subst hsz
  clear hv
  generalize va_A [(h0, .inr (4, [.null, .int (nI 0), .null]))] s.heap.size = A at E hw ⊢
  refine ent_f (Nat.le_of_ble_eq_true rfl) rfl (fun ls hl => ?_)
  have hl : lv_has ls 1 [(0, .ref h0)] := hl
  refine lv_aload_n E.1 E.2.1 dX2_init_0 rfl (lv_at hl 0 rfl) ?_
  refine obi E hl.1 q34 dX2_init_1 (Nat.le_of_ble_eq_true rfl) (Nat.le_of_ble_eq_true rfl) ?_
  refine lv_aload_n E.1 E.2.1 dX2_init_4 rfl (lv_at hl 0 rfl) ?_
  refine lv_sipush (v := nI 256) E.1 E.2.1 dX2_init_5 (by decide +kernel) ?_
  refine nwi E hw (Nat.le_of_ble_eq_true rfl) (by show _ ≤ 2; omega) (by show _ ≤ 256; omega) dX2_init_8 (fun td H hw => ?_)
  have hw : Wd G A s [(h0, .inr (4, [.null, .int (nI 0), .null])), (td, .inl (G.2.2.1, 256, .inl (fun _ => 0)))] H [] := hw
  refine W.cs (cells' := 1) (slots' := 256) rfl rfl ?_
  refine pff (ws' := [(h0, .inr (4, [.ref td, .int (nI 0), .null])), (td, .inl (G.2.2.1, 256, .inl (fun _ => 0)))]) E hw in_X2 tyX2 tyX2_ok nmX2 (ci := 4) rfl 0 rfl 0 (by decide) q35 rfl hin rfl rfl rfl (Nat.le_of_ble_eq_true rfl) rfl dX2_init_10 (fun H locs hw => ?_)
  refine lv_aload_n E.1 E.2.1 dX2_init_13 rfl (lv_at hl 0 rfl) ?_
  refine lv_iconst (v := nI 0) E.1 E.2.1 dX2_init_14 (by decide +kernel) ?_
  refine nwi E hw (Nat.le_of_ble_eq_true rfl) (by show _ ≤ 2; omega) (by show _ ≤ 256; omega) dX2_init_15 (fun od H hw => ?_)
  have hw : Wd G A s [(h0, .inr (4, [.ref td, .int (nI 0), .null])), (td, .inl (G.2.2.1, 256, .inl (fun _ => 0))), (od, .inl (G.2.2.1, 0, .inl (fun _ => 0)))] H locs := hw
  refine W.cs (cells' := 2) (slots' := 256) rfl rfl ?_
  refine pf (ws' := [(h0, .inr (4, [.ref td, .int (nI 0), .ref od])), (td, .inl (G.2.2.1, 256, .inl (fun _ => 0))), (od, .inl (G.2.2.1, 0, .inl (fun _ => 0)))]) E hw in_X2 tyX2 tyX2_ok nmX2 (ci := 4) rfl 0 rfl 2 (by decide) q38 rfl rfl rfl (Nat.le_of_ble_eq_true rfl) rfl dX2_init_17 (fun H locs hw => ?_)
  have hw : Wd G A s [(h0, .inr (4, [.ref td, .int (nI 0), .ref od])), (td, .inl (G.2.2.1, 256, .inl (fun _ => 0))), (od, .inl (G.2.2.1, 0, .inl (fun _ => 0)))] H locs := hw.sub [0, 1, 2] (by decide) rfl
  exact ret_v E hw hr hlk (by omega) (by omega) ((td, od)) trivial rfl dX2_init_20
set_option maxHeartbeats 4000000 in
set_option maxRecDepth 100000 in
/-- LetterDesk.word: four bytes of an int -/
theorem m_X1_word (l : Launch) (G : gg_T) (sz : Nat) (td a : Nat) (w : Int32) (tx : Nat → Nat) (ha : a + 4 ≤ 256) : cT_v l yX1_word (ws_ yX1_word cX1_word 3 (none)) ({ frames := 0, cells := 0, slots := 0, locals := 0 }) G [(td, .inl (G.2.1, 256, .inl (fun j => sb_b (tx j))))] sz [.ref td, .int (nI a), .int w] (S := Unit) (fun _ => True) (fun _ => [(td, .inl (G.2.1, 256, .inl (fun j => sb_b (bk tx a (fun q => by4 w q) 4 j))))]) 0 0 := by
  refine Met.ofW (cc := cX1_word) (maxL := 3) (ret := none) (by decide) rfl ?_
  intro p e s m args below meth c s₁ B hml hv
  obtain ⟨rfl, hsz, E, hw⟩ := ent_ (own := RX1) B hml rfl hv
  have hr := B.returns
  have hlk := B.notSynchronized
  subst hsz
  clear hv
  generalize va_A [(td, .inl (G.2.1, 256, .inl (fun j => sb_b (tx j))))] s.heap.size = A at E hw ⊢
  refine ent_f (Nat.le_of_ble_eq_true rfl) rfl (fun ls hl => ?_)
  have hl : lv_has ls 3 [(0, .ref td), (1, .int (nI a)), (2, .int w)] := hl
  refine lv_aload_n E.1 E.2.1 dX1_word_0 rfl (lv_at hl 0 rfl) ?_
  refine lv_iload_n E.1 E.2.1 dX1_word_1 rfl (lv_at hl 1 rfl) ?_
  refine lv_iload_n E.1 E.2.1 dX1_word_2 rfl (lv_at hl 2 rfl) ?_
  refine lv_bipush (v := nI 24) E.1 E.2.1 dX1_word_3 (by decide +kernel) ?_
  refine lv_ishr E.1 E.2.1 dX1_word_5 ?_
  refine lv_i2b E.1 E.2.1 dX1_word_6 rfl ?_
  refine tv (y := sb_b (by4 w 0)) (by4_b w rfl) ?_
  refine bst (ws' := [(td, .inl (G.2.1, 256, .inl (bk (fun j => sb_b (tx j)) a (fun q => sb_b (by4 w q)) 1)))]) E hw 0 rfl (by omega) (by omega) (bk (fun j => sb_b (tx j)) a (fun q => sb_b (by4 w q)) 1) (bk_upd0 rfl (nar_sb _)) rfl dX1_word_7 (fun H locs hw => ?_)
  refine lv_aload_n E.1 E.2.1 dX1_word_8 rfl (lv_at hl 0 rfl) ?_
  refine lv_iload_n E.1 E.2.1 dX1_word_9 rfl (lv_at hl 1 rfl) ?_
  refine lv_iconst (v := nI 1) E.1 E.2.1 dX1_word_10 (by decide +kernel) ?_
  refine n_iadd (d := a + 1) E dX1_word_11 rfl ?_
  refine lv_iload_n E.1 E.2.1 dX1_word_12 rfl (lv_at hl 2 rfl) ?_
  refine lv_bipush (v := nI 16) E.1 E.2.1 dX1_word_13 (by decide +kernel) ?_
  refine lv_ishr E.1 E.2.1 dX1_word_15 ?_
  refine lv_i2b E.1 E.2.1 dX1_word_16 rfl ?_
  refine tv (y := sb_b (by4 w 1)) (by4_b w rfl) ?_
  refine bst (ws' := [(td, .inl (G.2.1, 256, .inl (bk (fun j => sb_b (tx j)) a (fun q => sb_b (by4 w q)) 2)))]) E hw 0 rfl (by omega) (by omega) (bk (fun j => sb_b (tx j)) a (fun q => sb_b (by4 w q)) 2) (bk_upd rfl (nar_sb _)) rfl dX1_word_17 (fun H locs hw => ?_)
  refine lv_aload_n E.1 E.2.1 dX1_word_18 rfl (lv_at hl 0 rfl) ?_
  refine lv_iload_n E.1 E.2.1 dX1_word_19 rfl (lv_at hl 1 rfl) ?_
  refine lv_iconst (v := nI 2) E.1 E.2.1 dX1_word_20 (by decide +kernel) ?_
  refine n_iadd (d := a + 2) E dX1_word_21 rfl ?_
  refine lv_iload_n E.1 E.2.1 dX1_word_22 rfl (lv_at hl 2 rfl) ?_
  refine lv_bipush (v := nI 8) E.1 E.2.1 dX1_word_23 (by decide +kernel) ?_
  refine lv_ishr E.1 E.2.1 dX1_word_25 ?_
  refine lv_i2b E.1 E.2.1 dX1_word_26 rfl ?_
  refine tv (y := sb_b (by4 w 2)) (by4_b w rfl) ?_
  refine bst (ws' := [(td, .inl (G.2.1, 256, .inl (bk (fun j => sb_b (tx j)) a (fun q => sb_b (by4 w q)) 3)))]) E hw 0 rfl (by omega) (by omega) (bk (fun j => sb_b (tx j)) a (fun q => sb_b (by4 w q)) 3) (bk_upd rfl (nar_sb _)) rfl dX1_word_27 (fun H locs hw => ?_)
  refine lv_aload_n E.1 E.2.1 dX1_word_28 rfl (lv_at hl 0 rfl) ?_
  refine lv_iload_n E.1 E.2.1 dX1_word_29 rfl (lv_at hl 1 rfl) ?_
  refine lv_iconst (v := nI 3) E.1 E.2.1 dX1_word_30 (by decide +kernel) ?_
  refine n_iadd (d := a + 3) E dX1_word_31 rfl ?_
  refine lv_iload_n E.1 E.2.1 dX1_word_32 rfl (lv_at hl 2 rfl) ?_
  refine lv_i2b E.1 E.2.1 dX1_word_33 rfl ?_
  refine tv (y := sb_b (by4 w 3)) (by4_b3 w) ?_
  refine bst (ws' := [(td, .inl (G.2.1, 256, .inl (bk (fun j => sb_b (tx j)) a (fun q => sb_b (by4 w q)) 4)))]) E hw 0 rfl (by omega) (by omega) (bk (fun j => sb_b (tx j)) a (fun q => sb_b (by4 w q)) 4) (bk_upd rfl (nar_sb _)) rfl dX1_word_34 (fun H locs hw => ?_)
  have hw : Wd G A s [(td, .inl (G.2.1, 256, .inl (fun j => sb_b (bk tx a (fun q => by4 w q) 4 j))))] H locs := hw.cong 0 rfl (fun j _ => congrFun (show (bk (fun j => sb_b (tx j)) a (fun q => sb_b (by4 w q)) 4) = (fun j => sb_b (bk tx a (fun q => by4 w q) 4 j)) from (bk_map sb_b tx a (fun q => by4 w q) 4)) j) rfl
  have hw : Wd G A s [(td, .inl (G.2.1, 256, .inl (fun j => sb_b (bk tx a (fun q => by4 w q) 4 j))))] H locs := hw.sub [0] (by decide) rfl
  exact ret_v E hw hr hlk (by omega) (by omega) (()) trivial rfl dX1_word_35
set_option maxHeartbeats 4000000 in
set_option maxRecDepth 100000 in
/-- LetterDesk.put: sixteen bytes where they fit -/
theorem m_X1_put (l : Launch) (G : gg_T) (sz : Nat) (hd td od si : Nat) (tx : Nat → Nat) (a1 a2 a3 a4 : Int32) (hsi : si ≤ 256) : cT_i l yX1_put (ws_ yX1_put cX1_put 5 (some .boolean)) ({ frames := 1, cells := 0, slots := 0, locals := 24 }) G [(hd, .inr (3, [.ref td, .int (nI si), .ref od])), (td, .inl (G.2.1, 256, .inl (fun j => sb_b (tx j))))] sz [.ref hd, .int a1, .int a2, .int a3, .int a4] (S := Unit) (fun r _ => r = if si ≤ 240 then nI 1 else nI 0) (fun _ => [(hd, .inr (3, [.ref td, .int (nI (pSi si)), .ref od])), (td, .inl (G.2.1, 256, .inl (fun j => sb_b ((pTx si tx a1 a2 a3 a4) j))))]) 0 0 := by
  refine Met.ofW (cc := cX1_put) (maxL := 5) (ret := some .boolean) (by decide) rfl ?_
  intro p e s m args below meth c s₁ B hml hv
  obtain ⟨rfl, hsz, E, hw⟩ := ent_ (own := RX1) B hml rfl hv
  have hr := B.returns
  have hlk := B.notSynchronized
  subst hsz
  clear hv
  generalize va_A [(hd, .inr (3, [.ref td, .int (nI si), .ref od])), (td, .inl (G.2.1, 256, .inl (fun j => sb_b (tx j))))] s.heap.size = A at E hw ⊢
  refine ent_f (Nat.le_of_ble_eq_true rfl) rfl (fun ls hl => ?_)
  have hl : lv_has ls 5 [(0, .ref hd), (1, .int a1), (2, .int a2), (3, .int a3), (4, .int a4)] := hl
  refine lv_aload_n E.1 E.2.1 dX1_put_0 rfl (lv_at hl 0 rfl) ?_
  refine gf (v := .int (nI si)) E hw in_X1 (ci := 3) rfl 0 rfl 1 (by decide) q19 rfl dX1_put_1 ?_
  refine lv_aload_n E.1 E.2.1 dX1_put_4 rfl (lv_at hl 0 rfl) ?_
  refine gf (v := .ref td) E hw in_X1 (ci := 3) rfl 0 rfl 0 (by decide) q18 rfl dX1_put_5 ?_
  refine bln E hw 1 rfl dX1_put_8 ?_
  refine lv_bipush (v := nI 16) E.1 E.2.1 dX1_put_9 (by decide +kernel) ?_
  refine n_isub (d := 240) E dX1_put_11 rfl ?_
  refine n_icmp_le (tgt := 17) E dX1_put_12 (by decide) (by omega) (by omega) (fun c_12 => ?_) (fun c_12 => ?_)
  · skip
    have e1 : pSi si = si + 16 := if_pos (by omega)
    have e2 : pTx si tx a1 a2 a3 a4 = bk tx si (fun q => by16 a1 a2 a3 a4 q) 16 := if_pos (by omega)
    refine lv_aload_n E.1 E.2.1 dX1_put_17 rfl (lv_at hl 0 rfl) ?_
    refine gf (v := .ref td) E hw in_X1 (ci := 3) rfl 0 rfl 0 (by decide) q18 rfl dX1_put_18 ?_
    refine lv_aload_n E.1 E.2.1 dX1_put_21 rfl (lv_at hl 0 rfl) ?_
    refine gf (v := .int (nI si)) E hw in_X1 (ci := 3) rfl 0 rfl 1 (by decide) q19 rfl dX1_put_22 ?_
    refine lv_iload_n E.1 E.2.1 dX1_put_25 rfl (lv_at hl 1 rfl) ?_
    refine cl_v (wr := [(hd, .inr (3, [.ref td, .int (nI si), .ref od]))]) (va_runS (As := [.ref td, .int (nI si), .int a1]) (rest := []) E.fix (m_X1_word l G s.heap.size td (si) a1 tx (by omega)) (va_cwS 3 E.hts (lw_S q58 q59 q4 q60) rfl rfl rfl (by decide +kernel) ⟨Nat.le_of_ble_eq_true rfl, Nat.le_of_ble_eq_true rfl⟩) (preS_ok E hw [1] rfl (by decide)) rfl rfl hl.1 rfl (lv_room (Nat.le_of_ble_eq_true rfl)) dX1_put_26 ⟨(by show _ ≤ 0; omega), (by show _ ≤ 0; omega)⟩) E hw [1] [0] rfl rfl (by decide) (by decide) (fun u H locs hp hw => ?_)
    have hw : Wd G A s [(hd, .inr (3, [.ref td, .int (nI si), .ref od])), (td, .inl (G.2.1, 256, .inl (fun j => sb_b ((bk tx (si) (fun q => by4 a1 q) 4) j))))] H locs := hw
    refine W.cs (cells' := 0) (slots' := 0) rfl rfl ?_
    refine lv_aload_n E.1 E.2.1 dX1_put_29 rfl (lv_at hl 0 rfl) ?_
    refine gf (v := .ref td) E hw in_X1 (ci := 3) rfl 0 rfl 0 (by decide) q18 rfl dX1_put_30 ?_
    refine lv_aload_n E.1 E.2.1 dX1_put_33 rfl (lv_at hl 0 rfl) ?_
    refine gf (v := .int (nI si)) E hw in_X1 (ci := 3) rfl 0 rfl 1 (by decide) q19 rfl dX1_put_34 ?_
    refine lv_iconst (v := nI 4) E.1 E.2.1 dX1_put_37 (by decide +kernel) ?_
    refine n_iadd (d := si + 4) E dX1_put_38 rfl ?_
    refine lv_iload_n E.1 E.2.1 dX1_put_39 rfl (lv_at hl 2 rfl) ?_
    refine cl_v (wr := [(hd, .inr (3, [.ref td, .int (nI si), .ref od]))]) (va_runS (As := [.ref td, .int (nI (si + 4)), .int a2]) (rest := []) E.fix (m_X1_word l G H.size td (si + 4) a2 (bk tx (si) (fun q => by4 a1 q) 4) (by omega)) (va_cwS 3 E.hts (lw_S q58 q59 q4 q60) rfl rfl rfl (by decide +kernel) ⟨Nat.le_of_ble_eq_true rfl, Nat.le_of_ble_eq_true rfl⟩) (preS_ok E hw [1] rfl (by decide)) rfl rfl hl.1 rfl (lv_room (Nat.le_of_ble_eq_true rfl)) dX1_put_40 ⟨(by show _ ≤ 0; omega), (by show _ ≤ 0; omega)⟩) E hw [1] [0] rfl rfl (by decide) (by decide) (fun u H locs hp hw => ?_)
    have hw : Wd G A s [(hd, .inr (3, [.ref td, .int (nI si), .ref od])), (td, .inl (G.2.1, 256, .inl (fun j => sb_b ((bk (bk tx (si) (fun q => by4 a1 q) 4) (si + 4) (fun q => by4 a2 q) 4) j))))] H locs := hw
    refine W.cs (cells' := 0) (slots' := 0) rfl rfl ?_
    refine lv_aload_n E.1 E.2.1 dX1_put_43 rfl (lv_at hl 0 rfl) ?_
    refine gf (v := .ref td) E hw in_X1 (ci := 3) rfl 0 rfl 0 (by decide) q18 rfl dX1_put_44 ?_
    refine lv_aload_n E.1 E.2.1 dX1_put_47 rfl (lv_at hl 0 rfl) ?_
    refine gf (v := .int (nI si)) E hw in_X1 (ci := 3) rfl 0 rfl 1 (by decide) q19 rfl dX1_put_48 ?_
    refine lv_bipush (v := nI 8) E.1 E.2.1 dX1_put_51 (by decide +kernel) ?_
    refine n_iadd (d := si + 8) E dX1_put_53 rfl ?_
    refine lv_iload_n E.1 E.2.1 dX1_put_54 rfl (lv_at hl 3 rfl) ?_
    refine cl_v (wr := [(hd, .inr (3, [.ref td, .int (nI si), .ref od]))]) (va_runS (As := [.ref td, .int (nI (si + 8)), .int a3]) (rest := []) E.fix (m_X1_word l G H.size td (si + 8) a3 (bk (bk tx (si) (fun q => by4 a1 q) 4) (si + 4) (fun q => by4 a2 q) 4) (by omega)) (va_cwS 3 E.hts (lw_S q58 q59 q4 q60) rfl rfl rfl (by decide +kernel) ⟨Nat.le_of_ble_eq_true rfl, Nat.le_of_ble_eq_true rfl⟩) (preS_ok E hw [1] rfl (by decide)) rfl rfl hl.1 rfl (lv_room (Nat.le_of_ble_eq_true rfl)) dX1_put_55 ⟨(by show _ ≤ 0; omega), (by show _ ≤ 0; omega)⟩) E hw [1] [0] rfl rfl (by decide) (by decide) (fun u H locs hp hw => ?_)
    have hw : Wd G A s [(hd, .inr (3, [.ref td, .int (nI si), .ref od])), (td, .inl (G.2.1, 256, .inl (fun j => sb_b ((bk (bk (bk tx (si) (fun q => by4 a1 q) 4) (si + 4) (fun q => by4 a2 q) 4) (si + 8) (fun q => by4 a3 q) 4) j))))] H locs := hw
    refine W.cs (cells' := 0) (slots' := 0) rfl rfl ?_
    refine lv_aload_n E.1 E.2.1 dX1_put_58 rfl (lv_at hl 0 rfl) ?_
    refine gf (v := .ref td) E hw in_X1 (ci := 3) rfl 0 rfl 0 (by decide) q18 rfl dX1_put_59 ?_
    refine lv_aload_n E.1 E.2.1 dX1_put_62 rfl (lv_at hl 0 rfl) ?_
    refine gf (v := .int (nI si)) E hw in_X1 (ci := 3) rfl 0 rfl 1 (by decide) q19 rfl dX1_put_63 ?_
    refine lv_bipush (v := nI 12) E.1 E.2.1 dX1_put_66 (by decide +kernel) ?_
    refine n_iadd (d := si + 12) E dX1_put_68 rfl ?_
    refine lv_iload E.1 E.2.1 dX1_put_69 (lv_at hl 4 rfl) ?_
    refine cl_v (wr := [(hd, .inr (3, [.ref td, .int (nI si), .ref od]))]) (va_runS (As := [.ref td, .int (nI (si + 12)), .int a4]) (rest := []) E.fix (m_X1_word l G H.size td (si + 12) a4 (bk (bk (bk tx (si) (fun q => by4 a1 q) 4) (si + 4) (fun q => by4 a2 q) 4) (si + 8) (fun q => by4 a3 q) 4) (by omega)) (va_cwS 3 E.hts (lw_S q58 q59 q4 q60) rfl rfl rfl (by decide +kernel) ⟨Nat.le_of_ble_eq_true rfl, Nat.le_of_ble_eq_true rfl⟩) (preS_ok E hw [1] rfl (by decide)) rfl rfl hl.1 rfl (lv_room (Nat.le_of_ble_eq_true rfl)) dX1_put_71 ⟨(by show _ ≤ 0; omega), (by show _ ≤ 0; omega)⟩) E hw [1] [0] rfl rfl (by decide) (by decide) (fun u H locs hp hw => ?_)
    have hw : Wd G A s [(hd, .inr (3, [.ref td, .int (nI si), .ref od])), (td, .inl (G.2.1, 256, .inl (fun j => sb_b ((bk (bk (bk (bk tx (si) (fun q => by4 a1 q) 4) (si + 4) (fun q => by4 a2 q) 4) (si + 8) (fun q => by4 a3 q) 4) (si + 12) (fun q => by4 a4 q) 4) j))))] H locs := hw
    refine W.cs (cells' := 0) (slots' := 0) rfl rfl ?_
    refine lv_aload_n E.1 E.2.1 dX1_put_74 rfl (lv_at hl 0 rfl) ?_
    refine lv_dup E.1 E.2.1 dX1_put_75 rfl ?_
    refine gf (v := .int (nI si)) E hw in_X1 (ci := 3) rfl 0 rfl 1 (by decide) q19 rfl dX1_put_76 ?_
    refine lv_bipush (v := nI 16) E.1 E.2.1 dX1_put_79 (by decide +kernel) ?_
    refine n_iadd (d := si + 16) E dX1_put_81 rfl ?_
    refine pf (ws' := [(hd, .inr (3, [.ref td, .int (nI (si + 16)), .ref od])), (td, .inl (G.2.1, 256, .inl (fun j => sb_b ((bk (bk (bk (bk tx (si) (fun q => by4 a1 q) 4) (si + 4) (fun q => by4 a2 q) 4) (si + 8) (fun q => by4 a3 q) 4) (si + 12) (fun q => by4 a4 q) 4) j))))]) E hw in_X1 tyX1 tyX1_ok nmX1 (ci := 3) rfl 0 rfl 1 (by decide) q19 rfl rfl rfl (Nat.le_of_ble_eq_true rfl) rfl dX1_put_82 (fun H locs hw => ?_)
    refine lv_iconst (v := nI 1) E.1 E.2.1 dX1_put_85 (by decide +kernel) ?_
    have hw : Wd G A s [(hd, .inr (3, [.ref td, .int (nI (si + 16)), .ref od])), (td, .inl (G.2.1, 256, .inl (fun j => sb_b ((bk tx si (fun q => by16 a1 a2 a3 a4 q) 16) j))))] H locs := hw.cong 1 rfl (fun j _ => congrFun (show (fun j => sb_b ((bk (bk (bk (bk tx (si) (fun q => by4 a1 q) 4) (si + 4) (fun q => by4 a2 q) 4) (si + 8) (fun q => by4 a3 q) 4) (si + 12) (fun q => by4 a4 q) 4) j)) = (fun j => sb_b ((bk tx si (fun q => by16 a1 a2 a3 a4 q) 16) j)) from (funext (fun j => congrArg sb_b (congrFun (put16 tx si a1 a2 a3 a4) j)))) j) rfl
    have hw : Wd G A s [(hd, .inr (3, [.ref td, .int (nI (si + 16)), .ref od])), (td, .inl (G.2.1, 256, .inl (fun j => sb_b ((bk tx si (fun q => by16 a1 a2 a3 a4 q) 16) j))))] H locs := hw.sub [0, 1] (by decide) rfl
    exact ret_z E hw hr hlk (by omega) (by omega) () (by decide +kernel) (by rw [if_pos (by omega)]) (by rw [e1, e2]) dX1_put_86
  · skip
    have e1 : pSi si = si := if_neg (by omega)
    have e2 : pTx si tx a1 a2 a3 a4 = tx := if_neg (by omega)
    refine lv_iconst (v := nI 0) E.1 E.2.1 dX1_put_15 (by decide +kernel) ?_
    have hw : Wd G A s [(hd, .inr (3, [.ref td, .int (nI si), .ref od])), (td, .inl (G.2.1, 256, .inl (fun j => sb_b (tx j))))] s.heap [] := hw.sub [0, 1] (by decide) rfl
    exact ret_z E hw hr hlk (by omega) (by omega) () (by decide +kernel) (by rw [if_neg (by omega)]) (by rw [e1, e2]) dX1_put_16
set_option maxHeartbeats 4000000 in
set_option maxRecDepth 100000 in
/-- LetterDesk.from -/
theorem m_X1_from (l : Launch) (G : gg_T) (sz : Nat) (hd td od si : Nat) (x : Int32) (hsi : si ≤ 256) : cT_i l yX1_from (ws_ yX1_from cX1_from 2 (some .int)) ({ frames := 0, cells := 0, slots := 0, locals := 0 }) G [(hd, .inr (3, [.ref td, .int (nI si), .ref od]))] sz [.ref hd, .int x] (S := Unit) (fun r _ => r = nI (md x (si + 1))) (fun _ => [(hd, .inr (3, [.ref td, .int (nI si), .ref od]))]) 0 0 := by
  refine Met.ofW (cc := cX1_from) (maxL := 2) (ret := some .int) (by decide) rfl ?_
  intro p e s m args below meth c s₁ B hml hv
  obtain ⟨rfl, hsz, E, hw⟩ := ent_ (own := RX1) B hml rfl hv
  have hr := B.returns
  have hlk := B.notSynchronized
  subst hsz
  clear hv
  generalize va_A [(hd, .inr (3, [.ref td, .int (nI si), .ref od]))] s.heap.size = A at E hw ⊢
  refine ent_f (Nat.le_of_ble_eq_true rfl) rfl (fun ls hl => ?_)
  have hl : lv_has ls 2 [(0, .ref hd), (1, .int x)] := hl
  refine lv_iload_n E.1 E.2.1 dX1_from_0 rfl (lv_at hl 1 rfl) ?_
  refine lv_ldc (v := 2147483647) E.1 E.2.1 E.2.2.2.1 (E.hts _ q68) dX1_from_1 ?_
  refine lv_iand E.1 E.2.1 dX1_from_3 ?_
  refine tv (y := nI (lo31 x)) (lo31_and x) ?_
  refine lv_aload_n E.1 E.2.1 dX1_from_4 rfl (lv_at hl 0 rfl) ?_
  refine gf (v := .int (nI si)) E hw in_X1 (ci := 3) rfl 0 rfl 1 (by decide) q19 rfl dX1_from_5 ?_
  refine lv_iconst (v := nI 1) E.1 E.2.1 dX1_from_8 (by decide +kernel) ?_
  refine n_iadd (d := si + 1) E dX1_from_9 rfl ?_
  refine n_irem (d := md x (si + 1)) E dX1_from_10 (lo31_lt x) (by omega) (by omega) rfl ?_
  have hw : Wd G A s [(hd, .inr (3, [.ref td, .int (nI si), .ref od]))] s.heap [] := hw.sub [0] (by decide) rfl
  exact ret_i E hw hr hlk (by omega) (by omega) (()) rfl rfl dX1_from_11
set_option maxHeartbeats 4000000 in
set_option maxRecDepth 100000 in
/-- LetterDesk.count -/
theorem m_X1_count (l : Launch) (G : gg_T) (sz : Nat) (hd td od si fr : Nat) (x : Int32) (hsi : si ≤ 256) (hfr : fr ≤ si) : cT_i l yX1_count (ws_ yX1_count cX1_count 3 (some .int)) ({ frames := 0, cells := 0, slots := 0, locals := 0 }) G [(hd, .inr (3, [.ref td, .int (nI si), .ref od]))] sz [.ref hd, .int (nI fr), .int x] (S := Unit) (fun r _ => r = nI (md x (si - fr + 1))) (fun _ => [(hd, .inr (3, [.ref td, .int (nI si), .ref od]))]) 0 0 := by
  refine Met.ofW (cc := cX1_count) (maxL := 3) (ret := some .int) (by decide) rfl ?_
  intro p e s m args below meth c s₁ B hml hv
  obtain ⟨rfl, hsz, E, hw⟩ := ent_ (own := RX1) B hml rfl hv
  have hr := B.returns
  have hlk := B.notSynchronized
  subst hsz
  clear hv
  generalize va_A [(hd, .inr (3, [.ref td, .int (nI si), .ref od]))] s.heap.size = A at E hw ⊢
  refine ent_f (Nat.le_of_ble_eq_true rfl) rfl (fun ls hl => ?_)
  have hl : lv_has ls 3 [(0, .ref hd), (1, .int (nI fr)), (2, .int x)] := hl
  refine lv_iload_n E.1 E.2.1 dX1_count_0 rfl (lv_at hl 2 rfl) ?_
  refine lv_ldc (v := 2147483647) E.1 E.2.1 E.2.2.2.1 (E.hts _ q68) dX1_count_1 ?_
  refine lv_iand E.1 E.2.1 dX1_count_3 ?_
  refine tv (y := nI (lo31 x)) (lo31_and x) ?_
  refine lv_aload_n E.1 E.2.1 dX1_count_4 rfl (lv_at hl 0 rfl) ?_
  refine gf (v := .int (nI si)) E hw in_X1 (ci := 3) rfl 0 rfl 1 (by decide) q19 rfl dX1_count_5 ?_
  refine lv_iload_n E.1 E.2.1 dX1_count_8 rfl (lv_at hl 1 rfl) ?_
  refine n_isub (d := si - fr) E dX1_count_9 (by omega) ?_
  refine lv_iconst (v := nI 1) E.1 E.2.1 dX1_count_10 (by decide +kernel) ?_
  refine n_iadd (d := si - fr + 1) E dX1_count_11 rfl ?_
  refine n_irem (d := md x (si - fr + 1)) E dX1_count_12 (lo31_lt x) (by omega) (by omega) rfl ?_
  have hw : Wd G A s [(hd, .inr (3, [.ref td, .int (nI si), .ref od]))] s.heap [] := hw.sub [0] (by decide) rfl
  exact ret_i E hw hr hlk (by omega) (by omega) (()) rfl rfl dX1_count_13
set_option maxHeartbeats 4000000 in
set_option maxRecDepth 100000 in
/-- LetterDesk.trim -/
theorem m_X1_trim (l : Launch) (G : gg_T) (sz : Nat) (hd td od si : Nat) (x : Int32) (hsi : si ≤ 256) : cT_v l yX1_trim (ws_ yX1_trim cX1_trim 2 (none)) ({ frames := 1, cells := 0, slots := 0, locals := 24 }) G [(hd, .inr (3, [.ref td, .int (nI si), .ref od]))] sz [.ref hd, .int x] (S := Unit) (fun _ => True) (fun _ => [(hd, .inr (3, [.ref td, .int (nI (md x (si + 1))), .ref od]))]) 0 0 := by
  refine Met.ofW (cc := cX1_trim) (maxL := 2) (ret := none) (by decide) rfl ?_
  intro p e s m args below meth c s₁ B hml hv
  obtain ⟨rfl, hsz, E, hw⟩ := ent_ (own := RX1) B hml rfl hv
  have hr := B.returns
  have hlk := B.notSynchronized
  subst hsz
  clear hv
  generalize va_A [(hd, .inr (3, [.ref td, .int (nI si), .ref od]))] s.heap.size = A at E hw ⊢
  refine ent_f (Nat.le_of_ble_eq_true rfl) rfl (fun ls hl => ?_)
  have hl : lv_has ls 2 [(0, .ref hd), (1, .int x)] := hl
  refine lv_aload_n E.1 E.2.1 dX1_trim_0 rfl (lv_at hl 0 rfl) ?_
  refine lv_aload_n E.1 E.2.1 dX1_trim_1 rfl (lv_at hl 0 rfl) ?_
  refine lv_iload_n E.1 E.2.1 dX1_trim_2 rfl (lv_at hl 1 rfl) ?_
  refine cl_i (wr := []) (va_runV (As := [.int x]) (rest := [.ref hd]) E.fix (m_X1_from l G s.heap.size hd td od si x hsi) (cwV 1 E.hts (lw_V q106 q108 qs0 q4 q109) rfl rfl rfl (by decide +kernel) ⟨Nat.le_of_ble_eq_true rfl, Nat.le_of_ble_eq_true rfl⟩) (preV_ok E hw [0] rfl (by decide) 0 rfl (ci := 3) rfl) rfl rfl hl.1 rfl (lv_room (Nat.le_of_ble_eq_true rfl)) dX1_trim_3 ⟨(by show _ ≤ 0; omega), (by show _ ≤ 0; omega)⟩) E hw [0] [] rfl rfl (by decide) (by decide) (fun r u H locs hp hw => ?_)
  subst hp
  have hw : Wd G A s [(hd, .inr (3, [.ref td, .int (nI si), .ref od]))] H locs := hw
  refine W.cs (cells' := 0) (slots' := 0) rfl rfl ?_
  refine pf (ws' := [(hd, .inr (3, [.ref td, .int (nI (md x (si + 1))), .ref od]))]) E hw in_X1 tyX1 tyX1_ok nmX1 (ci := 3) rfl 0 rfl 1 (by decide) q19 rfl rfl rfl (Nat.le_of_ble_eq_true rfl) rfl dX1_trim_6 (fun H locs hw => ?_)
  have hw : Wd G A s [(hd, .inr (3, [.ref td, .int (nI (md x (si + 1))), .ref od]))] H locs := hw.sub [0] (by decide) rfl
  exact ret_v E hw hr hlk (by omega) (by omega) (()) trivial rfl dX1_trim_9
set_option maxHeartbeats 4000000 in
set_option maxRecDepth 100000 in
/-- LetterDesk.length -/
theorem m_X1_length (l : Launch) (G : gg_T) (sz : Nat) (hd td od si ln : Nat) (o : Nat → Nat) : cT_i l yX1_length (ws_ yX1_length cX1_length 1 (some .int)) ({ frames := 0, cells := 0, slots := 0, locals := 0 }) G [(hd, .inr (3, [.ref td, .int (nI si), .ref od])), (od, .inl (G.2.1, ln, .inl (fun j => nI (o j))))] sz [.ref hd] (S := Unit) (fun r _ => r = nI ln) (fun _ => [(hd, .inr (3, [.ref td, .int (nI si), .ref od])), (od, .inl (G.2.1, ln, .inl (fun j => nI (o j))))]) 0 0 := by
  refine Met.ofW (cc := cX1_length) (maxL := 1) (ret := some .int) (by decide) rfl ?_
  intro p e s m args below meth c s₁ B hml hv
  obtain ⟨rfl, hsz, E, hw⟩ := ent_ (own := RX1) B hml rfl hv
  have hr := B.returns
  have hlk := B.notSynchronized
  subst hsz
  clear hv
  generalize va_A [(hd, .inr (3, [.ref td, .int (nI si), .ref od])), (od, .inl (G.2.1, ln, .inl (fun j => nI (o j))))] s.heap.size = A at E hw ⊢
  refine ent_f (Nat.le_of_ble_eq_true rfl) rfl (fun ls hl => ?_)
  have hl : lv_has ls 1 [(0, .ref hd)] := hl
  refine lv_aload_n E.1 E.2.1 dX1_length_0 rfl (lv_at hl 0 rfl) ?_
  refine gf (v := .ref od) E hw in_X1 (ci := 3) rfl 0 rfl 2 (by decide) q20 rfl dX1_length_1 ?_
  refine bln E hw 1 rfl dX1_length_4 ?_
  have hw : Wd G A s [(hd, .inr (3, [.ref td, .int (nI si), .ref od])), (od, .inl (G.2.1, ln, .inl (fun j => nI (o j))))] s.heap [] := hw.sub [0, 1] (by decide) rfl
  exact ret_i E hw hr hlk (by omega) (by omega) (()) rfl rfl dX1_length_5
set_option maxHeartbeats 4000000 in
set_option maxRecDepth 100000 in
/-- LetterDesk.out -/
theorem m_X1_out (l : Launch) (G : gg_T) (sz : Nat) (hd td od si ln : Nat) (o : Nat → Nat) (x : Int32) (ho : ∀ j, o j < 128) (hln : ln ≤ 1000) : cT_i l yX1_out (ws_ yX1_out cX1_out 2 (some .int)) ({ frames := 0, cells := 0, slots := 0, locals := 0 }) G [(hd, .inr (3, [.ref td, .int (nI si), .ref od])), (od, .inl (G.2.1, ln, .inl (fun j => nI (o j))))] sz [.ref hd, .int x] (S := Unit) (fun r _ => r = outV o ln x) (fun _ => [(hd, .inr (3, [.ref td, .int (nI si), .ref od])), (od, .inl (G.2.1, ln, .inl (fun j => nI (o j))))]) 0 0 := by
  refine Met.ofW (cc := cX1_out) (maxL := 2) (ret := some .int) (by decide) rfl ?_
  intro p e s m args below meth c s₁ B hml hv
  obtain ⟨rfl, hsz, E, hw⟩ := ent_ (own := RX1) B hml rfl hv
  have hr := B.returns
  have hlk := B.notSynchronized
  subst hsz
  clear hv
  generalize va_A [(hd, .inr (3, [.ref td, .int (nI si), .ref od])), (od, .inl (G.2.1, ln, .inl (fun j => nI (o j))))] s.heap.size = A at E hw ⊢
  refine ent_f (Nat.le_of_ble_eq_true rfl) rfl (fun ls hl => ?_)
  have hl : lv_has ls 2 [(0, .ref hd), (1, .int x)] := hl
  refine lv_aload_n E.1 E.2.1 dX1_out_0 rfl (lv_at hl 0 rfl) ?_
  refine gf (v := .ref od) E hw in_X1 (ci := 3) rfl 0 rfl 2 (by decide) q20 rfl dX1_out_1 ?_
  refine bln E hw 1 rfl dX1_out_4 ?_
  refine n_if_ne (tgt := 12) E dX1_out_5 (by decide) (by omega) (fun c_5 => ?_) (fun c_5 => ?_)
  · skip
    refine lv_aload_n E.1 E.2.1 dX1_out_12 rfl (lv_at hl 0 rfl) ?_
    refine gf (v := .ref od) E hw in_X1 (ci := 3) rfl 0 rfl 2 (by decide) q20 rfl dX1_out_13 ?_
    refine lv_iload_n E.1 E.2.1 dX1_out_16 rfl (lv_at hl 1 rfl) ?_
    refine lv_ldc (v := 2147483647) E.1 E.2.1 E.2.2.2.1 (E.hts _ q68) dX1_out_17 ?_
    refine lv_iand E.1 E.2.1 dX1_out_19 ?_
    refine tv (y := nI (lo31 x)) (lo31_and x) ?_
    refine lv_aload_n E.1 E.2.1 dX1_out_20 rfl (lv_at hl 0 rfl) ?_
    refine gf (v := .ref od) E hw in_X1 (ci := 3) rfl 0 rfl 2 (by decide) q20 rfl dX1_out_21 ?_
    refine bln E hw 1 rfl dX1_out_24 ?_
    refine n_irem (d := md x ln) E dX1_out_25 (lo31_lt x) (by omega) (by omega) rfl ?_
    refine bld (v := nI (o (md x ln))) E hw 1 rfl (md_lt x (by omega)) (by omega) rfl dX1_out_26 ?_
    refine lv_sipush (v := nI 255) E.1 E.2.1 dX1_out_27 (by decide +kernel) ?_
    refine lv_iand E.1 E.2.1 dX1_out_30 ?_
    refine tv (y := nI (o (md x ln))) (x_m255 (ho _)) ?_
    have hw : Wd G A s [(hd, .inr (3, [.ref td, .int (nI si), .ref od])), (od, .inl (G.2.1, ln, .inl (fun j => nI (o j))))] s.heap [] := hw.sub [0, 1] (by decide) rfl
    exact ret_i E hw hr hlk (by omega) (by omega) (()) (outV_1 c_5).symm rfl dX1_out_31
  · skip
    refine lv_iconst (v := (-1)) E.1 E.2.1 dX1_out_8 (by decide +kernel) ?_
    refine lv_goto (tgt := 31) E.1 E.2.1 dX1_out_9 (by decide) ?_
    have hw : Wd G A s [(hd, .inr (3, [.ref td, .int (nI si), .ref od])), (od, .inl (G.2.1, ln, .inl (fun j => nI (o j))))] s.heap [] := hw.sub [0, 1] (by decide) rfl
    exact ret_i E hw hr hlk (by omega) (by omega) (()) (outV_0 c_5).symm rfl dX1_out_31
set_option maxHeartbeats 4000000 in
set_option maxRecDepth 100000 in
/-- LetterDesk.whole -/
theorem m_X1_whole (l : Launch) (G : gg_T) (sz : Nat) (hd td od si ln : Nat) (o : Nat → Nat) (hln : ln ≤ 1000) : cT_l l yX1_whole (ws_ yX1_whole cX1_whole 4 (some .long)) ({ frames := 0, cells := 0, slots := 0, locals := 0 }) G [(hd, .inr (3, [.ref td, .int (nI si), .ref od])), (od, .inl (G.2.1, ln, .inl (fun j => nI (o j))))] sz [.ref hd] (S := Unit) (fun r _ => r = whl (fun j => nI (o j)) ln) (fun _ => [(hd, .inr (3, [.ref td, .int (nI si), .ref od])), (od, .inl (G.2.1, ln, .inl (fun j => nI (o j))))]) 0 0 := by
  refine Met.ofW (cc := cX1_whole) (maxL := 4) (ret := some .long) (by decide) rfl ?_
  intro p e s m args below meth c s₁ B hml hv
  obtain ⟨rfl, hsz, E, hw⟩ := ent_ (own := RX1) B hml rfl hv
  have hr := B.returns
  have hlk := B.notSynchronized
  subst hsz
  clear hv
  generalize va_A [(hd, .inr (3, [.ref td, .int (nI si), .ref od])), (od, .inl (G.2.1, ln, .inl (fun j => nI (o j))))] s.heap.size = A at E hw ⊢
  refine ent_f (Nat.le_of_ble_eq_true rfl) rfl (fun ls hl => ?_)
  have hl : lv_has ls 4 [(0, .ref hd)] := hl
  have loop : ∀ (n : Nat) (i : Nat), i ≤ ln → ln < i + n → ∀ (H : Heap) (locs : List Loc), Wd G A s [(hd, .inr (3, [.ref td, .int (nI si), .ref od])), (od, .inl (G.2.1, ln, .inl (fun j => nI (o j))))] H locs → ∀ (ls : Array Slot), lv_has ls 4 [(0, .ref hd), (1, .long (whl (fun j => nI (o j)) i)), (3, .int (nI i))] → W p l e (headSpec (ws_ yX1_whole cX1_whole 4 (some .long)) ({ frames := 0, cells := 0, slots := 0, locals := 0 })).room s m ([.ref hd] : List Value).toArray below meth c H locs 0 0 (MQ below (va_Ql (S := Unit) (fun r _ => r = whl (fun j => nI (o j)) ln) (bw_ G A (fun _ => [(hd, .inr (3, [.ref td, .int (nI si), .ref od])), (od, .inl (G.2.1, ln, .inl (fun j => nI (o j))))])) A) ([.ref hd] : List Value).toArray s 0 0 A) (F0 m 4 ls []) := by
    intro n
    induction n with
    | zero =>
      intro i hi hn
      omega
    | succ n ih =>
      intro i hi hn H locs hw ls hl
      refine lv_iload_n E.1 E.2.1 dX1_whole_4 rfl (lv_at hl 2 rfl) ?_
      refine lv_aload_n E.1 E.2.1 dX1_whole_5 rfl (lv_at hl 0 rfl) ?_
      refine gf (v := .ref od) E hw in_X1 (ci := 3) rfl 0 rfl 2 (by decide) q20 rfl dX1_whole_6 ?_
      refine bln E hw 1 rfl dX1_whole_9 ?_
      refine n_icmp_ge (tgt := 33) E dX1_whole_10 (by decide) (by omega) (by omega) (fun c_10 => ?_) (fun c_10 => ?_)
      · skip
        have hi2 : ln = i := by omega
        subst hi2
        refine lv_lload_n E.1 E.2.1 dX1_whole_33 rfl (lv_at hl 1 rfl) ?_
        have hw : Wd G A s [(hd, .inr (3, [.ref td, .int (nI si), .ref od])), (od, .inl (G.2.1, ln, .inl (fun j => nI (o j))))] H locs := hw.sub [0, 1] (by decide) rfl
        exact ret_l E hw hr hlk (by omega) (by omega) (()) rfl rfl dX1_whole_34
      · skip
        refine lv_lload_n E.1 E.2.1 dX1_whole_13 rfl (lv_at hl 1 rfl) ?_
        refine lv_ldc2 (v := 31) E.1 E.2.1 E.2.2.2.1 (E.hts _ q78) dX1_whole_14 ?_
        refine lv_lmul E.1 E.2.1 dX1_whole_17 ?_
        refine lv_aload_n E.1 E.2.1 dX1_whole_18 rfl (lv_at hl 0 rfl) ?_
        refine gf (v := .ref od) E hw in_X1 (ci := 3) rfl 0 rfl 2 (by decide) q20 rfl dX1_whole_19 ?_
        refine lv_iload_n E.1 E.2.1 dX1_whole_22 rfl (lv_at hl 2 rfl) ?_
        refine bld (v := nI (o i)) E hw 1 rfl (by omega) (by omega) rfl dX1_whole_23 ?_
        refine lv_i2l E.1 E.2.1 dX1_whole_24 rfl ?_
        refine lv_ladd E.1 E.2.1 dX1_whole_25 ?_
        refine lv_lstore_n (lv' := [(1, .long (((whl (fun j => nI (o j)) i) * 31) + ((nI (o i)).toInt64))), (0, .ref hd), (3, .int (nI i))]) E.1 E.2.1 dX1_whole_26 rfl hl (by decide) rfl (fun ls hl => ?_)
        refine n_iinc (n := 1) (d := i + 1) (lv' := [(3, .int (nI (i + 1))), (1, .long (((whl (fun j => nI (o j)) i) * 31) + ((nI (o i)).toInt64))), (0, .ref hd)]) E dX1_whole_27 hl (k := 2) rfl (by omega) (by decide) rfl (fun ls hl => ?_)
        refine lv_goto (tgt := 4) E.1 E.2.1 dX1_whole_30 (by decide) ?_
        exact ih (i + 1) (by omega) (by omega) H locs (hw.sub [0, 1] (by decide) rfl) ls (lv_sub hl [2, 1, 0] rfl)
  refine lv_lconst (v := 0) E.1 E.2.1 dX1_whole_0 (by decide +kernel) ?_
  refine lv_lstore_n (lv' := [(1, .long 0), (0, .ref hd)]) E.1 E.2.1 dX1_whole_1 rfl hl (by decide) rfl (fun ls hl => ?_)
  refine lv_iconst (v := nI 0) E.1 E.2.1 dX1_whole_2 (by decide +kernel) ?_
  refine lv_istore_n (lv' := [(3, .int (nI 0)), (1, .long 0), (0, .ref hd)]) E.1 E.2.1 dX1_whole_3 rfl hl (by decide) rfl (fun ls hl => ?_)
  exact loop (ln + 1) 0 (by omega) (by omega) s.heap [] (hw.sub [0, 1] (by decide) rfl) ls (lv_sub hl [2, 1, 0] rfl)
end
section
set_option maxHeartbeats 4000000 in
set_option maxRecDepth 100000 in
/-- LetterDesk.room: whole groups -/
theorem m_X1_room (l : Launch) (G : gg_T) (sz : Nat) (hd td od si : Nat) (kd x : Int32) : cT_i l yX1_room (ws_ yX1_room cX1_room 4 (some .int)) ({ frames := 2, cells := 3, slots := 195, locals := 48 }) G [] sz [.ref hd, .int kd, .int x] (S := Unit) (fun r _ => r = nI (rmN (md kd 3) (lo16 x))) (fun _ => []) 3 195 := by
  refine Met.ofW (cc := cX1_room) (maxL := 4) (ret := some .int) (by decide) rfl ?_
  intro p e s m args below meth c s₁ B hml hv
  obtain ⟨rfl, hsz, E, hw⟩ := ent_ (own := RX1) B hml rfl hv
  have hr := B.returns
  have hlk := B.notSynchronized
  subst hsz
  clear hv
  generalize va_A [] s.heap.size = A at E hw ⊢
  refine ent_f (Nat.le_of_ble_eq_true rfl) rfl (fun ls hl => ?_)
  have hl : lv_has ls 4 [(0, .ref hd), (1, .int kd), (2, .int x)] := hl
  refine lv_iload_n E.1 E.2.1 dX1_room_0 rfl (lv_at hl 1 rfl) ?_
  refine lv_ldc (v := 2147483647) E.1 E.2.1 E.2.2.2.1 (E.hts _ q68) dX1_room_1 ?_
  refine lv_iand E.1 E.2.1 dX1_room_3 ?_
  refine tv (y := nI (lo31 kd)) (lo31_and kd) ?_
  refine lv_iconst (v := nI 3) E.1 E.2.1 dX1_room_4 (by decide +kernel) ?_
  refine n_irem (d := md kd 3) E dX1_room_5 (lo31_lt kd) (by omega) (by omega) rfl ?_
  refine lv_istore_n (lv' := [(3, .int (nI (md kd 3))), (0, .ref hd), (1, .int kd), (2, .int x)]) E.1 E.2.1 dX1_room_6 rfl hl (by decide) rfl (fun ls hl => ?_)
  refine lv_iload_n E.1 E.2.1 dX1_room_7 rfl (lv_at hl 0 rfl) ?_
  refine n_if_ne (tgt := 28) E dX1_room_8 (by decide) (by have := md_lt kd (m := 3) (by decide); omega) (fun c_8 => ?_) (fun c_8 => ?_)
  · skip
    refine lv_iload_n E.1 E.2.1 dX1_room_28 rfl (lv_at hl 0 rfl) ?_
    refine lv_iconst (v := nI 1) E.1 E.2.1 dX1_room_29 (by decide +kernel) ?_
    refine n_icmp_ne (tgt := 50) E dX1_room_30 (by decide) (by have := md_lt kd (m := 3) (by decide); omega) (by omega) (fun c_30 => ?_) (fun c_30 => ?_)
    · skip
      have hk : md kd 3 = 2 := by have := md_lt kd (m := 3) (by decide); omega
      have hlo := lo16_lt x
      refine nwo (fs := [.null, .int (nI 0), .null]) E hw in_X5 tyX5 tyX5_ok q167 q168 q8 (ci := 2) rfl (fun j hj => by rcases (show j = 0 ∨ j = 1 ∨ j = 2 by omega) with rfl | rfl | rfl <;> rfl) (by show _ ≤ 3; omega) (by show _ ≤ 195; omega) dX1_room_50 (fun q H hw => ?_)
      have hw : Wd G A s [(q, .inr (2, [.null, .int (nI 0), .null]))] H [] := hw
      refine W.cs (cells' := 1) (slots' := 3) rfl rfl ?_
      refine lv_dup E.1 E.2.1 dX1_room_53 rfl ?_
      refine cl_v (wr := []) (va_runI (As := []) (rest := [.ref q]) E.fix (m_X5_init l G H.size q) (cwI 0 E.hts (lw_meth q171) rfl rfl rfl (E.hts _ q8) (E.hts _ q169) (E.hts _ q170) rfl (by decide +kernel) ⟨Nat.le_of_ble_eq_true rfl, Nat.le_of_ble_eq_true rfl⟩) (preS_ok E hw [0] rfl (by decide)) rfl rfl hl.1 rfl (lv_room (Nat.le_of_ble_eq_true rfl)) dX1_room_54 ⟨(by show _ ≤ 3; omega), (by show _ ≤ 195; omega)⟩) E hw [0] [] rfl rfl (by decide) (by decide) (fun u1 H locs hp hw => ?_)
      have hw : Wd G A s [(q, .inr (2, [.ref G.2.2.2, .int (nI 61), .ref u1.1])), (u1.1, .inl (G.2.1, 128, .inl (u1.2)))] H locs := hw
      refine W.cs (cells' := 2) (slots' := 131) rfl rfl ?_
      refine lv_iload_n E.1 E.2.1 dX1_room_57 rfl (lv_at hl 3 rfl) ?_
      refine lv_ldc (v := 65535) E.1 E.2.1 E.2.2.2.1 (E.hts _ q208) dX1_room_58 ?_
      refine lv_iand E.1 E.2.1 dX1_room_60 ?_
      refine tv (y := nI (lo16 x)) (lo16_and x) ?_
      refine cl_i (wr := [(q, .inr (2, [.ref G.2.2.2, .int (nI 61), .ref u1.1])), (u1.1, .inl (G.2.1, 128, .inl (u1.2)))]) (va_runV (As := [.int (nI (lo16 x))]) (rest := []) E.fix (m_X5_getEncodedLength l G H.size q (lo16 x) (by omega)) (cwV 1 E.hts (lw_V q189 q190 q191 q8 q192) rfl rfl rfl (by decide +kernel) ⟨Nat.le_of_ble_eq_true rfl, Nat.le_of_ble_eq_true rfl⟩) (preV_ok E hw [] rfl (by decide) 0 rfl (ci := 2) rfl) rfl rfl hl.1 rfl (lv_room (Nat.le_of_ble_eq_true rfl)) dX1_room_61 ⟨(by show _ ≤ 3; omega), (by show _ ≤ 195; omega)⟩) E hw [] [0, 1] rfl rfl (by decide) (by decide) (fun r u2 H locs hp hw => ?_)
      subst hp
      have hw : Wd G A s [(q, .inr (2, [.ref G.2.2.2, .int (nI 61), .ref u1.1])), (u1.1, .inl (G.2.1, 128, .inl (u1.2)))] H locs := hw
      refine W.cs (cells' := 2) (slots' := 131) rfl rfl ?_
      have hw : Wd G A s [] H locs := hw.sub [] (by decide) rfl
      exact ret_i E hw hr hlk (by omega) (by omega) (()) (by rw [hk]) rfl dX1_room_64
    · skip
      have hk : md kd 3 = 1 := c_30
      have hlo := lo16_lt x
      refine nwo (fs := [.null, .int (nI 0), .null]) E hw in_X4 tyX4 tyX4_ok q139 q140 q7 (ci := 1) rfl (fun j hj => by rcases (show j = 0 ∨ j = 1 ∨ j = 2 by omega) with rfl | rfl | rfl <;> rfl) (by show _ ≤ 3; omega) (by show _ ≤ 195; omega) dX1_room_33 (fun q H hw => ?_)
      have hw : Wd G A s [(q, .inr (1, [.null, .int (nI 0), .null]))] H [] := hw
      refine W.cs (cells' := 1) (slots' := 3) rfl rfl ?_
      refine lv_dup E.1 E.2.1 dX1_room_36 rfl ?_
      refine cl_v (wr := []) (va_runI (As := []) (rest := [.ref q]) E.fix (m_X4_init l G H.size q) (cwI 0 E.hts (lw_meth q143) rfl rfl rfl (E.hts _ q7) (E.hts _ q141) (E.hts _ q142) rfl (by decide +kernel) ⟨Nat.le_of_ble_eq_true rfl, Nat.le_of_ble_eq_true rfl⟩) (preS_ok E hw [0] rfl (by decide)) rfl rfl hl.1 rfl (lv_room (Nat.le_of_ble_eq_true rfl)) dX1_room_37 ⟨(by show _ ≤ 3; omega), (by show _ ≤ 195; omega)⟩) E hw [0] [] rfl rfl (by decide) (by decide) (fun u1 H locs hp hw => ?_)
      have hw : Wd G A s [(q, .inr (1, [.ref u1.1, .int (nI 61), .ref u1.2.1])), (u1.1, .inl (G.2.1, 64, .inl (fun j => nI (sgn 1 j)))), (u1.2.1, .inl (G.2.1, 128, .inl (u1.2.2)))] H locs := hw
      refine W.cs (cells' := 3) (slots' := 195) rfl rfl ?_
      refine lv_iload_n E.1 E.2.1 dX1_room_40 rfl (lv_at hl 3 rfl) ?_
      refine lv_ldc (v := 65535) E.1 E.2.1 E.2.2.2.1 (E.hts _ q208) dX1_room_41 ?_
      refine lv_iand E.1 E.2.1 dX1_room_43 ?_
      refine tv (y := nI (lo16 x)) (lo16_and x) ?_
      refine cl_i (wr := [(q, .inr (1, [.ref u1.1, .int (nI 61), .ref u1.2.1])), (u1.1, .inl (G.2.1, 64, .inl (fun j => nI (sgn 1 j)))), (u1.2.1, .inl (G.2.1, 128, .inl (u1.2.2)))]) (va_runV (As := [.int (nI (lo16 x))]) (rest := []) E.fix (m_X4_getEncodedLength l G H.size q (lo16 x) (by omega)) (cwV 1 E.hts (lw_V q159 q160 q161 q7 q162) rfl rfl rfl (by decide +kernel) ⟨Nat.le_of_ble_eq_true rfl, Nat.le_of_ble_eq_true rfl⟩) (preV_ok E hw [] rfl (by decide) 0 rfl (ci := 1) rfl) rfl rfl hl.1 rfl (lv_room (Nat.le_of_ble_eq_true rfl)) dX1_room_44 ⟨(by show _ ≤ 3; omega), (by show _ ≤ 195; omega)⟩) E hw [] [0, 1, 2] rfl rfl (by decide) (by decide) (fun r u2 H locs hp hw => ?_)
      subst hp
      have hw : Wd G A s [(q, .inr (1, [.ref u1.1, .int (nI 61), .ref u1.2.1])), (u1.1, .inl (G.2.1, 64, .inl (fun j => nI (sgn 1 j)))), (u1.2.1, .inl (G.2.1, 128, .inl (u1.2.2)))] H locs := hw
      refine W.cs (cells' := 3) (slots' := 195) rfl rfl ?_
      refine lv_goto (tgt := 64) E.1 E.2.1 dX1_room_47 (by decide) ?_
      have hw : Wd G A s [] H locs := hw.sub [] (by decide) rfl
      exact ret_i E hw hr hlk (by omega) (by omega) (()) (by rw [hk]) rfl dX1_room_64
  · skip
    have hk : md kd 3 = 0 := c_8
    have hlo := lo16_lt x
    refine nwo (fs := [.null, .null]) E hw in_X3 tyX3 tyX3_ok q114 q115 q6 (ci := 0) rfl (fun j hj => by rcases (show j = 0 ∨ j = 1 by omega) with rfl | rfl <;> rfl) (by show _ ≤ 3; omega) (by show _ ≤ 195; omega) dX1_room_11 (fun q H hw => ?_)
    have hw : Wd G A s [(q, .inr (0, [.null, .null]))] H [] := hw
    refine W.cs (cells' := 1) (slots' := 2) rfl rfl ?_
    refine lv_dup E.1 E.2.1 dX1_room_14 rfl ?_
    refine cl_v (wr := []) (va_runI (As := []) (rest := [.ref q]) E.fix (m_X3_init l G H.size q) (cwI 0 E.hts (lw_meth q118) rfl rfl rfl (E.hts _ q6) (E.hts _ q116) (E.hts _ q117) rfl (by decide +kernel) ⟨Nat.le_of_ble_eq_true rfl, Nat.le_of_ble_eq_true rfl⟩) (preS_ok E hw [0] rfl (by decide)) rfl rfl hl.1 rfl (lv_room (Nat.le_of_ble_eq_true rfl)) dX1_room_15 ⟨(by show _ ≤ 3; omega), (by show _ ≤ 195; omega)⟩) E hw [0] [] rfl rfl (by decide) (by decide) (fun u1 H locs hp hw => ?_)
    have hw : Wd G A s [(q, .inr (0, [.ref u1.1, .ref u1.2.1])), (u1.1, .inl (G.2.1, 16, .inl (fun j => nI (sgn 0 j)))), (u1.2.1, .inl (G.2.1, 128, .inl (u1.2.2)))] H locs := hw
    refine W.cs (cells' := 3) (slots' := 146) rfl rfl ?_
    refine lv_iload_n E.1 E.2.1 dX1_room_18 rfl (lv_at hl 3 rfl) ?_
    refine lv_ldc (v := 65535) E.1 E.2.1 E.2.2.2.1 (E.hts _ q208) dX1_room_19 ?_
    refine lv_iand E.1 E.2.1 dX1_room_21 ?_
    refine tv (y := nI (lo16 x)) (lo16_and x) ?_
    refine cl_i (wr := [(q, .inr (0, [.ref u1.1, .ref u1.2.1])), (u1.1, .inl (G.2.1, 16, .inl (fun j => nI (sgn 0 j)))), (u1.2.1, .inl (G.2.1, 128, .inl (u1.2.2)))]) (va_runV (As := [.int (nI (lo16 x))]) (rest := []) E.fix (m_X3_getEncodedLength l G H.size q (lo16 x) (by omega)) (cwV 1 E.hts (lw_V q131 q132 q133 q6 q134) rfl rfl rfl (by decide +kernel) ⟨Nat.le_of_ble_eq_true rfl, Nat.le_of_ble_eq_true rfl⟩) (preV_ok E hw [] rfl (by decide) 0 rfl (ci := 0) rfl) rfl rfl hl.1 rfl (lv_room (Nat.le_of_ble_eq_true rfl)) dX1_room_22 ⟨(by show _ ≤ 3; omega), (by show _ ≤ 195; omega)⟩) E hw [] [0, 1, 2] rfl rfl (by decide) (by decide) (fun r u2 H locs hp hw => ?_)
    subst hp
    have hw : Wd G A s [(q, .inr (0, [.ref u1.1, .ref u1.2.1])), (u1.1, .inl (G.2.1, 16, .inl (fun j => nI (sgn 0 j)))), (u1.2.1, .inl (G.2.1, 128, .inl (u1.2.2)))] H locs := hw
    refine W.cs (cells' := 3) (slots' := 146) rfl rfl ?_
    refine lv_goto (tgt := 64) E.1 E.2.1 dX1_room_25 (by decide) ?_
    have hw : Wd G A s [] H locs := hw.sub [] (by decide) rfl
    exact ret_i E hw hr hlk (by omega) (by omega) (()) (by rw [hk]) rfl dX1_room_64
set_option maxHeartbeats 4000000 in
set_option maxRecDepth 100000 in
/-- LetterDesk.write: the letters of a part, in a new array -/
theorem m_X1_write (l : Launch) (G : gg_T) (sz : Nat) (hd td od si ln k fr cn : Nat) (tx o : Nat → Nat) (kd a1 a2 : Int32) (htx : ∀ j, tx j < 256) (hsi : si ≤ 256) (hk : k = md kd 3) (hfr : fr = md a1 (si + 1)) (hcn : cn = md a2 (si - fr + 1)) : cT_i l yX1_write (wsW_ yX1_write cX1_write 10 (some .int) [((24 : Nat), (163 : Nat), (164 : Nat), (53 : Nat))]) ({ frames := 2, cells := 4, slots := 720, locals := 64 }) G [(hd, .inr (3, [.ref td, .int (nI si), .ref od])), (td, .inl (G.2.1, 256, .inl (fun j => sb_b (tx j))))] sz [.ref hd, .int kd, .int a1, .int a2] (S := Nat) (fun r _ => r = nI (rmN k cn)) (fun u => [(hd, .inr (3, [.ref td, .int (nI si), .ref u])), (td, .inl (G.2.1, 256, .inl (fun j => sb_b (tx j)))), (u, .inl (G.2.1, rmN k cn, .inl (fun j => nI (letN tx k fr cn j))))]) 4 720 := by
  refine Met.ofWH (cc := cX1_write) (maxL := 10) (ret := some .int) (by decide) rfl ?_
  intro p e s m args below meth c s₁ B hml hv
  obtain ⟨rfl, hsz, E, hw⟩ := entW_ (own := RX1) B hml rfl hv
  have hr := B.returns
  have hlk := B.notSynchronized
  subst hsz
  clear hv
  generalize va_A [(hd, .inr (3, [.ref td, .int (nI si), .ref od])), (td, .inl (G.2.1, 256, .inl (fun j => sb_b (tx j))))] s.heap.size = A at E hw ⊢
  refine ent_f (Nat.le_of_ble_eq_true rfl) rfl (fun ls hl => ?_)
  have hl : lv_has ls 10 [(0, .ref hd), (1, .int kd), (2, .int a1), (3, .int a2)] := hl
  have hfl : fr ≤ si := by have := md_lt a1 (m := si + 1) (by omega); omega
  have hcl : cn ≤ si - fr := by have := md_lt a2 (m := si - fr + 1) (by omega); omega
  have hk3 : k < 3 := by have := md_lt kd (m := 3) (by omega); omega
  have hrl := rmN_le hk3 cn
  refine lv_aload_n E.1 E.2.1 dX1_write_0 rfl (lv_at hl 0 rfl) ?_
  refine lv_iload_n E.1 E.2.1 dX1_write_1 rfl (lv_at hl 2 rfl) ?_
  refine cl_i (wr := [(td, .inl (G.2.1, 256, .inl (fun j => sb_b (tx j))))]) (va_runV (As := [.int a1]) (rest := []) E.fix (m_X1_from l G s.heap.size hd td od si a1 hsi) (cwV 1 E.hts (lw_V q106 q108 qs0 q4 q109) rfl rfl rfl (by decide +kernel) ⟨Nat.le_of_ble_eq_true rfl, Nat.le_of_ble_eq_true rfl⟩) (preV_ok E hw [0] rfl (by decide) 0 rfl (ci := 3) rfl) rfl rfl hl.1 rfl (lv_room (Nat.le_of_ble_eq_true rfl)) dX1_write_2 ⟨(by show _ ≤ 4; omega), (by show _ ≤ 720; omega)⟩) E hw [0] [1] rfl rfl (by decide) (by decide) (fun r u H locs hp hw => ?_)
  rw [← hfr] at hp
  subst hp
  have hw : Wd G A s [(td, .inl (G.2.1, 256, .inl (fun j => sb_b (tx j)))), (hd, .inr (3, [.ref td, .int (nI si), .ref od]))] H locs := hw
  refine W.cs (cells' := 0) (slots' := 0) rfl rfl ?_
  refine lv_istore (lv' := [(4, .int (nI fr)), (0, .ref hd), (1, .int kd), (2, .int a1), (3, .int a2)]) E.1 E.2.1 dX1_write_5 hl (by decide) rfl (fun ls hl => ?_)
  refine lv_aload_n E.1 E.2.1 dX1_write_7 rfl (lv_at hl 1 rfl) ?_
  refine lv_iload E.1 E.2.1 dX1_write_8 (lv_at hl 0 rfl) ?_
  refine lv_iload_n E.1 E.2.1 dX1_write_10 rfl (lv_at hl 4 rfl) ?_
  refine cl_i (wr := [(td, .inl (G.2.1, 256, .inl (fun j => sb_b (tx j))))]) (va_runV (As := [.int (nI fr), .int a2]) (rest := []) E.fix (m_X1_count l G H.size hd td od si fr a2 hsi hfl) (cwV 2 E.hts (lw_V q110 q112 qs1 q4 q113) rfl rfl rfl (by decide +kernel) ⟨Nat.le_of_ble_eq_true rfl, Nat.le_of_ble_eq_true rfl⟩) (preV_ok E hw [1] rfl (by decide) 1 rfl (ci := 3) rfl) rfl rfl hl.1 rfl (lv_room (Nat.le_of_ble_eq_true rfl)) dX1_write_11 ⟨(by show _ ≤ 4; omega), (by show _ ≤ 720; omega)⟩) E hw [1] [0] rfl rfl (by decide) (by decide) (fun r u H locs hp hw => ?_)
  rw [← hcn] at hp
  subst hp
  have hw : Wd G A s [(td, .inl (G.2.1, 256, .inl (fun j => sb_b (tx j)))), (hd, .inr (3, [.ref td, .int (nI si), .ref od]))] H locs := hw
  refine W.cs (cells' := 0) (slots' := 0) rfl rfl ?_
  refine lv_istore (lv' := [(5, .int (nI cn)), (4, .int (nI fr)), (0, .ref hd), (1, .int kd), (2, .int a1), (3, .int a2)]) E.1 E.2.1 dX1_write_14 hl (by decide) rfl (fun ls hl => ?_)
  refine lv_iload_n E.1 E.2.1 dX1_write_16 rfl (lv_at hl 3 rfl) ?_
  refine lv_ldc (v := 2147483647) E.1 E.2.1 E.2.2.2.1 (E.hts _ q68) dX1_write_17 ?_
  refine lv_iand E.1 E.2.1 dX1_write_19 ?_
  refine tv (y := nI (lo31 kd)) (lo31_and kd) ?_
  refine lv_iconst (v := nI 3) E.1 E.2.1 dX1_write_20 (by decide +kernel) ?_
  refine n_irem (d := k) E dX1_write_21 (lo31_lt kd) (by omega) (by omega) hk.symm ?_
  refine lv_istore (lv' := [(6, .int (nI k)), (5, .int (nI cn)), (4, .int (nI fr)), (0, .ref hd), (1, .int kd), (2, .int a1), (3, .int a2)]) E.1 E.2.1 dX1_write_22 hl (by decide) rfl (fun ls hl => ?_)
  refine lv_iload E.1 E.2.1 dX1_write_24 (lv_at hl 0 rfl) ?_
  refine n_if_ne (tgt := 70) E dX1_write_26 (by decide) (by omega) (fun c_26 => ?_) (fun c_26 => ?_)
  · skip
    refine lv_iload E.1 E.2.1 dX1_write_70 (lv_at hl 0 rfl) ?_
    refine lv_iconst (v := nI 1) E.1 E.2.1 dX1_write_72 (by decide +kernel) ?_
    refine n_icmp_ne (tgt := 117) E dX1_write_73 (by decide) (by omega) (by omega) (fun c_73 => ?_) (fun c_73 => ?_)
    · skip
      have c_2 : k = 2 := by omega
      subst c_2
      refine nwo (fs := [.null, .int (nI 0), .null]) E hw in_X5 tyX5 tyX5_ok q167 q168 q8 (ci := 2) rfl (fun j hj => by rcases (show j = 0 ∨ j = 1 ∨ j = 2 by omega) with rfl | rfl | rfl <;> rfl) (by show _ ≤ 4; omega) (by show _ ≤ 720; omega) dX1_write_117 (fun q H hw => ?_)
      have hw : Wd G A s [(td, .inl (G.2.1, 256, .inl (fun j => sb_b (tx j)))), (hd, .inr (3, [.ref td, .int (nI si), .ref od])), (q, .inr (2, [.null, .int (nI 0), .null]))] H locs := hw
      refine W.cs (cells' := 1) (slots' := 3) rfl rfl ?_
      refine lv_dup E.1 E.2.1 dX1_write_120 rfl ?_
      refine cl_v (wr := [(td, .inl (G.2.1, 256, .inl (fun j => sb_b (tx j)))), (hd, .inr (3, [.ref td, .int (nI si), .ref od]))]) (va_runI (As := []) (rest := [.ref q]) E.fix (m_X5_init l G H.size q) (cwI 0 E.hts (lw_meth q171) rfl rfl rfl (E.hts _ q8) (E.hts _ q169) (E.hts _ q170) rfl (by decide +kernel) ⟨Nat.le_of_ble_eq_true rfl, Nat.le_of_ble_eq_true rfl⟩) (preS_ok E hw [2] rfl (by decide)) rfl rfl hl.1 rfl (lv_room (Nat.le_of_ble_eq_true rfl)) dX1_write_121 ⟨(by show _ ≤ 4; omega), (by show _ ≤ 720; omega)⟩) E hw [2] [0, 1] rfl rfl (by decide) (by decide) (fun u1 H locs hp hw => ?_)
      have hw : Wd G A s [(td, .inl (G.2.1, 256, .inl (fun j => sb_b (tx j)))), (hd, .inr (3, [.ref td, .int (nI si), .ref od])), (q, .inr (2, [.ref G.2.2.2, .int (nI 61), .ref u1.1])), (u1.1, .inl (G.2.1, 128, .inl (u1.2)))] H locs := hw
      refine W.cs (cells' := 2) (slots' := 131) rfl rfl ?_
      refine lv_astore (lv' := [(9, .ref q), (6, .int (nI 2)), (5, .int (nI cn)), (4, .int (nI fr)), (0, .ref hd), (1, .int kd), (2, .int a1), (3, .int a2)]) E.1 E.2.1 dX1_write_124 hl (by decide) rfl (fun ls hl => ?_)
      refine lv_aload E.1 E.2.1 dX1_write_126 (lv_at hl 0 rfl) ?_
      refine lv_iload E.1 E.2.1 dX1_write_128 (lv_at hl 2 rfl) ?_
      refine cl_i (wr := [(td, .inl (G.2.1, 256, .inl (fun j => sb_b (tx j)))), (hd, .inr (3, [.ref td, .int (nI si), .ref od])), (q, .inr (2, [.ref G.2.2.2, .int (nI 61), .ref u1.1])), (u1.1, .inl (G.2.1, 128, .inl (u1.2)))]) (va_runV (As := [.int (nI cn)]) (rest := []) E.fix (m_X5_getEncodedLength l G H.size q cn (by omega)) (cwV 1 E.hts (lw_V q189 q190 q191 q8 q192) rfl rfl rfl (by decide +kernel) ⟨Nat.le_of_ble_eq_true rfl, Nat.le_of_ble_eq_true rfl⟩) (preV_ok E hw [] rfl (by decide) 2 rfl (ci := 2) rfl) rfl rfl hl.1 rfl (lv_room (Nat.le_of_ble_eq_true rfl)) dX1_write_130 ⟨(by show _ ≤ 4; omega), (by show _ ≤ 720; omega)⟩) E hw [] [0, 1, 2, 3] rfl rfl (by decide) (by decide) (fun r u2 H locs hp hw => ?_)
      subst hp
      have hw : Wd G A s [(td, .inl (G.2.1, 256, .inl (fun j => sb_b (tx j)))), (hd, .inr (3, [.ref td, .int (nI si), .ref od])), (q, .inr (2, [.ref G.2.2.2, .int (nI 61), .ref u1.1])), (u1.1, .inl (G.2.1, 128, .inl (u1.2)))] H locs := hw
      refine W.cs (cells' := 2) (slots' := 131) rfl rfl ?_
      refine nwb E hw (by omega) (by show _ ≤ 4; omega) (by show _ ≤ 720; omega) dX1_write_133 (fun zz H hw => ?_)
      have hw : Wd G A s [(td, .inl (G.2.1, 256, .inl (fun j => sb_b (tx j)))), (hd, .inr (3, [.ref td, .int (nI si), .ref od])), (q, .inr (2, [.ref G.2.2.2, .int (nI 61), .ref u1.1])), (u1.1, .inl (G.2.1, 128, .inl (u1.2))), (zz, .inl (G.2.1, rmN 2 cn, .inl (fun _ => 0)))] H locs := hw
      refine lv_astore (lv' := [(7, .ref zz), (9, .ref q), (6, .int (nI 2)), (5, .int (nI cn)), (4, .int (nI fr)), (0, .ref hd), (1, .int kd), (2, .int a1), (3, .int a2)]) E.1 E.2.1 dX1_write_135 hl (by decide) rfl (fun ls hl => ?_)
      refine lv_aload E.1 E.2.1 dX1_write_137 (lv_at hl 1 rfl) ?_
      refine lv_aload_n E.1 E.2.1 dX1_write_139 rfl (lv_at hl 5 rfl) ?_
      refine gf (v := .ref td) E hw in_X1 (ci := 3) rfl 1 rfl 0 (by decide) q18 rfl dX1_write_140 ?_
      refine lv_iload E.1 E.2.1 dX1_write_143 (lv_at hl 4 rfl) ?_
      refine lv_iload E.1 E.2.1 dX1_write_145 (lv_at hl 3 rfl) ?_
      refine lv_aload E.1 E.2.1 dX1_write_147 (lv_at hl 0 rfl) ?_
      refine lv_iconst (v := nI 0) E.1 E.2.1 dX1_write_149 (by decide +kernel) ?_
      refine cl_i (wr := [(hd, .inr (3, [.ref td, .int (nI si), .ref od])), (u1.1, .inl (G.2.1, 128, .inl (u1.2)))]) (va_runV (As := [.ref td, .int (nI fr), .int (nI cn), .ref zz, .int (nI 0)]) (rest := []) E.fix (m_X5_encode l G H.size q u1.1 td zz tx fr cn htx (by omega)) (cwV 5 E.hts (lw_V q193 q194 q195 q8 q196) rfl rfl rfl (by decide +kernel) ⟨Nat.le_of_ble_eq_true rfl, Nat.le_of_ble_eq_true rfl⟩) (preV_ok E hw [2, 0, 4] rfl (by decide) 2 rfl (ci := 2) rfl) rfl rfl hl.1 rfl (lv_room (Nat.le_of_ble_eq_true rfl)) dX1_write_150 ⟨(by show _ ≤ 4; omega), (by show _ ≤ 720; omega)⟩) E hw [2, 0, 4] [1, 3] rfl rfl (by decide) (by decide) (fun r u3 H locs hp hw => ?_)
      subst hp
      have hw : Wd G A s [(hd, .inr (3, [.ref td, .int (nI si), .ref od])), (u1.1, .inl (G.2.1, 128, .inl (u1.2))), (q, .inr (2, [.ref G.2.2.2, .int (nI 61), .ref u1.1])), (td, .inl (G.2.1, 256, .inl (fun j => sb_b (tx j)))), (zz, .inl (G.2.1, rmN 2 cn, .inl (fun j => nI (letN tx 2 fr cn j))))] H locs := hw
      refine lv_istore (lv' := [(8, .int (nI (rmN 2 cn))), (7, .ref zz), (9, .ref q), (6, .int (nI 2)), (5, .int (nI cn)), (4, .int (nI fr)), (0, .ref hd), (1, .int kd), (2, .int a1), (3, .int a2)]) E.1 E.2.1 dX1_write_153 hl (by decide) rfl (fun ls hl => ?_)
      refine lv_aload_n E.1 E.2.1 dX1_write_155 rfl (lv_at hl 6 rfl) ?_
      refine lv_aload E.1 E.2.1 dX1_write_156 (lv_at hl 1 rfl) ?_
      refine pf (ws' := [(hd, .inr (3, [.ref td, .int (nI si), .ref zz])), (u1.1, .inl (G.2.1, 128, .inl (u1.2))), (q, .inr (2, [.ref G.2.2.2, .int (nI 61), .ref u1.1])), (td, .inl (G.2.1, 256, .inl (fun j => sb_b (tx j)))), (zz, .inl (G.2.1, rmN 2 cn, .inl (fun j => nI (letN tx 2 fr cn j))))]) E hw in_X1 tyX1 tyX1_ok nmX1 (ci := 3) rfl 0 rfl 2 (by decide) q20 rfl rfl rfl (Nat.le_of_ble_eq_true rfl) rfl dX1_write_158 (fun H locs hw => ?_)
      refine lv_iload E.1 E.2.1 dX1_write_161 (lv_at hl 0 rfl) ?_
      have hw : Wd G A s [(hd, .inr (3, [.ref td, .int (nI si), .ref zz])), (td, .inl (G.2.1, 256, .inl (fun j => sb_b (tx j)))), (zz, .inl (G.2.1, rmN 2 cn, .inl (fun j => nI (letN tx 2 fr cn j))))] H locs := hw.sub [0, 3, 4] (by decide) rfl
      exact ret_i E hw hr hlk (by omega) (by omega) zz rfl rfl dX1_write_163
    · skip
      subst c_73
      refine nwo (fs := [.null, .int (nI 0), .null]) E hw in_X4 tyX4 tyX4_ok q139 q140 q7 (ci := 1) rfl (fun j hj => by rcases (show j = 0 ∨ j = 1 ∨ j = 2 by omega) with rfl | rfl | rfl <;> rfl) (by show _ ≤ 4; omega) (by show _ ≤ 720; omega) dX1_write_76 (fun q H hw => ?_)
      have hw : Wd G A s [(td, .inl (G.2.1, 256, .inl (fun j => sb_b (tx j)))), (hd, .inr (3, [.ref td, .int (nI si), .ref od])), (q, .inr (1, [.null, .int (nI 0), .null]))] H locs := hw
      refine W.cs (cells' := 1) (slots' := 3) rfl rfl ?_
      refine lv_dup E.1 E.2.1 dX1_write_79 rfl ?_
      refine cl_v (wr := [(td, .inl (G.2.1, 256, .inl (fun j => sb_b (tx j)))), (hd, .inr (3, [.ref td, .int (nI si), .ref od]))]) (va_runI (As := []) (rest := [.ref q]) E.fix (m_X4_init l G H.size q) (cwI 0 E.hts (lw_meth q143) rfl rfl rfl (E.hts _ q7) (E.hts _ q141) (E.hts _ q142) rfl (by decide +kernel) ⟨Nat.le_of_ble_eq_true rfl, Nat.le_of_ble_eq_true rfl⟩) (preS_ok E hw [2] rfl (by decide)) rfl rfl hl.1 rfl (lv_room (Nat.le_of_ble_eq_true rfl)) dX1_write_80 ⟨(by show _ ≤ 4; omega), (by show _ ≤ 720; omega)⟩) E hw [2] [0, 1] rfl rfl (by decide) (by decide) (fun u1 H locs hp hw => ?_)
      have hw : Wd G A s [(td, .inl (G.2.1, 256, .inl (fun j => sb_b (tx j)))), (hd, .inr (3, [.ref td, .int (nI si), .ref od])), (q, .inr (1, [.ref u1.1, .int (nI 61), .ref u1.2.1])), (u1.1, .inl (G.2.1, 64, .inl (fun j => nI (sgn 1 j)))), (u1.2.1, .inl (G.2.1, 128, .inl (u1.2.2)))] H locs := hw
      refine W.cs (cells' := 3) (slots' := 195) rfl rfl ?_
      refine lv_astore (lv' := [(9, .ref q), (6, .int (nI 1)), (5, .int (nI cn)), (4, .int (nI fr)), (0, .ref hd), (1, .int kd), (2, .int a1), (3, .int a2)]) E.1 E.2.1 dX1_write_83 hl (by decide) rfl (fun ls hl => ?_)
      refine lv_aload E.1 E.2.1 dX1_write_85 (lv_at hl 0 rfl) ?_
      refine lv_iload E.1 E.2.1 dX1_write_87 (lv_at hl 2 rfl) ?_
      refine cl_i (wr := [(td, .inl (G.2.1, 256, .inl (fun j => sb_b (tx j)))), (hd, .inr (3, [.ref td, .int (nI si), .ref od])), (q, .inr (1, [.ref u1.1, .int (nI 61), .ref u1.2.1])), (u1.1, .inl (G.2.1, 64, .inl (fun j => nI (sgn 1 j)))), (u1.2.1, .inl (G.2.1, 128, .inl (u1.2.2)))]) (va_runV (As := [.int (nI cn)]) (rest := []) E.fix (m_X4_getEncodedLength l G H.size q cn (by omega)) (cwV 1 E.hts (lw_V q159 q160 q161 q7 q162) rfl rfl rfl (by decide +kernel) ⟨Nat.le_of_ble_eq_true rfl, Nat.le_of_ble_eq_true rfl⟩) (preV_ok E hw [] rfl (by decide) 2 rfl (ci := 1) rfl) rfl rfl hl.1 rfl (lv_room (Nat.le_of_ble_eq_true rfl)) dX1_write_89 ⟨(by show _ ≤ 4; omega), (by show _ ≤ 720; omega)⟩) E hw [] [0, 1, 2, 3, 4] rfl rfl (by decide) (by decide) (fun r u2 H locs hp hw => ?_)
      subst hp
      have hw : Wd G A s [(td, .inl (G.2.1, 256, .inl (fun j => sb_b (tx j)))), (hd, .inr (3, [.ref td, .int (nI si), .ref od])), (q, .inr (1, [.ref u1.1, .int (nI 61), .ref u1.2.1])), (u1.1, .inl (G.2.1, 64, .inl (fun j => nI (sgn 1 j)))), (u1.2.1, .inl (G.2.1, 128, .inl (u1.2.2)))] H locs := hw
      refine W.cs (cells' := 3) (slots' := 195) rfl rfl ?_
      refine nwb E hw (by omega) (by show _ ≤ 4; omega) (by show _ ≤ 720; omega) dX1_write_92 (fun zz H hw => ?_)
      have hw : Wd G A s [(td, .inl (G.2.1, 256, .inl (fun j => sb_b (tx j)))), (hd, .inr (3, [.ref td, .int (nI si), .ref od])), (q, .inr (1, [.ref u1.1, .int (nI 61), .ref u1.2.1])), (u1.1, .inl (G.2.1, 64, .inl (fun j => nI (sgn 1 j)))), (u1.2.1, .inl (G.2.1, 128, .inl (u1.2.2))), (zz, .inl (G.2.1, rmN 1 cn, .inl (fun _ => 0)))] H locs := hw
      refine lv_astore (lv' := [(7, .ref zz), (9, .ref q), (6, .int (nI 1)), (5, .int (nI cn)), (4, .int (nI fr)), (0, .ref hd), (1, .int kd), (2, .int a1), (3, .int a2)]) E.1 E.2.1 dX1_write_94 hl (by decide) rfl (fun ls hl => ?_)
      refine lv_aload E.1 E.2.1 dX1_write_96 (lv_at hl 1 rfl) ?_
      refine lv_aload_n E.1 E.2.1 dX1_write_98 rfl (lv_at hl 5 rfl) ?_
      refine gf (v := .ref td) E hw in_X1 (ci := 3) rfl 1 rfl 0 (by decide) q18 rfl dX1_write_99 ?_
      refine lv_iload E.1 E.2.1 dX1_write_102 (lv_at hl 4 rfl) ?_
      refine lv_iload E.1 E.2.1 dX1_write_104 (lv_at hl 3 rfl) ?_
      refine lv_aload E.1 E.2.1 dX1_write_106 (lv_at hl 0 rfl) ?_
      refine lv_iconst (v := nI 0) E.1 E.2.1 dX1_write_108 (by decide +kernel) ?_
      refine cl_i (wr := [(hd, .inr (3, [.ref td, .int (nI si), .ref od])), (u1.2.1, .inl (G.2.1, 128, .inl (u1.2.2)))]) (va_runV (As := [.ref td, .int (nI fr), .int (nI cn), .ref zz, .int (nI 0)]) (rest := []) E.fix (m_X4_encode l G H.size q u1.1 u1.2.1 td zz tx fr cn htx (by omega)) (cwV 5 E.hts (lw_V q163 q164 q165 q7 q166) rfl rfl rfl (by decide +kernel) ⟨Nat.le_of_ble_eq_true rfl, Nat.le_of_ble_eq_true rfl⟩) (preV_ok E hw [2, 3, 0, 5] rfl (by decide) 2 rfl (ci := 1) rfl) rfl rfl hl.1 rfl (lv_room (Nat.le_of_ble_eq_true rfl)) dX1_write_109 ⟨(by show _ ≤ 4; omega), (by show _ ≤ 720; omega)⟩) E hw [2, 3, 0, 5] [1, 4] rfl rfl (by decide) (by decide) (fun r u3 H locs hp hw => ?_)
      subst hp
      have hw : Wd G A s [(hd, .inr (3, [.ref td, .int (nI si), .ref od])), (u1.2.1, .inl (G.2.1, 128, .inl (u1.2.2))), (q, .inr (1, [.ref u1.1, .int (nI 61), .ref u1.2.1])), (u1.1, .inl (G.2.1, 64, .inl (fun j => nI (sgn 1 j)))), (td, .inl (G.2.1, 256, .inl (fun j => sb_b (tx j)))), (zz, .inl (G.2.1, rmN 1 cn, .inl (fun j => nI (letN tx 1 fr cn j))))] H locs := hw
      refine W.cs (cells' := 3 + 1) (slots' := 195 + (rmN 1 cn)) rfl rfl ?_
      refine lv_istore (lv' := [(8, .int (nI (rmN 1 cn))), (7, .ref zz), (9, .ref q), (6, .int (nI 1)), (5, .int (nI cn)), (4, .int (nI fr)), (0, .ref hd), (1, .int kd), (2, .int a1), (3, .int a2)]) E.1 E.2.1 dX1_write_112 hl (by decide) rfl (fun ls hl => ?_)
      refine lv_goto (tgt := 155) E.1 E.2.1 dX1_write_114 (by decide) ?_
      refine lv_aload_n E.1 E.2.1 dX1_write_155 rfl (lv_at hl 6 rfl) ?_
      refine lv_aload E.1 E.2.1 dX1_write_156 (lv_at hl 1 rfl) ?_
      refine pf (ws' := [(hd, .inr (3, [.ref td, .int (nI si), .ref zz])), (u1.2.1, .inl (G.2.1, 128, .inl (u1.2.2))), (q, .inr (1, [.ref u1.1, .int (nI 61), .ref u1.2.1])), (u1.1, .inl (G.2.1, 64, .inl (fun j => nI (sgn 1 j)))), (td, .inl (G.2.1, 256, .inl (fun j => sb_b (tx j)))), (zz, .inl (G.2.1, rmN 1 cn, .inl (fun j => nI (letN tx 1 fr cn j))))]) E hw in_X1 tyX1 tyX1_ok nmX1 (ci := 3) rfl 0 rfl 2 (by decide) q20 rfl rfl rfl (Nat.le_of_ble_eq_true rfl) rfl dX1_write_158 (fun H locs hw => ?_)
      refine lv_iload E.1 E.2.1 dX1_write_161 (lv_at hl 0 rfl) ?_
      have hw : Wd G A s [(hd, .inr (3, [.ref td, .int (nI si), .ref zz])), (td, .inl (G.2.1, 256, .inl (fun j => sb_b (tx j)))), (zz, .inl (G.2.1, rmN 1 cn, .inl (fun j => nI (letN tx 1 fr cn j))))] H locs := hw.sub [0, 4, 5] (by decide) rfl
      exact ret_i E hw hr hlk (by omega) (by omega) zz rfl rfl dX1_write_163
  · skip
    subst c_26
    refine nwo (fs := [.null, .null]) E hw in_X3 tyX3 tyX3_ok q114 q115 q6 (ci := 0) rfl (fun j hj => by rcases (show j = 0 ∨ j = 1 by omega) with rfl | rfl <;> rfl) (by show _ ≤ 4; omega) (by show _ ≤ 720; omega) dX1_write_29 (fun q H hw => ?_)
    have hw : Wd G A s [(td, .inl (G.2.1, 256, .inl (fun j => sb_b (tx j)))), (hd, .inr (3, [.ref td, .int (nI si), .ref od])), (q, .inr (0, [.null, .null]))] H locs := hw
    refine W.cs (cells' := 1) (slots' := 2) rfl rfl ?_
    refine lv_dup E.1 E.2.1 dX1_write_32 rfl ?_
    refine cl_v (wr := [(td, .inl (G.2.1, 256, .inl (fun j => sb_b (tx j)))), (hd, .inr (3, [.ref td, .int (nI si), .ref od]))]) (va_runI (As := []) (rest := [.ref q]) E.fix (m_X3_init l G H.size q) (cwI 0 E.hts (lw_meth q118) rfl rfl rfl (E.hts _ q6) (E.hts _ q116) (E.hts _ q117) rfl (by decide +kernel) ⟨Nat.le_of_ble_eq_true rfl, Nat.le_of_ble_eq_true rfl⟩) (preS_ok E hw [2] rfl (by decide)) rfl rfl hl.1 rfl (lv_room (Nat.le_of_ble_eq_true rfl)) dX1_write_33 ⟨(by show _ ≤ 4; omega), (by show _ ≤ 720; omega)⟩) E hw [2] [0, 1] rfl rfl (by decide) (by decide) (fun u1 H locs hp hw => ?_)
    have hw : Wd G A s [(td, .inl (G.2.1, 256, .inl (fun j => sb_b (tx j)))), (hd, .inr (3, [.ref td, .int (nI si), .ref od])), (q, .inr (0, [.ref u1.1, .ref u1.2.1])), (u1.1, .inl (G.2.1, 16, .inl (fun j => nI (sgn 0 j)))), (u1.2.1, .inl (G.2.1, 128, .inl (u1.2.2)))] H locs := hw
    refine W.cs (cells' := 3) (slots' := 146) rfl rfl ?_
    refine lv_astore (lv' := [(9, .ref q), (6, .int (nI 0)), (5, .int (nI cn)), (4, .int (nI fr)), (0, .ref hd), (1, .int kd), (2, .int a1), (3, .int a2)]) E.1 E.2.1 dX1_write_36 hl (by decide) rfl (fun ls hl => ?_)
    refine lv_aload E.1 E.2.1 dX1_write_38 (lv_at hl 0 rfl) ?_
    refine lv_iload E.1 E.2.1 dX1_write_40 (lv_at hl 2 rfl) ?_
    refine cl_i (wr := [(td, .inl (G.2.1, 256, .inl (fun j => sb_b (tx j)))), (hd, .inr (3, [.ref td, .int (nI si), .ref od])), (q, .inr (0, [.ref u1.1, .ref u1.2.1])), (u1.1, .inl (G.2.1, 16, .inl (fun j => nI (sgn 0 j)))), (u1.2.1, .inl (G.2.1, 128, .inl (u1.2.2)))]) (va_runV (As := [.int (nI cn)]) (rest := []) E.fix (m_X3_getEncodedLength l G H.size q cn (by omega)) (cwV 1 E.hts (lw_V q131 q132 q133 q6 q134) rfl rfl rfl (by decide +kernel) ⟨Nat.le_of_ble_eq_true rfl, Nat.le_of_ble_eq_true rfl⟩) (preV_ok E hw [] rfl (by decide) 2 rfl (ci := 0) rfl) rfl rfl hl.1 rfl (lv_room (Nat.le_of_ble_eq_true rfl)) dX1_write_42 ⟨(by show _ ≤ 4; omega), (by show _ ≤ 720; omega)⟩) E hw [] [0, 1, 2, 3, 4] rfl rfl (by decide) (by decide) (fun r u2 H locs hp hw => ?_)
    subst hp
    have hw : Wd G A s [(td, .inl (G.2.1, 256, .inl (fun j => sb_b (tx j)))), (hd, .inr (3, [.ref td, .int (nI si), .ref od])), (q, .inr (0, [.ref u1.1, .ref u1.2.1])), (u1.1, .inl (G.2.1, 16, .inl (fun j => nI (sgn 0 j)))), (u1.2.1, .inl (G.2.1, 128, .inl (u1.2.2)))] H locs := hw
    refine W.cs (cells' := 3) (slots' := 146) rfl rfl ?_
    refine nwb E hw (by omega) (by show _ ≤ 4; omega) (by show _ ≤ 720; omega) dX1_write_45 (fun zz H hw => ?_)
    have hw : Wd G A s [(td, .inl (G.2.1, 256, .inl (fun j => sb_b (tx j)))), (hd, .inr (3, [.ref td, .int (nI si), .ref od])), (q, .inr (0, [.ref u1.1, .ref u1.2.1])), (u1.1, .inl (G.2.1, 16, .inl (fun j => nI (sgn 0 j)))), (u1.2.1, .inl (G.2.1, 128, .inl (u1.2.2))), (zz, .inl (G.2.1, rmN 0 cn, .inl (fun _ => 0)))] H locs := hw
    refine lv_astore (lv' := [(7, .ref zz), (9, .ref q), (6, .int (nI 0)), (5, .int (nI cn)), (4, .int (nI fr)), (0, .ref hd), (1, .int kd), (2, .int a1), (3, .int a2)]) E.1 E.2.1 dX1_write_47 hl (by decide) rfl (fun ls hl => ?_)
    refine lv_aload E.1 E.2.1 dX1_write_49 (lv_at hl 1 rfl) ?_
    refine lv_aload_n E.1 E.2.1 dX1_write_51 rfl (lv_at hl 5 rfl) ?_
    refine gf (v := .ref td) E hw in_X1 (ci := 3) rfl 1 rfl 0 (by decide) q18 rfl dX1_write_52 ?_
    refine lv_iload E.1 E.2.1 dX1_write_55 (lv_at hl 4 rfl) ?_
    refine lv_iload E.1 E.2.1 dX1_write_57 (lv_at hl 3 rfl) ?_
    refine lv_aload E.1 E.2.1 dX1_write_59 (lv_at hl 0 rfl) ?_
    refine lv_iconst (v := nI 0) E.1 E.2.1 dX1_write_61 (by decide +kernel) ?_
    refine cl_i (wr := [(hd, .inr (3, [.ref td, .int (nI si), .ref od])), (u1.2.1, .inl (G.2.1, 128, .inl (u1.2.2)))]) (va_runV (As := [.ref td, .int (nI fr), .int (nI cn), .ref zz, .int (nI 0)]) (rest := []) E.fix (m_X3_encode l G H.size q u1.1 u1.2.1 td zz tx fr cn htx (by omega)) (cwV 5 E.hts (lw_V q135 q136 q137 q6 q138) rfl rfl rfl (by decide +kernel) ⟨Nat.le_of_ble_eq_true rfl, Nat.le_of_ble_eq_true rfl⟩) (preV_ok E hw [2, 3, 0, 5] rfl (by decide) 2 rfl (ci := 0) rfl) rfl rfl hl.1 rfl (lv_room (Nat.le_of_ble_eq_true rfl)) dX1_write_62 ⟨(by show _ ≤ 4; omega), (by show _ ≤ 720; omega)⟩) E hw [2, 3, 0, 5] [1, 4] rfl rfl (by decide) (by decide) (fun r u3 H locs hp hw => ?_)
    subst hp
    have hw : Wd G A s [(hd, .inr (3, [.ref td, .int (nI si), .ref od])), (u1.2.1, .inl (G.2.1, 128, .inl (u1.2.2))), (q, .inr (0, [.ref u1.1, .ref u1.2.1])), (u1.1, .inl (G.2.1, 16, .inl (fun j => nI (sgn 0 j)))), (td, .inl (G.2.1, 256, .inl (fun j => sb_b (tx j)))), (zz, .inl (G.2.1, rmN 0 cn, .inl (fun j => nI (letN tx 0 fr cn j))))] H locs := hw
    refine W.cs (cells' := 3 + 1) (slots' := 146 + (rmN 0 cn)) rfl rfl ?_
    refine lv_istore (lv' := [(8, .int (nI (rmN 0 cn))), (7, .ref zz), (9, .ref q), (6, .int (nI 0)), (5, .int (nI cn)), (4, .int (nI fr)), (0, .ref hd), (1, .int kd), (2, .int a1), (3, .int a2)]) E.1 E.2.1 dX1_write_65 hl (by decide) rfl (fun ls hl => ?_)
    refine lv_goto (tgt := 155) E.1 E.2.1 dX1_write_67 (by decide) ?_
    refine lv_aload_n E.1 E.2.1 dX1_write_155 rfl (lv_at hl 6 rfl) ?_
    refine lv_aload E.1 E.2.1 dX1_write_156 (lv_at hl 1 rfl) ?_
    refine pf (ws' := [(hd, .inr (3, [.ref td, .int (nI si), .ref zz])), (u1.2.1, .inl (G.2.1, 128, .inl (u1.2.2))), (q, .inr (0, [.ref u1.1, .ref u1.2.1])), (u1.1, .inl (G.2.1, 16, .inl (fun j => nI (sgn 0 j)))), (td, .inl (G.2.1, 256, .inl (fun j => sb_b (tx j)))), (zz, .inl (G.2.1, rmN 0 cn, .inl (fun j => nI (letN tx 0 fr cn j))))]) E hw in_X1 tyX1 tyX1_ok nmX1 (ci := 3) rfl 0 rfl 2 (by decide) q20 rfl rfl rfl (Nat.le_of_ble_eq_true rfl) rfl dX1_write_158 (fun H locs hw => ?_)
    refine lv_iload E.1 E.2.1 dX1_write_161 (lv_at hl 0 rfl) ?_
    have hw : Wd G A s [(hd, .inr (3, [.ref td, .int (nI si), .ref zz])), (td, .inl (G.2.1, 256, .inl (fun j => sb_b (tx j)))), (zz, .inl (G.2.1, rmN 0 cn, .inl (fun j => nI (letN tx 0 fr cn j))))] H locs := hw.sub [0, 4, 5] (by decide) rfl
    exact ret_i E hw hr hlk (by omega) (by omega) zz rfl rfl dX1_write_163
end
section
set_option maxHeartbeats 4000000 in
set_option maxRecDepth 100000 in
/-- LetterDeskLaw.cell: it returns; nobody asks what -/
theorem m_X0_cell (l : Launch) (sz b L i : Nat) (xs : Nat → Int32) (hL : L ≤ 66) (hi : i < 2 ^ 30) : Met l yX0_cell (ws_ yX0_cell cX0_cell 2 (some .int)) ({ frames := 0, cells := 0, slots := 0, locals := 0 }) (va_Pc [.ref b, .int (nI i)] (fun U => U.heap.size = sz ∧ va_X b L xs U U.heap ∧ b < sz)) (va_Qi (fun (_ : Int32) (_ : Unit) => True) (fun _ _ => True) (va_A [] sz)) 0 0 (va_A [] sz) := by
  refine Met.ofW (cc := cX0_cell) (maxL := 2) (ret := some .int) (by decide) rfl ?_
  intro p e s m args below meth c s₁ B hml hv
  obtain ⟨rfl, hsz, hX, hbl⟩ := hv
  have hx := B.exec
  have hb := B.bytes
  have hr := B.returns
  have hlk := B.notSynchronized
  subst hsz
  have hbA : ¬ va_A [] s.heap.size b := by
    intro h
    rcases h with ⟨k, e, h⟩ | h
    · simp at h
    · omega
  generalize va_A [] s.heap.size = A at hbA ⊢
  have hS : va_S A s.heap s.heap [] := va_S.rf
  refine ent_f (Nat.le_of_ble_eq_true rfl) rfl (fun ls hl => ?_)
  have hl : lv_has ls 2 [(0, .ref b), (1, .int (nI i))] := hl
  refine lv_iload_n hx hb dX0_cell_0 rfl (lv_at hl 1 rfl) ?_
  refine lv_aload_n hx hb dX0_cell_1 rfl (lv_at hl 0 rfl) ?_
  refine va_slen hx hb hX hbl hbA hS dX0_cell_2 ?_
  refine lv_icmp_ge (tgt := 12) hx hb dX0_cell_3 (by decide) (fun c_3 => ?_) (fun c_3 => ?_)
  · refine lv_iconst (v := 0) hx hb dX0_cell_12 (by decide) ?_
    exact W.iret hx hb hr (fun t ht _ => ⟨⟨0, (), rfl, trivial, trivial⟩, hS.F ht⟩) hS.2.2 dX0_cell_13 hlk
  · have hlt : i < L := Nat.lt_of_not_le (fun q => c_3 (show nI L ≤ nI i from (nI_leI (by omega) (by omega)).mpr q))
    refine lv_aload_n hx hb dX0_cell_6 rfl (lv_at hl 0 rfl) ?_
    refine lv_iload_n hx hb dX0_cell_7 rfl (lv_at hl 1 rfl) ?_
    refine va_sld hx hb hX hbl hbA hS (vp_in_nI hlt (by omega)) dX0_cell_8 ?_
    refine lv_goto (tgt := 13) hx hb dX0_cell_9 (by decide) ?_
    exact W.iret hx hb hr (fun t ht _ => ⟨⟨_, (), rfl, trivial, trivial⟩, hS.F ht⟩) hS.2.2 dX0_cell_13 hlk
section CELLR
variable {p : Program} {l : Launch} {e : Env} {R : Room} {s : State} {m : MethodId} {args : Array Value} {below : List Frame} {meth : Method} {c : Code} {H : Heap} {locs : List Loc} {cells slots : Nat} {Q : State → Prop}
variable {cc : ByteArray} {nL pc : Nat} {ls : Array Slot} {rest : List Value} {G : gg_T} {A : Nat → Prop} {ws : va_W}
/-- a call of cell: the world stays -/
theorem cl_cell (E : En p m c cc nL s args RX0 G A) (hw : Wd G A s ws H locs) {b L : Nat} {xs : Nat → Int32} (hX : va_X b L xs s s.heap) (hbl : b < s.heap.size) (hbA : ¬ A b) (hL : L ≤ 66) {i : Nat} (hi : i < 2 ^ 30) (hsize : ls.size = nL) {index : Nat} (hlink : Cond.methodLink RX0 index yX0_cell ∈ lw_all) (hroom : (rest.map fun v => v.category).sum ≤ 8) (hfr : 1 ≤ R.frames) (hlo : 21 ≤ R.locals) (hc : cells ≤ R.cells) (hs : slots ≤ R.slots) (hdg : decode cc pc = .ok (.invokestatic index, 3))
    (kk : ∀ (r : Int32) (H1 : Heap) (locs1 : List Loc), Wd G A s ws H1 locs1 → W p l e R s m args below meth c H1 locs1 cells slots Q (F0 m (pc + 3) ls (.int r :: rest))) : W p l e R s m args below meth c H locs cells slots Q (F0 m pc ls (.int (nI i) :: .ref b :: rest)) := by
  have hF : ∀ q, va_A [] H.size q → A q := by
    intro q h
    rcases h with ⟨k, e, h⟩ | h
    · simp at h
    · exact E.2.2.2.2.2.2 q (Nat.le_trans hw.2.2.1 h)
  have hXH : va_X b L xs s H := hX.kept (hw.2.2.2.1 b hbl hbA)
  have hbH : b < H.size := Nat.lt_of_lt_of_le hbl hw.2.2.1
  refine va_calli (S := Unit) (va_runS (As := [.ref b, .int (nI i)]) (rest := rest) E.fix (m_X0_cell l H.size b L i xs hL hi) (va_cwS 2 E.hts (lw_S hlink q49 q3 q50) rfl rfl rfl (by decide +kernel) ⟨hfr, hlo⟩) ⟨fun a U g mk q => ?_, fun U hU hW => ⟨rfl, by rw [hU], by rw [hU]; exact va_X.moved hW.alike hXH, hbH⟩⟩ rfl rfl hsize rfl (lv_room hroom) hdg ⟨hc, hs⟩) hw.2.2 (fun q _ h => hF q h) hF (fun r u t H1 locs1 ht _ _ _ hz hk hS1 => ?_)
  · obtain ⟨q0, q1, qX, qb⟩ := q
    exact ⟨q0, q1, va_X.moved (u := U) (U := U.calling g mk a) (Vm.Alike.refl U.vm) qX, qb⟩
  · refine kk r H1 locs1 ⟨hw.1.kept (fun k q hq => hk q.1 ((hw.1 k q hq).lt) (fun h => ?_)), hw.2.1, hS1⟩
    have hlt := (hw.1 k q hq).lt
    rcases h with ⟨k2, e2, h⟩ | h
    · simp at h
    · omega
end CELLR
set_option maxHeartbeats 4000000 in
set_option maxRecDepth 100000 in
/-- LetterDeskLaw.mod -/
theorem m_X0_mod (l : Launch) (G : gg_T) (sz : Nat) (x : Int32) (d : Nat) (hd0 : 0 < d) (hd1 : d < 2 ^ 31) : cT_i l yX0_mod (ws_ yX0_mod cX0_mod 2 (some .int)) ({ frames := 0, cells := 0, slots := 0, locals := 0 }) G [] sz [.int x, .int (nI d)] (S := Unit) (fun r _ => r = nI (md x d)) (fun _ => []) 0 0 := by
  refine Met.ofW (cc := cX0_mod) (maxL := 2) (ret := some .int) (by decide) rfl ?_
  intro p e s m args below meth c s₁ B hml hv
  obtain ⟨rfl, hsz, E, hw⟩ := ent_ (own := RX0) B hml rfl hv
  have hr := B.returns
  have hlk := B.notSynchronized
  subst hsz
  clear hv
  generalize va_A [] s.heap.size = A at E hw ⊢
  refine ent_f (Nat.le_of_ble_eq_true rfl) rfl (fun ls hl => ?_)
  have hl : lv_has ls 2 [(0, .int x), (1, .int (nI d))] := hl
  refine lv_iload_n E.1 E.2.1 dX0_mod_0 rfl (lv_at hl 0 rfl) ?_
  refine lv_ldc (v := 2147483647) E.1 E.2.1 E.2.2.2.1 (E.hts _ q82) dX0_mod_1 ?_
  refine lv_iand E.1 E.2.1 dX0_mod_3 ?_
  refine tv (y := nI (lo31 x)) (lo31_and x) ?_
  refine lv_iload_n E.1 E.2.1 dX0_mod_4 rfl (lv_at hl 1 rfl) ?_
  refine n_irem (d := md x d) E dX0_mod_5 (lo31_lt x) (by omega) (by omega) rfl ?_
  have hw : Wd G A s [] s.heap [] := hw.sub [] (by decide) rfl
  exact ret_i E hw hr hlk (by omega) (by omega) (()) rfl rfl dX0_mod_6
set_option maxHeartbeats 4000000 in
set_option maxRecDepth 100000 in
/-- LetterDeskLaw.sign -/
theorem m_X0_sign (l : Launch) (G : gg_T) (sz : Nat) (k v : Nat) (hk : k < 3) (hv : v < 64) : cT_i l yX0_sign (ws_ yX0_sign cX0_sign 2 (some .int)) ({ frames := 0, cells := 0, slots := 0, locals := 0 }) G [] sz [.int (nI k), .int (nI v)] (S := Unit) (fun r _ => r = nI (sgn k v)) (fun _ => []) 0 0 := by
  refine Met.ofW (cc := cX0_sign) (maxL := 2) (ret := some .int) (by decide) rfl ?_
  intro p e s m args below meth c s₁ B hml hv
  obtain ⟨rfl, hsz, E, hw⟩ := ent_ (own := RX0) B hml rfl hv
  have hr := B.returns
  have hlk := B.notSynchronized
  subst hsz
  clear hv
  generalize va_A [] s.heap.size = A at E hw ⊢
  refine ent_f (Nat.le_of_ble_eq_true rfl) rfl (fun ls hl => ?_)
  have hl : lv_has ls 2 [(0, .int (nI k)), (1, .int (nI v))] := hl
  refine lv_iload_n E.1 E.2.1 dX0_sign_0 rfl (lv_at hl 0 rfl) ?_
  refine n_if_ne (tgt := 22) E dX0_sign_1 (by decide) (by omega) (fun c_1 => ?_) (fun c_1 => ?_)
  · skip
    refine lv_iload_n E.1 E.2.1 dX0_sign_22 rfl (lv_at hl 0 rfl) ?_
    refine lv_iconst (v := nI 2) E.1 E.2.1 dX0_sign_23 (by decide +kernel) ?_
    refine n_icmp_ne (tgt := 45) E dX0_sign_24 (by decide) (by omega) (by omega) (fun c_24 => ?_) (fun c_24 => ?_)
    · skip
      refine lv_iload_n E.1 E.2.1 dX0_sign_45 rfl (lv_at hl 1 rfl) ?_
      refine lv_bipush (v := nI 26) E.1 E.2.1 dX0_sign_46 (by decide +kernel) ?_
      refine n_icmp_ge (tgt := 58) E dX0_sign_48 (by decide) (by omega) (by omega) (fun c_48 => ?_) (fun c_48 => ?_)
      · skip
        refine lv_iload_n E.1 E.2.1 dX0_sign_58 rfl (lv_at hl 1 rfl) ?_
        refine lv_bipush (v := nI 52) E.1 E.2.1 dX0_sign_59 (by decide +kernel) ?_
        refine n_icmp_ge (tgt := 71) E dX0_sign_61 (by decide) (by omega) (by omega) (fun c_61 => ?_) (fun c_61 => ?_)
        · skip
          refine lv_iload_n E.1 E.2.1 dX0_sign_71 rfl (lv_at hl 1 rfl) ?_
          refine lv_bipush (v := nI 62) E.1 E.2.1 dX0_sign_72 (by decide +kernel) ?_
          refine n_icmp_ge (tgt := 83) E dX0_sign_74 (by decide) (by omega) (by omega) (fun c_74 => ?_) (fun c_74 => ?_)
          · skip
            refine lv_iload_n E.1 E.2.1 dX0_sign_83 rfl (lv_at hl 1 rfl) ?_
            refine lv_bipush (v := nI 62) E.1 E.2.1 dX0_sign_84 (by decide +kernel) ?_
            refine n_icmp_ne (tgt := 94) E dX0_sign_86 (by decide) (by omega) (by omega) (fun c_86 => ?_) (fun c_86 => ?_)
            · skip
              refine lv_bipush (v := nI 47) E.1 E.2.1 dX0_sign_94 (by decide +kernel) ?_
              have hw : Wd G A s [] s.heap [] := hw.sub [] (by decide) rfl
              exact ret_i E hw hr hlk (by omega) (by omega) (()) (congrArg nI (by unfold sgn; rw [if_neg (by omega), if_neg (by omega), if_neg (by omega), if_neg (by omega), if_neg (by omega), if_neg (by omega)])) rfl dX0_sign_96
            · skip
              refine lv_bipush (v := nI 43) E.1 E.2.1 dX0_sign_89 (by decide +kernel) ?_
              refine lv_goto (tgt := 96) E.1 E.2.1 dX0_sign_91 (by decide) ?_
              have hw : Wd G A s [] s.heap [] := hw.sub [] (by decide) rfl
              exact ret_i E hw hr hlk (by omega) (by omega) (()) (congrArg nI (by unfold sgn; rw [if_neg (by omega), if_neg (by omega), if_neg (by omega), if_neg (by omega), if_neg (by omega), if_pos (by omega)])) rfl dX0_sign_96
          · skip
            refine lv_iload_n E.1 E.2.1 dX0_sign_77 rfl (lv_at hl 1 rfl) ?_
            refine lv_iconst (v := nI 4) E.1 E.2.1 dX0_sign_78 (by decide +kernel) ?_
            refine n_isub (d := v - 4) E dX0_sign_79 (by omega) ?_
            refine lv_goto (tgt := 96) E.1 E.2.1 dX0_sign_80 (by decide) ?_
            have hw : Wd G A s [] s.heap [] := hw.sub [] (by decide) rfl
            exact ret_i E hw hr hlk (by omega) (by omega) (()) (congrArg nI (by unfold sgn; rw [if_neg (by omega), if_neg (by omega), if_neg (by omega), if_neg (by omega), if_pos (by omega)])) rfl dX0_sign_96
        · skip
          refine lv_bipush (v := nI 71) E.1 E.2.1 dX0_sign_64 (by decide +kernel) ?_
          refine lv_iload_n E.1 E.2.1 dX0_sign_66 rfl (lv_at hl 1 rfl) ?_
          refine n_iadd (d := 71 + v) E dX0_sign_67 rfl ?_
          refine lv_goto (tgt := 96) E.1 E.2.1 dX0_sign_68 (by decide) ?_
          have hw : Wd G A s [] s.heap [] := hw.sub [] (by decide) rfl
          exact ret_i E hw hr hlk (by omega) (by omega) (()) (congrArg nI (by unfold sgn; rw [if_neg (by omega), if_neg (by omega), if_neg (by omega), if_pos (by omega)])) rfl dX0_sign_96
      · skip
        refine lv_bipush (v := nI 65) E.1 E.2.1 dX0_sign_51 (by decide +kernel) ?_
        refine lv_iload_n E.1 E.2.1 dX0_sign_53 rfl (lv_at hl 1 rfl) ?_
        refine n_iadd (d := 65 + v) E dX0_sign_54 rfl ?_
        refine lv_goto (tgt := 96) E.1 E.2.1 dX0_sign_55 (by decide) ?_
        have hw : Wd G A s [] s.heap [] := hw.sub [] (by decide) rfl
        exact ret_i E hw hr hlk (by omega) (by omega) (()) (congrArg nI (by unfold sgn; rw [if_neg (by omega), if_neg (by omega), if_pos (by omega)])) rfl dX0_sign_96
    · skip
      refine lv_iload_n E.1 E.2.1 dX0_sign_27 rfl (lv_at hl 1 rfl) ?_
      refine lv_bipush (v := nI 26) E.1 E.2.1 dX0_sign_28 (by decide +kernel) ?_
      refine n_icmp_ge (tgt := 40) E dX0_sign_30 (by decide) (by omega) (by omega) (fun c_30 => ?_) (fun c_30 => ?_)
      · skip
        refine lv_bipush (v := nI 24) E.1 E.2.1 dX0_sign_40 (by decide +kernel) ?_
        refine lv_iload_n E.1 E.2.1 dX0_sign_42 rfl (lv_at hl 1 rfl) ?_
        refine n_iadd (d := 24 + v) E dX0_sign_43 rfl ?_
        have hw : Wd G A s [] s.heap [] := hw.sub [] (by decide) rfl
        exact ret_i E hw hr hlk (by omega) (by omega) (()) (congrArg nI (by unfold sgn; rw [if_neg (by omega), if_pos (by omega), if_neg (by omega)])) rfl dX0_sign_44
      · skip
        refine lv_bipush (v := nI 65) E.1 E.2.1 dX0_sign_33 (by decide +kernel) ?_
        refine lv_iload_n E.1 E.2.1 dX0_sign_35 rfl (lv_at hl 1 rfl) ?_
        refine n_iadd (d := 65 + v) E dX0_sign_36 rfl ?_
        refine lv_goto (tgt := 44) E.1 E.2.1 dX0_sign_37 (by decide) ?_
        have hw : Wd G A s [] s.heap [] := hw.sub [] (by decide) rfl
        exact ret_i E hw hr hlk (by omega) (by omega) (()) (congrArg nI (by unfold sgn; rw [if_neg (by omega), if_pos (by omega), if_pos (by omega)])) rfl dX0_sign_44
  · skip
    refine lv_iload_n E.1 E.2.1 dX0_sign_4 rfl (lv_at hl 1 rfl) ?_
    refine lv_bipush (v := nI 10) E.1 E.2.1 dX0_sign_5 (by decide +kernel) ?_
    refine n_icmp_ge (tgt := 17) E dX0_sign_7 (by decide) (by omega) (by omega) (fun c_7 => ?_) (fun c_7 => ?_)
    · skip
      refine lv_bipush (v := nI 87) E.1 E.2.1 dX0_sign_17 (by decide +kernel) ?_
      refine lv_iload_n E.1 E.2.1 dX0_sign_19 rfl (lv_at hl 1 rfl) ?_
      refine n_iadd (d := 87 + v) E dX0_sign_20 rfl ?_
      have hw : Wd G A s [] s.heap [] := hw.sub [] (by decide) rfl
      exact ret_i E hw hr hlk (by omega) (by omega) (()) (congrArg nI (by unfold sgn; rw [if_pos (by omega), if_neg (by omega)])) rfl dX0_sign_21
    · skip
      refine lv_bipush (v := nI 48) E.1 E.2.1 dX0_sign_10 (by decide +kernel) ?_
      refine lv_iload_n E.1 E.2.1 dX0_sign_12 rfl (lv_at hl 1 rfl) ?_
      refine n_iadd (d := 48 + v) E dX0_sign_13 rfl ?_
      refine lv_goto (tgt := 21) E.1 E.2.1 dX0_sign_14 (by decide) ?_
      have hw : Wd G A s [] s.heap [] := hw.sub [] (by decide) rfl
      exact ret_i E hw hr hlk (by omega) (by omega) (()) (congrArg nI (by unfold sgn; rw [if_pos (by omega), if_pos (by omega)])) rfl dX0_sign_21
set_option maxHeartbeats 4000000 in
set_option maxRecDepth 100000 in
/-- LetterDeskLaw.bits -/
theorem m_X0_bits (l : Launch) (G : gg_T) (sz : Nat) (k : Nat) (hk : k < 3) : cT_i l yX0_bits (ws_ yX0_bits cX0_bits 1 (some .int)) ({ frames := 0, cells := 0, slots := 0, locals := 0 }) G [] sz [.int (nI k)] (S := Unit) (fun r _ => r = nI (bts k)) (fun _ => []) 0 0 := by
  refine Met.ofW (cc := cX0_bits) (maxL := 1) (ret := some .int) (by decide) rfl ?_
  intro p e s m args below meth c s₁ B hml hv
  obtain ⟨rfl, hsz, E, hw⟩ := ent_ (own := RX0) B hml rfl hv
  have hr := B.returns
  have hlk := B.notSynchronized
  subst hsz
  clear hv
  generalize va_A [] s.heap.size = A at E hw ⊢
  refine ent_f (Nat.le_of_ble_eq_true rfl) rfl (fun ls hl => ?_)
  have hl : lv_has ls 1 [(0, .int (nI k))] := hl
  refine lv_iload_n E.1 E.2.1 dX0_bits_0 rfl (lv_at hl 0 rfl) ?_
  refine n_if_ne (tgt := 8) E dX0_bits_1 (by decide) (by omega) (fun c_1 => ?_) (fun c_1 => ?_)
  · skip
    refine lv_iload_n E.1 E.2.1 dX0_bits_8 rfl (lv_at hl 0 rfl) ?_
    refine lv_iconst (v := nI 1) E.1 E.2.1 dX0_bits_9 (by decide +kernel) ?_
    refine n_icmp_ne (tgt := 18) E dX0_bits_10 (by decide) (by omega) (by omega) (fun c_10 => ?_) (fun c_10 => ?_)
    · skip
      refine lv_iconst (v := nI 5) E.1 E.2.1 dX0_bits_18 (by decide +kernel) ?_
      have hw : Wd G A s [] s.heap [] := hw.sub [] (by decide) rfl
      exact ret_i E hw hr hlk (by omega) (by omega) (()) (congrArg nI (by unfold bts; rw [if_neg (by omega), if_neg (by omega)])) rfl dX0_bits_19
    · skip
      refine lv_bipush (v := nI 6) E.1 E.2.1 dX0_bits_13 (by decide +kernel) ?_
      refine lv_goto (tgt := 19) E.1 E.2.1 dX0_bits_15 (by decide) ?_
      have hw : Wd G A s [] s.heap [] := hw.sub [] (by decide) rfl
      exact ret_i E hw hr hlk (by omega) (by omega) (()) (congrArg nI (by unfold bts; rw [if_neg (by omega), if_pos (by omega)])) rfl dX0_bits_19
  · skip
    refine lv_iconst (v := nI 4) E.1 E.2.1 dX0_bits_4 (by decide +kernel) ?_
    refine lv_goto (tgt := 19) E.1 E.2.1 dX0_bits_5 (by decide) ?_
    have hw : Wd G A s [] s.heap [] := hw.sub [] (by decide) rfl
    exact ret_i E hw hr hlk (by omega) (by omega) (()) (congrArg nI (by unfold bts; rw [if_pos (by omega)])) rfl dX0_bits_19
set_option maxHeartbeats 4000000 in
set_option maxRecDepth 100000 in
/-- LetterDeskLaw.group -/
theorem m_X0_group (l : Launch) (G : gg_T) (sz : Nat) (k : Nat) (hk : k < 3) : cT_i l yX0_group (ws_ yX0_group cX0_group 1 (some .int)) ({ frames := 0, cells := 0, slots := 0, locals := 0 }) G [] sz [.int (nI k)] (S := Unit) (fun r _ => r = nI (grp k)) (fun _ => []) 0 0 := by
  refine Met.ofW (cc := cX0_group) (maxL := 1) (ret := some .int) (by decide) rfl ?_
  intro p e s m args below meth c s₁ B hml hv
  obtain ⟨rfl, hsz, E, hw⟩ := ent_ (own := RX0) B hml rfl hv
  have hr := B.returns
  have hlk := B.notSynchronized
  subst hsz
  clear hv
  generalize va_A [] s.heap.size = A at E hw ⊢
  refine ent_f (Nat.le_of_ble_eq_true rfl) rfl (fun ls hl => ?_)
  have hl : lv_has ls 1 [(0, .int (nI k))] := hl
  refine lv_iload_n E.1 E.2.1 dX0_group_0 rfl (lv_at hl 0 rfl) ?_
  refine n_if_ne (tgt := 8) E dX0_group_1 (by decide) (by omega) (fun c_1 => ?_) (fun c_1 => ?_)
  · skip
    refine lv_iload_n E.1 E.2.1 dX0_group_8 rfl (lv_at hl 0 rfl) ?_
    refine lv_iconst (v := nI 1) E.1 E.2.1 dX0_group_9 (by decide +kernel) ?_
    refine n_icmp_ne (tgt := 17) E dX0_group_10 (by decide) (by omega) (by omega) (fun c_10 => ?_) (fun c_10 => ?_)
    · skip
      refine lv_bipush (v := nI 8) E.1 E.2.1 dX0_group_17 (by decide +kernel) ?_
      have hw : Wd G A s [] s.heap [] := hw.sub [] (by decide) rfl
      exact ret_i E hw hr hlk (by omega) (by omega) (()) (congrArg nI (by unfold grp; rw [if_neg (by omega), if_neg (by omega)])) rfl dX0_group_19
    · skip
      refine lv_iconst (v := nI 4) E.1 E.2.1 dX0_group_13 (by decide +kernel) ?_
      refine lv_goto (tgt := 19) E.1 E.2.1 dX0_group_14 (by decide) ?_
      have hw : Wd G A s [] s.heap [] := hw.sub [] (by decide) rfl
      exact ret_i E hw hr hlk (by omega) (by omega) (()) (congrArg nI (by unfold grp; rw [if_neg (by omega), if_pos (by omega)])) rfl dX0_group_19
  · skip
    refine lv_iconst (v := nI 2) E.1 E.2.1 dX0_group_4 (by decide +kernel) ?_
    refine lv_goto (tgt := 19) E.1 E.2.1 dX0_group_5 (by decide) ?_
    have hw : Wd G A s [] s.heap [] := hw.sub [] (by decide) rfl
    exact ret_i E hw hr hlk (by omega) (by omega) (()) (congrArg nI (by unfold grp; rw [if_pos (by omega)])) rfl dX0_group_19
set_option maxHeartbeats 4000000 in
set_option maxRecDepth 100000 in
/-- LetterDeskLaw.room -/
theorem m_X0_room (l : Launch) (G : gg_T) (sz : Nat) (k n : Nat) (hk : k < 3) (hn : n ≤ 65535) : cT_i l yX0_room (ws_ yX0_room cX0_room 2 (some .int)) ({ frames := 1, cells := 0, slots := 0, locals := 20 }) G [] sz [.int (nI k), .int (nI n)] (S := Unit) (fun r _ => r = nI (rmN k n)) (fun _ => []) 0 0 := by
  refine Met.ofW (cc := cX0_room) (maxL := 2) (ret := some .int) (by decide) rfl ?_
  intro p e s m args below meth c s₁ B hml hv
  obtain ⟨rfl, hsz, E, hw⟩ := ent_ (own := RX0) B hml rfl hv
  have hr := B.returns
  have hlk := B.notSynchronized
  subst hsz
  clear hv
  generalize va_A [] s.heap.size = A at E hw ⊢
  refine ent_f (Nat.le_of_ble_eq_true rfl) rfl (fun ls hl => ?_)
  have hl : lv_has ls 2 [(0, .int (nI k)), (1, .int (nI n))] := hl
  have hbg := bg_in k
  refine lv_bipush (v := nI 8) E.1 E.2.1 dX0_room_0 (by decide +kernel) ?_
  refine lv_iload_n E.1 E.2.1 dX0_room_2 rfl (lv_at hl 1 rfl) ?_
  refine n_imul (d := 8 * n) E dX0_room_3 rfl ?_
  refine lv_iload_n E.1 E.2.1 dX0_room_4 rfl (lv_at hl 0 rfl) ?_
  refine cl_i (wr := []) (va_runS (As := [.int (nI k)]) (rest := [.int (nI (8 * n))]) E.fix (m_X0_bits l G s.heap.size k hk) (va_cwS 1 E.hts (lw_S q92 q93 q3 q94) rfl rfl rfl (by decide +kernel) ⟨Nat.le_of_ble_eq_true rfl, Nat.le_of_ble_eq_true rfl⟩) (preS_ok E hw [] rfl (by decide)) rfl rfl hl.1 rfl (lv_room (Nat.le_of_ble_eq_true rfl)) dX0_room_5 ⟨(by show _ ≤ 0; omega), (by show _ ≤ 0; omega)⟩) E hw [] [] rfl rfl (by decide) (by decide) (fun r u H locs hp hw => ?_)
  subst hp
  have hw : Wd G A s [] H locs := hw
  refine W.cs (cells' := 0) (slots' := 0) rfl rfl ?_
  refine lv_iload_n E.1 E.2.1 dX0_room_8 rfl (lv_at hl 0 rfl) ?_
  refine cl_i (wr := []) (va_runS (As := [.int (nI k)]) (rest := [.int (nI (bts k)), .int (nI (8 * n))]) E.fix (m_X0_group l G H.size k hk) (va_cwS 1 E.hts (lw_S q95 q96 q3 q97) rfl rfl rfl (by decide +kernel) ⟨Nat.le_of_ble_eq_true rfl, Nat.le_of_ble_eq_true rfl⟩) (preS_ok E hw [] rfl (by decide)) rfl rfl hl.1 rfl (lv_room (Nat.le_of_ble_eq_true rfl)) dX0_room_9 ⟨(by show _ ≤ 0; omega), (by show _ ≤ 0; omega)⟩) E hw [] [] rfl rfl (by decide) (by decide) (fun r u H locs hp hw => ?_)
  subst hp
  have hw : Wd G A s [] H locs := hw
  refine W.cs (cells' := 0) (slots' := 0) rfl rfl ?_
  refine n_imul (d := (bts k) * (grp k)) E dX0_room_12 rfl ?_
  refine n_iadd (d := 8 * n + bts k * grp k) E dX0_room_13 rfl ?_
  refine lv_iconst (v := nI 1) E.1 E.2.1 dX0_room_14 (by decide +kernel) ?_
  refine n_isub (d := 8 * n + bts k * grp k - 1) E dX0_room_15 (by omega) ?_
  refine lv_iload_n E.1 E.2.1 dX0_room_16 rfl (lv_at hl 0 rfl) ?_
  refine cl_i (wr := []) (va_runS (As := [.int (nI k)]) (rest := [.int (nI (8 * n + bts k * grp k - 1))]) E.fix (m_X0_bits l G H.size k hk) (va_cwS 1 E.hts (lw_S q92 q93 q3 q94) rfl rfl rfl (by decide +kernel) ⟨Nat.le_of_ble_eq_true rfl, Nat.le_of_ble_eq_true rfl⟩) (preS_ok E hw [] rfl (by decide)) rfl rfl hl.1 rfl (lv_room (Nat.le_of_ble_eq_true rfl)) dX0_room_17 ⟨(by show _ ≤ 0; omega), (by show _ ≤ 0; omega)⟩) E hw [] [] rfl rfl (by decide) (by decide) (fun r u H locs hp hw => ?_)
  subst hp
  have hw : Wd G A s [] H locs := hw
  refine W.cs (cells' := 0) (slots' := 0) rfl rfl ?_
  refine lv_iload_n E.1 E.2.1 dX0_room_20 rfl (lv_at hl 0 rfl) ?_
  refine cl_i (wr := []) (va_runS (As := [.int (nI k)]) (rest := [.int (nI (bts k)), .int (nI (8 * n + bts k * grp k - 1))]) E.fix (m_X0_group l G H.size k hk) (va_cwS 1 E.hts (lw_S q95 q96 q3 q97) rfl rfl rfl (by decide +kernel) ⟨Nat.le_of_ble_eq_true rfl, Nat.le_of_ble_eq_true rfl⟩) (preS_ok E hw [] rfl (by decide)) rfl rfl hl.1 rfl (lv_room (Nat.le_of_ble_eq_true rfl)) dX0_room_21 ⟨(by show _ ≤ 0; omega), (by show _ ≤ 0; omega)⟩) E hw [] [] rfl rfl (by decide) (by decide) (fun r u H locs hp hw => ?_)
  subst hp
  have hw : Wd G A s [] H locs := hw
  refine W.cs (cells' := 0) (slots' := 0) rfl rfl ?_
  refine n_imul (d := bts k * grp k) E dX0_room_24 rfl ?_
  refine n_idiv (d := (8 * n + bts k * grp k - 1) / (bts k * grp k)) E dX0_room_25 (by omega) (by omega) (by omega) rfl ?_
  refine lv_iload_n E.1 E.2.1 dX0_room_26 rfl (lv_at hl 0 rfl) ?_
  refine cl_i (wr := []) (va_runS (As := [.int (nI k)]) (rest := [.int (nI ((8 * n + bts k * grp k - 1) / (bts k * grp k)))]) E.fix (m_X0_group l G H.size k hk) (va_cwS 1 E.hts (lw_S q95 q96 q3 q97) rfl rfl rfl (by decide +kernel) ⟨Nat.le_of_ble_eq_true rfl, Nat.le_of_ble_eq_true rfl⟩) (preS_ok E hw [] rfl (by decide)) rfl rfl hl.1 rfl (lv_room (Nat.le_of_ble_eq_true rfl)) dX0_room_27 ⟨(by show _ ≤ 0; omega), (by show _ ≤ 0; omega)⟩) E hw [] [] rfl rfl (by decide) (by decide) (fun r u H locs hp hw => ?_)
  subst hp
  have hw : Wd G A s [] H locs := hw
  refine W.cs (cells' := 0) (slots' := 0) rfl rfl ?_
  refine n_imul (d := rmN k n) E dX0_room_30 rfl ?_
  have hw : Wd G A s [] H locs := hw.sub [] (by decide) rfl
  exact ret_i E hw hr hlk (by omega) (by omega) (()) rfl rfl dX0_room_31
set_option maxHeartbeats 4000000 in
set_option maxRecDepth 100000 in
/-- LetterDeskLaw.due: the letters as the law reckons them -/
theorem m_X0_due (l : Launch) (G : gg_T) (sz : Nat) (ht tt ot si k fr cn : Nat) (tx : Nat → Nat) (htx : ∀ j, tx j < 256) (hk : k < 3) (hfc : fr + cn ≤ 256) : cT_r l yX0_due (ws_ yX0_due cX0_due 8 (some (.array .int))) ({ frames := 2, cells := 1, slots := 520, locals := 44 }) G [(ht, .inr (4, [.ref tt, .int (nI si), .ref ot])), (tt, .inl (G.2.2.1, 256, .inl (fun j => nI (tx j))))] sz [.ref ht, .int (nI k), .int (nI fr), .int (nI cn)] (S := Unit) (fun _ => True) (fun _ ra => [(ht, .inr (4, [.ref tt, .int (nI si), .ref ot])), (tt, .inl (G.2.2.1, 256, .inl (fun j => nI (tx j)))), (ra, .inl (G.2.2.1, rmN k cn, .inl (fun j => nI (letN tx k fr cn j))))]) 1 520 := by
  refine Met.ofW (cc := cX0_due) (maxL := 8) (ret := some (.array .int)) (by decide) rfl ?_
  intro p e s m args below meth c s₁ B hml hv
  obtain ⟨rfl, hsz, E, hw⟩ := ent_ (own := RX0) B hml rfl hv
  have hr := B.returns
  have hlk := B.notSynchronized
  subst hsz
  clear hv
  generalize va_A [(ht, .inr (4, [.ref tt, .int (nI si), .ref ot])), (tt, .inl (G.2.2.1, 256, .inl (fun j => nI (tx j))))] s.heap.size = A at E hw ⊢
  refine ent_f (Nat.le_of_ble_eq_true rfl) rfl (fun ls hl => ?_)
  have hl : lv_has ls 8 [(0, .ref ht), (1, .int (nI k)), (2, .int (nI fr)), (3, .int (nI cn))] := hl
  have hrl := rmN_le hk cn
  have hbi := bts_in k
  refine lv_iload_n E.1 E.2.1 dX0_due_0 rfl (lv_at hl 1 rfl) ?_
  refine lv_iload_n E.1 E.2.1 dX0_due_1 rfl (lv_at hl 3 rfl) ?_
  refine cl_i (wr := [(ht, .inr (4, [.ref tt, .int (nI si), .ref ot])), (tt, .inl (G.2.2.1, 256, .inl (fun j => nI (tx j))))]) (va_runS (As := [.int (nI k), .int (nI cn)]) (rest := []) E.fix (m_X0_room l G s.heap.size k cn hk (by omega)) (va_cwS 2 E.hts (lw_S q89 q90 q3 q91) rfl rfl rfl (by decide +kernel) ⟨Nat.le_of_ble_eq_true rfl, Nat.le_of_ble_eq_true rfl⟩) (preS_ok E hw [] rfl (by decide)) rfl rfl hl.1 rfl (lv_room (Nat.le_of_ble_eq_true rfl)) dX0_due_2 ⟨(by show _ ≤ 1; omega), (by show _ ≤ 520; omega)⟩) E hw [] [0, 1] rfl rfl (by decide) (by decide) (fun r u H locs hp hw => ?_)
  subst hp
  have hw : Wd G A s [(ht, .inr (4, [.ref tt, .int (nI si), .ref ot])), (tt, .inl (G.2.2.1, 256, .inl (fun j => nI (tx j))))] H locs := hw
  refine W.cs (cells' := 0) (slots' := 0) rfl rfl ?_
  refine nwi E hw (by omega) (by show _ ≤ 1; omega) (by show _ ≤ 520; omega) dX0_due_5 (fun zz H hw => ?_)
  have hw : Wd G A s [(ht, .inr (4, [.ref tt, .int (nI si), .ref ot])), (tt, .inl (G.2.2.1, 256, .inl (fun j => nI (tx j)))), (zz, .inl (G.2.2.1, rmN k cn, .inl (fun _ => 0)))] H locs := hw
  refine lv_astore (lv' := [(4, .ref zz), (0, .ref ht), (1, .int (nI k)), (2, .int (nI fr)), (3, .int (nI cn))]) E.1 E.2.1 dX0_due_7 hl (by decide) rfl (fun ls hl => ?_)
  refine lv_iconst (v := nI 0) E.1 E.2.1 dX0_due_9 (by decide +kernel) ?_
  refine lv_istore (lv' := [(5, .int (nI 0)), (4, .ref zz), (0, .ref ht), (1, .int (nI k)), (2, .int (nI fr)), (3, .int (nI cn))]) E.1 E.2.1 dX0_due_10 hl (by decide) rfl (fun ls hl => ?_)
  have hw : Wd G A s [(ht, .inr (4, [.ref tt, .int (nI si), .ref ot])), (tt, .inl (G.2.2.1, 256, .inl (fun j => nI (tx j)))), (zz, .inl (G.2.2.1, rmN k cn, .inl (bk (fun _ => 0) 0 (fun j => nI (letN tx k fr cn j)) (0))))] H locs := hw.cong 2 rfl (fun j _ => congrFun (show (fun _ => 0) = (bk (fun _ => 0) 0 (fun j => nI (letN tx k fr cn j)) (0)) from (bk_0 _ _ _).symm) j) rfl
  have loopO : ∀ (n : Nat) (i : Nat), i ≤ rmN k cn → rmN k cn < i + n → ∀ (H : Heap) (locs : List Loc), Wd G A s [(ht, .inr (4, [.ref tt, .int (nI si), .ref ot])), (tt, .inl (G.2.2.1, 256, .inl (fun j => nI (tx j)))), (zz, .inl (G.2.2.1, rmN k cn, .inl (bk (fun _ => 0) 0 (fun j => nI (letN tx k fr cn j)) (i))))] H locs → ∀ (ls : Array Slot), lv_has ls 8 [(0, .ref ht), (1, .int (nI k)), (2, .int (nI fr)), (3, .int (nI cn)), (4, .ref zz), (5, .int (nI i))] → W p l e (headSpec (ws_ yX0_due cX0_due 8 (some (.array .int))) ({ frames := 2, cells := 1, slots := 520, locals := 44 })).room s m ([.ref ht, .int (nI k), .int (nI fr), .int (nI cn)] : List Value).toArray below meth c H locs (0 + 1) (0 + (rmN k cn)) (MQ below (va_Qr (S := Unit) (fun _ => True) (bwr_ G A (fun _ ra => [(ht, .inr (4, [.ref tt, .int (nI si), .ref ot])), (tt, .inl (G.2.2.1, 256, .inl (fun j => nI (tx j)))), (ra, .inl (G.2.2.1, rmN k cn, .inl (fun j => nI (letN tx k fr cn j))))])) A) ([.ref ht, .int (nI k), .int (nI fr), .int (nI cn)] : List Value).toArray s 1 520 A) (F0 m 12 ls []) := by
    intro n
    induction n with
    | zero =>
      intro i hi hn
      omega
    | succ n ihO =>
      intro i hi hn H locs hw ls hl
      refine lv_iload E.1 E.2.1 dX0_due_12 (lv_at hl 5 rfl) ?_
      refine lv_aload E.1 E.2.1 dX0_due_14 (lv_at hl 4 rfl) ?_
      refine iln E hw 2 rfl dX0_due_16 ?_
      refine n_icmp_ge (tgt := 131) E dX0_due_17 (by decide) (by omega) (by omega) (fun c_17 => ?_) (fun c_17 => ?_)
      · skip
        have hir : i = rmN k cn := by omega
        refine lv_aload E.1 E.2.1 dX0_due_131 (lv_at hl 4 rfl) ?_
        have hw : Wd G A s [(ht, .inr (4, [.ref tt, .int (nI si), .ref ot])), (tt, .inl (G.2.2.1, 256, .inl (fun j => nI (tx j)))), (zz, .inl (G.2.2.1, rmN k cn, .inl (fun j => nI (letN tx k fr cn j))))] H locs := hw.cong 2 rfl (fun j hj => bk_all (by omega)) rfl
        have hw : Wd G A s [(ht, .inr (4, [.ref tt, .int (nI si), .ref ot])), (tt, .inl (G.2.2.1, 256, .inl (fun j => nI (tx j)))), (zz, .inl (G.2.2.1, rmN k cn, .inl (fun j => nI (letN tx k fr cn j))))] H locs := hw.sub [0, 1, 2] (by decide) rfl
        exact ret_r E hw hr ⟨_, rfl⟩ hlk (by omega) (by omega) (()) trivial rfl dX0_due_133
      · skip
        have hib : i * bts k ≤ 520 * 6 := Nat.mul_le_mul (by omega) hbi.2
        have loopI : ∀ (n : Nat) (q : Nat), q ≤ bts k → bts k < q + n → ∀ (H : Heap) (locs : List Loc), Wd G A s [(ht, .inr (4, [.ref tt, .int (nI si), .ref ot])), (tt, .inl (G.2.2.1, 256, .inl (fun j => nI (tx j)))), (zz, .inl (G.2.2.1, rmN k cn, .inl (bk (fun _ => 0) 0 (fun j => nI (letN tx k fr cn j)) (i))))] H locs → ∀ (ls : Array Slot), lv_has ls 8 [(0, .ref ht), (1, .int (nI k)), (2, .int (nI fr)), (3, .int (nI cn)), (4, .ref zz), (5, .int (nI i)), (6, .int (nI (accN tx fr cn (i * bts k) q))), (7, .int (nI (i * bts k + q)))] → W p l e (headSpec (ws_ yX0_due cX0_due 8 (some (.array .int))) ({ frames := 2, cells := 1, slots := 520, locals := 44 })).room s m ([.ref ht, .int (nI k), .int (nI fr), .int (nI cn)] : List Value).toArray below meth c H locs (0 + 1) (0 + (rmN k cn)) (MQ below (va_Qr (S := Unit) (fun _ => True) (bwr_ G A (fun _ ra => [(ht, .inr (4, [.ref tt, .int (nI si), .ref ot])), (tt, .inl (G.2.2.1, 256, .inl (fun j => nI (tx j)))), (ra, .inl (G.2.2.1, rmN k cn, .inl (fun j => nI (letN tx k fr cn j))))])) A) ([.ref ht, .int (nI k), .int (nI fr), .int (nI cn)] : List Value).toArray s 1 520 A) (F0 m 32 ls []) := by
          intro n
          induction n with
          | zero =>
            intro q hq hn
            omega
          | succ n ih =>
            intro q hq hn H locs hw ls hl
            have hsm : (i + 1) * bts k = i * bts k + bts k := Nat.succ_mul i (bts k)
            have hac : accN tx fr cn (i * bts k) q < 64 := Nat.lt_of_lt_of_le (accN_lt tx fr cn (i * bts k) q) (Nat.pow_le_pow_right (n := 2) (by decide) (show q ≤ 6 by omega))
            refine lv_iload E.1 E.2.1 dX0_due_32 (lv_at hl 7 rfl) ?_
            refine lv_iload E.1 E.2.1 dX0_due_34 (lv_at hl 5 rfl) ?_
            refine lv_iconst (v := nI 1) E.1 E.2.1 dX0_due_36 (by decide +kernel) ?_
            refine n_iadd (d := i + 1) E dX0_due_37 rfl ?_
            refine lv_iload_n E.1 E.2.1 dX0_due_38 rfl (lv_at hl 1 rfl) ?_
            refine cl_i (wr := [(ht, .inr (4, [.ref tt, .int (nI si), .ref ot])), (tt, .inl (G.2.2.1, 256, .inl (fun j => nI (tx j)))), (zz, .inl (G.2.2.1, rmN k cn, .inl (bk (fun _ => 0) 0 (fun j => nI (letN tx k fr cn j)) (i))))]) (va_runS (As := [.int (nI k)]) (rest := [.int (nI (i + 1)), .int (nI (i * bts k + q))]) E.fix (m_X0_bits l G H.size k hk) (va_cwS 1 E.hts (lw_S q92 q93 q3 q94) rfl rfl rfl (by decide +kernel) ⟨Nat.le_of_ble_eq_true rfl, Nat.le_of_ble_eq_true rfl⟩) (preS_ok E hw [] rfl (by decide)) rfl rfl hl.1 rfl (lv_room (Nat.le_of_ble_eq_true rfl)) dX0_due_39 ⟨(by show _ ≤ 1; omega), (by show _ ≤ 520; omega)⟩) E hw [] [0, 1, 2] rfl rfl (by decide) (by decide) (fun r u H locs hp hw => ?_)
            subst hp
            have hw : Wd G A s [(ht, .inr (4, [.ref tt, .int (nI si), .ref ot])), (tt, .inl (G.2.2.1, 256, .inl (fun j => nI (tx j)))), (zz, .inl (G.2.2.1, rmN k cn, .inl (bk (fun _ => 0) 0 (fun j => nI (letN tx k fr cn j)) (i))))] H locs := hw
            refine W.cs (cells' := 0 + 1) (slots' := 0 + (rmN k cn)) rfl rfl ?_
            refine n_imul (d := i * bts k + bts k) E dX0_due_42 hsm ?_
            refine n_icmp_ge (tgt := 95) E dX0_due_43 (by decide) (by omega) (by omega) (fun c_43 => ?_) (fun c_43 => ?_)
            · skip
              have hq2 : q = bts k := by omega
              subst hq2
              refine lv_aload E.1 E.2.1 dX0_due_95 (lv_at hl 4 rfl) ?_
              refine lv_iload E.1 E.2.1 dX0_due_97 (lv_at hl 5 rfl) ?_
              refine lv_iload E.1 E.2.1 dX0_due_99 (lv_at hl 5 rfl) ?_
              refine lv_iload_n E.1 E.2.1 dX0_due_101 rfl (lv_at hl 1 rfl) ?_
              refine cl_i (wr := [(ht, .inr (4, [.ref tt, .int (nI si), .ref ot])), (tt, .inl (G.2.2.1, 256, .inl (fun j => nI (tx j)))), (zz, .inl (G.2.2.1, rmN k cn, .inl (bk (fun _ => 0) 0 (fun j => nI (letN tx k fr cn j)) (i))))]) (va_runS (As := [.int (nI k)]) (rest := [.int (nI i), .int (nI i), .ref zz]) E.fix (m_X0_bits l G H.size k hk) (va_cwS 1 E.hts (lw_S q92 q93 q3 q94) rfl rfl rfl (by decide +kernel) ⟨Nat.le_of_ble_eq_true rfl, Nat.le_of_ble_eq_true rfl⟩) (preS_ok E hw [] rfl (by decide)) rfl rfl hl.1 rfl (lv_room (Nat.le_of_ble_eq_true rfl)) dX0_due_102 ⟨(by show _ ≤ 1; omega), (by show _ ≤ 520; omega)⟩) E hw [] [0, 1, 2] rfl rfl (by decide) (by decide) (fun r u H locs hp hw => ?_)
              subst hp
              have hw : Wd G A s [(ht, .inr (4, [.ref tt, .int (nI si), .ref ot])), (tt, .inl (G.2.2.1, 256, .inl (fun j => nI (tx j)))), (zz, .inl (G.2.2.1, rmN k cn, .inl (bk (fun _ => 0) 0 (fun j => nI (letN tx k fr cn j)) (i))))] H locs := hw
              refine W.cs (cells' := 0 + 1) (slots' := 0 + (rmN k cn)) rfl rfl ?_
              refine n_imul (d := i * bts k) E dX0_due_105 rfl ?_
              refine lv_bipush (v := nI 8) E.1 E.2.1 dX0_due_106 (by decide +kernel) ?_
              refine lv_iload_n E.1 E.2.1 dX0_due_108 rfl (lv_at hl 3 rfl) ?_
              refine n_imul (d := 8 * cn) E dX0_due_109 rfl ?_
              refine n_icmp_ge (tgt := 122) E dX0_due_110 (by decide) (by omega) (by omega) (fun c_110 => ?_) (fun c_110 => ?_)
              · skip
                refine lv_bipush (v := nI 61) E.1 E.2.1 dX0_due_122 (by decide +kernel) ?_
                refine ist (ws' := [(ht, .inr (4, [.ref tt, .int (nI si), .ref ot])), (tt, .inl (G.2.2.1, 256, .inl (fun j => nI (tx j)))), (zz, .inl (G.2.2.1, rmN k cn, .inl (bk (fun _ => 0) 0 (fun j => nI (letN tx k fr cn j)) (i + 1))))]) E hw 2 rfl (by omega) (by omega) (bk (fun _ => 0) 0 (fun j => nI (letN tx k fr cn j)) (i + 1)) (bk_upd (by omega) (congrArg nI (show 61 = letN tx k fr cn i from (if_neg (by omega)).symm))) rfl dX0_due_124 (fun H locs hw => ?_)
                refine n_iinc (n := 1) (d := i + 1) (lv' := [(5, .int (nI (i + 1))), (0, .ref ht), (1, .int (nI k)), (2, .int (nI fr)), (3, .int (nI cn)), (4, .ref zz), (6, .int (nI (accN tx fr cn (i * bts k) (bts k)))), (7, .int (nI (i * bts k + (bts k))))]) E dX0_due_125 hl (k := 5) rfl (by omega) (by decide) rfl (fun ls hl => ?_)
                refine lv_goto (tgt := 12) E.1 E.2.1 dX0_due_128 (by decide) ?_
                exact ihO (i + 1) (by omega) (by omega) H locs (hw.sub [0, 1, 2] (by decide) rfl) ls (lv_sub hl [1, 2, 3, 4, 5, 0] rfl)
              · skip
                refine lv_iload_n E.1 E.2.1 dX0_due_113 rfl (lv_at hl 1 rfl) ?_
                refine lv_iload E.1 E.2.1 dX0_due_114 (lv_at hl 6 rfl) ?_
                refine cl_i (wr := [(ht, .inr (4, [.ref tt, .int (nI si), .ref ot])), (tt, .inl (G.2.2.1, 256, .inl (fun j => nI (tx j)))), (zz, .inl (G.2.2.1, rmN k cn, .inl (bk (fun _ => 0) 0 (fun j => nI (letN tx k fr cn j)) (i))))]) (va_runS (As := [.int (nI k), .int (nI (accN tx fr cn (i * bts k) (bts k)))]) (rest := [.int (nI i), .ref zz]) E.fix (m_X0_sign l G H.size k (accN tx fr cn (i * bts k) (bts k)) hk (show _ < 64 from valN_lt tx k fr cn i)) (va_cwS 2 E.hts (lw_S q98 q99 q3 q100) rfl rfl rfl (by decide +kernel) ⟨Nat.le_of_ble_eq_true rfl, Nat.le_of_ble_eq_true rfl⟩) (preS_ok E hw [] rfl (by decide)) rfl rfl hl.1 rfl (lv_room (Nat.le_of_ble_eq_true rfl)) dX0_due_116 ⟨(by show _ ≤ 1; omega), (by show _ ≤ 520; omega)⟩) E hw [] [0, 1, 2] rfl rfl (by decide) (by decide) (fun r u H locs hp hw => ?_)
                subst hp
                have hw : Wd G A s [(ht, .inr (4, [.ref tt, .int (nI si), .ref ot])), (tt, .inl (G.2.2.1, 256, .inl (fun j => nI (tx j)))), (zz, .inl (G.2.2.1, rmN k cn, .inl (bk (fun _ => 0) 0 (fun j => nI (letN tx k fr cn j)) (i))))] H locs := hw
                refine W.cs (cells' := 0 + 1) (slots' := 0 + (rmN k cn)) rfl rfl ?_
                refine lv_goto (tgt := 124) E.1 E.2.1 dX0_due_119 (by decide) ?_
                refine ist (ws' := [(ht, .inr (4, [.ref tt, .int (nI si), .ref ot])), (tt, .inl (G.2.2.1, 256, .inl (fun j => nI (tx j)))), (zz, .inl (G.2.2.1, rmN k cn, .inl (bk (fun _ => 0) 0 (fun j => nI (letN tx k fr cn j)) (i + 1))))]) E hw 2 rfl (by omega) (by omega) (bk (fun _ => 0) 0 (fun j => nI (letN tx k fr cn j)) (i + 1)) (bk_upd (by omega) (congrArg nI (show sgn k (accN tx fr cn (i * bts k) (bts k)) = letN tx k fr cn i from (if_pos c_110).symm))) rfl dX0_due_124 (fun H locs hw => ?_)
                refine n_iinc (n := 1) (d := i + 1) (lv' := [(5, .int (nI (i + 1))), (0, .ref ht), (1, .int (nI k)), (2, .int (nI fr)), (3, .int (nI cn)), (4, .ref zz), (6, .int (nI (accN tx fr cn (i * bts k) (bts k)))), (7, .int (nI (i * bts k + (bts k))))]) E dX0_due_125 hl (k := 5) rfl (by omega) (by decide) rfl (fun ls hl => ?_)
                refine lv_goto (tgt := 12) E.1 E.2.1 dX0_due_128 (by decide) ?_
                exact ihO (i + 1) (by omega) (by omega) H locs (hw.sub [0, 1, 2] (by decide) rfl) ls (lv_sub hl [1, 2, 3, 4, 5, 0] rfl)
            · skip
              refine lv_iconst (v := nI 2) E.1 E.2.1 dX0_due_46 (by decide +kernel) ?_
              refine lv_iload E.1 E.2.1 dX0_due_47 (lv_at hl 6 rfl) ?_
              refine n_imul (d := 2 * (accN tx fr cn (i * bts k) q)) E dX0_due_49 rfl ?_
              refine lv_iload E.1 E.2.1 dX0_due_50 (lv_at hl 7 rfl) ?_
              refine lv_bipush (v := nI 8) E.1 E.2.1 dX0_due_52 (by decide +kernel) ?_
              refine lv_iload_n E.1 E.2.1 dX0_due_54 rfl (lv_at hl 3 rfl) ?_
              refine n_imul (d := 8 * cn) E dX0_due_55 rfl ?_
              refine n_icmp_ge (tgt := 85) E dX0_due_56 (by decide) (by omega) (by omega) (fun c_56 => ?_) (fun c_56 => ?_)
              · skip
                have hbit : bitN tx fr cn (i * bts k + q) = 0 := if_neg (by omega)
                refine lv_iconst (v := nI 0) E.1 E.2.1 dX0_due_85 (by decide +kernel) ?_
                refine n_iadd (d := accN tx fr cn (i * bts k) (q + 1)) E dX0_due_86 (by show _ = 2 * _ + bitN _ _ _ _; rw [hbit]) ?_
                refine lv_istore (lv' := [(6, .int (nI (accN tx fr cn (i * bts k) (q + 1)))), (0, .ref ht), (1, .int (nI k)), (2, .int (nI fr)), (3, .int (nI cn)), (4, .ref zz), (5, .int (nI i)), (7, .int (nI (i * bts k + q)))]) E.1 E.2.1 dX0_due_87 hl (by decide) rfl (fun ls hl => ?_)
                refine n_iinc (n := 1) (d := i * bts k + (q + 1)) (lv' := [(7, .int (nI (i * bts k + (q + 1)))), (6, .int (nI (accN tx fr cn (i * bts k) (q + 1)))), (0, .ref ht), (1, .int (nI k)), (2, .int (nI fr)), (3, .int (nI cn)), (4, .ref zz), (5, .int (nI i))]) E dX0_due_89 hl (k := 7) rfl (by omega) (by decide) rfl (fun ls hl => ?_)
                refine lv_goto (tgt := 32) E.1 E.2.1 dX0_due_92 (by decide) ?_
                exact ih (q + 1) (by omega) (by omega) H locs (hw.sub [0, 1, 2] (by decide) rfl) ls (lv_sub hl [2, 3, 4, 5, 6, 7, 1, 0] rfl)
              · skip
                have hbit : bitN tx fr cn (i * bts k + q) = tx (fr + (i * bts k + q) / 8) / 2 ^ (7 - (i * bts k + q) % 8) % 2 := if_pos c_56
                refine lv_aload_n E.1 E.2.1 dX0_due_59 rfl (lv_at hl 0 rfl) ?_
                refine gf (v := .ref tt) E hw in_X2 (ci := 4) rfl 0 rfl 0 (by decide) q36 rfl dX0_due_60 ?_
                refine lv_iload_n E.1 E.2.1 dX0_due_63 rfl (lv_at hl 2 rfl) ?_
                refine lv_iload E.1 E.2.1 dX0_due_64 (lv_at hl 7 rfl) ?_
                refine lv_bipush (v := nI 8) E.1 E.2.1 dX0_due_66 (by decide +kernel) ?_
                refine n_idiv (d := (i * bts k + q) / 8) E dX0_due_68 (by omega) (by omega) (by omega) rfl ?_
                refine n_iadd (d := fr + (i * bts k + q) / 8) E dX0_due_69 rfl ?_
                refine ild (v := nI (tx (fr + (i * bts k + q) / 8))) E hw 1 rfl (by omega) (by omega) rfl dX0_due_70 ?_
                refine lv_bipush (v := nI 7) E.1 E.2.1 dX0_due_71 (by decide +kernel) ?_
                refine lv_iload E.1 E.2.1 dX0_due_73 (lv_at hl 7 rfl) ?_
                refine lv_bipush (v := nI 8) E.1 E.2.1 dX0_due_75 (by decide +kernel) ?_
                refine n_irem (d := (i * bts k + q) % 8) E dX0_due_77 (by omega) (by omega) (by omega) rfl ?_
                refine n_isub (d := 7 - (i * bts k + q) % 8) E dX0_due_78 (by omega) ?_
                refine lv_ishr E.1 E.2.1 dX0_due_79 ?_
                refine lv_iconst (v := nI 1) E.1 E.2.1 dX0_due_80 (by decide +kernel) ?_
                refine lv_iand E.1 E.2.1 dX0_due_81 ?_
                refine tv (y := nI (tx (fr + (i * bts k + q) / 8) / 2 ^ (7 - (i * bts k + q) % 8) % 2)) (x_bit (htx _) (by omega)) ?_
                refine lv_goto (tgt := 86) E.1 E.2.1 dX0_due_82 (by decide) ?_
                refine n_iadd (d := accN tx fr cn (i * bts k) (q + 1)) E dX0_due_86 (by show _ = 2 * _ + bitN _ _ _ _; rw [hbit]) ?_
                refine lv_istore (lv' := [(6, .int (nI (accN tx fr cn (i * bts k) (q + 1)))), (0, .ref ht), (1, .int (nI k)), (2, .int (nI fr)), (3, .int (nI cn)), (4, .ref zz), (5, .int (nI i)), (7, .int (nI (i * bts k + q)))]) E.1 E.2.1 dX0_due_87 hl (by decide) rfl (fun ls hl => ?_)
                refine n_iinc (n := 1) (d := i * bts k + (q + 1)) (lv' := [(7, .int (nI (i * bts k + (q + 1)))), (6, .int (nI (accN tx fr cn (i * bts k) (q + 1)))), (0, .ref ht), (1, .int (nI k)), (2, .int (nI fr)), (3, .int (nI cn)), (4, .ref zz), (5, .int (nI i))]) E dX0_due_89 hl (k := 7) rfl (by omega) (by decide) rfl (fun ls hl => ?_)
                refine lv_goto (tgt := 32) E.1 E.2.1 dX0_due_92 (by decide) ?_
                exact ih (q + 1) (by omega) (by omega) H locs (hw.sub [0, 1, 2] (by decide) rfl) ls (lv_sub hl [2, 3, 4, 5, 6, 7, 1, 0] rfl)
        refine lv_iconst (v := nI 0) E.1 E.2.1 dX0_due_20 (by decide +kernel) ?_
        refine lv_istore (lv' := [(6, .int (nI 0)), (0, .ref ht), (1, .int (nI k)), (2, .int (nI fr)), (3, .int (nI cn)), (4, .ref zz), (5, .int (nI i))]) E.1 E.2.1 dX0_due_21 hl (by decide) rfl (fun ls hl => ?_)
        refine lv_iload E.1 E.2.1 dX0_due_23 (lv_at hl 6 rfl) ?_
        refine lv_iload_n E.1 E.2.1 dX0_due_25 rfl (lv_at hl 2 rfl) ?_
        refine cl_i (wr := [(ht, .inr (4, [.ref tt, .int (nI si), .ref ot])), (tt, .inl (G.2.2.1, 256, .inl (fun j => nI (tx j)))), (zz, .inl (G.2.2.1, rmN k cn, .inl (bk (fun _ => 0) 0 (fun j => nI (letN tx k fr cn j)) (i))))]) (va_runS (As := [.int (nI k)]) (rest := [.int (nI i)]) E.fix (m_X0_bits l G H.size k hk) (va_cwS 1 E.hts (lw_S q92 q93 q3 q94) rfl rfl rfl (by decide +kernel) ⟨Nat.le_of_ble_eq_true rfl, Nat.le_of_ble_eq_true rfl⟩) (preS_ok E hw [] rfl (by decide)) rfl rfl hl.1 rfl (lv_room (Nat.le_of_ble_eq_true rfl)) dX0_due_26 ⟨(by show _ ≤ 1; omega), (by show _ ≤ 520; omega)⟩) E hw [] [0, 1, 2] rfl rfl (by decide) (by decide) (fun r u H locs hp hw => ?_)
        subst hp
        have hw : Wd G A s [(ht, .inr (4, [.ref tt, .int (nI si), .ref ot])), (tt, .inl (G.2.2.1, 256, .inl (fun j => nI (tx j)))), (zz, .inl (G.2.2.1, rmN k cn, .inl (bk (fun _ => 0) 0 (fun j => nI (letN tx k fr cn j)) (i))))] H locs := hw
        refine W.cs (cells' := 0 + 1) (slots' := 0 + (rmN k cn)) rfl rfl ?_
        refine n_imul (d := i * bts k) E dX0_due_29 rfl ?_
        refine lv_istore (lv' := [(7, .int (nI (i * bts k))), (6, .int (nI 0)), (0, .ref ht), (1, .int (nI k)), (2, .int (nI fr)), (3, .int (nI cn)), (4, .ref zz), (5, .int (nI i))]) E.1 E.2.1 dX0_due_30 hl (by decide) rfl (fun ls hl => ?_)
        exact loopI (bts k + 1) 0 (by omega) (by omega) H locs (hw.sub [0, 1, 2] (by decide) rfl) ls (lv_sub hl [2, 3, 4, 5, 6, 7, 1, 0] rfl)
  exact loopO (rmN k cn + 1) 0 (by omega) (by omega) H locs (hw.sub [0, 1, 2] (by decide) rfl) ls (lv_sub hl [2, 3, 4, 5, 1, 0] rfl)
end
section
set_option maxHeartbeats 4000000 in
set_option maxRecDepth 100000 in
/-- LetterDeskLaw.put: both texts grow alike -/
theorem m_X0_put (l : Launch) (G : gg_T) (sz : Nat) (hd td od ht tt ot si : Nat) (tx : Nat → Nat) (a1 a2 a3 a4 : Int32) (hsi : si ≤ 256) : cT_i l yX0_put (ws_ yX0_put cX0_put 8 (some .boolean)) ({ frames := 2, cells := 0, slots := 0, locals := 48 }) G [(hd, .inr (3, [.ref td, .int (nI si), .ref od])), (td, .inl (G.2.1, 256, .inl (fun j => sb_b (tx j)))), (ht, .inr (4, [.ref tt, .int (nI si), .ref ot])), (tt, .inl (G.2.2.1, 256, .inl (fun j => nI (tx j))))] sz [.ref hd, .ref ht, .int a1, .int a2, .int a3, .int a4] (S := Unit) (fun r _ => r = nI 1) (fun _ => [(hd, .inr (3, [.ref td, .int (nI (pSi si)), .ref od])), (td, .inl (G.2.1, 256, .inl (fun j => sb_b ((pTx si tx a1 a2 a3 a4) j)))), (ht, .inr (4, [.ref tt, .int (nI (pSi si)), .ref ot])), (tt, .inl (G.2.2.1, 256, .inl (fun j => nI ((pTx si tx a1 a2 a3 a4) j))))]) 0 0 := by
  refine Met.ofW (cc := cX0_put) (maxL := 8) (ret := some .boolean) (by decide) rfl ?_
  intro p e s m args below meth c s₁ B hml hv
  obtain ⟨rfl, hsz, E, hw⟩ := ent_ (own := RX0) B hml rfl hv
  have hr := B.returns
  have hlk := B.notSynchronized
  subst hsz
  clear hv
  generalize va_A [(hd, .inr (3, [.ref td, .int (nI si), .ref od])), (td, .inl (G.2.1, 256, .inl (fun j => sb_b (tx j)))), (ht, .inr (4, [.ref tt, .int (nI si), .ref ot])), (tt, .inl (G.2.2.1, 256, .inl (fun j => nI (tx j))))] s.heap.size = A at E hw ⊢
  refine ent_f (Nat.le_of_ble_eq_true rfl) rfl (fun ls hl => ?_)
  have hl : lv_has ls 8 [(0, .ref hd), (1, .ref ht), (2, .int a1), (3, .int a2), (4, .int a3), (5, .int a4)] := hl
  refine lv_aload_n E.1 E.2.1 dX0_put_0 rfl (lv_at hl 1 rfl) ?_
  refine gf (v := .int (nI si)) E hw in_X2 (ci := 4) rfl 2 rfl 1 (by decide) q37 rfl dX0_put_1 ?_
  refine lv_sipush (v := nI 240) E.1 E.2.1 dX0_put_4 (by decide +kernel) ?_
  refine n_icmp_gt (tgt := 14) E dX0_put_7 (by decide) (by omega) (by omega) (fun c_7 => ?_) (fun c_7 => ?_)
  · skip
    have e1 : pSi si = si := if_neg (by omega)
    have e2 : pTx si tx a1 a2 a3 a4 = tx := if_neg (by omega)
    refine lv_iconst (v := nI 0) E.1 E.2.1 dX0_put_14 (by decide +kernel) ?_
    refine lv_istore (lv' := [(6, .int (nI 0)), (0, .ref hd), (1, .ref ht), (2, .int a1), (3, .int a2), (4, .int a3), (5, .int a4)]) E.1 E.2.1 dX0_put_15 hl (by decide) rfl (fun ls hl => ?_)
    refine lv_iconst (v := nI 0) E.1 E.2.1 dX0_put_17 (by decide +kernel) ?_
    refine lv_istore (lv' := [(7, .int (nI 0)), (6, .int (nI 0)), (0, .ref hd), (1, .ref ht), (2, .int a1), (3, .int a2), (4, .int a3), (5, .int a4)]) E.1 E.2.1 dX0_put_18 hl (by decide) rfl (fun ls hl => ?_)
    refine lv_iload E.1 E.2.1 dX0_put_20 (lv_at hl 1 rfl) ?_
    refine n_if_eq (tgt := 100) E dX0_put_22 (by decide) (by omega) (fun c_22 => ?_) (fun c_22 => ?_)
    · skip
      refine lv_aload_n E.1 E.2.1 dX0_put_100 rfl (lv_at hl 3 rfl) ?_
      refine lv_dup E.1 E.2.1 dX0_put_101 rfl ?_
      refine gf (v := .int (nI si)) E hw in_X2 (ci := 4) rfl 2 rfl 1 (by decide) q37 rfl dX0_put_102 ?_
      refine lv_iload E.1 E.2.1 dX0_put_105 (lv_at hl 1 rfl) ?_
      refine n_if_eq (tgt := 115) E dX0_put_107 (by decide) (by omega) (fun c_107 => ?_) (fun c_107 => ?_)
      · skip
        refine lv_iconst (v := nI 0) E.1 E.2.1 dX0_put_115 (by decide +kernel) ?_
        refine n_iadd (d := si) E dX0_put_116 rfl ?_
        refine pf (ws' := [(hd, .inr (3, [.ref td, .int (nI si), .ref od])), (td, .inl (G.2.1, 256, .inl (fun j => sb_b (tx j)))), (ht, .inr (4, [.ref tt, .int (nI si), .ref ot])), (tt, .inl (G.2.2.1, 256, .inl (fun j => nI (tx j))))]) E hw in_X2 tyX2 tyX2_ok nmX2 (ci := 4) rfl 2 rfl 1 (by decide) q37 rfl rfl rfl (Nat.le_of_ble_eq_true rfl) rfl dX0_put_117 (fun H locs hw => ?_)
        refine lv_aload_n E.1 E.2.1 dX0_put_120 rfl (lv_at hl 2 rfl) ?_
        refine lv_iload_n E.1 E.2.1 dX0_put_121 rfl (lv_at hl 4 rfl) ?_
        refine lv_iload_n E.1 E.2.1 dX0_put_122 rfl (lv_at hl 5 rfl) ?_
        refine lv_iload E.1 E.2.1 dX0_put_123 (lv_at hl 6 rfl) ?_
        refine lv_iload E.1 E.2.1 dX0_put_125 (lv_at hl 7 rfl) ?_
        refine cl_i (wr := [(ht, .inr (4, [.ref tt, .int (nI si), .ref ot])), (tt, .inl (G.2.2.1, 256, .inl (fun j => nI (tx j))))]) (va_runV (As := [.int a1, .int a2, .int a3, .int a4]) (rest := []) E.fix (m_X1_put l G H.size hd td od si tx a1 a2 a3 a4 hsi) (cwV 4 E.hts (lw_V q54 q55 q56 q4 q57) rfl rfl rfl (by decide +kernel) ⟨Nat.le_of_ble_eq_true rfl, Nat.le_of_ble_eq_true rfl⟩) (preV_ok E hw [0, 1] rfl (by decide) 0 rfl (ci := 3) rfl) rfl rfl hl.1 rfl (lv_room (Nat.le_of_ble_eq_true rfl)) dX0_put_127 ⟨(by show _ ≤ 0; omega), (by show _ ≤ 0; omega)⟩) E hw [0, 1] [2, 3] rfl rfl (by decide) (by decide) (fun r u H locs hp hw => ?_)
        rw [if_neg (by omega)] at hp
        subst hp
        have hw : Wd G A s [(ht, .inr (4, [.ref tt, .int (nI si), .ref ot])), (tt, .inl (G.2.2.1, 256, .inl (fun j => nI (tx j)))), (hd, .inr (3, [.ref td, .int (nI (pSi si)), .ref od])), (td, .inl (G.2.1, 256, .inl (fun j => sb_b ((pTx si tx a1 a2 a3 a4) j))))] H locs := hw
        refine W.cs (cells' := 0) (slots' := 0) rfl rfl ?_
        refine lv_iload E.1 E.2.1 dX0_put_130 (lv_at hl 1 rfl) ?_
        refine n_icmp_ne (tgt := 139) E dX0_put_132 (by decide) (by omega) (by omega) (fun c_132 => ?_) (fun c_132 => ?_)
        · skip
          exact absurd rfl c_132
        · skip
          refine lv_iconst (v := nI 1) E.1 E.2.1 dX0_put_135 (by decide +kernel) ?_
          refine lv_goto (tgt := 140) E.1 E.2.1 dX0_put_136 (by decide) ?_
          have hw : Wd G A s [(hd, .inr (3, [.ref td, .int (nI (pSi si)), .ref od])), (td, .inl (G.2.1, 256, .inl (fun j => sb_b ((pTx si tx a1 a2 a3 a4) j)))), (ht, .inr (4, [.ref tt, .int (nI si), .ref ot])), (tt, .inl (G.2.2.1, 256, .inl (fun j => nI (tx j))))] H locs := hw.sub [2, 3, 0, 1] (by decide) rfl
          exact ret_z E hw hr hlk (by omega) (by omega) () (by decide +kernel) rfl (by rw [e1, e2]) dX0_put_140
      · skip
        exact absurd rfl c_107
    · skip
      exact absurd rfl c_22
  · skip
    have e1 : pSi si = si + 16 := if_pos (by omega)
    have e2 : pTx si tx a1 a2 a3 a4 = bk tx si (fun q => by16 a1 a2 a3 a4 q) 16 := if_pos (by omega)
    have loop : ∀ (n : Nat) (i : Nat), i ≤ 16 → 16 < i + n → ∀ (H : Heap) (locs : List Loc), Wd G A s [(hd, .inr (3, [.ref td, .int (nI si), .ref od])), (td, .inl (G.2.1, 256, .inl (fun j => sb_b (tx j)))), (ht, .inr (4, [.ref tt, .int (nI si), .ref ot])), (tt, .inl (G.2.2.1, 256, .inl (bk (fun j => nI (tx j)) si (fun q => nI (by16 a1 a2 a3 a4 q)) (i))))] H locs → ∀ (ls : Array Slot), lv_has ls 8 [(0, .ref hd), (1, .ref ht), (2, .int a1), (3, .int a2), (4, .int a3), (5, .int a4), (6, .int (nI 1)), (7, .int (nI i))] → W p l e (headSpec (ws_ yX0_put cX0_put 8 (some .boolean)) ({ frames := 2, cells := 0, slots := 0, locals := 48 })).room s m ([.ref hd, .ref ht, .int a1, .int a2, .int a3, .int a4] : List Value).toArray below meth c H locs 0 0 (MQ below (va_Qi (S := Unit) (fun r _ => r = nI 1) (bw_ G A (fun _ => [(hd, .inr (3, [.ref td, .int (nI (pSi si)), .ref od])), (td, .inl (G.2.1, 256, .inl (fun j => sb_b ((pTx si tx a1 a2 a3 a4) j)))), (ht, .inr (4, [.ref tt, .int (nI (pSi si)), .ref ot])), (tt, .inl (G.2.2.1, 256, .inl (fun j => nI ((pTx si tx a1 a2 a3 a4) j))))])) A) ([.ref hd, .ref ht, .int a1, .int a2, .int a3, .int a4] : List Value).toArray s 0 0 A) (F0 m 20 ls []) := by
      intro n
      induction n with
      | zero =>
        intro i hi hn
        omega
      | succ n ih =>
        intro i hi hn H locs hw ls hl
        refine lv_iload E.1 E.2.1 dX0_put_20 (lv_at hl 6 rfl) ?_
        refine n_if_eq (tgt := 100) E dX0_put_22 (by decide) (by omega) (fun c_22 => ?_) (fun c_22 => ?_)
        · skip
          exact absurd c_22 (by decide)
        · skip
          refine lv_iload E.1 E.2.1 dX0_put_25 (lv_at hl 7 rfl) ?_
          refine lv_bipush (v := nI 16) E.1 E.2.1 dX0_put_27 (by decide +kernel) ?_
          refine n_icmp_ge (tgt := 100) E dX0_put_29 (by decide) (by omega) (by omega) (fun c_29 => ?_) (fun c_29 => ?_)
          · skip
            have hi2 : i = 16 := by omega
            subst hi2
            have hw : Wd G A s [(hd, .inr (3, [.ref td, .int (nI si), .ref od])), (td, .inl (G.2.1, 256, .inl (fun j => sb_b (tx j)))), (ht, .inr (4, [.ref tt, .int (nI si), .ref ot])), (tt, .inl (G.2.2.1, 256, .inl (fun j => nI ((bk tx si (fun q => by16 a1 a2 a3 a4 q) 16) j))))] H locs := hw.cong 3 rfl (fun j _ => congrFun (show (bk (fun j => nI (tx j)) si (fun q => nI (by16 a1 a2 a3 a4 q)) (16)) = (fun j => nI ((bk tx si (fun q => by16 a1 a2 a3 a4 q) 16) j)) from (bk_map nI tx si (fun q => by16 a1 a2 a3 a4 q) 16)) j) rfl
            refine lv_aload_n E.1 E.2.1 dX0_put_100 rfl (lv_at hl 1 rfl) ?_
            refine lv_dup E.1 E.2.1 dX0_put_101 rfl ?_
            refine gf (v := .int (nI si)) E hw in_X2 (ci := 4) rfl 2 rfl 1 (by decide) q37 rfl dX0_put_102 ?_
            refine lv_iload E.1 E.2.1 dX0_put_105 (lv_at hl 6 rfl) ?_
            refine n_if_eq (tgt := 115) E dX0_put_107 (by decide) (by omega) (fun c_107 => ?_) (fun c_107 => ?_)
            · skip
              exact absurd c_107 (by decide)
            · skip
              refine lv_bipush (v := nI 16) E.1 E.2.1 dX0_put_110 (by decide +kernel) ?_
              refine lv_goto (tgt := 116) E.1 E.2.1 dX0_put_112 (by decide) ?_
              refine n_iadd (d := si + 16) E dX0_put_116 rfl ?_
              refine pf (ws' := [(hd, .inr (3, [.ref td, .int (nI si), .ref od])), (td, .inl (G.2.1, 256, .inl (fun j => sb_b (tx j)))), (ht, .inr (4, [.ref tt, .int (nI (si + 16)), .ref ot])), (tt, .inl (G.2.2.1, 256, .inl (fun j => nI ((bk tx si (fun q => by16 a1 a2 a3 a4 q) 16) j))))]) E hw in_X2 tyX2 tyX2_ok nmX2 (ci := 4) rfl 2 rfl 1 (by decide) q37 rfl rfl rfl (Nat.le_of_ble_eq_true rfl) rfl dX0_put_117 (fun H locs hw => ?_)
              refine lv_aload_n E.1 E.2.1 dX0_put_120 rfl (lv_at hl 0 rfl) ?_
              refine lv_iload_n E.1 E.2.1 dX0_put_121 rfl (lv_at hl 2 rfl) ?_
              refine lv_iload_n E.1 E.2.1 dX0_put_122 rfl (lv_at hl 3 rfl) ?_
              refine lv_iload E.1 E.2.1 dX0_put_123 (lv_at hl 4 rfl) ?_
              refine lv_iload E.1 E.2.1 dX0_put_125 (lv_at hl 5 rfl) ?_
              refine cl_i (wr := [(ht, .inr (4, [.ref tt, .int (nI (si + 16)), .ref ot])), (tt, .inl (G.2.2.1, 256, .inl (fun j => nI ((bk tx si (fun q => by16 a1 a2 a3 a4 q) 16) j))))]) (va_runV (As := [.int a1, .int a2, .int a3, .int a4]) (rest := []) E.fix (m_X1_put l G H.size hd td od si tx a1 a2 a3 a4 hsi) (cwV 4 E.hts (lw_V q54 q55 q56 q4 q57) rfl rfl rfl (by decide +kernel) ⟨Nat.le_of_ble_eq_true rfl, Nat.le_of_ble_eq_true rfl⟩) (preV_ok E hw [0, 1] rfl (by decide) 0 rfl (ci := 3) rfl) rfl rfl hl.1 rfl (lv_room (Nat.le_of_ble_eq_true rfl)) dX0_put_127 ⟨(by show _ ≤ 0; omega), (by show _ ≤ 0; omega)⟩) E hw [0, 1] [2, 3] rfl rfl (by decide) (by decide) (fun r u H locs hp hw => ?_)
              rw [if_pos (by omega)] at hp
              subst hp
              have hw : Wd G A s [(ht, .inr (4, [.ref tt, .int (nI (si + 16)), .ref ot])), (tt, .inl (G.2.2.1, 256, .inl (fun j => nI ((bk tx si (fun q => by16 a1 a2 a3 a4 q) 16) j)))), (hd, .inr (3, [.ref td, .int (nI (pSi si)), .ref od])), (td, .inl (G.2.1, 256, .inl (fun j => sb_b ((pTx si tx a1 a2 a3 a4) j))))] H locs := hw
              refine W.cs (cells' := 0) (slots' := 0) rfl rfl ?_
              refine lv_iload E.1 E.2.1 dX0_put_130 (lv_at hl 6 rfl) ?_
              refine n_icmp_ne (tgt := 139) E dX0_put_132 (by decide) (by omega) (by omega) (fun c_132 => ?_) (fun c_132 => ?_)
              · skip
                exact absurd rfl c_132
              · skip
                refine lv_iconst (v := nI 1) E.1 E.2.1 dX0_put_135 (by decide +kernel) ?_
                refine lv_goto (tgt := 140) E.1 E.2.1 dX0_put_136 (by decide) ?_
                have hw : Wd G A s [(hd, .inr (3, [.ref td, .int (nI (pSi si)), .ref od])), (td, .inl (G.2.1, 256, .inl (fun j => sb_b ((pTx si tx a1 a2 a3 a4) j)))), (ht, .inr (4, [.ref tt, .int (nI (si + 16)), .ref ot])), (tt, .inl (G.2.2.1, 256, .inl (fun j => nI ((bk tx si (fun q => by16 a1 a2 a3 a4 q) 16) j))))] H locs := hw.sub [2, 3, 0, 1] (by decide) rfl
                exact ret_z E hw hr hlk (by omega) (by omega) () (by decide +kernel) rfl (by rw [e1, e2]) dX0_put_140
          · skip
            refine lv_aload_n E.1 E.2.1 dX0_put_32 rfl (lv_at hl 1 rfl) ?_
            refine gf (v := .ref tt) E hw in_X2 (ci := 4) rfl 2 rfl 0 (by decide) q36 rfl dX0_put_33 ?_
            refine lv_aload_n E.1 E.2.1 dX0_put_36 rfl (lv_at hl 1 rfl) ?_
            refine gf (v := .int (nI si)) E hw in_X2 (ci := 4) rfl 2 rfl 1 (by decide) q37 rfl dX0_put_37 ?_
            refine lv_iload E.1 E.2.1 dX0_put_40 (lv_at hl 7 rfl) ?_
            refine n_iadd (d := si + i) E dX0_put_42 rfl ?_
            refine lv_iload E.1 E.2.1 dX0_put_43 (lv_at hl 7 rfl) ?_
            refine lv_iconst (v := nI 4) E.1 E.2.1 dX0_put_45 (by decide +kernel) ?_
            refine n_icmp_ge (tgt := 53) E dX0_put_46 (by decide) (by omega) (by omega) (fun c_46 => ?_) (fun c_46 => ?_)
            · skip
              refine lv_iload E.1 E.2.1 dX0_put_53 (lv_at hl 7 rfl) ?_
              refine lv_bipush (v := nI 8) E.1 E.2.1 dX0_put_55 (by decide +kernel) ?_
              refine n_icmp_ge (tgt := 64) E dX0_put_57 (by decide) (by omega) (by omega) (fun c_57 => ?_) (fun c_57 => ?_)
              · skip
                refine lv_iload E.1 E.2.1 dX0_put_64 (lv_at hl 7 rfl) ?_
                refine lv_bipush (v := nI 12) E.1 E.2.1 dX0_put_66 (by decide +kernel) ?_
                refine n_icmp_ge (tgt := 76) E dX0_put_68 (by decide) (by omega) (by omega) (fun c_68 => ?_) (fun c_68 => ?_)
                · skip
                  refine lv_iload E.1 E.2.1 dX0_put_76 (lv_at hl 5 rfl) ?_
                  refine lv_bipush (v := nI 24) E.1 E.2.1 dX0_put_78 (by decide +kernel) ?_
                  refine lv_iload E.1 E.2.1 dX0_put_80 (lv_at hl 7 rfl) ?_
                  refine lv_iconst (v := nI 4) E.1 E.2.1 dX0_put_82 (by decide +kernel) ?_
                  refine n_irem (d := i % 4) E dX0_put_83 (by omega) (by omega) (by omega) rfl ?_
                  refine lv_bipush (v := nI 8) E.1 E.2.1 dX0_put_84 (by decide +kernel) ?_
                  refine n_imul (d := i % 4 * 8) E dX0_put_86 rfl ?_
                  refine n_isub (d := 24 - i % 4 * 8) E dX0_put_87 (by omega) ?_
                  refine lv_ishr E.1 E.2.1 dX0_put_88 ?_
                  refine lv_sipush (v := nI 255) E.1 E.2.1 dX0_put_89 (by decide +kernel) ?_
                  refine lv_iand E.1 E.2.1 dX0_put_92 ?_
                  refine tv (y := nI (by16 a1 a2 a3 a4 i)) (by rw [by4_and a4 (i % 4), by16_3 (by omega)]) ?_
                  refine ist (ws' := [(hd, .inr (3, [.ref td, .int (nI si), .ref od])), (td, .inl (G.2.1, 256, .inl (fun j => sb_b (tx j)))), (ht, .inr (4, [.ref tt, .int (nI si), .ref ot])), (tt, .inl (G.2.2.1, 256, .inl (bk (fun j => nI (tx j)) si (fun q => nI (by16 a1 a2 a3 a4 q)) (i + 1))))]) E hw 3 rfl (by omega) (by omega) (bk (fun j => nI (tx j)) si (fun q => nI (by16 a1 a2 a3 a4 q)) (i + 1)) (bk_upd rfl rfl) rfl dX0_put_93 (fun H locs hw => ?_)
                  refine n_iinc (n := 1) (d := i + 1) (lv' := [(7, .int (nI (i + 1))), (0, .ref hd), (1, .ref ht), (2, .int a1), (3, .int a2), (4, .int a3), (5, .int a4), (6, .int (nI 1))]) E dX0_put_94 hl (k := 7) rfl (by omega) (by decide) rfl (fun ls hl => ?_)
                  refine lv_goto (tgt := 20) E.1 E.2.1 dX0_put_97 (by decide) ?_
                  exact ih (i + 1) (by omega) (by omega) H locs (hw.sub [0, 1, 2, 3] (by decide) rfl) ls (lv_sub hl [1, 2, 3, 4, 5, 6, 7, 0] rfl)
                · skip
                  refine lv_iload E.1 E.2.1 dX0_put_71 (lv_at hl 4 rfl) ?_
                  refine lv_goto (tgt := 78) E.1 E.2.1 dX0_put_73 (by decide) ?_
                  refine lv_bipush (v := nI 24) E.1 E.2.1 dX0_put_78 (by decide +kernel) ?_
                  refine lv_iload E.1 E.2.1 dX0_put_80 (lv_at hl 7 rfl) ?_
                  refine lv_iconst (v := nI 4) E.1 E.2.1 dX0_put_82 (by decide +kernel) ?_
                  refine n_irem (d := i % 4) E dX0_put_83 (by omega) (by omega) (by omega) rfl ?_
                  refine lv_bipush (v := nI 8) E.1 E.2.1 dX0_put_84 (by decide +kernel) ?_
                  refine n_imul (d := i % 4 * 8) E dX0_put_86 rfl ?_
                  refine n_isub (d := 24 - i % 4 * 8) E dX0_put_87 (by omega) ?_
                  refine lv_ishr E.1 E.2.1 dX0_put_88 ?_
                  refine lv_sipush (v := nI 255) E.1 E.2.1 dX0_put_89 (by decide +kernel) ?_
                  refine lv_iand E.1 E.2.1 dX0_put_92 ?_
                  refine tv (y := nI (by16 a1 a2 a3 a4 i)) (by rw [by4_and a3 (i % 4), by16_2 (by omega) (by omega)]) ?_
                  refine ist (ws' := [(hd, .inr (3, [.ref td, .int (nI si), .ref od])), (td, .inl (G.2.1, 256, .inl (fun j => sb_b (tx j)))), (ht, .inr (4, [.ref tt, .int (nI si), .ref ot])), (tt, .inl (G.2.2.1, 256, .inl (bk (fun j => nI (tx j)) si (fun q => nI (by16 a1 a2 a3 a4 q)) (i + 1))))]) E hw 3 rfl (by omega) (by omega) (bk (fun j => nI (tx j)) si (fun q => nI (by16 a1 a2 a3 a4 q)) (i + 1)) (bk_upd rfl rfl) rfl dX0_put_93 (fun H locs hw => ?_)
                  refine n_iinc (n := 1) (d := i + 1) (lv' := [(7, .int (nI (i + 1))), (0, .ref hd), (1, .ref ht), (2, .int a1), (3, .int a2), (4, .int a3), (5, .int a4), (6, .int (nI 1))]) E dX0_put_94 hl (k := 7) rfl (by omega) (by decide) rfl (fun ls hl => ?_)
                  refine lv_goto (tgt := 20) E.1 E.2.1 dX0_put_97 (by decide) ?_
                  exact ih (i + 1) (by omega) (by omega) H locs (hw.sub [0, 1, 2, 3] (by decide) rfl) ls (lv_sub hl [1, 2, 3, 4, 5, 6, 7, 0] rfl)
              · skip
                refine lv_iload_n E.1 E.2.1 dX0_put_60 rfl (lv_at hl 3 rfl) ?_
                refine lv_goto (tgt := 78) E.1 E.2.1 dX0_put_61 (by decide) ?_
                refine lv_bipush (v := nI 24) E.1 E.2.1 dX0_put_78 (by decide +kernel) ?_
                refine lv_iload E.1 E.2.1 dX0_put_80 (lv_at hl 7 rfl) ?_
                refine lv_iconst (v := nI 4) E.1 E.2.1 dX0_put_82 (by decide +kernel) ?_
                refine n_irem (d := i % 4) E dX0_put_83 (by omega) (by omega) (by omega) rfl ?_
                refine lv_bipush (v := nI 8) E.1 E.2.1 dX0_put_84 (by decide +kernel) ?_
                refine n_imul (d := i % 4 * 8) E dX0_put_86 rfl ?_
                refine n_isub (d := 24 - i % 4 * 8) E dX0_put_87 (by omega) ?_
                refine lv_ishr E.1 E.2.1 dX0_put_88 ?_
                refine lv_sipush (v := nI 255) E.1 E.2.1 dX0_put_89 (by decide +kernel) ?_
                refine lv_iand E.1 E.2.1 dX0_put_92 ?_
                refine tv (y := nI (by16 a1 a2 a3 a4 i)) (by rw [by4_and a2 (i % 4), by16_1 (by omega) (by omega)]) ?_
                refine ist (ws' := [(hd, .inr (3, [.ref td, .int (nI si), .ref od])), (td, .inl (G.2.1, 256, .inl (fun j => sb_b (tx j)))), (ht, .inr (4, [.ref tt, .int (nI si), .ref ot])), (tt, .inl (G.2.2.1, 256, .inl (bk (fun j => nI (tx j)) si (fun q => nI (by16 a1 a2 a3 a4 q)) (i + 1))))]) E hw 3 rfl (by omega) (by omega) (bk (fun j => nI (tx j)) si (fun q => nI (by16 a1 a2 a3 a4 q)) (i + 1)) (bk_upd rfl rfl) rfl dX0_put_93 (fun H locs hw => ?_)
                refine n_iinc (n := 1) (d := i + 1) (lv' := [(7, .int (nI (i + 1))), (0, .ref hd), (1, .ref ht), (2, .int a1), (3, .int a2), (4, .int a3), (5, .int a4), (6, .int (nI 1))]) E dX0_put_94 hl (k := 7) rfl (by omega) (by decide) rfl (fun ls hl => ?_)
                refine lv_goto (tgt := 20) E.1 E.2.1 dX0_put_97 (by decide) ?_
                exact ih (i + 1) (by omega) (by omega) H locs (hw.sub [0, 1, 2, 3] (by decide) rfl) ls (lv_sub hl [1, 2, 3, 4, 5, 6, 7, 0] rfl)
            · skip
              refine lv_iload_n E.1 E.2.1 dX0_put_49 rfl (lv_at hl 2 rfl) ?_
              refine lv_goto (tgt := 78) E.1 E.2.1 dX0_put_50 (by decide) ?_
              refine lv_bipush (v := nI 24) E.1 E.2.1 dX0_put_78 (by decide +kernel) ?_
              refine lv_iload E.1 E.2.1 dX0_put_80 (lv_at hl 7 rfl) ?_
              refine lv_iconst (v := nI 4) E.1 E.2.1 dX0_put_82 (by decide +kernel) ?_
              refine n_irem (d := i % 4) E dX0_put_83 (by omega) (by omega) (by omega) rfl ?_
              refine lv_bipush (v := nI 8) E.1 E.2.1 dX0_put_84 (by decide +kernel) ?_
              refine n_imul (d := i % 4 * 8) E dX0_put_86 rfl ?_
              refine n_isub (d := 24 - i % 4 * 8) E dX0_put_87 (by omega) ?_
              refine lv_ishr E.1 E.2.1 dX0_put_88 ?_
              refine lv_sipush (v := nI 255) E.1 E.2.1 dX0_put_89 (by decide +kernel) ?_
              refine lv_iand E.1 E.2.1 dX0_put_92 ?_
              refine tv (y := nI (by16 a1 a2 a3 a4 i)) (by rw [by4_and a1 (i % 4), by16_0 (by omega)]) ?_
              refine ist (ws' := [(hd, .inr (3, [.ref td, .int (nI si), .ref od])), (td, .inl (G.2.1, 256, .inl (fun j => sb_b (tx j)))), (ht, .inr (4, [.ref tt, .int (nI si), .ref ot])), (tt, .inl (G.2.2.1, 256, .inl (bk (fun j => nI (tx j)) si (fun q => nI (by16 a1 a2 a3 a4 q)) (i + 1))))]) E hw 3 rfl (by omega) (by omega) (bk (fun j => nI (tx j)) si (fun q => nI (by16 a1 a2 a3 a4 q)) (i + 1)) (bk_upd rfl rfl) rfl dX0_put_93 (fun H locs hw => ?_)
              refine n_iinc (n := 1) (d := i + 1) (lv' := [(7, .int (nI (i + 1))), (0, .ref hd), (1, .ref ht), (2, .int a1), (3, .int a2), (4, .int a3), (5, .int a4), (6, .int (nI 1))]) E dX0_put_94 hl (k := 7) rfl (by omega) (by decide) rfl (fun ls hl => ?_)
              refine lv_goto (tgt := 20) E.1 E.2.1 dX0_put_97 (by decide) ?_
              exact ih (i + 1) (by omega) (by omega) H locs (hw.sub [0, 1, 2, 3] (by decide) rfl) ls (lv_sub hl [1, 2, 3, 4, 5, 6, 7, 0] rfl)
    refine lv_iconst (v := nI 1) E.1 E.2.1 dX0_put_10 (by decide +kernel) ?_
    refine lv_goto (tgt := 15) E.1 E.2.1 dX0_put_11 (by decide) ?_
    refine lv_istore (lv' := [(6, .int (nI 1)), (0, .ref hd), (1, .ref ht), (2, .int a1), (3, .int a2), (4, .int a3), (5, .int a4)]) E.1 E.2.1 dX0_put_15 hl (by decide) rfl (fun ls hl => ?_)
    refine lv_iconst (v := nI 0) E.1 E.2.1 dX0_put_17 (by decide +kernel) ?_
    refine lv_istore (lv' := [(7, .int (nI 0)), (6, .int (nI 1)), (0, .ref hd), (1, .ref ht), (2, .int a1), (3, .int a2), (4, .int a3), (5, .int a4)]) E.1 E.2.1 dX0_put_18 hl (by decide) rfl (fun ls hl => ?_)
    have hw : Wd G A s [(hd, .inr (3, [.ref td, .int (nI si), .ref od])), (td, .inl (G.2.1, 256, .inl (fun j => sb_b (tx j)))), (ht, .inr (4, [.ref tt, .int (nI si), .ref ot])), (tt, .inl (G.2.2.1, 256, .inl (bk (fun j => nI (tx j)) si (fun q => nI (by16 a1 a2 a3 a4 q)) (0))))] s.heap [] := hw.cong 3 rfl (fun j _ => congrFun (show (fun j => nI (tx j)) = (bk (fun j => nI (tx j)) si (fun q => nI (by16 a1 a2 a3 a4 q)) (0)) from (bk_0 _ _ _).symm) j) rfl
    exact loop 17 0 (by omega) (by omega) s.heap [] (hw.sub [0, 1, 2, 3] (by decide) rfl) ls (lv_sub hl [2, 3, 4, 5, 6, 7, 1, 0] rfl)
set_option maxHeartbeats 4000000 in
set_option maxRecDepth 100000 in
/-- LetterDeskLaw.stand: true where both sides hold the same letters -/
theorem m_X0_stand (l : Launch) (G : gg_T) (sz : Nat) (hd td od ht tt ot si ln : Nat) (o : Nat → Nat) (x : Int32) (ho : ∀ j, o j < 128) (hln : ln ≤ 1000) : cT_i l yX0_stand (ws_ yX0_stand cX0_stand 6 (some .boolean)) ({ frames := 1, cells := 0, slots := 0, locals := 24 }) G [(hd, .inr (3, [.ref td, .int (nI si), .ref od])), (od, .inl (G.2.1, ln, .inl (fun j => nI (o j)))), (ht, .inr (4, [.ref tt, .int (nI si), .ref ot])), (ot, .inl (G.2.2.1, ln, .inl (fun j => nI (o j))))] sz [.ref hd, .ref ht, .int x] (S := Unit) (fun r _ => r = nI 1) (fun _ => [(hd, .inr (3, [.ref td, .int (nI si), .ref od])), (od, .inl (G.2.1, ln, .inl (fun j => nI (o j)))), (ht, .inr (4, [.ref tt, .int (nI si), .ref ot])), (ot, .inl (G.2.2.1, ln, .inl (fun j => nI (o j))))]) 0 0 := by
  refine Met.ofW (cc := cX0_stand) (maxL := 6) (ret := some .boolean) (by decide) rfl ?_
  intro p e s m args below meth c s₁ B hml hv
  obtain ⟨rfl, hsz, E, hw⟩ := ent_ (own := RX0) B hml rfl hv
  have hr := B.returns
  have hlk := B.notSynchronized
  subst hsz
  clear hv
  generalize va_A [(hd, .inr (3, [.ref td, .int (nI si), .ref od])), (od, .inl (G.2.1, ln, .inl (fun j => nI (o j)))), (ht, .inr (4, [.ref tt, .int (nI si), .ref ot])), (ot, .inl (G.2.2.1, ln, .inl (fun j => nI (o j))))] s.heap.size = A at E hw ⊢
  refine ent_f (Nat.le_of_ble_eq_true rfl) rfl (fun ls hl => ?_)
  have hl : lv_has ls 6 [(0, .ref hd), (1, .ref ht), (2, .int x)] := hl
  have loop : ∀ (n : Nat) (i : Nat), i ≤ ln → ln < i + n → ∀ (H : Heap) (locs : List Loc), Wd G A s [(hd, .inr (3, [.ref td, .int (nI si), .ref od])), (od, .inl (G.2.1, ln, .inl (fun j => nI (o j)))), (ht, .inr (4, [.ref tt, .int (nI si), .ref ot])), (ot, .inl (G.2.2.1, ln, .inl (fun j => nI (o j))))] H locs → ∀ (ls : Array Slot), lv_has ls 6 [(0, .ref hd), (1, .ref ht), (2, .int x), (3, .long (whl (fun j => nI (o j)) i)), (5, .int (nI i))] → W p l e (headSpec (ws_ yX0_stand cX0_stand 6 (some .boolean)) ({ frames := 1, cells := 0, slots := 0, locals := 24 })).room s m ([.ref hd, .ref ht, .int x] : List Value).toArray below meth c H locs 0 0 (MQ below (va_Qi (S := Unit) (fun r _ => r = nI 1) (bw_ G A (fun _ => [(hd, .inr (3, [.ref td, .int (nI si), .ref od])), (od, .inl (G.2.1, ln, .inl (fun j => nI (o j)))), (ht, .inr (4, [.ref tt, .int (nI si), .ref ot])), (ot, .inl (G.2.2.1, ln, .inl (fun j => nI (o j))))])) A) ([.ref hd, .ref ht, .int x] : List Value).toArray s 0 0 A) (F0 m 5 ls []) := by
    intro n
    induction n with
    | zero =>
      intro i hi hn
      omega
    | succ n ih =>
      intro i hi hn H locs hw ls hl
      refine lv_iload E.1 E.2.1 dX0_stand_5 (lv_at hl 4 rfl) ?_
      refine lv_aload_n E.1 E.2.1 dX0_stand_7 rfl (lv_at hl 1 rfl) ?_
      refine gf (v := .ref ot) E hw in_X2 (ci := 4) rfl 2 rfl 2 (by decide) q39 rfl dX0_stand_8 ?_
      refine iln E hw 3 rfl dX0_stand_11 ?_
      refine n_icmp_ge (tgt := 54) E dX0_stand_12 (by decide) (by omega) (by omega) (fun c_12 => ?_) (fun c_12 => ?_)
      · skip
        have hi2 : ln = i := by omega
        subst hi2
        refine lv_aload_n E.1 E.2.1 dX0_stand_54 rfl (lv_at hl 0 rfl) ?_
        refine cl_i (wr := [(ht, .inr (4, [.ref tt, .int (nI si), .ref ot])), (ot, .inl (G.2.2.1, ln, .inl (fun j => nI (o j))))]) (va_runV (As := []) (rest := []) E.fix (m_X1_length l G H.size hd td od si ln o) (cwV 0 E.hts (lw_V q70 q71 q72 q4 q73) rfl rfl rfl (by decide +kernel) ⟨Nat.le_of_ble_eq_true rfl, Nat.le_of_ble_eq_true rfl⟩) (preV_ok E hw [0, 1] rfl (by decide) 0 rfl (ci := 3) rfl) rfl rfl hl.1 rfl (lv_room (Nat.le_of_ble_eq_true rfl)) dX0_stand_55 ⟨(by show _ ≤ 0; omega), (by show _ ≤ 0; omega)⟩) E hw [0, 1] [2, 3] rfl rfl (by decide) (by decide) (fun r u H locs hp hw => ?_)
        subst hp
        have hw : Wd G A s [(ht, .inr (4, [.ref tt, .int (nI si), .ref ot])), (ot, .inl (G.2.2.1, ln, .inl (fun j => nI (o j)))), (hd, .inr (3, [.ref td, .int (nI si), .ref od])), (od, .inl (G.2.1, ln, .inl (fun j => nI (o j))))] H locs := hw
        refine W.cs (cells' := 0) (slots' := 0) rfl rfl ?_
        refine lv_aload_n E.1 E.2.1 dX0_stand_58 rfl (lv_at hl 1 rfl) ?_
        refine gf (v := .ref ot) E hw in_X2 (ci := 4) rfl 0 rfl 2 (by decide) q39 rfl dX0_stand_59 ?_
        refine iln E hw 1 rfl dX0_stand_62 ?_
        refine n_icmp_ne (tgt := 113) E dX0_stand_63 (by decide) (by omega) (by omega) (fun c_63 => ?_) (fun c_63 => ?_)
        · skip
          exact absurd rfl c_63
        · skip
          refine lv_aload_n E.1 E.2.1 dX0_stand_66 rfl (lv_at hl 0 rfl) ?_
          refine cl_l (wr := [(ht, .inr (4, [.ref tt, .int (nI si), .ref ot])), (ot, .inl (G.2.2.1, ln, .inl (fun j => nI (o j))))]) (va_runV (As := []) (rest := []) E.fix (m_X1_whole l G H.size hd td od si ln o hln) (cwV 0 E.hts (lw_V q74 q75 q76 q4 q77) rfl rfl rfl (by decide +kernel) ⟨Nat.le_of_ble_eq_true rfl, Nat.le_of_ble_eq_true rfl⟩) (preV_ok E hw [2, 3] rfl (by decide) 2 rfl (ci := 3) rfl) rfl rfl hl.1 rfl (lv_room (Nat.le_of_ble_eq_true rfl)) dX0_stand_67 ⟨(by show _ ≤ 0; omega), (by show _ ≤ 0; omega)⟩) E hw [2, 3] [0, 1] rfl rfl (by decide) (by decide) (fun r u H locs hp hw => ?_)
          subst hp
          have hw : Wd G A s [(ht, .inr (4, [.ref tt, .int (nI si), .ref ot])), (ot, .inl (G.2.2.1, ln, .inl (fun j => nI (o j)))), (hd, .inr (3, [.ref td, .int (nI si), .ref od])), (od, .inl (G.2.1, ln, .inl (fun j => nI (o j))))] H locs := hw
          refine W.cs (cells' := 0) (slots' := 0) rfl rfl ?_
          refine lv_lload_n E.1 E.2.1 dX0_stand_70 rfl (lv_at hl 3 rfl) ?_
          refine W.lcmp E.1 E.2.1 dX0_stand_71 ?_
          refine lv_if_ne (tgt := 113) E.1 E.2.1 dX0_stand_72 (by decide) (fun c_72 => ?_) (fun c_72 => ?_)
          · skip
            exact absurd ((lg_cmp_eq _ _).mpr rfl) c_72
          · skip
            refine lv_aload_n E.1 E.2.1 dX0_stand_75 rfl (lv_at hl 0 rfl) ?_
            refine lv_iload_n E.1 E.2.1 dX0_stand_76 rfl (lv_at hl 2 rfl) ?_
            refine cl_i (wr := [(ht, .inr (4, [.ref tt, .int (nI si), .ref ot])), (ot, .inl (G.2.2.1, ln, .inl (fun j => nI (o j))))]) (va_runV (As := [.int x]) (rest := []) E.fix (m_X1_out l G H.size hd td od si ln o x ho hln) (cwV 1 E.hts (lw_V q64 q65 q66 q4 q67) rfl rfl rfl (by decide +kernel) ⟨Nat.le_of_ble_eq_true rfl, Nat.le_of_ble_eq_true rfl⟩) (preV_ok E hw [2, 3] rfl (by decide) 2 rfl (ci := 3) rfl) rfl rfl hl.1 rfl (lv_room (Nat.le_of_ble_eq_true rfl)) dX0_stand_77 ⟨(by show _ ≤ 0; omega), (by show _ ≤ 0; omega)⟩) E hw [2, 3] [0, 1] rfl rfl (by decide) (by decide) (fun r u H locs hp hw => ?_)
            subst hp
            have hw : Wd G A s [(ht, .inr (4, [.ref tt, .int (nI si), .ref ot])), (ot, .inl (G.2.2.1, ln, .inl (fun j => nI (o j)))), (hd, .inr (3, [.ref td, .int (nI si), .ref od])), (od, .inl (G.2.1, ln, .inl (fun j => nI (o j))))] H locs := hw
            refine W.cs (cells' := 0) (slots' := 0) rfl rfl ?_
            refine lv_aload_n E.1 E.2.1 dX0_stand_80 rfl (lv_at hl 1 rfl) ?_
            refine gf (v := .ref ot) E hw in_X2 (ci := 4) rfl 0 rfl 2 (by decide) q39 rfl dX0_stand_81 ?_
            refine iln E hw 1 rfl dX0_stand_84 ?_
            refine n_if_ne (tgt := 92) E dX0_stand_85 (by decide) (by omega) (fun c_85 => ?_) (fun c_85 => ?_)
            · skip
              refine lv_aload_n E.1 E.2.1 dX0_stand_92 rfl (lv_at hl 1 rfl) ?_
              refine gf (v := .ref ot) E hw in_X2 (ci := 4) rfl 0 rfl 2 (by decide) q39 rfl dX0_stand_93 ?_
              refine lv_iload_n E.1 E.2.1 dX0_stand_96 rfl (lv_at hl 2 rfl) ?_
              refine lv_aload_n E.1 E.2.1 dX0_stand_97 rfl (lv_at hl 1 rfl) ?_
              refine gf (v := .ref ot) E hw in_X2 (ci := 4) rfl 0 rfl 2 (by decide) q39 rfl dX0_stand_98 ?_
              refine iln E hw 1 rfl dX0_stand_101 ?_
              refine cl_i (wr := [(ht, .inr (4, [.ref tt, .int (nI si), .ref ot])), (ot, .inl (G.2.2.1, ln, .inl (fun j => nI (o j)))), (hd, .inr (3, [.ref td, .int (nI si), .ref od])), (od, .inl (G.2.1, ln, .inl (fun j => nI (o j))))]) (va_runS (As := [.int x, .int (nI ln)]) (rest := [.ref ot, .int (outV o ln x)]) E.fix (m_X0_mod l G H.size x ln (by omega) (by omega)) (va_cwS 2 E.hts (lw_S q79 q80 q3 q81) rfl rfl rfl (by decide +kernel) ⟨Nat.le_of_ble_eq_true rfl, Nat.le_of_ble_eq_true rfl⟩) (preS_ok E hw [] rfl (by decide)) rfl rfl hl.1 rfl (lv_room (Nat.le_of_ble_eq_true rfl)) dX0_stand_102 ⟨(by show _ ≤ 0; omega), (by show _ ≤ 0; omega)⟩) E hw [] [0, 1, 2, 3] rfl rfl (by decide) (by decide) (fun r u H locs hp hw => ?_)
              subst hp
              have hw : Wd G A s [(ht, .inr (4, [.ref tt, .int (nI si), .ref ot])), (ot, .inl (G.2.2.1, ln, .inl (fun j => nI (o j)))), (hd, .inr (3, [.ref td, .int (nI si), .ref od])), (od, .inl (G.2.1, ln, .inl (fun j => nI (o j))))] H locs := hw
              refine W.cs (cells' := 0) (slots' := 0) rfl rfl ?_
              refine ild (v := nI (o (md x ln))) E hw 1 rfl (md_lt x (by omega)) (by omega) rfl dX0_stand_105 ?_
              refine lv_icmp_ne (tgt := 113) E.1 E.2.1 dX0_stand_106 (by decide) (fun c_106 => ?_) (fun c_106 => ?_)
              · skip
                exact absurd (outV_1 c_85) c_106
              · skip
                refine lv_iconst (v := nI 1) E.1 E.2.1 dX0_stand_109 (by decide +kernel) ?_
                refine lv_goto (tgt := 114) E.1 E.2.1 dX0_stand_110 (by decide) ?_
                have hw : Wd G A s [(hd, .inr (3, [.ref td, .int (nI si), .ref od])), (od, .inl (G.2.1, ln, .inl (fun j => nI (o j)))), (ht, .inr (4, [.ref tt, .int (nI si), .ref ot])), (ot, .inl (G.2.2.1, ln, .inl (fun j => nI (o j))))] H locs := hw.sub [2, 3, 0, 1] (by decide) rfl
                exact ret_z E hw hr hlk (by omega) (by omega) (()) (by decide +kernel) rfl rfl dX0_stand_114
            · skip
              refine lv_iconst (v := (-1)) E.1 E.2.1 dX0_stand_88 (by decide +kernel) ?_
              refine lv_goto (tgt := 106) E.1 E.2.1 dX0_stand_89 (by decide) ?_
              refine lv_icmp_ne (tgt := 113) E.1 E.2.1 dX0_stand_106 (by decide) (fun c_106 => ?_) (fun c_106 => ?_)
              · skip
                exact absurd (outV_0 c_85) c_106
              · skip
                refine lv_iconst (v := nI 1) E.1 E.2.1 dX0_stand_109 (by decide +kernel) ?_
                refine lv_goto (tgt := 114) E.1 E.2.1 dX0_stand_110 (by decide) ?_
                have hw : Wd G A s [(hd, .inr (3, [.ref td, .int (nI si), .ref od])), (od, .inl (G.2.1, ln, .inl (fun j => nI (o j)))), (ht, .inr (4, [.ref tt, .int (nI si), .ref ot])), (ot, .inl (G.2.2.1, ln, .inl (fun j => nI (o j))))] H locs := hw.sub [2, 3, 0, 1] (by decide) rfl
                exact ret_z E hw hr hlk (by omega) (by omega) (()) (by decide +kernel) rfl rfl dX0_stand_114
      · skip
        have hoi := ho i
        refine lv_aload_n E.1 E.2.1 dX0_stand_15 rfl (lv_at hl 0 rfl) ?_
        refine lv_iload E.1 E.2.1 dX0_stand_16 (lv_at hl 4 rfl) ?_
        refine cl_i (wr := [(ht, .inr (4, [.ref tt, .int (nI si), .ref ot])), (ot, .inl (G.2.2.1, ln, .inl (fun j => nI (o j))))]) (va_runV (As := [.int (nI i)]) (rest := []) E.fix (m_X1_out l G H.size hd td od si ln o (nI i) ho hln) (cwV 1 E.hts (lw_V q64 q65 q66 q4 q67) rfl rfl rfl (by decide +kernel) ⟨Nat.le_of_ble_eq_true rfl, Nat.le_of_ble_eq_true rfl⟩) (preV_ok E hw [0, 1] rfl (by decide) 0 rfl (ci := 3) rfl) rfl rfl hl.1 rfl (lv_room (Nat.le_of_ble_eq_true rfl)) dX0_stand_18 ⟨(by show _ ≤ 0; omega), (by show _ ≤ 0; omega)⟩) E hw [0, 1] [2, 3] rfl rfl (by decide) (by decide) (fun r u H locs hp hw => ?_)
        rw [outV_nI c_12 (by omega)] at hp
        subst hp
        have hw : Wd G A s [(ht, .inr (4, [.ref tt, .int (nI si), .ref ot])), (ot, .inl (G.2.2.1, ln, .inl (fun j => nI (o j)))), (hd, .inr (3, [.ref td, .int (nI si), .ref od])), (od, .inl (G.2.1, ln, .inl (fun j => nI (o j))))] H locs := hw
        refine W.cs (cells' := 0) (slots' := 0) rfl rfl ?_
        refine lv_aload_n E.1 E.2.1 dX0_stand_21 rfl (lv_at hl 1 rfl) ?_
        refine gf (v := .ref ot) E hw in_X2 (ci := 4) rfl 0 rfl 2 (by decide) q39 rfl dX0_stand_22 ?_
        refine lv_iload E.1 E.2.1 dX0_stand_25 (lv_at hl 4 rfl) ?_
        refine ild (v := nI (o i)) E hw 1 rfl (by omega) (by omega) rfl dX0_stand_27 ?_
        refine n_icmp_eq (tgt := 33) E dX0_stand_28 (by decide) (by omega) (by omega) (fun c_28 => ?_) (fun c_28 => ?_)
        · skip
          refine lv_lload_n E.1 E.2.1 dX0_stand_33 rfl (lv_at hl 3 rfl) ?_
          refine lv_ldc2 (v := 31) E.1 E.2.1 E.2.2.2.1 (E.hts _ q69) dX0_stand_34 ?_
          refine lv_lmul E.1 E.2.1 dX0_stand_37 ?_
          refine lv_aload_n E.1 E.2.1 dX0_stand_38 rfl (lv_at hl 1 rfl) ?_
          refine gf (v := .ref ot) E hw in_X2 (ci := 4) rfl 0 rfl 2 (by decide) q39 rfl dX0_stand_39 ?_
          refine lv_iload E.1 E.2.1 dX0_stand_42 (lv_at hl 4 rfl) ?_
          refine ild (v := nI (o i)) E hw 1 rfl (by omega) (by omega) rfl dX0_stand_44 ?_
          refine lv_i2l E.1 E.2.1 dX0_stand_45 rfl ?_
          refine lv_ladd E.1 E.2.1 dX0_stand_46 ?_
          refine lv_lstore_n (lv' := [(3, .long (((whl (fun j => nI (o j)) i) * 31) + ((nI (o i)).toInt64))), (0, .ref hd), (1, .ref ht), (2, .int x), (5, .int (nI i))]) E.1 E.2.1 dX0_stand_47 rfl hl (by decide) rfl (fun ls hl => ?_)
          refine n_iinc (n := 1) (d := i + 1) (lv' := [(5, .int (nI (i + 1))), (3, .long (((whl (fun j => nI (o j)) i) * 31) + ((nI (o i)).toInt64))), (0, .ref hd), (1, .ref ht), (2, .int x)]) E dX0_stand_48 hl (k := 4) rfl (by omega) (by decide) rfl (fun ls hl => ?_)
          refine lv_goto (tgt := 5) E.1 E.2.1 dX0_stand_51 (by decide) ?_
          exact ih (i + 1) (by omega) (by omega) H locs (hw.sub [2, 3, 0, 1] (by decide) rfl) ls (lv_sub hl [2, 3, 4, 1, 0] rfl)
        · skip
          exact absurd rfl c_28
  refine lv_lconst (v := 0) E.1 E.2.1 dX0_stand_0 (by decide +kernel) ?_
  refine lv_lstore_n (lv' := [(3, .long 0), (0, .ref hd), (1, .ref ht), (2, .int x)]) E.1 E.2.1 dX0_stand_1 rfl hl (by decide) rfl (fun ls hl => ?_)
  refine lv_iconst (v := nI 0) E.1 E.2.1 dX0_stand_2 (by decide +kernel) ?_
  refine lv_istore (lv' := [(5, .int (nI 0)), (3, .long 0), (0, .ref hd), (1, .ref ht), (2, .int x)]) E.1 E.2.1 dX0_stand_3 hl (by decide) rfl (fun ls hl => ?_)
  exact loop (ln + 1) 0 (by omega) (by omega) s.heap [] (hw.sub [0, 1, 2, 3] (by decide) rfl) ls (lv_sub hl [2, 3, 4, 1, 0] rfl)
end
section
set_option maxHeartbeats 4000000 in
set_option maxRecDepth 100000 in
/-- LetterDeskLaw.write: both sides write the same letters -/
theorem m_X0_write (l : Launch) (G : gg_T) (sz : Nat) (hd td od ht tt ot si ln k fr cn : Nat) (tx o : Nat → Nat) (kd a1 a2 : Int32) (htx : ∀ j, tx j < 256) (hsi : si ≤ 256) (hk : k = md kd 3) (hfr : fr = md a1 (si + 1)) (hcn : cn = md a2 (si - fr + 1)) : cT_i l yX0_write (ws_ yX0_write cX0_write 8 (some .boolean)) ({ frames := 3, cells := 8, slots := 1440, locals := 96 }) G [(hd, .inr (3, [.ref td, .int (nI si), .ref od])), (td, .inl (G.2.1, 256, .inl (fun j => sb_b (tx j)))), (od, .inl (G.2.1, ln, .inl (fun j => nI (o j)))), (ht, .inr (4, [.ref tt, .int (nI si), .ref ot])), (tt, .inl (G.2.2.1, 256, .inl (fun j => nI (tx j)))), (ot, .inl (G.2.2.1, ln, .inl (fun j => nI (o j))))] sz [.ref hd, .ref ht, .int kd, .int a1, .int a2] (S := Nat × Nat) (fun r _ => r = nI 1 ∧ rmN k cn ≤ 1000) (fun u => [(hd, .inr (3, [.ref td, .int (nI si), .ref u.1])), (td, .inl (G.2.1, 256, .inl (fun j => sb_b (tx j)))), (u.1, .inl (G.2.1, rmN k cn, .inl (fun j => nI (letN tx k fr cn j)))), (ht, .inr (4, [.ref tt, .int (nI si), .ref u.2])), (tt, .inl (G.2.2.1, 256, .inl (fun j => nI (tx j)))), (u.2, .inl (G.2.2.1, rmN k cn, .inl (fun j => nI (letN tx k fr cn j))))]) 8 1440 := by
  refine Met.ofW (cc := cX0_write) (maxL := 8) (ret := some .boolean) (by decide) rfl ?_
  intro p e s m args below meth c s₁ B hml hv
  obtain ⟨rfl, hsz, E, hw⟩ := ent_ (own := RX0) B hml rfl hv
  have hr := B.returns
  have hlk := B.notSynchronized
  subst hsz
  clear hv
  generalize va_A [(hd, .inr (3, [.ref td, .int (nI si), .ref od])), (td, .inl (G.2.1, 256, .inl (fun j => sb_b (tx j)))), (od, .inl (G.2.1, ln, .inl (fun j => nI (o j)))), (ht, .inr (4, [.ref tt, .int (nI si), .ref ot])), (tt, .inl (G.2.2.1, 256, .inl (fun j => nI (tx j)))), (ot, .inl (G.2.2.1, ln, .inl (fun j => nI (o j))))] s.heap.size = A at E hw ⊢
  refine ent_f (Nat.le_of_ble_eq_true rfl) rfl (fun ls hl => ?_)
  have hl : lv_has ls 8 [(0, .ref hd), (1, .ref ht), (2, .int kd), (3, .int a1), (4, .int a2)] := hl
  have hfl : fr ≤ si := by have := md_lt a1 (m := si + 1) (by omega); omega
  have hcl : cn ≤ si - fr := by have := md_lt a2 (m := si - fr + 1) (by omega); omega
  have hk3 : k < 3 := by have := md_lt kd (m := 3) (by omega); omega
  have hrl := rmN_le hk3 cn
  have hlet := letN_lt tx k fr cn
  refine lv_iload_n E.1 E.2.1 dX0_write_0 rfl (lv_at hl 2 rfl) ?_
  refine lv_iconst (v := nI 3) E.1 E.2.1 dX0_write_1 (by decide +kernel) ?_
  refine cl_i (wr := [(hd, .inr (3, [.ref td, .int (nI si), .ref od])), (td, .inl (G.2.1, 256, .inl (fun j => sb_b (tx j)))), (od, .inl (G.2.1, ln, .inl (fun j => nI (o j)))), (ht, .inr (4, [.ref tt, .int (nI si), .ref ot])), (tt, .inl (G.2.2.1, 256, .inl (fun j => nI (tx j)))), (ot, .inl (G.2.2.1, ln, .inl (fun j => nI (o j))))]) (va_runS (As := [.int kd, .int (nI 3)]) (rest := []) E.fix (m_X0_mod l G s.heap.size kd 3 (by omega) (by omega)) (va_cwS 2 E.hts (lw_S q79 q80 q3 q81) rfl rfl rfl (by decide +kernel) ⟨Nat.le_of_ble_eq_true rfl, Nat.le_of_ble_eq_true rfl⟩) (preS_ok E hw [] rfl (by decide)) rfl rfl hl.1 rfl (lv_room (Nat.le_of_ble_eq_true rfl)) dX0_write_2 ⟨(by show _ ≤ 8; omega), (by show _ ≤ 1440; omega)⟩) E hw [] [0, 1, 2, 3, 4, 5] rfl rfl (by decide) (by decide) (fun r u H locs hp hw => ?_)
  rw [← hk] at hp
  subst hp
  have hw : Wd G A s [(hd, .inr (3, [.ref td, .int (nI si), .ref od])), (td, .inl (G.2.1, 256, .inl (fun j => sb_b (tx j)))), (od, .inl (G.2.1, ln, .inl (fun j => nI (o j)))), (ht, .inr (4, [.ref tt, .int (nI si), .ref ot])), (tt, .inl (G.2.2.1, 256, .inl (fun j => nI (tx j)))), (ot, .inl (G.2.2.1, ln, .inl (fun j => nI (o j))))] H locs := hw
  refine W.cs (cells' := 0) (slots' := 0) rfl rfl ?_
  refine lv_istore (lv' := [(5, .int (nI k)), (0, .ref hd), (1, .ref ht), (2, .int kd), (3, .int a1), (4, .int a2)]) E.1 E.2.1 dX0_write_5 hl (by decide) rfl (fun ls hl => ?_)
  refine lv_iload_n E.1 E.2.1 dX0_write_7 rfl (lv_at hl 4 rfl) ?_
  refine lv_aload_n E.1 E.2.1 dX0_write_8 rfl (lv_at hl 2 rfl) ?_
  refine gf (v := .int (nI si)) E hw in_X2 (ci := 4) rfl 3 rfl 1 (by decide) q37 rfl dX0_write_9 ?_
  refine lv_iconst (v := nI 1) E.1 E.2.1 dX0_write_12 (by decide +kernel) ?_
  refine n_iadd (d := si + 1) E dX0_write_13 rfl ?_
  refine cl_i (wr := [(hd, .inr (3, [.ref td, .int (nI si), .ref od])), (td, .inl (G.2.1, 256, .inl (fun j => sb_b (tx j)))), (od, .inl (G.2.1, ln, .inl (fun j => nI (o j)))), (ht, .inr (4, [.ref tt, .int (nI si), .ref ot])), (tt, .inl (G.2.2.1, 256, .inl (fun j => nI (tx j)))), (ot, .inl (G.2.2.1, ln, .inl (fun j => nI (o j))))]) (va_runS (As := [.int a1, .int (nI (si + 1))]) (rest := []) E.fix (m_X0_mod l G H.size a1 (si + 1) (by omega) (by omega)) (va_cwS 2 E.hts (lw_S q79 q80 q3 q81) rfl rfl rfl (by decide +kernel) ⟨Nat.le_of_ble_eq_true rfl, Nat.le_of_ble_eq_true rfl⟩) (preS_ok E hw [] rfl (by decide)) rfl rfl hl.1 rfl (lv_room (Nat.le_of_ble_eq_true rfl)) dX0_write_14 ⟨(by show _ ≤ 8; omega), (by show _ ≤ 1440; omega)⟩) E hw [] [0, 1, 2, 3, 4, 5] rfl rfl (by decide) (by decide) (fun r u H locs hp hw => ?_)
  rw [← hfr] at hp
  subst hp
  have hw : Wd G A s [(hd, .inr (3, [.ref td, .int (nI si), .ref od])), (td, .inl (G.2.1, 256, .inl (fun j => sb_b (tx j)))), (od, .inl (G.2.1, ln, .inl (fun j => nI (o j)))), (ht, .inr (4, [.ref tt, .int (nI si), .ref ot])), (tt, .inl (G.2.2.1, 256, .inl (fun j => nI (tx j)))), (ot, .inl (G.2.2.1, ln, .inl (fun j => nI (o j))))] H locs := hw
  refine W.cs (cells' := 0) (slots' := 0) rfl rfl ?_
  refine lv_istore (lv' := [(6, .int (nI fr)), (5, .int (nI k)), (0, .ref hd), (1, .ref ht), (2, .int kd), (3, .int a1), (4, .int a2)]) E.1 E.2.1 dX0_write_17 hl (by decide) rfl (fun ls hl => ?_)
  refine lv_iload E.1 E.2.1 dX0_write_19 (lv_at hl 6 rfl) ?_
  refine lv_aload_n E.1 E.2.1 dX0_write_21 rfl (lv_at hl 3 rfl) ?_
  refine gf (v := .int (nI si)) E hw in_X2 (ci := 4) rfl 3 rfl 1 (by decide) q37 rfl dX0_write_22 ?_
  refine lv_iload E.1 E.2.1 dX0_write_25 (lv_at hl 0 rfl) ?_
  refine n_isub (d := si - fr) E dX0_write_27 (by omega) ?_
  refine lv_iconst (v := nI 1) E.1 E.2.1 dX0_write_28 (by decide +kernel) ?_
  refine n_iadd (d := si - fr + 1) E dX0_write_29 rfl ?_
  refine cl_i (wr := [(hd, .inr (3, [.ref td, .int (nI si), .ref od])), (td, .inl (G.2.1, 256, .inl (fun j => sb_b (tx j)))), (od, .inl (G.2.1, ln, .inl (fun j => nI (o j)))), (ht, .inr (4, [.ref tt, .int (nI si), .ref ot])), (tt, .inl (G.2.2.1, 256, .inl (fun j => nI (tx j)))), (ot, .inl (G.2.2.1, ln, .inl (fun j => nI (o j))))]) (va_runS (As := [.int a2, .int (nI (si - fr + 1))]) (rest := []) E.fix (m_X0_mod l G H.size a2 (si - fr + 1) (by omega) (by omega)) (va_cwS 2 E.hts (lw_S q79 q80 q3 q81) rfl rfl rfl (by decide +kernel) ⟨Nat.le_of_ble_eq_true rfl, Nat.le_of_ble_eq_true rfl⟩) (preS_ok E hw [] rfl (by decide)) rfl rfl hl.1 rfl (lv_room (Nat.le_of_ble_eq_true rfl)) dX0_write_30 ⟨(by show _ ≤ 8; omega), (by show _ ≤ 1440; omega)⟩) E hw [] [0, 1, 2, 3, 4, 5] rfl rfl (by decide) (by decide) (fun r u H locs hp hw => ?_)
  rw [← hcn] at hp
  subst hp
  have hw : Wd G A s [(hd, .inr (3, [.ref td, .int (nI si), .ref od])), (td, .inl (G.2.1, 256, .inl (fun j => sb_b (tx j)))), (od, .inl (G.2.1, ln, .inl (fun j => nI (o j)))), (ht, .inr (4, [.ref tt, .int (nI si), .ref ot])), (tt, .inl (G.2.2.1, 256, .inl (fun j => nI (tx j)))), (ot, .inl (G.2.2.1, ln, .inl (fun j => nI (o j))))] H locs := hw
  refine W.cs (cells' := 0) (slots' := 0) rfl rfl ?_
  refine lv_istore (lv' := [(7, .int (nI cn)), (6, .int (nI fr)), (5, .int (nI k)), (0, .ref hd), (1, .ref ht), (2, .int kd), (3, .int a1), (4, .int a2)]) E.1 E.2.1 dX0_write_33 hl (by decide) rfl (fun ls hl => ?_)
  refine lv_aload_n E.1 E.2.1 dX0_write_35 rfl (lv_at hl 4 rfl) ?_
  refine lv_aload_n E.1 E.2.1 dX0_write_36 rfl (lv_at hl 4 rfl) ?_
  refine lv_iload E.1 E.2.1 dX0_write_37 (lv_at hl 2 rfl) ?_
  refine lv_iload E.1 E.2.1 dX0_write_39 (lv_at hl 1 rfl) ?_
  refine lv_iload E.1 E.2.1 dX0_write_41 (lv_at hl 0 rfl) ?_
  refine cl_r (wr := [(hd, .inr (3, [.ref td, .int (nI si), .ref od])), (td, .inl (G.2.1, 256, .inl (fun j => sb_b (tx j)))), (od, .inl (G.2.1, ln, .inl (fun j => nI (o j)))), (ot, .inl (G.2.2.1, ln, .inl (fun j => nI (o j))))]) (va_runS (As := [.ref ht, .int (nI k), .int (nI fr), .int (nI cn)]) (rest := [.ref ht]) E.fix (m_X0_due l G H.size ht tt ot si k fr cn tx htx hk3 (by omega)) (va_cwS 4 E.hts (lw_S q86 q87 q3 q88) rfl rfl rfl (by decide +kernel) ⟨Nat.le_of_ble_eq_true rfl, Nat.le_of_ble_eq_true rfl⟩) (preS_ok E hw [3, 4] rfl (by decide)) rfl rfl hl.1 rfl (lv_room (Nat.le_of_ble_eq_true rfl)) dX0_write_43 ⟨(by show _ ≤ 8; omega), (by show _ ≤ 1440; omega)⟩) E hw [3, 4] [0, 1, 2, 5] rfl rfl (by decide) (by decide) (fun u ra H locs hp hw => ?_)
  have hw : Wd G A s [(hd, .inr (3, [.ref td, .int (nI si), .ref od])), (td, .inl (G.2.1, 256, .inl (fun j => sb_b (tx j)))), (od, .inl (G.2.1, ln, .inl (fun j => nI (o j)))), (ot, .inl (G.2.2.1, ln, .inl (fun j => nI (o j)))), (ht, .inr (4, [.ref tt, .int (nI si), .ref ot])), (tt, .inl (G.2.2.1, 256, .inl (fun j => nI (tx j)))), (ra, .inl (G.2.2.1, rmN k cn, .inl (fun j => nI (letN tx k fr cn j))))] H locs := hw
  refine W.cs (cells' := 1) (slots' := 520) rfl rfl ?_
  refine pf (ws' := [(hd, .inr (3, [.ref td, .int (nI si), .ref od])), (td, .inl (G.2.1, 256, .inl (fun j => sb_b (tx j)))), (od, .inl (G.2.1, ln, .inl (fun j => nI (o j)))), (ot, .inl (G.2.2.1, ln, .inl (fun j => nI (o j)))), (ht, .inr (4, [.ref tt, .int (nI si), .ref ra])), (tt, .inl (G.2.2.1, 256, .inl (fun j => nI (tx j)))), (ra, .inl (G.2.2.1, rmN k cn, .inl (fun j => nI (letN tx k fr cn j))))]) E hw in_X2 tyX2 tyX2_ok nmX2 (ci := 4) rfl 4 rfl 2 (by decide) q39 rfl rfl rfl (Nat.le_of_ble_eq_true rfl) rfl dX0_write_46 (fun H locs hw => ?_)
  refine lv_aload_n E.1 E.2.1 dX0_write_49 rfl (lv_at hl 3 rfl) ?_
  refine lv_iload_n E.1 E.2.1 dX0_write_50 rfl (lv_at hl 5 rfl) ?_
  refine lv_iload_n E.1 E.2.1 dX0_write_51 rfl (lv_at hl 6 rfl) ?_
  refine lv_iload E.1 E.2.1 dX0_write_52 (lv_at hl 7 rfl) ?_
  refine cl_i (wr := [(od, .inl (G.2.1, ln, .inl (fun j => nI (o j)))), (ot, .inl (G.2.2.1, ln, .inl (fun j => nI (o j)))), (ht, .inr (4, [.ref tt, .int (nI si), .ref ra])), (tt, .inl (G.2.2.1, 256, .inl (fun j => nI (tx j)))), (ra, .inl (G.2.2.1, rmN k cn, .inl (fun j => nI (letN tx k fr cn j))))]) (vx_runVW (As := [.int kd, .int a1, .int a2]) (rest := []) E.fix (m_X1_write l G H.size hd td od si ln k fr cn tx o kd a1 a2 htx hsi hk hfr hcn) (vx_cwVW 3 E.hts (lw_VW q101 q102 q103 q4 q104) rfl rfl rfl (by decide +kernel) ⟨Nat.le_of_ble_eq_true rfl, Nat.le_of_ble_eq_true rfl⟩) (preV_ok E hw [0, 1] rfl (by decide) 0 rfl (ci := 3) rfl) rfl rfl hl.1 rfl (lv_room (Nat.le_of_ble_eq_true rfl)) dX0_write_54 ⟨(by show _ ≤ 8; omega), (by show _ ≤ 1440; omega)⟩) E hw [0, 1] [2, 3, 4, 5, 6] rfl rfl (by decide) (by decide) (fun r u2 H locs hp hw => ?_)
  subst hp
  have hw : Wd G A s [(od, .inl (G.2.1, ln, .inl (fun j => nI (o j)))), (ot, .inl (G.2.2.1, ln, .inl (fun j => nI (o j)))), (ht, .inr (4, [.ref tt, .int (nI si), .ref ra])), (tt, .inl (G.2.2.1, 256, .inl (fun j => nI (tx j)))), (ra, .inl (G.2.2.1, rmN k cn, .inl (fun j => nI (letN tx k fr cn j)))), (hd, .inr (3, [.ref td, .int (nI si), .ref u2])), (td, .inl (G.2.1, 256, .inl (fun j => sb_b (tx j)))), (u2, .inl (G.2.1, rmN k cn, .inl (fun j => nI (letN tx k fr cn j))))] H locs := hw
  refine W.cs (cells' := 5) (slots' := 1240) rfl rfl ?_
  refine lv_aload_n E.1 E.2.1 dX0_write_57 rfl (lv_at hl 4 rfl) ?_
  refine gf (v := .ref ra) E hw in_X2 (ci := 4) rfl 2 rfl 2 (by decide) q39 rfl dX0_write_58 ?_
  refine iln E hw 4 rfl dX0_write_61 ?_
  refine n_icmp_ne (tgt := 93) E dX0_write_62 (by decide) (by omega) (by omega) (fun c_62 => ?_) (fun c_62 => ?_)
  · skip
    exact absurd rfl c_62
  · skip
    refine lv_aload_n E.1 E.2.1 dX0_write_65 rfl (lv_at hl 3 rfl) ?_
    refine lv_iload_n E.1 E.2.1 dX0_write_66 rfl (lv_at hl 5 rfl) ?_
    refine lv_iload E.1 E.2.1 dX0_write_67 (lv_at hl 0 rfl) ?_
    refine cl_i (wr := [(od, .inl (G.2.1, ln, .inl (fun j => nI (o j)))), (ot, .inl (G.2.2.1, ln, .inl (fun j => nI (o j)))), (ht, .inr (4, [.ref tt, .int (nI si), .ref ra])), (tt, .inl (G.2.2.1, 256, .inl (fun j => nI (tx j)))), (ra, .inl (G.2.2.1, rmN k cn, .inl (fun j => nI (letN tx k fr cn j)))), (hd, .inr (3, [.ref td, .int (nI si), .ref u2])), (td, .inl (G.2.1, 256, .inl (fun j => sb_b (tx j)))), (u2, .inl (G.2.1, rmN k cn, .inl (fun j => nI (letN tx k fr cn j))))]) (va_runV (As := [.int kd, .int (nI cn)]) (rest := []) E.fix (m_X1_room l G H.size hd td u2 si kd (nI cn)) (cwV 2 E.hts (lw_V q204 q205 q206 q4 q207) rfl rfl rfl (by decide +kernel) ⟨Nat.le_of_ble_eq_true rfl, Nat.le_of_ble_eq_true rfl⟩) (preV_ok E hw [] rfl (by decide) 5 rfl (ci := 3) rfl) rfl rfl hl.1 rfl (lv_room (Nat.le_of_ble_eq_true rfl)) dX0_write_69 ⟨(by show _ ≤ 8; omega), (by show _ ≤ 1440; omega)⟩) E hw [] [0, 1, 2, 3, 4, 5, 6, 7] rfl rfl (by decide) (by decide) (fun r u H locs hp hw => ?_)
    rw [lo16_nI (by omega), ← hk] at hp
    subst hp
    have hw : Wd G A s [(od, .inl (G.2.1, ln, .inl (fun j => nI (o j)))), (ot, .inl (G.2.2.1, ln, .inl (fun j => nI (o j)))), (ht, .inr (4, [.ref tt, .int (nI si), .ref ra])), (tt, .inl (G.2.2.1, 256, .inl (fun j => nI (tx j)))), (ra, .inl (G.2.2.1, rmN k cn, .inl (fun j => nI (letN tx k fr cn j)))), (hd, .inr (3, [.ref td, .int (nI si), .ref u2])), (td, .inl (G.2.1, 256, .inl (fun j => sb_b (tx j)))), (u2, .inl (G.2.1, rmN k cn, .inl (fun j => nI (letN tx k fr cn j))))] H locs := hw
    refine W.cs (cells' := 8) (slots' := 1435) rfl rfl ?_
    refine lv_aload_n E.1 E.2.1 dX0_write_72 rfl (lv_at hl 4 rfl) ?_
    refine gf (v := .ref ra) E hw in_X2 (ci := 4) rfl 2 rfl 2 (by decide) q39 rfl dX0_write_73 ?_
    refine iln E hw 4 rfl dX0_write_76 ?_
    refine n_icmp_ne (tgt := 93) E dX0_write_77 (by decide) (by omega) (by omega) (fun c_77 => ?_) (fun c_77 => ?_)
    · skip
      exact absurd rfl c_77
    · skip
      refine lv_aload_n E.1 E.2.1 dX0_write_80 rfl (lv_at hl 3 rfl) ?_
      refine lv_aload_n E.1 E.2.1 dX0_write_81 rfl (lv_at hl 4 rfl) ?_
      refine lv_iload_n E.1 E.2.1 dX0_write_82 rfl (lv_at hl 6 rfl) ?_
      refine cl_i (wr := [(od, .inl (G.2.1, ln, .inl (fun j => nI (o j)))), (ot, .inl (G.2.2.1, ln, .inl (fun j => nI (o j)))), (tt, .inl (G.2.2.1, 256, .inl (fun j => nI (tx j)))), (td, .inl (G.2.1, 256, .inl (fun j => sb_b (tx j))))]) (va_runS (As := [.ref hd, .ref ht, .int a1]) (rest := []) E.fix (m_X0_stand l G H.size hd td u2 ht tt ra si (rmN k cn) (letN tx k fr cn) a1 hlet (by omega)) (va_cwS 3 E.hts (lw_S q61 q62 q3 q63) rfl rfl rfl (by decide +kernel) ⟨Nat.le_of_ble_eq_true rfl, Nat.le_of_ble_eq_true rfl⟩) (preS_ok E hw [5, 7, 2, 4] rfl (by decide)) rfl rfl hl.1 rfl (lv_room (Nat.le_of_ble_eq_true rfl)) dX0_write_83 ⟨(by show _ ≤ 8; omega), (by show _ ≤ 1440; omega)⟩) E hw [5, 7, 2, 4] [0, 1, 3, 6] rfl rfl (by decide) (by decide) (fun r u H locs hp hw => ?_)
      subst hp
      have hw : Wd G A s [(od, .inl (G.2.1, ln, .inl (fun j => nI (o j)))), (ot, .inl (G.2.2.1, ln, .inl (fun j => nI (o j)))), (tt, .inl (G.2.2.1, 256, .inl (fun j => nI (tx j)))), (td, .inl (G.2.1, 256, .inl (fun j => sb_b (tx j)))), (hd, .inr (3, [.ref td, .int (nI si), .ref u2])), (u2, .inl (G.2.1, rmN k cn, .inl (fun j => nI (letN tx k fr cn j)))), (ht, .inr (4, [.ref tt, .int (nI si), .ref ra])), (ra, .inl (G.2.2.1, rmN k cn, .inl (fun j => nI (letN tx k fr cn j))))] H locs := hw
      refine W.cs (cells' := 8) (slots' := 1435) rfl rfl ?_
      refine n_if_eq (tgt := 93) E dX0_write_86 (by decide) (by omega) (fun c_86 => ?_) (fun c_86 => ?_)
      · skip
        exact absurd c_86 (by decide)
      · skip
        refine lv_iconst (v := nI 1) E.1 E.2.1 dX0_write_89 (by decide +kernel) ?_
        refine lv_goto (tgt := 94) E.1 E.2.1 dX0_write_90 (by decide) ?_
        have hw : Wd G A s [(hd, .inr (3, [.ref td, .int (nI si), .ref u2])), (td, .inl (G.2.1, 256, .inl (fun j => sb_b (tx j)))), (u2, .inl (G.2.1, rmN k cn, .inl (fun j => nI (letN tx k fr cn j)))), (ht, .inr (4, [.ref tt, .int (nI si), .ref ra])), (tt, .inl (G.2.2.1, 256, .inl (fun j => nI (tx j)))), (ra, .inl (G.2.2.1, rmN k cn, .inl (fun j => nI (letN tx k fr cn j))))] H locs := hw.sub [4, 3, 5, 6, 2, 7] (by decide) rfl
        exact ret_z E hw hr hlk (by omega) (by omega) ((u2, ra)) (by decide +kernel) ⟨rfl, by omega⟩ rfl dX0_write_94
set_option maxHeartbeats 4000000 in
set_option maxRecDepth 100000 in
/-- LetterDeskLaw.turn: an act keeps both sides alike -/
theorem m_X0_turn (l : Launch) (G : gg_T) (sz : Nat) (hd td od ht tt ot si ln : Nat) (tx o : Nat → Nat) (x a1 a2 a3 a4 f1 : Int32) (htx : ∀ j, tx j < 256) (hsi : si ≤ 256) (ho : ∀ j, o j < 128) (hln : ln ≤ 1000) : cT_i l yX0_turn (ws_ yX0_turn cX0_turn 8 (some .boolean)) ({ frames := 4, cells := 11, slots := 1640, locals := 124 }) G [(hd, .inr (3, [.ref td, .int (nI si), .ref od])), (td, .inl (G.2.1, 256, .inl (fun j => sb_b (tx j)))), (od, .inl (G.2.1, ln, .inl (fun j => nI (o j)))), (ht, .inr (4, [.ref tt, .int (nI si), .ref ot])), (tt, .inl (G.2.2.1, 256, .inl (fun j => nI (tx j)))), (ot, .inl (G.2.2.1, ln, .inl (fun j => nI (o j))))] sz [.ref hd, .ref ht, .int x, .int a1, .int a2, .int a3, .int a4, .int f1] (S := (Nat × Nat) × Nat × (Nat → Nat) × Nat × (Nat → Nat)) (fun r u => r = nI 1 ∧ u.2.1 ≤ 256 ∧ (∀ j, u.2.2.1 j < 256) ∧ u.2.2.2.1 ≤ 1000 ∧ (∀ j, u.2.2.2.2 j < 128)) (fun u => [(hd, .inr (3, [.ref td, .int (nI u.2.1), .ref u.1.1])), (td, .inl (G.2.1, 256, .inl (fun j => sb_b (u.2.2.1 j)))), (u.1.1, .inl (G.2.1, u.2.2.2.1, .inl (fun j => nI (u.2.2.2.2 j)))), (ht, .inr (4, [.ref tt, .int (nI u.2.1), .ref u.1.2])), (tt, .inl (G.2.2.1, 256, .inl (fun j => nI (u.2.2.1 j)))), (u.1.2, .inl (G.2.2.1, u.2.2.2.1, .inl (fun j => nI (u.2.2.2.2 j))))]) 11 1640 := by
  refine Met.ofW (cc := cX0_turn) (maxL := 8) (ret := some .boolean) (by decide) rfl ?_
  intro p e s m args below meth c s₁ B hml hv
  obtain ⟨rfl, hsz, E, hw⟩ := ent_ (own := RX0) B hml rfl hv
  have hr := B.returns
  have hlk := B.notSynchronized
  subst hsz
  clear hv
  generalize va_A [(hd, .inr (3, [.ref td, .int (nI si), .ref od])), (td, .inl (G.2.1, 256, .inl (fun j => sb_b (tx j)))), (od, .inl (G.2.1, ln, .inl (fun j => nI (o j)))), (ht, .inr (4, [.ref tt, .int (nI si), .ref ot])), (tt, .inl (G.2.2.1, 256, .inl (fun j => nI (tx j)))), (ot, .inl (G.2.2.1, ln, .inl (fun j => nI (o j))))] s.heap.size = A at E hw ⊢
  refine ent_f (Nat.le_of_ble_eq_true rfl) rfl (fun ls hl => ?_)
  have hl : lv_has ls 8 [(0, .ref hd), (1, .ref ht), (2, .int x), (3, .int a1), (4, .int a2), (5, .int a3), (6, .int a4), (7, .int f1)] := hl
  obtain ⟨xj, hxj, exj⟩ := pk_andE x 2 (m := nI 3) (by decide +kernel)
  refine lv_iload_n E.1 E.2.1 dX0_turn_0 rfl (lv_at hl 2 rfl) ?_
  refine lv_iconst (v := nI 3) E.1 E.2.1 dX0_turn_1 (by decide +kernel) ?_
  refine lv_iand E.1 E.2.1 dX0_turn_2 ?_
  refine tv (y := nI xj) exj ?_
  rcases (by omega : xj = 0 ∨ xj = 1 ∨ xj = 2 ∨ xj = 3) with h | h | h | h
  · skip
    refine tv (y := nI 0) (by rw [h]) ?_
    refine lv_lookup (off := 25) (tgt := 28) E.1 E.2.1 dX0_turn_3 (by decide +kernel) (by decide +kernel) (by decide) ?_
    refine lv_aload_n E.1 E.2.1 dX0_turn_28 rfl (lv_at hl 0 rfl) ?_
    refine lv_aload_n E.1 E.2.1 dX0_turn_29 rfl (lv_at hl 1 rfl) ?_
    refine lv_iload_n E.1 E.2.1 dX0_turn_30 rfl (lv_at hl 3 rfl) ?_
    refine lv_iload E.1 E.2.1 dX0_turn_31 (lv_at hl 4 rfl) ?_
    refine lv_iload E.1 E.2.1 dX0_turn_33 (lv_at hl 5 rfl) ?_
    refine lv_iload E.1 E.2.1 dX0_turn_35 (lv_at hl 6 rfl) ?_
    refine cl_i (wr := [(od, .inl (G.2.1, ln, .inl (fun j => nI (o j)))), (ot, .inl (G.2.2.1, ln, .inl (fun j => nI (o j))))]) (va_runS (As := [.ref hd, .ref ht, .int a1, .int a2, .int a3, .int a4]) (rest := []) E.fix (m_X0_put l G s.heap.size hd td od ht tt ot si tx a1 a2 a3 a4 hsi) (va_cwS 6 E.hts (lw_S q51 q52 q3 q53) rfl rfl rfl (by decide +kernel) ⟨Nat.le_of_ble_eq_true rfl, Nat.le_of_ble_eq_true rfl⟩) (preS_ok E hw [0, 1, 3, 4] rfl (by decide)) rfl rfl hl.1 rfl (lv_room (Nat.le_of_ble_eq_true rfl)) dX0_turn_37 ⟨(by show _ ≤ 11; omega), (by show _ ≤ 1640; omega)⟩) E hw [0, 1, 3, 4] [2, 5] rfl rfl (by decide) (by decide) (fun r u H locs hp hw => ?_)
    subst hp
    have hw : Wd G A s [(od, .inl (G.2.1, ln, .inl (fun j => nI (o j)))), (ot, .inl (G.2.2.1, ln, .inl (fun j => nI (o j)))), (hd, .inr (3, [.ref td, .int (nI (pSi si)), .ref od])), (td, .inl (G.2.1, 256, .inl (fun j => sb_b ((pTx si tx a1 a2 a3 a4) j)))), (ht, .inr (4, [.ref tt, .int (nI (pSi si)), .ref ot])), (tt, .inl (G.2.2.1, 256, .inl (fun j => nI ((pTx si tx a1 a2 a3 a4) j))))] H locs := hw
    refine W.cs (cells' := 0) (slots' := 0) rfl rfl ?_
    refine n_if_eq (tgt := 57) E dX0_turn_40 (by decide) (by omega) (fun c_40 => ?_) (fun c_40 => ?_)
    · skip
      exact absurd c_40 (by decide)
    · skip
      refine lv_aload_n E.1 E.2.1 dX0_turn_43 rfl (lv_at hl 0 rfl) ?_
      refine lv_aload_n E.1 E.2.1 dX0_turn_44 rfl (lv_at hl 1 rfl) ?_
      refine lv_iload E.1 E.2.1 dX0_turn_45 (lv_at hl 7 rfl) ?_
      refine cl_i (wr := [(td, .inl (G.2.1, 256, .inl (fun j => sb_b ((pTx si tx a1 a2 a3 a4) j)))), (tt, .inl (G.2.2.1, 256, .inl (fun j => nI ((pTx si tx a1 a2 a3 a4) j))))]) (va_runS (As := [.ref hd, .ref ht, .int f1]) (rest := []) E.fix (m_X0_stand l G H.size hd td od ht tt ot (pSi si) ln o f1 ho hln) (va_cwS 3 E.hts (lw_S q61 q62 q3 q63) rfl rfl rfl (by decide +kernel) ⟨Nat.le_of_ble_eq_true rfl, Nat.le_of_ble_eq_true rfl⟩) (preS_ok E hw [2, 0, 4, 1] rfl (by decide)) rfl rfl hl.1 rfl (lv_room (Nat.le_of_ble_eq_true rfl)) dX0_turn_47 ⟨(by show _ ≤ 11; omega), (by show _ ≤ 1640; omega)⟩) E hw [2, 0, 4, 1] [3, 5] rfl rfl (by decide) (by decide) (fun r u3 H locs hp hw => ?_)
      subst hp
      have hw : Wd G A s [(td, .inl (G.2.1, 256, .inl (fun j => sb_b ((pTx si tx a1 a2 a3 a4) j)))), (tt, .inl (G.2.2.1, 256, .inl (fun j => nI ((pTx si tx a1 a2 a3 a4) j)))), (hd, .inr (3, [.ref td, .int (nI (pSi si)), .ref od])), (od, .inl (G.2.1, ln, .inl (fun j => nI (o j)))), (ht, .inr (4, [.ref tt, .int (nI (pSi si)), .ref ot])), (ot, .inl (G.2.2.1, ln, .inl (fun j => nI (o j))))] H locs := hw
      refine W.cs (cells' := 0) (slots' := 0) rfl rfl ?_
      refine n_if_eq (tgt := 57) E dX0_turn_50 (by decide) (by omega) (fun c_50 => ?_) (fun c_50 => ?_)
      · skip
        exact absurd c_50 (by decide)
      · skip
        refine lv_iconst (v := nI 1) E.1 E.2.1 dX0_turn_53 (by decide +kernel) ?_
        refine lv_goto (tgt := 58) E.1 E.2.1 dX0_turn_54 (by decide) ?_
        have hw : Wd G A s [(hd, .inr (3, [.ref td, .int (nI (pSi si)), .ref od])), (td, .inl (G.2.1, 256, .inl (fun j => sb_b ((pTx si tx a1 a2 a3 a4) j)))), (od, .inl (G.2.1, ln, .inl (fun j => nI (o j)))), (ht, .inr (4, [.ref tt, .int (nI (pSi si)), .ref ot])), (tt, .inl (G.2.2.1, 256, .inl (fun j => nI ((pTx si tx a1 a2 a3 a4) j)))), (ot, .inl (G.2.2.1, ln, .inl (fun j => nI (o j))))] H locs := hw.sub [2, 0, 3, 4, 1, 5] (by decide) rfl
        exact ret_z E hw hr hlk (by omega) (by omega) (((od, ot), pSi si, pTx si tx a1 a2 a3 a4, ln, o)) (by decide +kernel) ⟨rfl, pSi_le hsi, pTx_lt htx, hln, ho⟩ rfl dX0_turn_58
  · skip
    refine tv (y := nI 1) (by rw [h]) ?_
    refine lv_lookup (off := 56) (tgt := 59) E.1 E.2.1 dX0_turn_3 (by decide +kernel) (by decide +kernel) (by decide) ?_
    have hml1 := md_lt a1 (m := si + 1) (by omega)
    refine lv_aload_n E.1 E.2.1 dX0_turn_59 rfl (lv_at hl 1 rfl) ?_
    refine lv_iload_n E.1 E.2.1 dX0_turn_60 rfl (lv_at hl 3 rfl) ?_
    refine lv_aload_n E.1 E.2.1 dX0_turn_61 rfl (lv_at hl 1 rfl) ?_
    refine gf (v := .int (nI si)) E hw in_X2 (ci := 4) rfl 3 rfl 1 (by decide) q37 rfl dX0_turn_62 ?_
    refine lv_iconst (v := nI 1) E.1 E.2.1 dX0_turn_65 (by decide +kernel) ?_
    refine n_iadd (d := si + 1) E dX0_turn_66 rfl ?_
    refine cl_i (wr := [(hd, .inr (3, [.ref td, .int (nI si), .ref od])), (td, .inl (G.2.1, 256, .inl (fun j => sb_b (tx j)))), (od, .inl (G.2.1, ln, .inl (fun j => nI (o j)))), (ht, .inr (4, [.ref tt, .int (nI si), .ref ot])), (tt, .inl (G.2.2.1, 256, .inl (fun j => nI (tx j)))), (ot, .inl (G.2.2.1, ln, .inl (fun j => nI (o j))))]) (va_runS (As := [.int a1, .int (nI (si + 1))]) (rest := [.ref ht]) E.fix (m_X0_mod l G s.heap.size a1 (si + 1) (by omega) (by omega)) (va_cwS 2 E.hts (lw_S q79 q80 q3 q81) rfl rfl rfl (by decide +kernel) ⟨Nat.le_of_ble_eq_true rfl, Nat.le_of_ble_eq_true rfl⟩) (preS_ok E hw [] rfl (by decide)) rfl rfl hl.1 rfl (lv_room (Nat.le_of_ble_eq_true rfl)) dX0_turn_67 ⟨(by show _ ≤ 11; omega), (by show _ ≤ 1640; omega)⟩) E hw [] [0, 1, 2, 3, 4, 5] rfl rfl (by decide) (by decide) (fun r u H locs hp hw => ?_)
    subst hp
    have hw : Wd G A s [(hd, .inr (3, [.ref td, .int (nI si), .ref od])), (td, .inl (G.2.1, 256, .inl (fun j => sb_b (tx j)))), (od, .inl (G.2.1, ln, .inl (fun j => nI (o j)))), (ht, .inr (4, [.ref tt, .int (nI si), .ref ot])), (tt, .inl (G.2.2.1, 256, .inl (fun j => nI (tx j)))), (ot, .inl (G.2.2.1, ln, .inl (fun j => nI (o j))))] H locs := hw
    refine W.cs (cells' := 0) (slots' := 0) rfl rfl ?_
    refine pf (ws' := [(hd, .inr (3, [.ref td, .int (nI si), .ref od])), (td, .inl (G.2.1, 256, .inl (fun j => sb_b (tx j)))), (od, .inl (G.2.1, ln, .inl (fun j => nI (o j)))), (ht, .inr (4, [.ref tt, .int (nI (md a1 (si + 1))), .ref ot])), (tt, .inl (G.2.2.1, 256, .inl (fun j => nI (tx j)))), (ot, .inl (G.2.2.1, ln, .inl (fun j => nI (o j))))]) E hw in_X2 tyX2 tyX2_ok nmX2 (ci := 4) rfl 3 rfl 1 (by decide) q37 rfl rfl rfl (Nat.le_of_ble_eq_true rfl) rfl dX0_turn_70 (fun H locs hw => ?_)
    refine lv_aload_n E.1 E.2.1 dX0_turn_73 rfl (lv_at hl 0 rfl) ?_
    refine lv_iload_n E.1 E.2.1 dX0_turn_74 rfl (lv_at hl 3 rfl) ?_
    refine cl_v (wr := [(td, .inl (G.2.1, 256, .inl (fun j => sb_b (tx j)))), (od, .inl (G.2.1, ln, .inl (fun j => nI (o j)))), (ht, .inr (4, [.ref tt, .int (nI (md a1 (si + 1))), .ref ot])), (tt, .inl (G.2.2.1, 256, .inl (fun j => nI (tx j)))), (ot, .inl (G.2.2.1, ln, .inl (fun j => nI (o j))))]) (va_runV (As := [.int a1]) (rest := []) E.fix (m_X1_trim l G H.size hd td od si a1 hsi) (cwV 1 E.hts (lw_V q212 q213 q214 q4 q215) rfl rfl rfl (by decide +kernel) ⟨Nat.le_of_ble_eq_true rfl, Nat.le_of_ble_eq_true rfl⟩) (preV_ok E hw [0] rfl (by decide) 0 rfl (ci := 3) rfl) rfl rfl hl.1 rfl (lv_room (Nat.le_of_ble_eq_true rfl)) dX0_turn_75 ⟨(by show _ ≤ 11; omega), (by show _ ≤ 1640; omega)⟩) E hw [0] [1, 2, 3, 4, 5] rfl rfl (by decide) (by decide) (fun u H locs hp hw => ?_)
    have hw : Wd G A s [(td, .inl (G.2.1, 256, .inl (fun j => sb_b (tx j)))), (od, .inl (G.2.1, ln, .inl (fun j => nI (o j)))), (ht, .inr (4, [.ref tt, .int (nI (md a1 (si + 1))), .ref ot])), (tt, .inl (G.2.2.1, 256, .inl (fun j => nI (tx j)))), (ot, .inl (G.2.2.1, ln, .inl (fun j => nI (o j)))), (hd, .inr (3, [.ref td, .int (nI (md a1 (si + 1))), .ref od]))] H locs := hw
    refine W.cs (cells' := 0) (slots' := 0) rfl rfl ?_
    refine lv_aload_n E.1 E.2.1 dX0_turn_78 rfl (lv_at hl 0 rfl) ?_
    refine lv_aload_n E.1 E.2.1 dX0_turn_79 rfl (lv_at hl 1 rfl) ?_
    refine lv_iload E.1 E.2.1 dX0_turn_80 (lv_at hl 7 rfl) ?_
    refine cl_i (wr := [(td, .inl (G.2.1, 256, .inl (fun j => sb_b (tx j)))), (tt, .inl (G.2.2.1, 256, .inl (fun j => nI (tx j))))]) (va_runS (As := [.ref hd, .ref ht, .int f1]) (rest := []) E.fix (m_X0_stand l G H.size hd td od ht tt ot (md a1 (si + 1)) ln o f1 ho hln) (va_cwS 3 E.hts (lw_S q61 q62 q3 q63) rfl rfl rfl (by decide +kernel) ⟨Nat.le_of_ble_eq_true rfl, Nat.le_of_ble_eq_true rfl⟩) (preS_ok E hw [5, 1, 2, 4] rfl (by decide)) rfl rfl hl.1 rfl (lv_room (Nat.le_of_ble_eq_true rfl)) dX0_turn_82 ⟨(by show _ ≤ 11; omega), (by show _ ≤ 1640; omega)⟩) E hw [5, 1, 2, 4] [0, 3] rfl rfl (by decide) (by decide) (fun r u3 H locs hp hw => ?_)
    subst hp
    have hw : Wd G A s [(td, .inl (G.2.1, 256, .inl (fun j => sb_b (tx j)))), (tt, .inl (G.2.2.1, 256, .inl (fun j => nI (tx j)))), (hd, .inr (3, [.ref td, .int (nI (md a1 (si + 1))), .ref od])), (od, .inl (G.2.1, ln, .inl (fun j => nI (o j)))), (ht, .inr (4, [.ref tt, .int (nI (md a1 (si + 1))), .ref ot])), (ot, .inl (G.2.2.1, ln, .inl (fun j => nI (o j))))] H locs := hw
    refine W.cs (cells' := 0) (slots' := 0) rfl rfl ?_
    have hw : Wd G A s [(hd, .inr (3, [.ref td, .int (nI (md a1 (si + 1))), .ref od])), (td, .inl (G.2.1, 256, .inl (fun j => sb_b (tx j)))), (od, .inl (G.2.1, ln, .inl (fun j => nI (o j)))), (ht, .inr (4, [.ref tt, .int (nI (md a1 (si + 1))), .ref ot])), (tt, .inl (G.2.2.1, 256, .inl (fun j => nI (tx j)))), (ot, .inl (G.2.2.1, ln, .inl (fun j => nI (o j))))] H locs := hw.sub [2, 0, 3, 4, 1, 5] (by decide) rfl
    exact ret_z E hw hr hlk (by omega) (by omega) (((od, ot), md a1 (si + 1), tx, ln, o)) (by decide +kernel) ⟨rfl, by show md a1 (si + 1) ≤ 256; omega, htx, hln, ho⟩ rfl dX0_turn_85
  · skip
    have hx2 : (nI xj).toInt = (xj : Int) := nI_toInt (by omega)
    refine tv (y := nI 2) (by rw [h]) ?_
    refine lv_lookup (off := 83) (tgt := 86) E.1 E.2.1 dX0_turn_3 (by decide +kernel) (by decide +kernel) (by decide) ?_
    refine lv_aload_n E.1 E.2.1 dX0_turn_86 rfl (lv_at hl 0 rfl) ?_
    refine lv_aload_n E.1 E.2.1 dX0_turn_87 rfl (lv_at hl 1 rfl) ?_
    refine lv_iload_n E.1 E.2.1 dX0_turn_88 rfl (lv_at hl 3 rfl) ?_
    refine lv_iload E.1 E.2.1 dX0_turn_89 (lv_at hl 4 rfl) ?_
    refine lv_iload E.1 E.2.1 dX0_turn_91 (lv_at hl 5 rfl) ?_
    refine cl_i (wr := []) (va_runS (As := [.ref hd, .ref ht, .int a1, .int a2, .int a3]) (rest := []) E.fix (m_X0_write l G s.heap.size hd td od ht tt ot si ln _ _ _ tx o a1 a2 a3 htx hsi rfl rfl rfl) (va_cwS 5 E.hts (lw_S q83 q84 q3 q85) rfl rfl rfl (by decide +kernel) ⟨Nat.le_of_ble_eq_true rfl, Nat.le_of_ble_eq_true rfl⟩) (preS_ok E hw [0, 1, 2, 3, 4, 5] rfl (by decide)) rfl rfl hl.1 rfl (lv_room (Nat.le_of_ble_eq_true rfl)) dX0_turn_93 ⟨(by show _ ≤ 11; omega), (by show _ ≤ 1640; omega)⟩) E hw [0, 1, 2, 3, 4, 5] [] rfl rfl (by decide) (by decide) (fun r u H locs hp hw => ?_)
    obtain ⟨hp, hln2⟩ := hp
    subst hp
    have hw : Wd G A s [(hd, .inr (3, [.ref td, .int (nI si), .ref u.1])), (td, .inl (G.2.1, 256, .inl (fun j => sb_b (tx j)))), (u.1, .inl (G.2.1, rmN (md a1 3) (md a3 (si - md a2 (si + 1) + 1)), .inl (fun j => nI ((letN tx (md a1 3) (md a2 (si + 1)) (md a3 (si - md a2 (si + 1) + 1))) j)))), (ht, .inr (4, [.ref tt, .int (nI si), .ref u.2])), (tt, .inl (G.2.2.1, 256, .inl (fun j => nI (tx j)))), (u.2, .inl (G.2.2.1, rmN (md a1 3) (md a3 (si - md a2 (si + 1) + 1)), .inl (fun j => nI ((letN tx (md a1 3) (md a2 (si + 1)) (md a3 (si - md a2 (si + 1) + 1))) j))))] H locs := hw
    refine W.cs (cells' := 8) (slots' := 1440) rfl rfl ?_
    obtain ⟨od2, ot2⟩ := u
    have ho2 : ∀ j, (letN tx (md a1 3) (md a2 (si + 1)) (md a3 (si - md a2 (si + 1) + 1))) j < 128 := letN_lt tx _ _ _
    generalize rmN (md a1 3) (md a3 (si - md a2 (si + 1) + 1)) = ln2 at hln2 hw
    generalize letN tx (md a1 3) (md a2 (si + 1)) (md a3 (si - md a2 (si + 1) + 1)) = o2 at ho2 hw
    have hw : Wd G A s [(hd, .inr (3, [.ref td, .int (nI si), .ref od2])), (td, .inl (G.2.1, 256, .inl (fun j => sb_b (tx j)))), (od2, .inl (G.2.1, ln2, .inl (fun j => nI (o2 j)))), (ht, .inr (4, [.ref tt, .int (nI si), .ref ot2])), (tt, .inl (G.2.2.1, 256, .inl (fun j => nI (tx j)))), (ot2, .inl (G.2.2.1, ln2, .inl (fun j => nI (o2 j))))] H locs := hw
    refine n_if_eq (tgt := 138) E dX0_turn_96 (by decide) (by omega) (fun c_96 => ?_) (fun c_96 => ?_)
    · skip
      exact absurd c_96 (by decide)
    · skip
      refine lv_aload_n E.1 E.2.1 dX0_turn_99 rfl (lv_at hl 0 rfl) ?_
      refine lv_iload E.1 E.2.1 dX0_turn_100 (lv_at hl 6 rfl) ?_
      refine lv_iload E.1 E.2.1 dX0_turn_102 (lv_at hl 7 rfl) ?_
      have hlo := lo16_lt f1
      have hm3 := md_lt a4 (m := 3) (by decide)
      refine cl_i (wr := [(hd, .inr (3, [.ref td, .int (nI si), .ref od2])), (td, .inl (G.2.1, 256, .inl (fun j => sb_b (tx j)))), (od2, .inl (G.2.1, ln2, .inl (fun j => nI (o2 j)))), (ht, .inr (4, [.ref tt, .int (nI si), .ref ot2])), (tt, .inl (G.2.2.1, 256, .inl (fun j => nI (tx j)))), (ot2, .inl (G.2.2.1, ln2, .inl (fun j => nI (o2 j))))]) (va_runV (As := [.int a4, .int f1]) (rest := []) E.fix (m_X1_room l G H.size hd td od2 si a4 f1) (cwV 2 E.hts (lw_V q204 q205 q206 q4 q207) rfl rfl rfl (by decide +kernel) ⟨Nat.le_of_ble_eq_true rfl, Nat.le_of_ble_eq_true rfl⟩) (preV_ok E hw [] rfl (by decide) 0 rfl (ci := 3) rfl) rfl rfl hl.1 rfl (lv_room (Nat.le_of_ble_eq_true rfl)) dX0_turn_104 ⟨(by show _ ≤ 11; omega), (by show _ ≤ 1640; omega)⟩) E hw [] [0, 1, 2, 3, 4, 5] rfl rfl (by decide) (by decide) (fun r u H locs hp hw => ?_)
      subst hp
      have hw : Wd G A s [(hd, .inr (3, [.ref td, .int (nI si), .ref od2])), (td, .inl (G.2.1, 256, .inl (fun j => sb_b (tx j)))), (od2, .inl (G.2.1, ln2, .inl (fun j => nI (o2 j)))), (ht, .inr (4, [.ref tt, .int (nI si), .ref ot2])), (tt, .inl (G.2.2.1, 256, .inl (fun j => nI (tx j)))), (ot2, .inl (G.2.2.1, ln2, .inl (fun j => nI (o2 j))))] H locs := hw
      refine W.cs (cells' := 11) (slots' := 1635) rfl rfl ?_
      refine lv_iload E.1 E.2.1 dX0_turn_107 (lv_at hl 6 rfl) ?_
      refine lv_iconst (v := nI 3) E.1 E.2.1 dX0_turn_109 (by decide +kernel) ?_
      refine cl_i (wr := [(hd, .inr (3, [.ref td, .int (nI si), .ref od2])), (td, .inl (G.2.1, 256, .inl (fun j => sb_b (tx j)))), (od2, .inl (G.2.1, ln2, .inl (fun j => nI (o2 j)))), (ht, .inr (4, [.ref tt, .int (nI si), .ref ot2])), (tt, .inl (G.2.2.1, 256, .inl (fun j => nI (tx j)))), (ot2, .inl (G.2.2.1, ln2, .inl (fun j => nI (o2 j))))]) (va_runS (As := [.int a4, .int (nI 3)]) (rest := [.int (nI (rmN (md a4 3) (lo16 f1)))]) E.fix (m_X0_mod l G H.size a4 3 (by omega) (by omega)) (va_cwS 2 E.hts (lw_S q79 q80 q3 q81) rfl rfl rfl (by decide +kernel) ⟨Nat.le_of_ble_eq_true rfl, Nat.le_of_ble_eq_true rfl⟩) (preS_ok E hw [] rfl (by decide)) rfl rfl hl.1 rfl (lv_room (Nat.le_of_ble_eq_true rfl)) dX0_turn_110 ⟨(by show _ ≤ 11; omega), (by show _ ≤ 1640; omega)⟩) E hw [] [0, 1, 2, 3, 4, 5] rfl rfl (by decide) (by decide) (fun r u H locs hp hw => ?_)
      subst hp
      have hw : Wd G A s [(hd, .inr (3, [.ref td, .int (nI si), .ref od2])), (td, .inl (G.2.1, 256, .inl (fun j => sb_b (tx j)))), (od2, .inl (G.2.1, ln2, .inl (fun j => nI (o2 j)))), (ht, .inr (4, [.ref tt, .int (nI si), .ref ot2])), (tt, .inl (G.2.2.1, 256, .inl (fun j => nI (tx j)))), (ot2, .inl (G.2.2.1, ln2, .inl (fun j => nI (o2 j))))] H locs := hw
      refine W.cs (cells' := 11) (slots' := 1635) rfl rfl ?_
      refine lv_iload E.1 E.2.1 dX0_turn_113 (lv_at hl 7 rfl) ?_
      refine lv_ldc (v := 65535) E.1 E.2.1 E.2.2.2.1 (E.hts _ q216) dX0_turn_115 ?_
      refine lv_iand E.1 E.2.1 dX0_turn_117 ?_
      refine tv (y := nI (lo16 f1)) (lo16_and f1) ?_
      refine cl_i (wr := [(hd, .inr (3, [.ref td, .int (nI si), .ref od2])), (td, .inl (G.2.1, 256, .inl (fun j => sb_b (tx j)))), (od2, .inl (G.2.1, ln2, .inl (fun j => nI (o2 j)))), (ht, .inr (4, [.ref tt, .int (nI si), .ref ot2])), (tt, .inl (G.2.2.1, 256, .inl (fun j => nI (tx j)))), (ot2, .inl (G.2.2.1, ln2, .inl (fun j => nI (o2 j))))]) (va_runS (As := [.int (nI (md a4 3)), .int (nI (lo16 f1))]) (rest := [.int (nI (rmN (md a4 3) (lo16 f1)))]) E.fix (m_X0_room l G H.size (md a4 3) (lo16 f1) hm3 (by omega)) (va_cwS 2 E.hts (lw_S q89 q90 q3 q91) rfl rfl rfl (by decide +kernel) ⟨Nat.le_of_ble_eq_true rfl, Nat.le_of_ble_eq_true rfl⟩) (preS_ok E hw [] rfl (by decide)) rfl rfl hl.1 rfl (lv_room (Nat.le_of_ble_eq_true rfl)) dX0_turn_118 ⟨(by show _ ≤ 11; omega), (by show _ ≤ 1640; omega)⟩) E hw [] [0, 1, 2, 3, 4, 5] rfl rfl (by decide) (by decide) (fun r u H locs hp hw => ?_)
      subst hp
      have hw : Wd G A s [(hd, .inr (3, [.ref td, .int (nI si), .ref od2])), (td, .inl (G.2.1, 256, .inl (fun j => sb_b (tx j)))), (od2, .inl (G.2.1, ln2, .inl (fun j => nI (o2 j)))), (ht, .inr (4, [.ref tt, .int (nI si), .ref ot2])), (tt, .inl (G.2.2.1, 256, .inl (fun j => nI (tx j)))), (ot2, .inl (G.2.2.1, ln2, .inl (fun j => nI (o2 j))))] H locs := hw
      refine W.cs (cells' := 11) (slots' := 1635) rfl rfl ?_
      have hrl := rmN_le hm3 (lo16 f1)
      refine n_icmp_ne (tgt := 138) E dX0_turn_121 (by decide) (by omega) (by omega) (fun c_121 => ?_) (fun c_121 => ?_)
      · skip
        exact absurd rfl c_121
      · skip
        refine lv_aload_n E.1 E.2.1 dX0_turn_124 rfl (lv_at hl 0 rfl) ?_
        refine lv_aload_n E.1 E.2.1 dX0_turn_125 rfl (lv_at hl 1 rfl) ?_
        refine lv_iload E.1 E.2.1 dX0_turn_126 (lv_at hl 7 rfl) ?_
        refine cl_i (wr := [(td, .inl (G.2.1, 256, .inl (fun j => sb_b (tx j)))), (tt, .inl (G.2.2.1, 256, .inl (fun j => nI (tx j))))]) (va_runS (As := [.ref hd, .ref ht, .int f1]) (rest := []) E.fix (m_X0_stand l G H.size hd td od2 ht tt ot2 si ln2 o2 f1 ho2 hln2) (va_cwS 3 E.hts (lw_S q61 q62 q3 q63) rfl rfl rfl (by decide +kernel) ⟨Nat.le_of_ble_eq_true rfl, Nat.le_of_ble_eq_true rfl⟩) (preS_ok E hw [0, 2, 3, 5] rfl (by decide)) rfl rfl hl.1 rfl (lv_room (Nat.le_of_ble_eq_true rfl)) dX0_turn_128 ⟨(by show _ ≤ 11; omega), (by show _ ≤ 1640; omega)⟩) E hw [0, 2, 3, 5] [1, 4] rfl rfl (by decide) (by decide) (fun r u3 H locs hp hw => ?_)
        subst hp
        have hw : Wd G A s [(td, .inl (G.2.1, 256, .inl (fun j => sb_b (tx j)))), (tt, .inl (G.2.2.1, 256, .inl (fun j => nI (tx j)))), (hd, .inr (3, [.ref td, .int (nI si), .ref od2])), (od2, .inl (G.2.1, ln2, .inl (fun j => nI (o2 j)))), (ht, .inr (4, [.ref tt, .int (nI si), .ref ot2])), (ot2, .inl (G.2.2.1, ln2, .inl (fun j => nI (o2 j))))] H locs := hw
        refine W.cs (cells' := 11) (slots' := 1635) rfl rfl ?_
        refine n_if_eq (tgt := 138) E dX0_turn_131 (by decide) (by omega) (fun c_131 => ?_) (fun c_131 => ?_)
        · skip
          exact absurd c_131 (by decide)
        · skip
          refine lv_iconst (v := nI 1) E.1 E.2.1 dX0_turn_134 (by decide +kernel) ?_
          refine lv_goto (tgt := 139) E.1 E.2.1 dX0_turn_135 (by decide) ?_
          have hw : Wd G A s [(hd, .inr (3, [.ref td, .int (nI si), .ref od2])), (td, .inl (G.2.1, 256, .inl (fun j => sb_b (tx j)))), (od2, .inl (G.2.1, ln2, .inl (fun j => nI (o2 j)))), (ht, .inr (4, [.ref tt, .int (nI si), .ref ot2])), (tt, .inl (G.2.2.1, 256, .inl (fun j => nI (tx j)))), (ot2, .inl (G.2.2.1, ln2, .inl (fun j => nI (o2 j))))] H locs := hw.sub [2, 0, 3, 4, 1, 5] (by decide) rfl
          exact ret_z E hw hr hlk (by omega) (by omega) (((od2, ot2), si, tx, ln2, o2)) (by decide +kernel) ⟨rfl, hsi, htx, hln2, ho2⟩ rfl dX0_turn_139
  · skip
    have hx2 : (nI xj).toInt = (xj : Int) := nI_toInt (by omega)
    refine tv (y := nI 3) (by rw [h]) ?_
    refine lv_lookup (off := 83) (tgt := 86) E.1 E.2.1 dX0_turn_3 (by decide +kernel) (by decide +kernel) (by decide) ?_
    refine lv_aload_n E.1 E.2.1 dX0_turn_86 rfl (lv_at hl 0 rfl) ?_
    refine lv_aload_n E.1 E.2.1 dX0_turn_87 rfl (lv_at hl 1 rfl) ?_
    refine lv_iload_n E.1 E.2.1 dX0_turn_88 rfl (lv_at hl 3 rfl) ?_
    refine lv_iload E.1 E.2.1 dX0_turn_89 (lv_at hl 4 rfl) ?_
    refine lv_iload E.1 E.2.1 dX0_turn_91 (lv_at hl 5 rfl) ?_
    refine cl_i (wr := []) (va_runS (As := [.ref hd, .ref ht, .int a1, .int a2, .int a3]) (rest := []) E.fix (m_X0_write l G s.heap.size hd td od ht tt ot si ln _ _ _ tx o a1 a2 a3 htx hsi rfl rfl rfl) (va_cwS 5 E.hts (lw_S q83 q84 q3 q85) rfl rfl rfl (by decide +kernel) ⟨Nat.le_of_ble_eq_true rfl, Nat.le_of_ble_eq_true rfl⟩) (preS_ok E hw [0, 1, 2, 3, 4, 5] rfl (by decide)) rfl rfl hl.1 rfl (lv_room (Nat.le_of_ble_eq_true rfl)) dX0_turn_93 ⟨(by show _ ≤ 11; omega), (by show _ ≤ 1640; omega)⟩) E hw [0, 1, 2, 3, 4, 5] [] rfl rfl (by decide) (by decide) (fun r u H locs hp hw => ?_)
    obtain ⟨hp, hln2⟩ := hp
    subst hp
    have hw : Wd G A s [(hd, .inr (3, [.ref td, .int (nI si), .ref u.1])), (td, .inl (G.2.1, 256, .inl (fun j => sb_b (tx j)))), (u.1, .inl (G.2.1, rmN (md a1 3) (md a3 (si - md a2 (si + 1) + 1)), .inl (fun j => nI ((letN tx (md a1 3) (md a2 (si + 1)) (md a3 (si - md a2 (si + 1) + 1))) j)))), (ht, .inr (4, [.ref tt, .int (nI si), .ref u.2])), (tt, .inl (G.2.2.1, 256, .inl (fun j => nI (tx j)))), (u.2, .inl (G.2.2.1, rmN (md a1 3) (md a3 (si - md a2 (si + 1) + 1)), .inl (fun j => nI ((letN tx (md a1 3) (md a2 (si + 1)) (md a3 (si - md a2 (si + 1) + 1))) j))))] H locs := hw
    refine W.cs (cells' := 8) (slots' := 1440) rfl rfl ?_
    obtain ⟨od2, ot2⟩ := u
    have ho2 : ∀ j, (letN tx (md a1 3) (md a2 (si + 1)) (md a3 (si - md a2 (si + 1) + 1))) j < 128 := letN_lt tx _ _ _
    generalize rmN (md a1 3) (md a3 (si - md a2 (si + 1) + 1)) = ln2 at hln2 hw
    generalize letN tx (md a1 3) (md a2 (si + 1)) (md a3 (si - md a2 (si + 1) + 1)) = o2 at ho2 hw
    have hw : Wd G A s [(hd, .inr (3, [.ref td, .int (nI si), .ref od2])), (td, .inl (G.2.1, 256, .inl (fun j => sb_b (tx j)))), (od2, .inl (G.2.1, ln2, .inl (fun j => nI (o2 j)))), (ht, .inr (4, [.ref tt, .int (nI si), .ref ot2])), (tt, .inl (G.2.2.1, 256, .inl (fun j => nI (tx j)))), (ot2, .inl (G.2.2.1, ln2, .inl (fun j => nI (o2 j))))] H locs := hw
    refine n_if_eq (tgt := 138) E dX0_turn_96 (by decide) (by omega) (fun c_96 => ?_) (fun c_96 => ?_)
    · skip
      exact absurd c_96 (by decide)
    · skip
      refine lv_aload_n E.1 E.2.1 dX0_turn_99 rfl (lv_at hl 0 rfl) ?_
      refine lv_iload E.1 E.2.1 dX0_turn_100 (lv_at hl 6 rfl) ?_
      refine lv_iload E.1 E.2.1 dX0_turn_102 (lv_at hl 7 rfl) ?_
      have hlo := lo16_lt f1
      have hm3 := md_lt a4 (m := 3) (by decide)
      refine cl_i (wr := [(hd, .inr (3, [.ref td, .int (nI si), .ref od2])), (td, .inl (G.2.1, 256, .inl (fun j => sb_b (tx j)))), (od2, .inl (G.2.1, ln2, .inl (fun j => nI (o2 j)))), (ht, .inr (4, [.ref tt, .int (nI si), .ref ot2])), (tt, .inl (G.2.2.1, 256, .inl (fun j => nI (tx j)))), (ot2, .inl (G.2.2.1, ln2, .inl (fun j => nI (o2 j))))]) (va_runV (As := [.int a4, .int f1]) (rest := []) E.fix (m_X1_room l G H.size hd td od2 si a4 f1) (cwV 2 E.hts (lw_V q204 q205 q206 q4 q207) rfl rfl rfl (by decide +kernel) ⟨Nat.le_of_ble_eq_true rfl, Nat.le_of_ble_eq_true rfl⟩) (preV_ok E hw [] rfl (by decide) 0 rfl (ci := 3) rfl) rfl rfl hl.1 rfl (lv_room (Nat.le_of_ble_eq_true rfl)) dX0_turn_104 ⟨(by show _ ≤ 11; omega), (by show _ ≤ 1640; omega)⟩) E hw [] [0, 1, 2, 3, 4, 5] rfl rfl (by decide) (by decide) (fun r u H locs hp hw => ?_)
      subst hp
      have hw : Wd G A s [(hd, .inr (3, [.ref td, .int (nI si), .ref od2])), (td, .inl (G.2.1, 256, .inl (fun j => sb_b (tx j)))), (od2, .inl (G.2.1, ln2, .inl (fun j => nI (o2 j)))), (ht, .inr (4, [.ref tt, .int (nI si), .ref ot2])), (tt, .inl (G.2.2.1, 256, .inl (fun j => nI (tx j)))), (ot2, .inl (G.2.2.1, ln2, .inl (fun j => nI (o2 j))))] H locs := hw
      refine W.cs (cells' := 11) (slots' := 1635) rfl rfl ?_
      refine lv_iload E.1 E.2.1 dX0_turn_107 (lv_at hl 6 rfl) ?_
      refine lv_iconst (v := nI 3) E.1 E.2.1 dX0_turn_109 (by decide +kernel) ?_
      refine cl_i (wr := [(hd, .inr (3, [.ref td, .int (nI si), .ref od2])), (td, .inl (G.2.1, 256, .inl (fun j => sb_b (tx j)))), (od2, .inl (G.2.1, ln2, .inl (fun j => nI (o2 j)))), (ht, .inr (4, [.ref tt, .int (nI si), .ref ot2])), (tt, .inl (G.2.2.1, 256, .inl (fun j => nI (tx j)))), (ot2, .inl (G.2.2.1, ln2, .inl (fun j => nI (o2 j))))]) (va_runS (As := [.int a4, .int (nI 3)]) (rest := [.int (nI (rmN (md a4 3) (lo16 f1)))]) E.fix (m_X0_mod l G H.size a4 3 (by omega) (by omega)) (va_cwS 2 E.hts (lw_S q79 q80 q3 q81) rfl rfl rfl (by decide +kernel) ⟨Nat.le_of_ble_eq_true rfl, Nat.le_of_ble_eq_true rfl⟩) (preS_ok E hw [] rfl (by decide)) rfl rfl hl.1 rfl (lv_room (Nat.le_of_ble_eq_true rfl)) dX0_turn_110 ⟨(by show _ ≤ 11; omega), (by show _ ≤ 1640; omega)⟩) E hw [] [0, 1, 2, 3, 4, 5] rfl rfl (by decide) (by decide) (fun r u H locs hp hw => ?_)
      subst hp
      have hw : Wd G A s [(hd, .inr (3, [.ref td, .int (nI si), .ref od2])), (td, .inl (G.2.1, 256, .inl (fun j => sb_b (tx j)))), (od2, .inl (G.2.1, ln2, .inl (fun j => nI (o2 j)))), (ht, .inr (4, [.ref tt, .int (nI si), .ref ot2])), (tt, .inl (G.2.2.1, 256, .inl (fun j => nI (tx j)))), (ot2, .inl (G.2.2.1, ln2, .inl (fun j => nI (o2 j))))] H locs := hw
      refine W.cs (cells' := 11) (slots' := 1635) rfl rfl ?_
      refine lv_iload E.1 E.2.1 dX0_turn_113 (lv_at hl 7 rfl) ?_
      refine lv_ldc (v := 65535) E.1 E.2.1 E.2.2.2.1 (E.hts _ q216) dX0_turn_115 ?_
      refine lv_iand E.1 E.2.1 dX0_turn_117 ?_
      refine tv (y := nI (lo16 f1)) (lo16_and f1) ?_
      refine cl_i (wr := [(hd, .inr (3, [.ref td, .int (nI si), .ref od2])), (td, .inl (G.2.1, 256, .inl (fun j => sb_b (tx j)))), (od2, .inl (G.2.1, ln2, .inl (fun j => nI (o2 j)))), (ht, .inr (4, [.ref tt, .int (nI si), .ref ot2])), (tt, .inl (G.2.2.1, 256, .inl (fun j => nI (tx j)))), (ot2, .inl (G.2.2.1, ln2, .inl (fun j => nI (o2 j))))]) (va_runS (As := [.int (nI (md a4 3)), .int (nI (lo16 f1))]) (rest := [.int (nI (rmN (md a4 3) (lo16 f1)))]) E.fix (m_X0_room l G H.size (md a4 3) (lo16 f1) hm3 (by omega)) (va_cwS 2 E.hts (lw_S q89 q90 q3 q91) rfl rfl rfl (by decide +kernel) ⟨Nat.le_of_ble_eq_true rfl, Nat.le_of_ble_eq_true rfl⟩) (preS_ok E hw [] rfl (by decide)) rfl rfl hl.1 rfl (lv_room (Nat.le_of_ble_eq_true rfl)) dX0_turn_118 ⟨(by show _ ≤ 11; omega), (by show _ ≤ 1640; omega)⟩) E hw [] [0, 1, 2, 3, 4, 5] rfl rfl (by decide) (by decide) (fun r u H locs hp hw => ?_)
      subst hp
      have hw : Wd G A s [(hd, .inr (3, [.ref td, .int (nI si), .ref od2])), (td, .inl (G.2.1, 256, .inl (fun j => sb_b (tx j)))), (od2, .inl (G.2.1, ln2, .inl (fun j => nI (o2 j)))), (ht, .inr (4, [.ref tt, .int (nI si), .ref ot2])), (tt, .inl (G.2.2.1, 256, .inl (fun j => nI (tx j)))), (ot2, .inl (G.2.2.1, ln2, .inl (fun j => nI (o2 j))))] H locs := hw
      refine W.cs (cells' := 11) (slots' := 1635) rfl rfl ?_
      have hrl := rmN_le hm3 (lo16 f1)
      refine n_icmp_ne (tgt := 138) E dX0_turn_121 (by decide) (by omega) (by omega) (fun c_121 => ?_) (fun c_121 => ?_)
      · skip
        exact absurd rfl c_121
      · skip
        refine lv_aload_n E.1 E.2.1 dX0_turn_124 rfl (lv_at hl 0 rfl) ?_
        refine lv_aload_n E.1 E.2.1 dX0_turn_125 rfl (lv_at hl 1 rfl) ?_
        refine lv_iload E.1 E.2.1 dX0_turn_126 (lv_at hl 7 rfl) ?_
        refine cl_i (wr := [(td, .inl (G.2.1, 256, .inl (fun j => sb_b (tx j)))), (tt, .inl (G.2.2.1, 256, .inl (fun j => nI (tx j))))]) (va_runS (As := [.ref hd, .ref ht, .int f1]) (rest := []) E.fix (m_X0_stand l G H.size hd td od2 ht tt ot2 si ln2 o2 f1 ho2 hln2) (va_cwS 3 E.hts (lw_S q61 q62 q3 q63) rfl rfl rfl (by decide +kernel) ⟨Nat.le_of_ble_eq_true rfl, Nat.le_of_ble_eq_true rfl⟩) (preS_ok E hw [0, 2, 3, 5] rfl (by decide)) rfl rfl hl.1 rfl (lv_room (Nat.le_of_ble_eq_true rfl)) dX0_turn_128 ⟨(by show _ ≤ 11; omega), (by show _ ≤ 1640; omega)⟩) E hw [0, 2, 3, 5] [1, 4] rfl rfl (by decide) (by decide) (fun r u3 H locs hp hw => ?_)
        subst hp
        have hw : Wd G A s [(td, .inl (G.2.1, 256, .inl (fun j => sb_b (tx j)))), (tt, .inl (G.2.2.1, 256, .inl (fun j => nI (tx j)))), (hd, .inr (3, [.ref td, .int (nI si), .ref od2])), (od2, .inl (G.2.1, ln2, .inl (fun j => nI (o2 j)))), (ht, .inr (4, [.ref tt, .int (nI si), .ref ot2])), (ot2, .inl (G.2.2.1, ln2, .inl (fun j => nI (o2 j))))] H locs := hw
        refine W.cs (cells' := 11) (slots' := 1635) rfl rfl ?_
        refine n_if_eq (tgt := 138) E dX0_turn_131 (by decide) (by omega) (fun c_131 => ?_) (fun c_131 => ?_)
        · skip
          exact absurd c_131 (by decide)
        · skip
          refine lv_iconst (v := nI 1) E.1 E.2.1 dX0_turn_134 (by decide +kernel) ?_
          refine lv_goto (tgt := 139) E.1 E.2.1 dX0_turn_135 (by decide) ?_
          have hw : Wd G A s [(hd, .inr (3, [.ref td, .int (nI si), .ref od2])), (td, .inl (G.2.1, 256, .inl (fun j => sb_b (tx j)))), (od2, .inl (G.2.1, ln2, .inl (fun j => nI (o2 j)))), (ht, .inr (4, [.ref tt, .int (nI si), .ref ot2])), (tt, .inl (G.2.2.1, 256, .inl (fun j => nI (tx j)))), (ot2, .inl (G.2.2.1, ln2, .inl (fun j => nI (o2 j))))] H locs := hw.sub [2, 0, 3, 4, 1, 5] (by decide) rfl
          exact ret_z E hw hr hlk (by omega) (by omega) (((od2, ot2), si, tx, ln2, o2)) (by decide +kernel) ⟨rfl, hsi, htx, hln2, ho2⟩ rfl dX0_turn_139
end
section
/-! the run's own numbers out of the law's start -/
theorem arr_of {s : State} {args : Array Value} {ty : FieldType} (h : (Cond.arrayClass ty).before args s = true) (hn : ∀ cA, s.vm.findClass ("[" ++ ty.toString) = some cA → va_RA s cA ty) : ∃ cA : ClassId, ArrOfT s cA ty ∧ va_RA s cA ty := by
  obtain ⟨cA, kA, comp, h1, h2, h3⟩ := Cond.arrayClass_spec h
  exact ⟨cA, fun n z => ⟨fun k h => (by cases h), kA, h2, comp, h3⟩, hn cA h1⟩
set_option maxRecDepth 100000 in
theorem tab_words : ∀ j, j < 32 → Cond.eq (.elem (.static "Base32Encoder" "DEAULT_ENCODING_TABLE" "[B") (.int (nI j))) (.int (nI (sgn 2 j))) ∈ flatC (Jvm.Cond.and given_1 narrow_1) := by decide +kernel
set_option maxRecDepth 100000 in
set_option maxHeartbeats 4000000 in
theorem law_env {s : State} {b : Nat} (hts : ∀ w ∈ lw_tbl, w.before #[Value.ref b] s = true) (hgv : (Jvm.Cond.and given_1 narrow_1).before #[Value.ref b] s = true) : ∃ G : gg_T, kx G (fun q => s.heap.size ≤ q) s s.heap := by
  have htl : ∀ w ∈ lw_all, w.before #[Value.ref b] s = true := fun w h => hts w (lw_all_tbl h)
  have hs := flat_of_before _ hgv
  obtain ⟨c0, iS0, hK0⟩ := u_known (C := RX3) (T := TX3) (N := 2) (n := 2) htl in_X3 (htl _ q115)
  obtain ⟨c1, iS1, hK1⟩ := u_known (C := RX4) (T := TX4) (N := 3) (n := 3) htl in_X4 (htl _ q140)
  obtain ⟨c2, iS2, hK2⟩ := u_known (C := RX5) (T := TX5) (N := 3) (n := 3) htl in_X5 (htl _ q168)
  obtain ⟨c3, iS3, hK3⟩ := u_known (C := RX1) (T := TX1) (N := 3) (n := 3) htl in_X1 (htl _ q11)
  obtain ⟨c4, iS4, hK4⟩ := u_known (C := RX2) (T := TX2) (N := 3) (n := 3) htl in_X2 (htl _ q30)
  obtain ⟨cB, hB⟩ := arr_of (htl _ q28) (fun cA h => h)
  obtain ⟨cI, hI⟩ := arr_of (htl _ q47) (fun cA h => h)
  have hA : ∀ a : Nat, a < s.heap.size → ¬ (fun q => s.heap.size ≤ q) a := fun a h => Nat.not_le.mpr h
  obtain ⟨tb, hv, hT⟩ := va_Tof (tm := .static "Base32Encoder" "DEAULT_ENCODING_TABLE" "[B") (ty := .byte) (N := 32) (f := fun j => .int (nI (sgn 2 j))) (A := fun q => s.heap.size ≤ q) (by decide) (hs _ (by decide +kernel)) (va_eqt (hs (Cond.eq (.length (.static "Base32Encoder" "DEAULT_ENCODING_TABLE" "[B")) (.int 32)) (by decide +kernel))) (fun j hj => va_eqt (hs _ (tab_words j hj))) hA
  refine ⟨((fun k => if k = 0 then c0 else if k = 1 then c1 else if k = 2 then c2 else if k = 3 then c3 else c4, fun k => if k = 0 then iS0 else if k = 1 then iS1 else if k = 2 then iS2 else if k = 3 then iS3 else iS4), cB, cI, tb), ⟨?_, ?_⟩, va_Zref (hts _ q174) (htl _ q8) hv hA, hT⟩
  · intro k q hq
    match k, hq with
    | 0, hq => cases hq; exact hK0
    | 1, hq => cases hq; exact hK1
    | 2, hq => cases hq; exact hK2
    | 3, hq => cases hq; exact hK3
    | 4, hq => cases hq; exact hK4
    | k + 5, hq => simp [vwCl] at hq
  · intro k q hq
    match k, hq with
    | 0, hq => cases hq; exact hB
    | 1, hq => cases hq; exact hI
    | k + 2, hq => simp at hq
end
section
-- ===== end of PART A; then your names; then what follows =====
/-! THE CLAIM OUT OF ONE WALK OF THE LAW'S BODY. Your part is whole_start (and what it stands on); all else here is the same for every law, but numbers. -/
def R_law : String := "LetterDeskLaw"
def lw_P (b : Addr) (xs : List Int32) (args : Array Value) (s : State) : Prop := args = #[.ref b] ∧ s.IntsAt b xs ∧ xs.length ≤ 66 ∧ (Jvm.Cond.and given_1 narrow_1).before args s = true
def lw_Q (_ : Array Value) (s : State) (o : Outcome) (t : State) : Prop := o = .returned (some (.int 1)) ∧ Framed s o t [] 1200132 5501062
def lw_Z (below : List Frame) (a : Array Value) (s : State) : State → Prop := fun t => ∃ o, t.status = .running ∧ Ended t below o ∧ lw_Q a s o t
/-- the law's own end, with 1 on the stack, nothing written that was there before, its room as the claim has it -/
theorem lw_ret {p : Program} {l : Launch} {e : Env} {s : State} {m : MethodId} {below : List Frame} {meth : Method} {c : Code} {b : Nat} (hx : p.tables.exec = Jvm.exec) (hb : c.code = code) (hr : meth.sig.returnType = ret) (hlocks : meth.locks = false) {pc : Nat} {H : Heap} {ls : Array Slot} (hdg : decode code pc = .ok (.ireturn, 1)) : W p l e room_1 s m #[Value.ref b] below meth c H [] 1200132 5501062 (lw_Z below #[Value.ref b] s) (F0 m pc ls [.int 1]) := by
  intro T hT X
  obtain ⟨fs, hret, hrun, hended, hW, hframe⟩ := X.leave (v := some (.int 1)) (hlocks := hlocks) (fun h => by rw [hr] at h; cases h)
  have hmeth' : T.vm.method? m = some meth := X.method'
  refine ⟨T.setFrames fs, ?_, .returned (some (.int 1)), hrun, hended, rfl, ⟨_, rfl⟩, hW, hframe⟩
  jvm_step X.here [X.here.top, hx, hb, hdg, hmeth', hr, ret, narrow_b1]
  (try refine ⟨rfl, ?_⟩); (try refine ⟨rfl, ?_⟩)
  first | (intro acts; rw [hret _ acts rfl rfl rfl]) | rw [hret _ _ rfl rfl rfl]
  exact Steps.refl _
/-- what holds at the law's entry: the machine, the code, the tables' words (any of lw_tbl by 'hts w (by decide +kernel)'), the script of L ints xs at the cell b, what the Statement gives of the start (any of its parts by flat_of_before) -/
def lw_At (p : Program) (s : State) (m : MethodId) (meth : Method) (c : Code) (b L : Nat) (xs : Nat → Int32) : Prop :=
  p.tables.exec = Jvm.exec ∧ c.code = code ∧ meth.sig.returnType = ret ∧ c.maxLocals = 5 ∧ s.vm.findClass R_law = some m.cls ∧ (∀ w ∈ lw_tbl, w.before #[Value.ref b] s = true) ∧ va_X b L xs s s.heap ∧ b < s.heap.size ∧ meth.locks = false ∧ (Jvm.Cond.and given_1 narrow_1).before #[Value.ref b] s = true
-- ===== YOUR PART BEGINS =====

set_option maxHeartbeats 8000000 in
set_option maxRecDepth 100000 in
/-- THE LAW, from its entry -/
theorem whole_start {p : Program} {e : Env} {s : State} {m : MethodId} {below : List Frame} {meth : Method} {c : Code} (l : Launch) (hflags : l.flags = flags0) {b L : Nat} {xs : Nat → Int32} (hL : L ≤ 66) (C0 : lw_At p s m meth c b L xs) : W p l e room_1 s m #[Value.ref b] below meth c s.heap [] 0 0 (lw_Z below #[Value.ref b] s) (entryFrame m ([Value.ref b] : List Value).toArray 5) := by
  obtain ⟨hx, hb, hr, hml, hown, hts, hX, hbl, hlocks, hgv⟩ := id C0
  have hbA : ¬ (fun q : Nat => s.heap.size ≤ q) b := Nat.not_le.mpr hbl
  obtain ⟨G, hG⟩ := law_env hts hgv
  have E : En p m c code 5 s #[Value.ref b] RX0 G (fun q : Nat => s.heap.size ≤ q) := ⟨hx, hb, hml, hown, fun w h => hts w (lw_all_tbl h), hG, fun _ h => h⟩
  have hw : Wd G (fun q : Nat => s.heap.size ≤ q) s [] s.heap [] := ⟨fun k q h => by simp at h, ⟨fun i j p q h => by simp at h, fun k q h => by simp at h⟩, va_S.rf⟩
  obtain ⟨A, hAe⟩ : ∃ A : Nat → Prop, A = fun q : Nat => s.heap.size ≤ q := ⟨_, rfl⟩
  rw [← hAe] at hbA E hw
  refine ent_f (Nat.le_of_ble_eq_true rfl) rfl (fun ls hl => ?_)
  have hl : lv_has ls 5 [(0, .ref b)] := hl
  refine nwo (fs := [.null, .int (nI 0), .null]) E hw in_X1 tyX1 tyX1_ok q10 q11 q4 (ci := 3) rfl (fun j hj => by rcases (show j = 0 ∨ j = 1 ∨ j = 2 by omega) with rfl | rfl | rfl <;> rfl) (by show _ ≤ 1200132; omega) (by show _ ≤ 5501062; omega) dL_law_0 (fun hd H hw => ?_)
  have hw : Wd G A s [(hd, .inr (3, [.null, .int (nI 0), .null]))] H [] := hw
  refine W.cs (cells' := 1) (slots' := 3) rfl rfl ?_
  refine lv_dup E.1 E.2.1 dL_law_3 rfl ?_
  refine cl_v (wr := []) (va_runI (As := []) (rest := [.ref hd]) E.fix (m_X1_init l G H.size hd) (cwI 0 E.hts (lw_meth q14) rfl rfl rfl (E.hts _ q4) (E.hts _ q12) (E.hts _ q13) rfl (by decide +kernel) ⟨Nat.le_of_ble_eq_true rfl, Nat.le_of_ble_eq_true rfl⟩) (preS_ok E hw [0] rfl (by decide)) rfl rfl hl.1 rfl (lv_room (Nat.le_of_ble_eq_true rfl)) dL_law_4 ⟨(by show _ ≤ 1200132; omega), (by show _ ≤ 5501062; omega)⟩) E hw [0] [] rfl rfl (by decide) (by decide) (fun u H locs hp hw => ?_)
  have hw : Wd G A s [(hd, .inr (3, [.ref u.1, .int (nI 0), .ref u.2])), (u.1, .inl (G.2.1, 256, .inl (fun _ => 0))), (u.2, .inl (G.2.1, 0, .inl (fun _ => 0)))] H locs := hw
  refine W.cs (cells' := 3) (slots' := 259) rfl rfl ?_
  obtain ⟨td, od⟩ := u
  have hw : Wd G A s [(hd, .inr (3, [.ref td, .int (nI 0), .ref od])), (td, .inl (G.2.1, 256, .inl (fun _ => 0))), (od, .inl (G.2.1, 0, .inl (fun _ => 0)))] H locs := hw
  refine lv_astore_n (lv' := [(1, .ref hd), (0, .ref b)]) E.1 E.2.1 dL_law_7 rfl hl (by decide) rfl (fun ls hl => ?_)
  refine nwo (fs := [.null, .int (nI 0), .null]) E hw in_X2 tyX2 tyX2_ok q29 q30 q5 (ci := 4) rfl (fun j hj => by rcases (show j = 0 ∨ j = 1 ∨ j = 2 by omega) with rfl | rfl | rfl <;> rfl) (by show _ ≤ 1200132; omega) (by show _ ≤ 5501062; omega) dL_law_8 (fun ht H hw => ?_)
  have hw : Wd G A s [(hd, .inr (3, [.ref td, .int (nI 0), .ref od])), (td, .inl (G.2.1, 256, .inl (fun _ => 0))), (od, .inl (G.2.1, 0, .inl (fun _ => 0))), (ht, .inr (4, [.null, .int (nI 0), .null]))] H locs := hw
  refine W.cs (cells' := 4) (slots' := 262) rfl rfl ?_
  refine lv_dup E.1 E.2.1 dL_law_11 rfl ?_
  refine cl_v (wr := [(hd, .inr (3, [.ref td, .int (nI 0), .ref od])), (td, .inl (G.2.1, 256, .inl (fun _ => 0))), (od, .inl (G.2.1, 0, .inl (fun _ => 0)))]) (va_runI (As := []) (rest := [.ref ht]) E.fix (m_X2_init l G H.size ht) (cwI 0 E.hts (lw_meth q33) rfl rfl rfl (E.hts _ q5) (E.hts _ q31) (E.hts _ q32) rfl (by decide +kernel) ⟨Nat.le_of_ble_eq_true rfl, Nat.le_of_ble_eq_true rfl⟩) (preS_ok E hw [3] rfl (by decide)) rfl rfl hl.1 rfl (lv_room (Nat.le_of_ble_eq_true rfl)) dL_law_12 ⟨(by show _ ≤ 1200132; omega), (by show _ ≤ 5501062; omega)⟩) E hw [3] [0, 1, 2] rfl rfl (by decide) (by decide) (fun u H locs hp hw => ?_)
  have hw : Wd G A s [(hd, .inr (3, [.ref td, .int (nI 0), .ref od])), (td, .inl (G.2.1, 256, .inl (fun _ => 0))), (od, .inl (G.2.1, 0, .inl (fun _ => 0))), (ht, .inr (4, [.ref u.1, .int (nI 0), .ref u.2])), (u.1, .inl (G.2.2.1, 256, .inl (fun _ => 0))), (u.2, .inl (G.2.2.1, 0, .inl (fun _ => 0)))] H locs := hw
  refine W.cs (cells' := 6) (slots' := 518) rfl rfl ?_
  obtain ⟨tt, ot⟩ := u
  have hw : Wd G A s [(hd, .inr (3, [.ref td, .int (nI 0), .ref od])), (td, .inl (G.2.1, 256, .inl (fun _ => 0))), (od, .inl (G.2.1, 0, .inl (fun _ => 0))), (ht, .inr (4, [.ref tt, .int (nI 0), .ref ot])), (tt, .inl (G.2.2.1, 256, .inl (fun _ => 0))), (ot, .inl (G.2.2.1, 0, .inl (fun _ => 0)))] H locs := hw
  obtain ⟨tx, htx0⟩ : ∃ tx : Nat → Nat, tx = fun _ => 0 := ⟨_, rfl⟩
  have htx : ∀ j, tx j < 256 := fun j => by rw [htx0]; exact Nat.zero_lt_succ _
  have ho : ∀ j, tx j < 128 := fun j => by rw [htx0]; exact Nat.zero_lt_succ _
  have hw : Wd G A s [(hd, .inr (3, [.ref td, .int (nI 0), .ref od])), (td, .inl (G.2.1, 256, .inl (fun j => sb_b (tx j)))), (od, .inl (G.2.1, 0, .inl (fun _ => 0))), (ht, .inr (4, [.ref tt, .int (nI 0), .ref ot])), (tt, .inl (G.2.2.1, 256, .inl (fun _ => 0))), (ot, .inl (G.2.2.1, 0, .inl (fun _ => 0)))] H locs := hw.cong 1 rfl (fun j _ => congrFun (show (fun _ => 0) = (fun j => sb_b (tx j)) from (by rw [htx0]; exact funext (fun _ => sb_0.symm))) j) rfl
  have hw : Wd G A s [(hd, .inr (3, [.ref td, .int (nI 0), .ref od])), (td, .inl (G.2.1, 256, .inl (fun j => sb_b (tx j)))), (od, .inl (G.2.1, 0, .inl (fun j => nI (tx j)))), (ht, .inr (4, [.ref tt, .int (nI 0), .ref ot])), (tt, .inl (G.2.2.1, 256, .inl (fun _ => 0))), (ot, .inl (G.2.2.1, 0, .inl (fun _ => 0)))] H locs := hw.cong 2 rfl (fun j _ => congrFun (show (fun _ => 0) = (fun j => nI (tx j)) from (by rw [htx0]; exact funext (fun _ => nI_0.symm))) j) rfl
  have hw : Wd G A s [(hd, .inr (3, [.ref td, .int (nI 0), .ref od])), (td, .inl (G.2.1, 256, .inl (fun j => sb_b (tx j)))), (od, .inl (G.2.1, 0, .inl (fun j => nI (tx j)))), (ht, .inr (4, [.ref tt, .int (nI 0), .ref ot])), (tt, .inl (G.2.2.1, 256, .inl (fun j => nI (tx j)))), (ot, .inl (G.2.2.1, 0, .inl (fun _ => 0)))] H locs := hw.cong 4 rfl (fun j _ => congrFun (show (fun _ => 0) = (fun j => nI (tx j)) from (by rw [htx0]; exact funext (fun _ => nI_0.symm))) j) rfl
  have hw : Wd G A s [(hd, .inr (3, [.ref td, .int (nI 0), .ref od])), (td, .inl (G.2.1, 256, .inl (fun j => sb_b (tx j)))), (od, .inl (G.2.1, 0, .inl (fun j => nI (tx j)))), (ht, .inr (4, [.ref tt, .int (nI 0), .ref ot])), (tt, .inl (G.2.2.1, 256, .inl (fun j => nI (tx j)))), (ot, .inl (G.2.2.1, 0, .inl (fun j => nI (tx j))))] H locs := hw.cong 5 rfl (fun j _ => congrFun (show (fun _ => 0) = (fun j => nI (tx j)) from (by rw [htx0]; exact funext (fun _ => nI_0.symm))) j) rfl
  refine lv_astore_n (lv' := [(2, .ref ht), (1, .ref hd), (0, .ref b)]) E.1 E.2.1 dL_law_15 rfl hl (by decide) rfl (fun ls hl => ?_)
  refine lv_aload_n E.1 E.2.1 dL_law_16 rfl (lv_at hl 1 rfl) ?_
  refine lv_aload_n E.1 E.2.1 dL_law_17 rfl (lv_at hl 0 rfl) ?_
  refine lv_aload_n E.1 E.2.1 dL_law_18 rfl (lv_at hl 2 rfl) ?_
  refine lv_iconst (v := nI 0) E.1 E.2.1 dL_law_19 (by decide +kernel) ?_
  refine cl_cell E hw hX hbl hbA hL (i := 0) (by omega) hl.1 q48 (Nat.le_of_ble_eq_true rfl) (Nat.le_of_ble_eq_true rfl) (Nat.le_of_ble_eq_true rfl) (by show _ ≤ 1200132; omega) (by show _ ≤ 5501062; omega) dL_law_20 (fun r0 H locs hw => ?_)
  refine cl_i (wr := [(td, .inl (G.2.1, 256, .inl (fun j => sb_b (tx j)))), (tt, .inl (G.2.2.1, 256, .inl (fun j => nI (tx j))))]) (va_runS (As := [.ref hd, .ref ht, .int r0]) (rest := []) E.fix (m_X0_stand l G H.size hd td od ht tt ot 0 0 tx r0 ho (by decide)) (va_cwS 3 E.hts (lw_S q61 q62 q3 q63) rfl rfl rfl (by decide +kernel) ⟨Nat.le_of_ble_eq_true rfl, Nat.le_of_ble_eq_true rfl⟩) (preS_ok E hw [0, 2, 3, 5] rfl (by decide)) rfl rfl hl.1 rfl (lv_room (Nat.le_of_ble_eq_true rfl)) dL_law_23 ⟨(by show _ ≤ 1200132; omega), (by show _ ≤ 5501062; omega)⟩) E hw [0, 2, 3, 5] [1, 4] rfl rfl (by decide) (by decide) (fun r u H locs hp hw => ?_)
  subst hp
  have hw : Wd G A s [(td, .inl (G.2.1, 256, .inl (fun j => sb_b (tx j)))), (tt, .inl (G.2.2.1, 256, .inl (fun j => nI (tx j)))), (hd, .inr (3, [.ref td, .int (nI 0), .ref od])), (od, .inl (G.2.1, 0, .inl (fun j => nI (tx j)))), (ht, .inr (4, [.ref tt, .int (nI 0), .ref ot])), (ot, .inl (G.2.2.1, 0, .inl (fun j => nI (tx j))))] H locs := hw
  refine W.cs (cells' := 6) (slots' := 518) rfl rfl ?_
  refine n_if_ne (tgt := 31) E dL_law_26 (by decide) (by omega) (fun c_26 => ?_) (fun c_26 => ?_)
  · skip
    have loopB : ∀ (n : Nat) (q si : Nat) (tx : Nat → Nat) (ln : Nat) (o : Nat → Nat) (od ot : Nat), q ≤ 11 → 11 < q + n → si ≤ 256 → (∀ j, tx j < 256) → ln ≤ 1000 → (∀ j, o j < 128) → ∀ (H : Heap) (locs : List Loc), Wd G A s [(hd, .inr (3, [.ref td, .int (nI si), .ref od])), (td, .inl (G.2.1, 256, .inl (fun j => sb_b (tx j)))), (od, .inl (G.2.1, ln, .inl (fun j => nI (o j)))), (ht, .inr (4, [.ref tt, .int (nI si), .ref ot])), (tt, .inl (G.2.2.1, 256, .inl (fun j => nI (tx j)))), (ot, .inl (G.2.2.1, ln, .inl (fun j => nI (o j))))] H locs → ∀ (ls : Array Slot), lv_has ls 5 [(0, .ref b), (1, .ref hd), (2, .ref ht), (3, .int (nI (6 * q)))] → W p l e room_1 s m #[Value.ref b] below meth c H locs (6 + 11 * q) (518 + 1640 * q) (lw_Z below #[Value.ref b] s) (F0 m 122 ls []) := by
      intro n
      induction n with
      | zero =>
        intro q si tx ln o od ot hq hn hsi htx hln ho
        omega
      | succ n ih =>
        intro q si tx ln o od ot hq hn hsi htx hln ho H locs hw ls hl
        refine lv_iload_n E.1 E.2.1 dL_law_122 rfl (lv_at hl 3 rfl) ?_
        refine lv_bipush (v := nI 66) E.1 E.2.1 dL_law_123 (by decide +kernel) ?_
        refine n_icmp_ge (tgt := 184) E dL_law_125 (by decide) (by omega) (by omega) (fun c_125 => ?_) (fun c_125 => ?_)
        · skip
          have hq2 : q = 11 := by omega
          subst hq2
          refine W.widen (k := 127) (n := 18558) (by omega) (by omega) ?_
          have loopO : ∀ (n : Nat) (k : Nat) (ln : Nat) (o : Nat → Nat) (od ot : Nat), k ≤ 3 → 3 < k + n → ln ≤ 1000 → (∀ j, o j < 128) → ∀ (H : Heap) (locs : List Loc), Wd G A s [(hd, .inr (3, [.ref td, .int (nI si), .ref od])), (td, .inl (G.2.1, 256, .inl (fun j => sb_b (tx j)))), (od, .inl (G.2.1, ln, .inl (fun j => nI (o j)))), (ht, .inr (4, [.ref tt, .int (nI si), .ref ot])), (tt, .inl (G.2.2.1, 256, .inl (fun j => nI (tx j)))), (ot, .inl (G.2.2.1, ln, .inl (fun j => nI (o j))))] H locs → ∀ (ls : Array Slot), lv_has ls 5 [(0, .ref b), (1, .ref hd), (2, .ref ht), (3, .int (nI k))] → W p l e room_1 s m #[Value.ref b] below meth c H locs (127 + 48 * k) (18558 + 8640 * k) (lw_Z below #[Value.ref b] s) (F0 m 186 ls []) := by
            intro n
            induction n with
            | zero =>
              intro k ln o od ot hk hnO hln ho
              omega
            | succ n ihO =>
              intro k ln o od ot hk hnO hln ho H locs hw ls hl
              refine lv_iload_n E.1 E.2.1 dL_law_186 rfl (lv_at hl 3 rfl) ?_
              refine lv_iconst (v := nI 3) E.1 E.2.1 dL_law_187 (by decide +kernel) ?_
              refine n_icmp_ge (tgt := 241) E dL_law_188 (by decide) (by omega) (by omega) (fun c_188 => ?_) (fun c_188 => ?_)
              · skip
                refine lv_iconst (v := nI 1) E.1 E.2.1 dL_law_241 (by decide +kernel) ?_
                refine tv (y := 1) (by decide +kernel) ?_
                refine va_forget (fun q hq => by have h := hw.2.2.2.2 q hq; rw [hAe] at h; exact h) ?_
                refine W.widen (k := 1200132) (n := 5501062) (by omega) (by omega) ?_
                exact lw_ret hx hb hr hlocks dL_law_242
              · skip
                have loopI : ∀ (n : Nat) (le : Nat) (ln : Nat) (o : Nat → Nat) (od ot : Nat), le ≤ 6 → 6 < le + n → ln ≤ 1000 → (∀ j, o j < 128) → ∀ (H : Heap) (locs : List Loc), Wd G A s [(hd, .inr (3, [.ref td, .int (nI si), .ref od])), (td, .inl (G.2.1, 256, .inl (fun j => sb_b (tx j)))), (od, .inl (G.2.1, ln, .inl (fun j => nI (o j)))), (ht, .inr (4, [.ref tt, .int (nI si), .ref ot])), (tt, .inl (G.2.2.1, 256, .inl (fun j => nI (tx j)))), (ot, .inl (G.2.2.1, ln, .inl (fun j => nI (o j))))] H locs → ∀ (ls : Array Slot), lv_has ls 5 [(0, .ref b), (1, .ref hd), (2, .ref ht), (3, .int (nI k)), (4, .int (nI le))] → W p l e room_1 s m #[Value.ref b] below meth c H locs (127 + 48 * k + 8 * le) (18558 + 8640 * k + 1440 * le) (lw_Z below #[Value.ref b] s) (F0 m 194 ls []) := by
                  intro n
                  induction n with
                  | zero =>
                    intro le ln o od ot hle hn hln ho
                    omega
                  | succ n ih =>
                    intro le ln o od ot hle hn hln ho H locs hw ls hl
                    refine lv_iload E.1 E.2.1 dL_law_194 (lv_at hl 4 rfl) ?_
                    refine lv_bipush (v := nI 6) E.1 E.2.1 dL_law_196 (by decide +kernel) ?_
                    refine n_icmp_ge (tgt := 235) E dL_law_198 (by decide) (by omega) (by omega) (fun c_198 => ?_) (fun c_198 => ?_)
                    · skip
                      refine W.widen (k := 127 + 48 * (k + 1)) (n := 18558 + 8640 * (k + 1)) (by omega) (by omega) ?_
                      refine n_iinc (n := 1) (d := k + 1) (lv' := [(3, .int (nI (k + 1))), (0, .ref b), (1, .ref hd), (2, .ref ht), (4, .int (nI le))]) E dL_law_235 hl (k := 3) rfl (by omega) (by decide) rfl (fun ls hl => ?_)
                      refine lv_goto (tgt := 186) E.1 E.2.1 dL_law_238 (by decide) ?_
                      exact ihO (k + 1) ln o od ot (by omega) (by omega) hln ho H locs (hw.sub [0, 1, 2, 3, 4, 5] (by decide) rfl) ls (lv_sub hl [1, 2, 3, 0] rfl)
                    · skip
                      refine lv_iload E.1 E.2.1 dL_law_201 (lv_at hl 4 rfl) ?_
                      refine lv_aload_n E.1 E.2.1 dL_law_203 rfl (lv_at hl 2 rfl) ?_
                      refine gf (v := .int (nI si)) E hw in_X2 (ci := 4) rfl 3 rfl 1 (by decide) q37 rfl dL_law_204 ?_
                      refine n_icmp_gt (tgt := 235) E dL_law_207 (by decide) (by omega) (by omega) (fun c_207 => ?_) (fun c_207 => ?_)
                      · skip
                        refine W.widen (k := 127 + 48 * (k + 1)) (n := 18558 + 8640 * (k + 1)) (by omega) (by omega) ?_
                        refine n_iinc (n := 1) (d := k + 1) (lv' := [(3, .int (nI (k + 1))), (0, .ref b), (1, .ref hd), (2, .ref ht), (4, .int (nI le))]) E dL_law_235 hl (k := 3) rfl (by omega) (by decide) rfl (fun ls hl => ?_)
                        refine lv_goto (tgt := 186) E.1 E.2.1 dL_law_238 (by decide) ?_
                        exact ihO (k + 1) ln o od ot (by omega) (by omega) hln ho H locs (hw.sub [0, 1, 2, 3, 4, 5] (by decide) rfl) ls (lv_sub hl [1, 2, 3, 0] rfl)
                      · skip
                        refine lv_aload_n E.1 E.2.1 dL_law_210 rfl (lv_at hl 1 rfl) ?_
                        refine lv_aload_n E.1 E.2.1 dL_law_211 rfl (lv_at hl 2 rfl) ?_
                        refine lv_iload_n E.1 E.2.1 dL_law_212 rfl (lv_at hl 3 rfl) ?_
                        refine lv_iconst (v := nI 0) E.1 E.2.1 dL_law_213 (by decide +kernel) ?_
                        refine lv_aload_n E.1 E.2.1 dL_law_214 rfl (lv_at hl 2 rfl) ?_
                        refine gf (v := .int (nI si)) E hw in_X2 (ci := 4) rfl 3 rfl 1 (by decide) q37 rfl dL_law_215 ?_
                        refine lv_iload E.1 E.2.1 dL_law_218 (lv_at hl 4 rfl) ?_
                        refine n_isub (d := si - le) E dL_law_220 (by omega) ?_
                        refine cl_i (wr := []) (va_runS (As := [.ref hd, .ref ht, .int (nI k), .int (nI 0), .int (nI (si - le))]) (rest := []) E.fix (m_X0_write l G H.size hd td od ht tt ot si ln _ _ _ tx o (nI k) (nI 0) (nI (si - le)) htx hsi rfl rfl rfl) (va_cwS 5 E.hts (lw_S q83 q84 q3 q85) rfl rfl rfl (by decide +kernel) ⟨Nat.le_of_ble_eq_true rfl, Nat.le_of_ble_eq_true rfl⟩) (preS_ok E hw [0, 1, 2, 3, 4, 5] rfl (by decide)) rfl rfl hl.1 rfl (lv_room (Nat.le_of_ble_eq_true rfl)) dL_law_221 ⟨(by show _ ≤ 1200132; omega), (by show _ ≤ 5501062; omega)⟩) E hw [0, 1, 2, 3, 4, 5] [] rfl rfl (by decide) (by decide) (fun r u H locs hp hw => ?_)
                        obtain ⟨hp, hln2⟩ := hp
                        subst hp
                        have hw : Wd G A s [(hd, .inr (3, [.ref td, .int (nI si), .ref u.1])), (td, .inl (G.2.1, 256, .inl (fun j => sb_b (tx j)))), (u.1, .inl (G.2.1, rmN (md (nI k) 3) (md (nI (si - le)) (si - md (nI 0) (si + 1) + 1)), .inl (fun j => nI ((letN tx (md (nI k) 3) (md (nI 0) (si + 1)) (md (nI (si - le)) (si - md (nI 0) (si + 1) + 1))) j)))), (ht, .inr (4, [.ref tt, .int (nI si), .ref u.2])), (tt, .inl (G.2.2.1, 256, .inl (fun j => nI (tx j)))), (u.2, .inl (G.2.2.1, rmN (md (nI k) 3) (md (nI (si - le)) (si - md (nI 0) (si + 1) + 1)), .inl (fun j => nI ((letN tx (md (nI k) 3) (md (nI 0) (si + 1)) (md (nI (si - le)) (si - md (nI 0) (si + 1) + 1))) j))))] H locs := hw
                        obtain ⟨od2, ot2⟩ := u
                        have ho2 : ∀ j, (letN tx (md (nI k) 3) (md (nI 0) (si + 1)) (md (nI (si - le)) (si - md (nI 0) (si + 1) + 1))) j < 128 := letN_lt tx _ _ _
                        generalize rmN (md (nI k) 3) (md (nI (si - le)) (si - md (nI 0) (si + 1) + 1)) = ln2 at hln2 hw
                        generalize letN tx (md (nI k) 3) (md (nI 0) (si + 1)) (md (nI (si - le)) (si - md (nI 0) (si + 1) + 1)) = o2 at ho2 hw
                        have hw : Wd G A s [(hd, .inr (3, [.ref td, .int (nI si), .ref od2])), (td, .inl (G.2.1, 256, .inl (fun j => sb_b (tx j)))), (od2, .inl (G.2.1, ln2, .inl (fun j => nI (o2 j)))), (ht, .inr (4, [.ref tt, .int (nI si), .ref ot2])), (tt, .inl (G.2.2.1, 256, .inl (fun j => nI (tx j)))), (ot2, .inl (G.2.2.1, ln2, .inl (fun j => nI (o2 j))))] H locs := hw
                        refine n_if_ne (tgt := 229) E dL_law_224 (by decide) (by omega) (fun c_224 => ?_) (fun c_224 => ?_)
                        · skip
                          refine W.widen (k := 127 + 48 * k + 8 * (le + 1)) (n := 18558 + 8640 * k + 1440 * (le + 1)) (by omega) (by omega) ?_
                          refine n_iinc (n := 1) (d := le + 1) (lv' := [(4, .int (nI (le + 1))), (0, .ref b), (1, .ref hd), (2, .ref ht), (3, .int (nI k))]) E dL_law_229 hl (k := 4) rfl (by omega) (by decide) rfl (fun ls hl => ?_)
                          refine lv_goto (tgt := 194) E.1 E.2.1 dL_law_232 (by decide) ?_
                          exact ih (le + 1) ln2 o2 od2 ot2 (by omega) (by omega) hln2 ho2 H locs (hw.sub [0, 1, 2, 3, 4, 5] (by decide) rfl) ls (lv_sub hl [1, 2, 3, 4, 0] rfl)
                        · skip
                          exact absurd c_224 (by decide)
                refine lv_iconst (v := nI 0) E.1 E.2.1 dL_law_191 (by decide +kernel) ?_
                refine lv_istore (lv' := [(4, .int (nI 0)), (0, .ref b), (1, .ref hd), (2, .ref ht), (3, .int (nI k))]) E.1 E.2.1 dL_law_192 hl (by decide) rfl (fun ls hl => ?_)
                exact loopI 7 0 ln o od ot (by omega) (by omega) hln ho H locs (hw.sub [0, 1, 2, 3, 4, 5] (by decide) rfl) ls (lv_sub hl [1, 2, 3, 4, 0] rfl)
          refine lv_iconst (v := nI 0) E.1 E.2.1 dL_law_184 (by decide +kernel) ?_
          refine lv_istore_n (lv' := [(3, .int (nI 0)), (0, .ref b), (1, .ref hd), (2, .ref ht)]) E.1 E.2.1 dL_law_185 rfl hl (by decide) rfl (fun ls hl => ?_)
          exact loopO 4 0 ln o od ot (by omega) (by omega) hln ho H locs (hw.sub [0, 1, 2, 3, 4, 5] (by decide) rfl) ls (lv_sub hl [1, 2, 3, 0] rfl)
        · skip
          refine lv_aload_n E.1 E.2.1 dL_law_128 rfl (lv_at hl 1 rfl) ?_
          refine lv_aload_n E.1 E.2.1 dL_law_129 rfl (lv_at hl 2 rfl) ?_
          refine lv_aload_n E.1 E.2.1 dL_law_130 rfl (lv_at hl 0 rfl) ?_
          refine lv_iload_n E.1 E.2.1 dL_law_131 rfl (lv_at hl 3 rfl) ?_
          refine cl_cell E hw hX hbl hbA hL (i := 6 * q) (by omega) hl.1 q48 (Nat.le_of_ble_eq_true rfl) (Nat.le_of_ble_eq_true rfl) (Nat.le_of_ble_eq_true rfl) (by show _ ≤ 1200132; omega) (by show _ ≤ 5501062; omega) dL_law_132 (fun r1 H locs hw => ?_)
          refine lv_aload_n E.1 E.2.1 dL_law_135 rfl (lv_at hl 0 rfl) ?_
          refine lv_iload_n E.1 E.2.1 dL_law_136 rfl (lv_at hl 3 rfl) ?_
          refine lv_iconst (v := nI 1) E.1 E.2.1 dL_law_137 (by decide +kernel) ?_
          refine n_iadd (d := 6 * q + 1) E dL_law_138 rfl ?_
          refine cl_cell E hw hX hbl hbA hL (i := 6 * q + 1) (by omega) hl.1 q48 (Nat.le_of_ble_eq_true rfl) (Nat.le_of_ble_eq_true rfl) (Nat.le_of_ble_eq_true rfl) (by show _ ≤ 1200132; omega) (by show _ ≤ 5501062; omega) dL_law_139 (fun r2 H locs hw => ?_)
          refine lv_aload_n E.1 E.2.1 dL_law_142 rfl (lv_at hl 0 rfl) ?_
          refine lv_iload_n E.1 E.2.1 dL_law_143 rfl (lv_at hl 3 rfl) ?_
          refine lv_iconst (v := nI 2) E.1 E.2.1 dL_law_144 (by decide +kernel) ?_
          refine n_iadd (d := 6 * q + 2) E dL_law_145 rfl ?_
          refine cl_cell E hw hX hbl hbA hL (i := 6 * q + 2) (by omega) hl.1 q48 (Nat.le_of_ble_eq_true rfl) (Nat.le_of_ble_eq_true rfl) (Nat.le_of_ble_eq_true rfl) (by show _ ≤ 1200132; omega) (by show _ ≤ 5501062; omega) dL_law_146 (fun r3 H locs hw => ?_)
          refine lv_aload_n E.1 E.2.1 dL_law_149 rfl (lv_at hl 0 rfl) ?_
          refine lv_iload_n E.1 E.2.1 dL_law_150 rfl (lv_at hl 3 rfl) ?_
          refine lv_iconst (v := nI 3) E.1 E.2.1 dL_law_151 (by decide +kernel) ?_
          refine n_iadd (d := 6 * q + 3) E dL_law_152 rfl ?_
          refine cl_cell E hw hX hbl hbA hL (i := 6 * q + 3) (by omega) hl.1 q48 (Nat.le_of_ble_eq_true rfl) (Nat.le_of_ble_eq_true rfl) (Nat.le_of_ble_eq_true rfl) (by show _ ≤ 1200132; omega) (by show _ ≤ 5501062; omega) dL_law_153 (fun r4 H locs hw => ?_)
          refine lv_aload_n E.1 E.2.1 dL_law_156 rfl (lv_at hl 0 rfl) ?_
          refine lv_iload_n E.1 E.2.1 dL_law_157 rfl (lv_at hl 3 rfl) ?_
          refine lv_iconst (v := nI 4) E.1 E.2.1 dL_law_158 (by decide +kernel) ?_
          refine n_iadd (d := 6 * q + 4) E dL_law_159 rfl ?_
          refine cl_cell E hw hX hbl hbA hL (i := 6 * q + 4) (by omega) hl.1 q48 (Nat.le_of_ble_eq_true rfl) (Nat.le_of_ble_eq_true rfl) (Nat.le_of_ble_eq_true rfl) (by show _ ≤ 1200132; omega) (by show _ ≤ 5501062; omega) dL_law_160 (fun r5 H locs hw => ?_)
          refine lv_aload_n E.1 E.2.1 dL_law_163 rfl (lv_at hl 0 rfl) ?_
          refine lv_iload_n E.1 E.2.1 dL_law_164 rfl (lv_at hl 3 rfl) ?_
          refine lv_iconst (v := nI 5) E.1 E.2.1 dL_law_165 (by decide +kernel) ?_
          refine n_iadd (d := 6 * q + 5) E dL_law_166 rfl ?_
          refine cl_cell E hw hX hbl hbA hL (i := 6 * q + 5) (by omega) hl.1 q48 (Nat.le_of_ble_eq_true rfl) (Nat.le_of_ble_eq_true rfl) (Nat.le_of_ble_eq_true rfl) (by show _ ≤ 1200132; omega) (by show _ ≤ 5501062; omega) dL_law_167 (fun r6 H locs hw => ?_)
          refine cl_i (wr := []) (va_runS (As := [.ref hd, .ref ht, .int r1, .int r2, .int r3, .int r4, .int r5, .int r6]) (rest := []) E.fix (m_X0_turn l G H.size hd td od ht tt ot si ln tx o r1 r2 r3 r4 r5 r6 htx hsi ho hln) (va_cwS 8 E.hts (lw_S q209 q210 q3 q211) rfl rfl rfl (by decide +kernel) ⟨Nat.le_of_ble_eq_true rfl, Nat.le_of_ble_eq_true rfl⟩) (preS_ok E hw [0, 1, 2, 3, 4, 5] rfl (by decide)) rfl rfl hl.1 rfl (lv_room (Nat.le_of_ble_eq_true rfl)) dL_law_170 ⟨(by show _ ≤ 1200132; omega), (by show _ ≤ 5501062; omega)⟩) E hw [0, 1, 2, 3, 4, 5] [] rfl rfl (by decide) (by decide) (fun r u H locs hp hw => ?_)
          have hw : Wd G A s [(hd, .inr (3, [.ref td, .int (nI u.2.1), .ref u.1.1])), (td, .inl (G.2.1, 256, .inl (fun j => sb_b (u.2.2.1 j)))), (u.1.1, .inl (G.2.1, u.2.2.2.1, .inl (fun j => nI (u.2.2.2.2 j)))), (ht, .inr (4, [.ref tt, .int (nI u.2.1), .ref u.1.2])), (tt, .inl (G.2.2.1, 256, .inl (fun j => nI (u.2.2.1 j)))), (u.1.2, .inl (G.2.2.1, u.2.2.2.1, .inl (fun j => nI (u.2.2.2.2 j))))] H locs := hw
          obtain ⟨⟨od2, ot2⟩, si2, tx2, ln2, o2⟩ := u
          obtain ⟨hp, hs2, ht2, hl2, ho2⟩ := hp
          have hs2 : si2 ≤ 256 := hs2
          have ht2 : ∀ j, tx2 j < 256 := ht2
          have hl2 : ln2 ≤ 1000 := hl2
          have ho2 : ∀ j, o2 j < 128 := ho2
          subst hp
          have hw : Wd G A s [(hd, .inr (3, [.ref td, .int (nI si2), .ref od2])), (td, .inl (G.2.1, 256, .inl (fun j => sb_b (tx2 j)))), (od2, .inl (G.2.1, ln2, .inl (fun j => nI (o2 j)))), (ht, .inr (4, [.ref tt, .int (nI si2), .ref ot2])), (tt, .inl (G.2.2.1, 256, .inl (fun j => nI (tx2 j)))), (ot2, .inl (G.2.2.1, ln2, .inl (fun j => nI (o2 j))))] H locs := hw
          refine n_if_ne (tgt := 178) E dL_law_173 (by decide) (by omega) (fun c_173 => ?_) (fun c_173 => ?_)
          · skip
            refine W.widen (k := 6 + 11 * (q + 1)) (n := 518 + 1640 * (q + 1)) (by omega) (by omega) ?_
            refine n_iinc (n := 6) (d := 6 * (q + 1)) (lv' := [(3, .int (nI (6 * (q + 1)))), (0, .ref b), (1, .ref hd), (2, .ref ht)]) E dL_law_178 hl (k := 3) rfl (by omega) (by decide) rfl (fun ls hl => ?_)
            refine lv_goto (tgt := 122) E.1 E.2.1 dL_law_181 (by decide) ?_
            exact ih (q + 1) si2 tx2 ln2 o2 od2 ot2 (by omega) (by omega) hs2 ht2 hl2 ho2 H locs (hw.sub [0, 1, 2, 3, 4, 5] (by decide) rfl) ls (lv_sub hl [1, 2, 3, 0] rfl)
          · skip
            exact absurd c_173 (by decide)
    obtain ⟨o, ho0⟩ : ∃ o : Nat → Nat, o = tx := ⟨_, rfl⟩
    rw [← ho0] at ho
    have hw : Wd G A s [(td, .inl (G.2.1, 256, .inl (fun j => sb_b (tx j)))), (tt, .inl (G.2.2.1, 256, .inl (fun j => nI (tx j)))), (hd, .inr (3, [.ref td, .int (nI 0), .ref od])), (od, .inl (G.2.1, 0, .inl (fun j => nI (o j)))), (ht, .inr (4, [.ref tt, .int (nI 0), .ref ot])), (ot, .inl (G.2.2.1, 0, .inl (fun j => nI (tx j))))] H locs := hw.cong 3 rfl (fun j _ => congrFun (show (fun j => nI (tx j)) = (fun j => nI (o j)) from (by rw [ho0])) j) rfl
    have hw : Wd G A s [(td, .inl (G.2.1, 256, .inl (fun j => sb_b (tx j)))), (tt, .inl (G.2.2.1, 256, .inl (fun j => nI (tx j)))), (hd, .inr (3, [.ref td, .int (nI 0), .ref od])), (od, .inl (G.2.1, 0, .inl (fun j => nI (o j)))), (ht, .inr (4, [.ref tt, .int (nI 0), .ref ot])), (ot, .inl (G.2.2.1, 0, .inl (fun j => nI (o j))))] H locs := hw.cong 5 rfl (fun j _ => congrFun (show (fun j => nI (tx j)) = (fun j => nI (o j)) from (by rw [ho0])) j) rfl
    have loopA : ∀ (n : Nat) (i : Nat) (tx : Nat → Nat), i ≤ 16 → 16 < i + n → (∀ j, tx j < 256) → ∀ (H : Heap) (locs : List Loc), Wd G A s [(hd, .inr (3, [.ref td, .int (nI (16 * i)), .ref od])), (td, .inl (G.2.1, 256, .inl (fun j => sb_b (tx j)))), (od, .inl (G.2.1, 0, .inl (fun j => nI (o j)))), (ht, .inr (4, [.ref tt, .int (nI (16 * i)), .ref ot])), (tt, .inl (G.2.2.1, 256, .inl (fun j => nI (tx j)))), (ot, .inl (G.2.2.1, 0, .inl (fun j => nI (o j))))] H locs → ∀ (ls : Array Slot), lv_has ls 5 [(0, .ref b), (1, .ref hd), (2, .ref ht), (3, .int (nI i))] → W p l e room_1 s m #[Value.ref b] below meth c H locs 6 518 (lw_Z below #[Value.ref b] s) (F0 m 33 ls []) := by
      intro n
      induction n with
      | zero =>
        intro i tx hi hn htx
        omega
      | succ n ih =>
        intro i tx hi hn htx H locs hw ls hl
        refine lv_iload_n E.1 E.2.1 dL_law_33 rfl (lv_at hl 3 rfl) ?_
        refine lv_bipush (v := nI 16) E.1 E.2.1 dL_law_34 (by decide +kernel) ?_
        refine n_icmp_ge (tgt := 96) E dL_law_36 (by decide) (by omega) (by omega) (fun c_36 => ?_) (fun c_36 => ?_)
        · skip
          have hi2 : i = 16 := by omega
          subst hi2
          refine lv_aload_n E.1 E.2.1 dL_law_96 rfl (lv_at hl 1 rfl) ?_
          refine lv_aload_n E.1 E.2.1 dL_law_97 rfl (lv_at hl 2 rfl) ?_
          refine lv_iconst (v := nI 1) E.1 E.2.1 dL_law_98 (by decide +kernel) ?_
          refine lv_iconst (v := nI 2) E.1 E.2.1 dL_law_99 (by decide +kernel) ?_
          refine lv_iconst (v := nI 3) E.1 E.2.1 dL_law_100 (by decide +kernel) ?_
          refine lv_iconst (v := nI 4) E.1 E.2.1 dL_law_101 (by decide +kernel) ?_
          refine cl_i (wr := [(od, .inl (G.2.1, 0, .inl (fun j => nI (o j)))), (ot, .inl (G.2.2.1, 0, .inl (fun j => nI (o j))))]) (va_runS (As := [.ref hd, .ref ht, .int (nI 1), .int (nI 2), .int (nI 3), .int (nI 4)]) (rest := []) E.fix (m_X0_put l G H.size hd td od ht tt ot (16 * 16) tx (nI 1) (nI 2) (nI 3) (nI 4) (by decide)) (va_cwS 6 E.hts (lw_S q51 q52 q3 q53) rfl rfl rfl (by decide +kernel) ⟨Nat.le_of_ble_eq_true rfl, Nat.le_of_ble_eq_true rfl⟩) (preS_ok E hw [0, 1, 3, 4] rfl (by decide)) rfl rfl hl.1 rfl (lv_room (Nat.le_of_ble_eq_true rfl)) dL_law_102 ⟨(by show _ ≤ 1200132; omega), (by show _ ≤ 5501062; omega)⟩) E hw [0, 1, 3, 4] [2, 5] rfl rfl (by decide) (by decide) (fun r u H locs hp hw => ?_)
          subst hp
          have hw : Wd G A s [(od, .inl (G.2.1, 0, .inl (fun j => nI (o j)))), (ot, .inl (G.2.2.1, 0, .inl (fun j => nI (o j)))), (hd, .inr (3, [.ref td, .int (nI (pSi (16 * 16))), .ref od])), (td, .inl (G.2.1, 256, .inl (fun j => sb_b ((pTx (16 * 16) tx (nI 1) (nI 2) (nI 3) (nI 4)) j)))), (ht, .inr (4, [.ref tt, .int (nI (pSi (16 * 16))), .ref ot])), (tt, .inl (G.2.2.1, 256, .inl (fun j => nI ((pTx (16 * 16) tx (nI 1) (nI 2) (nI 3) (nI 4)) j))))] H locs := hw
          refine W.cs (cells' := 6) (slots' := 518) rfl rfl ?_
          have htx2 : ∀ j, (pTx (16 * 16) tx (nI 1) (nI 2) (nI 3) (nI 4)) j < 256 := pTx_lt htx
          generalize pTx (16 * 16) tx (nI 1) (nI 2) (nI 3) (nI 4) = tx2 at htx2 hw
          rw [show pSi (16 * 16) = 256 from rfl] at hw
          have hw : Wd G A s [(od, .inl (G.2.1, 0, .inl (fun j => nI (o j)))), (ot, .inl (G.2.2.1, 0, .inl (fun j => nI (o j)))), (hd, .inr (3, [.ref td, .int (nI 256), .ref od])), (td, .inl (G.2.1, 256, .inl (fun j => sb_b (tx2 j)))), (ht, .inr (4, [.ref tt, .int (nI 256), .ref ot])), (tt, .inl (G.2.2.1, 256, .inl (fun j => nI (tx2 j))))] H locs := hw
          refine n_if_eq (tgt := 118) E dL_law_105 (by decide) (by omega) (fun c_105 => ?_) (fun c_105 => ?_)
          · skip
            exact absurd c_105 (by decide)
          · skip
            refine lv_aload_n E.1 E.2.1 dL_law_108 rfl (lv_at hl 2 rfl) ?_
            refine gf (v := .int (nI 256)) E hw in_X2 (ci := 4) rfl 4 rfl 1 (by decide) q37 rfl dL_law_109 ?_
            refine lv_sipush (v := nI 256) E.1 E.2.1 dL_law_112 (by decide +kernel) ?_
            refine n_icmp_eq (tgt := 120) E dL_law_115 (by decide) (by omega) (by omega) (fun c_115 => ?_) (fun c_115 => ?_)
            · skip
              refine lv_iconst (v := nI 0) E.1 E.2.1 dL_law_120 (by decide +kernel) ?_
              refine lv_istore_n (lv' := [(3, .int (nI 0)), (0, .ref b), (1, .ref hd), (2, .ref ht)]) E.1 E.2.1 dL_law_121 rfl hl (by decide) rfl (fun ls hl => ?_)
              exact loopB 12 0 256 tx2 0 o od ot (by omega) (by omega) (by decide) htx2 (by decide) ho H locs (hw.sub [2, 3, 0, 4, 5, 1] (by decide) rfl) ls (lv_sub hl [1, 2, 3, 0] rfl)
            · skip
              exact absurd rfl c_115
        · skip
          refine lv_aload_n E.1 E.2.1 dL_law_39 rfl (lv_at hl 1 rfl) ?_
          refine lv_aload_n E.1 E.2.1 dL_law_40 rfl (lv_at hl 2 rfl) ?_
          refine lv_aload_n E.1 E.2.1 dL_law_41 rfl (lv_at hl 0 rfl) ?_
          refine lv_iload_n E.1 E.2.1 dL_law_42 rfl (lv_at hl 3 rfl) ?_
          refine cl_cell E hw hX hbl hbA hL (i := i) (by omega) hl.1 q48 (Nat.le_of_ble_eq_true rfl) (Nat.le_of_ble_eq_true rfl) (Nat.le_of_ble_eq_true rfl) (by show _ ≤ 1200132; omega) (by show _ ≤ 5501062; omega) dL_law_43 (fun r1 H locs hw => ?_)
          refine lv_aload_n E.1 E.2.1 dL_law_46 rfl (lv_at hl 0 rfl) ?_
          refine lv_iload_n E.1 E.2.1 dL_law_47 rfl (lv_at hl 3 rfl) ?_
          refine lv_bipush (v := nI 16) E.1 E.2.1 dL_law_48 (by decide +kernel) ?_
          refine n_iadd (d := i + 16) E dL_law_50 rfl ?_
          refine cl_cell E hw hX hbl hbA hL (i := i + 16) (by omega) hl.1 q48 (Nat.le_of_ble_eq_true rfl) (Nat.le_of_ble_eq_true rfl) (Nat.le_of_ble_eq_true rfl) (by show _ ≤ 1200132; omega) (by show _ ≤ 5501062; omega) dL_law_51 (fun r2 H locs hw => ?_)
          refine lv_iload_n E.1 E.2.1 dL_law_54 rfl (lv_at hl 3 rfl) ?_
          refine lv_ldc (v := -1640531527) E.1 E.2.1 E.2.2.2.1 (E.hts _ q217) dL_law_55 ?_
          refine lv_imul E.1 E.2.1 dL_law_57 ?_
          refine lv_iadd E.1 E.2.1 dL_law_58 ?_
          refine lv_aload_n E.1 E.2.1 dL_law_59 rfl (lv_at hl 0 rfl) ?_
          refine lv_iload_n E.1 E.2.1 dL_law_60 rfl (lv_at hl 3 rfl) ?_
          refine lv_bipush (v := nI 32) E.1 E.2.1 dL_law_61 (by decide +kernel) ?_
          refine n_iadd (d := i + 32) E dL_law_63 rfl ?_
          refine cl_cell E hw hX hbl hbA hL (i := i + 32) (by omega) hl.1 q48 (Nat.le_of_ble_eq_true rfl) (Nat.le_of_ble_eq_true rfl) (Nat.le_of_ble_eq_true rfl) (by show _ ≤ 1200132; omega) (by show _ ≤ 5501062; omega) dL_law_64 (fun r3 H locs hw => ?_)
          refine lv_iload_n E.1 E.2.1 dL_law_67 rfl (lv_at hl 3 rfl) ?_
          refine lv_bipush (v := nI 28) E.1 E.2.1 dL_law_68 (by decide +kernel) ?_
          refine lv_ishl E.1 E.2.1 dL_law_70 ?_
          refine lv_ixor E.1 E.2.1 dL_law_71 ?_
          refine lv_aload_n E.1 E.2.1 dL_law_72 rfl (lv_at hl 0 rfl) ?_
          refine lv_iload_n E.1 E.2.1 dL_law_73 rfl (lv_at hl 3 rfl) ?_
          refine lv_bipush (v := nI 48) E.1 E.2.1 dL_law_74 (by decide +kernel) ?_
          refine n_iadd (d := i + 48) E dL_law_76 rfl ?_
          refine cl_cell E hw hX hbl hbA hL (i := i + 48) (by omega) hl.1 q48 (Nat.le_of_ble_eq_true rfl) (Nat.le_of_ble_eq_true rfl) (Nat.le_of_ble_eq_true rfl) (by show _ ≤ 1200132; omega) (by show _ ≤ 5501062; omega) dL_law_77 (fun r4 H locs hw => ?_)
          refine lv_iload_n E.1 E.2.1 dL_law_80 rfl (lv_at hl 3 rfl) ?_
          refine lv_isub E.1 E.2.1 dL_law_81 ?_
          refine cl_i (wr := [(od, .inl (G.2.1, 0, .inl (fun j => nI (o j)))), (ot, .inl (G.2.2.1, 0, .inl (fun j => nI (o j))))]) (va_runS (As := [.ref hd, .ref ht, .int r1, .int (r2 + ((nI i) * (-1640531527))), .int (r3 ^^^ ((nI i) <<< ((nI 28) &&& 31))), .int (r4 - (nI i))]) (rest := []) E.fix (m_X0_put l G H.size hd td od ht tt ot (16 * i) tx r1 (r2 + ((nI i) * (-1640531527))) (r3 ^^^ ((nI i) <<< ((nI 28) &&& 31))) (r4 - (nI i)) (by omega)) (va_cwS 6 E.hts (lw_S q51 q52 q3 q53) rfl rfl rfl (by decide +kernel) ⟨Nat.le_of_ble_eq_true rfl, Nat.le_of_ble_eq_true rfl⟩) (preS_ok E hw [0, 1, 3, 4] rfl (by decide)) rfl rfl hl.1 rfl (lv_room (Nat.le_of_ble_eq_true rfl)) dL_law_82 ⟨(by show _ ≤ 1200132; omega), (by show _ ≤ 5501062; omega)⟩) E hw [0, 1, 3, 4] [2, 5] rfl rfl (by decide) (by decide) (fun r u H locs hp hw => ?_)
          subst hp
          have hw : Wd G A s [(od, .inl (G.2.1, 0, .inl (fun j => nI (o j)))), (ot, .inl (G.2.2.1, 0, .inl (fun j => nI (o j)))), (hd, .inr (3, [.ref td, .int (nI (pSi (16 * i))), .ref od])), (td, .inl (G.2.1, 256, .inl (fun j => sb_b ((pTx (16 * i) tx r1 (r2 + ((nI i) * (-1640531527))) (r3 ^^^ ((nI i) <<< ((nI 28) &&& 31))) (r4 - (nI i))) j)))), (ht, .inr (4, [.ref tt, .int (nI (pSi (16 * i))), .ref ot])), (tt, .inl (G.2.2.1, 256, .inl (fun j => nI ((pTx (16 * i) tx r1 (r2 + ((nI i) * (-1640531527))) (r3 ^^^ ((nI i) <<< ((nI 28) &&& 31))) (r4 - (nI i))) j))))] H locs := hw
          refine W.cs (cells' := 6) (slots' := 518) rfl rfl ?_
          have htx2 : ∀ j, (pTx (16 * i) tx r1 (r2 + ((nI i) * (-1640531527))) (r3 ^^^ ((nI i) <<< ((nI 28) &&& 31))) (r4 - (nI i))) j < 256 := pTx_lt htx
          generalize pTx (16 * i) tx r1 (r2 + ((nI i) * (-1640531527))) (r3 ^^^ ((nI i) <<< ((nI 28) &&& 31))) (r4 - (nI i)) = tx2 at htx2 hw
          rw [show pSi (16 * i) = 16 * (i + 1) from (if_pos (by omega)).trans (by omega)] at hw
          have hw : Wd G A s [(od, .inl (G.2.1, 0, .inl (fun j => nI (o j)))), (ot, .inl (G.2.2.1, 0, .inl (fun j => nI (o j)))), (hd, .inr (3, [.ref td, .int (nI (16 * (i + 1))), .ref od])), (td, .inl (G.2.1, 256, .inl (fun j => sb_b (tx2 j)))), (ht, .inr (4, [.ref tt, .int (nI (16 * (i + 1))), .ref ot])), (tt, .inl (G.2.2.1, 256, .inl (fun j => nI (tx2 j))))] H locs := hw
          refine n_if_ne (tgt := 90) E dL_law_85 (by decide) (by omega) (fun c_85 => ?_) (fun c_85 => ?_)
          · skip
            refine n_iinc (n := 1) (d := i + 1) (lv' := [(3, .int (nI (i + 1))), (0, .ref b), (1, .ref hd), (2, .ref ht)]) E dL_law_90 hl (k := 3) rfl (by omega) (by decide) rfl (fun ls hl => ?_)
            refine lv_goto (tgt := 33) E.1 E.2.1 dL_law_93 (by decide) ?_
            exact ih (i + 1) tx2 (by omega) (by omega) htx2 H locs (hw.sub [2, 3, 0, 4, 5, 1] (by decide) rfl) ls (lv_sub hl [1, 2, 3, 0] rfl)
          · skip
            exact absurd c_85 (by decide)
    refine lv_iconst (v := nI 0) E.1 E.2.1 dL_law_31 (by decide +kernel) ?_
    refine lv_istore_n (lv' := [(3, .int (nI 0)), (2, .ref ht), (1, .ref hd), (0, .ref b)]) E.1 E.2.1 dL_law_32 rfl hl (by decide) rfl (fun ls hl => ?_)
    exact loopA 17 0 tx (by omega) (by omega) htx H locs (hw.sub [2, 0, 3, 4, 1, 5] (by decide) rfl) ls (lv_sub hl [3, 2, 1, 0] rfl)
  · skip
    exact absurd c_26 (by decide)
end
section
-- ===== YOUR PART ENDS =====
set_option maxHeartbeats 4000000 in
theorem lw_walk (l : Launch) (hflags : l.flags = flags0) (b : Addr) (xs : List Int32) : MetFree l x (headSpec (Jvm.Cond.code x code maxLocals ret :: tables_1) room_1) (lw_P b xs) (fun _ _ _ _ _ => True) lw_Q := by
  refine MetFree.of_bodyS (code := code) (maxLocals := maxLocals) (ret := ret) (by decide) ?_ ?_
  · intro args s m h hn
    obtain ⟨meth, c, h1, h2, h3, h4, h5, h6, -, -⟩ := Cond.code_spec hn (atoms_spec (ws := Jvm.Cond.code x code maxLocals ret :: tables_1) h _ List.mem_cons_self)
    exact ⟨meth, c, h1, h2, h3, h4, h5, h6⟩
  · intro p e s m args below meth c s₁ B hml0 hP _
    obtain ⟨rfl, hx, hbd, hgv⟩ := hP
    obtain ⟨scr, harrAt, hlist, hof, hsmall⟩ := hx
    obtain ⟨hcb, hkn, -, -⟩ := State.arrayAt?_spec harrAt
    have hown : s.vm.findClass R_law = some m.cls := findClass_of_methodNamed B.named
    have hts0 : ∀ c ∈ (Jvm.Cond.code x code maxLocals ret :: tables_1), c.before #[Value.ref b] s = true := atoms_spec (ws := Jvm.Cond.code x code maxLocals ret :: tables_1) B.pre
    have hts : ∀ w ∈ lw_tbl, w.before #[Value.ref b] s = true := k2_hts_sels lw_privs (fun w hw => hts0 w (List.mem_cons_of_mem _ hw)) lw_privs_ok
    have hml : c.maxLocals = 5 := B.maxLocals_eq (hts0 _ List.mem_cons_self)
    have X₀ : Stand p l e room_1 s m #[Value.ref b] below meth c s₁ [] 0 0 := Stand.of_body B
    have hh0 : s₁.heap = s.heap := by rw [B.state]; rfl
    have hsz : scr.slots.size = xs.length := by rw [← Array.length_toList, hlist, List.length_map]
    have hval : ∀ j : Nat, j < xs.length → scr.slots[j]? = some (.int (xs.getD j 0)) := fun j hj => by
      rw [← Array.getElem?_toList, hlist]
      simp [hj]
    have hbl : b < s.heap.size := (Array.getElem?_eq_some_iff.mp hcb).1
    have hX : va_X b xs.length (fun j => xs.getD j 0) s s.heap := ⟨scr, hcb, hof, hkn, hsz, hval⟩
    have K : W p l e room_1 s m #[Value.ref b] below meth c s₁.heap [] 0 0 (lw_Z below #[Value.ref b] s) (entryFrame m ([Value.ref b] : List Value).toArray 5) := by
      rw [hh0]
      exact whole_start l hflags hbd ⟨B.exec, B.bytes, B.returns, hml, hown, hts, hX, hbl, B.notSynchronized, hgv⟩
    obtain ⟨t, a1, o, b1, b2, b3⟩ := K s₁ rfl X₀
    exact ⟨t, o, a1, b1, b2, b3⟩
theorem lw_pre_spec {args : Array Value} {s : State} (h : (Jvm.Cond.and given_1 narrow_1).before args s = true) (hr : rest_1_c.before args s = true) : ∃ (b : Addr) (xs : List Int32), lw_P b xs args s := by
  have hs := flat_of_before _ h
  have hq := flat_of_before _ hr
  have hc : (Cond.count 1).before args s = true := hs _ (by decide +kernel)
  have harr : (Cond.arrayOf (.arg 0) .int).before args s = true := hs _ (by decide +kernel)
  have hle : (Cond.le (.length (.arg 0)) (.int 66)).before args s = true := hs _ (by decide +kernel)
  have hlen : (Cond.isInt (.length (.arg 0))).before args s = true := hq _ (by decide +kernel)
  have hall : (Cond.all (.arg 0) (.isInt (.elem (.arg 0) (.index 0)))).before args s = true := hq _ (by decide +kernel)
  obtain ⟨b, xs, hb, hx⟩ := State.ints_of_pre rfl harr hlen hall
  have hsm : xs.length < 2 ^ 31 := hx.choose_spec.2.2.2
  have hev : (Term.length (.arg 0)).eval args s none [] s = some (.int xs.length.toInt32) := hx.length_eval hb
  have hv := Cond.le_ints hev (show (Term.int 66).eval args s none [] s = some (.int 66) from rfl)
  have hd : xs.length.toInt32 ≤ 66 := by
    simpa [Cond.before, Cond.holds, hv] using hle
  have hN : xs.length ≤ 66 := (Int32.ofNat_le_ofNat hsm (by decide)).mp (show Int32.ofNat xs.length ≤ Int32.ofNat 66 from hd)
  exact ⟨b, xs, Cond.one_arg hc (show args[0]? = some (.ref b) from hb), hx, hN, h⟩
theorem lw_comes (l : Launch) (hflags : l.flags = flags0) : Comes l x (Jvm.Cond.code x code maxLocals ret :: tables_1) room_1 (fun tb e args s => Calls_1 tb e args s ∧ rest_1 tb e args s ∧ Pre_1 tb e args s)
    (fun _ _ args s o t => lw_Q args s o t) := by
  intro p e ha hc hk s m args below hf hfit hheap happ hpre
  obtain ⟨b, xs, hP⟩ := lw_pre_spec hpre.2.2 hpre.2.1
  obtain ⟨k, o, h1, h2, h3, hQ⟩ := lw_walk l hflags b xs p e ha hc hk s m args below hf ((Spec.applies_iff_loose hf).mp happ).1 hP trivial
  exact ⟨k, o, h1, h2, h3, hQ⟩
theorem lw_frame {s t : State} {o : Outcome} {args : Array Value} (h : Framed s o t [] 1200132 5501062) :
    Framed s o t (fieldLocs frame_1_writes args s ++ arrayLocs frame_1_arrays args s ++ staticLocs frame_1_statics s) 1200132 5501062 := h
theorem lw_limb (L : Cond) (hL : ∀ (args : Array Value) (s t : State), L.after args s (.returned (some (.int 1))) t = true) :
    ArmFor flags0 classFile x code maxLocals ret World_1 tables_1 room_1 Calls_1 rest_1 Pre_1
      (fun tb e a s o t => postC L tb e a s o t ∧ Framed s o t (fieldLocs frame_1_writes a s ++ arrayLocs frame_1_arrays a s ++ staticLocs frame_1_statics s) 1200132 5501062) := by
  intro l hflags _ _ p e ha hc hk s m args below hf hfit hheap happ hpre
  obtain ⟨k, o, h1, h2, h3, rfl, hF⟩ := lw_comes l hflags p e ha hc hk s m args below hf hfit hheap happ hpre
  exact ⟨k, _, h1, h2, h3, hL args s _, lw_frame hF⟩
theorem i_vc : Claimed_1_1 ∧ Claimed_1_2 := ⟨lw_limb limb_1_1 (fun args s t => by simp [limb_1_1, Cond.after, Cond.holds, Cond.value]), lw_limb limb_1_2 (fun args s t => Cond.after_iff.mpr (by
  first | (rw [show limb_1_2 = Cond.eq .result (.int 1) from rfl, Cond.eq_ints (x := 1) (y := 1) rfl rfl]; simp; done) | (simp [limb_1_2, Cond.value, Term.eval]; done)))⟩
end
