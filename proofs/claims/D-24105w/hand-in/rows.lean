section
-- ===== PART A: goes FIRST, ahead of the names: the tables' words, and 'selects' of the private methods out of them =====
/-- a private method of a class that the tables say can be made, by its rows of tables_1 -/
def lw_okq (q : MethodName × Nat) : Prop := (q.1.cls ≠ "java/lang/invoke/MethodHandle" ∧ q.1.cls ≠ "java/lang/invoke/VarHandle") ∧ Cond.instantiable q.1.cls q.2 ∈ tables_1 ∧ Cond.privateMethod q.1 ∈ tables_1 ∧ Cond.instanceMethod q.1 ∈ tables_1
set_option maxRecDepth 100000
theorem lw_p0 : lw_okq (⟨"WireText", "word", "(II)V"⟩, 2) := ⟨⟨by decide +kernel, by decide +kernel⟩, List.mem_of_getElem? (i := 12) rfl, List.mem_of_getElem? (i := 32) rfl, List.mem_of_getElem? (i := 33) rfl⟩
theorem lw_p1 : lw_okq (⟨"WireText", "from", "(I)I"⟩, 2) := ⟨⟨by decide +kernel, by decide +kernel⟩, List.mem_of_getElem? (i := 12) rfl, List.mem_of_getElem? (i := 55) rfl, List.mem_of_getElem? (i := 56) rfl⟩
theorem lw_p2 : lw_okq (⟨"WireText", "count", "(II)I"⟩, 2) := ⟨⟨by decide +kernel, by decide +kernel⟩, List.mem_of_getElem? (i := 12) rfl, List.mem_of_getElem? (i := 67) rfl, List.mem_of_getElem? (i := 68) rfl⟩
theorem lw_p3 : lw_okq (⟨"java/lang/Throwable", "fillInStackTrace", "(I)Ljava/lang/Throwable;"⟩, 6) := ⟨⟨by decide +kernel, by decide +kernel⟩, List.mem_of_getElem? (i := 113) rfl, List.mem_of_getElem? (i := 111) rfl, List.mem_of_getElem? (i := 112) rfl⟩
def lw_privs_1 : List (MethodName × Nat) := [(⟨"WireText", "word", "(II)V"⟩, 2), (⟨"WireText", "from", "(I)I"⟩, 2), (⟨"WireText", "count", "(II)I"⟩, 2), (⟨"java/lang/Throwable", "fillInStackTrace", "(I)Ljava/lang/Throwable;"⟩, 6)]
theorem lw_r1 : ∀ q ∈ lw_privs_1, lw_okq q := List.forall_mem_cons.mpr ⟨lw_p0, List.forall_mem_cons.mpr ⟨lw_p1, List.forall_mem_cons.mpr ⟨lw_p2, List.forall_mem_cons.mpr ⟨lw_p3, fun _ h => absurd h List.not_mem_nil⟩⟩⟩⟩
def lw_privs : List (MethodName × Nat) := lw_privs_1
def lw_tbl : List Cond := k2_sels lw_privs ++ tables_1
theorem lw_privs_ok : ∀ q ∈ lw_privs, lw_okq q := lw_r1
-- ===== ONE list of words for every method: the tables' words that hold all through a run =====
def lw_all : List Cond := lw_tbl.filter goodWord
/-- a word of the tables by its place: claim/WORDS.tsv -/
theorem lw_w {w : Cond} (i : Nat) (h : lw_tbl[i]? = some w) (g : goodWord w = true) : w ∈ lw_all := List.mem_filter.mpr ⟨List.mem_of_getElem? h, g⟩
theorem lw_all_tbl {w : Cond} (h : w ∈ lw_all) : w ∈ lw_tbl := (List.mem_filter.mp h).1
theorem lw_self : GoodIn lw_all lw_all := fun w h => ⟨h, good_of_word (List.mem_filter.mp h).2⟩
/-- a class's field words, by their places -/
theorem lw_in (ws : List Cond) (ps : List Nat) (hp : ws = ps.filterMap (fun i => lw_tbl[i]?)) (hg : ws.all goodWord = true) : ∀ w ∈ ws, w ∈ lw_all := by
  intro w h
  have h1 := List.all_eq_true.mp hg w h
  rw [hp] at h
  obtain ⟨i, -, hi⟩ := List.mem_filterMap.mp h
  exact lw_w i hi h1
/-- the words of a contract for the method y with code b, L locals, answer r -/
abbrev ws_ (y : MethodName) (b : ByteArray) (L : Nat) (r : Option FieldType) : List Cond := Cond.code y b L r :: lw_all
theorem lw_meth {y : MethodName} {b : ByteArray} {L : Nat} {r : Option FieldType} (h : Cond.code y b L r ∈ lw_all) : GoodIn lw_all (ws_ y b L r) := by
  intro w hw
  rcases List.mem_cons.mp hw with e | e
  · rw [e]
    exact lw_self _ h
  · exact lw_self _ e
theorem lw_app {a c : List Cond} (ha : ∀ w ∈ a, w ∈ lw_all) (hc : GoodIn lw_all c) : GoodIn lw_all (a ++ c) := by
  intro w hw
  rcases List.mem_append.mp hw with e | e
  · exact lw_self w (ha w e)
  · exact hc w e
/-- what a call through an object asks: cwV n hts (lw_V ..) -/
theorem lw_V {own : String} {idx : Nat} {C : String} {y : MethodName} {b : ByteArray} {L : Nat} {r : Option FieldType} (h1 : Cond.methodLink own idx y ∈ lw_all) (h2 : Cond.instanceMethod y ∈ lw_all) (h3 : Cond.selects C y y ∈ lw_all) (h4 : Cond.initialized C ∈ lw_all) (h5 : Cond.code y b L r ∈ lw_all) : GoodIn lw_all (wsV own idx C y (ws_ y b L r)) := by
  refine lw_app ?_ (lw_meth h5)
  intro w hw
  simp only [List.mem_cons, List.not_mem_nil, or_false] at hw
  rcases hw with e | e | e | e
  · rw [e]; exact h1
  · rw [e]; exact h2
  · rw [e]; exact h3
  · rw [e]; exact h4
/-- what a static call asks: va_cwS n hts (lw_S ..) -/
theorem lw_S {own : String} {idx : Nat} {y : MethodName} {b : ByteArray} {L : Nat} {r : Option FieldType} (h1 : Cond.methodLink own idx y ∈ lw_all) (h2 : Cond.static y ∈ lw_all) (h3 : Cond.initialized y.cls ∈ lw_all) (h4 : Cond.code y b L r ∈ lw_all) : GoodIn lw_all (va_wsS own idx y (ws_ y b L r)) := by
  refine lw_app ?_ (lw_meth h4)
  intro w hw
  simp only [List.mem_cons, List.not_mem_nil, or_false] at hw
  rcases hw with e | e | e
  · rw [e]; exact h1
  · rw [e]; exact h2
  · rw [e]; exact h3
/-- the words of a contract for a method WITH HANDLERS (hh: its table) -/
abbrev wsW_ (y : MethodName) (b : ByteArray) (L : Nat) (r : Option FieldType) (hh : List (Nat × Nat × Nat × Nat)) : List Cond := Cond.codeWith y b L r hh :: lw_all
theorem lw_methW {y : MethodName} {b : ByteArray} {L : Nat} {r : Option FieldType} {hh : List (Nat × Nat × Nat × Nat)} (h : Cond.codeWith y b L r hh ∈ lw_all) : GoodIn lw_all (wsW_ y b L r hh) := by
  intro w hw
  rcases List.mem_cons.mp hw with e | e
  · rw [e]
    exact lw_self _ h
  · exact lw_self _ e
/-- any list of words by their places (lw_in), good -/
theorem lw_good {ws : List Cond} (h : ∀ w ∈ ws, w ∈ lw_all) : GoodIn lw_all ws := fun w hw => lw_self w (h w hw)
/-- what a call of a method with handlers asks: vx_cwVW n hts (lw_VW ..), vx_cwSW n hts (lw_SW ..) -/
theorem lw_VW {own : String} {idx : Nat} {C : String} {y : MethodName} {b : ByteArray} {L : Nat} {r : Option FieldType} {hh : List (Nat × Nat × Nat × Nat)} (h1 : Cond.methodLink own idx y ∈ lw_all) (h2 : Cond.instanceMethod y ∈ lw_all) (h3 : Cond.selects C y y ∈ lw_all) (h4 : Cond.initialized C ∈ lw_all) (h5 : Cond.codeWith y b L r hh ∈ lw_all) : GoodIn lw_all (wsV own idx C y (wsW_ y b L r hh)) := by
  refine lw_app ?_ (lw_methW h5)
  intro w hw
  simp only [List.mem_cons, List.not_mem_nil, or_false] at hw
  rcases hw with e | e | e | e
  · rw [e]; exact h1
  · rw [e]; exact h2
  · rw [e]; exact h3
  · rw [e]; exact h4
theorem lw_SW {own : String} {idx : Nat} {y : MethodName} {b : ByteArray} {L : Nat} {r : Option FieldType} {hh : List (Nat × Nat × Nat × Nat)} (h1 : Cond.methodLink own idx y ∈ lw_all) (h2 : Cond.static y ∈ lw_all) (h3 : Cond.initialized y.cls ∈ lw_all) (h4 : Cond.codeWith y b L r hh ∈ lw_all) : GoodIn lw_all (va_wsS own idx y (wsW_ y b L r hh)) := by
  refine lw_app ?_ (lw_methW h4)
  intro w hw
  simp only [List.mem_cons, List.not_mem_nil, or_false] at hw
  rcases hw with e | e | e
  · rw [e]; exact h1
  · rw [e]; exact h2
  · rw [e]; exact h3
/-- a word by its place in its run of the tables -/
theorem lw_at {r : List Cond} (hr : ∀ w ∈ r, w ∈ lw_tbl) {w : Cond} (i : Nat) (h : r[i]? = some w) : w ∈ lw_tbl := hr w (List.mem_of_getElem? h)
theorem lw_g {w : Cond} (h : w ∈ lw_tbl) (g : goodWord w = true) : w ∈ lw_all := List.mem_filter.mpr ⟨h, g⟩
theorem lw_ms : ∀ w ∈ k2_sels lw_privs, w ∈ lw_tbl := fun w h => show w ∈ k2_sels lw_privs ++ tables_1 from List.mem_append_left _ h
theorem lw_m0 : ∀ w ∈ tables_1, w ∈ lw_tbl := fun w h => show w ∈ k2_sels lw_privs ++ tables_1 from List.mem_append_right (k2_sels lw_privs) h
theorem qs0 : (Cond.selects "WireText" ⟨"WireText", "word", "(II)V"⟩ ⟨"WireText", "word", "(II)V"⟩) ∈ lw_all := lw_g (lw_at lw_ms 0 rfl) rfl
theorem qs1 : (Cond.selects "WireText" ⟨"WireText", "from", "(I)I"⟩ ⟨"WireText", "from", "(I)I"⟩) ∈ lw_all := lw_g (lw_at lw_ms 1 rfl) rfl
theorem qs2 : (Cond.selects "WireText" ⟨"WireText", "count", "(II)I"⟩ ⟨"WireText", "count", "(II)I"⟩) ∈ lw_all := lw_g (lw_at lw_ms 2 rfl) rfl
theorem qs3 : (Cond.selects "java/lang/Throwable" ⟨"java/lang/Throwable", "fillInStackTrace", "(I)Ljava/lang/Throwable;"⟩ ⟨"java/lang/Throwable", "fillInStackTrace", "(I)Ljava/lang/Throwable;"⟩) ∈ lw_all := lw_g (lw_at lw_ms 3 rfl) rfl
-- ===== end of PART A; then your names; then what follows =====
end
section
/-! DECODE ROWS BY BYTES: one lemma an opcode; a method's code is cut into short pieces once, and a row reads its own piece alone. -/
set_option maxRecDepth 100000
/-- the code has just these bytes from pc on -/
def DkAt (code : ByteArray) (pc : Nat) (bs : List UInt8) : Prop := ∀ (j : Nat) (b : UInt8), bs[j]? = some b → code.data.toList[pc + j]? = some b
/-- the piece W has the bytes bs from its place j on -/
def dkIn (W : List UInt8) (j : Nat) (bs : List UInt8) : Bool := decide ((W.drop j).take bs.length = bs)
theorem dk_seg {l W T : List UInt8} {o o2 : Nat} (h : l.drop o = W ++ T) (n : Nat) (hn : W.length = n) (ho : o + n = o2) : l.drop o2 = T := by
  subst ho
  rw [← List.drop_drop, h, List.drop_left' hn]
theorem dk_at {code : ByteArray} {W T bs : List UInt8} {o pc : Nat} (h : code.data.toList.drop o = W ++ T) (j : Nat) (hp : o + j = pc) (hw : dkIn W j bs = true) : DkAt code pc bs := by
  subst hp
  intro i b e
  have h1 := of_decide_eq_true hw
  have h2 : i < bs.length := (List.getElem?_eq_some_iff.mp e).1
  have h3 : W[j + i]? = some b := by
    rw [← h1, List.getElem?_take, if_pos h2, List.getElem?_drop] at e
    exact e
  have h4 : j + i < W.length := (List.getElem?_eq_some_iff.mp h3).1
  have h5 : (code.data.toList.drop o)[j + i]? = some b := by
    rw [h, List.getElem?_append_left h4]
    exact h3
  rw [List.getElem?_drop, ← Nat.add_assoc] at h5
  exact h5
theorem dk_u1 {A : ByteArray} {p : Nat} {b : UInt8} (h : A.data.toList[p]? = some b) : (Reader.u1 : Reader DecodeError Nat) A p = .ok (b.toNat, p + 1) := by
  obtain ⟨h1, h2⟩ := List.getElem?_eq_some_iff.mp h
  have h3 : p < A.size := by simpa using h1
  have h4 : A[p]'h3 = b := h2
  have e : (Reader.u1 : Reader DecodeError Nat) A p = (if h : p < A.size then .ok (A[p].toNat, p + 1) else .error (HasTruncated.truncated p)) := by
    show (do if h : p < A.size then do set (p + 1); Pure.pure A[p].toNat else MonadExcept.throw (HasTruncated.truncated p) : Reader DecodeError Nat) A p = _
    by_cases hi : p < A.size
    · rw [dif_pos hi, dif_pos hi]; rfl
    · rw [dif_neg hi, dif_neg hi]; rfl
  rw [e, dif_pos h3, h4]
theorem dk_bind {α β : Type} {r : Reader DecodeError α} {f : α → Reader DecodeError β} {A : ByteArray} {p s : Nat} {a : α} (h : r A p = .ok (a, s)) : (r >>= f) A p = f a A s := by
  show (do let (a, s) ← r A p; f a A s : Except DecodeError (β × Nat)) = _
  rw [h]
  rfl
theorem dk_map {α β : Type} {r : Reader DecodeError α} {g : α → β} {A : ByteArray} {p s : Nat} {a : α} (h : r A p = .ok (a, s)) : (g <$> r) A p = .ok (g a, s) := by
  show (do let (a, s) ← r A p; .ok (g a, s) : Except DecodeError (β × Nat)) = _
  rw [h]
  rfl
theorem dk_u2 {A : ByteArray} {p : Nat} {a b : UInt8} (h : A.data.toList[p]? = some a) (h2 : A.data.toList[p + 1]? = some b) : (Reader.u2 : Reader DecodeError Nat) A p = .ok (a.toNat * 256 + b.toNat, p + 2) := by
  show (Reader.u1 >>= fun hi => Reader.u1 >>= fun lo => Pure.pure (hi * 256 + lo) : Reader DecodeError Nat) A p = _
  rw [dk_bind (dk_u1 h), dk_bind (dk_u1 h2)]
  rfl
theorem dk_of {code : ByteArray} {pc n : Nat} {i : Instr} (h : Decoder.instr pc code pc = .ok (i, pc + n)) : decode code pc = .ok (i, n) := by
  have e : decode code pc = (match Decoder.instr pc code pc with | .error x => .error x | .ok (j, s) => .ok (j, s - pc)) := by
    show (do let (j, s) ← Decoder.instr pc code pc; Pure.pure (j, s - pc) : Except DecodeError (Instr × Nat)) = _
    cases Decoder.instr pc code pc <;> rfl
  rw [e, h]
  show Except.ok (i, pc + n - pc) = _
  rw [Nat.add_sub_cancel_left]
theorem dk_3 {code : ByteArray} {pc : Nat} (h : DkAt code pc [3]) : decode code pc = .ok (.iconst 0, 1) := dk_of ((dk_bind (dk_u1 (h 0 _ rfl))).trans rfl)
theorem dk_4 {code : ByteArray} {pc : Nat} (h : DkAt code pc [4]) : decode code pc = .ok (.iconst 1, 1) := dk_of ((dk_bind (dk_u1 (h 0 _ rfl))).trans rfl)
theorem dk_5 {code : ByteArray} {pc : Nat} (h : DkAt code pc [5]) : decode code pc = .ok (.iconst 2, 1) := dk_of ((dk_bind (dk_u1 (h 0 _ rfl))).trans rfl)
theorem dk_6 {code : ByteArray} {pc : Nat} (h : DkAt code pc [6]) : decode code pc = .ok (.iconst 3, 1) := dk_of ((dk_bind (dk_u1 (h 0 _ rfl))).trans rfl)
theorem dk_7 {code : ByteArray} {pc : Nat} (h : DkAt code pc [7]) : decode code pc = .ok (.iconst 4, 1) := dk_of ((dk_bind (dk_u1 (h 0 _ rfl))).trans rfl)
theorem dk_8 {code : ByteArray} {pc : Nat} (h : DkAt code pc [8]) : decode code pc = .ok (.iconst 5, 1) := dk_of ((dk_bind (dk_u1 (h 0 _ rfl))).trans rfl)
theorem dk_16 {code : ByteArray} {pc : Nat} (a : UInt8) (h : DkAt code pc [16, a]) : decode code pc = .ok (.bipush (Reader.signed 8 a.toNat), 2) := dk_of ((dk_bind (dk_u1 (h 0 _ rfl))).trans ((dk_bind (dk_map (dk_u1 (h 1 _ rfl)))).trans rfl))
theorem dk_17 {code : ByteArray} {pc : Nat} (a b : UInt8) (h : DkAt code pc [17, a, b]) : decode code pc = .ok (.sipush (Reader.signed 16 (a.toNat * 256 + b.toNat)), 3) := dk_of ((dk_bind (dk_u1 (h 0 _ rfl))).trans ((dk_bind (dk_map (dk_u2 (h 1 _ rfl) (h 2 _ rfl)))).trans rfl))
theorem dk_18 {code : ByteArray} {pc : Nat} (a : UInt8) (h : DkAt code pc [18, a]) : decode code pc = .ok (.ldc a.toNat, 2) := dk_of ((dk_bind (dk_u1 (h 0 _ rfl))).trans ((dk_bind (dk_u1 (h 1 _ rfl))).trans rfl))
theorem dk_21 {code : ByteArray} {pc : Nat} (a : UInt8) (h : DkAt code pc [21, a]) : decode code pc = .ok (.iload a.toNat, 2) := dk_of ((dk_bind (dk_u1 (h 0 _ rfl))).trans ((dk_bind (dk_u1 (h 1 _ rfl))).trans rfl))
theorem dk_25 {code : ByteArray} {pc : Nat} (a : UInt8) (h : DkAt code pc [25, a]) : decode code pc = .ok (.aload a.toNat, 2) := dk_of ((dk_bind (dk_u1 (h 0 _ rfl))).trans ((dk_bind (dk_u1 (h 1 _ rfl))).trans rfl))
theorem dk_26 {code : ByteArray} {pc : Nat} (h : DkAt code pc [26]) : decode code pc = .ok (.iload_n 0, 1) := dk_of ((dk_bind (dk_u1 (h 0 _ rfl))).trans rfl)
theorem dk_27 {code : ByteArray} {pc : Nat} (h : DkAt code pc [27]) : decode code pc = .ok (.iload_n 1, 1) := dk_of ((dk_bind (dk_u1 (h 0 _ rfl))).trans rfl)
theorem dk_28 {code : ByteArray} {pc : Nat} (h : DkAt code pc [28]) : decode code pc = .ok (.iload_n 2, 1) := dk_of ((dk_bind (dk_u1 (h 0 _ rfl))).trans rfl)
theorem dk_29 {code : ByteArray} {pc : Nat} (h : DkAt code pc [29]) : decode code pc = .ok (.iload_n 3, 1) := dk_of ((dk_bind (dk_u1 (h 0 _ rfl))).trans rfl)
theorem dk_42 {code : ByteArray} {pc : Nat} (h : DkAt code pc [42]) : decode code pc = .ok (.aload_n 0, 1) := dk_of ((dk_bind (dk_u1 (h 0 _ rfl))).trans rfl)
theorem dk_43 {code : ByteArray} {pc : Nat} (h : DkAt code pc [43]) : decode code pc = .ok (.aload_n 1, 1) := dk_of ((dk_bind (dk_u1 (h 0 _ rfl))).trans rfl)
theorem dk_44 {code : ByteArray} {pc : Nat} (h : DkAt code pc [44]) : decode code pc = .ok (.aload_n 2, 1) := dk_of ((dk_bind (dk_u1 (h 0 _ rfl))).trans rfl)
theorem dk_46 {code : ByteArray} {pc : Nat} (h : DkAt code pc [46]) : decode code pc = .ok (.iaload, 1) := dk_of ((dk_bind (dk_u1 (h 0 _ rfl))).trans rfl)
theorem dk_51 {code : ByteArray} {pc : Nat} (h : DkAt code pc [51]) : decode code pc = .ok (.baload, 1) := dk_of ((dk_bind (dk_u1 (h 0 _ rfl))).trans rfl)
theorem dk_54 {code : ByteArray} {pc : Nat} (a : UInt8) (h : DkAt code pc [54, a]) : decode code pc = .ok (.istore a.toNat, 2) := dk_of ((dk_bind (dk_u1 (h 0 _ rfl))).trans ((dk_bind (dk_u1 (h 1 _ rfl))).trans rfl))
theorem dk_58 {code : ByteArray} {pc : Nat} (a : UInt8) (h : DkAt code pc [58, a]) : decode code pc = .ok (.astore a.toNat, 2) := dk_of ((dk_bind (dk_u1 (h 0 _ rfl))).trans ((dk_bind (dk_u1 (h 1 _ rfl))).trans rfl))
theorem dk_60 {code : ByteArray} {pc : Nat} (h : DkAt code pc [60]) : decode code pc = .ok (.istore_n 1, 1) := dk_of ((dk_bind (dk_u1 (h 0 _ rfl))).trans rfl)
theorem dk_62 {code : ByteArray} {pc : Nat} (h : DkAt code pc [62]) : decode code pc = .ok (.istore_n 3, 1) := dk_of ((dk_bind (dk_u1 (h 0 _ rfl))).trans rfl)
theorem dk_75 {code : ByteArray} {pc : Nat} (h : DkAt code pc [75]) : decode code pc = .ok (.astore_n 0, 1) := dk_of ((dk_bind (dk_u1 (h 0 _ rfl))).trans rfl)
theorem dk_76 {code : ByteArray} {pc : Nat} (h : DkAt code pc [76]) : decode code pc = .ok (.astore_n 1, 1) := dk_of ((dk_bind (dk_u1 (h 0 _ rfl))).trans rfl)
theorem dk_77 {code : ByteArray} {pc : Nat} (h : DkAt code pc [77]) : decode code pc = .ok (.astore_n 2, 1) := dk_of ((dk_bind (dk_u1 (h 0 _ rfl))).trans rfl)
theorem dk_79 {code : ByteArray} {pc : Nat} (h : DkAt code pc [79]) : decode code pc = .ok (.iastore, 1) := dk_of ((dk_bind (dk_u1 (h 0 _ rfl))).trans rfl)
theorem dk_84 {code : ByteArray} {pc : Nat} (h : DkAt code pc [84]) : decode code pc = .ok (.bastore, 1) := dk_of ((dk_bind (dk_u1 (h 0 _ rfl))).trans rfl)
theorem dk_87 {code : ByteArray} {pc : Nat} (h : DkAt code pc [87]) : decode code pc = .ok (.pop, 1) := dk_of ((dk_bind (dk_u1 (h 0 _ rfl))).trans rfl)
theorem dk_89 {code : ByteArray} {pc : Nat} (h : DkAt code pc [89]) : decode code pc = .ok (.dup, 1) := dk_of ((dk_bind (dk_u1 (h 0 _ rfl))).trans rfl)
theorem dk_96 {code : ByteArray} {pc : Nat} (h : DkAt code pc [96]) : decode code pc = .ok (.iadd, 1) := dk_of ((dk_bind (dk_u1 (h 0 _ rfl))).trans rfl)
theorem dk_100 {code : ByteArray} {pc : Nat} (h : DkAt code pc [100]) : decode code pc = .ok (.isub, 1) := dk_of ((dk_bind (dk_u1 (h 0 _ rfl))).trans rfl)
theorem dk_104 {code : ByteArray} {pc : Nat} (h : DkAt code pc [104]) : decode code pc = .ok (.imul, 1) := dk_of ((dk_bind (dk_u1 (h 0 _ rfl))).trans rfl)
theorem dk_112 {code : ByteArray} {pc : Nat} (h : DkAt code pc [112]) : decode code pc = .ok (.irem, 1) := dk_of ((dk_bind (dk_u1 (h 0 _ rfl))).trans rfl)
theorem dk_120 {code : ByteArray} {pc : Nat} (h : DkAt code pc [120]) : decode code pc = .ok (.ishl, 1) := dk_of ((dk_bind (dk_u1 (h 0 _ rfl))).trans rfl)
theorem dk_122 {code : ByteArray} {pc : Nat} (h : DkAt code pc [122]) : decode code pc = .ok (.ishr, 1) := dk_of ((dk_bind (dk_u1 (h 0 _ rfl))).trans rfl)
theorem dk_124 {code : ByteArray} {pc : Nat} (h : DkAt code pc [124]) : decode code pc = .ok (.iushr, 1) := dk_of ((dk_bind (dk_u1 (h 0 _ rfl))).trans rfl)
theorem dk_126 {code : ByteArray} {pc : Nat} (h : DkAt code pc [126]) : decode code pc = .ok (.iand, 1) := dk_of ((dk_bind (dk_u1 (h 0 _ rfl))).trans rfl)
theorem dk_128 {code : ByteArray} {pc : Nat} (h : DkAt code pc [128]) : decode code pc = .ok (.ior, 1) := dk_of ((dk_bind (dk_u1 (h 0 _ rfl))).trans rfl)
theorem dk_132 {code : ByteArray} {pc : Nat} (a b : UInt8) (h : DkAt code pc [132, a, b]) : decode code pc = .ok (.iinc a.toNat (Reader.signed 8 b.toNat), 3) := dk_of ((dk_bind (dk_u1 (h 0 _ rfl))).trans ((dk_bind (dk_u1 (h 1 _ rfl))).trans ((dk_bind (dk_map (dk_u1 (h 2 _ rfl)))).trans rfl)))
theorem dk_145 {code : ByteArray} {pc : Nat} (h : DkAt code pc [145]) : decode code pc = .ok (.i2b, 1) := dk_of ((dk_bind (dk_u1 (h 0 _ rfl))).trans rfl)
theorem dk_153 {code : ByteArray} {pc : Nat} (a b : UInt8) (h : DkAt code pc [153, a, b]) : decode code pc = .ok (.ifCond .eq (Reader.signed 16 (a.toNat * 256 + b.toNat)), 3) := dk_of ((dk_bind (dk_u1 (h 0 _ rfl))).trans ((dk_bind (dk_map (dk_u2 (h 1 _ rfl) (h 2 _ rfl)))).trans rfl))
theorem dk_154 {code : ByteArray} {pc : Nat} (a b : UInt8) (h : DkAt code pc [154, a, b]) : decode code pc = .ok (.ifCond .ne (Reader.signed 16 (a.toNat * 256 + b.toNat)), 3) := dk_of ((dk_bind (dk_u1 (h 0 _ rfl))).trans ((dk_bind (dk_map (dk_u2 (h 1 _ rfl) (h 2 _ rfl)))).trans rfl))
theorem dk_155 {code : ByteArray} {pc : Nat} (a b : UInt8) (h : DkAt code pc [155, a, b]) : decode code pc = .ok (.ifCond .lt (Reader.signed 16 (a.toNat * 256 + b.toNat)), 3) := dk_of ((dk_bind (dk_u1 (h 0 _ rfl))).trans ((dk_bind (dk_map (dk_u2 (h 1 _ rfl) (h 2 _ rfl)))).trans rfl))
theorem dk_156 {code : ByteArray} {pc : Nat} (a b : UInt8) (h : DkAt code pc [156, a, b]) : decode code pc = .ok (.ifCond .ge (Reader.signed 16 (a.toNat * 256 + b.toNat)), 3) := dk_of ((dk_bind (dk_u1 (h 0 _ rfl))).trans ((dk_bind (dk_map (dk_u2 (h 1 _ rfl) (h 2 _ rfl)))).trans rfl))
theorem dk_158 {code : ByteArray} {pc : Nat} (a b : UInt8) (h : DkAt code pc [158, a, b]) : decode code pc = .ok (.ifCond .le (Reader.signed 16 (a.toNat * 256 + b.toNat)), 3) := dk_of ((dk_bind (dk_u1 (h 0 _ rfl))).trans ((dk_bind (dk_map (dk_u2 (h 1 _ rfl) (h 2 _ rfl)))).trans rfl))
theorem dk_159 {code : ByteArray} {pc : Nat} (a b : UInt8) (h : DkAt code pc [159, a, b]) : decode code pc = .ok (.if_icmp .eq (Reader.signed 16 (a.toNat * 256 + b.toNat)), 3) := dk_of ((dk_bind (dk_u1 (h 0 _ rfl))).trans ((dk_bind (dk_map (dk_u2 (h 1 _ rfl) (h 2 _ rfl)))).trans rfl))
theorem dk_160 {code : ByteArray} {pc : Nat} (a b : UInt8) (h : DkAt code pc [160, a, b]) : decode code pc = .ok (.if_icmp .ne (Reader.signed 16 (a.toNat * 256 + b.toNat)), 3) := dk_of ((dk_bind (dk_u1 (h 0 _ rfl))).trans ((dk_bind (dk_map (dk_u2 (h 1 _ rfl) (h 2 _ rfl)))).trans rfl))
theorem dk_161 {code : ByteArray} {pc : Nat} (a b : UInt8) (h : DkAt code pc [161, a, b]) : decode code pc = .ok (.if_icmp .lt (Reader.signed 16 (a.toNat * 256 + b.toNat)), 3) := dk_of ((dk_bind (dk_u1 (h 0 _ rfl))).trans ((dk_bind (dk_map (dk_u2 (h 1 _ rfl) (h 2 _ rfl)))).trans rfl))
theorem dk_162 {code : ByteArray} {pc : Nat} (a b : UInt8) (h : DkAt code pc [162, a, b]) : decode code pc = .ok (.if_icmp .ge (Reader.signed 16 (a.toNat * 256 + b.toNat)), 3) := dk_of ((dk_bind (dk_u1 (h 0 _ rfl))).trans ((dk_bind (dk_map (dk_u2 (h 1 _ rfl) (h 2 _ rfl)))).trans rfl))
theorem dk_163 {code : ByteArray} {pc : Nat} (a b : UInt8) (h : DkAt code pc [163, a, b]) : decode code pc = .ok (.if_icmp .gt (Reader.signed 16 (a.toNat * 256 + b.toNat)), 3) := dk_of ((dk_bind (dk_u1 (h 0 _ rfl))).trans ((dk_bind (dk_map (dk_u2 (h 1 _ rfl) (h 2 _ rfl)))).trans rfl))
theorem dk_164 {code : ByteArray} {pc : Nat} (a b : UInt8) (h : DkAt code pc [164, a, b]) : decode code pc = .ok (.if_icmp .le (Reader.signed 16 (a.toNat * 256 + b.toNat)), 3) := dk_of ((dk_bind (dk_u1 (h 0 _ rfl))).trans ((dk_bind (dk_map (dk_u2 (h 1 _ rfl) (h 2 _ rfl)))).trans rfl))
theorem dk_167 {code : ByteArray} {pc : Nat} (a b : UInt8) (h : DkAt code pc [167, a, b]) : decode code pc = .ok (.goto (Reader.signed 16 (a.toNat * 256 + b.toNat)), 3) := dk_of ((dk_bind (dk_u1 (h 0 _ rfl))).trans ((dk_bind (dk_map (dk_u2 (h 1 _ rfl) (h 2 _ rfl)))).trans rfl))
theorem dk_172 {code : ByteArray} {pc : Nat} (h : DkAt code pc [172]) : decode code pc = .ok (.ireturn, 1) := dk_of ((dk_bind (dk_u1 (h 0 _ rfl))).trans rfl)
theorem dk_177 {code : ByteArray} {pc : Nat} (h : DkAt code pc [177]) : decode code pc = .ok (.return_, 1) := dk_of ((dk_bind (dk_u1 (h 0 _ rfl))).trans rfl)
theorem dk_178 {code : ByteArray} {pc : Nat} (a b : UInt8) (h : DkAt code pc [178, a, b]) : decode code pc = .ok (.getstatic (a.toNat * 256 + b.toNat), 3) := dk_of ((dk_bind (dk_u1 (h 0 _ rfl))).trans ((dk_bind (dk_u2 (h 1 _ rfl) (h 2 _ rfl))).trans rfl))
theorem dk_180 {code : ByteArray} {pc : Nat} (a b : UInt8) (h : DkAt code pc [180, a, b]) : decode code pc = .ok (.getfield (a.toNat * 256 + b.toNat), 3) := dk_of ((dk_bind (dk_u1 (h 0 _ rfl))).trans ((dk_bind (dk_u2 (h 1 _ rfl) (h 2 _ rfl))).trans rfl))
theorem dk_181 {code : ByteArray} {pc : Nat} (a b : UInt8) (h : DkAt code pc [181, a, b]) : decode code pc = .ok (.putfield (a.toNat * 256 + b.toNat), 3) := dk_of ((dk_bind (dk_u1 (h 0 _ rfl))).trans ((dk_bind (dk_u2 (h 1 _ rfl) (h 2 _ rfl))).trans rfl))
theorem dk_182 {code : ByteArray} {pc : Nat} (a b : UInt8) (h : DkAt code pc [182, a, b]) : decode code pc = .ok (.invokevirtual (a.toNat * 256 + b.toNat), 3) := dk_of ((dk_bind (dk_u1 (h 0 _ rfl))).trans ((dk_bind (dk_u2 (h 1 _ rfl) (h 2 _ rfl))).trans rfl))
theorem dk_183 {code : ByteArray} {pc : Nat} (a b : UInt8) (h : DkAt code pc [183, a, b]) : decode code pc = .ok (.invokespecial (a.toNat * 256 + b.toNat), 3) := dk_of ((dk_bind (dk_u1 (h 0 _ rfl))).trans ((dk_bind (dk_u2 (h 1 _ rfl) (h 2 _ rfl))).trans rfl))
theorem dk_184 {code : ByteArray} {pc : Nat} (a b : UInt8) (h : DkAt code pc [184, a, b]) : decode code pc = .ok (.invokestatic (a.toNat * 256 + b.toNat), 3) := dk_of ((dk_bind (dk_u1 (h 0 _ rfl))).trans ((dk_bind (dk_u2 (h 1 _ rfl) (h 2 _ rfl))).trans rfl))
theorem dk_187 {code : ByteArray} {pc : Nat} (a b : UInt8) (h : DkAt code pc [187, a, b]) : decode code pc = .ok (.new (a.toNat * 256 + b.toNat), 3) := dk_of ((dk_bind (dk_u1 (h 0 _ rfl))).trans ((dk_bind (dk_u2 (h 1 _ rfl) (h 2 _ rfl))).trans rfl))
theorem dk_188_4 {code : ByteArray} {pc : Nat} (h : DkAt code pc [188, 4]) : decode code pc = .ok (.newarray .boolean, 2) := dk_of ((dk_bind (dk_u1 (h 0 _ rfl))).trans ((dk_bind (dk_u1 (h 1 _ rfl))).trans rfl))
theorem dk_188_8 {code : ByteArray} {pc : Nat} (h : DkAt code pc [188, 8]) : decode code pc = .ok (.newarray .byte, 2) := dk_of ((dk_bind (dk_u1 (h 0 _ rfl))).trans ((dk_bind (dk_u1 (h 1 _ rfl))).trans rfl))
theorem dk_188_10 {code : ByteArray} {pc : Nat} (h : DkAt code pc [188, 10]) : decode code pc = .ok (.newarray .int, 2) := dk_of ((dk_bind (dk_u1 (h 0 _ rfl))).trans ((dk_bind (dk_u1 (h 1 _ rfl))).trans rfl))
theorem dk_190 {code : ByteArray} {pc : Nat} (h : DkAt code pc [190]) : decode code pc = .ok (.arraylength, 1) := dk_of ((dk_bind (dk_u1 (h 0 _ rfl))).trans rfl)
theorem dk_191 {code : ByteArray} {pc : Nat} (h : DkAt code pc [191]) : decode code pc = .ok (.athrow, 1) := dk_of ((dk_bind (dk_u1 (h 0 _ rfl))).trans rfl)
/-! java/lang/Object -/
set_option maxRecDepth 100000
def RJ4 : String := "java/lang/Object"
abbrev cJ4_init : ByteArray := object_method_1_code
def yJ4_init : MethodName := ⟨RJ4, "<init>", "()V"⟩
theorem dJ4_init_0 : decode cJ4_init 0 = .ok (.return_, 1) := by decide +kernel
theorem q21 : (Jvm.Cond.instanceMethod ({ cls := "java/lang/Object", name := "<init>", desc := "()V" } : Jvm.MethodName)) ∈ lw_all := lw_g (lw_at lw_m0 17 rfl) rfl
theorem q22 : (Jvm.Cond.code ({ cls := "java/lang/Object", name := "<init>", desc := "()V" } : Jvm.MethodName) object_method_1_code (1 : Nat) (Option.none : Option Jvm.ClassFile.FieldType)) ∈ lw_all := lw_g (lw_at lw_m0 18 rfl) rfl
/-! WireText -/
set_option maxRecDepth 100000
def RX1 : String := "WireText"
def TX1 : u_T := fun k => match k with
  | 0 => ("WireText", "text", "[B", true)
  | _ => ("WireText", "size", "I", false)
def tyX1 : Nat → FieldType := fun k => match k with
  | 0 => .array .byte
  | _ => .int
abbrev wsX10 : List Cond := u_ws RX1 TX1 2
theorem nmX1 : ∀ a, a < 2 → ∀ b, b < 2 → a ≠ b → (TX1 a).2.1 ≠ (TX1 b).2.1 := by decide +kernel
theorem tyX1_ok : ∀ k, k < 2 → parseFieldDescriptor (TX1 k).2.2.1 = some (tyX1 k) := by decide +kernel
abbrev cX1_init : ByteArray := prog_3_method_1_code
def yX1_init : MethodName := ⟨RX1, "<init>", "()V"⟩
def dkwX1_init_0 : List UInt8 := [42, 183, 0, 1, 42, 17, 16, 0, 188, 8, 181, 0, 7, 177]
abbrev dktX1_init_0 : List UInt8 := dkwX1_init_0 ++ []
theorem dksX1_init_0 : cX1_init.data.toList.drop 0 = dktX1_init_0 := by decide +kernel
theorem dX1_init_0 : decode cX1_init 0 = .ok (.aload_n 0, 1) := dk_42 (dk_at dksX1_init_0 0 rfl rfl)
theorem dX1_init_1 : decode cX1_init 1 = .ok (.invokespecial 1, 3) := dk_183 0 1 (dk_at dksX1_init_0 1 rfl rfl)
theorem dX1_init_4 : decode cX1_init 4 = .ok (.aload_n 0, 1) := dk_42 (dk_at dksX1_init_0 4 rfl rfl)
theorem dX1_init_5 : decode cX1_init 5 = .ok (.sipush 4096, 3) := dk_17 16 0 (dk_at dksX1_init_0 5 rfl rfl)
theorem dX1_init_8 : decode cX1_init 8 = .ok (.newarray .byte, 2) := dk_188_8 (dk_at dksX1_init_0 8 rfl rfl)
theorem dX1_init_10 : decode cX1_init 10 = .ok (.putfield 7, 3) := dk_181 0 7 (dk_at dksX1_init_0 10 rfl rfl)
theorem dX1_init_13 : decode cX1_init 13 = .ok (.return_, 1) := dk_177 (dk_at dksX1_init_0 13 rfl rfl)
abbrev cX1_put : ByteArray := prog_3_method_2_code
def yX1_put : MethodName := ⟨RX1, "put", "(IIII)Z"⟩
def dkwX1_put_3 : List UInt8 := [181, 0, 13, 4, 172]
abbrev dktX1_put_3 : List UInt8 := dkwX1_put_3 ++ []
def dkwX1_put_2 : List UInt8 := [182, 0, 17, 42, 42, 180, 0, 13, 16, 12, 96, 21, 4, 182, 0, 17, 42, 89, 180, 0, 13, 16, 16, 96]
abbrev dktX1_put_2 : List UInt8 := dkwX1_put_2 ++ dktX1_put_3
def dkwX1_put_1 : List UInt8 := [182, 0, 17, 42, 42, 180, 0, 13, 7, 96, 28, 182, 0, 17, 42, 42, 180, 0, 13, 16, 8, 96, 29]
abbrev dktX1_put_1 : List UInt8 := dkwX1_put_1 ++ dktX1_put_2
def dkwX1_put_0 : List UInt8 := [42, 180, 0, 13, 42, 180, 0, 7, 190, 16, 16, 100, 164, 0, 5, 3, 172, 42, 42, 180, 0, 13, 27]
abbrev dktX1_put_0 : List UInt8 := dkwX1_put_0 ++ dktX1_put_1
theorem dksX1_put_0 : cX1_put.data.toList.drop 0 = dktX1_put_0 := by decide +kernel
theorem dksX1_put_1 : cX1_put.data.toList.drop 23 = dktX1_put_1 := dk_seg dksX1_put_0 23 rfl rfl
theorem dksX1_put_2 : cX1_put.data.toList.drop 46 = dktX1_put_2 := dk_seg dksX1_put_1 23 rfl rfl
theorem dksX1_put_3 : cX1_put.data.toList.drop 70 = dktX1_put_3 := dk_seg dksX1_put_2 24 rfl rfl
theorem dX1_put_0 : decode cX1_put 0 = .ok (.aload_n 0, 1) := dk_42 (dk_at dksX1_put_0 0 rfl rfl)
theorem dX1_put_1 : decode cX1_put 1 = .ok (.getfield 13, 3) := dk_180 0 13 (dk_at dksX1_put_0 1 rfl rfl)
theorem dX1_put_4 : decode cX1_put 4 = .ok (.aload_n 0, 1) := dk_42 (dk_at dksX1_put_0 4 rfl rfl)
theorem dX1_put_5 : decode cX1_put 5 = .ok (.getfield 7, 3) := dk_180 0 7 (dk_at dksX1_put_0 5 rfl rfl)
theorem dX1_put_8 : decode cX1_put 8 = .ok (.arraylength, 1) := dk_190 (dk_at dksX1_put_0 8 rfl rfl)
theorem dX1_put_9 : decode cX1_put 9 = .ok (.bipush 16, 2) := dk_16 16 (dk_at dksX1_put_0 9 rfl rfl)
theorem dX1_put_11 : decode cX1_put 11 = .ok (.isub, 1) := dk_100 (dk_at dksX1_put_0 11 rfl rfl)
theorem dX1_put_12 : decode cX1_put 12 = .ok (.if_icmp .le 5, 3) := dk_164 0 5 (dk_at dksX1_put_0 12 rfl rfl)
theorem dX1_put_15 : decode cX1_put 15 = .ok (.iconst 0, 1) := dk_3 (dk_at dksX1_put_0 15 rfl rfl)
theorem dX1_put_16 : decode cX1_put 16 = .ok (.ireturn, 1) := dk_172 (dk_at dksX1_put_0 16 rfl rfl)
theorem dX1_put_17 : decode cX1_put 17 = .ok (.aload_n 0, 1) := dk_42 (dk_at dksX1_put_0 17 rfl rfl)
theorem dX1_put_18 : decode cX1_put 18 = .ok (.aload_n 0, 1) := dk_42 (dk_at dksX1_put_0 18 rfl rfl)
theorem dX1_put_19 : decode cX1_put 19 = .ok (.getfield 13, 3) := dk_180 0 13 (dk_at dksX1_put_0 19 rfl rfl)
theorem dX1_put_22 : decode cX1_put 22 = .ok (.iload_n 1, 1) := dk_27 (dk_at dksX1_put_0 22 rfl rfl)
theorem dX1_put_23 : decode cX1_put 23 = .ok (.invokevirtual 17, 3) := dk_182 0 17 (dk_at dksX1_put_1 0 rfl rfl)
theorem dX1_put_26 : decode cX1_put 26 = .ok (.aload_n 0, 1) := dk_42 (dk_at dksX1_put_1 3 rfl rfl)
theorem dX1_put_27 : decode cX1_put 27 = .ok (.aload_n 0, 1) := dk_42 (dk_at dksX1_put_1 4 rfl rfl)
theorem dX1_put_28 : decode cX1_put 28 = .ok (.getfield 13, 3) := dk_180 0 13 (dk_at dksX1_put_1 5 rfl rfl)
theorem dX1_put_31 : decode cX1_put 31 = .ok (.iconst 4, 1) := dk_7 (dk_at dksX1_put_1 8 rfl rfl)
theorem dX1_put_32 : decode cX1_put 32 = .ok (.iadd, 1) := dk_96 (dk_at dksX1_put_1 9 rfl rfl)
theorem dX1_put_33 : decode cX1_put 33 = .ok (.iload_n 2, 1) := dk_28 (dk_at dksX1_put_1 10 rfl rfl)
theorem dX1_put_34 : decode cX1_put 34 = .ok (.invokevirtual 17, 3) := dk_182 0 17 (dk_at dksX1_put_1 11 rfl rfl)
theorem dX1_put_37 : decode cX1_put 37 = .ok (.aload_n 0, 1) := dk_42 (dk_at dksX1_put_1 14 rfl rfl)
theorem dX1_put_38 : decode cX1_put 38 = .ok (.aload_n 0, 1) := dk_42 (dk_at dksX1_put_1 15 rfl rfl)
theorem dX1_put_39 : decode cX1_put 39 = .ok (.getfield 13, 3) := dk_180 0 13 (dk_at dksX1_put_1 16 rfl rfl)
theorem dX1_put_42 : decode cX1_put 42 = .ok (.bipush 8, 2) := dk_16 8 (dk_at dksX1_put_1 19 rfl rfl)
theorem dX1_put_44 : decode cX1_put 44 = .ok (.iadd, 1) := dk_96 (dk_at dksX1_put_1 21 rfl rfl)
theorem dX1_put_45 : decode cX1_put 45 = .ok (.iload_n 3, 1) := dk_29 (dk_at dksX1_put_1 22 rfl rfl)
theorem dX1_put_46 : decode cX1_put 46 = .ok (.invokevirtual 17, 3) := dk_182 0 17 (dk_at dksX1_put_2 0 rfl rfl)
theorem dX1_put_49 : decode cX1_put 49 = .ok (.aload_n 0, 1) := dk_42 (dk_at dksX1_put_2 3 rfl rfl)
theorem dX1_put_50 : decode cX1_put 50 = .ok (.aload_n 0, 1) := dk_42 (dk_at dksX1_put_2 4 rfl rfl)
theorem dX1_put_51 : decode cX1_put 51 = .ok (.getfield 13, 3) := dk_180 0 13 (dk_at dksX1_put_2 5 rfl rfl)
theorem dX1_put_54 : decode cX1_put 54 = .ok (.bipush 12, 2) := dk_16 12 (dk_at dksX1_put_2 8 rfl rfl)
theorem dX1_put_56 : decode cX1_put 56 = .ok (.iadd, 1) := dk_96 (dk_at dksX1_put_2 10 rfl rfl)
theorem dX1_put_57 : decode cX1_put 57 = .ok (.iload 4, 2) := dk_21 4 (dk_at dksX1_put_2 11 rfl rfl)
theorem dX1_put_59 : decode cX1_put 59 = .ok (.invokevirtual 17, 3) := dk_182 0 17 (dk_at dksX1_put_2 13 rfl rfl)
theorem dX1_put_62 : decode cX1_put 62 = .ok (.aload_n 0, 1) := dk_42 (dk_at dksX1_put_2 16 rfl rfl)
theorem dX1_put_63 : decode cX1_put 63 = .ok (.dup, 1) := dk_89 (dk_at dksX1_put_2 17 rfl rfl)
theorem dX1_put_64 : decode cX1_put 64 = .ok (.getfield 13, 3) := dk_180 0 13 (dk_at dksX1_put_2 18 rfl rfl)
theorem dX1_put_67 : decode cX1_put 67 = .ok (.bipush 16, 2) := dk_16 16 (dk_at dksX1_put_2 21 rfl rfl)
theorem dX1_put_69 : decode cX1_put 69 = .ok (.iadd, 1) := dk_96 (dk_at dksX1_put_2 23 rfl rfl)
theorem dX1_put_70 : decode cX1_put 70 = .ok (.putfield 13, 3) := dk_181 0 13 (dk_at dksX1_put_3 0 rfl rfl)
theorem dX1_put_73 : decode cX1_put 73 = .ok (.iconst 1, 1) := dk_4 (dk_at dksX1_put_3 3 rfl rfl)
theorem dX1_put_74 : decode cX1_put 74 = .ok (.ireturn, 1) := dk_172 (dk_at dksX1_put_3 4 rfl rfl)
abbrev cX1_word : ByteArray := prog_3_method_3_code
def yX1_word : MethodName := ⟨RX1, "word", "(II)V"⟩
def dkwX1_word_1 : List UInt8 := [42, 180, 0, 7, 27, 5, 96, 28, 16, 8, 122, 145, 84, 42, 180, 0, 7, 27, 6, 96, 28, 145, 84, 177]
abbrev dktX1_word_1 : List UInt8 := dkwX1_word_1 ++ []
def dkwX1_word_0 : List UInt8 := [42, 180, 0, 7, 27, 28, 16, 24, 122, 145, 84, 42, 180, 0, 7, 27, 4, 96, 28, 16, 16, 122, 145, 84]
abbrev dktX1_word_0 : List UInt8 := dkwX1_word_0 ++ dktX1_word_1
theorem dksX1_word_0 : cX1_word.data.toList.drop 0 = dktX1_word_0 := by decide +kernel
theorem dksX1_word_1 : cX1_word.data.toList.drop 24 = dktX1_word_1 := dk_seg dksX1_word_0 24 rfl rfl
theorem dX1_word_0 : decode cX1_word 0 = .ok (.aload_n 0, 1) := dk_42 (dk_at dksX1_word_0 0 rfl rfl)
theorem dX1_word_1 : decode cX1_word 1 = .ok (.getfield 7, 3) := dk_180 0 7 (dk_at dksX1_word_0 1 rfl rfl)
theorem dX1_word_4 : decode cX1_word 4 = .ok (.iload_n 1, 1) := dk_27 (dk_at dksX1_word_0 4 rfl rfl)
theorem dX1_word_5 : decode cX1_word 5 = .ok (.iload_n 2, 1) := dk_28 (dk_at dksX1_word_0 5 rfl rfl)
theorem dX1_word_6 : decode cX1_word 6 = .ok (.bipush 24, 2) := dk_16 24 (dk_at dksX1_word_0 6 rfl rfl)
theorem dX1_word_8 : decode cX1_word 8 = .ok (.ishr, 1) := dk_122 (dk_at dksX1_word_0 8 rfl rfl)
theorem dX1_word_9 : decode cX1_word 9 = .ok (.i2b, 1) := dk_145 (dk_at dksX1_word_0 9 rfl rfl)
theorem dX1_word_10 : decode cX1_word 10 = .ok (.bastore, 1) := dk_84 (dk_at dksX1_word_0 10 rfl rfl)
theorem dX1_word_11 : decode cX1_word 11 = .ok (.aload_n 0, 1) := dk_42 (dk_at dksX1_word_0 11 rfl rfl)
theorem dX1_word_12 : decode cX1_word 12 = .ok (.getfield 7, 3) := dk_180 0 7 (dk_at dksX1_word_0 12 rfl rfl)
theorem dX1_word_15 : decode cX1_word 15 = .ok (.iload_n 1, 1) := dk_27 (dk_at dksX1_word_0 15 rfl rfl)
theorem dX1_word_16 : decode cX1_word 16 = .ok (.iconst 1, 1) := dk_4 (dk_at dksX1_word_0 16 rfl rfl)
theorem dX1_word_17 : decode cX1_word 17 = .ok (.iadd, 1) := dk_96 (dk_at dksX1_word_0 17 rfl rfl)
theorem dX1_word_18 : decode cX1_word 18 = .ok (.iload_n 2, 1) := dk_28 (dk_at dksX1_word_0 18 rfl rfl)
theorem dX1_word_19 : decode cX1_word 19 = .ok (.bipush 16, 2) := dk_16 16 (dk_at dksX1_word_0 19 rfl rfl)
theorem dX1_word_21 : decode cX1_word 21 = .ok (.ishr, 1) := dk_122 (dk_at dksX1_word_0 21 rfl rfl)
theorem dX1_word_22 : decode cX1_word 22 = .ok (.i2b, 1) := dk_145 (dk_at dksX1_word_0 22 rfl rfl)
theorem dX1_word_23 : decode cX1_word 23 = .ok (.bastore, 1) := dk_84 (dk_at dksX1_word_0 23 rfl rfl)
theorem dX1_word_24 : decode cX1_word 24 = .ok (.aload_n 0, 1) := dk_42 (dk_at dksX1_word_1 0 rfl rfl)
theorem dX1_word_25 : decode cX1_word 25 = .ok (.getfield 7, 3) := dk_180 0 7 (dk_at dksX1_word_1 1 rfl rfl)
theorem dX1_word_28 : decode cX1_word 28 = .ok (.iload_n 1, 1) := dk_27 (dk_at dksX1_word_1 4 rfl rfl)
theorem dX1_word_29 : decode cX1_word 29 = .ok (.iconst 2, 1) := dk_5 (dk_at dksX1_word_1 5 rfl rfl)
theorem dX1_word_30 : decode cX1_word 30 = .ok (.iadd, 1) := dk_96 (dk_at dksX1_word_1 6 rfl rfl)
theorem dX1_word_31 : decode cX1_word 31 = .ok (.iload_n 2, 1) := dk_28 (dk_at dksX1_word_1 7 rfl rfl)
theorem dX1_word_32 : decode cX1_word 32 = .ok (.bipush 8, 2) := dk_16 8 (dk_at dksX1_word_1 8 rfl rfl)
theorem dX1_word_34 : decode cX1_word 34 = .ok (.ishr, 1) := dk_122 (dk_at dksX1_word_1 10 rfl rfl)
theorem dX1_word_35 : decode cX1_word 35 = .ok (.i2b, 1) := dk_145 (dk_at dksX1_word_1 11 rfl rfl)
theorem dX1_word_36 : decode cX1_word 36 = .ok (.bastore, 1) := dk_84 (dk_at dksX1_word_1 12 rfl rfl)
theorem dX1_word_37 : decode cX1_word 37 = .ok (.aload_n 0, 1) := dk_42 (dk_at dksX1_word_1 13 rfl rfl)
theorem dX1_word_38 : decode cX1_word 38 = .ok (.getfield 7, 3) := dk_180 0 7 (dk_at dksX1_word_1 14 rfl rfl)
theorem dX1_word_41 : decode cX1_word 41 = .ok (.iload_n 1, 1) := dk_27 (dk_at dksX1_word_1 17 rfl rfl)
theorem dX1_word_42 : decode cX1_word 42 = .ok (.iconst 3, 1) := dk_6 (dk_at dksX1_word_1 18 rfl rfl)
theorem dX1_word_43 : decode cX1_word 43 = .ok (.iadd, 1) := dk_96 (dk_at dksX1_word_1 19 rfl rfl)
theorem dX1_word_44 : decode cX1_word 44 = .ok (.iload_n 2, 1) := dk_28 (dk_at dksX1_word_1 20 rfl rfl)
theorem dX1_word_45 : decode cX1_word 45 = .ok (.i2b, 1) := dk_145 (dk_at dksX1_word_1 21 rfl rfl)
theorem dX1_word_46 : decode cX1_word 46 = .ok (.bastore, 1) := dk_84 (dk_at dksX1_word_1 22 rfl rfl)
theorem dX1_word_47 : decode cX1_word 47 = .ok (.return_, 1) := dk_177 (dk_at dksX1_word_1 23 rfl rfl)
abbrev cX1_sign : ByteArray := prog_3_method_9_code
def yX1_sign : MethodName := ⟨RX1, "sign", "(II)V"⟩
def dkwX1_sign_1 : List UInt8 := [84, 177]
abbrev dktX1_sign_1 : List UInt8 := dkwX1_sign_1 ++ []
def dkwX1_sign_0 : List UInt8 := [42, 180, 0, 13, 158, 0, 21, 27, 18, 25, 126, 42, 180, 0, 13, 112, 62, 42, 180, 0, 7, 29, 28, 145]
abbrev dktX1_sign_0 : List UInt8 := dkwX1_sign_0 ++ dktX1_sign_1
theorem dksX1_sign_0 : cX1_sign.data.toList.drop 0 = dktX1_sign_0 := by decide +kernel
theorem dksX1_sign_1 : cX1_sign.data.toList.drop 24 = dktX1_sign_1 := dk_seg dksX1_sign_0 24 rfl rfl
theorem dX1_sign_0 : decode cX1_sign 0 = .ok (.aload_n 0, 1) := dk_42 (dk_at dksX1_sign_0 0 rfl rfl)
theorem dX1_sign_1 : decode cX1_sign 1 = .ok (.getfield 13, 3) := dk_180 0 13 (dk_at dksX1_sign_0 1 rfl rfl)
theorem dX1_sign_4 : decode cX1_sign 4 = .ok (.ifCond .le 21, 3) := dk_158 0 21 (dk_at dksX1_sign_0 4 rfl rfl)
theorem dX1_sign_7 : decode cX1_sign 7 = .ok (.iload_n 1, 1) := dk_27 (dk_at dksX1_sign_0 7 rfl rfl)
theorem dX1_sign_8 : decode cX1_sign 8 = .ok (.ldc 25, 2) := dk_18 25 (dk_at dksX1_sign_0 8 rfl rfl)
theorem dX1_sign_10 : decode cX1_sign 10 = .ok (.iand, 1) := dk_126 (dk_at dksX1_sign_0 10 rfl rfl)
theorem dX1_sign_11 : decode cX1_sign 11 = .ok (.aload_n 0, 1) := dk_42 (dk_at dksX1_sign_0 11 rfl rfl)
theorem dX1_sign_12 : decode cX1_sign 12 = .ok (.getfield 13, 3) := dk_180 0 13 (dk_at dksX1_sign_0 12 rfl rfl)
theorem dX1_sign_15 : decode cX1_sign 15 = .ok (.irem, 1) := dk_112 (dk_at dksX1_sign_0 15 rfl rfl)
theorem dX1_sign_16 : decode cX1_sign 16 = .ok (.istore_n 3, 1) := dk_62 (dk_at dksX1_sign_0 16 rfl rfl)
theorem dX1_sign_17 : decode cX1_sign 17 = .ok (.aload_n 0, 1) := dk_42 (dk_at dksX1_sign_0 17 rfl rfl)
theorem dX1_sign_18 : decode cX1_sign 18 = .ok (.getfield 7, 3) := dk_180 0 7 (dk_at dksX1_sign_0 18 rfl rfl)
theorem dX1_sign_21 : decode cX1_sign 21 = .ok (.iload_n 3, 1) := dk_29 (dk_at dksX1_sign_0 21 rfl rfl)
theorem dX1_sign_22 : decode cX1_sign 22 = .ok (.iload_n 2, 1) := dk_28 (dk_at dksX1_sign_0 22 rfl rfl)
theorem dX1_sign_23 : decode cX1_sign 23 = .ok (.i2b, 1) := dk_145 (dk_at dksX1_sign_0 23 rfl rfl)
theorem dX1_sign_24 : decode cX1_sign 24 = .ok (.bastore, 1) := dk_84 (dk_at dksX1_sign_1 0 rfl rfl)
theorem dX1_sign_25 : decode cX1_sign 25 = .ok (.return_, 1) := dk_177 (dk_at dksX1_sign_1 1 rfl rfl)
abbrev cX1_trim : ByteArray := prog_3_method_4_code
def yX1_trim : MethodName := ⟨RX1, "trim", "(I)V"⟩
def dkwX1_trim_0 : List UInt8 := [42, 42, 27, 182, 0, 21, 181, 0, 13, 177]
abbrev dktX1_trim_0 : List UInt8 := dkwX1_trim_0 ++ []
theorem dksX1_trim_0 : cX1_trim.data.toList.drop 0 = dktX1_trim_0 := by decide +kernel
theorem dX1_trim_0 : decode cX1_trim 0 = .ok (.aload_n 0, 1) := dk_42 (dk_at dksX1_trim_0 0 rfl rfl)
theorem dX1_trim_1 : decode cX1_trim 1 = .ok (.aload_n 0, 1) := dk_42 (dk_at dksX1_trim_0 1 rfl rfl)
theorem dX1_trim_2 : decode cX1_trim 2 = .ok (.iload_n 1, 1) := dk_27 (dk_at dksX1_trim_0 2 rfl rfl)
theorem dX1_trim_3 : decode cX1_trim 3 = .ok (.invokevirtual 21, 3) := dk_182 0 21 (dk_at dksX1_trim_0 3 rfl rfl)
theorem dX1_trim_6 : decode cX1_trim 6 = .ok (.putfield 13, 3) := dk_181 0 13 (dk_at dksX1_trim_0 6 rfl rfl)
theorem dX1_trim_9 : decode cX1_trim 9 = .ok (.return_, 1) := dk_177 (dk_at dksX1_trim_0 9 rfl rfl)
abbrev cX1_from : ByteArray := prog_3_method_6_code
def yX1_from : MethodName := ⟨RX1, "from", "(I)I"⟩
def dkwX1_from_0 : List UInt8 := [27, 18, 25, 126, 42, 180, 0, 13, 4, 96, 112, 172]
abbrev dktX1_from_0 : List UInt8 := dkwX1_from_0 ++ []
theorem dksX1_from_0 : cX1_from.data.toList.drop 0 = dktX1_from_0 := by decide +kernel
theorem dX1_from_0 : decode cX1_from 0 = .ok (.iload_n 1, 1) := dk_27 (dk_at dksX1_from_0 0 rfl rfl)
theorem dX1_from_1 : decode cX1_from 1 = .ok (.ldc 25, 2) := dk_18 25 (dk_at dksX1_from_0 1 rfl rfl)
theorem dX1_from_3 : decode cX1_from 3 = .ok (.iand, 1) := dk_126 (dk_at dksX1_from_0 3 rfl rfl)
theorem dX1_from_4 : decode cX1_from 4 = .ok (.aload_n 0, 1) := dk_42 (dk_at dksX1_from_0 4 rfl rfl)
theorem dX1_from_5 : decode cX1_from 5 = .ok (.getfield 13, 3) := dk_180 0 13 (dk_at dksX1_from_0 5 rfl rfl)
theorem dX1_from_8 : decode cX1_from 8 = .ok (.iconst 1, 1) := dk_4 (dk_at dksX1_from_0 8 rfl rfl)
theorem dX1_from_9 : decode cX1_from 9 = .ok (.iadd, 1) := dk_96 (dk_at dksX1_from_0 9 rfl rfl)
theorem dX1_from_10 : decode cX1_from 10 = .ok (.irem, 1) := dk_112 (dk_at dksX1_from_0 10 rfl rfl)
theorem dX1_from_11 : decode cX1_from 11 = .ok (.ireturn, 1) := dk_172 (dk_at dksX1_from_0 11 rfl rfl)
abbrev cX1_size : ByteArray := prog_3_method_5_code
def yX1_size : MethodName := ⟨RX1, "size", "()I"⟩
theorem dX1_size_0 : decode cX1_size 0 = .ok (.aload_n 0, 1) := by decide +kernel
theorem dX1_size_1 : decode cX1_size 1 = .ok (.getfield 13, 3) := by decide +kernel
theorem dX1_size_4 : decode cX1_size 4 = .ok (.ireturn, 1) := by decide +kernel
abbrev cX1_fair : ByteArray := prog_3_method_8_code
def yX1_fair : MethodName := ⟨RX1, "fair", "(II)Z"⟩
def dkwX1_fair_0 : List UInt8 := [42, 27, 182, 0, 21, 62, 42, 180, 0, 7, 29, 42, 29, 28, 182, 0, 26, 184, 0, 30, 172]
abbrev dktX1_fair_0 : List UInt8 := dkwX1_fair_0 ++ []
theorem dksX1_fair_0 : cX1_fair.data.toList.drop 0 = dktX1_fair_0 := by decide +kernel
theorem dX1_fair_0 : decode cX1_fair 0 = .ok (.aload_n 0, 1) := dk_42 (dk_at dksX1_fair_0 0 rfl rfl)
theorem dX1_fair_1 : decode cX1_fair 1 = .ok (.iload_n 1, 1) := dk_27 (dk_at dksX1_fair_0 1 rfl rfl)
theorem dX1_fair_2 : decode cX1_fair 2 = .ok (.invokevirtual 21, 3) := dk_182 0 21 (dk_at dksX1_fair_0 2 rfl rfl)
theorem dX1_fair_5 : decode cX1_fair 5 = .ok (.istore_n 3, 1) := dk_62 (dk_at dksX1_fair_0 5 rfl rfl)
theorem dX1_fair_6 : decode cX1_fair 6 = .ok (.aload_n 0, 1) := dk_42 (dk_at dksX1_fair_0 6 rfl rfl)
theorem dX1_fair_7 : decode cX1_fair 7 = .ok (.getfield 7, 3) := dk_180 0 7 (dk_at dksX1_fair_0 7 rfl rfl)
theorem dX1_fair_10 : decode cX1_fair 10 = .ok (.iload_n 3, 1) := dk_29 (dk_at dksX1_fair_0 10 rfl rfl)
theorem dX1_fair_11 : decode cX1_fair 11 = .ok (.aload_n 0, 1) := dk_42 (dk_at dksX1_fair_0 11 rfl rfl)
theorem dX1_fair_12 : decode cX1_fair 12 = .ok (.iload_n 3, 1) := dk_29 (dk_at dksX1_fair_0 12 rfl rfl)
theorem dX1_fair_13 : decode cX1_fair 13 = .ok (.iload_n 2, 1) := dk_28 (dk_at dksX1_fair_0 13 rfl rfl)
theorem dX1_fair_14 : decode cX1_fair 14 = .ok (.invokevirtual 26, 3) := dk_182 0 26 (dk_at dksX1_fair_0 14 rfl rfl)
theorem dX1_fair_17 : decode cX1_fair 17 = .ok (.invokestatic 30, 3) := dk_184 0 30 (dk_at dksX1_fair_0 17 rfl rfl)
theorem dX1_fair_20 : decode cX1_fair 20 = .ok (.ireturn, 1) := dk_172 (dk_at dksX1_fair_0 20 rfl rfl)
abbrev cX1_count : ByteArray := prog_3_method_7_code
def yX1_count : MethodName := ⟨RX1, "count", "(II)I"⟩
def dkwX1_count_0 : List UInt8 := [28, 18, 25, 126, 42, 180, 0, 13, 27, 100, 4, 96, 112, 172]
abbrev dktX1_count_0 : List UInt8 := dkwX1_count_0 ++ []
theorem dksX1_count_0 : cX1_count.data.toList.drop 0 = dktX1_count_0 := by decide +kernel
theorem dX1_count_0 : decode cX1_count 0 = .ok (.iload_n 2, 1) := dk_28 (dk_at dksX1_count_0 0 rfl rfl)
theorem dX1_count_1 : decode cX1_count 1 = .ok (.ldc 25, 2) := dk_18 25 (dk_at dksX1_count_0 1 rfl rfl)
theorem dX1_count_3 : decode cX1_count 3 = .ok (.iand, 1) := dk_126 (dk_at dksX1_count_0 3 rfl rfl)
theorem dX1_count_4 : decode cX1_count 4 = .ok (.aload_n 0, 1) := dk_42 (dk_at dksX1_count_0 4 rfl rfl)
theorem dX1_count_5 : decode cX1_count 5 = .ok (.getfield 13, 3) := dk_180 0 13 (dk_at dksX1_count_0 5 rfl rfl)
theorem dX1_count_8 : decode cX1_count 8 = .ok (.iload_n 1, 1) := dk_27 (dk_at dksX1_count_0 8 rfl rfl)
theorem dX1_count_9 : decode cX1_count 9 = .ok (.isub, 1) := dk_100 (dk_at dksX1_count_0 9 rfl rfl)
theorem dX1_count_10 : decode cX1_count 10 = .ok (.iconst 1, 1) := dk_4 (dk_at dksX1_count_0 10 rfl rfl)
theorem dX1_count_11 : decode cX1_count 11 = .ok (.iadd, 1) := dk_96 (dk_at dksX1_count_0 11 rfl rfl)
theorem dX1_count_12 : decode cX1_count 12 = .ok (.irem, 1) := dk_112 (dk_at dksX1_count_0 12 rfl rfl)
theorem dX1_count_13 : decode cX1_count 13 = .ok (.ireturn, 1) := dk_172 (dk_at dksX1_count_0 13 rfl rfl)
theorem q5 : (Jvm.Cond.initialized "WireText") ∈ lw_all := lw_g (lw_at lw_m0 1 rfl) rfl
theorem q16 : (Jvm.Cond.instantiable "WireText" (2 : Nat)) ∈ lw_all := lw_g (lw_at lw_m0 12 rfl) rfl
theorem q18 : (Jvm.Cond.instanceMethod ({ cls := "WireText", name := "<init>", desc := "()V" } : Jvm.MethodName)) ∈ lw_all := lw_g (lw_at lw_m0 14 rfl) rfl
theorem q19 : (Jvm.Cond.code ({ cls := "WireText", name := "<init>", desc := "()V" } : Jvm.MethodName) prog_3_method_1_code (1 : Nat) (Option.none : Option Jvm.ClassFile.FieldType)) ∈ lw_all := lw_g (lw_at lw_m0 15 rfl) rfl
theorem q20 : (Jvm.Cond.methodLink "WireText" (1 : Nat) ({ cls := "java/lang/Object", name := "<init>", desc := "()V" } : Jvm.MethodName)) ∈ lw_all := lw_g (lw_at lw_m0 16 rfl) rfl
theorem q23 : (Jvm.Cond.fieldLink "WireText" (7 : Nat) "WireText" "text" "[B") ∈ lw_all := lw_g (lw_at lw_m0 19 rfl) rfl
theorem q24 : (Jvm.Cond.fieldLink "WireText" (13 : Nat) "WireText" "size" "I") ∈ lw_all := lw_g (lw_at lw_m0 20 rfl) rfl
theorem q25 : (Jvm.Cond.laysFinal "WireText" "WireText" "text" "[B") ∈ lw_all := lw_g (lw_at lw_m0 21 rfl) rfl
theorem q26 : (Jvm.Cond.soleField "WireText" "text") ∈ lw_all := lw_g (lw_at lw_m0 22 rfl) rfl
theorem q27 : (Jvm.Cond.lays "WireText" "WireText" "size" "I") ∈ lw_all := lw_g (lw_at lw_m0 23 rfl) rfl
theorem q28 : (Jvm.Cond.soleField "WireText" "size") ∈ lw_all := lw_g (lw_at lw_m0 24 rfl) rfl
theorem q29 : (Jvm.Cond.superclass "WireText" "java/lang/Object") ∈ lw_all := lw_g (lw_at lw_m0 25 rfl) rfl
theorem q32 : (Jvm.Cond.instanceMethod ({ cls := "WireText", name := "put", desc := "(IIII)Z" } : Jvm.MethodName)) ∈ lw_all := lw_g (lw_at lw_m0 28 rfl) rfl
theorem q33 : (Jvm.Cond.selects "WireText" ({ cls := "WireText", name := "put", desc := "(IIII)Z" } : Jvm.MethodName) ({ cls := "WireText", name := "put", desc := "(IIII)Z" } : Jvm.MethodName)) ∈ lw_all := lw_g (lw_at lw_m0 29 rfl) rfl
theorem q34 : (Jvm.Cond.code ({ cls := "WireText", name := "put", desc := "(IIII)Z" } : Jvm.MethodName) prog_3_method_2_code (5 : Nat) (Option.some Jvm.ClassFile.FieldType.boolean)) ∈ lw_all := lw_g (lw_at lw_m0 30 rfl) rfl
theorem q35 : (Jvm.Cond.methodLink "WireText" (17 : Nat) ({ cls := "WireText", name := "word", desc := "(II)V" } : Jvm.MethodName)) ∈ lw_all := lw_g (lw_at lw_m0 31 rfl) rfl
theorem q36 : (Jvm.Cond.privateMethod ({ cls := "WireText", name := "word", desc := "(II)V" } : Jvm.MethodName)) ∈ lw_tbl := lw_at lw_m0 32 rfl
theorem q37 : (Jvm.Cond.instanceMethod ({ cls := "WireText", name := "word", desc := "(II)V" } : Jvm.MethodName)) ∈ lw_all := lw_g (lw_at lw_m0 33 rfl) rfl
theorem q38 : (Jvm.Cond.code ({ cls := "WireText", name := "word", desc := "(II)V" } : Jvm.MethodName) prog_3_method_3_code (3 : Nat) (Option.none : Option Jvm.ClassFile.FieldType)) ∈ lw_all := lw_g (lw_at lw_m0 34 rfl) rfl
theorem q46 : (Jvm.Cond.instanceMethod ({ cls := "WireText", name := "sign", desc := "(II)V" } : Jvm.MethodName)) ∈ lw_all := lw_g (lw_at lw_m0 42 rfl) rfl
theorem q47 : (Jvm.Cond.selects "WireText" ({ cls := "WireText", name := "sign", desc := "(II)V" } : Jvm.MethodName) ({ cls := "WireText", name := "sign", desc := "(II)V" } : Jvm.MethodName)) ∈ lw_all := lw_g (lw_at lw_m0 43 rfl) rfl
theorem q48 : (Jvm.Cond.code ({ cls := "WireText", name := "sign", desc := "(II)V" } : Jvm.MethodName) prog_3_method_9_code (4 : Nat) (Option.none : Option Jvm.ClassFile.FieldType)) ∈ lw_all := lw_g (lw_at lw_m0 44 rfl) rfl
theorem q49 : (Jvm.Cond.constant "WireText" (25 : Nat) (2147483647 : Int32)) ∈ lw_all := lw_g (lw_at lw_m0 45 rfl) rfl
theorem q55 : (Jvm.Cond.instanceMethod ({ cls := "WireText", name := "trim", desc := "(I)V" } : Jvm.MethodName)) ∈ lw_all := lw_g (lw_at lw_m0 51 rfl) rfl
theorem q56 : (Jvm.Cond.selects "WireText" ({ cls := "WireText", name := "trim", desc := "(I)V" } : Jvm.MethodName) ({ cls := "WireText", name := "trim", desc := "(I)V" } : Jvm.MethodName)) ∈ lw_all := lw_g (lw_at lw_m0 52 rfl) rfl
theorem q57 : (Jvm.Cond.code ({ cls := "WireText", name := "trim", desc := "(I)V" } : Jvm.MethodName) prog_3_method_4_code (2 : Nat) (Option.none : Option Jvm.ClassFile.FieldType)) ∈ lw_all := lw_g (lw_at lw_m0 53 rfl) rfl
theorem q58 : (Jvm.Cond.methodLink "WireText" (21 : Nat) ({ cls := "WireText", name := "from", desc := "(I)I" } : Jvm.MethodName)) ∈ lw_all := lw_g (lw_at lw_m0 54 rfl) rfl
theorem q59 : (Jvm.Cond.privateMethod ({ cls := "WireText", name := "from", desc := "(I)I" } : Jvm.MethodName)) ∈ lw_tbl := lw_at lw_m0 55 rfl
theorem q60 : (Jvm.Cond.instanceMethod ({ cls := "WireText", name := "from", desc := "(I)I" } : Jvm.MethodName)) ∈ lw_all := lw_g (lw_at lw_m0 56 rfl) rfl
theorem q61 : (Jvm.Cond.code ({ cls := "WireText", name := "from", desc := "(I)I" } : Jvm.MethodName) prog_3_method_6_code (2 : Nat) (Option.some Jvm.ClassFile.FieldType.int)) ∈ lw_all := lw_g (lw_at lw_m0 57 rfl) rfl
theorem q63 : (Jvm.Cond.instanceMethod ({ cls := "WireText", name := "size", desc := "()I" } : Jvm.MethodName)) ∈ lw_all := lw_g (lw_at lw_m0 59 rfl) rfl
theorem q64 : (Jvm.Cond.selects "WireText" ({ cls := "WireText", name := "size", desc := "()I" } : Jvm.MethodName) ({ cls := "WireText", name := "size", desc := "()I" } : Jvm.MethodName)) ∈ lw_all := lw_g (lw_at lw_m0 60 rfl) rfl
theorem q65 : (Jvm.Cond.code ({ cls := "WireText", name := "size", desc := "()I" } : Jvm.MethodName) prog_3_method_5_code (1 : Nat) (Option.some Jvm.ClassFile.FieldType.int)) ∈ lw_all := lw_g (lw_at lw_m0 61 rfl) rfl
theorem q67 : (Jvm.Cond.instanceMethod ({ cls := "WireText", name := "fair", desc := "(II)Z" } : Jvm.MethodName)) ∈ lw_all := lw_g (lw_at lw_m0 63 rfl) rfl
theorem q68 : (Jvm.Cond.selects "WireText" ({ cls := "WireText", name := "fair", desc := "(II)Z" } : Jvm.MethodName) ({ cls := "WireText", name := "fair", desc := "(II)Z" } : Jvm.MethodName)) ∈ lw_all := lw_g (lw_at lw_m0 64 rfl) rfl
theorem q69 : (Jvm.Cond.code ({ cls := "WireText", name := "fair", desc := "(II)Z" } : Jvm.MethodName) prog_3_method_8_code (4 : Nat) (Option.some Jvm.ClassFile.FieldType.boolean)) ∈ lw_all := lw_g (lw_at lw_m0 65 rfl) rfl
theorem q70 : (Jvm.Cond.methodLink "WireText" (26 : Nat) ({ cls := "WireText", name := "count", desc := "(II)I" } : Jvm.MethodName)) ∈ lw_all := lw_g (lw_at lw_m0 66 rfl) rfl
theorem q71 : (Jvm.Cond.privateMethod ({ cls := "WireText", name := "count", desc := "(II)I" } : Jvm.MethodName)) ∈ lw_tbl := lw_at lw_m0 67 rfl
theorem q72 : (Jvm.Cond.instanceMethod ({ cls := "WireText", name := "count", desc := "(II)I" } : Jvm.MethodName)) ∈ lw_all := lw_g (lw_at lw_m0 68 rfl) rfl
theorem q73 : (Jvm.Cond.code ({ cls := "WireText", name := "count", desc := "(II)I" } : Jvm.MethodName) prog_3_method_7_code (3 : Nat) (Option.some Jvm.ClassFile.FieldType.int)) ∈ lw_all := lw_g (lw_at lw_m0 69 rfl) rfl
theorem q74 : (Jvm.Cond.methodLink "WireText" (30 : Nat) ({ cls := "Utf8", name := "isWellFormed", desc := "([BII)Z" } : Jvm.MethodName)) ∈ lw_all := lw_g (lw_at lw_m0 70 rfl) rfl
theorem in_X1 : ∀ w ∈ wsX10, w ∈ lw_all := lw_in wsX10 [25, 27] (by decide +kernel) (by decide +kernel)
/-! Utf8 -/
set_option maxRecDepth 100000
def RX2 : String := "Utf8"
abbrev cX2_isWellFormed : ByteArray := prog_2_method_1_code
def yX2_isWellFormed : MethodName := ⟨RX2, "isWellFormed", "([BII)Z"⟩
def dkwX2_isWellFormed_1 : List UInt8 := [156, 0, 11, 42, 21, 4, 29, 184, 0, 7, 172, 132, 4, 1, 167, 255, 232, 4, 172]
abbrev dktX2_isWellFormed_1 : List UInt8 := dkwX2_isWellFormed_1 ++ []
def dkwX2_isWellFormed_0 : List UInt8 := [27, 28, 96, 62, 27, 29, 42, 190, 184, 0, 1, 27, 54, 4, 21, 4, 29, 162, 0, 24, 42, 21, 4, 51]
abbrev dktX2_isWellFormed_0 : List UInt8 := dkwX2_isWellFormed_0 ++ dktX2_isWellFormed_1
theorem dksX2_isWellFormed_0 : cX2_isWellFormed.data.toList.drop 0 = dktX2_isWellFormed_0 := by decide +kernel
theorem dksX2_isWellFormed_1 : cX2_isWellFormed.data.toList.drop 24 = dktX2_isWellFormed_1 := dk_seg dksX2_isWellFormed_0 24 rfl rfl
theorem dX2_isWellFormed_0 : decode cX2_isWellFormed 0 = .ok (.iload_n 1, 1) := dk_27 (dk_at dksX2_isWellFormed_0 0 rfl rfl)
theorem dX2_isWellFormed_1 : decode cX2_isWellFormed 1 = .ok (.iload_n 2, 1) := dk_28 (dk_at dksX2_isWellFormed_0 1 rfl rfl)
theorem dX2_isWellFormed_2 : decode cX2_isWellFormed 2 = .ok (.iadd, 1) := dk_96 (dk_at dksX2_isWellFormed_0 2 rfl rfl)
theorem dX2_isWellFormed_3 : decode cX2_isWellFormed 3 = .ok (.istore_n 3, 1) := dk_62 (dk_at dksX2_isWellFormed_0 3 rfl rfl)
theorem dX2_isWellFormed_4 : decode cX2_isWellFormed 4 = .ok (.iload_n 1, 1) := dk_27 (dk_at dksX2_isWellFormed_0 4 rfl rfl)
theorem dX2_isWellFormed_5 : decode cX2_isWellFormed 5 = .ok (.iload_n 3, 1) := dk_29 (dk_at dksX2_isWellFormed_0 5 rfl rfl)
theorem dX2_isWellFormed_6 : decode cX2_isWellFormed 6 = .ok (.aload_n 0, 1) := dk_42 (dk_at dksX2_isWellFormed_0 6 rfl rfl)
theorem dX2_isWellFormed_7 : decode cX2_isWellFormed 7 = .ok (.arraylength, 1) := dk_190 (dk_at dksX2_isWellFormed_0 7 rfl rfl)
theorem dX2_isWellFormed_8 : decode cX2_isWellFormed 8 = .ok (.invokestatic 1, 3) := dk_184 0 1 (dk_at dksX2_isWellFormed_0 8 rfl rfl)
theorem dX2_isWellFormed_11 : decode cX2_isWellFormed 11 = .ok (.iload_n 1, 1) := dk_27 (dk_at dksX2_isWellFormed_0 11 rfl rfl)
theorem dX2_isWellFormed_12 : decode cX2_isWellFormed 12 = .ok (.istore 4, 2) := dk_54 4 (dk_at dksX2_isWellFormed_0 12 rfl rfl)
theorem dX2_isWellFormed_14 : decode cX2_isWellFormed 14 = .ok (.iload 4, 2) := dk_21 4 (dk_at dksX2_isWellFormed_0 14 rfl rfl)
theorem dX2_isWellFormed_16 : decode cX2_isWellFormed 16 = .ok (.iload_n 3, 1) := dk_29 (dk_at dksX2_isWellFormed_0 16 rfl rfl)
theorem dX2_isWellFormed_17 : decode cX2_isWellFormed 17 = .ok (.if_icmp .ge 24, 3) := dk_162 0 24 (dk_at dksX2_isWellFormed_0 17 rfl rfl)
theorem dX2_isWellFormed_20 : decode cX2_isWellFormed 20 = .ok (.aload_n 0, 1) := dk_42 (dk_at dksX2_isWellFormed_0 20 rfl rfl)
theorem dX2_isWellFormed_21 : decode cX2_isWellFormed 21 = .ok (.iload 4, 2) := dk_21 4 (dk_at dksX2_isWellFormed_0 21 rfl rfl)
theorem dX2_isWellFormed_23 : decode cX2_isWellFormed 23 = .ok (.baload, 1) := dk_51 (dk_at dksX2_isWellFormed_0 23 rfl rfl)
theorem dX2_isWellFormed_24 : decode cX2_isWellFormed 24 = .ok (.ifCond .ge 11, 3) := dk_156 0 11 (dk_at dksX2_isWellFormed_1 0 rfl rfl)
theorem dX2_isWellFormed_27 : decode cX2_isWellFormed 27 = .ok (.aload_n 0, 1) := dk_42 (dk_at dksX2_isWellFormed_1 3 rfl rfl)
theorem dX2_isWellFormed_28 : decode cX2_isWellFormed 28 = .ok (.iload 4, 2) := dk_21 4 (dk_at dksX2_isWellFormed_1 4 rfl rfl)
theorem dX2_isWellFormed_30 : decode cX2_isWellFormed 30 = .ok (.iload_n 3, 1) := dk_29 (dk_at dksX2_isWellFormed_1 6 rfl rfl)
theorem dX2_isWellFormed_31 : decode cX2_isWellFormed 31 = .ok (.invokestatic 7, 3) := dk_184 0 7 (dk_at dksX2_isWellFormed_1 7 rfl rfl)
theorem dX2_isWellFormed_34 : decode cX2_isWellFormed 34 = .ok (.ireturn, 1) := dk_172 (dk_at dksX2_isWellFormed_1 10 rfl rfl)
theorem dX2_isWellFormed_35 : decode cX2_isWellFormed 35 = .ok (.iinc 4 1, 3) := dk_132 4 1 (dk_at dksX2_isWellFormed_1 11 rfl rfl)
theorem dX2_isWellFormed_38 : decode cX2_isWellFormed 38 = .ok (.goto (-24), 3) := dk_167 255 232 (dk_at dksX2_isWellFormed_1 14 rfl rfl)
theorem dX2_isWellFormed_41 : decode cX2_isWellFormed 41 = .ok (.iconst 1, 1) := dk_4 (dk_at dksX2_isWellFormed_1 17 rfl rfl)
theorem dX2_isWellFormed_42 : decode cX2_isWellFormed 42 = .ok (.ireturn, 1) := dk_172 (dk_at dksX2_isWellFormed_1 18 rfl rfl)
abbrev cX2_isWellFormedSlowPath : ByteArray := prog_2_method_2_code
def yX2_isWellFormedSlowPath : MethodName := ⟨RX2, "isWellFormedSlowPath", "([BII)Z"⟩
def dkwX2_isWellFormedSlowPath_8 : List UInt8 := [16, 191, 164, 0, 5, 3, 172, 167, 255, 63]
abbrev dktX2_isWellFormedSlowPath_8 : List UInt8 := dkwX2_isWellFormedSlowPath_8 ++ []
def dkwX2_isWellFormedSlowPath_7 : List UInt8 := [16, 30, 122, 154, 0, 25, 42, 29, 132, 3, 1, 51, 16, 191, 163, 0, 14, 42, 29, 132, 3, 1, 51]
abbrev dktX2_isWellFormedSlowPath_7 : List UInt8 := dkwX2_isWellFormedSlowPath_7 ++ dktX2_isWellFormedSlowPath_8
def dkwX2_isWellFormedSlowPath_6 : List UInt8 := [132, 3, 1, 51, 54, 5, 21, 5, 16, 191, 163, 0, 42, 21, 4, 16, 28, 120, 21, 5, 16, 144, 100, 96]
abbrev dktX2_isWellFormedSlowPath_6 : List UInt8 := dkwX2_isWellFormedSlowPath_6 ++ dktX2_isWellFormedSlowPath_7
def dkwX2_isWellFormedSlowPath_5 : List UInt8 := [51, 16, 191, 164, 0, 5, 3, 172, 167, 0, 68, 29, 5, 96, 28, 161, 0, 5, 3, 172, 42, 29]
abbrev dktX2_isWellFormedSlowPath_5 : List UInt8 := dkwX2_isWellFormedSlowPath_5 ++ dktX2_isWellFormedSlowPath_6
def dkwX2_isWellFormedSlowPath_4 : List UInt8 := [16, 160, 161, 0, 28, 21, 4, 16, 237, 160, 0, 10, 21, 5, 16, 160, 162, 0, 14, 42, 29, 132, 3, 1]
abbrev dktX2_isWellFormedSlowPath_4 : List UInt8 := dkwX2_isWellFormedSlowPath_4 ++ dktX2_isWellFormedSlowPath_5
def dkwX2_isWellFormedSlowPath_3 : List UInt8 := [42, 29, 132, 3, 1, 51, 54, 5, 21, 5, 16, 191, 163, 0, 42, 21, 4, 16, 224, 160, 0, 10, 21, 5]
abbrev dktX2_isWellFormedSlowPath_3 : List UInt8 := dkwX2_isWellFormedSlowPath_3 ++ dktX2_isWellFormedSlowPath_4
def dkwX2_isWellFormedSlowPath_2 : List UInt8 := [51, 16, 191, 164, 0, 145, 3, 172, 21, 4, 16, 240, 162, 0, 71, 29, 4, 96, 28, 161, 0, 5, 3, 172]
abbrev dktX2_isWellFormedSlowPath_2 : List UInt8 := dkwX2_isWellFormedSlowPath_2 ++ dktX2_isWellFormedSlowPath_3
def dkwX2_isWellFormedSlowPath_1 : List UInt8 := [16, 224, 162, 0, 30, 29, 28, 160, 0, 5, 3, 172, 21, 4, 16, 194, 161, 0, 14, 42, 29, 132, 3, 1]
abbrev dktX2_isWellFormedSlowPath_1 : List UInt8 := dkwX2_isWellFormedSlowPath_1 ++ dktX2_isWellFormedSlowPath_2
def dkwX2_isWellFormedSlowPath_0 : List UInt8 := [27, 62, 29, 28, 161, 0, 5, 4, 172, 42, 29, 132, 3, 1, 51, 89, 54, 4, 156, 255, 240, 21, 4]
abbrev dktX2_isWellFormedSlowPath_0 : List UInt8 := dkwX2_isWellFormedSlowPath_0 ++ dktX2_isWellFormedSlowPath_1
theorem dksX2_isWellFormedSlowPath_0 : cX2_isWellFormedSlowPath.data.toList.drop 0 = dktX2_isWellFormedSlowPath_0 := by decide +kernel
theorem dksX2_isWellFormedSlowPath_1 : cX2_isWellFormedSlowPath.data.toList.drop 23 = dktX2_isWellFormedSlowPath_1 := dk_seg dksX2_isWellFormedSlowPath_0 23 rfl rfl
theorem dksX2_isWellFormedSlowPath_2 : cX2_isWellFormedSlowPath.data.toList.drop 47 = dktX2_isWellFormedSlowPath_2 := dk_seg dksX2_isWellFormedSlowPath_1 24 rfl rfl
theorem dksX2_isWellFormedSlowPath_3 : cX2_isWellFormedSlowPath.data.toList.drop 71 = dktX2_isWellFormedSlowPath_3 := dk_seg dksX2_isWellFormedSlowPath_2 24 rfl rfl
theorem dksX2_isWellFormedSlowPath_4 : cX2_isWellFormedSlowPath.data.toList.drop 95 = dktX2_isWellFormedSlowPath_4 := dk_seg dksX2_isWellFormedSlowPath_3 24 rfl rfl
theorem dksX2_isWellFormedSlowPath_5 : cX2_isWellFormedSlowPath.data.toList.drop 119 = dktX2_isWellFormedSlowPath_5 := dk_seg dksX2_isWellFormedSlowPath_4 24 rfl rfl
theorem dksX2_isWellFormedSlowPath_6 : cX2_isWellFormedSlowPath.data.toList.drop 141 = dktX2_isWellFormedSlowPath_6 := dk_seg dksX2_isWellFormedSlowPath_5 22 rfl rfl
theorem dksX2_isWellFormedSlowPath_7 : cX2_isWellFormedSlowPath.data.toList.drop 165 = dktX2_isWellFormedSlowPath_7 := dk_seg dksX2_isWellFormedSlowPath_6 24 rfl rfl
theorem dksX2_isWellFormedSlowPath_8 : cX2_isWellFormedSlowPath.data.toList.drop 188 = dktX2_isWellFormedSlowPath_8 := dk_seg dksX2_isWellFormedSlowPath_7 23 rfl rfl
theorem dX2_isWellFormedSlowPath_0 : decode cX2_isWellFormedSlowPath 0 = .ok (.iload_n 1, 1) := dk_27 (dk_at dksX2_isWellFormedSlowPath_0 0 rfl rfl)
theorem dX2_isWellFormedSlowPath_1 : decode cX2_isWellFormedSlowPath 1 = .ok (.istore_n 3, 1) := dk_62 (dk_at dksX2_isWellFormedSlowPath_0 1 rfl rfl)
theorem dX2_isWellFormedSlowPath_2 : decode cX2_isWellFormedSlowPath 2 = .ok (.iload_n 3, 1) := dk_29 (dk_at dksX2_isWellFormedSlowPath_0 2 rfl rfl)
theorem dX2_isWellFormedSlowPath_3 : decode cX2_isWellFormedSlowPath 3 = .ok (.iload_n 2, 1) := dk_28 (dk_at dksX2_isWellFormedSlowPath_0 3 rfl rfl)
theorem dX2_isWellFormedSlowPath_4 : decode cX2_isWellFormedSlowPath 4 = .ok (.if_icmp .lt 5, 3) := dk_161 0 5 (dk_at dksX2_isWellFormedSlowPath_0 4 rfl rfl)
theorem dX2_isWellFormedSlowPath_7 : decode cX2_isWellFormedSlowPath 7 = .ok (.iconst 1, 1) := dk_4 (dk_at dksX2_isWellFormedSlowPath_0 7 rfl rfl)
theorem dX2_isWellFormedSlowPath_8 : decode cX2_isWellFormedSlowPath 8 = .ok (.ireturn, 1) := dk_172 (dk_at dksX2_isWellFormedSlowPath_0 8 rfl rfl)
theorem dX2_isWellFormedSlowPath_9 : decode cX2_isWellFormedSlowPath 9 = .ok (.aload_n 0, 1) := dk_42 (dk_at dksX2_isWellFormedSlowPath_0 9 rfl rfl)
theorem dX2_isWellFormedSlowPath_10 : decode cX2_isWellFormedSlowPath 10 = .ok (.iload_n 3, 1) := dk_29 (dk_at dksX2_isWellFormedSlowPath_0 10 rfl rfl)
theorem dX2_isWellFormedSlowPath_11 : decode cX2_isWellFormedSlowPath 11 = .ok (.iinc 3 1, 3) := dk_132 3 1 (dk_at dksX2_isWellFormedSlowPath_0 11 rfl rfl)
theorem dX2_isWellFormedSlowPath_14 : decode cX2_isWellFormedSlowPath 14 = .ok (.baload, 1) := dk_51 (dk_at dksX2_isWellFormedSlowPath_0 14 rfl rfl)
theorem dX2_isWellFormedSlowPath_15 : decode cX2_isWellFormedSlowPath 15 = .ok (.dup, 1) := dk_89 (dk_at dksX2_isWellFormedSlowPath_0 15 rfl rfl)
theorem dX2_isWellFormedSlowPath_16 : decode cX2_isWellFormedSlowPath 16 = .ok (.istore 4, 2) := dk_54 4 (dk_at dksX2_isWellFormedSlowPath_0 16 rfl rfl)
theorem dX2_isWellFormedSlowPath_18 : decode cX2_isWellFormedSlowPath 18 = .ok (.ifCond .ge (-16), 3) := dk_156 255 240 (dk_at dksX2_isWellFormedSlowPath_0 18 rfl rfl)
theorem dX2_isWellFormedSlowPath_21 : decode cX2_isWellFormedSlowPath 21 = .ok (.iload 4, 2) := dk_21 4 (dk_at dksX2_isWellFormedSlowPath_0 21 rfl rfl)
theorem dX2_isWellFormedSlowPath_23 : decode cX2_isWellFormedSlowPath 23 = .ok (.bipush (-32), 2) := dk_16 224 (dk_at dksX2_isWellFormedSlowPath_1 0 rfl rfl)
theorem dX2_isWellFormedSlowPath_25 : decode cX2_isWellFormedSlowPath 25 = .ok (.if_icmp .ge 30, 3) := dk_162 0 30 (dk_at dksX2_isWellFormedSlowPath_1 2 rfl rfl)
theorem dX2_isWellFormedSlowPath_28 : decode cX2_isWellFormedSlowPath 28 = .ok (.iload_n 3, 1) := dk_29 (dk_at dksX2_isWellFormedSlowPath_1 5 rfl rfl)
theorem dX2_isWellFormedSlowPath_29 : decode cX2_isWellFormedSlowPath 29 = .ok (.iload_n 2, 1) := dk_28 (dk_at dksX2_isWellFormedSlowPath_1 6 rfl rfl)
theorem dX2_isWellFormedSlowPath_30 : decode cX2_isWellFormedSlowPath 30 = .ok (.if_icmp .ne 5, 3) := dk_160 0 5 (dk_at dksX2_isWellFormedSlowPath_1 7 rfl rfl)
theorem dX2_isWellFormedSlowPath_33 : decode cX2_isWellFormedSlowPath 33 = .ok (.iconst 0, 1) := dk_3 (dk_at dksX2_isWellFormedSlowPath_1 10 rfl rfl)
theorem dX2_isWellFormedSlowPath_34 : decode cX2_isWellFormedSlowPath 34 = .ok (.ireturn, 1) := dk_172 (dk_at dksX2_isWellFormedSlowPath_1 11 rfl rfl)
theorem dX2_isWellFormedSlowPath_35 : decode cX2_isWellFormedSlowPath 35 = .ok (.iload 4, 2) := dk_21 4 (dk_at dksX2_isWellFormedSlowPath_1 12 rfl rfl)
theorem dX2_isWellFormedSlowPath_37 : decode cX2_isWellFormedSlowPath 37 = .ok (.bipush (-62), 2) := dk_16 194 (dk_at dksX2_isWellFormedSlowPath_1 14 rfl rfl)
theorem dX2_isWellFormedSlowPath_39 : decode cX2_isWellFormedSlowPath 39 = .ok (.if_icmp .lt 14, 3) := dk_161 0 14 (dk_at dksX2_isWellFormedSlowPath_1 16 rfl rfl)
theorem dX2_isWellFormedSlowPath_42 : decode cX2_isWellFormedSlowPath 42 = .ok (.aload_n 0, 1) := dk_42 (dk_at dksX2_isWellFormedSlowPath_1 19 rfl rfl)
theorem dX2_isWellFormedSlowPath_43 : decode cX2_isWellFormedSlowPath 43 = .ok (.iload_n 3, 1) := dk_29 (dk_at dksX2_isWellFormedSlowPath_1 20 rfl rfl)
theorem dX2_isWellFormedSlowPath_44 : decode cX2_isWellFormedSlowPath 44 = .ok (.iinc 3 1, 3) := dk_132 3 1 (dk_at dksX2_isWellFormedSlowPath_1 21 rfl rfl)
theorem dX2_isWellFormedSlowPath_47 : decode cX2_isWellFormedSlowPath 47 = .ok (.baload, 1) := dk_51 (dk_at dksX2_isWellFormedSlowPath_2 0 rfl rfl)
theorem dX2_isWellFormedSlowPath_48 : decode cX2_isWellFormedSlowPath 48 = .ok (.bipush (-65), 2) := dk_16 191 (dk_at dksX2_isWellFormedSlowPath_2 1 rfl rfl)
theorem dX2_isWellFormedSlowPath_50 : decode cX2_isWellFormedSlowPath 50 = .ok (.if_icmp .le 145, 3) := dk_164 0 145 (dk_at dksX2_isWellFormedSlowPath_2 3 rfl rfl)
theorem dX2_isWellFormedSlowPath_53 : decode cX2_isWellFormedSlowPath 53 = .ok (.iconst 0, 1) := dk_3 (dk_at dksX2_isWellFormedSlowPath_2 6 rfl rfl)
theorem dX2_isWellFormedSlowPath_54 : decode cX2_isWellFormedSlowPath 54 = .ok (.ireturn, 1) := dk_172 (dk_at dksX2_isWellFormedSlowPath_2 7 rfl rfl)
theorem dX2_isWellFormedSlowPath_55 : decode cX2_isWellFormedSlowPath 55 = .ok (.iload 4, 2) := dk_21 4 (dk_at dksX2_isWellFormedSlowPath_2 8 rfl rfl)
theorem dX2_isWellFormedSlowPath_57 : decode cX2_isWellFormedSlowPath 57 = .ok (.bipush (-16), 2) := dk_16 240 (dk_at dksX2_isWellFormedSlowPath_2 10 rfl rfl)
theorem dX2_isWellFormedSlowPath_59 : decode cX2_isWellFormedSlowPath 59 = .ok (.if_icmp .ge 71, 3) := dk_162 0 71 (dk_at dksX2_isWellFormedSlowPath_2 12 rfl rfl)
theorem dX2_isWellFormedSlowPath_62 : decode cX2_isWellFormedSlowPath 62 = .ok (.iload_n 3, 1) := dk_29 (dk_at dksX2_isWellFormedSlowPath_2 15 rfl rfl)
theorem dX2_isWellFormedSlowPath_63 : decode cX2_isWellFormedSlowPath 63 = .ok (.iconst 1, 1) := dk_4 (dk_at dksX2_isWellFormedSlowPath_2 16 rfl rfl)
theorem dX2_isWellFormedSlowPath_64 : decode cX2_isWellFormedSlowPath 64 = .ok (.iadd, 1) := dk_96 (dk_at dksX2_isWellFormedSlowPath_2 17 rfl rfl)
theorem dX2_isWellFormedSlowPath_65 : decode cX2_isWellFormedSlowPath 65 = .ok (.iload_n 2, 1) := dk_28 (dk_at dksX2_isWellFormedSlowPath_2 18 rfl rfl)
theorem dX2_isWellFormedSlowPath_66 : decode cX2_isWellFormedSlowPath 66 = .ok (.if_icmp .lt 5, 3) := dk_161 0 5 (dk_at dksX2_isWellFormedSlowPath_2 19 rfl rfl)
theorem dX2_isWellFormedSlowPath_69 : decode cX2_isWellFormedSlowPath 69 = .ok (.iconst 0, 1) := dk_3 (dk_at dksX2_isWellFormedSlowPath_2 22 rfl rfl)
theorem dX2_isWellFormedSlowPath_70 : decode cX2_isWellFormedSlowPath 70 = .ok (.ireturn, 1) := dk_172 (dk_at dksX2_isWellFormedSlowPath_2 23 rfl rfl)
theorem dX2_isWellFormedSlowPath_71 : decode cX2_isWellFormedSlowPath 71 = .ok (.aload_n 0, 1) := dk_42 (dk_at dksX2_isWellFormedSlowPath_3 0 rfl rfl)
theorem dX2_isWellFormedSlowPath_72 : decode cX2_isWellFormedSlowPath 72 = .ok (.iload_n 3, 1) := dk_29 (dk_at dksX2_isWellFormedSlowPath_3 1 rfl rfl)
theorem dX2_isWellFormedSlowPath_73 : decode cX2_isWellFormedSlowPath 73 = .ok (.iinc 3 1, 3) := dk_132 3 1 (dk_at dksX2_isWellFormedSlowPath_3 2 rfl rfl)
theorem dX2_isWellFormedSlowPath_76 : decode cX2_isWellFormedSlowPath 76 = .ok (.baload, 1) := dk_51 (dk_at dksX2_isWellFormedSlowPath_3 5 rfl rfl)
theorem dX2_isWellFormedSlowPath_77 : decode cX2_isWellFormedSlowPath 77 = .ok (.istore 5, 2) := dk_54 5 (dk_at dksX2_isWellFormedSlowPath_3 6 rfl rfl)
theorem dX2_isWellFormedSlowPath_79 : decode cX2_isWellFormedSlowPath 79 = .ok (.iload 5, 2) := dk_21 5 (dk_at dksX2_isWellFormedSlowPath_3 8 rfl rfl)
theorem dX2_isWellFormedSlowPath_81 : decode cX2_isWellFormedSlowPath 81 = .ok (.bipush (-65), 2) := dk_16 191 (dk_at dksX2_isWellFormedSlowPath_3 10 rfl rfl)
theorem dX2_isWellFormedSlowPath_83 : decode cX2_isWellFormedSlowPath 83 = .ok (.if_icmp .gt 42, 3) := dk_163 0 42 (dk_at dksX2_isWellFormedSlowPath_3 12 rfl rfl)
theorem dX2_isWellFormedSlowPath_86 : decode cX2_isWellFormedSlowPath 86 = .ok (.iload 4, 2) := dk_21 4 (dk_at dksX2_isWellFormedSlowPath_3 15 rfl rfl)
theorem dX2_isWellFormedSlowPath_88 : decode cX2_isWellFormedSlowPath 88 = .ok (.bipush (-32), 2) := dk_16 224 (dk_at dksX2_isWellFormedSlowPath_3 17 rfl rfl)
theorem dX2_isWellFormedSlowPath_90 : decode cX2_isWellFormedSlowPath 90 = .ok (.if_icmp .ne 10, 3) := dk_160 0 10 (dk_at dksX2_isWellFormedSlowPath_3 19 rfl rfl)
theorem dX2_isWellFormedSlowPath_93 : decode cX2_isWellFormedSlowPath 93 = .ok (.iload 5, 2) := dk_21 5 (dk_at dksX2_isWellFormedSlowPath_3 22 rfl rfl)
theorem dX2_isWellFormedSlowPath_95 : decode cX2_isWellFormedSlowPath 95 = .ok (.bipush (-96), 2) := dk_16 160 (dk_at dksX2_isWellFormedSlowPath_4 0 rfl rfl)
theorem dX2_isWellFormedSlowPath_97 : decode cX2_isWellFormedSlowPath 97 = .ok (.if_icmp .lt 28, 3) := dk_161 0 28 (dk_at dksX2_isWellFormedSlowPath_4 2 rfl rfl)
theorem dX2_isWellFormedSlowPath_100 : decode cX2_isWellFormedSlowPath 100 = .ok (.iload 4, 2) := dk_21 4 (dk_at dksX2_isWellFormedSlowPath_4 5 rfl rfl)
theorem dX2_isWellFormedSlowPath_102 : decode cX2_isWellFormedSlowPath 102 = .ok (.bipush (-19), 2) := dk_16 237 (dk_at dksX2_isWellFormedSlowPath_4 7 rfl rfl)
theorem dX2_isWellFormedSlowPath_104 : decode cX2_isWellFormedSlowPath 104 = .ok (.if_icmp .ne 10, 3) := dk_160 0 10 (dk_at dksX2_isWellFormedSlowPath_4 9 rfl rfl)
theorem dX2_isWellFormedSlowPath_107 : decode cX2_isWellFormedSlowPath 107 = .ok (.iload 5, 2) := dk_21 5 (dk_at dksX2_isWellFormedSlowPath_4 12 rfl rfl)
theorem dX2_isWellFormedSlowPath_109 : decode cX2_isWellFormedSlowPath 109 = .ok (.bipush (-96), 2) := dk_16 160 (dk_at dksX2_isWellFormedSlowPath_4 14 rfl rfl)
theorem dX2_isWellFormedSlowPath_111 : decode cX2_isWellFormedSlowPath 111 = .ok (.if_icmp .ge 14, 3) := dk_162 0 14 (dk_at dksX2_isWellFormedSlowPath_4 16 rfl rfl)
theorem dX2_isWellFormedSlowPath_114 : decode cX2_isWellFormedSlowPath 114 = .ok (.aload_n 0, 1) := dk_42 (dk_at dksX2_isWellFormedSlowPath_4 19 rfl rfl)
theorem dX2_isWellFormedSlowPath_115 : decode cX2_isWellFormedSlowPath 115 = .ok (.iload_n 3, 1) := dk_29 (dk_at dksX2_isWellFormedSlowPath_4 20 rfl rfl)
theorem dX2_isWellFormedSlowPath_116 : decode cX2_isWellFormedSlowPath 116 = .ok (.iinc 3 1, 3) := dk_132 3 1 (dk_at dksX2_isWellFormedSlowPath_4 21 rfl rfl)
theorem dX2_isWellFormedSlowPath_119 : decode cX2_isWellFormedSlowPath 119 = .ok (.baload, 1) := dk_51 (dk_at dksX2_isWellFormedSlowPath_5 0 rfl rfl)
theorem dX2_isWellFormedSlowPath_120 : decode cX2_isWellFormedSlowPath 120 = .ok (.bipush (-65), 2) := dk_16 191 (dk_at dksX2_isWellFormedSlowPath_5 1 rfl rfl)
theorem dX2_isWellFormedSlowPath_122 : decode cX2_isWellFormedSlowPath 122 = .ok (.if_icmp .le 5, 3) := dk_164 0 5 (dk_at dksX2_isWellFormedSlowPath_5 3 rfl rfl)
theorem dX2_isWellFormedSlowPath_125 : decode cX2_isWellFormedSlowPath 125 = .ok (.iconst 0, 1) := dk_3 (dk_at dksX2_isWellFormedSlowPath_5 6 rfl rfl)
theorem dX2_isWellFormedSlowPath_126 : decode cX2_isWellFormedSlowPath 126 = .ok (.ireturn, 1) := dk_172 (dk_at dksX2_isWellFormedSlowPath_5 7 rfl rfl)
theorem dX2_isWellFormedSlowPath_127 : decode cX2_isWellFormedSlowPath 127 = .ok (.goto 68, 3) := dk_167 0 68 (dk_at dksX2_isWellFormedSlowPath_5 8 rfl rfl)
theorem dX2_isWellFormedSlowPath_130 : decode cX2_isWellFormedSlowPath 130 = .ok (.iload_n 3, 1) := dk_29 (dk_at dksX2_isWellFormedSlowPath_5 11 rfl rfl)
theorem dX2_isWellFormedSlowPath_131 : decode cX2_isWellFormedSlowPath 131 = .ok (.iconst 2, 1) := dk_5 (dk_at dksX2_isWellFormedSlowPath_5 12 rfl rfl)
theorem dX2_isWellFormedSlowPath_132 : decode cX2_isWellFormedSlowPath 132 = .ok (.iadd, 1) := dk_96 (dk_at dksX2_isWellFormedSlowPath_5 13 rfl rfl)
theorem dX2_isWellFormedSlowPath_133 : decode cX2_isWellFormedSlowPath 133 = .ok (.iload_n 2, 1) := dk_28 (dk_at dksX2_isWellFormedSlowPath_5 14 rfl rfl)
theorem dX2_isWellFormedSlowPath_134 : decode cX2_isWellFormedSlowPath 134 = .ok (.if_icmp .lt 5, 3) := dk_161 0 5 (dk_at dksX2_isWellFormedSlowPath_5 15 rfl rfl)
theorem dX2_isWellFormedSlowPath_137 : decode cX2_isWellFormedSlowPath 137 = .ok (.iconst 0, 1) := dk_3 (dk_at dksX2_isWellFormedSlowPath_5 18 rfl rfl)
theorem dX2_isWellFormedSlowPath_138 : decode cX2_isWellFormedSlowPath 138 = .ok (.ireturn, 1) := dk_172 (dk_at dksX2_isWellFormedSlowPath_5 19 rfl rfl)
theorem dX2_isWellFormedSlowPath_139 : decode cX2_isWellFormedSlowPath 139 = .ok (.aload_n 0, 1) := dk_42 (dk_at dksX2_isWellFormedSlowPath_5 20 rfl rfl)
theorem dX2_isWellFormedSlowPath_140 : decode cX2_isWellFormedSlowPath 140 = .ok (.iload_n 3, 1) := dk_29 (dk_at dksX2_isWellFormedSlowPath_5 21 rfl rfl)
theorem dX2_isWellFormedSlowPath_141 : decode cX2_isWellFormedSlowPath 141 = .ok (.iinc 3 1, 3) := dk_132 3 1 (dk_at dksX2_isWellFormedSlowPath_6 0 rfl rfl)
theorem dX2_isWellFormedSlowPath_144 : decode cX2_isWellFormedSlowPath 144 = .ok (.baload, 1) := dk_51 (dk_at dksX2_isWellFormedSlowPath_6 3 rfl rfl)
theorem dX2_isWellFormedSlowPath_145 : decode cX2_isWellFormedSlowPath 145 = .ok (.istore 5, 2) := dk_54 5 (dk_at dksX2_isWellFormedSlowPath_6 4 rfl rfl)
theorem dX2_isWellFormedSlowPath_147 : decode cX2_isWellFormedSlowPath 147 = .ok (.iload 5, 2) := dk_21 5 (dk_at dksX2_isWellFormedSlowPath_6 6 rfl rfl)
theorem dX2_isWellFormedSlowPath_149 : decode cX2_isWellFormedSlowPath 149 = .ok (.bipush (-65), 2) := dk_16 191 (dk_at dksX2_isWellFormedSlowPath_6 8 rfl rfl)
theorem dX2_isWellFormedSlowPath_151 : decode cX2_isWellFormedSlowPath 151 = .ok (.if_icmp .gt 42, 3) := dk_163 0 42 (dk_at dksX2_isWellFormedSlowPath_6 10 rfl rfl)
theorem dX2_isWellFormedSlowPath_154 : decode cX2_isWellFormedSlowPath 154 = .ok (.iload 4, 2) := dk_21 4 (dk_at dksX2_isWellFormedSlowPath_6 13 rfl rfl)
theorem dX2_isWellFormedSlowPath_156 : decode cX2_isWellFormedSlowPath 156 = .ok (.bipush 28, 2) := dk_16 28 (dk_at dksX2_isWellFormedSlowPath_6 15 rfl rfl)
theorem dX2_isWellFormedSlowPath_158 : decode cX2_isWellFormedSlowPath 158 = .ok (.ishl, 1) := dk_120 (dk_at dksX2_isWellFormedSlowPath_6 17 rfl rfl)
theorem dX2_isWellFormedSlowPath_159 : decode cX2_isWellFormedSlowPath 159 = .ok (.iload 5, 2) := dk_21 5 (dk_at dksX2_isWellFormedSlowPath_6 18 rfl rfl)
theorem dX2_isWellFormedSlowPath_161 : decode cX2_isWellFormedSlowPath 161 = .ok (.bipush (-112), 2) := dk_16 144 (dk_at dksX2_isWellFormedSlowPath_6 20 rfl rfl)
theorem dX2_isWellFormedSlowPath_163 : decode cX2_isWellFormedSlowPath 163 = .ok (.isub, 1) := dk_100 (dk_at dksX2_isWellFormedSlowPath_6 22 rfl rfl)
theorem dX2_isWellFormedSlowPath_164 : decode cX2_isWellFormedSlowPath 164 = .ok (.iadd, 1) := dk_96 (dk_at dksX2_isWellFormedSlowPath_6 23 rfl rfl)
theorem dX2_isWellFormedSlowPath_165 : decode cX2_isWellFormedSlowPath 165 = .ok (.bipush 30, 2) := dk_16 30 (dk_at dksX2_isWellFormedSlowPath_7 0 rfl rfl)
theorem dX2_isWellFormedSlowPath_167 : decode cX2_isWellFormedSlowPath 167 = .ok (.ishr, 1) := dk_122 (dk_at dksX2_isWellFormedSlowPath_7 2 rfl rfl)
theorem dX2_isWellFormedSlowPath_168 : decode cX2_isWellFormedSlowPath 168 = .ok (.ifCond .ne 25, 3) := dk_154 0 25 (dk_at dksX2_isWellFormedSlowPath_7 3 rfl rfl)
theorem dX2_isWellFormedSlowPath_171 : decode cX2_isWellFormedSlowPath 171 = .ok (.aload_n 0, 1) := dk_42 (dk_at dksX2_isWellFormedSlowPath_7 6 rfl rfl)
theorem dX2_isWellFormedSlowPath_172 : decode cX2_isWellFormedSlowPath 172 = .ok (.iload_n 3, 1) := dk_29 (dk_at dksX2_isWellFormedSlowPath_7 7 rfl rfl)
theorem dX2_isWellFormedSlowPath_173 : decode cX2_isWellFormedSlowPath 173 = .ok (.iinc 3 1, 3) := dk_132 3 1 (dk_at dksX2_isWellFormedSlowPath_7 8 rfl rfl)
theorem dX2_isWellFormedSlowPath_176 : decode cX2_isWellFormedSlowPath 176 = .ok (.baload, 1) := dk_51 (dk_at dksX2_isWellFormedSlowPath_7 11 rfl rfl)
theorem dX2_isWellFormedSlowPath_177 : decode cX2_isWellFormedSlowPath 177 = .ok (.bipush (-65), 2) := dk_16 191 (dk_at dksX2_isWellFormedSlowPath_7 12 rfl rfl)
theorem dX2_isWellFormedSlowPath_179 : decode cX2_isWellFormedSlowPath 179 = .ok (.if_icmp .gt 14, 3) := dk_163 0 14 (dk_at dksX2_isWellFormedSlowPath_7 14 rfl rfl)
theorem dX2_isWellFormedSlowPath_182 : decode cX2_isWellFormedSlowPath 182 = .ok (.aload_n 0, 1) := dk_42 (dk_at dksX2_isWellFormedSlowPath_7 17 rfl rfl)
theorem dX2_isWellFormedSlowPath_183 : decode cX2_isWellFormedSlowPath 183 = .ok (.iload_n 3, 1) := dk_29 (dk_at dksX2_isWellFormedSlowPath_7 18 rfl rfl)
theorem dX2_isWellFormedSlowPath_184 : decode cX2_isWellFormedSlowPath 184 = .ok (.iinc 3 1, 3) := dk_132 3 1 (dk_at dksX2_isWellFormedSlowPath_7 19 rfl rfl)
theorem dX2_isWellFormedSlowPath_187 : decode cX2_isWellFormedSlowPath 187 = .ok (.baload, 1) := dk_51 (dk_at dksX2_isWellFormedSlowPath_7 22 rfl rfl)
theorem dX2_isWellFormedSlowPath_188 : decode cX2_isWellFormedSlowPath 188 = .ok (.bipush (-65), 2) := dk_16 191 (dk_at dksX2_isWellFormedSlowPath_8 0 rfl rfl)
theorem dX2_isWellFormedSlowPath_190 : decode cX2_isWellFormedSlowPath 190 = .ok (.if_icmp .le 5, 3) := dk_164 0 5 (dk_at dksX2_isWellFormedSlowPath_8 2 rfl rfl)
theorem dX2_isWellFormedSlowPath_193 : decode cX2_isWellFormedSlowPath 193 = .ok (.iconst 0, 1) := dk_3 (dk_at dksX2_isWellFormedSlowPath_8 5 rfl rfl)
theorem dX2_isWellFormedSlowPath_194 : decode cX2_isWellFormedSlowPath 194 = .ok (.ireturn, 1) := dk_172 (dk_at dksX2_isWellFormedSlowPath_8 6 rfl rfl)
theorem dX2_isWellFormedSlowPath_195 : decode cX2_isWellFormedSlowPath 195 = .ok (.goto (-193), 3) := dk_167 255 63 (dk_at dksX2_isWellFormedSlowPath_8 7 rfl rfl)
theorem q6 : (Jvm.Cond.initialized "Utf8") ∈ lw_all := lw_g (lw_at lw_m0 2 rfl) rfl
theorem q75 : (Jvm.Cond.static ({ cls := "Utf8", name := "isWellFormed", desc := "([BII)Z" } : Jvm.MethodName)) ∈ lw_all := lw_g (lw_at lw_m0 71 rfl) rfl
theorem q76 : (Jvm.Cond.code ({ cls := "Utf8", name := "isWellFormed", desc := "([BII)Z" } : Jvm.MethodName) prog_2_method_1_code (5 : Nat) (Option.some Jvm.ClassFile.FieldType.boolean)) ∈ lw_all := lw_g (lw_at lw_m0 72 rfl) rfl
theorem q77 : (Jvm.Cond.methodLink "Utf8" (1 : Nat) ({ cls := "Preconditions", name := "checkPositionIndexes", desc := "(III)V" } : Jvm.MethodName)) ∈ lw_all := lw_g (lw_at lw_m0 73 rfl) rfl
theorem q147 : (Jvm.Cond.methodLink "Utf8" (7 : Nat) ({ cls := "Utf8", name := "isWellFormedSlowPath", desc := "([BII)Z" } : Jvm.MethodName)) ∈ lw_all := lw_g (lw_at lw_m0 143 rfl) rfl
theorem q148 : (Jvm.Cond.static ({ cls := "Utf8", name := "isWellFormedSlowPath", desc := "([BII)Z" } : Jvm.MethodName)) ∈ lw_all := lw_g (lw_at lw_m0 144 rfl) rfl
theorem q149 : (Jvm.Cond.code ({ cls := "Utf8", name := "isWellFormedSlowPath", desc := "([BII)Z" } : Jvm.MethodName) prog_2_method_2_code (6 : Nat) (Option.some Jvm.ClassFile.FieldType.boolean)) ∈ lw_all := lw_g (lw_at lw_m0 145 rfl) rfl
/-! Preconditions -/
set_option maxRecDepth 100000
def RX3 : String := "Preconditions"
abbrev cX3_checkPositionIndexes : ByteArray := prog_1_method_1_code
def yX3_checkPositionIndexes : MethodName := ⟨RX3, "checkPositionIndexes", "(III)V"⟩
def dkwX3_checkPositionIndexes_1 : List UInt8 := [177]
abbrev dktX3_checkPositionIndexes_1 : List UInt8 := dkwX3_checkPositionIndexes_1 ++ []
def dkwX3_checkPositionIndexes_0 : List UInt8 := [26, 155, 0, 13, 27, 26, 161, 0, 8, 27, 28, 164, 0, 13, 187, 0, 1, 89, 18, 3, 183, 0, 5, 191]
abbrev dktX3_checkPositionIndexes_0 : List UInt8 := dkwX3_checkPositionIndexes_0 ++ dktX3_checkPositionIndexes_1
theorem dksX3_checkPositionIndexes_0 : cX3_checkPositionIndexes.data.toList.drop 0 = dktX3_checkPositionIndexes_0 := by decide +kernel
theorem dksX3_checkPositionIndexes_1 : cX3_checkPositionIndexes.data.toList.drop 24 = dktX3_checkPositionIndexes_1 := dk_seg dksX3_checkPositionIndexes_0 24 rfl rfl
theorem dX3_checkPositionIndexes_0 : decode cX3_checkPositionIndexes 0 = .ok (.iload_n 0, 1) := dk_26 (dk_at dksX3_checkPositionIndexes_0 0 rfl rfl)
theorem dX3_checkPositionIndexes_1 : decode cX3_checkPositionIndexes 1 = .ok (.ifCond .lt 13, 3) := dk_155 0 13 (dk_at dksX3_checkPositionIndexes_0 1 rfl rfl)
theorem dX3_checkPositionIndexes_4 : decode cX3_checkPositionIndexes 4 = .ok (.iload_n 1, 1) := dk_27 (dk_at dksX3_checkPositionIndexes_0 4 rfl rfl)
theorem dX3_checkPositionIndexes_5 : decode cX3_checkPositionIndexes 5 = .ok (.iload_n 0, 1) := dk_26 (dk_at dksX3_checkPositionIndexes_0 5 rfl rfl)
theorem dX3_checkPositionIndexes_6 : decode cX3_checkPositionIndexes 6 = .ok (.if_icmp .lt 8, 3) := dk_161 0 8 (dk_at dksX3_checkPositionIndexes_0 6 rfl rfl)
theorem dX3_checkPositionIndexes_9 : decode cX3_checkPositionIndexes 9 = .ok (.iload_n 1, 1) := dk_27 (dk_at dksX3_checkPositionIndexes_0 9 rfl rfl)
theorem dX3_checkPositionIndexes_10 : decode cX3_checkPositionIndexes 10 = .ok (.iload_n 2, 1) := dk_28 (dk_at dksX3_checkPositionIndexes_0 10 rfl rfl)
theorem dX3_checkPositionIndexes_11 : decode cX3_checkPositionIndexes 11 = .ok (.if_icmp .le 13, 3) := dk_164 0 13 (dk_at dksX3_checkPositionIndexes_0 11 rfl rfl)
theorem dX3_checkPositionIndexes_14 : decode cX3_checkPositionIndexes 14 = .ok (.new 1, 3) := dk_187 0 1 (dk_at dksX3_checkPositionIndexes_0 14 rfl rfl)
theorem dX3_checkPositionIndexes_17 : decode cX3_checkPositionIndexes 17 = .ok (.dup, 1) := dk_89 (dk_at dksX3_checkPositionIndexes_0 17 rfl rfl)
theorem dX3_checkPositionIndexes_18 : decode cX3_checkPositionIndexes 18 = .ok (.ldc 3, 2) := dk_18 3 (dk_at dksX3_checkPositionIndexes_0 18 rfl rfl)
theorem dX3_checkPositionIndexes_20 : decode cX3_checkPositionIndexes 20 = .ok (.invokespecial 5, 3) := dk_183 0 5 (dk_at dksX3_checkPositionIndexes_0 20 rfl rfl)
theorem dX3_checkPositionIndexes_23 : decode cX3_checkPositionIndexes 23 = .ok (.athrow, 1) := dk_191 (dk_at dksX3_checkPositionIndexes_0 23 rfl rfl)
theorem dX3_checkPositionIndexes_24 : decode cX3_checkPositionIndexes 24 = .ok (.return_, 1) := dk_177 (dk_at dksX3_checkPositionIndexes_1 0 rfl rfl)
theorem q7 : (Jvm.Cond.initialized "Preconditions") ∈ lw_all := lw_g (lw_at lw_m0 3 rfl) rfl
theorem q78 : (Jvm.Cond.static ({ cls := "Preconditions", name := "checkPositionIndexes", desc := "(III)V" } : Jvm.MethodName)) ∈ lw_all := lw_g (lw_at lw_m0 74 rfl) rfl
theorem q79 : (Jvm.Cond.code ({ cls := "Preconditions", name := "checkPositionIndexes", desc := "(III)V" } : Jvm.MethodName) prog_1_method_1_code (3 : Nat) (Option.none : Option Jvm.ClassFile.FieldType)) ∈ lw_all := lw_g (lw_at lw_m0 75 rfl) rfl
theorem q80 : (Jvm.Cond.classLink "Preconditions" (1 : Nat) "java/lang/IndexOutOfBoundsException") ∈ lw_all := lw_g (lw_at lw_m0 76 rfl) rfl
theorem q119 : (Jvm.Cond.stringRef "Preconditions" (3 : Nat) "left out") ∈ lw_tbl := lw_at lw_m0 115 rfl
theorem q120 : (Jvm.Cond.methodLink "Preconditions" (5 : Nat) ({ cls := "java/lang/IndexOutOfBoundsException", name := "<init>", desc := "(Ljava/lang/String;)V" } : Jvm.MethodName)) ∈ lw_all := lw_g (lw_at lw_m0 116 rfl) rfl
theorem q30 : (Jvm.Cond.arrayClass Jvm.ClassFile.FieldType.byte) ∈ lw_all := lw_g (lw_at lw_m0 26 rfl) rfl
set_option maxRecDepth 100000
theorem q145 : (Jvm.Cond.arrayClass Jvm.ClassFile.FieldType.int) ∈ lw_all := lw_g (lw_at lw_m0 141 rfl) rfl
theorem q146 : (Jvm.Cond.arrayClass Jvm.ClassFile.FieldType.boolean) ∈ lw_all := lw_g (lw_at lw_m0 142 rfl) rfl
/-! the law's own entry -/
set_option maxRecDepth 100000
abbrev cL_law : ByteArray := code
def dkwL_law_1 : List UInt8 := [153, 0, 7, 4, 167, 0, 4, 3, 172]
abbrev dktL_law_1 : List UInt8 := dkwL_law_1 ++ []
def dkwL_law_0 : List UInt8 := [42, 184, 0, 73, 153, 0, 27, 42, 184, 0, 77, 153, 0, 20, 184, 0, 80, 153, 0, 14, 42, 184, 0, 84]
abbrev dktL_law_0 : List UInt8 := dkwL_law_0 ++ dktL_law_1
theorem dksL_law_0 : cL_law.data.toList.drop 0 = dktL_law_0 := by decide +kernel
theorem dksL_law_1 : cL_law.data.toList.drop 24 = dktL_law_1 := dk_seg dksL_law_0 24 rfl rfl
theorem dL_law_0 : decode cL_law 0 = .ok (.aload_n 0, 1) := dk_42 (dk_at dksL_law_0 0 rfl rfl)
theorem dL_law_1 : decode cL_law 1 = .ok (.invokestatic 73, 3) := dk_184 0 73 (dk_at dksL_law_0 1 rfl rfl)
theorem dL_law_4 : decode cL_law 4 = .ok (.ifCond .eq 27, 3) := dk_153 0 27 (dk_at dksL_law_0 4 rfl rfl)
theorem dL_law_7 : decode cL_law 7 = .ok (.aload_n 0, 1) := dk_42 (dk_at dksL_law_0 7 rfl rfl)
theorem dL_law_8 : decode cL_law 8 = .ok (.invokestatic 77, 3) := dk_184 0 77 (dk_at dksL_law_0 8 rfl rfl)
theorem dL_law_11 : decode cL_law 11 = .ok (.ifCond .eq 20, 3) := dk_153 0 20 (dk_at dksL_law_0 11 rfl rfl)
theorem dL_law_14 : decode cL_law 14 = .ok (.invokestatic 80, 3) := dk_184 0 80 (dk_at dksL_law_0 14 rfl rfl)
theorem dL_law_17 : decode cL_law 17 = .ok (.ifCond .eq 14, 3) := dk_153 0 14 (dk_at dksL_law_0 17 rfl rfl)
theorem dL_law_20 : decode cL_law 20 = .ok (.aload_n 0, 1) := dk_42 (dk_at dksL_law_0 20 rfl rfl)
theorem dL_law_21 : decode cL_law 21 = .ok (.invokestatic 84, 3) := dk_184 0 84 (dk_at dksL_law_0 21 rfl rfl)
theorem dL_law_24 : decode cL_law 24 = .ok (.ifCond .eq 7, 3) := dk_153 0 7 (dk_at dksL_law_1 0 rfl rfl)
theorem dL_law_27 : decode cL_law 27 = .ok (.iconst 1, 1) := dk_4 (dk_at dksL_law_1 3 rfl rfl)
theorem dL_law_28 : decode cL_law 28 = .ok (.goto 4, 3) := dk_167 0 4 (dk_at dksL_law_1 4 rfl rfl)
theorem dL_law_31 : decode cL_law 31 = .ok (.iconst 0, 1) := dk_3 (dk_at dksL_law_1 7 rfl rfl)
theorem dL_law_32 : decode cL_law 32 = .ok (.ireturn, 1) := dk_172 (dk_at dksL_law_1 8 rfl rfl)
end
section
/-! WireTextLaw -/
set_option maxRecDepth 100000
def RX0 : String := "WireTextLaw"
abbrev cX0_elder : ByteArray := method_6_code
def yX0_elder : MethodName := ⟨RX0, "elder", "([I)Z"⟩
def dkwX0_elder_24 : List UInt8 := [17, 16, 0, 160, 0, 7, 4, 167, 0, 4, 3, 172]
abbrev dktX0_elder_24 : List UInt8 := dkwX0_elder_24 ++ []
def dkwX0_elder_23 : List UInt8 := [132, 11, 1, 167, 255, 227, 25, 10, 3, 3, 3, 3, 182, 0, 23, 154, 0, 18, 25, 10, 182, 0, 35]
abbrev dktX0_elder_23 : List UInt8 := dkwX0_elder_23 ++ dktX0_elder_24
def dkwX0_elder_22 : List UInt8 := [17, 1, 0, 162, 0, 27, 25, 10, 21, 11, 21, 11, 21, 11, 21, 11, 182, 0, 23, 154, 0, 5, 3, 172]
abbrev dktX0_elder_22 : List UInt8 := dkwX0_elder_22 ++ dktX0_elder_23
def dkwX0_elder_21 : List UInt8 := [3, 172, 132, 10, 1, 167, 255, 197, 187, 0, 8, 89, 183, 0, 22, 58, 10, 3, 54, 11, 21, 11]
abbrev dktX0_elder_21 : List UInt8 := dkwX0_elder_21 ++ dktX0_elder_22
def dkwX0_elder_20 : List UInt8 := [25, 11, 25, 9, 21, 10, 46, 182, 0, 31, 25, 11, 3, 25, 9, 21, 10, 46, 182, 0, 39, 153, 0, 5]
abbrev dktX0_elder_20 : List UInt8 := dkwX0_elder_20 ++ dktX0_elder_21
def dkwX0_elder_19 : List UInt8 := [187, 0, 8, 89, 183, 0, 22, 58, 11, 25, 11, 25, 8, 21, 10, 46, 3, 3, 3, 182, 0, 23, 87]
abbrev dktX0_elder_19 : List UInt8 := dkwX0_elder_19 ++ dktX0_elder_20
def dkwX0_elder_18 : List UInt8 := [79, 89, 16, 8, 4, 79, 89, 16, 9, 5, 79, 58, 9, 3, 54, 10, 21, 10, 16, 10, 162, 0, 58]
abbrev dktX0_elder_18 : List UInt8 := dkwX0_elder_18 ++ dktX0_elder_19
def dkwX0_elder_17 : List UInt8 := [5, 6, 79, 89, 6, 6, 79, 89, 7, 6, 79, 89, 8, 7, 79, 89, 16, 6, 7, 79, 89, 16, 7, 7]
abbrev dktX0_elder_17 : List UInt8 := dkwX0_elder_17 ++ dktX0_elder_18
def dkwX0_elder_16 : List UInt8 := [18, 60, 79, 89, 16, 9, 18, 61, 79, 58, 8, 16, 10, 188, 10, 89, 3, 5, 79, 89, 4, 5, 79, 89]
abbrev dktX0_elder_16 : List UInt8 := dkwX0_elder_16 ++ dktX0_elder_17
def dkwX0_elder_15 : List UInt8 := [18, 56, 79, 89, 8, 18, 57, 79, 89, 16, 6, 18, 58, 79, 89, 16, 7, 18, 59, 79, 89, 16, 8]
abbrev dktX0_elder_15 : List UInt8 := dkwX0_elder_15 ++ dktX0_elder_16
def dkwX0_elder_14 : List UInt8 := [188, 10, 89, 3, 18, 52, 79, 89, 4, 18, 53, 79, 89, 5, 18, 54, 79, 89, 6, 18, 55, 79, 89, 7]
abbrev dktX0_elder_14 : List UInt8 := dkwX0_elder_14 ++ dktX0_elder_15
def dkwX0_elder_13 : List UInt8 := [21, 7, 182, 0, 39, 44, 21, 6, 21, 6, 21, 7, 96, 184, 0, 48, 159, 0, 5, 3, 172, 16, 10]
abbrev dktX0_elder_13 : List UInt8 := dkwX0_elder_13 ++ dktX0_elder_14
def dkwX0_elder_12 : List UInt8 := [43, 21, 5, 29, 21, 5, 100, 182, 0, 39, 44, 21, 5, 29, 184, 0, 48, 160, 0, 25, 43, 21, 6]
abbrev dktX0_elder_12 : List UInt8 := dkwX0_elder_12 ++ dktX0_elder_13
def dkwX0_elder_11 : List UInt8 := [29, 184, 0, 48, 160, 0, 62, 43, 3, 21, 5, 182, 0, 39, 44, 3, 21, 5, 184, 0, 48, 160, 0, 45]
abbrev dktX0_elder_11 : List UInt8 := dkwX0_elder_11 ++ dktX0_elder_12
def dkwX0_elder_10 : List UInt8 := [5, 184, 0, 43, 16, 16, 124, 29, 21, 6, 100, 4, 96, 112, 54, 7, 43, 3, 29, 182, 0, 39, 44, 3]
abbrev dktX0_elder_10 : List UInt8 := dkwX0_elder_10 ++ dktX0_elder_11
def dkwX0_elder_9 : List UInt8 := [18, 47, 126, 29, 4, 96, 112, 54, 5, 42, 5, 184, 0, 43, 16, 8, 124, 29, 4, 96, 112, 54, 6, 42]
abbrev dktX0_elder_9 : List UInt8 := dkwX0_elder_9 ++ dktX0_elder_10
def dkwX0_elder_8 : List UInt8 := [184, 0, 43, 182, 0, 7, 44, 21, 5, 42, 4, 184, 0, 43, 17, 0, 255, 126, 79, 42, 5, 184, 0, 43]
abbrev dktX0_elder_8 : List UInt8 := dkwX0_elder_8 ++ dktX0_elder_9
def dkwX0_elder_7 : List UInt8 := [184, 0, 43, 4, 122, 18, 47, 126, 29, 112, 54, 5, 43, 42, 3, 184, 0, 43, 4, 122, 42, 4]
abbrev dktX0_elder_7 : List UInt8 := dkwX0_elder_7 ++ dktX0_elder_8
def dkwX0_elder_6 : List UInt8 := [172, 132, 5, 1, 167, 255, 230, 42, 3, 184, 0, 43, 4, 126, 4, 160, 0, 50, 29, 158, 0, 46, 42, 3]
abbrev dktX0_elder_6 : List UInt8 := dkwX0_elder_6 ++ dktX0_elder_7
def dkwX0_elder_5 : List UInt8 := [54, 5, 21, 5, 29, 163, 0, 26, 43, 3, 21, 5, 182, 0, 39, 25, 4, 21, 5, 51, 159, 0, 5, 3]
abbrev dktX0_elder_5 : List UInt8 := dkwX0_elder_5 ++ dktX0_elder_6
def dkwX0_elder_4 : List UInt8 := [182, 0, 31, 43, 182, 0, 35, 29, 160, 0, 12, 43, 3, 29, 182, 0, 39, 154, 0, 5, 3, 172, 3]
abbrev dktX0_elder_4 : List UInt8 := dkwX0_elder_4 ++ dktX0_elder_5
def dkwX0_elder_3 : List UInt8 := [43, 44, 29, 42, 21, 5, 46, 184, 0, 27, 62, 25, 4, 29, 4, 84, 132, 5, 1, 167, 255, 223, 43, 29]
abbrev dktX0_elder_3 : List UInt8 := dkwX0_elder_3 ++ dktX0_elder_4
def dkwX0_elder_2 : List UInt8 := [58, 4, 25, 4, 3, 4, 84, 6, 54, 5, 21, 5, 42, 190, 162, 0, 32, 29, 17, 0, 156, 163, 0, 25]
abbrev dktX0_elder_2 : List UInt8 := dkwX0_elder_2 ++ dktX0_elder_3
def dkwX0_elder_1 : List UInt8 := [3, 3, 3, 182, 0, 23, 154, 0, 5, 3, 172, 132, 3, 1, 167, 255, 234, 3, 62, 17, 0, 161, 188, 4]
abbrev dktX0_elder_1 : List UInt8 := dkwX0_elder_1 ++ dktX0_elder_2
def dkwX0_elder_0 : List UInt8 := [187, 0, 8, 89, 183, 0, 22, 76, 17, 0, 160, 188, 10, 77, 3, 62, 29, 16, 10, 162, 0, 22, 43, 3]
abbrev dktX0_elder_0 : List UInt8 := dkwX0_elder_0 ++ dktX0_elder_1
theorem dksX0_elder_0 : cX0_elder.data.toList.drop 0 = dktX0_elder_0 := by decide +kernel
theorem dksX0_elder_1 : cX0_elder.data.toList.drop 24 = dktX0_elder_1 := dk_seg dksX0_elder_0 24 rfl rfl
theorem dksX0_elder_2 : cX0_elder.data.toList.drop 48 = dktX0_elder_2 := dk_seg dksX0_elder_1 24 rfl rfl
theorem dksX0_elder_3 : cX0_elder.data.toList.drop 72 = dktX0_elder_3 := dk_seg dksX0_elder_2 24 rfl rfl
theorem dksX0_elder_4 : cX0_elder.data.toList.drop 96 = dktX0_elder_4 := dk_seg dksX0_elder_3 24 rfl rfl
theorem dksX0_elder_5 : cX0_elder.data.toList.drop 119 = dktX0_elder_5 := dk_seg dksX0_elder_4 23 rfl rfl
theorem dksX0_elder_6 : cX0_elder.data.toList.drop 143 = dktX0_elder_6 := dk_seg dksX0_elder_5 24 rfl rfl
theorem dksX0_elder_7 : cX0_elder.data.toList.drop 167 = dktX0_elder_7 := dk_seg dksX0_elder_6 24 rfl rfl
theorem dksX0_elder_8 : cX0_elder.data.toList.drop 189 = dktX0_elder_8 := dk_seg dksX0_elder_7 22 rfl rfl
theorem dksX0_elder_9 : cX0_elder.data.toList.drop 213 = dktX0_elder_9 := dk_seg dksX0_elder_8 24 rfl rfl
theorem dksX0_elder_10 : cX0_elder.data.toList.drop 237 = dktX0_elder_10 := dk_seg dksX0_elder_9 24 rfl rfl
theorem dksX0_elder_11 : cX0_elder.data.toList.drop 261 = dktX0_elder_11 := dk_seg dksX0_elder_10 24 rfl rfl
theorem dksX0_elder_12 : cX0_elder.data.toList.drop 285 = dktX0_elder_12 := dk_seg dksX0_elder_11 24 rfl rfl
theorem dksX0_elder_13 : cX0_elder.data.toList.drop 308 = dktX0_elder_13 := dk_seg dksX0_elder_12 23 rfl rfl
theorem dksX0_elder_14 : cX0_elder.data.toList.drop 331 = dktX0_elder_14 := dk_seg dksX0_elder_13 23 rfl rfl
theorem dksX0_elder_15 : cX0_elder.data.toList.drop 355 = dktX0_elder_15 := dk_seg dksX0_elder_14 24 rfl rfl
theorem dksX0_elder_16 : cX0_elder.data.toList.drop 378 = dktX0_elder_16 := dk_seg dksX0_elder_15 23 rfl rfl
theorem dksX0_elder_17 : cX0_elder.data.toList.drop 402 = dktX0_elder_17 := dk_seg dksX0_elder_16 24 rfl rfl
theorem dksX0_elder_18 : cX0_elder.data.toList.drop 426 = dktX0_elder_18 := dk_seg dksX0_elder_17 24 rfl rfl
theorem dksX0_elder_19 : cX0_elder.data.toList.drop 449 = dktX0_elder_19 := dk_seg dksX0_elder_18 23 rfl rfl
theorem dksX0_elder_20 : cX0_elder.data.toList.drop 472 = dktX0_elder_20 := dk_seg dksX0_elder_19 23 rfl rfl
theorem dksX0_elder_21 : cX0_elder.data.toList.drop 496 = dktX0_elder_21 := dk_seg dksX0_elder_20 24 rfl rfl
theorem dksX0_elder_22 : cX0_elder.data.toList.drop 518 = dktX0_elder_22 := dk_seg dksX0_elder_21 22 rfl rfl
theorem dksX0_elder_23 : cX0_elder.data.toList.drop 542 = dktX0_elder_23 := dk_seg dksX0_elder_22 24 rfl rfl
theorem dksX0_elder_24 : cX0_elder.data.toList.drop 565 = dktX0_elder_24 := dk_seg dksX0_elder_23 23 rfl rfl
theorem dX0_elder_0 : decode cX0_elder 0 = .ok (.new 8, 3) := dk_187 0 8 (dk_at dksX0_elder_0 0 rfl rfl)
theorem dX0_elder_3 : decode cX0_elder 3 = .ok (.dup, 1) := dk_89 (dk_at dksX0_elder_0 3 rfl rfl)
theorem dX0_elder_4 : decode cX0_elder 4 = .ok (.invokespecial 22, 3) := dk_183 0 22 (dk_at dksX0_elder_0 4 rfl rfl)
theorem dX0_elder_7 : decode cX0_elder 7 = .ok (.astore_n 1, 1) := dk_76 (dk_at dksX0_elder_0 7 rfl rfl)
theorem dX0_elder_8 : decode cX0_elder 8 = .ok (.sipush 160, 3) := dk_17 0 160 (dk_at dksX0_elder_0 8 rfl rfl)
theorem dX0_elder_11 : decode cX0_elder 11 = .ok (.newarray .int, 2) := dk_188_10 (dk_at dksX0_elder_0 11 rfl rfl)
theorem dX0_elder_13 : decode cX0_elder 13 = .ok (.astore_n 2, 1) := dk_77 (dk_at dksX0_elder_0 13 rfl rfl)
theorem dX0_elder_14 : decode cX0_elder 14 = .ok (.iconst 0, 1) := dk_3 (dk_at dksX0_elder_0 14 rfl rfl)
theorem dX0_elder_15 : decode cX0_elder 15 = .ok (.istore_n 3, 1) := dk_62 (dk_at dksX0_elder_0 15 rfl rfl)
theorem dX0_elder_16 : decode cX0_elder 16 = .ok (.iload_n 3, 1) := dk_29 (dk_at dksX0_elder_0 16 rfl rfl)
theorem dX0_elder_17 : decode cX0_elder 17 = .ok (.bipush 10, 2) := dk_16 10 (dk_at dksX0_elder_0 17 rfl rfl)
theorem dX0_elder_19 : decode cX0_elder 19 = .ok (.if_icmp .ge 22, 3) := dk_162 0 22 (dk_at dksX0_elder_0 19 rfl rfl)
theorem dX0_elder_22 : decode cX0_elder 22 = .ok (.aload_n 1, 1) := dk_43 (dk_at dksX0_elder_0 22 rfl rfl)
theorem dX0_elder_23 : decode cX0_elder 23 = .ok (.iconst 0, 1) := dk_3 (dk_at dksX0_elder_0 23 rfl rfl)
theorem dX0_elder_24 : decode cX0_elder 24 = .ok (.iconst 0, 1) := dk_3 (dk_at dksX0_elder_1 0 rfl rfl)
theorem dX0_elder_25 : decode cX0_elder 25 = .ok (.iconst 0, 1) := dk_3 (dk_at dksX0_elder_1 1 rfl rfl)
theorem dX0_elder_26 : decode cX0_elder 26 = .ok (.iconst 0, 1) := dk_3 (dk_at dksX0_elder_1 2 rfl rfl)
theorem dX0_elder_27 : decode cX0_elder 27 = .ok (.invokevirtual 23, 3) := dk_182 0 23 (dk_at dksX0_elder_1 3 rfl rfl)
theorem dX0_elder_30 : decode cX0_elder 30 = .ok (.ifCond .ne 5, 3) := dk_154 0 5 (dk_at dksX0_elder_1 6 rfl rfl)
theorem dX0_elder_33 : decode cX0_elder 33 = .ok (.iconst 0, 1) := dk_3 (dk_at dksX0_elder_1 9 rfl rfl)
theorem dX0_elder_34 : decode cX0_elder 34 = .ok (.ireturn, 1) := dk_172 (dk_at dksX0_elder_1 10 rfl rfl)
theorem dX0_elder_35 : decode cX0_elder 35 = .ok (.iinc 3 1, 3) := dk_132 3 1 (dk_at dksX0_elder_1 11 rfl rfl)
theorem dX0_elder_38 : decode cX0_elder 38 = .ok (.goto (-22), 3) := dk_167 255 234 (dk_at dksX0_elder_1 14 rfl rfl)
theorem dX0_elder_41 : decode cX0_elder 41 = .ok (.iconst 0, 1) := dk_3 (dk_at dksX0_elder_1 17 rfl rfl)
theorem dX0_elder_42 : decode cX0_elder 42 = .ok (.istore_n 3, 1) := dk_62 (dk_at dksX0_elder_1 18 rfl rfl)
theorem dX0_elder_43 : decode cX0_elder 43 = .ok (.sipush 161, 3) := dk_17 0 161 (dk_at dksX0_elder_1 19 rfl rfl)
theorem dX0_elder_46 : decode cX0_elder 46 = .ok (.newarray .boolean, 2) := dk_188_4 (dk_at dksX0_elder_1 22 rfl rfl)
theorem dX0_elder_48 : decode cX0_elder 48 = .ok (.astore 4, 2) := dk_58 4 (dk_at dksX0_elder_2 0 rfl rfl)
theorem dX0_elder_50 : decode cX0_elder 50 = .ok (.aload 4, 2) := dk_25 4 (dk_at dksX0_elder_2 2 rfl rfl)
theorem dX0_elder_52 : decode cX0_elder 52 = .ok (.iconst 0, 1) := dk_3 (dk_at dksX0_elder_2 4 rfl rfl)
theorem dX0_elder_53 : decode cX0_elder 53 = .ok (.iconst 1, 1) := dk_4 (dk_at dksX0_elder_2 5 rfl rfl)
theorem dX0_elder_54 : decode cX0_elder 54 = .ok (.bastore, 1) := dk_84 (dk_at dksX0_elder_2 6 rfl rfl)
theorem dX0_elder_55 : decode cX0_elder 55 = .ok (.iconst 3, 1) := dk_6 (dk_at dksX0_elder_2 7 rfl rfl)
theorem dX0_elder_56 : decode cX0_elder 56 = .ok (.istore 5, 2) := dk_54 5 (dk_at dksX0_elder_2 8 rfl rfl)
theorem dX0_elder_58 : decode cX0_elder 58 = .ok (.iload 5, 2) := dk_21 5 (dk_at dksX0_elder_2 10 rfl rfl)
theorem dX0_elder_60 : decode cX0_elder 60 = .ok (.aload_n 0, 1) := dk_42 (dk_at dksX0_elder_2 12 rfl rfl)
theorem dX0_elder_61 : decode cX0_elder 61 = .ok (.arraylength, 1) := dk_190 (dk_at dksX0_elder_2 13 rfl rfl)
theorem dX0_elder_62 : decode cX0_elder 62 = .ok (.if_icmp .ge 32, 3) := dk_162 0 32 (dk_at dksX0_elder_2 14 rfl rfl)
theorem dX0_elder_65 : decode cX0_elder 65 = .ok (.iload_n 3, 1) := dk_29 (dk_at dksX0_elder_2 17 rfl rfl)
theorem dX0_elder_66 : decode cX0_elder 66 = .ok (.sipush 156, 3) := dk_17 0 156 (dk_at dksX0_elder_2 18 rfl rfl)
theorem dX0_elder_69 : decode cX0_elder 69 = .ok (.if_icmp .gt 25, 3) := dk_163 0 25 (dk_at dksX0_elder_2 21 rfl rfl)
theorem dX0_elder_72 : decode cX0_elder 72 = .ok (.aload_n 1, 1) := dk_43 (dk_at dksX0_elder_3 0 rfl rfl)
theorem dX0_elder_73 : decode cX0_elder 73 = .ok (.aload_n 2, 1) := dk_44 (dk_at dksX0_elder_3 1 rfl rfl)
theorem dX0_elder_74 : decode cX0_elder 74 = .ok (.iload_n 3, 1) := dk_29 (dk_at dksX0_elder_3 2 rfl rfl)
theorem dX0_elder_75 : decode cX0_elder 75 = .ok (.aload_n 0, 1) := dk_42 (dk_at dksX0_elder_3 3 rfl rfl)
theorem dX0_elder_76 : decode cX0_elder 76 = .ok (.iload 5, 2) := dk_21 5 (dk_at dksX0_elder_3 4 rfl rfl)
theorem dX0_elder_78 : decode cX0_elder 78 = .ok (.iaload, 1) := dk_46 (dk_at dksX0_elder_3 6 rfl rfl)
theorem dX0_elder_79 : decode cX0_elder 79 = .ok (.invokestatic 27, 3) := dk_184 0 27 (dk_at dksX0_elder_3 7 rfl rfl)
theorem dX0_elder_82 : decode cX0_elder 82 = .ok (.istore_n 3, 1) := dk_62 (dk_at dksX0_elder_3 10 rfl rfl)
theorem dX0_elder_83 : decode cX0_elder 83 = .ok (.aload 4, 2) := dk_25 4 (dk_at dksX0_elder_3 11 rfl rfl)
theorem dX0_elder_85 : decode cX0_elder 85 = .ok (.iload_n 3, 1) := dk_29 (dk_at dksX0_elder_3 13 rfl rfl)
theorem dX0_elder_86 : decode cX0_elder 86 = .ok (.iconst 1, 1) := dk_4 (dk_at dksX0_elder_3 14 rfl rfl)
theorem dX0_elder_87 : decode cX0_elder 87 = .ok (.bastore, 1) := dk_84 (dk_at dksX0_elder_3 15 rfl rfl)
theorem dX0_elder_88 : decode cX0_elder 88 = .ok (.iinc 5 1, 3) := dk_132 5 1 (dk_at dksX0_elder_3 16 rfl rfl)
theorem dX0_elder_91 : decode cX0_elder 91 = .ok (.goto (-33), 3) := dk_167 255 223 (dk_at dksX0_elder_3 19 rfl rfl)
theorem dX0_elder_94 : decode cX0_elder 94 = .ok (.aload_n 1, 1) := dk_43 (dk_at dksX0_elder_3 22 rfl rfl)
theorem dX0_elder_95 : decode cX0_elder 95 = .ok (.iload_n 3, 1) := dk_29 (dk_at dksX0_elder_3 23 rfl rfl)
theorem dX0_elder_96 : decode cX0_elder 96 = .ok (.invokevirtual 31, 3) := dk_182 0 31 (dk_at dksX0_elder_4 0 rfl rfl)
theorem dX0_elder_99 : decode cX0_elder 99 = .ok (.aload_n 1, 1) := dk_43 (dk_at dksX0_elder_4 3 rfl rfl)
theorem dX0_elder_100 : decode cX0_elder 100 = .ok (.invokevirtual 35, 3) := dk_182 0 35 (dk_at dksX0_elder_4 4 rfl rfl)
theorem dX0_elder_103 : decode cX0_elder 103 = .ok (.iload_n 3, 1) := dk_29 (dk_at dksX0_elder_4 7 rfl rfl)
theorem dX0_elder_104 : decode cX0_elder 104 = .ok (.if_icmp .ne 12, 3) := dk_160 0 12 (dk_at dksX0_elder_4 8 rfl rfl)
theorem dX0_elder_107 : decode cX0_elder 107 = .ok (.aload_n 1, 1) := dk_43 (dk_at dksX0_elder_4 11 rfl rfl)
theorem dX0_elder_108 : decode cX0_elder 108 = .ok (.iconst 0, 1) := dk_3 (dk_at dksX0_elder_4 12 rfl rfl)
theorem dX0_elder_109 : decode cX0_elder 109 = .ok (.iload_n 3, 1) := dk_29 (dk_at dksX0_elder_4 13 rfl rfl)
theorem dX0_elder_110 : decode cX0_elder 110 = .ok (.invokevirtual 39, 3) := dk_182 0 39 (dk_at dksX0_elder_4 14 rfl rfl)
theorem dX0_elder_113 : decode cX0_elder 113 = .ok (.ifCond .ne 5, 3) := dk_154 0 5 (dk_at dksX0_elder_4 17 rfl rfl)
theorem dX0_elder_116 : decode cX0_elder 116 = .ok (.iconst 0, 1) := dk_3 (dk_at dksX0_elder_4 20 rfl rfl)
theorem dX0_elder_117 : decode cX0_elder 117 = .ok (.ireturn, 1) := dk_172 (dk_at dksX0_elder_4 21 rfl rfl)
theorem dX0_elder_118 : decode cX0_elder 118 = .ok (.iconst 0, 1) := dk_3 (dk_at dksX0_elder_4 22 rfl rfl)
theorem dX0_elder_119 : decode cX0_elder 119 = .ok (.istore 5, 2) := dk_54 5 (dk_at dksX0_elder_5 0 rfl rfl)
theorem dX0_elder_121 : decode cX0_elder 121 = .ok (.iload 5, 2) := dk_21 5 (dk_at dksX0_elder_5 2 rfl rfl)
theorem dX0_elder_123 : decode cX0_elder 123 = .ok (.iload_n 3, 1) := dk_29 (dk_at dksX0_elder_5 4 rfl rfl)
theorem dX0_elder_124 : decode cX0_elder 124 = .ok (.if_icmp .gt 26, 3) := dk_163 0 26 (dk_at dksX0_elder_5 5 rfl rfl)
theorem dX0_elder_127 : decode cX0_elder 127 = .ok (.aload_n 1, 1) := dk_43 (dk_at dksX0_elder_5 8 rfl rfl)
theorem dX0_elder_128 : decode cX0_elder 128 = .ok (.iconst 0, 1) := dk_3 (dk_at dksX0_elder_5 9 rfl rfl)
theorem dX0_elder_129 : decode cX0_elder 129 = .ok (.iload 5, 2) := dk_21 5 (dk_at dksX0_elder_5 10 rfl rfl)
theorem dX0_elder_131 : decode cX0_elder 131 = .ok (.invokevirtual 39, 3) := dk_182 0 39 (dk_at dksX0_elder_5 12 rfl rfl)
theorem dX0_elder_134 : decode cX0_elder 134 = .ok (.aload 4, 2) := dk_25 4 (dk_at dksX0_elder_5 15 rfl rfl)
theorem dX0_elder_136 : decode cX0_elder 136 = .ok (.iload 5, 2) := dk_21 5 (dk_at dksX0_elder_5 17 rfl rfl)
theorem dX0_elder_138 : decode cX0_elder 138 = .ok (.baload, 1) := dk_51 (dk_at dksX0_elder_5 19 rfl rfl)
theorem dX0_elder_139 : decode cX0_elder 139 = .ok (.if_icmp .eq 5, 3) := dk_159 0 5 (dk_at dksX0_elder_5 20 rfl rfl)
theorem dX0_elder_142 : decode cX0_elder 142 = .ok (.iconst 0, 1) := dk_3 (dk_at dksX0_elder_5 23 rfl rfl)
theorem dX0_elder_143 : decode cX0_elder 143 = .ok (.ireturn, 1) := dk_172 (dk_at dksX0_elder_6 0 rfl rfl)
theorem dX0_elder_144 : decode cX0_elder 144 = .ok (.iinc 5 1, 3) := dk_132 5 1 (dk_at dksX0_elder_6 1 rfl rfl)
theorem dX0_elder_147 : decode cX0_elder 147 = .ok (.goto (-26), 3) := dk_167 255 230 (dk_at dksX0_elder_6 4 rfl rfl)
theorem dX0_elder_150 : decode cX0_elder 150 = .ok (.aload_n 0, 1) := dk_42 (dk_at dksX0_elder_6 7 rfl rfl)
theorem dX0_elder_151 : decode cX0_elder 151 = .ok (.iconst 0, 1) := dk_3 (dk_at dksX0_elder_6 8 rfl rfl)
theorem dX0_elder_152 : decode cX0_elder 152 = .ok (.invokestatic 43, 3) := dk_184 0 43 (dk_at dksX0_elder_6 9 rfl rfl)
theorem dX0_elder_155 : decode cX0_elder 155 = .ok (.iconst 1, 1) := dk_4 (dk_at dksX0_elder_6 12 rfl rfl)
theorem dX0_elder_156 : decode cX0_elder 156 = .ok (.iand, 1) := dk_126 (dk_at dksX0_elder_6 13 rfl rfl)
theorem dX0_elder_157 : decode cX0_elder 157 = .ok (.iconst 1, 1) := dk_4 (dk_at dksX0_elder_6 14 rfl rfl)
theorem dX0_elder_158 : decode cX0_elder 158 = .ok (.if_icmp .ne 50, 3) := dk_160 0 50 (dk_at dksX0_elder_6 15 rfl rfl)
theorem dX0_elder_161 : decode cX0_elder 161 = .ok (.iload_n 3, 1) := dk_29 (dk_at dksX0_elder_6 18 rfl rfl)
theorem dX0_elder_162 : decode cX0_elder 162 = .ok (.ifCond .le 46, 3) := dk_158 0 46 (dk_at dksX0_elder_6 19 rfl rfl)
theorem dX0_elder_165 : decode cX0_elder 165 = .ok (.aload_n 0, 1) := dk_42 (dk_at dksX0_elder_6 22 rfl rfl)
theorem dX0_elder_166 : decode cX0_elder 166 = .ok (.iconst 0, 1) := dk_3 (dk_at dksX0_elder_6 23 rfl rfl)
theorem dX0_elder_167 : decode cX0_elder 167 = .ok (.invokestatic 43, 3) := dk_184 0 43 (dk_at dksX0_elder_7 0 rfl rfl)
theorem dX0_elder_170 : decode cX0_elder 170 = .ok (.iconst 1, 1) := dk_4 (dk_at dksX0_elder_7 3 rfl rfl)
theorem dX0_elder_171 : decode cX0_elder 171 = .ok (.ishr, 1) := dk_122 (dk_at dksX0_elder_7 4 rfl rfl)
theorem dX0_elder_172 : decode cX0_elder 172 = .ok (.ldc 47, 2) := dk_18 47 (dk_at dksX0_elder_7 5 rfl rfl)
theorem dX0_elder_174 : decode cX0_elder 174 = .ok (.iand, 1) := dk_126 (dk_at dksX0_elder_7 7 rfl rfl)
theorem dX0_elder_175 : decode cX0_elder 175 = .ok (.iload_n 3, 1) := dk_29 (dk_at dksX0_elder_7 8 rfl rfl)
theorem dX0_elder_176 : decode cX0_elder 176 = .ok (.irem, 1) := dk_112 (dk_at dksX0_elder_7 9 rfl rfl)
theorem dX0_elder_177 : decode cX0_elder 177 = .ok (.istore 5, 2) := dk_54 5 (dk_at dksX0_elder_7 10 rfl rfl)
theorem dX0_elder_179 : decode cX0_elder 179 = .ok (.aload_n 1, 1) := dk_43 (dk_at dksX0_elder_7 12 rfl rfl)
theorem dX0_elder_180 : decode cX0_elder 180 = .ok (.aload_n 0, 1) := dk_42 (dk_at dksX0_elder_7 13 rfl rfl)
theorem dX0_elder_181 : decode cX0_elder 181 = .ok (.iconst 0, 1) := dk_3 (dk_at dksX0_elder_7 14 rfl rfl)
theorem dX0_elder_182 : decode cX0_elder 182 = .ok (.invokestatic 43, 3) := dk_184 0 43 (dk_at dksX0_elder_7 15 rfl rfl)
theorem dX0_elder_185 : decode cX0_elder 185 = .ok (.iconst 1, 1) := dk_4 (dk_at dksX0_elder_7 18 rfl rfl)
theorem dX0_elder_186 : decode cX0_elder 186 = .ok (.ishr, 1) := dk_122 (dk_at dksX0_elder_7 19 rfl rfl)
theorem dX0_elder_187 : decode cX0_elder 187 = .ok (.aload_n 0, 1) := dk_42 (dk_at dksX0_elder_7 20 rfl rfl)
theorem dX0_elder_188 : decode cX0_elder 188 = .ok (.iconst 1, 1) := dk_4 (dk_at dksX0_elder_7 21 rfl rfl)
theorem dX0_elder_189 : decode cX0_elder 189 = .ok (.invokestatic 43, 3) := dk_184 0 43 (dk_at dksX0_elder_8 0 rfl rfl)
theorem dX0_elder_192 : decode cX0_elder 192 = .ok (.invokevirtual 7, 3) := dk_182 0 7 (dk_at dksX0_elder_8 3 rfl rfl)
theorem dX0_elder_195 : decode cX0_elder 195 = .ok (.aload_n 2, 1) := dk_44 (dk_at dksX0_elder_8 6 rfl rfl)
theorem dX0_elder_196 : decode cX0_elder 196 = .ok (.iload 5, 2) := dk_21 5 (dk_at dksX0_elder_8 7 rfl rfl)
theorem dX0_elder_198 : decode cX0_elder 198 = .ok (.aload_n 0, 1) := dk_42 (dk_at dksX0_elder_8 9 rfl rfl)
theorem dX0_elder_199 : decode cX0_elder 199 = .ok (.iconst 1, 1) := dk_4 (dk_at dksX0_elder_8 10 rfl rfl)
theorem dX0_elder_200 : decode cX0_elder 200 = .ok (.invokestatic 43, 3) := dk_184 0 43 (dk_at dksX0_elder_8 11 rfl rfl)
theorem dX0_elder_203 : decode cX0_elder 203 = .ok (.sipush 255, 3) := dk_17 0 255 (dk_at dksX0_elder_8 14 rfl rfl)
theorem dX0_elder_206 : decode cX0_elder 206 = .ok (.iand, 1) := dk_126 (dk_at dksX0_elder_8 17 rfl rfl)
theorem dX0_elder_207 : decode cX0_elder 207 = .ok (.iastore, 1) := dk_79 (dk_at dksX0_elder_8 18 rfl rfl)
theorem dX0_elder_208 : decode cX0_elder 208 = .ok (.aload_n 0, 1) := dk_42 (dk_at dksX0_elder_8 19 rfl rfl)
theorem dX0_elder_209 : decode cX0_elder 209 = .ok (.iconst 2, 1) := dk_5 (dk_at dksX0_elder_8 20 rfl rfl)
theorem dX0_elder_210 : decode cX0_elder 210 = .ok (.invokestatic 43, 3) := dk_184 0 43 (dk_at dksX0_elder_8 21 rfl rfl)
theorem dX0_elder_213 : decode cX0_elder 213 = .ok (.ldc 47, 2) := dk_18 47 (dk_at dksX0_elder_9 0 rfl rfl)
theorem dX0_elder_215 : decode cX0_elder 215 = .ok (.iand, 1) := dk_126 (dk_at dksX0_elder_9 2 rfl rfl)
theorem dX0_elder_216 : decode cX0_elder 216 = .ok (.iload_n 3, 1) := dk_29 (dk_at dksX0_elder_9 3 rfl rfl)
theorem dX0_elder_217 : decode cX0_elder 217 = .ok (.iconst 1, 1) := dk_4 (dk_at dksX0_elder_9 4 rfl rfl)
theorem dX0_elder_218 : decode cX0_elder 218 = .ok (.iadd, 1) := dk_96 (dk_at dksX0_elder_9 5 rfl rfl)
theorem dX0_elder_219 : decode cX0_elder 219 = .ok (.irem, 1) := dk_112 (dk_at dksX0_elder_9 6 rfl rfl)
theorem dX0_elder_220 : decode cX0_elder 220 = .ok (.istore 5, 2) := dk_54 5 (dk_at dksX0_elder_9 7 rfl rfl)
theorem dX0_elder_222 : decode cX0_elder 222 = .ok (.aload_n 0, 1) := dk_42 (dk_at dksX0_elder_9 9 rfl rfl)
theorem dX0_elder_223 : decode cX0_elder 223 = .ok (.iconst 2, 1) := dk_5 (dk_at dksX0_elder_9 10 rfl rfl)
theorem dX0_elder_224 : decode cX0_elder 224 = .ok (.invokestatic 43, 3) := dk_184 0 43 (dk_at dksX0_elder_9 11 rfl rfl)
theorem dX0_elder_227 : decode cX0_elder 227 = .ok (.bipush 8, 2) := dk_16 8 (dk_at dksX0_elder_9 14 rfl rfl)
theorem dX0_elder_229 : decode cX0_elder 229 = .ok (.iushr, 1) := dk_124 (dk_at dksX0_elder_9 16 rfl rfl)
theorem dX0_elder_230 : decode cX0_elder 230 = .ok (.iload_n 3, 1) := dk_29 (dk_at dksX0_elder_9 17 rfl rfl)
theorem dX0_elder_231 : decode cX0_elder 231 = .ok (.iconst 1, 1) := dk_4 (dk_at dksX0_elder_9 18 rfl rfl)
theorem dX0_elder_232 : decode cX0_elder 232 = .ok (.iadd, 1) := dk_96 (dk_at dksX0_elder_9 19 rfl rfl)
theorem dX0_elder_233 : decode cX0_elder 233 = .ok (.irem, 1) := dk_112 (dk_at dksX0_elder_9 20 rfl rfl)
theorem dX0_elder_234 : decode cX0_elder 234 = .ok (.istore 6, 2) := dk_54 6 (dk_at dksX0_elder_9 21 rfl rfl)
theorem dX0_elder_236 : decode cX0_elder 236 = .ok (.aload_n 0, 1) := dk_42 (dk_at dksX0_elder_9 23 rfl rfl)
theorem dX0_elder_237 : decode cX0_elder 237 = .ok (.iconst 2, 1) := dk_5 (dk_at dksX0_elder_10 0 rfl rfl)
theorem dX0_elder_238 : decode cX0_elder 238 = .ok (.invokestatic 43, 3) := dk_184 0 43 (dk_at dksX0_elder_10 1 rfl rfl)
theorem dX0_elder_241 : decode cX0_elder 241 = .ok (.bipush 16, 2) := dk_16 16 (dk_at dksX0_elder_10 4 rfl rfl)
theorem dX0_elder_243 : decode cX0_elder 243 = .ok (.iushr, 1) := dk_124 (dk_at dksX0_elder_10 6 rfl rfl)
theorem dX0_elder_244 : decode cX0_elder 244 = .ok (.iload_n 3, 1) := dk_29 (dk_at dksX0_elder_10 7 rfl rfl)
theorem dX0_elder_245 : decode cX0_elder 245 = .ok (.iload 6, 2) := dk_21 6 (dk_at dksX0_elder_10 8 rfl rfl)
theorem dX0_elder_247 : decode cX0_elder 247 = .ok (.isub, 1) := dk_100 (dk_at dksX0_elder_10 10 rfl rfl)
theorem dX0_elder_248 : decode cX0_elder 248 = .ok (.iconst 1, 1) := dk_4 (dk_at dksX0_elder_10 11 rfl rfl)
theorem dX0_elder_249 : decode cX0_elder 249 = .ok (.iadd, 1) := dk_96 (dk_at dksX0_elder_10 12 rfl rfl)
theorem dX0_elder_250 : decode cX0_elder 250 = .ok (.irem, 1) := dk_112 (dk_at dksX0_elder_10 13 rfl rfl)
theorem dX0_elder_251 : decode cX0_elder 251 = .ok (.istore 7, 2) := dk_54 7 (dk_at dksX0_elder_10 14 rfl rfl)
theorem dX0_elder_253 : decode cX0_elder 253 = .ok (.aload_n 1, 1) := dk_43 (dk_at dksX0_elder_10 16 rfl rfl)
theorem dX0_elder_254 : decode cX0_elder 254 = .ok (.iconst 0, 1) := dk_3 (dk_at dksX0_elder_10 17 rfl rfl)
theorem dX0_elder_255 : decode cX0_elder 255 = .ok (.iload_n 3, 1) := dk_29 (dk_at dksX0_elder_10 18 rfl rfl)
theorem dX0_elder_256 : decode cX0_elder 256 = .ok (.invokevirtual 39, 3) := dk_182 0 39 (dk_at dksX0_elder_10 19 rfl rfl)
theorem dX0_elder_259 : decode cX0_elder 259 = .ok (.aload_n 2, 1) := dk_44 (dk_at dksX0_elder_10 22 rfl rfl)
theorem dX0_elder_260 : decode cX0_elder 260 = .ok (.iconst 0, 1) := dk_3 (dk_at dksX0_elder_10 23 rfl rfl)
theorem dX0_elder_261 : decode cX0_elder 261 = .ok (.iload_n 3, 1) := dk_29 (dk_at dksX0_elder_11 0 rfl rfl)
theorem dX0_elder_262 : decode cX0_elder 262 = .ok (.invokestatic 48, 3) := dk_184 0 48 (dk_at dksX0_elder_11 1 rfl rfl)
theorem dX0_elder_265 : decode cX0_elder 265 = .ok (.if_icmp .ne 62, 3) := dk_160 0 62 (dk_at dksX0_elder_11 4 rfl rfl)
theorem dX0_elder_268 : decode cX0_elder 268 = .ok (.aload_n 1, 1) := dk_43 (dk_at dksX0_elder_11 7 rfl rfl)
theorem dX0_elder_269 : decode cX0_elder 269 = .ok (.iconst 0, 1) := dk_3 (dk_at dksX0_elder_11 8 rfl rfl)
theorem dX0_elder_270 : decode cX0_elder 270 = .ok (.iload 5, 2) := dk_21 5 (dk_at dksX0_elder_11 9 rfl rfl)
theorem dX0_elder_272 : decode cX0_elder 272 = .ok (.invokevirtual 39, 3) := dk_182 0 39 (dk_at dksX0_elder_11 11 rfl rfl)
theorem dX0_elder_275 : decode cX0_elder 275 = .ok (.aload_n 2, 1) := dk_44 (dk_at dksX0_elder_11 14 rfl rfl)
theorem dX0_elder_276 : decode cX0_elder 276 = .ok (.iconst 0, 1) := dk_3 (dk_at dksX0_elder_11 15 rfl rfl)
theorem dX0_elder_277 : decode cX0_elder 277 = .ok (.iload 5, 2) := dk_21 5 (dk_at dksX0_elder_11 16 rfl rfl)
theorem dX0_elder_279 : decode cX0_elder 279 = .ok (.invokestatic 48, 3) := dk_184 0 48 (dk_at dksX0_elder_11 18 rfl rfl)
theorem dX0_elder_282 : decode cX0_elder 282 = .ok (.if_icmp .ne 45, 3) := dk_160 0 45 (dk_at dksX0_elder_11 21 rfl rfl)
theorem dX0_elder_285 : decode cX0_elder 285 = .ok (.aload_n 1, 1) := dk_43 (dk_at dksX0_elder_12 0 rfl rfl)
theorem dX0_elder_286 : decode cX0_elder 286 = .ok (.iload 5, 2) := dk_21 5 (dk_at dksX0_elder_12 1 rfl rfl)
theorem dX0_elder_288 : decode cX0_elder 288 = .ok (.iload_n 3, 1) := dk_29 (dk_at dksX0_elder_12 3 rfl rfl)
theorem dX0_elder_289 : decode cX0_elder 289 = .ok (.iload 5, 2) := dk_21 5 (dk_at dksX0_elder_12 4 rfl rfl)
theorem dX0_elder_291 : decode cX0_elder 291 = .ok (.isub, 1) := dk_100 (dk_at dksX0_elder_12 6 rfl rfl)
theorem dX0_elder_292 : decode cX0_elder 292 = .ok (.invokevirtual 39, 3) := dk_182 0 39 (dk_at dksX0_elder_12 7 rfl rfl)
theorem dX0_elder_295 : decode cX0_elder 295 = .ok (.aload_n 2, 1) := dk_44 (dk_at dksX0_elder_12 10 rfl rfl)
theorem dX0_elder_296 : decode cX0_elder 296 = .ok (.iload 5, 2) := dk_21 5 (dk_at dksX0_elder_12 11 rfl rfl)
theorem dX0_elder_298 : decode cX0_elder 298 = .ok (.iload_n 3, 1) := dk_29 (dk_at dksX0_elder_12 13 rfl rfl)
theorem dX0_elder_299 : decode cX0_elder 299 = .ok (.invokestatic 48, 3) := dk_184 0 48 (dk_at dksX0_elder_12 14 rfl rfl)
theorem dX0_elder_302 : decode cX0_elder 302 = .ok (.if_icmp .ne 25, 3) := dk_160 0 25 (dk_at dksX0_elder_12 17 rfl rfl)
theorem dX0_elder_305 : decode cX0_elder 305 = .ok (.aload_n 1, 1) := dk_43 (dk_at dksX0_elder_12 20 rfl rfl)
theorem dX0_elder_306 : decode cX0_elder 306 = .ok (.iload 6, 2) := dk_21 6 (dk_at dksX0_elder_12 21 rfl rfl)
theorem dX0_elder_308 : decode cX0_elder 308 = .ok (.iload 7, 2) := dk_21 7 (dk_at dksX0_elder_13 0 rfl rfl)
theorem dX0_elder_310 : decode cX0_elder 310 = .ok (.invokevirtual 39, 3) := dk_182 0 39 (dk_at dksX0_elder_13 2 rfl rfl)
theorem dX0_elder_313 : decode cX0_elder 313 = .ok (.aload_n 2, 1) := dk_44 (dk_at dksX0_elder_13 5 rfl rfl)
theorem dX0_elder_314 : decode cX0_elder 314 = .ok (.iload 6, 2) := dk_21 6 (dk_at dksX0_elder_13 6 rfl rfl)
theorem dX0_elder_316 : decode cX0_elder 316 = .ok (.iload 6, 2) := dk_21 6 (dk_at dksX0_elder_13 8 rfl rfl)
theorem dX0_elder_318 : decode cX0_elder 318 = .ok (.iload 7, 2) := dk_21 7 (dk_at dksX0_elder_13 10 rfl rfl)
theorem dX0_elder_320 : decode cX0_elder 320 = .ok (.iadd, 1) := dk_96 (dk_at dksX0_elder_13 12 rfl rfl)
theorem dX0_elder_321 : decode cX0_elder 321 = .ok (.invokestatic 48, 3) := dk_184 0 48 (dk_at dksX0_elder_13 13 rfl rfl)
theorem dX0_elder_324 : decode cX0_elder 324 = .ok (.if_icmp .eq 5, 3) := dk_159 0 5 (dk_at dksX0_elder_13 16 rfl rfl)
theorem dX0_elder_327 : decode cX0_elder 327 = .ok (.iconst 0, 1) := dk_3 (dk_at dksX0_elder_13 19 rfl rfl)
theorem dX0_elder_328 : decode cX0_elder 328 = .ok (.ireturn, 1) := dk_172 (dk_at dksX0_elder_13 20 rfl rfl)
theorem dX0_elder_329 : decode cX0_elder 329 = .ok (.bipush 10, 2) := dk_16 10 (dk_at dksX0_elder_13 21 rfl rfl)
theorem dX0_elder_331 : decode cX0_elder 331 = .ok (.newarray .int, 2) := dk_188_10 (dk_at dksX0_elder_14 0 rfl rfl)
theorem dX0_elder_333 : decode cX0_elder 333 = .ok (.dup, 1) := dk_89 (dk_at dksX0_elder_14 2 rfl rfl)
theorem dX0_elder_334 : decode cX0_elder 334 = .ok (.iconst 0, 1) := dk_3 (dk_at dksX0_elder_14 3 rfl rfl)
theorem dX0_elder_335 : decode cX0_elder 335 = .ok (.ldc 52, 2) := dk_18 52 (dk_at dksX0_elder_14 4 rfl rfl)
theorem dX0_elder_337 : decode cX0_elder 337 = .ok (.iastore, 1) := dk_79 (dk_at dksX0_elder_14 6 rfl rfl)
theorem dX0_elder_338 : decode cX0_elder 338 = .ok (.dup, 1) := dk_89 (dk_at dksX0_elder_14 7 rfl rfl)
theorem dX0_elder_339 : decode cX0_elder 339 = .ok (.iconst 1, 1) := dk_4 (dk_at dksX0_elder_14 8 rfl rfl)
theorem dX0_elder_340 : decode cX0_elder 340 = .ok (.ldc 53, 2) := dk_18 53 (dk_at dksX0_elder_14 9 rfl rfl)
theorem dX0_elder_342 : decode cX0_elder 342 = .ok (.iastore, 1) := dk_79 (dk_at dksX0_elder_14 11 rfl rfl)
theorem dX0_elder_343 : decode cX0_elder 343 = .ok (.dup, 1) := dk_89 (dk_at dksX0_elder_14 12 rfl rfl)
theorem dX0_elder_344 : decode cX0_elder 344 = .ok (.iconst 2, 1) := dk_5 (dk_at dksX0_elder_14 13 rfl rfl)
theorem dX0_elder_345 : decode cX0_elder 345 = .ok (.ldc 54, 2) := dk_18 54 (dk_at dksX0_elder_14 14 rfl rfl)
theorem dX0_elder_347 : decode cX0_elder 347 = .ok (.iastore, 1) := dk_79 (dk_at dksX0_elder_14 16 rfl rfl)
theorem dX0_elder_348 : decode cX0_elder 348 = .ok (.dup, 1) := dk_89 (dk_at dksX0_elder_14 17 rfl rfl)
theorem dX0_elder_349 : decode cX0_elder 349 = .ok (.iconst 3, 1) := dk_6 (dk_at dksX0_elder_14 18 rfl rfl)
theorem dX0_elder_350 : decode cX0_elder 350 = .ok (.ldc 55, 2) := dk_18 55 (dk_at dksX0_elder_14 19 rfl rfl)
theorem dX0_elder_352 : decode cX0_elder 352 = .ok (.iastore, 1) := dk_79 (dk_at dksX0_elder_14 21 rfl rfl)
theorem dX0_elder_353 : decode cX0_elder 353 = .ok (.dup, 1) := dk_89 (dk_at dksX0_elder_14 22 rfl rfl)
theorem dX0_elder_354 : decode cX0_elder 354 = .ok (.iconst 4, 1) := dk_7 (dk_at dksX0_elder_14 23 rfl rfl)
theorem dX0_elder_355 : decode cX0_elder 355 = .ok (.ldc 56, 2) := dk_18 56 (dk_at dksX0_elder_15 0 rfl rfl)
theorem dX0_elder_357 : decode cX0_elder 357 = .ok (.iastore, 1) := dk_79 (dk_at dksX0_elder_15 2 rfl rfl)
theorem dX0_elder_358 : decode cX0_elder 358 = .ok (.dup, 1) := dk_89 (dk_at dksX0_elder_15 3 rfl rfl)
theorem dX0_elder_359 : decode cX0_elder 359 = .ok (.iconst 5, 1) := dk_8 (dk_at dksX0_elder_15 4 rfl rfl)
theorem dX0_elder_360 : decode cX0_elder 360 = .ok (.ldc 57, 2) := dk_18 57 (dk_at dksX0_elder_15 5 rfl rfl)
theorem dX0_elder_362 : decode cX0_elder 362 = .ok (.iastore, 1) := dk_79 (dk_at dksX0_elder_15 7 rfl rfl)
theorem dX0_elder_363 : decode cX0_elder 363 = .ok (.dup, 1) := dk_89 (dk_at dksX0_elder_15 8 rfl rfl)
theorem dX0_elder_364 : decode cX0_elder 364 = .ok (.bipush 6, 2) := dk_16 6 (dk_at dksX0_elder_15 9 rfl rfl)
theorem dX0_elder_366 : decode cX0_elder 366 = .ok (.ldc 58, 2) := dk_18 58 (dk_at dksX0_elder_15 11 rfl rfl)
theorem dX0_elder_368 : decode cX0_elder 368 = .ok (.iastore, 1) := dk_79 (dk_at dksX0_elder_15 13 rfl rfl)
theorem dX0_elder_369 : decode cX0_elder 369 = .ok (.dup, 1) := dk_89 (dk_at dksX0_elder_15 14 rfl rfl)
theorem dX0_elder_370 : decode cX0_elder 370 = .ok (.bipush 7, 2) := dk_16 7 (dk_at dksX0_elder_15 15 rfl rfl)
theorem dX0_elder_372 : decode cX0_elder 372 = .ok (.ldc 59, 2) := dk_18 59 (dk_at dksX0_elder_15 17 rfl rfl)
theorem dX0_elder_374 : decode cX0_elder 374 = .ok (.iastore, 1) := dk_79 (dk_at dksX0_elder_15 19 rfl rfl)
theorem dX0_elder_375 : decode cX0_elder 375 = .ok (.dup, 1) := dk_89 (dk_at dksX0_elder_15 20 rfl rfl)
theorem dX0_elder_376 : decode cX0_elder 376 = .ok (.bipush 8, 2) := dk_16 8 (dk_at dksX0_elder_15 21 rfl rfl)
theorem dX0_elder_378 : decode cX0_elder 378 = .ok (.ldc 60, 2) := dk_18 60 (dk_at dksX0_elder_16 0 rfl rfl)
theorem dX0_elder_380 : decode cX0_elder 380 = .ok (.iastore, 1) := dk_79 (dk_at dksX0_elder_16 2 rfl rfl)
theorem dX0_elder_381 : decode cX0_elder 381 = .ok (.dup, 1) := dk_89 (dk_at dksX0_elder_16 3 rfl rfl)
theorem dX0_elder_382 : decode cX0_elder 382 = .ok (.bipush 9, 2) := dk_16 9 (dk_at dksX0_elder_16 4 rfl rfl)
theorem dX0_elder_384 : decode cX0_elder 384 = .ok (.ldc 61, 2) := dk_18 61 (dk_at dksX0_elder_16 6 rfl rfl)
theorem dX0_elder_386 : decode cX0_elder 386 = .ok (.iastore, 1) := dk_79 (dk_at dksX0_elder_16 8 rfl rfl)
theorem dX0_elder_387 : decode cX0_elder 387 = .ok (.astore 8, 2) := dk_58 8 (dk_at dksX0_elder_16 9 rfl rfl)
theorem dX0_elder_389 : decode cX0_elder 389 = .ok (.bipush 10, 2) := dk_16 10 (dk_at dksX0_elder_16 11 rfl rfl)
theorem dX0_elder_391 : decode cX0_elder 391 = .ok (.newarray .int, 2) := dk_188_10 (dk_at dksX0_elder_16 13 rfl rfl)
theorem dX0_elder_393 : decode cX0_elder 393 = .ok (.dup, 1) := dk_89 (dk_at dksX0_elder_16 15 rfl rfl)
theorem dX0_elder_394 : decode cX0_elder 394 = .ok (.iconst 0, 1) := dk_3 (dk_at dksX0_elder_16 16 rfl rfl)
theorem dX0_elder_395 : decode cX0_elder 395 = .ok (.iconst 2, 1) := dk_5 (dk_at dksX0_elder_16 17 rfl rfl)
theorem dX0_elder_396 : decode cX0_elder 396 = .ok (.iastore, 1) := dk_79 (dk_at dksX0_elder_16 18 rfl rfl)
theorem dX0_elder_397 : decode cX0_elder 397 = .ok (.dup, 1) := dk_89 (dk_at dksX0_elder_16 19 rfl rfl)
theorem dX0_elder_398 : decode cX0_elder 398 = .ok (.iconst 1, 1) := dk_4 (dk_at dksX0_elder_16 20 rfl rfl)
theorem dX0_elder_399 : decode cX0_elder 399 = .ok (.iconst 2, 1) := dk_5 (dk_at dksX0_elder_16 21 rfl rfl)
theorem dX0_elder_400 : decode cX0_elder 400 = .ok (.iastore, 1) := dk_79 (dk_at dksX0_elder_16 22 rfl rfl)
theorem dX0_elder_401 : decode cX0_elder 401 = .ok (.dup, 1) := dk_89 (dk_at dksX0_elder_16 23 rfl rfl)
theorem dX0_elder_402 : decode cX0_elder 402 = .ok (.iconst 2, 1) := dk_5 (dk_at dksX0_elder_17 0 rfl rfl)
theorem dX0_elder_403 : decode cX0_elder 403 = .ok (.iconst 3, 1) := dk_6 (dk_at dksX0_elder_17 1 rfl rfl)
theorem dX0_elder_404 : decode cX0_elder 404 = .ok (.iastore, 1) := dk_79 (dk_at dksX0_elder_17 2 rfl rfl)
theorem dX0_elder_405 : decode cX0_elder 405 = .ok (.dup, 1) := dk_89 (dk_at dksX0_elder_17 3 rfl rfl)
theorem dX0_elder_406 : decode cX0_elder 406 = .ok (.iconst 3, 1) := dk_6 (dk_at dksX0_elder_17 4 rfl rfl)
theorem dX0_elder_407 : decode cX0_elder 407 = .ok (.iconst 3, 1) := dk_6 (dk_at dksX0_elder_17 5 rfl rfl)
theorem dX0_elder_408 : decode cX0_elder 408 = .ok (.iastore, 1) := dk_79 (dk_at dksX0_elder_17 6 rfl rfl)
theorem dX0_elder_409 : decode cX0_elder 409 = .ok (.dup, 1) := dk_89 (dk_at dksX0_elder_17 7 rfl rfl)
theorem dX0_elder_410 : decode cX0_elder 410 = .ok (.iconst 4, 1) := dk_7 (dk_at dksX0_elder_17 8 rfl rfl)
theorem dX0_elder_411 : decode cX0_elder 411 = .ok (.iconst 3, 1) := dk_6 (dk_at dksX0_elder_17 9 rfl rfl)
theorem dX0_elder_412 : decode cX0_elder 412 = .ok (.iastore, 1) := dk_79 (dk_at dksX0_elder_17 10 rfl rfl)
theorem dX0_elder_413 : decode cX0_elder 413 = .ok (.dup, 1) := dk_89 (dk_at dksX0_elder_17 11 rfl rfl)
theorem dX0_elder_414 : decode cX0_elder 414 = .ok (.iconst 5, 1) := dk_8 (dk_at dksX0_elder_17 12 rfl rfl)
theorem dX0_elder_415 : decode cX0_elder 415 = .ok (.iconst 4, 1) := dk_7 (dk_at dksX0_elder_17 13 rfl rfl)
theorem dX0_elder_416 : decode cX0_elder 416 = .ok (.iastore, 1) := dk_79 (dk_at dksX0_elder_17 14 rfl rfl)
theorem dX0_elder_417 : decode cX0_elder 417 = .ok (.dup, 1) := dk_89 (dk_at dksX0_elder_17 15 rfl rfl)
theorem dX0_elder_418 : decode cX0_elder 418 = .ok (.bipush 6, 2) := dk_16 6 (dk_at dksX0_elder_17 16 rfl rfl)
theorem dX0_elder_420 : decode cX0_elder 420 = .ok (.iconst 4, 1) := dk_7 (dk_at dksX0_elder_17 18 rfl rfl)
theorem dX0_elder_421 : decode cX0_elder 421 = .ok (.iastore, 1) := dk_79 (dk_at dksX0_elder_17 19 rfl rfl)
theorem dX0_elder_422 : decode cX0_elder 422 = .ok (.dup, 1) := dk_89 (dk_at dksX0_elder_17 20 rfl rfl)
theorem dX0_elder_423 : decode cX0_elder 423 = .ok (.bipush 7, 2) := dk_16 7 (dk_at dksX0_elder_17 21 rfl rfl)
theorem dX0_elder_425 : decode cX0_elder 425 = .ok (.iconst 4, 1) := dk_7 (dk_at dksX0_elder_17 23 rfl rfl)
theorem dX0_elder_426 : decode cX0_elder 426 = .ok (.iastore, 1) := dk_79 (dk_at dksX0_elder_18 0 rfl rfl)
theorem dX0_elder_427 : decode cX0_elder 427 = .ok (.dup, 1) := dk_89 (dk_at dksX0_elder_18 1 rfl rfl)
theorem dX0_elder_428 : decode cX0_elder 428 = .ok (.bipush 8, 2) := dk_16 8 (dk_at dksX0_elder_18 2 rfl rfl)
theorem dX0_elder_430 : decode cX0_elder 430 = .ok (.iconst 1, 1) := dk_4 (dk_at dksX0_elder_18 4 rfl rfl)
theorem dX0_elder_431 : decode cX0_elder 431 = .ok (.iastore, 1) := dk_79 (dk_at dksX0_elder_18 5 rfl rfl)
theorem dX0_elder_432 : decode cX0_elder 432 = .ok (.dup, 1) := dk_89 (dk_at dksX0_elder_18 6 rfl rfl)
theorem dX0_elder_433 : decode cX0_elder 433 = .ok (.bipush 9, 2) := dk_16 9 (dk_at dksX0_elder_18 7 rfl rfl)
theorem dX0_elder_435 : decode cX0_elder 435 = .ok (.iconst 2, 1) := dk_5 (dk_at dksX0_elder_18 9 rfl rfl)
theorem dX0_elder_436 : decode cX0_elder 436 = .ok (.iastore, 1) := dk_79 (dk_at dksX0_elder_18 10 rfl rfl)
theorem dX0_elder_437 : decode cX0_elder 437 = .ok (.astore 9, 2) := dk_58 9 (dk_at dksX0_elder_18 11 rfl rfl)
theorem dX0_elder_439 : decode cX0_elder 439 = .ok (.iconst 0, 1) := dk_3 (dk_at dksX0_elder_18 13 rfl rfl)
theorem dX0_elder_440 : decode cX0_elder 440 = .ok (.istore 10, 2) := dk_54 10 (dk_at dksX0_elder_18 14 rfl rfl)
theorem dX0_elder_442 : decode cX0_elder 442 = .ok (.iload 10, 2) := dk_21 10 (dk_at dksX0_elder_18 16 rfl rfl)
theorem dX0_elder_444 : decode cX0_elder 444 = .ok (.bipush 10, 2) := dk_16 10 (dk_at dksX0_elder_18 18 rfl rfl)
theorem dX0_elder_446 : decode cX0_elder 446 = .ok (.if_icmp .ge 58, 3) := dk_162 0 58 (dk_at dksX0_elder_18 20 rfl rfl)
theorem dX0_elder_449 : decode cX0_elder 449 = .ok (.new 8, 3) := dk_187 0 8 (dk_at dksX0_elder_19 0 rfl rfl)
theorem dX0_elder_452 : decode cX0_elder 452 = .ok (.dup, 1) := dk_89 (dk_at dksX0_elder_19 3 rfl rfl)
theorem dX0_elder_453 : decode cX0_elder 453 = .ok (.invokespecial 22, 3) := dk_183 0 22 (dk_at dksX0_elder_19 4 rfl rfl)
theorem dX0_elder_456 : decode cX0_elder 456 = .ok (.astore 11, 2) := dk_58 11 (dk_at dksX0_elder_19 7 rfl rfl)
theorem dX0_elder_458 : decode cX0_elder 458 = .ok (.aload 11, 2) := dk_25 11 (dk_at dksX0_elder_19 9 rfl rfl)
theorem dX0_elder_460 : decode cX0_elder 460 = .ok (.aload 8, 2) := dk_25 8 (dk_at dksX0_elder_19 11 rfl rfl)
theorem dX0_elder_462 : decode cX0_elder 462 = .ok (.iload 10, 2) := dk_21 10 (dk_at dksX0_elder_19 13 rfl rfl)
theorem dX0_elder_464 : decode cX0_elder 464 = .ok (.iaload, 1) := dk_46 (dk_at dksX0_elder_19 15 rfl rfl)
theorem dX0_elder_465 : decode cX0_elder 465 = .ok (.iconst 0, 1) := dk_3 (dk_at dksX0_elder_19 16 rfl rfl)
theorem dX0_elder_466 : decode cX0_elder 466 = .ok (.iconst 0, 1) := dk_3 (dk_at dksX0_elder_19 17 rfl rfl)
theorem dX0_elder_467 : decode cX0_elder 467 = .ok (.iconst 0, 1) := dk_3 (dk_at dksX0_elder_19 18 rfl rfl)
theorem dX0_elder_468 : decode cX0_elder 468 = .ok (.invokevirtual 23, 3) := dk_182 0 23 (dk_at dksX0_elder_19 19 rfl rfl)
theorem dX0_elder_471 : decode cX0_elder 471 = .ok (.pop, 1) := dk_87 (dk_at dksX0_elder_19 22 rfl rfl)
theorem dX0_elder_472 : decode cX0_elder 472 = .ok (.aload 11, 2) := dk_25 11 (dk_at dksX0_elder_20 0 rfl rfl)
theorem dX0_elder_474 : decode cX0_elder 474 = .ok (.aload 9, 2) := dk_25 9 (dk_at dksX0_elder_20 2 rfl rfl)
theorem dX0_elder_476 : decode cX0_elder 476 = .ok (.iload 10, 2) := dk_21 10 (dk_at dksX0_elder_20 4 rfl rfl)
theorem dX0_elder_478 : decode cX0_elder 478 = .ok (.iaload, 1) := dk_46 (dk_at dksX0_elder_20 6 rfl rfl)
theorem dX0_elder_479 : decode cX0_elder 479 = .ok (.invokevirtual 31, 3) := dk_182 0 31 (dk_at dksX0_elder_20 7 rfl rfl)
theorem dX0_elder_482 : decode cX0_elder 482 = .ok (.aload 11, 2) := dk_25 11 (dk_at dksX0_elder_20 10 rfl rfl)
theorem dX0_elder_484 : decode cX0_elder 484 = .ok (.iconst 0, 1) := dk_3 (dk_at dksX0_elder_20 12 rfl rfl)
theorem dX0_elder_485 : decode cX0_elder 485 = .ok (.aload 9, 2) := dk_25 9 (dk_at dksX0_elder_20 13 rfl rfl)
theorem dX0_elder_487 : decode cX0_elder 487 = .ok (.iload 10, 2) := dk_21 10 (dk_at dksX0_elder_20 15 rfl rfl)
theorem dX0_elder_489 : decode cX0_elder 489 = .ok (.iaload, 1) := dk_46 (dk_at dksX0_elder_20 17 rfl rfl)
theorem dX0_elder_490 : decode cX0_elder 490 = .ok (.invokevirtual 39, 3) := dk_182 0 39 (dk_at dksX0_elder_20 18 rfl rfl)
theorem dX0_elder_493 : decode cX0_elder 493 = .ok (.ifCond .eq 5, 3) := dk_153 0 5 (dk_at dksX0_elder_20 21 rfl rfl)
theorem dX0_elder_496 : decode cX0_elder 496 = .ok (.iconst 0, 1) := dk_3 (dk_at dksX0_elder_21 0 rfl rfl)
theorem dX0_elder_497 : decode cX0_elder 497 = .ok (.ireturn, 1) := dk_172 (dk_at dksX0_elder_21 1 rfl rfl)
theorem dX0_elder_498 : decode cX0_elder 498 = .ok (.iinc 10 1, 3) := dk_132 10 1 (dk_at dksX0_elder_21 2 rfl rfl)
theorem dX0_elder_501 : decode cX0_elder 501 = .ok (.goto (-59), 3) := dk_167 255 197 (dk_at dksX0_elder_21 5 rfl rfl)
theorem dX0_elder_504 : decode cX0_elder 504 = .ok (.new 8, 3) := dk_187 0 8 (dk_at dksX0_elder_21 8 rfl rfl)
theorem dX0_elder_507 : decode cX0_elder 507 = .ok (.dup, 1) := dk_89 (dk_at dksX0_elder_21 11 rfl rfl)
theorem dX0_elder_508 : decode cX0_elder 508 = .ok (.invokespecial 22, 3) := dk_183 0 22 (dk_at dksX0_elder_21 12 rfl rfl)
theorem dX0_elder_511 : decode cX0_elder 511 = .ok (.astore 10, 2) := dk_58 10 (dk_at dksX0_elder_21 15 rfl rfl)
theorem dX0_elder_513 : decode cX0_elder 513 = .ok (.iconst 0, 1) := dk_3 (dk_at dksX0_elder_21 17 rfl rfl)
theorem dX0_elder_514 : decode cX0_elder 514 = .ok (.istore 11, 2) := dk_54 11 (dk_at dksX0_elder_21 18 rfl rfl)
theorem dX0_elder_516 : decode cX0_elder 516 = .ok (.iload 11, 2) := dk_21 11 (dk_at dksX0_elder_21 20 rfl rfl)
theorem dX0_elder_518 : decode cX0_elder 518 = .ok (.sipush 256, 3) := dk_17 1 0 (dk_at dksX0_elder_22 0 rfl rfl)
theorem dX0_elder_521 : decode cX0_elder 521 = .ok (.if_icmp .ge 27, 3) := dk_162 0 27 (dk_at dksX0_elder_22 3 rfl rfl)
theorem dX0_elder_524 : decode cX0_elder 524 = .ok (.aload 10, 2) := dk_25 10 (dk_at dksX0_elder_22 6 rfl rfl)
theorem dX0_elder_526 : decode cX0_elder 526 = .ok (.iload 11, 2) := dk_21 11 (dk_at dksX0_elder_22 8 rfl rfl)
theorem dX0_elder_528 : decode cX0_elder 528 = .ok (.iload 11, 2) := dk_21 11 (dk_at dksX0_elder_22 10 rfl rfl)
theorem dX0_elder_530 : decode cX0_elder 530 = .ok (.iload 11, 2) := dk_21 11 (dk_at dksX0_elder_22 12 rfl rfl)
theorem dX0_elder_532 : decode cX0_elder 532 = .ok (.iload 11, 2) := dk_21 11 (dk_at dksX0_elder_22 14 rfl rfl)
theorem dX0_elder_534 : decode cX0_elder 534 = .ok (.invokevirtual 23, 3) := dk_182 0 23 (dk_at dksX0_elder_22 16 rfl rfl)
theorem dX0_elder_537 : decode cX0_elder 537 = .ok (.ifCond .ne 5, 3) := dk_154 0 5 (dk_at dksX0_elder_22 19 rfl rfl)
theorem dX0_elder_540 : decode cX0_elder 540 = .ok (.iconst 0, 1) := dk_3 (dk_at dksX0_elder_22 22 rfl rfl)
theorem dX0_elder_541 : decode cX0_elder 541 = .ok (.ireturn, 1) := dk_172 (dk_at dksX0_elder_22 23 rfl rfl)
theorem dX0_elder_542 : decode cX0_elder 542 = .ok (.iinc 11 1, 3) := dk_132 11 1 (dk_at dksX0_elder_23 0 rfl rfl)
theorem dX0_elder_545 : decode cX0_elder 545 = .ok (.goto (-29), 3) := dk_167 255 227 (dk_at dksX0_elder_23 3 rfl rfl)
theorem dX0_elder_548 : decode cX0_elder 548 = .ok (.aload 10, 2) := dk_25 10 (dk_at dksX0_elder_23 6 rfl rfl)
theorem dX0_elder_550 : decode cX0_elder 550 = .ok (.iconst 0, 1) := dk_3 (dk_at dksX0_elder_23 8 rfl rfl)
theorem dX0_elder_551 : decode cX0_elder 551 = .ok (.iconst 0, 1) := dk_3 (dk_at dksX0_elder_23 9 rfl rfl)
theorem dX0_elder_552 : decode cX0_elder 552 = .ok (.iconst 0, 1) := dk_3 (dk_at dksX0_elder_23 10 rfl rfl)
theorem dX0_elder_553 : decode cX0_elder 553 = .ok (.iconst 0, 1) := dk_3 (dk_at dksX0_elder_23 11 rfl rfl)
theorem dX0_elder_554 : decode cX0_elder 554 = .ok (.invokevirtual 23, 3) := dk_182 0 23 (dk_at dksX0_elder_23 12 rfl rfl)
theorem dX0_elder_557 : decode cX0_elder 557 = .ok (.ifCond .ne 18, 3) := dk_154 0 18 (dk_at dksX0_elder_23 15 rfl rfl)
theorem dX0_elder_560 : decode cX0_elder 560 = .ok (.aload 10, 2) := dk_25 10 (dk_at dksX0_elder_23 18 rfl rfl)
theorem dX0_elder_562 : decode cX0_elder 562 = .ok (.invokevirtual 35, 3) := dk_182 0 35 (dk_at dksX0_elder_23 20 rfl rfl)
theorem dX0_elder_565 : decode cX0_elder 565 = .ok (.sipush 4096, 3) := dk_17 16 0 (dk_at dksX0_elder_24 0 rfl rfl)
theorem dX0_elder_568 : decode cX0_elder 568 = .ok (.if_icmp .ne 7, 3) := dk_160 0 7 (dk_at dksX0_elder_24 3 rfl rfl)
theorem dX0_elder_571 : decode cX0_elder 571 = .ok (.iconst 1, 1) := dk_4 (dk_at dksX0_elder_24 6 rfl rfl)
theorem dX0_elder_572 : decode cX0_elder 572 = .ok (.goto 4, 3) := dk_167 0 4 (dk_at dksX0_elder_24 7 rfl rfl)
theorem dX0_elder_575 : decode cX0_elder 575 = .ok (.iconst 0, 1) := dk_3 (dk_at dksX0_elder_24 10 rfl rfl)
theorem dX0_elder_576 : decode cX0_elder 576 = .ok (.ireturn, 1) := dk_172 (dk_at dksX0_elder_24 11 rfl rfl)
abbrev cX0_lay : ByteArray := method_4_code
def yX0_lay : MethodName := ⟨RX0, "lay", "(LWireText;[III)I"⟩
def dkwX0_lay_10 : List UInt8 := [184, 0, 13, 42, 43, 28, 6, 96, 17, 0, 128, 21, 4, 16, 63, 126, 128, 184, 0, 13, 28, 7, 96, 172]
abbrev dktX0_lay_10 : List UInt8 := dkwX0_lay_10 ++ []
def dkwX0_lay_9 : List UInt8 := [126, 128, 184, 0, 13, 42, 43, 28, 5, 96, 17, 0, 128, 21, 4, 16, 6, 122, 16, 63, 126, 128]
abbrev dktX0_lay_9 : List UInt8 := dkwX0_lay_9 ++ dktX0_lay_10
def dkwX0_lay_8 : List UInt8 := [21, 4, 16, 18, 122, 128, 184, 0, 13, 42, 43, 28, 4, 96, 17, 0, 128, 21, 4, 16, 12, 122, 16, 63]
abbrev dktX0_lay_8 : List UInt8 := dkwX0_lay_8 ++ dktX0_lay_9
def dkwX0_lay_7 : List UInt8 := [184, 0, 13, 28, 6, 96, 172, 18, 20, 21, 4, 18, 21, 126, 96, 54, 4, 42, 43, 28, 17, 0, 240]
abbrev dktX0_lay_7 : List UInt8 := dkwX0_lay_7 ++ dktX0_lay_8
def dkwX0_lay_6 : List UInt8 := [16, 6, 122, 16, 63, 126, 128, 184, 0, 13, 42, 43, 28, 5, 96, 17, 0, 128, 21, 4, 16, 63, 126, 128]
abbrev dktX0_lay_6 : List UInt8 := dkwX0_lay_6 ++ dktX0_lay_7
def dkwX0_lay_5 : List UInt8 := [28, 17, 0, 224, 21, 4, 16, 12, 122, 128, 184, 0, 13, 42, 43, 28, 4, 96, 17, 0, 128, 21, 4]
abbrev dktX0_lay_5 : List UInt8 := dkwX0_lay_5 ++ dktX0_lay_6
def dkwX0_lay_4 : List UInt8 := [96, 54, 4, 21, 4, 21, 4, 18, 19, 161, 0, 9, 17, 8, 0, 167, 0, 4, 3, 96, 54, 4, 42, 43]
abbrev dktX0_lay_4 : List UInt8 := dkwX0_lay_4 ++ dktX0_lay_5
def dkwX0_lay_3 : List UInt8 := [126, 128, 184, 0, 13, 28, 5, 96, 172, 29, 6, 126, 5, 160, 0, 89, 17, 8, 0, 21, 4, 18, 18, 112]
abbrev dktX0_lay_3 : List UInt8 := dkwX0_lay_3 ++ dktX0_lay_4
def dkwX0_lay_2 : List UInt8 := [17, 0, 192, 21, 4, 16, 6, 122, 128, 184, 0, 13, 42, 43, 28, 4, 96, 17, 0, 128, 21, 4, 16, 63]
abbrev dktX0_lay_2 : List UInt8 := dkwX0_lay_2 ++ dktX0_lay_3
def dkwX0_lay_1 : List UInt8 := [96, 172, 29, 6, 126, 4, 160, 0, 51, 17, 0, 128, 21, 4, 17, 7, 128, 112, 96, 54, 4, 42, 43, 28]
abbrev dktX0_lay_1 : List UInt8 := dkwX0_lay_1 ++ dktX0_lay_2
def dkwX0_lay_0 : List UInt8 := [29, 5, 124, 54, 4, 29, 6, 126, 154, 0, 18, 42, 43, 28, 21, 4, 16, 127, 126, 184, 0, 13, 28, 4]
abbrev dktX0_lay_0 : List UInt8 := dkwX0_lay_0 ++ dktX0_lay_1
theorem dksX0_lay_0 : cX0_lay.data.toList.drop 0 = dktX0_lay_0 := by decide +kernel
theorem dksX0_lay_1 : cX0_lay.data.toList.drop 24 = dktX0_lay_1 := dk_seg dksX0_lay_0 24 rfl rfl
theorem dksX0_lay_2 : cX0_lay.data.toList.drop 48 = dktX0_lay_2 := dk_seg dksX0_lay_1 24 rfl rfl
theorem dksX0_lay_3 : cX0_lay.data.toList.drop 72 = dktX0_lay_3 := dk_seg dksX0_lay_2 24 rfl rfl
theorem dksX0_lay_4 : cX0_lay.data.toList.drop 96 = dktX0_lay_4 := dk_seg dksX0_lay_3 24 rfl rfl
theorem dksX0_lay_5 : cX0_lay.data.toList.drop 120 = dktX0_lay_5 := dk_seg dksX0_lay_4 24 rfl rfl
theorem dksX0_lay_6 : cX0_lay.data.toList.drop 143 = dktX0_lay_6 := dk_seg dksX0_lay_5 23 rfl rfl
theorem dksX0_lay_7 : cX0_lay.data.toList.drop 167 = dktX0_lay_7 := dk_seg dksX0_lay_6 24 rfl rfl
theorem dksX0_lay_8 : cX0_lay.data.toList.drop 190 = dktX0_lay_8 := dk_seg dksX0_lay_7 23 rfl rfl
theorem dksX0_lay_9 : cX0_lay.data.toList.drop 214 = dktX0_lay_9 := dk_seg dksX0_lay_8 24 rfl rfl
theorem dksX0_lay_10 : cX0_lay.data.toList.drop 236 = dktX0_lay_10 := dk_seg dksX0_lay_9 22 rfl rfl
theorem dX0_lay_0 : decode cX0_lay 0 = .ok (.iload_n 3, 1) := dk_29 (dk_at dksX0_lay_0 0 rfl rfl)
theorem dX0_lay_1 : decode cX0_lay 1 = .ok (.iconst 2, 1) := dk_5 (dk_at dksX0_lay_0 1 rfl rfl)
theorem dX0_lay_2 : decode cX0_lay 2 = .ok (.iushr, 1) := dk_124 (dk_at dksX0_lay_0 2 rfl rfl)
theorem dX0_lay_3 : decode cX0_lay 3 = .ok (.istore 4, 2) := dk_54 4 (dk_at dksX0_lay_0 3 rfl rfl)
theorem dX0_lay_5 : decode cX0_lay 5 = .ok (.iload_n 3, 1) := dk_29 (dk_at dksX0_lay_0 5 rfl rfl)
theorem dX0_lay_6 : decode cX0_lay 6 = .ok (.iconst 3, 1) := dk_6 (dk_at dksX0_lay_0 6 rfl rfl)
theorem dX0_lay_7 : decode cX0_lay 7 = .ok (.iand, 1) := dk_126 (dk_at dksX0_lay_0 7 rfl rfl)
theorem dX0_lay_8 : decode cX0_lay 8 = .ok (.ifCond .ne 18, 3) := dk_154 0 18 (dk_at dksX0_lay_0 8 rfl rfl)
theorem dX0_lay_11 : decode cX0_lay 11 = .ok (.aload_n 0, 1) := dk_42 (dk_at dksX0_lay_0 11 rfl rfl)
theorem dX0_lay_12 : decode cX0_lay 12 = .ok (.aload_n 1, 1) := dk_43 (dk_at dksX0_lay_0 12 rfl rfl)
theorem dX0_lay_13 : decode cX0_lay 13 = .ok (.iload_n 2, 1) := dk_28 (dk_at dksX0_lay_0 13 rfl rfl)
theorem dX0_lay_14 : decode cX0_lay 14 = .ok (.iload 4, 2) := dk_21 4 (dk_at dksX0_lay_0 14 rfl rfl)
theorem dX0_lay_16 : decode cX0_lay 16 = .ok (.bipush 127, 2) := dk_16 127 (dk_at dksX0_lay_0 16 rfl rfl)
theorem dX0_lay_18 : decode cX0_lay 18 = .ok (.iand, 1) := dk_126 (dk_at dksX0_lay_0 18 rfl rfl)
theorem dX0_lay_19 : decode cX0_lay 19 = .ok (.invokestatic 13, 3) := dk_184 0 13 (dk_at dksX0_lay_0 19 rfl rfl)
theorem dX0_lay_22 : decode cX0_lay 22 = .ok (.iload_n 2, 1) := dk_28 (dk_at dksX0_lay_0 22 rfl rfl)
theorem dX0_lay_23 : decode cX0_lay 23 = .ok (.iconst 1, 1) := dk_4 (dk_at dksX0_lay_0 23 rfl rfl)
theorem dX0_lay_24 : decode cX0_lay 24 = .ok (.iadd, 1) := dk_96 (dk_at dksX0_lay_1 0 rfl rfl)
theorem dX0_lay_25 : decode cX0_lay 25 = .ok (.ireturn, 1) := dk_172 (dk_at dksX0_lay_1 1 rfl rfl)
theorem dX0_lay_26 : decode cX0_lay 26 = .ok (.iload_n 3, 1) := dk_29 (dk_at dksX0_lay_1 2 rfl rfl)
theorem dX0_lay_27 : decode cX0_lay 27 = .ok (.iconst 3, 1) := dk_6 (dk_at dksX0_lay_1 3 rfl rfl)
theorem dX0_lay_28 : decode cX0_lay 28 = .ok (.iand, 1) := dk_126 (dk_at dksX0_lay_1 4 rfl rfl)
theorem dX0_lay_29 : decode cX0_lay 29 = .ok (.iconst 1, 1) := dk_4 (dk_at dksX0_lay_1 5 rfl rfl)
theorem dX0_lay_30 : decode cX0_lay 30 = .ok (.if_icmp .ne 51, 3) := dk_160 0 51 (dk_at dksX0_lay_1 6 rfl rfl)
theorem dX0_lay_33 : decode cX0_lay 33 = .ok (.sipush 128, 3) := dk_17 0 128 (dk_at dksX0_lay_1 9 rfl rfl)
theorem dX0_lay_36 : decode cX0_lay 36 = .ok (.iload 4, 2) := dk_21 4 (dk_at dksX0_lay_1 12 rfl rfl)
theorem dX0_lay_38 : decode cX0_lay 38 = .ok (.sipush 1920, 3) := dk_17 7 128 (dk_at dksX0_lay_1 14 rfl rfl)
theorem dX0_lay_41 : decode cX0_lay 41 = .ok (.irem, 1) := dk_112 (dk_at dksX0_lay_1 17 rfl rfl)
theorem dX0_lay_42 : decode cX0_lay 42 = .ok (.iadd, 1) := dk_96 (dk_at dksX0_lay_1 18 rfl rfl)
theorem dX0_lay_43 : decode cX0_lay 43 = .ok (.istore 4, 2) := dk_54 4 (dk_at dksX0_lay_1 19 rfl rfl)
theorem dX0_lay_45 : decode cX0_lay 45 = .ok (.aload_n 0, 1) := dk_42 (dk_at dksX0_lay_1 21 rfl rfl)
theorem dX0_lay_46 : decode cX0_lay 46 = .ok (.aload_n 1, 1) := dk_43 (dk_at dksX0_lay_1 22 rfl rfl)
theorem dX0_lay_47 : decode cX0_lay 47 = .ok (.iload_n 2, 1) := dk_28 (dk_at dksX0_lay_1 23 rfl rfl)
theorem dX0_lay_48 : decode cX0_lay 48 = .ok (.sipush 192, 3) := dk_17 0 192 (dk_at dksX0_lay_2 0 rfl rfl)
theorem dX0_lay_51 : decode cX0_lay 51 = .ok (.iload 4, 2) := dk_21 4 (dk_at dksX0_lay_2 3 rfl rfl)
theorem dX0_lay_53 : decode cX0_lay 53 = .ok (.bipush 6, 2) := dk_16 6 (dk_at dksX0_lay_2 5 rfl rfl)
theorem dX0_lay_55 : decode cX0_lay 55 = .ok (.ishr, 1) := dk_122 (dk_at dksX0_lay_2 7 rfl rfl)
theorem dX0_lay_56 : decode cX0_lay 56 = .ok (.ior, 1) := dk_128 (dk_at dksX0_lay_2 8 rfl rfl)
theorem dX0_lay_57 : decode cX0_lay 57 = .ok (.invokestatic 13, 3) := dk_184 0 13 (dk_at dksX0_lay_2 9 rfl rfl)
theorem dX0_lay_60 : decode cX0_lay 60 = .ok (.aload_n 0, 1) := dk_42 (dk_at dksX0_lay_2 12 rfl rfl)
theorem dX0_lay_61 : decode cX0_lay 61 = .ok (.aload_n 1, 1) := dk_43 (dk_at dksX0_lay_2 13 rfl rfl)
theorem dX0_lay_62 : decode cX0_lay 62 = .ok (.iload_n 2, 1) := dk_28 (dk_at dksX0_lay_2 14 rfl rfl)
theorem dX0_lay_63 : decode cX0_lay 63 = .ok (.iconst 1, 1) := dk_4 (dk_at dksX0_lay_2 15 rfl rfl)
theorem dX0_lay_64 : decode cX0_lay 64 = .ok (.iadd, 1) := dk_96 (dk_at dksX0_lay_2 16 rfl rfl)
theorem dX0_lay_65 : decode cX0_lay 65 = .ok (.sipush 128, 3) := dk_17 0 128 (dk_at dksX0_lay_2 17 rfl rfl)
theorem dX0_lay_68 : decode cX0_lay 68 = .ok (.iload 4, 2) := dk_21 4 (dk_at dksX0_lay_2 20 rfl rfl)
theorem dX0_lay_70 : decode cX0_lay 70 = .ok (.bipush 63, 2) := dk_16 63 (dk_at dksX0_lay_2 22 rfl rfl)
theorem dX0_lay_72 : decode cX0_lay 72 = .ok (.iand, 1) := dk_126 (dk_at dksX0_lay_3 0 rfl rfl)
theorem dX0_lay_73 : decode cX0_lay 73 = .ok (.ior, 1) := dk_128 (dk_at dksX0_lay_3 1 rfl rfl)
theorem dX0_lay_74 : decode cX0_lay 74 = .ok (.invokestatic 13, 3) := dk_184 0 13 (dk_at dksX0_lay_3 2 rfl rfl)
theorem dX0_lay_77 : decode cX0_lay 77 = .ok (.iload_n 2, 1) := dk_28 (dk_at dksX0_lay_3 5 rfl rfl)
theorem dX0_lay_78 : decode cX0_lay 78 = .ok (.iconst 2, 1) := dk_5 (dk_at dksX0_lay_3 6 rfl rfl)
theorem dX0_lay_79 : decode cX0_lay 79 = .ok (.iadd, 1) := dk_96 (dk_at dksX0_lay_3 7 rfl rfl)
theorem dX0_lay_80 : decode cX0_lay 80 = .ok (.ireturn, 1) := dk_172 (dk_at dksX0_lay_3 8 rfl rfl)
theorem dX0_lay_81 : decode cX0_lay 81 = .ok (.iload_n 3, 1) := dk_29 (dk_at dksX0_lay_3 9 rfl rfl)
theorem dX0_lay_82 : decode cX0_lay 82 = .ok (.iconst 3, 1) := dk_6 (dk_at dksX0_lay_3 10 rfl rfl)
theorem dX0_lay_83 : decode cX0_lay 83 = .ok (.iand, 1) := dk_126 (dk_at dksX0_lay_3 11 rfl rfl)
theorem dX0_lay_84 : decode cX0_lay 84 = .ok (.iconst 2, 1) := dk_5 (dk_at dksX0_lay_3 12 rfl rfl)
theorem dX0_lay_85 : decode cX0_lay 85 = .ok (.if_icmp .ne 89, 3) := dk_160 0 89 (dk_at dksX0_lay_3 13 rfl rfl)
theorem dX0_lay_88 : decode cX0_lay 88 = .ok (.sipush 2048, 3) := dk_17 8 0 (dk_at dksX0_lay_3 16 rfl rfl)
theorem dX0_lay_91 : decode cX0_lay 91 = .ok (.iload 4, 2) := dk_21 4 (dk_at dksX0_lay_3 19 rfl rfl)
theorem dX0_lay_93 : decode cX0_lay 93 = .ok (.ldc 18, 2) := dk_18 18 (dk_at dksX0_lay_3 21 rfl rfl)
theorem dX0_lay_95 : decode cX0_lay 95 = .ok (.irem, 1) := dk_112 (dk_at dksX0_lay_3 23 rfl rfl)
theorem dX0_lay_96 : decode cX0_lay 96 = .ok (.iadd, 1) := dk_96 (dk_at dksX0_lay_4 0 rfl rfl)
theorem dX0_lay_97 : decode cX0_lay 97 = .ok (.istore 4, 2) := dk_54 4 (dk_at dksX0_lay_4 1 rfl rfl)
theorem dX0_lay_99 : decode cX0_lay 99 = .ok (.iload 4, 2) := dk_21 4 (dk_at dksX0_lay_4 3 rfl rfl)
theorem dX0_lay_101 : decode cX0_lay 101 = .ok (.iload 4, 2) := dk_21 4 (dk_at dksX0_lay_4 5 rfl rfl)
theorem dX0_lay_103 : decode cX0_lay 103 = .ok (.ldc 19, 2) := dk_18 19 (dk_at dksX0_lay_4 7 rfl rfl)
theorem dX0_lay_105 : decode cX0_lay 105 = .ok (.if_icmp .lt 9, 3) := dk_161 0 9 (dk_at dksX0_lay_4 9 rfl rfl)
theorem dX0_lay_108 : decode cX0_lay 108 = .ok (.sipush 2048, 3) := dk_17 8 0 (dk_at dksX0_lay_4 12 rfl rfl)
theorem dX0_lay_111 : decode cX0_lay 111 = .ok (.goto 4, 3) := dk_167 0 4 (dk_at dksX0_lay_4 15 rfl rfl)
theorem dX0_lay_114 : decode cX0_lay 114 = .ok (.iconst 0, 1) := dk_3 (dk_at dksX0_lay_4 18 rfl rfl)
theorem dX0_lay_115 : decode cX0_lay 115 = .ok (.iadd, 1) := dk_96 (dk_at dksX0_lay_4 19 rfl rfl)
theorem dX0_lay_116 : decode cX0_lay 116 = .ok (.istore 4, 2) := dk_54 4 (dk_at dksX0_lay_4 20 rfl rfl)
theorem dX0_lay_118 : decode cX0_lay 118 = .ok (.aload_n 0, 1) := dk_42 (dk_at dksX0_lay_4 22 rfl rfl)
theorem dX0_lay_119 : decode cX0_lay 119 = .ok (.aload_n 1, 1) := dk_43 (dk_at dksX0_lay_4 23 rfl rfl)
theorem dX0_lay_120 : decode cX0_lay 120 = .ok (.iload_n 2, 1) := dk_28 (dk_at dksX0_lay_5 0 rfl rfl)
theorem dX0_lay_121 : decode cX0_lay 121 = .ok (.sipush 224, 3) := dk_17 0 224 (dk_at dksX0_lay_5 1 rfl rfl)
theorem dX0_lay_124 : decode cX0_lay 124 = .ok (.iload 4, 2) := dk_21 4 (dk_at dksX0_lay_5 4 rfl rfl)
theorem dX0_lay_126 : decode cX0_lay 126 = .ok (.bipush 12, 2) := dk_16 12 (dk_at dksX0_lay_5 6 rfl rfl)
theorem dX0_lay_128 : decode cX0_lay 128 = .ok (.ishr, 1) := dk_122 (dk_at dksX0_lay_5 8 rfl rfl)
theorem dX0_lay_129 : decode cX0_lay 129 = .ok (.ior, 1) := dk_128 (dk_at dksX0_lay_5 9 rfl rfl)
theorem dX0_lay_130 : decode cX0_lay 130 = .ok (.invokestatic 13, 3) := dk_184 0 13 (dk_at dksX0_lay_5 10 rfl rfl)
theorem dX0_lay_133 : decode cX0_lay 133 = .ok (.aload_n 0, 1) := dk_42 (dk_at dksX0_lay_5 13 rfl rfl)
theorem dX0_lay_134 : decode cX0_lay 134 = .ok (.aload_n 1, 1) := dk_43 (dk_at dksX0_lay_5 14 rfl rfl)
theorem dX0_lay_135 : decode cX0_lay 135 = .ok (.iload_n 2, 1) := dk_28 (dk_at dksX0_lay_5 15 rfl rfl)
theorem dX0_lay_136 : decode cX0_lay 136 = .ok (.iconst 1, 1) := dk_4 (dk_at dksX0_lay_5 16 rfl rfl)
theorem dX0_lay_137 : decode cX0_lay 137 = .ok (.iadd, 1) := dk_96 (dk_at dksX0_lay_5 17 rfl rfl)
theorem dX0_lay_138 : decode cX0_lay 138 = .ok (.sipush 128, 3) := dk_17 0 128 (dk_at dksX0_lay_5 18 rfl rfl)
theorem dX0_lay_141 : decode cX0_lay 141 = .ok (.iload 4, 2) := dk_21 4 (dk_at dksX0_lay_5 21 rfl rfl)
theorem dX0_lay_143 : decode cX0_lay 143 = .ok (.bipush 6, 2) := dk_16 6 (dk_at dksX0_lay_6 0 rfl rfl)
theorem dX0_lay_145 : decode cX0_lay 145 = .ok (.ishr, 1) := dk_122 (dk_at dksX0_lay_6 2 rfl rfl)
theorem dX0_lay_146 : decode cX0_lay 146 = .ok (.bipush 63, 2) := dk_16 63 (dk_at dksX0_lay_6 3 rfl rfl)
theorem dX0_lay_148 : decode cX0_lay 148 = .ok (.iand, 1) := dk_126 (dk_at dksX0_lay_6 5 rfl rfl)
theorem dX0_lay_149 : decode cX0_lay 149 = .ok (.ior, 1) := dk_128 (dk_at dksX0_lay_6 6 rfl rfl)
theorem dX0_lay_150 : decode cX0_lay 150 = .ok (.invokestatic 13, 3) := dk_184 0 13 (dk_at dksX0_lay_6 7 rfl rfl)
theorem dX0_lay_153 : decode cX0_lay 153 = .ok (.aload_n 0, 1) := dk_42 (dk_at dksX0_lay_6 10 rfl rfl)
theorem dX0_lay_154 : decode cX0_lay 154 = .ok (.aload_n 1, 1) := dk_43 (dk_at dksX0_lay_6 11 rfl rfl)
theorem dX0_lay_155 : decode cX0_lay 155 = .ok (.iload_n 2, 1) := dk_28 (dk_at dksX0_lay_6 12 rfl rfl)
theorem dX0_lay_156 : decode cX0_lay 156 = .ok (.iconst 2, 1) := dk_5 (dk_at dksX0_lay_6 13 rfl rfl)
theorem dX0_lay_157 : decode cX0_lay 157 = .ok (.iadd, 1) := dk_96 (dk_at dksX0_lay_6 14 rfl rfl)
theorem dX0_lay_158 : decode cX0_lay 158 = .ok (.sipush 128, 3) := dk_17 0 128 (dk_at dksX0_lay_6 15 rfl rfl)
theorem dX0_lay_161 : decode cX0_lay 161 = .ok (.iload 4, 2) := dk_21 4 (dk_at dksX0_lay_6 18 rfl rfl)
theorem dX0_lay_163 : decode cX0_lay 163 = .ok (.bipush 63, 2) := dk_16 63 (dk_at dksX0_lay_6 20 rfl rfl)
theorem dX0_lay_165 : decode cX0_lay 165 = .ok (.iand, 1) := dk_126 (dk_at dksX0_lay_6 22 rfl rfl)
theorem dX0_lay_166 : decode cX0_lay 166 = .ok (.ior, 1) := dk_128 (dk_at dksX0_lay_6 23 rfl rfl)
theorem dX0_lay_167 : decode cX0_lay 167 = .ok (.invokestatic 13, 3) := dk_184 0 13 (dk_at dksX0_lay_7 0 rfl rfl)
theorem dX0_lay_170 : decode cX0_lay 170 = .ok (.iload_n 2, 1) := dk_28 (dk_at dksX0_lay_7 3 rfl rfl)
theorem dX0_lay_171 : decode cX0_lay 171 = .ok (.iconst 3, 1) := dk_6 (dk_at dksX0_lay_7 4 rfl rfl)
theorem dX0_lay_172 : decode cX0_lay 172 = .ok (.iadd, 1) := dk_96 (dk_at dksX0_lay_7 5 rfl rfl)
theorem dX0_lay_173 : decode cX0_lay 173 = .ok (.ireturn, 1) := dk_172 (dk_at dksX0_lay_7 6 rfl rfl)
theorem dX0_lay_174 : decode cX0_lay 174 = .ok (.ldc 20, 2) := dk_18 20 (dk_at dksX0_lay_7 7 rfl rfl)
theorem dX0_lay_176 : decode cX0_lay 176 = .ok (.iload 4, 2) := dk_21 4 (dk_at dksX0_lay_7 9 rfl rfl)
theorem dX0_lay_178 : decode cX0_lay 178 = .ok (.ldc 21, 2) := dk_18 21 (dk_at dksX0_lay_7 11 rfl rfl)
theorem dX0_lay_180 : decode cX0_lay 180 = .ok (.iand, 1) := dk_126 (dk_at dksX0_lay_7 13 rfl rfl)
theorem dX0_lay_181 : decode cX0_lay 181 = .ok (.iadd, 1) := dk_96 (dk_at dksX0_lay_7 14 rfl rfl)
theorem dX0_lay_182 : decode cX0_lay 182 = .ok (.istore 4, 2) := dk_54 4 (dk_at dksX0_lay_7 15 rfl rfl)
theorem dX0_lay_184 : decode cX0_lay 184 = .ok (.aload_n 0, 1) := dk_42 (dk_at dksX0_lay_7 17 rfl rfl)
theorem dX0_lay_185 : decode cX0_lay 185 = .ok (.aload_n 1, 1) := dk_43 (dk_at dksX0_lay_7 18 rfl rfl)
theorem dX0_lay_186 : decode cX0_lay 186 = .ok (.iload_n 2, 1) := dk_28 (dk_at dksX0_lay_7 19 rfl rfl)
theorem dX0_lay_187 : decode cX0_lay 187 = .ok (.sipush 240, 3) := dk_17 0 240 (dk_at dksX0_lay_7 20 rfl rfl)
theorem dX0_lay_190 : decode cX0_lay 190 = .ok (.iload 4, 2) := dk_21 4 (dk_at dksX0_lay_8 0 rfl rfl)
theorem dX0_lay_192 : decode cX0_lay 192 = .ok (.bipush 18, 2) := dk_16 18 (dk_at dksX0_lay_8 2 rfl rfl)
theorem dX0_lay_194 : decode cX0_lay 194 = .ok (.ishr, 1) := dk_122 (dk_at dksX0_lay_8 4 rfl rfl)
theorem dX0_lay_195 : decode cX0_lay 195 = .ok (.ior, 1) := dk_128 (dk_at dksX0_lay_8 5 rfl rfl)
theorem dX0_lay_196 : decode cX0_lay 196 = .ok (.invokestatic 13, 3) := dk_184 0 13 (dk_at dksX0_lay_8 6 rfl rfl)
theorem dX0_lay_199 : decode cX0_lay 199 = .ok (.aload_n 0, 1) := dk_42 (dk_at dksX0_lay_8 9 rfl rfl)
theorem dX0_lay_200 : decode cX0_lay 200 = .ok (.aload_n 1, 1) := dk_43 (dk_at dksX0_lay_8 10 rfl rfl)
theorem dX0_lay_201 : decode cX0_lay 201 = .ok (.iload_n 2, 1) := dk_28 (dk_at dksX0_lay_8 11 rfl rfl)
theorem dX0_lay_202 : decode cX0_lay 202 = .ok (.iconst 1, 1) := dk_4 (dk_at dksX0_lay_8 12 rfl rfl)
theorem dX0_lay_203 : decode cX0_lay 203 = .ok (.iadd, 1) := dk_96 (dk_at dksX0_lay_8 13 rfl rfl)
theorem dX0_lay_204 : decode cX0_lay 204 = .ok (.sipush 128, 3) := dk_17 0 128 (dk_at dksX0_lay_8 14 rfl rfl)
theorem dX0_lay_207 : decode cX0_lay 207 = .ok (.iload 4, 2) := dk_21 4 (dk_at dksX0_lay_8 17 rfl rfl)
theorem dX0_lay_209 : decode cX0_lay 209 = .ok (.bipush 12, 2) := dk_16 12 (dk_at dksX0_lay_8 19 rfl rfl)
theorem dX0_lay_211 : decode cX0_lay 211 = .ok (.ishr, 1) := dk_122 (dk_at dksX0_lay_8 21 rfl rfl)
theorem dX0_lay_212 : decode cX0_lay 212 = .ok (.bipush 63, 2) := dk_16 63 (dk_at dksX0_lay_8 22 rfl rfl)
theorem dX0_lay_214 : decode cX0_lay 214 = .ok (.iand, 1) := dk_126 (dk_at dksX0_lay_9 0 rfl rfl)
theorem dX0_lay_215 : decode cX0_lay 215 = .ok (.ior, 1) := dk_128 (dk_at dksX0_lay_9 1 rfl rfl)
theorem dX0_lay_216 : decode cX0_lay 216 = .ok (.invokestatic 13, 3) := dk_184 0 13 (dk_at dksX0_lay_9 2 rfl rfl)
theorem dX0_lay_219 : decode cX0_lay 219 = .ok (.aload_n 0, 1) := dk_42 (dk_at dksX0_lay_9 5 rfl rfl)
theorem dX0_lay_220 : decode cX0_lay 220 = .ok (.aload_n 1, 1) := dk_43 (dk_at dksX0_lay_9 6 rfl rfl)
theorem dX0_lay_221 : decode cX0_lay 221 = .ok (.iload_n 2, 1) := dk_28 (dk_at dksX0_lay_9 7 rfl rfl)
theorem dX0_lay_222 : decode cX0_lay 222 = .ok (.iconst 2, 1) := dk_5 (dk_at dksX0_lay_9 8 rfl rfl)
theorem dX0_lay_223 : decode cX0_lay 223 = .ok (.iadd, 1) := dk_96 (dk_at dksX0_lay_9 9 rfl rfl)
theorem dX0_lay_224 : decode cX0_lay 224 = .ok (.sipush 128, 3) := dk_17 0 128 (dk_at dksX0_lay_9 10 rfl rfl)
theorem dX0_lay_227 : decode cX0_lay 227 = .ok (.iload 4, 2) := dk_21 4 (dk_at dksX0_lay_9 13 rfl rfl)
theorem dX0_lay_229 : decode cX0_lay 229 = .ok (.bipush 6, 2) := dk_16 6 (dk_at dksX0_lay_9 15 rfl rfl)
theorem dX0_lay_231 : decode cX0_lay 231 = .ok (.ishr, 1) := dk_122 (dk_at dksX0_lay_9 17 rfl rfl)
theorem dX0_lay_232 : decode cX0_lay 232 = .ok (.bipush 63, 2) := dk_16 63 (dk_at dksX0_lay_9 18 rfl rfl)
theorem dX0_lay_234 : decode cX0_lay 234 = .ok (.iand, 1) := dk_126 (dk_at dksX0_lay_9 20 rfl rfl)
theorem dX0_lay_235 : decode cX0_lay 235 = .ok (.ior, 1) := dk_128 (dk_at dksX0_lay_9 21 rfl rfl)
theorem dX0_lay_236 : decode cX0_lay 236 = .ok (.invokestatic 13, 3) := dk_184 0 13 (dk_at dksX0_lay_10 0 rfl rfl)
theorem dX0_lay_239 : decode cX0_lay 239 = .ok (.aload_n 0, 1) := dk_42 (dk_at dksX0_lay_10 3 rfl rfl)
theorem dX0_lay_240 : decode cX0_lay 240 = .ok (.aload_n 1, 1) := dk_43 (dk_at dksX0_lay_10 4 rfl rfl)
theorem dX0_lay_241 : decode cX0_lay 241 = .ok (.iload_n 2, 1) := dk_28 (dk_at dksX0_lay_10 5 rfl rfl)
theorem dX0_lay_242 : decode cX0_lay 242 = .ok (.iconst 3, 1) := dk_6 (dk_at dksX0_lay_10 6 rfl rfl)
theorem dX0_lay_243 : decode cX0_lay 243 = .ok (.iadd, 1) := dk_96 (dk_at dksX0_lay_10 7 rfl rfl)
theorem dX0_lay_244 : decode cX0_lay 244 = .ok (.sipush 128, 3) := dk_17 0 128 (dk_at dksX0_lay_10 8 rfl rfl)
theorem dX0_lay_247 : decode cX0_lay 247 = .ok (.iload 4, 2) := dk_21 4 (dk_at dksX0_lay_10 11 rfl rfl)
theorem dX0_lay_249 : decode cX0_lay 249 = .ok (.bipush 63, 2) := dk_16 63 (dk_at dksX0_lay_10 13 rfl rfl)
theorem dX0_lay_251 : decode cX0_lay 251 = .ok (.iand, 1) := dk_126 (dk_at dksX0_lay_10 15 rfl rfl)
theorem dX0_lay_252 : decode cX0_lay 252 = .ok (.ior, 1) := dk_128 (dk_at dksX0_lay_10 16 rfl rfl)
theorem dX0_lay_253 : decode cX0_lay 253 = .ok (.invokestatic 13, 3) := dk_184 0 13 (dk_at dksX0_lay_10 17 rfl rfl)
theorem dX0_lay_256 : decode cX0_lay 256 = .ok (.iload_n 2, 1) := dk_28 (dk_at dksX0_lay_10 20 rfl rfl)
theorem dX0_lay_257 : decode cX0_lay 257 = .ok (.iconst 4, 1) := dk_7 (dk_at dksX0_lay_10 21 rfl rfl)
theorem dX0_lay_258 : decode cX0_lay 258 = .ok (.iadd, 1) := dk_96 (dk_at dksX0_lay_10 22 rfl rfl)
theorem dX0_lay_259 : decode cX0_lay 259 = .ok (.ireturn, 1) := dk_172 (dk_at dksX0_lay_10 23 rfl rfl)
abbrev cX0_sign : ByteArray := method_3_code
def yX0_sign : MethodName := ⟨RX0, "sign", "(LWireText;[III)V"⟩
def dkwX0_sign_0 : List UInt8 := [42, 28, 29, 182, 0, 7, 43, 28, 29, 17, 0, 255, 126, 79, 177]
abbrev dktX0_sign_0 : List UInt8 := dkwX0_sign_0 ++ []
theorem dksX0_sign_0 : cX0_sign.data.toList.drop 0 = dktX0_sign_0 := by decide +kernel
theorem dX0_sign_0 : decode cX0_sign 0 = .ok (.aload_n 0, 1) := dk_42 (dk_at dksX0_sign_0 0 rfl rfl)
theorem dX0_sign_1 : decode cX0_sign 1 = .ok (.iload_n 2, 1) := dk_28 (dk_at dksX0_sign_0 1 rfl rfl)
theorem dX0_sign_2 : decode cX0_sign 2 = .ok (.iload_n 3, 1) := dk_29 (dk_at dksX0_sign_0 2 rfl rfl)
theorem dX0_sign_3 : decode cX0_sign 3 = .ok (.invokevirtual 7, 3) := dk_182 0 7 (dk_at dksX0_sign_0 3 rfl rfl)
theorem dX0_sign_6 : decode cX0_sign 6 = .ok (.aload_n 1, 1) := dk_43 (dk_at dksX0_sign_0 6 rfl rfl)
theorem dX0_sign_7 : decode cX0_sign 7 = .ok (.iload_n 2, 1) := dk_28 (dk_at dksX0_sign_0 7 rfl rfl)
theorem dX0_sign_8 : decode cX0_sign 8 = .ok (.iload_n 3, 1) := dk_29 (dk_at dksX0_sign_0 8 rfl rfl)
theorem dX0_sign_9 : decode cX0_sign 9 = .ok (.sipush 255, 3) := dk_17 0 255 (dk_at dksX0_sign_0 9 rfl rfl)
theorem dX0_sign_12 : decode cX0_sign 12 = .ok (.iand, 1) := dk_126 (dk_at dksX0_sign_0 12 rfl rfl)
theorem dX0_sign_13 : decode cX0_sign 13 = .ok (.iastore, 1) := dk_79 (dk_at dksX0_sign_0 13 rfl rfl)
theorem dX0_sign_14 : decode cX0_sign 14 = .ok (.return_, 1) := dk_177 (dk_at dksX0_sign_0 14 rfl rfl)
abbrev cX0_cell : ByteArray := method_2_code
def yX0_cell : MethodName := ⟨RX0, "cell", "([II)I"⟩
def dkwX0_cell_0 : List UInt8 := [27, 42, 190, 162, 0, 9, 42, 27, 46, 167, 0, 4, 3, 172]
abbrev dktX0_cell_0 : List UInt8 := dkwX0_cell_0 ++ []
theorem dksX0_cell_0 : cX0_cell.data.toList.drop 0 = dktX0_cell_0 := by decide +kernel
theorem dX0_cell_0 : decode cX0_cell 0 = .ok (.iload_n 1, 1) := dk_27 (dk_at dksX0_cell_0 0 rfl rfl)
theorem dX0_cell_1 : decode cX0_cell 1 = .ok (.aload_n 0, 1) := dk_42 (dk_at dksX0_cell_0 1 rfl rfl)
theorem dX0_cell_2 : decode cX0_cell 2 = .ok (.arraylength, 1) := dk_190 (dk_at dksX0_cell_0 2 rfl rfl)
theorem dX0_cell_3 : decode cX0_cell 3 = .ok (.if_icmp .ge 9, 3) := dk_162 0 9 (dk_at dksX0_cell_0 3 rfl rfl)
theorem dX0_cell_6 : decode cX0_cell 6 = .ok (.aload_n 0, 1) := dk_42 (dk_at dksX0_cell_0 6 rfl rfl)
theorem dX0_cell_7 : decode cX0_cell 7 = .ok (.iload_n 1, 1) := dk_27 (dk_at dksX0_cell_0 7 rfl rfl)
theorem dX0_cell_8 : decode cX0_cell 8 = .ok (.iaload, 1) := dk_46 (dk_at dksX0_cell_0 8 rfl rfl)
theorem dX0_cell_9 : decode cX0_cell 9 = .ok (.goto 4, 3) := dk_167 0 4 (dk_at dksX0_cell_0 9 rfl rfl)
theorem dX0_cell_12 : decode cX0_cell 12 = .ok (.iconst 0, 1) := dk_3 (dk_at dksX0_cell_0 12 rfl rfl)
theorem dX0_cell_13 : decode cX0_cell 13 = .ok (.ireturn, 1) := dk_172 (dk_at dksX0_cell_0 13 rfl rfl)
abbrev cX0_own : ByteArray := method_5_code
def yX0_own : MethodName := ⟨RX0, "own", "([III)Z"⟩
def dkwX0_own_9 : List UInt8 := [167, 255, 136, 27, 21, 4, 4, 96, 96, 60, 167, 255, 37, 4, 172]
abbrev dktX0_own_9 : List UInt8 := dkwX0_own_9 ++ []
def dkwX0_own_8 : List UInt8 := [17, 0, 191, 54, 8, 21, 6, 21, 7, 161, 0, 10, 21, 6, 21, 8, 164, 0, 5, 3, 172, 132, 5, 1]
abbrev dktX0_own_8 : List UInt8 := dkwX0_own_8 ++ dktX0_own_9
def dkwX0_own_7 : List UInt8 := [160, 0, 9, 17, 0, 159, 167, 0, 19, 29, 17, 0, 244, 160, 0, 9, 17, 0, 143, 167, 0, 6]
abbrev dktX0_own_7 : List UInt8 := dkwX0_own_7 ++ dktX0_own_8
def dkwX0_own_6 : List UInt8 := [167, 0, 6, 17, 0, 128, 54, 7, 21, 5, 4, 164, 0, 9, 17, 0, 191, 167, 0, 32, 29, 17, 0, 237]
abbrev dktX0_own_6 : List UInt8 := dkwX0_own_6 ++ dktX0_own_7
def dkwX0_own_5 : List UInt8 := [17, 0, 224, 160, 0, 9, 17, 0, 160, 167, 0, 19, 29, 17, 0, 240, 160, 0, 9, 17, 0, 144]
abbrev dktX0_own_5 : List UInt8 := dkwX0_own_5 ++ dktX0_own_6
def dkwX0_own_4 : List UInt8 := [163, 0, 119, 42, 27, 21, 5, 96, 46, 54, 6, 21, 5, 4, 164, 0, 9, 17, 0, 128, 167, 0, 32, 29]
abbrev dktX0_own_4 : List UInt8 := dkwX0_own_4 ++ dktX0_own_5
def dkwX0_own_3 : List UInt8 := [16, 9, 159, 0, 11, 27, 21, 4, 96, 28, 161, 0, 5, 3, 172, 4, 54, 5, 21, 5, 21, 4]
abbrev dktX0_own_3 : List UInt8 := dkwX0_own_3 ++ dktX0_own_4
def dkwX0_own_2 : List UInt8 := [162, 0, 7, 5, 167, 0, 16, 29, 17, 0, 245, 162, 0, 7, 6, 167, 0, 5, 16, 9, 54, 4, 21, 4]
abbrev dktX0_own_2 : List UInt8 := dkwX0_own_2 ++ dktX0_own_3
def dkwX0_own_1 : List UInt8 := [162, 0, 8, 16, 9, 167, 0, 38, 29, 17, 0, 224, 162, 0, 7, 4, 167, 0, 27, 29, 17, 0, 240]
abbrev dktX0_own_1 : List UInt8 := dkwX0_own_1 ++ dktX0_own_2
def dkwX0_own_0 : List UInt8 := [27, 28, 162, 0, 220, 42, 27, 46, 62, 29, 17, 0, 128, 162, 0, 7, 3, 167, 0, 50, 29, 17, 0, 194]
abbrev dktX0_own_0 : List UInt8 := dkwX0_own_0 ++ dktX0_own_1
theorem dksX0_own_0 : cX0_own.data.toList.drop 0 = dktX0_own_0 := by decide +kernel
theorem dksX0_own_1 : cX0_own.data.toList.drop 24 = dktX0_own_1 := dk_seg dksX0_own_0 24 rfl rfl
theorem dksX0_own_2 : cX0_own.data.toList.drop 47 = dktX0_own_2 := dk_seg dksX0_own_1 23 rfl rfl
theorem dksX0_own_3 : cX0_own.data.toList.drop 71 = dktX0_own_3 := dk_seg dksX0_own_2 24 rfl rfl
theorem dksX0_own_4 : cX0_own.data.toList.drop 93 = dktX0_own_4 := dk_seg dksX0_own_3 22 rfl rfl
theorem dksX0_own_5 : cX0_own.data.toList.drop 117 = dktX0_own_5 := dk_seg dksX0_own_4 24 rfl rfl
theorem dksX0_own_6 : cX0_own.data.toList.drop 139 = dktX0_own_6 := dk_seg dksX0_own_5 22 rfl rfl
theorem dksX0_own_7 : cX0_own.data.toList.drop 163 = dktX0_own_7 := dk_seg dksX0_own_6 24 rfl rfl
theorem dksX0_own_8 : cX0_own.data.toList.drop 185 = dktX0_own_8 := dk_seg dksX0_own_7 22 rfl rfl
theorem dksX0_own_9 : cX0_own.data.toList.drop 209 = dktX0_own_9 := dk_seg dksX0_own_8 24 rfl rfl
theorem dX0_own_0 : decode cX0_own 0 = .ok (.iload_n 1, 1) := dk_27 (dk_at dksX0_own_0 0 rfl rfl)
theorem dX0_own_1 : decode cX0_own 1 = .ok (.iload_n 2, 1) := dk_28 (dk_at dksX0_own_0 1 rfl rfl)
theorem dX0_own_2 : decode cX0_own 2 = .ok (.if_icmp .ge 220, 3) := dk_162 0 220 (dk_at dksX0_own_0 2 rfl rfl)
theorem dX0_own_5 : decode cX0_own 5 = .ok (.aload_n 0, 1) := dk_42 (dk_at dksX0_own_0 5 rfl rfl)
theorem dX0_own_6 : decode cX0_own 6 = .ok (.iload_n 1, 1) := dk_27 (dk_at dksX0_own_0 6 rfl rfl)
theorem dX0_own_7 : decode cX0_own 7 = .ok (.iaload, 1) := dk_46 (dk_at dksX0_own_0 7 rfl rfl)
theorem dX0_own_8 : decode cX0_own 8 = .ok (.istore_n 3, 1) := dk_62 (dk_at dksX0_own_0 8 rfl rfl)
theorem dX0_own_9 : decode cX0_own 9 = .ok (.iload_n 3, 1) := dk_29 (dk_at dksX0_own_0 9 rfl rfl)
theorem dX0_own_10 : decode cX0_own 10 = .ok (.sipush 128, 3) := dk_17 0 128 (dk_at dksX0_own_0 10 rfl rfl)
theorem dX0_own_13 : decode cX0_own 13 = .ok (.if_icmp .ge 7, 3) := dk_162 0 7 (dk_at dksX0_own_0 13 rfl rfl)
theorem dX0_own_16 : decode cX0_own 16 = .ok (.iconst 0, 1) := dk_3 (dk_at dksX0_own_0 16 rfl rfl)
theorem dX0_own_17 : decode cX0_own 17 = .ok (.goto 50, 3) := dk_167 0 50 (dk_at dksX0_own_0 17 rfl rfl)
theorem dX0_own_20 : decode cX0_own 20 = .ok (.iload_n 3, 1) := dk_29 (dk_at dksX0_own_0 20 rfl rfl)
theorem dX0_own_21 : decode cX0_own 21 = .ok (.sipush 194, 3) := dk_17 0 194 (dk_at dksX0_own_0 21 rfl rfl)
theorem dX0_own_24 : decode cX0_own 24 = .ok (.if_icmp .ge 8, 3) := dk_162 0 8 (dk_at dksX0_own_1 0 rfl rfl)
theorem dX0_own_27 : decode cX0_own 27 = .ok (.bipush 9, 2) := dk_16 9 (dk_at dksX0_own_1 3 rfl rfl)
theorem dX0_own_29 : decode cX0_own 29 = .ok (.goto 38, 3) := dk_167 0 38 (dk_at dksX0_own_1 5 rfl rfl)
theorem dX0_own_32 : decode cX0_own 32 = .ok (.iload_n 3, 1) := dk_29 (dk_at dksX0_own_1 8 rfl rfl)
theorem dX0_own_33 : decode cX0_own 33 = .ok (.sipush 224, 3) := dk_17 0 224 (dk_at dksX0_own_1 9 rfl rfl)
theorem dX0_own_36 : decode cX0_own 36 = .ok (.if_icmp .ge 7, 3) := dk_162 0 7 (dk_at dksX0_own_1 12 rfl rfl)
theorem dX0_own_39 : decode cX0_own 39 = .ok (.iconst 1, 1) := dk_4 (dk_at dksX0_own_1 15 rfl rfl)
theorem dX0_own_40 : decode cX0_own 40 = .ok (.goto 27, 3) := dk_167 0 27 (dk_at dksX0_own_1 16 rfl rfl)
theorem dX0_own_43 : decode cX0_own 43 = .ok (.iload_n 3, 1) := dk_29 (dk_at dksX0_own_1 19 rfl rfl)
theorem dX0_own_44 : decode cX0_own 44 = .ok (.sipush 240, 3) := dk_17 0 240 (dk_at dksX0_own_1 20 rfl rfl)
theorem dX0_own_47 : decode cX0_own 47 = .ok (.if_icmp .ge 7, 3) := dk_162 0 7 (dk_at dksX0_own_2 0 rfl rfl)
theorem dX0_own_50 : decode cX0_own 50 = .ok (.iconst 2, 1) := dk_5 (dk_at dksX0_own_2 3 rfl rfl)
theorem dX0_own_51 : decode cX0_own 51 = .ok (.goto 16, 3) := dk_167 0 16 (dk_at dksX0_own_2 4 rfl rfl)
theorem dX0_own_54 : decode cX0_own 54 = .ok (.iload_n 3, 1) := dk_29 (dk_at dksX0_own_2 7 rfl rfl)
theorem dX0_own_55 : decode cX0_own 55 = .ok (.sipush 245, 3) := dk_17 0 245 (dk_at dksX0_own_2 8 rfl rfl)
theorem dX0_own_58 : decode cX0_own 58 = .ok (.if_icmp .ge 7, 3) := dk_162 0 7 (dk_at dksX0_own_2 11 rfl rfl)
theorem dX0_own_61 : decode cX0_own 61 = .ok (.iconst 3, 1) := dk_6 (dk_at dksX0_own_2 14 rfl rfl)
theorem dX0_own_62 : decode cX0_own 62 = .ok (.goto 5, 3) := dk_167 0 5 (dk_at dksX0_own_2 15 rfl rfl)
theorem dX0_own_65 : decode cX0_own 65 = .ok (.bipush 9, 2) := dk_16 9 (dk_at dksX0_own_2 18 rfl rfl)
theorem dX0_own_67 : decode cX0_own 67 = .ok (.istore 4, 2) := dk_54 4 (dk_at dksX0_own_2 20 rfl rfl)
theorem dX0_own_69 : decode cX0_own 69 = .ok (.iload 4, 2) := dk_21 4 (dk_at dksX0_own_2 22 rfl rfl)
theorem dX0_own_71 : decode cX0_own 71 = .ok (.bipush 9, 2) := dk_16 9 (dk_at dksX0_own_3 0 rfl rfl)
theorem dX0_own_73 : decode cX0_own 73 = .ok (.if_icmp .eq 11, 3) := dk_159 0 11 (dk_at dksX0_own_3 2 rfl rfl)
theorem dX0_own_76 : decode cX0_own 76 = .ok (.iload_n 1, 1) := dk_27 (dk_at dksX0_own_3 5 rfl rfl)
theorem dX0_own_77 : decode cX0_own 77 = .ok (.iload 4, 2) := dk_21 4 (dk_at dksX0_own_3 6 rfl rfl)
theorem dX0_own_79 : decode cX0_own 79 = .ok (.iadd, 1) := dk_96 (dk_at dksX0_own_3 8 rfl rfl)
theorem dX0_own_80 : decode cX0_own 80 = .ok (.iload_n 2, 1) := dk_28 (dk_at dksX0_own_3 9 rfl rfl)
theorem dX0_own_81 : decode cX0_own 81 = .ok (.if_icmp .lt 5, 3) := dk_161 0 5 (dk_at dksX0_own_3 10 rfl rfl)
theorem dX0_own_84 : decode cX0_own 84 = .ok (.iconst 0, 1) := dk_3 (dk_at dksX0_own_3 13 rfl rfl)
theorem dX0_own_85 : decode cX0_own 85 = .ok (.ireturn, 1) := dk_172 (dk_at dksX0_own_3 14 rfl rfl)
theorem dX0_own_86 : decode cX0_own 86 = .ok (.iconst 1, 1) := dk_4 (dk_at dksX0_own_3 15 rfl rfl)
theorem dX0_own_87 : decode cX0_own 87 = .ok (.istore 5, 2) := dk_54 5 (dk_at dksX0_own_3 16 rfl rfl)
theorem dX0_own_89 : decode cX0_own 89 = .ok (.iload 5, 2) := dk_21 5 (dk_at dksX0_own_3 18 rfl rfl)
theorem dX0_own_91 : decode cX0_own 91 = .ok (.iload 4, 2) := dk_21 4 (dk_at dksX0_own_3 20 rfl rfl)
theorem dX0_own_93 : decode cX0_own 93 = .ok (.if_icmp .gt 119, 3) := dk_163 0 119 (dk_at dksX0_own_4 0 rfl rfl)
theorem dX0_own_96 : decode cX0_own 96 = .ok (.aload_n 0, 1) := dk_42 (dk_at dksX0_own_4 3 rfl rfl)
theorem dX0_own_97 : decode cX0_own 97 = .ok (.iload_n 1, 1) := dk_27 (dk_at dksX0_own_4 4 rfl rfl)
theorem dX0_own_98 : decode cX0_own 98 = .ok (.iload 5, 2) := dk_21 5 (dk_at dksX0_own_4 5 rfl rfl)
theorem dX0_own_100 : decode cX0_own 100 = .ok (.iadd, 1) := dk_96 (dk_at dksX0_own_4 7 rfl rfl)
theorem dX0_own_101 : decode cX0_own 101 = .ok (.iaload, 1) := dk_46 (dk_at dksX0_own_4 8 rfl rfl)
theorem dX0_own_102 : decode cX0_own 102 = .ok (.istore 6, 2) := dk_54 6 (dk_at dksX0_own_4 9 rfl rfl)
theorem dX0_own_104 : decode cX0_own 104 = .ok (.iload 5, 2) := dk_21 5 (dk_at dksX0_own_4 11 rfl rfl)
theorem dX0_own_106 : decode cX0_own 106 = .ok (.iconst 1, 1) := dk_4 (dk_at dksX0_own_4 13 rfl rfl)
theorem dX0_own_107 : decode cX0_own 107 = .ok (.if_icmp .le 9, 3) := dk_164 0 9 (dk_at dksX0_own_4 14 rfl rfl)
theorem dX0_own_110 : decode cX0_own 110 = .ok (.sipush 128, 3) := dk_17 0 128 (dk_at dksX0_own_4 17 rfl rfl)
theorem dX0_own_113 : decode cX0_own 113 = .ok (.goto 32, 3) := dk_167 0 32 (dk_at dksX0_own_4 20 rfl rfl)
theorem dX0_own_116 : decode cX0_own 116 = .ok (.iload_n 3, 1) := dk_29 (dk_at dksX0_own_4 23 rfl rfl)
theorem dX0_own_117 : decode cX0_own 117 = .ok (.sipush 224, 3) := dk_17 0 224 (dk_at dksX0_own_5 0 rfl rfl)
theorem dX0_own_120 : decode cX0_own 120 = .ok (.if_icmp .ne 9, 3) := dk_160 0 9 (dk_at dksX0_own_5 3 rfl rfl)
theorem dX0_own_123 : decode cX0_own 123 = .ok (.sipush 160, 3) := dk_17 0 160 (dk_at dksX0_own_5 6 rfl rfl)
theorem dX0_own_126 : decode cX0_own 126 = .ok (.goto 19, 3) := dk_167 0 19 (dk_at dksX0_own_5 9 rfl rfl)
theorem dX0_own_129 : decode cX0_own 129 = .ok (.iload_n 3, 1) := dk_29 (dk_at dksX0_own_5 12 rfl rfl)
theorem dX0_own_130 : decode cX0_own 130 = .ok (.sipush 240, 3) := dk_17 0 240 (dk_at dksX0_own_5 13 rfl rfl)
theorem dX0_own_133 : decode cX0_own 133 = .ok (.if_icmp .ne 9, 3) := dk_160 0 9 (dk_at dksX0_own_5 16 rfl rfl)
theorem dX0_own_136 : decode cX0_own 136 = .ok (.sipush 144, 3) := dk_17 0 144 (dk_at dksX0_own_5 19 rfl rfl)
theorem dX0_own_139 : decode cX0_own 139 = .ok (.goto 6, 3) := dk_167 0 6 (dk_at dksX0_own_6 0 rfl rfl)
theorem dX0_own_142 : decode cX0_own 142 = .ok (.sipush 128, 3) := dk_17 0 128 (dk_at dksX0_own_6 3 rfl rfl)
theorem dX0_own_145 : decode cX0_own 145 = .ok (.istore 7, 2) := dk_54 7 (dk_at dksX0_own_6 6 rfl rfl)
theorem dX0_own_147 : decode cX0_own 147 = .ok (.iload 5, 2) := dk_21 5 (dk_at dksX0_own_6 8 rfl rfl)
theorem dX0_own_149 : decode cX0_own 149 = .ok (.iconst 1, 1) := dk_4 (dk_at dksX0_own_6 10 rfl rfl)
theorem dX0_own_150 : decode cX0_own 150 = .ok (.if_icmp .le 9, 3) := dk_164 0 9 (dk_at dksX0_own_6 11 rfl rfl)
theorem dX0_own_153 : decode cX0_own 153 = .ok (.sipush 191, 3) := dk_17 0 191 (dk_at dksX0_own_6 14 rfl rfl)
theorem dX0_own_156 : decode cX0_own 156 = .ok (.goto 32, 3) := dk_167 0 32 (dk_at dksX0_own_6 17 rfl rfl)
theorem dX0_own_159 : decode cX0_own 159 = .ok (.iload_n 3, 1) := dk_29 (dk_at dksX0_own_6 20 rfl rfl)
theorem dX0_own_160 : decode cX0_own 160 = .ok (.sipush 237, 3) := dk_17 0 237 (dk_at dksX0_own_6 21 rfl rfl)
theorem dX0_own_163 : decode cX0_own 163 = .ok (.if_icmp .ne 9, 3) := dk_160 0 9 (dk_at dksX0_own_7 0 rfl rfl)
theorem dX0_own_166 : decode cX0_own 166 = .ok (.sipush 159, 3) := dk_17 0 159 (dk_at dksX0_own_7 3 rfl rfl)
theorem dX0_own_169 : decode cX0_own 169 = .ok (.goto 19, 3) := dk_167 0 19 (dk_at dksX0_own_7 6 rfl rfl)
theorem dX0_own_172 : decode cX0_own 172 = .ok (.iload_n 3, 1) := dk_29 (dk_at dksX0_own_7 9 rfl rfl)
theorem dX0_own_173 : decode cX0_own 173 = .ok (.sipush 244, 3) := dk_17 0 244 (dk_at dksX0_own_7 10 rfl rfl)
theorem dX0_own_176 : decode cX0_own 176 = .ok (.if_icmp .ne 9, 3) := dk_160 0 9 (dk_at dksX0_own_7 13 rfl rfl)
theorem dX0_own_179 : decode cX0_own 179 = .ok (.sipush 143, 3) := dk_17 0 143 (dk_at dksX0_own_7 16 rfl rfl)
theorem dX0_own_182 : decode cX0_own 182 = .ok (.goto 6, 3) := dk_167 0 6 (dk_at dksX0_own_7 19 rfl rfl)
theorem dX0_own_185 : decode cX0_own 185 = .ok (.sipush 191, 3) := dk_17 0 191 (dk_at dksX0_own_8 0 rfl rfl)
theorem dX0_own_188 : decode cX0_own 188 = .ok (.istore 8, 2) := dk_54 8 (dk_at dksX0_own_8 3 rfl rfl)
theorem dX0_own_190 : decode cX0_own 190 = .ok (.iload 6, 2) := dk_21 6 (dk_at dksX0_own_8 5 rfl rfl)
theorem dX0_own_192 : decode cX0_own 192 = .ok (.iload 7, 2) := dk_21 7 (dk_at dksX0_own_8 7 rfl rfl)
theorem dX0_own_194 : decode cX0_own 194 = .ok (.if_icmp .lt 10, 3) := dk_161 0 10 (dk_at dksX0_own_8 9 rfl rfl)
theorem dX0_own_197 : decode cX0_own 197 = .ok (.iload 6, 2) := dk_21 6 (dk_at dksX0_own_8 12 rfl rfl)
theorem dX0_own_199 : decode cX0_own 199 = .ok (.iload 8, 2) := dk_21 8 (dk_at dksX0_own_8 14 rfl rfl)
theorem dX0_own_201 : decode cX0_own 201 = .ok (.if_icmp .le 5, 3) := dk_164 0 5 (dk_at dksX0_own_8 16 rfl rfl)
theorem dX0_own_204 : decode cX0_own 204 = .ok (.iconst 0, 1) := dk_3 (dk_at dksX0_own_8 19 rfl rfl)
theorem dX0_own_205 : decode cX0_own 205 = .ok (.ireturn, 1) := dk_172 (dk_at dksX0_own_8 20 rfl rfl)
theorem dX0_own_206 : decode cX0_own 206 = .ok (.iinc 5 1, 3) := dk_132 5 1 (dk_at dksX0_own_8 21 rfl rfl)
theorem dX0_own_209 : decode cX0_own 209 = .ok (.goto (-120), 3) := dk_167 255 136 (dk_at dksX0_own_9 0 rfl rfl)
theorem dX0_own_212 : decode cX0_own 212 = .ok (.iload_n 1, 1) := dk_27 (dk_at dksX0_own_9 3 rfl rfl)
theorem dX0_own_213 : decode cX0_own 213 = .ok (.iload 4, 2) := dk_21 4 (dk_at dksX0_own_9 4 rfl rfl)
theorem dX0_own_215 : decode cX0_own 215 = .ok (.iconst 1, 1) := dk_4 (dk_at dksX0_own_9 6 rfl rfl)
theorem dX0_own_216 : decode cX0_own 216 = .ok (.iadd, 1) := dk_96 (dk_at dksX0_own_9 7 rfl rfl)
theorem dX0_own_217 : decode cX0_own 217 = .ok (.iadd, 1) := dk_96 (dk_at dksX0_own_9 8 rfl rfl)
theorem dX0_own_218 : decode cX0_own 218 = .ok (.istore_n 1, 1) := dk_60 (dk_at dksX0_own_9 9 rfl rfl)
theorem dX0_own_219 : decode cX0_own 219 = .ok (.goto (-219), 3) := dk_167 255 37 (dk_at dksX0_own_9 10 rfl rfl)
theorem dX0_own_222 : decode cX0_own 222 = .ok (.iconst 1, 1) := dk_4 (dk_at dksX0_own_9 13 rfl rfl)
theorem dX0_own_223 : decode cX0_own 223 = .ok (.ireturn, 1) := dk_172 (dk_at dksX0_own_9 14 rfl rfl)
abbrev cX0_askedRaw : ByteArray := method_10_code
def yX0_askedRaw : MethodName := ⟨RX0, "askedRaw", "([I)Z"⟩
def dkwX0_askedRaw_14 : List UInt8 := [132, 5, 1, 167, 255, 110, 43, 182, 0, 35, 21, 4, 160, 0, 7, 4, 167, 0, 4, 3, 172]
abbrev dktX0_askedRaw_14 : List UInt8 := dkwX0_askedRaw_14 ++ []
def dkwX0_askedRaw_13 : List UInt8 := [44, 42, 16, 13, 184, 0, 62, 18, 47, 126, 21, 4, 112, 42, 16, 14, 184, 0, 62, 17, 0, 255, 126, 79]
abbrev dktX0_askedRaw_13 : List UInt8 := dkwX0_askedRaw_13 ++ dktX0_askedRaw_14
def dkwX0_askedRaw_12 : List UInt8 := [184, 0, 62, 17, 0, 255, 126, 79, 43, 42, 16, 13, 184, 0, 62, 42, 16, 14, 184, 0, 62, 182, 0, 7]
abbrev dktX0_askedRaw_12 : List UInt8 := dkwX0_askedRaw_12 ++ dktX0_askedRaw_13
def dkwX0_askedRaw_11 : List UInt8 := [184, 0, 62, 182, 0, 7, 44, 42, 16, 11, 184, 0, 62, 18, 47, 126, 21, 4, 112, 42, 16, 12]
abbrev dktX0_askedRaw_11 : List UInt8 := dkwX0_askedRaw_11 ++ dktX0_askedRaw_12
def dkwX0_askedRaw_10 : List UInt8 := [132, 7, 1, 167, 255, 222, 132, 6, 1, 167, 255, 205, 43, 42, 16, 11, 184, 0, 62, 42, 16, 12]
abbrev dktX0_askedRaw_10 : List UInt8 := dkwX0_askedRaw_10 ++ dktX0_askedRaw_11
def dkwX0_askedRaw_9 : List UInt8 := [43, 21, 6, 21, 7, 21, 6, 100, 182, 0, 39, 44, 21, 6, 21, 7, 184, 0, 69, 159, 0, 5, 3, 172]
abbrev dktX0_askedRaw_9 : List UInt8 := dkwX0_askedRaw_9 ++ dktX0_askedRaw_10
def dkwX0_askedRaw_8 : List UInt8 := [162, 0, 146, 3, 54, 6, 21, 6, 21, 4, 163, 0, 50, 21, 6, 54, 7, 21, 7, 21, 4, 163, 0, 33]
abbrev dktX0_askedRaw_8 : List UInt8 := dkwX0_askedRaw_8 ++ dktX0_askedRaw_9
def dkwX0_askedRaw_7 : List UInt8 := [21, 5, 96, 42, 16, 7, 21, 5, 184, 0, 65, 79, 132, 5, 1, 167, 255, 232, 3, 54, 5, 21, 5, 5]
abbrev dktX0_askedRaw_7 : List UInt8 := dkwX0_askedRaw_7 ++ dktX0_askedRaw_8
def dkwX0_askedRaw_6 : List UInt8 := [21, 5, 184, 0, 65, 79, 132, 5, 1, 167, 255, 236, 3, 54, 5, 21, 5, 16, 16, 162, 0, 23, 44, 29]
abbrev dktX0_askedRaw_6 : List UInt8 := dkwX0_askedRaw_6 ++ dktX0_askedRaw_7
def dkwX0_askedRaw_5 : List UInt8 := [182, 0, 35, 21, 4, 159, 0, 5, 3, 172, 3, 54, 5, 21, 5, 29, 162, 0, 20, 44, 21, 5, 42, 6]
abbrev dktX0_askedRaw_5 : List UInt8 := dkwX0_askedRaw_5 ++ dktX0_askedRaw_6
def dkwX0_askedRaw_4 : List UInt8 := [16, 8, 184, 0, 62, 42, 16, 9, 184, 0, 62, 42, 16, 10, 184, 0, 62, 182, 0, 23, 153, 0, 12, 43]
abbrev dktX0_askedRaw_4 : List UInt8 := dkwX0_askedRaw_4 ++ dktX0_askedRaw_5
def dkwX0_askedRaw_3 : List UInt8 := [42, 5, 184, 0, 62, 182, 0, 31, 43, 182, 0, 35, 29, 160, 0, 43, 43, 42, 16, 7, 184, 0, 62, 42]
abbrev dktX0_askedRaw_3 : List UInt8 := dkwX0_askedRaw_3 ++ dktX0_askedRaw_4
def dkwX0_askedRaw_2 : List UInt8 := [159, 0, 5, 3, 172, 42, 5, 184, 0, 62, 18, 47, 126, 16, 17, 112, 62, 29, 16, 16, 96, 54, 4, 43]
abbrev dktX0_askedRaw_2 : List UInt8 := dkwX0_askedRaw_2 ++ dktX0_askedRaw_3
def dkwX0_askedRaw_1 : List UInt8 := [42, 8, 184, 0, 62, 42, 16, 6, 184, 0, 62, 182, 0, 23, 153, 0, 12, 43, 182, 0, 35, 16, 16]
abbrev dktX0_askedRaw_1 : List UInt8 := dkwX0_askedRaw_1 ++ dktX0_askedRaw_2
def dkwX0_askedRaw_0 : List UInt8 := [187, 0, 8, 89, 183, 0, 22, 76, 16, 32, 188, 10, 77, 43, 42, 6, 184, 0, 62, 42, 7, 184, 0, 62]
abbrev dktX0_askedRaw_0 : List UInt8 := dkwX0_askedRaw_0 ++ dktX0_askedRaw_1
theorem dksX0_askedRaw_0 : cX0_askedRaw.data.toList.drop 0 = dktX0_askedRaw_0 := by decide +kernel
theorem dksX0_askedRaw_1 : cX0_askedRaw.data.toList.drop 24 = dktX0_askedRaw_1 := dk_seg dksX0_askedRaw_0 24 rfl rfl
theorem dksX0_askedRaw_2 : cX0_askedRaw.data.toList.drop 47 = dktX0_askedRaw_2 := dk_seg dksX0_askedRaw_1 23 rfl rfl
theorem dksX0_askedRaw_3 : cX0_askedRaw.data.toList.drop 71 = dktX0_askedRaw_3 := dk_seg dksX0_askedRaw_2 24 rfl rfl
theorem dksX0_askedRaw_4 : cX0_askedRaw.data.toList.drop 95 = dktX0_askedRaw_4 := dk_seg dksX0_askedRaw_3 24 rfl rfl
theorem dksX0_askedRaw_5 : cX0_askedRaw.data.toList.drop 119 = dktX0_askedRaw_5 := dk_seg dksX0_askedRaw_4 24 rfl rfl
theorem dksX0_askedRaw_6 : cX0_askedRaw.data.toList.drop 143 = dktX0_askedRaw_6 := dk_seg dksX0_askedRaw_5 24 rfl rfl
theorem dksX0_askedRaw_7 : cX0_askedRaw.data.toList.drop 167 = dktX0_askedRaw_7 := dk_seg dksX0_askedRaw_6 24 rfl rfl
theorem dksX0_askedRaw_8 : cX0_askedRaw.data.toList.drop 191 = dktX0_askedRaw_8 := dk_seg dksX0_askedRaw_7 24 rfl rfl
theorem dksX0_askedRaw_9 : cX0_askedRaw.data.toList.drop 215 = dktX0_askedRaw_9 := dk_seg dksX0_askedRaw_8 24 rfl rfl
theorem dksX0_askedRaw_10 : cX0_askedRaw.data.toList.drop 239 = dktX0_askedRaw_10 := dk_seg dksX0_askedRaw_9 24 rfl rfl
theorem dksX0_askedRaw_11 : cX0_askedRaw.data.toList.drop 261 = dktX0_askedRaw_11 := dk_seg dksX0_askedRaw_10 22 rfl rfl
theorem dksX0_askedRaw_12 : cX0_askedRaw.data.toList.drop 283 = dktX0_askedRaw_12 := dk_seg dksX0_askedRaw_11 22 rfl rfl
theorem dksX0_askedRaw_13 : cX0_askedRaw.data.toList.drop 307 = dktX0_askedRaw_13 := dk_seg dksX0_askedRaw_12 24 rfl rfl
theorem dksX0_askedRaw_14 : cX0_askedRaw.data.toList.drop 331 = dktX0_askedRaw_14 := dk_seg dksX0_askedRaw_13 24 rfl rfl
theorem dX0_askedRaw_0 : decode cX0_askedRaw 0 = .ok (.new 8, 3) := dk_187 0 8 (dk_at dksX0_askedRaw_0 0 rfl rfl)
theorem dX0_askedRaw_3 : decode cX0_askedRaw 3 = .ok (.dup, 1) := dk_89 (dk_at dksX0_askedRaw_0 3 rfl rfl)
theorem dX0_askedRaw_4 : decode cX0_askedRaw 4 = .ok (.invokespecial 22, 3) := dk_183 0 22 (dk_at dksX0_askedRaw_0 4 rfl rfl)
theorem dX0_askedRaw_7 : decode cX0_askedRaw 7 = .ok (.astore_n 1, 1) := dk_76 (dk_at dksX0_askedRaw_0 7 rfl rfl)
theorem dX0_askedRaw_8 : decode cX0_askedRaw 8 = .ok (.bipush 32, 2) := dk_16 32 (dk_at dksX0_askedRaw_0 8 rfl rfl)
theorem dX0_askedRaw_10 : decode cX0_askedRaw 10 = .ok (.newarray .int, 2) := dk_188_10 (dk_at dksX0_askedRaw_0 10 rfl rfl)
theorem dX0_askedRaw_12 : decode cX0_askedRaw 12 = .ok (.astore_n 2, 1) := dk_77 (dk_at dksX0_askedRaw_0 12 rfl rfl)
theorem dX0_askedRaw_13 : decode cX0_askedRaw 13 = .ok (.aload_n 1, 1) := dk_43 (dk_at dksX0_askedRaw_0 13 rfl rfl)
theorem dX0_askedRaw_14 : decode cX0_askedRaw 14 = .ok (.aload_n 0, 1) := dk_42 (dk_at dksX0_askedRaw_0 14 rfl rfl)
theorem dX0_askedRaw_15 : decode cX0_askedRaw 15 = .ok (.iconst 3, 1) := dk_6 (dk_at dksX0_askedRaw_0 15 rfl rfl)
theorem dX0_askedRaw_16 : decode cX0_askedRaw 16 = .ok (.invokestatic 62, 3) := dk_184 0 62 (dk_at dksX0_askedRaw_0 16 rfl rfl)
theorem dX0_askedRaw_19 : decode cX0_askedRaw 19 = .ok (.aload_n 0, 1) := dk_42 (dk_at dksX0_askedRaw_0 19 rfl rfl)
theorem dX0_askedRaw_20 : decode cX0_askedRaw 20 = .ok (.iconst 4, 1) := dk_7 (dk_at dksX0_askedRaw_0 20 rfl rfl)
theorem dX0_askedRaw_21 : decode cX0_askedRaw 21 = .ok (.invokestatic 62, 3) := dk_184 0 62 (dk_at dksX0_askedRaw_0 21 rfl rfl)
theorem dX0_askedRaw_24 : decode cX0_askedRaw 24 = .ok (.aload_n 0, 1) := dk_42 (dk_at dksX0_askedRaw_1 0 rfl rfl)
theorem dX0_askedRaw_25 : decode cX0_askedRaw 25 = .ok (.iconst 5, 1) := dk_8 (dk_at dksX0_askedRaw_1 1 rfl rfl)
theorem dX0_askedRaw_26 : decode cX0_askedRaw 26 = .ok (.invokestatic 62, 3) := dk_184 0 62 (dk_at dksX0_askedRaw_1 2 rfl rfl)
theorem dX0_askedRaw_29 : decode cX0_askedRaw 29 = .ok (.aload_n 0, 1) := dk_42 (dk_at dksX0_askedRaw_1 5 rfl rfl)
theorem dX0_askedRaw_30 : decode cX0_askedRaw 30 = .ok (.bipush 6, 2) := dk_16 6 (dk_at dksX0_askedRaw_1 6 rfl rfl)
theorem dX0_askedRaw_32 : decode cX0_askedRaw 32 = .ok (.invokestatic 62, 3) := dk_184 0 62 (dk_at dksX0_askedRaw_1 8 rfl rfl)
theorem dX0_askedRaw_35 : decode cX0_askedRaw 35 = .ok (.invokevirtual 23, 3) := dk_182 0 23 (dk_at dksX0_askedRaw_1 11 rfl rfl)
theorem dX0_askedRaw_38 : decode cX0_askedRaw 38 = .ok (.ifCond .eq 12, 3) := dk_153 0 12 (dk_at dksX0_askedRaw_1 14 rfl rfl)
theorem dX0_askedRaw_41 : decode cX0_askedRaw 41 = .ok (.aload_n 1, 1) := dk_43 (dk_at dksX0_askedRaw_1 17 rfl rfl)
theorem dX0_askedRaw_42 : decode cX0_askedRaw 42 = .ok (.invokevirtual 35, 3) := dk_182 0 35 (dk_at dksX0_askedRaw_1 18 rfl rfl)
theorem dX0_askedRaw_45 : decode cX0_askedRaw 45 = .ok (.bipush 16, 2) := dk_16 16 (dk_at dksX0_askedRaw_1 21 rfl rfl)
theorem dX0_askedRaw_47 : decode cX0_askedRaw 47 = .ok (.if_icmp .eq 5, 3) := dk_159 0 5 (dk_at dksX0_askedRaw_2 0 rfl rfl)
theorem dX0_askedRaw_50 : decode cX0_askedRaw 50 = .ok (.iconst 0, 1) := dk_3 (dk_at dksX0_askedRaw_2 3 rfl rfl)
theorem dX0_askedRaw_51 : decode cX0_askedRaw 51 = .ok (.ireturn, 1) := dk_172 (dk_at dksX0_askedRaw_2 4 rfl rfl)
theorem dX0_askedRaw_52 : decode cX0_askedRaw 52 = .ok (.aload_n 0, 1) := dk_42 (dk_at dksX0_askedRaw_2 5 rfl rfl)
theorem dX0_askedRaw_53 : decode cX0_askedRaw 53 = .ok (.iconst 2, 1) := dk_5 (dk_at dksX0_askedRaw_2 6 rfl rfl)
theorem dX0_askedRaw_54 : decode cX0_askedRaw 54 = .ok (.invokestatic 62, 3) := dk_184 0 62 (dk_at dksX0_askedRaw_2 7 rfl rfl)
theorem dX0_askedRaw_57 : decode cX0_askedRaw 57 = .ok (.ldc 47, 2) := dk_18 47 (dk_at dksX0_askedRaw_2 10 rfl rfl)
theorem dX0_askedRaw_59 : decode cX0_askedRaw 59 = .ok (.iand, 1) := dk_126 (dk_at dksX0_askedRaw_2 12 rfl rfl)
theorem dX0_askedRaw_60 : decode cX0_askedRaw 60 = .ok (.bipush 17, 2) := dk_16 17 (dk_at dksX0_askedRaw_2 13 rfl rfl)
theorem dX0_askedRaw_62 : decode cX0_askedRaw 62 = .ok (.irem, 1) := dk_112 (dk_at dksX0_askedRaw_2 15 rfl rfl)
theorem dX0_askedRaw_63 : decode cX0_askedRaw 63 = .ok (.istore_n 3, 1) := dk_62 (dk_at dksX0_askedRaw_2 16 rfl rfl)
theorem dX0_askedRaw_64 : decode cX0_askedRaw 64 = .ok (.iload_n 3, 1) := dk_29 (dk_at dksX0_askedRaw_2 17 rfl rfl)
theorem dX0_askedRaw_65 : decode cX0_askedRaw 65 = .ok (.bipush 16, 2) := dk_16 16 (dk_at dksX0_askedRaw_2 18 rfl rfl)
theorem dX0_askedRaw_67 : decode cX0_askedRaw 67 = .ok (.iadd, 1) := dk_96 (dk_at dksX0_askedRaw_2 20 rfl rfl)
theorem dX0_askedRaw_68 : decode cX0_askedRaw 68 = .ok (.istore 4, 2) := dk_54 4 (dk_at dksX0_askedRaw_2 21 rfl rfl)
theorem dX0_askedRaw_70 : decode cX0_askedRaw 70 = .ok (.aload_n 1, 1) := dk_43 (dk_at dksX0_askedRaw_2 23 rfl rfl)
theorem dX0_askedRaw_71 : decode cX0_askedRaw 71 = .ok (.aload_n 0, 1) := dk_42 (dk_at dksX0_askedRaw_3 0 rfl rfl)
theorem dX0_askedRaw_72 : decode cX0_askedRaw 72 = .ok (.iconst 2, 1) := dk_5 (dk_at dksX0_askedRaw_3 1 rfl rfl)
theorem dX0_askedRaw_73 : decode cX0_askedRaw 73 = .ok (.invokestatic 62, 3) := dk_184 0 62 (dk_at dksX0_askedRaw_3 2 rfl rfl)
theorem dX0_askedRaw_76 : decode cX0_askedRaw 76 = .ok (.invokevirtual 31, 3) := dk_182 0 31 (dk_at dksX0_askedRaw_3 5 rfl rfl)
theorem dX0_askedRaw_79 : decode cX0_askedRaw 79 = .ok (.aload_n 1, 1) := dk_43 (dk_at dksX0_askedRaw_3 8 rfl rfl)
theorem dX0_askedRaw_80 : decode cX0_askedRaw 80 = .ok (.invokevirtual 35, 3) := dk_182 0 35 (dk_at dksX0_askedRaw_3 9 rfl rfl)
theorem dX0_askedRaw_83 : decode cX0_askedRaw 83 = .ok (.iload_n 3, 1) := dk_29 (dk_at dksX0_askedRaw_3 12 rfl rfl)
theorem dX0_askedRaw_84 : decode cX0_askedRaw 84 = .ok (.if_icmp .ne 43, 3) := dk_160 0 43 (dk_at dksX0_askedRaw_3 13 rfl rfl)
theorem dX0_askedRaw_87 : decode cX0_askedRaw 87 = .ok (.aload_n 1, 1) := dk_43 (dk_at dksX0_askedRaw_3 16 rfl rfl)
theorem dX0_askedRaw_88 : decode cX0_askedRaw 88 = .ok (.aload_n 0, 1) := dk_42 (dk_at dksX0_askedRaw_3 17 rfl rfl)
theorem dX0_askedRaw_89 : decode cX0_askedRaw 89 = .ok (.bipush 7, 2) := dk_16 7 (dk_at dksX0_askedRaw_3 18 rfl rfl)
theorem dX0_askedRaw_91 : decode cX0_askedRaw 91 = .ok (.invokestatic 62, 3) := dk_184 0 62 (dk_at dksX0_askedRaw_3 20 rfl rfl)
theorem dX0_askedRaw_94 : decode cX0_askedRaw 94 = .ok (.aload_n 0, 1) := dk_42 (dk_at dksX0_askedRaw_3 23 rfl rfl)
theorem dX0_askedRaw_95 : decode cX0_askedRaw 95 = .ok (.bipush 8, 2) := dk_16 8 (dk_at dksX0_askedRaw_4 0 rfl rfl)
theorem dX0_askedRaw_97 : decode cX0_askedRaw 97 = .ok (.invokestatic 62, 3) := dk_184 0 62 (dk_at dksX0_askedRaw_4 2 rfl rfl)
theorem dX0_askedRaw_100 : decode cX0_askedRaw 100 = .ok (.aload_n 0, 1) := dk_42 (dk_at dksX0_askedRaw_4 5 rfl rfl)
theorem dX0_askedRaw_101 : decode cX0_askedRaw 101 = .ok (.bipush 9, 2) := dk_16 9 (dk_at dksX0_askedRaw_4 6 rfl rfl)
theorem dX0_askedRaw_103 : decode cX0_askedRaw 103 = .ok (.invokestatic 62, 3) := dk_184 0 62 (dk_at dksX0_askedRaw_4 8 rfl rfl)
theorem dX0_askedRaw_106 : decode cX0_askedRaw 106 = .ok (.aload_n 0, 1) := dk_42 (dk_at dksX0_askedRaw_4 11 rfl rfl)
theorem dX0_askedRaw_107 : decode cX0_askedRaw 107 = .ok (.bipush 10, 2) := dk_16 10 (dk_at dksX0_askedRaw_4 12 rfl rfl)
theorem dX0_askedRaw_109 : decode cX0_askedRaw 109 = .ok (.invokestatic 62, 3) := dk_184 0 62 (dk_at dksX0_askedRaw_4 14 rfl rfl)
theorem dX0_askedRaw_112 : decode cX0_askedRaw 112 = .ok (.invokevirtual 23, 3) := dk_182 0 23 (dk_at dksX0_askedRaw_4 17 rfl rfl)
theorem dX0_askedRaw_115 : decode cX0_askedRaw 115 = .ok (.ifCond .eq 12, 3) := dk_153 0 12 (dk_at dksX0_askedRaw_4 20 rfl rfl)
theorem dX0_askedRaw_118 : decode cX0_askedRaw 118 = .ok (.aload_n 1, 1) := dk_43 (dk_at dksX0_askedRaw_4 23 rfl rfl)
theorem dX0_askedRaw_119 : decode cX0_askedRaw 119 = .ok (.invokevirtual 35, 3) := dk_182 0 35 (dk_at dksX0_askedRaw_5 0 rfl rfl)
theorem dX0_askedRaw_122 : decode cX0_askedRaw 122 = .ok (.iload 4, 2) := dk_21 4 (dk_at dksX0_askedRaw_5 3 rfl rfl)
theorem dX0_askedRaw_124 : decode cX0_askedRaw 124 = .ok (.if_icmp .eq 5, 3) := dk_159 0 5 (dk_at dksX0_askedRaw_5 5 rfl rfl)
theorem dX0_askedRaw_127 : decode cX0_askedRaw 127 = .ok (.iconst 0, 1) := dk_3 (dk_at dksX0_askedRaw_5 8 rfl rfl)
theorem dX0_askedRaw_128 : decode cX0_askedRaw 128 = .ok (.ireturn, 1) := dk_172 (dk_at dksX0_askedRaw_5 9 rfl rfl)
theorem dX0_askedRaw_129 : decode cX0_askedRaw 129 = .ok (.iconst 0, 1) := dk_3 (dk_at dksX0_askedRaw_5 10 rfl rfl)
theorem dX0_askedRaw_130 : decode cX0_askedRaw 130 = .ok (.istore 5, 2) := dk_54 5 (dk_at dksX0_askedRaw_5 11 rfl rfl)
theorem dX0_askedRaw_132 : decode cX0_askedRaw 132 = .ok (.iload 5, 2) := dk_21 5 (dk_at dksX0_askedRaw_5 13 rfl rfl)
theorem dX0_askedRaw_134 : decode cX0_askedRaw 134 = .ok (.iload_n 3, 1) := dk_29 (dk_at dksX0_askedRaw_5 15 rfl rfl)
theorem dX0_askedRaw_135 : decode cX0_askedRaw 135 = .ok (.if_icmp .ge 20, 3) := dk_162 0 20 (dk_at dksX0_askedRaw_5 16 rfl rfl)
theorem dX0_askedRaw_138 : decode cX0_askedRaw 138 = .ok (.aload_n 2, 1) := dk_44 (dk_at dksX0_askedRaw_5 19 rfl rfl)
theorem dX0_askedRaw_139 : decode cX0_askedRaw 139 = .ok (.iload 5, 2) := dk_21 5 (dk_at dksX0_askedRaw_5 20 rfl rfl)
theorem dX0_askedRaw_141 : decode cX0_askedRaw 141 = .ok (.aload_n 0, 1) := dk_42 (dk_at dksX0_askedRaw_5 22 rfl rfl)
theorem dX0_askedRaw_142 : decode cX0_askedRaw 142 = .ok (.iconst 3, 1) := dk_6 (dk_at dksX0_askedRaw_5 23 rfl rfl)
theorem dX0_askedRaw_143 : decode cX0_askedRaw 143 = .ok (.iload 5, 2) := dk_21 5 (dk_at dksX0_askedRaw_6 0 rfl rfl)
theorem dX0_askedRaw_145 : decode cX0_askedRaw 145 = .ok (.invokestatic 65, 3) := dk_184 0 65 (dk_at dksX0_askedRaw_6 2 rfl rfl)
theorem dX0_askedRaw_148 : decode cX0_askedRaw 148 = .ok (.iastore, 1) := dk_79 (dk_at dksX0_askedRaw_6 5 rfl rfl)
theorem dX0_askedRaw_149 : decode cX0_askedRaw 149 = .ok (.iinc 5 1, 3) := dk_132 5 1 (dk_at dksX0_askedRaw_6 6 rfl rfl)
theorem dX0_askedRaw_152 : decode cX0_askedRaw 152 = .ok (.goto (-20), 3) := dk_167 255 236 (dk_at dksX0_askedRaw_6 9 rfl rfl)
theorem dX0_askedRaw_155 : decode cX0_askedRaw 155 = .ok (.iconst 0, 1) := dk_3 (dk_at dksX0_askedRaw_6 12 rfl rfl)
theorem dX0_askedRaw_156 : decode cX0_askedRaw 156 = .ok (.istore 5, 2) := dk_54 5 (dk_at dksX0_askedRaw_6 13 rfl rfl)
theorem dX0_askedRaw_158 : decode cX0_askedRaw 158 = .ok (.iload 5, 2) := dk_21 5 (dk_at dksX0_askedRaw_6 15 rfl rfl)
theorem dX0_askedRaw_160 : decode cX0_askedRaw 160 = .ok (.bipush 16, 2) := dk_16 16 (dk_at dksX0_askedRaw_6 17 rfl rfl)
theorem dX0_askedRaw_162 : decode cX0_askedRaw 162 = .ok (.if_icmp .ge 23, 3) := dk_162 0 23 (dk_at dksX0_askedRaw_6 19 rfl rfl)
theorem dX0_askedRaw_165 : decode cX0_askedRaw 165 = .ok (.aload_n 2, 1) := dk_44 (dk_at dksX0_askedRaw_6 22 rfl rfl)
theorem dX0_askedRaw_166 : decode cX0_askedRaw 166 = .ok (.iload_n 3, 1) := dk_29 (dk_at dksX0_askedRaw_6 23 rfl rfl)
theorem dX0_askedRaw_167 : decode cX0_askedRaw 167 = .ok (.iload 5, 2) := dk_21 5 (dk_at dksX0_askedRaw_7 0 rfl rfl)
theorem dX0_askedRaw_169 : decode cX0_askedRaw 169 = .ok (.iadd, 1) := dk_96 (dk_at dksX0_askedRaw_7 2 rfl rfl)
theorem dX0_askedRaw_170 : decode cX0_askedRaw 170 = .ok (.aload_n 0, 1) := dk_42 (dk_at dksX0_askedRaw_7 3 rfl rfl)
theorem dX0_askedRaw_171 : decode cX0_askedRaw 171 = .ok (.bipush 7, 2) := dk_16 7 (dk_at dksX0_askedRaw_7 4 rfl rfl)
theorem dX0_askedRaw_173 : decode cX0_askedRaw 173 = .ok (.iload 5, 2) := dk_21 5 (dk_at dksX0_askedRaw_7 6 rfl rfl)
theorem dX0_askedRaw_175 : decode cX0_askedRaw 175 = .ok (.invokestatic 65, 3) := dk_184 0 65 (dk_at dksX0_askedRaw_7 8 rfl rfl)
theorem dX0_askedRaw_178 : decode cX0_askedRaw 178 = .ok (.iastore, 1) := dk_79 (dk_at dksX0_askedRaw_7 11 rfl rfl)
theorem dX0_askedRaw_179 : decode cX0_askedRaw 179 = .ok (.iinc 5 1, 3) := dk_132 5 1 (dk_at dksX0_askedRaw_7 12 rfl rfl)
theorem dX0_askedRaw_182 : decode cX0_askedRaw 182 = .ok (.goto (-24), 3) := dk_167 255 232 (dk_at dksX0_askedRaw_7 15 rfl rfl)
theorem dX0_askedRaw_185 : decode cX0_askedRaw 185 = .ok (.iconst 0, 1) := dk_3 (dk_at dksX0_askedRaw_7 18 rfl rfl)
theorem dX0_askedRaw_186 : decode cX0_askedRaw 186 = .ok (.istore 5, 2) := dk_54 5 (dk_at dksX0_askedRaw_7 19 rfl rfl)
theorem dX0_askedRaw_188 : decode cX0_askedRaw 188 = .ok (.iload 5, 2) := dk_21 5 (dk_at dksX0_askedRaw_7 21 rfl rfl)
theorem dX0_askedRaw_190 : decode cX0_askedRaw 190 = .ok (.iconst 2, 1) := dk_5 (dk_at dksX0_askedRaw_7 23 rfl rfl)
theorem dX0_askedRaw_191 : decode cX0_askedRaw 191 = .ok (.if_icmp .ge 146, 3) := dk_162 0 146 (dk_at dksX0_askedRaw_8 0 rfl rfl)
theorem dX0_askedRaw_194 : decode cX0_askedRaw 194 = .ok (.iconst 0, 1) := dk_3 (dk_at dksX0_askedRaw_8 3 rfl rfl)
theorem dX0_askedRaw_195 : decode cX0_askedRaw 195 = .ok (.istore 6, 2) := dk_54 6 (dk_at dksX0_askedRaw_8 4 rfl rfl)
theorem dX0_askedRaw_197 : decode cX0_askedRaw 197 = .ok (.iload 6, 2) := dk_21 6 (dk_at dksX0_askedRaw_8 6 rfl rfl)
theorem dX0_askedRaw_199 : decode cX0_askedRaw 199 = .ok (.iload 4, 2) := dk_21 4 (dk_at dksX0_askedRaw_8 8 rfl rfl)
theorem dX0_askedRaw_201 : decode cX0_askedRaw 201 = .ok (.if_icmp .gt 50, 3) := dk_163 0 50 (dk_at dksX0_askedRaw_8 10 rfl rfl)
theorem dX0_askedRaw_204 : decode cX0_askedRaw 204 = .ok (.iload 6, 2) := dk_21 6 (dk_at dksX0_askedRaw_8 13 rfl rfl)
theorem dX0_askedRaw_206 : decode cX0_askedRaw 206 = .ok (.istore 7, 2) := dk_54 7 (dk_at dksX0_askedRaw_8 15 rfl rfl)
theorem dX0_askedRaw_208 : decode cX0_askedRaw 208 = .ok (.iload 7, 2) := dk_21 7 (dk_at dksX0_askedRaw_8 17 rfl rfl)
theorem dX0_askedRaw_210 : decode cX0_askedRaw 210 = .ok (.iload 4, 2) := dk_21 4 (dk_at dksX0_askedRaw_8 19 rfl rfl)
theorem dX0_askedRaw_212 : decode cX0_askedRaw 212 = .ok (.if_icmp .gt 33, 3) := dk_163 0 33 (dk_at dksX0_askedRaw_8 21 rfl rfl)
theorem dX0_askedRaw_215 : decode cX0_askedRaw 215 = .ok (.aload_n 1, 1) := dk_43 (dk_at dksX0_askedRaw_9 0 rfl rfl)
theorem dX0_askedRaw_216 : decode cX0_askedRaw 216 = .ok (.iload 6, 2) := dk_21 6 (dk_at dksX0_askedRaw_9 1 rfl rfl)
theorem dX0_askedRaw_218 : decode cX0_askedRaw 218 = .ok (.iload 7, 2) := dk_21 7 (dk_at dksX0_askedRaw_9 3 rfl rfl)
theorem dX0_askedRaw_220 : decode cX0_askedRaw 220 = .ok (.iload 6, 2) := dk_21 6 (dk_at dksX0_askedRaw_9 5 rfl rfl)
theorem dX0_askedRaw_222 : decode cX0_askedRaw 222 = .ok (.isub, 1) := dk_100 (dk_at dksX0_askedRaw_9 7 rfl rfl)
theorem dX0_askedRaw_223 : decode cX0_askedRaw 223 = .ok (.invokevirtual 39, 3) := dk_182 0 39 (dk_at dksX0_askedRaw_9 8 rfl rfl)
theorem dX0_askedRaw_226 : decode cX0_askedRaw 226 = .ok (.aload_n 2, 1) := dk_44 (dk_at dksX0_askedRaw_9 11 rfl rfl)
theorem dX0_askedRaw_227 : decode cX0_askedRaw 227 = .ok (.iload 6, 2) := dk_21 6 (dk_at dksX0_askedRaw_9 12 rfl rfl)
theorem dX0_askedRaw_229 : decode cX0_askedRaw 229 = .ok (.iload 7, 2) := dk_21 7 (dk_at dksX0_askedRaw_9 14 rfl rfl)
theorem dX0_askedRaw_231 : decode cX0_askedRaw 231 = .ok (.invokestatic 69, 3) := dk_184 0 69 (dk_at dksX0_askedRaw_9 16 rfl rfl)
theorem dX0_askedRaw_234 : decode cX0_askedRaw 234 = .ok (.if_icmp .eq 5, 3) := dk_159 0 5 (dk_at dksX0_askedRaw_9 19 rfl rfl)
theorem dX0_askedRaw_237 : decode cX0_askedRaw 237 = .ok (.iconst 0, 1) := dk_3 (dk_at dksX0_askedRaw_9 22 rfl rfl)
theorem dX0_askedRaw_238 : decode cX0_askedRaw 238 = .ok (.ireturn, 1) := dk_172 (dk_at dksX0_askedRaw_9 23 rfl rfl)
theorem dX0_askedRaw_239 : decode cX0_askedRaw 239 = .ok (.iinc 7 1, 3) := dk_132 7 1 (dk_at dksX0_askedRaw_10 0 rfl rfl)
theorem dX0_askedRaw_242 : decode cX0_askedRaw 242 = .ok (.goto (-34), 3) := dk_167 255 222 (dk_at dksX0_askedRaw_10 3 rfl rfl)
theorem dX0_askedRaw_245 : decode cX0_askedRaw 245 = .ok (.iinc 6 1, 3) := dk_132 6 1 (dk_at dksX0_askedRaw_10 6 rfl rfl)
theorem dX0_askedRaw_248 : decode cX0_askedRaw 248 = .ok (.goto (-51), 3) := dk_167 255 205 (dk_at dksX0_askedRaw_10 9 rfl rfl)
theorem dX0_askedRaw_251 : decode cX0_askedRaw 251 = .ok (.aload_n 1, 1) := dk_43 (dk_at dksX0_askedRaw_10 12 rfl rfl)
theorem dX0_askedRaw_252 : decode cX0_askedRaw 252 = .ok (.aload_n 0, 1) := dk_42 (dk_at dksX0_askedRaw_10 13 rfl rfl)
theorem dX0_askedRaw_253 : decode cX0_askedRaw 253 = .ok (.bipush 11, 2) := dk_16 11 (dk_at dksX0_askedRaw_10 14 rfl rfl)
theorem dX0_askedRaw_255 : decode cX0_askedRaw 255 = .ok (.invokestatic 62, 3) := dk_184 0 62 (dk_at dksX0_askedRaw_10 16 rfl rfl)
theorem dX0_askedRaw_258 : decode cX0_askedRaw 258 = .ok (.aload_n 0, 1) := dk_42 (dk_at dksX0_askedRaw_10 19 rfl rfl)
theorem dX0_askedRaw_259 : decode cX0_askedRaw 259 = .ok (.bipush 12, 2) := dk_16 12 (dk_at dksX0_askedRaw_10 20 rfl rfl)
theorem dX0_askedRaw_261 : decode cX0_askedRaw 261 = .ok (.invokestatic 62, 3) := dk_184 0 62 (dk_at dksX0_askedRaw_11 0 rfl rfl)
theorem dX0_askedRaw_264 : decode cX0_askedRaw 264 = .ok (.invokevirtual 7, 3) := dk_182 0 7 (dk_at dksX0_askedRaw_11 3 rfl rfl)
theorem dX0_askedRaw_267 : decode cX0_askedRaw 267 = .ok (.aload_n 2, 1) := dk_44 (dk_at dksX0_askedRaw_11 6 rfl rfl)
theorem dX0_askedRaw_268 : decode cX0_askedRaw 268 = .ok (.aload_n 0, 1) := dk_42 (dk_at dksX0_askedRaw_11 7 rfl rfl)
theorem dX0_askedRaw_269 : decode cX0_askedRaw 269 = .ok (.bipush 11, 2) := dk_16 11 (dk_at dksX0_askedRaw_11 8 rfl rfl)
theorem dX0_askedRaw_271 : decode cX0_askedRaw 271 = .ok (.invokestatic 62, 3) := dk_184 0 62 (dk_at dksX0_askedRaw_11 10 rfl rfl)
theorem dX0_askedRaw_274 : decode cX0_askedRaw 274 = .ok (.ldc 47, 2) := dk_18 47 (dk_at dksX0_askedRaw_11 13 rfl rfl)
theorem dX0_askedRaw_276 : decode cX0_askedRaw 276 = .ok (.iand, 1) := dk_126 (dk_at dksX0_askedRaw_11 15 rfl rfl)
theorem dX0_askedRaw_277 : decode cX0_askedRaw 277 = .ok (.iload 4, 2) := dk_21 4 (dk_at dksX0_askedRaw_11 16 rfl rfl)
theorem dX0_askedRaw_279 : decode cX0_askedRaw 279 = .ok (.irem, 1) := dk_112 (dk_at dksX0_askedRaw_11 18 rfl rfl)
theorem dX0_askedRaw_280 : decode cX0_askedRaw 280 = .ok (.aload_n 0, 1) := dk_42 (dk_at dksX0_askedRaw_11 19 rfl rfl)
theorem dX0_askedRaw_281 : decode cX0_askedRaw 281 = .ok (.bipush 12, 2) := dk_16 12 (dk_at dksX0_askedRaw_11 20 rfl rfl)
theorem dX0_askedRaw_283 : decode cX0_askedRaw 283 = .ok (.invokestatic 62, 3) := dk_184 0 62 (dk_at dksX0_askedRaw_12 0 rfl rfl)
theorem dX0_askedRaw_286 : decode cX0_askedRaw 286 = .ok (.sipush 255, 3) := dk_17 0 255 (dk_at dksX0_askedRaw_12 3 rfl rfl)
theorem dX0_askedRaw_289 : decode cX0_askedRaw 289 = .ok (.iand, 1) := dk_126 (dk_at dksX0_askedRaw_12 6 rfl rfl)
theorem dX0_askedRaw_290 : decode cX0_askedRaw 290 = .ok (.iastore, 1) := dk_79 (dk_at dksX0_askedRaw_12 7 rfl rfl)
theorem dX0_askedRaw_291 : decode cX0_askedRaw 291 = .ok (.aload_n 1, 1) := dk_43 (dk_at dksX0_askedRaw_12 8 rfl rfl)
theorem dX0_askedRaw_292 : decode cX0_askedRaw 292 = .ok (.aload_n 0, 1) := dk_42 (dk_at dksX0_askedRaw_12 9 rfl rfl)
theorem dX0_askedRaw_293 : decode cX0_askedRaw 293 = .ok (.bipush 13, 2) := dk_16 13 (dk_at dksX0_askedRaw_12 10 rfl rfl)
theorem dX0_askedRaw_295 : decode cX0_askedRaw 295 = .ok (.invokestatic 62, 3) := dk_184 0 62 (dk_at dksX0_askedRaw_12 12 rfl rfl)
theorem dX0_askedRaw_298 : decode cX0_askedRaw 298 = .ok (.aload_n 0, 1) := dk_42 (dk_at dksX0_askedRaw_12 15 rfl rfl)
theorem dX0_askedRaw_299 : decode cX0_askedRaw 299 = .ok (.bipush 14, 2) := dk_16 14 (dk_at dksX0_askedRaw_12 16 rfl rfl)
theorem dX0_askedRaw_301 : decode cX0_askedRaw 301 = .ok (.invokestatic 62, 3) := dk_184 0 62 (dk_at dksX0_askedRaw_12 18 rfl rfl)
theorem dX0_askedRaw_304 : decode cX0_askedRaw 304 = .ok (.invokevirtual 7, 3) := dk_182 0 7 (dk_at dksX0_askedRaw_12 21 rfl rfl)
theorem dX0_askedRaw_307 : decode cX0_askedRaw 307 = .ok (.aload_n 2, 1) := dk_44 (dk_at dksX0_askedRaw_13 0 rfl rfl)
theorem dX0_askedRaw_308 : decode cX0_askedRaw 308 = .ok (.aload_n 0, 1) := dk_42 (dk_at dksX0_askedRaw_13 1 rfl rfl)
theorem dX0_askedRaw_309 : decode cX0_askedRaw 309 = .ok (.bipush 13, 2) := dk_16 13 (dk_at dksX0_askedRaw_13 2 rfl rfl)
theorem dX0_askedRaw_311 : decode cX0_askedRaw 311 = .ok (.invokestatic 62, 3) := dk_184 0 62 (dk_at dksX0_askedRaw_13 4 rfl rfl)
theorem dX0_askedRaw_314 : decode cX0_askedRaw 314 = .ok (.ldc 47, 2) := dk_18 47 (dk_at dksX0_askedRaw_13 7 rfl rfl)
theorem dX0_askedRaw_316 : decode cX0_askedRaw 316 = .ok (.iand, 1) := dk_126 (dk_at dksX0_askedRaw_13 9 rfl rfl)
theorem dX0_askedRaw_317 : decode cX0_askedRaw 317 = .ok (.iload 4, 2) := dk_21 4 (dk_at dksX0_askedRaw_13 10 rfl rfl)
theorem dX0_askedRaw_319 : decode cX0_askedRaw 319 = .ok (.irem, 1) := dk_112 (dk_at dksX0_askedRaw_13 12 rfl rfl)
theorem dX0_askedRaw_320 : decode cX0_askedRaw 320 = .ok (.aload_n 0, 1) := dk_42 (dk_at dksX0_askedRaw_13 13 rfl rfl)
theorem dX0_askedRaw_321 : decode cX0_askedRaw 321 = .ok (.bipush 14, 2) := dk_16 14 (dk_at dksX0_askedRaw_13 14 rfl rfl)
theorem dX0_askedRaw_323 : decode cX0_askedRaw 323 = .ok (.invokestatic 62, 3) := dk_184 0 62 (dk_at dksX0_askedRaw_13 16 rfl rfl)
theorem dX0_askedRaw_326 : decode cX0_askedRaw 326 = .ok (.sipush 255, 3) := dk_17 0 255 (dk_at dksX0_askedRaw_13 19 rfl rfl)
theorem dX0_askedRaw_329 : decode cX0_askedRaw 329 = .ok (.iand, 1) := dk_126 (dk_at dksX0_askedRaw_13 22 rfl rfl)
theorem dX0_askedRaw_330 : decode cX0_askedRaw 330 = .ok (.iastore, 1) := dk_79 (dk_at dksX0_askedRaw_13 23 rfl rfl)
theorem dX0_askedRaw_331 : decode cX0_askedRaw 331 = .ok (.iinc 5 1, 3) := dk_132 5 1 (dk_at dksX0_askedRaw_14 0 rfl rfl)
theorem dX0_askedRaw_334 : decode cX0_askedRaw 334 = .ok (.goto (-146), 3) := dk_167 255 110 (dk_at dksX0_askedRaw_14 3 rfl rfl)
theorem dX0_askedRaw_337 : decode cX0_askedRaw 337 = .ok (.aload_n 1, 1) := dk_43 (dk_at dksX0_askedRaw_14 6 rfl rfl)
theorem dX0_askedRaw_338 : decode cX0_askedRaw 338 = .ok (.invokevirtual 35, 3) := dk_182 0 35 (dk_at dksX0_askedRaw_14 7 rfl rfl)
theorem dX0_askedRaw_341 : decode cX0_askedRaw 341 = .ok (.iload 4, 2) := dk_21 4 (dk_at dksX0_askedRaw_14 10 rfl rfl)
theorem dX0_askedRaw_343 : decode cX0_askedRaw 343 = .ok (.if_icmp .ne 7, 3) := dk_160 0 7 (dk_at dksX0_askedRaw_14 12 rfl rfl)
theorem dX0_askedRaw_346 : decode cX0_askedRaw 346 = .ok (.iconst 1, 1) := dk_4 (dk_at dksX0_askedRaw_14 15 rfl rfl)
theorem dX0_askedRaw_347 : decode cX0_askedRaw 347 = .ok (.goto 4, 3) := dk_167 0 4 (dk_at dksX0_askedRaw_14 16 rfl rfl)
theorem dX0_askedRaw_350 : decode cX0_askedRaw 350 = .ok (.iconst 0, 1) := dk_3 (dk_at dksX0_askedRaw_14 19 rfl rfl)
theorem dX0_askedRaw_351 : decode cX0_askedRaw 351 = .ok (.ireturn, 1) := dk_172 (dk_at dksX0_askedRaw_14 20 rfl rfl)
abbrev cX0_askedCell : ByteArray := method_7_code
def yX0_askedCell : MethodName := ⟨RX0, "askedCell", "([II)I"⟩
def dkwX0_askedCell_0 : List UInt8 := [27, 42, 190, 162, 0, 9, 42, 27, 46, 167, 0, 4, 3, 172]
abbrev dktX0_askedCell_0 : List UInt8 := dkwX0_askedCell_0 ++ []
theorem dksX0_askedCell_0 : cX0_askedCell.data.toList.drop 0 = dktX0_askedCell_0 := by decide +kernel
theorem dX0_askedCell_0 : decode cX0_askedCell 0 = .ok (.iload_n 1, 1) := dk_27 (dk_at dksX0_askedCell_0 0 rfl rfl)
theorem dX0_askedCell_1 : decode cX0_askedCell 1 = .ok (.aload_n 0, 1) := dk_42 (dk_at dksX0_askedCell_0 1 rfl rfl)
theorem dX0_askedCell_2 : decode cX0_askedCell 2 = .ok (.arraylength, 1) := dk_190 (dk_at dksX0_askedCell_0 2 rfl rfl)
theorem dX0_askedCell_3 : decode cX0_askedCell 3 = .ok (.if_icmp .ge 9, 3) := dk_162 0 9 (dk_at dksX0_askedCell_0 3 rfl rfl)
theorem dX0_askedCell_6 : decode cX0_askedCell 6 = .ok (.aload_n 0, 1) := dk_42 (dk_at dksX0_askedCell_0 6 rfl rfl)
theorem dX0_askedCell_7 : decode cX0_askedCell 7 = .ok (.iload_n 1, 1) := dk_27 (dk_at dksX0_askedCell_0 7 rfl rfl)
theorem dX0_askedCell_8 : decode cX0_askedCell 8 = .ok (.iaload, 1) := dk_46 (dk_at dksX0_askedCell_0 8 rfl rfl)
theorem dX0_askedCell_9 : decode cX0_askedCell 9 = .ok (.goto 4, 3) := dk_167 0 4 (dk_at dksX0_askedCell_0 9 rfl rfl)
theorem dX0_askedCell_12 : decode cX0_askedCell 12 = .ok (.iconst 0, 1) := dk_3 (dk_at dksX0_askedCell_0 12 rfl rfl)
theorem dX0_askedCell_13 : decode cX0_askedCell 13 = .ok (.ireturn, 1) := dk_172 (dk_at dksX0_askedCell_0 13 rfl rfl)
abbrev cX0_askedOctet : ByteArray := method_9_code
def yX0_askedOctet : MethodName := ⟨RX0, "askedOctet", "([III)I"⟩
def dkwX0_askedOctet_0 : List UInt8 := [42, 27, 28, 5, 122, 96, 184, 0, 62, 16, 24, 16, 8, 28, 6, 126, 104, 100, 122, 17, 0, 255, 126, 172]
abbrev dktX0_askedOctet_0 : List UInt8 := dkwX0_askedOctet_0 ++ []
theorem dksX0_askedOctet_0 : cX0_askedOctet.data.toList.drop 0 = dktX0_askedOctet_0 := by decide +kernel
theorem dX0_askedOctet_0 : decode cX0_askedOctet 0 = .ok (.aload_n 0, 1) := dk_42 (dk_at dksX0_askedOctet_0 0 rfl rfl)
theorem dX0_askedOctet_1 : decode cX0_askedOctet 1 = .ok (.iload_n 1, 1) := dk_27 (dk_at dksX0_askedOctet_0 1 rfl rfl)
theorem dX0_askedOctet_2 : decode cX0_askedOctet 2 = .ok (.iload_n 2, 1) := dk_28 (dk_at dksX0_askedOctet_0 2 rfl rfl)
theorem dX0_askedOctet_3 : decode cX0_askedOctet 3 = .ok (.iconst 2, 1) := dk_5 (dk_at dksX0_askedOctet_0 3 rfl rfl)
theorem dX0_askedOctet_4 : decode cX0_askedOctet 4 = .ok (.ishr, 1) := dk_122 (dk_at dksX0_askedOctet_0 4 rfl rfl)
theorem dX0_askedOctet_5 : decode cX0_askedOctet 5 = .ok (.iadd, 1) := dk_96 (dk_at dksX0_askedOctet_0 5 rfl rfl)
theorem dX0_askedOctet_6 : decode cX0_askedOctet 6 = .ok (.invokestatic 62, 3) := dk_184 0 62 (dk_at dksX0_askedOctet_0 6 rfl rfl)
theorem dX0_askedOctet_9 : decode cX0_askedOctet 9 = .ok (.bipush 24, 2) := dk_16 24 (dk_at dksX0_askedOctet_0 9 rfl rfl)
theorem dX0_askedOctet_11 : decode cX0_askedOctet 11 = .ok (.bipush 8, 2) := dk_16 8 (dk_at dksX0_askedOctet_0 11 rfl rfl)
theorem dX0_askedOctet_13 : decode cX0_askedOctet 13 = .ok (.iload_n 2, 1) := dk_28 (dk_at dksX0_askedOctet_0 13 rfl rfl)
theorem dX0_askedOctet_14 : decode cX0_askedOctet 14 = .ok (.iconst 3, 1) := dk_6 (dk_at dksX0_askedOctet_0 14 rfl rfl)
theorem dX0_askedOctet_15 : decode cX0_askedOctet 15 = .ok (.iand, 1) := dk_126 (dk_at dksX0_askedOctet_0 15 rfl rfl)
theorem dX0_askedOctet_16 : decode cX0_askedOctet 16 = .ok (.imul, 1) := dk_104 (dk_at dksX0_askedOctet_0 16 rfl rfl)
theorem dX0_askedOctet_17 : decode cX0_askedOctet 17 = .ok (.isub, 1) := dk_100 (dk_at dksX0_askedOctet_0 17 rfl rfl)
theorem dX0_askedOctet_18 : decode cX0_askedOctet 18 = .ok (.ishr, 1) := dk_122 (dk_at dksX0_askedOctet_0 18 rfl rfl)
theorem dX0_askedOctet_19 : decode cX0_askedOctet 19 = .ok (.sipush 255, 3) := dk_17 0 255 (dk_at dksX0_askedOctet_0 19 rfl rfl)
theorem dX0_askedOctet_22 : decode cX0_askedOctet 22 = .ok (.iand, 1) := dk_126 (dk_at dksX0_askedOctet_0 22 rfl rfl)
theorem dX0_askedOctet_23 : decode cX0_askedOctet 23 = .ok (.ireturn, 1) := dk_172 (dk_at dksX0_askedOctet_0 23 rfl rfl)
abbrev cX0_askedOwn : ByteArray := method_8_code
def yX0_askedOwn : MethodName := ⟨RX0, "askedOwn", "([III)Z"⟩
def dkwX0_askedOwn_9 : List UInt8 := [167, 255, 136, 27, 21, 4, 4, 96, 96, 60, 167, 255, 37, 4, 172]
abbrev dktX0_askedOwn_9 : List UInt8 := dkwX0_askedOwn_9 ++ []
def dkwX0_askedOwn_8 : List UInt8 := [17, 0, 191, 54, 8, 21, 6, 21, 7, 161, 0, 10, 21, 6, 21, 8, 164, 0, 5, 3, 172, 132, 5, 1]
abbrev dktX0_askedOwn_8 : List UInt8 := dkwX0_askedOwn_8 ++ dktX0_askedOwn_9
def dkwX0_askedOwn_7 : List UInt8 := [160, 0, 9, 17, 0, 159, 167, 0, 19, 29, 17, 0, 244, 160, 0, 9, 17, 0, 143, 167, 0, 6]
abbrev dktX0_askedOwn_7 : List UInt8 := dkwX0_askedOwn_7 ++ dktX0_askedOwn_8
def dkwX0_askedOwn_6 : List UInt8 := [167, 0, 6, 17, 0, 128, 54, 7, 21, 5, 4, 164, 0, 9, 17, 0, 191, 167, 0, 32, 29, 17, 0, 237]
abbrev dktX0_askedOwn_6 : List UInt8 := dkwX0_askedOwn_6 ++ dktX0_askedOwn_7
def dkwX0_askedOwn_5 : List UInt8 := [17, 0, 224, 160, 0, 9, 17, 0, 160, 167, 0, 19, 29, 17, 0, 240, 160, 0, 9, 17, 0, 144]
abbrev dktX0_askedOwn_5 : List UInt8 := dkwX0_askedOwn_5 ++ dktX0_askedOwn_6
def dkwX0_askedOwn_4 : List UInt8 := [163, 0, 119, 42, 27, 21, 5, 96, 46, 54, 6, 21, 5, 4, 164, 0, 9, 17, 0, 128, 167, 0, 32, 29]
abbrev dktX0_askedOwn_4 : List UInt8 := dkwX0_askedOwn_4 ++ dktX0_askedOwn_5
def dkwX0_askedOwn_3 : List UInt8 := [16, 9, 159, 0, 11, 27, 21, 4, 96, 28, 161, 0, 5, 3, 172, 4, 54, 5, 21, 5, 21, 4]
abbrev dktX0_askedOwn_3 : List UInt8 := dkwX0_askedOwn_3 ++ dktX0_askedOwn_4
def dkwX0_askedOwn_2 : List UInt8 := [162, 0, 7, 5, 167, 0, 16, 29, 17, 0, 245, 162, 0, 7, 6, 167, 0, 5, 16, 9, 54, 4, 21, 4]
abbrev dktX0_askedOwn_2 : List UInt8 := dkwX0_askedOwn_2 ++ dktX0_askedOwn_3
def dkwX0_askedOwn_1 : List UInt8 := [162, 0, 8, 16, 9, 167, 0, 38, 29, 17, 0, 224, 162, 0, 7, 4, 167, 0, 27, 29, 17, 0, 240]
abbrev dktX0_askedOwn_1 : List UInt8 := dkwX0_askedOwn_1 ++ dktX0_askedOwn_2
def dkwX0_askedOwn_0 : List UInt8 := [27, 28, 162, 0, 220, 42, 27, 46, 62, 29, 17, 0, 128, 162, 0, 7, 3, 167, 0, 50, 29, 17, 0, 194]
abbrev dktX0_askedOwn_0 : List UInt8 := dkwX0_askedOwn_0 ++ dktX0_askedOwn_1
theorem dksX0_askedOwn_0 : cX0_askedOwn.data.toList.drop 0 = dktX0_askedOwn_0 := by decide +kernel
theorem dksX0_askedOwn_1 : cX0_askedOwn.data.toList.drop 24 = dktX0_askedOwn_1 := dk_seg dksX0_askedOwn_0 24 rfl rfl
theorem dksX0_askedOwn_2 : cX0_askedOwn.data.toList.drop 47 = dktX0_askedOwn_2 := dk_seg dksX0_askedOwn_1 23 rfl rfl
theorem dksX0_askedOwn_3 : cX0_askedOwn.data.toList.drop 71 = dktX0_askedOwn_3 := dk_seg dksX0_askedOwn_2 24 rfl rfl
theorem dksX0_askedOwn_4 : cX0_askedOwn.data.toList.drop 93 = dktX0_askedOwn_4 := dk_seg dksX0_askedOwn_3 22 rfl rfl
theorem dksX0_askedOwn_5 : cX0_askedOwn.data.toList.drop 117 = dktX0_askedOwn_5 := dk_seg dksX0_askedOwn_4 24 rfl rfl
theorem dksX0_askedOwn_6 : cX0_askedOwn.data.toList.drop 139 = dktX0_askedOwn_6 := dk_seg dksX0_askedOwn_5 22 rfl rfl
theorem dksX0_askedOwn_7 : cX0_askedOwn.data.toList.drop 163 = dktX0_askedOwn_7 := dk_seg dksX0_askedOwn_6 24 rfl rfl
theorem dksX0_askedOwn_8 : cX0_askedOwn.data.toList.drop 185 = dktX0_askedOwn_8 := dk_seg dksX0_askedOwn_7 22 rfl rfl
theorem dksX0_askedOwn_9 : cX0_askedOwn.data.toList.drop 209 = dktX0_askedOwn_9 := dk_seg dksX0_askedOwn_8 24 rfl rfl
theorem dX0_askedOwn_0 : decode cX0_askedOwn 0 = .ok (.iload_n 1, 1) := dk_27 (dk_at dksX0_askedOwn_0 0 rfl rfl)
theorem dX0_askedOwn_1 : decode cX0_askedOwn 1 = .ok (.iload_n 2, 1) := dk_28 (dk_at dksX0_askedOwn_0 1 rfl rfl)
theorem dX0_askedOwn_2 : decode cX0_askedOwn 2 = .ok (.if_icmp .ge 220, 3) := dk_162 0 220 (dk_at dksX0_askedOwn_0 2 rfl rfl)
theorem dX0_askedOwn_5 : decode cX0_askedOwn 5 = .ok (.aload_n 0, 1) := dk_42 (dk_at dksX0_askedOwn_0 5 rfl rfl)
theorem dX0_askedOwn_6 : decode cX0_askedOwn 6 = .ok (.iload_n 1, 1) := dk_27 (dk_at dksX0_askedOwn_0 6 rfl rfl)
theorem dX0_askedOwn_7 : decode cX0_askedOwn 7 = .ok (.iaload, 1) := dk_46 (dk_at dksX0_askedOwn_0 7 rfl rfl)
theorem dX0_askedOwn_8 : decode cX0_askedOwn 8 = .ok (.istore_n 3, 1) := dk_62 (dk_at dksX0_askedOwn_0 8 rfl rfl)
theorem dX0_askedOwn_9 : decode cX0_askedOwn 9 = .ok (.iload_n 3, 1) := dk_29 (dk_at dksX0_askedOwn_0 9 rfl rfl)
theorem dX0_askedOwn_10 : decode cX0_askedOwn 10 = .ok (.sipush 128, 3) := dk_17 0 128 (dk_at dksX0_askedOwn_0 10 rfl rfl)
theorem dX0_askedOwn_13 : decode cX0_askedOwn 13 = .ok (.if_icmp .ge 7, 3) := dk_162 0 7 (dk_at dksX0_askedOwn_0 13 rfl rfl)
theorem dX0_askedOwn_16 : decode cX0_askedOwn 16 = .ok (.iconst 0, 1) := dk_3 (dk_at dksX0_askedOwn_0 16 rfl rfl)
theorem dX0_askedOwn_17 : decode cX0_askedOwn 17 = .ok (.goto 50, 3) := dk_167 0 50 (dk_at dksX0_askedOwn_0 17 rfl rfl)
theorem dX0_askedOwn_20 : decode cX0_askedOwn 20 = .ok (.iload_n 3, 1) := dk_29 (dk_at dksX0_askedOwn_0 20 rfl rfl)
theorem dX0_askedOwn_21 : decode cX0_askedOwn 21 = .ok (.sipush 194, 3) := dk_17 0 194 (dk_at dksX0_askedOwn_0 21 rfl rfl)
theorem dX0_askedOwn_24 : decode cX0_askedOwn 24 = .ok (.if_icmp .ge 8, 3) := dk_162 0 8 (dk_at dksX0_askedOwn_1 0 rfl rfl)
theorem dX0_askedOwn_27 : decode cX0_askedOwn 27 = .ok (.bipush 9, 2) := dk_16 9 (dk_at dksX0_askedOwn_1 3 rfl rfl)
theorem dX0_askedOwn_29 : decode cX0_askedOwn 29 = .ok (.goto 38, 3) := dk_167 0 38 (dk_at dksX0_askedOwn_1 5 rfl rfl)
theorem dX0_askedOwn_32 : decode cX0_askedOwn 32 = .ok (.iload_n 3, 1) := dk_29 (dk_at dksX0_askedOwn_1 8 rfl rfl)
theorem dX0_askedOwn_33 : decode cX0_askedOwn 33 = .ok (.sipush 224, 3) := dk_17 0 224 (dk_at dksX0_askedOwn_1 9 rfl rfl)
theorem dX0_askedOwn_36 : decode cX0_askedOwn 36 = .ok (.if_icmp .ge 7, 3) := dk_162 0 7 (dk_at dksX0_askedOwn_1 12 rfl rfl)
theorem dX0_askedOwn_39 : decode cX0_askedOwn 39 = .ok (.iconst 1, 1) := dk_4 (dk_at dksX0_askedOwn_1 15 rfl rfl)
theorem dX0_askedOwn_40 : decode cX0_askedOwn 40 = .ok (.goto 27, 3) := dk_167 0 27 (dk_at dksX0_askedOwn_1 16 rfl rfl)
theorem dX0_askedOwn_43 : decode cX0_askedOwn 43 = .ok (.iload_n 3, 1) := dk_29 (dk_at dksX0_askedOwn_1 19 rfl rfl)
theorem dX0_askedOwn_44 : decode cX0_askedOwn 44 = .ok (.sipush 240, 3) := dk_17 0 240 (dk_at dksX0_askedOwn_1 20 rfl rfl)
theorem dX0_askedOwn_47 : decode cX0_askedOwn 47 = .ok (.if_icmp .ge 7, 3) := dk_162 0 7 (dk_at dksX0_askedOwn_2 0 rfl rfl)
theorem dX0_askedOwn_50 : decode cX0_askedOwn 50 = .ok (.iconst 2, 1) := dk_5 (dk_at dksX0_askedOwn_2 3 rfl rfl)
theorem dX0_askedOwn_51 : decode cX0_askedOwn 51 = .ok (.goto 16, 3) := dk_167 0 16 (dk_at dksX0_askedOwn_2 4 rfl rfl)
theorem dX0_askedOwn_54 : decode cX0_askedOwn 54 = .ok (.iload_n 3, 1) := dk_29 (dk_at dksX0_askedOwn_2 7 rfl rfl)
theorem dX0_askedOwn_55 : decode cX0_askedOwn 55 = .ok (.sipush 245, 3) := dk_17 0 245 (dk_at dksX0_askedOwn_2 8 rfl rfl)
theorem dX0_askedOwn_58 : decode cX0_askedOwn 58 = .ok (.if_icmp .ge 7, 3) := dk_162 0 7 (dk_at dksX0_askedOwn_2 11 rfl rfl)
theorem dX0_askedOwn_61 : decode cX0_askedOwn 61 = .ok (.iconst 3, 1) := dk_6 (dk_at dksX0_askedOwn_2 14 rfl rfl)
theorem dX0_askedOwn_62 : decode cX0_askedOwn 62 = .ok (.goto 5, 3) := dk_167 0 5 (dk_at dksX0_askedOwn_2 15 rfl rfl)
theorem dX0_askedOwn_65 : decode cX0_askedOwn 65 = .ok (.bipush 9, 2) := dk_16 9 (dk_at dksX0_askedOwn_2 18 rfl rfl)
theorem dX0_askedOwn_67 : decode cX0_askedOwn 67 = .ok (.istore 4, 2) := dk_54 4 (dk_at dksX0_askedOwn_2 20 rfl rfl)
theorem dX0_askedOwn_69 : decode cX0_askedOwn 69 = .ok (.iload 4, 2) := dk_21 4 (dk_at dksX0_askedOwn_2 22 rfl rfl)
theorem dX0_askedOwn_71 : decode cX0_askedOwn 71 = .ok (.bipush 9, 2) := dk_16 9 (dk_at dksX0_askedOwn_3 0 rfl rfl)
theorem dX0_askedOwn_73 : decode cX0_askedOwn 73 = .ok (.if_icmp .eq 11, 3) := dk_159 0 11 (dk_at dksX0_askedOwn_3 2 rfl rfl)
theorem dX0_askedOwn_76 : decode cX0_askedOwn 76 = .ok (.iload_n 1, 1) := dk_27 (dk_at dksX0_askedOwn_3 5 rfl rfl)
theorem dX0_askedOwn_77 : decode cX0_askedOwn 77 = .ok (.iload 4, 2) := dk_21 4 (dk_at dksX0_askedOwn_3 6 rfl rfl)
theorem dX0_askedOwn_79 : decode cX0_askedOwn 79 = .ok (.iadd, 1) := dk_96 (dk_at dksX0_askedOwn_3 8 rfl rfl)
theorem dX0_askedOwn_80 : decode cX0_askedOwn 80 = .ok (.iload_n 2, 1) := dk_28 (dk_at dksX0_askedOwn_3 9 rfl rfl)
theorem dX0_askedOwn_81 : decode cX0_askedOwn 81 = .ok (.if_icmp .lt 5, 3) := dk_161 0 5 (dk_at dksX0_askedOwn_3 10 rfl rfl)
theorem dX0_askedOwn_84 : decode cX0_askedOwn 84 = .ok (.iconst 0, 1) := dk_3 (dk_at dksX0_askedOwn_3 13 rfl rfl)
theorem dX0_askedOwn_85 : decode cX0_askedOwn 85 = .ok (.ireturn, 1) := dk_172 (dk_at dksX0_askedOwn_3 14 rfl rfl)
theorem dX0_askedOwn_86 : decode cX0_askedOwn 86 = .ok (.iconst 1, 1) := dk_4 (dk_at dksX0_askedOwn_3 15 rfl rfl)
theorem dX0_askedOwn_87 : decode cX0_askedOwn 87 = .ok (.istore 5, 2) := dk_54 5 (dk_at dksX0_askedOwn_3 16 rfl rfl)
theorem dX0_askedOwn_89 : decode cX0_askedOwn 89 = .ok (.iload 5, 2) := dk_21 5 (dk_at dksX0_askedOwn_3 18 rfl rfl)
theorem dX0_askedOwn_91 : decode cX0_askedOwn 91 = .ok (.iload 4, 2) := dk_21 4 (dk_at dksX0_askedOwn_3 20 rfl rfl)
theorem dX0_askedOwn_93 : decode cX0_askedOwn 93 = .ok (.if_icmp .gt 119, 3) := dk_163 0 119 (dk_at dksX0_askedOwn_4 0 rfl rfl)
theorem dX0_askedOwn_96 : decode cX0_askedOwn 96 = .ok (.aload_n 0, 1) := dk_42 (dk_at dksX0_askedOwn_4 3 rfl rfl)
theorem dX0_askedOwn_97 : decode cX0_askedOwn 97 = .ok (.iload_n 1, 1) := dk_27 (dk_at dksX0_askedOwn_4 4 rfl rfl)
theorem dX0_askedOwn_98 : decode cX0_askedOwn 98 = .ok (.iload 5, 2) := dk_21 5 (dk_at dksX0_askedOwn_4 5 rfl rfl)
theorem dX0_askedOwn_100 : decode cX0_askedOwn 100 = .ok (.iadd, 1) := dk_96 (dk_at dksX0_askedOwn_4 7 rfl rfl)
theorem dX0_askedOwn_101 : decode cX0_askedOwn 101 = .ok (.iaload, 1) := dk_46 (dk_at dksX0_askedOwn_4 8 rfl rfl)
theorem dX0_askedOwn_102 : decode cX0_askedOwn 102 = .ok (.istore 6, 2) := dk_54 6 (dk_at dksX0_askedOwn_4 9 rfl rfl)
theorem dX0_askedOwn_104 : decode cX0_askedOwn 104 = .ok (.iload 5, 2) := dk_21 5 (dk_at dksX0_askedOwn_4 11 rfl rfl)
theorem dX0_askedOwn_106 : decode cX0_askedOwn 106 = .ok (.iconst 1, 1) := dk_4 (dk_at dksX0_askedOwn_4 13 rfl rfl)
theorem dX0_askedOwn_107 : decode cX0_askedOwn 107 = .ok (.if_icmp .le 9, 3) := dk_164 0 9 (dk_at dksX0_askedOwn_4 14 rfl rfl)
theorem dX0_askedOwn_110 : decode cX0_askedOwn 110 = .ok (.sipush 128, 3) := dk_17 0 128 (dk_at dksX0_askedOwn_4 17 rfl rfl)
theorem dX0_askedOwn_113 : decode cX0_askedOwn 113 = .ok (.goto 32, 3) := dk_167 0 32 (dk_at dksX0_askedOwn_4 20 rfl rfl)
theorem dX0_askedOwn_116 : decode cX0_askedOwn 116 = .ok (.iload_n 3, 1) := dk_29 (dk_at dksX0_askedOwn_4 23 rfl rfl)
theorem dX0_askedOwn_117 : decode cX0_askedOwn 117 = .ok (.sipush 224, 3) := dk_17 0 224 (dk_at dksX0_askedOwn_5 0 rfl rfl)
theorem dX0_askedOwn_120 : decode cX0_askedOwn 120 = .ok (.if_icmp .ne 9, 3) := dk_160 0 9 (dk_at dksX0_askedOwn_5 3 rfl rfl)
theorem dX0_askedOwn_123 : decode cX0_askedOwn 123 = .ok (.sipush 160, 3) := dk_17 0 160 (dk_at dksX0_askedOwn_5 6 rfl rfl)
theorem dX0_askedOwn_126 : decode cX0_askedOwn 126 = .ok (.goto 19, 3) := dk_167 0 19 (dk_at dksX0_askedOwn_5 9 rfl rfl)
theorem dX0_askedOwn_129 : decode cX0_askedOwn 129 = .ok (.iload_n 3, 1) := dk_29 (dk_at dksX0_askedOwn_5 12 rfl rfl)
theorem dX0_askedOwn_130 : decode cX0_askedOwn 130 = .ok (.sipush 240, 3) := dk_17 0 240 (dk_at dksX0_askedOwn_5 13 rfl rfl)
theorem dX0_askedOwn_133 : decode cX0_askedOwn 133 = .ok (.if_icmp .ne 9, 3) := dk_160 0 9 (dk_at dksX0_askedOwn_5 16 rfl rfl)
theorem dX0_askedOwn_136 : decode cX0_askedOwn 136 = .ok (.sipush 144, 3) := dk_17 0 144 (dk_at dksX0_askedOwn_5 19 rfl rfl)
theorem dX0_askedOwn_139 : decode cX0_askedOwn 139 = .ok (.goto 6, 3) := dk_167 0 6 (dk_at dksX0_askedOwn_6 0 rfl rfl)
theorem dX0_askedOwn_142 : decode cX0_askedOwn 142 = .ok (.sipush 128, 3) := dk_17 0 128 (dk_at dksX0_askedOwn_6 3 rfl rfl)
theorem dX0_askedOwn_145 : decode cX0_askedOwn 145 = .ok (.istore 7, 2) := dk_54 7 (dk_at dksX0_askedOwn_6 6 rfl rfl)
theorem dX0_askedOwn_147 : decode cX0_askedOwn 147 = .ok (.iload 5, 2) := dk_21 5 (dk_at dksX0_askedOwn_6 8 rfl rfl)
theorem dX0_askedOwn_149 : decode cX0_askedOwn 149 = .ok (.iconst 1, 1) := dk_4 (dk_at dksX0_askedOwn_6 10 rfl rfl)
theorem dX0_askedOwn_150 : decode cX0_askedOwn 150 = .ok (.if_icmp .le 9, 3) := dk_164 0 9 (dk_at dksX0_askedOwn_6 11 rfl rfl)
theorem dX0_askedOwn_153 : decode cX0_askedOwn 153 = .ok (.sipush 191, 3) := dk_17 0 191 (dk_at dksX0_askedOwn_6 14 rfl rfl)
theorem dX0_askedOwn_156 : decode cX0_askedOwn 156 = .ok (.goto 32, 3) := dk_167 0 32 (dk_at dksX0_askedOwn_6 17 rfl rfl)
theorem dX0_askedOwn_159 : decode cX0_askedOwn 159 = .ok (.iload_n 3, 1) := dk_29 (dk_at dksX0_askedOwn_6 20 rfl rfl)
theorem dX0_askedOwn_160 : decode cX0_askedOwn 160 = .ok (.sipush 237, 3) := dk_17 0 237 (dk_at dksX0_askedOwn_6 21 rfl rfl)
theorem dX0_askedOwn_163 : decode cX0_askedOwn 163 = .ok (.if_icmp .ne 9, 3) := dk_160 0 9 (dk_at dksX0_askedOwn_7 0 rfl rfl)
theorem dX0_askedOwn_166 : decode cX0_askedOwn 166 = .ok (.sipush 159, 3) := dk_17 0 159 (dk_at dksX0_askedOwn_7 3 rfl rfl)
theorem dX0_askedOwn_169 : decode cX0_askedOwn 169 = .ok (.goto 19, 3) := dk_167 0 19 (dk_at dksX0_askedOwn_7 6 rfl rfl)
theorem dX0_askedOwn_172 : decode cX0_askedOwn 172 = .ok (.iload_n 3, 1) := dk_29 (dk_at dksX0_askedOwn_7 9 rfl rfl)
theorem dX0_askedOwn_173 : decode cX0_askedOwn 173 = .ok (.sipush 244, 3) := dk_17 0 244 (dk_at dksX0_askedOwn_7 10 rfl rfl)
theorem dX0_askedOwn_176 : decode cX0_askedOwn 176 = .ok (.if_icmp .ne 9, 3) := dk_160 0 9 (dk_at dksX0_askedOwn_7 13 rfl rfl)
theorem dX0_askedOwn_179 : decode cX0_askedOwn 179 = .ok (.sipush 143, 3) := dk_17 0 143 (dk_at dksX0_askedOwn_7 16 rfl rfl)
theorem dX0_askedOwn_182 : decode cX0_askedOwn 182 = .ok (.goto 6, 3) := dk_167 0 6 (dk_at dksX0_askedOwn_7 19 rfl rfl)
theorem dX0_askedOwn_185 : decode cX0_askedOwn 185 = .ok (.sipush 191, 3) := dk_17 0 191 (dk_at dksX0_askedOwn_8 0 rfl rfl)
theorem dX0_askedOwn_188 : decode cX0_askedOwn 188 = .ok (.istore 8, 2) := dk_54 8 (dk_at dksX0_askedOwn_8 3 rfl rfl)
theorem dX0_askedOwn_190 : decode cX0_askedOwn 190 = .ok (.iload 6, 2) := dk_21 6 (dk_at dksX0_askedOwn_8 5 rfl rfl)
theorem dX0_askedOwn_192 : decode cX0_askedOwn 192 = .ok (.iload 7, 2) := dk_21 7 (dk_at dksX0_askedOwn_8 7 rfl rfl)
theorem dX0_askedOwn_194 : decode cX0_askedOwn 194 = .ok (.if_icmp .lt 10, 3) := dk_161 0 10 (dk_at dksX0_askedOwn_8 9 rfl rfl)
theorem dX0_askedOwn_197 : decode cX0_askedOwn 197 = .ok (.iload 6, 2) := dk_21 6 (dk_at dksX0_askedOwn_8 12 rfl rfl)
theorem dX0_askedOwn_199 : decode cX0_askedOwn 199 = .ok (.iload 8, 2) := dk_21 8 (dk_at dksX0_askedOwn_8 14 rfl rfl)
theorem dX0_askedOwn_201 : decode cX0_askedOwn 201 = .ok (.if_icmp .le 5, 3) := dk_164 0 5 (dk_at dksX0_askedOwn_8 16 rfl rfl)
theorem dX0_askedOwn_204 : decode cX0_askedOwn 204 = .ok (.iconst 0, 1) := dk_3 (dk_at dksX0_askedOwn_8 19 rfl rfl)
theorem dX0_askedOwn_205 : decode cX0_askedOwn 205 = .ok (.ireturn, 1) := dk_172 (dk_at dksX0_askedOwn_8 20 rfl rfl)
theorem dX0_askedOwn_206 : decode cX0_askedOwn 206 = .ok (.iinc 5 1, 3) := dk_132 5 1 (dk_at dksX0_askedOwn_8 21 rfl rfl)
theorem dX0_askedOwn_209 : decode cX0_askedOwn 209 = .ok (.goto (-120), 3) := dk_167 255 136 (dk_at dksX0_askedOwn_9 0 rfl rfl)
theorem dX0_askedOwn_212 : decode cX0_askedOwn 212 = .ok (.iload_n 1, 1) := dk_27 (dk_at dksX0_askedOwn_9 3 rfl rfl)
theorem dX0_askedOwn_213 : decode cX0_askedOwn 213 = .ok (.iload 4, 2) := dk_21 4 (dk_at dksX0_askedOwn_9 4 rfl rfl)
theorem dX0_askedOwn_215 : decode cX0_askedOwn 215 = .ok (.iconst 1, 1) := dk_4 (dk_at dksX0_askedOwn_9 6 rfl rfl)
theorem dX0_askedOwn_216 : decode cX0_askedOwn 216 = .ok (.iadd, 1) := dk_96 (dk_at dksX0_askedOwn_9 7 rfl rfl)
theorem dX0_askedOwn_217 : decode cX0_askedOwn 217 = .ok (.iadd, 1) := dk_96 (dk_at dksX0_askedOwn_9 8 rfl rfl)
theorem dX0_askedOwn_218 : decode cX0_askedOwn 218 = .ok (.istore_n 1, 1) := dk_60 (dk_at dksX0_askedOwn_9 9 rfl rfl)
theorem dX0_askedOwn_219 : decode cX0_askedOwn 219 = .ok (.goto (-219), 3) := dk_167 255 37 (dk_at dksX0_askedOwn_9 10 rfl rfl)
theorem dX0_askedOwn_222 : decode cX0_askedOwn 222 = .ok (.iconst 1, 1) := dk_4 (dk_at dksX0_askedOwn_9 13 rfl rfl)
theorem dX0_askedOwn_223 : decode cX0_askedOwn 223 = .ok (.ireturn, 1) := dk_172 (dk_at dksX0_askedOwn_9 14 rfl rfl)
abbrev cX0_askedEnd : ByteArray := method_11_code
def yX0_askedEnd : MethodName := ⟨RX0, "askedEnd", "()Z"⟩
def dkwX0_askedEnd_14 : List UInt8 := [182, 0, 39, 154, 0, 18, 42, 17, 15, 255, 4, 182, 0, 39, 154, 0, 7, 4, 167, 0, 4, 3, 172]
abbrev dktX0_askedEnd_14 : List UInt8 := dkwX0_askedEnd_14 ++ []
def dkwX0_askedEnd_13 : List UInt8 := [182, 0, 39, 154, 0, 40, 42, 3, 17, 15, 253, 182, 0, 39, 153, 0, 29, 42, 17, 15, 254, 5]
abbrev dktX0_askedEnd_13 : List UInt8 := dkwX0_askedEnd_13 ++ dktX0_askedEnd_14
def dkwX0_askedEnd_12 : List UInt8 := [182, 0, 39, 153, 0, 62, 42, 3, 17, 15, 255, 182, 0, 39, 154, 0, 51, 42, 3, 17, 15, 254]
abbrev dktX0_askedEnd_12 : List UInt8 := dkwX0_askedEnd_12 ++ dktX0_askedEnd_13
def dkwX0_askedEnd_11 : List UInt8 := [17, 0, 172, 182, 0, 7, 42, 3, 17, 16, 0, 182, 0, 39, 153, 0, 73, 42, 17, 15, 253, 6]
abbrev dktX0_askedEnd_11 : List UInt8 := dkwX0_askedEnd_11 ++ dktX0_askedEnd_12
def dkwX0_askedEnd_10 : List UInt8 := [42, 17, 15, 253, 17, 0, 226, 182, 0, 7, 42, 17, 15, 254, 17, 0, 130, 182, 0, 7, 42, 17, 15, 255]
abbrev dktX0_askedEnd_10 : List UInt8 := dkwX0_askedEnd_10 ++ dktX0_askedEnd_11
def dkwX0_askedEnd_9 : List UInt8 := [16, 65, 182, 0, 7, 132, 1, 1, 167, 255, 239, 42, 3, 17, 16, 0, 182, 0, 39, 154, 0, 5, 3, 172]
abbrev dktX0_askedEnd_9 : List UInt8 := dkwX0_askedEnd_9 ++ dktX0_askedEnd_10
def dkwX0_askedEnd_8 : List UInt8 := [42, 182, 0, 35, 17, 16, 0, 159, 0, 5, 3, 172, 3, 60, 27, 17, 16, 0, 162, 0, 16, 42, 27]
abbrev dktX0_askedEnd_8 : List UInt8 := dkwX0_askedEnd_8 ++ dktX0_askedEnd_9
def dkwX0_askedEnd_7 : List UInt8 := [3, 172, 42, 17, 15, 240, 182, 0, 31, 42, 18, 72, 18, 72, 18, 72, 18, 72, 182, 0, 23, 153, 0, 13]
abbrev dktX0_askedEnd_7 : List UInt8 := dkwX0_askedEnd_7 ++ dktX0_askedEnd_8
def dkwX0_askedEnd_6 : List UInt8 := [16, 65, 16, 65, 16, 65, 16, 65, 182, 0, 23, 154, 0, 13, 42, 182, 0, 35, 17, 15, 241, 159, 0, 5]
abbrev dktX0_askedEnd_6 : List UInt8 := dkwX0_askedEnd_6 ++ dktX0_askedEnd_7
def dkwX0_askedEnd_5 : List UInt8 := [154, 0, 5, 3, 172, 42, 17, 15, 241, 182, 0, 31, 42, 182, 0, 35, 17, 15, 241, 160, 0, 28, 42]
abbrev dktX0_askedEnd_5 : List UInt8 := dkwX0_askedEnd_5 ++ dktX0_askedEnd_6
def dkwX0_askedEnd_4 : List UInt8 := [154, 0, 25, 42, 17, 8, 4, 6, 182, 0, 39, 153, 0, 14, 42, 17, 16, 0, 3, 182, 0, 39]
abbrev dktX0_askedEnd_4 : List UInt8 := dkwX0_askedEnd_4 ++ dktX0_askedEnd_5
def dkwX0_askedEnd_3 : List UInt8 := [153, 0, 47, 42, 3, 17, 8, 4, 182, 0, 39, 154, 0, 36, 42, 3, 17, 16, 0, 182, 0, 39]
abbrev dktX0_askedEnd_3 : List UInt8 := dkwX0_askedEnd_3 ++ dktX0_askedEnd_4
def dkwX0_askedEnd_2 : List UInt8 := [182, 0, 23, 154, 0, 68, 42, 182, 0, 35, 17, 16, 0, 160, 0, 58, 42, 3, 17, 8, 3, 182, 0, 39]
abbrev dktX0_askedEnd_2 : List UInt8 := dkwX0_askedEnd_2 ++ dktX0_askedEnd_3
def dkwX0_askedEnd_1 : List UInt8 := [182, 0, 23, 154, 0, 5, 3, 172, 132, 1, 1, 167, 255, 233, 42, 16, 65, 16, 65, 16, 65, 16, 65]
abbrev dktX0_askedEnd_1 : List UInt8 := dkwX0_askedEnd_1 ++ dktX0_askedEnd_2
def dkwX0_askedEnd_0 : List UInt8 := [187, 0, 8, 89, 183, 0, 22, 75, 3, 60, 27, 17, 1, 0, 162, 0, 22, 42, 27, 27, 27, 27]
abbrev dktX0_askedEnd_0 : List UInt8 := dkwX0_askedEnd_0 ++ dktX0_askedEnd_1
theorem dksX0_askedEnd_0 : cX0_askedEnd.data.toList.drop 0 = dktX0_askedEnd_0 := by decide +kernel
theorem dksX0_askedEnd_1 : cX0_askedEnd.data.toList.drop 22 = dktX0_askedEnd_1 := dk_seg dksX0_askedEnd_0 22 rfl rfl
theorem dksX0_askedEnd_2 : cX0_askedEnd.data.toList.drop 45 = dktX0_askedEnd_2 := dk_seg dksX0_askedEnd_1 23 rfl rfl
theorem dksX0_askedEnd_3 : cX0_askedEnd.data.toList.drop 69 = dktX0_askedEnd_3 := dk_seg dksX0_askedEnd_2 24 rfl rfl
theorem dksX0_askedEnd_4 : cX0_askedEnd.data.toList.drop 91 = dktX0_askedEnd_4 := dk_seg dksX0_askedEnd_3 22 rfl rfl
theorem dksX0_askedEnd_5 : cX0_askedEnd.data.toList.drop 113 = dktX0_askedEnd_5 := dk_seg dksX0_askedEnd_4 22 rfl rfl
theorem dksX0_askedEnd_6 : cX0_askedEnd.data.toList.drop 136 = dktX0_askedEnd_6 := dk_seg dksX0_askedEnd_5 23 rfl rfl
theorem dksX0_askedEnd_7 : cX0_askedEnd.data.toList.drop 160 = dktX0_askedEnd_7 := dk_seg dksX0_askedEnd_6 24 rfl rfl
theorem dksX0_askedEnd_8 : cX0_askedEnd.data.toList.drop 184 = dktX0_askedEnd_8 := dk_seg dksX0_askedEnd_7 24 rfl rfl
theorem dksX0_askedEnd_9 : cX0_askedEnd.data.toList.drop 207 = dktX0_askedEnd_9 := dk_seg dksX0_askedEnd_8 23 rfl rfl
theorem dksX0_askedEnd_10 : cX0_askedEnd.data.toList.drop 231 = dktX0_askedEnd_10 := dk_seg dksX0_askedEnd_9 24 rfl rfl
theorem dksX0_askedEnd_11 : cX0_askedEnd.data.toList.drop 255 = dktX0_askedEnd_11 := dk_seg dksX0_askedEnd_10 24 rfl rfl
theorem dksX0_askedEnd_12 : cX0_askedEnd.data.toList.drop 277 = dktX0_askedEnd_12 := dk_seg dksX0_askedEnd_11 22 rfl rfl
theorem dksX0_askedEnd_13 : cX0_askedEnd.data.toList.drop 299 = dktX0_askedEnd_13 := dk_seg dksX0_askedEnd_12 22 rfl rfl
theorem dksX0_askedEnd_14 : cX0_askedEnd.data.toList.drop 321 = dktX0_askedEnd_14 := dk_seg dksX0_askedEnd_13 22 rfl rfl
theorem dX0_askedEnd_0 : decode cX0_askedEnd 0 = .ok (.new 8, 3) := dk_187 0 8 (dk_at dksX0_askedEnd_0 0 rfl rfl)
theorem dX0_askedEnd_3 : decode cX0_askedEnd 3 = .ok (.dup, 1) := dk_89 (dk_at dksX0_askedEnd_0 3 rfl rfl)
theorem dX0_askedEnd_4 : decode cX0_askedEnd 4 = .ok (.invokespecial 22, 3) := dk_183 0 22 (dk_at dksX0_askedEnd_0 4 rfl rfl)
theorem dX0_askedEnd_7 : decode cX0_askedEnd 7 = .ok (.astore_n 0, 1) := dk_75 (dk_at dksX0_askedEnd_0 7 rfl rfl)
theorem dX0_askedEnd_8 : decode cX0_askedEnd 8 = .ok (.iconst 0, 1) := dk_3 (dk_at dksX0_askedEnd_0 8 rfl rfl)
theorem dX0_askedEnd_9 : decode cX0_askedEnd 9 = .ok (.istore_n 1, 1) := dk_60 (dk_at dksX0_askedEnd_0 9 rfl rfl)
theorem dX0_askedEnd_10 : decode cX0_askedEnd 10 = .ok (.iload_n 1, 1) := dk_27 (dk_at dksX0_askedEnd_0 10 rfl rfl)
theorem dX0_askedEnd_11 : decode cX0_askedEnd 11 = .ok (.sipush 256, 3) := dk_17 1 0 (dk_at dksX0_askedEnd_0 11 rfl rfl)
theorem dX0_askedEnd_14 : decode cX0_askedEnd 14 = .ok (.if_icmp .ge 22, 3) := dk_162 0 22 (dk_at dksX0_askedEnd_0 14 rfl rfl)
theorem dX0_askedEnd_17 : decode cX0_askedEnd 17 = .ok (.aload_n 0, 1) := dk_42 (dk_at dksX0_askedEnd_0 17 rfl rfl)
theorem dX0_askedEnd_18 : decode cX0_askedEnd 18 = .ok (.iload_n 1, 1) := dk_27 (dk_at dksX0_askedEnd_0 18 rfl rfl)
theorem dX0_askedEnd_19 : decode cX0_askedEnd 19 = .ok (.iload_n 1, 1) := dk_27 (dk_at dksX0_askedEnd_0 19 rfl rfl)
theorem dX0_askedEnd_20 : decode cX0_askedEnd 20 = .ok (.iload_n 1, 1) := dk_27 (dk_at dksX0_askedEnd_0 20 rfl rfl)
theorem dX0_askedEnd_21 : decode cX0_askedEnd 21 = .ok (.iload_n 1, 1) := dk_27 (dk_at dksX0_askedEnd_0 21 rfl rfl)
theorem dX0_askedEnd_22 : decode cX0_askedEnd 22 = .ok (.invokevirtual 23, 3) := dk_182 0 23 (dk_at dksX0_askedEnd_1 0 rfl rfl)
theorem dX0_askedEnd_25 : decode cX0_askedEnd 25 = .ok (.ifCond .ne 5, 3) := dk_154 0 5 (dk_at dksX0_askedEnd_1 3 rfl rfl)
theorem dX0_askedEnd_28 : decode cX0_askedEnd 28 = .ok (.iconst 0, 1) := dk_3 (dk_at dksX0_askedEnd_1 6 rfl rfl)
theorem dX0_askedEnd_29 : decode cX0_askedEnd 29 = .ok (.ireturn, 1) := dk_172 (dk_at dksX0_askedEnd_1 7 rfl rfl)
theorem dX0_askedEnd_30 : decode cX0_askedEnd 30 = .ok (.iinc 1 1, 3) := dk_132 1 1 (dk_at dksX0_askedEnd_1 8 rfl rfl)
theorem dX0_askedEnd_33 : decode cX0_askedEnd 33 = .ok (.goto (-23), 3) := dk_167 255 233 (dk_at dksX0_askedEnd_1 11 rfl rfl)
theorem dX0_askedEnd_36 : decode cX0_askedEnd 36 = .ok (.aload_n 0, 1) := dk_42 (dk_at dksX0_askedEnd_1 14 rfl rfl)
theorem dX0_askedEnd_37 : decode cX0_askedEnd 37 = .ok (.bipush 65, 2) := dk_16 65 (dk_at dksX0_askedEnd_1 15 rfl rfl)
theorem dX0_askedEnd_39 : decode cX0_askedEnd 39 = .ok (.bipush 65, 2) := dk_16 65 (dk_at dksX0_askedEnd_1 17 rfl rfl)
theorem dX0_askedEnd_41 : decode cX0_askedEnd 41 = .ok (.bipush 65, 2) := dk_16 65 (dk_at dksX0_askedEnd_1 19 rfl rfl)
theorem dX0_askedEnd_43 : decode cX0_askedEnd 43 = .ok (.bipush 65, 2) := dk_16 65 (dk_at dksX0_askedEnd_1 21 rfl rfl)
theorem dX0_askedEnd_45 : decode cX0_askedEnd 45 = .ok (.invokevirtual 23, 3) := dk_182 0 23 (dk_at dksX0_askedEnd_2 0 rfl rfl)
theorem dX0_askedEnd_48 : decode cX0_askedEnd 48 = .ok (.ifCond .ne 68, 3) := dk_154 0 68 (dk_at dksX0_askedEnd_2 3 rfl rfl)
theorem dX0_askedEnd_51 : decode cX0_askedEnd 51 = .ok (.aload_n 0, 1) := dk_42 (dk_at dksX0_askedEnd_2 6 rfl rfl)
theorem dX0_askedEnd_52 : decode cX0_askedEnd 52 = .ok (.invokevirtual 35, 3) := dk_182 0 35 (dk_at dksX0_askedEnd_2 7 rfl rfl)
theorem dX0_askedEnd_55 : decode cX0_askedEnd 55 = .ok (.sipush 4096, 3) := dk_17 16 0 (dk_at dksX0_askedEnd_2 10 rfl rfl)
theorem dX0_askedEnd_58 : decode cX0_askedEnd 58 = .ok (.if_icmp .ne 58, 3) := dk_160 0 58 (dk_at dksX0_askedEnd_2 13 rfl rfl)
theorem dX0_askedEnd_61 : decode cX0_askedEnd 61 = .ok (.aload_n 0, 1) := dk_42 (dk_at dksX0_askedEnd_2 16 rfl rfl)
theorem dX0_askedEnd_62 : decode cX0_askedEnd 62 = .ok (.iconst 0, 1) := dk_3 (dk_at dksX0_askedEnd_2 17 rfl rfl)
theorem dX0_askedEnd_63 : decode cX0_askedEnd 63 = .ok (.sipush 2051, 3) := dk_17 8 3 (dk_at dksX0_askedEnd_2 18 rfl rfl)
theorem dX0_askedEnd_66 : decode cX0_askedEnd 66 = .ok (.invokevirtual 39, 3) := dk_182 0 39 (dk_at dksX0_askedEnd_2 21 rfl rfl)
theorem dX0_askedEnd_69 : decode cX0_askedEnd 69 = .ok (.ifCond .eq 47, 3) := dk_153 0 47 (dk_at dksX0_askedEnd_3 0 rfl rfl)
theorem dX0_askedEnd_72 : decode cX0_askedEnd 72 = .ok (.aload_n 0, 1) := dk_42 (dk_at dksX0_askedEnd_3 3 rfl rfl)
theorem dX0_askedEnd_73 : decode cX0_askedEnd 73 = .ok (.iconst 0, 1) := dk_3 (dk_at dksX0_askedEnd_3 4 rfl rfl)
theorem dX0_askedEnd_74 : decode cX0_askedEnd 74 = .ok (.sipush 2052, 3) := dk_17 8 4 (dk_at dksX0_askedEnd_3 5 rfl rfl)
theorem dX0_askedEnd_77 : decode cX0_askedEnd 77 = .ok (.invokevirtual 39, 3) := dk_182 0 39 (dk_at dksX0_askedEnd_3 8 rfl rfl)
theorem dX0_askedEnd_80 : decode cX0_askedEnd 80 = .ok (.ifCond .ne 36, 3) := dk_154 0 36 (dk_at dksX0_askedEnd_3 11 rfl rfl)
theorem dX0_askedEnd_83 : decode cX0_askedEnd 83 = .ok (.aload_n 0, 1) := dk_42 (dk_at dksX0_askedEnd_3 14 rfl rfl)
theorem dX0_askedEnd_84 : decode cX0_askedEnd 84 = .ok (.iconst 0, 1) := dk_3 (dk_at dksX0_askedEnd_3 15 rfl rfl)
theorem dX0_askedEnd_85 : decode cX0_askedEnd 85 = .ok (.sipush 4096, 3) := dk_17 16 0 (dk_at dksX0_askedEnd_3 16 rfl rfl)
theorem dX0_askedEnd_88 : decode cX0_askedEnd 88 = .ok (.invokevirtual 39, 3) := dk_182 0 39 (dk_at dksX0_askedEnd_3 19 rfl rfl)
theorem dX0_askedEnd_91 : decode cX0_askedEnd 91 = .ok (.ifCond .ne 25, 3) := dk_154 0 25 (dk_at dksX0_askedEnd_4 0 rfl rfl)
theorem dX0_askedEnd_94 : decode cX0_askedEnd 94 = .ok (.aload_n 0, 1) := dk_42 (dk_at dksX0_askedEnd_4 3 rfl rfl)
theorem dX0_askedEnd_95 : decode cX0_askedEnd 95 = .ok (.sipush 2052, 3) := dk_17 8 4 (dk_at dksX0_askedEnd_4 4 rfl rfl)
theorem dX0_askedEnd_98 : decode cX0_askedEnd 98 = .ok (.iconst 3, 1) := dk_6 (dk_at dksX0_askedEnd_4 7 rfl rfl)
theorem dX0_askedEnd_99 : decode cX0_askedEnd 99 = .ok (.invokevirtual 39, 3) := dk_182 0 39 (dk_at dksX0_askedEnd_4 8 rfl rfl)
theorem dX0_askedEnd_102 : decode cX0_askedEnd 102 = .ok (.ifCond .eq 14, 3) := dk_153 0 14 (dk_at dksX0_askedEnd_4 11 rfl rfl)
theorem dX0_askedEnd_105 : decode cX0_askedEnd 105 = .ok (.aload_n 0, 1) := dk_42 (dk_at dksX0_askedEnd_4 14 rfl rfl)
theorem dX0_askedEnd_106 : decode cX0_askedEnd 106 = .ok (.sipush 4096, 3) := dk_17 16 0 (dk_at dksX0_askedEnd_4 15 rfl rfl)
theorem dX0_askedEnd_109 : decode cX0_askedEnd 109 = .ok (.iconst 0, 1) := dk_3 (dk_at dksX0_askedEnd_4 18 rfl rfl)
theorem dX0_askedEnd_110 : decode cX0_askedEnd 110 = .ok (.invokevirtual 39, 3) := dk_182 0 39 (dk_at dksX0_askedEnd_4 19 rfl rfl)
theorem dX0_askedEnd_113 : decode cX0_askedEnd 113 = .ok (.ifCond .ne 5, 3) := dk_154 0 5 (dk_at dksX0_askedEnd_5 0 rfl rfl)
theorem dX0_askedEnd_116 : decode cX0_askedEnd 116 = .ok (.iconst 0, 1) := dk_3 (dk_at dksX0_askedEnd_5 3 rfl rfl)
theorem dX0_askedEnd_117 : decode cX0_askedEnd 117 = .ok (.ireturn, 1) := dk_172 (dk_at dksX0_askedEnd_5 4 rfl rfl)
theorem dX0_askedEnd_118 : decode cX0_askedEnd 118 = .ok (.aload_n 0, 1) := dk_42 (dk_at dksX0_askedEnd_5 5 rfl rfl)
theorem dX0_askedEnd_119 : decode cX0_askedEnd 119 = .ok (.sipush 4081, 3) := dk_17 15 241 (dk_at dksX0_askedEnd_5 6 rfl rfl)
theorem dX0_askedEnd_122 : decode cX0_askedEnd 122 = .ok (.invokevirtual 31, 3) := dk_182 0 31 (dk_at dksX0_askedEnd_5 9 rfl rfl)
theorem dX0_askedEnd_125 : decode cX0_askedEnd 125 = .ok (.aload_n 0, 1) := dk_42 (dk_at dksX0_askedEnd_5 12 rfl rfl)
theorem dX0_askedEnd_126 : decode cX0_askedEnd 126 = .ok (.invokevirtual 35, 3) := dk_182 0 35 (dk_at dksX0_askedEnd_5 13 rfl rfl)
theorem dX0_askedEnd_129 : decode cX0_askedEnd 129 = .ok (.sipush 4081, 3) := dk_17 15 241 (dk_at dksX0_askedEnd_5 16 rfl rfl)
theorem dX0_askedEnd_132 : decode cX0_askedEnd 132 = .ok (.if_icmp .ne 28, 3) := dk_160 0 28 (dk_at dksX0_askedEnd_5 19 rfl rfl)
theorem dX0_askedEnd_135 : decode cX0_askedEnd 135 = .ok (.aload_n 0, 1) := dk_42 (dk_at dksX0_askedEnd_5 22 rfl rfl)
theorem dX0_askedEnd_136 : decode cX0_askedEnd 136 = .ok (.bipush 65, 2) := dk_16 65 (dk_at dksX0_askedEnd_6 0 rfl rfl)
theorem dX0_askedEnd_138 : decode cX0_askedEnd 138 = .ok (.bipush 65, 2) := dk_16 65 (dk_at dksX0_askedEnd_6 2 rfl rfl)
theorem dX0_askedEnd_140 : decode cX0_askedEnd 140 = .ok (.bipush 65, 2) := dk_16 65 (dk_at dksX0_askedEnd_6 4 rfl rfl)
theorem dX0_askedEnd_142 : decode cX0_askedEnd 142 = .ok (.bipush 65, 2) := dk_16 65 (dk_at dksX0_askedEnd_6 6 rfl rfl)
theorem dX0_askedEnd_144 : decode cX0_askedEnd 144 = .ok (.invokevirtual 23, 3) := dk_182 0 23 (dk_at dksX0_askedEnd_6 8 rfl rfl)
theorem dX0_askedEnd_147 : decode cX0_askedEnd 147 = .ok (.ifCond .ne 13, 3) := dk_154 0 13 (dk_at dksX0_askedEnd_6 11 rfl rfl)
theorem dX0_askedEnd_150 : decode cX0_askedEnd 150 = .ok (.aload_n 0, 1) := dk_42 (dk_at dksX0_askedEnd_6 14 rfl rfl)
theorem dX0_askedEnd_151 : decode cX0_askedEnd 151 = .ok (.invokevirtual 35, 3) := dk_182 0 35 (dk_at dksX0_askedEnd_6 15 rfl rfl)
theorem dX0_askedEnd_154 : decode cX0_askedEnd 154 = .ok (.sipush 4081, 3) := dk_17 15 241 (dk_at dksX0_askedEnd_6 18 rfl rfl)
theorem dX0_askedEnd_157 : decode cX0_askedEnd 157 = .ok (.if_icmp .eq 5, 3) := dk_159 0 5 (dk_at dksX0_askedEnd_6 21 rfl rfl)
theorem dX0_askedEnd_160 : decode cX0_askedEnd 160 = .ok (.iconst 0, 1) := dk_3 (dk_at dksX0_askedEnd_7 0 rfl rfl)
theorem dX0_askedEnd_161 : decode cX0_askedEnd 161 = .ok (.ireturn, 1) := dk_172 (dk_at dksX0_askedEnd_7 1 rfl rfl)
theorem dX0_askedEnd_162 : decode cX0_askedEnd 162 = .ok (.aload_n 0, 1) := dk_42 (dk_at dksX0_askedEnd_7 2 rfl rfl)
theorem dX0_askedEnd_163 : decode cX0_askedEnd 163 = .ok (.sipush 4080, 3) := dk_17 15 240 (dk_at dksX0_askedEnd_7 3 rfl rfl)
theorem dX0_askedEnd_166 : decode cX0_askedEnd 166 = .ok (.invokevirtual 31, 3) := dk_182 0 31 (dk_at dksX0_askedEnd_7 6 rfl rfl)
theorem dX0_askedEnd_169 : decode cX0_askedEnd 169 = .ok (.aload_n 0, 1) := dk_42 (dk_at dksX0_askedEnd_7 9 rfl rfl)
theorem dX0_askedEnd_170 : decode cX0_askedEnd 170 = .ok (.ldc 72, 2) := dk_18 72 (dk_at dksX0_askedEnd_7 10 rfl rfl)
theorem dX0_askedEnd_172 : decode cX0_askedEnd 172 = .ok (.ldc 72, 2) := dk_18 72 (dk_at dksX0_askedEnd_7 12 rfl rfl)
theorem dX0_askedEnd_174 : decode cX0_askedEnd 174 = .ok (.ldc 72, 2) := dk_18 72 (dk_at dksX0_askedEnd_7 14 rfl rfl)
theorem dX0_askedEnd_176 : decode cX0_askedEnd 176 = .ok (.ldc 72, 2) := dk_18 72 (dk_at dksX0_askedEnd_7 16 rfl rfl)
theorem dX0_askedEnd_178 : decode cX0_askedEnd 178 = .ok (.invokevirtual 23, 3) := dk_182 0 23 (dk_at dksX0_askedEnd_7 18 rfl rfl)
theorem dX0_askedEnd_181 : decode cX0_askedEnd 181 = .ok (.ifCond .eq 13, 3) := dk_153 0 13 (dk_at dksX0_askedEnd_7 21 rfl rfl)
theorem dX0_askedEnd_184 : decode cX0_askedEnd 184 = .ok (.aload_n 0, 1) := dk_42 (dk_at dksX0_askedEnd_8 0 rfl rfl)
theorem dX0_askedEnd_185 : decode cX0_askedEnd 185 = .ok (.invokevirtual 35, 3) := dk_182 0 35 (dk_at dksX0_askedEnd_8 1 rfl rfl)
theorem dX0_askedEnd_188 : decode cX0_askedEnd 188 = .ok (.sipush 4096, 3) := dk_17 16 0 (dk_at dksX0_askedEnd_8 4 rfl rfl)
theorem dX0_askedEnd_191 : decode cX0_askedEnd 191 = .ok (.if_icmp .eq 5, 3) := dk_159 0 5 (dk_at dksX0_askedEnd_8 7 rfl rfl)
theorem dX0_askedEnd_194 : decode cX0_askedEnd 194 = .ok (.iconst 0, 1) := dk_3 (dk_at dksX0_askedEnd_8 10 rfl rfl)
theorem dX0_askedEnd_195 : decode cX0_askedEnd 195 = .ok (.ireturn, 1) := dk_172 (dk_at dksX0_askedEnd_8 11 rfl rfl)
theorem dX0_askedEnd_196 : decode cX0_askedEnd 196 = .ok (.iconst 0, 1) := dk_3 (dk_at dksX0_askedEnd_8 12 rfl rfl)
theorem dX0_askedEnd_197 : decode cX0_askedEnd 197 = .ok (.istore_n 1, 1) := dk_60 (dk_at dksX0_askedEnd_8 13 rfl rfl)
theorem dX0_askedEnd_198 : decode cX0_askedEnd 198 = .ok (.iload_n 1, 1) := dk_27 (dk_at dksX0_askedEnd_8 14 rfl rfl)
theorem dX0_askedEnd_199 : decode cX0_askedEnd 199 = .ok (.sipush 4096, 3) := dk_17 16 0 (dk_at dksX0_askedEnd_8 15 rfl rfl)
theorem dX0_askedEnd_202 : decode cX0_askedEnd 202 = .ok (.if_icmp .ge 16, 3) := dk_162 0 16 (dk_at dksX0_askedEnd_8 18 rfl rfl)
theorem dX0_askedEnd_205 : decode cX0_askedEnd 205 = .ok (.aload_n 0, 1) := dk_42 (dk_at dksX0_askedEnd_8 21 rfl rfl)
theorem dX0_askedEnd_206 : decode cX0_askedEnd 206 = .ok (.iload_n 1, 1) := dk_27 (dk_at dksX0_askedEnd_8 22 rfl rfl)
theorem dX0_askedEnd_207 : decode cX0_askedEnd 207 = .ok (.bipush 65, 2) := dk_16 65 (dk_at dksX0_askedEnd_9 0 rfl rfl)
theorem dX0_askedEnd_209 : decode cX0_askedEnd 209 = .ok (.invokevirtual 7, 3) := dk_182 0 7 (dk_at dksX0_askedEnd_9 2 rfl rfl)
theorem dX0_askedEnd_212 : decode cX0_askedEnd 212 = .ok (.iinc 1 1, 3) := dk_132 1 1 (dk_at dksX0_askedEnd_9 5 rfl rfl)
theorem dX0_askedEnd_215 : decode cX0_askedEnd 215 = .ok (.goto (-17), 3) := dk_167 255 239 (dk_at dksX0_askedEnd_9 8 rfl rfl)
theorem dX0_askedEnd_218 : decode cX0_askedEnd 218 = .ok (.aload_n 0, 1) := dk_42 (dk_at dksX0_askedEnd_9 11 rfl rfl)
theorem dX0_askedEnd_219 : decode cX0_askedEnd 219 = .ok (.iconst 0, 1) := dk_3 (dk_at dksX0_askedEnd_9 12 rfl rfl)
theorem dX0_askedEnd_220 : decode cX0_askedEnd 220 = .ok (.sipush 4096, 3) := dk_17 16 0 (dk_at dksX0_askedEnd_9 13 rfl rfl)
theorem dX0_askedEnd_223 : decode cX0_askedEnd 223 = .ok (.invokevirtual 39, 3) := dk_182 0 39 (dk_at dksX0_askedEnd_9 16 rfl rfl)
theorem dX0_askedEnd_226 : decode cX0_askedEnd 226 = .ok (.ifCond .ne 5, 3) := dk_154 0 5 (dk_at dksX0_askedEnd_9 19 rfl rfl)
theorem dX0_askedEnd_229 : decode cX0_askedEnd 229 = .ok (.iconst 0, 1) := dk_3 (dk_at dksX0_askedEnd_9 22 rfl rfl)
theorem dX0_askedEnd_230 : decode cX0_askedEnd 230 = .ok (.ireturn, 1) := dk_172 (dk_at dksX0_askedEnd_9 23 rfl rfl)
theorem dX0_askedEnd_231 : decode cX0_askedEnd 231 = .ok (.aload_n 0, 1) := dk_42 (dk_at dksX0_askedEnd_10 0 rfl rfl)
theorem dX0_askedEnd_232 : decode cX0_askedEnd 232 = .ok (.sipush 4093, 3) := dk_17 15 253 (dk_at dksX0_askedEnd_10 1 rfl rfl)
theorem dX0_askedEnd_235 : decode cX0_askedEnd 235 = .ok (.sipush 226, 3) := dk_17 0 226 (dk_at dksX0_askedEnd_10 4 rfl rfl)
theorem dX0_askedEnd_238 : decode cX0_askedEnd 238 = .ok (.invokevirtual 7, 3) := dk_182 0 7 (dk_at dksX0_askedEnd_10 7 rfl rfl)
theorem dX0_askedEnd_241 : decode cX0_askedEnd 241 = .ok (.aload_n 0, 1) := dk_42 (dk_at dksX0_askedEnd_10 10 rfl rfl)
theorem dX0_askedEnd_242 : decode cX0_askedEnd 242 = .ok (.sipush 4094, 3) := dk_17 15 254 (dk_at dksX0_askedEnd_10 11 rfl rfl)
theorem dX0_askedEnd_245 : decode cX0_askedEnd 245 = .ok (.sipush 130, 3) := dk_17 0 130 (dk_at dksX0_askedEnd_10 14 rfl rfl)
theorem dX0_askedEnd_248 : decode cX0_askedEnd 248 = .ok (.invokevirtual 7, 3) := dk_182 0 7 (dk_at dksX0_askedEnd_10 17 rfl rfl)
theorem dX0_askedEnd_251 : decode cX0_askedEnd 251 = .ok (.aload_n 0, 1) := dk_42 (dk_at dksX0_askedEnd_10 20 rfl rfl)
theorem dX0_askedEnd_252 : decode cX0_askedEnd 252 = .ok (.sipush 4095, 3) := dk_17 15 255 (dk_at dksX0_askedEnd_10 21 rfl rfl)
theorem dX0_askedEnd_255 : decode cX0_askedEnd 255 = .ok (.sipush 172, 3) := dk_17 0 172 (dk_at dksX0_askedEnd_11 0 rfl rfl)
theorem dX0_askedEnd_258 : decode cX0_askedEnd 258 = .ok (.invokevirtual 7, 3) := dk_182 0 7 (dk_at dksX0_askedEnd_11 3 rfl rfl)
theorem dX0_askedEnd_261 : decode cX0_askedEnd 261 = .ok (.aload_n 0, 1) := dk_42 (dk_at dksX0_askedEnd_11 6 rfl rfl)
theorem dX0_askedEnd_262 : decode cX0_askedEnd 262 = .ok (.iconst 0, 1) := dk_3 (dk_at dksX0_askedEnd_11 7 rfl rfl)
theorem dX0_askedEnd_263 : decode cX0_askedEnd 263 = .ok (.sipush 4096, 3) := dk_17 16 0 (dk_at dksX0_askedEnd_11 8 rfl rfl)
theorem dX0_askedEnd_266 : decode cX0_askedEnd 266 = .ok (.invokevirtual 39, 3) := dk_182 0 39 (dk_at dksX0_askedEnd_11 11 rfl rfl)
theorem dX0_askedEnd_269 : decode cX0_askedEnd 269 = .ok (.ifCond .eq 73, 3) := dk_153 0 73 (dk_at dksX0_askedEnd_11 14 rfl rfl)
theorem dX0_askedEnd_272 : decode cX0_askedEnd 272 = .ok (.aload_n 0, 1) := dk_42 (dk_at dksX0_askedEnd_11 17 rfl rfl)
theorem dX0_askedEnd_273 : decode cX0_askedEnd 273 = .ok (.sipush 4093, 3) := dk_17 15 253 (dk_at dksX0_askedEnd_11 18 rfl rfl)
theorem dX0_askedEnd_276 : decode cX0_askedEnd 276 = .ok (.iconst 3, 1) := dk_6 (dk_at dksX0_askedEnd_11 21 rfl rfl)
theorem dX0_askedEnd_277 : decode cX0_askedEnd 277 = .ok (.invokevirtual 39, 3) := dk_182 0 39 (dk_at dksX0_askedEnd_12 0 rfl rfl)
theorem dX0_askedEnd_280 : decode cX0_askedEnd 280 = .ok (.ifCond .eq 62, 3) := dk_153 0 62 (dk_at dksX0_askedEnd_12 3 rfl rfl)
theorem dX0_askedEnd_283 : decode cX0_askedEnd 283 = .ok (.aload_n 0, 1) := dk_42 (dk_at dksX0_askedEnd_12 6 rfl rfl)
theorem dX0_askedEnd_284 : decode cX0_askedEnd 284 = .ok (.iconst 0, 1) := dk_3 (dk_at dksX0_askedEnd_12 7 rfl rfl)
theorem dX0_askedEnd_285 : decode cX0_askedEnd 285 = .ok (.sipush 4095, 3) := dk_17 15 255 (dk_at dksX0_askedEnd_12 8 rfl rfl)
theorem dX0_askedEnd_288 : decode cX0_askedEnd 288 = .ok (.invokevirtual 39, 3) := dk_182 0 39 (dk_at dksX0_askedEnd_12 11 rfl rfl)
theorem dX0_askedEnd_291 : decode cX0_askedEnd 291 = .ok (.ifCond .ne 51, 3) := dk_154 0 51 (dk_at dksX0_askedEnd_12 14 rfl rfl)
theorem dX0_askedEnd_294 : decode cX0_askedEnd 294 = .ok (.aload_n 0, 1) := dk_42 (dk_at dksX0_askedEnd_12 17 rfl rfl)
theorem dX0_askedEnd_295 : decode cX0_askedEnd 295 = .ok (.iconst 0, 1) := dk_3 (dk_at dksX0_askedEnd_12 18 rfl rfl)
theorem dX0_askedEnd_296 : decode cX0_askedEnd 296 = .ok (.sipush 4094, 3) := dk_17 15 254 (dk_at dksX0_askedEnd_12 19 rfl rfl)
theorem dX0_askedEnd_299 : decode cX0_askedEnd 299 = .ok (.invokevirtual 39, 3) := dk_182 0 39 (dk_at dksX0_askedEnd_13 0 rfl rfl)
theorem dX0_askedEnd_302 : decode cX0_askedEnd 302 = .ok (.ifCond .ne 40, 3) := dk_154 0 40 (dk_at dksX0_askedEnd_13 3 rfl rfl)
theorem dX0_askedEnd_305 : decode cX0_askedEnd 305 = .ok (.aload_n 0, 1) := dk_42 (dk_at dksX0_askedEnd_13 6 rfl rfl)
theorem dX0_askedEnd_306 : decode cX0_askedEnd 306 = .ok (.iconst 0, 1) := dk_3 (dk_at dksX0_askedEnd_13 7 rfl rfl)
theorem dX0_askedEnd_307 : decode cX0_askedEnd 307 = .ok (.sipush 4093, 3) := dk_17 15 253 (dk_at dksX0_askedEnd_13 8 rfl rfl)
theorem dX0_askedEnd_310 : decode cX0_askedEnd 310 = .ok (.invokevirtual 39, 3) := dk_182 0 39 (dk_at dksX0_askedEnd_13 11 rfl rfl)
theorem dX0_askedEnd_313 : decode cX0_askedEnd 313 = .ok (.ifCond .eq 29, 3) := dk_153 0 29 (dk_at dksX0_askedEnd_13 14 rfl rfl)
theorem dX0_askedEnd_316 : decode cX0_askedEnd 316 = .ok (.aload_n 0, 1) := dk_42 (dk_at dksX0_askedEnd_13 17 rfl rfl)
theorem dX0_askedEnd_317 : decode cX0_askedEnd 317 = .ok (.sipush 4094, 3) := dk_17 15 254 (dk_at dksX0_askedEnd_13 18 rfl rfl)
theorem dX0_askedEnd_320 : decode cX0_askedEnd 320 = .ok (.iconst 2, 1) := dk_5 (dk_at dksX0_askedEnd_13 21 rfl rfl)
theorem dX0_askedEnd_321 : decode cX0_askedEnd 321 = .ok (.invokevirtual 39, 3) := dk_182 0 39 (dk_at dksX0_askedEnd_14 0 rfl rfl)
theorem dX0_askedEnd_324 : decode cX0_askedEnd 324 = .ok (.ifCond .ne 18, 3) := dk_154 0 18 (dk_at dksX0_askedEnd_14 3 rfl rfl)
theorem dX0_askedEnd_327 : decode cX0_askedEnd 327 = .ok (.aload_n 0, 1) := dk_42 (dk_at dksX0_askedEnd_14 6 rfl rfl)
theorem dX0_askedEnd_328 : decode cX0_askedEnd 328 = .ok (.sipush 4095, 3) := dk_17 15 255 (dk_at dksX0_askedEnd_14 7 rfl rfl)
theorem dX0_askedEnd_331 : decode cX0_askedEnd 331 = .ok (.iconst 1, 1) := dk_4 (dk_at dksX0_askedEnd_14 10 rfl rfl)
theorem dX0_askedEnd_332 : decode cX0_askedEnd 332 = .ok (.invokevirtual 39, 3) := dk_182 0 39 (dk_at dksX0_askedEnd_14 11 rfl rfl)
theorem dX0_askedEnd_335 : decode cX0_askedEnd 335 = .ok (.ifCond .ne 7, 3) := dk_154 0 7 (dk_at dksX0_askedEnd_14 14 rfl rfl)
theorem dX0_askedEnd_338 : decode cX0_askedEnd 338 = .ok (.iconst 1, 1) := dk_4 (dk_at dksX0_askedEnd_14 17 rfl rfl)
theorem dX0_askedEnd_339 : decode cX0_askedEnd 339 = .ok (.goto 4, 3) := dk_167 0 4 (dk_at dksX0_askedEnd_14 18 rfl rfl)
theorem dX0_askedEnd_342 : decode cX0_askedEnd 342 = .ok (.iconst 0, 1) := dk_3 (dk_at dksX0_askedEnd_14 21 rfl rfl)
theorem dX0_askedEnd_343 : decode cX0_askedEnd 343 = .ok (.ireturn, 1) := dk_172 (dk_at dksX0_askedEnd_14 22 rfl rfl)
abbrev cX0_askedEmpty : ByteArray := method_12_code
def yX0_askedEmpty : MethodName := ⟨RX0, "askedEmpty", "([I)Z"⟩
def dkwX0_askedEmpty_3 : List UInt8 := [184, 0, 62, 42, 4, 184, 0, 62, 182, 0, 39, 153, 0, 7, 4, 167, 0, 4, 3, 172]
abbrev dktX0_askedEmpty_3 : List UInt8 := dkwX0_askedEmpty_3 ++ []
def dkwX0_askedEmpty_2 : List UInt8 := [182, 0, 7, 43, 42, 5, 184, 0, 62, 182, 0, 31, 43, 182, 0, 35, 154, 0, 24, 43, 42, 3]
abbrev dktX0_askedEmpty_2 : List UInt8 := dkwX0_askedEmpty_2 ++ dktX0_askedEmpty_3
def dkwX0_askedEmpty_1 : List UInt8 := [184, 0, 62, 182, 0, 39, 154, 0, 5, 3, 172, 43, 42, 3, 184, 0, 62, 42, 4, 184, 0, 62]
abbrev dktX0_askedEmpty_1 : List UInt8 := dkwX0_askedEmpty_1 ++ dktX0_askedEmpty_2
def dkwX0_askedEmpty_0 : List UInt8 := [187, 0, 8, 89, 183, 0, 22, 76, 43, 182, 0, 35, 154, 0, 20, 43, 42, 4, 184, 0, 62, 42, 5]
abbrev dktX0_askedEmpty_0 : List UInt8 := dkwX0_askedEmpty_0 ++ dktX0_askedEmpty_1
theorem dksX0_askedEmpty_0 : cX0_askedEmpty.data.toList.drop 0 = dktX0_askedEmpty_0 := by decide +kernel
theorem dksX0_askedEmpty_1 : cX0_askedEmpty.data.toList.drop 23 = dktX0_askedEmpty_1 := dk_seg dksX0_askedEmpty_0 23 rfl rfl
theorem dksX0_askedEmpty_2 : cX0_askedEmpty.data.toList.drop 45 = dktX0_askedEmpty_2 := dk_seg dksX0_askedEmpty_1 22 rfl rfl
theorem dksX0_askedEmpty_3 : cX0_askedEmpty.data.toList.drop 67 = dktX0_askedEmpty_3 := dk_seg dksX0_askedEmpty_2 22 rfl rfl
theorem dX0_askedEmpty_0 : decode cX0_askedEmpty 0 = .ok (.new 8, 3) := dk_187 0 8 (dk_at dksX0_askedEmpty_0 0 rfl rfl)
theorem dX0_askedEmpty_3 : decode cX0_askedEmpty 3 = .ok (.dup, 1) := dk_89 (dk_at dksX0_askedEmpty_0 3 rfl rfl)
theorem dX0_askedEmpty_4 : decode cX0_askedEmpty 4 = .ok (.invokespecial 22, 3) := dk_183 0 22 (dk_at dksX0_askedEmpty_0 4 rfl rfl)
theorem dX0_askedEmpty_7 : decode cX0_askedEmpty 7 = .ok (.astore_n 1, 1) := dk_76 (dk_at dksX0_askedEmpty_0 7 rfl rfl)
theorem dX0_askedEmpty_8 : decode cX0_askedEmpty 8 = .ok (.aload_n 1, 1) := dk_43 (dk_at dksX0_askedEmpty_0 8 rfl rfl)
theorem dX0_askedEmpty_9 : decode cX0_askedEmpty 9 = .ok (.invokevirtual 35, 3) := dk_182 0 35 (dk_at dksX0_askedEmpty_0 9 rfl rfl)
theorem dX0_askedEmpty_12 : decode cX0_askedEmpty 12 = .ok (.ifCond .ne 20, 3) := dk_154 0 20 (dk_at dksX0_askedEmpty_0 12 rfl rfl)
theorem dX0_askedEmpty_15 : decode cX0_askedEmpty 15 = .ok (.aload_n 1, 1) := dk_43 (dk_at dksX0_askedEmpty_0 15 rfl rfl)
theorem dX0_askedEmpty_16 : decode cX0_askedEmpty 16 = .ok (.aload_n 0, 1) := dk_42 (dk_at dksX0_askedEmpty_0 16 rfl rfl)
theorem dX0_askedEmpty_17 : decode cX0_askedEmpty 17 = .ok (.iconst 1, 1) := dk_4 (dk_at dksX0_askedEmpty_0 17 rfl rfl)
theorem dX0_askedEmpty_18 : decode cX0_askedEmpty 18 = .ok (.invokestatic 62, 3) := dk_184 0 62 (dk_at dksX0_askedEmpty_0 18 rfl rfl)
theorem dX0_askedEmpty_21 : decode cX0_askedEmpty 21 = .ok (.aload_n 0, 1) := dk_42 (dk_at dksX0_askedEmpty_0 21 rfl rfl)
theorem dX0_askedEmpty_22 : decode cX0_askedEmpty 22 = .ok (.iconst 2, 1) := dk_5 (dk_at dksX0_askedEmpty_0 22 rfl rfl)
theorem dX0_askedEmpty_23 : decode cX0_askedEmpty 23 = .ok (.invokestatic 62, 3) := dk_184 0 62 (dk_at dksX0_askedEmpty_1 0 rfl rfl)
theorem dX0_askedEmpty_26 : decode cX0_askedEmpty 26 = .ok (.invokevirtual 39, 3) := dk_182 0 39 (dk_at dksX0_askedEmpty_1 3 rfl rfl)
theorem dX0_askedEmpty_29 : decode cX0_askedEmpty 29 = .ok (.ifCond .ne 5, 3) := dk_154 0 5 (dk_at dksX0_askedEmpty_1 6 rfl rfl)
theorem dX0_askedEmpty_32 : decode cX0_askedEmpty 32 = .ok (.iconst 0, 1) := dk_3 (dk_at dksX0_askedEmpty_1 9 rfl rfl)
theorem dX0_askedEmpty_33 : decode cX0_askedEmpty 33 = .ok (.ireturn, 1) := dk_172 (dk_at dksX0_askedEmpty_1 10 rfl rfl)
theorem dX0_askedEmpty_34 : decode cX0_askedEmpty 34 = .ok (.aload_n 1, 1) := dk_43 (dk_at dksX0_askedEmpty_1 11 rfl rfl)
theorem dX0_askedEmpty_35 : decode cX0_askedEmpty 35 = .ok (.aload_n 0, 1) := dk_42 (dk_at dksX0_askedEmpty_1 12 rfl rfl)
theorem dX0_askedEmpty_36 : decode cX0_askedEmpty 36 = .ok (.iconst 0, 1) := dk_3 (dk_at dksX0_askedEmpty_1 13 rfl rfl)
theorem dX0_askedEmpty_37 : decode cX0_askedEmpty 37 = .ok (.invokestatic 62, 3) := dk_184 0 62 (dk_at dksX0_askedEmpty_1 14 rfl rfl)
theorem dX0_askedEmpty_40 : decode cX0_askedEmpty 40 = .ok (.aload_n 0, 1) := dk_42 (dk_at dksX0_askedEmpty_1 17 rfl rfl)
theorem dX0_askedEmpty_41 : decode cX0_askedEmpty 41 = .ok (.iconst 1, 1) := dk_4 (dk_at dksX0_askedEmpty_1 18 rfl rfl)
theorem dX0_askedEmpty_42 : decode cX0_askedEmpty 42 = .ok (.invokestatic 62, 3) := dk_184 0 62 (dk_at dksX0_askedEmpty_1 19 rfl rfl)
theorem dX0_askedEmpty_45 : decode cX0_askedEmpty 45 = .ok (.invokevirtual 7, 3) := dk_182 0 7 (dk_at dksX0_askedEmpty_2 0 rfl rfl)
theorem dX0_askedEmpty_48 : decode cX0_askedEmpty 48 = .ok (.aload_n 1, 1) := dk_43 (dk_at dksX0_askedEmpty_2 3 rfl rfl)
theorem dX0_askedEmpty_49 : decode cX0_askedEmpty 49 = .ok (.aload_n 0, 1) := dk_42 (dk_at dksX0_askedEmpty_2 4 rfl rfl)
theorem dX0_askedEmpty_50 : decode cX0_askedEmpty 50 = .ok (.iconst 2, 1) := dk_5 (dk_at dksX0_askedEmpty_2 5 rfl rfl)
theorem dX0_askedEmpty_51 : decode cX0_askedEmpty 51 = .ok (.invokestatic 62, 3) := dk_184 0 62 (dk_at dksX0_askedEmpty_2 6 rfl rfl)
theorem dX0_askedEmpty_54 : decode cX0_askedEmpty 54 = .ok (.invokevirtual 31, 3) := dk_182 0 31 (dk_at dksX0_askedEmpty_2 9 rfl rfl)
theorem dX0_askedEmpty_57 : decode cX0_askedEmpty 57 = .ok (.aload_n 1, 1) := dk_43 (dk_at dksX0_askedEmpty_2 12 rfl rfl)
theorem dX0_askedEmpty_58 : decode cX0_askedEmpty 58 = .ok (.invokevirtual 35, 3) := dk_182 0 35 (dk_at dksX0_askedEmpty_2 13 rfl rfl)
theorem dX0_askedEmpty_61 : decode cX0_askedEmpty 61 = .ok (.ifCond .ne 24, 3) := dk_154 0 24 (dk_at dksX0_askedEmpty_2 16 rfl rfl)
theorem dX0_askedEmpty_64 : decode cX0_askedEmpty 64 = .ok (.aload_n 1, 1) := dk_43 (dk_at dksX0_askedEmpty_2 19 rfl rfl)
theorem dX0_askedEmpty_65 : decode cX0_askedEmpty 65 = .ok (.aload_n 0, 1) := dk_42 (dk_at dksX0_askedEmpty_2 20 rfl rfl)
theorem dX0_askedEmpty_66 : decode cX0_askedEmpty 66 = .ok (.iconst 0, 1) := dk_3 (dk_at dksX0_askedEmpty_2 21 rfl rfl)
theorem dX0_askedEmpty_67 : decode cX0_askedEmpty 67 = .ok (.invokestatic 62, 3) := dk_184 0 62 (dk_at dksX0_askedEmpty_3 0 rfl rfl)
theorem dX0_askedEmpty_70 : decode cX0_askedEmpty 70 = .ok (.aload_n 0, 1) := dk_42 (dk_at dksX0_askedEmpty_3 3 rfl rfl)
theorem dX0_askedEmpty_71 : decode cX0_askedEmpty 71 = .ok (.iconst 1, 1) := dk_4 (dk_at dksX0_askedEmpty_3 4 rfl rfl)
theorem dX0_askedEmpty_72 : decode cX0_askedEmpty 72 = .ok (.invokestatic 62, 3) := dk_184 0 62 (dk_at dksX0_askedEmpty_3 5 rfl rfl)
theorem dX0_askedEmpty_75 : decode cX0_askedEmpty 75 = .ok (.invokevirtual 39, 3) := dk_182 0 39 (dk_at dksX0_askedEmpty_3 8 rfl rfl)
theorem dX0_askedEmpty_78 : decode cX0_askedEmpty 78 = .ok (.ifCond .eq 7, 3) := dk_153 0 7 (dk_at dksX0_askedEmpty_3 11 rfl rfl)
theorem dX0_askedEmpty_81 : decode cX0_askedEmpty 81 = .ok (.iconst 1, 1) := dk_4 (dk_at dksX0_askedEmpty_3 14 rfl rfl)
theorem dX0_askedEmpty_82 : decode cX0_askedEmpty 82 = .ok (.goto 4, 3) := dk_167 0 4 (dk_at dksX0_askedEmpty_3 15 rfl rfl)
theorem dX0_askedEmpty_85 : decode cX0_askedEmpty 85 = .ok (.iconst 0, 1) := dk_3 (dk_at dksX0_askedEmpty_3 18 rfl rfl)
theorem dX0_askedEmpty_86 : decode cX0_askedEmpty 86 = .ok (.ireturn, 1) := dk_172 (dk_at dksX0_askedEmpty_3 19 rfl rfl)
theorem q4 : (Jvm.Cond.initialized "WireTextLaw") ∈ lw_all := lw_g (lw_at lw_m0 0 rfl) rfl
theorem q12 : (Jvm.Cond.methodLink "WireTextLaw" (73 : Nat) ({ cls := "WireTextLaw", name := "elder", desc := "([I)Z" } : Jvm.MethodName)) ∈ lw_all := lw_g (lw_at lw_m0 8 rfl) rfl
theorem q13 : (Jvm.Cond.static ({ cls := "WireTextLaw", name := "elder", desc := "([I)Z" } : Jvm.MethodName)) ∈ lw_all := lw_g (lw_at lw_m0 9 rfl) rfl
theorem q14 : (Jvm.Cond.code ({ cls := "WireTextLaw", name := "elder", desc := "([I)Z" } : Jvm.MethodName) method_6_code (12 : Nat) (Option.some Jvm.ClassFile.FieldType.boolean)) ∈ lw_all := lw_g (lw_at lw_m0 10 rfl) rfl
theorem q15 : (Jvm.Cond.classLink "WireTextLaw" (8 : Nat) "WireText") ∈ lw_all := lw_g (lw_at lw_m0 11 rfl) rfl
theorem q17 : (Jvm.Cond.methodLink "WireTextLaw" (22 : Nat) ({ cls := "WireText", name := "<init>", desc := "()V" } : Jvm.MethodName)) ∈ lw_all := lw_g (lw_at lw_m0 13 rfl) rfl
theorem q31 : (Jvm.Cond.methodLink "WireTextLaw" (23 : Nat) ({ cls := "WireText", name := "put", desc := "(IIII)Z" } : Jvm.MethodName)) ∈ lw_all := lw_g (lw_at lw_m0 27 rfl) rfl
theorem q39 : (Jvm.Cond.methodLink "WireTextLaw" (27 : Nat) ({ cls := "WireTextLaw", name := "lay", desc := "(LWireText;[III)I" } : Jvm.MethodName)) ∈ lw_all := lw_g (lw_at lw_m0 35 rfl) rfl
theorem q40 : (Jvm.Cond.static ({ cls := "WireTextLaw", name := "lay", desc := "(LWireText;[III)I" } : Jvm.MethodName)) ∈ lw_all := lw_g (lw_at lw_m0 36 rfl) rfl
theorem q41 : (Jvm.Cond.code ({ cls := "WireTextLaw", name := "lay", desc := "(LWireText;[III)I" } : Jvm.MethodName) method_4_code (5 : Nat) (Option.some Jvm.ClassFile.FieldType.int)) ∈ lw_all := lw_g (lw_at lw_m0 37 rfl) rfl
theorem q42 : (Jvm.Cond.methodLink "WireTextLaw" (13 : Nat) ({ cls := "WireTextLaw", name := "sign", desc := "(LWireText;[III)V" } : Jvm.MethodName)) ∈ lw_all := lw_g (lw_at lw_m0 38 rfl) rfl
theorem q43 : (Jvm.Cond.static ({ cls := "WireTextLaw", name := "sign", desc := "(LWireText;[III)V" } : Jvm.MethodName)) ∈ lw_all := lw_g (lw_at lw_m0 39 rfl) rfl
theorem q44 : (Jvm.Cond.code ({ cls := "WireTextLaw", name := "sign", desc := "(LWireText;[III)V" } : Jvm.MethodName) method_3_code (4 : Nat) (Option.none : Option Jvm.ClassFile.FieldType)) ∈ lw_all := lw_g (lw_at lw_m0 40 rfl) rfl
theorem q45 : (Jvm.Cond.methodLink "WireTextLaw" (7 : Nat) ({ cls := "WireText", name := "sign", desc := "(II)V" } : Jvm.MethodName)) ∈ lw_all := lw_g (lw_at lw_m0 41 rfl) rfl
theorem q50 : (Jvm.Cond.constant "WireTextLaw" (18 : Nat) (61440 : Int32)) ∈ lw_all := lw_g (lw_at lw_m0 46 rfl) rfl
theorem q51 : (Jvm.Cond.constant "WireTextLaw" (19 : Nat) (55296 : Int32)) ∈ lw_all := lw_g (lw_at lw_m0 47 rfl) rfl
theorem q52 : (Jvm.Cond.constant "WireTextLaw" (20 : Nat) (65536 : Int32)) ∈ lw_all := lw_g (lw_at lw_m0 48 rfl) rfl
theorem q53 : (Jvm.Cond.constant "WireTextLaw" (21 : Nat) (1048575 : Int32)) ∈ lw_all := lw_g (lw_at lw_m0 49 rfl) rfl
theorem q54 : (Jvm.Cond.methodLink "WireTextLaw" (31 : Nat) ({ cls := "WireText", name := "trim", desc := "(I)V" } : Jvm.MethodName)) ∈ lw_all := lw_g (lw_at lw_m0 50 rfl) rfl
theorem q62 : (Jvm.Cond.methodLink "WireTextLaw" (35 : Nat) ({ cls := "WireText", name := "size", desc := "()I" } : Jvm.MethodName)) ∈ lw_all := lw_g (lw_at lw_m0 58 rfl) rfl
theorem q66 : (Jvm.Cond.methodLink "WireTextLaw" (39 : Nat) ({ cls := "WireText", name := "fair", desc := "(II)Z" } : Jvm.MethodName)) ∈ lw_all := lw_g (lw_at lw_m0 62 rfl) rfl
theorem q150 : (Jvm.Cond.methodLink "WireTextLaw" (43 : Nat) ({ cls := "WireTextLaw", name := "cell", desc := "([II)I" } : Jvm.MethodName)) ∈ lw_all := lw_g (lw_at lw_m0 146 rfl) rfl
theorem q151 : (Jvm.Cond.static ({ cls := "WireTextLaw", name := "cell", desc := "([II)I" } : Jvm.MethodName)) ∈ lw_all := lw_g (lw_at lw_m0 147 rfl) rfl
theorem q152 : (Jvm.Cond.code ({ cls := "WireTextLaw", name := "cell", desc := "([II)I" } : Jvm.MethodName) method_2_code (2 : Nat) (Option.some Jvm.ClassFile.FieldType.int)) ∈ lw_all := lw_g (lw_at lw_m0 148 rfl) rfl
theorem q153 : (Jvm.Cond.constant "WireTextLaw" (47 : Nat) (2147483647 : Int32)) ∈ lw_all := lw_g (lw_at lw_m0 149 rfl) rfl
theorem q154 : (Jvm.Cond.methodLink "WireTextLaw" (48 : Nat) ({ cls := "WireTextLaw", name := "own", desc := "([III)Z" } : Jvm.MethodName)) ∈ lw_all := lw_g (lw_at lw_m0 150 rfl) rfl
theorem q155 : (Jvm.Cond.static ({ cls := "WireTextLaw", name := "own", desc := "([III)Z" } : Jvm.MethodName)) ∈ lw_all := lw_g (lw_at lw_m0 151 rfl) rfl
theorem q156 : (Jvm.Cond.code ({ cls := "WireTextLaw", name := "own", desc := "([III)Z" } : Jvm.MethodName) method_5_code (9 : Nat) (Option.some Jvm.ClassFile.FieldType.boolean)) ∈ lw_all := lw_g (lw_at lw_m0 152 rfl) rfl
theorem q157 : (Jvm.Cond.constant "WireTextLaw" (52 : Nat) (-1065353216 : Int32)) ∈ lw_all := lw_g (lw_at lw_m0 153 rfl) rfl
theorem q158 : (Jvm.Cond.constant "WireTextLaw" (53 : Nat) (-1044447232 : Int32)) ∈ lw_all := lw_g (lw_at lw_m0 154 rfl) rfl
theorem q159 : (Jvm.Cond.constant "WireTextLaw" (54 : Nat) (-526401792 : Int32)) ∈ lw_all := lw_g (lw_at lw_m0 155 rfl) rfl
theorem q160 : (Jvm.Cond.constant "WireTextLaw" (55 : Nat) (-308248576 : Int32)) ∈ lw_all := lw_g (lw_at lw_m0 156 rfl) rfl
theorem q161 : (Jvm.Cond.constant "WireTextLaw" (56 : Nat) (-306200832 : Int32)) ∈ lw_all := lw_g (lw_at lw_m0 157 rfl) rfl
theorem q162 : (Jvm.Cond.constant "WireTextLaw" (57 : Nat) (-259014721 : Int32)) ∈ lw_all := lw_g (lw_at lw_m0 158 rfl) rfl
theorem q163 : (Jvm.Cond.constant "WireTextLaw" (58 : Nat) (-191856512 : Int32)) ∈ lw_all := lw_g (lw_at lw_m0 159 rfl) rfl
theorem q164 : (Jvm.Cond.constant "WireTextLaw" (59 : Nat) (-176127872 : Int32)) ∈ lw_all := lw_g (lw_at lw_m0 160 rfl) rfl
theorem q165 : (Jvm.Cond.constant "WireTextLaw" (60 : Nat) (-2147483648 : Int32)) ∈ lw_all := lw_g (lw_at lw_m0 161 rfl) rfl
theorem q166 : (Jvm.Cond.constant "WireTextLaw" (61 : Nat) (-494796800 : Int32)) ∈ lw_all := lw_g (lw_at lw_m0 162 rfl) rfl
theorem q167 : (Jvm.Cond.methodLink "WireTextLaw" (77 : Nat) ({ cls := "WireTextLaw", name := "askedRaw", desc := "([I)Z" } : Jvm.MethodName)) ∈ lw_all := lw_g (lw_at lw_m0 163 rfl) rfl
theorem q168 : (Jvm.Cond.static ({ cls := "WireTextLaw", name := "askedRaw", desc := "([I)Z" } : Jvm.MethodName)) ∈ lw_all := lw_g (lw_at lw_m0 164 rfl) rfl
theorem q169 : (Jvm.Cond.code ({ cls := "WireTextLaw", name := "askedRaw", desc := "([I)Z" } : Jvm.MethodName) method_10_code (8 : Nat) (Option.some Jvm.ClassFile.FieldType.boolean)) ∈ lw_all := lw_g (lw_at lw_m0 165 rfl) rfl
theorem q170 : (Jvm.Cond.methodLink "WireTextLaw" (62 : Nat) ({ cls := "WireTextLaw", name := "askedCell", desc := "([II)I" } : Jvm.MethodName)) ∈ lw_all := lw_g (lw_at lw_m0 166 rfl) rfl
theorem q171 : (Jvm.Cond.static ({ cls := "WireTextLaw", name := "askedCell", desc := "([II)I" } : Jvm.MethodName)) ∈ lw_all := lw_g (lw_at lw_m0 167 rfl) rfl
theorem q172 : (Jvm.Cond.code ({ cls := "WireTextLaw", name := "askedCell", desc := "([II)I" } : Jvm.MethodName) method_7_code (2 : Nat) (Option.some Jvm.ClassFile.FieldType.int)) ∈ lw_all := lw_g (lw_at lw_m0 168 rfl) rfl
theorem q173 : (Jvm.Cond.methodLink "WireTextLaw" (65 : Nat) ({ cls := "WireTextLaw", name := "askedOctet", desc := "([III)I" } : Jvm.MethodName)) ∈ lw_all := lw_g (lw_at lw_m0 169 rfl) rfl
theorem q174 : (Jvm.Cond.static ({ cls := "WireTextLaw", name := "askedOctet", desc := "([III)I" } : Jvm.MethodName)) ∈ lw_all := lw_g (lw_at lw_m0 170 rfl) rfl
theorem q175 : (Jvm.Cond.code ({ cls := "WireTextLaw", name := "askedOctet", desc := "([III)I" } : Jvm.MethodName) method_9_code (3 : Nat) (Option.some Jvm.ClassFile.FieldType.int)) ∈ lw_all := lw_g (lw_at lw_m0 171 rfl) rfl
theorem q176 : (Jvm.Cond.methodLink "WireTextLaw" (69 : Nat) ({ cls := "WireTextLaw", name := "askedOwn", desc := "([III)Z" } : Jvm.MethodName)) ∈ lw_all := lw_g (lw_at lw_m0 172 rfl) rfl
theorem q177 : (Jvm.Cond.static ({ cls := "WireTextLaw", name := "askedOwn", desc := "([III)Z" } : Jvm.MethodName)) ∈ lw_all := lw_g (lw_at lw_m0 173 rfl) rfl
theorem q178 : (Jvm.Cond.code ({ cls := "WireTextLaw", name := "askedOwn", desc := "([III)Z" } : Jvm.MethodName) method_8_code (9 : Nat) (Option.some Jvm.ClassFile.FieldType.boolean)) ∈ lw_all := lw_g (lw_at lw_m0 174 rfl) rfl
theorem q179 : (Jvm.Cond.methodLink "WireTextLaw" (80 : Nat) ({ cls := "WireTextLaw", name := "askedEnd", desc := "()Z" } : Jvm.MethodName)) ∈ lw_all := lw_g (lw_at lw_m0 175 rfl) rfl
theorem q180 : (Jvm.Cond.static ({ cls := "WireTextLaw", name := "askedEnd", desc := "()Z" } : Jvm.MethodName)) ∈ lw_all := lw_g (lw_at lw_m0 176 rfl) rfl
theorem q181 : (Jvm.Cond.code ({ cls := "WireTextLaw", name := "askedEnd", desc := "()Z" } : Jvm.MethodName) method_11_code (2 : Nat) (Option.some Jvm.ClassFile.FieldType.boolean)) ∈ lw_all := lw_g (lw_at lw_m0 177 rfl) rfl
theorem q182 : (Jvm.Cond.constant "WireTextLaw" (72 : Nat) (1094795585 : Int32)) ∈ lw_all := lw_g (lw_at lw_m0 178 rfl) rfl
theorem q183 : (Jvm.Cond.methodLink "WireTextLaw" (84 : Nat) ({ cls := "WireTextLaw", name := "askedEmpty", desc := "([I)Z" } : Jvm.MethodName)) ∈ lw_all := lw_g (lw_at lw_m0 179 rfl) rfl
theorem q184 : (Jvm.Cond.static ({ cls := "WireTextLaw", name := "askedEmpty", desc := "([I)Z" } : Jvm.MethodName)) ∈ lw_all := lw_g (lw_at lw_m0 180 rfl) rfl
theorem q185 : (Jvm.Cond.code ({ cls := "WireTextLaw", name := "askedEmpty", desc := "([I)Z" } : Jvm.MethodName) method_12_code (2 : Nat) (Option.some Jvm.ClassFile.FieldType.boolean)) ∈ lw_all := lw_g (lw_at lw_m0 181 rfl) rfl
end
section
/-! THE PLAIN LAW, no machine in sight: ints as numbers, bytes, texts, Unicode's table 3-7 (gw_wf g i e: the bytes g i .. g (e - 1) are well formed) -/
def gw_un (x : Int32) : Nat := x.toBitVec.toNat
theorem gw_un_lt (x : Int32) : gw_un x < 4294967296 := x.toBitVec.isLt
theorem gw_un_nI {n : Nat} (h : n < 4294967296) : gw_un (nI n) = n := pk_tn h
theorem gw_nI_un (x : Int32) : nI (gw_un x) = x := Int32.toBitVec_inj.mp (by
  show BitVec.ofNat 32 x.toBitVec.toNat = x.toBitVec
  simp)
/-- an int without its sign bit -/
def gw_ms (x : Int32) : Nat := gw_un x % 2147483648
theorem gw_ms_lt (x : Int32) : gw_ms x < 2147483648 := Nat.mod_lt _ (by decide)
theorem gw_ms_nI {n : Nat} (h : n < 2147483648) : gw_ms (nI n) = n := by
  unfold gw_ms
  rw [gw_un_nI (by omega)]
  exact Nat.mod_eq_of_lt h
abbrev gw_G : Type := Nat → Fin 256
def gw_b8 (n : Nat) : Fin 256 := ⟨n % 256, Nat.mod_lt _ (by decide)⟩
def gw_bt (x : Int32) : Fin 256 := gw_b8 (gw_un x)
theorem gw_b8_val {n : Nat} (h : n < 256) : (gw_b8 n).val = n := Nat.mod_eq_of_lt h
theorem gw_bt_nI {n : Nat} (h : n < 4294967296) : gw_bt (nI n) = gw_b8 n := by
  unfold gw_bt
  rw [gw_un_nI h]
/-- a byte as the machine keeps it: a signed int -/
def gw_sb (b : Fin 256) : Int32 := (nI b.val).toInt8.toInt32
def gw_st (g : gw_G) (k : Nat) (v : Fin 256) : gw_G := fun j => if j = k then v else g j
theorem gw_st_self (g : gw_G) (k : Nat) (v : Fin 256) : gw_st g k v k = v := if_pos rfl
theorem gw_st_ne (g : gw_G) {k j : Nat} (v : Fin 256) (h : j ≠ k) : gw_st g k v j = g j := if_neg h
theorem gw_i2b (c : Int32) : c.toInt8.toInt32 = gw_sb (gw_bt c) := by
  refine congrArg Int8.toInt32 (Int8.toBitVec_inj.mp ?_)
  rw [Int32.toBitVec_toInt8, Int32.toBitVec_toInt8, BitVec.signExtend_eq_setWidth_of_le _ (by decide), BitVec.signExtend_eq_setWidth_of_le _ (by decide)]
  apply BitVec.eq_of_toNat_eq
  rw [BitVec.toNat_setWidth, BitVec.toNat_setWidth]
  have h1 : (nI (gw_bt c).val).toBitVec.toNat = (gw_bt c).val := pk_tn (Nat.lt_of_lt_of_le (gw_bt c).isLt (by decide))
  rw [h1]
  show gw_un c % 2 ^ 8 = gw_un c % 256 % 2 ^ 8
  omega
def gw_si (b : Fin 256) : Int := if b.val < 128 then (b.val : Int) else (b.val : Int) - 256
theorem gw_sbT : ∀ b : Fin 256, (gw_sb b).toInt = gw_si b := by decide +kernel
theorem gw_siC (b : Fin 256) : (b.val < 128 ∧ gw_si b = (b.val : Int)) ∨ (128 ≤ b.val ∧ gw_si b = (b.val : Int) - 256) := by
  unfold gw_si
  by_cases h : b.val < 128
  · exact Or.inl ⟨h, if_pos h⟩
  · exact Or.inr ⟨by omega, if_neg h⟩
theorem gw_nar8 (b : Fin 256) : vp_nar .byte (gw_sb b) = gw_sb b := pk_vb _
theorem gw_sb0 : gw_sb 0 = 0 := by decide
theorem gw_and255 (c : Int32) : c &&& nI 255 = nI (gw_bt c).val := pk_and c 8 (by decide)
theorem gw_andM (c : Int32) : c &&& 2147483647 = nI (gw_ms c) := pk_and c 31 (by decide)
def gw_tf (b : Bool) : Nat := if b then 1 else 0
theorem gw_tf_lt (b : Bool) : gw_tf b < 2 := by cases b <;> decide
theorem gw_tf_eq {a b : Bool} : gw_tf a = gw_tf b ↔ a = b := by cases a <;> cases b <;> decide
theorem gw_tfn (b : Bool) : narrow .boolean (.int (nI (gw_tf b))) = .int (nI (gw_tf b)) := by cases b <;> rfl
/-! table 3-7 -/
def gw_ln (b : Fin 256) : Nat := if b.val < 128 then 0 else if b.val < 194 then 9 else if b.val < 224 then 1 else if b.val < 240 then 2 else if b.val < 245 then 3 else 9
def gw_lo (b : Fin 256) (j : Nat) : Nat := if 1 < j then 128 else if b.val = 224 then 160 else if b.val = 240 then 144 else 128
def gw_hi (b : Fin 256) (j : Nat) : Nat := if 1 < j then 191 else if b.val = 237 then 159 else if b.val = 244 then 143 else 191
def gw_ok (g : gw_G) (i j : Nat) : Prop := gw_lo (g i) j ≤ (g (i + j)).val ∧ (g (i + j)).val ≤ gw_hi (g i) j
def gw_cs (g : gw_G) (i : Nat) : Nat → Bool
  | 0 => true
  | m + 1 => gw_cs g i m && (decide (gw_lo (g i) (m + 1) ≤ (g (i + (m + 1))).val) && decide ((g (i + (m + 1))).val ≤ gw_hi (g i) (m + 1)))
def gw_wF (g : gw_G) (e : Nat) : Nat → Nat → Bool
  | 0, _ => true
  | k + 1, i => if e ≤ i then true else if gw_ln (g i) = 9 ∨ e ≤ i + gw_ln (g i) then false else gw_cs g i (gw_ln (g i)) && gw_wF g e k (i + gw_ln (g i) + 1)
def gw_wf (g : gw_G) (i e : Nat) : Bool := gw_wF g e (e - i) i
theorem gw_cs_iff (g : gw_G) (i : Nat) : ∀ m : Nat, gw_cs g i m = true ↔ ∀ j, 1 ≤ j → j ≤ m → gw_ok g i j := by
  intro m
  induction m with
  | zero => exact ⟨fun _ j h1 h2 => absurd h2 (by omega), fun _ => rfl⟩
  | succ m ih =>
    simp only [gw_cs, Bool.and_eq_true, decide_eq_true_eq]
    rw [ih]
    constructor
    · intro h j h1 h2
      by_cases hj : j ≤ m
      · exact h.1 j h1 hj
      · have e : j = m + 1 := by omega
        subst e
        exact h.2
    · intro h
      exact ⟨fun j h1 h2 => h j h1 (by omega), h (m + 1) (by omega) (Nat.le_refl _)⟩
theorem gw_fuel (g : gw_G) (e : Nat) : ∀ (k k' i : Nat), e ≤ i + k → e ≤ i + k' → gw_wF g e k i = gw_wF g e k' i := by
  intro k
  induction k with
  | zero =>
    intro k' i h h'
    cases k' with
    | zero => rfl
    | succ k' =>
      simp only [gw_wF]
      rw [if_pos (show e ≤ i by omega)]
  | succ k ih =>
    intro k' i h h'
    cases k' with
    | zero =>
      simp only [gw_wF]
      rw [if_pos (show e ≤ i by omega)]
    | succ k' =>
      simp only [gw_wF]
      by_cases h0 : e ≤ i
      · rw [if_pos h0, if_pos h0]
      · rw [ih k' (i + gw_ln (g i) + 1) (by omega) (by omega)]
theorem gw_step (g : gw_G) (i e : Nat) : gw_wf g i e = if e ≤ i then true else if gw_ln (g i) = 9 ∨ e ≤ i + gw_ln (g i) then false else gw_cs g i (gw_ln (g i)) && gw_wf g (i + gw_ln (g i) + 1) e := by
  unfold gw_wf
  by_cases h : e ≤ i
  · rw [if_pos h, show e - i = 0 by omega]
    rfl
  · obtain ⟨k, hk⟩ : ∃ k, e - i = k + 1 := ⟨e - i - 1, by omega⟩
    rw [hk]
    simp only [gw_wF]
    rw [gw_fuel g e k (e - (i + gw_ln (g i) + 1)) (i + gw_ln (g i) + 1) (by omega) (by omega)]
theorem gw_end {g : gw_G} {i e : Nat} (h : e ≤ i) : gw_wf g i e = true := by rw [gw_step, if_pos h]
theorem gw_bad {g : gw_G} {i e : Nat} (h : i < e) (hb : gw_ln (g i) = 9 ∨ e ≤ i + gw_ln (g i)) : gw_wf g i e = false := by rw [gw_step, if_neg (Nat.not_le.mpr h), if_pos hb]
theorem gw_go {g : gw_G} {i e : Nat} (h : i < e) (hb : ¬ (gw_ln (g i) = 9 ∨ e ≤ i + gw_ln (g i))) : gw_wf g i e = (gw_cs g i (gw_ln (g i)) && gw_wf g (i + gw_ln (g i) + 1) e) := by rw [gw_step, if_neg (Nat.not_le.mpr h), if_neg hb]
/-- a whole letter of m more bytes -/
theorem gw_let {g : gw_G} {i e m : Nat} (hm : gw_ln (g i) = m) (h9 : m ≠ 9) (h : i + m < e) (hc : ∀ j, 1 ≤ j → j ≤ m → gw_ok g i j) : gw_wf g i e = gw_wf g (i + m + 1) e := by
  rw [gw_go (by omega) (by omega), hm, (gw_cs_iff g i m).mpr hc]
  rfl
/-- a byte that can't stand where it stands -/
theorem gw_no {g : gw_G} {i e m j : Nat} (hm : gw_ln (g i) = m) (h : i < e) (h1 : 1 ≤ j) (h2 : j ≤ m) (hc : ¬ gw_ok g i j) : gw_wf g i e = false := by
  by_cases hb : gw_ln (g i) = 9 ∨ e ≤ i + gw_ln (g i)
  · exact gw_bad h hb
  · rw [gw_go h hb, hm]
    cases hcs : gw_cs g i m with
    | false => rfl
    | true => exact absurd ((gw_cs_iff g i m).mp hcs j h1 h2) hc
theorem gw_ln0 {b : Fin 256} (h : b.val < 128) : gw_ln b = 0 := by unfold gw_ln; rw [if_pos h]
theorem gw_ln9 {b : Fin 256} (h : 128 ≤ b.val) (h2 : b.val < 194) : gw_ln b = 9 := by unfold gw_ln; rw [if_neg (by omega), if_pos h2]
theorem gw_ln1 {b : Fin 256} (h : 194 ≤ b.val) (h2 : b.val < 224) : gw_ln b = 1 := by unfold gw_ln; rw [if_neg (by omega), if_neg (by omega), if_pos h2]
theorem gw_ln2 {b : Fin 256} (h : 224 ≤ b.val) (h2 : b.val < 240) : gw_ln b = 2 := by unfold gw_ln; rw [if_neg (by omega), if_neg (by omega), if_neg (by omega), if_pos h2]
theorem gw_ln3 {b : Fin 256} (h : 240 ≤ b.val) (h2 : b.val < 245) : gw_ln b = 3 := by unfold gw_ln; rw [if_neg (by omega), if_neg (by omega), if_neg (by omega), if_neg (by omega), if_pos h2]
theorem gw_lnX {b : Fin 256} (h : 245 ≤ b.val) : gw_ln b = 9 := by unfold gw_ln; rw [if_neg (by omega), if_neg (by omega), if_neg (by omega), if_neg (by omega), if_neg (by omega)]
theorem gw_lo2 {b : Fin 256} {j : Nat} (h : 1 < j) : gw_lo b j = 128 := by unfold gw_lo; rw [if_pos h]
theorem gw_hi2 {b : Fin 256} {j : Nat} (h : 1 < j) : gw_hi b j = 191 := by unfold gw_hi; rw [if_pos h]
theorem gw_loC (b : Fin 256) : (b.val = 224 ∧ gw_lo b 1 = 160) ∨ (b.val = 240 ∧ gw_lo b 1 = 144) ∨ (b.val ≠ 224 ∧ b.val ≠ 240 ∧ gw_lo b 1 = 128) := by
  unfold gw_lo
  rw [if_neg (by decide)]
  by_cases h : b.val = 224
  · exact Or.inl ⟨h, if_pos h⟩
  · rw [if_neg h]
    by_cases h2 : b.val = 240
    · exact Or.inr (Or.inl ⟨h2, if_pos h2⟩)
    · exact Or.inr (Or.inr ⟨h, h2, if_neg h2⟩)
theorem gw_hiC (b : Fin 256) : (b.val = 237 ∧ gw_hi b 1 = 159) ∨ (b.val = 244 ∧ gw_hi b 1 = 143) ∨ (b.val ≠ 237 ∧ b.val ≠ 244 ∧ gw_hi b 1 = 191) := by
  unfold gw_hi
  rw [if_neg (by decide)]
  by_cases h : b.val = 237
  · exact Or.inl ⟨h, if_pos h⟩
  · rw [if_neg h]
    by_cases h2 : b.val = 244
    · exact Or.inr (Or.inl ⟨h2, if_pos h2⟩)
    · exact Or.inr (Or.inr ⟨h, h2, if_neg h2⟩)
theorem gw_asc {g : gw_G} {i e : Nat} (h : i < e) (hb : (g i).val < 128) : gw_wf g i e = gw_wf g (i + 1) e :=
  gw_let (m := 0) (gw_ln0 hb) (by decide) h (fun j h1 h2 => absurd h2 (by omega))
theorem gw_2f {g : gw_G} {i e : Nat} (hi : i < e) (h1 : 128 ≤ (g i).val) (h2 : (g i).val < 224) (h : e ≤ i + 1 ∨ (g i).val < 194 ∨ (g (i + 1)).val < 128 ∨ 191 < (g (i + 1)).val) : gw_wf g i e = false := by
  by_cases ha : (g i).val < 194
  · exact gw_bad hi (Or.inl (gw_ln9 h1 ha))
  · have hl := gw_ln1 (b := g i) (by omega) h2
    by_cases hx : e ≤ i + 1
    · exact gw_bad hi (Or.inr (by rw [hl]; exact hx))
    · refine gw_no (j := 1) hl hi (by decide) (by decide) (fun q => ?_)
      have ⟨q1, q2⟩ := q
      have c1 := gw_loC (g i)
      have c2 := gw_hiC (g i)
      omega
theorem gw_2t {g : gw_G} {i e : Nat} (hi : i + 1 < e) (h1 : 194 ≤ (g i).val) (h2 : (g i).val < 224) (h3 : 128 ≤ (g (i + 1)).val) (h4 : (g (i + 1)).val ≤ 191) : gw_wf g i e = gw_wf g (i + 2) e := by
  refine gw_let (m := 1) (gw_ln1 h1 h2) (by decide) hi (fun j a b => ?_)
  have ej : j = 1 := by omega
  subst ej
  have c1 := gw_loC (g i)
  have c2 := gw_hiC (g i)
  exact ⟨by omega, by omega⟩
theorem gw_3f {g : gw_G} {i e : Nat} (hi : i < e) (h1 : 224 ≤ (g i).val) (h2 : (g i).val < 240) (h : e ≤ i + 2 ∨ (g (i + 1)).val < 128 ∨ 191 < (g (i + 1)).val ∨ ((g i).val = 224 ∧ (g (i + 1)).val < 160) ∨ ((g i).val = 237 ∧ 159 < (g (i + 1)).val) ∨ (g (i + 2)).val < 128 ∨ 191 < (g (i + 2)).val) : gw_wf g i e = false := by
  have hl := gw_ln2 (b := g i) h1 h2
  by_cases hx : e ≤ i + 2
  · exact gw_bad hi (Or.inr (by rw [hl]; exact hx))
  · have c1 := gw_loC (g i)
    have c2 := gw_hiC (g i)
    by_cases hy : (g (i + 2)).val < 128 ∨ 191 < (g (i + 2)).val
    · refine gw_no (j := 2) hl hi (by decide) (by decide) (fun q => ?_)
      have ⟨q1, q2⟩ := q
      rw [gw_lo2 (by decide)] at q1
      rw [gw_hi2 (by decide)] at q2
      omega
    · refine gw_no (j := 1) hl hi (by decide) (by decide) (fun q => ?_)
      have ⟨q1, q2⟩ := q
      omega
theorem gw_3t {g : gw_G} {i e : Nat} (hi : i + 2 < e) (h1 : 224 ≤ (g i).val) (h2 : (g i).val < 240) (h3 : 128 ≤ (g (i + 1)).val) (h4 : (g (i + 1)).val ≤ 191) (h5 : (g i).val = 224 → 160 ≤ (g (i + 1)).val) (h6 : (g i).val = 237 → (g (i + 1)).val ≤ 159) (h7 : 128 ≤ (g (i + 2)).val) (h8 : (g (i + 2)).val ≤ 191) : gw_wf g i e = gw_wf g (i + 3) e := by
  refine gw_let (m := 2) (gw_ln2 h1 h2) (by decide) hi (fun j a b => ?_)
  have c1 := gw_loC (g i)
  have c2 := gw_hiC (g i)
  by_cases ej : j = 1
  · subst ej
    exact ⟨by omega, by omega⟩
  · have ej : j = 2 := by omega
    subst ej
    exact ⟨by rw [gw_lo2 (by decide)]; exact h7, by rw [gw_hi2 (by decide)]; exact h8⟩
theorem gw_4f {g : gw_G} {i e : Nat} (hi : i < e) (h1 : 240 ≤ (g i).val) (h : e ≤ i + 3 ∨ 245 ≤ (g i).val ∨ (g (i + 1)).val < 128 ∨ 191 < (g (i + 1)).val ∨ ((g i).val = 240 ∧ (g (i + 1)).val < 144) ∨ ((g i).val = 244 ∧ 143 < (g (i + 1)).val) ∨ (g (i + 2)).val < 128 ∨ 191 < (g (i + 2)).val ∨ (g (i + 3)).val < 128 ∨ 191 < (g (i + 3)).val) : gw_wf g i e = false := by
  by_cases ha : 245 ≤ (g i).val
  · exact gw_bad hi (Or.inl (gw_lnX ha))
  · have hl := gw_ln3 (b := g i) h1 (by omega)
    by_cases hx : e ≤ i + 3
    · exact gw_bad hi (Or.inr (by rw [hl]; exact hx))
    · have c1 := gw_loC (g i)
      have c2 := gw_hiC (g i)
      by_cases hy : (g (i + 2)).val < 128 ∨ 191 < (g (i + 2)).val
      · refine gw_no (j := 2) hl hi (by decide) (by decide) (fun q => ?_)
        have ⟨q1, q2⟩ := q
        rw [gw_lo2 (by decide)] at q1
        rw [gw_hi2 (by decide)] at q2
        omega
      · by_cases hz : (g (i + 3)).val < 128 ∨ 191 < (g (i + 3)).val
        · refine gw_no (j := 3) hl hi (by decide) (by decide) (fun q => ?_)
          have ⟨q1, q2⟩ := q
          rw [gw_lo2 (by decide)] at q1
          rw [gw_hi2 (by decide)] at q2
          omega
        · refine gw_no (j := 1) hl hi (by decide) (by decide) (fun q => ?_)
          have ⟨q1, q2⟩ := q
          omega
theorem gw_4t {g : gw_G} {i e : Nat} (hi : i + 3 < e) (h1 : 240 ≤ (g i).val) (h2 : (g i).val < 245) (h3 : 128 ≤ (g (i + 1)).val) (h4 : (g (i + 1)).val ≤ 191) (h5 : (g i).val = 240 → 144 ≤ (g (i + 1)).val) (h6 : (g i).val = 244 → (g (i + 1)).val ≤ 143) (h7 : 128 ≤ (g (i + 2)).val) (h8 : (g (i + 2)).val ≤ 191) (h9 : 128 ≤ (g (i + 3)).val) (h10 : (g (i + 3)).val ≤ 191) : gw_wf g i e = gw_wf g (i + 4) e := by
  refine gw_let (m := 3) (gw_ln3 h1 h2) (by decide) hi (fun j a b => ?_)
  have c1 := gw_loC (g i)
  have c2 := gw_hiC (g i)
  by_cases ej : j = 1
  · subst ej
    exact ⟨by omega, by omega⟩
  · by_cases ej2 : j = 2
    · subst ej2
      exact ⟨by rw [gw_lo2 (by decide)]; exact h7, by rw [gw_hi2 (by decide)]; exact h8⟩
    · have ej : j = 3 := by omega
      subst ej
      exact ⟨by rw [gw_lo2 (by decide)]; exact h9, by rw [gw_hi2 (by decide)]; exact h10⟩
/-- Guava's test of a four bytes' letter's first two -/
theorem gw_g4d : ∀ x, x < 16 → ∀ y, y < 64 → (((((nI (240 + x)).toInt8.toInt32 <<< (nI 28 &&& 31)) + ((nI (128 + y)).toInt8.toInt32 - (-112))) >>> (nI 30 &&& 31) = 0) ↔ (x < 5 ∧ (x = 0 → 16 ≤ y) ∧ (x = 4 → y < 16))) := by decide +kernel
theorem gw_g4 (b c : Fin 256) (hb : 240 ≤ b.val) (h1 : 128 ≤ c.val) (h2 : c.val ≤ 191) : (((gw_sb b <<< (nI 28 &&& 31)) + (gw_sb c - (-112))) >>> (nI 30 &&& 31) = 0) ↔ (b.val < 245 ∧ (b.val = 240 → 144 ≤ c.val) ∧ (b.val = 244 → c.val ≤ 143)) := by
  have hb2 := b.isLt
  have h := gw_g4d (b.val - 240) (by omega) (c.val - 128) (by omega)
  rw [show 240 + (b.val - 240) = b.val by omega, show 128 + (c.val - 128) = c.val by omega] at h
  unfold gw_sb
  rw [h]
  omega
theorem gw_cs_congr {g g' : gw_G} {i : Nat} (h0 : g i = g' i) : ∀ m : Nat, (∀ j, 1 ≤ j → j ≤ m → g (i + j) = g' (i + j)) → gw_cs g i m = gw_cs g' i m := by
  intro m
  induction m with
  | zero => intro _; rfl
  | succ m ih =>
    intro h
    simp only [gw_cs]
    rw [ih (fun j a b => h j a (by omega)), h (m + 1) (by omega) (Nat.le_refl _), h0]
theorem gw_congr {g g' : gw_G} : ∀ (n i e : Nat), e ≤ i + n → (∀ j, i ≤ j → j < e → g j = g' j) → gw_wf g i e = gw_wf g' i e := by
  intro n
  induction n with
  | zero => intro i e h _; rw [gw_end (show e ≤ i from h), gw_end (show e ≤ i from h)]
  | succ n ih =>
    intro i e h hg
    by_cases h0 : e ≤ i
    · rw [gw_end h0, gw_end h0]
    · have hi := hg i (Nat.le_refl _) (by omega)
      rw [gw_step g i e, gw_step g' i e, if_neg h0, if_neg h0, ← hi]
      by_cases hc : gw_ln (g i) = 9 ∨ e ≤ i + gw_ln (g i)
      · rw [if_pos hc, if_pos hc]
      · rw [if_neg hc, if_neg hc, gw_cs_congr hi _ (fun j a b => hg (i + j) (by omega) (by omega)), ih (i + gw_ln (g i) + 1) e (by omega) (fun j a b => hg j (by omega) b)]
theorem gw_cong {g g' : gw_G} {i e : Nat} (h : ∀ j, j < e → g j = g' j) : gw_wf g i e = gw_wf g' i e := gw_congr e i e (by omega) (fun j _ b => h j b)
theorem gw_split {g : gw_G} : ∀ (n a b e : Nat), b ≤ a + n → a ≤ b → b ≤ e → gw_wf g a b = true → gw_wf g a e = gw_wf g b e := by
  intro n
  induction n with
  | zero =>
    intro a b e h1 h2 _ _
    rw [show a = b by omega]
  | succ n ih =>
    intro a b e h1 h2 h3 h
    by_cases hab : a = b
    · rw [hab]
    · have hlt : a < b := by omega
      have hm : ¬ (gw_ln (g a) = 9 ∨ b ≤ a + gw_ln (g a)) := fun hb => by
        rw [gw_bad hlt hb] at h
        cases h
      rw [gw_go hlt hm, Bool.and_eq_true] at h
      rw [gw_go (show a < e by omega) (by omega), h.1, Bool.true_and]
      exact ih (a + gw_ln (g a) + 1) b e (by omega) (by omega) h3 h.2
theorem gw_ascs {g : gw_G} : ∀ (n i k e : Nat), k ≤ i + n → i ≤ k → k ≤ e → (∀ j, i ≤ j → j < k → (g j).val < 128) → gw_wf g i e = gw_wf g k e := by
  intro n
  induction n with
  | zero =>
    intro i k e h1 h2 _ _
    rw [show i = k by omega]
  | succ n ih =>
    intro i k e h1 h2 h3 h
    by_cases hik : i = k
    · rw [hik]
    · rw [gw_asc (show i < e by omega) (h i (Nat.le_refl _) (by omega))]
      exact ih (i + 1) k e (by omega) (by omega) h3 (fun j a b => h j (by omega) b)
/-- what 'fair' answers, of a text g of n bytes -/
def gw_fr (g : gw_G) (n a b : Nat) : Bool := gw_wf g (a % (n + 1)) (a % (n + 1) + b % (n - a % (n + 1) + 1))
theorem gw_fr_in {g : gw_G} {n a b : Nat} (ha : a ≤ n) (hb : b ≤ n - a) : gw_fr g n a b = gw_wf g a (a + b) := by
  unfold gw_fr
  rw [Nat.mod_eq_of_lt (show a < n + 1 by omega), Nat.mod_eq_of_lt (show b < n - a + 1 by omega)]
theorem gw_fr0 (g : gw_G) (a b : Nat) : gw_fr g 0 a b = true := by
  unfold gw_fr
  have h1 : a % (0 + 1) = 0 := by omega
  rw [h1]
  have h2 : b % (0 - 0 + 1) = 0 := by omega
  rw [h2]
  exact gw_end (Nat.le_refl _)
/-! a word's four bytes -/
def gw_oc (w : Int32) (r : Nat) : Fin 256 := gw_bt (w >>> (nI (24 - 8 * r) &&& 31))
theorem gw_oc3 (w : Int32) : gw_oc w 3 = gw_bt w := congrArg gw_bt (sb_shr0 w)
def gw_wd (g : gw_G) (a : Nat) (w : Int32) : gw_G := gw_st (gw_st (gw_st (gw_st g a (gw_oc w 0)) (a + 1) (gw_oc w 1)) (a + 2) (gw_oc w 2)) (a + 3) (gw_oc w 3)
theorem gw_wd_at (g : gw_G) (a : Nat) (w : Int32) (j : Nat) : gw_wd g a w j = if a ≤ j ∧ j < a + 4 then gw_oc w (j - a) else g j := by
  unfold gw_wd gw_st
  by_cases h3 : j = a + 3
  · rw [if_pos h3, if_pos (by omega), show j - a = 3 by omega]
  · rw [if_neg h3]
    by_cases h2 : j = a + 2
    · rw [if_pos h2, if_pos (by omega), show j - a = 2 by omega]
    · rw [if_neg h2]
      by_cases h1 : j = a + 1
      · rw [if_pos h1, if_pos (by omega), show j - a = 1 by omega]
      · rw [if_neg h1]
        by_cases h0 : j = a
        · rw [if_pos h0, if_pos (by omega), show j - a = 0 by omega]
        · rw [if_neg h0, if_neg (by omega)]
def gw_pf (g : gw_G) (n : Nat) (a b c d : Int32) : gw_G := gw_wd (gw_wd (gw_wd (gw_wd g n a) (n + 4) b) (n + 8) c) (n + 12) d
theorem gw_pf_in (g : gw_G) (n : Nat) (f : Nat → Int32) {i : Nat} (hi : i < 16) : gw_pf g n (f 0) (f 1) (f 2) (f 3) (n + i) = gw_oc (f (i / 4)) (i % 4) := by
  unfold gw_pf
  simp only [gw_wd_at]
  by_cases h3 : 12 ≤ i
  · rw [if_pos (by omega), show n + i - (n + 12) = i % 4 by omega, show i / 4 = 3 by omega]
  · rw [if_neg (by omega)]
    by_cases h2 : 8 ≤ i
    · rw [if_pos (by omega), show n + i - (n + 8) = i % 4 by omega, show i / 4 = 2 by omega]
    · rw [if_neg (by omega)]
      by_cases h1 : 4 ≤ i
      · rw [if_pos (by omega), show n + i - (n + 4) = i % 4 by omega, show i / 4 = 1 by omega]
      · rw [if_neg (by omega), if_pos (by omega), show n + i - n = i % 4 by omega, show i / 4 = 0 by omega]
theorem gw_pf_out (g : gw_G) (n : Nat) (a b c d : Int32) {j : Nat} (h : j < n ∨ n + 16 ≤ j) : gw_pf g n a b c d j = g j := by
  unfold gw_pf
  simp only [gw_wd_at]
  rw [if_neg (by omega), if_neg (by omega), if_neg (by omega), if_neg (by omega)]
/-! the text of askedEnd: words 0 .. i - 1, each four times -/
def gw_E (i : Nat) : gw_G := fun j => if j < 16 * i ∧ j % 4 = 3 then gw_b8 (j / 16) else 0
theorem gw_oc_small {i : Nat} (hi : i < 256) : ∀ r, r < 4 → gw_oc (nI i) r = if r = 3 then gw_b8 i else 0 :=
  (by decide +kernel : ∀ i, i < 256 → ∀ r, r < 4 → gw_oc (nI i) r = if r = 3 then gw_b8 i else 0) i hi
theorem gw_E_put {i : Nat} (hi : i < 256) : gw_pf (gw_E i) (16 * i) (nI i) (nI i) (nI i) (nI i) = gw_E (i + 1) := by
  funext j
  by_cases h : j < 16 * i ∨ 16 * i + 16 ≤ j
  · rw [gw_pf_out _ _ _ _ _ _ h]
    unfold gw_E
    by_cases h1 : j < 16 * i ∧ j % 4 = 3
    · rw [if_pos h1, if_pos (by omega)]
    · rw [if_neg h1, if_neg (by omega)]
  · obtain ⟨t, ht, rfl⟩ : ∃ t, t < 16 ∧ j = 16 * i + t := ⟨j - 16 * i, by omega, by omega⟩
    rw [gw_pf_in (gw_E i) (16 * i) (fun _ => nI i) ht, gw_oc_small hi _ (by omega)]
    unfold gw_E
    by_cases h1 : t % 4 = 3
    · rw [if_pos h1, if_pos (by omega), show (16 * i + t) / 16 = i by omega]
    · rw [if_neg h1, if_neg (by omega)]
theorem gw_E0 : gw_E 0 = fun _ => 0 := by
  funext j
  unfold gw_E
  rw [if_neg (by omega)]
/-! a letter out of an int -/
def gw_ll (c : Int32) : Nat := gw_un c % 4 + 1
def gw_v3 (u : Nat) : Nat := if 2048 + u / 4 % 61440 < 55296 then 2048 + u / 4 % 61440 else 2048 + u / 4 % 61440 + 2048
def gw_l1 (g : gw_G) (n u : Nat) : gw_G := gw_st g n (gw_b8 (u / 4 % 128))
def gw_l2 (g : gw_G) (n v : Nat) : gw_G := gw_st (gw_st g n (gw_b8 (192 + v / 64))) (n + 1) (gw_b8 (128 + v % 64))
def gw_l3 (g : gw_G) (n v : Nat) : gw_G := gw_st (gw_st (gw_st g n (gw_b8 (224 + v / 4096))) (n + 1) (gw_b8 (128 + v / 64 % 64))) (n + 2) (gw_b8 (128 + v % 64))
def gw_l4 (g : gw_G) (n v : Nat) : gw_G := gw_st (gw_st (gw_st (gw_st g n (gw_b8 (240 + v / 262144))) (n + 1) (gw_b8 (128 + v / 4096 % 64))) (n + 2) (gw_b8 (128 + v / 64 % 64))) (n + 3) (gw_b8 (128 + v % 64))
def gw_ly (g : gw_G) (n : Nat) (c : Int32) : gw_G :=
  if gw_un c % 4 = 0 then gw_l1 g n (gw_un c) else if gw_un c % 4 = 1 then gw_l2 g n (128 + gw_un c / 4 % 1920) else if gw_un c % 4 = 2 then gw_l3 g n (gw_v3 (gw_un c)) else gw_l4 g n (65536 + gw_un c / 4 % 1048576)
theorem gw_v3_in (u : Nat) : (2048 ≤ gw_v3 u ∧ gw_v3 u < 55296) ∨ (57344 ≤ gw_v3 u ∧ gw_v3 u < 65536) := by
  unfold gw_v3
  by_cases h : 2048 + u / 4 % 61440 < 55296
  · rw [if_pos h]
    omega
  · rw [if_neg h]
    omega
theorem gw_ly_out (g : gw_G) (n : Nat) (c : Int32) {j : Nat} (h : j < n ∨ n + gw_ll c ≤ j) : gw_ly g n c j = g j := by
  unfold gw_ll at h
  unfold gw_ly
  have h4 : gw_un c % 4 < 4 := Nat.mod_lt _ (by decide)
  by_cases h0 : gw_un c % 4 = 0
  · rw [if_pos h0]
    unfold gw_l1 gw_st
    rw [if_neg (by omega)]
  · rw [if_neg h0]
    by_cases h1 : gw_un c % 4 = 1
    · rw [if_pos h1]
      unfold gw_l2 gw_st
      rw [if_neg (by omega), if_neg (by omega)]
    · rw [if_neg h1]
      by_cases h2 : gw_un c % 4 = 2
      · rw [if_pos h2]
        unfold gw_l3 gw_st
        rw [if_neg (by omega), if_neg (by omega), if_neg (by omega)]
      · rw [if_neg h2]
        unfold gw_l4 gw_st
        rw [if_neg (by omega), if_neg (by omega), if_neg (by omega), if_neg (by omega)]
theorem gw_ly_fit (g : gw_G) (n : Nat) (c : Int32) : gw_ln (gw_ly g n c n) = gw_un c % 4 ∧ gw_wf (gw_ly g n c) n (n + gw_ll c) = true := by
  unfold gw_ll gw_ly
  have h4 : gw_un c % 4 < 4 := Nat.mod_lt _ (by decide)
  by_cases h0 : gw_un c % 4 = 0
  · rw [if_pos h0, h0]
    have e0 : gw_l1 g n (gw_un c) n = gw_b8 (gw_un c / 4 % 128) := if_pos rfl
    have v0 : (gw_l1 g n (gw_un c) n).val < 128 := by rw [e0, gw_b8_val (by omega)]; omega
    refine ⟨gw_ln0 v0, ?_⟩
    rw [gw_asc (by omega) v0]
    exact gw_end (Nat.le_refl _)
  · rw [if_neg h0]
    by_cases h1 : gw_un c % 4 = 1
    · rw [if_pos h1, h1]
      generalize hv : 128 + gw_un c / 4 % 1920 = v
      have hv2 : 128 ≤ v ∧ v < 2048 := by omega
      have e0 : (gw_l2 g n v n).val = 192 + v / 64 := by
        unfold gw_l2 gw_st
        rw [if_neg (by omega), if_pos rfl, gw_b8_val (by omega)]
      have e1 : (gw_l2 g n v (n + 1)).val = 128 + v % 64 := by
        unfold gw_l2 gw_st
        rw [if_pos rfl, gw_b8_val (by omega)]
      refine ⟨gw_ln1 (by omega) (by omega), ?_⟩
      rw [gw_2t (by omega) (by omega) (by omega) (by omega) (by omega)]
      exact gw_end (Nat.le_refl _)
    · rw [if_neg h1]
      by_cases h2 : gw_un c % 4 = 2
      · rw [if_pos h2, h2]
        have hv := gw_v3_in (gw_un c)
        generalize gw_v3 (gw_un c) = v at hv ⊢
        have e0 : (gw_l3 g n v n).val = 224 + v / 4096 := by
          unfold gw_l3 gw_st
          rw [if_neg (by omega), if_neg (by omega), if_pos rfl, gw_b8_val (by omega)]
        have e1 : (gw_l3 g n v (n + 1)).val = 128 + v / 64 % 64 := by
          unfold gw_l3 gw_st
          rw [if_neg (by omega), if_pos rfl, gw_b8_val (by omega)]
        have e2 : (gw_l3 g n v (n + 2)).val = 128 + v % 64 := by
          unfold gw_l3 gw_st
          rw [if_pos rfl, gw_b8_val (by omega)]
        refine ⟨gw_ln2 (by omega) (by omega), ?_⟩
        rw [gw_3t (by omega) (by omega) (by omega) (by omega) (by omega) (by omega) (by omega) (by omega) (by omega)]
        exact gw_end (Nat.le_refl _)
      · have h3 : gw_un c % 4 = 3 := by omega
        rw [if_neg h2, h3]
        generalize hv : 65536 + gw_un c / 4 % 1048576 = v
        have hv2 : 65536 ≤ v ∧ v < 1114112 := by omega
        have e0 : (gw_l4 g n v n).val = 240 + v / 262144 := by
          unfold gw_l4 gw_st
          rw [if_neg (by omega), if_neg (by omega), if_neg (by omega), if_pos rfl, gw_b8_val (by omega)]
        have e1 : (gw_l4 g n v (n + 1)).val = 128 + v / 4096 % 64 := by
          unfold gw_l4 gw_st
          rw [if_neg (by omega), if_neg (by omega), if_pos rfl, gw_b8_val (by omega)]
        have e2 : (gw_l4 g n v (n + 2)).val = 128 + v / 64 % 64 := by
          unfold gw_l4 gw_st
          rw [if_neg (by omega), if_pos rfl, gw_b8_val (by omega)]
        have e3 : (gw_l4 g n v (n + 3)).val = 128 + v % 64 := by
          unfold gw_l4 gw_st
          rw [if_pos rfl, gw_b8_val (by omega)]
        refine ⟨gw_ln3 (by omega) (by omega), ?_⟩
        rw [gw_4t (by omega) (by omega) (by omega) (by omega) (by omega) (by omega) (by omega) (by omega) (by omega) (by omega) (by omega)]
        exact gw_end (Nat.le_refl _)
theorem gw_ly_old {g : gw_G} {n i : Nat} {c : Int32} (h : i ≤ n) : gw_wf (gw_ly g n c) 0 i = gw_wf g 0 i := gw_cong (fun j hj => gw_ly_out g n c (Or.inl (by omega)))
theorem gw_ly_mid {g : gw_G} {n i : Nat} {c : Int32} (hw : gw_wf g 0 n = true) (h1 : n < i) (h2 : i < n + gw_ll c) : gw_wf (gw_ly g n c) 0 i = false := by
  rw [gw_split n 0 n i (by omega) (Nat.zero_le _) (by omega) (by rw [gw_ly_old (Nat.le_refl _)]; exact hw)]
  have h3 := (gw_ly_fit g n c).1
  unfold gw_ll at h2
  exact gw_bad h1 (Or.inr (by omega))
theorem gw_ly_new {g : gw_G} {n : Nat} {c : Int32} (hw : gw_wf g 0 n = true) : gw_wf (gw_ly g n c) 0 (n + gw_ll c) = true := by
  rw [gw_split n 0 n (n + gw_ll c) (by omega) (Nat.zero_le _) (by omega) (by rw [gw_ly_old (Nat.le_refl _)]; exact hw)]
  exact (gw_ly_fit g n c).2
/-- which beginnings end where a letter ends -/
def gw_ed (g : gw_G) (n : Nat) : Nat → Int32 := fun j => nI (gw_tf (decide (j ≤ n) && gw_wf g 0 j))
theorem gw_ed_lay {g : gw_G} {n : Nat} {c : Int32} (hw : gw_wf g 0 n = true) : upd (gw_ed g n) (n + gw_ll c) (nI 1) = gw_ed (gw_ly g n c) (n + gw_ll c) := by
  funext j
  unfold upd gw_ed
  have hl : 0 < gw_ll c := Nat.succ_pos _
  by_cases h : j = n + gw_ll c
  · rw [if_pos h, h, gw_ly_new hw, decide_eq_true (Nat.le_refl _)]
    rfl
  · rw [if_neg h]
    by_cases h1 : j ≤ n
    · rw [gw_ly_old h1, decide_eq_true h1, decide_eq_true (show j ≤ n + gw_ll c by omega)]
    · rw [decide_eq_false h1, Bool.false_and]
      by_cases h2 : j < n + gw_ll c
      · rw [gw_ly_mid hw (by omega) h2, Bool.and_false]
      · rw [decide_eq_false (show ¬ j ≤ n + gw_ll c by omega), Bool.false_and]
theorem gw_ed0 (g : gw_G) : upd (fun _ => 0) 0 (nI 1) = gw_ed g 0 := by
  funext j
  unfold upd gw_ed
  by_cases h : j = 0
  · rw [if_pos h, h, gw_end (Nat.le_refl _), decide_eq_true (Nat.le_refl _)]
    rfl
  · rw [if_neg h, decide_eq_false (show ¬ j ≤ 0 by omega), Bool.false_and]
    rfl
theorem gw_ed_in {g : gw_G} {n i : Nat} (h : i ≤ n) : gw_ed g n i = nI (gw_tf (gw_wf g 0 i)) := by
  unfold gw_ed
  rw [decide_eq_true h, Bool.true_and]
/-! the ten rows -/
def gw_rw : Nat → Int32 := fun j => match j with
  | 0 => -1065353216 | 1 => -1044447232 | 2 => -526401792 | 3 => -308248576 | 4 => -306200832 | 5 => -259014721 | 6 => -191856512 | 7 => -176127872 | 8 => -2147483648 | 9 => -494796800 | _ => 0
def gw_mn : Nat → Nat := fun j => match j with
  | 0 => 2 | 1 => 2 | 2 => 3 | 3 => 3 | 4 => 3 | 5 => 4 | 6 => 4 | 7 => 4 | 8 => 1 | 9 => 2 | _ => 0
theorem gw_rows : ∀ i, i < 10 → gw_wf (gw_pf (fun _ => 0) 0 (gw_rw i) 0 0 0) 0 (gw_mn i) = false ∧ gw_mn i ≤ 4 := by decide +kernel
end
section
/-! ROWS OF OUR OWN over the kit's: numbers as naturals, bytes, calls that read alone, calls that write -/
section GWR
variable {p : Program} {l : Launch} {e : Env} {R : Room} {s : State} {m : MethodId} {args : Array Value} {below : List Frame} {meth : Method} {c : Code} {H : Heap} {locs : List Loc} {cells slots : Nat} {Q : State → Prop}
variable {cc : ByteArray} {pc : Nat} {ls : Array Slot} {rest : List Value} {D : va_G} {cl : List vw_C} {A : Nat → Prop} {a : Nat} {tys : List (ClassId × FieldType)} {ws : va_W} {H0 : Heap}
theorem gw_int {x y : Int32} (h : x = y) (k : W p l e R s m args below meth c H locs cells slots Q (F0 m pc ls (.int y :: rest))) : W p l e R s m args below meth c H locs cells slots Q (F0 m pc ls (.int x :: rest)) := by rw [h]; exact k
theorem gw_eqN {x y : Nat} (hx : x < 2 ^ 31) (hy : y < 2 ^ 31) {A B : Prop} (kt : x = y → A) (kf : x ≠ y → B) : (nI x = nI y → A) ∧ (¬ nI x = nI y → B) := ⟨fun h => kt ((nI_eq hx hy).mp h), fun h => kf (fun q => h (by rw [q]))⟩
theorem gw_ltN {x y : Nat} (hx : x < 2 ^ 31) (hy : y < 2 ^ 31) {A B : Prop} (kt : x < y → A) (kf : y ≤ x → B) : (nI x < nI y → A) ∧ (¬ nI x < nI y → B) := ⟨fun h => kt ((nI_ltI hx hy).mp h), fun h => kf (Nat.le_of_not_lt (fun q => h ((nI_ltI hx hy).mpr q)))⟩
theorem gw_leN {x y : Nat} (hx : x < 2 ^ 31) (hy : y < 2 ^ 31) {A B : Prop} (kt : x ≤ y → A) (kf : y < x → B) : (nI x ≤ nI y → A) ∧ (¬ nI x ≤ nI y → B) := ⟨fun h => kt ((nI_leI hx hy).mp h), fun h => kf (Nat.lt_of_not_le (fun q => h ((nI_leI hx hy).mpr q)))⟩
theorem gw_c_eq (hx : p.tables.exec = Jvm.exec) (hb : c.code = cc) {x y : Nat} {off : Int} {tgt : Nat} (hdg : decode cc pc = .ok (.if_icmp .eq off, 3)) (ht : (pc : Int) + off = (tgt : Int)) (h1 : x < 2 ^ 31) (h2 : y < 2 ^ 31)
    (kt : x = y → W p l e R s m args below meth c H locs cells slots Q (F0 m tgt ls rest)) (kf : x ≠ y → W p l e R s m args below meth c H locs cells slots Q (F0 m (pc + 3) ls rest)) : W p l e R s m args below meth c H locs cells slots Q (F0 m pc ls (.int (nI y) :: .int (nI x) :: rest)) :=
  lv_icmp_eq hx hb hdg ht (gw_eqN h1 h2 kt kf).1 (gw_eqN h1 h2 kt kf).2
theorem gw_c_ne (hx : p.tables.exec = Jvm.exec) (hb : c.code = cc) {x y : Nat} {off : Int} {tgt : Nat} (hdg : decode cc pc = .ok (.if_icmp .ne off, 3)) (ht : (pc : Int) + off = (tgt : Int)) (h1 : x < 2 ^ 31) (h2 : y < 2 ^ 31)
    (kt : x ≠ y → W p l e R s m args below meth c H locs cells slots Q (F0 m tgt ls rest)) (kf : x = y → W p l e R s m args below meth c H locs cells slots Q (F0 m (pc + 3) ls rest)) : W p l e R s m args below meth c H locs cells slots Q (F0 m pc ls (.int (nI y) :: .int (nI x) :: rest)) :=
  lv_icmp_ne hx hb hdg ht (gw_eqN h1 h2 kf kt).2 (gw_eqN h1 h2 kf kt).1
theorem gw_c_lt (hx : p.tables.exec = Jvm.exec) (hb : c.code = cc) {x y : Nat} {off : Int} {tgt : Nat} (hdg : decode cc pc = .ok (.if_icmp .lt off, 3)) (ht : (pc : Int) + off = (tgt : Int)) (h1 : x < 2 ^ 31) (h2 : y < 2 ^ 31)
    (kt : x < y → W p l e R s m args below meth c H locs cells slots Q (F0 m tgt ls rest)) (kf : y ≤ x → W p l e R s m args below meth c H locs cells slots Q (F0 m (pc + 3) ls rest)) : W p l e R s m args below meth c H locs cells slots Q (F0 m pc ls (.int (nI y) :: .int (nI x) :: rest)) :=
  lv_icmp_lt hx hb hdg ht (gw_ltN h1 h2 kt kf).1 (gw_ltN h1 h2 kt kf).2
theorem gw_c_ge (hx : p.tables.exec = Jvm.exec) (hb : c.code = cc) {x y : Nat} {off : Int} {tgt : Nat} (hdg : decode cc pc = .ok (.if_icmp .ge off, 3)) (ht : (pc : Int) + off = (tgt : Int)) (h1 : x < 2 ^ 31) (h2 : y < 2 ^ 31)
    (kt : y ≤ x → W p l e R s m args below meth c H locs cells slots Q (F0 m tgt ls rest)) (kf : x < y → W p l e R s m args below meth c H locs cells slots Q (F0 m (pc + 3) ls rest)) : W p l e R s m args below meth c H locs cells slots Q (F0 m pc ls (.int (nI y) :: .int (nI x) :: rest)) :=
  lv_icmp_ge hx hb hdg ht (gw_leN h2 h1 kt kf).1 (gw_leN h2 h1 kt kf).2
theorem gw_c_gt (hx : p.tables.exec = Jvm.exec) (hb : c.code = cc) {x y : Nat} {off : Int} {tgt : Nat} (hdg : decode cc pc = .ok (.if_icmp .gt off, 3)) (ht : (pc : Int) + off = (tgt : Int)) (h1 : x < 2 ^ 31) (h2 : y < 2 ^ 31)
    (kt : y < x → W p l e R s m args below meth c H locs cells slots Q (F0 m tgt ls rest)) (kf : x ≤ y → W p l e R s m args below meth c H locs cells slots Q (F0 m (pc + 3) ls rest)) : W p l e R s m args below meth c H locs cells slots Q (F0 m pc ls (.int (nI y) :: .int (nI x) :: rest)) :=
  lv_icmp_gt hx hb hdg ht (gw_ltN h2 h1 kt kf).1 (gw_ltN h2 h1 kt kf).2
theorem gw_c_le (hx : p.tables.exec = Jvm.exec) (hb : c.code = cc) {x y : Nat} {off : Int} {tgt : Nat} (hdg : decode cc pc = .ok (.if_icmp .le off, 3)) (ht : (pc : Int) + off = (tgt : Int)) (h1 : x < 2 ^ 31) (h2 : y < 2 ^ 31)
    (kt : x ≤ y → W p l e R s m args below meth c H locs cells slots Q (F0 m tgt ls rest)) (kf : y < x → W p l e R s m args below meth c H locs cells slots Q (F0 m (pc + 3) ls rest)) : W p l e R s m args below meth c H locs cells slots Q (F0 m pc ls (.int (nI y) :: .int (nI x) :: rest)) :=
  lv_icmp_le hx hb hdg ht (gw_leN h1 h2 kt kf).1 (gw_leN h1 h2 kt kf).2
theorem gw_z_eq (hx : p.tables.exec = Jvm.exec) (hb : c.code = cc) {x : Nat} {off : Int} {tgt : Nat} (hdg : decode cc pc = .ok (.ifCond .eq off, 3)) (ht : (pc : Int) + off = (tgt : Int)) (h1 : x < 2 ^ 31)
    (kt : x = 0 → W p l e R s m args below meth c H locs cells slots Q (F0 m tgt ls rest)) (kf : x ≠ 0 → W p l e R s m args below meth c H locs cells slots Q (F0 m (pc + 3) ls rest)) : W p l e R s m args below meth c H locs cells slots Q (F0 m pc ls (.int (nI x) :: rest)) :=
  lv_if_eq hx hb hdg ht (gw_eqN (y := 0) h1 (by decide) kt kf).1 (gw_eqN (y := 0) h1 (by decide) kt kf).2
theorem gw_z_ne (hx : p.tables.exec = Jvm.exec) (hb : c.code = cc) {x : Nat} {off : Int} {tgt : Nat} (hdg : decode cc pc = .ok (.ifCond .ne off, 3)) (ht : (pc : Int) + off = (tgt : Int)) (h1 : x < 2 ^ 31)
    (kt : x ≠ 0 → W p l e R s m args below meth c H locs cells slots Q (F0 m tgt ls rest)) (kf : x = 0 → W p l e R s m args below meth c H locs cells slots Q (F0 m (pc + 3) ls rest)) : W p l e R s m args below meth c H locs cells slots Q (F0 m pc ls (.int (nI x) :: rest)) :=
  lv_if_ne hx hb hdg ht (gw_eqN (y := 0) h1 (by decide) kf kt).2 (gw_eqN (y := 0) h1 (by decide) kf kt).1
theorem gw_z_le (hx : p.tables.exec = Jvm.exec) (hb : c.code = cc) {x : Nat} {off : Int} {tgt : Nat} (hdg : decode cc pc = .ok (.ifCond .le off, 3)) (ht : (pc : Int) + off = (tgt : Int)) (h1 : x < 2 ^ 31)
    (kt : x = 0 → W p l e R s m args below meth c H locs cells slots Q (F0 m tgt ls rest)) (kf : 0 < x → W p l e R s m args below meth c H locs cells slots Q (F0 m (pc + 3) ls rest)) : W p l e R s m args below meth c H locs cells slots Q (F0 m pc ls (.int (nI x) :: rest)) :=
  lv_if_le hx hb hdg ht (gw_leN (y := 0) h1 (by decide) (fun h => kt (Nat.le_zero.mp h)) kf).1 (gw_leN (y := 0) h1 (by decide) (fun h => kt (Nat.le_zero.mp h)) kf).2
theorem gw_z_lt (hx : p.tables.exec = Jvm.exec) (hb : c.code = cc) {x : Nat} {off : Int} {tgt : Nat} (hdg : decode cc pc = .ok (.ifCond .lt off, 3)) (ht : (pc : Int) + off = (tgt : Int)) (h1 : x < 2 ^ 31)
    (kf : W p l e R s m args below meth c H locs cells slots Q (F0 m (pc + 3) ls rest)) : W p l e R s m args below meth c H locs cells slots Q (F0 m pc ls (.int (nI x) :: rest)) :=
  lv_if_lt hx hb hdg ht (fun h => absurd h (nI_pos h1)) (fun _ => kf)
/-- an answer that is true or false -/
theorem gw_t_eq (hx : p.tables.exec = Jvm.exec) (hb : c.code = cc) {x : Bool} {off : Int} {tgt : Nat} (hdg : decode cc pc = .ok (.ifCond .eq off, 3)) (ht : (pc : Int) + off = (tgt : Int))
    (kt : x = false → W p l e R s m args below meth c H locs cells slots Q (F0 m tgt ls rest)) (kf : x = true → W p l e R s m args below meth c H locs cells slots Q (F0 m (pc + 3) ls rest)) : W p l e R s m args below meth c H locs cells slots Q (F0 m pc ls (.int (nI (gw_tf x)) :: rest)) :=
  gw_z_eq hx hb hdg ht (Nat.lt_trans (gw_tf_lt x) (by decide)) (fun h => kt (by cases x with | false => rfl | true => cases h)) (fun h => kf (by cases x with | false => exact absurd rfl h | true => rfl))
theorem gw_t_ne (hx : p.tables.exec = Jvm.exec) (hb : c.code = cc) {x : Bool} {off : Int} {tgt : Nat} (hdg : decode cc pc = .ok (.ifCond .ne off, 3)) (ht : (pc : Int) + off = (tgt : Int))
    (kt : x = true → W p l e R s m args below meth c H locs cells slots Q (F0 m tgt ls rest)) (kf : x = false → W p l e R s m args below meth c H locs cells slots Q (F0 m (pc + 3) ls rest)) : W p l e R s m args below meth c H locs cells slots Q (F0 m pc ls (.int (nI (gw_tf x)) :: rest)) :=
  gw_z_ne hx hb hdg ht (Nat.lt_trans (gw_tf_lt x) (by decide)) (fun h => kt (by cases x with | false => exact absurd rfl h | true => rfl)) (fun h => kf (by cases x with | false => rfl | true => cases h))
/-- by the whole numbers that two ints stand for -/
theorem gw_i_eq (hx : p.tables.exec = Jvm.exec) (hb : c.code = cc) {x y : Int32} {X Y : Int} {off : Int} {tgt : Nat} (hdg : decode cc pc = .ok (.if_icmp .eq off, 3)) (ht : (pc : Int) + off = (tgt : Int)) (hX : x.toInt = X) (hY : y.toInt = Y)
    (kt : X = Y → W p l e R s m args below meth c H locs cells slots Q (F0 m tgt ls rest)) (kf : ¬ X = Y → W p l e R s m args below meth c H locs cells slots Q (F0 m (pc + 3) ls rest)) : W p l e R s m args below meth c H locs cells slots Q (F0 m pc ls (.int y :: .int x :: rest)) :=
  lv_icmp_eq hx hb hdg ht (fun h => kt (by rw [← hX, ← hY, h])) (fun h => kf (fun q => h (Int32.toInt_inj.mp (by rw [hX, hY, q]))))
theorem gw_i_ne (hx : p.tables.exec = Jvm.exec) (hb : c.code = cc) {x y : Int32} {X Y : Int} {off : Int} {tgt : Nat} (hdg : decode cc pc = .ok (.if_icmp .ne off, 3)) (ht : (pc : Int) + off = (tgt : Int)) (hX : x.toInt = X) (hY : y.toInt = Y)
    (kt : ¬ X = Y → W p l e R s m args below meth c H locs cells slots Q (F0 m tgt ls rest)) (kf : X = Y → W p l e R s m args below meth c H locs cells slots Q (F0 m (pc + 3) ls rest)) : W p l e R s m args below meth c H locs cells slots Q (F0 m pc ls (.int y :: .int x :: rest)) :=
  lv_icmp_ne hx hb hdg ht (fun h => kt (fun q => h (Int32.toInt_inj.mp (by rw [hX, hY, q])))) (fun h => kf (by rw [← hX, ← hY, h]))
theorem gw_i_lt (hx : p.tables.exec = Jvm.exec) (hb : c.code = cc) {x y : Int32} {X Y : Int} {off : Int} {tgt : Nat} (hdg : decode cc pc = .ok (.if_icmp .lt off, 3)) (ht : (pc : Int) + off = (tgt : Int)) (hX : x.toInt = X) (hY : y.toInt = Y)
    (kt : X < Y → W p l e R s m args below meth c H locs cells slots Q (F0 m tgt ls rest)) (kf : Y ≤ X → W p l e R s m args below meth c H locs cells slots Q (F0 m (pc + 3) ls rest)) : W p l e R s m args below meth c H locs cells slots Q (F0 m pc ls (.int y :: .int x :: rest)) :=
  lv_icmp_lt hx hb hdg ht (fun h => kt (by rw [← hX, ← hY]; exact Int32.lt_iff_toInt_lt.mp h)) (fun h => kf (by rw [← hX, ← hY]; exact Int.not_lt.mp (fun q => h (Int32.lt_iff_toInt_lt.mpr q))))
theorem gw_i_ge (hx : p.tables.exec = Jvm.exec) (hb : c.code = cc) {x y : Int32} {X Y : Int} {off : Int} {tgt : Nat} (hdg : decode cc pc = .ok (.if_icmp .ge off, 3)) (ht : (pc : Int) + off = (tgt : Int)) (hX : x.toInt = X) (hY : y.toInt = Y)
    (kt : Y ≤ X → W p l e R s m args below meth c H locs cells slots Q (F0 m tgt ls rest)) (kf : X < Y → W p l e R s m args below meth c H locs cells slots Q (F0 m (pc + 3) ls rest)) : W p l e R s m args below meth c H locs cells slots Q (F0 m pc ls (.int y :: .int x :: rest)) :=
  lv_icmp_ge hx hb hdg ht (fun h => kt (by rw [← hX, ← hY]; exact Int32.le_iff_toInt_le.mp h)) (fun h => kf (by rw [← hX, ← hY]; exact Int.not_le.mp (fun q => h (Int32.le_iff_toInt_le.mpr q))))
theorem gw_i_gt (hx : p.tables.exec = Jvm.exec) (hb : c.code = cc) {x y : Int32} {X Y : Int} {off : Int} {tgt : Nat} (hdg : decode cc pc = .ok (.if_icmp .gt off, 3)) (ht : (pc : Int) + off = (tgt : Int)) (hX : x.toInt = X) (hY : y.toInt = Y)
    (kt : Y < X → W p l e R s m args below meth c H locs cells slots Q (F0 m tgt ls rest)) (kf : X ≤ Y → W p l e R s m args below meth c H locs cells slots Q (F0 m (pc + 3) ls rest)) : W p l e R s m args below meth c H locs cells slots Q (F0 m pc ls (.int y :: .int x :: rest)) :=
  lv_icmp_gt hx hb hdg ht (fun h => kt (by rw [← hX, ← hY]; exact Int32.lt_iff_toInt_lt.mp h)) (fun h => kf (by rw [← hX, ← hY]; exact Int.not_lt.mp (fun q => h (Int32.lt_iff_toInt_lt.mpr q))))
theorem gw_i_le (hx : p.tables.exec = Jvm.exec) (hb : c.code = cc) {x y : Int32} {X Y : Int} {off : Int} {tgt : Nat} (hdg : decode cc pc = .ok (.if_icmp .le off, 3)) (ht : (pc : Int) + off = (tgt : Int)) (hX : x.toInt = X) (hY : y.toInt = Y)
    (kt : X ≤ Y → W p l e R s m args below meth c H locs cells slots Q (F0 m tgt ls rest)) (kf : Y < X → W p l e R s m args below meth c H locs cells slots Q (F0 m (pc + 3) ls rest)) : W p l e R s m args below meth c H locs cells slots Q (F0 m pc ls (.int y :: .int x :: rest)) :=
  lv_icmp_le hx hb hdg ht (fun h => kt (by rw [← hX, ← hY]; exact Int32.le_iff_toInt_le.mp h)) (fun h => kf (by rw [← hX, ← hY]; exact Int.not_le.mp (fun q => h (Int32.le_iff_toInt_le.mpr q))))
/-- a byte that is below 0 or not -/
theorem gw_b_ge (hx : p.tables.exec = Jvm.exec) (hb : c.code = cc) {b : Fin 256} {off : Int} {tgt : Nat} (hdg : decode cc pc = .ok (.ifCond .ge off, 3)) (ht : (pc : Int) + off = (tgt : Int))
    (kt : b.val < 128 → W p l e R s m args below meth c H locs cells slots Q (F0 m tgt ls rest)) (kf : 128 ≤ b.val → W p l e R s m args below meth c H locs cells slots Q (F0 m (pc + 3) ls rest)) : W p l e R s m args below meth c H locs cells slots Q (F0 m pc ls (.int (gw_sb b) :: rest)) := by
  have h0 : (0 : Int32) ≤ gw_sb b ↔ b.val < 128 := by
    rw [Int32.le_iff_toInt_le, gw_sbT, show (0 : Int32).toInt = 0 from by decide]
    have := gw_siC b
    have := b.isLt
    omega
  exact lv_if_ge hx hb hdg ht (fun h => kt (h0.mp h)) (fun h => kf (Nat.le_of_not_lt (fun q => h (h0.mpr q))))
theorem gw_add (hx : p.tables.exec = Jvm.exec) (hb : c.code = cc) {x y : Nat} (hdg : decode cc pc = .ok (.iadd, 1)) (k : W p l e R s m args below meth c H locs cells slots Q (F0 m (pc + 1) ls (.int (nI (x + y)) :: rest))) : W p l e R s m args below meth c H locs cells slots Q (F0 m pc ls (.int (nI y) :: .int (nI x) :: rest)) :=
  lv_iadd hx hb hdg (gw_int (nI_add x y) k)
theorem gw_sub (hx : p.tables.exec = Jvm.exec) (hb : c.code = cc) {x y : Nat} (hdg : decode cc pc = .ok (.isub, 1)) (h : y ≤ x) (k : W p l e R s m args below meth c H locs cells slots Q (F0 m (pc + 1) ls (.int (nI (x - y)) :: rest))) : W p l e R s m args below meth c H locs cells slots Q (F0 m pc ls (.int (nI y) :: .int (nI x) :: rest)) :=
  lv_isub hx hb hdg (gw_int (pk_sub h) k)
theorem gw_mul (hx : p.tables.exec = Jvm.exec) (hb : c.code = cc) {x y : Nat} (hdg : decode cc pc = .ok (.imul, 1)) (k : W p l e R s m args below meth c H locs cells slots Q (F0 m (pc + 1) ls (.int (nI (x * y)) :: rest))) : W p l e R s m args below meth c H locs cells slots Q (F0 m pc ls (.int (nI y) :: .int (nI x) :: rest)) :=
  lv_imul hx hb hdg (gw_int (pk_mul x y) k)
theorem gw_rem (hx : p.tables.exec = Jvm.exec) (hb : c.code = cc) {x y : Nat} (hdg : decode cc pc = .ok (.irem, 1)) (h1 : x < 2 ^ 31) (h0 : 0 < y) (h2 : y < 2 ^ 31) (k : W p l e R s m args below meth c H locs cells slots Q (F0 m (pc + 1) ls (.int (nI (x % y)) :: rest))) : W p l e R s m args below meth c H locs cells slots Q (F0 m pc ls (.int (nI y) :: .int (nI x) :: rest)) :=
  lv_irem hx hb hdg (nI_ne0 h0 h2) (gw_int (pk_rem h1 h0 h2) k)
theorem gw_aM (hx : p.tables.exec = Jvm.exec) (hb : c.code = cc) {x : Int32} (hdg : decode cc pc = .ok (.iand, 1)) (k : W p l e R s m args below meth c H locs cells slots Q (F0 m (pc + 1) ls (.int (nI (gw_ms x)) :: rest))) : W p l e R s m args below meth c H locs cells slots Q (F0 m pc ls (.int 2147483647 :: .int x :: rest)) :=
  lv_iand hx hb hdg (gw_int (gw_andM x) k)
theorem gw_a255 (hx : p.tables.exec = Jvm.exec) (hb : c.code = cc) {x : Int32} (hdg : decode cc pc = .ok (.iand, 1)) (k : W p l e R s m args below meth c H locs cells slots Q (F0 m (pc + 1) ls (.int (nI (gw_bt x).val) :: rest))) : W p l e R s m args below meth c H locs cells slots Q (F0 m pc ls (.int (nI 255) :: .int x :: rest)) :=
  lv_iand hx hb hdg (gw_int (gw_and255 x) k)
/-- '& (2 ^ k - 1)' -/
theorem gw_and (hx : p.tables.exec = Jvm.exec) (hb : c.code = cc) {x : Int32} {M : Int32} {r : Nat} (hdg : decode cc pc = .ok (.iand, 1)) (n : Nat) (hm : M.toBitVec.toNat = 2 ^ n - 1) (hr : gw_un x % 2 ^ n = r) (k : W p l e R s m args below meth c H locs cells slots Q (F0 m (pc + 1) ls (.int (nI r) :: rest))) : W p l e R s m args below meth c H locs cells slots Q (F0 m pc ls (.int M :: .int x :: rest)) :=
  lv_iand hx hb hdg (gw_int (by rw [← hr]; exact pk_and x n hm) k)
theorem gw_shr (hx : p.tables.exec = Jvm.exec) (hb : c.code = cc) {x y r : Nat} (hdg : decode cc pc = .ok (.ishr, 1)) (h1 : x < 2 ^ 31) (n : Nat) (hn : ((nI y &&& 31).toBitVec.smod 32).toNat = n) (hr : x / 2 ^ n = r) (k : W p l e R s m args below meth c H locs cells slots Q (F0 m (pc + 1) ls (.int (nI r) :: rest))) : W p l e R s m args below meth c H locs cells slots Q (F0 m pc ls (.int (nI y) :: .int (nI x) :: rest)) :=
  lv_ishr hx hb hdg (gw_int (by rw [← hr]; exact pk_shrN h1 _ n hn) k)
theorem gw_ushr (hx : p.tables.exec = Jvm.exec) (hb : c.code = cc) {x : Int32} {y r : Nat} (hdg : decode cc pc = .ok (.iushr, 1)) (n : Nat) (hn : (((nI y).toUInt32 &&& Int32.toUInt32 31).toBitVec % 32).toNat = n) (hr : gw_un x / 2 ^ n = r) (k : W p l e R s m args below meth c H locs cells slots Q (F0 m (pc + 1) ls (.int (nI r) :: rest))) : W p l e R s m args below meth c H locs cells slots Q (F0 m pc ls (.int (nI y) :: .int x :: rest)) :=
  lv_iushr (v := nI r) hx hb hdg (by rw [← hr, ← gw_nI_un ((x.toUInt32 >>> ((nI y).toUInt32 &&& Int32.toUInt32 31)).toInt32)]; exact congrArg nI (pk_ushr x (nI y) n hn)) k
theorem gw_or_nI (x y : Nat) : nI x ||| nI y = nI (x ||| y) := by
  apply Int32.toBitVec_inj.1
  show BitVec.ofNat 32 x ||| BitVec.ofNat 32 y = BitVec.ofNat 32 (x ||| y)
  apply BitVec.eq_of_getLsbD_eq
  intro i hi
  simp [hi]
/-- '|' of numbers that share no bit -/
theorem gw_or (hx : p.tables.exec = Jvm.exec) (hb : c.code = cc) {x y : Nat} (hdg : decode cc pc = .ok (.ior, 1)) (n q : Nat) (hq : 2 ^ n * q = x) (hy : y < 2 ^ n) (k : W p l e R s m args below meth c H locs cells slots Q (F0 m (pc + 1) ls (.int (nI (x + y)) :: rest))) : W p l e R s m args below meth c H locs cells slots Q (F0 m pc ls (.int (nI y) :: .int (nI x) :: rest)) :=
  lv_ior hx hb hdg (gw_int (by rw [gw_or_nI, ← hq, Nat.two_pow_add_eq_or_of_lt hy]) k)
theorem gw_toB (hx : p.tables.exec = Jvm.exec) (hb : c.code = cc) {x : Int32} (hdg : decode cc pc = .ok (.i2b, 1)) (k : W p l e R s m args below meth c H locs cells slots Q (F0 m (pc + 1) ls (.int (gw_sb (gw_bt x)) :: rest))) : W p l e R s m args below meth c H locs cells slots Q (F0 m pc ls (.int x :: rest)) :=
  lv_i2b hx hb hdg (gw_i2b x) k
/-! arrays -/
theorem gw_bld (hx : p.tables.exec = Jvm.exec) (hb : c.code = cc) (hK : va_K D cl tys s) (hP : va_P D cl ws H) (q0 t0 : Nat) {cA : ClassId} {n k : Nat} {g : gw_G} (ha : ws[q0]? = some (a, .inl (cA, n, .inl (fun j => gw_sb (g j))))) (ht : tys[t0]? = some (cA, .byte)) (hk : k < n) (hn : n < 2 ^ 31) (hdg : decode cc pc = .ok (.baload, 1))
    (kk : W p l e R s m args below meth c H locs cells slots Q (F0 m (pc + 1) ls (.int (gw_sb (g k)) :: rest))) : W p l e R s m args below meth c H locs cells slots Q (F0 m pc ls (.int (nI k) :: .ref a :: rest)) :=
  va_bald hx hb hK hP q0 t0 ha ht (vp_in_nI hk hn) hdg (gw_int (by rw [nI_clamp (by omega)]) kk)
theorem gw_ild (hx : p.tables.exec = Jvm.exec) (hb : c.code = cc) (hK : va_K D cl tys s) (hP : va_P D cl ws H) (q0 t0 : Nat) {cA : ClassId} {n k : Nat} {f : Nat → Int32} (ha : ws[q0]? = some (a, .inl (cA, n, .inl f))) (ht : tys[t0]? = some (cA, .int)) (hk : k < n) (hn : n < 2 ^ 31) (hdg : decode cc pc = .ok (.iaload, 1))
    (kk : W p l e R s m args below meth c H locs cells slots Q (F0 m (pc + 1) ls (.int (f k) :: rest))) : W p l e R s m args below meth c H locs cells slots Q (F0 m pc ls (.int (nI k) :: .ref a :: rest)) :=
  va_iald hx hb hK hP q0 t0 ha ht (vp_in_nI hk hn) hdg (gw_int (by rw [nI_clamp (by omega)]) kk)
theorem gw_zld (hx : p.tables.exec = Jvm.exec) (hb : c.code = cc) (hK : va_K D cl tys s) (hP : va_P D cl ws H) (q0 t0 : Nat) {cA : ClassId} {n k : Nat} {f : Nat → Int32} (ha : ws[q0]? = some (a, .inl (cA, n, .inl f))) (ht : tys[t0]? = some (cA, .boolean)) (hk : k < n) (hn : n < 2 ^ 31) (hdg : decode cc pc = .ok (.baload, 1))
    (kk : W p l e R s m args below meth c H locs cells slots Q (F0 m (pc + 1) ls (.int (f k) :: rest))) : W p l e R s m args below meth c H locs cells slots Q (F0 m pc ls (.int (nI k) :: .ref a :: rest)) :=
  va_zald hx hb hK hP q0 t0 ha ht (vp_in_nI hk hn) hdg (gw_int (by rw [nI_clamp (by omega)]) kk)
theorem gw_upd_b {g : gw_G} {k : Nat} {v : Fin 256} (hk : k < 2 ^ 31) : upd (fun j => gw_sb (g j)) (nI k).toNatClampNeg (vp_nar .byte (gw_sb v)) = fun j => gw_sb (gw_st g k v j) := by
  rw [nI_clamp hk, gw_nar8]
  funext j
  unfold upd gw_st
  by_cases hj : j = k
  · rw [if_pos hj, if_pos hj]
  · rw [if_neg hj, if_neg hj]
theorem gw_upd_i {g : gw_G} {k : Nat} {v : Fin 256} (hk : k < 2 ^ 31) : upd (fun j => nI (g j).val) (nI k).toNatClampNeg (nI v.val) = fun j => nI (gw_st g k v j).val := by
  rw [nI_clamp hk]
  funext j
  unfold upd gw_st
  by_cases hj : j = k
  · rw [if_pos hj, if_pos hj]
  · rw [if_neg hj, if_neg hj]
theorem gw_bst (hx : p.tables.exec = Jvm.exec) (hb : c.code = cc) (hK : va_K D cl tys s) (hP : va_P D cl ws H) (hD : va_D A ws) (hS : va_S A H0 H locs) (q0 t0 : Nat) {cA : ClassId} {n k : Nat} {g : gw_G} {v : Fin 256} (ha : ws[q0]? = some (a, .inl (cA, n, .inl (fun j => gw_sb (g j))))) (ht : tys[t0]? = some (cA, .byte)) (hk : k < n) (hn : n < 2 ^ 31) (hdg : decode cc pc = .ok (.bastore, 1))
    (kk : ∀ (H1 : Heap) (locs1 : List Loc), va_P D cl (ws.set q0 (a, .inl (cA, n, .inl (fun j => gw_sb (gw_st g k v j))))) H1 → va_D A (ws.set q0 (a, .inl (cA, n, .inl (fun j => gw_sb (gw_st g k v j))))) → va_S A H0 H1 locs1 → W p l e R s m args below meth c H1 locs1 cells slots Q (F0 m (pc + 1) ls rest)) : W p l e R s m args below meth c H locs cells slots Q (F0 m pc ls (.int (gw_sb v) :: .int (nI k) :: .ref a :: rest)) := by
  refine va_bast hx hb hK hP hD hS q0 t0 ha ht (vp_in_nI hk hn) hdg (fun H1 locs1 h1 h2 h3 => ?_)
  rw [gw_upd_b (by omega)] at h1 h2
  exact kk H1 locs1 h1 h2 h3
theorem gw_ist (hx : p.tables.exec = Jvm.exec) (hb : c.code = cc) (hK : va_K D cl tys s) (hP : va_P D cl ws H) (hD : va_D A ws) (hS : va_S A H0 H locs) (q0 t0 : Nat) {cA : ClassId} {n k : Nat} {g : gw_G} {v : Fin 256} (ha : ws[q0]? = some (a, .inl (cA, n, .inl (fun j => nI (g j).val)))) (ht : tys[t0]? = some (cA, .int)) (hk : k < n) (hn : n < 2 ^ 31) (hdg : decode cc pc = .ok (.iastore, 1))
    (kk : ∀ (H1 : Heap) (locs1 : List Loc), va_P D cl (ws.set q0 (a, .inl (cA, n, .inl (fun j => nI (gw_st g k v j).val)))) H1 → va_D A (ws.set q0 (a, .inl (cA, n, .inl (fun j => nI (gw_st g k v j).val)))) → va_S A H0 H1 locs1 → W p l e R s m args below meth c H1 locs1 cells slots Q (F0 m (pc + 1) ls rest)) : W p l e R s m args below meth c H locs cells slots Q (F0 m pc ls (.int (nI v.val) :: .int (nI k) :: .ref a :: rest)) := by
  refine va_iast hx hb hK hP hD hS q0 t0 ha ht (vp_in_nI hk hn) hdg (fun H1 locs1 h1 h2 h3 => ?_)
  rw [gw_upd_i (by omega)] at h1 h2
  exact kk H1 locs1 h1 h2 h3
theorem gw_iput (hx : p.tables.exec = Jvm.exec) (hb : c.code = cc) (hK : va_K D cl tys s) (hP : va_P D cl ws H) (hD : va_D A ws) (hS : va_S A H0 H locs) (q0 t0 : Nat) {cA : ClassId} {n k : Nat} {f : Nat → Int32} {v : Int32} (ha : ws[q0]? = some (a, .inl (cA, n, .inl f))) (ht : tys[t0]? = some (cA, .int)) (hk : k < n) (hn : n < 2 ^ 31) (hdg : decode cc pc = .ok (.iastore, 1))
    (kk : ∀ (H1 : Heap) (locs1 : List Loc), va_P D cl (ws.set q0 (a, .inl (cA, n, .inl (upd f k v)))) H1 → va_D A (ws.set q0 (a, .inl (cA, n, .inl (upd f k v)))) → va_S A H0 H1 locs1 → W p l e R s m args below meth c H1 locs1 cells slots Q (F0 m (pc + 1) ls rest)) : W p l e R s m args below meth c H locs cells slots Q (F0 m pc ls (.int v :: .int (nI k) :: .ref a :: rest)) := by
  refine va_iast hx hb hK hP hD hS q0 t0 ha ht (vp_in_nI hk hn) hdg (fun H1 locs1 h1 h2 h3 => ?_)
  rw [nI_clamp (by omega)] at h1 h2
  exact kk H1 locs1 h1 h2 h3
/-- 'true' into an array of booleans -/
theorem gw_zput (hx : p.tables.exec = Jvm.exec) (hb : c.code = cc) (hK : va_K D cl tys s) (hP : va_P D cl ws H) (hD : va_D A ws) (hS : va_S A H0 H locs) (q0 t0 : Nat) {cA : ClassId} {n k : Nat} {f : Nat → Int32} (ha : ws[q0]? = some (a, .inl (cA, n, .inl f))) (ht : tys[t0]? = some (cA, .boolean)) (hk : k < n) (hn : n < 2 ^ 31) (hdg : decode cc pc = .ok (.bastore, 1))
    (kk : ∀ (H1 : Heap) (locs1 : List Loc), va_P D cl (ws.set q0 (a, .inl (cA, n, .inl (upd f k (nI 1))))) H1 → va_D A (ws.set q0 (a, .inl (cA, n, .inl (upd f k (nI 1))))) → va_S A H0 H1 locs1 → W p l e R s m args below meth c H1 locs1 cells slots Q (F0 m (pc + 1) ls rest)) : W p l e R s m args below meth c H locs cells slots Q (F0 m pc ls (.int (nI 1) :: .int (nI k) :: .ref a :: rest)) := by
  refine va_zast hx hb hK hP hD hS q0 t0 ha ht (vp_in_nI hk hn) hdg (fun H1 locs1 h1 h2 h3 => ?_)
  rw [nI_clamp (by omega), show vp_nar .boolean (nI 1) = nI 1 from rfl] at h1 h2
  exact kk H1 locs1 h1 h2 h3
/-- the script -/
theorem gw_sld (hx : p.tables.exec = Jvm.exec) (hb : c.code = cc) {b L : Nat} {xs : Nat → Int32} (hX : va_X b L xs s H0) (hbl : b < H0.size) (hbA : ¬ A b) (hS : va_S A H0 H locs) {k : Nat} (hk : k < L) (hL : L < 2 ^ 31) (hdg : decode cc pc = .ok (.iaload, 1))
    (kk : W p l e R s m args below meth c H locs cells slots Q (F0 m (pc + 1) ls (.int (xs k) :: rest))) : W p l e R s m args below meth c H locs cells slots Q (F0 m pc ls (.int (nI k) :: .ref b :: rest)) :=
  va_sld hx hb hX hbl hbA hS (vp_in_nI hk hL) hdg (gw_int (by rw [nI_clamp (by omega)]) kk)
theorem gw_slen (hx : p.tables.exec = Jvm.exec) (hb : c.code = cc) {b L : Nat} {xs : Nat → Int32} (hX : va_X b L xs s H0) (hbl : b < H0.size) (hbA : ¬ A b) (hS : va_S A H0 H locs) (hdg : decode cc pc = .ok (.arraylength, 1))
    (kk : W p l e R s m args below meth c H locs cells slots Q (F0 m (pc + 1) ls (.int (nI L) :: rest))) : W p l e R s m args below meth c H locs cells slots Q (F0 m pc ls (.ref b :: rest)) :=
  va_slen hx hb hX hbl hbA hS hdg kk
end GWR
/-! the frame of a method's walk -/
theorem gw_met {l : Launch} {y : MethodName} {cc : ByteArray} {maxL : Nat} {ret : Option FieldType} {rm : Room} {U0 : State → Prop} {Qc : Array Value → State → Outcome → State → Prop} {mc ms : Nat} {free : Addr → Prop} (As : List Value) (own : String) (ho : y.cls = own) (hy : plainName y.cls = true) (hlen : (lg_sl As).length ≤ maxL)
    (body : ∀ (p : Program) (e : Env) (s : State) (m : MethodId) (below : List Frame) (meth : Method) (c : Code) (ls : Array Slot), CallFix p m c cc maxL s As.toArray lw_all own → meth.sig.returnType = ret → meth.locks = false → meth.name = y.name → lv_has ls maxL (lv_args 0 As) → U0 s →
      W p l e rm s m As.toArray below meth c s.heap [] 0 0 (MQ below Qc As.toArray s mc ms free) (F0 m 0 ls [])) : Met l y (ws_ y cc maxL ret) rm (va_Pc As U0) Qc mc ms free := by
  refine Met.ofW (cc := cc) (maxL := maxL) (ret := ret) hy rfl ?_
  intro p e s m args below meth c s₁ B hml hv
  obtain ⟨rfl, hU⟩ := hv
  have hts := atoms_spec (ws := ws_ y cc maxL ret) B.pre
  have hts : ∀ w ∈ lw_all, w.before _ s = true := fun w h => hts w (List.mem_cons_of_mem _ h)
  have hown : s.vm.findClass y.cls = some m.cls := findClass_of_methodNamed B.named
  rw [ho] at hown
  rw [lg_entry_eq]
  exact body p e s m below meth c _ ⟨B.exec, B.bytes, hml, hown, hts⟩ B.returns B.notSynchronized (name_of_methodNamed B.named B.method).1 (lv_entry As hlen) hU
section GWC
variable {p : Program} {l : Launch} {e : Env} {R : Room} {s : State} {m : MethodId} {args : Array Value} {below : List Frame} {meth : Method} {c : Code} {H : Heap} {locs : List Loc} {cells slots : Nat} {Q : State → Prop}
variable {cc : ByteArray} {pc : Nat} {ls : Array Slot} {rest st0 : List Value} {D : va_G} {cl : List vw_C} {A0 : Nat → Prop} {tys : List (ClassId × FieldType)} {ws : va_W} {H0 : Heap}
variable {y : MethodName} {bytes : ByteArray} {maxL nL n index mc ms : Nat} {ret : Option FieldType} {rm : Room} {Pc : Array Value → State → Prop} {own C : String} {r : Int32} {As : List Value} {b : Nat}
/-- the end of a method that reads alone and answers an int or a boolean -/
theorem gw_rz {below : List Frame} {v : Int32} {ty : FieldType} (hx : p.tables.exec = Jvm.exec) (hb : c.code = cc) (hr : meth.sig.returnType = some ty) (hlocks : meth.locks = false) (hn : narrow ty (.int v) = .int v) (hv : v = r) (hdg : decode cc pc = .ok (.ireturn, 1)) : W p l e R s m args below meth c s.heap [] 0 0 (MQ below (QcRead r) args s 0 0 (fun _ => False)) (F0 m pc ls [.int v]) :=
  W.zret hx hb hr hn (fun t ht _ => ⟨by rw [hv], ht⟩) (fun q h => by cases h) hdg hlocks
theorem gw_rv {below : List Frame} (hx : p.tables.exec = Jvm.exec) (hb : c.code = cc) (hr : meth.sig.returnType = none) (hlocks : meth.locks = false) (hdg : decode cc pc = .ok (.return_, 1)) : W p l e R s m args below meth c s.heap [] 0 0 (MQ below (va_Sv (fun _ => True)) args s 0 0 (fun _ => False)) (F0 m pc ls []) :=
  W.vret hx hb hr (fun t ht _ => ⟨rfl, trivial, ht⟩) (fun q h => by cases h) hdg hlocks
/-! worlds at a call -/
abbrev gw_U (D : va_G) (cl : List vw_C) (ws : va_W) (tys : List (ClassId × FieldType)) : State → Prop := fun U => va_P D cl ws U.heap ∧ va_K D cl tys U
abbrev gw_UX (b L : Nat) (xs : Nat → Int32) : State → Prop := fun U => va_X b L xs U U.heap ∧ b < U.heap.size
abbrev gw_UW (D : va_G) (cl : List vw_C) (ws : va_W) (tys : List (ClassId × FieldType)) (sz : Nat) : State → Prop := fun U => U.heap.size = sz ∧ va_P D cl ws U.heap ∧ va_K D cl tys U ∧ va_D (fun _ => True) ws
abbrev gw_QW (D : va_G) (cl : List vw_C) (w1 : va_W) (A : Nat → Prop) : Array Value → State → Outcome → State → Prop := va_Qv (fun _ : Unit => True) (fun _ t => va_P D cl w1 t.heap ∧ va_D A w1) A
abbrev gw_QI (r : Int32) (D : va_G) (cl : List vw_C) (w1 : va_W) (A : Nat → Prop) : Array Value → State → Outcome → State → Prop := va_Qi (fun (z : Int32) (_ : Unit) => z = r) (fun _ t => va_P D cl w1 t.heap ∧ va_D A w1) A
theorem gw_Ubl {ws : va_W} {tys : List (ClassId × FieldType)} : ∀ (a : Array Value) (U : State) (g : JFrame) (mk : MethodId), gw_U D cl ws tys U → gw_U D cl ws tys (U.calling g mk a) := fun a U g mk q => ⟨q.1, va_K.moved (u := U) (U := U.calling g mk a) (Vm.Alike.refl U.vm) q.2⟩
theorem gw_Umk {ws : va_W} {tys : List (ClassId × FieldType)} (hP : va_P D cl ws H) (hK : va_K D cl tys s) : ∀ U : State, U.heap = H → s.vm.Alike U.vm → gw_U D cl ws tys U := fun U hU hW => ⟨by rw [hU]; exact hP, va_K.moved hW hK⟩
theorem gw_UXbl {b L : Nat} {xs : Nat → Int32} : ∀ (a : Array Value) (U : State) (g : JFrame) (mk : MethodId), gw_UX b L xs U → gw_UX b L xs (U.calling g mk a) := fun a U g mk q => ⟨va_X.moved (u := U) (U := U.calling g mk a) (Vm.Alike.refl U.vm) q.1, q.2⟩
theorem gw_UXmk {b L : Nat} {xs : Nat → Int32} (hX : va_X b L xs s H0) (hbl : b < H0.size) (hbA : ¬ A0 b) (hS : va_S A0 H0 H locs) : ∀ U : State, U.heap = H → s.vm.Alike U.vm → gw_UX b L xs U := fun U hU hW => ⟨by rw [hU]; exact (hX.kept (hS.2.1 b hbl hbA)).moved hW, by rw [hU]; exact Nat.lt_of_lt_of_le hbl hS.1⟩
theorem gw_UWbl {ws : va_W} {tys : List (ClassId × FieldType)} {sz : Nat} : ∀ (a : Array Value) (U : State) (g : JFrame) (mk : MethodId), gw_UW D cl ws tys sz U → gw_UW D cl ws tys sz (U.calling g mk a) := fun a U g mk q => ⟨q.1, q.2.1, va_K.moved (u := U) (U := U.calling g mk a) (Vm.Alike.refl U.vm) q.2.2.1, q.2.2.2⟩
theorem gw_UWmk {ws : va_W} {tys : List (ClassId × FieldType)} (hP : va_P D cl ws H) (hK : va_K D cl tys s) (hD : va_D A0 ws) : ∀ U : State, U.heap = H → s.vm.Alike U.vm → gw_UW D cl ws tys H.size U := fun U hU hW => ⟨by rw [hU], by rw [hU]; exact hP, va_K.moved hW hK, hD.weaken (fun _ _ _ _ => trivial)⟩
/-- a call of a static method that reads alone -/
theorem gw_rS {U0 : State → Prop} {lv : List (Nat × Value)} (C0 : CallFix p m c cc nL s args lw_all own) (hM : Met l y (ws_ y bytes maxL ret) rm (va_Pc As U0) (QcRead r) 0 0 (fun _ => False)) (g : GoodIn lw_all (va_wsS own index y (ws_ y bytes maxL ret))) (hd : y.cls ≠ "java/lang/invoke/MethodHandle" ∧ y.cls ≠ "java/lang/invoke/VarHandle" ∧ (parseMethodDescriptor y.desc).map (fun d => d.parameters.length) = some n) (hn : As.length = n) (hrc : rm.cells = 0) (hrs : rm.slots = 0) (hR : rm.frames + 1 ≤ R.frames ∧ 8 + (maxL + 11) + rm.locals ≤ R.locals)
    (hl : lv_has ls nL lv) (hstack : st0 = As.reverse ++ rest) (hW : (rest.map fun v => v.category).sum ≤ 8) (hdg : decode cc pc = .ok (.invokestatic index, 3)) (hf : cells ≤ R.cells ∧ slots ≤ R.slots)
    (hbl : ∀ (a : Array Value) (U : State) (g : JFrame) (mk : MethodId), U0 U → U0 (U.calling g mk a)) (hp : ∀ U : State, U.heap = H → s.vm.Alike U.vm → U0 U)
    (kk : W p l e R s m args below meth c H locs cells slots Q (F0 m (pc + 3) ls (.int r :: rest))) : W p l e R s m args below meth c H locs cells slots Q (F0 m pc ls st0) :=
  W.callR (W.runS (As := As) (rest := rest) C0 hM (va_cwS n C0.2.2.2.2 g rfl hrc hrs hd hR) ⟨fun a U g mk q => ⟨q.1, hbl a U g mk q.2⟩, fun U hU hW => ⟨rfl, hp U hU hW.alike⟩⟩ rfl hn hl.1 hstack (lv_room hW) hdg hf) kk
/-- .. that answers nothing -/
theorem gw_rSv {U0 : State → Prop} {lv : List (Nat × Value)} (C0 : CallFix p m c cc nL s args lw_all own) (hM : Met l y (ws_ y bytes maxL ret) rm (va_Pc As U0) (va_Sv (fun _ => True)) 0 0 (fun _ => False)) (g : GoodIn lw_all (va_wsS own index y (ws_ y bytes maxL ret))) (hd : y.cls ≠ "java/lang/invoke/MethodHandle" ∧ y.cls ≠ "java/lang/invoke/VarHandle" ∧ (parseMethodDescriptor y.desc).map (fun d => d.parameters.length) = some n) (hn : As.length = n) (hrc : rm.cells = 0) (hrs : rm.slots = 0) (hR : rm.frames + 1 ≤ R.frames ∧ 8 + (maxL + 11) + rm.locals ≤ R.locals)
    (hl : lv_has ls nL lv) (hstack : st0 = As.reverse ++ rest) (hW : (rest.map fun v => v.category).sum ≤ 8) (hdg : decode cc pc = .ok (.invokestatic index, 3)) (hf : cells ≤ R.cells ∧ slots ≤ R.slots)
    (hbl : ∀ (a : Array Value) (U : State) (g : JFrame) (mk : MethodId), U0 U → U0 (U.calling g mk a)) (hp : ∀ U : State, U.heap = H → s.vm.Alike U.vm → U0 U)
    (kk : W p l e R s m args below meth c H locs cells slots Q (F0 m (pc + 3) ls rest)) : W p l e R s m args below meth c H locs cells slots Q (F0 m pc ls st0) :=
  va_csv (W.runS (As := As) (rest := rest) C0 hM (va_cwS n C0.2.2.2.2 g rfl hrc hrs hd hR) ⟨fun a U g mk q => ⟨q.1, hbl a U g mk q.2⟩, fun U hU hW => ⟨rfl, hp U hU hW.alike⟩⟩ rfl hn hl.1 hstack (lv_room hW) hdg hf) (fun _ => kk)
/-- a call through an object, of a method that reads alone -/
theorem gw_rV {U0 : State → Prop} {lv : List (Nat × Value)} (C0 : CallFix p m c cc nL s args lw_all own) (hM : Met l y (ws_ y bytes maxL ret) rm (va_Pc (.ref b :: As) U0) (QcRead r) 0 0 (fun _ => False)) (g : GoodIn lw_all (wsV own index C y (ws_ y bytes maxL ret))) (hd : y.cls = C ∧ y.cls ≠ "java/lang/invoke/MethodHandle" ∧ y.cls ≠ "java/lang/invoke/VarHandle" ∧ (parseMethodDescriptor y.desc).map (fun d => d.parameters.length) = some n) (hn : As.length = n) (hrc : rm.cells = 0) (hrs : rm.slots = 0) (hR : rm.frames + 1 ≤ R.frames ∧ 8 + (maxL + 11) + rm.locals ≤ R.locals)
    (hl : lv_has ls nL lv) (hstack : st0 = As.reverse ++ .ref b :: rest) (hW : (rest.map fun v => v.category).sum ≤ 8) (hdg : decode cc pc = .ok (.invokevirtual index, 3)) (hf : cells ≤ R.cells ∧ slots ≤ R.slots)
    (hrecv : ∃ cellB : Cell, H[b]? = some cellB ∧ cellB.vm.isStatics = false ∧ s.vm.findClass C = some cellB.cls)
    (hbl : ∀ (a : Array Value) (U : State) (g : JFrame) (mk : MethodId), U0 U → U0 (U.calling g mk a)) (hp : ∀ U : State, U.heap = H → s.vm.Alike U.vm → U0 U)
    (kk : W p l e R s m args below meth c H locs cells slots Q (F0 m (pc + 3) ls (.int r :: rest))) : W p l e R s m args below meth c H locs cells slots Q (F0 m pc ls st0) :=
  W.callR (W.runV (As := As) (rest := rest) C0 hM (cwV n C0.2.2.2.2 g rfl hrc hrs hd hR) ⟨fun a U g mk q => ⟨q.1, hbl a U g mk q.2⟩, hrecv, fun U hU hW => ⟨rfl, hp U hU hW.alike⟩⟩ rfl hn hl.1 hstack (lv_room hW) hdg hf) kk
theorem gw_rVv {U0 : State → Prop} {lv : List (Nat × Value)} (C0 : CallFix p m c cc nL s args lw_all own) (hM : Met l y (ws_ y bytes maxL ret) rm (va_Pc (.ref b :: As) U0) (va_Sv (fun _ => True)) 0 0 (fun _ => False)) (g : GoodIn lw_all (wsV own index C y (ws_ y bytes maxL ret))) (hd : y.cls = C ∧ y.cls ≠ "java/lang/invoke/MethodHandle" ∧ y.cls ≠ "java/lang/invoke/VarHandle" ∧ (parseMethodDescriptor y.desc).map (fun d => d.parameters.length) = some n) (hn : As.length = n) (hrc : rm.cells = 0) (hrs : rm.slots = 0) (hR : rm.frames + 1 ≤ R.frames ∧ 8 + (maxL + 11) + rm.locals ≤ R.locals)
    (hl : lv_has ls nL lv) (hstack : st0 = As.reverse ++ .ref b :: rest) (hW : (rest.map fun v => v.category).sum ≤ 8) (hdg : decode cc pc = .ok (.invokevirtual index, 3)) (hf : cells ≤ R.cells ∧ slots ≤ R.slots)
    (hrecv : ∃ cellB : Cell, H[b]? = some cellB ∧ cellB.vm.isStatics = false ∧ s.vm.findClass C = some cellB.cls)
    (hbl : ∀ (a : Array Value) (U : State) (g : JFrame) (mk : MethodId), U0 U → U0 (U.calling g mk a)) (hp : ∀ U : State, U.heap = H → s.vm.Alike U.vm → U0 U)
    (kk : W p l e R s m args below meth c H locs cells slots Q (F0 m (pc + 3) ls rest)) : W p l e R s m args below meth c H locs cells slots Q (F0 m pc ls st0) :=
  va_csv (W.runV (As := As) (rest := rest) C0 hM (cwV n C0.2.2.2.2 g rfl hrc hrs hd hR) ⟨fun a U g mk q => ⟨q.1, hbl a U g mk q.2⟩, hrecv, fun U hU hW => ⟨rfl, hp U hU hW.alike⟩⟩ rfl hn hl.1 hstack (lv_room hW) hdg hf) (fun _ => kk)
/-- behind a call that wrote: the caller's cells beside what came back, in the order isF -/
theorem gw_jn {wc wr w1 wF : va_W} {H1 : Heap} (hP : va_P D cl ws H) (hD : va_D A0 ws) (isC isR isF : List Nat) (hC : isC.map (fun i => ws[i]?) = wc.map some) (hR : isR.map (fun i => ws[i]?) = wr.map some) (hn : va_nd isR = true) (hdis : ∀ i ∈ isR, i ∉ isC) (hF1 : isF.filterMap (fun i => (wr ++ w1)[i]?) = wF) (hF2 : isF.map (fun i => (wr ++ w1)[i]?) = wF.map some) (hnF : va_nd isF = true)
    (hk : ∀ q : Nat, q < H.size → ¬ va_A wc H.size q → H1[q]? = H[q]?) (hF : ∀ q, va_A wc H.size q → A0 q) (hP1 : va_P D cl w1 H1) (hD1 : va_D (va_A wc H.size) w1) : va_P D cl wF H1 ∧ va_D A0 wF := by
  obtain ⟨h1, h2⟩ := va_join (wr := wr) (w1 := w1) hP hD isC isR hC hR hn hdis hk hF hP1 hD1
  exact ⟨h1.sub isF hF1, h2.sub isF hnF hF2⟩
/-- a call through an object, of a method that writes its world -/
theorem gw_wV {lv : List (Nat × Value)} {wc wr w1 wF : va_W} {tc : List (ClassId × FieldType)} (isC isR isF isT : List Nat) (C0 : CallFix p m c cc nL s args lw_all own) (hM : Met l y (ws_ y bytes maxL ret) rm (va_Pc (.ref b :: As) (gw_UW D cl wc tc H.size)) (gw_QW D cl w1 (va_A wc H.size)) mc ms (va_A wc H.size)) (g : GoodIn lw_all (wsV own index C y (ws_ y bytes maxL ret))) (hd : y.cls = C ∧ y.cls ≠ "java/lang/invoke/MethodHandle" ∧ y.cls ≠ "java/lang/invoke/VarHandle" ∧ (parseMethodDescriptor y.desc).map (fun d => d.parameters.length) = some n) (hn : As.length = n) (hrc : rm.cells = mc) (hrs : rm.slots = ms) (hR : rm.frames + 1 ≤ R.frames ∧ 8 + (maxL + 11) + rm.locals ≤ R.locals)
    (hl : lv_has ls nL lv) (hstack : st0 = As.reverse ++ .ref b :: rest) (hW : (rest.map fun v => v.category).sum ≤ 8) (hdg : decode cc pc = .ok (.invokevirtual index, 3)) (hf : cells + mc ≤ R.cells ∧ slots + ms ≤ R.slots)
    (hrecv : ∃ cellB : Cell, H[b]? = some cellB ∧ cellB.vm.isStatics = false ∧ s.vm.findClass C = some cellB.cls)
    (hK : va_K D cl tys s) (hP : va_P D cl ws H) (hD : va_D A0 ws) (hS : va_S A0 H0 H locs) (hA : ∀ q : Nat, H0.size ≤ q → A0 q)
    (hC : isC.map (fun i => ws[i]?) = wc.map some) (hC2 : isC.filterMap (fun i => ws[i]?) = wc) (hnC : va_nd isC = true) (hRr : isR.map (fun i => ws[i]?) = wr.map some) (hnR : va_nd isR = true) (hdis : ∀ i ∈ isR, i ∉ isC) (hT : isT.filterMap (fun i => tys[i]?) = tc) (hF1 : isF.filterMap (fun i => (wr ++ w1)[i]?) = wF) (hF2 : isF.map (fun i => (wr ++ w1)[i]?) = wF.map some) (hnF : va_nd isF = true)
    (kk : ∀ (H1 : Heap) (locs1 : List Loc), va_P D cl wF H1 → va_D A0 wF → va_S A0 H0 H1 locs1 → W p l e R s m args below meth c H1 locs1 (cells + mc) (slots + ms) Q (F0 m (pc + 3) ls rest)) : W p l e R s m args below meth c H locs cells slots Q (F0 m pc ls st0) := by
  have hFc := va_free (wc := wc) hD hS hA isC hC
  refine va_callv (va_runV (As := As) (rest := rest) C0 hM (cwV n C0.2.2.2.2 g rfl hrc hrs hd hR) ⟨fun a U g mk q => ⟨q.1, gw_UWbl a U g mk q.2⟩, hrecv, fun U hU hW => ⟨rfl, gw_UWmk (hP.sub isC hC2) (hK.sub isT hT) (hD.sub isC hnC hC) U hU hW.alike⟩⟩ rfl hn hl.1 hstack (lv_room hW) hdg hf) hS (fun q _ h => hFc q h) hFc (fun u t H1 locs1 ht _ _ hB _ hk1 hS1 => ?_)
  obtain ⟨hP1, hD1⟩ := hB
  rw [ht] at hP1
  obtain ⟨h1, h2⟩ := gw_jn hP hD isC isR isF hC hRr hnR hdis hF1 hF2 hnF hk1 hFc hP1 hD1
  exact kk H1 locs1 h1 h2 hS1
/-- .. and answers an int -/
theorem gw_wVi {lv : List (Nat × Value)} {wc wr w1 wF : va_W} {tc : List (ClassId × FieldType)} (isC isR isF isT : List Nat) (C0 : CallFix p m c cc nL s args lw_all own) (hM : Met l y (ws_ y bytes maxL ret) rm (va_Pc (.ref b :: As) (gw_UW D cl wc tc H.size)) (gw_QI r D cl w1 (va_A wc H.size)) mc ms (va_A wc H.size)) (g : GoodIn lw_all (wsV own index C y (ws_ y bytes maxL ret))) (hd : y.cls = C ∧ y.cls ≠ "java/lang/invoke/MethodHandle" ∧ y.cls ≠ "java/lang/invoke/VarHandle" ∧ (parseMethodDescriptor y.desc).map (fun d => d.parameters.length) = some n) (hn : As.length = n) (hrc : rm.cells = mc) (hrs : rm.slots = ms) (hR : rm.frames + 1 ≤ R.frames ∧ 8 + (maxL + 11) + rm.locals ≤ R.locals)
    (hl : lv_has ls nL lv) (hstack : st0 = As.reverse ++ .ref b :: rest) (hW : (rest.map fun v => v.category).sum ≤ 8) (hdg : decode cc pc = .ok (.invokevirtual index, 3)) (hf : cells + mc ≤ R.cells ∧ slots + ms ≤ R.slots)
    (hrecv : ∃ cellB : Cell, H[b]? = some cellB ∧ cellB.vm.isStatics = false ∧ s.vm.findClass C = some cellB.cls)
    (hK : va_K D cl tys s) (hP : va_P D cl ws H) (hD : va_D A0 ws) (hS : va_S A0 H0 H locs) (hA : ∀ q : Nat, H0.size ≤ q → A0 q)
    (hC : isC.map (fun i => ws[i]?) = wc.map some) (hC2 : isC.filterMap (fun i => ws[i]?) = wc) (hnC : va_nd isC = true) (hRr : isR.map (fun i => ws[i]?) = wr.map some) (hnR : va_nd isR = true) (hdis : ∀ i ∈ isR, i ∉ isC) (hT : isT.filterMap (fun i => tys[i]?) = tc) (hF1 : isF.filterMap (fun i => (wr ++ w1)[i]?) = wF) (hF2 : isF.map (fun i => (wr ++ w1)[i]?) = wF.map some) (hnF : va_nd isF = true)
    (kk : ∀ (H1 : Heap) (locs1 : List Loc), va_P D cl wF H1 → va_D A0 wF → va_S A0 H0 H1 locs1 → W p l e R s m args below meth c H1 locs1 (cells + mc) (slots + ms) Q (F0 m (pc + 3) ls (.int r :: rest))) : W p l e R s m args below meth c H locs cells slots Q (F0 m pc ls st0) := by
  have hFc := va_free (wc := wc) hD hS hA isC hC
  refine va_calli (va_runV (As := As) (rest := rest) C0 hM (cwV n C0.2.2.2.2 g rfl hrc hrs hd hR) ⟨fun a U g mk q => ⟨q.1, gw_UWbl a U g mk q.2⟩, hrecv, fun U hU hW => ⟨rfl, gw_UWmk (hP.sub isC hC2) (hK.sub isT hT) (hD.sub isC hnC hC) U hU hW.alike⟩⟩ rfl hn hl.1 hstack (lv_room hW) hdg hf) hS (fun q _ h => hFc q h) hFc (fun z u t H1 locs1 ht _ hz hB _ hk1 hS1 => ?_)
  obtain ⟨hP1, hD1⟩ := hB
  rw [ht] at hP1
  obtain ⟨h1, h2⟩ := gw_jn hP hD isC isR isF hC hRr hnR hdis hF1 hF2 hnF hk1 hFc hP1 hD1
  rw [hz]
  exact kk H1 locs1 h1 h2 hS1
/-- static ones that write -/
theorem gw_wS {lv : List (Nat × Value)} {wc wr w1 wF : va_W} {tc : List (ClassId × FieldType)} (isC isR isF isT : List Nat) (C0 : CallFix p m c cc nL s args lw_all own) (hM : Met l y (ws_ y bytes maxL ret) rm (va_Pc As (gw_UW D cl wc tc H.size)) (gw_QW D cl w1 (va_A wc H.size)) mc ms (va_A wc H.size)) (g : GoodIn lw_all (va_wsS own index y (ws_ y bytes maxL ret))) (hd : y.cls ≠ "java/lang/invoke/MethodHandle" ∧ y.cls ≠ "java/lang/invoke/VarHandle" ∧ (parseMethodDescriptor y.desc).map (fun d => d.parameters.length) = some n) (hn : As.length = n) (hrc : rm.cells = mc) (hrs : rm.slots = ms) (hR : rm.frames + 1 ≤ R.frames ∧ 8 + (maxL + 11) + rm.locals ≤ R.locals)
    (hl : lv_has ls nL lv) (hstack : st0 = As.reverse ++ rest) (hW : (rest.map fun v => v.category).sum ≤ 8) (hdg : decode cc pc = .ok (.invokestatic index, 3)) (hf : cells + mc ≤ R.cells ∧ slots + ms ≤ R.slots)
    (hK : va_K D cl tys s) (hP : va_P D cl ws H) (hD : va_D A0 ws) (hS : va_S A0 H0 H locs) (hA : ∀ q : Nat, H0.size ≤ q → A0 q)
    (hC : isC.map (fun i => ws[i]?) = wc.map some) (hC2 : isC.filterMap (fun i => ws[i]?) = wc) (hnC : va_nd isC = true) (hRr : isR.map (fun i => ws[i]?) = wr.map some) (hnR : va_nd isR = true) (hdis : ∀ i ∈ isR, i ∉ isC) (hT : isT.filterMap (fun i => tys[i]?) = tc) (hF1 : isF.filterMap (fun i => (wr ++ w1)[i]?) = wF) (hF2 : isF.map (fun i => (wr ++ w1)[i]?) = wF.map some) (hnF : va_nd isF = true)
    (kk : ∀ (H1 : Heap) (locs1 : List Loc), va_P D cl wF H1 → va_D A0 wF → va_S A0 H0 H1 locs1 → W p l e R s m args below meth c H1 locs1 (cells + mc) (slots + ms) Q (F0 m (pc + 3) ls rest)) : W p l e R s m args below meth c H locs cells slots Q (F0 m pc ls st0) := by
  have hFc := va_free (wc := wc) hD hS hA isC hC
  refine va_callv (va_runS (As := As) (rest := rest) C0 hM (va_cwS n C0.2.2.2.2 g rfl hrc hrs hd hR) ⟨fun a U g mk q => ⟨q.1, gw_UWbl a U g mk q.2⟩, fun U hU hW => ⟨rfl, gw_UWmk (hP.sub isC hC2) (hK.sub isT hT) (hD.sub isC hnC hC) U hU hW.alike⟩⟩ rfl hn hl.1 hstack (lv_room hW) hdg hf) hS (fun q _ h => hFc q h) hFc (fun u t H1 locs1 ht _ _ hB _ hk1 hS1 => ?_)
  obtain ⟨hP1, hD1⟩ := hB
  rw [ht] at hP1
  obtain ⟨h1, h2⟩ := gw_jn hP hD isC isR isF hC hRr hnR hdis hF1 hF2 hnF hk1 hFc hP1 hD1
  exact kk H1 locs1 h1 h2 hS1
theorem gw_wSi {lv : List (Nat × Value)} {wc wr w1 wF : va_W} {tc : List (ClassId × FieldType)} (isC isR isF isT : List Nat) (C0 : CallFix p m c cc nL s args lw_all own) (hM : Met l y (ws_ y bytes maxL ret) rm (va_Pc As (gw_UW D cl wc tc H.size)) (gw_QI r D cl w1 (va_A wc H.size)) mc ms (va_A wc H.size)) (g : GoodIn lw_all (va_wsS own index y (ws_ y bytes maxL ret))) (hd : y.cls ≠ "java/lang/invoke/MethodHandle" ∧ y.cls ≠ "java/lang/invoke/VarHandle" ∧ (parseMethodDescriptor y.desc).map (fun d => d.parameters.length) = some n) (hn : As.length = n) (hrc : rm.cells = mc) (hrs : rm.slots = ms) (hR : rm.frames + 1 ≤ R.frames ∧ 8 + (maxL + 11) + rm.locals ≤ R.locals)
    (hl : lv_has ls nL lv) (hstack : st0 = As.reverse ++ rest) (hW : (rest.map fun v => v.category).sum ≤ 8) (hdg : decode cc pc = .ok (.invokestatic index, 3)) (hf : cells + mc ≤ R.cells ∧ slots + ms ≤ R.slots)
    (hK : va_K D cl tys s) (hP : va_P D cl ws H) (hD : va_D A0 ws) (hS : va_S A0 H0 H locs) (hA : ∀ q : Nat, H0.size ≤ q → A0 q)
    (hC : isC.map (fun i => ws[i]?) = wc.map some) (hC2 : isC.filterMap (fun i => ws[i]?) = wc) (hnC : va_nd isC = true) (hRr : isR.map (fun i => ws[i]?) = wr.map some) (hnR : va_nd isR = true) (hdis : ∀ i ∈ isR, i ∉ isC) (hT : isT.filterMap (fun i => tys[i]?) = tc) (hF1 : isF.filterMap (fun i => (wr ++ w1)[i]?) = wF) (hF2 : isF.map (fun i => (wr ++ w1)[i]?) = wF.map some) (hnF : va_nd isF = true)
    (kk : ∀ (H1 : Heap) (locs1 : List Loc), va_P D cl wF H1 → va_D A0 wF → va_S A0 H0 H1 locs1 → W p l e R s m args below meth c H1 locs1 (cells + mc) (slots + ms) Q (F0 m (pc + 3) ls (.int r :: rest))) : W p l e R s m args below meth c H locs cells slots Q (F0 m pc ls st0) := by
  have hFc := va_free (wc := wc) hD hS hA isC hC
  refine va_calli (va_runS (As := As) (rest := rest) C0 hM (va_cwS n C0.2.2.2.2 g rfl hrc hrs hd hR) ⟨fun a U g mk q => ⟨q.1, gw_UWbl a U g mk q.2⟩, fun U hU hW => ⟨rfl, gw_UWmk (hP.sub isC hC2) (hK.sub isT hT) (hD.sub isC hnC hC) U hU hW.alike⟩⟩ rfl hn hl.1 hstack (lv_room hW) hdg hf) hS (fun q _ h => hFc q h) hFc (fun z u t H1 locs1 ht _ hz hB _ hk1 hS1 => ?_)
  obtain ⟨hP1, hD1⟩ := hB
  rw [ht] at hP1
  obtain ⟨h1, h2⟩ := gw_jn hP hD isC isR isF hC hRr hnR hdis hF1 hF2 hnF hk1 hFc hP1 hD1
  rw [hz]
  exact kk H1 locs1 h1 h2 hS1
/-- the end of a method that writes its world -/
theorem gw_ev {w1 : va_W} {A : Nat → Prop} {below : List Frame} (hx : p.tables.exec = Jvm.exec) (hb : c.code = cc) (hr : meth.sig.returnType = none) (hlocks : meth.locks = false) (hP : va_P D cl w1 H) (hD : va_D A w1) (hS : va_S A s.heap H locs) (hdg : decode cc pc = .ok (.return_, 1)) : W p l e R s m args below meth c H locs cells slots (MQ below (gw_QW D cl w1 A) args s cells slots A) (F0 m pc ls []) :=
  W.vret hx hb hr (fun t ht _ => ⟨⟨(), rfl, trivial, by rw [ht]; exact hP, hD⟩, hS.F ht⟩) hS.2.2 hdg hlocks
theorem gw_ei {w1 : va_W} {A : Nat → Prop} {below : List Frame} {v : Int32} {ty : FieldType} (hx : p.tables.exec = Jvm.exec) (hb : c.code = cc) (hr : meth.sig.returnType = some ty) (hlocks : meth.locks = false) (hn : narrow ty (.int v) = .int v) (hv : v = r) (hP : va_P D cl w1 H) (hD : va_D A w1) (hS : va_S A s.heap H locs) (hdg : decode cc pc = .ok (.ireturn, 1)) : W p l e R s m args below meth c H locs cells slots (MQ below (gw_QI r D cl w1 A) args s cells slots A) (F0 m pc ls [.int v]) :=
  W.zret hx hb hr hn (fun t ht _ => ⟨⟨v, (), rfl, hv, by rw [ht]; exact hP, hD⟩, hS.F ht⟩) hS.2.2 hdg hlocks
end GWC
/-! the class's picture -/
abbrev gw_Cl : List vw_C := [(RX1, TX1, 2)]
abbrev gw_wx (x t n : Nat) : Nat × va_E := (x, .inr (0, [.ref t, .int (nI n)]))
abbrev gw_wb (t : Nat) (cB : ClassId) (g : gw_G) : Nat × va_E := (t, .inl (cB, 4096, .inl (fun j => gw_sb (g j))))
abbrev gw_wi (w : Nat) (cI : ClassId) (N : Nat) (g : gw_G) : Nat × va_E := (w, .inl (cI, N, .inl (fun j => nI (g j).val)))
abbrev gw_R (f k n o : Nat) : Room := { frames := f, cells := k, slots := n, locals := o }
end
section
/-! Preconditions, Utf8: contracts of methods that read alone -/
set_option maxHeartbeats 4000000 in
set_option maxRecDepth 100000 in
/-- checkPositionIndexes(a, b, N) with a ≤ b ≤ N: returns, nothing changes -/
theorem gw_check (l : Launch) (a b N : Nat) (h1 : a ≤ b) (h2 : b ≤ N) (h3 : N < 2 ^ 31) : Met l yX3_checkPositionIndexes (ws_ yX3_checkPositionIndexes cX3_checkPositionIndexes 3 none) (gw_R 0 0 0 0) (va_Pc [.int (nI a), .int (nI b), .int (nI N)] (fun _ => True)) (va_Sv (fun _ => True)) 0 0 (fun _ => False) := by
  refine gw_met [.int (nI a), .int (nI b), .int (nI N)] "Preconditions" rfl (by decide) (Nat.le_of_ble_eq_true rfl) ?_
  intro p e s m below meth c ls C0 hr hlocks hname hl hU
  obtain ⟨hx, hb, hml, hown, hts⟩ := id C0
  have hl : lv_has ls 3 [(0, .int (nI a)), (1, .int (nI b)), (2, .int (nI N))] := hl
  refine lv_iload_n hx hb dX3_checkPositionIndexes_0 rfl (lv_at hl 0 rfl) ?_
  refine gw_z_lt hx hb dX3_checkPositionIndexes_1 (tgt := 14) (by decide) (by omega) ?_
  refine lv_iload_n hx hb dX3_checkPositionIndexes_4 rfl (lv_at hl 1 rfl) ?_
  refine lv_iload_n hx hb dX3_checkPositionIndexes_5 rfl (lv_at hl 0 rfl) ?_
  refine gw_c_lt (tgt := 14) hx hb dX3_checkPositionIndexes_6 (by decide) (by omega) (by omega) (fun h6 => absurd h6 (by omega)) (fun h6 => ?_)
  refine lv_iload_n hx hb dX3_checkPositionIndexes_9 rfl (lv_at hl 1 rfl) ?_
  refine lv_iload_n hx hb dX3_checkPositionIndexes_10 rfl (lv_at hl 2 rfl) ?_
  refine gw_c_le (tgt := 24) hx hb dX3_checkPositionIndexes_11 (by decide) (by omega) (by omega) (fun h11 => ?_) (fun h11 => absurd h11 (by omega))
  exact gw_rv hx hb hr hlocks dX3_checkPositionIndexes_24
set_option maxHeartbeats 4000000 in
set_option maxRecDepth 100000 in
/-- the slow path: any text from i0 to e0 -/
theorem gw_slow (l : Launch) (D : va_G) (t : Nat) (cB : ClassId) (g : gw_G) (i0 e0 : Nat) (h1 : i0 ≤ e0) (h2 : e0 ≤ 4096) : Met l yX2_isWellFormedSlowPath (ws_ yX2_isWellFormedSlowPath cX2_isWellFormedSlowPath 6 (some .boolean)) (gw_R 0 0 0 0) (va_Pc [.ref t, .int (nI i0), .int (nI e0)] (gw_U D gw_Cl [gw_wb t cB g] [(cB, .byte)])) (QcRead (nI (gw_tf (gw_wf g i0 e0)))) 0 0 (fun _ => False) := by
  refine gw_met [.ref t, .int (nI i0), .int (nI e0)] "Utf8" rfl (by decide) (Nat.le_of_ble_eq_true rfl) ?_
  intro p e s m below meth c ls C0 hr hlocks hname hl hU
  obtain ⟨hx, hb, hml, hown, hts⟩ := id C0
  obtain ⟨hP, hK⟩ := hU
  have hl : lv_has ls 6 [(0, .ref t), (1, .int (nI i0)), (2, .int (nI e0))] := hl
  have loop : ∀ (n i : Nat), e0 < i + n → i ≤ e0 → gw_wf g i e0 = gw_wf g i0 e0 → ∀ ls : Array Slot, lv_has ls 6 [(0, .ref t), (2, .int (nI e0)), (3, .int (nI i))] → W p l e (gw_R 0 0 0 0) s m ([.ref t, .int (nI i0), .int (nI e0)] : List Value).toArray below meth c s.heap [] 0 0 (MQ below (QcRead (nI (gw_tf (gw_wf g i0 e0)))) ([.ref t, .int (nI i0), .int (nI e0)] : List Value).toArray s 0 0 (fun _ => False)) (F0 m 2 ls []) := by
    intro n
    induction n with
    | zero =>
      intro i hn hi
      exact absurd hn (by omega)
    | succ n ih =>
      intro i hn hi hw ls hl
      refine lv_iload_n hx hb dX2_isWellFormedSlowPath_2 rfl (lv_at hl 2 rfl) ?_
      refine lv_iload_n hx hb dX2_isWellFormedSlowPath_3 rfl (lv_at hl 1 rfl) ?_
      refine gw_c_lt (tgt := 9) hx hb dX2_isWellFormedSlowPath_4 (by decide) (by omega) (by omega) (fun h4 => ?_) (fun h4 => ?_)
      · have b0 := (g i).isLt
        have c0 := gw_siC (g i)
        refine lv_aload_n hx hb dX2_isWellFormedSlowPath_9 rfl (lv_at hl 0 rfl) ?_
        refine lv_iload_n hx hb dX2_isWellFormedSlowPath_10 rfl (lv_at hl 2 rfl) ?_
        refine lv_iinc (v := nI (i + 1)) (lv' := [(3, .int (nI (i + 1))), (0, .ref t), (2, .int (nI e0))]) hx hb dX2_isWellFormedSlowPath_11 hl (k := 2) rfl (by exact nI_1 _) (by decide) rfl (fun ls hl => ?_)
        refine gw_bld (k := i) (g := g) hx hb hK hP 0 0 rfl rfl (by omega) (by decide) dX2_isWellFormedSlowPath_14 ?_
        refine lv_dup hx hb dX2_isWellFormedSlowPath_15 rfl ?_
        refine lv_istore (lv' := [(4, .int (gw_sb (g i))), (3, .int (nI (i + 1))), (0, .ref t), (2, .int (nI e0))]) hx hb dX2_isWellFormedSlowPath_16 hl (by decide) rfl (fun ls hl => ?_)
        refine gw_b_ge (tgt := 2) hx hb dX2_isWellFormedSlowPath_18 (by decide) (fun h18 => ?_) (fun h18 => ?_)
        · exact ih (i + 1) (by omega) (by omega) (by rw [← hw]; exact (gw_asc h4 h18).symm) ls (lv_sub hl [2, 3, 1] rfl)
        · refine lv_iload hx hb dX2_isWellFormedSlowPath_21 (lv_at hl 0 rfl) ?_
          refine lv_bipush (v := (-32)) hx hb dX2_isWellFormedSlowPath_23 (by decide) ?_
          refine gw_i_ge (tgt := 55) hx hb dX2_isWellFormedSlowPath_25 (by decide) (gw_sbT _) (Y := -32) (by decide) (fun h25 => ?_) (fun h25 => ?_)
          · refine lv_iload hx hb dX2_isWellFormedSlowPath_55 (lv_at hl 0 rfl) ?_
            refine lv_bipush (v := (-16)) hx hb dX2_isWellFormedSlowPath_57 (by decide) ?_
            refine gw_i_ge (tgt := 130) hx hb dX2_isWellFormedSlowPath_59 (by decide) (gw_sbT _) (Y := -16) (by decide) (fun h59 => ?_) (fun h59 => ?_)
            · refine lv_iload_n hx hb dX2_isWellFormedSlowPath_130 rfl (lv_at hl 1 rfl) ?_
              refine lv_iconst (v := nI 2) hx hb dX2_isWellFormedSlowPath_131 (by decide) ?_
              refine gw_add hx hb dX2_isWellFormedSlowPath_132 ?_
              refine lv_iload_n hx hb dX2_isWellFormedSlowPath_133 rfl (lv_at hl 3 rfl) ?_
              refine gw_c_lt (tgt := 139) hx hb dX2_isWellFormedSlowPath_134 (by decide) (by omega) (by omega) (fun h134 => ?_) (fun h134 => ?_)
              · have c1 := gw_siC (g (i + 1))
                have b1 := (g (i + 1)).isLt
                have c2 := gw_siC (g (i + 2))
                have b2 := (g (i + 2)).isLt
                have c3 := gw_siC (g (i + 3))
                have b3 := (g (i + 3)).isLt
                refine lv_aload_n hx hb dX2_isWellFormedSlowPath_139 rfl (lv_at hl 2 rfl) ?_
                refine lv_iload_n hx hb dX2_isWellFormedSlowPath_140 rfl (lv_at hl 1 rfl) ?_
                refine lv_iinc (v := nI (i + 2)) (lv' := [(3, .int (nI (i + 2))), (4, .int (gw_sb (g i))), (0, .ref t), (2, .int (nI e0))]) hx hb dX2_isWellFormedSlowPath_141 hl (k := 1) rfl (by exact nI_1 _) (by decide) rfl (fun ls hl => ?_)
                refine gw_bld (k := i + 1) (g := g) hx hb hK hP 0 0 rfl rfl (by omega) (by decide) dX2_isWellFormedSlowPath_144 ?_
                refine lv_istore (lv' := [(5, .int (gw_sb (g (i + 1)))), (3, .int (nI (i + 2))), (4, .int (gw_sb (g i))), (0, .ref t), (2, .int (nI e0))]) hx hb dX2_isWellFormedSlowPath_145 hl (by decide) rfl (fun ls hl => ?_)
                refine lv_iload hx hb dX2_isWellFormedSlowPath_147 (lv_at hl 0 rfl) ?_
                refine lv_bipush (v := (-65)) hx hb dX2_isWellFormedSlowPath_149 (by decide) ?_
                refine gw_i_gt (tgt := 193) hx hb dX2_isWellFormedSlowPath_151 (by decide) (gw_sbT _) (Y := -65) (by decide) (fun h151 => ?_) (fun h151 => ?_)
                · refine lv_iconst (v := nI 0) hx hb dX2_isWellFormedSlowPath_193 (by decide) ?_
                  exact gw_rz hx hb hr hlocks rfl (by rw [← hw, gw_4f h4 (by omega) (by omega)]; rfl) dX2_isWellFormedSlowPath_194
                · have h4b := gw_g4 (g i) (g (i + 1)) (by omega) (by omega) (by omega)
                  refine lv_iload hx hb dX2_isWellFormedSlowPath_154 (lv_at hl 2 rfl) ?_
                  refine lv_bipush (v := nI 28) hx hb dX2_isWellFormedSlowPath_156 (by decide) ?_
                  refine lv_ishl hx hb dX2_isWellFormedSlowPath_158 ?_
                  refine lv_iload hx hb dX2_isWellFormedSlowPath_159 (lv_at hl 0 rfl) ?_
                  refine lv_bipush (v := (-112)) hx hb dX2_isWellFormedSlowPath_161 (by decide) ?_
                  refine lv_isub hx hb dX2_isWellFormedSlowPath_163 ?_
                  refine lv_iadd hx hb dX2_isWellFormedSlowPath_164 ?_
                  refine lv_bipush (v := nI 30) hx hb dX2_isWellFormedSlowPath_165 (by decide) ?_
                  refine lv_ishr hx hb dX2_isWellFormedSlowPath_167 ?_
                  refine lv_if_ne (tgt := 193) hx hb dX2_isWellFormedSlowPath_168 (by decide) (fun h168 => ?_) (fun h168 => ?_)
                  · rw [h4b] at h168
                    refine lv_iconst (v := nI 0) hx hb dX2_isWellFormedSlowPath_193 (by decide) ?_
                    exact gw_rz hx hb hr hlocks rfl (by rw [← hw, gw_4f h4 (by omega) (by omega)]; rfl) dX2_isWellFormedSlowPath_194
                  · rw [h4b] at h168
                    refine lv_aload_n hx hb dX2_isWellFormedSlowPath_171 rfl (lv_at hl 3 rfl) ?_
                    refine lv_iload_n hx hb dX2_isWellFormedSlowPath_172 rfl (lv_at hl 1 rfl) ?_
                    refine lv_iinc (v := nI (i + 3)) (lv' := [(3, .int (nI (i + 3))), (5, .int (gw_sb (g (i + 1)))), (4, .int (gw_sb (g i))), (0, .ref t), (2, .int (nI e0))]) hx hb dX2_isWellFormedSlowPath_173 hl (k := 1) rfl (by exact nI_1 _) (by decide) rfl (fun ls hl => ?_)
                    refine gw_bld (k := i + 2) (g := g) hx hb hK hP 0 0 rfl rfl (by omega) (by decide) dX2_isWellFormedSlowPath_176 ?_
                    refine lv_bipush (v := (-65)) hx hb dX2_isWellFormedSlowPath_177 (by decide) ?_
                    refine gw_i_gt (tgt := 193) hx hb dX2_isWellFormedSlowPath_179 (by decide) (gw_sbT _) (Y := -65) (by decide) (fun h179 => ?_) (fun h179 => ?_)
                    · refine lv_iconst (v := nI 0) hx hb dX2_isWellFormedSlowPath_193 (by decide) ?_
                      exact gw_rz hx hb hr hlocks rfl (by rw [← hw, gw_4f h4 (by omega) (by omega)]; rfl) dX2_isWellFormedSlowPath_194
                    · refine lv_aload_n hx hb dX2_isWellFormedSlowPath_182 rfl (lv_at hl 3 rfl) ?_
                      refine lv_iload_n hx hb dX2_isWellFormedSlowPath_183 rfl (lv_at hl 0 rfl) ?_
                      refine lv_iinc (v := nI (i + 4)) (lv' := [(3, .int (nI (i + 4))), (5, .int (gw_sb (g (i + 1)))), (4, .int (gw_sb (g i))), (0, .ref t), (2, .int (nI e0))]) hx hb dX2_isWellFormedSlowPath_184 hl (k := 0) rfl (by exact nI_1 _) (by decide) rfl (fun ls hl => ?_)
                      refine gw_bld (k := i + 3) (g := g) hx hb hK hP 0 0 rfl rfl (by omega) (by decide) dX2_isWellFormedSlowPath_187 ?_
                      refine lv_bipush (v := (-65)) hx hb dX2_isWellFormedSlowPath_188 (by decide) ?_
                      refine gw_i_le (tgt := 195) hx hb dX2_isWellFormedSlowPath_190 (by decide) (gw_sbT _) (Y := -65) (by decide) (fun h190 => ?_) (fun h190 => ?_)
                      · refine lv_goto (tgt := 2) hx hb dX2_isWellFormedSlowPath_195 (by decide) ?_
                        exact ih (i + 4) (by omega) (by omega) (by rw [← hw]; exact (gw_4t (by omega) (by omega) (by omega) (by omega) (by omega) (by omega) (by omega) (by omega) (by omega) (by omega) (by omega)).symm) ls (lv_sub hl [3, 4, 0] rfl)
                      · refine lv_iconst (v := nI 0) hx hb dX2_isWellFormedSlowPath_193 (by decide) ?_
                        exact gw_rz hx hb hr hlocks rfl (by rw [← hw, gw_4f h4 (by omega) (by omega)]; rfl) dX2_isWellFormedSlowPath_194
              · refine lv_iconst (v := nI 0) hx hb dX2_isWellFormedSlowPath_137 (by decide) ?_
                exact gw_rz hx hb hr hlocks rfl (by rw [← hw, gw_4f h4 (by omega) (by omega)]; rfl) dX2_isWellFormedSlowPath_138
            · refine lv_iload_n hx hb dX2_isWellFormedSlowPath_62 rfl (lv_at hl 1 rfl) ?_
              refine lv_iconst (v := nI 1) hx hb dX2_isWellFormedSlowPath_63 (by decide) ?_
              refine gw_add hx hb dX2_isWellFormedSlowPath_64 ?_
              refine lv_iload_n hx hb dX2_isWellFormedSlowPath_65 rfl (lv_at hl 3 rfl) ?_
              refine gw_c_lt (tgt := 71) hx hb dX2_isWellFormedSlowPath_66 (by decide) (by omega) (by omega) (fun h66 => ?_) (fun h66 => ?_)
              · have c1 := gw_siC (g (i + 1))
                have b1 := (g (i + 1)).isLt
                have c2 := gw_siC (g (i + 2))
                have b2 := (g (i + 2)).isLt
                refine lv_aload_n hx hb dX2_isWellFormedSlowPath_71 rfl (lv_at hl 2 rfl) ?_
                refine lv_iload_n hx hb dX2_isWellFormedSlowPath_72 rfl (lv_at hl 1 rfl) ?_
                refine lv_iinc (v := nI (i + 2)) (lv' := [(3, .int (nI (i + 2))), (4, .int (gw_sb (g i))), (0, .ref t), (2, .int (nI e0))]) hx hb dX2_isWellFormedSlowPath_73 hl (k := 1) rfl (by exact nI_1 _) (by decide) rfl (fun ls hl => ?_)
                refine gw_bld (k := i + 1) (g := g) hx hb hK hP 0 0 rfl rfl (by omega) (by decide) dX2_isWellFormedSlowPath_76 ?_
                refine lv_istore (lv' := [(5, .int (gw_sb (g (i + 1)))), (3, .int (nI (i + 2))), (4, .int (gw_sb (g i))), (0, .ref t), (2, .int (nI e0))]) hx hb dX2_isWellFormedSlowPath_77 hl (by decide) rfl (fun ls hl => ?_)
                refine lv_iload hx hb dX2_isWellFormedSlowPath_79 (lv_at hl 0 rfl) ?_
                refine lv_bipush (v := (-65)) hx hb dX2_isWellFormedSlowPath_81 (by decide) ?_
                refine gw_i_gt (tgt := 125) hx hb dX2_isWellFormedSlowPath_83 (by decide) (gw_sbT _) (Y := -65) (by decide) (fun h83 => ?_) (fun h83 => ?_)
                · refine lv_iconst (v := nI 0) hx hb dX2_isWellFormedSlowPath_125 (by decide) ?_
                  exact gw_rz hx hb hr hlocks rfl (by rw [← hw, gw_3f h4 (by omega) (by omega) (by omega)]; rfl) dX2_isWellFormedSlowPath_126
                · refine lv_iload hx hb dX2_isWellFormedSlowPath_86 (lv_at hl 2 rfl) ?_
                  refine lv_bipush (v := (-32)) hx hb dX2_isWellFormedSlowPath_88 (by decide) ?_
                  refine gw_i_ne (tgt := 100) hx hb dX2_isWellFormedSlowPath_90 (by decide) (gw_sbT _) (Y := -32) (by decide) (fun h90 => ?_) (fun h90 => ?_)
                  · refine lv_iload hx hb dX2_isWellFormedSlowPath_100 (lv_at hl 2 rfl) ?_
                    refine lv_bipush (v := (-19)) hx hb dX2_isWellFormedSlowPath_102 (by decide) ?_
                    refine gw_i_ne (tgt := 114) hx hb dX2_isWellFormedSlowPath_104 (by decide) (gw_sbT _) (Y := -19) (by decide) (fun h104 => ?_) (fun h104 => ?_)
                    · refine lv_aload_n hx hb dX2_isWellFormedSlowPath_114 rfl (lv_at hl 3 rfl) ?_
                      refine lv_iload_n hx hb dX2_isWellFormedSlowPath_115 rfl (lv_at hl 1 rfl) ?_
                      refine lv_iinc (v := nI (i + 3)) (lv' := [(3, .int (nI (i + 3))), (5, .int (gw_sb (g (i + 1)))), (4, .int (gw_sb (g i))), (0, .ref t), (2, .int (nI e0))]) hx hb dX2_isWellFormedSlowPath_116 hl (k := 1) rfl (by exact nI_1 _) (by decide) rfl (fun ls hl => ?_)
                      refine gw_bld (k := i + 2) (g := g) hx hb hK hP 0 0 rfl rfl (by omega) (by decide) dX2_isWellFormedSlowPath_119 ?_
                      refine lv_bipush (v := (-65)) hx hb dX2_isWellFormedSlowPath_120 (by decide) ?_
                      refine gw_i_le (tgt := 127) hx hb dX2_isWellFormedSlowPath_122 (by decide) (gw_sbT _) (Y := -65) (by decide) (fun h122 => ?_) (fun h122 => ?_)
                      · refine lv_goto (tgt := 195) hx hb dX2_isWellFormedSlowPath_127 (by decide) ?_
                        refine lv_goto (tgt := 2) hx hb dX2_isWellFormedSlowPath_195 (by decide) ?_
                        exact ih (i + 3) (by omega) (by omega) (by rw [← hw]; exact (gw_3t (by omega) (by omega) (by omega) (by omega) (by omega) (by omega) (by omega) (by omega) (by omega)).symm) ls (lv_sub hl [3, 4, 0] rfl)
                      · refine lv_iconst (v := nI 0) hx hb dX2_isWellFormedSlowPath_125 (by decide) ?_
                        exact gw_rz hx hb hr hlocks rfl (by rw [← hw, gw_3f h4 (by omega) (by omega) (by omega)]; rfl) dX2_isWellFormedSlowPath_126
                    · refine lv_iload hx hb dX2_isWellFormedSlowPath_107 (lv_at hl 0 rfl) ?_
                      refine lv_bipush (v := (-96)) hx hb dX2_isWellFormedSlowPath_109 (by decide) ?_
                      refine gw_i_ge (tgt := 125) hx hb dX2_isWellFormedSlowPath_111 (by decide) (gw_sbT _) (Y := -96) (by decide) (fun h111 => ?_) (fun h111 => ?_)
                      · refine lv_iconst (v := nI 0) hx hb dX2_isWellFormedSlowPath_125 (by decide) ?_
                        exact gw_rz hx hb hr hlocks rfl (by rw [← hw, gw_3f h4 (by omega) (by omega) (by omega)]; rfl) dX2_isWellFormedSlowPath_126
                      · refine lv_aload_n hx hb dX2_isWellFormedSlowPath_114 rfl (lv_at hl 3 rfl) ?_
                        refine lv_iload_n hx hb dX2_isWellFormedSlowPath_115 rfl (lv_at hl 1 rfl) ?_
                        refine lv_iinc (v := nI (i + 3)) (lv' := [(3, .int (nI (i + 3))), (5, .int (gw_sb (g (i + 1)))), (4, .int (gw_sb (g i))), (0, .ref t), (2, .int (nI e0))]) hx hb dX2_isWellFormedSlowPath_116 hl (k := 1) rfl (by exact nI_1 _) (by decide) rfl (fun ls hl => ?_)
                        refine gw_bld (k := i + 2) (g := g) hx hb hK hP 0 0 rfl rfl (by omega) (by decide) dX2_isWellFormedSlowPath_119 ?_
                        refine lv_bipush (v := (-65)) hx hb dX2_isWellFormedSlowPath_120 (by decide) ?_
                        refine gw_i_le (tgt := 127) hx hb dX2_isWellFormedSlowPath_122 (by decide) (gw_sbT _) (Y := -65) (by decide) (fun h122 => ?_) (fun h122 => ?_)
                        · refine lv_goto (tgt := 195) hx hb dX2_isWellFormedSlowPath_127 (by decide) ?_
                          refine lv_goto (tgt := 2) hx hb dX2_isWellFormedSlowPath_195 (by decide) ?_
                          exact ih (i + 3) (by omega) (by omega) (by rw [← hw]; exact (gw_3t (by omega) (by omega) (by omega) (by omega) (by omega) (by omega) (by omega) (by omega) (by omega)).symm) ls (lv_sub hl [3, 4, 0] rfl)
                        · refine lv_iconst (v := nI 0) hx hb dX2_isWellFormedSlowPath_125 (by decide) ?_
                          exact gw_rz hx hb hr hlocks rfl (by rw [← hw, gw_3f h4 (by omega) (by omega) (by omega)]; rfl) dX2_isWellFormedSlowPath_126
                  · refine lv_iload hx hb dX2_isWellFormedSlowPath_93 (lv_at hl 0 rfl) ?_
                    refine lv_bipush (v := (-96)) hx hb dX2_isWellFormedSlowPath_95 (by decide) ?_
                    refine gw_i_lt (tgt := 125) hx hb dX2_isWellFormedSlowPath_97 (by decide) (gw_sbT _) (Y := -96) (by decide) (fun h97 => ?_) (fun h97 => ?_)
                    · refine lv_iconst (v := nI 0) hx hb dX2_isWellFormedSlowPath_125 (by decide) ?_
                      exact gw_rz hx hb hr hlocks rfl (by rw [← hw, gw_3f h4 (by omega) (by omega) (by omega)]; rfl) dX2_isWellFormedSlowPath_126
                    · refine lv_iload hx hb dX2_isWellFormedSlowPath_100 (lv_at hl 2 rfl) ?_
                      refine lv_bipush (v := (-19)) hx hb dX2_isWellFormedSlowPath_102 (by decide) ?_
                      refine gw_i_ne (tgt := 114) hx hb dX2_isWellFormedSlowPath_104 (by decide) (gw_sbT _) (Y := -19) (by decide) (fun h104 => ?_) (fun h104 => ?_)
                      · refine lv_aload_n hx hb dX2_isWellFormedSlowPath_114 rfl (lv_at hl 3 rfl) ?_
                        refine lv_iload_n hx hb dX2_isWellFormedSlowPath_115 rfl (lv_at hl 1 rfl) ?_
                        refine lv_iinc (v := nI (i + 3)) (lv' := [(3, .int (nI (i + 3))), (5, .int (gw_sb (g (i + 1)))), (4, .int (gw_sb (g i))), (0, .ref t), (2, .int (nI e0))]) hx hb dX2_isWellFormedSlowPath_116 hl (k := 1) rfl (by exact nI_1 _) (by decide) rfl (fun ls hl => ?_)
                        refine gw_bld (k := i + 2) (g := g) hx hb hK hP 0 0 rfl rfl (by omega) (by decide) dX2_isWellFormedSlowPath_119 ?_
                        refine lv_bipush (v := (-65)) hx hb dX2_isWellFormedSlowPath_120 (by decide) ?_
                        refine gw_i_le (tgt := 127) hx hb dX2_isWellFormedSlowPath_122 (by decide) (gw_sbT _) (Y := -65) (by decide) (fun h122 => ?_) (fun h122 => ?_)
                        · refine lv_goto (tgt := 195) hx hb dX2_isWellFormedSlowPath_127 (by decide) ?_
                          refine lv_goto (tgt := 2) hx hb dX2_isWellFormedSlowPath_195 (by decide) ?_
                          exact ih (i + 3) (by omega) (by omega) (by rw [← hw]; exact (gw_3t (by omega) (by omega) (by omega) (by omega) (by omega) (by omega) (by omega) (by omega) (by omega)).symm) ls (lv_sub hl [3, 4, 0] rfl)
                        · refine lv_iconst (v := nI 0) hx hb dX2_isWellFormedSlowPath_125 (by decide) ?_
                          exact gw_rz hx hb hr hlocks rfl (by rw [← hw, gw_3f h4 (by omega) (by omega) (by omega)]; rfl) dX2_isWellFormedSlowPath_126
                      · refine lv_iload hx hb dX2_isWellFormedSlowPath_107 (lv_at hl 0 rfl) ?_
                        refine lv_bipush (v := (-96)) hx hb dX2_isWellFormedSlowPath_109 (by decide) ?_
                        refine gw_i_ge (tgt := 125) hx hb dX2_isWellFormedSlowPath_111 (by decide) (gw_sbT _) (Y := -96) (by decide) (fun h111 => ?_) (fun h111 => ?_)
                        · refine lv_iconst (v := nI 0) hx hb dX2_isWellFormedSlowPath_125 (by decide) ?_
                          exact gw_rz hx hb hr hlocks rfl (by rw [← hw, gw_3f h4 (by omega) (by omega) (by omega)]; rfl) dX2_isWellFormedSlowPath_126
                        · refine lv_aload_n hx hb dX2_isWellFormedSlowPath_114 rfl (lv_at hl 3 rfl) ?_
                          refine lv_iload_n hx hb dX2_isWellFormedSlowPath_115 rfl (lv_at hl 1 rfl) ?_
                          refine lv_iinc (v := nI (i + 3)) (lv' := [(3, .int (nI (i + 3))), (5, .int (gw_sb (g (i + 1)))), (4, .int (gw_sb (g i))), (0, .ref t), (2, .int (nI e0))]) hx hb dX2_isWellFormedSlowPath_116 hl (k := 1) rfl (by exact nI_1 _) (by decide) rfl (fun ls hl => ?_)
                          refine gw_bld (k := i + 2) (g := g) hx hb hK hP 0 0 rfl rfl (by omega) (by decide) dX2_isWellFormedSlowPath_119 ?_
                          refine lv_bipush (v := (-65)) hx hb dX2_isWellFormedSlowPath_120 (by decide) ?_
                          refine gw_i_le (tgt := 127) hx hb dX2_isWellFormedSlowPath_122 (by decide) (gw_sbT _) (Y := -65) (by decide) (fun h122 => ?_) (fun h122 => ?_)
                          · refine lv_goto (tgt := 195) hx hb dX2_isWellFormedSlowPath_127 (by decide) ?_
                            refine lv_goto (tgt := 2) hx hb dX2_isWellFormedSlowPath_195 (by decide) ?_
                            exact ih (i + 3) (by omega) (by omega) (by rw [← hw]; exact (gw_3t (by omega) (by omega) (by omega) (by omega) (by omega) (by omega) (by omega) (by omega) (by omega)).symm) ls (lv_sub hl [3, 4, 0] rfl)
                          · refine lv_iconst (v := nI 0) hx hb dX2_isWellFormedSlowPath_125 (by decide) ?_
                            exact gw_rz hx hb hr hlocks rfl (by rw [← hw, gw_3f h4 (by omega) (by omega) (by omega)]; rfl) dX2_isWellFormedSlowPath_126
              · refine lv_iconst (v := nI 0) hx hb dX2_isWellFormedSlowPath_69 (by decide) ?_
                exact gw_rz hx hb hr hlocks rfl (by rw [← hw, gw_3f h4 (by omega) (by omega) (by omega)]; rfl) dX2_isWellFormedSlowPath_70
          · refine lv_iload_n hx hb dX2_isWellFormedSlowPath_28 rfl (lv_at hl 1 rfl) ?_
            refine lv_iload_n hx hb dX2_isWellFormedSlowPath_29 rfl (lv_at hl 3 rfl) ?_
            refine gw_c_ne (tgt := 35) hx hb dX2_isWellFormedSlowPath_30 (by decide) (by omega) (by omega) (fun h30 => ?_) (fun h30 => ?_)
            · have c1 := gw_siC (g (i + 1))
              have b1 := (g (i + 1)).isLt
              refine lv_iload hx hb dX2_isWellFormedSlowPath_35 (lv_at hl 0 rfl) ?_
              refine lv_bipush (v := (-62)) hx hb dX2_isWellFormedSlowPath_37 (by decide) ?_
              refine gw_i_lt (tgt := 53) hx hb dX2_isWellFormedSlowPath_39 (by decide) (gw_sbT _) (Y := -62) (by decide) (fun h39 => ?_) (fun h39 => ?_)
              · refine lv_iconst (v := nI 0) hx hb dX2_isWellFormedSlowPath_53 (by decide) ?_
                exact gw_rz hx hb hr hlocks rfl (by rw [← hw, gw_2f h4 h18 (by omega) (by omega)]; rfl) dX2_isWellFormedSlowPath_54
              · refine lv_aload_n hx hb dX2_isWellFormedSlowPath_42 rfl (lv_at hl 2 rfl) ?_
                refine lv_iload_n hx hb dX2_isWellFormedSlowPath_43 rfl (lv_at hl 1 rfl) ?_
                refine lv_iinc (v := nI (i + 2)) (lv' := [(3, .int (nI (i + 2))), (4, .int (gw_sb (g i))), (0, .ref t), (2, .int (nI e0))]) hx hb dX2_isWellFormedSlowPath_44 hl (k := 1) rfl (by exact nI_1 _) (by decide) rfl (fun ls hl => ?_)
                refine gw_bld (k := i + 1) (g := g) hx hb hK hP 0 0 rfl rfl (by omega) (by decide) dX2_isWellFormedSlowPath_47 ?_
                refine lv_bipush (v := (-65)) hx hb dX2_isWellFormedSlowPath_48 (by decide) ?_
                refine gw_i_le (tgt := 195) hx hb dX2_isWellFormedSlowPath_50 (by decide) (gw_sbT _) (Y := -65) (by decide) (fun h50 => ?_) (fun h50 => ?_)
                · refine lv_goto (tgt := 2) hx hb dX2_isWellFormedSlowPath_195 (by decide) ?_
                  exact ih (i + 2) (by omega) (by omega) (by rw [← hw]; exact (gw_2t (by omega) (by omega) (by omega) (by omega) (by omega)).symm) ls (lv_sub hl [2, 3, 0] rfl)
                · refine lv_iconst (v := nI 0) hx hb dX2_isWellFormedSlowPath_53 (by decide) ?_
                  exact gw_rz hx hb hr hlocks rfl (by rw [← hw, gw_2f h4 h18 (by omega) (by omega)]; rfl) dX2_isWellFormedSlowPath_54
            · refine lv_iconst (v := nI 0) hx hb dX2_isWellFormedSlowPath_33 (by decide) ?_
              exact gw_rz hx hb hr hlocks rfl (by rw [← hw, gw_2f h4 h18 (by omega) (by omega)]; rfl) dX2_isWellFormedSlowPath_34
      · refine lv_iconst (v := nI 1) hx hb dX2_isWellFormedSlowPath_7 (by decide) ?_
        exact gw_rz hx hb hr hlocks rfl (by rw [← hw, gw_end h4]; rfl) dX2_isWellFormedSlowPath_8
  refine lv_iload_n hx hb dX2_isWellFormedSlowPath_0 rfl (lv_at hl 1 rfl) ?_
  refine lv_istore_n (lv' := [(3, .int (nI i0)), (0, .ref t), (1, .int (nI i0)), (2, .int (nI e0))]) hx hb dX2_isWellFormedSlowPath_1 rfl hl (by decide) rfl (fun ls hl => ?_)
  exact loop (e0 + 1) i0 (by omega) h1 rfl ls (lv_sub hl [1, 3, 0] rfl)
set_option maxHeartbeats 4000000 in
set_option maxRecDepth 100000 in
/-- isWellFormed(text, i0, k0) -/
theorem gw_iswf (l : Launch) (D : va_G) (t : Nat) (cB : ClassId) (g : gw_G) (i0 k0 : Nat) (h1 : i0 + k0 ≤ 4096) : Met l yX2_isWellFormed (ws_ yX2_isWellFormed cX2_isWellFormed 5 (some .boolean)) (gw_R 1 0 0 25) (va_Pc [.ref t, .int (nI i0), .int (nI k0)] (gw_U D gw_Cl [gw_wb t cB g] [(cB, .byte)])) (QcRead (nI (gw_tf (gw_wf g i0 (i0 + k0))))) 0 0 (fun _ => False) := by
  refine gw_met [.ref t, .int (nI i0), .int (nI k0)] "Utf8" rfl (by decide) (Nat.le_of_ble_eq_true rfl) ?_
  intro p e s m below meth c ls C0 hr hlocks hname hl hU
  obtain ⟨hx, hb, hml, hown, hts⟩ := id C0
  obtain ⟨hP, hK⟩ := hU
  have hl : lv_has ls 5 [(0, .ref t), (1, .int (nI i0)), (2, .int (nI k0))] := hl
  have loop : ∀ (n i : Nat), i0 + k0 < i + n → i ≤ i0 + k0 → gw_wf g i (i0 + k0) = gw_wf g i0 (i0 + k0) → ∀ ls : Array Slot, lv_has ls 5 [(0, .ref t), (3, .int (nI (i0 + k0))), (4, .int (nI i))] → W p l e (gw_R 1 0 0 25) s m ([.ref t, .int (nI i0), .int (nI k0)] : List Value).toArray below meth c s.heap [] 0 0 (MQ below (QcRead (nI (gw_tf (gw_wf g i0 (i0 + k0))))) ([.ref t, .int (nI i0), .int (nI k0)] : List Value).toArray s 0 0 (fun _ => False)) (F0 m 14 ls []) := by
    intro n
    induction n with
    | zero =>
      intro i hn hi
      exact absurd hn (by omega)
    | succ n ih =>
      intro i hn hi hw ls hl
      refine lv_iload hx hb dX2_isWellFormed_14 (lv_at hl 2 rfl) ?_
      refine lv_iload_n hx hb dX2_isWellFormed_16 rfl (lv_at hl 1 rfl) ?_
      refine gw_c_ge (tgt := 41) hx hb dX2_isWellFormed_17 (by decide) (by omega) (by omega) (fun h17 => ?_) (fun h17 => ?_)
      · refine lv_iconst (v := nI 1) hx hb dX2_isWellFormed_41 (by decide) ?_
        exact gw_rz hx hb hr hlocks rfl (by rw [← hw, gw_end h17]; rfl) dX2_isWellFormed_42
      · refine lv_aload_n hx hb dX2_isWellFormed_20 rfl (lv_at hl 0 rfl) ?_
        refine lv_iload hx hb dX2_isWellFormed_21 (lv_at hl 2 rfl) ?_
        refine gw_bld (k := i) (g := g) hx hb hK hP 0 0 rfl rfl (by omega) (by decide) dX2_isWellFormed_23 ?_
        refine gw_b_ge (tgt := 35) hx hb dX2_isWellFormed_24 (by decide) (fun h24 => ?_) (fun h24 => ?_)
        · refine lv_iinc (v := nI (i + 1)) (lv' := [(4, .int (nI (i + 1))), (0, .ref t), (3, .int (nI (i0 + k0)))]) hx hb dX2_isWellFormed_35 hl (k := 2) rfl (by exact nI_1 _) (by decide) rfl (fun ls hl => ?_)
          refine lv_goto (tgt := 14) hx hb dX2_isWellFormed_38 (by decide) ?_
          exact ih (i + 1) (by omega) (by omega) (by rw [← hw]; exact (gw_asc h17 h24).symm) ls (lv_sub hl [1, 2, 0] rfl)
        · refine lv_aload_n hx hb dX2_isWellFormed_27 rfl (lv_at hl 0 rfl) ?_
          refine lv_iload hx hb dX2_isWellFormed_28 (lv_at hl 2 rfl) ?_
          refine lv_iload_n hx hb dX2_isWellFormed_30 rfl (lv_at hl 1 rfl) ?_
          refine gw_rS (n := 3) (As := [.ref t, .int (nI i), .int (nI (i0 + k0))]) (rest := []) C0 (gw_slow l D t cB g i (i0 + k0) (by omega) h1) (lw_S q147 q148 q6 q149) (by decide +kernel) rfl rfl rfl ⟨Nat.le_of_ble_eq_true rfl, Nat.le_of_ble_eq_true rfl⟩ hl rfl (Nat.le_of_ble_eq_true rfl) dX2_isWellFormed_31 ⟨Nat.le_refl _, Nat.le_refl _⟩ gw_Ubl (gw_Umk hP hK) ?_
          exact gw_rz hx hb hr hlocks (gw_tfn _) (by rw [hw]) dX2_isWellFormed_34
  refine lv_iload_n hx hb dX2_isWellFormed_0 rfl (lv_at hl 1 rfl) ?_
  refine lv_iload_n hx hb dX2_isWellFormed_1 rfl (lv_at hl 2 rfl) ?_
  refine gw_add hx hb dX2_isWellFormed_2 ?_
  refine lv_istore_n (lv' := [(3, .int (nI (i0 + k0))), (0, .ref t), (1, .int (nI i0)), (2, .int (nI k0))]) hx hb dX2_isWellFormed_3 rfl hl (by decide) rfl (fun ls hl => ?_)
  refine lv_iload_n hx hb dX2_isWellFormed_4 rfl (lv_at hl 2 rfl) ?_
  refine lv_iload_n hx hb dX2_isWellFormed_5 rfl (lv_at hl 0 rfl) ?_
  refine lv_aload_n hx hb dX2_isWellFormed_6 rfl (lv_at hl 1 rfl) ?_
  refine va_alen (v := nI 4096) hx hb hK hP 0 0 rfl rfl rfl dX2_isWellFormed_7 ?_
  refine gw_rSv (n := 3) (As := [.int (nI i0), .int (nI (i0 + k0)), .int (nI 4096)]) (rest := []) C0 (gw_check l i0 (i0 + k0) 4096 (by omega) h1 (by decide)) (lw_S q77 q78 q7 q79) (by decide +kernel) rfl rfl rfl ⟨Nat.le_of_ble_eq_true rfl, Nat.le_of_ble_eq_true rfl⟩ hl rfl (Nat.le_of_ble_eq_true rfl) dX2_isWellFormed_8 ⟨Nat.le_refl _, Nat.le_refl _⟩ (fun _ _ _ _ q => q) (fun _ _ _ => trivial) ?_
  refine lv_iload_n hx hb dX2_isWellFormed_11 rfl (lv_at hl 2 rfl) ?_
  refine lv_istore (lv' := [(4, .int (nI i0)), (3, .int (nI (i0 + k0))), (0, .ref t), (1, .int (nI i0)), (2, .int (nI k0))]) hx hb dX2_isWellFormed_12 hl (by decide) rfl (fun ls hl => ?_)
  exact loop (i0 + k0 + 1) i0 (by omega) (by omega) rfl ls (lv_sub hl [2, 1, 0] rfl)
end
section
/-! WireText: contracts of its nine methods. The picture: gw_wx x t n (the object at x: its text at t, its size n), gw_wb t cB g (the text's 4096 bytes) -/
set_option maxHeartbeats 4000000 in
set_option maxRecDepth 100000 in
/-- size() -/
theorem gw_size (l : Launch) (D : va_G) (x t n : Nat) : Met l yX1_size (ws_ yX1_size cX1_size 1 (some .int)) (gw_R 0 0 0 0) (va_Pc [.ref x] (gw_U D gw_Cl [gw_wx x t n] [])) (QcRead (nI n)) 0 0 (fun _ => False) := by
  refine gw_met [.ref x] "WireText" rfl (by decide) (Nat.le_of_ble_eq_true rfl) ?_
  intro p e s m below meth c ls C0 hr hlocks hname hl hU
  obtain ⟨hx, hb, hml, hown, hts⟩ := id C0
  obtain ⟨hP, hK⟩ := hU
  have hl : lv_has ls 1 [(0, .ref x)] := hl
  refine lv_aload_n hx hb dX1_size_0 rfl (lv_at hl 0 rfl) ?_
  refine va_get (D := D) (ci := 0) (v := .int (nI n)) (C := RX1) (T := TX1) (N := 2) hx hb hts in_X1 hown hK hP 0 rfl rfl 1 (by decide) (hts _ q24) (fun _ h9 => h9) rfl dX1_size_1 ?_
  exact gw_rz hx hb hr hlocks rfl rfl dX1_size_4
set_option maxHeartbeats 4000000 in
set_option maxRecDepth 100000 in
/-- from(p0): a place in 0 .. size -/
theorem gw_from (l : Launch) (D : va_G) (x t n : Nat) (p0 : Int32) (h : n < 2 ^ 30) : Met l yX1_from (ws_ yX1_from cX1_from 2 (some .int)) (gw_R 0 0 0 0) (va_Pc [.ref x, .int p0] (gw_U D gw_Cl [gw_wx x t n] [])) (QcRead (nI (gw_ms p0 % (n + 1)))) 0 0 (fun _ => False) := by
  refine gw_met [.ref x, .int p0] "WireText" rfl (by decide) (Nat.le_of_ble_eq_true rfl) ?_
  intro p e s m below meth c ls C0 hr hlocks hname hl hU
  obtain ⟨hx, hb, hml, hown, hts⟩ := id C0
  obtain ⟨hP, hK⟩ := hU
  have hl : lv_has ls 2 [(0, .ref x), (1, .int p0)] := hl
  refine lv_iload_n hx hb dX1_from_0 rfl (lv_at hl 1 rfl) ?_
  refine lv_ldc (v := (2147483647 : Int32)) hx hb hown (hts _ q49) dX1_from_1 ?_
  refine gw_aM hx hb dX1_from_3 ?_
  refine lv_aload_n hx hb dX1_from_4 rfl (lv_at hl 0 rfl) ?_
  refine va_get (D := D) (ci := 0) (v := .int (nI n)) (C := RX1) (T := TX1) (N := 2) hx hb hts in_X1 hown hK hP 0 rfl rfl 1 (by decide) (hts _ q24) (fun _ h9 => h9) rfl dX1_from_5 ?_
  refine lv_iconst (v := nI 1) hx hb dX1_from_8 (by decide) ?_
  refine gw_add hx hb dX1_from_9 ?_
  refine gw_rem hx hb dX1_from_10 (gw_ms_lt _) (by omega) (by omega) ?_
  exact gw_rz hx hb hr hlocks rfl rfl dX1_from_11
set_option maxHeartbeats 4000000 in
set_option maxRecDepth 100000 in
/-- count(f, p1): a length that fits behind f -/
theorem gw_count (l : Launch) (D : va_G) (x t n f : Nat) (p1 : Int32) (h : n < 2 ^ 30) (hf : f ≤ n) : Met l yX1_count (ws_ yX1_count cX1_count 3 (some .int)) (gw_R 0 0 0 0) (va_Pc [.ref x, .int (nI f), .int p1] (gw_U D gw_Cl [gw_wx x t n] [])) (QcRead (nI (gw_ms p1 % (n - f + 1)))) 0 0 (fun _ => False) := by
  refine gw_met [.ref x, .int (nI f), .int p1] "WireText" rfl (by decide) (Nat.le_of_ble_eq_true rfl) ?_
  intro p e s m below meth c ls C0 hr hlocks hname hl hU
  obtain ⟨hx, hb, hml, hown, hts⟩ := id C0
  obtain ⟨hP, hK⟩ := hU
  have hl : lv_has ls 3 [(0, .ref x), (1, .int (nI f)), (2, .int p1)] := hl
  refine lv_iload_n hx hb dX1_count_0 rfl (lv_at hl 2 rfl) ?_
  refine lv_ldc (v := (2147483647 : Int32)) hx hb hown (hts _ q49) dX1_count_1 ?_
  refine gw_aM hx hb dX1_count_3 ?_
  refine lv_aload_n hx hb dX1_count_4 rfl (lv_at hl 0 rfl) ?_
  refine va_get (D := D) (ci := 0) (v := .int (nI n)) (C := RX1) (T := TX1) (N := 2) hx hb hts in_X1 hown hK hP 0 rfl rfl 1 (by decide) (hts _ q24) (fun _ h9 => h9) rfl dX1_count_5 ?_
  refine lv_iload_n hx hb dX1_count_8 rfl (lv_at hl 1 rfl) ?_
  refine gw_sub hx hb dX1_count_9 (by omega) ?_
  refine lv_iconst (v := nI 1) hx hb dX1_count_10 (by decide) ?_
  refine gw_add hx hb dX1_count_11 ?_
  refine gw_rem hx hb dX1_count_12 (gw_ms_lt _) (by omega) (by omega) ?_
  exact gw_rz hx hb hr hlocks rfl rfl dX1_count_13
set_option maxHeartbeats 4000000 in
set_option maxRecDepth 100000 in
/-- fair(p0, p1): is that stretch well formed -/
theorem gw_fair (l : Launch) (D : va_G) (x t : Nat) (cB : ClassId) (n : Nat) (g : gw_G) (p0 p1 : Int32) (h : n ≤ 4096) : Met l yX1_fair (ws_ yX1_fair cX1_fair 4 (some .boolean)) (gw_R 2 0 0 49) (va_Pc [.ref x, .int p0, .int p1] (gw_U D gw_Cl [gw_wx x t n, gw_wb t cB g] [(cB, .byte)])) (QcRead (nI (gw_tf (gw_fr g n (gw_ms p0) (gw_ms p1))))) 0 0 (fun _ => False) := by
  refine gw_met [.ref x, .int p0, .int p1] "WireText" rfl (by decide) (Nat.le_of_ble_eq_true rfl) ?_
  intro p e s m below meth c ls C0 hr hlocks hname hl hU
  obtain ⟨hx, hb, hml, hown, hts⟩ := id C0
  obtain ⟨hP, hK⟩ := hU
  obtain ⟨f, hf⟩ : ∃ f, f = gw_ms p0 % (n + 1) := ⟨_, rfl⟩
  obtain ⟨k, hk⟩ : ∃ k, k = gw_ms p1 % (n - f + 1) := ⟨_, rfl⟩
  have hf2 : f ≤ n := by
    have := Nat.mod_lt (gw_ms p0) (show 0 < n + 1 by omega)
    omega
  have hk2 : k ≤ n - f := by
    have := Nat.mod_lt (gw_ms p1) (show 0 < n - f + 1 by omega)
    omega
  have hl : lv_has ls 4 [(0, .ref x), (1, .int p0), (2, .int p1)] := hl
  refine lv_aload_n hx hb dX1_fair_0 rfl (lv_at hl 0 rfl) ?_
  refine lv_iload_n hx hb dX1_fair_1 rfl (lv_at hl 1 rfl) ?_
  refine gw_rV (n := 1) (As := [.int p0]) (rest := []) C0 (gw_from l D x t n p0 (by omega)) (lw_V q58 q60 qs1 q5 q61) (by decide +kernel) rfl rfl rfl ⟨Nat.le_of_ble_eq_true rfl, Nat.le_of_ble_eq_true rfl⟩ hl rfl (Nat.le_of_ble_eq_true rfl) dX1_fair_2 ⟨Nat.le_of_ble_eq_true rfl, Nat.le_of_ble_eq_true rfl⟩ (va_recv hK hP (ci := 0) (q0 := 0) rfl rfl) gw_Ubl (gw_Umk (hP.sub (ws' := [gw_wx x t n]) [0] rfl) (hK.sub (tys' := []) [] rfl)) ?_
  refine gw_int (y := nI f) (by rw [hf]) ?_
  refine lv_istore_n (lv' := [(3, .int (nI f)), (0, .ref x), (1, .int p0), (2, .int p1)]) hx hb dX1_fair_5 rfl hl (by decide) rfl (fun ls hl => ?_)
  refine lv_aload_n hx hb dX1_fair_6 rfl (lv_at hl 1 rfl) ?_
  refine va_get (D := D) (ci := 0) (v := .ref t) (C := RX1) (T := TX1) (N := 2) hx hb hts in_X1 hown hK hP 0 rfl rfl 0 (by decide) (hts _ q23) (fun _ h9 => h9) rfl dX1_fair_7 ?_
  refine lv_iload_n hx hb dX1_fair_10 rfl (lv_at hl 0 rfl) ?_
  refine lv_aload_n hx hb dX1_fair_11 rfl (lv_at hl 1 rfl) ?_
  refine lv_iload_n hx hb dX1_fair_12 rfl (lv_at hl 0 rfl) ?_
  refine lv_iload_n hx hb dX1_fair_13 rfl (lv_at hl 3 rfl) ?_
  refine gw_rV (n := 2) (As := [.int (nI f), .int p1]) (rest := [.int (nI f), .ref t]) C0 (gw_count l D x t n f p1 (by omega) hf2) (lw_V q70 q72 qs2 q5 q73) (by decide +kernel) rfl rfl rfl ⟨Nat.le_of_ble_eq_true rfl, Nat.le_of_ble_eq_true rfl⟩ hl rfl (Nat.le_of_ble_eq_true rfl) dX1_fair_14 ⟨Nat.le_of_ble_eq_true rfl, Nat.le_of_ble_eq_true rfl⟩ (va_recv hK hP (ci := 0) (q0 := 0) rfl rfl) gw_Ubl (gw_Umk (hP.sub (ws' := [gw_wx x t n]) [0] rfl) (hK.sub (tys' := []) [] rfl)) ?_
  refine gw_int (y := nI k) (by rw [hk]) ?_
  refine gw_rS (n := 3) (As := [.ref t, .int (nI f), .int (nI k)]) (rest := []) C0 (gw_iswf l D t cB g f k (by omega)) (lw_S q74 q75 q6 q76) (by decide +kernel) rfl rfl rfl ⟨Nat.le_of_ble_eq_true rfl, Nat.le_of_ble_eq_true rfl⟩ hl rfl (Nat.le_of_ble_eq_true rfl) dX1_fair_17 ⟨Nat.le_of_ble_eq_true rfl, Nat.le_of_ble_eq_true rfl⟩ gw_Ubl (gw_Umk (hP.sub (ws' := [gw_wb t cB g]) [1] rfl) (hK.sub (tys' := [(cB, .byte)]) [0] rfl)) ?_
  exact gw_rz hx hb hr hlocks (gw_tfn _) (by rw [hk, hf]; rfl) dX1_fair_20
set_option maxHeartbeats 4000000 in
set_option maxRecDepth 100000 in
/-- word(a, v): four bytes of the text -/
theorem gw_word (l : Launch) (D : va_G) (x t : Nat) (cB : ClassId) (n : Nat) (g : gw_G) (sz a : Nat) (v : Int32) (h : a + 4 ≤ 4096) : Met l yX1_word (ws_ yX1_word cX1_word 3 none) (gw_R 0 0 0 0) (va_Pc [.ref x, .int (nI a), .int v] (gw_UW D gw_Cl [gw_wx x t n, gw_wb t cB g] [(cB, .byte)] sz)) (gw_QW D gw_Cl [gw_wx x t n, gw_wb t cB (gw_wd g a v)] (va_A [gw_wx x t n, gw_wb t cB g] sz)) 0 0 (va_A [gw_wx x t n, gw_wb t cB g] sz) := by
  refine gw_met [.ref x, .int (nI a), .int v] "WireText" rfl (by decide) (Nat.le_of_ble_eq_true rfl) ?_
  intro p e s m below meth c ls C0 hr hlocks hname hl hU
  obtain ⟨hx, hb, hml, hown, hts⟩ := id C0
  obtain ⟨hsz, hP, hK, hD0⟩ := hU
  subst hsz
  have hD := hD0.self (sz := s.heap.size)
  generalize hAe : va_A [gw_wx x t n, gw_wb t cB g] s.heap.size = A at hD ⊢
  have hA : ∀ q : Nat, s.heap.size ≤ q → A q := fun q h => by rw [← hAe]; exact Or.inr h
  have hS : va_S A s.heap s.heap [] := va_S.rf
  have hl : lv_has ls 3 [(0, .ref x), (1, .int (nI a)), (2, .int v)] := hl
  refine lv_aload_n hx hb dX1_word_0 rfl (lv_at hl 0 rfl) ?_
  refine va_get (D := D) (ci := 0) (v := .ref t) (C := RX1) (T := TX1) (N := 2) hx hb hts in_X1 hown hK hP 0 rfl rfl 0 (by decide) (hts _ q23) (fun _ h9 => h9) rfl dX1_word_1 ?_
  refine lv_iload_n hx hb dX1_word_4 rfl (lv_at hl 1 rfl) ?_
  refine lv_iload_n hx hb dX1_word_5 rfl (lv_at hl 2 rfl) ?_
  refine lv_bipush (v := nI 24) hx hb dX1_word_6 (by decide) ?_
  refine lv_ishr hx hb dX1_word_8 ?_
  refine gw_toB hx hb dX1_word_9 ?_
  refine gw_int (y := gw_sb (gw_oc v 0)) (rfl) ?_
  refine gw_bst (k := a) (g := g) (v := (gw_oc v 0)) hx hb hK hP hD hS 1 0 rfl rfl (by omega) (by decide) dX1_word_10 (fun H locs hP hD hS => ?_)
  have hP : va_P D gw_Cl [gw_wx x t n, gw_wb t cB (gw_st g a (gw_oc v 0))] H := hP
  have hD : va_D A [gw_wx x t n, gw_wb t cB (gw_st g a (gw_oc v 0))] := hD
  refine lv_aload_n hx hb dX1_word_11 rfl (lv_at hl 0 rfl) ?_
  refine va_get (D := D) (ci := 0) (v := .ref t) (C := RX1) (T := TX1) (N := 2) hx hb hts in_X1 hown hK hP 0 rfl rfl 0 (by decide) (hts _ q23) (fun _ h9 => h9) rfl dX1_word_12 ?_
  refine lv_iload_n hx hb dX1_word_15 rfl (lv_at hl 1 rfl) ?_
  refine lv_iconst (v := nI 1) hx hb dX1_word_16 (by decide) ?_
  refine gw_add hx hb dX1_word_17 ?_
  refine lv_iload_n hx hb dX1_word_18 rfl (lv_at hl 2 rfl) ?_
  refine lv_bipush (v := nI 16) hx hb dX1_word_19 (by decide) ?_
  refine lv_ishr hx hb dX1_word_21 ?_
  refine gw_toB hx hb dX1_word_22 ?_
  refine gw_int (y := gw_sb (gw_oc v 1)) (rfl) ?_
  refine gw_bst (k := a + 1) (g := (gw_st g a (gw_oc v 0))) (v := (gw_oc v 1)) hx hb hK hP hD hS 1 0 rfl rfl (by omega) (by decide) dX1_word_23 (fun H locs hP hD hS => ?_)
  have hP : va_P D gw_Cl [gw_wx x t n, gw_wb t cB (gw_st ((gw_st g a (gw_oc v 0))) (a + 1) (gw_oc v 1))] H := hP
  have hD : va_D A [gw_wx x t n, gw_wb t cB (gw_st ((gw_st g a (gw_oc v 0))) (a + 1) (gw_oc v 1))] := hD
  refine lv_aload_n hx hb dX1_word_24 rfl (lv_at hl 0 rfl) ?_
  refine va_get (D := D) (ci := 0) (v := .ref t) (C := RX1) (T := TX1) (N := 2) hx hb hts in_X1 hown hK hP 0 rfl rfl 0 (by decide) (hts _ q23) (fun _ h9 => h9) rfl dX1_word_25 ?_
  refine lv_iload_n hx hb dX1_word_28 rfl (lv_at hl 1 rfl) ?_
  refine lv_iconst (v := nI 2) hx hb dX1_word_29 (by decide) ?_
  refine gw_add hx hb dX1_word_30 ?_
  refine lv_iload_n hx hb dX1_word_31 rfl (lv_at hl 2 rfl) ?_
  refine lv_bipush (v := nI 8) hx hb dX1_word_32 (by decide) ?_
  refine lv_ishr hx hb dX1_word_34 ?_
  refine gw_toB hx hb dX1_word_35 ?_
  refine gw_int (y := gw_sb (gw_oc v 2)) (rfl) ?_
  refine gw_bst (k := a + 2) (g := (gw_st ((gw_st g a (gw_oc v 0))) (a + 1) (gw_oc v 1))) (v := (gw_oc v 2)) hx hb hK hP hD hS 1 0 rfl rfl (by omega) (by decide) dX1_word_36 (fun H locs hP hD hS => ?_)
  have hP : va_P D gw_Cl [gw_wx x t n, gw_wb t cB (gw_st ((gw_st ((gw_st g a (gw_oc v 0))) (a + 1) (gw_oc v 1))) (a + 2) (gw_oc v 2))] H := hP
  have hD : va_D A [gw_wx x t n, gw_wb t cB (gw_st ((gw_st ((gw_st g a (gw_oc v 0))) (a + 1) (gw_oc v 1))) (a + 2) (gw_oc v 2))] := hD
  refine lv_aload_n hx hb dX1_word_37 rfl (lv_at hl 0 rfl) ?_
  refine va_get (D := D) (ci := 0) (v := .ref t) (C := RX1) (T := TX1) (N := 2) hx hb hts in_X1 hown hK hP 0 rfl rfl 0 (by decide) (hts _ q23) (fun _ h9 => h9) rfl dX1_word_38 ?_
  refine lv_iload_n hx hb dX1_word_41 rfl (lv_at hl 1 rfl) ?_
  refine lv_iconst (v := nI 3) hx hb dX1_word_42 (by decide) ?_
  refine gw_add hx hb dX1_word_43 ?_
  refine lv_iload_n hx hb dX1_word_44 rfl (lv_at hl 2 rfl) ?_
  refine gw_toB hx hb dX1_word_45 ?_
  refine gw_int (y := gw_sb (gw_oc v 3)) (by rw [gw_oc3]) ?_
  refine gw_bst (k := a + 3) (g := (gw_st ((gw_st ((gw_st g a (gw_oc v 0))) (a + 1) (gw_oc v 1))) (a + 2) (gw_oc v 2))) (v := (gw_oc v 3)) hx hb hK hP hD hS 1 0 rfl rfl (by omega) (by decide) dX1_word_46 (fun H locs hP hD hS => ?_)
  have hP : va_P D gw_Cl [gw_wx x t n, gw_wb t cB (gw_st ((gw_st ((gw_st ((gw_st g a (gw_oc v 0))) (a + 1) (gw_oc v 1))) (a + 2) (gw_oc v 2))) (a + 3) (gw_oc v 3))] H := hP
  have hD : va_D A [gw_wx x t n, gw_wb t cB (gw_st ((gw_st ((gw_st ((gw_st g a (gw_oc v 0))) (a + 1) (gw_oc v 1))) (a + 2) (gw_oc v 2))) (a + 3) (gw_oc v 3))] := hD
  exact gw_ev hx hb hr hlocks hP hD hS dX1_word_47
set_option maxHeartbeats 4000000 in
set_option maxRecDepth 100000 in
/-- put(..), with room for 16 bytes -/
theorem gw_put (l : Launch) (D : va_G) (x t : Nat) (cB : ClassId) (n : Nat) (g : gw_G) (sz : Nat) (pa pb pc pd : Int32) (h : n ≤ 4080) : Met l yX1_put (ws_ yX1_put cX1_put 5 (some .boolean)) (gw_R 1 0 0 22) (va_Pc [.ref x, .int pa, .int pb, .int pc, .int pd] (gw_UW D gw_Cl [gw_wx x t n, gw_wb t cB g] [(cB, .byte)] sz)) (gw_QI (nI 1) D gw_Cl [gw_wx x t (n + 16), gw_wb t cB (gw_pf g n pa pb pc pd)] (va_A [gw_wx x t n, gw_wb t cB g] sz)) 0 0 (va_A [gw_wx x t n, gw_wb t cB g] sz) := by
  refine gw_met [.ref x, .int pa, .int pb, .int pc, .int pd] "WireText" rfl (by decide) (Nat.le_of_ble_eq_true rfl) ?_
  intro p e s m below meth c ls C0 hr hlocks hname hl hU
  obtain ⟨hx, hb, hml, hown, hts⟩ := id C0
  obtain ⟨hsz, hP, hK, hD0⟩ := hU
  subst hsz
  have hD := hD0.self (sz := s.heap.size)
  generalize hAe : va_A [gw_wx x t n, gw_wb t cB g] s.heap.size = A at hD ⊢
  have hA : ∀ q : Nat, s.heap.size ≤ q → A q := fun q h => by rw [← hAe]; exact Or.inr h
  have hS : va_S A s.heap s.heap [] := va_S.rf
  have hl : lv_has ls 5 [(0, .ref x), (1, .int pa), (2, .int pb), (3, .int pc), (4, .int pd)] := hl
  refine lv_aload_n hx hb dX1_put_0 rfl (lv_at hl 0 rfl) ?_
  refine va_get (D := D) (ci := 0) (v := .int (nI n)) (C := RX1) (T := TX1) (N := 2) hx hb hts in_X1 hown hK hP 0 rfl rfl 1 (by decide) (hts _ q24) (fun _ h9 => h9) rfl dX1_put_1 ?_
  refine lv_aload_n hx hb dX1_put_4 rfl (lv_at hl 0 rfl) ?_
  refine va_get (D := D) (ci := 0) (v := .ref t) (C := RX1) (T := TX1) (N := 2) hx hb hts in_X1 hown hK hP 0 rfl rfl 0 (by decide) (hts _ q23) (fun _ h9 => h9) rfl dX1_put_5 ?_
  refine va_alen (v := nI 4096) hx hb hK hP 1 0 rfl rfl rfl dX1_put_8 ?_
  refine lv_bipush (v := nI 16) hx hb dX1_put_9 (by decide) ?_
  refine gw_sub hx hb dX1_put_11 (by omega) ?_
  refine gw_c_le (tgt := 17) hx hb dX1_put_12 (by decide) (by omega) (by omega) (fun h12 => ?_) (fun h12 => absurd h12 (by omega))
  refine lv_aload_n hx hb dX1_put_17 rfl (lv_at hl 0 rfl) ?_
  refine lv_aload_n hx hb dX1_put_18 rfl (lv_at hl 0 rfl) ?_
  refine va_get (D := D) (ci := 0) (v := .int (nI n)) (C := RX1) (T := TX1) (N := 2) hx hb hts in_X1 hown hK hP 0 rfl rfl 1 (by decide) (hts _ q24) (fun _ h9 => h9) rfl dX1_put_19 ?_
  refine lv_iload_n hx hb dX1_put_22 rfl (lv_at hl 1 rfl) ?_
  refine gw_wV (n := 2) (As := [.int (nI n), .int pa]) (rest := []) (wc := [gw_wx x t n, gw_wb t cB g]) (wr := []) (wF := [gw_wx x t n, gw_wb t cB (gw_wd g n pa)]) (tc := [(cB, .byte)]) [0, 1] [] [0, 1] [0] C0 (gw_word l D x t cB n g s.heap.size n pa (by omega)) (lw_V q35 q37 qs0 q5 q38) (by decide +kernel) rfl rfl rfl ⟨Nat.le_of_ble_eq_true rfl, Nat.le_of_ble_eq_true rfl⟩ hl rfl (Nat.le_of_ble_eq_true rfl) dX1_put_23 ⟨Nat.le_of_ble_eq_true rfl, Nat.le_of_ble_eq_true rfl⟩ (va_recv hK hP (ci := 0) (q0 := 0) rfl rfl) hK hP hD hS hA rfl rfl (by decide) rfl (by decide) (by decide) rfl rfl rfl (by decide) (fun H locs hP hD hS => ?_)
  refine lv_aload_n hx hb dX1_put_26 rfl (lv_at hl 0 rfl) ?_
  refine lv_aload_n hx hb dX1_put_27 rfl (lv_at hl 0 rfl) ?_
  refine va_get (D := D) (ci := 0) (v := .int (nI n)) (C := RX1) (T := TX1) (N := 2) hx hb hts in_X1 hown hK hP 0 rfl rfl 1 (by decide) (hts _ q24) (fun _ h9 => h9) rfl dX1_put_28 ?_
  refine lv_iconst (v := nI 4) hx hb dX1_put_31 (by decide) ?_
  refine gw_add hx hb dX1_put_32 ?_
  refine lv_iload_n hx hb dX1_put_33 rfl (lv_at hl 2 rfl) ?_
  refine gw_wV (n := 2) (As := [.int (nI (n + 4)), .int pb]) (rest := []) (wc := [gw_wx x t n, gw_wb t cB (gw_wd g n pa)]) (wr := []) (wF := [gw_wx x t n, gw_wb t cB (gw_wd (gw_wd g n pa) (n + 4) pb)]) (tc := [(cB, .byte)]) [0, 1] [] [0, 1] [0] C0 (gw_word l D x t cB n (gw_wd g n pa) H.size (n + 4) pb (by omega)) (lw_V q35 q37 qs0 q5 q38) (by decide +kernel) rfl rfl rfl ⟨Nat.le_of_ble_eq_true rfl, Nat.le_of_ble_eq_true rfl⟩ hl rfl (Nat.le_of_ble_eq_true rfl) dX1_put_34 ⟨Nat.le_of_ble_eq_true rfl, Nat.le_of_ble_eq_true rfl⟩ (va_recv hK hP (ci := 0) (q0 := 0) rfl rfl) hK hP hD hS hA rfl rfl (by decide) rfl (by decide) (by decide) rfl rfl rfl (by decide) (fun H locs hP hD hS => ?_)
  refine lv_aload_n hx hb dX1_put_37 rfl (lv_at hl 0 rfl) ?_
  refine lv_aload_n hx hb dX1_put_38 rfl (lv_at hl 0 rfl) ?_
  refine va_get (D := D) (ci := 0) (v := .int (nI n)) (C := RX1) (T := TX1) (N := 2) hx hb hts in_X1 hown hK hP 0 rfl rfl 1 (by decide) (hts _ q24) (fun _ h9 => h9) rfl dX1_put_39 ?_
  refine lv_bipush (v := nI 8) hx hb dX1_put_42 (by decide) ?_
  refine gw_add hx hb dX1_put_44 ?_
  refine lv_iload_n hx hb dX1_put_45 rfl (lv_at hl 3 rfl) ?_
  refine gw_wV (n := 2) (As := [.int (nI (n + 8)), .int pc]) (rest := []) (wc := [gw_wx x t n, gw_wb t cB (gw_wd (gw_wd g n pa) (n + 4) pb)]) (wr := []) (wF := [gw_wx x t n, gw_wb t cB (gw_wd (gw_wd (gw_wd g n pa) (n + 4) pb) (n + 8) pc)]) (tc := [(cB, .byte)]) [0, 1] [] [0, 1] [0] C0 (gw_word l D x t cB n (gw_wd (gw_wd g n pa) (n + 4) pb) H.size (n + 8) pc (by omega)) (lw_V q35 q37 qs0 q5 q38) (by decide +kernel) rfl rfl rfl ⟨Nat.le_of_ble_eq_true rfl, Nat.le_of_ble_eq_true rfl⟩ hl rfl (Nat.le_of_ble_eq_true rfl) dX1_put_46 ⟨Nat.le_of_ble_eq_true rfl, Nat.le_of_ble_eq_true rfl⟩ (va_recv hK hP (ci := 0) (q0 := 0) rfl rfl) hK hP hD hS hA rfl rfl (by decide) rfl (by decide) (by decide) rfl rfl rfl (by decide) (fun H locs hP hD hS => ?_)
  refine lv_aload_n hx hb dX1_put_49 rfl (lv_at hl 0 rfl) ?_
  refine lv_aload_n hx hb dX1_put_50 rfl (lv_at hl 0 rfl) ?_
  refine va_get (D := D) (ci := 0) (v := .int (nI n)) (C := RX1) (T := TX1) (N := 2) hx hb hts in_X1 hown hK hP 0 rfl rfl 1 (by decide) (hts _ q24) (fun _ h9 => h9) rfl dX1_put_51 ?_
  refine lv_bipush (v := nI 12) hx hb dX1_put_54 (by decide) ?_
  refine gw_add hx hb dX1_put_56 ?_
  refine lv_iload hx hb dX1_put_57 (lv_at hl 4 rfl) ?_
  refine gw_wV (n := 2) (As := [.int (nI (n + 12)), .int pd]) (rest := []) (wc := [gw_wx x t n, gw_wb t cB (gw_wd (gw_wd (gw_wd g n pa) (n + 4) pb) (n + 8) pc)]) (wr := []) (wF := [gw_wx x t n, gw_wb t cB (gw_wd (gw_wd (gw_wd (gw_wd g n pa) (n + 4) pb) (n + 8) pc) (n + 12) pd)]) (tc := [(cB, .byte)]) [0, 1] [] [0, 1] [0] C0 (gw_word l D x t cB n (gw_wd (gw_wd (gw_wd g n pa) (n + 4) pb) (n + 8) pc) H.size (n + 12) pd (by omega)) (lw_V q35 q37 qs0 q5 q38) (by decide +kernel) rfl rfl rfl ⟨Nat.le_of_ble_eq_true rfl, Nat.le_of_ble_eq_true rfl⟩ hl rfl (Nat.le_of_ble_eq_true rfl) dX1_put_59 ⟨Nat.le_of_ble_eq_true rfl, Nat.le_of_ble_eq_true rfl⟩ (va_recv hK hP (ci := 0) (q0 := 0) rfl rfl) hK hP hD hS hA rfl rfl (by decide) rfl (by decide) (by decide) rfl rfl rfl (by decide) (fun H locs hP hD hS => ?_)
  refine lv_aload_n hx hb dX1_put_62 rfl (lv_at hl 0 rfl) ?_
  refine lv_dup hx hb dX1_put_63 rfl ?_
  refine va_get (D := D) (ci := 0) (v := .int (nI n)) (C := RX1) (T := TX1) (N := 2) hx hb hts in_X1 hown hK hP 0 rfl rfl 1 (by decide) (hts _ q24) (fun _ h9 => h9) rfl dX1_put_64 ?_
  refine lv_bipush (v := nI 16) hx hb dX1_put_67 (by decide) ?_
  refine gw_add hx hb dX1_put_69 ?_
  refine va_put (D := D) (ci := 0) (v := .int (nI (n + 16))) (ty := .int) (C := RX1) (T := TX1) (N := 2) hx hb hts in_X1 tyX1 tyX1_ok nmX1 hown hK hP hD hS 0 rfl rfl 1 (by decide) (hts _ q24) (fun _ h9 => h9) rfl (by decide +kernel) rfl rfl (Nat.le_of_ble_eq_true rfl) dX1_put_70 (fun H locs hP hD hS => ?_)
  have hP : va_P D gw_Cl [gw_wx x t (n + 16), gw_wb t cB (gw_wd (gw_wd (gw_wd (gw_wd g n pa) (n + 4) pb) (n + 8) pc) (n + 12) pd)] H := hP
  have hD : va_D A [gw_wx x t (n + 16), gw_wb t cB (gw_wd (gw_wd (gw_wd (gw_wd g n pa) (n + 4) pb) (n + 8) pc) (n + 12) pd)] := hD
  refine lv_iconst (v := nI 1) hx hb dX1_put_73 (by decide) ?_
  exact gw_ei hx hb hr hlocks rfl rfl hP hD hS dX1_put_74
set_option maxHeartbeats 4000000 in
set_option maxRecDepth 100000 in
/-- put(..), without -/
theorem gw_putN (l : Launch) (D : va_G) (x t : Nat) (cB : ClassId) (n : Nat) (g : gw_G) (pa pb pc pd : Int32) (h : 4080 < n) (h2 : n < 2 ^ 30) : Met l yX1_put (ws_ yX1_put cX1_put 5 (some .boolean)) (gw_R 1 0 0 22) (va_Pc [.ref x, .int pa, .int pb, .int pc, .int pd] (gw_U D gw_Cl [gw_wx x t n, gw_wb t cB g] [(cB, .byte)])) (QcRead (nI 0)) 0 0 (fun _ => False) := by
  refine gw_met [.ref x, .int pa, .int pb, .int pc, .int pd] "WireText" rfl (by decide) (Nat.le_of_ble_eq_true rfl) ?_
  intro p e s m below meth c ls C0 hr hlocks hname hl hU
  obtain ⟨hx, hb, hml, hown, hts⟩ := id C0
  obtain ⟨hP, hK⟩ := hU
  have hl : lv_has ls 5 [(0, .ref x), (1, .int pa), (2, .int pb), (3, .int pc), (4, .int pd)] := hl
  refine lv_aload_n hx hb dX1_put_0 rfl (lv_at hl 0 rfl) ?_
  refine va_get (D := D) (ci := 0) (v := .int (nI n)) (C := RX1) (T := TX1) (N := 2) hx hb hts in_X1 hown hK hP 0 rfl rfl 1 (by decide) (hts _ q24) (fun _ h9 => h9) rfl dX1_put_1 ?_
  refine lv_aload_n hx hb dX1_put_4 rfl (lv_at hl 0 rfl) ?_
  refine va_get (D := D) (ci := 0) (v := .ref t) (C := RX1) (T := TX1) (N := 2) hx hb hts in_X1 hown hK hP 0 rfl rfl 0 (by decide) (hts _ q23) (fun _ h9 => h9) rfl dX1_put_5 ?_
  refine va_alen (v := nI 4096) hx hb hK hP 1 0 rfl rfl rfl dX1_put_8 ?_
  refine lv_bipush (v := nI 16) hx hb dX1_put_9 (by decide) ?_
  refine gw_sub hx hb dX1_put_11 (by omega) ?_
  refine gw_c_le (tgt := 17) hx hb dX1_put_12 (by decide) (by omega) (by omega) (fun h12 => absurd h12 (by omega)) (fun h12 => ?_)
  refine lv_iconst (v := nI 0) hx hb dX1_put_15 (by decide) ?_
  exact gw_rz hx hb hr hlocks rfl rfl dX1_put_16
set_option maxHeartbeats 4000000 in
set_option maxRecDepth 100000 in
/-- trim(p0) -/
theorem gw_trim (l : Launch) (D : va_G) (x t n : Nat) (sz : Nat) (p0 : Int32) (h : n < 2 ^ 30) : Met l yX1_trim (ws_ yX1_trim cX1_trim 2 none) (gw_R 1 0 0 21) (va_Pc [.ref x, .int p0] (gw_UW D gw_Cl [gw_wx x t n] [] sz)) (gw_QW D gw_Cl [gw_wx x t (gw_ms p0 % (n + 1))] (va_A [gw_wx x t n] sz)) 0 0 (va_A [gw_wx x t n] sz) := by
  refine gw_met [.ref x, .int p0] "WireText" rfl (by decide) (Nat.le_of_ble_eq_true rfl) ?_
  intro p e s m below meth c ls C0 hr hlocks hname hl hU
  obtain ⟨hx, hb, hml, hown, hts⟩ := id C0
  obtain ⟨hsz, hP, hK, hD0⟩ := hU
  subst hsz
  have hD := hD0.self (sz := s.heap.size)
  generalize hAe : va_A [gw_wx x t n] s.heap.size = A at hD ⊢
  have hA : ∀ q : Nat, s.heap.size ≤ q → A q := fun q h => by rw [← hAe]; exact Or.inr h
  have hS : va_S A s.heap s.heap [] := va_S.rf
  have hl : lv_has ls 2 [(0, .ref x), (1, .int p0)] := hl
  refine lv_aload_n hx hb dX1_trim_0 rfl (lv_at hl 0 rfl) ?_
  refine lv_aload_n hx hb dX1_trim_1 rfl (lv_at hl 0 rfl) ?_
  refine lv_iload_n hx hb dX1_trim_2 rfl (lv_at hl 1 rfl) ?_
  refine gw_rV (n := 1) (As := [.int p0]) (rest := [.ref x]) C0 (gw_from l D x t n p0 h) (lw_V q58 q60 qs1 q5 q61) (by decide +kernel) rfl rfl rfl ⟨Nat.le_of_ble_eq_true rfl, Nat.le_of_ble_eq_true rfl⟩ hl rfl (Nat.le_of_ble_eq_true rfl) dX1_trim_3 ⟨Nat.le_of_ble_eq_true rfl, Nat.le_of_ble_eq_true rfl⟩ (va_recv hK hP (ci := 0) (q0 := 0) rfl rfl) gw_Ubl (gw_Umk (hP.sub (ws' := [gw_wx x t n]) [0] rfl) (hK.sub (tys' := []) [] rfl)) ?_
  refine va_put (D := D) (ci := 0) (v := .int (nI (gw_ms p0 % (n + 1)))) (ty := .int) (C := RX1) (T := TX1) (N := 2) hx hb hts in_X1 tyX1 tyX1_ok nmX1 hown hK hP hD hS 0 rfl rfl 1 (by decide) (hts _ q24) (fun _ h9 => h9) rfl (by decide +kernel) rfl rfl (Nat.le_of_ble_eq_true rfl) dX1_trim_6 (fun H locs hP hD hS => ?_)
  have hP : va_P D gw_Cl [gw_wx x t (gw_ms p0 % (n + 1))] H := hP
  have hD : va_D A [gw_wx x t (gw_ms p0 % (n + 1))] := hD
  exact gw_ev hx hb hr hlocks hP hD hS dX1_trim_9
set_option maxHeartbeats 4000000 in
set_option maxRecDepth 100000 in
/-- sign(p0, v) of a text that isn't empty: one byte -/
theorem gw_sign (l : Launch) (D : va_G) (x t : Nat) (cB : ClassId) (n : Nat) (g : gw_G) (sz : Nat) (p0 v : Int32) (h : 0 < n) (h2 : n ≤ 4096) : Met l yX1_sign (ws_ yX1_sign cX1_sign 4 none) (gw_R 0 0 0 0) (va_Pc [.ref x, .int p0, .int v] (gw_UW D gw_Cl [gw_wx x t n, gw_wb t cB g] [(cB, .byte)] sz)) (gw_QW D gw_Cl [gw_wx x t n, gw_wb t cB (gw_st g (gw_ms p0 % n) (gw_bt v))] (va_A [gw_wx x t n, gw_wb t cB g] sz)) 0 0 (va_A [gw_wx x t n, gw_wb t cB g] sz) := by
  refine gw_met [.ref x, .int p0, .int v] "WireText" rfl (by decide) (Nat.le_of_ble_eq_true rfl) ?_
  intro p e s m below meth c ls C0 hr hlocks hname hl hU
  obtain ⟨hx, hb, hml, hown, hts⟩ := id C0
  obtain ⟨hsz, hP, hK, hD0⟩ := hU
  subst hsz
  have hD := hD0.self (sz := s.heap.size)
  generalize hAe : va_A [gw_wx x t n, gw_wb t cB g] s.heap.size = A at hD ⊢
  have hA : ∀ q : Nat, s.heap.size ≤ q → A q := fun q h => by rw [← hAe]; exact Or.inr h
  have hS : va_S A s.heap s.heap [] := va_S.rf
  have hl : lv_has ls 4 [(0, .ref x), (1, .int p0), (2, .int v)] := hl
  refine lv_aload_n hx hb dX1_sign_0 rfl (lv_at hl 0 rfl) ?_
  refine va_get (D := D) (ci := 0) (v := .int (nI n)) (C := RX1) (T := TX1) (N := 2) hx hb hts in_X1 hown hK hP 0 rfl rfl 1 (by decide) (hts _ q24) (fun _ h9 => h9) rfl dX1_sign_1 ?_
  refine gw_z_le (tgt := 25) hx hb dX1_sign_4 (by decide) (by omega) (fun h4 => absurd h4 (by omega)) (fun h4 => ?_)
  refine lv_iload_n hx hb dX1_sign_7 rfl (lv_at hl 1 rfl) ?_
  refine lv_ldc (v := (2147483647 : Int32)) hx hb hown (hts _ q49) dX1_sign_8 ?_
  refine gw_aM hx hb dX1_sign_10 ?_
  refine lv_aload_n hx hb dX1_sign_11 rfl (lv_at hl 0 rfl) ?_
  refine va_get (D := D) (ci := 0) (v := .int (nI n)) (C := RX1) (T := TX1) (N := 2) hx hb hts in_X1 hown hK hP 0 rfl rfl 1 (by decide) (hts _ q24) (fun _ h9 => h9) rfl dX1_sign_12 ?_
  refine gw_rem hx hb dX1_sign_15 (gw_ms_lt _) h (by omega) ?_
  refine lv_istore_n (lv' := [(3, .int (nI ((gw_ms p0) % n))), (0, .ref x), (1, .int p0), (2, .int v)]) hx hb dX1_sign_16 rfl hl (by decide) rfl (fun ls hl => ?_)
  refine lv_aload_n hx hb dX1_sign_17 rfl (lv_at hl 1 rfl) ?_
  refine va_get (D := D) (ci := 0) (v := .ref t) (C := RX1) (T := TX1) (N := 2) hx hb hts in_X1 hown hK hP 0 rfl rfl 0 (by decide) (hts _ q23) (fun _ h9 => h9) rfl dX1_sign_18 ?_
  refine lv_iload_n hx hb dX1_sign_21 rfl (lv_at hl 0 rfl) ?_
  refine lv_iload_n hx hb dX1_sign_22 rfl (lv_at hl 3 rfl) ?_
  refine gw_toB hx hb dX1_sign_23 ?_
  refine gw_bst (k := (gw_ms p0) % n) (g := g) (v := (gw_bt v)) hx hb hK hP hD hS 1 0 rfl rfl (Nat.lt_of_lt_of_le (Nat.mod_lt _ h) h2) (by decide) dX1_sign_24 (fun H locs hP hD hS => ?_)
  have hP : va_P D gw_Cl [gw_wx x t n, gw_wb t cB (gw_st g ((gw_ms p0) % n) (gw_bt v))] H := hP
  have hD : va_D A [gw_wx x t n, gw_wb t cB (gw_st g ((gw_ms p0) % n) (gw_bt v))] := hD
  exact gw_ev hx hb hr hlocks hP hD hS dX1_sign_25
set_option maxHeartbeats 4000000 in
set_option maxRecDepth 100000 in
/-- sign(p0, v) of an empty text: nothing -/
theorem gw_sign0 (l : Launch) (D : va_G) (x t : Nat) (p0 v : Int32) : Met l yX1_sign (ws_ yX1_sign cX1_sign 4 none) (gw_R 0 0 0 0) (va_Pc [.ref x, .int p0, .int v] (gw_U D gw_Cl [gw_wx x t 0] [])) (va_Sv (fun _ => True)) 0 0 (fun _ => False) := by
  refine gw_met [.ref x, .int p0, .int v] "WireText" rfl (by decide) (Nat.le_of_ble_eq_true rfl) ?_
  intro p e s m below meth c ls C0 hr hlocks hname hl hU
  obtain ⟨hx, hb, hml, hown, hts⟩ := id C0
  obtain ⟨hP, hK⟩ := hU
  have hl : lv_has ls 4 [(0, .ref x), (1, .int p0), (2, .int v)] := hl
  refine lv_aload_n hx hb dX1_sign_0 rfl (lv_at hl 0 rfl) ?_
  refine va_get (D := D) (ci := 0) (v := .int (nI 0)) (C := RX1) (T := TX1) (N := 2) hx hb hts in_X1 hown hK hP 0 rfl rfl 1 (by decide) (hts _ q24) (fun _ h9 => h9) rfl dX1_sign_1 ?_
  refine gw_z_le (tgt := 25) hx hb dX1_sign_4 (by decide) (by omega) (fun h4 => ?_) (fun h4 => absurd h4 (by omega))
  exact gw_rv hx hb hr hlocks dX1_sign_25
set_option maxHeartbeats 4000000 in
set_option maxRecDepth 100000 in
/-- WireText(): an empty text of 4096 zeros -/
theorem gw_init (l : Launch) (D : va_G) (x sz : Nat) : Met l yX1_init (ws_ yX1_init cX1_init 1 none) (gw_R 1 1 4096 12) (va_Pc [.ref x] (gw_UW D gw_Cl [(x, .inr (0, [.null, .int 0]))] [] sz)) (va_Qv (fun _ : Unit => True) (fun _ T => ∃ (t : Nat) (cB : ClassId), va_P D gw_Cl [gw_wx x t 0, gw_wb t cB (fun _ => 0)] T.heap ∧ va_K D gw_Cl [(cB, .byte)] T ∧ va_D (va_A [(x, .inr (0, [.null, .int 0]))] sz) [gw_wx x t 0, gw_wb t cB (fun _ => 0)]) (va_A [(x, .inr (0, [.null, .int 0]))] sz)) 1 4096 (va_A [(x, .inr (0, [.null, .int 0]))] sz) := by
  refine gw_met [.ref x] "WireText" rfl (by decide) (Nat.le_of_ble_eq_true rfl) ?_
  intro p e s m below meth c ls C0 hr hlocks hname hl hU
  obtain ⟨hx, hb, hml, hown, hts⟩ := id C0
  obtain ⟨hsz, hP, hK, hD0⟩ := hU
  subst hsz
  have hD := hD0.self (sz := s.heap.size)
  generalize hAe : va_A [(x, .inr (0, [.null, .int 0]))] s.heap.size = A at hD ⊢
  have hA : ∀ q : Nat, s.heap.size ≤ q → A q := fun q h => by rw [← hAe]; exact Or.inr h
  have hS : va_S A s.heap s.heap [] := va_S.rf
  have hl : lv_has ls 1 [(0, .ref x)] := hl
  refine lv_aload_n hx hb dX1_init_0 rfl (lv_at hl 0 rfl) ?_
  refine W.objInit hx hb hown (hts _ q20) (hts _ q21) (hts _ q22) rfl (by rw [hml]; exact hl.1) rfl dX1_init_1 (Nat.le_of_ble_eq_true rfl) (Nat.le_of_ble_eq_true rfl) ?_
  refine W.eq (g2 := F0 m 4 ls []) rfl ?_
  refine lv_aload_n hx hb dX1_init_4 rfl (lv_at hl 0 rfl) ?_
  refine lv_sipush (v := nI 4096) hx hb dX1_init_5 (by decide) ?_
  refine va_newa (atype := .byte) (ty := .byte) (N' := 4096) (a0 := (4096, .inl (fun j => gw_sb ((fun _ => 0 : gw_G) j)))) hx hb (hts _ q30) rfl hK hP hD hS hA (fun cA => by rw [vp_cell_i]; show arrV cA 4096 (fun _ => .int (gw_sb 0)) = _; rw [gw_sb0]; rfl) (by decide) (by decide) (by decide) (Nat.le_of_ble_eq_true rfl) (Nat.le_of_ble_eq_true rfl) dX1_init_8 (fun t cB H hK hP hD hS => ?_)
  have hP : va_P D gw_Cl [(x, .inr (0, [.null, .int 0])), gw_wb t cB (fun _ => 0)] H := hP
  have hD : va_D A [(x, .inr (0, [.null, .int 0])), gw_wb t cB (fun _ => 0)] := hD
  have hK : va_K D gw_Cl [(cB, .byte)] s := hK
  refine va_putF (D := D) (ci := 0) (v := .ref t) (ty := .array .byte) (C := RX1) (T := TX1) (N := 2) hx hb hts in_X1 tyX1 tyX1_ok nmX1 hown hK hP hD hS 0 rfl rfl 0 (by decide) (hts _ q23) (fun _ h9 => h9) rfl hname rfl (by decide +kernel) rfl rfl (Nat.le_of_ble_eq_true rfl) dX1_init_10 (fun H locs hP hD hS => ?_)
  have hP : va_P D gw_Cl [gw_wx x t 0, gw_wb t cB (fun _ => 0)] H := hP
  have hD : va_D A [gw_wx x t 0, gw_wb t cB (fun _ => 0)] := hD
  refine W.widen (k := 1) (n := 4096) (Nat.le_of_ble_eq_true rfl) (Nat.le_of_ble_eq_true rfl) ?_
  exact W.vret hx hb hr (fun T ht hW => ⟨⟨(), rfl, trivial, t, cB, by rw [ht]; exact hP, va_K.moved hW.alike hK, hD⟩, hS.F ht⟩) hS.2.2 dX1_init_13 hlocks
end
section
/-! the law's own small methods -/
def gw_cv (L : Nat) (xs : Nat → Int32) (k : Nat) : Int32 := if k < L then xs k else 0
theorem gw_ln_le (b : Fin 256) : gw_ln b ≤ 9 := by
  unfold gw_ln
  repeat' split
  all_goals omega
theorem gw_lo_le (b : Fin 256) (j : Nat) : gw_lo b j ≤ 255 := by
  unfold gw_lo
  repeat' split
  all_goals omega
theorem gw_hi_le (b : Fin 256) (j : Nat) : gw_hi b j ≤ 255 := by
  unfold gw_hi
  repeat' split
  all_goals omega
set_option maxHeartbeats 4000000 in
set_option maxRecDepth 100000 in
/-- cell(s, k) -/
theorem gw_cell (l : Launch) (b L k : Nat) (xs : Nat → Int32) (hL : L ≤ 40) (hk : k < 2 ^ 30) : Met l yX0_cell (ws_ yX0_cell cX0_cell 2 (some .int)) (gw_R 0 0 0 0) (va_Pc [.ref b, .int (nI k)] (gw_UX b L xs)) (QcRead (gw_cv L xs k)) 0 0 (fun _ => False) := by
  refine gw_met [.ref b, .int (nI k)] "WireTextLaw" rfl (by decide) (Nat.le_of_ble_eq_true rfl) ?_
  intro p e s m below meth c ls C0 hr hlocks hname hl hU
  obtain ⟨hx, hb, hml, hown, hts⟩ := id C0
  obtain ⟨hX, hbl⟩ := hU
  have hS : va_S (fun _ => False) s.heap s.heap [] := va_S.rf
  have hbA : ¬ (fun _ : Nat => False) b := fun h => h
  have hl : lv_has ls 2 [(0, .ref b), (1, .int (nI k))] := hl
  refine lv_iload_n hx hb dX0_cell_0 rfl (lv_at hl 1 rfl) ?_
  refine lv_aload_n hx hb dX0_cell_1 rfl (lv_at hl 0 rfl) ?_
  refine gw_slen hx hb hX hbl hbA hS dX0_cell_2 ?_
  refine gw_c_ge (tgt := 12) hx hb dX0_cell_3 (by decide) (by omega) (by omega) (fun h3 => ?_) (fun h3 => ?_)
  · refine lv_iconst (v := nI 0) hx hb dX0_cell_12 (by decide) ?_
    exact gw_rz hx hb hr hlocks rfl (by unfold gw_cv; rw [if_neg (by omega)]; rfl) dX0_cell_13
  · refine lv_aload_n hx hb dX0_cell_6 rfl (lv_at hl 0 rfl) ?_
    refine lv_iload_n hx hb dX0_cell_7 rfl (lv_at hl 1 rfl) ?_
    refine gw_sld hx hb hX hbl hbA hS h3 (by omega) dX0_cell_8 ?_
    refine lv_goto (tgt := 13) hx hb dX0_cell_9 (by decide) ?_
    exact gw_rz hx hb hr hlocks rfl (by unfold gw_cv; rw [if_pos h3]) dX0_cell_13
set_option maxHeartbeats 4000000 in
set_option maxRecDepth 100000 in
/-- askedCell(s, k) -/
theorem gw_askedCell (l : Launch) (b L k : Nat) (xs : Nat → Int32) (hL : L ≤ 40) (hk : k < 2 ^ 30) : Met l yX0_askedCell (ws_ yX0_askedCell cX0_askedCell 2 (some .int)) (gw_R 0 0 0 0) (va_Pc [.ref b, .int (nI k)] (gw_UX b L xs)) (QcRead (gw_cv L xs k)) 0 0 (fun _ => False) := by
  refine gw_met [.ref b, .int (nI k)] "WireTextLaw" rfl (by decide) (Nat.le_of_ble_eq_true rfl) ?_
  intro p e s m below meth c ls C0 hr hlocks hname hl hU
  obtain ⟨hx, hb, hml, hown, hts⟩ := id C0
  obtain ⟨hX, hbl⟩ := hU
  have hS : va_S (fun _ => False) s.heap s.heap [] := va_S.rf
  have hbA : ¬ (fun _ : Nat => False) b := fun h => h
  have hl : lv_has ls 2 [(0, .ref b), (1, .int (nI k))] := hl
  refine lv_iload_n hx hb dX0_askedCell_0 rfl (lv_at hl 1 rfl) ?_
  refine lv_aload_n hx hb dX0_askedCell_1 rfl (lv_at hl 0 rfl) ?_
  refine gw_slen hx hb hX hbl hbA hS dX0_askedCell_2 ?_
  refine gw_c_ge (tgt := 12) hx hb dX0_askedCell_3 (by decide) (by omega) (by omega) (fun h3 => ?_) (fun h3 => ?_)
  · refine lv_iconst (v := nI 0) hx hb dX0_askedCell_12 (by decide) ?_
    exact gw_rz hx hb hr hlocks rfl (by unfold gw_cv; rw [if_neg (by omega)]; rfl) dX0_askedCell_13
  · refine lv_aload_n hx hb dX0_askedCell_6 rfl (lv_at hl 0 rfl) ?_
    refine lv_iload_n hx hb dX0_askedCell_7 rfl (lv_at hl 1 rfl) ?_
    refine gw_sld hx hb hX hbl hbA hS h3 (by omega) dX0_askedCell_8 ?_
    refine lv_goto (tgt := 13) hx hb dX0_askedCell_9 (by decide) ?_
    exact gw_rz hx hb hr hlocks rfl (by unfold gw_cv; rw [if_pos h3]) dX0_askedCell_13
set_option maxHeartbeats 4000000 in
set_option maxRecDepth 100000 in
/-- askedOctet(s, k, i) -/
theorem gw_askedOctet (l : Launch) (b L k i : Nat) (xs : Nat → Int32) (hL : L ≤ 40) (hk : k < 2 ^ 28) (hi : i < 2 ^ 28) : Met l yX0_askedOctet (ws_ yX0_askedOctet cX0_askedOctet 3 (some .int)) (gw_R 1 0 0 21) (va_Pc [.ref b, .int (nI k), .int (nI i)] (gw_UX b L xs)) (QcRead (nI (gw_oc (gw_cv L xs (k + i / 4)) (i % 4)).val)) 0 0 (fun _ => False) := by
  refine gw_met [.ref b, .int (nI k), .int (nI i)] "WireTextLaw" rfl (by decide) (Nat.le_of_ble_eq_true rfl) ?_
  intro p e s m below meth c ls C0 hr hlocks hname hl hU
  obtain ⟨hx, hb, hml, hown, hts⟩ := id C0
  obtain ⟨hX, hbl⟩ := hU
  have hS : va_S (fun _ => False) s.heap s.heap [] := va_S.rf
  have hbA : ¬ (fun _ : Nat => False) b := fun h => h
  have hl : lv_has ls 3 [(0, .ref b), (1, .int (nI k)), (2, .int (nI i))] := hl
  refine lv_aload_n hx hb dX0_askedOctet_0 rfl (lv_at hl 0 rfl) ?_
  refine lv_iload_n hx hb dX0_askedOctet_1 rfl (lv_at hl 1 rfl) ?_
  refine lv_iload_n hx hb dX0_askedOctet_2 rfl (lv_at hl 2 rfl) ?_
  refine lv_iconst (v := nI 2) hx hb dX0_askedOctet_3 (by decide) ?_
  refine gw_shr (r := i / 4) hx hb dX0_askedOctet_4 (by omega) 2 (by decide) rfl ?_
  refine gw_add hx hb dX0_askedOctet_5 ?_
  refine gw_rS (n := 2) (As := [.ref b, .int (nI (k + (i / 4)))]) (rest := []) C0 (gw_askedCell l b L (k + i / 4) xs hL (by omega)) (lw_S q170 q171 q4 q172) (by decide +kernel) rfl rfl rfl ⟨Nat.le_of_ble_eq_true rfl, Nat.le_of_ble_eq_true rfl⟩ hl rfl (Nat.le_of_ble_eq_true rfl) dX0_askedOctet_6 ⟨Nat.le_of_ble_eq_true rfl, Nat.le_of_ble_eq_true rfl⟩ gw_UXbl (gw_UXmk hX hbl hbA hS) ?_
  refine lv_bipush (v := nI 24) hx hb dX0_askedOctet_9 (by decide) ?_
  refine lv_bipush (v := nI 8) hx hb dX0_askedOctet_11 (by decide) ?_
  refine lv_iload_n hx hb dX0_askedOctet_13 rfl (lv_at hl 2 rfl) ?_
  refine lv_iconst (v := nI 3) hx hb dX0_askedOctet_14 (by decide) ?_
  refine gw_and (r := i % 4) hx hb dX0_askedOctet_15 2 (by decide) (show gw_un (nI i) % 4 = i % 4 from by rw [gw_un_nI (by omega)]) ?_
  refine gw_mul hx hb dX0_askedOctet_16 ?_
  refine gw_sub hx hb dX0_askedOctet_17 (by omega) ?_
  refine lv_ishr hx hb dX0_askedOctet_18 ?_
  refine lv_sipush (v := nI 255) hx hb dX0_askedOctet_19 (by decide) ?_
  refine gw_a255 hx hb dX0_askedOctet_22 ?_
  exact gw_rz hx hb hr hlocks rfl rfl dX0_askedOctet_23
set_option maxHeartbeats 4000000 in
set_option maxRecDepth 100000 in
/-- sign(x, w, a, v): the same byte into the text and into w -/
theorem gw_lsign (l : Launch) (D : va_G) (x t : Nat) (cB : ClassId) (n : Nat) (w : Nat) (cI : ClassId) (N : Nat) (g : gw_G) (sz a : Nat) (v : Int32) (h1 : a < n) (h2 : a < N) (h3 : n ≤ 4096) (h4 : N ≤ 4096) : Met l yX0_sign (ws_ yX0_sign cX0_sign 4 none) (gw_R 1 0 0 23) (va_Pc [.ref x, .ref w, .int (nI a), .int v] (gw_UW D gw_Cl [gw_wx x t n, gw_wb t cB g, gw_wi w cI N g] [(cB, .byte), (cI, .int)] sz)) (gw_QW D gw_Cl [gw_wx x t n, gw_wb t cB (gw_st g a (gw_bt v)), gw_wi w cI N (gw_st g a (gw_bt v))] (va_A [gw_wx x t n, gw_wb t cB g, gw_wi w cI N g] sz)) 0 0 (va_A [gw_wx x t n, gw_wb t cB g, gw_wi w cI N g] sz) := by
  refine gw_met [.ref x, .ref w, .int (nI a), .int v] "WireTextLaw" rfl (by decide) (Nat.le_of_ble_eq_true rfl) ?_
  intro p e s m below meth c ls C0 hr hlocks hname hl hU
  obtain ⟨hx, hb, hml, hown, hts⟩ := id C0
  obtain ⟨hsz, hP, hK, hD0⟩ := hU
  subst hsz
  have hD := hD0.self (sz := s.heap.size)
  generalize hAe : va_A [gw_wx x t n, gw_wb t cB g, gw_wi w cI N g] s.heap.size = A at hD ⊢
  have hA : ∀ q : Nat, s.heap.size ≤ q → A q := fun q h => by rw [← hAe]; exact Or.inr h
  have hS : va_S A s.heap s.heap [] := va_S.rf
  have hix : gw_ms (nI a) % n = a := by
    rw [gw_ms_nI (by omega)]
    exact Nat.mod_eq_of_lt h1
  have hl : lv_has ls 4 [(0, .ref x), (1, .ref w), (2, .int (nI a)), (3, .int v)] := hl
  refine lv_aload_n hx hb dX0_sign_0 rfl (lv_at hl 0 rfl) ?_
  refine lv_iload_n hx hb dX0_sign_1 rfl (lv_at hl 2 rfl) ?_
  refine lv_iload_n hx hb dX0_sign_2 rfl (lv_at hl 3 rfl) ?_
  refine gw_wV (n := 2) (As := [.int (nI a), .int v]) (rest := []) (wc := [gw_wx x t n, gw_wb t cB g]) (wr := [gw_wi w cI N g]) (wF := [gw_wx x t n, gw_wb t cB (gw_st g (gw_ms (nI a) % n) (gw_bt v)), gw_wi w cI N g]) (tc := [(cB, .byte)]) [0, 1] [2] [1, 2, 0] [0] C0 (gw_sign l D x t cB n g s.heap.size (nI a) v (by omega) h3) (lw_V q45 q46 q47 q5 q48) (by decide +kernel) rfl rfl rfl ⟨Nat.le_of_ble_eq_true rfl, Nat.le_of_ble_eq_true rfl⟩ hl rfl (Nat.le_of_ble_eq_true rfl) dX0_sign_3 ⟨Nat.le_of_ble_eq_true rfl, Nat.le_of_ble_eq_true rfl⟩ (va_recv hK hP (ci := 0) (q0 := 0) rfl rfl) hK hP hD hS hA rfl rfl (by decide) rfl (by decide) (by decide) rfl rfl rfl (by decide) (fun H locs hP hD hS => ?_)
  rw [hix] at hP hD
  refine lv_aload_n hx hb dX0_sign_6 rfl (lv_at hl 1 rfl) ?_
  refine lv_iload_n hx hb dX0_sign_7 rfl (lv_at hl 2 rfl) ?_
  refine lv_iload_n hx hb dX0_sign_8 rfl (lv_at hl 3 rfl) ?_
  refine lv_sipush (v := nI 255) hx hb dX0_sign_9 (by decide) ?_
  refine gw_a255 hx hb dX0_sign_12 ?_
  refine gw_ist (k := a) (g := g) (v := (gw_bt v)) hx hb hK hP hD hS 2 1 rfl rfl (by omega) (by omega) dX0_sign_13 (fun H locs hP hD hS => ?_)
  have hP : va_P D gw_Cl [gw_wx x t n, gw_wb t cB (gw_st g a (gw_bt v)), gw_wi w cI N (gw_st g a ((gw_bt v)))] H := hP
  have hD : va_D A [gw_wx x t n, gw_wb t cB (gw_st g a (gw_bt v)), gw_wi w cI N (gw_st g a ((gw_bt v)))] := hD
  exact gw_ev hx hb hr hlocks hP hD hS dX0_sign_14
set_option maxHeartbeats 4000000 in
set_option maxRecDepth 100000 in
/-- lay(x, w, a, c): the letter of c, at a -/
theorem gw_lay (l : Launch) (D : va_G) (x t : Nat) (cB : ClassId) (n : Nat) (w : Nat) (cI : ClassId) (N : Nat) (g : gw_G) (sz a : Nat) (c : Int32) (h1 : a + 4 ≤ n) (h2 : a + 4 ≤ N) (h3 : n ≤ 4096) (h4 : N ≤ 4096) : Met l yX0_lay (ws_ yX0_lay cX0_lay 5 (some .int)) (gw_R 2 0 0 46) (va_Pc [.ref x, .ref w, .int (nI a), .int c] (gw_UW D gw_Cl [gw_wx x t n, gw_wb t cB g, gw_wi w cI N g] [(cB, .byte), (cI, .int)] sz)) (gw_QI (nI (a + gw_ll c)) D gw_Cl [gw_wx x t n, gw_wb t cB (gw_ly g a c), gw_wi w cI N (gw_ly g a c)] (va_A [gw_wx x t n, gw_wb t cB g, gw_wi w cI N g] sz)) 0 0 (va_A [gw_wx x t n, gw_wb t cB g, gw_wi w cI N g] sz) := by
  refine gw_met [.ref x, .ref w, .int (nI a), .int c] "WireTextLaw" rfl (by decide) (Nat.le_of_ble_eq_true rfl) ?_
  intro p e s m below meth cd ls C0 hr hlocks hname hl hU
  obtain ⟨hx, hb, hml, hown, hts⟩ := id C0
  obtain ⟨hsz, hP, hK, hD0⟩ := hU
  subst hsz
  have hD := hD0.self (sz := s.heap.size)
  generalize hAe : va_A [gw_wx x t n, gw_wb t cB g, gw_wi w cI N g] s.heap.size = A at hD ⊢
  have hA : ∀ q : Nat, s.heap.size ≤ q → A q := fun q h => by rw [← hAe]; exact Or.inr h
  have hS : va_S A s.heap s.heap [] := va_S.rf
  have hu := gw_un_lt c
  have hl : lv_has ls 5 [(0, .ref x), (1, .ref w), (2, .int (nI a)), (3, .int c)] := hl
  refine lv_iload_n hx hb dX0_lay_0 rfl (lv_at hl 3 rfl) ?_
  refine lv_iconst (v := nI 2) hx hb dX0_lay_1 (by decide) ?_
  refine gw_ushr (r := gw_un c / 4) hx hb dX0_lay_2 2 (by decide) rfl ?_
  refine lv_istore (lv' := [(4, .int (nI (gw_un c / 4))), (0, .ref x), (1, .ref w), (2, .int (nI a)), (3, .int c)]) hx hb dX0_lay_3 hl (by decide) rfl (fun ls hl => ?_)
  refine lv_iload_n hx hb dX0_lay_5 rfl (lv_at hl 4 rfl) ?_
  refine lv_iconst (v := nI 3) hx hb dX0_lay_6 (by decide) ?_
  refine gw_and (r := gw_un c % 4) hx hb dX0_lay_7 2 (by decide) rfl ?_
  refine gw_z_ne (tgt := 26) hx hb dX0_lay_8 (by decide) (by omega) (fun h8 => ?_) (fun h8 => ?_)
  · refine lv_iload_n hx hb dX0_lay_26 rfl (lv_at hl 4 rfl) ?_
    refine lv_iconst (v := nI 3) hx hb dX0_lay_27 (by decide) ?_
    refine gw_and (r := gw_un c % 4) hx hb dX0_lay_28 2 (by decide) rfl ?_
    refine lv_iconst (v := nI 1) hx hb dX0_lay_29 (by decide) ?_
    refine gw_c_ne (tgt := 81) hx hb dX0_lay_30 (by decide) (by omega) (by omega) (fun h30 => ?_) (fun h30 => ?_)
    · refine lv_iload_n hx hb dX0_lay_81 rfl (lv_at hl 4 rfl) ?_
      refine lv_iconst (v := nI 3) hx hb dX0_lay_82 (by decide) ?_
      refine gw_and (r := gw_un c % 4) hx hb dX0_lay_83 2 (by decide) rfl ?_
      refine lv_iconst (v := nI 2) hx hb dX0_lay_84 (by decide) ?_
      refine gw_c_ne (tgt := 174) hx hb dX0_lay_85 (by decide) (by omega) (by omega) (fun h85 => ?_) (fun h85 => ?_)
      · obtain ⟨v, hv⟩ : ∃ v, v = 65536 + gw_un c / 4 % 1048576 := ⟨_, rfl⟩
        refine lv_ldc (v := (65536 : Int32)) hx hb hown (hts _ q52) dX0_lay_174 ?_
        refine gw_int (y := nI 65536) rfl ?_
        refine lv_iload hx hb dX0_lay_176 (lv_at hl 0 rfl) ?_
        refine lv_ldc (v := (1048575 : Int32)) hx hb hown (hts _ q53) dX0_lay_178 ?_
        refine gw_int (y := nI 1048575) rfl ?_
        refine gw_and (r := (gw_un c / 4) % 1048576) hx hb dX0_lay_180 20 (by decide) (show gw_un (nI (gw_un c / 4)) % 1048576 = (gw_un c / 4) % 1048576 from by rw [gw_un_nI (by omega)]) ?_
        refine gw_add hx hb dX0_lay_181 ?_
        refine gw_int (y := nI v) (by rw [hv]) ?_
        refine lv_istore (lv' := [(4, .int (nI v)), (0, .ref x), (1, .ref w), (2, .int (nI a)), (3, .int c)]) hx hb dX0_lay_182 hl (by decide) rfl (fun ls hl => ?_)
        refine lv_aload_n hx hb dX0_lay_184 rfl (lv_at hl 1 rfl) ?_
        refine lv_aload_n hx hb dX0_lay_185 rfl (lv_at hl 2 rfl) ?_
        refine lv_iload_n hx hb dX0_lay_186 rfl (lv_at hl 3 rfl) ?_
        refine lv_sipush (v := nI 240) hx hb dX0_lay_187 (by decide) ?_
        refine lv_iload hx hb dX0_lay_190 (lv_at hl 0 rfl) ?_
        refine lv_bipush (v := nI 18) hx hb dX0_lay_192 (by decide) ?_
        refine gw_shr (r := v / 262144) hx hb dX0_lay_194 (by omega) 18 (by decide) rfl ?_
        refine gw_or hx hb dX0_lay_195 4 15 rfl (by omega) ?_
        refine gw_wS (n := 4) (As := [.ref x, .ref w, .int (nI a), .int (nI (240 + (v / 262144)))]) (rest := []) (wc := [gw_wx x t n, gw_wb t cB g, gw_wi w cI N g]) (wr := []) (wF := [gw_wx x t n, gw_wb t cB (gw_st g a (gw_bt (nI (240 + (v / 262144))))), gw_wi w cI N (gw_st g a (gw_bt (nI (240 + (v / 262144)))))]) (tc := [(cB, .byte), (cI, .int)]) [0, 1, 2] [] [0, 1, 2] [0, 1] C0 (gw_lsign l D x t cB n w cI N g s.heap.size a (nI (240 + (v / 262144))) (by omega) (by omega) (by omega) (by omega)) (lw_S q42 q43 q4 q44) (by decide +kernel) rfl rfl rfl ⟨Nat.le_of_ble_eq_true rfl, Nat.le_of_ble_eq_true rfl⟩ hl rfl (Nat.le_of_ble_eq_true rfl) dX0_lay_196 ⟨Nat.le_of_ble_eq_true rfl, Nat.le_of_ble_eq_true rfl⟩ hK hP hD hS hA rfl rfl (by decide) rfl (by decide) (by decide) rfl rfl rfl (by decide) (fun H locs hP hD hS => ?_)
        rw [gw_bt_nI (n := 240 + (v / 262144)) (by omega)] at hP hD
        refine lv_aload_n hx hb dX0_lay_199 rfl (lv_at hl 1 rfl) ?_
        refine lv_aload_n hx hb dX0_lay_200 rfl (lv_at hl 2 rfl) ?_
        refine lv_iload_n hx hb dX0_lay_201 rfl (lv_at hl 3 rfl) ?_
        refine lv_iconst (v := nI 1) hx hb dX0_lay_202 (by decide) ?_
        refine gw_add hx hb dX0_lay_203 ?_
        refine lv_sipush (v := nI 128) hx hb dX0_lay_204 (by decide) ?_
        refine lv_iload hx hb dX0_lay_207 (lv_at hl 0 rfl) ?_
        refine lv_bipush (v := nI 12) hx hb dX0_lay_209 (by decide) ?_
        refine gw_shr (r := v / 4096) hx hb dX0_lay_211 (by omega) 12 (by decide) rfl ?_
        refine lv_bipush (v := nI 63) hx hb dX0_lay_212 (by decide) ?_
        refine gw_and (r := (v / 4096) % 64) hx hb dX0_lay_214 6 (by decide) (show gw_un (nI (v / 4096)) % 64 = (v / 4096) % 64 from by rw [gw_un_nI (by omega)]) ?_
        refine gw_or hx hb dX0_lay_215 6 2 rfl (by omega) ?_
        refine gw_wS (n := 4) (As := [.ref x, .ref w, .int (nI (a + 1)), .int (nI (128 + ((v / 4096) % 64)))]) (rest := []) (wc := [gw_wx x t n, gw_wb t cB (gw_st g a (gw_b8 (240 + (v / 262144)))), gw_wi w cI N (gw_st g a (gw_b8 (240 + (v / 262144))))]) (wr := []) (wF := [gw_wx x t n, gw_wb t cB (gw_st (gw_st g a (gw_b8 (240 + (v / 262144)))) (a + 1) (gw_bt (nI (128 + ((v / 4096) % 64))))), gw_wi w cI N (gw_st (gw_st g a (gw_b8 (240 + (v / 262144)))) (a + 1) (gw_bt (nI (128 + ((v / 4096) % 64)))))]) (tc := [(cB, .byte), (cI, .int)]) [0, 1, 2] [] [0, 1, 2] [0, 1] C0 (gw_lsign l D x t cB n w cI N (gw_st g a (gw_b8 (240 + (v / 262144)))) H.size (a + 1) (nI (128 + ((v / 4096) % 64))) (by omega) (by omega) (by omega) (by omega)) (lw_S q42 q43 q4 q44) (by decide +kernel) rfl rfl rfl ⟨Nat.le_of_ble_eq_true rfl, Nat.le_of_ble_eq_true rfl⟩ hl rfl (Nat.le_of_ble_eq_true rfl) dX0_lay_216 ⟨Nat.le_of_ble_eq_true rfl, Nat.le_of_ble_eq_true rfl⟩ hK hP hD hS hA rfl rfl (by decide) rfl (by decide) (by decide) rfl rfl rfl (by decide) (fun H locs hP hD hS => ?_)
        rw [gw_bt_nI (n := 128 + ((v / 4096) % 64)) (by omega)] at hP hD
        refine lv_aload_n hx hb dX0_lay_219 rfl (lv_at hl 1 rfl) ?_
        refine lv_aload_n hx hb dX0_lay_220 rfl (lv_at hl 2 rfl) ?_
        refine lv_iload_n hx hb dX0_lay_221 rfl (lv_at hl 3 rfl) ?_
        refine lv_iconst (v := nI 2) hx hb dX0_lay_222 (by decide) ?_
        refine gw_add hx hb dX0_lay_223 ?_
        refine lv_sipush (v := nI 128) hx hb dX0_lay_224 (by decide) ?_
        refine lv_iload hx hb dX0_lay_227 (lv_at hl 0 rfl) ?_
        refine lv_bipush (v := nI 6) hx hb dX0_lay_229 (by decide) ?_
        refine gw_shr (r := v / 64) hx hb dX0_lay_231 (by omega) 6 (by decide) rfl ?_
        refine lv_bipush (v := nI 63) hx hb dX0_lay_232 (by decide) ?_
        refine gw_and (r := (v / 64) % 64) hx hb dX0_lay_234 6 (by decide) (show gw_un (nI (v / 64)) % 64 = (v / 64) % 64 from by rw [gw_un_nI (by omega)]) ?_
        refine gw_or hx hb dX0_lay_235 6 2 rfl (by omega) ?_
        refine gw_wS (n := 4) (As := [.ref x, .ref w, .int (nI (a + 2)), .int (nI (128 + ((v / 64) % 64)))]) (rest := []) (wc := [gw_wx x t n, gw_wb t cB (gw_st (gw_st g a (gw_b8 (240 + (v / 262144)))) (a + 1) (gw_b8 (128 + ((v / 4096) % 64)))), gw_wi w cI N (gw_st (gw_st g a (gw_b8 (240 + (v / 262144)))) (a + 1) (gw_b8 (128 + ((v / 4096) % 64))))]) (wr := []) (wF := [gw_wx x t n, gw_wb t cB (gw_st (gw_st (gw_st g a (gw_b8 (240 + (v / 262144)))) (a + 1) (gw_b8 (128 + ((v / 4096) % 64)))) (a + 2) (gw_bt (nI (128 + ((v / 64) % 64))))), gw_wi w cI N (gw_st (gw_st (gw_st g a (gw_b8 (240 + (v / 262144)))) (a + 1) (gw_b8 (128 + ((v / 4096) % 64)))) (a + 2) (gw_bt (nI (128 + ((v / 64) % 64)))))]) (tc := [(cB, .byte), (cI, .int)]) [0, 1, 2] [] [0, 1, 2] [0, 1] C0 (gw_lsign l D x t cB n w cI N (gw_st (gw_st g a (gw_b8 (240 + (v / 262144)))) (a + 1) (gw_b8 (128 + ((v / 4096) % 64)))) H.size (a + 2) (nI (128 + ((v / 64) % 64))) (by omega) (by omega) (by omega) (by omega)) (lw_S q42 q43 q4 q44) (by decide +kernel) rfl rfl rfl ⟨Nat.le_of_ble_eq_true rfl, Nat.le_of_ble_eq_true rfl⟩ hl rfl (Nat.le_of_ble_eq_true rfl) dX0_lay_236 ⟨Nat.le_of_ble_eq_true rfl, Nat.le_of_ble_eq_true rfl⟩ hK hP hD hS hA rfl rfl (by decide) rfl (by decide) (by decide) rfl rfl rfl (by decide) (fun H locs hP hD hS => ?_)
        rw [gw_bt_nI (n := 128 + ((v / 64) % 64)) (by omega)] at hP hD
        refine lv_aload_n hx hb dX0_lay_239 rfl (lv_at hl 1 rfl) ?_
        refine lv_aload_n hx hb dX0_lay_240 rfl (lv_at hl 2 rfl) ?_
        refine lv_iload_n hx hb dX0_lay_241 rfl (lv_at hl 3 rfl) ?_
        refine lv_iconst (v := nI 3) hx hb dX0_lay_242 (by decide) ?_
        refine gw_add hx hb dX0_lay_243 ?_
        refine lv_sipush (v := nI 128) hx hb dX0_lay_244 (by decide) ?_
        refine lv_iload hx hb dX0_lay_247 (lv_at hl 0 rfl) ?_
        refine lv_bipush (v := nI 63) hx hb dX0_lay_249 (by decide) ?_
        refine gw_and (r := v % 64) hx hb dX0_lay_251 6 (by decide) (show gw_un (nI v) % 64 = v % 64 from by rw [gw_un_nI (by omega)]) ?_
        refine gw_or hx hb dX0_lay_252 6 2 rfl (by omega) ?_
        refine gw_wS (n := 4) (As := [.ref x, .ref w, .int (nI (a + 3)), .int (nI (128 + (v % 64)))]) (rest := []) (wc := [gw_wx x t n, gw_wb t cB (gw_st (gw_st (gw_st g a (gw_b8 (240 + (v / 262144)))) (a + 1) (gw_b8 (128 + ((v / 4096) % 64)))) (a + 2) (gw_b8 (128 + ((v / 64) % 64)))), gw_wi w cI N (gw_st (gw_st (gw_st g a (gw_b8 (240 + (v / 262144)))) (a + 1) (gw_b8 (128 + ((v / 4096) % 64)))) (a + 2) (gw_b8 (128 + ((v / 64) % 64))))]) (wr := []) (wF := [gw_wx x t n, gw_wb t cB (gw_st (gw_st (gw_st (gw_st g a (gw_b8 (240 + (v / 262144)))) (a + 1) (gw_b8 (128 + ((v / 4096) % 64)))) (a + 2) (gw_b8 (128 + ((v / 64) % 64)))) (a + 3) (gw_bt (nI (128 + (v % 64))))), gw_wi w cI N (gw_st (gw_st (gw_st (gw_st g a (gw_b8 (240 + (v / 262144)))) (a + 1) (gw_b8 (128 + ((v / 4096) % 64)))) (a + 2) (gw_b8 (128 + ((v / 64) % 64)))) (a + 3) (gw_bt (nI (128 + (v % 64)))))]) (tc := [(cB, .byte), (cI, .int)]) [0, 1, 2] [] [0, 1, 2] [0, 1] C0 (gw_lsign l D x t cB n w cI N (gw_st (gw_st (gw_st g a (gw_b8 (240 + (v / 262144)))) (a + 1) (gw_b8 (128 + ((v / 4096) % 64)))) (a + 2) (gw_b8 (128 + ((v / 64) % 64)))) H.size (a + 3) (nI (128 + (v % 64))) (by omega) (by omega) (by omega) (by omega)) (lw_S q42 q43 q4 q44) (by decide +kernel) rfl rfl rfl ⟨Nat.le_of_ble_eq_true rfl, Nat.le_of_ble_eq_true rfl⟩ hl rfl (Nat.le_of_ble_eq_true rfl) dX0_lay_253 ⟨Nat.le_of_ble_eq_true rfl, Nat.le_of_ble_eq_true rfl⟩ hK hP hD hS hA rfl rfl (by decide) rfl (by decide) (by decide) rfl rfl rfl (by decide) (fun H locs hP hD hS => ?_)
        rw [gw_bt_nI (n := 128 + (v % 64)) (by omega)] at hP hD
        refine lv_iload_n hx hb dX0_lay_256 rfl (lv_at hl 3 rfl) ?_
        refine lv_iconst (v := nI 4) hx hb dX0_lay_257 (by decide) ?_
        refine gw_add hx hb dX0_lay_258 ?_
        have ely : gw_ly g a c = gw_l4 g a v := by
          unfold gw_ly
          rw [if_neg (by omega), if_neg (by omega), if_neg (by omega), hv]
        have hP : va_P D gw_Cl [gw_wx x t n, gw_wb t cB (gw_ly g a c), gw_wi w cI N (gw_ly g a c)] H := by rw [ely]; exact hP
        have hD : va_D A [gw_wx x t n, gw_wb t cB (gw_ly g a c), gw_wi w cI N (gw_ly g a c)] := by rw [ely]; exact hD
        have ell : a + 4 = a + gw_ll c := by unfold gw_ll; omega
        exact gw_ei hx hb hr hlocks rfl (by rw [ell]) hP hD hS dX0_lay_259
      · have hvi := gw_v3_in (gw_un c)
        obtain ⟨v, hv⟩ : ∃ v, v = gw_v3 (gw_un c) := ⟨_, rfl⟩
        rw [← hv] at hvi
        refine lv_sipush (v := nI 2048) hx hb dX0_lay_88 (by decide) ?_
        refine lv_iload hx hb dX0_lay_91 (lv_at hl 0 rfl) ?_
        refine lv_ldc (v := (61440 : Int32)) hx hb hown (hts _ q50) dX0_lay_93 ?_
        refine gw_int (y := nI 61440) rfl ?_
        refine gw_rem hx hb dX0_lay_95 (by omega) (by omega) (by omega) ?_
        refine gw_add hx hb dX0_lay_96 ?_
        refine lv_istore (lv' := [(4, .int (nI (2048 + ((gw_un c / 4) % 61440)))), (0, .ref x), (1, .ref w), (2, .int (nI a)), (3, .int c)]) hx hb dX0_lay_97 hl (by decide) rfl (fun ls hl => ?_)
        refine lv_iload hx hb dX0_lay_99 (lv_at hl 0 rfl) ?_
        refine lv_iload hx hb dX0_lay_101 (lv_at hl 0 rfl) ?_
        refine lv_ldc (v := (55296 : Int32)) hx hb hown (hts _ q51) dX0_lay_103 ?_
        refine gw_int (y := nI 55296) rfl ?_
        refine gw_c_lt (tgt := 114) hx hb dX0_lay_105 (by decide) (by omega) (by omega) (fun h105 => ?_) (fun h105 => ?_)
        · refine lv_iconst (v := nI 0) hx hb dX0_lay_114 (by decide) ?_
          refine gw_add hx hb dX0_lay_115 ?_
          refine gw_int (y := nI v) (by rw [hv]; unfold gw_v3; rw [if_pos h105]; rfl) ?_
          refine lv_istore (lv' := [(4, .int (nI v)), (0, .ref x), (1, .ref w), (2, .int (nI a)), (3, .int c)]) hx hb dX0_lay_116 hl (by decide) rfl (fun ls hl => ?_)
          refine lv_aload_n hx hb dX0_lay_118 rfl (lv_at hl 1 rfl) ?_
          refine lv_aload_n hx hb dX0_lay_119 rfl (lv_at hl 2 rfl) ?_
          refine lv_iload_n hx hb dX0_lay_120 rfl (lv_at hl 3 rfl) ?_
          refine lv_sipush (v := nI 224) hx hb dX0_lay_121 (by decide) ?_
          refine lv_iload hx hb dX0_lay_124 (lv_at hl 0 rfl) ?_
          refine lv_bipush (v := nI 12) hx hb dX0_lay_126 (by decide) ?_
          refine gw_shr (r := v / 4096) hx hb dX0_lay_128 (by omega) 12 (by decide) rfl ?_
          refine gw_or hx hb dX0_lay_129 5 7 rfl (by omega) ?_
          refine gw_wS (n := 4) (As := [.ref x, .ref w, .int (nI a), .int (nI (224 + (v / 4096)))]) (rest := []) (wc := [gw_wx x t n, gw_wb t cB g, gw_wi w cI N g]) (wr := []) (wF := [gw_wx x t n, gw_wb t cB (gw_st g a (gw_bt (nI (224 + (v / 4096))))), gw_wi w cI N (gw_st g a (gw_bt (nI (224 + (v / 4096)))))]) (tc := [(cB, .byte), (cI, .int)]) [0, 1, 2] [] [0, 1, 2] [0, 1] C0 (gw_lsign l D x t cB n w cI N g s.heap.size a (nI (224 + (v / 4096))) (by omega) (by omega) (by omega) (by omega)) (lw_S q42 q43 q4 q44) (by decide +kernel) rfl rfl rfl ⟨Nat.le_of_ble_eq_true rfl, Nat.le_of_ble_eq_true rfl⟩ hl rfl (Nat.le_of_ble_eq_true rfl) dX0_lay_130 ⟨Nat.le_of_ble_eq_true rfl, Nat.le_of_ble_eq_true rfl⟩ hK hP hD hS hA rfl rfl (by decide) rfl (by decide) (by decide) rfl rfl rfl (by decide) (fun H locs hP hD hS => ?_)
          rw [gw_bt_nI (n := 224 + (v / 4096)) (by omega)] at hP hD
          refine lv_aload_n hx hb dX0_lay_133 rfl (lv_at hl 1 rfl) ?_
          refine lv_aload_n hx hb dX0_lay_134 rfl (lv_at hl 2 rfl) ?_
          refine lv_iload_n hx hb dX0_lay_135 rfl (lv_at hl 3 rfl) ?_
          refine lv_iconst (v := nI 1) hx hb dX0_lay_136 (by decide) ?_
          refine gw_add hx hb dX0_lay_137 ?_
          refine lv_sipush (v := nI 128) hx hb dX0_lay_138 (by decide) ?_
          refine lv_iload hx hb dX0_lay_141 (lv_at hl 0 rfl) ?_
          refine lv_bipush (v := nI 6) hx hb dX0_lay_143 (by decide) ?_
          refine gw_shr (r := v / 64) hx hb dX0_lay_145 (by omega) 6 (by decide) rfl ?_
          refine lv_bipush (v := nI 63) hx hb dX0_lay_146 (by decide) ?_
          refine gw_and (r := (v / 64) % 64) hx hb dX0_lay_148 6 (by decide) (show gw_un (nI (v / 64)) % 64 = (v / 64) % 64 from by rw [gw_un_nI (by omega)]) ?_
          refine gw_or hx hb dX0_lay_149 6 2 rfl (by omega) ?_
          refine gw_wS (n := 4) (As := [.ref x, .ref w, .int (nI (a + 1)), .int (nI (128 + ((v / 64) % 64)))]) (rest := []) (wc := [gw_wx x t n, gw_wb t cB (gw_st g a (gw_b8 (224 + (v / 4096)))), gw_wi w cI N (gw_st g a (gw_b8 (224 + (v / 4096))))]) (wr := []) (wF := [gw_wx x t n, gw_wb t cB (gw_st (gw_st g a (gw_b8 (224 + (v / 4096)))) (a + 1) (gw_bt (nI (128 + ((v / 64) % 64))))), gw_wi w cI N (gw_st (gw_st g a (gw_b8 (224 + (v / 4096)))) (a + 1) (gw_bt (nI (128 + ((v / 64) % 64)))))]) (tc := [(cB, .byte), (cI, .int)]) [0, 1, 2] [] [0, 1, 2] [0, 1] C0 (gw_lsign l D x t cB n w cI N (gw_st g a (gw_b8 (224 + (v / 4096)))) H.size (a + 1) (nI (128 + ((v / 64) % 64))) (by omega) (by omega) (by omega) (by omega)) (lw_S q42 q43 q4 q44) (by decide +kernel) rfl rfl rfl ⟨Nat.le_of_ble_eq_true rfl, Nat.le_of_ble_eq_true rfl⟩ hl rfl (Nat.le_of_ble_eq_true rfl) dX0_lay_150 ⟨Nat.le_of_ble_eq_true rfl, Nat.le_of_ble_eq_true rfl⟩ hK hP hD hS hA rfl rfl (by decide) rfl (by decide) (by decide) rfl rfl rfl (by decide) (fun H locs hP hD hS => ?_)
          rw [gw_bt_nI (n := 128 + ((v / 64) % 64)) (by omega)] at hP hD
          refine lv_aload_n hx hb dX0_lay_153 rfl (lv_at hl 1 rfl) ?_
          refine lv_aload_n hx hb dX0_lay_154 rfl (lv_at hl 2 rfl) ?_
          refine lv_iload_n hx hb dX0_lay_155 rfl (lv_at hl 3 rfl) ?_
          refine lv_iconst (v := nI 2) hx hb dX0_lay_156 (by decide) ?_
          refine gw_add hx hb dX0_lay_157 ?_
          refine lv_sipush (v := nI 128) hx hb dX0_lay_158 (by decide) ?_
          refine lv_iload hx hb dX0_lay_161 (lv_at hl 0 rfl) ?_
          refine lv_bipush (v := nI 63) hx hb dX0_lay_163 (by decide) ?_
          refine gw_and (r := v % 64) hx hb dX0_lay_165 6 (by decide) (show gw_un (nI v) % 64 = v % 64 from by rw [gw_un_nI (by omega)]) ?_
          refine gw_or hx hb dX0_lay_166 6 2 rfl (by omega) ?_
          refine gw_wS (n := 4) (As := [.ref x, .ref w, .int (nI (a + 2)), .int (nI (128 + (v % 64)))]) (rest := []) (wc := [gw_wx x t n, gw_wb t cB (gw_st (gw_st g a (gw_b8 (224 + (v / 4096)))) (a + 1) (gw_b8 (128 + ((v / 64) % 64)))), gw_wi w cI N (gw_st (gw_st g a (gw_b8 (224 + (v / 4096)))) (a + 1) (gw_b8 (128 + ((v / 64) % 64))))]) (wr := []) (wF := [gw_wx x t n, gw_wb t cB (gw_st (gw_st (gw_st g a (gw_b8 (224 + (v / 4096)))) (a + 1) (gw_b8 (128 + ((v / 64) % 64)))) (a + 2) (gw_bt (nI (128 + (v % 64))))), gw_wi w cI N (gw_st (gw_st (gw_st g a (gw_b8 (224 + (v / 4096)))) (a + 1) (gw_b8 (128 + ((v / 64) % 64)))) (a + 2) (gw_bt (nI (128 + (v % 64)))))]) (tc := [(cB, .byte), (cI, .int)]) [0, 1, 2] [] [0, 1, 2] [0, 1] C0 (gw_lsign l D x t cB n w cI N (gw_st (gw_st g a (gw_b8 (224 + (v / 4096)))) (a + 1) (gw_b8 (128 + ((v / 64) % 64)))) H.size (a + 2) (nI (128 + (v % 64))) (by omega) (by omega) (by omega) (by omega)) (lw_S q42 q43 q4 q44) (by decide +kernel) rfl rfl rfl ⟨Nat.le_of_ble_eq_true rfl, Nat.le_of_ble_eq_true rfl⟩ hl rfl (Nat.le_of_ble_eq_true rfl) dX0_lay_167 ⟨Nat.le_of_ble_eq_true rfl, Nat.le_of_ble_eq_true rfl⟩ hK hP hD hS hA rfl rfl (by decide) rfl (by decide) (by decide) rfl rfl rfl (by decide) (fun H locs hP hD hS => ?_)
          rw [gw_bt_nI (n := 128 + (v % 64)) (by omega)] at hP hD
          refine lv_iload_n hx hb dX0_lay_170 rfl (lv_at hl 3 rfl) ?_
          refine lv_iconst (v := nI 3) hx hb dX0_lay_171 (by decide) ?_
          refine gw_add hx hb dX0_lay_172 ?_
          have ely : gw_ly g a c = gw_l3 g a v := by
            unfold gw_ly
            rw [if_neg (by omega), if_neg (by omega), if_pos (by omega), hv]
          have hP : va_P D gw_Cl [gw_wx x t n, gw_wb t cB (gw_ly g a c), gw_wi w cI N (gw_ly g a c)] H := by rw [ely]; exact hP
          have hD : va_D A [gw_wx x t n, gw_wb t cB (gw_ly g a c), gw_wi w cI N (gw_ly g a c)] := by rw [ely]; exact hD
          have ell : a + 3 = a + gw_ll c := by unfold gw_ll; omega
          exact gw_ei hx hb hr hlocks rfl (by rw [ell]) hP hD hS dX0_lay_173
        · refine lv_sipush (v := nI 2048) hx hb dX0_lay_108 (by decide) ?_
          refine lv_goto (tgt := 115) hx hb dX0_lay_111 (by decide) ?_
          refine gw_add hx hb dX0_lay_115 ?_
          refine gw_int (y := nI v) (by rw [hv]; unfold gw_v3; rw [if_neg (by omega)]) ?_
          refine lv_istore (lv' := [(4, .int (nI v)), (0, .ref x), (1, .ref w), (2, .int (nI a)), (3, .int c)]) hx hb dX0_lay_116 hl (by decide) rfl (fun ls hl => ?_)
          refine lv_aload_n hx hb dX0_lay_118 rfl (lv_at hl 1 rfl) ?_
          refine lv_aload_n hx hb dX0_lay_119 rfl (lv_at hl 2 rfl) ?_
          refine lv_iload_n hx hb dX0_lay_120 rfl (lv_at hl 3 rfl) ?_
          refine lv_sipush (v := nI 224) hx hb dX0_lay_121 (by decide) ?_
          refine lv_iload hx hb dX0_lay_124 (lv_at hl 0 rfl) ?_
          refine lv_bipush (v := nI 12) hx hb dX0_lay_126 (by decide) ?_
          refine gw_shr (r := v / 4096) hx hb dX0_lay_128 (by omega) 12 (by decide) rfl ?_
          refine gw_or hx hb dX0_lay_129 5 7 rfl (by omega) ?_
          refine gw_wS (n := 4) (As := [.ref x, .ref w, .int (nI a), .int (nI (224 + (v / 4096)))]) (rest := []) (wc := [gw_wx x t n, gw_wb t cB g, gw_wi w cI N g]) (wr := []) (wF := [gw_wx x t n, gw_wb t cB (gw_st g a (gw_bt (nI (224 + (v / 4096))))), gw_wi w cI N (gw_st g a (gw_bt (nI (224 + (v / 4096)))))]) (tc := [(cB, .byte), (cI, .int)]) [0, 1, 2] [] [0, 1, 2] [0, 1] C0 (gw_lsign l D x t cB n w cI N g s.heap.size a (nI (224 + (v / 4096))) (by omega) (by omega) (by omega) (by omega)) (lw_S q42 q43 q4 q44) (by decide +kernel) rfl rfl rfl ⟨Nat.le_of_ble_eq_true rfl, Nat.le_of_ble_eq_true rfl⟩ hl rfl (Nat.le_of_ble_eq_true rfl) dX0_lay_130 ⟨Nat.le_of_ble_eq_true rfl, Nat.le_of_ble_eq_true rfl⟩ hK hP hD hS hA rfl rfl (by decide) rfl (by decide) (by decide) rfl rfl rfl (by decide) (fun H locs hP hD hS => ?_)
          rw [gw_bt_nI (n := 224 + (v / 4096)) (by omega)] at hP hD
          refine lv_aload_n hx hb dX0_lay_133 rfl (lv_at hl 1 rfl) ?_
          refine lv_aload_n hx hb dX0_lay_134 rfl (lv_at hl 2 rfl) ?_
          refine lv_iload_n hx hb dX0_lay_135 rfl (lv_at hl 3 rfl) ?_
          refine lv_iconst (v := nI 1) hx hb dX0_lay_136 (by decide) ?_
          refine gw_add hx hb dX0_lay_137 ?_
          refine lv_sipush (v := nI 128) hx hb dX0_lay_138 (by decide) ?_
          refine lv_iload hx hb dX0_lay_141 (lv_at hl 0 rfl) ?_
          refine lv_bipush (v := nI 6) hx hb dX0_lay_143 (by decide) ?_
          refine gw_shr (r := v / 64) hx hb dX0_lay_145 (by omega) 6 (by decide) rfl ?_
          refine lv_bipush (v := nI 63) hx hb dX0_lay_146 (by decide) ?_
          refine gw_and (r := (v / 64) % 64) hx hb dX0_lay_148 6 (by decide) (show gw_un (nI (v / 64)) % 64 = (v / 64) % 64 from by rw [gw_un_nI (by omega)]) ?_
          refine gw_or hx hb dX0_lay_149 6 2 rfl (by omega) ?_
          refine gw_wS (n := 4) (As := [.ref x, .ref w, .int (nI (a + 1)), .int (nI (128 + ((v / 64) % 64)))]) (rest := []) (wc := [gw_wx x t n, gw_wb t cB (gw_st g a (gw_b8 (224 + (v / 4096)))), gw_wi w cI N (gw_st g a (gw_b8 (224 + (v / 4096))))]) (wr := []) (wF := [gw_wx x t n, gw_wb t cB (gw_st (gw_st g a (gw_b8 (224 + (v / 4096)))) (a + 1) (gw_bt (nI (128 + ((v / 64) % 64))))), gw_wi w cI N (gw_st (gw_st g a (gw_b8 (224 + (v / 4096)))) (a + 1) (gw_bt (nI (128 + ((v / 64) % 64)))))]) (tc := [(cB, .byte), (cI, .int)]) [0, 1, 2] [] [0, 1, 2] [0, 1] C0 (gw_lsign l D x t cB n w cI N (gw_st g a (gw_b8 (224 + (v / 4096)))) H.size (a + 1) (nI (128 + ((v / 64) % 64))) (by omega) (by omega) (by omega) (by omega)) (lw_S q42 q43 q4 q44) (by decide +kernel) rfl rfl rfl ⟨Nat.le_of_ble_eq_true rfl, Nat.le_of_ble_eq_true rfl⟩ hl rfl (Nat.le_of_ble_eq_true rfl) dX0_lay_150 ⟨Nat.le_of_ble_eq_true rfl, Nat.le_of_ble_eq_true rfl⟩ hK hP hD hS hA rfl rfl (by decide) rfl (by decide) (by decide) rfl rfl rfl (by decide) (fun H locs hP hD hS => ?_)
          rw [gw_bt_nI (n := 128 + ((v / 64) % 64)) (by omega)] at hP hD
          refine lv_aload_n hx hb dX0_lay_153 rfl (lv_at hl 1 rfl) ?_
          refine lv_aload_n hx hb dX0_lay_154 rfl (lv_at hl 2 rfl) ?_
          refine lv_iload_n hx hb dX0_lay_155 rfl (lv_at hl 3 rfl) ?_
          refine lv_iconst (v := nI 2) hx hb dX0_lay_156 (by decide) ?_
          refine gw_add hx hb dX0_lay_157 ?_
          refine lv_sipush (v := nI 128) hx hb dX0_lay_158 (by decide) ?_
          refine lv_iload hx hb dX0_lay_161 (lv_at hl 0 rfl) ?_
          refine lv_bipush (v := nI 63) hx hb dX0_lay_163 (by decide) ?_
          refine gw_and (r := v % 64) hx hb dX0_lay_165 6 (by decide) (show gw_un (nI v) % 64 = v % 64 from by rw [gw_un_nI (by omega)]) ?_
          refine gw_or hx hb dX0_lay_166 6 2 rfl (by omega) ?_
          refine gw_wS (n := 4) (As := [.ref x, .ref w, .int (nI (a + 2)), .int (nI (128 + (v % 64)))]) (rest := []) (wc := [gw_wx x t n, gw_wb t cB (gw_st (gw_st g a (gw_b8 (224 + (v / 4096)))) (a + 1) (gw_b8 (128 + ((v / 64) % 64)))), gw_wi w cI N (gw_st (gw_st g a (gw_b8 (224 + (v / 4096)))) (a + 1) (gw_b8 (128 + ((v / 64) % 64))))]) (wr := []) (wF := [gw_wx x t n, gw_wb t cB (gw_st (gw_st (gw_st g a (gw_b8 (224 + (v / 4096)))) (a + 1) (gw_b8 (128 + ((v / 64) % 64)))) (a + 2) (gw_bt (nI (128 + (v % 64))))), gw_wi w cI N (gw_st (gw_st (gw_st g a (gw_b8 (224 + (v / 4096)))) (a + 1) (gw_b8 (128 + ((v / 64) % 64)))) (a + 2) (gw_bt (nI (128 + (v % 64)))))]) (tc := [(cB, .byte), (cI, .int)]) [0, 1, 2] [] [0, 1, 2] [0, 1] C0 (gw_lsign l D x t cB n w cI N (gw_st (gw_st g a (gw_b8 (224 + (v / 4096)))) (a + 1) (gw_b8 (128 + ((v / 64) % 64)))) H.size (a + 2) (nI (128 + (v % 64))) (by omega) (by omega) (by omega) (by omega)) (lw_S q42 q43 q4 q44) (by decide +kernel) rfl rfl rfl ⟨Nat.le_of_ble_eq_true rfl, Nat.le_of_ble_eq_true rfl⟩ hl rfl (Nat.le_of_ble_eq_true rfl) dX0_lay_167 ⟨Nat.le_of_ble_eq_true rfl, Nat.le_of_ble_eq_true rfl⟩ hK hP hD hS hA rfl rfl (by decide) rfl (by decide) (by decide) rfl rfl rfl (by decide) (fun H locs hP hD hS => ?_)
          rw [gw_bt_nI (n := 128 + (v % 64)) (by omega)] at hP hD
          refine lv_iload_n hx hb dX0_lay_170 rfl (lv_at hl 3 rfl) ?_
          refine lv_iconst (v := nI 3) hx hb dX0_lay_171 (by decide) ?_
          refine gw_add hx hb dX0_lay_172 ?_
          have ely : gw_ly g a c = gw_l3 g a v := by
            unfold gw_ly
            rw [if_neg (by omega), if_neg (by omega), if_pos (by omega), hv]
          have hP : va_P D gw_Cl [gw_wx x t n, gw_wb t cB (gw_ly g a c), gw_wi w cI N (gw_ly g a c)] H := by rw [ely]; exact hP
          have hD : va_D A [gw_wx x t n, gw_wb t cB (gw_ly g a c), gw_wi w cI N (gw_ly g a c)] := by rw [ely]; exact hD
          have ell : a + 3 = a + gw_ll c := by unfold gw_ll; omega
          exact gw_ei hx hb hr hlocks rfl (by rw [ell]) hP hD hS dX0_lay_173
    · obtain ⟨v, hv⟩ : ∃ v, v = 128 + gw_un c / 4 % 1920 := ⟨_, rfl⟩
      refine lv_sipush (v := nI 128) hx hb dX0_lay_33 (by decide) ?_
      refine lv_iload hx hb dX0_lay_36 (lv_at hl 0 rfl) ?_
      refine lv_sipush (v := nI 1920) hx hb dX0_lay_38 (by decide) ?_
      refine gw_rem hx hb dX0_lay_41 (by omega) (by omega) (by omega) ?_
      refine gw_add hx hb dX0_lay_42 ?_
      refine gw_int (y := nI v) (by rw [hv]) ?_
      refine lv_istore (lv' := [(4, .int (nI v)), (0, .ref x), (1, .ref w), (2, .int (nI a)), (3, .int c)]) hx hb dX0_lay_43 hl (by decide) rfl (fun ls hl => ?_)
      refine lv_aload_n hx hb dX0_lay_45 rfl (lv_at hl 1 rfl) ?_
      refine lv_aload_n hx hb dX0_lay_46 rfl (lv_at hl 2 rfl) ?_
      refine lv_iload_n hx hb dX0_lay_47 rfl (lv_at hl 3 rfl) ?_
      refine lv_sipush (v := nI 192) hx hb dX0_lay_48 (by decide) ?_
      refine lv_iload hx hb dX0_lay_51 (lv_at hl 0 rfl) ?_
      refine lv_bipush (v := nI 6) hx hb dX0_lay_53 (by decide) ?_
      refine gw_shr (r := v / 64) hx hb dX0_lay_55 (by omega) 6 (by decide) rfl ?_
      refine gw_or hx hb dX0_lay_56 6 3 rfl (by omega) ?_
      refine gw_wS (n := 4) (As := [.ref x, .ref w, .int (nI a), .int (nI (192 + (v / 64)))]) (rest := []) (wc := [gw_wx x t n, gw_wb t cB g, gw_wi w cI N g]) (wr := []) (wF := [gw_wx x t n, gw_wb t cB (gw_st g a (gw_bt (nI (192 + (v / 64))))), gw_wi w cI N (gw_st g a (gw_bt (nI (192 + (v / 64)))))]) (tc := [(cB, .byte), (cI, .int)]) [0, 1, 2] [] [0, 1, 2] [0, 1] C0 (gw_lsign l D x t cB n w cI N g s.heap.size a (nI (192 + (v / 64))) (by omega) (by omega) (by omega) (by omega)) (lw_S q42 q43 q4 q44) (by decide +kernel) rfl rfl rfl ⟨Nat.le_of_ble_eq_true rfl, Nat.le_of_ble_eq_true rfl⟩ hl rfl (Nat.le_of_ble_eq_true rfl) dX0_lay_57 ⟨Nat.le_of_ble_eq_true rfl, Nat.le_of_ble_eq_true rfl⟩ hK hP hD hS hA rfl rfl (by decide) rfl (by decide) (by decide) rfl rfl rfl (by decide) (fun H locs hP hD hS => ?_)
      rw [gw_bt_nI (n := 192 + (v / 64)) (by omega)] at hP hD
      refine lv_aload_n hx hb dX0_lay_60 rfl (lv_at hl 1 rfl) ?_
      refine lv_aload_n hx hb dX0_lay_61 rfl (lv_at hl 2 rfl) ?_
      refine lv_iload_n hx hb dX0_lay_62 rfl (lv_at hl 3 rfl) ?_
      refine lv_iconst (v := nI 1) hx hb dX0_lay_63 (by decide) ?_
      refine gw_add hx hb dX0_lay_64 ?_
      refine lv_sipush (v := nI 128) hx hb dX0_lay_65 (by decide) ?_
      refine lv_iload hx hb dX0_lay_68 (lv_at hl 0 rfl) ?_
      refine lv_bipush (v := nI 63) hx hb dX0_lay_70 (by decide) ?_
      refine gw_and (r := v % 64) hx hb dX0_lay_72 6 (by decide) (show gw_un (nI v) % 64 = v % 64 from by rw [gw_un_nI (by omega)]) ?_
      refine gw_or hx hb dX0_lay_73 6 2 rfl (by omega) ?_
      refine gw_wS (n := 4) (As := [.ref x, .ref w, .int (nI (a + 1)), .int (nI (128 + (v % 64)))]) (rest := []) (wc := [gw_wx x t n, gw_wb t cB (gw_st g a (gw_b8 (192 + (v / 64)))), gw_wi w cI N (gw_st g a (gw_b8 (192 + (v / 64))))]) (wr := []) (wF := [gw_wx x t n, gw_wb t cB (gw_st (gw_st g a (gw_b8 (192 + (v / 64)))) (a + 1) (gw_bt (nI (128 + (v % 64))))), gw_wi w cI N (gw_st (gw_st g a (gw_b8 (192 + (v / 64)))) (a + 1) (gw_bt (nI (128 + (v % 64)))))]) (tc := [(cB, .byte), (cI, .int)]) [0, 1, 2] [] [0, 1, 2] [0, 1] C0 (gw_lsign l D x t cB n w cI N (gw_st g a (gw_b8 (192 + (v / 64)))) H.size (a + 1) (nI (128 + (v % 64))) (by omega) (by omega) (by omega) (by omega)) (lw_S q42 q43 q4 q44) (by decide +kernel) rfl rfl rfl ⟨Nat.le_of_ble_eq_true rfl, Nat.le_of_ble_eq_true rfl⟩ hl rfl (Nat.le_of_ble_eq_true rfl) dX0_lay_74 ⟨Nat.le_of_ble_eq_true rfl, Nat.le_of_ble_eq_true rfl⟩ hK hP hD hS hA rfl rfl (by decide) rfl (by decide) (by decide) rfl rfl rfl (by decide) (fun H locs hP hD hS => ?_)
      rw [gw_bt_nI (n := 128 + (v % 64)) (by omega)] at hP hD
      refine lv_iload_n hx hb dX0_lay_77 rfl (lv_at hl 3 rfl) ?_
      refine lv_iconst (v := nI 2) hx hb dX0_lay_78 (by decide) ?_
      refine gw_add hx hb dX0_lay_79 ?_
      have ely : gw_ly g a c = gw_l2 g a v := by
        unfold gw_ly
        rw [if_neg (by omega), if_pos (by omega), hv]
      have hP : va_P D gw_Cl [gw_wx x t n, gw_wb t cB (gw_ly g a c), gw_wi w cI N (gw_ly g a c)] H := by rw [ely]; exact hP
      have hD : va_D A [gw_wx x t n, gw_wb t cB (gw_ly g a c), gw_wi w cI N (gw_ly g a c)] := by rw [ely]; exact hD
      have ell : a + 2 = a + gw_ll c := by unfold gw_ll; omega
      exact gw_ei hx hb hr hlocks rfl (by rw [ell]) hP hD hS dX0_lay_80
  · refine lv_aload_n hx hb dX0_lay_11 rfl (lv_at hl 1 rfl) ?_
    refine lv_aload_n hx hb dX0_lay_12 rfl (lv_at hl 2 rfl) ?_
    refine lv_iload_n hx hb dX0_lay_13 rfl (lv_at hl 3 rfl) ?_
    refine lv_iload hx hb dX0_lay_14 (lv_at hl 0 rfl) ?_
    refine lv_bipush (v := nI 127) hx hb dX0_lay_16 (by decide) ?_
    refine gw_and (r := (gw_un c / 4) % 128) hx hb dX0_lay_18 7 (by decide) (show gw_un (nI (gw_un c / 4)) % 128 = (gw_un c / 4) % 128 from by rw [gw_un_nI (by omega)]) ?_
    refine gw_wS (n := 4) (As := [.ref x, .ref w, .int (nI a), .int (nI ((gw_un c / 4) % 128))]) (rest := []) (wc := [gw_wx x t n, gw_wb t cB g, gw_wi w cI N g]) (wr := []) (wF := [gw_wx x t n, gw_wb t cB (gw_st g a (gw_bt (nI ((gw_un c / 4) % 128)))), gw_wi w cI N (gw_st g a (gw_bt (nI ((gw_un c / 4) % 128))))]) (tc := [(cB, .byte), (cI, .int)]) [0, 1, 2] [] [0, 1, 2] [0, 1] C0 (gw_lsign l D x t cB n w cI N g s.heap.size a (nI ((gw_un c / 4) % 128)) (by omega) (by omega) (by omega) (by omega)) (lw_S q42 q43 q4 q44) (by decide +kernel) rfl rfl rfl ⟨Nat.le_of_ble_eq_true rfl, Nat.le_of_ble_eq_true rfl⟩ hl rfl (Nat.le_of_ble_eq_true rfl) dX0_lay_19 ⟨Nat.le_of_ble_eq_true rfl, Nat.le_of_ble_eq_true rfl⟩ hK hP hD hS hA rfl rfl (by decide) rfl (by decide) (by decide) rfl rfl rfl (by decide) (fun H locs hP hD hS => ?_)
    rw [gw_bt_nI (n := (gw_un c / 4) % 128) (by omega)] at hP hD
    refine lv_iload_n hx hb dX0_lay_22 rfl (lv_at hl 3 rfl) ?_
    refine lv_iconst (v := nI 1) hx hb dX0_lay_23 (by decide) ?_
    refine gw_add hx hb dX0_lay_24 ?_
    have ely : gw_ly g a c = gw_l1 g a (gw_un c) := by
      unfold gw_ly
      rw [if_pos (by omega)]
    have hP : va_P D gw_Cl [gw_wx x t n, gw_wb t cB (gw_ly g a c), gw_wi w cI N (gw_ly g a c)] H := by rw [ely]; exact hP
    have hD : va_D A [gw_wx x t n, gw_wb t cB (gw_ly g a c), gw_wi w cI N (gw_ly g a c)] := by rw [ely]; exact hD
    have ell : a + 1 = a + gw_ll c := by unfold gw_ll; omega
    exact gw_ei hx hb hr hlocks rfl (by rw [ell]) hP hD hS dX0_lay_25
end
section
/-! own(w, i, e): table 3-7 by the law itself, twice over (own, askedOwn) -/
set_option maxHeartbeats 4000000 in
set_option maxRecDepth 100000 in
/-- own(w, i0, e0) -/
theorem gw_own (l : Launch) (D : va_G) (w : Nat) (cI : ClassId) (N : Nat) (g : gw_G) (i0 e0 : Nat) (h1 : e0 ≤ N) (hN : N ≤ 4096) (hi0 : i0 < 2 ^ 30) : Met l yX0_own (ws_ yX0_own cX0_own 9 (some .boolean)) (gw_R 0 0 0 0) (va_Pc [.ref w, .int (nI i0), .int (nI e0)] (gw_U D gw_Cl [gw_wi w cI N g] [(cI, .int)])) (QcRead (nI (gw_tf (gw_wf g i0 e0)))) 0 0 (fun _ => False) := by
  refine gw_met [.ref w, .int (nI i0), .int (nI e0)] "WireTextLaw" rfl (by decide) (Nat.le_of_ble_eq_true rfl) ?_
  intro p e s m below meth c ls C0 hr hlocks hname hl hU
  obtain ⟨hx, hb, hml, hown, hts⟩ := id C0
  obtain ⟨hP, hK⟩ := hU
  have hl : lv_has ls 9 [(0, .ref w), (1, .int (nI i0)), (2, .int (nI e0))] := hl
  have loop : ∀ (n i : Nat), e0 < i + n → i < 2 ^ 30 → gw_wf g i e0 = gw_wf g i0 e0 → ∀ ls : Array Slot, lv_has ls 9 [(0, .ref w), (1, .int (nI i)), (2, .int (nI e0))] → W p l e (gw_R 0 0 0 0) s m ([.ref w, .int (nI i0), .int (nI e0)] : List Value).toArray below meth c s.heap [] 0 0 (MQ below (QcRead (nI (gw_tf (gw_wf g i0 e0)))) ([.ref w, .int (nI i0), .int (nI e0)] : List Value).toArray s 0 0 (fun _ => False)) (F0 m 0 ls []) := by
    intro n
    induction n with
    | zero =>
      intro i hn hi hw ls hl
      have h2 : e0 ≤ i := by omega
      refine lv_iload_n hx hb dX0_own_0 rfl (lv_at hl 1 rfl) ?_
      refine lv_iload_n hx hb dX0_own_1 rfl (lv_at hl 2 rfl) ?_
      refine gw_c_ge (tgt := 222) hx hb dX0_own_2 (by decide) (by omega) (by omega) (fun _h2 => ?_) (fun _h2 => absurd _h2 (by omega))
      refine lv_iconst (v := nI 1) hx hb dX0_own_222 (by decide) ?_
      exact gw_rz hx hb hr hlocks rfl (by rw [← hw, gw_end h2]; rfl) dX0_own_223
    | succ n ih =>
      intro i hn hi hw ls hl
      refine lv_iload_n hx hb dX0_own_0 rfl (lv_at hl 1 rfl) ?_
      refine lv_iload_n hx hb dX0_own_1 rfl (lv_at hl 2 rfl) ?_
      refine gw_c_ge (tgt := 222) hx hb dX0_own_2 (by decide) (by omega) (by omega) (fun h2 => ?_) (fun h2 => ?_)
      · refine lv_iconst (v := nI 1) hx hb dX0_own_222 (by decide) ?_
        exact gw_rz hx hb hr hlocks rfl (by rw [← hw, gw_end h2]; rfl) dX0_own_223
      · refine lv_aload_n hx hb dX0_own_5 rfl (lv_at hl 0 rfl) ?_
        refine lv_iload_n hx hb dX0_own_6 rfl (lv_at hl 1 rfl) ?_
        refine gw_ild (k := i) (f := fun j => nI (g j).val) hx hb hK hP 0 0 rfl rfl (by omega) (by omega) dX0_own_7 ?_
        refine lv_istore_n (lv' := [(3, .int (nI ((g i).val))), (0, .ref w), (1, .int (nI i)), (2, .int (nI e0))]) hx hb dX0_own_8 rfl hl (by decide) rfl (fun ls hl => ?_)
        have b0 := (g i).isLt
        have hl9 := gw_ln_le (g i)
        have t67 : ∀ (M : Nat), M = gw_ln (g i) → ∀ ls : Array Slot, lv_has ls 9 [(3, .int (nI ((g i).val))), (0, .ref w), (1, .int (nI i)), (2, .int (nI e0))] → W p l e (gw_R 0 0 0 0) s m ([.ref w, .int (nI i0), .int (nI e0)] : List Value).toArray below meth c s.heap [] 0 0 (MQ below (QcRead (nI (gw_tf (gw_wf g i0 e0)))) ([.ref w, .int (nI i0), .int (nI e0)] : List Value).toArray s 0 0 (fun _ => False)) (F0 m 67 ls [.int (nI M)]) := by
          intro M hM ls hl
          refine lv_istore (lv' := [(4, .int (nI M)), (3, .int (nI ((g i).val))), (0, .ref w), (1, .int (nI i)), (2, .int (nI e0))]) hx hb dX0_own_67 hl (by decide) rfl (fun ls hl => ?_)
          refine lv_iload hx hb dX0_own_69 (lv_at hl 0 rfl) ?_
          refine lv_bipush (v := nI 9) hx hb dX0_own_71 (by decide) ?_
          refine gw_c_eq (tgt := 84) hx hb dX0_own_73 (by decide) (by omega) (by omega) (fun h73 => ?_) (fun h73 => ?_)
          · have h9 : gw_ln (g i) = 9 := by rw [← hM]; exact h73
            refine lv_iconst (v := nI 0) hx hb dX0_own_84 (by decide) ?_
            exact gw_rz hx hb hr hlocks rfl (by rw [← hw, gw_bad h2 (Or.inl h9)]; rfl) dX0_own_85
          · refine lv_iload_n hx hb dX0_own_76 rfl (lv_at hl 3 rfl) ?_
            refine lv_iload hx hb dX0_own_77 (lv_at hl 0 rfl) ?_
            refine gw_add hx hb dX0_own_79 ?_
            refine lv_iload_n hx hb dX0_own_80 rfl (lv_at hl 4 rfl) ?_
            refine gw_c_lt (tgt := 86) hx hb dX0_own_81 (by decide) (by omega) (by omega) (fun h82 => ?_) (fun h82 => ?_)
            · have h9 : M ≠ 9 := h73
              have inner : ∀ (k j : Nat), M + 1 < j + k → 1 ≤ j → j ≤ M + 1 → (∀ q, 1 ≤ q → q < j → gw_ok g i q) → ∀ ls : Array Slot, lv_has ls 9 [(5, .int (nI j)), (4, .int (nI M)), (3, .int (nI ((g i).val))), (0, .ref w), (1, .int (nI i)), (2, .int (nI e0))] → W p l e (gw_R 0 0 0 0) s m ([.ref w, .int (nI i0), .int (nI e0)] : List Value).toArray below meth c s.heap [] 0 0 (MQ below (QcRead (nI (gw_tf (gw_wf g i0 e0)))) ([.ref w, .int (nI i0), .int (nI e0)] : List Value).toArray s 0 0 (fun _ => False)) (F0 m 89 ls []) := by
                intro k
                induction k with
                | zero =>
                  intro j a1 a2 a3
                  exact absurd a1 (by omega)
                | succ k ihj =>
                  intro j hjk hj hjM1 hok ls hl
                  refine lv_iload hx hb dX0_own_89 (lv_at hl 0 rfl) ?_
                  refine lv_iload hx hb dX0_own_91 (lv_at hl 1 rfl) ?_
                  refine gw_c_gt (tgt := 212) hx hb dX0_own_93 (by decide) (by omega) (by omega) (fun h93 => ?_) (fun h93 => ?_)
                  · refine lv_iload_n hx hb dX0_own_212 rfl (lv_at hl 4 rfl) ?_
                    refine lv_iload hx hb dX0_own_213 (lv_at hl 1 rfl) ?_
                    refine lv_iconst (v := nI 1) hx hb dX0_own_215 (by decide) ?_
                    refine gw_add hx hb dX0_own_216 ?_
                    refine gw_add hx hb dX0_own_217 ?_
                    refine lv_istore_n (lv' := [(1, .int (nI (i + (M + 1)))), (5, .int (nI j)), (4, .int (nI M)), (3, .int (nI ((g i).val))), (0, .ref w), (2, .int (nI e0))]) hx hb dX0_own_218 rfl hl (by decide) rfl (fun ls hl => ?_)
                    refine lv_goto (tgt := 0) hx hb dX0_own_219 (by decide) ?_
                    exact ih (i + (M + 1)) (by omega) (by omega) (by rw [← hw, gw_let hM.symm h9 h82 (fun q q1 q2 => hok q q1 (by omega))]; rfl) ls (lv_sub hl [4, 0, 5] rfl)
                  · have hjM : j ≤ M := h93
                    refine lv_aload_n hx hb dX0_own_96 rfl (lv_at hl 3 rfl) ?_
                    refine lv_iload_n hx hb dX0_own_97 rfl (lv_at hl 4 rfl) ?_
                    refine lv_iload hx hb dX0_own_98 (lv_at hl 0 rfl) ?_
                    refine gw_add hx hb dX0_own_100 ?_
                    refine gw_ild (k := i + j) (f := fun j => nI (g j).val) hx hb hK hP 0 0 rfl rfl (by omega) (by omega) dX0_own_101 ?_
                    refine lv_istore (lv' := [(6, .int (nI ((g (i + j)).val))), (5, .int (nI j)), (4, .int (nI M)), (3, .int (nI ((g i).val))), (0, .ref w), (1, .int (nI i)), (2, .int (nI e0))]) hx hb dX0_own_102 hl (by decide) rfl (fun ls hl => ?_)
                    have hc2 := (g (i + j)).isLt
                    have t145 : ∀ (lo : Nat), lo = gw_lo (g i) j → ∀ ls : Array Slot, lv_has ls 9 [(6, .int (nI ((g (i + j)).val))), (5, .int (nI j)), (4, .int (nI M)), (3, .int (nI ((g i).val))), (0, .ref w), (1, .int (nI i)), (2, .int (nI e0))] → W p l e (gw_R 0 0 0 0) s m ([.ref w, .int (nI i0), .int (nI e0)] : List Value).toArray below meth c s.heap [] 0 0 (MQ below (QcRead (nI (gw_tf (gw_wf g i0 e0)))) ([.ref w, .int (nI i0), .int (nI e0)] : List Value).toArray s 0 0 (fun _ => False)) (F0 m 145 ls [.int (nI lo)]) := by
                      intro lo hlo ls hl
                      refine lv_istore (lv' := [(7, .int (nI lo)), (6, .int (nI ((g (i + j)).val))), (5, .int (nI j)), (4, .int (nI M)), (3, .int (nI ((g i).val))), (0, .ref w), (1, .int (nI i)), (2, .int (nI e0))]) hx hb dX0_own_145 hl (by decide) rfl (fun ls hl => ?_)
                      have hlo2 := gw_lo_le (g i) j
                      have t188 : ∀ (hi : Nat), hi = gw_hi (g i) j → ∀ ls : Array Slot, lv_has ls 9 [(7, .int (nI lo)), (6, .int (nI ((g (i + j)).val))), (5, .int (nI j)), (4, .int (nI M)), (3, .int (nI ((g i).val))), (0, .ref w), (1, .int (nI i)), (2, .int (nI e0))] → W p l e (gw_R 0 0 0 0) s m ([.ref w, .int (nI i0), .int (nI e0)] : List Value).toArray below meth c s.heap [] 0 0 (MQ below (QcRead (nI (gw_tf (gw_wf g i0 e0)))) ([.ref w, .int (nI i0), .int (nI e0)] : List Value).toArray s 0 0 (fun _ => False)) (F0 m 188 ls [.int (nI hi)]) := by
                        intro hi hhi ls hl
                        have hhi2 := gw_hi_le (g i) j
                        refine lv_istore (lv' := [(8, .int (nI hi)), (7, .int (nI lo)), (6, .int (nI ((g (i + j)).val))), (5, .int (nI j)), (4, .int (nI M)), (3, .int (nI ((g i).val))), (0, .ref w), (1, .int (nI i)), (2, .int (nI e0))]) hx hb dX0_own_188 hl (by decide) rfl (fun ls hl => ?_)
                        refine lv_iload hx hb dX0_own_190 (lv_at hl 2 rfl) ?_
                        refine lv_iload hx hb dX0_own_192 (lv_at hl 1 rfl) ?_
                        refine gw_c_lt (tgt := 204) hx hb dX0_own_194 (by decide) (by omega) (by omega) (fun h194 => ?_) (fun h194 => ?_)
                        · refine lv_iconst (v := nI 0) hx hb dX0_own_204 (by decide) ?_
                          exact gw_rz hx hb hr hlocks rfl (by rw [← hw, gw_no hM.symm h2 hj hjM (fun q => by have q1 := q.1; omega)]; rfl) dX0_own_205
                        · refine lv_iload hx hb dX0_own_197 (lv_at hl 2 rfl) ?_
                          refine lv_iload hx hb dX0_own_199 (lv_at hl 0 rfl) ?_
                          refine gw_c_le (tgt := 206) hx hb dX0_own_201 (by decide) (by omega) (by omega) (fun h201 => ?_) (fun h201 => ?_)
                          · refine lv_iinc (v := nI (j + 1)) (lv' := [(5, .int (nI (j + 1))), (8, .int (nI hi)), (7, .int (nI lo)), (6, .int (nI ((g (i + j)).val))), (4, .int (nI M)), (3, .int (nI ((g i).val))), (0, .ref w), (1, .int (nI i)), (2, .int (nI e0))]) hx hb dX0_own_206 hl (k := 3) rfl (by exact nI_1 _) (by decide) rfl (fun ls hl => ?_)
                            refine lv_goto (tgt := 89) hx hb dX0_own_209 (by decide) ?_
                            exact ihj (j + 1) (by omega) (by omega) (by omega) (fun q q1 q2 => by
                              by_cases qj : q = j
                              · rw [qj]
                                exact ⟨by omega, by omega⟩
                              · exact hok q q1 (by omega)) ls (lv_sub hl [0, 4, 5, 6, 7, 8] rfl)
                          · refine lv_iconst (v := nI 0) hx hb dX0_own_204 (by decide) ?_
                            exact gw_rz hx hb hr hlocks rfl (by rw [← hw, gw_no hM.symm h2 hj hjM (fun q => by have q2 := q.2; omega)]; rfl) dX0_own_205
                      refine lv_iload hx hb dX0_own_147 (lv_at hl 2 rfl) ?_
                      refine lv_iconst (v := nI 1) hx hb dX0_own_149 (by decide) ?_
                      refine gw_c_le (tgt := 159) hx hb dX0_own_150 (by decide) (by omega) (by omega) (fun h150 => ?_) (fun h150 => ?_)
                      · have hj1 : j = 1 := by omega
                        have chi := gw_hiC (g i)
                        refine lv_iload_n hx hb dX0_own_159 rfl (lv_at hl 4 rfl) ?_
                        refine lv_sipush (v := nI 237) hx hb dX0_own_160 (by decide) ?_
                        refine gw_c_ne (tgt := 172) hx hb dX0_own_163 (by decide) (by omega) (by omega) (fun h163 => ?_) (fun h163 => ?_)
                        · refine lv_iload_n hx hb dX0_own_172 rfl (lv_at hl 4 rfl) ?_
                          refine lv_sipush (v := nI 244) hx hb dX0_own_173 (by decide) ?_
                          refine gw_c_ne (tgt := 185) hx hb dX0_own_176 (by decide) (by omega) (by omega) (fun h176 => ?_) (fun h176 => ?_)
                          · refine lv_sipush (v := nI 191) hx hb dX0_own_185 (by decide) ?_
                            exact t188 191 (by rw [hj1]; omega) ls (lv_sub hl [0, 1, 2, 3, 4, 5, 6, 7] rfl)
                          · refine lv_sipush (v := nI 143) hx hb dX0_own_179 (by decide) ?_
                            refine lv_goto (tgt := 188) hx hb dX0_own_182 (by decide) ?_
                            exact t188 143 (by rw [hj1]; omega) ls (lv_sub hl [0, 1, 2, 3, 4, 5, 6, 7] rfl)
                        · refine lv_sipush (v := nI 159) hx hb dX0_own_166 (by decide) ?_
                          refine lv_goto (tgt := 188) hx hb dX0_own_169 (by decide) ?_
                          exact t188 159 (by rw [hj1]; omega) ls (lv_sub hl [0, 1, 2, 3, 4, 5, 6, 7] rfl)
                      · refine lv_sipush (v := nI 191) hx hb dX0_own_153 (by decide) ?_
                        refine lv_goto (tgt := 188) hx hb dX0_own_156 (by decide) ?_
                        exact t188 191 (by rw [gw_hi2 h150]) ls (lv_sub hl [0, 1, 2, 3, 4, 5, 6, 7] rfl)
                    refine lv_iload hx hb dX0_own_104 (lv_at hl 1 rfl) ?_
                    refine lv_iconst (v := nI 1) hx hb dX0_own_106 (by decide) ?_
                    refine gw_c_le (tgt := 116) hx hb dX0_own_107 (by decide) (by omega) (by omega) (fun h107 => ?_) (fun h107 => ?_)
                    · have hj1 : j = 1 := by omega
                      have clo := gw_loC (g i)
                      refine lv_iload_n hx hb dX0_own_116 rfl (lv_at hl 3 rfl) ?_
                      refine lv_sipush (v := nI 224) hx hb dX0_own_117 (by decide) ?_
                      refine gw_c_ne (tgt := 129) hx hb dX0_own_120 (by decide) (by omega) (by omega) (fun h120 => ?_) (fun h120 => ?_)
                      · refine lv_iload_n hx hb dX0_own_129 rfl (lv_at hl 3 rfl) ?_
                        refine lv_sipush (v := nI 240) hx hb dX0_own_130 (by decide) ?_
                        refine gw_c_ne (tgt := 142) hx hb dX0_own_133 (by decide) (by omega) (by omega) (fun h133 => ?_) (fun h133 => ?_)
                        · refine lv_sipush (v := nI 128) hx hb dX0_own_142 (by decide) ?_
                          exact t145 128 (by rw [hj1]; omega) ls (lv_sub hl [0, 1, 2, 3, 4, 5, 6] rfl)
                        · refine lv_sipush (v := nI 144) hx hb dX0_own_136 (by decide) ?_
                          refine lv_goto (tgt := 145) hx hb dX0_own_139 (by decide) ?_
                          exact t145 144 (by rw [hj1]; omega) ls (lv_sub hl [0, 1, 2, 3, 4, 5, 6] rfl)
                      · refine lv_sipush (v := nI 160) hx hb dX0_own_123 (by decide) ?_
                        refine lv_goto (tgt := 145) hx hb dX0_own_126 (by decide) ?_
                        exact t145 160 (by rw [hj1]; omega) ls (lv_sub hl [0, 1, 2, 3, 4, 5, 6] rfl)
                    · refine lv_sipush (v := nI 128) hx hb dX0_own_110 (by decide) ?_
                      refine lv_goto (tgt := 145) hx hb dX0_own_113 (by decide) ?_
                      exact t145 128 (by rw [gw_lo2 h107]) ls (lv_sub hl [0, 1, 2, 3, 4, 5, 6] rfl)
              refine lv_iconst (v := nI 1) hx hb dX0_own_86 (by decide) ?_
              refine lv_istore (lv' := [(5, .int (nI 1)), (4, .int (nI M)), (3, .int (nI ((g i).val))), (0, .ref w), (1, .int (nI i)), (2, .int (nI e0))]) hx hb dX0_own_87 hl (by decide) rfl (fun ls hl => ?_)
              exact inner (M + 1) 1 (by omega) (Nat.le_refl _) (by omega) (fun q q1 q2 => absurd q1 (by omega)) ls (lv_sub hl [0, 1, 2, 3, 4, 5] rfl)
            · refine lv_iconst (v := nI 0) hx hb dX0_own_84 (by decide) ?_
              exact gw_rz hx hb hr hlocks rfl (by rw [← hw, gw_bad h2 (Or.inr (by rw [← hM]; exact h82))]; rfl) dX0_own_85
        refine lv_iload_n hx hb dX0_own_9 rfl (lv_at hl 0 rfl) ?_
        refine lv_sipush (v := nI 128) hx hb dX0_own_10 (by decide) ?_
        refine gw_c_ge (tgt := 20) hx hb dX0_own_13 (by decide) (by omega) (by omega) (fun h13 => ?_) (fun h13 => ?_)
        · refine lv_iload_n hx hb dX0_own_20 rfl (lv_at hl 0 rfl) ?_
          refine lv_sipush (v := nI 194) hx hb dX0_own_21 (by decide) ?_
          refine gw_c_ge (tgt := 32) hx hb dX0_own_24 (by decide) (by omega) (by omega) (fun h24 => ?_) (fun h24 => ?_)
          · refine lv_iload_n hx hb dX0_own_32 rfl (lv_at hl 0 rfl) ?_
            refine lv_sipush (v := nI 224) hx hb dX0_own_33 (by decide) ?_
            refine gw_c_ge (tgt := 43) hx hb dX0_own_36 (by decide) (by omega) (by omega) (fun h36 => ?_) (fun h36 => ?_)
            · refine lv_iload_n hx hb dX0_own_43 rfl (lv_at hl 0 rfl) ?_
              refine lv_sipush (v := nI 240) hx hb dX0_own_44 (by decide) ?_
              refine gw_c_ge (tgt := 54) hx hb dX0_own_47 (by decide) (by omega) (by omega) (fun h47 => ?_) (fun h47 => ?_)
              · refine lv_iload_n hx hb dX0_own_54 rfl (lv_at hl 0 rfl) ?_
                refine lv_sipush (v := nI 245) hx hb dX0_own_55 (by decide) ?_
                refine gw_c_ge (tgt := 65) hx hb dX0_own_58 (by decide) (by omega) (by omega) (fun h58 => ?_) (fun h58 => ?_)
                · refine lv_bipush (v := nI 9) hx hb dX0_own_65 (by decide) ?_
                  exact t67 9 ((gw_lnX h58).symm) ls (lv_sub hl [0, 1, 2, 3] rfl)
                · refine lv_iconst (v := nI 3) hx hb dX0_own_61 (by decide) ?_
                  refine lv_goto (tgt := 67) hx hb dX0_own_62 (by decide) ?_
                  exact t67 3 ((gw_ln3 h47 h58).symm) ls (lv_sub hl [0, 1, 2, 3] rfl)
              · refine lv_iconst (v := nI 2) hx hb dX0_own_50 (by decide) ?_
                refine lv_goto (tgt := 67) hx hb dX0_own_51 (by decide) ?_
                exact t67 2 ((gw_ln2 h36 h47).symm) ls (lv_sub hl [0, 1, 2, 3] rfl)
            · refine lv_iconst (v := nI 1) hx hb dX0_own_39 (by decide) ?_
              refine lv_goto (tgt := 67) hx hb dX0_own_40 (by decide) ?_
              exact t67 1 ((gw_ln1 h24 h36).symm) ls (lv_sub hl [0, 1, 2, 3] rfl)
          · refine lv_bipush (v := nI 9) hx hb dX0_own_27 (by decide) ?_
            refine lv_goto (tgt := 67) hx hb dX0_own_29 (by decide) ?_
            exact t67 9 ((gw_ln9 h13 h24).symm) ls (lv_sub hl [0, 1, 2, 3] rfl)
        · refine lv_iconst (v := nI 0) hx hb dX0_own_16 (by decide) ?_
          refine lv_goto (tgt := 67) hx hb dX0_own_17 (by decide) ?_
          exact t67 0 ((gw_ln0 h13).symm) ls (lv_sub hl [0, 1, 2, 3] rfl)
  exact loop (e0 + 1) i0 (by omega) hi0 rfl ls hl
set_option maxHeartbeats 4000000 in
set_option maxRecDepth 100000 in
/-- askedOwn(w, i0, e0) -/
theorem gw_askedOwn (l : Launch) (D : va_G) (w : Nat) (cI : ClassId) (N : Nat) (g : gw_G) (i0 e0 : Nat) (h1 : e0 ≤ N) (hN : N ≤ 4096) (hi0 : i0 < 2 ^ 30) : Met l yX0_askedOwn (ws_ yX0_askedOwn cX0_askedOwn 9 (some .boolean)) (gw_R 0 0 0 0) (va_Pc [.ref w, .int (nI i0), .int (nI e0)] (gw_U D gw_Cl [gw_wi w cI N g] [(cI, .int)])) (QcRead (nI (gw_tf (gw_wf g i0 e0)))) 0 0 (fun _ => False) := by
  refine gw_met [.ref w, .int (nI i0), .int (nI e0)] "WireTextLaw" rfl (by decide) (Nat.le_of_ble_eq_true rfl) ?_
  intro p e s m below meth c ls C0 hr hlocks hname hl hU
  obtain ⟨hx, hb, hml, hown, hts⟩ := id C0
  obtain ⟨hP, hK⟩ := hU
  have hl : lv_has ls 9 [(0, .ref w), (1, .int (nI i0)), (2, .int (nI e0))] := hl
  have loop : ∀ (n i : Nat), e0 < i + n → i < 2 ^ 30 → gw_wf g i e0 = gw_wf g i0 e0 → ∀ ls : Array Slot, lv_has ls 9 [(0, .ref w), (1, .int (nI i)), (2, .int (nI e0))] → W p l e (gw_R 0 0 0 0) s m ([.ref w, .int (nI i0), .int (nI e0)] : List Value).toArray below meth c s.heap [] 0 0 (MQ below (QcRead (nI (gw_tf (gw_wf g i0 e0)))) ([.ref w, .int (nI i0), .int (nI e0)] : List Value).toArray s 0 0 (fun _ => False)) (F0 m 0 ls []) := by
    intro n
    induction n with
    | zero =>
      intro i hn hi hw ls hl
      have h2 : e0 ≤ i := by omega
      refine lv_iload_n hx hb dX0_askedOwn_0 rfl (lv_at hl 1 rfl) ?_
      refine lv_iload_n hx hb dX0_askedOwn_1 rfl (lv_at hl 2 rfl) ?_
      refine gw_c_ge (tgt := 222) hx hb dX0_askedOwn_2 (by decide) (by omega) (by omega) (fun _h2 => ?_) (fun _h2 => absurd _h2 (by omega))
      refine lv_iconst (v := nI 1) hx hb dX0_askedOwn_222 (by decide) ?_
      exact gw_rz hx hb hr hlocks rfl (by rw [← hw, gw_end h2]; rfl) dX0_askedOwn_223
    | succ n ih =>
      intro i hn hi hw ls hl
      refine lv_iload_n hx hb dX0_askedOwn_0 rfl (lv_at hl 1 rfl) ?_
      refine lv_iload_n hx hb dX0_askedOwn_1 rfl (lv_at hl 2 rfl) ?_
      refine gw_c_ge (tgt := 222) hx hb dX0_askedOwn_2 (by decide) (by omega) (by omega) (fun h2 => ?_) (fun h2 => ?_)
      · refine lv_iconst (v := nI 1) hx hb dX0_askedOwn_222 (by decide) ?_
        exact gw_rz hx hb hr hlocks rfl (by rw [← hw, gw_end h2]; rfl) dX0_askedOwn_223
      · refine lv_aload_n hx hb dX0_askedOwn_5 rfl (lv_at hl 0 rfl) ?_
        refine lv_iload_n hx hb dX0_askedOwn_6 rfl (lv_at hl 1 rfl) ?_
        refine gw_ild (k := i) (f := fun j => nI (g j).val) hx hb hK hP 0 0 rfl rfl (by omega) (by omega) dX0_askedOwn_7 ?_
        refine lv_istore_n (lv' := [(3, .int (nI ((g i).val))), (0, .ref w), (1, .int (nI i)), (2, .int (nI e0))]) hx hb dX0_askedOwn_8 rfl hl (by decide) rfl (fun ls hl => ?_)
        have b0 := (g i).isLt
        have hl9 := gw_ln_le (g i)
        have t67 : ∀ (M : Nat), M = gw_ln (g i) → ∀ ls : Array Slot, lv_has ls 9 [(3, .int (nI ((g i).val))), (0, .ref w), (1, .int (nI i)), (2, .int (nI e0))] → W p l e (gw_R 0 0 0 0) s m ([.ref w, .int (nI i0), .int (nI e0)] : List Value).toArray below meth c s.heap [] 0 0 (MQ below (QcRead (nI (gw_tf (gw_wf g i0 e0)))) ([.ref w, .int (nI i0), .int (nI e0)] : List Value).toArray s 0 0 (fun _ => False)) (F0 m 67 ls [.int (nI M)]) := by
          intro M hM ls hl
          refine lv_istore (lv' := [(4, .int (nI M)), (3, .int (nI ((g i).val))), (0, .ref w), (1, .int (nI i)), (2, .int (nI e0))]) hx hb dX0_askedOwn_67 hl (by decide) rfl (fun ls hl => ?_)
          refine lv_iload hx hb dX0_askedOwn_69 (lv_at hl 0 rfl) ?_
          refine lv_bipush (v := nI 9) hx hb dX0_askedOwn_71 (by decide) ?_
          refine gw_c_eq (tgt := 84) hx hb dX0_askedOwn_73 (by decide) (by omega) (by omega) (fun h73 => ?_) (fun h73 => ?_)
          · have h9 : gw_ln (g i) = 9 := by rw [← hM]; exact h73
            refine lv_iconst (v := nI 0) hx hb dX0_askedOwn_84 (by decide) ?_
            exact gw_rz hx hb hr hlocks rfl (by rw [← hw, gw_bad h2 (Or.inl h9)]; rfl) dX0_askedOwn_85
          · refine lv_iload_n hx hb dX0_askedOwn_76 rfl (lv_at hl 3 rfl) ?_
            refine lv_iload hx hb dX0_askedOwn_77 (lv_at hl 0 rfl) ?_
            refine gw_add hx hb dX0_askedOwn_79 ?_
            refine lv_iload_n hx hb dX0_askedOwn_80 rfl (lv_at hl 4 rfl) ?_
            refine gw_c_lt (tgt := 86) hx hb dX0_askedOwn_81 (by decide) (by omega) (by omega) (fun h82 => ?_) (fun h82 => ?_)
            · have h9 : M ≠ 9 := h73
              have inner : ∀ (k j : Nat), M + 1 < j + k → 1 ≤ j → j ≤ M + 1 → (∀ q, 1 ≤ q → q < j → gw_ok g i q) → ∀ ls : Array Slot, lv_has ls 9 [(5, .int (nI j)), (4, .int (nI M)), (3, .int (nI ((g i).val))), (0, .ref w), (1, .int (nI i)), (2, .int (nI e0))] → W p l e (gw_R 0 0 0 0) s m ([.ref w, .int (nI i0), .int (nI e0)] : List Value).toArray below meth c s.heap [] 0 0 (MQ below (QcRead (nI (gw_tf (gw_wf g i0 e0)))) ([.ref w, .int (nI i0), .int (nI e0)] : List Value).toArray s 0 0 (fun _ => False)) (F0 m 89 ls []) := by
                intro k
                induction k with
                | zero =>
                  intro j a1 a2 a3
                  exact absurd a1 (by omega)
                | succ k ihj =>
                  intro j hjk hj hjM1 hok ls hl
                  refine lv_iload hx hb dX0_askedOwn_89 (lv_at hl 0 rfl) ?_
                  refine lv_iload hx hb dX0_askedOwn_91 (lv_at hl 1 rfl) ?_
                  refine gw_c_gt (tgt := 212) hx hb dX0_askedOwn_93 (by decide) (by omega) (by omega) (fun h93 => ?_) (fun h93 => ?_)
                  · refine lv_iload_n hx hb dX0_askedOwn_212 rfl (lv_at hl 4 rfl) ?_
                    refine lv_iload hx hb dX0_askedOwn_213 (lv_at hl 1 rfl) ?_
                    refine lv_iconst (v := nI 1) hx hb dX0_askedOwn_215 (by decide) ?_
                    refine gw_add hx hb dX0_askedOwn_216 ?_
                    refine gw_add hx hb dX0_askedOwn_217 ?_
                    refine lv_istore_n (lv' := [(1, .int (nI (i + (M + 1)))), (5, .int (nI j)), (4, .int (nI M)), (3, .int (nI ((g i).val))), (0, .ref w), (2, .int (nI e0))]) hx hb dX0_askedOwn_218 rfl hl (by decide) rfl (fun ls hl => ?_)
                    refine lv_goto (tgt := 0) hx hb dX0_askedOwn_219 (by decide) ?_
                    exact ih (i + (M + 1)) (by omega) (by omega) (by rw [← hw, gw_let hM.symm h9 h82 (fun q q1 q2 => hok q q1 (by omega))]; rfl) ls (lv_sub hl [4, 0, 5] rfl)
                  · have hjM : j ≤ M := h93
                    refine lv_aload_n hx hb dX0_askedOwn_96 rfl (lv_at hl 3 rfl) ?_
                    refine lv_iload_n hx hb dX0_askedOwn_97 rfl (lv_at hl 4 rfl) ?_
                    refine lv_iload hx hb dX0_askedOwn_98 (lv_at hl 0 rfl) ?_
                    refine gw_add hx hb dX0_askedOwn_100 ?_
                    refine gw_ild (k := i + j) (f := fun j => nI (g j).val) hx hb hK hP 0 0 rfl rfl (by omega) (by omega) dX0_askedOwn_101 ?_
                    refine lv_istore (lv' := [(6, .int (nI ((g (i + j)).val))), (5, .int (nI j)), (4, .int (nI M)), (3, .int (nI ((g i).val))), (0, .ref w), (1, .int (nI i)), (2, .int (nI e0))]) hx hb dX0_askedOwn_102 hl (by decide) rfl (fun ls hl => ?_)
                    have hc2 := (g (i + j)).isLt
                    have t145 : ∀ (lo : Nat), lo = gw_lo (g i) j → ∀ ls : Array Slot, lv_has ls 9 [(6, .int (nI ((g (i + j)).val))), (5, .int (nI j)), (4, .int (nI M)), (3, .int (nI ((g i).val))), (0, .ref w), (1, .int (nI i)), (2, .int (nI e0))] → W p l e (gw_R 0 0 0 0) s m ([.ref w, .int (nI i0), .int (nI e0)] : List Value).toArray below meth c s.heap [] 0 0 (MQ below (QcRead (nI (gw_tf (gw_wf g i0 e0)))) ([.ref w, .int (nI i0), .int (nI e0)] : List Value).toArray s 0 0 (fun _ => False)) (F0 m 145 ls [.int (nI lo)]) := by
                      intro lo hlo ls hl
                      refine lv_istore (lv' := [(7, .int (nI lo)), (6, .int (nI ((g (i + j)).val))), (5, .int (nI j)), (4, .int (nI M)), (3, .int (nI ((g i).val))), (0, .ref w), (1, .int (nI i)), (2, .int (nI e0))]) hx hb dX0_askedOwn_145 hl (by decide) rfl (fun ls hl => ?_)
                      have hlo2 := gw_lo_le (g i) j
                      have t188 : ∀ (hi : Nat), hi = gw_hi (g i) j → ∀ ls : Array Slot, lv_has ls 9 [(7, .int (nI lo)), (6, .int (nI ((g (i + j)).val))), (5, .int (nI j)), (4, .int (nI M)), (3, .int (nI ((g i).val))), (0, .ref w), (1, .int (nI i)), (2, .int (nI e0))] → W p l e (gw_R 0 0 0 0) s m ([.ref w, .int (nI i0), .int (nI e0)] : List Value).toArray below meth c s.heap [] 0 0 (MQ below (QcRead (nI (gw_tf (gw_wf g i0 e0)))) ([.ref w, .int (nI i0), .int (nI e0)] : List Value).toArray s 0 0 (fun _ => False)) (F0 m 188 ls [.int (nI hi)]) := by
                        intro hi hhi ls hl
                        have hhi2 := gw_hi_le (g i) j
                        refine lv_istore (lv' := [(8, .int (nI hi)), (7, .int (nI lo)), (6, .int (nI ((g (i + j)).val))), (5, .int (nI j)), (4, .int (nI M)), (3, .int (nI ((g i).val))), (0, .ref w), (1, .int (nI i)), (2, .int (nI e0))]) hx hb dX0_askedOwn_188 hl (by decide) rfl (fun ls hl => ?_)
                        refine lv_iload hx hb dX0_askedOwn_190 (lv_at hl 2 rfl) ?_
                        refine lv_iload hx hb dX0_askedOwn_192 (lv_at hl 1 rfl) ?_
                        refine gw_c_lt (tgt := 204) hx hb dX0_askedOwn_194 (by decide) (by omega) (by omega) (fun h194 => ?_) (fun h194 => ?_)
                        · refine lv_iconst (v := nI 0) hx hb dX0_askedOwn_204 (by decide) ?_
                          exact gw_rz hx hb hr hlocks rfl (by rw [← hw, gw_no hM.symm h2 hj hjM (fun q => by have q1 := q.1; omega)]; rfl) dX0_askedOwn_205
                        · refine lv_iload hx hb dX0_askedOwn_197 (lv_at hl 2 rfl) ?_
                          refine lv_iload hx hb dX0_askedOwn_199 (lv_at hl 0 rfl) ?_
                          refine gw_c_le (tgt := 206) hx hb dX0_askedOwn_201 (by decide) (by omega) (by omega) (fun h201 => ?_) (fun h201 => ?_)
                          · refine lv_iinc (v := nI (j + 1)) (lv' := [(5, .int (nI (j + 1))), (8, .int (nI hi)), (7, .int (nI lo)), (6, .int (nI ((g (i + j)).val))), (4, .int (nI M)), (3, .int (nI ((g i).val))), (0, .ref w), (1, .int (nI i)), (2, .int (nI e0))]) hx hb dX0_askedOwn_206 hl (k := 3) rfl (by exact nI_1 _) (by decide) rfl (fun ls hl => ?_)
                            refine lv_goto (tgt := 89) hx hb dX0_askedOwn_209 (by decide) ?_
                            exact ihj (j + 1) (by omega) (by omega) (by omega) (fun q q1 q2 => by
                              by_cases qj : q = j
                              · rw [qj]
                                exact ⟨by omega, by omega⟩
                              · exact hok q q1 (by omega)) ls (lv_sub hl [0, 4, 5, 6, 7, 8] rfl)
                          · refine lv_iconst (v := nI 0) hx hb dX0_askedOwn_204 (by decide) ?_
                            exact gw_rz hx hb hr hlocks rfl (by rw [← hw, gw_no hM.symm h2 hj hjM (fun q => by have q2 := q.2; omega)]; rfl) dX0_askedOwn_205
                      refine lv_iload hx hb dX0_askedOwn_147 (lv_at hl 2 rfl) ?_
                      refine lv_iconst (v := nI 1) hx hb dX0_askedOwn_149 (by decide) ?_
                      refine gw_c_le (tgt := 159) hx hb dX0_askedOwn_150 (by decide) (by omega) (by omega) (fun h150 => ?_) (fun h150 => ?_)
                      · have hj1 : j = 1 := by omega
                        have chi := gw_hiC (g i)
                        refine lv_iload_n hx hb dX0_askedOwn_159 rfl (lv_at hl 4 rfl) ?_
                        refine lv_sipush (v := nI 237) hx hb dX0_askedOwn_160 (by decide) ?_
                        refine gw_c_ne (tgt := 172) hx hb dX0_askedOwn_163 (by decide) (by omega) (by omega) (fun h163 => ?_) (fun h163 => ?_)
                        · refine lv_iload_n hx hb dX0_askedOwn_172 rfl (lv_at hl 4 rfl) ?_
                          refine lv_sipush (v := nI 244) hx hb dX0_askedOwn_173 (by decide) ?_
                          refine gw_c_ne (tgt := 185) hx hb dX0_askedOwn_176 (by decide) (by omega) (by omega) (fun h176 => ?_) (fun h176 => ?_)
                          · refine lv_sipush (v := nI 191) hx hb dX0_askedOwn_185 (by decide) ?_
                            exact t188 191 (by rw [hj1]; omega) ls (lv_sub hl [0, 1, 2, 3, 4, 5, 6, 7] rfl)
                          · refine lv_sipush (v := nI 143) hx hb dX0_askedOwn_179 (by decide) ?_
                            refine lv_goto (tgt := 188) hx hb dX0_askedOwn_182 (by decide) ?_
                            exact t188 143 (by rw [hj1]; omega) ls (lv_sub hl [0, 1, 2, 3, 4, 5, 6, 7] rfl)
                        · refine lv_sipush (v := nI 159) hx hb dX0_askedOwn_166 (by decide) ?_
                          refine lv_goto (tgt := 188) hx hb dX0_askedOwn_169 (by decide) ?_
                          exact t188 159 (by rw [hj1]; omega) ls (lv_sub hl [0, 1, 2, 3, 4, 5, 6, 7] rfl)
                      · refine lv_sipush (v := nI 191) hx hb dX0_askedOwn_153 (by decide) ?_
                        refine lv_goto (tgt := 188) hx hb dX0_askedOwn_156 (by decide) ?_
                        exact t188 191 (by rw [gw_hi2 h150]) ls (lv_sub hl [0, 1, 2, 3, 4, 5, 6, 7] rfl)
                    refine lv_iload hx hb dX0_askedOwn_104 (lv_at hl 1 rfl) ?_
                    refine lv_iconst (v := nI 1) hx hb dX0_askedOwn_106 (by decide) ?_
                    refine gw_c_le (tgt := 116) hx hb dX0_askedOwn_107 (by decide) (by omega) (by omega) (fun h107 => ?_) (fun h107 => ?_)
                    · have hj1 : j = 1 := by omega
                      have clo := gw_loC (g i)
                      refine lv_iload_n hx hb dX0_askedOwn_116 rfl (lv_at hl 3 rfl) ?_
                      refine lv_sipush (v := nI 224) hx hb dX0_askedOwn_117 (by decide) ?_
                      refine gw_c_ne (tgt := 129) hx hb dX0_askedOwn_120 (by decide) (by omega) (by omega) (fun h120 => ?_) (fun h120 => ?_)
                      · refine lv_iload_n hx hb dX0_askedOwn_129 rfl (lv_at hl 3 rfl) ?_
                        refine lv_sipush (v := nI 240) hx hb dX0_askedOwn_130 (by decide) ?_
                        refine gw_c_ne (tgt := 142) hx hb dX0_askedOwn_133 (by decide) (by omega) (by omega) (fun h133 => ?_) (fun h133 => ?_)
                        · refine lv_sipush (v := nI 128) hx hb dX0_askedOwn_142 (by decide) ?_
                          exact t145 128 (by rw [hj1]; omega) ls (lv_sub hl [0, 1, 2, 3, 4, 5, 6] rfl)
                        · refine lv_sipush (v := nI 144) hx hb dX0_askedOwn_136 (by decide) ?_
                          refine lv_goto (tgt := 145) hx hb dX0_askedOwn_139 (by decide) ?_
                          exact t145 144 (by rw [hj1]; omega) ls (lv_sub hl [0, 1, 2, 3, 4, 5, 6] rfl)
                      · refine lv_sipush (v := nI 160) hx hb dX0_askedOwn_123 (by decide) ?_
                        refine lv_goto (tgt := 145) hx hb dX0_askedOwn_126 (by decide) ?_
                        exact t145 160 (by rw [hj1]; omega) ls (lv_sub hl [0, 1, 2, 3, 4, 5, 6] rfl)
                    · refine lv_sipush (v := nI 128) hx hb dX0_askedOwn_110 (by decide) ?_
                      refine lv_goto (tgt := 145) hx hb dX0_askedOwn_113 (by decide) ?_
                      exact t145 128 (by rw [gw_lo2 h107]) ls (lv_sub hl [0, 1, 2, 3, 4, 5, 6] rfl)
              refine lv_iconst (v := nI 1) hx hb dX0_askedOwn_86 (by decide) ?_
              refine lv_istore (lv' := [(5, .int (nI 1)), (4, .int (nI M)), (3, .int (nI ((g i).val))), (0, .ref w), (1, .int (nI i)), (2, .int (nI e0))]) hx hb dX0_askedOwn_87 hl (by decide) rfl (fun ls hl => ?_)
              exact inner (M + 1) 1 (by omega) (Nat.le_refl _) (by omega) (fun q q1 q2 => absurd q1 (by omega)) ls (lv_sub hl [0, 1, 2, 3, 4, 5] rfl)
            · refine lv_iconst (v := nI 0) hx hb dX0_askedOwn_84 (by decide) ?_
              exact gw_rz hx hb hr hlocks rfl (by rw [← hw, gw_bad h2 (Or.inr (by rw [← hM]; exact h82))]; rfl) dX0_askedOwn_85
        refine lv_iload_n hx hb dX0_askedOwn_9 rfl (lv_at hl 0 rfl) ?_
        refine lv_sipush (v := nI 128) hx hb dX0_askedOwn_10 (by decide) ?_
        refine gw_c_ge (tgt := 20) hx hb dX0_askedOwn_13 (by decide) (by omega) (by omega) (fun h13 => ?_) (fun h13 => ?_)
        · refine lv_iload_n hx hb dX0_askedOwn_20 rfl (lv_at hl 0 rfl) ?_
          refine lv_sipush (v := nI 194) hx hb dX0_askedOwn_21 (by decide) ?_
          refine gw_c_ge (tgt := 32) hx hb dX0_askedOwn_24 (by decide) (by omega) (by omega) (fun h24 => ?_) (fun h24 => ?_)
          · refine lv_iload_n hx hb dX0_askedOwn_32 rfl (lv_at hl 0 rfl) ?_
            refine lv_sipush (v := nI 224) hx hb dX0_askedOwn_33 (by decide) ?_
            refine gw_c_ge (tgt := 43) hx hb dX0_askedOwn_36 (by decide) (by omega) (by omega) (fun h36 => ?_) (fun h36 => ?_)
            · refine lv_iload_n hx hb dX0_askedOwn_43 rfl (lv_at hl 0 rfl) ?_
              refine lv_sipush (v := nI 240) hx hb dX0_askedOwn_44 (by decide) ?_
              refine gw_c_ge (tgt := 54) hx hb dX0_askedOwn_47 (by decide) (by omega) (by omega) (fun h47 => ?_) (fun h47 => ?_)
              · refine lv_iload_n hx hb dX0_askedOwn_54 rfl (lv_at hl 0 rfl) ?_
                refine lv_sipush (v := nI 245) hx hb dX0_askedOwn_55 (by decide) ?_
                refine gw_c_ge (tgt := 65) hx hb dX0_askedOwn_58 (by decide) (by omega) (by omega) (fun h58 => ?_) (fun h58 => ?_)
                · refine lv_bipush (v := nI 9) hx hb dX0_askedOwn_65 (by decide) ?_
                  exact t67 9 ((gw_lnX h58).symm) ls (lv_sub hl [0, 1, 2, 3] rfl)
                · refine lv_iconst (v := nI 3) hx hb dX0_askedOwn_61 (by decide) ?_
                  refine lv_goto (tgt := 67) hx hb dX0_askedOwn_62 (by decide) ?_
                  exact t67 3 ((gw_ln3 h47 h58).symm) ls (lv_sub hl [0, 1, 2, 3] rfl)
              · refine lv_iconst (v := nI 2) hx hb dX0_askedOwn_50 (by decide) ?_
                refine lv_goto (tgt := 67) hx hb dX0_askedOwn_51 (by decide) ?_
                exact t67 2 ((gw_ln2 h36 h47).symm) ls (lv_sub hl [0, 1, 2, 3] rfl)
            · refine lv_iconst (v := nI 1) hx hb dX0_askedOwn_39 (by decide) ?_
              refine lv_goto (tgt := 67) hx hb dX0_askedOwn_40 (by decide) ?_
              exact t67 1 ((gw_ln1 h24 h36).symm) ls (lv_sub hl [0, 1, 2, 3] rfl)
          · refine lv_bipush (v := nI 9) hx hb dX0_askedOwn_27 (by decide) ?_
            refine lv_goto (tgt := 67) hx hb dX0_askedOwn_29 (by decide) ?_
            exact t67 9 ((gw_ln9 h13 h24).symm) ls (lv_sub hl [0, 1, 2, 3] rfl)
        · refine lv_iconst (v := nI 0) hx hb dX0_askedOwn_16 (by decide) ?_
          refine lv_goto (tgt := 67) hx hb dX0_askedOwn_17 (by decide) ?_
          exact t67 0 ((gw_ln0 h13).symm) ls (lv_sub hl [0, 1, 2, 3] rfl)
  exact loop (e0 + 1) i0 (by omega) hi0 rfl ls hl
end
section
/-! THE LAW'S FOUR GREAT METHODS: elder -/
abbrev gw_wz (z : Nat) (cZ : ClassId) (N : Nat) (f : Nat → Int32) : Nat × va_E := (z, .inl (cZ, N, .inl f))
abbrev gw_AA (s : State) : Nat → Prop := fun q => s.heap.size ≤ q
abbrev gw_EQ (below : List Frame) (args : Array Value) (s : State) (mc ms : Nat) : State → Prop := MQ below (va_Qi (fun (z : Int32) (_ : Unit) => z = 1) (fun _ _ => True) (gw_AA s)) args s mc ms (gw_AA s)
abbrev gw_EC (p : Program) (s : State) (m : MethodId) (meth : Method) (c : Code) (cc : ByteArray) (nL b L : Nat) (xs : Nat → Int32) : Prop := CallFix p m c cc nL s ([.ref b] : List Value).toArray lw_all "WireTextLaw" ∧ meth.sig.returnType = some .boolean ∧ meth.locks = false ∧ va_X b L xs s s.heap ∧ b < s.heap.size ∧ L ≤ 40
theorem gw_frN {g : gw_G} {n a k e : Nat} (ha : a ≤ n) (hk : k ≤ n - a) (hn : n ≤ 4096) (he : a + k = e) : gw_fr g n (gw_ms (nI a)) (gw_ms (nI k)) = gw_wf g a e := by
  rw [gw_ms_nI (by omega), gw_ms_nI (by omega), gw_fr_in ha hk, he]
theorem gw_pf0 (n : Nat) : gw_pf (fun _ => 0) n (nI 0) (nI 0) (nI 0) (nI 0) = fun _ => 0 := by
  funext j
  by_cases h : j < n ∨ n + 16 ≤ j
  · exact gw_pf_out _ _ _ _ _ _ h
  · obtain ⟨t, ht, rfl⟩ : ∃ t, t < 16 ∧ j = n + t := ⟨j - n, by omega, by omega⟩
    rw [gw_pf_in (fun _ => 0) n (fun _ => nI 0) ht]
    exact (by decide +kernel : ∀ r, r < 4 → gw_oc (nI 0) r = 0) (t % 4) (by omega)
theorem gw_rw_eq : upd (upd (upd (upd (upd (upd (upd (upd (upd (upd (fun _ => 0) 0 (-1065353216)) 1 (-1044447232)) 2 (-526401792)) 3 (-308248576)) 4 (-306200832)) 5 (-259014721)) 6 (-191856512)) 7 (-176127872)) 8 (-2147483648)) 9 (-494796800) = gw_rw := by
  funext j
  by_cases h : j < 10
  · rcases (show j = 0 ∨ j = 1 ∨ j = 2 ∨ j = 3 ∨ j = 4 ∨ j = 5 ∨ j = 6 ∨ j = 7 ∨ j = 8 ∨ j = 9 by omega) with rfl | rfl | rfl | rfl | rfl | rfl | rfl | rfl | rfl | rfl <;> rfl
  · obtain ⟨k, rfl⟩ : ∃ k, j = k + 10 := ⟨j - 10, by omega⟩
    simp [upd, gw_rw]
theorem gw_mn_eq : upd (upd (upd (upd (upd (upd (upd (upd (upd (upd (fun _ => 0) 0 (nI 2)) 1 (nI 2)) 2 (nI 3)) 3 (nI 3)) 4 (nI 3)) 5 (nI 4)) 6 (nI 4)) 7 (nI 4)) 8 (nI 1)) 9 (nI 2) = fun j => nI (gw_mn j) := by
  funext j
  by_cases h : j < 10
  · rcases (show j = 0 ∨ j = 1 ∨ j = 2 ∨ j = 3 ∨ j = 4 ∨ j = 5 ∨ j = 6 ∨ j = 7 ∨ j = 8 ∨ j = 9 by omega) with rfl | rfl | rfl | rfl | rfl | rfl | rfl | rfl | rfl | rfl <;> rfl
  · obtain ⟨k, rfl⟩ : ∃ k, j = k + 10 := ⟨j - 10, by omega⟩
    simp [upd, gw_mn, nI]
set_option maxHeartbeats 4000000 in
set_option maxRecDepth 100000 in
/-- elder, from 548 -/
theorem gw_el10 {p : Program} {l : Launch} {e : Env} {s : State} {m : MethodId} {below : List Frame} {meth : Method} {c : Code} {D : va_G} {b L : Nat} {xs : Nat → Int32} (CC : gw_EC p s m meth c cX0_elder 12 b L xs) (x t : Nat) (cB : ClassId) (g : gw_G) (H : Heap) (locs : List Loc) (hK : va_K D gw_Cl [(cB, .byte)] s) (hP : va_P D gw_Cl [gw_wx x t 4096, gw_wb t cB g] H) (hD : va_D (gw_AA s) [gw_wx x t 4096, gw_wb t cB g]) (hS : va_S (gw_AA s) s.heap H locs) (ls : Array Slot) (hl : lv_has ls 12 [(10, .ref x)]) : W p l e (gw_R 3 28 49517 72) s m ([.ref b] : List Value).toArray below meth c H locs (28) (49517) (gw_EQ below ([.ref b] : List Value).toArray s 28 49517) (F0 m 548 ls []) := by
  obtain ⟨C0, hr, hlocks, hX, hbl, hL⟩ := id CC
  obtain ⟨hx, hb, hml, hown, hts⟩ := id C0
  have hA : ∀ q : Nat, s.heap.size ≤ q → gw_AA s q := fun _ h => h
  have hbA : ¬ gw_AA s b := Nat.not_le.mpr hbl
  refine lv_aload hx hb dX0_elder_548 (lv_at hl 0 rfl) ?_
  refine lv_iconst (v := nI 0) hx hb dX0_elder_550 (by decide) ?_
  refine lv_iconst (v := nI 0) hx hb dX0_elder_551 (by decide) ?_
  refine lv_iconst (v := nI 0) hx hb dX0_elder_552 (by decide) ?_
  refine lv_iconst (v := nI 0) hx hb dX0_elder_553 (by decide) ?_
  refine gw_rV (n := 4) (As := [.int (nI 0), .int (nI 0), .int (nI 0), .int (nI 0)]) (rest := []) C0 (gw_putN l D x t cB 4096 g (nI 0) (nI 0) (nI 0) (nI 0) (by decide) (by decide)) (lw_V q31 q32 q33 q5 q34) (by decide +kernel) rfl rfl rfl ⟨Nat.le_of_ble_eq_true rfl, Nat.le_of_ble_eq_true rfl⟩ hl rfl (Nat.le_of_ble_eq_true rfl) dX0_elder_554 ⟨Nat.le_of_ble_eq_true rfl, Nat.le_of_ble_eq_true rfl⟩ (va_recv hK hP (ci := 0) (q0 := 0) rfl rfl) gw_Ubl (gw_Umk (hP.sub (ws' := [gw_wx x t 4096, gw_wb t cB g]) [0, 1] rfl) (hK.sub (tys' := [(cB, .byte)]) [0] rfl)) ?_
  refine gw_z_ne (tgt := 575) hx hb dX0_elder_557 (by decide) (by decide) (fun h557 => absurd h557 (by decide)) (fun h557 => ?_)
  refine lv_aload hx hb dX0_elder_560 (lv_at hl 0 rfl) ?_
  refine gw_rV (n := 0) (As := []) (rest := []) C0 (gw_size l D x t 4096) (lw_V q62 q63 q64 q5 q65) (by decide +kernel) rfl rfl rfl ⟨Nat.le_of_ble_eq_true rfl, Nat.le_of_ble_eq_true rfl⟩ hl rfl (Nat.le_of_ble_eq_true rfl) dX0_elder_562 ⟨Nat.le_of_ble_eq_true rfl, Nat.le_of_ble_eq_true rfl⟩ (va_recv hK hP (ci := 0) (q0 := 0) rfl rfl) gw_Ubl (gw_Umk (hP.sub (ws' := [gw_wx x t 4096]) [0] rfl) (hK.sub (tys' := []) [] rfl)) ?_
  refine lv_sipush (v := nI 4096) hx hb dX0_elder_565 (by decide) ?_
  refine gw_c_ne (tgt := 575) hx hb dX0_elder_568 (by decide) (by omega) (by omega) (fun h => (h rfl).elim) (fun _ => ?_)
  refine lv_iconst (v := nI 1) hx hb dX0_elder_571 (by decide) ?_
  refine lv_goto (tgt := 576) hx hb dX0_elder_572 (by decide) ?_
  refine W.widen (k := 28) (n := 49517) (by omega) (by omega) ?_
  exact W.zret (v := nI 1) hx hb hr rfl (fun t ht hW => ⟨⟨nI 1, (), rfl, rfl, trivial⟩, hS.F ht⟩) hS.2.2 dX0_elder_576 hlocks
set_option maxHeartbeats 4000000 in
set_option maxRecDepth 100000 in
/-- elder, the loop at 516 -/
theorem gw_el9 {p : Program} {l : Launch} {e : Env} {s : State} {m : MethodId} {below : List Frame} {meth : Method} {c : Code} {D : va_G} {b L : Nat} {xs : Nat → Int32} (CC : gw_EC p s m meth c cX0_elder 12 b L xs) (x t : Nat) (cB : ClassId) : ∀ (n : Nat) (i : Nat) (g : gw_G), 256 < i + n → i ≤ 256 → ∀ (H : Heap) (locs : List Loc) (hK : va_K D gw_Cl [(cB, .byte)] s) (hP : va_P D gw_Cl [gw_wx x t (16 * i), gw_wb t cB g] H) (hD : va_D (gw_AA s) [gw_wx x t (16 * i), gw_wb t cB g]) (hS : va_S (gw_AA s) s.heap H locs) (ls : Array Slot) (hl : lv_has ls 12 [(10, .ref x), (11, .int (nI i))]), W p l e (gw_R 3 28 49517 72) s m ([.ref b] : List Value).toArray below meth c H locs (28) (49517) (gw_EQ below ([.ref b] : List Value).toArray s 28 49517) (F0 m 516 ls []) := by
  obtain ⟨C0, hr, hlocks, hX, hbl, hL⟩ := id CC
  obtain ⟨hx, hb, hml, hown, hts⟩ := id C0
  have hA : ∀ q : Nat, s.heap.size ≤ q → gw_AA s q := fun _ h => h
  have hbA : ¬ gw_AA s b := Nat.not_le.mpr hbl
  intro n
  induction n with
  | zero =>
    intro i g hn hi H locs hK hP hD hS ls hl
    exact absurd hn (by omega)
  | succ n ih =>
    intro i g hn hi H locs hK hP hD hS ls hl
    refine lv_iload hx hb dX0_elder_516 (lv_at hl 1 rfl) ?_
    refine lv_sipush (v := nI 256) hx hb dX0_elder_518 (by decide) ?_
    refine gw_c_ge (tgt := 548) hx hb dX0_elder_521 (by decide) (by omega) (by omega) (fun h521 => ?_) (fun h521 => ?_)
    · rw [show 16 * i = 4096 by omega] at hP hD
      exact gw_el10 CC x t cB g H _ (hK.sub (tys' := [(cB, .byte)]) [0] rfl) (hP.sub (ws' := [gw_wx x t 4096, gw_wb t cB g]) [0, 1] rfl) (hD.sub (ws' := [gw_wx x t 4096, gw_wb t cB g]) [0, 1] (by decide) rfl) hS ls (lv_sub hl [0] rfl)
    · refine lv_aload hx hb dX0_elder_524 (lv_at hl 0 rfl) ?_
      refine lv_iload hx hb dX0_elder_526 (lv_at hl 1 rfl) ?_
      refine lv_iload hx hb dX0_elder_528 (lv_at hl 1 rfl) ?_
      refine lv_iload hx hb dX0_elder_530 (lv_at hl 1 rfl) ?_
      refine lv_iload hx hb dX0_elder_532 (lv_at hl 1 rfl) ?_
      refine gw_wVi (n := 4) (As := [.int (nI i), .int (nI i), .int (nI i), .int (nI i)]) (rest := []) (wc := [gw_wx x t (16 * i), gw_wb t cB g]) (wr := []) (wF := [gw_wx x t ((16 * i) + 16), gw_wb t cB (gw_pf g (16 * i) (nI i) (nI i) (nI i) (nI i))]) (tc := [(cB, .byte)]) [0, 1] [] [0, 1] [0] C0 (gw_put l D x t cB (16 * i) g H.size (nI i) (nI i) (nI i) (nI i) (by omega)) (lw_V q31 q32 q33 q5 q34) (by decide +kernel) rfl rfl rfl ⟨Nat.le_of_ble_eq_true rfl, Nat.le_of_ble_eq_true rfl⟩ hl rfl (Nat.le_of_ble_eq_true rfl) dX0_elder_534 ⟨Nat.le_of_ble_eq_true rfl, Nat.le_of_ble_eq_true rfl⟩ (va_recv hK hP (ci := 0) (q0 := 0) rfl rfl) hK hP hD hS hA rfl rfl (by decide) rfl (by decide) (by decide) rfl rfl rfl (by decide) (fun H locs hP hD hS => ?_)
      refine W.widen (k := 28) (n := 49517) (Nat.le_refl _) (Nat.le_refl _) ?_
      refine gw_z_ne (tgt := 542) hx hb dX0_elder_537 (by decide) (by decide) (fun h537 => ?_) (fun h537 => absurd h537 (by cases h537))
      refine lv_iinc (v := nI (i + 1)) (lv' := [(11, .int (nI (i + 1))), (10, .ref x)]) hx hb dX0_elder_542 hl (k := 1) rfl (by exact nI_1 _) (by decide) rfl (fun ls hl => ?_)
      refine lv_goto (tgt := 516) hx hb dX0_elder_545 (by decide) ?_
      rw [show 16 * i + 16 = 16 * (i + 1) by omega] at hP hD
      exact ih (i + 1) _ (by omega) (by omega) H _ (hK.sub (tys' := [(cB, .byte)]) [0] rfl) (hP.sub (ws' := [gw_wx x t (16 * (i + 1)), gw_wb t cB (gw_pf g (16 * i) (nI i) (nI i) (nI i) (nI i))]) [0, 1] rfl) (hD.sub (ws' := [gw_wx x t (16 * (i + 1)), gw_wb t cB (gw_pf g (16 * i) (nI i) (nI i) (nI i) (nI i))]) [0, 1] (by decide) rfl) hS ls (lv_sub hl [1, 0] rfl)
set_option maxHeartbeats 4000000 in
set_option maxRecDepth 100000 in
/-- elder, from 504 -/
theorem gw_el8 {p : Program} {l : Launch} {e : Env} {s : State} {m : MethodId} {below : List Frame} {meth : Method} {c : Code} {D : va_G} {b L : Nat} {xs : Nat → Int32} (CC : gw_EC p s m meth c cX0_elder 12 b L xs)  (H : Heap) (locs : List Loc) (hK : va_K D gw_Cl [] s) (hP : va_P D gw_Cl [] H) (hD : va_D (gw_AA s) []) (hS : va_S (gw_AA s) s.heap H locs) (ls : Array Slot) (hl : lv_has ls 12 [(0, .ref b)]) : W p l e (gw_R 3 28 49517 72) s m ([.ref b] : List Value).toArray below meth c H locs (26) (45419) (gw_EQ below ([.ref b] : List Value).toArray s 28 49517) (F0 m 504 ls []) := by
  obtain ⟨C0, hr, hlocks, hX, hbl, hL⟩ := id CC
  obtain ⟨hx, hb, hml, hown, hts⟩ := id C0
  have hA : ∀ q : Nat, s.heap.size ≤ q → gw_AA s q := fun _ h => h
  have hbA : ¬ gw_AA s b := Nat.not_le.mpr hbl
  refine va_new (ci := 0) (fs := [.null, .int 0]) (C := RX1) (T := TX1) (N := 2) hx hb hts in_X1 tyX1 tyX1_ok hown (hts _ q15) (hts _ q16) (hts _ q5) hK hP hD hS hA rfl (fun j hj => by rcases (show j = 0 ∨ j = 1 by omega) with rfl | rfl <;> rfl) (Nat.le_of_ble_eq_true rfl) (Nat.le_of_ble_eq_true rfl) dX0_elder_504 (fun x H hP hD hS => ?_)
  have hP : va_P D gw_Cl [(x, .inr (0, [.null, .int 0]))] H := hP
  have hD : va_D (gw_AA s) [(x, .inr (0, [.null, .int 0]))] := hD
  refine lv_dup hx hb dX0_elder_507 rfl ?_
  have hFc := va_free (wc := [(x, .inr (0, [.null, .int 0]))]) hD hS hA [0] rfl
  refine va_callv (va_runI (As := []) (rest := [.ref x]) C0 (gw_init l D x H.size) (cwI 0 hts (lw_meth q19) rfl rfl rfl (hts _ q5) (hts _ q17) (hts _ q18) rfl (by decide +kernel) ⟨Nat.le_of_ble_eq_true rfl, Nat.le_of_ble_eq_true rfl⟩) ⟨fun a U g mk q => ⟨q.1, gw_UWbl a U g mk q.2⟩, fun U hU hW => ⟨rfl, gw_UWmk (hP.sub (ws' := [(x, .inr (0, [.null, .int 0]))]) [0] rfl) (hK.sub (tys' := []) [] rfl) (hD.sub (ws' := [(x, .inr (0, [.null, .int 0]))]) [0] (by decide) rfl) U hU hW.alike⟩⟩ rfl rfl hl.1 rfl (lv_room (Nat.le_of_ble_eq_true rfl)) dX0_elder_508 ⟨Nat.le_of_ble_eq_true rfl, Nat.le_of_ble_eq_true rfl⟩) hS (fun q _ h => hFc q h) hFc (fun u T H1 locs ht hvm hw1 hB hz1 hk1 hS => ?_)
  obtain ⟨t, cB, hP1, hK1, hD1⟩ := hB
  rw [ht] at hP1
  have hK1 := va_K.moved hvm.symm hK1
  obtain ⟨hP, hD⟩ := va_join (wr := []) (w1 := [gw_wx x t 0, gw_wb t cB (fun _ => 0)]) hP hD [0] [] rfl rfl (by decide) (by decide) hk1 hFc hP1 hD1
  have hK := (hK.sub (tys' := []) [] rfl).app hK1
  generalize H1 = H at hP hS ⊢
  have hP : va_P D gw_Cl [gw_wx x t 0, gw_wb t cB (fun _ => 0)] H := hP
  have hD : va_D (gw_AA s) [gw_wx x t 0, gw_wb t cB (fun _ => 0)] := hD
  have hK : va_K D gw_Cl [(cB, .byte)] s := hK
  refine W.widen (k := 28) (n := 49517) (by omega) (by omega) ?_
  refine lv_astore (lv' := [(10, .ref x), (0, .ref b)]) hx hb dX0_elder_511 hl (by decide) rfl (fun ls hl => ?_)
  refine lv_iconst (v := nI 0) hx hb dX0_elder_513 (by decide) ?_
  refine lv_istore (lv' := [(11, .int (nI 0)), (10, .ref x), (0, .ref b)]) hx hb dX0_elder_514 hl (by decide) rfl (fun ls hl => ?_)
  exact gw_el9 CC x t cB 257 0 (fun _ => 0) (by omega) (by omega) H _ (hK.sub (tys' := [(cB, .byte)]) [0] rfl) (hP.sub (ws' := [gw_wx x t 0, gw_wb t cB (fun _ => 0)]) [0, 1] rfl) (hD.sub (ws' := [gw_wx x t 0, gw_wb t cB (fun _ => 0)]) [0, 1] (by decide) rfl) hS ls (lv_sub hl [1, 0] rfl)
set_option maxHeartbeats 4000000 in
set_option maxRecDepth 100000 in
/-- elder, the loop at 442: ten rows that are not well formed -/
theorem gw_el7 {p : Program} {l : Launch} {e : Env} {s : State} {m : MethodId} {below : List Frame} {meth : Method} {c : Code} {D : va_G} {b L : Nat} {xs : Nat → Int32} (CC : gw_EC p s m meth c cX0_elder 12 b L xs) (ra ma : Nat) (cR cM : ClassId) : ∀ (n : Nat) (i : Nat), 10 < i + n → i ≤ 10 → ∀ (H : Heap) (locs : List Loc) (hK : va_K D gw_Cl [(cR, .int), (cM, .int)] s) (hP : va_P D gw_Cl [gw_wz ra cR 10 gw_rw, gw_wz ma cM 10 (fun j => nI (gw_mn j))] H) (hD : va_D (gw_AA s) [gw_wz ra cR 10 gw_rw, gw_wz ma cM 10 (fun j => nI (gw_mn j))]) (hS : va_S (gw_AA s) s.heap H locs) (ls : Array Slot) (hl : lv_has ls 12 [(0, .ref b), (8, .ref ra), (9, .ref ma), (10, .int (nI i))]), W p l e (gw_R 3 28 49517 72) s m ([.ref b] : List Value).toArray below meth c H locs (6 + 2 * i) (4439 + 4098 * i) (gw_EQ below ([.ref b] : List Value).toArray s 28 49517) (F0 m 442 ls []) := by
  obtain ⟨C0, hr, hlocks, hX, hbl, hL⟩ := id CC
  obtain ⟨hx, hb, hml, hown, hts⟩ := id C0
  have hA : ∀ q : Nat, s.heap.size ≤ q → gw_AA s q := fun _ h => h
  have hbA : ¬ gw_AA s b := Nat.not_le.mpr hbl
  intro n
  induction n with
  | zero =>
    intro i hn hi H locs hK hP hD hS ls hl
    exact absurd hn (by omega)
  | succ n ih =>
    intro i hn hi H locs hK hP hD hS ls hl
    refine lv_iload hx hb dX0_elder_442 (lv_at hl 3 rfl) ?_
    refine lv_bipush (v := nI 10) hx hb dX0_elder_444 (by decide) ?_
    refine gw_c_ge (tgt := 504) hx hb dX0_elder_446 (by decide) (by omega) (by omega) (fun h446 => ?_) (fun h446 => ?_)
    · refine W.widen (k := 26) (n := 45419) (by omega) (by omega) ?_
      exact gw_el8 CC H _ (hK.sub (tys' := []) [] rfl) (hP.sub (ws' := []) [] rfl) (hD.sub (ws' := []) [] (by decide) rfl) hS ls (lv_sub hl [0] rfl)
    · refine va_new (ci := 0) (fs := [.null, .int 0]) (C := RX1) (T := TX1) (N := 2) hx hb hts in_X1 tyX1 tyX1_ok hown (hts _ q15) (hts _ q16) (hts _ q5) hK hP hD hS hA rfl (fun j hj => by rcases (show j = 0 ∨ j = 1 by omega) with rfl | rfl <;> rfl) (by show _ ≤ 28; omega) (by show _ ≤ 49517; omega) dX0_elder_449 (fun x H hP hD hS => ?_)
      have hP : va_P D gw_Cl [gw_wz ra cR 10 gw_rw, gw_wz ma cM 10 (fun j => nI (gw_mn j)), (x, .inr (0, [.null, .int 0]))] H := hP
      have hD : va_D (gw_AA s) [gw_wz ra cR 10 gw_rw, gw_wz ma cM 10 (fun j => nI (gw_mn j)), (x, .inr (0, [.null, .int 0]))] := hD
      refine lv_dup hx hb dX0_elder_452 rfl ?_
      have hFc := va_free (wc := [(x, .inr (0, [.null, .int 0]))]) hD hS hA [2] rfl
      refine va_callv (va_runI (As := []) (rest := [.ref x]) C0 (gw_init l D x H.size) (cwI 0 hts (lw_meth q19) rfl rfl rfl (hts _ q5) (hts _ q17) (hts _ q18) rfl (by decide +kernel) ⟨Nat.le_of_ble_eq_true rfl, Nat.le_of_ble_eq_true rfl⟩) ⟨fun a U g mk q => ⟨q.1, gw_UWbl a U g mk q.2⟩, fun U hU hW => ⟨rfl, gw_UWmk (hP.sub (ws' := [(x, .inr (0, [.null, .int 0]))]) [2] rfl) (hK.sub (tys' := []) [] rfl) (hD.sub (ws' := [(x, .inr (0, [.null, .int 0]))]) [2] (by decide) rfl) U hU hW.alike⟩⟩ rfl rfl hl.1 rfl (lv_room (Nat.le_of_ble_eq_true rfl)) dX0_elder_453 ⟨by show _ ≤ 28; omega, by show _ ≤ 49517; omega⟩) hS (fun q _ h => hFc q h) hFc (fun u T H1 locs ht hvm hw1 hB hz1 hk1 hS => ?_)
      obtain ⟨t, cB, hP1, hK1, hD1⟩ := hB
      rw [ht] at hP1
      have hK1 := va_K.moved hvm.symm hK1
      obtain ⟨hP, hD⟩ := va_join (wr := [gw_wz ra cR 10 gw_rw, gw_wz ma cM 10 (fun j => nI (gw_mn j))]) (w1 := [gw_wx x t 0, gw_wb t cB (fun _ => 0)]) hP hD [2] [0, 1] rfl rfl (by decide) (by decide) hk1 hFc hP1 hD1
      have hK := (hK.sub (tys' := [(cR, .int), (cM, .int)]) [0, 1] rfl).app hK1
      generalize H1 = H at hP hS ⊢
      have hP : va_P D gw_Cl [gw_wz ra cR 10 gw_rw, gw_wz ma cM 10 (fun j => nI (gw_mn j)), gw_wx x t 0, gw_wb t cB (fun _ => 0)] H := hP
      have hD : va_D (gw_AA s) [gw_wz ra cR 10 gw_rw, gw_wz ma cM 10 (fun j => nI (gw_mn j)), gw_wx x t 0, gw_wb t cB (fun _ => 0)] := hD
      have hK : va_K D gw_Cl [(cR, .int), (cM, .int), (cB, .byte)] s := hK
      refine W.widen (k := 6 + 2 * i + 2) (n := 4439 + 4098 * i + 4098) (by omega) (by omega) ?_
      refine lv_astore (lv' := [(11, .ref x), (0, .ref b), (8, .ref ra), (9, .ref ma), (10, .int (nI i))]) hx hb dX0_elder_456 hl (by decide) rfl (fun ls hl => ?_)
      refine lv_aload hx hb dX0_elder_458 (lv_at hl 0 rfl) ?_
      refine lv_aload hx hb dX0_elder_460 (lv_at hl 2 rfl) ?_
      refine lv_iload hx hb dX0_elder_462 (lv_at hl 4 rfl) ?_
      refine gw_ild (k := i) (f := gw_rw) hx hb hK hP 0 0 rfl rfl (by omega) (by decide) dX0_elder_464 ?_
      refine gw_int (y := (gw_rw i)) (rfl) ?_
      refine lv_iconst (v := nI 0) hx hb dX0_elder_465 (by decide) ?_
      refine lv_iconst (v := nI 0) hx hb dX0_elder_466 (by decide) ?_
      refine lv_iconst (v := nI 0) hx hb dX0_elder_467 (by decide) ?_
      refine gw_wVi (n := 4) (As := [.int (gw_rw i), .int (nI 0), .int (nI 0), .int (nI 0)]) (rest := []) (wc := [gw_wx x t 0, gw_wb t cB (fun _ => 0)]) (wr := [gw_wz ra cR 10 gw_rw, gw_wz ma cM 10 (fun j => nI (gw_mn j))]) (wF := [gw_wz ra cR 10 gw_rw, gw_wz ma cM 10 (fun j => nI (gw_mn j)), gw_wx x t (0 + 16), gw_wb t cB (gw_pf (fun _ => 0) 0 (gw_rw i) (nI 0) (nI 0) (nI 0))]) (tc := [(cB, .byte)]) [2, 3] [0, 1] [0, 1, 2, 3] [2] C0 (gw_put l D x t cB 0 (fun _ => 0) H.size (gw_rw i) (nI 0) (nI 0) (nI 0) (by decide)) (lw_V q31 q32 q33 q5 q34) (by decide +kernel) rfl rfl rfl ⟨Nat.le_of_ble_eq_true rfl, Nat.le_of_ble_eq_true rfl⟩ hl rfl (Nat.le_of_ble_eq_true rfl) dX0_elder_468 ⟨by show _ ≤ 28; omega, by show _ ≤ 49517; omega⟩ (va_recv hK hP (ci := 0) (q0 := 2) rfl rfl) hK hP hD hS hA rfl rfl (by decide) rfl (by decide) (by decide) rfl rfl rfl (by decide) (fun H locs hP hD hS => ?_)
      refine W.widen (k := 6 + 2 * i + 2) (n := 4439 + 4098 * i + 4098) (Nat.le_refl _) (Nat.le_refl _) ?_
      have hP : va_P D gw_Cl [gw_wz ra cR 10 gw_rw, gw_wz ma cM 10 (fun j => nI (gw_mn j)), gw_wx x t 16, gw_wb t cB (gw_pf (fun _ => 0) 0 (gw_rw i) (nI 0) (nI 0) (nI 0))] H := hP
      have hD : va_D (gw_AA s) [gw_wz ra cR 10 gw_rw, gw_wz ma cM 10 (fun j => nI (gw_mn j)), gw_wx x t 16, gw_wb t cB (gw_pf (fun _ => 0) 0 (gw_rw i) (nI 0) (nI 0) (nI 0))] := hD
      refine lv_pop hx hb dX0_elder_471 rfl ?_
      refine lv_aload hx hb dX0_elder_472 (lv_at hl 0 rfl) ?_
      refine lv_aload hx hb dX0_elder_474 (lv_at hl 3 rfl) ?_
      refine lv_iload hx hb dX0_elder_476 (lv_at hl 4 rfl) ?_
      refine gw_ild (k := i) (f := (fun j => nI (gw_mn j))) hx hb hK hP 1 1 rfl rfl (by omega) (by decide) dX0_elder_478 ?_
      refine gw_int (y := (nI (gw_mn i))) (rfl) ?_
      obtain ⟨hrow, hmn⟩ := gw_rows i h446
      refine gw_wV (n := 1) (As := [.int (nI (gw_mn i))]) (rest := []) (wc := [gw_wx x t 16]) (wr := [gw_wz ra cR 10 gw_rw, gw_wz ma cM 10 (fun j => nI (gw_mn j)), gw_wb t cB (gw_pf (fun _ => 0) 0 (gw_rw i) (nI 0) (nI 0) (nI 0))]) (wF := [gw_wz ra cR 10 gw_rw, gw_wz ma cM 10 (fun j => nI (gw_mn j)), gw_wx x t (gw_ms (nI (gw_mn i)) % (16 + 1)), gw_wb t cB (gw_pf (fun _ => 0) 0 (gw_rw i) (nI 0) (nI 0) (nI 0))]) (tc := []) [2] [0, 1, 3] [0, 1, 3, 2] [] C0 (gw_trim l D x t 16 H.size (nI (gw_mn i)) (by omega)) (lw_V q54 q55 q56 q5 q57) (by decide +kernel) rfl rfl rfl ⟨Nat.le_of_ble_eq_true rfl, Nat.le_of_ble_eq_true rfl⟩ hl rfl (Nat.le_of_ble_eq_true rfl) dX0_elder_479 ⟨by show _ ≤ 28; omega, by show _ ≤ 49517; omega⟩ (va_recv hK hP (ci := 0) (q0 := 2) rfl rfl) hK hP hD hS hA rfl rfl (by decide) rfl (by decide) (by decide) rfl rfl rfl (by decide) (fun H locs hP hD hS => ?_)
      refine W.widen (k := 6 + 2 * i + 2) (n := 4439 + 4098 * i + 4098) (Nat.le_refl _) (Nat.le_refl _) ?_
      have hm : gw_ms (nI (gw_mn i)) % (16 + 1) = gw_mn i := (by rw [gw_ms_nI (by omega)]; omega)
      rw [hm] at hP hD
      have hP : va_P D gw_Cl [gw_wz ra cR 10 gw_rw, gw_wz ma cM 10 (fun j => nI (gw_mn j)), gw_wx x t (gw_mn i), gw_wb t cB (gw_pf (fun _ => 0) 0 (gw_rw i) (nI 0) (nI 0) (nI 0))] H := hP
      have hD : va_D (gw_AA s) [gw_wz ra cR 10 gw_rw, gw_wz ma cM 10 (fun j => nI (gw_mn j)), gw_wx x t (gw_mn i), gw_wb t cB (gw_pf (fun _ => 0) 0 (gw_rw i) (nI 0) (nI 0) (nI 0))] := hD
      refine lv_aload hx hb dX0_elder_482 (lv_at hl 0 rfl) ?_
      refine lv_iconst (v := nI 0) hx hb dX0_elder_484 (by decide) ?_
      refine lv_aload hx hb dX0_elder_485 (lv_at hl 3 rfl) ?_
      refine lv_iload hx hb dX0_elder_487 (lv_at hl 4 rfl) ?_
      refine gw_ild (k := i) (f := (fun j => nI (gw_mn j))) hx hb hK hP 1 1 rfl rfl (by omega) (by decide) dX0_elder_489 ?_
      refine gw_int (y := (nI (gw_mn i))) (rfl) ?_
      refine gw_rV (n := 2) (As := [.int (nI 0), .int (nI (gw_mn i))]) (rest := []) C0 (gw_fair l D x t cB (gw_mn i) (gw_pf (fun _ => 0) 0 (gw_rw i) (nI 0) (nI 0) (nI 0)) (nI 0) (nI (gw_mn i)) (by omega)) (lw_V q66 q67 q68 q5 q69) (by decide +kernel) rfl rfl rfl ⟨Nat.le_of_ble_eq_true rfl, Nat.le_of_ble_eq_true rfl⟩ hl rfl (Nat.le_of_ble_eq_true rfl) dX0_elder_490 ⟨by show _ ≤ 28; omega, by show _ ≤ 49517; omega⟩ (va_recv hK hP (ci := 0) (q0 := 2) rfl rfl) gw_Ubl (gw_Umk (hP.sub (ws' := [gw_wx x t (gw_mn i), gw_wb t cB (gw_pf (fun _ => 0) 0 (gw_rw i) (nI 0) (nI 0) (nI 0))]) [2, 3] rfl) (hK.sub (tys' := [(cB, .byte)]) [2] rfl)) ?_
      refine gw_int (y := nI (gw_tf (gw_wf (gw_pf (fun _ => 0) 0 (gw_rw i) (nI 0) (nI 0) (nI 0)) 0 (gw_mn i)))) (by rw [gw_frN (n := (gw_mn i)) (a := 0) (k := gw_mn i) (e := gw_mn i) (by omega) (by omega) (by omega) (by omega)]) ?_
      refine gw_int (y := nI (gw_tf false)) (congrArg (fun z => nI (gw_tf z)) hrow) ?_
      refine gw_t_eq (tgt := 498) hx hb dX0_elder_493 (by decide) (fun h493 => ?_) (fun h493 => absurd h493 (by decide))
      refine lv_iinc (v := nI (i + 1)) (lv' := [(10, .int (nI (i + 1))), (11, .ref x), (0, .ref b), (8, .ref ra), (9, .ref ma)]) hx hb dX0_elder_498 hl (k := 4) rfl (by exact nI_1 _) (by decide) rfl (fun ls hl => ?_)
      refine lv_goto (tgt := 442) hx hb dX0_elder_501 (by decide) ?_
      refine W.widen (k := 6 + 2 * (i + 1)) (n := 4439 + 4098 * (i + 1)) (by omega) (by omega) ?_
      exact ih (i + 1) (by omega) (by omega) H _ (hK.sub (tys' := [(cR, .int), (cM, .int)]) [0, 1] rfl) (hP.sub (ws' := [gw_wz ra cR 10 gw_rw, gw_wz ma cM 10 (fun j => nI (gw_mn j))]) [0, 1] rfl) (hD.sub (ws' := [gw_wz ra cR 10 gw_rw, gw_wz ma cM 10 (fun j => nI (gw_mn j))]) [0, 1] (by decide) rfl) hS ls (lv_sub hl [2, 3, 4, 0] rfl)
set_option maxHeartbeats 4000000 in
set_option maxRecDepth 100000 in
/-- elder, from 329 -/
theorem gw_el6 {p : Program} {l : Launch} {e : Env} {s : State} {m : MethodId} {below : List Frame} {meth : Method} {c : Code} {D : va_G} {b L : Nat} {xs : Nat → Int32} (CC : gw_EC p s m meth c cX0_elder 12 b L xs)  (H : Heap) (locs : List Loc) (hK : va_K D gw_Cl [] s) (hP : va_P D gw_Cl [] H) (hD : va_D (gw_AA s) []) (hS : va_S (gw_AA s) s.heap H locs) (ls : Array Slot) (hl : lv_has ls 12 [(0, .ref b)]) : W p l e (gw_R 3 28 49517 72) s m ([.ref b] : List Value).toArray below meth c H locs (4) (4419) (gw_EQ below ([.ref b] : List Value).toArray s 28 49517) (F0 m 329 ls []) := by
  obtain ⟨C0, hr, hlocks, hX, hbl, hL⟩ := id CC
  obtain ⟨hx, hb, hml, hown, hts⟩ := id C0
  have hA : ∀ q : Nat, s.heap.size ≤ q → gw_AA s q := fun _ h => h
  have hbA : ¬ gw_AA s b := Nat.not_le.mpr hbl
  refine lv_bipush (v := nI 10) hx hb dX0_elder_329 (by decide) ?_
  refine va_newa (atype := .int) (ty := .int) (N' := 10) (a0 := (10, .inl (fun _ => 0))) hx hb (hts _ q145) rfl hK hP hD hS hA (fun cA => rfl) (by decide) (by decide) (by decide) (Nat.le_of_ble_eq_true rfl) (Nat.le_of_ble_eq_true rfl) dX0_elder_331 (fun ra cR H hK hP hD hS => ?_)
  have hP : va_P D gw_Cl [gw_wz ra cR 10 (fun _ => 0)] H := hP
  have hD : va_D (gw_AA s) [gw_wz ra cR 10 (fun _ => 0)] := hD
  have hK : va_K D gw_Cl [(cR, .int)] s := hK
  refine W.widen (k := 5) (n := 4429) (by omega) (by omega) ?_
  refine lv_dup hx hb dX0_elder_333 rfl ?_
  refine lv_iconst (v := nI 0) hx hb dX0_elder_334 (by decide) ?_
  refine lv_ldc (v := (-1065353216 : Int32)) hx hb hown (hts _ q157) dX0_elder_335 ?_
  refine gw_iput (k := 0) (f := (fun _ => 0)) (v := (-1065353216)) hx hb hK hP hD hS 0 0 rfl rfl (by decide) (by decide) dX0_elder_337 (fun H locs hP hD hS => ?_)
  have hP : va_P D gw_Cl [gw_wz ra cR 10 (upd ((fun _ => 0)) 0 ((-1065353216)))] H := hP
  have hD : va_D (gw_AA s) [gw_wz ra cR 10 (upd ((fun _ => 0)) 0 ((-1065353216)))] := hD
  refine lv_dup hx hb dX0_elder_338 rfl ?_
  refine lv_iconst (v := nI 1) hx hb dX0_elder_339 (by decide) ?_
  refine lv_ldc (v := (-1044447232 : Int32)) hx hb hown (hts _ q158) dX0_elder_340 ?_
  refine gw_iput (k := 1) (f := (upd ((fun _ => 0)) 0 ((-1065353216)))) (v := (-1044447232)) hx hb hK hP hD hS 0 0 rfl rfl (by decide) (by decide) dX0_elder_342 (fun H locs hP hD hS => ?_)
  have hP : va_P D gw_Cl [gw_wz ra cR 10 (upd ((upd ((fun _ => 0)) 0 ((-1065353216)))) 1 ((-1044447232)))] H := hP
  have hD : va_D (gw_AA s) [gw_wz ra cR 10 (upd ((upd ((fun _ => 0)) 0 ((-1065353216)))) 1 ((-1044447232)))] := hD
  refine lv_dup hx hb dX0_elder_343 rfl ?_
  refine lv_iconst (v := nI 2) hx hb dX0_elder_344 (by decide) ?_
  refine lv_ldc (v := (-526401792 : Int32)) hx hb hown (hts _ q159) dX0_elder_345 ?_
  refine gw_iput (k := 2) (f := (upd ((upd ((fun _ => 0)) 0 ((-1065353216)))) 1 ((-1044447232)))) (v := (-526401792)) hx hb hK hP hD hS 0 0 rfl rfl (by decide) (by decide) dX0_elder_347 (fun H locs hP hD hS => ?_)
  have hP : va_P D gw_Cl [gw_wz ra cR 10 (upd ((upd ((upd ((fun _ => 0)) 0 ((-1065353216)))) 1 ((-1044447232)))) 2 ((-526401792)))] H := hP
  have hD : va_D (gw_AA s) [gw_wz ra cR 10 (upd ((upd ((upd ((fun _ => 0)) 0 ((-1065353216)))) 1 ((-1044447232)))) 2 ((-526401792)))] := hD
  refine lv_dup hx hb dX0_elder_348 rfl ?_
  refine lv_iconst (v := nI 3) hx hb dX0_elder_349 (by decide) ?_
  refine lv_ldc (v := (-308248576 : Int32)) hx hb hown (hts _ q160) dX0_elder_350 ?_
  refine gw_iput (k := 3) (f := (upd ((upd ((upd ((fun _ => 0)) 0 ((-1065353216)))) 1 ((-1044447232)))) 2 ((-526401792)))) (v := (-308248576)) hx hb hK hP hD hS 0 0 rfl rfl (by decide) (by decide) dX0_elder_352 (fun H locs hP hD hS => ?_)
  have hP : va_P D gw_Cl [gw_wz ra cR 10 (upd ((upd ((upd ((upd ((fun _ => 0)) 0 ((-1065353216)))) 1 ((-1044447232)))) 2 ((-526401792)))) 3 ((-308248576)))] H := hP
  have hD : va_D (gw_AA s) [gw_wz ra cR 10 (upd ((upd ((upd ((upd ((fun _ => 0)) 0 ((-1065353216)))) 1 ((-1044447232)))) 2 ((-526401792)))) 3 ((-308248576)))] := hD
  refine lv_dup hx hb dX0_elder_353 rfl ?_
  refine lv_iconst (v := nI 4) hx hb dX0_elder_354 (by decide) ?_
  refine lv_ldc (v := (-306200832 : Int32)) hx hb hown (hts _ q161) dX0_elder_355 ?_
  refine gw_iput (k := 4) (f := (upd ((upd ((upd ((upd ((fun _ => 0)) 0 ((-1065353216)))) 1 ((-1044447232)))) 2 ((-526401792)))) 3 ((-308248576)))) (v := (-306200832)) hx hb hK hP hD hS 0 0 rfl rfl (by decide) (by decide) dX0_elder_357 (fun H locs hP hD hS => ?_)
  have hP : va_P D gw_Cl [gw_wz ra cR 10 (upd ((upd ((upd ((upd ((upd ((fun _ => 0)) 0 ((-1065353216)))) 1 ((-1044447232)))) 2 ((-526401792)))) 3 ((-308248576)))) 4 ((-306200832)))] H := hP
  have hD : va_D (gw_AA s) [gw_wz ra cR 10 (upd ((upd ((upd ((upd ((upd ((fun _ => 0)) 0 ((-1065353216)))) 1 ((-1044447232)))) 2 ((-526401792)))) 3 ((-308248576)))) 4 ((-306200832)))] := hD
  refine lv_dup hx hb dX0_elder_358 rfl ?_
  refine lv_iconst (v := nI 5) hx hb dX0_elder_359 (by decide) ?_
  refine lv_ldc (v := (-259014721 : Int32)) hx hb hown (hts _ q162) dX0_elder_360 ?_
  refine gw_iput (k := 5) (f := (upd ((upd ((upd ((upd ((upd ((fun _ => 0)) 0 ((-1065353216)))) 1 ((-1044447232)))) 2 ((-526401792)))) 3 ((-308248576)))) 4 ((-306200832)))) (v := (-259014721)) hx hb hK hP hD hS 0 0 rfl rfl (by decide) (by decide) dX0_elder_362 (fun H locs hP hD hS => ?_)
  have hP : va_P D gw_Cl [gw_wz ra cR 10 (upd ((upd ((upd ((upd ((upd ((upd ((fun _ => 0)) 0 ((-1065353216)))) 1 ((-1044447232)))) 2 ((-526401792)))) 3 ((-308248576)))) 4 ((-306200832)))) 5 ((-259014721)))] H := hP
  have hD : va_D (gw_AA s) [gw_wz ra cR 10 (upd ((upd ((upd ((upd ((upd ((upd ((fun _ => 0)) 0 ((-1065353216)))) 1 ((-1044447232)))) 2 ((-526401792)))) 3 ((-308248576)))) 4 ((-306200832)))) 5 ((-259014721)))] := hD
  refine lv_dup hx hb dX0_elder_363 rfl ?_
  refine lv_bipush (v := nI 6) hx hb dX0_elder_364 (by decide) ?_
  refine lv_ldc (v := (-191856512 : Int32)) hx hb hown (hts _ q163) dX0_elder_366 ?_
  refine gw_iput (k := 6) (f := (upd ((upd ((upd ((upd ((upd ((upd ((fun _ => 0)) 0 ((-1065353216)))) 1 ((-1044447232)))) 2 ((-526401792)))) 3 ((-308248576)))) 4 ((-306200832)))) 5 ((-259014721)))) (v := (-191856512)) hx hb hK hP hD hS 0 0 rfl rfl (by decide) (by decide) dX0_elder_368 (fun H locs hP hD hS => ?_)
  have hP : va_P D gw_Cl [gw_wz ra cR 10 (upd ((upd ((upd ((upd ((upd ((upd ((upd ((fun _ => 0)) 0 ((-1065353216)))) 1 ((-1044447232)))) 2 ((-526401792)))) 3 ((-308248576)))) 4 ((-306200832)))) 5 ((-259014721)))) 6 ((-191856512)))] H := hP
  have hD : va_D (gw_AA s) [gw_wz ra cR 10 (upd ((upd ((upd ((upd ((upd ((upd ((upd ((fun _ => 0)) 0 ((-1065353216)))) 1 ((-1044447232)))) 2 ((-526401792)))) 3 ((-308248576)))) 4 ((-306200832)))) 5 ((-259014721)))) 6 ((-191856512)))] := hD
  refine lv_dup hx hb dX0_elder_369 rfl ?_
  refine lv_bipush (v := nI 7) hx hb dX0_elder_370 (by decide) ?_
  refine lv_ldc (v := (-176127872 : Int32)) hx hb hown (hts _ q164) dX0_elder_372 ?_
  refine gw_iput (k := 7) (f := (upd ((upd ((upd ((upd ((upd ((upd ((upd ((fun _ => 0)) 0 ((-1065353216)))) 1 ((-1044447232)))) 2 ((-526401792)))) 3 ((-308248576)))) 4 ((-306200832)))) 5 ((-259014721)))) 6 ((-191856512)))) (v := (-176127872)) hx hb hK hP hD hS 0 0 rfl rfl (by decide) (by decide) dX0_elder_374 (fun H locs hP hD hS => ?_)
  have hP : va_P D gw_Cl [gw_wz ra cR 10 (upd ((upd ((upd ((upd ((upd ((upd ((upd ((upd ((fun _ => 0)) 0 ((-1065353216)))) 1 ((-1044447232)))) 2 ((-526401792)))) 3 ((-308248576)))) 4 ((-306200832)))) 5 ((-259014721)))) 6 ((-191856512)))) 7 ((-176127872)))] H := hP
  have hD : va_D (gw_AA s) [gw_wz ra cR 10 (upd ((upd ((upd ((upd ((upd ((upd ((upd ((upd ((fun _ => 0)) 0 ((-1065353216)))) 1 ((-1044447232)))) 2 ((-526401792)))) 3 ((-308248576)))) 4 ((-306200832)))) 5 ((-259014721)))) 6 ((-191856512)))) 7 ((-176127872)))] := hD
  refine lv_dup hx hb dX0_elder_375 rfl ?_
  refine lv_bipush (v := nI 8) hx hb dX0_elder_376 (by decide) ?_
  refine lv_ldc (v := (-2147483648 : Int32)) hx hb hown (hts _ q165) dX0_elder_378 ?_
  refine gw_iput (k := 8) (f := (upd ((upd ((upd ((upd ((upd ((upd ((upd ((upd ((fun _ => 0)) 0 ((-1065353216)))) 1 ((-1044447232)))) 2 ((-526401792)))) 3 ((-308248576)))) 4 ((-306200832)))) 5 ((-259014721)))) 6 ((-191856512)))) 7 ((-176127872)))) (v := (-2147483648)) hx hb hK hP hD hS 0 0 rfl rfl (by decide) (by decide) dX0_elder_380 (fun H locs hP hD hS => ?_)
  have hP : va_P D gw_Cl [gw_wz ra cR 10 (upd ((upd ((upd ((upd ((upd ((upd ((upd ((upd ((upd ((fun _ => 0)) 0 ((-1065353216)))) 1 ((-1044447232)))) 2 ((-526401792)))) 3 ((-308248576)))) 4 ((-306200832)))) 5 ((-259014721)))) 6 ((-191856512)))) 7 ((-176127872)))) 8 ((-2147483648)))] H := hP
  have hD : va_D (gw_AA s) [gw_wz ra cR 10 (upd ((upd ((upd ((upd ((upd ((upd ((upd ((upd ((upd ((fun _ => 0)) 0 ((-1065353216)))) 1 ((-1044447232)))) 2 ((-526401792)))) 3 ((-308248576)))) 4 ((-306200832)))) 5 ((-259014721)))) 6 ((-191856512)))) 7 ((-176127872)))) 8 ((-2147483648)))] := hD
  refine lv_dup hx hb dX0_elder_381 rfl ?_
  refine lv_bipush (v := nI 9) hx hb dX0_elder_382 (by decide) ?_
  refine lv_ldc (v := (-494796800 : Int32)) hx hb hown (hts _ q166) dX0_elder_384 ?_
  refine gw_iput (k := 9) (f := (upd ((upd ((upd ((upd ((upd ((upd ((upd ((upd ((upd ((fun _ => 0)) 0 ((-1065353216)))) 1 ((-1044447232)))) 2 ((-526401792)))) 3 ((-308248576)))) 4 ((-306200832)))) 5 ((-259014721)))) 6 ((-191856512)))) 7 ((-176127872)))) 8 ((-2147483648)))) (v := (-494796800)) hx hb hK hP hD hS 0 0 rfl rfl (by decide) (by decide) dX0_elder_386 (fun H locs hP hD hS => ?_)
  have hP : va_P D gw_Cl [gw_wz ra cR 10 (upd ((upd ((upd ((upd ((upd ((upd ((upd ((upd ((upd ((upd ((fun _ => 0)) 0 ((-1065353216)))) 1 ((-1044447232)))) 2 ((-526401792)))) 3 ((-308248576)))) 4 ((-306200832)))) 5 ((-259014721)))) 6 ((-191856512)))) 7 ((-176127872)))) 8 ((-2147483648)))) 9 ((-494796800)))] H := hP
  have hD : va_D (gw_AA s) [gw_wz ra cR 10 (upd ((upd ((upd ((upd ((upd ((upd ((upd ((upd ((upd ((upd ((fun _ => 0)) 0 ((-1065353216)))) 1 ((-1044447232)))) 2 ((-526401792)))) 3 ((-308248576)))) 4 ((-306200832)))) 5 ((-259014721)))) 6 ((-191856512)))) 7 ((-176127872)))) 8 ((-2147483648)))) 9 ((-494796800)))] := hD
  rw [gw_rw_eq] at hP hD
  refine lv_astore (lv' := [(8, .ref ra), (0, .ref b)]) hx hb dX0_elder_387 hl (by decide) rfl (fun ls hl => ?_)
  refine lv_bipush (v := nI 10) hx hb dX0_elder_389 (by decide) ?_
  refine va_newa (atype := .int) (ty := .int) (N' := 10) (a0 := (10, .inl (fun _ => 0))) hx hb (hts _ q145) rfl hK hP hD hS hA (fun cA => rfl) (by decide) (by decide) (by decide) (Nat.le_of_ble_eq_true rfl) (Nat.le_of_ble_eq_true rfl) dX0_elder_391 (fun ma cM H hK hP hD hS => ?_)
  have hP : va_P D gw_Cl [gw_wz ra cR 10 gw_rw, gw_wz ma cM 10 (fun _ => 0)] H := hP
  have hD : va_D (gw_AA s) [gw_wz ra cR 10 gw_rw, gw_wz ma cM 10 (fun _ => 0)] := hD
  have hK : va_K D gw_Cl [(cR, .int), (cM, .int)] s := hK
  refine W.widen (k := 6) (n := 4439) (by omega) (by omega) ?_
  refine lv_dup hx hb dX0_elder_393 rfl ?_
  refine lv_iconst (v := nI 0) hx hb dX0_elder_394 (by decide) ?_
  refine lv_iconst (v := nI 2) hx hb dX0_elder_395 (by decide) ?_
  refine gw_iput (k := 0) (f := (fun _ => 0)) (v := (nI 2)) hx hb hK hP hD hS 1 1 rfl rfl (by decide) (by decide) dX0_elder_396 (fun H locs hP hD hS => ?_)
  have hP : va_P D gw_Cl [gw_wz ra cR 10 gw_rw, gw_wz ma cM 10 (upd ((fun _ => 0)) 0 ((nI 2)))] H := hP
  have hD : va_D (gw_AA s) [gw_wz ra cR 10 gw_rw, gw_wz ma cM 10 (upd ((fun _ => 0)) 0 ((nI 2)))] := hD
  refine lv_dup hx hb dX0_elder_397 rfl ?_
  refine lv_iconst (v := nI 1) hx hb dX0_elder_398 (by decide) ?_
  refine lv_iconst (v := nI 2) hx hb dX0_elder_399 (by decide) ?_
  refine gw_iput (k := 1) (f := (upd ((fun _ => 0)) 0 ((nI 2)))) (v := (nI 2)) hx hb hK hP hD hS 1 1 rfl rfl (by decide) (by decide) dX0_elder_400 (fun H locs hP hD hS => ?_)
  have hP : va_P D gw_Cl [gw_wz ra cR 10 gw_rw, gw_wz ma cM 10 (upd ((upd ((fun _ => 0)) 0 ((nI 2)))) 1 ((nI 2)))] H := hP
  have hD : va_D (gw_AA s) [gw_wz ra cR 10 gw_rw, gw_wz ma cM 10 (upd ((upd ((fun _ => 0)) 0 ((nI 2)))) 1 ((nI 2)))] := hD
  refine lv_dup hx hb dX0_elder_401 rfl ?_
  refine lv_iconst (v := nI 2) hx hb dX0_elder_402 (by decide) ?_
  refine lv_iconst (v := nI 3) hx hb dX0_elder_403 (by decide) ?_
  refine gw_iput (k := 2) (f := (upd ((upd ((fun _ => 0)) 0 ((nI 2)))) 1 ((nI 2)))) (v := (nI 3)) hx hb hK hP hD hS 1 1 rfl rfl (by decide) (by decide) dX0_elder_404 (fun H locs hP hD hS => ?_)
  have hP : va_P D gw_Cl [gw_wz ra cR 10 gw_rw, gw_wz ma cM 10 (upd ((upd ((upd ((fun _ => 0)) 0 ((nI 2)))) 1 ((nI 2)))) 2 ((nI 3)))] H := hP
  have hD : va_D (gw_AA s) [gw_wz ra cR 10 gw_rw, gw_wz ma cM 10 (upd ((upd ((upd ((fun _ => 0)) 0 ((nI 2)))) 1 ((nI 2)))) 2 ((nI 3)))] := hD
  refine lv_dup hx hb dX0_elder_405 rfl ?_
  refine lv_iconst (v := nI 3) hx hb dX0_elder_406 (by decide) ?_
  refine lv_iconst (v := nI 3) hx hb dX0_elder_407 (by decide) ?_
  refine gw_iput (k := 3) (f := (upd ((upd ((upd ((fun _ => 0)) 0 ((nI 2)))) 1 ((nI 2)))) 2 ((nI 3)))) (v := (nI 3)) hx hb hK hP hD hS 1 1 rfl rfl (by decide) (by decide) dX0_elder_408 (fun H locs hP hD hS => ?_)
  have hP : va_P D gw_Cl [gw_wz ra cR 10 gw_rw, gw_wz ma cM 10 (upd ((upd ((upd ((upd ((fun _ => 0)) 0 ((nI 2)))) 1 ((nI 2)))) 2 ((nI 3)))) 3 ((nI 3)))] H := hP
  have hD : va_D (gw_AA s) [gw_wz ra cR 10 gw_rw, gw_wz ma cM 10 (upd ((upd ((upd ((upd ((fun _ => 0)) 0 ((nI 2)))) 1 ((nI 2)))) 2 ((nI 3)))) 3 ((nI 3)))] := hD
  refine lv_dup hx hb dX0_elder_409 rfl ?_
  refine lv_iconst (v := nI 4) hx hb dX0_elder_410 (by decide) ?_
  refine lv_iconst (v := nI 3) hx hb dX0_elder_411 (by decide) ?_
  refine gw_iput (k := 4) (f := (upd ((upd ((upd ((upd ((fun _ => 0)) 0 ((nI 2)))) 1 ((nI 2)))) 2 ((nI 3)))) 3 ((nI 3)))) (v := (nI 3)) hx hb hK hP hD hS 1 1 rfl rfl (by decide) (by decide) dX0_elder_412 (fun H locs hP hD hS => ?_)
  have hP : va_P D gw_Cl [gw_wz ra cR 10 gw_rw, gw_wz ma cM 10 (upd ((upd ((upd ((upd ((upd ((fun _ => 0)) 0 ((nI 2)))) 1 ((nI 2)))) 2 ((nI 3)))) 3 ((nI 3)))) 4 ((nI 3)))] H := hP
  have hD : va_D (gw_AA s) [gw_wz ra cR 10 gw_rw, gw_wz ma cM 10 (upd ((upd ((upd ((upd ((upd ((fun _ => 0)) 0 ((nI 2)))) 1 ((nI 2)))) 2 ((nI 3)))) 3 ((nI 3)))) 4 ((nI 3)))] := hD
  refine lv_dup hx hb dX0_elder_413 rfl ?_
  refine lv_iconst (v := nI 5) hx hb dX0_elder_414 (by decide) ?_
  refine lv_iconst (v := nI 4) hx hb dX0_elder_415 (by decide) ?_
  refine gw_iput (k := 5) (f := (upd ((upd ((upd ((upd ((upd ((fun _ => 0)) 0 ((nI 2)))) 1 ((nI 2)))) 2 ((nI 3)))) 3 ((nI 3)))) 4 ((nI 3)))) (v := (nI 4)) hx hb hK hP hD hS 1 1 rfl rfl (by decide) (by decide) dX0_elder_416 (fun H locs hP hD hS => ?_)
  have hP : va_P D gw_Cl [gw_wz ra cR 10 gw_rw, gw_wz ma cM 10 (upd ((upd ((upd ((upd ((upd ((upd ((fun _ => 0)) 0 ((nI 2)))) 1 ((nI 2)))) 2 ((nI 3)))) 3 ((nI 3)))) 4 ((nI 3)))) 5 ((nI 4)))] H := hP
  have hD : va_D (gw_AA s) [gw_wz ra cR 10 gw_rw, gw_wz ma cM 10 (upd ((upd ((upd ((upd ((upd ((upd ((fun _ => 0)) 0 ((nI 2)))) 1 ((nI 2)))) 2 ((nI 3)))) 3 ((nI 3)))) 4 ((nI 3)))) 5 ((nI 4)))] := hD
  refine lv_dup hx hb dX0_elder_417 rfl ?_
  refine lv_bipush (v := nI 6) hx hb dX0_elder_418 (by decide) ?_
  refine lv_iconst (v := nI 4) hx hb dX0_elder_420 (by decide) ?_
  refine gw_iput (k := 6) (f := (upd ((upd ((upd ((upd ((upd ((upd ((fun _ => 0)) 0 ((nI 2)))) 1 ((nI 2)))) 2 ((nI 3)))) 3 ((nI 3)))) 4 ((nI 3)))) 5 ((nI 4)))) (v := (nI 4)) hx hb hK hP hD hS 1 1 rfl rfl (by decide) (by decide) dX0_elder_421 (fun H locs hP hD hS => ?_)
  have hP : va_P D gw_Cl [gw_wz ra cR 10 gw_rw, gw_wz ma cM 10 (upd ((upd ((upd ((upd ((upd ((upd ((upd ((fun _ => 0)) 0 ((nI 2)))) 1 ((nI 2)))) 2 ((nI 3)))) 3 ((nI 3)))) 4 ((nI 3)))) 5 ((nI 4)))) 6 ((nI 4)))] H := hP
  have hD : va_D (gw_AA s) [gw_wz ra cR 10 gw_rw, gw_wz ma cM 10 (upd ((upd ((upd ((upd ((upd ((upd ((upd ((fun _ => 0)) 0 ((nI 2)))) 1 ((nI 2)))) 2 ((nI 3)))) 3 ((nI 3)))) 4 ((nI 3)))) 5 ((nI 4)))) 6 ((nI 4)))] := hD
  refine lv_dup hx hb dX0_elder_422 rfl ?_
  refine lv_bipush (v := nI 7) hx hb dX0_elder_423 (by decide) ?_
  refine lv_iconst (v := nI 4) hx hb dX0_elder_425 (by decide) ?_
  refine gw_iput (k := 7) (f := (upd ((upd ((upd ((upd ((upd ((upd ((upd ((fun _ => 0)) 0 ((nI 2)))) 1 ((nI 2)))) 2 ((nI 3)))) 3 ((nI 3)))) 4 ((nI 3)))) 5 ((nI 4)))) 6 ((nI 4)))) (v := (nI 4)) hx hb hK hP hD hS 1 1 rfl rfl (by decide) (by decide) dX0_elder_426 (fun H locs hP hD hS => ?_)
  have hP : va_P D gw_Cl [gw_wz ra cR 10 gw_rw, gw_wz ma cM 10 (upd ((upd ((upd ((upd ((upd ((upd ((upd ((upd ((fun _ => 0)) 0 ((nI 2)))) 1 ((nI 2)))) 2 ((nI 3)))) 3 ((nI 3)))) 4 ((nI 3)))) 5 ((nI 4)))) 6 ((nI 4)))) 7 ((nI 4)))] H := hP
  have hD : va_D (gw_AA s) [gw_wz ra cR 10 gw_rw, gw_wz ma cM 10 (upd ((upd ((upd ((upd ((upd ((upd ((upd ((upd ((fun _ => 0)) 0 ((nI 2)))) 1 ((nI 2)))) 2 ((nI 3)))) 3 ((nI 3)))) 4 ((nI 3)))) 5 ((nI 4)))) 6 ((nI 4)))) 7 ((nI 4)))] := hD
  refine lv_dup hx hb dX0_elder_427 rfl ?_
  refine lv_bipush (v := nI 8) hx hb dX0_elder_428 (by decide) ?_
  refine lv_iconst (v := nI 1) hx hb dX0_elder_430 (by decide) ?_
  refine gw_iput (k := 8) (f := (upd ((upd ((upd ((upd ((upd ((upd ((upd ((upd ((fun _ => 0)) 0 ((nI 2)))) 1 ((nI 2)))) 2 ((nI 3)))) 3 ((nI 3)))) 4 ((nI 3)))) 5 ((nI 4)))) 6 ((nI 4)))) 7 ((nI 4)))) (v := (nI 1)) hx hb hK hP hD hS 1 1 rfl rfl (by decide) (by decide) dX0_elder_431 (fun H locs hP hD hS => ?_)
  have hP : va_P D gw_Cl [gw_wz ra cR 10 gw_rw, gw_wz ma cM 10 (upd ((upd ((upd ((upd ((upd ((upd ((upd ((upd ((upd ((fun _ => 0)) 0 ((nI 2)))) 1 ((nI 2)))) 2 ((nI 3)))) 3 ((nI 3)))) 4 ((nI 3)))) 5 ((nI 4)))) 6 ((nI 4)))) 7 ((nI 4)))) 8 ((nI 1)))] H := hP
  have hD : va_D (gw_AA s) [gw_wz ra cR 10 gw_rw, gw_wz ma cM 10 (upd ((upd ((upd ((upd ((upd ((upd ((upd ((upd ((upd ((fun _ => 0)) 0 ((nI 2)))) 1 ((nI 2)))) 2 ((nI 3)))) 3 ((nI 3)))) 4 ((nI 3)))) 5 ((nI 4)))) 6 ((nI 4)))) 7 ((nI 4)))) 8 ((nI 1)))] := hD
  refine lv_dup hx hb dX0_elder_432 rfl ?_
  refine lv_bipush (v := nI 9) hx hb dX0_elder_433 (by decide) ?_
  refine lv_iconst (v := nI 2) hx hb dX0_elder_435 (by decide) ?_
  refine gw_iput (k := 9) (f := (upd ((upd ((upd ((upd ((upd ((upd ((upd ((upd ((upd ((fun _ => 0)) 0 ((nI 2)))) 1 ((nI 2)))) 2 ((nI 3)))) 3 ((nI 3)))) 4 ((nI 3)))) 5 ((nI 4)))) 6 ((nI 4)))) 7 ((nI 4)))) 8 ((nI 1)))) (v := (nI 2)) hx hb hK hP hD hS 1 1 rfl rfl (by decide) (by decide) dX0_elder_436 (fun H locs hP hD hS => ?_)
  have hP : va_P D gw_Cl [gw_wz ra cR 10 gw_rw, gw_wz ma cM 10 (upd ((upd ((upd ((upd ((upd ((upd ((upd ((upd ((upd ((upd ((fun _ => 0)) 0 ((nI 2)))) 1 ((nI 2)))) 2 ((nI 3)))) 3 ((nI 3)))) 4 ((nI 3)))) 5 ((nI 4)))) 6 ((nI 4)))) 7 ((nI 4)))) 8 ((nI 1)))) 9 ((nI 2)))] H := hP
  have hD : va_D (gw_AA s) [gw_wz ra cR 10 gw_rw, gw_wz ma cM 10 (upd ((upd ((upd ((upd ((upd ((upd ((upd ((upd ((upd ((upd ((fun _ => 0)) 0 ((nI 2)))) 1 ((nI 2)))) 2 ((nI 3)))) 3 ((nI 3)))) 4 ((nI 3)))) 5 ((nI 4)))) 6 ((nI 4)))) 7 ((nI 4)))) 8 ((nI 1)))) 9 ((nI 2)))] := hD
  rw [gw_mn_eq] at hP hD
  refine lv_astore (lv' := [(9, .ref ma), (8, .ref ra), (0, .ref b)]) hx hb dX0_elder_437 hl (by decide) rfl (fun ls hl => ?_)
  refine lv_iconst (v := nI 0) hx hb dX0_elder_439 (by decide) ?_
  refine lv_istore (lv' := [(10, .int (nI 0)), (9, .ref ma), (8, .ref ra), (0, .ref b)]) hx hb dX0_elder_440 hl (by decide) rfl (fun ls hl => ?_)
  exact gw_el7 CC ra ma cR cM 11 0 (by omega) (by omega) H _ (hK.sub (tys' := [(cR, .int), (cM, .int)]) [0, 1] rfl) (hP.sub (ws' := [gw_wz ra cR 10 gw_rw, gw_wz ma cM 10 (fun j => nI (gw_mn j))]) [0, 1] rfl) (hD.sub (ws' := [gw_wz ra cR 10 gw_rw, gw_wz ma cM 10 (fun j => nI (gw_mn j))]) [0, 1] (by decide) rfl) hS ls (lv_sub hl [3, 2, 1, 0] rfl)
set_option maxHeartbeats 4000000 in
set_option maxRecDepth 100000 in
/-- elder, from 208: four stretches by table 3-7 -/
theorem gw_el5 {p : Program} {l : Launch} {e : Env} {s : State} {m : MethodId} {below : List Frame} {meth : Method} {c : Code} {D : va_G} {b L : Nat} {xs : Nat → Int32} (CC : gw_EC p s m meth c cX0_elder 12 b L xs) (x t : Nat) (cB : ClassId) (w : Nat) (cI : ClassId) (g : gw_G) (n : Nat) (hn : n ≤ 160) (H : Heap) (locs : List Loc) (hK : va_K D gw_Cl [(cB, .byte), (cI, .int)] s) (hP : va_P D gw_Cl [gw_wx x t n, gw_wb t cB g, gw_wi w cI 160 g] H) (hD : va_D (gw_AA s) [gw_wx x t n, gw_wb t cB g, gw_wi w cI 160 g]) (hS : va_S (gw_AA s) s.heap H locs) (ls : Array Slot) (hl : lv_has ls 12 [(0, .ref b), (1, .ref x), (2, .ref w), (3, .int (nI n))]) : W p l e (gw_R 3 28 49517 72) s m ([.ref b] : List Value).toArray below meth c H locs (4) (4419) (gw_EQ below ([.ref b] : List Value).toArray s 28 49517) (F0 m 208 ls []) := by
  obtain ⟨C0, hr, hlocks, hX, hbl, hL⟩ := id CC
  obtain ⟨hx, hb, hml, hown, hts⟩ := id C0
  have hA : ∀ q : Nat, s.heap.size ≤ q → gw_AA s q := fun _ h => h
  have hbA : ¬ gw_AA s b := Nat.not_le.mpr hbl
  have hu2 := gw_un_lt (gw_cv L xs 2)
  refine lv_aload_n hx hb dX0_elder_208 rfl (lv_at hl 0 rfl) ?_
  refine lv_iconst (v := nI 2) hx hb dX0_elder_209 (by decide) ?_
  refine gw_rS (n := 2) (As := [.ref b, .int (nI 2)]) (rest := []) C0 (gw_cell l b L 2 xs hL (by decide)) (lw_S q150 q151 q4 q152) (by decide +kernel) rfl rfl rfl ⟨Nat.le_of_ble_eq_true rfl, Nat.le_of_ble_eq_true rfl⟩ hl rfl (Nat.le_of_ble_eq_true rfl) dX0_elder_210 ⟨Nat.le_of_ble_eq_true rfl, Nat.le_of_ble_eq_true rfl⟩ gw_UXbl (gw_UXmk hX hbl hbA hS) ?_
  refine lv_ldc (v := (2147483647 : Int32)) hx hb hown (hts _ q153) dX0_elder_213 ?_
  refine gw_aM hx hb dX0_elder_215 ?_
  refine lv_iload_n hx hb dX0_elder_216 rfl (lv_at hl 3 rfl) ?_
  refine lv_iconst (v := nI 1) hx hb dX0_elder_217 (by decide) ?_
  refine gw_add hx hb dX0_elder_218 ?_
  refine gw_rem hx hb dX0_elder_219 (gw_ms_lt _) (by omega) (by omega) ?_
  obtain ⟨k, hk⟩ : ∃ k, k = gw_ms (gw_cv L xs 2) % (n + 1) := ⟨_, rfl⟩
  have hk2 : k ≤ n := by have := Nat.mod_lt (gw_ms (gw_cv L xs 2)) (show 0 < n + 1 by omega); omega
  refine gw_int (y := nI k) (by rw [hk]) ?_
  refine lv_istore (lv' := [(5, .int (nI k)), (0, .ref b), (1, .ref x), (2, .ref w), (3, .int (nI n))]) hx hb dX0_elder_220 hl (by decide) rfl (fun ls hl => ?_)
  refine lv_aload_n hx hb dX0_elder_222 rfl (lv_at hl 1 rfl) ?_
  refine lv_iconst (v := nI 2) hx hb dX0_elder_223 (by decide) ?_
  refine gw_rS (n := 2) (As := [.ref b, .int (nI 2)]) (rest := []) C0 (gw_cell l b L 2 xs hL (by decide)) (lw_S q150 q151 q4 q152) (by decide +kernel) rfl rfl rfl ⟨Nat.le_of_ble_eq_true rfl, Nat.le_of_ble_eq_true rfl⟩ hl rfl (Nat.le_of_ble_eq_true rfl) dX0_elder_224 ⟨Nat.le_of_ble_eq_true rfl, Nat.le_of_ble_eq_true rfl⟩ gw_UXbl (gw_UXmk hX hbl hbA hS) ?_
  refine lv_bipush (v := nI 8) hx hb dX0_elder_227 (by decide) ?_
  refine gw_ushr (r := gw_un (gw_cv L xs 2) / 256) hx hb dX0_elder_229 8 (by decide) rfl ?_
  refine lv_iload_n hx hb dX0_elder_230 rfl (lv_at hl 4 rfl) ?_
  refine lv_iconst (v := nI 1) hx hb dX0_elder_231 (by decide) ?_
  refine gw_add hx hb dX0_elder_232 ?_
  refine gw_rem hx hb dX0_elder_233 (by omega) (by omega) (by omega) ?_
  obtain ⟨f, hf⟩ : ∃ f, f = gw_un (gw_cv L xs 2) / 256 % (n + 1) := ⟨_, rfl⟩
  have hf2 : f ≤ n := by have := Nat.mod_lt (gw_un (gw_cv L xs 2) / 256) (show 0 < n + 1 by omega); omega
  refine gw_int (y := nI f) (by rw [hf]) ?_
  refine lv_istore (lv' := [(6, .int (nI f)), (5, .int (nI k)), (0, .ref b), (1, .ref x), (2, .ref w), (3, .int (nI n))]) hx hb dX0_elder_234 hl (by decide) rfl (fun ls hl => ?_)
  refine lv_aload_n hx hb dX0_elder_236 rfl (lv_at hl 2 rfl) ?_
  refine lv_iconst (v := nI 2) hx hb dX0_elder_237 (by decide) ?_
  refine gw_rS (n := 2) (As := [.ref b, .int (nI 2)]) (rest := []) C0 (gw_cell l b L 2 xs hL (by decide)) (lw_S q150 q151 q4 q152) (by decide +kernel) rfl rfl rfl ⟨Nat.le_of_ble_eq_true rfl, Nat.le_of_ble_eq_true rfl⟩ hl rfl (Nat.le_of_ble_eq_true rfl) dX0_elder_238 ⟨Nat.le_of_ble_eq_true rfl, Nat.le_of_ble_eq_true rfl⟩ gw_UXbl (gw_UXmk hX hbl hbA hS) ?_
  refine lv_bipush (v := nI 16) hx hb dX0_elder_241 (by decide) ?_
  refine gw_ushr (r := gw_un (gw_cv L xs 2) / 65536) hx hb dX0_elder_243 16 (by decide) rfl ?_
  refine lv_iload_n hx hb dX0_elder_244 rfl (lv_at hl 5 rfl) ?_
  refine lv_iload hx hb dX0_elder_245 (lv_at hl 0 rfl) ?_
  refine gw_sub hx hb dX0_elder_247 (by omega) ?_
  refine lv_iconst (v := nI 1) hx hb dX0_elder_248 (by decide) ?_
  refine gw_add hx hb dX0_elder_249 ?_
  refine gw_rem hx hb dX0_elder_250 (by omega) (by omega) (by omega) ?_
  obtain ⟨q, hq⟩ : ∃ q, q = gw_un (gw_cv L xs 2) / 65536 % (n - f + 1) := ⟨_, rfl⟩
  have hq2 : q ≤ n - f := by have := Nat.mod_lt (gw_un (gw_cv L xs 2) / 65536) (show 0 < n - f + 1 by omega); omega
  refine gw_int (y := nI q) (by rw [hq]) ?_
  refine lv_istore (lv' := [(7, .int (nI q)), (6, .int (nI f)), (5, .int (nI k)), (0, .ref b), (1, .ref x), (2, .ref w), (3, .int (nI n))]) hx hb dX0_elder_251 hl (by decide) rfl (fun ls hl => ?_)
  refine lv_aload_n hx hb dX0_elder_253 rfl (lv_at hl 4 rfl) ?_
  refine lv_iconst (v := nI 0) hx hb dX0_elder_254 (by decide) ?_
  refine lv_iload_n hx hb dX0_elder_255 rfl (lv_at hl 6 rfl) ?_
  refine gw_rV (n := 2) (As := [.int (nI 0), .int (nI n)]) (rest := []) C0 (gw_fair l D x t cB n g (nI 0) (nI n) (by omega)) (lw_V q66 q67 q68 q5 q69) (by decide +kernel) rfl rfl rfl ⟨Nat.le_of_ble_eq_true rfl, Nat.le_of_ble_eq_true rfl⟩ hl rfl (Nat.le_of_ble_eq_true rfl) dX0_elder_256 ⟨Nat.le_of_ble_eq_true rfl, Nat.le_of_ble_eq_true rfl⟩ (va_recv hK hP (ci := 0) (q0 := 0) rfl rfl) gw_Ubl (gw_Umk (hP.sub (ws' := [gw_wx x t n, gw_wb t cB g]) [0, 1] rfl) (hK.sub (tys' := [(cB, .byte)]) [0] rfl)) ?_
  refine gw_int (y := nI (gw_tf (gw_wf g 0 n))) (by rw [gw_frN (n := n) (a := 0) (k := n) (e := n) (by omega) (by omega) (by omega) (by omega)]) ?_
  refine lv_aload_n hx hb dX0_elder_259 rfl (lv_at hl 5 rfl) ?_
  refine lv_iconst (v := nI 0) hx hb dX0_elder_260 (by decide) ?_
  refine lv_iload_n hx hb dX0_elder_261 rfl (lv_at hl 6 rfl) ?_
  refine gw_rS (n := 3) (As := [.ref w, .int (nI 0), .int (nI n)]) (rest := [.int (nI (gw_tf (gw_wf g 0 n)))]) C0 (gw_own l D w cI 160 g 0 n (by omega) (by decide) (by omega)) (lw_S q154 q155 q4 q156) (by decide +kernel) rfl rfl rfl ⟨Nat.le_of_ble_eq_true rfl, Nat.le_of_ble_eq_true rfl⟩ hl rfl (Nat.le_of_ble_eq_true rfl) dX0_elder_262 ⟨Nat.le_of_ble_eq_true rfl, Nat.le_of_ble_eq_true rfl⟩ gw_Ubl (gw_Umk (hP.sub (ws' := [gw_wi w cI 160 g]) [2] rfl) (hK.sub (tys' := [(cI, .int)]) [1] rfl)) ?_
  refine gw_c_ne (tgt := 327) hx hb dX0_elder_265 (by decide) (Nat.lt_trans (gw_tf_lt _) (by decide)) (Nat.lt_trans (gw_tf_lt _) (by decide)) (fun h => (h rfl).elim) (fun _ => ?_)
  refine lv_aload_n hx hb dX0_elder_268 rfl (lv_at hl 4 rfl) ?_
  refine lv_iconst (v := nI 0) hx hb dX0_elder_269 (by decide) ?_
  refine lv_iload hx hb dX0_elder_270 (lv_at hl 2 rfl) ?_
  refine gw_rV (n := 2) (As := [.int (nI 0), .int (nI k)]) (rest := []) C0 (gw_fair l D x t cB n g (nI 0) (nI k) (by omega)) (lw_V q66 q67 q68 q5 q69) (by decide +kernel) rfl rfl rfl ⟨Nat.le_of_ble_eq_true rfl, Nat.le_of_ble_eq_true rfl⟩ hl rfl (Nat.le_of_ble_eq_true rfl) dX0_elder_272 ⟨Nat.le_of_ble_eq_true rfl, Nat.le_of_ble_eq_true rfl⟩ (va_recv hK hP (ci := 0) (q0 := 0) rfl rfl) gw_Ubl (gw_Umk (hP.sub (ws' := [gw_wx x t n, gw_wb t cB g]) [0, 1] rfl) (hK.sub (tys' := [(cB, .byte)]) [0] rfl)) ?_
  refine gw_int (y := nI (gw_tf (gw_wf g 0 k))) (by rw [gw_frN (n := n) (a := 0) (k := k) (e := k) (by omega) (by omega) (by omega) (by omega)]) ?_
  refine lv_aload_n hx hb dX0_elder_275 rfl (lv_at hl 5 rfl) ?_
  refine lv_iconst (v := nI 0) hx hb dX0_elder_276 (by decide) ?_
  refine lv_iload hx hb dX0_elder_277 (lv_at hl 2 rfl) ?_
  refine gw_rS (n := 3) (As := [.ref w, .int (nI 0), .int (nI k)]) (rest := [.int (nI (gw_tf (gw_wf g 0 k)))]) C0 (gw_own l D w cI 160 g 0 k (by omega) (by decide) (by omega)) (lw_S q154 q155 q4 q156) (by decide +kernel) rfl rfl rfl ⟨Nat.le_of_ble_eq_true rfl, Nat.le_of_ble_eq_true rfl⟩ hl rfl (Nat.le_of_ble_eq_true rfl) dX0_elder_279 ⟨Nat.le_of_ble_eq_true rfl, Nat.le_of_ble_eq_true rfl⟩ gw_Ubl (gw_Umk (hP.sub (ws' := [gw_wi w cI 160 g]) [2] rfl) (hK.sub (tys' := [(cI, .int)]) [1] rfl)) ?_
  refine gw_c_ne (tgt := 327) hx hb dX0_elder_282 (by decide) (Nat.lt_trans (gw_tf_lt _) (by decide)) (Nat.lt_trans (gw_tf_lt _) (by decide)) (fun h => (h rfl).elim) (fun _ => ?_)
  refine lv_aload_n hx hb dX0_elder_285 rfl (lv_at hl 4 rfl) ?_
  refine lv_iload hx hb dX0_elder_286 (lv_at hl 2 rfl) ?_
  refine lv_iload_n hx hb dX0_elder_288 rfl (lv_at hl 6 rfl) ?_
  refine lv_iload hx hb dX0_elder_289 (lv_at hl 2 rfl) ?_
  refine gw_sub hx hb dX0_elder_291 (by omega) ?_
  refine gw_rV (n := 2) (As := [.int (nI k), .int (nI (n - k))]) (rest := []) C0 (gw_fair l D x t cB n g (nI k) (nI (n - k)) (by omega)) (lw_V q66 q67 q68 q5 q69) (by decide +kernel) rfl rfl rfl ⟨Nat.le_of_ble_eq_true rfl, Nat.le_of_ble_eq_true rfl⟩ hl rfl (Nat.le_of_ble_eq_true rfl) dX0_elder_292 ⟨Nat.le_of_ble_eq_true rfl, Nat.le_of_ble_eq_true rfl⟩ (va_recv hK hP (ci := 0) (q0 := 0) rfl rfl) gw_Ubl (gw_Umk (hP.sub (ws' := [gw_wx x t n, gw_wb t cB g]) [0, 1] rfl) (hK.sub (tys' := [(cB, .byte)]) [0] rfl)) ?_
  refine gw_int (y := nI (gw_tf (gw_wf g k n))) (by rw [gw_frN (n := n) (a := k) (k := n - k) (e := n) (by omega) (by omega) (by omega) (by omega)]) ?_
  refine lv_aload_n hx hb dX0_elder_295 rfl (lv_at hl 5 rfl) ?_
  refine lv_iload hx hb dX0_elder_296 (lv_at hl 2 rfl) ?_
  refine lv_iload_n hx hb dX0_elder_298 rfl (lv_at hl 6 rfl) ?_
  refine gw_rS (n := 3) (As := [.ref w, .int (nI k), .int (nI n)]) (rest := [.int (nI (gw_tf (gw_wf g k n)))]) C0 (gw_own l D w cI 160 g k n (by omega) (by decide) (by omega)) (lw_S q154 q155 q4 q156) (by decide +kernel) rfl rfl rfl ⟨Nat.le_of_ble_eq_true rfl, Nat.le_of_ble_eq_true rfl⟩ hl rfl (Nat.le_of_ble_eq_true rfl) dX0_elder_299 ⟨Nat.le_of_ble_eq_true rfl, Nat.le_of_ble_eq_true rfl⟩ gw_Ubl (gw_Umk (hP.sub (ws' := [gw_wi w cI 160 g]) [2] rfl) (hK.sub (tys' := [(cI, .int)]) [1] rfl)) ?_
  refine gw_c_ne (tgt := 327) hx hb dX0_elder_302 (by decide) (Nat.lt_trans (gw_tf_lt _) (by decide)) (Nat.lt_trans (gw_tf_lt _) (by decide)) (fun h => (h rfl).elim) (fun _ => ?_)
  refine lv_aload_n hx hb dX0_elder_305 rfl (lv_at hl 4 rfl) ?_
  refine lv_iload hx hb dX0_elder_306 (lv_at hl 1 rfl) ?_
  refine lv_iload hx hb dX0_elder_308 (lv_at hl 0 rfl) ?_
  refine gw_rV (n := 2) (As := [.int (nI f), .int (nI q)]) (rest := []) C0 (gw_fair l D x t cB n g (nI f) (nI q) (by omega)) (lw_V q66 q67 q68 q5 q69) (by decide +kernel) rfl rfl rfl ⟨Nat.le_of_ble_eq_true rfl, Nat.le_of_ble_eq_true rfl⟩ hl rfl (Nat.le_of_ble_eq_true rfl) dX0_elder_310 ⟨Nat.le_of_ble_eq_true rfl, Nat.le_of_ble_eq_true rfl⟩ (va_recv hK hP (ci := 0) (q0 := 0) rfl rfl) gw_Ubl (gw_Umk (hP.sub (ws' := [gw_wx x t n, gw_wb t cB g]) [0, 1] rfl) (hK.sub (tys' := [(cB, .byte)]) [0] rfl)) ?_
  refine gw_int (y := nI (gw_tf (gw_wf g f (f + q)))) (by rw [gw_frN (n := n) (a := f) (k := q) (e := f + q) (by omega) (by omega) (by omega) (by omega)]) ?_
  refine lv_aload_n hx hb dX0_elder_313 rfl (lv_at hl 5 rfl) ?_
  refine lv_iload hx hb dX0_elder_314 (lv_at hl 1 rfl) ?_
  refine lv_iload hx hb dX0_elder_316 (lv_at hl 1 rfl) ?_
  refine lv_iload hx hb dX0_elder_318 (lv_at hl 0 rfl) ?_
  refine gw_add hx hb dX0_elder_320 ?_
  refine gw_rS (n := 3) (As := [.ref w, .int (nI f), .int (nI (f + q))]) (rest := [.int (nI (gw_tf (gw_wf g f (f + q))))]) C0 (gw_own l D w cI 160 g f (f + q) (by omega) (by decide) (by omega)) (lw_S q154 q155 q4 q156) (by decide +kernel) rfl rfl rfl ⟨Nat.le_of_ble_eq_true rfl, Nat.le_of_ble_eq_true rfl⟩ hl rfl (Nat.le_of_ble_eq_true rfl) dX0_elder_321 ⟨Nat.le_of_ble_eq_true rfl, Nat.le_of_ble_eq_true rfl⟩ gw_Ubl (gw_Umk (hP.sub (ws' := [gw_wi w cI 160 g]) [2] rfl) (hK.sub (tys' := [(cI, .int)]) [1] rfl)) ?_
  refine gw_c_eq (tgt := 329) hx hb dX0_elder_324 (by decide) (Nat.lt_trans (gw_tf_lt _) (by decide)) (Nat.lt_trans (gw_tf_lt _) (by decide)) (fun _ => ?_) (fun h => (h rfl).elim)
  exact gw_el6 CC H _ (hK.sub (tys' := []) [] rfl) (hP.sub (ws' := []) [] rfl) (hD.sub (ws' := []) [] (by decide) rfl) hS ls (lv_sub hl [3] rfl)
set_option maxHeartbeats 4000000 in
set_option maxRecDepth 100000 in
/-- elder, from 150 -/
theorem gw_el4 {p : Program} {l : Launch} {e : Env} {s : State} {m : MethodId} {below : List Frame} {meth : Method} {c : Code} {D : va_G} {b L : Nat} {xs : Nat → Int32} (CC : gw_EC p s m meth c cX0_elder 12 b L xs) (x t : Nat) (cB : ClassId) (w : Nat) (cI : ClassId) (g : gw_G) (n : Nat) (hn : n ≤ 160) (H : Heap) (locs : List Loc) (hK : va_K D gw_Cl [(cB, .byte), (cI, .int)] s) (hP : va_P D gw_Cl [gw_wx x t n, gw_wb t cB g, gw_wi w cI 160 g] H) (hD : va_D (gw_AA s) [gw_wx x t n, gw_wb t cB g, gw_wi w cI 160 g]) (hS : va_S (gw_AA s) s.heap H locs) (ls : Array Slot) (hl : lv_has ls 12 [(0, .ref b), (1, .ref x), (2, .ref w), (3, .int (nI n))]) : W p l e (gw_R 3 28 49517 72) s m ([.ref b] : List Value).toArray below meth c H locs (4) (4419) (gw_EQ below ([.ref b] : List Value).toArray s 28 49517) (F0 m 150 ls []) := by
  obtain ⟨C0, hr, hlocks, hX, hbl, hL⟩ := id CC
  obtain ⟨hx, hb, hml, hown, hts⟩ := id C0
  have hA : ∀ q : Nat, s.heap.size ≤ q → gw_AA s q := fun _ h => h
  have hbA : ¬ gw_AA s b := Nat.not_le.mpr hbl
  refine lv_aload_n hx hb dX0_elder_150 rfl (lv_at hl 0 rfl) ?_
  refine lv_iconst (v := nI 0) hx hb dX0_elder_151 (by decide) ?_
  refine gw_rS (n := 2) (As := [.ref b, .int (nI 0)]) (rest := []) C0 (gw_cell l b L 0 xs hL (by decide)) (lw_S q150 q151 q4 q152) (by decide +kernel) rfl rfl rfl ⟨Nat.le_of_ble_eq_true rfl, Nat.le_of_ble_eq_true rfl⟩ hl rfl (Nat.le_of_ble_eq_true rfl) dX0_elder_152 ⟨Nat.le_of_ble_eq_true rfl, Nat.le_of_ble_eq_true rfl⟩ gw_UXbl (gw_UXmk hX hbl hbA hS) ?_
  refine lv_iconst (v := nI 1) hx hb dX0_elder_155 (by decide) ?_
  refine gw_and (r := gw_un (gw_cv L xs 0) % 2) hx hb dX0_elder_156 1 (by decide) rfl ?_
  refine lv_iconst (v := nI 1) hx hb dX0_elder_157 (by decide) ?_
  refine gw_c_ne (tgt := 208) hx hb dX0_elder_158 (by decide) (by omega) (by omega) (fun h158 => ?_) (fun h158 => ?_)
  · exact gw_el5 CC x t cB w cI g n hn H _ (hK.sub (tys' := [(cB, .byte), (cI, .int)]) [0, 1] rfl) (hP.sub (ws' := [gw_wx x t n, gw_wb t cB g, gw_wi w cI 160 g]) [0, 1, 2] rfl) (hD.sub (ws' := [gw_wx x t n, gw_wb t cB g, gw_wi w cI 160 g]) [0, 1, 2] (by decide) rfl) hS ls (lv_sub hl [0, 1, 2, 3] rfl)
  · refine lv_iload_n hx hb dX0_elder_161 rfl (lv_at hl 3 rfl) ?_
    refine gw_z_le (tgt := 208) hx hb dX0_elder_162 (by decide) (by omega) (fun h162 => ?_) (fun h162 => ?_)
    · exact gw_el5 CC x t cB w cI g n hn H _ (hK.sub (tys' := [(cB, .byte), (cI, .int)]) [0, 1] rfl) (hP.sub (ws' := [gw_wx x t n, gw_wb t cB g, gw_wi w cI 160 g]) [0, 1, 2] rfl) (hD.sub (ws' := [gw_wx x t n, gw_wb t cB g, gw_wi w cI 160 g]) [0, 1, 2] (by decide) rfl) hS ls (lv_sub hl [0, 1, 2, 3] rfl)
    · refine lv_aload_n hx hb dX0_elder_165 rfl (lv_at hl 0 rfl) ?_
      refine lv_iconst (v := nI 0) hx hb dX0_elder_166 (by decide) ?_
      refine gw_rS (n := 2) (As := [.ref b, .int (nI 0)]) (rest := []) C0 (gw_cell l b L 0 xs hL (by decide)) (lw_S q150 q151 q4 q152) (by decide +kernel) rfl rfl rfl ⟨Nat.le_of_ble_eq_true rfl, Nat.le_of_ble_eq_true rfl⟩ hl rfl (Nat.le_of_ble_eq_true rfl) dX0_elder_167 ⟨Nat.le_of_ble_eq_true rfl, Nat.le_of_ble_eq_true rfl⟩ gw_UXbl (gw_UXmk hX hbl hbA hS) ?_
      refine lv_iconst (v := nI 1) hx hb dX0_elder_170 (by decide) ?_
      refine lv_ishr hx hb dX0_elder_171 ?_
      refine lv_ldc (v := (2147483647 : Int32)) hx hb hown (hts _ q153) dX0_elder_172 ?_
      refine gw_aM hx hb dX0_elder_174 ?_
      refine lv_iload_n hx hb dX0_elder_175 rfl (lv_at hl 3 rfl) ?_
      refine gw_rem hx hb dX0_elder_176 (gw_ms_lt _) h162 (by omega) ?_
      obtain ⟨a, ha⟩ : ∃ a, a = gw_ms ((gw_cv L xs 0) >>> (nI 1 &&& 31)) % n := ⟨_, rfl⟩
      have ha2 : a < n := by rw [ha]; exact Nat.mod_lt _ h162
      refine gw_int (y := nI a) (by rw [ha]) ?_
      refine lv_istore (lv' := [(5, .int (nI a)), (0, .ref b), (1, .ref x), (2, .ref w), (3, .int (nI n))]) hx hb dX0_elder_177 hl (by decide) rfl (fun ls hl => ?_)
      refine lv_aload_n hx hb dX0_elder_179 rfl (lv_at hl 2 rfl) ?_
      refine lv_aload_n hx hb dX0_elder_180 rfl (lv_at hl 1 rfl) ?_
      refine lv_iconst (v := nI 0) hx hb dX0_elder_181 (by decide) ?_
      refine gw_rS (n := 2) (As := [.ref b, .int (nI 0)]) (rest := [.ref x]) C0 (gw_cell l b L 0 xs hL (by decide)) (lw_S q150 q151 q4 q152) (by decide +kernel) rfl rfl rfl ⟨Nat.le_of_ble_eq_true rfl, Nat.le_of_ble_eq_true rfl⟩ hl rfl (Nat.le_of_ble_eq_true rfl) dX0_elder_182 ⟨Nat.le_of_ble_eq_true rfl, Nat.le_of_ble_eq_true rfl⟩ gw_UXbl (gw_UXmk hX hbl hbA hS) ?_
      refine lv_iconst (v := nI 1) hx hb dX0_elder_185 (by decide) ?_
      refine lv_ishr hx hb dX0_elder_186 ?_
      refine lv_aload_n hx hb dX0_elder_187 rfl (lv_at hl 1 rfl) ?_
      refine lv_iconst (v := nI 1) hx hb dX0_elder_188 (by decide) ?_
      refine gw_rS (n := 2) (As := [.ref b, .int (nI 1)]) (rest := [.int ((gw_cv L xs 0) >>> (nI 1 &&& 31)), .ref x]) C0 (gw_cell l b L 1 xs hL (by decide)) (lw_S q150 q151 q4 q152) (by decide +kernel) rfl rfl rfl ⟨Nat.le_of_ble_eq_true rfl, Nat.le_of_ble_eq_true rfl⟩ hl rfl (Nat.le_of_ble_eq_true rfl) dX0_elder_189 ⟨Nat.le_of_ble_eq_true rfl, Nat.le_of_ble_eq_true rfl⟩ gw_UXbl (gw_UXmk hX hbl hbA hS) ?_
      refine gw_wV (n := 2) (As := [.int ((gw_cv L xs 0) >>> (nI 1 &&& 31)), .int (gw_cv L xs 1)]) (rest := []) (wc := [gw_wx x t n, gw_wb t cB g]) (wr := [gw_wi w cI 160 g]) (wF := [gw_wx x t n, gw_wb t cB (gw_st g (gw_ms (((gw_cv L xs 0) >>> (nI 1 &&& 31))) % n) (gw_bt (gw_cv L xs 1))), gw_wi w cI 160 g]) (tc := [(cB, .byte)]) [0, 1] [2] [1, 2, 0] [0] C0 (gw_sign l D x t cB n g H.size (((gw_cv L xs 0) >>> (nI 1 &&& 31))) (gw_cv L xs 1) h162 (by omega)) (lw_V q45 q46 q47 q5 q48) (by decide +kernel) rfl rfl rfl ⟨Nat.le_of_ble_eq_true rfl, Nat.le_of_ble_eq_true rfl⟩ hl rfl (Nat.le_of_ble_eq_true rfl) dX0_elder_192 ⟨Nat.le_of_ble_eq_true rfl, Nat.le_of_ble_eq_true rfl⟩ (va_recv hK hP (ci := 0) (q0 := 0) rfl rfl) hK hP hD hS hA rfl rfl (by decide) rfl (by decide) (by decide) rfl rfl rfl (by decide) (fun H locs hP hD hS => ?_)
      refine W.widen (k := 4) (n := 4419) (Nat.le_refl _) (Nat.le_refl _) ?_
      have hm : gw_ms (((gw_cv L xs 0) >>> (nI 1 &&& 31))) % n = a := ha.symm
      rw [hm] at hP hD
      have hP : va_P D gw_Cl [gw_wx x t n, gw_wb t cB (gw_st g a (gw_bt (gw_cv L xs 1))), gw_wi w cI 160 g] H := hP
      have hD : va_D (gw_AA s) [gw_wx x t n, gw_wb t cB (gw_st g a (gw_bt (gw_cv L xs 1))), gw_wi w cI 160 g] := hD
      refine lv_aload_n hx hb dX0_elder_195 rfl (lv_at hl 3 rfl) ?_
      refine lv_iload hx hb dX0_elder_196 (lv_at hl 0 rfl) ?_
      refine lv_aload_n hx hb dX0_elder_198 rfl (lv_at hl 1 rfl) ?_
      refine lv_iconst (v := nI 1) hx hb dX0_elder_199 (by decide) ?_
      refine gw_rS (n := 2) (As := [.ref b, .int (nI 1)]) (rest := [.int (nI a), .ref w]) C0 (gw_cell l b L 1 xs hL (by decide)) (lw_S q150 q151 q4 q152) (by decide +kernel) rfl rfl rfl ⟨Nat.le_of_ble_eq_true rfl, Nat.le_of_ble_eq_true rfl⟩ hl rfl (Nat.le_of_ble_eq_true rfl) dX0_elder_200 ⟨Nat.le_of_ble_eq_true rfl, Nat.le_of_ble_eq_true rfl⟩ gw_UXbl (gw_UXmk hX hbl hbA hS) ?_
      refine lv_sipush (v := nI 255) hx hb dX0_elder_203 (by decide) ?_
      refine gw_a255 hx hb dX0_elder_206 ?_
      refine gw_ist (k := a) (g := g) (v := (gw_bt (gw_cv L xs 1))) hx hb hK hP hD hS 2 1 rfl rfl (by omega) (by omega) dX0_elder_207 (fun H locs hP hD hS => ?_)
      have hP : va_P D gw_Cl [gw_wx x t n, gw_wb t cB (gw_st g a (gw_bt (gw_cv L xs 1))), gw_wi w cI 160 (gw_st g a ((gw_bt (gw_cv L xs 1))))] H := hP
      have hD : va_D (gw_AA s) [gw_wx x t n, gw_wb t cB (gw_st g a (gw_bt (gw_cv L xs 1))), gw_wi w cI 160 (gw_st g a ((gw_bt (gw_cv L xs 1))))] := hD
      exact gw_el5 CC x t cB w cI (gw_st g a (gw_bt (gw_cv L xs 1))) n hn H _ (hK.sub (tys' := [(cB, .byte), (cI, .int)]) [0, 1] rfl) (hP.sub (ws' := [gw_wx x t n, gw_wb t cB (gw_st g a (gw_bt (gw_cv L xs 1))), gw_wi w cI 160 (gw_st g a ((gw_bt (gw_cv L xs 1))))]) [0, 1, 2] rfl) (hD.sub (ws' := [gw_wx x t n, gw_wb t cB (gw_st g a (gw_bt (gw_cv L xs 1))), gw_wi w cI 160 (gw_st g a ((gw_bt (gw_cv L xs 1))))]) [0, 1, 2] (by decide) rfl) hS ls (lv_sub hl [1, 2, 3, 4] rfl)
set_option maxHeartbeats 4000000 in
set_option maxRecDepth 100000 in
/-- elder, the loop at 121: the beginnings that end where a letter ends -/
theorem gw_el3 {p : Program} {l : Launch} {e : Env} {s : State} {m : MethodId} {below : List Frame} {meth : Method} {c : Code} {D : va_G} {b L : Nat} {xs : Nat → Int32} (CC : gw_EC p s m meth c cX0_elder 12 b L xs) (x t : Nat) (cB : ClassId) (w : Nat) (cI : ClassId) (z : Nat) (cZ : ClassId) (g : gw_G) (n0 : Nat) (hn0 : n0 ≤ 160) : ∀ (n : Nat) (i : Nat), n0 + 1 < i + n → i ≤ n0 + 1 → ∀ (H : Heap) (locs : List Loc) (hK : va_K D gw_Cl [(cB, .byte), (cI, .int), (cZ, .boolean)] s) (hP : va_P D gw_Cl [gw_wx x t n0, gw_wb t cB g, gw_wi w cI 160 g, gw_wz z cZ 161 (gw_ed g n0)] H) (hD : va_D (gw_AA s) [gw_wx x t n0, gw_wb t cB g, gw_wi w cI 160 g, gw_wz z cZ 161 (gw_ed g n0)]) (hS : va_S (gw_AA s) s.heap H locs) (ls : Array Slot) (hl : lv_has ls 12 [(0, .ref b), (1, .ref x), (2, .ref w), (3, .int (nI n0)), (4, .ref z), (5, .int (nI i))]), W p l e (gw_R 3 28 49517 72) s m ([.ref b] : List Value).toArray below meth c H locs (4) (4419) (gw_EQ below ([.ref b] : List Value).toArray s 28 49517) (F0 m 121 ls []) := by
  obtain ⟨C0, hr, hlocks, hX, hbl, hL⟩ := id CC
  obtain ⟨hx, hb, hml, hown, hts⟩ := id C0
  have hA : ∀ q : Nat, s.heap.size ≤ q → gw_AA s q := fun _ h => h
  have hbA : ¬ gw_AA s b := Nat.not_le.mpr hbl
  intro n
  induction n with
  | zero =>
    intro i hn hi H locs hK hP hD hS ls hl
    exact absurd hn (by omega)
  | succ n ih =>
    intro i hn hi H locs hK hP hD hS ls hl
    refine lv_iload hx hb dX0_elder_121 (lv_at hl 5 rfl) ?_
    refine lv_iload_n hx hb dX0_elder_123 rfl (lv_at hl 3 rfl) ?_
    refine gw_c_gt (tgt := 150) hx hb dX0_elder_124 (by decide) (by omega) (by omega) (fun h124 => ?_) (fun h124 => ?_)
    · exact gw_el4 CC x t cB w cI g n0 hn0 H _ (hK.sub (tys' := [(cB, .byte), (cI, .int)]) [0, 1] rfl) (hP.sub (ws' := [gw_wx x t n0, gw_wb t cB g, gw_wi w cI 160 g]) [0, 1, 2] rfl) (hD.sub (ws' := [gw_wx x t n0, gw_wb t cB g, gw_wi w cI 160 g]) [0, 1, 2] (by decide) rfl) hS ls (lv_sub hl [0, 1, 2, 3] rfl)
    · refine lv_aload_n hx hb dX0_elder_127 rfl (lv_at hl 1 rfl) ?_
      refine lv_iconst (v := nI 0) hx hb dX0_elder_128 (by decide) ?_
      refine lv_iload hx hb dX0_elder_129 (lv_at hl 5 rfl) ?_
      refine gw_rV (n := 2) (As := [.int (nI 0), .int (nI i)]) (rest := []) C0 (gw_fair l D x t cB n0 g (nI 0) (nI i) (by omega)) (lw_V q66 q67 q68 q5 q69) (by decide +kernel) rfl rfl rfl ⟨Nat.le_of_ble_eq_true rfl, Nat.le_of_ble_eq_true rfl⟩ hl rfl (Nat.le_of_ble_eq_true rfl) dX0_elder_131 ⟨Nat.le_of_ble_eq_true rfl, Nat.le_of_ble_eq_true rfl⟩ (va_recv hK hP (ci := 0) (q0 := 0) rfl rfl) gw_Ubl (gw_Umk (hP.sub (ws' := [gw_wx x t n0, gw_wb t cB g]) [0, 1] rfl) (hK.sub (tys' := [(cB, .byte)]) [0] rfl)) ?_
      refine gw_int (y := nI (gw_tf (gw_wf g 0 i))) (by rw [gw_frN (n := n0) (a := 0) (k := i) (e := i) (by omega) (by omega) (by omega) (by omega)]) ?_
      refine lv_aload hx hb dX0_elder_134 (lv_at hl 4 rfl) ?_
      refine lv_iload hx hb dX0_elder_136 (lv_at hl 5 rfl) ?_
      refine gw_zld (k := i) (f := (gw_ed g n0)) hx hb hK hP 3 2 rfl rfl (by omega) (by decide) dX0_elder_138 ?_
      refine gw_int (y := (nI (gw_tf (gw_wf g 0 i)))) (gw_ed_in h124) ?_
      refine gw_c_eq (tgt := 144) hx hb dX0_elder_139 (by decide) (Nat.lt_trans (gw_tf_lt _) (by decide)) (Nat.lt_trans (gw_tf_lt _) (by decide)) (fun _ => ?_) (fun h => (h rfl).elim)
      refine lv_iinc (v := nI (i + 1)) (lv' := [(5, .int (nI (i + 1))), (0, .ref b), (1, .ref x), (2, .ref w), (3, .int (nI n0)), (4, .ref z)]) hx hb dX0_elder_144 hl (k := 5) rfl (by exact nI_1 _) (by decide) rfl (fun ls hl => ?_)
      refine lv_goto (tgt := 121) hx hb dX0_elder_147 (by decide) ?_
      exact ih (i + 1) (by omega) (by omega) H _ (hK.sub (tys' := [(cB, .byte), (cI, .int), (cZ, .boolean)]) [0, 1, 2] rfl) (hP.sub (ws' := [gw_wx x t n0, gw_wb t cB g, gw_wi w cI 160 g, gw_wz z cZ 161 (gw_ed g n0)]) [0, 1, 2, 3] rfl) (hD.sub (ws' := [gw_wx x t n0, gw_wb t cB g, gw_wi w cI 160 g, gw_wz z cZ 161 (gw_ed g n0)]) [0, 1, 2, 3] (by decide) rfl) hS ls (lv_sub hl [1, 2, 3, 4, 5, 0] rfl)
set_option maxHeartbeats 4000000 in
set_option maxRecDepth 100000 in
/-- elder, from 94 -/
theorem gw_el2 {p : Program} {l : Launch} {e : Env} {s : State} {m : MethodId} {below : List Frame} {meth : Method} {c : Code} {D : va_G} {b L : Nat} {xs : Nat → Int32} (CC : gw_EC p s m meth c cX0_elder 12 b L xs) (x t : Nat) (cB : ClassId) (w : Nat) (cI : ClassId) (z : Nat) (cZ : ClassId) (g : gw_G) (n : Nat) (hn : n ≤ 160) (hw : gw_wf g 0 n = true) (H : Heap) (locs : List Loc) (hK : va_K D gw_Cl [(cB, .byte), (cI, .int), (cZ, .boolean)] s) (hP : va_P D gw_Cl [gw_wx x t 160, gw_wb t cB g, gw_wi w cI 160 g, gw_wz z cZ 161 (gw_ed g n)] H) (hD : va_D (gw_AA s) [gw_wx x t 160, gw_wb t cB g, gw_wi w cI 160 g, gw_wz z cZ 161 (gw_ed g n)]) (hS : va_S (gw_AA s) s.heap H locs) (ls : Array Slot) (hl : lv_has ls 12 [(0, .ref b), (1, .ref x), (2, .ref w), (3, .int (nI n)), (4, .ref z)]) : W p l e (gw_R 3 28 49517 72) s m ([.ref b] : List Value).toArray below meth c H locs (4) (4419) (gw_EQ below ([.ref b] : List Value).toArray s 28 49517) (F0 m 94 ls []) := by
  obtain ⟨C0, hr, hlocks, hX, hbl, hL⟩ := id CC
  obtain ⟨hx, hb, hml, hown, hts⟩ := id C0
  have hA : ∀ q : Nat, s.heap.size ≤ q → gw_AA s q := fun _ h => h
  have hbA : ¬ gw_AA s b := Nat.not_le.mpr hbl
  refine lv_aload_n hx hb dX0_elder_94 rfl (lv_at hl 1 rfl) ?_
  refine lv_iload_n hx hb dX0_elder_95 rfl (lv_at hl 3 rfl) ?_
  refine gw_wV (n := 1) (As := [.int (nI n)]) (rest := []) (wc := [gw_wx x t 160]) (wr := [gw_wb t cB g, gw_wi w cI 160 g, gw_wz z cZ 161 (gw_ed g n)]) (wF := [gw_wx x t (gw_ms (nI n) % (160 + 1)), gw_wb t cB g, gw_wi w cI 160 g, gw_wz z cZ 161 (gw_ed g n)]) (tc := []) [0] [1, 2, 3] [3, 0, 1, 2] [] C0 (gw_trim l D x t 160 H.size (nI n) (by omega)) (lw_V q54 q55 q56 q5 q57) (by decide +kernel) rfl rfl rfl ⟨Nat.le_of_ble_eq_true rfl, Nat.le_of_ble_eq_true rfl⟩ hl rfl (Nat.le_of_ble_eq_true rfl) dX0_elder_96 ⟨Nat.le_of_ble_eq_true rfl, Nat.le_of_ble_eq_true rfl⟩ (va_recv hK hP (ci := 0) (q0 := 0) rfl rfl) hK hP hD hS hA rfl rfl (by decide) rfl (by decide) (by decide) rfl rfl rfl (by decide) (fun H locs hP hD hS => ?_)
  refine W.widen (k := 4) (n := 4419) (Nat.le_refl _) (Nat.le_refl _) ?_
  have hm : gw_ms (nI n) % (160 + 1) = n := (by rw [gw_ms_nI (by omega)]; omega)
  rw [hm] at hP hD
  have hP : va_P D gw_Cl [gw_wx x t n, gw_wb t cB g, gw_wi w cI 160 g, gw_wz z cZ 161 (gw_ed g n)] H := hP
  have hD : va_D (gw_AA s) [gw_wx x t n, gw_wb t cB g, gw_wi w cI 160 g, gw_wz z cZ 161 (gw_ed g n)] := hD
  refine lv_aload_n hx hb dX0_elder_99 rfl (lv_at hl 1 rfl) ?_
  refine gw_rV (n := 0) (As := []) (rest := []) C0 (gw_size l D x t n) (lw_V q62 q63 q64 q5 q65) (by decide +kernel) rfl rfl rfl ⟨Nat.le_of_ble_eq_true rfl, Nat.le_of_ble_eq_true rfl⟩ hl rfl (Nat.le_of_ble_eq_true rfl) dX0_elder_100 ⟨Nat.le_of_ble_eq_true rfl, Nat.le_of_ble_eq_true rfl⟩ (va_recv hK hP (ci := 0) (q0 := 0) rfl rfl) gw_Ubl (gw_Umk (hP.sub (ws' := [gw_wx x t n]) [0] rfl) (hK.sub (tys' := []) [] rfl)) ?_
  refine lv_iload_n hx hb dX0_elder_103 rfl (lv_at hl 3 rfl) ?_
  refine gw_c_ne (tgt := 116) hx hb dX0_elder_104 (by decide) (by omega) (by omega) (fun h => (h rfl).elim) (fun _ => ?_)
  refine lv_aload_n hx hb dX0_elder_107 rfl (lv_at hl 1 rfl) ?_
  refine lv_iconst (v := nI 0) hx hb dX0_elder_108 (by decide) ?_
  refine lv_iload_n hx hb dX0_elder_109 rfl (lv_at hl 3 rfl) ?_
  refine gw_rV (n := 2) (As := [.int (nI 0), .int (nI n)]) (rest := []) C0 (gw_fair l D x t cB n g (nI 0) (nI n) (by omega)) (lw_V q66 q67 q68 q5 q69) (by decide +kernel) rfl rfl rfl ⟨Nat.le_of_ble_eq_true rfl, Nat.le_of_ble_eq_true rfl⟩ hl rfl (Nat.le_of_ble_eq_true rfl) dX0_elder_110 ⟨Nat.le_of_ble_eq_true rfl, Nat.le_of_ble_eq_true rfl⟩ (va_recv hK hP (ci := 0) (q0 := 0) rfl rfl) gw_Ubl (gw_Umk (hP.sub (ws' := [gw_wx x t n, gw_wb t cB g]) [0, 1] rfl) (hK.sub (tys' := [(cB, .byte)]) [0] rfl)) ?_
  refine gw_int (y := nI (gw_tf (gw_wf g 0 n))) (by rw [gw_frN (n := n) (a := 0) (k := n) (e := n) (by omega) (by omega) (by omega) (by omega)]) ?_
  refine gw_int (y := nI (gw_tf true)) (congrArg (fun z => nI (gw_tf z)) hw) ?_
  refine gw_t_ne (tgt := 118) hx hb dX0_elder_113 (by decide) (fun h113 => ?_) (fun h113 => absurd h113 (by decide))
  refine lv_iconst (v := nI 0) hx hb dX0_elder_118 (by decide) ?_
  refine lv_istore (lv' := [(5, .int (nI 0)), (0, .ref b), (1, .ref x), (2, .ref w), (3, .int (nI n)), (4, .ref z)]) hx hb dX0_elder_119 hl (by decide) rfl (fun ls hl => ?_)
  exact gw_el3 CC x t cB w cI z cZ g n hn (n + 2) 0 (by omega) (by omega) H _ (hK.sub (tys' := [(cB, .byte), (cI, .int), (cZ, .boolean)]) [0, 1, 2] rfl) (hP.sub (ws' := [gw_wx x t n, gw_wb t cB g, gw_wi w cI 160 g, gw_wz z cZ 161 (gw_ed g n)]) [0, 1, 2, 3] rfl) (hD.sub (ws' := [gw_wx x t n, gw_wb t cB g, gw_wi w cI 160 g, gw_wz z cZ 161 (gw_ed g n)]) [0, 1, 2, 3] (by decide) rfl) hS ls (lv_sub hl [1, 2, 3, 4, 5, 0] rfl)
set_option maxHeartbeats 4000000 in
set_option maxRecDepth 100000 in
/-- elder, the loop at 58: the letters -/
theorem gw_el1 {p : Program} {l : Launch} {e : Env} {s : State} {m : MethodId} {below : List Frame} {meth : Method} {c : Code} {D : va_G} {b L : Nat} {xs : Nat → Int32} (CC : gw_EC p s m meth c cX0_elder 12 b L xs) (x t : Nat) (cB : ClassId) (w : Nat) (cI : ClassId) (z : Nat) (cZ : ClassId) : ∀ (n : Nat) (k a : Nat) (g : gw_G), 41 < k + n → k ≤ 41 → a ≤ 160 → gw_wf g 0 a = true → ∀ (H : Heap) (locs : List Loc) (hK : va_K D gw_Cl [(cB, .byte), (cI, .int), (cZ, .boolean)] s) (hP : va_P D gw_Cl [gw_wx x t 160, gw_wb t cB g, gw_wi w cI 160 g, gw_wz z cZ 161 (gw_ed g a)] H) (hD : va_D (gw_AA s) [gw_wx x t 160, gw_wb t cB g, gw_wi w cI 160 g, gw_wz z cZ 161 (gw_ed g a)]) (hS : va_S (gw_AA s) s.heap H locs) (ls : Array Slot) (hl : lv_has ls 12 [(0, .ref b), (1, .ref x), (2, .ref w), (3, .int (nI a)), (4, .ref z), (5, .int (nI k))]), W p l e (gw_R 3 28 49517 72) s m ([.ref b] : List Value).toArray below meth c H locs (4) (4419) (gw_EQ below ([.ref b] : List Value).toArray s 28 49517) (F0 m 58 ls []) := by
  obtain ⟨C0, hr, hlocks, hX, hbl, hL⟩ := id CC
  obtain ⟨hx, hb, hml, hown, hts⟩ := id C0
  have hA : ∀ q : Nat, s.heap.size ≤ q → gw_AA s q := fun _ h => h
  have hbA : ¬ gw_AA s b := Nat.not_le.mpr hbl
  intro n
  induction n with
  | zero =>
    intro k a g hn hk ha hw H locs hK hP hD hS ls hl
    exact absurd hn (by omega)
  | succ n ih =>
    intro k a g hn hk ha hw H locs hK hP hD hS ls hl
    refine lv_iload hx hb dX0_elder_58 (lv_at hl 5 rfl) ?_
    refine lv_aload_n hx hb dX0_elder_60 rfl (lv_at hl 0 rfl) ?_
    refine gw_slen hx hb hX hbl hbA hS dX0_elder_61 ?_
    refine gw_c_ge (tgt := 94) hx hb dX0_elder_62 (by decide) (by omega) (by omega) (fun h62 => ?_) (fun h62 => ?_)
    · exact gw_el2 CC x t cB w cI z cZ g a ha hw H _ (hK.sub (tys' := [(cB, .byte), (cI, .int), (cZ, .boolean)]) [0, 1, 2] rfl) (hP.sub (ws' := [gw_wx x t 160, gw_wb t cB g, gw_wi w cI 160 g, gw_wz z cZ 161 (gw_ed g a)]) [0, 1, 2, 3] rfl) (hD.sub (ws' := [gw_wx x t 160, gw_wb t cB g, gw_wi w cI 160 g, gw_wz z cZ 161 (gw_ed g a)]) [0, 1, 2, 3] (by decide) rfl) hS ls (lv_sub hl [0, 1, 2, 3, 4] rfl)
    · refine lv_iload_n hx hb dX0_elder_65 rfl (lv_at hl 3 rfl) ?_
      refine lv_sipush (v := nI 156) hx hb dX0_elder_66 (by decide) ?_
      refine gw_c_gt (tgt := 94) hx hb dX0_elder_69 (by decide) (by omega) (by omega) (fun h69 => ?_) (fun h69 => ?_)
      · exact gw_el2 CC x t cB w cI z cZ g a ha hw H _ (hK.sub (tys' := [(cB, .byte), (cI, .int), (cZ, .boolean)]) [0, 1, 2] rfl) (hP.sub (ws' := [gw_wx x t 160, gw_wb t cB g, gw_wi w cI 160 g, gw_wz z cZ 161 (gw_ed g a)]) [0, 1, 2, 3] rfl) (hD.sub (ws' := [gw_wx x t 160, gw_wb t cB g, gw_wi w cI 160 g, gw_wz z cZ 161 (gw_ed g a)]) [0, 1, 2, 3] (by decide) rfl) hS ls (lv_sub hl [0, 1, 2, 3, 4] rfl)
      · refine lv_aload_n hx hb dX0_elder_72 rfl (lv_at hl 1 rfl) ?_
        refine lv_aload_n hx hb dX0_elder_73 rfl (lv_at hl 2 rfl) ?_
        refine lv_iload_n hx hb dX0_elder_74 rfl (lv_at hl 3 rfl) ?_
        refine lv_aload_n hx hb dX0_elder_75 rfl (lv_at hl 0 rfl) ?_
        refine lv_iload hx hb dX0_elder_76 (lv_at hl 5 rfl) ?_
        refine gw_sld hx hb hX hbl hbA hS (by omega) (by omega) dX0_elder_78 ?_
        have hll : gw_ll (xs k) ≤ 4 := by unfold gw_ll; omega
        refine gw_wSi (n := 4) (As := [.ref x, .ref w, .int (nI a), .int (xs k)]) (rest := []) (wc := [gw_wx x t 160, gw_wb t cB g, gw_wi w cI 160 g]) (wr := [gw_wz z cZ 161 (gw_ed g a)]) (wF := [gw_wx x t 160, gw_wb t cB (gw_ly g a (xs k)), gw_wi w cI 160 (gw_ly g a (xs k)), gw_wz z cZ 161 (gw_ed g a)]) (tc := [(cB, .byte), (cI, .int)]) [0, 1, 2] [3] [1, 2, 3, 0] [0, 1] C0 (gw_lay l D x t cB 160 w cI 160 g H.size a (xs k) (by omega) (by omega) (by decide) (by decide)) (lw_S q39 q40 q4 q41) (by decide +kernel) rfl rfl rfl ⟨Nat.le_of_ble_eq_true rfl, Nat.le_of_ble_eq_true rfl⟩ hl rfl (Nat.le_of_ble_eq_true rfl) dX0_elder_79 ⟨Nat.le_of_ble_eq_true rfl, Nat.le_of_ble_eq_true rfl⟩ hK hP hD hS hA rfl rfl (by decide) rfl (by decide) (by decide) rfl rfl rfl (by decide) (fun H locs hP hD hS => ?_)
        refine W.widen (k := 4) (n := 4419) (Nat.le_refl _) (Nat.le_refl _) ?_
        refine lv_istore_n (lv' := [(3, .int (nI (a + gw_ll (xs k)))), (0, .ref b), (1, .ref x), (2, .ref w), (4, .ref z), (5, .int (nI k))]) hx hb dX0_elder_82 rfl hl (by decide) rfl (fun ls hl => ?_)
        refine lv_aload hx hb dX0_elder_83 (lv_at hl 4 rfl) ?_
        refine lv_iload_n hx hb dX0_elder_85 rfl (lv_at hl 0 rfl) ?_
        refine lv_iconst (v := nI 1) hx hb dX0_elder_86 (by decide) ?_
        refine gw_zput (k := a + gw_ll (xs k)) (f := (gw_ed g a)) hx hb hK hP hD hS 3 2 rfl rfl (by omega) (by decide) dX0_elder_87 (fun H locs hP hD hS => ?_)
        have hP : va_P D gw_Cl [gw_wx x t 160, gw_wb t cB (gw_ly g a (xs k)), gw_wi w cI 160 (gw_ly g a (xs k)), gw_wz z cZ 161 (upd ((gw_ed g a)) (a + gw_ll (xs k)) (nI 1))] H := hP
        have hD : va_D (gw_AA s) [gw_wx x t 160, gw_wb t cB (gw_ly g a (xs k)), gw_wi w cI 160 (gw_ly g a (xs k)), gw_wz z cZ 161 (upd ((gw_ed g a)) (a + gw_ll (xs k)) (nI 1))] := hD
        rw [gw_ed_lay hw] at hP hD
        have hP : va_P D gw_Cl [gw_wx x t 160, gw_wb t cB (gw_ly g a (xs k)), gw_wi w cI 160 (gw_ly g a (xs k)), gw_wz z cZ 161 (gw_ed (gw_ly g a (xs k)) (a + gw_ll (xs k)))] H := hP
        have hD : va_D (gw_AA s) [gw_wx x t 160, gw_wb t cB (gw_ly g a (xs k)), gw_wi w cI 160 (gw_ly g a (xs k)), gw_wz z cZ 161 (gw_ed (gw_ly g a (xs k)) (a + gw_ll (xs k)))] := hD
        refine lv_iinc (v := nI (k + 1)) (lv' := [(5, .int (nI (k + 1))), (3, .int (nI (a + gw_ll (xs k)))), (0, .ref b), (1, .ref x), (2, .ref w), (4, .ref z)]) hx hb dX0_elder_88 hl (k := 5) rfl (by exact nI_1 _) (by decide) rfl (fun ls hl => ?_)
        refine lv_goto (tgt := 58) hx hb dX0_elder_91 (by decide) ?_
        exact ih (k + 1) (a + gw_ll (xs k)) (gw_ly g a (xs k)) (by omega) (by omega) (by omega) (gw_ly_new hw) H _ (hK.sub (tys' := [(cB, .byte), (cI, .int), (cZ, .boolean)]) [0, 1, 2] rfl) (hP.sub (ws' := [gw_wx x t 160, gw_wb t cB (gw_ly g a (xs k)), gw_wi w cI 160 (gw_ly g a (xs k)), gw_wz z cZ 161 (gw_ed (gw_ly g a (xs k)) (a + gw_ll (xs k)))]) [0, 1, 2, 3] rfl) (hD.sub (ws' := [gw_wx x t 160, gw_wb t cB (gw_ly g a (xs k)), gw_wi w cI 160 (gw_ly g a (xs k)), gw_wz z cZ 161 (gw_ed (gw_ly g a (xs k)) (a + gw_ll (xs k)))]) [0, 1, 2, 3] (by decide) rfl) hS ls (lv_sub hl [2, 3, 4, 1, 5, 0] rfl)
set_option maxHeartbeats 4000000 in
set_option maxRecDepth 100000 in
/-- elder, from 41 -/
theorem gw_el0 {p : Program} {l : Launch} {e : Env} {s : State} {m : MethodId} {below : List Frame} {meth : Method} {c : Code} {D : va_G} {b L : Nat} {xs : Nat → Int32} (CC : gw_EC p s m meth c cX0_elder 12 b L xs) (x t : Nat) (cB : ClassId) (w : Nat) (cI : ClassId) (H : Heap) (locs : List Loc) (hK : va_K D gw_Cl [(cB, .byte), (cI, .int)] s) (hP : va_P D gw_Cl [gw_wx x t 160, gw_wb t cB (fun _ => 0), gw_wi w cI 160 (fun _ => 0)] H) (hD : va_D (gw_AA s) [gw_wx x t 160, gw_wb t cB (fun _ => 0), gw_wi w cI 160 (fun _ => 0)]) (hS : va_S (gw_AA s) s.heap H locs) (ls : Array Slot) (hl : lv_has ls 12 [(0, .ref b), (1, .ref x), (2, .ref w)]) : W p l e (gw_R 3 28 49517 72) s m ([.ref b] : List Value).toArray below meth c H locs (3) (4258) (gw_EQ below ([.ref b] : List Value).toArray s 28 49517) (F0 m 41 ls []) := by
  obtain ⟨C0, hr, hlocks, hX, hbl, hL⟩ := id CC
  obtain ⟨hx, hb, hml, hown, hts⟩ := id C0
  have hA : ∀ q : Nat, s.heap.size ≤ q → gw_AA s q := fun _ h => h
  have hbA : ¬ gw_AA s b := Nat.not_le.mpr hbl
  refine lv_iconst (v := nI 0) hx hb dX0_elder_41 (by decide) ?_
  refine lv_istore_n (lv' := [(3, .int (nI 0)), (0, .ref b), (1, .ref x), (2, .ref w)]) hx hb dX0_elder_42 rfl hl (by decide) rfl (fun ls hl => ?_)
  refine lv_sipush (v := nI 161) hx hb dX0_elder_43 (by decide) ?_
  refine va_newa (atype := .boolean) (ty := .boolean) (N' := 161) (a0 := (161, .inl (fun _ => 0))) hx hb (hts _ q146) rfl hK hP hD hS hA (fun cA => rfl) (by decide) (by decide) (by decide) (Nat.le_of_ble_eq_true rfl) (Nat.le_of_ble_eq_true rfl) dX0_elder_46 (fun z cZ H hK hP hD hS => ?_)
  have hP : va_P D gw_Cl [gw_wx x t 160, gw_wb t cB (fun _ => 0), gw_wi w cI 160 (fun _ => 0), gw_wz z cZ 161 (fun _ => 0)] H := hP
  have hD : va_D (gw_AA s) [gw_wx x t 160, gw_wb t cB (fun _ => 0), gw_wi w cI 160 (fun _ => 0), gw_wz z cZ 161 (fun _ => 0)] := hD
  have hK : va_K D gw_Cl [(cB, .byte), (cI, .int), (cZ, .boolean)] s := hK
  refine W.widen (k := 4) (n := 4419) (by omega) (by omega) ?_
  refine lv_astore (lv' := [(4, .ref z), (3, .int (nI 0)), (0, .ref b), (1, .ref x), (2, .ref w)]) hx hb dX0_elder_48 hl (by decide) rfl (fun ls hl => ?_)
  refine lv_aload hx hb dX0_elder_50 (lv_at hl 0 rfl) ?_
  refine lv_iconst (v := nI 0) hx hb dX0_elder_52 (by decide) ?_
  refine lv_iconst (v := nI 1) hx hb dX0_elder_53 (by decide) ?_
  refine gw_zput (k := 0) (f := (fun _ => 0)) hx hb hK hP hD hS 3 2 rfl rfl (by omega) (by decide) dX0_elder_54 (fun H locs hP hD hS => ?_)
  have hP : va_P D gw_Cl [gw_wx x t 160, gw_wb t cB (fun _ => 0), gw_wi w cI 160 (fun _ => 0), gw_wz z cZ 161 (upd ((fun _ => 0)) 0 (nI 1))] H := hP
  have hD : va_D (gw_AA s) [gw_wx x t 160, gw_wb t cB (fun _ => 0), gw_wi w cI 160 (fun _ => 0), gw_wz z cZ 161 (upd ((fun _ => 0)) 0 (nI 1))] := hD
  rw [gw_ed0 (fun _ => 0)] at hP hD
  have hP : va_P D gw_Cl [gw_wx x t 160, gw_wb t cB (fun _ => 0), gw_wi w cI 160 (fun _ => 0), gw_wz z cZ 161 (gw_ed (fun _ => 0) 0)] H := hP
  have hD : va_D (gw_AA s) [gw_wx x t 160, gw_wb t cB (fun _ => 0), gw_wi w cI 160 (fun _ => 0), gw_wz z cZ 161 (gw_ed (fun _ => 0) 0)] := hD
  refine lv_iconst (v := nI 3) hx hb dX0_elder_55 (by decide) ?_
  refine lv_istore (lv' := [(5, .int (nI 3)), (4, .ref z), (3, .int (nI 0)), (0, .ref b), (1, .ref x), (2, .ref w)]) hx hb dX0_elder_56 hl (by decide) rfl (fun ls hl => ?_)
  exact gw_el1 CC x t cB w cI z cZ 42 3 0 (fun _ => 0) (by omega) (by omega) (by omega) (gw_end (Nat.le_refl _)) H _ (hK.sub (tys' := [(cB, .byte), (cI, .int), (cZ, .boolean)]) [0, 1, 2] rfl) (hP.sub (ws' := [gw_wx x t 160, gw_wb t cB (fun _ => 0), gw_wi w cI 160 (fun _ => 0), gw_wz z cZ 161 (gw_ed (fun _ => 0) 0)]) [0, 1, 2, 3] rfl) (hD.sub (ws' := [gw_wx x t 160, gw_wb t cB (fun _ => 0), gw_wi w cI 160 (fun _ => 0), gw_wz z cZ 161 (gw_ed (fun _ => 0) 0)]) [0, 1, 2, 3] (by decide) rfl) hS ls (lv_sub hl [3, 4, 5, 2, 1, 0] rfl)
set_option maxHeartbeats 4000000 in
set_option maxRecDepth 100000 in
/-- elder, the loop at 16 -/
theorem gw_elB {p : Program} {l : Launch} {e : Env} {s : State} {m : MethodId} {below : List Frame} {meth : Method} {c : Code} {D : va_G} {b L : Nat} {xs : Nat → Int32} (CC : gw_EC p s m meth c cX0_elder 12 b L xs) (x t : Nat) (cB : ClassId) (w : Nat) (cI : ClassId) : ∀ (n : Nat) (i : Nat), 10 < i + n → i ≤ 10 → ∀ (H : Heap) (locs : List Loc) (hK : va_K D gw_Cl [(cB, .byte), (cI, .int)] s) (hP : va_P D gw_Cl [gw_wx x t (16 * i), gw_wb t cB (fun _ => 0), gw_wi w cI 160 (fun _ => 0)] H) (hD : va_D (gw_AA s) [gw_wx x t (16 * i), gw_wb t cB (fun _ => 0), gw_wi w cI 160 (fun _ => 0)]) (hS : va_S (gw_AA s) s.heap H locs) (ls : Array Slot) (hl : lv_has ls 12 [(0, .ref b), (1, .ref x), (2, .ref w), (3, .int (nI i))]), W p l e (gw_R 3 28 49517 72) s m ([.ref b] : List Value).toArray below meth c H locs (3) (4258) (gw_EQ below ([.ref b] : List Value).toArray s 28 49517) (F0 m 16 ls []) := by
  obtain ⟨C0, hr, hlocks, hX, hbl, hL⟩ := id CC
  obtain ⟨hx, hb, hml, hown, hts⟩ := id C0
  have hA : ∀ q : Nat, s.heap.size ≤ q → gw_AA s q := fun _ h => h
  have hbA : ¬ gw_AA s b := Nat.not_le.mpr hbl
  intro n
  induction n with
  | zero =>
    intro i hn hi H locs hK hP hD hS ls hl
    exact absurd hn (by omega)
  | succ n ih =>
    intro i hn hi H locs hK hP hD hS ls hl
    refine lv_iload_n hx hb dX0_elder_16 rfl (lv_at hl 3 rfl) ?_
    refine lv_bipush (v := nI 10) hx hb dX0_elder_17 (by decide) ?_
    refine gw_c_ge (tgt := 41) hx hb dX0_elder_19 (by decide) (by omega) (by omega) (fun h19 => ?_) (fun h19 => ?_)
    · rw [show 16 * i = 160 by omega] at hP hD
      exact gw_el0 CC x t cB w cI H _ (hK.sub (tys' := [(cB, .byte), (cI, .int)]) [0, 1] rfl) (hP.sub (ws' := [gw_wx x t 160, gw_wb t cB (fun _ => 0), gw_wi w cI 160 (fun _ => 0)]) [0, 1, 2] rfl) (hD.sub (ws' := [gw_wx x t 160, gw_wb t cB (fun _ => 0), gw_wi w cI 160 (fun _ => 0)]) [0, 1, 2] (by decide) rfl) hS ls (lv_sub hl [0, 1, 2] rfl)
    · refine lv_aload_n hx hb dX0_elder_22 rfl (lv_at hl 1 rfl) ?_
      refine lv_iconst (v := nI 0) hx hb dX0_elder_23 (by decide) ?_
      refine lv_iconst (v := nI 0) hx hb dX0_elder_24 (by decide) ?_
      refine lv_iconst (v := nI 0) hx hb dX0_elder_25 (by decide) ?_
      refine lv_iconst (v := nI 0) hx hb dX0_elder_26 (by decide) ?_
      refine gw_wVi (n := 4) (As := [.int (nI 0), .int (nI 0), .int (nI 0), .int (nI 0)]) (rest := []) (wc := [gw_wx x t (16 * i), gw_wb t cB (fun _ => 0)]) (wr := [gw_wi w cI 160 (fun _ => 0)]) (wF := [gw_wx x t ((16 * i) + 16), gw_wb t cB (gw_pf (fun _ => 0) (16 * i) (nI 0) (nI 0) (nI 0) (nI 0)), gw_wi w cI 160 (fun _ => 0)]) (tc := [(cB, .byte)]) [0, 1] [2] [1, 2, 0] [0] C0 (gw_put l D x t cB (16 * i) (fun _ => 0) H.size (nI 0) (nI 0) (nI 0) (nI 0) (by omega)) (lw_V q31 q32 q33 q5 q34) (by decide +kernel) rfl rfl rfl ⟨Nat.le_of_ble_eq_true rfl, Nat.le_of_ble_eq_true rfl⟩ hl rfl (Nat.le_of_ble_eq_true rfl) dX0_elder_27 ⟨Nat.le_of_ble_eq_true rfl, Nat.le_of_ble_eq_true rfl⟩ (va_recv hK hP (ci := 0) (q0 := 0) rfl rfl) hK hP hD hS hA rfl rfl (by decide) rfl (by decide) (by decide) rfl rfl rfl (by decide) (fun H locs hP hD hS => ?_)
      refine W.widen (k := 3) (n := 4258) (Nat.le_refl _) (Nat.le_refl _) ?_
      rw [gw_pf0, show 16 * i + 16 = 16 * (i + 1) by omega] at hP hD
      refine gw_z_ne (tgt := 35) hx hb dX0_elder_30 (by decide) (by decide) (fun h30 => ?_) (fun h30 => absurd h30 (by cases h30))
      refine lv_iinc (v := nI (i + 1)) (lv' := [(3, .int (nI (i + 1))), (0, .ref b), (1, .ref x), (2, .ref w)]) hx hb dX0_elder_35 hl (k := 3) rfl (by exact nI_1 _) (by decide) rfl (fun ls hl => ?_)
      refine lv_goto (tgt := 16) hx hb dX0_elder_38 (by decide) ?_
      exact ih (i + 1) (by omega) (by omega) H _ (hK.sub (tys' := [(cB, .byte), (cI, .int)]) [0, 1] rfl) (hP.sub (ws' := [gw_wx x t (16 * (i + 1)), gw_wb t cB (fun _ => 0), gw_wi w cI 160 (fun _ => 0)]) [0, 1, 2] rfl) (hD.sub (ws' := [gw_wx x t (16 * (i + 1)), gw_wb t cB (fun _ => 0), gw_wi w cI 160 (fun _ => 0)]) [0, 1, 2] (by decide) rfl) hS ls (lv_sub hl [1, 2, 3, 0] rfl)
set_option maxHeartbeats 4000000 in
set_option maxRecDepth 100000 in
/-- elder(s) is true, for every script of at most 40 ints -/
theorem gw_elder (l : Launch) (D : va_G) (b L sz : Nat) (xs : Nat → Int32) (hL : L ≤ 40) : Met l yX0_elder (ws_ yX0_elder cX0_elder 12 (some .boolean)) (gw_R 3 28 49517 72) (va_Pc [.ref b] (fun U => U.heap.size = sz ∧ gw_UX b L xs U ∧ va_K D gw_Cl [] U)) (va_Qi (fun (z : Int32) (_ : Unit) => z = 1) (fun _ _ => True) (fun q => sz ≤ q)) 28 49517 (fun q => sz ≤ q) := by
  refine gw_met [.ref b] "WireTextLaw" rfl (by decide) (Nat.le_of_ble_eq_true rfl) ?_
  intro p e s m below meth c ls C0 hr hlocks hname hl hU
  obtain ⟨hx, hb, hml, hown, hts⟩ := id C0
  obtain ⟨hsz, ⟨hX, hbl⟩, hK⟩ := hU
  subst hsz
  have CC : gw_EC p s m meth c cX0_elder 12 b L xs := ⟨C0, hr, hlocks, hX, hbl, hL⟩
  have hA : ∀ q : Nat, s.heap.size ≤ q → gw_AA s q := fun _ h => h
  have hS : va_S (gw_AA s) s.heap s.heap [] := va_S.rf
  have hP : va_P D gw_Cl [] s.heap := fun k q h => by simp at h
  have hD : va_D (gw_AA s) [] := ⟨fun i j p q h => by simp at h, fun k q h => by simp at h⟩
  have hl : lv_has ls 12 [(0, .ref b)] := hl
  refine va_new (ci := 0) (fs := [.null, .int 0]) (C := RX1) (T := TX1) (N := 2) hx hb hts in_X1 tyX1 tyX1_ok hown (hts _ q15) (hts _ q16) (hts _ q5) hK hP hD hS hA rfl (fun j hj => by rcases (show j = 0 ∨ j = 1 by omega) with rfl | rfl <;> rfl) (Nat.le_of_ble_eq_true rfl) (Nat.le_of_ble_eq_true rfl) dX0_elder_0 (fun x H hP hD hS => ?_)
  have hP : va_P D gw_Cl [(x, .inr (0, [.null, .int 0]))] H := hP
  have hD : va_D (gw_AA s) [(x, .inr (0, [.null, .int 0]))] := hD
  refine lv_dup hx hb dX0_elder_3 rfl ?_
  have hFc := va_free (wc := [(x, .inr (0, [.null, .int 0]))]) hD hS hA [0] rfl
  refine va_callv (va_runI (As := []) (rest := [.ref x]) C0 (gw_init l D x H.size) (cwI 0 hts (lw_meth q19) rfl rfl rfl (hts _ q5) (hts _ q17) (hts _ q18) rfl (by decide +kernel) ⟨Nat.le_of_ble_eq_true rfl, Nat.le_of_ble_eq_true rfl⟩) ⟨fun a U g mk q => ⟨q.1, gw_UWbl a U g mk q.2⟩, fun U hU hW => ⟨rfl, gw_UWmk (hP.sub (ws' := [(x, .inr (0, [.null, .int 0]))]) [0] rfl) (hK.sub (tys' := []) [] rfl) (hD.sub (ws' := [(x, .inr (0, [.null, .int 0]))]) [0] (by decide) rfl) U hU hW.alike⟩⟩ rfl rfl hl.1 rfl (lv_room (Nat.le_of_ble_eq_true rfl)) dX0_elder_4 ⟨Nat.le_of_ble_eq_true rfl, Nat.le_of_ble_eq_true rfl⟩) hS (fun q _ h => hFc q h) hFc (fun u T H1 locs ht hvm hw1 hB hz1 hk1 hS => ?_)
  obtain ⟨t, cB, hP1, hK1, hD1⟩ := hB
  rw [ht] at hP1
  have hK1 := va_K.moved hvm.symm hK1
  obtain ⟨hP, hD⟩ := va_join (wr := []) (w1 := [gw_wx x t 0, gw_wb t cB (fun _ => 0)]) hP hD [0] [] rfl rfl (by decide) (by decide) hk1 hFc hP1 hD1
  have hK := (hK.sub (tys' := []) [] rfl).app hK1
  generalize H1 = H at hP hS ⊢
  have hP : va_P D gw_Cl [gw_wx x t 0, gw_wb t cB (fun _ => 0)] H := hP
  have hD : va_D (gw_AA s) [gw_wx x t 0, gw_wb t cB (fun _ => 0)] := hD
  have hK : va_K D gw_Cl [(cB, .byte)] s := hK
  refine W.widen (k := 2) (n := 4098) (by omega) (by omega) ?_
  refine lv_astore_n (lv' := [(1, .ref x), (0, .ref b)]) hx hb dX0_elder_7 rfl hl (by decide) rfl (fun ls hl => ?_)
  refine lv_sipush (v := nI 160) hx hb dX0_elder_8 (by decide) ?_
  refine va_newa (atype := .int) (ty := .int) (N' := 160) (a0 := (160, .inl (fun j => nI ((fun _ => 0 : gw_G) j).val))) hx hb (hts _ q145) rfl hK hP hD hS hA (fun cA => rfl) (by decide) (by decide) (by decide) (Nat.le_of_ble_eq_true rfl) (Nat.le_of_ble_eq_true rfl) dX0_elder_11 (fun w cI H hK hP hD hS => ?_)
  have hP : va_P D gw_Cl [gw_wx x t 0, gw_wb t cB (fun _ => 0), gw_wi w cI 160 (fun _ => 0)] H := hP
  have hD : va_D (gw_AA s) [gw_wx x t 0, gw_wb t cB (fun _ => 0), gw_wi w cI 160 (fun _ => 0)] := hD
  have hK : va_K D gw_Cl [(cB, .byte), (cI, .int)] s := hK
  refine W.widen (k := 3) (n := 4258) (by omega) (by omega) ?_
  refine lv_astore_n (lv' := [(2, .ref w), (1, .ref x), (0, .ref b)]) hx hb dX0_elder_13 rfl hl (by decide) rfl (fun ls hl => ?_)
  refine lv_iconst (v := nI 0) hx hb dX0_elder_14 (by decide) ?_
  refine lv_istore_n (lv' := [(3, .int (nI 0)), (2, .ref w), (1, .ref x), (0, .ref b)]) hx hb dX0_elder_15 rfl hl (by decide) rfl (fun ls hl => ?_)
  exact gw_elB CC x t cB w cI 11 0 (by omega) (by omega) H _ (hK.sub (tys' := [(cB, .byte), (cI, .int)]) [0, 1] rfl) (hP.sub (ws' := [gw_wx x t 0, gw_wb t cB (fun _ => 0), gw_wi w cI 160 (fun _ => 0)]) [0, 1, 2] rfl) (hD.sub (ws' := [gw_wx x t 0, gw_wb t cB (fun _ => 0), gw_wi w cI 160 (fun _ => 0)]) [0, 1, 2] (by decide) rfl) hS ls (lv_sub hl [3, 2, 1, 0] rfl)
end
section
/-! askedRaw -/
def gw_fl (g : gw_G) (i : Nat) : gw_G := fun j => if j < i then g j else 0
theorem gw_fl0 (g : gw_G) : gw_fl g 0 = fun _ => 0 := by
  funext j
  unfold gw_fl
  rw [if_neg (by omega)]
theorem gw_fl_st {g : gw_G} {i : Nat} {v : Fin 256} (h : g i = v) : gw_st (gw_fl g i) i v = gw_fl g (i + 1) := by
  funext j
  unfold gw_st gw_fl
  by_cases h1 : j = i
  · rw [if_pos h1, if_pos (by omega), h1, h]
  · rw [if_neg h1]
    by_cases h2 : j < i
    · rw [if_pos h2, if_pos (by omega)]
    · rw [if_neg h2, if_neg (by omega)]
theorem gw_fl_eq {g g' : gw_G} {i : Nat} (h : ∀ j, j < i → g' j = g j) : gw_fl g i = gw_fl g' i := by
  funext j
  unfold gw_fl
  by_cases h1 : j < i
  · rw [if_pos h1, if_pos h1, h j h1]
  · rw [if_neg h1, if_neg h1]
theorem gw_st_ag {g h : gw_G} {n : Nat} (a : Nat) (v : Fin 256) (e : ∀ j, j < n → h j = g j) : ∀ j, j < n → gw_st h a v j = gw_st g a v j := by
  intro j hj
  unfold gw_st
  by_cases h1 : j = a
  · rw [if_pos h1, if_pos h1]
  · rw [if_neg h1, if_neg h1, e j hj]
set_option maxHeartbeats 4000000 in
set_option maxRecDepth 100000 in
/-- askedRaw, the loop at 208 -/
theorem gw_rwC {p : Program} {l : Launch} {e : Env} {s : State} {m : MethodId} {below : List Frame} {meth : Method} {c : Code} {D : va_G} {b L : Nat} {xs : Nat → Int32} (CC : gw_EC p s m meth c cX0_askedRaw 8 b L xs) (x t : Nat) (cB : ClassId) (w : Nat) (cI : ClassId) (g h : gw_G) (n0 u : Nat) (h1 : 16 ≤ n0) (h2 : n0 ≤ 32) (hg : ∀ j, j < n0 → h j = g j) (i : Nat) (hi : i ≤ n0) (H : Heap) (locs : List Loc) (hK : va_K D gw_Cl [(cB, .byte), (cI, .int)] s) (hP : va_P D gw_Cl [gw_wx x t n0, gw_wb t cB g, gw_wi w cI 32 h] H) (hD : va_D (gw_AA s) [gw_wx x t n0, gw_wb t cB g, gw_wi w cI 32 h]) (hS : va_S (gw_AA s) s.heap H locs) (K : ∀ ls : Array Slot, lv_has ls 8 [(0, .ref b), (1, .ref x), (2, .ref w), (4, .int (nI n0)), (5, .int (nI u)), (6, .int (nI i))] → W p l e (gw_R 3 3 4130 72) s m ([.ref b] : List Value).toArray below meth c H locs (3) (4130) (gw_EQ below ([.ref b] : List Value).toArray s 3 4130) (F0 m 245 ls [])) : ∀ (n : Nat) (j : Nat), n0 + 1 < j + n → i ≤ j ∧ j ≤ n0 + 1 → ∀ (ls : Array Slot) (hl : lv_has ls 8 [(0, .ref b), (1, .ref x), (2, .ref w), (4, .int (nI n0)), (5, .int (nI u)), (6, .int (nI i)), (7, .int (nI j))]), W p l e (gw_R 3 3 4130 72) s m ([.ref b] : List Value).toArray below meth c H locs (3) (4130) (gw_EQ below ([.ref b] : List Value).toArray s 3 4130) (F0 m 208 ls []) := by
  obtain ⟨C0, hr, hlocks, hX, hbl, hL⟩ := id CC
  obtain ⟨hx, hb, hml, hown, hts⟩ := id C0
  have hA : ∀ q : Nat, s.heap.size ≤ q → gw_AA s q := fun _ h => h
  have hbA : ¬ gw_AA s b := Nat.not_le.mpr hbl
  intro n
  induction n with
  | zero =>
    intro j hn hj ls hl
    exact absurd hn (by omega)
  | succ n ih =>
    intro j hn hj ls hl
    refine lv_iload hx hb dX0_askedRaw_208 (lv_at hl 6 rfl) ?_
    refine lv_iload hx hb dX0_askedRaw_210 (lv_at hl 3 rfl) ?_
    refine gw_c_gt (tgt := 245) hx hb dX0_askedRaw_212 (by decide) (by omega) (by omega) (fun h212 => ?_) (fun h212 => ?_)
    · exact K ls (lv_sub hl [0, 1, 2, 3, 4, 5] rfl)
    · refine lv_aload_n hx hb dX0_askedRaw_215 rfl (lv_at hl 1 rfl) ?_
      refine lv_iload hx hb dX0_askedRaw_216 (lv_at hl 5 rfl) ?_
      refine lv_iload hx hb dX0_askedRaw_218 (lv_at hl 6 rfl) ?_
      refine lv_iload hx hb dX0_askedRaw_220 (lv_at hl 5 rfl) ?_
      refine gw_sub hx hb dX0_askedRaw_222 (by omega) ?_
      refine gw_rV (n := 2) (As := [.int (nI i), .int (nI (j - i))]) (rest := []) C0 (gw_fair l D x t cB n0 g (nI i) (nI (j - i)) (by omega)) (lw_V q66 q67 q68 q5 q69) (by decide +kernel) rfl rfl rfl ⟨Nat.le_of_ble_eq_true rfl, Nat.le_of_ble_eq_true rfl⟩ hl rfl (Nat.le_of_ble_eq_true rfl) dX0_askedRaw_223 ⟨Nat.le_of_ble_eq_true rfl, Nat.le_of_ble_eq_true rfl⟩ (va_recv hK hP (ci := 0) (q0 := 0) rfl rfl) gw_Ubl (gw_Umk (hP.sub (ws' := [gw_wx x t n0, gw_wb t cB g]) [0, 1] rfl) (hK.sub (tys' := [(cB, .byte)]) [0] rfl)) ?_
      refine gw_int (y := nI (gw_tf (gw_wf g i j))) (by rw [gw_frN (n := n0) (a := i) (k := j - i) (e := j) (by omega) (by omega) (by omega) (by omega)]) ?_
      refine lv_aload_n hx hb dX0_askedRaw_226 rfl (lv_at hl 2 rfl) ?_
      refine lv_iload hx hb dX0_askedRaw_227 (lv_at hl 5 rfl) ?_
      refine lv_iload hx hb dX0_askedRaw_229 (lv_at hl 6 rfl) ?_
      refine gw_rS (n := 3) (As := [.ref w, .int (nI i), .int (nI j)]) (rest := [.int (nI (gw_tf (gw_wf g i j)))]) C0 (gw_askedOwn l D w cI 32 h i j (by omega) (by decide) (by omega)) (lw_S q176 q177 q4 q178) (by decide +kernel) rfl rfl rfl ⟨Nat.le_of_ble_eq_true rfl, Nat.le_of_ble_eq_true rfl⟩ hl rfl (Nat.le_of_ble_eq_true rfl) dX0_askedRaw_231 ⟨Nat.le_of_ble_eq_true rfl, Nat.le_of_ble_eq_true rfl⟩ gw_Ubl (gw_Umk (hP.sub (ws' := [gw_wi w cI 32 h]) [2] rfl) (hK.sub (tys' := [(cI, .int)]) [1] rfl)) ?_
      refine gw_int (y := nI (gw_tf (gw_wf g i j))) (by rw [gw_cong (g := h) (g' := g) (fun q hq => hg q (by omega))]) ?_
      refine gw_c_eq (tgt := 239) hx hb dX0_askedRaw_234 (by decide) (Nat.lt_trans (gw_tf_lt _) (by decide)) (Nat.lt_trans (gw_tf_lt _) (by decide)) (fun _ => ?_) (fun h => (h rfl).elim)
      refine lv_iinc (v := nI (j + 1)) (lv' := [(7, .int (nI (j + 1))), (0, .ref b), (1, .ref x), (2, .ref w), (4, .int (nI n0)), (5, .int (nI u)), (6, .int (nI i))]) hx hb dX0_askedRaw_239 hl (k := 6) rfl (by exact nI_1 _) (by decide) rfl (fun ls hl => ?_)
      refine lv_goto (tgt := 208) hx hb dX0_askedRaw_242 (by decide) ?_
      exact ih (j + 1) (by omega) (by omega) ls (lv_sub hl [1, 2, 3, 4, 5, 6, 0] rfl)
set_option maxHeartbeats 4000000 in
set_option maxRecDepth 100000 in
/-- askedRaw, the loop at 197 -/
theorem gw_rwB {p : Program} {l : Launch} {e : Env} {s : State} {m : MethodId} {below : List Frame} {meth : Method} {c : Code} {D : va_G} {b L : Nat} {xs : Nat → Int32} (CC : gw_EC p s m meth c cX0_askedRaw 8 b L xs) (x t : Nat) (cB : ClassId) (w : Nat) (cI : ClassId) (g h : gw_G) (n0 u : Nat) (h1 : 16 ≤ n0) (h2 : n0 ≤ 32) (hg : ∀ j, j < n0 → h j = g j) (H : Heap) (locs : List Loc) (hK : va_K D gw_Cl [(cB, .byte), (cI, .int)] s) (hP : va_P D gw_Cl [gw_wx x t n0, gw_wb t cB g, gw_wi w cI 32 h] H) (hD : va_D (gw_AA s) [gw_wx x t n0, gw_wb t cB g, gw_wi w cI 32 h]) (hS : va_S (gw_AA s) s.heap H locs) (K : ∀ ls : Array Slot, lv_has ls 8 [(0, .ref b), (1, .ref x), (2, .ref w), (4, .int (nI n0)), (5, .int (nI u))] → W p l e (gw_R 3 3 4130 72) s m ([.ref b] : List Value).toArray below meth c H locs (3) (4130) (gw_EQ below ([.ref b] : List Value).toArray s 3 4130) (F0 m 251 ls [])) : ∀ (n : Nat) (i : Nat), n0 + 1 < i + n → i ≤ n0 + 1 → ∀ (ls : Array Slot) (hl : lv_has ls 8 [(0, .ref b), (1, .ref x), (2, .ref w), (4, .int (nI n0)), (5, .int (nI u)), (6, .int (nI i))]), W p l e (gw_R 3 3 4130 72) s m ([.ref b] : List Value).toArray below meth c H locs (3) (4130) (gw_EQ below ([.ref b] : List Value).toArray s 3 4130) (F0 m 197 ls []) := by
  obtain ⟨C0, hr, hlocks, hX, hbl, hL⟩ := id CC
  obtain ⟨hx, hb, hml, hown, hts⟩ := id C0
  have hA : ∀ q : Nat, s.heap.size ≤ q → gw_AA s q := fun _ h => h
  have hbA : ¬ gw_AA s b := Nat.not_le.mpr hbl
  intro n
  induction n with
  | zero =>
    intro i hn hi ls hl
    exact absurd hn (by omega)
  | succ n ih =>
    intro i hn hi ls hl
    refine lv_iload hx hb dX0_askedRaw_197 (lv_at hl 5 rfl) ?_
    refine lv_iload hx hb dX0_askedRaw_199 (lv_at hl 3 rfl) ?_
    refine gw_c_gt (tgt := 251) hx hb dX0_askedRaw_201 (by decide) (by omega) (by omega) (fun h201 => ?_) (fun h201 => ?_)
    · exact K ls (lv_sub hl [0, 1, 2, 3, 4] rfl)
    · refine lv_iload hx hb dX0_askedRaw_204 (lv_at hl 5 rfl) ?_
      refine lv_istore (lv' := [(7, .int (nI i)), (0, .ref b), (1, .ref x), (2, .ref w), (4, .int (nI n0)), (5, .int (nI u)), (6, .int (nI i))]) hx hb dX0_askedRaw_206 hl (by decide) rfl (fun ls hl => ?_)
      refine gw_rwC CC x t cB w cI g h n0 u h1 h2 hg i h201 H locs hK hP hD hS (fun ls hl => ?_) (n0 + 2) i (by omega) ⟨Nat.le_refl _, by omega⟩ ls (lv_sub hl [1, 2, 3, 4, 5, 6, 0] rfl)
      refine lv_iinc (v := nI (i + 1)) (lv' := [(6, .int (nI (i + 1))), (0, .ref b), (1, .ref x), (2, .ref w), (4, .int (nI n0)), (5, .int (nI u))]) hx hb dX0_askedRaw_245 hl (k := 5) rfl (by exact nI_1 _) (by decide) rfl (fun ls hl => ?_)
      refine lv_goto (tgt := 197) hx hb dX0_askedRaw_248 (by decide) ?_
      exact ih (i + 1) (by omega) (by omega) ls (lv_sub hl [1, 2, 3, 4, 5, 0] rfl)
set_option maxHeartbeats 4000000 in
set_option maxRecDepth 100000 in
/-- askedRaw, the loop at 188 -/
theorem gw_rwA {p : Program} {l : Launch} {e : Env} {s : State} {m : MethodId} {below : List Frame} {meth : Method} {c : Code} {D : va_G} {b L : Nat} {xs : Nat → Int32} (CC : gw_EC p s m meth c cX0_askedRaw 8 b L xs) (x t : Nat) (cB : ClassId) (w : Nat) (cI : ClassId) (n0 : Nat) (h1 : 16 ≤ n0) (h2 : n0 ≤ 32) : ∀ (n : Nat) (u : Nat) (g h : gw_G), 2 < u + n → u ≤ 2 → (∀ j, j < n0 → h j = g j) → ∀ (H : Heap) (locs : List Loc) (hK : va_K D gw_Cl [(cB, .byte), (cI, .int)] s) (hP : va_P D gw_Cl [gw_wx x t n0, gw_wb t cB g, gw_wi w cI 32 h] H) (hD : va_D (gw_AA s) [gw_wx x t n0, gw_wb t cB g, gw_wi w cI 32 h]) (hS : va_S (gw_AA s) s.heap H locs) (ls : Array Slot) (hl : lv_has ls 8 [(0, .ref b), (1, .ref x), (2, .ref w), (4, .int (nI n0)), (5, .int (nI u))]), W p l e (gw_R 3 3 4130 72) s m ([.ref b] : List Value).toArray below meth c H locs (3) (4130) (gw_EQ below ([.ref b] : List Value).toArray s 3 4130) (F0 m 188 ls []) := by
  obtain ⟨C0, hr, hlocks, hX, hbl, hL⟩ := id CC
  obtain ⟨hx, hb, hml, hown, hts⟩ := id C0
  have hA : ∀ q : Nat, s.heap.size ≤ q → gw_AA s q := fun _ h => h
  have hbA : ¬ gw_AA s b := Nat.not_le.mpr hbl
  intro n
  induction n with
  | zero =>
    intro u g h hn hu hg H locs hK hP hD hS ls hl
    exact absurd hn (by omega)
  | succ n ih =>
    intro u g h hn hu hg H locs hK hP hD hS ls hl
    refine lv_iload hx hb dX0_askedRaw_188 (lv_at hl 4 rfl) ?_
    refine lv_iconst (v := nI 2) hx hb dX0_askedRaw_190 (by decide) ?_
    refine gw_c_ge (tgt := 337) hx hb dX0_askedRaw_191 (by decide) (by omega) (by omega) (fun h191 => ?_) (fun h191 => ?_)
    · refine lv_aload_n hx hb dX0_askedRaw_337 rfl (lv_at hl 1 rfl) ?_
      refine gw_rV (n := 0) (As := []) (rest := []) C0 (gw_size l D x t n0) (lw_V q62 q63 q64 q5 q65) (by decide +kernel) rfl rfl rfl ⟨Nat.le_of_ble_eq_true rfl, Nat.le_of_ble_eq_true rfl⟩ hl rfl (Nat.le_of_ble_eq_true rfl) dX0_askedRaw_338 ⟨Nat.le_of_ble_eq_true rfl, Nat.le_of_ble_eq_true rfl⟩ (va_recv hK hP (ci := 0) (q0 := 0) rfl rfl) gw_Ubl (gw_Umk (hP.sub (ws' := [gw_wx x t n0]) [0] rfl) (hK.sub (tys' := []) [] rfl)) ?_
      refine lv_iload hx hb dX0_askedRaw_341 (lv_at hl 3 rfl) ?_
      refine gw_c_ne (tgt := 350) hx hb dX0_askedRaw_343 (by decide) (by omega) (by omega) (fun h => (h rfl).elim) (fun _ => ?_)
      refine lv_iconst (v := nI 1) hx hb dX0_askedRaw_346 (by decide) ?_
      refine lv_goto (tgt := 351) hx hb dX0_askedRaw_347 (by decide) ?_
      refine W.widen (k := 3) (n := 4130) (by omega) (by omega) ?_
      exact W.zret (v := nI 1) hx hb hr rfl (fun t ht hW => ⟨⟨nI 1, (), rfl, rfl, trivial⟩, hS.F ht⟩) hS.2.2 dX0_askedRaw_351 hlocks
    · refine lv_iconst (v := nI 0) hx hb dX0_askedRaw_194 (by decide) ?_
      refine lv_istore (lv' := [(6, .int (nI 0)), (0, .ref b), (1, .ref x), (2, .ref w), (4, .int (nI n0)), (5, .int (nI u))]) hx hb dX0_askedRaw_195 hl (by decide) rfl (fun ls hl => ?_)
      refine gw_rwB CC x t cB w cI g h n0 u h1 h2 hg H locs hK hP hD hS (fun ls hl => ?_) (n0 + 2) 0 (by omega) (by omega) ls (lv_sub hl [1, 2, 3, 4, 5, 0] rfl)
      obtain ⟨a11, ha11⟩ : ∃ a, a = gw_ms (gw_cv L xs 11) % n0 := ⟨_, rfl⟩
      have la11 : a11 < n0 := by rw [ha11]; exact Nat.mod_lt _ (by omega)
      refine lv_aload_n hx hb dX0_askedRaw_251 rfl (lv_at hl 1 rfl) ?_
      refine lv_aload_n hx hb dX0_askedRaw_252 rfl (lv_at hl 0 rfl) ?_
      refine lv_bipush (v := nI 11) hx hb dX0_askedRaw_253 (by decide) ?_
      refine gw_rS (n := 2) (As := [.ref b, .int (nI 11)]) (rest := [.ref x]) C0 (gw_askedCell l b L 11 xs hL (by decide)) (lw_S q170 q171 q4 q172) (by decide +kernel) rfl rfl rfl ⟨Nat.le_of_ble_eq_true rfl, Nat.le_of_ble_eq_true rfl⟩ hl rfl (Nat.le_of_ble_eq_true rfl) dX0_askedRaw_255 ⟨Nat.le_of_ble_eq_true rfl, Nat.le_of_ble_eq_true rfl⟩ gw_UXbl (gw_UXmk hX hbl hbA hS) ?_
      refine lv_aload_n hx hb dX0_askedRaw_258 rfl (lv_at hl 0 rfl) ?_
      refine lv_bipush (v := nI 12) hx hb dX0_askedRaw_259 (by decide) ?_
      refine gw_rS (n := 2) (As := [.ref b, .int (nI 12)]) (rest := [.int (gw_cv L xs 11), .ref x]) C0 (gw_askedCell l b L 12 xs hL (by decide)) (lw_S q170 q171 q4 q172) (by decide +kernel) rfl rfl rfl ⟨Nat.le_of_ble_eq_true rfl, Nat.le_of_ble_eq_true rfl⟩ hl rfl (Nat.le_of_ble_eq_true rfl) dX0_askedRaw_261 ⟨Nat.le_of_ble_eq_true rfl, Nat.le_of_ble_eq_true rfl⟩ gw_UXbl (gw_UXmk hX hbl hbA hS) ?_
      refine gw_wV (n := 2) (As := [.int (gw_cv L xs 11), .int (gw_cv L xs 12)]) (rest := []) (wc := [gw_wx x t n0, gw_wb t cB g]) (wr := [gw_wi w cI 32 h]) (wF := [gw_wx x t n0, gw_wb t cB (gw_st g (gw_ms (gw_cv L xs 11) % n0) (gw_bt (gw_cv L xs 12))), gw_wi w cI 32 h]) (tc := [(cB, .byte)]) [0, 1] [2] [1, 2, 0] [0] C0 (gw_sign l D x t cB n0 g H.size (gw_cv L xs 11) (gw_cv L xs 12) (by omega) (by omega)) (lw_V q45 q46 q47 q5 q48) (by decide +kernel) rfl rfl rfl ⟨Nat.le_of_ble_eq_true rfl, Nat.le_of_ble_eq_true rfl⟩ hl rfl (Nat.le_of_ble_eq_true rfl) dX0_askedRaw_264 ⟨Nat.le_of_ble_eq_true rfl, Nat.le_of_ble_eq_true rfl⟩ (va_recv hK hP (ci := 0) (q0 := 0) rfl rfl) hK hP hD hS hA rfl rfl (by decide) rfl (by decide) (by decide) rfl rfl rfl (by decide) (fun H locs hP hD hS => ?_)
      refine W.widen (k := 3) (n := 4130) (Nat.le_refl _) (Nat.le_refl _) ?_
      have hm : gw_ms (gw_cv L xs 11) % n0 = a11 := ha11.symm
      rw [hm] at hP hD
      have hP : va_P D gw_Cl [gw_wx x t n0, gw_wb t cB (gw_st g a11 (gw_bt (gw_cv L xs 12))), gw_wi w cI 32 h] H := hP
      have hD : va_D (gw_AA s) [gw_wx x t n0, gw_wb t cB (gw_st g a11 (gw_bt (gw_cv L xs 12))), gw_wi w cI 32 h] := hD
      refine lv_aload_n hx hb dX0_askedRaw_267 rfl (lv_at hl 2 rfl) ?_
      refine lv_aload_n hx hb dX0_askedRaw_268 rfl (lv_at hl 0 rfl) ?_
      refine lv_bipush (v := nI 11) hx hb dX0_askedRaw_269 (by decide) ?_
      refine gw_rS (n := 2) (As := [.ref b, .int (nI 11)]) (rest := [.ref w]) C0 (gw_askedCell l b L 11 xs hL (by decide)) (lw_S q170 q171 q4 q172) (by decide +kernel) rfl rfl rfl ⟨Nat.le_of_ble_eq_true rfl, Nat.le_of_ble_eq_true rfl⟩ hl rfl (Nat.le_of_ble_eq_true rfl) dX0_askedRaw_271 ⟨Nat.le_of_ble_eq_true rfl, Nat.le_of_ble_eq_true rfl⟩ gw_UXbl (gw_UXmk hX hbl hbA hS) ?_
      refine lv_ldc (v := (2147483647 : Int32)) hx hb hown (hts _ q153) dX0_askedRaw_274 ?_
      refine gw_aM hx hb dX0_askedRaw_276 ?_
      refine lv_iload hx hb dX0_askedRaw_277 (lv_at hl 3 rfl) ?_
      refine gw_rem hx hb dX0_askedRaw_279 (gw_ms_lt _) (by omega) (by omega) ?_
      refine gw_int (y := nI a11) (by rw [ha11]) ?_
      refine lv_aload_n hx hb dX0_askedRaw_280 rfl (lv_at hl 0 rfl) ?_
      refine lv_bipush (v := nI 12) hx hb dX0_askedRaw_281 (by decide) ?_
      refine gw_rS (n := 2) (As := [.ref b, .int (nI 12)]) (rest := [.int (nI a11), .ref w]) C0 (gw_askedCell l b L 12 xs hL (by decide)) (lw_S q170 q171 q4 q172) (by decide +kernel) rfl rfl rfl ⟨Nat.le_of_ble_eq_true rfl, Nat.le_of_ble_eq_true rfl⟩ hl rfl (Nat.le_of_ble_eq_true rfl) dX0_askedRaw_283 ⟨Nat.le_of_ble_eq_true rfl, Nat.le_of_ble_eq_true rfl⟩ gw_UXbl (gw_UXmk hX hbl hbA hS) ?_
      refine lv_sipush (v := nI 255) hx hb dX0_askedRaw_286 (by decide) ?_
      refine gw_a255 hx hb dX0_askedRaw_289 ?_
      refine gw_ist (k := a11) (g := h) (v := (gw_bt (gw_cv L xs 12))) hx hb hK hP hD hS 2 1 rfl rfl (by omega) (by omega) dX0_askedRaw_290 (fun H locs hP hD hS => ?_)
      have hP : va_P D gw_Cl [gw_wx x t n0, gw_wb t cB (gw_st g a11 (gw_bt (gw_cv L xs 12))), gw_wi w cI 32 (gw_st h a11 ((gw_bt (gw_cv L xs 12))))] H := hP
      have hD : va_D (gw_AA s) [gw_wx x t n0, gw_wb t cB (gw_st g a11 (gw_bt (gw_cv L xs 12))), gw_wi w cI 32 (gw_st h a11 ((gw_bt (gw_cv L xs 12))))] := hD
      obtain ⟨a13, ha13⟩ : ∃ a, a = gw_ms (gw_cv L xs 13) % n0 := ⟨_, rfl⟩
      have la13 : a13 < n0 := by rw [ha13]; exact Nat.mod_lt _ (by omega)
      refine lv_aload_n hx hb dX0_askedRaw_291 rfl (lv_at hl 1 rfl) ?_
      refine lv_aload_n hx hb dX0_askedRaw_292 rfl (lv_at hl 0 rfl) ?_
      refine lv_bipush (v := nI 13) hx hb dX0_askedRaw_293 (by decide) ?_
      refine gw_rS (n := 2) (As := [.ref b, .int (nI 13)]) (rest := [.ref x]) C0 (gw_askedCell l b L 13 xs hL (by decide)) (lw_S q170 q171 q4 q172) (by decide +kernel) rfl rfl rfl ⟨Nat.le_of_ble_eq_true rfl, Nat.le_of_ble_eq_true rfl⟩ hl rfl (Nat.le_of_ble_eq_true rfl) dX0_askedRaw_295 ⟨Nat.le_of_ble_eq_true rfl, Nat.le_of_ble_eq_true rfl⟩ gw_UXbl (gw_UXmk hX hbl hbA hS) ?_
      refine lv_aload_n hx hb dX0_askedRaw_298 rfl (lv_at hl 0 rfl) ?_
      refine lv_bipush (v := nI 14) hx hb dX0_askedRaw_299 (by decide) ?_
      refine gw_rS (n := 2) (As := [.ref b, .int (nI 14)]) (rest := [.int (gw_cv L xs 13), .ref x]) C0 (gw_askedCell l b L 14 xs hL (by decide)) (lw_S q170 q171 q4 q172) (by decide +kernel) rfl rfl rfl ⟨Nat.le_of_ble_eq_true rfl, Nat.le_of_ble_eq_true rfl⟩ hl rfl (Nat.le_of_ble_eq_true rfl) dX0_askedRaw_301 ⟨Nat.le_of_ble_eq_true rfl, Nat.le_of_ble_eq_true rfl⟩ gw_UXbl (gw_UXmk hX hbl hbA hS) ?_
      refine gw_wV (n := 2) (As := [.int (gw_cv L xs 13), .int (gw_cv L xs 14)]) (rest := []) (wc := [gw_wx x t n0, gw_wb t cB (gw_st g a11 (gw_bt (gw_cv L xs 12)))]) (wr := [gw_wi w cI 32 (gw_st h a11 ((gw_bt (gw_cv L xs 12))))]) (wF := [gw_wx x t n0, gw_wb t cB (gw_st (gw_st g a11 (gw_bt (gw_cv L xs 12))) (gw_ms (gw_cv L xs 13) % n0) (gw_bt (gw_cv L xs 14))), gw_wi w cI 32 (gw_st h a11 ((gw_bt (gw_cv L xs 12))))]) (tc := [(cB, .byte)]) [0, 1] [2] [1, 2, 0] [0] C0 (gw_sign l D x t cB n0 (gw_st g a11 (gw_bt (gw_cv L xs 12))) H.size (gw_cv L xs 13) (gw_cv L xs 14) (by omega) (by omega)) (lw_V q45 q46 q47 q5 q48) (by decide +kernel) rfl rfl rfl ⟨Nat.le_of_ble_eq_true rfl, Nat.le_of_ble_eq_true rfl⟩ hl rfl (Nat.le_of_ble_eq_true rfl) dX0_askedRaw_304 ⟨Nat.le_of_ble_eq_true rfl, Nat.le_of_ble_eq_true rfl⟩ (va_recv hK hP (ci := 0) (q0 := 0) rfl rfl) hK hP hD hS hA rfl rfl (by decide) rfl (by decide) (by decide) rfl rfl rfl (by decide) (fun H locs hP hD hS => ?_)
      refine W.widen (k := 3) (n := 4130) (Nat.le_refl _) (Nat.le_refl _) ?_
      have hm : gw_ms (gw_cv L xs 13) % n0 = a13 := ha13.symm
      rw [hm] at hP hD
      have hP : va_P D gw_Cl [gw_wx x t n0, gw_wb t cB (gw_st (gw_st g a11 (gw_bt (gw_cv L xs 12))) a13 (gw_bt (gw_cv L xs 14))), gw_wi w cI 32 (gw_st h a11 ((gw_bt (gw_cv L xs 12))))] H := hP
      have hD : va_D (gw_AA s) [gw_wx x t n0, gw_wb t cB (gw_st (gw_st g a11 (gw_bt (gw_cv L xs 12))) a13 (gw_bt (gw_cv L xs 14))), gw_wi w cI 32 (gw_st h a11 ((gw_bt (gw_cv L xs 12))))] := hD
      refine lv_aload_n hx hb dX0_askedRaw_307 rfl (lv_at hl 2 rfl) ?_
      refine lv_aload_n hx hb dX0_askedRaw_308 rfl (lv_at hl 0 rfl) ?_
      refine lv_bipush (v := nI 13) hx hb dX0_askedRaw_309 (by decide) ?_
      refine gw_rS (n := 2) (As := [.ref b, .int (nI 13)]) (rest := [.ref w]) C0 (gw_askedCell l b L 13 xs hL (by decide)) (lw_S q170 q171 q4 q172) (by decide +kernel) rfl rfl rfl ⟨Nat.le_of_ble_eq_true rfl, Nat.le_of_ble_eq_true rfl⟩ hl rfl (Nat.le_of_ble_eq_true rfl) dX0_askedRaw_311 ⟨Nat.le_of_ble_eq_true rfl, Nat.le_of_ble_eq_true rfl⟩ gw_UXbl (gw_UXmk hX hbl hbA hS) ?_
      refine lv_ldc (v := (2147483647 : Int32)) hx hb hown (hts _ q153) dX0_askedRaw_314 ?_
      refine gw_aM hx hb dX0_askedRaw_316 ?_
      refine lv_iload hx hb dX0_askedRaw_317 (lv_at hl 3 rfl) ?_
      refine gw_rem hx hb dX0_askedRaw_319 (gw_ms_lt _) (by omega) (by omega) ?_
      refine gw_int (y := nI a13) (by rw [ha13]) ?_
      refine lv_aload_n hx hb dX0_askedRaw_320 rfl (lv_at hl 0 rfl) ?_
      refine lv_bipush (v := nI 14) hx hb dX0_askedRaw_321 (by decide) ?_
      refine gw_rS (n := 2) (As := [.ref b, .int (nI 14)]) (rest := [.int (nI a13), .ref w]) C0 (gw_askedCell l b L 14 xs hL (by decide)) (lw_S q170 q171 q4 q172) (by decide +kernel) rfl rfl rfl ⟨Nat.le_of_ble_eq_true rfl, Nat.le_of_ble_eq_true rfl⟩ hl rfl (Nat.le_of_ble_eq_true rfl) dX0_askedRaw_323 ⟨Nat.le_of_ble_eq_true rfl, Nat.le_of_ble_eq_true rfl⟩ gw_UXbl (gw_UXmk hX hbl hbA hS) ?_
      refine lv_sipush (v := nI 255) hx hb dX0_askedRaw_326 (by decide) ?_
      refine gw_a255 hx hb dX0_askedRaw_329 ?_
      refine gw_ist (k := a13) (g := (gw_st h a11 ((gw_bt (gw_cv L xs 12))))) (v := (gw_bt (gw_cv L xs 14))) hx hb hK hP hD hS 2 1 rfl rfl (by omega) (by omega) dX0_askedRaw_330 (fun H locs hP hD hS => ?_)
      have hP : va_P D gw_Cl [gw_wx x t n0, gw_wb t cB (gw_st (gw_st g a11 (gw_bt (gw_cv L xs 12))) a13 (gw_bt (gw_cv L xs 14))), gw_wi w cI 32 (gw_st ((gw_st h a11 ((gw_bt (gw_cv L xs 12))))) a13 ((gw_bt (gw_cv L xs 14))))] H := hP
      have hD : va_D (gw_AA s) [gw_wx x t n0, gw_wb t cB (gw_st (gw_st g a11 (gw_bt (gw_cv L xs 12))) a13 (gw_bt (gw_cv L xs 14))), gw_wi w cI 32 (gw_st ((gw_st h a11 ((gw_bt (gw_cv L xs 12))))) a13 ((gw_bt (gw_cv L xs 14))))] := hD
      refine lv_iinc (v := nI (u + 1)) (lv' := [(5, .int (nI (u + 1))), (0, .ref b), (1, .ref x), (2, .ref w), (4, .int (nI n0))]) hx hb dX0_askedRaw_331 hl (k := 4) rfl (by exact nI_1 _) (by decide) rfl (fun ls hl => ?_)
      refine lv_goto (tgt := 188) hx hb dX0_askedRaw_334 (by decide) ?_
      exact ih (u + 1) (gw_st (gw_st g a11 (gw_bt (gw_cv L xs 12))) a13 (gw_bt (gw_cv L xs 14))) (gw_st ((gw_st h a11 ((gw_bt (gw_cv L xs 12))))) a13 ((gw_bt (gw_cv L xs 14)))) (by omega) (by omega) (gw_st_ag _ _ (gw_st_ag _ _ hg)) H _ (hK.sub (tys' := [(cB, .byte), (cI, .int)]) [0, 1] rfl) (hP.sub (ws' := [gw_wx x t n0, gw_wb t cB (gw_st (gw_st g a11 (gw_bt (gw_cv L xs 12))) a13 (gw_bt (gw_cv L xs 14))), gw_wi w cI 32 (gw_st ((gw_st h a11 ((gw_bt (gw_cv L xs 12))))) a13 ((gw_bt (gw_cv L xs 14))))]) [0, 1, 2] rfl) (hD.sub (ws' := [gw_wx x t n0, gw_wb t cB (gw_st (gw_st g a11 (gw_bt (gw_cv L xs 12))) a13 (gw_bt (gw_cv L xs 14))), gw_wi w cI 32 (gw_st ((gw_st h a11 ((gw_bt (gw_cv L xs 12))))) a13 ((gw_bt (gw_cv L xs 14))))]) [0, 1, 2] (by decide) rfl) hS ls (lv_sub hl [1, 2, 3, 4, 0] rfl)
set_option maxHeartbeats 4000000 in
set_option maxRecDepth 100000 in
/-- askedRaw, the loop at 158 -/
theorem gw_rw2 {p : Program} {l : Launch} {e : Env} {s : State} {m : MethodId} {below : List Frame} {meth : Method} {c : Code} {D : va_G} {b L : Nat} {xs : Nat → Int32} (CC : gw_EC p s m meth c cX0_askedRaw 8 b L xs) (x t : Nat) (cB : ClassId) (w : Nat) (cI : ClassId) (g : gw_G) (q : Nat) (hq : q ≤ 16) (hb2 : ∀ i, i < 16 → g (q + i) = gw_oc (gw_cv L xs (7 + i / 4)) (i % 4)) : ∀ (n : Nat) (i : Nat), 16 < i + n → i ≤ 16 → ∀ (H : Heap) (locs : List Loc) (hK : va_K D gw_Cl [(cB, .byte), (cI, .int)] s) (hP : va_P D gw_Cl [gw_wx x t (q + 16), gw_wb t cB g, gw_wi w cI 32 (gw_fl g (q + i))] H) (hD : va_D (gw_AA s) [gw_wx x t (q + 16), gw_wb t cB g, gw_wi w cI 32 (gw_fl g (q + i))]) (hS : va_S (gw_AA s) s.heap H locs) (ls : Array Slot) (hl : lv_has ls 8 [(0, .ref b), (1, .ref x), (2, .ref w), (3, .int (nI q)), (4, .int (nI (q + 16))), (5, .int (nI i))]), W p l e (gw_R 3 3 4130 72) s m ([.ref b] : List Value).toArray below meth c H locs (3) (4130) (gw_EQ below ([.ref b] : List Value).toArray s 3 4130) (F0 m 158 ls []) := by
  obtain ⟨C0, hr, hlocks, hX, hbl, hL⟩ := id CC
  obtain ⟨hx, hb, hml, hown, hts⟩ := id C0
  have hA : ∀ q : Nat, s.heap.size ≤ q → gw_AA s q := fun _ h => h
  have hbA : ¬ gw_AA s b := Nat.not_le.mpr hbl
  intro n
  induction n with
  | zero =>
    intro i hn hi H locs hK hP hD hS ls hl
    exact absurd hn (by omega)
  | succ n ih =>
    intro i hn hi H locs hK hP hD hS ls hl
    refine lv_iload hx hb dX0_askedRaw_158 (lv_at hl 5 rfl) ?_
    refine lv_bipush (v := nI 16) hx hb dX0_askedRaw_160 (by decide) ?_
    refine gw_c_ge (tgt := 185) hx hb dX0_askedRaw_162 (by decide) (by omega) (by omega) (fun h162 => ?_) (fun h162 => ?_)
    · refine lv_iconst (v := nI 0) hx hb dX0_askedRaw_185 (by decide) ?_
      refine lv_istore (lv' := [(5, .int (nI 0)), (0, .ref b), (1, .ref x), (2, .ref w), (3, .int (nI q)), (4, .int (nI (q + 16)))]) hx hb dX0_askedRaw_186 hl (by decide) rfl (fun ls hl => ?_)
      have hi16 : i = 16 := by omega
      rw [hi16] at hP hD
      exact gw_rwA CC x t cB w cI (q + 16) (by omega) (by omega) 3 0 g (gw_fl g (q + 16)) (by omega) (by omega) (fun j hj => if_pos hj) H _ (hK.sub (tys' := [(cB, .byte), (cI, .int)]) [0, 1] rfl) (hP.sub (ws' := [gw_wx x t (q + 16), gw_wb t cB g, gw_wi w cI 32 (gw_fl g (q + 16))]) [0, 1, 2] rfl) (hD.sub (ws' := [gw_wx x t (q + 16), gw_wb t cB g, gw_wi w cI 32 (gw_fl g (q + 16))]) [0, 1, 2] (by decide) rfl) hS ls (lv_sub hl [1, 2, 3, 5, 0] rfl)
    · refine lv_aload_n hx hb dX0_askedRaw_165 rfl (lv_at hl 2 rfl) ?_
      refine lv_iload_n hx hb dX0_askedRaw_166 rfl (lv_at hl 3 rfl) ?_
      refine lv_iload hx hb dX0_askedRaw_167 (lv_at hl 5 rfl) ?_
      refine gw_add hx hb dX0_askedRaw_169 ?_
      refine lv_aload_n hx hb dX0_askedRaw_170 rfl (lv_at hl 0 rfl) ?_
      refine lv_bipush (v := nI 7) hx hb dX0_askedRaw_171 (by decide) ?_
      refine lv_iload hx hb dX0_askedRaw_173 (lv_at hl 5 rfl) ?_
      refine gw_rS (n := 3) (As := [.ref b, .int (nI 7), .int (nI i)]) (rest := [.int (nI (q + i)), .ref w]) C0 (gw_askedOctet l b L 7 i xs hL (by decide) (by omega)) (lw_S q173 q174 q4 q175) (by decide +kernel) rfl rfl rfl ⟨Nat.le_of_ble_eq_true rfl, Nat.le_of_ble_eq_true rfl⟩ hl rfl (Nat.le_of_ble_eq_true rfl) dX0_askedRaw_175 ⟨Nat.le_of_ble_eq_true rfl, Nat.le_of_ble_eq_true rfl⟩ gw_UXbl (gw_UXmk hX hbl hbA hS) ?_
      refine gw_ist (k := q + i) (g := (gw_fl g (q + i))) (v := (gw_oc (gw_cv L xs (7 + i / 4)) (i % 4))) hx hb hK hP hD hS 2 1 rfl rfl (by omega) (by omega) dX0_askedRaw_178 (fun H locs hP hD hS => ?_)
      have hP : va_P D gw_Cl [gw_wx x t (q + 16), gw_wb t cB g, gw_wi w cI 32 (gw_st ((gw_fl g (q + i))) (q + i) ((gw_oc (gw_cv L xs (7 + i / 4)) (i % 4))))] H := hP
      have hD : va_D (gw_AA s) [gw_wx x t (q + 16), gw_wb t cB g, gw_wi w cI 32 (gw_st ((gw_fl g (q + i))) (q + i) ((gw_oc (gw_cv L xs (7 + i / 4)) (i % 4))))] := hD
      rw [gw_fl_st (hb2 i h162)] at hP hD
      have hP : va_P D gw_Cl [gw_wx x t (q + 16), gw_wb t cB g, gw_wi w cI 32 (gw_fl g (q + (i + 1)))] H := hP
      have hD : va_D (gw_AA s) [gw_wx x t (q + 16), gw_wb t cB g, gw_wi w cI 32 (gw_fl g (q + (i + 1)))] := hD
      refine lv_iinc (v := nI (i + 1)) (lv' := [(5, .int (nI (i + 1))), (0, .ref b), (1, .ref x), (2, .ref w), (3, .int (nI q)), (4, .int (nI (q + 16)))]) hx hb dX0_askedRaw_179 hl (k := 5) rfl (by exact nI_1 _) (by decide) rfl (fun ls hl => ?_)
      refine lv_goto (tgt := 158) hx hb dX0_askedRaw_182 (by decide) ?_
      exact ih (i + 1) (by omega) (by omega) H _ (hK.sub (tys' := [(cB, .byte), (cI, .int)]) [0, 1] rfl) (hP.sub (ws' := [gw_wx x t (q + 16), gw_wb t cB g, gw_wi w cI 32 (gw_fl g (q + (i + 1)))]) [0, 1, 2] rfl) (hD.sub (ws' := [gw_wx x t (q + 16), gw_wb t cB g, gw_wi w cI 32 (gw_fl g (q + (i + 1)))]) [0, 1, 2] (by decide) rfl) hS ls (lv_sub hl [1, 2, 3, 4, 5, 0] rfl)
set_option maxHeartbeats 4000000 in
set_option maxRecDepth 100000 in
/-- askedRaw, the loop at 132 -/
theorem gw_rw1 {p : Program} {l : Launch} {e : Env} {s : State} {m : MethodId} {below : List Frame} {meth : Method} {c : Code} {D : va_G} {b L : Nat} {xs : Nat → Int32} (CC : gw_EC p s m meth c cX0_askedRaw 8 b L xs) (x t : Nat) (cB : ClassId) (w : Nat) (cI : ClassId) (g : gw_G) (q : Nat) (hq : q ≤ 16) (hb1 : ∀ i, i < q → g i = gw_oc (gw_cv L xs (3 + i / 4)) (i % 4)) (hb2 : ∀ i, i < 16 → g (q + i) = gw_oc (gw_cv L xs (7 + i / 4)) (i % 4)) : ∀ (n : Nat) (i : Nat), q < i + n → i ≤ q → ∀ (H : Heap) (locs : List Loc) (hK : va_K D gw_Cl [(cB, .byte), (cI, .int)] s) (hP : va_P D gw_Cl [gw_wx x t (q + 16), gw_wb t cB g, gw_wi w cI 32 (gw_fl g i)] H) (hD : va_D (gw_AA s) [gw_wx x t (q + 16), gw_wb t cB g, gw_wi w cI 32 (gw_fl g i)]) (hS : va_S (gw_AA s) s.heap H locs) (ls : Array Slot) (hl : lv_has ls 8 [(0, .ref b), (1, .ref x), (2, .ref w), (3, .int (nI q)), (4, .int (nI (q + 16))), (5, .int (nI i))]), W p l e (gw_R 3 3 4130 72) s m ([.ref b] : List Value).toArray below meth c H locs (3) (4130) (gw_EQ below ([.ref b] : List Value).toArray s 3 4130) (F0 m 132 ls []) := by
  obtain ⟨C0, hr, hlocks, hX, hbl, hL⟩ := id CC
  obtain ⟨hx, hb, hml, hown, hts⟩ := id C0
  have hA : ∀ q : Nat, s.heap.size ≤ q → gw_AA s q := fun _ h => h
  have hbA : ¬ gw_AA s b := Nat.not_le.mpr hbl
  intro n
  induction n with
  | zero =>
    intro i hn hi H locs hK hP hD hS ls hl
    exact absurd hn (by omega)
  | succ n ih =>
    intro i hn hi H locs hK hP hD hS ls hl
    refine lv_iload hx hb dX0_askedRaw_132 (lv_at hl 5 rfl) ?_
    refine lv_iload_n hx hb dX0_askedRaw_134 rfl (lv_at hl 3 rfl) ?_
    refine gw_c_ge (tgt := 155) hx hb dX0_askedRaw_135 (by decide) (by omega) (by omega) (fun h135 => ?_) (fun h135 => ?_)
    · refine lv_iconst (v := nI 0) hx hb dX0_askedRaw_155 (by decide) ?_
      refine lv_istore (lv' := [(5, .int (nI 0)), (0, .ref b), (1, .ref x), (2, .ref w), (3, .int (nI q)), (4, .int (nI (q + 16)))]) hx hb dX0_askedRaw_156 hl (by decide) rfl (fun ls hl => ?_)
      have hiq : i = q := by omega
      subst hiq
      exact gw_rw2 CC x t cB w cI g i hq hb2 17 0 (by omega) (by omega) H _ hK hP hD hS ls (lv_sub hl [1, 2, 3, 4, 5, 0] rfl)
    · refine lv_aload_n hx hb dX0_askedRaw_138 rfl (lv_at hl 2 rfl) ?_
      refine lv_iload hx hb dX0_askedRaw_139 (lv_at hl 5 rfl) ?_
      refine lv_aload_n hx hb dX0_askedRaw_141 rfl (lv_at hl 0 rfl) ?_
      refine lv_iconst (v := nI 3) hx hb dX0_askedRaw_142 (by decide) ?_
      refine lv_iload hx hb dX0_askedRaw_143 (lv_at hl 5 rfl) ?_
      refine gw_rS (n := 3) (As := [.ref b, .int (nI 3), .int (nI i)]) (rest := [.int (nI i), .ref w]) C0 (gw_askedOctet l b L 3 i xs hL (by decide) (by omega)) (lw_S q173 q174 q4 q175) (by decide +kernel) rfl rfl rfl ⟨Nat.le_of_ble_eq_true rfl, Nat.le_of_ble_eq_true rfl⟩ hl rfl (Nat.le_of_ble_eq_true rfl) dX0_askedRaw_145 ⟨Nat.le_of_ble_eq_true rfl, Nat.le_of_ble_eq_true rfl⟩ gw_UXbl (gw_UXmk hX hbl hbA hS) ?_
      refine gw_ist (k := i) (g := (gw_fl g i)) (v := (gw_oc (gw_cv L xs (3 + i / 4)) (i % 4))) hx hb hK hP hD hS 2 1 rfl rfl (by omega) (by omega) dX0_askedRaw_148 (fun H locs hP hD hS => ?_)
      have hP : va_P D gw_Cl [gw_wx x t (q + 16), gw_wb t cB g, gw_wi w cI 32 (gw_st ((gw_fl g i)) i ((gw_oc (gw_cv L xs (3 + i / 4)) (i % 4))))] H := hP
      have hD : va_D (gw_AA s) [gw_wx x t (q + 16), gw_wb t cB g, gw_wi w cI 32 (gw_st ((gw_fl g i)) i ((gw_oc (gw_cv L xs (3 + i / 4)) (i % 4))))] := hD
      rw [gw_fl_st (hb1 i h135)] at hP hD
      have hP : va_P D gw_Cl [gw_wx x t (q + 16), gw_wb t cB g, gw_wi w cI 32 (gw_fl g (i + 1))] H := hP
      have hD : va_D (gw_AA s) [gw_wx x t (q + 16), gw_wb t cB g, gw_wi w cI 32 (gw_fl g (i + 1))] := hD
      refine lv_iinc (v := nI (i + 1)) (lv' := [(5, .int (nI (i + 1))), (0, .ref b), (1, .ref x), (2, .ref w), (3, .int (nI q)), (4, .int (nI (q + 16)))]) hx hb dX0_askedRaw_149 hl (k := 5) rfl (by exact nI_1 _) (by decide) rfl (fun ls hl => ?_)
      refine lv_goto (tgt := 132) hx hb dX0_askedRaw_152 (by decide) ?_
      exact ih (i + 1) (by omega) (by omega) H _ (hK.sub (tys' := [(cB, .byte), (cI, .int)]) [0, 1] rfl) (hP.sub (ws' := [gw_wx x t (q + 16), gw_wb t cB g, gw_wi w cI 32 (gw_fl g (i + 1))]) [0, 1, 2] rfl) (hD.sub (ws' := [gw_wx x t (q + 16), gw_wb t cB g, gw_wi w cI 32 (gw_fl g (i + 1))]) [0, 1, 2] (by decide) rfl) hS ls (lv_sub hl [1, 2, 3, 4, 5, 0] rfl)
set_option maxHeartbeats 4000000 in
set_option maxRecDepth 100000 in
/-- askedRaw(s) is true, for every script of at most 40 ints -/
theorem gw_raw (l : Launch) (D : va_G) (b L sz : Nat) (xs : Nat → Int32) (hL : L ≤ 40) : Met l yX0_askedRaw (ws_ yX0_askedRaw cX0_askedRaw 8 (some .boolean)) (gw_R 3 3 4130 72) (va_Pc [.ref b] (fun U => U.heap.size = sz ∧ gw_UX b L xs U ∧ va_K D gw_Cl [] U)) (va_Qi (fun (z : Int32) (_ : Unit) => z = 1) (fun _ _ => True) (fun q => sz ≤ q)) 3 4130 (fun q => sz ≤ q) := by
  refine gw_met [.ref b] "WireTextLaw" rfl (by decide) (Nat.le_of_ble_eq_true rfl) ?_
  intro p e s m below meth c ls C0 hr hlocks hname hl hU
  obtain ⟨hx, hb, hml, hown, hts⟩ := id C0
  obtain ⟨hsz, ⟨hX, hbl⟩, hK⟩ := hU
  subst hsz
  have CC : gw_EC p s m meth c cX0_askedRaw 8 b L xs := ⟨C0, hr, hlocks, hX, hbl, hL⟩
  have hA : ∀ q : Nat, s.heap.size ≤ q → gw_AA s q := fun _ h => h
  have hbA : ¬ gw_AA s b := Nat.not_le.mpr hbl
  have hS : va_S (gw_AA s) s.heap s.heap [] := va_S.rf
  have hP : va_P D gw_Cl [] s.heap := fun k q h => by simp at h
  have hD : va_D (gw_AA s) [] := ⟨fun i j p q h => by simp at h, fun k q h => by simp at h⟩
  have hl : lv_has ls 8 [(0, .ref b)] := hl
  refine va_new (ci := 0) (fs := [.null, .int 0]) (C := RX1) (T := TX1) (N := 2) hx hb hts in_X1 tyX1 tyX1_ok hown (hts _ q15) (hts _ q16) (hts _ q5) hK hP hD hS hA rfl (fun j hj => by rcases (show j = 0 ∨ j = 1 by omega) with rfl | rfl <;> rfl) (Nat.le_of_ble_eq_true rfl) (Nat.le_of_ble_eq_true rfl) dX0_askedRaw_0 (fun x H hP hD hS => ?_)
  have hP : va_P D gw_Cl [(x, .inr (0, [.null, .int 0]))] H := hP
  have hD : va_D (gw_AA s) [(x, .inr (0, [.null, .int 0]))] := hD
  refine lv_dup hx hb dX0_askedRaw_3 rfl ?_
  have hFc := va_free (wc := [(x, .inr (0, [.null, .int 0]))]) hD hS hA [0] rfl
  refine va_callv (va_runI (As := []) (rest := [.ref x]) C0 (gw_init l D x H.size) (cwI 0 hts (lw_meth q19) rfl rfl rfl (hts _ q5) (hts _ q17) (hts _ q18) rfl (by decide +kernel) ⟨Nat.le_of_ble_eq_true rfl, Nat.le_of_ble_eq_true rfl⟩) ⟨fun a U g mk q => ⟨q.1, gw_UWbl a U g mk q.2⟩, fun U hU hW => ⟨rfl, gw_UWmk (hP.sub (ws' := [(x, .inr (0, [.null, .int 0]))]) [0] rfl) (hK.sub (tys' := []) [] rfl) (hD.sub (ws' := [(x, .inr (0, [.null, .int 0]))]) [0] (by decide) rfl) U hU hW.alike⟩⟩ rfl rfl hl.1 rfl (lv_room (Nat.le_of_ble_eq_true rfl)) dX0_askedRaw_4 ⟨Nat.le_of_ble_eq_true rfl, Nat.le_of_ble_eq_true rfl⟩) hS (fun q _ h => hFc q h) hFc (fun u T H1 locs ht hvm hw1 hB hz1 hk1 hS => ?_)
  obtain ⟨t, cB, hP1, hK1, hD1⟩ := hB
  rw [ht] at hP1
  have hK1 := va_K.moved hvm.symm hK1
  obtain ⟨hP, hD⟩ := va_join (wr := []) (w1 := [gw_wx x t 0, gw_wb t cB (fun _ => 0)]) hP hD [0] [] rfl rfl (by decide) (by decide) hk1 hFc hP1 hD1
  have hK := (hK.sub (tys' := []) [] rfl).app hK1
  generalize H1 = H at hP hS ⊢
  have hP : va_P D gw_Cl [gw_wx x t 0, gw_wb t cB (fun _ => 0)] H := hP
  have hD : va_D (gw_AA s) [gw_wx x t 0, gw_wb t cB (fun _ => 0)] := hD
  have hK : va_K D gw_Cl [(cB, .byte)] s := hK
  refine W.widen (k := 2) (n := 4098) (by omega) (by omega) ?_
  refine lv_astore_n (lv' := [(1, .ref x), (0, .ref b)]) hx hb dX0_askedRaw_7 rfl hl (by decide) rfl (fun ls hl => ?_)
  refine lv_bipush (v := nI 32) hx hb dX0_askedRaw_8 (by decide) ?_
  refine va_newa (atype := .int) (ty := .int) (N' := 32) (a0 := (32, .inl (fun j => nI ((fun _ => 0 : gw_G) j).val))) hx hb (hts _ q145) rfl hK hP hD hS hA (fun cA => rfl) (by decide) (by decide) (by decide) (Nat.le_of_ble_eq_true rfl) (Nat.le_of_ble_eq_true rfl) dX0_askedRaw_10 (fun w cI H hK hP hD hS => ?_)
  have hP : va_P D gw_Cl [gw_wx x t 0, gw_wb t cB (fun _ => 0), gw_wi w cI 32 (fun _ => 0)] H := hP
  have hD : va_D (gw_AA s) [gw_wx x t 0, gw_wb t cB (fun _ => 0), gw_wi w cI 32 (fun _ => 0)] := hD
  have hK : va_K D gw_Cl [(cB, .byte), (cI, .int)] s := hK
  refine W.widen (k := 3) (n := 4130) (by omega) (by omega) ?_
  refine lv_astore_n (lv' := [(2, .ref w), (1, .ref x), (0, .ref b)]) hx hb dX0_askedRaw_12 rfl hl (by decide) rfl (fun ls hl => ?_)
  refine lv_aload_n hx hb dX0_askedRaw_13 rfl (lv_at hl 1 rfl) ?_
  refine lv_aload_n hx hb dX0_askedRaw_14 rfl (lv_at hl 2 rfl) ?_
  refine lv_iconst (v := nI 3) hx hb dX0_askedRaw_15 (by decide) ?_
  refine gw_rS (n := 2) (As := [.ref b, .int (nI 3)]) (rest := [.ref x]) C0 (gw_askedCell l b L 3 xs hL (by decide)) (lw_S q170 q171 q4 q172) (by decide +kernel) rfl rfl rfl ⟨Nat.le_of_ble_eq_true rfl, Nat.le_of_ble_eq_true rfl⟩ hl rfl (Nat.le_of_ble_eq_true rfl) dX0_askedRaw_16 ⟨Nat.le_of_ble_eq_true rfl, Nat.le_of_ble_eq_true rfl⟩ gw_UXbl (gw_UXmk hX hbl hbA hS) ?_
  refine lv_aload_n hx hb dX0_askedRaw_19 rfl (lv_at hl 2 rfl) ?_
  refine lv_iconst (v := nI 4) hx hb dX0_askedRaw_20 (by decide) ?_
  refine gw_rS (n := 2) (As := [.ref b, .int (nI 4)]) (rest := [.int (gw_cv L xs 3), .ref x]) C0 (gw_askedCell l b L 4 xs hL (by decide)) (lw_S q170 q171 q4 q172) (by decide +kernel) rfl rfl rfl ⟨Nat.le_of_ble_eq_true rfl, Nat.le_of_ble_eq_true rfl⟩ hl rfl (Nat.le_of_ble_eq_true rfl) dX0_askedRaw_21 ⟨Nat.le_of_ble_eq_true rfl, Nat.le_of_ble_eq_true rfl⟩ gw_UXbl (gw_UXmk hX hbl hbA hS) ?_
  refine lv_aload_n hx hb dX0_askedRaw_24 rfl (lv_at hl 2 rfl) ?_
  refine lv_iconst (v := nI 5) hx hb dX0_askedRaw_25 (by decide) ?_
  refine gw_rS (n := 2) (As := [.ref b, .int (nI 5)]) (rest := [.int (gw_cv L xs 4), .int (gw_cv L xs 3), .ref x]) C0 (gw_askedCell l b L 5 xs hL (by decide)) (lw_S q170 q171 q4 q172) (by decide +kernel) rfl rfl rfl ⟨Nat.le_of_ble_eq_true rfl, Nat.le_of_ble_eq_true rfl⟩ hl rfl (Nat.le_of_ble_eq_true rfl) dX0_askedRaw_26 ⟨Nat.le_of_ble_eq_true rfl, Nat.le_of_ble_eq_true rfl⟩ gw_UXbl (gw_UXmk hX hbl hbA hS) ?_
  refine lv_aload_n hx hb dX0_askedRaw_29 rfl (lv_at hl 2 rfl) ?_
  refine lv_bipush (v := nI 6) hx hb dX0_askedRaw_30 (by decide) ?_
  refine gw_rS (n := 2) (As := [.ref b, .int (nI 6)]) (rest := [.int (gw_cv L xs 5), .int (gw_cv L xs 4), .int (gw_cv L xs 3), .ref x]) C0 (gw_askedCell l b L 6 xs hL (by decide)) (lw_S q170 q171 q4 q172) (by decide +kernel) rfl rfl rfl ⟨Nat.le_of_ble_eq_true rfl, Nat.le_of_ble_eq_true rfl⟩ hl rfl (Nat.le_of_ble_eq_true rfl) dX0_askedRaw_32 ⟨Nat.le_of_ble_eq_true rfl, Nat.le_of_ble_eq_true rfl⟩ gw_UXbl (gw_UXmk hX hbl hbA hS) ?_
  refine gw_wVi (n := 4) (As := [.int (gw_cv L xs 3), .int (gw_cv L xs 4), .int (gw_cv L xs 5), .int (gw_cv L xs 6)]) (rest := []) (wc := [gw_wx x t 0, gw_wb t cB (fun _ => 0)]) (wr := [gw_wi w cI 32 (fun _ => 0)]) (wF := [gw_wx x t (0 + 16), gw_wb t cB (gw_pf (fun _ => 0) 0 (gw_cv L xs 3) (gw_cv L xs 4) (gw_cv L xs 5) (gw_cv L xs 6)), gw_wi w cI 32 (fun _ => 0)]) (tc := [(cB, .byte)]) [0, 1] [2] [1, 2, 0] [0] C0 (gw_put l D x t cB 0 (fun _ => 0) H.size (gw_cv L xs 3) (gw_cv L xs 4) (gw_cv L xs 5) (gw_cv L xs 6) (by decide)) (lw_V q31 q32 q33 q5 q34) (by decide +kernel) rfl rfl rfl ⟨Nat.le_of_ble_eq_true rfl, Nat.le_of_ble_eq_true rfl⟩ hl rfl (Nat.le_of_ble_eq_true rfl) dX0_askedRaw_35 ⟨Nat.le_of_ble_eq_true rfl, Nat.le_of_ble_eq_true rfl⟩ (va_recv hK hP (ci := 0) (q0 := 0) rfl rfl) hK hP hD hS hA rfl rfl (by decide) rfl (by decide) (by decide) rfl rfl rfl (by decide) (fun H locs hP hD hS => ?_)
  refine W.widen (k := 3) (n := 4130) (Nat.le_refl _) (Nat.le_refl _) ?_
  have hP : va_P D gw_Cl [gw_wx x t 16, gw_wb t cB (gw_pf (fun _ => 0) 0 (gw_cv L xs 3) (gw_cv L xs 4) (gw_cv L xs 5) (gw_cv L xs 6)), gw_wi w cI 32 (fun _ => 0)] H := hP
  have hD : va_D (gw_AA s) [gw_wx x t 16, gw_wb t cB (gw_pf (fun _ => 0) 0 (gw_cv L xs 3) (gw_cv L xs 4) (gw_cv L xs 5) (gw_cv L xs 6)), gw_wi w cI 32 (fun _ => 0)] := hD
  refine gw_z_eq (tgt := 50) hx hb dX0_askedRaw_38 (by decide) (by decide) (fun h38 => absurd h38 (by cases h38)) (fun h38 => ?_)
  refine lv_aload_n hx hb dX0_askedRaw_41 rfl (lv_at hl 1 rfl) ?_
  refine gw_rV (n := 0) (As := []) (rest := []) C0 (gw_size l D x t 16) (lw_V q62 q63 q64 q5 q65) (by decide +kernel) rfl rfl rfl ⟨Nat.le_of_ble_eq_true rfl, Nat.le_of_ble_eq_true rfl⟩ hl rfl (Nat.le_of_ble_eq_true rfl) dX0_askedRaw_42 ⟨Nat.le_of_ble_eq_true rfl, Nat.le_of_ble_eq_true rfl⟩ (va_recv hK hP (ci := 0) (q0 := 0) rfl rfl) gw_Ubl (gw_Umk (hP.sub (ws' := [gw_wx x t 16]) [0] rfl) (hK.sub (tys' := []) [] rfl)) ?_
  refine lv_bipush (v := nI 16) hx hb dX0_askedRaw_45 (by decide) ?_
  refine gw_c_eq (tgt := 52) hx hb dX0_askedRaw_47 (by decide) (by omega) (by omega) (fun _ => ?_) (fun h => (h rfl).elim)
  refine lv_aload_n hx hb dX0_askedRaw_52 rfl (lv_at hl 2 rfl) ?_
  refine lv_iconst (v := nI 2) hx hb dX0_askedRaw_53 (by decide) ?_
  refine gw_rS (n := 2) (As := [.ref b, .int (nI 2)]) (rest := []) C0 (gw_askedCell l b L 2 xs hL (by decide)) (lw_S q170 q171 q4 q172) (by decide +kernel) rfl rfl rfl ⟨Nat.le_of_ble_eq_true rfl, Nat.le_of_ble_eq_true rfl⟩ hl rfl (Nat.le_of_ble_eq_true rfl) dX0_askedRaw_54 ⟨Nat.le_of_ble_eq_true rfl, Nat.le_of_ble_eq_true rfl⟩ gw_UXbl (gw_UXmk hX hbl hbA hS) ?_
  refine lv_ldc (v := (2147483647 : Int32)) hx hb hown (hts _ q153) dX0_askedRaw_57 ?_
  refine gw_aM hx hb dX0_askedRaw_59 ?_
  refine lv_bipush (v := nI 17) hx hb dX0_askedRaw_60 (by decide) ?_
  refine gw_rem hx hb dX0_askedRaw_62 (gw_ms_lt _) (by decide) (by decide) ?_
  obtain ⟨q, hq⟩ : ∃ q, q = gw_ms (gw_cv L xs 2) % 17 := ⟨_, rfl⟩
  have hq2 : q ≤ 16 := by have := Nat.mod_lt (gw_ms (gw_cv L xs 2)) (show 0 < 17 by decide); omega
  refine gw_int (y := nI q) (by rw [hq]) ?_
  refine lv_istore_n (lv' := [(3, .int (nI q)), (2, .ref w), (1, .ref x), (0, .ref b)]) hx hb dX0_askedRaw_63 rfl hl (by decide) rfl (fun ls hl => ?_)
  refine lv_iload_n hx hb dX0_askedRaw_64 rfl (lv_at hl 0 rfl) ?_
  refine lv_bipush (v := nI 16) hx hb dX0_askedRaw_65 (by decide) ?_
  refine gw_add hx hb dX0_askedRaw_67 ?_
  refine lv_istore (lv' := [(4, .int (nI (q + 16))), (3, .int (nI q)), (2, .ref w), (1, .ref x), (0, .ref b)]) hx hb dX0_askedRaw_68 hl (by decide) rfl (fun ls hl => ?_)
  refine lv_aload_n hx hb dX0_askedRaw_70 rfl (lv_at hl 3 rfl) ?_
  refine lv_aload_n hx hb dX0_askedRaw_71 rfl (lv_at hl 4 rfl) ?_
  refine lv_iconst (v := nI 2) hx hb dX0_askedRaw_72 (by decide) ?_
  refine gw_rS (n := 2) (As := [.ref b, .int (nI 2)]) (rest := [.ref x]) C0 (gw_askedCell l b L 2 xs hL (by decide)) (lw_S q170 q171 q4 q172) (by decide +kernel) rfl rfl rfl ⟨Nat.le_of_ble_eq_true rfl, Nat.le_of_ble_eq_true rfl⟩ hl rfl (Nat.le_of_ble_eq_true rfl) dX0_askedRaw_73 ⟨Nat.le_of_ble_eq_true rfl, Nat.le_of_ble_eq_true rfl⟩ gw_UXbl (gw_UXmk hX hbl hbA hS) ?_
  refine gw_wV (n := 1) (As := [.int (gw_cv L xs 2)]) (rest := []) (wc := [gw_wx x t 16]) (wr := [gw_wb t cB (gw_pf (fun _ => 0) 0 (gw_cv L xs 3) (gw_cv L xs 4) (gw_cv L xs 5) (gw_cv L xs 6)), gw_wi w cI 32 (fun _ => 0)]) (wF := [gw_wx x t (gw_ms (gw_cv L xs 2) % (16 + 1)), gw_wb t cB (gw_pf (fun _ => 0) 0 (gw_cv L xs 3) (gw_cv L xs 4) (gw_cv L xs 5) (gw_cv L xs 6)), gw_wi w cI 32 (fun _ => 0)]) (tc := []) [0] [1, 2] [2, 0, 1] [] C0 (gw_trim l D x t 16 H.size (gw_cv L xs 2) (by omega)) (lw_V q54 q55 q56 q5 q57) (by decide +kernel) rfl rfl rfl ⟨Nat.le_of_ble_eq_true rfl, Nat.le_of_ble_eq_true rfl⟩ hl rfl (Nat.le_of_ble_eq_true rfl) dX0_askedRaw_76 ⟨Nat.le_of_ble_eq_true rfl, Nat.le_of_ble_eq_true rfl⟩ (va_recv hK hP (ci := 0) (q0 := 0) rfl rfl) hK hP hD hS hA rfl rfl (by decide) rfl (by decide) (by decide) rfl rfl rfl (by decide) (fun H locs hP hD hS => ?_)
  refine W.widen (k := 3) (n := 4130) (Nat.le_refl _) (Nat.le_refl _) ?_
  have hm : gw_ms (gw_cv L xs 2) % (16 + 1) = q := hq.symm
  rw [hm] at hP hD
  have hP : va_P D gw_Cl [gw_wx x t q, gw_wb t cB (gw_pf (fun _ => 0) 0 (gw_cv L xs 3) (gw_cv L xs 4) (gw_cv L xs 5) (gw_cv L xs 6)), gw_wi w cI 32 (fun _ => 0)] H := hP
  have hD : va_D (gw_AA s) [gw_wx x t q, gw_wb t cB (gw_pf (fun _ => 0) 0 (gw_cv L xs 3) (gw_cv L xs 4) (gw_cv L xs 5) (gw_cv L xs 6)), gw_wi w cI 32 (fun _ => 0)] := hD
  refine lv_aload_n hx hb dX0_askedRaw_79 rfl (lv_at hl 3 rfl) ?_
  refine gw_rV (n := 0) (As := []) (rest := []) C0 (gw_size l D x t q) (lw_V q62 q63 q64 q5 q65) (by decide +kernel) rfl rfl rfl ⟨Nat.le_of_ble_eq_true rfl, Nat.le_of_ble_eq_true rfl⟩ hl rfl (Nat.le_of_ble_eq_true rfl) dX0_askedRaw_80 ⟨Nat.le_of_ble_eq_true rfl, Nat.le_of_ble_eq_true rfl⟩ (va_recv hK hP (ci := 0) (q0 := 0) rfl rfl) gw_Ubl (gw_Umk (hP.sub (ws' := [gw_wx x t q]) [0] rfl) (hK.sub (tys' := []) [] rfl)) ?_
  refine lv_iload_n hx hb dX0_askedRaw_83 rfl (lv_at hl 1 rfl) ?_
  refine gw_c_ne (tgt := 127) hx hb dX0_askedRaw_84 (by decide) (by omega) (by omega) (fun h => (h rfl).elim) (fun _ => ?_)
  refine lv_aload_n hx hb dX0_askedRaw_87 rfl (lv_at hl 3 rfl) ?_
  refine lv_aload_n hx hb dX0_askedRaw_88 rfl (lv_at hl 4 rfl) ?_
  refine lv_bipush (v := nI 7) hx hb dX0_askedRaw_89 (by decide) ?_
  refine gw_rS (n := 2) (As := [.ref b, .int (nI 7)]) (rest := [.ref x]) C0 (gw_askedCell l b L 7 xs hL (by decide)) (lw_S q170 q171 q4 q172) (by decide +kernel) rfl rfl rfl ⟨Nat.le_of_ble_eq_true rfl, Nat.le_of_ble_eq_true rfl⟩ hl rfl (Nat.le_of_ble_eq_true rfl) dX0_askedRaw_91 ⟨Nat.le_of_ble_eq_true rfl, Nat.le_of_ble_eq_true rfl⟩ gw_UXbl (gw_UXmk hX hbl hbA hS) ?_
  refine lv_aload_n hx hb dX0_askedRaw_94 rfl (lv_at hl 4 rfl) ?_
  refine lv_bipush (v := nI 8) hx hb dX0_askedRaw_95 (by decide) ?_
  refine gw_rS (n := 2) (As := [.ref b, .int (nI 8)]) (rest := [.int (gw_cv L xs 7), .ref x]) C0 (gw_askedCell l b L 8 xs hL (by decide)) (lw_S q170 q171 q4 q172) (by decide +kernel) rfl rfl rfl ⟨Nat.le_of_ble_eq_true rfl, Nat.le_of_ble_eq_true rfl⟩ hl rfl (Nat.le_of_ble_eq_true rfl) dX0_askedRaw_97 ⟨Nat.le_of_ble_eq_true rfl, Nat.le_of_ble_eq_true rfl⟩ gw_UXbl (gw_UXmk hX hbl hbA hS) ?_
  refine lv_aload_n hx hb dX0_askedRaw_100 rfl (lv_at hl 4 rfl) ?_
  refine lv_bipush (v := nI 9) hx hb dX0_askedRaw_101 (by decide) ?_
  refine gw_rS (n := 2) (As := [.ref b, .int (nI 9)]) (rest := [.int (gw_cv L xs 8), .int (gw_cv L xs 7), .ref x]) C0 (gw_askedCell l b L 9 xs hL (by decide)) (lw_S q170 q171 q4 q172) (by decide +kernel) rfl rfl rfl ⟨Nat.le_of_ble_eq_true rfl, Nat.le_of_ble_eq_true rfl⟩ hl rfl (Nat.le_of_ble_eq_true rfl) dX0_askedRaw_103 ⟨Nat.le_of_ble_eq_true rfl, Nat.le_of_ble_eq_true rfl⟩ gw_UXbl (gw_UXmk hX hbl hbA hS) ?_
  refine lv_aload_n hx hb dX0_askedRaw_106 rfl (lv_at hl 4 rfl) ?_
  refine lv_bipush (v := nI 10) hx hb dX0_askedRaw_107 (by decide) ?_
  refine gw_rS (n := 2) (As := [.ref b, .int (nI 10)]) (rest := [.int (gw_cv L xs 9), .int (gw_cv L xs 8), .int (gw_cv L xs 7), .ref x]) C0 (gw_askedCell l b L 10 xs hL (by decide)) (lw_S q170 q171 q4 q172) (by decide +kernel) rfl rfl rfl ⟨Nat.le_of_ble_eq_true rfl, Nat.le_of_ble_eq_true rfl⟩ hl rfl (Nat.le_of_ble_eq_true rfl) dX0_askedRaw_109 ⟨Nat.le_of_ble_eq_true rfl, Nat.le_of_ble_eq_true rfl⟩ gw_UXbl (gw_UXmk hX hbl hbA hS) ?_
  refine gw_wVi (n := 4) (As := [.int (gw_cv L xs 7), .int (gw_cv L xs 8), .int (gw_cv L xs 9), .int (gw_cv L xs 10)]) (rest := []) (wc := [gw_wx x t q, gw_wb t cB (gw_pf (fun _ => 0) 0 (gw_cv L xs 3) (gw_cv L xs 4) (gw_cv L xs 5) (gw_cv L xs 6))]) (wr := [gw_wi w cI 32 (fun _ => 0)]) (wF := [gw_wx x t (q + 16), gw_wb t cB (gw_pf (gw_pf (fun _ => 0) 0 (gw_cv L xs 3) (gw_cv L xs 4) (gw_cv L xs 5) (gw_cv L xs 6)) q (gw_cv L xs 7) (gw_cv L xs 8) (gw_cv L xs 9) (gw_cv L xs 10)), gw_wi w cI 32 (fun _ => 0)]) (tc := [(cB, .byte)]) [0, 1] [2] [1, 2, 0] [0] C0 (gw_put l D x t cB q (gw_pf (fun _ => 0) 0 (gw_cv L xs 3) (gw_cv L xs 4) (gw_cv L xs 5) (gw_cv L xs 6)) H.size (gw_cv L xs 7) (gw_cv L xs 8) (gw_cv L xs 9) (gw_cv L xs 10) (by omega)) (lw_V q31 q32 q33 q5 q34) (by decide +kernel) rfl rfl rfl ⟨Nat.le_of_ble_eq_true rfl, Nat.le_of_ble_eq_true rfl⟩ hl rfl (Nat.le_of_ble_eq_true rfl) dX0_askedRaw_112 ⟨Nat.le_of_ble_eq_true rfl, Nat.le_of_ble_eq_true rfl⟩ (va_recv hK hP (ci := 0) (q0 := 0) rfl rfl) hK hP hD hS hA rfl rfl (by decide) rfl (by decide) (by decide) rfl rfl rfl (by decide) (fun H locs hP hD hS => ?_)
  refine W.widen (k := 3) (n := 4130) (Nat.le_refl _) (Nat.le_refl _) ?_
  have hP : va_P D gw_Cl [gw_wx x t (q + 16), gw_wb t cB (gw_pf (gw_pf (fun _ => 0) 0 (gw_cv L xs 3) (gw_cv L xs 4) (gw_cv L xs 5) (gw_cv L xs 6)) q (gw_cv L xs 7) (gw_cv L xs 8) (gw_cv L xs 9) (gw_cv L xs 10)), gw_wi w cI 32 (fun _ => 0)] H := hP
  have hD : va_D (gw_AA s) [gw_wx x t (q + 16), gw_wb t cB (gw_pf (gw_pf (fun _ => 0) 0 (gw_cv L xs 3) (gw_cv L xs 4) (gw_cv L xs 5) (gw_cv L xs 6)) q (gw_cv L xs 7) (gw_cv L xs 8) (gw_cv L xs 9) (gw_cv L xs 10)), gw_wi w cI 32 (fun _ => 0)] := hD
  refine gw_z_eq (tgt := 127) hx hb dX0_askedRaw_115 (by decide) (by decide) (fun h115 => absurd h115 (by cases h115)) (fun h115 => ?_)
  refine lv_aload_n hx hb dX0_askedRaw_118 rfl (lv_at hl 3 rfl) ?_
  refine gw_rV (n := 0) (As := []) (rest := []) C0 (gw_size l D x t (q + 16)) (lw_V q62 q63 q64 q5 q65) (by decide +kernel) rfl rfl rfl ⟨Nat.le_of_ble_eq_true rfl, Nat.le_of_ble_eq_true rfl⟩ hl rfl (Nat.le_of_ble_eq_true rfl) dX0_askedRaw_119 ⟨Nat.le_of_ble_eq_true rfl, Nat.le_of_ble_eq_true rfl⟩ (va_recv hK hP (ci := 0) (q0 := 0) rfl rfl) gw_Ubl (gw_Umk (hP.sub (ws' := [gw_wx x t (q + 16)]) [0] rfl) (hK.sub (tys' := []) [] rfl)) ?_
  refine lv_iload hx hb dX0_askedRaw_122 (lv_at hl 0 rfl) ?_
  refine gw_c_eq (tgt := 129) hx hb dX0_askedRaw_124 (by decide) (by omega) (by omega) (fun _ => ?_) (fun h => (h rfl).elim)
  refine lv_iconst (v := nI 0) hx hb dX0_askedRaw_129 (by decide) ?_
  refine lv_istore (lv' := [(5, .int (nI 0)), (4, .int (nI (q + 16))), (3, .int (nI q)), (2, .ref w), (1, .ref x), (0, .ref b)]) hx hb dX0_askedRaw_130 hl (by decide) rfl (fun ls hl => ?_)
  rw [← gw_fl0 (gw_pf (gw_pf (fun _ => 0) 0 (gw_cv L xs 3) (gw_cv L xs 4) (gw_cv L xs 5) (gw_cv L xs 6)) q (gw_cv L xs 7) (gw_cv L xs 8) (gw_cv L xs 9) (gw_cv L xs 10))] at hP hD
  have hP : va_P D gw_Cl [gw_wx x t (q + 16), gw_wb t cB (gw_pf (gw_pf (fun _ => 0) 0 (gw_cv L xs 3) (gw_cv L xs 4) (gw_cv L xs 5) (gw_cv L xs 6)) q (gw_cv L xs 7) (gw_cv L xs 8) (gw_cv L xs 9) (gw_cv L xs 10)), gw_wi w cI 32 (gw_fl (gw_pf (gw_pf (fun _ => 0) 0 (gw_cv L xs 3) (gw_cv L xs 4) (gw_cv L xs 5) (gw_cv L xs 6)) q (gw_cv L xs 7) (gw_cv L xs 8) (gw_cv L xs 9) (gw_cv L xs 10)) 0)] H := hP
  have hD : va_D (gw_AA s) [gw_wx x t (q + 16), gw_wb t cB (gw_pf (gw_pf (fun _ => 0) 0 (gw_cv L xs 3) (gw_cv L xs 4) (gw_cv L xs 5) (gw_cv L xs 6)) q (gw_cv L xs 7) (gw_cv L xs 8) (gw_cv L xs 9) (gw_cv L xs 10)), gw_wi w cI 32 (gw_fl (gw_pf (gw_pf (fun _ => 0) 0 (gw_cv L xs 3) (gw_cv L xs 4) (gw_cv L xs 5) (gw_cv L xs 6)) q (gw_cv L xs 7) (gw_cv L xs 8) (gw_cv L xs 9) (gw_cv L xs 10)) 0)] := hD
  refine gw_rw1 CC x t cB w cI (gw_pf (gw_pf (fun _ => 0) 0 (gw_cv L xs 3) (gw_cv L xs 4) (gw_cv L xs 5) (gw_cv L xs 6)) q (gw_cv L xs 7) (gw_cv L xs 8) (gw_cv L xs 9) (gw_cv L xs 10)) q hq2 (fun i hi => ?_) (fun i hi => ?_) (q + 1) 0 (by omega) (Nat.zero_le _) H _ (hK.sub (tys' := [(cB, .byte), (cI, .int)]) [0, 1] rfl) (hP.sub (ws' := [gw_wx x t (q + 16), gw_wb t cB (gw_pf (gw_pf (fun _ => 0) 0 (gw_cv L xs 3) (gw_cv L xs 4) (gw_cv L xs 5) (gw_cv L xs 6)) q (gw_cv L xs 7) (gw_cv L xs 8) (gw_cv L xs 9) (gw_cv L xs 10)), gw_wi w cI 32 (gw_fl (gw_pf (gw_pf (fun _ => 0) 0 (gw_cv L xs 3) (gw_cv L xs 4) (gw_cv L xs 5) (gw_cv L xs 6)) q (gw_cv L xs 7) (gw_cv L xs 8) (gw_cv L xs 9) (gw_cv L xs 10)) 0)]) [0, 1, 2] rfl) (hD.sub (ws' := [gw_wx x t (q + 16), gw_wb t cB (gw_pf (gw_pf (fun _ => 0) 0 (gw_cv L xs 3) (gw_cv L xs 4) (gw_cv L xs 5) (gw_cv L xs 6)) q (gw_cv L xs 7) (gw_cv L xs 8) (gw_cv L xs 9) (gw_cv L xs 10)), gw_wi w cI 32 (gw_fl (gw_pf (gw_pf (fun _ => 0) 0 (gw_cv L xs 3) (gw_cv L xs 4) (gw_cv L xs 5) (gw_cv L xs 6)) q (gw_cv L xs 7) (gw_cv L xs 8) (gw_cv L xs 9) (gw_cv L xs 10)) 0)]) [0, 1, 2] (by decide) rfl) hS ls (lv_sub hl [5, 4, 3, 2, 1, 0] rfl)
  · rw [gw_pf_out _ _ _ _ _ _ (Or.inl hi)]
    have h := gw_pf_in (fun _ => 0) 0 (fun k => gw_cv L xs (3 + k)) (i := i) (by omega)
    rw [Nat.zero_add] at h
    exact h
  · exact gw_pf_in (gw_pf (fun _ => 0) 0 (gw_cv L xs 3) (gw_cv L xs 4) (gw_cv L xs 5) (gw_cv L xs 6)) q (fun k => gw_cv L xs (7 + k)) hi
end
section
/-! askedEnd, askedEmpty -/
abbrev gw_NC (p : Program) (s : State) (m : MethodId) (meth : Method) (c : Code) (cc : ByteArray) (nL : Nat) : Prop := CallFix p m c cc nL s ([] : List Value).toArray lw_all "WireTextLaw" ∧ meth.sig.returnType = some .boolean ∧ meth.locks = false
theorem gw_E_lt {j : Nat} (h : j < 2051 ∨ (2052 ≤ j ∧ j < 2055)) : (gw_E 256 j).val < 128 := by
  unfold gw_E
  by_cases h1 : j < 16 * 256 ∧ j % 4 = 3
  · rw [if_pos h1, gw_b8_val (by omega)]
    omega
  · rw [if_neg h1]
    decide
theorem gw_E_128 : (gw_E 256 2051).val = 128 := by decide +kernel
theorem gw_e1 : gw_wf (gw_E 256) 0 2051 = true := by
  rw [gw_ascs 2051 0 2051 2051 (by omega) (by omega) (by omega) (fun j _ h => gw_E_lt (Or.inl h))]
  exact gw_end (Nat.le_refl _)
theorem gw_e2 {e : Nat} (h : 2051 < e) : gw_wf (gw_E 256) 0 e = false := by
  rw [gw_ascs 2051 0 2051 e (by omega) (by omega) (by omega) (fun j _ h => gw_E_lt (Or.inl h))]
  have h1 := gw_E_128
  exact gw_bad h (Or.inl (gw_ln9 (by omega) (by omega)))
theorem gw_e3 : gw_wf (gw_E 256) 2052 2055 = true := by
  rw [gw_ascs 3 2052 2055 2055 (by omega) (by omega) (by omega) (fun j h1 h => gw_E_lt (Or.inr ⟨h1, h⟩))]
  exact gw_end (Nat.le_refl _)
theorem gw_e4 : gw_wf (gw_E 256) 4096 4096 = true := gw_end (Nat.le_refl _)
theorem gw_a1 {g : gw_G} (h : ∀ j, j < 4096 → g j = gw_b8 65) : gw_wf g 0 4096 = true := by
  rw [gw_ascs 4096 0 4096 4096 (by omega) (by omega) (by omega) (fun j _ hj => by rw [h j hj]; decide)]
  exact gw_end (Nat.le_refl _)
def gw_eu (g : gw_G) : gw_G := gw_st (gw_st (gw_st g 4093 (gw_bt (nI 226))) 4094 (gw_bt (nI 130))) 4095 (gw_bt (nI 172))
theorem gw_eu3 (g : gw_G) : (gw_eu g 4093).val = 226 := by
  unfold gw_eu
  rw [gw_st_ne _ _ (by decide), gw_st_ne _ _ (by decide), gw_st_self]
  decide
theorem gw_eu4 (g : gw_G) : (gw_eu g 4094).val = 130 := by
  unfold gw_eu
  rw [gw_st_ne _ _ (by decide), gw_st_self]
  decide
theorem gw_eu5 (g : gw_G) : (gw_eu g 4095).val = 172 := by
  unfold gw_eu
  rw [gw_st_self]
  decide
theorem gw_euA {g : gw_G} (h : ∀ j, j < 4096 → g j = gw_b8 65) {e : Nat} (he : 4093 ≤ e) : gw_wf (gw_eu g) 0 e = gw_wf (gw_eu g) 4093 e :=
  gw_ascs 4093 0 4093 e (by omega) (by omega) he (fun j _ hj => by
    unfold gw_eu
    rw [gw_st_ne _ _ (by omega), gw_st_ne _ _ (by omega), gw_st_ne _ _ (by omega), h j (by omega)]
    decide)
theorem gw_u2 (g : gw_G) : gw_wf (gw_eu g) 4093 4096 = true := by
  have h3 := gw_eu3 g
  have h4 : (gw_eu g (4093 + 1)).val = 130 := gw_eu4 g
  have h5 : (gw_eu g (4093 + 2)).val = 172 := gw_eu5 g
  rw [gw_3t (i := 4093) (by omega) (by omega) (by omega) (by omega) (by omega) (by omega) (by omega) (by omega) (by omega)]
  exact gw_end (Nat.le_refl _)
theorem gw_u34 (g : gw_G) {e : Nat} (h1 : 4093 < e) (h2 : e ≤ 4095) : gw_wf (gw_eu g) 4093 e = false := by
  have h3 := gw_eu3 g
  exact gw_3f h1 (by omega) (by omega) (Or.inl (by omega))
theorem gw_u1 {g : gw_G} (h : ∀ j, j < 4096 → g j = gw_b8 65) : gw_wf (gw_eu g) 0 4096 = true := by
  rw [gw_euA h (by omega)]
  exact gw_u2 g
theorem gw_u3 {g : gw_G} (h : ∀ j, j < 4096 → g j = gw_b8 65) : gw_wf (gw_eu g) 0 4095 = false := by
  rw [gw_euA h (by omega)]
  exact gw_u34 g (by omega) (by omega)
theorem gw_u4 {g : gw_G} (h : ∀ j, j < 4096 → g j = gw_b8 65) : gw_wf (gw_eu g) 0 4094 = false := by
  rw [gw_euA h (by omega)]
  exact gw_u34 g (by omega) (by omega)
theorem gw_u5 {g : gw_G} (h : ∀ j, j < 4096 → g j = gw_b8 65) : gw_wf (gw_eu g) 0 4093 = true := by
  rw [gw_euA h (by omega)]
  exact gw_end (Nat.le_refl _)
theorem gw_u6 (g : gw_G) : gw_wf (gw_eu g) 4094 4096 = false := by
  have h4 := gw_eu4 g
  exact gw_bad (by omega) (Or.inl (gw_ln9 (by omega) (by omega)))
theorem gw_u7 (g : gw_G) : gw_wf (gw_eu g) 4095 4096 = false := by
  have h5 := gw_eu5 g
  exact gw_bad (by omega) (Or.inl (gw_ln9 (by omega) (by omega)))
set_option maxHeartbeats 4000000 in
set_option maxRecDepth 100000 in
/-- askedEnd, from 218 -/
theorem gw_en3 {p : Program} {l : Launch} {e : Env} {s : State} {m : MethodId} {below : List Frame} {meth : Method} {c : Code} {D : va_G} (CC : gw_NC p s m meth c cX0_askedEnd 2) (x t : Nat) (cB : ClassId) (g : gw_G) (hg : ∀ j, j < 4096 → g j = gw_b8 65) (H : Heap) (locs : List Loc) (hK : va_K D gw_Cl [(cB, .byte)] s) (hP : va_P D gw_Cl [gw_wx x t 4096, gw_wb t cB g] H) (hD : va_D (gw_AA s) [gw_wx x t 4096, gw_wb t cB g]) (hS : va_S (gw_AA s) s.heap H locs) (ls : Array Slot) (hl : lv_has ls 2 [(0, .ref x)]) : W p l e (gw_R 3 2 4098 72) s m ([] : List Value).toArray below meth c H locs (2) (4098) (gw_EQ below ([] : List Value).toArray s 2 4098) (F0 m 218 ls []) := by
  obtain ⟨C0, hr, hlocks⟩ := id CC
  obtain ⟨hx, hb, hml, hown, hts⟩ := id C0
  have hA : ∀ q : Nat, s.heap.size ≤ q → gw_AA s q := fun _ h => h
  refine lv_aload_n hx hb dX0_askedEnd_218 rfl (lv_at hl 0 rfl) ?_
  refine lv_iconst (v := nI 0) hx hb dX0_askedEnd_219 (by decide) ?_
  refine lv_sipush (v := nI 4096) hx hb dX0_askedEnd_220 (by decide) ?_
  refine gw_rV (n := 2) (As := [.int (nI 0), .int (nI 4096)]) (rest := []) C0 (gw_fair l D x t cB 4096 g (nI 0) (nI 4096) (by omega)) (lw_V q66 q67 q68 q5 q69) (by decide +kernel) rfl rfl rfl ⟨Nat.le_of_ble_eq_true rfl, Nat.le_of_ble_eq_true rfl⟩ hl rfl (Nat.le_of_ble_eq_true rfl) dX0_askedEnd_223 ⟨Nat.le_of_ble_eq_true rfl, Nat.le_of_ble_eq_true rfl⟩ (va_recv hK hP (ci := 0) (q0 := 0) rfl rfl) gw_Ubl (gw_Umk (hP.sub (ws' := [gw_wx x t 4096, gw_wb t cB g]) [0, 1] rfl) (hK.sub (tys' := [(cB, .byte)]) [0] rfl)) ?_
  refine gw_int (y := nI (gw_tf (gw_wf g 0 4096))) (by rw [gw_frN (n := 4096) (a := 0) (k := 4096) (e := 4096) (by omega) (by omega) (by omega) (by omega)]) ?_
  refine gw_int (y := nI (gw_tf true)) (congrArg (fun z => nI (gw_tf z)) (gw_a1 hg)) ?_
  refine gw_t_ne (tgt := 231) hx hb dX0_askedEnd_226 (by decide) (fun hq => ?_) (fun hq => absurd hq (by decide))
  refine lv_aload_n hx hb dX0_askedEnd_231 rfl (lv_at hl 0 rfl) ?_
  refine lv_sipush (v := nI 4093) hx hb dX0_askedEnd_232 (by decide) ?_
  refine lv_sipush (v := nI 226) hx hb dX0_askedEnd_235 (by decide) ?_
  refine gw_wV (n := 2) (As := [.int (nI 4093), .int (nI 226)]) (rest := []) (wc := [gw_wx x t 4096, gw_wb t cB g]) (wr := []) (wF := [gw_wx x t 4096, gw_wb t cB (gw_st g (gw_ms (nI 4093) % 4096) (gw_bt (nI 226)))]) (tc := [(cB, .byte)]) [0, 1] [] [0, 1] [0] C0 (gw_sign l D x t cB 4096 g H.size (nI 4093) (nI 226) (by decide) (by decide)) (lw_V q45 q46 q47 q5 q48) (by decide +kernel) rfl rfl rfl ⟨Nat.le_of_ble_eq_true rfl, Nat.le_of_ble_eq_true rfl⟩ hl rfl (Nat.le_of_ble_eq_true rfl) dX0_askedEnd_238 ⟨Nat.le_of_ble_eq_true rfl, Nat.le_of_ble_eq_true rfl⟩ (va_recv hK hP (ci := 0) (q0 := 0) rfl rfl) hK hP hD hS hA rfl rfl (by decide) rfl (by decide) (by decide) rfl rfl rfl (by decide) (fun H locs hP hD hS => ?_)
  refine W.widen (k := 2) (n := 4098) (Nat.le_refl _) (Nat.le_refl _) ?_
  have hm : gw_ms (nI 4093) % 4096 = 4093 := (by rw [gw_ms_nI (by decide)])
  rw [hm] at hP hD
  have hP : va_P D gw_Cl [gw_wx x t 4096, gw_wb t cB (gw_st g 4093 (gw_bt (nI 226)))] H := hP
  have hD : va_D (gw_AA s) [gw_wx x t 4096, gw_wb t cB (gw_st g 4093 (gw_bt (nI 226)))] := hD
  refine lv_aload_n hx hb dX0_askedEnd_241 rfl (lv_at hl 0 rfl) ?_
  refine lv_sipush (v := nI 4094) hx hb dX0_askedEnd_242 (by decide) ?_
  refine lv_sipush (v := nI 130) hx hb dX0_askedEnd_245 (by decide) ?_
  refine gw_wV (n := 2) (As := [.int (nI 4094), .int (nI 130)]) (rest := []) (wc := [gw_wx x t 4096, gw_wb t cB (gw_st g 4093 (gw_bt (nI 226)))]) (wr := []) (wF := [gw_wx x t 4096, gw_wb t cB (gw_st (gw_st g 4093 (gw_bt (nI 226))) (gw_ms (nI 4094) % 4096) (gw_bt (nI 130)))]) (tc := [(cB, .byte)]) [0, 1] [] [0, 1] [0] C0 (gw_sign l D x t cB 4096 (gw_st g 4093 (gw_bt (nI 226))) H.size (nI 4094) (nI 130) (by decide) (by decide)) (lw_V q45 q46 q47 q5 q48) (by decide +kernel) rfl rfl rfl ⟨Nat.le_of_ble_eq_true rfl, Nat.le_of_ble_eq_true rfl⟩ hl rfl (Nat.le_of_ble_eq_true rfl) dX0_askedEnd_248 ⟨Nat.le_of_ble_eq_true rfl, Nat.le_of_ble_eq_true rfl⟩ (va_recv hK hP (ci := 0) (q0 := 0) rfl rfl) hK hP hD hS hA rfl rfl (by decide) rfl (by decide) (by decide) rfl rfl rfl (by decide) (fun H locs hP hD hS => ?_)
  refine W.widen (k := 2) (n := 4098) (Nat.le_refl _) (Nat.le_refl _) ?_
  have hm : gw_ms (nI 4094) % 4096 = 4094 := (by rw [gw_ms_nI (by decide)])
  rw [hm] at hP hD
  have hP : va_P D gw_Cl [gw_wx x t 4096, gw_wb t cB (gw_st (gw_st g 4093 (gw_bt (nI 226))) 4094 (gw_bt (nI 130)))] H := hP
  have hD : va_D (gw_AA s) [gw_wx x t 4096, gw_wb t cB (gw_st (gw_st g 4093 (gw_bt (nI 226))) 4094 (gw_bt (nI 130)))] := hD
  refine lv_aload_n hx hb dX0_askedEnd_251 rfl (lv_at hl 0 rfl) ?_
  refine lv_sipush (v := nI 4095) hx hb dX0_askedEnd_252 (by decide) ?_
  refine lv_sipush (v := nI 172) hx hb dX0_askedEnd_255 (by decide) ?_
  refine gw_wV (n := 2) (As := [.int (nI 4095), .int (nI 172)]) (rest := []) (wc := [gw_wx x t 4096, gw_wb t cB (gw_st (gw_st g 4093 (gw_bt (nI 226))) 4094 (gw_bt (nI 130)))]) (wr := []) (wF := [gw_wx x t 4096, gw_wb t cB (gw_st (gw_st (gw_st g 4093 (gw_bt (nI 226))) 4094 (gw_bt (nI 130))) (gw_ms (nI 4095) % 4096) (gw_bt (nI 172)))]) (tc := [(cB, .byte)]) [0, 1] [] [0, 1] [0] C0 (gw_sign l D x t cB 4096 (gw_st (gw_st g 4093 (gw_bt (nI 226))) 4094 (gw_bt (nI 130))) H.size (nI 4095) (nI 172) (by decide) (by decide)) (lw_V q45 q46 q47 q5 q48) (by decide +kernel) rfl rfl rfl ⟨Nat.le_of_ble_eq_true rfl, Nat.le_of_ble_eq_true rfl⟩ hl rfl (Nat.le_of_ble_eq_true rfl) dX0_askedEnd_258 ⟨Nat.le_of_ble_eq_true rfl, Nat.le_of_ble_eq_true rfl⟩ (va_recv hK hP (ci := 0) (q0 := 0) rfl rfl) hK hP hD hS hA rfl rfl (by decide) rfl (by decide) (by decide) rfl rfl rfl (by decide) (fun H locs hP hD hS => ?_)
  refine W.widen (k := 2) (n := 4098) (Nat.le_refl _) (Nat.le_refl _) ?_
  have hm : gw_ms (nI 4095) % 4096 = 4095 := (by rw [gw_ms_nI (by decide)])
  rw [hm] at hP hD
  have hP : va_P D gw_Cl [gw_wx x t 4096, gw_wb t cB (gw_st (gw_st (gw_st g 4093 (gw_bt (nI 226))) 4094 (gw_bt (nI 130))) 4095 (gw_bt (nI 172)))] H := hP
  have hD : va_D (gw_AA s) [gw_wx x t 4096, gw_wb t cB (gw_st (gw_st (gw_st g 4093 (gw_bt (nI 226))) 4094 (gw_bt (nI 130))) 4095 (gw_bt (nI 172)))] := hD
  have hP : va_P D gw_Cl [gw_wx x t 4096, gw_wb t cB (gw_eu g)] H := hP
  have hD : va_D (gw_AA s) [gw_wx x t 4096, gw_wb t cB (gw_eu g)] := hD
  refine lv_aload_n hx hb dX0_askedEnd_261 rfl (lv_at hl 0 rfl) ?_
  refine lv_iconst (v := nI 0) hx hb dX0_askedEnd_262 (by decide) ?_
  refine lv_sipush (v := nI 4096) hx hb dX0_askedEnd_263 (by decide) ?_
  refine gw_rV (n := 2) (As := [.int (nI 0), .int (nI 4096)]) (rest := []) C0 (gw_fair l D x t cB 4096 (gw_eu g) (nI 0) (nI 4096) (by omega)) (lw_V q66 q67 q68 q5 q69) (by decide +kernel) rfl rfl rfl ⟨Nat.le_of_ble_eq_true rfl, Nat.le_of_ble_eq_true rfl⟩ hl rfl (Nat.le_of_ble_eq_true rfl) dX0_askedEnd_266 ⟨Nat.le_of_ble_eq_true rfl, Nat.le_of_ble_eq_true rfl⟩ (va_recv hK hP (ci := 0) (q0 := 0) rfl rfl) gw_Ubl (gw_Umk (hP.sub (ws' := [gw_wx x t 4096, gw_wb t cB (gw_eu g)]) [0, 1] rfl) (hK.sub (tys' := [(cB, .byte)]) [0] rfl)) ?_
  refine gw_int (y := nI (gw_tf (gw_wf (gw_eu g) 0 4096))) (by rw [gw_frN (n := 4096) (a := 0) (k := 4096) (e := 4096) (by omega) (by omega) (by omega) (by omega)]) ?_
  refine gw_int (y := nI (gw_tf true)) (congrArg (fun z => nI (gw_tf z)) (gw_u1 hg)) ?_
  refine gw_t_eq (tgt := 342) hx hb dX0_askedEnd_269 (by decide) (fun hq => absurd hq (by decide)) (fun hq => ?_)
  refine lv_aload_n hx hb dX0_askedEnd_272 rfl (lv_at hl 0 rfl) ?_
  refine lv_sipush (v := nI 4093) hx hb dX0_askedEnd_273 (by decide) ?_
  refine lv_iconst (v := nI 3) hx hb dX0_askedEnd_276 (by decide) ?_
  refine gw_rV (n := 2) (As := [.int (nI 4093), .int (nI 3)]) (rest := []) C0 (gw_fair l D x t cB 4096 (gw_eu g) (nI 4093) (nI 3) (by omega)) (lw_V q66 q67 q68 q5 q69) (by decide +kernel) rfl rfl rfl ⟨Nat.le_of_ble_eq_true rfl, Nat.le_of_ble_eq_true rfl⟩ hl rfl (Nat.le_of_ble_eq_true rfl) dX0_askedEnd_277 ⟨Nat.le_of_ble_eq_true rfl, Nat.le_of_ble_eq_true rfl⟩ (va_recv hK hP (ci := 0) (q0 := 0) rfl rfl) gw_Ubl (gw_Umk (hP.sub (ws' := [gw_wx x t 4096, gw_wb t cB (gw_eu g)]) [0, 1] rfl) (hK.sub (tys' := [(cB, .byte)]) [0] rfl)) ?_
  refine gw_int (y := nI (gw_tf (gw_wf (gw_eu g) 4093 4096))) (by rw [gw_frN (n := 4096) (a := 4093) (k := 3) (e := 4096) (by omega) (by omega) (by omega) (by omega)]) ?_
  refine gw_int (y := nI (gw_tf true)) (congrArg (fun z => nI (gw_tf z)) (gw_u2 g)) ?_
  refine gw_t_eq (tgt := 342) hx hb dX0_askedEnd_280 (by decide) (fun hq => absurd hq (by decide)) (fun hq => ?_)
  refine lv_aload_n hx hb dX0_askedEnd_283 rfl (lv_at hl 0 rfl) ?_
  refine lv_iconst (v := nI 0) hx hb dX0_askedEnd_284 (by decide) ?_
  refine lv_sipush (v := nI 4095) hx hb dX0_askedEnd_285 (by decide) ?_
  refine gw_rV (n := 2) (As := [.int (nI 0), .int (nI 4095)]) (rest := []) C0 (gw_fair l D x t cB 4096 (gw_eu g) (nI 0) (nI 4095) (by omega)) (lw_V q66 q67 q68 q5 q69) (by decide +kernel) rfl rfl rfl ⟨Nat.le_of_ble_eq_true rfl, Nat.le_of_ble_eq_true rfl⟩ hl rfl (Nat.le_of_ble_eq_true rfl) dX0_askedEnd_288 ⟨Nat.le_of_ble_eq_true rfl, Nat.le_of_ble_eq_true rfl⟩ (va_recv hK hP (ci := 0) (q0 := 0) rfl rfl) gw_Ubl (gw_Umk (hP.sub (ws' := [gw_wx x t 4096, gw_wb t cB (gw_eu g)]) [0, 1] rfl) (hK.sub (tys' := [(cB, .byte)]) [0] rfl)) ?_
  refine gw_int (y := nI (gw_tf (gw_wf (gw_eu g) 0 4095))) (by rw [gw_frN (n := 4096) (a := 0) (k := 4095) (e := 4095) (by omega) (by omega) (by omega) (by omega)]) ?_
  refine gw_int (y := nI (gw_tf false)) (congrArg (fun z => nI (gw_tf z)) (gw_u3 hg)) ?_
  refine gw_t_ne (tgt := 342) hx hb dX0_askedEnd_291 (by decide) (fun hq => absurd hq (by decide)) (fun hq => ?_)
  refine lv_aload_n hx hb dX0_askedEnd_294 rfl (lv_at hl 0 rfl) ?_
  refine lv_iconst (v := nI 0) hx hb dX0_askedEnd_295 (by decide) ?_
  refine lv_sipush (v := nI 4094) hx hb dX0_askedEnd_296 (by decide) ?_
  refine gw_rV (n := 2) (As := [.int (nI 0), .int (nI 4094)]) (rest := []) C0 (gw_fair l D x t cB 4096 (gw_eu g) (nI 0) (nI 4094) (by omega)) (lw_V q66 q67 q68 q5 q69) (by decide +kernel) rfl rfl rfl ⟨Nat.le_of_ble_eq_true rfl, Nat.le_of_ble_eq_true rfl⟩ hl rfl (Nat.le_of_ble_eq_true rfl) dX0_askedEnd_299 ⟨Nat.le_of_ble_eq_true rfl, Nat.le_of_ble_eq_true rfl⟩ (va_recv hK hP (ci := 0) (q0 := 0) rfl rfl) gw_Ubl (gw_Umk (hP.sub (ws' := [gw_wx x t 4096, gw_wb t cB (gw_eu g)]) [0, 1] rfl) (hK.sub (tys' := [(cB, .byte)]) [0] rfl)) ?_
  refine gw_int (y := nI (gw_tf (gw_wf (gw_eu g) 0 4094))) (by rw [gw_frN (n := 4096) (a := 0) (k := 4094) (e := 4094) (by omega) (by omega) (by omega) (by omega)]) ?_
  refine gw_int (y := nI (gw_tf false)) (congrArg (fun z => nI (gw_tf z)) (gw_u4 hg)) ?_
  refine gw_t_ne (tgt := 342) hx hb dX0_askedEnd_302 (by decide) (fun hq => absurd hq (by decide)) (fun hq => ?_)
  refine lv_aload_n hx hb dX0_askedEnd_305 rfl (lv_at hl 0 rfl) ?_
  refine lv_iconst (v := nI 0) hx hb dX0_askedEnd_306 (by decide) ?_
  refine lv_sipush (v := nI 4093) hx hb dX0_askedEnd_307 (by decide) ?_
  refine gw_rV (n := 2) (As := [.int (nI 0), .int (nI 4093)]) (rest := []) C0 (gw_fair l D x t cB 4096 (gw_eu g) (nI 0) (nI 4093) (by omega)) (lw_V q66 q67 q68 q5 q69) (by decide +kernel) rfl rfl rfl ⟨Nat.le_of_ble_eq_true rfl, Nat.le_of_ble_eq_true rfl⟩ hl rfl (Nat.le_of_ble_eq_true rfl) dX0_askedEnd_310 ⟨Nat.le_of_ble_eq_true rfl, Nat.le_of_ble_eq_true rfl⟩ (va_recv hK hP (ci := 0) (q0 := 0) rfl rfl) gw_Ubl (gw_Umk (hP.sub (ws' := [gw_wx x t 4096, gw_wb t cB (gw_eu g)]) [0, 1] rfl) (hK.sub (tys' := [(cB, .byte)]) [0] rfl)) ?_
  refine gw_int (y := nI (gw_tf (gw_wf (gw_eu g) 0 4093))) (by rw [gw_frN (n := 4096) (a := 0) (k := 4093) (e := 4093) (by omega) (by omega) (by omega) (by omega)]) ?_
  refine gw_int (y := nI (gw_tf true)) (congrArg (fun z => nI (gw_tf z)) (gw_u5 hg)) ?_
  refine gw_t_eq (tgt := 342) hx hb dX0_askedEnd_313 (by decide) (fun hq => absurd hq (by decide)) (fun hq => ?_)
  refine lv_aload_n hx hb dX0_askedEnd_316 rfl (lv_at hl 0 rfl) ?_
  refine lv_sipush (v := nI 4094) hx hb dX0_askedEnd_317 (by decide) ?_
  refine lv_iconst (v := nI 2) hx hb dX0_askedEnd_320 (by decide) ?_
  refine gw_rV (n := 2) (As := [.int (nI 4094), .int (nI 2)]) (rest := []) C0 (gw_fair l D x t cB 4096 (gw_eu g) (nI 4094) (nI 2) (by omega)) (lw_V q66 q67 q68 q5 q69) (by decide +kernel) rfl rfl rfl ⟨Nat.le_of_ble_eq_true rfl, Nat.le_of_ble_eq_true rfl⟩ hl rfl (Nat.le_of_ble_eq_true rfl) dX0_askedEnd_321 ⟨Nat.le_of_ble_eq_true rfl, Nat.le_of_ble_eq_true rfl⟩ (va_recv hK hP (ci := 0) (q0 := 0) rfl rfl) gw_Ubl (gw_Umk (hP.sub (ws' := [gw_wx x t 4096, gw_wb t cB (gw_eu g)]) [0, 1] rfl) (hK.sub (tys' := [(cB, .byte)]) [0] rfl)) ?_
  refine gw_int (y := nI (gw_tf (gw_wf (gw_eu g) 4094 4096))) (by rw [gw_frN (n := 4096) (a := 4094) (k := 2) (e := 4096) (by omega) (by omega) (by omega) (by omega)]) ?_
  refine gw_int (y := nI (gw_tf false)) (congrArg (fun z => nI (gw_tf z)) (gw_u6 g)) ?_
  refine gw_t_ne (tgt := 342) hx hb dX0_askedEnd_324 (by decide) (fun hq => absurd hq (by decide)) (fun hq => ?_)
  refine lv_aload_n hx hb dX0_askedEnd_327 rfl (lv_at hl 0 rfl) ?_
  refine lv_sipush (v := nI 4095) hx hb dX0_askedEnd_328 (by decide) ?_
  refine lv_iconst (v := nI 1) hx hb dX0_askedEnd_331 (by decide) ?_
  refine gw_rV (n := 2) (As := [.int (nI 4095), .int (nI 1)]) (rest := []) C0 (gw_fair l D x t cB 4096 (gw_eu g) (nI 4095) (nI 1) (by omega)) (lw_V q66 q67 q68 q5 q69) (by decide +kernel) rfl rfl rfl ⟨Nat.le_of_ble_eq_true rfl, Nat.le_of_ble_eq_true rfl⟩ hl rfl (Nat.le_of_ble_eq_true rfl) dX0_askedEnd_332 ⟨Nat.le_of_ble_eq_true rfl, Nat.le_of_ble_eq_true rfl⟩ (va_recv hK hP (ci := 0) (q0 := 0) rfl rfl) gw_Ubl (gw_Umk (hP.sub (ws' := [gw_wx x t 4096, gw_wb t cB (gw_eu g)]) [0, 1] rfl) (hK.sub (tys' := [(cB, .byte)]) [0] rfl)) ?_
  refine gw_int (y := nI (gw_tf (gw_wf (gw_eu g) 4095 4096))) (by rw [gw_frN (n := 4096) (a := 4095) (k := 1) (e := 4096) (by omega) (by omega) (by omega) (by omega)]) ?_
  refine gw_int (y := nI (gw_tf false)) (congrArg (fun z => nI (gw_tf z)) (gw_u7 g)) ?_
  refine gw_t_ne (tgt := 342) hx hb dX0_askedEnd_335 (by decide) (fun hq => absurd hq (by decide)) (fun hq => ?_)
  refine lv_iconst (v := nI 1) hx hb dX0_askedEnd_338 (by decide) ?_
  refine lv_goto (tgt := 343) hx hb dX0_askedEnd_339 (by decide) ?_
  refine W.widen (k := 2) (n := 4098) (by omega) (by omega) ?_
  exact W.zret (v := nI 1) hx hb hr rfl (fun t ht hW => ⟨⟨nI 1, (), rfl, rfl, trivial⟩, hS.F ht⟩) hS.2.2 dX0_askedEnd_343 hlocks
set_option maxHeartbeats 4000000 in
set_option maxRecDepth 100000 in
/-- askedEnd, the loop at 198 -/
theorem gw_en2 {p : Program} {l : Launch} {e : Env} {s : State} {m : MethodId} {below : List Frame} {meth : Method} {c : Code} {D : va_G} (CC : gw_NC p s m meth c cX0_askedEnd 2) (x t : Nat) (cB : ClassId) : ∀ (n : Nat) (i : Nat) (g : gw_G), 4096 < i + n → i ≤ 4096 → (∀ j, j < i → g j = gw_b8 65) → ∀ (H : Heap) (locs : List Loc) (hK : va_K D gw_Cl [(cB, .byte)] s) (hP : va_P D gw_Cl [gw_wx x t 4096, gw_wb t cB g] H) (hD : va_D (gw_AA s) [gw_wx x t 4096, gw_wb t cB g]) (hS : va_S (gw_AA s) s.heap H locs) (ls : Array Slot) (hl : lv_has ls 2 [(0, .ref x), (1, .int (nI i))]), W p l e (gw_R 3 2 4098 72) s m ([] : List Value).toArray below meth c H locs (2) (4098) (gw_EQ below ([] : List Value).toArray s 2 4098) (F0 m 198 ls []) := by
  obtain ⟨C0, hr, hlocks⟩ := id CC
  obtain ⟨hx, hb, hml, hown, hts⟩ := id C0
  have hA : ∀ q : Nat, s.heap.size ≤ q → gw_AA s q := fun _ h => h
  intro n
  induction n with
  | zero =>
    intro i g hn hi hg H locs hK hP hD hS ls hl
    exact absurd hn (by omega)
  | succ n ih =>
    intro i g hn hi hg H locs hK hP hD hS ls hl
    refine lv_iload_n hx hb dX0_askedEnd_198 rfl (lv_at hl 1 rfl) ?_
    refine lv_sipush (v := nI 4096) hx hb dX0_askedEnd_199 (by decide) ?_
    refine gw_c_ge (tgt := 218) hx hb dX0_askedEnd_202 (by decide) (by omega) (by omega) (fun h202 => ?_) (fun h202 => ?_)
    · exact gw_en3 CC x t cB g (fun j hj => hg j (by omega)) H _ (hK.sub (tys' := [(cB, .byte)]) [0] rfl) (hP.sub (ws' := [gw_wx x t 4096, gw_wb t cB g]) [0, 1] rfl) (hD.sub (ws' := [gw_wx x t 4096, gw_wb t cB g]) [0, 1] (by decide) rfl) hS ls (lv_sub hl [0] rfl)
    · refine lv_aload_n hx hb dX0_askedEnd_205 rfl (lv_at hl 0 rfl) ?_
      refine lv_iload_n hx hb dX0_askedEnd_206 rfl (lv_at hl 1 rfl) ?_
      refine lv_bipush (v := nI 65) hx hb dX0_askedEnd_207 (by decide) ?_
      refine gw_wV (n := 2) (As := [.int (nI i), .int (nI 65)]) (rest := []) (wc := [gw_wx x t 4096, gw_wb t cB g]) (wr := []) (wF := [gw_wx x t 4096, gw_wb t cB (gw_st g (gw_ms (nI i) % 4096) (gw_bt (nI 65)))]) (tc := [(cB, .byte)]) [0, 1] [] [0, 1] [0] C0 (gw_sign l D x t cB 4096 g H.size (nI i) (nI 65) (by decide) (by decide)) (lw_V q45 q46 q47 q5 q48) (by decide +kernel) rfl rfl rfl ⟨Nat.le_of_ble_eq_true rfl, Nat.le_of_ble_eq_true rfl⟩ hl rfl (Nat.le_of_ble_eq_true rfl) dX0_askedEnd_209 ⟨Nat.le_of_ble_eq_true rfl, Nat.le_of_ble_eq_true rfl⟩ (va_recv hK hP (ci := 0) (q0 := 0) rfl rfl) hK hP hD hS hA rfl rfl (by decide) rfl (by decide) (by decide) rfl rfl rfl (by decide) (fun H locs hP hD hS => ?_)
      refine W.widen (k := 2) (n := 4098) (Nat.le_refl _) (Nat.le_refl _) ?_
      have hm : gw_ms (nI i) % 4096 = i := (by rw [gw_ms_nI (by omega)]; omega)
      rw [hm] at hP hD
      have hP : va_P D gw_Cl [gw_wx x t 4096, gw_wb t cB (gw_st g i (gw_bt (nI 65)))] H := hP
      have hD : va_D (gw_AA s) [gw_wx x t 4096, gw_wb t cB (gw_st g i (gw_bt (nI 65)))] := hD
      refine lv_iinc (v := nI (i + 1)) (lv' := [(1, .int (nI (i + 1))), (0, .ref x)]) hx hb dX0_askedEnd_212 hl (k := 1) rfl (by exact nI_1 _) (by decide) rfl (fun ls hl => ?_)
      refine lv_goto (tgt := 198) hx hb dX0_askedEnd_215 (by decide) ?_
      refine ih (i + 1) (gw_st g i (gw_bt (nI 65))) (by omega) (by omega) (fun j hj => ?_) H _ (hK.sub (tys' := [(cB, .byte)]) [0] rfl) (hP.sub (ws' := [gw_wx x t 4096, gw_wb t cB (gw_st g i (gw_bt (nI 65)))]) [0, 1] rfl) (hD.sub (ws' := [gw_wx x t 4096, gw_wb t cB (gw_st g i (gw_bt (nI 65)))]) [0, 1] (by decide) rfl) hS ls (lv_sub hl [1, 0] rfl)
      by_cases hji : j = i
      · rw [hji, gw_st_self, gw_bt_nI (by decide)]
      · rw [gw_st_ne _ _ hji]
        exact hg j (by omega)
set_option maxHeartbeats 4000000 in
set_option maxRecDepth 100000 in
/-- askedEnd, from 36 -/
theorem gw_en1 {p : Program} {l : Launch} {e : Env} {s : State} {m : MethodId} {below : List Frame} {meth : Method} {c : Code} {D : va_G} (CC : gw_NC p s m meth c cX0_askedEnd 2) (x t : Nat) (cB : ClassId) (H : Heap) (locs : List Loc) (hK : va_K D gw_Cl [(cB, .byte)] s) (hP : va_P D gw_Cl [gw_wx x t 4096, gw_wb t cB (gw_E 256)] H) (hD : va_D (gw_AA s) [gw_wx x t 4096, gw_wb t cB (gw_E 256)]) (hS : va_S (gw_AA s) s.heap H locs) (ls : Array Slot) (hl : lv_has ls 2 [(0, .ref x)]) : W p l e (gw_R 3 2 4098 72) s m ([] : List Value).toArray below meth c H locs (2) (4098) (gw_EQ below ([] : List Value).toArray s 2 4098) (F0 m 36 ls []) := by
  obtain ⟨C0, hr, hlocks⟩ := id CC
  obtain ⟨hx, hb, hml, hown, hts⟩ := id C0
  have hA : ∀ q : Nat, s.heap.size ≤ q → gw_AA s q := fun _ h => h
  refine lv_aload_n hx hb dX0_askedEnd_36 rfl (lv_at hl 0 rfl) ?_
  refine lv_bipush (v := nI 65) hx hb dX0_askedEnd_37 (by decide) ?_
  refine lv_bipush (v := nI 65) hx hb dX0_askedEnd_39 (by decide) ?_
  refine lv_bipush (v := nI 65) hx hb dX0_askedEnd_41 (by decide) ?_
  refine lv_bipush (v := nI 65) hx hb dX0_askedEnd_43 (by decide) ?_
  refine gw_rV (n := 4) (As := [.int (nI 65), .int (nI 65), .int (nI 65), .int (nI 65)]) (rest := []) C0 (gw_putN l D x t cB 4096 (gw_E 256) (nI 65) (nI 65) (nI 65) (nI 65) (by decide) (by decide)) (lw_V q31 q32 q33 q5 q34) (by decide +kernel) rfl rfl rfl ⟨Nat.le_of_ble_eq_true rfl, Nat.le_of_ble_eq_true rfl⟩ hl rfl (Nat.le_of_ble_eq_true rfl) dX0_askedEnd_45 ⟨Nat.le_of_ble_eq_true rfl, Nat.le_of_ble_eq_true rfl⟩ (va_recv hK hP (ci := 0) (q0 := 0) rfl rfl) gw_Ubl (gw_Umk (hP.sub (ws' := [gw_wx x t 4096, gw_wb t cB (gw_E 256)]) [0, 1] rfl) (hK.sub (tys' := [(cB, .byte)]) [0] rfl)) ?_
  refine gw_z_ne (tgt := 116) hx hb dX0_askedEnd_48 (by decide) (by decide) (fun h48 => absurd h48 (by decide)) (fun h48 => ?_)
  refine lv_aload_n hx hb dX0_askedEnd_51 rfl (lv_at hl 0 rfl) ?_
  refine gw_rV (n := 0) (As := []) (rest := []) C0 (gw_size l D x t 4096) (lw_V q62 q63 q64 q5 q65) (by decide +kernel) rfl rfl rfl ⟨Nat.le_of_ble_eq_true rfl, Nat.le_of_ble_eq_true rfl⟩ hl rfl (Nat.le_of_ble_eq_true rfl) dX0_askedEnd_52 ⟨Nat.le_of_ble_eq_true rfl, Nat.le_of_ble_eq_true rfl⟩ (va_recv hK hP (ci := 0) (q0 := 0) rfl rfl) gw_Ubl (gw_Umk (hP.sub (ws' := [gw_wx x t 4096]) [0] rfl) (hK.sub (tys' := []) [] rfl)) ?_
  refine lv_sipush (v := nI 4096) hx hb dX0_askedEnd_55 (by decide) ?_
  refine gw_c_ne (tgt := 116) hx hb dX0_askedEnd_58 (by decide) (by omega) (by omega) (fun h => (h rfl).elim) (fun _ => ?_)
  refine lv_aload_n hx hb dX0_askedEnd_61 rfl (lv_at hl 0 rfl) ?_
  refine lv_iconst (v := nI 0) hx hb dX0_askedEnd_62 (by decide) ?_
  refine lv_sipush (v := nI 2051) hx hb dX0_askedEnd_63 (by decide) ?_
  refine gw_rV (n := 2) (As := [.int (nI 0), .int (nI 2051)]) (rest := []) C0 (gw_fair l D x t cB 4096 (gw_E 256) (nI 0) (nI 2051) (by omega)) (lw_V q66 q67 q68 q5 q69) (by decide +kernel) rfl rfl rfl ⟨Nat.le_of_ble_eq_true rfl, Nat.le_of_ble_eq_true rfl⟩ hl rfl (Nat.le_of_ble_eq_true rfl) dX0_askedEnd_66 ⟨Nat.le_of_ble_eq_true rfl, Nat.le_of_ble_eq_true rfl⟩ (va_recv hK hP (ci := 0) (q0 := 0) rfl rfl) gw_Ubl (gw_Umk (hP.sub (ws' := [gw_wx x t 4096, gw_wb t cB (gw_E 256)]) [0, 1] rfl) (hK.sub (tys' := [(cB, .byte)]) [0] rfl)) ?_
  refine gw_int (y := nI (gw_tf (gw_wf (gw_E 256) 0 2051))) (by rw [gw_frN (n := 4096) (a := 0) (k := 2051) (e := 2051) (by omega) (by omega) (by omega) (by omega)]) ?_
  refine gw_int (y := nI (gw_tf true)) (congrArg (fun z => nI (gw_tf z)) (gw_e1)) ?_
  refine gw_t_eq (tgt := 116) hx hb dX0_askedEnd_69 (by decide) (fun hq => absurd hq (by decide)) (fun hq => ?_)
  refine lv_aload_n hx hb dX0_askedEnd_72 rfl (lv_at hl 0 rfl) ?_
  refine lv_iconst (v := nI 0) hx hb dX0_askedEnd_73 (by decide) ?_
  refine lv_sipush (v := nI 2052) hx hb dX0_askedEnd_74 (by decide) ?_
  refine gw_rV (n := 2) (As := [.int (nI 0), .int (nI 2052)]) (rest := []) C0 (gw_fair l D x t cB 4096 (gw_E 256) (nI 0) (nI 2052) (by omega)) (lw_V q66 q67 q68 q5 q69) (by decide +kernel) rfl rfl rfl ⟨Nat.le_of_ble_eq_true rfl, Nat.le_of_ble_eq_true rfl⟩ hl rfl (Nat.le_of_ble_eq_true rfl) dX0_askedEnd_77 ⟨Nat.le_of_ble_eq_true rfl, Nat.le_of_ble_eq_true rfl⟩ (va_recv hK hP (ci := 0) (q0 := 0) rfl rfl) gw_Ubl (gw_Umk (hP.sub (ws' := [gw_wx x t 4096, gw_wb t cB (gw_E 256)]) [0, 1] rfl) (hK.sub (tys' := [(cB, .byte)]) [0] rfl)) ?_
  refine gw_int (y := nI (gw_tf (gw_wf (gw_E 256) 0 2052))) (by rw [gw_frN (n := 4096) (a := 0) (k := 2052) (e := 2052) (by omega) (by omega) (by omega) (by omega)]) ?_
  refine gw_int (y := nI (gw_tf false)) (congrArg (fun z => nI (gw_tf z)) (gw_e2 (by decide))) ?_
  refine gw_t_ne (tgt := 116) hx hb dX0_askedEnd_80 (by decide) (fun hq => absurd hq (by decide)) (fun hq => ?_)
  refine lv_aload_n hx hb dX0_askedEnd_83 rfl (lv_at hl 0 rfl) ?_
  refine lv_iconst (v := nI 0) hx hb dX0_askedEnd_84 (by decide) ?_
  refine lv_sipush (v := nI 4096) hx hb dX0_askedEnd_85 (by decide) ?_
  refine gw_rV (n := 2) (As := [.int (nI 0), .int (nI 4096)]) (rest := []) C0 (gw_fair l D x t cB 4096 (gw_E 256) (nI 0) (nI 4096) (by omega)) (lw_V q66 q67 q68 q5 q69) (by decide +kernel) rfl rfl rfl ⟨Nat.le_of_ble_eq_true rfl, Nat.le_of_ble_eq_true rfl⟩ hl rfl (Nat.le_of_ble_eq_true rfl) dX0_askedEnd_88 ⟨Nat.le_of_ble_eq_true rfl, Nat.le_of_ble_eq_true rfl⟩ (va_recv hK hP (ci := 0) (q0 := 0) rfl rfl) gw_Ubl (gw_Umk (hP.sub (ws' := [gw_wx x t 4096, gw_wb t cB (gw_E 256)]) [0, 1] rfl) (hK.sub (tys' := [(cB, .byte)]) [0] rfl)) ?_
  refine gw_int (y := nI (gw_tf (gw_wf (gw_E 256) 0 4096))) (by rw [gw_frN (n := 4096) (a := 0) (k := 4096) (e := 4096) (by omega) (by omega) (by omega) (by omega)]) ?_
  refine gw_int (y := nI (gw_tf false)) (congrArg (fun z => nI (gw_tf z)) (gw_e2 (by decide))) ?_
  refine gw_t_ne (tgt := 116) hx hb dX0_askedEnd_91 (by decide) (fun hq => absurd hq (by decide)) (fun hq => ?_)
  refine lv_aload_n hx hb dX0_askedEnd_94 rfl (lv_at hl 0 rfl) ?_
  refine lv_sipush (v := nI 2052) hx hb dX0_askedEnd_95 (by decide) ?_
  refine lv_iconst (v := nI 3) hx hb dX0_askedEnd_98 (by decide) ?_
  refine gw_rV (n := 2) (As := [.int (nI 2052), .int (nI 3)]) (rest := []) C0 (gw_fair l D x t cB 4096 (gw_E 256) (nI 2052) (nI 3) (by omega)) (lw_V q66 q67 q68 q5 q69) (by decide +kernel) rfl rfl rfl ⟨Nat.le_of_ble_eq_true rfl, Nat.le_of_ble_eq_true rfl⟩ hl rfl (Nat.le_of_ble_eq_true rfl) dX0_askedEnd_99 ⟨Nat.le_of_ble_eq_true rfl, Nat.le_of_ble_eq_true rfl⟩ (va_recv hK hP (ci := 0) (q0 := 0) rfl rfl) gw_Ubl (gw_Umk (hP.sub (ws' := [gw_wx x t 4096, gw_wb t cB (gw_E 256)]) [0, 1] rfl) (hK.sub (tys' := [(cB, .byte)]) [0] rfl)) ?_
  refine gw_int (y := nI (gw_tf (gw_wf (gw_E 256) 2052 2055))) (by rw [gw_frN (n := 4096) (a := 2052) (k := 3) (e := 2055) (by omega) (by omega) (by omega) (by omega)]) ?_
  refine gw_int (y := nI (gw_tf true)) (congrArg (fun z => nI (gw_tf z)) (gw_e3)) ?_
  refine gw_t_eq (tgt := 116) hx hb dX0_askedEnd_102 (by decide) (fun hq => absurd hq (by decide)) (fun hq => ?_)
  refine lv_aload_n hx hb dX0_askedEnd_105 rfl (lv_at hl 0 rfl) ?_
  refine lv_sipush (v := nI 4096) hx hb dX0_askedEnd_106 (by decide) ?_
  refine lv_iconst (v := nI 0) hx hb dX0_askedEnd_109 (by decide) ?_
  refine gw_rV (n := 2) (As := [.int (nI 4096), .int (nI 0)]) (rest := []) C0 (gw_fair l D x t cB 4096 (gw_E 256) (nI 4096) (nI 0) (by omega)) (lw_V q66 q67 q68 q5 q69) (by decide +kernel) rfl rfl rfl ⟨Nat.le_of_ble_eq_true rfl, Nat.le_of_ble_eq_true rfl⟩ hl rfl (Nat.le_of_ble_eq_true rfl) dX0_askedEnd_110 ⟨Nat.le_of_ble_eq_true rfl, Nat.le_of_ble_eq_true rfl⟩ (va_recv hK hP (ci := 0) (q0 := 0) rfl rfl) gw_Ubl (gw_Umk (hP.sub (ws' := [gw_wx x t 4096, gw_wb t cB (gw_E 256)]) [0, 1] rfl) (hK.sub (tys' := [(cB, .byte)]) [0] rfl)) ?_
  refine gw_int (y := nI (gw_tf (gw_wf (gw_E 256) 4096 4096))) (by rw [gw_frN (n := 4096) (a := 4096) (k := 0) (e := 4096) (by omega) (by omega) (by omega) (by omega)]) ?_
  refine gw_int (y := nI (gw_tf true)) (congrArg (fun z => nI (gw_tf z)) (gw_e4)) ?_
  refine gw_t_ne (tgt := 118) hx hb dX0_askedEnd_113 (by decide) (fun hq => ?_) (fun hq => absurd hq (by decide))
  refine lv_aload_n hx hb dX0_askedEnd_118 rfl (lv_at hl 0 rfl) ?_
  refine lv_sipush (v := nI 4081) hx hb dX0_askedEnd_119 (by decide) ?_
  refine gw_wV (n := 1) (As := [.int (nI 4081)]) (rest := []) (wc := [gw_wx x t 4096]) (wr := [gw_wb t cB (gw_E 256)]) (wF := [gw_wx x t (gw_ms (nI 4081) % (4096 + 1)), gw_wb t cB (gw_E 256)]) (tc := []) [0] [1] [1, 0] [] C0 (gw_trim l D x t 4096 H.size (nI 4081) (by omega)) (lw_V q54 q55 q56 q5 q57) (by decide +kernel) rfl rfl rfl ⟨Nat.le_of_ble_eq_true rfl, Nat.le_of_ble_eq_true rfl⟩ hl rfl (Nat.le_of_ble_eq_true rfl) dX0_askedEnd_122 ⟨Nat.le_of_ble_eq_true rfl, Nat.le_of_ble_eq_true rfl⟩ (va_recv hK hP (ci := 0) (q0 := 0) rfl rfl) hK hP hD hS hA rfl rfl (by decide) rfl (by decide) (by decide) rfl rfl rfl (by decide) (fun H locs hP hD hS => ?_)
  refine W.widen (k := 2) (n := 4098) (Nat.le_refl _) (Nat.le_refl _) ?_
  have hm : gw_ms (nI 4081) % (4096 + 1) = 4081 := (by rw [gw_ms_nI (by decide)])
  rw [hm] at hP hD
  have hP : va_P D gw_Cl [gw_wx x t 4081, gw_wb t cB (gw_E 256)] H := hP
  have hD : va_D (gw_AA s) [gw_wx x t 4081, gw_wb t cB (gw_E 256)] := hD
  refine lv_aload_n hx hb dX0_askedEnd_125 rfl (lv_at hl 0 rfl) ?_
  refine gw_rV (n := 0) (As := []) (rest := []) C0 (gw_size l D x t 4081) (lw_V q62 q63 q64 q5 q65) (by decide +kernel) rfl rfl rfl ⟨Nat.le_of_ble_eq_true rfl, Nat.le_of_ble_eq_true rfl⟩ hl rfl (Nat.le_of_ble_eq_true rfl) dX0_askedEnd_126 ⟨Nat.le_of_ble_eq_true rfl, Nat.le_of_ble_eq_true rfl⟩ (va_recv hK hP (ci := 0) (q0 := 0) rfl rfl) gw_Ubl (gw_Umk (hP.sub (ws' := [gw_wx x t 4081]) [0] rfl) (hK.sub (tys' := []) [] rfl)) ?_
  refine lv_sipush (v := nI 4081) hx hb dX0_askedEnd_129 (by decide) ?_
  refine gw_c_ne (tgt := 160) hx hb dX0_askedEnd_132 (by decide) (by omega) (by omega) (fun h => (h rfl).elim) (fun _ => ?_)
  refine lv_aload_n hx hb dX0_askedEnd_135 rfl (lv_at hl 0 rfl) ?_
  refine lv_bipush (v := nI 65) hx hb dX0_askedEnd_136 (by decide) ?_
  refine lv_bipush (v := nI 65) hx hb dX0_askedEnd_138 (by decide) ?_
  refine lv_bipush (v := nI 65) hx hb dX0_askedEnd_140 (by decide) ?_
  refine lv_bipush (v := nI 65) hx hb dX0_askedEnd_142 (by decide) ?_
  refine gw_rV (n := 4) (As := [.int (nI 65), .int (nI 65), .int (nI 65), .int (nI 65)]) (rest := []) C0 (gw_putN l D x t cB 4081 (gw_E 256) (nI 65) (nI 65) (nI 65) (nI 65) (by decide) (by decide)) (lw_V q31 q32 q33 q5 q34) (by decide +kernel) rfl rfl rfl ⟨Nat.le_of_ble_eq_true rfl, Nat.le_of_ble_eq_true rfl⟩ hl rfl (Nat.le_of_ble_eq_true rfl) dX0_askedEnd_144 ⟨Nat.le_of_ble_eq_true rfl, Nat.le_of_ble_eq_true rfl⟩ (va_recv hK hP (ci := 0) (q0 := 0) rfl rfl) gw_Ubl (gw_Umk (hP.sub (ws' := [gw_wx x t 4081, gw_wb t cB (gw_E 256)]) [0, 1] rfl) (hK.sub (tys' := [(cB, .byte)]) [0] rfl)) ?_
  refine gw_z_ne (tgt := 160) hx hb dX0_askedEnd_147 (by decide) (by decide) (fun h147 => absurd h147 (by decide)) (fun h147 => ?_)
  refine lv_aload_n hx hb dX0_askedEnd_150 rfl (lv_at hl 0 rfl) ?_
  refine gw_rV (n := 0) (As := []) (rest := []) C0 (gw_size l D x t 4081) (lw_V q62 q63 q64 q5 q65) (by decide +kernel) rfl rfl rfl ⟨Nat.le_of_ble_eq_true rfl, Nat.le_of_ble_eq_true rfl⟩ hl rfl (Nat.le_of_ble_eq_true rfl) dX0_askedEnd_151 ⟨Nat.le_of_ble_eq_true rfl, Nat.le_of_ble_eq_true rfl⟩ (va_recv hK hP (ci := 0) (q0 := 0) rfl rfl) gw_Ubl (gw_Umk (hP.sub (ws' := [gw_wx x t 4081]) [0] rfl) (hK.sub (tys' := []) [] rfl)) ?_
  refine lv_sipush (v := nI 4081) hx hb dX0_askedEnd_154 (by decide) ?_
  refine gw_c_eq (tgt := 162) hx hb dX0_askedEnd_157 (by decide) (by omega) (by omega) (fun _ => ?_) (fun h => (h rfl).elim)
  refine lv_aload_n hx hb dX0_askedEnd_162 rfl (lv_at hl 0 rfl) ?_
  refine lv_sipush (v := nI 4080) hx hb dX0_askedEnd_163 (by decide) ?_
  refine gw_wV (n := 1) (As := [.int (nI 4080)]) (rest := []) (wc := [gw_wx x t 4081]) (wr := [gw_wb t cB (gw_E 256)]) (wF := [gw_wx x t (gw_ms (nI 4080) % (4081 + 1)), gw_wb t cB (gw_E 256)]) (tc := []) [0] [1] [1, 0] [] C0 (gw_trim l D x t 4081 H.size (nI 4080) (by omega)) (lw_V q54 q55 q56 q5 q57) (by decide +kernel) rfl rfl rfl ⟨Nat.le_of_ble_eq_true rfl, Nat.le_of_ble_eq_true rfl⟩ hl rfl (Nat.le_of_ble_eq_true rfl) dX0_askedEnd_166 ⟨Nat.le_of_ble_eq_true rfl, Nat.le_of_ble_eq_true rfl⟩ (va_recv hK hP (ci := 0) (q0 := 0) rfl rfl) hK hP hD hS hA rfl rfl (by decide) rfl (by decide) (by decide) rfl rfl rfl (by decide) (fun H locs hP hD hS => ?_)
  refine W.widen (k := 2) (n := 4098) (Nat.le_refl _) (Nat.le_refl _) ?_
  have hm : gw_ms (nI 4080) % (4081 + 1) = 4080 := (by rw [gw_ms_nI (by decide)])
  rw [hm] at hP hD
  have hP : va_P D gw_Cl [gw_wx x t 4080, gw_wb t cB (gw_E 256)] H := hP
  have hD : va_D (gw_AA s) [gw_wx x t 4080, gw_wb t cB (gw_E 256)] := hD
  refine lv_aload_n hx hb dX0_askedEnd_169 rfl (lv_at hl 0 rfl) ?_
  refine lv_ldc (v := (1094795585 : Int32)) hx hb hown (hts _ q182) dX0_askedEnd_170 ?_
  refine gw_int (y := nI 1094795585) rfl ?_
  refine lv_ldc (v := (1094795585 : Int32)) hx hb hown (hts _ q182) dX0_askedEnd_172 ?_
  refine gw_int (y := nI 1094795585) rfl ?_
  refine lv_ldc (v := (1094795585 : Int32)) hx hb hown (hts _ q182) dX0_askedEnd_174 ?_
  refine gw_int (y := nI 1094795585) rfl ?_
  refine lv_ldc (v := (1094795585 : Int32)) hx hb hown (hts _ q182) dX0_askedEnd_176 ?_
  refine gw_int (y := nI 1094795585) rfl ?_
  refine gw_wVi (n := 4) (As := [.int (nI 1094795585), .int (nI 1094795585), .int (nI 1094795585), .int (nI 1094795585)]) (rest := []) (wc := [gw_wx x t 4080, gw_wb t cB (gw_E 256)]) (wr := []) (wF := [gw_wx x t (4080 + 16), gw_wb t cB (gw_pf (gw_E 256) 4080 (nI 1094795585) (nI 1094795585) (nI 1094795585) (nI 1094795585))]) (tc := [(cB, .byte)]) [0, 1] [] [0, 1] [0] C0 (gw_put l D x t cB 4080 (gw_E 256) H.size (nI 1094795585) (nI 1094795585) (nI 1094795585) (nI 1094795585) (by decide)) (lw_V q31 q32 q33 q5 q34) (by decide +kernel) rfl rfl rfl ⟨Nat.le_of_ble_eq_true rfl, Nat.le_of_ble_eq_true rfl⟩ hl rfl (Nat.le_of_ble_eq_true rfl) dX0_askedEnd_178 ⟨Nat.le_of_ble_eq_true rfl, Nat.le_of_ble_eq_true rfl⟩ (va_recv hK hP (ci := 0) (q0 := 0) rfl rfl) hK hP hD hS hA rfl rfl (by decide) rfl (by decide) (by decide) rfl rfl rfl (by decide) (fun H locs hP hD hS => ?_)
  refine W.widen (k := 2) (n := 4098) (Nat.le_refl _) (Nat.le_refl _) ?_
  have hP : va_P D gw_Cl [gw_wx x t 4096, gw_wb t cB (gw_pf (gw_E 256) 4080 (nI 1094795585) (nI 1094795585) (nI 1094795585) (nI 1094795585))] H := hP
  have hD : va_D (gw_AA s) [gw_wx x t 4096, gw_wb t cB (gw_pf (gw_E 256) 4080 (nI 1094795585) (nI 1094795585) (nI 1094795585) (nI 1094795585))] := hD
  refine gw_z_eq (tgt := 194) hx hb dX0_askedEnd_181 (by decide) (by decide) (fun h181 => absurd h181 (by cases h181)) (fun h181 => ?_)
  refine lv_aload_n hx hb dX0_askedEnd_184 rfl (lv_at hl 0 rfl) ?_
  refine gw_rV (n := 0) (As := []) (rest := []) C0 (gw_size l D x t 4096) (lw_V q62 q63 q64 q5 q65) (by decide +kernel) rfl rfl rfl ⟨Nat.le_of_ble_eq_true rfl, Nat.le_of_ble_eq_true rfl⟩ hl rfl (Nat.le_of_ble_eq_true rfl) dX0_askedEnd_185 ⟨Nat.le_of_ble_eq_true rfl, Nat.le_of_ble_eq_true rfl⟩ (va_recv hK hP (ci := 0) (q0 := 0) rfl rfl) gw_Ubl (gw_Umk (hP.sub (ws' := [gw_wx x t 4096]) [0] rfl) (hK.sub (tys' := []) [] rfl)) ?_
  refine lv_sipush (v := nI 4096) hx hb dX0_askedEnd_188 (by decide) ?_
  refine gw_c_eq (tgt := 196) hx hb dX0_askedEnd_191 (by decide) (by omega) (by omega) (fun _ => ?_) (fun h => (h rfl).elim)
  refine lv_iconst (v := nI 0) hx hb dX0_askedEnd_196 (by decide) ?_
  refine lv_istore_n (lv' := [(1, .int (nI 0)), (0, .ref x)]) hx hb dX0_askedEnd_197 rfl hl (by decide) rfl (fun ls hl => ?_)
  exact gw_en2 CC x t cB 4097 0 (gw_pf (gw_E 256) 4080 (nI 1094795585) (nI 1094795585) (nI 1094795585) (nI 1094795585)) (by omega) (by omega) (fun j hj => absurd hj (Nat.not_lt_zero j)) H _ (hK.sub (tys' := [(cB, .byte)]) [0] rfl) (hP.sub (ws' := [gw_wx x t 4096, gw_wb t cB (gw_pf (gw_E 256) 4080 (nI 1094795585) (nI 1094795585) (nI 1094795585) (nI 1094795585))]) [0, 1] rfl) (hD.sub (ws' := [gw_wx x t 4096, gw_wb t cB (gw_pf (gw_E 256) 4080 (nI 1094795585) (nI 1094795585) (nI 1094795585) (nI 1094795585))]) [0, 1] (by decide) rfl) hS ls (lv_sub hl [1, 0] rfl)
set_option maxHeartbeats 4000000 in
set_option maxRecDepth 100000 in
/-- askedEnd, the loop at 10 -/
theorem gw_en0 {p : Program} {l : Launch} {e : Env} {s : State} {m : MethodId} {below : List Frame} {meth : Method} {c : Code} {D : va_G} (CC : gw_NC p s m meth c cX0_askedEnd 2) (x t : Nat) (cB : ClassId) : ∀ (n : Nat) (i : Nat), 256 < i + n → i ≤ 256 → ∀ (H : Heap) (locs : List Loc) (hK : va_K D gw_Cl [(cB, .byte)] s) (hP : va_P D gw_Cl [gw_wx x t (16 * i), gw_wb t cB (gw_E i)] H) (hD : va_D (gw_AA s) [gw_wx x t (16 * i), gw_wb t cB (gw_E i)]) (hS : va_S (gw_AA s) s.heap H locs) (ls : Array Slot) (hl : lv_has ls 2 [(0, .ref x), (1, .int (nI i))]), W p l e (gw_R 3 2 4098 72) s m ([] : List Value).toArray below meth c H locs (2) (4098) (gw_EQ below ([] : List Value).toArray s 2 4098) (F0 m 10 ls []) := by
  obtain ⟨C0, hr, hlocks⟩ := id CC
  obtain ⟨hx, hb, hml, hown, hts⟩ := id C0
  have hA : ∀ q : Nat, s.heap.size ≤ q → gw_AA s q := fun _ h => h
  intro n
  induction n with
  | zero =>
    intro i hn hi H locs hK hP hD hS ls hl
    exact absurd hn (by omega)
  | succ n ih =>
    intro i hn hi H locs hK hP hD hS ls hl
    refine lv_iload_n hx hb dX0_askedEnd_10 rfl (lv_at hl 1 rfl) ?_
    refine lv_sipush (v := nI 256) hx hb dX0_askedEnd_11 (by decide) ?_
    refine gw_c_ge (tgt := 36) hx hb dX0_askedEnd_14 (by decide) (by omega) (by omega) (fun h14 => ?_) (fun h14 => ?_)
    · rw [show i = 256 by omega] at hP hD
      have hP : va_P D gw_Cl [gw_wx x t 4096, gw_wb t cB (gw_E 256)] H := hP
      have hD : va_D (gw_AA s) [gw_wx x t 4096, gw_wb t cB (gw_E 256)] := hD
      exact gw_en1 CC x t cB H _ (hK.sub (tys' := [(cB, .byte)]) [0] rfl) (hP.sub (ws' := [gw_wx x t 4096, gw_wb t cB (gw_E 256)]) [0, 1] rfl) (hD.sub (ws' := [gw_wx x t 4096, gw_wb t cB (gw_E 256)]) [0, 1] (by decide) rfl) hS ls (lv_sub hl [0] rfl)
    · refine lv_aload_n hx hb dX0_askedEnd_17 rfl (lv_at hl 0 rfl) ?_
      refine lv_iload_n hx hb dX0_askedEnd_18 rfl (lv_at hl 1 rfl) ?_
      refine lv_iload_n hx hb dX0_askedEnd_19 rfl (lv_at hl 1 rfl) ?_
      refine lv_iload_n hx hb dX0_askedEnd_20 rfl (lv_at hl 1 rfl) ?_
      refine lv_iload_n hx hb dX0_askedEnd_21 rfl (lv_at hl 1 rfl) ?_
      refine gw_wVi (n := 4) (As := [.int (nI i), .int (nI i), .int (nI i), .int (nI i)]) (rest := []) (wc := [gw_wx x t (16 * i), gw_wb t cB (gw_E i)]) (wr := []) (wF := [gw_wx x t ((16 * i) + 16), gw_wb t cB (gw_pf (gw_E i) (16 * i) (nI i) (nI i) (nI i) (nI i))]) (tc := [(cB, .byte)]) [0, 1] [] [0, 1] [0] C0 (gw_put l D x t cB (16 * i) (gw_E i) H.size (nI i) (nI i) (nI i) (nI i) (by omega)) (lw_V q31 q32 q33 q5 q34) (by decide +kernel) rfl rfl rfl ⟨Nat.le_of_ble_eq_true rfl, Nat.le_of_ble_eq_true rfl⟩ hl rfl (Nat.le_of_ble_eq_true rfl) dX0_askedEnd_22 ⟨Nat.le_of_ble_eq_true rfl, Nat.le_of_ble_eq_true rfl⟩ (va_recv hK hP (ci := 0) (q0 := 0) rfl rfl) hK hP hD hS hA rfl rfl (by decide) rfl (by decide) (by decide) rfl rfl rfl (by decide) (fun H locs hP hD hS => ?_)
      refine W.widen (k := 2) (n := 4098) (Nat.le_refl _) (Nat.le_refl _) ?_
      rw [gw_E_put h14, show 16 * i + 16 = 16 * (i + 1) by omega] at hP hD
      refine gw_z_ne (tgt := 30) hx hb dX0_askedEnd_25 (by decide) (by decide) (fun h25 => ?_) (fun h25 => absurd h25 (by cases h25))
      refine lv_iinc (v := nI (i + 1)) (lv' := [(1, .int (nI (i + 1))), (0, .ref x)]) hx hb dX0_askedEnd_30 hl (k := 1) rfl (by exact nI_1 _) (by decide) rfl (fun ls hl => ?_)
      refine lv_goto (tgt := 10) hx hb dX0_askedEnd_33 (by decide) ?_
      exact ih (i + 1) (by omega) (by omega) H _ (hK.sub (tys' := [(cB, .byte)]) [0] rfl) (hP.sub (ws' := [gw_wx x t (16 * (i + 1)), gw_wb t cB (gw_E (i + 1))]) [0, 1] rfl) (hD.sub (ws' := [gw_wx x t (16 * (i + 1)), gw_wb t cB (gw_E (i + 1))]) [0, 1] (by decide) rfl) hS ls (lv_sub hl [1, 0] rfl)
set_option maxHeartbeats 4000000 in
set_option maxRecDepth 100000 in
/-- askedEnd() is true -/
theorem gw_askedEnd (l : Launch) (D : va_G) (sz : Nat) : Met l yX0_askedEnd (ws_ yX0_askedEnd cX0_askedEnd 2 (some .boolean)) (gw_R 3 2 4098 72) (va_Pc [] (fun U => U.heap.size = sz ∧ va_K D gw_Cl [] U)) (va_Qi (fun (z : Int32) (_ : Unit) => z = 1) (fun _ _ => True) (fun q => sz ≤ q)) 2 4098 (fun q => sz ≤ q) := by
  refine gw_met [] "WireTextLaw" rfl (by decide) (Nat.le_of_ble_eq_true rfl) ?_
  intro p e s m below meth c ls C0 hr hlocks hname hl hU
  obtain ⟨hx, hb, hml, hown, hts⟩ := id C0
  obtain ⟨hsz, hK⟩ := hU
  subst hsz
  have CC : gw_NC p s m meth c cX0_askedEnd 2 := ⟨C0, hr, hlocks⟩
  have hA : ∀ q : Nat, s.heap.size ≤ q → gw_AA s q := fun _ h => h
  have hS : va_S (gw_AA s) s.heap s.heap [] := va_S.rf
  have hP : va_P D gw_Cl [] s.heap := fun k q h => by simp at h
  have hD : va_D (gw_AA s) [] := ⟨fun i j p q h => by simp at h, fun k q h => by simp at h⟩
  have hl : lv_has ls 2 [] := hl
  refine va_new (ci := 0) (fs := [.null, .int 0]) (C := RX1) (T := TX1) (N := 2) hx hb hts in_X1 tyX1 tyX1_ok hown (hts _ q15) (hts _ q16) (hts _ q5) hK hP hD hS hA rfl (fun j hj => by rcases (show j = 0 ∨ j = 1 by omega) with rfl | rfl <;> rfl) (Nat.le_of_ble_eq_true rfl) (Nat.le_of_ble_eq_true rfl) dX0_askedEnd_0 (fun x H hP hD hS => ?_)
  have hP : va_P D gw_Cl [(x, .inr (0, [.null, .int 0]))] H := hP
  have hD : va_D (gw_AA s) [(x, .inr (0, [.null, .int 0]))] := hD
  refine lv_dup hx hb dX0_askedEnd_3 rfl ?_
  have hFc := va_free (wc := [(x, .inr (0, [.null, .int 0]))]) hD hS hA [0] rfl
  refine va_callv (va_runI (As := []) (rest := [.ref x]) C0 (gw_init l D x H.size) (cwI 0 hts (lw_meth q19) rfl rfl rfl (hts _ q5) (hts _ q17) (hts _ q18) rfl (by decide +kernel) ⟨Nat.le_of_ble_eq_true rfl, Nat.le_of_ble_eq_true rfl⟩) ⟨fun a U g mk q => ⟨q.1, gw_UWbl a U g mk q.2⟩, fun U hU hW => ⟨rfl, gw_UWmk (hP.sub (ws' := [(x, .inr (0, [.null, .int 0]))]) [0] rfl) (hK.sub (tys' := []) [] rfl) (hD.sub (ws' := [(x, .inr (0, [.null, .int 0]))]) [0] (by decide) rfl) U hU hW.alike⟩⟩ rfl rfl hl.1 rfl (lv_room (Nat.le_of_ble_eq_true rfl)) dX0_askedEnd_4 ⟨Nat.le_of_ble_eq_true rfl, Nat.le_of_ble_eq_true rfl⟩) hS (fun q _ h => hFc q h) hFc (fun u T H1 locs ht hvm hw1 hB hz1 hk1 hS => ?_)
  obtain ⟨t, cB, hP1, hK1, hD1⟩ := hB
  rw [ht] at hP1
  have hK1 := va_K.moved hvm.symm hK1
  obtain ⟨hP, hD⟩ := va_join (wr := []) (w1 := [gw_wx x t 0, gw_wb t cB (fun _ => 0)]) hP hD [0] [] rfl rfl (by decide) (by decide) hk1 hFc hP1 hD1
  have hK := (hK.sub (tys' := []) [] rfl).app hK1
  generalize H1 = H at hP hS ⊢
  have hP : va_P D gw_Cl [gw_wx x t 0, gw_wb t cB (fun _ => 0)] H := hP
  have hD : va_D (gw_AA s) [gw_wx x t 0, gw_wb t cB (fun _ => 0)] := hD
  have hK : va_K D gw_Cl [(cB, .byte)] s := hK
  refine W.widen (k := 2) (n := 4098) (by omega) (by omega) ?_
  refine lv_astore_n (lv' := [(0, .ref x)]) hx hb dX0_askedEnd_7 rfl hl (by decide) rfl (fun ls hl => ?_)
  refine lv_iconst (v := nI 0) hx hb dX0_askedEnd_8 (by decide) ?_
  refine lv_istore_n (lv' := [(1, .int (nI 0)), (0, .ref x)]) hx hb dX0_askedEnd_9 rfl hl (by decide) rfl (fun ls hl => ?_)
  rw [← gw_E0] at hP hD
  exact gw_en0 CC x t cB 257 0 (by omega) (by omega) H _ (hK.sub (tys' := [(cB, .byte)]) [0] rfl) (hP.sub (ws' := [gw_wx x t 0, gw_wb t cB (gw_E 0)]) [0, 1] rfl) (hD.sub (ws' := [gw_wx x t 0, gw_wb t cB (gw_E 0)]) [0, 1] (by decide) rfl) hS ls (lv_sub hl [1, 0] rfl)
set_option maxHeartbeats 4000000 in
set_option maxRecDepth 100000 in
/-- askedEmpty(s) is true -/
theorem gw_askedEmpty (l : Launch) (D : va_G) (b L sz : Nat) (xs : Nat → Int32) (hL : L ≤ 40) : Met l yX0_askedEmpty (ws_ yX0_askedEmpty cX0_askedEmpty 2 (some .boolean)) (gw_R 3 2 4098 72) (va_Pc [.ref b] (fun U => U.heap.size = sz ∧ gw_UX b L xs U ∧ va_K D gw_Cl [] U)) (va_Qi (fun (z : Int32) (_ : Unit) => z = 1) (fun _ _ => True) (fun q => sz ≤ q)) 2 4098 (fun q => sz ≤ q) := by
  refine gw_met [.ref b] "WireTextLaw" rfl (by decide) (Nat.le_of_ble_eq_true rfl) ?_
  intro p e s m below meth c ls C0 hr hlocks hname hl hU
  obtain ⟨hx, hb, hml, hown, hts⟩ := id C0
  obtain ⟨hsz, ⟨hX, hbl⟩, hK⟩ := hU
  subst hsz
  have hA : ∀ q : Nat, s.heap.size ≤ q → gw_AA s q := fun _ h => h
  have hbA : ¬ gw_AA s b := Nat.not_le.mpr hbl
  have hS : va_S (gw_AA s) s.heap s.heap [] := va_S.rf
  have hP : va_P D gw_Cl [] s.heap := fun k q h => by simp at h
  have hD : va_D (gw_AA s) [] := ⟨fun i j p q h => by simp at h, fun k q h => by simp at h⟩
  have hl : lv_has ls 2 [(0, .ref b)] := hl
  refine va_new (ci := 0) (fs := [.null, .int 0]) (C := RX1) (T := TX1) (N := 2) hx hb hts in_X1 tyX1 tyX1_ok hown (hts _ q15) (hts _ q16) (hts _ q5) hK hP hD hS hA rfl (fun j hj => by rcases (show j = 0 ∨ j = 1 by omega) with rfl | rfl <;> rfl) (Nat.le_of_ble_eq_true rfl) (Nat.le_of_ble_eq_true rfl) dX0_askedEmpty_0 (fun x H hP hD hS => ?_)
  have hP : va_P D gw_Cl [(x, .inr (0, [.null, .int 0]))] H := hP
  have hD : va_D (gw_AA s) [(x, .inr (0, [.null, .int 0]))] := hD
  refine lv_dup hx hb dX0_askedEmpty_3 rfl ?_
  have hFc := va_free (wc := [(x, .inr (0, [.null, .int 0]))]) hD hS hA [0] rfl
  refine va_callv (va_runI (As := []) (rest := [.ref x]) C0 (gw_init l D x H.size) (cwI 0 hts (lw_meth q19) rfl rfl rfl (hts _ q5) (hts _ q17) (hts _ q18) rfl (by decide +kernel) ⟨Nat.le_of_ble_eq_true rfl, Nat.le_of_ble_eq_true rfl⟩) ⟨fun a U g mk q => ⟨q.1, gw_UWbl a U g mk q.2⟩, fun U hU hW => ⟨rfl, gw_UWmk (hP.sub (ws' := [(x, .inr (0, [.null, .int 0]))]) [0] rfl) (hK.sub (tys' := []) [] rfl) (hD.sub (ws' := [(x, .inr (0, [.null, .int 0]))]) [0] (by decide) rfl) U hU hW.alike⟩⟩ rfl rfl hl.1 rfl (lv_room (Nat.le_of_ble_eq_true rfl)) dX0_askedEmpty_4 ⟨Nat.le_of_ble_eq_true rfl, Nat.le_of_ble_eq_true rfl⟩) hS (fun q _ h => hFc q h) hFc (fun u T H1 locs ht hvm hw1 hB hz1 hk1 hS => ?_)
  obtain ⟨t, cB, hP1, hK1, hD1⟩ := hB
  rw [ht] at hP1
  have hK1 := va_K.moved hvm.symm hK1
  obtain ⟨hP, hD⟩ := va_join (wr := []) (w1 := [gw_wx x t 0, gw_wb t cB (fun _ => 0)]) hP hD [0] [] rfl rfl (by decide) (by decide) hk1 hFc hP1 hD1
  have hK := (hK.sub (tys' := []) [] rfl).app hK1
  generalize H1 = H at hP hS ⊢
  have hP : va_P D gw_Cl [gw_wx x t 0, gw_wb t cB (fun _ => 0)] H := hP
  have hD : va_D (gw_AA s) [gw_wx x t 0, gw_wb t cB (fun _ => 0)] := hD
  have hK : va_K D gw_Cl [(cB, .byte)] s := hK
  refine W.widen (k := 2) (n := 4098) (by omega) (by omega) ?_
  refine lv_astore_n (lv' := [(1, .ref x), (0, .ref b)]) hx hb dX0_askedEmpty_7 rfl hl (by decide) rfl (fun ls hl => ?_)
  refine lv_aload_n hx hb dX0_askedEmpty_8 rfl (lv_at hl 0 rfl) ?_
  refine gw_rV (n := 0) (As := []) (rest := []) C0 (gw_size l D x t 0) (lw_V q62 q63 q64 q5 q65) (by decide +kernel) rfl rfl rfl ⟨Nat.le_of_ble_eq_true rfl, Nat.le_of_ble_eq_true rfl⟩ hl rfl (Nat.le_of_ble_eq_true rfl) dX0_askedEmpty_9 ⟨Nat.le_of_ble_eq_true rfl, Nat.le_of_ble_eq_true rfl⟩ (va_recv hK hP (ci := 0) (q0 := 0) rfl rfl) gw_Ubl (gw_Umk (hP.sub (ws' := [gw_wx x t 0]) [0] rfl) (hK.sub (tys' := []) [] rfl)) ?_
  refine gw_z_ne (tgt := 32) hx hb dX0_askedEmpty_12 (by decide) (by decide) (fun h12 => absurd h12 (by decide)) (fun h12 => ?_)
  refine lv_aload_n hx hb dX0_askedEmpty_15 rfl (lv_at hl 0 rfl) ?_
  refine lv_aload_n hx hb dX0_askedEmpty_16 rfl (lv_at hl 1 rfl) ?_
  refine lv_iconst (v := nI 1) hx hb dX0_askedEmpty_17 (by decide) ?_
  refine gw_rS (n := 2) (As := [.ref b, .int (nI 1)]) (rest := [.ref x]) C0 (gw_askedCell l b L 1 xs hL (by decide)) (lw_S q170 q171 q4 q172) (by decide +kernel) rfl rfl rfl ⟨Nat.le_of_ble_eq_true rfl, Nat.le_of_ble_eq_true rfl⟩ hl rfl (Nat.le_of_ble_eq_true rfl) dX0_askedEmpty_18 ⟨Nat.le_of_ble_eq_true rfl, Nat.le_of_ble_eq_true rfl⟩ gw_UXbl (gw_UXmk hX hbl hbA hS) ?_
  refine lv_aload_n hx hb dX0_askedEmpty_21 rfl (lv_at hl 1 rfl) ?_
  refine lv_iconst (v := nI 2) hx hb dX0_askedEmpty_22 (by decide) ?_
  refine gw_rS (n := 2) (As := [.ref b, .int (nI 2)]) (rest := [.int (gw_cv L xs 1), .ref x]) C0 (gw_askedCell l b L 2 xs hL (by decide)) (lw_S q170 q171 q4 q172) (by decide +kernel) rfl rfl rfl ⟨Nat.le_of_ble_eq_true rfl, Nat.le_of_ble_eq_true rfl⟩ hl rfl (Nat.le_of_ble_eq_true rfl) dX0_askedEmpty_23 ⟨Nat.le_of_ble_eq_true rfl, Nat.le_of_ble_eq_true rfl⟩ gw_UXbl (gw_UXmk hX hbl hbA hS) ?_
  refine gw_rV (n := 2) (As := [.int (gw_cv L xs 1), .int (gw_cv L xs 2)]) (rest := []) C0 (gw_fair l D x t cB 0 (fun _ => 0) (gw_cv L xs 1) (gw_cv L xs 2) (by decide)) (lw_V q66 q67 q68 q5 q69) (by decide +kernel) rfl rfl rfl ⟨Nat.le_of_ble_eq_true rfl, Nat.le_of_ble_eq_true rfl⟩ hl rfl (Nat.le_of_ble_eq_true rfl) dX0_askedEmpty_26 ⟨Nat.le_of_ble_eq_true rfl, Nat.le_of_ble_eq_true rfl⟩ (va_recv hK hP (ci := 0) (q0 := 0) rfl rfl) gw_Ubl (gw_Umk (hP.sub (ws' := [gw_wx x t 0, gw_wb t cB (fun _ => 0)]) [0, 1] rfl) (hK.sub (tys' := [(cB, .byte)]) [0] rfl)) ?_
  refine gw_int (y := nI (gw_tf true)) (by rw [gw_fr0]) ?_
  refine gw_t_ne (tgt := 34) hx hb dX0_askedEmpty_29 (by decide) (fun hq => ?_) (fun hq => absurd hq (by decide))
  refine lv_aload_n hx hb dX0_askedEmpty_34 rfl (lv_at hl 0 rfl) ?_
  refine lv_aload_n hx hb dX0_askedEmpty_35 rfl (lv_at hl 1 rfl) ?_
  refine lv_iconst (v := nI 0) hx hb dX0_askedEmpty_36 (by decide) ?_
  refine gw_rS (n := 2) (As := [.ref b, .int (nI 0)]) (rest := [.ref x]) C0 (gw_askedCell l b L 0 xs hL (by decide)) (lw_S q170 q171 q4 q172) (by decide +kernel) rfl rfl rfl ⟨Nat.le_of_ble_eq_true rfl, Nat.le_of_ble_eq_true rfl⟩ hl rfl (Nat.le_of_ble_eq_true rfl) dX0_askedEmpty_37 ⟨Nat.le_of_ble_eq_true rfl, Nat.le_of_ble_eq_true rfl⟩ gw_UXbl (gw_UXmk hX hbl hbA hS) ?_
  refine lv_aload_n hx hb dX0_askedEmpty_40 rfl (lv_at hl 1 rfl) ?_
  refine lv_iconst (v := nI 1) hx hb dX0_askedEmpty_41 (by decide) ?_
  refine gw_rS (n := 2) (As := [.ref b, .int (nI 1)]) (rest := [.int (gw_cv L xs 0), .ref x]) C0 (gw_askedCell l b L 1 xs hL (by decide)) (lw_S q170 q171 q4 q172) (by decide +kernel) rfl rfl rfl ⟨Nat.le_of_ble_eq_true rfl, Nat.le_of_ble_eq_true rfl⟩ hl rfl (Nat.le_of_ble_eq_true rfl) dX0_askedEmpty_42 ⟨Nat.le_of_ble_eq_true rfl, Nat.le_of_ble_eq_true rfl⟩ gw_UXbl (gw_UXmk hX hbl hbA hS) ?_
  refine gw_rVv (n := 2) (As := [.int (gw_cv L xs 0), .int (gw_cv L xs 1)]) (rest := []) C0 (gw_sign0 l D x t (gw_cv L xs 0) (gw_cv L xs 1)) (lw_V q45 q46 q47 q5 q48) (by decide +kernel) rfl rfl rfl ⟨Nat.le_of_ble_eq_true rfl, Nat.le_of_ble_eq_true rfl⟩ hl rfl (Nat.le_of_ble_eq_true rfl) dX0_askedEmpty_45 ⟨Nat.le_of_ble_eq_true rfl, Nat.le_of_ble_eq_true rfl⟩ (va_recv hK hP (ci := 0) (q0 := 0) rfl rfl) gw_Ubl (gw_Umk (hP.sub (ws' := [gw_wx x t 0]) [0] rfl) (hK.sub (tys' := []) [] rfl)) ?_
  refine lv_aload_n hx hb dX0_askedEmpty_48 rfl (lv_at hl 0 rfl) ?_
  refine lv_aload_n hx hb dX0_askedEmpty_49 rfl (lv_at hl 1 rfl) ?_
  refine lv_iconst (v := nI 2) hx hb dX0_askedEmpty_50 (by decide) ?_
  refine gw_rS (n := 2) (As := [.ref b, .int (nI 2)]) (rest := [.ref x]) C0 (gw_askedCell l b L 2 xs hL (by decide)) (lw_S q170 q171 q4 q172) (by decide +kernel) rfl rfl rfl ⟨Nat.le_of_ble_eq_true rfl, Nat.le_of_ble_eq_true rfl⟩ hl rfl (Nat.le_of_ble_eq_true rfl) dX0_askedEmpty_51 ⟨Nat.le_of_ble_eq_true rfl, Nat.le_of_ble_eq_true rfl⟩ gw_UXbl (gw_UXmk hX hbl hbA hS) ?_
  refine gw_wV (n := 1) (As := [.int (gw_cv L xs 2)]) (rest := []) (wc := [gw_wx x t 0]) (wr := [gw_wb t cB (fun _ => 0)]) (wF := [gw_wx x t (gw_ms (gw_cv L xs 2) % (0 + 1)), gw_wb t cB (fun _ => 0)]) (tc := []) [0] [1] [1, 0] [] C0 (gw_trim l D x t 0 H.size (gw_cv L xs 2) (by omega)) (lw_V q54 q55 q56 q5 q57) (by decide +kernel) rfl rfl rfl ⟨Nat.le_of_ble_eq_true rfl, Nat.le_of_ble_eq_true rfl⟩ hl rfl (Nat.le_of_ble_eq_true rfl) dX0_askedEmpty_54 ⟨Nat.le_of_ble_eq_true rfl, Nat.le_of_ble_eq_true rfl⟩ (va_recv hK hP (ci := 0) (q0 := 0) rfl rfl) hK hP hD hS hA rfl rfl (by decide) rfl (by decide) (by decide) rfl rfl rfl (by decide) (fun H locs hP hD hS => ?_)
  refine W.widen (k := 2) (n := 4098) (Nat.le_refl _) (Nat.le_refl _) ?_
  have hm : gw_ms (gw_cv L xs 2) % (0 + 1) = 0 := (by omega)
  rw [hm] at hP hD
  have hP : va_P D gw_Cl [gw_wx x t 0, gw_wb t cB (fun _ => 0)] H := hP
  have hD : va_D (gw_AA s) [gw_wx x t 0, gw_wb t cB (fun _ => 0)] := hD
  refine lv_aload_n hx hb dX0_askedEmpty_57 rfl (lv_at hl 0 rfl) ?_
  refine gw_rV (n := 0) (As := []) (rest := []) C0 (gw_size l D x t 0) (lw_V q62 q63 q64 q5 q65) (by decide +kernel) rfl rfl rfl ⟨Nat.le_of_ble_eq_true rfl, Nat.le_of_ble_eq_true rfl⟩ hl rfl (Nat.le_of_ble_eq_true rfl) dX0_askedEmpty_58 ⟨Nat.le_of_ble_eq_true rfl, Nat.le_of_ble_eq_true rfl⟩ (va_recv hK hP (ci := 0) (q0 := 0) rfl rfl) gw_Ubl (gw_Umk (hP.sub (ws' := [gw_wx x t 0]) [0] rfl) (hK.sub (tys' := []) [] rfl)) ?_
  refine gw_z_ne (tgt := 85) hx hb dX0_askedEmpty_61 (by decide) (by decide) (fun h61 => absurd h61 (by decide)) (fun h61 => ?_)
  refine lv_aload_n hx hb dX0_askedEmpty_64 rfl (lv_at hl 0 rfl) ?_
  refine lv_aload_n hx hb dX0_askedEmpty_65 rfl (lv_at hl 1 rfl) ?_
  refine lv_iconst (v := nI 0) hx hb dX0_askedEmpty_66 (by decide) ?_
  refine gw_rS (n := 2) (As := [.ref b, .int (nI 0)]) (rest := [.ref x]) C0 (gw_askedCell l b L 0 xs hL (by decide)) (lw_S q170 q171 q4 q172) (by decide +kernel) rfl rfl rfl ⟨Nat.le_of_ble_eq_true rfl, Nat.le_of_ble_eq_true rfl⟩ hl rfl (Nat.le_of_ble_eq_true rfl) dX0_askedEmpty_67 ⟨Nat.le_of_ble_eq_true rfl, Nat.le_of_ble_eq_true rfl⟩ gw_UXbl (gw_UXmk hX hbl hbA hS) ?_
  refine lv_aload_n hx hb dX0_askedEmpty_70 rfl (lv_at hl 1 rfl) ?_
  refine lv_iconst (v := nI 1) hx hb dX0_askedEmpty_71 (by decide) ?_
  refine gw_rS (n := 2) (As := [.ref b, .int (nI 1)]) (rest := [.int (gw_cv L xs 0), .ref x]) C0 (gw_askedCell l b L 1 xs hL (by decide)) (lw_S q170 q171 q4 q172) (by decide +kernel) rfl rfl rfl ⟨Nat.le_of_ble_eq_true rfl, Nat.le_of_ble_eq_true rfl⟩ hl rfl (Nat.le_of_ble_eq_true rfl) dX0_askedEmpty_72 ⟨Nat.le_of_ble_eq_true rfl, Nat.le_of_ble_eq_true rfl⟩ gw_UXbl (gw_UXmk hX hbl hbA hS) ?_
  refine gw_rV (n := 2) (As := [.int (gw_cv L xs 0), .int (gw_cv L xs 1)]) (rest := []) C0 (gw_fair l D x t cB 0 (fun _ => 0) (gw_cv L xs 0) (gw_cv L xs 1) (by decide)) (lw_V q66 q67 q68 q5 q69) (by decide +kernel) rfl rfl rfl ⟨Nat.le_of_ble_eq_true rfl, Nat.le_of_ble_eq_true rfl⟩ hl rfl (Nat.le_of_ble_eq_true rfl) dX0_askedEmpty_75 ⟨Nat.le_of_ble_eq_true rfl, Nat.le_of_ble_eq_true rfl⟩ (va_recv hK hP (ci := 0) (q0 := 0) rfl rfl) gw_Ubl (gw_Umk (hP.sub (ws' := [gw_wx x t 0, gw_wb t cB (fun _ => 0)]) [0, 1] rfl) (hK.sub (tys' := [(cB, .byte)]) [0] rfl)) ?_
  refine gw_int (y := nI (gw_tf true)) (by rw [gw_fr0]) ?_
  refine gw_t_eq (tgt := 85) hx hb dX0_askedEmpty_78 (by decide) (fun hq => absurd hq (by decide)) (fun hq => ?_)
  refine lv_iconst (v := nI 1) hx hb dX0_askedEmpty_81 (by decide) ?_
  refine lv_goto (tgt := 86) hx hb dX0_askedEmpty_82 (by decide) ?_
  refine W.widen (k := 2) (n := 4098) (by omega) (by omega) ?_
  exact W.zret (v := nI 1) hx hb hr rfl (fun t ht hW => ⟨⟨nI 1, (), rfl, rfl, trivial⟩, hS.F ht⟩) hS.2.2 dX0_askedEmpty_86 hlocks
end
section
/-! THE CLAIM OUT OF ONE WALK OF THE LAW'S BODY. Your part is whole_start (and what it stands on); all else here is the same for every law, but numbers. -/
def R_law : String := "WireTextLaw"
def lw_P (b : Addr) (xs : List Int32) (args : Array Value) (s : State) : Prop := args = #[.ref b] ∧ s.IntsAt b xs ∧ xs.length ≤ 40 ∧ (Jvm.Cond.and given_1 narrow_1).before args s = true
def lw_Q (_ : Array Value) (s : State) (o : Outcome) (t : State) : Prop := o = .returned (some (.int 1)) ∧ Framed s o t [] 1200080 5501530
def lw_Z (below : List Frame) (a : Array Value) (s : State) : State → Prop := fun t => ∃ o, t.status = .running ∧ Ended t below o ∧ lw_Q a s o t
/-- the law's own end, with 1 on the stack, nothing written that was there before, its room as the claim has it -/
theorem lw_ret {p : Program} {l : Launch} {e : Env} {s : State} {m : MethodId} {below : List Frame} {meth : Method} {c : Code} {b : Nat} (hx : p.tables.exec = Jvm.exec) (hb : c.code = code) (hr : meth.sig.returnType = ret) (hlocks : meth.locks = false) {pc : Nat} {H : Heap} {ls : Array Slot} (hdg : decode code pc = .ok (.ireturn, 1)) : W p l e room_1 s m #[Value.ref b] below meth c H [] 1200080 5501530 (lw_Z below #[Value.ref b] s) (F0 m pc ls [.int 1]) := by
  intro T hT X
  obtain ⟨fs, hret, hrun, hended, hW, hframe⟩ := X.leave (v := some (.int 1)) (hlocks := hlocks) (fun h => by rw [hr] at h; cases h)
  have hmeth' : T.vm.method? m = some meth := X.method'
  refine ⟨T.setFrames fs, ?_, .returned (some (.int 1)), hrun, hended, rfl, ⟨_, rfl⟩, hW, hframe⟩
  jvm_step X.here [X.here.top, hx, hb, hdg, hmeth', hr, ret, narrow_b1]
  (try refine ⟨rfl, ?_⟩); (try refine ⟨rfl, ?_⟩)
  first | (intro acts; rw [hret _ acts rfl rfl rfl]) | rw [hret _ _ rfl rfl rfl]
  exact Steps.refl _
/-- what holds at the law's entry: the machine, the code, the tables' words (any of lw_tbl by 'hts w (by decide +kernel)'), the script of L ints xs at the cell b, what the Statement gives of the start (any of its parts by flat_of_before) -/
def lw_At (p : Program) (s : State) (m : MethodId) (meth : Method) (c : Code) (b L : Nat) (xs : Nat → Int32) : Prop :=
  p.tables.exec = Jvm.exec ∧ c.code = code ∧ meth.sig.returnType = ret ∧ c.maxLocals = 1 ∧ s.vm.findClass R_law = some m.cls ∧ (∀ w ∈ lw_tbl, w.before #[Value.ref b] s = true) ∧ va_X b L xs s s.heap ∧ b < s.heap.size ∧ meth.locks = false ∧ (Jvm.Cond.and given_1 narrow_1).before #[Value.ref b] s = true
-- ===== YOUR PART BEGINS =====
set_option maxHeartbeats 4000000 in
set_option maxRecDepth 100000 in
/-- THE LAW, from its entry: its four methods are true, one behind another -/
theorem whole_start {p : Program} {e : Env} {s : State} {m : MethodId} {below : List Frame} {meth : Method} {c : Code} (l : Launch) (hflags : l.flags = flags0) {b L : Nat} {xs : Nat → Int32} (hL : L ≤ 40) (C0 : lw_At p s m meth c b L xs) : W p l e room_1 s m #[Value.ref b] below meth c s.heap [] 0 0 (lw_Z below #[Value.ref b] s) (entryFrame m ([Value.ref b] : List Value).toArray 1) := by
  obtain ⟨hx, hb, hr, hml, hown, hts0, hX, hbl, hlocks, hgv⟩ := id C0
  have hts : ∀ w ∈ lw_all, w.before #[Value.ref b] s = true := fun w h => hts0 w (lw_all_tbl h)
  have C1 : CallFix p m c cL_law 1 s #[Value.ref b] lw_all "WireTextLaw" := ⟨hx, hb, hml, hown, hts⟩
  have hbA : ¬ (fun q : Nat => s.heap.size ≤ q) b := Nat.not_le.mpr hbl
  obtain ⟨c0_, iS0, hKn0⟩ := u_known (C := RX1) (T := TX1) (N := 2) (n := 2) hts0 (fun w h => lw_all_tbl (in_X1 w h)) (hts0 _ (lw_all_tbl q16))
  obtain ⟨D, hKc⟩ : ∃ D : va_G, ∀ (k : Nat) (q : vw_C), gw_Cl[k]? = some q → u_Kn s q.1 q.2.1 q.2.2 (D.1 k) (D.2 k) := by
    refine ⟨(fun _ => c0_, fun _ => iS0), ?_⟩
    intro k q hq
    match k, hq with
    | 0, hq => cases hq; exact hKn0
    | k + 1, hq => simp [gw_Cl] at hq
  have hK : va_K D gw_Cl [] s := ⟨hKc, fun k q h => by simp at h⟩
  have hS : va_S (fun q : Nat => s.heap.size ≤ q) s.heap s.heap [] := va_S.rf
  have hl := lv_entry ([.ref b]) (n := 1) (Nat.le_of_ble_eq_true rfl)
  rw [lg_entry_eq]
  generalize (lg_sl ([.ref b]) ++ List.replicate (1 - (lg_sl ([.ref b])).length) Slot.unset).toArray = ls at hl ⊢
  have hl : lv_has ls 1 [(0, .ref b)] := hl
  refine lv_aload_n hx hb dL_law_0 rfl (lv_at hl 0 rfl) ?_
  refine va_calli (va_runS (As := [.ref b]) (rest := []) C1 (gw_elder l D b L s.heap.size xs hL) (va_cwS 1 hts (lw_S q12 q13 q4 q14) rfl rfl rfl (by decide +kernel) ⟨Nat.le_of_ble_eq_true rfl, Nat.le_of_ble_eq_true rfl⟩) ⟨fun a U g mk q => ⟨q.1, q.2.1, gw_UXbl a U g mk q.2.2.1, va_K.moved (u := U) (U := U.calling g mk a) (Vm.Alike.refl U.vm) q.2.2.2⟩, fun U hU hW => ⟨rfl, by rw [hU], gw_UXmk hX hbl hbA hS U hU hW.alike, va_K.moved hW.alike hK⟩⟩ rfl rfl hl.1 rfl (lv_room (Nat.le_of_ble_eq_true rfl)) dL_law_1 ⟨Nat.le_of_ble_eq_true rfl, Nat.le_of_ble_eq_true rfl⟩) hS (fun q _ h => Nat.le_trans hS.1 h) (fun q h => Nat.le_trans hS.1 h) (fun z u t H1 locs ht hvm hz hB hz1 hk1 hS => ?_)
  refine W.widen (k := 28) (n := 49517) (Nat.le_of_ble_eq_true rfl) (Nat.le_of_ble_eq_true rfl) ?_
  refine gw_int (y := nI 1) hz ?_
  refine gw_z_eq (tgt := 31) hx hb dL_law_4 (by decide) (by decide) (fun h => absurd h (by decide)) (fun _ => ?_)
  refine lv_aload_n hx hb dL_law_7 rfl (lv_at hl 0 rfl) ?_
  refine va_calli (va_runS (As := [.ref b]) (rest := []) C1 (gw_raw l D b L H1.size xs hL) (va_cwS 1 hts (lw_S q167 q168 q4 q169) rfl rfl rfl (by decide +kernel) ⟨Nat.le_of_ble_eq_true rfl, Nat.le_of_ble_eq_true rfl⟩) ⟨fun a U g mk q => ⟨q.1, q.2.1, gw_UXbl a U g mk q.2.2.1, va_K.moved (u := U) (U := U.calling g mk a) (Vm.Alike.refl U.vm) q.2.2.2⟩, fun U hU hW => ⟨rfl, by rw [hU], gw_UXmk hX hbl hbA hS U hU hW.alike, va_K.moved hW.alike hK⟩⟩ rfl rfl hl.1 rfl (lv_room (Nat.le_of_ble_eq_true rfl)) dL_law_8 ⟨Nat.le_of_ble_eq_true rfl, Nat.le_of_ble_eq_true rfl⟩) hS (fun q _ h => Nat.le_trans hS.1 h) (fun q h => Nat.le_trans hS.1 h) (fun z u t H2 locs ht hvm hz hB hz1 hk1 hS => ?_)
  refine W.widen (k := 31) (n := 53647) (Nat.le_of_ble_eq_true rfl) (Nat.le_of_ble_eq_true rfl) ?_
  refine gw_int (y := nI 1) hz ?_
  refine gw_z_eq (tgt := 31) hx hb dL_law_11 (by decide) (by decide) (fun h => absurd h (by decide)) (fun _ => ?_)
  refine va_calli (va_runS (As := []) (rest := []) C1 (gw_askedEnd l D H2.size) (va_cwS 0 hts (lw_S q179 q180 q4 q181) rfl rfl rfl (by decide +kernel) ⟨Nat.le_of_ble_eq_true rfl, Nat.le_of_ble_eq_true rfl⟩) ⟨fun a U g mk q => ⟨q.1, q.2.1, va_K.moved (u := U) (U := U.calling g mk a) (Vm.Alike.refl U.vm) q.2.2⟩, fun U hU hW => ⟨rfl, by rw [hU], va_K.moved hW.alike hK⟩⟩ rfl rfl hl.1 rfl (lv_room (Nat.le_of_ble_eq_true rfl)) dL_law_14 ⟨Nat.le_of_ble_eq_true rfl, Nat.le_of_ble_eq_true rfl⟩) hS (fun q _ h => Nat.le_trans hS.1 h) (fun q h => Nat.le_trans hS.1 h) (fun z u t H3 locs ht hvm hz hB hz1 hk1 hS => ?_)
  refine W.widen (k := 33) (n := 57745) (Nat.le_of_ble_eq_true rfl) (Nat.le_of_ble_eq_true rfl) ?_
  refine gw_int (y := nI 1) hz ?_
  refine gw_z_eq (tgt := 31) hx hb dL_law_17 (by decide) (by decide) (fun h => absurd h (by decide)) (fun _ => ?_)
  refine lv_aload_n hx hb dL_law_20 rfl (lv_at hl 0 rfl) ?_
  refine va_calli (va_runS (As := [.ref b]) (rest := []) C1 (gw_askedEmpty l D b L H3.size xs hL) (va_cwS 1 hts (lw_S q183 q184 q4 q185) rfl rfl rfl (by decide +kernel) ⟨Nat.le_of_ble_eq_true rfl, Nat.le_of_ble_eq_true rfl⟩) ⟨fun a U g mk q => ⟨q.1, q.2.1, gw_UXbl a U g mk q.2.2.1, va_K.moved (u := U) (U := U.calling g mk a) (Vm.Alike.refl U.vm) q.2.2.2⟩, fun U hU hW => ⟨rfl, by rw [hU], gw_UXmk hX hbl hbA hS U hU hW.alike, va_K.moved hW.alike hK⟩⟩ rfl rfl hl.1 rfl (lv_room (Nat.le_of_ble_eq_true rfl)) dL_law_21 ⟨Nat.le_of_ble_eq_true rfl, Nat.le_of_ble_eq_true rfl⟩) hS (fun q _ h => Nat.le_trans hS.1 h) (fun q h => Nat.le_trans hS.1 h) (fun z u t H4 locs ht hvm hz hB hz1 hk1 hS => ?_)
  refine W.widen (k := 35) (n := 61843) (Nat.le_of_ble_eq_true rfl) (Nat.le_of_ble_eq_true rfl) ?_
  refine gw_int (y := nI 1) hz ?_
  refine gw_z_eq (tgt := 31) hx hb dL_law_24 (by decide) (by decide) (fun h => absurd h (by decide)) (fun _ => ?_)
  refine lv_iconst (v := 1) hx hb dL_law_27 (by decide) ?_
  refine lv_goto (tgt := 32) hx hb dL_law_28 (by decide) ?_
  refine va_forget (fun q hq => hS.2.2 q hq) ?_
  refine W.widen (k := 1200080) (n := 5501530) (Nat.le_of_ble_eq_true rfl) (Nat.le_of_ble_eq_true rfl) ?_
  exact lw_ret hx hb hr hlocks dL_law_32
-- ===== YOUR PART ENDS =====
set_option maxHeartbeats 4000000 in
theorem lw_walk (l : Launch) (hflags : l.flags = flags0) (b : Addr) (xs : List Int32) : MetFree l x (headSpec (Jvm.Cond.code x code maxLocals ret :: tables_1) room_1) (lw_P b xs) (fun _ _ _ _ _ => True) lw_Q := by
  refine MetFree.of_bodyS (code := code) (maxLocals := maxLocals) (ret := ret) (by decide) ?_ ?_
  · intro args s m h hn
    obtain ⟨meth, c, h1, h2, h3, h4, h5, h6, -, -⟩ := Cond.code_spec hn (atoms_spec (ws := Jvm.Cond.code x code maxLocals ret :: tables_1) h _ List.mem_cons_self)
    exact ⟨meth, c, h1, h2, h3, h4, h5, h6⟩
  · intro p e s m args below meth c s₁ B hml0 hP _
    obtain ⟨rfl, hx, hbd, hgv⟩ := hP
    obtain ⟨scr, harrAt, hlist, hof, hsmall⟩ := hx
    obtain ⟨hcb, hkn, -, -⟩ := State.arrayAt?_spec harrAt
    have hown : s.vm.findClass R_law = some m.cls := findClass_of_methodNamed B.named
    have hts0 : ∀ c ∈ (Jvm.Cond.code x code maxLocals ret :: tables_1), c.before #[Value.ref b] s = true := atoms_spec (ws := Jvm.Cond.code x code maxLocals ret :: tables_1) B.pre
    have hts : ∀ w ∈ lw_tbl, w.before #[Value.ref b] s = true := k2_hts_sels lw_privs (fun w hw => hts0 w (List.mem_cons_of_mem _ hw)) lw_privs_ok
    have hml : c.maxLocals = 1 := B.maxLocals_eq (hts0 _ List.mem_cons_self)
    have X₀ : Stand p l e room_1 s m #[Value.ref b] below meth c s₁ [] 0 0 := Stand.of_body B
    have hh0 : s₁.heap = s.heap := by rw [B.state]; rfl
    have hsz : scr.slots.size = xs.length := by rw [← Array.length_toList, hlist, List.length_map]
    have hval : ∀ j : Nat, j < xs.length → scr.slots[j]? = some (.int (xs.getD j 0)) := fun j hj => by
      rw [← Array.getElem?_toList, hlist]
      simp [hj]
    have hbl : b < s.heap.size := (Array.getElem?_eq_some_iff.mp hcb).1
    have hX : va_X b xs.length (fun j => xs.getD j 0) s s.heap := ⟨scr, hcb, hof, hkn, hsz, hval⟩
    have K : W p l e room_1 s m #[Value.ref b] below meth c s₁.heap [] 0 0 (lw_Z below #[Value.ref b] s) (entryFrame m ([Value.ref b] : List Value).toArray 1) := by
      rw [hh0]
      exact whole_start l hflags hbd ⟨B.exec, B.bytes, B.returns, hml, hown, hts, hX, hbl, B.notSynchronized, hgv⟩
    obtain ⟨t, a1, o, b1, b2, b3⟩ := K s₁ rfl X₀
    exact ⟨t, o, a1, b1, b2, b3⟩
theorem lw_pre_spec {args : Array Value} {s : State} (h : (Jvm.Cond.and given_1 narrow_1).before args s = true) (hr : rest_1_c.before args s = true) : ∃ (b : Addr) (xs : List Int32), lw_P b xs args s := by
  have hs := flat_of_before _ h
  have hq := flat_of_before _ hr
  have hc : (Cond.count 1).before args s = true := hs _ (by decide +kernel)
  have harr : (Cond.arrayOf (.arg 0) .int).before args s = true := hs _ (by decide +kernel)
  have hle : (Cond.le (.length (.arg 0)) (.int 40)).before args s = true := hs _ (by decide +kernel)
  have hlen : (Cond.isInt (.length (.arg 0))).before args s = true := hq _ (by decide +kernel)
  have hall : (Cond.all (.arg 0) (.isInt (.elem (.arg 0) (.index 0)))).before args s = true := hq _ (by decide +kernel)
  obtain ⟨b, xs, hb, hx⟩ := State.ints_of_pre rfl harr hlen hall
  have hsm : xs.length < 2 ^ 31 := hx.choose_spec.2.2.2
  have hev : (Term.length (.arg 0)).eval args s none [] s = some (.int xs.length.toInt32) := hx.length_eval hb
  have hv := Cond.le_ints hev (show (Term.int 40).eval args s none [] s = some (.int 40) from rfl)
  have hd : xs.length.toInt32 ≤ 40 := by
    simpa [Cond.before, Cond.holds, hv] using hle
  have hN : xs.length ≤ 40 := (Int32.ofNat_le_ofNat hsm (by decide)).mp (show Int32.ofNat xs.length ≤ Int32.ofNat 40 from hd)
  exact ⟨b, xs, Cond.one_arg hc (show args[0]? = some (.ref b) from hb), hx, hN, h⟩
theorem lw_comes (l : Launch) (hflags : l.flags = flags0) : Comes l x (Jvm.Cond.code x code maxLocals ret :: tables_1) room_1 (fun tb e args s => Calls_1 tb e args s ∧ rest_1 tb e args s ∧ Pre_1 tb e args s)
    (fun _ _ args s o t => lw_Q args s o t) := by
  intro p e ha hc hk s m args below hf hfit hheap happ hpre
  obtain ⟨b, xs, hP⟩ := lw_pre_spec hpre.2.2 hpre.2.1
  obtain ⟨k, o, h1, h2, h3, hQ⟩ := lw_walk l hflags b xs p e ha hc hk s m args below hf ((Spec.applies_iff_loose hf).mp happ).1 hP trivial
  exact ⟨k, o, h1, h2, h3, hQ⟩
theorem lw_frame {s t : State} {o : Outcome} {args : Array Value} (h : Framed s o t [] 1200080 5501530) :
    Framed s o t (fieldLocs frame_1_writes args s ++ arrayLocs frame_1_arrays args s ++ staticLocs frame_1_statics s) 1200080 5501530 := h
theorem lw_limb (L : Cond) (hL : ∀ (args : Array Value) (s t : State), L.after args s (.returned (some (.int 1))) t = true) :
    ArmFor flags0 classFile x code maxLocals ret World_1 tables_1 room_1 Calls_1 rest_1 Pre_1
      (fun tb e a s o t => postC L tb e a s o t ∧ Framed s o t (fieldLocs frame_1_writes a s ++ arrayLocs frame_1_arrays a s ++ staticLocs frame_1_statics s) 1200080 5501530) := by
  intro l hflags _ _ p e ha hc hk s m args below hf hfit hheap happ hpre
  obtain ⟨k, o, h1, h2, h3, rfl, hF⟩ := lw_comes l hflags p e ha hc hk s m args below hf hfit hheap happ hpre
  exact ⟨k, _, h1, h2, h3, hL args s _, lw_frame hF⟩
theorem i_vc : Claimed_1_1 ∧ Claimed_1_2 := ⟨lw_limb limb_1_1 (fun args s t => by simp [limb_1_1, Cond.after, Cond.holds, Cond.value]), lw_limb limb_1_2 (fun args s t => Cond.after_iff.mpr (by
  first | (rw [show limb_1_2 = Cond.eq .result (.int 1) from rfl, Cond.eq_ints (x := 1) (y := 1) rfl rfl]; simp; done) | (simp [limb_1_2, Cond.value, Term.eval]; done)))⟩
end
